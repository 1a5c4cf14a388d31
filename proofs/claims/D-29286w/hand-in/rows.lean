section
-- ===== PART A: goes FIRST, ahead of the names: the tables' words, and 'selects' of the private methods out of them =====
/-- a private method of a class that the tables say can be made, by its rows of tables_1 -/
def lw_okq (q : MethodName × Nat) : Prop := (q.1.cls ≠ "java/lang/invoke/MethodHandle" ∧ q.1.cls ≠ "java/lang/invoke/VarHandle") ∧ Cond.instantiable q.1.cls q.2 ∈ tables_1 ∧ Cond.privateMethod q.1 ∈ tables_1 ∧ Cond.instanceMethod q.1 ∈ tables_1
set_option maxRecDepth 100000
theorem lw_t1 {w : Cond} (h : w ∈ tables_1_1) : w ∈ tables_1 := List.mem_append_left _ h
theorem lw_t2 {w : Cond} (h : w ∈ tables_1_2) : w ∈ tables_1 := List.mem_append_right _ h
theorem lw_p0 : lw_okq (⟨"java/lang/Throwable", "fillInStackTrace", "(I)Ljava/lang/Throwable;"⟩, 6) := ⟨⟨by decide +kernel, by decide +kernel⟩, lw_t1 (List.mem_of_getElem? (i := 141) rfl), lw_t1 (List.mem_of_getElem? (i := 139) rfl), lw_t1 (List.mem_of_getElem? (i := 140) rfl)⟩
def lw_privs_1 : List (MethodName × Nat) := [(⟨"java/lang/Throwable", "fillInStackTrace", "(I)Ljava/lang/Throwable;"⟩, 6)]
theorem lw_r1 : ∀ q ∈ lw_privs_1, lw_okq q := List.forall_mem_cons.mpr ⟨lw_p0, fun _ h => absurd h List.not_mem_nil⟩
def lw_privs : List (MethodName × Nat) := lw_privs_1
def lw_tbl : List Cond := k2_sels lw_privs ++ tables_1
theorem lw_privs_ok : ∀ q ∈ lw_privs, lw_okq q := lw_r1
-- ===== ONE list of words for every method: the tables' words that hold all through a run =====
def lw_all : List Cond := lw_tbl.filter goodWord
/-- a word of the tables by its place: claim/WORDS.tsv -/
theorem lw_w {w : Cond} (i : Nat) (h : lw_tbl[i]? = some w) (g : goodWord w = true) : w ∈ lw_all := List.mem_filter.mpr ⟨List.mem_of_getElem? h, g⟩
theorem lw_all_tbl {w : Cond} (h : w ∈ lw_all) : w ∈ lw_tbl := (List.mem_filter.mp h).1
theorem lw_self : GoodIn lw_all lw_all := fun w h => ⟨h, good_of_word (List.mem_filter.mp h).2⟩
/-- a class's field words, by their places -/
theorem lw_in (ws : List Cond) (ps : List Nat) (hp : ws = ps.filterMap (fun i => lw_tbl[i]?)) (hg : ws.all goodWord = true) : ∀ w ∈ ws, w ∈ lw_all := by
  intro w h
  have h1 := List.all_eq_true.mp hg w h
  rw [hp] at h
  obtain ⟨i, -, hi⟩ := List.mem_filterMap.mp h
  exact lw_w i hi h1
/-- the words of a contract for the method y with code b, L locals, answer r -/
abbrev ws_ (y : MethodName) (b : ByteArray) (L : Nat) (r : Option FieldType) : List Cond := Cond.code y b L r :: lw_all
theorem lw_meth {y : MethodName} {b : ByteArray} {L : Nat} {r : Option FieldType} (h : Cond.code y b L r ∈ lw_all) : GoodIn lw_all (ws_ y b L r) := by
  intro w hw
  rcases List.mem_cons.mp hw with e | e
  · rw [e]
    exact lw_self _ h
  · exact lw_self _ e
theorem lw_app {a c : List Cond} (ha : ∀ w ∈ a, w ∈ lw_all) (hc : GoodIn lw_all c) : GoodIn lw_all (a ++ c) := by
  intro w hw
  rcases List.mem_append.mp hw with e | e
  · exact lw_self w (ha w e)
  · exact hc w e
/-- what a call through an object asks: cwV n hts (lw_V ..) -/
theorem lw_V {own : String} {idx : Nat} {C : String} {y : MethodName} {b : ByteArray} {L : Nat} {r : Option FieldType} (h1 : Cond.methodLink own idx y ∈ lw_all) (h2 : Cond.instanceMethod y ∈ lw_all) (h3 : Cond.selects C y y ∈ lw_all) (h4 : Cond.initialized C ∈ lw_all) (h5 : Cond.code y b L r ∈ lw_all) : GoodIn lw_all (wsV own idx C y (ws_ y b L r)) := by
  refine lw_app ?_ (lw_meth h5)
  intro w hw
  simp only [List.mem_cons, List.not_mem_nil, or_false] at hw
  rcases hw with e | e | e | e
  · rw [e]; exact h1
  · rw [e]; exact h2
  · rw [e]; exact h3
  · rw [e]; exact h4
/-- what a static call asks: va_cwS n hts (lw_S ..) -/
theorem lw_S {own : String} {idx : Nat} {y : MethodName} {b : ByteArray} {L : Nat} {r : Option FieldType} (h1 : Cond.methodLink own idx y ∈ lw_all) (h2 : Cond.static y ∈ lw_all) (h3 : Cond.initialized y.cls ∈ lw_all) (h4 : Cond.code y b L r ∈ lw_all) : GoodIn lw_all (va_wsS own idx y (ws_ y b L r)) := by
  refine lw_app ?_ (lw_meth h4)
  intro w hw
  simp only [List.mem_cons, List.not_mem_nil, or_false] at hw
  rcases hw with e | e | e
  · rw [e]; exact h1
  · rw [e]; exact h2
  · rw [e]; exact h3
/-- the words of a contract for a method WITH HANDLERS (hh: its table) -/
abbrev wsW_ (y : MethodName) (b : ByteArray) (L : Nat) (r : Option FieldType) (hh : List (Nat × Nat × Nat × Nat)) : List Cond := Cond.codeWith y b L r hh :: lw_all
theorem lw_methW {y : MethodName} {b : ByteArray} {L : Nat} {r : Option FieldType} {hh : List (Nat × Nat × Nat × Nat)} (h : Cond.codeWith y b L r hh ∈ lw_all) : GoodIn lw_all (wsW_ y b L r hh) := by
  intro w hw
  rcases List.mem_cons.mp hw with e | e
  · rw [e]
    exact lw_self _ h
  · exact lw_self _ e
/-- any list of words by their places (lw_in), good -/
theorem lw_good {ws : List Cond} (h : ∀ w ∈ ws, w ∈ lw_all) : GoodIn lw_all ws := fun w hw => lw_self w (h w hw)
/-- what a call of a method with handlers asks: vx_cwVW n hts (lw_VW ..), vx_cwSW n hts (lw_SW ..) -/
theorem lw_VW {own : String} {idx : Nat} {C : String} {y : MethodName} {b : ByteArray} {L : Nat} {r : Option FieldType} {hh : List (Nat × Nat × Nat × Nat)} (h1 : Cond.methodLink own idx y ∈ lw_all) (h2 : Cond.instanceMethod y ∈ lw_all) (h3 : Cond.selects C y y ∈ lw_all) (h4 : Cond.initialized C ∈ lw_all) (h5 : Cond.codeWith y b L r hh ∈ lw_all) : GoodIn lw_all (wsV own idx C y (wsW_ y b L r hh)) := by
  refine lw_app ?_ (lw_methW h5)
  intro w hw
  simp only [List.mem_cons, List.not_mem_nil, or_false] at hw
  rcases hw with e | e | e | e
  · rw [e]; exact h1
  · rw [e]; exact h2
  · rw [e]; exact h3
  · rw [e]; exact h4
theorem lw_SW {own : String} {idx : Nat} {y : MethodName} {b : ByteArray} {L : Nat} {r : Option FieldType} {hh : List (Nat × Nat × Nat × Nat)} (h1 : Cond.methodLink own idx y ∈ lw_all) (h2 : Cond.static y ∈ lw_all) (h3 : Cond.initialized y.cls ∈ lw_all) (h4 : Cond.codeWith y b L r hh ∈ lw_all) : GoodIn lw_all (va_wsS own idx y (wsW_ y b L r hh)) := by
  refine lw_app ?_ (lw_methW h4)
  intro w hw
  simp only [List.mem_cons, List.not_mem_nil, or_false] at hw
  rcases hw with e | e | e
  · rw [e]; exact h1
  · rw [e]; exact h2
  · rw [e]; exact h3
/-- a word by its place in its run of the tables -/
theorem lw_at {r : List Cond} (hr : ∀ w ∈ r, w ∈ lw_tbl) {w : Cond} (i : Nat) (h : r[i]? = some w) : w ∈ lw_tbl := hr w (List.mem_of_getElem? h)
theorem lw_g {w : Cond} (h : w ∈ lw_tbl) (g : goodWord w = true) : w ∈ lw_all := List.mem_filter.mpr ⟨h, g⟩
theorem lw_ms : ∀ w ∈ k2_sels lw_privs, w ∈ lw_tbl := fun w h => show w ∈ k2_sels lw_privs ++ tables_1 from List.mem_append_left _ h
theorem lw_m1 : ∀ w ∈ tables_1_1, w ∈ lw_tbl := fun w h => show w ∈ k2_sels lw_privs ++ tables_1 from List.mem_append_right (k2_sels lw_privs) (show w ∈ tables_1 from List.mem_append_left _ h)
theorem lw_m2 : ∀ w ∈ tables_1_2, w ∈ lw_tbl := fun w h => show w ∈ k2_sels lw_privs ++ tables_1 from List.mem_append_right (k2_sels lw_privs) (show w ∈ tables_1 from List.mem_append_right _ h)
theorem qs0 : (Cond.selects "java/lang/Throwable" ⟨"java/lang/Throwable", "fillInStackTrace", "(I)Ljava/lang/Throwable;"⟩ ⟨"java/lang/Throwable", "fillInStackTrace", "(I)Ljava/lang/Throwable;"⟩) ∈ lw_all := lw_g (lw_at lw_ms 0 rfl) rfl
-- ===== end of PART A; then your names; then what follows =====
/-! DECODE ROWS BY BYTES: one lemma an opcode; a method's code is cut into short pieces once, and a row reads its own piece alone. -/
set_option maxRecDepth 100000
/-- the code has just these bytes from pc on -/
def DkAt (code : ByteArray) (pc : Nat) (bs : List UInt8) : Prop := ∀ (j : Nat) (b : UInt8), bs[j]? = some b → code.data.toList[pc + j]? = some b
/-- the piece W has the bytes bs from its place j on -/
def dkIn (W : List UInt8) (j : Nat) (bs : List UInt8) : Bool := decide ((W.drop j).take bs.length = bs)
theorem dk_seg {l W T : List UInt8} {o o2 : Nat} (h : l.drop o = W ++ T) (n : Nat) (hn : W.length = n) (ho : o + n = o2) : l.drop o2 = T := by
  subst ho
  rw [← List.drop_drop, h, List.drop_left' hn]
theorem dk_at {code : ByteArray} {W T bs : List UInt8} {o pc : Nat} (h : code.data.toList.drop o = W ++ T) (j : Nat) (hp : o + j = pc) (hw : dkIn W j bs = true) : DkAt code pc bs := by
  subst hp
  intro i b e
  have h1 := of_decide_eq_true hw
  have h2 : i < bs.length := (List.getElem?_eq_some_iff.mp e).1
  have h3 : W[j + i]? = some b := by
    rw [← h1, List.getElem?_take, if_pos h2, List.getElem?_drop] at e
    exact e
  have h4 : j + i < W.length := (List.getElem?_eq_some_iff.mp h3).1
  have h5 : (code.data.toList.drop o)[j + i]? = some b := by
    rw [h, List.getElem?_append_left h4]
    exact h3
  rw [List.getElem?_drop, ← Nat.add_assoc] at h5
  exact h5
theorem dk_u1 {A : ByteArray} {p : Nat} {b : UInt8} (h : A.data.toList[p]? = some b) : (Reader.u1 : Reader DecodeError Nat) A p = .ok (b.toNat, p + 1) := by
  obtain ⟨h1, h2⟩ := List.getElem?_eq_some_iff.mp h
  have h3 : p < A.size := by simpa using h1
  have h4 : A[p]'h3 = b := h2
  have e : (Reader.u1 : Reader DecodeError Nat) A p = (if h : p < A.size then .ok (A[p].toNat, p + 1) else .error (HasTruncated.truncated p)) := by
    show (do if h : p < A.size then do set (p + 1); Pure.pure A[p].toNat else MonadExcept.throw (HasTruncated.truncated p) : Reader DecodeError Nat) A p = _
    by_cases hi : p < A.size
    · rw [dif_pos hi, dif_pos hi]; rfl
    · rw [dif_neg hi, dif_neg hi]; rfl
  rw [e, dif_pos h3, h4]
theorem dk_bind {α β : Type} {r : Reader DecodeError α} {f : α → Reader DecodeError β} {A : ByteArray} {p s : Nat} {a : α} (h : r A p = .ok (a, s)) : (r >>= f) A p = f a A s := by
  show (do let (a, s) ← r A p; f a A s : Except DecodeError (β × Nat)) = _
  rw [h]
  rfl
theorem dk_map {α β : Type} {r : Reader DecodeError α} {g : α → β} {A : ByteArray} {p s : Nat} {a : α} (h : r A p = .ok (a, s)) : (g <$> r) A p = .ok (g a, s) := by
  show (do let (a, s) ← r A p; .ok (g a, s) : Except DecodeError (β × Nat)) = _
  rw [h]
  rfl
theorem dk_u2 {A : ByteArray} {p : Nat} {a b : UInt8} (h : A.data.toList[p]? = some a) (h2 : A.data.toList[p + 1]? = some b) : (Reader.u2 : Reader DecodeError Nat) A p = .ok (a.toNat * 256 + b.toNat, p + 2) := by
  show (Reader.u1 >>= fun hi => Reader.u1 >>= fun lo => Pure.pure (hi * 256 + lo) : Reader DecodeError Nat) A p = _
  rw [dk_bind (dk_u1 h), dk_bind (dk_u1 h2)]
  rfl
theorem dk_of {code : ByteArray} {pc n : Nat} {i : Instr} (h : Decoder.instr pc code pc = .ok (i, pc + n)) : decode code pc = .ok (i, n) := by
  have e : decode code pc = (match Decoder.instr pc code pc with | .error x => .error x | .ok (j, s) => .ok (j, s - pc)) := by
    show (do let (j, s) ← Decoder.instr pc code pc; Pure.pure (j, s - pc) : Except DecodeError (Instr × Nat)) = _
    cases Decoder.instr pc code pc <;> rfl
  rw [e, h]
  show Except.ok (i, pc + n - pc) = _
  rw [Nat.add_sub_cancel_left]
theorem dk_1 {code : ByteArray} {pc : Nat} (h : DkAt code pc [1]) : decode code pc = .ok (.aconst_null, 1) := dk_of ((dk_bind (dk_u1 (h 0 _ rfl))).trans rfl)
theorem dk_2 {code : ByteArray} {pc : Nat} (h : DkAt code pc [2]) : decode code pc = .ok (.iconst (-1), 1) := dk_of ((dk_bind (dk_u1 (h 0 _ rfl))).trans rfl)
theorem dk_3 {code : ByteArray} {pc : Nat} (h : DkAt code pc [3]) : decode code pc = .ok (.iconst 0, 1) := dk_of ((dk_bind (dk_u1 (h 0 _ rfl))).trans rfl)
theorem dk_4 {code : ByteArray} {pc : Nat} (h : DkAt code pc [4]) : decode code pc = .ok (.iconst 1, 1) := dk_of ((dk_bind (dk_u1 (h 0 _ rfl))).trans rfl)
theorem dk_5 {code : ByteArray} {pc : Nat} (h : DkAt code pc [5]) : decode code pc = .ok (.iconst 2, 1) := dk_of ((dk_bind (dk_u1 (h 0 _ rfl))).trans rfl)
theorem dk_6 {code : ByteArray} {pc : Nat} (h : DkAt code pc [6]) : decode code pc = .ok (.iconst 3, 1) := dk_of ((dk_bind (dk_u1 (h 0 _ rfl))).trans rfl)
theorem dk_7 {code : ByteArray} {pc : Nat} (h : DkAt code pc [7]) : decode code pc = .ok (.iconst 4, 1) := dk_of ((dk_bind (dk_u1 (h 0 _ rfl))).trans rfl)
theorem dk_8 {code : ByteArray} {pc : Nat} (h : DkAt code pc [8]) : decode code pc = .ok (.iconst 5, 1) := dk_of ((dk_bind (dk_u1 (h 0 _ rfl))).trans rfl)
theorem dk_16 {code : ByteArray} {pc : Nat} (a : UInt8) (h : DkAt code pc [16, a]) : decode code pc = .ok (.bipush (Reader.signed 8 a.toNat), 2) := dk_of ((dk_bind (dk_u1 (h 0 _ rfl))).trans ((dk_bind (dk_map (dk_u1 (h 1 _ rfl)))).trans rfl))
theorem dk_17 {code : ByteArray} {pc : Nat} (a b : UInt8) (h : DkAt code pc [17, a, b]) : decode code pc = .ok (.sipush (Reader.signed 16 (a.toNat * 256 + b.toNat)), 3) := dk_of ((dk_bind (dk_u1 (h 0 _ rfl))).trans ((dk_bind (dk_map (dk_u2 (h 1 _ rfl) (h 2 _ rfl)))).trans rfl))
theorem dk_18 {code : ByteArray} {pc : Nat} (a : UInt8) (h : DkAt code pc [18, a]) : decode code pc = .ok (.ldc a.toNat, 2) := dk_of ((dk_bind (dk_u1 (h 0 _ rfl))).trans ((dk_bind (dk_u1 (h 1 _ rfl))).trans rfl))
theorem dk_19 {code : ByteArray} {pc : Nat} (a b : UInt8) (h : DkAt code pc [19, a, b]) : decode code pc = .ok (.ldc_w (a.toNat * 256 + b.toNat), 3) := dk_of ((dk_bind (dk_u1 (h 0 _ rfl))).trans ((dk_bind (dk_u2 (h 1 _ rfl) (h 2 _ rfl))).trans rfl))
theorem dk_21 {code : ByteArray} {pc : Nat} (a : UInt8) (h : DkAt code pc [21, a]) : decode code pc = .ok (.iload a.toNat, 2) := dk_of ((dk_bind (dk_u1 (h 0 _ rfl))).trans ((dk_bind (dk_u1 (h 1 _ rfl))).trans rfl))
theorem dk_25 {code : ByteArray} {pc : Nat} (a : UInt8) (h : DkAt code pc [25, a]) : decode code pc = .ok (.aload a.toNat, 2) := dk_of ((dk_bind (dk_u1 (h 0 _ rfl))).trans ((dk_bind (dk_u1 (h 1 _ rfl))).trans rfl))
theorem dk_26 {code : ByteArray} {pc : Nat} (h : DkAt code pc [26]) : decode code pc = .ok (.iload_n 0, 1) := dk_of ((dk_bind (dk_u1 (h 0 _ rfl))).trans rfl)
theorem dk_27 {code : ByteArray} {pc : Nat} (h : DkAt code pc [27]) : decode code pc = .ok (.iload_n 1, 1) := dk_of ((dk_bind (dk_u1 (h 0 _ rfl))).trans rfl)
theorem dk_28 {code : ByteArray} {pc : Nat} (h : DkAt code pc [28]) : decode code pc = .ok (.iload_n 2, 1) := dk_of ((dk_bind (dk_u1 (h 0 _ rfl))).trans rfl)
theorem dk_29 {code : ByteArray} {pc : Nat} (h : DkAt code pc [29]) : decode code pc = .ok (.iload_n 3, 1) := dk_of ((dk_bind (dk_u1 (h 0 _ rfl))).trans rfl)
theorem dk_42 {code : ByteArray} {pc : Nat} (h : DkAt code pc [42]) : decode code pc = .ok (.aload_n 0, 1) := dk_of ((dk_bind (dk_u1 (h 0 _ rfl))).trans rfl)
theorem dk_43 {code : ByteArray} {pc : Nat} (h : DkAt code pc [43]) : decode code pc = .ok (.aload_n 1, 1) := dk_of ((dk_bind (dk_u1 (h 0 _ rfl))).trans rfl)
theorem dk_44 {code : ByteArray} {pc : Nat} (h : DkAt code pc [44]) : decode code pc = .ok (.aload_n 2, 1) := dk_of ((dk_bind (dk_u1 (h 0 _ rfl))).trans rfl)
theorem dk_45 {code : ByteArray} {pc : Nat} (h : DkAt code pc [45]) : decode code pc = .ok (.aload_n 3, 1) := dk_of ((dk_bind (dk_u1 (h 0 _ rfl))).trans rfl)
theorem dk_46 {code : ByteArray} {pc : Nat} (h : DkAt code pc [46]) : decode code pc = .ok (.iaload, 1) := dk_of ((dk_bind (dk_u1 (h 0 _ rfl))).trans rfl)
theorem dk_50 {code : ByteArray} {pc : Nat} (h : DkAt code pc [50]) : decode code pc = .ok (.aaload, 1) := dk_of ((dk_bind (dk_u1 (h 0 _ rfl))).trans rfl)
theorem dk_51 {code : ByteArray} {pc : Nat} (h : DkAt code pc [51]) : decode code pc = .ok (.baload, 1) := dk_of ((dk_bind (dk_u1 (h 0 _ rfl))).trans rfl)
theorem dk_54 {code : ByteArray} {pc : Nat} (a : UInt8) (h : DkAt code pc [54, a]) : decode code pc = .ok (.istore a.toNat, 2) := dk_of ((dk_bind (dk_u1 (h 0 _ rfl))).trans ((dk_bind (dk_u1 (h 1 _ rfl))).trans rfl))
theorem dk_58 {code : ByteArray} {pc : Nat} (a : UInt8) (h : DkAt code pc [58, a]) : decode code pc = .ok (.astore a.toNat, 2) := dk_of ((dk_bind (dk_u1 (h 0 _ rfl))).trans ((dk_bind (dk_u1 (h 1 _ rfl))).trans rfl))
theorem dk_59 {code : ByteArray} {pc : Nat} (h : DkAt code pc [59]) : decode code pc = .ok (.istore_n 0, 1) := dk_of ((dk_bind (dk_u1 (h 0 _ rfl))).trans rfl)
theorem dk_60 {code : ByteArray} {pc : Nat} (h : DkAt code pc [60]) : decode code pc = .ok (.istore_n 1, 1) := dk_of ((dk_bind (dk_u1 (h 0 _ rfl))).trans rfl)
theorem dk_61 {code : ByteArray} {pc : Nat} (h : DkAt code pc [61]) : decode code pc = .ok (.istore_n 2, 1) := dk_of ((dk_bind (dk_u1 (h 0 _ rfl))).trans rfl)
theorem dk_62 {code : ByteArray} {pc : Nat} (h : DkAt code pc [62]) : decode code pc = .ok (.istore_n 3, 1) := dk_of ((dk_bind (dk_u1 (h 0 _ rfl))).trans rfl)
theorem dk_76 {code : ByteArray} {pc : Nat} (h : DkAt code pc [76]) : decode code pc = .ok (.astore_n 1, 1) := dk_of ((dk_bind (dk_u1 (h 0 _ rfl))).trans rfl)
theorem dk_77 {code : ByteArray} {pc : Nat} (h : DkAt code pc [77]) : decode code pc = .ok (.astore_n 2, 1) := dk_of ((dk_bind (dk_u1 (h 0 _ rfl))).trans rfl)
theorem dk_78 {code : ByteArray} {pc : Nat} (h : DkAt code pc [78]) : decode code pc = .ok (.astore_n 3, 1) := dk_of ((dk_bind (dk_u1 (h 0 _ rfl))).trans rfl)
theorem dk_79 {code : ByteArray} {pc : Nat} (h : DkAt code pc [79]) : decode code pc = .ok (.iastore, 1) := dk_of ((dk_bind (dk_u1 (h 0 _ rfl))).trans rfl)
theorem dk_83 {code : ByteArray} {pc : Nat} (h : DkAt code pc [83]) : decode code pc = .ok (.aastore, 1) := dk_of ((dk_bind (dk_u1 (h 0 _ rfl))).trans rfl)
theorem dk_84 {code : ByteArray} {pc : Nat} (h : DkAt code pc [84]) : decode code pc = .ok (.bastore, 1) := dk_of ((dk_bind (dk_u1 (h 0 _ rfl))).trans rfl)
theorem dk_87 {code : ByteArray} {pc : Nat} (h : DkAt code pc [87]) : decode code pc = .ok (.pop, 1) := dk_of ((dk_bind (dk_u1 (h 0 _ rfl))).trans rfl)
theorem dk_89 {code : ByteArray} {pc : Nat} (h : DkAt code pc [89]) : decode code pc = .ok (.dup, 1) := dk_of ((dk_bind (dk_u1 (h 0 _ rfl))).trans rfl)
theorem dk_96 {code : ByteArray} {pc : Nat} (h : DkAt code pc [96]) : decode code pc = .ok (.iadd, 1) := dk_of ((dk_bind (dk_u1 (h 0 _ rfl))).trans rfl)
theorem dk_100 {code : ByteArray} {pc : Nat} (h : DkAt code pc [100]) : decode code pc = .ok (.isub, 1) := dk_of ((dk_bind (dk_u1 (h 0 _ rfl))).trans rfl)
theorem dk_104 {code : ByteArray} {pc : Nat} (h : DkAt code pc [104]) : decode code pc = .ok (.imul, 1) := dk_of ((dk_bind (dk_u1 (h 0 _ rfl))).trans rfl)
theorem dk_108 {code : ByteArray} {pc : Nat} (h : DkAt code pc [108]) : decode code pc = .ok (.idiv, 1) := dk_of ((dk_bind (dk_u1 (h 0 _ rfl))).trans rfl)
theorem dk_112 {code : ByteArray} {pc : Nat} (h : DkAt code pc [112]) : decode code pc = .ok (.irem, 1) := dk_of ((dk_bind (dk_u1 (h 0 _ rfl))).trans rfl)
theorem dk_116 {code : ByteArray} {pc : Nat} (h : DkAt code pc [116]) : decode code pc = .ok (.ineg, 1) := dk_of ((dk_bind (dk_u1 (h 0 _ rfl))).trans rfl)
theorem dk_120 {code : ByteArray} {pc : Nat} (h : DkAt code pc [120]) : decode code pc = .ok (.ishl, 1) := dk_of ((dk_bind (dk_u1 (h 0 _ rfl))).trans rfl)
theorem dk_122 {code : ByteArray} {pc : Nat} (h : DkAt code pc [122]) : decode code pc = .ok (.ishr, 1) := dk_of ((dk_bind (dk_u1 (h 0 _ rfl))).trans rfl)
theorem dk_124 {code : ByteArray} {pc : Nat} (h : DkAt code pc [124]) : decode code pc = .ok (.iushr, 1) := dk_of ((dk_bind (dk_u1 (h 0 _ rfl))).trans rfl)
theorem dk_126 {code : ByteArray} {pc : Nat} (h : DkAt code pc [126]) : decode code pc = .ok (.iand, 1) := dk_of ((dk_bind (dk_u1 (h 0 _ rfl))).trans rfl)
theorem dk_130 {code : ByteArray} {pc : Nat} (h : DkAt code pc [130]) : decode code pc = .ok (.ixor, 1) := dk_of ((dk_bind (dk_u1 (h 0 _ rfl))).trans rfl)
theorem dk_132 {code : ByteArray} {pc : Nat} (a b : UInt8) (h : DkAt code pc [132, a, b]) : decode code pc = .ok (.iinc a.toNat (Reader.signed 8 b.toNat), 3) := dk_of ((dk_bind (dk_u1 (h 0 _ rfl))).trans ((dk_bind (dk_u1 (h 1 _ rfl))).trans ((dk_bind (dk_map (dk_u1 (h 2 _ rfl)))).trans rfl)))
theorem dk_145 {code : ByteArray} {pc : Nat} (h : DkAt code pc [145]) : decode code pc = .ok (.i2b, 1) := dk_of ((dk_bind (dk_u1 (h 0 _ rfl))).trans rfl)
theorem dk_153 {code : ByteArray} {pc : Nat} (a b : UInt8) (h : DkAt code pc [153, a, b]) : decode code pc = .ok (.ifCond .eq (Reader.signed 16 (a.toNat * 256 + b.toNat)), 3) := dk_of ((dk_bind (dk_u1 (h 0 _ rfl))).trans ((dk_bind (dk_map (dk_u2 (h 1 _ rfl) (h 2 _ rfl)))).trans rfl))
theorem dk_154 {code : ByteArray} {pc : Nat} (a b : UInt8) (h : DkAt code pc [154, a, b]) : decode code pc = .ok (.ifCond .ne (Reader.signed 16 (a.toNat * 256 + b.toNat)), 3) := dk_of ((dk_bind (dk_u1 (h 0 _ rfl))).trans ((dk_bind (dk_map (dk_u2 (h 1 _ rfl) (h 2 _ rfl)))).trans rfl))
theorem dk_155 {code : ByteArray} {pc : Nat} (a b : UInt8) (h : DkAt code pc [155, a, b]) : decode code pc = .ok (.ifCond .lt (Reader.signed 16 (a.toNat * 256 + b.toNat)), 3) := dk_of ((dk_bind (dk_u1 (h 0 _ rfl))).trans ((dk_bind (dk_map (dk_u2 (h 1 _ rfl) (h 2 _ rfl)))).trans rfl))
theorem dk_159 {code : ByteArray} {pc : Nat} (a b : UInt8) (h : DkAt code pc [159, a, b]) : decode code pc = .ok (.if_icmp .eq (Reader.signed 16 (a.toNat * 256 + b.toNat)), 3) := dk_of ((dk_bind (dk_u1 (h 0 _ rfl))).trans ((dk_bind (dk_map (dk_u2 (h 1 _ rfl) (h 2 _ rfl)))).trans rfl))
theorem dk_160 {code : ByteArray} {pc : Nat} (a b : UInt8) (h : DkAt code pc [160, a, b]) : decode code pc = .ok (.if_icmp .ne (Reader.signed 16 (a.toNat * 256 + b.toNat)), 3) := dk_of ((dk_bind (dk_u1 (h 0 _ rfl))).trans ((dk_bind (dk_map (dk_u2 (h 1 _ rfl) (h 2 _ rfl)))).trans rfl))
theorem dk_161 {code : ByteArray} {pc : Nat} (a b : UInt8) (h : DkAt code pc [161, a, b]) : decode code pc = .ok (.if_icmp .lt (Reader.signed 16 (a.toNat * 256 + b.toNat)), 3) := dk_of ((dk_bind (dk_u1 (h 0 _ rfl))).trans ((dk_bind (dk_map (dk_u2 (h 1 _ rfl) (h 2 _ rfl)))).trans rfl))
theorem dk_162 {code : ByteArray} {pc : Nat} (a b : UInt8) (h : DkAt code pc [162, a, b]) : decode code pc = .ok (.if_icmp .ge (Reader.signed 16 (a.toNat * 256 + b.toNat)), 3) := dk_of ((dk_bind (dk_u1 (h 0 _ rfl))).trans ((dk_bind (dk_map (dk_u2 (h 1 _ rfl) (h 2 _ rfl)))).trans rfl))
theorem dk_163 {code : ByteArray} {pc : Nat} (a b : UInt8) (h : DkAt code pc [163, a, b]) : decode code pc = .ok (.if_icmp .gt (Reader.signed 16 (a.toNat * 256 + b.toNat)), 3) := dk_of ((dk_bind (dk_u1 (h 0 _ rfl))).trans ((dk_bind (dk_map (dk_u2 (h 1 _ rfl) (h 2 _ rfl)))).trans rfl))
theorem dk_164 {code : ByteArray} {pc : Nat} (a b : UInt8) (h : DkAt code pc [164, a, b]) : decode code pc = .ok (.if_icmp .le (Reader.signed 16 (a.toNat * 256 + b.toNat)), 3) := dk_of ((dk_bind (dk_u1 (h 0 _ rfl))).trans ((dk_bind (dk_map (dk_u2 (h 1 _ rfl) (h 2 _ rfl)))).trans rfl))
theorem dk_166 {code : ByteArray} {pc : Nat} (a b : UInt8) (h : DkAt code pc [166, a, b]) : decode code pc = .ok (.if_acmp .ne (Reader.signed 16 (a.toNat * 256 + b.toNat)), 3) := dk_of ((dk_bind (dk_u1 (h 0 _ rfl))).trans ((dk_bind (dk_map (dk_u2 (h 1 _ rfl) (h 2 _ rfl)))).trans rfl))
theorem dk_167 {code : ByteArray} {pc : Nat} (a b : UInt8) (h : DkAt code pc [167, a, b]) : decode code pc = .ok (.goto (Reader.signed 16 (a.toNat * 256 + b.toNat)), 3) := dk_of ((dk_bind (dk_u1 (h 0 _ rfl))).trans ((dk_bind (dk_map (dk_u2 (h 1 _ rfl) (h 2 _ rfl)))).trans rfl))
theorem dk_172 {code : ByteArray} {pc : Nat} (h : DkAt code pc [172]) : decode code pc = .ok (.ireturn, 1) := dk_of ((dk_bind (dk_u1 (h 0 _ rfl))).trans rfl)
theorem dk_176 {code : ByteArray} {pc : Nat} (h : DkAt code pc [176]) : decode code pc = .ok (.areturn, 1) := dk_of ((dk_bind (dk_u1 (h 0 _ rfl))).trans rfl)
theorem dk_177 {code : ByteArray} {pc : Nat} (h : DkAt code pc [177]) : decode code pc = .ok (.return_, 1) := dk_of ((dk_bind (dk_u1 (h 0 _ rfl))).trans rfl)
theorem dk_178 {code : ByteArray} {pc : Nat} (a b : UInt8) (h : DkAt code pc [178, a, b]) : decode code pc = .ok (.getstatic (a.toNat * 256 + b.toNat), 3) := dk_of ((dk_bind (dk_u1 (h 0 _ rfl))).trans ((dk_bind (dk_u2 (h 1 _ rfl) (h 2 _ rfl))).trans rfl))
theorem dk_180 {code : ByteArray} {pc : Nat} (a b : UInt8) (h : DkAt code pc [180, a, b]) : decode code pc = .ok (.getfield (a.toNat * 256 + b.toNat), 3) := dk_of ((dk_bind (dk_u1 (h 0 _ rfl))).trans ((dk_bind (dk_u2 (h 1 _ rfl) (h 2 _ rfl))).trans rfl))
theorem dk_181 {code : ByteArray} {pc : Nat} (a b : UInt8) (h : DkAt code pc [181, a, b]) : decode code pc = .ok (.putfield (a.toNat * 256 + b.toNat), 3) := dk_of ((dk_bind (dk_u1 (h 0 _ rfl))).trans ((dk_bind (dk_u2 (h 1 _ rfl) (h 2 _ rfl))).trans rfl))
theorem dk_182 {code : ByteArray} {pc : Nat} (a b : UInt8) (h : DkAt code pc [182, a, b]) : decode code pc = .ok (.invokevirtual (a.toNat * 256 + b.toNat), 3) := dk_of ((dk_bind (dk_u1 (h 0 _ rfl))).trans ((dk_bind (dk_u2 (h 1 _ rfl) (h 2 _ rfl))).trans rfl))
theorem dk_183 {code : ByteArray} {pc : Nat} (a b : UInt8) (h : DkAt code pc [183, a, b]) : decode code pc = .ok (.invokespecial (a.toNat * 256 + b.toNat), 3) := dk_of ((dk_bind (dk_u1 (h 0 _ rfl))).trans ((dk_bind (dk_u2 (h 1 _ rfl) (h 2 _ rfl))).trans rfl))
theorem dk_184 {code : ByteArray} {pc : Nat} (a b : UInt8) (h : DkAt code pc [184, a, b]) : decode code pc = .ok (.invokestatic (a.toNat * 256 + b.toNat), 3) := dk_of ((dk_bind (dk_u1 (h 0 _ rfl))).trans ((dk_bind (dk_u2 (h 1 _ rfl) (h 2 _ rfl))).trans rfl))
theorem dk_187 {code : ByteArray} {pc : Nat} (a b : UInt8) (h : DkAt code pc [187, a, b]) : decode code pc = .ok (.new (a.toNat * 256 + b.toNat), 3) := dk_of ((dk_bind (dk_u1 (h 0 _ rfl))).trans ((dk_bind (dk_u2 (h 1 _ rfl) (h 2 _ rfl))).trans rfl))
theorem dk_188_8 {code : ByteArray} {pc : Nat} (h : DkAt code pc [188, 8]) : decode code pc = .ok (.newarray .byte, 2) := dk_of ((dk_bind (dk_u1 (h 0 _ rfl))).trans ((dk_bind (dk_u1 (h 1 _ rfl))).trans rfl))
theorem dk_188_10 {code : ByteArray} {pc : Nat} (h : DkAt code pc [188, 10]) : decode code pc = .ok (.newarray .int, 2) := dk_of ((dk_bind (dk_u1 (h 0 _ rfl))).trans ((dk_bind (dk_u1 (h 1 _ rfl))).trans rfl))
theorem dk_189 {code : ByteArray} {pc : Nat} (a b : UInt8) (h : DkAt code pc [189, a, b]) : decode code pc = .ok (.anewarray (a.toNat * 256 + b.toNat), 3) := dk_of ((dk_bind (dk_u1 (h 0 _ rfl))).trans ((dk_bind (dk_u2 (h 1 _ rfl) (h 2 _ rfl))).trans rfl))
theorem dk_190 {code : ByteArray} {pc : Nat} (h : DkAt code pc [190]) : decode code pc = .ok (.arraylength, 1) := dk_of ((dk_bind (dk_u1 (h 0 _ rfl))).trans rfl)
theorem dk_191 {code : ByteArray} {pc : Nat} (h : DkAt code pc [191]) : decode code pc = .ok (.athrow, 1) := dk_of ((dk_bind (dk_u1 (h 0 _ rfl))).trans rfl)
theorem dk_192 {code : ByteArray} {pc : Nat} (a b : UInt8) (h : DkAt code pc [192, a, b]) : decode code pc = .ok (.checkcast (a.toNat * 256 + b.toNat), 3) := dk_of ((dk_bind (dk_u1 (h 0 _ rfl))).trans ((dk_bind (dk_u2 (h 1 _ rfl) (h 2 _ rfl))).trans rfl))
/-! ShareDesk -/
set_option maxRecDepth 100000
def RX0 : String := "ShareDesk"
def TX0 : u_T := fun k => match k with
  | 0 => ("ShareDesk", "share", "[[B", true)
  | _ => ("ShareDesk", "out", "[B", false)
def tyX0 : Nat → FieldType := fun k => match k with
  | 0 => .array (.array .byte)
  | _ => .array .byte
abbrev wsX00 : List Cond := u_ws RX0 TX0 2
theorem nmX0 : ∀ a, a < 2 → ∀ b, b < 2 → a ≠ b → (TX0 a).2.1 ≠ (TX0 b).2.1 := by decide +kernel
theorem tyX0_ok : ∀ k, k < 2 → parseFieldDescriptor (TX0 k).2.2.1 = some (tyX0 k) := by decide +kernel
abbrev cX0_init : ByteArray := prog_9_method_1_code
def yX0_init : MethodName := ⟨RX0, "<init>", "()V"⟩
def dkwX0_init_0 : List UInt8 := [42, 183, 0, 1, 42, 16, 8, 16, 16, 197, 0, 7, 2, 181, 0, 9, 42, 3, 188, 8, 181, 0, 14, 177]
abbrev dktX0_init_0 : List UInt8 := dkwX0_init_0 ++ []
theorem dksX0_init_0 : cX0_init.data.toList.drop 0 = dktX0_init_0 := by decide +kernel
theorem dX0_init_0 : decode cX0_init 0 = .ok (.aload_n 0, 1) := dk_42 (dk_at dksX0_init_0 0 rfl rfl)
theorem dX0_init_1 : decode cX0_init 1 = .ok (.invokespecial 1, 3) := dk_183 0 1 (dk_at dksX0_init_0 1 rfl rfl)
theorem dX0_init_4 : decode cX0_init 4 = .ok (.aload_n 0, 1) := dk_42 (dk_at dksX0_init_0 4 rfl rfl)
theorem dX0_init_5 : decode cX0_init 5 = .ok (.bipush 8, 2) := dk_16 8 (dk_at dksX0_init_0 5 rfl rfl)
theorem dX0_init_7 : decode cX0_init 7 = .ok (.bipush 16, 2) := dk_16 16 (dk_at dksX0_init_0 7 rfl rfl)
theorem dX0_init_9 : decode cX0_init 9 = .ok (.multianewarray 7 2, 4) := by decide +kernel
theorem dX0_init_13 : decode cX0_init 13 = .ok (.putfield 9, 3) := dk_181 0 9 (dk_at dksX0_init_0 13 rfl rfl)
theorem dX0_init_16 : decode cX0_init 16 = .ok (.aload_n 0, 1) := dk_42 (dk_at dksX0_init_0 16 rfl rfl)
theorem dX0_init_17 : decode cX0_init 17 = .ok (.iconst 0, 1) := dk_3 (dk_at dksX0_init_0 17 rfl rfl)
theorem dX0_init_18 : decode cX0_init 18 = .ok (.newarray .byte, 2) := dk_188_8 (dk_at dksX0_init_0 18 rfl rfl)
theorem dX0_init_20 : decode cX0_init 20 = .ok (.putfield 14, 3) := dk_181 0 14 (dk_at dksX0_init_0 20 rfl rfl)
theorem dX0_init_23 : decode cX0_init 23 = .ok (.return_, 1) := dk_177 (dk_at dksX0_init_0 23 rfl rfl)
abbrev cX0_lay : ByteArray := prog_9_method_2_code
def yX0_lay : MethodName := ⟨RX0, "lay", "(IIIII)V"⟩
def dkwX0_lay_1 : List UInt8 := [184, 0, 18, 25, 6, 16, 8, 21, 4, 184, 0, 18, 25, 6, 16, 12, 21, 5, 184, 0, 18, 177]
abbrev dktX0_lay_1 : List UInt8 := dkwX0_lay_1 ++ []
def dkwX0_lay_0 : List UInt8 := [42, 180, 0, 9, 27, 16, 7, 126, 50, 58, 6, 25, 6, 3, 28, 184, 0, 18, 25, 6, 7, 29]
abbrev dktX0_lay_0 : List UInt8 := dkwX0_lay_0 ++ dktX0_lay_1
theorem dksX0_lay_0 : cX0_lay.data.toList.drop 0 = dktX0_lay_0 := by decide +kernel
theorem dksX0_lay_1 : cX0_lay.data.toList.drop 22 = dktX0_lay_1 := dk_seg dksX0_lay_0 22 rfl rfl
theorem dX0_lay_0 : decode cX0_lay 0 = .ok (.aload_n 0, 1) := dk_42 (dk_at dksX0_lay_0 0 rfl rfl)
theorem dX0_lay_1 : decode cX0_lay 1 = .ok (.getfield 9, 3) := dk_180 0 9 (dk_at dksX0_lay_0 1 rfl rfl)
theorem dX0_lay_4 : decode cX0_lay 4 = .ok (.iload_n 1, 1) := dk_27 (dk_at dksX0_lay_0 4 rfl rfl)
theorem dX0_lay_5 : decode cX0_lay 5 = .ok (.bipush 7, 2) := dk_16 7 (dk_at dksX0_lay_0 5 rfl rfl)
theorem dX0_lay_7 : decode cX0_lay 7 = .ok (.iand, 1) := dk_126 (dk_at dksX0_lay_0 7 rfl rfl)
theorem dX0_lay_8 : decode cX0_lay 8 = .ok (.aaload, 1) := dk_50 (dk_at dksX0_lay_0 8 rfl rfl)
theorem dX0_lay_9 : decode cX0_lay 9 = .ok (.astore 6, 2) := dk_58 6 (dk_at dksX0_lay_0 9 rfl rfl)
theorem dX0_lay_11 : decode cX0_lay 11 = .ok (.aload 6, 2) := dk_25 6 (dk_at dksX0_lay_0 11 rfl rfl)
theorem dX0_lay_13 : decode cX0_lay 13 = .ok (.iconst 0, 1) := dk_3 (dk_at dksX0_lay_0 13 rfl rfl)
theorem dX0_lay_14 : decode cX0_lay 14 = .ok (.iload_n 2, 1) := dk_28 (dk_at dksX0_lay_0 14 rfl rfl)
theorem dX0_lay_15 : decode cX0_lay 15 = .ok (.invokestatic 18, 3) := dk_184 0 18 (dk_at dksX0_lay_0 15 rfl rfl)
theorem dX0_lay_18 : decode cX0_lay 18 = .ok (.aload 6, 2) := dk_25 6 (dk_at dksX0_lay_0 18 rfl rfl)
theorem dX0_lay_20 : decode cX0_lay 20 = .ok (.iconst 4, 1) := dk_7 (dk_at dksX0_lay_0 20 rfl rfl)
theorem dX0_lay_21 : decode cX0_lay 21 = .ok (.iload_n 3, 1) := dk_29 (dk_at dksX0_lay_0 21 rfl rfl)
theorem dX0_lay_22 : decode cX0_lay 22 = .ok (.invokestatic 18, 3) := dk_184 0 18 (dk_at dksX0_lay_1 0 rfl rfl)
theorem dX0_lay_25 : decode cX0_lay 25 = .ok (.aload 6, 2) := dk_25 6 (dk_at dksX0_lay_1 3 rfl rfl)
theorem dX0_lay_27 : decode cX0_lay 27 = .ok (.bipush 8, 2) := dk_16 8 (dk_at dksX0_lay_1 5 rfl rfl)
theorem dX0_lay_29 : decode cX0_lay 29 = .ok (.iload 4, 2) := dk_21 4 (dk_at dksX0_lay_1 7 rfl rfl)
theorem dX0_lay_31 : decode cX0_lay 31 = .ok (.invokestatic 18, 3) := dk_184 0 18 (dk_at dksX0_lay_1 9 rfl rfl)
theorem dX0_lay_34 : decode cX0_lay 34 = .ok (.aload 6, 2) := dk_25 6 (dk_at dksX0_lay_1 12 rfl rfl)
theorem dX0_lay_36 : decode cX0_lay 36 = .ok (.bipush 12, 2) := dk_16 12 (dk_at dksX0_lay_1 14 rfl rfl)
theorem dX0_lay_38 : decode cX0_lay 38 = .ok (.iload 5, 2) := dk_21 5 (dk_at dksX0_lay_1 16 rfl rfl)
theorem dX0_lay_40 : decode cX0_lay 40 = .ok (.invokestatic 18, 3) := dk_184 0 18 (dk_at dksX0_lay_1 18 rfl rfl)
theorem dX0_lay_43 : decode cX0_lay 43 = .ok (.return_, 1) := dk_177 (dk_at dksX0_lay_1 21 rfl rfl)
abbrev cX0_word : ByteArray := prog_9_method_3_code
def yX0_word : MethodName := ⟨RX0, "word", "([BII)V"⟩
def dkwX0_word_1 : List UInt8 := [16, 8, 122, 145, 84, 42, 27, 6, 96, 28, 145, 84, 177]
abbrev dktX0_word_1 : List UInt8 := dkwX0_word_1 ++ []
def dkwX0_word_0 : List UInt8 := [42, 27, 28, 16, 24, 122, 145, 84, 42, 27, 4, 96, 28, 16, 16, 122, 145, 84, 42, 27, 5, 96, 28]
abbrev dktX0_word_0 : List UInt8 := dkwX0_word_0 ++ dktX0_word_1
theorem dksX0_word_0 : cX0_word.data.toList.drop 0 = dktX0_word_0 := by decide +kernel
theorem dksX0_word_1 : cX0_word.data.toList.drop 23 = dktX0_word_1 := dk_seg dksX0_word_0 23 rfl rfl
theorem dX0_word_0 : decode cX0_word 0 = .ok (.aload_n 0, 1) := dk_42 (dk_at dksX0_word_0 0 rfl rfl)
theorem dX0_word_1 : decode cX0_word 1 = .ok (.iload_n 1, 1) := dk_27 (dk_at dksX0_word_0 1 rfl rfl)
theorem dX0_word_2 : decode cX0_word 2 = .ok (.iload_n 2, 1) := dk_28 (dk_at dksX0_word_0 2 rfl rfl)
theorem dX0_word_3 : decode cX0_word 3 = .ok (.bipush 24, 2) := dk_16 24 (dk_at dksX0_word_0 3 rfl rfl)
theorem dX0_word_5 : decode cX0_word 5 = .ok (.ishr, 1) := dk_122 (dk_at dksX0_word_0 5 rfl rfl)
theorem dX0_word_6 : decode cX0_word 6 = .ok (.i2b, 1) := dk_145 (dk_at dksX0_word_0 6 rfl rfl)
theorem dX0_word_7 : decode cX0_word 7 = .ok (.bastore, 1) := dk_84 (dk_at dksX0_word_0 7 rfl rfl)
theorem dX0_word_8 : decode cX0_word 8 = .ok (.aload_n 0, 1) := dk_42 (dk_at dksX0_word_0 8 rfl rfl)
theorem dX0_word_9 : decode cX0_word 9 = .ok (.iload_n 1, 1) := dk_27 (dk_at dksX0_word_0 9 rfl rfl)
theorem dX0_word_10 : decode cX0_word 10 = .ok (.iconst 1, 1) := dk_4 (dk_at dksX0_word_0 10 rfl rfl)
theorem dX0_word_11 : decode cX0_word 11 = .ok (.iadd, 1) := dk_96 (dk_at dksX0_word_0 11 rfl rfl)
theorem dX0_word_12 : decode cX0_word 12 = .ok (.iload_n 2, 1) := dk_28 (dk_at dksX0_word_0 12 rfl rfl)
theorem dX0_word_13 : decode cX0_word 13 = .ok (.bipush 16, 2) := dk_16 16 (dk_at dksX0_word_0 13 rfl rfl)
theorem dX0_word_15 : decode cX0_word 15 = .ok (.ishr, 1) := dk_122 (dk_at dksX0_word_0 15 rfl rfl)
theorem dX0_word_16 : decode cX0_word 16 = .ok (.i2b, 1) := dk_145 (dk_at dksX0_word_0 16 rfl rfl)
theorem dX0_word_17 : decode cX0_word 17 = .ok (.bastore, 1) := dk_84 (dk_at dksX0_word_0 17 rfl rfl)
theorem dX0_word_18 : decode cX0_word 18 = .ok (.aload_n 0, 1) := dk_42 (dk_at dksX0_word_0 18 rfl rfl)
theorem dX0_word_19 : decode cX0_word 19 = .ok (.iload_n 1, 1) := dk_27 (dk_at dksX0_word_0 19 rfl rfl)
theorem dX0_word_20 : decode cX0_word 20 = .ok (.iconst 2, 1) := dk_5 (dk_at dksX0_word_0 20 rfl rfl)
theorem dX0_word_21 : decode cX0_word 21 = .ok (.iadd, 1) := dk_96 (dk_at dksX0_word_0 21 rfl rfl)
theorem dX0_word_22 : decode cX0_word 22 = .ok (.iload_n 2, 1) := dk_28 (dk_at dksX0_word_0 22 rfl rfl)
theorem dX0_word_23 : decode cX0_word 23 = .ok (.bipush 8, 2) := dk_16 8 (dk_at dksX0_word_1 0 rfl rfl)
theorem dX0_word_25 : decode cX0_word 25 = .ok (.ishr, 1) := dk_122 (dk_at dksX0_word_1 2 rfl rfl)
theorem dX0_word_26 : decode cX0_word 26 = .ok (.i2b, 1) := dk_145 (dk_at dksX0_word_1 3 rfl rfl)
theorem dX0_word_27 : decode cX0_word 27 = .ok (.bastore, 1) := dk_84 (dk_at dksX0_word_1 4 rfl rfl)
theorem dX0_word_28 : decode cX0_word 28 = .ok (.aload_n 0, 1) := dk_42 (dk_at dksX0_word_1 5 rfl rfl)
theorem dX0_word_29 : decode cX0_word 29 = .ok (.iload_n 1, 1) := dk_27 (dk_at dksX0_word_1 6 rfl rfl)
theorem dX0_word_30 : decode cX0_word 30 = .ok (.iconst 3, 1) := dk_6 (dk_at dksX0_word_1 7 rfl rfl)
theorem dX0_word_31 : decode cX0_word 31 = .ok (.iadd, 1) := dk_96 (dk_at dksX0_word_1 8 rfl rfl)
theorem dX0_word_32 : decode cX0_word 32 = .ok (.iload_n 2, 1) := dk_28 (dk_at dksX0_word_1 9 rfl rfl)
theorem dX0_word_33 : decode cX0_word 33 = .ok (.i2b, 1) := dk_145 (dk_at dksX0_word_1 10 rfl rfl)
theorem dX0_word_34 : decode cX0_word 34 = .ok (.bastore, 1) := dk_84 (dk_at dksX0_word_1 11 rfl rfl)
theorem dX0_word_35 : decode cX0_word 35 = .ok (.return_, 1) := dk_177 (dk_at dksX0_word_1 12 rfl rfl)
abbrev cX0_combine : ByteArray := prog_9_method_4_code
def yX0_combine : MethodName := ⟨RX0, "combine", "(III)I"⟩
def dkwX0_combine_7 : List UInt8 := [58, 8, 16, 254, 172, 42, 180, 0, 14, 190, 172]
abbrev dktX0_combine_7 : List UInt8 := dkwX0_combine_7 ++ []
def dkwX0_combine_6 : List UInt8 := [178, 0, 44, 167, 0, 6, 178, 0, 50, 25, 7, 183, 0, 53, 182, 0, 56, 181, 0, 14, 167, 0, 8]
abbrev dktX0_combine_6 : List UInt8 := dkwX0_combine_6 ++ dktX0_combine_7
def dkwX0_combine_5 : List UInt8 := [89, 27, 4, 126, 154, 0, 9, 178, 0, 35, 167, 0, 6, 178, 0, 41, 28, 4, 126, 154, 0, 9]
abbrev dktX0_combine_5 : List UInt8 := dkwX0_combine_5 ++ dktX0_combine_6
def dkwX0_combine_4 : List UInt8 := [187, 0, 28, 89, 25, 9, 21, 8, 4, 96, 183, 0, 30, 83, 132, 8, 1, 167, 255, 177, 42, 187, 0, 33]
abbrev dktX0_combine_4 : List UInt8 := dkwX0_combine_4 ++ dktX0_combine_5
def dkwX0_combine_3 : List UInt8 := [42, 180, 0, 9, 21, 8, 50, 21, 10, 51, 84, 132, 10, 1, 167, 255, 231, 25, 7, 21, 6, 132, 6, 1]
abbrev dktX0_combine_3 : List UInt8 := dkwX0_combine_3 ++ dktX0_combine_4
def dkwX0_combine_2 : List UInt8 := [4, 160, 0, 61, 16, 16, 188, 8, 58, 9, 3, 54, 10, 21, 10, 16, 16, 162, 0, 24, 25, 9, 21, 10]
abbrev dktX0_combine_2 : List UInt8 := dkwX0_combine_2 ++ dktX0_combine_3
def dkwX0_combine_1 : List UInt8 := [21, 5, 189, 0, 28, 58, 7, 3, 54, 8, 21, 8, 16, 8, 162, 0, 78, 21, 4, 21, 8, 122, 4, 126]
abbrev dktX0_combine_1 : List UInt8 := dkwX0_combine_1 ++ dktX0_combine_2
def dkwX0_combine_0 : List UInt8 := [29, 17, 0, 255, 126, 54, 4, 21, 4, 184, 0, 22, 54, 5, 3, 54, 6, 21, 5, 154, 0, 5, 2, 172]
abbrev dktX0_combine_0 : List UInt8 := dkwX0_combine_0 ++ dktX0_combine_1
theorem dksX0_combine_0 : cX0_combine.data.toList.drop 0 = dktX0_combine_0 := by decide +kernel
theorem dksX0_combine_1 : cX0_combine.data.toList.drop 24 = dktX0_combine_1 := dk_seg dksX0_combine_0 24 rfl rfl
theorem dksX0_combine_2 : cX0_combine.data.toList.drop 48 = dktX0_combine_2 := dk_seg dksX0_combine_1 24 rfl rfl
theorem dksX0_combine_3 : cX0_combine.data.toList.drop 72 = dktX0_combine_3 := dk_seg dksX0_combine_2 24 rfl rfl
theorem dksX0_combine_4 : cX0_combine.data.toList.drop 96 = dktX0_combine_4 := dk_seg dksX0_combine_3 24 rfl rfl
theorem dksX0_combine_5 : cX0_combine.data.toList.drop 120 = dktX0_combine_5 := dk_seg dksX0_combine_4 24 rfl rfl
theorem dksX0_combine_6 : cX0_combine.data.toList.drop 142 = dktX0_combine_6 := dk_seg dksX0_combine_5 22 rfl rfl
theorem dksX0_combine_7 : cX0_combine.data.toList.drop 165 = dktX0_combine_7 := dk_seg dksX0_combine_6 23 rfl rfl
theorem dX0_combine_0 : decode cX0_combine 0 = .ok (.iload_n 3, 1) := dk_29 (dk_at dksX0_combine_0 0 rfl rfl)
theorem dX0_combine_1 : decode cX0_combine 1 = .ok (.sipush 255, 3) := dk_17 0 255 (dk_at dksX0_combine_0 1 rfl rfl)
theorem dX0_combine_4 : decode cX0_combine 4 = .ok (.iand, 1) := dk_126 (dk_at dksX0_combine_0 4 rfl rfl)
theorem dX0_combine_5 : decode cX0_combine 5 = .ok (.istore 4, 2) := dk_54 4 (dk_at dksX0_combine_0 5 rfl rfl)
theorem dX0_combine_7 : decode cX0_combine 7 = .ok (.iload 4, 2) := dk_21 4 (dk_at dksX0_combine_0 7 rfl rfl)
theorem dX0_combine_9 : decode cX0_combine 9 = .ok (.invokestatic 22, 3) := dk_184 0 22 (dk_at dksX0_combine_0 9 rfl rfl)
theorem dX0_combine_12 : decode cX0_combine 12 = .ok (.istore 5, 2) := dk_54 5 (dk_at dksX0_combine_0 12 rfl rfl)
theorem dX0_combine_14 : decode cX0_combine 14 = .ok (.iconst 0, 1) := dk_3 (dk_at dksX0_combine_0 14 rfl rfl)
theorem dX0_combine_15 : decode cX0_combine 15 = .ok (.istore 6, 2) := dk_54 6 (dk_at dksX0_combine_0 15 rfl rfl)
theorem dX0_combine_17 : decode cX0_combine 17 = .ok (.iload 5, 2) := dk_21 5 (dk_at dksX0_combine_0 17 rfl rfl)
theorem dX0_combine_19 : decode cX0_combine 19 = .ok (.ifCond .ne 5, 3) := dk_154 0 5 (dk_at dksX0_combine_0 19 rfl rfl)
theorem dX0_combine_22 : decode cX0_combine 22 = .ok (.iconst (-1), 1) := dk_2 (dk_at dksX0_combine_0 22 rfl rfl)
theorem dX0_combine_23 : decode cX0_combine 23 = .ok (.ireturn, 1) := dk_172 (dk_at dksX0_combine_0 23 rfl rfl)
theorem dX0_combine_24 : decode cX0_combine 24 = .ok (.iload 5, 2) := dk_21 5 (dk_at dksX0_combine_1 0 rfl rfl)
theorem dX0_combine_26 : decode cX0_combine 26 = .ok (.anewarray 28, 3) := dk_189 0 28 (dk_at dksX0_combine_1 2 rfl rfl)
theorem dX0_combine_29 : decode cX0_combine 29 = .ok (.astore 7, 2) := dk_58 7 (dk_at dksX0_combine_1 5 rfl rfl)
theorem dX0_combine_31 : decode cX0_combine 31 = .ok (.iconst 0, 1) := dk_3 (dk_at dksX0_combine_1 7 rfl rfl)
theorem dX0_combine_32 : decode cX0_combine 32 = .ok (.istore 8, 2) := dk_54 8 (dk_at dksX0_combine_1 8 rfl rfl)
theorem dX0_combine_34 : decode cX0_combine 34 = .ok (.iload 8, 2) := dk_21 8 (dk_at dksX0_combine_1 10 rfl rfl)
theorem dX0_combine_36 : decode cX0_combine 36 = .ok (.bipush 8, 2) := dk_16 8 (dk_at dksX0_combine_1 12 rfl rfl)
theorem dX0_combine_38 : decode cX0_combine 38 = .ok (.if_icmp .ge 78, 3) := dk_162 0 78 (dk_at dksX0_combine_1 14 rfl rfl)
theorem dX0_combine_41 : decode cX0_combine 41 = .ok (.iload 4, 2) := dk_21 4 (dk_at dksX0_combine_1 17 rfl rfl)
theorem dX0_combine_43 : decode cX0_combine 43 = .ok (.iload 8, 2) := dk_21 8 (dk_at dksX0_combine_1 19 rfl rfl)
theorem dX0_combine_45 : decode cX0_combine 45 = .ok (.ishr, 1) := dk_122 (dk_at dksX0_combine_1 21 rfl rfl)
theorem dX0_combine_46 : decode cX0_combine 46 = .ok (.iconst 1, 1) := dk_4 (dk_at dksX0_combine_1 22 rfl rfl)
theorem dX0_combine_47 : decode cX0_combine 47 = .ok (.iand, 1) := dk_126 (dk_at dksX0_combine_1 23 rfl rfl)
theorem dX0_combine_48 : decode cX0_combine 48 = .ok (.iconst 1, 1) := dk_4 (dk_at dksX0_combine_2 0 rfl rfl)
theorem dX0_combine_49 : decode cX0_combine 49 = .ok (.if_icmp .ne 61, 3) := dk_160 0 61 (dk_at dksX0_combine_2 1 rfl rfl)
theorem dX0_combine_52 : decode cX0_combine 52 = .ok (.bipush 16, 2) := dk_16 16 (dk_at dksX0_combine_2 4 rfl rfl)
theorem dX0_combine_54 : decode cX0_combine 54 = .ok (.newarray .byte, 2) := dk_188_8 (dk_at dksX0_combine_2 6 rfl rfl)
theorem dX0_combine_56 : decode cX0_combine 56 = .ok (.astore 9, 2) := dk_58 9 (dk_at dksX0_combine_2 8 rfl rfl)
theorem dX0_combine_58 : decode cX0_combine 58 = .ok (.iconst 0, 1) := dk_3 (dk_at dksX0_combine_2 10 rfl rfl)
theorem dX0_combine_59 : decode cX0_combine 59 = .ok (.istore 10, 2) := dk_54 10 (dk_at dksX0_combine_2 11 rfl rfl)
theorem dX0_combine_61 : decode cX0_combine 61 = .ok (.iload 10, 2) := dk_21 10 (dk_at dksX0_combine_2 13 rfl rfl)
theorem dX0_combine_63 : decode cX0_combine 63 = .ok (.bipush 16, 2) := dk_16 16 (dk_at dksX0_combine_2 15 rfl rfl)
theorem dX0_combine_65 : decode cX0_combine 65 = .ok (.if_icmp .ge 24, 3) := dk_162 0 24 (dk_at dksX0_combine_2 17 rfl rfl)
theorem dX0_combine_68 : decode cX0_combine 68 = .ok (.aload 9, 2) := dk_25 9 (dk_at dksX0_combine_2 20 rfl rfl)
theorem dX0_combine_70 : decode cX0_combine 70 = .ok (.iload 10, 2) := dk_21 10 (dk_at dksX0_combine_2 22 rfl rfl)
theorem dX0_combine_72 : decode cX0_combine 72 = .ok (.aload_n 0, 1) := dk_42 (dk_at dksX0_combine_3 0 rfl rfl)
theorem dX0_combine_73 : decode cX0_combine 73 = .ok (.getfield 9, 3) := dk_180 0 9 (dk_at dksX0_combine_3 1 rfl rfl)
theorem dX0_combine_76 : decode cX0_combine 76 = .ok (.iload 8, 2) := dk_21 8 (dk_at dksX0_combine_3 4 rfl rfl)
theorem dX0_combine_78 : decode cX0_combine 78 = .ok (.aaload, 1) := dk_50 (dk_at dksX0_combine_3 6 rfl rfl)
theorem dX0_combine_79 : decode cX0_combine 79 = .ok (.iload 10, 2) := dk_21 10 (dk_at dksX0_combine_3 7 rfl rfl)
theorem dX0_combine_81 : decode cX0_combine 81 = .ok (.baload, 1) := dk_51 (dk_at dksX0_combine_3 9 rfl rfl)
theorem dX0_combine_82 : decode cX0_combine 82 = .ok (.bastore, 1) := dk_84 (dk_at dksX0_combine_3 10 rfl rfl)
theorem dX0_combine_83 : decode cX0_combine 83 = .ok (.iinc 10 1, 3) := dk_132 10 1 (dk_at dksX0_combine_3 11 rfl rfl)
theorem dX0_combine_86 : decode cX0_combine 86 = .ok (.goto (-25), 3) := dk_167 255 231 (dk_at dksX0_combine_3 14 rfl rfl)
theorem dX0_combine_89 : decode cX0_combine 89 = .ok (.aload 7, 2) := dk_25 7 (dk_at dksX0_combine_3 17 rfl rfl)
theorem dX0_combine_91 : decode cX0_combine 91 = .ok (.iload 6, 2) := dk_21 6 (dk_at dksX0_combine_3 19 rfl rfl)
theorem dX0_combine_93 : decode cX0_combine 93 = .ok (.iinc 6 1, 3) := dk_132 6 1 (dk_at dksX0_combine_3 21 rfl rfl)
theorem dX0_combine_96 : decode cX0_combine 96 = .ok (.new 28, 3) := dk_187 0 28 (dk_at dksX0_combine_4 0 rfl rfl)
theorem dX0_combine_99 : decode cX0_combine 99 = .ok (.dup, 1) := dk_89 (dk_at dksX0_combine_4 3 rfl rfl)
theorem dX0_combine_100 : decode cX0_combine 100 = .ok (.aload 9, 2) := dk_25 9 (dk_at dksX0_combine_4 4 rfl rfl)
theorem dX0_combine_102 : decode cX0_combine 102 = .ok (.iload 8, 2) := dk_21 8 (dk_at dksX0_combine_4 6 rfl rfl)
theorem dX0_combine_104 : decode cX0_combine 104 = .ok (.iconst 1, 1) := dk_4 (dk_at dksX0_combine_4 8 rfl rfl)
theorem dX0_combine_105 : decode cX0_combine 105 = .ok (.iadd, 1) := dk_96 (dk_at dksX0_combine_4 9 rfl rfl)
theorem dX0_combine_106 : decode cX0_combine 106 = .ok (.invokespecial 30, 3) := dk_183 0 30 (dk_at dksX0_combine_4 10 rfl rfl)
theorem dX0_combine_109 : decode cX0_combine 109 = .ok (.aastore, 1) := dk_83 (dk_at dksX0_combine_4 13 rfl rfl)
theorem dX0_combine_110 : decode cX0_combine 110 = .ok (.iinc 8 1, 3) := dk_132 8 1 (dk_at dksX0_combine_4 14 rfl rfl)
theorem dX0_combine_113 : decode cX0_combine 113 = .ok (.goto (-79), 3) := dk_167 255 177 (dk_at dksX0_combine_4 17 rfl rfl)
theorem dX0_combine_116 : decode cX0_combine 116 = .ok (.aload_n 0, 1) := dk_42 (dk_at dksX0_combine_4 20 rfl rfl)
theorem dX0_combine_117 : decode cX0_combine 117 = .ok (.new 33, 3) := dk_187 0 33 (dk_at dksX0_combine_4 21 rfl rfl)
theorem dX0_combine_120 : decode cX0_combine 120 = .ok (.dup, 1) := dk_89 (dk_at dksX0_combine_5 0 rfl rfl)
theorem dX0_combine_121 : decode cX0_combine 121 = .ok (.iload_n 1, 1) := dk_27 (dk_at dksX0_combine_5 1 rfl rfl)
theorem dX0_combine_122 : decode cX0_combine 122 = .ok (.iconst 1, 1) := dk_4 (dk_at dksX0_combine_5 2 rfl rfl)
theorem dX0_combine_123 : decode cX0_combine 123 = .ok (.iand, 1) := dk_126 (dk_at dksX0_combine_5 3 rfl rfl)
theorem dX0_combine_124 : decode cX0_combine 124 = .ok (.ifCond .ne 9, 3) := dk_154 0 9 (dk_at dksX0_combine_5 4 rfl rfl)
theorem dX0_combine_127 : decode cX0_combine 127 = .ok (.getstatic 35, 3) := dk_178 0 35 (dk_at dksX0_combine_5 7 rfl rfl)
theorem dX0_combine_130 : decode cX0_combine 130 = .ok (.goto 6, 3) := dk_167 0 6 (dk_at dksX0_combine_5 10 rfl rfl)
theorem dX0_combine_133 : decode cX0_combine 133 = .ok (.getstatic 41, 3) := dk_178 0 41 (dk_at dksX0_combine_5 13 rfl rfl)
theorem dX0_combine_136 : decode cX0_combine 136 = .ok (.iload_n 2, 1) := dk_28 (dk_at dksX0_combine_5 16 rfl rfl)
theorem dX0_combine_137 : decode cX0_combine 137 = .ok (.iconst 1, 1) := dk_4 (dk_at dksX0_combine_5 17 rfl rfl)
theorem dX0_combine_138 : decode cX0_combine 138 = .ok (.iand, 1) := dk_126 (dk_at dksX0_combine_5 18 rfl rfl)
theorem dX0_combine_139 : decode cX0_combine 139 = .ok (.ifCond .ne 9, 3) := dk_154 0 9 (dk_at dksX0_combine_5 19 rfl rfl)
theorem dX0_combine_142 : decode cX0_combine 142 = .ok (.getstatic 44, 3) := dk_178 0 44 (dk_at dksX0_combine_6 0 rfl rfl)
theorem dX0_combine_145 : decode cX0_combine 145 = .ok (.goto 6, 3) := dk_167 0 6 (dk_at dksX0_combine_6 3 rfl rfl)
theorem dX0_combine_148 : decode cX0_combine 148 = .ok (.getstatic 50, 3) := dk_178 0 50 (dk_at dksX0_combine_6 6 rfl rfl)
theorem dX0_combine_151 : decode cX0_combine 151 = .ok (.aload 7, 2) := dk_25 7 (dk_at dksX0_combine_6 9 rfl rfl)
theorem dX0_combine_153 : decode cX0_combine 153 = .ok (.invokespecial 53, 3) := dk_183 0 53 (dk_at dksX0_combine_6 11 rfl rfl)
theorem dX0_combine_156 : decode cX0_combine 156 = .ok (.invokevirtual 56, 3) := dk_182 0 56 (dk_at dksX0_combine_6 14 rfl rfl)
theorem dX0_combine_159 : decode cX0_combine 159 = .ok (.putfield 14, 3) := dk_181 0 14 (dk_at dksX0_combine_6 17 rfl rfl)
theorem dX0_combine_162 : decode cX0_combine 162 = .ok (.goto 8, 3) := dk_167 0 8 (dk_at dksX0_combine_6 20 rfl rfl)
theorem dX0_combine_165 : decode cX0_combine 165 = .ok (.astore 8, 2) := dk_58 8 (dk_at dksX0_combine_7 0 rfl rfl)
theorem dX0_combine_167 : decode cX0_combine 167 = .ok (.bipush (-2), 2) := dk_16 254 (dk_at dksX0_combine_7 2 rfl rfl)
theorem dX0_combine_169 : decode cX0_combine 169 = .ok (.ireturn, 1) := dk_172 (dk_at dksX0_combine_7 4 rfl rfl)
theorem dX0_combine_170 : decode cX0_combine 170 = .ok (.aload_n 0, 1) := dk_42 (dk_at dksX0_combine_7 5 rfl rfl)
theorem dX0_combine_171 : decode cX0_combine 171 = .ok (.getfield 14, 3) := dk_180 0 14 (dk_at dksX0_combine_7 6 rfl rfl)
theorem dX0_combine_174 : decode cX0_combine 174 = .ok (.arraylength, 1) := dk_190 (dk_at dksX0_combine_7 9 rfl rfl)
theorem dX0_combine_175 : decode cX0_combine 175 = .ok (.ireturn, 1) := dk_172 (dk_at dksX0_combine_7 10 rfl rfl)
abbrev cX0_out : ByteArray := prog_9_method_5_code
def yX0_out : MethodName := ⟨RX0, "out", "(I)I"⟩
def dkwX0_out_1 : List UInt8 := [190, 112, 51, 17, 0, 255, 126, 172]
abbrev dktX0_out_1 : List UInt8 := dkwX0_out_1 ++ []
def dkwX0_out_0 : List UInt8 := [42, 180, 0, 14, 190, 154, 0, 7, 2, 167, 0, 22, 42, 180, 0, 14, 27, 18, 62, 126, 42, 180, 0, 14]
abbrev dktX0_out_0 : List UInt8 := dkwX0_out_0 ++ dktX0_out_1
theorem dksX0_out_0 : cX0_out.data.toList.drop 0 = dktX0_out_0 := by decide +kernel
theorem dksX0_out_1 : cX0_out.data.toList.drop 24 = dktX0_out_1 := dk_seg dksX0_out_0 24 rfl rfl
theorem dX0_out_0 : decode cX0_out 0 = .ok (.aload_n 0, 1) := dk_42 (dk_at dksX0_out_0 0 rfl rfl)
theorem dX0_out_1 : decode cX0_out 1 = .ok (.getfield 14, 3) := dk_180 0 14 (dk_at dksX0_out_0 1 rfl rfl)
theorem dX0_out_4 : decode cX0_out 4 = .ok (.arraylength, 1) := dk_190 (dk_at dksX0_out_0 4 rfl rfl)
theorem dX0_out_5 : decode cX0_out 5 = .ok (.ifCond .ne 7, 3) := dk_154 0 7 (dk_at dksX0_out_0 5 rfl rfl)
theorem dX0_out_8 : decode cX0_out 8 = .ok (.iconst (-1), 1) := dk_2 (dk_at dksX0_out_0 8 rfl rfl)
theorem dX0_out_9 : decode cX0_out 9 = .ok (.goto 22, 3) := dk_167 0 22 (dk_at dksX0_out_0 9 rfl rfl)
theorem dX0_out_12 : decode cX0_out 12 = .ok (.aload_n 0, 1) := dk_42 (dk_at dksX0_out_0 12 rfl rfl)
theorem dX0_out_13 : decode cX0_out 13 = .ok (.getfield 14, 3) := dk_180 0 14 (dk_at dksX0_out_0 13 rfl rfl)
theorem dX0_out_16 : decode cX0_out 16 = .ok (.iload_n 1, 1) := dk_27 (dk_at dksX0_out_0 16 rfl rfl)
theorem dX0_out_17 : decode cX0_out 17 = .ok (.ldc 62, 2) := dk_18 62 (dk_at dksX0_out_0 17 rfl rfl)
theorem dX0_out_19 : decode cX0_out 19 = .ok (.iand, 1) := dk_126 (dk_at dksX0_out_0 19 rfl rfl)
theorem dX0_out_20 : decode cX0_out 20 = .ok (.aload_n 0, 1) := dk_42 (dk_at dksX0_out_0 20 rfl rfl)
theorem dX0_out_21 : decode cX0_out 21 = .ok (.getfield 14, 3) := dk_180 0 14 (dk_at dksX0_out_0 21 rfl rfl)
theorem dX0_out_24 : decode cX0_out 24 = .ok (.arraylength, 1) := dk_190 (dk_at dksX0_out_1 0 rfl rfl)
theorem dX0_out_25 : decode cX0_out 25 = .ok (.irem, 1) := dk_112 (dk_at dksX0_out_1 1 rfl rfl)
theorem dX0_out_26 : decode cX0_out 26 = .ok (.baload, 1) := dk_51 (dk_at dksX0_out_1 2 rfl rfl)
theorem dX0_out_27 : decode cX0_out 27 = .ok (.sipush 255, 3) := dk_17 0 255 (dk_at dksX0_out_1 3 rfl rfl)
theorem dX0_out_30 : decode cX0_out 30 = .ok (.iand, 1) := dk_126 (dk_at dksX0_out_1 6 rfl rfl)
theorem dX0_out_31 : decode cX0_out 31 = .ok (.ireturn, 1) := dk_172 (dk_at dksX0_out_1 7 rfl rfl)
theorem q2 : (Jvm.Cond.initialized "ShareDesk") ∈ lw_all := lw_g (lw_at lw_m1 1 rfl) rfl
theorem q18 : (Jvm.Cond.instantiable "ShareDesk" (2 : Nat)) ∈ lw_all := lw_g (lw_at lw_m1 17 rfl) rfl
theorem q20 : (Jvm.Cond.instanceMethod ({ cls := "ShareDesk", name := "<init>", desc := "()V" } : Jvm.MethodName)) ∈ lw_all := lw_g (lw_at lw_m1 19 rfl) rfl
theorem q21 : (Jvm.Cond.code ({ cls := "ShareDesk", name := "<init>", desc := "()V" } : Jvm.MethodName) prog_9_method_1_code (1 : Nat) (Option.none : Option Jvm.ClassFile.FieldType)) ∈ lw_all := lw_g (lw_at lw_m1 20 rfl) rfl
theorem q22 : (Jvm.Cond.methodLink "ShareDesk" (1 : Nat) ({ cls := "java/lang/Object", name := "<init>", desc := "()V" } : Jvm.MethodName)) ∈ lw_all := lw_g (lw_at lw_m1 21 rfl) rfl
theorem q25 : (Jvm.Cond.classLink "ShareDesk" (7 : Nat) "[[B") ∈ lw_all := lw_g (lw_at lw_m1 24 rfl) rfl
theorem q27 : (Jvm.Cond.fieldLink "ShareDesk" (9 : Nat) "ShareDesk" "share" "[[B") ∈ lw_all := lw_g (lw_at lw_m1 26 rfl) rfl
theorem q28 : (Jvm.Cond.fieldLink "ShareDesk" (14 : Nat) "ShareDesk" "out" "[B") ∈ lw_all := lw_g (lw_at lw_m1 27 rfl) rfl
theorem q29 : (Jvm.Cond.laysFinal "ShareDesk" "ShareDesk" "share" "[[B") ∈ lw_all := lw_g (lw_at lw_m1 28 rfl) rfl
theorem q30 : (Jvm.Cond.soleField "ShareDesk" "share") ∈ lw_all := lw_g (lw_at lw_m1 29 rfl) rfl
theorem q31 : (Jvm.Cond.lays "ShareDesk" "ShareDesk" "out" "[B") ∈ lw_all := lw_g (lw_at lw_m1 30 rfl) rfl
theorem q32 : (Jvm.Cond.soleField "ShareDesk" "out") ∈ lw_all := lw_g (lw_at lw_m1 31 rfl) rfl
theorem q33 : (Jvm.Cond.superclass "ShareDesk" "java/lang/Object") ∈ lw_all := lw_g (lw_at lw_m1 32 rfl) rfl
theorem q36 : (Jvm.Cond.instanceMethod ({ cls := "ShareDesk", name := "lay", desc := "(IIIII)V" } : Jvm.MethodName)) ∈ lw_all := lw_g (lw_at lw_m1 35 rfl) rfl
theorem q37 : (Jvm.Cond.selects "ShareDesk" ({ cls := "ShareDesk", name := "lay", desc := "(IIIII)V" } : Jvm.MethodName) ({ cls := "ShareDesk", name := "lay", desc := "(IIIII)V" } : Jvm.MethodName)) ∈ lw_all := lw_g (lw_at lw_m1 36 rfl) rfl
theorem q38 : (Jvm.Cond.code ({ cls := "ShareDesk", name := "lay", desc := "(IIIII)V" } : Jvm.MethodName) prog_9_method_2_code (7 : Nat) (Option.none : Option Jvm.ClassFile.FieldType)) ∈ lw_all := lw_g (lw_at lw_m1 37 rfl) rfl
theorem q39 : (Jvm.Cond.methodLink "ShareDesk" (18 : Nat) ({ cls := "ShareDesk", name := "word", desc := "([BII)V" } : Jvm.MethodName)) ∈ lw_all := lw_g (lw_at lw_m1 38 rfl) rfl
theorem q40 : (Jvm.Cond.static ({ cls := "ShareDesk", name := "word", desc := "([BII)V" } : Jvm.MethodName)) ∈ lw_all := lw_g (lw_at lw_m1 39 rfl) rfl
theorem q41 : (Jvm.Cond.code ({ cls := "ShareDesk", name := "word", desc := "([BII)V" } : Jvm.MethodName) prog_9_method_3_code (3 : Nat) (Option.none : Option Jvm.ClassFile.FieldType)) ∈ lw_all := lw_g (lw_at lw_m1 40 rfl) rfl
theorem q43 : (Jvm.Cond.instanceMethod ({ cls := "ShareDesk", name := "combine", desc := "(III)I" } : Jvm.MethodName)) ∈ lw_all := lw_g (lw_at lw_m1 42 rfl) rfl
theorem q44 : (Jvm.Cond.selects "ShareDesk" ({ cls := "ShareDesk", name := "combine", desc := "(III)I" } : Jvm.MethodName) ({ cls := "ShareDesk", name := "combine", desc := "(III)I" } : Jvm.MethodName)) ∈ lw_all := lw_g (lw_at lw_m1 43 rfl) rfl
theorem q45 : (Jvm.Cond.codeWith ({ cls := "ShareDesk", name := "combine", desc := "(III)I" } : Jvm.MethodName) prog_9_method_4_code (11 : Nat) (Option.some Jvm.ClassFile.FieldType.int) [((116 : Nat), (162 : Nat), (165 : Nat), (60 : Nat))]) ∈ lw_all := lw_g (lw_at lw_m1 44 rfl) rfl
theorem q46 : (Jvm.Cond.classLink "ShareDesk" (60 : Nat) "java/io/IOException") ∈ lw_all := lw_g (lw_at lw_m1 45 rfl) rfl
theorem q47 : (Jvm.Cond.methodLink "ShareDesk" (22 : Nat) ({ cls := "java/lang/Intege\x72", name := "bitCount", desc := "(I)I" } : Jvm.MethodName)) ∈ lw_all := lw_g (lw_at lw_m1 46 rfl) rfl
theorem q53 : (Jvm.Cond.classLink "ShareDesk" (28 : Nat) "ShamirSplitSecretShare") ∈ lw_all := lw_g (lw_at lw_m1 52 rfl) rfl
theorem q56 : (Jvm.Cond.methodLink "ShareDesk" (30 : Nat) ({ cls := "ShamirSplitSecretShare", name := "<init>", desc := "([BI)V" } : Jvm.MethodName)) ∈ lw_all := lw_g (lw_at lw_m1 55 rfl) rfl
theorem q78 : (Jvm.Cond.classLink "ShareDesk" (33 : Nat) "ShamirSplitSecret") ∈ lw_all := lw_g (lw_at lw_m1 77 rfl) rfl
theorem q80 : (Jvm.Cond.fieldLink "ShareDesk" (35 : Nat) "ShamirSecretSplitter$Algorithm" "AES" "LShamirSecretSplitter$Algorithm;") ∈ lw_all := lw_g (lw_at lw_m1 79 rfl) rfl
theorem q82 : (Jvm.Cond.fieldLink "ShareDesk" (41 : Nat) "ShamirSecretSplitter$Algorithm" "RSA" "LShamirSecretSplitter$Algorithm;") ∈ lw_all := lw_g (lw_at lw_m1 81 rfl) rfl
theorem q84 : (Jvm.Cond.fieldLink "ShareDesk" (44 : Nat) "ShamirSecretSplitter$Mode" "Native" "LShamirSecretSplitter$Mode;") ∈ lw_all := lw_g (lw_at lw_m1 83 rfl) rfl
theorem q86 : (Jvm.Cond.fieldLink "ShareDesk" (50 : Nat) "ShamirSecretSplitter$Mode" "Table" "LShamirSecretSplitter$Mode;") ∈ lw_all := lw_g (lw_at lw_m1 85 rfl) rfl
theorem q88 : (Jvm.Cond.methodLink "ShareDesk" (53 : Nat) ({ cls := "ShamirSplitSecret", name := "<init>", desc := "(LShamirSecretSplitter$Algorithm;LShamirSecretSplitter$Mode;[LShamirSplitSecretShare;)V" } : Jvm.MethodName)) ∈ lw_all := lw_g (lw_at lw_m1 87 rfl) rfl
theorem q185 : (Jvm.Cond.methodLink "ShareDesk" (56 : Nat) ({ cls := "ShamirSplitSecret", name := "getSecret", desc := "()[B" } : Jvm.MethodName)) ∈ lw_all := lw_g (lw_at lw_m1 184 rfl) rfl
theorem q215 : (Jvm.Cond.instanceMethod ({ cls := "ShareDesk", name := "out", desc := "(I)I" } : Jvm.MethodName)) ∈ lw_all := lw_g (lw_at lw_m1 214 rfl) rfl
theorem q216 : (Jvm.Cond.selects "ShareDesk" ({ cls := "ShareDesk", name := "out", desc := "(I)I" } : Jvm.MethodName) ({ cls := "ShareDesk", name := "out", desc := "(I)I" } : Jvm.MethodName)) ∈ lw_all := lw_g (lw_at lw_m1 215 rfl) rfl
theorem q217 : (Jvm.Cond.code ({ cls := "ShareDesk", name := "out", desc := "(I)I" } : Jvm.MethodName) prog_9_method_5_code (2 : Nat) (Option.some Jvm.ClassFile.FieldType.int)) ∈ lw_all := lw_g (lw_at lw_m1 216 rfl) rfl
theorem q218 : (Jvm.Cond.constant "ShareDesk" (62 : Nat) (2147483647 : Int32)) ∈ lw_all := lw_g (lw_at lw_m1 217 rfl) rfl
theorem in_X0 : ∀ w ∈ wsX00, w ∈ lw_all := lw_in wsX00 [29, 31] (by decide +kernel) (by decide +kernel)
/-! ShareDeskModel -/
set_option maxRecDepth 100000
def RX1 : String := "ShareDeskModel"
def TX1 : u_T := fun k => match k with
  | 0 => ("ShareDeskModel", "shares", "[[I", true)
  | _ => ("ShareDeskModel", "out", "[I", false)
def tyX1 : Nat → FieldType := fun k => match k with
  | 0 => .array (.array .int)
  | _ => .array .int
abbrev wsX10 : List Cond := u_ws RX1 TX1 2
theorem nmX1 : ∀ a, a < 2 → ∀ b, b < 2 → a ≠ b → (TX1 a).2.1 ≠ (TX1 b).2.1 := by decide +kernel
theorem tyX1_ok : ∀ k, k < 2 → parseFieldDescriptor (TX1 k).2.2.1 = some (tyX1 k) := by decide +kernel
abbrev cX1_init : ByteArray := prog_11_method_1_code
def yX1_init : MethodName := ⟨RX1, "<init>", "()V"⟩
def dkwX1_init_0 : List UInt8 := [42, 183, 0, 1, 42, 16, 8, 16, 16, 197, 0, 7, 2, 181, 0, 9, 42, 3, 188, 10, 181, 0, 14, 177]
abbrev dktX1_init_0 : List UInt8 := dkwX1_init_0 ++ []
theorem dksX1_init_0 : cX1_init.data.toList.drop 0 = dktX1_init_0 := by decide +kernel
theorem dX1_init_0 : decode cX1_init 0 = .ok (.aload_n 0, 1) := dk_42 (dk_at dksX1_init_0 0 rfl rfl)
theorem dX1_init_1 : decode cX1_init 1 = .ok (.invokespecial 1, 3) := dk_183 0 1 (dk_at dksX1_init_0 1 rfl rfl)
theorem dX1_init_4 : decode cX1_init 4 = .ok (.aload_n 0, 1) := dk_42 (dk_at dksX1_init_0 4 rfl rfl)
theorem dX1_init_5 : decode cX1_init 5 = .ok (.bipush 8, 2) := dk_16 8 (dk_at dksX1_init_0 5 rfl rfl)
theorem dX1_init_7 : decode cX1_init 7 = .ok (.bipush 16, 2) := dk_16 16 (dk_at dksX1_init_0 7 rfl rfl)
theorem dX1_init_9 : decode cX1_init 9 = .ok (.multianewarray 7 2, 4) := by decide +kernel
theorem dX1_init_13 : decode cX1_init 13 = .ok (.putfield 9, 3) := dk_181 0 9 (dk_at dksX1_init_0 13 rfl rfl)
theorem dX1_init_16 : decode cX1_init 16 = .ok (.aload_n 0, 1) := dk_42 (dk_at dksX1_init_0 16 rfl rfl)
theorem dX1_init_17 : decode cX1_init 17 = .ok (.iconst 0, 1) := dk_3 (dk_at dksX1_init_0 17 rfl rfl)
theorem dX1_init_18 : decode cX1_init 18 = .ok (.newarray .int, 2) := dk_188_10 (dk_at dksX1_init_0 18 rfl rfl)
theorem dX1_init_20 : decode cX1_init 20 = .ok (.putfield 14, 3) := dk_181 0 14 (dk_at dksX1_init_0 20 rfl rfl)
theorem dX1_init_23 : decode cX1_init 23 = .ok (.return_, 1) := dk_177 (dk_at dksX1_init_0 23 rfl rfl)
abbrev cX1_lay : ByteArray := prog_11_method_2_code
def yX1_lay : MethodName := ⟨RX1, "lay", "(IIIII)V"⟩
def dkwX1_lay_3 : List UInt8 := [167, 255, 212, 177]
abbrev dktX1_lay_3 : List UInt8 := dkwX1_lay_3 ++ []
def dkwX1_lay_2 : List UInt8 := [7, 108, 46, 16, 24, 16, 8, 21, 7, 7, 112, 104, 100, 122, 17, 0, 255, 126, 79, 132, 7, 1]
abbrev dktX1_lay_2 : List UInt8 := dkwX1_lay_2 ++ dktX1_lay_3
def dkwX1_lay_1 : List UInt8 := [54, 7, 21, 7, 16, 16, 162, 0, 43, 42, 180, 0, 9, 27, 16, 7, 126, 50, 21, 7, 25, 6, 21, 7]
abbrev dktX1_lay_1 : List UInt8 := dkwX1_lay_1 ++ dktX1_lay_2
def dkwX1_lay_0 : List UInt8 := [7, 188, 10, 89, 3, 28, 79, 89, 4, 29, 79, 89, 5, 21, 4, 79, 89, 6, 21, 5, 79, 58, 6, 3]
abbrev dktX1_lay_0 : List UInt8 := dkwX1_lay_0 ++ dktX1_lay_1
theorem dksX1_lay_0 : cX1_lay.data.toList.drop 0 = dktX1_lay_0 := by decide +kernel
theorem dksX1_lay_1 : cX1_lay.data.toList.drop 24 = dktX1_lay_1 := dk_seg dksX1_lay_0 24 rfl rfl
theorem dksX1_lay_2 : cX1_lay.data.toList.drop 48 = dktX1_lay_2 := dk_seg dksX1_lay_1 24 rfl rfl
theorem dksX1_lay_3 : cX1_lay.data.toList.drop 70 = dktX1_lay_3 := dk_seg dksX1_lay_2 22 rfl rfl
theorem dX1_lay_0 : decode cX1_lay 0 = .ok (.iconst 4, 1) := dk_7 (dk_at dksX1_lay_0 0 rfl rfl)
theorem dX1_lay_1 : decode cX1_lay 1 = .ok (.newarray .int, 2) := dk_188_10 (dk_at dksX1_lay_0 1 rfl rfl)
theorem dX1_lay_3 : decode cX1_lay 3 = .ok (.dup, 1) := dk_89 (dk_at dksX1_lay_0 3 rfl rfl)
theorem dX1_lay_4 : decode cX1_lay 4 = .ok (.iconst 0, 1) := dk_3 (dk_at dksX1_lay_0 4 rfl rfl)
theorem dX1_lay_5 : decode cX1_lay 5 = .ok (.iload_n 2, 1) := dk_28 (dk_at dksX1_lay_0 5 rfl rfl)
theorem dX1_lay_6 : decode cX1_lay 6 = .ok (.iastore, 1) := dk_79 (dk_at dksX1_lay_0 6 rfl rfl)
theorem dX1_lay_7 : decode cX1_lay 7 = .ok (.dup, 1) := dk_89 (dk_at dksX1_lay_0 7 rfl rfl)
theorem dX1_lay_8 : decode cX1_lay 8 = .ok (.iconst 1, 1) := dk_4 (dk_at dksX1_lay_0 8 rfl rfl)
theorem dX1_lay_9 : decode cX1_lay 9 = .ok (.iload_n 3, 1) := dk_29 (dk_at dksX1_lay_0 9 rfl rfl)
theorem dX1_lay_10 : decode cX1_lay 10 = .ok (.iastore, 1) := dk_79 (dk_at dksX1_lay_0 10 rfl rfl)
theorem dX1_lay_11 : decode cX1_lay 11 = .ok (.dup, 1) := dk_89 (dk_at dksX1_lay_0 11 rfl rfl)
theorem dX1_lay_12 : decode cX1_lay 12 = .ok (.iconst 2, 1) := dk_5 (dk_at dksX1_lay_0 12 rfl rfl)
theorem dX1_lay_13 : decode cX1_lay 13 = .ok (.iload 4, 2) := dk_21 4 (dk_at dksX1_lay_0 13 rfl rfl)
theorem dX1_lay_15 : decode cX1_lay 15 = .ok (.iastore, 1) := dk_79 (dk_at dksX1_lay_0 15 rfl rfl)
theorem dX1_lay_16 : decode cX1_lay 16 = .ok (.dup, 1) := dk_89 (dk_at dksX1_lay_0 16 rfl rfl)
theorem dX1_lay_17 : decode cX1_lay 17 = .ok (.iconst 3, 1) := dk_6 (dk_at dksX1_lay_0 17 rfl rfl)
theorem dX1_lay_18 : decode cX1_lay 18 = .ok (.iload 5, 2) := dk_21 5 (dk_at dksX1_lay_0 18 rfl rfl)
theorem dX1_lay_20 : decode cX1_lay 20 = .ok (.iastore, 1) := dk_79 (dk_at dksX1_lay_0 20 rfl rfl)
theorem dX1_lay_21 : decode cX1_lay 21 = .ok (.astore 6, 2) := dk_58 6 (dk_at dksX1_lay_0 21 rfl rfl)
theorem dX1_lay_23 : decode cX1_lay 23 = .ok (.iconst 0, 1) := dk_3 (dk_at dksX1_lay_0 23 rfl rfl)
theorem dX1_lay_24 : decode cX1_lay 24 = .ok (.istore 7, 2) := dk_54 7 (dk_at dksX1_lay_1 0 rfl rfl)
theorem dX1_lay_26 : decode cX1_lay 26 = .ok (.iload 7, 2) := dk_21 7 (dk_at dksX1_lay_1 2 rfl rfl)
theorem dX1_lay_28 : decode cX1_lay 28 = .ok (.bipush 16, 2) := dk_16 16 (dk_at dksX1_lay_1 4 rfl rfl)
theorem dX1_lay_30 : decode cX1_lay 30 = .ok (.if_icmp .ge 43, 3) := dk_162 0 43 (dk_at dksX1_lay_1 6 rfl rfl)
theorem dX1_lay_33 : decode cX1_lay 33 = .ok (.aload_n 0, 1) := dk_42 (dk_at dksX1_lay_1 9 rfl rfl)
theorem dX1_lay_34 : decode cX1_lay 34 = .ok (.getfield 9, 3) := dk_180 0 9 (dk_at dksX1_lay_1 10 rfl rfl)
theorem dX1_lay_37 : decode cX1_lay 37 = .ok (.iload_n 1, 1) := dk_27 (dk_at dksX1_lay_1 13 rfl rfl)
theorem dX1_lay_38 : decode cX1_lay 38 = .ok (.bipush 7, 2) := dk_16 7 (dk_at dksX1_lay_1 14 rfl rfl)
theorem dX1_lay_40 : decode cX1_lay 40 = .ok (.iand, 1) := dk_126 (dk_at dksX1_lay_1 16 rfl rfl)
theorem dX1_lay_41 : decode cX1_lay 41 = .ok (.aaload, 1) := dk_50 (dk_at dksX1_lay_1 17 rfl rfl)
theorem dX1_lay_42 : decode cX1_lay 42 = .ok (.iload 7, 2) := dk_21 7 (dk_at dksX1_lay_1 18 rfl rfl)
theorem dX1_lay_44 : decode cX1_lay 44 = .ok (.aload 6, 2) := dk_25 6 (dk_at dksX1_lay_1 20 rfl rfl)
theorem dX1_lay_46 : decode cX1_lay 46 = .ok (.iload 7, 2) := dk_21 7 (dk_at dksX1_lay_1 22 rfl rfl)
theorem dX1_lay_48 : decode cX1_lay 48 = .ok (.iconst 4, 1) := dk_7 (dk_at dksX1_lay_2 0 rfl rfl)
theorem dX1_lay_49 : decode cX1_lay 49 = .ok (.idiv, 1) := dk_108 (dk_at dksX1_lay_2 1 rfl rfl)
theorem dX1_lay_50 : decode cX1_lay 50 = .ok (.iaload, 1) := dk_46 (dk_at dksX1_lay_2 2 rfl rfl)
theorem dX1_lay_51 : decode cX1_lay 51 = .ok (.bipush 24, 2) := dk_16 24 (dk_at dksX1_lay_2 3 rfl rfl)
theorem dX1_lay_53 : decode cX1_lay 53 = .ok (.bipush 8, 2) := dk_16 8 (dk_at dksX1_lay_2 5 rfl rfl)
theorem dX1_lay_55 : decode cX1_lay 55 = .ok (.iload 7, 2) := dk_21 7 (dk_at dksX1_lay_2 7 rfl rfl)
theorem dX1_lay_57 : decode cX1_lay 57 = .ok (.iconst 4, 1) := dk_7 (dk_at dksX1_lay_2 9 rfl rfl)
theorem dX1_lay_58 : decode cX1_lay 58 = .ok (.irem, 1) := dk_112 (dk_at dksX1_lay_2 10 rfl rfl)
theorem dX1_lay_59 : decode cX1_lay 59 = .ok (.imul, 1) := dk_104 (dk_at dksX1_lay_2 11 rfl rfl)
theorem dX1_lay_60 : decode cX1_lay 60 = .ok (.isub, 1) := dk_100 (dk_at dksX1_lay_2 12 rfl rfl)
theorem dX1_lay_61 : decode cX1_lay 61 = .ok (.ishr, 1) := dk_122 (dk_at dksX1_lay_2 13 rfl rfl)
theorem dX1_lay_62 : decode cX1_lay 62 = .ok (.sipush 255, 3) := dk_17 0 255 (dk_at dksX1_lay_2 14 rfl rfl)
theorem dX1_lay_65 : decode cX1_lay 65 = .ok (.iand, 1) := dk_126 (dk_at dksX1_lay_2 17 rfl rfl)
theorem dX1_lay_66 : decode cX1_lay 66 = .ok (.iastore, 1) := dk_79 (dk_at dksX1_lay_2 18 rfl rfl)
theorem dX1_lay_67 : decode cX1_lay 67 = .ok (.iinc 7 1, 3) := dk_132 7 1 (dk_at dksX1_lay_2 19 rfl rfl)
theorem dX1_lay_70 : decode cX1_lay 70 = .ok (.goto (-44), 3) := dk_167 255 212 (dk_at dksX1_lay_3 0 rfl rfl)
theorem dX1_lay_73 : decode cX1_lay 73 = .ok (.return_, 1) := dk_177 (dk_at dksX1_lay_3 3 rfl rfl)
abbrev cX1_combine : ByteArray := prog_11_method_5_code
def yX1_combine : MethodName := ⟨RX1, "combine", "(III)I"⟩
def dkwX1_combine_11 : List UInt8 := [181, 0, 14, 16, 16, 172]
abbrev dktX1_combine_11 : List UInt8 := dkwX1_combine_11 ++ []
def dkwX1_combine_10 : List UInt8 := [54, 10, 132, 11, 255, 167, 255, 226, 25, 7, 21, 8, 21, 10, 79, 132, 8, 1, 167, 255, 81, 42, 25, 7]
abbrev dktX1_combine_10 : List UInt8 := dkwX1_combine_10 ++ dktX1_combine_11
def dkwX1_combine_9 : List UInt8 := [155, 0, 31, 21, 10, 25, 5, 21, 11, 46, 4, 96, 21, 4, 184, 0, 18, 25, 9, 21, 11, 46, 130]
abbrev dktX1_combine_9 : List UInt8 := dkwX1_combine_9 ++ dktX1_combine_10
def dkwX1_combine_8 : List UInt8 := [132, 11, 255, 167, 255, 205, 132, 10, 1, 167, 255, 186, 3, 54, 10, 21, 6, 4, 100, 54, 11, 21, 11]
abbrev dktX1_combine_8 : List UInt8 := dkwX1_combine_8 ++ dktX1_combine_9
def dkwX1_combine_7 : List UInt8 := [25, 5, 21, 11, 46, 4, 96, 25, 5, 21, 11, 21, 10, 100, 46, 4, 96, 130, 21, 4, 184, 0, 22, 79]
abbrev dktX1_combine_7 : List UInt8 := dkwX1_combine_7 ++ dktX1_combine_8
def dkwX1_combine_6 : List UInt8 := [21, 11, 21, 10, 161, 0, 50, 25, 9, 21, 11, 25, 9, 21, 11, 46, 25, 9, 21, 11, 4, 100, 46, 130]
abbrev dktX1_combine_6 : List UInt8 := dkwX1_combine_6 ++ dktX1_combine_7
def dkwX1_combine_5 : List UInt8 := [79, 132, 10, 1, 167, 255, 228, 4, 54, 10, 21, 10, 21, 6, 162, 0, 69, 21, 6, 4, 100, 54, 11]
abbrev dktX1_combine_5 : List UInt8 := dkwX1_combine_5 ++ dktX1_combine_6
def dkwX1_combine_4 : List UInt8 := [21, 10, 21, 6, 162, 0, 27, 25, 9, 21, 10, 42, 180, 0, 9, 25, 5, 21, 10, 46, 50, 21, 8, 46]
abbrev dktX1_combine_4 : List UInt8 := dkwX1_combine_4 ++ dktX1_combine_5
def dkwX1_combine_3 : List UInt8 := [188, 10, 58, 7, 3, 54, 8, 21, 8, 16, 16, 162, 0, 174, 21, 6, 188, 10, 58, 9, 3, 54, 10]
abbrev dktX1_combine_3 : List UInt8 := dkwX1_combine_3 ++ dktX1_combine_4
def dkwX1_combine_2 : List UInt8 := [21, 6, 21, 7, 79, 132, 6, 1, 132, 7, 1, 167, 255, 226, 21, 6, 154, 0, 5, 2, 172, 16, 16]
abbrev dktX1_combine_2 : List UInt8 := dkwX1_combine_2 ++ dktX1_combine_3
def dkwX1_combine_1 : List UInt8 := [54, 6, 3, 54, 7, 21, 7, 16, 8, 162, 0, 29, 29, 21, 7, 122, 4, 126, 4, 160, 0, 13, 25, 5]
abbrev dktX1_combine_1 : List UInt8 := dkwX1_combine_1 ++ dktX1_combine_2
def dkwX1_combine_0 : List UInt8 := [27, 4, 126, 154, 0, 9, 17, 1, 27, 167, 0, 6, 17, 1, 29, 54, 4, 16, 8, 188, 10, 58, 5, 3]
abbrev dktX1_combine_0 : List UInt8 := dkwX1_combine_0 ++ dktX1_combine_1
theorem dksX1_combine_0 : cX1_combine.data.toList.drop 0 = dktX1_combine_0 := by decide +kernel
theorem dksX1_combine_1 : cX1_combine.data.toList.drop 24 = dktX1_combine_1 := dk_seg dksX1_combine_0 24 rfl rfl
theorem dksX1_combine_2 : cX1_combine.data.toList.drop 48 = dktX1_combine_2 := dk_seg dksX1_combine_1 24 rfl rfl
theorem dksX1_combine_3 : cX1_combine.data.toList.drop 71 = dktX1_combine_3 := dk_seg dksX1_combine_2 23 rfl rfl
theorem dksX1_combine_4 : cX1_combine.data.toList.drop 94 = dktX1_combine_4 := dk_seg dksX1_combine_3 23 rfl rfl
theorem dksX1_combine_5 : cX1_combine.data.toList.drop 118 = dktX1_combine_5 := dk_seg dksX1_combine_4 24 rfl rfl
theorem dksX1_combine_6 : cX1_combine.data.toList.drop 141 = dktX1_combine_6 := dk_seg dksX1_combine_5 23 rfl rfl
theorem dksX1_combine_7 : cX1_combine.data.toList.drop 165 = dktX1_combine_7 := dk_seg dksX1_combine_6 24 rfl rfl
theorem dksX1_combine_8 : cX1_combine.data.toList.drop 189 = dktX1_combine_8 := dk_seg dksX1_combine_7 24 rfl rfl
theorem dksX1_combine_9 : cX1_combine.data.toList.drop 212 = dktX1_combine_9 := dk_seg dksX1_combine_8 23 rfl rfl
theorem dksX1_combine_10 : cX1_combine.data.toList.drop 235 = dktX1_combine_10 := dk_seg dksX1_combine_9 23 rfl rfl
theorem dksX1_combine_11 : cX1_combine.data.toList.drop 259 = dktX1_combine_11 := dk_seg dksX1_combine_10 24 rfl rfl
theorem dX1_combine_0 : decode cX1_combine 0 = .ok (.iload_n 1, 1) := dk_27 (dk_at dksX1_combine_0 0 rfl rfl)
theorem dX1_combine_1 : decode cX1_combine 1 = .ok (.iconst 1, 1) := dk_4 (dk_at dksX1_combine_0 1 rfl rfl)
theorem dX1_combine_2 : decode cX1_combine 2 = .ok (.iand, 1) := dk_126 (dk_at dksX1_combine_0 2 rfl rfl)
theorem dX1_combine_3 : decode cX1_combine 3 = .ok (.ifCond .ne 9, 3) := dk_154 0 9 (dk_at dksX1_combine_0 3 rfl rfl)
theorem dX1_combine_6 : decode cX1_combine 6 = .ok (.sipush 283, 3) := dk_17 1 27 (dk_at dksX1_combine_0 6 rfl rfl)
theorem dX1_combine_9 : decode cX1_combine 9 = .ok (.goto 6, 3) := dk_167 0 6 (dk_at dksX1_combine_0 9 rfl rfl)
theorem dX1_combine_12 : decode cX1_combine 12 = .ok (.sipush 285, 3) := dk_17 1 29 (dk_at dksX1_combine_0 12 rfl rfl)
theorem dX1_combine_15 : decode cX1_combine 15 = .ok (.istore 4, 2) := dk_54 4 (dk_at dksX1_combine_0 15 rfl rfl)
theorem dX1_combine_17 : decode cX1_combine 17 = .ok (.bipush 8, 2) := dk_16 8 (dk_at dksX1_combine_0 17 rfl rfl)
theorem dX1_combine_19 : decode cX1_combine 19 = .ok (.newarray .int, 2) := dk_188_10 (dk_at dksX1_combine_0 19 rfl rfl)
theorem dX1_combine_21 : decode cX1_combine 21 = .ok (.astore 5, 2) := dk_58 5 (dk_at dksX1_combine_0 21 rfl rfl)
theorem dX1_combine_23 : decode cX1_combine 23 = .ok (.iconst 0, 1) := dk_3 (dk_at dksX1_combine_0 23 rfl rfl)
theorem dX1_combine_24 : decode cX1_combine 24 = .ok (.istore 6, 2) := dk_54 6 (dk_at dksX1_combine_1 0 rfl rfl)
theorem dX1_combine_26 : decode cX1_combine 26 = .ok (.iconst 0, 1) := dk_3 (dk_at dksX1_combine_1 2 rfl rfl)
theorem dX1_combine_27 : decode cX1_combine 27 = .ok (.istore 7, 2) := dk_54 7 (dk_at dksX1_combine_1 3 rfl rfl)
theorem dX1_combine_29 : decode cX1_combine 29 = .ok (.iload 7, 2) := dk_21 7 (dk_at dksX1_combine_1 5 rfl rfl)
theorem dX1_combine_31 : decode cX1_combine 31 = .ok (.bipush 8, 2) := dk_16 8 (dk_at dksX1_combine_1 7 rfl rfl)
theorem dX1_combine_33 : decode cX1_combine 33 = .ok (.if_icmp .ge 29, 3) := dk_162 0 29 (dk_at dksX1_combine_1 9 rfl rfl)
theorem dX1_combine_36 : decode cX1_combine 36 = .ok (.iload_n 3, 1) := dk_29 (dk_at dksX1_combine_1 12 rfl rfl)
theorem dX1_combine_37 : decode cX1_combine 37 = .ok (.iload 7, 2) := dk_21 7 (dk_at dksX1_combine_1 13 rfl rfl)
theorem dX1_combine_39 : decode cX1_combine 39 = .ok (.ishr, 1) := dk_122 (dk_at dksX1_combine_1 15 rfl rfl)
theorem dX1_combine_40 : decode cX1_combine 40 = .ok (.iconst 1, 1) := dk_4 (dk_at dksX1_combine_1 16 rfl rfl)
theorem dX1_combine_41 : decode cX1_combine 41 = .ok (.iand, 1) := dk_126 (dk_at dksX1_combine_1 17 rfl rfl)
theorem dX1_combine_42 : decode cX1_combine 42 = .ok (.iconst 1, 1) := dk_4 (dk_at dksX1_combine_1 18 rfl rfl)
theorem dX1_combine_43 : decode cX1_combine 43 = .ok (.if_icmp .ne 13, 3) := dk_160 0 13 (dk_at dksX1_combine_1 19 rfl rfl)
theorem dX1_combine_46 : decode cX1_combine 46 = .ok (.aload 5, 2) := dk_25 5 (dk_at dksX1_combine_1 22 rfl rfl)
theorem dX1_combine_48 : decode cX1_combine 48 = .ok (.iload 6, 2) := dk_21 6 (dk_at dksX1_combine_2 0 rfl rfl)
theorem dX1_combine_50 : decode cX1_combine 50 = .ok (.iload 7, 2) := dk_21 7 (dk_at dksX1_combine_2 2 rfl rfl)
theorem dX1_combine_52 : decode cX1_combine 52 = .ok (.iastore, 1) := dk_79 (dk_at dksX1_combine_2 4 rfl rfl)
theorem dX1_combine_53 : decode cX1_combine 53 = .ok (.iinc 6 1, 3) := dk_132 6 1 (dk_at dksX1_combine_2 5 rfl rfl)
theorem dX1_combine_56 : decode cX1_combine 56 = .ok (.iinc 7 1, 3) := dk_132 7 1 (dk_at dksX1_combine_2 8 rfl rfl)
theorem dX1_combine_59 : decode cX1_combine 59 = .ok (.goto (-30), 3) := dk_167 255 226 (dk_at dksX1_combine_2 11 rfl rfl)
theorem dX1_combine_62 : decode cX1_combine 62 = .ok (.iload 6, 2) := dk_21 6 (dk_at dksX1_combine_2 14 rfl rfl)
theorem dX1_combine_64 : decode cX1_combine 64 = .ok (.ifCond .ne 5, 3) := dk_154 0 5 (dk_at dksX1_combine_2 16 rfl rfl)
theorem dX1_combine_67 : decode cX1_combine 67 = .ok (.iconst (-1), 1) := dk_2 (dk_at dksX1_combine_2 19 rfl rfl)
theorem dX1_combine_68 : decode cX1_combine 68 = .ok (.ireturn, 1) := dk_172 (dk_at dksX1_combine_2 20 rfl rfl)
theorem dX1_combine_69 : decode cX1_combine 69 = .ok (.bipush 16, 2) := dk_16 16 (dk_at dksX1_combine_2 21 rfl rfl)
theorem dX1_combine_71 : decode cX1_combine 71 = .ok (.newarray .int, 2) := dk_188_10 (dk_at dksX1_combine_3 0 rfl rfl)
theorem dX1_combine_73 : decode cX1_combine 73 = .ok (.astore 7, 2) := dk_58 7 (dk_at dksX1_combine_3 2 rfl rfl)
theorem dX1_combine_75 : decode cX1_combine 75 = .ok (.iconst 0, 1) := dk_3 (dk_at dksX1_combine_3 4 rfl rfl)
theorem dX1_combine_76 : decode cX1_combine 76 = .ok (.istore 8, 2) := dk_54 8 (dk_at dksX1_combine_3 5 rfl rfl)
theorem dX1_combine_78 : decode cX1_combine 78 = .ok (.iload 8, 2) := dk_21 8 (dk_at dksX1_combine_3 7 rfl rfl)
theorem dX1_combine_80 : decode cX1_combine 80 = .ok (.bipush 16, 2) := dk_16 16 (dk_at dksX1_combine_3 9 rfl rfl)
theorem dX1_combine_82 : decode cX1_combine 82 = .ok (.if_icmp .ge 174, 3) := dk_162 0 174 (dk_at dksX1_combine_3 11 rfl rfl)
theorem dX1_combine_85 : decode cX1_combine 85 = .ok (.iload 6, 2) := dk_21 6 (dk_at dksX1_combine_3 14 rfl rfl)
theorem dX1_combine_87 : decode cX1_combine 87 = .ok (.newarray .int, 2) := dk_188_10 (dk_at dksX1_combine_3 16 rfl rfl)
theorem dX1_combine_89 : decode cX1_combine 89 = .ok (.astore 9, 2) := dk_58 9 (dk_at dksX1_combine_3 18 rfl rfl)
theorem dX1_combine_91 : decode cX1_combine 91 = .ok (.iconst 0, 1) := dk_3 (dk_at dksX1_combine_3 20 rfl rfl)
theorem dX1_combine_92 : decode cX1_combine 92 = .ok (.istore 10, 2) := dk_54 10 (dk_at dksX1_combine_3 21 rfl rfl)
theorem dX1_combine_94 : decode cX1_combine 94 = .ok (.iload 10, 2) := dk_21 10 (dk_at dksX1_combine_4 0 rfl rfl)
theorem dX1_combine_96 : decode cX1_combine 96 = .ok (.iload 6, 2) := dk_21 6 (dk_at dksX1_combine_4 2 rfl rfl)
theorem dX1_combine_98 : decode cX1_combine 98 = .ok (.if_icmp .ge 27, 3) := dk_162 0 27 (dk_at dksX1_combine_4 4 rfl rfl)
theorem dX1_combine_101 : decode cX1_combine 101 = .ok (.aload 9, 2) := dk_25 9 (dk_at dksX1_combine_4 7 rfl rfl)
theorem dX1_combine_103 : decode cX1_combine 103 = .ok (.iload 10, 2) := dk_21 10 (dk_at dksX1_combine_4 9 rfl rfl)
theorem dX1_combine_105 : decode cX1_combine 105 = .ok (.aload_n 0, 1) := dk_42 (dk_at dksX1_combine_4 11 rfl rfl)
theorem dX1_combine_106 : decode cX1_combine 106 = .ok (.getfield 9, 3) := dk_180 0 9 (dk_at dksX1_combine_4 12 rfl rfl)
theorem dX1_combine_109 : decode cX1_combine 109 = .ok (.aload 5, 2) := dk_25 5 (dk_at dksX1_combine_4 15 rfl rfl)
theorem dX1_combine_111 : decode cX1_combine 111 = .ok (.iload 10, 2) := dk_21 10 (dk_at dksX1_combine_4 17 rfl rfl)
theorem dX1_combine_113 : decode cX1_combine 113 = .ok (.iaload, 1) := dk_46 (dk_at dksX1_combine_4 19 rfl rfl)
theorem dX1_combine_114 : decode cX1_combine 114 = .ok (.aaload, 1) := dk_50 (dk_at dksX1_combine_4 20 rfl rfl)
theorem dX1_combine_115 : decode cX1_combine 115 = .ok (.iload 8, 2) := dk_21 8 (dk_at dksX1_combine_4 21 rfl rfl)
theorem dX1_combine_117 : decode cX1_combine 117 = .ok (.iaload, 1) := dk_46 (dk_at dksX1_combine_4 23 rfl rfl)
theorem dX1_combine_118 : decode cX1_combine 118 = .ok (.iastore, 1) := dk_79 (dk_at dksX1_combine_5 0 rfl rfl)
theorem dX1_combine_119 : decode cX1_combine 119 = .ok (.iinc 10 1, 3) := dk_132 10 1 (dk_at dksX1_combine_5 1 rfl rfl)
theorem dX1_combine_122 : decode cX1_combine 122 = .ok (.goto (-28), 3) := dk_167 255 228 (dk_at dksX1_combine_5 4 rfl rfl)
theorem dX1_combine_125 : decode cX1_combine 125 = .ok (.iconst 1, 1) := dk_4 (dk_at dksX1_combine_5 7 rfl rfl)
theorem dX1_combine_126 : decode cX1_combine 126 = .ok (.istore 10, 2) := dk_54 10 (dk_at dksX1_combine_5 8 rfl rfl)
theorem dX1_combine_128 : decode cX1_combine 128 = .ok (.iload 10, 2) := dk_21 10 (dk_at dksX1_combine_5 10 rfl rfl)
theorem dX1_combine_130 : decode cX1_combine 130 = .ok (.iload 6, 2) := dk_21 6 (dk_at dksX1_combine_5 12 rfl rfl)
theorem dX1_combine_132 : decode cX1_combine 132 = .ok (.if_icmp .ge 69, 3) := dk_162 0 69 (dk_at dksX1_combine_5 14 rfl rfl)
theorem dX1_combine_135 : decode cX1_combine 135 = .ok (.iload 6, 2) := dk_21 6 (dk_at dksX1_combine_5 17 rfl rfl)
theorem dX1_combine_137 : decode cX1_combine 137 = .ok (.iconst 1, 1) := dk_4 (dk_at dksX1_combine_5 19 rfl rfl)
theorem dX1_combine_138 : decode cX1_combine 138 = .ok (.isub, 1) := dk_100 (dk_at dksX1_combine_5 20 rfl rfl)
theorem dX1_combine_139 : decode cX1_combine 139 = .ok (.istore 11, 2) := dk_54 11 (dk_at dksX1_combine_5 21 rfl rfl)
theorem dX1_combine_141 : decode cX1_combine 141 = .ok (.iload 11, 2) := dk_21 11 (dk_at dksX1_combine_6 0 rfl rfl)
theorem dX1_combine_143 : decode cX1_combine 143 = .ok (.iload 10, 2) := dk_21 10 (dk_at dksX1_combine_6 2 rfl rfl)
theorem dX1_combine_145 : decode cX1_combine 145 = .ok (.if_icmp .lt 50, 3) := dk_161 0 50 (dk_at dksX1_combine_6 4 rfl rfl)
theorem dX1_combine_148 : decode cX1_combine 148 = .ok (.aload 9, 2) := dk_25 9 (dk_at dksX1_combine_6 7 rfl rfl)
theorem dX1_combine_150 : decode cX1_combine 150 = .ok (.iload 11, 2) := dk_21 11 (dk_at dksX1_combine_6 9 rfl rfl)
theorem dX1_combine_152 : decode cX1_combine 152 = .ok (.aload 9, 2) := dk_25 9 (dk_at dksX1_combine_6 11 rfl rfl)
theorem dX1_combine_154 : decode cX1_combine 154 = .ok (.iload 11, 2) := dk_21 11 (dk_at dksX1_combine_6 13 rfl rfl)
theorem dX1_combine_156 : decode cX1_combine 156 = .ok (.iaload, 1) := dk_46 (dk_at dksX1_combine_6 15 rfl rfl)
theorem dX1_combine_157 : decode cX1_combine 157 = .ok (.aload 9, 2) := dk_25 9 (dk_at dksX1_combine_6 16 rfl rfl)
theorem dX1_combine_159 : decode cX1_combine 159 = .ok (.iload 11, 2) := dk_21 11 (dk_at dksX1_combine_6 18 rfl rfl)
theorem dX1_combine_161 : decode cX1_combine 161 = .ok (.iconst 1, 1) := dk_4 (dk_at dksX1_combine_6 20 rfl rfl)
theorem dX1_combine_162 : decode cX1_combine 162 = .ok (.isub, 1) := dk_100 (dk_at dksX1_combine_6 21 rfl rfl)
theorem dX1_combine_163 : decode cX1_combine 163 = .ok (.iaload, 1) := dk_46 (dk_at dksX1_combine_6 22 rfl rfl)
theorem dX1_combine_164 : decode cX1_combine 164 = .ok (.ixor, 1) := dk_130 (dk_at dksX1_combine_6 23 rfl rfl)
theorem dX1_combine_165 : decode cX1_combine 165 = .ok (.aload 5, 2) := dk_25 5 (dk_at dksX1_combine_7 0 rfl rfl)
theorem dX1_combine_167 : decode cX1_combine 167 = .ok (.iload 11, 2) := dk_21 11 (dk_at dksX1_combine_7 2 rfl rfl)
theorem dX1_combine_169 : decode cX1_combine 169 = .ok (.iaload, 1) := dk_46 (dk_at dksX1_combine_7 4 rfl rfl)
theorem dX1_combine_170 : decode cX1_combine 170 = .ok (.iconst 1, 1) := dk_4 (dk_at dksX1_combine_7 5 rfl rfl)
theorem dX1_combine_171 : decode cX1_combine 171 = .ok (.iadd, 1) := dk_96 (dk_at dksX1_combine_7 6 rfl rfl)
theorem dX1_combine_172 : decode cX1_combine 172 = .ok (.aload 5, 2) := dk_25 5 (dk_at dksX1_combine_7 7 rfl rfl)
theorem dX1_combine_174 : decode cX1_combine 174 = .ok (.iload 11, 2) := dk_21 11 (dk_at dksX1_combine_7 9 rfl rfl)
theorem dX1_combine_176 : decode cX1_combine 176 = .ok (.iload 10, 2) := dk_21 10 (dk_at dksX1_combine_7 11 rfl rfl)
theorem dX1_combine_178 : decode cX1_combine 178 = .ok (.isub, 1) := dk_100 (dk_at dksX1_combine_7 13 rfl rfl)
theorem dX1_combine_179 : decode cX1_combine 179 = .ok (.iaload, 1) := dk_46 (dk_at dksX1_combine_7 14 rfl rfl)
theorem dX1_combine_180 : decode cX1_combine 180 = .ok (.iconst 1, 1) := dk_4 (dk_at dksX1_combine_7 15 rfl rfl)
theorem dX1_combine_181 : decode cX1_combine 181 = .ok (.iadd, 1) := dk_96 (dk_at dksX1_combine_7 16 rfl rfl)
theorem dX1_combine_182 : decode cX1_combine 182 = .ok (.ixor, 1) := dk_130 (dk_at dksX1_combine_7 17 rfl rfl)
theorem dX1_combine_183 : decode cX1_combine 183 = .ok (.iload 4, 2) := dk_21 4 (dk_at dksX1_combine_7 18 rfl rfl)
theorem dX1_combine_185 : decode cX1_combine 185 = .ok (.invokestatic 22, 3) := dk_184 0 22 (dk_at dksX1_combine_7 20 rfl rfl)
theorem dX1_combine_188 : decode cX1_combine 188 = .ok (.iastore, 1) := dk_79 (dk_at dksX1_combine_7 23 rfl rfl)
theorem dX1_combine_189 : decode cX1_combine 189 = .ok (.iinc 11 (-1), 3) := dk_132 11 255 (dk_at dksX1_combine_8 0 rfl rfl)
theorem dX1_combine_192 : decode cX1_combine 192 = .ok (.goto (-51), 3) := dk_167 255 205 (dk_at dksX1_combine_8 3 rfl rfl)
theorem dX1_combine_195 : decode cX1_combine 195 = .ok (.iinc 10 1, 3) := dk_132 10 1 (dk_at dksX1_combine_8 6 rfl rfl)
theorem dX1_combine_198 : decode cX1_combine 198 = .ok (.goto (-70), 3) := dk_167 255 186 (dk_at dksX1_combine_8 9 rfl rfl)
theorem dX1_combine_201 : decode cX1_combine 201 = .ok (.iconst 0, 1) := dk_3 (dk_at dksX1_combine_8 12 rfl rfl)
theorem dX1_combine_202 : decode cX1_combine 202 = .ok (.istore 10, 2) := dk_54 10 (dk_at dksX1_combine_8 13 rfl rfl)
theorem dX1_combine_204 : decode cX1_combine 204 = .ok (.iload 6, 2) := dk_21 6 (dk_at dksX1_combine_8 15 rfl rfl)
theorem dX1_combine_206 : decode cX1_combine 206 = .ok (.iconst 1, 1) := dk_4 (dk_at dksX1_combine_8 17 rfl rfl)
theorem dX1_combine_207 : decode cX1_combine 207 = .ok (.isub, 1) := dk_100 (dk_at dksX1_combine_8 18 rfl rfl)
theorem dX1_combine_208 : decode cX1_combine 208 = .ok (.istore 11, 2) := dk_54 11 (dk_at dksX1_combine_8 19 rfl rfl)
theorem dX1_combine_210 : decode cX1_combine 210 = .ok (.iload 11, 2) := dk_21 11 (dk_at dksX1_combine_8 21 rfl rfl)
theorem dX1_combine_212 : decode cX1_combine 212 = .ok (.ifCond .lt 31, 3) := dk_155 0 31 (dk_at dksX1_combine_9 0 rfl rfl)
theorem dX1_combine_215 : decode cX1_combine 215 = .ok (.iload 10, 2) := dk_21 10 (dk_at dksX1_combine_9 3 rfl rfl)
theorem dX1_combine_217 : decode cX1_combine 217 = .ok (.aload 5, 2) := dk_25 5 (dk_at dksX1_combine_9 5 rfl rfl)
theorem dX1_combine_219 : decode cX1_combine 219 = .ok (.iload 11, 2) := dk_21 11 (dk_at dksX1_combine_9 7 rfl rfl)
theorem dX1_combine_221 : decode cX1_combine 221 = .ok (.iaload, 1) := dk_46 (dk_at dksX1_combine_9 9 rfl rfl)
theorem dX1_combine_222 : decode cX1_combine 222 = .ok (.iconst 1, 1) := dk_4 (dk_at dksX1_combine_9 10 rfl rfl)
theorem dX1_combine_223 : decode cX1_combine 223 = .ok (.iadd, 1) := dk_96 (dk_at dksX1_combine_9 11 rfl rfl)
theorem dX1_combine_224 : decode cX1_combine 224 = .ok (.iload 4, 2) := dk_21 4 (dk_at dksX1_combine_9 12 rfl rfl)
theorem dX1_combine_226 : decode cX1_combine 226 = .ok (.invokestatic 18, 3) := dk_184 0 18 (dk_at dksX1_combine_9 14 rfl rfl)
theorem dX1_combine_229 : decode cX1_combine 229 = .ok (.aload 9, 2) := dk_25 9 (dk_at dksX1_combine_9 17 rfl rfl)
theorem dX1_combine_231 : decode cX1_combine 231 = .ok (.iload 11, 2) := dk_21 11 (dk_at dksX1_combine_9 19 rfl rfl)
theorem dX1_combine_233 : decode cX1_combine 233 = .ok (.iaload, 1) := dk_46 (dk_at dksX1_combine_9 21 rfl rfl)
theorem dX1_combine_234 : decode cX1_combine 234 = .ok (.ixor, 1) := dk_130 (dk_at dksX1_combine_9 22 rfl rfl)
theorem dX1_combine_235 : decode cX1_combine 235 = .ok (.istore 10, 2) := dk_54 10 (dk_at dksX1_combine_10 0 rfl rfl)
theorem dX1_combine_237 : decode cX1_combine 237 = .ok (.iinc 11 (-1), 3) := dk_132 11 255 (dk_at dksX1_combine_10 2 rfl rfl)
theorem dX1_combine_240 : decode cX1_combine 240 = .ok (.goto (-30), 3) := dk_167 255 226 (dk_at dksX1_combine_10 5 rfl rfl)
theorem dX1_combine_243 : decode cX1_combine 243 = .ok (.aload 7, 2) := dk_25 7 (dk_at dksX1_combine_10 8 rfl rfl)
theorem dX1_combine_245 : decode cX1_combine 245 = .ok (.iload 8, 2) := dk_21 8 (dk_at dksX1_combine_10 10 rfl rfl)
theorem dX1_combine_247 : decode cX1_combine 247 = .ok (.iload 10, 2) := dk_21 10 (dk_at dksX1_combine_10 12 rfl rfl)
theorem dX1_combine_249 : decode cX1_combine 249 = .ok (.iastore, 1) := dk_79 (dk_at dksX1_combine_10 14 rfl rfl)
theorem dX1_combine_250 : decode cX1_combine 250 = .ok (.iinc 8 1, 3) := dk_132 8 1 (dk_at dksX1_combine_10 15 rfl rfl)
theorem dX1_combine_253 : decode cX1_combine 253 = .ok (.goto (-175), 3) := dk_167 255 81 (dk_at dksX1_combine_10 18 rfl rfl)
theorem dX1_combine_256 : decode cX1_combine 256 = .ok (.aload_n 0, 1) := dk_42 (dk_at dksX1_combine_10 21 rfl rfl)
theorem dX1_combine_257 : decode cX1_combine 257 = .ok (.aload 7, 2) := dk_25 7 (dk_at dksX1_combine_10 22 rfl rfl)
theorem dX1_combine_259 : decode cX1_combine 259 = .ok (.putfield 14, 3) := dk_181 0 14 (dk_at dksX1_combine_11 0 rfl rfl)
theorem dX1_combine_262 : decode cX1_combine 262 = .ok (.bipush 16, 2) := dk_16 16 (dk_at dksX1_combine_11 3 rfl rfl)
theorem dX1_combine_264 : decode cX1_combine 264 = .ok (.ireturn, 1) := dk_172 (dk_at dksX1_combine_11 5 rfl rfl)
abbrev cX1_by : ByteArray := prog_11_method_4_code
def yX1_by : MethodName := ⟨RX1, "by", "(III)I"⟩
def dkwX1_by_1 : List UInt8 := [132, 4, 1, 167, 255, 234, 26, 29, 29, 28, 184, 0, 18, 28, 184, 0, 18, 172]
abbrev dktX1_by_1 : List UInt8 := dkwX1_by_1 ++ []
def dkwX1_by_0 : List UInt8 := [27, 62, 3, 54, 4, 21, 4, 16, 6, 162, 0, 21, 29, 29, 28, 184, 0, 18, 27, 28, 184, 0, 18, 62]
abbrev dktX1_by_0 : List UInt8 := dkwX1_by_0 ++ dktX1_by_1
theorem dksX1_by_0 : cX1_by.data.toList.drop 0 = dktX1_by_0 := by decide +kernel
theorem dksX1_by_1 : cX1_by.data.toList.drop 24 = dktX1_by_1 := dk_seg dksX1_by_0 24 rfl rfl
theorem dX1_by_0 : decode cX1_by 0 = .ok (.iload_n 1, 1) := dk_27 (dk_at dksX1_by_0 0 rfl rfl)
theorem dX1_by_1 : decode cX1_by 1 = .ok (.istore_n 3, 1) := dk_62 (dk_at dksX1_by_0 1 rfl rfl)
theorem dX1_by_2 : decode cX1_by 2 = .ok (.iconst 0, 1) := dk_3 (dk_at dksX1_by_0 2 rfl rfl)
theorem dX1_by_3 : decode cX1_by 3 = .ok (.istore 4, 2) := dk_54 4 (dk_at dksX1_by_0 3 rfl rfl)
theorem dX1_by_5 : decode cX1_by 5 = .ok (.iload 4, 2) := dk_21 4 (dk_at dksX1_by_0 5 rfl rfl)
theorem dX1_by_7 : decode cX1_by 7 = .ok (.bipush 6, 2) := dk_16 6 (dk_at dksX1_by_0 7 rfl rfl)
theorem dX1_by_9 : decode cX1_by 9 = .ok (.if_icmp .ge 21, 3) := dk_162 0 21 (dk_at dksX1_by_0 9 rfl rfl)
theorem dX1_by_12 : decode cX1_by 12 = .ok (.iload_n 3, 1) := dk_29 (dk_at dksX1_by_0 12 rfl rfl)
theorem dX1_by_13 : decode cX1_by 13 = .ok (.iload_n 3, 1) := dk_29 (dk_at dksX1_by_0 13 rfl rfl)
theorem dX1_by_14 : decode cX1_by 14 = .ok (.iload_n 2, 1) := dk_28 (dk_at dksX1_by_0 14 rfl rfl)
theorem dX1_by_15 : decode cX1_by 15 = .ok (.invokestatic 18, 3) := dk_184 0 18 (dk_at dksX1_by_0 15 rfl rfl)
theorem dX1_by_18 : decode cX1_by 18 = .ok (.iload_n 1, 1) := dk_27 (dk_at dksX1_by_0 18 rfl rfl)
theorem dX1_by_19 : decode cX1_by 19 = .ok (.iload_n 2, 1) := dk_28 (dk_at dksX1_by_0 19 rfl rfl)
theorem dX1_by_20 : decode cX1_by 20 = .ok (.invokestatic 18, 3) := dk_184 0 18 (dk_at dksX1_by_0 20 rfl rfl)
theorem dX1_by_23 : decode cX1_by 23 = .ok (.istore_n 3, 1) := dk_62 (dk_at dksX1_by_0 23 rfl rfl)
theorem dX1_by_24 : decode cX1_by 24 = .ok (.iinc 4 1, 3) := dk_132 4 1 (dk_at dksX1_by_1 0 rfl rfl)
theorem dX1_by_27 : decode cX1_by 27 = .ok (.goto (-22), 3) := dk_167 255 234 (dk_at dksX1_by_1 3 rfl rfl)
theorem dX1_by_30 : decode cX1_by 30 = .ok (.iload_n 0, 1) := dk_26 (dk_at dksX1_by_1 6 rfl rfl)
theorem dX1_by_31 : decode cX1_by 31 = .ok (.iload_n 3, 1) := dk_29 (dk_at dksX1_by_1 7 rfl rfl)
theorem dX1_by_32 : decode cX1_by 32 = .ok (.iload_n 3, 1) := dk_29 (dk_at dksX1_by_1 8 rfl rfl)
theorem dX1_by_33 : decode cX1_by 33 = .ok (.iload_n 2, 1) := dk_28 (dk_at dksX1_by_1 9 rfl rfl)
theorem dX1_by_34 : decode cX1_by 34 = .ok (.invokestatic 18, 3) := dk_184 0 18 (dk_at dksX1_by_1 10 rfl rfl)
theorem dX1_by_37 : decode cX1_by 37 = .ok (.iload_n 2, 1) := dk_28 (dk_at dksX1_by_1 13 rfl rfl)
theorem dX1_by_38 : decode cX1_by 38 = .ok (.invokestatic 18, 3) := dk_184 0 18 (dk_at dksX1_by_1 14 rfl rfl)
theorem dX1_by_41 : decode cX1_by 41 = .ok (.ireturn, 1) := dk_172 (dk_at dksX1_by_1 17 rfl rfl)
abbrev cX1_times : ByteArray := prog_11_method_3_code
def yX1_times : MethodName := ⟨RX1, "times", "(III)I"⟩
def dkwX1_times_2 : List UInt8 := [132, 4, 255, 167, 255, 211, 29, 172]
abbrev dktX1_times_2 : List UInt8 := dkwX1_times_2 ++ []
def dkwX1_times_1 : List UInt8 := [167, 0, 4, 3, 130, 62, 29, 27, 21, 4, 122, 4, 126, 4, 160, 0, 7, 26, 167, 0, 4, 3, 130, 62]
abbrev dktX1_times_1 : List UInt8 := dkwX1_times_1 ++ dktX1_times_2
def dkwX1_times_0 : List UInt8 := [3, 62, 16, 7, 54, 4, 21, 4, 155, 0, 46, 29, 4, 120, 62, 29, 29, 17, 0, 255, 164, 0, 7, 28]
abbrev dktX1_times_0 : List UInt8 := dkwX1_times_0 ++ dktX1_times_1
theorem dksX1_times_0 : cX1_times.data.toList.drop 0 = dktX1_times_0 := by decide +kernel
theorem dksX1_times_1 : cX1_times.data.toList.drop 24 = dktX1_times_1 := dk_seg dksX1_times_0 24 rfl rfl
theorem dksX1_times_2 : cX1_times.data.toList.drop 48 = dktX1_times_2 := dk_seg dksX1_times_1 24 rfl rfl
theorem dX1_times_0 : decode cX1_times 0 = .ok (.iconst 0, 1) := dk_3 (dk_at dksX1_times_0 0 rfl rfl)
theorem dX1_times_1 : decode cX1_times 1 = .ok (.istore_n 3, 1) := dk_62 (dk_at dksX1_times_0 1 rfl rfl)
theorem dX1_times_2 : decode cX1_times 2 = .ok (.bipush 7, 2) := dk_16 7 (dk_at dksX1_times_0 2 rfl rfl)
theorem dX1_times_4 : decode cX1_times 4 = .ok (.istore 4, 2) := dk_54 4 (dk_at dksX1_times_0 4 rfl rfl)
theorem dX1_times_6 : decode cX1_times 6 = .ok (.iload 4, 2) := dk_21 4 (dk_at dksX1_times_0 6 rfl rfl)
theorem dX1_times_8 : decode cX1_times 8 = .ok (.ifCond .lt 46, 3) := dk_155 0 46 (dk_at dksX1_times_0 8 rfl rfl)
theorem dX1_times_11 : decode cX1_times 11 = .ok (.iload_n 3, 1) := dk_29 (dk_at dksX1_times_0 11 rfl rfl)
theorem dX1_times_12 : decode cX1_times 12 = .ok (.iconst 1, 1) := dk_4 (dk_at dksX1_times_0 12 rfl rfl)
theorem dX1_times_13 : decode cX1_times 13 = .ok (.ishl, 1) := dk_120 (dk_at dksX1_times_0 13 rfl rfl)
theorem dX1_times_14 : decode cX1_times 14 = .ok (.istore_n 3, 1) := dk_62 (dk_at dksX1_times_0 14 rfl rfl)
theorem dX1_times_15 : decode cX1_times 15 = .ok (.iload_n 3, 1) := dk_29 (dk_at dksX1_times_0 15 rfl rfl)
theorem dX1_times_16 : decode cX1_times 16 = .ok (.iload_n 3, 1) := dk_29 (dk_at dksX1_times_0 16 rfl rfl)
theorem dX1_times_17 : decode cX1_times 17 = .ok (.sipush 255, 3) := dk_17 0 255 (dk_at dksX1_times_0 17 rfl rfl)
theorem dX1_times_20 : decode cX1_times 20 = .ok (.if_icmp .le 7, 3) := dk_164 0 7 (dk_at dksX1_times_0 20 rfl rfl)
theorem dX1_times_23 : decode cX1_times 23 = .ok (.iload_n 2, 1) := dk_28 (dk_at dksX1_times_0 23 rfl rfl)
theorem dX1_times_24 : decode cX1_times 24 = .ok (.goto 4, 3) := dk_167 0 4 (dk_at dksX1_times_1 0 rfl rfl)
theorem dX1_times_27 : decode cX1_times 27 = .ok (.iconst 0, 1) := dk_3 (dk_at dksX1_times_1 3 rfl rfl)
theorem dX1_times_28 : decode cX1_times 28 = .ok (.ixor, 1) := dk_130 (dk_at dksX1_times_1 4 rfl rfl)
theorem dX1_times_29 : decode cX1_times 29 = .ok (.istore_n 3, 1) := dk_62 (dk_at dksX1_times_1 5 rfl rfl)
theorem dX1_times_30 : decode cX1_times 30 = .ok (.iload_n 3, 1) := dk_29 (dk_at dksX1_times_1 6 rfl rfl)
theorem dX1_times_31 : decode cX1_times 31 = .ok (.iload_n 1, 1) := dk_27 (dk_at dksX1_times_1 7 rfl rfl)
theorem dX1_times_32 : decode cX1_times 32 = .ok (.iload 4, 2) := dk_21 4 (dk_at dksX1_times_1 8 rfl rfl)
theorem dX1_times_34 : decode cX1_times 34 = .ok (.ishr, 1) := dk_122 (dk_at dksX1_times_1 10 rfl rfl)
theorem dX1_times_35 : decode cX1_times 35 = .ok (.iconst 1, 1) := dk_4 (dk_at dksX1_times_1 11 rfl rfl)
theorem dX1_times_36 : decode cX1_times 36 = .ok (.iand, 1) := dk_126 (dk_at dksX1_times_1 12 rfl rfl)
theorem dX1_times_37 : decode cX1_times 37 = .ok (.iconst 1, 1) := dk_4 (dk_at dksX1_times_1 13 rfl rfl)
theorem dX1_times_38 : decode cX1_times 38 = .ok (.if_icmp .ne 7, 3) := dk_160 0 7 (dk_at dksX1_times_1 14 rfl rfl)
theorem dX1_times_41 : decode cX1_times 41 = .ok (.iload_n 0, 1) := dk_26 (dk_at dksX1_times_1 17 rfl rfl)
theorem dX1_times_42 : decode cX1_times 42 = .ok (.goto 4, 3) := dk_167 0 4 (dk_at dksX1_times_1 18 rfl rfl)
theorem dX1_times_45 : decode cX1_times 45 = .ok (.iconst 0, 1) := dk_3 (dk_at dksX1_times_1 21 rfl rfl)
theorem dX1_times_46 : decode cX1_times 46 = .ok (.ixor, 1) := dk_130 (dk_at dksX1_times_1 22 rfl rfl)
theorem dX1_times_47 : decode cX1_times 47 = .ok (.istore_n 3, 1) := dk_62 (dk_at dksX1_times_1 23 rfl rfl)
theorem dX1_times_48 : decode cX1_times 48 = .ok (.iinc 4 (-1), 3) := dk_132 4 255 (dk_at dksX1_times_2 0 rfl rfl)
theorem dX1_times_51 : decode cX1_times 51 = .ok (.goto (-45), 3) := dk_167 255 211 (dk_at dksX1_times_2 3 rfl rfl)
theorem dX1_times_54 : decode cX1_times 54 = .ok (.iload_n 3, 1) := dk_29 (dk_at dksX1_times_2 6 rfl rfl)
theorem dX1_times_55 : decode cX1_times 55 = .ok (.ireturn, 1) := dk_172 (dk_at dksX1_times_2 7 rfl rfl)
abbrev cX1_out : ByteArray := prog_11_method_6_code
def yX1_out : MethodName := ⟨RX1, "out", "(I)I"⟩
def dkwX1_out_1 : List UInt8 := [190, 112, 46, 172]
abbrev dktX1_out_1 : List UInt8 := dkwX1_out_1 ++ []
def dkwX1_out_0 : List UInt8 := [42, 180, 0, 14, 190, 154, 0, 7, 2, 167, 0, 18, 42, 180, 0, 14, 27, 18, 25, 126, 42, 180, 0, 14]
abbrev dktX1_out_0 : List UInt8 := dkwX1_out_0 ++ dktX1_out_1
theorem dksX1_out_0 : cX1_out.data.toList.drop 0 = dktX1_out_0 := by decide +kernel
theorem dksX1_out_1 : cX1_out.data.toList.drop 24 = dktX1_out_1 := dk_seg dksX1_out_0 24 rfl rfl
theorem dX1_out_0 : decode cX1_out 0 = .ok (.aload_n 0, 1) := dk_42 (dk_at dksX1_out_0 0 rfl rfl)
theorem dX1_out_1 : decode cX1_out 1 = .ok (.getfield 14, 3) := dk_180 0 14 (dk_at dksX1_out_0 1 rfl rfl)
theorem dX1_out_4 : decode cX1_out 4 = .ok (.arraylength, 1) := dk_190 (dk_at dksX1_out_0 4 rfl rfl)
theorem dX1_out_5 : decode cX1_out 5 = .ok (.ifCond .ne 7, 3) := dk_154 0 7 (dk_at dksX1_out_0 5 rfl rfl)
theorem dX1_out_8 : decode cX1_out 8 = .ok (.iconst (-1), 1) := dk_2 (dk_at dksX1_out_0 8 rfl rfl)
theorem dX1_out_9 : decode cX1_out 9 = .ok (.goto 18, 3) := dk_167 0 18 (dk_at dksX1_out_0 9 rfl rfl)
theorem dX1_out_12 : decode cX1_out 12 = .ok (.aload_n 0, 1) := dk_42 (dk_at dksX1_out_0 12 rfl rfl)
theorem dX1_out_13 : decode cX1_out 13 = .ok (.getfield 14, 3) := dk_180 0 14 (dk_at dksX1_out_0 13 rfl rfl)
theorem dX1_out_16 : decode cX1_out 16 = .ok (.iload_n 1, 1) := dk_27 (dk_at dksX1_out_0 16 rfl rfl)
theorem dX1_out_17 : decode cX1_out 17 = .ok (.ldc 25, 2) := dk_18 25 (dk_at dksX1_out_0 17 rfl rfl)
theorem dX1_out_19 : decode cX1_out 19 = .ok (.iand, 1) := dk_126 (dk_at dksX1_out_0 19 rfl rfl)
theorem dX1_out_20 : decode cX1_out 20 = .ok (.aload_n 0, 1) := dk_42 (dk_at dksX1_out_0 20 rfl rfl)
theorem dX1_out_21 : decode cX1_out 21 = .ok (.getfield 14, 3) := dk_180 0 14 (dk_at dksX1_out_0 21 rfl rfl)
theorem dX1_out_24 : decode cX1_out 24 = .ok (.arraylength, 1) := dk_190 (dk_at dksX1_out_1 0 rfl rfl)
theorem dX1_out_25 : decode cX1_out 25 = .ok (.irem, 1) := dk_112 (dk_at dksX1_out_1 1 rfl rfl)
theorem dX1_out_26 : decode cX1_out 26 = .ok (.iaload, 1) := dk_46 (dk_at dksX1_out_1 2 rfl rfl)
theorem dX1_out_27 : decode cX1_out 27 = .ok (.ireturn, 1) := dk_172 (dk_at dksX1_out_1 3 rfl rfl)
theorem q3 : (Jvm.Cond.initialized "ShareDeskModel") ∈ lw_all := lw_g (lw_at lw_m1 2 rfl) rfl
theorem q220 : (Jvm.Cond.instantiable "ShareDeskModel" (2 : Nat)) ∈ lw_all := lw_g (lw_at lw_m1 219 rfl) rfl
theorem q222 : (Jvm.Cond.instanceMethod ({ cls := "ShareDeskModel", name := "<init>", desc := "()V" } : Jvm.MethodName)) ∈ lw_all := lw_g (lw_at lw_m1 221 rfl) rfl
theorem q223 : (Jvm.Cond.code ({ cls := "ShareDeskModel", name := "<init>", desc := "()V" } : Jvm.MethodName) prog_11_method_1_code (1 : Nat) (Option.none : Option Jvm.ClassFile.FieldType)) ∈ lw_all := lw_g (lw_at lw_m1 222 rfl) rfl
theorem q224 : (Jvm.Cond.methodLink "ShareDeskModel" (1 : Nat) ({ cls := "java/lang/Object", name := "<init>", desc := "()V" } : Jvm.MethodName)) ∈ lw_all := lw_g (lw_at lw_m1 223 rfl) rfl
theorem q225 : (Jvm.Cond.classLink "ShareDeskModel" (7 : Nat) "[[I") ∈ lw_all := lw_g (lw_at lw_m1 224 rfl) rfl
theorem q227 : (Jvm.Cond.fieldLink "ShareDeskModel" (9 : Nat) "ShareDeskModel" "shares" "[[I") ∈ lw_all := lw_g (lw_at lw_m1 226 rfl) rfl
theorem q228 : (Jvm.Cond.fieldLink "ShareDeskModel" (14 : Nat) "ShareDeskModel" "out" "[I") ∈ lw_all := lw_g (lw_at lw_m1 227 rfl) rfl
theorem q229 : (Jvm.Cond.laysFinal "ShareDeskModel" "ShareDeskModel" "shares" "[[I") ∈ lw_all := lw_g (lw_at lw_m1 228 rfl) rfl
theorem q230 : (Jvm.Cond.soleField "ShareDeskModel" "shares") ∈ lw_all := lw_g (lw_at lw_m1 229 rfl) rfl
theorem q231 : (Jvm.Cond.lays "ShareDeskModel" "ShareDeskModel" "out" "[I") ∈ lw_all := lw_g (lw_at lw_m1 230 rfl) rfl
theorem q232 : (Jvm.Cond.soleField "ShareDeskModel" "out") ∈ lw_all := lw_g (lw_at lw_m1 231 rfl) rfl
theorem q233 : (Jvm.Cond.superclass "ShareDeskModel" "java/lang/Object") ∈ lw_all := lw_g (lw_at lw_m1 232 rfl) rfl
theorem q236 : (Jvm.Cond.instanceMethod ({ cls := "ShareDeskModel", name := "lay", desc := "(IIIII)V" } : Jvm.MethodName)) ∈ lw_all := lw_g (lw_at lw_m1 235 rfl) rfl
theorem q237 : (Jvm.Cond.selects "ShareDeskModel" ({ cls := "ShareDeskModel", name := "lay", desc := "(IIIII)V" } : Jvm.MethodName) ({ cls := "ShareDeskModel", name := "lay", desc := "(IIIII)V" } : Jvm.MethodName)) ∈ lw_all := lw_g (lw_at lw_m1 236 rfl) rfl
theorem q238 : (Jvm.Cond.code ({ cls := "ShareDeskModel", name := "lay", desc := "(IIIII)V" } : Jvm.MethodName) prog_11_method_2_code (8 : Nat) (Option.none : Option Jvm.ClassFile.FieldType)) ∈ lw_all := lw_g (lw_at lw_m1 237 rfl) rfl
theorem q240 : (Jvm.Cond.instanceMethod ({ cls := "ShareDeskModel", name := "combine", desc := "(III)I" } : Jvm.MethodName)) ∈ lw_all := lw_g (lw_at lw_m1 239 rfl) rfl
theorem q241 : (Jvm.Cond.selects "ShareDeskModel" ({ cls := "ShareDeskModel", name := "combine", desc := "(III)I" } : Jvm.MethodName) ({ cls := "ShareDeskModel", name := "combine", desc := "(III)I" } : Jvm.MethodName)) ∈ lw_all := lw_g (lw_at lw_m2 0 rfl) rfl
theorem q242 : (Jvm.Cond.code ({ cls := "ShareDeskModel", name := "combine", desc := "(III)I" } : Jvm.MethodName) prog_11_method_5_code (12 : Nat) (Option.some Jvm.ClassFile.FieldType.int)) ∈ lw_all := lw_g (lw_at lw_m2 1 rfl) rfl
theorem q243 : (Jvm.Cond.methodLink "ShareDeskModel" (22 : Nat) ({ cls := "ShareDeskModel", name := "by", desc := "(III)I" } : Jvm.MethodName)) ∈ lw_all := lw_g (lw_at lw_m2 2 rfl) rfl
theorem q244 : (Jvm.Cond.static ({ cls := "ShareDeskModel", name := "by", desc := "(III)I" } : Jvm.MethodName)) ∈ lw_all := lw_g (lw_at lw_m2 3 rfl) rfl
theorem q245 : (Jvm.Cond.code ({ cls := "ShareDeskModel", name := "by", desc := "(III)I" } : Jvm.MethodName) prog_11_method_4_code (5 : Nat) (Option.some Jvm.ClassFile.FieldType.int)) ∈ lw_all := lw_g (lw_at lw_m2 4 rfl) rfl
theorem q246 : (Jvm.Cond.methodLink "ShareDeskModel" (18 : Nat) ({ cls := "ShareDeskModel", name := "times", desc := "(III)I" } : Jvm.MethodName)) ∈ lw_all := lw_g (lw_at lw_m2 5 rfl) rfl
theorem q247 : (Jvm.Cond.static ({ cls := "ShareDeskModel", name := "times", desc := "(III)I" } : Jvm.MethodName)) ∈ lw_all := lw_g (lw_at lw_m2 6 rfl) rfl
theorem q248 : (Jvm.Cond.code ({ cls := "ShareDeskModel", name := "times", desc := "(III)I" } : Jvm.MethodName) prog_11_method_3_code (5 : Nat) (Option.some Jvm.ClassFile.FieldType.int)) ∈ lw_all := lw_g (lw_at lw_m2 7 rfl) rfl
theorem q250 : (Jvm.Cond.instanceMethod ({ cls := "ShareDeskModel", name := "out", desc := "(I)I" } : Jvm.MethodName)) ∈ lw_all := lw_g (lw_at lw_m2 9 rfl) rfl
theorem q251 : (Jvm.Cond.selects "ShareDeskModel" ({ cls := "ShareDeskModel", name := "out", desc := "(I)I" } : Jvm.MethodName) ({ cls := "ShareDeskModel", name := "out", desc := "(I)I" } : Jvm.MethodName)) ∈ lw_all := lw_g (lw_at lw_m2 10 rfl) rfl
theorem q252 : (Jvm.Cond.code ({ cls := "ShareDeskModel", name := "out", desc := "(I)I" } : Jvm.MethodName) prog_11_method_6_code (2 : Nat) (Option.some Jvm.ClassFile.FieldType.int)) ∈ lw_all := lw_g (lw_at lw_m2 11 rfl) rfl
theorem q253 : (Jvm.Cond.constant "ShareDeskModel" (25 : Nat) (2147483647 : Int32)) ∈ lw_all := lw_g (lw_at lw_m2 12 rfl) rfl
theorem in_X1 : ∀ w ∈ wsX10, w ∈ lw_all := lw_in wsX10 [229, 231] (by decide +kernel) (by decide +kernel)
/-! ShamirSplitSecretShare -/
set_option maxRecDepth 100000
def RX2 : String := "ShamirSplitSecretShare"
def TX2 : u_T := fun k => match k with
  | 0 => ("ShamirSplitSecretShare", "secretShare", "[B", true)
  | _ => ("ShamirSplitSecretShare", "\x72", "I", true)
def tyX2 : Nat → FieldType := fun k => match k with
  | 0 => .array .byte
  | _ => .int
abbrev wsX20 : List Cond := u_ws RX2 TX2 2
theorem nmX2 : ∀ a, a < 2 → ∀ b, b < 2 → a ≠ b → (TX2 a).2.1 ≠ (TX2 b).2.1 := by decide +kernel
theorem tyX2_ok : ∀ k, k < 2 → parseFieldDescriptor (TX2 k).2.2.1 = some (tyX2 k) := by decide +kernel
abbrev cX2_init : ByteArray := prog_8_method_1_code
def yX2_init : MethodName := ⟨RX2, "<init>", "([BI)V"⟩
def dkwX2_init_0 : List UInt8 := [42, 183, 0, 1, 42, 43, 184, 0, 7, 181, 0, 13, 42, 28, 181, 0, 19, 177]
abbrev dktX2_init_0 : List UInt8 := dkwX2_init_0 ++ []
theorem dksX2_init_0 : cX2_init.data.toList.drop 0 = dktX2_init_0 := by decide +kernel
theorem dX2_init_0 : decode cX2_init 0 = .ok (.aload_n 0, 1) := dk_42 (dk_at dksX2_init_0 0 rfl rfl)
theorem dX2_init_1 : decode cX2_init 1 = .ok (.invokespecial 1, 3) := dk_183 0 1 (dk_at dksX2_init_0 1 rfl rfl)
theorem dX2_init_4 : decode cX2_init 4 = .ok (.aload_n 0, 1) := dk_42 (dk_at dksX2_init_0 4 rfl rfl)
theorem dX2_init_5 : decode cX2_init 5 = .ok (.aload_n 1, 1) := dk_43 (dk_at dksX2_init_0 5 rfl rfl)
theorem dX2_init_6 : decode cX2_init 6 = .ok (.invokestatic 7, 3) := dk_184 0 7 (dk_at dksX2_init_0 6 rfl rfl)
theorem dX2_init_9 : decode cX2_init 9 = .ok (.putfield 13, 3) := dk_181 0 13 (dk_at dksX2_init_0 9 rfl rfl)
theorem dX2_init_12 : decode cX2_init 12 = .ok (.aload_n 0, 1) := dk_42 (dk_at dksX2_init_0 12 rfl rfl)
theorem dX2_init_13 : decode cX2_init 13 = .ok (.iload_n 2, 1) := dk_28 (dk_at dksX2_init_0 13 rfl rfl)
theorem dX2_init_14 : decode cX2_init 14 = .ok (.putfield 19, 3) := dk_181 0 19 (dk_at dksX2_init_0 14 rfl rfl)
theorem dX2_init_17 : decode cX2_init 17 = .ok (.return_, 1) := dk_177 (dk_at dksX2_init_0 17 rfl rfl)
abbrev cX2_getEncoded : ByteArray := prog_8_method_2_code
def yX2_getEncoded : MethodName := ⟨RX2, "getEncoded", "()[B"⟩
def dkwX2_getEncoded_0 : List UInt8 := [42, 180, 0, 13, 184, 0, 7, 176]
abbrev dktX2_getEncoded_0 : List UInt8 := dkwX2_getEncoded_0 ++ []
theorem dksX2_getEncoded_0 : cX2_getEncoded.data.toList.drop 0 = dktX2_getEncoded_0 := by decide +kernel
theorem dX2_getEncoded_0 : decode cX2_getEncoded 0 = .ok (.aload_n 0, 1) := dk_42 (dk_at dksX2_getEncoded_0 0 rfl rfl)
theorem dX2_getEncoded_1 : decode cX2_getEncoded 1 = .ok (.getfield 13, 3) := dk_180 0 13 (dk_at dksX2_getEncoded_0 1 rfl rfl)
theorem dX2_getEncoded_4 : decode cX2_getEncoded 4 = .ok (.invokestatic 7, 3) := dk_184 0 7 (dk_at dksX2_getEncoded_0 4 rfl rfl)
theorem dX2_getEncoded_7 : decode cX2_getEncoded 7 = .ok (.areturn, 1) := dk_176 (dk_at dksX2_getEncoded_0 7 rfl rfl)
theorem q5 : (Jvm.Cond.initialized "ShamirSplitSecretShare") ∈ lw_all := lw_g (lw_at lw_m1 4 rfl) rfl
theorem q55 : (Jvm.Cond.instantiable "ShamirSplitSecretShare" (2 : Nat)) ∈ lw_all := lw_g (lw_at lw_m1 54 rfl) rfl
theorem q57 : (Jvm.Cond.instanceMethod ({ cls := "ShamirSplitSecretShare", name := "<init>", desc := "([BI)V" } : Jvm.MethodName)) ∈ lw_all := lw_g (lw_at lw_m1 56 rfl) rfl
theorem q58 : (Jvm.Cond.code ({ cls := "ShamirSplitSecretShare", name := "<init>", desc := "([BI)V" } : Jvm.MethodName) prog_8_method_1_code (3 : Nat) (Option.none : Option Jvm.ClassFile.FieldType)) ∈ lw_all := lw_g (lw_at lw_m1 57 rfl) rfl
theorem q59 : (Jvm.Cond.methodLink "ShamirSplitSecretShare" (1 : Nat) ({ cls := "java/lang/Object", name := "<init>", desc := "()V" } : Jvm.MethodName)) ∈ lw_all := lw_g (lw_at lw_m1 58 rfl) rfl
theorem q60 : (Jvm.Cond.methodLink "ShamirSplitSecretShare" (7 : Nat) ({ cls := "OwnArrays", name := "clone", desc := "([B)[B" } : Jvm.MethodName)) ∈ lw_all := lw_g (lw_at lw_m1 59 rfl) rfl
theorem q70 : (Jvm.Cond.fieldLink "ShamirSplitSecretShare" (13 : Nat) "ShamirSplitSecretShare" "secretShare" "[B") ∈ lw_all := lw_g (lw_at lw_m1 69 rfl) rfl
theorem q71 : (Jvm.Cond.fieldLink "ShamirSplitSecretShare" (19 : Nat) "ShamirSplitSecretShare" "\x72" "I") ∈ lw_all := lw_g (lw_at lw_m1 70 rfl) rfl
theorem q73 : (Jvm.Cond.laysFinal "ShamirSplitSecretShare" "ShamirSplitSecretShare" "secretShare" "[B") ∈ lw_all := lw_g (lw_at lw_m1 72 rfl) rfl
theorem q74 : (Jvm.Cond.soleField "ShamirSplitSecretShare" "secretShare") ∈ lw_all := lw_g (lw_at lw_m1 73 rfl) rfl
theorem q75 : (Jvm.Cond.laysFinal "ShamirSplitSecretShare" "ShamirSplitSecretShare" "\x72" "I") ∈ lw_all := lw_g (lw_at lw_m1 74 rfl) rfl
theorem q76 : (Jvm.Cond.soleField "ShamirSplitSecretShare" "\x72") ∈ lw_all := lw_g (lw_at lw_m1 75 rfl) rfl
theorem q77 : (Jvm.Cond.superclass "ShamirSplitSecretShare" "java/lang/Object") ∈ lw_all := lw_g (lw_at lw_m1 76 rfl) rfl
theorem q193 : (Jvm.Cond.instanceMethod ({ cls := "ShamirSplitSecretShare", name := "getEncoded", desc := "()[B" } : Jvm.MethodName)) ∈ lw_all := lw_g (lw_at lw_m1 192 rfl) rfl
theorem q194 : (Jvm.Cond.selects "ShamirSplitSecretShare" ({ cls := "ShamirSplitSecretShare", name := "getEncoded", desc := "()[B" } : Jvm.MethodName) ({ cls := "ShamirSplitSecretShare", name := "getEncoded", desc := "()[B" } : Jvm.MethodName)) ∈ lw_all := lw_g (lw_at lw_m1 193 rfl) rfl
theorem q195 : (Jvm.Cond.code ({ cls := "ShamirSplitSecretShare", name := "getEncoded", desc := "()[B" } : Jvm.MethodName) prog_8_method_2_code (1 : Nat) (Option.some (Jvm.ClassFile.FieldType.array Jvm.ClassFile.FieldType.byte))) ∈ lw_all := lw_g (lw_at lw_m1 194 rfl) rfl
theorem in_X2 : ∀ w ∈ wsX20, w ∈ lw_all := lw_in wsX20 [73, 75] (by decide +kernel) (by decide +kernel)
/-! OwnArrays -/
set_option maxRecDepth 100000
def RX3 : String := "OwnArrays"
abbrev cX3_clone : ByteArray := prog_1_method_1_code
def yX3_clone : MethodName := ⟨RX3, "clone", "([B)[B"⟩
def dkwX3_clone_0 : List UInt8 := [1, 42, 166, 0, 7, 1, 167, 0, 10, 42, 182, 0, 1, 192, 0, 2, 176]
abbrev dktX3_clone_0 : List UInt8 := dkwX3_clone_0 ++ []
theorem dksX3_clone_0 : cX3_clone.data.toList.drop 0 = dktX3_clone_0 := by decide +kernel
theorem dX3_clone_0 : decode cX3_clone 0 = .ok (.aconst_null, 1) := dk_1 (dk_at dksX3_clone_0 0 rfl rfl)
theorem dX3_clone_1 : decode cX3_clone 1 = .ok (.aload_n 0, 1) := dk_42 (dk_at dksX3_clone_0 1 rfl rfl)
theorem dX3_clone_2 : decode cX3_clone 2 = .ok (.if_acmp .ne 7, 3) := dk_166 0 7 (dk_at dksX3_clone_0 2 rfl rfl)
theorem dX3_clone_5 : decode cX3_clone 5 = .ok (.aconst_null, 1) := dk_1 (dk_at dksX3_clone_0 5 rfl rfl)
theorem dX3_clone_6 : decode cX3_clone 6 = .ok (.goto 10, 3) := dk_167 0 10 (dk_at dksX3_clone_0 6 rfl rfl)
theorem dX3_clone_9 : decode cX3_clone 9 = .ok (.aload_n 0, 1) := dk_42 (dk_at dksX3_clone_0 9 rfl rfl)
theorem dX3_clone_10 : decode cX3_clone 10 = .ok (.invokevirtual 1, 3) := dk_182 0 1 (dk_at dksX3_clone_0 10 rfl rfl)
theorem dX3_clone_13 : decode cX3_clone 13 = .ok (.checkcast 2, 3) := dk_192 0 2 (dk_at dksX3_clone_0 13 rfl rfl)
theorem dX3_clone_16 : decode cX3_clone 16 = .ok (.areturn, 1) := dk_176 (dk_at dksX3_clone_0 16 rfl rfl)
theorem q6 : (Jvm.Cond.initialized "OwnArrays") ∈ lw_all := lw_g (lw_at lw_m1 5 rfl) rfl
theorem q61 : (Jvm.Cond.static ({ cls := "OwnArrays", name := "clone", desc := "([B)[B" } : Jvm.MethodName)) ∈ lw_all := lw_g (lw_at lw_m1 60 rfl) rfl
theorem q62 : (Jvm.Cond.code ({ cls := "OwnArrays", name := "clone", desc := "([B)[B" } : Jvm.MethodName) prog_1_method_1_code (1 : Nat) (Option.some (Jvm.ClassFile.FieldType.array Jvm.ClassFile.FieldType.byte))) ∈ lw_all := lw_g (lw_at lw_m1 61 rfl) rfl
theorem q63 : (Jvm.Cond.methodLink "OwnArrays" (1 : Nat) ({ cls := "[B", name := "clone", desc := "()Ljava/lang/Object;" } : Jvm.MethodName)) ∈ lw_all := lw_g (lw_at lw_m1 62 rfl) rfl
theorem q69 : (Jvm.Cond.classLink "OwnArrays" (2 : Nat) "[B") ∈ lw_all := lw_g (lw_at lw_m1 68 rfl) rfl
/-! ShamirSplitSecret -/
set_option maxRecDepth 100000
def RX4 : String := "ShamirSplitSecret"
def TX4 : u_T := fun k => match k with
  | 0 => ("ShamirSplitSecret", "secretShares", "[LShamirSplitSecretShare;", true)
  | _ => ("ShamirSplitSecret", "poly", "LPolynomial;", true)
def tyX4 : Nat → FieldType := fun k => match k with
  | 0 => .array (.object "ShamirSplitSecretShare")
  | _ => .object "Polynomial"
abbrev wsX40 : List Cond := u_ws RX4 TX4 2
theorem nmX4 : ∀ a, a < 2 → ∀ b, b < 2 → a ≠ b → (TX4 a).2.1 ≠ (TX4 b).2.1 := by decide +kernel
theorem tyX4_ok : ∀ k, k < 2 → parseFieldDescriptor (TX4 k).2.2.1 = some (tyX4 k) := by decide +kernel
abbrev cX4_init : ByteArray := prog_7_method_1_code
def yX4_init : MethodName := ⟨RX4, "<init>", "(LShamirSecretSplitter$Algorithm;LShamirSecretSplitter$Mode;[LShamirSplitSecretShare;)V"⟩
def dkwX4_init_0 : List UInt8 := [42, 187, 0, 1, 89, 43, 183, 0, 3, 45, 183, 0, 7, 177]
abbrev dktX4_init_0 : List UInt8 := dkwX4_init_0 ++ []
theorem dksX4_init_0 : cX4_init.data.toList.drop 0 = dktX4_init_0 := by decide +kernel
theorem dX4_init_0 : decode cX4_init 0 = .ok (.aload_n 0, 1) := dk_42 (dk_at dksX4_init_0 0 rfl rfl)
theorem dX4_init_1 : decode cX4_init 1 = .ok (.new 1, 3) := dk_187 0 1 (dk_at dksX4_init_0 1 rfl rfl)
theorem dX4_init_4 : decode cX4_init 4 = .ok (.dup, 1) := dk_89 (dk_at dksX4_init_0 4 rfl rfl)
theorem dX4_init_5 : decode cX4_init 5 = .ok (.aload_n 1, 1) := dk_43 (dk_at dksX4_init_0 5 rfl rfl)
theorem dX4_init_6 : decode cX4_init 6 = .ok (.invokespecial 3, 3) := dk_183 0 3 (dk_at dksX4_init_0 6 rfl rfl)
theorem dX4_init_9 : decode cX4_init 9 = .ok (.aload_n 3, 1) := dk_45 (dk_at dksX4_init_0 9 rfl rfl)
theorem dX4_init_10 : decode cX4_init 10 = .ok (.invokespecial 7, 3) := dk_183 0 7 (dk_at dksX4_init_0 10 rfl rfl)
theorem dX4_init_13 : decode cX4_init 13 = .ok (.return_, 1) := dk_177 (dk_at dksX4_init_0 13 rfl rfl)
abbrev cX4_init_2 : ByteArray := prog_7_method_2_code
def yX4_init_2 : MethodName := ⟨RX4, "<init>", "(LPolynomial;[LShamirSplitSecretShare;)V"⟩
def dkwX4_init_2_0 : List UInt8 := [42, 183, 0, 12, 42, 44, 181, 0, 17, 42, 43, 181, 0, 21, 177]
abbrev dktX4_init_2_0 : List UInt8 := dkwX4_init_2_0 ++ []
theorem dksX4_init_2_0 : cX4_init_2.data.toList.drop 0 = dktX4_init_2_0 := by decide +kernel
theorem dX4_init_2_0 : decode cX4_init_2 0 = .ok (.aload_n 0, 1) := dk_42 (dk_at dksX4_init_2_0 0 rfl rfl)
theorem dX4_init_2_1 : decode cX4_init_2 1 = .ok (.invokespecial 12, 3) := dk_183 0 12 (dk_at dksX4_init_2_0 1 rfl rfl)
theorem dX4_init_2_4 : decode cX4_init_2 4 = .ok (.aload_n 0, 1) := dk_42 (dk_at dksX4_init_2_0 4 rfl rfl)
theorem dX4_init_2_5 : decode cX4_init_2 5 = .ok (.aload_n 2, 1) := dk_44 (dk_at dksX4_init_2_0 5 rfl rfl)
theorem dX4_init_2_6 : decode cX4_init_2 6 = .ok (.putfield 17, 3) := dk_181 0 17 (dk_at dksX4_init_2_0 6 rfl rfl)
theorem dX4_init_2_9 : decode cX4_init_2 9 = .ok (.aload_n 0, 1) := dk_42 (dk_at dksX4_init_2_0 9 rfl rfl)
theorem dX4_init_2_10 : decode cX4_init_2 10 = .ok (.aload_n 1, 1) := dk_43 (dk_at dksX4_init_2_0 10 rfl rfl)
theorem dX4_init_2_11 : decode cX4_init_2 11 = .ok (.putfield 21, 3) := dk_181 0 21 (dk_at dksX4_init_2_0 11 rfl rfl)
theorem dX4_init_2_14 : decode cX4_init_2 14 = .ok (.return_, 1) := dk_177 (dk_at dksX4_init_2_0 14 rfl rfl)
abbrev cX4_getSecret : ByteArray := prog_7_method_3_code
def yX4_getSecret : MethodName := ⟨RX4, "getSecret", "()[B"⟩
def dkwX4_getSecret_8 : List UInt8 := [132, 6, 1, 167, 255, 115, 42, 180, 0, 21, 44, 25, 5, 182, 0, 51, 176]
abbrev dktX4_getSecret_8 : List UInt8 := dkwX4_getSecret_8 ++ []
def dkwX4_getSecret_7 : List UInt8 := [21, 8, 51, 17, 0, 255, 126, 182, 0, 48, 62, 132, 8, 1, 167, 255, 223, 44, 21, 6, 29, 84]
abbrev dktX4_getSecret_7 : List UInt8 := dkwX4_getSecret_7 ++ dktX4_getSecret_8
def dkwX4_getSecret_6 : List UInt8 := [4, 62, 3, 54, 8, 21, 8, 25, 4, 190, 159, 0, 31, 42, 180, 0, 21, 29, 17, 0, 255, 126, 25, 4]
abbrev dktX4_getSecret_6 : List UInt8 := dkwX4_getSecret_6 ++ dktX4_getSecret_7
def dkwX4_getSecret_5 : List UInt8 := [180, 0, 40, 42, 180, 0, 17, 21, 8, 50, 180, 0, 40, 130, 182, 0, 44, 84, 132, 8, 1, 167, 255, 194]
abbrev dktX4_getSecret_5 : List UInt8 := dkwX4_getSecret_5 ++ dktX4_getSecret_6
def dkwX4_getSecret_4 : List UInt8 := [132, 7, 1, 42, 180, 0, 21, 42, 180, 0, 17, 21, 8, 50, 180, 0, 40, 42, 180, 0, 17, 21, 6, 50]
abbrev dktX4_getSecret_4 : List UInt8 := dkwX4_getSecret_4 ++ dktX4_getSecret_5
def dkwX4_getSecret_3 : List UInt8 := [3, 54, 7, 3, 54, 8, 21, 8, 27, 162, 0, 62, 21, 8, 21, 6, 159, 0, 49, 25, 4, 21, 7]
abbrev dktX4_getSecret_3 : List UInt8 := dkwX4_getSecret_3 ++ dktX4_getSecret_4
def dkwX4_getSecret_2 : List UInt8 := [3, 54, 6, 21, 6, 27, 162, 0, 141, 25, 5, 21, 6, 42, 180, 0, 17, 21, 6, 50, 182, 0, 32, 83]
abbrev dktX4_getSecret_2 : List UInt8 := dkwX4_getSecret_2 ++ dktX4_getSecret_3
def dkwX4_getSecret_1 : List UInt8 := [27, 4, 100, 188, 8, 58, 4, 27, 42, 180, 0, 17, 3, 50, 182, 0, 32, 190, 197, 0, 38, 2, 58, 5]
abbrev dktX4_getSecret_1 : List UInt8 := dkwX4_getSecret_1 ++ dktX4_getSecret_2
def dkwX4_getSecret_0 : List UInt8 := [42, 180, 0, 17, 190, 60, 27, 154, 0, 13, 187, 0, 25, 89, 18, 27, 183, 0, 29, 191, 27, 188, 8, 77]
abbrev dktX4_getSecret_0 : List UInt8 := dkwX4_getSecret_0 ++ dktX4_getSecret_1
theorem dksX4_getSecret_0 : cX4_getSecret.data.toList.drop 0 = dktX4_getSecret_0 := by decide +kernel
theorem dksX4_getSecret_1 : cX4_getSecret.data.toList.drop 24 = dktX4_getSecret_1 := dk_seg dksX4_getSecret_0 24 rfl rfl
theorem dksX4_getSecret_2 : cX4_getSecret.data.toList.drop 48 = dktX4_getSecret_2 := dk_seg dksX4_getSecret_1 24 rfl rfl
theorem dksX4_getSecret_3 : cX4_getSecret.data.toList.drop 72 = dktX4_getSecret_3 := dk_seg dksX4_getSecret_2 24 rfl rfl
theorem dksX4_getSecret_4 : cX4_getSecret.data.toList.drop 95 = dktX4_getSecret_4 := dk_seg dksX4_getSecret_3 23 rfl rfl
theorem dksX4_getSecret_5 : cX4_getSecret.data.toList.drop 119 = dktX4_getSecret_5 := dk_seg dksX4_getSecret_4 24 rfl rfl
theorem dksX4_getSecret_6 : cX4_getSecret.data.toList.drop 143 = dktX4_getSecret_6 := dk_seg dksX4_getSecret_5 24 rfl rfl
theorem dksX4_getSecret_7 : cX4_getSecret.data.toList.drop 167 = dktX4_getSecret_7 := dk_seg dksX4_getSecret_6 24 rfl rfl
theorem dksX4_getSecret_8 : cX4_getSecret.data.toList.drop 189 = dktX4_getSecret_8 := dk_seg dksX4_getSecret_7 22 rfl rfl
theorem dX4_getSecret_0 : decode cX4_getSecret 0 = .ok (.aload_n 0, 1) := dk_42 (dk_at dksX4_getSecret_0 0 rfl rfl)
theorem dX4_getSecret_1 : decode cX4_getSecret 1 = .ok (.getfield 17, 3) := dk_180 0 17 (dk_at dksX4_getSecret_0 1 rfl rfl)
theorem dX4_getSecret_4 : decode cX4_getSecret 4 = .ok (.arraylength, 1) := dk_190 (dk_at dksX4_getSecret_0 4 rfl rfl)
theorem dX4_getSecret_5 : decode cX4_getSecret 5 = .ok (.istore_n 1, 1) := dk_60 (dk_at dksX4_getSecret_0 5 rfl rfl)
theorem dX4_getSecret_6 : decode cX4_getSecret 6 = .ok (.iload_n 1, 1) := dk_27 (dk_at dksX4_getSecret_0 6 rfl rfl)
theorem dX4_getSecret_7 : decode cX4_getSecret 7 = .ok (.ifCond .ne 13, 3) := dk_154 0 13 (dk_at dksX4_getSecret_0 7 rfl rfl)
theorem dX4_getSecret_10 : decode cX4_getSecret 10 = .ok (.new 25, 3) := dk_187 0 25 (dk_at dksX4_getSecret_0 10 rfl rfl)
theorem dX4_getSecret_13 : decode cX4_getSecret 13 = .ok (.dup, 1) := dk_89 (dk_at dksX4_getSecret_0 13 rfl rfl)
theorem dX4_getSecret_14 : decode cX4_getSecret 14 = .ok (.ldc 27, 2) := dk_18 27 (dk_at dksX4_getSecret_0 14 rfl rfl)
theorem dX4_getSecret_16 : decode cX4_getSecret 16 = .ok (.invokespecial 29, 3) := dk_183 0 29 (dk_at dksX4_getSecret_0 16 rfl rfl)
theorem dX4_getSecret_19 : decode cX4_getSecret 19 = .ok (.athrow, 1) := dk_191 (dk_at dksX4_getSecret_0 19 rfl rfl)
theorem dX4_getSecret_20 : decode cX4_getSecret 20 = .ok (.iload_n 1, 1) := dk_27 (dk_at dksX4_getSecret_0 20 rfl rfl)
theorem dX4_getSecret_21 : decode cX4_getSecret 21 = .ok (.newarray .byte, 2) := dk_188_8 (dk_at dksX4_getSecret_0 21 rfl rfl)
theorem dX4_getSecret_23 : decode cX4_getSecret 23 = .ok (.astore_n 2, 1) := dk_77 (dk_at dksX4_getSecret_0 23 rfl rfl)
theorem dX4_getSecret_24 : decode cX4_getSecret 24 = .ok (.iload_n 1, 1) := dk_27 (dk_at dksX4_getSecret_1 0 rfl rfl)
theorem dX4_getSecret_25 : decode cX4_getSecret 25 = .ok (.iconst 1, 1) := dk_4 (dk_at dksX4_getSecret_1 1 rfl rfl)
theorem dX4_getSecret_26 : decode cX4_getSecret 26 = .ok (.isub, 1) := dk_100 (dk_at dksX4_getSecret_1 2 rfl rfl)
theorem dX4_getSecret_27 : decode cX4_getSecret 27 = .ok (.newarray .byte, 2) := dk_188_8 (dk_at dksX4_getSecret_1 3 rfl rfl)
theorem dX4_getSecret_29 : decode cX4_getSecret 29 = .ok (.astore 4, 2) := dk_58 4 (dk_at dksX4_getSecret_1 5 rfl rfl)
theorem dX4_getSecret_31 : decode cX4_getSecret 31 = .ok (.iload_n 1, 1) := dk_27 (dk_at dksX4_getSecret_1 7 rfl rfl)
theorem dX4_getSecret_32 : decode cX4_getSecret 32 = .ok (.aload_n 0, 1) := dk_42 (dk_at dksX4_getSecret_1 8 rfl rfl)
theorem dX4_getSecret_33 : decode cX4_getSecret 33 = .ok (.getfield 17, 3) := dk_180 0 17 (dk_at dksX4_getSecret_1 9 rfl rfl)
theorem dX4_getSecret_36 : decode cX4_getSecret 36 = .ok (.iconst 0, 1) := dk_3 (dk_at dksX4_getSecret_1 12 rfl rfl)
theorem dX4_getSecret_37 : decode cX4_getSecret 37 = .ok (.aaload, 1) := dk_50 (dk_at dksX4_getSecret_1 13 rfl rfl)
theorem dX4_getSecret_38 : decode cX4_getSecret 38 = .ok (.invokevirtual 32, 3) := dk_182 0 32 (dk_at dksX4_getSecret_1 14 rfl rfl)
theorem dX4_getSecret_41 : decode cX4_getSecret 41 = .ok (.arraylength, 1) := dk_190 (dk_at dksX4_getSecret_1 17 rfl rfl)
theorem dX4_getSecret_42 : decode cX4_getSecret 42 = .ok (.multianewarray 38 2, 4) := by decide +kernel
theorem dX4_getSecret_46 : decode cX4_getSecret 46 = .ok (.astore 5, 2) := dk_58 5 (dk_at dksX4_getSecret_1 22 rfl rfl)
theorem dX4_getSecret_48 : decode cX4_getSecret 48 = .ok (.iconst 0, 1) := dk_3 (dk_at dksX4_getSecret_2 0 rfl rfl)
theorem dX4_getSecret_49 : decode cX4_getSecret 49 = .ok (.istore 6, 2) := dk_54 6 (dk_at dksX4_getSecret_2 1 rfl rfl)
theorem dX4_getSecret_51 : decode cX4_getSecret 51 = .ok (.iload 6, 2) := dk_21 6 (dk_at dksX4_getSecret_2 3 rfl rfl)
theorem dX4_getSecret_53 : decode cX4_getSecret 53 = .ok (.iload_n 1, 1) := dk_27 (dk_at dksX4_getSecret_2 5 rfl rfl)
theorem dX4_getSecret_54 : decode cX4_getSecret 54 = .ok (.if_icmp .ge 141, 3) := dk_162 0 141 (dk_at dksX4_getSecret_2 6 rfl rfl)
theorem dX4_getSecret_57 : decode cX4_getSecret 57 = .ok (.aload 5, 2) := dk_25 5 (dk_at dksX4_getSecret_2 9 rfl rfl)
theorem dX4_getSecret_59 : decode cX4_getSecret 59 = .ok (.iload 6, 2) := dk_21 6 (dk_at dksX4_getSecret_2 11 rfl rfl)
theorem dX4_getSecret_61 : decode cX4_getSecret 61 = .ok (.aload_n 0, 1) := dk_42 (dk_at dksX4_getSecret_2 13 rfl rfl)
theorem dX4_getSecret_62 : decode cX4_getSecret 62 = .ok (.getfield 17, 3) := dk_180 0 17 (dk_at dksX4_getSecret_2 14 rfl rfl)
theorem dX4_getSecret_65 : decode cX4_getSecret 65 = .ok (.iload 6, 2) := dk_21 6 (dk_at dksX4_getSecret_2 17 rfl rfl)
theorem dX4_getSecret_67 : decode cX4_getSecret 67 = .ok (.aaload, 1) := dk_50 (dk_at dksX4_getSecret_2 19 rfl rfl)
theorem dX4_getSecret_68 : decode cX4_getSecret 68 = .ok (.invokevirtual 32, 3) := dk_182 0 32 (dk_at dksX4_getSecret_2 20 rfl rfl)
theorem dX4_getSecret_71 : decode cX4_getSecret 71 = .ok (.aastore, 1) := dk_83 (dk_at dksX4_getSecret_2 23 rfl rfl)
theorem dX4_getSecret_72 : decode cX4_getSecret 72 = .ok (.iconst 0, 1) := dk_3 (dk_at dksX4_getSecret_3 0 rfl rfl)
theorem dX4_getSecret_73 : decode cX4_getSecret 73 = .ok (.istore 7, 2) := dk_54 7 (dk_at dksX4_getSecret_3 1 rfl rfl)
theorem dX4_getSecret_75 : decode cX4_getSecret 75 = .ok (.iconst 0, 1) := dk_3 (dk_at dksX4_getSecret_3 3 rfl rfl)
theorem dX4_getSecret_76 : decode cX4_getSecret 76 = .ok (.istore 8, 2) := dk_54 8 (dk_at dksX4_getSecret_3 4 rfl rfl)
theorem dX4_getSecret_78 : decode cX4_getSecret 78 = .ok (.iload 8, 2) := dk_21 8 (dk_at dksX4_getSecret_3 6 rfl rfl)
theorem dX4_getSecret_80 : decode cX4_getSecret 80 = .ok (.iload_n 1, 1) := dk_27 (dk_at dksX4_getSecret_3 8 rfl rfl)
theorem dX4_getSecret_81 : decode cX4_getSecret 81 = .ok (.if_icmp .ge 62, 3) := dk_162 0 62 (dk_at dksX4_getSecret_3 9 rfl rfl)
theorem dX4_getSecret_84 : decode cX4_getSecret 84 = .ok (.iload 8, 2) := dk_21 8 (dk_at dksX4_getSecret_3 12 rfl rfl)
theorem dX4_getSecret_86 : decode cX4_getSecret 86 = .ok (.iload 6, 2) := dk_21 6 (dk_at dksX4_getSecret_3 14 rfl rfl)
theorem dX4_getSecret_88 : decode cX4_getSecret 88 = .ok (.if_icmp .eq 49, 3) := dk_159 0 49 (dk_at dksX4_getSecret_3 16 rfl rfl)
theorem dX4_getSecret_91 : decode cX4_getSecret 91 = .ok (.aload 4, 2) := dk_25 4 (dk_at dksX4_getSecret_3 19 rfl rfl)
theorem dX4_getSecret_93 : decode cX4_getSecret 93 = .ok (.iload 7, 2) := dk_21 7 (dk_at dksX4_getSecret_3 21 rfl rfl)
theorem dX4_getSecret_95 : decode cX4_getSecret 95 = .ok (.iinc 7 1, 3) := dk_132 7 1 (dk_at dksX4_getSecret_4 0 rfl rfl)
theorem dX4_getSecret_98 : decode cX4_getSecret 98 = .ok (.aload_n 0, 1) := dk_42 (dk_at dksX4_getSecret_4 3 rfl rfl)
theorem dX4_getSecret_99 : decode cX4_getSecret 99 = .ok (.getfield 21, 3) := dk_180 0 21 (dk_at dksX4_getSecret_4 4 rfl rfl)
theorem dX4_getSecret_102 : decode cX4_getSecret 102 = .ok (.aload_n 0, 1) := dk_42 (dk_at dksX4_getSecret_4 7 rfl rfl)
theorem dX4_getSecret_103 : decode cX4_getSecret 103 = .ok (.getfield 17, 3) := dk_180 0 17 (dk_at dksX4_getSecret_4 8 rfl rfl)
theorem dX4_getSecret_106 : decode cX4_getSecret 106 = .ok (.iload 8, 2) := dk_21 8 (dk_at dksX4_getSecret_4 11 rfl rfl)
theorem dX4_getSecret_108 : decode cX4_getSecret 108 = .ok (.aaload, 1) := dk_50 (dk_at dksX4_getSecret_4 13 rfl rfl)
theorem dX4_getSecret_109 : decode cX4_getSecret 109 = .ok (.getfield 40, 3) := dk_180 0 40 (dk_at dksX4_getSecret_4 14 rfl rfl)
theorem dX4_getSecret_112 : decode cX4_getSecret 112 = .ok (.aload_n 0, 1) := dk_42 (dk_at dksX4_getSecret_4 17 rfl rfl)
theorem dX4_getSecret_113 : decode cX4_getSecret 113 = .ok (.getfield 17, 3) := dk_180 0 17 (dk_at dksX4_getSecret_4 18 rfl rfl)
theorem dX4_getSecret_116 : decode cX4_getSecret 116 = .ok (.iload 6, 2) := dk_21 6 (dk_at dksX4_getSecret_4 21 rfl rfl)
theorem dX4_getSecret_118 : decode cX4_getSecret 118 = .ok (.aaload, 1) := dk_50 (dk_at dksX4_getSecret_4 23 rfl rfl)
theorem dX4_getSecret_119 : decode cX4_getSecret 119 = .ok (.getfield 40, 3) := dk_180 0 40 (dk_at dksX4_getSecret_5 0 rfl rfl)
theorem dX4_getSecret_122 : decode cX4_getSecret 122 = .ok (.aload_n 0, 1) := dk_42 (dk_at dksX4_getSecret_5 3 rfl rfl)
theorem dX4_getSecret_123 : decode cX4_getSecret 123 = .ok (.getfield 17, 3) := dk_180 0 17 (dk_at dksX4_getSecret_5 4 rfl rfl)
theorem dX4_getSecret_126 : decode cX4_getSecret 126 = .ok (.iload 8, 2) := dk_21 8 (dk_at dksX4_getSecret_5 7 rfl rfl)
theorem dX4_getSecret_128 : decode cX4_getSecret 128 = .ok (.aaload, 1) := dk_50 (dk_at dksX4_getSecret_5 9 rfl rfl)
theorem dX4_getSecret_129 : decode cX4_getSecret 129 = .ok (.getfield 40, 3) := dk_180 0 40 (dk_at dksX4_getSecret_5 10 rfl rfl)
theorem dX4_getSecret_132 : decode cX4_getSecret 132 = .ok (.ixor, 1) := dk_130 (dk_at dksX4_getSecret_5 13 rfl rfl)
theorem dX4_getSecret_133 : decode cX4_getSecret 133 = .ok (.invokevirtual 44, 3) := dk_182 0 44 (dk_at dksX4_getSecret_5 14 rfl rfl)
theorem dX4_getSecret_136 : decode cX4_getSecret 136 = .ok (.bastore, 1) := dk_84 (dk_at dksX4_getSecret_5 17 rfl rfl)
theorem dX4_getSecret_137 : decode cX4_getSecret 137 = .ok (.iinc 8 1, 3) := dk_132 8 1 (dk_at dksX4_getSecret_5 18 rfl rfl)
theorem dX4_getSecret_140 : decode cX4_getSecret 140 = .ok (.goto (-62), 3) := dk_167 255 194 (dk_at dksX4_getSecret_5 21 rfl rfl)
theorem dX4_getSecret_143 : decode cX4_getSecret 143 = .ok (.iconst 1, 1) := dk_4 (dk_at dksX4_getSecret_6 0 rfl rfl)
theorem dX4_getSecret_144 : decode cX4_getSecret 144 = .ok (.istore_n 3, 1) := dk_62 (dk_at dksX4_getSecret_6 1 rfl rfl)
theorem dX4_getSecret_145 : decode cX4_getSecret 145 = .ok (.iconst 0, 1) := dk_3 (dk_at dksX4_getSecret_6 2 rfl rfl)
theorem dX4_getSecret_146 : decode cX4_getSecret 146 = .ok (.istore 8, 2) := dk_54 8 (dk_at dksX4_getSecret_6 3 rfl rfl)
theorem dX4_getSecret_148 : decode cX4_getSecret 148 = .ok (.iload 8, 2) := dk_21 8 (dk_at dksX4_getSecret_6 5 rfl rfl)
theorem dX4_getSecret_150 : decode cX4_getSecret 150 = .ok (.aload 4, 2) := dk_25 4 (dk_at dksX4_getSecret_6 7 rfl rfl)
theorem dX4_getSecret_152 : decode cX4_getSecret 152 = .ok (.arraylength, 1) := dk_190 (dk_at dksX4_getSecret_6 9 rfl rfl)
theorem dX4_getSecret_153 : decode cX4_getSecret 153 = .ok (.if_icmp .eq 31, 3) := dk_159 0 31 (dk_at dksX4_getSecret_6 10 rfl rfl)
theorem dX4_getSecret_156 : decode cX4_getSecret 156 = .ok (.aload_n 0, 1) := dk_42 (dk_at dksX4_getSecret_6 13 rfl rfl)
theorem dX4_getSecret_157 : decode cX4_getSecret 157 = .ok (.getfield 21, 3) := dk_180 0 21 (dk_at dksX4_getSecret_6 14 rfl rfl)
theorem dX4_getSecret_160 : decode cX4_getSecret 160 = .ok (.iload_n 3, 1) := dk_29 (dk_at dksX4_getSecret_6 17 rfl rfl)
theorem dX4_getSecret_161 : decode cX4_getSecret 161 = .ok (.sipush 255, 3) := dk_17 0 255 (dk_at dksX4_getSecret_6 18 rfl rfl)
theorem dX4_getSecret_164 : decode cX4_getSecret 164 = .ok (.iand, 1) := dk_126 (dk_at dksX4_getSecret_6 21 rfl rfl)
theorem dX4_getSecret_165 : decode cX4_getSecret 165 = .ok (.aload 4, 2) := dk_25 4 (dk_at dksX4_getSecret_6 22 rfl rfl)
theorem dX4_getSecret_167 : decode cX4_getSecret 167 = .ok (.iload 8, 2) := dk_21 8 (dk_at dksX4_getSecret_7 0 rfl rfl)
theorem dX4_getSecret_169 : decode cX4_getSecret 169 = .ok (.baload, 1) := dk_51 (dk_at dksX4_getSecret_7 2 rfl rfl)
theorem dX4_getSecret_170 : decode cX4_getSecret 170 = .ok (.sipush 255, 3) := dk_17 0 255 (dk_at dksX4_getSecret_7 3 rfl rfl)
theorem dX4_getSecret_173 : decode cX4_getSecret 173 = .ok (.iand, 1) := dk_126 (dk_at dksX4_getSecret_7 6 rfl rfl)
theorem dX4_getSecret_174 : decode cX4_getSecret 174 = .ok (.invokevirtual 48, 3) := dk_182 0 48 (dk_at dksX4_getSecret_7 7 rfl rfl)
theorem dX4_getSecret_177 : decode cX4_getSecret 177 = .ok (.istore_n 3, 1) := dk_62 (dk_at dksX4_getSecret_7 10 rfl rfl)
theorem dX4_getSecret_178 : decode cX4_getSecret 178 = .ok (.iinc 8 1, 3) := dk_132 8 1 (dk_at dksX4_getSecret_7 11 rfl rfl)
theorem dX4_getSecret_181 : decode cX4_getSecret 181 = .ok (.goto (-33), 3) := dk_167 255 223 (dk_at dksX4_getSecret_7 14 rfl rfl)
theorem dX4_getSecret_184 : decode cX4_getSecret 184 = .ok (.aload_n 2, 1) := dk_44 (dk_at dksX4_getSecret_7 17 rfl rfl)
theorem dX4_getSecret_185 : decode cX4_getSecret 185 = .ok (.iload 6, 2) := dk_21 6 (dk_at dksX4_getSecret_7 18 rfl rfl)
theorem dX4_getSecret_187 : decode cX4_getSecret 187 = .ok (.iload_n 3, 1) := dk_29 (dk_at dksX4_getSecret_7 20 rfl rfl)
theorem dX4_getSecret_188 : decode cX4_getSecret 188 = .ok (.bastore, 1) := dk_84 (dk_at dksX4_getSecret_7 21 rfl rfl)
theorem dX4_getSecret_189 : decode cX4_getSecret 189 = .ok (.iinc 6 1, 3) := dk_132 6 1 (dk_at dksX4_getSecret_8 0 rfl rfl)
theorem dX4_getSecret_192 : decode cX4_getSecret 192 = .ok (.goto (-141), 3) := dk_167 255 115 (dk_at dksX4_getSecret_8 3 rfl rfl)
theorem dX4_getSecret_195 : decode cX4_getSecret 195 = .ok (.aload_n 0, 1) := dk_42 (dk_at dksX4_getSecret_8 6 rfl rfl)
theorem dX4_getSecret_196 : decode cX4_getSecret 196 = .ok (.getfield 21, 3) := dk_180 0 21 (dk_at dksX4_getSecret_8 7 rfl rfl)
theorem dX4_getSecret_199 : decode cX4_getSecret 199 = .ok (.aload_n 2, 1) := dk_44 (dk_at dksX4_getSecret_8 10 rfl rfl)
theorem dX4_getSecret_200 : decode cX4_getSecret 200 = .ok (.aload 5, 2) := dk_25 5 (dk_at dksX4_getSecret_8 11 rfl rfl)
theorem dX4_getSecret_202 : decode cX4_getSecret 202 = .ok (.invokevirtual 51, 3) := dk_182 0 51 (dk_at dksX4_getSecret_8 13 rfl rfl)
theorem dX4_getSecret_205 : decode cX4_getSecret 205 = .ok (.areturn, 1) := dk_176 (dk_at dksX4_getSecret_8 16 rfl rfl)
theorem q7 : (Jvm.Cond.initialized "ShamirSplitSecret") ∈ lw_all := lw_g (lw_at lw_m1 6 rfl) rfl
theorem q72 : (Jvm.Cond.fieldLink "ShamirSplitSecret" (40 : Nat) "ShamirSplitSecretShare" "\x72" "I") ∈ lw_all := lw_g (lw_at lw_m1 71 rfl) rfl
theorem q79 : (Jvm.Cond.instantiable "ShamirSplitSecret" (2 : Nat)) ∈ lw_all := lw_g (lw_at lw_m1 78 rfl) rfl
theorem q89 : (Jvm.Cond.instanceMethod ({ cls := "ShamirSplitSecret", name := "<init>", desc := "(LShamirSecretSplitter$Algorithm;LShamirSecretSplitter$Mode;[LShamirSplitSecretShare;)V" } : Jvm.MethodName)) ∈ lw_all := lw_g (lw_at lw_m1 88 rfl) rfl
theorem q90 : (Jvm.Cond.code ({ cls := "ShamirSplitSecret", name := "<init>", desc := "(LShamirSecretSplitter$Algorithm;LShamirSecretSplitter$Mode;[LShamirSplitSecretShare;)V" } : Jvm.MethodName) prog_7_method_1_code (4 : Nat) (Option.none : Option Jvm.ClassFile.FieldType)) ∈ lw_all := lw_g (lw_at lw_m1 89 rfl) rfl
theorem q91 : (Jvm.Cond.classLink "ShamirSplitSecret" (1 : Nat) "Polynomial") ∈ lw_all := lw_g (lw_at lw_m1 90 rfl) rfl
theorem q93 : (Jvm.Cond.methodLink "ShamirSplitSecret" (3 : Nat) ({ cls := "Polynomial", name := "<init>", desc := "(LShamirSecretSplitter$Algorithm;)V" } : Jvm.MethodName)) ∈ lw_all := lw_g (lw_at lw_m1 92 rfl) rfl
theorem q174 : (Jvm.Cond.methodLink "ShamirSplitSecret" (7 : Nat) ({ cls := "ShamirSplitSecret", name := "<init>", desc := "(LPolynomial;[LShamirSplitSecretShare;)V" } : Jvm.MethodName)) ∈ lw_all := lw_g (lw_at lw_m1 173 rfl) rfl
theorem q175 : (Jvm.Cond.instanceMethod ({ cls := "ShamirSplitSecret", name := "<init>", desc := "(LPolynomial;[LShamirSplitSecretShare;)V" } : Jvm.MethodName)) ∈ lw_all := lw_g (lw_at lw_m1 174 rfl) rfl
theorem q176 : (Jvm.Cond.code ({ cls := "ShamirSplitSecret", name := "<init>", desc := "(LPolynomial;[LShamirSplitSecretShare;)V" } : Jvm.MethodName) prog_7_method_2_code (3 : Nat) (Option.none : Option Jvm.ClassFile.FieldType)) ∈ lw_all := lw_g (lw_at lw_m1 175 rfl) rfl
theorem q177 : (Jvm.Cond.methodLink "ShamirSplitSecret" (12 : Nat) ({ cls := "java/lang/Object", name := "<init>", desc := "()V" } : Jvm.MethodName)) ∈ lw_all := lw_g (lw_at lw_m1 176 rfl) rfl
theorem q178 : (Jvm.Cond.fieldLink "ShamirSplitSecret" (17 : Nat) "ShamirSplitSecret" "secretShares" "[LShamirSplitSecretShare;") ∈ lw_all := lw_g (lw_at lw_m1 177 rfl) rfl
theorem q179 : (Jvm.Cond.fieldLink "ShamirSplitSecret" (21 : Nat) "ShamirSplitSecret" "poly" "LPolynomial;") ∈ lw_all := lw_g (lw_at lw_m1 178 rfl) rfl
theorem q180 : (Jvm.Cond.laysFinal "ShamirSplitSecret" "ShamirSplitSecret" "secretShares" "[LShamirSplitSecretShare;") ∈ lw_all := lw_g (lw_at lw_m1 179 rfl) rfl
theorem q181 : (Jvm.Cond.soleField "ShamirSplitSecret" "secretShares") ∈ lw_all := lw_g (lw_at lw_m1 180 rfl) rfl
theorem q182 : (Jvm.Cond.laysFinal "ShamirSplitSecret" "ShamirSplitSecret" "poly" "LPolynomial;") ∈ lw_all := lw_g (lw_at lw_m1 181 rfl) rfl
theorem q183 : (Jvm.Cond.soleField "ShamirSplitSecret" "poly") ∈ lw_all := lw_g (lw_at lw_m1 182 rfl) rfl
theorem q184 : (Jvm.Cond.superclass "ShamirSplitSecret" "java/lang/Object") ∈ lw_all := lw_g (lw_at lw_m1 183 rfl) rfl
theorem q186 : (Jvm.Cond.instanceMethod ({ cls := "ShamirSplitSecret", name := "getSecret", desc := "()[B" } : Jvm.MethodName)) ∈ lw_all := lw_g (lw_at lw_m1 185 rfl) rfl
theorem q187 : (Jvm.Cond.selects "ShamirSplitSecret" ({ cls := "ShamirSplitSecret", name := "getSecret", desc := "()[B" } : Jvm.MethodName) ({ cls := "ShamirSplitSecret", name := "getSecret", desc := "()[B" } : Jvm.MethodName)) ∈ lw_all := lw_g (lw_at lw_m1 186 rfl) rfl
theorem q188 : (Jvm.Cond.code ({ cls := "ShamirSplitSecret", name := "getSecret", desc := "()[B" } : Jvm.MethodName) prog_7_method_3_code (9 : Nat) (Option.some (Jvm.ClassFile.FieldType.array Jvm.ClassFile.FieldType.byte))) ∈ lw_all := lw_g (lw_at lw_m1 187 rfl) rfl
theorem q189 : (Jvm.Cond.classLink "ShamirSplitSecret" (25 : Nat) "java/lang/IllegalArgumentException") ∈ lw_all := lw_g (lw_at lw_m1 188 rfl) rfl
theorem q190 : (Jvm.Cond.stringRef "ShamirSplitSecret" (27 : Nat) "Invalid input: at least one secret share is required.") ∈ lw_tbl := lw_at lw_m1 189 rfl
theorem q191 : (Jvm.Cond.methodLink "ShamirSplitSecret" (29 : Nat) ({ cls := "java/lang/IllegalArgumentException", name := "<init>", desc := "(Ljava/lang/String;)V" } : Jvm.MethodName)) ∈ lw_all := lw_g (lw_at lw_m1 190 rfl) rfl
theorem q192 : (Jvm.Cond.methodLink "ShamirSplitSecret" (32 : Nat) ({ cls := "ShamirSplitSecretShare", name := "getEncoded", desc := "()[B" } : Jvm.MethodName)) ∈ lw_all := lw_g (lw_at lw_m1 191 rfl) rfl
theorem q196 : (Jvm.Cond.classLink "ShamirSplitSecret" (38 : Nat) "[[B") ∈ lw_all := lw_g (lw_at lw_m1 195 rfl) rfl
theorem q197 : (Jvm.Cond.methodLink "ShamirSplitSecret" (44 : Nat) ({ cls := "Polynomial", name := "gfDiv", desc := "(II)B" } : Jvm.MethodName)) ∈ lw_all := lw_g (lw_at lw_m1 196 rfl) rfl
theorem q209 : (Jvm.Cond.methodLink "ShamirSplitSecret" (48 : Nat) ({ cls := "Polynomial", name := "gfMul", desc := "(II)B" } : Jvm.MethodName)) ∈ lw_all := lw_g (lw_at lw_m1 208 rfl) rfl
theorem q210 : (Jvm.Cond.methodLink "ShamirSplitSecret" (51 : Nat) ({ cls := "Polynomial", name := "gfVecMul", desc := "([B[[B)[B" } : Jvm.MethodName)) ∈ lw_all := lw_g (lw_at lw_m1 209 rfl) rfl
theorem in_X4 : ∀ w ∈ wsX40, w ∈ lw_all := lw_in wsX40 [180, 182] (by decide +kernel) (by decide +kernel)
/-! Polynomial -/
set_option maxRecDepth 100000
def RX5 : String := "Polynomial"
def TX5 : u_T := fun k => match k with
  | _ => ("Polynomial", "irreducible", "I", true)
def tyX5 : Nat → FieldType := fun k => match k with
  | _ => .int
abbrev wsX50 : List Cond := u_ws RX5 TX5 1
theorem nmX5 : ∀ a, a < 1 → ∀ b, b < 1 → a ≠ b → (TX5 a).2.1 ≠ (TX5 b).2.1 := by decide +kernel
theorem tyX5_ok : ∀ k, k < 1 → parseFieldDescriptor (TX5 k).2.2.1 = some (tyX5 k) := by decide +kernel
abbrev cX5_init : ByteArray := prog_2_method_1_code
def yX5_init : MethodName := ⟨RX5, "<init>", "(LShamirSecretSplitter$Algorithm;)V"⟩
def dkwX5_init_3 : List UInt8 := [18, 27, 183, 0, 29, 191, 177]
abbrev dktX5_init_3 : List UInt8 := dkwX5_init_3 ++ []
def dkwX5_init_2 : List UInt8 := [42, 17, 1, 27, 181, 0, 19, 167, 0, 23, 42, 17, 1, 29, 181, 0, 19, 167, 0, 13, 187, 0, 25, 89]
abbrev dktX5_init_2 : List UInt8 := dkwX5_init_2 ++ dktX5_init_3
def dkwX5_init_1 : List UInt8 := [171, 0, 0, 0, 0, 0, 0, 48, 0, 0, 0, 2, 0, 0, 0, 1, 0, 0, 0, 28, 0, 0, 0, 2, 0, 0, 0, 38]
abbrev dktX5_init_1 : List UInt8 := dkwX5_init_1 ++ dktX5_init_2
def dkwX5_init_0 : List UInt8 := [42, 183, 0, 1, 178, 0, 7, 43, 182, 0, 13, 46]
abbrev dktX5_init_0 : List UInt8 := dkwX5_init_0 ++ dktX5_init_1
theorem dksX5_init_0 : cX5_init.data.toList.drop 0 = dktX5_init_0 := by decide +kernel
theorem dksX5_init_1 : cX5_init.data.toList.drop 12 = dktX5_init_1 := dk_seg dksX5_init_0 12 rfl rfl
theorem dksX5_init_2 : cX5_init.data.toList.drop 40 = dktX5_init_2 := dk_seg dksX5_init_1 28 rfl rfl
theorem dksX5_init_3 : cX5_init.data.toList.drop 64 = dktX5_init_3 := dk_seg dksX5_init_2 24 rfl rfl
theorem dX5_init_0 : decode cX5_init 0 = .ok (.aload_n 0, 1) := dk_42 (dk_at dksX5_init_0 0 rfl rfl)
theorem dX5_init_1 : decode cX5_init 1 = .ok (.invokespecial 1, 3) := dk_183 0 1 (dk_at dksX5_init_0 1 rfl rfl)
theorem dX5_init_4 : decode cX5_init 4 = .ok (.getstatic 7, 3) := dk_178 0 7 (dk_at dksX5_init_0 4 rfl rfl)
theorem dX5_init_7 : decode cX5_init 7 = .ok (.aload_n 1, 1) := dk_43 (dk_at dksX5_init_0 7 rfl rfl)
theorem dX5_init_8 : decode cX5_init 8 = .ok (.invokevirtual 13, 3) := dk_182 0 13 (dk_at dksX5_init_0 8 rfl rfl)
theorem dX5_init_11 : decode cX5_init 11 = .ok (.iaload, 1) := dk_46 (dk_at dksX5_init_0 11 rfl rfl)
theorem dX5_init_12 : decode cX5_init 12 = .ok (.lookupswitch 48 #[(1, 28), (2, 38)], 28) := by decide +kernel
theorem dX5_init_40 : decode cX5_init 40 = .ok (.aload_n 0, 1) := dk_42 (dk_at dksX5_init_2 0 rfl rfl)
theorem dX5_init_41 : decode cX5_init 41 = .ok (.sipush 283, 3) := dk_17 1 27 (dk_at dksX5_init_2 1 rfl rfl)
theorem dX5_init_44 : decode cX5_init 44 = .ok (.putfield 19, 3) := dk_181 0 19 (dk_at dksX5_init_2 4 rfl rfl)
theorem dX5_init_47 : decode cX5_init 47 = .ok (.goto 23, 3) := dk_167 0 23 (dk_at dksX5_init_2 7 rfl rfl)
theorem dX5_init_50 : decode cX5_init 50 = .ok (.aload_n 0, 1) := dk_42 (dk_at dksX5_init_2 10 rfl rfl)
theorem dX5_init_51 : decode cX5_init 51 = .ok (.sipush 285, 3) := dk_17 1 29 (dk_at dksX5_init_2 11 rfl rfl)
theorem dX5_init_54 : decode cX5_init 54 = .ok (.putfield 19, 3) := dk_181 0 19 (dk_at dksX5_init_2 14 rfl rfl)
theorem dX5_init_57 : decode cX5_init 57 = .ok (.goto 13, 3) := dk_167 0 13 (dk_at dksX5_init_2 17 rfl rfl)
theorem dX5_init_60 : decode cX5_init 60 = .ok (.new 25, 3) := dk_187 0 25 (dk_at dksX5_init_2 20 rfl rfl)
theorem dX5_init_63 : decode cX5_init 63 = .ok (.dup, 1) := dk_89 (dk_at dksX5_init_2 23 rfl rfl)
theorem dX5_init_64 : decode cX5_init 64 = .ok (.ldc 27, 2) := dk_18 27 (dk_at dksX5_init_3 0 rfl rfl)
theorem dX5_init_66 : decode cX5_init 66 = .ok (.invokespecial 29, 3) := dk_183 0 29 (dk_at dksX5_init_3 2 rfl rfl)
theorem dX5_init_69 : decode cX5_init 69 = .ok (.athrow, 1) := dk_191 (dk_at dksX5_init_3 5 rfl rfl)
theorem dX5_init_70 : decode cX5_init 70 = .ok (.return_, 1) := dk_177 (dk_at dksX5_init_3 6 rfl rfl)
abbrev cX5_gfDiv : ByteArray := prog_2_method_3_code
def yX5_gfDiv : MethodName := ⟨RX5, "gfDiv", "(II)B"⟩
def dkwX5_gfDiv_0 : List UInt8 := [42, 27, 42, 28, 16, 254, 182, 0, 32, 17, 0, 255, 126, 182, 0, 36, 172]
abbrev dktX5_gfDiv_0 : List UInt8 := dkwX5_gfDiv_0 ++ []
theorem dksX5_gfDiv_0 : cX5_gfDiv.data.toList.drop 0 = dktX5_gfDiv_0 := by decide +kernel
theorem dX5_gfDiv_0 : decode cX5_gfDiv 0 = .ok (.aload_n 0, 1) := dk_42 (dk_at dksX5_gfDiv_0 0 rfl rfl)
theorem dX5_gfDiv_1 : decode cX5_gfDiv 1 = .ok (.iload_n 1, 1) := dk_27 (dk_at dksX5_gfDiv_0 1 rfl rfl)
theorem dX5_gfDiv_2 : decode cX5_gfDiv 2 = .ok (.aload_n 0, 1) := dk_42 (dk_at dksX5_gfDiv_0 2 rfl rfl)
theorem dX5_gfDiv_3 : decode cX5_gfDiv 3 = .ok (.iload_n 2, 1) := dk_28 (dk_at dksX5_gfDiv_0 3 rfl rfl)
theorem dX5_gfDiv_4 : decode cX5_gfDiv 4 = .ok (.bipush (-2), 2) := dk_16 254 (dk_at dksX5_gfDiv_0 4 rfl rfl)
theorem dX5_gfDiv_6 : decode cX5_gfDiv 6 = .ok (.invokevirtual 32, 3) := dk_182 0 32 (dk_at dksX5_gfDiv_0 6 rfl rfl)
theorem dX5_gfDiv_9 : decode cX5_gfDiv 9 = .ok (.sipush 255, 3) := dk_17 0 255 (dk_at dksX5_gfDiv_0 9 rfl rfl)
theorem dX5_gfDiv_12 : decode cX5_gfDiv 12 = .ok (.iand, 1) := dk_126 (dk_at dksX5_gfDiv_0 12 rfl rfl)
theorem dX5_gfDiv_13 : decode cX5_gfDiv 13 = .ok (.invokevirtual 36, 3) := dk_182 0 36 (dk_at dksX5_gfDiv_0 13 rfl rfl)
theorem dX5_gfDiv_16 : decode cX5_gfDiv 16 = .ok (.ireturn, 1) := dk_172 (dk_at dksX5_gfDiv_0 16 rfl rfl)
abbrev cX5_gfPow : ByteArray := prog_2_method_4_code
def yX5_gfPow : MethodName := ⟨RX5, "gfPow", "(IB)B"⟩
def dkwX5_gfPow_2 : List UInt8 := [182, 0, 36, 60, 132, 4, 1, 167, 255, 207, 29, 145, 172]
abbrev dktX5_gfPow_2 : List UInt8 := dkwX5_gfPow_2 ++ []
def dkwX5_gfPow_1 : List UInt8 := [17, 0, 255, 126, 27, 17, 0, 255, 126, 182, 0, 36, 62, 42, 27, 17, 0, 255, 126, 27, 17, 0, 255, 126]
abbrev dktX5_gfPow_1 : List UInt8 := dkwX5_gfPow_1 ++ dktX5_gfPow_2
def dkwX5_gfPow_0 : List UInt8 := [4, 62, 3, 54, 4, 21, 4, 16, 8, 162, 0, 48, 28, 4, 21, 4, 120, 126, 153, 0, 18, 42, 29]
abbrev dktX5_gfPow_0 : List UInt8 := dkwX5_gfPow_0 ++ dktX5_gfPow_1
theorem dksX5_gfPow_0 : cX5_gfPow.data.toList.drop 0 = dktX5_gfPow_0 := by decide +kernel
theorem dksX5_gfPow_1 : cX5_gfPow.data.toList.drop 23 = dktX5_gfPow_1 := dk_seg dksX5_gfPow_0 23 rfl rfl
theorem dksX5_gfPow_2 : cX5_gfPow.data.toList.drop 47 = dktX5_gfPow_2 := dk_seg dksX5_gfPow_1 24 rfl rfl
theorem dX5_gfPow_0 : decode cX5_gfPow 0 = .ok (.iconst 1, 1) := dk_4 (dk_at dksX5_gfPow_0 0 rfl rfl)
theorem dX5_gfPow_1 : decode cX5_gfPow 1 = .ok (.istore_n 3, 1) := dk_62 (dk_at dksX5_gfPow_0 1 rfl rfl)
theorem dX5_gfPow_2 : decode cX5_gfPow 2 = .ok (.iconst 0, 1) := dk_3 (dk_at dksX5_gfPow_0 2 rfl rfl)
theorem dX5_gfPow_3 : decode cX5_gfPow 3 = .ok (.istore 4, 2) := dk_54 4 (dk_at dksX5_gfPow_0 3 rfl rfl)
theorem dX5_gfPow_5 : decode cX5_gfPow 5 = .ok (.iload 4, 2) := dk_21 4 (dk_at dksX5_gfPow_0 5 rfl rfl)
theorem dX5_gfPow_7 : decode cX5_gfPow 7 = .ok (.bipush 8, 2) := dk_16 8 (dk_at dksX5_gfPow_0 7 rfl rfl)
theorem dX5_gfPow_9 : decode cX5_gfPow 9 = .ok (.if_icmp .ge 48, 3) := dk_162 0 48 (dk_at dksX5_gfPow_0 9 rfl rfl)
theorem dX5_gfPow_12 : decode cX5_gfPow 12 = .ok (.iload_n 2, 1) := dk_28 (dk_at dksX5_gfPow_0 12 rfl rfl)
theorem dX5_gfPow_13 : decode cX5_gfPow 13 = .ok (.iconst 1, 1) := dk_4 (dk_at dksX5_gfPow_0 13 rfl rfl)
theorem dX5_gfPow_14 : decode cX5_gfPow 14 = .ok (.iload 4, 2) := dk_21 4 (dk_at dksX5_gfPow_0 14 rfl rfl)
theorem dX5_gfPow_16 : decode cX5_gfPow 16 = .ok (.ishl, 1) := dk_120 (dk_at dksX5_gfPow_0 16 rfl rfl)
theorem dX5_gfPow_17 : decode cX5_gfPow 17 = .ok (.iand, 1) := dk_126 (dk_at dksX5_gfPow_0 17 rfl rfl)
theorem dX5_gfPow_18 : decode cX5_gfPow 18 = .ok (.ifCond .eq 18, 3) := dk_153 0 18 (dk_at dksX5_gfPow_0 18 rfl rfl)
theorem dX5_gfPow_21 : decode cX5_gfPow 21 = .ok (.aload_n 0, 1) := dk_42 (dk_at dksX5_gfPow_0 21 rfl rfl)
theorem dX5_gfPow_22 : decode cX5_gfPow 22 = .ok (.iload_n 3, 1) := dk_29 (dk_at dksX5_gfPow_0 22 rfl rfl)
theorem dX5_gfPow_23 : decode cX5_gfPow 23 = .ok (.sipush 255, 3) := dk_17 0 255 (dk_at dksX5_gfPow_1 0 rfl rfl)
theorem dX5_gfPow_26 : decode cX5_gfPow 26 = .ok (.iand, 1) := dk_126 (dk_at dksX5_gfPow_1 3 rfl rfl)
theorem dX5_gfPow_27 : decode cX5_gfPow 27 = .ok (.iload_n 1, 1) := dk_27 (dk_at dksX5_gfPow_1 4 rfl rfl)
theorem dX5_gfPow_28 : decode cX5_gfPow 28 = .ok (.sipush 255, 3) := dk_17 0 255 (dk_at dksX5_gfPow_1 5 rfl rfl)
theorem dX5_gfPow_31 : decode cX5_gfPow 31 = .ok (.iand, 1) := dk_126 (dk_at dksX5_gfPow_1 8 rfl rfl)
theorem dX5_gfPow_32 : decode cX5_gfPow 32 = .ok (.invokevirtual 36, 3) := dk_182 0 36 (dk_at dksX5_gfPow_1 9 rfl rfl)
theorem dX5_gfPow_35 : decode cX5_gfPow 35 = .ok (.istore_n 3, 1) := dk_62 (dk_at dksX5_gfPow_1 12 rfl rfl)
theorem dX5_gfPow_36 : decode cX5_gfPow 36 = .ok (.aload_n 0, 1) := dk_42 (dk_at dksX5_gfPow_1 13 rfl rfl)
theorem dX5_gfPow_37 : decode cX5_gfPow 37 = .ok (.iload_n 1, 1) := dk_27 (dk_at dksX5_gfPow_1 14 rfl rfl)
theorem dX5_gfPow_38 : decode cX5_gfPow 38 = .ok (.sipush 255, 3) := dk_17 0 255 (dk_at dksX5_gfPow_1 15 rfl rfl)
theorem dX5_gfPow_41 : decode cX5_gfPow 41 = .ok (.iand, 1) := dk_126 (dk_at dksX5_gfPow_1 18 rfl rfl)
theorem dX5_gfPow_42 : decode cX5_gfPow 42 = .ok (.iload_n 1, 1) := dk_27 (dk_at dksX5_gfPow_1 19 rfl rfl)
theorem dX5_gfPow_43 : decode cX5_gfPow 43 = .ok (.sipush 255, 3) := dk_17 0 255 (dk_at dksX5_gfPow_1 20 rfl rfl)
theorem dX5_gfPow_46 : decode cX5_gfPow 46 = .ok (.iand, 1) := dk_126 (dk_at dksX5_gfPow_1 23 rfl rfl)
theorem dX5_gfPow_47 : decode cX5_gfPow 47 = .ok (.invokevirtual 36, 3) := dk_182 0 36 (dk_at dksX5_gfPow_2 0 rfl rfl)
theorem dX5_gfPow_50 : decode cX5_gfPow 50 = .ok (.istore_n 1, 1) := dk_60 (dk_at dksX5_gfPow_2 3 rfl rfl)
theorem dX5_gfPow_51 : decode cX5_gfPow 51 = .ok (.iinc 4 1, 3) := dk_132 4 1 (dk_at dksX5_gfPow_2 4 rfl rfl)
theorem dX5_gfPow_54 : decode cX5_gfPow 54 = .ok (.goto (-49), 3) := dk_167 255 207 (dk_at dksX5_gfPow_2 7 rfl rfl)
theorem dX5_gfPow_57 : decode cX5_gfPow 57 = .ok (.iload_n 3, 1) := dk_29 (dk_at dksX5_gfPow_2 10 rfl rfl)
theorem dX5_gfPow_58 : decode cX5_gfPow 58 = .ok (.i2b, 1) := dk_145 (dk_at dksX5_gfPow_2 11 rfl rfl)
theorem dX5_gfPow_59 : decode cX5_gfPow 59 = .ok (.ireturn, 1) := dk_172 (dk_at dksX5_gfPow_2 12 rfl rfl)
abbrev cX5_gfMul : ByteArray := prog_2_method_2_code
def yX5_gfMul : MethodName := ⟨RX5, "gfMul", "(II)B"⟩
def dkwX5_gfMul_2 : List UInt8 := [126, 60, 132, 4, 1, 167, 255, 208, 29, 145, 172]
abbrev dktX5_gfMul_2 : List UInt8 := dkwX5_gfMul_2 ++ []
def dkwX5_gfMul_1 : List UInt8 := [61, 27, 16, 7, 124, 4, 126, 54, 5, 27, 4, 120, 42, 180, 0, 19, 21, 5, 116, 126, 130, 17, 0, 255]
abbrev dktX5_gfMul_1 : List UInt8 := dkwX5_gfMul_1 ++ dktX5_gfMul_2
def dkwX5_gfMul_0 : List UInt8 := [3, 62, 3, 54, 4, 21, 4, 16, 8, 162, 0, 47, 29, 27, 28, 4, 126, 116, 126, 130, 62, 28, 4, 124]
abbrev dktX5_gfMul_0 : List UInt8 := dkwX5_gfMul_0 ++ dktX5_gfMul_1
theorem dksX5_gfMul_0 : cX5_gfMul.data.toList.drop 0 = dktX5_gfMul_0 := by decide +kernel
theorem dksX5_gfMul_1 : cX5_gfMul.data.toList.drop 24 = dktX5_gfMul_1 := dk_seg dksX5_gfMul_0 24 rfl rfl
theorem dksX5_gfMul_2 : cX5_gfMul.data.toList.drop 48 = dktX5_gfMul_2 := dk_seg dksX5_gfMul_1 24 rfl rfl
theorem dX5_gfMul_0 : decode cX5_gfMul 0 = .ok (.iconst 0, 1) := dk_3 (dk_at dksX5_gfMul_0 0 rfl rfl)
theorem dX5_gfMul_1 : decode cX5_gfMul 1 = .ok (.istore_n 3, 1) := dk_62 (dk_at dksX5_gfMul_0 1 rfl rfl)
theorem dX5_gfMul_2 : decode cX5_gfMul 2 = .ok (.iconst 0, 1) := dk_3 (dk_at dksX5_gfMul_0 2 rfl rfl)
theorem dX5_gfMul_3 : decode cX5_gfMul 3 = .ok (.istore 4, 2) := dk_54 4 (dk_at dksX5_gfMul_0 3 rfl rfl)
theorem dX5_gfMul_5 : decode cX5_gfMul 5 = .ok (.iload 4, 2) := dk_21 4 (dk_at dksX5_gfMul_0 5 rfl rfl)
theorem dX5_gfMul_7 : decode cX5_gfMul 7 = .ok (.bipush 8, 2) := dk_16 8 (dk_at dksX5_gfMul_0 7 rfl rfl)
theorem dX5_gfMul_9 : decode cX5_gfMul 9 = .ok (.if_icmp .ge 47, 3) := dk_162 0 47 (dk_at dksX5_gfMul_0 9 rfl rfl)
theorem dX5_gfMul_12 : decode cX5_gfMul 12 = .ok (.iload_n 3, 1) := dk_29 (dk_at dksX5_gfMul_0 12 rfl rfl)
theorem dX5_gfMul_13 : decode cX5_gfMul 13 = .ok (.iload_n 1, 1) := dk_27 (dk_at dksX5_gfMul_0 13 rfl rfl)
theorem dX5_gfMul_14 : decode cX5_gfMul 14 = .ok (.iload_n 2, 1) := dk_28 (dk_at dksX5_gfMul_0 14 rfl rfl)
theorem dX5_gfMul_15 : decode cX5_gfMul 15 = .ok (.iconst 1, 1) := dk_4 (dk_at dksX5_gfMul_0 15 rfl rfl)
theorem dX5_gfMul_16 : decode cX5_gfMul 16 = .ok (.iand, 1) := dk_126 (dk_at dksX5_gfMul_0 16 rfl rfl)
theorem dX5_gfMul_17 : decode cX5_gfMul 17 = .ok (.ineg, 1) := dk_116 (dk_at dksX5_gfMul_0 17 rfl rfl)
theorem dX5_gfMul_18 : decode cX5_gfMul 18 = .ok (.iand, 1) := dk_126 (dk_at dksX5_gfMul_0 18 rfl rfl)
theorem dX5_gfMul_19 : decode cX5_gfMul 19 = .ok (.ixor, 1) := dk_130 (dk_at dksX5_gfMul_0 19 rfl rfl)
theorem dX5_gfMul_20 : decode cX5_gfMul 20 = .ok (.istore_n 3, 1) := dk_62 (dk_at dksX5_gfMul_0 20 rfl rfl)
theorem dX5_gfMul_21 : decode cX5_gfMul 21 = .ok (.iload_n 2, 1) := dk_28 (dk_at dksX5_gfMul_0 21 rfl rfl)
theorem dX5_gfMul_22 : decode cX5_gfMul 22 = .ok (.iconst 1, 1) := dk_4 (dk_at dksX5_gfMul_0 22 rfl rfl)
theorem dX5_gfMul_23 : decode cX5_gfMul 23 = .ok (.iushr, 1) := dk_124 (dk_at dksX5_gfMul_0 23 rfl rfl)
theorem dX5_gfMul_24 : decode cX5_gfMul 24 = .ok (.istore_n 2, 1) := dk_61 (dk_at dksX5_gfMul_1 0 rfl rfl)
theorem dX5_gfMul_25 : decode cX5_gfMul 25 = .ok (.iload_n 1, 1) := dk_27 (dk_at dksX5_gfMul_1 1 rfl rfl)
theorem dX5_gfMul_26 : decode cX5_gfMul 26 = .ok (.bipush 7, 2) := dk_16 7 (dk_at dksX5_gfMul_1 2 rfl rfl)
theorem dX5_gfMul_28 : decode cX5_gfMul 28 = .ok (.iushr, 1) := dk_124 (dk_at dksX5_gfMul_1 4 rfl rfl)
theorem dX5_gfMul_29 : decode cX5_gfMul 29 = .ok (.iconst 1, 1) := dk_4 (dk_at dksX5_gfMul_1 5 rfl rfl)
theorem dX5_gfMul_30 : decode cX5_gfMul 30 = .ok (.iand, 1) := dk_126 (dk_at dksX5_gfMul_1 6 rfl rfl)
theorem dX5_gfMul_31 : decode cX5_gfMul 31 = .ok (.istore 5, 2) := dk_54 5 (dk_at dksX5_gfMul_1 7 rfl rfl)
theorem dX5_gfMul_33 : decode cX5_gfMul 33 = .ok (.iload_n 1, 1) := dk_27 (dk_at dksX5_gfMul_1 9 rfl rfl)
theorem dX5_gfMul_34 : decode cX5_gfMul 34 = .ok (.iconst 1, 1) := dk_4 (dk_at dksX5_gfMul_1 10 rfl rfl)
theorem dX5_gfMul_35 : decode cX5_gfMul 35 = .ok (.ishl, 1) := dk_120 (dk_at dksX5_gfMul_1 11 rfl rfl)
theorem dX5_gfMul_36 : decode cX5_gfMul 36 = .ok (.aload_n 0, 1) := dk_42 (dk_at dksX5_gfMul_1 12 rfl rfl)
theorem dX5_gfMul_37 : decode cX5_gfMul 37 = .ok (.getfield 19, 3) := dk_180 0 19 (dk_at dksX5_gfMul_1 13 rfl rfl)
theorem dX5_gfMul_40 : decode cX5_gfMul 40 = .ok (.iload 5, 2) := dk_21 5 (dk_at dksX5_gfMul_1 16 rfl rfl)
theorem dX5_gfMul_42 : decode cX5_gfMul 42 = .ok (.ineg, 1) := dk_116 (dk_at dksX5_gfMul_1 18 rfl rfl)
theorem dX5_gfMul_43 : decode cX5_gfMul 43 = .ok (.iand, 1) := dk_126 (dk_at dksX5_gfMul_1 19 rfl rfl)
theorem dX5_gfMul_44 : decode cX5_gfMul 44 = .ok (.ixor, 1) := dk_130 (dk_at dksX5_gfMul_1 20 rfl rfl)
theorem dX5_gfMul_45 : decode cX5_gfMul 45 = .ok (.sipush 255, 3) := dk_17 0 255 (dk_at dksX5_gfMul_1 21 rfl rfl)
theorem dX5_gfMul_48 : decode cX5_gfMul 48 = .ok (.iand, 1) := dk_126 (dk_at dksX5_gfMul_2 0 rfl rfl)
theorem dX5_gfMul_49 : decode cX5_gfMul 49 = .ok (.istore_n 1, 1) := dk_60 (dk_at dksX5_gfMul_2 1 rfl rfl)
theorem dX5_gfMul_50 : decode cX5_gfMul 50 = .ok (.iinc 4 1, 3) := dk_132 4 1 (dk_at dksX5_gfMul_2 2 rfl rfl)
theorem dX5_gfMul_53 : decode cX5_gfMul 53 = .ok (.goto (-48), 3) := dk_167 255 208 (dk_at dksX5_gfMul_2 5 rfl rfl)
theorem dX5_gfMul_56 : decode cX5_gfMul 56 = .ok (.iload_n 3, 1) := dk_29 (dk_at dksX5_gfMul_2 8 rfl rfl)
theorem dX5_gfMul_57 : decode cX5_gfMul 57 = .ok (.i2b, 1) := dk_145 (dk_at dksX5_gfMul_2 9 rfl rfl)
theorem dX5_gfMul_58 : decode cX5_gfMul 58 = .ok (.ireturn, 1) := dk_172 (dk_at dksX5_gfMul_2 10 rfl rfl)
abbrev cX5_gfVecMul : ByteArray := prog_2_method_5_code
def yX5_gfVecMul : MethodName := ⟨RX5, "gfVecMul", "([B[[B)[B"⟩
def dkwX5_gfVecMul_3 : List UInt8 := [145, 84, 132, 5, 1, 167, 255, 190, 45, 176]
abbrev dktX5_gfVecMul_3 : List UInt8 := dkwX5_gfVecMul_3 ++ []
def dkwX5_gfVecMul_2 : List UInt8 := [21, 5, 51, 17, 0, 255, 126, 182, 0, 36, 130, 54, 4, 132, 6, 1, 167, 255, 218, 45, 21, 5, 21, 4]
abbrev dktX5_gfVecMul_2 : List UInt8 := dkwX5_gfVecMul_2 ++ dktX5_gfVecMul_3
def dkwX5_gfVecMul_1 : List UInt8 := [54, 6, 21, 6, 43, 190, 162, 0, 37, 21, 4, 42, 43, 21, 6, 51, 17, 0, 255, 126, 44, 21, 6, 50]
abbrev dktX5_gfVecMul_1 : List UInt8 := dkwX5_gfVecMul_1 ++ dktX5_gfVecMul_2
def dkwX5_gfVecMul_0 : List UInt8 := [44, 3, 50, 190, 188, 8, 78, 3, 54, 5, 21, 5, 44, 3, 50, 190, 162, 0, 63, 3, 54, 4, 3]
abbrev dktX5_gfVecMul_0 : List UInt8 := dkwX5_gfVecMul_0 ++ dktX5_gfVecMul_1
theorem dksX5_gfVecMul_0 : cX5_gfVecMul.data.toList.drop 0 = dktX5_gfVecMul_0 := by decide +kernel
theorem dksX5_gfVecMul_1 : cX5_gfVecMul.data.toList.drop 23 = dktX5_gfVecMul_1 := dk_seg dksX5_gfVecMul_0 23 rfl rfl
theorem dksX5_gfVecMul_2 : cX5_gfVecMul.data.toList.drop 47 = dktX5_gfVecMul_2 := dk_seg dksX5_gfVecMul_1 24 rfl rfl
theorem dksX5_gfVecMul_3 : cX5_gfVecMul.data.toList.drop 71 = dktX5_gfVecMul_3 := dk_seg dksX5_gfVecMul_2 24 rfl rfl
theorem dX5_gfVecMul_0 : decode cX5_gfVecMul 0 = .ok (.aload_n 2, 1) := dk_44 (dk_at dksX5_gfVecMul_0 0 rfl rfl)
theorem dX5_gfVecMul_1 : decode cX5_gfVecMul 1 = .ok (.iconst 0, 1) := dk_3 (dk_at dksX5_gfVecMul_0 1 rfl rfl)
theorem dX5_gfVecMul_2 : decode cX5_gfVecMul 2 = .ok (.aaload, 1) := dk_50 (dk_at dksX5_gfVecMul_0 2 rfl rfl)
theorem dX5_gfVecMul_3 : decode cX5_gfVecMul 3 = .ok (.arraylength, 1) := dk_190 (dk_at dksX5_gfVecMul_0 3 rfl rfl)
theorem dX5_gfVecMul_4 : decode cX5_gfVecMul 4 = .ok (.newarray .byte, 2) := dk_188_8 (dk_at dksX5_gfVecMul_0 4 rfl rfl)
theorem dX5_gfVecMul_6 : decode cX5_gfVecMul 6 = .ok (.astore_n 3, 1) := dk_78 (dk_at dksX5_gfVecMul_0 6 rfl rfl)
theorem dX5_gfVecMul_7 : decode cX5_gfVecMul 7 = .ok (.iconst 0, 1) := dk_3 (dk_at dksX5_gfVecMul_0 7 rfl rfl)
theorem dX5_gfVecMul_8 : decode cX5_gfVecMul 8 = .ok (.istore 5, 2) := dk_54 5 (dk_at dksX5_gfVecMul_0 8 rfl rfl)
theorem dX5_gfVecMul_10 : decode cX5_gfVecMul 10 = .ok (.iload 5, 2) := dk_21 5 (dk_at dksX5_gfVecMul_0 10 rfl rfl)
theorem dX5_gfVecMul_12 : decode cX5_gfVecMul 12 = .ok (.aload_n 2, 1) := dk_44 (dk_at dksX5_gfVecMul_0 12 rfl rfl)
theorem dX5_gfVecMul_13 : decode cX5_gfVecMul 13 = .ok (.iconst 0, 1) := dk_3 (dk_at dksX5_gfVecMul_0 13 rfl rfl)
theorem dX5_gfVecMul_14 : decode cX5_gfVecMul 14 = .ok (.aaload, 1) := dk_50 (dk_at dksX5_gfVecMul_0 14 rfl rfl)
theorem dX5_gfVecMul_15 : decode cX5_gfVecMul 15 = .ok (.arraylength, 1) := dk_190 (dk_at dksX5_gfVecMul_0 15 rfl rfl)
theorem dX5_gfVecMul_16 : decode cX5_gfVecMul 16 = .ok (.if_icmp .ge 63, 3) := dk_162 0 63 (dk_at dksX5_gfVecMul_0 16 rfl rfl)
theorem dX5_gfVecMul_19 : decode cX5_gfVecMul 19 = .ok (.iconst 0, 1) := dk_3 (dk_at dksX5_gfVecMul_0 19 rfl rfl)
theorem dX5_gfVecMul_20 : decode cX5_gfVecMul 20 = .ok (.istore 4, 2) := dk_54 4 (dk_at dksX5_gfVecMul_0 20 rfl rfl)
theorem dX5_gfVecMul_22 : decode cX5_gfVecMul 22 = .ok (.iconst 0, 1) := dk_3 (dk_at dksX5_gfVecMul_0 22 rfl rfl)
theorem dX5_gfVecMul_23 : decode cX5_gfVecMul 23 = .ok (.istore 6, 2) := dk_54 6 (dk_at dksX5_gfVecMul_1 0 rfl rfl)
theorem dX5_gfVecMul_25 : decode cX5_gfVecMul 25 = .ok (.iload 6, 2) := dk_21 6 (dk_at dksX5_gfVecMul_1 2 rfl rfl)
theorem dX5_gfVecMul_27 : decode cX5_gfVecMul 27 = .ok (.aload_n 1, 1) := dk_43 (dk_at dksX5_gfVecMul_1 4 rfl rfl)
theorem dX5_gfVecMul_28 : decode cX5_gfVecMul 28 = .ok (.arraylength, 1) := dk_190 (dk_at dksX5_gfVecMul_1 5 rfl rfl)
theorem dX5_gfVecMul_29 : decode cX5_gfVecMul 29 = .ok (.if_icmp .ge 37, 3) := dk_162 0 37 (dk_at dksX5_gfVecMul_1 6 rfl rfl)
theorem dX5_gfVecMul_32 : decode cX5_gfVecMul 32 = .ok (.iload 4, 2) := dk_21 4 (dk_at dksX5_gfVecMul_1 9 rfl rfl)
theorem dX5_gfVecMul_34 : decode cX5_gfVecMul 34 = .ok (.aload_n 0, 1) := dk_42 (dk_at dksX5_gfVecMul_1 11 rfl rfl)
theorem dX5_gfVecMul_35 : decode cX5_gfVecMul 35 = .ok (.aload_n 1, 1) := dk_43 (dk_at dksX5_gfVecMul_1 12 rfl rfl)
theorem dX5_gfVecMul_36 : decode cX5_gfVecMul 36 = .ok (.iload 6, 2) := dk_21 6 (dk_at dksX5_gfVecMul_1 13 rfl rfl)
theorem dX5_gfVecMul_38 : decode cX5_gfVecMul 38 = .ok (.baload, 1) := dk_51 (dk_at dksX5_gfVecMul_1 15 rfl rfl)
theorem dX5_gfVecMul_39 : decode cX5_gfVecMul 39 = .ok (.sipush 255, 3) := dk_17 0 255 (dk_at dksX5_gfVecMul_1 16 rfl rfl)
theorem dX5_gfVecMul_42 : decode cX5_gfVecMul 42 = .ok (.iand, 1) := dk_126 (dk_at dksX5_gfVecMul_1 19 rfl rfl)
theorem dX5_gfVecMul_43 : decode cX5_gfVecMul 43 = .ok (.aload_n 2, 1) := dk_44 (dk_at dksX5_gfVecMul_1 20 rfl rfl)
theorem dX5_gfVecMul_44 : decode cX5_gfVecMul 44 = .ok (.iload 6, 2) := dk_21 6 (dk_at dksX5_gfVecMul_1 21 rfl rfl)
theorem dX5_gfVecMul_46 : decode cX5_gfVecMul 46 = .ok (.aaload, 1) := dk_50 (dk_at dksX5_gfVecMul_1 23 rfl rfl)
theorem dX5_gfVecMul_47 : decode cX5_gfVecMul 47 = .ok (.iload 5, 2) := dk_21 5 (dk_at dksX5_gfVecMul_2 0 rfl rfl)
theorem dX5_gfVecMul_49 : decode cX5_gfVecMul 49 = .ok (.baload, 1) := dk_51 (dk_at dksX5_gfVecMul_2 2 rfl rfl)
theorem dX5_gfVecMul_50 : decode cX5_gfVecMul 50 = .ok (.sipush 255, 3) := dk_17 0 255 (dk_at dksX5_gfVecMul_2 3 rfl rfl)
theorem dX5_gfVecMul_53 : decode cX5_gfVecMul 53 = .ok (.iand, 1) := dk_126 (dk_at dksX5_gfVecMul_2 6 rfl rfl)
theorem dX5_gfVecMul_54 : decode cX5_gfVecMul 54 = .ok (.invokevirtual 36, 3) := dk_182 0 36 (dk_at dksX5_gfVecMul_2 7 rfl rfl)
theorem dX5_gfVecMul_57 : decode cX5_gfVecMul 57 = .ok (.ixor, 1) := dk_130 (dk_at dksX5_gfVecMul_2 10 rfl rfl)
theorem dX5_gfVecMul_58 : decode cX5_gfVecMul 58 = .ok (.istore 4, 2) := dk_54 4 (dk_at dksX5_gfVecMul_2 11 rfl rfl)
theorem dX5_gfVecMul_60 : decode cX5_gfVecMul 60 = .ok (.iinc 6 1, 3) := dk_132 6 1 (dk_at dksX5_gfVecMul_2 13 rfl rfl)
theorem dX5_gfVecMul_63 : decode cX5_gfVecMul 63 = .ok (.goto (-38), 3) := dk_167 255 218 (dk_at dksX5_gfVecMul_2 16 rfl rfl)
theorem dX5_gfVecMul_66 : decode cX5_gfVecMul 66 = .ok (.aload_n 3, 1) := dk_45 (dk_at dksX5_gfVecMul_2 19 rfl rfl)
theorem dX5_gfVecMul_67 : decode cX5_gfVecMul 67 = .ok (.iload 5, 2) := dk_21 5 (dk_at dksX5_gfVecMul_2 20 rfl rfl)
theorem dX5_gfVecMul_69 : decode cX5_gfVecMul 69 = .ok (.iload 4, 2) := dk_21 4 (dk_at dksX5_gfVecMul_2 22 rfl rfl)
theorem dX5_gfVecMul_71 : decode cX5_gfVecMul 71 = .ok (.i2b, 1) := dk_145 (dk_at dksX5_gfVecMul_3 0 rfl rfl)
theorem dX5_gfVecMul_72 : decode cX5_gfVecMul 72 = .ok (.bastore, 1) := dk_84 (dk_at dksX5_gfVecMul_3 1 rfl rfl)
theorem dX5_gfVecMul_73 : decode cX5_gfVecMul 73 = .ok (.iinc 5 1, 3) := dk_132 5 1 (dk_at dksX5_gfVecMul_3 2 rfl rfl)
theorem dX5_gfVecMul_76 : decode cX5_gfVecMul 76 = .ok (.goto (-66), 3) := dk_167 255 190 (dk_at dksX5_gfVecMul_3 5 rfl rfl)
theorem dX5_gfVecMul_79 : decode cX5_gfVecMul 79 = .ok (.aload_n 3, 1) := dk_45 (dk_at dksX5_gfVecMul_3 8 rfl rfl)
theorem dX5_gfVecMul_80 : decode cX5_gfVecMul 80 = .ok (.areturn, 1) := dk_176 (dk_at dksX5_gfVecMul_3 9 rfl rfl)
theorem q11 : (Jvm.Cond.initialized "Polynomial") ∈ lw_all := lw_g (lw_at lw_m1 10 rfl) rfl
theorem q92 : (Jvm.Cond.instantiable "Polynomial" (1 : Nat)) ∈ lw_all := lw_g (lw_at lw_m1 91 rfl) rfl
theorem q94 : (Jvm.Cond.instanceMethod ({ cls := "Polynomial", name := "<init>", desc := "(LShamirSecretSplitter$Algorithm;)V" } : Jvm.MethodName)) ∈ lw_all := lw_g (lw_at lw_m1 93 rfl) rfl
theorem q95 : (Jvm.Cond.code ({ cls := "Polynomial", name := "<init>", desc := "(LShamirSecretSplitter$Algorithm;)V" } : Jvm.MethodName) prog_2_method_1_code (2 : Nat) (Option.none : Option Jvm.ClassFile.FieldType)) ∈ lw_all := lw_g (lw_at lw_m1 94 rfl) rfl
theorem q96 : (Jvm.Cond.methodLink "Polynomial" (1 : Nat) ({ cls := "java/lang/Object", name := "<init>", desc := "()V" } : Jvm.MethodName)) ∈ lw_all := lw_g (lw_at lw_m1 95 rfl) rfl
theorem q97 : (Jvm.Cond.fieldLink "Polynomial" (7 : Nat) "Polynomial$1" "$SwitchMap$ShamirSecretSplitter$Algorithm" "[I") ∈ lw_all := lw_g (lw_at lw_m1 96 rfl) rfl
theorem q99 : (Jvm.Cond.methodLink "Polynomial" (13 : Nat) ({ cls := "ShamirSecretSplitter$Algorithm", name := "ordinal", desc := "()I" } : Jvm.MethodName)) ∈ lw_all := lw_g (lw_at lw_m1 98 rfl) rfl
theorem q105 : (Jvm.Cond.classLink "Polynomial" (25 : Nat) "java/lang/IllegalArgumentException") ∈ lw_all := lw_g (lw_at lw_m1 104 rfl) rfl
theorem q144 : (Jvm.Cond.stringRef "Polynomial" (27 : Nat) "The algorithm is not correct") ∈ lw_tbl := lw_at lw_m1 143 rfl
theorem q145 : (Jvm.Cond.methodLink "Polynomial" (29 : Nat) ({ cls := "java/lang/IllegalArgumentException", name := "<init>", desc := "(Ljava/lang/String;)V" } : Jvm.MethodName)) ∈ lw_all := lw_g (lw_at lw_m1 144 rfl) rfl
theorem q170 : (Jvm.Cond.fieldLink "Polynomial" (19 : Nat) "Polynomial" "irreducible" "I") ∈ lw_all := lw_g (lw_at lw_m1 169 rfl) rfl
theorem q171 : (Jvm.Cond.laysFinal "Polynomial" "Polynomial" "irreducible" "I") ∈ lw_all := lw_g (lw_at lw_m1 170 rfl) rfl
theorem q172 : (Jvm.Cond.soleField "Polynomial" "irreducible") ∈ lw_all := lw_g (lw_at lw_m1 171 rfl) rfl
theorem q173 : (Jvm.Cond.superclass "Polynomial" "java/lang/Object") ∈ lw_all := lw_g (lw_at lw_m1 172 rfl) rfl
theorem q198 : (Jvm.Cond.instanceMethod ({ cls := "Polynomial", name := "gfDiv", desc := "(II)B" } : Jvm.MethodName)) ∈ lw_all := lw_g (lw_at lw_m1 197 rfl) rfl
theorem q199 : (Jvm.Cond.selects "Polynomial" ({ cls := "Polynomial", name := "gfDiv", desc := "(II)B" } : Jvm.MethodName) ({ cls := "Polynomial", name := "gfDiv", desc := "(II)B" } : Jvm.MethodName)) ∈ lw_all := lw_g (lw_at lw_m1 198 rfl) rfl
theorem q200 : (Jvm.Cond.code ({ cls := "Polynomial", name := "gfDiv", desc := "(II)B" } : Jvm.MethodName) prog_2_method_3_code (3 : Nat) (Option.some Jvm.ClassFile.FieldType.byte)) ∈ lw_all := lw_g (lw_at lw_m1 199 rfl) rfl
theorem q201 : (Jvm.Cond.methodLink "Polynomial" (32 : Nat) ({ cls := "Polynomial", name := "gfPow", desc := "(IB)B" } : Jvm.MethodName)) ∈ lw_all := lw_g (lw_at lw_m1 200 rfl) rfl
theorem q202 : (Jvm.Cond.instanceMethod ({ cls := "Polynomial", name := "gfPow", desc := "(IB)B" } : Jvm.MethodName)) ∈ lw_all := lw_g (lw_at lw_m1 201 rfl) rfl
theorem q203 : (Jvm.Cond.selects "Polynomial" ({ cls := "Polynomial", name := "gfPow", desc := "(IB)B" } : Jvm.MethodName) ({ cls := "Polynomial", name := "gfPow", desc := "(IB)B" } : Jvm.MethodName)) ∈ lw_all := lw_g (lw_at lw_m1 202 rfl) rfl
theorem q204 : (Jvm.Cond.code ({ cls := "Polynomial", name := "gfPow", desc := "(IB)B" } : Jvm.MethodName) prog_2_method_4_code (5 : Nat) (Option.some Jvm.ClassFile.FieldType.byte)) ∈ lw_all := lw_g (lw_at lw_m1 203 rfl) rfl
theorem q205 : (Jvm.Cond.methodLink "Polynomial" (36 : Nat) ({ cls := "Polynomial", name := "gfMul", desc := "(II)B" } : Jvm.MethodName)) ∈ lw_all := lw_g (lw_at lw_m1 204 rfl) rfl
theorem q206 : (Jvm.Cond.instanceMethod ({ cls := "Polynomial", name := "gfMul", desc := "(II)B" } : Jvm.MethodName)) ∈ lw_all := lw_g (lw_at lw_m1 205 rfl) rfl
theorem q207 : (Jvm.Cond.selects "Polynomial" ({ cls := "Polynomial", name := "gfMul", desc := "(II)B" } : Jvm.MethodName) ({ cls := "Polynomial", name := "gfMul", desc := "(II)B" } : Jvm.MethodName)) ∈ lw_all := lw_g (lw_at lw_m1 206 rfl) rfl
theorem q208 : (Jvm.Cond.code ({ cls := "Polynomial", name := "gfMul", desc := "(II)B" } : Jvm.MethodName) prog_2_method_2_code (6 : Nat) (Option.some Jvm.ClassFile.FieldType.byte)) ∈ lw_all := lw_g (lw_at lw_m1 207 rfl) rfl
theorem q211 : (Jvm.Cond.instanceMethod ({ cls := "Polynomial", name := "gfVecMul", desc := "([B[[B)[B" } : Jvm.MethodName)) ∈ lw_all := lw_g (lw_at lw_m1 210 rfl) rfl
theorem q212 : (Jvm.Cond.selects "Polynomial" ({ cls := "Polynomial", name := "gfVecMul", desc := "([B[[B)[B" } : Jvm.MethodName) ({ cls := "Polynomial", name := "gfVecMul", desc := "([B[[B)[B" } : Jvm.MethodName)) ∈ lw_all := lw_g (lw_at lw_m1 211 rfl) rfl
theorem q213 : (Jvm.Cond.code ({ cls := "Polynomial", name := "gfVecMul", desc := "([B[[B)[B" } : Jvm.MethodName) prog_2_method_5_code (7 : Nat) (Option.some (Jvm.ClassFile.FieldType.array Jvm.ClassFile.FieldType.byte))) ∈ lw_all := lw_g (lw_at lw_m1 212 rfl) rfl
theorem in_X5 : ∀ w ∈ wsX50, w ∈ lw_all := lw_in wsX50 [171] (by decide +kernel) (by decide +kernel)
/-! java/lang/Integer -/
set_option maxRecDepth 100000
def RJ0 : String := "java/lang/Intege\x72"
abbrev cJ0_bitCount : ByteArray := prog_17_method_49_code
def yJ0_bitCount : MethodName := ⟨RJ0, "bitCount", "(I)I"⟩
def dkwJ0_bitCount_2 : List UInt8 := [26, 16, 63, 126, 172]
abbrev dktJ0_bitCount_2 : List UInt8 := dkwJ0_bitCount_2 ++ []
def dkwJ0_bitCount_1 : List UInt8 := [26, 26, 7, 124, 96, 19, 1, 11, 126, 59, 26, 26, 16, 8, 124, 96, 59, 26, 26, 16, 16, 124, 96, 59]
abbrev dktJ0_bitCount_1 : List UInt8 := dkwJ0_bitCount_1 ++ dktJ0_bitCount_2
def dkwJ0_bitCount_0 : List UInt8 := [26, 26, 4, 124, 19, 1, 9, 126, 100, 59, 26, 19, 1, 10, 126, 26, 5, 124, 19, 1, 10, 126, 96, 59]
abbrev dktJ0_bitCount_0 : List UInt8 := dkwJ0_bitCount_0 ++ dktJ0_bitCount_1
theorem dksJ0_bitCount_0 : cJ0_bitCount.data.toList.drop 0 = dktJ0_bitCount_0 := by decide +kernel
theorem dksJ0_bitCount_1 : cJ0_bitCount.data.toList.drop 24 = dktJ0_bitCount_1 := dk_seg dksJ0_bitCount_0 24 rfl rfl
theorem dksJ0_bitCount_2 : cJ0_bitCount.data.toList.drop 48 = dktJ0_bitCount_2 := dk_seg dksJ0_bitCount_1 24 rfl rfl
theorem dJ0_bitCount_0 : decode cJ0_bitCount 0 = .ok (.iload_n 0, 1) := dk_26 (dk_at dksJ0_bitCount_0 0 rfl rfl)
theorem dJ0_bitCount_1 : decode cJ0_bitCount 1 = .ok (.iload_n 0, 1) := dk_26 (dk_at dksJ0_bitCount_0 1 rfl rfl)
theorem dJ0_bitCount_2 : decode cJ0_bitCount 2 = .ok (.iconst 1, 1) := dk_4 (dk_at dksJ0_bitCount_0 2 rfl rfl)
theorem dJ0_bitCount_3 : decode cJ0_bitCount 3 = .ok (.iushr, 1) := dk_124 (dk_at dksJ0_bitCount_0 3 rfl rfl)
theorem dJ0_bitCount_4 : decode cJ0_bitCount 4 = .ok (.ldc_w 265, 3) := dk_19 1 9 (dk_at dksJ0_bitCount_0 4 rfl rfl)
theorem dJ0_bitCount_7 : decode cJ0_bitCount 7 = .ok (.iand, 1) := dk_126 (dk_at dksJ0_bitCount_0 7 rfl rfl)
theorem dJ0_bitCount_8 : decode cJ0_bitCount 8 = .ok (.isub, 1) := dk_100 (dk_at dksJ0_bitCount_0 8 rfl rfl)
theorem dJ0_bitCount_9 : decode cJ0_bitCount 9 = .ok (.istore_n 0, 1) := dk_59 (dk_at dksJ0_bitCount_0 9 rfl rfl)
theorem dJ0_bitCount_10 : decode cJ0_bitCount 10 = .ok (.iload_n 0, 1) := dk_26 (dk_at dksJ0_bitCount_0 10 rfl rfl)
theorem dJ0_bitCount_11 : decode cJ0_bitCount 11 = .ok (.ldc_w 266, 3) := dk_19 1 10 (dk_at dksJ0_bitCount_0 11 rfl rfl)
theorem dJ0_bitCount_14 : decode cJ0_bitCount 14 = .ok (.iand, 1) := dk_126 (dk_at dksJ0_bitCount_0 14 rfl rfl)
theorem dJ0_bitCount_15 : decode cJ0_bitCount 15 = .ok (.iload_n 0, 1) := dk_26 (dk_at dksJ0_bitCount_0 15 rfl rfl)
theorem dJ0_bitCount_16 : decode cJ0_bitCount 16 = .ok (.iconst 2, 1) := dk_5 (dk_at dksJ0_bitCount_0 16 rfl rfl)
theorem dJ0_bitCount_17 : decode cJ0_bitCount 17 = .ok (.iushr, 1) := dk_124 (dk_at dksJ0_bitCount_0 17 rfl rfl)
theorem dJ0_bitCount_18 : decode cJ0_bitCount 18 = .ok (.ldc_w 266, 3) := dk_19 1 10 (dk_at dksJ0_bitCount_0 18 rfl rfl)
theorem dJ0_bitCount_21 : decode cJ0_bitCount 21 = .ok (.iand, 1) := dk_126 (dk_at dksJ0_bitCount_0 21 rfl rfl)
theorem dJ0_bitCount_22 : decode cJ0_bitCount 22 = .ok (.iadd, 1) := dk_96 (dk_at dksJ0_bitCount_0 22 rfl rfl)
theorem dJ0_bitCount_23 : decode cJ0_bitCount 23 = .ok (.istore_n 0, 1) := dk_59 (dk_at dksJ0_bitCount_0 23 rfl rfl)
theorem dJ0_bitCount_24 : decode cJ0_bitCount 24 = .ok (.iload_n 0, 1) := dk_26 (dk_at dksJ0_bitCount_1 0 rfl rfl)
theorem dJ0_bitCount_25 : decode cJ0_bitCount 25 = .ok (.iload_n 0, 1) := dk_26 (dk_at dksJ0_bitCount_1 1 rfl rfl)
theorem dJ0_bitCount_26 : decode cJ0_bitCount 26 = .ok (.iconst 4, 1) := dk_7 (dk_at dksJ0_bitCount_1 2 rfl rfl)
theorem dJ0_bitCount_27 : decode cJ0_bitCount 27 = .ok (.iushr, 1) := dk_124 (dk_at dksJ0_bitCount_1 3 rfl rfl)
theorem dJ0_bitCount_28 : decode cJ0_bitCount 28 = .ok (.iadd, 1) := dk_96 (dk_at dksJ0_bitCount_1 4 rfl rfl)
theorem dJ0_bitCount_29 : decode cJ0_bitCount 29 = .ok (.ldc_w 267, 3) := dk_19 1 11 (dk_at dksJ0_bitCount_1 5 rfl rfl)
theorem dJ0_bitCount_32 : decode cJ0_bitCount 32 = .ok (.iand, 1) := dk_126 (dk_at dksJ0_bitCount_1 8 rfl rfl)
theorem dJ0_bitCount_33 : decode cJ0_bitCount 33 = .ok (.istore_n 0, 1) := dk_59 (dk_at dksJ0_bitCount_1 9 rfl rfl)
theorem dJ0_bitCount_34 : decode cJ0_bitCount 34 = .ok (.iload_n 0, 1) := dk_26 (dk_at dksJ0_bitCount_1 10 rfl rfl)
theorem dJ0_bitCount_35 : decode cJ0_bitCount 35 = .ok (.iload_n 0, 1) := dk_26 (dk_at dksJ0_bitCount_1 11 rfl rfl)
theorem dJ0_bitCount_36 : decode cJ0_bitCount 36 = .ok (.bipush 8, 2) := dk_16 8 (dk_at dksJ0_bitCount_1 12 rfl rfl)
theorem dJ0_bitCount_38 : decode cJ0_bitCount 38 = .ok (.iushr, 1) := dk_124 (dk_at dksJ0_bitCount_1 14 rfl rfl)
theorem dJ0_bitCount_39 : decode cJ0_bitCount 39 = .ok (.iadd, 1) := dk_96 (dk_at dksJ0_bitCount_1 15 rfl rfl)
theorem dJ0_bitCount_40 : decode cJ0_bitCount 40 = .ok (.istore_n 0, 1) := dk_59 (dk_at dksJ0_bitCount_1 16 rfl rfl)
theorem dJ0_bitCount_41 : decode cJ0_bitCount 41 = .ok (.iload_n 0, 1) := dk_26 (dk_at dksJ0_bitCount_1 17 rfl rfl)
theorem dJ0_bitCount_42 : decode cJ0_bitCount 42 = .ok (.iload_n 0, 1) := dk_26 (dk_at dksJ0_bitCount_1 18 rfl rfl)
theorem dJ0_bitCount_43 : decode cJ0_bitCount 43 = .ok (.bipush 16, 2) := dk_16 16 (dk_at dksJ0_bitCount_1 19 rfl rfl)
theorem dJ0_bitCount_45 : decode cJ0_bitCount 45 = .ok (.iushr, 1) := dk_124 (dk_at dksJ0_bitCount_1 21 rfl rfl)
theorem dJ0_bitCount_46 : decode cJ0_bitCount 46 = .ok (.iadd, 1) := dk_96 (dk_at dksJ0_bitCount_1 22 rfl rfl)
theorem dJ0_bitCount_47 : decode cJ0_bitCount 47 = .ok (.istore_n 0, 1) := dk_59 (dk_at dksJ0_bitCount_1 23 rfl rfl)
theorem dJ0_bitCount_48 : decode cJ0_bitCount 48 = .ok (.iload_n 0, 1) := dk_26 (dk_at dksJ0_bitCount_2 0 rfl rfl)
theorem dJ0_bitCount_49 : decode cJ0_bitCount 49 = .ok (.bipush 63, 2) := dk_16 63 (dk_at dksJ0_bitCount_2 1 rfl rfl)
theorem dJ0_bitCount_51 : decode cJ0_bitCount 51 = .ok (.iand, 1) := dk_126 (dk_at dksJ0_bitCount_2 3 rfl rfl)
theorem dJ0_bitCount_52 : decode cJ0_bitCount 52 = .ok (.ireturn, 1) := dk_172 (dk_at dksJ0_bitCount_2 4 rfl rfl)
theorem q4 : (Jvm.Cond.initialized "java/lang/Intege\x72") ∈ lw_all := lw_g (lw_at lw_m1 3 rfl) rfl
theorem q48 : (Jvm.Cond.static ({ cls := "java/lang/Intege\x72", name := "bitCount", desc := "(I)I" } : Jvm.MethodName)) ∈ lw_all := lw_g (lw_at lw_m1 47 rfl) rfl
theorem q49 : (Jvm.Cond.code ({ cls := "java/lang/Intege\x72", name := "bitCount", desc := "(I)I" } : Jvm.MethodName) prog_17_method_49_code (1 : Nat) (Option.some Jvm.ClassFile.FieldType.int)) ∈ lw_all := lw_g (lw_at lw_m1 48 rfl) rfl
theorem q50 : (Jvm.Cond.constant "java/lang/Intege\x72" (265 : Nat) (1431655765 : Int32)) ∈ lw_all := lw_g (lw_at lw_m1 49 rfl) rfl
theorem q51 : (Jvm.Cond.constant "java/lang/Intege\x72" (266 : Nat) (858993459 : Int32)) ∈ lw_all := lw_g (lw_at lw_m1 50 rfl) rfl
theorem q52 : (Jvm.Cond.constant "java/lang/Intege\x72" (267 : Nat) (252645135 : Int32)) ∈ lw_all := lw_g (lw_at lw_m1 51 rfl) rfl
/-! java/lang/Enum -/
set_option maxRecDepth 100000
def RJ1 : String := "java/lang/Enum"
abbrev cJ1_ordinal : ByteArray := prog_14_method_2_code
def yJ1_ordinal : MethodName := ⟨RJ1, "ordinal", "()I"⟩
theorem dJ1_ordinal_0 : decode cJ1_ordinal 0 = .ok (.aload_n 0, 1) := by decide +kernel
theorem dJ1_ordinal_1 : decode cJ1_ordinal 1 = .ok (.getfield 7, 3) := by decide +kernel
theorem dJ1_ordinal_4 : decode cJ1_ordinal 4 = .ok (.ireturn, 1) := by decide +kernel
theorem q8 : (Jvm.Cond.initialized "java/lang/Enum") ∈ lw_all := lw_g (lw_at lw_m1 7 rfl) rfl
theorem q101 : (Jvm.Cond.declares ({ cls := "java/lang/Enum", name := "ordinal", desc := "()I" } : Jvm.MethodName)) ∈ lw_tbl := lw_at lw_m1 100 rfl
theorem q103 : (Jvm.Cond.instanceMethod ({ cls := "java/lang/Enum", name := "ordinal", desc := "()I" } : Jvm.MethodName)) ∈ lw_all := lw_g (lw_at lw_m1 102 rfl) rfl
theorem q104 : (Jvm.Cond.code ({ cls := "java/lang/Enum", name := "ordinal", desc := "()I" } : Jvm.MethodName) prog_14_method_2_code (1 : Nat) (Option.some Jvm.ClassFile.FieldType.int)) ∈ lw_all := lw_g (lw_at lw_m1 103 rfl) rfl
theorem q256 : (Jvm.Cond.fieldLink "java/lang/Enum" (7 : Nat) "java/lang/Enum" "ordinal" "I") ∈ lw_all := lw_g (lw_at lw_m2 15 rfl) rfl
/-! java/lang/Object -/
set_option maxRecDepth 100000
def RJ6 : String := "java/lang/Object"
abbrev cJ6_init : ByteArray := object_method_1_code
def yJ6_init : MethodName := ⟨RJ6, "<init>", "()V"⟩
theorem dJ6_init_0 : decode cJ6_init 0 = .ok (.return_, 1) := by decide +kernel
theorem q23 : (Jvm.Cond.instanceMethod ({ cls := "java/lang/Object", name := "<init>", desc := "()V" } : Jvm.MethodName)) ∈ lw_all := lw_g (lw_at lw_m1 22 rfl) rfl
theorem q24 : (Jvm.Cond.code ({ cls := "java/lang/Object", name := "<init>", desc := "()V" } : Jvm.MethodName) object_method_1_code (1 : Nat) (Option.none : Option Jvm.ClassFile.FieldType)) ∈ lw_all := lw_g (lw_at lw_m1 23 rfl) rfl
theorem q65 : (Jvm.Cond.native ({ cls := "java/lang/Object", name := "clone", desc := "()Ljava/lang/Object;" } : Jvm.MethodName)) ∈ lw_all := lw_g (lw_at lw_m1 64 rfl) rfl
theorem q66 : (Jvm.Cond.instanceMethod ({ cls := "java/lang/Object", name := "clone", desc := "()Ljava/lang/Object;" } : Jvm.MethodName)) ∈ lw_all := lw_g (lw_at lw_m1 65 rfl) rfl
theorem q255 : (Jvm.Cond.initialized "java/lang/Object") ∈ lw_all := lw_g (lw_at lw_m2 14 rfl) rfl
/-! the law's own entry -/
set_option maxRecDepth 100000
abbrev cL_law : ByteArray := code
def dkwL_law_8 : List UInt8 := [182, 0, 27, 159, 0, 5, 3, 172, 132, 3, 6, 167, 255, 84, 4, 172]
abbrev dktL_law_8 : List UInt8 := dkwL_law_8 ++ []
def dkwL_law_7 : List UInt8 := [182, 0, 22, 159, 0, 28, 3, 172, 43, 42, 29, 4, 96, 46, 182, 0, 23, 44, 42, 29, 4, 96, 46]
abbrev dktL_law_7 : List UInt8 := dkwL_law_7 ++ dktL_law_8
def dkwL_law_6 : List UInt8 := [42, 29, 6, 96, 46, 182, 0, 18, 44, 42, 29, 4, 96, 46, 42, 29, 5, 96, 46, 42, 29, 6, 96, 46]
abbrev dktL_law_6 : List UInt8 := dkwL_law_6 ++ dktL_law_7
def dkwL_law_5 : List UInt8 := [96, 46, 42, 29, 8, 96, 46, 182, 0, 17, 167, 0, 69, 43, 42, 29, 4, 96, 46, 42, 29, 5, 96, 46]
abbrev dktL_law_5 : List UInt8 := dkwL_law_5 ++ dktL_law_6
def dkwL_law_4 : List UInt8 := [96, 46, 182, 0, 13, 44, 42, 29, 4, 96, 46, 42, 29, 5, 96, 46, 42, 29, 6, 96, 46, 42, 29, 7]
abbrev dktL_law_4 : List UInt8 := dkwL_law_4 ++ dktL_law_5
def dkwL_law_3 : List UInt8 := [43, 42, 29, 4, 96, 46, 42, 29, 5, 96, 46, 42, 29, 6, 96, 46, 42, 29, 7, 96, 46, 42, 29, 8]
abbrev dktL_law_3 : List UInt8 := dkwL_law_3 ++ dktL_law_4
def dkwL_law_2 : List UInt8 := [170, 0, 0, 0, 0, 0, 0, 155, 0, 0, 0, 0, 0, 0, 0, 2, 0, 0, 0, 28, 0, 0, 0, 89, 0, 0, 0, 132]
abbrev dktL_law_2 : List UInt8 := dkwL_law_2 ++ dktL_law_3
def dkwL_law_1 : List UInt8 := [163, 0, 169, 42, 29, 46, 6, 126]
abbrev dktL_law_1 : List UInt8 := dkwL_law_1 ++ dktL_law_2
def dkwL_law_0 : List UInt8 := [187, 0, 7, 89, 183, 0, 9, 76, 187, 0, 10, 89, 183, 0, 12, 77, 3, 62, 29, 42, 190, 16, 6, 100]
abbrev dktL_law_0 : List UInt8 := dkwL_law_0 ++ dktL_law_1
theorem dksL_law_0 : cL_law.data.toList.drop 0 = dktL_law_0 := by decide +kernel
theorem dksL_law_1 : cL_law.data.toList.drop 24 = dktL_law_1 := dk_seg dksL_law_0 24 rfl rfl
theorem dksL_law_2 : cL_law.data.toList.drop 32 = dktL_law_2 := dk_seg dksL_law_1 8 rfl rfl
theorem dksL_law_3 : cL_law.data.toList.drop 60 = dktL_law_3 := dk_seg dksL_law_2 28 rfl rfl
theorem dksL_law_4 : cL_law.data.toList.drop 84 = dktL_law_4 := dk_seg dksL_law_3 24 rfl rfl
theorem dksL_law_5 : cL_law.data.toList.drop 108 = dktL_law_5 := dk_seg dksL_law_4 24 rfl rfl
theorem dksL_law_6 : cL_law.data.toList.drop 132 = dktL_law_6 := dk_seg dksL_law_5 24 rfl rfl
theorem dksL_law_7 : cL_law.data.toList.drop 156 = dktL_law_7 := dk_seg dksL_law_6 24 rfl rfl
theorem dksL_law_8 : cL_law.data.toList.drop 179 = dktL_law_8 := dk_seg dksL_law_7 23 rfl rfl
theorem dL_law_0 : decode cL_law 0 = .ok (.new 7, 3) := dk_187 0 7 (dk_at dksL_law_0 0 rfl rfl)
theorem dL_law_3 : decode cL_law 3 = .ok (.dup, 1) := dk_89 (dk_at dksL_law_0 3 rfl rfl)
theorem dL_law_4 : decode cL_law 4 = .ok (.invokespecial 9, 3) := dk_183 0 9 (dk_at dksL_law_0 4 rfl rfl)
theorem dL_law_7 : decode cL_law 7 = .ok (.astore_n 1, 1) := dk_76 (dk_at dksL_law_0 7 rfl rfl)
theorem dL_law_8 : decode cL_law 8 = .ok (.new 10, 3) := dk_187 0 10 (dk_at dksL_law_0 8 rfl rfl)
theorem dL_law_11 : decode cL_law 11 = .ok (.dup, 1) := dk_89 (dk_at dksL_law_0 11 rfl rfl)
theorem dL_law_12 : decode cL_law 12 = .ok (.invokespecial 12, 3) := dk_183 0 12 (dk_at dksL_law_0 12 rfl rfl)
theorem dL_law_15 : decode cL_law 15 = .ok (.astore_n 2, 1) := dk_77 (dk_at dksL_law_0 15 rfl rfl)
theorem dL_law_16 : decode cL_law 16 = .ok (.iconst 0, 1) := dk_3 (dk_at dksL_law_0 16 rfl rfl)
theorem dL_law_17 : decode cL_law 17 = .ok (.istore_n 3, 1) := dk_62 (dk_at dksL_law_0 17 rfl rfl)
theorem dL_law_18 : decode cL_law 18 = .ok (.iload_n 3, 1) := dk_29 (dk_at dksL_law_0 18 rfl rfl)
theorem dL_law_19 : decode cL_law 19 = .ok (.aload_n 0, 1) := dk_42 (dk_at dksL_law_0 19 rfl rfl)
theorem dL_law_20 : decode cL_law 20 = .ok (.arraylength, 1) := dk_190 (dk_at dksL_law_0 20 rfl rfl)
theorem dL_law_21 : decode cL_law 21 = .ok (.bipush 6, 2) := dk_16 6 (dk_at dksL_law_0 21 rfl rfl)
theorem dL_law_23 : decode cL_law 23 = .ok (.isub, 1) := dk_100 (dk_at dksL_law_0 23 rfl rfl)
theorem dL_law_24 : decode cL_law 24 = .ok (.if_icmp .gt 169, 3) := dk_163 0 169 (dk_at dksL_law_1 0 rfl rfl)
theorem dL_law_27 : decode cL_law 27 = .ok (.aload_n 0, 1) := dk_42 (dk_at dksL_law_1 3 rfl rfl)
theorem dL_law_28 : decode cL_law 28 = .ok (.iload_n 3, 1) := dk_29 (dk_at dksL_law_1 4 rfl rfl)
theorem dL_law_29 : decode cL_law 29 = .ok (.iaload, 1) := dk_46 (dk_at dksL_law_1 5 rfl rfl)
theorem dL_law_30 : decode cL_law 30 = .ok (.iconst 3, 1) := dk_6 (dk_at dksL_law_1 6 rfl rfl)
theorem dL_law_31 : decode cL_law 31 = .ok (.iand, 1) := dk_126 (dk_at dksL_law_1 7 rfl rfl)
theorem dL_law_32 : decode cL_law 32 = .ok (.tableswitch 155 0 2 #[28, 89, 132], 28) := by decide +kernel
theorem dL_law_60 : decode cL_law 60 = .ok (.aload_n 1, 1) := dk_43 (dk_at dksL_law_3 0 rfl rfl)
theorem dL_law_61 : decode cL_law 61 = .ok (.aload_n 0, 1) := dk_42 (dk_at dksL_law_3 1 rfl rfl)
theorem dL_law_62 : decode cL_law 62 = .ok (.iload_n 3, 1) := dk_29 (dk_at dksL_law_3 2 rfl rfl)
theorem dL_law_63 : decode cL_law 63 = .ok (.iconst 1, 1) := dk_4 (dk_at dksL_law_3 3 rfl rfl)
theorem dL_law_64 : decode cL_law 64 = .ok (.iadd, 1) := dk_96 (dk_at dksL_law_3 4 rfl rfl)
theorem dL_law_65 : decode cL_law 65 = .ok (.iaload, 1) := dk_46 (dk_at dksL_law_3 5 rfl rfl)
theorem dL_law_66 : decode cL_law 66 = .ok (.aload_n 0, 1) := dk_42 (dk_at dksL_law_3 6 rfl rfl)
theorem dL_law_67 : decode cL_law 67 = .ok (.iload_n 3, 1) := dk_29 (dk_at dksL_law_3 7 rfl rfl)
theorem dL_law_68 : decode cL_law 68 = .ok (.iconst 2, 1) := dk_5 (dk_at dksL_law_3 8 rfl rfl)
theorem dL_law_69 : decode cL_law 69 = .ok (.iadd, 1) := dk_96 (dk_at dksL_law_3 9 rfl rfl)
theorem dL_law_70 : decode cL_law 70 = .ok (.iaload, 1) := dk_46 (dk_at dksL_law_3 10 rfl rfl)
theorem dL_law_71 : decode cL_law 71 = .ok (.aload_n 0, 1) := dk_42 (dk_at dksL_law_3 11 rfl rfl)
theorem dL_law_72 : decode cL_law 72 = .ok (.iload_n 3, 1) := dk_29 (dk_at dksL_law_3 12 rfl rfl)
theorem dL_law_73 : decode cL_law 73 = .ok (.iconst 3, 1) := dk_6 (dk_at dksL_law_3 13 rfl rfl)
theorem dL_law_74 : decode cL_law 74 = .ok (.iadd, 1) := dk_96 (dk_at dksL_law_3 14 rfl rfl)
theorem dL_law_75 : decode cL_law 75 = .ok (.iaload, 1) := dk_46 (dk_at dksL_law_3 15 rfl rfl)
theorem dL_law_76 : decode cL_law 76 = .ok (.aload_n 0, 1) := dk_42 (dk_at dksL_law_3 16 rfl rfl)
theorem dL_law_77 : decode cL_law 77 = .ok (.iload_n 3, 1) := dk_29 (dk_at dksL_law_3 17 rfl rfl)
theorem dL_law_78 : decode cL_law 78 = .ok (.iconst 4, 1) := dk_7 (dk_at dksL_law_3 18 rfl rfl)
theorem dL_law_79 : decode cL_law 79 = .ok (.iadd, 1) := dk_96 (dk_at dksL_law_3 19 rfl rfl)
theorem dL_law_80 : decode cL_law 80 = .ok (.iaload, 1) := dk_46 (dk_at dksL_law_3 20 rfl rfl)
theorem dL_law_81 : decode cL_law 81 = .ok (.aload_n 0, 1) := dk_42 (dk_at dksL_law_3 21 rfl rfl)
theorem dL_law_82 : decode cL_law 82 = .ok (.iload_n 3, 1) := dk_29 (dk_at dksL_law_3 22 rfl rfl)
theorem dL_law_83 : decode cL_law 83 = .ok (.iconst 5, 1) := dk_8 (dk_at dksL_law_3 23 rfl rfl)
theorem dL_law_84 : decode cL_law 84 = .ok (.iadd, 1) := dk_96 (dk_at dksL_law_4 0 rfl rfl)
theorem dL_law_85 : decode cL_law 85 = .ok (.iaload, 1) := dk_46 (dk_at dksL_law_4 1 rfl rfl)
theorem dL_law_86 : decode cL_law 86 = .ok (.invokevirtual 13, 3) := dk_182 0 13 (dk_at dksL_law_4 2 rfl rfl)
theorem dL_law_89 : decode cL_law 89 = .ok (.aload_n 2, 1) := dk_44 (dk_at dksL_law_4 5 rfl rfl)
theorem dL_law_90 : decode cL_law 90 = .ok (.aload_n 0, 1) := dk_42 (dk_at dksL_law_4 6 rfl rfl)
theorem dL_law_91 : decode cL_law 91 = .ok (.iload_n 3, 1) := dk_29 (dk_at dksL_law_4 7 rfl rfl)
theorem dL_law_92 : decode cL_law 92 = .ok (.iconst 1, 1) := dk_4 (dk_at dksL_law_4 8 rfl rfl)
theorem dL_law_93 : decode cL_law 93 = .ok (.iadd, 1) := dk_96 (dk_at dksL_law_4 9 rfl rfl)
theorem dL_law_94 : decode cL_law 94 = .ok (.iaload, 1) := dk_46 (dk_at dksL_law_4 10 rfl rfl)
theorem dL_law_95 : decode cL_law 95 = .ok (.aload_n 0, 1) := dk_42 (dk_at dksL_law_4 11 rfl rfl)
theorem dL_law_96 : decode cL_law 96 = .ok (.iload_n 3, 1) := dk_29 (dk_at dksL_law_4 12 rfl rfl)
theorem dL_law_97 : decode cL_law 97 = .ok (.iconst 2, 1) := dk_5 (dk_at dksL_law_4 13 rfl rfl)
theorem dL_law_98 : decode cL_law 98 = .ok (.iadd, 1) := dk_96 (dk_at dksL_law_4 14 rfl rfl)
theorem dL_law_99 : decode cL_law 99 = .ok (.iaload, 1) := dk_46 (dk_at dksL_law_4 15 rfl rfl)
theorem dL_law_100 : decode cL_law 100 = .ok (.aload_n 0, 1) := dk_42 (dk_at dksL_law_4 16 rfl rfl)
theorem dL_law_101 : decode cL_law 101 = .ok (.iload_n 3, 1) := dk_29 (dk_at dksL_law_4 17 rfl rfl)
theorem dL_law_102 : decode cL_law 102 = .ok (.iconst 3, 1) := dk_6 (dk_at dksL_law_4 18 rfl rfl)
theorem dL_law_103 : decode cL_law 103 = .ok (.iadd, 1) := dk_96 (dk_at dksL_law_4 19 rfl rfl)
theorem dL_law_104 : decode cL_law 104 = .ok (.iaload, 1) := dk_46 (dk_at dksL_law_4 20 rfl rfl)
theorem dL_law_105 : decode cL_law 105 = .ok (.aload_n 0, 1) := dk_42 (dk_at dksL_law_4 21 rfl rfl)
theorem dL_law_106 : decode cL_law 106 = .ok (.iload_n 3, 1) := dk_29 (dk_at dksL_law_4 22 rfl rfl)
theorem dL_law_107 : decode cL_law 107 = .ok (.iconst 4, 1) := dk_7 (dk_at dksL_law_4 23 rfl rfl)
theorem dL_law_108 : decode cL_law 108 = .ok (.iadd, 1) := dk_96 (dk_at dksL_law_5 0 rfl rfl)
theorem dL_law_109 : decode cL_law 109 = .ok (.iaload, 1) := dk_46 (dk_at dksL_law_5 1 rfl rfl)
theorem dL_law_110 : decode cL_law 110 = .ok (.aload_n 0, 1) := dk_42 (dk_at dksL_law_5 2 rfl rfl)
theorem dL_law_111 : decode cL_law 111 = .ok (.iload_n 3, 1) := dk_29 (dk_at dksL_law_5 3 rfl rfl)
theorem dL_law_112 : decode cL_law 112 = .ok (.iconst 5, 1) := dk_8 (dk_at dksL_law_5 4 rfl rfl)
theorem dL_law_113 : decode cL_law 113 = .ok (.iadd, 1) := dk_96 (dk_at dksL_law_5 5 rfl rfl)
theorem dL_law_114 : decode cL_law 114 = .ok (.iaload, 1) := dk_46 (dk_at dksL_law_5 6 rfl rfl)
theorem dL_law_115 : decode cL_law 115 = .ok (.invokevirtual 17, 3) := dk_182 0 17 (dk_at dksL_law_5 7 rfl rfl)
theorem dL_law_118 : decode cL_law 118 = .ok (.goto 69, 3) := dk_167 0 69 (dk_at dksL_law_5 10 rfl rfl)
theorem dL_law_121 : decode cL_law 121 = .ok (.aload_n 1, 1) := dk_43 (dk_at dksL_law_5 13 rfl rfl)
theorem dL_law_122 : decode cL_law 122 = .ok (.aload_n 0, 1) := dk_42 (dk_at dksL_law_5 14 rfl rfl)
theorem dL_law_123 : decode cL_law 123 = .ok (.iload_n 3, 1) := dk_29 (dk_at dksL_law_5 15 rfl rfl)
theorem dL_law_124 : decode cL_law 124 = .ok (.iconst 1, 1) := dk_4 (dk_at dksL_law_5 16 rfl rfl)
theorem dL_law_125 : decode cL_law 125 = .ok (.iadd, 1) := dk_96 (dk_at dksL_law_5 17 rfl rfl)
theorem dL_law_126 : decode cL_law 126 = .ok (.iaload, 1) := dk_46 (dk_at dksL_law_5 18 rfl rfl)
theorem dL_law_127 : decode cL_law 127 = .ok (.aload_n 0, 1) := dk_42 (dk_at dksL_law_5 19 rfl rfl)
theorem dL_law_128 : decode cL_law 128 = .ok (.iload_n 3, 1) := dk_29 (dk_at dksL_law_5 20 rfl rfl)
theorem dL_law_129 : decode cL_law 129 = .ok (.iconst 2, 1) := dk_5 (dk_at dksL_law_5 21 rfl rfl)
theorem dL_law_130 : decode cL_law 130 = .ok (.iadd, 1) := dk_96 (dk_at dksL_law_5 22 rfl rfl)
theorem dL_law_131 : decode cL_law 131 = .ok (.iaload, 1) := dk_46 (dk_at dksL_law_5 23 rfl rfl)
theorem dL_law_132 : decode cL_law 132 = .ok (.aload_n 0, 1) := dk_42 (dk_at dksL_law_6 0 rfl rfl)
theorem dL_law_133 : decode cL_law 133 = .ok (.iload_n 3, 1) := dk_29 (dk_at dksL_law_6 1 rfl rfl)
theorem dL_law_134 : decode cL_law 134 = .ok (.iconst 3, 1) := dk_6 (dk_at dksL_law_6 2 rfl rfl)
theorem dL_law_135 : decode cL_law 135 = .ok (.iadd, 1) := dk_96 (dk_at dksL_law_6 3 rfl rfl)
theorem dL_law_136 : decode cL_law 136 = .ok (.iaload, 1) := dk_46 (dk_at dksL_law_6 4 rfl rfl)
theorem dL_law_137 : decode cL_law 137 = .ok (.invokevirtual 18, 3) := dk_182 0 18 (dk_at dksL_law_6 5 rfl rfl)
theorem dL_law_140 : decode cL_law 140 = .ok (.aload_n 2, 1) := dk_44 (dk_at dksL_law_6 8 rfl rfl)
theorem dL_law_141 : decode cL_law 141 = .ok (.aload_n 0, 1) := dk_42 (dk_at dksL_law_6 9 rfl rfl)
theorem dL_law_142 : decode cL_law 142 = .ok (.iload_n 3, 1) := dk_29 (dk_at dksL_law_6 10 rfl rfl)
theorem dL_law_143 : decode cL_law 143 = .ok (.iconst 1, 1) := dk_4 (dk_at dksL_law_6 11 rfl rfl)
theorem dL_law_144 : decode cL_law 144 = .ok (.iadd, 1) := dk_96 (dk_at dksL_law_6 12 rfl rfl)
theorem dL_law_145 : decode cL_law 145 = .ok (.iaload, 1) := dk_46 (dk_at dksL_law_6 13 rfl rfl)
theorem dL_law_146 : decode cL_law 146 = .ok (.aload_n 0, 1) := dk_42 (dk_at dksL_law_6 14 rfl rfl)
theorem dL_law_147 : decode cL_law 147 = .ok (.iload_n 3, 1) := dk_29 (dk_at dksL_law_6 15 rfl rfl)
theorem dL_law_148 : decode cL_law 148 = .ok (.iconst 2, 1) := dk_5 (dk_at dksL_law_6 16 rfl rfl)
theorem dL_law_149 : decode cL_law 149 = .ok (.iadd, 1) := dk_96 (dk_at dksL_law_6 17 rfl rfl)
theorem dL_law_150 : decode cL_law 150 = .ok (.iaload, 1) := dk_46 (dk_at dksL_law_6 18 rfl rfl)
theorem dL_law_151 : decode cL_law 151 = .ok (.aload_n 0, 1) := dk_42 (dk_at dksL_law_6 19 rfl rfl)
theorem dL_law_152 : decode cL_law 152 = .ok (.iload_n 3, 1) := dk_29 (dk_at dksL_law_6 20 rfl rfl)
theorem dL_law_153 : decode cL_law 153 = .ok (.iconst 3, 1) := dk_6 (dk_at dksL_law_6 21 rfl rfl)
theorem dL_law_154 : decode cL_law 154 = .ok (.iadd, 1) := dk_96 (dk_at dksL_law_6 22 rfl rfl)
theorem dL_law_155 : decode cL_law 155 = .ok (.iaload, 1) := dk_46 (dk_at dksL_law_6 23 rfl rfl)
theorem dL_law_156 : decode cL_law 156 = .ok (.invokevirtual 22, 3) := dk_182 0 22 (dk_at dksL_law_7 0 rfl rfl)
theorem dL_law_159 : decode cL_law 159 = .ok (.if_icmp .eq 28, 3) := dk_159 0 28 (dk_at dksL_law_7 3 rfl rfl)
theorem dL_law_162 : decode cL_law 162 = .ok (.iconst 0, 1) := dk_3 (dk_at dksL_law_7 6 rfl rfl)
theorem dL_law_163 : decode cL_law 163 = .ok (.ireturn, 1) := dk_172 (dk_at dksL_law_7 7 rfl rfl)
theorem dL_law_164 : decode cL_law 164 = .ok (.aload_n 1, 1) := dk_43 (dk_at dksL_law_7 8 rfl rfl)
theorem dL_law_165 : decode cL_law 165 = .ok (.aload_n 0, 1) := dk_42 (dk_at dksL_law_7 9 rfl rfl)
theorem dL_law_166 : decode cL_law 166 = .ok (.iload_n 3, 1) := dk_29 (dk_at dksL_law_7 10 rfl rfl)
theorem dL_law_167 : decode cL_law 167 = .ok (.iconst 1, 1) := dk_4 (dk_at dksL_law_7 11 rfl rfl)
theorem dL_law_168 : decode cL_law 168 = .ok (.iadd, 1) := dk_96 (dk_at dksL_law_7 12 rfl rfl)
theorem dL_law_169 : decode cL_law 169 = .ok (.iaload, 1) := dk_46 (dk_at dksL_law_7 13 rfl rfl)
theorem dL_law_170 : decode cL_law 170 = .ok (.invokevirtual 23, 3) := dk_182 0 23 (dk_at dksL_law_7 14 rfl rfl)
theorem dL_law_173 : decode cL_law 173 = .ok (.aload_n 2, 1) := dk_44 (dk_at dksL_law_7 17 rfl rfl)
theorem dL_law_174 : decode cL_law 174 = .ok (.aload_n 0, 1) := dk_42 (dk_at dksL_law_7 18 rfl rfl)
theorem dL_law_175 : decode cL_law 175 = .ok (.iload_n 3, 1) := dk_29 (dk_at dksL_law_7 19 rfl rfl)
theorem dL_law_176 : decode cL_law 176 = .ok (.iconst 1, 1) := dk_4 (dk_at dksL_law_7 20 rfl rfl)
theorem dL_law_177 : decode cL_law 177 = .ok (.iadd, 1) := dk_96 (dk_at dksL_law_7 21 rfl rfl)
theorem dL_law_178 : decode cL_law 178 = .ok (.iaload, 1) := dk_46 (dk_at dksL_law_7 22 rfl rfl)
theorem dL_law_179 : decode cL_law 179 = .ok (.invokevirtual 27, 3) := dk_182 0 27 (dk_at dksL_law_8 0 rfl rfl)
theorem dL_law_182 : decode cL_law 182 = .ok (.if_icmp .eq 5, 3) := dk_159 0 5 (dk_at dksL_law_8 3 rfl rfl)
theorem dL_law_185 : decode cL_law 185 = .ok (.iconst 0, 1) := dk_3 (dk_at dksL_law_8 6 rfl rfl)
theorem dL_law_186 : decode cL_law 186 = .ok (.ireturn, 1) := dk_172 (dk_at dksL_law_8 7 rfl rfl)
theorem dL_law_187 : decode cL_law 187 = .ok (.iinc 3 6, 3) := dk_132 3 6 (dk_at dksL_law_8 8 rfl rfl)
theorem dL_law_190 : decode cL_law 190 = .ok (.goto (-172), 3) := dk_167 255 84 (dk_at dksL_law_8 11 rfl rfl)
theorem dL_law_193 : decode cL_law 193 = .ok (.iconst 1, 1) := dk_4 (dk_at dksL_law_8 14 rfl rfl)
theorem dL_law_194 : decode cL_law 194 = .ok (.ireturn, 1) := dk_172 (dk_at dksL_law_8 15 rfl rfl)
theorem q26 : (Jvm.Cond.arrayOver (Jvm.ClassFile.FieldType.array Jvm.ClassFile.FieldType.byte)) ∈ lw_tbl := lw_at lw_m1 25 rfl
set_option maxRecDepth 100000
theorem q34 : (Jvm.Cond.arrayClass Jvm.ClassFile.FieldType.byte) ∈ lw_all := lw_g (lw_at lw_m1 33 rfl) rfl
theorem q54 : (Jvm.Cond.arrayOver (Jvm.ClassFile.FieldType.object "ShamirSplitSecretShare")) ∈ lw_tbl := lw_at lw_m1 53 rfl
theorem q226 : (Jvm.Cond.arrayOver (Jvm.ClassFile.FieldType.array Jvm.ClassFile.FieldType.int)) ∈ lw_tbl := lw_at lw_m1 225 rfl
theorem q234 : (Jvm.Cond.arrayClass Jvm.ClassFile.FieldType.int) ∈ lw_all := lw_g (lw_at lw_m1 233 rfl) rfl
theorem q1 : (Jvm.Cond.initialized "ShareDeskLaw") ∈ lw_all := lw_g (lw_at lw_m1 0 rfl) rfl
set_option maxRecDepth 100000
theorem q17 : (Jvm.Cond.classLink "ShareDeskLaw" (7 : Nat) "ShareDesk") ∈ lw_all := lw_g (lw_at lw_m1 16 rfl) rfl
theorem q19 : (Jvm.Cond.methodLink "ShareDeskLaw" (9 : Nat) ({ cls := "ShareDesk", name := "<init>", desc := "()V" } : Jvm.MethodName)) ∈ lw_all := lw_g (lw_at lw_m1 18 rfl) rfl
theorem q35 : (Jvm.Cond.methodLink "ShareDeskLaw" (13 : Nat) ({ cls := "ShareDesk", name := "lay", desc := "(IIIII)V" } : Jvm.MethodName)) ∈ lw_all := lw_g (lw_at lw_m1 34 rfl) rfl
theorem q42 : (Jvm.Cond.methodLink "ShareDeskLaw" (18 : Nat) ({ cls := "ShareDesk", name := "combine", desc := "(III)I" } : Jvm.MethodName)) ∈ lw_all := lw_g (lw_at lw_m1 41 rfl) rfl
theorem q214 : (Jvm.Cond.methodLink "ShareDeskLaw" (23 : Nat) ({ cls := "ShareDesk", name := "out", desc := "(I)I" } : Jvm.MethodName)) ∈ lw_all := lw_g (lw_at lw_m1 213 rfl) rfl
theorem q219 : (Jvm.Cond.classLink "ShareDeskLaw" (10 : Nat) "ShareDeskModel") ∈ lw_all := lw_g (lw_at lw_m1 218 rfl) rfl
theorem q221 : (Jvm.Cond.methodLink "ShareDeskLaw" (12 : Nat) ({ cls := "ShareDeskModel", name := "<init>", desc := "()V" } : Jvm.MethodName)) ∈ lw_all := lw_g (lw_at lw_m1 220 rfl) rfl
theorem q235 : (Jvm.Cond.methodLink "ShareDeskLaw" (17 : Nat) ({ cls := "ShareDeskModel", name := "lay", desc := "(IIIII)V" } : Jvm.MethodName)) ∈ lw_all := lw_g (lw_at lw_m1 234 rfl) rfl
theorem q239 : (Jvm.Cond.methodLink "ShareDeskLaw" (22 : Nat) ({ cls := "ShareDeskModel", name := "combine", desc := "(III)I" } : Jvm.MethodName)) ∈ lw_all := lw_g (lw_at lw_m1 238 rfl) rfl
theorem q249 : (Jvm.Cond.methodLink "ShareDeskLaw" (27 : Nat) ({ cls := "ShareDeskModel", name := "out", desc := "(I)I" } : Jvm.MethodName)) ∈ lw_all := lw_g (lw_at lw_m2 8 rfl) rfl
theorem q9 : (Jvm.Cond.initialized "ShamirSecretSplitter$Algorithm") ∈ lw_all := lw_g (lw_at lw_m1 8 rfl) rfl
set_option maxRecDepth 100000
theorem q81 : (Jvm.Cond.laysStatic "ShamirSecretSplitter$Algorithm" "AES" "LShamirSecretSplitter$Algorithm;") ∈ lw_tbl := lw_at lw_m1 80 rfl
theorem q83 : (Jvm.Cond.laysStatic "ShamirSecretSplitter$Algorithm" "RSA" "LShamirSecretSplitter$Algorithm;") ∈ lw_tbl := lw_at lw_m1 82 rfl
theorem q100 : (Jvm.Cond.sameMethod "ShamirSecretSplitter$Algorithm" "java/lang/Enum" "ordinal" "()I") ∈ lw_all := lw_g (lw_at lw_m1 99 rfl) rfl
theorem q102 : (Jvm.Cond.selects "ShamirSecretSplitter$Algorithm" ({ cls := "ShamirSecretSplitter$Algorithm", name := "ordinal", desc := "()I" } : Jvm.MethodName) ({ cls := "java/lang/Enum", name := "ordinal", desc := "()I" } : Jvm.MethodName)) ∈ lw_all := lw_g (lw_at lw_m1 101 rfl) rfl
theorem q10 : (Jvm.Cond.initialized "ShamirSecretSplitter$Mode") ∈ lw_all := lw_g (lw_at lw_m1 9 rfl) rfl
set_option maxRecDepth 100000
theorem q85 : (Jvm.Cond.laysStatic "ShamirSecretSplitter$Mode" "Native" "LShamirSecretSplitter$Mode;") ∈ lw_tbl := lw_at lw_m1 84 rfl
theorem q87 : (Jvm.Cond.laysStatic "ShamirSecretSplitter$Mode" "Table" "LShamirSecretSplitter$Mode;") ∈ lw_tbl := lw_at lw_m1 86 rfl
theorem q12 : (Jvm.Cond.initialized "Polynomial$1") ∈ lw_all := lw_g (lw_at lw_m1 11 rfl) rfl
set_option maxRecDepth 100000
theorem q98 : (Jvm.Cond.laysStatic "Polynomial$1" "$SwitchMap$ShamirSecretSplitter$Algorithm" "[I") ∈ lw_tbl := lw_at lw_m1 97 rfl
theorem q64 : (Jvm.Cond.sameMethod "[B" "java/lang/Object" "clone" "()Ljava/lang/Object;") ∈ lw_all := lw_g (lw_at lw_m1 63 rfl) rfl
set_option maxRecDepth 100000
theorem q67 : (Jvm.Cond.selects "[B" ({ cls := "[B", name := "clone", desc := "()Ljava/lang/Object;" } : Jvm.MethodName) ({ cls := "java/lang/Object", name := "clone", desc := "()Ljava/lang/Object;" } : Jvm.MethodName)) ∈ lw_all := lw_g (lw_at lw_m1 66 rfl) rfl
theorem q68 : (Jvm.Cond.castable "[B" "java/lang/Cloneable") ∈ lw_tbl := lw_at lw_m1 67 rfl
end
section
/-! THE PLAIN LAW: the field of 256 elements by its reduction F (283 or 285), Lagrange's sum at 0 against Newton's differences -/
/-- times the generator -/
def gm_xt (F x : Nat) : Nat := (2 * x) ^^^ (x / 128 % 2 * F)
def gm_mn (F : Nat) : Nat → Nat → Nat → Nat
  | 0, _, _ => 0
  | k + 1, x, y => (y % 2 * x) ^^^ gm_mn F k (gm_xt F x) (y / 2)
/-- the product -/
def gm_mul (F x y : Nat) : Nat := gm_mn F 8 x y
theorem gm_b2 (a : Nat) : a % 2 = 0 ∨ a % 2 = 1 := by omega
theorem gm_x2 (a b : Nat) : (a ^^^ b) % 2 = (a % 2) ^^^ (b % 2) := by
  have h := @Nat.xor_mod_two_pow a b 1
  exact h
theorem gm_dbl (a b : Nat) : 2 * (a ^^^ b) = (2 * a) ^^^ (2 * b) := by
  have h := @Nat.shiftLeft_xor_distrib 1 a b
  simp only [Nat.shiftLeft_eq, Nat.pow_one] at h
  rw [Nat.mul_comm 2, Nat.mul_comm 2 a, Nat.mul_comm 2 b]
  exact h
theorem gm_sc (s t F : Nat) (hs : s = 0 ∨ s = 1) (ht : t = 0 ∨ t = 1) : (s ^^^ t) * F = (s * F) ^^^ (t * F) := by
  rcases hs with rfl | rfl <;> rcases ht with rfl | rfl <;> simp
theorem gm_sl (s a b : Nat) (hs : s = 0 ∨ s = 1) : s * (a ^^^ b) = (s * a) ^^^ (s * b) := by
  rcases hs with rfl | rfl <;> simp
theorem gm_x4 (a b c d : Nat) : (a ^^^ b) ^^^ (c ^^^ d) = (a ^^^ c) ^^^ (b ^^^ d) := by
  rw [Nat.xor_assoc, ← Nat.xor_assoc b c d, Nat.xor_comm b c, Nat.xor_assoc c b d, ← Nat.xor_assoc]
theorem gm_xt_x (F a b : Nat) : gm_xt F (a ^^^ b) = gm_xt F a ^^^ gm_xt F b := by
  have h := @Nat.xor_div_two_pow a b 7
  have h1 : (a ^^^ b) / 128 % 2 = (a / 128 % 2) ^^^ (b / 128 % 2) := by
    rw [← gm_x2]
    exact congrArg (· % 2) h
  unfold gm_xt
  rw [gm_dbl, h1, gm_sc _ _ _ (gm_b2 _) (gm_b2 _), gm_x4]
theorem gm_xt_0 (F : Nat) : gm_xt F 0 = 0 := by simp [gm_xt]
theorem gm_mn_xl (F : Nat) : ∀ (k a b y : Nat), gm_mn F k (a ^^^ b) y = gm_mn F k a y ^^^ gm_mn F k b y
  | 0, _, _, _ => by simp [gm_mn]
  | k + 1, a, b, y => by
    simp only [gm_mn]
    rw [gm_xt_x, gm_mn_xl F k, gm_sl _ _ _ (gm_b2 y), gm_x4]
theorem gm_mn_xr (F : Nat) : ∀ (k x a b : Nat), gm_mn F k x (a ^^^ b) = gm_mn F k x a ^^^ gm_mn F k x b
  | 0, _, _, _ => by simp [gm_mn]
  | k + 1, x, a, b => by
    simp only [gm_mn]
    rw [Nat.xor_div_two, gm_mn_xr F k, gm_x2, gm_sc _ _ _ (gm_b2 a) (gm_b2 b), gm_x4]
theorem gm_mn_xt (F : Nat) : ∀ (k x y : Nat), gm_mn F k (gm_xt F x) y = gm_xt F (gm_mn F k x y)
  | 0, _, _ => (gm_xt_0 F).symm
  | k + 1, x, y => by
    simp only [gm_mn]
    rw [gm_mn_xt F k, gm_xt_x]
    congr 1
    rcases gm_b2 y with h | h <;> rw [h] <;> simp [gm_xt_0]
/-- the reductions that the desk uses -/
def gm_ok (F : Nat) : Prop := F = 283 ∨ F = 285
theorem gm_xt_lt {F x : Nat} (hF : gm_ok F) (h : x < 256) : gm_xt F x < 256 := by
  have h1 : ∀ x, x < 256 → gm_xt 283 x < 256 := by decide +kernel
  have h2 : ∀ x, x < 256 → gm_xt 285 x < 256 := by decide +kernel
  rcases hF with rfl | rfl
  · exact h1 x h
  · exact h2 x h
theorem gm_xlt {a b : Nat} (ha : a < 256) (hb : b < 256) : a ^^^ b < 256 := @Nat.xor_lt_two_pow a b 8 ha hb
theorem gm_mn_lt {F : Nat} (hF : gm_ok F) : ∀ (k x y : Nat), x < 256 → gm_mn F k x y < 256
  | 0, _, _, _ => by simp [gm_mn]
  | k + 1, x, y, h => by
    simp only [gm_mn]
    refine gm_xlt ?_ (gm_mn_lt hF k _ _ (gm_xt_lt hF h))
    rcases gm_b2 y with e | e <;> rw [e] <;> omega
theorem gm_mul_lt {F : Nat} (hF : gm_ok F) {x : Nat} (y : Nat) (h : x < 256) : gm_mul F x y < 256 := gm_mn_lt hF 8 x y h
theorem gm_mul_xl (F a b y : Nat) : gm_mul F (a ^^^ b) y = gm_mul F a y ^^^ gm_mul F b y := gm_mn_xl F 8 a b y
theorem gm_mul_xr (F x a b : Nat) : gm_mul F x (a ^^^ b) = gm_mul F x a ^^^ gm_mul F x b := gm_mn_xr F 8 x a b
theorem gm_ad0 {f : Nat → Nat} (h : ∀ a b, f (a ^^^ b) = f a ^^^ f b) : f 0 = 0 := by
  have h1 := h 0 0
  rw [Nat.xor_self, Nat.xor_self] at h1
  exact h1
theorem gm_top : ∀ k, k < 8 → ∀ b, b < 256 → b < 2 ^ k → b ^^^ 2 ^ k = b + 2 ^ k := by decide +kernel
/-- additive functions that agree at the powers of two agree -/
theorem gm_ext {f g : Nat → Nat} (hf : ∀ a b, f (a ^^^ b) = f a ^^^ f b) (hg : ∀ a b, g (a ^^^ b) = g a ^^^ g b) (h : ∀ k, k < 8 → f (2 ^ k) = g (2 ^ k)) : ∀ a, a < 256 → f a = g a := by
  have key : ∀ k, k ≤ 8 → ∀ a, a < 2 ^ k → f a = g a := by
    intro k
    induction k with
    | zero =>
      intro _ a ha
      have : a = 0 := by simpa using ha
      rw [this, gm_ad0 hf, gm_ad0 hg]
    | succ k ih =>
      intro hk a ha
      rcases Nat.lt_or_ge a (2 ^ k) with q | q
      · exact ih (by omega) a q
      · have hb : a - 2 ^ k < 2 ^ k := by
          rw [Nat.pow_succ] at ha
          omega
        have h8 : 2 ^ k ≤ 2 ^ 8 := Nat.pow_le_pow_right (by decide) (by omega)
        have e : a = (a - 2 ^ k) ^^^ 2 ^ k := by
          rw [gm_top k (by omega) _ (by have : (2 : Nat) ^ 8 = 256 := rfl; omega) hb]
          omega
        rw [e, hf, hg, ih (by omega) _ hb, h k (by omega)]
  exact fun a ha => key 8 (Nat.le_refl 8) a ha
theorem gm_rcF {F : Nat} (h : ∀ i, i < 8 → ∀ j, j < 8 → ∀ k, k < 8 → gm_mul F (gm_mul F (2 ^ i) (2 ^ j)) (2 ^ k) = gm_mul F (gm_mul F (2 ^ i) (2 ^ k)) (2 ^ j)) (a b c : Nat) (ha : a < 256) (hb : b < 256) (hc : c < 256) : gm_mul F (gm_mul F a b) c = gm_mul F (gm_mul F a c) b := by
  refine gm_ext (f := fun a => gm_mul F (gm_mul F a b) c) (g := fun a => gm_mul F (gm_mul F a c) b) (fun x y => by simp only [gm_mul_xl]) (fun x y => by simp only [gm_mul_xl]) (fun i hi => ?_) a ha
  refine gm_ext (f := fun b => gm_mul F (gm_mul F (2 ^ i) b) c) (g := fun b => gm_mul F (gm_mul F (2 ^ i) c) b) (fun x y => by simp only [gm_mul_xr, gm_mul_xl]) (fun x y => by simp only [gm_mul_xr]) (fun j hj => ?_) b hb
  exact gm_ext (f := fun c => gm_mul F (gm_mul F (2 ^ i) (2 ^ j)) c) (g := fun c => gm_mul F (gm_mul F (2 ^ i) c) (2 ^ j)) (fun x y => by simp only [gm_mul_xr]) (fun x y => by simp only [gm_mul_xr, gm_mul_xl]) (fun k hk => h i hi j hj k hk) c hc
theorem gm_rc1 : ∀ i, i < 8 → ∀ j, j < 8 → ∀ k, k < 8 → gm_mul 283 (gm_mul 283 (2 ^ i) (2 ^ j)) (2 ^ k) = gm_mul 283 (gm_mul 283 (2 ^ i) (2 ^ k)) (2 ^ j) := by decide +kernel
theorem gm_rc2 : ∀ i, i < 8 → ∀ j, j < 8 → ∀ k, k < 8 → gm_mul 285 (gm_mul 285 (2 ^ i) (2 ^ j)) (2 ^ k) = gm_mul 285 (gm_mul 285 (2 ^ i) (2 ^ k)) (2 ^ j) := by decide +kernel
theorem gm_rc {F : Nat} (hF : gm_ok F) {a b c : Nat} (ha : a < 256) (hb : b < 256) (hc : c < 256) : gm_mul F (gm_mul F a b) c = gm_mul F (gm_mul F a c) b := by
  rcases hF with rfl | rfl
  · exact gm_rcF gm_rc1 a b c ha hb hc
  · exact gm_rcF gm_rc2 a b c ha hb hc
theorem gm_one {F y : Nat} (hF : gm_ok F) (h : y < 256) : gm_mul F 1 y = y := by
  have h1 : ∀ x, x < 256 → gm_mul 283 1 x = x := by decide +kernel
  have h2 : ∀ x, x < 256 → gm_mul 285 1 x = x := by decide +kernel
  rcases hF with rfl | rfl
  · exact h1 y h
  · exact h2 y h
theorem gm_mul0 (F y : Nat) : gm_mul F 0 y = 0 := gm_ad0 (f := fun a => gm_mul F a y) (fun a b => gm_mul_xl F a b y)
/-- the power by 254 as the component takes it -/
def gm_pw (F : Nat) : Nat → Nat → Nat → Nat → Nat
  | 0, _, r, _ => r
  | k + 1, e, r, n => gm_pw F k (e / 2) (if e % 2 = 1 then gm_mul F r n else r) (gm_mul F n n)
/-- the inverses of 0 .. 15 -/
def gm_iv (F n : Nat) : Nat := (if F = 283 then 265709984687591223577153867656393982208 else 199870535865441292774362114585097273600) / 256 ^ n % 256
theorem gm_pw_iv {F b : Nat} (hF : gm_ok F) (hb : b < 16) : gm_pw F 8 254 1 b = gm_iv F b := by
  have h1 : ∀ x, x < 16 → gm_pw 283 8 254 1 x = gm_iv 283 x := by decide +kernel
  have h2 : ∀ x, x < 16 → gm_pw 285 8 254 1 x = gm_iv 285 x := by decide +kernel
  rcases hF with rfl | rfl
  · exact h1 b hb
  · exact h2 b hb
theorem gm_pw_lt {F : Nat} (hF : gm_ok F) : ∀ (k e r n : Nat), r < 256 → gm_pw F k e r n < 256
  | 0, _, _, _, h => h
  | k + 1, e, r, n, h => by
    simp only [gm_pw]
    refine gm_pw_lt hF k _ _ _ ?_
    split
    · exact gm_mul_lt hF _ h
    · exact h
theorem gm_iv_lt (F n : Nat) : gm_iv F n < 256 := Nat.mod_lt _ (by decide)
/-- .. and as the reference takes it -/
def gm_bz (F b : Nat) : Nat → Nat
  | 0 => b
  | k + 1 => gm_mul F (gm_mul F (gm_bz F b k) (gm_bz F b k)) b
theorem gm_bz_lt {F b : Nat} (hF : gm_ok F) (hb : b < 256) : ∀ k, gm_bz F b k < 256
  | 0 => hb
  | k + 1 => gm_mul_lt hF _ (gm_mul_lt hF _ (gm_bz_lt hF hb k))
theorem gm_bz_iv {F b : Nat} (hF : gm_ok F) (hb : b < 16) : gm_mul F (gm_bz F b 6) (gm_bz F b 6) = gm_iv F b := by
  have h1 : ∀ x, x < 16 → gm_mul 283 (gm_bz 283 x 6) (gm_bz 283 x 6) = gm_iv 283 x := by decide +kernel
  have h2 : ∀ x, x < 16 → gm_mul 285 (gm_bz 285 x 6) (gm_bz 285 x 6) = gm_iv 285 x := by decide +kernel
  rcases hF with rfl | rfl
  · exact h1 b hb
  · exact h2 b hb
/-- the component's factors and weights -/
def gm_lq (F : Nat) (p : Nat → Nat) (i j : Nat) : Nat := gm_mul F (p j) (gm_iv F (p i ^^^ p j))
def gm_sk (i t : Nat) : Nat := if t < i then t else t + 1
def gm_lc (F : Nat) (p : Nat → Nat) (i : Nat) : Nat → Nat
  | 0 => 1
  | t + 1 => gm_mul F (gm_lc F p i t) (gm_lq F p i (gm_sk i t))
theorem gm_lc_lt {F : Nat} (hF : gm_ok F) (p : Nat → Nat) (i : Nat) : ∀ t, gm_lc F p i t < 256
  | 0 => by simp [gm_lc]
  | t + 1 => gm_mul_lt hF _ (gm_lc_lt hF p i t)
def gm_sum (f : Nat → Nat) : Nat → Nat
  | 0 => 0
  | k + 1 => gm_sum f k ^^^ f k
theorem gm_sum_lt {f : Nat → Nat} (h : ∀ i, f i < 256) : ∀ k, gm_sum f k < 256
  | 0 => by simp [gm_sum]
  | k + 1 => gm_xlt (gm_sum_lt h k) (h k)
theorem gm_sum_congr {f g : Nat → Nat} : ∀ (n : Nat), (∀ k, k < n → f k = g k) → gm_sum f n = gm_sum g n
  | 0, _ => rfl
  | n + 1, h => by
    simp only [gm_sum]
    rw [gm_sum_congr n (fun k hk => h k (by omega)), h n (by omega)]
/-- what the component answers, a byte -/
def gm_la (F : Nat) (p : Nat → Nat) (n : Nat) (y : Nat → Nat) : Nat := gm_sum (fun k => gm_mul F (gm_lc F p k (n - 1)) (y k)) n
/-- the reference: one level of differences -/
def gm_st (F : Nat) (p : Nat → Nat) (n l : Nat) (u : Nat → Nat) : Nat → Nat := fun i => if l ≤ i ∧ i < n then gm_mul F (u i ^^^ u (i - 1)) (gm_iv F (p i ^^^ p (i - l))) else u i
def gm_rw (F : Nat) (p : Nat → Nat) (n : Nat) (y : Nat → Nat) : Nat → Nat → Nat
  | 0 => y
  | l + 1 => gm_st F p n (l + 1) (gm_rw F p n y l)
def gm_hv (F : Nat) (p : Nat → Nat) (n : Nat) (u : Nat → Nat) : Nat → Nat
  | 0 => 0
  | j + 1 => gm_mul F (gm_hv F p n u j) (p (n - 1 - j)) ^^^ u (n - 1 - j)
/-- what the reference answers, a byte -/
def gm_nw (F : Nat) (p : Nat → Nat) (n : Nat) (y : Nat → Nat) : Nat := gm_hv F p n (gm_rw F p n y (n - 1)) n
theorem gm_st_x (F : Nat) (p : Nat → Nat) (n l : Nat) (u v : Nat → Nat) : gm_st F p n l (fun i => u i ^^^ v i) = fun i => gm_st F p n l u i ^^^ gm_st F p n l v i := by
  funext i
  unfold gm_st
  split
  · rw [gm_x4, gm_mul_xl]
  · rfl
theorem gm_rw_x (F : Nat) (p : Nat → Nat) (n : Nat) (u v : Nat → Nat) : ∀ l, gm_rw F p n (fun i => u i ^^^ v i) l = fun i => gm_rw F p n u l i ^^^ gm_rw F p n v l i
  | 0 => rfl
  | l + 1 => by
    simp only [gm_rw]
    rw [gm_rw_x F p n u v l, gm_st_x]
theorem gm_hv_x (F : Nat) (p : Nat → Nat) (n : Nat) (u v : Nat → Nat) : ∀ j, gm_hv F p n (fun i => u i ^^^ v i) j = gm_hv F p n u j ^^^ gm_hv F p n v j
  | 0 => by simp [gm_hv]
  | j + 1 => by
    simp only [gm_hv]
    rw [gm_hv_x F p n u v j, gm_mul_xl, gm_x4]
theorem gm_nw_x (F : Nat) (p : Nat → Nat) (n : Nat) (u v : Nat → Nat) : gm_nw F p n (fun i => u i ^^^ v i) = gm_nw F p n u ^^^ gm_nw F p n v := by
  unfold gm_nw
  rw [gm_rw_x, gm_hv_x]
theorem gm_rw_lt {F : Nat} (hF : gm_ok F) {p : Nat → Nat} {n : Nat} {u : Nat → Nat} (hu : ∀ i, u i < 256) : ∀ l i, gm_rw F p n u l i < 256
  | 0, i => hu i
  | l + 1, i => by
    simp only [gm_rw, gm_st]
    split
    · exact gm_mul_lt hF _ (gm_xlt (gm_rw_lt hF hu l _) (gm_rw_lt hF hu l _))
    · exact gm_rw_lt hF hu l i
theorem gm_hv_lt {F : Nat} (hF : gm_ok F) {p : Nat → Nat} {n : Nat} {u : Nat → Nat} (hu : ∀ i, u i < 256) : ∀ j, gm_hv F p n u j < 256
  | 0 => by simp [gm_hv]
  | j + 1 => by
    simp only [gm_hv]
    exact gm_xlt (gm_mul_lt hF _ (gm_hv_lt hF hu j)) (hu _)
theorem gm_nw_lt {F : Nat} (hF : gm_ok F) {p : Nat → Nat} {n : Nat} {u : Nat → Nat} (hu : ∀ i, u i < 256) : gm_nw F p n u < 256 := gm_hv_lt hF (gm_rw_lt hF hu _) n
theorem gm_rw_s {F : Nat} (hF : gm_ok F) {p : Nat → Nat} {n s : Nat} {u : Nat → Nat} (hu : ∀ i, u i < 256) (hs : s < 256) : ∀ l, gm_rw F p n (fun i => gm_mul F (u i) s) l = fun i => gm_mul F (gm_rw F p n u l i) s
  | 0 => rfl
  | l + 1 => by
    simp only [gm_rw]
    rw [gm_rw_s hF hu hs l]
    funext i
    unfold gm_st
    split
    · rw [← gm_mul_xl, gm_rc hF (gm_xlt (gm_rw_lt hF hu l _) (gm_rw_lt hF hu l _)) hs (gm_iv_lt F _)]
    · rfl
theorem gm_hv_s {F : Nat} (hF : gm_ok F) {p : Nat → Nat} (hp : ∀ i, p i < 256) {n s : Nat} {u : Nat → Nat} (hu : ∀ i, u i < 256) (hs : s < 256) : ∀ j, gm_hv F p n (fun i => gm_mul F (u i) s) j = gm_mul F (gm_hv F p n u j) s
  | 0 => (gm_mul0 F s).symm
  | j + 1 => by
    simp only [gm_hv]
    rw [gm_hv_s hF hp hu hs j, gm_mul_xl, gm_rc hF (gm_hv_lt hF hu j) hs (hp _)]
theorem gm_nw_s {F : Nat} (hF : gm_ok F) {p : Nat → Nat} (hp : ∀ i, p i < 256) {n s : Nat} {u : Nat → Nat} (hu : ∀ i, u i < 256) (hs : s < 256) : gm_nw F p n (fun i => gm_mul F (u i) s) = gm_mul F (gm_nw F p n u) s := by
  unfold gm_nw
  rw [gm_rw_s hF hu hs, gm_hv_s hF hp (gm_rw_lt hF hu _) hs]
theorem gm_rw_c (F : Nat) (p : Nat → Nat) (n : Nat) {u v : Nat → Nat} (h : ∀ i, i < n → u i = v i) : ∀ l i, i < n → gm_rw F p n u l i = gm_rw F p n v l i
  | 0, i, hi => h i hi
  | l + 1, i, hi => by
    simp only [gm_rw, gm_st]
    rw [gm_rw_c F p n h l i hi, gm_rw_c F p n h l (i - 1) (by omega)]
theorem gm_hv_c (F : Nat) (p : Nat → Nat) (n : Nat) {u v : Nat → Nat} (h : ∀ i, i < n → u i = v i) : ∀ j, j ≤ n → gm_hv F p n u j = gm_hv F p n v j
  | 0, _ => rfl
  | j + 1, hj => by
    simp only [gm_hv]
    rw [gm_hv_c F p n h j (by omega), h (n - 1 - j) (by omega)]
theorem gm_nw_c (F : Nat) (p : Nat → Nat) (n : Nat) {u v : Nat → Nat} (h : ∀ i, i < n → u i = v i) : gm_nw F p n u = gm_nw F p n v := gm_hv_c F p n (gm_rw_c F p n h _) n (Nat.le_refl n)
theorem gm_nw_0 (F : Nat) (p : Nat → Nat) (n : Nat) : gm_nw F p n (fun _ => 0) = 0 := by
  have h := gm_nw_x F p n (fun _ => 0) (fun _ => 0)
  rw [Nat.xor_self, Nat.xor_self] at h
  exact h
theorem gm_nw_sum (F : Nat) (p : Nat → Nat) (n : Nat) (w : Nat → Nat → Nat) : ∀ k, gm_nw F p n (fun i => gm_sum (fun j => w j i) k) = gm_sum (fun j => gm_nw F p n (w j)) k
  | 0 => gm_nw_0 F p n
  | k + 1 => by
    simp only [gm_sum]
    rw [gm_nw_x F p n (fun i => gm_sum (fun j => w j i) k) (w k), gm_nw_sum F p n w k]
/-- the k-th unit row -/
def gm_un (k : Nat) : Nat → Nat := fun i => if i = k then 1 else 0
theorem gm_un_lt (k i : Nat) : gm_un k i < 256 := by
  unfold gm_un
  split <;> decide
theorem gm_sum_un {F : Nat} (hF : gm_ok F) {y : Nat → Nat} (hy : ∀ i, y i < 256) (i : Nat) : ∀ n, gm_sum (fun k => gm_mul F (gm_un k i) (y k)) n = if i < n then y i else 0
  | 0 => by simp [gm_sum]
  | n + 1 => by
    simp only [gm_sum]
    rw [gm_sum_un hF hy i n]
    unfold gm_un
    by_cases h : i = n
    · subst h
      rw [if_neg (Nat.lt_irrefl _), if_pos rfl, gm_one hF (hy _), if_pos (Nat.lt_succ_self _), Nat.zero_xor]
    · rw [if_neg h, gm_mul0, Nat.xor_zero]
      by_cases h2 : i < n
      · rw [if_pos h2, if_pos (by omega)]
      · rw [if_neg h2, if_neg (by omega)]
theorem gm_lin {F : Nat} (hF : gm_ok F) {p : Nat → Nat} (hp : ∀ i, p i < 256) {n : Nat} {y : Nat → Nat} (hy : ∀ i, y i < 256) (hc : ∀ k, k < n → gm_nw F p n (gm_un k) = gm_lc F p k (n - 1)) : gm_nw F p n y = gm_la F p n y := by
  rw [gm_nw_c F p n (v := fun i => gm_sum (fun k => gm_mul F (gm_un k i) (y k)) n) (fun i hi => by rw [gm_sum_un hF hy, if_pos hi])]
  rw [gm_nw_sum F p n (fun k i => gm_mul F (gm_un k i) (y k)) n]
  unfold gm_la
  refine gm_sum_congr n (fun k hk => ?_)
  rw [gm_nw_s hF hp (gm_un_lt k) (hy k), hc k hk]
/-- how many shares a mask tells below i, and which -/
def gm_cn (m : Nat) : Nat → Nat
  | 0 => 0
  | i + 1 => gm_cn m i + m / 2 ^ i % 2
def gm_ar (m : Nat) : Nat → Nat → Nat
  | 0 => fun _ => 0
  | i + 1 => if m / 2 ^ i % 2 = 1 then (fun j => if j = gm_cn m i then i else gm_ar m i j) else gm_ar m i
def gm_p (m k : Nat) : Nat := gm_ar m 8 k + 1
theorem gm_cn_le (m : Nat) : ∀ i, gm_cn m i ≤ i
  | 0 => Nat.le_refl 0
  | i + 1 => by
    simp only [gm_cn]
    have := gm_cn_le m i
    have := gm_b2 (m / 2 ^ i)
    omega
theorem gm_ar_lt (m : Nat) : ∀ i j, gm_ar m i j ≤ i - 1
  | 0, _ => Nat.le_refl 0
  | i + 1, j => by
    have := gm_ar_lt m i j
    simp only [gm_ar]
    split
    · show (if j = gm_cn m i then i else gm_ar m i j) ≤ i + 1 - 1
      split <;> omega
    · omega
theorem gm_ar8 (m j : Nat) : gm_ar m 8 j < 8 := by
  have := gm_ar_lt m 8 j
  omega
theorem gm_p_lt (m k : Nat) : gm_p m k < 16 := by
  have := gm_ar8 m k
  unfold gm_p
  omega
theorem gm_p_x (m i j : Nat) : gm_p m i ^^^ gm_p m j < 16 := @Nat.xor_lt_two_pow _ _ 4 (gm_p_lt m i) (gm_p_lt m j)
/-- a mask's weights, by both, for every unit row -/
def gm_ck (F m : Nat) : Bool := (List.range (gm_cn m 8)).all (fun k => gm_nw F (gm_p m) (gm_cn m 8) (gm_un k) == gm_lc F (gm_p m) k (gm_cn m 8 - 1))
theorem gm_ck1 : ∀ m, m < 256 → gm_ck 283 m = true := by decide +kernel
theorem gm_ck2 : ∀ m, m < 256 → gm_ck 285 m = true := by decide +kernel
/-- THE LAW: both answer the same byte -/
theorem gm_law {F m : Nat} (hF : gm_ok F) (hm : m < 256) {y : Nat → Nat} (hy : ∀ i, y i < 256) : gm_nw F (gm_p m) (gm_cn m 8) y = gm_la F (gm_p m) (gm_cn m 8) y := by
  refine gm_lin hF (fun i => Nat.lt_trans (gm_p_lt m i) (by decide)) hy (fun k hk => ?_)
  have h : gm_ck F m = true := by
    rcases hF with rfl | rfl
    · exact gm_ck1 m hm
    · exact gm_ck2 m hm
  have h2 := List.all_eq_true.mp h k (List.mem_range.mpr hk)
  exact eq_of_beq h2
end
section
/-! ROWS OF OUR OWN: the module's classes and arrays, worlds as lists up to their order, grids, calls joined -/
set_option maxRecDepth 100000
abbrev vwCl : List vw_C := [(RX0, TX0, 2), (RX1, TX1, 2), (RX2, TX2, 2), (RX4, TX4, 2), (RX5, TX5, 1)]
/-- the array classes: 0 bytes, 1 arrays of bytes, 2 ints, 3 arrays of ints, 4 shares -/
abbrev gm_tys (tc : Nat → ClassId) : List (ClassId × FieldType) := [(tc 0, .byte), (tc 1, .array .byte), (tc 2, .int), (tc 3, .array .int), (tc 4, .object "ShamirSplitSecretShare")]
theorem gm_nwA {ty : FieldType} {u U : State} (hvm : u.vm.Alike U.vm) (h : (Cond.arrayOver ty).before #[] u = true) : (Cond.arrayOver ty).before #[] U = true := by
  have h1 : (Cond.arrayOver ty).before #[] (u.setVm U.vm) = true := by
    rw [Cond.arrayOver_setVmC hvm]
    exact h
  exact h1
theorem gm_nwC {C E : String} {u U : State} (hvm : u.vm.Alike U.vm) (h : (Cond.castable C E).before #[] u = true) : (Cond.castable C E).before #[] U = true :=
  va_tabs rfl (rfl : (u.setVm U.vm).vm = U.vm) (by rw [Cond.castable_setVm hvm]; exact h)
/-- what holds of the tables all through the run -/
def gm_T (D : va_G) (tc : Nat → ClassId) (U : State) : Prop := va_K D vwCl (gm_tys tc) U ∧ va_Nw (.castable "[B" "java/lang/Cloneable") U ∧ va_Nw (.arrayOver (.array .byte)) U ∧ va_Nw (.arrayOver (.array .int)) U ∧ va_Nw (.arrayOver (.object "ShamirSplitSecretShare")) U
theorem gm_T.moved {D : va_G} {tc : Nat → ClassId} {u U : State} (hvm : u.vm.Alike U.vm) (h : gm_T D tc u) : gm_T D tc U :=
  ⟨va_K.moved hvm h.1, gm_nwC hvm h.2.1, gm_nwA hvm h.2.2.1, gm_nwA hvm h.2.2.2.1, va_AO.moved hvm h.2.2.2.2⟩
theorem gm_T.cB {D : va_G} {tc : Nat → ClassId} {U : State} (h : gm_T D tc U) : U.vm.findClass "[B" = some (tc 0) := va_nm_byte ((h.1.2 0 _ rfl).2)
theorem gm_T.cI {D : va_G} {tc : Nat → ClassId} {U : State} (h : gm_T D tc U) : U.vm.findClass "[I" = some (tc 2) := va_nm_int ((h.1.2 2 _ rfl).2)
abbrev gm_B (tc : Nat → ClassId) (n : Nat) (Y : Nat → Nat) : va_E := .inl (tc 0, n, .inl (fun j => sb_b (Y j)))
abbrev gm_I (tc : Nat → ClassId) (n : Nat) (Y : Nat → Nat) : va_E := .inl (tc 2, n, .inl (fun j => nI (Y j)))
abbrev gm_R (tc : Nat → ClassId) (t n : Nat) (f : Nat → Option Nat) : va_E := .inl (tc t, n, .inr (.inr (.inr (.inr f))))
abbrev gm_O (ci : Nat) (fs : List Value) : va_E := .inr (ci, fs)
/-- n cells in a row -/
def gm_L (ad : Nat → Nat) (e : Nat → va_E) (n : Nat) : va_W := (List.range n).map (fun j => (ad j, e j))
/-! worlds as lists up to their order -/
theorem gm_Pm {D : va_G} {cl : List vw_C} {ws : va_W} {H : Heap} : va_P D cl ws H ↔ ∀ q ∈ ws, va_at D cl q H := by
  constructor
  · intro h q hq
    obtain ⟨k, hk⟩ := List.mem_iff_getElem?.mp hq
    exact h k q hk
  · intro h k q hk
    exact h q (List.mem_of_getElem? hk)
theorem gm_Dm {A : Nat → Prop} {ws : va_W} : va_D A ws ↔ (ws.map (·.1)).Nodup ∧ ∀ q ∈ ws, A q.1 := by
  constructor
  · intro h
    refine ⟨?_, fun q hq => ?_⟩
    · rw [List.nodup_iff_pairwise_ne, List.pairwise_iff_getElem]
      intro i j hi hj hij e
      rw [List.getElem_map, List.getElem_map] at e
      rw [List.length_map] at hi hj
      have := h.1 i j ws[i] ws[j] (List.getElem?_eq_getElem hi) (List.getElem?_eq_getElem hj) e
      omega
    · obtain ⟨k, hk⟩ := List.mem_iff_getElem?.mp hq
      exact h.2 k q hk
  · intro h
    refine ⟨fun i j p q hp hq e => ?_, fun k q hk => h.2 q (List.mem_of_getElem? hk)⟩
    have h1 := h.1
    rw [List.nodup_iff_pairwise_ne, List.pairwise_iff_getElem] at h1
    obtain ⟨hi, ei⟩ := List.getElem?_eq_some_iff.mp hp
    obtain ⟨hj, ej⟩ := List.getElem?_eq_some_iff.mp hq
    rcases Nat.lt_trichotomy i j with c | c | c
    · exact absurd (by rw [List.getElem_map, List.getElem_map, ei, ej]; exact e) (h1 i j (by rw [List.length_map]; exact hi) (by rw [List.length_map]; exact hj) c)
    · exact c
    · exact absurd (by rw [List.getElem_map, List.getElem_map, ei, ej]; exact e.symm) (h1 j i (by rw [List.length_map]; exact hj) (by rw [List.length_map]; exact hi) c)
theorem gm_Psub {D : va_G} {cl : List vw_C} {ws ws' : va_W} {H : Heap} (h : va_P D cl ws H) (hs : ∀ q ∈ ws', q ∈ ws) : va_P D cl ws' H := gm_Pm.mpr fun q hq => gm_Pm.mp h q (hs q hq)
theorem gm_Dperm {A : Nat → Prop} {ws ws' : va_W} (h : va_D A ws) (hp : ws.Perm ws') : va_D A ws' := by
  rw [gm_Dm] at h ⊢
  exact ⟨(hp.map _).nodup h.1, fun q hq => h.2 q (hp.mem_iff.mpr hq)⟩
theorem gm_Pperm {D : va_G} {cl : List vw_C} {ws ws' : va_W} {H : Heap} (h : va_P D cl ws H) (hp : ws.Perm ws') : va_P D cl ws' H := gm_Psub h fun q hq => hp.mem_iff.mpr hq
theorem gm_Dsub {A : Nat → Prop} {ws ws' : va_W} (h : va_D A ws) (hp : ws'.Sublist ws) : va_D A ws' := by
  rw [gm_Dm] at h ⊢
  exact ⟨List.Nodup.sublist (hp.map _) h.1, fun q hq => h.2 q (hp.subset hq)⟩
/-- a cell of the world, alone -/
theorem gm_pick {D : va_G} {cl : List vw_C} {ws : va_W} {H : Heap} (h : va_P D cl ws H) {q : Nat × va_E} (hq : q ∈ ws) : va_P D cl [q] H := gm_Psub h fun x hx => by
  rw [List.mem_singleton.mp hx]
  exact hq
theorem gm_L_mem {ad : Nat → Nat} {e : Nat → va_E} {n j : Nat} (h : j < n) : (ad j, e j) ∈ gm_L ad e n := List.mem_map.mpr ⟨j, List.mem_range.mpr h, rfl⟩
theorem gm_L_of {ad : Nat → Nat} {e : Nat → va_E} {n : Nat} {q : Nat × va_E} (h : q ∈ gm_L ad e n) : ∃ j, j < n ∧ q = (ad j, e j) := by
  obtain ⟨j, h1, h2⟩ := List.mem_map.mp h
  exact ⟨j, List.mem_range.mp h1, h2.symm⟩
theorem gm_L_succ (ad : Nat → Nat) (e : Nat → va_E) (n : Nat) : gm_L ad e (n + 1) = gm_L ad e n ++ [(ad n, e n)] := by
  unfold gm_L
  rw [List.range_succ, List.map_append]
  rfl
theorem gm_L_congr {ad ad' : Nat → Nat} {e e' : Nat → va_E} {n : Nat} (h : ∀ j, j < n → ad j = ad' j ∧ e j = e' j) : gm_L ad e n = gm_L ad' e' n := by
  unfold gm_L
  refine List.map_congr_left fun j hj => ?_
  obtain ⟨h1, h2⟩ := h j (List.mem_range.mp hj)
  rw [h1, h2]
/-- one more behind a row -/
theorem gm_L_push (ad : Nat → Nat) (e : Nat → va_E) (n a : Nat) (x : va_E) : gm_L ad e n ++ [(a, x)] = gm_L (va_up ad n a) (va_up e n x) (n + 1) := by
  rw [gm_L_succ, va_up_self, va_up_self]
  congr 1
  refine gm_L_congr fun j hj => ?_
  rw [va_up_ne _ _ (Nat.ne_of_lt hj), va_up_ne _ _ (Nat.ne_of_lt hj)]
  exact ⟨rfl, rfl⟩
/-- the rest of a row without its j-th -/
def gm_Lx (ad : Nat → Nat) (e : Nat → va_E) (n j : Nat) : va_W := ((List.range n).erase j).map (fun k => (ad k, e k))
theorem gm_L_out (ad : Nat → Nat) (e : Nat → va_E) {n j : Nat} (h : j < n) : (gm_L ad e n).Perm ((ad j, e j) :: gm_Lx ad e n j) :=
  (List.perm_cons_erase (List.mem_range.mpr h)).map (fun k => (ad k, e k))
theorem gm_Lx_up (ad : Nat → Nat) (e : Nat → va_E) (n j : Nat) (x : va_E) : gm_Lx ad (va_up e j x) n j = gm_Lx ad e n j := by
  unfold gm_Lx
  refine List.map_congr_left fun k hk => ?_
  have hne : k ≠ j := ((List.Nodup.mem_erase_iff List.nodup_range).mp hk).1
  rw [va_up_ne _ _ hne]
theorem gm_L_back (ad : Nat → Nat) (e : Nat → va_E) {n j : Nat} (h : j < n) (x : va_E) : ((ad j, x) :: gm_Lx ad e n j).Perm (gm_L ad (va_up e j x) n) := by
  have h1 := gm_L_out ad (va_up e j x) h
  rw [va_up_self, gm_Lx_up] at h1
  exact h1.symm
/-! what is only read -/
theorem gm_ro {D : va_G} {cl : List vw_C} {A : Nat → Prop} {H0 H : Heap} {locs : List Loc} {ws : va_W} (hS : va_S A H0 H locs) (hP : va_P D cl ws H0) (ha : ∀ q ∈ ws, ¬ A q.1) : va_P D cl ws H := by
  rw [gm_Pm] at hP ⊢
  exact fun q hq => (hP q hq).kept (hS.2.1 q.1 (hP q hq).lt (ha q hq))
/-- the cells behind wc are apart from what may be written -/
theorem gm_apart {D : va_G} {cl : List vw_C} {H : Heap} {wc wr : va_W} {A : Nat → Prop} (hD : va_D A (wc ++ wr)) (hP : va_P D cl (wc ++ wr) H) : ∀ q ∈ wr, ¬ va_A wc H.size q.1 := by
  intro q hq h
  have hl := (gm_Pm.mp hP q (List.mem_append_right _ hq)).lt
  rcases h with ⟨k, e, hk⟩ | h
  · rw [gm_Dm, List.map_append, List.nodup_append] at hD
    exact hD.1.2.2 q.1 (List.mem_map.mpr ⟨(q.1, e), List.mem_of_getElem? hk, rfl⟩) q.1 (List.mem_map.mpr ⟨q, hq, rfl⟩) rfl
  · omega
theorem gm_apart0 {D : va_G} {cl : List vw_C} {H : Heap} {wr : va_W} (hP : va_P D cl wr H) : ∀ q ∈ wr, ¬ va_A [] H.size q.1 := by
  intro q hq h
  have hl := (gm_Pm.mp hP q hq).lt
  rcases h with ⟨k, e, hk⟩ | h
  · simp at hk
  · omega
theorem gm_free {A0 : Nat → Prop} {wr wc : va_W} {H0 H : Heap} {locs : List Loc} (hD : va_D A0 (wr ++ wc)) (hS : va_S A0 H0 H locs) (hA : ∀ q, H0.size ≤ q → A0 q) : ∀ q, va_A wc H.size q → A0 q := by
  intro q h
  rcases h with ⟨k, e, h⟩ | h
  · exact (gm_Dm.mp hD).2 (q, e) (List.mem_append_right _ (List.mem_of_getElem? h))
  · exact hA q (Nat.le_trans hS.1 h)
/-- behind a call -/
theorem gm_join {A0 : Nat → Prop} {D : va_G} {cl : List vw_C} {wr wc w1 : va_W} {H H1 : Heap} (hP : va_P D cl (wr ++ wc) H) (hD : va_D A0 (wr ++ wc))
    (hk : ∀ q : Nat, q < H.size → ¬ va_A wc H.size q → H1[q]? = H[q]?) (hF : ∀ q, va_A wc H.size q → A0 q) (hP1 : va_P D cl w1 H1) (hD1 : va_D (va_A wc H.size) w1) : va_P D cl (wr ++ w1) H1 ∧ va_D A0 (wr ++ w1) := by
  have hpm : (wr ++ wc).Perm (wc ++ wr) := List.perm_append_comm
  have hap := gm_apart (gm_Dperm hD hpm) (gm_Pperm hP hpm)
  rw [gm_Pm] at hP hP1
  rw [gm_Dm] at hD hD1
  rw [gm_Pm, gm_Dm]
  refine ⟨fun q hq => ?_, ?_, fun q hq => ?_⟩
  · rcases List.mem_append.mp hq with h | h
    · have h1 := hP q (List.mem_append_left _ h)
      exact h1.kept (hk q.1 h1.lt (hap q h))
    · exact hP1 q h
  · rw [List.map_append, List.nodup_append] at hD ⊢
    refine ⟨hD.1.1, hD1.1, fun a ha b hb e => ?_⟩
    obtain ⟨x, hx, rfl⟩ := List.mem_map.mp ha
    obtain ⟨y, hy, rfl⟩ := List.mem_map.mp hb
    exact hap x hx (by rw [e]; exact hD1.2 y hy)
  · rcases List.mem_append.mp hq with h | h
    · exact hD.2 q (List.mem_append_left _ h)
    · exact hF _ (hD1.2 q h)
end
section
/-! ROWS OF OUR OWN: instructions over Nat contents, grids, calls -/
set_option maxRecDepth 100000
theorem gm_sb0 : sb_b 0 = 0 := by decide +kernel
theorem gm_updB (Y : Nat → Nat) {j n v : Nat} (hj : j < n) (hn : n < 2 ^ 31) : upd (fun k => sb_b (Y k)) (nI j).toNatClampNeg (vp_nar .byte (sb_b v)) = fun k => sb_b (va_up Y j v k) := by
  funext k
  rw [nI_clamp (Nat.lt_trans hj hn), show vp_nar .byte (sb_b v) = sb_b v from pk_vb _]
  by_cases h : k = j
  · subst h
    simp [upd, va_up]
  · simp [upd, va_up, h]
theorem gm_updI (Y : Nat → Nat) {j n v : Nat} (hj : j < n) (hn : n < 2 ^ 31) : upd (fun k => nI (Y k)) (nI j).toNatClampNeg (nI v) = fun k => nI (va_up Y j v k) := by
  funext k
  rw [nI_clamp (Nat.lt_trans hj hn)]
  by_cases h : k = j
  · subst h
    simp [upd, va_up]
  · simp [upd, va_up, h]
theorem gm_outer_i (cA : ClassId) (n h0 : Nat) : ∀ i, Jvm.Free.Multi.outerC cA n h0 i = arrV cA n (fun j => if j < i then .ref (h0 + 1 + j) else .null)
  | 0 => by
    rw [Jvm.Free.Multi.outerC, arrV_new]
    congr 1
  | i + 1 => by
    rw [Jvm.Free.Multi.outerC, gm_outer_i cA n h0 i, arrV_store]
    congr 1
    funext j
    unfold updV
    by_cases h : j = i
    · subst h
      rw [if_pos rfl, if_pos (Nat.lt_succ_self _)]
    · rw [if_neg h]
      show (if j < i then Value.ref (h0 + 1 + j) else Value.null) = _
      by_cases h2 : j < i
      · rw [if_pos h2, if_pos (by omega)]
      · rw [if_neg h2, if_neg (by omega)]
theorem gm_outer (cA : ClassId) (n h0 : Nat) : Jvm.Free.Multi.outerC cA n h0 n = arrV cA n (fun j => va_rf (some (h0 + 1 + j))) := by
  rw [gm_outer_i]
  unfold arrV
  congr 1
  apply congrArg
  funext j
  show (if j.val < n then Value.ref (h0 + 1 + j.val) else Value.null) = _
  rw [if_pos j.isLt]
  rfl
section GM
variable {p : Program} {l : Launch} {e : Env} {R : Room} {s : State} {m : MethodId} {args : Array Value} {below : List Frame} {meth : Method} {c : Code} {H : Heap} {locs : List Loc} {cells slots : Nat} {Q : State → Prop}
variable {cc : ByteArray} {pc : Nat} {ls : Array Slot} {rest : List Value} {D : va_G} {tc : Nat → ClassId} {A : Nat → Prop} {a : Nat} {ws : va_W} {H0 : Heap}
/-- the number on top by another name -/
theorem gm_e {x y : Int32} (h : x = y) (k : W p l e R s m args below meth c H locs cells slots Q (F0 m pc ls (.int y :: rest))) : W p l e R s m args below meth c H locs cells slots Q (F0 m pc ls (.int x :: rest)) := by
  rw [h]
  exact k
theorem gm_bald (hexec : p.tables.exec = Jvm.exec) (hb : c.code = cc) (hT : gm_T D tc s) (hP : va_P D vwCl ws H) (q0 : Nat) {n : Nat} {Y : Nat → Nat} (ha : ws[q0]? = some (a, gm_B tc n Y)) {j : Nat} (hj : j < n) (hn : n < 2 ^ 31) (hdg : decode cc pc = .ok (.baload, 1))
    (kk : W p l e R s m args below meth c H locs cells slots Q (F0 m (pc + 1) ls (.int (sb_b (Y j)) :: rest))) : W p l e R s m args below meth c H locs cells slots Q (F0 m pc ls (.int (nI j) :: .ref a :: rest)) := by
  refine va_bald hexec hb hT.1 hP q0 0 ha rfl (vp_in_nI hj hn) hdg ?_
  rw [nI_clamp (Nat.lt_trans hj hn)]
  exact kk
theorem gm_iald (hexec : p.tables.exec = Jvm.exec) (hb : c.code = cc) (hT : gm_T D tc s) (hP : va_P D vwCl ws H) (q0 : Nat) {n : Nat} {Y : Nat → Nat} (ha : ws[q0]? = some (a, gm_I tc n Y)) {j : Nat} (hj : j < n) (hn : n < 2 ^ 31) (hdg : decode cc pc = .ok (.iaload, 1))
    (kk : W p l e R s m args below meth c H locs cells slots Q (F0 m (pc + 1) ls (.int (nI (Y j)) :: rest))) : W p l e R s m args below meth c H locs cells slots Q (F0 m pc ls (.int (nI j) :: .ref a :: rest)) := by
  refine va_iald hexec hb hT.1 hP q0 2 ha rfl (vp_in_nI hj hn) hdg ?_
  rw [nI_clamp (Nat.lt_trans hj hn)]
  exact kk
theorem gm_bast (hexec : p.tables.exec = Jvm.exec) (hb : c.code = cc) (hT : gm_T D tc s) (hP : va_P D vwCl ws H) (hD : va_D A ws) (hS : va_S A H0 H locs) (q0 : Nat) {n v : Nat} {Y : Nat → Nat} (ha : ws[q0]? = some (a, gm_B tc n Y)) {j : Nat} (hj : j < n) (hn : n < 2 ^ 31) (hdg : decode cc pc = .ok (.bastore, 1))
    (kk : ∀ (H1 : Heap) (locs1 : List Loc), va_P D vwCl (ws.set q0 (a, gm_B tc n (va_up Y j v))) H1 → va_D A (ws.set q0 (a, gm_B tc n (va_up Y j v))) → va_S A H0 H1 locs1 → W p l e R s m args below meth c H1 locs1 cells slots Q (F0 m (pc + 1) ls rest)) : W p l e R s m args below meth c H locs cells slots Q (F0 m pc ls (.int (sb_b v) :: .int (nI j) :: .ref a :: rest)) := by
  refine va_bast hexec hb hT.1 hP hD hS q0 0 ha rfl (vp_in_nI hj hn) hdg (fun H1 l1 p1 p2 p3 => ?_)
  rw [gm_updB Y hj hn] at p1 p2
  exact kk H1 l1 p1 p2 p3
theorem gm_iast (hexec : p.tables.exec = Jvm.exec) (hb : c.code = cc) (hT : gm_T D tc s) (hP : va_P D vwCl ws H) (hD : va_D A ws) (hS : va_S A H0 H locs) (q0 : Nat) {n v : Nat} {Y : Nat → Nat} (ha : ws[q0]? = some (a, gm_I tc n Y)) {j : Nat} (hj : j < n) (hn : n < 2 ^ 31) (hdg : decode cc pc = .ok (.iastore, 1))
    (kk : ∀ (H1 : Heap) (locs1 : List Loc), va_P D vwCl (ws.set q0 (a, gm_I tc n (va_up Y j v))) H1 → va_D A (ws.set q0 (a, gm_I tc n (va_up Y j v))) → va_S A H0 H1 locs1 → W p l e R s m args below meth c H1 locs1 cells slots Q (F0 m (pc + 1) ls rest)) : W p l e R s m args below meth c H locs cells slots Q (F0 m pc ls (.int (nI v) :: .int (nI j) :: .ref a :: rest)) := by
  refine va_iast hexec hb hT.1 hP hD hS q0 2 ha rfl (vp_in_nI hj hn) hdg (fun H1 l1 p1 p2 p3 => ?_)
  rw [gm_updI Y hj hn] at p1 p2
  exact kk H1 l1 p1 p2 p3
/-- a reference out of an array of references -/
theorem gm_qald (hexec : p.tables.exec = Jvm.exec) (hb : c.code = cc) (hT : gm_T D tc s) (hP : va_P D vwCl ws H) (q0 t : Nat) {ft : FieldType} (ht : (gm_tys tc)[t]? = some (tc t, ft)) (hft : ft.isReference = true) {n : Nat} {f : Nat → Option Nat} (ha : ws[q0]? = some (a, gm_R tc t n f)) {j x : Nat} (hj : j < n) (hn : n < 2 ^ 31) (hf : f j = some x) (hdg : decode cc pc = .ok (.aaload, 1))
    (kk : W p l e R s m args below meth c H locs cells slots Q (F0 m (pc + 1) ls (.ref x :: rest))) : W p l e R s m args below meth c H locs cells slots Q (F0 m pc ls (.int (nI j) :: .ref a :: rest)) := by
  have hc : (nI j).toNatClampNeg = j := nI_clamp (Nat.lt_trans hj hn)
  exact W.aald (v := .ref x) (ty := ft) hexec hb (hP q0 _ ha) ((hT.1.2 t _ ht).1 n (fun j => va_rf (f j))) hft (fun q => by cases q) (by show ¬ (nI j < 0 ∨ (arrV _ _ _).slots.size ≤ _); rw [arrV_size]; exact vp_in_nI hj hn) (by show (arrV _ _ _).slots[_]? = _; rw [hc, arrV_read _ _ hj, hf]; rfl) rfl rfl hdg kk
/-- an array of bytes into an array of such -/
theorem gm_gast (hexec : p.tables.exec = Jvm.exec) (hb : c.code = cc) (hT : gm_T D tc s) (hP : va_P D vwCl ws H) (hD : va_D A ws) (hS : va_S A H0 H locs) (q0 qk : Nat) {n k v : Nat} {f : Nat → Option Nat} {Y : Nat → Nat} (ha : ws[q0]? = some (a, gm_R tc 1 n f)) (hv : ws[qk]? = some (v, gm_B tc k Y)) {j : Nat} (hj : j < n) (hn : n < 2 ^ 31) (hdg : decode cc pc = .ok (.aastore, 1))
    (kk : ∀ (H1 : Heap) (locs1 : List Loc), va_P D vwCl (ws.set q0 (a, gm_R tc 1 n (va_up f j (some v)))) H1 → va_D A (ws.set q0 (a, gm_R tc 1 n (va_up f j (some v)))) → va_S A H0 H1 locs1 → W p l e R s m args below meth c H1 locs1 cells slots Q (F0 m (pc + 1) ls rest)) : W p l e R s m args below meth c H locs cells slots Q (F0 m pc ls (.ref v :: .int (nI j) :: .ref a :: rest)) := by
  have hc : (nI j).toNatClampNeg = j := nI_clamp (Nat.lt_trans hj hn)
  obtain ⟨comp, c1, kA, g1, -, g3, g4, g5⟩ := arrayOverA_spec hT.2.2.1
  have e1 : c1 = tc 1 := Option.some.inj (g5.symm.trans (hT.1.2 1 _ rfl).2)
  have e0 : comp = tc 0 := Option.some.inj (g1.symm.trans hT.cB)
  subst e1
  subst e0
  obtain ⟨kC, hkC, -⟩ := Vm.findClass_spec g1
  refine W.aast hexec hb (hP q0 _ ha) (fun q h => by cases h) (fun h => by cases h) g3 g4 rfl hkC ⟨nI_pos (Nat.lt_trans hj hn), by show _ < (arrV _ _ _).slots.size; rw [arrV_size, hc]; exact hj⟩ (hP qk _ hv) (fun q h => by cases h) hkC (va_asg _ _) rfl rfl hdg fun H1 e z oq => ?_
  rw [hc] at e
  refine kk H1 _ (hP.set hD ha ?_ oq) (hD.set ha) (hS.put z oq (hD.2 q0 _ ha))
  show H1[a]? = some (vp_cell _ _)
  rw [e]
  rw [vp_cell_q, vp_cell_q, arrV_store]
  congr 2
  funext q
  by_cases hq : q = j
  · subst hq
    simp [updV, va_up, va_rf]
  · simp [updV, va_up, hq]
/-- a share into the array of shares -/
theorem gm_sast (hexec : p.tables.exec = Jvm.exec) (hb : c.code = cc) (hT : gm_T D tc s) (hP : va_P D vwCl ws H) (hD : va_D A ws) (hS : va_S A H0 H locs) (q0 qk : Nat) {n v : Nat} {f : Nat → Option Nat} {vs : List Value} (ha : ws[q0]? = some (a, gm_R tc 4 n f)) (hv : ws[qk]? = some (v, gm_O 2 vs)) {j : Nat} (hj : j < n) (hn : n < 2 ^ 31) (hdg : decode cc pc = .ok (.aastore, 1))
    (kk : ∀ (H1 : Heap) (locs1 : List Loc), va_P D vwCl (ws.set q0 (a, gm_R tc 4 n (va_up f j (some v)))) H1 → va_D A (ws.set q0 (a, gm_R tc 4 n (va_up f j (some v)))) → va_S A H0 H1 locs1 → W p l e R s m args below meth c H1 locs1 cells slots Q (F0 m (pc + 1) ls rest)) : W p l e R s m args below meth c H locs cells slots Q (F0 m pc ls (.ref v :: .int (nI j) :: .ref a :: rest)) := by
  have hc : (nI j).toNatClampNeg = j := nI_clamp (Nat.lt_trans hj hn)
  refine va_astq (r := (RX2, TX2, 2)) hexec hb hT.1 hP hD hS q0 4 qk 2 ha rfl hv rfl (vp_in_nI hj hn) hdg (fun H1 l1 p1 p2 p3 => ?_)
  rw [hc] at p1 p2
  exact kk H1 l1 p1 p2 p3
theorem gm_newb (hexec : p.tables.exec = Jvm.exec) (hb : c.code = cc) (harr : (Cond.arrayClass .byte).before args s = true) (hT : gm_T D tc s) (hP : va_P D vwCl ws H) (hD : va_D A ws) (hS : va_S A H0 H locs) (hA : ∀ q, H0.size ≤ q → A q)
    {n : Nat} (hn : n ≤ 1000) (hcells : cells + 1 ≤ R.cells) (hslots : slots + n ≤ R.slots) (hdg : decode cc pc = .ok (.newarray .byte, 2))
    (kk : ∀ (q : Nat) (H1 : Heap), va_P D vwCl (ws ++ [(q, gm_B tc n (fun _ => 0))]) H1 → va_D A (ws ++ [(q, gm_B tc n (fun _ => 0))]) → va_S A H0 H1 locs →
      W p l e R s m args below meth c H1 locs (cells + 1) (slots + n) Q (F0 m (pc + 2) ls (.ref q :: rest))) : W p l e R s m args below meth c H locs cells slots Q (F0 m pc ls (.int (nI n) :: rest)) := by
  refine va_newa (atype := .byte) (ty := .byte) hexec hb harr rfl hT.1 hP hD hS hA (a0 := (n, .inl (fun _ => sb_b 0))) (fun cA => by rw [vp_cell_i, gm_sb0]; rfl) (nI_pos (by omega)) (nI_clamp (by omega)) (by show n * 1 ≤ _; omega) hcells hslots hdg (fun q cA H1 hK p1 p2 p3 => ?_)
  have e : cA = tc 0 := Option.some.inj ((va_nm_byte (hK.2 5 _ rfl).2).symm.trans hT.cB)
  subst e
  exact kk q H1 p1 p2 p3
theorem gm_newi (hexec : p.tables.exec = Jvm.exec) (hb : c.code = cc) (harr : (Cond.arrayClass .int).before args s = true) (hT : gm_T D tc s) (hP : va_P D vwCl ws H) (hD : va_D A ws) (hS : va_S A H0 H locs) (hA : ∀ q, H0.size ≤ q → A q)
    {n : Nat} (hn : n ≤ 1000) (hcells : cells + 1 ≤ R.cells) (hslots : slots + n ≤ R.slots) (hdg : decode cc pc = .ok (.newarray .int, 2))
    (kk : ∀ (q : Nat) (H1 : Heap), va_P D vwCl (ws ++ [(q, gm_I tc n (fun _ => 0))]) H1 → va_D A (ws ++ [(q, gm_I tc n (fun _ => 0))]) → va_S A H0 H1 locs →
      W p l e R s m args below meth c H1 locs (cells + 1) (slots + n) Q (F0 m (pc + 2) ls (.ref q :: rest))) : W p l e R s m args below meth c H locs cells slots Q (F0 m pc ls (.int (nI n) :: rest)) := by
  refine va_newa (atype := .int) (ty := .int) hexec hb harr rfl hT.1 hP hD hS hA (a0 := (n, .inl (fun _ => nI 0))) (fun cA => by rw [vp_cell_i, nI_0]; rfl) (nI_pos (by omega)) (nI_clamp (by omega)) (by show n * 4 ≤ _; omega) hcells hslots hdg (fun q cA H1 hK p1 p2 p3 => ?_)
  have e : cA = tc 2 := Option.some.inj ((va_nm_int (hK.2 5 _ rfl).2).symm.trans hT.cI)
  subst e
  exact kk q H1 p1 p2 p3
/-- a new array of shares -/
theorem gm_news (hexec : p.tables.exec = Jvm.exec) (hb : c.code = cc) {own : String} {index : Nat} (hown : s.vm.findClass own = some m.cls) (hclink : (Cond.classLink own index "ShamirSplitSecretShare").before args s = true) (hT : gm_T D tc s) (hP : va_P D vwCl ws H) (hD : va_D A ws) (hS : va_S A H0 H locs) (hA : ∀ q, H0.size ≤ q → A q)
    {n : Nat} (hn : n ≤ 1000) (hcells : cells + 1 ≤ R.cells) (hslots : slots + n ≤ R.slots) (hdg : decode cc pc = .ok (.anewarray index, 3))
    (kk : ∀ (q : Nat) (H1 : Heap), va_P D vwCl (ws ++ [(q, gm_R tc 4 n (fun _ => none))]) H1 → va_D A (ws ++ [(q, gm_R tc 4 n (fun _ => none))]) → va_S A H0 H1 locs →
      W p l e R s m args below meth c H1 locs (cells + 1) (slots + n) Q (F0 m (pc + 3) ls (.ref q :: rest))) : W p l e R s m args below meth c H locs cells slots Q (F0 m pc ls (.int (nI n) :: rest)) := by
  refine va_newq hexec hb hown hclink (va_AO.of hT.2.2.2.2) hT.1 hP hD hS hA (nI_pos (by omega)) (nI_clamp (by omega)) (by omega) hcells hslots hdg (fun q cA H1 hK p1 p2 p3 => ?_)
  obtain ⟨-, -, -, -, -, h1⟩ := (hK.2 5 _ rfl).2
  obtain ⟨-, -, -, -, -, h2⟩ := (hT.1.2 4 _ rfl).2
  have e : cA = tc 4 := Option.some.inj (h1.symm.trans h2)
  subst e
  exact kk q H1 p1 p2 p3
/-- a new grid of n rows of k places -/
theorem gm_newg (hexec : p.tables.exec = Jvm.exec) (hb : c.code = cc) {own : String} {index t ti n k : Nat} {ty : FieldType} (x : vp_A) (hown : s.vm.findClass own = some m.cls) (hclink : (Cond.classLink own index ("[" ++ (FieldType.array ty).toString)).before args s = true) (hover : (Cond.arrayOver (.array ty)).before args s = true) (harr : (Cond.arrayClass ty).before args s = true)
    (hfA : s.vm.findClass ("[" ++ (FieldType.array ty).toString) = some (tc t)) (hfC : s.vm.findClass (FieldType.array ty).toString = some (tc ti)) (hx : ∀ cA : ClassId, vp_cell cA x = arrV cA k (fun _ => defaultValue ty)) (hdf : fits ty (defaultValue ty) = true) (hdd : (defaultValue ty).isDefault = true) (hcb : componentBytes ty ≤ 8)
    (hP : va_P D vwCl ws H) (hD : va_D A ws) (hS : va_S A H0 H locs) (hA : ∀ q, H0.size ≤ q → A q) (hn : n ≤ 1000) (hk : k ≤ 1000) (hcells : cells + (1 + n) ≤ R.cells) (hslots : slots + (n + n * k) ≤ R.slots) (hdg : decode cc pc = .ok (.multianewarray index 2, 4))
    (kk : ∀ (q : Nat) (H1 : Heap), va_P D vwCl (ws ++ ((q, gm_R tc t n (fun j => some (q + 1 + j))) :: gm_L (fun j => q + 1 + j) (fun _ => .inl (tc ti, x)) n)) H1 → va_D A (ws ++ ((q, gm_R tc t n (fun j => some (q + 1 + j))) :: gm_L (fun j => q + 1 + j) (fun _ => .inl (tc ti, x)) n)) → va_S A H0 H1 locs →
      W p l e R s m args below meth c H1 locs (cells + (1 + n)) (slots + (n + n * k)) Q (F0 m (pc + 4) ls (.ref q :: rest))) : W p l e R s m args below meth c H locs cells slots Q (F0 m pc ls (.int (nI k) :: .int (nI n) :: rest)) := by
  intro T hT X
  subst hT
  have cn : (nI n).toNatClampNeg = n := nI_clamp (by omega)
  have ck : (nI k).toNatClampNeg = k := nI_clamp (by omega)
  have kb : k * componentBytes ty ≤ 536870912 := Nat.le_trans (Nat.mul_le_mul hk hcb) (by decide)
  obtain ⟨vm₁, cA, comp, hW, gA, gC, -, -, X1, st⟩ := X.multianewarray2F hexec (g := F0 m pc ls (.int (nI k) :: .int (nI n) :: rest)) hown hclink hover harr rfl (by rw [hb]; exact hdg) rfl (nI_pos (by omega)) (nI_pos (by omega)) (by rw [cn]; omega) (by rw [ck]; exact kb) (by rw [ck]; omega) hdf hdd (by rw [cn]; exact hcells) (by rw [cn, ck]; exact hslots)
  have eA : cA = tc t := Option.some.inj (gA.symm.trans hfA)
  have eC : comp = tc ti := Option.some.inj (gC.symm.trans hfC)
  subst eA
  subst eC
  rw [cn, ck] at X1 st
  obtain ⟨f1, f2, -, -⟩ := Jvm.Free.Multi.fill_facts (T.setVm vm₁) (tc t) (tc ti) n k (defaultValue ty) n
  have fo := fun (a : Addr) (ha : a < T.heap.size) => Jvm.Free.Multi.fill_old (T.setVm vm₁) (tc t) (tc ti) n k (defaultValue ty) (a := a) ha n
  have fi := fun (j : Nat) (hj : j < n) => Jvm.Free.Multi.fill_inner (T.setVm vm₁) (tc t) (tc ti) n k (defaultValue ty) n j hj
  generalize hF : Jvm.Free.Multi.fill (T.setVm vm₁) (tc t) (tc ti) n k (defaultValue ty) n = F at X1 st f1 f2 fo fi
  have f1 : F.heap.size = T.heap.size + 1 + n := f1
  have f2 : F.heap[T.heap.size]? = some (arrV (tc t) n (fun j => va_rf (some (T.heap.size + 1 + j)))) := by
    rw [← gm_outer]
    exact f2
  have fo : ∀ a : Nat, a < T.heap.size → F.heap[a]? = T.heap[a]? := fo
  have fi : ∀ j : Nat, j < n → F.heap[T.heap.size + 1 + j]? = some (arrV (tc ti) k (fun _ => defaultValue ty)) := fun j hj => by
    rw [← arrV_new]
    exact fi j hj
  have hnew : va_P D vwCl ((T.heap.size, gm_R tc t n (fun j => some (T.heap.size + 1 + j))) :: gm_L (fun j => T.heap.size + 1 + j) (fun _ => .inl (tc ti, x)) n) F.heap := by
    rw [gm_Pm]
    intro q hq
    rcases List.mem_cons.mp hq with e | e
    · rw [e]
      exact f2
    · obtain ⟨j, hj, rfl⟩ := gm_L_of e
      show F.heap[T.heap.size + 1 + j]? = some (vp_cell (tc ti) x)
      rw [hx]
      exact fi j hj
  have hold : va_P D vwCl ws F.heap := hP.kept fun i q hq => fo q.1 (hP i q hq).lt
  have hDn : va_D A (ws ++ ((T.heap.size, gm_R tc t n (fun j => some (T.heap.size + 1 + j))) :: gm_L (fun j => T.heap.size + 1 + j) (fun _ => .inl (tc ti, x)) n)) := by
    have hsz : ∀ q ∈ ((T.heap.size, gm_R tc t n (fun j => some (T.heap.size + 1 + j))) :: gm_L (fun j => T.heap.size + 1 + j) (fun _ => .inl (tc ti, x)) n : va_W), T.heap.size ≤ q.1 := by
      intro q hq
      rcases List.mem_cons.mp hq with e | e
      · rw [e]
        exact Nat.le_refl _
      · obtain ⟨j, hj, rfl⟩ := gm_L_of e
        show T.heap.size ≤ T.heap.size + 1 + j
        omega
    have hd := gm_Dm.mp hD
    rw [gm_Dm, List.map_append, List.nodup_append]
    refine ⟨⟨hd.1, ?_, fun u hu v hv => ?_⟩, fun q hq => ?_⟩
    · rw [List.map_cons, List.nodup_cons]
      refine ⟨fun h => ?_, ?_⟩
      · obtain ⟨y, hy, e⟩ := List.mem_map.mp h
        obtain ⟨j, hj, rfl⟩ := gm_L_of hy
        have : T.heap.size + 1 + j = T.heap.size := e
        omega
      · unfold gm_L
        rw [List.map_map]
        have e : ((fun x : Nat × va_E => x.1) ∘ fun j => (T.heap.size + 1 + j, (.inl (tc ti, x) : va_E))) = fun j => T.heap.size + 1 + j := rfl
        show ((List.range n).map ((fun x : Nat × va_E => x.1) ∘ fun j => (T.heap.size + 1 + j, (.inl (tc ti, x) : va_E)))).Nodup
        rw [e]
        have h0 : (List.range n).Nodup := List.nodup_range
        rw [List.nodup_iff_pairwise_ne] at h0 ⊢
        rw [List.pairwise_map]
        exact h0.imp fun h e => h (by omega)
    · obtain ⟨y, hy, rfl⟩ := List.mem_map.mp hu
      obtain ⟨z, hz, rfl⟩ := List.mem_map.mp hv
      have h1 := (gm_Pm.mp hP y hy).lt
      have h2 := hsz z hz
      omega
    · rcases List.mem_append.mp hq with h | h
      · exact hd.2 q h
      · exact hA _ (Nat.le_trans hS.1 (hsz q h))
  obtain ⟨t', a1, b1⟩ := kk T.heap.size F.heap (hold.app hnew) hDn ⟨Nat.le_trans hS.1 (by omega), fun x h1 h2 => (fo x (Nat.lt_of_lt_of_le h1 hS.1)).trans (hS.2.1 x h1 h2), hS.2.2⟩ F rfl (by rw [show cells + (1 + n) = cells + 1 + n by omega, show slots + (n + n * k) = slots + n + n * k by omega]; exact X1)
  exact ⟨t', st t' a1, b1⟩
end GM
/-! contracts' starts and ends, and calls -/
/-- a start: the world ws, nothing else of it known; Z: of the statics -/
def gm_Pc (D : va_G) (tc : Nat → ClassId) (av : List Value) (sz : Nat) (ws : va_W) (Z : State → Prop) : Array Value → State → Prop := va_Pc av (fun U => U.heap.size = sz ∧ va_P D vwCl ws U.heap ∧ gm_T D tc U ∧ va_D (fun _ => True) ws ∧ Z U)
/-- a start of a method that only reads -/
def gm_Pr (D : va_G) (tc : Nat → ClassId) (av : List Value) (ws : va_W) : Array Value → State → Prop := va_Pc av (fun U => va_P D vwCl ws U.heap ∧ gm_T D tc U)
/-- an end: of the cells wc the world w1 has become -/
def gm_Bw {S : Type} (D : va_G) (wc : va_W) (sz : Nat) (w1 : S → va_W) : S → State → Prop := fun u t => va_P D vwCl (w1 u) t.heap ∧ va_D (va_A wc sz) (w1 u)
def gm_Br {S : Type} (D : va_G) (wc : va_W) (sz : Nat) (w1 : S → Nat → va_W) : S → Nat → State → Prop := fun u a t => va_P D vwCl (w1 u a) t.heap ∧ va_D (va_A wc sz) (w1 u a)
abbrev gm_Zt : State → Prop := fun _ => True
theorem gm_Zt_b : ∀ (a : Array Value) (U : State) (g : JFrame) (mk : MethodId), gm_Zt U → gm_Zt (U.calling g mk a) := fun _ _ _ _ h => h
theorem gm_Pc_b {D : va_G} {tc : Nat → ClassId} {av : List Value} {sz : Nat} {ws : va_W} {Z : State → Prop} (hZ : ∀ (a : Array Value) (U : State) (g : JFrame) (mk : MethodId), Z U → Z (U.calling g mk a)) : FrameBlind (gm_Pc D tc av sz ws Z) := by
  intro a U g mk q
  obtain ⟨q0, q1, qP, qT, qD, qZ⟩ := q
  exact ⟨q0, q1, qP, gm_T.moved (u := U) (U := U.calling g mk a) (Vm.Alike.refl U.vm) qT, qD, hZ a U g mk qZ⟩
theorem gm_Pr_b {D : va_G} {tc : Nat → ClassId} {av : List Value} {ws : va_W} : FrameBlind (gm_Pr D tc av ws) := by
  intro a U g mk q
  obtain ⟨q0, qP, qT⟩ := q
  exact ⟨q0, qP, gm_T.moved (u := U) (U := U.calling g mk a) (Vm.Alike.refl U.vm) qT⟩
theorem gm_pre {s : State} {D : va_G} {tc : Nat → ClassId} {av : List Value} {ws : va_W} {Z : State → Prop} {H : Heap} {A : Nat → Prop} (hP : va_P D vwCl ws H) (hT : gm_T D tc s) (hD : va_D A ws) (hZb : ∀ (a : Array Value) (U : State) (g : JFrame) (mk : MethodId), Z U → Z (U.calling g mk a)) (hZ : ∀ U : State, U.heap = H → s.vm.Alike U.vm → Z U) : PreS s H (gm_Pc D tc av H.size ws Z) av :=
  ⟨gm_Pc_b hZb, fun U hU hW => ⟨rfl, by rw [hU], by rw [hU]; exact hP, gm_T.moved hW.alike hT, hD.weaken (fun _ _ _ _ => trivial), hZ U hU hW.alike⟩⟩
theorem gm_preR {s : State} {D : va_G} {tc : Nat → ClassId} {av : List Value} {ws : va_W} {H : Heap} (hP : va_P D vwCl ws H) (hT : gm_T D tc s) : PreS s H (gm_Pr D tc av ws) av :=
  ⟨gm_Pr_b, fun U hU hW => ⟨rfl, by rw [hU]; exact hP, gm_T.moved hW.alike hT⟩⟩
/-- the receiver, an object of the world -/
theorem gm_recv {s : State} {D : va_G} {tc : Nat → ClassId} {ws : va_W} {H : Heap} {C : String} {T : u_T} {N a ci : Nat} {fs : List Value} (hP : va_P D vwCl ws H) (hT : gm_T D tc s) (hc : vwCl[ci]? = some (C, T, N)) (q0 : Nat) (he : ws[q0]? = some (a, gm_O ci fs)) : ∃ cell : Cell, H[a]? = some cell ∧ cell.vm.isStatics = false ∧ s.vm.findClass C = some cell.cls := va_recv hT.1 hP hc he
theorem gm_V {s : State} {H : Heap} {C : String} {b : Addr} {Pc : Array Value → State → Prop} {As : List Value} (h : PreS s H Pc (.ref b :: As)) (hr : ∃ cell : Cell, H[b]? = some cell ∧ cell.vm.isStatics = false ∧ s.vm.findClass C = some cell.cls) : PreV s H C b Pc As := ⟨h.1, hr, h.2⟩
section GC
variable {p : Program} {l : Launch} {e : Env} {R : Room} {s : State} {m : MethodId} {args : Array Value} {below : List Frame} {meth : Method} {c : Code} {H : Heap} {locs : List Loc} {cells slots mc ms : Nat} {Q : State → Prop}
variable {pc : Nat} {ls : Array Slot} {rest st0 : List Value} {D : va_G} {A : Nat → Prop} {H0 : Heap} {wr wc : va_W} {a : Array Value}
theorem gm_callv {S : Type} {post : S → Prop} {w1 : S → va_W} (hr : va_Run p l e R s m args below meth c H locs cells slots mc ms (F0 m pc ls st0) rest (va_Qv post (gm_Bw D wc H.size w1) (va_A wc H.size) a) (va_A wc H.size))
    (hP : va_P D vwCl (wr ++ wc) H) (hD : va_D A (wr ++ wc)) (hS : va_S A H0 H locs) (hA : ∀ q, H0.size ≤ q → A q)
    (kk : ∀ (u : S) (H1 : Heap) (locs1 : List Loc), post u → va_P D vwCl (wr ++ w1 u) H1 → va_D A (wr ++ w1 u) → va_S A H0 H1 locs1 → W p l e R s m args below meth c H1 locs1 (cells + mc) (slots + ms) Q (F0 m (pc + 3) ls rest)) : W p l e R s m args below meth c H locs cells slots Q (F0 m pc ls st0) := by
  have hF := gm_free hD hS hA
  refine va_callv hr hS (fun q _ h => hF q h) hF (fun u t H1 l1 ht hvm hw hB hz1 hk1 hS1 => ?_)
  obtain ⟨hP1, hD1⟩ := hB
  rw [ht] at hP1
  obtain ⟨p1, p2⟩ := gm_join hP hD hk1 hF hP1 hD1
  exact kk u H1 l1 hw p1 p2 hS1
theorem gm_calli {S : Type} {post : Int32 → S → Prop} {w1 : S → va_W} (hr : va_Run p l e R s m args below meth c H locs cells slots mc ms (F0 m pc ls st0) rest (va_Qi post (gm_Bw D wc H.size w1) (va_A wc H.size) a) (va_A wc H.size))
    (hP : va_P D vwCl (wr ++ wc) H) (hD : va_D A (wr ++ wc)) (hS : va_S A H0 H locs) (hA : ∀ q, H0.size ≤ q → A q)
    (kk : ∀ (r : Int32) (u : S) (H1 : Heap) (locs1 : List Loc), post r u → va_P D vwCl (wr ++ w1 u) H1 → va_D A (wr ++ w1 u) → va_S A H0 H1 locs1 → W p l e R s m args below meth c H1 locs1 (cells + mc) (slots + ms) Q (F0 m (pc + 3) ls (.int r :: rest))) : W p l e R s m args below meth c H locs cells slots Q (F0 m pc ls st0) := by
  have hF := gm_free hD hS hA
  refine va_calli hr hS (fun q _ h => hF q h) hF (fun r u t H1 l1 ht hvm hw hB hz1 hk1 hS1 => ?_)
  obtain ⟨hP1, hD1⟩ := hB
  rw [ht] at hP1
  obtain ⟨p1, p2⟩ := gm_join hP hD hk1 hF hP1 hD1
  exact kk r u H1 l1 hw p1 p2 hS1
theorem gm_callr {S : Type} {post : S → Prop} {w1 : S → Nat → va_W} (hr : va_Run p l e R s m args below meth c H locs cells slots mc ms (F0 m pc ls st0) rest (va_Qr post (gm_Br D wc H.size w1) (va_A wc H.size) a) (va_A wc H.size))
    (hP : va_P D vwCl (wr ++ wc) H) (hD : va_D A (wr ++ wc)) (hS : va_S A H0 H locs) (hA : ∀ q, H0.size ≤ q → A q)
    (kk : ∀ (u : S) (ra : Nat) (H1 : Heap) (locs1 : List Loc), post u → va_P D vwCl (wr ++ w1 u ra) H1 → va_D A (wr ++ w1 u ra) → va_S A H0 H1 locs1 → W p l e R s m args below meth c H1 locs1 (cells + mc) (slots + ms) Q (F0 m (pc + 3) ls (.ref ra :: rest))) : W p l e R s m args below meth c H locs cells slots Q (F0 m pc ls st0) := by
  have hF := gm_free hD hS hA
  refine va_callr hr hS (fun q _ h => hF q h) hF (fun u ra t H1 l1 ht hvm hw hB hz1 hk1 hS1 => ?_)
  obtain ⟨hP1, hD1⟩ := hB
  rw [ht] at hP1
  obtain ⟨p1, p2⟩ := gm_join hP hD hk1 hF hP1 hD1
  exact kk u ra H1 l1 hw p1 p2 hS1
end GC
end
section
/-! NUMBERS: what the machine's int operations do to nI, sb_b (bt, s_l, s_u, b_sshr, nx_xor, bp_b: rows of kit/laws/BITS) -/
set_option maxRecDepth 100000
def bt (x : Int32) (i : Nat) : Bool := x.toBitVec.getLsbD i
theorem s_l : ∀ n, n < 32 → ((nI n &&& 31).toBitVec.smod 32).toNat = n := by decide +kernel
theorem s_u : ∀ n, n < 32 → (((nI n).toUInt32 &&& Int32.toUInt32 31).toBitVec % 32).toNat = n := by decide +kernel
theorem b_sshr (n : Nat) (hn : n < 32) (x : Int32) {i : Nat} (hi : i < 32) : bt (x >>> (nI n &&& 31)) i = if n + i < 32 then bt x (n + i) else bt x 31 := by
  unfold bt
  rw [Int32.toBitVec_shiftRight]
  show (x.toBitVec.sshiftRight ((nI n &&& 31).toBitVec.smod 32).toNat).getLsbD i = _
  rw [s_l n hn, BitVec.getLsbD_sshiftRight, BitVec.msb_eq_getLsbD_last]
  simp [hi]
theorem nx_xor (a b : Nat) : nI a ^^^ nI b = nI (a ^^^ b) := by
  apply Int32.toBitVec_inj.1
  show BitVec.ofNat 32 a ^^^ BitVec.ofNat 32 b = BitVec.ofNat 32 (a ^^^ b)
  apply BitVec.eq_of_getLsbD_eq
  intro i hi
  simp [hi]
theorem bp_b (x : Int32) : x.toInt8.toInt32 &&& 255 = x &&& 255 := by
  apply Int32.toBitVec_inj.mp
  rw [Int32.toBitVec_and, Int32.toBitVec_and, Int8.toBitVec_toInt32, Int32.toBitVec_toInt8]
  apply BitVec.eq_of_getLsbD_eq
  intro i hi
  rw [BitVec.getLsbD_and, BitVec.getLsbD_and]
  have hm : ∀ i < 32, 8 ≤ i → (255 : Int32).toBitVec.getLsbD i = false := by decide
  rcases Nat.lt_or_ge i 8 with z | z
  · rw [BitVec.getLsbD_signExtend, BitVec.getLsbD_signExtend, if_pos z, if_pos hi]
    simp only [z, hi, decide_true, Bool.true_and]
  · rw [hm i hi z]; simp
theorem gm_and1 {n : Nat} (h : n < 2 ^ 32) : nI n &&& nI 1 = nI (n % 2) := pk_andN h 1 (by decide +kernel)
theorem gm_and255 {n : Nat} (h : n < 2 ^ 32) : nI n &&& nI 255 = nI (n % 256) := pk_andN h 8 (by decide +kernel)
theorem gm_negm (x : Nat) {b : Nat} (h : b = 0 ∨ b = 1) : nI x &&& -(nI b) = nI (b * x) := by
  rcases h with rfl | rfl
  · have e : -(nI 0) = 0 := by decide +kernel
    rw [e, Nat.zero_mul, nI_0, Int32.and_zero]
  · have e : -(nI 1) = -1 := by decide +kernel
    rw [e, Nat.one_mul, Int32.and_neg_one]
theorem gm_shl {n k : Nat} (hk : k < 32) (h : n * 2 ^ k < 2 ^ 32) : nI n <<< (nI k &&& 31) = nI (n * 2 ^ k) := pk_shlN _ k (s_l k hk) h
theorem gm_shr {n k : Nat} (hk : k < 32) (h : n < 2 ^ 31) : nI n >>> (nI k &&& 31) = nI (n / 2 ^ k) := pk_shrN h _ k (s_l k hk)
theorem gm_ush {n k : Nat} (hk : k < 32) (h : n < 2 ^ 32) : ((nI n).toUInt32 >>> ((nI k).toUInt32 &&& Int32.toUInt32 31)).toInt32 = nI (n / 2 ^ k) := pk_ushrN h _ k (s_u k hk)
theorem gm_xand {n : Nat} (h : n < 256) : n % 256 = n := Nat.mod_eq_of_lt h
/-- one turn of gfMul: its three new locals -/
theorem gm_t_r (r x y : Nat) (hy : y < 2 ^ 32) : nI r ^^^ (nI x &&& -(nI y &&& nI 1)) = nI (r ^^^ (y % 2 * x)) := by
  rw [gm_and1 hy, gm_negm x (gm_b2 y), nx_xor]
theorem gm_t_x {F x : Nat} (hF : gm_ok F) (hx : x < 256) : ((nI x <<< (nI 1 &&& 31)) ^^^ (nI F &&& -(nI (x / 128 % 2)))) &&& nI 255 = nI (gm_xt F x) := by
  rw [gm_shl (by decide) (by omega), gm_negm F (gm_b2 _), nx_xor]
  have h1 := gm_xt_lt hF hx
  have h2 : x * 2 ^ 1 ^^^ x / 128 % 2 * F = gm_xt F x := by
    unfold gm_xt
    rw [Nat.pow_one, Nat.mul_comm]
  rw [h2, gm_and255 (by omega), gm_xand h1]
/-- bytes -/
theorem gm_sb {n : Nat} (h : n < 256) : sb_b n &&& nI 255 = nI n := (sb_byte n h).1
theorem gm_sb_lo : ∀ n, n < 128 → nI n = sb_b n := by decide +kernel
theorem gm_sb_x (a b : Nat) : sb_b a ^^^ sb_b b = sb_b (a ^^^ b) := by
  unfold sb_b
  rw [← Int8.toInt32_xor, ← Int32.toInt8_xor, nx_xor]
theorem gm_sb_c (a : Nat) : (sb_b a).toInt8.toInt32 = sb_b a := by
  unfold sb_b
  simp
theorem gm_sb_0 : nI 0 = sb_b 0 := by decide +kernel
theorem gm_sb_1 : nI 1 = sb_b 1 := by decide +kernel
theorem gm_bit8 (x : Int32) : x.toInt8.toInt32 = sb_b (x.toBitVec.toNat % 256) := by
  unfold sb_b
  congr 1
  apply Int8.toBitVec_inj.mp
  rw [Int32.toBitVec_toInt8, Int32.toBitVec_toInt8]
  apply BitVec.eq_of_getLsbD_eq
  intro i hi
  rw [BitVec.getLsbD_signExtend, BitVec.getLsbD_signExtend, if_pos (by omega), if_pos (by omega)]
  congr 1
  show _ = (BitVec.ofNat 32 (x.toBitVec.toNat % 256)).getLsbD i
  rw [BitVec.getLsbD_ofNat, show 256 = 2 ^ 8 from rfl, Nat.testBit_mod_two_pow]
  have h32 : i < 32 := by omega
  simp [hi, h32, BitVec.getLsbD]
/-- the byte of a word that stands s places up -/
def gm_wb (w : Int32) (s : Nat) : Nat := (w >>> (nI s &&& 31)).toBitVec.toNat % 256
theorem gm_wb_lt (w : Int32) (s : Nat) : gm_wb w s < 256 := Nat.mod_lt _ (by decide)
theorem gm_wb_c (w : Int32) (s : Nat) : (w >>> (nI s &&& 31)).toInt8.toInt32 = sb_b (gm_wb w s) := gm_bit8 _
theorem gm_wb_0 (w : Int32) : w.toInt8.toInt32 = sb_b (gm_wb w 0) := by
  unfold gm_wb
  rw [show w >>> (nI 0 &&& 31) = w from sb_shr0 w]
  exact gm_bit8 _
theorem gm_wb_m (w : Int32) (s : Nat) : (w >>> (nI s &&& 31)) &&& nI 255 = nI (gm_wb w s) := pk_and _ 8 (by decide +kernel)
/-- masks -/
def gm_mk (x : Int32) : Nat := x.toBitVec.toNat % 256
theorem gm_mk_lt (x : Int32) : gm_mk x < 256 := Nat.mod_lt _ (by decide)
theorem gm_mk_c (x : Int32) : x &&& nI 255 = nI (gm_mk x) := pk_and _ 8 (by decide +kernel)
theorem gm_mk_b (x : Int32) {i : Nat} (hi : i < 8) : (x >>> (nI i &&& 31)) &&& nI 1 = nI (gm_mk x / 2 ^ i % 2) := by
  rw [pk_and (x >>> (nI i &&& 31)) (m := nI 1) 1 (by decide +kernel)]
  congr 1
  have h := b_sshr i (by omega) x (i := 0) (by decide)
  rw [if_pos (by omega), Nat.add_zero] at h
  unfold bt at h
  have e0 : (x >>> (nI i &&& 31)).toBitVec.getLsbD 0 = decide ((x >>> (nI i &&& 31)).toBitVec.toNat % 2 = 1) := by
    rw [BitVec.getLsbD, Nat.testBit_zero]
  have e1 : x.toBitVec.getLsbD i = decide (x.toBitVec.toNat / 2 ^ i % 2 = 1) := by
    rw [BitVec.getLsbD, Nat.testBit_eq_decide_div_mod_eq]
  rw [e0, e1, decide_eq_decide] at h
  have hm : gm_mk x / 2 ^ i % 2 = x.toBitVec.toNat / 2 ^ i % 2 := by
    have h1 : (gm_mk x).testBit i = x.toBitVec.toNat.testBit i := by
      unfold gm_mk
      rw [show 256 = 2 ^ 8 from rfl, Nat.testBit_mod_two_pow]
      simp [hi]
    rw [Nat.testBit_eq_decide_div_mod_eq, Nat.testBit_eq_decide_div_mod_eq, decide_eq_decide] at h1
    omega
  rw [hm]
  omega
theorem gm_nb_c {m i : Nat} (hm : m < 256) (hi : i < 8) : (nI m >>> (nI i &&& 31)) &&& nI 1 = nI (m / 2 ^ i % 2) := by
  rw [gm_shr (by omega) (by omega)]
  exact gm_and1 (Nat.lt_of_le_of_lt (Nat.div_le_self _ _) (by omega))
theorem gm_b01 {b : Nat} (h : b = 0 ∨ b = 1) : (nI b = nI 1 ↔ b = 1) := by
  rcases h with rfl | rfl <;> decide +kernel
/-- which reduction a kind tells -/
def gm_fd (k : Int32) : Nat := if k.toBitVec.toNat % 2 = 0 then 283 else 285
theorem gm_fd_ok (k : Int32) : gm_ok (gm_fd k) := by
  unfold gm_fd gm_ok
  split <;> simp
theorem gm_fd_b (k : Int32) : k &&& nI 1 = nI (k.toBitVec.toNat % 2) := pk_and _ 1 (by decide +kernel)
/-- gfPow's test of its exponent -/
theorem gm_ex : ∀ i, i < 8 → (((-2 : Int32) &&& (nI 1 <<< (nI i &&& 31)) = 0) ↔ ¬ 254 / 2 ^ i % 2 = 1) := by decide +kernel
/-- where an answer is asked at -/
def gm_ao (x : Int32) : Nat := x.toBitVec.toNat % 2 ^ 31 % 16
theorem gm_ao_lt (x : Int32) : gm_ao x < 16 := Nat.mod_lt _ (by decide)
theorem gm_ao_c (x : Int32) : (x &&& 2147483647) - (x &&& 2147483647) / nI 16 * nI 16 = nI (gm_ao x) := by
  rw [pk_and x (m := 2147483647) 31 (by decide +kernel)]
  exact pk_rem (Nat.mod_lt _ (by decide)) (by decide) (by decide)
end
section
/-! POLYNOMIAL: the field's operations, read only; its constructor comes with the statics -/
set_option maxRecDepth 100000
abbrev gm_po (po F : Nat) : va_W := [(po, gm_O 4 [.int (nI F)])]
section PL
variable {p : Program} {l : Launch} {e : Env} {R : Room} {s : State} {m : MethodId} {args : Array Value} {below : List Frame} {meth : Method} {c : Code} {H : Heap} {locs : List Loc} {cells slots : Nat} {Q : State → Prop} {D : va_G} {tc : Nat → ClassId}
set_option maxHeartbeats 4000000 in
set_option maxRecDepth 100000 in
/-- gfMul's loop: n turns to go -/
theorem gm_gfMul_l {F po : Nat} (hF : gm_ok F) (hx : p.tables.exec = Jvm.exec) (hb : c.code = cX5_gfMul) (hT : gm_T D tc s) (hP : va_P D vwCl (gm_po po F) H) (hts : ∀ w ∈ lw_all, w.before args s = true) (hown : s.vm.findClass RX5 = some m.cls) :
    ∀ (n i r x y : Nat) (ls : Array Slot), i + n = 8 → x < 256 → y < 256 → lv_has ls 6 [(0, .ref po), (1, .int (nI x)), (2, .int (nI y)), (3, .int (nI r)), (4, .int (nI i))] → (∀ ls : Array Slot, lv_has ls 6 [(3, .int (nI (r ^^^ gm_mn F n x y)))] → W p l e R s m args below meth c H locs cells slots Q (F0 m 56 ls [])) → W p l e R s m args below meth c H locs cells slots Q (F0 m 5 ls []) := by
  intro n
  induction n with
  | zero =>
    intro i r x y ls hi hx0 hy0 hl kk
    have hi : i = 8 := by omega
    subst hi
    refine lv_iload hx hb dX5_gfMul_5 (lv_at hl 4 rfl) ?_
    refine lv_bipush (v := nI 8) hx hb dX5_gfMul_7 (by decide +kernel) ?_
    refine lv_icmp_ge (tgt := 56) hx hb dX5_gfMul_9 (by decide) (fun cz => ?_) (fun cz => absurd ((nI_le (Nat.le_refl 8) (by decide))) cz)
    exact kk ls (by rw [show gm_mn F 0 x y = 0 from rfl, Nat.xor_zero]; exact lv_sub hl [3] rfl)
  | succ n ih =>
    intro i r x y ls hi hx0 hy0 hl kk
    refine lv_iload hx hb dX5_gfMul_5 (lv_at hl 4 rfl) ?_
    refine lv_bipush (v := nI 8) hx hb dX5_gfMul_7 (by decide +kernel) ?_
    refine lv_icmp_ge (tgt := 56) hx hb dX5_gfMul_9 (by decide) (fun cz => absurd cz ((nI_ge (show i < 8 by omega) (by decide)))) (fun cz => ?_)
    refine lv_iload_n hx hb dX5_gfMul_12 rfl (lv_at hl 3 rfl) ?_
    refine lv_iload_n hx hb dX5_gfMul_13 rfl (lv_at hl 1 rfl) ?_
    refine lv_iload_n hx hb dX5_gfMul_14 rfl (lv_at hl 2 rfl) ?_
    refine lv_iconst (v := nI 1) hx hb dX5_gfMul_15 (by decide +kernel) ?_
    refine lv_iand hx hb dX5_gfMul_16 ?_
    refine lv_ineg hx hb dX5_gfMul_17 ?_
    refine lv_iand hx hb dX5_gfMul_18 ?_
    refine lv_ixor hx hb dX5_gfMul_19 ?_
    refine gm_e (y := nI (r ^^^ (y % 2 * x))) (gm_t_r r x y (by omega)) ?_
    refine lv_istore_n (lv' := [(3, .int (nI (r ^^^ (y % 2 * x)))), (0, .ref po), (1, .int (nI x)), (2, .int (nI y)), (4, .int (nI i))]) hx hb dX5_gfMul_20 rfl hl (by decide) rfl (fun ls hl => ?_)
    refine lv_iload_n hx hb dX5_gfMul_21 rfl (lv_at hl 3 rfl) ?_
    refine lv_iconst (v := nI 1) hx hb dX5_gfMul_22 (by decide +kernel) ?_
    refine lv_iushr (v := nI (y / 2)) hx hb dX5_gfMul_23 (gm_ush (k := 1) (by decide) (by omega)) ?_
    refine lv_istore_n (lv' := [(2, .int (nI (y / 2))), (3, .int (nI (r ^^^ (y % 2 * x)))), (0, .ref po), (1, .int (nI x)), (4, .int (nI i))]) hx hb dX5_gfMul_24 rfl hl (by decide) rfl (fun ls hl => ?_)
    refine lv_iload_n hx hb dX5_gfMul_25 rfl (lv_at hl 3 rfl) ?_
    refine lv_bipush (v := nI 7) hx hb dX5_gfMul_26 (by decide +kernel) ?_
    refine lv_iushr (v := nI (x / 128)) hx hb dX5_gfMul_28 (gm_ush (k := 7) (by decide) (by omega)) ?_
    refine lv_iconst (v := nI 1) hx hb dX5_gfMul_29 (by decide +kernel) ?_
    refine lv_iand hx hb dX5_gfMul_30 ?_
    refine gm_e (y := nI (x / 128 % 2)) (gm_and1 (by omega)) ?_
    refine lv_istore (lv' := [(5, .int (nI (x / 128 % 2))), (2, .int (nI (y / 2))), (3, .int (nI (r ^^^ (y % 2 * x)))), (0, .ref po), (1, .int (nI x)), (4, .int (nI i))]) hx hb dX5_gfMul_31 hl (by decide) rfl (fun ls hl => ?_)
    refine lv_iload_n hx hb dX5_gfMul_33 rfl (lv_at hl 4 rfl) ?_
    refine lv_iconst (v := nI 1) hx hb dX5_gfMul_34 (by decide +kernel) ?_
    refine lv_ishl hx hb dX5_gfMul_35 ?_
    refine lv_aload_n hx hb dX5_gfMul_36 rfl (lv_at hl 3 rfl) ?_
    refine va_get (D := D) (ci := 4) (v := .int (nI F)) (C := RX5) (T := TX5) (N := 1) hx hb hts in_X5 hown hT.1 hP 0 rfl rfl 0 (by decide) (hts _ q170) (fun _ h9 => h9) rfl dX5_gfMul_37 ?_
    refine lv_iload hx hb dX5_gfMul_40 (lv_at hl 0 rfl) ?_
    refine lv_ineg hx hb dX5_gfMul_42 ?_
    refine lv_iand hx hb dX5_gfMul_43 ?_
    refine lv_ixor hx hb dX5_gfMul_44 ?_
    refine lv_sipush (v := nI 255) hx hb dX5_gfMul_45 (by decide +kernel) ?_
    refine lv_iand hx hb dX5_gfMul_48 ?_
    refine gm_e (y := nI (gm_xt F x)) (gm_t_x hF hx0) ?_
    refine lv_istore_n (lv' := [(1, .int (nI (gm_xt F x))), (5, .int (nI (x / 128 % 2))), (2, .int (nI (y / 2))), (3, .int (nI (r ^^^ (y % 2 * x)))), (0, .ref po), (4, .int (nI i))]) hx hb dX5_gfMul_49 rfl hl (by decide) rfl (fun ls hl => ?_)
    refine lv_iinc (v := nI (i + 1)) (lv' := [(4, .int (nI (i + 1))), (1, .int (nI (gm_xt F x))), (5, .int (nI (x / 128 % 2))), (2, .int (nI (y / 2))), (3, .int (nI (r ^^^ (y % 2 * x)))), (0, .ref po)]) hx hb dX5_gfMul_50 hl (k := 5) rfl (nI_add i 1) (by decide) rfl (fun ls hl => ?_)
    refine lv_goto (tgt := 5) hx hb dX5_gfMul_53 (by decide) ?_
    refine ih (i + 1) (r ^^^ (y % 2 * x)) (gm_xt F x) (y / 2) ls (by omega) (gm_xt_lt hF hx0) (by omega) (lv_sub hl [5, 1, 3, 4, 0] rfl) (fun ls hl => kk ls ?_)
    have e9 : r ^^^ gm_mn F (n + 1) x y = (r ^^^ (y % 2 * x)) ^^^ gm_mn F n (gm_xt F x) (y / 2) := (Nat.xor_assoc _ _ _).symm
    rw [e9]
    exact hl
end PL
set_option maxHeartbeats 4000000 in
set_option maxRecDepth 100000 in
/-- gfMul: the product -/
theorem met_gfMul (l : Launch) (D : va_G) (tc : Nat → ClassId) (po F x y : Nat) (hF : gm_ok F) (hx0 : x < 256) (hy0 : y < 256) : Met l yX5_gfMul (ws_ yX5_gfMul cX5_gfMul 6 (some .byte)) ({ frames := 0, cells := 0, slots := 0, locals := 0 }) (gm_Pr D tc [.ref po, .int (nI x), .int (nI y)] (gm_po po F)) (vp_Si (fun r => r = sb_b (gm_mul F x y))) 0 0 (fun _ => False) := by
  refine Met.ofW (cc := cX5_gfMul) (maxL := 6) (ret := (some .byte)) (by decide) rfl ?_
  intro p e s m args below meth c s₁ B hml hv
  obtain ⟨rfl, hP, hT⟩ := hv
  have hx := B.exec
  have hb := B.bytes
  have hr := B.returns
  have hts0 := atoms_spec (ws := ws_ yX5_gfMul cX5_gfMul 6 (some .byte)) B.pre
  have hts : ∀ w ∈ lw_all, w.before _ s = true := fun w h => hts0 w (List.mem_cons_of_mem _ h)
  have hown : s.vm.findClass RX5 = some m.cls := findClass_of_methodNamed B.named
  have hlocks := B.notSynchronized
  have hl := lv_entry ([.ref po, .int (nI x), .int (nI y)]) (n := 6) (Nat.le_of_ble_eq_true rfl)
  rw [lg_entry_eq]
  generalize (lg_sl ([.ref po, .int (nI x), .int (nI y)]) ++ List.replicate (6 - (lg_sl ([.ref po, .int (nI x), .int (nI y)])).length) Slot.unset).toArray = ls at hl ⊢
  have hl : lv_has ls 6 [(0, .ref po), (1, .int (nI x)), (2, .int (nI y))] := hl
  refine lv_iconst (v := nI 0) hx hb dX5_gfMul_0 (by decide +kernel) ?_
  refine lv_istore_n (lv' := [(3, .int (nI 0)), (0, .ref po), (1, .int (nI x)), (2, .int (nI y))]) hx hb dX5_gfMul_1 rfl hl (by decide) rfl (fun ls hl => ?_)
  refine lv_iconst (v := nI 0) hx hb dX5_gfMul_2 (by decide +kernel) ?_
  refine lv_istore (lv' := [(4, .int (nI 0)), (3, .int (nI 0)), (0, .ref po), (1, .int (nI x)), (2, .int (nI y))]) hx hb dX5_gfMul_3 hl (by decide) rfl (fun ls hl => ?_)
  refine gm_gfMul_l hF hx hb hT hP hts hown 8 0 0 x y ls rfl hx0 hy0 (lv_sub hl [2, 3, 4, 1, 0] rfl) (fun ls hl => ?_)
  rw [Nat.zero_xor] at hl
  have hl : lv_has ls 6 [(3, .int (nI (gm_mul F x y)))] := hl
  refine lv_iload_n hx hb dX5_gfMul_56 rfl (lv_at hl 0 rfl) ?_
  refine lv_i2b (v := sb_b (gm_mul F x y)) hx hb dX5_gfMul_57 (rfl) ?_
  exact W.zret (v := sb_b (gm_mul F x y)) hx hb hr (pk_nb _) (fun t ht hW => ⟨_, rfl, rfl, ht⟩) (fun q h => nomatch h) dX5_gfMul_58
section PL
variable {p : Program} {l : Launch} {e : Env} {R : Room} {s : State} {m : MethodId} {args : Array Value} {below : List Frame} {meth : Method} {c : Code} {H : Heap} {locs : List Loc} {cells slots : Nat} {Q : State → Prop} {D : va_G} {tc : Nat → ClassId}
set_option maxHeartbeats 4000000 in
set_option maxRecDepth 100000 in
/-- gfPow's loop: k turns to go -/
theorem gm_gfPow_l {F po : Nat} (hF : gm_ok F) (hx : p.tables.exec = Jvm.exec) (hb : c.code = cX5_gfPow) (hml : c.maxLocals = 5) (hT : gm_T D tc s) (hP : va_P D vwCl (gm_po po F) H) (hts : ∀ w ∈ lw_all, w.before args s = true) (hown : s.vm.findClass RX5 = some m.cls)
    (hf9 : 0 + 1 ≤ R.frames) (hl9 : 8 + (6 + 11) + 0 ≤ R.locals) (hc9 : cells + 0 ≤ R.cells) (hs9 : slots + 0 ≤ R.slots) :
    ∀ (k i r n : Nat) (ls : Array Slot), i + k = 8 → r < 256 → n < 256 → lv_has ls 5 [(0, .ref po), (1, .int (sb_b n)), (2, .int (-2)), (3, .int (sb_b r)), (4, .int (nI i))] → (∀ ls : Array Slot, lv_has ls 5 [(3, .int (sb_b (gm_pw F k (254 / 2 ^ i) r n)))] → W p l e R s m args below meth c H locs cells slots Q (F0 m 57 ls [])) → W p l e R s m args below meth c H locs cells slots Q (F0 m 5 ls []) := by
  intro k
  induction k with
  | zero =>
    intro i r n ls hi hr0 hn0 hl kk
    have hi : i = 8 := by omega
    subst hi
    refine lv_iload hx hb dX5_gfPow_5 (lv_at hl 4 rfl) ?_
    refine lv_bipush (v := nI 8) hx hb dX5_gfPow_7 (by decide +kernel) ?_
    refine lv_icmp_ge (tgt := 57) hx hb dX5_gfPow_9 (by decide) (fun cz => ?_) (fun cz => absurd ((nI_le (Nat.le_refl 8) (by decide))) cz)
    exact kk ls (lv_sub hl [3] rfl)
  | succ k ih =>
    intro i r n ls hi hr0 hn0 hl kk
    refine lv_iload hx hb dX5_gfPow_5 (lv_at hl 4 rfl) ?_
    refine lv_bipush (v := nI 8) hx hb dX5_gfPow_7 (by decide +kernel) ?_
    refine lv_icmp_ge (tgt := 57) hx hb dX5_gfPow_9 (by decide) (fun cz => absurd cz ((nI_ge (show i < 8 by omega) (by decide)))) (fun cz => ?_)
    have hd9 : 254 / 2 ^ (i + 1) = 254 / 2 ^ i / 2 := by rw [Nat.pow_succ, Nat.div_div_eq_div_mul]
    refine lv_iload_n hx hb dX5_gfPow_12 rfl (lv_at hl 2 rfl) ?_
    refine lv_iconst (v := nI 1) hx hb dX5_gfPow_13 (by decide +kernel) ?_
    refine lv_iload hx hb dX5_gfPow_14 (lv_at hl 4 rfl) ?_
    refine lv_ishl hx hb dX5_gfPow_16 ?_
    refine lv_iand hx hb dX5_gfPow_17 ?_
    refine lv_if_eq (tgt := 36) hx hb dX5_gfPow_18 (by decide) (fun cz => ?_) (fun cz => ?_)
    · have cb := (gm_ex i (by omega)).mp cz
      refine lv_aload_n hx hb dX5_gfPow_36 rfl (lv_at hl 0 rfl) ?_
      refine lv_iload_n hx hb dX5_gfPow_37 rfl (lv_at hl 1 rfl) ?_
      refine lv_sipush (v := nI 255) hx hb dX5_gfPow_38 (by decide +kernel) ?_
      refine lv_iand hx hb dX5_gfPow_41 ?_
      refine gm_e (y := nI n) (gm_sb hn0) ?_
      refine lv_iload_n hx hb dX5_gfPow_42 rfl (lv_at hl 1 rfl) ?_
      refine lv_sipush (v := nI 255) hx hb dX5_gfPow_43 (by decide +kernel) ?_
      refine lv_iand hx hb dX5_gfPow_46 ?_
      refine gm_e (y := nI n) (gm_sb hn0) ?_
      refine vp_callSi (W.runV (As := [.int (nI n), .int (nI n)]) (rest := []) ⟨hx, hb, hml, hown, hts⟩ (met_gfMul l D tc po F n n hF hn0 hn0) (cwV 2 hts (lw_V q205 q206 q207 q11 q208) rfl rfl rfl (by decide +kernel) ⟨hf9, hl9⟩) (gm_V (gm_preR hP hT) (gm_recv hP hT (ci := 4) rfl 0 rfl)) rfl rfl hl.1 rfl (lv_room (Nat.le_of_ble_eq_true rfl)) dX5_gfPow_47 ⟨hc9, hs9⟩) (fun r9 e9 => ?_)
      subst e9
      refine lv_istore_n (lv' := [(1, .int (sb_b (gm_mul F n n))), (0, .ref po), (2, .int (-2)), (3, .int (sb_b r)), (4, .int (nI i))]) hx hb dX5_gfPow_50 rfl hl (by decide) rfl (fun ls hl => ?_)
      refine lv_iinc (v := nI (i + 1)) (lv' := [(4, .int (nI (i + 1))), (1, .int (sb_b (gm_mul F n n))), (0, .ref po), (2, .int (-2)), (3, .int (sb_b r))]) hx hb dX5_gfPow_51 hl (k := 4) rfl (nI_add i 1) (by decide) rfl (fun ls hl => ?_)
      refine lv_goto (tgt := 5) hx hb dX5_gfPow_54 (by decide) ?_
      refine ih (i + 1) r (gm_mul F n n) ls (by omega) hr0 (gm_mul_lt hF _ hn0) (lv_sub hl [2, 1, 3, 4, 0] rfl) (fun ls hl => kk ls ?_)
      have e9 : gm_pw F (k + 1) (254 / 2 ^ i) r n = gm_pw F k (254 / 2 ^ (i + 1)) r (gm_mul F n n) := by rw [hd9]; show gm_pw F k _ (if _ then _ else _) _ = _; rw [if_neg cb]
      rw [e9]
      exact hl
    · have cb : 254 / 2 ^ i % 2 = 1 := Decidable.byContradiction fun q => cz ((gm_ex i (by omega)).mpr q)
      refine lv_aload_n hx hb dX5_gfPow_21 rfl (lv_at hl 0 rfl) ?_
      refine lv_iload_n hx hb dX5_gfPow_22 rfl (lv_at hl 3 rfl) ?_
      refine lv_sipush (v := nI 255) hx hb dX5_gfPow_23 (by decide +kernel) ?_
      refine lv_iand hx hb dX5_gfPow_26 ?_
      refine gm_e (y := nI r) (gm_sb hr0) ?_
      refine lv_iload_n hx hb dX5_gfPow_27 rfl (lv_at hl 1 rfl) ?_
      refine lv_sipush (v := nI 255) hx hb dX5_gfPow_28 (by decide +kernel) ?_
      refine lv_iand hx hb dX5_gfPow_31 ?_
      refine gm_e (y := nI n) (gm_sb hn0) ?_
      refine vp_callSi (W.runV (As := [.int (nI r), .int (nI n)]) (rest := []) ⟨hx, hb, hml, hown, hts⟩ (met_gfMul l D tc po F r n hF hr0 hn0) (cwV 2 hts (lw_V q205 q206 q207 q11 q208) rfl rfl rfl (by decide +kernel) ⟨hf9, hl9⟩) (gm_V (gm_preR hP hT) (gm_recv hP hT (ci := 4) rfl 0 rfl)) rfl rfl hl.1 rfl (lv_room (Nat.le_of_ble_eq_true rfl)) dX5_gfPow_32 ⟨hc9, hs9⟩) (fun r9 e9 => ?_)
      subst e9
      refine lv_istore_n (lv' := [(3, .int (sb_b (gm_mul F r n))), (0, .ref po), (1, .int (sb_b n)), (2, .int (-2)), (4, .int (nI i))]) hx hb dX5_gfPow_35 rfl hl (by decide) rfl (fun ls hl => ?_)
      refine lv_aload_n hx hb dX5_gfPow_36 rfl (lv_at hl 1 rfl) ?_
      refine lv_iload_n hx hb dX5_gfPow_37 rfl (lv_at hl 2 rfl) ?_
      refine lv_sipush (v := nI 255) hx hb dX5_gfPow_38 (by decide +kernel) ?_
      refine lv_iand hx hb dX5_gfPow_41 ?_
      refine gm_e (y := nI n) (gm_sb hn0) ?_
      refine lv_iload_n hx hb dX5_gfPow_42 rfl (lv_at hl 2 rfl) ?_
      refine lv_sipush (v := nI 255) hx hb dX5_gfPow_43 (by decide +kernel) ?_
      refine lv_iand hx hb dX5_gfPow_46 ?_
      refine gm_e (y := nI n) (gm_sb hn0) ?_
      refine vp_callSi (W.runV (As := [.int (nI n), .int (nI n)]) (rest := []) ⟨hx, hb, hml, hown, hts⟩ (met_gfMul l D tc po F n n hF hn0 hn0) (cwV 2 hts (lw_V q205 q206 q207 q11 q208) rfl rfl rfl (by decide +kernel) ⟨hf9, hl9⟩) (gm_V (gm_preR hP hT) (gm_recv hP hT (ci := 4) rfl 0 rfl)) rfl rfl hl.1 rfl (lv_room (Nat.le_of_ble_eq_true rfl)) dX5_gfPow_47 ⟨hc9, hs9⟩) (fun r9 e9 => ?_)
      subst e9
      refine lv_istore_n (lv' := [(1, .int (sb_b (gm_mul F n n))), (3, .int (sb_b (gm_mul F r n))), (0, .ref po), (2, .int (-2)), (4, .int (nI i))]) hx hb dX5_gfPow_50 rfl hl (by decide) rfl (fun ls hl => ?_)
      refine lv_iinc (v := nI (i + 1)) (lv' := [(4, .int (nI (i + 1))), (1, .int (sb_b (gm_mul F n n))), (3, .int (sb_b (gm_mul F r n))), (0, .ref po), (2, .int (-2))]) hx hb dX5_gfPow_51 hl (k := 4) rfl (nI_add i 1) (by decide) rfl (fun ls hl => ?_)
      refine lv_goto (tgt := 5) hx hb dX5_gfPow_54 (by decide) ?_
      refine ih (i + 1) (gm_mul F r n) (gm_mul F n n) ls (by omega) (gm_mul_lt hF _ hr0) (gm_mul_lt hF _ hn0) (lv_sub hl [3, 1, 4, 2, 0] rfl) (fun ls hl => kk ls ?_)
      have e9 : gm_pw F (k + 1) (254 / 2 ^ i) r n = gm_pw F k (254 / 2 ^ (i + 1)) (gm_mul F r n) (gm_mul F n n) := by rw [hd9]; show gm_pw F k _ (if _ then _ else _) _ = _; rw [if_pos cb]
      rw [e9]
      exact hl
end PL
set_option maxHeartbeats 4000000 in
set_option maxRecDepth 100000 in
/-- gfPow, by 254: the inverse -/
theorem met_gfPow (l : Launch) (D : va_G) (tc : Nat → ClassId) (po F n : Nat) (hF : gm_ok F) (hn0 : n < 16) : Met l yX5_gfPow (ws_ yX5_gfPow cX5_gfPow 5 (some .byte)) ({ frames := 1, cells := 0, slots := 0, locals := 25 }) (gm_Pr D tc [.ref po, .int (nI n), .int (-2)] (gm_po po F)) (vp_Si (fun r => r = sb_b (gm_iv F n))) 0 0 (fun _ => False) := by
  refine Met.ofW (cc := cX5_gfPow) (maxL := 5) (ret := (some .byte)) (by decide) rfl ?_
  intro p e s m args below meth c s₁ B hml hv
  obtain ⟨rfl, hP, hT⟩ := hv
  have hx := B.exec
  have hb := B.bytes
  have hr := B.returns
  have hts0 := atoms_spec (ws := ws_ yX5_gfPow cX5_gfPow 5 (some .byte)) B.pre
  have hts : ∀ w ∈ lw_all, w.before _ s = true := fun w h => hts0 w (List.mem_cons_of_mem _ h)
  have hown : s.vm.findClass RX5 = some m.cls := findClass_of_methodNamed B.named
  have hlocks := B.notSynchronized
  have hl := lv_entry ([.ref po, .int (nI n), .int (-2)]) (n := 5) (Nat.le_of_ble_eq_true rfl)
  rw [lg_entry_eq]
  generalize (lg_sl ([.ref po, .int (nI n), .int (-2)]) ++ List.replicate (5 - (lg_sl ([.ref po, .int (nI n), .int (-2)])).length) Slot.unset).toArray = ls at hl ⊢
  have hl : lv_has ls 5 [(0, .ref po), (1, .int (nI n)), (2, .int (-2))] := hl
  rw [gm_sb_lo n (by omega)] at hl
  refine lv_iconst (v := nI 1) hx hb dX5_gfPow_0 (by decide +kernel) ?_
  refine gm_e (y := sb_b 1) (gm_sb_1) ?_
  refine lv_istore_n (lv' := [(3, .int (sb_b 1)), (0, .ref po), (1, .int (sb_b n)), (2, .int (-2))]) hx hb dX5_gfPow_1 rfl hl (by decide) rfl (fun ls hl => ?_)
  refine lv_iconst (v := nI 0) hx hb dX5_gfPow_2 (by decide +kernel) ?_
  refine lv_istore (lv' := [(4, .int (nI 0)), (3, .int (sb_b 1)), (0, .ref po), (1, .int (sb_b n)), (2, .int (-2))]) hx hb dX5_gfPow_3 hl (by decide) rfl (fun ls hl => ?_)
  refine gm_gfPow_l hF hx hb hml hT hP hts hown (Nat.le_of_ble_eq_true rfl) (Nat.le_of_ble_eq_true rfl) (Nat.zero_le _) (Nat.zero_le _) 8 0 1 n ls rfl (by decide) (by omega) (lv_sub hl [2, 3, 4, 1, 0] rfl) (fun ls hl => ?_)
  have e9 : gm_pw F 8 (254 / 2 ^ 0) 1 n = gm_iv F n := gm_pw_iv hF hn0
  rw [e9] at hl
  refine lv_iload_n hx hb dX5_gfPow_57 rfl (lv_at hl 0 rfl) ?_
  refine lv_i2b (v := sb_b (gm_iv F n)) hx hb dX5_gfPow_58 (gm_sb_c _) ?_
  exact W.zret (v := sb_b (gm_iv F n)) hx hb hr (pk_nb _) (fun t ht hW => ⟨_, rfl, rfl, ht⟩) (fun q h => nomatch h) dX5_gfPow_59
set_option maxHeartbeats 4000000 in
set_option maxRecDepth 100000 in
/-- gfDiv, by 0 .. 15 -/
theorem met_gfDiv (l : Launch) (D : va_G) (tc : Nat → ClassId) (po F x y : Nat) (hF : gm_ok F) (hx0 : x < 256) (hy0 : y < 16) : Met l yX5_gfDiv (ws_ yX5_gfDiv cX5_gfDiv 3 (some .byte)) ({ frames := 2, cells := 0, slots := 0, locals := 50 }) (gm_Pr D tc [.ref po, .int (nI x), .int (nI y)] (gm_po po F)) (vp_Si (fun r => r = sb_b (gm_mul F x (gm_iv F y)))) 0 0 (fun _ => False) := by
  refine Met.ofW (cc := cX5_gfDiv) (maxL := 3) (ret := (some .byte)) (by decide) rfl ?_
  intro p e s m args below meth c s₁ B hml hv
  obtain ⟨rfl, hP, hT⟩ := hv
  have hx := B.exec
  have hb := B.bytes
  have hr := B.returns
  have hts0 := atoms_spec (ws := ws_ yX5_gfDiv cX5_gfDiv 3 (some .byte)) B.pre
  have hts : ∀ w ∈ lw_all, w.before _ s = true := fun w h => hts0 w (List.mem_cons_of_mem _ h)
  have hown : s.vm.findClass RX5 = some m.cls := findClass_of_methodNamed B.named
  have hlocks := B.notSynchronized
  have hl := lv_entry ([.ref po, .int (nI x), .int (nI y)]) (n := 3) (Nat.le_of_ble_eq_true rfl)
  rw [lg_entry_eq]
  generalize (lg_sl ([.ref po, .int (nI x), .int (nI y)]) ++ List.replicate (3 - (lg_sl ([.ref po, .int (nI x), .int (nI y)])).length) Slot.unset).toArray = ls at hl ⊢
  have hl : lv_has ls 3 [(0, .ref po), (1, .int (nI x)), (2, .int (nI y))] := hl
  refine lv_aload_n hx hb dX5_gfDiv_0 rfl (lv_at hl 0 rfl) ?_
  refine lv_iload_n hx hb dX5_gfDiv_1 rfl (lv_at hl 1 rfl) ?_
  refine lv_aload_n hx hb dX5_gfDiv_2 rfl (lv_at hl 0 rfl) ?_
  refine lv_iload_n hx hb dX5_gfDiv_3 rfl (lv_at hl 2 rfl) ?_
  refine lv_bipush (v := -2) hx hb dX5_gfDiv_4 (by decide +kernel) ?_
  refine vp_callSi (W.runV (As := [.int (nI y), .int (-2)]) (rest := [.int (nI x), .ref po]) ⟨hx, hb, hml, hown, hts⟩ (met_gfPow l D tc po F y hF hy0) (cwV 2 hts (lw_V q201 q202 q203 q11 q204) rfl rfl rfl (by decide +kernel) ⟨Nat.le_of_ble_eq_true rfl, Nat.le_of_ble_eq_true rfl⟩) (gm_V (gm_preR hP hT) (gm_recv hP hT (ci := 4) rfl 0 rfl)) rfl rfl hl.1 rfl (lv_room (Nat.le_of_ble_eq_true rfl)) dX5_gfDiv_6 ⟨Nat.zero_le _, Nat.zero_le _⟩) (fun r9 e9 => ?_)
  subst e9
  refine lv_sipush (v := nI 255) hx hb dX5_gfDiv_9 (by decide +kernel) ?_
  refine lv_iand hx hb dX5_gfDiv_12 ?_
  refine gm_e (y := nI (gm_iv F y)) (gm_sb (gm_iv_lt F y)) ?_
  have hf9 : 0 + 1 ≤ (headSpec (ws_ yX5_gfDiv cX5_gfDiv 3 (some .byte)) ({ frames := 2, cells := 0, slots := 0, locals := 50 })).room.frames := Nat.le_of_ble_eq_true rfl
  have hl9 : 8 + (6 + 11) + 0 ≤ (headSpec (ws_ yX5_gfDiv cX5_gfDiv 3 (some .byte)) ({ frames := 2, cells := 0, slots := 0, locals := 50 })).room.locals := Nat.le_of_ble_eq_true rfl
  have hc9 : 0 + 0 ≤ (headSpec (ws_ yX5_gfDiv cX5_gfDiv 3 (some .byte)) ({ frames := 2, cells := 0, slots := 0, locals := 50 })).room.cells := Nat.zero_le _
  have hs9 : 0 + 0 ≤ (headSpec (ws_ yX5_gfDiv cX5_gfDiv 3 (some .byte)) ({ frames := 2, cells := 0, slots := 0, locals := 50 })).room.slots := Nat.zero_le _
  refine vp_callSi (W.runV (As := [.int (nI x), .int (nI (gm_iv F y))]) (rest := []) ⟨hx, hb, hml, hown, hts⟩ (met_gfMul l D tc po F x (gm_iv F y) hF hx0 (gm_iv_lt F y)) (cwV 2 hts (lw_V q205 q206 q207 q11 q208) rfl rfl rfl (by decide +kernel) ⟨hf9, hl9⟩) (gm_V (gm_preR hP hT) (gm_recv hP hT (ci := 4) rfl 0 rfl)) rfl rfl hl.1 rfl (lv_room (Nat.le_of_ble_eq_true rfl)) dX5_gfDiv_13 ⟨hc9, hs9⟩) (fun r9 e9 => ?_)
  subst e9
  exact W.zret (v := sb_b (gm_mul F x (gm_iv F y))) hx hb hr (pk_nb _) (fun t ht hW => ⟨_, rfl, rfl, ht⟩) (fun q h => nomatch h) dX5_gfDiv_16
end
section
/-! SMALL METHODS: statics, clone, shares, constructors, bitCount -/
set_option maxRecDepth 100000
abbrev gm_En (ad : Nat → Nat) (A : Nat → Prop) (U : State) (H : Heap) : Prop := va_En "ShamirSecretSplitter$Algorithm" "LShamirSecretSplitter$Algorithm;" ["AES", "RSA"] [("java/lang/Enum", "ordinal", "I", [0, 1])] ad A U H
abbrev gm_Em (ad : Nat → Nat) (A : Nat → Prop) (U : State) (H : Heap) : Prop := va_En "ShamirSecretSplitter$Mode" "LShamirSecretSplitter$Mode;" ["Native", "Table"] [] ad A U H
/-- the statics: the constants, the switch's table -/
def gm_Z (ad md : Nat → Nat) (tS : Nat) (A : Nat → Prop) (U : State) (H : Heap) : Prop := gm_En ad A U H ∧ gm_Em md A U H ∧ va_Z "Polynomial$1" "$SwitchMap$ShamirSecretSplitter$Algorithm" "[I" (.ref tS) A U H ∧ va_T .int tS 2 (fun j => .int (nI (j + 1))) A U H
theorem gm_Z.moved {ad md : Nat → Nat} {tS : Nat} {A : Nat → Prop} {u U : State} {H : Heap} (hvm : u.vm.Alike U.vm) (h : gm_Z ad md tS A u H) : gm_Z ad md tS A U H := ⟨va_En.moved hvm h.1, va_En.moved hvm h.2.1, va_Z.moved hvm h.2.2.1, va_T.moved hvm h.2.2.2⟩
theorem gm_Z.kept {ad md : Nat → Nat} {tS : Nat} {A : Nat → Prop} {U : State} {H H1 : Heap} (h : gm_Z ad md tS A U H) (hq : ∀ a : Nat, a < H.size → ¬ A a → H1[a]? = H[a]?) : gm_Z ad md tS A U H1 := ⟨va_En.kept h.1 hq, va_En.kept h.2.1 hq, va_Z.kept h.2.2.1 hq, va_T.kept h.2.2.2 hq⟩
theorem gm_Z.narrow {ad md : Nat → Nat} {tS : Nat} {A A' : Nat → Prop} {U : State} {H : Heap} (h : gm_Z ad md tS A U H) (hAB : ∀ q, A' q → A q) : gm_Z ad md tS A' U H := ⟨va_En.narrow h.1 hAB, va_En.narrow h.2.1 hAB, va_Z.narrow h.2.2.1 hAB, va_T.narrow h.2.2.2 hAB⟩
/-- .. as a callee's start has them -/
abbrev gm_Zp (ad md : Nat → Nat) (tS : Nat) (wc : va_W) (sz : Nat) : State → Prop := fun U => gm_Z ad md tS (va_A wc sz) U U.heap
theorem gm_Zp_b {ad md : Nat → Nat} {tS : Nat} {wc : va_W} {sz : Nat} : ∀ (a : Array Value) (U : State) (g : JFrame) (mk : MethodId), gm_Zp ad md tS wc sz U → gm_Zp ad md tS wc sz (U.calling g mk a) := fun _ U g mk h => gm_Z.moved (u := U) (Vm.Alike.refl U.vm) h
theorem gm_Zp_of {s : State} {ad md : Nat → Nat} {tS : Nat} {A : Nat → Prop} {H : Heap} {locs : List Loc} {wr wc : va_W} (hZ : gm_Z ad md tS A s s.heap) (hD : va_D A (wr ++ wc)) (hS : va_S A s.heap H locs) (hA : ∀ q, s.heap.size ≤ q → A q) : ∀ U : State, U.heap = H → s.vm.Alike U.vm → gm_Zp ad md tS wc H.size U := fun U hU hv => by
  show gm_Z ad md tS (va_A wc H.size) U U.heap
  rw [hU]
  exact gm_Z.moved hv ((hZ.kept hS.2.1).narrow (gm_free hD hS hA))
/-- a start of a method that reads, and makes cells -/
def gm_Pq (D : va_G) (tc : Nat → ClassId) (av : List Value) (sz : Nat) (ws : va_W) : Array Value → State → Prop := va_Pc av (fun U => U.heap.size = sz ∧ va_P D vwCl ws U.heap ∧ gm_T D tc U)
theorem gm_Pq_b {D : va_G} {tc : Nat → ClassId} {av : List Value} {sz : Nat} {ws : va_W} : FrameBlind (gm_Pq D tc av sz ws) := by
  intro a U g mk q
  obtain ⟨q0, q1, qP, qT⟩ := q
  exact ⟨q0, q1, qP, gm_T.moved (u := U) (U := U.calling g mk a) (Vm.Alike.refl U.vm) qT⟩
theorem gm_preQ {s : State} {D : va_G} {tc : Nat → ClassId} {av : List Value} {ws : va_W} {H : Heap} (hP : va_P D vwCl ws H) (hT : gm_T D tc s) : PreS s H (gm_Pq D tc av H.size ws) av :=
  ⟨gm_Pq_b, fun U hU hW => ⟨rfl, by rw [hU], by rw [hU]; exact hP, gm_T.moved hW.alike hT⟩⟩
theorem gm_D1 {A : Nat → Prop} {q : Nat × va_E} (h : A q.1) : va_D A [q] := by
  rw [gm_Dm]
  refine ⟨by simp, fun x hx => ?_⟩
  rw [List.mem_singleton.mp hx]
  exact h
def gm_fi (i : Nat) : Nat := if i = 0 then 283 else 285
theorem gm_fi_ok (i : Nat) : gm_ok (gm_fi i) := by
  unfold gm_fi gm_ok
  split <;> simp
theorem gm_or (i : Nat) (hi : i < 2) : ([0, 1] : List Int32).getD i 0 = nI i := by
  rcases (show i = 0 ∨ i = 1 by omega) with rfl | rfl <;> decide +kernel
set_option maxHeartbeats 4000000 in
set_option maxRecDepth 100000 in
/-- the number of a constant -/
theorem met_ordinal (l : Launch) (D : va_G) (tc : Nat → ClassId) (ad : Nat → Nat) (i : Nat) (hi : i < 2) : Met l yJ1_ordinal (ws_ yJ1_ordinal cJ1_ordinal 1 (some .int)) ({ frames := 0, cells := 0, slots := 0, locals := 0 }) (va_Pc [.ref (ad i)] (fun U => gm_En ad (fun q => U.heap.size ≤ q) U U.heap)) (vp_Si (fun r => r = nI i)) 0 0 (fun _ => False) := by
  refine Met.ofW (cc := cJ1_ordinal) (maxL := 1) (ret := (some .int)) (by decide) rfl ?_
  intro p e s m args below meth c s₁ B hml hv
  obtain ⟨rfl, hE⟩ := hv
  have hx := B.exec
  have hb := B.bytes
  have hr := B.returns
  have hts0 := atoms_spec (ws := ws_ yJ1_ordinal cJ1_ordinal 1 (some .int)) B.pre
  have hts : ∀ w ∈ lw_all, w.before _ s = true := fun w h => hts0 w (List.mem_cons_of_mem _ h)
  have hown : s.vm.findClass RJ1 = some m.cls := findClass_of_methodNamed B.named
  have hlocks := B.notSynchronized
  have hl := lv_entry ([.ref (ad i)]) (n := 1) (Nat.le_of_ble_eq_true rfl)
  rw [lg_entry_eq]
  generalize (lg_sl ([.ref (ad i)]) ++ List.replicate (1 - (lg_sl ([.ref (ad i)])).length) Slot.unset).toArray = ls at hl ⊢
  have hl : lv_has ls 1 [(0, .ref (ad i))] := hl
  refine lv_aload_n hx hb dJ1_ordinal_0 rfl (lv_at hl 0 rfl) ?_
  refine va_getE (q := ("java/lang/Enum", "ordinal", "I", [0, 1])) hx hb hE hi va_S.rf hown List.mem_cons_self (hts _ q256) (fun _ h9 => h9) dJ1_ordinal_1 ?_
  refine gm_e (y := nI i) (gm_or i hi) ?_
  exact W.iret (v := nI i) hx hb hr (fun t ht hW => ⟨_, rfl, rfl, ht⟩) (fun q h => nomatch h) dJ1_ordinal_4
set_option maxHeartbeats 4000000 in
set_option maxRecDepth 100000 in
/-- Polynomial(algorithm): its reduction -/
theorem met_Pinit (l : Launch) (D : va_G) (tc : Nat → ClassId) (h sz i : Nat) (ad md : Nat → Nat) (tS : Nat) (hi : i < 2) : Met l yX5_init (ws_ yX5_init cX5_init 2 none) ({ frames := 1, cells := 0, slots := 0, locals := 40 }) (gm_Pc D tc [.ref h, .ref (ad i)] sz [(h, gm_O 4 [.int 0])] (gm_Zp ad md tS [(h, gm_O 4 [.int 0])] sz)) (va_Qv (fun _ : Unit => True) (gm_Bw D [(h, gm_O 4 [.int 0])] sz (fun u => gm_po h (gm_fi i))) (va_A [(h, gm_O 4 [.int 0])] sz)) 0 0 (va_A [(h, gm_O 4 [.int 0])] sz) := by
  refine Met.ofW (cc := cX5_init) (maxL := 2) (ret := none) (by decide) rfl ?_
  intro p e s m args below meth c s₁ B hml hv
  obtain ⟨rfl, hsz, hP, hT, hD0, hZ⟩ := hv
  have hx := B.exec
  have hb := B.bytes
  have hr := B.returns
  have hts0 := atoms_spec (ws := ws_ yX5_init cX5_init 2 none) B.pre
  have hts : ∀ w ∈ lw_all, w.before _ s = true := fun w h => hts0 w (List.mem_cons_of_mem _ h)
  have hown : s.vm.findClass RX5 = some m.cls := findClass_of_methodNamed B.named
  have hlocks := B.notSynchronized
  have hin : meth.name = "<init>" := (name_of_methodNamed B.named B.method).1
  have hl := lv_entry ([.ref h, .ref (ad i)]) (n := 2) (Nat.le_of_ble_eq_true rfl)
  rw [lg_entry_eq]
  generalize (lg_sl ([.ref h, .ref (ad i)]) ++ List.replicate (2 - (lg_sl ([.ref h, .ref (ad i)])).length) Slot.unset).toArray = ls at hl ⊢
  have hl : lv_has ls 2 [(0, .ref h), (1, .ref (ad i))] := hl
  subst hsz
  have hD := hD0.self (sz := s.heap.size)
  have hA : ∀ q : Nat, s.heap.size ≤ q → va_A [(h, gm_O 4 [.int 0])] s.heap.size q := fun q h => Or.inr h
  have hS : va_S (va_A [(h, gm_O 4 [.int 0])] s.heap.size) s.heap s.heap [] := va_S.rf
  have hZ : gm_Z ad md tS (va_A [(h, gm_O 4 [.int 0])] s.heap.size) s s.heap := hZ
  refine lv_aload_n hx hb dX5_init_0 rfl (lv_at hl 0 rfl) ?_
  refine W.objInit hx hb hown (hts _ q96) (hts _ q23) (hts _ q24) rfl (by rw [hml]; exact hl.1) rfl dX5_init_1 (Nat.le_of_ble_eq_true rfl) (Nat.le_of_ble_eq_true rfl) ?_
  refine W.eq (g2 := F0 m 4 ls []) rfl ?_
  refine va_gets hx hb hZ.2.2.1 hS hown (hts _ q97) (fun _ h9 => h9) dX5_init_4 ?_
  refine lv_aload_n hx hb dX5_init_7 rfl (lv_at hl 1 rfl) ?_
  refine vp_callSi (va_Run.run (va_runU (x := ⟨"ShamirSecretSplitter$Algorithm", "ordinal", "()I"⟩) (owner := "java/lang/Enum") (As := []) (rest := [.ref tS]) ⟨hx, hb, hml, hown, hts⟩ (met_ordinal l D tc ad i hi) (va_cwU 0 hts (lw_app (lw_in _ [99, 100, 102, 103, 8] (by decide +kernel) (by decide +kernel)) (lw_meth q104)) rfl rfl rfl rfl (by decide +kernel) ⟨Nat.le_of_ble_eq_true rfl, Nat.le_of_ble_eq_true rfl⟩) ⟨fun a U g mk q => ⟨q.1, va_En.moved (u := U) (Vm.Alike.refl U.vm) q.2⟩, va_recvE hZ.1 hi hS, fun U hU hW => ⟨rfl, by show gm_En ad (fun q => U.heap.size ≤ q) U U.heap; rw [hU]; exact va_En.moved hW.alike ((hZ.1.kept hS.2.1).narrow (fun q h => hA q (Nat.le_trans hS.1 h)))⟩⟩ rfl rfl hl.1 rfl (lv_room (Nat.le_of_ble_eq_true rfl)) dX5_init_8 ⟨Nat.le_of_ble_eq_true rfl, Nat.le_of_ble_eq_true rfl⟩)) (fun r9 e9 => ?_)
  subst e9
  refine va_ti hx hb hZ.2.2.2 hS (vp_in_nI hi (by decide)) (v := .int (nI (i + 1))) (by rw [nI_clamp (by omega)]) dX5_init_11 ?_
  rcases (show i = 0 ∨ i = 1 by omega) with rfl | rfl
  · refine lv_lookup (off := 28) (tgt := 40) hx hb dX5_init_12 (by decide +kernel) (by decide +kernel) (by decide) ?_
    refine lv_aload_n hx hb dX5_init_40 rfl (lv_at hl 0 rfl) ?_
    refine lv_sipush (v := nI 283) hx hb dX5_init_41 (by decide +kernel) ?_
    refine va_putF (D := D) (ci := 4) (v := .int (nI 283)) (ty := .int) (C := RX5) (T := TX5) (N := 1) hx hb hts in_X5 tyX5 tyX5_ok nmX5 hown hT.1 hP hD hS 0 rfl rfl 0 (by decide) (hts _ q170) (fun _ h9 => h9) rfl hin rfl (by decide +kernel) rfl rfl (Nat.le_of_ble_eq_true rfl) dX5_init_44 (fun H locs hP hD hS => ?_)
    have hP : va_P D vwCl [(h, gm_O 4 [.int (nI 283)])] H := hP
    have hD : va_D (va_A [(h, gm_O 4 [.int 0])] s.heap.size) [(h, gm_O 4 [.int (nI 283)])] := hD
    refine lv_goto (tgt := 70) hx hb dX5_init_47 (by decide) ?_
    exact W.vret hx hb hr (fun t ht hW => ⟨⟨(), rfl, trivial, by rw [ht]; exact hP, hD⟩, hS.F ht⟩) hS.2.2 dX5_init_70
  · refine lv_lookup (off := 38) (tgt := 50) hx hb dX5_init_12 (by decide +kernel) (by decide +kernel) (by decide) ?_
    refine lv_aload_n hx hb dX5_init_50 rfl (lv_at hl 0 rfl) ?_
    refine lv_sipush (v := nI 285) hx hb dX5_init_51 (by decide +kernel) ?_
    refine va_putF (D := D) (ci := 4) (v := .int (nI 285)) (ty := .int) (C := RX5) (T := TX5) (N := 1) hx hb hts in_X5 tyX5 tyX5_ok nmX5 hown hT.1 hP hD hS 0 rfl rfl 0 (by decide) (hts _ q170) (fun _ h9 => h9) rfl hin rfl (by decide +kernel) rfl rfl (Nat.le_of_ble_eq_true rfl) dX5_init_54 (fun H locs hP hD hS => ?_)
    have hP : va_P D vwCl [(h, gm_O 4 [.int (nI 285)])] H := hP
    have hD : va_D (va_A [(h, gm_O 4 [.int 0])] s.heap.size) [(h, gm_O 4 [.int (nI 285)])] := hD
    refine lv_goto (tgt := 70) hx hb dX5_init_57 (by decide) ?_
    exact W.vret hx hb hr (fun t ht hW => ⟨⟨(), rfl, trivial, by rw [ht]; exact hP, hD⟩, hS.F ht⟩) hS.2.2 dX5_init_70
set_option maxHeartbeats 4000000 in
set_option maxRecDepth 100000 in
/-- a copy; nothing old is written -/
theorem met_clone (l : Launch) (D : va_G) (tc : Nat → ClassId) (a sz : Nat) (Y : Nat → Nat) : Met l yX3_clone (ws_ yX3_clone cX3_clone 1 (some (.array .byte))) ({ frames := 1, cells := 1, slots := 16, locals := 14 }) (gm_Pq D tc [.ref a] sz [(a, gm_B tc 16 Y)]) (va_Qr (fun _ : Unit => True) (gm_Br D [] sz (fun _ q => [(q, gm_B tc 16 Y)])) (va_A [] sz)) 1 16 (va_A [] sz) := by
  refine Met.ofW (cc := cX3_clone) (maxL := 1) (ret := (some (.array .byte))) (by decide) rfl ?_
  intro p e s m args below meth c s₁ B hml hv
  obtain ⟨rfl, hsz, hP, hT⟩ := hv
  have hx := B.exec
  have hb := B.bytes
  have hr := B.returns
  have hts0 := atoms_spec (ws := ws_ yX3_clone cX3_clone 1 (some (.array .byte))) B.pre
  have hts : ∀ w ∈ lw_all, w.before _ s = true := fun w h => hts0 w (List.mem_cons_of_mem _ h)
  have hown : s.vm.findClass RX3 = some m.cls := findClass_of_methodNamed B.named
  have hlocks := B.notSynchronized
  have hl := lv_entry ([.ref a]) (n := 1) (Nat.le_of_ble_eq_true rfl)
  rw [lg_entry_eq]
  generalize (lg_sl ([.ref a]) ++ List.replicate (1 - (lg_sl ([.ref a])).length) Slot.unset).toArray = ls at hl ⊢
  have hl : lv_has ls 1 [(0, .ref a)] := hl
  subst hsz
  have hS : va_S (fun q => va_A [] s.heap.size q ∨ q = a) s.heap s.heap [] := va_S.rf
  have hD : va_D (fun q => va_A [] s.heap.size q ∨ q = a) [(a, gm_B tc 16 Y)] := gm_D1 (Or.inr rfl)
  have hA : ∀ q : Nat, s.heap.size ≤ q → (va_A [] s.heap.size q ∨ q = a) := fun q h => Or.inl (Or.inr h)
  refine lv_null hx hb dX3_clone_0 ?_
  refine lv_aload_n hx hb dX3_clone_1 rfl (lv_at hl 0 rfl) ?_
  refine lv_acmp_ne (rx := none) (ry := some a) (tgt := 9) hx hb dX3_clone_2 (by decide) (fun _ => ?_) (fun cz => nomatch cz)
  refine lv_aload_n hx hb dX3_clone_9 rfl (lv_at hl 0 rfl) ?_
  refine va_clone hx hb (by rw [hml]; exact hl.1.symm) hown (hts _ q63) (hts _ q64) (hts _ q65) (hts _ q66) (hts _ q67) hT.2.1 hT.1 hP hD hS hA 0 0 rfl rfl hT.cB (va_fit (fun i _ => sb_fitB _)) (Nat.le_of_ble_eq_true rfl) (Nat.le_of_ble_eq_true rfl) (Nat.le_of_ble_eq_true rfl) (Nat.le_of_ble_eq_true rfl) dX3_clone_10 (fun q H hK1 hP1 hD1 hS1 => ?_)
  refine va_castA hx hb hown (hts _ q69) hP1 1 rfl hT.cB dX3_clone_13 ?_
  have hne : q ≠ a := fun e => absurd (hD1.1 1 0 _ _ rfl rfl e) (by decide)
  have hq : va_A [] s.heap.size q := (hD1.2 1 _ rfl).elim id (fun e => absurd e hne)
  have h0 : H[a]? = s.heap[a]? := (hP1 0 _ rfl).trans (hP 0 _ rfl).symm
  have hfr : ∀ x : Nat, x < s.heap.size → ¬ va_A [] s.heap.size x → H[x]? = s.heap[x]? := by
    intro x h1 h2
    by_cases hx9 : x = a
    · rw [hx9]; exact h0
    · exact hS1.2.1 x h1 (fun z => z.elim h2 hx9)
  refine W.widen (k := 1) (n := 16) (Nat.le_refl _) (Nat.le_refl _) ?_
  exact W.aret (v := .ref q) hx hb hr (Or.inr ⟨_, rfl⟩) (Or.inr ⟨_, rfl⟩) (fun t ht hW => ⟨⟨(), q, rfl, trivial, by rw [ht]; exact hP1.sub [1] rfl, gm_D1 hq⟩, by rw [ht]; exact hS1.1, by rw [ht]; exact hfr⟩) (fun q h => nomatch h) dX3_clone_16
set_option maxHeartbeats 4000000 in
set_option maxRecDepth 100000 in
/-- a share, of a copy -/
theorem met_Sinit (l : Launch) (D : va_G) (tc : Nat → ClassId) (h a r sz : Nat) (Y : Nat → Nat) : Met l yX2_init (ws_ yX2_init cX2_init 3 none) ({ frames := 2, cells := 1, slots := 16, locals := 40 }) (gm_Pc D tc [.ref h, .ref a, .int (nI r)] sz ([(h, gm_O 2 [.null, .int 0])] ++ [(a, gm_B tc 16 Y)]) gm_Zt) (va_Qv (fun _ : Nat => True) (gm_Bw D [(h, gm_O 2 [.null, .int 0])] sz (fun u => [(h, gm_O 2 [.ref u, .int (nI r)]), (u, gm_B tc 16 Y)])) (va_A [(h, gm_O 2 [.null, .int 0])] sz)) 1 16 (va_A [(h, gm_O 2 [.null, .int 0])] sz) := by
  refine Met.ofW (cc := cX2_init) (maxL := 3) (ret := none) (by decide) rfl ?_
  intro p e s m args below meth c s₁ B hml hv
  obtain ⟨rfl, hsz, hP, hT, hD0, -⟩ := hv
  have hx := B.exec
  have hb := B.bytes
  have hr := B.returns
  have hts0 := atoms_spec (ws := ws_ yX2_init cX2_init 3 none) B.pre
  have hts : ∀ w ∈ lw_all, w.before _ s = true := fun w h => hts0 w (List.mem_cons_of_mem _ h)
  have hown : s.vm.findClass RX2 = some m.cls := findClass_of_methodNamed B.named
  have hlocks := B.notSynchronized
  have hin : meth.name = "<init>" := (name_of_methodNamed B.named B.method).1
  have hl := lv_entry ([.ref h, .ref a, .int (nI r)]) (n := 3) (Nat.le_of_ble_eq_true rfl)
  rw [lg_entry_eq]
  generalize (lg_sl ([.ref h, .ref a, .int (nI r)]) ++ List.replicate (3 - (lg_sl ([.ref h, .ref a, .int (nI r)])).length) Slot.unset).toArray = ls at hl ⊢
  have hl : lv_has ls 3 [(0, .ref h), (1, .ref a), (2, .int (nI r))] := hl
  subst hsz
  have hD := (gm_Dsub hD0 (List.sublist_append_left [(h, gm_O 2 [.null, .int 0])] [(a, gm_B tc 16 Y)])).self (sz := s.heap.size)
  have hap := gm_apart hD0 hP
  have hRo : va_P D vwCl [(a, gm_B tc 16 Y)] s.heap := gm_Psub hP (fun q h => List.mem_append_right _ h)
  have hP : va_P D vwCl [(h, gm_O 2 [.null, .int 0])] s.heap := gm_Psub hP (fun q h => List.mem_append_left _ h)
  have hA : ∀ q : Nat, s.heap.size ≤ q → va_A [(h, gm_O 2 [.null, .int 0])] s.heap.size q := fun q h => Or.inr h
  have hS : va_S (va_A [(h, gm_O 2 [.null, .int 0])] s.heap.size) s.heap s.heap [] := va_S.rf
  refine lv_aload_n hx hb dX2_init_0 rfl (lv_at hl 0 rfl) ?_
  refine W.objInit hx hb hown (hts _ q59) (hts _ q23) (hts _ q24) rfl (by rw [hml]; exact hl.1) rfl dX2_init_1 (Nat.le_of_ble_eq_true rfl) (Nat.le_of_ble_eq_true rfl) ?_
  refine W.eq (g2 := F0 m 4 ls []) rfl ?_
  refine lv_aload_n hx hb dX2_init_4 rfl (lv_at hl 0 rfl) ?_
  refine lv_aload_n hx hb dX2_init_5 rfl (lv_at hl 1 rfl) ?_
  refine gm_callr (wr := [(h, gm_O 2 [.null, .int 0])]) (wc := []) (va_runS (As := [.ref a]) (rest := [.ref h]) ⟨hx, hb, hml, hown, hts⟩ (met_clone l D tc a s.heap.size Y) (va_cwS 1 hts (lw_S q60 q61 q6 q62) rfl rfl rfl (by decide +kernel) ⟨Nat.le_of_ble_eq_true rfl, Nat.le_of_ble_eq_true rfl⟩) (gm_preQ hRo hT) rfl rfl hl.1 rfl (lv_room (Nat.le_of_ble_eq_true rfl)) dX2_init_6 ⟨Nat.le_of_ble_eq_true rfl, Nat.le_of_ble_eq_true rfl⟩) hP hD hS hA (fun _ u9 H locs _ hP hD hS => ?_)
  have hP : va_P D vwCl [(h, gm_O 2 [.null, .int 0]), (u9, gm_B tc 16 Y)] H := hP
  have hD : va_D (va_A [(h, gm_O 2 [.null, .int 0])] s.heap.size) [(h, gm_O 2 [.null, .int 0]), (u9, gm_B tc 16 Y)] := hD
  refine va_putF (D := D) (ci := 2) (v := .ref u9) (ty := .array .byte) (C := RX2) (T := TX2) (N := 2) hx hb hts in_X2 tyX2 tyX2_ok nmX2 hown hT.1 hP hD hS 0 rfl rfl 0 (by decide) (hts _ q70) (fun _ h9 => h9) rfl hin rfl (by decide +kernel) rfl rfl (Nat.le_of_ble_eq_true rfl) dX2_init_9 (fun H locs hP hD hS => ?_)
  have hP : va_P D vwCl [(h, gm_O 2 [.ref u9, .int 0]), (u9, gm_B tc 16 Y)] H := hP
  have hD : va_D (va_A [(h, gm_O 2 [.null, .int 0])] s.heap.size) [(h, gm_O 2 [.ref u9, .int 0]), (u9, gm_B tc 16 Y)] := hD
  refine lv_aload_n hx hb dX2_init_12 rfl (lv_at hl 0 rfl) ?_
  refine lv_iload_n hx hb dX2_init_13 rfl (lv_at hl 2 rfl) ?_
  refine va_putF (D := D) (ci := 2) (v := .int (nI r)) (ty := .int) (C := RX2) (T := TX2) (N := 2) hx hb hts in_X2 tyX2 tyX2_ok nmX2 hown hT.1 hP hD hS 0 rfl rfl 1 (by decide) (hts _ q71) (fun _ h9 => h9) rfl hin rfl (by decide +kernel) rfl rfl (Nat.le_of_ble_eq_true rfl) dX2_init_14 (fun H locs hP hD hS => ?_)
  have hP : va_P D vwCl [(h, gm_O 2 [.ref u9, .int (nI r)]), (u9, gm_B tc 16 Y)] H := hP
  have hD : va_D (va_A [(h, gm_O 2 [.null, .int 0])] s.heap.size) [(h, gm_O 2 [.ref u9, .int (nI r)]), (u9, gm_B tc 16 Y)] := hD
  refine W.widen (k := 1) (n := 16) (Nat.le_refl _) (Nat.le_refl _) ?_
  exact W.vret hx hb hr (fun t ht hW => ⟨⟨u9, rfl, trivial, by rw [ht]; exact hP, hD⟩, hS.F ht⟩) hS.2.2 dX2_init_17
set_option maxHeartbeats 4000000 in
set_option maxRecDepth 100000 in
/-- a share's bytes, a copy -/
theorem met_enc (l : Launch) (D : va_G) (tc : Nat → ClassId) (h a r sz : Nat) (Y : Nat → Nat) : Met l yX2_getEncoded (ws_ yX2_getEncoded cX2_getEncoded 1 (some (.array .byte))) ({ frames := 2, cells := 1, slots := 16, locals := 40 }) (gm_Pq D tc [.ref h] sz [(h, gm_O 2 [.ref a, .int (nI r)]), (a, gm_B tc 16 Y)]) (va_Qr (fun _ : Unit => True) (gm_Br D [] sz (fun _ q => [(q, gm_B tc 16 Y)])) (va_A [] sz)) 1 16 (va_A [] sz) := by
  refine Met.ofW (cc := cX2_getEncoded) (maxL := 1) (ret := (some (.array .byte))) (by decide) rfl ?_
  intro p e s m args below meth c s₁ B hml hv
  obtain ⟨rfl, hsz, hP, hT⟩ := hv
  have hx := B.exec
  have hb := B.bytes
  have hr := B.returns
  have hts0 := atoms_spec (ws := ws_ yX2_getEncoded cX2_getEncoded 1 (some (.array .byte))) B.pre
  have hts : ∀ w ∈ lw_all, w.before _ s = true := fun w h => hts0 w (List.mem_cons_of_mem _ h)
  have hown : s.vm.findClass RX2 = some m.cls := findClass_of_methodNamed B.named
  have hlocks := B.notSynchronized
  have hl := lv_entry ([.ref h]) (n := 1) (Nat.le_of_ble_eq_true rfl)
  rw [lg_entry_eq]
  generalize (lg_sl ([.ref h]) ++ List.replicate (1 - (lg_sl ([.ref h])).length) Slot.unset).toArray = ls at hl ⊢
  have hl : lv_has ls 1 [(0, .ref h)] := hl
  subst hsz
  have hA : ∀ q : Nat, s.heap.size ≤ q → va_A [] s.heap.size q := fun q h => Or.inr h
  have hS : va_S (va_A [] s.heap.size) s.heap s.heap [] := va_S.rf
  have hR := hP.sub (ws' := [(a, gm_B tc 16 Y)]) [1] rfl
  refine lv_aload_n hx hb dX2_getEncoded_0 rfl (lv_at hl 0 rfl) ?_
  refine va_get (D := D) (ci := 2) (v := .ref a) (C := RX2) (T := TX2) (N := 2) hx hb hts in_X2 hown hT.1 hP 0 rfl rfl 0 (by decide) (hts _ q70) (fun _ h9 => h9) rfl dX2_getEncoded_1 ?_
  have hP : va_P D vwCl ([] : va_W) s.heap := gm_Psub hP (fun q h => nomatch h)
  have hD : va_D (va_A [] s.heap.size) ([] : va_W) := gm_Dm.mpr ⟨List.nodup_nil, fun q h => nomatch h⟩
  refine gm_callr (wr := []) (wc := []) (va_runS (As := [.ref a]) (rest := []) ⟨hx, hb, hml, hown, hts⟩ (met_clone l D tc a s.heap.size Y) (va_cwS 1 hts (lw_S q60 q61 q6 q62) rfl rfl rfl (by decide +kernel) ⟨Nat.le_of_ble_eq_true rfl, Nat.le_of_ble_eq_true rfl⟩) (gm_preQ hR hT) rfl rfl hl.1 rfl (lv_room (Nat.le_of_ble_eq_true rfl)) dX2_getEncoded_4 ⟨Nat.le_of_ble_eq_true rfl, Nat.le_of_ble_eq_true rfl⟩) hP hD hS hA (fun _ u9 H locs _ hP hD hS => ?_)
  refine W.widen (k := 1) (n := 16) (Nat.le_refl _) (Nat.le_refl _) ?_
  exact W.aret (v := .ref u9) hx hb hr (Or.inr ⟨_, rfl⟩) (Or.inr ⟨_, rfl⟩) (fun t ht hW => ⟨⟨(), u9, rfl, trivial, by rw [ht]; exact hP, hD⟩, hS.F ht⟩) hS.2.2 dX2_getEncoded_7
set_option maxHeartbeats 4000000 in
set_option maxRecDepth 100000 in
/-- the splitter of a polynomial and shares -/
theorem met_SSinit2 (l : Launch) (D : va_G) (tc : Nat → ClassId) (h po sa sz : Nat) : Met l yX4_init_2 (ws_ yX4_init_2 cX4_init_2 3 none) ({ frames := 1, cells := 0, slots := 0, locals := 12 }) (gm_Pc D tc [.ref h, .ref po, .ref sa] sz [(h, gm_O 3 [.null, .null])] gm_Zt) (va_Qv (fun _ : Unit => True) (gm_Bw D [(h, gm_O 3 [.null, .null])] sz (fun u => [(h, gm_O 3 [.ref sa, .ref po])])) (va_A [(h, gm_O 3 [.null, .null])] sz)) 0 0 (va_A [(h, gm_O 3 [.null, .null])] sz) := by
  refine Met.ofW (cc := cX4_init_2) (maxL := 3) (ret := none) (by decide) rfl ?_
  intro p e s m args below meth c s₁ B hml hv
  obtain ⟨rfl, hsz, hP, hT, hD0, -⟩ := hv
  have hx := B.exec
  have hb := B.bytes
  have hr := B.returns
  have hts0 := atoms_spec (ws := ws_ yX4_init_2 cX4_init_2 3 none) B.pre
  have hts : ∀ w ∈ lw_all, w.before _ s = true := fun w h => hts0 w (List.mem_cons_of_mem _ h)
  have hown : s.vm.findClass RX4 = some m.cls := findClass_of_methodNamed B.named
  have hlocks := B.notSynchronized
  have hin : meth.name = "<init>" := (name_of_methodNamed B.named B.method).1
  have hl := lv_entry ([.ref h, .ref po, .ref sa]) (n := 3) (Nat.le_of_ble_eq_true rfl)
  rw [lg_entry_eq]
  generalize (lg_sl ([.ref h, .ref po, .ref sa]) ++ List.replicate (3 - (lg_sl ([.ref h, .ref po, .ref sa])).length) Slot.unset).toArray = ls at hl ⊢
  have hl : lv_has ls 3 [(0, .ref h), (1, .ref po), (2, .ref sa)] := hl
  subst hsz
  have hD := hD0.self (sz := s.heap.size)
  have hA : ∀ q : Nat, s.heap.size ≤ q → va_A [(h, gm_O 3 [.null, .null])] s.heap.size q := fun q h => Or.inr h
  have hS : va_S (va_A [(h, gm_O 3 [.null, .null])] s.heap.size) s.heap s.heap [] := va_S.rf
  refine lv_aload_n hx hb dX4_init_2_0 rfl (lv_at hl 0 rfl) ?_
  refine W.objInit hx hb hown (hts _ q177) (hts _ q23) (hts _ q24) rfl (by rw [hml]; exact hl.1) rfl dX4_init_2_1 (Nat.le_of_ble_eq_true rfl) (Nat.le_of_ble_eq_true rfl) ?_
  refine W.eq (g2 := F0 m 4 ls []) rfl ?_
  refine lv_aload_n hx hb dX4_init_2_4 rfl (lv_at hl 0 rfl) ?_
  refine lv_aload_n hx hb dX4_init_2_5 rfl (lv_at hl 2 rfl) ?_
  refine va_putF (D := D) (ci := 3) (v := .ref sa) (ty := .array (.object "ShamirSplitSecretShare")) (C := RX4) (T := TX4) (N := 2) hx hb hts in_X4 tyX4 tyX4_ok nmX4 hown hT.1 hP hD hS 0 rfl rfl 0 (by decide) (hts _ q178) (fun _ h9 => h9) rfl hin rfl (by decide +kernel) rfl rfl (Nat.le_of_ble_eq_true rfl) dX4_init_2_6 (fun H locs hP hD hS => ?_)
  have hP : va_P D vwCl [(h, gm_O 3 [.ref sa, .null])] H := hP
  have hD : va_D (va_A [(h, gm_O 3 [.null, .null])] s.heap.size) [(h, gm_O 3 [.ref sa, .null])] := hD
  refine lv_aload_n hx hb dX4_init_2_9 rfl (lv_at hl 0 rfl) ?_
  refine lv_aload_n hx hb dX4_init_2_10 rfl (lv_at hl 1 rfl) ?_
  refine va_putF (D := D) (ci := 3) (v := .ref po) (ty := .object "Polynomial") (C := RX4) (T := TX4) (N := 2) hx hb hts in_X4 tyX4 tyX4_ok nmX4 hown hT.1 hP hD hS 0 rfl rfl 1 (by decide) (hts _ q179) (fun _ h9 => h9) rfl hin rfl (by decide +kernel) rfl rfl (Nat.le_of_ble_eq_true rfl) dX4_init_2_11 (fun H locs hP hD hS => ?_)
  have hP : va_P D vwCl [(h, gm_O 3 [.ref sa, .ref po])] H := hP
  have hD : va_D (va_A [(h, gm_O 3 [.null, .null])] s.heap.size) [(h, gm_O 3 [.ref sa, .ref po])] := hD
  exact W.vret hx hb hr (fun t ht hW => ⟨⟨(), rfl, trivial, by rw [ht]; exact hP, hD⟩, hS.F ht⟩) hS.2.2 dX4_init_2_14
set_option maxHeartbeats 4000000 in
set_option maxRecDepth 100000 in
/-- the splitter of an algorithm, a mode and shares -/
theorem met_SSinit (l : Launch) (D : va_G) (tc : Nat → ClassId) (h sa sz i j : Nat) (ad md : Nat → Nat) (tS : Nat) (hi : i < 2) : Met l yX4_init (ws_ yX4_init cX4_init 4 none) ({ frames := 2, cells := 1, slots := 1, locals := 64 }) (gm_Pc D tc [.ref h, .ref (ad i), .ref (md j), .ref sa] sz [(h, gm_O 3 [.null, .null])] (gm_Zp ad md tS [(h, gm_O 3 [.null, .null])] sz)) (va_Qv (fun _ : Nat => True) (gm_Bw D [(h, gm_O 3 [.null, .null])] sz (fun u => [(h, gm_O 3 [.ref sa, .ref u]), (u, gm_O 4 [.int (nI (gm_fi i))])])) (va_A [(h, gm_O 3 [.null, .null])] sz)) 1 1 (va_A [(h, gm_O 3 [.null, .null])] sz) := by
  refine Met.ofW (cc := cX4_init) (maxL := 4) (ret := none) (by decide) rfl ?_
  intro p e s m args below meth c s₁ B hml hv
  obtain ⟨rfl, hsz, hP, hT, hD0, hZ⟩ := hv
  have hx := B.exec
  have hb := B.bytes
  have hr := B.returns
  have hts0 := atoms_spec (ws := ws_ yX4_init cX4_init 4 none) B.pre
  have hts : ∀ w ∈ lw_all, w.before _ s = true := fun w h => hts0 w (List.mem_cons_of_mem _ h)
  have hown : s.vm.findClass RX4 = some m.cls := findClass_of_methodNamed B.named
  have hlocks := B.notSynchronized
  have hl := lv_entry ([.ref h, .ref (ad i), .ref (md j), .ref sa]) (n := 4) (Nat.le_of_ble_eq_true rfl)
  rw [lg_entry_eq]
  generalize (lg_sl ([.ref h, .ref (ad i), .ref (md j), .ref sa]) ++ List.replicate (4 - (lg_sl ([.ref h, .ref (ad i), .ref (md j), .ref sa])).length) Slot.unset).toArray = ls at hl ⊢
  have hl : lv_has ls 4 [(0, .ref h), (1, .ref (ad i)), (2, .ref (md j)), (3, .ref sa)] := hl
  subst hsz
  have hD := hD0.self (sz := s.heap.size)
  have hA : ∀ q : Nat, s.heap.size ≤ q → va_A [(h, gm_O 3 [.null, .null])] s.heap.size q := fun q h => Or.inr h
  have hS : va_S (va_A [(h, gm_O 3 [.null, .null])] s.heap.size) s.heap s.heap [] := va_S.rf
  have hZ : gm_Z ad md tS (va_A [(h, gm_O 3 [.null, .null])] s.heap.size) s s.heap := hZ
  refine lv_aload_n hx hb dX4_init_0 rfl (lv_at hl 0 rfl) ?_
  refine va_new (ci := 4) (fs := [.int 0]) (C := RX5) (T := TX5) (N := 1) hx hb hts in_X5 tyX5 tyX5_ok hown (hts _ q91) (hts _ q92) (hts _ q11) hT.1 hP hD hS hA rfl (fun j hj => by rcases (show j = 0 by omega) with rfl; rfl) (Nat.le_of_ble_eq_true rfl) (Nat.le_of_ble_eq_true rfl) dX4_init_1 (fun po H hP hD hS => ?_)
  have hP : va_P D vwCl ([(h, gm_O 3 [.null, .null])] ++ [(po, gm_O 4 [.int 0])]) H := hP
  have hD : va_D (va_A [(h, gm_O 3 [.null, .null])] s.heap.size) ([(h, gm_O 3 [.null, .null])] ++ [(po, gm_O 4 [.int 0])]) := hD
  refine lv_dup hx hb dX4_init_4 rfl ?_
  refine lv_aload_n hx hb dX4_init_5 rfl (lv_at hl 1 rfl) ?_
  refine gm_callv (wr := [(h, gm_O 3 [.null, .null])]) (wc := [(po, gm_O 4 [.int 0])]) (va_runI (As := [.ref (ad i)]) (rest := [.ref po, .ref h]) ⟨hx, hb, hml, hown, hts⟩ (met_Pinit l D tc po H.size i ad md tS hi) (cwI 1 hts (lw_meth q95) rfl rfl rfl (hts _ q11) (hts _ q93) (hts _ q94) rfl (by decide +kernel) ⟨Nat.le_of_ble_eq_true rfl, Nat.le_of_ble_eq_true rfl⟩) (gm_pre (hP.sub [1] rfl) hT (hD.sub [1] (by decide) rfl) gm_Zp_b (gm_Zp_of (wr := [(h, gm_O 3 [.null, .null])]) hZ hD hS hA)) rfl rfl hl.1 rfl (lv_room (Nat.le_of_ble_eq_true rfl)) dX4_init_6 ⟨Nat.le_of_ble_eq_true rfl, Nat.le_of_ble_eq_true rfl⟩) hP hD hS hA (fun _ H locs _ hP hD hS => ?_)
  have hP : va_P D vwCl [(h, gm_O 3 [.null, .null]), (po, gm_O 4 [.int (nI (gm_fi i))])] H := hP
  have hD : va_D (va_A [(h, gm_O 3 [.null, .null])] s.heap.size) [(h, gm_O 3 [.null, .null]), (po, gm_O 4 [.int (nI (gm_fi i))])] := hD
  refine lv_aload_n hx hb dX4_init_9 rfl (lv_at hl 3 rfl) ?_
  have hP := hP.sub (ws' := [(po, gm_O 4 [.int (nI (gm_fi i))])] ++ [(h, gm_O 3 [.null, .null])]) [1, 0] rfl
  have hD := hD.sub (ws' := [(po, gm_O 4 [.int (nI (gm_fi i))])] ++ [(h, gm_O 3 [.null, .null])]) [1, 0] (by decide) rfl
  refine gm_callv (wr := [(po, gm_O 4 [.int (nI (gm_fi i))])]) (wc := [(h, gm_O 3 [.null, .null])]) (va_runI (As := [.ref po, .ref sa]) (rest := []) ⟨hx, hb, hml, hown, hts⟩ (met_SSinit2 l D tc h po sa H.size) (cwI 2 hts (lw_meth q176) rfl rfl rfl (hts _ q7) (hts _ q174) (hts _ q175) rfl (by decide +kernel) ⟨Nat.le_of_ble_eq_true rfl, Nat.le_of_ble_eq_true rfl⟩) (gm_pre (hP.sub [1] rfl) hT (hD.sub [1] (by decide) rfl) gm_Zt_b (fun _ _ _ => trivial)) rfl rfl hl.1 rfl (lv_room (Nat.le_of_ble_eq_true rfl)) dX4_init_10 ⟨Nat.le_of_ble_eq_true rfl, Nat.le_of_ble_eq_true rfl⟩) hP hD hS hA (fun _ H locs _ hP hD hS => ?_)
  have hP := hP.sub (ws' := [(h, gm_O 3 [.ref sa, .ref po]), (po, gm_O 4 [.int (nI (gm_fi i))])]) [1, 0] rfl
  have hD := hD.sub (ws' := [(h, gm_O 3 [.ref sa, .ref po]), (po, gm_O 4 [.int (nI (gm_fi i))])]) [1, 0] (by decide) rfl
  refine W.widen (k := 1) (n := 1) (Nat.le_refl _) (Nat.le_refl _) ?_
  exact W.vret hx hb hr (fun t ht hW => ⟨⟨po, rfl, trivial, by rw [ht]; exact hP, hD⟩, hS.F ht⟩) hS.2.2 dX4_init_13
/-- what bitCount does, in plain words -/
def gm_b1 (x : Int32) : Int32 := x - (((x).toUInt32 >>> ((nI 1).toUInt32 &&& Int32.toUInt32 31)).toInt32 &&& 1431655765)
def gm_b3 (x : Int32) : Int32 := (x &&& 858993459) + (((x).toUInt32 >>> ((nI 2).toUInt32 &&& Int32.toUInt32 31)).toInt32 &&& 858993459)
def gm_b4 (x : Int32) : Int32 := (x + ((x).toUInt32 >>> ((nI 4).toUInt32 &&& Int32.toUInt32 31)).toInt32) &&& 252645135
def gm_b5 (x : Int32) : Int32 := x + ((x).toUInt32 >>> ((nI 8).toUInt32 &&& Int32.toUInt32 31)).toInt32
def gm_b6 (x : Int32) : Int32 := x + ((x).toUInt32 >>> ((nI 16).toUInt32 &&& Int32.toUInt32 31)).toInt32
theorem gm_bc : ∀ x, x < 256 → gm_b6 (gm_b5 (gm_b4 (gm_b3 (gm_b1 (nI x))))) &&& nI 63 = nI (gm_cn x 8) := by decide +kernel
set_option maxHeartbeats 4000000 in
set_option maxRecDepth 100000 in
/-- how many bits, of a byte -/
theorem met_bits (l : Launch) (D : va_G) (tc : Nat → ClassId) (x : Nat) (hx0 : x < 256) : Met l yJ0_bitCount (ws_ yJ0_bitCount cJ0_bitCount 1 (some .int)) ({ frames := 0, cells := 0, slots := 0, locals := 0 }) (va_Pc [.int (nI x)] (fun _ => True)) (vp_Si (fun r => r = nI (gm_cn x 8))) 0 0 (fun _ => False) := by
  refine Met.ofW (cc := cJ0_bitCount) (maxL := 1) (ret := (some .int)) (by decide) rfl ?_
  intro p e s m args below meth c s₁ B hml hv
  obtain ⟨rfl, -⟩ := hv
  have hx := B.exec
  have hb := B.bytes
  have hr := B.returns
  have hts0 := atoms_spec (ws := ws_ yJ0_bitCount cJ0_bitCount 1 (some .int)) B.pre
  have hts : ∀ w ∈ lw_all, w.before _ s = true := fun w h => hts0 w (List.mem_cons_of_mem _ h)
  have hown : s.vm.findClass RJ0 = some m.cls := findClass_of_methodNamed B.named
  have hlocks := B.notSynchronized
  have hl := lv_entry ([.int (nI x)]) (n := 1) (Nat.le_of_ble_eq_true rfl)
  rw [lg_entry_eq]
  generalize (lg_sl ([.int (nI x)]) ++ List.replicate (1 - (lg_sl ([.int (nI x)])).length) Slot.unset).toArray = ls at hl ⊢
  have hl : lv_has ls 1 [(0, .int (nI x))] := hl
  refine lv_iload_n hx hb dJ0_bitCount_0 rfl (lv_at hl 0 rfl) ?_
  refine lv_iload_n hx hb dJ0_bitCount_1 rfl (lv_at hl 0 rfl) ?_
  refine lv_iconst (v := nI 1) hx hb dJ0_bitCount_2 (by decide +kernel) ?_
  refine lv_iushr (v := ((nI x).toUInt32 >>> ((nI 1).toUInt32 &&& Int32.toUInt32 31)).toInt32) hx hb dJ0_bitCount_3 (rfl) ?_
  refine lv_ldcw hx hb hown (hts _ q50) dJ0_bitCount_4 ?_
  refine lv_iand hx hb dJ0_bitCount_7 ?_
  refine lv_isub hx hb dJ0_bitCount_8 ?_
  refine lv_topi (fun y1 ey1 => ?_)
  refine lv_istore_n (lv' := [(0, .int (y1))]) hx hb dJ0_bitCount_9 rfl hl (by decide) rfl (fun ls hl => ?_)
  refine lv_iload_n hx hb dJ0_bitCount_10 rfl (lv_at hl 0 rfl) ?_
  refine lv_ldcw hx hb hown (hts _ q51) dJ0_bitCount_11 ?_
  refine lv_iand hx hb dJ0_bitCount_14 ?_
  refine lv_iload_n hx hb dJ0_bitCount_15 rfl (lv_at hl 0 rfl) ?_
  refine lv_iconst (v := nI 2) hx hb dJ0_bitCount_16 (by decide +kernel) ?_
  refine lv_iushr (v := ((y1).toUInt32 >>> ((nI 2).toUInt32 &&& Int32.toUInt32 31)).toInt32) hx hb dJ0_bitCount_17 (rfl) ?_
  refine lv_ldcw hx hb hown (hts _ q51) dJ0_bitCount_18 ?_
  refine lv_iand hx hb dJ0_bitCount_21 ?_
  refine lv_iadd hx hb dJ0_bitCount_22 ?_
  refine lv_topi (fun y2 ey2 => ?_)
  refine lv_istore_n (lv' := [(0, .int (y2))]) hx hb dJ0_bitCount_23 rfl hl (by decide) rfl (fun ls hl => ?_)
  refine lv_iload_n hx hb dJ0_bitCount_24 rfl (lv_at hl 0 rfl) ?_
  refine lv_iload_n hx hb dJ0_bitCount_25 rfl (lv_at hl 0 rfl) ?_
  refine lv_iconst (v := nI 4) hx hb dJ0_bitCount_26 (by decide +kernel) ?_
  refine lv_iushr (v := ((y2).toUInt32 >>> ((nI 4).toUInt32 &&& Int32.toUInt32 31)).toInt32) hx hb dJ0_bitCount_27 (rfl) ?_
  refine lv_iadd hx hb dJ0_bitCount_28 ?_
  refine lv_ldcw hx hb hown (hts _ q52) dJ0_bitCount_29 ?_
  refine lv_iand hx hb dJ0_bitCount_32 ?_
  refine lv_topi (fun y3 ey3 => ?_)
  refine lv_istore_n (lv' := [(0, .int (y3))]) hx hb dJ0_bitCount_33 rfl hl (by decide) rfl (fun ls hl => ?_)
  refine lv_iload_n hx hb dJ0_bitCount_34 rfl (lv_at hl 0 rfl) ?_
  refine lv_iload_n hx hb dJ0_bitCount_35 rfl (lv_at hl 0 rfl) ?_
  refine lv_bipush (v := nI 8) hx hb dJ0_bitCount_36 (by decide +kernel) ?_
  refine lv_iushr (v := ((y3).toUInt32 >>> ((nI 8).toUInt32 &&& Int32.toUInt32 31)).toInt32) hx hb dJ0_bitCount_38 (rfl) ?_
  refine lv_iadd hx hb dJ0_bitCount_39 ?_
  refine lv_topi (fun y4 ey4 => ?_)
  refine lv_istore_n (lv' := [(0, .int (y4))]) hx hb dJ0_bitCount_40 rfl hl (by decide) rfl (fun ls hl => ?_)
  refine lv_iload_n hx hb dJ0_bitCount_41 rfl (lv_at hl 0 rfl) ?_
  refine lv_iload_n hx hb dJ0_bitCount_42 rfl (lv_at hl 0 rfl) ?_
  refine lv_bipush (v := nI 16) hx hb dJ0_bitCount_43 (by decide +kernel) ?_
  refine lv_iushr (v := ((y4).toUInt32 >>> ((nI 16).toUInt32 &&& Int32.toUInt32 31)).toInt32) hx hb dJ0_bitCount_45 (rfl) ?_
  refine lv_iadd hx hb dJ0_bitCount_46 ?_
  refine lv_topi (fun y5 ey5 => ?_)
  refine lv_istore_n (lv' := [(0, .int (y5))]) hx hb dJ0_bitCount_47 rfl hl (by decide) rfl (fun ls hl => ?_)
  refine lv_iload_n hx hb dJ0_bitCount_48 rfl (lv_at hl 0 rfl) ?_
  refine lv_bipush (v := nI 63) hx hb dJ0_bitCount_49 (by decide +kernel) ?_
  refine lv_iand hx hb dJ0_bitCount_51 ?_
  refine lv_topi (fun y9 ey9 => ?_)
  have e9 : y9 = nI (gm_cn x 8) := by
    subst ey9 ey5 ey4 ey3 ey2 ey1
    exact gm_bc x hx0
  subst e9
  exact W.iret (v := nI (gm_cn x 8)) hx hb hr (fun t ht hW => ⟨_, rfl, rfl, ht⟩) (fun q h => nomatch h) dJ0_bitCount_52
end
section
/-! THE REFERENCE'S SMALL METHODS: times, by; both outs; word, both lays; both constructors -/
set_option maxRecDepth 100000
/-- a counter that falls to -1, n turns to go -/
def gm_K : Nat → Int32
  | 0 => -1
  | n + 1 => nI n
theorem gm_K_c : ∀ n, nI n + (-1) = gm_K n
  | 0 => by decide +kernel
  | n + 1 => pk_m1 n
theorem gm_K_0 : gm_K 0 < 0 := by decide +kernel
section TM
variable {p : Program} {l : Launch} {e : Env} {R : Room} {s : State} {m : MethodId} {args : Array Value} {below : List Frame} {meth : Method} {c : Code} {H : Heap} {locs : List Loc} {cells slots : Nat} {Q : State → Prop} {D : va_G} {tc : Nat → ClassId}
set_option maxHeartbeats 4000000 in
set_option maxRecDepth 100000 in
/-- times' loop: n turns to go -/
theorem gm_times_l {F a b : Nat} (hF : gm_ok F) (ha0 : a < 256) (hb0 : b < 256) (hx : p.tables.exec = Jvm.exec) (hb : c.code = cX1_times) :
    ∀ (n j : Nat) (ls : Array Slot), j + n = 8 → lv_has ls 5 [(0, .int (nI a)), (1, .int (nI b)), (2, .int (nI F)), (3, .int (nI (gm_mn F j a (b / 2 ^ n)))), (4, .int (gm_K n))] → (∀ ls : Array Slot, lv_has ls 5 [(3, .int (nI (gm_mul F a b)))] → W p l e R s m args below meth c H locs cells slots Q (F0 m 54 ls [])) → W p l e R s m args below meth c H locs cells slots Q (F0 m 6 ls []) := by
  intro n
  induction n with
  | zero =>
    intro j ls hj hl kk
    have hj : j = 8 := by omega
    subst hj
    refine lv_iload hx hb dX1_times_6 (lv_at hl 4 rfl) ?_
    refine lv_if_lt (tgt := 54) hx hb dX1_times_8 (by decide) (fun cz => ?_) (fun cz => absurd (gm_K_0) cz)
    have e9 : gm_mn F 8 a (b / 2 ^ 0) = gm_mul F a b := by rw [Nat.pow_zero, Nat.div_one]; rfl
    rw [e9] at hl
    exact kk ls (lv_sub hl [3] rfl)
  | succ n ih =>
    intro j ls hj hl kk
    have hz0 : gm_mn F j a (b / 2 ^ (n + 1)) < 256 := gm_mn_lt hF j _ _ ha0
    have hz9 : gm_xt F (gm_mn F j a (b / 2 ^ (n + 1))) ^^^ b / 2 ^ n % 2 * a = gm_mn F (j + 1) a (b / 2 ^ n) := by
      rw [← gm_mn_xt]
      show _ = (b / 2 ^ n % 2 * a) ^^^ gm_mn F j (gm_xt F a) (b / 2 ^ n / 2)
      rw [Nat.xor_comm, Nat.div_div_eq_div_mul, ← Nat.pow_succ]
    generalize gm_mn F j a (b / 2 ^ (n + 1)) = z at hz0 hz9 hl
    have hl : lv_has ls 5 [(0, .int (nI a)), (1, .int (nI b)), (2, .int (nI F)), (3, .int (nI z)), (4, .int (nI n))] := hl
    refine lv_iload hx hb dX1_times_6 (lv_at hl 4 rfl) ?_
    refine lv_if_lt (tgt := 54) hx hb dX1_times_8 (by decide) (fun cz => absurd cz ((nI_pos (n := n) (by omega)))) (fun cz => ?_)
    refine lv_iload_n hx hb dX1_times_11 rfl (lv_at hl 3 rfl) ?_
    refine lv_iconst (v := nI 1) hx hb dX1_times_12 (by decide +kernel) ?_
    refine lv_ishl hx hb dX1_times_13 ?_
    refine gm_e (y := nI (z * 2)) (gm_shl (k := 1) (by decide) (by omega)) ?_
    refine lv_istore_n (lv' := [(3, .int (nI (z * 2))), (0, .int (nI a)), (1, .int (nI b)), (2, .int (nI F)), (4, .int (nI n))]) hx hb dX1_times_14 rfl hl (by decide) rfl (fun ls hl => ?_)
    have hxt : gm_xt F z = z * 2 ^^^ z / 128 % 2 * F := by unfold gm_xt; rw [Nat.mul_comm]
    have tail : W p l e R s m args below meth c H locs cells slots Q (F0 m 28 ls [.int (nI (z / 128 % 2 * F)), .int (nI (z * 2))]) := by
      refine lv_ixor hx hb dX1_times_28 ?_
      refine gm_e (y := nI ((z * 2) ^^^ (z / 128 % 2 * F))) (nx_xor (z * 2) (z / 128 % 2 * F)) ?_
      refine gm_e (y := nI (gm_xt F z)) (congrArg nI hxt.symm) ?_
      refine lv_istore_n (lv' := [(3, .int (nI (gm_xt F z))), (0, .int (nI a)), (1, .int (nI b)), (2, .int (nI F)), (4, .int (nI n))]) hx hb dX1_times_29 rfl hl (by decide) rfl (fun ls hl => ?_)
      refine lv_iload_n hx hb dX1_times_30 rfl (lv_at hl 0 rfl) ?_
      refine lv_iload_n hx hb dX1_times_31 rfl (lv_at hl 2 rfl) ?_
      refine lv_iload hx hb dX1_times_32 (lv_at hl 4 rfl) ?_
      refine lv_ishr hx hb dX1_times_34 ?_
      refine lv_iconst (v := nI 1) hx hb dX1_times_35 (by decide +kernel) ?_
      refine lv_iand hx hb dX1_times_36 ?_
      refine gm_e (y := nI (b / 2 ^ n % 2)) (gm_nb_c hb0 (by omega)) ?_
      refine lv_iconst (v := nI 1) hx hb dX1_times_37 (by decide +kernel) ?_
      have tail2 : W p l e R s m args below meth c H locs cells slots Q (F0 m 46 ls [.int (nI (b / 2 ^ n % 2 * a)), .int (nI (gm_xt F z))]) := by
        refine lv_ixor hx hb dX1_times_46 ?_
        refine gm_e (y := nI ((gm_xt F z) ^^^ (b / 2 ^ n % 2 * a))) (nx_xor (gm_xt F z) (b / 2 ^ n % 2 * a)) ?_
        refine gm_e (y := nI (gm_mn F (j + 1) a (b / 2 ^ n))) (congrArg nI hz9) ?_
        refine lv_istore_n (lv' := [(3, .int (nI (gm_mn F (j + 1) a (b / 2 ^ n)))), (0, .int (nI a)), (1, .int (nI b)), (2, .int (nI F)), (4, .int (nI n))]) hx hb dX1_times_47 rfl hl (by decide) rfl (fun ls hl => ?_)
        refine lv_iinc (v := gm_K n) (lv' := [(4, .int (gm_K n)), (3, .int (nI (gm_mn F (j + 1) a (b / 2 ^ n)))), (0, .int (nI a)), (1, .int (nI b)), (2, .int (nI F))]) hx hb dX1_times_48 hl (k := 4) rfl (gm_K_c n) (by decide) rfl (fun ls hl => ?_)
        refine lv_goto (tgt := 6) hx hb dX1_times_51 (by decide) ?_
        exact ih (j + 1) ls (by omega) (lv_sub hl [2, 3, 4, 1, 0] rfl) kk
      refine lv_icmp_ne (tgt := 45) hx hb dX1_times_38 (by decide) (fun cb => ?_) (fun cb => ?_)
      · have cb : b / 2 ^ n % 2 = 0 := (gm_b2 (b / 2 ^ n)).elim id (fun q => absurd (congrArg nI q) cb)
        refine lv_iconst (v := nI 0) hx hb dX1_times_45 (by decide +kernel) ?_
        refine gm_e (y := nI (b / 2 ^ n % 2 * a)) (by rw [cb, Nat.zero_mul]) ?_
        exact tail2
      · have cb : b / 2 ^ n % 2 = 1 := (gm_b01 (gm_b2 (b / 2 ^ n))).mp cb
        refine lv_iload_n hx hb dX1_times_41 rfl (lv_at hl 1 rfl) ?_
        refine lv_goto (tgt := 46) hx hb dX1_times_42 (by decide) ?_
        refine gm_e (y := nI (b / 2 ^ n % 2 * a)) (by rw [cb, Nat.one_mul]) ?_
        exact tail2
    refine lv_iload_n hx hb dX1_times_15 rfl (lv_at hl 0 rfl) ?_
    refine lv_iload_n hx hb dX1_times_16 rfl (lv_at hl 0 rfl) ?_
    refine lv_sipush (v := nI 255) hx hb dX1_times_17 (by decide +kernel) ?_
    refine lv_icmp_le (tgt := 27) hx hb dX1_times_20 (by decide) (fun cz => ?_) (fun cz => ?_)
    · have cz : z * 2 ≤ 255 := (nI_leI (by omega) (by decide)).mp cz
      refine lv_iconst (v := nI 0) hx hb dX1_times_27 (by decide +kernel) ?_
      refine gm_e (y := nI (z / 128 % 2 * F)) (by rw [show z / 128 % 2 = 0 by omega, Nat.zero_mul]) ?_
      exact tail
    · have cz : ¬ z * 2 ≤ 255 := fun q => cz ((nI_leI (by omega) (by decide)).mpr q)
      refine lv_iload_n hx hb dX1_times_23 rfl (lv_at hl 3 rfl) ?_
      refine lv_goto (tgt := 28) hx hb dX1_times_24 (by decide) ?_
      refine gm_e (y := nI (z / 128 % 2 * F)) (by rw [show z / 128 % 2 = 1 by omega, Nat.one_mul]) ?_
      exact tail
end TM
set_option maxHeartbeats 4000000 in
set_option maxRecDepth 100000 in
/-- times: the product -/
theorem met_times (l : Launch) (D : va_G) (tc : Nat → ClassId) (a b F : Nat) (hF : gm_ok F) (ha0 : a < 256) (hb0 : b < 256) : Met l yX1_times (ws_ yX1_times cX1_times 5 (some .int)) ({ frames := 0, cells := 0, slots := 0, locals := 0 }) (va_Pc [.int (nI a), .int (nI b), .int (nI F)] (fun _ => True)) (vp_Si (fun r => r = nI (gm_mul F a b))) 0 0 (fun _ => False) := by
  refine Met.ofW (cc := cX1_times) (maxL := 5) (ret := (some .int)) (by decide) rfl ?_
  intro p e s m args below meth c s₁ B hml hv
  obtain ⟨rfl, -⟩ := hv
  have hx := B.exec
  have hb := B.bytes
  have hr := B.returns
  have hts0 := atoms_spec (ws := ws_ yX1_times cX1_times 5 (some .int)) B.pre
  have hts : ∀ w ∈ lw_all, w.before _ s = true := fun w h => hts0 w (List.mem_cons_of_mem _ h)
  have hown : s.vm.findClass RX1 = some m.cls := findClass_of_methodNamed B.named
  have hlocks := B.notSynchronized
  have hl := lv_entry ([.int (nI a), .int (nI b), .int (nI F)]) (n := 5) (Nat.le_of_ble_eq_true rfl)
  rw [lg_entry_eq]
  generalize (lg_sl ([.int (nI a), .int (nI b), .int (nI F)]) ++ List.replicate (5 - (lg_sl ([.int (nI a), .int (nI b), .int (nI F)])).length) Slot.unset).toArray = ls at hl ⊢
  have hl : lv_has ls 5 [(0, .int (nI a)), (1, .int (nI b)), (2, .int (nI F))] := hl
  refine lv_iconst (v := nI 0) hx hb dX1_times_0 (by decide +kernel) ?_
  refine gm_e (y := nI (gm_mn F 0 a (b / 2 ^ 8))) (rfl) ?_
  refine lv_istore_n (lv' := [(3, .int (nI (gm_mn F 0 a (b / 2 ^ 8)))), (0, .int (nI a)), (1, .int (nI b)), (2, .int (nI F))]) hx hb dX1_times_1 rfl hl (by decide) rfl (fun ls hl => ?_)
  refine lv_bipush (v := nI 7) hx hb dX1_times_2 (by decide +kernel) ?_
  refine gm_e (y := gm_K 8) (rfl) ?_
  refine lv_istore (lv' := [(4, .int (gm_K 8)), (3, .int (nI (gm_mn F 0 a (b / 2 ^ 8)))), (0, .int (nI a)), (1, .int (nI b)), (2, .int (nI F))]) hx hb dX1_times_4 hl (by decide) rfl (fun ls hl => ?_)
  refine gm_times_l hF ha0 hb0 hx hb 8 0 ls rfl (lv_sub hl [2, 3, 4, 1, 0] rfl) (fun ls hl => ?_)
  refine lv_iload_n hx hb dX1_times_54 rfl (lv_at hl 0 rfl) ?_
  exact W.iret (v := nI (gm_mul F a b)) hx hb hr (fun t ht hW => ⟨_, rfl, rfl, ht⟩) (fun q h => nomatch h) dX1_times_55
section BY
variable {p : Program} {l : Launch} {e : Env} {R : Room} {s : State} {m : MethodId} {args : Array Value} {below : List Frame} {meth : Method} {c : Code} {H : Heap} {locs : List Loc} {cells slots : Nat} {Q : State → Prop} {D : va_G} {tc : Nat → ClassId}
set_option maxHeartbeats 4000000 in
set_option maxRecDepth 100000 in
/-- by's loop: n turns to go -/
theorem gm_by_l (D : va_G) (tc : Nat → ClassId) {F a b : Nat} (hF : gm_ok F) (hb0 : b < 256) (hx : p.tables.exec = Jvm.exec) (hb : c.code = cX1_by) (hml : c.maxLocals = 5) (hts : ∀ w ∈ lw_all, w.before args s = true) (hown : s.vm.findClass RX1 = some m.cls) (hf9 : 0 + 1 ≤ R.frames) (hl9 : 8 + (5 + 11) + 0 ≤ R.locals) (hc9 : cells + 0 ≤ R.cells) (hs9 : slots + 0 ≤ R.slots) :
    ∀ (n i : Nat) (ls : Array Slot), i + n = 6 → lv_has ls 5 [(0, .int (nI a)), (1, .int (nI b)), (2, .int (nI F)), (3, .int (nI (gm_bz F b i))), (4, .int (nI i))] → (∀ ls : Array Slot, lv_has ls 5 [(0, .int (nI a)), (2, .int (nI F)), (3, .int (nI (gm_bz F b 6)))] → W p l e R s m args below meth c H locs cells slots Q (F0 m 30 ls [])) → W p l e R s m args below meth c H locs cells slots Q (F0 m 5 ls []) := by
  intro n
  induction n with
  | zero =>
    intro i ls hi hl kk
    have hi : i = 6 := by omega
    subst hi
    refine lv_iload hx hb dX1_by_5 (lv_at hl 4 rfl) ?_
    refine lv_bipush (v := nI 6) hx hb dX1_by_7 (by decide +kernel) ?_
    refine lv_icmp_ge (tgt := 30) hx hb dX1_by_9 (by decide) (fun cz => ?_) (fun cz => absurd ((nI_le (Nat.le_refl 6) (by decide))) cz)
    exact kk ls (lv_sub hl [0, 2, 3] rfl)
  | succ n ih =>
    intro i ls hi hl kk
    refine lv_iload hx hb dX1_by_5 (lv_at hl 4 rfl) ?_
    refine lv_bipush (v := nI 6) hx hb dX1_by_7 (by decide +kernel) ?_
    refine lv_icmp_ge (tgt := 30) hx hb dX1_by_9 (by decide) (fun cz => absurd cz ((nI_ge (show i < 6 by omega) (by decide)))) (fun cz => ?_)
    have hz0 : gm_bz F b i < 256 := gm_bz_lt hF hb0 i
    refine lv_iload_n hx hb dX1_by_12 rfl (lv_at hl 3 rfl) ?_
    refine lv_iload_n hx hb dX1_by_13 rfl (lv_at hl 3 rfl) ?_
    refine lv_iload_n hx hb dX1_by_14 rfl (lv_at hl 2 rfl) ?_
    refine vp_callSi (W.runS (As := [.int (nI (gm_bz F b i)), .int (nI (gm_bz F b i)), .int (nI F)]) (rest := []) ⟨hx, hb, hml, hown, hts⟩ (met_times l D tc (gm_bz F b i) (gm_bz F b i) F hF hz0 hz0) (va_cwS 3 hts (lw_S q246 q247 q3 q248) rfl rfl rfl (by decide +kernel) ⟨hf9, hl9⟩) ⟨fun _ _ _ _ q => ⟨q.1, trivial⟩, fun _ _ _ => ⟨rfl, trivial⟩⟩ rfl rfl hl.1 rfl (lv_room (Nat.le_of_ble_eq_true rfl)) dX1_by_15 ⟨hc9, hs9⟩) (fun r9 e9 => ?_)
    subst e9
    refine lv_iload_n hx hb dX1_by_18 rfl (lv_at hl 1 rfl) ?_
    refine lv_iload_n hx hb dX1_by_19 rfl (lv_at hl 2 rfl) ?_
    refine vp_callSi (W.runS (As := [.int (nI (gm_mul F (gm_bz F b i) (gm_bz F b i))), .int (nI b), .int (nI F)]) (rest := []) ⟨hx, hb, hml, hown, hts⟩ (met_times l D tc (gm_mul F (gm_bz F b i) (gm_bz F b i)) b F hF (gm_mul_lt hF _ hz0) hb0) (va_cwS 3 hts (lw_S q246 q247 q3 q248) rfl rfl rfl (by decide +kernel) ⟨hf9, hl9⟩) ⟨fun _ _ _ _ q => ⟨q.1, trivial⟩, fun _ _ _ => ⟨rfl, trivial⟩⟩ rfl rfl hl.1 rfl (lv_room (Nat.le_of_ble_eq_true rfl)) dX1_by_20 ⟨hc9, hs9⟩) (fun r9 e9 => ?_)
    subst e9
    refine lv_istore_n (lv' := [(3, .int (nI (gm_mul F (gm_mul F (gm_bz F b i) (gm_bz F b i)) b))), (0, .int (nI a)), (1, .int (nI b)), (2, .int (nI F)), (4, .int (nI i))]) hx hb dX1_by_23 rfl hl (by decide) rfl (fun ls hl => ?_)
    refine lv_iinc (v := nI (i + 1)) (lv' := [(4, .int (nI (i + 1))), (3, .int (nI (gm_mul F (gm_mul F (gm_bz F b i) (gm_bz F b i)) b))), (0, .int (nI a)), (1, .int (nI b)), (2, .int (nI F))]) hx hb dX1_by_24 hl (k := 4) rfl (nI_add i 1) (by decide) rfl (fun ls hl => ?_)
    refine lv_goto (tgt := 5) hx hb dX1_by_27 (by decide) ?_
    exact ih (i + 1) ls (by omega) (lv_sub hl [2, 3, 4, 1, 0] rfl) kk
end BY
set_option maxHeartbeats 4000000 in
set_option maxRecDepth 100000 in
/-- by: the quotient, by 0 .. 15 -/
theorem met_by (l : Launch) (D : va_G) (tc : Nat → ClassId) (a b F : Nat) (hF : gm_ok F) (ha0 : a < 256) (hb0 : b < 16) : Met l yX1_by (ws_ yX1_by cX1_by 5 (some .int)) ({ frames := 1, cells := 0, slots := 0, locals := 24 }) (va_Pc [.int (nI a), .int (nI b), .int (nI F)] (fun _ => True)) (vp_Si (fun r => r = nI (gm_mul F a (gm_iv F b)))) 0 0 (fun _ => False) := by
  refine Met.ofW (cc := cX1_by) (maxL := 5) (ret := (some .int)) (by decide) rfl ?_
  intro p e s m args below meth c s₁ B hml hv
  obtain ⟨rfl, -⟩ := hv
  have hx := B.exec
  have hb := B.bytes
  have hr := B.returns
  have hts0 := atoms_spec (ws := ws_ yX1_by cX1_by 5 (some .int)) B.pre
  have hts : ∀ w ∈ lw_all, w.before _ s = true := fun w h => hts0 w (List.mem_cons_of_mem _ h)
  have hown : s.vm.findClass RX1 = some m.cls := findClass_of_methodNamed B.named
  have hlocks := B.notSynchronized
  have hl := lv_entry ([.int (nI a), .int (nI b), .int (nI F)]) (n := 5) (Nat.le_of_ble_eq_true rfl)
  rw [lg_entry_eq]
  generalize (lg_sl ([.int (nI a), .int (nI b), .int (nI F)]) ++ List.replicate (5 - (lg_sl ([.int (nI a), .int (nI b), .int (nI F)])).length) Slot.unset).toArray = ls at hl ⊢
  have hl : lv_has ls 5 [(0, .int (nI a)), (1, .int (nI b)), (2, .int (nI F))] := hl
  refine lv_iload_n hx hb dX1_by_0 rfl (lv_at hl 1 rfl) ?_
  refine lv_istore_n (lv' := [(3, .int (nI b)), (0, .int (nI a)), (1, .int (nI b)), (2, .int (nI F))]) hx hb dX1_by_1 rfl hl (by decide) rfl (fun ls hl => ?_)
  refine lv_iconst (v := nI 0) hx hb dX1_by_2 (by decide +kernel) ?_
  refine lv_istore (lv' := [(4, .int (nI 0)), (3, .int (nI b)), (0, .int (nI a)), (1, .int (nI b)), (2, .int (nI F))]) hx hb dX1_by_3 hl (by decide) rfl (fun ls hl => ?_)
  refine gm_by_l D tc hF (by omega) hx hb hml hts hown (Nat.le_of_ble_eq_true rfl) (Nat.le_of_ble_eq_true rfl) (Nat.zero_le _) (Nat.zero_le _) 6 0 ls rfl (lv_sub hl [2, 3, 4, 1, 0] rfl) (fun ls hl => ?_)
  have hz0 : gm_bz F b 6 < 256 := gm_bz_lt hF (by omega) 6
  refine lv_iload_n hx hb dX1_by_30 rfl (lv_at hl 0 rfl) ?_
  refine lv_iload_n hx hb dX1_by_31 rfl (lv_at hl 2 rfl) ?_
  refine lv_iload_n hx hb dX1_by_32 rfl (lv_at hl 2 rfl) ?_
  refine lv_iload_n hx hb dX1_by_33 rfl (lv_at hl 1 rfl) ?_
  refine vp_callSi (W.runS (As := [.int (nI (gm_bz F b 6)), .int (nI (gm_bz F b 6)), .int (nI F)]) (rest := [.int (nI a)]) ⟨hx, hb, hml, hown, hts⟩ (met_times l D tc (gm_bz F b 6) (gm_bz F b 6) F hF hz0 hz0) (va_cwS 3 hts (lw_S q246 q247 q3 q248) rfl rfl rfl (by decide +kernel) ⟨Nat.le_of_ble_eq_true rfl, Nat.le_of_ble_eq_true rfl⟩) ⟨fun _ _ _ _ q => ⟨q.1, trivial⟩, fun _ _ _ => ⟨rfl, trivial⟩⟩ rfl rfl hl.1 rfl (lv_room (Nat.le_of_ble_eq_true rfl)) dX1_by_34 ⟨Nat.zero_le _, Nat.zero_le _⟩) (fun r9 e9 => ?_)
  subst e9
  rw [gm_bz_iv hF hb0]
  refine lv_iload_n hx hb dX1_by_37 rfl (lv_at hl 1 rfl) ?_
  refine vp_callSi (W.runS (As := [.int (nI a), .int (nI (gm_iv F b)), .int (nI F)]) (rest := []) ⟨hx, hb, hml, hown, hts⟩ (met_times l D tc a (gm_iv F b) F hF ha0 (gm_iv_lt F b)) (va_cwS 3 hts (lw_S q246 q247 q3 q248) rfl rfl rfl (by decide +kernel) ⟨Nat.le_of_ble_eq_true rfl, Nat.le_of_ble_eq_true rfl⟩) ⟨fun _ _ _ _ q => ⟨q.1, trivial⟩, fun _ _ _ => ⟨rfl, trivial⟩⟩ rfl rfl hl.1 rfl (lv_room (Nat.le_of_ble_eq_true rfl)) dX1_by_38 ⟨Nat.zero_le _, Nat.zero_le _⟩) (fun r9 e9 => ?_)
  subst e9
  exact W.iret (v := nI (gm_mul F a (gm_iv F b))) hx hb hr (fun t ht hW => ⟨_, rfl, rfl, ht⟩) (fun q h => nomatch h) dX1_by_41
end
section
/-! BOTH DESKS' SMALL METHODS: out, word, lay, the constructors -/
set_option maxRecDepth 100000
/-- what an answer holds where it is asked -/
def gm_ou (n : Nat) (Y : Nat → Nat) (x : Int32) : Int32 := if n = 0 then -1 else nI (Y (gm_ao x))
set_option maxHeartbeats 4000000 in
set_option maxRecDepth 100000 in
/-- a byte of the last answer -/
theorem met_xout (l : Launch) (D : va_G) (tc : Nat → ClassId) (h g o n : Nat) (Y : Nat → Nat) (x : Int32) (hn0 : n = 0 ∨ n = 16) (hY : ∀ i, Y i < 256) : Met l yX0_out (ws_ yX0_out cX0_out 2 (some .int)) ({ frames := 0, cells := 0, slots := 0, locals := 0 }) (gm_Pr D tc [.ref h, .int x] [(h, gm_O 0 [.ref g, .ref o]), (o, gm_B tc n Y)]) (vp_Si (fun r => r = gm_ou n Y x)) 0 0 (fun _ => False) := by
  refine Met.ofW (cc := cX0_out) (maxL := 2) (ret := (some .int)) (by decide) rfl ?_
  intro p e s m args below meth c s₁ B hml hv
  obtain ⟨rfl, hP, hT⟩ := hv
  have hx := B.exec
  have hb := B.bytes
  have hr := B.returns
  have hts0 := atoms_spec (ws := ws_ yX0_out cX0_out 2 (some .int)) B.pre
  have hts : ∀ w ∈ lw_all, w.before _ s = true := fun w h => hts0 w (List.mem_cons_of_mem _ h)
  have hown : s.vm.findClass RX0 = some m.cls := findClass_of_methodNamed B.named
  have hlocks := B.notSynchronized
  have hl := lv_entry ([.ref h, .int x]) (n := 2) (Nat.le_of_ble_eq_true rfl)
  rw [lg_entry_eq]
  generalize (lg_sl ([.ref h, .int x]) ++ List.replicate (2 - (lg_sl ([.ref h, .int x])).length) Slot.unset).toArray = ls at hl ⊢
  have hl : lv_has ls 2 [(0, .ref h), (1, .int x)] := hl
  refine lv_aload_n hx hb dX0_out_0 rfl (lv_at hl 0 rfl) ?_
  refine va_get (D := D) (ci := 0) (v := .ref o) (C := RX0) (T := TX0) (N := 2) hx hb hts in_X0 hown hT.1 hP 0 rfl rfl 1 (by decide) (hts _ q28) (fun _ h9 => h9) rfl dX0_out_1 ?_
  rcases hn0 with rfl | rfl
  · refine va_alen (v := nI 0) hx hb hT.1 hP 1 0 rfl rfl rfl dX0_out_4 ?_
    refine lv_if_ne (tgt := 12) hx hb dX0_out_5 (by decide) (fun cz => by first | exact absurd cz (nI_0) | exact absurd (nI_0) cz) (fun cz => ?_)
    refine lv_iconst (v := -1) hx hb dX0_out_8 (by decide +kernel) ?_
    refine lv_goto (tgt := 31) hx hb dX0_out_9 (by decide) ?_
    exact W.iret (v := -1) hx hb hr (fun t ht hW => ⟨_, rfl, rfl, ht⟩) (fun q h => nomatch h) dX0_out_31
  · refine va_alen (v := nI 16) hx hb hT.1 hP 1 0 rfl rfl rfl dX0_out_4 ?_
    refine lv_if_ne (tgt := 12) hx hb dX0_out_5 (by decide) (fun cz => ?_) (fun cz => by first | exact absurd ((nI_ne0 (n := 16) (by decide) (by decide))) cz | exact absurd cz ((nI_ne0 (n := 16) (by decide) (by decide))))
    refine lv_aload_n hx hb dX0_out_12 rfl (lv_at hl 0 rfl) ?_
    refine va_get (D := D) (ci := 0) (v := .ref o) (C := RX0) (T := TX0) (N := 2) hx hb hts in_X0 hown hT.1 hP 0 rfl rfl 1 (by decide) (hts _ q28) (fun _ h9 => h9) rfl dX0_out_13 ?_
    refine lv_iload_n hx hb dX0_out_16 rfl (lv_at hl 1 rfl) ?_
    refine lv_ldc hx hb hown (hts _ q218) dX0_out_17 ?_
    refine lv_iand hx hb dX0_out_19 ?_
    refine lv_aload_n hx hb dX0_out_20 rfl (lv_at hl 0 rfl) ?_
    refine va_get (D := D) (ci := 0) (v := .ref o) (C := RX0) (T := TX0) (N := 2) hx hb hts in_X0 hown hT.1 hP 0 rfl rfl 1 (by decide) (hts _ q28) (fun _ h9 => h9) rfl dX0_out_21 ?_
    refine va_alen (v := nI 16) hx hb hT.1 hP 1 0 rfl rfl rfl dX0_out_24 ?_
    refine lv_irem hx hb dX0_out_25 (by decide +kernel) ?_
    refine gm_e (y := nI (gm_ao x)) (gm_ao_c x) ?_
    refine gm_bald hx hb hT hP 1 rfl (gm_ao_lt x) (by decide) dX0_out_26 ?_
    refine lv_sipush (v := nI 255) hx hb dX0_out_27 (by decide +kernel) ?_
    refine lv_iand hx hb dX0_out_30 ?_
    refine gm_e (y := nI (Y (gm_ao x))) (gm_sb (hY _)) ?_
    exact W.iret (v := nI (Y (gm_ao x))) hx hb hr (fun t ht hW => ⟨_, rfl, rfl, ht⟩) (fun q h => nomatch h) dX0_out_31
set_option maxHeartbeats 4000000 in
set_option maxRecDepth 100000 in
/-- a byte of the last answer -/
theorem met_mout (l : Launch) (D : va_G) (tc : Nat → ClassId) (h g o n : Nat) (Y : Nat → Nat) (x : Int32) (hn0 : n = 0 ∨ n = 16) (hY : ∀ i, Y i < 256) : Met l yX1_out (ws_ yX1_out cX1_out 2 (some .int)) ({ frames := 0, cells := 0, slots := 0, locals := 0 }) (gm_Pr D tc [.ref h, .int x] [(h, gm_O 1 [.ref g, .ref o]), (o, gm_I tc n Y)]) (vp_Si (fun r => r = gm_ou n Y x)) 0 0 (fun _ => False) := by
  refine Met.ofW (cc := cX1_out) (maxL := 2) (ret := (some .int)) (by decide) rfl ?_
  intro p e s m args below meth c s₁ B hml hv
  obtain ⟨rfl, hP, hT⟩ := hv
  have hx := B.exec
  have hb := B.bytes
  have hr := B.returns
  have hts0 := atoms_spec (ws := ws_ yX1_out cX1_out 2 (some .int)) B.pre
  have hts : ∀ w ∈ lw_all, w.before _ s = true := fun w h => hts0 w (List.mem_cons_of_mem _ h)
  have hown : s.vm.findClass RX1 = some m.cls := findClass_of_methodNamed B.named
  have hlocks := B.notSynchronized
  have hl := lv_entry ([.ref h, .int x]) (n := 2) (Nat.le_of_ble_eq_true rfl)
  rw [lg_entry_eq]
  generalize (lg_sl ([.ref h, .int x]) ++ List.replicate (2 - (lg_sl ([.ref h, .int x])).length) Slot.unset).toArray = ls at hl ⊢
  have hl : lv_has ls 2 [(0, .ref h), (1, .int x)] := hl
  refine lv_aload_n hx hb dX1_out_0 rfl (lv_at hl 0 rfl) ?_
  refine va_get (D := D) (ci := 1) (v := .ref o) (C := RX1) (T := TX1) (N := 2) hx hb hts in_X1 hown hT.1 hP 0 rfl rfl 1 (by decide) (hts _ q228) (fun _ h9 => h9) rfl dX1_out_1 ?_
  rcases hn0 with rfl | rfl
  · refine va_alen (v := nI 0) hx hb hT.1 hP 1 2 rfl rfl rfl dX1_out_4 ?_
    refine lv_if_ne (tgt := 12) hx hb dX1_out_5 (by decide) (fun cz => by first | exact absurd cz (nI_0) | exact absurd (nI_0) cz) (fun cz => ?_)
    refine lv_iconst (v := -1) hx hb dX1_out_8 (by decide +kernel) ?_
    refine lv_goto (tgt := 27) hx hb dX1_out_9 (by decide) ?_
    exact W.iret (v := -1) hx hb hr (fun t ht hW => ⟨_, rfl, rfl, ht⟩) (fun q h => nomatch h) dX1_out_27
  · refine va_alen (v := nI 16) hx hb hT.1 hP 1 2 rfl rfl rfl dX1_out_4 ?_
    refine lv_if_ne (tgt := 12) hx hb dX1_out_5 (by decide) (fun cz => ?_) (fun cz => by first | exact absurd ((nI_ne0 (n := 16) (by decide) (by decide))) cz | exact absurd cz ((nI_ne0 (n := 16) (by decide) (by decide))))
    refine lv_aload_n hx hb dX1_out_12 rfl (lv_at hl 0 rfl) ?_
    refine va_get (D := D) (ci := 1) (v := .ref o) (C := RX1) (T := TX1) (N := 2) hx hb hts in_X1 hown hT.1 hP 0 rfl rfl 1 (by decide) (hts _ q228) (fun _ h9 => h9) rfl dX1_out_13 ?_
    refine lv_iload_n hx hb dX1_out_16 rfl (lv_at hl 1 rfl) ?_
    refine lv_ldc hx hb hown (hts _ q253) dX1_out_17 ?_
    refine lv_iand hx hb dX1_out_19 ?_
    refine lv_aload_n hx hb dX1_out_20 rfl (lv_at hl 0 rfl) ?_
    refine va_get (D := D) (ci := 1) (v := .ref o) (C := RX1) (T := TX1) (N := 2) hx hb hts in_X1 hown hT.1 hP 0 rfl rfl 1 (by decide) (hts _ q228) (fun _ h9 => h9) rfl dX1_out_21 ?_
    refine va_alen (v := nI 16) hx hb hT.1 hP 1 2 rfl rfl rfl dX1_out_24 ?_
    refine lv_irem hx hb dX1_out_25 (by decide +kernel) ?_
    refine gm_e (y := nI (gm_ao x)) (gm_ao_c x) ?_
    refine gm_iald hx hb hT hP 1 rfl (gm_ao_lt x) (by decide) dX1_out_26 ?_
    exact W.iret (v := nI (Y (gm_ao x))) hx hb hr (fun t ht hW => ⟨_, rfl, rfl, ht⟩) (fun q h => nomatch h) dX1_out_27
/-- four bytes of a word, from place t on -/
def gm_w4 (Y : Nat → Nat) (t : Nat) (x : Int32) : Nat → Nat := va_up (va_up (va_up (va_up Y t (gm_wb x 24)) (t + 1) (gm_wb x 16)) (t + 2) (gm_wb x 8)) (t + 3) (gm_wb x 0)
set_option maxHeartbeats 4000000 in
set_option maxRecDepth 100000 in
/-- a word's bytes into a row -/
theorem met_word (l : Launch) (D : va_G) (tc : Nat → ClassId) (z t sz : Nat) (Y : Nat → Nat) (x : Int32) (ht0 : t + 3 < 16) : Met l yX0_word (ws_ yX0_word cX0_word 3 none) ({ frames := 0, cells := 0, slots := 0, locals := 0 }) (gm_Pc D tc [.ref z, .int (nI t), .int x] sz [(z, gm_B tc 16 Y)] gm_Zt) (va_Qv (fun _ : Unit => True) (gm_Bw D [(z, gm_B tc 16 Y)] sz (fun u => [(z, gm_B tc 16 (gm_w4 Y t x))])) (va_A [(z, gm_B tc 16 Y)] sz)) 0 0 (va_A [(z, gm_B tc 16 Y)] sz) := by
  refine Met.ofW (cc := cX0_word) (maxL := 3) (ret := none) (by decide) rfl ?_
  intro p e s m args below meth c s₁ B hml hv
  obtain ⟨rfl, hsz, hP, hT, hD0, -⟩ := hv
  have hx := B.exec
  have hb := B.bytes
  have hr := B.returns
  have hts0 := atoms_spec (ws := ws_ yX0_word cX0_word 3 none) B.pre
  have hts : ∀ w ∈ lw_all, w.before _ s = true := fun w h => hts0 w (List.mem_cons_of_mem _ h)
  have hown : s.vm.findClass RX0 = some m.cls := findClass_of_methodNamed B.named
  have hlocks := B.notSynchronized
  have hl := lv_entry ([.ref z, .int (nI t), .int x]) (n := 3) (Nat.le_of_ble_eq_true rfl)
  rw [lg_entry_eq]
  generalize (lg_sl ([.ref z, .int (nI t), .int x]) ++ List.replicate (3 - (lg_sl ([.ref z, .int (nI t), .int x])).length) Slot.unset).toArray = ls at hl ⊢
  have hl : lv_has ls 3 [(0, .ref z), (1, .int (nI t)), (2, .int x)] := hl
  subst hsz
  have hD := hD0.self (sz := s.heap.size)
  have hA : ∀ q : Nat, s.heap.size ≤ q → va_A [(z, gm_B tc 16 Y)] s.heap.size q := fun q h => Or.inr h
  have hS : va_S (va_A [(z, gm_B tc 16 Y)] s.heap.size) s.heap s.heap [] := va_S.rf
  refine lv_aload_n hx hb dX0_word_0 rfl (lv_at hl 0 rfl) ?_
  refine lv_iload_n hx hb dX0_word_1 rfl (lv_at hl 1 rfl) ?_
  refine lv_iload_n hx hb dX0_word_2 rfl (lv_at hl 2 rfl) ?_
  refine lv_bipush (v := nI 24) hx hb dX0_word_3 (by decide +kernel) ?_
  refine lv_ishr hx hb dX0_word_5 ?_
  refine lv_i2b (v := sb_b (gm_wb x 24)) hx hb dX0_word_6 (gm_wb_c x 24) ?_
  refine gm_bast (v := gm_wb x 24) hx hb hT hP hD hS 0 rfl (j := t) (by omega) (by decide) dX0_word_7 (fun H locs hP hD hS => ?_)
  have hP : va_P D vwCl [(z, gm_B tc 16 (va_up Y t (gm_wb x 24)))] H := hP
  have hD : va_D (va_A [(z, gm_B tc 16 Y)] s.heap.size) [(z, gm_B tc 16 (va_up Y t (gm_wb x 24)))] := hD
  refine lv_aload_n hx hb dX0_word_8 rfl (lv_at hl 0 rfl) ?_
  refine lv_iload_n hx hb dX0_word_9 rfl (lv_at hl 1 rfl) ?_
  refine lv_iconst (v := nI 1) hx hb dX0_word_10 (by decide +kernel) ?_
  refine lv_iadd hx hb dX0_word_11 ?_
  refine gm_e (y := nI (t + 1)) (nI_add t 1) ?_
  refine lv_iload_n hx hb dX0_word_12 rfl (lv_at hl 2 rfl) ?_
  refine lv_bipush (v := nI 16) hx hb dX0_word_13 (by decide +kernel) ?_
  refine lv_ishr hx hb dX0_word_15 ?_
  refine lv_i2b (v := sb_b (gm_wb x 16)) hx hb dX0_word_16 (gm_wb_c x 16) ?_
  refine gm_bast (v := gm_wb x 16) hx hb hT hP hD hS 0 rfl (j := (t + 1)) (by omega) (by decide) dX0_word_17 (fun H locs hP hD hS => ?_)
  have hP : va_P D vwCl [(z, gm_B tc 16 (va_up (va_up Y t (gm_wb x 24)) (t + 1) (gm_wb x 16)))] H := hP
  have hD : va_D (va_A [(z, gm_B tc 16 Y)] s.heap.size) [(z, gm_B tc 16 (va_up (va_up Y t (gm_wb x 24)) (t + 1) (gm_wb x 16)))] := hD
  refine lv_aload_n hx hb dX0_word_18 rfl (lv_at hl 0 rfl) ?_
  refine lv_iload_n hx hb dX0_word_19 rfl (lv_at hl 1 rfl) ?_
  refine lv_iconst (v := nI 2) hx hb dX0_word_20 (by decide +kernel) ?_
  refine lv_iadd hx hb dX0_word_21 ?_
  refine gm_e (y := nI (t + 2)) (nI_add t 2) ?_
  refine lv_iload_n hx hb dX0_word_22 rfl (lv_at hl 2 rfl) ?_
  refine lv_bipush (v := nI 8) hx hb dX0_word_23 (by decide +kernel) ?_
  refine lv_ishr hx hb dX0_word_25 ?_
  refine lv_i2b (v := sb_b (gm_wb x 8)) hx hb dX0_word_26 (gm_wb_c x 8) ?_
  refine gm_bast (v := gm_wb x 8) hx hb hT hP hD hS 0 rfl (j := (t + 2)) (by omega) (by decide) dX0_word_27 (fun H locs hP hD hS => ?_)
  have hP : va_P D vwCl [(z, gm_B tc 16 (va_up (va_up (va_up Y t (gm_wb x 24)) (t + 1) (gm_wb x 16)) (t + 2) (gm_wb x 8)))] H := hP
  have hD : va_D (va_A [(z, gm_B tc 16 Y)] s.heap.size) [(z, gm_B tc 16 (va_up (va_up (va_up Y t (gm_wb x 24)) (t + 1) (gm_wb x 16)) (t + 2) (gm_wb x 8)))] := hD
  refine lv_aload_n hx hb dX0_word_28 rfl (lv_at hl 0 rfl) ?_
  refine lv_iload_n hx hb dX0_word_29 rfl (lv_at hl 1 rfl) ?_
  refine lv_iconst (v := nI 3) hx hb dX0_word_30 (by decide +kernel) ?_
  refine lv_iadd hx hb dX0_word_31 ?_
  refine gm_e (y := nI (t + 3)) (nI_add t 3) ?_
  refine lv_iload_n hx hb dX0_word_32 rfl (lv_at hl 2 rfl) ?_
  refine lv_i2b (v := sb_b (gm_wb x 0)) hx hb dX0_word_33 (gm_wb_0 x) ?_
  refine gm_bast (v := gm_wb x 0) hx hb hT hP hD hS 0 rfl (j := (t + 3)) (by omega) (by decide) dX0_word_34 (fun H locs hP hD hS => ?_)
  have hP : va_P D vwCl [(z, gm_B tc 16 (va_up (va_up (va_up (va_up Y t (gm_wb x 24)) (t + 1) (gm_wb x 16)) (t + 2) (gm_wb x 8)) (t + 3) (gm_wb x 0)))] H := hP
  have hD : va_D (va_A [(z, gm_B tc 16 Y)] s.heap.size) [(z, gm_B tc 16 (va_up (va_up (va_up (va_up Y t (gm_wb x 24)) (t + 1) (gm_wb x 16)) (t + 2) (gm_wb x 8)) (t + 3) (gm_wb x 0)))] := hD
  exact W.vret hx hb hr (fun t ht hW => ⟨⟨(), rfl, trivial, by rw [ht]; exact hP, hD⟩, hS.F ht⟩) hS.2.2 dX0_word_35
def gm_i7 (x : Int32) : Nat := x.toBitVec.toNat % 8
theorem gm_i7_lt (x : Int32) : gm_i7 x < 8 := Nat.mod_lt _ (by decide)
theorem gm_i7_c (x : Int32) : x &&& nI 7 = nI (gm_i7 x) := pk_and _ 3 (by decide +kernel)
def gm_wo (a b c d : Int32) (q : Nat) : Int32 := if q = 0 then a else if q = 1 then b else if q = 2 then c else d
/-- the byte k of four words -/
def gm_wd (a b c d : Int32) (k : Nat) : Nat := gm_wb (gm_wo a b c d (k / 4)) (24 - 8 * (k % 4))
def gm_nr (a b c d : Int32) (Y : Nat → Nat) : Nat → Nat := fun k => if k < 16 then gm_wd a b c d k else Y k
theorem gm_nr_lt {a b c d : Int32} {Y : Nat → Nat} (h : ∀ i, Y i < 256) (i : Nat) : gm_nr a b c d Y i < 256 := by
  unfold gm_nr
  split
  · exact gm_wb_lt _ _
  · exact h i
theorem gm_w4_nr (a b c d : Int32) (Y : Nat → Nat) : gm_w4 (gm_w4 (gm_w4 (gm_w4 Y 0 a) 4 b) 8 c) 12 d = gm_nr a b c d Y := by
  funext k
  unfold gm_nr
  by_cases h : k < 16
  · rw [if_pos h]
    rcases (show k = 0 ∨ k = 1 ∨ k = 2 ∨ k = 3 ∨ k = 4 ∨ k = 5 ∨ k = 6 ∨ k = 7 ∨ k = 8 ∨ k = 9 ∨ k = 10 ∨ k = 11 ∨ k = 12 ∨ k = 13 ∨ k = 14 ∨ k = 15 by omega) with rfl | rfl | rfl | rfl | rfl | rfl | rfl | rfl | rfl | rfl | rfl | rfl | rfl | rfl | rfl | rfl <;> rfl
  · rw [if_neg h]
    unfold gm_w4 va_up
    repeat rw [if_neg (by omega)]
theorem gm_eB (tc : Nat → ClassId) (M : Nat → Nat → Nat) (j : Nat) (Y : Nat → Nat) : va_up (fun i => gm_B tc 16 (M i)) j (gm_B tc 16 Y) = fun i => gm_B tc 16 (va_up M j Y i) := by
  funext i
  unfold va_up
  split <;> rfl
theorem gm_eI (tc : Nat → ClassId) (M : Nat → Nat → Nat) (j : Nat) (Y : Nat → Nat) : va_up (fun i => gm_I tc 16 (M i)) j (gm_I tc 16 Y) = fun i => gm_I tc 16 (va_up M j Y i) := by
  funext i
  unfold va_up
  split <;> rfl
set_option maxHeartbeats 4000000 in
set_option maxRecDepth 100000 in
/-- the component lays a share -/
theorem met_xlay (l : Launch) (D : va_G) (tc : Nat → ClassId) (h g o sz : Nat) (ra : Nat → Nat) (M : Nat → Nat → Nat) (x a b c0 d : Int32) : Met l yX0_lay (ws_ yX0_lay cX0_lay 7 none) ({ frames := 1, cells := 0, slots := 0, locals := 22 }) (gm_Pc D tc [.ref h, .int x, .int a, .int b, .int c0, .int d] sz ((gm_L ra (fun i => gm_B tc 16 (M i)) 8) ++ [(h, gm_O 0 [.ref g, .ref o]), (g, gm_R tc 1 8 (fun i => some (ra i)))]) gm_Zt) (va_Qv (fun _ : Unit => True) (gm_Bw D (gm_L ra (fun i => gm_B tc 16 (M i)) 8) sz (fun u => gm_L ra (fun i => gm_B tc 16 (va_up M (gm_i7 x) (gm_nr a b c0 d (M (gm_i7 x))) i)) 8)) (va_A (gm_L ra (fun i => gm_B tc 16 (M i)) 8) sz)) 0 0 (va_A (gm_L ra (fun i => gm_B tc 16 (M i)) 8) sz) := by
  refine Met.ofW (cc := cX0_lay) (maxL := 7) (ret := none) (by decide) rfl ?_
  intro p e s m args below meth c s₁ B hml hv
  obtain ⟨rfl, hsz, hP, hT, hD0, -⟩ := hv
  have hx := B.exec
  have hb := B.bytes
  have hr := B.returns
  have hts0 := atoms_spec (ws := ws_ yX0_lay cX0_lay 7 none) B.pre
  have hts : ∀ w ∈ lw_all, w.before _ s = true := fun w h => hts0 w (List.mem_cons_of_mem _ h)
  have hown : s.vm.findClass RX0 = some m.cls := findClass_of_methodNamed B.named
  have hlocks := B.notSynchronized
  have hl := lv_entry ([.ref h, .int x, .int a, .int b, .int c0, .int d]) (n := 7) (Nat.le_of_ble_eq_true rfl)
  rw [lg_entry_eq]
  generalize (lg_sl ([.ref h, .int x, .int a, .int b, .int c0, .int d]) ++ List.replicate (7 - (lg_sl ([.ref h, .int x, .int a, .int b, .int c0, .int d])).length) Slot.unset).toArray = ls at hl ⊢
  have hl : lv_has ls 7 [(0, .ref h), (1, .int x), (2, .int a), (3, .int b), (4, .int c0), (5, .int d)] := hl
  subst hsz
  have hD := (gm_Dsub hD0 (List.sublist_append_left (gm_L ra (fun i => gm_B tc 16 (M i)) 8) [(h, gm_O 0 [.ref g, .ref o]), (g, gm_R tc 1 8 (fun i => some (ra i)))])).self (sz := s.heap.size)
  have hap := gm_apart hD0 hP
  have hRo : va_P D vwCl [(h, gm_O 0 [.ref g, .ref o]), (g, gm_R tc 1 8 (fun i => some (ra i)))] s.heap := gm_Psub hP (fun q h => List.mem_append_right _ h)
  have hP : va_P D vwCl (gm_L ra (fun i => gm_B tc 16 (M i)) 8) s.heap := gm_Psub hP (fun q h => List.mem_append_left _ h)
  have hA : ∀ q : Nat, s.heap.size ≤ q → va_A (gm_L ra (fun i => gm_B tc 16 (M i)) 8) s.heap.size q := fun q h => Or.inr h
  have hS : va_S (va_A (gm_L ra (fun i => gm_B tc 16 (M i)) 8) s.heap.size) s.heap s.heap [] := va_S.rf
  refine lv_aload_n hx hb dX0_lay_0 rfl (lv_at hl 0 rfl) ?_
  refine va_get (D := D) (ci := 0) (v := .ref g) (C := RX0) (T := TX0) (N := 2) hx hb hts in_X0 hown hT.1 hRo 0 rfl rfl 0 (by decide) (hts _ q27) (fun _ h9 => h9) rfl dX0_lay_1 ?_
  refine lv_iload_n hx hb dX0_lay_4 rfl (lv_at hl 1 rfl) ?_
  refine lv_bipush (v := nI 7) hx hb dX0_lay_5 (by decide +kernel) ?_
  refine lv_iand hx hb dX0_lay_7 ?_
  refine gm_e (y := nI (gm_i7 x)) (gm_i7_c x) ?_
  refine gm_qald hx hb hT hRo 1 1 rfl rfl rfl (gm_i7_lt x) (by decide) rfl dX0_lay_8 ?_
  refine lv_astore (lv' := [(6, .ref ((ra (gm_i7 x)))), (0, .ref h), (1, .int (x)), (2, .int (a)), (3, .int (b)), (4, .int (c0)), (5, .int (d))]) hx hb dX0_lay_9 hl (by decide) rfl (fun ls hl => ?_)
  have hpm : (gm_L ra (fun i => gm_B tc 16 (M i)) 8).Perm (gm_Lx ra (fun i => gm_B tc 16 (M i)) 8 (gm_i7 x) ++ [(ra (gm_i7 x), gm_B tc 16 (M (gm_i7 x)))]) := (gm_L_out ra (fun i => gm_B tc 16 (M i)) (gm_i7_lt x)).trans (List.perm_append_comm (l₁ := [(ra (gm_i7 x), gm_B tc 16 (M (gm_i7 x)))]))
  have hP : va_P D vwCl (gm_Lx ra (fun i => gm_B tc 16 (M i)) 8 (gm_i7 x) ++ [(ra (gm_i7 x), gm_B tc 16 (M (gm_i7 x)))]) s.heap := gm_Pperm hP hpm
  have hD : va_D (va_A (gm_L ra (fun i => gm_B tc 16 (M i)) 8) s.heap.size) (gm_Lx ra (fun i => gm_B tc 16 (M i)) 8 (gm_i7 x) ++ [(ra (gm_i7 x), gm_B tc 16 (M (gm_i7 x)))]) := gm_Dperm hD hpm
  refine lv_aload hx hb dX0_lay_11 (lv_at hl 0 rfl) ?_
  refine lv_iconst (v := nI 0) hx hb dX0_lay_13 (by decide +kernel) ?_
  refine lv_iload_n hx hb dX0_lay_14 rfl (lv_at hl 3 rfl) ?_
  refine gm_callv (wr := gm_Lx ra (fun i => gm_B tc 16 (M i)) 8 (gm_i7 x)) (wc := [(ra (gm_i7 x), gm_B tc 16 (M (gm_i7 x)))]) (va_runS (As := [.ref (ra (gm_i7 x)), .int (nI 0), .int a]) (rest := []) ⟨hx, hb, hml, hown, hts⟩ (met_word l D tc (ra (gm_i7 x)) 0 s.heap.size (M (gm_i7 x)) a (by decide)) (va_cwS 3 hts (lw_S q39 q40 q2 q41) rfl rfl rfl (by decide +kernel) ⟨Nat.le_of_ble_eq_true rfl, Nat.le_of_ble_eq_true rfl⟩) (gm_pre (gm_Psub hP (fun q h => List.mem_append_right _ h)) hT (gm_Dsub hD (List.sublist_append_right _ _)) gm_Zt_b (fun _ _ _ => trivial)) rfl rfl hl.1 rfl (lv_room (Nat.le_of_ble_eq_true rfl)) dX0_lay_15 ⟨Nat.le_of_ble_eq_true rfl, Nat.le_of_ble_eq_true rfl⟩) hP hD hS hA (fun _ H locs _ hP hD hS => ?_)
  refine lv_aload hx hb dX0_lay_18 (lv_at hl 0 rfl) ?_
  refine lv_iconst (v := nI 4) hx hb dX0_lay_20 (by decide +kernel) ?_
  refine lv_iload_n hx hb dX0_lay_21 rfl (lv_at hl 4 rfl) ?_
  refine gm_callv (wr := gm_Lx ra (fun i => gm_B tc 16 (M i)) 8 (gm_i7 x)) (wc := [(ra (gm_i7 x), gm_B tc 16 (gm_w4 (M (gm_i7 x)) 0 a))]) (va_runS (As := [.ref (ra (gm_i7 x)), .int (nI 4), .int b]) (rest := []) ⟨hx, hb, hml, hown, hts⟩ (met_word l D tc (ra (gm_i7 x)) 4 H.size (gm_w4 (M (gm_i7 x)) 0 a) b (by decide)) (va_cwS 3 hts (lw_S q39 q40 q2 q41) rfl rfl rfl (by decide +kernel) ⟨Nat.le_of_ble_eq_true rfl, Nat.le_of_ble_eq_true rfl⟩) (gm_pre (gm_Psub hP (fun q h => List.mem_append_right _ h)) hT (gm_Dsub hD (List.sublist_append_right _ _)) gm_Zt_b (fun _ _ _ => trivial)) rfl rfl hl.1 rfl (lv_room (Nat.le_of_ble_eq_true rfl)) dX0_lay_22 ⟨Nat.le_of_ble_eq_true rfl, Nat.le_of_ble_eq_true rfl⟩) hP hD hS hA (fun _ H locs _ hP hD hS => ?_)
  refine lv_aload hx hb dX0_lay_25 (lv_at hl 0 rfl) ?_
  refine lv_bipush (v := nI 8) hx hb dX0_lay_27 (by decide +kernel) ?_
  refine lv_iload hx hb dX0_lay_29 (lv_at hl 5 rfl) ?_
  refine gm_callv (wr := gm_Lx ra (fun i => gm_B tc 16 (M i)) 8 (gm_i7 x)) (wc := [(ra (gm_i7 x), gm_B tc 16 (gm_w4 (gm_w4 (M (gm_i7 x)) 0 a) 4 b))]) (va_runS (As := [.ref (ra (gm_i7 x)), .int (nI 8), .int c0]) (rest := []) ⟨hx, hb, hml, hown, hts⟩ (met_word l D tc (ra (gm_i7 x)) 8 H.size (gm_w4 (gm_w4 (M (gm_i7 x)) 0 a) 4 b) c0 (by decide)) (va_cwS 3 hts (lw_S q39 q40 q2 q41) rfl rfl rfl (by decide +kernel) ⟨Nat.le_of_ble_eq_true rfl, Nat.le_of_ble_eq_true rfl⟩) (gm_pre (gm_Psub hP (fun q h => List.mem_append_right _ h)) hT (gm_Dsub hD (List.sublist_append_right _ _)) gm_Zt_b (fun _ _ _ => trivial)) rfl rfl hl.1 rfl (lv_room (Nat.le_of_ble_eq_true rfl)) dX0_lay_31 ⟨Nat.le_of_ble_eq_true rfl, Nat.le_of_ble_eq_true rfl⟩) hP hD hS hA (fun _ H locs _ hP hD hS => ?_)
  refine lv_aload hx hb dX0_lay_34 (lv_at hl 0 rfl) ?_
  refine lv_bipush (v := nI 12) hx hb dX0_lay_36 (by decide +kernel) ?_
  refine lv_iload hx hb dX0_lay_38 (lv_at hl 6 rfl) ?_
  refine gm_callv (wr := gm_Lx ra (fun i => gm_B tc 16 (M i)) 8 (gm_i7 x)) (wc := [(ra (gm_i7 x), gm_B tc 16 (gm_w4 (gm_w4 (gm_w4 (M (gm_i7 x)) 0 a) 4 b) 8 c0))]) (va_runS (As := [.ref (ra (gm_i7 x)), .int (nI 12), .int d]) (rest := []) ⟨hx, hb, hml, hown, hts⟩ (met_word l D tc (ra (gm_i7 x)) 12 H.size (gm_w4 (gm_w4 (gm_w4 (M (gm_i7 x)) 0 a) 4 b) 8 c0) d (by decide)) (va_cwS 3 hts (lw_S q39 q40 q2 q41) rfl rfl rfl (by decide +kernel) ⟨Nat.le_of_ble_eq_true rfl, Nat.le_of_ble_eq_true rfl⟩) (gm_pre (gm_Psub hP (fun q h => List.mem_append_right _ h)) hT (gm_Dsub hD (List.sublist_append_right _ _)) gm_Zt_b (fun _ _ _ => trivial)) rfl rfl hl.1 rfl (lv_room (Nat.le_of_ble_eq_true rfl)) dX0_lay_40 ⟨Nat.le_of_ble_eq_true rfl, Nat.le_of_ble_eq_true rfl⟩) hP hD hS hA (fun _ H locs _ hP hD hS => ?_)
  rw [gm_w4_nr] at hP hD
  have hpm : (gm_Lx ra (fun i => gm_B tc 16 (M i)) 8 (gm_i7 x) ++ [(ra (gm_i7 x), gm_B tc 16 (gm_nr a b c0 d (M (gm_i7 x))))]).Perm (gm_L ra (fun i => gm_B tc 16 (va_up M (gm_i7 x) (gm_nr a b c0 d (M (gm_i7 x))) i)) 8) := by
    rw [← gm_eB]
    exact (List.perm_append_comm (l₂ := [(ra (gm_i7 x), gm_B tc 16 (gm_nr a b c0 d (M (gm_i7 x))))])).trans (gm_L_back ra (fun i => gm_B tc 16 (M i)) (gm_i7_lt x) _)
  have hP := gm_Pperm hP hpm
  have hD := gm_Dperm hD hpm
  exact W.vret hx hb hr (fun t ht hW => ⟨⟨(), rfl, trivial, by rw [ht]; exact hP, hD⟩, hS.F ht⟩) hS.2.2 dX0_lay_43
def gm_nn (x : Int32) : Nat := x.toBitVec.toNat
theorem gm_nn_c (x : Int32) : x = nI (gm_nn x) := by
  apply Int32.toBitVec_inj.mp
  show x.toBitVec = BitVec.ofNat 32 x.toBitVec.toNat
  rw [BitVec.ofNat_toNat, BitVec.setWidth_eq]
def gm_w0 (a b c d : Int32) : Nat → Nat := va_up (va_up (va_up (va_up (fun _ => 0) 0 (gm_nn a)) 1 (gm_nn b)) 2 (gm_nn c)) 3 (gm_nn d)
theorem gm_w0_c (a b c d : Int32) {q : Nat} (hq : q < 4) : nI (gm_w0 a b c d q) = gm_wo a b c d q := by
  rcases (show q = 0 ∨ q = 1 ∨ q = 2 ∨ q = 3 by omega) with rfl | rfl | rfl | rfl
  · exact (gm_nn_c a).symm
  · exact (gm_nn_c b).symm
  · exact (gm_nn_c c).symm
  · exact (gm_nn_c d).symm
/-- a row, k of its places laid -/
def gm_nk (a b c d : Int32) (Y : Nat → Nat) (k : Nat) : Nat → Nat := fun t => if t < k then gm_wd a b c d t else Y t
theorem gm_nk_s (a b c d : Int32) (Y : Nat → Nat) (k : Nat) : va_up (gm_nk a b c d Y k) k (gm_wd a b c d k) = gm_nk a b c d Y (k + 1) := by
  funext t
  unfold gm_nk va_up
  dsimp only
  by_cases h : t = k
  · subst h
    rw [if_pos rfl, if_pos (Nat.lt_succ_self _)]
  · rw [if_neg h]
    by_cases h2 : t < k
    · rw [if_pos h2, if_pos (by omega)]
    · rw [if_neg h2, if_neg (by omega)]
section ML
variable {p : Program} {l : Launch} {e : Env} {R : Room} {s : State} {m : MethodId} {args : Array Value} {below : List Frame} {meth : Method} {c : Code} {H : Heap} {locs : List Loc} {cells slots : Nat} {Q : State → Prop} {D : va_G} {tc : Nat → ClassId}
variable {A : Nat → Prop} {H0 : Heap}
set_option maxHeartbeats 4000000 in
set_option maxRecDepth 100000 in
/-- the loop of the reference's lay: n places to go -/
theorem gm_mlay_l {h g o wa : Nat} {ra : Nat → Nat} {M : Nat → Nat → Nat} {x a b c0 d : Int32} (hx : p.tables.exec = Jvm.exec) (hb : c.code = cX1_lay) (hT : gm_T D tc s) (hts : ∀ w ∈ lw_all, w.before args s = true) (hown : s.vm.findClass RX1 = some m.cls)
    (hRo : va_P D vwCl [(h, gm_O 1 [.ref g, .ref o]), (g, gm_R tc 3 8 (fun i => some (ra i)))] H0) (hap : ∀ q ∈ ([(h, gm_O 1 [.ref g, .ref o]), (g, gm_R tc 3 8 (fun i => some (ra i)))] : va_W), ¬ A q.1) :
    ∀ (n k : Nat) (H : Heap) (locs : List Loc) (ls : Array Slot), k + n = 16 → va_P D vwCl ((ra (gm_i7 x), gm_I tc 16 (gm_nk a b c0 d (M (gm_i7 x)) k)) :: (wa, gm_I tc 4 (gm_w0 a b c0 d)) :: gm_Lx ra (fun i => gm_I tc 16 (M i)) 8 (gm_i7 x)) H → va_D A ((ra (gm_i7 x), gm_I tc 16 (gm_nk a b c0 d (M (gm_i7 x)) k)) :: (wa, gm_I tc 4 (gm_w0 a b c0 d)) :: gm_Lx ra (fun i => gm_I tc 16 (M i)) 8 (gm_i7 x)) → va_S A H0 H locs → lv_has ls 8 [(0, .ref h), (1, .int (x)), (6, .ref wa), (7, .int (nI k))] →
    (∀ (H : Heap) (locs : List Loc) (ls : Array Slot), va_P D vwCl ((ra (gm_i7 x), gm_I tc 16 (gm_nk a b c0 d (M (gm_i7 x)) 16)) :: (wa, gm_I tc 4 (gm_w0 a b c0 d)) :: gm_Lx ra (fun i => gm_I tc 16 (M i)) 8 (gm_i7 x)) H → va_D A ((ra (gm_i7 x), gm_I tc 16 (gm_nk a b c0 d (M (gm_i7 x)) 16)) :: (wa, gm_I tc 4 (gm_w0 a b c0 d)) :: gm_Lx ra (fun i => gm_I tc 16 (M i)) 8 (gm_i7 x)) → va_S A H0 H locs → W p l e R s m args below meth c H locs cells slots Q (F0 m 73 ls [])) → W p l e R s m args below meth c H locs cells slots Q (F0 m 26 ls []) := by
  intro n
  induction n with
  | zero =>
    intro k H locs ls hk hP hD hS hl kk
    have hk : k = 16 := by omega
    subst hk
    refine lv_iload hx hb dX1_lay_26 (lv_at hl 3 rfl) ?_
    refine lv_bipush (v := nI 16) hx hb dX1_lay_28 (by decide +kernel) ?_
    refine lv_icmp_ge (tgt := 73) hx hb dX1_lay_30 (by decide) (fun cz => ?_) (fun cz => by first | exact absurd ((nI_le (Nat.le_refl 16) (by decide))) cz | exact absurd cz ((nI_le (Nat.le_refl 16) (by decide))))
    exact kk H locs ls hP hD hS
  | succ n ih =>
    intro k H locs ls hk hP hD hS hl kk
    refine lv_iload hx hb dX1_lay_26 (lv_at hl 3 rfl) ?_
    refine lv_bipush (v := nI 16) hx hb dX1_lay_28 (by decide +kernel) ?_
    refine lv_icmp_ge (tgt := 73) hx hb dX1_lay_30 (by decide) (fun cz => by first | exact absurd cz ((nI_ge (show k < 16 by omega) (by decide))) | exact absurd ((nI_ge (show k < 16 by omega) (by decide))) cz) (fun cz => ?_)
    have hR := gm_ro hS hRo hap
    refine lv_aload_n hx hb dX1_lay_33 rfl (lv_at hl 0 rfl) ?_
    refine va_get (D := D) (ci := 1) (v := .ref g) (C := RX1) (T := TX1) (N := 2) hx hb hts in_X1 hown hT.1 hR 0 rfl rfl 0 (by decide) (hts _ q227) (fun _ h9 => h9) rfl dX1_lay_34 ?_
    refine lv_iload_n hx hb dX1_lay_37 rfl (lv_at hl 1 rfl) ?_
    refine lv_bipush (v := nI 7) hx hb dX1_lay_38 (by decide +kernel) ?_
    refine lv_iand hx hb dX1_lay_40 ?_
    refine gm_e (y := nI (gm_i7 x)) (gm_i7_c x) ?_
    refine gm_qald hx hb hT hR 1 3 rfl rfl rfl (gm_i7_lt x) (by decide) rfl dX1_lay_41 ?_
    refine lv_iload hx hb dX1_lay_42 (lv_at hl 3 rfl) ?_
    refine lv_aload hx hb dX1_lay_44 (lv_at hl 2 rfl) ?_
    refine lv_iload hx hb dX1_lay_46 (lv_at hl 3 rfl) ?_
    refine lv_iconst (v := nI 4) hx hb dX1_lay_48 (by decide +kernel) ?_
    refine lv_idiv hx hb dX1_lay_49 (by decide +kernel) ?_
    refine gm_e (y := nI (k / 4)) (pk_div (d := 4) (by omega) (by decide) (by decide)) ?_
    refine gm_iald hx hb hT hP 1 rfl (j := k / 4) (by omega) (by decide) dX1_lay_50 ?_
    refine gm_e (y := gm_wo a b c0 d (k / 4)) (gm_w0_c a b c0 d (by omega)) ?_
    refine lv_bipush (v := nI 24) hx hb dX1_lay_51 (by decide +kernel) ?_
    refine lv_bipush (v := nI 8) hx hb dX1_lay_53 (by decide +kernel) ?_
    refine lv_iload hx hb dX1_lay_55 (lv_at hl 3 rfl) ?_
    refine lv_iconst (v := nI 4) hx hb dX1_lay_57 (by decide +kernel) ?_
    refine lv_irem hx hb dX1_lay_58 (by decide +kernel) ?_
    refine gm_e (y := nI (k % 4)) (pk_rem (d := 4) (by omega) (by decide) (by decide)) ?_
    refine lv_imul hx hb dX1_lay_59 ?_
    refine gm_e (y := nI (8 * (k % 4))) (pk_mul 8 (k % 4)) ?_
    refine lv_isub hx hb dX1_lay_60 ?_
    refine gm_e (y := nI (24 - 8 * (k % 4))) (pk_sub (by omega)) ?_
    refine lv_ishr hx hb dX1_lay_61 ?_
    refine lv_sipush (v := nI 255) hx hb dX1_lay_62 (by decide +kernel) ?_
    refine lv_iand hx hb dX1_lay_65 ?_
    refine gm_e (y := nI (gm_wd a b c0 d k)) (gm_wb_m _ _) ?_
    refine gm_iast (v := gm_wd a b c0 d k) hx hb hT hP hD hS 0 rfl (j := k) (by omega) (by decide) dX1_lay_66 (fun H locs hP hD hS => ?_)
    rw [gm_nk_s] at hP hD
    have hP : va_P D vwCl ((ra (gm_i7 x), gm_I tc 16 (gm_nk a b c0 d (M (gm_i7 x)) (k + 1))) :: (wa, gm_I tc 4 (gm_w0 a b c0 d)) :: gm_Lx ra (fun i => gm_I tc 16 (M i)) 8 (gm_i7 x)) H := hP
    have hD : va_D A ((ra (gm_i7 x), gm_I tc 16 (gm_nk a b c0 d (M (gm_i7 x)) (k + 1))) :: (wa, gm_I tc 4 (gm_w0 a b c0 d)) :: gm_Lx ra (fun i => gm_I tc 16 (M i)) 8 (gm_i7 x)) := hD
    refine lv_iinc (v := nI (k + 1)) (lv' := [(7, .int (nI (k + 1))), (0, .ref h), (1, .int (x)), (6, .ref wa)]) hx hb dX1_lay_67 hl (k := 3) rfl (nI_add k 1) (by decide) rfl (fun ls hl => ?_)
    refine lv_goto (tgt := 26) hx hb dX1_lay_70 (by decide) ?_
    exact ih (k + 1) H locs ls (by omega) hP hD hS (lv_sub hl [1, 2, 3, 0] rfl) kk
end ML
set_option maxHeartbeats 4000000 in
set_option maxRecDepth 100000 in
/-- the reference lays a share -/
theorem met_mlay (l : Launch) (D : va_G) (tc : Nat → ClassId) (h g o sz : Nat) (ra : Nat → Nat) (M : Nat → Nat → Nat) (x a b c0 d : Int32) : Met l yX1_lay (ws_ yX1_lay cX1_lay 8 none) ({ frames := 0, cells := 1, slots := 4, locals := 0 }) (gm_Pc D tc [.ref h, .int x, .int a, .int b, .int c0, .int d] sz ((gm_L ra (fun i => gm_I tc 16 (M i)) 8) ++ [(h, gm_O 1 [.ref g, .ref o]), (g, gm_R tc 3 8 (fun i => some (ra i)))]) gm_Zt) (va_Qv (fun _ : Unit => True) (gm_Bw D (gm_L ra (fun i => gm_I tc 16 (M i)) 8) sz (fun u => gm_L ra (fun i => gm_I tc 16 (va_up M (gm_i7 x) (gm_nr a b c0 d (M (gm_i7 x))) i)) 8)) (va_A (gm_L ra (fun i => gm_I tc 16 (M i)) 8) sz)) 1 4 (va_A (gm_L ra (fun i => gm_I tc 16 (M i)) 8) sz) := by
  refine Met.ofW (cc := cX1_lay) (maxL := 8) (ret := none) (by decide) rfl ?_
  intro p e s m args below meth c s₁ B hml hv
  obtain ⟨rfl, hsz, hP, hT, hD0, -⟩ := hv
  have hx := B.exec
  have hb := B.bytes
  have hr := B.returns
  have hts0 := atoms_spec (ws := ws_ yX1_lay cX1_lay 8 none) B.pre
  have hts : ∀ w ∈ lw_all, w.before _ s = true := fun w h => hts0 w (List.mem_cons_of_mem _ h)
  have hown : s.vm.findClass RX1 = some m.cls := findClass_of_methodNamed B.named
  have hlocks := B.notSynchronized
  have hl := lv_entry ([.ref h, .int x, .int a, .int b, .int c0, .int d]) (n := 8) (Nat.le_of_ble_eq_true rfl)
  rw [lg_entry_eq]
  generalize (lg_sl ([.ref h, .int x, .int a, .int b, .int c0, .int d]) ++ List.replicate (8 - (lg_sl ([.ref h, .int x, .int a, .int b, .int c0, .int d])).length) Slot.unset).toArray = ls at hl ⊢
  have hl : lv_has ls 8 [(0, .ref h), (1, .int x), (2, .int a), (3, .int b), (4, .int c0), (5, .int d)] := hl
  subst hsz
  have hD := (gm_Dsub hD0 (List.sublist_append_left (gm_L ra (fun i => gm_I tc 16 (M i)) 8) [(h, gm_O 1 [.ref g, .ref o]), (g, gm_R tc 3 8 (fun i => some (ra i)))])).self (sz := s.heap.size)
  have hap := gm_apart hD0 hP
  have hRo : va_P D vwCl [(h, gm_O 1 [.ref g, .ref o]), (g, gm_R tc 3 8 (fun i => some (ra i)))] s.heap := gm_Psub hP (fun q h => List.mem_append_right _ h)
  have hP : va_P D vwCl (gm_L ra (fun i => gm_I tc 16 (M i)) 8) s.heap := gm_Psub hP (fun q h => List.mem_append_left _ h)
  have hA : ∀ q : Nat, s.heap.size ≤ q → va_A (gm_L ra (fun i => gm_I tc 16 (M i)) 8) s.heap.size q := fun q h => Or.inr h
  have hS : va_S (va_A (gm_L ra (fun i => gm_I tc 16 (M i)) 8) s.heap.size) s.heap s.heap [] := va_S.rf
  have hpm := gm_L_out ra (fun i => gm_I tc 16 (M i)) (gm_i7_lt x)
  have hP := gm_Pperm hP hpm
  have hD := gm_Dperm hD hpm
  refine lv_iconst (v := nI 4) hx hb dX1_lay_0 (by decide +kernel) ?_
  refine gm_newi hx hb (hts _ q234) hT hP hD hS hA (n := 4) (by decide) (Nat.le_of_ble_eq_true rfl) (Nat.le_of_ble_eq_true rfl) dX1_lay_1 (fun wa H hP hD hS => ?_)
  have hpm : (((ra (gm_i7 x), gm_I tc 16 (M (gm_i7 x))) :: gm_Lx ra (fun i => gm_I tc 16 (M i)) 8 (gm_i7 x)) ++ [(wa, gm_I tc 4 (fun _ => 0))]).Perm ((wa, gm_I tc 4 (fun _ => 0)) :: (ra (gm_i7 x), gm_I tc 16 (M (gm_i7 x))) :: gm_Lx ra (fun i => gm_I tc 16 (M i)) 8 (gm_i7 x)) := List.perm_append_comm (l₂ := [(wa, gm_I tc 4 (fun _ => 0))])
  have hP : va_P D vwCl ((wa, gm_I tc 4 (fun _ => 0)) :: (ra (gm_i7 x), gm_I tc 16 (M (gm_i7 x))) :: gm_Lx ra (fun i => gm_I tc 16 (M i)) 8 (gm_i7 x)) H := gm_Pperm hP hpm
  have hD : va_D (va_A (gm_L ra (fun i => gm_I tc 16 (M i)) 8) s.heap.size) ((wa, gm_I tc 4 (fun _ => 0)) :: (ra (gm_i7 x), gm_I tc 16 (M (gm_i7 x))) :: gm_Lx ra (fun i => gm_I tc 16 (M i)) 8 (gm_i7 x)) := gm_Dperm hD hpm
  refine lv_dup hx hb dX1_lay_3 rfl ?_
  refine lv_iconst (v := nI 0) hx hb dX1_lay_4 (by decide +kernel) ?_
  refine lv_iload_n hx hb dX1_lay_5 rfl (lv_at hl 2 rfl) ?_
  refine gm_e (y := nI (gm_nn a)) (gm_nn_c a) ?_
  refine gm_iast (v := gm_nn a) hx hb hT hP hD hS 0 rfl (j := 0) (by decide) (by decide) dX1_lay_6 (fun H locs hP hD hS => ?_)
  have hP : va_P D vwCl ((wa, gm_I tc 4 (va_up (fun _ => 0) 0 (gm_nn a))) :: (ra (gm_i7 x), gm_I tc 16 (M (gm_i7 x))) :: gm_Lx ra (fun i => gm_I tc 16 (M i)) 8 (gm_i7 x)) H := hP
  have hD : va_D (va_A (gm_L ra (fun i => gm_I tc 16 (M i)) 8) s.heap.size) ((wa, gm_I tc 4 (va_up (fun _ => 0) 0 (gm_nn a))) :: (ra (gm_i7 x), gm_I tc 16 (M (gm_i7 x))) :: gm_Lx ra (fun i => gm_I tc 16 (M i)) 8 (gm_i7 x)) := hD
  refine lv_dup hx hb dX1_lay_7 rfl ?_
  refine lv_iconst (v := nI 1) hx hb dX1_lay_8 (by decide +kernel) ?_
  refine lv_iload_n hx hb dX1_lay_9 rfl (lv_at hl 3 rfl) ?_
  refine gm_e (y := nI (gm_nn b)) (gm_nn_c b) ?_
  refine gm_iast (v := gm_nn b) hx hb hT hP hD hS 0 rfl (j := 1) (by decide) (by decide) dX1_lay_10 (fun H locs hP hD hS => ?_)
  have hP : va_P D vwCl ((wa, gm_I tc 4 (va_up (va_up (fun _ => 0) 0 (gm_nn a)) 1 (gm_nn b))) :: (ra (gm_i7 x), gm_I tc 16 (M (gm_i7 x))) :: gm_Lx ra (fun i => gm_I tc 16 (M i)) 8 (gm_i7 x)) H := hP
  have hD : va_D (va_A (gm_L ra (fun i => gm_I tc 16 (M i)) 8) s.heap.size) ((wa, gm_I tc 4 (va_up (va_up (fun _ => 0) 0 (gm_nn a)) 1 (gm_nn b))) :: (ra (gm_i7 x), gm_I tc 16 (M (gm_i7 x))) :: gm_Lx ra (fun i => gm_I tc 16 (M i)) 8 (gm_i7 x)) := hD
  refine lv_dup hx hb dX1_lay_11 rfl ?_
  refine lv_iconst (v := nI 2) hx hb dX1_lay_12 (by decide +kernel) ?_
  refine lv_iload hx hb dX1_lay_13 (lv_at hl 4 rfl) ?_
  refine gm_e (y := nI (gm_nn c0)) (gm_nn_c c0) ?_
  refine gm_iast (v := gm_nn c0) hx hb hT hP hD hS 0 rfl (j := 2) (by decide) (by decide) dX1_lay_15 (fun H locs hP hD hS => ?_)
  have hP : va_P D vwCl ((wa, gm_I tc 4 (va_up (va_up (va_up (fun _ => 0) 0 (gm_nn a)) 1 (gm_nn b)) 2 (gm_nn c0))) :: (ra (gm_i7 x), gm_I tc 16 (M (gm_i7 x))) :: gm_Lx ra (fun i => gm_I tc 16 (M i)) 8 (gm_i7 x)) H := hP
  have hD : va_D (va_A (gm_L ra (fun i => gm_I tc 16 (M i)) 8) s.heap.size) ((wa, gm_I tc 4 (va_up (va_up (va_up (fun _ => 0) 0 (gm_nn a)) 1 (gm_nn b)) 2 (gm_nn c0))) :: (ra (gm_i7 x), gm_I tc 16 (M (gm_i7 x))) :: gm_Lx ra (fun i => gm_I tc 16 (M i)) 8 (gm_i7 x)) := hD
  refine lv_dup hx hb dX1_lay_16 rfl ?_
  refine lv_iconst (v := nI 3) hx hb dX1_lay_17 (by decide +kernel) ?_
  refine lv_iload hx hb dX1_lay_18 (lv_at hl 5 rfl) ?_
  refine gm_e (y := nI (gm_nn d)) (gm_nn_c d) ?_
  refine gm_iast (v := gm_nn d) hx hb hT hP hD hS 0 rfl (j := 3) (by decide) (by decide) dX1_lay_20 (fun H locs hP hD hS => ?_)
  have hP : va_P D vwCl ((wa, gm_I tc 4 (va_up (va_up (va_up (va_up (fun _ => 0) 0 (gm_nn a)) 1 (gm_nn b)) 2 (gm_nn c0)) 3 (gm_nn d))) :: (ra (gm_i7 x), gm_I tc 16 (M (gm_i7 x))) :: gm_Lx ra (fun i => gm_I tc 16 (M i)) 8 (gm_i7 x)) H := hP
  have hD : va_D (va_A (gm_L ra (fun i => gm_I tc 16 (M i)) 8) s.heap.size) ((wa, gm_I tc 4 (va_up (va_up (va_up (va_up (fun _ => 0) 0 (gm_nn a)) 1 (gm_nn b)) 2 (gm_nn c0)) 3 (gm_nn d))) :: (ra (gm_i7 x), gm_I tc 16 (M (gm_i7 x))) :: gm_Lx ra (fun i => gm_I tc 16 (M i)) 8 (gm_i7 x)) := hD
  refine lv_astore (lv' := [(6, .ref wa), (0, .ref h), (1, .int (x)), (2, .int (a)), (3, .int (b)), (4, .int (c0)), (5, .int (d))]) hx hb dX1_lay_21 hl (by decide) rfl (fun ls hl => ?_)
  refine lv_iconst (v := nI 0) hx hb dX1_lay_23 (by decide +kernel) ?_
  refine lv_istore (lv' := [(7, .int (nI 0)), (6, .ref wa), (0, .ref h), (1, .int (x)), (2, .int (a)), (3, .int (b)), (4, .int (c0)), (5, .int (d))]) hx hb dX1_lay_24 hl (by decide) rfl (fun ls hl => ?_)
  have hpm : ((wa, gm_I tc 4 (gm_w0 a b c0 d)) :: (ra (gm_i7 x), gm_I tc 16 (M (gm_i7 x))) :: gm_Lx ra (fun i => gm_I tc 16 (M i)) 8 (gm_i7 x)).Perm ((ra (gm_i7 x), gm_I tc 16 (M (gm_i7 x))) :: (wa, gm_I tc 4 (gm_w0 a b c0 d)) :: gm_Lx ra (fun i => gm_I tc 16 (M i)) 8 (gm_i7 x)) := List.Perm.swap _ _ _
  have hP := gm_Pperm hP hpm
  have hD := gm_Dperm hD hpm
  refine gm_mlay_l hx hb hT hts hown hRo hap 16 0 H locs ls rfl hP hD hS (lv_sub hl [2, 3, 1, 0] rfl) (fun H locs ls hP hD hS => ?_)
  have hpm : ((ra (gm_i7 x), gm_I tc 16 (gm_nr a b c0 d (M (gm_i7 x)))) :: gm_Lx ra (fun i => gm_I tc 16 (M i)) 8 (gm_i7 x)).Perm (gm_L ra (fun i => gm_I tc 16 (va_up M (gm_i7 x) (gm_nr a b c0 d (M (gm_i7 x))) i)) 8) := by
    rw [← gm_eI]
    exact gm_L_back ra (fun i => gm_I tc 16 (M i)) (gm_i7_lt x) _
  have hsb : List.Sublist ((ra (gm_i7 x), gm_I tc 16 (gm_nr a b c0 d (M (gm_i7 x)))) :: gm_Lx ra (fun i => gm_I tc 16 (M i)) 8 (gm_i7 x)) ((ra (gm_i7 x), gm_I tc 16 (gm_nk a b c0 d (M (gm_i7 x)) 16)) :: (wa, gm_I tc 4 (gm_w0 a b c0 d)) :: gm_Lx ra (fun i => gm_I tc 16 (M i)) 8 (gm_i7 x)) := List.Sublist.cons₂ _ (List.sublist_cons_self _ _)
  have hP := gm_Pperm (gm_Psub hP (fun q h => hsb.subset h)) hpm
  have hD := gm_Dperm (gm_Dsub hD hsb) hpm
  refine W.widen (k := 1) (n := 4) (Nat.le_refl _) (Nat.le_refl _) ?_
  exact W.vret hx hb hr (fun t ht hW => ⟨⟨(), rfl, trivial, by rw [ht]; exact hP, hD⟩, hS.F ht⟩) hS.2.2 dX1_lay_73
set_option maxHeartbeats 4000000 in
set_option maxRecDepth 100000 in
/-- an empty desk -/
theorem met_xinit (l : Launch) (D : va_G) (tc : Nat → ClassId) (h sz : Nat) : Met l yX0_init (ws_ yX0_init cX0_init 1 none) ({ frames := 1, cells := 10, slots := 136, locals := 12 }) (gm_Pc D tc [.ref h] sz [(h, gm_O 0 [.null, .null])] gm_Zt) (va_Qv (fun _ : Nat × Nat => True) (gm_Bw D [(h, gm_O 0 [.null, .null])] sz (fun u => (h, gm_O 0 [.ref u.1, .ref u.2]) :: (u.1, gm_R tc 1 8 (fun j => some (u.1 + 1 + j))) :: (gm_L (fun j => u.1 + 1 + j) (fun _ => gm_B tc 16 (fun _ => 0)) 8 ++ [(u.2, gm_B tc 0 (fun _ => 0))]))) (va_A [(h, gm_O 0 [.null, .null])] sz)) 10 136 (va_A [(h, gm_O 0 [.null, .null])] sz) := by
  refine Met.ofW (cc := cX0_init) (maxL := 1) (ret := none) (by decide) rfl ?_
  intro p e s m args below meth c s₁ B hml hv
  obtain ⟨rfl, hsz, hP, hT, hD0, -⟩ := hv
  have hx := B.exec
  have hb := B.bytes
  have hr := B.returns
  have hts0 := atoms_spec (ws := ws_ yX0_init cX0_init 1 none) B.pre
  have hts : ∀ w ∈ lw_all, w.before _ s = true := fun w h => hts0 w (List.mem_cons_of_mem _ h)
  have hown : s.vm.findClass RX0 = some m.cls := findClass_of_methodNamed B.named
  have hlocks := B.notSynchronized
  have hin : meth.name = "<init>" := (name_of_methodNamed B.named B.method).1
  have hl := lv_entry ([.ref h]) (n := 1) (Nat.le_of_ble_eq_true rfl)
  rw [lg_entry_eq]
  generalize (lg_sl ([.ref h]) ++ List.replicate (1 - (lg_sl ([.ref h])).length) Slot.unset).toArray = ls at hl ⊢
  have hl : lv_has ls 1 [(0, .ref h)] := hl
  subst hsz
  have hD := hD0.self (sz := s.heap.size)
  have hA : ∀ q : Nat, s.heap.size ≤ q → va_A [(h, gm_O 0 [.null, .null])] s.heap.size q := fun q h => Or.inr h
  have hS : va_S (va_A [(h, gm_O 0 [.null, .null])] s.heap.size) s.heap s.heap [] := va_S.rf
  refine lv_aload_n hx hb dX0_init_0 rfl (lv_at hl 0 rfl) ?_
  refine W.objInit hx hb hown (hts _ q22) (hts _ q23) (hts _ q24) rfl (by rw [hml]; exact hl.1) rfl dX0_init_1 (Nat.le_of_ble_eq_true rfl) (Nat.le_of_ble_eq_true rfl) ?_
  refine W.eq (g2 := F0 m 4 ls []) rfl ?_
  refine lv_aload_n hx hb dX0_init_4 rfl (lv_at hl 0 rfl) ?_
  refine lv_bipush (v := nI 8) hx hb dX0_init_5 (by decide +kernel) ?_
  refine lv_bipush (v := nI 16) hx hb dX0_init_7 (by decide +kernel) ?_
  refine gm_newg (t := 1) (ti := 0) (n := 8) (k := 16) (ty := .byte) (x := (16, .inl (fun _ => sb_b 0))) hx hb hown (hts _ q25) (hT.2.2.1) (hts _ q34) (hT.1.2 1 _ rfl).2 (hT.cB) (fun cA => by rw [vp_cell_i]; rw [gm_sb0]; rfl) rfl rfl (by decide) hP hD hS hA (by decide) (by decide) (Nat.le_of_ble_eq_true rfl) (Nat.le_of_ble_eq_true rfl) dX0_init_9 (fun g H hP hD hS => ?_)
  have hP : va_P D vwCl ((h, gm_O 0 [.null, .null]) :: (g, gm_R tc 1 8 (fun j => some (g + 1 + j))) :: gm_L (fun j => g + 1 + j) (fun _ => .inl (tc 0, (16, .inl (fun _ => sb_b 0)))) 8) H := hP
  have hD : va_D (va_A [(h, gm_O 0 [.null, .null])] s.heap.size) ((h, gm_O 0 [.null, .null]) :: (g, gm_R tc 1 8 (fun j => some (g + 1 + j))) :: gm_L (fun j => g + 1 + j) (fun _ => .inl (tc 0, (16, .inl (fun _ => sb_b 0)))) 8) := hD
  refine va_putF (D := D) (ci := 0) (v := .ref g) (ty := .array (.array .byte)) (C := RX0) (T := TX0) (N := 2) hx hb hts in_X0 tyX0 tyX0_ok nmX0 hown hT.1 hP hD hS 0 rfl rfl 0 (by decide) (hts _ q27) (fun _ h9 => h9) rfl hin rfl (by decide +kernel) rfl rfl (Nat.le_of_ble_eq_true rfl) dX0_init_13 (fun H locs hP hD hS => ?_)
  have hP : va_P D vwCl ((h, gm_O 0 [.ref g, .null]) :: (g, gm_R tc 1 8 (fun j => some (g + 1 + j))) :: gm_L (fun j => g + 1 + j) (fun _ => .inl (tc 0, (16, .inl (fun _ => sb_b 0)))) 8) H := hP
  have hD : va_D (va_A [(h, gm_O 0 [.null, .null])] s.heap.size) ((h, gm_O 0 [.ref g, .null]) :: (g, gm_R tc 1 8 (fun j => some (g + 1 + j))) :: gm_L (fun j => g + 1 + j) (fun _ => .inl (tc 0, (16, .inl (fun _ => sb_b 0)))) 8) := hD
  refine lv_aload_n hx hb dX0_init_16 rfl (lv_at hl 0 rfl) ?_
  refine lv_iconst (v := nI 0) hx hb dX0_init_17 (by decide +kernel) ?_
  refine gm_newb hx hb (hts _ q34) hT hP hD hS hA (n := 0) (by decide) (Nat.le_of_ble_eq_true rfl) (Nat.le_of_ble_eq_true rfl) dX0_init_18 (fun o H hP hD hS => ?_)
  have hP : va_P D vwCl (((h, gm_O 0 [.ref g, .null]) :: (g, gm_R tc 1 8 (fun j => some (g + 1 + j))) :: gm_L (fun j => g + 1 + j) (fun _ => .inl (tc 0, (16, .inl (fun _ => sb_b 0)))) 8) ++ [(o, gm_B tc 0 (fun _ => 0))]) H := hP
  have hD : va_D (va_A [(h, gm_O 0 [.null, .null])] s.heap.size) (((h, gm_O 0 [.ref g, .null]) :: (g, gm_R tc 1 8 (fun j => some (g + 1 + j))) :: gm_L (fun j => g + 1 + j) (fun _ => .inl (tc 0, (16, .inl (fun _ => sb_b 0)))) 8) ++ [(o, gm_B tc 0 (fun _ => 0))]) := hD
  refine va_put (D := D) (ci := 0) (v := .ref o) (ty := .array .byte) (C := RX0) (T := TX0) (N := 2) hx hb hts in_X0 tyX0 tyX0_ok nmX0 hown hT.1 hP hD hS 0 rfl rfl 1 (by decide) (hts _ q28) (fun _ h9 => h9) rfl (by decide +kernel) rfl rfl (Nat.le_of_ble_eq_true rfl) dX0_init_20 (fun H locs hP hD hS => ?_)
  have hP : va_P D vwCl (((h, gm_O 0 [.ref g, .ref o]) :: (g, gm_R tc 1 8 (fun j => some (g + 1 + j))) :: gm_L (fun j => g + 1 + j) (fun _ => .inl (tc 0, (16, .inl (fun _ => sb_b 0)))) 8) ++ [(o, gm_B tc 0 (fun _ => 0))]) H := hP
  have hD : va_D (va_A [(h, gm_O 0 [.null, .null])] s.heap.size) (((h, gm_O 0 [.ref g, .ref o]) :: (g, gm_R tc 1 8 (fun j => some (g + 1 + j))) :: gm_L (fun j => g + 1 + j) (fun _ => .inl (tc 0, (16, .inl (fun _ => sb_b 0)))) 8) ++ [(o, gm_B tc 0 (fun _ => 0))]) := hD
  refine W.widen (k := 10) (n := 136) (Nat.le_of_ble_eq_true rfl) (Nat.le_of_ble_eq_true rfl) ?_
  exact W.vret hx hb hr (fun t ht hW => ⟨⟨(g, o), rfl, trivial, by rw [ht]; exact hP, hD⟩, hS.F ht⟩) hS.2.2 dX0_init_23
set_option maxHeartbeats 4000000 in
set_option maxRecDepth 100000 in
/-- an empty desk -/
theorem met_minit (l : Launch) (D : va_G) (tc : Nat → ClassId) (h sz : Nat) : Met l yX1_init (ws_ yX1_init cX1_init 1 none) ({ frames := 1, cells := 10, slots := 136, locals := 12 }) (gm_Pc D tc [.ref h] sz [(h, gm_O 1 [.null, .null])] gm_Zt) (va_Qv (fun _ : Nat × Nat => True) (gm_Bw D [(h, gm_O 1 [.null, .null])] sz (fun u => (h, gm_O 1 [.ref u.1, .ref u.2]) :: (u.1, gm_R tc 3 8 (fun j => some (u.1 + 1 + j))) :: (gm_L (fun j => u.1 + 1 + j) (fun _ => gm_I tc 16 (fun _ => 0)) 8 ++ [(u.2, gm_I tc 0 (fun _ => 0))]))) (va_A [(h, gm_O 1 [.null, .null])] sz)) 10 136 (va_A [(h, gm_O 1 [.null, .null])] sz) := by
  refine Met.ofW (cc := cX1_init) (maxL := 1) (ret := none) (by decide) rfl ?_
  intro p e s m args below meth c s₁ B hml hv
  obtain ⟨rfl, hsz, hP, hT, hD0, -⟩ := hv
  have hx := B.exec
  have hb := B.bytes
  have hr := B.returns
  have hts0 := atoms_spec (ws := ws_ yX1_init cX1_init 1 none) B.pre
  have hts : ∀ w ∈ lw_all, w.before _ s = true := fun w h => hts0 w (List.mem_cons_of_mem _ h)
  have hown : s.vm.findClass RX1 = some m.cls := findClass_of_methodNamed B.named
  have hlocks := B.notSynchronized
  have hin : meth.name = "<init>" := (name_of_methodNamed B.named B.method).1
  have hl := lv_entry ([.ref h]) (n := 1) (Nat.le_of_ble_eq_true rfl)
  rw [lg_entry_eq]
  generalize (lg_sl ([.ref h]) ++ List.replicate (1 - (lg_sl ([.ref h])).length) Slot.unset).toArray = ls at hl ⊢
  have hl : lv_has ls 1 [(0, .ref h)] := hl
  subst hsz
  have hD := hD0.self (sz := s.heap.size)
  have hA : ∀ q : Nat, s.heap.size ≤ q → va_A [(h, gm_O 1 [.null, .null])] s.heap.size q := fun q h => Or.inr h
  have hS : va_S (va_A [(h, gm_O 1 [.null, .null])] s.heap.size) s.heap s.heap [] := va_S.rf
  refine lv_aload_n hx hb dX1_init_0 rfl (lv_at hl 0 rfl) ?_
  refine W.objInit hx hb hown (hts _ q224) (hts _ q23) (hts _ q24) rfl (by rw [hml]; exact hl.1) rfl dX1_init_1 (Nat.le_of_ble_eq_true rfl) (Nat.le_of_ble_eq_true rfl) ?_
  refine W.eq (g2 := F0 m 4 ls []) rfl ?_
  refine lv_aload_n hx hb dX1_init_4 rfl (lv_at hl 0 rfl) ?_
  refine lv_bipush (v := nI 8) hx hb dX1_init_5 (by decide +kernel) ?_
  refine lv_bipush (v := nI 16) hx hb dX1_init_7 (by decide +kernel) ?_
  refine gm_newg (t := 3) (ti := 2) (n := 8) (k := 16) (ty := .int) (x := (16, .inl (fun _ => nI 0))) hx hb hown (hts _ q225) (hT.2.2.2.1) (hts _ q234) (hT.1.2 3 _ rfl).2 (hT.cI) (fun cA => by rw [vp_cell_i]; rw [nI_0]; rfl) rfl rfl (by decide) hP hD hS hA (by decide) (by decide) (Nat.le_of_ble_eq_true rfl) (Nat.le_of_ble_eq_true rfl) dX1_init_9 (fun g H hP hD hS => ?_)
  have hP : va_P D vwCl ((h, gm_O 1 [.null, .null]) :: (g, gm_R tc 3 8 (fun j => some (g + 1 + j))) :: gm_L (fun j => g + 1 + j) (fun _ => .inl (tc 2, (16, .inl (fun _ => nI 0)))) 8) H := hP
  have hD : va_D (va_A [(h, gm_O 1 [.null, .null])] s.heap.size) ((h, gm_O 1 [.null, .null]) :: (g, gm_R tc 3 8 (fun j => some (g + 1 + j))) :: gm_L (fun j => g + 1 + j) (fun _ => .inl (tc 2, (16, .inl (fun _ => nI 0)))) 8) := hD
  refine va_putF (D := D) (ci := 1) (v := .ref g) (ty := .array (.array .int)) (C := RX1) (T := TX1) (N := 2) hx hb hts in_X1 tyX1 tyX1_ok nmX1 hown hT.1 hP hD hS 0 rfl rfl 0 (by decide) (hts _ q227) (fun _ h9 => h9) rfl hin rfl (by decide +kernel) rfl rfl (Nat.le_of_ble_eq_true rfl) dX1_init_13 (fun H locs hP hD hS => ?_)
  have hP : va_P D vwCl ((h, gm_O 1 [.ref g, .null]) :: (g, gm_R tc 3 8 (fun j => some (g + 1 + j))) :: gm_L (fun j => g + 1 + j) (fun _ => .inl (tc 2, (16, .inl (fun _ => nI 0)))) 8) H := hP
  have hD : va_D (va_A [(h, gm_O 1 [.null, .null])] s.heap.size) ((h, gm_O 1 [.ref g, .null]) :: (g, gm_R tc 3 8 (fun j => some (g + 1 + j))) :: gm_L (fun j => g + 1 + j) (fun _ => .inl (tc 2, (16, .inl (fun _ => nI 0)))) 8) := hD
  refine lv_aload_n hx hb dX1_init_16 rfl (lv_at hl 0 rfl) ?_
  refine lv_iconst (v := nI 0) hx hb dX1_init_17 (by decide +kernel) ?_
  refine gm_newi hx hb (hts _ q234) hT hP hD hS hA (n := 0) (by decide) (Nat.le_of_ble_eq_true rfl) (Nat.le_of_ble_eq_true rfl) dX1_init_18 (fun o H hP hD hS => ?_)
  have hP : va_P D vwCl (((h, gm_O 1 [.ref g, .null]) :: (g, gm_R tc 3 8 (fun j => some (g + 1 + j))) :: gm_L (fun j => g + 1 + j) (fun _ => .inl (tc 2, (16, .inl (fun _ => nI 0)))) 8) ++ [(o, gm_I tc 0 (fun _ => 0))]) H := hP
  have hD : va_D (va_A [(h, gm_O 1 [.null, .null])] s.heap.size) (((h, gm_O 1 [.ref g, .null]) :: (g, gm_R tc 3 8 (fun j => some (g + 1 + j))) :: gm_L (fun j => g + 1 + j) (fun _ => .inl (tc 2, (16, .inl (fun _ => nI 0)))) 8) ++ [(o, gm_I tc 0 (fun _ => 0))]) := hD
  refine va_put (D := D) (ci := 1) (v := .ref o) (ty := .array .int) (C := RX1) (T := TX1) (N := 2) hx hb hts in_X1 tyX1 tyX1_ok nmX1 hown hT.1 hP hD hS 0 rfl rfl 1 (by decide) (hts _ q228) (fun _ h9 => h9) rfl (by decide +kernel) rfl rfl (Nat.le_of_ble_eq_true rfl) dX1_init_20 (fun H locs hP hD hS => ?_)
  have hP : va_P D vwCl (((h, gm_O 1 [.ref g, .ref o]) :: (g, gm_R tc 3 8 (fun j => some (g + 1 + j))) :: gm_L (fun j => g + 1 + j) (fun _ => .inl (tc 2, (16, .inl (fun _ => nI 0)))) 8) ++ [(o, gm_I tc 0 (fun _ => 0))]) H := hP
  have hD : va_D (va_A [(h, gm_O 1 [.null, .null])] s.heap.size) (((h, gm_O 1 [.ref g, .ref o]) :: (g, gm_R tc 3 8 (fun j => some (g + 1 + j))) :: gm_L (fun j => g + 1 + j) (fun _ => .inl (tc 2, (16, .inl (fun _ => nI 0)))) 8) ++ [(o, gm_I tc 0 (fun _ => 0))]) := hD
  refine W.widen (k := 10) (n := 136) (Nat.le_of_ble_eq_true rfl) (Nat.le_of_ble_eq_true rfl) ?_
  exact W.vret hx hb hr (fun t ht hW => ⟨⟨(g, o), rfl, trivial, by rw [ht]; exact hP, hD⟩, hS.F ht⟩) hS.2.2 dX1_init_23
end
section
/-! THE SPLITTER: gfVecMul, getSecret -/
set_option maxRecDepth 100000
/-- the answer's first j bytes -/
def gm_vp (F n : Nat) (r : Nat → Nat) (y : Nat → Nat → Nat) (j : Nat) : Nat → Nat := fun t => if t < j then gm_sum (fun k => gm_mul F (r k) (y k t)) n else 0
theorem gm_vp_s (F n : Nat) (r : Nat → Nat) (y : Nat → Nat → Nat) (j : Nat) : va_up (gm_vp F n r y j) j (gm_sum (fun k => gm_mul F (r k) (y k j)) n) = gm_vp F n r y (j + 1) := by
  funext t
  unfold gm_vp va_up
  dsimp only
  by_cases h : t = j
  · subst h
    rw [if_pos rfl, if_pos (Nat.lt_succ_self _)]
  · rw [if_neg h]
    by_cases h2 : t < j
    · rw [if_pos h2, if_pos (by omega)]
    · rw [if_neg h2, if_neg (by omega)]
theorem gm_vp_0 (F n : Nat) (r : Nat → Nat) (y : Nat → Nat → Nat) : gm_vp F n r y 0 = fun _ => 0 := by
  funext t
  unfold gm_vp
  rw [if_neg (Nat.not_lt_zero _)]
theorem gm_L_more (ad : Nat → Nat) (e : Nat → va_E) (n a : Nat) : gm_L ad e n ++ [(a, e n)] = gm_L (va_up ad n a) e (n + 1) := by
  rw [gm_L_succ, va_up_self]
  congr 1
  refine gm_L_congr fun j hj => ?_
  rw [va_up_ne _ _ (Nat.ne_of_lt hj)]
  exact ⟨rfl, rfl⟩
abbrev gm_Wv (tc : Nat → ClassId) (po F xa ga n : Nat) (r : Nat → Nat) (f : Nat → Option Nat) (ra : Nat → Nat) (y : Nat → Nat → Nat) : va_W := (po, gm_O 4 [.int (nI F)]) :: (xa, gm_B tc n r) :: (ga, gm_R tc 1 n f) :: gm_L ra (fun j => gm_B tc 16 (y j)) n
theorem gm_Wv_at {tc : Nat → ClassId} {po F xa ga n : Nat} {r : Nat → Nat} {f : Nat → Option Nat} {ra : Nat → Nat} {y : Nat → Nat → Nat} {k : Nat} (hk : k < n) : (ra k, gm_B tc 16 (y k)) ∈ gm_Wv tc po F xa ga n r f ra y := List.mem_cons_of_mem _ (List.mem_cons_of_mem _ (List.mem_cons_of_mem _ (gm_L_mem (ad := ra) (e := fun j => gm_B tc 16 (y j)) hk)))
section GV
variable {p : Program} {l : Launch} {e : Env} {R : Room} {s : State} {m : MethodId} {args : Array Value} {below : List Frame} {meth : Method} {c : Code} {H : Heap} {locs : List Loc} {cells slots : Nat} {Q : State → Prop} {D : va_G} {tc : Nat → ClassId}
variable {A : Nat → Prop} {H0 : Heap}
set_option maxHeartbeats 4000000 in
set_option maxRecDepth 100000 in
/-- a byte of the answer: t shares to go -/
theorem gm_gv_l {F po xa ga n : Nat} {r : Nat → Nat} {f : Nat → Option Nat} {ra : Nat → Nat} {y : Nat → Nat → Nat} (hF : gm_ok F) (hx : p.tables.exec = Jvm.exec) (hb : c.code = cX5_gfVecMul) (hml : c.maxLocals = 7) (hT : gm_T D tc s) (hts : ∀ w ∈ lw_all, w.before args s = true) (hown : s.vm.findClass RX5 = some m.cls) (hn : n ≤ 8) (hr0 : ∀ k, r k < 256) (hy0 : ∀ k j, y k j < 256) (hf : ∀ k, k < n → f k = some (ra k)) (hf9 : 0 + 1 ≤ R.frames) (hl9 : 8 + (6 + 11) + 0 ≤ R.locals) (hc9 : cells + 0 ≤ R.cells) (hs9 : slots + 0 ≤ R.slots) (hR : va_P D vwCl (gm_Wv tc po F xa ga n r f ra y) H) {q j : Nat} (hj : j < 16) :
    ∀ (t k : Nat) (ls : Array Slot), k + t = n → lv_has ls 7 [(0, .ref po), (1, .ref xa), (2, .ref ga), (3, .ref q), (4, .int (sb_b (gm_sum (fun k => gm_mul F (r k) (y k j)) k))), (5, .int (nI j)), (6, .int (nI k))] → (∀ ls : Array Slot, lv_has ls 7 [(0, .ref po), (1, .ref xa), (2, .ref ga), (3, .ref q), (4, .int (sb_b (gm_sum (fun k => gm_mul F (r k) (y k j)) n))), (5, .int (nI j))] → W p l e R s m args below meth c H locs cells slots Q (F0 m 66 ls [])) → W p l e R s m args below meth c H locs cells slots Q (F0 m 25 ls []) := by
  intro t
  induction t with
  | zero =>
    intro k ls hk hl kk
    have hk : k = n := by omega
    subst hk
    refine lv_iload hx hb dX5_gfVecMul_25 (lv_at hl 6 rfl) ?_
    refine lv_aload_n hx hb dX5_gfVecMul_27 rfl (lv_at hl 1 rfl) ?_
    refine va_alen (v := nI k) hx hb hT.1 hR 1 0 rfl rfl rfl dX5_gfVecMul_28 ?_
    refine lv_icmp_ge (tgt := 66) hx hb dX5_gfVecMul_29 (by decide) (fun cz => ?_) (fun cz => by first | exact absurd ((nI_le (Nat.le_refl k) (by omega))) cz | exact absurd cz ((nI_le (Nat.le_refl k) (by omega))))
    exact kk ls (lv_sub hl [0, 1, 2, 3, 4, 5] rfl)
  | succ t ih =>
    intro k ls hk hl kk
    refine lv_iload hx hb dX5_gfVecMul_25 (lv_at hl 6 rfl) ?_
    refine lv_aload_n hx hb dX5_gfVecMul_27 rfl (lv_at hl 1 rfl) ?_
    refine va_alen (v := nI n) hx hb hT.1 hR 1 0 rfl rfl rfl dX5_gfVecMul_28 ?_
    refine lv_icmp_ge (tgt := 66) hx hb dX5_gfVecMul_29 (by decide) (fun cz => by first | exact absurd cz ((nI_ge (show k < n by omega) (by omega))) | exact absurd ((nI_ge (show k < n by omega) (by omega))) cz) (fun cz => ?_)
    refine lv_iload hx hb dX5_gfVecMul_32 (lv_at hl 4 rfl) ?_
    refine lv_aload_n hx hb dX5_gfVecMul_34 rfl (lv_at hl 0 rfl) ?_
    refine lv_aload_n hx hb dX5_gfVecMul_35 rfl (lv_at hl 1 rfl) ?_
    refine lv_iload hx hb dX5_gfVecMul_36 (lv_at hl 6 rfl) ?_
    refine gm_bald hx hb hT hR 1 rfl (show k < n by omega) (by omega) dX5_gfVecMul_38 ?_
    refine lv_sipush (v := nI 255) hx hb dX5_gfVecMul_39 (by decide +kernel) ?_
    refine lv_iand hx hb dX5_gfVecMul_42 ?_
    refine gm_e (y := nI (r k)) (gm_sb (hr0 k)) ?_
    refine lv_aload_n hx hb dX5_gfVecMul_43 rfl (lv_at hl 2 rfl) ?_
    refine lv_iload hx hb dX5_gfVecMul_44 (lv_at hl 6 rfl) ?_
    refine gm_qald hx hb hT hR 2 1 rfl rfl rfl (show k < n by omega) (by omega) (hf k (by omega)) dX5_gfVecMul_46 ?_
    refine lv_iload hx hb dX5_gfVecMul_47 (lv_at hl 5 rfl) ?_
    have hRk := gm_pick hR (gm_Wv_at (show k < n by omega))
    refine gm_bald hx hb hT hRk 0 rfl hj (by decide) dX5_gfVecMul_49 ?_
    refine lv_sipush (v := nI 255) hx hb dX5_gfVecMul_50 (by decide +kernel) ?_
    refine lv_iand hx hb dX5_gfVecMul_53 ?_
    refine gm_e (y := nI (y k j)) (gm_sb (hy0 k j)) ?_
    have hPo : va_P D vwCl (gm_po po F) H := hR.sub [0] rfl
    refine vp_callSi (W.runV (As := [.int (nI (r k)), .int (nI (y k j))]) (rest := [.int (sb_b (gm_sum (fun k => gm_mul F (r k) (y k j)) k))]) ⟨hx, hb, hml, hown, hts⟩ (met_gfMul l D tc po F (r k) (y k j) hF (hr0 k) (hy0 k j)) (cwV 2 hts (lw_V q205 q206 q207 q11 q208) rfl rfl rfl (by decide +kernel) ⟨hf9, hl9⟩) (gm_V (gm_preR hPo hT) (gm_recv hPo hT (ci := 4) rfl 0 rfl)) rfl rfl hl.1 rfl (lv_room (Nat.le_of_ble_eq_true rfl)) dX5_gfVecMul_54 ⟨hc9, hs9⟩) (fun r9 e9 => ?_)
    subst e9
    refine lv_ixor hx hb dX5_gfVecMul_57 ?_
    refine gm_e (y := sb_b (gm_sum (fun k => gm_mul F (r k) (y k j)) (k + 1))) (gm_sb_x _ _) ?_
    refine lv_istore (lv' := [(4, .int (sb_b (gm_sum (fun k => gm_mul F (r k) (y k j)) (k + 1)))), (0, .ref po), (1, .ref xa), (2, .ref ga), (3, .ref q), (5, .int (nI j)), (6, .int (nI k))]) hx hb dX5_gfVecMul_58 hl (by decide) rfl (fun ls hl => ?_)
    refine lv_iinc (v := nI (k + 1)) (lv' := [(6, .int (nI (k + 1))), (4, .int (sb_b (gm_sum (fun k => gm_mul F (r k) (y k j)) (k + 1)))), (0, .ref po), (1, .ref xa), (2, .ref ga), (3, .ref q), (5, .int (nI j))]) hx hb dX5_gfVecMul_60 hl (k := 6) rfl (nI_add k 1) (by decide) rfl (fun ls hl => ?_)
    refine lv_goto (tgt := 25) hx hb dX5_gfVecMul_63 (by decide) ?_
    exact ih (k + 1) ls (by omega) (lv_sub hl [2, 3, 4, 5, 1, 6, 0] rfl) kk
set_option maxHeartbeats 4000000 in
set_option maxRecDepth 100000 in
/-- gfVecMul's loop: t bytes to go -/
theorem gm_gv_o {F po xa ga n : Nat} {r : Nat → Nat} {f : Nat → Option Nat} {ra : Nat → Nat} {y : Nat → Nat → Nat} (hF : gm_ok F) (hx : p.tables.exec = Jvm.exec) (hb : c.code = cX5_gfVecMul) (hml : c.maxLocals = 7) (hT : gm_T D tc s) (hts : ∀ w ∈ lw_all, w.before args s = true) (hown : s.vm.findClass RX5 = some m.cls) (hn : n ≤ 8) (hr0 : ∀ k, r k < 256) (hy0 : ∀ k j, y k j < 256) (hf : ∀ k, k < n → f k = some (ra k)) (hf9 : 0 + 1 ≤ R.frames) (hl9 : 8 + (6 + 11) + 0 ≤ R.locals) (hc9 : cells + 0 ≤ R.cells) (hs9 : slots + 0 ≤ R.slots) (h1n : 1 ≤ n) (hRo : va_P D vwCl (gm_Wv tc po F xa ga n r f ra y) H0) (hap : ∀ q ∈ gm_Wv tc po F xa ga n r f ra y, ¬ A q.1) {q : Nat} :
    ∀ (t j : Nat) (H : Heap) (locs : List Loc) (ls : Array Slot), j + t = 16 → va_P D vwCl [(q, gm_B tc 16 (gm_vp F n r y j))] H → va_D A [(q, gm_B tc 16 (gm_vp F n r y j))] → va_S A H0 H locs → lv_has ls 7 [(0, .ref po), (1, .ref xa), (2, .ref ga), (3, .ref q), (5, .int (nI j))] → (∀ (H : Heap) (locs : List Loc) (ls : Array Slot), va_P D vwCl [(q, gm_B tc 16 (gm_vp F n r y 16))] H → va_D A [(q, gm_B tc 16 (gm_vp F n r y 16))] → va_S A H0 H locs → lv_has ls 7 [(3, .ref q)] → W p l e R s m args below meth c H locs cells slots Q (F0 m 79 ls [])) → W p l e R s m args below meth c H locs cells slots Q (F0 m 10 ls []) := by
  intro t
  induction t with
  | zero =>
    intro j H locs ls hj hP hD hS hl kk
    have hj : j = 16 := by omega
    subst hj
    have hR := gm_ro hS hRo hap
    have hRk := gm_pick hR (gm_Wv_at (show 0 < n by omega))
    refine lv_iload hx hb dX5_gfVecMul_10 (lv_at hl 4 rfl) ?_
    refine lv_aload_n hx hb dX5_gfVecMul_12 rfl (lv_at hl 2 rfl) ?_
    refine lv_iconst (v := nI 0) hx hb dX5_gfVecMul_13 (by decide +kernel) ?_
    refine gm_qald hx hb hT hR 2 1 rfl rfl rfl (show 0 < n by omega) (by omega) (hf 0 (by omega)) dX5_gfVecMul_14 ?_
    refine va_alen (v := nI 16) hx hb hT.1 hRk 0 0 rfl rfl rfl dX5_gfVecMul_15 ?_
    refine lv_icmp_ge (tgt := 79) hx hb dX5_gfVecMul_16 (by decide) (fun cz => ?_) (fun cz => by first | exact absurd ((nI_le (Nat.le_refl 16) (by decide))) cz | exact absurd cz ((nI_le (Nat.le_refl 16) (by decide))))
    exact kk H locs ls hP hD hS (lv_sub hl [3] rfl)
  | succ t ih =>
    intro j H locs ls hj hP hD hS hl kk
    have hR := gm_ro hS hRo hap
    have hRk := gm_pick hR (gm_Wv_at (show 0 < n by omega))
    refine lv_iload hx hb dX5_gfVecMul_10 (lv_at hl 4 rfl) ?_
    refine lv_aload_n hx hb dX5_gfVecMul_12 rfl (lv_at hl 2 rfl) ?_
    refine lv_iconst (v := nI 0) hx hb dX5_gfVecMul_13 (by decide +kernel) ?_
    refine gm_qald hx hb hT hR 2 1 rfl rfl rfl (show 0 < n by omega) (by omega) (hf 0 (by omega)) dX5_gfVecMul_14 ?_
    refine va_alen (v := nI 16) hx hb hT.1 hRk 0 0 rfl rfl rfl dX5_gfVecMul_15 ?_
    refine lv_icmp_ge (tgt := 79) hx hb dX5_gfVecMul_16 (by decide) (fun cz => by first | exact absurd cz ((nI_ge (show j < 16 by omega) (by decide))) | exact absurd ((nI_ge (show j < 16 by omega) (by decide))) cz) (fun cz => ?_)
    refine lv_iconst (v := nI 0) hx hb dX5_gfVecMul_19 (by decide +kernel) ?_
    refine gm_e (y := sb_b (gm_sum (fun k => gm_mul F (r k) (y k j)) 0)) (gm_sb_0) ?_
    refine lv_istore (lv' := [(4, .int (sb_b (gm_sum (fun k => gm_mul F (r k) (y k j)) 0))), (0, .ref po), (1, .ref xa), (2, .ref ga), (3, .ref q), (5, .int (nI j))]) hx hb dX5_gfVecMul_20 hl (by decide) rfl (fun ls hl => ?_)
    refine lv_iconst (v := nI 0) hx hb dX5_gfVecMul_22 (by decide +kernel) ?_
    refine lv_istore (lv' := [(6, .int (nI 0)), (4, .int (sb_b (gm_sum (fun k => gm_mul F (r k) (y k j)) 0))), (0, .ref po), (1, .ref xa), (2, .ref ga), (3, .ref q), (5, .int (nI j))]) hx hb dX5_gfVecMul_23 hl (by decide) rfl (fun ls hl => ?_)
    refine gm_gv_l hF hx hb hml hT hts hown hn hr0 hy0 hf hf9 hl9 hc9 hs9 hR (show j < 16 by omega) n 0 ls (by omega) (lv_sub hl [2, 3, 4, 5, 1, 6, 0] rfl) (fun ls hl => ?_)
    refine lv_aload_n hx hb dX5_gfVecMul_66 rfl (lv_at hl 3 rfl) ?_
    refine lv_iload hx hb dX5_gfVecMul_67 (lv_at hl 5 rfl) ?_
    refine lv_iload hx hb dX5_gfVecMul_69 (lv_at hl 4 rfl) ?_
    refine lv_i2b (v := sb_b (gm_sum (fun k => gm_mul F (r k) (y k j)) n)) hx hb dX5_gfVecMul_71 (gm_sb_c _) ?_
    refine gm_bast (v := (gm_sum (fun k => gm_mul F (r k) (y k j)) n)) hx hb hT hP hD hS 0 rfl (j := j) (by omega) (by decide) dX5_gfVecMul_72 (fun H locs hP hD hS => ?_)
    rw [gm_vp_s] at hP hD
    have hP : va_P D vwCl [(q, gm_B tc 16 (gm_vp F n r y (j + 1)))] H := hP
    have hD : va_D A [(q, gm_B tc 16 (gm_vp F n r y (j + 1)))] := hD
    refine lv_iinc (v := nI (j + 1)) (lv' := [(5, .int (nI (j + 1))), (0, .ref po), (1, .ref xa), (2, .ref ga), (3, .ref q), (4, .int (sb_b (gm_sum (fun k => gm_mul F (r k) (y k j)) n)))]) hx hb dX5_gfVecMul_73 hl (k := 5) rfl (nI_add j 1) (by decide) rfl (fun ls hl => ?_)
    refine lv_goto (tgt := 10) hx hb dX5_gfVecMul_76 (by decide) ?_
    exact ih (j + 1) H locs ls (by omega) hP hD hS (lv_sub hl [1, 2, 3, 4, 0] rfl) kk
end GV
set_option maxHeartbeats 4000000 in
set_option maxRecDepth 100000 in
/-- the weighted sums, byte by byte -/
theorem met_gfVecMul (l : Launch) (D : va_G) (tc : Nat → ClassId) (po F xa ga n sz : Nat) (r : Nat → Nat) (f : Nat → Option Nat) (ra : Nat → Nat) (y : Nat → Nat → Nat) (hF : gm_ok F) (h1n : 1 ≤ n) (hn : n ≤ 8) (hr0 : ∀ k, r k < 256) (hy0 : ∀ k j, y k j < 256) (hf : ∀ k, k < n → f k = some (ra k)) : Met l yX5_gfVecMul (ws_ yX5_gfVecMul cX5_gfVecMul 7 (some (.array .byte))) ({ frames := 1, cells := 1, slots := 16, locals := 25 }) (gm_Pq D tc [.ref po, .ref xa, .ref ga] sz (gm_Wv tc po F xa ga n r f ra y)) (va_Qr (fun _ : Unit => True) (gm_Br D [] sz (fun _ q => [(q, gm_B tc 16 (gm_vp F n r y 16))])) (va_A [] sz)) 1 16 (va_A [] sz) := by
  refine Met.ofW (cc := cX5_gfVecMul) (maxL := 7) (ret := (some (.array .byte))) (by decide) rfl ?_
  intro p e s m args below meth c s₁ B hml hv
  obtain ⟨rfl, hsz, hP, hT⟩ := hv
  have hx := B.exec
  have hb := B.bytes
  have hr := B.returns
  have hts0 := atoms_spec (ws := ws_ yX5_gfVecMul cX5_gfVecMul 7 (some (.array .byte))) B.pre
  have hts : ∀ w ∈ lw_all, w.before _ s = true := fun w h => hts0 w (List.mem_cons_of_mem _ h)
  have hown : s.vm.findClass RX5 = some m.cls := findClass_of_methodNamed B.named
  have hlocks := B.notSynchronized
  have hl := lv_entry ([.ref po, .ref xa, .ref ga]) (n := 7) (Nat.le_of_ble_eq_true rfl)
  rw [lg_entry_eq]
  generalize (lg_sl ([.ref po, .ref xa, .ref ga]) ++ List.replicate (7 - (lg_sl ([.ref po, .ref xa, .ref ga])).length) Slot.unset).toArray = ls at hl ⊢
  have hl : lv_has ls 7 [(0, .ref po), (1, .ref xa), (2, .ref ga)] := hl
  subst hsz
  have hRo := hP
  have hap := gm_apart0 hP
  have hA : ∀ q : Nat, s.heap.size ≤ q → va_A [] s.heap.size q := fun q h => Or.inr h
  have hS : va_S (va_A [] s.heap.size) s.heap s.heap [] := va_S.rf
  have hP : va_P D vwCl ([] : va_W) s.heap := gm_Psub hP (fun q h => nomatch h)
  have hD : va_D (va_A [] s.heap.size) ([] : va_W) := gm_Dm.mpr ⟨List.nodup_nil, fun q h => nomatch h⟩
  have hRk := gm_pick hRo (gm_Wv_at (show 0 < n by omega))
  refine lv_aload_n hx hb dX5_gfVecMul_0 rfl (lv_at hl 2 rfl) ?_
  refine lv_iconst (v := nI 0) hx hb dX5_gfVecMul_1 (by decide +kernel) ?_
  refine gm_qald hx hb hT hRo 2 1 rfl rfl rfl (show 0 < n by omega) (by omega) (hf 0 (by omega)) dX5_gfVecMul_2 ?_
  refine va_alen (v := nI 16) hx hb hT.1 hRk 0 0 rfl rfl rfl dX5_gfVecMul_3 ?_
  refine gm_newb hx hb (hts _ q34) hT hP hD hS hA (n := 16) (by decide) (Nat.le_of_ble_eq_true rfl) (Nat.le_of_ble_eq_true rfl) dX5_gfVecMul_4 (fun q H hP hD hS => ?_)
  rw [← gm_vp_0 F n r y] at hP hD
  refine lv_astore_n (lv' := [(3, .ref q), (0, .ref po), (1, .ref xa), (2, .ref ga)]) hx hb dX5_gfVecMul_6 rfl hl (by decide) rfl (fun ls hl => ?_)
  refine lv_iconst (v := nI 0) hx hb dX5_gfVecMul_7 (by decide +kernel) ?_
  refine lv_istore (lv' := [(5, .int (nI 0)), (3, .ref q), (0, .ref po), (1, .ref xa), (2, .ref ga)]) hx hb dX5_gfVecMul_8 hl (by decide) rfl (fun ls hl => ?_)
  refine gm_gv_o hF hx hb hml hT hts hown hn hr0 hy0 hf (Nat.le_of_ble_eq_true rfl) (Nat.le_of_ble_eq_true rfl) (Nat.le_of_ble_eq_true rfl) (Nat.le_of_ble_eq_true rfl) h1n hRo hap 16 0 H _ ls rfl hP hD hS (lv_sub hl [2, 3, 4, 1, 0] rfl) (fun H locs ls hP hD hS hl => ?_)
  refine lv_aload_n hx hb dX5_gfVecMul_79 rfl (lv_at hl 0 rfl) ?_
  exact W.aret (v := .ref q) hx hb hr (Or.inr ⟨_, rfl⟩) (Or.inr ⟨_, rfl⟩) (fun t ht hW => ⟨⟨(), q, rfl, trivial, by rw [ht]; exact hP, hD⟩, hS.F ht⟩) hS.2.2 dX5_gfVecMul_80
end
section
/-! THE SPLITTER'S SECRET -/
set_option maxRecDepth 100000
/-- what getSecret reads -/
abbrev gm_Wg (tc : Nat → ClassId) (h sa po F n : Nat) (fS : Nat → Option Nat) (sh bs p0 : Nat → Nat) (y : Nat → Nat → Nat) : va_W := (h, gm_O 3 [.ref sa, .ref po]) :: (po, gm_O 4 [.int (nI F)]) :: (sa, gm_R tc 4 n fS) :: (gm_L sh (fun j => gm_O 2 [.ref (bs j), .int (nI (p0 j))]) n ++ gm_L bs (fun j => gm_B tc 16 (y j)) n)
theorem gm_Wg_s {tc : Nat → ClassId} {h sa po F n : Nat} {fS : Nat → Option Nat} {sh bs p0 : Nat → Nat} {y : Nat → Nat → Nat} {k : Nat} (hk : k < n) : (sh k, gm_O 2 [.ref (bs k), .int (nI (p0 k))]) ∈ gm_Wg tc h sa po F n fS sh bs p0 y := List.mem_cons_of_mem _ (List.mem_cons_of_mem _ (List.mem_cons_of_mem _ (List.mem_append_left _ (gm_L_mem (ad := sh) (e := fun j => gm_O 2 [.ref (bs j), .int (nI (p0 j))]) hk))))
theorem gm_Wg_b {tc : Nat → ClassId} {h sa po F n : Nat} {fS : Nat → Option Nat} {sh bs p0 : Nat → Nat} {y : Nat → Nat → Nat} {k : Nat} (hk : k < n) : (bs k, gm_B tc 16 (y k)) ∈ gm_Wg tc h sa po F n fS sh bs p0 y := List.mem_cons_of_mem _ (List.mem_cons_of_mem _ (List.mem_cons_of_mem _ (List.mem_append_right _ (gm_L_mem (ad := bs) (e := fun j => gm_B tc 16 (y j)) hk))))
/-- how many factors are there when j shares were looked at -/
def gm_ct (i j : Nat) : Nat := if j ≤ i then j else j - 1
theorem gm_ct_i (i : Nat) : gm_ct i (i + 1) = gm_ct i i := by
  unfold gm_ct
  rw [if_neg (by omega), if_pos (Nat.le_refl i)]
  omega
theorem gm_ct_s {i j : Nat} (h : ¬ j = i) : gm_ct i (j + 1) = gm_ct i j + 1 := by
  unfold gm_ct
  by_cases h1 : j ≤ i
  · rw [if_pos h1, if_pos (by omega)]
  · rw [if_neg h1, if_neg (by omega)]
    omega
theorem gm_ct_k {i j : Nat} (h : ¬ j = i) : gm_sk i (gm_ct i j) = j := by
  unfold gm_sk gm_ct
  by_cases h1 : j ≤ i
  · rw [if_pos h1, if_pos (by omega)]
  · rw [if_neg h1, if_neg (by omega)]
    omega
theorem gm_ct_lt {i j n : Nat} (h : ¬ j = i) (hj : j < n) (hi : i < n) : gm_ct i j < n - 1 := by
  unfold gm_ct
  split <;> omega
theorem gm_ct_n {i n : Nat} (hi : i < n) : gm_ct i n = n - 1 := by
  unfold gm_ct
  rw [if_neg (by omega)]
/-- the first i weights -/
def gm_rp (F n : Nat) (p0 : Nat → Nat) (i : Nat) : Nat → Nat := fun t => if t < i then gm_lc F p0 t (n - 1) else 0
theorem gm_rp_0 (F n : Nat) (p0 : Nat → Nat) : gm_rp F n p0 0 = fun _ => 0 := by
  funext t
  unfold gm_rp
  rw [if_neg (Nat.not_lt_zero _)]
theorem gm_rp_s (F n : Nat) (p0 : Nat → Nat) (i : Nat) : va_up (gm_rp F n p0 i) i (gm_lc F p0 i (n - 1)) = gm_rp F n p0 (i + 1) := by
  funext t
  unfold gm_rp va_up
  dsimp only
  by_cases h : t = i
  · subst h
    rw [if_pos rfl, if_pos (Nat.lt_succ_self _)]
  · rw [if_neg h]
    by_cases h2 : t < i
    · rw [if_pos h2, if_pos (by omega)]
    · rw [if_neg h2, if_neg (by omega)]
theorem gm_rp_lt {F : Nat} (hF : gm_ok F) (n : Nat) (p0 : Nat → Nat) (i t : Nat) : gm_rp F n p0 i t < 256 := by
  unfold gm_rp
  split
  · exact gm_lc_lt hF _ _ _
  · decide
/-- the whole answer -/
def gm_av (F n : Nat) (p0 : Nat → Nat) (y : Nat → Nat → Nat) : Nat → Nat := fun k => if k < 16 then gm_la F p0 n (fun t => y t k) else 0
theorem gm_vp_av (F n : Nat) (p0 : Nat → Nat) (y : Nat → Nat → Nat) : gm_vp F n (gm_rp F n p0 n) y 16 = gm_av F n p0 y := by
  funext k
  unfold gm_vp gm_av gm_la
  split
  · refine gm_sum_congr n (fun t ht => ?_)
    unfold gm_rp
    rw [if_pos ht]
  · rfl
section GS
variable {p : Program} {l : Launch} {e : Env} {R : Room} {s : State} {m : MethodId} {args : Array Value} {below : List Frame} {meth : Method} {c : Code} {H : Heap} {locs : List Loc} {cells slots : Nat} {Q : State → Prop} {D : va_G} {tc : Nat → ClassId}
variable {A : Nat → Prop} {H0 : Heap}
set_option maxHeartbeats 4000000 in
set_option maxRecDepth 100000 in
/-- the factors of the i-th weight: t shares to go -/
theorem gm_gs1 {h sa po F n : Nat} {fS : Nat → Option Nat} {sh bs p0 : Nat → Nat} {y : Nat → Nat → Nat} (hF : gm_ok F) (hx : p.tables.exec = Jvm.exec) (hb : c.code = cX4_getSecret) (hml : c.maxLocals = 9) (hT : gm_T D tc s) (hts : ∀ w ∈ lw_all, w.before args s = true) (hown : s.vm.findClass RX4 = some m.cls) (hn : n ≤ 8) (hp0 : ∀ k, p0 k < 16) (hfS : ∀ k, k < n → fS k = some (sh k)) (hf9 : 2 + 1 ≤ R.frames) (hl9 : 72 ≤ R.locals) (hc9 : cells + 0 ≤ R.cells) (hs9 : slots + 0 ≤ R.slots) (hRo : va_P D vwCl (gm_Wg tc h sa po F n fS sh bs p0 y) H0) (hap : ∀ q ∈ gm_Wg tc h sa po F n fS sh bs p0 y, ¬ A q.1) {z2 z4 z5 i : Nat} (hi : i < n) {R9 : Nat → Nat} {T9 : va_W} :
    ∀ (t j : Nat) (P9 : Nat → Nat) (H : Heap) (locs : List Loc) (ls : Array Slot), j + t = n → (∀ k, k < gm_ct i j → P9 k = gm_lq F p0 i (gm_sk i k)) → va_P D vwCl ((z2, gm_B tc n R9) :: (z4, gm_B tc (n - 1) P9) :: T9) H → va_D A ((z2, gm_B tc n R9) :: (z4, gm_B tc (n - 1) P9) :: T9) → va_S A H0 H locs → lv_has ls 9 [(0, .ref h), (1, .int (nI n)), (2, .ref z2), (4, .ref z4), (5, .ref z5), (6, .int (nI i)), (7, .int (nI (gm_ct i j))), (8, .int (nI j))] →
    (∀ (P9 : Nat → Nat) (H : Heap) (locs : List Loc) (ls : Array Slot), (∀ k, k < n - 1 → P9 k = gm_lq F p0 i (gm_sk i k)) → va_P D vwCl ((z2, gm_B tc n R9) :: (z4, gm_B tc (n - 1) P9) :: T9) H → va_D A ((z2, gm_B tc n R9) :: (z4, gm_B tc (n - 1) P9) :: T9) → va_S A H0 H locs → lv_has ls 9 [(0, .ref h), (1, .int (nI n)), (2, .ref z2), (4, .ref z4), (5, .ref z5), (6, .int (nI i))] → W p l e R s m args below meth c H locs cells slots Q (F0 m 143 ls [])) → W p l e R s m args below meth c H locs cells slots Q (F0 m 78 ls []) := by
  intro t
  induction t with
  | zero =>
    intro j P9 H locs ls hj hq hP hD hS hl kk
    have hj : j = n := by omega
    subst hj
    refine lv_iload hx hb dX4_getSecret_78 (lv_at hl 7 rfl) ?_
    refine lv_iload_n hx hb dX4_getSecret_80 rfl (lv_at hl 1 rfl) ?_
    refine lv_icmp_ge (tgt := 143) hx hb dX4_getSecret_81 (by decide) (fun cz => ?_) (fun cz => by first | exact absurd ((nI_le (Nat.le_refl j) (by omega))) cz | exact absurd cz ((nI_le (Nat.le_refl j) (by omega))))
    rw [gm_ct_n hi] at hq
    exact kk P9 H locs ls hq hP hD hS (lv_sub hl [0, 1, 2, 3, 4, 5] rfl)
  | succ t ih =>
    intro j P9 H locs ls hj hq hP hD hS hl kk
    refine lv_iload hx hb dX4_getSecret_78 (lv_at hl 7 rfl) ?_
    refine lv_iload_n hx hb dX4_getSecret_80 rfl (lv_at hl 1 rfl) ?_
    refine lv_icmp_ge (tgt := 143) hx hb dX4_getSecret_81 (by decide) (fun cz => by first | exact absurd cz ((nI_ge (show j < n by omega) (by omega))) | exact absurd ((nI_ge (show j < n by omega) (by omega))) cz) (fun cz => ?_)
    refine lv_iload hx hb dX4_getSecret_84 (lv_at hl 7 rfl) ?_
    refine lv_iload hx hb dX4_getSecret_86 (lv_at hl 5 rfl) ?_
    refine lv_icmp_eq (tgt := 137) hx hb dX4_getSecret_88 (by decide) (fun cz => ?_) (fun cz => ?_)
    · have cz : j = i := (nI_eq (by omega) (by omega)).mp cz
      subst cz
      refine lv_iinc (v := nI (j + 1)) (lv' := [(8, .int (nI (j + 1))), (0, .ref h), (1, .int (nI n)), (2, .ref z2), (4, .ref z4), (5, .ref z5), (6, .int (nI j)), (7, .int (nI (gm_ct j j)))]) hx hb dX4_getSecret_137 hl (k := 7) rfl (nI_add j 1) (by decide) rfl (fun ls hl => ?_)
      refine lv_goto (tgt := 78) hx hb dX4_getSecret_140 (by decide) ?_
      rw [← gm_ct_i] at hq hl
      exact ih (j + 1) P9 H locs ls (by omega) hq hP hD hS (lv_sub hl [1, 2, 3, 4, 5, 6, 7, 0] rfl) kk
    · have cz : ¬ j = i := fun q => cz (congrArg nI q)
      have hR := gm_ro hS hRo hap
      have hRj := gm_pick hR (gm_Wg_s (show j < n by omega))
      have hRi := gm_pick hR (gm_Wg_s hi)
      refine lv_aload hx hb dX4_getSecret_91 (lv_at hl 3 rfl) ?_
      refine lv_iload hx hb dX4_getSecret_93 (lv_at hl 6 rfl) ?_
      refine lv_iinc (v := nI ((gm_ct i j) + 1)) (lv' := [(7, .int (nI ((gm_ct i j) + 1))), (0, .ref h), (1, .int (nI n)), (2, .ref z2), (4, .ref z4), (5, .ref z5), (6, .int (nI i)), (8, .int (nI j))]) hx hb dX4_getSecret_95 hl (k := 6) rfl (nI_add (gm_ct i j) 1) (by decide) rfl (fun ls hl => ?_)
      refine lv_aload_n hx hb dX4_getSecret_98 rfl (lv_at hl 1 rfl) ?_
      refine va_get (D := D) (ci := 3) (v := .ref po) (C := RX4) (T := TX4) (N := 2) hx hb hts in_X4 hown hT.1 hR 0 rfl rfl 1 (by decide) (hts _ q179) (fun _ h9 => h9) rfl dX4_getSecret_99 ?_
      refine lv_aload_n hx hb dX4_getSecret_102 rfl (lv_at hl 1 rfl) ?_
      refine va_get (D := D) (ci := 3) (v := .ref sa) (C := RX4) (T := TX4) (N := 2) hx hb hts in_X4 hown hT.1 hR 0 rfl rfl 0 (by decide) (hts _ q178) (fun _ h9 => h9) rfl dX4_getSecret_103 ?_
      refine lv_iload hx hb dX4_getSecret_106 (lv_at hl 7 rfl) ?_
      refine gm_qald hx hb hT hR 2 4 rfl rfl rfl (show j < n by omega) (by omega) (hfS j (show j < n by omega)) dX4_getSecret_108 ?_
      refine va_get (D := D) (ci := 2) (v := .int (nI (p0 j))) (C := RX2) (T := TX2) (N := 2) hx hb hts in_X2 hown hT.1 hRj 0 rfl rfl 1 (by decide) (hts _ q72) (fun _ h9 => h9) rfl dX4_getSecret_109 ?_
      refine lv_aload_n hx hb dX4_getSecret_112 rfl (lv_at hl 1 rfl) ?_
      refine va_get (D := D) (ci := 3) (v := .ref sa) (C := RX4) (T := TX4) (N := 2) hx hb hts in_X4 hown hT.1 hR 0 rfl rfl 0 (by decide) (hts _ q178) (fun _ h9 => h9) rfl dX4_getSecret_113 ?_
      refine lv_iload hx hb dX4_getSecret_116 (lv_at hl 6 rfl) ?_
      refine gm_qald hx hb hT hR 2 4 rfl rfl rfl hi (by omega) (hfS i hi) dX4_getSecret_118 ?_
      refine va_get (D := D) (ci := 2) (v := .int (nI (p0 i))) (C := RX2) (T := TX2) (N := 2) hx hb hts in_X2 hown hT.1 hRi 0 rfl rfl 1 (by decide) (hts _ q72) (fun _ h9 => h9) rfl dX4_getSecret_119 ?_
      refine lv_aload_n hx hb dX4_getSecret_122 rfl (lv_at hl 1 rfl) ?_
      refine va_get (D := D) (ci := 3) (v := .ref sa) (C := RX4) (T := TX4) (N := 2) hx hb hts in_X4 hown hT.1 hR 0 rfl rfl 0 (by decide) (hts _ q178) (fun _ h9 => h9) rfl dX4_getSecret_123 ?_
      refine lv_iload hx hb dX4_getSecret_126 (lv_at hl 7 rfl) ?_
      refine gm_qald hx hb hT hR 2 4 rfl rfl rfl (show j < n by omega) (by omega) (hfS j (show j < n by omega)) dX4_getSecret_128 ?_
      refine va_get (D := D) (ci := 2) (v := .int (nI (p0 j))) (C := RX2) (T := TX2) (N := 2) hx hb hts in_X2 hown hT.1 hRj 0 rfl rfl 1 (by decide) (hts _ q72) (fun _ h9 => h9) rfl dX4_getSecret_129 ?_
      refine lv_ixor hx hb dX4_getSecret_132 ?_
      refine gm_e (y := nI ((p0 i) ^^^ (p0 j))) (nx_xor (p0 i) (p0 j)) ?_
      have hPo : va_P D vwCl (gm_po po F) H := hR.sub [1] rfl
      have hxr : p0 i ^^^ p0 j < 16 := @Nat.xor_lt_two_pow _ _ 4 (hp0 i) (hp0 j)
      refine vp_callSi (W.runV (As := [.int (nI (p0 j)), .int (nI (p0 i ^^^ p0 j))]) (rest := [.int (nI (gm_ct i j)), .ref z4]) ⟨hx, hb, hml, hown, hts⟩ (met_gfDiv l D tc po F (p0 j) (p0 i ^^^ p0 j) hF (Nat.lt_trans (hp0 j) (by decide)) hxr) (cwV 2 hts (lw_V q197 q198 q199 q11 q200) rfl rfl rfl (by decide +kernel) ⟨hf9, by show 8 + (3 + 11) + 50 ≤ _; omega⟩) (gm_V (gm_preR hPo hT) (gm_recv hPo hT (ci := 4) rfl 0 rfl)) rfl rfl hl.1 rfl (lv_room (Nat.le_of_ble_eq_true rfl)) dX4_getSecret_133 ⟨hc9, hs9⟩) (fun r9 e9 => ?_)
      subst e9
      refine gm_bast (v := gm_lq F p0 i j) hx hb hT hP hD hS 1 rfl (j := gm_ct i j) (gm_ct_lt cz (by omega) hi) (by omega) dX4_getSecret_136 (fun H locs hP hD hS => ?_)
      have hP : va_P D vwCl ((z2, gm_B tc n R9) :: (z4, gm_B tc (n - 1) (va_up P9 (gm_ct i j) (gm_lq F p0 i j))) :: T9) H := hP
      have hD : va_D A ((z2, gm_B tc n R9) :: (z4, gm_B tc (n - 1) (va_up P9 (gm_ct i j) (gm_lq F p0 i j))) :: T9) := hD
      refine lv_iinc (v := nI (j + 1)) (lv' := [(8, .int (nI (j + 1))), (7, .int (nI ((gm_ct i j) + 1))), (0, .ref h), (1, .int (nI n)), (2, .ref z2), (4, .ref z4), (5, .ref z5), (6, .int (nI i))]) hx hb dX4_getSecret_137 hl (k := 7) rfl (nI_add j 1) (by decide) rfl (fun ls hl => ?_)
      refine lv_goto (tgt := 78) hx hb dX4_getSecret_140 (by decide) ?_
      have e7 : gm_ct i j + 1 = gm_ct i (j + 1) := (gm_ct_s cz).symm
      rw [e7] at hl
      refine ih (j + 1) _ H locs ls (by omega) (fun k hk => ?_) hP hD hS (lv_sub hl [2, 3, 4, 5, 6, 7, 1, 0] rfl) kk
      rw [gm_ct_s cz] at hk
      by_cases hk2 : k = gm_ct i j
      · subst hk2; rw [va_up_self, gm_ct_k cz]
      · rw [va_up_ne _ _ hk2]; exact hq k (by omega)
set_option maxHeartbeats 4000000 in
set_option maxRecDepth 100000 in
/-- the i-th weight: t factors to go -/
theorem gm_gs2 {h sa po F n : Nat} {fS : Nat → Option Nat} {sh bs p0 : Nat → Nat} {y : Nat → Nat → Nat} (hF : gm_ok F) (hx : p.tables.exec = Jvm.exec) (hb : c.code = cX4_getSecret) (hml : c.maxLocals = 9) (hT : gm_T D tc s) (hts : ∀ w ∈ lw_all, w.before args s = true) (hown : s.vm.findClass RX4 = some m.cls) (hn : n ≤ 8) (hp0 : ∀ k, p0 k < 16) (hfS : ∀ k, k < n → fS k = some (sh k)) (hf9 : 2 + 1 ≤ R.frames) (hl9 : 72 ≤ R.locals) (hc9 : cells + 0 ≤ R.cells) (hs9 : slots + 0 ≤ R.slots) (hRo : va_P D vwCl (gm_Wg tc h sa po F n fS sh bs p0 y) H0) (hap : ∀ q ∈ gm_Wg tc h sa po F n fS sh bs p0 y, ¬ A q.1) {z2 z4 z5 i : Nat} {R9 P9 : Nat → Nat} {T9 : va_W} (hq : ∀ k, k < n - 1 → P9 k = gm_lq F p0 i (gm_sk i k)) (hP : va_P D vwCl ((z2, gm_B tc n R9) :: (z4, gm_B tc (n - 1) P9) :: T9) H) (hS : va_S A H0 H locs) :
    ∀ (t k : Nat) (ls : Array Slot), k + t = n - 1 → lv_has ls 9 [(0, .ref h), (1, .int (nI n)), (2, .ref z2), (3, .int (sb_b (gm_lc F p0 i k))), (4, .ref z4), (5, .ref z5), (6, .int (nI i)), (8, .int (nI k))] → (∀ (ls : Array Slot), lv_has ls 9 [(0, .ref h), (1, .int (nI n)), (2, .ref z2), (3, .int (sb_b (gm_lc F p0 i (n - 1)))), (4, .ref z4), (5, .ref z5), (6, .int (nI i))] → W p l e R s m args below meth c H locs cells slots Q (F0 m 184 ls [])) → W p l e R s m args below meth c H locs cells slots Q (F0 m 148 ls []) := by
  intro t
  induction t with
  | zero =>
    intro k ls hk hl kk
    have hk : k = n - 1 := by omega
    subst hk
    refine lv_iload hx hb dX4_getSecret_148 (lv_at hl 7 rfl) ?_
    refine lv_aload hx hb dX4_getSecret_150 (lv_at hl 4 rfl) ?_
    refine va_alen (v := nI (n - 1)) hx hb hT.1 hP 1 0 rfl rfl rfl dX4_getSecret_152 ?_
    refine lv_icmp_eq (tgt := 184) hx hb dX4_getSecret_153 (by decide) (fun cz => ?_) (fun cz => by first | exact absurd (rfl) cz | exact absurd cz (rfl))
    exact kk ls (lv_sub hl [0, 1, 2, 3, 4, 5, 6] rfl)
  | succ t ih =>
    intro k ls hk hl kk
    refine lv_iload hx hb dX4_getSecret_148 (lv_at hl 7 rfl) ?_
    refine lv_aload hx hb dX4_getSecret_150 (lv_at hl 4 rfl) ?_
    refine va_alen (v := nI (n - 1)) hx hb hT.1 hP 1 0 rfl rfl rfl dX4_getSecret_152 ?_
    refine lv_icmp_eq (tgt := 184) hx hb dX4_getSecret_153 (by decide) (fun cz => by first | exact absurd cz (fun q => absurd ((nI_eq (by omega) (by omega)).mp q) (show ¬ k = n - 1 by omega)) | exact absurd (fun q => absurd ((nI_eq (by omega) (by omega)).mp q) (show ¬ k = n - 1 by omega)) cz) (fun cz => ?_)
    have hR := gm_ro hS hRo hap
    refine lv_aload_n hx hb dX4_getSecret_156 rfl (lv_at hl 0 rfl) ?_
    refine va_get (D := D) (ci := 3) (v := .ref po) (C := RX4) (T := TX4) (N := 2) hx hb hts in_X4 hown hT.1 hR 0 rfl rfl 1 (by decide) (hts _ q179) (fun _ h9 => h9) rfl dX4_getSecret_157 ?_
    refine lv_iload_n hx hb dX4_getSecret_160 rfl (lv_at hl 3 rfl) ?_
    refine lv_sipush (v := nI 255) hx hb dX4_getSecret_161 (by decide +kernel) ?_
    refine lv_iand hx hb dX4_getSecret_164 ?_
    refine gm_e (y := nI (gm_lc F p0 i k)) (gm_sb (gm_lc_lt hF _ _ _)) ?_
    refine lv_aload hx hb dX4_getSecret_165 (lv_at hl 4 rfl) ?_
    refine lv_iload hx hb dX4_getSecret_167 (lv_at hl 7 rfl) ?_
    refine gm_bald hx hb hT hP 1 rfl (show k < n - 1 by omega) (by omega) dX4_getSecret_169 ?_
    rw [hq k (by omega)]
    have hq9 : gm_lq F p0 i (gm_sk i k) < 256 := gm_mul_lt hF _ (Nat.lt_trans (hp0 _) (by decide))
    refine lv_sipush (v := nI 255) hx hb dX4_getSecret_170 (by decide +kernel) ?_
    refine lv_iand hx hb dX4_getSecret_173 ?_
    refine gm_e (y := nI (gm_lq F p0 i (gm_sk i k))) (gm_sb hq9) ?_
    have hPo : va_P D vwCl (gm_po po F) H := hR.sub [1] rfl
    refine vp_callSi (W.runV (As := [.int (nI (gm_lc F p0 i k)), .int (nI (gm_lq F p0 i (gm_sk i k)))]) (rest := []) ⟨hx, hb, hml, hown, hts⟩ (met_gfMul l D tc po F (gm_lc F p0 i k) (gm_lq F p0 i (gm_sk i k)) hF (gm_lc_lt hF _ _ _) hq9) (cwV 2 hts (lw_V q209 q206 q207 q11 q208) rfl rfl rfl (by decide +kernel) ⟨by show 0 + 1 ≤ _; omega, by show 8 + (6 + 11) + 0 ≤ _; omega⟩) (gm_V (gm_preR hPo hT) (gm_recv hPo hT (ci := 4) rfl 0 rfl)) rfl rfl hl.1 rfl (lv_room (Nat.le_of_ble_eq_true rfl)) dX4_getSecret_174 ⟨hc9, hs9⟩) (fun r9 e9 => ?_)
    subst e9
    refine lv_istore_n (lv' := [(3, .int (sb_b (gm_lc F p0 i (k + 1)))), (0, .ref h), (1, .int (nI n)), (2, .ref z2), (4, .ref z4), (5, .ref z5), (6, .int (nI i)), (8, .int (nI k))]) hx hb dX4_getSecret_177 rfl hl (by decide) rfl (fun ls hl => ?_)
    refine lv_iinc (v := nI (k + 1)) (lv' := [(8, .int (nI (k + 1))), (3, .int (sb_b (gm_lc F p0 i (k + 1)))), (0, .ref h), (1, .int (nI n)), (2, .ref z2), (4, .ref z4), (5, .ref z5), (6, .int (nI i))]) hx hb dX4_getSecret_178 hl (k := 7) rfl (nI_add k 1) (by decide) rfl (fun ls hl => ?_)
    refine lv_goto (tgt := 148) hx hb dX4_getSecret_181 (by decide) ?_
    exact ih (k + 1) ls (by omega) (lv_sub hl [2, 3, 4, 1, 5, 6, 7, 0] rfl) kk
set_option maxHeartbeats 4000000 in
set_option maxRecDepth 100000 in
/-- getSecret's loop: t shares to go -/
theorem gm_gs3 {h sa po F n : Nat} {fS : Nat → Option Nat} {sh bs p0 : Nat → Nat} {y : Nat → Nat → Nat} (hF : gm_ok F) (hx : p.tables.exec = Jvm.exec) (hb : c.code = cX4_getSecret) (hml : c.maxLocals = 9) (hT : gm_T D tc s) (hts : ∀ w ∈ lw_all, w.before args s = true) (hown : s.vm.findClass RX4 = some m.cls) (hn : n ≤ 8) (hp0 : ∀ k, p0 k < 16) (hfS : ∀ k, k < n → fS k = some (sh k)) (hf9 : 2 + 1 ≤ R.frames) (hl9 : 72 ≤ R.locals) (hc9 : 21 ≤ R.cells) (hs9 : 311 ≤ R.slots) (hRo : va_P D vwCl (gm_Wg tc h sa po F n fS sh bs p0 y) H0) (hap : ∀ q ∈ gm_Wg tc h sa po F n fS sh bs p0 y, ¬ A q.1) {z2 z4 z5 : Nat} :
    ∀ (t i : Nat) (P9 : Nat → Nat) (f9 : Nat → Option Nat) (cl : Nat → Nat) (H : Heap) (locs : List Loc) (ls : Array Slot), i + t = n → (∀ k, k < i → f9 k = some (cl k)) → va_P D vwCl ((z2, gm_B tc n (gm_rp F n p0 i)) :: (z4, gm_B tc (n - 1) P9) :: (z5, gm_R tc 1 n f9) :: gm_L cl (fun j => gm_B tc 16 (y j)) i) H → va_D A ((z2, gm_B tc n (gm_rp F n p0 i)) :: (z4, gm_B tc (n - 1) P9) :: (z5, gm_R tc 1 n f9) :: gm_L cl (fun j => gm_B tc 16 (y j)) i) → va_S A H0 H locs → (∀ q, H0.size ≤ q → A q) → lv_has ls 9 [(0, .ref h), (1, .int (nI n)), (2, .ref z2), (4, .ref z4), (5, .ref z5), (6, .int (nI i))] →
    (∀ (P9 : Nat → Nat) (f9 : Nat → Option Nat) (cl : Nat → Nat) (H : Heap) (locs : List Loc) (ls : Array Slot), (∀ k, k < n → f9 k = some (cl k)) → va_P D vwCl ((z2, gm_B tc n (gm_rp F n p0 n)) :: (z4, gm_B tc (n - 1) P9) :: (z5, gm_R tc 1 n f9) :: gm_L cl (fun j => gm_B tc 16 (y j)) n) H → va_D A ((z2, gm_B tc n (gm_rp F n p0 n)) :: (z4, gm_B tc (n - 1) P9) :: (z5, gm_R tc 1 n f9) :: gm_L cl (fun j => gm_B tc 16 (y j)) n) → va_S A H0 H locs → lv_has ls 9 [(0, .ref h), (2, .ref z2), (5, .ref z5)] → W p l e R s m args below meth c H locs (12 + n) (167 + 16 * n) Q (F0 m 195 ls [])) → W p l e R s m args below meth c H locs (12 + i) (167 + 16 * i) Q (F0 m 51 ls []) := by
  intro t
  induction t with
  | zero =>
    intro i P9 f9 cl H locs ls hi hf hP hD hS hA hl kk
    have hi : i = n := by omega
    subst hi
    refine lv_iload hx hb dX4_getSecret_51 (lv_at hl 5 rfl) ?_
    refine lv_iload_n hx hb dX4_getSecret_53 rfl (lv_at hl 1 rfl) ?_
    refine lv_icmp_ge (tgt := 195) hx hb dX4_getSecret_54 (by decide) (fun cz => ?_) (fun cz => by first | exact absurd ((nI_le (Nat.le_refl i) (by omega))) cz | exact absurd cz ((nI_le (Nat.le_refl i) (by omega))))
    exact kk P9 f9 cl H locs ls hf hP hD hS (lv_sub hl [0, 2, 4] rfl)
  | succ t ih =>
    intro i P9 f9 cl H locs ls hi hf hP hD hS hA hl kk
    refine lv_iload hx hb dX4_getSecret_51 (lv_at hl 5 rfl) ?_
    refine lv_iload_n hx hb dX4_getSecret_53 rfl (lv_at hl 1 rfl) ?_
    refine lv_icmp_ge (tgt := 195) hx hb dX4_getSecret_54 (by decide) (fun cz => by first | exact absurd cz ((nI_ge (show i < n by omega) (by omega))) | exact absurd ((nI_ge (show i < n by omega) (by omega))) cz) (fun cz => ?_)
    have hi9 : i < n := by omega
    have hR := gm_ro hS hRo hap
    refine lv_aload hx hb dX4_getSecret_57 (lv_at hl 4 rfl) ?_
    refine lv_iload hx hb dX4_getSecret_59 (lv_at hl 5 rfl) ?_
    refine lv_aload_n hx hb dX4_getSecret_61 rfl (lv_at hl 0 rfl) ?_
    refine va_get (D := D) (ci := 3) (v := .ref sa) (C := RX4) (T := TX4) (N := 2) hx hb hts in_X4 hown hT.1 hR 0 rfl rfl 0 (by decide) (hts _ q178) (fun _ h9 => h9) rfl dX4_getSecret_62 ?_
    refine lv_iload hx hb dX4_getSecret_65 (lv_at hl 5 rfl) ?_
    refine gm_qald hx hb hT hR 2 4 rfl rfl rfl hi9 (by omega) (hfS i hi9) dX4_getSecret_67 ?_
    have hRi : va_P D vwCl [(sh i, gm_O 2 [.ref (bs i), .int (nI (p0 i))]), (bs i, gm_B tc 16 (y i))] H := (gm_pick hR (gm_Wg_s hi9)).app (gm_pick hR (gm_Wg_b hi9))
    refine gm_callr (wr := ((z2, gm_B tc n (gm_rp F n p0 i)) :: (z4, gm_B tc (n - 1) P9) :: (z5, gm_R tc 1 n f9) :: gm_L cl (fun j => gm_B tc 16 (y j)) i)) (wc := []) (va_runV (As := []) (rest := [.int (nI i), .ref z5]) ⟨hx, hb, hml, hown, hts⟩ (met_enc l D tc (sh i) (bs i) (p0 i) H.size (y i)) (cwV 0 hts (lw_V q192 q193 q194 q5 q195) rfl rfl rfl (by decide +kernel) ⟨by show 2 + 1 ≤ _; omega, by show 8 + (1 + 11) + 40 ≤ _; omega⟩) (gm_V (gm_preQ hRi hT) (gm_recv hRi hT (ci := 2) rfl 0 rfl)) rfl rfl hl.1 rfl (lv_room (Nat.le_of_ble_eq_true rfl)) dX4_getSecret_68 ⟨by omega, by omega⟩) (by rw [List.append_nil]; exact hP) (by rw [List.append_nil]; exact hD) hS hA (fun _ u9 H locs _ hP hD hS => ?_)
    have hpm : (((z2, gm_B tc n (gm_rp F n p0 i)) :: (z4, gm_B tc (n - 1) P9) :: (z5, gm_R tc 1 n f9) :: gm_L cl (fun j => gm_B tc 16 (y j)) i) ++ [(u9, gm_B tc 16 (y i))]).Perm ((z2, gm_B tc n (gm_rp F n p0 i)) :: (z4, gm_B tc (n - 1) P9) :: (z5, gm_R tc 1 n f9) :: (u9, gm_B tc 16 (y i)) :: gm_L cl (fun j => gm_B tc 16 (y j)) i) := .cons _ (.cons _ (.cons _ (List.perm_append_comm (l₂ := [(u9, gm_B tc 16 (y i))]))))
    have hP := gm_Pperm hP hpm
    have hD := gm_Dperm hD hpm
    refine gm_gast hx hb hT hP hD hS 2 3 rfl rfl (j := i) hi9 (by omega) dX4_getSecret_71 (fun H locs hP hD hS => ?_)
    have hpm : ((z2, gm_B tc n (gm_rp F n p0 i)) :: (z4, gm_B tc (n - 1) P9) :: (z5, gm_R tc 1 n (va_up f9 i (some u9))) :: (u9, gm_B tc 16 (y i)) :: gm_L cl (fun j => gm_B tc 16 (y j)) i).Perm ((z2, gm_B tc n (gm_rp F n p0 i)) :: (z4, gm_B tc (n - 1) P9) :: (z5, gm_R tc 1 n (va_up f9 i (some u9))) :: gm_L (va_up cl i u9) (fun j => gm_B tc 16 (y j)) (i + 1)) := by
      rw [← gm_L_more cl (fun j => gm_B tc 16 (y j)) i u9]
      exact .cons _ (.cons _ (.cons _ (List.perm_append_comm (l₁ := [(u9, gm_B tc 16 (y i))]))))
    have hP := gm_Pperm hP hpm
    have hD := gm_Dperm hD hpm
    refine lv_iconst (v := nI 0) hx hb dX4_getSecret_72 (by decide +kernel) ?_
    refine gm_e (y := nI (gm_ct i 0)) (by rw [show gm_ct i 0 = 0 from if_pos (Nat.zero_le i)]) ?_
    refine lv_istore (lv' := [(7, .int (nI (gm_ct i 0))), (0, .ref h), (1, .int (nI n)), (2, .ref z2), (4, .ref z4), (5, .ref z5), (6, .int (nI i))]) hx hb dX4_getSecret_73 hl (by decide) rfl (fun ls hl => ?_)
    refine lv_iconst (v := nI 0) hx hb dX4_getSecret_75 (by decide +kernel) ?_
    refine lv_istore (lv' := [(8, .int (nI 0)), (7, .int (nI (gm_ct i 0))), (0, .ref h), (1, .int (nI n)), (2, .ref z2), (4, .ref z4), (5, .ref z5), (6, .int (nI i))]) hx hb dX4_getSecret_76 hl (by decide) rfl (fun ls hl => ?_)
    refine gm_gs1 hF hx hb hml hT hts hown hn hp0 hfS hf9 hl9 (by omega) (by omega) hRo hap hi9 n 0 P9 H locs ls (by omega) (fun k hk => absurd (show k < 0 by rwa [show gm_ct i 0 = 0 from if_pos (Nat.zero_le i)] at hk) (Nat.not_lt_zero k)) hP hD hS (lv_sub hl [2, 3, 4, 5, 6, 7, 1, 0] rfl) (fun P9 H locs ls hq hP hD hS hl => ?_)
    refine lv_iconst (v := nI 1) hx hb dX4_getSecret_143 (by decide +kernel) ?_
    refine gm_e (y := sb_b (gm_lc F p0 i 0)) (gm_sb_1) ?_
    refine lv_istore_n (lv' := [(3, .int (sb_b (gm_lc F p0 i 0))), (0, .ref h), (1, .int (nI n)), (2, .ref z2), (4, .ref z4), (5, .ref z5), (6, .int (nI i))]) hx hb dX4_getSecret_144 rfl hl (by decide) rfl (fun ls hl => ?_)
    refine lv_iconst (v := nI 0) hx hb dX4_getSecret_145 (by decide +kernel) ?_
    refine lv_istore (lv' := [(8, .int (nI 0)), (3, .int (sb_b (gm_lc F p0 i 0))), (0, .ref h), (1, .int (nI n)), (2, .ref z2), (4, .ref z4), (5, .ref z5), (6, .int (nI i))]) hx hb dX4_getSecret_146 hl (by decide) rfl (fun ls hl => ?_)
    refine gm_gs2 hF hx hb hml hT hts hown hn hp0 hfS hf9 hl9 (by omega) (by omega) hRo hap hq hP hS (n - 1) 0 ls (by omega) (lv_sub hl [2, 3, 4, 1, 5, 6, 7, 0] rfl) (fun ls hl => ?_)
    refine lv_aload_n hx hb dX4_getSecret_184 rfl (lv_at hl 2 rfl) ?_
    refine lv_iload hx hb dX4_getSecret_185 (lv_at hl 6 rfl) ?_
    refine lv_iload_n hx hb dX4_getSecret_187 rfl (lv_at hl 3 rfl) ?_
    refine gm_bast (v := gm_lc F p0 i (n - 1)) hx hb hT hP hD hS 0 rfl (j := i) hi9 (by omega) dX4_getSecret_188 (fun H locs hP hD hS => ?_)
    rw [gm_rp_s] at hP hD
    have hP : va_P D vwCl ((z2, gm_B tc n (gm_rp F n p0 (i + 1))) :: (z4, gm_B tc (n - 1) P9) :: (z5, gm_R tc 1 n (va_up f9 i (some u9))) :: gm_L (va_up cl i u9) (fun j => gm_B tc 16 (y j)) (i + 1)) H := hP
    have hD : va_D A ((z2, gm_B tc n (gm_rp F n p0 (i + 1))) :: (z4, gm_B tc (n - 1) P9) :: (z5, gm_R tc 1 n (va_up f9 i (some u9))) :: gm_L (va_up cl i u9) (fun j => gm_B tc 16 (y j)) (i + 1)) := hD
    refine lv_iinc (v := nI (i + 1)) (lv' := [(6, .int (nI (i + 1))), (0, .ref h), (1, .int (nI n)), (2, .ref z2), (3, .int (sb_b (gm_lc F p0 i (n - 1)))), (4, .ref z4), (5, .ref z5)]) hx hb dX4_getSecret_189 hl (k := 6) rfl (nI_add i 1) (by decide) rfl (fun ls hl => ?_)
    refine lv_goto (tgt := 51) hx hb dX4_getSecret_192 (by decide) ?_
    refine W.widen (k := 12 + (i + 1)) (n := 167 + 16 * (i + 1)) (by omega) (by omega) ?_
    refine ih (i + 1) P9 _ _ H locs ls (by omega) (fun k hk => ?_) hP hD hS hA (lv_sub hl [1, 2, 3, 5, 6, 0] rfl) kk
    by_cases hk2 : k = i
    · subst hk2; rw [va_up_self, va_up_self]
    · rw [va_up_ne _ _ hk2, va_up_ne _ _ hk2]; exact hf k (by omega)
end GS
set_option maxHeartbeats 4000000 in
set_option maxRecDepth 100000 in
/-- the secret: Lagrange at 0, byte by byte -/
theorem met_secret (l : Launch) (D : va_G) (tc : Nat → ClassId) (h sa po F n sz : Nat) (fS : Nat → Option Nat) (sh bs p0 : Nat → Nat) (y : Nat → Nat → Nat) (hF : gm_ok F) (h1n : 1 ≤ n) (hn : n ≤ 8) (hp0 : ∀ k, p0 k < 16) (hy0 : ∀ k j, y k j < 256) (hfS : ∀ k, k < n → fS k = some (sh k)) : Met l yX4_getSecret (ws_ yX4_getSecret cX4_getSecret 9 (some (.array .byte))) ({ frames := 3, cells := 21, slots := 311, locals := 72 }) (gm_Pq D tc [.ref h] sz (gm_Wg tc h sa po F n fS sh bs p0 y)) (va_Qr (fun _ : Unit => True) (gm_Br D [] sz (fun _ q => [(q, gm_B tc 16 (gm_av F n p0 y))])) (va_A [] sz)) 21 311 (va_A [] sz) := by
  refine Met.ofW (cc := cX4_getSecret) (maxL := 9) (ret := (some (.array .byte))) (by decide) rfl ?_
  intro p e s m args below meth c s₁ B hml hv
  obtain ⟨rfl, hsz, hP, hT⟩ := hv
  have hx := B.exec
  have hb := B.bytes
  have hr := B.returns
  have hts0 := atoms_spec (ws := ws_ yX4_getSecret cX4_getSecret 9 (some (.array .byte))) B.pre
  have hts : ∀ w ∈ lw_all, w.before _ s = true := fun w h => hts0 w (List.mem_cons_of_mem _ h)
  have hown : s.vm.findClass RX4 = some m.cls := findClass_of_methodNamed B.named
  have hlocks := B.notSynchronized
  have hl := lv_entry ([.ref h]) (n := 9) (Nat.le_of_ble_eq_true rfl)
  rw [lg_entry_eq]
  generalize (lg_sl ([.ref h]) ++ List.replicate (9 - (lg_sl ([.ref h])).length) Slot.unset).toArray = ls at hl ⊢
  have hl : lv_has ls 9 [(0, .ref h)] := hl
  subst hsz
  have hRo := hP
  have hap := gm_apart0 hP
  have hA : ∀ q : Nat, s.heap.size ≤ q → va_A [] s.heap.size q := fun q h => Or.inr h
  have hS : va_S (va_A [] s.heap.size) s.heap s.heap [] := va_S.rf
  have hP : va_P D vwCl ([] : va_W) s.heap := gm_Psub hP (fun q h => nomatch h)
  have hD : va_D (va_A [] s.heap.size) ([] : va_W) := gm_Dm.mpr ⟨List.nodup_nil, fun q h => nomatch h⟩
  have hR := hRo
  refine lv_aload_n hx hb dX4_getSecret_0 rfl (lv_at hl 0 rfl) ?_
  refine va_get (D := D) (ci := 3) (v := .ref sa) (C := RX4) (T := TX4) (N := 2) hx hb hts in_X4 hown hT.1 hR 0 rfl rfl 0 (by decide) (hts _ q178) (fun _ h9 => h9) rfl dX4_getSecret_1 ?_
  refine va_alen (v := nI n) hx hb hT.1 hR 2 4 rfl rfl rfl dX4_getSecret_4 ?_
  refine lv_istore_n (lv' := [(1, .int (nI n)), (0, .ref h)]) hx hb dX4_getSecret_5 rfl hl (by decide) rfl (fun ls hl => ?_)
  refine lv_iload_n hx hb dX4_getSecret_6 rfl (lv_at hl 0 rfl) ?_
  refine lv_if_ne (tgt := 20) hx hb dX4_getSecret_7 (by decide) (fun cz => ?_) (fun cz => by first | exact absurd ((nI_ne0 (n := n) (by omega) (by omega))) cz | exact absurd cz ((nI_ne0 (n := n) (by omega) (by omega))))
  refine lv_iload_n hx hb dX4_getSecret_20 rfl (lv_at hl 0 rfl) ?_
  refine gm_newb hx hb (hts _ q34) hT hP hD hS hA (n := n) (by omega) (Nat.le_of_ble_eq_true rfl) (by show 0 + n ≤ 311; omega) dX4_getSecret_21 (fun z2 H hP hD hS => ?_)
  rw [← gm_rp_0 F n p0] at hP hD
  have hP : va_P D vwCl [(z2, gm_B tc n (gm_rp F n p0 0))] H := hP
  have hD : va_D (va_A [] s.heap.size) [(z2, gm_B tc n (gm_rp F n p0 0))] := hD
  refine lv_astore_n (lv' := [(2, .ref z2), (1, .int (nI n)), (0, .ref h)]) hx hb dX4_getSecret_23 rfl hl (by decide) rfl (fun ls hl => ?_)
  refine lv_iload_n hx hb dX4_getSecret_24 rfl (lv_at hl 1 rfl) ?_
  refine lv_iconst (v := nI 1) hx hb dX4_getSecret_25 (by decide +kernel) ?_
  refine lv_isub hx hb dX4_getSecret_26 ?_
  refine gm_e (y := nI (n - 1)) (pk_sub h1n) ?_
  refine gm_newb hx hb (hts _ q34) hT hP hD hS hA (n := n - 1) (by omega) (Nat.le_of_ble_eq_true rfl) (by show 0 + n + (n - 1) ≤ 311; omega) dX4_getSecret_27 (fun z4 H hP hD hS => ?_)
  have hP : va_P D vwCl [(z2, gm_B tc n (gm_rp F n p0 0)), (z4, gm_B tc (n - 1) (fun _ => 0))] H := hP
  have hD : va_D (va_A [] s.heap.size) [(z2, gm_B tc n (gm_rp F n p0 0)), (z4, gm_B tc (n - 1) (fun _ => 0))] := hD
  have hR := gm_ro hS hRo hap
  have h09 : 0 < n := by omega
  refine lv_astore (lv' := [(4, .ref z4), (2, .ref z2), (1, .int (nI n)), (0, .ref h)]) hx hb dX4_getSecret_29 hl (by decide) rfl (fun ls hl => ?_)
  refine lv_iload_n hx hb dX4_getSecret_31 rfl (lv_at hl 2 rfl) ?_
  refine lv_aload_n hx hb dX4_getSecret_32 rfl (lv_at hl 3 rfl) ?_
  refine va_get (D := D) (ci := 3) (v := .ref sa) (C := RX4) (T := TX4) (N := 2) hx hb hts in_X4 hown hT.1 hR 0 rfl rfl 0 (by decide) (hts _ q178) (fun _ h9 => h9) rfl dX4_getSecret_33 ?_
  refine lv_iconst (v := nI 0) hx hb dX4_getSecret_36 (by decide +kernel) ?_
  refine gm_qald hx hb hT hR 2 4 rfl rfl rfl h09 (by omega) (hfS 0 h09) dX4_getSecret_37 ?_
  have hRi : va_P D vwCl [(sh 0, gm_O 2 [.ref (bs 0), .int (nI (p0 0))]), (bs 0, gm_B tc 16 (y 0))] H := (gm_pick hR (gm_Wg_s h09)).app (gm_pick hR (gm_Wg_b h09))
  refine gm_callr (wr := [(z2, gm_B tc n (gm_rp F n p0 0)), (z4, gm_B tc (n - 1) (fun _ => 0))]) (wc := []) (va_runV (As := []) (rest := [.int (nI n)]) ⟨hx, hb, hml, hown, hts⟩ (met_enc l D tc (sh 0) (bs 0) (p0 0) H.size (y 0)) (cwV 0 hts (lw_V q192 q193 q194 q5 q195) rfl rfl rfl (by decide +kernel) ⟨Nat.le_of_ble_eq_true rfl, Nat.le_of_ble_eq_true rfl⟩) (gm_V (gm_preQ hRi hT) (gm_recv hRi hT (ci := 2) rfl 0 rfl)) rfl rfl hl.1 rfl (lv_room (Nat.le_of_ble_eq_true rfl)) dX4_getSecret_38 ⟨Nat.le_of_ble_eq_true rfl, by show 0 + n + (n - 1) + 16 ≤ 311; omega⟩) hP hD hS hA (fun _ u9 H locs _ hP hD hS => ?_)
  have hP : va_P D vwCl [(z2, gm_B tc n (gm_rp F n p0 0)), (z4, gm_B tc (n - 1) (fun _ => 0)), (u9, gm_B tc 16 (y 0))] H := hP
  have hD : va_D (va_A [] s.heap.size) [(z2, gm_B tc n (gm_rp F n p0 0)), (z4, gm_B tc (n - 1) (fun _ => 0)), (u9, gm_B tc 16 (y 0))] := hD
  refine va_alen (v := nI 16) hx hb hT.1 hP 2 0 rfl rfl rfl dX4_getSecret_41 ?_
  refine gm_newg (t := 1) (ti := 0) (n := n) (k := 16) (ty := .byte) (x := (16, .inl (fun _ => sb_b 0))) hx hb hown (hts _ q196) (hT.2.2.1) (hts _ q34) (hT.1.2 1 _ rfl).2 (hT.cB) (fun cA => by rw [vp_cell_i]; rw [gm_sb0]; rfl) rfl rfl (by decide) hP hD hS hA (by omega) (by decide) (by show 0 + 1 + 1 + 1 + (1 + n) ≤ 21; omega) (by show 0 + n + (n - 1) + 16 + (n + n * 16) ≤ 311; omega) dX4_getSecret_42 (fun z5 H hP hD hS => ?_)
  have hsb : List.Sublist ((z2, gm_B tc n (gm_rp F n p0 0)) :: (z4, gm_B tc (n - 1) (fun _ => 0)) :: (z5, gm_R tc 1 n (fun j => some (z5 + 1 + j))) :: gm_L (fun _ => 0) (fun j => gm_B tc 16 (y j)) 0) ([(z2, gm_B tc n (gm_rp F n p0 0)), (z4, gm_B tc (n - 1) (fun _ => 0)), (u9, gm_B tc 16 (y 0))] ++ ((z5, gm_R tc 1 n (fun j => some (z5 + 1 + j))) :: gm_L (fun j => z5 + 1 + j) (fun _ => .inl (tc 0, (16, .inl (fun _ => sb_b 0)))) n)) := .cons₂ _ (.cons₂ _ (.cons _ (.cons₂ _ (List.nil_sublist _))))
  have hP := gm_Psub hP (fun q h => hsb.subset h)
  have hD := gm_Dsub hD hsb
  refine lv_astore (lv' := [(5, .ref z5), (4, .ref z4), (2, .ref z2), (1, .int (nI n)), (0, .ref h)]) hx hb dX4_getSecret_46 hl (by decide) rfl (fun ls hl => ?_)
  refine lv_iconst (v := nI 0) hx hb dX4_getSecret_48 (by decide +kernel) ?_
  refine lv_istore (lv' := [(6, .int (nI 0)), (5, .ref z5), (4, .ref z4), (2, .ref z2), (1, .int (nI n)), (0, .ref h)]) hx hb dX4_getSecret_49 hl (by decide) rfl (fun ls hl => ?_)
  refine W.widen (k := 12 + 0) (n := 167 + 16 * 0) (by omega) (by omega) ?_
  refine gm_gs3 hF hx hb hml hT hts hown hn hp0 hfS (Nat.le_of_ble_eq_true rfl) (Nat.le_of_ble_eq_true rfl) (Nat.le_of_ble_eq_true rfl) (Nat.le_of_ble_eq_true rfl) hRo hap n 0 _ _ _ H _ ls (by omega) (fun k hk => absurd hk (Nat.not_lt_zero k)) hP hD hS hA (lv_sub hl [5, 4, 3, 2, 1, 0] rfl) (fun P9 f9 cl H locs ls hf hP hD hS hl => ?_)
  have hR := gm_ro hS hRo hap
  refine lv_aload_n hx hb dX4_getSecret_195 rfl (lv_at hl 0 rfl) ?_
  refine va_get (D := D) (ci := 3) (v := .ref po) (C := RX4) (T := TX4) (N := 2) hx hb hts in_X4 hown hT.1 hR 0 rfl rfl 1 (by decide) (hts _ q179) (fun _ h9 => h9) rfl dX4_getSecret_196 ?_
  refine lv_aload_n hx hb dX4_getSecret_199 rfl (lv_at hl 1 rfl) ?_
  refine lv_aload hx hb dX4_getSecret_200 (lv_at hl 2 rfl) ?_
  have hPv : va_P D vwCl (gm_Wv tc po F z2 z5 n (gm_rp F n p0 n) f9 cl y) H := by
    rw [gm_Pm]
    intro q hq
    rcases List.mem_cons.mp hq with e9 | hq
    · rw [e9]; exact gm_Pm.mp hR _ (List.mem_cons_of_mem _ List.mem_cons_self)
    rcases List.mem_cons.mp hq with e9 | hq
    · rw [e9]; exact gm_Pm.mp hP _ List.mem_cons_self
    rcases List.mem_cons.mp hq with e9 | hq
    · rw [e9]; exact gm_Pm.mp hP _ (List.mem_cons_of_mem _ (List.mem_cons_of_mem _ List.mem_cons_self))
    · exact gm_Pm.mp hP _ (List.mem_cons_of_mem _ (List.mem_cons_of_mem _ (List.mem_cons_of_mem _ hq)))
  refine gm_callr (wr := []) (wc := []) (va_runV (As := [.ref z2, .ref z5]) (rest := []) ⟨hx, hb, hml, hown, hts⟩ (met_gfVecMul l D tc po F z2 z5 n H.size (gm_rp F n p0 n) f9 cl y hF h1n hn (gm_rp_lt hF n p0 n) hy0 hf) (cwV 2 hts (lw_V q210 q211 q212 q11 q213) rfl rfl rfl (by decide +kernel) ⟨Nat.le_of_ble_eq_true rfl, Nat.le_of_ble_eq_true rfl⟩) (gm_V (gm_preQ hPv hT) (gm_recv hPv hT (ci := 4) rfl 0 rfl)) rfl rfl hl.1 rfl (lv_room (Nat.le_of_ble_eq_true rfl)) dX4_getSecret_202 ⟨by show 12 + n + 1 ≤ 21; omega, by show 167 + 16 * n + 16 ≤ 311; omega⟩) (gm_Psub hP (fun q h => nomatch h)) (gm_Dsub hD (List.nil_sublist _)) hS hA (fun _ u9 H locs _ hP hD hS => ?_)
  rw [gm_vp_av] at hP hD
  refine W.widen (k := 21) (n := 311) (by omega) (by omega) ?_
  exact W.aret (v := .ref u9) hx hb hr (Or.inr ⟨_, rfl⟩) (Or.inr ⟨_, rfl⟩) (fun t ht hW => ⟨⟨(), u9, rfl, trivial, by rw [ht]; exact hP, hD⟩, hS.F ht⟩) hS.2.2 dX4_getSecret_205
end
section
/-! THE COMPONENT COMBINES -/
set_option maxRecDepth 100000
theorem gm_at8 : ∀ m, m < 256 → ∀ i, i < 8 → m / 2 ^ i % 2 = 1 → gm_ar m 8 (gm_cn m i) = i ∧ gm_cn m i < gm_cn m 8 := by decide +kernel
theorem gm_cellB (tc : Nat → ClassId) {n : Nat} {Y Y' : Nat → Nat} (h : ∀ k, k < n → Y k = Y' k) : vp_cell (tc 0) (n, .inl (fun j => sb_b (Y j))) = vp_cell (tc 0) (n, .inl (fun j => sb_b (Y' j))) := by
  rw [vp_cell_i, vp_cell_i]
  unfold arrV
  congr 1
  apply congrArg
  funext j
  show Value.int (sb_b (Y j.val)) = Value.int (sb_b (Y' j.val))
  rw [h j.val j.isLt]
theorem gm_cellI (tc : Nat → ClassId) {n : Nat} {Y Y' : Nat → Nat} (h : ∀ k, k < n → Y k = Y' k) : vp_cell (tc 2) (n, .inl (fun j => nI (Y j))) = vp_cell (tc 2) (n, .inl (fun j => nI (Y' j))) := by
  rw [vp_cell_i, vp_cell_i]
  unfold arrV
  congr 1
  apply congrArg
  funext j
  show Value.int (nI (Y j.val)) = Value.int (nI (Y' j.val))
  rw [h j.val j.isLt]
theorem gm_headB {D : va_G} {tc : Nat → ClassId} {H : Heap} {z n : Nat} {Y Y' : Nat → Nat} {T : va_W} (h : ∀ k, k < n → Y k = Y' k) (hP : va_P D vwCl ((z, gm_B tc n Y) :: T) H) : va_P D vwCl ((z, gm_B tc n Y') :: T) H := by
  rw [gm_Pm] at hP ⊢
  intro q hq
  rcases List.mem_cons.mp hq with e | e
  · rw [e]
    have h1 := hP _ List.mem_cons_self
    show H[z]? = some (vp_cell (tc 0) (n, .inl (fun j => sb_b (Y' j))))
    rw [← gm_cellB tc h]
    exact h1
  · exact hP q (List.mem_cons_of_mem _ e)
theorem gm_headD {A : Nat → Prop} {z : Nat} {e e' : va_E} {T : va_W} (hD : va_D A ((z, e) :: T)) : va_D A ((z, e') :: T) := by
  rw [gm_Dm] at hD ⊢
  refine ⟨hD.1, fun q hq => ?_⟩
  rcases List.mem_cons.mp hq with e9 | e9
  · rw [e9]
    exact hD.2 (z, e) List.mem_cons_self
  · exact hD.2 q (List.mem_cons_of_mem _ e9)
theorem gm_pm4 {α : Type} (q u : α) (L1 L2 : List α) : (q :: u :: (L1 ++ L2)).Perm ((L1 ++ [q]) ++ (L2 ++ [u])) := by
  have h1 : ((L1 ++ [q]) ++ (L2 ++ [u])).Perm (q :: (L1 ++ (L2 ++ [u]))) := by
    rw [List.append_assoc]
    exact List.perm_middle
  have h2 : (L1 ++ (L2 ++ [u])).Perm (u :: (L1 ++ L2)) := by
    rw [← List.append_assoc]
    exact List.perm_append_comm (l₂ := [u])
  exact (h1.trans (h2.cons q)).symm
/-- j places copied -/
def gm_cy (Y : Nat → Nat) (j : Nat) : Nat → Nat := fun t => if t < j then Y t else 0
theorem gm_cy_0 (Y : Nat → Nat) : gm_cy Y 0 = fun _ => 0 := by
  funext t
  unfold gm_cy
  rw [if_neg (Nat.not_lt_zero _)]
theorem gm_cy_s (Y : Nat → Nat) (j : Nat) : va_up (gm_cy Y j) j (Y j) = gm_cy Y (j + 1) := by
  funext t
  unfold gm_cy va_up
  dsimp only
  by_cases h : t = j
  · subst h
    rw [if_pos rfl, if_pos (Nat.lt_succ_self _)]
  · rw [if_neg h]
    by_cases h2 : t < j
    · rw [if_pos h2, if_pos (by omega)]
    · rw [if_neg h2, if_neg (by omega)]
def gm_cr (n : Nat) : Int32 := if n = 0 then -1 else nI 16
/-- the shares made so far: objects, then their bytes -/
abbrev gm_Ws (tc : Nat → ClassId) (m : Nat) (M : Nat → Nat → Nat) (sh bs : Nat → Nat) (k : Nat) : va_W := gm_L sh (fun j => gm_O 2 [.ref (bs j), .int (nI (gm_p m j))]) k ++ gm_L bs (fun j => gm_B tc 16 (M (gm_ar m 8 j))) k
theorem gm_Ws_s (tc : Nat → ClassId) (m : Nat) (M : Nat → Nat → Nat) (sh bs : Nat → Nat) (k q u : Nat) : ((q, gm_O 2 [.ref u, .int (nI (gm_p m k))]) :: (u, gm_B tc 16 (M (gm_ar m 8 k))) :: gm_Ws tc m M sh bs k).Perm (gm_Ws tc m M (va_up sh k q) (va_up bs k u) (k + 1)) := by
  have e1 : gm_L (va_up sh k q) (fun j => gm_O 2 [.ref (va_up bs k u j), .int (nI (gm_p m j))]) (k + 1) = gm_L sh (fun j => gm_O 2 [.ref (bs j), .int (nI (gm_p m j))]) k ++ [(q, gm_O 2 [.ref u, .int (nI (gm_p m k))])] := by
    rw [gm_L_succ, va_up_self, va_up_self]
    congr 1
    refine gm_L_congr fun j hj => ?_
    rw [va_up_ne _ _ (Nat.ne_of_lt hj), va_up_ne _ _ (Nat.ne_of_lt hj)]
    exact ⟨rfl, rfl⟩
  have e2 : gm_L (va_up bs k u) (fun j => gm_B tc 16 (M (gm_ar m 8 j))) (k + 1) = gm_L bs (fun j => gm_B tc 16 (M (gm_ar m 8 j))) k ++ [(u, gm_B tc 16 (M (gm_ar m 8 k)))] := (gm_L_more bs (fun j => gm_B tc 16 (M (gm_ar m 8 j))) k u).symm
  show List.Perm _ (gm_L (va_up sh k q) (fun j => gm_O 2 [.ref (va_up bs k u j), .int (nI (gm_p m j))]) (k + 1) ++ gm_L (va_up bs k u) (fun j => gm_B tc 16 (M (gm_ar m 8 j))) (k + 1))
  rw [e1, e2]
  exact gm_pm4 _ _ _ _
section CB
variable {p : Program} {l : Launch} {e : Env} {R : Room} {s : State} {m : MethodId} {args : Array Value} {below : List Frame} {meth : Method} {c : Code} {H : Heap} {locs : List Loc} {cells slots : Nat} {Q : State → Prop} {D : va_G} {tc : Nat → ClassId}
variable {A : Nat → Prop} {H0 : Heap}
set_option maxHeartbeats 4000000 in
set_option maxRecDepth 100000 in
/-- a share's bytes are copied: t to go -/
theorem gm_cp_l {h g o : Nat} {ra : Nat → Nat} {M : Nat → Nat → Nat} (hx : p.tables.exec = Jvm.exec) (hb : c.code = cX0_combine) (hml : c.maxLocals = 11) (hT : gm_T D tc s) (hts : ∀ w ∈ lw_all, w.before args s = true) (hown : s.vm.findClass RX0 = some m.cls) (hRo : va_P D vwCl ((g, gm_R tc 1 8 (fun i => some (ra i))) :: gm_L ra (fun i => gm_B tc 16 (M i)) 8) H0) (hap : ∀ q ∈ ((g, gm_R tc 1 8 (fun i => some (ra i))) :: gm_L ra (fun i => gm_B tc 16 (M i)) 8), ¬ A q.1) {z sa i mk ct : Nat} {kd md9 : Int32} {T9 : va_W} (hi : i < 8) :
    ∀ (t j : Nat) (H : Heap) (locs : List Loc) (ls : Array Slot), j + t = 16 → va_P D vwCl ((z, gm_B tc 16 (gm_cy (M i) j)) :: (h, gm_O 0 [.ref g, .ref o]) :: T9) H → va_D A ((z, gm_B tc 16 (gm_cy (M i) j)) :: (h, gm_O 0 [.ref g, .ref o]) :: T9) → va_S A H0 H locs → lv_has ls 11 [(0, .ref h), (1, .int (kd)), (2, .int (md9)), (4, .int (nI mk)), (6, .int (nI ct)), (7, .ref sa), (8, .int (nI i)), (9, .ref z), (10, .int (nI j))] →
    (∀ (H : Heap) (locs : List Loc) (ls : Array Slot), va_P D vwCl ((z, gm_B tc 16 (gm_cy (M i) 16)) :: (h, gm_O 0 [.ref g, .ref o]) :: T9) H → va_D A ((z, gm_B tc 16 (gm_cy (M i) 16)) :: (h, gm_O 0 [.ref g, .ref o]) :: T9) → va_S A H0 H locs → lv_has ls 11 [(0, .ref h), (1, .int (kd)), (2, .int (md9)), (4, .int (nI mk)), (6, .int (nI ct)), (7, .ref sa), (8, .int (nI i)), (9, .ref z)] → W p l e R s m args below meth c H locs cells slots Q (F0 m 89 ls [])) → W p l e R s m args below meth c H locs cells slots Q (F0 m 61 ls []) := by
  intro t
  induction t with
  | zero =>
    intro j H locs ls hj hP hD hS hl kk
    have hj : j = 16 := by omega
    subst hj
    refine lv_iload hx hb dX0_combine_61 (lv_at hl 8 rfl) ?_
    refine lv_bipush (v := nI 16) hx hb dX0_combine_63 (by decide +kernel) ?_
    refine lv_icmp_ge (tgt := 89) hx hb dX0_combine_65 (by decide) (fun cz => ?_) (fun cz => by first | exact absurd ((nI_le (Nat.le_refl 16) (by decide))) cz | exact absurd cz ((nI_le (Nat.le_refl 16) (by decide))))
    exact kk H locs ls hP hD hS (lv_sub hl [0, 1, 2, 3, 4, 5, 6, 7] rfl)
  | succ t ih =>
    intro j H locs ls hj hP hD hS hl kk
    refine lv_iload hx hb dX0_combine_61 (lv_at hl 8 rfl) ?_
    refine lv_bipush (v := nI 16) hx hb dX0_combine_63 (by decide +kernel) ?_
    refine lv_icmp_ge (tgt := 89) hx hb dX0_combine_65 (by decide) (fun cz => by first | exact absurd cz ((nI_ge (show j < 16 by omega) (by decide))) | exact absurd ((nI_ge (show j < 16 by omega) (by decide))) cz) (fun cz => ?_)
    have hR := gm_ro hS hRo hap
    have hRi := gm_pick hR (List.mem_cons_of_mem _ (gm_L_mem (ad := ra) (e := fun i => gm_B tc 16 (M i)) hi))
    refine lv_aload hx hb dX0_combine_68 (lv_at hl 7 rfl) ?_
    refine lv_iload hx hb dX0_combine_70 (lv_at hl 8 rfl) ?_
    refine lv_aload_n hx hb dX0_combine_72 rfl (lv_at hl 0 rfl) ?_
    refine va_get (D := D) (ci := 0) (v := .ref g) (C := RX0) (T := TX0) (N := 2) hx hb hts in_X0 hown hT.1 hP 1 rfl rfl 0 (by decide) (hts _ q27) (fun _ h9 => h9) rfl dX0_combine_73 ?_
    refine lv_iload hx hb dX0_combine_76 (lv_at hl 6 rfl) ?_
    refine gm_qald hx hb hT hR 0 1 rfl rfl rfl hi (by decide) rfl dX0_combine_78 ?_
    refine lv_iload hx hb dX0_combine_79 (lv_at hl 8 rfl) ?_
    refine gm_bald hx hb hT hRi 0 rfl (show j < 16 by omega) (by decide) dX0_combine_81 ?_
    refine gm_bast (v := M i j) hx hb hT hP hD hS 0 rfl (j := j) (by omega) (by decide) dX0_combine_82 (fun H locs hP hD hS => ?_)
    rw [gm_cy_s] at hP hD
    have hP : va_P D vwCl ((z, gm_B tc 16 (gm_cy (M i) (j + 1))) :: (h, gm_O 0 [.ref g, .ref o]) :: T9) H := hP
    have hD : va_D A ((z, gm_B tc 16 (gm_cy (M i) (j + 1))) :: (h, gm_O 0 [.ref g, .ref o]) :: T9) := hD
    refine lv_iinc (v := nI (j + 1)) (lv' := [(10, .int (nI (j + 1))), (0, .ref h), (1, .int (kd)), (2, .int (md9)), (4, .int (nI mk)), (6, .int (nI ct)), (7, .ref sa), (8, .int (nI i)), (9, .ref z)]) hx hb dX0_combine_83 hl (k := 8) rfl (nI_add j 1) (by decide) rfl (fun ls hl => ?_)
    refine lv_goto (tgt := 61) hx hb dX0_combine_86 (by decide) ?_
    exact ih (j + 1) H locs ls (by omega) hP hD hS (lv_sub hl [1, 2, 3, 4, 5, 6, 7, 8, 0] rfl) kk
set_option maxHeartbeats 4000000 in
set_option maxRecDepth 100000 in
/-- the shares are made: t to look at -/
theorem gm_cs_l {h g o : Nat} {ra : Nat → Nat} {M : Nat → Nat → Nat} (hx : p.tables.exec = Jvm.exec) (hb : c.code = cX0_combine) (hml : c.maxLocals = 11) (hT : gm_T D tc s) (hts : ∀ w ∈ lw_all, w.before args s = true) (hown : s.vm.findClass RX0 = some m.cls) (hRo : va_P D vwCl ((g, gm_R tc 1 8 (fun i => some (ra i))) :: gm_L ra (fun i => gm_B tc 16 (M i)) 8) H0) (hap : ∀ q ∈ ((g, gm_R tc 1 8 (fun i => some (ra i))) :: gm_L ra (fun i => gm_B tc 16 (M i)) 8), ¬ A q.1) {sa mk : Nat} {kd md9 : Int32} (hm : mk < 256) (hA : ∀ q, H0.size ≤ q → A q) (hf9 : 2 + 1 ≤ R.frames) (hl9 : 8 + (3 + 11) + 40 ≤ R.locals) (hc9 : 25 ≤ R.cells) (hs9 : 280 ≤ R.slots) :
    ∀ (t i : Nat) (f9 : Nat → Option Nat) (sh bs : Nat → Nat) (H : Heap) (locs : List Loc) (ls : Array Slot), i + t = 8 → (∀ k, k < gm_cn mk i → f9 k = some (sh k)) → va_P D vwCl ((h, gm_O 0 [.ref g, .ref o]) :: (sa, gm_R tc 4 (gm_cn mk 8) f9) :: gm_Ws tc mk M sh bs (gm_cn mk i)) H → va_D A ((h, gm_O 0 [.ref g, .ref o]) :: (sa, gm_R tc 4 (gm_cn mk 8) f9) :: gm_Ws tc mk M sh bs (gm_cn mk i)) → va_S A H0 H locs → lv_has ls 11 [(0, .ref h), (1, .int (kd)), (2, .int (md9)), (4, .int (nI mk)), (6, .int (nI (gm_cn mk i))), (7, .ref sa), (8, .int (nI i))] →
    (∀ (f9 : Nat → Option Nat) (sh bs : Nat → Nat) (H : Heap) (locs : List Loc) (ls : Array Slot), (∀ k, k < gm_cn mk 8 → f9 k = some (sh k)) → va_P D vwCl ((h, gm_O 0 [.ref g, .ref o]) :: (sa, gm_R tc 4 (gm_cn mk 8) f9) :: gm_Ws tc mk M sh bs (gm_cn mk 8)) H → va_D A ((h, gm_O 0 [.ref g, .ref o]) :: (sa, gm_R tc 4 (gm_cn mk 8) f9) :: gm_Ws tc mk M sh bs (gm_cn mk 8)) → va_S A H0 H locs → lv_has ls 11 [(0, .ref h), (1, .int kd), (2, .int md9), (7, .ref sa)] → W p l e R s m args below meth c H locs (25) (280) Q (F0 m 116 ls [])) → W p l e R s m args below meth c H locs (1 + 3 * i) (8 + 34 * i) Q (F0 m 34 ls []) := by
  intro t
  induction t with
  | zero =>
    intro i f9 sh bs H locs ls hi hf hP hD hS hl kk
    have hi : i = 8 := by omega
    subst hi
    refine lv_iload hx hb dX0_combine_34 (lv_at hl 6 rfl) ?_
    refine lv_bipush (v := nI 8) hx hb dX0_combine_36 (by decide +kernel) ?_
    refine lv_icmp_ge (tgt := 116) hx hb dX0_combine_38 (by decide) (fun cz => ?_) (fun cz => by first | exact absurd ((nI_le (Nat.le_refl 8) (by decide))) cz | exact absurd cz ((nI_le (Nat.le_refl 8) (by decide))))
    exact kk f9 sh bs H locs ls hf hP hD hS (lv_sub hl [0, 1, 2, 5] rfl)
  | succ t ih =>
    intro i f9 sh bs H locs ls hi hf hP hD hS hl kk
    refine lv_iload hx hb dX0_combine_34 (lv_at hl 6 rfl) ?_
    refine lv_bipush (v := nI 8) hx hb dX0_combine_36 (by decide +kernel) ?_
    refine lv_icmp_ge (tgt := 116) hx hb dX0_combine_38 (by decide) (fun cz => by first | exact absurd cz ((nI_ge (show i < 8 by omega) (by decide))) | exact absurd ((nI_ge (show i < 8 by omega) (by decide))) cz) (fun cz => ?_)
    refine lv_iload hx hb dX0_combine_41 (lv_at hl 3 rfl) ?_
    refine lv_iload hx hb dX0_combine_43 (lv_at hl 6 rfl) ?_
    refine lv_ishr hx hb dX0_combine_45 ?_
    refine lv_iconst (v := nI 1) hx hb dX0_combine_46 (by decide +kernel) ?_
    refine lv_iand hx hb dX0_combine_47 ?_
    refine gm_e (y := nI (mk / 2 ^ i % 2)) (gm_nb_c hm (by omega)) ?_
    refine lv_iconst (v := nI 1) hx hb dX0_combine_48 (by decide +kernel) ?_
    refine lv_icmp_ne (tgt := 110) hx hb dX0_combine_49 (by decide) (fun cz => ?_) (fun cz => ?_)
    · have cb : mk / 2 ^ i % 2 = 0 := (gm_b2 (mk / 2 ^ i)).elim id (fun q => absurd (congrArg nI q) cz)
      have ec : gm_cn mk (i + 1) = gm_cn mk i := by show gm_cn mk i + mk / 2 ^ i % 2 = _; rw [cb, Nat.add_zero]
      refine lv_iinc (v := nI (i + 1)) (lv' := [(8, .int (nI (i + 1))), (0, .ref h), (1, .int (kd)), (2, .int (md9)), (4, .int (nI mk)), (6, .int (nI (gm_cn mk i))), (7, .ref sa)]) hx hb dX0_combine_110 hl (k := 6) rfl (nI_add i 1) (by decide) rfl (fun ls hl => ?_)
      refine lv_goto (tgt := 34) hx hb dX0_combine_113 (by decide) ?_
      refine W.widen (k := 1 + 3 * (i + 1)) (n := 8 + 34 * (i + 1)) (by omega) (by omega) ?_
      rw [← ec] at hf hP hD hl
      exact ih (i + 1) f9 sh bs H locs ls (by omega) hf hP hD hS (lv_sub hl [1, 2, 3, 4, 5, 6, 0] rfl) kk
    · have cb : mk / 2 ^ i % 2 = 1 := (gm_b01 (gm_b2 (mk / 2 ^ i))).mp cz
      have ec : gm_cn mk (i + 1) = gm_cn mk i + 1 := by show gm_cn mk i + mk / 2 ^ i % 2 = _; rw [cb]
      obtain ⟨ei, hlt⟩ := gm_at8 mk hm i (by omega) cb
      have h8 : gm_cn mk 8 ≤ 8 := gm_cn_le mk 8
      refine lv_bipush (v := nI 16) hx hb dX0_combine_52 (by decide +kernel) ?_
      refine gm_newb hx hb (hts _ q34) hT hP hD hS hA (n := 16) (by decide) (by omega) (by omega) dX0_combine_54 (fun z H hP hD hS => ?_)
      rw [← gm_cy_0 (M i)] at hP hD
      have hpm : (((h, gm_O 0 [.ref g, .ref o]) :: (sa, gm_R tc 4 (gm_cn mk 8) f9) :: gm_Ws tc mk M sh bs (gm_cn mk i)) ++ [(z, gm_B tc 16 (gm_cy (M i) 0))]).Perm ((z, gm_B tc 16 (gm_cy (M i) 0)) :: (h, gm_O 0 [.ref g, .ref o]) :: (sa, gm_R tc 4 (gm_cn mk 8) f9) :: gm_Ws tc mk M sh bs (gm_cn mk i)) := List.perm_append_comm (l₂ := [(z, gm_B tc 16 (gm_cy (M i) 0))])
      have hP := gm_Pperm hP hpm
      have hD := gm_Dperm hD hpm
      refine lv_astore (lv' := [(9, .ref z), (0, .ref h), (1, .int (kd)), (2, .int (md9)), (4, .int (nI mk)), (6, .int (nI (gm_cn mk i))), (7, .ref sa), (8, .int (nI i))]) hx hb dX0_combine_56 hl (by decide) rfl (fun ls hl => ?_)
      refine lv_iconst (v := nI 0) hx hb dX0_combine_58 (by decide +kernel) ?_
      refine lv_istore (lv' := [(10, .int (nI 0)), (9, .ref z), (0, .ref h), (1, .int (kd)), (2, .int (md9)), (4, .int (nI mk)), (6, .int (nI (gm_cn mk i))), (7, .ref sa), (8, .int (nI i))]) hx hb dX0_combine_59 hl (by decide) rfl (fun ls hl => ?_)
      refine gm_cp_l hx hb hml hT hts hown hRo hap (show i < 8 by omega) 16 0 H _ ls rfl hP hD hS (lv_sub hl [2, 3, 4, 5, 6, 7, 8, 1, 0] rfl) (fun H locs ls hP hD hS hl => ?_)
      have hP := gm_headB (Y' := M i) (fun k hk => if_pos hk) hP
      have hD : va_D A ((z, gm_B tc 16 (M i)) :: (h, gm_O 0 [.ref g, .ref o]) :: (sa, gm_R tc 4 (gm_cn mk 8) f9) :: gm_Ws tc mk M sh bs (gm_cn mk i)) := gm_headD hD
      refine lv_aload hx hb dX0_combine_89 (lv_at hl 5 rfl) ?_
      refine lv_iload hx hb dX0_combine_91 (lv_at hl 4 rfl) ?_
      refine lv_iinc (v := nI ((gm_cn mk i) + 1)) (lv' := [(6, .int (nI ((gm_cn mk i) + 1))), (0, .ref h), (1, .int (kd)), (2, .int (md9)), (4, .int (nI mk)), (7, .ref sa), (8, .int (nI i)), (9, .ref z)]) hx hb dX0_combine_93 hl (k := 4) rfl (nI_add (gm_cn mk i) 1) (by decide) rfl (fun ls hl => ?_)
      refine va_new (ci := 2) (fs := [.null, .int 0]) (C := RX2) (T := TX2) (N := 2) hx hb hts in_X2 tyX2 tyX2_ok hown (hts _ q53) (hts _ q55) (hts _ q5) hT.1 hP hD hS hA rfl (fun j hj => by rcases (show j = 0 ∨ j = 1 by omega) with rfl | rfl <;> rfl) (by omega) (by omega) dX0_combine_96 (fun q H hP hD hS => ?_)
      refine lv_dup hx hb dX0_combine_99 rfl ?_
      refine lv_aload hx hb dX0_combine_100 (lv_at hl 7 rfl) ?_
      refine lv_iload hx hb dX0_combine_102 (lv_at hl 6 rfl) ?_
      refine lv_iconst (v := nI 1) hx hb dX0_combine_104 (by decide +kernel) ?_
      refine lv_iadd hx hb dX0_combine_105 ?_
      refine gm_e (y := nI (i + 1)) (nI_add i 1) ?_
      have hsq : List.Sublist [(z, gm_B tc 16 (M i)), (q, gm_O 2 [.null, .int 0])] (((z, gm_B tc 16 (M i)) :: (h, gm_O 0 [.ref g, .ref o]) :: (sa, gm_R tc 4 (gm_cn mk 8) f9) :: gm_Ws tc mk M sh bs (gm_cn mk i)) ++ [(q, gm_O 2 [.null, .int 0])]) := .cons₂ _ (List.sublist_append_right _ _)
      have hPq : va_P D vwCl ([(q, gm_O 2 [.null, .int 0])] ++ [(z, gm_B tc 16 (M i))]) H := by
        refine gm_Psub hP (fun q9 hq9 => ?_)
        rcases List.mem_cons.mp hq9 with e9 | e9
        · rw [e9]; exact List.mem_append_right _ List.mem_cons_self
        · rw [List.mem_singleton.mp e9]; exact List.mem_append_left _ List.mem_cons_self
      refine gm_callv (wr := ((z, gm_B tc 16 (M i)) :: (h, gm_O 0 [.ref g, .ref o]) :: (sa, gm_R tc 4 (gm_cn mk 8) f9) :: gm_Ws tc mk M sh bs (gm_cn mk i))) (wc := [(q, gm_O 2 [.null, .int 0])]) (va_runI (As := [.ref z, .int (nI (i + 1))]) (rest := [.ref q, .int (nI (gm_cn mk i)), .ref sa]) ⟨hx, hb, hml, hown, hts⟩ (met_Sinit l D tc q z (i + 1) H.size (M i)) (cwI 2 hts (lw_meth q58) rfl rfl rfl (hts _ q5) (hts _ q56) (hts _ q57) rfl (by decide +kernel) ⟨hf9, hl9⟩) (gm_pre hPq hT (gm_Dperm (gm_Dsub hD hsq) (List.Perm.swap _ _ _)) gm_Zt_b (fun _ _ _ => trivial)) rfl rfl hl.1 rfl (lv_room (Nat.le_of_ble_eq_true rfl)) dX0_combine_106 ⟨by omega, by omega⟩) hP hD hS hA (fun u H locs _ hP hD hS => ?_)
      have hsb : List.Sublist (((h, gm_O 0 [.ref g, .ref o]) :: (sa, gm_R tc 4 (gm_cn mk 8) f9) :: gm_Ws tc mk M sh bs (gm_cn mk i)) ++ [(q, gm_O 2 [.ref u, .int (nI (i + 1))]), (u, gm_B tc 16 (M i))]) (((z, gm_B tc 16 (M i)) :: (h, gm_O 0 [.ref g, .ref o]) :: (sa, gm_R tc 4 (gm_cn mk 8) f9) :: gm_Ws tc mk M sh bs (gm_cn mk i)) ++ [(q, gm_O 2 [.ref u, .int (nI (i + 1))]), (u, gm_B tc 16 (M i))]) := List.sublist_cons_self _ _
      have hpm : (((h, gm_O 0 [.ref g, .ref o]) :: (sa, gm_R tc 4 (gm_cn mk 8) f9) :: gm_Ws tc mk M sh bs (gm_cn mk i)) ++ [(q, gm_O 2 [.ref u, .int (nI (i + 1))]), (u, gm_B tc 16 (M i))]).Perm ((h, gm_O 0 [.ref g, .ref o]) :: (sa, gm_R tc 4 (gm_cn mk 8) f9) :: (q, gm_O 2 [.ref u, .int (nI (i + 1))]) :: (u, gm_B tc 16 (M i)) :: gm_Ws tc mk M sh bs (gm_cn mk i)) := .cons _ (.cons _ (List.perm_append_comm (l₂ := [(q, gm_O 2 [.ref u, .int (nI (i + 1))]), (u, gm_B tc 16 (M i))])))
      have hP := gm_Pperm (gm_Psub hP (fun q hq => hsb.subset hq)) hpm
      have hD := gm_Dperm (gm_Dsub hD hsb) hpm
      refine gm_sast hx hb hT hP hD hS 1 2 rfl rfl (j := gm_cn mk i) hlt (by omega) dX0_combine_109 (fun H locs hP hD hS => ?_)
      have e8 : M (gm_ar mk 8 (gm_cn mk i)) = M i := by rw [ei]
      have e7 : gm_p mk (gm_cn mk i) = i + 1 := by unfold gm_p; rw [ei]
      have hpm : ((h, gm_O 0 [.ref g, .ref o]) :: (sa, gm_R tc 4 (gm_cn mk 8) (va_up f9 (gm_cn mk i) (some q))) :: (q, gm_O 2 [.ref u, .int (nI (i + 1))]) :: (u, gm_B tc 16 (M i)) :: gm_Ws tc mk M sh bs (gm_cn mk i)).Perm ((h, gm_O 0 [.ref g, .ref o]) :: (sa, gm_R tc 4 (gm_cn mk 8) (va_up f9 (gm_cn mk i) (some q))) :: gm_Ws tc mk M (va_up sh (gm_cn mk i) q) (va_up bs (gm_cn mk i) u) (gm_cn mk i + 1)) := .cons _ (.cons _ (by have h9 := gm_Ws_s tc mk M sh bs (gm_cn mk i) q u; rw [e8, e7] at h9; exact h9))
      have hP := gm_Pperm hP hpm
      have hD := gm_Dperm hD hpm
      refine lv_iinc (v := nI (i + 1)) (lv' := [(8, .int (nI (i + 1))), (6, .int (nI ((gm_cn mk i) + 1))), (0, .ref h), (1, .int (kd)), (2, .int (md9)), (4, .int (nI mk)), (7, .ref sa), (9, .ref z)]) hx hb dX0_combine_110 hl (k := 6) rfl (nI_add i 1) (by decide) rfl (fun ls hl => ?_)
      refine lv_goto (tgt := 34) hx hb dX0_combine_113 (by decide) ?_
      refine W.widen (k := 1 + 3 * (i + 1)) (n := 8 + 34 * (i + 1)) (by omega) (by omega) ?_
      rw [← ec] at hP hD hl
      refine ih (i + 1) _ _ _ H locs ls (by omega) (fun k hk => ?_) hP hD hS (lv_sub hl [2, 3, 4, 5, 1, 6, 0] rfl) kk
      by_cases hk2 : k = gm_cn mk i
      · subst hk2; rw [va_up_self, va_up_self]
      · rw [va_up_ne _ _ hk2, va_up_ne _ _ hk2]; exact hf k (by omega)
end CB
set_option maxHeartbeats 4000000 in
set_option maxRecDepth 100000 in
/-- the component combines -/
theorem met_xcomb (l : Launch) (D : va_G) (tc : Nat → ClassId) (h g o sz : Nat) (ra ad md : Nat → Nat) (tS : Nat) (M : Nat → Nat → Nat) (kd md9 mk9 : Int32) (hM : ∀ i j, M i j < 256) : Met l yX0_combine (wsW_ yX0_combine cX0_combine 11 (some .int) [(116, 162, 165, 60)]) ({ frames := 4, cells := 48, slots := 594, locals := 104 }) (gm_Pc D tc [.ref h, .int kd, .int md9, .int mk9] sz ([(h, gm_O 0 [.ref g, .ref o])] ++ ((g, gm_R tc 1 8 (fun i => some (ra i))) :: gm_L ra (fun i => gm_B tc 16 (M i)) 8)) (gm_Zp ad md tS [(h, gm_O 0 [.ref g, .ref o])] sz)) (va_Qi (fun (r : Int32) (_ : Nat) => r = gm_cr (gm_cn (gm_mk mk9) 8)) (gm_Bw D [(h, gm_O 0 [.ref g, .ref o])] sz (fun u => if gm_cn (gm_mk mk9) 8 = 0 then [(h, gm_O 0 [.ref g, .ref o])] else [(h, gm_O 0 [.ref g, .ref u]), (u, gm_B tc 16 (gm_av (gm_fd kd) (gm_cn (gm_mk mk9) 8) (gm_p (gm_mk mk9)) (fun t => M (gm_ar (gm_mk mk9) 8 t))))])) (va_A [(h, gm_O 0 [.ref g, .ref o])] sz)) 48 594 (va_A [(h, gm_O 0 [.ref g, .ref o])] sz) := by
  refine va_MetW (cc := cX0_combine) (maxL := 11) (ret := (some .int)) (by decide) rfl ?_
  intro p e s m args below meth c s₁ B hml hv
  obtain ⟨rfl, hsz, hP, hT, hD0, hZ⟩ := hv
  have hx := B.exec
  have hb := B.bytes
  have hr := B.returns
  have hts0 := atoms_spec (ws := wsW_ yX0_combine cX0_combine 11 (some .int) [(116, 162, 165, 60)]) B.pre
  have hts : ∀ w ∈ lw_all, w.before _ s = true := fun w h => hts0 w (List.mem_cons_of_mem _ h)
  have hown : s.vm.findClass RX0 = some m.cls := findClass_of_methodNamed B.named
  have hlocks := B.notSynchronized
  have hl := lv_entry ([.ref h, .int kd, .int md9, .int mk9]) (n := 11) (Nat.le_of_ble_eq_true rfl)
  rw [lg_entry_eq]
  generalize (lg_sl ([.ref h, .int kd, .int md9, .int mk9]) ++ List.replicate (11 - (lg_sl ([.ref h, .int kd, .int md9, .int mk9])).length) Slot.unset).toArray = ls at hl ⊢
  have hl : lv_has ls 11 [(0, .ref h), (1, .int kd), (2, .int md9), (3, .int mk9)] := hl
  subst hsz
  have hD := (gm_Dsub hD0 (List.sublist_append_left [(h, gm_O 0 [.ref g, .ref o])] ((g, gm_R tc 1 8 (fun i => some (ra i))) :: gm_L ra (fun i => gm_B tc 16 (M i)) 8))).self (sz := s.heap.size)
  have hap := gm_apart hD0 hP
  have hRo : va_P D vwCl ((g, gm_R tc 1 8 (fun i => some (ra i))) :: gm_L ra (fun i => gm_B tc 16 (M i)) 8) s.heap := gm_Psub hP (fun q h => List.mem_append_right _ h)
  have hP : va_P D vwCl [(h, gm_O 0 [.ref g, .ref o])] s.heap := gm_Psub hP (fun q h => List.mem_append_left _ h)
  have hA : ∀ q : Nat, s.heap.size ≤ q → va_A [(h, gm_O 0 [.ref g, .ref o])] s.heap.size q := fun q h => Or.inr h
  have hS : va_S (va_A [(h, gm_O 0 [.ref g, .ref o])] s.heap.size) s.heap s.heap [] := va_S.rf
  have hZ : gm_Z ad md tS (va_A [(h, gm_O 0 [.ref g, .ref o])] s.heap.size) s s.heap := hZ
  have hm := gm_mk_lt mk9
  refine lv_iload_n hx hb dX0_combine_0 rfl (lv_at hl 3 rfl) ?_
  refine lv_sipush (v := nI 255) hx hb dX0_combine_1 (by decide +kernel) ?_
  refine lv_iand hx hb dX0_combine_4 ?_
  refine gm_e (y := nI (gm_mk mk9)) (gm_mk_c mk9) ?_
  refine lv_istore (lv' := [(4, .int (nI (gm_mk mk9))), (0, .ref h), (1, .int (kd)), (2, .int (md9)), (3, .int (mk9))]) hx hb dX0_combine_5 hl (by decide) rfl (fun ls hl => ?_)
  refine lv_iload hx hb dX0_combine_7 (lv_at hl 0 rfl) ?_
  refine vp_callSi (W.runS (As := [.int (nI (gm_mk mk9))]) (rest := []) ⟨hx, hb, hml, hown, hts⟩ (met_bits l D tc (gm_mk mk9) hm) (va_cwS 1 hts (lw_S q47 q48 q4 q49) rfl rfl rfl (by decide +kernel) ⟨Nat.le_of_ble_eq_true rfl, Nat.le_of_ble_eq_true rfl⟩) ⟨fun _ _ _ _ q => ⟨q.1, trivial⟩, fun _ _ _ => ⟨rfl, trivial⟩⟩ rfl rfl hl.1 rfl (lv_room (Nat.le_of_ble_eq_true rfl)) dX0_combine_9 ⟨Nat.zero_le _, Nat.zero_le _⟩) (fun r9 e9 => ?_)
  subst e9
  generalize hmk : gm_mk mk9 = mk at hm hl ⊢
  have hl : lv_has ls 11 [(4, .int (nI mk)), (0, .ref h), (1, .int (kd)), (2, .int (md9)), (3, .int (mk9))] := hl
  have h8 : gm_cn mk 8 ≤ 8 := gm_cn_le mk 8
  refine lv_istore (lv' := [(5, .int (nI (gm_cn mk 8))), (4, .int (nI mk)), (0, .ref h), (1, .int (kd)), (2, .int (md9)), (3, .int (mk9))]) hx hb dX0_combine_12 hl (by decide) rfl (fun ls hl => ?_)
  refine lv_iconst (v := nI 0) hx hb dX0_combine_14 (by decide +kernel) ?_
  refine lv_istore (lv' := [(6, .int (nI 0)), (5, .int (nI (gm_cn mk 8))), (4, .int (nI mk)), (0, .ref h), (1, .int (kd)), (2, .int (md9)), (3, .int (mk9))]) hx hb dX0_combine_15 hl (by decide) rfl (fun ls hl => ?_)
  refine lv_iload hx hb dX0_combine_17 (lv_at hl 1 rfl) ?_
  refine lv_if_ne (tgt := 24) hx hb dX0_combine_19 (by decide) (fun cz => ?_) (fun cz => ?_)
  · have hn0 : ¬ gm_cn mk 8 = 0 := fun q => cz (congrArg nI q)
    refine lv_iload hx hb dX0_combine_24 (lv_at hl 1 rfl) ?_
    refine gm_news hx hb hown (hts _ q53) hT hP hD hS hA (n := gm_cn mk 8) (by omega) (Nat.le_of_ble_eq_true rfl) (by show 0 + gm_cn mk 8 ≤ 594; omega) dX0_combine_26 (fun sa H hP hD hS => ?_)
    refine lv_astore (lv' := [(7, .ref sa), (6, .int (nI 0)), (5, .int (nI (gm_cn mk 8))), (4, .int (nI mk)), (0, .ref h), (1, .int (kd)), (2, .int (md9)), (3, .int (mk9))]) hx hb dX0_combine_29 hl (by decide) rfl (fun ls hl => ?_)
    refine lv_iconst (v := nI 0) hx hb dX0_combine_31 (by decide +kernel) ?_
    refine lv_istore (lv' := [(8, .int (nI 0)), (7, .ref sa), (6, .int (nI 0)), (5, .int (nI (gm_cn mk 8))), (4, .int (nI mk)), (0, .ref h), (1, .int (kd)), (2, .int (md9)), (3, .int (mk9))]) hx hb dX0_combine_32 hl (by decide) rfl (fun ls hl => ?_)
    refine W.widen (k := 1 + 3 * 0) (n := 8 + 34 * 0) (by omega) (by omega) ?_
    refine gm_cs_l hx hb hml hT hts hown hRo hap hm hA (Nat.le_of_ble_eq_true rfl) (Nat.le_of_ble_eq_true rfl) (Nat.le_of_ble_eq_true rfl) (Nat.le_of_ble_eq_true rfl) 8 0 (fun _ => none) (fun _ => 0) (fun _ => 0) H _ ls rfl (fun k hk => absurd hk (Nat.not_lt_zero k)) hP hD hS (lv_sub hl [5, 6, 7, 4, 2, 1, 0] rfl) (fun fS sh bs H locs ls hfS hP hD hS hl => ?_)
    refine lv_aload_n hx hb dX0_combine_116 rfl (lv_at hl 0 rfl) ?_
    refine va_new (ci := 3) (fs := [.null, .null]) (C := RX4) (T := TX4) (N := 2) hx hb hts in_X4 tyX4 tyX4_ok hown (hts _ q78) (hts _ q79) (hts _ q7) hT.1 hP hD hS hA rfl (fun j hj => by rcases (show j = 0 ∨ j = 1 by omega) with rfl | rfl <;> rfl) (Nat.le_of_ble_eq_true rfl) (Nat.le_of_ble_eq_true rfl) dX0_combine_117 (fun ss H hP hD hS => ?_)
    refine lv_dup hx hb dX0_combine_120 rfl ?_
    refine lv_iload_n hx hb dX0_combine_121 rfl (lv_at hl 1 rfl) ?_
    refine lv_iconst (v := nI 1) hx hb dX0_combine_122 (by decide +kernel) ?_
    refine lv_iand hx hb dX0_combine_123 ?_
    refine gm_e (y := nI (kd.toBitVec.toNat % 2)) (gm_fd_b kd) ?_
    have hk2 := gm_b2 kd.toBitVec.toNat
    have hm2 := gm_b2 md9.toBitVec.toNat
    have tail : W p l e (headSpec (wsW_ yX0_combine cX0_combine 11 (some .int) [(116, 162, 165, 60)]) ({ frames := 4, cells := 48, slots := 594, locals := 104 })).room s m [.ref h, .int kd, .int md9, .int mk9].toArray below meth c H locs (25 + 1) (280 + 2) (MQ below (va_Qi (fun (r : Int32) (_ : Nat) => r = gm_cr (gm_cn mk 8)) (gm_Bw D [(h, gm_O 0 [.ref g, .ref o])] s.heap.size (fun u => if gm_cn mk 8 = 0 then [(h, gm_O 0 [.ref g, .ref o])] else [(h, gm_O 0 [.ref g, .ref u]), (u, gm_B tc 16 (gm_av (gm_fd kd) (gm_cn mk 8) (gm_p mk) (fun t => M (gm_ar mk 8 t))))])) (va_A [(h, gm_O 0 [.ref g, .ref o])] s.heap.size)) [.ref h, .int kd, .int md9, .int mk9].toArray s 48 594 (va_A [(h, gm_O 0 [.ref g, .ref o])] s.heap.size)) (F0 m 136 ls [.ref (ad (kd.toBitVec.toNat % 2)), .ref ss, .ref ss, .ref h]) := by
      refine lv_iload_n hx hb dX0_combine_136 rfl (lv_at hl 2 rfl) ?_
      refine lv_iconst (v := nI 1) hx hb dX0_combine_137 (by decide +kernel) ?_
      refine lv_iand hx hb dX0_combine_138 ?_
      refine gm_e (y := nI (md9.toBitVec.toNat % 2)) (gm_fd_b md9) ?_
      have tail2 : W p l e (headSpec (wsW_ yX0_combine cX0_combine 11 (some .int) [(116, 162, 165, 60)]) ({ frames := 4, cells := 48, slots := 594, locals := 104 })).room s m [.ref h, .int kd, .int md9, .int mk9].toArray below meth c H locs (25 + 1) (280 + 2) (MQ below (va_Qi (fun (r : Int32) (_ : Nat) => r = gm_cr (gm_cn mk 8)) (gm_Bw D [(h, gm_O 0 [.ref g, .ref o])] s.heap.size (fun u => if gm_cn mk 8 = 0 then [(h, gm_O 0 [.ref g, .ref o])] else [(h, gm_O 0 [.ref g, .ref u]), (u, gm_B tc 16 (gm_av (gm_fd kd) (gm_cn mk 8) (gm_p mk) (fun t => M (gm_ar mk 8 t))))])) (va_A [(h, gm_O 0 [.ref g, .ref o])] s.heap.size)) [.ref h, .int kd, .int md9, .int mk9].toArray s 48 594 (va_A [(h, gm_O 0 [.ref g, .ref o])] s.heap.size)) (F0 m 151 ls [.ref (md (md9.toBitVec.toNat % 2)), .ref (ad (kd.toBitVec.toNat % 2)), .ref ss, .ref ss, .ref h]) := by
        refine lv_aload hx hb dX0_combine_151 (lv_at hl 3 rfl) ?_
        have hi2 : kd.toBitVec.toNat % 2 < 2 := Nat.mod_lt _ (by decide)
        refine gm_callv (wr := ((h, gm_O 0 [.ref g, .ref o]) :: (sa, gm_R tc 4 (gm_cn mk 8) fS) :: gm_Ws tc mk M sh bs (gm_cn mk 8))) (wc := [(ss, gm_O 3 [.null, .null])]) (va_runI (As := [.ref (ad (kd.toBitVec.toNat % 2)), .ref (md (md9.toBitVec.toNat % 2)), .ref sa]) (rest := [.ref ss, .ref h]) ⟨hx, hb, hml, hown, hts⟩ (met_SSinit l D tc ss sa H.size (kd.toBitVec.toNat % 2) (md9.toBitVec.toNat % 2) ad md tS hi2) (cwI 3 hts (lw_meth q90) rfl rfl rfl (hts _ q7) (hts _ q88) (hts _ q89) rfl (by decide +kernel) ⟨Nat.le_of_ble_eq_true rfl, Nat.le_of_ble_eq_true rfl⟩) (gm_pre (gm_Psub hP (fun q hq => List.mem_append_right _ hq)) hT (gm_Dsub hD (List.sublist_append_right _ _)) gm_Zp_b (gm_Zp_of (wr := ((h, gm_O 0 [.ref g, .ref o]) :: (sa, gm_R tc 4 (gm_cn mk 8) fS) :: gm_Ws tc mk M sh bs (gm_cn mk 8))) hZ hD hS hA)) rfl rfl hl.1 rfl (lv_room (Nat.le_of_ble_eq_true rfl)) dX0_combine_153 ⟨Nat.le_of_ble_eq_true rfl, Nat.le_of_ble_eq_true rfl⟩) hP hD hS hA (fun po H locs _ hP hD hS => ?_)
        have eF : gm_fi (kd.toBitVec.toNat % 2) = gm_fd kd := rfl
        rw [eF] at hP hD
        have hP : va_P D vwCl (((h, gm_O 0 [.ref g, .ref o]) :: (sa, gm_R tc 4 (gm_cn mk 8) fS) :: gm_Ws tc mk M sh bs (gm_cn mk 8)) ++ [(ss, gm_O 3 [.ref sa, .ref po]), (po, gm_O 4 [.int (nI (gm_fd kd))])]) H := hP
        have hD : va_D (va_A [(h, gm_O 0 [.ref g, .ref o])] s.heap.size) (((h, gm_O 0 [.ref g, .ref o]) :: (sa, gm_R tc 4 (gm_cn mk 8) fS) :: gm_Ws tc mk M sh bs (gm_cn mk 8)) ++ [(ss, gm_O 3 [.ref sa, .ref po]), (po, gm_O 4 [.int (nI (gm_fd kd))])]) := hD
        have hPg : va_P D vwCl (gm_Wg tc ss sa po (gm_fd kd) (gm_cn mk 8) fS sh bs (gm_p mk) (fun t => M (gm_ar mk 8 t))) H := by
          rw [gm_Pm]
          intro q hq
          rcases List.mem_cons.mp hq with e9 | hq
          · rw [e9]; exact gm_Pm.mp hP _ (List.mem_append_right _ List.mem_cons_self)
          rcases List.mem_cons.mp hq with e9 | hq
          · rw [e9]; exact gm_Pm.mp hP _ (List.mem_append_right _ (List.mem_cons_of_mem _ List.mem_cons_self))
          rcases List.mem_cons.mp hq with e9 | hq
          · rw [e9]; exact gm_Pm.mp hP _ (List.mem_append_left _ (List.mem_cons_of_mem _ List.mem_cons_self))
          · exact gm_Pm.mp hP _ (List.mem_append_left _ (List.mem_cons_of_mem _ (List.mem_cons_of_mem _ hq)))
        refine gm_callr (wr := (((h, gm_O 0 [.ref g, .ref o]) :: (sa, gm_R tc 4 (gm_cn mk 8) fS) :: gm_Ws tc mk M sh bs (gm_cn mk 8)) ++ [(ss, gm_O 3 [.ref sa, .ref po]), (po, gm_O 4 [.int (nI (gm_fd kd))])])) (wc := []) (va_runV (As := []) (rest := [.ref h]) ⟨hx, hb, hml, hown, hts⟩ (met_secret l D tc ss sa po (gm_fd kd) (gm_cn mk 8) H.size fS sh bs (gm_p mk) (fun t => M (gm_ar mk 8 t)) (gm_fd_ok kd) (by omega) h8 (gm_p_lt mk) (fun k j => hM _ j) hfS) (cwV 0 hts (lw_V q185 q186 q187 q7 q188) rfl rfl rfl (by decide +kernel) ⟨Nat.le_of_ble_eq_true rfl, Nat.le_of_ble_eq_true rfl⟩) (gm_V (gm_preQ hPg hT) (gm_recv hPg hT (ci := 3) rfl 0 rfl)) rfl rfl hl.1 rfl (lv_room (Nat.le_of_ble_eq_true rfl)) dX0_combine_156 ⟨Nat.le_of_ble_eq_true rfl, Nat.le_of_ble_eq_true rfl⟩) (by rw [List.append_nil]; exact hP) (by rw [List.append_nil]; exact hD) hS hA (fun _ o2 H locs _ hP hD hS => ?_)
        have hsb : List.Sublist [(h, gm_O 0 [.ref g, .ref o]), (o2, gm_B tc 16 (gm_av (gm_fd kd) (gm_cn mk 8) (gm_p mk) (fun t => M (gm_ar mk 8 t))))] ((((h, gm_O 0 [.ref g, .ref o]) :: (sa, gm_R tc 4 (gm_cn mk 8) fS) :: gm_Ws tc mk M sh bs (gm_cn mk 8)) ++ [(ss, gm_O 3 [.ref sa, .ref po]), (po, gm_O 4 [.int (nI (gm_fd kd))])]) ++ [(o2, gm_B tc 16 (gm_av (gm_fd kd) (gm_cn mk 8) (gm_p mk) (fun t => M (gm_ar mk 8 t))))]) := .cons₂ _ (List.sublist_append_right _ _)
        have hP : va_P D vwCl [(h, gm_O 0 [.ref g, .ref o]), (o2, gm_B tc 16 (gm_av (gm_fd kd) (gm_cn mk 8) (gm_p mk) (fun t => M (gm_ar mk 8 t))))] H := gm_Psub hP (fun q hq => hsb.subset hq)
        have hD : va_D (va_A [(h, gm_O 0 [.ref g, .ref o])] s.heap.size) [(h, gm_O 0 [.ref g, .ref o]), (o2, gm_B tc 16 (gm_av (gm_fd kd) (gm_cn mk 8) (gm_p mk) (fun t => M (gm_ar mk 8 t))))] := gm_Dsub hD hsb
        refine va_put (D := D) (ci := 0) (v := .ref o2) (ty := .array .byte) (C := RX0) (T := TX0) (N := 2) hx hb hts in_X0 tyX0 tyX0_ok nmX0 hown hT.1 hP hD hS 0 rfl rfl 1 (by decide) (hts _ q28) (fun _ h9 => h9) rfl (by decide +kernel) rfl rfl (Nat.le_of_ble_eq_true rfl) dX0_combine_159 (fun H locs hP hD hS => ?_)
        have hP : va_P D vwCl [(h, gm_O 0 [.ref g, .ref o2]), (o2, gm_B tc 16 (gm_av (gm_fd kd) (gm_cn mk 8) (gm_p mk) (fun t => M (gm_ar mk 8 t))))] H := hP
        have hD : va_D (va_A [(h, gm_O 0 [.ref g, .ref o])] s.heap.size) [(h, gm_O 0 [.ref g, .ref o2]), (o2, gm_B tc 16 (gm_av (gm_fd kd) (gm_cn mk 8) (gm_p mk) (fun t => M (gm_ar mk 8 t))))] := hD
        refine lv_goto (tgt := 170) hx hb dX0_combine_162 (by decide) ?_
        refine lv_aload_n hx hb dX0_combine_170 rfl (lv_at hl 0 rfl) ?_
        refine va_get (D := D) (ci := 0) (v := .ref o2) (C := RX0) (T := TX0) (N := 2) hx hb hts in_X0 hown hT.1 hP 0 rfl rfl 1 (by decide) (hts _ q28) (fun _ h9 => h9) rfl dX0_combine_171 ?_
        refine va_alen (v := nI 16) hx hb hT.1 hP 1 0 rfl rfl rfl dX0_combine_174 ?_
        refine W.widen (k := 48) (n := 594) (by omega) (by omega) ?_
        exact W.iret (v := nI 16) hx hb hr (fun t ht hW => ⟨⟨nI 16, o2, rfl, (if_neg hn0).symm, by show va_P D vwCl (if _ then _ else _) t.heap ∧ va_D _ (if _ then _ else _); rw [if_neg hn0, ht]; exact ⟨hP, hD⟩⟩, hS.F ht⟩) hS.2.2 dX0_combine_175
      refine lv_if_ne (tgt := 148) hx hb dX0_combine_139 (by decide) (fun cm => ?_) (fun cm => ?_)
      · have e2 : md9.toBitVec.toNat % 2 = 1 := hm2.elim (fun q => absurd (congrArg nI q) cm) id
        refine va_gets hx hb (hZ.2.1.1 1 (by decide)).1 hS hown (hts _ q86) (fun _ h9 => h9) dX0_combine_148 ?_
        rw [e2] at tail2
        exact tail2
      · have e2 : md9.toBitVec.toNat % 2 = 0 := hm2.elim id (fun q => absurd (cm.symm.trans (congrArg nI q)) (by decide +kernel))
        refine va_gets hx hb (hZ.2.1.1 0 (by decide)).1 hS hown (hts _ q84) (fun _ h9 => h9) dX0_combine_142 ?_
        refine lv_goto (tgt := 151) hx hb dX0_combine_145 (by decide) ?_
        rw [e2] at tail2
        exact tail2
    refine lv_if_ne (tgt := 133) hx hb dX0_combine_124 (by decide) (fun ck => ?_) (fun ck => ?_)
    · have e2 : kd.toBitVec.toNat % 2 = 1 := hk2.elim (fun q => absurd (congrArg nI q) ck) id
      refine va_gets hx hb (hZ.1.1 1 (by decide)).1 hS hown (hts _ q82) (fun _ h9 => h9) dX0_combine_133 ?_
      rw [e2] at tail
      exact tail
    · have e2 : kd.toBitVec.toNat % 2 = 0 := hk2.elim id (fun q => absurd (ck.symm.trans (congrArg nI q)) (by decide +kernel))
      refine va_gets hx hb (hZ.1.1 0 (by decide)).1 hS hown (hts _ q80) (fun _ h9 => h9) dX0_combine_127 ?_
      refine lv_goto (tgt := 136) hx hb dX0_combine_130 (by decide) ?_
      rw [e2] at tail
      exact tail
  · have hn0 : gm_cn mk 8 = 0 := (nI_eq (b := 0) (by omega) (by decide)).mp (cz.trans nI_0.symm)
    refine lv_iconst (v := -1) hx hb dX0_combine_22 (by decide +kernel) ?_
    refine W.widen (k := 48) (n := 594) (by omega) (by omega) ?_
    exact W.iret (v := -1) hx hb hr (fun t ht hW => ⟨⟨-1, 0, rfl, (if_pos hn0).symm, by show va_P D vwCl (if _ then _ else _) t.heap ∧ va_D _ (if _ then _ else _); rw [if_pos hn0, ht]; exact ⟨hP, hD⟩⟩, hS.F ht⟩) hS.2.2 dX0_combine_23
end
section
/-! THE REFERENCE COMBINES -/
set_option maxRecDepth 100000
/-- a level of differences, from the last place down to behind i -/
def gm_sp (F : Nat) (p0 : Nat → Nat) (n L : Nat) (u : Nat → Nat) (i : Nat) : Nat → Nat := fun t => if i < t then gm_st F p0 n L u t else u t
theorem gm_sp_0 (F : Nat) (p0 : Nat → Nat) (n L : Nat) (u : Nat → Nat) : gm_sp F p0 n L u (n - 1) = u := by
  funext t
  unfold gm_sp gm_st
  try dsimp only
  split
  · rw [if_neg (by omega)]
  · rfl
theorem gm_sp_e (F : Nat) (p0 : Nat → Nat) (n L : Nat) (u : Nat → Nat) : gm_sp F p0 n (L + 1) u L = gm_st F p0 n (L + 1) u := by
  funext t
  unfold gm_sp
  split
  · rfl
  · unfold gm_st
    try dsimp only
    rw [if_neg (by omega)]
theorem gm_sp_s (F : Nat) (p0 : Nat → Nat) (n L : Nat) (u : Nat → Nat) {i : Nat} (hi : i + 1 < n) (hL : L ≤ i + 1) : va_up (gm_sp F p0 n L u (i + 1)) (i + 1) (gm_mul F (u (i + 1) ^^^ u i) (gm_iv F (p0 (i + 1) ^^^ p0 (i + 1 - L)))) = gm_sp F p0 n L u i := by
  funext t
  unfold gm_sp va_up
  try dsimp only
  by_cases h : t = i + 1
  · subst h
    rw [if_pos rfl, if_pos (Nat.lt_succ_self _)]
    unfold gm_st
    try dsimp only
    rw [if_pos ⟨hL, hi⟩]
    rfl
  · rw [if_neg h]
    by_cases h2 : i + 1 < t
    · rw [if_pos h2, if_pos (by omega)]
    · rw [if_neg h2, if_neg (by omega)]
theorem gm_sp_lt {F : Nat} (hF : gm_ok F) {p0 : Nat → Nat} {n L : Nat} {u : Nat → Nat} (hu : ∀ i, u i < 256) (i t : Nat) : gm_sp F p0 n L u i t < 256 := by
  unfold gm_sp gm_st
  try dsimp only
  split
  · split
    · exact gm_mul_lt hF _ (gm_xlt (hu _) (hu _))
    · exact hu _
  · exact hu _
/-- the answer's first k bytes -/
def gm_zk (F n : Nat) (p0 : Nat → Nat) (y : Nat → Nat → Nat) (k : Nat) : Nat → Nat := fun t => if t < k then gm_nw F p0 n (fun i => y i t) else 0
theorem gm_zk_0 (F n : Nat) (p0 : Nat → Nat) (y : Nat → Nat → Nat) : gm_zk F n p0 y 0 = fun _ => 0 := by
  funext t
  unfold gm_zk
  rw [if_neg (Nat.not_lt_zero _)]
theorem gm_zk_s (F n : Nat) (p0 : Nat → Nat) (y : Nat → Nat → Nat) (k : Nat) : va_up (gm_zk F n p0 y k) k (gm_nw F p0 n (fun i => y i k)) = gm_zk F n p0 y (k + 1) := by
  funext t
  unfold gm_zk va_up
  try dsimp only
  by_cases h : t = k
  · subst h
    rw [if_pos rfl, if_pos (Nat.lt_succ_self _)]
  · rw [if_neg h]
    by_cases h2 : t < k
    · rw [if_pos h2, if_pos (by omega)]
    · rw [if_neg h2, if_neg (by omega)]
theorem gm_zk_av {F m : Nat} (hF : gm_ok F) (hm : m < 256) {y : Nat → Nat → Nat} (hy : ∀ i j, y i j < 256) : gm_zk F (gm_cn m 8) (gm_p m) y 16 = gm_av F (gm_cn m 8) (gm_p m) y := by
  funext k
  unfold gm_zk gm_av
  split
  · exact gm_law hF hm (fun i => hy i k)
  · rfl
theorem gm_ar_up {m i : Nat} (h : m / 2 ^ i % 2 = 1) : va_up (gm_ar m i) (gm_cn m i) i = gm_ar m (i + 1) := by
  show _ = if m / 2 ^ i % 2 = 1 then (fun j => if j = gm_cn m i then i else gm_ar m i j) else gm_ar m i
  rw [if_pos h]
  rfl
theorem gm_ar_no {m i : Nat} (h : m / 2 ^ i % 2 = 0) : gm_ar m i = gm_ar m (i + 1) := by
  show _ = if m / 2 ^ i % 2 = 1 then (fun j => if j = gm_cn m i then i else gm_ar m i j) else gm_ar m i
  rw [if_neg (by omega)]
theorem gm_cy_lt {Y : Nat → Nat} (h : ∀ i, Y i < 256) (n i : Nat) : gm_cy Y n i < 256 := by
  unfold gm_cy
  split
  · exact h i
  · decide
section MC
variable {p : Program} {l : Launch} {e : Env} {R : Room} {s : State} {m : MethodId} {args : Array Value} {below : List Frame} {meth : Method} {c : Code} {H : Heap} {locs : List Loc} {cells slots : Nat} {Q : State → Prop} {D : va_G} {tc : Nat → ClassId}
variable {A : Nat → Prop} {H0 : Heap}
set_option maxHeartbeats 4000000 in
set_option maxRecDepth 100000 in
/-- the shares told are counted: t to look at -/
theorem gm_m1 {h g o F a9 : Nat} {mk9 : Int32} (hx : p.tables.exec = Jvm.exec) (hb : c.code = cX1_combine) (hml : c.maxLocals = 12) (hT : gm_T D tc s) (hts : ∀ w ∈ lw_all, w.before args s = true) (hown : s.vm.findClass RX1 = some m.cls) :
    ∀ (t i : Nat) (H : Heap) (locs : List Loc) (ls : Array Slot), i + t = 8 → va_P D vwCl [(h, gm_O 1 [.ref g, .ref o]), (a9, gm_I tc 8 (gm_ar (gm_mk mk9) i))] H → va_D A [(h, gm_O 1 [.ref g, .ref o]), (a9, gm_I tc 8 (gm_ar (gm_mk mk9) i))] → va_S A H0 H locs → lv_has ls 12 [(0, .ref h), (3, .int (mk9)), (4, .int (nI F)), (5, .ref a9), (6, .int (nI (gm_cn (gm_mk mk9) i))), (7, .int (nI i))] →
    (∀ (H : Heap) (locs : List Loc) (ls : Array Slot), va_P D vwCl [(h, gm_O 1 [.ref g, .ref o]), (a9, gm_I tc 8 (gm_ar (gm_mk mk9) 8))] H → va_D A [(h, gm_O 1 [.ref g, .ref o]), (a9, gm_I tc 8 (gm_ar (gm_mk mk9) 8))] → va_S A H0 H locs → lv_has ls 12 [(0, .ref h), (4, .int (nI F)), (5, .ref a9), (6, .int (nI (gm_cn (gm_mk mk9) 8)))] → W p l e R s m args below meth c H locs cells slots Q (F0 m 62 ls [])) → W p l e R s m args below meth c H locs cells slots Q (F0 m 29 ls []) := by
  intro t
  induction t with
  | zero =>
    intro i H locs ls hi hP hD hS hl kk
    have hi : i = 8 := by omega
    subst hi
    refine lv_iload hx hb dX1_combine_29 (lv_at hl 5 rfl) ?_
    refine lv_bipush (v := nI 8) hx hb dX1_combine_31 (by decide +kernel) ?_
    refine lv_icmp_ge (tgt := 62) hx hb dX1_combine_33 (by decide) (fun cz => ?_) (fun cz => by first | exact absurd ((nI_le (Nat.le_refl 8) (by decide))) cz | exact absurd cz ((nI_le (Nat.le_refl 8) (by decide))))
    exact kk H locs ls hP hD hS (lv_sub hl [0, 2, 3, 4] rfl)
  | succ t ih =>
    intro i H locs ls hi hP hD hS hl kk
    refine lv_iload hx hb dX1_combine_29 (lv_at hl 5 rfl) ?_
    refine lv_bipush (v := nI 8) hx hb dX1_combine_31 (by decide +kernel) ?_
    refine lv_icmp_ge (tgt := 62) hx hb dX1_combine_33 (by decide) (fun cz => by first | exact absurd cz ((nI_ge (show i < 8 by omega) (by decide))) | exact absurd ((nI_ge (show i < 8 by omega) (by decide))) cz) (fun cz => ?_)
    refine lv_iload_n hx hb dX1_combine_36 rfl (lv_at hl 1 rfl) ?_
    refine lv_iload hx hb dX1_combine_37 (lv_at hl 5 rfl) ?_
    refine lv_ishr hx hb dX1_combine_39 ?_
    refine lv_iconst (v := nI 1) hx hb dX1_combine_40 (by decide +kernel) ?_
    refine lv_iand hx hb dX1_combine_41 ?_
    refine gm_e (y := nI (gm_mk mk9 / 2 ^ i % 2)) (gm_mk_b mk9 (by omega)) ?_
    refine lv_iconst (v := nI 1) hx hb dX1_combine_42 (by decide +kernel) ?_
    refine lv_icmp_ne (tgt := 56) hx hb dX1_combine_43 (by decide) (fun cz => ?_) (fun cz => ?_)
    · have cb : gm_mk mk9 / 2 ^ i % 2 = 0 := (gm_b2 (gm_mk mk9 / 2 ^ i)).elim id (fun q => absurd (congrArg nI q) cz)
      have ec : gm_cn (gm_mk mk9) (i + 1) = gm_cn (gm_mk mk9) i := by show gm_cn (gm_mk mk9) i + gm_mk mk9 / 2 ^ i % 2 = _; rw [cb, Nat.add_zero]
      refine lv_iinc (v := nI (i + 1)) (lv' := [(7, .int (nI (i + 1))), (0, .ref h), (3, .int (mk9)), (4, .int (nI F)), (5, .ref a9), (6, .int (nI (gm_cn (gm_mk mk9) i)))]) hx hb dX1_combine_56 hl (k := 5) rfl (nI_add i 1) (by decide) rfl (fun ls hl => ?_)
      refine lv_goto (tgt := 29) hx hb dX1_combine_59 (by decide) ?_
      rw [← ec] at hl
      rw [gm_ar_no cb] at hP hD
      exact ih (i + 1) H locs ls (by omega) hP hD hS (lv_sub hl [1, 2, 3, 4, 5, 0] rfl) kk
    · have cb : gm_mk mk9 / 2 ^ i % 2 = 1 := (gm_b01 (gm_b2 (gm_mk mk9 / 2 ^ i))).mp cz
      have ec : gm_cn (gm_mk mk9) (i + 1) = gm_cn (gm_mk mk9) i + 1 := by show gm_cn (gm_mk mk9) i + gm_mk mk9 / 2 ^ i % 2 = _; rw [cb]
      have hle := gm_cn_le (gm_mk mk9) i
      refine lv_aload hx hb dX1_combine_46 (lv_at hl 3 rfl) ?_
      refine lv_iload hx hb dX1_combine_48 (lv_at hl 4 rfl) ?_
      refine lv_iload hx hb dX1_combine_50 (lv_at hl 5 rfl) ?_
      refine gm_iast (v := i) hx hb hT hP hD hS 1 rfl (j := gm_cn (gm_mk mk9) i) (by omega) (by decide) dX1_combine_52 (fun H locs hP hD hS => ?_)
      rw [gm_ar_up cb] at hP hD
      have hP : va_P D vwCl [(h, gm_O 1 [.ref g, .ref o]), (a9, gm_I tc 8 (gm_ar (gm_mk mk9) (i + 1)))] H := hP
      have hD : va_D A [(h, gm_O 1 [.ref g, .ref o]), (a9, gm_I tc 8 (gm_ar (gm_mk mk9) (i + 1)))] := hD
      refine lv_iinc (v := nI ((gm_cn (gm_mk mk9) i) + 1)) (lv' := [(6, .int (nI ((gm_cn (gm_mk mk9) i) + 1))), (0, .ref h), (3, .int (mk9)), (4, .int (nI F)), (5, .ref a9), (7, .int (nI i))]) hx hb dX1_combine_53 hl (k := 4) rfl (nI_add (gm_cn (gm_mk mk9) i) 1) (by decide) rfl (fun ls hl => ?_)
      refine lv_iinc (v := nI (i + 1)) (lv' := [(7, .int (nI (i + 1))), (6, .int (nI ((gm_cn (gm_mk mk9) i) + 1))), (0, .ref h), (3, .int (mk9)), (4, .int (nI F)), (5, .ref a9)]) hx hb dX1_combine_56 hl (k := 5) rfl (nI_add i 1) (by decide) rfl (fun ls hl => ?_)
      refine lv_goto (tgt := 29) hx hb dX1_combine_59 (by decide) ?_
      rw [← ec] at hl
      exact ih (i + 1) H locs ls (by omega) hP hD hS (lv_sub hl [2, 3, 4, 5, 1, 0] rfl) kk
set_option maxHeartbeats 4000000 in
set_option maxRecDepth 100000 in
/-- a row of the shares' bytes: t to go -/
theorem gm_ma {ra : Nat → Nat} {M : Nat → Nat → Nat} {h g o F n mk a9 z9 w9 k : Nat} {Z9 : Nat → Nat} (hF : gm_ok F) (hn : n ≤ 8) (hx : p.tables.exec = Jvm.exec) (hb : c.code = cX1_combine) (hml : c.maxLocals = 12) (hT : gm_T D tc s) (hts : ∀ w ∈ lw_all, w.before args s = true) (hown : s.vm.findClass RX1 = some m.cls) (hf9 : 1 + 1 ≤ R.frames) (hl9 : 48 ≤ R.locals) (hc9 : cells + 0 ≤ R.cells) (hs9 : slots + 0 ≤ R.slots) (hk : k < 16) (hRo : va_P D vwCl ((g, gm_R tc 3 8 (fun i => some (ra i))) :: gm_L ra (fun i => gm_I tc 16 (M i)) 8) H0) (hap : ∀ q ∈ ((g, gm_R tc 3 8 (fun i => some (ra i))) :: gm_L ra (fun i => gm_I tc 16 (M i)) 8), ¬ A q.1) :
    ∀ (t i : Nat) (H : Heap) (locs : List Loc) (ls : Array Slot), i + t = n → va_P D vwCl [(w9, gm_I tc n (gm_cy (fun t => M (gm_ar mk 8 t) k) i)), (h, gm_O 1 [.ref g, .ref o]), (a9, gm_I tc 8 (gm_ar mk 8)), (z9, gm_I tc 16 Z9)] H → va_D A [(w9, gm_I tc n (gm_cy (fun t => M (gm_ar mk 8 t) k) i)), (h, gm_O 1 [.ref g, .ref o]), (a9, gm_I tc 8 (gm_ar mk 8)), (z9, gm_I tc 16 Z9)] → va_S A H0 H locs → lv_has ls 12 [(0, .ref h), (4, .int (nI F)), (5, .ref a9), (6, .int (nI n)), (7, .ref z9), (8, .int (nI k)), (9, .ref w9), (10, .int (nI i))] →
    (∀ (H : Heap) (locs : List Loc) (ls : Array Slot), va_P D vwCl [(w9, gm_I tc n (gm_cy (fun t => M (gm_ar mk 8 t) k) n)), (h, gm_O 1 [.ref g, .ref o]), (a9, gm_I tc 8 (gm_ar mk 8)), (z9, gm_I tc 16 Z9)] H → va_D A [(w9, gm_I tc n (gm_cy (fun t => M (gm_ar mk 8 t) k) n)), (h, gm_O 1 [.ref g, .ref o]), (a9, gm_I tc 8 (gm_ar mk 8)), (z9, gm_I tc 16 Z9)] → va_S A H0 H locs → lv_has ls 12 [(0, .ref h), (4, .int (nI F)), (5, .ref a9), (6, .int (nI n)), (7, .ref z9), (8, .int (nI k)), (9, .ref w9)] → W p l e R s m args below meth c H locs cells slots Q (F0 m 125 ls [])) → W p l e R s m args below meth c H locs cells slots Q (F0 m 94 ls []) := by
  intro t
  induction t with
  | zero =>
    intro i H locs ls hi hP hD hS hl kk
    have hi : i = n := by omega
    subst hi
    refine lv_iload hx hb dX1_combine_94 (lv_at hl 7 rfl) ?_
    refine lv_iload hx hb dX1_combine_96 (lv_at hl 3 rfl) ?_
    refine lv_icmp_ge (tgt := 125) hx hb dX1_combine_98 (by decide) (fun cz => ?_) (fun cz => by first | exact absurd ((nI_le (Nat.le_refl i) (by omega))) cz | exact absurd cz ((nI_le (Nat.le_refl i) (by omega))))
    exact kk H locs ls hP hD hS (lv_sub hl [0, 1, 2, 3, 4, 5, 6] rfl)
  | succ t ih =>
    intro i H locs ls hi hP hD hS hl kk
    refine lv_iload hx hb dX1_combine_94 (lv_at hl 7 rfl) ?_
    refine lv_iload hx hb dX1_combine_96 (lv_at hl 3 rfl) ?_
    refine lv_icmp_ge (tgt := 125) hx hb dX1_combine_98 (by decide) (fun cz => by first | exact absurd cz ((nI_ge (show i < n by omega) (by omega))) | exact absurd ((nI_ge (show i < n by omega) (by omega))) cz) (fun cz => ?_)
    have hR := gm_ro hS hRo hap
    have ha8 := gm_ar8 mk i
    have hRi := gm_pick hR (List.mem_cons_of_mem _ (gm_L_mem (ad := ra) (e := fun i => gm_I tc 16 (M i)) ha8))
    refine lv_aload hx hb dX1_combine_101 (lv_at hl 6 rfl) ?_
    refine lv_iload hx hb dX1_combine_103 (lv_at hl 7 rfl) ?_
    refine lv_aload_n hx hb dX1_combine_105 rfl (lv_at hl 0 rfl) ?_
    refine va_get (D := D) (ci := 1) (v := .ref g) (C := RX1) (T := TX1) (N := 2) hx hb hts in_X1 hown hT.1 hP 1 rfl rfl 0 (by decide) (hts _ q227) (fun _ h9 => h9) rfl dX1_combine_106 ?_
    refine lv_aload hx hb dX1_combine_109 (lv_at hl 2 rfl) ?_
    refine lv_iload hx hb dX1_combine_111 (lv_at hl 7 rfl) ?_
    refine gm_iald hx hb hT hP 2 rfl (j := i) (by omega) (by decide) dX1_combine_113 ?_
    refine gm_qald hx hb hT hR 0 3 rfl rfl rfl ha8 (by decide) rfl dX1_combine_114 ?_
    refine lv_iload hx hb dX1_combine_115 (lv_at hl 5 rfl) ?_
    refine gm_iald hx hb hT hRi 0 rfl hk (by decide) dX1_combine_117 ?_
    refine gm_iast (v := M (gm_ar mk 8 i) k) hx hb hT hP hD hS 0 rfl (j := i) (by omega) (by omega) dX1_combine_118 (fun H locs hP hD hS => ?_)
    have ec : va_up (gm_cy (fun t => M (gm_ar mk 8 t) k) i) i (M (gm_ar mk 8 i) k) = gm_cy (fun t => M (gm_ar mk 8 t) k) (i + 1) := gm_cy_s (fun t => M (gm_ar mk 8 t) k) i
    rw [ec] at hP hD
    have hP : va_P D vwCl [(w9, gm_I tc n (gm_cy (fun t => M (gm_ar mk 8 t) k) (i + 1))), (h, gm_O 1 [.ref g, .ref o]), (a9, gm_I tc 8 (gm_ar mk 8)), (z9, gm_I tc 16 Z9)] H := hP
    have hD : va_D A [(w9, gm_I tc n (gm_cy (fun t => M (gm_ar mk 8 t) k) (i + 1))), (h, gm_O 1 [.ref g, .ref o]), (a9, gm_I tc 8 (gm_ar mk 8)), (z9, gm_I tc 16 Z9)] := hD
    refine lv_iinc (v := nI (i + 1)) (lv' := [(10, .int (nI (i + 1))), (0, .ref h), (4, .int (nI F)), (5, .ref a9), (6, .int (nI n)), (7, .ref z9), (8, .int (nI k)), (9, .ref w9)]) hx hb dX1_combine_119 hl (k := 7) rfl (nI_add i 1) (by decide) rfl (fun ls hl => ?_)
    refine lv_goto (tgt := 94) hx hb dX1_combine_122 (by decide) ?_
    exact ih (i + 1) H locs ls (by omega) hP hD hS (lv_sub hl [1, 2, 3, 4, 5, 6, 7, 0] rfl) kk
set_option maxHeartbeats 4000000 in
set_option maxRecDepth 100000 in
/-- a level of differences: t places to go -/
theorem gm_mc {h g o F n mk a9 z9 w9 k : Nat} {Z9 : Nat → Nat} (hF : gm_ok F) (hn : n ≤ 8) (hx : p.tables.exec = Jvm.exec) (hb : c.code = cX1_combine) (hml : c.maxLocals = 12) (hT : gm_T D tc s) (hts : ∀ w ∈ lw_all, w.before args s = true) (hown : s.vm.findClass RX1 = some m.cls) (hf9 : 1 + 1 ≤ R.frames) (hl9 : 48 ≤ R.locals) (hc9 : cells + 0 ≤ R.cells) (hs9 : slots + 0 ≤ R.slots) {L : Nat} {u9 : Nat → Nat} (hu : ∀ i, u9 i < 256) :
    ∀ (t : Nat) (H : Heap) (locs : List Loc) (ls : Array Slot), L + t < n → va_P D vwCl [(w9, gm_I tc n (gm_sp F (gm_p mk) n (L + 1) u9 (L + t))), (h, gm_O 1 [.ref g, .ref o]), (a9, gm_I tc 8 (gm_ar mk 8)), (z9, gm_I tc 16 Z9)] H → va_D A [(w9, gm_I tc n (gm_sp F (gm_p mk) n (L + 1) u9 (L + t))), (h, gm_O 1 [.ref g, .ref o]), (a9, gm_I tc 8 (gm_ar mk 8)), (z9, gm_I tc 16 Z9)] → va_S A H0 H locs → lv_has ls 12 [(0, .ref h), (4, .int (nI F)), (5, .ref a9), (6, .int (nI n)), (7, .ref z9), (8, .int (nI k)), (9, .ref w9), (10, .int (nI (L + 1))), (11, .int (nI (L + t)))] →
    (∀ (H : Heap) (locs : List Loc) (ls : Array Slot), va_P D vwCl [(w9, gm_I tc n (gm_st F (gm_p mk) n (L + 1) u9)), (h, gm_O 1 [.ref g, .ref o]), (a9, gm_I tc 8 (gm_ar mk 8)), (z9, gm_I tc 16 Z9)] H → va_D A [(w9, gm_I tc n (gm_st F (gm_p mk) n (L + 1) u9)), (h, gm_O 1 [.ref g, .ref o]), (a9, gm_I tc 8 (gm_ar mk 8)), (z9, gm_I tc 16 Z9)] → va_S A H0 H locs → lv_has ls 12 [(0, .ref h), (4, .int (nI F)), (5, .ref a9), (6, .int (nI n)), (7, .ref z9), (8, .int (nI k)), (9, .ref w9), (10, .int (nI (L + 1)))] → W p l e R s m args below meth c H locs cells slots Q (F0 m 195 ls [])) → W p l e R s m args below meth c H locs cells slots Q (F0 m 141 ls []) := by
  intro t
  induction t with
  | zero =>
    intro H locs ls hi hP hD hS hl kk
    rw [show L + 0 = L from rfl] at hP hD hl
    refine lv_iload hx hb dX1_combine_141 (lv_at hl 8 rfl) ?_
    refine lv_iload hx hb dX1_combine_143 (lv_at hl 7 rfl) ?_
    refine lv_icmp_lt (tgt := 195) hx hb dX1_combine_145 (by decide) (fun cz => ?_) (fun cz => by first | exact absurd ((nI_lt (Nat.lt_succ_self L) (by omega))) cz | exact absurd cz ((nI_lt (Nat.lt_succ_self L) (by omega))))
    rw [gm_sp_e] at hP hD
    exact kk H locs ls hP hD hS (lv_sub hl [0, 1, 2, 3, 4, 5, 6, 7] rfl)
  | succ t ih =>
    intro H locs ls hi hP hD hS hl kk
    have e1 : L + (t + 1) = L + t + 1 := (Nat.add_assoc L t 1).symm
    rw [e1] at hP hD hl hi
    refine lv_iload hx hb dX1_combine_141 (lv_at hl 8 rfl) ?_
    refine lv_iload hx hb dX1_combine_143 (lv_at hl 7 rfl) ?_
    refine lv_icmp_lt (tgt := 195) hx hb dX1_combine_145 (by decide) (fun cz => by first | exact absurd cz ((nI_nlt (show L + 1 ≤ L + t + 1 by omega) (by omega))) | exact absurd ((nI_nlt (show L + 1 ≤ L + t + 1 by omega) (by omega))) cz) (fun cz => ?_)
    refine lv_aload hx hb dX1_combine_148 (lv_at hl 6 rfl) ?_
    refine lv_iload hx hb dX1_combine_150 (lv_at hl 8 rfl) ?_
    refine lv_aload hx hb dX1_combine_152 (lv_at hl 6 rfl) ?_
    refine lv_iload hx hb dX1_combine_154 (lv_at hl 8 rfl) ?_
    refine gm_iald hx hb hT hP 0 rfl (j := L + t + 1) (by omega) (by omega) dX1_combine_156 ?_
    have es : (gm_sp F (gm_p mk) n (L + 1) u9 (L + t + 1)) (L + t + 1) = u9 (L + t + 1) := if_neg (Nat.lt_irrefl _)
    refine gm_e (y := nI (u9 (L + t + 1))) (congrArg nI es) ?_
    refine lv_aload hx hb dX1_combine_157 (lv_at hl 6 rfl) ?_
    refine lv_iload hx hb dX1_combine_159 (lv_at hl 8 rfl) ?_
    refine lv_iconst (v := nI 1) hx hb dX1_combine_161 (by decide +kernel) ?_
    refine lv_isub hx hb dX1_combine_162 ?_
    refine gm_e (y := nI (L + t)) (pk_sub (b := 1) (by omega)) ?_
    refine gm_iald hx hb hT hP 0 rfl (j := L + t) (by omega) (by omega) dX1_combine_163 ?_
    have es2 : (gm_sp F (gm_p mk) n (L + 1) u9 (L + t + 1)) (L + t) = u9 (L + t) := if_neg (by omega)
    refine gm_e (y := nI (u9 (L + t))) (congrArg nI es2) ?_
    refine lv_ixor hx hb dX1_combine_164 ?_
    refine gm_e (y := nI ((u9 (L + t + 1)) ^^^ (u9 (L + t)))) (nx_xor (u9 (L + t + 1)) (u9 (L + t))) ?_
    refine lv_aload hx hb dX1_combine_165 (lv_at hl 2 rfl) ?_
    refine lv_iload hx hb dX1_combine_167 (lv_at hl 8 rfl) ?_
    refine gm_iald hx hb hT hP 2 rfl (j := L + t + 1) (by omega) (by decide) dX1_combine_169 ?_
    refine lv_iconst (v := nI 1) hx hb dX1_combine_170 (by decide +kernel) ?_
    refine lv_iadd hx hb dX1_combine_171 ?_
    refine gm_e (y := nI (gm_p mk (L + t + 1))) (nI_add _ 1) ?_
    refine lv_aload hx hb dX1_combine_172 (lv_at hl 2 rfl) ?_
    refine lv_iload hx hb dX1_combine_174 (lv_at hl 8 rfl) ?_
    refine lv_iload hx hb dX1_combine_176 (lv_at hl 7 rfl) ?_
    refine lv_isub hx hb dX1_combine_178 ?_
    refine gm_e (y := nI (L + t + 1 - (L + 1))) (pk_sub (by omega)) ?_
    refine gm_iald hx hb hT hP 2 rfl (j := L + t + 1 - (L + 1)) (by omega) (by decide) dX1_combine_179 ?_
    refine lv_iconst (v := nI 1) hx hb dX1_combine_180 (by decide +kernel) ?_
    refine lv_iadd hx hb dX1_combine_181 ?_
    refine gm_e (y := nI (gm_p mk (L + t + 1 - (L + 1)))) (nI_add _ 1) ?_
    refine lv_ixor hx hb dX1_combine_182 ?_
    refine gm_e (y := nI ((gm_p mk (L + t + 1)) ^^^ (gm_p mk (L + t + 1 - (L + 1))))) (nx_xor (gm_p mk (L + t + 1)) (gm_p mk (L + t + 1 - (L + 1)))) ?_
    refine lv_iload hx hb dX1_combine_183 (lv_at hl 1 rfl) ?_
    refine vp_callSi (W.runS (As := [.int (nI (u9 (L + t + 1) ^^^ u9 (L + t))), .int (nI (gm_p mk (L + t + 1) ^^^ gm_p mk (L + t + 1 - (L + 1)))), .int (nI F)]) (rest := [.int (nI (L + t + 1)), .ref w9]) ⟨hx, hb, hml, hown, hts⟩ (met_by l D tc (u9 (L + t + 1) ^^^ u9 (L + t)) (gm_p mk (L + t + 1) ^^^ gm_p mk (L + t + 1 - (L + 1))) F hF (gm_xlt (hu _) (hu _)) (gm_p_x _ _ _)) (va_cwS 3 hts (lw_S q243 q244 q3 q245) rfl rfl rfl (by decide +kernel) ⟨hf9, by show 8 + (5 + 11) + 24 ≤ _; omega⟩) ⟨fun _ _ _ _ q => ⟨q.1, trivial⟩, fun _ _ _ => ⟨rfl, trivial⟩⟩ rfl rfl hl.1 rfl (lv_room (Nat.le_of_ble_eq_true rfl)) dX1_combine_185 ⟨hc9, hs9⟩) (fun r9 e9 => ?_)
    subst e9
    refine gm_iast (v := gm_mul F (u9 (L + t + 1) ^^^ u9 (L + t)) (gm_iv F (gm_p mk (L + t + 1) ^^^ gm_p mk (L + t + 1 - (L + 1))))) hx hb hT hP hD hS 0 rfl (j := L + t + 1) (by omega) (by omega) dX1_combine_188 (fun H locs hP hD hS => ?_)
    rw [gm_sp_s F (gm_p mk) n (L + 1) u9 (i := L + t) hi (by omega)] at hP hD
    have hP : va_P D vwCl [(w9, gm_I tc n (gm_sp F (gm_p mk) n (L + 1) u9 (L + t))), (h, gm_O 1 [.ref g, .ref o]), (a9, gm_I tc 8 (gm_ar mk 8)), (z9, gm_I tc 16 Z9)] H := hP
    have hD : va_D A [(w9, gm_I tc n (gm_sp F (gm_p mk) n (L + 1) u9 (L + t))), (h, gm_O 1 [.ref g, .ref o]), (a9, gm_I tc 8 (gm_ar mk 8)), (z9, gm_I tc 16 Z9)] := hD
    refine lv_iinc (v := nI (L + t)) (lv' := [(11, .int (nI (L + t))), (0, .ref h), (4, .int (nI F)), (5, .ref a9), (6, .int (nI n)), (7, .ref z9), (8, .int (nI k)), (9, .ref w9), (10, .int (nI (L + 1)))]) hx hb dX1_combine_189 hl (k := 8) rfl (pk_m1 _) (by decide) rfl (fun ls hl => ?_)
    refine lv_goto (tgt := 141) hx hb dX1_combine_192 (by decide) ?_
    exact ih H locs ls (by omega) hP hD hS (lv_sub hl [1, 2, 3, 4, 5, 6, 7, 8, 0] rfl) kk
set_option maxHeartbeats 4000000 in
set_option maxRecDepth 100000 in
/-- the levels of differences: t to go -/
theorem gm_mb {h g o F n mk a9 z9 w9 k : Nat} {Z9 : Nat → Nat} (hF : gm_ok F) (hn : n ≤ 8) (hx : p.tables.exec = Jvm.exec) (hb : c.code = cX1_combine) (hml : c.maxLocals = 12) (hT : gm_T D tc s) (hts : ∀ w ∈ lw_all, w.before args s = true) (hown : s.vm.findClass RX1 = some m.cls) (hf9 : 1 + 1 ≤ R.frames) (hl9 : 48 ≤ R.locals) (hc9 : cells + 0 ≤ R.cells) (hs9 : slots + 0 ≤ R.slots) (h1n : 1 ≤ n) {y9 : Nat → Nat} (hy : ∀ i, y9 i < 256) :
    ∀ (t L : Nat) (H : Heap) (locs : List Loc) (ls : Array Slot), L + t = n - 1 → va_P D vwCl [(w9, gm_I tc n (gm_rw F (gm_p mk) n y9 L)), (h, gm_O 1 [.ref g, .ref o]), (a9, gm_I tc 8 (gm_ar mk 8)), (z9, gm_I tc 16 Z9)] H → va_D A [(w9, gm_I tc n (gm_rw F (gm_p mk) n y9 L)), (h, gm_O 1 [.ref g, .ref o]), (a9, gm_I tc 8 (gm_ar mk 8)), (z9, gm_I tc 16 Z9)] → va_S A H0 H locs → lv_has ls 12 [(0, .ref h), (4, .int (nI F)), (5, .ref a9), (6, .int (nI n)), (7, .ref z9), (8, .int (nI k)), (9, .ref w9), (10, .int (nI (L + 1)))] →
    (∀ (H : Heap) (locs : List Loc) (ls : Array Slot), va_P D vwCl [(w9, gm_I tc n (gm_rw F (gm_p mk) n y9 (n - 1))), (h, gm_O 1 [.ref g, .ref o]), (a9, gm_I tc 8 (gm_ar mk 8)), (z9, gm_I tc 16 Z9)] H → va_D A [(w9, gm_I tc n (gm_rw F (gm_p mk) n y9 (n - 1))), (h, gm_O 1 [.ref g, .ref o]), (a9, gm_I tc 8 (gm_ar mk 8)), (z9, gm_I tc 16 Z9)] → va_S A H0 H locs → lv_has ls 12 [(0, .ref h), (4, .int (nI F)), (5, .ref a9), (6, .int (nI n)), (7, .ref z9), (8, .int (nI k)), (9, .ref w9)] → W p l e R s m args below meth c H locs cells slots Q (F0 m 201 ls [])) → W p l e R s m args below meth c H locs cells slots Q (F0 m 128 ls []) := by
  intro t
  induction t with
  | zero =>
    intro L H locs ls hi hP hD hS hl kk
    have hi : L = n - 1 := by omega
    subst hi
    refine lv_iload hx hb dX1_combine_128 (lv_at hl 7 rfl) ?_
    refine lv_iload hx hb dX1_combine_130 (lv_at hl 3 rfl) ?_
    refine lv_icmp_ge (tgt := 201) hx hb dX1_combine_132 (by decide) (fun cz => ?_) (fun cz => by first | exact absurd ((nI_le (show n ≤ n - 1 + 1 by omega) (by omega))) cz | exact absurd cz ((nI_le (show n ≤ n - 1 + 1 by omega) (by omega))))
    exact kk H locs ls hP hD hS (lv_sub hl [0, 1, 2, 3, 4, 5, 6] rfl)
  | succ t ih =>
    intro L H locs ls hi hP hD hS hl kk
    refine lv_iload hx hb dX1_combine_128 (lv_at hl 7 rfl) ?_
    refine lv_iload hx hb dX1_combine_130 (lv_at hl 3 rfl) ?_
    refine lv_icmp_ge (tgt := 201) hx hb dX1_combine_132 (by decide) (fun cz => by first | exact absurd cz ((nI_ge (show L + 1 < n by omega) (by omega))) | exact absurd ((nI_ge (show L + 1 < n by omega) (by omega))) cz) (fun cz => ?_)
    refine lv_iload hx hb dX1_combine_135 (lv_at hl 3 rfl) ?_
    refine lv_iconst (v := nI 1) hx hb dX1_combine_137 (by decide +kernel) ?_
    refine lv_isub hx hb dX1_combine_138 ?_
    refine gm_e (y := nI (n - 1)) (pk_sub (b := 1) h1n) ?_
    have e1 : L + (n - 1 - L) = n - 1 := by omega
    refine gm_e (y := nI (L + (n - 1 - L))) (congrArg nI e1.symm) ?_
    refine lv_istore (lv' := [(11, .int (nI (L + (n - 1 - L)))), (0, .ref h), (4, .int (nI F)), (5, .ref a9), (6, .int (nI n)), (7, .ref z9), (8, .int (nI k)), (9, .ref w9), (10, .int (nI (L + 1)))]) hx hb dX1_combine_139 hl (by decide) rfl (fun ls hl => ?_)
    have hP : va_P D vwCl [(w9, gm_I tc n (gm_sp F (gm_p mk) n (L + 1) (gm_rw F (gm_p mk) n y9 L) (L + (n - 1 - L)))), (h, gm_O 1 [.ref g, .ref o]), (a9, gm_I tc 8 (gm_ar mk 8)), (z9, gm_I tc 16 Z9)] H := by rw [e1, gm_sp_0]; exact hP
    have hD : va_D A [(w9, gm_I tc n (gm_sp F (gm_p mk) n (L + 1) (gm_rw F (gm_p mk) n y9 L) (L + (n - 1 - L)))), (h, gm_O 1 [.ref g, .ref o]), (a9, gm_I tc 8 (gm_ar mk 8)), (z9, gm_I tc 16 Z9)] := by rw [e1, gm_sp_0]; exact hD
    refine gm_mc hF hn hx hb hml hT hts hown hf9 hl9 hc9 hs9 (fun i => gm_rw_lt hF hy L i) (n - 1 - L) H locs ls (by omega) hP hD hS (lv_sub hl [1, 2, 3, 4, 5, 6, 7, 8, 0] rfl) (fun H locs ls hP hD hS hl => ?_)
    have hP : va_P D vwCl [(w9, gm_I tc n (gm_rw F (gm_p mk) n y9 (L + 1))), (h, gm_O 1 [.ref g, .ref o]), (a9, gm_I tc 8 (gm_ar mk 8)), (z9, gm_I tc 16 Z9)] H := hP
    have hD : va_D A [(w9, gm_I tc n (gm_rw F (gm_p mk) n y9 (L + 1))), (h, gm_O 1 [.ref g, .ref o]), (a9, gm_I tc 8 (gm_ar mk 8)), (z9, gm_I tc 16 Z9)] := hD
    refine lv_iinc (v := nI ((L + 1) + 1)) (lv' := [(10, .int (nI ((L + 1) + 1))), (0, .ref h), (4, .int (nI F)), (5, .ref a9), (6, .int (nI n)), (7, .ref z9), (8, .int (nI k)), (9, .ref w9)]) hx hb dX1_combine_195 hl (k := 7) rfl (nI_add (L + 1) 1) (by decide) rfl (fun ls hl => ?_)
    refine lv_goto (tgt := 128) hx hb dX1_combine_198 (by decide) ?_
    exact ih (L + 1) H locs ls (by omega) hP hD hS (lv_sub hl [1, 2, 3, 4, 5, 6, 7, 0] rfl) kk
set_option maxHeartbeats 4000000 in
set_option maxRecDepth 100000 in
/-- at 0, from the last down: t to go -/
theorem gm_md {h g o F n mk a9 z9 w9 k : Nat} {Z9 : Nat → Nat} (hF : gm_ok F) (hn : n ≤ 8) (hx : p.tables.exec = Jvm.exec) (hb : c.code = cX1_combine) (hml : c.maxLocals = 12) (hT : gm_T D tc s) (hts : ∀ w ∈ lw_all, w.before args s = true) (hown : s.vm.findClass RX1 = some m.cls) (hf9 : 1 + 1 ≤ R.frames) (hl9 : 48 ≤ R.locals) (hc9 : cells + 0 ≤ R.cells) (hs9 : slots + 0 ≤ R.slots) {r9 : Nat → Nat} (hr9 : ∀ i, r9 i < 256) (hP : va_P D vwCl [(w9, gm_I tc n r9), (h, gm_O 1 [.ref g, .ref o]), (a9, gm_I tc 8 (gm_ar mk 8)), (z9, gm_I tc 16 Z9)] H) :
    ∀ (t j : Nat) (ls : Array Slot), j + t = n → lv_has ls 12 [(0, .ref h), (4, .int (nI F)), (5, .ref a9), (6, .int (nI n)), (7, .ref z9), (8, .int (nI k)), (9, .ref w9), (10, .int (nI (gm_hv F (gm_p mk) n r9 j))), (11, .int (gm_K t))] →
    (∀ (ls : Array Slot), lv_has ls 12 [(0, .ref h), (4, .int (nI F)), (5, .ref a9), (6, .int (nI n)), (7, .ref z9), (8, .int (nI k)), (9, .ref w9), (10, .int (nI (gm_hv F (gm_p mk) n r9 n)))] → W p l e R s m args below meth c H locs cells slots Q (F0 m 243 ls [])) → W p l e R s m args below meth c H locs cells slots Q (F0 m 210 ls []) := by
  intro t
  induction t with
  | zero =>
    intro j ls hj hl kk
    have hj : j = n := by omega
    subst hj
    refine lv_iload hx hb dX1_combine_210 (lv_at hl 8 rfl) ?_
    refine lv_if_lt (tgt := 243) hx hb dX1_combine_212 (by decide) (fun cz => ?_) (fun cz => by first | exact absurd (gm_K_0) cz | exact absurd cz (gm_K_0))
    exact kk ls (lv_sub hl [0, 1, 2, 3, 4, 5, 6, 7] rfl)
  | succ t ih =>
    intro j ls hj hl kk
    have hl : lv_has ls 12 [(0, .ref h), (4, .int (nI F)), (5, .ref a9), (6, .int (nI n)), (7, .ref z9), (8, .int (nI k)), (9, .ref w9), (10, .int (nI (gm_hv F (gm_p mk) n r9 j))), (11, .int (nI t))] := hl
    refine lv_iload hx hb dX1_combine_210 (lv_at hl 8 rfl) ?_
    refine lv_if_lt (tgt := 243) hx hb dX1_combine_212 (by decide) (fun cz => by first | exact absurd cz ((nI_pos (n := t) (by omega))) | exact absurd ((nI_pos (n := t) (by omega))) cz) (fun cz => ?_)
    refine lv_iload hx hb dX1_combine_215 (lv_at hl 7 rfl) ?_
    refine lv_aload hx hb dX1_combine_217 (lv_at hl 2 rfl) ?_
    refine lv_iload hx hb dX1_combine_219 (lv_at hl 8 rfl) ?_
    refine gm_iald hx hb hT hP 2 rfl (j := t) (by omega) (by decide) dX1_combine_221 ?_
    refine lv_iconst (v := nI 1) hx hb dX1_combine_222 (by decide +kernel) ?_
    refine lv_iadd hx hb dX1_combine_223 ?_
    refine gm_e (y := nI (gm_p mk t)) (nI_add _ 1) ?_
    refine lv_iload hx hb dX1_combine_224 (lv_at hl 1 rfl) ?_
    refine vp_callSi (W.runS (As := [.int (nI (gm_hv F (gm_p mk) n r9 j)), .int (nI (gm_p mk t)), .int (nI F)]) (rest := []) ⟨hx, hb, hml, hown, hts⟩ (met_times l D tc (gm_hv F (gm_p mk) n r9 j) (gm_p mk t) F hF (gm_hv_lt hF hr9 j) (Nat.lt_trans (gm_p_lt mk t) (by decide))) (va_cwS 3 hts (lw_S q246 q247 q3 q248) rfl rfl rfl (by decide +kernel) ⟨by show 0 + 1 ≤ _; omega, by show 8 + (5 + 11) + 0 ≤ _; omega⟩) ⟨fun _ _ _ _ q => ⟨q.1, trivial⟩, fun _ _ _ => ⟨rfl, trivial⟩⟩ rfl rfl hl.1 rfl (lv_room (Nat.le_of_ble_eq_true rfl)) dX1_combine_226 ⟨hc9, hs9⟩) (fun r9 e9 => ?_)
    subst e9
    refine lv_aload hx hb dX1_combine_229 (lv_at hl 6 rfl) ?_
    refine lv_iload hx hb dX1_combine_231 (lv_at hl 8 rfl) ?_
    refine gm_iald hx hb hT hP 0 rfl (j := t) (by omega) (by omega) dX1_combine_233 ?_
    refine lv_ixor hx hb dX1_combine_234 ?_
    refine gm_e (y := nI ((gm_mul F (gm_hv F (gm_p mk) n r9 j) (gm_p mk t)) ^^^ (r9 t))) (nx_xor (gm_mul F (gm_hv F (gm_p mk) n r9 j) (gm_p mk t)) (r9 t)) ?_
    have et : n - 1 - j = t := by omega
    have eh : gm_mul F (gm_hv F (gm_p mk) n r9 j) (gm_p mk t) ^^^ r9 t = gm_hv F (gm_p mk) n r9 (j + 1) := by show _ = gm_mul F (gm_hv F (gm_p mk) n r9 j) (gm_p mk (n - 1 - j)) ^^^ r9 (n - 1 - j); rw [et]
    refine gm_e (y := nI (gm_hv F (gm_p mk) n r9 (j + 1))) (congrArg nI eh) ?_
    refine lv_istore (lv' := [(10, .int (nI (gm_hv F (gm_p mk) n r9 (j + 1)))), (0, .ref h), (4, .int (nI F)), (5, .ref a9), (6, .int (nI n)), (7, .ref z9), (8, .int (nI k)), (9, .ref w9), (11, .int (nI t))]) hx hb dX1_combine_235 hl (by decide) rfl (fun ls hl => ?_)
    refine lv_iinc (v := gm_K t) (lv' := [(11, .int (gm_K t)), (10, .int (nI (gm_hv F (gm_p mk) n r9 (j + 1)))), (0, .ref h), (4, .int (nI F)), (5, .ref a9), (6, .int (nI n)), (7, .ref z9), (8, .int (nI k)), (9, .ref w9)]) hx hb dX1_combine_237 hl (k := 8) rfl (gm_K_c t) (by decide) rfl (fun ls hl => ?_)
    refine lv_goto (tgt := 210) hx hb dX1_combine_240 (by decide) ?_
    exact ih (j + 1) ls (by omega) (lv_sub hl [2, 3, 4, 5, 6, 7, 8, 1, 0] rfl) kk
set_option maxHeartbeats 4000000 in
set_option maxRecDepth 100000 in
/-- the reference's bytes: t to go -/
theorem gm_mk9 {ra : Nat → Nat} {M : Nat → Nat → Nat} {h g o F n mk a9 z9 : Nat} (hF : gm_ok F) (h1n : 1 ≤ n) (hn : n ≤ 8) (hM : ∀ i j, M i j < 256) (hx : p.tables.exec = Jvm.exec) (hb : c.code = cX1_combine) (hml : c.maxLocals = 12) (hT : gm_T D tc s) (hts : ∀ w ∈ lw_all, w.before args s = true) (hown : s.vm.findClass RX1 = some m.cls) (hf9 : 1 + 1 ≤ R.frames) (hl9 : 48 ≤ R.locals) (hc9 : 18 ≤ R.cells) (hs9 : 152 ≤ R.slots) (hA : ∀ q, H0.size ≤ q → A q) (hRo : va_P D vwCl ((g, gm_R tc 3 8 (fun i => some (ra i))) :: gm_L ra (fun i => gm_I tc 16 (M i)) 8) H0) (hap : ∀ q ∈ ((g, gm_R tc 3 8 (fun i => some (ra i))) :: gm_L ra (fun i => gm_I tc 16 (M i)) 8), ¬ A q.1) :
    ∀ (t k : Nat) (H : Heap) (locs : List Loc) (ls : Array Slot), k + t = 16 → va_P D vwCl [(h, gm_O 1 [.ref g, .ref o]), (a9, gm_I tc 8 (gm_ar mk 8)), (z9, gm_I tc 16 (gm_zk F n (gm_p mk) (fun i => M (gm_ar mk 8 i)) k))] H → va_D A [(h, gm_O 1 [.ref g, .ref o]), (a9, gm_I tc 8 (gm_ar mk 8)), (z9, gm_I tc 16 (gm_zk F n (gm_p mk) (fun i => M (gm_ar mk 8 i)) k))] → va_S A H0 H locs → lv_has ls 12 [(0, .ref h), (4, .int (nI F)), (5, .ref a9), (6, .int (nI n)), (7, .ref z9), (8, .int (nI k))] →
    (∀ (H : Heap) (locs : List Loc) (ls : Array Slot), va_P D vwCl [(h, gm_O 1 [.ref g, .ref o]), (a9, gm_I tc 8 (gm_ar mk 8)), (z9, gm_I tc 16 (gm_zk F n (gm_p mk) (fun i => M (gm_ar mk 8 i)) 16))] H → va_D A [(h, gm_O 1 [.ref g, .ref o]), (a9, gm_I tc 8 (gm_ar mk 8)), (z9, gm_I tc 16 (gm_zk F n (gm_p mk) (fun i => M (gm_ar mk 8 i)) 16))] → va_S A H0 H locs → lv_has ls 12 [(0, .ref h), (7, .ref z9)] → W p l e R s m args below meth c H locs (18) (152) Q (F0 m 256 ls [])) → W p l e R s m args below meth c H locs (2 + k) (24 + 8 * k) Q (F0 m 78 ls []) := by
  intro t
  induction t with
  | zero =>
    intro k H locs ls hk hP hD hS hl kk
    have hk : k = 16 := by omega
    subst hk
    refine lv_iload hx hb dX1_combine_78 (lv_at hl 5 rfl) ?_
    refine lv_bipush (v := nI 16) hx hb dX1_combine_80 (by decide +kernel) ?_
    refine lv_icmp_ge (tgt := 256) hx hb dX1_combine_82 (by decide) (fun cz => ?_) (fun cz => by first | exact absurd ((nI_le (Nat.le_refl 16) (by decide))) cz | exact absurd cz ((nI_le (Nat.le_refl 16) (by decide))))
    exact kk H locs ls hP hD hS (lv_sub hl [0, 4] rfl)
  | succ t ih =>
    intro k H locs ls hk hP hD hS hl kk
    refine lv_iload hx hb dX1_combine_78 (lv_at hl 5 rfl) ?_
    refine lv_bipush (v := nI 16) hx hb dX1_combine_80 (by decide +kernel) ?_
    refine lv_icmp_ge (tgt := 256) hx hb dX1_combine_82 (by decide) (fun cz => by first | exact absurd cz ((nI_ge (show k < 16 by omega) (by decide))) | exact absurd ((nI_ge (show k < 16 by omega) (by decide))) cz) (fun cz => ?_)
    refine lv_iload hx hb dX1_combine_85 (lv_at hl 3 rfl) ?_
    refine gm_newi hx hb (hts _ q234) hT hP hD hS hA (n := n) (by omega) (by omega) (by omega) dX1_combine_87 (fun w9 H hP hD hS => ?_)
    rw [← gm_cy_0 (fun t => M (gm_ar mk 8 t) k)] at hP hD
    have hP := hP.sub (ws' := [(w9, gm_I tc n (gm_cy (fun t => M (gm_ar mk 8 t) k) 0)), (h, gm_O 1 [.ref g, .ref o]), (a9, gm_I tc 8 (gm_ar mk 8)), (z9, gm_I tc 16 (gm_zk F n (gm_p mk) (fun i => M (gm_ar mk 8 i)) k))]) [3, 0, 1, 2] rfl
    have hD := hD.sub (ws' := [(w9, gm_I tc n (gm_cy (fun t => M (gm_ar mk 8 t) k) 0)), (h, gm_O 1 [.ref g, .ref o]), (a9, gm_I tc 8 (gm_ar mk 8)), (z9, gm_I tc 16 (gm_zk F n (gm_p mk) (fun i => M (gm_ar mk 8 i)) k))]) [3, 0, 1, 2] (by decide) rfl
    refine W.widen (k := 2 + (k + 1)) (n := 24 + 8 * (k + 1)) (by omega) (by omega) ?_
    refine lv_astore (lv' := [(9, .ref w9), (0, .ref h), (4, .int (nI F)), (5, .ref a9), (6, .int (nI n)), (7, .ref z9), (8, .int (nI k))]) hx hb dX1_combine_89 hl (by decide) rfl (fun ls hl => ?_)
    refine lv_iconst (v := nI 0) hx hb dX1_combine_91 (by decide +kernel) ?_
    refine lv_istore (lv' := [(10, .int (nI 0)), (9, .ref w9), (0, .ref h), (4, .int (nI F)), (5, .ref a9), (6, .int (nI n)), (7, .ref z9), (8, .int (nI k))]) hx hb dX1_combine_92 hl (by decide) rfl (fun ls hl => ?_)
    refine gm_ma hF hn hx hb hml hT hts hown hf9 hl9 (by omega) (by omega) (show k < 16 by omega) hRo hap n 0 H _ ls (by omega) hP hD hS (lv_sub hl [2, 3, 4, 5, 6, 7, 1, 0] rfl) (fun H locs ls hP hD hS hl => ?_)
    refine lv_iconst (v := nI 1) hx hb dX1_combine_125 (by decide +kernel) ?_
    refine gm_e (y := nI (0 + 1)) (rfl) ?_
    refine lv_istore (lv' := [(10, .int (nI (0 + 1))), (0, .ref h), (4, .int (nI F)), (5, .ref a9), (6, .int (nI n)), (7, .ref z9), (8, .int (nI k)), (9, .ref w9)]) hx hb dX1_combine_126 hl (by decide) rfl (fun ls hl => ?_)
    have hcy : ∀ i, gm_cy (fun t => M (gm_ar mk 8 t) k) n i < 256 := gm_cy_lt (fun t => hM _ k) n
    refine gm_mb hF hn hx hb hml hT hts hown hf9 hl9 (by omega) (by omega) h1n hcy (n - 1) 0 H _ ls (by omega) hP hD hS (lv_sub hl [1, 2, 3, 4, 5, 6, 7, 0] rfl) (fun H locs ls hP hD hS hl => ?_)
    refine lv_iconst (v := nI 0) hx hb dX1_combine_201 (by decide +kernel) ?_
    refine gm_e (y := nI (gm_hv F (gm_p mk) n (gm_rw F (gm_p mk) n (gm_cy (fun t => M (gm_ar mk 8 t) k) n) (n - 1)) 0)) (rfl) ?_
    refine lv_istore (lv' := [(10, .int (nI (gm_hv F (gm_p mk) n (gm_rw F (gm_p mk) n (gm_cy (fun t => M (gm_ar mk 8 t) k) n) (n - 1)) 0))), (0, .ref h), (4, .int (nI F)), (5, .ref a9), (6, .int (nI n)), (7, .ref z9), (8, .int (nI k)), (9, .ref w9)]) hx hb dX1_combine_202 hl (by decide) rfl (fun ls hl => ?_)
    refine lv_iload hx hb dX1_combine_204 (lv_at hl 4 rfl) ?_
    refine lv_iconst (v := nI 1) hx hb dX1_combine_206 (by decide +kernel) ?_
    refine lv_isub hx hb dX1_combine_207 ?_
    refine gm_e (y := nI (n - 1)) (pk_sub (b := 1) h1n) ?_
    have eK : nI (n - 1) = gm_K n := by cases n with | zero => exact absurd h1n (by decide) | succ q => rfl
    refine gm_e (y := gm_K n) (eK) ?_
    refine lv_istore (lv' := [(11, .int (gm_K n)), (10, .int (nI (gm_hv F (gm_p mk) n (gm_rw F (gm_p mk) n (gm_cy (fun t => M (gm_ar mk 8 t) k) n) (n - 1)) 0))), (0, .ref h), (4, .int (nI F)), (5, .ref a9), (6, .int (nI n)), (7, .ref z9), (8, .int (nI k)), (9, .ref w9)]) hx hb dX1_combine_208 hl (by decide) rfl (fun ls hl => ?_)
    refine gm_md hF hn hx hb hml hT hts hown hf9 hl9 (by omega) (by omega) (fun i => gm_rw_lt hF hcy (n - 1) i) hP n 0 ls (by omega) (lv_sub hl [2, 3, 4, 5, 6, 7, 8, 1, 0] rfl) (fun ls hl => ?_)
    refine lv_aload hx hb dX1_combine_243 (lv_at hl 4 rfl) ?_
    refine lv_iload hx hb dX1_combine_245 (lv_at hl 5 rfl) ?_
    refine lv_iload hx hb dX1_combine_247 (lv_at hl 7 rfl) ?_
    have ew : gm_hv F (gm_p mk) n (gm_rw F (gm_p mk) n (gm_cy (fun t => M (gm_ar mk 8 t) k) n) (n - 1)) n = gm_nw F (gm_p mk) n (fun i => (fun i => M (gm_ar mk 8 i)) i k) := gm_nw_c F (gm_p mk) n (fun i hi => if_pos hi)
    refine gm_e (y := nI (gm_nw F (gm_p mk) n (fun i => (fun i => M (gm_ar mk 8 i)) i k))) (congrArg nI ew) ?_
    refine gm_iast (v := gm_nw F (gm_p mk) n (fun i => (fun i => M (gm_ar mk 8 i)) i k)) hx hb hT hP hD hS 3 rfl (j := k) (by omega) (by decide) dX1_combine_249 (fun H locs hP hD hS => ?_)
    rw [gm_zk_s] at hP hD
    have hP := hP.sub (ws' := [(h, gm_O 1 [.ref g, .ref o]), (a9, gm_I tc 8 (gm_ar mk 8)), (z9, gm_I tc 16 (gm_zk F n (gm_p mk) (fun i => M (gm_ar mk 8 i)) (k + 1)))]) [1, 2, 3] rfl
    have hD := hD.sub (ws' := [(h, gm_O 1 [.ref g, .ref o]), (a9, gm_I tc 8 (gm_ar mk 8)), (z9, gm_I tc 16 (gm_zk F n (gm_p mk) (fun i => M (gm_ar mk 8 i)) (k + 1)))]) [1, 2, 3] (by decide) rfl
    refine lv_iinc (v := nI (k + 1)) (lv' := [(8, .int (nI (k + 1))), (0, .ref h), (4, .int (nI F)), (5, .ref a9), (6, .int (nI n)), (7, .ref z9), (9, .ref w9), (10, .int (nI (gm_hv F (gm_p mk) n (gm_rw F (gm_p mk) n (gm_cy (fun t => M (gm_ar mk 8 t) k) n) (n - 1)) n)))]) hx hb dX1_combine_250 hl (k := 5) rfl (nI_add k 1) (by decide) rfl (fun ls hl => ?_)
    refine lv_goto (tgt := 78) hx hb dX1_combine_253 (by decide) ?_
    exact ih (k + 1) H locs ls (by omega) hP hD hS (lv_sub hl [1, 2, 3, 4, 5, 0] rfl) kk
end MC
set_option maxHeartbeats 4000000 in
set_option maxRecDepth 100000 in
/-- the reference combines -/
theorem met_mcomb (l : Launch) (D : va_G) (tc : Nat → ClassId) (h g o sz : Nat) (ra : Nat → Nat) (M : Nat → Nat → Nat) (kd md9 mk9 : Int32) (hM : ∀ i j, M i j < 256) : Met l yX1_combine (ws_ yX1_combine cX1_combine 12 (some .int)) ({ frames := 2, cells := 18, slots := 152, locals := 48 }) (gm_Pc D tc [.ref h, .int kd, .int md9, .int mk9] sz ([(h, gm_O 1 [.ref g, .ref o])] ++ ((g, gm_R tc 3 8 (fun i => some (ra i))) :: gm_L ra (fun i => gm_I tc 16 (M i)) 8)) gm_Zt) (va_Qi (fun (r : Int32) (_ : Nat) => r = gm_cr (gm_cn (gm_mk mk9) 8)) (gm_Bw D [(h, gm_O 1 [.ref g, .ref o])] sz (fun u => if gm_cn (gm_mk mk9) 8 = 0 then [(h, gm_O 1 [.ref g, .ref o])] else [(h, gm_O 1 [.ref g, .ref u]), (u, gm_I tc 16 (gm_av (gm_fd kd) (gm_cn (gm_mk mk9) 8) (gm_p (gm_mk mk9)) (fun t => M (gm_ar (gm_mk mk9) 8 t))))])) (va_A [(h, gm_O 1 [.ref g, .ref o])] sz)) 18 152 (va_A [(h, gm_O 1 [.ref g, .ref o])] sz) := by
  refine Met.ofW (cc := cX1_combine) (maxL := 12) (ret := (some .int)) (by decide) rfl ?_
  intro p e s m args below meth c s₁ B hml hv
  obtain ⟨rfl, hsz, hP, hT, hD0, -⟩ := hv
  have hx := B.exec
  have hb := B.bytes
  have hr := B.returns
  have hts0 := atoms_spec (ws := ws_ yX1_combine cX1_combine 12 (some .int)) B.pre
  have hts : ∀ w ∈ lw_all, w.before _ s = true := fun w h => hts0 w (List.mem_cons_of_mem _ h)
  have hown : s.vm.findClass RX1 = some m.cls := findClass_of_methodNamed B.named
  have hlocks := B.notSynchronized
  have hl := lv_entry ([.ref h, .int kd, .int md9, .int mk9]) (n := 12) (Nat.le_of_ble_eq_true rfl)
  rw [lg_entry_eq]
  generalize (lg_sl ([.ref h, .int kd, .int md9, .int mk9]) ++ List.replicate (12 - (lg_sl ([.ref h, .int kd, .int md9, .int mk9])).length) Slot.unset).toArray = ls at hl ⊢
  have hl : lv_has ls 12 [(0, .ref h), (1, .int kd), (2, .int md9), (3, .int mk9)] := hl
  subst hsz
  have hD := (gm_Dsub hD0 (List.sublist_append_left [(h, gm_O 1 [.ref g, .ref o])] ((g, gm_R tc 3 8 (fun i => some (ra i))) :: gm_L ra (fun i => gm_I tc 16 (M i)) 8))).self (sz := s.heap.size)
  have hap := gm_apart hD0 hP
  have hRo : va_P D vwCl ((g, gm_R tc 3 8 (fun i => some (ra i))) :: gm_L ra (fun i => gm_I tc 16 (M i)) 8) s.heap := gm_Psub hP (fun q h => List.mem_append_right _ h)
  have hP : va_P D vwCl [(h, gm_O 1 [.ref g, .ref o])] s.heap := gm_Psub hP (fun q h => List.mem_append_left _ h)
  have hA : ∀ q : Nat, s.heap.size ≤ q → va_A [(h, gm_O 1 [.ref g, .ref o])] s.heap.size q := fun q h => Or.inr h
  have hS : va_S (va_A [(h, gm_O 1 [.ref g, .ref o])] s.heap.size) s.heap s.heap [] := va_S.rf
  have hm := gm_mk_lt mk9
  have hk2 := gm_b2 kd.toBitVec.toNat
  have h8 := gm_cn_le (gm_mk mk9) 8
  have tail : W p l e (headSpec (ws_ yX1_combine cX1_combine 12 (some .int)) ({ frames := 2, cells := 18, slots := 152, locals := 48 })).room s m [.ref h, .int kd, .int md9, .int mk9].toArray below meth c s.heap [] 0 0 (MQ below (va_Qi (fun (r : Int32) (_ : Nat) => r = gm_cr (gm_cn (gm_mk mk9) 8)) (gm_Bw D [(h, gm_O 1 [.ref g, .ref o])] s.heap.size (fun u => if gm_cn (gm_mk mk9) 8 = 0 then [(h, gm_O 1 [.ref g, .ref o])] else [(h, gm_O 1 [.ref g, .ref u]), (u, gm_I tc 16 (gm_av (gm_fd kd) (gm_cn (gm_mk mk9) 8) (gm_p (gm_mk mk9)) (fun t => M (gm_ar (gm_mk mk9) 8 t))))])) (va_A [(h, gm_O 1 [.ref g, .ref o])] s.heap.size)) [.ref h, .int kd, .int md9, .int mk9].toArray s 18 152 (va_A [(h, gm_O 1 [.ref g, .ref o])] s.heap.size)) (F0 m 15 ls [.int (nI (gm_fd kd))]) := by
    refine lv_istore (lv' := [(4, .int (nI (gm_fd kd))), (0, .ref h), (1, .int (kd)), (2, .int (md9)), (3, .int (mk9))]) hx hb dX1_combine_15 hl (by decide) rfl (fun ls hl => ?_)
    refine lv_bipush (v := nI 8) hx hb dX1_combine_17 (by decide +kernel) ?_
    refine gm_newi hx hb (hts _ q234) hT hP hD hS hA (n := 8) (by decide) (Nat.le_of_ble_eq_true rfl) (Nat.le_of_ble_eq_true rfl) dX1_combine_19 (fun a9 H hP hD hS => ?_)
    have hP : va_P D vwCl [(h, gm_O 1 [.ref g, .ref o]), (a9, gm_I tc 8 (gm_ar (gm_mk mk9) 0))] H := hP
    have hD : va_D (va_A [(h, gm_O 1 [.ref g, .ref o])] s.heap.size) [(h, gm_O 1 [.ref g, .ref o]), (a9, gm_I tc 8 (gm_ar (gm_mk mk9) 0))] := hD
    refine lv_astore (lv' := [(5, .ref a9), (4, .int (nI (gm_fd kd))), (0, .ref h), (1, .int (kd)), (2, .int (md9)), (3, .int (mk9))]) hx hb dX1_combine_21 hl (by decide) rfl (fun ls hl => ?_)
    refine lv_iconst (v := nI 0) hx hb dX1_combine_23 (by decide +kernel) ?_
    refine lv_istore (lv' := [(6, .int (nI 0)), (5, .ref a9), (4, .int (nI (gm_fd kd))), (0, .ref h), (1, .int (kd)), (2, .int (md9)), (3, .int (mk9))]) hx hb dX1_combine_24 hl (by decide) rfl (fun ls hl => ?_)
    refine lv_iconst (v := nI 0) hx hb dX1_combine_26 (by decide +kernel) ?_
    refine lv_istore (lv' := [(7, .int (nI 0)), (6, .int (nI 0)), (5, .ref a9), (4, .int (nI (gm_fd kd))), (0, .ref h), (1, .int (kd)), (2, .int (md9)), (3, .int (mk9))]) hx hb dX1_combine_27 hl (by decide) rfl (fun ls hl => ?_)
    refine gm_m1 hx hb hml hT hts hown 8 0 H _ ls rfl hP hD hS (lv_sub hl [4, 7, 3, 2, 1, 0] rfl) (fun H locs ls hP hD hS hl => ?_)
    refine lv_iload hx hb dX1_combine_62 (lv_at hl 3 rfl) ?_
    refine lv_if_ne (tgt := 69) hx hb dX1_combine_64 (by decide) (fun cz => ?_) (fun cz => ?_)
    · have hn0 : ¬ gm_cn (gm_mk mk9) 8 = 0 := fun q => cz (congrArg nI q)
      refine lv_bipush (v := nI 16) hx hb dX1_combine_69 (by decide +kernel) ?_
      refine gm_newi hx hb (hts _ q234) hT hP hD hS hA (n := 16) (by decide) (Nat.le_of_ble_eq_true rfl) (Nat.le_of_ble_eq_true rfl) dX1_combine_71 (fun z9 H hP hD hS => ?_)
      rw [← gm_zk_0 (gm_fd kd) (gm_cn (gm_mk mk9) 8) (gm_p (gm_mk mk9)) (fun i => M (gm_ar (gm_mk mk9) 8 i))] at hP hD
      refine lv_astore (lv' := [(7, .ref z9), (0, .ref h), (4, .int (nI (gm_fd kd))), (5, .ref a9), (6, .int (nI (gm_cn (gm_mk mk9) 8)))]) hx hb dX1_combine_73 hl (by decide) rfl (fun ls hl => ?_)
      refine lv_iconst (v := nI 0) hx hb dX1_combine_75 (by decide +kernel) ?_
      refine lv_istore (lv' := [(8, .int (nI 0)), (7, .ref z9), (0, .ref h), (4, .int (nI (gm_fd kd))), (5, .ref a9), (6, .int (nI (gm_cn (gm_mk mk9) 8)))]) hx hb dX1_combine_76 hl (by decide) rfl (fun ls hl => ?_)
      refine W.widen (k := 2 + 0) (n := 24 + 8 * 0) (by omega) (by omega) ?_
      refine gm_mk9 (gm_fd_ok kd) (by omega) h8 hM hx hb hml hT hts hown (Nat.le_of_ble_eq_true rfl) (Nat.le_of_ble_eq_true rfl) (Nat.le_of_ble_eq_true rfl) (Nat.le_of_ble_eq_true rfl) hA hRo hap 16 0 H _ ls rfl hP hD hS (lv_sub hl [2, 3, 4, 5, 1, 0] rfl) (fun H locs ls hP hD hS hl => ?_)
      rw [gm_zk_av (gm_fd_ok kd) hm (fun i j => hM _ j)] at hP hD
      have hP := hP.sub (ws' := [(h, gm_O 1 [.ref g, .ref o]), (z9, gm_I tc 16 (gm_av (gm_fd kd) (gm_cn (gm_mk mk9) 8) (gm_p (gm_mk mk9)) (fun t => M (gm_ar (gm_mk mk9) 8 t))))]) [0, 2] rfl
      have hD := hD.sub (ws' := [(h, gm_O 1 [.ref g, .ref o]), (z9, gm_I tc 16 (gm_av (gm_fd kd) (gm_cn (gm_mk mk9) 8) (gm_p (gm_mk mk9)) (fun t => M (gm_ar (gm_mk mk9) 8 t))))]) [0, 2] (by decide) rfl
      refine lv_aload_n hx hb dX1_combine_256 rfl (lv_at hl 0 rfl) ?_
      refine lv_aload hx hb dX1_combine_257 (lv_at hl 1 rfl) ?_
      refine va_put (D := D) (ci := 1) (v := .ref z9) (ty := .array .int) (C := RX1) (T := TX1) (N := 2) hx hb hts in_X1 tyX1 tyX1_ok nmX1 hown hT.1 hP hD hS 0 rfl rfl 1 (by decide) (hts _ q228) (fun _ h9 => h9) rfl (by decide +kernel) rfl rfl (Nat.le_of_ble_eq_true rfl) dX1_combine_259 (fun H locs hP hD hS => ?_)
      have hP : va_P D vwCl [(h, gm_O 1 [.ref g, .ref z9]), (z9, gm_I tc 16 (gm_av (gm_fd kd) (gm_cn (gm_mk mk9) 8) (gm_p (gm_mk mk9)) (fun t => M (gm_ar (gm_mk mk9) 8 t))))] H := hP
      have hD : va_D (va_A [(h, gm_O 1 [.ref g, .ref o])] s.heap.size) [(h, gm_O 1 [.ref g, .ref z9]), (z9, gm_I tc 16 (gm_av (gm_fd kd) (gm_cn (gm_mk mk9) 8) (gm_p (gm_mk mk9)) (fun t => M (gm_ar (gm_mk mk9) 8 t))))] := hD
      refine lv_bipush (v := nI 16) hx hb dX1_combine_262 (by decide +kernel) ?_
      exact W.iret (v := nI 16) hx hb hr (fun t ht hW => ⟨⟨nI 16, z9, rfl, (if_neg hn0).symm, by show va_P D vwCl (if _ then _ else _) t.heap ∧ va_D _ (if _ then _ else _); rw [if_neg hn0, ht]; exact ⟨hP, hD⟩⟩, hS.F ht⟩) hS.2.2 dX1_combine_264
    · have hn0 : gm_cn (gm_mk mk9) 8 = 0 := (nI_eq (b := 0) (by omega) (by decide)).mp (cz.trans nI_0.symm)
      have hP := hP.sub (ws' := [(h, gm_O 1 [.ref g, .ref o])]) [0] rfl
      have hD := hD.sub (ws' := [(h, gm_O 1 [.ref g, .ref o])]) [0] (by decide) rfl
      refine lv_iconst (v := -1) hx hb dX1_combine_67 (by decide +kernel) ?_
      refine W.widen (k := 18) (n := 152) (by omega) (by omega) ?_
      exact W.iret (v := -1) hx hb hr (fun t ht hW => ⟨⟨-1, 0, rfl, (if_pos hn0).symm, by show va_P D vwCl (if _ then _ else _) t.heap ∧ va_D _ (if _ then _ else _); rw [if_pos hn0, ht]; exact ⟨hP, hD⟩⟩, hS.F ht⟩) hS.2.2 dX1_combine_68
  refine lv_iload_n hx hb dX1_combine_0 rfl (lv_at hl 1 rfl) ?_
  refine lv_iconst (v := nI 1) hx hb dX1_combine_1 (by decide +kernel) ?_
  refine lv_iand hx hb dX1_combine_2 ?_
  refine gm_e (y := nI (kd.toBitVec.toNat % 2)) (gm_fd_b kd) ?_
  refine lv_if_ne (tgt := 12) hx hb dX1_combine_3 (by decide) (fun ck => ?_) (fun ck => ?_)
  · have e2 : kd.toBitVec.toNat % 2 = 1 := hk2.elim (fun q => absurd (congrArg nI q) ck) id
    refine lv_sipush (v := nI 285) hx hb dX1_combine_12 (by decide +kernel) ?_
    refine gm_e (y := nI (gm_fd kd)) (congrArg nI (if_neg (by omega)).symm) ?_
    exact tail
  · have e2 : kd.toBitVec.toNat % 2 = 0 := hk2.elim id (fun q => absurd (ck.symm.trans (congrArg nI q)) (by decide +kernel))
    refine lv_sipush (v := nI 283) hx hb dX1_combine_6 (by decide +kernel) ?_
    refine lv_goto (tgt := 15) hx hb dX1_combine_9 (by decide) ?_
    refine gm_e (y := nI (gm_fd kd)) (congrArg nI (if_pos e2).symm) ?_
    exact tail
end
section
/-! calls of a method with handlers (rows of kit/laws/EXCEPTIONS); the frame of the claim (kit/laws/SKELETON) -/
set_option maxRecDepth 100000
section VXH
variable {p : Program} {l : Launch} {e : Env} {R : Room} {s : State} {m : MethodId} {args : Array Value} {below : List Frame} {meth : Method} {c : Code} {T : State} {H : Heap} {locs : List Loc} {cells slots : Nat}
theorem vx_callVW (X : Stand p l e R s m args below meth c T locs cells slots) (hexec : p.tables.exec = Jvm.exec) {own C : String} {index : Nat} {y : MethodName} {bytes : ByteArray} {maxL : Nat} {ret : Option FieldType} {hh : List (Nat × Nat × Nat × Nat)}
    (hown : s.vm.findClass own = some m.cls) (hlink : (Cond.methodLink own index y).before args s = true) (hinst : (Cond.instanceMethod y).before args s = true) (hsel : (Cond.selects C y y).before args s = true)
    (hcode : (Cond.codeWith y bytes maxL ret hh).before args s = true) (hy : y.cls ≠ "java/lang/invoke/MethodHandle" ∧ y.cls ≠ "java/lang/invoke/VarHandle")
    {W9 : Nat} {Pre : Pt → Array Value → Prop} {Post : Pt → Array Value → Option Value → Pt → Prop} (hK : Back l R p e below s args y 3 W9 Pre Post)
    {b : Addr} {cellB : Cell} (hcell : T.heap[b]? = some cellB) (hobj : cellB.vm.isStatics = false) (hcls : s.vm.findClass C = some cellB.cls)
    {g : JFrame} (hg : g.method = m) (hsize : g.locals.size = c.maxLocals) {argsL rest : List Value} (hlen : ∀ sig, parseMethodDescriptor y.desc = some sig → argsL.length = sig.parameters.length)
    (hstack : g.stack = argsL.reverse ++ .ref b :: rest) (hW : 2 * g.monitorRoom + (rest.map fun v => v.category).sum ≤ W9) (hdg : decode c.code g.pc = .ok (.invokevirtual index, 3))
    (hpre : ∀ vm₁, s.WarmedH vm₁ → Pre ⟨T.setVm vm₁, locs, cells, slots⟩ (Value.ref b :: argsL).toArray) :
    ∃ (v : Option Value) (vm₁ : Vm) (B : Pt), s.WarmedH vm₁ ∧ Stand p l e R s m args below meth c B.U B.locs B.cells B.slots ∧ Post ⟨T.setVm vm₁, locs, cells, slots⟩ (Value.ref b :: argsL).toArray v B ∧
      ∀ target, Steps p.tables e below (B.U.setTop { g with pc := g.pc + 3, stack := v.toList ++ rest }) target → Steps p.tables e below (T.setTop g) target := by
  obtain ⟨mk, methM, hnamed, hmethM, hstM, habM⟩ := Cond.instanceMethod_spec hinst
  obtain ⟨m8, methM', cM, hn8, hmethM', -, -, -, -, -, -, hsigM⟩ := Cond.codeWith_spec hcode
  cases Option.some.inj (hn8.symm.trans hnamed)
  cases hmethM.symm.trans hmethM'
  obtain ⟨c2, r2, m2, q1, q2, q3, q4, kP, hkP, hkPi⟩ := Cond.selects_spec hsel
  cases hcls.symm.trans q1
  cases (State.methodFound?_of_named hnamed hy).symm.trans q2
  cases hnamed.symm.trans q3
  have hselP : selectMethod e.platform s.vm cellB.cls mk = .method mk := by rw [Launch.admits_selectMethod X.admits]; exact q4
  obtain ⟨vm₁, X₁, hstep₁⟩ := X.invokevirtual hexec hown hlink hnamed hmethM hstM hkP hkPi hy (a := b) (cell := cellB) hcell
    (fun z h => by rw [h] at hobj; cases hobj) hselP hmethM habM hkP hkPi (g := g) hg (argsL := argsL) (rest := rest) (hlen _ hsigM) hstack hdg
  obtain ⟨v, B, X', hpost, hsteps⟩ := hK m meth c ⟨T.setVm vm₁, locs, cells, slots⟩ { g with stack := rest } (.invokevirtual index) mk (Value.ref b :: argsL).toArray X₁ hg hsize hdg hW (X₁.named hnamed) (hpre vm₁ X₁.warmed)
  exact ⟨v, vm₁, B, X₁.warmed, X', hpost, fun target h => hstep₁ _ fun acts => by rw [doInvoke_state]; exact hsteps.trans h⟩
abbrev vx_CVW (R : Room) (s : State) (args : Array Value) (own C : String) (index : Nat) (y : MethodName) (bytes : ByteArray) (maxL : Nat) (ret : Option FieldType) (hh : List (Nat × Nat × Nat × Nat)) (ws : List Cond) (rm : Room) (mc ms n : Nat) : Prop :=
  (rm.cells = mc ∧ rm.slots = ms ∧ rm.frames + 1 ≤ R.frames ∧ 8 + (maxL + 11) + rm.locals ≤ R.locals ∧ (∀ w ∈ ws, ∀ (a' : Array Value) (U : State), s.WarmedH U.vm → w.before a' U = true) ∧ Cond.codeWith y bytes maxL ret hh ∈ ws) ∧
  (Cond.codeWith y bytes maxL ret hh).before args s = true ∧ (Cond.initialized y.cls).before args s = true ∧ (y.cls ≠ "java/lang/invoke/MethodHandle" ∧ y.cls ≠ "java/lang/invoke/VarHandle") ∧
  (∀ sig, parseMethodDescriptor y.desc = some sig → n = sig.parameters.length) ∧ (Cond.methodLink own index y).before args s = true ∧ (Cond.instanceMethod y).before args s = true ∧ (Cond.selects C y y).before args s = true
theorem vx_cwVW {own C : String} {index maxL mc ms : Nat} {y : MethodName} {bytes : ByteArray} {ret : Option FieldType} {hh : List (Nat × Nat × Nat × Nat)} {Ts ws ws' : List Cond} {rm : Room} (n : Nat) (ht : ∀ w ∈ Ts, w.before args s = true) (hT : GoodIn Ts (wsV own index C y ws)) (hw : ws = Cond.codeWith y bytes maxL ret hh :: ws') (hrc : rm.cells = mc) (hrs : rm.slots = ms)
    (hd : y.cls = C ∧ y.cls ≠ "java/lang/invoke/MethodHandle" ∧ y.cls ≠ "java/lang/invoke/VarHandle" ∧ (parseMethodDescriptor y.desc).map (fun d => d.parameters.length) = some n) (hR : rm.frames + 1 ≤ R.frames ∧ 8 + (maxL + 11) + rm.locals ≤ R.locals) :
    vx_CVW R s args own C index y bytes maxL ret hh ws rm mc ms n := by
  obtain ⟨hC, hd⟩ := hd
  subst hC
  have ok : ∀ w ∈ wsV own index y.cls y ws, w.before args s = true := fun w h => ht w (hT w h).1
  have hG : GoodIn Ts ws := fun w h => hT w (by unfold wsV; exact List.mem_append_right _ h)
  have hc : Cond.codeWith y bytes maxL ret hh ∈ ws := by rw [hw]; exact List.mem_cons_self
  refine ⟨⟨hrc, hrs, hR.1, hR.2, pay_in ht hG, hc⟩, ht _ (hG _ hc).1, ok _ (by simp [wsV]), ⟨hd.1, hd.2.1⟩, fun sig h => ?_, ok _ (by simp [wsV]), ok _ (by simp [wsV]), ok _ (by simp [wsV])⟩
  have h2 := hd.2.2
  rw [h] at h2
  exact (Option.some.inj h2).symm
theorem vx_runVW {y : MethodName} {bytes cc : ByteArray} {maxL nL mc ms n index : Nat} {ret : Option FieldType} {hh : List (Nat × Nat × Nat × Nat)} {ws : List Cond} {rm : Room} {Pc : Array Value → State → Prop} {Qc : Array Value → State → Outcome → State → Prop} {free : Addr → Prop} {Ts : List Cond} {own C : String} {b : Addr} {As rest : List Value} {g : JFrame}
    (S : CallFix p m c cc nL s args Ts own) (hM : Met l y ws rm Pc Qc mc ms free) (cw : vx_CVW R s args own C index y bytes maxL ret hh ws rm mc ms n) (hp : PreV s H C b Pc As)
    (hg : g.method = m) (hn : As.length = n) (hsize : g.locals.size = nL) (hstack : g.stack = As.reverse ++ .ref b :: rest) (hW : 2 * g.monitorRoom + (rest.map fun v => v.category).sum ≤ 8) (hdg : decode cc g.pc = .ok (.invokevirtual index, 3)) (hf : cells + mc ≤ R.cells ∧ slots + ms ≤ R.slots) :
    va_Run p l e R s m args below meth c H locs cells slots mc ms g rest (Qc (Value.ref b :: As).toArray) free := by
  obtain ⟨⟨hrc, hrs, hfr, hlo, hws, hcw⟩, hcode, hini, hy, hlen, hl, hin, hse⟩ := cw
  have hK : Back l R p e below s args y 3 8 (PreOf R mc ms Pc) (PostOf Qc mc ms free) := va_backW (hh := hh) (bytes := bytes) (maxL := maxL) (ret := ret) hM hp.1 hrc hrs hfr hlo hws hcw (fun a' U hW => word_at hW (Or.inl (by first | rfl | simp [Cond.onTables, Cond.keeps, Cond.steady])) hini)
  obtain ⟨hx, hb, hml, ho, -⟩ := S
  obtain ⟨-, ⟨cellB, hcB, hoB, hclB⟩, hPc⟩ := hp
  intro T hT X
  obtain ⟨v, vm₁, ⟨U', l2, c2, s2⟩, hW₁, X', ⟨g', mk, t, L, e1, e2, hq, h1, hL, h2, h3⟩, st⟩ := vx_callVW X hx (C := C) (hh := hh) (bytes := bytes) (maxL := maxL) (ret := ret) ho hl hin hse hcode hy hK (by rw [hT]; exact hcB) hoB hclB hg (hsize.trans hml.symm) (argsL := As) (rest := rest) (fun sig h => hn.trans (hlen sig h)) hstack hW (by rw [hb]; exact hdg)
    (fun vm₁ hW₁ => ⟨hf.1, hf.2, hPc (T.setVm vm₁) hT hW₁⟩)
  dsimp only [Pt.U, Pt.locs, Pt.cells, Pt.slots] at X' e1 e2 h1 h2 h3 st
  subst h1; subst h2; subst h3
  exact ⟨v, (T.setVm vm₁).calling g' mk (Value.ref b :: As).toArray, t, U', L, hT, X', hL, e1, e2, hq, st⟩
end VXH
/-! THE CLAIM OUT OF ONE WALK OF THE LAW'S BODY. Your part is whole_start (and what it stands on); all else here is the same for every law, but numbers. -/
def R_law : String := "ShareDeskLaw"
def lw_P (b : Addr) (xs : List Int32) (args : Array Value) (s : State) : Prop := args = #[.ref b] ∧ s.IntsAt b xs ∧ xs.length ≤ 288 ∧ (Jvm.Cond.and given_1 narrow_1).before args s = true
def lw_Q (_ : Array Value) (s : State) (o : Outcome) (t : State) : Prop := o = .returned (some (.int 1)) ∧ Framed s o t [] 1200096 5501386
def lw_Z (below : List Frame) (a : Array Value) (s : State) : State → Prop := fun t => ∃ o, t.status = .running ∧ Ended t below o ∧ lw_Q a s o t
/-- the law's own end, with 1 on the stack, nothing written that was there before, its room as the claim has it -/
theorem lw_ret {p : Program} {l : Launch} {e : Env} {s : State} {m : MethodId} {below : List Frame} {meth : Method} {c : Code} {b : Nat} (hx : p.tables.exec = Jvm.exec) (hb : c.code = code) (hr : meth.sig.returnType = ret) (hlocks : meth.locks = false) {pc : Nat} {H : Heap} {ls : Array Slot} (hdg : decode code pc = .ok (.ireturn, 1)) : W p l e room_1 s m #[Value.ref b] below meth c H [] 1200096 5501386 (lw_Z below #[Value.ref b] s) (F0 m pc ls [.int 1]) := by
  intro T hT X
  obtain ⟨fs, hret, hrun, hended, hW, hframe⟩ := X.leave (v := some (.int 1)) (hlocks := hlocks) (fun h => by rw [hr] at h; cases h)
  have hmeth' : T.vm.method? m = some meth := X.method'
  refine ⟨T.setFrames fs, ?_, .returned (some (.int 1)), hrun, hended, rfl, ⟨_, rfl⟩, hW, hframe⟩
  jvm_step X.here [X.here.top, hx, hb, hdg, hmeth', hr, ret, narrow_b1]
  (try refine ⟨rfl, ?_⟩); (try refine ⟨rfl, ?_⟩)
  first | (intro acts; rw [hret _ acts rfl rfl rfl]) | rw [hret _ _ rfl rfl rfl]
  exact Steps.refl _
/-- what holds at the law's entry: the machine, the code, the tables' words (any of lw_tbl by 'hts w (by decide +kernel)'), the script of L ints xs at the cell b, what the Statement gives of the start (any of its parts by flat_of_before) -/
def lw_At (p : Program) (s : State) (m : MethodId) (meth : Method) (c : Code) (b L : Nat) (xs : Nat → Int32) : Prop :=
  p.tables.exec = Jvm.exec ∧ c.code = code ∧ meth.sig.returnType = ret ∧ c.maxLocals = 4 ∧ s.vm.findClass R_law = some m.cls ∧ (∀ w ∈ lw_tbl, w.before #[Value.ref b] s = true) ∧ va_X b L xs s s.heap ∧ b < s.heap.size ∧ meth.locks = false ∧ (Jvm.Cond.and given_1 narrow_1).before #[Value.ref b] s = true
end
section
/-! THE LAW -/
set_option maxRecDepth 100000
theorem gm_pmW {α : Type} (a g o a2 g2 o2 : α) (L1 L2 : List α) : (((a :: g :: (L1 ++ [o])) ++ (a2 :: g2 :: (L2 ++ [o2]))) : List α).Perm ([a, a2, o, o2, g, g2] ++ (L1 ++ L2)) := by
  classical
  rw [List.perm_iff_count]
  intro x
  simp only [List.count_append, List.count_cons, List.count_nil]
  omega
theorem gm_pmA {α : Type} (P L1 L2 : List α) : (P ++ (L1 ++ L2)).Perm ((P ++ L2) ++ L1) := by
  rw [List.append_assoc]
  exact List.Perm.append_left P List.perm_append_comm
theorem gm_pmB {α : Type} (P L1 L2 : List α) : ((P ++ L2) ++ L1).Perm ((P ++ L1) ++ L2) := by
  rw [List.append_assoc, List.append_assoc]
  exact List.Perm.append_left P List.perm_append_comm
theorem gm_pmX {α : Type} (a a2 o o2 g g2 : α) (T : List α) : (([a, a2, o, o2, g, g2] ++ T) : List α).Perm (([a2, o, o2, g, g2] ++ T) ++ [a]) := by
  classical
  rw [List.perm_iff_count]
  intro x
  simp only [List.count_append, List.count_cons, List.count_nil]
  omega
theorem gm_pmY {α : Type} (a a2 o o2 g g2 : α) (T W1 : List α) : ((([a2, o, o2, g, g2] ++ T) ++ W1) : List α).Perm ((([o, o2, g, g2] ++ T) ++ W1) ++ [a2]) := by
  classical
  rw [List.perm_iff_count]
  intro x
  simp only [List.count_append, List.count_cons, List.count_nil]
  omega
theorem gm_pmZ {α : Type} (a a2 o o2 g g2 : α) (T : List α) : (((([o, o2, g, g2] ++ T) ++ [a]) ++ [a2]) : List α).Perm ([a, a2, o, o2, g, g2] ++ T) := by
  classical
  rw [List.perm_iff_count]
  intro x
  simp only [List.count_append, List.count_cons, List.count_nil]
  omega
theorem gm_pmU {α : Type} (a u a2 u2 o o2 g g2 : α) (T : List α) : (((([o, o2, g, g2] ++ T) ++ [a, u]) ++ [a2, u2]) : List α).Perm ([o, o2] ++ ([a, a2, u, u2, g, g2] ++ T)) := by
  classical
  rw [List.perm_iff_count]
  intro x
  simp only [List.count_append, List.count_cons, List.count_nil]
  omega
theorem gm_known {s : State} {args : Array Value} (ht0 : ∀ w ∈ lw_tbl, w.before args s = true) : ∃ D : va_G, ∀ (k : Nat) (q : vw_C), vwCl[k]? = some q → u_Kn s q.1 q.2.1 q.2.2 (D.1 k) (D.2 k) := by
  obtain ⟨c0, i0, k0⟩ := u_known (C := RX0) (T := TX0) (N := 2) (n := 2) ht0 (fun w h => lw_all_tbl (in_X0 w h)) (ht0 _ (lw_all_tbl q18))
  obtain ⟨c1, i1, k1⟩ := u_known (C := RX1) (T := TX1) (N := 2) (n := 2) ht0 (fun w h => lw_all_tbl (in_X1 w h)) (ht0 _ (lw_all_tbl q220))
  obtain ⟨c2, i2, k2⟩ := u_known (C := RX2) (T := TX2) (N := 2) (n := 2) ht0 (fun w h => lw_all_tbl (in_X2 w h)) (ht0 _ (lw_all_tbl q55))
  obtain ⟨c3, i3, k3⟩ := u_known (C := RX4) (T := TX4) (N := 2) (n := 2) ht0 (fun w h => lw_all_tbl (in_X4 w h)) (ht0 _ (lw_all_tbl q79))
  obtain ⟨c4, i4, k4⟩ := u_known (C := RX5) (T := TX5) (N := 1) (n := 1) ht0 (fun w h => lw_all_tbl (in_X5 w h)) (ht0 _ (lw_all_tbl q92))
  refine ⟨(fun k => if k = 0 then c0 else if k = 1 then c1 else if k = 2 then c2 else if k = 3 then c3 else c4, fun k => if k = 0 then i0 else if k = 1 then i1 else if k = 2 then i2 else if k = 3 then i3 else i4), ?_⟩
  intro k q hq
  match k, hq with
  | 0, hq => cases hq; exact k0
  | 1, hq => cases hq; exact k1
  | 2, hq => cases hq; exact k2
  | 3, hq => cases hq; exact k3
  | 4, hq => cases hq; exact k4
  | k + 5, hq => simp [vwCl] at hq
theorem gm_arrs {s : State} {args : Array Value} (ht0 : ∀ w ∈ lw_tbl, w.before args s = true) : ∃ tc : Nat → ClassId, ∀ (k : Nat) (q : ClassId × FieldType), (gm_tys tc)[k]? = some q → ArrOfT s q.1 q.2 ∧ va_RA s q.1 q.2 := by
  obtain ⟨t0, k0, d0, a1, a2, a3⟩ := Cond.arrayClass_spec (ht0 _ (lw_all_tbl q34))
  obtain ⟨t2, k2, d2, b1, b2, b3⟩ := Cond.arrayClass_spec (ht0 _ (lw_all_tbl q234))
  obtain ⟨d1, t1, k1, f1, -, f3, f4, f5⟩ := arrayOverA_spec (ht0 _ q26)
  obtain ⟨d3, t3, k3, g1, -, g3, g4, g5⟩ := arrayOverA_spec (ht0 _ q226)
  obtain ⟨d4, t4, k4, h1, -, h3, h4, h5⟩ := Cond.arrayOver_spec (ht0 _ q54)
  refine ⟨fun k => if k = 0 then t0 else if k = 1 then t1 else if k = 2 then t2 else if k = 3 then t3 else t4, ?_⟩
  intro k q hq
  match k, hq with
  | 0, hq => cases hq; exact ⟨fun n z => ⟨fun k h => (by cases h), k0, a2, d0, a3⟩, a1⟩
  | 1, hq => cases hq; exact ⟨fun n z => ⟨fun k h => (by cases h), k1, f3, d1, f4⟩, f5⟩
  | 2, hq => cases hq; exact ⟨fun n z => ⟨fun k h => (by cases h), k2, b2, d2, b3⟩, b1⟩
  | 3, hq => cases hq; exact ⟨fun n z => ⟨fun k h => (by cases h), k3, g3, d3, g4⟩, g5⟩
  | 4, hq => cases hq; exact ⟨fun n z => ⟨fun k h => (by cases h), k4, h3, d4, h4⟩, k4, d4, h3, h4, h1, h5⟩
  | k + 5, hq => simp [gm_tys] at hq
theorem gm_tabs {s : State} {args : Array Value} (ht0 : ∀ w ∈ lw_tbl, w.before args s = true) : ∃ (D : va_G) (tc : Nat → ClassId), gm_T D tc s := by
  obtain ⟨D, h1⟩ := gm_known ht0
  obtain ⟨tc, h2⟩ := gm_arrs ht0
  exact ⟨D, tc, ⟨h1, h2⟩, va_Nw.of rfl (ht0 _ q68), ht0 _ q26, ht0 _ q226, ht0 _ q54⟩
theorem gm_stat {s : State} {b : Addr} (ht0 : ∀ w ∈ lw_tbl, w.before #[Value.ref b] s = true) (hgv : (Jvm.Cond.and given_1 narrow_1).before #[Value.ref b] s = true) : ∃ (ad md : Nat → Nat) (tS : Nat), gm_Z ad md tS (fun q => s.heap.size ≤ q) s s.heap := by
  have hs := flat_of_before _ hgv
  have hA : ∀ a : Nat, a < s.heap.size → ¬ s.heap.size ≤ a := fun a h => Nat.not_le.mpr h
  have ea : (Cond.exactly (.static "ShamirSecretSplitter$Algorithm" "AES" "LShamirSecretSplitter$Algorithm;") "ShamirSecretSplitter$Algorithm").before #[Value.ref b] s = true := hs _ (by decide +kernel)
  have er : (Cond.exactly (.static "ShamirSecretSplitter$Algorithm" "RSA" "LShamirSecretSplitter$Algorithm;") "ShamirSecretSplitter$Algorithm").before #[Value.ref b] s = true := hs _ (by decide +kernel)
  have oa : (Cond.eq (.field (.static "ShamirSecretSplitter$Algorithm" "AES" "LShamirSecretSplitter$Algorithm;") "java/lang/Enum" "ordinal" "I") (.int 0)).before #[Value.ref b] s = true := hs _ (by decide +kernel)
  have or9 : (Cond.eq (.field (.static "ShamirSecretSplitter$Algorithm" "RSA" "LShamirSecretSplitter$Algorithm;") "java/lang/Enum" "ordinal" "I") (.int 1)).before #[Value.ref b] s = true := hs _ (by decide +kernel)
  have da : (Cond.not (.eq (.static "ShamirSecretSplitter$Algorithm" "AES" "LShamirSecretSplitter$Algorithm;") (.static "ShamirSecretSplitter$Algorithm" "RSA" "LShamirSecretSplitter$Algorithm;"))).before #[Value.ref b] s = true := hs _ (by decide +kernel)
  have en : (Cond.exactly (.static "ShamirSecretSplitter$Mode" "Native" "LShamirSecretSplitter$Mode;") "ShamirSecretSplitter$Mode").before #[Value.ref b] s = true := hs _ (by decide +kernel)
  have et : (Cond.exactly (.static "ShamirSecretSplitter$Mode" "Table" "LShamirSecretSplitter$Mode;") "ShamirSecretSplitter$Mode").before #[Value.ref b] s = true := hs _ (by decide +kernel)
  have dm : (Cond.not (.eq (.static "ShamirSecretSplitter$Mode" "Native" "LShamirSecretSplitter$Mode;") (.static "ShamirSecretSplitter$Mode" "Table" "LShamirSecretSplitter$Mode;"))).before #[Value.ref b] s = true := hs _ (by decide +kernel)
  have sa : (Cond.arrayOf (.static "Polynomial$1" "$SwitchMap$ShamirSecretSplitter$Algorithm" "[I") .int).before #[Value.ref b] s = true := hs _ (by decide +kernel)
  have sl : (Cond.eq (.length (.static "Polynomial$1" "$SwitchMap$ShamirSecretSplitter$Algorithm" "[I")) (.int 2)).before #[Value.ref b] s = true := hs _ (by decide +kernel)
  have s0 : (Cond.eq (.elem (.static "Polynomial$1" "$SwitchMap$ShamirSecretSplitter$Algorithm" "[I") (.int 0)) (.int 1)).before #[Value.ref b] s = true := hs _ (by decide +kernel)
  have s1 : (Cond.eq (.elem (.static "Polynomial$1" "$SwitchMap$ShamirSecretSplitter$Algorithm" "[I") (.int 1)) (.int 2)).before #[Value.ref b] s = true := hs _ (by decide +kernel)
  obtain ⟨ad, hE⟩ := va_Enof (s := s) (args := #[Value.ref b]) (E := "ShamirSecretSplitter$Algorithm") (d := "LShamirSecretSplitter$Algorithm;") (nm := ["AES", "RSA"]) (F := [("java/lang/Enum", "ordinal", "I", [0, 1])]) (A := fun q => s.heap.size ≤ q)
    (fun i hi => by
      have hi : i < 2 := hi
      rcases (show i = 0 ∨ i = 1 by omega) with rfl | rfl
      · exact ht0 _ q81
      · exact ht0 _ q83) (ht0 _ (lw_all_tbl q9))
    (fun i hi => by
      have hi : i < 2 := hi
      rcases (show i = 0 ∨ i = 1 by omega) with rfl | rfl
      · exact ea
      · exact er)
    (fun q hq i hi => by
      have hi : i < 2 := hi
      rw [List.mem_singleton.mp hq]
      rcases (show i = 0 ∨ i = 1 by omega) with rfl | rfl
      · exact oa
      · exact or9)
    (fun i j hi hj hij => by
      have hi : i < 2 := hi
      have hj : j < 2 := hj
      rcases (show (i = 0 ∧ j = 1) ∨ (i = 1 ∧ j = 0) by omega) with ⟨rfl, rfl⟩ | ⟨rfl, rfl⟩
      · exact Or.inl da
      · exact Or.inr da) hA
  obtain ⟨md, hM⟩ := va_Enof (s := s) (args := #[Value.ref b]) (E := "ShamirSecretSplitter$Mode") (d := "LShamirSecretSplitter$Mode;") (nm := ["Native", "Table"]) (F := []) (A := fun q => s.heap.size ≤ q)
    (fun i hi => by
      have hi : i < 2 := hi
      rcases (show i = 0 ∨ i = 1 by omega) with rfl | rfl
      · exact ht0 _ q85
      · exact ht0 _ q87) (ht0 _ (lw_all_tbl q10))
    (fun i hi => by
      have hi : i < 2 := hi
      rcases (show i = 0 ∨ i = 1 by omega) with rfl | rfl
      · exact en
      · exact et)
    (fun q hq => nomatch hq)
    (fun i j hi hj hij => by
      have hi : i < 2 := hi
      have hj : j < 2 := hj
      rcases (show (i = 0 ∧ j = 1) ∨ (i = 1 ∧ j = 0) by omega) with ⟨rfl, rfl⟩ | ⟨rfl, rfl⟩
      · exact Or.inl dm
      · exact Or.inr dm) hA
  obtain ⟨tS, t1, t2⟩ := va_Tof (s := s) (args := #[Value.ref b]) (tm := .static "Polynomial$1" "$SwitchMap$ShamirSecretSplitter$Algorithm" "[I") (ty := .int) (N := 2) (f := fun j => .int (nI (j + 1))) (A := fun q => s.heap.size ≤ q) (by decide) sa (va_eqt sl)
    (fun j hj => by
      rcases (show j = 0 ∨ j = 1 by omega) with rfl | rfl
      · exact va_eqt s0
      · exact va_eqt s1) hA
  exact ⟨ad, md, tS, hE, hM, va_Zof (ht0 _ q98) (ht0 _ (lw_all_tbl q12)) t1 hA, t2⟩
/-- both desks -/
abbrev gm_P6 (tc : Nat → ClassId) (h g o h2 g2 o2 n : Nat) (ra ra2 : Nat → Nat) (Y : Nat → Nat) : va_W := [(h, gm_O 0 [.ref g, .ref o]), (h2, gm_O 1 [.ref g2, .ref o2]), (o, gm_B tc n Y), (o2, gm_I tc n Y), (g, gm_R tc 1 8 (fun i => some (ra i))), (g2, gm_R tc 3 8 (fun i => some (ra2 i)))]
theorem gm_lt6 {L i : Nat} (hL : L ≤ 288) (hi : i ≤ 300) : (nI L - nI 6 < nI i) ↔ L < i + 6 := by
  rw [Int32.lt_iff_toInt_lt, pk_sub_toInt (a := L) (b := 6) (by omega) (by omega), nI_toInt (by omega)]
  omega
theorem gm_av_lt {F n : Nat} (hF : gm_ok F) {p0 : Nat → Nat} {y : Nat → Nat → Nat} (hy : ∀ i j, y i j < 256) (k : Nat) : gm_av F n p0 y k < 256 := by
  unfold gm_av
  split
  · exact gm_sum_lt (fun j => gm_mul_lt hF _ (gm_lc_lt hF _ _ _)) n
  · decide
set_option maxHeartbeats 4000000 in
set_option maxRecDepth 100000 in
/-- the law's loop: t calls to go at most -/
theorem gm_law_l {p : Program} {l : Launch} {e : Env} {s : State} {m : MethodId} {below : List Frame} {meth : Method} {c : Code} {D : va_G} {tc : Nat → ClassId} {b L : Nat} {xs : Nat → Int32} {ad md : Nat → Nat} {tS : Nat} (hx : p.tables.exec = Jvm.exec) (hb : c.code = code) (hr : meth.sig.returnType = ret) (hlocks : meth.locks = false) (hml : c.maxLocals = 4) (hown : s.vm.findClass R_law = some m.cls) (hts : ∀ w ∈ lw_all, w.before #[Value.ref b] s = true) (hX : va_X b L xs s s.heap) (hbl : b < s.heap.size) (hL : L ≤ 288) (hT : gm_T D tc s) (hZ : gm_Z ad md tS (fun q => s.heap.size ≤ q) s s.heap) :
    ∀ (t i n h g o h2 g2 o2 : Nat) (ra ra2 : Nat → Nat) (M : Nat → Nat → Nat) (Y : Nat → Nat) (H : Heap) (locs : List Loc) (ls : Array Slot), L < i + 6 * t → i ≤ L + 6 → (n = 0 ∨ n = 16) → (∀ i, Y i < 256) → (∀ i j, M i j < 256) → va_P D vwCl (gm_P6 tc h g o h2 g2 o2 n ra ra2 Y ++ (gm_L ra (fun i => gm_B tc 16 (M i)) 8 ++ gm_L ra2 (fun i => gm_I tc 16 (M i)) 8)) H → va_D (fun q => s.heap.size ≤ q) (gm_P6 tc h g o h2 g2 o2 n ra ra2 Y ++ (gm_L ra (fun i => gm_B tc 16 (M i)) 8 ++ gm_L ra2 (fun i => gm_I tc 16 (M i)) 8)) → va_S (fun q => s.heap.size ≤ q) s.heap H locs → lv_has ls 4 [(0, .ref b), (1, .ref h), (2, .ref h2), (3, .int (nI i))] → W p l e room_1 s m #[Value.ref b] below meth c H locs (40 + 11 * i) (400 + 125 * i) (lw_Z below #[Value.ref b] s) (F0 m 18 ls []) := by
  have hA : ∀ q : Nat, s.heap.size ≤ q → (fun q => s.heap.size ≤ q) q := fun q h => h
  have hbA : ¬ (fun q => s.heap.size ≤ q) b := Nat.not_le.mpr hbl
  intro t
  induction t with
  | zero =>
    intro i n h g o h2 g2 o2 ra ra2 M Y H locs ls ht hi hn0 hY hM hP hD hS hl
    refine lv_iload_n hx hb dL_law_18 rfl (lv_at hl 3 rfl) ?_
    refine lv_aload_n hx hb dL_law_19 rfl (lv_at hl 0 rfl) ?_
    refine va_slen hx hb hX hbl hbA hS dL_law_20 ?_
    refine lv_bipush (v := nI 6) hx hb dL_law_21 (by decide +kernel) ?_
    refine lv_isub hx hb dL_law_23 ?_
    refine lv_icmp_gt (tgt := 193) hx hb dL_law_24 (by decide) (fun cz => ?_) (fun cz => by first | exact absurd (((gm_lt6 hL (show i ≤ 300 by omega)).mpr (by omega))) cz | exact absurd cz (((gm_lt6 hL (show i ≤ 300 by omega)).mpr (by omega))))
    refine lv_iconst (v := 1) hx hb dL_law_193 (by decide +kernel) ?_
    refine va_forget hS.2.2 ?_
    refine W.widen (k := 1200096) (n := 5501386) (by omega) (by omega) ?_
    exact lw_ret hx hb hr hlocks dL_law_194
  | succ t ih =>
    intro i n h g o h2 g2 o2 ra ra2 M Y H locs ls ht hi hn0 hY hM hP hD hS hl
    refine lv_iload_n hx hb dL_law_18 rfl (lv_at hl 3 rfl) ?_
    refine lv_aload_n hx hb dL_law_19 rfl (lv_at hl 0 rfl) ?_
    refine va_slen hx hb hX hbl hbA hS dL_law_20 ?_
    refine lv_bipush (v := nI 6) hx hb dL_law_21 (by decide +kernel) ?_
    refine lv_isub hx hb dL_law_23 ?_
    refine lv_icmp_gt (tgt := 193) hx hb dL_law_24 (by decide) (fun cz => ?_) (fun cz => ?_)
    · skip
      refine lv_iconst (v := 1) hx hb dL_law_193 (by decide +kernel) ?_
      refine va_forget hS.2.2 ?_
      refine W.widen (k := 1200096) (n := 5501386) (by omega) (by omega) ?_
      exact lw_ret hx hb hr hlocks dL_law_194
    · have hlt : i + 6 ≤ L := Nat.le_of_not_lt fun q => cz ((gm_lt6 hL (show i ≤ 300 by omega)).mpr (by omega))
      refine lv_aload_n hx hb dL_law_27 rfl (lv_at hl 0 rfl) ?_
      refine lv_iload_n hx hb dL_law_28 rfl (lv_at hl 3 rfl) ?_
      refine va_sld hx hb hX hbl hbA hS (vp_in_nI (show i < L by omega) (by omega)) dL_law_29 ?_
      refine gm_e (y := xs i) (congrArg xs (nI_clamp (by omega))) ?_
      refine lv_iconst (v := nI 3) hx hb dL_law_30 (by decide +kernel) ?_
      refine lv_iand hx hb dL_law_31 ?_
      refine gm_e (y := nI ((xs i).toBitVec.toNat % 2 ^ 2)) (pk_and _ 2 (by decide +kernel)) ?_
      have hk4 : (xs i).toBitVec.toNat % 2 ^ 2 < 4 := Nat.mod_lt _ (by decide)
      generalize (xs i).toBitVec.toNat % 2 ^ 2 = k4 at hk4 ⊢
      have tail : ∀ (n h g o h2 g2 o2 : Nat) (ra ra2 : Nat → Nat) (M : Nat → Nat → Nat) (Y : Nat → Nat) (H : Heap) (locs : List Loc) (ls : Array Slot), (n = 0 ∨ n = 16) → (∀ i, Y i < 256) → (∀ i j, M i j < 256) → va_P D vwCl (gm_P6 tc h g o h2 g2 o2 n ra ra2 Y ++ (gm_L ra (fun i => gm_B tc 16 (M i)) 8 ++ gm_L ra2 (fun i => gm_I tc 16 (M i)) 8)) H → va_D (fun q => s.heap.size ≤ q) (gm_P6 tc h g o h2 g2 o2 n ra ra2 Y ++ (gm_L ra (fun i => gm_B tc 16 (M i)) 8 ++ gm_L ra2 (fun i => gm_I tc 16 (M i)) 8)) → va_S (fun q => s.heap.size ≤ q) s.heap H locs → lv_has ls 4 [(0, .ref b), (1, .ref h), (2, .ref h2), (3, .int (nI i))] → W p l e room_1 s m #[Value.ref b] below meth c H locs (40 + 11 * (i + 6)) (400 + 125 * (i + 6)) (lw_Z below #[Value.ref b] s) (F0 m 187 ls []) := by
        intro n h g o h2 g2 o2 ra ra2 M Y H locs ls hn0 hY hM hP hD hS hl
        refine lv_iinc (v := nI (i + 6)) (lv' := [(3, .int (nI (i + 6))), (0, .ref b), (1, .ref h), (2, .ref h2)]) hx hb dL_law_187 hl (k := 3) rfl (nI_add i 6) (by decide) rfl (fun ls hl => ?_)
        refine lv_goto (tgt := 18) hx hb dL_law_190 (by decide) ?_
        exact ih (i + 6) n h g o h2 g2 o2 ra ra2 M Y H locs ls (by omega) (by omega) hn0 hY hM hP hD hS (lv_sub hl [1, 2, 3, 0] rfl)
      rcases (show k4 = 0 ∨ k4 = 1 ∨ k4 = 2 ∨ k4 = 3 by omega) with rfl | rfl | rfl | rfl
      · refine lv_tableIn (off := 28) (tgt := 60) hx hb dL_law_32 (by decide +kernel) (by decide +kernel) (by decide +kernel) (by decide) ?_
        refine lv_aload_n hx hb dL_law_60 rfl (lv_at hl 1 rfl) ?_
        refine lv_aload_n hx hb dL_law_61 rfl (lv_at hl 0 rfl) ?_
        refine lv_iload_n hx hb dL_law_62 rfl (lv_at hl 3 rfl) ?_
        refine lv_iconst (v := nI 1) hx hb dL_law_63 (by decide +kernel) ?_
        refine lv_iadd hx hb dL_law_64 ?_
        refine gm_e (y := nI (i + 1)) (nI_add i 1) ?_
        refine va_sld hx hb hX hbl hbA hS (vp_in_nI (show i + 1 < L by omega) (by omega)) dL_law_65 ?_
        refine gm_e (y := xs (i + 1)) (congrArg xs (nI_clamp (by omega))) ?_
        refine lv_aload_n hx hb dL_law_66 rfl (lv_at hl 0 rfl) ?_
        refine lv_iload_n hx hb dL_law_67 rfl (lv_at hl 3 rfl) ?_
        refine lv_iconst (v := nI 2) hx hb dL_law_68 (by decide +kernel) ?_
        refine lv_iadd hx hb dL_law_69 ?_
        refine gm_e (y := nI (i + 2)) (nI_add i 2) ?_
        refine va_sld hx hb hX hbl hbA hS (vp_in_nI (show i + 2 < L by omega) (by omega)) dL_law_70 ?_
        refine gm_e (y := xs (i + 2)) (congrArg xs (nI_clamp (by omega))) ?_
        refine lv_aload_n hx hb dL_law_71 rfl (lv_at hl 0 rfl) ?_
        refine lv_iload_n hx hb dL_law_72 rfl (lv_at hl 3 rfl) ?_
        refine lv_iconst (v := nI 3) hx hb dL_law_73 (by decide +kernel) ?_
        refine lv_iadd hx hb dL_law_74 ?_
        refine gm_e (y := nI (i + 3)) (nI_add i 3) ?_
        refine va_sld hx hb hX hbl hbA hS (vp_in_nI (show i + 3 < L by omega) (by omega)) dL_law_75 ?_
        refine gm_e (y := xs (i + 3)) (congrArg xs (nI_clamp (by omega))) ?_
        refine lv_aload_n hx hb dL_law_76 rfl (lv_at hl 0 rfl) ?_
        refine lv_iload_n hx hb dL_law_77 rfl (lv_at hl 3 rfl) ?_
        refine lv_iconst (v := nI 4) hx hb dL_law_78 (by decide +kernel) ?_
        refine lv_iadd hx hb dL_law_79 ?_
        refine gm_e (y := nI (i + 4)) (nI_add i 4) ?_
        refine va_sld hx hb hX hbl hbA hS (vp_in_nI (show i + 4 < L by omega) (by omega)) dL_law_80 ?_
        refine gm_e (y := xs (i + 4)) (congrArg xs (nI_clamp (by omega))) ?_
        refine lv_aload_n hx hb dL_law_81 rfl (lv_at hl 0 rfl) ?_
        refine lv_iload_n hx hb dL_law_82 rfl (lv_at hl 3 rfl) ?_
        refine lv_iconst (v := nI 5) hx hb dL_law_83 (by decide +kernel) ?_
        refine lv_iadd hx hb dL_law_84 ?_
        refine gm_e (y := nI (i + 5)) (nI_add i 5) ?_
        refine va_sld hx hb hX hbl hbA hS (vp_in_nI (show i + 5 < L by omega) (by omega)) dL_law_85 ?_
        refine gm_e (y := xs (i + 5)) (congrArg xs (nI_clamp (by omega))) ?_
        have hpm := gm_pmA (gm_P6 tc h g o h2 g2 o2 n ra ra2 Y) (gm_L ra (fun i => gm_B tc 16 (M i)) 8) (gm_L ra2 (fun i => gm_I tc 16 (M i)) 8)
        have hP := gm_Pperm hP hpm
        have hD := gm_Dperm hD hpm
        have hPh : va_P D vwCl [(h, gm_O 0 [.ref g, .ref o])] H := gm_pick hP (List.mem_append_left _ (List.mem_append_left _ List.mem_cons_self))
        have hPx : va_P D vwCl (gm_L ra (fun i => gm_B tc 16 (M i)) 8 ++ [(h, gm_O 0 [.ref g, .ref o]), (g, gm_R tc 1 8 (fun i => some (ra i)))]) H := by
          refine gm_Psub hP (fun q hq => ?_)
          rcases List.mem_append.mp hq with e9 | e9
          · exact List.mem_append_right _ e9
          · rcases List.mem_cons.mp e9 with e9 | e9
            · rw [e9]; exact List.mem_append_left _ (List.mem_append_left _ List.mem_cons_self)
            · rw [List.mem_singleton.mp e9]; exact List.mem_append_left _ (List.mem_append_left _ (List.mem_cons_of_mem _ (List.mem_cons_of_mem _ (List.mem_cons_of_mem _ (List.mem_cons_of_mem _ List.mem_cons_self)))))
        have hsx : List.Sublist [(h, gm_O 0 [.ref g, .ref o]), (g, gm_R tc 1 8 (fun i => some (ra i)))] (gm_P6 tc h g o h2 g2 o2 n ra ra2 Y) := .cons₂ _ (.cons _ (.cons _ (.cons _ (.cons₂ _ (.cons _ .slnil)))))
        have hDx : va_D (fun q => s.heap.size ≤ q) (gm_L ra (fun i => gm_B tc 16 (M i)) 8 ++ [(h, gm_O 0 [.ref g, .ref o]), (g, gm_R tc 1 8 (fun i => some (ra i)))]) := gm_Dperm (gm_Dsub hD ((hsx.trans (List.sublist_append_left _ _)).append (List.Sublist.refl _))) List.perm_append_comm
        refine gm_callv (wr := gm_P6 tc h g o h2 g2 o2 n ra ra2 Y ++ gm_L ra2 (fun i => gm_I tc 16 (M i)) 8) (wc := gm_L ra (fun i => gm_B tc 16 (M i)) 8) (va_runV (As := [.int (xs (i + 1)), .int (xs (i + 2)), .int (xs (i + 3)), .int (xs (i + 4)), .int (xs (i + 5))]) (rest := []) ⟨hx, hb, hml, hown, hts⟩ (met_xlay l D tc h g o H.size ra M (xs (i + 1)) (xs (i + 2)) (xs (i + 3)) (xs (i + 4)) (xs (i + 5))) (cwV 5 hts (lw_V q35 q36 q37 q2 q38) rfl rfl rfl (by decide +kernel) ⟨(Nat.le_of_ble_eq_true rfl), (Nat.le_of_ble_eq_true rfl)⟩) (gm_V (gm_pre hPx hT hDx gm_Zt_b (fun _ _ _ => trivial)) (gm_recv hPh hT (ci := 0) rfl 0 rfl)) rfl rfl hl.1 rfl (lv_room (Nat.le_of_ble_eq_true rfl)) dL_law_86 ⟨by show _ ≤ 1200096; omega, by show _ ≤ 5501386; omega⟩) hP hD hS hA (fun _ H locs _ hP hD hS => ?_)
        have hpm := gm_pmB (gm_P6 tc h g o h2 g2 o2 n ra ra2 Y) (gm_L ra (fun i9 => gm_B tc 16 ((va_up M (gm_i7 (xs (i + 1))) (gm_nr (xs (i + 2)) (xs (i + 3)) (xs (i + 4)) (xs (i + 5)) (M (gm_i7 (xs (i + 1)))))) i9)) 8) (gm_L ra2 (fun i => gm_I tc 16 (M i)) 8)
        have hP := gm_Pperm hP hpm
        have hD := gm_Dperm hD hpm
        refine lv_aload_n hx hb dL_law_89 rfl (lv_at hl 2 rfl) ?_
        refine lv_aload_n hx hb dL_law_90 rfl (lv_at hl 0 rfl) ?_
        refine lv_iload_n hx hb dL_law_91 rfl (lv_at hl 3 rfl) ?_
        refine lv_iconst (v := nI 1) hx hb dL_law_92 (by decide +kernel) ?_
        refine lv_iadd hx hb dL_law_93 ?_
        refine gm_e (y := nI (i + 1)) (nI_add i 1) ?_
        refine va_sld hx hb hX hbl hbA hS (vp_in_nI (show i + 1 < L by omega) (by omega)) dL_law_94 ?_
        refine gm_e (y := xs (i + 1)) (congrArg xs (nI_clamp (by omega))) ?_
        refine lv_aload_n hx hb dL_law_95 rfl (lv_at hl 0 rfl) ?_
        refine lv_iload_n hx hb dL_law_96 rfl (lv_at hl 3 rfl) ?_
        refine lv_iconst (v := nI 2) hx hb dL_law_97 (by decide +kernel) ?_
        refine lv_iadd hx hb dL_law_98 ?_
        refine gm_e (y := nI (i + 2)) (nI_add i 2) ?_
        refine va_sld hx hb hX hbl hbA hS (vp_in_nI (show i + 2 < L by omega) (by omega)) dL_law_99 ?_
        refine gm_e (y := xs (i + 2)) (congrArg xs (nI_clamp (by omega))) ?_
        refine lv_aload_n hx hb dL_law_100 rfl (lv_at hl 0 rfl) ?_
        refine lv_iload_n hx hb dL_law_101 rfl (lv_at hl 3 rfl) ?_
        refine lv_iconst (v := nI 3) hx hb dL_law_102 (by decide +kernel) ?_
        refine lv_iadd hx hb dL_law_103 ?_
        refine gm_e (y := nI (i + 3)) (nI_add i 3) ?_
        refine va_sld hx hb hX hbl hbA hS (vp_in_nI (show i + 3 < L by omega) (by omega)) dL_law_104 ?_
        refine gm_e (y := xs (i + 3)) (congrArg xs (nI_clamp (by omega))) ?_
        refine lv_aload_n hx hb dL_law_105 rfl (lv_at hl 0 rfl) ?_
        refine lv_iload_n hx hb dL_law_106 rfl (lv_at hl 3 rfl) ?_
        refine lv_iconst (v := nI 4) hx hb dL_law_107 (by decide +kernel) ?_
        refine lv_iadd hx hb dL_law_108 ?_
        refine gm_e (y := nI (i + 4)) (nI_add i 4) ?_
        refine va_sld hx hb hX hbl hbA hS (vp_in_nI (show i + 4 < L by omega) (by omega)) dL_law_109 ?_
        refine gm_e (y := xs (i + 4)) (congrArg xs (nI_clamp (by omega))) ?_
        refine lv_aload_n hx hb dL_law_110 rfl (lv_at hl 0 rfl) ?_
        refine lv_iload_n hx hb dL_law_111 rfl (lv_at hl 3 rfl) ?_
        refine lv_iconst (v := nI 5) hx hb dL_law_112 (by decide +kernel) ?_
        refine lv_iadd hx hb dL_law_113 ?_
        refine gm_e (y := nI (i + 5)) (nI_add i 5) ?_
        refine va_sld hx hb hX hbl hbA hS (vp_in_nI (show i + 5 < L by omega) (by omega)) dL_law_114 ?_
        refine gm_e (y := xs (i + 5)) (congrArg xs (nI_clamp (by omega))) ?_
        have hPh : va_P D vwCl [(h2, gm_O 1 [.ref g2, .ref o2])] H := gm_pick hP (List.mem_append_left _ (List.mem_append_left _ (List.mem_cons_of_mem _ List.mem_cons_self)))
        have hPx : va_P D vwCl (gm_L ra2 (fun i => gm_I tc 16 (M i)) 8 ++ [(h2, gm_O 1 [.ref g2, .ref o2]), (g2, gm_R tc 3 8 (fun i => some (ra2 i)))]) H := by
          refine gm_Psub hP (fun q hq => ?_)
          rcases List.mem_append.mp hq with e9 | e9
          · exact List.mem_append_right _ e9
          · rcases List.mem_cons.mp e9 with e9 | e9
            · rw [e9]; exact List.mem_append_left _ (List.mem_append_left _ (List.mem_cons_of_mem _ List.mem_cons_self))
            · rw [List.mem_singleton.mp e9]; exact List.mem_append_left _ (List.mem_append_left _ (List.mem_cons_of_mem _ (List.mem_cons_of_mem _ (List.mem_cons_of_mem _ (List.mem_cons_of_mem _ (List.mem_cons_of_mem _ List.mem_cons_self))))))
        have hsx : List.Sublist [(h2, gm_O 1 [.ref g2, .ref o2]), (g2, gm_R tc 3 8 (fun i => some (ra2 i)))] (gm_P6 tc h g o h2 g2 o2 n ra ra2 Y) := .cons _ (.cons₂ _ (.cons _ (.cons _ (.cons _ (.cons₂ _ .slnil)))))
        have hDx : va_D (fun q => s.heap.size ≤ q) (gm_L ra2 (fun i => gm_I tc 16 (M i)) 8 ++ [(h2, gm_O 1 [.ref g2, .ref o2]), (g2, gm_R tc 3 8 (fun i => some (ra2 i)))]) := gm_Dperm (gm_Dsub hD ((hsx.trans (List.sublist_append_left _ _)).append (List.Sublist.refl _))) List.perm_append_comm
        refine gm_callv (wr := gm_P6 tc h g o h2 g2 o2 n ra ra2 Y ++ gm_L ra (fun i9 => gm_B tc 16 ((va_up M (gm_i7 (xs (i + 1))) (gm_nr (xs (i + 2)) (xs (i + 3)) (xs (i + 4)) (xs (i + 5)) (M (gm_i7 (xs (i + 1)))))) i9)) 8) (wc := gm_L ra2 (fun i => gm_I tc 16 (M i)) 8) (va_runV (As := [.int (xs (i + 1)), .int (xs (i + 2)), .int (xs (i + 3)), .int (xs (i + 4)), .int (xs (i + 5))]) (rest := []) ⟨hx, hb, hml, hown, hts⟩ (met_mlay l D tc h2 g2 o2 H.size ra2 M (xs (i + 1)) (xs (i + 2)) (xs (i + 3)) (xs (i + 4)) (xs (i + 5))) (cwV 5 hts (lw_V q235 q236 q237 q3 q238) rfl rfl rfl (by decide +kernel) ⟨(Nat.le_of_ble_eq_true rfl), (Nat.le_of_ble_eq_true rfl)⟩) (gm_V (gm_pre hPx hT hDx gm_Zt_b (fun _ _ _ => trivial)) (gm_recv hPh hT (ci := 1) rfl 0 rfl)) rfl rfl hl.1 rfl (lv_room (Nat.le_of_ble_eq_true rfl)) dL_law_115 ⟨by show _ ≤ 1200096; omega, by show _ ≤ 5501386; omega⟩) hP hD hS hA (fun _ H locs _ hP hD hS => ?_)
        have ea := List.append_assoc (gm_P6 tc h g o h2 g2 o2 n ra ra2 Y) (gm_L ra (fun i9 => gm_B tc 16 ((va_up M (gm_i7 (xs (i + 1))) (gm_nr (xs (i + 2)) (xs (i + 3)) (xs (i + 4)) (xs (i + 5)) (M (gm_i7 (xs (i + 1)))))) i9)) 8) (gm_L ra2 (fun i9 => gm_I tc 16 ((va_up M (gm_i7 (xs (i + 1))) (gm_nr (xs (i + 2)) (xs (i + 3)) (xs (i + 4)) (xs (i + 5)) (M (gm_i7 (xs (i + 1)))))) i9)) 8)
        rw [ea] at hP hD
        refine lv_goto (tgt := 187) hx hb dL_law_118 (by decide) ?_
        refine W.widen (k := 40 + 11 * (i + 6)) (n := 400 + 125 * (i + 6)) (by omega) (by omega) ?_
        refine tail n h g o h2 g2 o2 ra ra2 (va_up M (gm_i7 (xs (i + 1))) (gm_nr (xs (i + 2)) (xs (i + 3)) (xs (i + 4)) (xs (i + 5)) (M (gm_i7 (xs (i + 1)))))) Y H locs ls hn0 hY (fun i9 j9 => ?_) hP hD hS (lv_sub hl [0, 1, 2, 3] rfl)
        by_cases e9 : i9 = gm_i7 (xs (i + 1))
        · subst e9; rw [va_up_self]; exact gm_nr_lt (fun k => hM _ k) j9
        · rw [va_up_ne _ _ e9]; exact hM i9 j9
      · refine lv_tableIn (off := 89) (tgt := 121) hx hb dL_law_32 (by decide +kernel) (by decide +kernel) (by decide +kernel) (by decide) ?_
        have hpm := gm_pmX (h, gm_O 0 [.ref g, .ref o]) (h2, gm_O 1 [.ref g2, .ref o2]) (o, gm_B tc n Y) (o2, gm_I tc n Y) (g, gm_R tc 1 8 (fun i => some (ra i))) (g2, gm_R tc 3 8 (fun i => some (ra2 i))) (gm_L ra (fun i => gm_B tc 16 (M i)) 8 ++ gm_L ra2 (fun i => gm_I tc 16 (M i)) 8)
        have hP := gm_Pperm hP hpm
        have hD := gm_Dperm hD hpm
        refine lv_aload_n hx hb dL_law_121 rfl (lv_at hl 1 rfl) ?_
        refine lv_aload_n hx hb dL_law_122 rfl (lv_at hl 0 rfl) ?_
        refine lv_iload_n hx hb dL_law_123 rfl (lv_at hl 3 rfl) ?_
        refine lv_iconst (v := nI 1) hx hb dL_law_124 (by decide +kernel) ?_
        refine lv_iadd hx hb dL_law_125 ?_
        refine gm_e (y := nI (i + 1)) (nI_add i 1) ?_
        refine va_sld hx hb hX hbl hbA hS (vp_in_nI (show i + 1 < L by omega) (by omega)) dL_law_126 ?_
        refine gm_e (y := xs (i + 1)) (congrArg xs (nI_clamp (by omega))) ?_
        refine lv_aload_n hx hb dL_law_127 rfl (lv_at hl 0 rfl) ?_
        refine lv_iload_n hx hb dL_law_128 rfl (lv_at hl 3 rfl) ?_
        refine lv_iconst (v := nI 2) hx hb dL_law_129 (by decide +kernel) ?_
        refine lv_iadd hx hb dL_law_130 ?_
        refine gm_e (y := nI (i + 2)) (nI_add i 2) ?_
        refine va_sld hx hb hX hbl hbA hS (vp_in_nI (show i + 2 < L by omega) (by omega)) dL_law_131 ?_
        refine gm_e (y := xs (i + 2)) (congrArg xs (nI_clamp (by omega))) ?_
        refine lv_aload_n hx hb dL_law_132 rfl (lv_at hl 0 rfl) ?_
        refine lv_iload_n hx hb dL_law_133 rfl (lv_at hl 3 rfl) ?_
        refine lv_iconst (v := nI 3) hx hb dL_law_134 (by decide +kernel) ?_
        refine lv_iadd hx hb dL_law_135 ?_
        refine gm_e (y := nI (i + 3)) (nI_add i 3) ?_
        refine va_sld hx hb hX hbl hbA hS (vp_in_nI (show i + 3 < L by omega) (by omega)) dL_law_136 ?_
        refine gm_e (y := xs (i + 3)) (congrArg xs (nI_clamp (by omega))) ?_
        have hPh : va_P D vwCl [(h, gm_O 0 [.ref g, .ref o])] H := gm_pick hP (List.mem_append_right _ List.mem_cons_self)
        have hPx : va_P D vwCl ([(h, gm_O 0 [.ref g, .ref o])] ++ ((g, gm_R tc 1 8 (fun i => some (ra i))) :: gm_L ra (fun i => gm_B tc 16 (M i)) 8)) H := by
          refine gm_Psub hP (fun q hq => ?_)
          rcases List.mem_append.mp hq with e9 | e9
          · exact List.mem_append_right _ e9
          · rcases List.mem_cons.mp e9 with e9 | e9
            · rw [e9]; exact List.mem_append_left _ (List.mem_append_left _ (List.mem_cons_of_mem _ (List.mem_cons_of_mem _ (List.mem_cons_of_mem _ List.mem_cons_self))))
            · exact List.mem_append_left _ (List.mem_append_right _ (List.mem_append_left _ e9))
        have hsx : List.Sublist ((g, gm_R tc 1 8 (fun i => some (ra i))) :: gm_L ra (fun i => gm_B tc 16 (M i)) 8) ([(h2, gm_O 1 [.ref g2, .ref o2]), (o, gm_B tc n Y), (o2, gm_I tc n Y), (g, gm_R tc 1 8 (fun i => some (ra i))), (g2, gm_R tc 3 8 (fun i => some (ra2 i)))] ++ (gm_L ra (fun i => gm_B tc 16 (M i)) 8 ++ gm_L ra2 (fun i => gm_I tc 16 (M i)) 8)) := List.Sublist.append (l₁ := [(g, gm_R tc 1 8 (fun i => some (ra i)))]) (.cons _ (.cons _ (.cons _ (.cons₂ _ (.cons _ .slnil))))) (List.sublist_append_left _ _)
        have hDx : va_D (fun q => s.heap.size ≤ q) ([(h, gm_O 0 [.ref g, .ref o])] ++ ((g, gm_R tc 1 8 (fun i => some (ra i))) :: gm_L ra (fun i => gm_B tc 16 (M i)) 8)) := gm_Dperm (gm_Dsub hD (hsx.append (List.Sublist.refl _))) List.perm_append_comm
        refine gm_calli (wr := ([(h2, gm_O 1 [.ref g2, .ref o2]), (o, gm_B tc n Y), (o2, gm_I tc n Y), (g, gm_R tc 1 8 (fun i => some (ra i))), (g2, gm_R tc 3 8 (fun i => some (ra2 i)))] ++ (gm_L ra (fun i => gm_B tc 16 (M i)) 8 ++ gm_L ra2 (fun i => gm_I tc 16 (M i)) 8))) (wc := [(h, gm_O 0 [.ref g, .ref o])]) (vx_runVW (As := [.int (xs (i + 1)), .int (xs (i + 2)), .int (xs (i + 3))]) (rest := []) ⟨hx, hb, hml, hown, hts⟩ (met_xcomb l D tc h g o H.size ra ad md tS M (xs (i + 1)) (xs (i + 2)) (xs (i + 3)) hM) (vx_cwVW 3 hts (lw_VW q42 q43 q44 q2 q45) rfl rfl rfl (by decide +kernel) ⟨(Nat.le_of_ble_eq_true rfl), (Nat.le_of_ble_eq_true rfl)⟩) (gm_V (gm_pre hPx hT hDx gm_Zp_b (gm_Zp_of (wr := ([(h2, gm_O 1 [.ref g2, .ref o2]), (o, gm_B tc n Y), (o2, gm_I tc n Y), (g, gm_R tc 1 8 (fun i => some (ra i))), (g2, gm_R tc 3 8 (fun i => some (ra2 i)))] ++ (gm_L ra (fun i => gm_B tc 16 (M i)) 8 ++ gm_L ra2 (fun i => gm_I tc 16 (M i)) 8))) hZ hD hS hA)) (gm_recv hPh hT (ci := 0) rfl 0 rfl)) rfl rfl hl.1 rfl (lv_room (Nat.le_of_ble_eq_true rfl)) dL_law_137 ⟨by show _ ≤ 1200096; omega, by show _ ≤ 5501386; omega⟩) hP hD hS hA (fun r1 u1 H locs er1 hP hD hS => ?_)
        have er1 : r1 = gm_cr (gm_cn (gm_mk (xs (i + 3))) 8) := er1
        subst er1
        have hpm := gm_pmY (h, gm_O 0 [.ref g, .ref o]) (h2, gm_O 1 [.ref g2, .ref o2]) (o, gm_B tc n Y) (o2, gm_I tc n Y) (g, gm_R tc 1 8 (fun i => some (ra i))) (g2, gm_R tc 3 8 (fun i => some (ra2 i))) (gm_L ra (fun i => gm_B tc 16 (M i)) 8 ++ gm_L ra2 (fun i => gm_I tc 16 (M i)) 8) (if (gm_cn (gm_mk (xs (i + 3))) 8) = 0 then [(h, gm_O 0 [.ref g, .ref o])] else [(h, gm_O 0 [.ref g, .ref u1]), (u1, gm_B tc 16 (gm_av (gm_fd (xs (i + 1))) (gm_cn (gm_mk (xs (i + 3))) 8) (gm_p (gm_mk (xs (i + 3)))) (fun t => M (gm_ar (gm_mk (xs (i + 3))) 8 t))))])
        have hP := gm_Pperm hP hpm
        have hD := gm_Dperm hD hpm
        refine lv_aload_n hx hb dL_law_140 rfl (lv_at hl 2 rfl) ?_
        refine lv_aload_n hx hb dL_law_141 rfl (lv_at hl 0 rfl) ?_
        refine lv_iload_n hx hb dL_law_142 rfl (lv_at hl 3 rfl) ?_
        refine lv_iconst (v := nI 1) hx hb dL_law_143 (by decide +kernel) ?_
        refine lv_iadd hx hb dL_law_144 ?_
        refine gm_e (y := nI (i + 1)) (nI_add i 1) ?_
        refine va_sld hx hb hX hbl hbA hS (vp_in_nI (show i + 1 < L by omega) (by omega)) dL_law_145 ?_
        refine gm_e (y := xs (i + 1)) (congrArg xs (nI_clamp (by omega))) ?_
        refine lv_aload_n hx hb dL_law_146 rfl (lv_at hl 0 rfl) ?_
        refine lv_iload_n hx hb dL_law_147 rfl (lv_at hl 3 rfl) ?_
        refine lv_iconst (v := nI 2) hx hb dL_law_148 (by decide +kernel) ?_
        refine lv_iadd hx hb dL_law_149 ?_
        refine gm_e (y := nI (i + 2)) (nI_add i 2) ?_
        refine va_sld hx hb hX hbl hbA hS (vp_in_nI (show i + 2 < L by omega) (by omega)) dL_law_150 ?_
        refine gm_e (y := xs (i + 2)) (congrArg xs (nI_clamp (by omega))) ?_
        refine lv_aload_n hx hb dL_law_151 rfl (lv_at hl 0 rfl) ?_
        refine lv_iload_n hx hb dL_law_152 rfl (lv_at hl 3 rfl) ?_
        refine lv_iconst (v := nI 3) hx hb dL_law_153 (by decide +kernel) ?_
        refine lv_iadd hx hb dL_law_154 ?_
        refine gm_e (y := nI (i + 3)) (nI_add i 3) ?_
        refine va_sld hx hb hX hbl hbA hS (vp_in_nI (show i + 3 < L by omega) (by omega)) dL_law_155 ?_
        refine gm_e (y := xs (i + 3)) (congrArg xs (nI_clamp (by omega))) ?_
        have hPh : va_P D vwCl [(h2, gm_O 1 [.ref g2, .ref o2])] H := gm_pick hP (List.mem_append_right _ List.mem_cons_self)
        have hPx : va_P D vwCl ([(h2, gm_O 1 [.ref g2, .ref o2])] ++ ((g2, gm_R tc 3 8 (fun i => some (ra2 i))) :: gm_L ra2 (fun i => gm_I tc 16 (M i)) 8)) H := by
          refine gm_Psub hP (fun q hq => ?_)
          rcases List.mem_append.mp hq with e9 | e9
          · exact List.mem_append_right _ e9
          · rcases List.mem_cons.mp e9 with e9 | e9
            · rw [e9]; exact List.mem_append_left _ (List.mem_append_left _ (List.mem_append_left _ (List.mem_cons_of_mem _ (List.mem_cons_of_mem _ (List.mem_cons_of_mem _ List.mem_cons_self)))))
            · exact List.mem_append_left _ (List.mem_append_left _ (List.mem_append_right _ (List.mem_append_right _ e9)))
        have hsx : List.Sublist ((g2, gm_R tc 3 8 (fun i => some (ra2 i))) :: gm_L ra2 (fun i => gm_I tc 16 (M i)) 8) (([(o, gm_B tc n Y), (o2, gm_I tc n Y), (g, gm_R tc 1 8 (fun i => some (ra i))), (g2, gm_R tc 3 8 (fun i => some (ra2 i)))] ++ (gm_L ra (fun i => gm_B tc 16 (M i)) 8 ++ gm_L ra2 (fun i => gm_I tc 16 (M i)) 8)) ++ (if (gm_cn (gm_mk (xs (i + 3))) 8) = 0 then [(h, gm_O 0 [.ref g, .ref o])] else [(h, gm_O 0 [.ref g, .ref u1]), (u1, gm_B tc 16 (gm_av (gm_fd (xs (i + 1))) (gm_cn (gm_mk (xs (i + 3))) 8) (gm_p (gm_mk (xs (i + 3)))) (fun t => M (gm_ar (gm_mk (xs (i + 3))) 8 t))))])) := (List.Sublist.append (l₁ := [(g2, gm_R tc 3 8 (fun i => some (ra2 i)))]) (.cons _ (.cons _ (.cons _ (.cons₂ _ .slnil)))) (List.sublist_append_right _ _)).trans (List.sublist_append_left _ _)
        have hDx : va_D (fun q => s.heap.size ≤ q) ([(h2, gm_O 1 [.ref g2, .ref o2])] ++ ((g2, gm_R tc 3 8 (fun i => some (ra2 i))) :: gm_L ra2 (fun i => gm_I tc 16 (M i)) 8)) := gm_Dperm (gm_Dsub hD (hsx.append (List.Sublist.refl _))) List.perm_append_comm
        refine gm_calli (wr := ([(o, gm_B tc n Y), (o2, gm_I tc n Y), (g, gm_R tc 1 8 (fun i => some (ra i))), (g2, gm_R tc 3 8 (fun i => some (ra2 i)))] ++ (gm_L ra (fun i => gm_B tc 16 (M i)) 8 ++ gm_L ra2 (fun i => gm_I tc 16 (M i)) 8)) ++ (if (gm_cn (gm_mk (xs (i + 3))) 8) = 0 then [(h, gm_O 0 [.ref g, .ref o])] else [(h, gm_O 0 [.ref g, .ref u1]), (u1, gm_B tc 16 (gm_av (gm_fd (xs (i + 1))) (gm_cn (gm_mk (xs (i + 3))) 8) (gm_p (gm_mk (xs (i + 3)))) (fun t => M (gm_ar (gm_mk (xs (i + 3))) 8 t))))])) (wc := [(h2, gm_O 1 [.ref g2, .ref o2])]) (va_runV (As := [.int (xs (i + 1)), .int (xs (i + 2)), .int (xs (i + 3))]) (rest := [.int (gm_cr (gm_cn (gm_mk (xs (i + 3))) 8))]) ⟨hx, hb, hml, hown, hts⟩ (met_mcomb l D tc h2 g2 o2 H.size ra2 M (xs (i + 1)) (xs (i + 2)) (xs (i + 3)) hM) (cwV 3 hts (lw_V q239 q240 q241 q3 q242) rfl rfl rfl (by decide +kernel) ⟨(Nat.le_of_ble_eq_true rfl), (Nat.le_of_ble_eq_true rfl)⟩) (gm_V (gm_pre hPx hT hDx gm_Zt_b (fun _ _ _ => trivial)) (gm_recv hPh hT (ci := 1) rfl 0 rfl)) rfl rfl hl.1 rfl (lv_room (Nat.le_of_ble_eq_true rfl)) dL_law_156 ⟨by show _ ≤ 1200096; omega, by show _ ≤ 5501386; omega⟩) hP hD hS hA (fun r2 u2 H locs er2 hP hD hS => ?_)
        have er2 : r2 = gm_cr (gm_cn (gm_mk (xs (i + 3))) 8) := er2
        subst er2
        refine lv_icmp_eq (tgt := 187) hx hb dL_law_159 (by decide) (fun cz => ?_) (fun cz => by first | exact absurd (rfl) cz | exact absurd cz (rfl))
        refine W.widen (k := 40 + 11 * (i + 6)) (n := 400 + 125 * (i + 6)) (by omega) (by omega) ?_
        by_cases hc0 : (gm_cn (gm_mk (xs (i + 3))) 8) = 0
        · rw [if_pos hc0, if_pos hc0] at hP hD
          have hpm := gm_pmZ (h, gm_O 0 [.ref g, .ref o]) (h2, gm_O 1 [.ref g2, .ref o2]) (o, gm_B tc n Y) (o2, gm_I tc n Y) (g, gm_R tc 1 8 (fun i => some (ra i))) (g2, gm_R tc 3 8 (fun i => some (ra2 i))) (gm_L ra (fun i => gm_B tc 16 (M i)) 8 ++ gm_L ra2 (fun i => gm_I tc 16 (M i)) 8)
          exact tail n h g o h2 g2 o2 ra ra2 M Y H locs ls hn0 hY hM (gm_Pperm hP hpm) (gm_Dperm hD hpm) hS (lv_sub hl [0, 1, 2, 3] rfl)
        · rw [if_neg hc0, if_neg hc0] at hP hD
          have hpm := gm_pmU (h, gm_O 0 [.ref g, .ref u1]) (u1, gm_B tc 16 (gm_av (gm_fd (xs (i + 1))) (gm_cn (gm_mk (xs (i + 3))) 8) (gm_p (gm_mk (xs (i + 3)))) (fun t => M (gm_ar (gm_mk (xs (i + 3))) 8 t)))) (h2, gm_O 1 [.ref g2, .ref u2]) (u2, gm_I tc 16 (gm_av (gm_fd (xs (i + 1))) (gm_cn (gm_mk (xs (i + 3))) 8) (gm_p (gm_mk (xs (i + 3)))) (fun t => M (gm_ar (gm_mk (xs (i + 3))) 8 t)))) (o, gm_B tc n Y) (o2, gm_I tc n Y) (g, gm_R tc 1 8 (fun i => some (ra i))) (g2, gm_R tc 3 8 (fun i => some (ra2 i))) (gm_L ra (fun i => gm_B tc 16 (M i)) 8 ++ gm_L ra2 (fun i => gm_I tc 16 (M i)) 8)
          have hP := gm_Psub (gm_Pperm hP hpm) (fun q hq => List.mem_append_right _ hq)
          have hD := gm_Dsub (gm_Dperm hD hpm) (List.sublist_append_right _ _)
          refine tail 16 h g u1 h2 g2 u2 ra ra2 M (gm_av (gm_fd (xs (i + 1))) (gm_cn (gm_mk (xs (i + 3))) 8) (gm_p (gm_mk (xs (i + 3)))) (fun t => M (gm_ar (gm_mk (xs (i + 3))) 8 t))) H locs ls (Or.inr rfl) (fun k => ?_) hM hP hD hS (lv_sub hl [0, 1, 2, 3] rfl)
          exact gm_av_lt (gm_fd_ok _) (fun i9 j9 => hM _ j9) k
      · refine lv_tableIn (off := 132) (tgt := 164) hx hb dL_law_32 (by decide +kernel) (by decide +kernel) (by decide +kernel) (by decide) ?_
        refine lv_aload_n hx hb dL_law_164 rfl (lv_at hl 1 rfl) ?_
        refine lv_aload_n hx hb dL_law_165 rfl (lv_at hl 0 rfl) ?_
        refine lv_iload_n hx hb dL_law_166 rfl (lv_at hl 3 rfl) ?_
        refine lv_iconst (v := nI 1) hx hb dL_law_167 (by decide +kernel) ?_
        refine lv_iadd hx hb dL_law_168 ?_
        refine gm_e (y := nI (i + 1)) (nI_add i 1) ?_
        refine va_sld hx hb hX hbl hbA hS (vp_in_nI (show i + 1 < L by omega) (by omega)) dL_law_169 ?_
        refine gm_e (y := xs (i + 1)) (congrArg xs (nI_clamp (by omega))) ?_
        have hPh : va_P D vwCl [(h, gm_O 0 [.ref g, .ref o]), (o, gm_B tc n Y)] H := hP.sub [0, 2] rfl
        have hPk : va_P D vwCl [(h2, gm_O 1 [.ref g2, .ref o2]), (o2, gm_I tc n Y)] H := hP.sub [1, 3] rfl
        refine vp_callSi (W.runV (As := [.int (xs (i + 1))]) (rest := []) ⟨hx, hb, hml, hown, hts⟩ (met_xout l D tc h g o n Y (xs (i + 1)) hn0 hY) (cwV 1 hts (lw_V q214 q215 q216 q2 q217) rfl rfl rfl (by decide +kernel) ⟨(Nat.le_of_ble_eq_true rfl), (Nat.le_of_ble_eq_true rfl)⟩) (gm_V (gm_preR hPh hT) (gm_recv hPh hT (ci := 0) rfl 0 rfl)) rfl rfl hl.1 rfl (lv_room (Nat.le_of_ble_eq_true rfl)) dL_law_170 ⟨by show _ ≤ 1200096; omega, by show _ ≤ 5501386; omega⟩) (fun r9 e9 => ?_)
        subst e9
        refine lv_aload_n hx hb dL_law_173 rfl (lv_at hl 2 rfl) ?_
        refine lv_aload_n hx hb dL_law_174 rfl (lv_at hl 0 rfl) ?_
        refine lv_iload_n hx hb dL_law_175 rfl (lv_at hl 3 rfl) ?_
        refine lv_iconst (v := nI 1) hx hb dL_law_176 (by decide +kernel) ?_
        refine lv_iadd hx hb dL_law_177 ?_
        refine gm_e (y := nI (i + 1)) (nI_add i 1) ?_
        refine va_sld hx hb hX hbl hbA hS (vp_in_nI (show i + 1 < L by omega) (by omega)) dL_law_178 ?_
        refine gm_e (y := xs (i + 1)) (congrArg xs (nI_clamp (by omega))) ?_
        refine vp_callSi (W.runV (As := [.int (xs (i + 1))]) (rest := [.int (gm_ou n Y (xs (i + 1)))]) ⟨hx, hb, hml, hown, hts⟩ (met_mout l D tc h2 g2 o2 n Y (xs (i + 1)) hn0 hY) (cwV 1 hts (lw_V q249 q250 q251 q3 q252) rfl rfl rfl (by decide +kernel) ⟨(Nat.le_of_ble_eq_true rfl), (Nat.le_of_ble_eq_true rfl)⟩) (gm_V (gm_preR hPk hT) (gm_recv hPk hT (ci := 1) rfl 0 rfl)) rfl rfl hl.1 rfl (lv_room (Nat.le_of_ble_eq_true rfl)) dL_law_179 ⟨by show _ ≤ 1200096; omega, by show _ ≤ 5501386; omega⟩) (fun r9 e9 => ?_)
        subst e9
        refine lv_icmp_eq (tgt := 187) hx hb dL_law_182 (by decide) (fun cz => ?_) (fun cz => by first | exact absurd (rfl) cz | exact absurd cz (rfl))
        refine W.widen (k := 40 + 11 * (i + 6)) (n := 400 + 125 * (i + 6)) (by omega) (by omega) ?_
        exact tail n h g o h2 g2 o2 ra ra2 M Y H locs ls hn0 hY hM hP hD hS (lv_sub hl [0, 1, 2, 3] rfl)
      · refine lv_tableOut (tgt := 187) hx hb dL_law_32 (by decide +kernel) (by decide) ?_
        refine W.widen (k := 40 + 11 * (i + 6)) (n := 400 + 125 * (i + 6)) (by omega) (by omega) ?_
        exact tail n h g o h2 g2 o2 ra ra2 M Y H locs ls hn0 hY hM hP hD hS (lv_sub hl [0, 1, 2, 3] rfl)
set_option maxHeartbeats 4000000 in
set_option maxRecDepth 100000 in
theorem whole_start {p : Program} {e : Env} {s : State} {m : MethodId} {below : List Frame} {meth : Method} {c : Code} (l : Launch) (hflags : l.flags = flags0) {b L : Nat} {xs : Nat → Int32} (hL : L ≤ 288) (C0 : lw_At p s m meth c b L xs) : W p l e room_1 s m #[Value.ref b] below meth c s.heap [] 0 0 (lw_Z below #[Value.ref b] s) (entryFrame m ([Value.ref b] : List Value).toArray 4) := by
  obtain ⟨hx, hb, hr, hml, hown, hts0, hX, hbl, hlocks, hgv⟩ := C0
  have hts : ∀ w ∈ lw_all, w.before #[Value.ref b] s = true := fun w h => hts0 w (lw_all_tbl h)
  obtain ⟨D, tc, hT⟩ := gm_tabs hts0
  obtain ⟨ad, md, tS, hZ⟩ := gm_stat hts0 hgv
  have hA : ∀ q : Nat, s.heap.size ≤ q → (fun q => s.heap.size ≤ q) q := fun q h => h
  have hS : va_S (fun q => s.heap.size ≤ q) s.heap s.heap [] := va_S.rf
  have hP : va_P D vwCl ([] : va_W) s.heap := gm_Pm.mpr (fun q h => nomatch h)
  have hD : va_D (fun q => s.heap.size ≤ q) ([] : va_W) := gm_Dm.mpr ⟨List.nodup_nil, fun q h => nomatch h⟩
  have hl := lv_entry ([.ref b]) (n := 4) (Nat.le_of_ble_eq_true rfl)
  rw [lg_entry_eq]
  generalize (lg_sl ([.ref b]) ++ List.replicate (4 - (lg_sl ([.ref b])).length) Slot.unset).toArray = ls at hl ⊢
  have hl : lv_has ls 4 [(0, .ref b)] := hl
  refine va_new (ci := 0) (fs := [.null, .null]) (C := RX0) (T := TX0) (N := 2) hx hb hts in_X0 tyX0 tyX0_ok hown (hts _ q17) (hts _ q18) (hts _ q2) hT.1 hP hD hS hA rfl (fun j hj => by rcases (show j = 0 ∨ j = 1 by omega) with rfl | rfl <;> rfl) (by decide +kernel) (by decide +kernel) dL_law_0 (fun h H hP hD hS => ?_)
  refine lv_dup hx hb dL_law_3 rfl ?_
  refine gm_callv (wr := []) (wc := [(h, gm_O 0 [.null, .null])]) (va_runI (As := []) (rest := [.ref h]) ⟨hx, hb, hml, hown, hts⟩ (met_xinit l D tc h H.size) (cwI 0 hts (lw_meth q21) rfl rfl rfl (hts _ q2) (hts _ q19) (hts _ q20) rfl (by decide +kernel) ⟨(Nat.le_of_ble_eq_true rfl), (Nat.le_of_ble_eq_true rfl)⟩) (gm_pre hP hT hD gm_Zt_b (fun _ _ _ => trivial)) rfl rfl hl.1 rfl (lv_room (Nat.le_of_ble_eq_true rfl)) dL_law_4 ⟨by show _ ≤ 1200096; omega, by show _ ≤ 5501386; omega⟩) hP hD hS hA (fun u1 H locs _ hP hD hS => ?_)
  have hP : va_P D vwCl ((h, gm_O 0 [.ref u1.1, .ref u1.2]) :: (u1.1, gm_R tc 1 8 (fun j => some (u1.1 + 1 + j))) :: (gm_L (fun j => u1.1 + 1 + j) (fun _ => gm_B tc 16 (fun _ => 0)) 8 ++ [(u1.2, gm_B tc 0 (fun _ => 0))])) H := hP
  have hD : va_D (fun q => s.heap.size ≤ q) ((h, gm_O 0 [.ref u1.1, .ref u1.2]) :: (u1.1, gm_R tc 1 8 (fun j => some (u1.1 + 1 + j))) :: (gm_L (fun j => u1.1 + 1 + j) (fun _ => gm_B tc 16 (fun _ => 0)) 8 ++ [(u1.2, gm_B tc 0 (fun _ => 0))])) := hD
  refine lv_astore_n (lv' := [(1, .ref h), (0, .ref b)]) hx hb dL_law_7 rfl hl (by decide) rfl (fun ls hl => ?_)
  refine va_new (ci := 1) (fs := [.null, .null]) (C := RX1) (T := TX1) (N := 2) hx hb hts in_X1 tyX1 tyX1_ok hown (hts _ q219) (hts _ q220) (hts _ q3) hT.1 hP hD hS hA rfl (fun j hj => by rcases (show j = 0 ∨ j = 1 by omega) with rfl | rfl <;> rfl) (by decide +kernel) (by decide +kernel) dL_law_8 (fun h2 H hP hD hS => ?_)
  refine lv_dup hx hb dL_law_11 rfl ?_
  refine gm_callv (wr := ((h, gm_O 0 [.ref u1.1, .ref u1.2]) :: (u1.1, gm_R tc 1 8 (fun j => some (u1.1 + 1 + j))) :: (gm_L (fun j => u1.1 + 1 + j) (fun _ => gm_B tc 16 (fun _ => 0)) 8 ++ [(u1.2, gm_B tc 0 (fun _ => 0))]))) (wc := [(h2, gm_O 1 [.null, .null])]) (va_runI (As := []) (rest := [.ref h2]) ⟨hx, hb, hml, hown, hts⟩ (met_minit l D tc h2 H.size) (cwI 0 hts (lw_meth q223) rfl rfl rfl (hts _ q3) (hts _ q221) (hts _ q222) rfl (by decide +kernel) ⟨(Nat.le_of_ble_eq_true rfl), (Nat.le_of_ble_eq_true rfl)⟩) (gm_pre (gm_Psub hP (fun q hq => List.mem_append_right _ hq)) hT (gm_Dsub hD (List.sublist_append_right _ _)) gm_Zt_b (fun _ _ _ => trivial)) rfl rfl hl.1 rfl (lv_room (Nat.le_of_ble_eq_true rfl)) dL_law_12 ⟨by show _ ≤ 1200096; omega, by show _ ≤ 5501386; omega⟩) hP hD hS hA (fun u2 H locs _ hP hD hS => ?_)
  refine lv_astore_n (lv' := [(2, .ref h2), (1, .ref h), (0, .ref b)]) hx hb dL_law_15 rfl hl (by decide) rfl (fun ls hl => ?_)
  refine lv_iconst (v := nI 0) hx hb dL_law_16 (by decide +kernel) ?_
  refine lv_istore_n (lv' := [(3, .int (nI 0)), (2, .ref h2), (1, .ref h), (0, .ref b)]) hx hb dL_law_17 rfl hl (by decide) rfl (fun ls hl => ?_)
  have hpm := gm_pmW (h, gm_O 0 [.ref u1.1, .ref u1.2]) (u1.1, gm_R tc 1 8 (fun j => some (u1.1 + 1 + j))) (u1.2, gm_B tc 0 (fun _ => 0)) (h2, gm_O 1 [.ref u2.1, .ref u2.2]) (u2.1, gm_R tc 3 8 (fun j => some (u2.1 + 1 + j))) (u2.2, gm_I tc 0 (fun _ => 0)) (gm_L (fun j => u1.1 + 1 + j) (fun _ => gm_B tc 16 (fun _ => 0)) 8) (gm_L (fun j => u2.1 + 1 + j) (fun _ => gm_I tc 16 (fun _ => 0)) 8)
  refine W.widen (k := 40 + 11 * 0) (n := 400 + 125 * 0) (by omega) (by omega) ?_
  exact gm_law_l hx hb hr hlocks hml hown hts hX hbl hL hT hZ (L + 1) 0 0 h u1.1 u1.2 h2 u2.1 u2.2 _ _ (fun _ _ => 0) (fun _ => 0) H _ ls (by omega) (by omega) (Or.inl rfl) (fun _ => by decide) (fun _ _ => by decide) (gm_Pperm hP hpm) (gm_Dperm hD hpm) hS (lv_sub hl [3, 2, 1, 0] rfl)
end
section
set_option maxRecDepth 100000
set_option maxHeartbeats 4000000 in
theorem lw_walk (l : Launch) (hflags : l.flags = flags0) (b : Addr) (xs : List Int32) : MetFree l x (headSpec (Jvm.Cond.code x code maxLocals ret :: tables_1) room_1) (lw_P b xs) (fun _ _ _ _ _ => True) lw_Q := by
  refine MetFree.of_bodyS (code := code) (maxLocals := maxLocals) (ret := ret) (by decide) ?_ ?_
  · intro args s m h hn
    obtain ⟨meth, c, h1, h2, h3, h4, h5, h6, -, -⟩ := Cond.code_spec hn (atoms_spec (ws := Jvm.Cond.code x code maxLocals ret :: tables_1) h _ List.mem_cons_self)
    exact ⟨meth, c, h1, h2, h3, h4, h5, h6⟩
  · intro p e s m args below meth c s₁ B hml0 hP _
    obtain ⟨rfl, hx, hbd, hgv⟩ := hP
    obtain ⟨scr, harrAt, hlist, hof, hsmall⟩ := hx
    obtain ⟨hcb, hkn, -, -⟩ := State.arrayAt?_spec harrAt
    have hown : s.vm.findClass R_law = some m.cls := findClass_of_methodNamed B.named
    have hts0 : ∀ c ∈ (Jvm.Cond.code x code maxLocals ret :: tables_1), c.before #[Value.ref b] s = true := atoms_spec (ws := Jvm.Cond.code x code maxLocals ret :: tables_1) B.pre
    have hts : ∀ w ∈ lw_tbl, w.before #[Value.ref b] s = true := k2_hts_sels lw_privs (fun w hw => hts0 w (List.mem_cons_of_mem _ hw)) lw_privs_ok
    have hml : c.maxLocals = 4 := B.maxLocals_eq (hts0 _ List.mem_cons_self)
    have X₀ : Stand p l e room_1 s m #[Value.ref b] below meth c s₁ [] 0 0 := Stand.of_body B
    have hh0 : s₁.heap = s.heap := by rw [B.state]; rfl
    have hsz : scr.slots.size = xs.length := by rw [← Array.length_toList, hlist, List.length_map]
    have hval : ∀ j : Nat, j < xs.length → scr.slots[j]? = some (.int (xs.getD j 0)) := fun j hj => by
      rw [← Array.getElem?_toList, hlist]
      simp [hj]
    have hbl : b < s.heap.size := (Array.getElem?_eq_some_iff.mp hcb).1
    have hX : va_X b xs.length (fun j => xs.getD j 0) s s.heap := ⟨scr, hcb, hof, hkn, hsz, hval⟩
    have K : W p l e room_1 s m #[Value.ref b] below meth c s₁.heap [] 0 0 (lw_Z below #[Value.ref b] s) (entryFrame m ([Value.ref b] : List Value).toArray 4) := by
      rw [hh0]
      exact whole_start l hflags hbd ⟨B.exec, B.bytes, B.returns, hml, hown, hts, hX, hbl, B.notSynchronized, hgv⟩
    obtain ⟨t, a1, o, b1, b2, b3⟩ := K s₁ rfl X₀
    exact ⟨t, o, a1, b1, b2, b3⟩
theorem lw_pre_spec {args : Array Value} {s : State} (h : (Jvm.Cond.and given_1 narrow_1).before args s = true) (hr : rest_1_c.before args s = true) : ∃ (b : Addr) (xs : List Int32), lw_P b xs args s := by
  have hs := flat_of_before _ h
  have hq := flat_of_before _ hr
  have hc : (Cond.count 1).before args s = true := hs _ (by decide +kernel)
  have harr : (Cond.arrayOf (.arg 0) .int).before args s = true := hs _ (by decide +kernel)
  have hle : (Cond.le (.length (.arg 0)) (.int 288)).before args s = true := hs _ (by decide +kernel)
  have hlen : (Cond.isInt (.length (.arg 0))).before args s = true := hq _ (by decide +kernel)
  have hall : (Cond.all (.arg 0) (.isInt (.elem (.arg 0) (.index 0)))).before args s = true := hq _ (by decide +kernel)
  obtain ⟨b, xs, hb, hx⟩ := State.ints_of_pre rfl harr hlen hall
  have hsm : xs.length < 2 ^ 31 := hx.choose_spec.2.2.2
  have hev : (Term.length (.arg 0)).eval args s none [] s = some (.int xs.length.toInt32) := hx.length_eval hb
  have hv := Cond.le_ints hev (show (Term.int 288).eval args s none [] s = some (.int 288) from rfl)
  have hd : xs.length.toInt32 ≤ 288 := by
    simpa [Cond.before, Cond.holds, hv] using hle
  have hN : xs.length ≤ 288 := (Int32.ofNat_le_ofNat hsm (by decide)).mp (show Int32.ofNat xs.length ≤ Int32.ofNat 288 from hd)
  exact ⟨b, xs, Cond.one_arg hc (show args[0]? = some (.ref b) from hb), hx, hN, h⟩
theorem lw_comes (l : Launch) (hflags : l.flags = flags0) : Comes l x (Jvm.Cond.code x code maxLocals ret :: tables_1) room_1 (fun tb e args s => Calls_1 tb e args s ∧ rest_1 tb e args s ∧ Pre_1 tb e args s)
    (fun _ _ args s o t => lw_Q args s o t) := by
  intro p e ha hc hk s m args below hf hfit hheap happ hpre
  obtain ⟨b, xs, hP⟩ := lw_pre_spec hpre.2.2 hpre.2.1
  obtain ⟨k, o, h1, h2, h3, hQ⟩ := lw_walk l hflags b xs p e ha hc hk s m args below hf ((Spec.applies_iff_loose hf).mp happ).1 hP trivial
  exact ⟨k, o, h1, h2, h3, hQ⟩
theorem lw_frame {s t : State} {o : Outcome} {args : Array Value} (h : Framed s o t [] 1200096 5501386) :
    Framed s o t (fieldLocs frame_1_writes args s ++ arrayLocs frame_1_arrays args s ++ staticLocs frame_1_statics s) 1200096 5501386 := h
theorem lw_limb (L : Cond) (hL : ∀ (args : Array Value) (s t : State), L.after args s (.returned (some (.int 1))) t = true) :
    ArmFor flags0 classFile x code maxLocals ret World_1 tables_1 room_1 Calls_1 rest_1 Pre_1
      (fun tb e a s o t => postC L tb e a s o t ∧ Framed s o t (fieldLocs frame_1_writes a s ++ arrayLocs frame_1_arrays a s ++ staticLocs frame_1_statics s) 1200096 5501386) := by
  intro l hflags _ _ p e ha hc hk s m args below hf hfit hheap happ hpre
  obtain ⟨k, o, h1, h2, h3, rfl, hF⟩ := lw_comes l hflags p e ha hc hk s m args below hf hfit hheap happ hpre
  exact ⟨k, _, h1, h2, h3, hL args s _, lw_frame hF⟩
theorem i_vc : Claimed_1_1 ∧ Claimed_1_2 := ⟨lw_limb limb_1_1 (fun args s t => by simp [limb_1_1, Cond.after, Cond.holds, Cond.value]), lw_limb limb_1_2 (fun args s t => Cond.after_iff.mpr (by
  first | (rw [show limb_1_2 = Cond.eq .result (.int 1) from rfl, Cond.eq_ints (x := 1) (y := 1) rfl rfl]; simp; done) | (simp [limb_1_2, Cond.value, Term.eval]; done)))⟩
end
