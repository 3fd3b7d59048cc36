section
-- ===== PART A: goes FIRST, ahead of the names: the tables' words, and 'selects' of the private methods out of them =====
/-- a private method of a class that the tables say can be made, by its rows of tables_1 -/
def lw_okq (q : MethodName × Nat) : Prop := (q.1.cls ≠ "java/lang/invoke/MethodHandle" ∧ q.1.cls ≠ "java/lang/invoke/VarHandle") ∧ Cond.instantiable q.1.cls q.2 ∈ tables_1 ∧ Cond.privateMethod q.1 ∈ tables_1 ∧ Cond.instanceMethod q.1 ∈ tables_1
set_option maxRecDepth 100000
theorem lw_t1 {w : Cond} (h : w ∈ tables_1_1) : w ∈ tables_1 := List.mem_append_left _ h
theorem lw_t2 {w : Cond} (h : w ∈ tables_1_2) : w ∈ tables_1 := List.mem_append_right _ (List.mem_append_left _ h)
theorem lw_t3 {w : Cond} (h : w ∈ tables_1_3) : w ∈ tables_1 := List.mem_append_right _ (List.mem_append_right _ (List.mem_append_left _ h))
theorem lw_t4 {w : Cond} (h : w ∈ tables_1_4) : w ∈ tables_1 := List.mem_append_right _ (List.mem_append_right _ (List.mem_append_right _ h))
theorem lw_p0 : lw_okq (⟨"java/lang/Throwable", "fillInStackTrace", "(I)Ljava/lang/Throwable;"⟩, 6) := ⟨⟨by decide +kernel, by decide +kernel⟩, lw_t1 (List.mem_of_getElem? (i := 111) rfl), lw_t1 (List.mem_of_getElem? (i := 109) rfl), lw_t1 (List.mem_of_getElem? (i := 110) rfl)⟩
def lw_privs_1 : List (MethodName × Nat) := [(⟨"java/lang/Throwable", "fillInStackTrace", "(I)Ljava/lang/Throwable;"⟩, 6)]
theorem lw_r1 : ∀ q ∈ lw_privs_1, lw_okq q := List.forall_mem_cons.mpr ⟨lw_p0, fun _ h => absurd h List.not_mem_nil⟩
def lw_privs : List (MethodName × Nat) := lw_privs_1
def lw_tbl : List Cond := k2_sels lw_privs ++ tables_1
theorem lw_privs_ok : ∀ q ∈ lw_privs, lw_okq q := lw_r1
-- ===== ONE list of words for every method: the tables' words that hold all through a run =====
def lw_all : List Cond := lw_tbl.filter goodWord
/-- a word of the tables by its place: claim/WORDS.tsv -/
theorem lw_w {w : Cond} (i : Nat) (h : lw_tbl[i]? = some w) (g : goodWord w = true) : w ∈ lw_all := List.mem_filter.mpr ⟨List.mem_of_getElem? h, g⟩
theorem lw_all_tbl {w : Cond} (h : w ∈ lw_all) : w ∈ lw_tbl := (List.mem_filter.mp h).1
theorem lw_self : GoodIn lw_all lw_all := fun w h => ⟨h, good_of_word (List.mem_filter.mp h).2⟩
/-- a class's field words, by their places -/
theorem lw_in (ws : List Cond) (ps : List Nat) (hp : ws = ps.filterMap (fun i => lw_tbl[i]?)) (hg : ws.all goodWord = true) : ∀ w ∈ ws, w ∈ lw_all := by
  intro w h
  have h1 := List.all_eq_true.mp hg w h
  rw [hp] at h
  obtain ⟨i, -, hi⟩ := List.mem_filterMap.mp h
  exact lw_w i hi h1
/-- the words of a contract for the method y with code b, L locals, answer r -/
abbrev ws_ (y : MethodName) (b : ByteArray) (L : Nat) (r : Option FieldType) : List Cond := Cond.code y b L r :: lw_all
theorem lw_meth {y : MethodName} {b : ByteArray} {L : Nat} {r : Option FieldType} (h : Cond.code y b L r ∈ lw_all) : GoodIn lw_all (ws_ y b L r) := by
  intro w hw
  rcases List.mem_cons.mp hw with e | e
  · rw [e]
    exact lw_self _ h
  · exact lw_self _ e
theorem lw_app {a c : List Cond} (ha : ∀ w ∈ a, w ∈ lw_all) (hc : GoodIn lw_all c) : GoodIn lw_all (a ++ c) := by
  intro w hw
  rcases List.mem_append.mp hw with e | e
  · exact lw_self w (ha w e)
  · exact hc w e
/-- what a call through an object asks: cwV n hts (lw_V ..) -/
theorem lw_V {own : String} {idx : Nat} {C : String} {y : MethodName} {b : ByteArray} {L : Nat} {r : Option FieldType} (h1 : Cond.methodLink own idx y ∈ lw_all) (h2 : Cond.instanceMethod y ∈ lw_all) (h3 : Cond.selects C y y ∈ lw_all) (h4 : Cond.initialized C ∈ lw_all) (h5 : Cond.code y b L r ∈ lw_all) : GoodIn lw_all (wsV own idx C y (ws_ y b L r)) := by
  refine lw_app ?_ (lw_meth h5)
  intro w hw
  simp only [List.mem_cons, List.not_mem_nil, or_false] at hw
  rcases hw with e | e | e | e
  · rw [e]; exact h1
  · rw [e]; exact h2
  · rw [e]; exact h3
  · rw [e]; exact h4
/-- what a static call asks: va_cwS n hts (lw_S ..) -/
theorem lw_S {own : String} {idx : Nat} {y : MethodName} {b : ByteArray} {L : Nat} {r : Option FieldType} (h1 : Cond.methodLink own idx y ∈ lw_all) (h2 : Cond.static y ∈ lw_all) (h3 : Cond.initialized y.cls ∈ lw_all) (h4 : Cond.code y b L r ∈ lw_all) : GoodIn lw_all (va_wsS own idx y (ws_ y b L r)) := by
  refine lw_app ?_ (lw_meth h4)
  intro w hw
  simp only [List.mem_cons, List.not_mem_nil, or_false] at hw
  rcases hw with e | e | e
  · rw [e]; exact h1
  · rw [e]; exact h2
  · rw [e]; exact h3
/-- the words of a contract for a method WITH HANDLERS (hh: its table) -/
abbrev wsW_ (y : MethodName) (b : ByteArray) (L : Nat) (r : Option FieldType) (hh : List (Nat × Nat × Nat × Nat)) : List Cond := Cond.codeWith y b L r hh :: lw_all
theorem lw_methW {y : MethodName} {b : ByteArray} {L : Nat} {r : Option FieldType} {hh : List (Nat × Nat × Nat × Nat)} (h : Cond.codeWith y b L r hh ∈ lw_all) : GoodIn lw_all (wsW_ y b L r hh) := by
  intro w hw
  rcases List.mem_cons.mp hw with e | e
  · rw [e]
    exact lw_self _ h
  · exact lw_self _ e
/-- any list of words by their places (lw_in), good -/
theorem lw_good {ws : List Cond} (h : ∀ w ∈ ws, w ∈ lw_all) : GoodIn lw_all ws := fun w hw => lw_self w (h w hw)
/-- what a call of a method with handlers asks: vx_cwVW n hts (lw_VW ..), vx_cwSW n hts (lw_SW ..) -/
theorem lw_VW {own : String} {idx : Nat} {C : String} {y : MethodName} {b : ByteArray} {L : Nat} {r : Option FieldType} {hh : List (Nat × Nat × Nat × Nat)} (h1 : Cond.methodLink own idx y ∈ lw_all) (h2 : Cond.instanceMethod y ∈ lw_all) (h3 : Cond.selects C y y ∈ lw_all) (h4 : Cond.initialized C ∈ lw_all) (h5 : Cond.codeWith y b L r hh ∈ lw_all) : GoodIn lw_all (wsV own idx C y (wsW_ y b L r hh)) := by
  refine lw_app ?_ (lw_methW h5)
  intro w hw
  simp only [List.mem_cons, List.not_mem_nil, or_false] at hw
  rcases hw with e | e | e | e
  · rw [e]; exact h1
  · rw [e]; exact h2
  · rw [e]; exact h3
  · rw [e]; exact h4
theorem lw_SW {own : String} {idx : Nat} {y : MethodName} {b : ByteArray} {L : Nat} {r : Option FieldType} {hh : List (Nat × Nat × Nat × Nat)} (h1 : Cond.methodLink own idx y ∈ lw_all) (h2 : Cond.static y ∈ lw_all) (h3 : Cond.initialized y.cls ∈ lw_all) (h4 : Cond.codeWith y b L r hh ∈ lw_all) : GoodIn lw_all (va_wsS own idx y (wsW_ y b L r hh)) := by
  refine lw_app ?_ (lw_methW h4)
  intro w hw
  simp only [List.mem_cons, List.not_mem_nil, or_false] at hw
  rcases hw with e | e | e
  · rw [e]; exact h1
  · rw [e]; exact h2
  · rw [e]; exact h3
/-- a word by its place in its run of the tables -/
theorem lw_at {r : List Cond} (hr : ∀ w ∈ r, w ∈ lw_tbl) {w : Cond} (i : Nat) (h : r[i]? = some w) : w ∈ lw_tbl := hr w (List.mem_of_getElem? h)
theorem lw_g {w : Cond} (h : w ∈ lw_tbl) (g : goodWord w = true) : w ∈ lw_all := List.mem_filter.mpr ⟨h, g⟩
theorem lw_ms : ∀ w ∈ k2_sels lw_privs, w ∈ lw_tbl := fun w h => show w ∈ k2_sels lw_privs ++ tables_1 from List.mem_append_left _ h
theorem lw_m1 : ∀ w ∈ tables_1_1, w ∈ lw_tbl := fun w h => show w ∈ k2_sels lw_privs ++ tables_1 from List.mem_append_right (k2_sels lw_privs) (show w ∈ tables_1 from List.mem_append_left _ h)
theorem lw_m2 : ∀ w ∈ tables_1_2, w ∈ lw_tbl := fun w h => show w ∈ k2_sels lw_privs ++ tables_1 from List.mem_append_right (k2_sels lw_privs) (show w ∈ tables_1 from List.mem_append_right _ (List.mem_append_left _ h))
theorem lw_m3 : ∀ w ∈ tables_1_3, w ∈ lw_tbl := fun w h => show w ∈ k2_sels lw_privs ++ tables_1 from List.mem_append_right (k2_sels lw_privs) (show w ∈ tables_1 from List.mem_append_right _ (List.mem_append_right _ (List.mem_append_left _ h)))
theorem lw_m4 : ∀ w ∈ tables_1_4, w ∈ lw_tbl := fun w h => show w ∈ k2_sels lw_privs ++ tables_1 from List.mem_append_right (k2_sels lw_privs) (show w ∈ tables_1 from List.mem_append_right _ (List.mem_append_right _ (List.mem_append_right _ h)))
theorem qs0 : (Cond.selects "java/lang/Throwable" ⟨"java/lang/Throwable", "fillInStackTrace", "(I)Ljava/lang/Throwable;"⟩ ⟨"java/lang/Throwable", "fillInStackTrace", "(I)Ljava/lang/Throwable;"⟩) ∈ lw_all := lw_g (lw_at lw_ms 0 rfl) rfl
-- ===== end of PART A; then your names; then what follows =====
end
section
/-! DECODE ROWS BY BYTES: one lemma an opcode; a method's code is cut into short pieces once, and a row reads its own piece alone. -/
set_option maxRecDepth 100000
/-- the code has just these bytes from pc on -/
def DkAt (code : ByteArray) (pc : Nat) (bs : List UInt8) : Prop := ∀ (j : Nat) (b : UInt8), bs[j]? = some b → code.data.toList[pc + j]? = some b
/-- the piece W has the bytes bs from its place j on -/
def dkIn (W : List UInt8) (j : Nat) (bs : List UInt8) : Bool := decide ((W.drop j).take bs.length = bs)
theorem dk_seg {l W T : List UInt8} {o o2 : Nat} (h : l.drop o = W ++ T) (n : Nat) (hn : W.length = n) (ho : o + n = o2) : l.drop o2 = T := by
  subst ho
  rw [← List.drop_drop, h, List.drop_left' hn]
theorem dk_at {code : ByteArray} {W T bs : List UInt8} {o pc : Nat} (h : code.data.toList.drop o = W ++ T) (j : Nat) (hp : o + j = pc) (hw : dkIn W j bs = true) : DkAt code pc bs := by
  subst hp
  intro i b e
  have h1 := of_decide_eq_true hw
  have h2 : i < bs.length := (List.getElem?_eq_some_iff.mp e).1
  have h3 : W[j + i]? = some b := by
    rw [← h1, List.getElem?_take, if_pos h2, List.getElem?_drop] at e
    exact e
  have h4 : j + i < W.length := (List.getElem?_eq_some_iff.mp h3).1
  have h5 : (code.data.toList.drop o)[j + i]? = some b := by
    rw [h, List.getElem?_append_left h4]
    exact h3
  rw [List.getElem?_drop, ← Nat.add_assoc] at h5
  exact h5
theorem dk_u1 {A : ByteArray} {p : Nat} {b : UInt8} (h : A.data.toList[p]? = some b) : (Reader.u1 : Reader DecodeError Nat) A p = .ok (b.toNat, p + 1) := by
  obtain ⟨h1, h2⟩ := List.getElem?_eq_some_iff.mp h
  have h3 : p < A.size := by simpa using h1
  have h4 : A[p]'h3 = b := h2
  have e : (Reader.u1 : Reader DecodeError Nat) A p = (if h : p < A.size then .ok (A[p].toNat, p + 1) else .error (HasTruncated.truncated p)) := by
    show (do if h : p < A.size then do set (p + 1); Pure.pure A[p].toNat else MonadExcept.throw (HasTruncated.truncated p) : Reader DecodeError Nat) A p = _
    by_cases hi : p < A.size
    · rw [dif_pos hi, dif_pos hi]; rfl
    · rw [dif_neg hi, dif_neg hi]; rfl
  rw [e, dif_pos h3, h4]
theorem dk_bind {α β : Type} {r : Reader DecodeError α} {f : α → Reader DecodeError β} {A : ByteArray} {p s : Nat} {a : α} (h : r A p = .ok (a, s)) : (r >>= f) A p = f a A s := by
  show (do let (a, s) ← r A p; f a A s : Except DecodeError (β × Nat)) = _
  rw [h]
  rfl
theorem dk_map {α β : Type} {r : Reader DecodeError α} {g : α → β} {A : ByteArray} {p s : Nat} {a : α} (h : r A p = .ok (a, s)) : (g <$> r) A p = .ok (g a, s) := by
  show (do let (a, s) ← r A p; .ok (g a, s) : Except DecodeError (β × Nat)) = _
  rw [h]
  rfl
theorem dk_u2 {A : ByteArray} {p : Nat} {a b : UInt8} (h : A.data.toList[p]? = some a) (h2 : A.data.toList[p + 1]? = some b) : (Reader.u2 : Reader DecodeError Nat) A p = .ok (a.toNat * 256 + b.toNat, p + 2) := by
  show (Reader.u1 >>= fun hi => Reader.u1 >>= fun lo => Pure.pure (hi * 256 + lo) : Reader DecodeError Nat) A p = _
  rw [dk_bind (dk_u1 h), dk_bind (dk_u1 h2)]
  rfl
theorem dk_of {code : ByteArray} {pc n : Nat} {i : Instr} (h : Decoder.instr pc code pc = .ok (i, pc + n)) : decode code pc = .ok (i, n) := by
  have e : decode code pc = (match Decoder.instr pc code pc with | .error x => .error x | .ok (j, s) => .ok (j, s - pc)) := by
    show (do let (j, s) ← Decoder.instr pc code pc; Pure.pure (j, s - pc) : Except DecodeError (Instr × Nat)) = _
    cases Decoder.instr pc code pc <;> rfl
  rw [e, h]
  show Except.ok (i, pc + n - pc) = _
  rw [Nat.add_sub_cancel_left]
theorem dk_1 {code : ByteArray} {pc : Nat} (h : DkAt code pc [1]) : decode code pc = .ok (.aconst_null, 1) := dk_of ((dk_bind (dk_u1 (h 0 _ rfl))).trans rfl)
theorem dk_2 {code : ByteArray} {pc : Nat} (h : DkAt code pc [2]) : decode code pc = .ok (.iconst (-1), 1) := dk_of ((dk_bind (dk_u1 (h 0 _ rfl))).trans rfl)
theorem dk_3 {code : ByteArray} {pc : Nat} (h : DkAt code pc [3]) : decode code pc = .ok (.iconst 0, 1) := dk_of ((dk_bind (dk_u1 (h 0 _ rfl))).trans rfl)
theorem dk_4 {code : ByteArray} {pc : Nat} (h : DkAt code pc [4]) : decode code pc = .ok (.iconst 1, 1) := dk_of ((dk_bind (dk_u1 (h 0 _ rfl))).trans rfl)
theorem dk_5 {code : ByteArray} {pc : Nat} (h : DkAt code pc [5]) : decode code pc = .ok (.iconst 2, 1) := dk_of ((dk_bind (dk_u1 (h 0 _ rfl))).trans rfl)
theorem dk_6 {code : ByteArray} {pc : Nat} (h : DkAt code pc [6]) : decode code pc = .ok (.iconst 3, 1) := dk_of ((dk_bind (dk_u1 (h 0 _ rfl))).trans rfl)
theorem dk_7 {code : ByteArray} {pc : Nat} (h : DkAt code pc [7]) : decode code pc = .ok (.iconst 4, 1) := dk_of ((dk_bind (dk_u1 (h 0 _ rfl))).trans rfl)
theorem dk_8 {code : ByteArray} {pc : Nat} (h : DkAt code pc [8]) : decode code pc = .ok (.iconst 5, 1) := dk_of ((dk_bind (dk_u1 (h 0 _ rfl))).trans rfl)
theorem dk_9 {code : ByteArray} {pc : Nat} (h : DkAt code pc [9]) : decode code pc = .ok (.lconst 0, 1) := dk_of ((dk_bind (dk_u1 (h 0 _ rfl))).trans rfl)
theorem dk_10 {code : ByteArray} {pc : Nat} (h : DkAt code pc [10]) : decode code pc = .ok (.lconst 1, 1) := dk_of ((dk_bind (dk_u1 (h 0 _ rfl))).trans rfl)
theorem dk_16 {code : ByteArray} {pc : Nat} (a : UInt8) (h : DkAt code pc [16, a]) : decode code pc = .ok (.bipush (Reader.signed 8 a.toNat), 2) := dk_of ((dk_bind (dk_u1 (h 0 _ rfl))).trans ((dk_bind (dk_map (dk_u1 (h 1 _ rfl)))).trans rfl))
theorem dk_17 {code : ByteArray} {pc : Nat} (a b : UInt8) (h : DkAt code pc [17, a, b]) : decode code pc = .ok (.sipush (Reader.signed 16 (a.toNat * 256 + b.toNat)), 3) := dk_of ((dk_bind (dk_u1 (h 0 _ rfl))).trans ((dk_bind (dk_map (dk_u2 (h 1 _ rfl) (h 2 _ rfl)))).trans rfl))
theorem dk_18 {code : ByteArray} {pc : Nat} (a : UInt8) (h : DkAt code pc [18, a]) : decode code pc = .ok (.ldc a.toNat, 2) := dk_of ((dk_bind (dk_u1 (h 0 _ rfl))).trans ((dk_bind (dk_u1 (h 1 _ rfl))).trans rfl))
theorem dk_19 {code : ByteArray} {pc : Nat} (a b : UInt8) (h : DkAt code pc [19, a, b]) : decode code pc = .ok (.ldc_w (a.toNat * 256 + b.toNat), 3) := dk_of ((dk_bind (dk_u1 (h 0 _ rfl))).trans ((dk_bind (dk_u2 (h 1 _ rfl) (h 2 _ rfl))).trans rfl))
theorem dk_20 {code : ByteArray} {pc : Nat} (a b : UInt8) (h : DkAt code pc [20, a, b]) : decode code pc = .ok (.ldc2_w (a.toNat * 256 + b.toNat), 3) := dk_of ((dk_bind (dk_u1 (h 0 _ rfl))).trans ((dk_bind (dk_u2 (h 1 _ rfl) (h 2 _ rfl))).trans rfl))
theorem dk_21 {code : ByteArray} {pc : Nat} (a : UInt8) (h : DkAt code pc [21, a]) : decode code pc = .ok (.iload a.toNat, 2) := dk_of ((dk_bind (dk_u1 (h 0 _ rfl))).trans ((dk_bind (dk_u1 (h 1 _ rfl))).trans rfl))
theorem dk_22 {code : ByteArray} {pc : Nat} (a : UInt8) (h : DkAt code pc [22, a]) : decode code pc = .ok (.lload a.toNat, 2) := dk_of ((dk_bind (dk_u1 (h 0 _ rfl))).trans ((dk_bind (dk_u1 (h 1 _ rfl))).trans rfl))
theorem dk_25 {code : ByteArray} {pc : Nat} (a : UInt8) (h : DkAt code pc [25, a]) : decode code pc = .ok (.aload a.toNat, 2) := dk_of ((dk_bind (dk_u1 (h 0 _ rfl))).trans ((dk_bind (dk_u1 (h 1 _ rfl))).trans rfl))
theorem dk_26 {code : ByteArray} {pc : Nat} (h : DkAt code pc [26]) : decode code pc = .ok (.iload_n 0, 1) := dk_of ((dk_bind (dk_u1 (h 0 _ rfl))).trans rfl)
theorem dk_27 {code : ByteArray} {pc : Nat} (h : DkAt code pc [27]) : decode code pc = .ok (.iload_n 1, 1) := dk_of ((dk_bind (dk_u1 (h 0 _ rfl))).trans rfl)
theorem dk_28 {code : ByteArray} {pc : Nat} (h : DkAt code pc [28]) : decode code pc = .ok (.iload_n 2, 1) := dk_of ((dk_bind (dk_u1 (h 0 _ rfl))).trans rfl)
theorem dk_29 {code : ByteArray} {pc : Nat} (h : DkAt code pc [29]) : decode code pc = .ok (.iload_n 3, 1) := dk_of ((dk_bind (dk_u1 (h 0 _ rfl))).trans rfl)
theorem dk_30 {code : ByteArray} {pc : Nat} (h : DkAt code pc [30]) : decode code pc = .ok (.lload_n 0, 1) := dk_of ((dk_bind (dk_u1 (h 0 _ rfl))).trans rfl)
theorem dk_31 {code : ByteArray} {pc : Nat} (h : DkAt code pc [31]) : decode code pc = .ok (.lload_n 1, 1) := dk_of ((dk_bind (dk_u1 (h 0 _ rfl))).trans rfl)
theorem dk_32 {code : ByteArray} {pc : Nat} (h : DkAt code pc [32]) : decode code pc = .ok (.lload_n 2, 1) := dk_of ((dk_bind (dk_u1 (h 0 _ rfl))).trans rfl)
theorem dk_33 {code : ByteArray} {pc : Nat} (h : DkAt code pc [33]) : decode code pc = .ok (.lload_n 3, 1) := dk_of ((dk_bind (dk_u1 (h 0 _ rfl))).trans rfl)
theorem dk_42 {code : ByteArray} {pc : Nat} (h : DkAt code pc [42]) : decode code pc = .ok (.aload_n 0, 1) := dk_of ((dk_bind (dk_u1 (h 0 _ rfl))).trans rfl)
theorem dk_43 {code : ByteArray} {pc : Nat} (h : DkAt code pc [43]) : decode code pc = .ok (.aload_n 1, 1) := dk_of ((dk_bind (dk_u1 (h 0 _ rfl))).trans rfl)
theorem dk_44 {code : ByteArray} {pc : Nat} (h : DkAt code pc [44]) : decode code pc = .ok (.aload_n 2, 1) := dk_of ((dk_bind (dk_u1 (h 0 _ rfl))).trans rfl)
theorem dk_45 {code : ByteArray} {pc : Nat} (h : DkAt code pc [45]) : decode code pc = .ok (.aload_n 3, 1) := dk_of ((dk_bind (dk_u1 (h 0 _ rfl))).trans rfl)
theorem dk_46 {code : ByteArray} {pc : Nat} (h : DkAt code pc [46]) : decode code pc = .ok (.iaload, 1) := dk_of ((dk_bind (dk_u1 (h 0 _ rfl))).trans rfl)
theorem dk_47 {code : ByteArray} {pc : Nat} (h : DkAt code pc [47]) : decode code pc = .ok (.laload, 1) := dk_of ((dk_bind (dk_u1 (h 0 _ rfl))).trans rfl)
theorem dk_50 {code : ByteArray} {pc : Nat} (h : DkAt code pc [50]) : decode code pc = .ok (.aaload, 1) := dk_of ((dk_bind (dk_u1 (h 0 _ rfl))).trans rfl)
theorem dk_51 {code : ByteArray} {pc : Nat} (h : DkAt code pc [51]) : decode code pc = .ok (.baload, 1) := dk_of ((dk_bind (dk_u1 (h 0 _ rfl))).trans rfl)
theorem dk_54 {code : ByteArray} {pc : Nat} (a : UInt8) (h : DkAt code pc [54, a]) : decode code pc = .ok (.istore a.toNat, 2) := dk_of ((dk_bind (dk_u1 (h 0 _ rfl))).trans ((dk_bind (dk_u1 (h 1 _ rfl))).trans rfl))
theorem dk_55 {code : ByteArray} {pc : Nat} (a : UInt8) (h : DkAt code pc [55, a]) : decode code pc = .ok (.lstore a.toNat, 2) := dk_of ((dk_bind (dk_u1 (h 0 _ rfl))).trans ((dk_bind (dk_u1 (h 1 _ rfl))).trans rfl))
theorem dk_58 {code : ByteArray} {pc : Nat} (a : UInt8) (h : DkAt code pc [58, a]) : decode code pc = .ok (.astore a.toNat, 2) := dk_of ((dk_bind (dk_u1 (h 0 _ rfl))).trans ((dk_bind (dk_u1 (h 1 _ rfl))).trans rfl))
theorem dk_59 {code : ByteArray} {pc : Nat} (h : DkAt code pc [59]) : decode code pc = .ok (.istore_n 0, 1) := dk_of ((dk_bind (dk_u1 (h 0 _ rfl))).trans rfl)
theorem dk_60 {code : ByteArray} {pc : Nat} (h : DkAt code pc [60]) : decode code pc = .ok (.istore_n 1, 1) := dk_of ((dk_bind (dk_u1 (h 0 _ rfl))).trans rfl)
theorem dk_61 {code : ByteArray} {pc : Nat} (h : DkAt code pc [61]) : decode code pc = .ok (.istore_n 2, 1) := dk_of ((dk_bind (dk_u1 (h 0 _ rfl))).trans rfl)
theorem dk_62 {code : ByteArray} {pc : Nat} (h : DkAt code pc [62]) : decode code pc = .ok (.istore_n 3, 1) := dk_of ((dk_bind (dk_u1 (h 0 _ rfl))).trans rfl)
theorem dk_63 {code : ByteArray} {pc : Nat} (h : DkAt code pc [63]) : decode code pc = .ok (.lstore_n 0, 1) := dk_of ((dk_bind (dk_u1 (h 0 _ rfl))).trans rfl)
theorem dk_64 {code : ByteArray} {pc : Nat} (h : DkAt code pc [64]) : decode code pc = .ok (.lstore_n 1, 1) := dk_of ((dk_bind (dk_u1 (h 0 _ rfl))).trans rfl)
theorem dk_65 {code : ByteArray} {pc : Nat} (h : DkAt code pc [65]) : decode code pc = .ok (.lstore_n 2, 1) := dk_of ((dk_bind (dk_u1 (h 0 _ rfl))).trans rfl)
theorem dk_66 {code : ByteArray} {pc : Nat} (h : DkAt code pc [66]) : decode code pc = .ok (.lstore_n 3, 1) := dk_of ((dk_bind (dk_u1 (h 0 _ rfl))).trans rfl)
theorem dk_75 {code : ByteArray} {pc : Nat} (h : DkAt code pc [75]) : decode code pc = .ok (.astore_n 0, 1) := dk_of ((dk_bind (dk_u1 (h 0 _ rfl))).trans rfl)
theorem dk_76 {code : ByteArray} {pc : Nat} (h : DkAt code pc [76]) : decode code pc = .ok (.astore_n 1, 1) := dk_of ((dk_bind (dk_u1 (h 0 _ rfl))).trans rfl)
theorem dk_77 {code : ByteArray} {pc : Nat} (h : DkAt code pc [77]) : decode code pc = .ok (.astore_n 2, 1) := dk_of ((dk_bind (dk_u1 (h 0 _ rfl))).trans rfl)
theorem dk_78 {code : ByteArray} {pc : Nat} (h : DkAt code pc [78]) : decode code pc = .ok (.astore_n 3, 1) := dk_of ((dk_bind (dk_u1 (h 0 _ rfl))).trans rfl)
theorem dk_80 {code : ByteArray} {pc : Nat} (h : DkAt code pc [80]) : decode code pc = .ok (.lastore, 1) := dk_of ((dk_bind (dk_u1 (h 0 _ rfl))).trans rfl)
theorem dk_84 {code : ByteArray} {pc : Nat} (h : DkAt code pc [84]) : decode code pc = .ok (.bastore, 1) := dk_of ((dk_bind (dk_u1 (h 0 _ rfl))).trans rfl)
theorem dk_87 {code : ByteArray} {pc : Nat} (h : DkAt code pc [87]) : decode code pc = .ok (.pop, 1) := dk_of ((dk_bind (dk_u1 (h 0 _ rfl))).trans rfl)
theorem dk_88 {code : ByteArray} {pc : Nat} (h : DkAt code pc [88]) : decode code pc = .ok (.pop2, 1) := dk_of ((dk_bind (dk_u1 (h 0 _ rfl))).trans rfl)
theorem dk_89 {code : ByteArray} {pc : Nat} (h : DkAt code pc [89]) : decode code pc = .ok (.dup, 1) := dk_of ((dk_bind (dk_u1 (h 0 _ rfl))).trans rfl)
theorem dk_90 {code : ByteArray} {pc : Nat} (h : DkAt code pc [90]) : decode code pc = .ok (.dup_x1, 1) := dk_of ((dk_bind (dk_u1 (h 0 _ rfl))).trans rfl)
theorem dk_96 {code : ByteArray} {pc : Nat} (h : DkAt code pc [96]) : decode code pc = .ok (.iadd, 1) := dk_of ((dk_bind (dk_u1 (h 0 _ rfl))).trans rfl)
theorem dk_97 {code : ByteArray} {pc : Nat} (h : DkAt code pc [97]) : decode code pc = .ok (.ladd, 1) := dk_of ((dk_bind (dk_u1 (h 0 _ rfl))).trans rfl)
theorem dk_100 {code : ByteArray} {pc : Nat} (h : DkAt code pc [100]) : decode code pc = .ok (.isub, 1) := dk_of ((dk_bind (dk_u1 (h 0 _ rfl))).trans rfl)
theorem dk_101 {code : ByteArray} {pc : Nat} (h : DkAt code pc [101]) : decode code pc = .ok (.lsub, 1) := dk_of ((dk_bind (dk_u1 (h 0 _ rfl))).trans rfl)
theorem dk_104 {code : ByteArray} {pc : Nat} (h : DkAt code pc [104]) : decode code pc = .ok (.imul, 1) := dk_of ((dk_bind (dk_u1 (h 0 _ rfl))).trans rfl)
theorem dk_105 {code : ByteArray} {pc : Nat} (h : DkAt code pc [105]) : decode code pc = .ok (.lmul, 1) := dk_of ((dk_bind (dk_u1 (h 0 _ rfl))).trans rfl)
theorem dk_108 {code : ByteArray} {pc : Nat} (h : DkAt code pc [108]) : decode code pc = .ok (.idiv, 1) := dk_of ((dk_bind (dk_u1 (h 0 _ rfl))).trans rfl)
theorem dk_109 {code : ByteArray} {pc : Nat} (h : DkAt code pc [109]) : decode code pc = .ok (.ldiv, 1) := dk_of ((dk_bind (dk_u1 (h 0 _ rfl))).trans rfl)
theorem dk_112 {code : ByteArray} {pc : Nat} (h : DkAt code pc [112]) : decode code pc = .ok (.irem, 1) := dk_of ((dk_bind (dk_u1 (h 0 _ rfl))).trans rfl)
theorem dk_113 {code : ByteArray} {pc : Nat} (h : DkAt code pc [113]) : decode code pc = .ok (.lrem, 1) := dk_of ((dk_bind (dk_u1 (h 0 _ rfl))).trans rfl)
theorem dk_116 {code : ByteArray} {pc : Nat} (h : DkAt code pc [116]) : decode code pc = .ok (.ineg, 1) := dk_of ((dk_bind (dk_u1 (h 0 _ rfl))).trans rfl)
theorem dk_117 {code : ByteArray} {pc : Nat} (h : DkAt code pc [117]) : decode code pc = .ok (.lneg, 1) := dk_of ((dk_bind (dk_u1 (h 0 _ rfl))).trans rfl)
theorem dk_120 {code : ByteArray} {pc : Nat} (h : DkAt code pc [120]) : decode code pc = .ok (.ishl, 1) := dk_of ((dk_bind (dk_u1 (h 0 _ rfl))).trans rfl)
theorem dk_121 {code : ByteArray} {pc : Nat} (h : DkAt code pc [121]) : decode code pc = .ok (.lshl, 1) := dk_of ((dk_bind (dk_u1 (h 0 _ rfl))).trans rfl)
theorem dk_122 {code : ByteArray} {pc : Nat} (h : DkAt code pc [122]) : decode code pc = .ok (.ishr, 1) := dk_of ((dk_bind (dk_u1 (h 0 _ rfl))).trans rfl)
theorem dk_123 {code : ByteArray} {pc : Nat} (h : DkAt code pc [123]) : decode code pc = .ok (.lshr, 1) := dk_of ((dk_bind (dk_u1 (h 0 _ rfl))).trans rfl)
theorem dk_124 {code : ByteArray} {pc : Nat} (h : DkAt code pc [124]) : decode code pc = .ok (.iushr, 1) := dk_of ((dk_bind (dk_u1 (h 0 _ rfl))).trans rfl)
theorem dk_126 {code : ByteArray} {pc : Nat} (h : DkAt code pc [126]) : decode code pc = .ok (.iand, 1) := dk_of ((dk_bind (dk_u1 (h 0 _ rfl))).trans rfl)
theorem dk_127 {code : ByteArray} {pc : Nat} (h : DkAt code pc [127]) : decode code pc = .ok (.land, 1) := dk_of ((dk_bind (dk_u1 (h 0 _ rfl))).trans rfl)
theorem dk_128 {code : ByteArray} {pc : Nat} (h : DkAt code pc [128]) : decode code pc = .ok (.ior, 1) := dk_of ((dk_bind (dk_u1 (h 0 _ rfl))).trans rfl)
theorem dk_129 {code : ByteArray} {pc : Nat} (h : DkAt code pc [129]) : decode code pc = .ok (.lor, 1) := dk_of ((dk_bind (dk_u1 (h 0 _ rfl))).trans rfl)
theorem dk_131 {code : ByteArray} {pc : Nat} (h : DkAt code pc [131]) : decode code pc = .ok (.lxor, 1) := dk_of ((dk_bind (dk_u1 (h 0 _ rfl))).trans rfl)
theorem dk_132 {code : ByteArray} {pc : Nat} (a b : UInt8) (h : DkAt code pc [132, a, b]) : decode code pc = .ok (.iinc a.toNat (Reader.signed 8 b.toNat), 3) := dk_of ((dk_bind (dk_u1 (h 0 _ rfl))).trans ((dk_bind (dk_u1 (h 1 _ rfl))).trans ((dk_bind (dk_map (dk_u1 (h 2 _ rfl)))).trans rfl)))
theorem dk_133 {code : ByteArray} {pc : Nat} (h : DkAt code pc [133]) : decode code pc = .ok (.i2l, 1) := dk_of ((dk_bind (dk_u1 (h 0 _ rfl))).trans rfl)
theorem dk_136 {code : ByteArray} {pc : Nat} (h : DkAt code pc [136]) : decode code pc = .ok (.l2i, 1) := dk_of ((dk_bind (dk_u1 (h 0 _ rfl))).trans rfl)
theorem dk_145 {code : ByteArray} {pc : Nat} (h : DkAt code pc [145]) : decode code pc = .ok (.i2b, 1) := dk_of ((dk_bind (dk_u1 (h 0 _ rfl))).trans rfl)
theorem dk_146 {code : ByteArray} {pc : Nat} (h : DkAt code pc [146]) : decode code pc = .ok (.i2c, 1) := dk_of ((dk_bind (dk_u1 (h 0 _ rfl))).trans rfl)
theorem dk_147 {code : ByteArray} {pc : Nat} (h : DkAt code pc [147]) : decode code pc = .ok (.i2s, 1) := dk_of ((dk_bind (dk_u1 (h 0 _ rfl))).trans rfl)
theorem dk_148 {code : ByteArray} {pc : Nat} (h : DkAt code pc [148]) : decode code pc = .ok (.lcmp, 1) := dk_of ((dk_bind (dk_u1 (h 0 _ rfl))).trans rfl)
theorem dk_153 {code : ByteArray} {pc : Nat} (a b : UInt8) (h : DkAt code pc [153, a, b]) : decode code pc = .ok (.ifCond .eq (Reader.signed 16 (a.toNat * 256 + b.toNat)), 3) := dk_of ((dk_bind (dk_u1 (h 0 _ rfl))).trans ((dk_bind (dk_map (dk_u2 (h 1 _ rfl) (h 2 _ rfl)))).trans rfl))
theorem dk_154 {code : ByteArray} {pc : Nat} (a b : UInt8) (h : DkAt code pc [154, a, b]) : decode code pc = .ok (.ifCond .ne (Reader.signed 16 (a.toNat * 256 + b.toNat)), 3) := dk_of ((dk_bind (dk_u1 (h 0 _ rfl))).trans ((dk_bind (dk_map (dk_u2 (h 1 _ rfl) (h 2 _ rfl)))).trans rfl))
theorem dk_155 {code : ByteArray} {pc : Nat} (a b : UInt8) (h : DkAt code pc [155, a, b]) : decode code pc = .ok (.ifCond .lt (Reader.signed 16 (a.toNat * 256 + b.toNat)), 3) := dk_of ((dk_bind (dk_u1 (h 0 _ rfl))).trans ((dk_bind (dk_map (dk_u2 (h 1 _ rfl) (h 2 _ rfl)))).trans rfl))
theorem dk_156 {code : ByteArray} {pc : Nat} (a b : UInt8) (h : DkAt code pc [156, a, b]) : decode code pc = .ok (.ifCond .ge (Reader.signed 16 (a.toNat * 256 + b.toNat)), 3) := dk_of ((dk_bind (dk_u1 (h 0 _ rfl))).trans ((dk_bind (dk_map (dk_u2 (h 1 _ rfl) (h 2 _ rfl)))).trans rfl))
theorem dk_157 {code : ByteArray} {pc : Nat} (a b : UInt8) (h : DkAt code pc [157, a, b]) : decode code pc = .ok (.ifCond .gt (Reader.signed 16 (a.toNat * 256 + b.toNat)), 3) := dk_of ((dk_bind (dk_u1 (h 0 _ rfl))).trans ((dk_bind (dk_map (dk_u2 (h 1 _ rfl) (h 2 _ rfl)))).trans rfl))
theorem dk_158 {code : ByteArray} {pc : Nat} (a b : UInt8) (h : DkAt code pc [158, a, b]) : decode code pc = .ok (.ifCond .le (Reader.signed 16 (a.toNat * 256 + b.toNat)), 3) := dk_of ((dk_bind (dk_u1 (h 0 _ rfl))).trans ((dk_bind (dk_map (dk_u2 (h 1 _ rfl) (h 2 _ rfl)))).trans rfl))
theorem dk_159 {code : ByteArray} {pc : Nat} (a b : UInt8) (h : DkAt code pc [159, a, b]) : decode code pc = .ok (.if_icmp .eq (Reader.signed 16 (a.toNat * 256 + b.toNat)), 3) := dk_of ((dk_bind (dk_u1 (h 0 _ rfl))).trans ((dk_bind (dk_map (dk_u2 (h 1 _ rfl) (h 2 _ rfl)))).trans rfl))
theorem dk_160 {code : ByteArray} {pc : Nat} (a b : UInt8) (h : DkAt code pc [160, a, b]) : decode code pc = .ok (.if_icmp .ne (Reader.signed 16 (a.toNat * 256 + b.toNat)), 3) := dk_of ((dk_bind (dk_u1 (h 0 _ rfl))).trans ((dk_bind (dk_map (dk_u2 (h 1 _ rfl) (h 2 _ rfl)))).trans rfl))
theorem dk_161 {code : ByteArray} {pc : Nat} (a b : UInt8) (h : DkAt code pc [161, a, b]) : decode code pc = .ok (.if_icmp .lt (Reader.signed 16 (a.toNat * 256 + b.toNat)), 3) := dk_of ((dk_bind (dk_u1 (h 0 _ rfl))).trans ((dk_bind (dk_map (dk_u2 (h 1 _ rfl) (h 2 _ rfl)))).trans rfl))
theorem dk_162 {code : ByteArray} {pc : Nat} (a b : UInt8) (h : DkAt code pc [162, a, b]) : decode code pc = .ok (.if_icmp .ge (Reader.signed 16 (a.toNat * 256 + b.toNat)), 3) := dk_of ((dk_bind (dk_u1 (h 0 _ rfl))).trans ((dk_bind (dk_map (dk_u2 (h 1 _ rfl) (h 2 _ rfl)))).trans rfl))
theorem dk_163 {code : ByteArray} {pc : Nat} (a b : UInt8) (h : DkAt code pc [163, a, b]) : decode code pc = .ok (.if_icmp .gt (Reader.signed 16 (a.toNat * 256 + b.toNat)), 3) := dk_of ((dk_bind (dk_u1 (h 0 _ rfl))).trans ((dk_bind (dk_map (dk_u2 (h 1 _ rfl) (h 2 _ rfl)))).trans rfl))
theorem dk_164 {code : ByteArray} {pc : Nat} (a b : UInt8) (h : DkAt code pc [164, a, b]) : decode code pc = .ok (.if_icmp .le (Reader.signed 16 (a.toNat * 256 + b.toNat)), 3) := dk_of ((dk_bind (dk_u1 (h 0 _ rfl))).trans ((dk_bind (dk_map (dk_u2 (h 1 _ rfl) (h 2 _ rfl)))).trans rfl))
theorem dk_167 {code : ByteArray} {pc : Nat} (a b : UInt8) (h : DkAt code pc [167, a, b]) : decode code pc = .ok (.goto (Reader.signed 16 (a.toNat * 256 + b.toNat)), 3) := dk_of ((dk_bind (dk_u1 (h 0 _ rfl))).trans ((dk_bind (dk_map (dk_u2 (h 1 _ rfl) (h 2 _ rfl)))).trans rfl))
theorem dk_172 {code : ByteArray} {pc : Nat} (h : DkAt code pc [172]) : decode code pc = .ok (.ireturn, 1) := dk_of ((dk_bind (dk_u1 (h 0 _ rfl))).trans rfl)
theorem dk_173 {code : ByteArray} {pc : Nat} (h : DkAt code pc [173]) : decode code pc = .ok (.lreturn, 1) := dk_of ((dk_bind (dk_u1 (h 0 _ rfl))).trans rfl)
theorem dk_176 {code : ByteArray} {pc : Nat} (h : DkAt code pc [176]) : decode code pc = .ok (.areturn, 1) := dk_of ((dk_bind (dk_u1 (h 0 _ rfl))).trans rfl)
theorem dk_177 {code : ByteArray} {pc : Nat} (h : DkAt code pc [177]) : decode code pc = .ok (.return_, 1) := dk_of ((dk_bind (dk_u1 (h 0 _ rfl))).trans rfl)
theorem dk_178 {code : ByteArray} {pc : Nat} (a b : UInt8) (h : DkAt code pc [178, a, b]) : decode code pc = .ok (.getstatic (a.toNat * 256 + b.toNat), 3) := dk_of ((dk_bind (dk_u1 (h 0 _ rfl))).trans ((dk_bind (dk_u2 (h 1 _ rfl) (h 2 _ rfl))).trans rfl))
theorem dk_180 {code : ByteArray} {pc : Nat} (a b : UInt8) (h : DkAt code pc [180, a, b]) : decode code pc = .ok (.getfield (a.toNat * 256 + b.toNat), 3) := dk_of ((dk_bind (dk_u1 (h 0 _ rfl))).trans ((dk_bind (dk_u2 (h 1 _ rfl) (h 2 _ rfl))).trans rfl))
theorem dk_181 {code : ByteArray} {pc : Nat} (a b : UInt8) (h : DkAt code pc [181, a, b]) : decode code pc = .ok (.putfield (a.toNat * 256 + b.toNat), 3) := dk_of ((dk_bind (dk_u1 (h 0 _ rfl))).trans ((dk_bind (dk_u2 (h 1 _ rfl) (h 2 _ rfl))).trans rfl))
theorem dk_182 {code : ByteArray} {pc : Nat} (a b : UInt8) (h : DkAt code pc [182, a, b]) : decode code pc = .ok (.invokevirtual (a.toNat * 256 + b.toNat), 3) := dk_of ((dk_bind (dk_u1 (h 0 _ rfl))).trans ((dk_bind (dk_u2 (h 1 _ rfl) (h 2 _ rfl))).trans rfl))
theorem dk_183 {code : ByteArray} {pc : Nat} (a b : UInt8) (h : DkAt code pc [183, a, b]) : decode code pc = .ok (.invokespecial (a.toNat * 256 + b.toNat), 3) := dk_of ((dk_bind (dk_u1 (h 0 _ rfl))).trans ((dk_bind (dk_u2 (h 1 _ rfl) (h 2 _ rfl))).trans rfl))
theorem dk_184 {code : ByteArray} {pc : Nat} (a b : UInt8) (h : DkAt code pc [184, a, b]) : decode code pc = .ok (.invokestatic (a.toNat * 256 + b.toNat), 3) := dk_of ((dk_bind (dk_u1 (h 0 _ rfl))).trans ((dk_bind (dk_u2 (h 1 _ rfl) (h 2 _ rfl))).trans rfl))
theorem dk_187 {code : ByteArray} {pc : Nat} (a b : UInt8) (h : DkAt code pc [187, a, b]) : decode code pc = .ok (.new (a.toNat * 256 + b.toNat), 3) := dk_of ((dk_bind (dk_u1 (h 0 _ rfl))).trans ((dk_bind (dk_u2 (h 1 _ rfl) (h 2 _ rfl))).trans rfl))
theorem dk_188_8 {code : ByteArray} {pc : Nat} (h : DkAt code pc [188, 8]) : decode code pc = .ok (.newarray .byte, 2) := dk_of ((dk_bind (dk_u1 (h 0 _ rfl))).trans ((dk_bind (dk_u1 (h 1 _ rfl))).trans rfl))
theorem dk_188_11 {code : ByteArray} {pc : Nat} (h : DkAt code pc [188, 11]) : decode code pc = .ok (.newarray .long, 2) := dk_of ((dk_bind (dk_u1 (h 0 _ rfl))).trans ((dk_bind (dk_u1 (h 1 _ rfl))).trans rfl))
theorem dk_190 {code : ByteArray} {pc : Nat} (h : DkAt code pc [190]) : decode code pc = .ok (.arraylength, 1) := dk_of ((dk_bind (dk_u1 (h 0 _ rfl))).trans rfl)
theorem dk_191 {code : ByteArray} {pc : Nat} (h : DkAt code pc [191]) : decode code pc = .ok (.athrow, 1) := dk_of ((dk_bind (dk_u1 (h 0 _ rfl))).trans rfl)
theorem dk_192 {code : ByteArray} {pc : Nat} (a b : UInt8) (h : DkAt code pc [192, a, b]) : decode code pc = .ok (.checkcast (a.toNat * 256 + b.toNat), 3) := dk_of ((dk_bind (dk_u1 (h 0 _ rfl))).trans ((dk_bind (dk_u2 (h 1 _ rfl) (h 2 _ rfl))).trans rfl))
theorem dk_198 {code : ByteArray} {pc : Nat} (a b : UInt8) (h : DkAt code pc [198, a, b]) : decode code pc = .ok (.ifnull (Reader.signed 16 (a.toNat * 256 + b.toNat)), 3) := dk_of ((dk_bind (dk_u1 (h 0 _ rfl))).trans ((dk_bind (dk_map (dk_u2 (h 1 _ rfl) (h 2 _ rfl)))).trans rfl))
theorem dk_199 {code : ByteArray} {pc : Nat} (a b : UInt8) (h : DkAt code pc [199, a, b]) : decode code pc = .ok (.ifnonnull (Reader.signed 16 (a.toNat * 256 + b.toNat)), 3) := dk_of ((dk_bind (dk_u1 (h 0 _ rfl))).trans ((dk_bind (dk_map (dk_u2 (h 1 _ rfl) (h 2 _ rfl)))).trans rfl))
/-! java/lang/Enum -/
set_option maxRecDepth 100000
def RJ0 : String := "java/lang/Enum"
abbrev cJ0_toString : ByteArray := prog_21_method_4_code
def yJ0_toString : MethodName := ⟨RJ0, "toString", "()Ljava/lang/String;"⟩
theorem dJ0_toString_0 : decode cJ0_toString 0 = .ok (.aload_n 0, 1) := by decide +kernel
theorem dJ0_toString_1 : decode cJ0_toString 1 = .ok (.getfield 1, 3) := by decide +kernel
theorem dJ0_toString_4 : decode cJ0_toString 4 = .ok (.areturn, 1) := by decide +kernel
abbrev cJ0_ordinal : ByteArray := prog_21_method_2_code
def yJ0_ordinal : MethodName := ⟨RJ0, "ordinal", "()I"⟩
theorem dJ0_ordinal_0 : decode cJ0_ordinal 0 = .ok (.aload_n 0, 1) := by decide +kernel
theorem dJ0_ordinal_1 : decode cJ0_ordinal 1 = .ok (.getfield 7, 3) := by decide +kernel
theorem dJ0_ordinal_4 : decode cJ0_ordinal 4 = .ok (.ireturn, 1) := by decide +kernel
theorem q7 : (Jvm.Cond.initialized "java/lang/Enum") ∈ lw_all := lw_g (lw_at lw_m1 6 rfl) rfl
theorem q280 : (Jvm.Cond.instanceMethod ({ cls := "java/lang/Enum", name := "toString", desc := "()Ljava/lang/String;" } : Jvm.MethodName)) ∈ lw_all := lw_g (lw_at lw_m2 39 rfl) rfl
theorem q281 : (Jvm.Cond.code ({ cls := "java/lang/Enum", name := "toString", desc := "()Ljava/lang/String;" } : Jvm.MethodName) prog_21_method_4_code (1 : Nat) (Option.some (Jvm.ClassFile.FieldType.object "java/lang/String"))) ∈ lw_all := lw_g (lw_at lw_m2 40 rfl) rfl
theorem q623 : (Jvm.Cond.declares ({ cls := "java/lang/Enum", name := "ordinal", desc := "()I" } : Jvm.MethodName)) ∈ lw_tbl := lw_at lw_m3 142 rfl
theorem q625 : (Jvm.Cond.instanceMethod ({ cls := "java/lang/Enum", name := "ordinal", desc := "()I" } : Jvm.MethodName)) ∈ lw_all := lw_g (lw_at lw_m3 144 rfl) rfl
theorem q626 : (Jvm.Cond.code ({ cls := "java/lang/Enum", name := "ordinal", desc := "()I" } : Jvm.MethodName) prog_21_method_2_code (1 : Nat) (Option.some Jvm.ClassFile.FieldType.int)) ∈ lw_all := lw_g (lw_at lw_m3 145 rfl) rfl
theorem q729 : (Jvm.Cond.fieldLink "java/lang/Enum" (17 : Nat) "java/lang/Enum" "hash" "I") ∈ lw_all := lw_g (lw_at lw_m4 8 rfl) rfl
theorem q730 : (Jvm.Cond.fieldLink "java/lang/Enum" (1 : Nat) "java/lang/Enum" "name" "Ljava/lang/String;") ∈ lw_all := lw_g (lw_at lw_m4 9 rfl) rfl
theorem q733 : (Jvm.Cond.fieldLink "java/lang/Enum" (7 : Nat) "java/lang/Enum" "ordinal" "I") ∈ lw_all := lw_g (lw_at lw_m4 12 rfl) rfl

/-! java/lang/Math -/
set_option maxRecDepth 100000
def RJ9 : String := "java/lang/Math"
abbrev cJ9_max : ByteArray := prog_25_method_65_code
def yJ9_max : MethodName := ⟨RJ9, "max", "(II)I"⟩
def dkwJ9_max_0 : List UInt8 := [26, 27, 161, 0, 7, 26, 167, 0, 4, 27, 172]
abbrev dktJ9_max_0 : List UInt8 := dkwJ9_max_0 ++ []
theorem dksJ9_max_0 : cJ9_max.data.toList.drop 0 = dktJ9_max_0 := by decide +kernel
theorem dJ9_max_0 : decode cJ9_max 0 = .ok (.iload_n 0, 1) := dk_26 (dk_at dksJ9_max_0 0 rfl rfl)
theorem dJ9_max_1 : decode cJ9_max 1 = .ok (.iload_n 1, 1) := dk_27 (dk_at dksJ9_max_0 1 rfl rfl)
theorem dJ9_max_2 : decode cJ9_max 2 = .ok (.if_icmp .lt 7, 3) := dk_161 0 7 (dk_at dksJ9_max_0 2 rfl rfl)
theorem dJ9_max_5 : decode cJ9_max 5 = .ok (.iload_n 0, 1) := dk_26 (dk_at dksJ9_max_0 5 rfl rfl)
theorem dJ9_max_6 : decode cJ9_max 6 = .ok (.goto 4, 3) := dk_167 0 4 (dk_at dksJ9_max_0 6 rfl rfl)
theorem dJ9_max_9 : decode cJ9_max 9 = .ok (.iload_n 1, 1) := dk_27 (dk_at dksJ9_max_0 9 rfl rfl)
theorem dJ9_max_10 : decode cJ9_max 10 = .ok (.ireturn, 1) := dk_172 (dk_at dksJ9_max_0 10 rfl rfl)
abbrev cJ9_min : ByteArray := prog_25_method_69_code
def yJ9_min : MethodName := ⟨RJ9, "min", "(II)I"⟩
def dkwJ9_min_0 : List UInt8 := [26, 27, 163, 0, 7, 26, 167, 0, 4, 27, 172]
abbrev dktJ9_min_0 : List UInt8 := dkwJ9_min_0 ++ []
theorem dksJ9_min_0 : cJ9_min.data.toList.drop 0 = dktJ9_min_0 := by decide +kernel
theorem dJ9_min_0 : decode cJ9_min 0 = .ok (.iload_n 0, 1) := dk_26 (dk_at dksJ9_min_0 0 rfl rfl)
theorem dJ9_min_1 : decode cJ9_min 1 = .ok (.iload_n 1, 1) := dk_27 (dk_at dksJ9_min_0 1 rfl rfl)
theorem dJ9_min_2 : decode cJ9_min 2 = .ok (.if_icmp .gt 7, 3) := dk_163 0 7 (dk_at dksJ9_min_0 2 rfl rfl)
theorem dJ9_min_5 : decode cJ9_min 5 = .ok (.iload_n 0, 1) := dk_26 (dk_at dksJ9_min_0 5 rfl rfl)
theorem dJ9_min_6 : decode cJ9_min 6 = .ok (.goto 4, 3) := dk_167 0 4 (dk_at dksJ9_min_0 6 rfl rfl)
theorem dJ9_min_9 : decode cJ9_min 9 = .ok (.iload_n 1, 1) := dk_27 (dk_at dksJ9_min_0 9 rfl rfl)
theorem dJ9_min_10 : decode cJ9_min 10 = .ok (.ireturn, 1) := dk_172 (dk_at dksJ9_min_0 10 rfl rfl)
abbrev cJ9_floorDiv : ByteArray := prog_25_method_49_code
def yJ9_floorDiv : MethodName := ⟨RJ9, "floorDiv", "(JJ)J"⟩
def dkwJ9_floorDiv_1 : List UInt8 := [10, 101, 173, 22, 4, 173]
abbrev dktJ9_floorDiv_1 : List UInt8 := dkwJ9_floorDiv_1 ++ []
def dkwJ9_floorDiv_0 : List UInt8 := [30, 32, 109, 55, 4, 30, 32, 131, 9, 148, 156, 0, 17, 22, 4, 32, 105, 30, 148, 153, 0, 8, 22, 4]
abbrev dktJ9_floorDiv_0 : List UInt8 := dkwJ9_floorDiv_0 ++ dktJ9_floorDiv_1
theorem dksJ9_floorDiv_0 : cJ9_floorDiv.data.toList.drop 0 = dktJ9_floorDiv_0 := by decide +kernel
theorem dksJ9_floorDiv_1 : cJ9_floorDiv.data.toList.drop 24 = dktJ9_floorDiv_1 := dk_seg dksJ9_floorDiv_0 24 rfl rfl
theorem dJ9_floorDiv_0 : decode cJ9_floorDiv 0 = .ok (.lload_n 0, 1) := dk_30 (dk_at dksJ9_floorDiv_0 0 rfl rfl)
theorem dJ9_floorDiv_1 : decode cJ9_floorDiv 1 = .ok (.lload_n 2, 1) := dk_32 (dk_at dksJ9_floorDiv_0 1 rfl rfl)
theorem dJ9_floorDiv_2 : decode cJ9_floorDiv 2 = .ok (.ldiv, 1) := dk_109 (dk_at dksJ9_floorDiv_0 2 rfl rfl)
theorem dJ9_floorDiv_3 : decode cJ9_floorDiv 3 = .ok (.lstore 4, 2) := dk_55 4 (dk_at dksJ9_floorDiv_0 3 rfl rfl)
theorem dJ9_floorDiv_5 : decode cJ9_floorDiv 5 = .ok (.lload_n 0, 1) := dk_30 (dk_at dksJ9_floorDiv_0 5 rfl rfl)
theorem dJ9_floorDiv_6 : decode cJ9_floorDiv 6 = .ok (.lload_n 2, 1) := dk_32 (dk_at dksJ9_floorDiv_0 6 rfl rfl)
theorem dJ9_floorDiv_7 : decode cJ9_floorDiv 7 = .ok (.lxor, 1) := dk_131 (dk_at dksJ9_floorDiv_0 7 rfl rfl)
theorem dJ9_floorDiv_8 : decode cJ9_floorDiv 8 = .ok (.lconst 0, 1) := dk_9 (dk_at dksJ9_floorDiv_0 8 rfl rfl)
theorem dJ9_floorDiv_9 : decode cJ9_floorDiv 9 = .ok (.lcmp, 1) := dk_148 (dk_at dksJ9_floorDiv_0 9 rfl rfl)
theorem dJ9_floorDiv_10 : decode cJ9_floorDiv 10 = .ok (.ifCond .ge 17, 3) := dk_156 0 17 (dk_at dksJ9_floorDiv_0 10 rfl rfl)
theorem dJ9_floorDiv_13 : decode cJ9_floorDiv 13 = .ok (.lload 4, 2) := dk_22 4 (dk_at dksJ9_floorDiv_0 13 rfl rfl)
theorem dJ9_floorDiv_15 : decode cJ9_floorDiv 15 = .ok (.lload_n 2, 1) := dk_32 (dk_at dksJ9_floorDiv_0 15 rfl rfl)
theorem dJ9_floorDiv_16 : decode cJ9_floorDiv 16 = .ok (.lmul, 1) := dk_105 (dk_at dksJ9_floorDiv_0 16 rfl rfl)
theorem dJ9_floorDiv_17 : decode cJ9_floorDiv 17 = .ok (.lload_n 0, 1) := dk_30 (dk_at dksJ9_floorDiv_0 17 rfl rfl)
theorem dJ9_floorDiv_18 : decode cJ9_floorDiv 18 = .ok (.lcmp, 1) := dk_148 (dk_at dksJ9_floorDiv_0 18 rfl rfl)
theorem dJ9_floorDiv_19 : decode cJ9_floorDiv 19 = .ok (.ifCond .eq 8, 3) := dk_153 0 8 (dk_at dksJ9_floorDiv_0 19 rfl rfl)
theorem dJ9_floorDiv_22 : decode cJ9_floorDiv 22 = .ok (.lload 4, 2) := dk_22 4 (dk_at dksJ9_floorDiv_0 22 rfl rfl)
theorem dJ9_floorDiv_24 : decode cJ9_floorDiv 24 = .ok (.lconst 1, 1) := dk_10 (dk_at dksJ9_floorDiv_1 0 rfl rfl)
theorem dJ9_floorDiv_25 : decode cJ9_floorDiv 25 = .ok (.lsub, 1) := dk_101 (dk_at dksJ9_floorDiv_1 1 rfl rfl)
theorem dJ9_floorDiv_26 : decode cJ9_floorDiv 26 = .ok (.lreturn, 1) := dk_173 (dk_at dksJ9_floorDiv_1 2 rfl rfl)
theorem dJ9_floorDiv_27 : decode cJ9_floorDiv 27 = .ok (.lload 4, 2) := dk_22 4 (dk_at dksJ9_floorDiv_1 3 rfl rfl)
theorem dJ9_floorDiv_29 : decode cJ9_floorDiv 29 = .ok (.lreturn, 1) := dk_173 (dk_at dksJ9_floorDiv_1 5 rfl rfl)
abbrev cJ9_floorMod : ByteArray := prog_25_method_52_code
def yJ9_floorMod : MethodName := ⟨RJ9, "floorMod", "(JJ)J"⟩
def dkwJ9_floorMod_1 : List UInt8 := [173, 22, 4, 173]
abbrev dktJ9_floorMod_1 : List UInt8 := dkwJ9_floorMod_1 ++ []
def dkwJ9_floorMod_0 : List UInt8 := [30, 32, 113, 55, 4, 30, 32, 131, 9, 148, 156, 0, 15, 22, 4, 9, 148, 153, 0, 8, 22, 4, 32, 97]
abbrev dktJ9_floorMod_0 : List UInt8 := dkwJ9_floorMod_0 ++ dktJ9_floorMod_1
theorem dksJ9_floorMod_0 : cJ9_floorMod.data.toList.drop 0 = dktJ9_floorMod_0 := by decide +kernel
theorem dksJ9_floorMod_1 : cJ9_floorMod.data.toList.drop 24 = dktJ9_floorMod_1 := dk_seg dksJ9_floorMod_0 24 rfl rfl
theorem dJ9_floorMod_0 : decode cJ9_floorMod 0 = .ok (.lload_n 0, 1) := dk_30 (dk_at dksJ9_floorMod_0 0 rfl rfl)
theorem dJ9_floorMod_1 : decode cJ9_floorMod 1 = .ok (.lload_n 2, 1) := dk_32 (dk_at dksJ9_floorMod_0 1 rfl rfl)
theorem dJ9_floorMod_2 : decode cJ9_floorMod 2 = .ok (.lrem, 1) := dk_113 (dk_at dksJ9_floorMod_0 2 rfl rfl)
theorem dJ9_floorMod_3 : decode cJ9_floorMod 3 = .ok (.lstore 4, 2) := dk_55 4 (dk_at dksJ9_floorMod_0 3 rfl rfl)
theorem dJ9_floorMod_5 : decode cJ9_floorMod 5 = .ok (.lload_n 0, 1) := dk_30 (dk_at dksJ9_floorMod_0 5 rfl rfl)
theorem dJ9_floorMod_6 : decode cJ9_floorMod 6 = .ok (.lload_n 2, 1) := dk_32 (dk_at dksJ9_floorMod_0 6 rfl rfl)
theorem dJ9_floorMod_7 : decode cJ9_floorMod 7 = .ok (.lxor, 1) := dk_131 (dk_at dksJ9_floorMod_0 7 rfl rfl)
theorem dJ9_floorMod_8 : decode cJ9_floorMod 8 = .ok (.lconst 0, 1) := dk_9 (dk_at dksJ9_floorMod_0 8 rfl rfl)
theorem dJ9_floorMod_9 : decode cJ9_floorMod 9 = .ok (.lcmp, 1) := dk_148 (dk_at dksJ9_floorMod_0 9 rfl rfl)
theorem dJ9_floorMod_10 : decode cJ9_floorMod 10 = .ok (.ifCond .ge 15, 3) := dk_156 0 15 (dk_at dksJ9_floorMod_0 10 rfl rfl)
theorem dJ9_floorMod_13 : decode cJ9_floorMod 13 = .ok (.lload 4, 2) := dk_22 4 (dk_at dksJ9_floorMod_0 13 rfl rfl)
theorem dJ9_floorMod_15 : decode cJ9_floorMod 15 = .ok (.lconst 0, 1) := dk_9 (dk_at dksJ9_floorMod_0 15 rfl rfl)
theorem dJ9_floorMod_16 : decode cJ9_floorMod 16 = .ok (.lcmp, 1) := dk_148 (dk_at dksJ9_floorMod_0 16 rfl rfl)
theorem dJ9_floorMod_17 : decode cJ9_floorMod 17 = .ok (.ifCond .eq 8, 3) := dk_153 0 8 (dk_at dksJ9_floorMod_0 17 rfl rfl)
theorem dJ9_floorMod_20 : decode cJ9_floorMod 20 = .ok (.lload 4, 2) := dk_22 4 (dk_at dksJ9_floorMod_0 20 rfl rfl)
theorem dJ9_floorMod_22 : decode cJ9_floorMod 22 = .ok (.lload_n 2, 1) := dk_32 (dk_at dksJ9_floorMod_0 22 rfl rfl)
theorem dJ9_floorMod_23 : decode cJ9_floorMod 23 = .ok (.ladd, 1) := dk_97 (dk_at dksJ9_floorMod_0 23 rfl rfl)
theorem dJ9_floorMod_24 : decode cJ9_floorMod 24 = .ok (.lreturn, 1) := dk_173 (dk_at dksJ9_floorMod_1 0 rfl rfl)
theorem dJ9_floorMod_25 : decode cJ9_floorMod 25 = .ok (.lload 4, 2) := dk_22 4 (dk_at dksJ9_floorMod_1 1 rfl rfl)
theorem dJ9_floorMod_27 : decode cJ9_floorMod 27 = .ok (.lreturn, 1) := dk_173 (dk_at dksJ9_floorMod_1 3 rfl rfl)
theorem q18 : (Jvm.Cond.initialized "java/lang/Math") ∈ lw_all := lw_g (lw_at lw_m1 17 rfl) rfl
theorem q170 : (Jvm.Cond.static ({ cls := "java/lang/Math", name := "max", desc := "(II)I" } : Jvm.MethodName)) ∈ lw_all := lw_g (lw_at lw_m1 169 rfl) rfl
theorem q171 : (Jvm.Cond.code ({ cls := "java/lang/Math", name := "max", desc := "(II)I" } : Jvm.MethodName) prog_25_method_65_code (2 : Nat) (Option.some Jvm.ClassFile.FieldType.int)) ∈ lw_all := lw_g (lw_at lw_m1 170 rfl) rfl
theorem q188 : (Jvm.Cond.static ({ cls := "java/lang/Math", name := "min", desc := "(II)I" } : Jvm.MethodName)) ∈ lw_all := lw_g (lw_at lw_m1 187 rfl) rfl
theorem q189 : (Jvm.Cond.code ({ cls := "java/lang/Math", name := "min", desc := "(II)I" } : Jvm.MethodName) prog_25_method_69_code (2 : Nat) (Option.some Jvm.ClassFile.FieldType.int)) ∈ lw_all := lw_g (lw_at lw_m1 188 rfl) rfl
theorem q680 : (Jvm.Cond.static ({ cls := "java/lang/Math", name := "floorDiv", desc := "(JJ)J" } : Jvm.MethodName)) ∈ lw_all := lw_g (lw_at lw_m3 199 rfl) rfl
theorem q681 : (Jvm.Cond.code ({ cls := "java/lang/Math", name := "floorDiv", desc := "(JJ)J" } : Jvm.MethodName) prog_25_method_49_code (6 : Nat) (Option.some Jvm.ClassFile.FieldType.long)) ∈ lw_all := lw_g (lw_at lw_m3 200 rfl) rfl
theorem q701 : (Jvm.Cond.static ({ cls := "java/lang/Math", name := "floorMod", desc := "(JJ)J" } : Jvm.MethodName)) ∈ lw_all := lw_g (lw_at lw_m3 220 rfl) rfl
theorem q702 : (Jvm.Cond.code ({ cls := "java/lang/Math", name := "floorMod", desc := "(JJ)J" } : Jvm.MethodName) prog_25_method_52_code (6 : Nat) (Option.some Jvm.ClassFile.FieldType.long)) ∈ lw_all := lw_g (lw_at lw_m3 221 rfl) rfl

/-! java/lang/Object -/
set_option maxRecDepth 100000
def RJ15 : String := "java/lang/Object"
abbrev cJ15_init : ByteArray := object_method_1_code
def yJ15_init : MethodName := ⟨RJ15, "<init>", "()V"⟩
theorem dJ15_init_0 : decode cJ15_init 0 = .ok (.return_, 1) := by decide +kernel
theorem q44 : (Jvm.Cond.instanceMethod ({ cls := "java/lang/Object", name := "<init>", desc := "()V" } : Jvm.MethodName)) ∈ lw_all := lw_g (lw_at lw_m1 43 rfl) rfl
theorem q45 : (Jvm.Cond.code ({ cls := "java/lang/Object", name := "<init>", desc := "()V" } : Jvm.MethodName) object_method_1_code (1 : Nat) (Option.none : Option Jvm.ClassFile.FieldType)) ∈ lw_all := lw_g (lw_at lw_m1 44 rfl) rfl
theorem q182 : (Jvm.Cond.native ({ cls := "java/lang/Object", name := "clone", desc := "()Ljava/lang/Object;" } : Jvm.MethodName)) ∈ lw_all := lw_g (lw_at lw_m1 181 rfl) rfl
theorem q183 : (Jvm.Cond.instanceMethod ({ cls := "java/lang/Object", name := "clone", desc := "()Ljava/lang/Object;" } : Jvm.MethodName)) ∈ lw_all := lw_g (lw_at lw_m1 182 rfl) rfl
theorem q275 : (Jvm.Cond.declares ({ cls := "java/lang/Object", name := "toString", desc := "()Ljava/lang/String;" } : Jvm.MethodName)) ∈ lw_tbl := lw_at lw_m2 34 rfl
theorem q277 : (Jvm.Cond.instanceMethod ({ cls := "java/lang/Object", name := "toString", desc := "()Ljava/lang/String;" } : Jvm.MethodName)) ∈ lw_all := lw_g (lw_at lw_m2 36 rfl) rfl
theorem q278 : (Jvm.Cond.sameMethod "java/lang/Object" "java/lang/Object" "toString" "()Ljava/lang/String;") ∈ lw_all := lw_g (lw_at lw_m2 37 rfl) rfl
theorem q286 : (Jvm.Cond.instanceMethod ({ cls := "java/lang/Object", name := "getClass", desc := "()Ljava/lang/Class;" } : Jvm.MethodName)) ∈ lw_all := lw_g (lw_at lw_m2 45 rfl) rfl
theorem q287 : (Jvm.Cond.sameMethod "java/lang/Object" "java/lang/Object" "getClass" "()Ljava/lang/Class;") ∈ lw_all := lw_g (lw_at lw_m2 46 rfl) rfl
theorem q297 : (Jvm.Cond.native ({ cls := "java/lang/Object", name := "getClass", desc := "()Ljava/lang/Class;" } : Jvm.MethodName)) ∈ lw_all := lw_g (lw_at lw_m2 56 rfl) rfl
theorem q725 : (Jvm.Cond.initialized "java/lang/Object") ∈ lw_all := lw_g (lw_at lw_m4 4 rfl) rfl

/-! the law's own entry -/
set_option maxRecDepth 100000
abbrev cL_law : ByteArray := code
def dkwL_law_2 : List UInt8 := [167, 0, 4, 3, 172]
abbrev dktL_law_2 : List UInt8 := dkwL_law_2 ++ []
def dkwL_law_1 : List UInt8 := [184, 0, 127, 153, 0, 23, 42, 3, 184, 0, 39, 42, 4, 184, 0, 39, 184, 0, 130, 153, 0, 7, 4]
abbrev dktL_law_1 : List UInt8 := dkwL_law_1 ++ dktL_law_2
def dkwL_law_0 : List UInt8 := [42, 184, 0, 120, 153, 0, 45, 42, 3, 184, 0, 39, 184, 0, 124, 153, 0, 34, 42, 3, 184, 0, 39]
abbrev dktL_law_0 : List UInt8 := dkwL_law_0 ++ dktL_law_1
theorem dksL_law_0 : cL_law.data.toList.drop 0 = dktL_law_0 := by decide +kernel
theorem dksL_law_1 : cL_law.data.toList.drop 23 = dktL_law_1 := dk_seg dksL_law_0 23 rfl rfl
theorem dksL_law_2 : cL_law.data.toList.drop 46 = dktL_law_2 := dk_seg dksL_law_1 23 rfl rfl
theorem dL_law_0 : decode cL_law 0 = .ok (.aload_n 0, 1) := dk_42 (dk_at dksL_law_0 0 rfl rfl)
theorem dL_law_1 : decode cL_law 1 = .ok (.invokestatic 120, 3) := dk_184 0 120 (dk_at dksL_law_0 1 rfl rfl)
theorem dL_law_4 : decode cL_law 4 = .ok (.ifCond .eq 45, 3) := dk_153 0 45 (dk_at dksL_law_0 4 rfl rfl)
theorem dL_law_7 : decode cL_law 7 = .ok (.aload_n 0, 1) := dk_42 (dk_at dksL_law_0 7 rfl rfl)
theorem dL_law_8 : decode cL_law 8 = .ok (.iconst 0, 1) := dk_3 (dk_at dksL_law_0 8 rfl rfl)
theorem dL_law_9 : decode cL_law 9 = .ok (.invokestatic 39, 3) := dk_184 0 39 (dk_at dksL_law_0 9 rfl rfl)
theorem dL_law_12 : decode cL_law 12 = .ok (.invokestatic 124, 3) := dk_184 0 124 (dk_at dksL_law_0 12 rfl rfl)
theorem dL_law_15 : decode cL_law 15 = .ok (.ifCond .eq 34, 3) := dk_153 0 34 (dk_at dksL_law_0 15 rfl rfl)
theorem dL_law_18 : decode cL_law 18 = .ok (.aload_n 0, 1) := dk_42 (dk_at dksL_law_0 18 rfl rfl)
theorem dL_law_19 : decode cL_law 19 = .ok (.iconst 0, 1) := dk_3 (dk_at dksL_law_0 19 rfl rfl)
theorem dL_law_20 : decode cL_law 20 = .ok (.invokestatic 39, 3) := dk_184 0 39 (dk_at dksL_law_0 20 rfl rfl)
theorem dL_law_23 : decode cL_law 23 = .ok (.invokestatic 127, 3) := dk_184 0 127 (dk_at dksL_law_1 0 rfl rfl)
theorem dL_law_26 : decode cL_law 26 = .ok (.ifCond .eq 23, 3) := dk_153 0 23 (dk_at dksL_law_1 3 rfl rfl)
theorem dL_law_29 : decode cL_law 29 = .ok (.aload_n 0, 1) := dk_42 (dk_at dksL_law_1 6 rfl rfl)
theorem dL_law_30 : decode cL_law 30 = .ok (.iconst 0, 1) := dk_3 (dk_at dksL_law_1 7 rfl rfl)
theorem dL_law_31 : decode cL_law 31 = .ok (.invokestatic 39, 3) := dk_184 0 39 (dk_at dksL_law_1 8 rfl rfl)
theorem dL_law_34 : decode cL_law 34 = .ok (.aload_n 0, 1) := dk_42 (dk_at dksL_law_1 11 rfl rfl)
theorem dL_law_35 : decode cL_law 35 = .ok (.iconst 1, 1) := dk_4 (dk_at dksL_law_1 12 rfl rfl)
theorem dL_law_36 : decode cL_law 36 = .ok (.invokestatic 39, 3) := dk_184 0 39 (dk_at dksL_law_1 13 rfl rfl)
theorem dL_law_39 : decode cL_law 39 = .ok (.invokestatic 130, 3) := dk_184 0 130 (dk_at dksL_law_1 16 rfl rfl)
theorem dL_law_42 : decode cL_law 42 = .ok (.ifCond .eq 7, 3) := dk_153 0 7 (dk_at dksL_law_1 19 rfl rfl)
theorem dL_law_45 : decode cL_law 45 = .ok (.iconst 1, 1) := dk_4 (dk_at dksL_law_1 22 rfl rfl)
theorem dL_law_46 : decode cL_law 46 = .ok (.goto 4, 3) := dk_167 0 4 (dk_at dksL_law_2 0 rfl rfl)
theorem dL_law_49 : decode cL_law 49 = .ok (.iconst 0, 1) := dk_3 (dk_at dksL_law_2 3 rfl rfl)
theorem dL_law_50 : decode cL_law 50 = .ok (.ireturn, 1) := dk_172 (dk_at dksL_law_2 4 rfl rfl)

/-! DayCount -/
set_option maxRecDepth 100000
def RX1 : String := "DayCount"
def TX1 : u_T := fun k => match k with
  | _ => ("DayCount", "day", "LLocalDate;", false)
def tyX1 : Nat → FieldType := fun k => match k with
  | _ => .object "LocalDate"
abbrev wsX10 : List Cond := u_ws RX1 TX1 1
theorem nmX1 : ∀ a, a < 1 → ∀ b, b < 1 → a ≠ b → (TX1 a).2.1 ≠ (TX1 b).2.1 := by decide +kernel
theorem tyX1_ok : ∀ k, k < 1 → parseFieldDescriptor (TX1 k).2.2.1 = some (tyX1 k) := by decide +kernel
abbrev cX1_init : ByteArray := prog_6_method_1_code
def yX1_init : MethodName := ⟨RX1, "<init>", "()V"⟩
def dkwX1_init_0 : List UInt8 := [42, 183, 0, 1, 42, 9, 184, 0, 7, 181, 0, 13, 177]
abbrev dktX1_init_0 : List UInt8 := dkwX1_init_0 ++ []
theorem dksX1_init_0 : cX1_init.data.toList.drop 0 = dktX1_init_0 := by decide +kernel
theorem dX1_init_0 : decode cX1_init 0 = .ok (.aload_n 0, 1) := dk_42 (dk_at dksX1_init_0 0 rfl rfl)
theorem dX1_init_1 : decode cX1_init 1 = .ok (.invokespecial 1, 3) := dk_183 0 1 (dk_at dksX1_init_0 1 rfl rfl)
theorem dX1_init_4 : decode cX1_init 4 = .ok (.aload_n 0, 1) := dk_42 (dk_at dksX1_init_0 4 rfl rfl)
theorem dX1_init_5 : decode cX1_init 5 = .ok (.lconst 0, 1) := dk_9 (dk_at dksX1_init_0 5 rfl rfl)
theorem dX1_init_6 : decode cX1_init 6 = .ok (.invokestatic 7, 3) := dk_184 0 7 (dk_at dksX1_init_0 6 rfl rfl)
theorem dX1_init_9 : decode cX1_init 9 = .ok (.putfield 13, 3) := dk_181 0 13 (dk_at dksX1_init_0 9 rfl rfl)
theorem dX1_init_12 : decode cX1_init 12 = .ok (.return_, 1) := dk_177 (dk_at dksX1_init_0 12 rfl rfl)
abbrev cX1_fromDay : ByteArray := prog_6_method_2_code
def yX1_fromDay : MethodName := ⟨RX1, "fromDay", "(II)Z"⟩
def dkwX1_fromDay_1 : List UInt8 := [20, 0, 23, 148, 158, 0, 5, 3, 172, 42, 33, 184, 0, 7, 181, 0, 13, 4, 172]
abbrev dktX1_fromDay_1 : List UInt8 := dkwX1_fromDay_1 ++ []
def dkwX1_fromDay_0 : List UInt8 := [27, 133, 16, 32, 121, 28, 133, 20, 0, 19, 127, 129, 66, 33, 20, 0, 21, 148, 155, 0, 11, 33]
abbrev dktX1_fromDay_0 : List UInt8 := dkwX1_fromDay_0 ++ dktX1_fromDay_1
theorem dksX1_fromDay_0 : cX1_fromDay.data.toList.drop 0 = dktX1_fromDay_0 := by decide +kernel
theorem dksX1_fromDay_1 : cX1_fromDay.data.toList.drop 22 = dktX1_fromDay_1 := dk_seg dksX1_fromDay_0 22 rfl rfl
theorem dX1_fromDay_0 : decode cX1_fromDay 0 = .ok (.iload_n 1, 1) := dk_27 (dk_at dksX1_fromDay_0 0 rfl rfl)
theorem dX1_fromDay_1 : decode cX1_fromDay 1 = .ok (.i2l, 1) := dk_133 (dk_at dksX1_fromDay_0 1 rfl rfl)
theorem dX1_fromDay_2 : decode cX1_fromDay 2 = .ok (.bipush 32, 2) := dk_16 32 (dk_at dksX1_fromDay_0 2 rfl rfl)
theorem dX1_fromDay_4 : decode cX1_fromDay 4 = .ok (.lshl, 1) := dk_121 (dk_at dksX1_fromDay_0 4 rfl rfl)
theorem dX1_fromDay_5 : decode cX1_fromDay 5 = .ok (.iload_n 2, 1) := dk_28 (dk_at dksX1_fromDay_0 5 rfl rfl)
theorem dX1_fromDay_6 : decode cX1_fromDay 6 = .ok (.i2l, 1) := dk_133 (dk_at dksX1_fromDay_0 6 rfl rfl)
theorem dX1_fromDay_7 : decode cX1_fromDay 7 = .ok (.ldc2_w 19, 3) := dk_20 0 19 (dk_at dksX1_fromDay_0 7 rfl rfl)
theorem dX1_fromDay_10 : decode cX1_fromDay 10 = .ok (.land, 1) := dk_127 (dk_at dksX1_fromDay_0 10 rfl rfl)
theorem dX1_fromDay_11 : decode cX1_fromDay 11 = .ok (.lor, 1) := dk_129 (dk_at dksX1_fromDay_0 11 rfl rfl)
theorem dX1_fromDay_12 : decode cX1_fromDay 12 = .ok (.lstore_n 3, 1) := dk_66 (dk_at dksX1_fromDay_0 12 rfl rfl)
theorem dX1_fromDay_13 : decode cX1_fromDay 13 = .ok (.lload_n 3, 1) := dk_33 (dk_at dksX1_fromDay_0 13 rfl rfl)
theorem dX1_fromDay_14 : decode cX1_fromDay 14 = .ok (.ldc2_w 21, 3) := dk_20 0 21 (dk_at dksX1_fromDay_0 14 rfl rfl)
theorem dX1_fromDay_17 : decode cX1_fromDay 17 = .ok (.lcmp, 1) := dk_148 (dk_at dksX1_fromDay_0 17 rfl rfl)
theorem dX1_fromDay_18 : decode cX1_fromDay 18 = .ok (.ifCond .lt 11, 3) := dk_155 0 11 (dk_at dksX1_fromDay_0 18 rfl rfl)
theorem dX1_fromDay_21 : decode cX1_fromDay 21 = .ok (.lload_n 3, 1) := dk_33 (dk_at dksX1_fromDay_0 21 rfl rfl)
theorem dX1_fromDay_22 : decode cX1_fromDay 22 = .ok (.ldc2_w 23, 3) := dk_20 0 23 (dk_at dksX1_fromDay_1 0 rfl rfl)
theorem dX1_fromDay_25 : decode cX1_fromDay 25 = .ok (.lcmp, 1) := dk_148 (dk_at dksX1_fromDay_1 3 rfl rfl)
theorem dX1_fromDay_26 : decode cX1_fromDay 26 = .ok (.ifCond .le 5, 3) := dk_158 0 5 (dk_at dksX1_fromDay_1 4 rfl rfl)
theorem dX1_fromDay_29 : decode cX1_fromDay 29 = .ok (.iconst 0, 1) := dk_3 (dk_at dksX1_fromDay_1 7 rfl rfl)
theorem dX1_fromDay_30 : decode cX1_fromDay 30 = .ok (.ireturn, 1) := dk_172 (dk_at dksX1_fromDay_1 8 rfl rfl)
theorem dX1_fromDay_31 : decode cX1_fromDay 31 = .ok (.aload_n 0, 1) := dk_42 (dk_at dksX1_fromDay_1 9 rfl rfl)
theorem dX1_fromDay_32 : decode cX1_fromDay 32 = .ok (.lload_n 3, 1) := dk_33 (dk_at dksX1_fromDay_1 10 rfl rfl)
theorem dX1_fromDay_33 : decode cX1_fromDay 33 = .ok (.invokestatic 7, 3) := dk_184 0 7 (dk_at dksX1_fromDay_1 11 rfl rfl)
theorem dX1_fromDay_36 : decode cX1_fromDay 36 = .ok (.putfield 13, 3) := dk_181 0 13 (dk_at dksX1_fromDay_1 14 rfl rfl)
theorem dX1_fromDay_39 : decode cX1_fromDay 39 = .ok (.iconst 1, 1) := dk_4 (dk_at dksX1_fromDay_1 17 rfl rfl)
theorem dX1_fromDay_40 : decode cX1_fromDay 40 = .ok (.ireturn, 1) := dk_172 (dk_at dksX1_fromDay_1 18 rfl rfl)
abbrev cX1_year : ByteArray := prog_6_method_5_code
def yX1_year : MethodName := ⟨RX1, "year", "()I"⟩
def dkwX1_year_0 : List UInt8 := [42, 180, 0, 13, 182, 0, 29, 172]
abbrev dktX1_year_0 : List UInt8 := dkwX1_year_0 ++ []
theorem dksX1_year_0 : cX1_year.data.toList.drop 0 = dktX1_year_0 := by decide +kernel
theorem dX1_year_0 : decode cX1_year 0 = .ok (.aload_n 0, 1) := dk_42 (dk_at dksX1_year_0 0 rfl rfl)
theorem dX1_year_1 : decode cX1_year 1 = .ok (.getfield 13, 3) := dk_180 0 13 (dk_at dksX1_year_0 1 rfl rfl)
theorem dX1_year_4 : decode cX1_year 4 = .ok (.invokevirtual 29, 3) := dk_182 0 29 (dk_at dksX1_year_0 4 rfl rfl)
theorem dX1_year_7 : decode cX1_year 7 = .ok (.ireturn, 1) := dk_172 (dk_at dksX1_year_0 7 rfl rfl)
abbrev cX1_month : ByteArray := prog_6_method_6_code
def yX1_month : MethodName := ⟨RX1, "month", "()I"⟩
def dkwX1_month_0 : List UInt8 := [42, 180, 0, 13, 182, 0, 33, 172]
abbrev dktX1_month_0 : List UInt8 := dkwX1_month_0 ++ []
theorem dksX1_month_0 : cX1_month.data.toList.drop 0 = dktX1_month_0 := by decide +kernel
theorem dX1_month_0 : decode cX1_month 0 = .ok (.aload_n 0, 1) := dk_42 (dk_at dksX1_month_0 0 rfl rfl)
theorem dX1_month_1 : decode cX1_month 1 = .ok (.getfield 13, 3) := dk_180 0 13 (dk_at dksX1_month_0 1 rfl rfl)
theorem dX1_month_4 : decode cX1_month 4 = .ok (.invokevirtual 33, 3) := dk_182 0 33 (dk_at dksX1_month_0 4 rfl rfl)
theorem dX1_month_7 : decode cX1_month 7 = .ok (.ireturn, 1) := dk_172 (dk_at dksX1_month_0 7 rfl rfl)
abbrev cX1_dayOfMonth : ByteArray := prog_6_method_7_code
def yX1_dayOfMonth : MethodName := ⟨RX1, "dayOfMonth", "()I"⟩
def dkwX1_dayOfMonth_0 : List UInt8 := [42, 180, 0, 13, 182, 0, 36, 172]
abbrev dktX1_dayOfMonth_0 : List UInt8 := dkwX1_dayOfMonth_0 ++ []
theorem dksX1_dayOfMonth_0 : cX1_dayOfMonth.data.toList.drop 0 = dktX1_dayOfMonth_0 := by decide +kernel
theorem dX1_dayOfMonth_0 : decode cX1_dayOfMonth 0 = .ok (.aload_n 0, 1) := dk_42 (dk_at dksX1_dayOfMonth_0 0 rfl rfl)
theorem dX1_dayOfMonth_1 : decode cX1_dayOfMonth 1 = .ok (.getfield 13, 3) := dk_180 0 13 (dk_at dksX1_dayOfMonth_0 1 rfl rfl)
theorem dX1_dayOfMonth_4 : decode cX1_dayOfMonth 4 = .ok (.invokevirtual 36, 3) := dk_182 0 36 (dk_at dksX1_dayOfMonth_0 4 rfl rfl)
theorem dX1_dayOfMonth_7 : decode cX1_dayOfMonth 7 = .ok (.ireturn, 1) := dk_172 (dk_at dksX1_dayOfMonth_0 7 rfl rfl)
abbrev cX1_dayOfYear : ByteArray := prog_6_method_8_code
def yX1_dayOfYear : MethodName := ⟨RX1, "dayOfYear", "()I"⟩
def dkwX1_dayOfYear_0 : List UInt8 := [42, 180, 0, 13, 182, 0, 39, 172]
abbrev dktX1_dayOfYear_0 : List UInt8 := dkwX1_dayOfYear_0 ++ []
theorem dksX1_dayOfYear_0 : cX1_dayOfYear.data.toList.drop 0 = dktX1_dayOfYear_0 := by decide +kernel
theorem dX1_dayOfYear_0 : decode cX1_dayOfYear 0 = .ok (.aload_n 0, 1) := dk_42 (dk_at dksX1_dayOfYear_0 0 rfl rfl)
theorem dX1_dayOfYear_1 : decode cX1_dayOfYear 1 = .ok (.getfield 13, 3) := dk_180 0 13 (dk_at dksX1_dayOfYear_0 1 rfl rfl)
theorem dX1_dayOfYear_4 : decode cX1_dayOfYear 4 = .ok (.invokevirtual 39, 3) := dk_182 0 39 (dk_at dksX1_dayOfYear_0 4 rfl rfl)
theorem dX1_dayOfYear_7 : decode cX1_dayOfYear 7 = .ok (.ireturn, 1) := dk_172 (dk_at dksX1_dayOfYear_0 7 rfl rfl)
abbrev cX1_leap : ByteArray := prog_6_method_9_code
def yX1_leap : MethodName := ⟨RX1, "leap", "()Z"⟩
def dkwX1_leap_0 : List UInt8 := [42, 180, 0, 13, 182, 0, 42, 172]
abbrev dktX1_leap_0 : List UInt8 := dkwX1_leap_0 ++ []
theorem dksX1_leap_0 : cX1_leap.data.toList.drop 0 = dktX1_leap_0 := by decide +kernel
theorem dX1_leap_0 : decode cX1_leap 0 = .ok (.aload_n 0, 1) := dk_42 (dk_at dksX1_leap_0 0 rfl rfl)
theorem dX1_leap_1 : decode cX1_leap 1 = .ok (.getfield 13, 3) := dk_180 0 13 (dk_at dksX1_leap_0 1 rfl rfl)
theorem dX1_leap_4 : decode cX1_leap 4 = .ok (.invokevirtual 42, 3) := dk_182 0 42 (dk_at dksX1_leap_0 4 rfl rfl)
theorem dX1_leap_7 : decode cX1_leap 7 = .ok (.ireturn, 1) := dk_172 (dk_at dksX1_leap_0 7 rfl rfl)
abbrev cX1_monthLength : ByteArray := prog_6_method_10_code
def yX1_monthLength : MethodName := ⟨RX1, "monthLength", "()I"⟩
def dkwX1_monthLength_0 : List UInt8 := [42, 180, 0, 13, 182, 0, 46, 172]
abbrev dktX1_monthLength_0 : List UInt8 := dkwX1_monthLength_0 ++ []
theorem dksX1_monthLength_0 : cX1_monthLength.data.toList.drop 0 = dktX1_monthLength_0 := by decide +kernel
theorem dX1_monthLength_0 : decode cX1_monthLength 0 = .ok (.aload_n 0, 1) := dk_42 (dk_at dksX1_monthLength_0 0 rfl rfl)
theorem dX1_monthLength_1 : decode cX1_monthLength 1 = .ok (.getfield 13, 3) := dk_180 0 13 (dk_at dksX1_monthLength_0 1 rfl rfl)
theorem dX1_monthLength_4 : decode cX1_monthLength 4 = .ok (.invokevirtual 46, 3) := dk_182 0 46 (dk_at dksX1_monthLength_0 4 rfl rfl)
theorem dX1_monthLength_7 : decode cX1_monthLength 7 = .ok (.ireturn, 1) := dk_172 (dk_at dksX1_monthLength_0 7 rfl rfl)
abbrev cX1_epochDay : ByteArray := prog_6_method_4_code
def yX1_epochDay : MethodName := ⟨RX1, "epochDay", "()J"⟩
def dkwX1_epochDay_0 : List UInt8 := [42, 180, 0, 13, 182, 0, 25, 173]
abbrev dktX1_epochDay_0 : List UInt8 := dkwX1_epochDay_0 ++ []
theorem dksX1_epochDay_0 : cX1_epochDay.data.toList.drop 0 = dktX1_epochDay_0 := by decide +kernel
theorem dX1_epochDay_0 : decode cX1_epochDay 0 = .ok (.aload_n 0, 1) := dk_42 (dk_at dksX1_epochDay_0 0 rfl rfl)
theorem dX1_epochDay_1 : decode cX1_epochDay 1 = .ok (.getfield 13, 3) := dk_180 0 13 (dk_at dksX1_epochDay_0 1 rfl rfl)
theorem dX1_epochDay_4 : decode cX1_epochDay 4 = .ok (.invokevirtual 25, 3) := dk_182 0 25 (dk_at dksX1_epochDay_0 4 rfl rfl)
theorem dX1_epochDay_7 : decode cX1_epochDay 7 = .ok (.lreturn, 1) := dk_173 (dk_at dksX1_epochDay_0 7 rfl rfl)
abbrev cX1_near : ByteArray := prog_6_method_3_code
def yX1_near : MethodName := ⟨RX1, "near", "(I)Z"⟩
def dkwX1_near_0 : List UInt8 := [42, 27, 133, 184, 0, 7, 181, 0, 13, 4, 172]
abbrev dktX1_near_0 : List UInt8 := dkwX1_near_0 ++ []
theorem dksX1_near_0 : cX1_near.data.toList.drop 0 = dktX1_near_0 := by decide +kernel
theorem dX1_near_0 : decode cX1_near 0 = .ok (.aload_n 0, 1) := dk_42 (dk_at dksX1_near_0 0 rfl rfl)
theorem dX1_near_1 : decode cX1_near 1 = .ok (.iload_n 1, 1) := dk_27 (dk_at dksX1_near_0 1 rfl rfl)
theorem dX1_near_2 : decode cX1_near 2 = .ok (.i2l, 1) := dk_133 (dk_at dksX1_near_0 2 rfl rfl)
theorem dX1_near_3 : decode cX1_near 3 = .ok (.invokestatic 7, 3) := dk_184 0 7 (dk_at dksX1_near_0 3 rfl rfl)
theorem dX1_near_6 : decode cX1_near 6 = .ok (.putfield 13, 3) := dk_181 0 13 (dk_at dksX1_near_0 6 rfl rfl)
theorem dX1_near_9 : decode cX1_near 9 = .ok (.iconst 1, 1) := dk_4 (dk_at dksX1_near_0 9 rfl rfl)
theorem dX1_near_10 : decode cX1_near 10 = .ok (.ireturn, 1) := dk_172 (dk_at dksX1_near_0 10 rfl rfl)
theorem q2 : (Jvm.Cond.initialized "DayCount") ∈ lw_all := lw_g (lw_at lw_m1 1 rfl) rfl
theorem q39 : (Jvm.Cond.instantiable "DayCount" (1 : Nat)) ∈ lw_all := lw_g (lw_at lw_m1 38 rfl) rfl
theorem q41 : (Jvm.Cond.instanceMethod ({ cls := "DayCount", name := "<init>", desc := "()V" } : Jvm.MethodName)) ∈ lw_all := lw_g (lw_at lw_m1 40 rfl) rfl
theorem q42 : (Jvm.Cond.code ({ cls := "DayCount", name := "<init>", desc := "()V" } : Jvm.MethodName) prog_6_method_1_code (1 : Nat) (Option.none : Option Jvm.ClassFile.FieldType)) ∈ lw_all := lw_g (lw_at lw_m1 41 rfl) rfl
theorem q43 : (Jvm.Cond.methodLink "DayCount" (1 : Nat) ({ cls := "java/lang/Object", name := "<init>", desc := "()V" } : Jvm.MethodName)) ∈ lw_all := lw_g (lw_at lw_m1 42 rfl) rfl
theorem q46 : (Jvm.Cond.methodLink "DayCount" (7 : Nat) ({ cls := "LocalDate", name := "ofEpochDay", desc := "(J)LLocalDate;" } : Jvm.MethodName)) ∈ lw_all := lw_g (lw_at lw_m1 45 rfl) rfl
theorem q290 : (Jvm.Cond.selects "DayCount" ({ cls := "java/lang/Object", name := "getClass", desc := "()Ljava/lang/Class;" } : Jvm.MethodName) ({ cls := "java/lang/Object", name := "getClass", desc := "()Ljava/lang/Class;" } : Jvm.MethodName)) ∈ lw_all := lw_g (lw_at lw_m2 49 rfl) rfl
theorem q374 : (Jvm.Cond.selects "DayCount" ({ cls := "java/lang/Object", name := "toString", desc := "()Ljava/lang/String;" } : Jvm.MethodName) ({ cls := "java/lang/Object", name := "toString", desc := "()Ljava/lang/String;" } : Jvm.MethodName)) ∈ lw_all := lw_g (lw_at lw_m2 133 rfl) rfl
theorem q524 : (Jvm.Cond.fieldLink "DayCount" (13 : Nat) "DayCount" "day" "LLocalDate;") ∈ lw_all := lw_g (lw_at lw_m3 43 rfl) rfl
theorem q525 : (Jvm.Cond.lays "DayCount" "DayCount" "day" "LLocalDate;") ∈ lw_all := lw_g (lw_at lw_m3 44 rfl) rfl
theorem q526 : (Jvm.Cond.soleField "DayCount" "day") ∈ lw_all := lw_g (lw_at lw_m3 45 rfl) rfl
theorem q527 : (Jvm.Cond.superclass "DayCount" "java/lang/Object") ∈ lw_all := lw_g (lw_at lw_m3 46 rfl) rfl
theorem q529 : (Jvm.Cond.instanceMethod ({ cls := "DayCount", name := "fromDay", desc := "(II)Z" } : Jvm.MethodName)) ∈ lw_all := lw_g (lw_at lw_m3 48 rfl) rfl
theorem q530 : (Jvm.Cond.selects "DayCount" ({ cls := "DayCount", name := "fromDay", desc := "(II)Z" } : Jvm.MethodName) ({ cls := "DayCount", name := "fromDay", desc := "(II)Z" } : Jvm.MethodName)) ∈ lw_all := lw_g (lw_at lw_m3 49 rfl) rfl
theorem q531 : (Jvm.Cond.code ({ cls := "DayCount", name := "fromDay", desc := "(II)Z" } : Jvm.MethodName) prog_6_method_2_code (5 : Nat) (Option.some Jvm.ClassFile.FieldType.boolean)) ∈ lw_all := lw_g (lw_at lw_m3 50 rfl) rfl
theorem q532 : (Jvm.Cond.constantLong "DayCount" (19 : Nat) (4294967295 : Int64)) ∈ lw_all := lw_g (lw_at lw_m3 51 rfl) rfl
theorem q533 : (Jvm.Cond.constantLong "DayCount" (21 : Nat) (-365243219162 : Int64)) ∈ lw_all := lw_g (lw_at lw_m3 52 rfl) rfl
theorem q534 : (Jvm.Cond.constantLong "DayCount" (23 : Nat) (365241780471 : Int64)) ∈ lw_all := lw_g (lw_at lw_m3 53 rfl) rfl
theorem q536 : (Jvm.Cond.instanceMethod ({ cls := "DayCount", name := "year", desc := "()I" } : Jvm.MethodName)) ∈ lw_all := lw_g (lw_at lw_m3 55 rfl) rfl
theorem q537 : (Jvm.Cond.selects "DayCount" ({ cls := "DayCount", name := "year", desc := "()I" } : Jvm.MethodName) ({ cls := "DayCount", name := "year", desc := "()I" } : Jvm.MethodName)) ∈ lw_all := lw_g (lw_at lw_m3 56 rfl) rfl
theorem q538 : (Jvm.Cond.code ({ cls := "DayCount", name := "year", desc := "()I" } : Jvm.MethodName) prog_6_method_5_code (1 : Nat) (Option.some Jvm.ClassFile.FieldType.int)) ∈ lw_all := lw_g (lw_at lw_m3 57 rfl) rfl
theorem q539 : (Jvm.Cond.methodLink "DayCount" (29 : Nat) ({ cls := "LocalDate", name := "getYear", desc := "()I" } : Jvm.MethodName)) ∈ lw_all := lw_g (lw_at lw_m3 58 rfl) rfl
theorem q544 : (Jvm.Cond.instanceMethod ({ cls := "DayCount", name := "month", desc := "()I" } : Jvm.MethodName)) ∈ lw_all := lw_g (lw_at lw_m3 63 rfl) rfl
theorem q545 : (Jvm.Cond.selects "DayCount" ({ cls := "DayCount", name := "month", desc := "()I" } : Jvm.MethodName) ({ cls := "DayCount", name := "month", desc := "()I" } : Jvm.MethodName)) ∈ lw_all := lw_g (lw_at lw_m3 64 rfl) rfl
theorem q546 : (Jvm.Cond.code ({ cls := "DayCount", name := "month", desc := "()I" } : Jvm.MethodName) prog_6_method_6_code (1 : Nat) (Option.some Jvm.ClassFile.FieldType.int)) ∈ lw_all := lw_g (lw_at lw_m3 65 rfl) rfl
theorem q547 : (Jvm.Cond.methodLink "DayCount" (33 : Nat) ({ cls := "LocalDate", name := "getMonthValue", desc := "()I" } : Jvm.MethodName)) ∈ lw_all := lw_g (lw_at lw_m3 66 rfl) rfl
theorem q552 : (Jvm.Cond.instanceMethod ({ cls := "DayCount", name := "dayOfMonth", desc := "()I" } : Jvm.MethodName)) ∈ lw_all := lw_g (lw_at lw_m3 71 rfl) rfl
theorem q553 : (Jvm.Cond.selects "DayCount" ({ cls := "DayCount", name := "dayOfMonth", desc := "()I" } : Jvm.MethodName) ({ cls := "DayCount", name := "dayOfMonth", desc := "()I" } : Jvm.MethodName)) ∈ lw_all := lw_g (lw_at lw_m3 72 rfl) rfl
theorem q554 : (Jvm.Cond.code ({ cls := "DayCount", name := "dayOfMonth", desc := "()I" } : Jvm.MethodName) prog_6_method_7_code (1 : Nat) (Option.some Jvm.ClassFile.FieldType.int)) ∈ lw_all := lw_g (lw_at lw_m3 73 rfl) rfl
theorem q555 : (Jvm.Cond.methodLink "DayCount" (36 : Nat) ({ cls := "LocalDate", name := "getDayOfMonth", desc := "()I" } : Jvm.MethodName)) ∈ lw_all := lw_g (lw_at lw_m3 74 rfl) rfl
theorem q560 : (Jvm.Cond.instanceMethod ({ cls := "DayCount", name := "dayOfYear", desc := "()I" } : Jvm.MethodName)) ∈ lw_all := lw_g (lw_at lw_m3 79 rfl) rfl
theorem q561 : (Jvm.Cond.selects "DayCount" ({ cls := "DayCount", name := "dayOfYear", desc := "()I" } : Jvm.MethodName) ({ cls := "DayCount", name := "dayOfYear", desc := "()I" } : Jvm.MethodName)) ∈ lw_all := lw_g (lw_at lw_m3 80 rfl) rfl
theorem q562 : (Jvm.Cond.code ({ cls := "DayCount", name := "dayOfYear", desc := "()I" } : Jvm.MethodName) prog_6_method_8_code (1 : Nat) (Option.some Jvm.ClassFile.FieldType.int)) ∈ lw_all := lw_g (lw_at lw_m3 81 rfl) rfl
theorem q563 : (Jvm.Cond.methodLink "DayCount" (39 : Nat) ({ cls := "LocalDate", name := "getDayOfYear", desc := "()I" } : Jvm.MethodName)) ∈ lw_all := lw_g (lw_at lw_m3 82 rfl) rfl
theorem q628 : (Jvm.Cond.instanceMethod ({ cls := "DayCount", name := "leap", desc := "()Z" } : Jvm.MethodName)) ∈ lw_all := lw_g (lw_at lw_m3 147 rfl) rfl
theorem q629 : (Jvm.Cond.selects "DayCount" ({ cls := "DayCount", name := "leap", desc := "()Z" } : Jvm.MethodName) ({ cls := "DayCount", name := "leap", desc := "()Z" } : Jvm.MethodName)) ∈ lw_all := lw_g (lw_at lw_m3 148 rfl) rfl
theorem q630 : (Jvm.Cond.code ({ cls := "DayCount", name := "leap", desc := "()Z" } : Jvm.MethodName) prog_6_method_9_code (1 : Nat) (Option.some Jvm.ClassFile.FieldType.boolean)) ∈ lw_all := lw_g (lw_at lw_m3 149 rfl) rfl
theorem q631 : (Jvm.Cond.methodLink "DayCount" (42 : Nat) ({ cls := "LocalDate", name := "isLeapYear", desc := "()Z" } : Jvm.MethodName)) ∈ lw_all := lw_g (lw_at lw_m3 150 rfl) rfl
theorem q633 : (Jvm.Cond.instanceMethod ({ cls := "DayCount", name := "monthLength", desc := "()I" } : Jvm.MethodName)) ∈ lw_all := lw_g (lw_at lw_m3 152 rfl) rfl
theorem q634 : (Jvm.Cond.selects "DayCount" ({ cls := "DayCount", name := "monthLength", desc := "()I" } : Jvm.MethodName) ({ cls := "DayCount", name := "monthLength", desc := "()I" } : Jvm.MethodName)) ∈ lw_all := lw_g (lw_at lw_m3 153 rfl) rfl
theorem q635 : (Jvm.Cond.code ({ cls := "DayCount", name := "monthLength", desc := "()I" } : Jvm.MethodName) prog_6_method_10_code (1 : Nat) (Option.some Jvm.ClassFile.FieldType.int)) ∈ lw_all := lw_g (lw_at lw_m3 154 rfl) rfl
theorem q636 : (Jvm.Cond.methodLink "DayCount" (46 : Nat) ({ cls := "LocalDate", name := "lengthOfMonth", desc := "()I" } : Jvm.MethodName)) ∈ lw_all := lw_g (lw_at lw_m3 155 rfl) rfl
theorem q644 : (Jvm.Cond.instanceMethod ({ cls := "DayCount", name := "epochDay", desc := "()J" } : Jvm.MethodName)) ∈ lw_all := lw_g (lw_at lw_m3 163 rfl) rfl
theorem q645 : (Jvm.Cond.selects "DayCount" ({ cls := "DayCount", name := "epochDay", desc := "()J" } : Jvm.MethodName) ({ cls := "DayCount", name := "epochDay", desc := "()J" } : Jvm.MethodName)) ∈ lw_all := lw_g (lw_at lw_m3 164 rfl) rfl
theorem q646 : (Jvm.Cond.code ({ cls := "DayCount", name := "epochDay", desc := "()J" } : Jvm.MethodName) prog_6_method_4_code (1 : Nat) (Option.some Jvm.ClassFile.FieldType.long)) ∈ lw_all := lw_g (lw_at lw_m3 165 rfl) rfl
theorem q647 : (Jvm.Cond.methodLink "DayCount" (25 : Nat) ({ cls := "LocalDate", name := "toEpochDay", desc := "()J" } : Jvm.MethodName)) ∈ lw_all := lw_g (lw_at lw_m3 166 rfl) rfl
theorem q668 : (Jvm.Cond.instanceMethod ({ cls := "DayCount", name := "near", desc := "(I)Z" } : Jvm.MethodName)) ∈ lw_all := lw_g (lw_at lw_m3 187 rfl) rfl
theorem q669 : (Jvm.Cond.selects "DayCount" ({ cls := "DayCount", name := "near", desc := "(I)Z" } : Jvm.MethodName) ({ cls := "DayCount", name := "near", desc := "(I)Z" } : Jvm.MethodName)) ∈ lw_all := lw_g (lw_at lw_m3 188 rfl) rfl
theorem q670 : (Jvm.Cond.code ({ cls := "DayCount", name := "near", desc := "(I)Z" } : Jvm.MethodName) prog_6_method_3_code (2 : Nat) (Option.some Jvm.ClassFile.FieldType.boolean)) ∈ lw_all := lw_g (lw_at lw_m3 189 rfl) rfl
theorem in_X1 : ∀ w ∈ wsX10, w ∈ lw_all := lw_in wsX10 [525] (by decide +kernel) (by decide +kernel)

/-! DefaultInterfaceTemporalAccessor -/
set_option maxRecDepth 100000
def RX2 : String := "DefaultInterfaceTemporalAccessor"
abbrev cX2_init : ByteArray := prog_9_method_1_code
def yX2_init : MethodName := ⟨RX2, "<init>", "()V"⟩
theorem dX2_init_0 : decode cX2_init 0 = .ok (.aload_n 0, 1) := by decide +kernel
theorem dX2_init_1 : decode cX2_init 1 = .ok (.invokespecial 1, 3) := by decide +kernel
theorem dX2_init_4 : decode cX2_init 4 = .ok (.return_, 1) := by decide +kernel
theorem q3 : (Jvm.Cond.initialized "DefaultInterfaceTemporalAccessor") ∈ lw_all := lw_g (lw_at lw_m1 2 rfl) rfl
theorem q511 : (Jvm.Cond.instanceMethod ({ cls := "DefaultInterfaceTemporalAccessor", name := "<init>", desc := "()V" } : Jvm.MethodName)) ∈ lw_all := lw_g (lw_at lw_m3 30 rfl) rfl
theorem q512 : (Jvm.Cond.code ({ cls := "DefaultInterfaceTemporalAccessor", name := "<init>", desc := "()V" } : Jvm.MethodName) prog_9_method_1_code (1 : Nat) (Option.none : Option Jvm.ClassFile.FieldType)) ∈ lw_all := lw_g (lw_at lw_m3 31 rfl) rfl
theorem q513 : (Jvm.Cond.methodLink "DefaultInterfaceTemporalAccessor" (1 : Nat) ({ cls := "java/lang/Object", name := "<init>", desc := "()V" } : Jvm.MethodName)) ∈ lw_all := lw_g (lw_at lw_m3 32 rfl) rfl

/-! DefaultInterfaceTemporal -/
set_option maxRecDepth 100000
def RX3 : String := "DefaultInterfaceTemporal"
abbrev cX3_init : ByteArray := prog_8_method_1_code
def yX3_init : MethodName := ⟨RX3, "<init>", "()V"⟩
theorem dX3_init_0 : decode cX3_init 0 = .ok (.aload_n 0, 1) := by decide +kernel
theorem dX3_init_1 : decode cX3_init 1 = .ok (.invokespecial 1, 3) := by decide +kernel
theorem dX3_init_4 : decode cX3_init 4 = .ok (.return_, 1) := by decide +kernel
theorem q4 : (Jvm.Cond.initialized "DefaultInterfaceTemporal") ∈ lw_all := lw_g (lw_at lw_m1 3 rfl) rfl
theorem q508 : (Jvm.Cond.instanceMethod ({ cls := "DefaultInterfaceTemporal", name := "<init>", desc := "()V" } : Jvm.MethodName)) ∈ lw_all := lw_g (lw_at lw_m3 27 rfl) rfl
theorem q509 : (Jvm.Cond.code ({ cls := "DefaultInterfaceTemporal", name := "<init>", desc := "()V" } : Jvm.MethodName) prog_8_method_1_code (1 : Nat) (Option.none : Option Jvm.ClassFile.FieldType)) ∈ lw_all := lw_g (lw_at lw_m3 28 rfl) rfl
theorem q510 : (Jvm.Cond.methodLink "DefaultInterfaceTemporal" (1 : Nat) ({ cls := "DefaultInterfaceTemporalAccessor", name := "<init>", desc := "()V" } : Jvm.MethodName)) ∈ lw_all := lw_g (lw_at lw_m3 29 rfl) rfl

/-! ChronoLocalDate -/
set_option maxRecDepth 100000
def RX4 : String := "ChronoLocalDate"
abbrev cX4_init : ByteArray := prog_2_method_1_code
def yX4_init : MethodName := ⟨RX4, "<init>", "()V"⟩
theorem dX4_init_0 : decode cX4_init 0 = .ok (.aload_n 0, 1) := by decide +kernel
theorem dX4_init_1 : decode cX4_init 1 = .ok (.invokespecial 1, 3) := by decide +kernel
theorem dX4_init_4 : decode cX4_init 4 = .ok (.return_, 1) := by decide +kernel
theorem q5 : (Jvm.Cond.initialized "ChronoLocalDate") ∈ lw_all := lw_g (lw_at lw_m1 4 rfl) rfl
theorem q505 : (Jvm.Cond.instanceMethod ({ cls := "ChronoLocalDate", name := "<init>", desc := "()V" } : Jvm.MethodName)) ∈ lw_all := lw_g (lw_at lw_m3 24 rfl) rfl
theorem q506 : (Jvm.Cond.code ({ cls := "ChronoLocalDate", name := "<init>", desc := "()V" } : Jvm.MethodName) prog_2_method_1_code (1 : Nat) (Option.none : Option Jvm.ClassFile.FieldType)) ∈ lw_all := lw_g (lw_at lw_m3 25 rfl) rfl
theorem q507 : (Jvm.Cond.methodLink "ChronoLocalDate" (1 : Nat) ({ cls := "DefaultInterfaceTemporal", name := "<init>", desc := "()V" } : Jvm.MethodName)) ∈ lw_all := lw_g (lw_at lw_m3 26 rfl) rfl

/-! LocalDate -/
set_option maxRecDepth 100000
def RX5 : String := "LocalDate"
def TX5 : u_T := fun k => match k with
  | 0 => ("LocalDate", "year", "I", true)
  | 1 => ("LocalDate", "month", "S", true)
  | _ => ("LocalDate", "day", "S", true)
def tyX5 : Nat → FieldType := fun k => match k with
  | 0 => .int
  | 1 => .short
  | _ => .short
abbrev wsX50 : List Cond := u_ws RX5 TX5 3
theorem nmX5 : ∀ a, a < 3 → ∀ b, b < 3 → a ≠ b → (TX5 a).2.1 ≠ (TX5 b).2.1 := by decide +kernel
theorem tyX5_ok : ∀ k, k < 3 → parseFieldDescriptor (TX5 k).2.2.1 = some (tyX5 k) := by decide +kernel
abbrev cX5_ofEpochDay : ByteArray := prog_13_method_1_code
def yX5_ofEpochDay : MethodName := ⟨RX5, "ofEpochDay", "(J)LLocalDate;"⟩
def dkwX5_ofEpochDay_10 : List UInt8 := [183, 0, 36, 176]
abbrev dktX5_ofEpochDay_10 : List UInt8 := dkwX5_ofEpochDay_10 ++ []
def dkwX5_ofEpochDay_9 : List UInt8 := [55, 6, 178, 0, 29, 22, 6, 182, 0, 32, 54, 14, 187, 0, 1, 89, 21, 14, 21, 12, 21, 13]
abbrev dktX5_ofEpochDay_9 : List UInt8 := dkwX5_ofEpochDay_9 ++ dktX5_ofEpochDay_10
def dkwX5_ofEpochDay_8 : List UInt8 := [17, 1, 50, 104, 8, 96, 16, 10, 108, 100, 4, 96, 54, 13, 22, 6, 21, 11, 16, 10, 108, 133, 97]
abbrev dktX5_ofEpochDay_8 : List UInt8 := dkwX5_ofEpochDay_8 ++ dktX5_ofEpochDay_9
def dkwX5_ofEpochDay_7 : List UInt8 := [5, 96, 17, 0, 153, 108, 54, 11, 21, 11, 5, 96, 16, 12, 112, 4, 96, 54, 12, 21, 10, 21, 11]
abbrev dktX5_ofEpochDay_7 : List UInt8 := dkwX5_ofEpochDay_7 ++ dktX5_ofEpochDay_8
def dkwX5_ofEpochDay_6 : List UInt8 := [20, 0, 19, 109, 97, 101, 55, 8, 22, 6, 22, 4, 97, 55, 6, 22, 8, 136, 54, 10, 21, 10, 8, 104]
abbrev dktX5_ofEpochDay_6 : List UInt8 := dkwX5_ofEpochDay_6 ++ dktX5_ofEpochDay_7
def dkwX5_ofEpochDay_5 : List UInt8 := [20, 0, 23, 22, 6, 105, 22, 6, 20, 0, 25, 109, 97, 22, 6, 20, 0, 27, 109, 101, 22, 6]
abbrev dktX5_ofEpochDay_5 : List UInt8 := dkwX5_ofEpochDay_5 ++ dktX5_ofEpochDay_6
def dkwX5_ofEpochDay_4 : List UInt8 := [22, 6, 20, 0, 19, 109, 97, 101, 55, 8, 22, 8, 9, 148, 156, 0, 40, 22, 6, 10, 101, 55, 6, 32]
abbrev dktX5_ofEpochDay_4 : List UInt8 := dkwX5_ofEpochDay_4 ++ dktX5_ofEpochDay_5
def dkwX5_ofEpochDay_3 : List UInt8 := [55, 6, 32, 20, 0, 23, 22, 6, 105, 22, 6, 20, 0, 25, 109, 97, 22, 6, 20, 0, 27, 109, 101]
abbrev dktX5_ofEpochDay_3 : List UInt8 := dkwX5_ofEpochDay_3 ++ dktX5_ofEpochDay_4
def dkwX5_ofEpochDay_2 : List UInt8 := [32, 22, 6, 117, 20, 0, 17, 105, 97, 65, 20, 0, 19, 32, 105, 20, 0, 21, 97, 20, 0, 17, 109]
abbrev dktX5_ofEpochDay_2 : List UInt8 := dkwX5_ofEpochDay_2 ++ dktX5_ofEpochDay_3
def dkwX5_ofEpochDay_1 : List UInt8 := [9, 148, 156, 0, 32, 32, 10, 97, 20, 0, 17, 109, 10, 101, 55, 6, 22, 6, 20, 0, 19, 105, 55, 4]
abbrev dktX5_ofEpochDay_1 : List UInt8 := dkwX5_ofEpochDay_1 ++ dktX5_ofEpochDay_2
def dkwX5_ofEpochDay_0 : List UInt8 := [178, 0, 3, 30, 182, 0, 9, 88, 30, 20, 0, 13, 97, 65, 32, 20, 0, 15, 101, 65, 9, 55, 4, 32]
abbrev dktX5_ofEpochDay_0 : List UInt8 := dkwX5_ofEpochDay_0 ++ dktX5_ofEpochDay_1
theorem dksX5_ofEpochDay_0 : cX5_ofEpochDay.data.toList.drop 0 = dktX5_ofEpochDay_0 := by decide +kernel
theorem dksX5_ofEpochDay_1 : cX5_ofEpochDay.data.toList.drop 24 = dktX5_ofEpochDay_1 := dk_seg dksX5_ofEpochDay_0 24 rfl rfl
theorem dksX5_ofEpochDay_2 : cX5_ofEpochDay.data.toList.drop 48 = dktX5_ofEpochDay_2 := dk_seg dksX5_ofEpochDay_1 24 rfl rfl
theorem dksX5_ofEpochDay_3 : cX5_ofEpochDay.data.toList.drop 71 = dktX5_ofEpochDay_3 := dk_seg dksX5_ofEpochDay_2 23 rfl rfl
theorem dksX5_ofEpochDay_4 : cX5_ofEpochDay.data.toList.drop 94 = dktX5_ofEpochDay_4 := dk_seg dksX5_ofEpochDay_3 23 rfl rfl
theorem dksX5_ofEpochDay_5 : cX5_ofEpochDay.data.toList.drop 118 = dktX5_ofEpochDay_5 := dk_seg dksX5_ofEpochDay_4 24 rfl rfl
theorem dksX5_ofEpochDay_6 : cX5_ofEpochDay.data.toList.drop 140 = dktX5_ofEpochDay_6 := dk_seg dksX5_ofEpochDay_5 22 rfl rfl
theorem dksX5_ofEpochDay_7 : cX5_ofEpochDay.data.toList.drop 164 = dktX5_ofEpochDay_7 := dk_seg dksX5_ofEpochDay_6 24 rfl rfl
theorem dksX5_ofEpochDay_8 : cX5_ofEpochDay.data.toList.drop 187 = dktX5_ofEpochDay_8 := dk_seg dksX5_ofEpochDay_7 23 rfl rfl
theorem dksX5_ofEpochDay_9 : cX5_ofEpochDay.data.toList.drop 210 = dktX5_ofEpochDay_9 := dk_seg dksX5_ofEpochDay_8 23 rfl rfl
theorem dksX5_ofEpochDay_10 : cX5_ofEpochDay.data.toList.drop 232 = dktX5_ofEpochDay_10 := dk_seg dksX5_ofEpochDay_9 22 rfl rfl
theorem dX5_ofEpochDay_0 : decode cX5_ofEpochDay 0 = .ok (.getstatic 3, 3) := dk_178 0 3 (dk_at dksX5_ofEpochDay_0 0 rfl rfl)
theorem dX5_ofEpochDay_3 : decode cX5_ofEpochDay 3 = .ok (.lload_n 0, 1) := dk_30 (dk_at dksX5_ofEpochDay_0 3 rfl rfl)
theorem dX5_ofEpochDay_4 : decode cX5_ofEpochDay 4 = .ok (.invokevirtual 9, 3) := dk_182 0 9 (dk_at dksX5_ofEpochDay_0 4 rfl rfl)
theorem dX5_ofEpochDay_7 : decode cX5_ofEpochDay 7 = .ok (.pop2, 1) := dk_88 (dk_at dksX5_ofEpochDay_0 7 rfl rfl)
theorem dX5_ofEpochDay_8 : decode cX5_ofEpochDay 8 = .ok (.lload_n 0, 1) := dk_30 (dk_at dksX5_ofEpochDay_0 8 rfl rfl)
theorem dX5_ofEpochDay_9 : decode cX5_ofEpochDay 9 = .ok (.ldc2_w 13, 3) := dk_20 0 13 (dk_at dksX5_ofEpochDay_0 9 rfl rfl)
theorem dX5_ofEpochDay_12 : decode cX5_ofEpochDay 12 = .ok (.ladd, 1) := dk_97 (dk_at dksX5_ofEpochDay_0 12 rfl rfl)
theorem dX5_ofEpochDay_13 : decode cX5_ofEpochDay 13 = .ok (.lstore_n 2, 1) := dk_65 (dk_at dksX5_ofEpochDay_0 13 rfl rfl)
theorem dX5_ofEpochDay_14 : decode cX5_ofEpochDay 14 = .ok (.lload_n 2, 1) := dk_32 (dk_at dksX5_ofEpochDay_0 14 rfl rfl)
theorem dX5_ofEpochDay_15 : decode cX5_ofEpochDay 15 = .ok (.ldc2_w 15, 3) := dk_20 0 15 (dk_at dksX5_ofEpochDay_0 15 rfl rfl)
theorem dX5_ofEpochDay_18 : decode cX5_ofEpochDay 18 = .ok (.lsub, 1) := dk_101 (dk_at dksX5_ofEpochDay_0 18 rfl rfl)
theorem dX5_ofEpochDay_19 : decode cX5_ofEpochDay 19 = .ok (.lstore_n 2, 1) := dk_65 (dk_at dksX5_ofEpochDay_0 19 rfl rfl)
theorem dX5_ofEpochDay_20 : decode cX5_ofEpochDay 20 = .ok (.lconst 0, 1) := dk_9 (dk_at dksX5_ofEpochDay_0 20 rfl rfl)
theorem dX5_ofEpochDay_21 : decode cX5_ofEpochDay 21 = .ok (.lstore 4, 2) := dk_55 4 (dk_at dksX5_ofEpochDay_0 21 rfl rfl)
theorem dX5_ofEpochDay_23 : decode cX5_ofEpochDay 23 = .ok (.lload_n 2, 1) := dk_32 (dk_at dksX5_ofEpochDay_0 23 rfl rfl)
theorem dX5_ofEpochDay_24 : decode cX5_ofEpochDay 24 = .ok (.lconst 0, 1) := dk_9 (dk_at dksX5_ofEpochDay_1 0 rfl rfl)
theorem dX5_ofEpochDay_25 : decode cX5_ofEpochDay 25 = .ok (.lcmp, 1) := dk_148 (dk_at dksX5_ofEpochDay_1 1 rfl rfl)
theorem dX5_ofEpochDay_26 : decode cX5_ofEpochDay 26 = .ok (.ifCond .ge 32, 3) := dk_156 0 32 (dk_at dksX5_ofEpochDay_1 2 rfl rfl)
theorem dX5_ofEpochDay_29 : decode cX5_ofEpochDay 29 = .ok (.lload_n 2, 1) := dk_32 (dk_at dksX5_ofEpochDay_1 5 rfl rfl)
theorem dX5_ofEpochDay_30 : decode cX5_ofEpochDay 30 = .ok (.lconst 1, 1) := dk_10 (dk_at dksX5_ofEpochDay_1 6 rfl rfl)
theorem dX5_ofEpochDay_31 : decode cX5_ofEpochDay 31 = .ok (.ladd, 1) := dk_97 (dk_at dksX5_ofEpochDay_1 7 rfl rfl)
theorem dX5_ofEpochDay_32 : decode cX5_ofEpochDay 32 = .ok (.ldc2_w 17, 3) := dk_20 0 17 (dk_at dksX5_ofEpochDay_1 8 rfl rfl)
theorem dX5_ofEpochDay_35 : decode cX5_ofEpochDay 35 = .ok (.ldiv, 1) := dk_109 (dk_at dksX5_ofEpochDay_1 11 rfl rfl)
theorem dX5_ofEpochDay_36 : decode cX5_ofEpochDay 36 = .ok (.lconst 1, 1) := dk_10 (dk_at dksX5_ofEpochDay_1 12 rfl rfl)
theorem dX5_ofEpochDay_37 : decode cX5_ofEpochDay 37 = .ok (.lsub, 1) := dk_101 (dk_at dksX5_ofEpochDay_1 13 rfl rfl)
theorem dX5_ofEpochDay_38 : decode cX5_ofEpochDay 38 = .ok (.lstore 6, 2) := dk_55 6 (dk_at dksX5_ofEpochDay_1 14 rfl rfl)
theorem dX5_ofEpochDay_40 : decode cX5_ofEpochDay 40 = .ok (.lload 6, 2) := dk_22 6 (dk_at dksX5_ofEpochDay_1 16 rfl rfl)
theorem dX5_ofEpochDay_42 : decode cX5_ofEpochDay 42 = .ok (.ldc2_w 19, 3) := dk_20 0 19 (dk_at dksX5_ofEpochDay_1 18 rfl rfl)
theorem dX5_ofEpochDay_45 : decode cX5_ofEpochDay 45 = .ok (.lmul, 1) := dk_105 (dk_at dksX5_ofEpochDay_1 21 rfl rfl)
theorem dX5_ofEpochDay_46 : decode cX5_ofEpochDay 46 = .ok (.lstore 4, 2) := dk_55 4 (dk_at dksX5_ofEpochDay_1 22 rfl rfl)
theorem dX5_ofEpochDay_48 : decode cX5_ofEpochDay 48 = .ok (.lload_n 2, 1) := dk_32 (dk_at dksX5_ofEpochDay_2 0 rfl rfl)
theorem dX5_ofEpochDay_49 : decode cX5_ofEpochDay 49 = .ok (.lload 6, 2) := dk_22 6 (dk_at dksX5_ofEpochDay_2 1 rfl rfl)
theorem dX5_ofEpochDay_51 : decode cX5_ofEpochDay 51 = .ok (.lneg, 1) := dk_117 (dk_at dksX5_ofEpochDay_2 3 rfl rfl)
theorem dX5_ofEpochDay_52 : decode cX5_ofEpochDay 52 = .ok (.ldc2_w 17, 3) := dk_20 0 17 (dk_at dksX5_ofEpochDay_2 4 rfl rfl)
theorem dX5_ofEpochDay_55 : decode cX5_ofEpochDay 55 = .ok (.lmul, 1) := dk_105 (dk_at dksX5_ofEpochDay_2 7 rfl rfl)
theorem dX5_ofEpochDay_56 : decode cX5_ofEpochDay 56 = .ok (.ladd, 1) := dk_97 (dk_at dksX5_ofEpochDay_2 8 rfl rfl)
theorem dX5_ofEpochDay_57 : decode cX5_ofEpochDay 57 = .ok (.lstore_n 2, 1) := dk_65 (dk_at dksX5_ofEpochDay_2 9 rfl rfl)
theorem dX5_ofEpochDay_58 : decode cX5_ofEpochDay 58 = .ok (.ldc2_w 19, 3) := dk_20 0 19 (dk_at dksX5_ofEpochDay_2 10 rfl rfl)
theorem dX5_ofEpochDay_61 : decode cX5_ofEpochDay 61 = .ok (.lload_n 2, 1) := dk_32 (dk_at dksX5_ofEpochDay_2 13 rfl rfl)
theorem dX5_ofEpochDay_62 : decode cX5_ofEpochDay 62 = .ok (.lmul, 1) := dk_105 (dk_at dksX5_ofEpochDay_2 14 rfl rfl)
theorem dX5_ofEpochDay_63 : decode cX5_ofEpochDay 63 = .ok (.ldc2_w 21, 3) := dk_20 0 21 (dk_at dksX5_ofEpochDay_2 15 rfl rfl)
theorem dX5_ofEpochDay_66 : decode cX5_ofEpochDay 66 = .ok (.ladd, 1) := dk_97 (dk_at dksX5_ofEpochDay_2 18 rfl rfl)
theorem dX5_ofEpochDay_67 : decode cX5_ofEpochDay 67 = .ok (.ldc2_w 17, 3) := dk_20 0 17 (dk_at dksX5_ofEpochDay_2 19 rfl rfl)
theorem dX5_ofEpochDay_70 : decode cX5_ofEpochDay 70 = .ok (.ldiv, 1) := dk_109 (dk_at dksX5_ofEpochDay_2 22 rfl rfl)
theorem dX5_ofEpochDay_71 : decode cX5_ofEpochDay 71 = .ok (.lstore 6, 2) := dk_55 6 (dk_at dksX5_ofEpochDay_3 0 rfl rfl)
theorem dX5_ofEpochDay_73 : decode cX5_ofEpochDay 73 = .ok (.lload_n 2, 1) := dk_32 (dk_at dksX5_ofEpochDay_3 2 rfl rfl)
theorem dX5_ofEpochDay_74 : decode cX5_ofEpochDay 74 = .ok (.ldc2_w 23, 3) := dk_20 0 23 (dk_at dksX5_ofEpochDay_3 3 rfl rfl)
theorem dX5_ofEpochDay_77 : decode cX5_ofEpochDay 77 = .ok (.lload 6, 2) := dk_22 6 (dk_at dksX5_ofEpochDay_3 6 rfl rfl)
theorem dX5_ofEpochDay_79 : decode cX5_ofEpochDay 79 = .ok (.lmul, 1) := dk_105 (dk_at dksX5_ofEpochDay_3 8 rfl rfl)
theorem dX5_ofEpochDay_80 : decode cX5_ofEpochDay 80 = .ok (.lload 6, 2) := dk_22 6 (dk_at dksX5_ofEpochDay_3 9 rfl rfl)
theorem dX5_ofEpochDay_82 : decode cX5_ofEpochDay 82 = .ok (.ldc2_w 25, 3) := dk_20 0 25 (dk_at dksX5_ofEpochDay_3 11 rfl rfl)
theorem dX5_ofEpochDay_85 : decode cX5_ofEpochDay 85 = .ok (.ldiv, 1) := dk_109 (dk_at dksX5_ofEpochDay_3 14 rfl rfl)
theorem dX5_ofEpochDay_86 : decode cX5_ofEpochDay 86 = .ok (.ladd, 1) := dk_97 (dk_at dksX5_ofEpochDay_3 15 rfl rfl)
theorem dX5_ofEpochDay_87 : decode cX5_ofEpochDay 87 = .ok (.lload 6, 2) := dk_22 6 (dk_at dksX5_ofEpochDay_3 16 rfl rfl)
theorem dX5_ofEpochDay_89 : decode cX5_ofEpochDay 89 = .ok (.ldc2_w 27, 3) := dk_20 0 27 (dk_at dksX5_ofEpochDay_3 18 rfl rfl)
theorem dX5_ofEpochDay_92 : decode cX5_ofEpochDay 92 = .ok (.ldiv, 1) := dk_109 (dk_at dksX5_ofEpochDay_3 21 rfl rfl)
theorem dX5_ofEpochDay_93 : decode cX5_ofEpochDay 93 = .ok (.lsub, 1) := dk_101 (dk_at dksX5_ofEpochDay_3 22 rfl rfl)
theorem dX5_ofEpochDay_94 : decode cX5_ofEpochDay 94 = .ok (.lload 6, 2) := dk_22 6 (dk_at dksX5_ofEpochDay_4 0 rfl rfl)
theorem dX5_ofEpochDay_96 : decode cX5_ofEpochDay 96 = .ok (.ldc2_w 19, 3) := dk_20 0 19 (dk_at dksX5_ofEpochDay_4 2 rfl rfl)
theorem dX5_ofEpochDay_99 : decode cX5_ofEpochDay 99 = .ok (.ldiv, 1) := dk_109 (dk_at dksX5_ofEpochDay_4 5 rfl rfl)
theorem dX5_ofEpochDay_100 : decode cX5_ofEpochDay 100 = .ok (.ladd, 1) := dk_97 (dk_at dksX5_ofEpochDay_4 6 rfl rfl)
theorem dX5_ofEpochDay_101 : decode cX5_ofEpochDay 101 = .ok (.lsub, 1) := dk_101 (dk_at dksX5_ofEpochDay_4 7 rfl rfl)
theorem dX5_ofEpochDay_102 : decode cX5_ofEpochDay 102 = .ok (.lstore 8, 2) := dk_55 8 (dk_at dksX5_ofEpochDay_4 8 rfl rfl)
theorem dX5_ofEpochDay_104 : decode cX5_ofEpochDay 104 = .ok (.lload 8, 2) := dk_22 8 (dk_at dksX5_ofEpochDay_4 10 rfl rfl)
theorem dX5_ofEpochDay_106 : decode cX5_ofEpochDay 106 = .ok (.lconst 0, 1) := dk_9 (dk_at dksX5_ofEpochDay_4 12 rfl rfl)
theorem dX5_ofEpochDay_107 : decode cX5_ofEpochDay 107 = .ok (.lcmp, 1) := dk_148 (dk_at dksX5_ofEpochDay_4 13 rfl rfl)
theorem dX5_ofEpochDay_108 : decode cX5_ofEpochDay 108 = .ok (.ifCond .ge 40, 3) := dk_156 0 40 (dk_at dksX5_ofEpochDay_4 14 rfl rfl)
theorem dX5_ofEpochDay_111 : decode cX5_ofEpochDay 111 = .ok (.lload 6, 2) := dk_22 6 (dk_at dksX5_ofEpochDay_4 17 rfl rfl)
theorem dX5_ofEpochDay_113 : decode cX5_ofEpochDay 113 = .ok (.lconst 1, 1) := dk_10 (dk_at dksX5_ofEpochDay_4 19 rfl rfl)
theorem dX5_ofEpochDay_114 : decode cX5_ofEpochDay 114 = .ok (.lsub, 1) := dk_101 (dk_at dksX5_ofEpochDay_4 20 rfl rfl)
theorem dX5_ofEpochDay_115 : decode cX5_ofEpochDay 115 = .ok (.lstore 6, 2) := dk_55 6 (dk_at dksX5_ofEpochDay_4 21 rfl rfl)
theorem dX5_ofEpochDay_117 : decode cX5_ofEpochDay 117 = .ok (.lload_n 2, 1) := dk_32 (dk_at dksX5_ofEpochDay_4 23 rfl rfl)
theorem dX5_ofEpochDay_118 : decode cX5_ofEpochDay 118 = .ok (.ldc2_w 23, 3) := dk_20 0 23 (dk_at dksX5_ofEpochDay_5 0 rfl rfl)
theorem dX5_ofEpochDay_121 : decode cX5_ofEpochDay 121 = .ok (.lload 6, 2) := dk_22 6 (dk_at dksX5_ofEpochDay_5 3 rfl rfl)
theorem dX5_ofEpochDay_123 : decode cX5_ofEpochDay 123 = .ok (.lmul, 1) := dk_105 (dk_at dksX5_ofEpochDay_5 5 rfl rfl)
theorem dX5_ofEpochDay_124 : decode cX5_ofEpochDay 124 = .ok (.lload 6, 2) := dk_22 6 (dk_at dksX5_ofEpochDay_5 6 rfl rfl)
theorem dX5_ofEpochDay_126 : decode cX5_ofEpochDay 126 = .ok (.ldc2_w 25, 3) := dk_20 0 25 (dk_at dksX5_ofEpochDay_5 8 rfl rfl)
theorem dX5_ofEpochDay_129 : decode cX5_ofEpochDay 129 = .ok (.ldiv, 1) := dk_109 (dk_at dksX5_ofEpochDay_5 11 rfl rfl)
theorem dX5_ofEpochDay_130 : decode cX5_ofEpochDay 130 = .ok (.ladd, 1) := dk_97 (dk_at dksX5_ofEpochDay_5 12 rfl rfl)
theorem dX5_ofEpochDay_131 : decode cX5_ofEpochDay 131 = .ok (.lload 6, 2) := dk_22 6 (dk_at dksX5_ofEpochDay_5 13 rfl rfl)
theorem dX5_ofEpochDay_133 : decode cX5_ofEpochDay 133 = .ok (.ldc2_w 27, 3) := dk_20 0 27 (dk_at dksX5_ofEpochDay_5 15 rfl rfl)
theorem dX5_ofEpochDay_136 : decode cX5_ofEpochDay 136 = .ok (.ldiv, 1) := dk_109 (dk_at dksX5_ofEpochDay_5 18 rfl rfl)
theorem dX5_ofEpochDay_137 : decode cX5_ofEpochDay 137 = .ok (.lsub, 1) := dk_101 (dk_at dksX5_ofEpochDay_5 19 rfl rfl)
theorem dX5_ofEpochDay_138 : decode cX5_ofEpochDay 138 = .ok (.lload 6, 2) := dk_22 6 (dk_at dksX5_ofEpochDay_5 20 rfl rfl)
theorem dX5_ofEpochDay_140 : decode cX5_ofEpochDay 140 = .ok (.ldc2_w 19, 3) := dk_20 0 19 (dk_at dksX5_ofEpochDay_6 0 rfl rfl)
theorem dX5_ofEpochDay_143 : decode cX5_ofEpochDay 143 = .ok (.ldiv, 1) := dk_109 (dk_at dksX5_ofEpochDay_6 3 rfl rfl)
theorem dX5_ofEpochDay_144 : decode cX5_ofEpochDay 144 = .ok (.ladd, 1) := dk_97 (dk_at dksX5_ofEpochDay_6 4 rfl rfl)
theorem dX5_ofEpochDay_145 : decode cX5_ofEpochDay 145 = .ok (.lsub, 1) := dk_101 (dk_at dksX5_ofEpochDay_6 5 rfl rfl)
theorem dX5_ofEpochDay_146 : decode cX5_ofEpochDay 146 = .ok (.lstore 8, 2) := dk_55 8 (dk_at dksX5_ofEpochDay_6 6 rfl rfl)
theorem dX5_ofEpochDay_148 : decode cX5_ofEpochDay 148 = .ok (.lload 6, 2) := dk_22 6 (dk_at dksX5_ofEpochDay_6 8 rfl rfl)
theorem dX5_ofEpochDay_150 : decode cX5_ofEpochDay 150 = .ok (.lload 4, 2) := dk_22 4 (dk_at dksX5_ofEpochDay_6 10 rfl rfl)
theorem dX5_ofEpochDay_152 : decode cX5_ofEpochDay 152 = .ok (.ladd, 1) := dk_97 (dk_at dksX5_ofEpochDay_6 12 rfl rfl)
theorem dX5_ofEpochDay_153 : decode cX5_ofEpochDay 153 = .ok (.lstore 6, 2) := dk_55 6 (dk_at dksX5_ofEpochDay_6 13 rfl rfl)
theorem dX5_ofEpochDay_155 : decode cX5_ofEpochDay 155 = .ok (.lload 8, 2) := dk_22 8 (dk_at dksX5_ofEpochDay_6 15 rfl rfl)
theorem dX5_ofEpochDay_157 : decode cX5_ofEpochDay 157 = .ok (.l2i, 1) := dk_136 (dk_at dksX5_ofEpochDay_6 17 rfl rfl)
theorem dX5_ofEpochDay_158 : decode cX5_ofEpochDay 158 = .ok (.istore 10, 2) := dk_54 10 (dk_at dksX5_ofEpochDay_6 18 rfl rfl)
theorem dX5_ofEpochDay_160 : decode cX5_ofEpochDay 160 = .ok (.iload 10, 2) := dk_21 10 (dk_at dksX5_ofEpochDay_6 20 rfl rfl)
theorem dX5_ofEpochDay_162 : decode cX5_ofEpochDay 162 = .ok (.iconst 5, 1) := dk_8 (dk_at dksX5_ofEpochDay_6 22 rfl rfl)
theorem dX5_ofEpochDay_163 : decode cX5_ofEpochDay 163 = .ok (.imul, 1) := dk_104 (dk_at dksX5_ofEpochDay_6 23 rfl rfl)
theorem dX5_ofEpochDay_164 : decode cX5_ofEpochDay 164 = .ok (.iconst 2, 1) := dk_5 (dk_at dksX5_ofEpochDay_7 0 rfl rfl)
theorem dX5_ofEpochDay_165 : decode cX5_ofEpochDay 165 = .ok (.iadd, 1) := dk_96 (dk_at dksX5_ofEpochDay_7 1 rfl rfl)
theorem dX5_ofEpochDay_166 : decode cX5_ofEpochDay 166 = .ok (.sipush 153, 3) := dk_17 0 153 (dk_at dksX5_ofEpochDay_7 2 rfl rfl)
theorem dX5_ofEpochDay_169 : decode cX5_ofEpochDay 169 = .ok (.idiv, 1) := dk_108 (dk_at dksX5_ofEpochDay_7 5 rfl rfl)
theorem dX5_ofEpochDay_170 : decode cX5_ofEpochDay 170 = .ok (.istore 11, 2) := dk_54 11 (dk_at dksX5_ofEpochDay_7 6 rfl rfl)
theorem dX5_ofEpochDay_172 : decode cX5_ofEpochDay 172 = .ok (.iload 11, 2) := dk_21 11 (dk_at dksX5_ofEpochDay_7 8 rfl rfl)
theorem dX5_ofEpochDay_174 : decode cX5_ofEpochDay 174 = .ok (.iconst 2, 1) := dk_5 (dk_at dksX5_ofEpochDay_7 10 rfl rfl)
theorem dX5_ofEpochDay_175 : decode cX5_ofEpochDay 175 = .ok (.iadd, 1) := dk_96 (dk_at dksX5_ofEpochDay_7 11 rfl rfl)
theorem dX5_ofEpochDay_176 : decode cX5_ofEpochDay 176 = .ok (.bipush 12, 2) := dk_16 12 (dk_at dksX5_ofEpochDay_7 12 rfl rfl)
theorem dX5_ofEpochDay_178 : decode cX5_ofEpochDay 178 = .ok (.irem, 1) := dk_112 (dk_at dksX5_ofEpochDay_7 14 rfl rfl)
theorem dX5_ofEpochDay_179 : decode cX5_ofEpochDay 179 = .ok (.iconst 1, 1) := dk_4 (dk_at dksX5_ofEpochDay_7 15 rfl rfl)
theorem dX5_ofEpochDay_180 : decode cX5_ofEpochDay 180 = .ok (.iadd, 1) := dk_96 (dk_at dksX5_ofEpochDay_7 16 rfl rfl)
theorem dX5_ofEpochDay_181 : decode cX5_ofEpochDay 181 = .ok (.istore 12, 2) := dk_54 12 (dk_at dksX5_ofEpochDay_7 17 rfl rfl)
theorem dX5_ofEpochDay_183 : decode cX5_ofEpochDay 183 = .ok (.iload 10, 2) := dk_21 10 (dk_at dksX5_ofEpochDay_7 19 rfl rfl)
theorem dX5_ofEpochDay_185 : decode cX5_ofEpochDay 185 = .ok (.iload 11, 2) := dk_21 11 (dk_at dksX5_ofEpochDay_7 21 rfl rfl)
theorem dX5_ofEpochDay_187 : decode cX5_ofEpochDay 187 = .ok (.sipush 306, 3) := dk_17 1 50 (dk_at dksX5_ofEpochDay_8 0 rfl rfl)
theorem dX5_ofEpochDay_190 : decode cX5_ofEpochDay 190 = .ok (.imul, 1) := dk_104 (dk_at dksX5_ofEpochDay_8 3 rfl rfl)
theorem dX5_ofEpochDay_191 : decode cX5_ofEpochDay 191 = .ok (.iconst 5, 1) := dk_8 (dk_at dksX5_ofEpochDay_8 4 rfl rfl)
theorem dX5_ofEpochDay_192 : decode cX5_ofEpochDay 192 = .ok (.iadd, 1) := dk_96 (dk_at dksX5_ofEpochDay_8 5 rfl rfl)
theorem dX5_ofEpochDay_193 : decode cX5_ofEpochDay 193 = .ok (.bipush 10, 2) := dk_16 10 (dk_at dksX5_ofEpochDay_8 6 rfl rfl)
theorem dX5_ofEpochDay_195 : decode cX5_ofEpochDay 195 = .ok (.idiv, 1) := dk_108 (dk_at dksX5_ofEpochDay_8 8 rfl rfl)
theorem dX5_ofEpochDay_196 : decode cX5_ofEpochDay 196 = .ok (.isub, 1) := dk_100 (dk_at dksX5_ofEpochDay_8 9 rfl rfl)
theorem dX5_ofEpochDay_197 : decode cX5_ofEpochDay 197 = .ok (.iconst 1, 1) := dk_4 (dk_at dksX5_ofEpochDay_8 10 rfl rfl)
theorem dX5_ofEpochDay_198 : decode cX5_ofEpochDay 198 = .ok (.iadd, 1) := dk_96 (dk_at dksX5_ofEpochDay_8 11 rfl rfl)
theorem dX5_ofEpochDay_199 : decode cX5_ofEpochDay 199 = .ok (.istore 13, 2) := dk_54 13 (dk_at dksX5_ofEpochDay_8 12 rfl rfl)
theorem dX5_ofEpochDay_201 : decode cX5_ofEpochDay 201 = .ok (.lload 6, 2) := dk_22 6 (dk_at dksX5_ofEpochDay_8 14 rfl rfl)
theorem dX5_ofEpochDay_203 : decode cX5_ofEpochDay 203 = .ok (.iload 11, 2) := dk_21 11 (dk_at dksX5_ofEpochDay_8 16 rfl rfl)
theorem dX5_ofEpochDay_205 : decode cX5_ofEpochDay 205 = .ok (.bipush 10, 2) := dk_16 10 (dk_at dksX5_ofEpochDay_8 18 rfl rfl)
theorem dX5_ofEpochDay_207 : decode cX5_ofEpochDay 207 = .ok (.idiv, 1) := dk_108 (dk_at dksX5_ofEpochDay_8 20 rfl rfl)
theorem dX5_ofEpochDay_208 : decode cX5_ofEpochDay 208 = .ok (.i2l, 1) := dk_133 (dk_at dksX5_ofEpochDay_8 21 rfl rfl)
theorem dX5_ofEpochDay_209 : decode cX5_ofEpochDay 209 = .ok (.ladd, 1) := dk_97 (dk_at dksX5_ofEpochDay_8 22 rfl rfl)
theorem dX5_ofEpochDay_210 : decode cX5_ofEpochDay 210 = .ok (.lstore 6, 2) := dk_55 6 (dk_at dksX5_ofEpochDay_9 0 rfl rfl)
theorem dX5_ofEpochDay_212 : decode cX5_ofEpochDay 212 = .ok (.getstatic 29, 3) := dk_178 0 29 (dk_at dksX5_ofEpochDay_9 2 rfl rfl)
theorem dX5_ofEpochDay_215 : decode cX5_ofEpochDay 215 = .ok (.lload 6, 2) := dk_22 6 (dk_at dksX5_ofEpochDay_9 5 rfl rfl)
theorem dX5_ofEpochDay_217 : decode cX5_ofEpochDay 217 = .ok (.invokevirtual 32, 3) := dk_182 0 32 (dk_at dksX5_ofEpochDay_9 7 rfl rfl)
theorem dX5_ofEpochDay_220 : decode cX5_ofEpochDay 220 = .ok (.istore 14, 2) := dk_54 14 (dk_at dksX5_ofEpochDay_9 10 rfl rfl)
theorem dX5_ofEpochDay_222 : decode cX5_ofEpochDay 222 = .ok (.new 1, 3) := dk_187 0 1 (dk_at dksX5_ofEpochDay_9 12 rfl rfl)
theorem dX5_ofEpochDay_225 : decode cX5_ofEpochDay 225 = .ok (.dup, 1) := dk_89 (dk_at dksX5_ofEpochDay_9 15 rfl rfl)
theorem dX5_ofEpochDay_226 : decode cX5_ofEpochDay 226 = .ok (.iload 14, 2) := dk_21 14 (dk_at dksX5_ofEpochDay_9 16 rfl rfl)
theorem dX5_ofEpochDay_228 : decode cX5_ofEpochDay 228 = .ok (.iload 12, 2) := dk_21 12 (dk_at dksX5_ofEpochDay_9 18 rfl rfl)
theorem dX5_ofEpochDay_230 : decode cX5_ofEpochDay 230 = .ok (.iload 13, 2) := dk_21 13 (dk_at dksX5_ofEpochDay_9 20 rfl rfl)
theorem dX5_ofEpochDay_232 : decode cX5_ofEpochDay 232 = .ok (.invokespecial 36, 3) := dk_183 0 36 (dk_at dksX5_ofEpochDay_10 0 rfl rfl)
theorem dX5_ofEpochDay_235 : decode cX5_ofEpochDay 235 = .ok (.areturn, 1) := dk_176 (dk_at dksX5_ofEpochDay_10 3 rfl rfl)
abbrev cX5_init : ByteArray := prog_13_method_2_code
def yX5_init : MethodName := ⟨RX5, "<init>", "(III)V"⟩
def dkwX5_init_0 : List UInt8 := [42, 183, 0, 40, 42, 27, 181, 0, 45, 42, 28, 147, 181, 0, 49, 42, 29, 147, 181, 0, 53, 177]
abbrev dktX5_init_0 : List UInt8 := dkwX5_init_0 ++ []
theorem dksX5_init_0 : cX5_init.data.toList.drop 0 = dktX5_init_0 := by decide +kernel
theorem dX5_init_0 : decode cX5_init 0 = .ok (.aload_n 0, 1) := dk_42 (dk_at dksX5_init_0 0 rfl rfl)
theorem dX5_init_1 : decode cX5_init 1 = .ok (.invokespecial 40, 3) := dk_183 0 40 (dk_at dksX5_init_0 1 rfl rfl)
theorem dX5_init_4 : decode cX5_init 4 = .ok (.aload_n 0, 1) := dk_42 (dk_at dksX5_init_0 4 rfl rfl)
theorem dX5_init_5 : decode cX5_init 5 = .ok (.iload_n 1, 1) := dk_27 (dk_at dksX5_init_0 5 rfl rfl)
theorem dX5_init_6 : decode cX5_init 6 = .ok (.putfield 45, 3) := dk_181 0 45 (dk_at dksX5_init_0 6 rfl rfl)
theorem dX5_init_9 : decode cX5_init 9 = .ok (.aload_n 0, 1) := dk_42 (dk_at dksX5_init_0 9 rfl rfl)
theorem dX5_init_10 : decode cX5_init 10 = .ok (.iload_n 2, 1) := dk_28 (dk_at dksX5_init_0 10 rfl rfl)
theorem dX5_init_11 : decode cX5_init 11 = .ok (.i2s, 1) := dk_147 (dk_at dksX5_init_0 11 rfl rfl)
theorem dX5_init_12 : decode cX5_init 12 = .ok (.putfield 49, 3) := dk_181 0 49 (dk_at dksX5_init_0 12 rfl rfl)
theorem dX5_init_15 : decode cX5_init 15 = .ok (.aload_n 0, 1) := dk_42 (dk_at dksX5_init_0 15 rfl rfl)
theorem dX5_init_16 : decode cX5_init 16 = .ok (.iload_n 3, 1) := dk_29 (dk_at dksX5_init_0 16 rfl rfl)
theorem dX5_init_17 : decode cX5_init 17 = .ok (.i2s, 1) := dk_147 (dk_at dksX5_init_0 17 rfl rfl)
theorem dX5_init_18 : decode cX5_init 18 = .ok (.putfield 53, 3) := dk_181 0 53 (dk_at dksX5_init_0 18 rfl rfl)
theorem dX5_init_21 : decode cX5_init 21 = .ok (.return_, 1) := dk_177 (dk_at dksX5_init_0 21 rfl rfl)
abbrev cX5_getYear : ByteArray := prog_13_method_3_code
def yX5_getYear : MethodName := ⟨RX5, "getYear", "()I"⟩
theorem dX5_getYear_0 : decode cX5_getYear 0 = .ok (.aload_n 0, 1) := by decide +kernel
theorem dX5_getYear_1 : decode cX5_getYear 1 = .ok (.getfield 45, 3) := by decide +kernel
theorem dX5_getYear_4 : decode cX5_getYear 4 = .ok (.ireturn, 1) := by decide +kernel
abbrev cX5_getMonthValue : ByteArray := prog_13_method_4_code
def yX5_getMonthValue : MethodName := ⟨RX5, "getMonthValue", "()I"⟩
theorem dX5_getMonthValue_0 : decode cX5_getMonthValue 0 = .ok (.aload_n 0, 1) := by decide +kernel
theorem dX5_getMonthValue_1 : decode cX5_getMonthValue 1 = .ok (.getfield 49, 3) := by decide +kernel
theorem dX5_getMonthValue_4 : decode cX5_getMonthValue 4 = .ok (.ireturn, 1) := by decide +kernel
abbrev cX5_getDayOfMonth : ByteArray := prog_13_method_6_code
def yX5_getDayOfMonth : MethodName := ⟨RX5, "getDayOfMonth", "()I"⟩
theorem dX5_getDayOfMonth_0 : decode cX5_getDayOfMonth 0 = .ok (.aload_n 0, 1) := by decide +kernel
theorem dX5_getDayOfMonth_1 : decode cX5_getDayOfMonth 1 = .ok (.getfield 53, 3) := by decide +kernel
theorem dX5_getDayOfMonth_4 : decode cX5_getDayOfMonth 4 = .ok (.ireturn, 1) := by decide +kernel
abbrev cX5_getDayOfYear : ByteArray := prog_13_method_7_code
def yX5_getDayOfYear : MethodName := ⟨RX5, "getDayOfYear", "()I"⟩
def dkwX5_getDayOfYear_0 : List UInt8 := [42, 182, 0, 62, 42, 182, 0, 66, 182, 0, 70, 42, 180, 0, 53, 96, 4, 100, 172]
abbrev dktX5_getDayOfYear_0 : List UInt8 := dkwX5_getDayOfYear_0 ++ []
theorem dksX5_getDayOfYear_0 : cX5_getDayOfYear.data.toList.drop 0 = dktX5_getDayOfYear_0 := by decide +kernel
theorem dX5_getDayOfYear_0 : decode cX5_getDayOfYear 0 = .ok (.aload_n 0, 1) := dk_42 (dk_at dksX5_getDayOfYear_0 0 rfl rfl)
theorem dX5_getDayOfYear_1 : decode cX5_getDayOfYear 1 = .ok (.invokevirtual 62, 3) := dk_182 0 62 (dk_at dksX5_getDayOfYear_0 1 rfl rfl)
theorem dX5_getDayOfYear_4 : decode cX5_getDayOfYear 4 = .ok (.aload_n 0, 1) := dk_42 (dk_at dksX5_getDayOfYear_0 4 rfl rfl)
theorem dX5_getDayOfYear_5 : decode cX5_getDayOfYear 5 = .ok (.invokevirtual 66, 3) := dk_182 0 66 (dk_at dksX5_getDayOfYear_0 5 rfl rfl)
theorem dX5_getDayOfYear_8 : decode cX5_getDayOfYear 8 = .ok (.invokevirtual 70, 3) := dk_182 0 70 (dk_at dksX5_getDayOfYear_0 8 rfl rfl)
theorem dX5_getDayOfYear_11 : decode cX5_getDayOfYear 11 = .ok (.aload_n 0, 1) := dk_42 (dk_at dksX5_getDayOfYear_0 11 rfl rfl)
theorem dX5_getDayOfYear_12 : decode cX5_getDayOfYear 12 = .ok (.getfield 53, 3) := dk_180 0 53 (dk_at dksX5_getDayOfYear_0 12 rfl rfl)
theorem dX5_getDayOfYear_15 : decode cX5_getDayOfYear 15 = .ok (.iadd, 1) := dk_96 (dk_at dksX5_getDayOfYear_0 15 rfl rfl)
theorem dX5_getDayOfYear_16 : decode cX5_getDayOfYear 16 = .ok (.iconst 1, 1) := dk_4 (dk_at dksX5_getDayOfYear_0 16 rfl rfl)
theorem dX5_getDayOfYear_17 : decode cX5_getDayOfYear 17 = .ok (.isub, 1) := dk_100 (dk_at dksX5_getDayOfYear_0 17 rfl rfl)
theorem dX5_getDayOfYear_18 : decode cX5_getDayOfYear 18 = .ok (.ireturn, 1) := dk_172 (dk_at dksX5_getDayOfYear_0 18 rfl rfl)
abbrev cX5_getMonth : ByteArray := prog_13_method_5_code
def yX5_getMonth : MethodName := ⟨RX5, "getMonth", "()LMonth;"⟩
def dkwX5_getMonth_0 : List UInt8 := [42, 180, 0, 49, 184, 0, 56, 176]
abbrev dktX5_getMonth_0 : List UInt8 := dkwX5_getMonth_0 ++ []
theorem dksX5_getMonth_0 : cX5_getMonth.data.toList.drop 0 = dktX5_getMonth_0 := by decide +kernel
theorem dX5_getMonth_0 : decode cX5_getMonth 0 = .ok (.aload_n 0, 1) := dk_42 (dk_at dksX5_getMonth_0 0 rfl rfl)
theorem dX5_getMonth_1 : decode cX5_getMonth 1 = .ok (.getfield 49, 3) := dk_180 0 49 (dk_at dksX5_getMonth_0 1 rfl rfl)
theorem dX5_getMonth_4 : decode cX5_getMonth 4 = .ok (.invokestatic 56, 3) := dk_184 0 56 (dk_at dksX5_getMonth_0 4 rfl rfl)
theorem dX5_getMonth_7 : decode cX5_getMonth 7 = .ok (.areturn, 1) := dk_176 (dk_at dksX5_getMonth_0 7 rfl rfl)
abbrev cX5_isLeapYear : ByteArray := prog_13_method_8_code
def yX5_isLeapYear : MethodName := ⟨RX5, "isLeapYear", "()Z"⟩
def dkwX5_isLeapYear_0 : List UInt8 := [178, 0, 74, 42, 180, 0, 45, 133, 182, 0, 80, 172]
abbrev dktX5_isLeapYear_0 : List UInt8 := dkwX5_isLeapYear_0 ++ []
theorem dksX5_isLeapYear_0 : cX5_isLeapYear.data.toList.drop 0 = dktX5_isLeapYear_0 := by decide +kernel
theorem dX5_isLeapYear_0 : decode cX5_isLeapYear 0 = .ok (.getstatic 74, 3) := dk_178 0 74 (dk_at dksX5_isLeapYear_0 0 rfl rfl)
theorem dX5_isLeapYear_3 : decode cX5_isLeapYear 3 = .ok (.aload_n 0, 1) := dk_42 (dk_at dksX5_isLeapYear_0 3 rfl rfl)
theorem dX5_isLeapYear_4 : decode cX5_isLeapYear 4 = .ok (.getfield 45, 3) := dk_180 0 45 (dk_at dksX5_isLeapYear_0 4 rfl rfl)
theorem dX5_isLeapYear_7 : decode cX5_isLeapYear 7 = .ok (.i2l, 1) := dk_133 (dk_at dksX5_isLeapYear_0 7 rfl rfl)
theorem dX5_isLeapYear_8 : decode cX5_isLeapYear 8 = .ok (.invokevirtual 80, 3) := dk_182 0 80 (dk_at dksX5_isLeapYear_0 8 rfl rfl)
theorem dX5_isLeapYear_11 : decode cX5_isLeapYear 11 = .ok (.ireturn, 1) := dk_172 (dk_at dksX5_isLeapYear_0 11 rfl rfl)
abbrev cX5_lengthOfMonth : ByteArray := prog_13_method_9_code
def yX5_lengthOfMonth : MethodName := ⟨RX5, "lengthOfMonth", "()I"⟩
def dkwX5_lengthOfMonth_2 : List UInt8 := [42, 182, 0, 66, 153, 0, 8, 16, 29, 167, 0, 5, 16, 28, 172, 16, 30, 172, 16, 31, 172]
abbrev dktX5_lengthOfMonth_2 : List UInt8 := dkwX5_lengthOfMonth_2 ++ []
def dkwX5_lengthOfMonth_1 : List UInt8 := [170, 0, 0, 0, 0, 0, 0, 74, 0, 0, 0, 2, 0, 0, 0, 11, 0, 0, 0, 56, 0, 0, 0, 74, 0, 0, 0, 71, 0, 0, 0, 74, 0, 0, 0, 71, 0, 0, 0, 74, 0, 0, 0, 74, 0, 0, 0, 71, 0, 0, 0, 74, 0, 0, 0, 71]
abbrev dktX5_lengthOfMonth_1 : List UInt8 := dkwX5_lengthOfMonth_1 ++ dktX5_lengthOfMonth_2
def dkwX5_lengthOfMonth_0 : List UInt8 := [42, 180, 0, 49]
abbrev dktX5_lengthOfMonth_0 : List UInt8 := dkwX5_lengthOfMonth_0 ++ dktX5_lengthOfMonth_1
theorem dksX5_lengthOfMonth_0 : cX5_lengthOfMonth.data.toList.drop 0 = dktX5_lengthOfMonth_0 := by decide +kernel
theorem dksX5_lengthOfMonth_1 : cX5_lengthOfMonth.data.toList.drop 4 = dktX5_lengthOfMonth_1 := dk_seg dksX5_lengthOfMonth_0 4 rfl rfl
theorem dksX5_lengthOfMonth_2 : cX5_lengthOfMonth.data.toList.drop 60 = dktX5_lengthOfMonth_2 := dk_seg dksX5_lengthOfMonth_1 56 rfl rfl
theorem dX5_lengthOfMonth_0 : decode cX5_lengthOfMonth 0 = .ok (.aload_n 0, 1) := dk_42 (dk_at dksX5_lengthOfMonth_0 0 rfl rfl)
theorem dX5_lengthOfMonth_1 : decode cX5_lengthOfMonth 1 = .ok (.getfield 49, 3) := dk_180 0 49 (dk_at dksX5_lengthOfMonth_0 1 rfl rfl)
theorem dX5_lengthOfMonth_4 : decode cX5_lengthOfMonth 4 = .ok (.tableswitch 74 2 11 #[56, 74, 71, 74, 71, 74, 74, 71, 74, 71], 56) := by decide +kernel
theorem dX5_lengthOfMonth_60 : decode cX5_lengthOfMonth 60 = .ok (.aload_n 0, 1) := dk_42 (dk_at dksX5_lengthOfMonth_2 0 rfl rfl)
theorem dX5_lengthOfMonth_61 : decode cX5_lengthOfMonth 61 = .ok (.invokevirtual 66, 3) := dk_182 0 66 (dk_at dksX5_lengthOfMonth_2 1 rfl rfl)
theorem dX5_lengthOfMonth_64 : decode cX5_lengthOfMonth 64 = .ok (.ifCond .eq 8, 3) := dk_153 0 8 (dk_at dksX5_lengthOfMonth_2 4 rfl rfl)
theorem dX5_lengthOfMonth_67 : decode cX5_lengthOfMonth 67 = .ok (.bipush 29, 2) := dk_16 29 (dk_at dksX5_lengthOfMonth_2 7 rfl rfl)
theorem dX5_lengthOfMonth_69 : decode cX5_lengthOfMonth 69 = .ok (.goto 5, 3) := dk_167 0 5 (dk_at dksX5_lengthOfMonth_2 9 rfl rfl)
theorem dX5_lengthOfMonth_72 : decode cX5_lengthOfMonth 72 = .ok (.bipush 28, 2) := dk_16 28 (dk_at dksX5_lengthOfMonth_2 12 rfl rfl)
theorem dX5_lengthOfMonth_74 : decode cX5_lengthOfMonth 74 = .ok (.ireturn, 1) := dk_172 (dk_at dksX5_lengthOfMonth_2 14 rfl rfl)
theorem dX5_lengthOfMonth_75 : decode cX5_lengthOfMonth 75 = .ok (.bipush 30, 2) := dk_16 30 (dk_at dksX5_lengthOfMonth_2 15 rfl rfl)
theorem dX5_lengthOfMonth_77 : decode cX5_lengthOfMonth 77 = .ok (.ireturn, 1) := dk_172 (dk_at dksX5_lengthOfMonth_2 17 rfl rfl)
theorem dX5_lengthOfMonth_78 : decode cX5_lengthOfMonth 78 = .ok (.bipush 31, 2) := dk_16 31 (dk_at dksX5_lengthOfMonth_2 18 rfl rfl)
theorem dX5_lengthOfMonth_80 : decode cX5_lengthOfMonth 80 = .ok (.ireturn, 1) := dk_172 (dk_at dksX5_lengthOfMonth_2 20 rfl rfl)
abbrev cX5_toEpochDay : ByteArray := prog_13_method_10_code
def yX5_toEpochDay : MethodName := ⟨RX5, "toEpochDay", "()J"⟩
def dkwX5_toEpochDay_6 : List UInt8 := [22, 5, 10, 101, 55, 5, 22, 5, 20, 0, 13, 101, 173]
abbrev dktX5_toEpochDay_6 : List UInt8 := dkwX5_toEpochDay_6 ++ []
def dkwX5_toEpochDay_5 : List UInt8 := [55, 5, 33, 20, 0, 101, 148, 158, 0, 22, 22, 5, 10, 101, 55, 5, 42, 182, 0, 66, 154, 0, 9]
abbrev dktX5_toEpochDay_5 : List UInt8 := dkwX5_toEpochDay_5 ++ dktX5_toEpochDay_6
def dkwX5_toEpochDay_4 : List UInt8 := [33, 105, 20, 0, 97, 101, 20, 0, 99, 109, 97, 55, 5, 22, 5, 42, 180, 0, 53, 4, 100, 133, 97]
abbrev dktX5_toEpochDay_4 : List UInt8 := dkwX5_toEpochDay_4 ++ dktX5_toEpochDay_5
def dkwX5_toEpochDay_3 : List UInt8 := [20, 0, 89, 109, 31, 20, 0, 91, 109, 101, 31, 20, 0, 93, 109, 97, 101, 55, 5, 22, 5, 20, 0, 95]
abbrev dktX5_toEpochDay_3 : List UInt8 := dkwX5_toEpochDay_3 ++ dktX5_toEpochDay_4
def dkwX5_toEpochDay_2 : List UInt8 := [20, 0, 27, 109, 101, 31, 20, 0, 87, 97, 20, 0, 19, 109, 97, 97, 55, 5, 167, 0, 25, 22, 5, 31]
abbrev dktX5_toEpochDay_2 : List UInt8 := dkwX5_toEpochDay_2 ++ dktX5_toEpochDay_3
def dkwX5_toEpochDay_1 : List UInt8 := [55, 5, 31, 9, 148, 155, 0, 40, 22, 5, 31, 20, 0, 83, 97, 20, 0, 25, 109, 31, 20, 0, 85, 97]
abbrev dktX5_toEpochDay_1 : List UInt8 := dkwX5_toEpochDay_1 ++ dktX5_toEpochDay_2
def dkwX5_toEpochDay_0 : List UInt8 := [42, 180, 0, 45, 133, 64, 42, 180, 0, 49, 133, 66, 9, 55, 5, 22, 5, 20, 0, 23, 31, 105, 97]
abbrev dktX5_toEpochDay_0 : List UInt8 := dkwX5_toEpochDay_0 ++ dktX5_toEpochDay_1
theorem dksX5_toEpochDay_0 : cX5_toEpochDay.data.toList.drop 0 = dktX5_toEpochDay_0 := by decide +kernel
theorem dksX5_toEpochDay_1 : cX5_toEpochDay.data.toList.drop 23 = dktX5_toEpochDay_1 := dk_seg dksX5_toEpochDay_0 23 rfl rfl
theorem dksX5_toEpochDay_2 : cX5_toEpochDay.data.toList.drop 47 = dktX5_toEpochDay_2 := dk_seg dksX5_toEpochDay_1 24 rfl rfl
theorem dksX5_toEpochDay_3 : cX5_toEpochDay.data.toList.drop 71 = dktX5_toEpochDay_3 := dk_seg dksX5_toEpochDay_2 24 rfl rfl
theorem dksX5_toEpochDay_4 : cX5_toEpochDay.data.toList.drop 95 = dktX5_toEpochDay_4 := dk_seg dksX5_toEpochDay_3 24 rfl rfl
theorem dksX5_toEpochDay_5 : cX5_toEpochDay.data.toList.drop 118 = dktX5_toEpochDay_5 := dk_seg dksX5_toEpochDay_4 23 rfl rfl
theorem dksX5_toEpochDay_6 : cX5_toEpochDay.data.toList.drop 141 = dktX5_toEpochDay_6 := dk_seg dksX5_toEpochDay_5 23 rfl rfl
theorem dX5_toEpochDay_0 : decode cX5_toEpochDay 0 = .ok (.aload_n 0, 1) := dk_42 (dk_at dksX5_toEpochDay_0 0 rfl rfl)
theorem dX5_toEpochDay_1 : decode cX5_toEpochDay 1 = .ok (.getfield 45, 3) := dk_180 0 45 (dk_at dksX5_toEpochDay_0 1 rfl rfl)
theorem dX5_toEpochDay_4 : decode cX5_toEpochDay 4 = .ok (.i2l, 1) := dk_133 (dk_at dksX5_toEpochDay_0 4 rfl rfl)
theorem dX5_toEpochDay_5 : decode cX5_toEpochDay 5 = .ok (.lstore_n 1, 1) := dk_64 (dk_at dksX5_toEpochDay_0 5 rfl rfl)
theorem dX5_toEpochDay_6 : decode cX5_toEpochDay 6 = .ok (.aload_n 0, 1) := dk_42 (dk_at dksX5_toEpochDay_0 6 rfl rfl)
theorem dX5_toEpochDay_7 : decode cX5_toEpochDay 7 = .ok (.getfield 49, 3) := dk_180 0 49 (dk_at dksX5_toEpochDay_0 7 rfl rfl)
theorem dX5_toEpochDay_10 : decode cX5_toEpochDay 10 = .ok (.i2l, 1) := dk_133 (dk_at dksX5_toEpochDay_0 10 rfl rfl)
theorem dX5_toEpochDay_11 : decode cX5_toEpochDay 11 = .ok (.lstore_n 3, 1) := dk_66 (dk_at dksX5_toEpochDay_0 11 rfl rfl)
theorem dX5_toEpochDay_12 : decode cX5_toEpochDay 12 = .ok (.lconst 0, 1) := dk_9 (dk_at dksX5_toEpochDay_0 12 rfl rfl)
theorem dX5_toEpochDay_13 : decode cX5_toEpochDay 13 = .ok (.lstore 5, 2) := dk_55 5 (dk_at dksX5_toEpochDay_0 13 rfl rfl)
theorem dX5_toEpochDay_15 : decode cX5_toEpochDay 15 = .ok (.lload 5, 2) := dk_22 5 (dk_at dksX5_toEpochDay_0 15 rfl rfl)
theorem dX5_toEpochDay_17 : decode cX5_toEpochDay 17 = .ok (.ldc2_w 23, 3) := dk_20 0 23 (dk_at dksX5_toEpochDay_0 17 rfl rfl)
theorem dX5_toEpochDay_20 : decode cX5_toEpochDay 20 = .ok (.lload_n 1, 1) := dk_31 (dk_at dksX5_toEpochDay_0 20 rfl rfl)
theorem dX5_toEpochDay_21 : decode cX5_toEpochDay 21 = .ok (.lmul, 1) := dk_105 (dk_at dksX5_toEpochDay_0 21 rfl rfl)
theorem dX5_toEpochDay_22 : decode cX5_toEpochDay 22 = .ok (.ladd, 1) := dk_97 (dk_at dksX5_toEpochDay_0 22 rfl rfl)
theorem dX5_toEpochDay_23 : decode cX5_toEpochDay 23 = .ok (.lstore 5, 2) := dk_55 5 (dk_at dksX5_toEpochDay_1 0 rfl rfl)
theorem dX5_toEpochDay_25 : decode cX5_toEpochDay 25 = .ok (.lload_n 1, 1) := dk_31 (dk_at dksX5_toEpochDay_1 2 rfl rfl)
theorem dX5_toEpochDay_26 : decode cX5_toEpochDay 26 = .ok (.lconst 0, 1) := dk_9 (dk_at dksX5_toEpochDay_1 3 rfl rfl)
theorem dX5_toEpochDay_27 : decode cX5_toEpochDay 27 = .ok (.lcmp, 1) := dk_148 (dk_at dksX5_toEpochDay_1 4 rfl rfl)
theorem dX5_toEpochDay_28 : decode cX5_toEpochDay 28 = .ok (.ifCond .lt 40, 3) := dk_155 0 40 (dk_at dksX5_toEpochDay_1 5 rfl rfl)
theorem dX5_toEpochDay_31 : decode cX5_toEpochDay 31 = .ok (.lload 5, 2) := dk_22 5 (dk_at dksX5_toEpochDay_1 8 rfl rfl)
theorem dX5_toEpochDay_33 : decode cX5_toEpochDay 33 = .ok (.lload_n 1, 1) := dk_31 (dk_at dksX5_toEpochDay_1 10 rfl rfl)
theorem dX5_toEpochDay_34 : decode cX5_toEpochDay 34 = .ok (.ldc2_w 83, 3) := dk_20 0 83 (dk_at dksX5_toEpochDay_1 11 rfl rfl)
theorem dX5_toEpochDay_37 : decode cX5_toEpochDay 37 = .ok (.ladd, 1) := dk_97 (dk_at dksX5_toEpochDay_1 14 rfl rfl)
theorem dX5_toEpochDay_38 : decode cX5_toEpochDay 38 = .ok (.ldc2_w 25, 3) := dk_20 0 25 (dk_at dksX5_toEpochDay_1 15 rfl rfl)
theorem dX5_toEpochDay_41 : decode cX5_toEpochDay 41 = .ok (.ldiv, 1) := dk_109 (dk_at dksX5_toEpochDay_1 18 rfl rfl)
theorem dX5_toEpochDay_42 : decode cX5_toEpochDay 42 = .ok (.lload_n 1, 1) := dk_31 (dk_at dksX5_toEpochDay_1 19 rfl rfl)
theorem dX5_toEpochDay_43 : decode cX5_toEpochDay 43 = .ok (.ldc2_w 85, 3) := dk_20 0 85 (dk_at dksX5_toEpochDay_1 20 rfl rfl)
theorem dX5_toEpochDay_46 : decode cX5_toEpochDay 46 = .ok (.ladd, 1) := dk_97 (dk_at dksX5_toEpochDay_1 23 rfl rfl)
theorem dX5_toEpochDay_47 : decode cX5_toEpochDay 47 = .ok (.ldc2_w 27, 3) := dk_20 0 27 (dk_at dksX5_toEpochDay_2 0 rfl rfl)
theorem dX5_toEpochDay_50 : decode cX5_toEpochDay 50 = .ok (.ldiv, 1) := dk_109 (dk_at dksX5_toEpochDay_2 3 rfl rfl)
theorem dX5_toEpochDay_51 : decode cX5_toEpochDay 51 = .ok (.lsub, 1) := dk_101 (dk_at dksX5_toEpochDay_2 4 rfl rfl)
theorem dX5_toEpochDay_52 : decode cX5_toEpochDay 52 = .ok (.lload_n 1, 1) := dk_31 (dk_at dksX5_toEpochDay_2 5 rfl rfl)
theorem dX5_toEpochDay_53 : decode cX5_toEpochDay 53 = .ok (.ldc2_w 87, 3) := dk_20 0 87 (dk_at dksX5_toEpochDay_2 6 rfl rfl)
theorem dX5_toEpochDay_56 : decode cX5_toEpochDay 56 = .ok (.ladd, 1) := dk_97 (dk_at dksX5_toEpochDay_2 9 rfl rfl)
theorem dX5_toEpochDay_57 : decode cX5_toEpochDay 57 = .ok (.ldc2_w 19, 3) := dk_20 0 19 (dk_at dksX5_toEpochDay_2 10 rfl rfl)
theorem dX5_toEpochDay_60 : decode cX5_toEpochDay 60 = .ok (.ldiv, 1) := dk_109 (dk_at dksX5_toEpochDay_2 13 rfl rfl)
theorem dX5_toEpochDay_61 : decode cX5_toEpochDay 61 = .ok (.ladd, 1) := dk_97 (dk_at dksX5_toEpochDay_2 14 rfl rfl)
theorem dX5_toEpochDay_62 : decode cX5_toEpochDay 62 = .ok (.ladd, 1) := dk_97 (dk_at dksX5_toEpochDay_2 15 rfl rfl)
theorem dX5_toEpochDay_63 : decode cX5_toEpochDay 63 = .ok (.lstore 5, 2) := dk_55 5 (dk_at dksX5_toEpochDay_2 16 rfl rfl)
theorem dX5_toEpochDay_65 : decode cX5_toEpochDay 65 = .ok (.goto 25, 3) := dk_167 0 25 (dk_at dksX5_toEpochDay_2 18 rfl rfl)
theorem dX5_toEpochDay_68 : decode cX5_toEpochDay 68 = .ok (.lload 5, 2) := dk_22 5 (dk_at dksX5_toEpochDay_2 21 rfl rfl)
theorem dX5_toEpochDay_70 : decode cX5_toEpochDay 70 = .ok (.lload_n 1, 1) := dk_31 (dk_at dksX5_toEpochDay_2 23 rfl rfl)
theorem dX5_toEpochDay_71 : decode cX5_toEpochDay 71 = .ok (.ldc2_w 89, 3) := dk_20 0 89 (dk_at dksX5_toEpochDay_3 0 rfl rfl)
theorem dX5_toEpochDay_74 : decode cX5_toEpochDay 74 = .ok (.ldiv, 1) := dk_109 (dk_at dksX5_toEpochDay_3 3 rfl rfl)
theorem dX5_toEpochDay_75 : decode cX5_toEpochDay 75 = .ok (.lload_n 1, 1) := dk_31 (dk_at dksX5_toEpochDay_3 4 rfl rfl)
theorem dX5_toEpochDay_76 : decode cX5_toEpochDay 76 = .ok (.ldc2_w 91, 3) := dk_20 0 91 (dk_at dksX5_toEpochDay_3 5 rfl rfl)
theorem dX5_toEpochDay_79 : decode cX5_toEpochDay 79 = .ok (.ldiv, 1) := dk_109 (dk_at dksX5_toEpochDay_3 8 rfl rfl)
theorem dX5_toEpochDay_80 : decode cX5_toEpochDay 80 = .ok (.lsub, 1) := dk_101 (dk_at dksX5_toEpochDay_3 9 rfl rfl)
theorem dX5_toEpochDay_81 : decode cX5_toEpochDay 81 = .ok (.lload_n 1, 1) := dk_31 (dk_at dksX5_toEpochDay_3 10 rfl rfl)
theorem dX5_toEpochDay_82 : decode cX5_toEpochDay 82 = .ok (.ldc2_w 93, 3) := dk_20 0 93 (dk_at dksX5_toEpochDay_3 11 rfl rfl)
theorem dX5_toEpochDay_85 : decode cX5_toEpochDay 85 = .ok (.ldiv, 1) := dk_109 (dk_at dksX5_toEpochDay_3 14 rfl rfl)
theorem dX5_toEpochDay_86 : decode cX5_toEpochDay 86 = .ok (.ladd, 1) := dk_97 (dk_at dksX5_toEpochDay_3 15 rfl rfl)
theorem dX5_toEpochDay_87 : decode cX5_toEpochDay 87 = .ok (.lsub, 1) := dk_101 (dk_at dksX5_toEpochDay_3 16 rfl rfl)
theorem dX5_toEpochDay_88 : decode cX5_toEpochDay 88 = .ok (.lstore 5, 2) := dk_55 5 (dk_at dksX5_toEpochDay_3 17 rfl rfl)
theorem dX5_toEpochDay_90 : decode cX5_toEpochDay 90 = .ok (.lload 5, 2) := dk_22 5 (dk_at dksX5_toEpochDay_3 19 rfl rfl)
theorem dX5_toEpochDay_92 : decode cX5_toEpochDay 92 = .ok (.ldc2_w 95, 3) := dk_20 0 95 (dk_at dksX5_toEpochDay_3 21 rfl rfl)
theorem dX5_toEpochDay_95 : decode cX5_toEpochDay 95 = .ok (.lload_n 3, 1) := dk_33 (dk_at dksX5_toEpochDay_4 0 rfl rfl)
theorem dX5_toEpochDay_96 : decode cX5_toEpochDay 96 = .ok (.lmul, 1) := dk_105 (dk_at dksX5_toEpochDay_4 1 rfl rfl)
theorem dX5_toEpochDay_97 : decode cX5_toEpochDay 97 = .ok (.ldc2_w 97, 3) := dk_20 0 97 (dk_at dksX5_toEpochDay_4 2 rfl rfl)
theorem dX5_toEpochDay_100 : decode cX5_toEpochDay 100 = .ok (.lsub, 1) := dk_101 (dk_at dksX5_toEpochDay_4 5 rfl rfl)
theorem dX5_toEpochDay_101 : decode cX5_toEpochDay 101 = .ok (.ldc2_w 99, 3) := dk_20 0 99 (dk_at dksX5_toEpochDay_4 6 rfl rfl)
theorem dX5_toEpochDay_104 : decode cX5_toEpochDay 104 = .ok (.ldiv, 1) := dk_109 (dk_at dksX5_toEpochDay_4 9 rfl rfl)
theorem dX5_toEpochDay_105 : decode cX5_toEpochDay 105 = .ok (.ladd, 1) := dk_97 (dk_at dksX5_toEpochDay_4 10 rfl rfl)
theorem dX5_toEpochDay_106 : decode cX5_toEpochDay 106 = .ok (.lstore 5, 2) := dk_55 5 (dk_at dksX5_toEpochDay_4 11 rfl rfl)
theorem dX5_toEpochDay_108 : decode cX5_toEpochDay 108 = .ok (.lload 5, 2) := dk_22 5 (dk_at dksX5_toEpochDay_4 13 rfl rfl)
theorem dX5_toEpochDay_110 : decode cX5_toEpochDay 110 = .ok (.aload_n 0, 1) := dk_42 (dk_at dksX5_toEpochDay_4 15 rfl rfl)
theorem dX5_toEpochDay_111 : decode cX5_toEpochDay 111 = .ok (.getfield 53, 3) := dk_180 0 53 (dk_at dksX5_toEpochDay_4 16 rfl rfl)
theorem dX5_toEpochDay_114 : decode cX5_toEpochDay 114 = .ok (.iconst 1, 1) := dk_4 (dk_at dksX5_toEpochDay_4 19 rfl rfl)
theorem dX5_toEpochDay_115 : decode cX5_toEpochDay 115 = .ok (.isub, 1) := dk_100 (dk_at dksX5_toEpochDay_4 20 rfl rfl)
theorem dX5_toEpochDay_116 : decode cX5_toEpochDay 116 = .ok (.i2l, 1) := dk_133 (dk_at dksX5_toEpochDay_4 21 rfl rfl)
theorem dX5_toEpochDay_117 : decode cX5_toEpochDay 117 = .ok (.ladd, 1) := dk_97 (dk_at dksX5_toEpochDay_4 22 rfl rfl)
theorem dX5_toEpochDay_118 : decode cX5_toEpochDay 118 = .ok (.lstore 5, 2) := dk_55 5 (dk_at dksX5_toEpochDay_5 0 rfl rfl)
theorem dX5_toEpochDay_120 : decode cX5_toEpochDay 120 = .ok (.lload_n 3, 1) := dk_33 (dk_at dksX5_toEpochDay_5 2 rfl rfl)
theorem dX5_toEpochDay_121 : decode cX5_toEpochDay 121 = .ok (.ldc2_w 101, 3) := dk_20 0 101 (dk_at dksX5_toEpochDay_5 3 rfl rfl)
theorem dX5_toEpochDay_124 : decode cX5_toEpochDay 124 = .ok (.lcmp, 1) := dk_148 (dk_at dksX5_toEpochDay_5 6 rfl rfl)
theorem dX5_toEpochDay_125 : decode cX5_toEpochDay 125 = .ok (.ifCond .le 22, 3) := dk_158 0 22 (dk_at dksX5_toEpochDay_5 7 rfl rfl)
theorem dX5_toEpochDay_128 : decode cX5_toEpochDay 128 = .ok (.lload 5, 2) := dk_22 5 (dk_at dksX5_toEpochDay_5 10 rfl rfl)
theorem dX5_toEpochDay_130 : decode cX5_toEpochDay 130 = .ok (.lconst 1, 1) := dk_10 (dk_at dksX5_toEpochDay_5 12 rfl rfl)
theorem dX5_toEpochDay_131 : decode cX5_toEpochDay 131 = .ok (.lsub, 1) := dk_101 (dk_at dksX5_toEpochDay_5 13 rfl rfl)
theorem dX5_toEpochDay_132 : decode cX5_toEpochDay 132 = .ok (.lstore 5, 2) := dk_55 5 (dk_at dksX5_toEpochDay_5 14 rfl rfl)
theorem dX5_toEpochDay_134 : decode cX5_toEpochDay 134 = .ok (.aload_n 0, 1) := dk_42 (dk_at dksX5_toEpochDay_5 16 rfl rfl)
theorem dX5_toEpochDay_135 : decode cX5_toEpochDay 135 = .ok (.invokevirtual 66, 3) := dk_182 0 66 (dk_at dksX5_toEpochDay_5 17 rfl rfl)
theorem dX5_toEpochDay_138 : decode cX5_toEpochDay 138 = .ok (.ifCond .ne 9, 3) := dk_154 0 9 (dk_at dksX5_toEpochDay_5 20 rfl rfl)
theorem dX5_toEpochDay_141 : decode cX5_toEpochDay 141 = .ok (.lload 5, 2) := dk_22 5 (dk_at dksX5_toEpochDay_6 0 rfl rfl)
theorem dX5_toEpochDay_143 : decode cX5_toEpochDay 143 = .ok (.lconst 1, 1) := dk_10 (dk_at dksX5_toEpochDay_6 2 rfl rfl)
theorem dX5_toEpochDay_144 : decode cX5_toEpochDay 144 = .ok (.lsub, 1) := dk_101 (dk_at dksX5_toEpochDay_6 3 rfl rfl)
theorem dX5_toEpochDay_145 : decode cX5_toEpochDay 145 = .ok (.lstore 5, 2) := dk_55 5 (dk_at dksX5_toEpochDay_6 4 rfl rfl)
theorem dX5_toEpochDay_147 : decode cX5_toEpochDay 147 = .ok (.lload 5, 2) := dk_22 5 (dk_at dksX5_toEpochDay_6 6 rfl rfl)
theorem dX5_toEpochDay_149 : decode cX5_toEpochDay 149 = .ok (.ldc2_w 13, 3) := dk_20 0 13 (dk_at dksX5_toEpochDay_6 8 rfl rfl)
theorem dX5_toEpochDay_152 : decode cX5_toEpochDay 152 = .ok (.lsub, 1) := dk_101 (dk_at dksX5_toEpochDay_6 11 rfl rfl)
theorem dX5_toEpochDay_153 : decode cX5_toEpochDay 153 = .ok (.lreturn, 1) := dk_173 (dk_at dksX5_toEpochDay_6 12 rfl rfl)
theorem q6 : (Jvm.Cond.initialized "LocalDate") ∈ lw_all := lw_g (lw_at lw_m1 5 rfl) rfl
theorem q47 : (Jvm.Cond.static ({ cls := "LocalDate", name := "ofEpochDay", desc := "(J)LLocalDate;" } : Jvm.MethodName)) ∈ lw_all := lw_g (lw_at lw_m1 46 rfl) rfl
theorem q48 : (Jvm.Cond.code ({ cls := "LocalDate", name := "ofEpochDay", desc := "(J)LLocalDate;" } : Jvm.MethodName) prog_13_method_1_code (15 : Nat) (Option.some (Jvm.ClassFile.FieldType.object "LocalDate"))) ∈ lw_all := lw_g (lw_at lw_m1 47 rfl) rfl
theorem q49 : (Jvm.Cond.fieldLink "LocalDate" (3 : Nat) "ChronoField" "EPOCH_DAY" "LChronoField;") ∈ lw_all := lw_g (lw_at lw_m1 48 rfl) rfl
theorem q51 : (Jvm.Cond.methodLink "LocalDate" (9 : Nat) ({ cls := "ChronoField", name := "checkValidValue", desc := "(J)J" } : Jvm.MethodName)) ∈ lw_all := lw_g (lw_at lw_m1 50 rfl) rfl
theorem q292 : (Jvm.Cond.selects "LocalDate" ({ cls := "java/lang/Object", name := "getClass", desc := "()Ljava/lang/Class;" } : Jvm.MethodName) ({ cls := "java/lang/Object", name := "getClass", desc := "()Ljava/lang/Class;" } : Jvm.MethodName)) ∈ lw_all := lw_g (lw_at lw_m2 51 rfl) rfl
theorem q376 : (Jvm.Cond.selects "LocalDate" ({ cls := "java/lang/Object", name := "toString", desc := "()Ljava/lang/String;" } : Jvm.MethodName) ({ cls := "java/lang/Object", name := "toString", desc := "()Ljava/lang/String;" } : Jvm.MethodName)) ∈ lw_all := lw_g (lw_at lw_m2 135 rfl) rfl
theorem q469 : (Jvm.Cond.constantLong "LocalDate" (13 : Nat) (719528 : Int64)) ∈ lw_all := lw_g (lw_at lw_m2 228 rfl) rfl
theorem q470 : (Jvm.Cond.constantLong "LocalDate" (15 : Nat) (60 : Int64)) ∈ lw_all := lw_g (lw_at lw_m2 229 rfl) rfl
theorem q471 : (Jvm.Cond.constantLong "LocalDate" (17 : Nat) (146097 : Int64)) ∈ lw_all := lw_g (lw_at lw_m2 230 rfl) rfl
theorem q472 : (Jvm.Cond.constantLong "LocalDate" (19 : Nat) (400 : Int64)) ∈ lw_all := lw_g (lw_at lw_m2 231 rfl) rfl
theorem q473 : (Jvm.Cond.constantLong "LocalDate" (21 : Nat) (591 : Int64)) ∈ lw_all := lw_g (lw_at lw_m2 232 rfl) rfl
theorem q474 : (Jvm.Cond.constantLong "LocalDate" (23 : Nat) (365 : Int64)) ∈ lw_all := lw_g (lw_at lw_m2 233 rfl) rfl
theorem q475 : (Jvm.Cond.constantLong "LocalDate" (25 : Nat) (4 : Int64)) ∈ lw_all := lw_g (lw_at lw_m2 234 rfl) rfl
theorem q476 : (Jvm.Cond.constantLong "LocalDate" (27 : Nat) (100 : Int64)) ∈ lw_all := lw_g (lw_at lw_m2 235 rfl) rfl
theorem q477 : (Jvm.Cond.fieldLink "LocalDate" (29 : Nat) "ChronoField" "YEAR" "LChronoField;") ∈ lw_all := lw_g (lw_at lw_m2 236 rfl) rfl
theorem q479 : (Jvm.Cond.methodLink "LocalDate" (32 : Nat) ({ cls := "ChronoField", name := "checkValidIntValue", desc := "(J)I" } : Jvm.MethodName)) ∈ lw_all := lw_g (lw_at lw_m2 238 rfl) rfl
theorem q499 : (Jvm.Cond.classLink "LocalDate" (1 : Nat) "LocalDate") ∈ lw_all := lw_g (lw_at lw_m3 18 rfl) rfl
theorem q500 : (Jvm.Cond.instantiable "LocalDate" (3 : Nat)) ∈ lw_all := lw_g (lw_at lw_m3 19 rfl) rfl
theorem q501 : (Jvm.Cond.methodLink "LocalDate" (36 : Nat) ({ cls := "LocalDate", name := "<init>", desc := "(III)V" } : Jvm.MethodName)) ∈ lw_all := lw_g (lw_at lw_m3 20 rfl) rfl
theorem q502 : (Jvm.Cond.instanceMethod ({ cls := "LocalDate", name := "<init>", desc := "(III)V" } : Jvm.MethodName)) ∈ lw_all := lw_g (lw_at lw_m3 21 rfl) rfl
theorem q503 : (Jvm.Cond.code ({ cls := "LocalDate", name := "<init>", desc := "(III)V" } : Jvm.MethodName) prog_13_method_2_code (4 : Nat) (Option.none : Option Jvm.ClassFile.FieldType)) ∈ lw_all := lw_g (lw_at lw_m3 22 rfl) rfl
theorem q504 : (Jvm.Cond.methodLink "LocalDate" (40 : Nat) ({ cls := "ChronoLocalDate", name := "<init>", desc := "()V" } : Jvm.MethodName)) ∈ lw_all := lw_g (lw_at lw_m3 23 rfl) rfl
theorem q514 : (Jvm.Cond.fieldLink "LocalDate" (45 : Nat) "LocalDate" "year" "I") ∈ lw_all := lw_g (lw_at lw_m3 33 rfl) rfl
theorem q515 : (Jvm.Cond.fieldLink "LocalDate" (49 : Nat) "LocalDate" "month" "S") ∈ lw_all := lw_g (lw_at lw_m3 34 rfl) rfl
theorem q516 : (Jvm.Cond.fieldLink "LocalDate" (53 : Nat) "LocalDate" "day" "S") ∈ lw_all := lw_g (lw_at lw_m3 35 rfl) rfl
theorem q517 : (Jvm.Cond.laysFinal "LocalDate" "LocalDate" "year" "I") ∈ lw_all := lw_g (lw_at lw_m3 36 rfl) rfl
theorem q518 : (Jvm.Cond.soleField "LocalDate" "year") ∈ lw_all := lw_g (lw_at lw_m3 37 rfl) rfl
theorem q519 : (Jvm.Cond.laysFinal "LocalDate" "LocalDate" "month" "S") ∈ lw_all := lw_g (lw_at lw_m3 38 rfl) rfl
theorem q520 : (Jvm.Cond.soleField "LocalDate" "month") ∈ lw_all := lw_g (lw_at lw_m3 39 rfl) rfl
theorem q521 : (Jvm.Cond.laysFinal "LocalDate" "LocalDate" "day" "S") ∈ lw_all := lw_g (lw_at lw_m3 40 rfl) rfl
theorem q522 : (Jvm.Cond.soleField "LocalDate" "day") ∈ lw_all := lw_g (lw_at lw_m3 41 rfl) rfl
theorem q523 : (Jvm.Cond.superclass "LocalDate" "ChronoLocalDate") ∈ lw_all := lw_g (lw_at lw_m3 42 rfl) rfl
theorem q540 : (Jvm.Cond.instanceMethod ({ cls := "LocalDate", name := "getYear", desc := "()I" } : Jvm.MethodName)) ∈ lw_all := lw_g (lw_at lw_m3 59 rfl) rfl
theorem q541 : (Jvm.Cond.selects "LocalDate" ({ cls := "LocalDate", name := "getYear", desc := "()I" } : Jvm.MethodName) ({ cls := "LocalDate", name := "getYear", desc := "()I" } : Jvm.MethodName)) ∈ lw_all := lw_g (lw_at lw_m3 60 rfl) rfl
theorem q542 : (Jvm.Cond.code ({ cls := "LocalDate", name := "getYear", desc := "()I" } : Jvm.MethodName) prog_13_method_3_code (1 : Nat) (Option.some Jvm.ClassFile.FieldType.int)) ∈ lw_all := lw_g (lw_at lw_m3 61 rfl) rfl
theorem q548 : (Jvm.Cond.instanceMethod ({ cls := "LocalDate", name := "getMonthValue", desc := "()I" } : Jvm.MethodName)) ∈ lw_all := lw_g (lw_at lw_m3 67 rfl) rfl
theorem q549 : (Jvm.Cond.selects "LocalDate" ({ cls := "LocalDate", name := "getMonthValue", desc := "()I" } : Jvm.MethodName) ({ cls := "LocalDate", name := "getMonthValue", desc := "()I" } : Jvm.MethodName)) ∈ lw_all := lw_g (lw_at lw_m3 68 rfl) rfl
theorem q550 : (Jvm.Cond.code ({ cls := "LocalDate", name := "getMonthValue", desc := "()I" } : Jvm.MethodName) prog_13_method_4_code (1 : Nat) (Option.some Jvm.ClassFile.FieldType.int)) ∈ lw_all := lw_g (lw_at lw_m3 69 rfl) rfl
theorem q556 : (Jvm.Cond.instanceMethod ({ cls := "LocalDate", name := "getDayOfMonth", desc := "()I" } : Jvm.MethodName)) ∈ lw_all := lw_g (lw_at lw_m3 75 rfl) rfl
theorem q557 : (Jvm.Cond.selects "LocalDate" ({ cls := "LocalDate", name := "getDayOfMonth", desc := "()I" } : Jvm.MethodName) ({ cls := "LocalDate", name := "getDayOfMonth", desc := "()I" } : Jvm.MethodName)) ∈ lw_all := lw_g (lw_at lw_m3 76 rfl) rfl
theorem q558 : (Jvm.Cond.code ({ cls := "LocalDate", name := "getDayOfMonth", desc := "()I" } : Jvm.MethodName) prog_13_method_6_code (1 : Nat) (Option.some Jvm.ClassFile.FieldType.int)) ∈ lw_all := lw_g (lw_at lw_m3 77 rfl) rfl
theorem q564 : (Jvm.Cond.instanceMethod ({ cls := "LocalDate", name := "getDayOfYear", desc := "()I" } : Jvm.MethodName)) ∈ lw_all := lw_g (lw_at lw_m3 83 rfl) rfl
theorem q565 : (Jvm.Cond.selects "LocalDate" ({ cls := "LocalDate", name := "getDayOfYear", desc := "()I" } : Jvm.MethodName) ({ cls := "LocalDate", name := "getDayOfYear", desc := "()I" } : Jvm.MethodName)) ∈ lw_all := lw_g (lw_at lw_m3 84 rfl) rfl
theorem q566 : (Jvm.Cond.code ({ cls := "LocalDate", name := "getDayOfYear", desc := "()I" } : Jvm.MethodName) prog_13_method_7_code (1 : Nat) (Option.some Jvm.ClassFile.FieldType.int)) ∈ lw_all := lw_g (lw_at lw_m3 85 rfl) rfl
theorem q567 : (Jvm.Cond.methodLink "LocalDate" (62 : Nat) ({ cls := "LocalDate", name := "getMonth", desc := "()LMonth;" } : Jvm.MethodName)) ∈ lw_all := lw_g (lw_at lw_m3 86 rfl) rfl
theorem q568 : (Jvm.Cond.instanceMethod ({ cls := "LocalDate", name := "getMonth", desc := "()LMonth;" } : Jvm.MethodName)) ∈ lw_all := lw_g (lw_at lw_m3 87 rfl) rfl
theorem q569 : (Jvm.Cond.selects "LocalDate" ({ cls := "LocalDate", name := "getMonth", desc := "()LMonth;" } : Jvm.MethodName) ({ cls := "LocalDate", name := "getMonth", desc := "()LMonth;" } : Jvm.MethodName)) ∈ lw_all := lw_g (lw_at lw_m3 88 rfl) rfl
theorem q570 : (Jvm.Cond.code ({ cls := "LocalDate", name := "getMonth", desc := "()LMonth;" } : Jvm.MethodName) prog_13_method_5_code (1 : Nat) (Option.some (Jvm.ClassFile.FieldType.object "Month"))) ∈ lw_all := lw_g (lw_at lw_m3 89 rfl) rfl
theorem q571 : (Jvm.Cond.methodLink "LocalDate" (56 : Nat) ({ cls := "Month", name := "of", desc := "(I)LMonth;" } : Jvm.MethodName)) ∈ lw_all := lw_g (lw_at lw_m3 90 rfl) rfl
theorem q604 : (Jvm.Cond.methodLink "LocalDate" (66 : Nat) ({ cls := "LocalDate", name := "isLeapYear", desc := "()Z" } : Jvm.MethodName)) ∈ lw_all := lw_g (lw_at lw_m3 123 rfl) rfl
theorem q605 : (Jvm.Cond.instanceMethod ({ cls := "LocalDate", name := "isLeapYear", desc := "()Z" } : Jvm.MethodName)) ∈ lw_all := lw_g (lw_at lw_m3 124 rfl) rfl
theorem q606 : (Jvm.Cond.selects "LocalDate" ({ cls := "LocalDate", name := "isLeapYear", desc := "()Z" } : Jvm.MethodName) ({ cls := "LocalDate", name := "isLeapYear", desc := "()Z" } : Jvm.MethodName)) ∈ lw_all := lw_g (lw_at lw_m3 125 rfl) rfl
theorem q607 : (Jvm.Cond.code ({ cls := "LocalDate", name := "isLeapYear", desc := "()Z" } : Jvm.MethodName) prog_13_method_8_code (1 : Nat) (Option.some Jvm.ClassFile.FieldType.boolean)) ∈ lw_all := lw_g (lw_at lw_m3 126 rfl) rfl
theorem q608 : (Jvm.Cond.fieldLink "LocalDate" (74 : Nat) "IsoChronology" "INSTANCE" "LIsoChronology;") ∈ lw_all := lw_g (lw_at lw_m3 127 rfl) rfl
theorem q610 : (Jvm.Cond.methodLink "LocalDate" (80 : Nat) ({ cls := "IsoChronology", name := "isLeapYear", desc := "(J)Z" } : Jvm.MethodName)) ∈ lw_all := lw_g (lw_at lw_m3 129 rfl) rfl
theorem q617 : (Jvm.Cond.methodLink "LocalDate" (70 : Nat) ({ cls := "Month", name := "firstDayOfYear", desc := "(Z)I" } : Jvm.MethodName)) ∈ lw_all := lw_g (lw_at lw_m3 136 rfl) rfl
theorem q637 : (Jvm.Cond.instanceMethod ({ cls := "LocalDate", name := "lengthOfMonth", desc := "()I" } : Jvm.MethodName)) ∈ lw_all := lw_g (lw_at lw_m3 156 rfl) rfl
theorem q638 : (Jvm.Cond.selects "LocalDate" ({ cls := "LocalDate", name := "lengthOfMonth", desc := "()I" } : Jvm.MethodName) ({ cls := "LocalDate", name := "lengthOfMonth", desc := "()I" } : Jvm.MethodName)) ∈ lw_all := lw_g (lw_at lw_m3 157 rfl) rfl
theorem q639 : (Jvm.Cond.code ({ cls := "LocalDate", name := "lengthOfMonth", desc := "()I" } : Jvm.MethodName) prog_13_method_9_code (1 : Nat) (Option.some Jvm.ClassFile.FieldType.int)) ∈ lw_all := lw_g (lw_at lw_m3 158 rfl) rfl
theorem q648 : (Jvm.Cond.instanceMethod ({ cls := "LocalDate", name := "toEpochDay", desc := "()J" } : Jvm.MethodName)) ∈ lw_all := lw_g (lw_at lw_m3 167 rfl) rfl
theorem q649 : (Jvm.Cond.selects "LocalDate" ({ cls := "LocalDate", name := "toEpochDay", desc := "()J" } : Jvm.MethodName) ({ cls := "LocalDate", name := "toEpochDay", desc := "()J" } : Jvm.MethodName)) ∈ lw_all := lw_g (lw_at lw_m3 168 rfl) rfl
theorem q650 : (Jvm.Cond.code ({ cls := "LocalDate", name := "toEpochDay", desc := "()J" } : Jvm.MethodName) prog_13_method_10_code (7 : Nat) (Option.some Jvm.ClassFile.FieldType.long)) ∈ lw_all := lw_g (lw_at lw_m3 169 rfl) rfl
theorem q651 : (Jvm.Cond.constantLong "LocalDate" (83 : Nat) (3 : Int64)) ∈ lw_all := lw_g (lw_at lw_m3 170 rfl) rfl
theorem q652 : (Jvm.Cond.constantLong "LocalDate" (85 : Nat) (99 : Int64)) ∈ lw_all := lw_g (lw_at lw_m3 171 rfl) rfl
theorem q653 : (Jvm.Cond.constantLong "LocalDate" (87 : Nat) (399 : Int64)) ∈ lw_all := lw_g (lw_at lw_m3 172 rfl) rfl
theorem q654 : (Jvm.Cond.constantLong "LocalDate" (89 : Nat) (-4 : Int64)) ∈ lw_all := lw_g (lw_at lw_m3 173 rfl) rfl
theorem q655 : (Jvm.Cond.constantLong "LocalDate" (91 : Nat) (-100 : Int64)) ∈ lw_all := lw_g (lw_at lw_m3 174 rfl) rfl
theorem q656 : (Jvm.Cond.constantLong "LocalDate" (93 : Nat) (-400 : Int64)) ∈ lw_all := lw_g (lw_at lw_m3 175 rfl) rfl
theorem q657 : (Jvm.Cond.constantLong "LocalDate" (95 : Nat) (367 : Int64)) ∈ lw_all := lw_g (lw_at lw_m3 176 rfl) rfl
theorem q658 : (Jvm.Cond.constantLong "LocalDate" (97 : Nat) (362 : Int64)) ∈ lw_all := lw_g (lw_at lw_m3 177 rfl) rfl
theorem q659 : (Jvm.Cond.constantLong "LocalDate" (99 : Nat) (12 : Int64)) ∈ lw_all := lw_g (lw_at lw_m3 178 rfl) rfl
theorem q660 : (Jvm.Cond.constantLong "LocalDate" (101 : Nat) (2 : Int64)) ∈ lw_all := lw_g (lw_at lw_m3 179 rfl) rfl
theorem in_X5 : ∀ w ∈ wsX50, w ∈ lw_all := lw_in wsX50 [517, 519, 521] (by decide +kernel) (by decide +kernel)

/-! ChronoField -/
set_option maxRecDepth 100000
def RX6 : String := "ChronoField"
abbrev cX6_checkValidValue : ByteArray := prog_1_method_5_code
def yX6_checkValidValue : MethodName := ⟨RX6, "checkValidValue", "(J)J"⟩
def dkwX6_checkValidValue_0 : List UInt8 := [42, 182, 0, 128, 31, 42, 182, 0, 131, 173]
abbrev dktX6_checkValidValue_0 : List UInt8 := dkwX6_checkValidValue_0 ++ []
theorem dksX6_checkValidValue_0 : cX6_checkValidValue.data.toList.drop 0 = dktX6_checkValidValue_0 := by decide +kernel
theorem dX6_checkValidValue_0 : decode cX6_checkValidValue 0 = .ok (.aload_n 0, 1) := dk_42 (dk_at dksX6_checkValidValue_0 0 rfl rfl)
theorem dX6_checkValidValue_1 : decode cX6_checkValidValue 1 = .ok (.invokevirtual 128, 3) := dk_182 0 128 (dk_at dksX6_checkValidValue_0 1 rfl rfl)
theorem dX6_checkValidValue_4 : decode cX6_checkValidValue 4 = .ok (.lload_n 1, 1) := dk_31 (dk_at dksX6_checkValidValue_0 4 rfl rfl)
theorem dX6_checkValidValue_5 : decode cX6_checkValidValue 5 = .ok (.aload_n 0, 1) := dk_42 (dk_at dksX6_checkValidValue_0 5 rfl rfl)
theorem dX6_checkValidValue_6 : decode cX6_checkValidValue 6 = .ok (.invokevirtual 131, 3) := dk_182 0 131 (dk_at dksX6_checkValidValue_0 6 rfl rfl)
theorem dX6_checkValidValue_9 : decode cX6_checkValidValue 9 = .ok (.lreturn, 1) := dk_173 (dk_at dksX6_checkValidValue_0 9 rfl rfl)
abbrev cX6_range : ByteArray := prog_1_method_4_code
def yX6_range : MethodName := ⟨RX6, "range", "()LValueRange;"⟩
theorem dX6_range_0 : decode cX6_range 0 = .ok (.aload_n 0, 1) := by decide +kernel
theorem dX6_range_1 : decode cX6_range 1 = .ok (.getfield 124, 3) := by decide +kernel
theorem dX6_range_4 : decode cX6_range 4 = .ok (.areturn, 1) := by decide +kernel
abbrev cX6_checkValidIntValue : ByteArray := prog_1_method_6_code
def yX6_checkValidIntValue : MethodName := ⟨RX6, "checkValidIntValue", "(J)I"⟩
def dkwX6_checkValidIntValue_0 : List UInt8 := [42, 182, 0, 128, 31, 42, 182, 0, 137, 172]
abbrev dktX6_checkValidIntValue_0 : List UInt8 := dkwX6_checkValidIntValue_0 ++ []
theorem dksX6_checkValidIntValue_0 : cX6_checkValidIntValue.data.toList.drop 0 = dktX6_checkValidIntValue_0 := by decide +kernel
theorem dX6_checkValidIntValue_0 : decode cX6_checkValidIntValue 0 = .ok (.aload_n 0, 1) := dk_42 (dk_at dksX6_checkValidIntValue_0 0 rfl rfl)
theorem dX6_checkValidIntValue_1 : decode cX6_checkValidIntValue 1 = .ok (.invokevirtual 128, 3) := dk_182 0 128 (dk_at dksX6_checkValidIntValue_0 1 rfl rfl)
theorem dX6_checkValidIntValue_4 : decode cX6_checkValidIntValue 4 = .ok (.lload_n 1, 1) := dk_31 (dk_at dksX6_checkValidIntValue_0 4 rfl rfl)
theorem dX6_checkValidIntValue_5 : decode cX6_checkValidIntValue 5 = .ok (.aload_n 0, 1) := dk_42 (dk_at dksX6_checkValidIntValue_0 5 rfl rfl)
theorem dX6_checkValidIntValue_6 : decode cX6_checkValidIntValue 6 = .ok (.invokevirtual 137, 3) := dk_182 0 137 (dk_at dksX6_checkValidIntValue_0 6 rfl rfl)
theorem dX6_checkValidIntValue_9 : decode cX6_checkValidIntValue 9 = .ok (.ireturn, 1) := dk_172 (dk_at dksX6_checkValidIntValue_0 9 rfl rfl)
theorem q8 : (Jvm.Cond.initialized "ChronoField") ∈ lw_all := lw_g (lw_at lw_m1 7 rfl) rfl
theorem q50 : (Jvm.Cond.laysStatic "ChronoField" "EPOCH_DAY" "LChronoField;") ∈ lw_tbl := lw_at lw_m1 49 rfl
theorem q52 : (Jvm.Cond.instanceMethod ({ cls := "ChronoField", name := "checkValidValue", desc := "(J)J" } : Jvm.MethodName)) ∈ lw_all := lw_g (lw_at lw_m1 51 rfl) rfl
theorem q53 : (Jvm.Cond.selects "ChronoField" ({ cls := "ChronoField", name := "checkValidValue", desc := "(J)J" } : Jvm.MethodName) ({ cls := "ChronoField", name := "checkValidValue", desc := "(J)J" } : Jvm.MethodName)) ∈ lw_all := lw_g (lw_at lw_m1 52 rfl) rfl
theorem q54 : (Jvm.Cond.code ({ cls := "ChronoField", name := "checkValidValue", desc := "(J)J" } : Jvm.MethodName) prog_1_method_5_code (3 : Nat) (Option.some Jvm.ClassFile.FieldType.long)) ∈ lw_all := lw_g (lw_at lw_m1 53 rfl) rfl
theorem q55 : (Jvm.Cond.methodLink "ChronoField" (128 : Nat) ({ cls := "ChronoField", name := "range", desc := "()LValueRange;" } : Jvm.MethodName)) ∈ lw_all := lw_g (lw_at lw_m1 54 rfl) rfl
theorem q56 : (Jvm.Cond.instanceMethod ({ cls := "ChronoField", name := "range", desc := "()LValueRange;" } : Jvm.MethodName)) ∈ lw_all := lw_g (lw_at lw_m1 55 rfl) rfl
theorem q57 : (Jvm.Cond.selects "ChronoField" ({ cls := "ChronoField", name := "range", desc := "()LValueRange;" } : Jvm.MethodName) ({ cls := "ChronoField", name := "range", desc := "()LValueRange;" } : Jvm.MethodName)) ∈ lw_all := lw_g (lw_at lw_m1 56 rfl) rfl
theorem q58 : (Jvm.Cond.code ({ cls := "ChronoField", name := "range", desc := "()LValueRange;" } : Jvm.MethodName) prog_1_method_4_code (1 : Nat) (Option.some (Jvm.ClassFile.FieldType.object "ValueRange"))) ∈ lw_all := lw_g (lw_at lw_m1 57 rfl) rfl
theorem q59 : (Jvm.Cond.methodLink "ChronoField" (131 : Nat) ({ cls := "ValueRange", name := "checkValidValue", desc := "(JLTemporalField;)J" } : Jvm.MethodName)) ∈ lw_all := lw_g (lw_at lw_m1 58 rfl) rfl
theorem q279 : (Jvm.Cond.selects "ChronoField" ({ cls := "java/lang/Object", name := "toString", desc := "()Ljava/lang/String;" } : Jvm.MethodName) ({ cls := "java/lang/Enum", name := "toString", desc := "()Ljava/lang/String;" } : Jvm.MethodName)) ∈ lw_all := lw_g (lw_at lw_m2 38 rfl) rfl
theorem q288 : (Jvm.Cond.selects "ChronoField" ({ cls := "java/lang/Object", name := "getClass", desc := "()Ljava/lang/Class;" } : Jvm.MethodName) ({ cls := "java/lang/Object", name := "getClass", desc := "()Ljava/lang/Class;" } : Jvm.MethodName)) ∈ lw_all := lw_g (lw_at lw_m2 47 rfl) rfl
theorem q478 : (Jvm.Cond.laysStatic "ChronoField" "YEAR" "LChronoField;") ∈ lw_tbl := lw_at lw_m2 237 rfl
theorem q480 : (Jvm.Cond.instanceMethod ({ cls := "ChronoField", name := "checkValidIntValue", desc := "(J)I" } : Jvm.MethodName)) ∈ lw_all := lw_g (lw_at lw_m2 239 rfl) rfl
theorem q481 : (Jvm.Cond.selects "ChronoField" ({ cls := "ChronoField", name := "checkValidIntValue", desc := "(J)I" } : Jvm.MethodName) ({ cls := "ChronoField", name := "checkValidIntValue", desc := "(J)I" } : Jvm.MethodName)) ∈ lw_all := lw_g (lw_at lw_m3 0 rfl) rfl
theorem q482 : (Jvm.Cond.code ({ cls := "ChronoField", name := "checkValidIntValue", desc := "(J)I" } : Jvm.MethodName) prog_1_method_6_code (3 : Nat) (Option.some Jvm.ClassFile.FieldType.int)) ∈ lw_all := lw_g (lw_at lw_m3 1 rfl) rfl
theorem q483 : (Jvm.Cond.methodLink "ChronoField" (137 : Nat) ({ cls := "ValueRange", name := "checkValidIntValue", desc := "(JLTemporalField;)I" } : Jvm.MethodName)) ∈ lw_all := lw_g (lw_at lw_m3 2 rfl) rfl
theorem q726 : (Jvm.Cond.fieldLink "ChronoField" (124 : Nat) "ChronoField" "range" "LValueRange;") ∈ lw_all := lw_g (lw_at lw_m4 5 rfl) rfl
theorem q734 : (Jvm.Cond.stringRef "ChronoField" (284 : Nat) "EpochDay") ∈ lw_tbl := lw_at lw_m4 13 rfl
theorem q735 : (Jvm.Cond.stringRef "ChronoField" (283 : Nat) "EPOCH_DAY") ∈ lw_tbl := lw_at lw_m4 14 rfl
theorem q736 : (Jvm.Cond.stringRef "ChronoField" (323 : Nat) "Year") ∈ lw_tbl := lw_at lw_m4 15 rfl
theorem q737 : (Jvm.Cond.stringRef "ChronoField" (322 : Nat) "YEAR") ∈ lw_tbl := lw_at lw_m4 16 rfl

/-! Month -/
set_option maxRecDepth 100000
def RX8 : String := "Month"
abbrev cX8_of : ByteArray := prog_14_method_4_code
def yX8_of : MethodName := ⟨RX8, "of", "(I)LMonth;"⟩
def dkwX8_of_1 : List UInt8 := [182, 0, 68, 26, 182, 0, 72, 182, 0, 75, 183, 0, 79, 191, 178, 0, 82, 26, 4, 100, 50, 176]
abbrev dktX8_of_1 : List UInt8 := dkwX8_of_1 ++ []
def dkwX8_of_0 : List UInt8 := [26, 4, 161, 0, 9, 26, 16, 12, 164, 0, 30, 187, 0, 59, 89, 187, 0, 61, 89, 183, 0, 63, 18, 66]
abbrev dktX8_of_0 : List UInt8 := dkwX8_of_0 ++ dktX8_of_1
theorem dksX8_of_0 : cX8_of.data.toList.drop 0 = dktX8_of_0 := by decide +kernel
theorem dksX8_of_1 : cX8_of.data.toList.drop 24 = dktX8_of_1 := dk_seg dksX8_of_0 24 rfl rfl
theorem dX8_of_0 : decode cX8_of 0 = .ok (.iload_n 0, 1) := dk_26 (dk_at dksX8_of_0 0 rfl rfl)
theorem dX8_of_1 : decode cX8_of 1 = .ok (.iconst 1, 1) := dk_4 (dk_at dksX8_of_0 1 rfl rfl)
theorem dX8_of_2 : decode cX8_of 2 = .ok (.if_icmp .lt 9, 3) := dk_161 0 9 (dk_at dksX8_of_0 2 rfl rfl)
theorem dX8_of_5 : decode cX8_of 5 = .ok (.iload_n 0, 1) := dk_26 (dk_at dksX8_of_0 5 rfl rfl)
theorem dX8_of_6 : decode cX8_of 6 = .ok (.bipush 12, 2) := dk_16 12 (dk_at dksX8_of_0 6 rfl rfl)
theorem dX8_of_8 : decode cX8_of 8 = .ok (.if_icmp .le 30, 3) := dk_164 0 30 (dk_at dksX8_of_0 8 rfl rfl)
theorem dX8_of_11 : decode cX8_of 11 = .ok (.new 59, 3) := dk_187 0 59 (dk_at dksX8_of_0 11 rfl rfl)
theorem dX8_of_14 : decode cX8_of 14 = .ok (.dup, 1) := dk_89 (dk_at dksX8_of_0 14 rfl rfl)
theorem dX8_of_15 : decode cX8_of 15 = .ok (.new 61, 3) := dk_187 0 61 (dk_at dksX8_of_0 15 rfl rfl)
theorem dX8_of_18 : decode cX8_of 18 = .ok (.dup, 1) := dk_89 (dk_at dksX8_of_0 18 rfl rfl)
theorem dX8_of_19 : decode cX8_of 19 = .ok (.invokespecial 63, 3) := dk_183 0 63 (dk_at dksX8_of_0 19 rfl rfl)
theorem dX8_of_22 : decode cX8_of 22 = .ok (.ldc 66, 2) := dk_18 66 (dk_at dksX8_of_0 22 rfl rfl)
theorem dX8_of_24 : decode cX8_of 24 = .ok (.invokevirtual 68, 3) := dk_182 0 68 (dk_at dksX8_of_1 0 rfl rfl)
theorem dX8_of_27 : decode cX8_of 27 = .ok (.iload_n 0, 1) := dk_26 (dk_at dksX8_of_1 3 rfl rfl)
theorem dX8_of_28 : decode cX8_of 28 = .ok (.invokevirtual 72, 3) := dk_182 0 72 (dk_at dksX8_of_1 4 rfl rfl)
theorem dX8_of_31 : decode cX8_of 31 = .ok (.invokevirtual 75, 3) := dk_182 0 75 (dk_at dksX8_of_1 7 rfl rfl)
theorem dX8_of_34 : decode cX8_of 34 = .ok (.invokespecial 79, 3) := dk_183 0 79 (dk_at dksX8_of_1 10 rfl rfl)
theorem dX8_of_37 : decode cX8_of 37 = .ok (.athrow, 1) := dk_191 (dk_at dksX8_of_1 13 rfl rfl)
theorem dX8_of_38 : decode cX8_of 38 = .ok (.getstatic 82, 3) := dk_178 0 82 (dk_at dksX8_of_1 14 rfl rfl)
theorem dX8_of_41 : decode cX8_of 41 = .ok (.iload_n 0, 1) := dk_26 (dk_at dksX8_of_1 17 rfl rfl)
theorem dX8_of_42 : decode cX8_of 42 = .ok (.iconst 1, 1) := dk_4 (dk_at dksX8_of_1 18 rfl rfl)
theorem dX8_of_43 : decode cX8_of 43 = .ok (.isub, 1) := dk_100 (dk_at dksX8_of_1 19 rfl rfl)
theorem dX8_of_44 : decode cX8_of 44 = .ok (.aaload, 1) := dk_50 (dk_at dksX8_of_1 20 rfl rfl)
theorem dX8_of_45 : decode cX8_of 45 = .ok (.areturn, 1) := dk_176 (dk_at dksX8_of_1 21 rfl rfl)
abbrev cX8_firstDayOfYear : ByteArray := prog_14_method_5_code
def yX8_firstDayOfYear : MethodName := ⟨RX8, "firstDayOfYear", "(Z)I"⟩
def dkwX8_firstDayOfYear_4 : List UInt8 := [96, 172, 17, 1, 49, 28, 96, 172, 17, 1, 79, 28, 96, 172]
abbrev dktX8_firstDayOfYear_4 : List UInt8 := dkwX8_firstDayOfYear_4 ++ []
def dkwX8_firstDayOfYear_3 : List UInt8 := [96, 172, 17, 0, 182, 28, 96, 172, 17, 0, 213, 28, 96, 172, 17, 0, 244, 28, 96, 172, 17, 1, 18, 28]
abbrev dktX8_firstDayOfYear_3 : List UInt8 := dkwX8_firstDayOfYear_3 ++ dktX8_firstDayOfYear_4
def dkwX8_firstDayOfYear_2 : List UInt8 := [4, 172, 16, 32, 172, 16, 60, 28, 96, 172, 16, 91, 28, 96, 172, 16, 121, 28, 96, 172, 17, 0, 152, 28]
abbrev dktX8_firstDayOfYear_2 : List UInt8 := dkwX8_firstDayOfYear_2 ++ dktX8_firstDayOfYear_3
def dkwX8_firstDayOfYear_1 : List UInt8 := [170, 0, 0, 0, 0, 118, 0, 0, 0, 0, 0, 0, 0, 11, 0, 0, 0, 62, 0, 0, 0, 64, 0, 0, 0, 67, 0, 0, 0, 72, 0, 0, 0, 77, 0, 0, 0, 82, 0, 0, 0, 88, 0, 0, 0, 94, 0, 0, 0, 100, 0, 0, 0, 106, 0, 0, 0, 112, 0, 0, 0, 118]
abbrev dktX8_firstDayOfYear_1 : List UInt8 := dkwX8_firstDayOfYear_1 ++ dktX8_firstDayOfYear_2
def dkwX8_firstDayOfYear_0 : List UInt8 := [27, 153, 0, 7, 4, 167, 0, 4, 3, 61, 42, 182, 0, 85]
abbrev dktX8_firstDayOfYear_0 : List UInt8 := dkwX8_firstDayOfYear_0 ++ dktX8_firstDayOfYear_1
theorem dksX8_firstDayOfYear_0 : cX8_firstDayOfYear.data.toList.drop 0 = dktX8_firstDayOfYear_0 := by decide +kernel
theorem dksX8_firstDayOfYear_1 : cX8_firstDayOfYear.data.toList.drop 14 = dktX8_firstDayOfYear_1 := dk_seg dksX8_firstDayOfYear_0 14 rfl rfl
theorem dksX8_firstDayOfYear_2 : cX8_firstDayOfYear.data.toList.drop 76 = dktX8_firstDayOfYear_2 := dk_seg dksX8_firstDayOfYear_1 62 rfl rfl
theorem dksX8_firstDayOfYear_3 : cX8_firstDayOfYear.data.toList.drop 100 = dktX8_firstDayOfYear_3 := dk_seg dksX8_firstDayOfYear_2 24 rfl rfl
theorem dksX8_firstDayOfYear_4 : cX8_firstDayOfYear.data.toList.drop 124 = dktX8_firstDayOfYear_4 := dk_seg dksX8_firstDayOfYear_3 24 rfl rfl
theorem dX8_firstDayOfYear_0 : decode cX8_firstDayOfYear 0 = .ok (.iload_n 1, 1) := dk_27 (dk_at dksX8_firstDayOfYear_0 0 rfl rfl)
theorem dX8_firstDayOfYear_1 : decode cX8_firstDayOfYear 1 = .ok (.ifCond .eq 7, 3) := dk_153 0 7 (dk_at dksX8_firstDayOfYear_0 1 rfl rfl)
theorem dX8_firstDayOfYear_4 : decode cX8_firstDayOfYear 4 = .ok (.iconst 1, 1) := dk_4 (dk_at dksX8_firstDayOfYear_0 4 rfl rfl)
theorem dX8_firstDayOfYear_5 : decode cX8_firstDayOfYear 5 = .ok (.goto 4, 3) := dk_167 0 4 (dk_at dksX8_firstDayOfYear_0 5 rfl rfl)
theorem dX8_firstDayOfYear_8 : decode cX8_firstDayOfYear 8 = .ok (.iconst 0, 1) := dk_3 (dk_at dksX8_firstDayOfYear_0 8 rfl rfl)
theorem dX8_firstDayOfYear_9 : decode cX8_firstDayOfYear 9 = .ok (.istore_n 2, 1) := dk_61 (dk_at dksX8_firstDayOfYear_0 9 rfl rfl)
theorem dX8_firstDayOfYear_10 : decode cX8_firstDayOfYear 10 = .ok (.aload_n 0, 1) := dk_42 (dk_at dksX8_firstDayOfYear_0 10 rfl rfl)
theorem dX8_firstDayOfYear_11 : decode cX8_firstDayOfYear 11 = .ok (.invokevirtual 85, 3) := dk_182 0 85 (dk_at dksX8_firstDayOfYear_0 11 rfl rfl)
theorem dX8_firstDayOfYear_14 : decode cX8_firstDayOfYear 14 = .ok (.tableswitch 118 0 11 #[62, 64, 67, 72, 77, 82, 88, 94, 100, 106, 112, 118], 62) := by decide +kernel
theorem dX8_firstDayOfYear_76 : decode cX8_firstDayOfYear 76 = .ok (.iconst 1, 1) := dk_4 (dk_at dksX8_firstDayOfYear_2 0 rfl rfl)
theorem dX8_firstDayOfYear_77 : decode cX8_firstDayOfYear 77 = .ok (.ireturn, 1) := dk_172 (dk_at dksX8_firstDayOfYear_2 1 rfl rfl)
theorem dX8_firstDayOfYear_78 : decode cX8_firstDayOfYear 78 = .ok (.bipush 32, 2) := dk_16 32 (dk_at dksX8_firstDayOfYear_2 2 rfl rfl)
theorem dX8_firstDayOfYear_80 : decode cX8_firstDayOfYear 80 = .ok (.ireturn, 1) := dk_172 (dk_at dksX8_firstDayOfYear_2 4 rfl rfl)
theorem dX8_firstDayOfYear_81 : decode cX8_firstDayOfYear 81 = .ok (.bipush 60, 2) := dk_16 60 (dk_at dksX8_firstDayOfYear_2 5 rfl rfl)
theorem dX8_firstDayOfYear_83 : decode cX8_firstDayOfYear 83 = .ok (.iload_n 2, 1) := dk_28 (dk_at dksX8_firstDayOfYear_2 7 rfl rfl)
theorem dX8_firstDayOfYear_84 : decode cX8_firstDayOfYear 84 = .ok (.iadd, 1) := dk_96 (dk_at dksX8_firstDayOfYear_2 8 rfl rfl)
theorem dX8_firstDayOfYear_85 : decode cX8_firstDayOfYear 85 = .ok (.ireturn, 1) := dk_172 (dk_at dksX8_firstDayOfYear_2 9 rfl rfl)
theorem dX8_firstDayOfYear_86 : decode cX8_firstDayOfYear 86 = .ok (.bipush 91, 2) := dk_16 91 (dk_at dksX8_firstDayOfYear_2 10 rfl rfl)
theorem dX8_firstDayOfYear_88 : decode cX8_firstDayOfYear 88 = .ok (.iload_n 2, 1) := dk_28 (dk_at dksX8_firstDayOfYear_2 12 rfl rfl)
theorem dX8_firstDayOfYear_89 : decode cX8_firstDayOfYear 89 = .ok (.iadd, 1) := dk_96 (dk_at dksX8_firstDayOfYear_2 13 rfl rfl)
theorem dX8_firstDayOfYear_90 : decode cX8_firstDayOfYear 90 = .ok (.ireturn, 1) := dk_172 (dk_at dksX8_firstDayOfYear_2 14 rfl rfl)
theorem dX8_firstDayOfYear_91 : decode cX8_firstDayOfYear 91 = .ok (.bipush 121, 2) := dk_16 121 (dk_at dksX8_firstDayOfYear_2 15 rfl rfl)
theorem dX8_firstDayOfYear_93 : decode cX8_firstDayOfYear 93 = .ok (.iload_n 2, 1) := dk_28 (dk_at dksX8_firstDayOfYear_2 17 rfl rfl)
theorem dX8_firstDayOfYear_94 : decode cX8_firstDayOfYear 94 = .ok (.iadd, 1) := dk_96 (dk_at dksX8_firstDayOfYear_2 18 rfl rfl)
theorem dX8_firstDayOfYear_95 : decode cX8_firstDayOfYear 95 = .ok (.ireturn, 1) := dk_172 (dk_at dksX8_firstDayOfYear_2 19 rfl rfl)
theorem dX8_firstDayOfYear_96 : decode cX8_firstDayOfYear 96 = .ok (.sipush 152, 3) := dk_17 0 152 (dk_at dksX8_firstDayOfYear_2 20 rfl rfl)
theorem dX8_firstDayOfYear_99 : decode cX8_firstDayOfYear 99 = .ok (.iload_n 2, 1) := dk_28 (dk_at dksX8_firstDayOfYear_2 23 rfl rfl)
theorem dX8_firstDayOfYear_100 : decode cX8_firstDayOfYear 100 = .ok (.iadd, 1) := dk_96 (dk_at dksX8_firstDayOfYear_3 0 rfl rfl)
theorem dX8_firstDayOfYear_101 : decode cX8_firstDayOfYear 101 = .ok (.ireturn, 1) := dk_172 (dk_at dksX8_firstDayOfYear_3 1 rfl rfl)
theorem dX8_firstDayOfYear_102 : decode cX8_firstDayOfYear 102 = .ok (.sipush 182, 3) := dk_17 0 182 (dk_at dksX8_firstDayOfYear_3 2 rfl rfl)
theorem dX8_firstDayOfYear_105 : decode cX8_firstDayOfYear 105 = .ok (.iload_n 2, 1) := dk_28 (dk_at dksX8_firstDayOfYear_3 5 rfl rfl)
theorem dX8_firstDayOfYear_106 : decode cX8_firstDayOfYear 106 = .ok (.iadd, 1) := dk_96 (dk_at dksX8_firstDayOfYear_3 6 rfl rfl)
theorem dX8_firstDayOfYear_107 : decode cX8_firstDayOfYear 107 = .ok (.ireturn, 1) := dk_172 (dk_at dksX8_firstDayOfYear_3 7 rfl rfl)
theorem dX8_firstDayOfYear_108 : decode cX8_firstDayOfYear 108 = .ok (.sipush 213, 3) := dk_17 0 213 (dk_at dksX8_firstDayOfYear_3 8 rfl rfl)
theorem dX8_firstDayOfYear_111 : decode cX8_firstDayOfYear 111 = .ok (.iload_n 2, 1) := dk_28 (dk_at dksX8_firstDayOfYear_3 11 rfl rfl)
theorem dX8_firstDayOfYear_112 : decode cX8_firstDayOfYear 112 = .ok (.iadd, 1) := dk_96 (dk_at dksX8_firstDayOfYear_3 12 rfl rfl)
theorem dX8_firstDayOfYear_113 : decode cX8_firstDayOfYear 113 = .ok (.ireturn, 1) := dk_172 (dk_at dksX8_firstDayOfYear_3 13 rfl rfl)
theorem dX8_firstDayOfYear_114 : decode cX8_firstDayOfYear 114 = .ok (.sipush 244, 3) := dk_17 0 244 (dk_at dksX8_firstDayOfYear_3 14 rfl rfl)
theorem dX8_firstDayOfYear_117 : decode cX8_firstDayOfYear 117 = .ok (.iload_n 2, 1) := dk_28 (dk_at dksX8_firstDayOfYear_3 17 rfl rfl)
theorem dX8_firstDayOfYear_118 : decode cX8_firstDayOfYear 118 = .ok (.iadd, 1) := dk_96 (dk_at dksX8_firstDayOfYear_3 18 rfl rfl)
theorem dX8_firstDayOfYear_119 : decode cX8_firstDayOfYear 119 = .ok (.ireturn, 1) := dk_172 (dk_at dksX8_firstDayOfYear_3 19 rfl rfl)
theorem dX8_firstDayOfYear_120 : decode cX8_firstDayOfYear 120 = .ok (.sipush 274, 3) := dk_17 1 18 (dk_at dksX8_firstDayOfYear_3 20 rfl rfl)
theorem dX8_firstDayOfYear_123 : decode cX8_firstDayOfYear 123 = .ok (.iload_n 2, 1) := dk_28 (dk_at dksX8_firstDayOfYear_3 23 rfl rfl)
theorem dX8_firstDayOfYear_124 : decode cX8_firstDayOfYear 124 = .ok (.iadd, 1) := dk_96 (dk_at dksX8_firstDayOfYear_4 0 rfl rfl)
theorem dX8_firstDayOfYear_125 : decode cX8_firstDayOfYear 125 = .ok (.ireturn, 1) := dk_172 (dk_at dksX8_firstDayOfYear_4 1 rfl rfl)
theorem dX8_firstDayOfYear_126 : decode cX8_firstDayOfYear 126 = .ok (.sipush 305, 3) := dk_17 1 49 (dk_at dksX8_firstDayOfYear_4 2 rfl rfl)
theorem dX8_firstDayOfYear_129 : decode cX8_firstDayOfYear 129 = .ok (.iload_n 2, 1) := dk_28 (dk_at dksX8_firstDayOfYear_4 5 rfl rfl)
theorem dX8_firstDayOfYear_130 : decode cX8_firstDayOfYear 130 = .ok (.iadd, 1) := dk_96 (dk_at dksX8_firstDayOfYear_4 6 rfl rfl)
theorem dX8_firstDayOfYear_131 : decode cX8_firstDayOfYear 131 = .ok (.ireturn, 1) := dk_172 (dk_at dksX8_firstDayOfYear_4 7 rfl rfl)
theorem dX8_firstDayOfYear_132 : decode cX8_firstDayOfYear 132 = .ok (.sipush 335, 3) := dk_17 1 79 (dk_at dksX8_firstDayOfYear_4 8 rfl rfl)
theorem dX8_firstDayOfYear_135 : decode cX8_firstDayOfYear 135 = .ok (.iload_n 2, 1) := dk_28 (dk_at dksX8_firstDayOfYear_4 11 rfl rfl)
theorem dX8_firstDayOfYear_136 : decode cX8_firstDayOfYear 136 = .ok (.iadd, 1) := dk_96 (dk_at dksX8_firstDayOfYear_4 12 rfl rfl)
theorem dX8_firstDayOfYear_137 : decode cX8_firstDayOfYear 137 = .ok (.ireturn, 1) := dk_172 (dk_at dksX8_firstDayOfYear_4 13 rfl rfl)
theorem q26 : (Jvm.Cond.initialized "Month") ∈ lw_all := lw_g (lw_at lw_m1 25 rfl) rfl
theorem q293 : (Jvm.Cond.selects "Month" ({ cls := "java/lang/Object", name := "getClass", desc := "()Ljava/lang/Class;" } : Jvm.MethodName) ({ cls := "java/lang/Object", name := "getClass", desc := "()Ljava/lang/Class;" } : Jvm.MethodName)) ∈ lw_all := lw_g (lw_at lw_m2 52 rfl) rfl
theorem q377 : (Jvm.Cond.selects "Month" ({ cls := "java/lang/Object", name := "toString", desc := "()Ljava/lang/String;" } : Jvm.MethodName) ({ cls := "java/lang/Enum", name := "toString", desc := "()Ljava/lang/String;" } : Jvm.MethodName)) ∈ lw_all := lw_g (lw_at lw_m2 136 rfl) rfl
theorem q572 : (Jvm.Cond.static ({ cls := "Month", name := "of", desc := "(I)LMonth;" } : Jvm.MethodName)) ∈ lw_all := lw_g (lw_at lw_m3 91 rfl) rfl
theorem q573 : (Jvm.Cond.code ({ cls := "Month", name := "of", desc := "(I)LMonth;" } : Jvm.MethodName) prog_14_method_4_code (1 : Nat) (Option.some (Jvm.ClassFile.FieldType.object "Month"))) ∈ lw_all := lw_g (lw_at lw_m3 92 rfl) rfl
theorem q574 : (Jvm.Cond.classLink "Month" (59 : Nat) "DateTimeException") ∈ lw_all := lw_g (lw_at lw_m3 93 rfl) rfl
theorem q575 : (Jvm.Cond.classLink "Month" (61 : Nat) "java/lang/StringBuilder") ∈ lw_all := lw_g (lw_at lw_m3 94 rfl) rfl
theorem q576 : (Jvm.Cond.methodLink "Month" (63 : Nat) ({ cls := "java/lang/StringBuilder", name := "<init>", desc := "()V" } : Jvm.MethodName)) ∈ lw_all := lw_g (lw_at lw_m3 95 rfl) rfl
theorem q577 : (Jvm.Cond.stringRef "Month" (66 : Nat) "Invalid value for MonthOfYear: ") ∈ lw_tbl := lw_at lw_m3 96 rfl
theorem q578 : (Jvm.Cond.methodLink "Month" (68 : Nat) ({ cls := "java/lang/StringBuilder", name := "append", desc := "(Ljava/lang/String;)Ljava/lang/StringBuilder;" } : Jvm.MethodName)) ∈ lw_all := lw_g (lw_at lw_m3 97 rfl) rfl
theorem q579 : (Jvm.Cond.methodLink "Month" (72 : Nat) ({ cls := "java/lang/StringBuilder", name := "append", desc := "(I)Ljava/lang/StringBuilder;" } : Jvm.MethodName)) ∈ lw_all := lw_g (lw_at lw_m3 98 rfl) rfl
theorem q600 : (Jvm.Cond.methodLink "Month" (75 : Nat) ({ cls := "java/lang/StringBuilder", name := "toString", desc := "()Ljava/lang/String;" } : Jvm.MethodName)) ∈ lw_all := lw_g (lw_at lw_m3 119 rfl) rfl
theorem q601 : (Jvm.Cond.methodLink "Month" (79 : Nat) ({ cls := "DateTimeException", name := "<init>", desc := "(Ljava/lang/String;)V" } : Jvm.MethodName)) ∈ lw_all := lw_g (lw_at lw_m3 120 rfl) rfl
theorem q602 : (Jvm.Cond.fieldLink "Month" (82 : Nat) "Month" "ENUMS" "[LMonth;") ∈ lw_all := lw_g (lw_at lw_m3 121 rfl) rfl
theorem q603 : (Jvm.Cond.laysStatic "Month" "ENUMS" "[LMonth;") ∈ lw_tbl := lw_at lw_m3 122 rfl
theorem q618 : (Jvm.Cond.instanceMethod ({ cls := "Month", name := "firstDayOfYear", desc := "(Z)I" } : Jvm.MethodName)) ∈ lw_all := lw_g (lw_at lw_m3 137 rfl) rfl
theorem q619 : (Jvm.Cond.selects "Month" ({ cls := "Month", name := "firstDayOfYear", desc := "(Z)I" } : Jvm.MethodName) ({ cls := "Month", name := "firstDayOfYear", desc := "(Z)I" } : Jvm.MethodName)) ∈ lw_all := lw_g (lw_at lw_m3 138 rfl) rfl
theorem q620 : (Jvm.Cond.code ({ cls := "Month", name := "firstDayOfYear", desc := "(Z)I" } : Jvm.MethodName) prog_14_method_5_code (3 : Nat) (Option.some Jvm.ClassFile.FieldType.int)) ∈ lw_all := lw_g (lw_at lw_m3 139 rfl) rfl
theorem q621 : (Jvm.Cond.methodLink "Month" (85 : Nat) ({ cls := "Month", name := "ordinal", desc := "()I" } : Jvm.MethodName)) ∈ lw_all := lw_g (lw_at lw_m3 140 rfl) rfl
theorem q622 : (Jvm.Cond.sameMethod "Month" "java/lang/Enum" "ordinal" "()I") ∈ lw_all := lw_g (lw_at lw_m3 141 rfl) rfl
theorem q624 : (Jvm.Cond.selects "Month" ({ cls := "Month", name := "ordinal", desc := "()I" } : Jvm.MethodName) ({ cls := "java/lang/Enum", name := "ordinal", desc := "()I" } : Jvm.MethodName)) ∈ lw_all := lw_g (lw_at lw_m3 143 rfl) rfl
theorem q738 : (Jvm.Cond.laysStatic "Month" "JANUARY" "LMonth;") ∈ lw_tbl := lw_at lw_m4 17 rfl
theorem q739 : (Jvm.Cond.laysStatic "Month" "FEBRUARY" "LMonth;") ∈ lw_tbl := lw_at lw_m4 18 rfl
theorem q740 : (Jvm.Cond.laysStatic "Month" "MARCH" "LMonth;") ∈ lw_tbl := lw_at lw_m4 19 rfl
theorem q741 : (Jvm.Cond.laysStatic "Month" "APRIL" "LMonth;") ∈ lw_tbl := lw_at lw_m4 20 rfl
theorem q742 : (Jvm.Cond.laysStatic "Month" "MAY" "LMonth;") ∈ lw_tbl := lw_at lw_m4 21 rfl
theorem q743 : (Jvm.Cond.laysStatic "Month" "JUNE" "LMonth;") ∈ lw_tbl := lw_at lw_m4 22 rfl
theorem q744 : (Jvm.Cond.laysStatic "Month" "JULY" "LMonth;") ∈ lw_tbl := lw_at lw_m4 23 rfl
theorem q745 : (Jvm.Cond.laysStatic "Month" "AUGUST" "LMonth;") ∈ lw_tbl := lw_at lw_m4 24 rfl
theorem q746 : (Jvm.Cond.laysStatic "Month" "SEPTEMBER" "LMonth;") ∈ lw_tbl := lw_at lw_m4 25 rfl
theorem q747 : (Jvm.Cond.laysStatic "Month" "OCTOBER" "LMonth;") ∈ lw_tbl := lw_at lw_m4 26 rfl
theorem q748 : (Jvm.Cond.laysStatic "Month" "NOVEMBER" "LMonth;") ∈ lw_tbl := lw_at lw_m4 27 rfl
theorem q749 : (Jvm.Cond.laysStatic "Month" "DECEMBER" "LMonth;") ∈ lw_tbl := lw_at lw_m4 28 rfl
theorem q750 : (Jvm.Cond.stringRef "Month" (89 : Nat) "JANUARY") ∈ lw_tbl := lw_at lw_m4 29 rfl
theorem q751 : (Jvm.Cond.stringRef "Month" (91 : Nat) "FEBRUARY") ∈ lw_tbl := lw_at lw_m4 30 rfl
theorem q752 : (Jvm.Cond.stringRef "Month" (92 : Nat) "MARCH") ∈ lw_tbl := lw_at lw_m4 31 rfl
theorem q753 : (Jvm.Cond.stringRef "Month" (93 : Nat) "APRIL") ∈ lw_tbl := lw_at lw_m4 32 rfl
theorem q754 : (Jvm.Cond.stringRef "Month" (94 : Nat) "MAY") ∈ lw_tbl := lw_at lw_m4 33 rfl
theorem q755 : (Jvm.Cond.stringRef "Month" (95 : Nat) "JUNE") ∈ lw_tbl := lw_at lw_m4 34 rfl
theorem q756 : (Jvm.Cond.stringRef "Month" (96 : Nat) "JULY") ∈ lw_tbl := lw_at lw_m4 35 rfl
theorem q757 : (Jvm.Cond.stringRef "Month" (97 : Nat) "AUGUST") ∈ lw_tbl := lw_at lw_m4 36 rfl
theorem q758 : (Jvm.Cond.stringRef "Month" (98 : Nat) "SEPTEMBER") ∈ lw_tbl := lw_at lw_m4 37 rfl
theorem q759 : (Jvm.Cond.stringRef "Month" (99 : Nat) "OCTOBER") ∈ lw_tbl := lw_at lw_m4 38 rfl
theorem q760 : (Jvm.Cond.stringRef "Month" (100 : Nat) "NOVEMBER") ∈ lw_tbl := lw_at lw_m4 39 rfl
theorem q761 : (Jvm.Cond.stringRef "Month" (101 : Nat) "DECEMBER") ∈ lw_tbl := lw_at lw_m4 40 rfl

/-! IsoChronology -/
set_option maxRecDepth 100000
def RX9 : String := "IsoChronology"
abbrev cX9_isLeapYear : ByteArray := prog_11_method_2_code
def yX9_isLeapYear : MethodName := ⟨RX9, "isLeapYear", "(J)Z"⟩
def dkwX9_isLeapYear_1 : List UInt8 := [113, 9, 148, 154, 0, 7, 4, 167, 0, 4, 3, 172]
abbrev dktX9_isLeapYear_1 : List UInt8 := dkwX9_isLeapYear_1 ++ []
def dkwX9_isLeapYear_0 : List UInt8 := [31, 20, 0, 7, 127, 9, 148, 154, 0, 27, 31, 20, 0, 9, 113, 9, 148, 154, 0, 13, 31, 20, 0, 11]
abbrev dktX9_isLeapYear_0 : List UInt8 := dkwX9_isLeapYear_0 ++ dktX9_isLeapYear_1
theorem dksX9_isLeapYear_0 : cX9_isLeapYear.data.toList.drop 0 = dktX9_isLeapYear_0 := by decide +kernel
theorem dksX9_isLeapYear_1 : cX9_isLeapYear.data.toList.drop 24 = dktX9_isLeapYear_1 := dk_seg dksX9_isLeapYear_0 24 rfl rfl
theorem dX9_isLeapYear_0 : decode cX9_isLeapYear 0 = .ok (.lload_n 1, 1) := dk_31 (dk_at dksX9_isLeapYear_0 0 rfl rfl)
theorem dX9_isLeapYear_1 : decode cX9_isLeapYear 1 = .ok (.ldc2_w 7, 3) := dk_20 0 7 (dk_at dksX9_isLeapYear_0 1 rfl rfl)
theorem dX9_isLeapYear_4 : decode cX9_isLeapYear 4 = .ok (.land, 1) := dk_127 (dk_at dksX9_isLeapYear_0 4 rfl rfl)
theorem dX9_isLeapYear_5 : decode cX9_isLeapYear 5 = .ok (.lconst 0, 1) := dk_9 (dk_at dksX9_isLeapYear_0 5 rfl rfl)
theorem dX9_isLeapYear_6 : decode cX9_isLeapYear 6 = .ok (.lcmp, 1) := dk_148 (dk_at dksX9_isLeapYear_0 6 rfl rfl)
theorem dX9_isLeapYear_7 : decode cX9_isLeapYear 7 = .ok (.ifCond .ne 27, 3) := dk_154 0 27 (dk_at dksX9_isLeapYear_0 7 rfl rfl)
theorem dX9_isLeapYear_10 : decode cX9_isLeapYear 10 = .ok (.lload_n 1, 1) := dk_31 (dk_at dksX9_isLeapYear_0 10 rfl rfl)
theorem dX9_isLeapYear_11 : decode cX9_isLeapYear 11 = .ok (.ldc2_w 9, 3) := dk_20 0 9 (dk_at dksX9_isLeapYear_0 11 rfl rfl)
theorem dX9_isLeapYear_14 : decode cX9_isLeapYear 14 = .ok (.lrem, 1) := dk_113 (dk_at dksX9_isLeapYear_0 14 rfl rfl)
theorem dX9_isLeapYear_15 : decode cX9_isLeapYear 15 = .ok (.lconst 0, 1) := dk_9 (dk_at dksX9_isLeapYear_0 15 rfl rfl)
theorem dX9_isLeapYear_16 : decode cX9_isLeapYear 16 = .ok (.lcmp, 1) := dk_148 (dk_at dksX9_isLeapYear_0 16 rfl rfl)
theorem dX9_isLeapYear_17 : decode cX9_isLeapYear 17 = .ok (.ifCond .ne 13, 3) := dk_154 0 13 (dk_at dksX9_isLeapYear_0 17 rfl rfl)
theorem dX9_isLeapYear_20 : decode cX9_isLeapYear 20 = .ok (.lload_n 1, 1) := dk_31 (dk_at dksX9_isLeapYear_0 20 rfl rfl)
theorem dX9_isLeapYear_21 : decode cX9_isLeapYear 21 = .ok (.ldc2_w 11, 3) := dk_20 0 11 (dk_at dksX9_isLeapYear_0 21 rfl rfl)
theorem dX9_isLeapYear_24 : decode cX9_isLeapYear 24 = .ok (.lrem, 1) := dk_113 (dk_at dksX9_isLeapYear_1 0 rfl rfl)
theorem dX9_isLeapYear_25 : decode cX9_isLeapYear 25 = .ok (.lconst 0, 1) := dk_9 (dk_at dksX9_isLeapYear_1 1 rfl rfl)
theorem dX9_isLeapYear_26 : decode cX9_isLeapYear 26 = .ok (.lcmp, 1) := dk_148 (dk_at dksX9_isLeapYear_1 2 rfl rfl)
theorem dX9_isLeapYear_27 : decode cX9_isLeapYear 27 = .ok (.ifCond .ne 7, 3) := dk_154 0 7 (dk_at dksX9_isLeapYear_1 3 rfl rfl)
theorem dX9_isLeapYear_30 : decode cX9_isLeapYear 30 = .ok (.iconst 1, 1) := dk_4 (dk_at dksX9_isLeapYear_1 6 rfl rfl)
theorem dX9_isLeapYear_31 : decode cX9_isLeapYear 31 = .ok (.goto 4, 3) := dk_167 0 4 (dk_at dksX9_isLeapYear_1 7 rfl rfl)
theorem dX9_isLeapYear_34 : decode cX9_isLeapYear 34 = .ok (.iconst 0, 1) := dk_3 (dk_at dksX9_isLeapYear_1 10 rfl rfl)
theorem dX9_isLeapYear_35 : decode cX9_isLeapYear 35 = .ok (.ireturn, 1) := dk_172 (dk_at dksX9_isLeapYear_1 11 rfl rfl)
theorem q28 : (Jvm.Cond.initialized "IsoChronology") ∈ lw_all := lw_g (lw_at lw_m1 27 rfl) rfl
theorem q291 : (Jvm.Cond.selects "IsoChronology" ({ cls := "java/lang/Object", name := "getClass", desc := "()Ljava/lang/Class;" } : Jvm.MethodName) ({ cls := "java/lang/Object", name := "getClass", desc := "()Ljava/lang/Class;" } : Jvm.MethodName)) ∈ lw_all := lw_g (lw_at lw_m2 50 rfl) rfl
theorem q375 : (Jvm.Cond.selects "IsoChronology" ({ cls := "java/lang/Object", name := "toString", desc := "()Ljava/lang/String;" } : Jvm.MethodName) ({ cls := "java/lang/Object", name := "toString", desc := "()Ljava/lang/String;" } : Jvm.MethodName)) ∈ lw_all := lw_g (lw_at lw_m2 134 rfl) rfl
theorem q609 : (Jvm.Cond.laysStatic "IsoChronology" "INSTANCE" "LIsoChronology;") ∈ lw_tbl := lw_at lw_m3 128 rfl
theorem q611 : (Jvm.Cond.instanceMethod ({ cls := "IsoChronology", name := "isLeapYear", desc := "(J)Z" } : Jvm.MethodName)) ∈ lw_all := lw_g (lw_at lw_m3 130 rfl) rfl
theorem q612 : (Jvm.Cond.selects "IsoChronology" ({ cls := "IsoChronology", name := "isLeapYear", desc := "(J)Z" } : Jvm.MethodName) ({ cls := "IsoChronology", name := "isLeapYear", desc := "(J)Z" } : Jvm.MethodName)) ∈ lw_all := lw_g (lw_at lw_m3 131 rfl) rfl
theorem q613 : (Jvm.Cond.code ({ cls := "IsoChronology", name := "isLeapYear", desc := "(J)Z" } : Jvm.MethodName) prog_11_method_2_code (3 : Nat) (Option.some Jvm.ClassFile.FieldType.boolean)) ∈ lw_all := lw_g (lw_at lw_m3 132 rfl) rfl
theorem q614 : (Jvm.Cond.constantLong "IsoChronology" (7 : Nat) (3 : Int64)) ∈ lw_all := lw_g (lw_at lw_m3 133 rfl) rfl
theorem q615 : (Jvm.Cond.constantLong "IsoChronology" (9 : Nat) (100 : Int64)) ∈ lw_all := lw_g (lw_at lw_m3 134 rfl) rfl
theorem q616 : (Jvm.Cond.constantLong "IsoChronology" (11 : Nat) (400 : Int64)) ∈ lw_all := lw_g (lw_at lw_m3 135 rfl) rfl

/-! ValueRange -/
set_option maxRecDepth 100000
def RX10 : String := "ValueRange"
abbrev cX10_checkValidValue : ByteArray := prog_17_method_10_code
def yX10_checkValidValue : MethodName := ⟨RX10, "checkValidValue", "(JLTemporalField;)J"⟩
def dkwX10_checkValidValue_4 : List UInt8 := [173]
abbrev dktX10_checkValidValue_4 : List UInt8 := dkwX10_checkValidValue_4 ++ []
def dkwX10_checkValidValue_3 : List UInt8 := [182, 0, 68, 42, 182, 0, 72, 18, 77, 182, 0, 68, 31, 182, 0, 79, 182, 0, 82, 183, 0, 86, 191, 31]
abbrev dktX10_checkValidValue_3 : List UInt8 := dkwX10_checkValidValue_3 ++ dktX10_checkValidValue_4
def dkwX10_checkValidValue_2 : List UInt8 := [182, 0, 79, 182, 0, 82, 183, 0, 86, 191, 187, 0, 61, 89, 187, 0, 63, 89, 183, 0, 65, 18, 87]
abbrev dktX10_checkValidValue_2 : List UInt8 := dkwX10_checkValidValue_2 ++ dktX10_checkValidValue_3
def dkwX10_checkValidValue_1 : List UInt8 := [18, 66, 182, 0, 68, 45, 182, 0, 72, 18, 75, 182, 0, 68, 42, 182, 0, 72, 18, 77, 182, 0, 68, 31]
abbrev dktX10_checkValidValue_1 : List UInt8 := dkwX10_checkValidValue_1 ++ dktX10_checkValidValue_2
def dkwX10_checkValidValue_0 : List UInt8 := [42, 31, 182, 0, 57, 154, 0, 88, 45, 198, 0, 48, 187, 0, 61, 89, 187, 0, 63, 89, 183, 0, 65]
abbrev dktX10_checkValidValue_0 : List UInt8 := dkwX10_checkValidValue_0 ++ dktX10_checkValidValue_1
theorem dksX10_checkValidValue_0 : cX10_checkValidValue.data.toList.drop 0 = dktX10_checkValidValue_0 := by decide +kernel
theorem dksX10_checkValidValue_1 : cX10_checkValidValue.data.toList.drop 23 = dktX10_checkValidValue_1 := dk_seg dksX10_checkValidValue_0 23 rfl rfl
theorem dksX10_checkValidValue_2 : cX10_checkValidValue.data.toList.drop 47 = dktX10_checkValidValue_2 := dk_seg dksX10_checkValidValue_1 24 rfl rfl
theorem dksX10_checkValidValue_3 : cX10_checkValidValue.data.toList.drop 70 = dktX10_checkValidValue_3 := dk_seg dksX10_checkValidValue_2 23 rfl rfl
theorem dksX10_checkValidValue_4 : cX10_checkValidValue.data.toList.drop 94 = dktX10_checkValidValue_4 := dk_seg dksX10_checkValidValue_3 24 rfl rfl
theorem dX10_checkValidValue_0 : decode cX10_checkValidValue 0 = .ok (.aload_n 0, 1) := dk_42 (dk_at dksX10_checkValidValue_0 0 rfl rfl)
theorem dX10_checkValidValue_1 : decode cX10_checkValidValue 1 = .ok (.lload_n 1, 1) := dk_31 (dk_at dksX10_checkValidValue_0 1 rfl rfl)
theorem dX10_checkValidValue_2 : decode cX10_checkValidValue 2 = .ok (.invokevirtual 57, 3) := dk_182 0 57 (dk_at dksX10_checkValidValue_0 2 rfl rfl)
theorem dX10_checkValidValue_5 : decode cX10_checkValidValue 5 = .ok (.ifCond .ne 88, 3) := dk_154 0 88 (dk_at dksX10_checkValidValue_0 5 rfl rfl)
theorem dX10_checkValidValue_8 : decode cX10_checkValidValue 8 = .ok (.aload_n 3, 1) := dk_45 (dk_at dksX10_checkValidValue_0 8 rfl rfl)
theorem dX10_checkValidValue_9 : decode cX10_checkValidValue 9 = .ok (.ifnull 48, 3) := dk_198 0 48 (dk_at dksX10_checkValidValue_0 9 rfl rfl)
theorem dX10_checkValidValue_12 : decode cX10_checkValidValue 12 = .ok (.new 61, 3) := dk_187 0 61 (dk_at dksX10_checkValidValue_0 12 rfl rfl)
theorem dX10_checkValidValue_15 : decode cX10_checkValidValue 15 = .ok (.dup, 1) := dk_89 (dk_at dksX10_checkValidValue_0 15 rfl rfl)
theorem dX10_checkValidValue_16 : decode cX10_checkValidValue 16 = .ok (.new 63, 3) := dk_187 0 63 (dk_at dksX10_checkValidValue_0 16 rfl rfl)
theorem dX10_checkValidValue_19 : decode cX10_checkValidValue 19 = .ok (.dup, 1) := dk_89 (dk_at dksX10_checkValidValue_0 19 rfl rfl)
theorem dX10_checkValidValue_20 : decode cX10_checkValidValue 20 = .ok (.invokespecial 65, 3) := dk_183 0 65 (dk_at dksX10_checkValidValue_0 20 rfl rfl)
theorem dX10_checkValidValue_23 : decode cX10_checkValidValue 23 = .ok (.ldc 66, 2) := dk_18 66 (dk_at dksX10_checkValidValue_1 0 rfl rfl)
theorem dX10_checkValidValue_25 : decode cX10_checkValidValue 25 = .ok (.invokevirtual 68, 3) := dk_182 0 68 (dk_at dksX10_checkValidValue_1 2 rfl rfl)
theorem dX10_checkValidValue_28 : decode cX10_checkValidValue 28 = .ok (.aload_n 3, 1) := dk_45 (dk_at dksX10_checkValidValue_1 5 rfl rfl)
theorem dX10_checkValidValue_29 : decode cX10_checkValidValue 29 = .ok (.invokevirtual 72, 3) := dk_182 0 72 (dk_at dksX10_checkValidValue_1 6 rfl rfl)
theorem dX10_checkValidValue_32 : decode cX10_checkValidValue 32 = .ok (.ldc 75, 2) := dk_18 75 (dk_at dksX10_checkValidValue_1 9 rfl rfl)
theorem dX10_checkValidValue_34 : decode cX10_checkValidValue 34 = .ok (.invokevirtual 68, 3) := dk_182 0 68 (dk_at dksX10_checkValidValue_1 11 rfl rfl)
theorem dX10_checkValidValue_37 : decode cX10_checkValidValue 37 = .ok (.aload_n 0, 1) := dk_42 (dk_at dksX10_checkValidValue_1 14 rfl rfl)
theorem dX10_checkValidValue_38 : decode cX10_checkValidValue 38 = .ok (.invokevirtual 72, 3) := dk_182 0 72 (dk_at dksX10_checkValidValue_1 15 rfl rfl)
theorem dX10_checkValidValue_41 : decode cX10_checkValidValue 41 = .ok (.ldc 77, 2) := dk_18 77 (dk_at dksX10_checkValidValue_1 18 rfl rfl)
theorem dX10_checkValidValue_43 : decode cX10_checkValidValue 43 = .ok (.invokevirtual 68, 3) := dk_182 0 68 (dk_at dksX10_checkValidValue_1 20 rfl rfl)
theorem dX10_checkValidValue_46 : decode cX10_checkValidValue 46 = .ok (.lload_n 1, 1) := dk_31 (dk_at dksX10_checkValidValue_1 23 rfl rfl)
theorem dX10_checkValidValue_47 : decode cX10_checkValidValue 47 = .ok (.invokevirtual 79, 3) := dk_182 0 79 (dk_at dksX10_checkValidValue_2 0 rfl rfl)
theorem dX10_checkValidValue_50 : decode cX10_checkValidValue 50 = .ok (.invokevirtual 82, 3) := dk_182 0 82 (dk_at dksX10_checkValidValue_2 3 rfl rfl)
theorem dX10_checkValidValue_53 : decode cX10_checkValidValue 53 = .ok (.invokespecial 86, 3) := dk_183 0 86 (dk_at dksX10_checkValidValue_2 6 rfl rfl)
theorem dX10_checkValidValue_56 : decode cX10_checkValidValue 56 = .ok (.athrow, 1) := dk_191 (dk_at dksX10_checkValidValue_2 9 rfl rfl)
theorem dX10_checkValidValue_57 : decode cX10_checkValidValue 57 = .ok (.new 61, 3) := dk_187 0 61 (dk_at dksX10_checkValidValue_2 10 rfl rfl)
theorem dX10_checkValidValue_60 : decode cX10_checkValidValue 60 = .ok (.dup, 1) := dk_89 (dk_at dksX10_checkValidValue_2 13 rfl rfl)
theorem dX10_checkValidValue_61 : decode cX10_checkValidValue 61 = .ok (.new 63, 3) := dk_187 0 63 (dk_at dksX10_checkValidValue_2 14 rfl rfl)
theorem dX10_checkValidValue_64 : decode cX10_checkValidValue 64 = .ok (.dup, 1) := dk_89 (dk_at dksX10_checkValidValue_2 17 rfl rfl)
theorem dX10_checkValidValue_65 : decode cX10_checkValidValue 65 = .ok (.invokespecial 65, 3) := dk_183 0 65 (dk_at dksX10_checkValidValue_2 18 rfl rfl)
theorem dX10_checkValidValue_68 : decode cX10_checkValidValue 68 = .ok (.ldc 87, 2) := dk_18 87 (dk_at dksX10_checkValidValue_2 21 rfl rfl)
theorem dX10_checkValidValue_70 : decode cX10_checkValidValue 70 = .ok (.invokevirtual 68, 3) := dk_182 0 68 (dk_at dksX10_checkValidValue_3 0 rfl rfl)
theorem dX10_checkValidValue_73 : decode cX10_checkValidValue 73 = .ok (.aload_n 0, 1) := dk_42 (dk_at dksX10_checkValidValue_3 3 rfl rfl)
theorem dX10_checkValidValue_74 : decode cX10_checkValidValue 74 = .ok (.invokevirtual 72, 3) := dk_182 0 72 (dk_at dksX10_checkValidValue_3 4 rfl rfl)
theorem dX10_checkValidValue_77 : decode cX10_checkValidValue 77 = .ok (.ldc 77, 2) := dk_18 77 (dk_at dksX10_checkValidValue_3 7 rfl rfl)
theorem dX10_checkValidValue_79 : decode cX10_checkValidValue 79 = .ok (.invokevirtual 68, 3) := dk_182 0 68 (dk_at dksX10_checkValidValue_3 9 rfl rfl)
theorem dX10_checkValidValue_82 : decode cX10_checkValidValue 82 = .ok (.lload_n 1, 1) := dk_31 (dk_at dksX10_checkValidValue_3 12 rfl rfl)
theorem dX10_checkValidValue_83 : decode cX10_checkValidValue 83 = .ok (.invokevirtual 79, 3) := dk_182 0 79 (dk_at dksX10_checkValidValue_3 13 rfl rfl)
theorem dX10_checkValidValue_86 : decode cX10_checkValidValue 86 = .ok (.invokevirtual 82, 3) := dk_182 0 82 (dk_at dksX10_checkValidValue_3 16 rfl rfl)
theorem dX10_checkValidValue_89 : decode cX10_checkValidValue 89 = .ok (.invokespecial 86, 3) := dk_183 0 86 (dk_at dksX10_checkValidValue_3 19 rfl rfl)
theorem dX10_checkValidValue_92 : decode cX10_checkValidValue 92 = .ok (.athrow, 1) := dk_191 (dk_at dksX10_checkValidValue_3 22 rfl rfl)
theorem dX10_checkValidValue_93 : decode cX10_checkValidValue 93 = .ok (.lload_n 1, 1) := dk_31 (dk_at dksX10_checkValidValue_3 23 rfl rfl)
theorem dX10_checkValidValue_94 : decode cX10_checkValidValue 94 = .ok (.lreturn, 1) := dk_173 (dk_at dksX10_checkValidValue_4 0 rfl rfl)
abbrev cX10_isValidValue : ByteArray := prog_17_method_8_code
def yX10_isValidValue : MethodName := ⟨RX10, "isValidValue", "(J)Z"⟩
def dkwX10_isValidValue_0 : List UInt8 := [31, 42, 182, 0, 40, 148, 155, 0, 16, 31, 42, 182, 0, 48, 148, 157, 0, 7, 4, 167, 0, 4, 3, 172]
abbrev dktX10_isValidValue_0 : List UInt8 := dkwX10_isValidValue_0 ++ []
theorem dksX10_isValidValue_0 : cX10_isValidValue.data.toList.drop 0 = dktX10_isValidValue_0 := by decide +kernel
theorem dX10_isValidValue_0 : decode cX10_isValidValue 0 = .ok (.lload_n 1, 1) := dk_31 (dk_at dksX10_isValidValue_0 0 rfl rfl)
theorem dX10_isValidValue_1 : decode cX10_isValidValue 1 = .ok (.aload_n 0, 1) := dk_42 (dk_at dksX10_isValidValue_0 1 rfl rfl)
theorem dX10_isValidValue_2 : decode cX10_isValidValue 2 = .ok (.invokevirtual 40, 3) := dk_182 0 40 (dk_at dksX10_isValidValue_0 2 rfl rfl)
theorem dX10_isValidValue_5 : decode cX10_isValidValue 5 = .ok (.lcmp, 1) := dk_148 (dk_at dksX10_isValidValue_0 5 rfl rfl)
theorem dX10_isValidValue_6 : decode cX10_isValidValue 6 = .ok (.ifCond .lt 16, 3) := dk_155 0 16 (dk_at dksX10_isValidValue_0 6 rfl rfl)
theorem dX10_isValidValue_9 : decode cX10_isValidValue 9 = .ok (.lload_n 1, 1) := dk_31 (dk_at dksX10_isValidValue_0 9 rfl rfl)
theorem dX10_isValidValue_10 : decode cX10_isValidValue 10 = .ok (.aload_n 0, 1) := dk_42 (dk_at dksX10_isValidValue_0 10 rfl rfl)
theorem dX10_isValidValue_11 : decode cX10_isValidValue 11 = .ok (.invokevirtual 48, 3) := dk_182 0 48 (dk_at dksX10_isValidValue_0 11 rfl rfl)
theorem dX10_isValidValue_14 : decode cX10_isValidValue 14 = .ok (.lcmp, 1) := dk_148 (dk_at dksX10_isValidValue_0 14 rfl rfl)
theorem dX10_isValidValue_15 : decode cX10_isValidValue 15 = .ok (.ifCond .gt 7, 3) := dk_157 0 7 (dk_at dksX10_isValidValue_0 15 rfl rfl)
theorem dX10_isValidValue_18 : decode cX10_isValidValue 18 = .ok (.iconst 1, 1) := dk_4 (dk_at dksX10_isValidValue_0 18 rfl rfl)
theorem dX10_isValidValue_19 : decode cX10_isValidValue 19 = .ok (.goto 4, 3) := dk_167 0 4 (dk_at dksX10_isValidValue_0 19 rfl rfl)
theorem dX10_isValidValue_22 : decode cX10_isValidValue 22 = .ok (.iconst 0, 1) := dk_3 (dk_at dksX10_isValidValue_0 22 rfl rfl)
theorem dX10_isValidValue_23 : decode cX10_isValidValue 23 = .ok (.ireturn, 1) := dk_172 (dk_at dksX10_isValidValue_0 23 rfl rfl)
abbrev cX10_getMinimum : ByteArray := prog_17_method_5_code
def yX10_getMinimum : MethodName := ⟨RX10, "getMinimum", "()J"⟩
theorem dX10_getMinimum_0 : decode cX10_getMinimum 0 = .ok (.aload_n 0, 1) := by decide +kernel
theorem dX10_getMinimum_1 : decode cX10_getMinimum 1 = .ok (.getfield 27, 3) := by decide +kernel
theorem dX10_getMinimum_4 : decode cX10_getMinimum 4 = .ok (.lreturn, 1) := by decide +kernel
abbrev cX10_getMaximum : ByteArray := prog_17_method_6_code
def yX10_getMaximum : MethodName := ⟨RX10, "getMaximum", "()J"⟩
theorem dX10_getMaximum_0 : decode cX10_getMaximum 0 = .ok (.aload_n 0, 1) := by decide +kernel
theorem dX10_getMaximum_1 : decode cX10_getMaximum 1 = .ok (.getfield 37, 3) := by decide +kernel
theorem dX10_getMaximum_4 : decode cX10_getMaximum 4 = .ok (.lreturn, 1) := by decide +kernel
abbrev cX10_toString : ByteArray := prog_17_method_12_code
def yX10_toString : MethodName := ⟨RX10, "toString", "()Ljava/lang/String;"⟩
def dkwX10_toString_3 : List UInt8 := [16, 47, 182, 0, 96, 42, 180, 0, 37, 182, 0, 79, 87, 43, 182, 0, 82, 176]
abbrev dktX10_toString_3 : List UInt8 := dkwX10_toString_3 ++ []
def dkwX10_toString_2 : List UInt8 := [182, 0, 68, 42, 180, 0, 34, 182, 0, 79, 87, 42, 180, 0, 34, 42, 180, 0, 37, 148, 153, 0, 17, 43]
abbrev dktX10_toString_2 : List UInt8 := dkwX10_toString_2 ++ dktX10_toString_3
def dkwX10_toString_1 : List UInt8 := [180, 0, 31, 148, 153, 0, 17, 43, 16, 47, 182, 0, 96, 42, 180, 0, 31, 182, 0, 79, 87, 43, 18, 99]
abbrev dktX10_toString_1 : List UInt8 := dkwX10_toString_1 ++ dktX10_toString_2
def dkwX10_toString_0 : List UInt8 := [187, 0, 63, 89, 183, 0, 65, 76, 43, 42, 180, 0, 27, 182, 0, 79, 87, 42, 180, 0, 27, 42]
abbrev dktX10_toString_0 : List UInt8 := dkwX10_toString_0 ++ dktX10_toString_1
theorem dksX10_toString_0 : cX10_toString.data.toList.drop 0 = dktX10_toString_0 := by decide +kernel
theorem dksX10_toString_1 : cX10_toString.data.toList.drop 22 = dktX10_toString_1 := dk_seg dksX10_toString_0 22 rfl rfl
theorem dksX10_toString_2 : cX10_toString.data.toList.drop 46 = dktX10_toString_2 := dk_seg dksX10_toString_1 24 rfl rfl
theorem dksX10_toString_3 : cX10_toString.data.toList.drop 70 = dktX10_toString_3 := dk_seg dksX10_toString_2 24 rfl rfl
theorem dX10_toString_0 : decode cX10_toString 0 = .ok (.new 63, 3) := dk_187 0 63 (dk_at dksX10_toString_0 0 rfl rfl)
theorem dX10_toString_3 : decode cX10_toString 3 = .ok (.dup, 1) := dk_89 (dk_at dksX10_toString_0 3 rfl rfl)
theorem dX10_toString_4 : decode cX10_toString 4 = .ok (.invokespecial 65, 3) := dk_183 0 65 (dk_at dksX10_toString_0 4 rfl rfl)
theorem dX10_toString_7 : decode cX10_toString 7 = .ok (.astore_n 1, 1) := dk_76 (dk_at dksX10_toString_0 7 rfl rfl)
theorem dX10_toString_8 : decode cX10_toString 8 = .ok (.aload_n 1, 1) := dk_43 (dk_at dksX10_toString_0 8 rfl rfl)
theorem dX10_toString_9 : decode cX10_toString 9 = .ok (.aload_n 0, 1) := dk_42 (dk_at dksX10_toString_0 9 rfl rfl)
theorem dX10_toString_10 : decode cX10_toString 10 = .ok (.getfield 27, 3) := dk_180 0 27 (dk_at dksX10_toString_0 10 rfl rfl)
theorem dX10_toString_13 : decode cX10_toString 13 = .ok (.invokevirtual 79, 3) := dk_182 0 79 (dk_at dksX10_toString_0 13 rfl rfl)
theorem dX10_toString_16 : decode cX10_toString 16 = .ok (.pop, 1) := dk_87 (dk_at dksX10_toString_0 16 rfl rfl)
theorem dX10_toString_17 : decode cX10_toString 17 = .ok (.aload_n 0, 1) := dk_42 (dk_at dksX10_toString_0 17 rfl rfl)
theorem dX10_toString_18 : decode cX10_toString 18 = .ok (.getfield 27, 3) := dk_180 0 27 (dk_at dksX10_toString_0 18 rfl rfl)
theorem dX10_toString_21 : decode cX10_toString 21 = .ok (.aload_n 0, 1) := dk_42 (dk_at dksX10_toString_0 21 rfl rfl)
theorem dX10_toString_22 : decode cX10_toString 22 = .ok (.getfield 31, 3) := dk_180 0 31 (dk_at dksX10_toString_1 0 rfl rfl)
theorem dX10_toString_25 : decode cX10_toString 25 = .ok (.lcmp, 1) := dk_148 (dk_at dksX10_toString_1 3 rfl rfl)
theorem dX10_toString_26 : decode cX10_toString 26 = .ok (.ifCond .eq 17, 3) := dk_153 0 17 (dk_at dksX10_toString_1 4 rfl rfl)
theorem dX10_toString_29 : decode cX10_toString 29 = .ok (.aload_n 1, 1) := dk_43 (dk_at dksX10_toString_1 7 rfl rfl)
theorem dX10_toString_30 : decode cX10_toString 30 = .ok (.bipush 47, 2) := dk_16 47 (dk_at dksX10_toString_1 8 rfl rfl)
theorem dX10_toString_32 : decode cX10_toString 32 = .ok (.invokevirtual 96, 3) := dk_182 0 96 (dk_at dksX10_toString_1 10 rfl rfl)
theorem dX10_toString_35 : decode cX10_toString 35 = .ok (.aload_n 0, 1) := dk_42 (dk_at dksX10_toString_1 13 rfl rfl)
theorem dX10_toString_36 : decode cX10_toString 36 = .ok (.getfield 31, 3) := dk_180 0 31 (dk_at dksX10_toString_1 14 rfl rfl)
theorem dX10_toString_39 : decode cX10_toString 39 = .ok (.invokevirtual 79, 3) := dk_182 0 79 (dk_at dksX10_toString_1 17 rfl rfl)
theorem dX10_toString_42 : decode cX10_toString 42 = .ok (.pop, 1) := dk_87 (dk_at dksX10_toString_1 20 rfl rfl)
theorem dX10_toString_43 : decode cX10_toString 43 = .ok (.aload_n 1, 1) := dk_43 (dk_at dksX10_toString_1 21 rfl rfl)
theorem dX10_toString_44 : decode cX10_toString 44 = .ok (.ldc 99, 2) := dk_18 99 (dk_at dksX10_toString_1 22 rfl rfl)
theorem dX10_toString_46 : decode cX10_toString 46 = .ok (.invokevirtual 68, 3) := dk_182 0 68 (dk_at dksX10_toString_2 0 rfl rfl)
theorem dX10_toString_49 : decode cX10_toString 49 = .ok (.aload_n 0, 1) := dk_42 (dk_at dksX10_toString_2 3 rfl rfl)
theorem dX10_toString_50 : decode cX10_toString 50 = .ok (.getfield 34, 3) := dk_180 0 34 (dk_at dksX10_toString_2 4 rfl rfl)
theorem dX10_toString_53 : decode cX10_toString 53 = .ok (.invokevirtual 79, 3) := dk_182 0 79 (dk_at dksX10_toString_2 7 rfl rfl)
theorem dX10_toString_56 : decode cX10_toString 56 = .ok (.pop, 1) := dk_87 (dk_at dksX10_toString_2 10 rfl rfl)
theorem dX10_toString_57 : decode cX10_toString 57 = .ok (.aload_n 0, 1) := dk_42 (dk_at dksX10_toString_2 11 rfl rfl)
theorem dX10_toString_58 : decode cX10_toString 58 = .ok (.getfield 34, 3) := dk_180 0 34 (dk_at dksX10_toString_2 12 rfl rfl)
theorem dX10_toString_61 : decode cX10_toString 61 = .ok (.aload_n 0, 1) := dk_42 (dk_at dksX10_toString_2 15 rfl rfl)
theorem dX10_toString_62 : decode cX10_toString 62 = .ok (.getfield 37, 3) := dk_180 0 37 (dk_at dksX10_toString_2 16 rfl rfl)
theorem dX10_toString_65 : decode cX10_toString 65 = .ok (.lcmp, 1) := dk_148 (dk_at dksX10_toString_2 19 rfl rfl)
theorem dX10_toString_66 : decode cX10_toString 66 = .ok (.ifCond .eq 17, 3) := dk_153 0 17 (dk_at dksX10_toString_2 20 rfl rfl)
theorem dX10_toString_69 : decode cX10_toString 69 = .ok (.aload_n 1, 1) := dk_43 (dk_at dksX10_toString_2 23 rfl rfl)
theorem dX10_toString_70 : decode cX10_toString 70 = .ok (.bipush 47, 2) := dk_16 47 (dk_at dksX10_toString_3 0 rfl rfl)
theorem dX10_toString_72 : decode cX10_toString 72 = .ok (.invokevirtual 96, 3) := dk_182 0 96 (dk_at dksX10_toString_3 2 rfl rfl)
theorem dX10_toString_75 : decode cX10_toString 75 = .ok (.aload_n 0, 1) := dk_42 (dk_at dksX10_toString_3 5 rfl rfl)
theorem dX10_toString_76 : decode cX10_toString 76 = .ok (.getfield 37, 3) := dk_180 0 37 (dk_at dksX10_toString_3 6 rfl rfl)
theorem dX10_toString_79 : decode cX10_toString 79 = .ok (.invokevirtual 79, 3) := dk_182 0 79 (dk_at dksX10_toString_3 9 rfl rfl)
theorem dX10_toString_82 : decode cX10_toString 82 = .ok (.pop, 1) := dk_87 (dk_at dksX10_toString_3 12 rfl rfl)
theorem dX10_toString_83 : decode cX10_toString 83 = .ok (.aload_n 1, 1) := dk_43 (dk_at dksX10_toString_3 13 rfl rfl)
theorem dX10_toString_84 : decode cX10_toString 84 = .ok (.invokevirtual 82, 3) := dk_182 0 82 (dk_at dksX10_toString_3 14 rfl rfl)
theorem dX10_toString_87 : decode cX10_toString 87 = .ok (.areturn, 1) := dk_176 (dk_at dksX10_toString_3 17 rfl rfl)
abbrev cX10_checkValidIntValue : ByteArray := prog_17_method_11_code
def yX10_checkValidIntValue : MethodName := ⟨RX10, "checkValidIntValue", "(JLTemporalField;)I"⟩
def dkwX10_checkValidIntValue_1 : List UInt8 := [45, 182, 0, 72, 18, 94, 182, 0, 68, 31, 182, 0, 79, 182, 0, 82, 183, 0, 86, 191, 31, 136, 172]
abbrev dktX10_checkValidIntValue_1 : List UInt8 := dkwX10_checkValidIntValue_1 ++ []
def dkwX10_checkValidIntValue_0 : List UInt8 := [42, 31, 182, 0, 89, 154, 0, 39, 187, 0, 61, 89, 187, 0, 63, 89, 183, 0, 65, 18, 92, 182, 0, 68]
abbrev dktX10_checkValidIntValue_0 : List UInt8 := dkwX10_checkValidIntValue_0 ++ dktX10_checkValidIntValue_1
theorem dksX10_checkValidIntValue_0 : cX10_checkValidIntValue.data.toList.drop 0 = dktX10_checkValidIntValue_0 := by decide +kernel
theorem dksX10_checkValidIntValue_1 : cX10_checkValidIntValue.data.toList.drop 24 = dktX10_checkValidIntValue_1 := dk_seg dksX10_checkValidIntValue_0 24 rfl rfl
theorem dX10_checkValidIntValue_0 : decode cX10_checkValidIntValue 0 = .ok (.aload_n 0, 1) := dk_42 (dk_at dksX10_checkValidIntValue_0 0 rfl rfl)
theorem dX10_checkValidIntValue_1 : decode cX10_checkValidIntValue 1 = .ok (.lload_n 1, 1) := dk_31 (dk_at dksX10_checkValidIntValue_0 1 rfl rfl)
theorem dX10_checkValidIntValue_2 : decode cX10_checkValidIntValue 2 = .ok (.invokevirtual 89, 3) := dk_182 0 89 (dk_at dksX10_checkValidIntValue_0 2 rfl rfl)
theorem dX10_checkValidIntValue_5 : decode cX10_checkValidIntValue 5 = .ok (.ifCond .ne 39, 3) := dk_154 0 39 (dk_at dksX10_checkValidIntValue_0 5 rfl rfl)
theorem dX10_checkValidIntValue_8 : decode cX10_checkValidIntValue 8 = .ok (.new 61, 3) := dk_187 0 61 (dk_at dksX10_checkValidIntValue_0 8 rfl rfl)
theorem dX10_checkValidIntValue_11 : decode cX10_checkValidIntValue 11 = .ok (.dup, 1) := dk_89 (dk_at dksX10_checkValidIntValue_0 11 rfl rfl)
theorem dX10_checkValidIntValue_12 : decode cX10_checkValidIntValue 12 = .ok (.new 63, 3) := dk_187 0 63 (dk_at dksX10_checkValidIntValue_0 12 rfl rfl)
theorem dX10_checkValidIntValue_15 : decode cX10_checkValidIntValue 15 = .ok (.dup, 1) := dk_89 (dk_at dksX10_checkValidIntValue_0 15 rfl rfl)
theorem dX10_checkValidIntValue_16 : decode cX10_checkValidIntValue 16 = .ok (.invokespecial 65, 3) := dk_183 0 65 (dk_at dksX10_checkValidIntValue_0 16 rfl rfl)
theorem dX10_checkValidIntValue_19 : decode cX10_checkValidIntValue 19 = .ok (.ldc 92, 2) := dk_18 92 (dk_at dksX10_checkValidIntValue_0 19 rfl rfl)
theorem dX10_checkValidIntValue_21 : decode cX10_checkValidIntValue 21 = .ok (.invokevirtual 68, 3) := dk_182 0 68 (dk_at dksX10_checkValidIntValue_0 21 rfl rfl)
theorem dX10_checkValidIntValue_24 : decode cX10_checkValidIntValue 24 = .ok (.aload_n 3, 1) := dk_45 (dk_at dksX10_checkValidIntValue_1 0 rfl rfl)
theorem dX10_checkValidIntValue_25 : decode cX10_checkValidIntValue 25 = .ok (.invokevirtual 72, 3) := dk_182 0 72 (dk_at dksX10_checkValidIntValue_1 1 rfl rfl)
theorem dX10_checkValidIntValue_28 : decode cX10_checkValidIntValue 28 = .ok (.ldc 94, 2) := dk_18 94 (dk_at dksX10_checkValidIntValue_1 4 rfl rfl)
theorem dX10_checkValidIntValue_30 : decode cX10_checkValidIntValue 30 = .ok (.invokevirtual 68, 3) := dk_182 0 68 (dk_at dksX10_checkValidIntValue_1 6 rfl rfl)
theorem dX10_checkValidIntValue_33 : decode cX10_checkValidIntValue 33 = .ok (.lload_n 1, 1) := dk_31 (dk_at dksX10_checkValidIntValue_1 9 rfl rfl)
theorem dX10_checkValidIntValue_34 : decode cX10_checkValidIntValue 34 = .ok (.invokevirtual 79, 3) := dk_182 0 79 (dk_at dksX10_checkValidIntValue_1 10 rfl rfl)
theorem dX10_checkValidIntValue_37 : decode cX10_checkValidIntValue 37 = .ok (.invokevirtual 82, 3) := dk_182 0 82 (dk_at dksX10_checkValidIntValue_1 13 rfl rfl)
theorem dX10_checkValidIntValue_40 : decode cX10_checkValidIntValue 40 = .ok (.invokespecial 86, 3) := dk_183 0 86 (dk_at dksX10_checkValidIntValue_1 16 rfl rfl)
theorem dX10_checkValidIntValue_43 : decode cX10_checkValidIntValue 43 = .ok (.athrow, 1) := dk_191 (dk_at dksX10_checkValidIntValue_1 19 rfl rfl)
theorem dX10_checkValidIntValue_44 : decode cX10_checkValidIntValue 44 = .ok (.lload_n 1, 1) := dk_31 (dk_at dksX10_checkValidIntValue_1 20 rfl rfl)
theorem dX10_checkValidIntValue_45 : decode cX10_checkValidIntValue 45 = .ok (.l2i, 1) := dk_136 (dk_at dksX10_checkValidIntValue_1 21 rfl rfl)
theorem dX10_checkValidIntValue_46 : decode cX10_checkValidIntValue 46 = .ok (.ireturn, 1) := dk_172 (dk_at dksX10_checkValidIntValue_1 22 rfl rfl)
abbrev cX10_isValidIntValue : ByteArray := prog_17_method_9_code
def yX10_isValidIntValue : MethodName := ⟨RX10, "isValidIntValue", "(J)Z"⟩
def dkwX10_isValidIntValue_0 : List UInt8 := [42, 182, 0, 53, 153, 0, 15, 42, 31, 182, 0, 57, 153, 0, 7, 4, 167, 0, 4, 3, 172]
abbrev dktX10_isValidIntValue_0 : List UInt8 := dkwX10_isValidIntValue_0 ++ []
theorem dksX10_isValidIntValue_0 : cX10_isValidIntValue.data.toList.drop 0 = dktX10_isValidIntValue_0 := by decide +kernel
theorem dX10_isValidIntValue_0 : decode cX10_isValidIntValue 0 = .ok (.aload_n 0, 1) := dk_42 (dk_at dksX10_isValidIntValue_0 0 rfl rfl)
theorem dX10_isValidIntValue_1 : decode cX10_isValidIntValue 1 = .ok (.invokevirtual 53, 3) := dk_182 0 53 (dk_at dksX10_isValidIntValue_0 1 rfl rfl)
theorem dX10_isValidIntValue_4 : decode cX10_isValidIntValue 4 = .ok (.ifCond .eq 15, 3) := dk_153 0 15 (dk_at dksX10_isValidIntValue_0 4 rfl rfl)
theorem dX10_isValidIntValue_7 : decode cX10_isValidIntValue 7 = .ok (.aload_n 0, 1) := dk_42 (dk_at dksX10_isValidIntValue_0 7 rfl rfl)
theorem dX10_isValidIntValue_8 : decode cX10_isValidIntValue 8 = .ok (.lload_n 1, 1) := dk_31 (dk_at dksX10_isValidIntValue_0 8 rfl rfl)
theorem dX10_isValidIntValue_9 : decode cX10_isValidIntValue 9 = .ok (.invokevirtual 57, 3) := dk_182 0 57 (dk_at dksX10_isValidIntValue_0 9 rfl rfl)
theorem dX10_isValidIntValue_12 : decode cX10_isValidIntValue 12 = .ok (.ifCond .eq 7, 3) := dk_153 0 7 (dk_at dksX10_isValidIntValue_0 12 rfl rfl)
theorem dX10_isValidIntValue_15 : decode cX10_isValidIntValue 15 = .ok (.iconst 1, 1) := dk_4 (dk_at dksX10_isValidIntValue_0 15 rfl rfl)
theorem dX10_isValidIntValue_16 : decode cX10_isValidIntValue 16 = .ok (.goto 4, 3) := dk_167 0 4 (dk_at dksX10_isValidIntValue_0 16 rfl rfl)
theorem dX10_isValidIntValue_19 : decode cX10_isValidIntValue 19 = .ok (.iconst 0, 1) := dk_3 (dk_at dksX10_isValidIntValue_0 19 rfl rfl)
theorem dX10_isValidIntValue_20 : decode cX10_isValidIntValue 20 = .ok (.ireturn, 1) := dk_172 (dk_at dksX10_isValidIntValue_0 20 rfl rfl)
abbrev cX10_isIntValue : ByteArray := prog_17_method_7_code
def yX10_isIntValue : MethodName := ⟨RX10, "isIntValue", "()Z"⟩
def dkwX10_isIntValue_1 : List UInt8 := [167, 0, 4, 3, 172]
abbrev dktX10_isIntValue_1 : List UInt8 := dkwX10_isIntValue_1 ++ []
def dkwX10_isIntValue_0 : List UInt8 := [42, 182, 0, 40, 20, 0, 46, 148, 155, 0, 18, 42, 182, 0, 48, 20, 0, 51, 148, 157, 0, 7, 4]
abbrev dktX10_isIntValue_0 : List UInt8 := dkwX10_isIntValue_0 ++ dktX10_isIntValue_1
theorem dksX10_isIntValue_0 : cX10_isIntValue.data.toList.drop 0 = dktX10_isIntValue_0 := by decide +kernel
theorem dksX10_isIntValue_1 : cX10_isIntValue.data.toList.drop 23 = dktX10_isIntValue_1 := dk_seg dksX10_isIntValue_0 23 rfl rfl
theorem dX10_isIntValue_0 : decode cX10_isIntValue 0 = .ok (.aload_n 0, 1) := dk_42 (dk_at dksX10_isIntValue_0 0 rfl rfl)
theorem dX10_isIntValue_1 : decode cX10_isIntValue 1 = .ok (.invokevirtual 40, 3) := dk_182 0 40 (dk_at dksX10_isIntValue_0 1 rfl rfl)
theorem dX10_isIntValue_4 : decode cX10_isIntValue 4 = .ok (.ldc2_w 46, 3) := dk_20 0 46 (dk_at dksX10_isIntValue_0 4 rfl rfl)
theorem dX10_isIntValue_7 : decode cX10_isIntValue 7 = .ok (.lcmp, 1) := dk_148 (dk_at dksX10_isIntValue_0 7 rfl rfl)
theorem dX10_isIntValue_8 : decode cX10_isIntValue 8 = .ok (.ifCond .lt 18, 3) := dk_155 0 18 (dk_at dksX10_isIntValue_0 8 rfl rfl)
theorem dX10_isIntValue_11 : decode cX10_isIntValue 11 = .ok (.aload_n 0, 1) := dk_42 (dk_at dksX10_isIntValue_0 11 rfl rfl)
theorem dX10_isIntValue_12 : decode cX10_isIntValue 12 = .ok (.invokevirtual 48, 3) := dk_182 0 48 (dk_at dksX10_isIntValue_0 12 rfl rfl)
theorem dX10_isIntValue_15 : decode cX10_isIntValue 15 = .ok (.ldc2_w 51, 3) := dk_20 0 51 (dk_at dksX10_isIntValue_0 15 rfl rfl)
theorem dX10_isIntValue_18 : decode cX10_isIntValue 18 = .ok (.lcmp, 1) := dk_148 (dk_at dksX10_isIntValue_0 18 rfl rfl)
theorem dX10_isIntValue_19 : decode cX10_isIntValue 19 = .ok (.ifCond .gt 7, 3) := dk_157 0 7 (dk_at dksX10_isIntValue_0 19 rfl rfl)
theorem dX10_isIntValue_22 : decode cX10_isIntValue 22 = .ok (.iconst 1, 1) := dk_4 (dk_at dksX10_isIntValue_0 22 rfl rfl)
theorem dX10_isIntValue_23 : decode cX10_isIntValue 23 = .ok (.goto 4, 3) := dk_167 0 4 (dk_at dksX10_isIntValue_1 0 rfl rfl)
theorem dX10_isIntValue_26 : decode cX10_isIntValue 26 = .ok (.iconst 0, 1) := dk_3 (dk_at dksX10_isIntValue_1 3 rfl rfl)
theorem dX10_isIntValue_27 : decode cX10_isIntValue 27 = .ok (.ireturn, 1) := dk_172 (dk_at dksX10_isIntValue_1 4 rfl rfl)
theorem q60 : (Jvm.Cond.instanceMethod ({ cls := "ValueRange", name := "checkValidValue", desc := "(JLTemporalField;)J" } : Jvm.MethodName)) ∈ lw_all := lw_g (lw_at lw_m1 59 rfl) rfl
theorem q61 : (Jvm.Cond.selects "ValueRange" ({ cls := "ValueRange", name := "checkValidValue", desc := "(JLTemporalField;)J" } : Jvm.MethodName) ({ cls := "ValueRange", name := "checkValidValue", desc := "(JLTemporalField;)J" } : Jvm.MethodName)) ∈ lw_all := lw_g (lw_at lw_m1 60 rfl) rfl
theorem q62 : (Jvm.Cond.code ({ cls := "ValueRange", name := "checkValidValue", desc := "(JLTemporalField;)J" } : Jvm.MethodName) prog_17_method_10_code (4 : Nat) (Option.some Jvm.ClassFile.FieldType.long)) ∈ lw_all := lw_g (lw_at lw_m1 61 rfl) rfl
theorem q63 : (Jvm.Cond.methodLink "ValueRange" (57 : Nat) ({ cls := "ValueRange", name := "isValidValue", desc := "(J)Z" } : Jvm.MethodName)) ∈ lw_all := lw_g (lw_at lw_m1 62 rfl) rfl
theorem q64 : (Jvm.Cond.instanceMethod ({ cls := "ValueRange", name := "isValidValue", desc := "(J)Z" } : Jvm.MethodName)) ∈ lw_all := lw_g (lw_at lw_m1 63 rfl) rfl
theorem q65 : (Jvm.Cond.selects "ValueRange" ({ cls := "ValueRange", name := "isValidValue", desc := "(J)Z" } : Jvm.MethodName) ({ cls := "ValueRange", name := "isValidValue", desc := "(J)Z" } : Jvm.MethodName)) ∈ lw_all := lw_g (lw_at lw_m1 64 rfl) rfl
theorem q66 : (Jvm.Cond.code ({ cls := "ValueRange", name := "isValidValue", desc := "(J)Z" } : Jvm.MethodName) prog_17_method_8_code (3 : Nat) (Option.some Jvm.ClassFile.FieldType.boolean)) ∈ lw_all := lw_g (lw_at lw_m1 65 rfl) rfl
theorem q67 : (Jvm.Cond.methodLink "ValueRange" (40 : Nat) ({ cls := "ValueRange", name := "getMinimum", desc := "()J" } : Jvm.MethodName)) ∈ lw_all := lw_g (lw_at lw_m1 66 rfl) rfl
theorem q68 : (Jvm.Cond.instanceMethod ({ cls := "ValueRange", name := "getMinimum", desc := "()J" } : Jvm.MethodName)) ∈ lw_all := lw_g (lw_at lw_m1 67 rfl) rfl
theorem q69 : (Jvm.Cond.selects "ValueRange" ({ cls := "ValueRange", name := "getMinimum", desc := "()J" } : Jvm.MethodName) ({ cls := "ValueRange", name := "getMinimum", desc := "()J" } : Jvm.MethodName)) ∈ lw_all := lw_g (lw_at lw_m1 68 rfl) rfl
theorem q70 : (Jvm.Cond.code ({ cls := "ValueRange", name := "getMinimum", desc := "()J" } : Jvm.MethodName) prog_17_method_5_code (1 : Nat) (Option.some Jvm.ClassFile.FieldType.long)) ∈ lw_all := lw_g (lw_at lw_m1 69 rfl) rfl
theorem q71 : (Jvm.Cond.methodLink "ValueRange" (48 : Nat) ({ cls := "ValueRange", name := "getMaximum", desc := "()J" } : Jvm.MethodName)) ∈ lw_all := lw_g (lw_at lw_m1 70 rfl) rfl
theorem q72 : (Jvm.Cond.instanceMethod ({ cls := "ValueRange", name := "getMaximum", desc := "()J" } : Jvm.MethodName)) ∈ lw_all := lw_g (lw_at lw_m1 71 rfl) rfl
theorem q73 : (Jvm.Cond.selects "ValueRange" ({ cls := "ValueRange", name := "getMaximum", desc := "()J" } : Jvm.MethodName) ({ cls := "ValueRange", name := "getMaximum", desc := "()J" } : Jvm.MethodName)) ∈ lw_all := lw_g (lw_at lw_m1 72 rfl) rfl
theorem q74 : (Jvm.Cond.code ({ cls := "ValueRange", name := "getMaximum", desc := "()J" } : Jvm.MethodName) prog_17_method_6_code (1 : Nat) (Option.some Jvm.ClassFile.FieldType.long)) ∈ lw_all := lw_g (lw_at lw_m1 73 rfl) rfl
theorem q75 : (Jvm.Cond.classLink "ValueRange" (61 : Nat) "DateTimeException") ∈ lw_all := lw_g (lw_at lw_m1 74 rfl) rfl
theorem q114 : (Jvm.Cond.classLink "ValueRange" (63 : Nat) "java/lang/StringBuilder") ∈ lw_all := lw_g (lw_at lw_m1 113 rfl) rfl
theorem q116 : (Jvm.Cond.methodLink "ValueRange" (65 : Nat) ({ cls := "java/lang/StringBuilder", name := "<init>", desc := "()V" } : Jvm.MethodName)) ∈ lw_all := lw_g (lw_at lw_m1 115 rfl) rfl
theorem q146 : (Jvm.Cond.stringRef "ValueRange" (66 : Nat) "Invalid value for ") ∈ lw_tbl := lw_at lw_m1 145 rfl
theorem q147 : (Jvm.Cond.methodLink "ValueRange" (68 : Nat) ({ cls := "java/lang/StringBuilder", name := "append", desc := "(Ljava/lang/String;)Ljava/lang/StringBuilder;" } : Jvm.MethodName)) ∈ lw_all := lw_g (lw_at lw_m1 146 rfl) rfl
theorem q267 : (Jvm.Cond.methodLink "ValueRange" (72 : Nat) ({ cls := "java/lang/StringBuilder", name := "append", desc := "(Ljava/lang/Object;)Ljava/lang/StringBuilder;" } : Jvm.MethodName)) ∈ lw_all := lw_g (lw_at lw_m2 26 rfl) rfl
theorem q294 : (Jvm.Cond.selects "ValueRange" ({ cls := "java/lang/Object", name := "getClass", desc := "()Ljava/lang/Class;" } : Jvm.MethodName) ({ cls := "java/lang/Object", name := "getClass", desc := "()Ljava/lang/Class;" } : Jvm.MethodName)) ∈ lw_all := lw_g (lw_at lw_m2 53 rfl) rfl
theorem q378 : (Jvm.Cond.selects "ValueRange" ({ cls := "java/lang/Object", name := "toString", desc := "()Ljava/lang/String;" } : Jvm.MethodName) ({ cls := "ValueRange", name := "toString", desc := "()Ljava/lang/String;" } : Jvm.MethodName)) ∈ lw_all := lw_g (lw_at lw_m2 137 rfl) rfl
theorem q379 : (Jvm.Cond.instanceMethod ({ cls := "ValueRange", name := "toString", desc := "()Ljava/lang/String;" } : Jvm.MethodName)) ∈ lw_all := lw_g (lw_at lw_m2 138 rfl) rfl
theorem q380 : (Jvm.Cond.code ({ cls := "ValueRange", name := "toString", desc := "()Ljava/lang/String;" } : Jvm.MethodName) prog_17_method_12_code (2 : Nat) (Option.some (Jvm.ClassFile.FieldType.object "java/lang/String"))) ∈ lw_all := lw_g (lw_at lw_m2 139 rfl) rfl
theorem q381 : (Jvm.Cond.methodLink "ValueRange" (79 : Nat) ({ cls := "java/lang/StringBuilder", name := "append", desc := "(J)Ljava/lang/StringBuilder;" } : Jvm.MethodName)) ∈ lw_all := lw_g (lw_at lw_m2 140 rfl) rfl
theorem q412 : (Jvm.Cond.methodLink "ValueRange" (96 : Nat) ({ cls := "java/lang/StringBuilder", name := "append", desc := "(C)Ljava/lang/StringBuilder;" } : Jvm.MethodName)) ∈ lw_all := lw_g (lw_at lw_m2 171 rfl) rfl
theorem q434 : (Jvm.Cond.stringRef "ValueRange" (99 : Nat) " - ") ∈ lw_tbl := lw_at lw_m2 193 rfl
theorem q435 : (Jvm.Cond.methodLink "ValueRange" (82 : Nat) ({ cls := "java/lang/StringBuilder", name := "toString", desc := "()Ljava/lang/String;" } : Jvm.MethodName)) ∈ lw_all := lw_g (lw_at lw_m2 194 rfl) rfl
theorem q441 : (Jvm.Cond.stringRef "ValueRange" (75 : Nat) " (valid values ") ∈ lw_tbl := lw_at lw_m2 200 rfl
theorem q442 : (Jvm.Cond.stringRef "ValueRange" (77 : Nat) "): ") ∈ lw_tbl := lw_at lw_m2 201 rfl
theorem q443 : (Jvm.Cond.methodLink "ValueRange" (86 : Nat) ({ cls := "DateTimeException", name := "<init>", desc := "(Ljava/lang/String;)V" } : Jvm.MethodName)) ∈ lw_all := lw_g (lw_at lw_m2 202 rfl) rfl
theorem q468 : (Jvm.Cond.stringRef "ValueRange" (87 : Nat) "Invalid value (valid values ") ∈ lw_tbl := lw_at lw_m2 227 rfl
theorem q484 : (Jvm.Cond.instanceMethod ({ cls := "ValueRange", name := "checkValidIntValue", desc := "(JLTemporalField;)I" } : Jvm.MethodName)) ∈ lw_all := lw_g (lw_at lw_m3 3 rfl) rfl
theorem q485 : (Jvm.Cond.selects "ValueRange" ({ cls := "ValueRange", name := "checkValidIntValue", desc := "(JLTemporalField;)I" } : Jvm.MethodName) ({ cls := "ValueRange", name := "checkValidIntValue", desc := "(JLTemporalField;)I" } : Jvm.MethodName)) ∈ lw_all := lw_g (lw_at lw_m3 4 rfl) rfl
theorem q486 : (Jvm.Cond.code ({ cls := "ValueRange", name := "checkValidIntValue", desc := "(JLTemporalField;)I" } : Jvm.MethodName) prog_17_method_11_code (4 : Nat) (Option.some Jvm.ClassFile.FieldType.int)) ∈ lw_all := lw_g (lw_at lw_m3 5 rfl) rfl
theorem q487 : (Jvm.Cond.methodLink "ValueRange" (89 : Nat) ({ cls := "ValueRange", name := "isValidIntValue", desc := "(J)Z" } : Jvm.MethodName)) ∈ lw_all := lw_g (lw_at lw_m3 6 rfl) rfl
theorem q488 : (Jvm.Cond.instanceMethod ({ cls := "ValueRange", name := "isValidIntValue", desc := "(J)Z" } : Jvm.MethodName)) ∈ lw_all := lw_g (lw_at lw_m3 7 rfl) rfl
theorem q489 : (Jvm.Cond.selects "ValueRange" ({ cls := "ValueRange", name := "isValidIntValue", desc := "(J)Z" } : Jvm.MethodName) ({ cls := "ValueRange", name := "isValidIntValue", desc := "(J)Z" } : Jvm.MethodName)) ∈ lw_all := lw_g (lw_at lw_m3 8 rfl) rfl
theorem q490 : (Jvm.Cond.code ({ cls := "ValueRange", name := "isValidIntValue", desc := "(J)Z" } : Jvm.MethodName) prog_17_method_9_code (3 : Nat) (Option.some Jvm.ClassFile.FieldType.boolean)) ∈ lw_all := lw_g (lw_at lw_m3 9 rfl) rfl
theorem q491 : (Jvm.Cond.methodLink "ValueRange" (53 : Nat) ({ cls := "ValueRange", name := "isIntValue", desc := "()Z" } : Jvm.MethodName)) ∈ lw_all := lw_g (lw_at lw_m3 10 rfl) rfl
theorem q492 : (Jvm.Cond.instanceMethod ({ cls := "ValueRange", name := "isIntValue", desc := "()Z" } : Jvm.MethodName)) ∈ lw_all := lw_g (lw_at lw_m3 11 rfl) rfl
theorem q493 : (Jvm.Cond.selects "ValueRange" ({ cls := "ValueRange", name := "isIntValue", desc := "()Z" } : Jvm.MethodName) ({ cls := "ValueRange", name := "isIntValue", desc := "()Z" } : Jvm.MethodName)) ∈ lw_all := lw_g (lw_at lw_m3 12 rfl) rfl
theorem q494 : (Jvm.Cond.code ({ cls := "ValueRange", name := "isIntValue", desc := "()Z" } : Jvm.MethodName) prog_17_method_7_code (1 : Nat) (Option.some Jvm.ClassFile.FieldType.boolean)) ∈ lw_all := lw_g (lw_at lw_m3 13 rfl) rfl
theorem q495 : (Jvm.Cond.constantLong "ValueRange" (46 : Nat) (-2147483648 : Int64)) ∈ lw_all := lw_g (lw_at lw_m3 14 rfl) rfl
theorem q496 : (Jvm.Cond.constantLong "ValueRange" (51 : Nat) (2147483647 : Int64)) ∈ lw_all := lw_g (lw_at lw_m3 15 rfl) rfl
theorem q497 : (Jvm.Cond.stringRef "ValueRange" (92 : Nat) "Invalid int value for ") ∈ lw_tbl := lw_at lw_m3 16 rfl
theorem q498 : (Jvm.Cond.stringRef "ValueRange" (94 : Nat) ": ") ∈ lw_tbl := lw_at lw_m3 17 rfl
theorem q727 : (Jvm.Cond.fieldLink "ValueRange" (27 : Nat) "ValueRange" "minSmallest" "J") ∈ lw_all := lw_g (lw_at lw_m4 6 rfl) rfl
theorem q728 : (Jvm.Cond.fieldLink "ValueRange" (37 : Nat) "ValueRange" "maxLargest" "J") ∈ lw_all := lw_g (lw_at lw_m4 7 rfl) rfl
theorem q731 : (Jvm.Cond.fieldLink "ValueRange" (31 : Nat) "ValueRange" "minLargest" "J") ∈ lw_all := lw_g (lw_at lw_m4 10 rfl) rfl
theorem q732 : (Jvm.Cond.fieldLink "ValueRange" (34 : Nat) "ValueRange" "maxSmallest" "J") ∈ lw_all := lw_g (lw_at lw_m4 11 rfl) rfl

theorem q145 : (Jvm.Cond.arrayClass Jvm.ClassFile.FieldType.byte) ∈ lw_all := lw_g (lw_at lw_m1 144 rfl) rfl
set_option maxRecDepth 100000
theorem q703 : (Jvm.Cond.arrayClass Jvm.ClassFile.FieldType.long) ∈ lw_all := lw_g (lw_at lw_m3 222 rfl) rfl
end
section
/-! DayCountLaw -/
set_option maxRecDepth 100000
def RX0 : String := "DayCountLaw"
abbrev cX0_cell : ByteArray := method_2_code
def yX0_cell : MethodName := ⟨RX0, "cell", "([II)I"⟩
def dkwX0_cell_0 : List UInt8 := [27, 42, 190, 162, 0, 9, 42, 27, 46, 167, 0, 4, 3, 172]
abbrev dktX0_cell_0 : List UInt8 := dkwX0_cell_0 ++ []
theorem dksX0_cell_0 : cX0_cell.data.toList.drop 0 = dktX0_cell_0 := by decide +kernel
theorem dX0_cell_0 : decode cX0_cell 0 = .ok (.iload_n 1, 1) := dk_27 (dk_at dksX0_cell_0 0 rfl rfl)
theorem dX0_cell_1 : decode cX0_cell 1 = .ok (.aload_n 0, 1) := dk_42 (dk_at dksX0_cell_0 1 rfl rfl)
theorem dX0_cell_2 : decode cX0_cell 2 = .ok (.arraylength, 1) := dk_190 (dk_at dksX0_cell_0 2 rfl rfl)
theorem dX0_cell_3 : decode cX0_cell 3 = .ok (.if_icmp .ge 9, 3) := dk_162 0 9 (dk_at dksX0_cell_0 3 rfl rfl)
theorem dX0_cell_6 : decode cX0_cell 6 = .ok (.aload_n 0, 1) := dk_42 (dk_at dksX0_cell_0 6 rfl rfl)
theorem dX0_cell_7 : decode cX0_cell 7 = .ok (.iload_n 1, 1) := dk_27 (dk_at dksX0_cell_0 7 rfl rfl)
theorem dX0_cell_8 : decode cX0_cell 8 = .ok (.iaload, 1) := dk_46 (dk_at dksX0_cell_0 8 rfl rfl)
theorem dX0_cell_9 : decode cX0_cell 9 = .ok (.goto 4, 3) := dk_167 0 4 (dk_at dksX0_cell_0 9 rfl rfl)
theorem dX0_cell_12 : decode cX0_cell 12 = .ok (.iconst 0, 1) := dk_3 (dk_at dksX0_cell_0 12 rfl rfl)
theorem dX0_cell_13 : decode cX0_cell 13 = .ok (.ireturn, 1) := dk_172 (dk_at dksX0_cell_0 13 rfl rfl)
abbrev cX0_elder : ByteArray := method_5_code
def yX0_elder : MethodName := ⟨RX0, "elder", "([I)Z"⟩
def dkwX0_elder_18 : List UInt8 := [160, 0, 7, 4, 167, 0, 4, 3, 172]
abbrev dktX0_elder_18 : List UInt8 := dkwX0_elder_18 ++ []
def dkwX0_elder_17 : List UInt8 := [45, 182, 0, 14, 21, 4, 4, 96, 160, 0, 23, 45, 182, 0, 18, 4, 160, 0, 15, 45, 182, 0, 21, 4]
abbrev dktX0_elder_17 : List UInt8 := dkwX0_elder_17 ++ dktX0_elder_18
def dkwX0_elder_16 : List UInt8 := [182, 0, 18, 21, 5, 4, 96, 160, 0, 15, 45, 182, 0, 21, 4, 160, 0, 7, 4, 167, 0, 4, 3, 172]
abbrev dktX0_elder_16 : List UInt8 := dkwX0_elder_16 ++ dktX0_elder_17
def dkwX0_elder_15 : List UInt8 := [167, 0, 4, 3, 172, 21, 5, 16, 12, 162, 0, 37, 45, 182, 0, 14, 21, 4, 160, 0, 26, 45]
abbrev dktX0_elder_15 : List UInt8 := dkwX0_elder_15 ++ dktX0_elder_16
def dkwX0_elder_14 : List UInt8 := [160, 0, 27, 45, 182, 0, 18, 21, 5, 160, 0, 18, 45, 182, 0, 21, 21, 6, 4, 96, 160, 0, 7, 4]
abbrev dktX0_elder_14 : List UInt8 := dkwX0_elder_14 ++ dktX0_elder_15
def dkwX0_elder_13 : List UInt8 := [153, 0, 5, 3, 172, 21, 6, 21, 5, 21, 8, 184, 0, 53, 162, 0, 38, 45, 182, 0, 14, 21, 4]
abbrev dktX0_elder_13 : List UInt8 := dkwX0_elder_13 ++ dktX0_elder_14
def dkwX0_elder_12 : List UInt8 := [16, 32, 123, 136, 31, 10, 97, 136, 182, 0, 10, 153, 0, 14, 45, 182, 0, 49, 31, 10, 97, 148]
abbrev dktX0_elder_12 : List UInt8 := dkwX0_elder_12 ++ dktX0_elder_13
def dkwX0_elder_11 : List UInt8 := [54, 9, 132, 10, 1, 167, 255, 234, 21, 7, 21, 9, 21, 6, 96, 159, 0, 5, 3, 172, 45, 31, 10, 97]
abbrev dktX0_elder_11 : List UInt8 := dkwX0_elder_11 ++ dktX0_elder_12
def dkwX0_elder_10 : List UInt8 := [172, 3, 54, 9, 4, 54, 10, 21, 10, 21, 5, 162, 0, 21, 21, 9, 21, 10, 21, 8, 184, 0, 53, 96]
abbrev dktX0_elder_10 : List UInt8 := dkwX0_elder_10 ++ dktX0_elder_11
def dkwX0_elder_9 : List UInt8 := [159, 0, 5, 3, 172, 21, 6, 4, 161, 0, 15, 21, 6, 21, 5, 21, 8, 184, 0, 53, 164, 0, 5, 3]
abbrev dktX0_elder_9 : List UInt8 := dkwX0_elder_9 ++ dktX0_elder_10
def dkwX0_elder_8 : List UInt8 := [21, 5, 4, 161, 0, 24, 21, 5, 16, 12, 163, 0, 17, 45, 182, 0, 31, 21, 5, 21, 8, 184, 0, 53]
abbrev dktX0_elder_8 : List UInt8 := dkwX0_elder_8 ++ dktX0_elder_9
def dkwX0_elder_7 : List UInt8 := [17, 1, 144, 112, 154, 0, 7, 4, 167, 0, 4, 3, 54, 8, 45, 182, 0, 27, 21, 8, 160, 0, 30]
abbrev dktX0_elder_7 : List UInt8 := dkwX0_elder_7 ++ dktX0_elder_8
def dkwX0_elder_6 : List UInt8 := [45, 182, 0, 24, 54, 7, 21, 4, 6, 126, 154, 0, 24, 21, 4, 16, 100, 112, 154, 0, 12, 21, 4]
abbrev dktX0_elder_6 : List UInt8 := dkwX0_elder_6 ++ dktX0_elder_7
def dkwX0_elder_5 : List UInt8 := [148, 153, 0, 5, 3, 172, 45, 182, 0, 14, 54, 4, 45, 182, 0, 18, 54, 5, 45, 182, 0, 21, 54, 6]
abbrev dktX0_elder_5 : List UInt8 := dkwX0_elder_5 ++ dktX0_elder_6
def dkwX0_elder_4 : List UInt8 := [159, 0, 5, 3, 172, 45, 31, 16, 32, 123, 136, 31, 136, 182, 0, 10, 153, 0, 12, 45, 182, 0, 49, 31]
abbrev dktX0_elder_4 : List UInt8 := dkwX0_elder_4 ++ dktX0_elder_5
def dkwX0_elder_3 : List UInt8 := [182, 0, 14, 17, 7, 178, 160, 0, 19, 45, 182, 0, 18, 4, 160, 0, 11, 45, 182, 0, 21, 4]
abbrev dktX0_elder_3 : List UInt8 := dkwX0_elder_3 ++ dktX0_elder_4
def dkwX0_elder_2 : List UInt8 := [184, 0, 39, 133, 64, 187, 0, 7, 89, 183, 0, 9, 78, 45, 182, 0, 49, 9, 148, 154, 0, 29, 45]
abbrev dktX0_elder_2 : List UInt8 := dkwX0_elder_2 ++ dktX0_elder_3
def dkwX0_elder_1 : List UInt8 := [20, 0, 43, 127, 129, 64, 31, 20, 0, 45, 148, 155, 0, 11, 31, 20, 0, 47, 148, 155, 0, 10, 42, 4]
abbrev dktX0_elder_1 : List UInt8 := dkwX0_elder_1 ++ dktX0_elder_2
def dkwX0_elder_0 : List UInt8 := [184, 0, 34, 154, 0, 5, 3, 172, 42, 3, 184, 0, 39, 133, 16, 32, 121, 42, 4, 184, 0, 39, 133]
abbrev dktX0_elder_0 : List UInt8 := dkwX0_elder_0 ++ dktX0_elder_1
theorem dksX0_elder_0 : cX0_elder.data.toList.drop 0 = dktX0_elder_0 := by decide +kernel
theorem dksX0_elder_1 : cX0_elder.data.toList.drop 23 = dktX0_elder_1 := dk_seg dksX0_elder_0 23 rfl rfl
theorem dksX0_elder_2 : cX0_elder.data.toList.drop 47 = dktX0_elder_2 := dk_seg dksX0_elder_1 24 rfl rfl
theorem dksX0_elder_3 : cX0_elder.data.toList.drop 70 = dktX0_elder_3 := dk_seg dksX0_elder_2 23 rfl rfl
theorem dksX0_elder_4 : cX0_elder.data.toList.drop 92 = dktX0_elder_4 := dk_seg dksX0_elder_3 22 rfl rfl
theorem dksX0_elder_5 : cX0_elder.data.toList.drop 116 = dktX0_elder_5 := dk_seg dksX0_elder_4 24 rfl rfl
theorem dksX0_elder_6 : cX0_elder.data.toList.drop 140 = dktX0_elder_6 := dk_seg dksX0_elder_5 24 rfl rfl
theorem dksX0_elder_7 : cX0_elder.data.toList.drop 163 = dktX0_elder_7 := dk_seg dksX0_elder_6 23 rfl rfl
theorem dksX0_elder_8 : cX0_elder.data.toList.drop 186 = dktX0_elder_8 := dk_seg dksX0_elder_7 23 rfl rfl
theorem dksX0_elder_9 : cX0_elder.data.toList.drop 210 = dktX0_elder_9 := dk_seg dksX0_elder_8 24 rfl rfl
theorem dksX0_elder_10 : cX0_elder.data.toList.drop 234 = dktX0_elder_10 := dk_seg dksX0_elder_9 24 rfl rfl
theorem dksX0_elder_11 : cX0_elder.data.toList.drop 258 = dktX0_elder_11 := dk_seg dksX0_elder_10 24 rfl rfl
theorem dksX0_elder_12 : cX0_elder.data.toList.drop 282 = dktX0_elder_12 := dk_seg dksX0_elder_11 24 rfl rfl
theorem dksX0_elder_13 : cX0_elder.data.toList.drop 304 = dktX0_elder_13 := dk_seg dksX0_elder_12 22 rfl rfl
theorem dksX0_elder_14 : cX0_elder.data.toList.drop 327 = dktX0_elder_14 := dk_seg dksX0_elder_13 23 rfl rfl
theorem dksX0_elder_15 : cX0_elder.data.toList.drop 351 = dktX0_elder_15 := dk_seg dksX0_elder_14 24 rfl rfl
theorem dksX0_elder_16 : cX0_elder.data.toList.drop 373 = dktX0_elder_16 := dk_seg dksX0_elder_15 22 rfl rfl
theorem dksX0_elder_17 : cX0_elder.data.toList.drop 397 = dktX0_elder_17 := dk_seg dksX0_elder_16 24 rfl rfl
theorem dksX0_elder_18 : cX0_elder.data.toList.drop 421 = dktX0_elder_18 := dk_seg dksX0_elder_17 24 rfl rfl
theorem dX0_elder_0 : decode cX0_elder 0 = .ok (.invokestatic 34, 3) := dk_184 0 34 (dk_at dksX0_elder_0 0 rfl rfl)
theorem dX0_elder_3 : decode cX0_elder 3 = .ok (.ifCond .ne 5, 3) := dk_154 0 5 (dk_at dksX0_elder_0 3 rfl rfl)
theorem dX0_elder_6 : decode cX0_elder 6 = .ok (.iconst 0, 1) := dk_3 (dk_at dksX0_elder_0 6 rfl rfl)
theorem dX0_elder_7 : decode cX0_elder 7 = .ok (.ireturn, 1) := dk_172 (dk_at dksX0_elder_0 7 rfl rfl)
theorem dX0_elder_8 : decode cX0_elder 8 = .ok (.aload_n 0, 1) := dk_42 (dk_at dksX0_elder_0 8 rfl rfl)
theorem dX0_elder_9 : decode cX0_elder 9 = .ok (.iconst 0, 1) := dk_3 (dk_at dksX0_elder_0 9 rfl rfl)
theorem dX0_elder_10 : decode cX0_elder 10 = .ok (.invokestatic 39, 3) := dk_184 0 39 (dk_at dksX0_elder_0 10 rfl rfl)
theorem dX0_elder_13 : decode cX0_elder 13 = .ok (.i2l, 1) := dk_133 (dk_at dksX0_elder_0 13 rfl rfl)
theorem dX0_elder_14 : decode cX0_elder 14 = .ok (.bipush 32, 2) := dk_16 32 (dk_at dksX0_elder_0 14 rfl rfl)
theorem dX0_elder_16 : decode cX0_elder 16 = .ok (.lshl, 1) := dk_121 (dk_at dksX0_elder_0 16 rfl rfl)
theorem dX0_elder_17 : decode cX0_elder 17 = .ok (.aload_n 0, 1) := dk_42 (dk_at dksX0_elder_0 17 rfl rfl)
theorem dX0_elder_18 : decode cX0_elder 18 = .ok (.iconst 1, 1) := dk_4 (dk_at dksX0_elder_0 18 rfl rfl)
theorem dX0_elder_19 : decode cX0_elder 19 = .ok (.invokestatic 39, 3) := dk_184 0 39 (dk_at dksX0_elder_0 19 rfl rfl)
theorem dX0_elder_22 : decode cX0_elder 22 = .ok (.i2l, 1) := dk_133 (dk_at dksX0_elder_0 22 rfl rfl)
theorem dX0_elder_23 : decode cX0_elder 23 = .ok (.ldc2_w 43, 3) := dk_20 0 43 (dk_at dksX0_elder_1 0 rfl rfl)
theorem dX0_elder_26 : decode cX0_elder 26 = .ok (.land, 1) := dk_127 (dk_at dksX0_elder_1 3 rfl rfl)
theorem dX0_elder_27 : decode cX0_elder 27 = .ok (.lor, 1) := dk_129 (dk_at dksX0_elder_1 4 rfl rfl)
theorem dX0_elder_28 : decode cX0_elder 28 = .ok (.lstore_n 1, 1) := dk_64 (dk_at dksX0_elder_1 5 rfl rfl)
theorem dX0_elder_29 : decode cX0_elder 29 = .ok (.lload_n 1, 1) := dk_31 (dk_at dksX0_elder_1 6 rfl rfl)
theorem dX0_elder_30 : decode cX0_elder 30 = .ok (.ldc2_w 45, 3) := dk_20 0 45 (dk_at dksX0_elder_1 7 rfl rfl)
theorem dX0_elder_33 : decode cX0_elder 33 = .ok (.lcmp, 1) := dk_148 (dk_at dksX0_elder_1 10 rfl rfl)
theorem dX0_elder_34 : decode cX0_elder 34 = .ok (.ifCond .lt 11, 3) := dk_155 0 11 (dk_at dksX0_elder_1 11 rfl rfl)
theorem dX0_elder_37 : decode cX0_elder 37 = .ok (.lload_n 1, 1) := dk_31 (dk_at dksX0_elder_1 14 rfl rfl)
theorem dX0_elder_38 : decode cX0_elder 38 = .ok (.ldc2_w 47, 3) := dk_20 0 47 (dk_at dksX0_elder_1 15 rfl rfl)
theorem dX0_elder_41 : decode cX0_elder 41 = .ok (.lcmp, 1) := dk_148 (dk_at dksX0_elder_1 18 rfl rfl)
theorem dX0_elder_42 : decode cX0_elder 42 = .ok (.ifCond .lt 10, 3) := dk_155 0 10 (dk_at dksX0_elder_1 19 rfl rfl)
theorem dX0_elder_45 : decode cX0_elder 45 = .ok (.aload_n 0, 1) := dk_42 (dk_at dksX0_elder_1 22 rfl rfl)
theorem dX0_elder_46 : decode cX0_elder 46 = .ok (.iconst 1, 1) := dk_4 (dk_at dksX0_elder_1 23 rfl rfl)
theorem dX0_elder_47 : decode cX0_elder 47 = .ok (.invokestatic 39, 3) := dk_184 0 39 (dk_at dksX0_elder_2 0 rfl rfl)
theorem dX0_elder_50 : decode cX0_elder 50 = .ok (.i2l, 1) := dk_133 (dk_at dksX0_elder_2 3 rfl rfl)
theorem dX0_elder_51 : decode cX0_elder 51 = .ok (.lstore_n 1, 1) := dk_64 (dk_at dksX0_elder_2 4 rfl rfl)
theorem dX0_elder_52 : decode cX0_elder 52 = .ok (.new 7, 3) := dk_187 0 7 (dk_at dksX0_elder_2 5 rfl rfl)
theorem dX0_elder_55 : decode cX0_elder 55 = .ok (.dup, 1) := dk_89 (dk_at dksX0_elder_2 8 rfl rfl)
theorem dX0_elder_56 : decode cX0_elder 56 = .ok (.invokespecial 9, 3) := dk_183 0 9 (dk_at dksX0_elder_2 9 rfl rfl)
theorem dX0_elder_59 : decode cX0_elder 59 = .ok (.astore_n 3, 1) := dk_78 (dk_at dksX0_elder_2 12 rfl rfl)
theorem dX0_elder_60 : decode cX0_elder 60 = .ok (.aload_n 3, 1) := dk_45 (dk_at dksX0_elder_2 13 rfl rfl)
theorem dX0_elder_61 : decode cX0_elder 61 = .ok (.invokevirtual 49, 3) := dk_182 0 49 (dk_at dksX0_elder_2 14 rfl rfl)
theorem dX0_elder_64 : decode cX0_elder 64 = .ok (.lconst 0, 1) := dk_9 (dk_at dksX0_elder_2 17 rfl rfl)
theorem dX0_elder_65 : decode cX0_elder 65 = .ok (.lcmp, 1) := dk_148 (dk_at dksX0_elder_2 18 rfl rfl)
theorem dX0_elder_66 : decode cX0_elder 66 = .ok (.ifCond .ne 29, 3) := dk_154 0 29 (dk_at dksX0_elder_2 19 rfl rfl)
theorem dX0_elder_69 : decode cX0_elder 69 = .ok (.aload_n 3, 1) := dk_45 (dk_at dksX0_elder_2 22 rfl rfl)
theorem dX0_elder_70 : decode cX0_elder 70 = .ok (.invokevirtual 14, 3) := dk_182 0 14 (dk_at dksX0_elder_3 0 rfl rfl)
theorem dX0_elder_73 : decode cX0_elder 73 = .ok (.sipush 1970, 3) := dk_17 7 178 (dk_at dksX0_elder_3 3 rfl rfl)
theorem dX0_elder_76 : decode cX0_elder 76 = .ok (.if_icmp .ne 19, 3) := dk_160 0 19 (dk_at dksX0_elder_3 6 rfl rfl)
theorem dX0_elder_79 : decode cX0_elder 79 = .ok (.aload_n 3, 1) := dk_45 (dk_at dksX0_elder_3 9 rfl rfl)
theorem dX0_elder_80 : decode cX0_elder 80 = .ok (.invokevirtual 18, 3) := dk_182 0 18 (dk_at dksX0_elder_3 10 rfl rfl)
theorem dX0_elder_83 : decode cX0_elder 83 = .ok (.iconst 1, 1) := dk_4 (dk_at dksX0_elder_3 13 rfl rfl)
theorem dX0_elder_84 : decode cX0_elder 84 = .ok (.if_icmp .ne 11, 3) := dk_160 0 11 (dk_at dksX0_elder_3 14 rfl rfl)
theorem dX0_elder_87 : decode cX0_elder 87 = .ok (.aload_n 3, 1) := dk_45 (dk_at dksX0_elder_3 17 rfl rfl)
theorem dX0_elder_88 : decode cX0_elder 88 = .ok (.invokevirtual 21, 3) := dk_182 0 21 (dk_at dksX0_elder_3 18 rfl rfl)
theorem dX0_elder_91 : decode cX0_elder 91 = .ok (.iconst 1, 1) := dk_4 (dk_at dksX0_elder_3 21 rfl rfl)
theorem dX0_elder_92 : decode cX0_elder 92 = .ok (.if_icmp .eq 5, 3) := dk_159 0 5 (dk_at dksX0_elder_4 0 rfl rfl)
theorem dX0_elder_95 : decode cX0_elder 95 = .ok (.iconst 0, 1) := dk_3 (dk_at dksX0_elder_4 3 rfl rfl)
theorem dX0_elder_96 : decode cX0_elder 96 = .ok (.ireturn, 1) := dk_172 (dk_at dksX0_elder_4 4 rfl rfl)
theorem dX0_elder_97 : decode cX0_elder 97 = .ok (.aload_n 3, 1) := dk_45 (dk_at dksX0_elder_4 5 rfl rfl)
theorem dX0_elder_98 : decode cX0_elder 98 = .ok (.lload_n 1, 1) := dk_31 (dk_at dksX0_elder_4 6 rfl rfl)
theorem dX0_elder_99 : decode cX0_elder 99 = .ok (.bipush 32, 2) := dk_16 32 (dk_at dksX0_elder_4 7 rfl rfl)
theorem dX0_elder_101 : decode cX0_elder 101 = .ok (.lshr, 1) := dk_123 (dk_at dksX0_elder_4 9 rfl rfl)
theorem dX0_elder_102 : decode cX0_elder 102 = .ok (.l2i, 1) := dk_136 (dk_at dksX0_elder_4 10 rfl rfl)
theorem dX0_elder_103 : decode cX0_elder 103 = .ok (.lload_n 1, 1) := dk_31 (dk_at dksX0_elder_4 11 rfl rfl)
theorem dX0_elder_104 : decode cX0_elder 104 = .ok (.l2i, 1) := dk_136 (dk_at dksX0_elder_4 12 rfl rfl)
theorem dX0_elder_105 : decode cX0_elder 105 = .ok (.invokevirtual 10, 3) := dk_182 0 10 (dk_at dksX0_elder_4 13 rfl rfl)
theorem dX0_elder_108 : decode cX0_elder 108 = .ok (.ifCond .eq 12, 3) := dk_153 0 12 (dk_at dksX0_elder_4 16 rfl rfl)
theorem dX0_elder_111 : decode cX0_elder 111 = .ok (.aload_n 3, 1) := dk_45 (dk_at dksX0_elder_4 19 rfl rfl)
theorem dX0_elder_112 : decode cX0_elder 112 = .ok (.invokevirtual 49, 3) := dk_182 0 49 (dk_at dksX0_elder_4 20 rfl rfl)
theorem dX0_elder_115 : decode cX0_elder 115 = .ok (.lload_n 1, 1) := dk_31 (dk_at dksX0_elder_4 23 rfl rfl)
theorem dX0_elder_116 : decode cX0_elder 116 = .ok (.lcmp, 1) := dk_148 (dk_at dksX0_elder_5 0 rfl rfl)
theorem dX0_elder_117 : decode cX0_elder 117 = .ok (.ifCond .eq 5, 3) := dk_153 0 5 (dk_at dksX0_elder_5 1 rfl rfl)
theorem dX0_elder_120 : decode cX0_elder 120 = .ok (.iconst 0, 1) := dk_3 (dk_at dksX0_elder_5 4 rfl rfl)
theorem dX0_elder_121 : decode cX0_elder 121 = .ok (.ireturn, 1) := dk_172 (dk_at dksX0_elder_5 5 rfl rfl)
theorem dX0_elder_122 : decode cX0_elder 122 = .ok (.aload_n 3, 1) := dk_45 (dk_at dksX0_elder_5 6 rfl rfl)
theorem dX0_elder_123 : decode cX0_elder 123 = .ok (.invokevirtual 14, 3) := dk_182 0 14 (dk_at dksX0_elder_5 7 rfl rfl)
theorem dX0_elder_126 : decode cX0_elder 126 = .ok (.istore 4, 2) := dk_54 4 (dk_at dksX0_elder_5 10 rfl rfl)
theorem dX0_elder_128 : decode cX0_elder 128 = .ok (.aload_n 3, 1) := dk_45 (dk_at dksX0_elder_5 12 rfl rfl)
theorem dX0_elder_129 : decode cX0_elder 129 = .ok (.invokevirtual 18, 3) := dk_182 0 18 (dk_at dksX0_elder_5 13 rfl rfl)
theorem dX0_elder_132 : decode cX0_elder 132 = .ok (.istore 5, 2) := dk_54 5 (dk_at dksX0_elder_5 16 rfl rfl)
theorem dX0_elder_134 : decode cX0_elder 134 = .ok (.aload_n 3, 1) := dk_45 (dk_at dksX0_elder_5 18 rfl rfl)
theorem dX0_elder_135 : decode cX0_elder 135 = .ok (.invokevirtual 21, 3) := dk_182 0 21 (dk_at dksX0_elder_5 19 rfl rfl)
theorem dX0_elder_138 : decode cX0_elder 138 = .ok (.istore 6, 2) := dk_54 6 (dk_at dksX0_elder_5 22 rfl rfl)
theorem dX0_elder_140 : decode cX0_elder 140 = .ok (.aload_n 3, 1) := dk_45 (dk_at dksX0_elder_6 0 rfl rfl)
theorem dX0_elder_141 : decode cX0_elder 141 = .ok (.invokevirtual 24, 3) := dk_182 0 24 (dk_at dksX0_elder_6 1 rfl rfl)
theorem dX0_elder_144 : decode cX0_elder 144 = .ok (.istore 7, 2) := dk_54 7 (dk_at dksX0_elder_6 4 rfl rfl)
theorem dX0_elder_146 : decode cX0_elder 146 = .ok (.iload 4, 2) := dk_21 4 (dk_at dksX0_elder_6 6 rfl rfl)
theorem dX0_elder_148 : decode cX0_elder 148 = .ok (.iconst 3, 1) := dk_6 (dk_at dksX0_elder_6 8 rfl rfl)
theorem dX0_elder_149 : decode cX0_elder 149 = .ok (.iand, 1) := dk_126 (dk_at dksX0_elder_6 9 rfl rfl)
theorem dX0_elder_150 : decode cX0_elder 150 = .ok (.ifCond .ne 24, 3) := dk_154 0 24 (dk_at dksX0_elder_6 10 rfl rfl)
theorem dX0_elder_153 : decode cX0_elder 153 = .ok (.iload 4, 2) := dk_21 4 (dk_at dksX0_elder_6 13 rfl rfl)
theorem dX0_elder_155 : decode cX0_elder 155 = .ok (.bipush 100, 2) := dk_16 100 (dk_at dksX0_elder_6 15 rfl rfl)
theorem dX0_elder_157 : decode cX0_elder 157 = .ok (.irem, 1) := dk_112 (dk_at dksX0_elder_6 17 rfl rfl)
theorem dX0_elder_158 : decode cX0_elder 158 = .ok (.ifCond .ne 12, 3) := dk_154 0 12 (dk_at dksX0_elder_6 18 rfl rfl)
theorem dX0_elder_161 : decode cX0_elder 161 = .ok (.iload 4, 2) := dk_21 4 (dk_at dksX0_elder_6 21 rfl rfl)
theorem dX0_elder_163 : decode cX0_elder 163 = .ok (.sipush 400, 3) := dk_17 1 144 (dk_at dksX0_elder_7 0 rfl rfl)
theorem dX0_elder_166 : decode cX0_elder 166 = .ok (.irem, 1) := dk_112 (dk_at dksX0_elder_7 3 rfl rfl)
theorem dX0_elder_167 : decode cX0_elder 167 = .ok (.ifCond .ne 7, 3) := dk_154 0 7 (dk_at dksX0_elder_7 4 rfl rfl)
theorem dX0_elder_170 : decode cX0_elder 170 = .ok (.iconst 1, 1) := dk_4 (dk_at dksX0_elder_7 7 rfl rfl)
theorem dX0_elder_171 : decode cX0_elder 171 = .ok (.goto 4, 3) := dk_167 0 4 (dk_at dksX0_elder_7 8 rfl rfl)
theorem dX0_elder_174 : decode cX0_elder 174 = .ok (.iconst 0, 1) := dk_3 (dk_at dksX0_elder_7 11 rfl rfl)
theorem dX0_elder_175 : decode cX0_elder 175 = .ok (.istore 8, 2) := dk_54 8 (dk_at dksX0_elder_7 12 rfl rfl)
theorem dX0_elder_177 : decode cX0_elder 177 = .ok (.aload_n 3, 1) := dk_45 (dk_at dksX0_elder_7 14 rfl rfl)
theorem dX0_elder_178 : decode cX0_elder 178 = .ok (.invokevirtual 27, 3) := dk_182 0 27 (dk_at dksX0_elder_7 15 rfl rfl)
theorem dX0_elder_181 : decode cX0_elder 181 = .ok (.iload 8, 2) := dk_21 8 (dk_at dksX0_elder_7 18 rfl rfl)
theorem dX0_elder_183 : decode cX0_elder 183 = .ok (.if_icmp .ne 30, 3) := dk_160 0 30 (dk_at dksX0_elder_7 20 rfl rfl)
theorem dX0_elder_186 : decode cX0_elder 186 = .ok (.iload 5, 2) := dk_21 5 (dk_at dksX0_elder_8 0 rfl rfl)
theorem dX0_elder_188 : decode cX0_elder 188 = .ok (.iconst 1, 1) := dk_4 (dk_at dksX0_elder_8 2 rfl rfl)
theorem dX0_elder_189 : decode cX0_elder 189 = .ok (.if_icmp .lt 24, 3) := dk_161 0 24 (dk_at dksX0_elder_8 3 rfl rfl)
theorem dX0_elder_192 : decode cX0_elder 192 = .ok (.iload 5, 2) := dk_21 5 (dk_at dksX0_elder_8 6 rfl rfl)
theorem dX0_elder_194 : decode cX0_elder 194 = .ok (.bipush 12, 2) := dk_16 12 (dk_at dksX0_elder_8 8 rfl rfl)
theorem dX0_elder_196 : decode cX0_elder 196 = .ok (.if_icmp .gt 17, 3) := dk_163 0 17 (dk_at dksX0_elder_8 10 rfl rfl)
theorem dX0_elder_199 : decode cX0_elder 199 = .ok (.aload_n 3, 1) := dk_45 (dk_at dksX0_elder_8 13 rfl rfl)
theorem dX0_elder_200 : decode cX0_elder 200 = .ok (.invokevirtual 31, 3) := dk_182 0 31 (dk_at dksX0_elder_8 14 rfl rfl)
theorem dX0_elder_203 : decode cX0_elder 203 = .ok (.iload 5, 2) := dk_21 5 (dk_at dksX0_elder_8 17 rfl rfl)
theorem dX0_elder_205 : decode cX0_elder 205 = .ok (.iload 8, 2) := dk_21 8 (dk_at dksX0_elder_8 19 rfl rfl)
theorem dX0_elder_207 : decode cX0_elder 207 = .ok (.invokestatic 53, 3) := dk_184 0 53 (dk_at dksX0_elder_8 21 rfl rfl)
theorem dX0_elder_210 : decode cX0_elder 210 = .ok (.if_icmp .eq 5, 3) := dk_159 0 5 (dk_at dksX0_elder_9 0 rfl rfl)
theorem dX0_elder_213 : decode cX0_elder 213 = .ok (.iconst 0, 1) := dk_3 (dk_at dksX0_elder_9 3 rfl rfl)
theorem dX0_elder_214 : decode cX0_elder 214 = .ok (.ireturn, 1) := dk_172 (dk_at dksX0_elder_9 4 rfl rfl)
theorem dX0_elder_215 : decode cX0_elder 215 = .ok (.iload 6, 2) := dk_21 6 (dk_at dksX0_elder_9 5 rfl rfl)
theorem dX0_elder_217 : decode cX0_elder 217 = .ok (.iconst 1, 1) := dk_4 (dk_at dksX0_elder_9 7 rfl rfl)
theorem dX0_elder_218 : decode cX0_elder 218 = .ok (.if_icmp .lt 15, 3) := dk_161 0 15 (dk_at dksX0_elder_9 8 rfl rfl)
theorem dX0_elder_221 : decode cX0_elder 221 = .ok (.iload 6, 2) := dk_21 6 (dk_at dksX0_elder_9 11 rfl rfl)
theorem dX0_elder_223 : decode cX0_elder 223 = .ok (.iload 5, 2) := dk_21 5 (dk_at dksX0_elder_9 13 rfl rfl)
theorem dX0_elder_225 : decode cX0_elder 225 = .ok (.iload 8, 2) := dk_21 8 (dk_at dksX0_elder_9 15 rfl rfl)
theorem dX0_elder_227 : decode cX0_elder 227 = .ok (.invokestatic 53, 3) := dk_184 0 53 (dk_at dksX0_elder_9 17 rfl rfl)
theorem dX0_elder_230 : decode cX0_elder 230 = .ok (.if_icmp .le 5, 3) := dk_164 0 5 (dk_at dksX0_elder_9 20 rfl rfl)
theorem dX0_elder_233 : decode cX0_elder 233 = .ok (.iconst 0, 1) := dk_3 (dk_at dksX0_elder_9 23 rfl rfl)
theorem dX0_elder_234 : decode cX0_elder 234 = .ok (.ireturn, 1) := dk_172 (dk_at dksX0_elder_10 0 rfl rfl)
theorem dX0_elder_235 : decode cX0_elder 235 = .ok (.iconst 0, 1) := dk_3 (dk_at dksX0_elder_10 1 rfl rfl)
theorem dX0_elder_236 : decode cX0_elder 236 = .ok (.istore 9, 2) := dk_54 9 (dk_at dksX0_elder_10 2 rfl rfl)
theorem dX0_elder_238 : decode cX0_elder 238 = .ok (.iconst 1, 1) := dk_4 (dk_at dksX0_elder_10 4 rfl rfl)
theorem dX0_elder_239 : decode cX0_elder 239 = .ok (.istore 10, 2) := dk_54 10 (dk_at dksX0_elder_10 5 rfl rfl)
theorem dX0_elder_241 : decode cX0_elder 241 = .ok (.iload 10, 2) := dk_21 10 (dk_at dksX0_elder_10 7 rfl rfl)
theorem dX0_elder_243 : decode cX0_elder 243 = .ok (.iload 5, 2) := dk_21 5 (dk_at dksX0_elder_10 9 rfl rfl)
theorem dX0_elder_245 : decode cX0_elder 245 = .ok (.if_icmp .ge 21, 3) := dk_162 0 21 (dk_at dksX0_elder_10 11 rfl rfl)
theorem dX0_elder_248 : decode cX0_elder 248 = .ok (.iload 9, 2) := dk_21 9 (dk_at dksX0_elder_10 14 rfl rfl)
theorem dX0_elder_250 : decode cX0_elder 250 = .ok (.iload 10, 2) := dk_21 10 (dk_at dksX0_elder_10 16 rfl rfl)
theorem dX0_elder_252 : decode cX0_elder 252 = .ok (.iload 8, 2) := dk_21 8 (dk_at dksX0_elder_10 18 rfl rfl)
theorem dX0_elder_254 : decode cX0_elder 254 = .ok (.invokestatic 53, 3) := dk_184 0 53 (dk_at dksX0_elder_10 20 rfl rfl)
theorem dX0_elder_257 : decode cX0_elder 257 = .ok (.iadd, 1) := dk_96 (dk_at dksX0_elder_10 23 rfl rfl)
theorem dX0_elder_258 : decode cX0_elder 258 = .ok (.istore 9, 2) := dk_54 9 (dk_at dksX0_elder_11 0 rfl rfl)
theorem dX0_elder_260 : decode cX0_elder 260 = .ok (.iinc 10 1, 3) := dk_132 10 1 (dk_at dksX0_elder_11 2 rfl rfl)
theorem dX0_elder_263 : decode cX0_elder 263 = .ok (.goto (-22), 3) := dk_167 255 234 (dk_at dksX0_elder_11 5 rfl rfl)
theorem dX0_elder_266 : decode cX0_elder 266 = .ok (.iload 7, 2) := dk_21 7 (dk_at dksX0_elder_11 8 rfl rfl)
theorem dX0_elder_268 : decode cX0_elder 268 = .ok (.iload 9, 2) := dk_21 9 (dk_at dksX0_elder_11 10 rfl rfl)
theorem dX0_elder_270 : decode cX0_elder 270 = .ok (.iload 6, 2) := dk_21 6 (dk_at dksX0_elder_11 12 rfl rfl)
theorem dX0_elder_272 : decode cX0_elder 272 = .ok (.iadd, 1) := dk_96 (dk_at dksX0_elder_11 14 rfl rfl)
theorem dX0_elder_273 : decode cX0_elder 273 = .ok (.if_icmp .eq 5, 3) := dk_159 0 5 (dk_at dksX0_elder_11 15 rfl rfl)
theorem dX0_elder_276 : decode cX0_elder 276 = .ok (.iconst 0, 1) := dk_3 (dk_at dksX0_elder_11 18 rfl rfl)
theorem dX0_elder_277 : decode cX0_elder 277 = .ok (.ireturn, 1) := dk_172 (dk_at dksX0_elder_11 19 rfl rfl)
theorem dX0_elder_278 : decode cX0_elder 278 = .ok (.aload_n 3, 1) := dk_45 (dk_at dksX0_elder_11 20 rfl rfl)
theorem dX0_elder_279 : decode cX0_elder 279 = .ok (.lload_n 1, 1) := dk_31 (dk_at dksX0_elder_11 21 rfl rfl)
theorem dX0_elder_280 : decode cX0_elder 280 = .ok (.lconst 1, 1) := dk_10 (dk_at dksX0_elder_11 22 rfl rfl)
theorem dX0_elder_281 : decode cX0_elder 281 = .ok (.ladd, 1) := dk_97 (dk_at dksX0_elder_11 23 rfl rfl)
theorem dX0_elder_282 : decode cX0_elder 282 = .ok (.bipush 32, 2) := dk_16 32 (dk_at dksX0_elder_12 0 rfl rfl)
theorem dX0_elder_284 : decode cX0_elder 284 = .ok (.lshr, 1) := dk_123 (dk_at dksX0_elder_12 2 rfl rfl)
theorem dX0_elder_285 : decode cX0_elder 285 = .ok (.l2i, 1) := dk_136 (dk_at dksX0_elder_12 3 rfl rfl)
theorem dX0_elder_286 : decode cX0_elder 286 = .ok (.lload_n 1, 1) := dk_31 (dk_at dksX0_elder_12 4 rfl rfl)
theorem dX0_elder_287 : decode cX0_elder 287 = .ok (.lconst 1, 1) := dk_10 (dk_at dksX0_elder_12 5 rfl rfl)
theorem dX0_elder_288 : decode cX0_elder 288 = .ok (.ladd, 1) := dk_97 (dk_at dksX0_elder_12 6 rfl rfl)
theorem dX0_elder_289 : decode cX0_elder 289 = .ok (.l2i, 1) := dk_136 (dk_at dksX0_elder_12 7 rfl rfl)
theorem dX0_elder_290 : decode cX0_elder 290 = .ok (.invokevirtual 10, 3) := dk_182 0 10 (dk_at dksX0_elder_12 8 rfl rfl)
theorem dX0_elder_293 : decode cX0_elder 293 = .ok (.ifCond .eq 14, 3) := dk_153 0 14 (dk_at dksX0_elder_12 11 rfl rfl)
theorem dX0_elder_296 : decode cX0_elder 296 = .ok (.aload_n 3, 1) := dk_45 (dk_at dksX0_elder_12 14 rfl rfl)
theorem dX0_elder_297 : decode cX0_elder 297 = .ok (.invokevirtual 49, 3) := dk_182 0 49 (dk_at dksX0_elder_12 15 rfl rfl)
theorem dX0_elder_300 : decode cX0_elder 300 = .ok (.lload_n 1, 1) := dk_31 (dk_at dksX0_elder_12 18 rfl rfl)
theorem dX0_elder_301 : decode cX0_elder 301 = .ok (.lconst 1, 1) := dk_10 (dk_at dksX0_elder_12 19 rfl rfl)
theorem dX0_elder_302 : decode cX0_elder 302 = .ok (.ladd, 1) := dk_97 (dk_at dksX0_elder_12 20 rfl rfl)
theorem dX0_elder_303 : decode cX0_elder 303 = .ok (.lcmp, 1) := dk_148 (dk_at dksX0_elder_12 21 rfl rfl)
theorem dX0_elder_304 : decode cX0_elder 304 = .ok (.ifCond .eq 5, 3) := dk_153 0 5 (dk_at dksX0_elder_13 0 rfl rfl)
theorem dX0_elder_307 : decode cX0_elder 307 = .ok (.iconst 0, 1) := dk_3 (dk_at dksX0_elder_13 3 rfl rfl)
theorem dX0_elder_308 : decode cX0_elder 308 = .ok (.ireturn, 1) := dk_172 (dk_at dksX0_elder_13 4 rfl rfl)
theorem dX0_elder_309 : decode cX0_elder 309 = .ok (.iload 6, 2) := dk_21 6 (dk_at dksX0_elder_13 5 rfl rfl)
theorem dX0_elder_311 : decode cX0_elder 311 = .ok (.iload 5, 2) := dk_21 5 (dk_at dksX0_elder_13 7 rfl rfl)
theorem dX0_elder_313 : decode cX0_elder 313 = .ok (.iload 8, 2) := dk_21 8 (dk_at dksX0_elder_13 9 rfl rfl)
theorem dX0_elder_315 : decode cX0_elder 315 = .ok (.invokestatic 53, 3) := dk_184 0 53 (dk_at dksX0_elder_13 11 rfl rfl)
theorem dX0_elder_318 : decode cX0_elder 318 = .ok (.if_icmp .ge 38, 3) := dk_162 0 38 (dk_at dksX0_elder_13 14 rfl rfl)
theorem dX0_elder_321 : decode cX0_elder 321 = .ok (.aload_n 3, 1) := dk_45 (dk_at dksX0_elder_13 17 rfl rfl)
theorem dX0_elder_322 : decode cX0_elder 322 = .ok (.invokevirtual 14, 3) := dk_182 0 14 (dk_at dksX0_elder_13 18 rfl rfl)
theorem dX0_elder_325 : decode cX0_elder 325 = .ok (.iload 4, 2) := dk_21 4 (dk_at dksX0_elder_13 21 rfl rfl)
theorem dX0_elder_327 : decode cX0_elder 327 = .ok (.if_icmp .ne 27, 3) := dk_160 0 27 (dk_at dksX0_elder_14 0 rfl rfl)
theorem dX0_elder_330 : decode cX0_elder 330 = .ok (.aload_n 3, 1) := dk_45 (dk_at dksX0_elder_14 3 rfl rfl)
theorem dX0_elder_331 : decode cX0_elder 331 = .ok (.invokevirtual 18, 3) := dk_182 0 18 (dk_at dksX0_elder_14 4 rfl rfl)
theorem dX0_elder_334 : decode cX0_elder 334 = .ok (.iload 5, 2) := dk_21 5 (dk_at dksX0_elder_14 7 rfl rfl)
theorem dX0_elder_336 : decode cX0_elder 336 = .ok (.if_icmp .ne 18, 3) := dk_160 0 18 (dk_at dksX0_elder_14 9 rfl rfl)
theorem dX0_elder_339 : decode cX0_elder 339 = .ok (.aload_n 3, 1) := dk_45 (dk_at dksX0_elder_14 12 rfl rfl)
theorem dX0_elder_340 : decode cX0_elder 340 = .ok (.invokevirtual 21, 3) := dk_182 0 21 (dk_at dksX0_elder_14 13 rfl rfl)
theorem dX0_elder_343 : decode cX0_elder 343 = .ok (.iload 6, 2) := dk_21 6 (dk_at dksX0_elder_14 16 rfl rfl)
theorem dX0_elder_345 : decode cX0_elder 345 = .ok (.iconst 1, 1) := dk_4 (dk_at dksX0_elder_14 18 rfl rfl)
theorem dX0_elder_346 : decode cX0_elder 346 = .ok (.iadd, 1) := dk_96 (dk_at dksX0_elder_14 19 rfl rfl)
theorem dX0_elder_347 : decode cX0_elder 347 = .ok (.if_icmp .ne 7, 3) := dk_160 0 7 (dk_at dksX0_elder_14 20 rfl rfl)
theorem dX0_elder_350 : decode cX0_elder 350 = .ok (.iconst 1, 1) := dk_4 (dk_at dksX0_elder_14 23 rfl rfl)
theorem dX0_elder_351 : decode cX0_elder 351 = .ok (.goto 4, 3) := dk_167 0 4 (dk_at dksX0_elder_15 0 rfl rfl)
theorem dX0_elder_354 : decode cX0_elder 354 = .ok (.iconst 0, 1) := dk_3 (dk_at dksX0_elder_15 3 rfl rfl)
theorem dX0_elder_355 : decode cX0_elder 355 = .ok (.ireturn, 1) := dk_172 (dk_at dksX0_elder_15 4 rfl rfl)
theorem dX0_elder_356 : decode cX0_elder 356 = .ok (.iload 5, 2) := dk_21 5 (dk_at dksX0_elder_15 5 rfl rfl)
theorem dX0_elder_358 : decode cX0_elder 358 = .ok (.bipush 12, 2) := dk_16 12 (dk_at dksX0_elder_15 7 rfl rfl)
theorem dX0_elder_360 : decode cX0_elder 360 = .ok (.if_icmp .ge 37, 3) := dk_162 0 37 (dk_at dksX0_elder_15 9 rfl rfl)
theorem dX0_elder_363 : decode cX0_elder 363 = .ok (.aload_n 3, 1) := dk_45 (dk_at dksX0_elder_15 12 rfl rfl)
theorem dX0_elder_364 : decode cX0_elder 364 = .ok (.invokevirtual 14, 3) := dk_182 0 14 (dk_at dksX0_elder_15 13 rfl rfl)
theorem dX0_elder_367 : decode cX0_elder 367 = .ok (.iload 4, 2) := dk_21 4 (dk_at dksX0_elder_15 16 rfl rfl)
theorem dX0_elder_369 : decode cX0_elder 369 = .ok (.if_icmp .ne 26, 3) := dk_160 0 26 (dk_at dksX0_elder_15 18 rfl rfl)
theorem dX0_elder_372 : decode cX0_elder 372 = .ok (.aload_n 3, 1) := dk_45 (dk_at dksX0_elder_15 21 rfl rfl)
theorem dX0_elder_373 : decode cX0_elder 373 = .ok (.invokevirtual 18, 3) := dk_182 0 18 (dk_at dksX0_elder_16 0 rfl rfl)
theorem dX0_elder_376 : decode cX0_elder 376 = .ok (.iload 5, 2) := dk_21 5 (dk_at dksX0_elder_16 3 rfl rfl)
theorem dX0_elder_378 : decode cX0_elder 378 = .ok (.iconst 1, 1) := dk_4 (dk_at dksX0_elder_16 5 rfl rfl)
theorem dX0_elder_379 : decode cX0_elder 379 = .ok (.iadd, 1) := dk_96 (dk_at dksX0_elder_16 6 rfl rfl)
theorem dX0_elder_380 : decode cX0_elder 380 = .ok (.if_icmp .ne 15, 3) := dk_160 0 15 (dk_at dksX0_elder_16 7 rfl rfl)
theorem dX0_elder_383 : decode cX0_elder 383 = .ok (.aload_n 3, 1) := dk_45 (dk_at dksX0_elder_16 10 rfl rfl)
theorem dX0_elder_384 : decode cX0_elder 384 = .ok (.invokevirtual 21, 3) := dk_182 0 21 (dk_at dksX0_elder_16 11 rfl rfl)
theorem dX0_elder_387 : decode cX0_elder 387 = .ok (.iconst 1, 1) := dk_4 (dk_at dksX0_elder_16 14 rfl rfl)
theorem dX0_elder_388 : decode cX0_elder 388 = .ok (.if_icmp .ne 7, 3) := dk_160 0 7 (dk_at dksX0_elder_16 15 rfl rfl)
theorem dX0_elder_391 : decode cX0_elder 391 = .ok (.iconst 1, 1) := dk_4 (dk_at dksX0_elder_16 18 rfl rfl)
theorem dX0_elder_392 : decode cX0_elder 392 = .ok (.goto 4, 3) := dk_167 0 4 (dk_at dksX0_elder_16 19 rfl rfl)
theorem dX0_elder_395 : decode cX0_elder 395 = .ok (.iconst 0, 1) := dk_3 (dk_at dksX0_elder_16 22 rfl rfl)
theorem dX0_elder_396 : decode cX0_elder 396 = .ok (.ireturn, 1) := dk_172 (dk_at dksX0_elder_16 23 rfl rfl)
theorem dX0_elder_397 : decode cX0_elder 397 = .ok (.aload_n 3, 1) := dk_45 (dk_at dksX0_elder_17 0 rfl rfl)
theorem dX0_elder_398 : decode cX0_elder 398 = .ok (.invokevirtual 14, 3) := dk_182 0 14 (dk_at dksX0_elder_17 1 rfl rfl)
theorem dX0_elder_401 : decode cX0_elder 401 = .ok (.iload 4, 2) := dk_21 4 (dk_at dksX0_elder_17 4 rfl rfl)
theorem dX0_elder_403 : decode cX0_elder 403 = .ok (.iconst 1, 1) := dk_4 (dk_at dksX0_elder_17 6 rfl rfl)
theorem dX0_elder_404 : decode cX0_elder 404 = .ok (.iadd, 1) := dk_96 (dk_at dksX0_elder_17 7 rfl rfl)
theorem dX0_elder_405 : decode cX0_elder 405 = .ok (.if_icmp .ne 23, 3) := dk_160 0 23 (dk_at dksX0_elder_17 8 rfl rfl)
theorem dX0_elder_408 : decode cX0_elder 408 = .ok (.aload_n 3, 1) := dk_45 (dk_at dksX0_elder_17 11 rfl rfl)
theorem dX0_elder_409 : decode cX0_elder 409 = .ok (.invokevirtual 18, 3) := dk_182 0 18 (dk_at dksX0_elder_17 12 rfl rfl)
theorem dX0_elder_412 : decode cX0_elder 412 = .ok (.iconst 1, 1) := dk_4 (dk_at dksX0_elder_17 15 rfl rfl)
theorem dX0_elder_413 : decode cX0_elder 413 = .ok (.if_icmp .ne 15, 3) := dk_160 0 15 (dk_at dksX0_elder_17 16 rfl rfl)
theorem dX0_elder_416 : decode cX0_elder 416 = .ok (.aload_n 3, 1) := dk_45 (dk_at dksX0_elder_17 19 rfl rfl)
theorem dX0_elder_417 : decode cX0_elder 417 = .ok (.invokevirtual 21, 3) := dk_182 0 21 (dk_at dksX0_elder_17 20 rfl rfl)
theorem dX0_elder_420 : decode cX0_elder 420 = .ok (.iconst 1, 1) := dk_4 (dk_at dksX0_elder_17 23 rfl rfl)
theorem dX0_elder_421 : decode cX0_elder 421 = .ok (.if_icmp .ne 7, 3) := dk_160 0 7 (dk_at dksX0_elder_18 0 rfl rfl)
theorem dX0_elder_424 : decode cX0_elder 424 = .ok (.iconst 1, 1) := dk_4 (dk_at dksX0_elder_18 3 rfl rfl)
theorem dX0_elder_425 : decode cX0_elder 425 = .ok (.goto 4, 3) := dk_167 0 4 (dk_at dksX0_elder_18 4 rfl rfl)
theorem dX0_elder_428 : decode cX0_elder 428 = .ok (.iconst 0, 1) := dk_3 (dk_at dksX0_elder_18 7 rfl rfl)
theorem dX0_elder_429 : decode cX0_elder 429 = .ok (.ireturn, 1) := dk_172 (dk_at dksX0_elder_18 8 rfl rfl)
abbrev cX0_known : ByteArray := method_4_code
def yX0_known : MethodName := ⟨RX0, "known", "()Z"⟩
def dkwX0_known_2 : List UInt8 := [160, 0, 19, 42, 182, 0, 27, 154, 0, 12, 42, 182, 0, 31, 16, 31, 159, 0, 5, 3, 172, 4, 172]
abbrev dktX0_known_2 : List UInt8 := dkwX0_known_2 ++ []
def dkwX0_known_1 : List UInt8 := [160, 0, 43, 42, 182, 0, 18, 4, 160, 0, 35, 42, 182, 0, 21, 4, 160, 0, 27, 42, 182, 0, 24, 4]
abbrev dktX0_known_1 : List UInt8 := dkwX0_known_1 ++ dktX0_known_2
def dkwX0_known_0 : List UInt8 := [187, 0, 7, 89, 183, 0, 9, 75, 42, 3, 3, 182, 0, 10, 153, 0, 53, 42, 182, 0, 14, 17, 7, 178]
abbrev dktX0_known_0 : List UInt8 := dkwX0_known_0 ++ dktX0_known_1
theorem dksX0_known_0 : cX0_known.data.toList.drop 0 = dktX0_known_0 := by decide +kernel
theorem dksX0_known_1 : cX0_known.data.toList.drop 24 = dktX0_known_1 := dk_seg dksX0_known_0 24 rfl rfl
theorem dksX0_known_2 : cX0_known.data.toList.drop 48 = dktX0_known_2 := dk_seg dksX0_known_1 24 rfl rfl
theorem dX0_known_0 : decode cX0_known 0 = .ok (.new 7, 3) := dk_187 0 7 (dk_at dksX0_known_0 0 rfl rfl)
theorem dX0_known_3 : decode cX0_known 3 = .ok (.dup, 1) := dk_89 (dk_at dksX0_known_0 3 rfl rfl)
theorem dX0_known_4 : decode cX0_known 4 = .ok (.invokespecial 9, 3) := dk_183 0 9 (dk_at dksX0_known_0 4 rfl rfl)
theorem dX0_known_7 : decode cX0_known 7 = .ok (.astore_n 0, 1) := dk_75 (dk_at dksX0_known_0 7 rfl rfl)
theorem dX0_known_8 : decode cX0_known 8 = .ok (.aload_n 0, 1) := dk_42 (dk_at dksX0_known_0 8 rfl rfl)
theorem dX0_known_9 : decode cX0_known 9 = .ok (.iconst 0, 1) := dk_3 (dk_at dksX0_known_0 9 rfl rfl)
theorem dX0_known_10 : decode cX0_known 10 = .ok (.iconst 0, 1) := dk_3 (dk_at dksX0_known_0 10 rfl rfl)
theorem dX0_known_11 : decode cX0_known 11 = .ok (.invokevirtual 10, 3) := dk_182 0 10 (dk_at dksX0_known_0 11 rfl rfl)
theorem dX0_known_14 : decode cX0_known 14 = .ok (.ifCond .eq 53, 3) := dk_153 0 53 (dk_at dksX0_known_0 14 rfl rfl)
theorem dX0_known_17 : decode cX0_known 17 = .ok (.aload_n 0, 1) := dk_42 (dk_at dksX0_known_0 17 rfl rfl)
theorem dX0_known_18 : decode cX0_known 18 = .ok (.invokevirtual 14, 3) := dk_182 0 14 (dk_at dksX0_known_0 18 rfl rfl)
theorem dX0_known_21 : decode cX0_known 21 = .ok (.sipush 1970, 3) := dk_17 7 178 (dk_at dksX0_known_0 21 rfl rfl)
theorem dX0_known_24 : decode cX0_known 24 = .ok (.if_icmp .ne 43, 3) := dk_160 0 43 (dk_at dksX0_known_1 0 rfl rfl)
theorem dX0_known_27 : decode cX0_known 27 = .ok (.aload_n 0, 1) := dk_42 (dk_at dksX0_known_1 3 rfl rfl)
theorem dX0_known_28 : decode cX0_known 28 = .ok (.invokevirtual 18, 3) := dk_182 0 18 (dk_at dksX0_known_1 4 rfl rfl)
theorem dX0_known_31 : decode cX0_known 31 = .ok (.iconst 1, 1) := dk_4 (dk_at dksX0_known_1 7 rfl rfl)
theorem dX0_known_32 : decode cX0_known 32 = .ok (.if_icmp .ne 35, 3) := dk_160 0 35 (dk_at dksX0_known_1 8 rfl rfl)
theorem dX0_known_35 : decode cX0_known 35 = .ok (.aload_n 0, 1) := dk_42 (dk_at dksX0_known_1 11 rfl rfl)
theorem dX0_known_36 : decode cX0_known 36 = .ok (.invokevirtual 21, 3) := dk_182 0 21 (dk_at dksX0_known_1 12 rfl rfl)
theorem dX0_known_39 : decode cX0_known 39 = .ok (.iconst 1, 1) := dk_4 (dk_at dksX0_known_1 15 rfl rfl)
theorem dX0_known_40 : decode cX0_known 40 = .ok (.if_icmp .ne 27, 3) := dk_160 0 27 (dk_at dksX0_known_1 16 rfl rfl)
theorem dX0_known_43 : decode cX0_known 43 = .ok (.aload_n 0, 1) := dk_42 (dk_at dksX0_known_1 19 rfl rfl)
theorem dX0_known_44 : decode cX0_known 44 = .ok (.invokevirtual 24, 3) := dk_182 0 24 (dk_at dksX0_known_1 20 rfl rfl)
theorem dX0_known_47 : decode cX0_known 47 = .ok (.iconst 1, 1) := dk_4 (dk_at dksX0_known_1 23 rfl rfl)
theorem dX0_known_48 : decode cX0_known 48 = .ok (.if_icmp .ne 19, 3) := dk_160 0 19 (dk_at dksX0_known_2 0 rfl rfl)
theorem dX0_known_51 : decode cX0_known 51 = .ok (.aload_n 0, 1) := dk_42 (dk_at dksX0_known_2 3 rfl rfl)
theorem dX0_known_52 : decode cX0_known 52 = .ok (.invokevirtual 27, 3) := dk_182 0 27 (dk_at dksX0_known_2 4 rfl rfl)
theorem dX0_known_55 : decode cX0_known 55 = .ok (.ifCond .ne 12, 3) := dk_154 0 12 (dk_at dksX0_known_2 7 rfl rfl)
theorem dX0_known_58 : decode cX0_known 58 = .ok (.aload_n 0, 1) := dk_42 (dk_at dksX0_known_2 10 rfl rfl)
theorem dX0_known_59 : decode cX0_known 59 = .ok (.invokevirtual 31, 3) := dk_182 0 31 (dk_at dksX0_known_2 11 rfl rfl)
theorem dX0_known_62 : decode cX0_known 62 = .ok (.bipush 31, 2) := dk_16 31 (dk_at dksX0_known_2 14 rfl rfl)
theorem dX0_known_64 : decode cX0_known 64 = .ok (.if_icmp .eq 5, 3) := dk_159 0 5 (dk_at dksX0_known_2 16 rfl rfl)
theorem dX0_known_67 : decode cX0_known 67 = .ok (.iconst 0, 1) := dk_3 (dk_at dksX0_known_2 19 rfl rfl)
theorem dX0_known_68 : decode cX0_known 68 = .ok (.ireturn, 1) := dk_172 (dk_at dksX0_known_2 20 rfl rfl)
theorem dX0_known_69 : decode cX0_known 69 = .ok (.iconst 1, 1) := dk_4 (dk_at dksX0_known_2 21 rfl rfl)
theorem dX0_known_70 : decode cX0_known 70 = .ok (.ireturn, 1) := dk_172 (dk_at dksX0_known_2 22 rfl rfl)
abbrev cX0_length : ByteArray := method_3_code
def yX0_length : MethodName := ⟨RX0, "length", "(IZ)I"⟩
def dkwX0_length_2 : List UInt8 := [16, 31, 172]
abbrev dktX0_length_2 : List UInt8 := dkwX0_length_2 ++ []
def dkwX0_length_1 : List UInt8 := [26, 16, 6, 159, 0, 15, 26, 16, 9, 159, 0, 9, 26, 16, 11, 160, 0, 8, 16, 30, 167, 0, 5]
abbrev dktX0_length_1 : List UInt8 := dkwX0_length_1 ++ dktX0_length_2
def dkwX0_length_0 : List UInt8 := [26, 5, 160, 0, 17, 27, 153, 0, 8, 16, 29, 167, 0, 38, 16, 28, 167, 0, 33, 26, 7, 159, 0, 21]
abbrev dktX0_length_0 : List UInt8 := dkwX0_length_0 ++ dktX0_length_1
theorem dksX0_length_0 : cX0_length.data.toList.drop 0 = dktX0_length_0 := by decide +kernel
theorem dksX0_length_1 : cX0_length.data.toList.drop 24 = dktX0_length_1 := dk_seg dksX0_length_0 24 rfl rfl
theorem dksX0_length_2 : cX0_length.data.toList.drop 47 = dktX0_length_2 := dk_seg dksX0_length_1 23 rfl rfl
theorem dX0_length_0 : decode cX0_length 0 = .ok (.iload_n 0, 1) := dk_26 (dk_at dksX0_length_0 0 rfl rfl)
theorem dX0_length_1 : decode cX0_length 1 = .ok (.iconst 2, 1) := dk_5 (dk_at dksX0_length_0 1 rfl rfl)
theorem dX0_length_2 : decode cX0_length 2 = .ok (.if_icmp .ne 17, 3) := dk_160 0 17 (dk_at dksX0_length_0 2 rfl rfl)
theorem dX0_length_5 : decode cX0_length 5 = .ok (.iload_n 1, 1) := dk_27 (dk_at dksX0_length_0 5 rfl rfl)
theorem dX0_length_6 : decode cX0_length 6 = .ok (.ifCond .eq 8, 3) := dk_153 0 8 (dk_at dksX0_length_0 6 rfl rfl)
theorem dX0_length_9 : decode cX0_length 9 = .ok (.bipush 29, 2) := dk_16 29 (dk_at dksX0_length_0 9 rfl rfl)
theorem dX0_length_11 : decode cX0_length 11 = .ok (.goto 38, 3) := dk_167 0 38 (dk_at dksX0_length_0 11 rfl rfl)
theorem dX0_length_14 : decode cX0_length 14 = .ok (.bipush 28, 2) := dk_16 28 (dk_at dksX0_length_0 14 rfl rfl)
theorem dX0_length_16 : decode cX0_length 16 = .ok (.goto 33, 3) := dk_167 0 33 (dk_at dksX0_length_0 16 rfl rfl)
theorem dX0_length_19 : decode cX0_length 19 = .ok (.iload_n 0, 1) := dk_26 (dk_at dksX0_length_0 19 rfl rfl)
theorem dX0_length_20 : decode cX0_length 20 = .ok (.iconst 4, 1) := dk_7 (dk_at dksX0_length_0 20 rfl rfl)
theorem dX0_length_21 : decode cX0_length 21 = .ok (.if_icmp .eq 21, 3) := dk_159 0 21 (dk_at dksX0_length_0 21 rfl rfl)
theorem dX0_length_24 : decode cX0_length 24 = .ok (.iload_n 0, 1) := dk_26 (dk_at dksX0_length_1 0 rfl rfl)
theorem dX0_length_25 : decode cX0_length 25 = .ok (.bipush 6, 2) := dk_16 6 (dk_at dksX0_length_1 1 rfl rfl)
theorem dX0_length_27 : decode cX0_length 27 = .ok (.if_icmp .eq 15, 3) := dk_159 0 15 (dk_at dksX0_length_1 3 rfl rfl)
theorem dX0_length_30 : decode cX0_length 30 = .ok (.iload_n 0, 1) := dk_26 (dk_at dksX0_length_1 6 rfl rfl)
theorem dX0_length_31 : decode cX0_length 31 = .ok (.bipush 9, 2) := dk_16 9 (dk_at dksX0_length_1 7 rfl rfl)
theorem dX0_length_33 : decode cX0_length 33 = .ok (.if_icmp .eq 9, 3) := dk_159 0 9 (dk_at dksX0_length_1 9 rfl rfl)
theorem dX0_length_36 : decode cX0_length 36 = .ok (.iload_n 0, 1) := dk_26 (dk_at dksX0_length_1 12 rfl rfl)
theorem dX0_length_37 : decode cX0_length 37 = .ok (.bipush 11, 2) := dk_16 11 (dk_at dksX0_length_1 13 rfl rfl)
theorem dX0_length_39 : decode cX0_length 39 = .ok (.if_icmp .ne 8, 3) := dk_160 0 8 (dk_at dksX0_length_1 15 rfl rfl)
theorem dX0_length_42 : decode cX0_length 42 = .ok (.bipush 30, 2) := dk_16 30 (dk_at dksX0_length_1 18 rfl rfl)
theorem dX0_length_44 : decode cX0_length 44 = .ok (.goto 5, 3) := dk_167 0 5 (dk_at dksX0_length_1 20 rfl rfl)
theorem dX0_length_47 : decode cX0_length 47 = .ok (.bipush 31, 2) := dk_16 31 (dk_at dksX0_length_2 0 rfl rfl)
theorem dX0_length_49 : decode cX0_length 49 = .ok (.ireturn, 1) := dk_172 (dk_at dksX0_length_2 2 rfl rfl)
abbrev cX0_askedNear : ByteArray := method_9_code
def yX0_askedNear : MethodName := ⟨RX0, "askedNear", "(I)Z"⟩
def dkwX0_askedNear_2 : List UInt8 := [172]
abbrev dktX0_askedNear_2 : List UInt8 := dkwX0_askedNear_2 ++ []
def dkwX0_askedNear_1 : List UInt8 := [153, 0, 23, 43, 3, 182, 0, 108, 153, 0, 15, 43, 9, 184, 0, 112, 153, 0, 7, 4, 167, 0, 4, 3]
abbrev dktX0_askedNear_1 : List UInt8 := dkwX0_askedNear_1 ++ dktX0_askedNear_2
def dkwX0_askedNear_0 : List UInt8 := [187, 0, 7, 89, 183, 0, 9, 76, 43, 26, 182, 0, 108, 153, 0, 32, 43, 26, 133, 184, 0, 112]
abbrev dktX0_askedNear_0 : List UInt8 := dkwX0_askedNear_0 ++ dktX0_askedNear_1
theorem dksX0_askedNear_0 : cX0_askedNear.data.toList.drop 0 = dktX0_askedNear_0 := by decide +kernel
theorem dksX0_askedNear_1 : cX0_askedNear.data.toList.drop 22 = dktX0_askedNear_1 := dk_seg dksX0_askedNear_0 22 rfl rfl
theorem dksX0_askedNear_2 : cX0_askedNear.data.toList.drop 46 = dktX0_askedNear_2 := dk_seg dksX0_askedNear_1 24 rfl rfl
theorem dX0_askedNear_0 : decode cX0_askedNear 0 = .ok (.new 7, 3) := dk_187 0 7 (dk_at dksX0_askedNear_0 0 rfl rfl)
theorem dX0_askedNear_3 : decode cX0_askedNear 3 = .ok (.dup, 1) := dk_89 (dk_at dksX0_askedNear_0 3 rfl rfl)
theorem dX0_askedNear_4 : decode cX0_askedNear 4 = .ok (.invokespecial 9, 3) := dk_183 0 9 (dk_at dksX0_askedNear_0 4 rfl rfl)
theorem dX0_askedNear_7 : decode cX0_askedNear 7 = .ok (.astore_n 1, 1) := dk_76 (dk_at dksX0_askedNear_0 7 rfl rfl)
theorem dX0_askedNear_8 : decode cX0_askedNear 8 = .ok (.aload_n 1, 1) := dk_43 (dk_at dksX0_askedNear_0 8 rfl rfl)
theorem dX0_askedNear_9 : decode cX0_askedNear 9 = .ok (.iload_n 0, 1) := dk_26 (dk_at dksX0_askedNear_0 9 rfl rfl)
theorem dX0_askedNear_10 : decode cX0_askedNear 10 = .ok (.invokevirtual 108, 3) := dk_182 0 108 (dk_at dksX0_askedNear_0 10 rfl rfl)
theorem dX0_askedNear_13 : decode cX0_askedNear 13 = .ok (.ifCond .eq 32, 3) := dk_153 0 32 (dk_at dksX0_askedNear_0 13 rfl rfl)
theorem dX0_askedNear_16 : decode cX0_askedNear 16 = .ok (.aload_n 1, 1) := dk_43 (dk_at dksX0_askedNear_0 16 rfl rfl)
theorem dX0_askedNear_17 : decode cX0_askedNear 17 = .ok (.iload_n 0, 1) := dk_26 (dk_at dksX0_askedNear_0 17 rfl rfl)
theorem dX0_askedNear_18 : decode cX0_askedNear 18 = .ok (.i2l, 1) := dk_133 (dk_at dksX0_askedNear_0 18 rfl rfl)
theorem dX0_askedNear_19 : decode cX0_askedNear 19 = .ok (.invokestatic 112, 3) := dk_184 0 112 (dk_at dksX0_askedNear_0 19 rfl rfl)
theorem dX0_askedNear_22 : decode cX0_askedNear 22 = .ok (.ifCond .eq 23, 3) := dk_153 0 23 (dk_at dksX0_askedNear_1 0 rfl rfl)
theorem dX0_askedNear_25 : decode cX0_askedNear 25 = .ok (.aload_n 1, 1) := dk_43 (dk_at dksX0_askedNear_1 3 rfl rfl)
theorem dX0_askedNear_26 : decode cX0_askedNear 26 = .ok (.iconst 0, 1) := dk_3 (dk_at dksX0_askedNear_1 4 rfl rfl)
theorem dX0_askedNear_27 : decode cX0_askedNear 27 = .ok (.invokevirtual 108, 3) := dk_182 0 108 (dk_at dksX0_askedNear_1 5 rfl rfl)
theorem dX0_askedNear_30 : decode cX0_askedNear 30 = .ok (.ifCond .eq 15, 3) := dk_153 0 15 (dk_at dksX0_askedNear_1 8 rfl rfl)
theorem dX0_askedNear_33 : decode cX0_askedNear 33 = .ok (.aload_n 1, 1) := dk_43 (dk_at dksX0_askedNear_1 11 rfl rfl)
theorem dX0_askedNear_34 : decode cX0_askedNear 34 = .ok (.lconst 0, 1) := dk_9 (dk_at dksX0_askedNear_1 12 rfl rfl)
theorem dX0_askedNear_35 : decode cX0_askedNear 35 = .ok (.invokestatic 112, 3) := dk_184 0 112 (dk_at dksX0_askedNear_1 13 rfl rfl)
theorem dX0_askedNear_38 : decode cX0_askedNear 38 = .ok (.ifCond .eq 7, 3) := dk_153 0 7 (dk_at dksX0_askedNear_1 16 rfl rfl)
theorem dX0_askedNear_41 : decode cX0_askedNear 41 = .ok (.iconst 1, 1) := dk_4 (dk_at dksX0_askedNear_1 19 rfl rfl)
theorem dX0_askedNear_42 : decode cX0_askedNear 42 = .ok (.goto 4, 3) := dk_167 0 4 (dk_at dksX0_askedNear_1 20 rfl rfl)
theorem dX0_askedNear_45 : decode cX0_askedNear 45 = .ok (.iconst 0, 1) := dk_3 (dk_at dksX0_askedNear_1 23 rfl rfl)
theorem dX0_askedNear_46 : decode cX0_askedNear 46 = .ok (.ireturn, 1) := dk_172 (dk_at dksX0_askedNear_2 0 rfl rfl)
abbrev cX0_askedIs : ByteArray := method_8_code
def yX0_askedIs : MethodName := ⟨RX0, "askedIs", "(LDayCount;J)Z"⟩
def dkwX0_askedIs_2 : List UInt8 := [154, 0, 19, 42, 182, 0, 24, 133, 45, 6, 47, 148, 154, 0, 7, 4, 167, 0, 4, 3, 172]
abbrev dktX0_askedIs_2 : List UInt8 := dkwX0_askedIs_2 ++ []
def dkwX0_askedIs_1 : List UInt8 := [154, 0, 43, 42, 182, 0, 18, 133, 45, 4, 47, 148, 154, 0, 31, 42, 182, 0, 21, 133, 45, 5, 47, 148]
abbrev dktX0_askedIs_1 : List UInt8 := dkwX0_askedIs_1 ++ dktX0_askedIs_2
def dkwX0_askedIs_0 : List UInt8 := [31, 184, 0, 104, 78, 42, 182, 0, 49, 31, 148, 154, 0, 55, 42, 182, 0, 14, 133, 45, 3, 47, 148]
abbrev dktX0_askedIs_0 : List UInt8 := dkwX0_askedIs_0 ++ dktX0_askedIs_1
theorem dksX0_askedIs_0 : cX0_askedIs.data.toList.drop 0 = dktX0_askedIs_0 := by decide +kernel
theorem dksX0_askedIs_1 : cX0_askedIs.data.toList.drop 23 = dktX0_askedIs_1 := dk_seg dksX0_askedIs_0 23 rfl rfl
theorem dksX0_askedIs_2 : cX0_askedIs.data.toList.drop 47 = dktX0_askedIs_2 := dk_seg dksX0_askedIs_1 24 rfl rfl
theorem dX0_askedIs_0 : decode cX0_askedIs 0 = .ok (.lload_n 1, 1) := dk_31 (dk_at dksX0_askedIs_0 0 rfl rfl)
theorem dX0_askedIs_1 : decode cX0_askedIs 1 = .ok (.invokestatic 104, 3) := dk_184 0 104 (dk_at dksX0_askedIs_0 1 rfl rfl)
theorem dX0_askedIs_4 : decode cX0_askedIs 4 = .ok (.astore_n 3, 1) := dk_78 (dk_at dksX0_askedIs_0 4 rfl rfl)
theorem dX0_askedIs_5 : decode cX0_askedIs 5 = .ok (.aload_n 0, 1) := dk_42 (dk_at dksX0_askedIs_0 5 rfl rfl)
theorem dX0_askedIs_6 : decode cX0_askedIs 6 = .ok (.invokevirtual 49, 3) := dk_182 0 49 (dk_at dksX0_askedIs_0 6 rfl rfl)
theorem dX0_askedIs_9 : decode cX0_askedIs 9 = .ok (.lload_n 1, 1) := dk_31 (dk_at dksX0_askedIs_0 9 rfl rfl)
theorem dX0_askedIs_10 : decode cX0_askedIs 10 = .ok (.lcmp, 1) := dk_148 (dk_at dksX0_askedIs_0 10 rfl rfl)
theorem dX0_askedIs_11 : decode cX0_askedIs 11 = .ok (.ifCond .ne 55, 3) := dk_154 0 55 (dk_at dksX0_askedIs_0 11 rfl rfl)
theorem dX0_askedIs_14 : decode cX0_askedIs 14 = .ok (.aload_n 0, 1) := dk_42 (dk_at dksX0_askedIs_0 14 rfl rfl)
theorem dX0_askedIs_15 : decode cX0_askedIs 15 = .ok (.invokevirtual 14, 3) := dk_182 0 14 (dk_at dksX0_askedIs_0 15 rfl rfl)
theorem dX0_askedIs_18 : decode cX0_askedIs 18 = .ok (.i2l, 1) := dk_133 (dk_at dksX0_askedIs_0 18 rfl rfl)
theorem dX0_askedIs_19 : decode cX0_askedIs 19 = .ok (.aload_n 3, 1) := dk_45 (dk_at dksX0_askedIs_0 19 rfl rfl)
theorem dX0_askedIs_20 : decode cX0_askedIs 20 = .ok (.iconst 0, 1) := dk_3 (dk_at dksX0_askedIs_0 20 rfl rfl)
theorem dX0_askedIs_21 : decode cX0_askedIs 21 = .ok (.laload, 1) := dk_47 (dk_at dksX0_askedIs_0 21 rfl rfl)
theorem dX0_askedIs_22 : decode cX0_askedIs 22 = .ok (.lcmp, 1) := dk_148 (dk_at dksX0_askedIs_0 22 rfl rfl)
theorem dX0_askedIs_23 : decode cX0_askedIs 23 = .ok (.ifCond .ne 43, 3) := dk_154 0 43 (dk_at dksX0_askedIs_1 0 rfl rfl)
theorem dX0_askedIs_26 : decode cX0_askedIs 26 = .ok (.aload_n 0, 1) := dk_42 (dk_at dksX0_askedIs_1 3 rfl rfl)
theorem dX0_askedIs_27 : decode cX0_askedIs 27 = .ok (.invokevirtual 18, 3) := dk_182 0 18 (dk_at dksX0_askedIs_1 4 rfl rfl)
theorem dX0_askedIs_30 : decode cX0_askedIs 30 = .ok (.i2l, 1) := dk_133 (dk_at dksX0_askedIs_1 7 rfl rfl)
theorem dX0_askedIs_31 : decode cX0_askedIs 31 = .ok (.aload_n 3, 1) := dk_45 (dk_at dksX0_askedIs_1 8 rfl rfl)
theorem dX0_askedIs_32 : decode cX0_askedIs 32 = .ok (.iconst 1, 1) := dk_4 (dk_at dksX0_askedIs_1 9 rfl rfl)
theorem dX0_askedIs_33 : decode cX0_askedIs 33 = .ok (.laload, 1) := dk_47 (dk_at dksX0_askedIs_1 10 rfl rfl)
theorem dX0_askedIs_34 : decode cX0_askedIs 34 = .ok (.lcmp, 1) := dk_148 (dk_at dksX0_askedIs_1 11 rfl rfl)
theorem dX0_askedIs_35 : decode cX0_askedIs 35 = .ok (.ifCond .ne 31, 3) := dk_154 0 31 (dk_at dksX0_askedIs_1 12 rfl rfl)
theorem dX0_askedIs_38 : decode cX0_askedIs 38 = .ok (.aload_n 0, 1) := dk_42 (dk_at dksX0_askedIs_1 15 rfl rfl)
theorem dX0_askedIs_39 : decode cX0_askedIs 39 = .ok (.invokevirtual 21, 3) := dk_182 0 21 (dk_at dksX0_askedIs_1 16 rfl rfl)
theorem dX0_askedIs_42 : decode cX0_askedIs 42 = .ok (.i2l, 1) := dk_133 (dk_at dksX0_askedIs_1 19 rfl rfl)
theorem dX0_askedIs_43 : decode cX0_askedIs 43 = .ok (.aload_n 3, 1) := dk_45 (dk_at dksX0_askedIs_1 20 rfl rfl)
theorem dX0_askedIs_44 : decode cX0_askedIs 44 = .ok (.iconst 2, 1) := dk_5 (dk_at dksX0_askedIs_1 21 rfl rfl)
theorem dX0_askedIs_45 : decode cX0_askedIs 45 = .ok (.laload, 1) := dk_47 (dk_at dksX0_askedIs_1 22 rfl rfl)
theorem dX0_askedIs_46 : decode cX0_askedIs 46 = .ok (.lcmp, 1) := dk_148 (dk_at dksX0_askedIs_1 23 rfl rfl)
theorem dX0_askedIs_47 : decode cX0_askedIs 47 = .ok (.ifCond .ne 19, 3) := dk_154 0 19 (dk_at dksX0_askedIs_2 0 rfl rfl)
theorem dX0_askedIs_50 : decode cX0_askedIs 50 = .ok (.aload_n 0, 1) := dk_42 (dk_at dksX0_askedIs_2 3 rfl rfl)
theorem dX0_askedIs_51 : decode cX0_askedIs 51 = .ok (.invokevirtual 24, 3) := dk_182 0 24 (dk_at dksX0_askedIs_2 4 rfl rfl)
theorem dX0_askedIs_54 : decode cX0_askedIs 54 = .ok (.i2l, 1) := dk_133 (dk_at dksX0_askedIs_2 7 rfl rfl)
theorem dX0_askedIs_55 : decode cX0_askedIs 55 = .ok (.aload_n 3, 1) := dk_45 (dk_at dksX0_askedIs_2 8 rfl rfl)
theorem dX0_askedIs_56 : decode cX0_askedIs 56 = .ok (.iconst 3, 1) := dk_6 (dk_at dksX0_askedIs_2 9 rfl rfl)
theorem dX0_askedIs_57 : decode cX0_askedIs 57 = .ok (.laload, 1) := dk_47 (dk_at dksX0_askedIs_2 10 rfl rfl)
theorem dX0_askedIs_58 : decode cX0_askedIs 58 = .ok (.lcmp, 1) := dk_148 (dk_at dksX0_askedIs_2 11 rfl rfl)
theorem dX0_askedIs_59 : decode cX0_askedIs 59 = .ok (.ifCond .ne 7, 3) := dk_154 0 7 (dk_at dksX0_askedIs_2 12 rfl rfl)
theorem dX0_askedIs_62 : decode cX0_askedIs 62 = .ok (.iconst 1, 1) := dk_4 (dk_at dksX0_askedIs_2 15 rfl rfl)
theorem dX0_askedIs_63 : decode cX0_askedIs 63 = .ok (.goto 4, 3) := dk_167 0 4 (dk_at dksX0_askedIs_2 16 rfl rfl)
theorem dX0_askedIs_66 : decode cX0_askedIs 66 = .ok (.iconst 0, 1) := dk_3 (dk_at dksX0_askedIs_2 19 rfl rfl)
theorem dX0_askedIs_67 : decode cX0_askedIs 67 = .ok (.ireturn, 1) := dk_172 (dk_at dksX0_askedIs_2 20 rfl rfl)
abbrev cX0_askedCivil : ByteArray := method_6_code
def yX0_askedCivil : MethodName := ⟨RX0, "askedCivil", "(J)[J"⟩
def dkwX0_askedCivil_9 : List UInt8 := [184, 0, 99, 10, 97, 80, 176]
abbrev dktX0_askedCivil_9 : List UInt8 := dkwX0_askedCivil_9 ++ []
def dkwX0_askedCivil_8 : List UInt8 := [22, 16, 80, 89, 5, 22, 14, 80, 89, 6, 22, 20, 80, 89, 7, 30, 20, 0, 87, 97, 20, 0, 97]
abbrev dktX0_askedCivil_8 : List UInt8 := dkwX0_askedCivil_8 ++ dktX0_askedCivil_9
def dkwX0_askedCivil_7 : List UInt8 := [97, 55, 18, 30, 22, 18, 184, 0, 93, 101, 10, 97, 55, 20, 8, 188, 11, 89, 3, 22, 18, 80, 89, 4]
abbrev dktX0_askedCivil_7 : List UInt8 := dkwX0_askedCivil_7 ++ dktX0_askedCivil_8
def dkwX0_askedCivil_6 : List UInt8 := [22, 8, 22, 4, 20, 0, 91, 105, 97, 22, 16, 20, 0, 87, 148, 156, 0, 7, 4, 167, 0, 4, 3, 133]
abbrev dktX0_askedCivil_6 : List UInt8 := dkwX0_askedCivil_6 ++ dktX0_askedCivil_7
def dkwX0_askedCivil_5 : List UInt8 := [20, 0, 85, 148, 156, 0, 12, 22, 12, 20, 0, 87, 97, 167, 0, 9, 22, 12, 20, 0, 89, 101, 55, 16]
abbrev dktX0_askedCivil_5 : List UInt8 := dkwX0_askedCivil_5 ++ dktX0_askedCivil_6
def dkwX0_askedCivil_4 : List UInt8 := [22, 10, 20, 0, 83, 22, 12, 105, 20, 0, 81, 97, 20, 0, 79, 109, 101, 10, 97, 55, 14, 22, 12]
abbrev dktX0_askedCivil_4 : List UInt8 := dkwX0_askedCivil_4 ++ dktX0_askedCivil_5
def dkwX0_askedCivil_3 : List UInt8 := [20, 0, 77, 109, 101, 101, 55, 10, 20, 0, 79, 22, 10, 105, 20, 0, 81, 97, 20, 0, 83, 109, 55, 12]
abbrev dktX0_askedCivil_3 : List UInt8 := dkwX0_askedCivil_3 ++ dktX0_askedCivil_4
def dkwX0_askedCivil_2 : List UInt8 := [101, 20, 0, 73, 109, 55, 8, 22, 6, 20, 0, 73, 22, 8, 105, 22, 8, 20, 0, 75, 109, 97, 22, 8]
abbrev dktX0_askedCivil_2 : List UInt8 := dkwX0_askedCivil_2 ++ dktX0_askedCivil_3
def dkwX0_askedCivil_1 : List UInt8 := [55, 6, 22, 6, 22, 6, 20, 0, 67, 109, 101, 22, 6, 20, 0, 69, 109, 97, 22, 6, 20, 0, 71, 109]
abbrev dktX0_askedCivil_1 : List UInt8 := dkwX0_askedCivil_1 ++ dktX0_askedCivil_2
def dkwX0_askedCivil_0 : List UInt8 := [30, 20, 0, 57, 97, 65, 32, 20, 0, 59, 184, 0, 61, 55, 4, 32, 22, 4, 20, 0, 59, 105, 101]
abbrev dktX0_askedCivil_0 : List UInt8 := dkwX0_askedCivil_0 ++ dktX0_askedCivil_1
theorem dksX0_askedCivil_0 : cX0_askedCivil.data.toList.drop 0 = dktX0_askedCivil_0 := by decide +kernel
theorem dksX0_askedCivil_1 : cX0_askedCivil.data.toList.drop 23 = dktX0_askedCivil_1 := dk_seg dksX0_askedCivil_0 23 rfl rfl
theorem dksX0_askedCivil_2 : cX0_askedCivil.data.toList.drop 47 = dktX0_askedCivil_2 := dk_seg dksX0_askedCivil_1 24 rfl rfl
theorem dksX0_askedCivil_3 : cX0_askedCivil.data.toList.drop 71 = dktX0_askedCivil_3 := dk_seg dksX0_askedCivil_2 24 rfl rfl
theorem dksX0_askedCivil_4 : cX0_askedCivil.data.toList.drop 95 = dktX0_askedCivil_4 := dk_seg dksX0_askedCivil_3 24 rfl rfl
theorem dksX0_askedCivil_5 : cX0_askedCivil.data.toList.drop 118 = dktX0_askedCivil_5 := dk_seg dksX0_askedCivil_4 23 rfl rfl
theorem dksX0_askedCivil_6 : cX0_askedCivil.data.toList.drop 142 = dktX0_askedCivil_6 := dk_seg dksX0_askedCivil_5 24 rfl rfl
theorem dksX0_askedCivil_7 : cX0_askedCivil.data.toList.drop 166 = dktX0_askedCivil_7 := dk_seg dksX0_askedCivil_6 24 rfl rfl
theorem dksX0_askedCivil_8 : cX0_askedCivil.data.toList.drop 190 = dktX0_askedCivil_8 := dk_seg dksX0_askedCivil_7 24 rfl rfl
theorem dksX0_askedCivil_9 : cX0_askedCivil.data.toList.drop 213 = dktX0_askedCivil_9 := dk_seg dksX0_askedCivil_8 23 rfl rfl
theorem dX0_askedCivil_0 : decode cX0_askedCivil 0 = .ok (.lload_n 0, 1) := dk_30 (dk_at dksX0_askedCivil_0 0 rfl rfl)
theorem dX0_askedCivil_1 : decode cX0_askedCivil 1 = .ok (.ldc2_w 57, 3) := dk_20 0 57 (dk_at dksX0_askedCivil_0 1 rfl rfl)
theorem dX0_askedCivil_4 : decode cX0_askedCivil 4 = .ok (.ladd, 1) := dk_97 (dk_at dksX0_askedCivil_0 4 rfl rfl)
theorem dX0_askedCivil_5 : decode cX0_askedCivil 5 = .ok (.lstore_n 2, 1) := dk_65 (dk_at dksX0_askedCivil_0 5 rfl rfl)
theorem dX0_askedCivil_6 : decode cX0_askedCivil 6 = .ok (.lload_n 2, 1) := dk_32 (dk_at dksX0_askedCivil_0 6 rfl rfl)
theorem dX0_askedCivil_7 : decode cX0_askedCivil 7 = .ok (.ldc2_w 59, 3) := dk_20 0 59 (dk_at dksX0_askedCivil_0 7 rfl rfl)
theorem dX0_askedCivil_10 : decode cX0_askedCivil 10 = .ok (.invokestatic 61, 3) := dk_184 0 61 (dk_at dksX0_askedCivil_0 10 rfl rfl)
theorem dX0_askedCivil_13 : decode cX0_askedCivil 13 = .ok (.lstore 4, 2) := dk_55 4 (dk_at dksX0_askedCivil_0 13 rfl rfl)
theorem dX0_askedCivil_15 : decode cX0_askedCivil 15 = .ok (.lload_n 2, 1) := dk_32 (dk_at dksX0_askedCivil_0 15 rfl rfl)
theorem dX0_askedCivil_16 : decode cX0_askedCivil 16 = .ok (.lload 4, 2) := dk_22 4 (dk_at dksX0_askedCivil_0 16 rfl rfl)
theorem dX0_askedCivil_18 : decode cX0_askedCivil 18 = .ok (.ldc2_w 59, 3) := dk_20 0 59 (dk_at dksX0_askedCivil_0 18 rfl rfl)
theorem dX0_askedCivil_21 : decode cX0_askedCivil 21 = .ok (.lmul, 1) := dk_105 (dk_at dksX0_askedCivil_0 21 rfl rfl)
theorem dX0_askedCivil_22 : decode cX0_askedCivil 22 = .ok (.lsub, 1) := dk_101 (dk_at dksX0_askedCivil_0 22 rfl rfl)
theorem dX0_askedCivil_23 : decode cX0_askedCivil 23 = .ok (.lstore 6, 2) := dk_55 6 (dk_at dksX0_askedCivil_1 0 rfl rfl)
theorem dX0_askedCivil_25 : decode cX0_askedCivil 25 = .ok (.lload 6, 2) := dk_22 6 (dk_at dksX0_askedCivil_1 2 rfl rfl)
theorem dX0_askedCivil_27 : decode cX0_askedCivil 27 = .ok (.lload 6, 2) := dk_22 6 (dk_at dksX0_askedCivil_1 4 rfl rfl)
theorem dX0_askedCivil_29 : decode cX0_askedCivil 29 = .ok (.ldc2_w 67, 3) := dk_20 0 67 (dk_at dksX0_askedCivil_1 6 rfl rfl)
theorem dX0_askedCivil_32 : decode cX0_askedCivil 32 = .ok (.ldiv, 1) := dk_109 (dk_at dksX0_askedCivil_1 9 rfl rfl)
theorem dX0_askedCivil_33 : decode cX0_askedCivil 33 = .ok (.lsub, 1) := dk_101 (dk_at dksX0_askedCivil_1 10 rfl rfl)
theorem dX0_askedCivil_34 : decode cX0_askedCivil 34 = .ok (.lload 6, 2) := dk_22 6 (dk_at dksX0_askedCivil_1 11 rfl rfl)
theorem dX0_askedCivil_36 : decode cX0_askedCivil 36 = .ok (.ldc2_w 69, 3) := dk_20 0 69 (dk_at dksX0_askedCivil_1 13 rfl rfl)
theorem dX0_askedCivil_39 : decode cX0_askedCivil 39 = .ok (.ldiv, 1) := dk_109 (dk_at dksX0_askedCivil_1 16 rfl rfl)
theorem dX0_askedCivil_40 : decode cX0_askedCivil 40 = .ok (.ladd, 1) := dk_97 (dk_at dksX0_askedCivil_1 17 rfl rfl)
theorem dX0_askedCivil_41 : decode cX0_askedCivil 41 = .ok (.lload 6, 2) := dk_22 6 (dk_at dksX0_askedCivil_1 18 rfl rfl)
theorem dX0_askedCivil_43 : decode cX0_askedCivil 43 = .ok (.ldc2_w 71, 3) := dk_20 0 71 (dk_at dksX0_askedCivil_1 20 rfl rfl)
theorem dX0_askedCivil_46 : decode cX0_askedCivil 46 = .ok (.ldiv, 1) := dk_109 (dk_at dksX0_askedCivil_1 23 rfl rfl)
theorem dX0_askedCivil_47 : decode cX0_askedCivil 47 = .ok (.lsub, 1) := dk_101 (dk_at dksX0_askedCivil_2 0 rfl rfl)
theorem dX0_askedCivil_48 : decode cX0_askedCivil 48 = .ok (.ldc2_w 73, 3) := dk_20 0 73 (dk_at dksX0_askedCivil_2 1 rfl rfl)
theorem dX0_askedCivil_51 : decode cX0_askedCivil 51 = .ok (.ldiv, 1) := dk_109 (dk_at dksX0_askedCivil_2 4 rfl rfl)
theorem dX0_askedCivil_52 : decode cX0_askedCivil 52 = .ok (.lstore 8, 2) := dk_55 8 (dk_at dksX0_askedCivil_2 5 rfl rfl)
theorem dX0_askedCivil_54 : decode cX0_askedCivil 54 = .ok (.lload 6, 2) := dk_22 6 (dk_at dksX0_askedCivil_2 7 rfl rfl)
theorem dX0_askedCivil_56 : decode cX0_askedCivil 56 = .ok (.ldc2_w 73, 3) := dk_20 0 73 (dk_at dksX0_askedCivil_2 9 rfl rfl)
theorem dX0_askedCivil_59 : decode cX0_askedCivil 59 = .ok (.lload 8, 2) := dk_22 8 (dk_at dksX0_askedCivil_2 12 rfl rfl)
theorem dX0_askedCivil_61 : decode cX0_askedCivil 61 = .ok (.lmul, 1) := dk_105 (dk_at dksX0_askedCivil_2 14 rfl rfl)
theorem dX0_askedCivil_62 : decode cX0_askedCivil 62 = .ok (.lload 8, 2) := dk_22 8 (dk_at dksX0_askedCivil_2 15 rfl rfl)
theorem dX0_askedCivil_64 : decode cX0_askedCivil 64 = .ok (.ldc2_w 75, 3) := dk_20 0 75 (dk_at dksX0_askedCivil_2 17 rfl rfl)
theorem dX0_askedCivil_67 : decode cX0_askedCivil 67 = .ok (.ldiv, 1) := dk_109 (dk_at dksX0_askedCivil_2 20 rfl rfl)
theorem dX0_askedCivil_68 : decode cX0_askedCivil 68 = .ok (.ladd, 1) := dk_97 (dk_at dksX0_askedCivil_2 21 rfl rfl)
theorem dX0_askedCivil_69 : decode cX0_askedCivil 69 = .ok (.lload 8, 2) := dk_22 8 (dk_at dksX0_askedCivil_2 22 rfl rfl)
theorem dX0_askedCivil_71 : decode cX0_askedCivil 71 = .ok (.ldc2_w 77, 3) := dk_20 0 77 (dk_at dksX0_askedCivil_3 0 rfl rfl)
theorem dX0_askedCivil_74 : decode cX0_askedCivil 74 = .ok (.ldiv, 1) := dk_109 (dk_at dksX0_askedCivil_3 3 rfl rfl)
theorem dX0_askedCivil_75 : decode cX0_askedCivil 75 = .ok (.lsub, 1) := dk_101 (dk_at dksX0_askedCivil_3 4 rfl rfl)
theorem dX0_askedCivil_76 : decode cX0_askedCivil 76 = .ok (.lsub, 1) := dk_101 (dk_at dksX0_askedCivil_3 5 rfl rfl)
theorem dX0_askedCivil_77 : decode cX0_askedCivil 77 = .ok (.lstore 10, 2) := dk_55 10 (dk_at dksX0_askedCivil_3 6 rfl rfl)
theorem dX0_askedCivil_79 : decode cX0_askedCivil 79 = .ok (.ldc2_w 79, 3) := dk_20 0 79 (dk_at dksX0_askedCivil_3 8 rfl rfl)
theorem dX0_askedCivil_82 : decode cX0_askedCivil 82 = .ok (.lload 10, 2) := dk_22 10 (dk_at dksX0_askedCivil_3 11 rfl rfl)
theorem dX0_askedCivil_84 : decode cX0_askedCivil 84 = .ok (.lmul, 1) := dk_105 (dk_at dksX0_askedCivil_3 13 rfl rfl)
theorem dX0_askedCivil_85 : decode cX0_askedCivil 85 = .ok (.ldc2_w 81, 3) := dk_20 0 81 (dk_at dksX0_askedCivil_3 14 rfl rfl)
theorem dX0_askedCivil_88 : decode cX0_askedCivil 88 = .ok (.ladd, 1) := dk_97 (dk_at dksX0_askedCivil_3 17 rfl rfl)
theorem dX0_askedCivil_89 : decode cX0_askedCivil 89 = .ok (.ldc2_w 83, 3) := dk_20 0 83 (dk_at dksX0_askedCivil_3 18 rfl rfl)
theorem dX0_askedCivil_92 : decode cX0_askedCivil 92 = .ok (.ldiv, 1) := dk_109 (dk_at dksX0_askedCivil_3 21 rfl rfl)
theorem dX0_askedCivil_93 : decode cX0_askedCivil 93 = .ok (.lstore 12, 2) := dk_55 12 (dk_at dksX0_askedCivil_3 22 rfl rfl)
theorem dX0_askedCivil_95 : decode cX0_askedCivil 95 = .ok (.lload 10, 2) := dk_22 10 (dk_at dksX0_askedCivil_4 0 rfl rfl)
theorem dX0_askedCivil_97 : decode cX0_askedCivil 97 = .ok (.ldc2_w 83, 3) := dk_20 0 83 (dk_at dksX0_askedCivil_4 2 rfl rfl)
theorem dX0_askedCivil_100 : decode cX0_askedCivil 100 = .ok (.lload 12, 2) := dk_22 12 (dk_at dksX0_askedCivil_4 5 rfl rfl)
theorem dX0_askedCivil_102 : decode cX0_askedCivil 102 = .ok (.lmul, 1) := dk_105 (dk_at dksX0_askedCivil_4 7 rfl rfl)
theorem dX0_askedCivil_103 : decode cX0_askedCivil 103 = .ok (.ldc2_w 81, 3) := dk_20 0 81 (dk_at dksX0_askedCivil_4 8 rfl rfl)
theorem dX0_askedCivil_106 : decode cX0_askedCivil 106 = .ok (.ladd, 1) := dk_97 (dk_at dksX0_askedCivil_4 11 rfl rfl)
theorem dX0_askedCivil_107 : decode cX0_askedCivil 107 = .ok (.ldc2_w 79, 3) := dk_20 0 79 (dk_at dksX0_askedCivil_4 12 rfl rfl)
theorem dX0_askedCivil_110 : decode cX0_askedCivil 110 = .ok (.ldiv, 1) := dk_109 (dk_at dksX0_askedCivil_4 15 rfl rfl)
theorem dX0_askedCivil_111 : decode cX0_askedCivil 111 = .ok (.lsub, 1) := dk_101 (dk_at dksX0_askedCivil_4 16 rfl rfl)
theorem dX0_askedCivil_112 : decode cX0_askedCivil 112 = .ok (.lconst 1, 1) := dk_10 (dk_at dksX0_askedCivil_4 17 rfl rfl)
theorem dX0_askedCivil_113 : decode cX0_askedCivil 113 = .ok (.ladd, 1) := dk_97 (dk_at dksX0_askedCivil_4 18 rfl rfl)
theorem dX0_askedCivil_114 : decode cX0_askedCivil 114 = .ok (.lstore 14, 2) := dk_55 14 (dk_at dksX0_askedCivil_4 19 rfl rfl)
theorem dX0_askedCivil_116 : decode cX0_askedCivil 116 = .ok (.lload 12, 2) := dk_22 12 (dk_at dksX0_askedCivil_4 21 rfl rfl)
theorem dX0_askedCivil_118 : decode cX0_askedCivil 118 = .ok (.ldc2_w 85, 3) := dk_20 0 85 (dk_at dksX0_askedCivil_5 0 rfl rfl)
theorem dX0_askedCivil_121 : decode cX0_askedCivil 121 = .ok (.lcmp, 1) := dk_148 (dk_at dksX0_askedCivil_5 3 rfl rfl)
theorem dX0_askedCivil_122 : decode cX0_askedCivil 122 = .ok (.ifCond .ge 12, 3) := dk_156 0 12 (dk_at dksX0_askedCivil_5 4 rfl rfl)
theorem dX0_askedCivil_125 : decode cX0_askedCivil 125 = .ok (.lload 12, 2) := dk_22 12 (dk_at dksX0_askedCivil_5 7 rfl rfl)
theorem dX0_askedCivil_127 : decode cX0_askedCivil 127 = .ok (.ldc2_w 87, 3) := dk_20 0 87 (dk_at dksX0_askedCivil_5 9 rfl rfl)
theorem dX0_askedCivil_130 : decode cX0_askedCivil 130 = .ok (.ladd, 1) := dk_97 (dk_at dksX0_askedCivil_5 12 rfl rfl)
theorem dX0_askedCivil_131 : decode cX0_askedCivil 131 = .ok (.goto 9, 3) := dk_167 0 9 (dk_at dksX0_askedCivil_5 13 rfl rfl)
theorem dX0_askedCivil_134 : decode cX0_askedCivil 134 = .ok (.lload 12, 2) := dk_22 12 (dk_at dksX0_askedCivil_5 16 rfl rfl)
theorem dX0_askedCivil_136 : decode cX0_askedCivil 136 = .ok (.ldc2_w 89, 3) := dk_20 0 89 (dk_at dksX0_askedCivil_5 18 rfl rfl)
theorem dX0_askedCivil_139 : decode cX0_askedCivil 139 = .ok (.lsub, 1) := dk_101 (dk_at dksX0_askedCivil_5 21 rfl rfl)
theorem dX0_askedCivil_140 : decode cX0_askedCivil 140 = .ok (.lstore 16, 2) := dk_55 16 (dk_at dksX0_askedCivil_5 22 rfl rfl)
theorem dX0_askedCivil_142 : decode cX0_askedCivil 142 = .ok (.lload 8, 2) := dk_22 8 (dk_at dksX0_askedCivil_6 0 rfl rfl)
theorem dX0_askedCivil_144 : decode cX0_askedCivil 144 = .ok (.lload 4, 2) := dk_22 4 (dk_at dksX0_askedCivil_6 2 rfl rfl)
theorem dX0_askedCivil_146 : decode cX0_askedCivil 146 = .ok (.ldc2_w 91, 3) := dk_20 0 91 (dk_at dksX0_askedCivil_6 4 rfl rfl)
theorem dX0_askedCivil_149 : decode cX0_askedCivil 149 = .ok (.lmul, 1) := dk_105 (dk_at dksX0_askedCivil_6 7 rfl rfl)
theorem dX0_askedCivil_150 : decode cX0_askedCivil 150 = .ok (.ladd, 1) := dk_97 (dk_at dksX0_askedCivil_6 8 rfl rfl)
theorem dX0_askedCivil_151 : decode cX0_askedCivil 151 = .ok (.lload 16, 2) := dk_22 16 (dk_at dksX0_askedCivil_6 9 rfl rfl)
theorem dX0_askedCivil_153 : decode cX0_askedCivil 153 = .ok (.ldc2_w 87, 3) := dk_20 0 87 (dk_at dksX0_askedCivil_6 11 rfl rfl)
theorem dX0_askedCivil_156 : decode cX0_askedCivil 156 = .ok (.lcmp, 1) := dk_148 (dk_at dksX0_askedCivil_6 14 rfl rfl)
theorem dX0_askedCivil_157 : decode cX0_askedCivil 157 = .ok (.ifCond .ge 7, 3) := dk_156 0 7 (dk_at dksX0_askedCivil_6 15 rfl rfl)
theorem dX0_askedCivil_160 : decode cX0_askedCivil 160 = .ok (.iconst 1, 1) := dk_4 (dk_at dksX0_askedCivil_6 18 rfl rfl)
theorem dX0_askedCivil_161 : decode cX0_askedCivil 161 = .ok (.goto 4, 3) := dk_167 0 4 (dk_at dksX0_askedCivil_6 19 rfl rfl)
theorem dX0_askedCivil_164 : decode cX0_askedCivil 164 = .ok (.iconst 0, 1) := dk_3 (dk_at dksX0_askedCivil_6 22 rfl rfl)
theorem dX0_askedCivil_165 : decode cX0_askedCivil 165 = .ok (.i2l, 1) := dk_133 (dk_at dksX0_askedCivil_6 23 rfl rfl)
theorem dX0_askedCivil_166 : decode cX0_askedCivil 166 = .ok (.ladd, 1) := dk_97 (dk_at dksX0_askedCivil_7 0 rfl rfl)
theorem dX0_askedCivil_167 : decode cX0_askedCivil 167 = .ok (.lstore 18, 2) := dk_55 18 (dk_at dksX0_askedCivil_7 1 rfl rfl)
theorem dX0_askedCivil_169 : decode cX0_askedCivil 169 = .ok (.lload_n 0, 1) := dk_30 (dk_at dksX0_askedCivil_7 3 rfl rfl)
theorem dX0_askedCivil_170 : decode cX0_askedCivil 170 = .ok (.lload 18, 2) := dk_22 18 (dk_at dksX0_askedCivil_7 4 rfl rfl)
theorem dX0_askedCivil_172 : decode cX0_askedCivil 172 = .ok (.invokestatic 93, 3) := dk_184 0 93 (dk_at dksX0_askedCivil_7 6 rfl rfl)
theorem dX0_askedCivil_175 : decode cX0_askedCivil 175 = .ok (.lsub, 1) := dk_101 (dk_at dksX0_askedCivil_7 9 rfl rfl)
theorem dX0_askedCivil_176 : decode cX0_askedCivil 176 = .ok (.lconst 1, 1) := dk_10 (dk_at dksX0_askedCivil_7 10 rfl rfl)
theorem dX0_askedCivil_177 : decode cX0_askedCivil 177 = .ok (.ladd, 1) := dk_97 (dk_at dksX0_askedCivil_7 11 rfl rfl)
theorem dX0_askedCivil_178 : decode cX0_askedCivil 178 = .ok (.lstore 20, 2) := dk_55 20 (dk_at dksX0_askedCivil_7 12 rfl rfl)
theorem dX0_askedCivil_180 : decode cX0_askedCivil 180 = .ok (.iconst 5, 1) := dk_8 (dk_at dksX0_askedCivil_7 14 rfl rfl)
theorem dX0_askedCivil_181 : decode cX0_askedCivil 181 = .ok (.newarray .long, 2) := dk_188_11 (dk_at dksX0_askedCivil_7 15 rfl rfl)
theorem dX0_askedCivil_183 : decode cX0_askedCivil 183 = .ok (.dup, 1) := dk_89 (dk_at dksX0_askedCivil_7 17 rfl rfl)
theorem dX0_askedCivil_184 : decode cX0_askedCivil 184 = .ok (.iconst 0, 1) := dk_3 (dk_at dksX0_askedCivil_7 18 rfl rfl)
theorem dX0_askedCivil_185 : decode cX0_askedCivil 185 = .ok (.lload 18, 2) := dk_22 18 (dk_at dksX0_askedCivil_7 19 rfl rfl)
theorem dX0_askedCivil_187 : decode cX0_askedCivil 187 = .ok (.lastore, 1) := dk_80 (dk_at dksX0_askedCivil_7 21 rfl rfl)
theorem dX0_askedCivil_188 : decode cX0_askedCivil 188 = .ok (.dup, 1) := dk_89 (dk_at dksX0_askedCivil_7 22 rfl rfl)
theorem dX0_askedCivil_189 : decode cX0_askedCivil 189 = .ok (.iconst 1, 1) := dk_4 (dk_at dksX0_askedCivil_7 23 rfl rfl)
theorem dX0_askedCivil_190 : decode cX0_askedCivil 190 = .ok (.lload 16, 2) := dk_22 16 (dk_at dksX0_askedCivil_8 0 rfl rfl)
theorem dX0_askedCivil_192 : decode cX0_askedCivil 192 = .ok (.lastore, 1) := dk_80 (dk_at dksX0_askedCivil_8 2 rfl rfl)
theorem dX0_askedCivil_193 : decode cX0_askedCivil 193 = .ok (.dup, 1) := dk_89 (dk_at dksX0_askedCivil_8 3 rfl rfl)
theorem dX0_askedCivil_194 : decode cX0_askedCivil 194 = .ok (.iconst 2, 1) := dk_5 (dk_at dksX0_askedCivil_8 4 rfl rfl)
theorem dX0_askedCivil_195 : decode cX0_askedCivil 195 = .ok (.lload 14, 2) := dk_22 14 (dk_at dksX0_askedCivil_8 5 rfl rfl)
theorem dX0_askedCivil_197 : decode cX0_askedCivil 197 = .ok (.lastore, 1) := dk_80 (dk_at dksX0_askedCivil_8 7 rfl rfl)
theorem dX0_askedCivil_198 : decode cX0_askedCivil 198 = .ok (.dup, 1) := dk_89 (dk_at dksX0_askedCivil_8 8 rfl rfl)
theorem dX0_askedCivil_199 : decode cX0_askedCivil 199 = .ok (.iconst 3, 1) := dk_6 (dk_at dksX0_askedCivil_8 9 rfl rfl)
theorem dX0_askedCivil_200 : decode cX0_askedCivil 200 = .ok (.lload 20, 2) := dk_22 20 (dk_at dksX0_askedCivil_8 10 rfl rfl)
theorem dX0_askedCivil_202 : decode cX0_askedCivil 202 = .ok (.lastore, 1) := dk_80 (dk_at dksX0_askedCivil_8 12 rfl rfl)
theorem dX0_askedCivil_203 : decode cX0_askedCivil 203 = .ok (.dup, 1) := dk_89 (dk_at dksX0_askedCivil_8 13 rfl rfl)
theorem dX0_askedCivil_204 : decode cX0_askedCivil 204 = .ok (.iconst 4, 1) := dk_7 (dk_at dksX0_askedCivil_8 14 rfl rfl)
theorem dX0_askedCivil_205 : decode cX0_askedCivil 205 = .ok (.lload_n 0, 1) := dk_30 (dk_at dksX0_askedCivil_8 15 rfl rfl)
theorem dX0_askedCivil_206 : decode cX0_askedCivil 206 = .ok (.ldc2_w 87, 3) := dk_20 0 87 (dk_at dksX0_askedCivil_8 16 rfl rfl)
theorem dX0_askedCivil_209 : decode cX0_askedCivil 209 = .ok (.ladd, 1) := dk_97 (dk_at dksX0_askedCivil_8 19 rfl rfl)
theorem dX0_askedCivil_210 : decode cX0_askedCivil 210 = .ok (.ldc2_w 97, 3) := dk_20 0 97 (dk_at dksX0_askedCivil_8 20 rfl rfl)
theorem dX0_askedCivil_213 : decode cX0_askedCivil 213 = .ok (.invokestatic 99, 3) := dk_184 0 99 (dk_at dksX0_askedCivil_9 0 rfl rfl)
theorem dX0_askedCivil_216 : decode cX0_askedCivil 216 = .ok (.lconst 1, 1) := dk_10 (dk_at dksX0_askedCivil_9 3 rfl rfl)
theorem dX0_askedCivil_217 : decode cX0_askedCivil 217 = .ok (.ladd, 1) := dk_97 (dk_at dksX0_askedCivil_9 4 rfl rfl)
theorem dX0_askedCivil_218 : decode cX0_askedCivil 218 = .ok (.lastore, 1) := dk_80 (dk_at dksX0_askedCivil_9 5 rfl rfl)
theorem dX0_askedCivil_219 : decode cX0_askedCivil 219 = .ok (.areturn, 1) := dk_176 (dk_at dksX0_askedCivil_9 6 rfl rfl)
abbrev cX0_askedFirstOf : ByteArray := method_7_code
def yX0_askedFirstOf : MethodName := ⟨RX0, "askedFirstOf", "(J)J"⟩
def dkwX0_askedFirstOf_1 : List UInt8 := [101, 32, 20, 0, 91, 184, 0, 61, 97, 20, 0, 102, 101, 173]
abbrev dktX0_askedFirstOf_1 : List UInt8 := dkwX0_askedFirstOf_1 ++ []
def dkwX0_askedFirstOf_0 : List UInt8 := [30, 10, 101, 65, 20, 0, 73, 32, 105, 32, 20, 0, 75, 184, 0, 61, 97, 32, 20, 0, 77, 184, 0, 61]
abbrev dktX0_askedFirstOf_0 : List UInt8 := dkwX0_askedFirstOf_0 ++ dktX0_askedFirstOf_1
theorem dksX0_askedFirstOf_0 : cX0_askedFirstOf.data.toList.drop 0 = dktX0_askedFirstOf_0 := by decide +kernel
theorem dksX0_askedFirstOf_1 : cX0_askedFirstOf.data.toList.drop 24 = dktX0_askedFirstOf_1 := dk_seg dksX0_askedFirstOf_0 24 rfl rfl
theorem dX0_askedFirstOf_0 : decode cX0_askedFirstOf 0 = .ok (.lload_n 0, 1) := dk_30 (dk_at dksX0_askedFirstOf_0 0 rfl rfl)
theorem dX0_askedFirstOf_1 : decode cX0_askedFirstOf 1 = .ok (.lconst 1, 1) := dk_10 (dk_at dksX0_askedFirstOf_0 1 rfl rfl)
theorem dX0_askedFirstOf_2 : decode cX0_askedFirstOf 2 = .ok (.lsub, 1) := dk_101 (dk_at dksX0_askedFirstOf_0 2 rfl rfl)
theorem dX0_askedFirstOf_3 : decode cX0_askedFirstOf 3 = .ok (.lstore_n 2, 1) := dk_65 (dk_at dksX0_askedFirstOf_0 3 rfl rfl)
theorem dX0_askedFirstOf_4 : decode cX0_askedFirstOf 4 = .ok (.ldc2_w 73, 3) := dk_20 0 73 (dk_at dksX0_askedFirstOf_0 4 rfl rfl)
theorem dX0_askedFirstOf_7 : decode cX0_askedFirstOf 7 = .ok (.lload_n 2, 1) := dk_32 (dk_at dksX0_askedFirstOf_0 7 rfl rfl)
theorem dX0_askedFirstOf_8 : decode cX0_askedFirstOf 8 = .ok (.lmul, 1) := dk_105 (dk_at dksX0_askedFirstOf_0 8 rfl rfl)
theorem dX0_askedFirstOf_9 : decode cX0_askedFirstOf 9 = .ok (.lload_n 2, 1) := dk_32 (dk_at dksX0_askedFirstOf_0 9 rfl rfl)
theorem dX0_askedFirstOf_10 : decode cX0_askedFirstOf 10 = .ok (.ldc2_w 75, 3) := dk_20 0 75 (dk_at dksX0_askedFirstOf_0 10 rfl rfl)
theorem dX0_askedFirstOf_13 : decode cX0_askedFirstOf 13 = .ok (.invokestatic 61, 3) := dk_184 0 61 (dk_at dksX0_askedFirstOf_0 13 rfl rfl)
theorem dX0_askedFirstOf_16 : decode cX0_askedFirstOf 16 = .ok (.ladd, 1) := dk_97 (dk_at dksX0_askedFirstOf_0 16 rfl rfl)
theorem dX0_askedFirstOf_17 : decode cX0_askedFirstOf 17 = .ok (.lload_n 2, 1) := dk_32 (dk_at dksX0_askedFirstOf_0 17 rfl rfl)
theorem dX0_askedFirstOf_18 : decode cX0_askedFirstOf 18 = .ok (.ldc2_w 77, 3) := dk_20 0 77 (dk_at dksX0_askedFirstOf_0 18 rfl rfl)
theorem dX0_askedFirstOf_21 : decode cX0_askedFirstOf 21 = .ok (.invokestatic 61, 3) := dk_184 0 61 (dk_at dksX0_askedFirstOf_0 21 rfl rfl)
theorem dX0_askedFirstOf_24 : decode cX0_askedFirstOf 24 = .ok (.lsub, 1) := dk_101 (dk_at dksX0_askedFirstOf_1 0 rfl rfl)
theorem dX0_askedFirstOf_25 : decode cX0_askedFirstOf 25 = .ok (.lload_n 2, 1) := dk_32 (dk_at dksX0_askedFirstOf_1 1 rfl rfl)
theorem dX0_askedFirstOf_26 : decode cX0_askedFirstOf 26 = .ok (.ldc2_w 91, 3) := dk_20 0 91 (dk_at dksX0_askedFirstOf_1 2 rfl rfl)
theorem dX0_askedFirstOf_29 : decode cX0_askedFirstOf 29 = .ok (.invokestatic 61, 3) := dk_184 0 61 (dk_at dksX0_askedFirstOf_1 5 rfl rfl)
theorem dX0_askedFirstOf_32 : decode cX0_askedFirstOf 32 = .ok (.ladd, 1) := dk_97 (dk_at dksX0_askedFirstOf_1 8 rfl rfl)
theorem dX0_askedFirstOf_33 : decode cX0_askedFirstOf 33 = .ok (.ldc2_w 102, 3) := dk_20 0 102 (dk_at dksX0_askedFirstOf_1 9 rfl rfl)
theorem dX0_askedFirstOf_36 : decode cX0_askedFirstOf 36 = .ok (.lsub, 1) := dk_101 (dk_at dksX0_askedFirstOf_1 12 rfl rfl)
theorem dX0_askedFirstOf_37 : decode cX0_askedFirstOf 37 = .ok (.lreturn, 1) := dk_173 (dk_at dksX0_askedFirstOf_1 13 rfl rfl)
abbrev cX0_askedEnds : ByteArray := method_10_code
def yX0_askedEnds : MethodName := ⟨RX0, "askedEnds", "(I)Z"⟩
def dkwX0_askedEnds_10 : List UInt8 := [167, 0, 4, 3, 172]
abbrev dktX0_askedEnds_10 : List UInt8 := dkwX0_askedEnds_10 ++ []
def dkwX0_askedEnds_9 : List UInt8 := [154, 0, 26, 43, 182, 0, 31, 16, 31, 160, 0, 17, 43, 182, 0, 49, 22, 4, 148, 154, 0, 7, 4]
abbrev dktX0_askedEnds_9 : List UInt8 := dkwX0_askedEnds_9 ++ dktX0_askedEnds_10
def dkwX0_askedEnds_8 : List UInt8 := [43, 182, 0, 21, 16, 31, 160, 0, 43, 43, 182, 0, 24, 17, 1, 109, 160, 0, 33, 43, 182, 0, 27]
abbrev dktX0_askedEnds_8 : List UInt8 := dkwX0_askedEnds_8 ++ dktX0_askedEnds_9
def dkwX0_askedEnds_7 : List UInt8 := [182, 0, 10, 153, 0, 70, 43, 182, 0, 14, 18, 119, 160, 0, 61, 43, 182, 0, 18, 16, 12, 160, 0, 52]
abbrev dktX0_askedEnds_7 : List UInt8 := dkwX0_askedEnds_7 ++ dktX0_askedEnds_8
def dkwX0_askedEnds_6 : List UInt8 := [154, 0, 12, 43, 182, 0, 31, 16, 31, 159, 0, 5, 3, 172, 43, 22, 4, 16, 32, 123, 136, 22, 4, 136]
abbrev dktX0_askedEnds_6 : List UInt8 := dkwX0_askedEnds_6 ++ dktX0_askedEnds_7
def dkwX0_askedEnds_5 : List UInt8 := [160, 0, 35, 43, 182, 0, 21, 4, 160, 0, 27, 43, 182, 0, 24, 4, 160, 0, 19, 43, 182, 0, 27]
abbrev dktX0_askedEnds_5 : List UInt8 := dkwX0_askedEnds_5 ++ dktX0_askedEnds_6
def dkwX0_askedEnds_4 : List UInt8 := [123, 136, 32, 136, 182, 0, 10, 153, 0, 52, 43, 182, 0, 14, 18, 118, 160, 0, 43, 43, 182, 0, 18, 4]
abbrev dktX0_askedEnds_4 : List UInt8 := dkwX0_askedEnds_4 ++ dktX0_askedEnds_5
def dkwX0_askedEnds_3 : List UInt8 := [18, 117, 2, 182, 0, 10, 154, 0, 12, 43, 26, 133, 184, 0, 112, 154, 0, 5, 3, 172, 43, 32, 16, 32]
abbrev dktX0_askedEnds_3 : List UInt8 := dkwX0_askedEnds_3 ++ dktX0_askedEnds_4
def dkwX0_askedEnds_2 : List UInt8 := [123, 136, 22, 4, 10, 97, 136, 182, 0, 10, 154, 0, 32, 43, 18, 116, 3, 182, 0, 10, 154, 0, 22, 43]
abbrev dktX0_askedEnds_2 : List UInt8 := dkwX0_askedEnds_2 ++ dktX0_askedEnds_3
def dkwX0_askedEnds_1 : List UInt8 := [32, 10, 101, 16, 32, 123, 136, 32, 10, 101, 136, 182, 0, 10, 154, 0, 52, 43, 22, 4, 10, 97, 16, 32]
abbrev dktX0_askedEnds_1 : List UInt8 := dkwX0_askedEnds_1 ++ dktX0_askedEnds_2
def dkwX0_askedEnds_0 : List UInt8 := [187, 0, 7, 89, 183, 0, 9, 76, 20, 0, 45, 65, 20, 0, 47, 55, 4, 43, 26, 182, 0, 108, 87, 43]
abbrev dktX0_askedEnds_0 : List UInt8 := dkwX0_askedEnds_0 ++ dktX0_askedEnds_1
theorem dksX0_askedEnds_0 : cX0_askedEnds.data.toList.drop 0 = dktX0_askedEnds_0 := by decide +kernel
theorem dksX0_askedEnds_1 : cX0_askedEnds.data.toList.drop 24 = dktX0_askedEnds_1 := dk_seg dksX0_askedEnds_0 24 rfl rfl
theorem dksX0_askedEnds_2 : cX0_askedEnds.data.toList.drop 48 = dktX0_askedEnds_2 := dk_seg dksX0_askedEnds_1 24 rfl rfl
theorem dksX0_askedEnds_3 : cX0_askedEnds.data.toList.drop 72 = dktX0_askedEnds_3 := dk_seg dksX0_askedEnds_2 24 rfl rfl
theorem dksX0_askedEnds_4 : cX0_askedEnds.data.toList.drop 96 = dktX0_askedEnds_4 := dk_seg dksX0_askedEnds_3 24 rfl rfl
theorem dksX0_askedEnds_5 : cX0_askedEnds.data.toList.drop 120 = dktX0_askedEnds_5 := dk_seg dksX0_askedEnds_4 24 rfl rfl
theorem dksX0_askedEnds_6 : cX0_askedEnds.data.toList.drop 143 = dktX0_askedEnds_6 := dk_seg dksX0_askedEnds_5 23 rfl rfl
theorem dksX0_askedEnds_7 : cX0_askedEnds.data.toList.drop 167 = dktX0_askedEnds_7 := dk_seg dksX0_askedEnds_6 24 rfl rfl
theorem dksX0_askedEnds_8 : cX0_askedEnds.data.toList.drop 191 = dktX0_askedEnds_8 := dk_seg dksX0_askedEnds_7 24 rfl rfl
theorem dksX0_askedEnds_9 : cX0_askedEnds.data.toList.drop 214 = dktX0_askedEnds_9 := dk_seg dksX0_askedEnds_8 23 rfl rfl
theorem dksX0_askedEnds_10 : cX0_askedEnds.data.toList.drop 237 = dktX0_askedEnds_10 := dk_seg dksX0_askedEnds_9 23 rfl rfl
theorem dX0_askedEnds_0 : decode cX0_askedEnds 0 = .ok (.new 7, 3) := dk_187 0 7 (dk_at dksX0_askedEnds_0 0 rfl rfl)
theorem dX0_askedEnds_3 : decode cX0_askedEnds 3 = .ok (.dup, 1) := dk_89 (dk_at dksX0_askedEnds_0 3 rfl rfl)
theorem dX0_askedEnds_4 : decode cX0_askedEnds 4 = .ok (.invokespecial 9, 3) := dk_183 0 9 (dk_at dksX0_askedEnds_0 4 rfl rfl)
theorem dX0_askedEnds_7 : decode cX0_askedEnds 7 = .ok (.astore_n 1, 1) := dk_76 (dk_at dksX0_askedEnds_0 7 rfl rfl)
theorem dX0_askedEnds_8 : decode cX0_askedEnds 8 = .ok (.ldc2_w 45, 3) := dk_20 0 45 (dk_at dksX0_askedEnds_0 8 rfl rfl)
theorem dX0_askedEnds_11 : decode cX0_askedEnds 11 = .ok (.lstore_n 2, 1) := dk_65 (dk_at dksX0_askedEnds_0 11 rfl rfl)
theorem dX0_askedEnds_12 : decode cX0_askedEnds 12 = .ok (.ldc2_w 47, 3) := dk_20 0 47 (dk_at dksX0_askedEnds_0 12 rfl rfl)
theorem dX0_askedEnds_15 : decode cX0_askedEnds 15 = .ok (.lstore 4, 2) := dk_55 4 (dk_at dksX0_askedEnds_0 15 rfl rfl)
theorem dX0_askedEnds_17 : decode cX0_askedEnds 17 = .ok (.aload_n 1, 1) := dk_43 (dk_at dksX0_askedEnds_0 17 rfl rfl)
theorem dX0_askedEnds_18 : decode cX0_askedEnds 18 = .ok (.iload_n 0, 1) := dk_26 (dk_at dksX0_askedEnds_0 18 rfl rfl)
theorem dX0_askedEnds_19 : decode cX0_askedEnds 19 = .ok (.invokevirtual 108, 3) := dk_182 0 108 (dk_at dksX0_askedEnds_0 19 rfl rfl)
theorem dX0_askedEnds_22 : decode cX0_askedEnds 22 = .ok (.pop, 1) := dk_87 (dk_at dksX0_askedEnds_0 22 rfl rfl)
theorem dX0_askedEnds_23 : decode cX0_askedEnds 23 = .ok (.aload_n 1, 1) := dk_43 (dk_at dksX0_askedEnds_0 23 rfl rfl)
theorem dX0_askedEnds_24 : decode cX0_askedEnds 24 = .ok (.lload_n 2, 1) := dk_32 (dk_at dksX0_askedEnds_1 0 rfl rfl)
theorem dX0_askedEnds_25 : decode cX0_askedEnds 25 = .ok (.lconst 1, 1) := dk_10 (dk_at dksX0_askedEnds_1 1 rfl rfl)
theorem dX0_askedEnds_26 : decode cX0_askedEnds 26 = .ok (.lsub, 1) := dk_101 (dk_at dksX0_askedEnds_1 2 rfl rfl)
theorem dX0_askedEnds_27 : decode cX0_askedEnds 27 = .ok (.bipush 32, 2) := dk_16 32 (dk_at dksX0_askedEnds_1 3 rfl rfl)
theorem dX0_askedEnds_29 : decode cX0_askedEnds 29 = .ok (.lshr, 1) := dk_123 (dk_at dksX0_askedEnds_1 5 rfl rfl)
theorem dX0_askedEnds_30 : decode cX0_askedEnds 30 = .ok (.l2i, 1) := dk_136 (dk_at dksX0_askedEnds_1 6 rfl rfl)
theorem dX0_askedEnds_31 : decode cX0_askedEnds 31 = .ok (.lload_n 2, 1) := dk_32 (dk_at dksX0_askedEnds_1 7 rfl rfl)
theorem dX0_askedEnds_32 : decode cX0_askedEnds 32 = .ok (.lconst 1, 1) := dk_10 (dk_at dksX0_askedEnds_1 8 rfl rfl)
theorem dX0_askedEnds_33 : decode cX0_askedEnds 33 = .ok (.lsub, 1) := dk_101 (dk_at dksX0_askedEnds_1 9 rfl rfl)
theorem dX0_askedEnds_34 : decode cX0_askedEnds 34 = .ok (.l2i, 1) := dk_136 (dk_at dksX0_askedEnds_1 10 rfl rfl)
theorem dX0_askedEnds_35 : decode cX0_askedEnds 35 = .ok (.invokevirtual 10, 3) := dk_182 0 10 (dk_at dksX0_askedEnds_1 11 rfl rfl)
theorem dX0_askedEnds_38 : decode cX0_askedEnds 38 = .ok (.ifCond .ne 52, 3) := dk_154 0 52 (dk_at dksX0_askedEnds_1 14 rfl rfl)
theorem dX0_askedEnds_41 : decode cX0_askedEnds 41 = .ok (.aload_n 1, 1) := dk_43 (dk_at dksX0_askedEnds_1 17 rfl rfl)
theorem dX0_askedEnds_42 : decode cX0_askedEnds 42 = .ok (.lload 4, 2) := dk_22 4 (dk_at dksX0_askedEnds_1 18 rfl rfl)
theorem dX0_askedEnds_44 : decode cX0_askedEnds 44 = .ok (.lconst 1, 1) := dk_10 (dk_at dksX0_askedEnds_1 20 rfl rfl)
theorem dX0_askedEnds_45 : decode cX0_askedEnds 45 = .ok (.ladd, 1) := dk_97 (dk_at dksX0_askedEnds_1 21 rfl rfl)
theorem dX0_askedEnds_46 : decode cX0_askedEnds 46 = .ok (.bipush 32, 2) := dk_16 32 (dk_at dksX0_askedEnds_1 22 rfl rfl)
theorem dX0_askedEnds_48 : decode cX0_askedEnds 48 = .ok (.lshr, 1) := dk_123 (dk_at dksX0_askedEnds_2 0 rfl rfl)
theorem dX0_askedEnds_49 : decode cX0_askedEnds 49 = .ok (.l2i, 1) := dk_136 (dk_at dksX0_askedEnds_2 1 rfl rfl)
theorem dX0_askedEnds_50 : decode cX0_askedEnds 50 = .ok (.lload 4, 2) := dk_22 4 (dk_at dksX0_askedEnds_2 2 rfl rfl)
theorem dX0_askedEnds_52 : decode cX0_askedEnds 52 = .ok (.lconst 1, 1) := dk_10 (dk_at dksX0_askedEnds_2 4 rfl rfl)
theorem dX0_askedEnds_53 : decode cX0_askedEnds 53 = .ok (.ladd, 1) := dk_97 (dk_at dksX0_askedEnds_2 5 rfl rfl)
theorem dX0_askedEnds_54 : decode cX0_askedEnds 54 = .ok (.l2i, 1) := dk_136 (dk_at dksX0_askedEnds_2 6 rfl rfl)
theorem dX0_askedEnds_55 : decode cX0_askedEnds 55 = .ok (.invokevirtual 10, 3) := dk_182 0 10 (dk_at dksX0_askedEnds_2 7 rfl rfl)
theorem dX0_askedEnds_58 : decode cX0_askedEnds 58 = .ok (.ifCond .ne 32, 3) := dk_154 0 32 (dk_at dksX0_askedEnds_2 10 rfl rfl)
theorem dX0_askedEnds_61 : decode cX0_askedEnds 61 = .ok (.aload_n 1, 1) := dk_43 (dk_at dksX0_askedEnds_2 13 rfl rfl)
theorem dX0_askedEnds_62 : decode cX0_askedEnds 62 = .ok (.ldc 116, 2) := dk_18 116 (dk_at dksX0_askedEnds_2 14 rfl rfl)
theorem dX0_askedEnds_64 : decode cX0_askedEnds 64 = .ok (.iconst 0, 1) := dk_3 (dk_at dksX0_askedEnds_2 16 rfl rfl)
theorem dX0_askedEnds_65 : decode cX0_askedEnds 65 = .ok (.invokevirtual 10, 3) := dk_182 0 10 (dk_at dksX0_askedEnds_2 17 rfl rfl)
theorem dX0_askedEnds_68 : decode cX0_askedEnds 68 = .ok (.ifCond .ne 22, 3) := dk_154 0 22 (dk_at dksX0_askedEnds_2 20 rfl rfl)
theorem dX0_askedEnds_71 : decode cX0_askedEnds 71 = .ok (.aload_n 1, 1) := dk_43 (dk_at dksX0_askedEnds_2 23 rfl rfl)
theorem dX0_askedEnds_72 : decode cX0_askedEnds 72 = .ok (.ldc 117, 2) := dk_18 117 (dk_at dksX0_askedEnds_3 0 rfl rfl)
theorem dX0_askedEnds_74 : decode cX0_askedEnds 74 = .ok (.iconst (-1), 1) := dk_2 (dk_at dksX0_askedEnds_3 2 rfl rfl)
theorem dX0_askedEnds_75 : decode cX0_askedEnds 75 = .ok (.invokevirtual 10, 3) := dk_182 0 10 (dk_at dksX0_askedEnds_3 3 rfl rfl)
theorem dX0_askedEnds_78 : decode cX0_askedEnds 78 = .ok (.ifCond .ne 12, 3) := dk_154 0 12 (dk_at dksX0_askedEnds_3 6 rfl rfl)
theorem dX0_askedEnds_81 : decode cX0_askedEnds 81 = .ok (.aload_n 1, 1) := dk_43 (dk_at dksX0_askedEnds_3 9 rfl rfl)
theorem dX0_askedEnds_82 : decode cX0_askedEnds 82 = .ok (.iload_n 0, 1) := dk_26 (dk_at dksX0_askedEnds_3 10 rfl rfl)
theorem dX0_askedEnds_83 : decode cX0_askedEnds 83 = .ok (.i2l, 1) := dk_133 (dk_at dksX0_askedEnds_3 11 rfl rfl)
theorem dX0_askedEnds_84 : decode cX0_askedEnds 84 = .ok (.invokestatic 112, 3) := dk_184 0 112 (dk_at dksX0_askedEnds_3 12 rfl rfl)
theorem dX0_askedEnds_87 : decode cX0_askedEnds 87 = .ok (.ifCond .ne 5, 3) := dk_154 0 5 (dk_at dksX0_askedEnds_3 15 rfl rfl)
theorem dX0_askedEnds_90 : decode cX0_askedEnds 90 = .ok (.iconst 0, 1) := dk_3 (dk_at dksX0_askedEnds_3 18 rfl rfl)
theorem dX0_askedEnds_91 : decode cX0_askedEnds 91 = .ok (.ireturn, 1) := dk_172 (dk_at dksX0_askedEnds_3 19 rfl rfl)
theorem dX0_askedEnds_92 : decode cX0_askedEnds 92 = .ok (.aload_n 1, 1) := dk_43 (dk_at dksX0_askedEnds_3 20 rfl rfl)
theorem dX0_askedEnds_93 : decode cX0_askedEnds 93 = .ok (.lload_n 2, 1) := dk_32 (dk_at dksX0_askedEnds_3 21 rfl rfl)
theorem dX0_askedEnds_94 : decode cX0_askedEnds 94 = .ok (.bipush 32, 2) := dk_16 32 (dk_at dksX0_askedEnds_3 22 rfl rfl)
theorem dX0_askedEnds_96 : decode cX0_askedEnds 96 = .ok (.lshr, 1) := dk_123 (dk_at dksX0_askedEnds_4 0 rfl rfl)
theorem dX0_askedEnds_97 : decode cX0_askedEnds 97 = .ok (.l2i, 1) := dk_136 (dk_at dksX0_askedEnds_4 1 rfl rfl)
theorem dX0_askedEnds_98 : decode cX0_askedEnds 98 = .ok (.lload_n 2, 1) := dk_32 (dk_at dksX0_askedEnds_4 2 rfl rfl)
theorem dX0_askedEnds_99 : decode cX0_askedEnds 99 = .ok (.l2i, 1) := dk_136 (dk_at dksX0_askedEnds_4 3 rfl rfl)
theorem dX0_askedEnds_100 : decode cX0_askedEnds 100 = .ok (.invokevirtual 10, 3) := dk_182 0 10 (dk_at dksX0_askedEnds_4 4 rfl rfl)
theorem dX0_askedEnds_103 : decode cX0_askedEnds 103 = .ok (.ifCond .eq 52, 3) := dk_153 0 52 (dk_at dksX0_askedEnds_4 7 rfl rfl)
theorem dX0_askedEnds_106 : decode cX0_askedEnds 106 = .ok (.aload_n 1, 1) := dk_43 (dk_at dksX0_askedEnds_4 10 rfl rfl)
theorem dX0_askedEnds_107 : decode cX0_askedEnds 107 = .ok (.invokevirtual 14, 3) := dk_182 0 14 (dk_at dksX0_askedEnds_4 11 rfl rfl)
theorem dX0_askedEnds_110 : decode cX0_askedEnds 110 = .ok (.ldc 118, 2) := dk_18 118 (dk_at dksX0_askedEnds_4 14 rfl rfl)
theorem dX0_askedEnds_112 : decode cX0_askedEnds 112 = .ok (.if_icmp .ne 43, 3) := dk_160 0 43 (dk_at dksX0_askedEnds_4 16 rfl rfl)
theorem dX0_askedEnds_115 : decode cX0_askedEnds 115 = .ok (.aload_n 1, 1) := dk_43 (dk_at dksX0_askedEnds_4 19 rfl rfl)
theorem dX0_askedEnds_116 : decode cX0_askedEnds 116 = .ok (.invokevirtual 18, 3) := dk_182 0 18 (dk_at dksX0_askedEnds_4 20 rfl rfl)
theorem dX0_askedEnds_119 : decode cX0_askedEnds 119 = .ok (.iconst 1, 1) := dk_4 (dk_at dksX0_askedEnds_4 23 rfl rfl)
theorem dX0_askedEnds_120 : decode cX0_askedEnds 120 = .ok (.if_icmp .ne 35, 3) := dk_160 0 35 (dk_at dksX0_askedEnds_5 0 rfl rfl)
theorem dX0_askedEnds_123 : decode cX0_askedEnds 123 = .ok (.aload_n 1, 1) := dk_43 (dk_at dksX0_askedEnds_5 3 rfl rfl)
theorem dX0_askedEnds_124 : decode cX0_askedEnds 124 = .ok (.invokevirtual 21, 3) := dk_182 0 21 (dk_at dksX0_askedEnds_5 4 rfl rfl)
theorem dX0_askedEnds_127 : decode cX0_askedEnds 127 = .ok (.iconst 1, 1) := dk_4 (dk_at dksX0_askedEnds_5 7 rfl rfl)
theorem dX0_askedEnds_128 : decode cX0_askedEnds 128 = .ok (.if_icmp .ne 27, 3) := dk_160 0 27 (dk_at dksX0_askedEnds_5 8 rfl rfl)
theorem dX0_askedEnds_131 : decode cX0_askedEnds 131 = .ok (.aload_n 1, 1) := dk_43 (dk_at dksX0_askedEnds_5 11 rfl rfl)
theorem dX0_askedEnds_132 : decode cX0_askedEnds 132 = .ok (.invokevirtual 24, 3) := dk_182 0 24 (dk_at dksX0_askedEnds_5 12 rfl rfl)
theorem dX0_askedEnds_135 : decode cX0_askedEnds 135 = .ok (.iconst 1, 1) := dk_4 (dk_at dksX0_askedEnds_5 15 rfl rfl)
theorem dX0_askedEnds_136 : decode cX0_askedEnds 136 = .ok (.if_icmp .ne 19, 3) := dk_160 0 19 (dk_at dksX0_askedEnds_5 16 rfl rfl)
theorem dX0_askedEnds_139 : decode cX0_askedEnds 139 = .ok (.aload_n 1, 1) := dk_43 (dk_at dksX0_askedEnds_5 19 rfl rfl)
theorem dX0_askedEnds_140 : decode cX0_askedEnds 140 = .ok (.invokevirtual 27, 3) := dk_182 0 27 (dk_at dksX0_askedEnds_5 20 rfl rfl)
theorem dX0_askedEnds_143 : decode cX0_askedEnds 143 = .ok (.ifCond .ne 12, 3) := dk_154 0 12 (dk_at dksX0_askedEnds_6 0 rfl rfl)
theorem dX0_askedEnds_146 : decode cX0_askedEnds 146 = .ok (.aload_n 1, 1) := dk_43 (dk_at dksX0_askedEnds_6 3 rfl rfl)
theorem dX0_askedEnds_147 : decode cX0_askedEnds 147 = .ok (.invokevirtual 31, 3) := dk_182 0 31 (dk_at dksX0_askedEnds_6 4 rfl rfl)
theorem dX0_askedEnds_150 : decode cX0_askedEnds 150 = .ok (.bipush 31, 2) := dk_16 31 (dk_at dksX0_askedEnds_6 7 rfl rfl)
theorem dX0_askedEnds_152 : decode cX0_askedEnds 152 = .ok (.if_icmp .eq 5, 3) := dk_159 0 5 (dk_at dksX0_askedEnds_6 9 rfl rfl)
theorem dX0_askedEnds_155 : decode cX0_askedEnds 155 = .ok (.iconst 0, 1) := dk_3 (dk_at dksX0_askedEnds_6 12 rfl rfl)
theorem dX0_askedEnds_156 : decode cX0_askedEnds 156 = .ok (.ireturn, 1) := dk_172 (dk_at dksX0_askedEnds_6 13 rfl rfl)
theorem dX0_askedEnds_157 : decode cX0_askedEnds 157 = .ok (.aload_n 1, 1) := dk_43 (dk_at dksX0_askedEnds_6 14 rfl rfl)
theorem dX0_askedEnds_158 : decode cX0_askedEnds 158 = .ok (.lload 4, 2) := dk_22 4 (dk_at dksX0_askedEnds_6 15 rfl rfl)
theorem dX0_askedEnds_160 : decode cX0_askedEnds 160 = .ok (.bipush 32, 2) := dk_16 32 (dk_at dksX0_askedEnds_6 17 rfl rfl)
theorem dX0_askedEnds_162 : decode cX0_askedEnds 162 = .ok (.lshr, 1) := dk_123 (dk_at dksX0_askedEnds_6 19 rfl rfl)
theorem dX0_askedEnds_163 : decode cX0_askedEnds 163 = .ok (.l2i, 1) := dk_136 (dk_at dksX0_askedEnds_6 20 rfl rfl)
theorem dX0_askedEnds_164 : decode cX0_askedEnds 164 = .ok (.lload 4, 2) := dk_22 4 (dk_at dksX0_askedEnds_6 21 rfl rfl)
theorem dX0_askedEnds_166 : decode cX0_askedEnds 166 = .ok (.l2i, 1) := dk_136 (dk_at dksX0_askedEnds_6 23 rfl rfl)
theorem dX0_askedEnds_167 : decode cX0_askedEnds 167 = .ok (.invokevirtual 10, 3) := dk_182 0 10 (dk_at dksX0_askedEnds_7 0 rfl rfl)
theorem dX0_askedEnds_170 : decode cX0_askedEnds 170 = .ok (.ifCond .eq 70, 3) := dk_153 0 70 (dk_at dksX0_askedEnds_7 3 rfl rfl)
theorem dX0_askedEnds_173 : decode cX0_askedEnds 173 = .ok (.aload_n 1, 1) := dk_43 (dk_at dksX0_askedEnds_7 6 rfl rfl)
theorem dX0_askedEnds_174 : decode cX0_askedEnds 174 = .ok (.invokevirtual 14, 3) := dk_182 0 14 (dk_at dksX0_askedEnds_7 7 rfl rfl)
theorem dX0_askedEnds_177 : decode cX0_askedEnds 177 = .ok (.ldc 119, 2) := dk_18 119 (dk_at dksX0_askedEnds_7 10 rfl rfl)
theorem dX0_askedEnds_179 : decode cX0_askedEnds 179 = .ok (.if_icmp .ne 61, 3) := dk_160 0 61 (dk_at dksX0_askedEnds_7 12 rfl rfl)
theorem dX0_askedEnds_182 : decode cX0_askedEnds 182 = .ok (.aload_n 1, 1) := dk_43 (dk_at dksX0_askedEnds_7 15 rfl rfl)
theorem dX0_askedEnds_183 : decode cX0_askedEnds 183 = .ok (.invokevirtual 18, 3) := dk_182 0 18 (dk_at dksX0_askedEnds_7 16 rfl rfl)
theorem dX0_askedEnds_186 : decode cX0_askedEnds 186 = .ok (.bipush 12, 2) := dk_16 12 (dk_at dksX0_askedEnds_7 19 rfl rfl)
theorem dX0_askedEnds_188 : decode cX0_askedEnds 188 = .ok (.if_icmp .ne 52, 3) := dk_160 0 52 (dk_at dksX0_askedEnds_7 21 rfl rfl)
theorem dX0_askedEnds_191 : decode cX0_askedEnds 191 = .ok (.aload_n 1, 1) := dk_43 (dk_at dksX0_askedEnds_8 0 rfl rfl)
theorem dX0_askedEnds_192 : decode cX0_askedEnds 192 = .ok (.invokevirtual 21, 3) := dk_182 0 21 (dk_at dksX0_askedEnds_8 1 rfl rfl)
theorem dX0_askedEnds_195 : decode cX0_askedEnds 195 = .ok (.bipush 31, 2) := dk_16 31 (dk_at dksX0_askedEnds_8 4 rfl rfl)
theorem dX0_askedEnds_197 : decode cX0_askedEnds 197 = .ok (.if_icmp .ne 43, 3) := dk_160 0 43 (dk_at dksX0_askedEnds_8 6 rfl rfl)
theorem dX0_askedEnds_200 : decode cX0_askedEnds 200 = .ok (.aload_n 1, 1) := dk_43 (dk_at dksX0_askedEnds_8 9 rfl rfl)
theorem dX0_askedEnds_201 : decode cX0_askedEnds 201 = .ok (.invokevirtual 24, 3) := dk_182 0 24 (dk_at dksX0_askedEnds_8 10 rfl rfl)
theorem dX0_askedEnds_204 : decode cX0_askedEnds 204 = .ok (.sipush 365, 3) := dk_17 1 109 (dk_at dksX0_askedEnds_8 13 rfl rfl)
theorem dX0_askedEnds_207 : decode cX0_askedEnds 207 = .ok (.if_icmp .ne 33, 3) := dk_160 0 33 (dk_at dksX0_askedEnds_8 16 rfl rfl)
theorem dX0_askedEnds_210 : decode cX0_askedEnds 210 = .ok (.aload_n 1, 1) := dk_43 (dk_at dksX0_askedEnds_8 19 rfl rfl)
theorem dX0_askedEnds_211 : decode cX0_askedEnds 211 = .ok (.invokevirtual 27, 3) := dk_182 0 27 (dk_at dksX0_askedEnds_8 20 rfl rfl)
theorem dX0_askedEnds_214 : decode cX0_askedEnds 214 = .ok (.ifCond .ne 26, 3) := dk_154 0 26 (dk_at dksX0_askedEnds_9 0 rfl rfl)
theorem dX0_askedEnds_217 : decode cX0_askedEnds 217 = .ok (.aload_n 1, 1) := dk_43 (dk_at dksX0_askedEnds_9 3 rfl rfl)
theorem dX0_askedEnds_218 : decode cX0_askedEnds 218 = .ok (.invokevirtual 31, 3) := dk_182 0 31 (dk_at dksX0_askedEnds_9 4 rfl rfl)
theorem dX0_askedEnds_221 : decode cX0_askedEnds 221 = .ok (.bipush 31, 2) := dk_16 31 (dk_at dksX0_askedEnds_9 7 rfl rfl)
theorem dX0_askedEnds_223 : decode cX0_askedEnds 223 = .ok (.if_icmp .ne 17, 3) := dk_160 0 17 (dk_at dksX0_askedEnds_9 9 rfl rfl)
theorem dX0_askedEnds_226 : decode cX0_askedEnds 226 = .ok (.aload_n 1, 1) := dk_43 (dk_at dksX0_askedEnds_9 12 rfl rfl)
theorem dX0_askedEnds_227 : decode cX0_askedEnds 227 = .ok (.invokevirtual 49, 3) := dk_182 0 49 (dk_at dksX0_askedEnds_9 13 rfl rfl)
theorem dX0_askedEnds_230 : decode cX0_askedEnds 230 = .ok (.lload 4, 2) := dk_22 4 (dk_at dksX0_askedEnds_9 16 rfl rfl)
theorem dX0_askedEnds_232 : decode cX0_askedEnds 232 = .ok (.lcmp, 1) := dk_148 (dk_at dksX0_askedEnds_9 18 rfl rfl)
theorem dX0_askedEnds_233 : decode cX0_askedEnds 233 = .ok (.ifCond .ne 7, 3) := dk_154 0 7 (dk_at dksX0_askedEnds_9 19 rfl rfl)
theorem dX0_askedEnds_236 : decode cX0_askedEnds 236 = .ok (.iconst 1, 1) := dk_4 (dk_at dksX0_askedEnds_9 22 rfl rfl)
theorem dX0_askedEnds_237 : decode cX0_askedEnds 237 = .ok (.goto 4, 3) := dk_167 0 4 (dk_at dksX0_askedEnds_10 0 rfl rfl)
theorem dX0_askedEnds_240 : decode cX0_askedEnds 240 = .ok (.iconst 0, 1) := dk_3 (dk_at dksX0_askedEnds_10 3 rfl rfl)
theorem dX0_askedEnds_241 : decode cX0_askedEnds 241 = .ok (.ireturn, 1) := dk_172 (dk_at dksX0_askedEnds_10 4 rfl rfl)
abbrev cX0_askedPlain : ByteArray := method_11_code
def yX0_askedPlain : MethodName := ⟨RX0, "askedPlain", "(II)Z"⟩
def dkwX0_askedPlain_3 : List UInt8 := [172]
abbrev dktX0_askedPlain_3 : List UInt8 := dkwX0_askedPlain_3 ++ []
def dkwX0_askedPlain_2 : List UInt8 := [123, 136, 32, 136, 182, 0, 10, 153, 0, 16, 25, 4, 32, 184, 0, 112, 153, 0, 7, 4, 167, 0, 4, 3]
abbrev dktX0_askedPlain_2 : List UInt8 := dkwX0_askedPlain_2 ++ dktX0_askedPlain_3
def dkwX0_askedPlain_1 : List UInt8 := [20, 0, 47, 148, 158, 0, 6, 27, 133, 65, 187, 0, 7, 89, 183, 0, 9, 58, 4, 25, 4, 32, 16, 32]
abbrev dktX0_askedPlain_1 : List UInt8 := dkwX0_askedPlain_1 ++ dktX0_askedPlain_2
def dkwX0_askedPlain_0 : List UInt8 := [26, 133, 16, 32, 121, 27, 133, 20, 0, 43, 127, 129, 65, 32, 20, 0, 45, 148, 155, 0, 11, 32]
abbrev dktX0_askedPlain_0 : List UInt8 := dkwX0_askedPlain_0 ++ dktX0_askedPlain_1
theorem dksX0_askedPlain_0 : cX0_askedPlain.data.toList.drop 0 = dktX0_askedPlain_0 := by decide +kernel
theorem dksX0_askedPlain_1 : cX0_askedPlain.data.toList.drop 22 = dktX0_askedPlain_1 := dk_seg dksX0_askedPlain_0 22 rfl rfl
theorem dksX0_askedPlain_2 : cX0_askedPlain.data.toList.drop 46 = dktX0_askedPlain_2 := dk_seg dksX0_askedPlain_1 24 rfl rfl
theorem dksX0_askedPlain_3 : cX0_askedPlain.data.toList.drop 70 = dktX0_askedPlain_3 := dk_seg dksX0_askedPlain_2 24 rfl rfl
theorem dX0_askedPlain_0 : decode cX0_askedPlain 0 = .ok (.iload_n 0, 1) := dk_26 (dk_at dksX0_askedPlain_0 0 rfl rfl)
theorem dX0_askedPlain_1 : decode cX0_askedPlain 1 = .ok (.i2l, 1) := dk_133 (dk_at dksX0_askedPlain_0 1 rfl rfl)
theorem dX0_askedPlain_2 : decode cX0_askedPlain 2 = .ok (.bipush 32, 2) := dk_16 32 (dk_at dksX0_askedPlain_0 2 rfl rfl)
theorem dX0_askedPlain_4 : decode cX0_askedPlain 4 = .ok (.lshl, 1) := dk_121 (dk_at dksX0_askedPlain_0 4 rfl rfl)
theorem dX0_askedPlain_5 : decode cX0_askedPlain 5 = .ok (.iload_n 1, 1) := dk_27 (dk_at dksX0_askedPlain_0 5 rfl rfl)
theorem dX0_askedPlain_6 : decode cX0_askedPlain 6 = .ok (.i2l, 1) := dk_133 (dk_at dksX0_askedPlain_0 6 rfl rfl)
theorem dX0_askedPlain_7 : decode cX0_askedPlain 7 = .ok (.ldc2_w 43, 3) := dk_20 0 43 (dk_at dksX0_askedPlain_0 7 rfl rfl)
theorem dX0_askedPlain_10 : decode cX0_askedPlain 10 = .ok (.land, 1) := dk_127 (dk_at dksX0_askedPlain_0 10 rfl rfl)
theorem dX0_askedPlain_11 : decode cX0_askedPlain 11 = .ok (.lor, 1) := dk_129 (dk_at dksX0_askedPlain_0 11 rfl rfl)
theorem dX0_askedPlain_12 : decode cX0_askedPlain 12 = .ok (.lstore_n 2, 1) := dk_65 (dk_at dksX0_askedPlain_0 12 rfl rfl)
theorem dX0_askedPlain_13 : decode cX0_askedPlain 13 = .ok (.lload_n 2, 1) := dk_32 (dk_at dksX0_askedPlain_0 13 rfl rfl)
theorem dX0_askedPlain_14 : decode cX0_askedPlain 14 = .ok (.ldc2_w 45, 3) := dk_20 0 45 (dk_at dksX0_askedPlain_0 14 rfl rfl)
theorem dX0_askedPlain_17 : decode cX0_askedPlain 17 = .ok (.lcmp, 1) := dk_148 (dk_at dksX0_askedPlain_0 17 rfl rfl)
theorem dX0_askedPlain_18 : decode cX0_askedPlain 18 = .ok (.ifCond .lt 11, 3) := dk_155 0 11 (dk_at dksX0_askedPlain_0 18 rfl rfl)
theorem dX0_askedPlain_21 : decode cX0_askedPlain 21 = .ok (.lload_n 2, 1) := dk_32 (dk_at dksX0_askedPlain_0 21 rfl rfl)
theorem dX0_askedPlain_22 : decode cX0_askedPlain 22 = .ok (.ldc2_w 47, 3) := dk_20 0 47 (dk_at dksX0_askedPlain_1 0 rfl rfl)
theorem dX0_askedPlain_25 : decode cX0_askedPlain 25 = .ok (.lcmp, 1) := dk_148 (dk_at dksX0_askedPlain_1 3 rfl rfl)
theorem dX0_askedPlain_26 : decode cX0_askedPlain 26 = .ok (.ifCond .le 6, 3) := dk_158 0 6 (dk_at dksX0_askedPlain_1 4 rfl rfl)
theorem dX0_askedPlain_29 : decode cX0_askedPlain 29 = .ok (.iload_n 1, 1) := dk_27 (dk_at dksX0_askedPlain_1 7 rfl rfl)
theorem dX0_askedPlain_30 : decode cX0_askedPlain 30 = .ok (.i2l, 1) := dk_133 (dk_at dksX0_askedPlain_1 8 rfl rfl)
theorem dX0_askedPlain_31 : decode cX0_askedPlain 31 = .ok (.lstore_n 2, 1) := dk_65 (dk_at dksX0_askedPlain_1 9 rfl rfl)
theorem dX0_askedPlain_32 : decode cX0_askedPlain 32 = .ok (.new 7, 3) := dk_187 0 7 (dk_at dksX0_askedPlain_1 10 rfl rfl)
theorem dX0_askedPlain_35 : decode cX0_askedPlain 35 = .ok (.dup, 1) := dk_89 (dk_at dksX0_askedPlain_1 13 rfl rfl)
theorem dX0_askedPlain_36 : decode cX0_askedPlain 36 = .ok (.invokespecial 9, 3) := dk_183 0 9 (dk_at dksX0_askedPlain_1 14 rfl rfl)
theorem dX0_askedPlain_39 : decode cX0_askedPlain 39 = .ok (.astore 4, 2) := dk_58 4 (dk_at dksX0_askedPlain_1 17 rfl rfl)
theorem dX0_askedPlain_41 : decode cX0_askedPlain 41 = .ok (.aload 4, 2) := dk_25 4 (dk_at dksX0_askedPlain_1 19 rfl rfl)
theorem dX0_askedPlain_43 : decode cX0_askedPlain 43 = .ok (.lload_n 2, 1) := dk_32 (dk_at dksX0_askedPlain_1 21 rfl rfl)
theorem dX0_askedPlain_44 : decode cX0_askedPlain 44 = .ok (.bipush 32, 2) := dk_16 32 (dk_at dksX0_askedPlain_1 22 rfl rfl)
theorem dX0_askedPlain_46 : decode cX0_askedPlain 46 = .ok (.lshr, 1) := dk_123 (dk_at dksX0_askedPlain_2 0 rfl rfl)
theorem dX0_askedPlain_47 : decode cX0_askedPlain 47 = .ok (.l2i, 1) := dk_136 (dk_at dksX0_askedPlain_2 1 rfl rfl)
theorem dX0_askedPlain_48 : decode cX0_askedPlain 48 = .ok (.lload_n 2, 1) := dk_32 (dk_at dksX0_askedPlain_2 2 rfl rfl)
theorem dX0_askedPlain_49 : decode cX0_askedPlain 49 = .ok (.l2i, 1) := dk_136 (dk_at dksX0_askedPlain_2 3 rfl rfl)
theorem dX0_askedPlain_50 : decode cX0_askedPlain 50 = .ok (.invokevirtual 10, 3) := dk_182 0 10 (dk_at dksX0_askedPlain_2 4 rfl rfl)
theorem dX0_askedPlain_53 : decode cX0_askedPlain 53 = .ok (.ifCond .eq 16, 3) := dk_153 0 16 (dk_at dksX0_askedPlain_2 7 rfl rfl)
theorem dX0_askedPlain_56 : decode cX0_askedPlain 56 = .ok (.aload 4, 2) := dk_25 4 (dk_at dksX0_askedPlain_2 10 rfl rfl)
theorem dX0_askedPlain_58 : decode cX0_askedPlain 58 = .ok (.lload_n 2, 1) := dk_32 (dk_at dksX0_askedPlain_2 12 rfl rfl)
theorem dX0_askedPlain_59 : decode cX0_askedPlain 59 = .ok (.invokestatic 112, 3) := dk_184 0 112 (dk_at dksX0_askedPlain_2 13 rfl rfl)
theorem dX0_askedPlain_62 : decode cX0_askedPlain 62 = .ok (.ifCond .eq 7, 3) := dk_153 0 7 (dk_at dksX0_askedPlain_2 16 rfl rfl)
theorem dX0_askedPlain_65 : decode cX0_askedPlain 65 = .ok (.iconst 1, 1) := dk_4 (dk_at dksX0_askedPlain_2 19 rfl rfl)
theorem dX0_askedPlain_66 : decode cX0_askedPlain 66 = .ok (.goto 4, 3) := dk_167 0 4 (dk_at dksX0_askedPlain_2 20 rfl rfl)
theorem dX0_askedPlain_69 : decode cX0_askedPlain 69 = .ok (.iconst 0, 1) := dk_3 (dk_at dksX0_askedPlain_2 23 rfl rfl)
theorem dX0_askedPlain_70 : decode cX0_askedPlain 70 = .ok (.ireturn, 1) := dk_172 (dk_at dksX0_askedPlain_3 0 rfl rfl)
theorem q1 : (Jvm.Cond.initialized "DayCountLaw") ∈ lw_all := lw_g (lw_at lw_m1 0 rfl) rfl
theorem q29 : (Jvm.Cond.methodLink "DayCountLaw" (39 : Nat) ({ cls := "DayCountLaw", name := "cell", desc := "([II)I" } : Jvm.MethodName)) ∈ lw_all := lw_g (lw_at lw_m1 28 rfl) rfl
theorem q30 : (Jvm.Cond.static ({ cls := "DayCountLaw", name := "cell", desc := "([II)I" } : Jvm.MethodName)) ∈ lw_all := lw_g (lw_at lw_m1 29 rfl) rfl
theorem q31 : (Jvm.Cond.code ({ cls := "DayCountLaw", name := "cell", desc := "([II)I" } : Jvm.MethodName) method_2_code (2 : Nat) (Option.some Jvm.ClassFile.FieldType.int)) ∈ lw_all := lw_g (lw_at lw_m1 30 rfl) rfl
theorem q32 : (Jvm.Cond.methodLink "DayCountLaw" (120 : Nat) ({ cls := "DayCountLaw", name := "elder", desc := "([I)Z" } : Jvm.MethodName)) ∈ lw_all := lw_g (lw_at lw_m1 31 rfl) rfl
theorem q33 : (Jvm.Cond.static ({ cls := "DayCountLaw", name := "elder", desc := "([I)Z" } : Jvm.MethodName)) ∈ lw_all := lw_g (lw_at lw_m1 32 rfl) rfl
theorem q34 : (Jvm.Cond.code ({ cls := "DayCountLaw", name := "elder", desc := "([I)Z" } : Jvm.MethodName) method_5_code (11 : Nat) (Option.some Jvm.ClassFile.FieldType.boolean)) ∈ lw_all := lw_g (lw_at lw_m1 33 rfl) rfl
theorem q35 : (Jvm.Cond.methodLink "DayCountLaw" (34 : Nat) ({ cls := "DayCountLaw", name := "known", desc := "()Z" } : Jvm.MethodName)) ∈ lw_all := lw_g (lw_at lw_m1 34 rfl) rfl
theorem q36 : (Jvm.Cond.static ({ cls := "DayCountLaw", name := "known", desc := "()Z" } : Jvm.MethodName)) ∈ lw_all := lw_g (lw_at lw_m1 35 rfl) rfl
theorem q37 : (Jvm.Cond.code ({ cls := "DayCountLaw", name := "known", desc := "()Z" } : Jvm.MethodName) method_4_code (1 : Nat) (Option.some Jvm.ClassFile.FieldType.boolean)) ∈ lw_all := lw_g (lw_at lw_m1 36 rfl) rfl
theorem q38 : (Jvm.Cond.classLink "DayCountLaw" (7 : Nat) "DayCount") ∈ lw_all := lw_g (lw_at lw_m1 37 rfl) rfl
theorem q40 : (Jvm.Cond.methodLink "DayCountLaw" (9 : Nat) ({ cls := "DayCount", name := "<init>", desc := "()V" } : Jvm.MethodName)) ∈ lw_all := lw_g (lw_at lw_m1 39 rfl) rfl
theorem q528 : (Jvm.Cond.methodLink "DayCountLaw" (10 : Nat) ({ cls := "DayCount", name := "fromDay", desc := "(II)Z" } : Jvm.MethodName)) ∈ lw_all := lw_g (lw_at lw_m3 47 rfl) rfl
theorem q535 : (Jvm.Cond.methodLink "DayCountLaw" (14 : Nat) ({ cls := "DayCount", name := "year", desc := "()I" } : Jvm.MethodName)) ∈ lw_all := lw_g (lw_at lw_m3 54 rfl) rfl
theorem q543 : (Jvm.Cond.methodLink "DayCountLaw" (18 : Nat) ({ cls := "DayCount", name := "month", desc := "()I" } : Jvm.MethodName)) ∈ lw_all := lw_g (lw_at lw_m3 62 rfl) rfl
theorem q551 : (Jvm.Cond.methodLink "DayCountLaw" (21 : Nat) ({ cls := "DayCount", name := "dayOfMonth", desc := "()I" } : Jvm.MethodName)) ∈ lw_all := lw_g (lw_at lw_m3 70 rfl) rfl
theorem q559 : (Jvm.Cond.methodLink "DayCountLaw" (24 : Nat) ({ cls := "DayCount", name := "dayOfYear", desc := "()I" } : Jvm.MethodName)) ∈ lw_all := lw_g (lw_at lw_m3 78 rfl) rfl
theorem q627 : (Jvm.Cond.methodLink "DayCountLaw" (27 : Nat) ({ cls := "DayCount", name := "leap", desc := "()Z" } : Jvm.MethodName)) ∈ lw_all := lw_g (lw_at lw_m3 146 rfl) rfl
theorem q632 : (Jvm.Cond.methodLink "DayCountLaw" (31 : Nat) ({ cls := "DayCount", name := "monthLength", desc := "()I" } : Jvm.MethodName)) ∈ lw_all := lw_g (lw_at lw_m3 151 rfl) rfl
theorem q640 : (Jvm.Cond.constantLong "DayCountLaw" (43 : Nat) (4294967295 : Int64)) ∈ lw_all := lw_g (lw_at lw_m3 159 rfl) rfl
theorem q641 : (Jvm.Cond.constantLong "DayCountLaw" (45 : Nat) (-365243219162 : Int64)) ∈ lw_all := lw_g (lw_at lw_m3 160 rfl) rfl
theorem q642 : (Jvm.Cond.constantLong "DayCountLaw" (47 : Nat) (365241780471 : Int64)) ∈ lw_all := lw_g (lw_at lw_m3 161 rfl) rfl
theorem q643 : (Jvm.Cond.methodLink "DayCountLaw" (49 : Nat) ({ cls := "DayCount", name := "epochDay", desc := "()J" } : Jvm.MethodName)) ∈ lw_all := lw_g (lw_at lw_m3 162 rfl) rfl
theorem q661 : (Jvm.Cond.methodLink "DayCountLaw" (53 : Nat) ({ cls := "DayCountLaw", name := "length", desc := "(IZ)I" } : Jvm.MethodName)) ∈ lw_all := lw_g (lw_at lw_m3 180 rfl) rfl
theorem q662 : (Jvm.Cond.static ({ cls := "DayCountLaw", name := "length", desc := "(IZ)I" } : Jvm.MethodName)) ∈ lw_all := lw_g (lw_at lw_m3 181 rfl) rfl
theorem q663 : (Jvm.Cond.code ({ cls := "DayCountLaw", name := "length", desc := "(IZ)I" } : Jvm.MethodName) method_3_code (2 : Nat) (Option.some Jvm.ClassFile.FieldType.int)) ∈ lw_all := lw_g (lw_at lw_m3 182 rfl) rfl
theorem q664 : (Jvm.Cond.methodLink "DayCountLaw" (124 : Nat) ({ cls := "DayCountLaw", name := "askedNear", desc := "(I)Z" } : Jvm.MethodName)) ∈ lw_all := lw_g (lw_at lw_m3 183 rfl) rfl
theorem q665 : (Jvm.Cond.static ({ cls := "DayCountLaw", name := "askedNear", desc := "(I)Z" } : Jvm.MethodName)) ∈ lw_all := lw_g (lw_at lw_m3 184 rfl) rfl
theorem q666 : (Jvm.Cond.code ({ cls := "DayCountLaw", name := "askedNear", desc := "(I)Z" } : Jvm.MethodName) method_9_code (2 : Nat) (Option.some Jvm.ClassFile.FieldType.boolean)) ∈ lw_all := lw_g (lw_at lw_m3 185 rfl) rfl
theorem q667 : (Jvm.Cond.methodLink "DayCountLaw" (108 : Nat) ({ cls := "DayCount", name := "near", desc := "(I)Z" } : Jvm.MethodName)) ∈ lw_all := lw_g (lw_at lw_m3 186 rfl) rfl
theorem q671 : (Jvm.Cond.methodLink "DayCountLaw" (112 : Nat) ({ cls := "DayCountLaw", name := "askedIs", desc := "(LDayCount;J)Z" } : Jvm.MethodName)) ∈ lw_all := lw_g (lw_at lw_m3 190 rfl) rfl
theorem q672 : (Jvm.Cond.static ({ cls := "DayCountLaw", name := "askedIs", desc := "(LDayCount;J)Z" } : Jvm.MethodName)) ∈ lw_all := lw_g (lw_at lw_m3 191 rfl) rfl
theorem q673 : (Jvm.Cond.code ({ cls := "DayCountLaw", name := "askedIs", desc := "(LDayCount;J)Z" } : Jvm.MethodName) method_8_code (4 : Nat) (Option.some Jvm.ClassFile.FieldType.boolean)) ∈ lw_all := lw_g (lw_at lw_m3 192 rfl) rfl
theorem q674 : (Jvm.Cond.methodLink "DayCountLaw" (104 : Nat) ({ cls := "DayCountLaw", name := "askedCivil", desc := "(J)[J" } : Jvm.MethodName)) ∈ lw_all := lw_g (lw_at lw_m3 193 rfl) rfl
theorem q675 : (Jvm.Cond.static ({ cls := "DayCountLaw", name := "askedCivil", desc := "(J)[J" } : Jvm.MethodName)) ∈ lw_all := lw_g (lw_at lw_m3 194 rfl) rfl
theorem q676 : (Jvm.Cond.code ({ cls := "DayCountLaw", name := "askedCivil", desc := "(J)[J" } : Jvm.MethodName) method_6_code (22 : Nat) (Option.some (Jvm.ClassFile.FieldType.array Jvm.ClassFile.FieldType.long))) ∈ lw_all := lw_g (lw_at lw_m3 195 rfl) rfl
theorem q677 : (Jvm.Cond.constantLong "DayCountLaw" (57 : Nat) (719468 : Int64)) ∈ lw_all := lw_g (lw_at lw_m3 196 rfl) rfl
theorem q678 : (Jvm.Cond.constantLong "DayCountLaw" (59 : Nat) (146097 : Int64)) ∈ lw_all := lw_g (lw_at lw_m3 197 rfl) rfl
theorem q679 : (Jvm.Cond.methodLink "DayCountLaw" (61 : Nat) ({ cls := "java/lang/Math", name := "floorDiv", desc := "(JJ)J" } : Jvm.MethodName)) ∈ lw_all := lw_g (lw_at lw_m3 198 rfl) rfl
theorem q682 : (Jvm.Cond.constantLong "DayCountLaw" (67 : Nat) (1460 : Int64)) ∈ lw_all := lw_g (lw_at lw_m3 201 rfl) rfl
theorem q683 : (Jvm.Cond.constantLong "DayCountLaw" (69 : Nat) (36524 : Int64)) ∈ lw_all := lw_g (lw_at lw_m3 202 rfl) rfl
theorem q684 : (Jvm.Cond.constantLong "DayCountLaw" (71 : Nat) (146096 : Int64)) ∈ lw_all := lw_g (lw_at lw_m3 203 rfl) rfl
theorem q685 : (Jvm.Cond.constantLong "DayCountLaw" (73 : Nat) (365 : Int64)) ∈ lw_all := lw_g (lw_at lw_m3 204 rfl) rfl
theorem q686 : (Jvm.Cond.constantLong "DayCountLaw" (75 : Nat) (4 : Int64)) ∈ lw_all := lw_g (lw_at lw_m3 205 rfl) rfl
theorem q687 : (Jvm.Cond.constantLong "DayCountLaw" (77 : Nat) (100 : Int64)) ∈ lw_all := lw_g (lw_at lw_m3 206 rfl) rfl
theorem q688 : (Jvm.Cond.constantLong "DayCountLaw" (79 : Nat) (5 : Int64)) ∈ lw_all := lw_g (lw_at lw_m3 207 rfl) rfl
theorem q689 : (Jvm.Cond.constantLong "DayCountLaw" (81 : Nat) (2 : Int64)) ∈ lw_all := lw_g (lw_at lw_m3 208 rfl) rfl
theorem q690 : (Jvm.Cond.constantLong "DayCountLaw" (83 : Nat) (153 : Int64)) ∈ lw_all := lw_g (lw_at lw_m3 209 rfl) rfl
theorem q691 : (Jvm.Cond.constantLong "DayCountLaw" (85 : Nat) (10 : Int64)) ∈ lw_all := lw_g (lw_at lw_m3 210 rfl) rfl
theorem q692 : (Jvm.Cond.constantLong "DayCountLaw" (87 : Nat) (3 : Int64)) ∈ lw_all := lw_g (lw_at lw_m3 211 rfl) rfl
theorem q693 : (Jvm.Cond.constantLong "DayCountLaw" (89 : Nat) (9 : Int64)) ∈ lw_all := lw_g (lw_at lw_m3 212 rfl) rfl
theorem q694 : (Jvm.Cond.constantLong "DayCountLaw" (91 : Nat) (400 : Int64)) ∈ lw_all := lw_g (lw_at lw_m3 213 rfl) rfl
theorem q695 : (Jvm.Cond.methodLink "DayCountLaw" (93 : Nat) ({ cls := "DayCountLaw", name := "askedFirstOf", desc := "(J)J" } : Jvm.MethodName)) ∈ lw_all := lw_g (lw_at lw_m3 214 rfl) rfl
theorem q696 : (Jvm.Cond.static ({ cls := "DayCountLaw", name := "askedFirstOf", desc := "(J)J" } : Jvm.MethodName)) ∈ lw_all := lw_g (lw_at lw_m3 215 rfl) rfl
theorem q697 : (Jvm.Cond.code ({ cls := "DayCountLaw", name := "askedFirstOf", desc := "(J)J" } : Jvm.MethodName) method_7_code (4 : Nat) (Option.some Jvm.ClassFile.FieldType.long)) ∈ lw_all := lw_g (lw_at lw_m3 216 rfl) rfl
theorem q698 : (Jvm.Cond.constantLong "DayCountLaw" (102 : Nat) (719162 : Int64)) ∈ lw_all := lw_g (lw_at lw_m3 217 rfl) rfl
theorem q699 : (Jvm.Cond.constantLong "DayCountLaw" (97 : Nat) (7 : Int64)) ∈ lw_all := lw_g (lw_at lw_m3 218 rfl) rfl
theorem q700 : (Jvm.Cond.methodLink "DayCountLaw" (99 : Nat) ({ cls := "java/lang/Math", name := "floorMod", desc := "(JJ)J" } : Jvm.MethodName)) ∈ lw_all := lw_g (lw_at lw_m3 219 rfl) rfl
theorem q704 : (Jvm.Cond.methodLink "DayCountLaw" (127 : Nat) ({ cls := "DayCountLaw", name := "askedEnds", desc := "(I)Z" } : Jvm.MethodName)) ∈ lw_all := lw_g (lw_at lw_m3 223 rfl) rfl
theorem q705 : (Jvm.Cond.static ({ cls := "DayCountLaw", name := "askedEnds", desc := "(I)Z" } : Jvm.MethodName)) ∈ lw_all := lw_g (lw_at lw_m3 224 rfl) rfl
theorem q706 : (Jvm.Cond.code ({ cls := "DayCountLaw", name := "askedEnds", desc := "(I)Z" } : Jvm.MethodName) method_10_code (6 : Nat) (Option.some Jvm.ClassFile.FieldType.boolean)) ∈ lw_all := lw_g (lw_at lw_m3 225 rfl) rfl
theorem q707 : (Jvm.Cond.constant "DayCountLaw" (116 : Nat) (-2147483648 : Int32)) ∈ lw_all := lw_g (lw_at lw_m3 226 rfl) rfl
theorem q708 : (Jvm.Cond.constant "DayCountLaw" (117 : Nat) (2147483647 : Int32)) ∈ lw_all := lw_g (lw_at lw_m3 227 rfl) rfl
theorem q709 : (Jvm.Cond.constant "DayCountLaw" (118 : Nat) (-999999999 : Int32)) ∈ lw_all := lw_g (lw_at lw_m3 228 rfl) rfl
theorem q710 : (Jvm.Cond.constant "DayCountLaw" (119 : Nat) (999999999 : Int32)) ∈ lw_all := lw_g (lw_at lw_m3 229 rfl) rfl
theorem q711 : (Jvm.Cond.methodLink "DayCountLaw" (130 : Nat) ({ cls := "DayCountLaw", name := "askedPlain", desc := "(II)Z" } : Jvm.MethodName)) ∈ lw_all := lw_g (lw_at lw_m3 230 rfl) rfl
theorem q712 : (Jvm.Cond.static ({ cls := "DayCountLaw", name := "askedPlain", desc := "(II)Z" } : Jvm.MethodName)) ∈ lw_all := lw_g (lw_at lw_m3 231 rfl) rfl
theorem q713 : (Jvm.Cond.code ({ cls := "DayCountLaw", name := "askedPlain", desc := "(II)Z" } : Jvm.MethodName) method_11_code (5 : Nat) (Option.some Jvm.ClassFile.FieldType.boolean)) ∈ lw_all := lw_g (lw_at lw_m3 232 rfl) rfl
end
section
/-! PLAIN LAW, A: ints of the machine as integers -/
theorem ll_bm {z : Int} (h1 : -9223372036854775808 ≤ z) (h2 : z ≤ 9223372036854775807) : z.bmod (2 ^ 64) = z :=
  Int.bmod_eq_of_le_mul_two (by rw [show ((2 ^ 64 : Nat) : Int) = 18446744073709551616 from rfl]; omega) (by rw [show ((2 ^ 64 : Nat) : Int) = 18446744073709551616 from rfl]; omega)
theorem ii_bm {z : Int} (h1 : -2147483648 ≤ z) (h2 : z ≤ 2147483647) : z.bmod (2 ^ 32) = z :=
  Int.bmod_eq_of_le_mul_two (by rw [show ((2 ^ 32 : Nat) : Int) = 4294967296 from rfl]; omega) (by rw [show ((2 ^ 32 : Nat) : Int) = 4294967296 from rfl]; omega)
theorem ll_rng (x : Int64) : -9223372036854775808 ≤ x.toInt ∧ x.toInt ≤ 9223372036854775807 := by
  have h1 := x.le_toInt
  have h2 := x.toInt_lt
  omega
theorem ii_rng (x : Int32) : -2147483648 ≤ x.toInt ∧ x.toInt ≤ 2147483647 := by
  have h1 := x.le_toInt
  have h2 := x.toInt_lt
  omega
theorem ll_add {v x y : Int64} {X Y : Int} (e : v = x + y) (hx : x.toInt = X) (hy : y.toInt = Y) (h1 : -9223372036854775808 ≤ X + Y) (h2 : X + Y ≤ 9223372036854775807) : v.toInt = X + Y := by
  rw [e, Int64.toInt_add, hx, hy]; exact ll_bm h1 h2
theorem ll_sub {v x y : Int64} {X Y : Int} (e : v = x - y) (hx : x.toInt = X) (hy : y.toInt = Y) (h1 : -9223372036854775808 ≤ X - Y) (h2 : X - Y ≤ 9223372036854775807) : v.toInt = X - Y := by
  rw [e, Int64.toInt_sub, hx, hy]; exact ll_bm h1 h2
theorem ll_mul {v x y : Int64} {X Y : Int} (e : v = x * y) (hx : x.toInt = X) (hy : y.toInt = Y) (h1 : -9223372036854775808 ≤ X * Y) (h2 : X * Y ≤ 9223372036854775807) : v.toInt = X * Y := by
  rw [e, Int64.toInt_mul, hx, hy]; exact ll_bm h1 h2
theorem ll_neg {v x : Int64} {X : Int} (e : v = -x) (hx : x.toInt = X) (h1 : -9223372036854775808 ≤ -X) (h2 : -X ≤ 9223372036854775807) : v.toInt = -X := by
  rw [e, Int64.toInt_neg, hx]; exact ll_bm h1 h2
theorem ll_tdiv {X c : Int} (hc : 0 < c) : (0 ≤ X → X.tdiv c = X / c) ∧ (X ≤ 0 → X.tdiv c = -((-X) / c)) := by
  refine ⟨fun h => Int.tdiv_eq_ediv_of_nonneg h, fun h => ?_⟩
  have e : (-X).tdiv c = (-X) / c := Int.tdiv_eq_ediv_of_nonneg (by omega)
  rw [Int.neg_tdiv] at e
  omega
theorem ll_ne1 {y : Int64} {c : Int} (hy : y.toInt = c) (hc : c ≠ -1) : y ≠ -1 := by
  intro q
  rw [q] at hy
  have h : (-1 : Int64).toInt = -1 := by decide +kernel
  omega
theorem ii_ne1 {y : Int32} {c : Int} (hy : y.toInt = c) (hc : c ≠ -1) : y ≠ -1 := by
  intro q
  rw [q] at hy
  have h : (-1 : Int32).toInt = -1 := by decide +kernel
  omega
theorem ll_div {v x y : Int64} {X c : Int} (e : v = x / y) (hx : x.toInt = X) (hy : y.toInt = c) (hc : 0 < c) : (0 ≤ X → v.toInt = X / c) ∧ (X ≤ 0 → v.toInt = -((-X) / c)) := by
  have h : v.toInt = X.tdiv c := by
    rw [e, Int64.toInt_div_of_ne_right _ _ (ll_ne1 hy (by omega)), hx, hy]
  rw [h]
  exact ll_tdiv hc
/-- a division by a negative number, of a number that isn't positive -/
theorem ll_divn {v x y : Int64} {X c : Int} (e : v = x / y) (hx : x.toInt = X) (hy : y.toInt = -c) (hc : 1 < c) (hX : X ≤ 0) : v.toInt = (-X) / c := by
  have h : v.toInt = X.tdiv (-c) := by
    rw [e, Int64.toInt_div_of_ne_right _ _ (ll_ne1 hy (by omega)), hx, hy]
  rw [h, Int.tdiv_neg]
  have := (ll_tdiv (X := X) (c := c) (by omega)).2 hX
  omega
theorem ii_add {v x y : Int32} {X Y : Int} (e : v = x + y) (hx : x.toInt = X) (hy : y.toInt = Y) (h1 : -2147483648 ≤ X + Y) (h2 : X + Y ≤ 2147483647) : v.toInt = X + Y := by
  rw [e, Int32.toInt_add, hx, hy]; exact ii_bm h1 h2
theorem ii_sub {v x y : Int32} {X Y : Int} (e : v = x - y) (hx : x.toInt = X) (hy : y.toInt = Y) (h1 : -2147483648 ≤ X - Y) (h2 : X - Y ≤ 2147483647) : v.toInt = X - Y := by
  rw [e, Int32.toInt_sub, hx, hy]; exact ii_bm h1 h2
theorem ii_mul {v x y : Int32} {X Y : Int} (e : v = x * y) (hx : x.toInt = X) (hy : y.toInt = Y) (h1 : -2147483648 ≤ X * Y) (h2 : X * Y ≤ 2147483647) : v.toInt = X * Y := by
  rw [e, Int32.toInt_mul, hx, hy]; exact ii_bm h1 h2
theorem ii_div {v x y : Int32} {X c : Int} (e : v = x / y) (hx : x.toInt = X) (hy : y.toInt = c) (hc : 0 < c) : (0 ≤ X → v.toInt = X / c) ∧ (X ≤ 0 → v.toInt = -((-X) / c)) := by
  have h : v.toInt = X.tdiv c := by
    rw [e, Int32.toInt_div_of_ne_right _ _ (ii_ne1 hy (by omega)), hx, hy]
  rw [h]
  exact ll_tdiv hc
/-- what is left of a number by a positive one: X - (X / c) * c, as the machine has it -/
theorem ll_remI {X c q : Int} (hc : 0 < c) (h : (0 ≤ X → q = X / c) ∧ (X ≤ 0 → q = -((-X) / c))) : (-9223372036854775808 ≤ X ∧ X ≤ 9223372036854775807 → -9223372036854775808 ≤ q * c ∧ q * c ≤ 9223372036854775807) ∧ (0 ≤ X → X - q * c = X % c) ∧ (X ≤ 0 → X - q * c = -((-X) % c)) ∧ (-2147483648 ≤ X ∧ X ≤ 2147483647 → -2147483648 ≤ q * c ∧ q * c ≤ 2147483647) := by
  by_cases hX : 0 ≤ X
  · have hq := h.1 hX
    have h1 : c * (X / c) ≤ X := Int.mul_ediv_self_le (by omega)
    have h2 : 0 ≤ X / c := Int.ediv_nonneg hX (by omega)
    have h3 : 0 ≤ c * (X / c) := Int.mul_nonneg (by omega) h2
    have h4 : X % c = X - c * (X / c) := Int.emod_def X c
    have h5 : q * c = c * (X / c) := by rw [hq, Int.mul_comm]
    refine ⟨fun _ => by omega, fun _ => by omega, fun h0 => ?_, fun _ => by omega⟩
    have : X = 0 := by omega
    subst this
    have h6 : (-0 : Int) % c = 0 := by simp
    rw [h6]
    have h7 : (0 : Int) / c = 0 := by simp
    rw [h7] at hq
    rw [hq]; simp
  · have hX2 : X ≤ 0 := by omega
    have hq := h.2 hX2
    have h1 : c * ((-X) / c) ≤ -X := Int.mul_ediv_self_le (by omega)
    have h2 : 0 ≤ (-X) / c := Int.ediv_nonneg (by omega) (by omega)
    have h3 : 0 ≤ c * ((-X) / c) := Int.mul_nonneg (by omega) h2
    have h4 : (-X) % c = -X - c * ((-X) / c) := Int.emod_def (-X) c
    have h5 : q * c = -(c * ((-X) / c)) := by rw [hq, Int.neg_mul, Int.mul_comm]
    exact ⟨fun _ => by omega, fun h0 => absurd h0 hX, fun _ => by omega, fun _ => by omega⟩
theorem ll_rem {v x y : Int64} {X c : Int} (e : v = x - x / y * y) (hx : x.toInt = X) (hy : y.toInt = c) (hc : 0 < c) : (0 ≤ X → v.toInt = X % c) ∧ (X ≤ 0 → v.toInt = -((-X) % c)) := by
  have hq := ll_div (v := x / y) rfl hx hy hc
  have hr := ll_rng x
  rw [hx] at hr
  have hk := ll_remI hc hq
  have hm : (x / y * y).toInt = (x / y).toInt * c := ll_mul rfl rfl hy (hk.1 hr).1 (hk.1 hr).2
  have hv := ll_rng v
  have h0 : -9223372036854775808 ≤ X - (x / y).toInt * c ∧ X - (x / y).toInt * c ≤ 9223372036854775807 := by
    by_cases hX : 0 ≤ X
    · have a1 := hk.2.1 hX
      have a2 := Int.emod_nonneg X (show c ≠ 0 by omega)
      have a3 := Int.emod_lt_of_pos X hc
      have a4 : c ≤ 9223372036854775807 := by have := ll_rng y; omega
      omega
    · have a1 := hk.2.2.1 (by omega)
      have a2 := Int.emod_nonneg (-X) (show c ≠ 0 by omega)
      have a3 := Int.emod_lt_of_pos (-X) hc
      have a4 : c ≤ 9223372036854775807 := by have := ll_rng y; omega
      omega
  have hs : v.toInt = X - (x / y).toInt * c := ll_sub e hx hm h0.1 h0.2
  exact ⟨fun h => by rw [hs]; exact hk.2.1 h, fun h => by rw [hs]; exact hk.2.2.1 h⟩
theorem ii_rem {v x y : Int32} {X c : Int} (e : v = x - x / y * y) (hx : x.toInt = X) (hy : y.toInt = c) (hc : 0 < c) : (0 ≤ X → v.toInt = X % c) ∧ (X ≤ 0 → v.toInt = -((-X) % c)) := by
  have hq := ii_div (v := x / y) rfl hx hy hc
  have hr := ii_rng x
  rw [hx] at hr
  have hk := ll_remI hc hq
  have hm : (x / y * y).toInt = (x / y).toInt * c := ii_mul rfl rfl hy (hk.2.2.2 hr).1 (hk.2.2.2 hr).2
  have hv := ii_rng v
  have h0 : -2147483648 ≤ X - (x / y).toInt * c ∧ X - (x / y).toInt * c ≤ 2147483647 := by
    by_cases hX : 0 ≤ X
    · have a1 := hk.2.1 hX
      have a2 := Int.emod_nonneg X (show c ≠ 0 by omega)
      have a3 := Int.emod_lt_of_pos X hc
      have a4 : c ≤ 2147483647 := by have := ii_rng y; omega
      omega
    · have a1 := hk.2.2.1 (by omega)
      have a2 := Int.emod_nonneg (-X) (show c ≠ 0 by omega)
      have a3 := Int.emod_lt_of_pos (-X) hc
      have a4 : c ≤ 2147483647 := by have := ii_rng y; omega
      omega
  have hs : v.toInt = X - (x / y).toInt * c := ii_sub e hx hm h0.1 h0.2
  exact ⟨fun h => by rw [hs]; exact hk.2.1 h, fun h => by rw [hs]; exact hk.2.2.1 h⟩
theorem ll_i2l {v : Int64} {x : Int32} {X : Int} (e : v = x.toInt64) (hx : x.toInt = X) : v.toInt = X := by rw [e, Int32.toInt_toInt64, hx]
theorem ii_l2i {v : Int32} {x : Int64} {X : Int} (e : v = x.toInt32) (hx : x.toInt = X) (h1 : -2147483648 ≤ X) (h2 : X ≤ 2147483647) : v.toInt = X := by
  rw [e, Int64.toInt_toInt32, hx]; exact ii_bm h1 h2
theorem ii_i2s {v x : Int32} {X : Int} (e : v = x.toInt16.toInt32) (hx : x.toInt = X) (h1 : -32768 ≤ X) (h2 : X ≤ 32767) : v = x := by
  refine Int32.toInt_inj.mp ?_
  rw [e, Int16.toInt_toInt32, Int32.toInt_toInt16, hx]
  exact Int.bmod_eq_of_le_mul_two (by rw [show ((2 ^ 16 : Nat) : Int) = 65536 from rfl]; omega) (by rw [show ((2 ^ 16 : Nat) : Int) = 65536 from rfl]; omega)
theorem ll_eq {x y : Int64} (h : x.toInt = y.toInt) : x = y := Int64.toInt_inj.mp h
theorem ii_eq {x y : Int32} (h : x.toInt = y.toInt) : x = y := Int32.toInt_inj.mp h
theorem ll_lt {x y : Int64} : x < y ↔ x.toInt < y.toInt := Int64.lt_iff_toInt_lt
theorem ll_le {x y : Int64} : x ≤ y ↔ x.toInt ≤ y.toInt := Int64.le_iff_toInt_le
theorem ii_lt {x y : Int32} : x < y ↔ x.toInt < y.toInt := Int32.lt_iff_toInt_lt
theorem ii_le {x y : Int32} : x ≤ y ↔ x.toInt ≤ y.toInt := Int32.le_iff_toInt_le
/-- lcmp's answer against 0 -/
theorem cm_lt0 {x y : Int64} {X Y : Int} (hx : x.toInt = X) (hy : y.toInt = Y) : lg_cmp x y < 0 ↔ X < Y := by rw [lg_cmp_lt, ll_lt, hx, hy]
theorem cm_gt0 {x y : Int64} {X Y : Int} (hx : x.toInt = X) (hy : y.toInt = Y) : 0 < lg_cmp x y ↔ Y < X := by rw [lg_cmp_gt, ll_lt, hx, hy]
theorem cm_ge0 {x y : Int64} {X Y : Int} (hx : x.toInt = X) (hy : y.toInt = Y) : 0 ≤ lg_cmp x y ↔ Y ≤ X := by rw [lg_cmp_ge, ll_le, hx, hy]
theorem cm_le0 {x y : Int64} {X Y : Int} (hx : x.toInt = X) (hy : y.toInt = Y) : lg_cmp x y ≤ 0 ↔ X ≤ Y := by rw [lg_cmp_le, ll_le, hx, hy]
theorem cm_eq0 {x y : Int64} {X Y : Int} (hx : x.toInt = X) (hy : y.toInt = Y) : lg_cmp x y = 0 ↔ X = Y := by rw [lg_cmp_eq, ← Int64.toInt_inj, hx, hy]
/-- the last two bits -/
theorem bv_and3 {w : Nat} (hw : 2 ≤ w) (x : BitVec w) : (x &&& BitVec.ofNat w 3).toNat = x.toNat % 4 := by
  have h2 : 2 ^ 2 ≤ 2 ^ w := Nat.pow_le_pow_right (by omega) hw
  have h3 : 3 < 2 ^ w := by omega
  rw [BitVec.toNat_and, BitVec.toNat_ofNat, Nat.mod_eq_of_lt h3]
  exact Nat.and_two_pow_sub_one_eq_mod x.toNat 2
theorem ll_and3 (x : Int64) : x &&& 3 = 0 ↔ x.toInt % 4 = 0 := by
  have h1 : (x &&& 3).toBitVec = x.toBitVec &&& BitVec.ofNat 64 3 := rfl
  have h2 : (x &&& 3 = 0) ↔ (x.toBitVec &&& BitVec.ofNat 64 3).toNat = 0 := by
    rw [← Int64.toBitVec_inj, h1]
    exact ⟨fun h => by rw [h]; rfl, fun h => BitVec.eq_of_toNat_eq (by rw [h]; rfl)⟩
  rw [h2, bv_and3 (by decide)]
  have h3 : x.toInt = x.toBitVec.toInt := rfl
  rw [h3, BitVec.toInt_eq_toNat_cond]
  have h4 := x.toBitVec.isLt
  split <;> omega
theorem ii_and3 (x : Int32) : x &&& 3 = 0 ↔ x.toInt % 4 = 0 := by
  have h1 : (x &&& 3).toBitVec = x.toBitVec &&& BitVec.ofNat 32 3 := rfl
  have h2 : (x &&& 3 = 0) ↔ (x.toBitVec &&& BitVec.ofNat 32 3).toNat = 0 := by
    rw [← Int32.toBitVec_inj, h1]
    exact ⟨fun h => by rw [h]; rfl, fun h => BitVec.eq_of_toNat_eq (by rw [h]; rfl)⟩
  rw [h2, bv_and3 (by decide)]
  have h3 : x.toInt = x.toBitVec.toInt := rfl
  rw [h3, BitVec.toInt_eq_toNat_cond]
  have h4 := x.toBitVec.isLt
  split <;> omega
/-- two ints, joined to a long -/
def jn (h l : Int32) : Int64 := (h.toInt64 <<< ((32 : Int32).toInt64 &&& 63)) ||| (l.toInt64 &&& 4294967295)
def hi_ (n : Int64) : Int32 := (n >>> ((32 : Int32).toInt64 &&& 63)).toInt32
theorem jn_back (n : Int64) : jn (hi_ n) n.toInt32 = n := by
  apply Int64.toBitVec_inj.mp
  have e1 : ((32 : Int32).toInt64 &&& 63).toBitVec.smod 64 = 32#64 := by decide +kernel
  have e2 : (jn (hi_ n) n.toInt32).toBitVec = ((((n.toBitVec.sshiftRight' (((32 : Int32).toInt64 &&& 63).toBitVec.smod 64)).signExtend 32).signExtend 64) <<< (((32 : Int32).toInt64 &&& 63).toBitVec.smod 64)) ||| (((n.toBitVec.signExtend 32).signExtend 64) &&& BitVec.ofNat 64 4294967295) := rfl
  rw [e2, e1]
  apply BitVec.eq_of_getLsbD_eq
  intro i hi
  have hm : (BitVec.ofNat 64 4294967295).getLsbD i = decide (i < 32) := by
    rw [BitVec.getLsbD_ofNat, show (4294967295 : Nat) = 2 ^ 32 - 1 from rfl, Nat.testBit_two_pow_sub_one]
    simp [hi]
  have t : (32#64).toNat = 32 := rfl
  rw [BitVec.getLsbD_or, BitVec.getLsbD_and, hm, BitVec.shiftLeft_eq', t, BitVec.getLsbD_shiftLeft, BitVec.getLsbD_signExtend, BitVec.getLsbD_signExtend, BitVec.getLsbD_signExtend, BitVec.getLsbD_signExtend, BitVec.sshiftRight_eq', t]
  by_cases h : i < 32
  · simp [h, hi]
  · have h1 : i - 32 < 32 := by omega
    have h2 : i - 32 < 64 := by omega
    have h3 : 32 + (i - 32) = i := by omega
    simp [h, h1, h2, hi]
    rw [BitVec.getElem_sshiftRight]
    simp [h3, hi]
end
section
/-! PLAIN LAW, B: the calendar over the integers -/
/-- days ahead of the March year y, from March 1 of year 0 on -/
def ca_fm (y : Int) : Int := 365 * y + y / 4 - y / 100 + y / 400
/-- 1 in a leap year -/
def ca_L (y : Int) : Int := if y % 4 = 0 ∧ (y % 100 ≠ 0 ∨ y % 400 = 0) then 1 else 0
/-- days from March 1 to the month -/
def ca_off (m : Int) : Int := if m = 1 then 306 else if m = 2 then 337 else if m = 3 then 0 else if m = 4 then 31 else if m = 5 then 61 else if m = 6 then 92 else if m = 7 then 122 else if m = 8 then 153 else if m = 9 then 184 else if m = 10 then 214 else if m = 11 then 245 else 275
def ca_ln (L m : Int) : Int := if m = 2 then 28 + L else if m = 4 ∨ m = 6 ∨ m = 9 ∨ m = 11 then 30 else 31
/-- days from January 1 to the month -/
def ca_cum (L m : Int) : Int := if m = 1 then 0 else if m = 2 then 31 else 59 + L + ca_off m
/-- the count n is the day d of the month m of the year y -/
def ca_Y (y m : Int) : Int := if m ≤ 2 then y - 1 else y
def IsD (n y m d : Int) : Prop := 1 ≤ m ∧ m ≤ 12 ∧ 1 ≤ d ∧ d ≤ ca_ln (ca_L y) m ∧ n + 719468 = ca_fm (ca_Y y m) + ca_off m + d - 1
theorem ca_L01 (y : Int) : ca_L y = 0 ∨ ca_L y = 1 := by unfold ca_L; split <;> simp
theorem ca_L1 {y : Int} : ca_L y = 1 ↔ y % 4 = 0 ∧ (y % 100 ≠ 0 ∨ y % 400 = 0) := by unfold ca_L; split <;> simp_all
theorem ca_month {m : Int} (h1 : 1 ≤ m) (h2 : m ≤ 12) : m = 1 ∨ m = 2 ∨ m = 3 ∨ m = 4 ∨ m = 5 ∨ m = 6 ∨ m = 7 ∨ m = 8 ∨ m = 9 ∨ m = 10 ∨ m = 11 ∨ m = 12 := by omega
theorem ca_tab (L y : Int) {m : Int} (h1 : 1 ≤ m) (h2 : m ≤ 12) : (m = 1 ∧ ca_off m = 306 ∧ ca_ln L m = 31 ∧ ca_cum L m = 0 ∧ ca_Y y m = y - 1) ∨ (m = 2 ∧ ca_off m = 337 ∧ ca_ln L m = 28 + L ∧ ca_cum L m = 31 ∧ ca_Y y m = y - 1) ∨ (m = 3 ∧ ca_off m = 0 ∧ ca_ln L m = 31 ∧ ca_cum L m = 59 + L ∧ ca_Y y m = y) ∨ (m = 4 ∧ ca_off m = 31 ∧ ca_ln L m = 30 ∧ ca_cum L m = 90 + L ∧ ca_Y y m = y) ∨ (m = 5 ∧ ca_off m = 61 ∧ ca_ln L m = 31 ∧ ca_cum L m = 120 + L ∧ ca_Y y m = y) ∨ (m = 6 ∧ ca_off m = 92 ∧ ca_ln L m = 30 ∧ ca_cum L m = 151 + L ∧ ca_Y y m = y) ∨ (m = 7 ∧ ca_off m = 122 ∧ ca_ln L m = 31 ∧ ca_cum L m = 181 + L ∧ ca_Y y m = y) ∨ (m = 8 ∧ ca_off m = 153 ∧ ca_ln L m = 31 ∧ ca_cum L m = 212 + L ∧ ca_Y y m = y) ∨ (m = 9 ∧ ca_off m = 184 ∧ ca_ln L m = 30 ∧ ca_cum L m = 243 + L ∧ ca_Y y m = y) ∨ (m = 10 ∧ ca_off m = 214 ∧ ca_ln L m = 31 ∧ ca_cum L m = 273 + L ∧ ca_Y y m = y) ∨ (m = 11 ∧ ca_off m = 245 ∧ ca_ln L m = 30 ∧ ca_cum L m = 304 + L ∧ ca_Y y m = y) ∨ (m = 12 ∧ ca_off m = 275 ∧ ca_ln L m = 31 ∧ ca_cum L m = 334 + L ∧ ca_Y y m = y) := by
  rcases ca_month h1 h2 with rfl | rfl | rfl | rfl | rfl | rfl | rfl | rfl | rfl | rfl | rfl | rfl <;> simp [ca_off, ca_ln, ca_cum, ca_Y] <;> omega
theorem ca_step (y : Int) : ca_fm (y + 1) = ca_fm y + 365 + ca_L (y + 1) := by
  unfold ca_fm ca_L
  split <;> omega
theorem ca_mono {a b : Int} (h : a ≤ b) : ca_fm a ≤ ca_fm b := by
  unfold ca_fm
  omega
theorem ca_400 (y k : Int) : ca_fm (y + 400 * k) = ca_fm y + 146097 * k := by
  unfold ca_fm
  omega
theorem ca_L400 (y k : Int) : ca_L (y + 400 * k) = ca_L y := by
  have h1 : (y + 400 * k) % 4 = y % 4 := by omega
  have h2 : (y + 400 * k) % 100 = y % 100 := by omega
  have h3 : (y + 400 * k) % 400 = y % 400 := by omega
  unfold ca_L
  rw [h1, h2, h3]
theorem ca_fm4 {a b c d : Int} (hb : 0 ≤ b ∧ b ≤ 3) (hc : 0 ≤ c ∧ c ≤ 24) (hd : 0 ≤ d ∧ d ≤ 3) : ca_fm (400 * a + 100 * b + 4 * c + d) = 146097 * a + 36524 * b + 1461 * c + 365 * d := by
  unfold ca_fm
  have h1 : (400 * a + 100 * b + 4 * c + d) / 4 = 100 * a + 25 * b + c := by omega
  have h2 : (400 * a + 100 * b + 4 * c + d) / 100 = 4 * a + b := by omega
  have h3 : (400 * a + 100 * b + 4 * c + d) / 400 = a := by omega
  rw [h1, h2, h3]
  omega
theorem ca_dec (y : Int) : ∃ a b c d : Int, y = 400 * a + 100 * b + 4 * c + d ∧ (0 ≤ b ∧ b ≤ 3) ∧ (0 ≤ c ∧ c ≤ 24) ∧ (0 ≤ d ∧ d ≤ 3) :=
  ⟨y / 400, y % 400 / 100, y % 100 / 4, y % 4, by omega, by omega, by omega, by omega⟩
/-- the estimate of the year is right, or one too many -/
theorem ca_est {z y : Int} (h : y = (400 * z + 591) / 146097) : z < ca_fm (y + 1) ∧ ca_fm (y - 1) ≤ z := by
  constructor
  · obtain ⟨a, b, c, d, e, hb, hc, hd⟩ := ca_dec (y + 1)
    rw [e, ca_fm4 hb hc hd]
    omega
  · obtain ⟨a, b, c, d, e, hb, hc, hd⟩ := ca_dec (y - 1)
    rw [e, ca_fm4 hb hc hd]
    omega
/-- a day's month and year out of its place in the March year -/
theorem ca_md {n y m d : Int} (h : IsD n y m d) : ∃ Y q : Int, n + 719468 = ca_fm Y + q ∧ 0 ≤ q ∧ q < 365 + ca_L (Y + 1) ∧ m = ((5 * q + 2) / 153 + 2) % 12 + 1 ∧ d = q - ca_off m + 1 ∧ ((m ≤ 2 ∧ y = Y + 1 ∧ 306 ≤ q) ∨ (2 < m ∧ y = Y ∧ q < 306)) := by
  obtain ⟨h1, h2, h3, h4, h5⟩ := h
  have hL := ca_L01 y
  have hL2 := ca_L01 (y + 1)
  have e0 : (y - 1 + 1 : Int) = y := by omega
  refine ⟨ca_Y y m, ca_off m + d - 1, by omega, ?_⟩
  clear h5
  rcases ca_tab (ca_L y) y h1 h2 with g | g | g | g | g | g | g | g | g | g | g | g <;> obtain ⟨g1, g2, g3, -, g5⟩ := g <;> rw [g3] at h4 <;> rw [g2, g5]
  · rw [e0]
    have e : (5 * (306 + d - 1) + 2) / 153 = 10 := by omega
    omega
  · rw [e0]
    have e : (5 * (337 + d - 1) + 2) / 153 = 11 := by omega
    omega
  · have e : (5 * (0 + d - 1) + 2) / 153 = 0 := by omega
    omega
  · have e : (5 * (31 + d - 1) + 2) / 153 = 1 := by omega
    omega
  · have e : (5 * (61 + d - 1) + 2) / 153 = 2 := by omega
    omega
  · have e : (5 * (92 + d - 1) + 2) / 153 = 3 := by omega
    omega
  · have e : (5 * (122 + d - 1) + 2) / 153 = 4 := by omega
    omega
  · have e : (5 * (153 + d - 1) + 2) / 153 = 5 := by omega
    omega
  · have e : (5 * (184 + d - 1) + 2) / 153 = 6 := by omega
    omega
  · have e : (5 * (214 + d - 1) + 2) / 153 = 7 := by omega
    omega
  · have e : (5 * (245 + d - 1) + 2) / 153 = 8 := by omega
    omega
  · have e : (5 * (275 + d - 1) + 2) / 153 = 9 := by omega
    omega
theorem ca_year_uniq {Y q Y' q' : Int} (h : ca_fm Y + q = ca_fm Y' + q') (h1 : 0 ≤ q) (h2 : q < 365 + ca_L (Y + 1)) (h1' : 0 ≤ q') (h2' : q' < 365 + ca_L (Y' + 1)) : Y = Y' ∧ q = q' := by
  have s1 := ca_step Y
  have s2 := ca_step Y'
  rcases Int.lt_trichotomy Y Y' with h3 | h3 | h3
  · have := ca_mono (show Y + 1 ≤ Y' by omega)
    omega
  · subst h3
    exact ⟨rfl, by omega⟩
  · have := ca_mono (show Y' + 1 ≤ Y by omega)
    omega
/-- a count is one day alone -/
theorem ca_uniq {n y m d y' m' d' : Int} (h : IsD n y m d) (h' : IsD n y' m' d') : y = y' ∧ m = m' ∧ d = d' := by
  obtain ⟨Y, q, a1, a2, a3, a4, a5, a6⟩ := ca_md h
  obtain ⟨Y', q', b1, b2, b3, b4, b5, b6⟩ := ca_md h'
  obtain ⟨rfl, rfl⟩ := ca_year_uniq (a1.symm.trans b1) a2 a3 b2 b3
  have hm : m = m' := a4.trans b4.symm
  subst hm
  exact ⟨by omega, rfl, a5.trans b5.symm⟩
/-- the day out of its place q in the March year Y -/
theorem ca_mk {n Y q mm m dd : Int} (h : n + 719468 = ca_fm Y + q) (h1 : 0 ≤ q) (h2 : q < 365 + ca_L (Y + 1)) (hmm : mm = (5 * q + 2) / 153) (hm : m = (mm + 2) % 12 + 1) (hd : dd = q - ca_off m + 1) : IsD n (Y + mm / 10) m dd := by
  have hL := ca_L01 (Y + 1)
  have e0 : (Y + 1 - 1 : Int) = Y := by omega
  have m1 : 1 ≤ m := by omega
  have m2 : m ≤ 12 := by omega
  refine ⟨m1, m2, ?_⟩
  rcases ca_tab (ca_L (Y + mm / 10)) (Y + mm / 10) m1 m2 with g | g | g | g | g | g | g | g | g | g | g | g <;> obtain ⟨g1, g2, g3, -, g5⟩ := g <;> rw [g3, g2, g5] <;> rw [g2] at hd
  · have e1 : Y + mm / 10 = Y + 1 := by omega
    rw [e1, e0]
    omega
  · have e1 : Y + mm / 10 = Y + 1 := by omega
    rw [e1, e0]
    omega
  · have e1 : Y + mm / 10 = Y := by omega
    rw [e1]
    omega
  · have e1 : Y + mm / 10 = Y := by omega
    rw [e1]
    omega
  · have e1 : Y + mm / 10 = Y := by omega
    rw [e1]
    omega
  · have e1 : Y + mm / 10 = Y := by omega
    rw [e1]
    omega
  · have e1 : Y + mm / 10 = Y := by omega
    rw [e1]
    omega
  · have e1 : Y + mm / 10 = Y := by omega
    rw [e1]
    omega
  · have e1 : Y + mm / 10 = Y := by omega
    rw [e1]
    omega
  · have e1 : Y + mm / 10 = Y := by omega
    rw [e1]
    omega
  · have e1 : Y + mm / 10 = Y := by omega
    rw [e1]
    omega
  · have e1 : Y + mm / 10 = Y := by omega
    rw [e1]
    omega
/-- the code's own way to the day of the month -/
theorem ca_dom {q mm m : Int} (h1 : 0 ≤ q) (h2 : q ≤ 365) (hmm : mm = (5 * q + 2) / 153) (hm : m = (mm + 2) % 12 + 1) : (mm * 306 + 5) / 10 = ca_off m ∧ (153 * mm + 2) / 5 = ca_off m ∧ 0 ≤ mm ∧ mm ≤ 11 := by
  have m1 : 1 ≤ m := by omega
  have m2 : m ≤ 12 := by omega
  rcases ca_tab 0 0 m1 m2 with g | g | g | g | g | g | g | g | g | g | g | g <;> omega
/-- the next day -/
theorem ca_next1 {n y m d : Int} (h : IsD n y m d) (hd : d < ca_ln (ca_L y) m) : IsD (n + 1) y m (d + 1) := by
  obtain ⟨h1, h2, h3, h4, h5⟩ := h
  exact ⟨h1, h2, by omega, by omega, by omega⟩
theorem ca_next2 {n y m d : Int} (h : IsD n y m d) (hd : ¬ d < ca_ln (ca_L y) m) (hm : m < 12) : IsD (n + 1) y (m + 1) 1 := by
  obtain ⟨h1, h2, h3, h4, h5⟩ := h
  have s := ca_step (y - 1)
  have e0 : (y - 1 + 1 : Int) = y := by omega
  rw [e0] at s
  have hL := ca_L01 y
  refine ⟨by omega, by omega, by omega, ?_⟩
  have b := ca_tab (ca_L y) y (m := m + 1) (by omega) (by omega)
  rcases ca_tab (ca_L y) y h1 h2 with g | g | g | g | g | g | g | g | g | g | g | g <;> obtain ⟨g1, g2, g3, -, g5⟩ := g <;> rw [g2, g5] at h5 <;> rw [g3] at h4 hd <;> rcases b with b | b | b | b | b | b | b | b | b | b | b | b <;> obtain ⟨b1, b2, b3, -, b5⟩ := b <;> first | (exfalso; omega) | (rw [b2, b3, b5]; omega)
theorem ca_next3 {n y m d : Int} (h : IsD n y m d) (hd : ¬ d < ca_ln (ca_L y) m) (hm : ¬ m < 12) : IsD (n + 1) (y + 1) 1 1 := by
  obtain ⟨h1, h2, h3, h4, h5⟩ := h
  have e0 : (y + 1 - 1 : Int) = y := by omega
  have m12 : m = 12 := by omega
  subst m12
  have g2 : ca_off 12 = 275 := rfl
  have g3 : ca_ln (ca_L y) 12 = 31 := rfl
  have g5 : ca_Y y 12 = y := rfl
  have b2 : ca_off 1 = 306 := rfl
  have b3 : ca_ln (ca_L (y + 1)) 1 = 31 := rfl
  have b5 : ca_Y (y + 1) 1 = y := by show y + 1 - 1 = y; omega
  refine ⟨by omega, by omega, by omega, ?_⟩
  rw [g2, g5] at h5
  rw [g3] at h4 hd
  rw [b2, b3, b5]
  omega
theorem ca_cum1 {L m : Int} (h1 : 1 ≤ m) (h2 : m < 12) : ca_cum L (m + 1) = ca_cum L m + ca_ln L m := by
  have b := ca_tab L 0 (m := m + 1) (by omega) (by omega)
  rcases ca_tab L 0 h1 (show m ≤ 12 by omega) with g | g | g | g | g | g | g | g | g | g | g | g <;> obtain ⟨g1, -, g3, g4, -⟩ := g <;> rw [g3, g4] <;> rcases b with b | b | b | b | b | b | b | b | b | b | b | b <;> obtain ⟨b1, -, -, b4, -⟩ := b <;> first | (exfalso; omega) | (rw [b4]; omega)
/-- days from January 1 of 1970 to January 1 of the year -/
theorem ca_first {n y m d : Int} (h : IsD n y m d) : n - (365 * (y - 1) + (y - 1) / 4 - (y - 1) / 100 + (y - 1) / 400 - 719162) + 1 = ca_cum (ca_L y) m + d := by
  obtain ⟨h1, h2, h3, h4, h5⟩ := h
  have s := ca_step (y - 1)
  have e0 : (y - 1 + 1 : Int) = y := by omega
  rw [e0] at s
  have hf : ca_fm (y - 1) = 365 * (y - 1) + (y - 1) / 4 - (y - 1) / 100 + (y - 1) / 400 := rfl
  rcases ca_tab (ca_L y) y h1 h2 with g | g | g | g | g | g | g | g | g | g | g | g <;> obtain ⟨g1, g2, -, g4, g5⟩ := g <;> rw [g2, g5] at h5 <;> rw [g4] <;> omega
/-- bounds: the calendar's years and its counts -/
theorem ca_bnd {n y m d : Int} (h : IsD n y m d) (h1 : -365243219162 ≤ n) (h2 : n ≤ 365241780471) : -999999999 ≤ y ∧ y ≤ 999999999 := by
  obtain ⟨Y, q, a1, a2, a3, a4, a5, a6⟩ := ca_md h
  have hL := ca_L01 (Y + 1)
  have hy : y = Y ∨ (y = Y + 1 ∧ 306 ≤ q) := by omega
  have hy2 : 306 ≤ q → y = Y + 1 := fun h => by omega
  constructor
  · by_cases hc : -999999999 ≤ y
    · exact hc
    · have h3 : Y ≤ -1000000000 := by omega
      have h4 := ca_mono h3
      have h5 : ca_fm (-1000000000) = -365242500000 := by decide +kernel
      by_cases h6 : 306 ≤ q
      · have h7 : Y ≤ -1000000001 := by have := hy2 h6; omega
        have h8 := ca_mono h7
        have h9 : ca_fm (-1000000001) = -365242500366 := by decide +kernel
        omega
      · omega
  · by_cases hc : y ≤ 999999999
    · exact hc
    · by_cases h3 : 1000000000 ≤ Y
      · have h4 := ca_mono h3
        have h5 : ca_fm 1000000000 = 365242500000 := by decide +kernel
        omega
      · have h3 : 999999999 ≤ Y := by omega
        have h4 := ca_mono h3
        have h5 : ca_fm 999999999 = 365242499634 := by decide +kernel
        omega
/-- the law's own civil day: the place in the cycle of 400 years -/
theorem ca_yoe {z Q : Int} (h1 : 0 ≤ z) (h2 : z ≤ 146096) (hq : Q = (z - z / 1460 + z / 36524 - z / 146096) / 365) : ca_fm Q ≤ z ∧ z < ca_fm (Q + 1) ∧ 0 ≤ Q ∧ Q ≤ 399 := by
  obtain ⟨a, b, c, d, e, hb, hc, hd⟩ := ca_dec ((400 * z + 591) / 146097)
  have hest := ca_est (z := z) rfl
  -- the year Y that holds z
  have hY : ∃ Y : Int, ca_fm Y ≤ z ∧ z < ca_fm (Y + 1) ∧ 0 ≤ Y ∧ Y ≤ 399 := by
    by_cases h : ca_fm ((400 * z + 591) / 146097) ≤ z
    · refine ⟨_, h, hest.1, by omega, ?_⟩
      by_cases h9 : (400 * z + 591) / 146097 ≤ 399
      · exact h9
      · have h8 := ca_mono (show (400 : Int) ≤ (400 * z + 591) / 146097 by omega)
        have h7 : ca_fm 400 = 146097 := by decide +kernel
        omega
    · refine ⟨(400 * z + 591) / 146097 - 1, hest.2, ?_, ?_, by omega⟩
      · have : ((400 * z + 591) / 146097 - 1 + 1 : Int) = (400 * z + 591) / 146097 := by omega
        rw [this]; omega
      · by_cases h9 : 1 ≤ (400 * z + 591) / 146097
        · omega
        · have h8 : (400 * z + 591) / 146097 = 0 := by omega
          rw [h8] at h
          have h7 : ca_fm 0 = 0 := by decide +kernel
          omega
  clear e hb hc hd hest
  obtain ⟨Y, y1, y2, y3, y4⟩ := hY
  have hQY : Q = Y := by
    obtain ⟨a, b, c, d, e, hb, hc, hd⟩ := ca_dec Y
    have ha : a = 0 := by omega
    subst ha
    have s := ca_step Y
    have hf := ca_fm4 (a := 0) hb hc hd
    rw [← e] at hf
    rw [hf] at y1 s
    rw [s] at y2
    have hL : ca_L (Y + 1) = 1 → d = 3 ∧ (c ≠ 24 ∨ b = 3) := fun h => by
      have := ca_L1.mp h
      omega
    have hL0 := ca_L01 (Y + 1)
    have hb4 : b = 0 ∨ b = 1 ∨ b = 2 ∨ b = 3 := by omega
    have hd4 : d = 0 ∨ d = 1 ∨ d = 2 ∨ d = 3 := by omega
    clear hf s
    generalize ca_L (Y + 1) = L at hL hL0 y2
    have key : z = 146096 ∨ (z / 146096 = 0 ∧ z / 36524 = b ∧ ((z / 1460 = 25 * b + c ∧ 24 * b + c + (z - 36524 * b - 1461 * c) < 1460) ∨ (z / 1460 = 25 * b + c + 1 ∧ 1460 ≤ 24 * b + c + (z - 36524 * b - 1461 * c)))) := by
      rcases hb4 with h | h | h | h <;> rcases hd4 with g | g | g | g <;> omega
    rcases key with hz | ⟨k1, k2, ⟨k3, k4⟩ | ⟨k3, k4⟩⟩
    · have hQ : Q = 399 := by rw [hq, hz]; decide +kernel
      rcases hb4 with h | h | h | h <;> rcases hd4 with g | g | g | g <;> omega
    · rw [k1, k2, k3] at hq
      have b1 : 365 * Y ≤ z - (25 * b + c) + b - 0 := by omega
      have b2 : z - (25 * b + c) + b - 0 < 365 * Y + 365 := by
        rcases hL0 with h | h
        · omega
        · have := hL h
          omega
      omega
    · rw [k1, k2, k3] at hq
      have b1 : 365 * Y ≤ z - (25 * b + c + 1) + b - 0 := by omega
      have b2 : z - (25 * b + c + 1) + b - 0 < 365 * Y + 365 := by omega
      omega
  rw [hQY]
  exact ⟨y1, y2, y3, y4⟩
theorem ca_D0 : IsD 0 1970 1 1 := by
  refine ⟨by decide, by decide, by decide, ?_, ?_⟩ <;> decide +kernel
theorem ca_Dmin : IsD (-365243219162) (-999999999) 1 1 := by
  refine ⟨by decide, by decide, by decide, ?_, ?_⟩ <;> decide +kernel
theorem ca_Dmax : IsD 365241780471 999999999 12 31 := by
  refine ⟨by decide, by decide, by decide, ?_, ?_⟩ <;> decide +kernel
/-- the count back, out of the day: years from 0 on -/
theorem ca_back {n y m d t y4 y100 y400 : Int} (h : IsD n y m d) (hp : 0 ≤ y → y4 = (y + 3) / 4 ∧ y100 = (y + 99) / 100 ∧ y400 = (y + 399) / 400) (hn : y < 0 → y4 = -((-y) / 4) ∧ y100 = -((-y) / 100) ∧ y400 = -((-y) / 400)) (ht : t = 365 * y + (y4 - y100 + y400) + (367 * m - 362) / 12 + (d - 1) - (if m > 2 then (if ca_L y = 1 then 1 else 2) else 0)) : t - 719528 = n := by
  have e4 : y4 = (y + 3) / 4 := by
    by_cases h0 : 0 ≤ y
    · exact (hp h0).1
    · have := (hn (by omega)).1
      omega
  have e100 : y100 = (y + 99) / 100 := by
    by_cases h0 : 0 ≤ y
    · exact (hp h0).2.1
    · have := (hn (by omega)).2.1
      omega
  have e400 : y400 = (y + 399) / 400 := by
    by_cases h0 : 0 ≤ y
    · exact (hp h0).2.2
    · have := (hn (by omega)).2.2
      omega
  clear hp hn
  obtain ⟨h1, h2, h3, h4, h5⟩ := h
  have s := ca_step (y - 1)
  have e0 : (y - 1 + 1 : Int) = y := by omega
  rw [e0] at s
  have hf : ca_fm (y - 1) = 365 * (y - 1) + (y - 1) / 4 - (y - 1) / 100 + (y - 1) / 400 := rfl
  have hL := ca_L01 y
  clear h4
  have ht2 : t = 365 * y + (y4 - y100 + y400) + (367 * m - 362) / 12 + (d - 1) - (if m > 2 then 2 - ca_L y else 0) := by
    rw [ht]
    rcases hL with q | q <;> rw [q] <;> simp
  clear ht
  rcases ca_tab (ca_L y) y h1 h2 with g | g | g | g | g | g | g | g | g | g | g | g <;> obtain ⟨g1, g2, -, -, g5⟩ := g <;> rw [g2, g5] at h5 <;> first | rw [if_neg (by omega)] at ht2 | rw [if_pos (by omega)] at ht2
  all_goals omega
end
section
/-! ROWS OF OUR OWN: the constants that stand from the start, reads of them, calls of methods that only read -/
set_option maxRecDepth 100000
def fF : Nat → Prop := fun _ => False
abbrev vwC : List vw_C := [(RX1, TX1, 1), (RX5, TX5, 3)]
def mvF (F : State → Heap → Prop) : Prop := ∀ (u U : State) (H : Heap), u.vm.Alike U.vm → F u H → F U H
/-- a ValueRange at q -/
def fVR (q : Nat) (lo hi : Int64) (A : Nat → Prop) (U : State) (H : Heap) : Prop := va_O "ValueRange" q A U H ∧ va_OF "ValueRange" "minSmallest" "J" (.long lo) q A U H ∧ va_OF "ValueRange" "maxLargest" "J" (.long hi) q A U H
/-- a ChronoField at q with its range at r -/
def fCF (q r : Nat) (lo hi : Int64) (A : Nat → Prop) (U : State) (H : Heap) : Prop := va_O "ChronoField" q A U H ∧ va_OF "ChronoField" "range" "LValueRange;" (.ref r) q A U H ∧ fVR r lo hi A U H
/-- the month of the place j -/
def fMo (q j : Nat) (A : Nat → Prop) (U : State) (H : Heap) : Prop := va_O "Month" q A U H ∧ va_OF "java/lang/Enum" "ordinal" "I" (.int (nI j)) q A U H
/-- all constants -/
def cst (k : Nat → Nat) (A : Nat → Prop) (U : State) (H : Heap) : Prop :=
  (va_Z "ChronoField" "EPOCH_DAY" "LChronoField;" (.ref (k 0)) A U H ∧ fCF (k 0) (k 1) (-365243219162) 365241780471 A U H) ∧ (va_Z "ChronoField" "YEAR" "LChronoField;" (.ref (k 2)) A U H ∧ fCF (k 2) (k 3) (-999999999) 999999999 A U H) ∧
  (va_Z "IsoChronology" "INSTANCE" "LIsoChronology;" (.ref (k 4)) A U H ∧ va_O "IsoChronology" (k 4) A U H) ∧
  (va_Z "Month" "ENUMS" "[LMonth;" (.ref (k 5)) A U H ∧ va_T (.object "Month") (k 5) 12 (fun j => .ref (k (6 + j))) A U H) ∧ ∀ j, j < 12 → fMo (k (6 + j)) j A U H
/-- a LocalDate at q -/
def fLD (q : Nat) (y m d : Int32) (A : Nat → Prop) (U : State) (H : Heap) : Prop := va_O "LocalDate" q A U H ∧ va_OF "LocalDate" "year" "I" (.int y) q A U H ∧ va_OF "LocalDate" "month" "S" (.int m) q A U H ∧ va_OF "LocalDate" "day" "S" (.int d) q A U H
/-- a DayCount at h whose day stands at q -/
def fDC (h q : Nat) (y m d : Int32) (A : Nat → Prop) (U : State) (H : Heap) : Prop := (va_O "DayCount" h A U H ∧ va_OF "DayCount" "day" "LLocalDate;" (.ref q) h A U H) ∧ fLD q y m d A U H
/-- what the methods of LocalDate, of DayCount ask -/
def fCL (k : Nat → Nat) (q : Nat) (y m d : Int32) (U : State) (H : Heap) : Prop := cst k fF U H ∧ fLD q y m d fF U H
def fCD (k : Nat → Nat) (h q : Nat) (y m d : Int32) (U : State) (H : Heap) : Prop := cst k fF U H ∧ fDC h q y m d fF U H
def fNo (_ : State) (_ : Heap) : Prop := True
theorem fNo_mv : mvF fNo := fun _ _ _ _ _ => trivial
theorem fVR_mv {q : Nat} {lo hi : Int64} {A : Nat → Prop} : mvF (fVR q lo hi A) := fun _ _ _ hv h => ⟨h.1.moved hv, h.2.1.moved hv, h.2.2.moved hv⟩
theorem fCF_mv {q r : Nat} {lo hi : Int64} {A : Nat → Prop} : mvF (fCF q r lo hi A) := fun _ _ _ hv h => ⟨h.1.moved hv, h.2.1.moved hv, fVR_mv _ _ _ hv h.2.2⟩
theorem fMo_mv {q j : Nat} {A : Nat → Prop} : mvF (fMo q j A) := fun _ _ _ hv h => ⟨h.1.moved hv, h.2.moved hv⟩
theorem cst_mv {k : Nat → Nat} {A : Nat → Prop} : mvF (cst k A) := fun _ _ _ hv h => ⟨⟨h.1.1.moved hv, fCF_mv _ _ _ hv h.1.2⟩, ⟨h.2.1.1.moved hv, fCF_mv _ _ _ hv h.2.1.2⟩, ⟨h.2.2.1.1.moved hv, h.2.2.1.2.moved hv⟩, ⟨h.2.2.2.1.1.moved hv, h.2.2.2.1.2.moved hv⟩, fun j hj => fMo_mv _ _ _ hv (h.2.2.2.2 j hj)⟩
theorem fLD_mv {q : Nat} {y m d : Int32} {A : Nat → Prop} : mvF (fLD q y m d A) := fun _ _ _ hv h => ⟨h.1.moved hv, h.2.1.moved hv, h.2.2.1.moved hv, h.2.2.2.moved hv⟩
theorem fDC_mv {h q : Nat} {y m d : Int32} {A : Nat → Prop} : mvF (fDC h q y m d A) := fun _ _ _ hv g => ⟨⟨g.1.1.moved hv, g.1.2.moved hv⟩, fLD_mv _ _ _ hv g.2⟩
theorem fCL_mv {k : Nat → Nat} {q : Nat} {y m d : Int32} : mvF (fCL k q y m d) := fun _ _ _ hv h => ⟨cst_mv _ _ _ hv h.1, fLD_mv _ _ _ hv h.2⟩
theorem fCD_mv {k : Nat → Nat} {h q : Nat} {y m d : Int32} : mvF (fCD k h q y m d) := fun _ _ _ hv g => ⟨cst_mv _ _ _ hv g.1, fDC_mv _ _ _ hv g.2⟩
section KEPT
variable {A B : Nat → Prop} {U : State} {H H1 : Heap}
theorem fVR_kept {q : Nat} {lo hi : Int64} (h : fVR q lo hi A U H) (hq : ∀ a : Nat, a < H.size → ¬ A a → H1[a]? = H[a]?) : fVR q lo hi A U H1 := ⟨h.1.kept hq, h.2.1.kept hq, h.2.2.kept hq⟩
theorem fCF_kept {q r : Nat} {lo hi : Int64} (h : fCF q r lo hi A U H) (hq : ∀ a : Nat, a < H.size → ¬ A a → H1[a]? = H[a]?) : fCF q r lo hi A U H1 := ⟨h.1.kept hq, h.2.1.kept hq, fVR_kept h.2.2 hq⟩
theorem fMo_kept {q j : Nat} (h : fMo q j A U H) (hq : ∀ a : Nat, a < H.size → ¬ A a → H1[a]? = H[a]?) : fMo q j A U H1 := ⟨h.1.kept hq, h.2.kept hq⟩
theorem cst_kept {k : Nat → Nat} (h : cst k A U H) (hq : ∀ a : Nat, a < H.size → ¬ A a → H1[a]? = H[a]?) : cst k A U H1 := ⟨⟨h.1.1.kept hq, fCF_kept h.1.2 hq⟩, ⟨h.2.1.1.kept hq, fCF_kept h.2.1.2 hq⟩, ⟨h.2.2.1.1.kept hq, h.2.2.1.2.kept hq⟩, ⟨h.2.2.2.1.1.kept hq, h.2.2.2.1.2.kept hq⟩, fun j hj => fMo_kept (h.2.2.2.2 j hj) hq⟩
theorem fLD_kept {q : Nat} {y m d : Int32} (h : fLD q y m d A U H) (hq : ∀ a : Nat, a < H.size → ¬ A a → H1[a]? = H[a]?) : fLD q y m d A U H1 := ⟨h.1.kept hq, h.2.1.kept hq, h.2.2.1.kept hq, h.2.2.2.kept hq⟩
theorem fDC_kept {h q : Nat} {y m d : Int32} (g : fDC h q y m d A U H) (hq : ∀ a : Nat, a < H.size → ¬ A a → H1[a]? = H[a]?) : fDC h q y m d A U H1 := ⟨⟨g.1.1.kept hq, g.1.2.kept hq⟩, fLD_kept g.2 hq⟩
theorem fVR_narrow {q : Nat} {lo hi : Int64} (h : fVR q lo hi A U H) (hq : ∀ a : Nat, B a → A a) : fVR q lo hi B U H := ⟨h.1.narrow hq, h.2.1.narrow hq, h.2.2.narrow hq⟩
theorem fCF_narrow {q r : Nat} {lo hi : Int64} (h : fCF q r lo hi A U H) (hq : ∀ a : Nat, B a → A a) : fCF q r lo hi B U H := ⟨h.1.narrow hq, h.2.1.narrow hq, fVR_narrow h.2.2 hq⟩
theorem fMo_narrow {q j : Nat} (h : fMo q j A U H) (hq : ∀ a : Nat, B a → A a) : fMo q j B U H := ⟨h.1.narrow hq, h.2.narrow hq⟩
theorem cst_narrow {k : Nat → Nat} (h : cst k A U H) (hq : ∀ a : Nat, B a → A a) : cst k B U H := ⟨⟨h.1.1.narrow hq, fCF_narrow h.1.2 hq⟩, ⟨h.2.1.1.narrow hq, fCF_narrow h.2.1.2 hq⟩, ⟨h.2.2.1.1.narrow hq, h.2.2.1.2.narrow hq⟩, ⟨h.2.2.2.1.1.narrow hq, h.2.2.2.1.2.narrow hq⟩, fun j hj => fMo_narrow (h.2.2.2.2 j hj) hq⟩
theorem fLD_narrow {q : Nat} {y m d : Int32} (h : fLD q y m d A U H) (hq : ∀ a : Nat, B a → A a) : fLD q y m d B U H := ⟨h.1.narrow hq, h.2.1.narrow hq, h.2.2.1.narrow hq, h.2.2.2.narrow hq⟩
theorem fDC_narrow {h q : Nat} {y m d : Int32} (g : fDC h q y m d A U H) (hq : ∀ a : Nat, B a → A a) : fDC h q y m d B U H := ⟨⟨g.1.1.narrow hq, g.1.2.narrow hq⟩, fLD_narrow g.2 hq⟩
theorem fF_no (A : Nat → Prop) : ∀ a : Nat, fF a → A a := fun _ h => h.elim
end KEPT
section CGET
variable {p : Program} {l : Launch} {e : Env} {R : Room} {s : State} {m : MethodId} {args : Array Value} {below : List Frame} {meth : Method} {c : Code} {H : Heap} {locs : List Loc} {cells slots : Nat} {Q : State → Prop}
variable {cc : ByteArray} {pc : Nat} {ls : Array Slot} {rest : List Value} {A : Nat → Prop}
theorem cs_get (hexec : p.tables.exec = Jvm.exec) (hb : c.code = cc) {o n d own ref : String} {v : Value} {t index : Nat} (hO : va_OF o n d v t A s H) (hown : s.vm.findClass own = some m.cls) (hlink : (Cond.fieldLink own index ref n d).before args s = true) (hsame : ∀ x, s.fieldFound? o n d = some x → s.fieldFound? ref n d = some x) (hdg : decode cc pc = .ok (.getfield index, 3))
    (kk : W p l e R s m args below meth c H locs cells slots Q (F0 m (pc + 3) ls (v :: rest))) : W p l e R s m args below meth c H locs cells slots Q (F0 m pc ls (.ref t :: rest)) := by
  obtain ⟨cf, k, fi, f, cell, h1, h2, h3, h4, h5, h6⟩ := hO
  exact W.getf hexec hb hown hlink (hsame _ h1) h2 h3 h4 (v := v) h5 rfl rfl hdg kk
theorem cs_gets (hexec : p.tables.exec = Jvm.exec) (hb : c.code = cc) {C n d own ref : String} {v : Value} {index : Nat} (hZ : va_Z C n d v A s H) (hown : s.vm.findClass own = some m.cls) (hlink : (Cond.fieldLink own index ref n d).before args s = true) (hsame : ∀ x, s.fieldFound? C n d = some x → s.fieldFound? ref n d = some x) (hdg : decode cc pc = .ok (.getstatic index, 3))
    (kk : W p l e R s m args below meth c H locs cells slots Q (F0 m (pc + 3) ls (v :: rest))) : W p l e R s m args below meth c H locs cells slots Q (F0 m pc ls rest) := by
  obtain ⟨cf, kf, fi, f, a, cell, h1, h2, h3, h4, h5, h6, h7, h8⟩ := hZ
  exact W.gets hexec hb hown hlink (hsame _ h1) h2 h3 h4 h5 (fun e => by rw [e] at h6; cases h6) h7 rfl hdg kk
theorem cs_aald (hexec : p.tables.exec = Jvm.exec) (hb : c.code = cc) {C : String} {t N : Nat} {f : Nat → Value} (hT : va_T (.object C) t N f A s H) {i : Int32} (hin : vp_in i N) {v : Value} (hv : f i.toNatClampNeg = v) (hdg : decode cc pc = .ok (.aaload, 1))
    (kk : W p l e R s m args below meth c H locs cells slots Q (F0 m (pc + 1) ls (v :: rest))) : W p l e R s m args below meth c H locs cells slots Q (F0 m pc ls (.int i :: .ref t :: rest)) := by
  obtain ⟨cell, h1, h2, h3, h4, h5, h6, h7⟩ := hT
  have hlt : i.toNatClampNeg < N := Nat.not_le.mp fun q => hin (Or.inr q)
  have hin' : ¬ (i < 0 ∨ cell.slots.size ≤ i.toNatClampNeg) := by
    intro q
    rcases q with q | q
    · exact hin (Or.inl q)
    · omega
  exact W.aald (v := v) hexec hb h1 h2 rfl h3 hin' (by rw [h6 _ hlt, hv]) rfl rfl hdg kk
/-- a place where ways meet -/
theorem w_cut {α : Type} {g0 : JFrame} (I : α → Array Slot → Prop) (g : α → Array Slot → JFrame) (hj : ∀ (a : α) (ls : Array Slot), I a ls → W p l e R s m args below meth c H locs cells slots Q (g a ls)) (k : (∀ (a : α) (ls : Array Slot), I a ls → W p l e R s m args below meth c H locs cells slots Q (g a ls)) → W p l e R s m args below meth c H locs cells slots Q g0) : W p l e R s m args below meth c H locs cells slots Q g0 := k hj
theorem cs_recv {E : String} {t : Nat} (h : va_O E t A s H) : ∃ cell : Cell, H[t]? = some cell ∧ cell.vm.isStatics = false ∧ s.vm.findClass E = some cell.cls := by
  obtain ⟨cell, h1, h2, h3, -⟩ := h
  exact ⟨cell, h1, h2, h3⟩
end CGET
theorem pS_start {F : State → Heap → Prop} {s : State} {H : Heap} {As : List Value} (hm : mvF F) (hF : F s H) : PreS s H (va_Pc As (fun U => F U U.heap)) As :=
  ⟨fun a U g mk q => ⟨q.1, hm U (U.calling g mk a) U.heap (Vm.Alike.refl U.vm) q.2⟩, fun U hU hW => ⟨rfl, by show F U U.heap; rw [hU]; exact hm s U H hW.alike hF⟩⟩
theorem pV_start {F : State → Heap → Prop} {s : State} {H : Heap} {C : String} {b : Nat} {As : List Value} (hm : mvF F) (hr : ∃ cell : Cell, H[b]? = some cell ∧ cell.vm.isStatics = false ∧ s.vm.findClass C = some cell.cls) (hF : F s H) : PreV s H C b (va_Pc (.ref b :: As) (fun U => F U U.heap)) As :=
  ⟨(pS_start (As := .ref b :: As) hm hF).1, hr, (pS_start (As := .ref b :: As) hm hF).2⟩
/-- what a method that makes or changes cells asks at its start: its world ws, the constants, and X -/
def al (D : va_G) (k : Nat → Nat) (ws : va_W) (sz : Nat) (X : (Nat → Prop) → State → Heap → Prop) (U : State) : Prop := U.heap.size = sz ∧ va_P D vwC ws U.heap ∧ va_K D vwC [] U ∧ va_D (fun _ => True) ws ∧ cst k (va_A ws sz) U U.heap ∧ X (va_A ws sz) U U.heap
def xT (_ : Nat → Prop) (_ : State) (_ : Heap) : Prop := True
theorem xT_mv (A : Nat → Prop) : mvF (xT A) := fun _ _ _ _ _ => trivial
/-- the script, that no cell of ours is -/
def xX (b L : Nat) (xs : Nat → Int32) (A : Nat → Prop) (U : State) (H : Heap) : Prop := va_X b L xs U H ∧ ¬ A b ∧ b < H.size
theorem xX_mv (b L : Nat) (xs : Nat → Int32) (A : Nat → Prop) : mvF (xX b L xs A) := fun _ _ _ hv h => ⟨h.1.moved hv, h.2⟩
def fX (b L : Nat) (xs : Nat → Int32) (U : State) (H : Heap) : Prop := va_X b L xs U H
theorem fX_mv {b L : Nat} {xs : Nat → Int32} : mvF (fX b L xs) := fun _ _ _ hv h => h.moved hv
theorem aS_start {D : va_G} {k : Nat → Nat} {tys : List (ClassId × FieldType)} {A : Nat → Prop} {wc : va_W} {X : (Nat → Prop) → State → Heap → Prop} {s : State} {H : Heap} {As : List Value} (hm : ∀ A, mvF (X A)) (hP : va_P D vwC wc H) (hK : va_K D vwC tys s) (hD : va_D A wc) (hC : cst k (va_A wc H.size) s H) (hX : X (va_A wc H.size) s H) : PreS s H (va_Pc As (al D k wc H.size X)) As :=
  ⟨fun a U g mk q => ⟨q.1, q.2.1, q.2.2.1, va_K.moved (u := U) (U := U.calling g mk a) (Vm.Alike.refl U.vm) q.2.2.2.1, q.2.2.2.2.1, cst_mv U (U.calling g mk a) U.heap (Vm.Alike.refl U.vm) q.2.2.2.2.2.1, hm _ U (U.calling g mk a) U.heap (Vm.Alike.refl U.vm) q.2.2.2.2.2.2⟩,
   fun U hU hW => ⟨rfl, by rw [hU], by rw [hU]; exact hP, va_K.moved hW.alike (hK.sub [] rfl), hD.weaken (fun _ _ _ _ => trivial), by rw [hU]; exact cst_mv s U H hW.alike hC, by rw [hU]; exact hm _ s U H hW.alike hX⟩⟩
theorem aV_start {D : va_G} {k : Nat → Nat} {tys : List (ClassId × FieldType)} {A : Nat → Prop} {wc : va_W} {X : (Nat → Prop) → State → Heap → Prop} {s : State} {H : Heap} {C : String} {b : Nat} {As : List Value} (hm : ∀ A, mvF (X A)) (hr : ∃ cell : Cell, H[b]? = some cell ∧ cell.vm.isStatics = false ∧ s.vm.findClass C = some cell.cls) (hP : va_P D vwC wc H) (hK : va_K D vwC tys s) (hD : va_D A wc) (hC : cst k (va_A wc H.size) s H) (hX : X (va_A wc H.size) s H) : PreV s H C b (va_Pc (.ref b :: As) (al D k wc H.size X)) As :=
  ⟨(aS_start (As := .ref b :: As) hm hP hK hD hC hX).1, hr, (aS_start (As := .ref b :: As) hm hP hK hD hC hX).2⟩
/-- a cell of a world, as a fact -/
theorem of_cell {D : va_G} {cl : List vw_C} {tys : List (ClassId × FieldType)} {ws : va_W} {s : State} {H : Heap} {args : Array Value} {C : String} {T : u_T} {N ci a : Nat} {fs : List Value} {Ts : List Cond} (hts : ∀ w ∈ Ts, w.before args s = true) (hin : ∀ w ∈ u_ws C T N, w ∈ Ts) (hK : va_K D cl tys s) (hP : va_P D cl ws H) (q0 : Nat) (he : ws[q0]? = some (a, .inr (ci, fs))) (hc : cl[ci]? = some (C, T, N)) (k : Nat) (hk : k < N) {v : Value} (hv : fs[k]? = some v) {A : Nat → Prop} (hA : ¬ A a) : va_OF (T k).1 (T k).2.1 (T k).2.2.1 v a A s H := by
  obtain ⟨r, h1, cell, q1, q2, q3, q4⟩ := hP q0 _ he
  have hr : r = (C, T, N) := Option.some.inj (h1.symm.trans hc)
  subst hr
  obtain ⟨hS, hfc, kC, hkC, hkind⟩ := hK.1 ci _ hc
  obtain ⟨cf, kf, fi, f, hi, hsl⟩ := hS k hk
  refine ⟨cf, kf, fi, f, cell, hi, (u_facts hfc hkC (u_lays hts hin hk) hi).1, q1, by rw [q3]; exact fun h => (by cases h), ?_, hA⟩
  rw [hsl, q4 k hk]
  exact congrArg some (by unfold vp_V; rw [List.getD_eq_getElem?_getD, hv]; rfl)
theorem of_obj {D : va_G} {cl : List vw_C} {tys : List (ClassId × FieldType)} {ws : va_W} {s : State} {H : Heap} {ci a : Nat} {q : vw_C} {fs : List Value} (hK : va_K D cl tys s) (hP : va_P D cl ws H) (q0 : Nat) (he : ws[q0]? = some (a, .inr (ci, fs))) (hc : cl[ci]? = some q) {A : Nat → Prop} (hA : ¬ A a) : va_O q.1 a A s H := by
  obtain ⟨cell, h1, h2, h3⟩ := va_recv hK hP hc he
  exact ⟨cell, h1, h2, h3, hA⟩
theorem ld_cell {D : va_G} {tys : List (ClassId × FieldType)} {ws : va_W} {s : State} {H : Heap} {args : Array Value} {a : Nat} {y m d : Int32} (hts : ∀ w ∈ lw_all, w.before args s = true) (hK : va_K D vwC tys s) (hP : va_P D vwC ws H) (q0 : Nat) (he : ws[q0]? = some (a, .inr (1, [.int y, .int m, .int d]))) {A : Nat → Prop} (hA : ¬ A a) : fLD a y m d A s H :=
  ⟨of_obj (q := (RX5, TX5, 3)) hK hP q0 he rfl hA, of_cell hts in_X5 hK hP q0 he rfl 0 (by decide) rfl hA, of_cell hts in_X5 hK hP q0 he rfl 1 (by decide) rfl hA, of_cell hts in_X5 hK hP q0 he rfl 2 (by decide) rfl hA⟩
theorem dc_cell {D : va_G} {tys : List (ClassId × FieldType)} {ws : va_W} {s : State} {H : Heap} {args : Array Value} {h q : Nat} {y m d : Int32} (hts : ∀ w ∈ lw_all, w.before args s = true) (hK : va_K D vwC tys s) (hP : va_P D vwC ws H) (q0 q1 : Nat) (he : ws[q0]? = some (h, .inr (0, [.ref q]))) (he1 : ws[q1]? = some (q, .inr (1, [.int y, .int m, .int d]))) {A : Nat → Prop} (hA : ¬ A h) (hA1 : ¬ A q) : fDC h q y m d A s H :=
  ⟨⟨of_obj (q := (RX1, TX1, 1)) hK hP q0 he rfl hA, of_cell hts in_X1 hK hP q0 he rfl 0 (by decide) rfl hA⟩, ld_cell hts hK hP q1 he1 hA1⟩
end
section
/-! CALLS OF INSTANCE METHODS OF A TYPE THAT THE TABLES DON'T SAY TO BE INITIALISED (ValueRange: the machine asks no such thing of an instance call). The proofs follow the library's MetFree.of_bodySF, Steps.callFree, Back.of_free with one premise less. -/
def uMet (l : Launch) (y : MethodName) (ws : List Cond) (rm : Room) (Pc : Array Value → State → Prop) (Qc : Array Value → State → Outcome → State → Prop) (mc ms : Nat) (free : Addr → Prop) : Prop :=
  ∀ (p : Program) (e : Env), l.admits e → FairCas e.choices → FairClock e.choices → ∀ (s : State) (m : MethodId) (args : Array Value) (below : List Frame),
    s.frames = .invoking m args :: below → s.status = .running → s.curStatus? = some .runnable → s.alone = true → s.methodNamed? y = some m → s.hears m below = true → s.hasRoom e.platform (headSpec ws rm).room = true → (headSpec ws rm).pre.before args s = true → Pc args s →
    ∃ (n : Nat) (o : Outcome), (∀ k, k < n → Within (stepsAlone p.tables e k s) below) ∧ (stepsAlone p.tables e n s).status = .running ∧ Ended (stepsAlone p.tables e n s) below o ∧ (Qc args s o (stepsAlone p.tables e n s) ∧ ∃ L, FrameEnd s o (stepsAlone p.tables e n s) L mc ms ∧ ∀ q ∈ L, free q.base)
/-- what a walk through such a body may lean on -/
def uBody (p : Program) (y : MethodName) (ws : List Cond) (rm : Room) (cc : ByteArray) (maxL : Nat) (ret : Option FieldType) (s : State) (m : MethodId) (args : Array Value) (meth : Method) (c : Code) : Prop :=
  p.tables.exec = Jvm.exec ∧ c.code = cc ∧ meth.sig.returnType = ret ∧ meth.locks = false ∧ (headSpec ws rm).pre.before args s = true ∧ s.methodNamed? y = some m ∧ c.maxLocals = maxL
theorem uMet.ofW {l : Launch} {y : MethodName} {ws ws' : List Cond} {rm : Room} {Pc : Array Value → State → Prop} {Qc : Array Value → State → Outcome → State → Prop} {mc ms : Nat} {free : Addr → Prop} {cc : ByteArray} {maxL : Nat} {ret : Option FieldType}
    (hy : plainName y.cls = true) (hw : ws = Cond.code y cc maxL ret :: ws')
    (body : ∀ (p : Program) (e : Env) (s : State) (m : MethodId) (args : Array Value) (below : List Frame) (meth : Method) (c : Code), uBody p y ws rm cc maxL ret s m args meth c → Pc args s →
      W p l e (headSpec ws rm).room s m args below meth c s.heap [] 0 0 (MQ below Qc args s mc ms free) (entryFrame m args maxL)) : uMet l y ws rm Pc Qc mc ms free := by
  intro p e ha hc hk s m args below hf hrun hable halone hname hhears hroom hpre hP
  obtain ⟨meth, c, hmeth, hcode, hbytes, hlocals, hret, hlocks, -, -⟩ := Cond.code_spec hname (atoms_spec (ws := ws) hpre _ (by rw [hw]; exact List.mem_cons_self))
  have hcur := State.cur_lt_of_frames hf
  have hf1 : (s.setFrames (.java (entryFrame m args maxL) :: below)).frames = .java (entryFrame m args maxL) :: below :=
    State.frames_setFrames _ hcur
  have ht1 := State.topJava?_of_frames hf1
  have hplain : (s.setFrames (.java (entryFrame m args maxL) :: below)).plainMethod m := State.plainMethod.of_named (s := s) (plainFor_of_name hy) hname hmeth
  have hAt : At (s.setFrames (.java (entryFrame m args maxL) :: below)) m c below :=
    ⟨by rw [ht1]; rfl, ⟨[], by rw [hf1]; rfl⟩, hrun, by simpa using hable, by simpa using halone,
      by rw [State.code?_eq]; simp [State.setFrames, hmeth, hcode], hplain⟩
  have hstep : (stepThread p.tables e s).1 = (s.setFrames (.java (entryFrame m args maxL) :: below)).setTop (entryFrame m args maxL) := by
    have hfull : e.platform.stackFull (s.setFrames below).me (s.setFrames below).frames c.maxLocals = false := by
      obtain ⟨-, h1, -, h2⟩ := State.hasRoom_stack hroom
      rw [hf, List.length_cons] at h1
      rw [State.localsInUse_invoking hf hmeth hcode] at h2
      have hw := stackUse_le_stackWeight below
      rw [State.frames_setFrames _ hcur]
      exact Platform.stackFull_eq_false (by rw [State.stackLimits_setFrames]; omega) (by rw [State.stackLimits_setFrames]; omega)
    rw [stepThread_invoking hf, (doInvoke_java (s := s.setFrames below) (e := e) (meth := meth) (code := c) hmeth hcode hlocks hfull).1, State.setTop_self ht1]
    simp only [State.pushFrame, State.frames_setFrames _ hcur, State.setFrames_setFrames, hlocals, entryFrame]
  have X : Stand p l e (headSpec ws rm).room s m args below meth c (s.setFrames (.java (entryFrame m args maxL) :: below)) [] 0 0 := by
    obtain ⟨t, ht, -⟩ := State.frames_cons hf
    refine ⟨ha, hc, hk, hf, hroom, hhears, hmeth, hcode, hAt, by rw [hf1]; rfl, State.WarmedH.refl s, by rw [State.stackLimits_setFrames], by rw [State.stackBytes_setFrames], ?_⟩
    exact (State.sameButNew.refl s ht).setFrames (.java (entryFrame m args maxL) :: below) hcur
  have hh0 : (s.setFrames (.java (entryFrame m args maxL) :: below)).heap = s.heap := rfl
  obtain ⟨t, a1, o, b1, b2, b3⟩ := body p e s m args below meth c ⟨by cases p <;> rfl, hbytes, hret, hlocks, hpre, hname, hlocals⟩ hP _ hh0 X
  obtain ⟨n, hn, hw⟩ := Steps.head (tb := p.tables) (e := e) ⟨hrun, hable, halone⟩ ⟨[.invoking m args], hf, by simp, by simp⟩ (hstep ▸ a1)
  have b4 := And.intro b3.1 b3.2
  exact ⟨n, o, hw, hn ▸ b1, hn ▸ b2, hn ▸ b4⟩
theorem u_call {l : Launch} {y : MethodName} {ws : List Cond} {rm : Room} {Pc : Array Value → State → Prop} {Qc : Array Value → State → Outcome → State → Prop} {mc ms : Nat} {free : Addr → Prop} {e : Env}
    (hM : uMet l y ws rm Pc Qc mc ms free) (p : Program) (ha : l.admits e) (hc : FairCas e.choices) (hk : FairClock e.choices)
    {s : State} {m : MethodId} {args : Array Value} {acts : List Action} {mid below : List Frame} {t : Thread} (ht : s.threads[s.cur]? = some t)
    (hfr : s.frames = mid ++ below) (hrun : (s.pushFrame (.invoking m args)).status = .running) (hable : (s.pushFrame (.invoking m args)).curStatus? = some .runnable) (halone : (s.pushFrame (.invoking m args)).alone = true) (hname : (s.pushFrame (.invoking m args)).methodNamed? y = some m) (hhears : (s.pushFrame (.invoking m args)).hears m s.frames = true) (hroom : (s.pushFrame (.invoking m args)).hasRoom e.platform (headSpec ws rm).room = true) (hpre : (headSpec ws rm).pre.before args (s.pushFrame (.invoking m args)) = true) (hP : Pc args (s.pushFrame (.invoking m args))) :
    ∃ (o : Outcome) (s₂ : State), Steps p.tables e below (doInvoke e s acts m args).1 s₂ ∧ s₂.status = .running ∧ Ended s₂ s.frames o ∧ (Qc args (s.pushFrame (.invoking m args)) o s₂ ∧ ∃ L, FrameEnd (s.pushFrame (.invoking m args)) o s₂ L mc ms ∧ ∀ q ∈ L, free q.base) := by
  have hlt : s.cur < s.threads.size := (Array.getElem?_eq_some_iff.mp ht).1
  have hf' : (s.pushFrame (.invoking m args)).frames = .invoking m args :: s.frames := State.frames_setFrames _ hlt
  have hgo : (s.pushFrame (.invoking m args)).goesOn := ⟨hrun, hable, halone⟩
  obtain ⟨n, o, hw, hr, he, hp⟩ := hM p e ha hc hk (s.pushFrame (.invoking m args)) m args s.frames hf' hrun hable halone hname hhears hroom hpre hP
  have hstep : (stepThread p.tables e (s.pushFrame (.invoking m args))).1 = (doInvoke e s acts m args).1 := by
    rw [stepThread_invoking hf', doInvoke_state e s acts, State.pushFrame, State.setFrames_setFrames, State.setFrames_self ht]
  cases n with
  | zero => exact absurd ⟨[.invoking m args], hf', by simp, by simp⟩ he.not_within
  | succ k =>
    rw [stepsAlone_succ _ hgo, hstep] at hr he hp
    refine ⟨o, _, ⟨k, rfl, fun j hj => ?_⟩, hr, he, hp⟩
    have := hw (j + 1) (by omega)
    rw [stepsAlone_succ _ hgo, hstep, hfr] at this
    exact this.weaken
theorem u_back {l : Launch} {R : Room} {p : Program} {e : Env} {below : List Frame} {s : State} {sargs : Array Value} {y : MethodName} {len W9 : Nat} {ws : List Cond} {rm : Room} {Pc : Array Value → State → Prop} {Qc : Array Value → State → Outcome → State → Prop} {mc ms : Nat} {free : Addr → Prop} {bytes : ByteArray} {maxL : Nat} {ret : Option FieldType}
    (hM : uMet l y ws rm Pc Qc mc ms free) (hblind : FrameBlind Pc) (hrc : rm.cells = mc) (hrs : rm.slots = ms)
    (hframes : rm.frames + 1 ≤ R.frames) (hlocals : W9 + (maxL + 11) + rm.locals ≤ R.locals)
    (hws : ∀ w ∈ ws, ∀ (a' : Array Value) (U : State), s.WarmedH U.vm → w.before a' U = true) (hcode : Cond.code y bytes maxL ret ∈ ws) :
    Back l R p e below s sargs y len W9 (PreOf R mc ms Pc) (PostOf Qc mc ms free) := by
  intro m meth c A g ig mk a X hg hsize hdg hW hn hp
  have h1 : (headSpec ws rm).pre.before a A.U = true := atoms_intro fun w hw => hws w hw _ _ X.warmed
  have h2 : (Cond.code y bytes maxL ret).before a A.U = true := hws _ hcode _ _ X.warmed
  have h4 : A.cells + (headSpec ws rm).room.cells ≤ R.cells := by rw [show (headSpec ws rm).room.cells = mc from hrc]; exact hp.1
  have h5 : A.slots + (headSpec ws rm).room.slots ≤ R.slots := by rw [show (headSpec ws rm).room.slots = ms from hrs]; exact hp.2.1
  obtain ⟨U, Ls, c0, s0⟩ := A
  dsimp only [Pt.U, Pt.locs, Pt.cells, Pt.slots] at h1 h2 h4 h5 X hn ⊢
  obtain ⟨methY, cY, hmY, hcY, -, hlY, -, -, -, -⟩ := Cond.code_spec hn h2
  have h : At U g.method c below := by rw [hg]; exact X.here
  have hroom : (U.calling g mk a).hasRoom e.platform (headSpec ws rm).room = true := X.room_calling (g := g) (R' := (headSpec ws rm).room) hsize hmY hcY hframes (by rw [hlY]; exact Nat.le_trans (Nat.add_le_add_right (Nat.add_le_add_right hW _) _) hlocals) h4 h5
  have hcodeU : (U.calling g mk a).code? g.method = some c := by
    have := h.code
    rw [State.code?_eq] at this ⊢
    simpa [State.calling, State.pushFrame, State.setFrames] using this
  obtain ⟨mid, hmid⟩ := h.above
  have hfr : (U.setTop g).frames = (.java g :: mid) ++ below := by rw [State.frames_setTop' g h.top, hmid]; rfl
  have hfr0 : (U.setTop g).frames = .java g :: (mid ++ below) := hfr
  obtain ⟨th, hth, -⟩ := State.frames_cons hfr0
  have hhe : (U.calling g mk a).hears mk (U.setTop g).frames = true := by rw [hfr0]; simp [State.hears, hcodeU, hdg, Except.toOption]
  have hpreU : (headSpec ws rm).pre.before a (U.calling g mk a) = true := by rw [State.calling_eq h.top, Cond.before_setFrames]; exact h1
  obtain ⟨o, s₂, hsteps, -, hend, hq, hL0⟩ := u_call hM p X.admits X.cas X.clock (s := U.setTop g) (m := mk) (args := a) (acts := []) hth hfr h.running (by have := h.runnable; simpa [State.calling] using this) (by have := h.alone; simpa [State.calling] using this) hn hhe hroom hpreU (hblind _ _ _ _ hp.2.2)
  have hq' : Qc a (U.calling g mk a) o s₂ := hq
  have hL0 : ∃ L, FrameEnd (U.calling g mk a) o s₂ L mc ms ∧ ∀ q ∈ L, free q.base := hL0
  rw [State.frames_setTop' g h.top] at hend
  obtain ⟨L, hfe, hL⟩ := hL0
  obtain ⟨⟨v, rfl⟩, hW₂, e2, q2, q3, q4, q5, q6⟩ := id hfe
  have e3 : s₂ = ({ (U.calling g mk a).setFrames s₂.frames with heap := s₂.heap, slotsUsed := s₂.slotsUsed } : State).setVm s₂.vm := by
    have : s₂ = ({ s₂ with vm := (U.calling g mk a).vm } : State).setVm s₂.vm := rfl
    rw [e2] at this
    exact this
  obtain ⟨c₂, i₂, len₂, hc₂, hd₂, hf₂⟩ := hend
  have hW' : U.WarmedH s₂.vm := hW₂
  have hcc : c₂ = c := by
    have h1 : s₂.code? g.method = U.code? g.method := by
      rw [State.code?_eq, State.code?_eq, hW'.alike.method?]
    exact Option.some.inj (hc₂.symm.trans (h1.trans h.code))
  subst hcc
  have hlen : len₂ = len := by rw [hdg] at hd₂; cases hd₂; rfl
  subst hlen
  obtain ⟨g₀, hg0⟩ := Option.isSome_iff_exists.mp h.top
  obtain ⟨r, hr⟩ := State.topJava?_eq_some.mp hg0
  have hs₂ : s₂ = (({ U with heap := s₂.heap, slotsUsed := s₂.slotsUsed } : State).setVm s₂.vm).setTop { g with pc := g.pc + len₂, stack := v.toList ++ g.stack } := by
    have hr' : (({ U with heap := s₂.heap, slotsUsed := s₂.slotsUsed } : State).setVm s₂.vm).frames = .java g₀ :: r := hr
    refine e3.trans ?_
    rw [hf₂, State.calling_eq h.top, State.setFrames_setFrames, State.setTop_of_frames _ hr', hr]
    rfl
  have hsame : U.sameButNew ({ U with heap := s₂.heap, slotsUsed := s₂.slotsUsed } : State) L mc ms := by
    refine ⟨?_, q2, q3, q4, q5, q6⟩
    obtain ⟨t, ht, -⟩ := State.frames_cons hr
    show ({ U with heap := s₂.heap, slotsUsed := s₂.slotsUsed } : State) = { U.setFrames U.frames with heap := s₂.heap, slotsUsed := s₂.slotsUsed }
    rw [State.setFrames_self ht]
  subst hg
  refine ⟨v, ⟨(({ U with heap := s₂.heap, slotsUsed := s₂.slotsUsed } : State).setVm s₂.vm), Ls ++ L, c0 + mc, s0 + ms⟩,
    ⟨X.admits, X.cas, X.clock, X.frames, X.room, X.hears, X.method, X.code, (X.here.setHeapUsed s₂.heap s₂.slotsUsed).setVm hW'.alike, X.tail, State.WarmedH.trans X.warmed hW', X.limits, X.bytes, X.same.trans (hsame.setVm s.vm)⟩,
    ⟨g, mk, s₂, L, rfl, rfl, hq', rfl, hL, rfl, rfl⟩, ?_⟩
  show Steps p.tables e below _ ((({ U with heap := s₂.heap, slotsUsed := s₂.slotsUsed } : State).setVm s₂.vm).setTop { g with pc := g.pc + len₂, stack := v.toList ++ g.stack })
  rw [← hs₂]
  exact hsteps
/-- what such a call asks of the tables -/
def uwsV (own : String) (idx : Nat) (C : String) (y : MethodName) (ws : List Cond) : List Cond := ([.methodLink own idx y, .instanceMethod y, .selects C y y] : List Cond) ++ ws
theorem lw_uV {own : String} {idx : Nat} {C : String} {y : MethodName} {b : ByteArray} {L : Nat} {r : Option FieldType} (h1 : Cond.methodLink own idx y ∈ lw_all) (h2 : Cond.instanceMethod y ∈ lw_all) (h3 : Cond.selects C y y ∈ lw_all) (h5 : Cond.code y b L r ∈ lw_all) : GoodIn lw_all (uwsV own idx C y (ws_ y b L r)) := by
  refine lw_app ?_ (lw_meth h5)
  intro w hw
  simp only [List.mem_cons, List.not_mem_nil, or_false] at hw
  rcases hw with e | e | e
  · rw [e]; exact h1
  · rw [e]; exact h2
  · rw [e]; exact h3
def uCallW (R : Room) (s : State) (args : Array Value) (own C : String) (index : Nat) (y : MethodName) (bytes : ByteArray) (maxL : Nat) (ret : Option FieldType) (ws : List Cond) (rm : Room) (mc ms n : Nat) : Prop :=
  rm.cells = mc ∧ rm.slots = ms ∧ rm.frames + 1 ≤ R.frames ∧ 8 + (maxL + 11) + rm.locals ≤ R.locals ∧ (∀ w ∈ ws, ∀ (a' : Array Value) (U : State), s.WarmedH U.vm → w.before a' U = true) ∧ Cond.code y bytes maxL ret ∈ ws ∧
  (Cond.code y bytes maxL ret).before args s = true ∧ (y.cls ≠ "java/lang/invoke/MethodHandle" ∧ y.cls ≠ "java/lang/invoke/VarHandle") ∧ (∀ sig, parseMethodDescriptor y.desc = some sig → n = sig.parameters.length) ∧ (Cond.methodLink own index y).before args s = true ∧ (Cond.instanceMethod y).before args s = true ∧ (Cond.selects C y y).before args s = true
section UV
variable {p : Program} {l : Launch} {e : Env} {R : Room} {s : State} {m : MethodId} {args : Array Value} {below : List Frame} {meth : Method} {c : Code} {H : Heap} {locs : List Loc} {cells slots : Nat} {Q : State → Prop}
  {Ts ws ws' : List Cond} {cc bytes : ByteArray} {nL maxL index n mc ms : Nat} {own C : String} {y : MethodName} {ret : Option FieldType} {rm : Room} {Pc : Array Value → State → Prop} {Qc : Array Value → State → Outcome → State → Prop} {free : Addr → Prop}
  {b : Addr} {As rest : List Value} {g : JFrame} {a : Array Value}
theorem ucwV (n : Nat) (ht : ∀ w ∈ Ts, w.before args s = true) (hT : GoodIn Ts (uwsV own index C y ws)) (hw : ws = Cond.code y bytes maxL ret :: ws') (hrc : rm.cells = mc) (hrs : rm.slots = ms)
    (hd : y.cls ≠ "java/lang/invoke/MethodHandle" ∧ y.cls ≠ "java/lang/invoke/VarHandle" ∧ (parseMethodDescriptor y.desc).map (fun d => d.parameters.length) = some n) (hR : rm.frames + 1 ≤ R.frames ∧ 8 + (maxL + 11) + rm.locals ≤ R.locals) :
    uCallW R s args own C index y bytes maxL ret ws rm mc ms n := by
  have ok : ∀ w ∈ uwsV own index C y ws, w.before args s = true := fun w h => ht w (hT w h).1
  have hG : GoodIn Ts ws := fun w h => hT w (by unfold uwsV; exact List.mem_append_right _ h)
  have hc : Cond.code y bytes maxL ret ∈ ws := by rw [hw]; exact List.mem_cons_self
  refine ⟨hrc, hrs, hR.1, hR.2, pay_in ht hG, hc, ht _ (hG _ hc).1, ⟨hd.1, hd.2.1⟩, fun sig h => ?_, ok _ (by simp [uwsV]), ok _ (by simp [uwsV]), ok _ (by simp [uwsV])⟩
  have h2 := hd.2.2
  rw [h] at h2
  exact (Option.some.inj h2).symm
theorem u_runV (S : CallFix p m c cc nL s args Ts own) (hM : uMet l y ws rm Pc Qc mc ms free) (cw : uCallW R s args own C index y bytes maxL ret ws rm mc ms n) (hp : PreV s H C b Pc As)
    (hg : g.method = m) (hn : As.length = n) (hsize : g.locals.size = nL) (hstack : g.stack = As.reverse ++ .ref b :: rest) (hW : 2 * g.monitorRoom + (rest.map fun v => v.category).sum ≤ 8) (hdg : decode cc g.pc = .ok (.invokevirtual index, 3)) (hf : cells + mc ≤ R.cells ∧ slots + ms ≤ R.slots) :
    CallRun p l e R s m args below meth c H locs cells slots mc ms g rest (Qc (Value.ref b :: As).toArray) (free) := by
  obtain ⟨hrc, hrs, hfr, hlo, hws, hcw, hcode, hy, hlen, hl, hin, hse⟩ := cw
  have hK : Back l R p e below s args y 3 8 (PreOf R mc ms Pc) (PostOf Qc mc ms free) := u_back hM hp.1 hrc hrs hfr hlo hws hcw
  obtain ⟨hx, hb, hml, ho, -⟩ := S
  obtain ⟨-, ⟨cellB, hcB, hoB, hclB⟩, hPc⟩ := hp
  intro T hT X
  obtain ⟨v, vm₁, ⟨U', l2, c2, s2⟩, hW₁, X', ⟨g', mk, t, L, e1, e2, hq, h1, hL, h2, h3⟩, st⟩ := callV X hx (C := C) (bytes := bytes) (maxL := maxL) (ret := ret) ho hl hin hse hcode hy hK (by rw [hT]; exact hcB) hoB hclB hg (hsize.trans hml.symm) (argsL := As) (rest := rest) (fun sig h => hn.trans (hlen sig h)) hstack hW (by rw [hb]; exact hdg)
    (fun vm₁ hW₁ => ⟨hf.1, hf.2, hPc (T.setVm vm₁) hT hW₁⟩)
  dsimp only [Pt.U, Pt.locs, Pt.cells, Pt.slots] at X' e1 e2 h1 h2 h3 st
  subst h1; subst h2; subst h3
  exact ⟨v, (T.setVm vm₁).calling g' mk (Value.ref b :: As).toArray, t, U', L, hT, X', hL, e1, hq, st⟩
end UV
end
section
/-! CONTRACTS OF THE METHODS THAT ONLY READ (printed by wip/D-29837w/gen/pure.py) -/
set_option maxRecDepth 100000
theorem ic_eq {x y : Int32} {X Y : Int} (hx : x.toInt = X) (hy : y.toInt = Y) : x = y ↔ X = Y := by rw [← Int32.toInt_inj, hx, hy]
theorem ic_lt {x y : Int32} {X Y : Int} (hx : x.toInt = X) (hy : y.toInt = Y) : x < y ↔ X < Y := by rw [ii_lt, hx, hy]
theorem ic_le {x y : Int32} {X Y : Int} (hx : x.toInt = X) (hy : y.toInt = Y) : x ≤ y ↔ X ≤ Y := by rw [ii_le, hx, hy]
/-- a leap year as the machine says it -/
def lB (y : Int) : Int32 := if ca_L y = 1 then 1 else 0
theorem lB_I (y : Int) : (lB y).toInt = ca_L y := by
  unfold lB
  rcases ca_L01 y with h | h <;> rw [h] <;> decide +kernel
theorem lB_nar (y : Int) : narrow .boolean (.int (lB y)) = .int (lB y) := by
  unfold lB
  split <;> rfl
theorem lB1 {y : Int} (h : y % 4 = 0 ∧ (y % 100 ≠ 0 ∨ y % 400 = 0)) : (1 : Int32) = lB y := by
  unfold lB
  rw [if_pos (ca_L1.mpr h)]
theorem lB0 {y : Int} (h : ¬ (y % 4 = 0 ∧ (y % 100 ≠ 0 ∨ y % 400 = 0))) : (0 : Int32) = lB y := by
  unfold lB
  rw [if_neg (fun q => h (ca_L1.mp q))]
theorem ll_and3z {v x : Int64} (e : v = x &&& 3) : v.toInt = 0 ↔ x.toInt % 4 = 0 := by
  rw [← ll_and3, ← e, ← Int64.toInt_inj]
  exact Iff.rfl
theorem ii_and3z {v x : Int32} (e : v = x &&& 3) : v.toInt = 0 ↔ x.toInt % 4 = 0 := by
  rw [← ii_and3, ← e, ← Int32.toInt_inj]
  exact Iff.rfl
theorem ll_nz {b : Int64} {c : Int} (hq : b.toInt = c) (hc : 0 < c) : ¬ b = 0 := by
  intro h
  rw [h] at hq
  have h0 : (0 : Int64).toInt = 0 := by decide +kernel
  omega
theorem ll_xor {v x y : Int64} (e : v = x ^^^ y) (hy : 0 < y.toInt) : v.toInt < 0 ↔ x.toInt < 0 := by
  have h1 : v.toBitVec = x.toBitVec ^^^ y.toBitVec := by rw [e]; rfl
  have hm : ∀ z : Int64, z.toBitVec.msb = decide (z.toInt < 0) := fun z => BitVec.msb_eq_toInt
  have h2 : v.toBitVec.msb = (x.toBitVec.msb ^^ y.toBitVec.msb) := by rw [h1, BitVec.msb_xor]
  rw [hm, hm, hm, decide_eq_false (show ¬ y.toInt < 0 by omega), Bool.xor_false] at h2
  exact decide_eq_decide.mp h2
theorem fd_neg {a c q : Int} (hc : 0 < c) (hq : q = -((-a) / c)) : (q * c = a → a / c = q) ∧ (¬ q * c = a → a / c = q - 1) := by
  have h1 : c * ((-a) / c) ≤ -a := Int.mul_ediv_self_le (by omega)
  have h4 : (-a) % c = -a - c * ((-a) / c) := Int.emod_def (-a) c
  have h5 : q * c = -(c * ((-a) / c)) := by rw [hq, Int.neg_mul, Int.mul_comm]
  have h6 := Int.emod_lt_of_pos (-a) hc
  have h7 := Int.emod_nonneg (-a) (show c ≠ 0 by omega)
  refine ⟨fun h => ?_, fun h => ?_⟩
  · rw [← h]
    exact Int.mul_ediv_cancel q (by omega)
  · have h8 : (q - 1) * c = q * c - c := by rw [Int.sub_mul, Int.one_mul]
    have h9 : q - 1 ≤ a / c := (Int.le_ediv_iff_mul_le hc).mpr (by omega)
    have h10 : a / c < q := (Int.ediv_lt_iff_lt_mul hc).mpr (by omega)
    omega
theorem ca_cumb {y m : Int} (h1 : 1 ≤ m) (h2 : m ≤ 12) : 0 ≤ ca_cum (ca_L y) m ∧ ca_cum (ca_L y) m ≤ 335 := by
  have hL := ca_L01 y
  rcases ca_tab (ca_L y) y h1 h2 with g | g | g | g | g | g | g | g | g | g | g | g <;> omega
theorem ca_lnb {y m : Int} (h1 : 1 ≤ m) (h2 : m ≤ 12) : 28 ≤ ca_ln (ca_L y) m ∧ ca_ln (ca_L y) m ≤ 31 := by
  have hL := ca_L01 y
  rcases ca_tab (ca_L y) y h1 h2 with g | g | g | g | g | g | g | g | g | g | g | g <;> omega
/-- a day of the calendar, as its object holds it -/
def gd (n : Int) (y m d : Int32) : Prop := IsD n y.toInt m.toInt d.toInt ∧ -999999999 ≤ y.toInt ∧ y.toInt ≤ 999999999
theorem gd_b {n : Int} {y m d : Int32} (h : gd n y m d) : 1 ≤ m.toInt ∧ m.toInt ≤ 12 ∧ 1 ≤ d.toInt ∧ d.toInt ≤ 31 := by
  obtain ⟨⟨h1, h2, h3, h4, h5⟩, h6⟩ := h
  have := ca_lnb (y := y.toInt) h1 h2
  exact ⟨h1, h2, h3, by omega⟩
end
section
set_option maxHeartbeats 4000000 in
set_option maxRecDepth 100000 in
/-- ValueRange.getMinimum() -/
theorem metX10_getMinimum (l : Launch) (q : Nat) (lo hi : Int64)  : uMet l yX10_getMinimum (ws_ yX10_getMinimum cX10_getMinimum 1 (some .long)) ({ frames := 0, cells := 0, slots := 0, locals := 0 }) (va_Pc [.ref q] (fun U => fVR q lo hi fF U U.heap)) (vp_Sl (fun r => r = lo)) 0 0 (fun _ => False) := by
  refine uMet.ofW (cc := cX10_getMinimum) (maxL := 1) (ret := (some .long)) (by decide) rfl ?_
  intro p e s mi args below me_ c B hv
  obtain ⟨rfl, hF⟩ := hv
  have hF : fVR q lo hi fF s s.heap := hF
  obtain ⟨hx, hb, hr, hlocks, hpre, hnamed, hml⟩ := B
  have hts := atoms_spec (ws := ws_ yX10_getMinimum cX10_getMinimum 1 (some .long)) hpre
  have hts : ∀ w ∈ lw_all, w.before _ s = true := fun w h => hts w (List.mem_cons_of_mem _ h)
  have hown : s.vm.findClass RX10 = some mi.cls := findClass_of_methodNamed hnamed
  have hl := lv_entry ([.ref q]) (n := 1) (Nat.le_of_ble_eq_true rfl)
  rw [lg_entry_eq]
  generalize (lg_sl ([.ref q]) ++ List.replicate (1 - (lg_sl ([.ref q])).length) Slot.unset).toArray = ls at hl ⊢
  have hl : lv_has ls 1 [(0, .ref q)] := hl
  refine lv_aload_n hx hb dX10_getMinimum_0 rfl (lv_at hl 0 rfl) ?_
  refine cs_get hx hb hF.2.1 hown (hts _ q727) (fun _ h9 => h9) dX10_getMinimum_1 ?_
  exact W.lret (v := lo) hx hb hr (fun t ht hW => ⟨_, rfl, rfl, ht⟩) (fun q h => by cases h) dX10_getMinimum_4
set_option maxHeartbeats 4000000 in
set_option maxRecDepth 100000 in
/-- ValueRange.getMaximum() -/
theorem metX10_getMaximum (l : Launch) (q : Nat) (lo hi : Int64)  : uMet l yX10_getMaximum (ws_ yX10_getMaximum cX10_getMaximum 1 (some .long)) ({ frames := 0, cells := 0, slots := 0, locals := 0 }) (va_Pc [.ref q] (fun U => fVR q lo hi fF U U.heap)) (vp_Sl (fun r => r = hi)) 0 0 (fun _ => False) := by
  refine uMet.ofW (cc := cX10_getMaximum) (maxL := 1) (ret := (some .long)) (by decide) rfl ?_
  intro p e s mi args below me_ c B hv
  obtain ⟨rfl, hF⟩ := hv
  have hF : fVR q lo hi fF s s.heap := hF
  obtain ⟨hx, hb, hr, hlocks, hpre, hnamed, hml⟩ := B
  have hts := atoms_spec (ws := ws_ yX10_getMaximum cX10_getMaximum 1 (some .long)) hpre
  have hts : ∀ w ∈ lw_all, w.before _ s = true := fun w h => hts w (List.mem_cons_of_mem _ h)
  have hown : s.vm.findClass RX10 = some mi.cls := findClass_of_methodNamed hnamed
  have hl := lv_entry ([.ref q]) (n := 1) (Nat.le_of_ble_eq_true rfl)
  rw [lg_entry_eq]
  generalize (lg_sl ([.ref q]) ++ List.replicate (1 - (lg_sl ([.ref q])).length) Slot.unset).toArray = ls at hl ⊢
  have hl : lv_has ls 1 [(0, .ref q)] := hl
  refine lv_aload_n hx hb dX10_getMaximum_0 rfl (lv_at hl 0 rfl) ?_
  refine cs_get hx hb hF.2.2 hown (hts _ q728) (fun _ h9 => h9) dX10_getMaximum_1 ?_
  exact W.lret (v := hi) hx hb hr (fun t ht hW => ⟨_, rfl, rfl, ht⟩) (fun q h => by cases h) dX10_getMaximum_4
set_option maxHeartbeats 4000000 in
set_option maxRecDepth 100000 in
/-- ValueRange.isIntValue() of a range of ints -/
theorem metX10_isIntValue (l : Launch) (q : Nat) (lo hi : Int64) (h1 : -2147483648 ≤ lo.toInt) (h2 : hi.toInt ≤ 2147483647) : uMet l yX10_isIntValue (ws_ yX10_isIntValue cX10_isIntValue 1 (some .boolean)) ({ frames := 1, cells := 0, slots := 0, locals := 20 }) (va_Pc [.ref q] (fun U => fVR q lo hi fF U U.heap)) (vp_Si (fun r => r = 1)) 0 0 (fun _ => False) := by
  refine uMet.ofW (cc := cX10_isIntValue) (maxL := 1) (ret := (some .boolean)) (by decide) rfl ?_
  intro p e s mi args below me_ c B hv
  obtain ⟨rfl, hF⟩ := hv
  have hF : fVR q lo hi fF s s.heap := hF
  obtain ⟨hx, hb, hr, hlocks, hpre, hnamed, hml⟩ := B
  have hts := atoms_spec (ws := ws_ yX10_isIntValue cX10_isIntValue 1 (some .boolean)) hpre
  have hts : ∀ w ∈ lw_all, w.before _ s = true := fun w h => hts w (List.mem_cons_of_mem _ h)
  have hown : s.vm.findClass RX10 = some mi.cls := findClass_of_methodNamed hnamed
  have hl := lv_entry ([.ref q]) (n := 1) (Nat.le_of_ble_eq_true rfl)
  rw [lg_entry_eq]
  generalize (lg_sl ([.ref q]) ++ List.replicate (1 - (lg_sl ([.ref q])).length) Slot.unset).toArray = ls at hl ⊢
  have hl : lv_has ls 1 [(0, .ref q)] := hl
  refine lv_aload_n hx hb dX10_isIntValue_0 rfl (lv_at hl 0 rfl) ?_
  have g1 : fVR q lo hi fF s s.heap := hF
  refine vp_callSl (u_runV (As := []) (rest := []) ⟨hx, hb, hml, hown, hts⟩ (metX10_getMinimum l q lo hi) (ucwV 0 hts (lw_uV q67 q68 q69 q70) rfl rfl rfl (by decide +kernel) ⟨Nat.le_of_ble_eq_true rfl, Nat.le_of_ble_eq_true rfl⟩) (pV_start (F := fVR q lo hi fF) fVR_mv (cs_recv (g1.1)) g1) rfl rfl hl.1 rfl (lv_room (Nat.le_of_ble_eq_true rfl)) dX10_isIntValue_1 ⟨Nat.le_of_ble_eq_true rfl, Nat.le_of_ble_eq_true rfl⟩) (fun r1 pr1 => ?_)
  have pr1 : r1 = lo := pr1
  have pr1 := pr1.symm
  subst pr1
  refine lv_ldc2 (v := (-2147483648)) hx hb hown (hts _ q495) dX10_isIntValue_4 ?_
  refine W.lcmp hx hb dX10_isIntValue_7 ?_
  refine lv_if_lt (tgt := 26) hx hb dX10_isIntValue_8 (by decide) (fun c0 => absurd ((cm_lt0 (X := lo.toInt) (Y := (-2147483648)) rfl (by decide +kernel)).mp c0) (by omega)) (fun c8 => ?_)
  refine lv_aload_n hx hb dX10_isIntValue_11 rfl (lv_at hl 0 rfl) ?_
  have g12 : fVR q lo hi fF s s.heap := hF
  refine vp_callSl (u_runV (As := []) (rest := []) ⟨hx, hb, hml, hown, hts⟩ (metX10_getMaximum l q lo hi) (ucwV 0 hts (lw_uV q71 q72 q73 q74) rfl rfl rfl (by decide +kernel) ⟨Nat.le_of_ble_eq_true rfl, Nat.le_of_ble_eq_true rfl⟩) (pV_start (F := fVR q lo hi fF) fVR_mv (cs_recv (g12.1)) g12) rfl rfl hl.1 rfl (lv_room (Nat.le_of_ble_eq_true rfl)) dX10_isIntValue_12 ⟨Nat.le_of_ble_eq_true rfl, Nat.le_of_ble_eq_true rfl⟩) (fun r12 pr12 => ?_)
  have pr12 : r12 = hi := pr12
  have pr12 := pr12.symm
  subst pr12
  refine lv_ldc2 (v := 2147483647) hx hb hown (hts _ q496) dX10_isIntValue_15 ?_
  refine W.lcmp hx hb dX10_isIntValue_18 ?_
  refine lv_if_gt (tgt := 26) hx hb dX10_isIntValue_19 (by decide) (fun c0 => absurd ((cm_gt0 (X := hi.toInt) (Y := 2147483647) rfl (by decide +kernel)).mp c0) (by omega)) (fun c19 => ?_)
  refine lv_iconst (v := 1) hx hb dX10_isIntValue_22 (by decide +kernel) ?_
  refine lv_goto (tgt := 27) hx hb dX10_isIntValue_23 (by decide) ?_
  exact W.zret (v := 1) hx hb hr rfl (fun t ht hW => ⟨_, rfl, rfl, ht⟩) (fun q h => by cases h) dX10_isIntValue_27
set_option maxHeartbeats 4000000 in
set_option maxRecDepth 100000 in
/-- ValueRange.isValidValue of a value in range -/
theorem metX10_isValidValue (l : Launch) (q : Nat) (lo hi v : Int64) (h1 : lo.toInt ≤ v.toInt) (h2 : v.toInt ≤ hi.toInt) : uMet l yX10_isValidValue (ws_ yX10_isValidValue cX10_isValidValue 3 (some .boolean)) ({ frames := 1, cells := 0, slots := 0, locals := 20 }) (va_Pc [.ref q, .long v] (fun U => fVR q lo hi fF U U.heap)) (vp_Si (fun r => r = 1)) 0 0 (fun _ => False) := by
  refine uMet.ofW (cc := cX10_isValidValue) (maxL := 3) (ret := (some .boolean)) (by decide) rfl ?_
  intro p e s mi args below me_ c B hv
  obtain ⟨rfl, hF⟩ := hv
  have hF : fVR q lo hi fF s s.heap := hF
  obtain ⟨hx, hb, hr, hlocks, hpre, hnamed, hml⟩ := B
  have hts := atoms_spec (ws := ws_ yX10_isValidValue cX10_isValidValue 3 (some .boolean)) hpre
  have hts : ∀ w ∈ lw_all, w.before _ s = true := fun w h => hts w (List.mem_cons_of_mem _ h)
  have hown : s.vm.findClass RX10 = some mi.cls := findClass_of_methodNamed hnamed
  have hl := lv_entry ([.ref q, .long v]) (n := 3) (Nat.le_of_ble_eq_true rfl)
  rw [lg_entry_eq]
  generalize (lg_sl ([.ref q, .long v]) ++ List.replicate (3 - (lg_sl ([.ref q, .long v])).length) Slot.unset).toArray = ls at hl ⊢
  have hl : lv_has ls 3 [(0, .ref q), (1, .long v)] := hl
  refine lv_lload_n hx hb dX10_isValidValue_0 rfl (lv_at hl 1 rfl) ?_
  refine lv_aload_n hx hb dX10_isValidValue_1 rfl (lv_at hl 0 rfl) ?_
  have g2 : fVR q lo hi fF s s.heap := hF
  refine vp_callSl (u_runV (As := []) (rest := [.long v]) ⟨hx, hb, hml, hown, hts⟩ (metX10_getMinimum l q lo hi) (ucwV 0 hts (lw_uV q67 q68 q69 q70) rfl rfl rfl (by decide +kernel) ⟨Nat.le_of_ble_eq_true rfl, Nat.le_of_ble_eq_true rfl⟩) (pV_start (F := fVR q lo hi fF) fVR_mv (cs_recv (g2.1)) g2) rfl rfl hl.1 rfl (lv_room (Nat.le_of_ble_eq_true rfl)) dX10_isValidValue_2 ⟨Nat.le_of_ble_eq_true rfl, Nat.le_of_ble_eq_true rfl⟩) (fun r2 pr2 => ?_)
  have pr2 : r2 = lo := pr2
  have pr2 := pr2.symm
  subst pr2
  refine W.lcmp hx hb dX10_isValidValue_5 ?_
  refine lv_if_lt (tgt := 22) hx hb dX10_isValidValue_6 (by decide) (fun c0 => absurd ((cm_lt0 (X := v.toInt) (Y := lo.toInt) rfl rfl).mp c0) (by omega)) (fun c6 => ?_)
  refine lv_lload_n hx hb dX10_isValidValue_9 rfl (lv_at hl 1 rfl) ?_
  refine lv_aload_n hx hb dX10_isValidValue_10 rfl (lv_at hl 0 rfl) ?_
  have g11 : fVR q lo hi fF s s.heap := hF
  refine vp_callSl (u_runV (As := []) (rest := [.long v]) ⟨hx, hb, hml, hown, hts⟩ (metX10_getMaximum l q lo hi) (ucwV 0 hts (lw_uV q71 q72 q73 q74) rfl rfl rfl (by decide +kernel) ⟨Nat.le_of_ble_eq_true rfl, Nat.le_of_ble_eq_true rfl⟩) (pV_start (F := fVR q lo hi fF) fVR_mv (cs_recv (g11.1)) g11) rfl rfl hl.1 rfl (lv_room (Nat.le_of_ble_eq_true rfl)) dX10_isValidValue_11 ⟨Nat.le_of_ble_eq_true rfl, Nat.le_of_ble_eq_true rfl⟩) (fun r11 pr11 => ?_)
  have pr11 : r11 = hi := pr11
  have pr11 := pr11.symm
  subst pr11
  refine W.lcmp hx hb dX10_isValidValue_14 ?_
  refine lv_if_gt (tgt := 22) hx hb dX10_isValidValue_15 (by decide) (fun c0 => absurd ((cm_gt0 (X := v.toInt) (Y := hi.toInt) rfl rfl).mp c0) (by omega)) (fun c15 => ?_)
  refine lv_iconst (v := 1) hx hb dX10_isValidValue_18 (by decide +kernel) ?_
  refine lv_goto (tgt := 23) hx hb dX10_isValidValue_19 (by decide) ?_
  exact W.zret (v := 1) hx hb hr rfl (fun t ht hW => ⟨_, rfl, rfl, ht⟩) (fun q h => by cases h) dX10_isValidValue_23
set_option maxHeartbeats 4000000 in
set_option maxRecDepth 100000 in
/-- ValueRange.isValidIntValue of a value in range -/
theorem metX10_isValidIntValue (l : Launch) (q : Nat) (lo hi v : Int64) (h1 : lo.toInt ≤ v.toInt) (h2 : v.toInt ≤ hi.toInt) (h3 : -2147483648 ≤ lo.toInt) (h4 : hi.toInt ≤ 2147483647) : uMet l yX10_isValidIntValue (ws_ yX10_isValidIntValue cX10_isValidIntValue 3 (some .boolean)) ({ frames := 2, cells := 0, slots := 0, locals := 42 }) (va_Pc [.ref q, .long v] (fun U => fVR q lo hi fF U U.heap)) (vp_Si (fun r => r = 1)) 0 0 (fun _ => False) := by
  refine uMet.ofW (cc := cX10_isValidIntValue) (maxL := 3) (ret := (some .boolean)) (by decide) rfl ?_
  intro p e s mi args below me_ c B hv
  obtain ⟨rfl, hF⟩ := hv
  have hF : fVR q lo hi fF s s.heap := hF
  obtain ⟨hx, hb, hr, hlocks, hpre, hnamed, hml⟩ := B
  have hts := atoms_spec (ws := ws_ yX10_isValidIntValue cX10_isValidIntValue 3 (some .boolean)) hpre
  have hts : ∀ w ∈ lw_all, w.before _ s = true := fun w h => hts w (List.mem_cons_of_mem _ h)
  have hown : s.vm.findClass RX10 = some mi.cls := findClass_of_methodNamed hnamed
  have hl := lv_entry ([.ref q, .long v]) (n := 3) (Nat.le_of_ble_eq_true rfl)
  rw [lg_entry_eq]
  generalize (lg_sl ([.ref q, .long v]) ++ List.replicate (3 - (lg_sl ([.ref q, .long v])).length) Slot.unset).toArray = ls at hl ⊢
  have hl : lv_has ls 3 [(0, .ref q), (1, .long v)] := hl
  refine lv_aload_n hx hb dX10_isValidIntValue_0 rfl (lv_at hl 0 rfl) ?_
  have g1 : fVR q lo hi fF s s.heap := hF
  refine vp_callSi (u_runV (As := []) (rest := []) ⟨hx, hb, hml, hown, hts⟩ (metX10_isIntValue l q lo hi h3 h4) (ucwV 0 hts (lw_uV q491 q492 q493 q494) rfl rfl rfl (by decide +kernel) ⟨Nat.le_of_ble_eq_true rfl, Nat.le_of_ble_eq_true rfl⟩) (pV_start (F := fVR q lo hi fF) fVR_mv (cs_recv (g1.1)) g1) rfl rfl hl.1 rfl (lv_room (Nat.le_of_ble_eq_true rfl)) dX10_isValidIntValue_1 ⟨Nat.le_of_ble_eq_true rfl, Nat.le_of_ble_eq_true rfl⟩) (fun r1 pr1 => ?_)
  have pr1 : r1 = 1 := pr1
  have pr1 := pr1.symm
  subst pr1
  refine lv_if_eq (tgt := 19) hx hb dX10_isValidIntValue_4 (by decide) (fun c0 => absurd ((ic_eq (X := 1) (Y := 0) (by decide +kernel) (by decide +kernel)).mp c0) (by decide)) (fun c4 => ?_)
  refine lv_aload_n hx hb dX10_isValidIntValue_7 rfl (lv_at hl 0 rfl) ?_
  refine lv_lload_n hx hb dX10_isValidIntValue_8 rfl (lv_at hl 1 rfl) ?_
  have g9 : fVR q lo hi fF s s.heap := hF
  refine vp_callSi (u_runV (As := [.long v]) (rest := []) ⟨hx, hb, hml, hown, hts⟩ (metX10_isValidValue l q lo hi v h1 h2) (ucwV 1 hts (lw_uV q63 q64 q65 q66) rfl rfl rfl (by decide +kernel) ⟨Nat.le_of_ble_eq_true rfl, Nat.le_of_ble_eq_true rfl⟩) (pV_start (F := fVR q lo hi fF) fVR_mv (cs_recv (g9.1)) g9) rfl rfl hl.1 rfl (lv_room (Nat.le_of_ble_eq_true rfl)) dX10_isValidIntValue_9 ⟨Nat.le_of_ble_eq_true rfl, Nat.le_of_ble_eq_true rfl⟩) (fun r9 pr9 => ?_)
  have pr9 : r9 = 1 := pr9
  have pr9 := pr9.symm
  subst pr9
  refine lv_if_eq (tgt := 19) hx hb dX10_isValidIntValue_12 (by decide) (fun c0 => absurd ((ic_eq (X := 1) (Y := 0) (by decide +kernel) (by decide +kernel)).mp c0) (by decide)) (fun c12 => ?_)
  refine lv_iconst (v := 1) hx hb dX10_isValidIntValue_15 (by decide +kernel) ?_
  refine lv_goto (tgt := 20) hx hb dX10_isValidIntValue_16 (by decide) ?_
  exact W.zret (v := 1) hx hb hr rfl (fun t ht hW => ⟨_, rfl, rfl, ht⟩) (fun q h => by cases h) dX10_isValidIntValue_20
set_option maxHeartbeats 4000000 in
set_option maxRecDepth 100000 in
/-- ValueRange.checkValidValue of a value in range -/
theorem metX10_checkValidValue (l : Launch) (q f : Nat) (lo hi v : Int64) (h1 : lo.toInt ≤ v.toInt) (h2 : v.toInt ≤ hi.toInt) : uMet l yX10_checkValidValue (ws_ yX10_checkValidValue cX10_checkValidValue 4 (some .long)) ({ frames := 2, cells := 0, slots := 0, locals := 42 }) (va_Pc [.ref q, .long v, .ref f] (fun U => fVR q lo hi fF U U.heap)) (vp_Sl (fun r => r = v)) 0 0 (fun _ => False) := by
  refine uMet.ofW (cc := cX10_checkValidValue) (maxL := 4) (ret := (some .long)) (by decide) rfl ?_
  intro p e s mi args below me_ c B hv
  obtain ⟨rfl, hF⟩ := hv
  have hF : fVR q lo hi fF s s.heap := hF
  obtain ⟨hx, hb, hr, hlocks, hpre, hnamed, hml⟩ := B
  have hts := atoms_spec (ws := ws_ yX10_checkValidValue cX10_checkValidValue 4 (some .long)) hpre
  have hts : ∀ w ∈ lw_all, w.before _ s = true := fun w h => hts w (List.mem_cons_of_mem _ h)
  have hown : s.vm.findClass RX10 = some mi.cls := findClass_of_methodNamed hnamed
  have hl := lv_entry ([.ref q, .long v, .ref f]) (n := 4) (Nat.le_of_ble_eq_true rfl)
  rw [lg_entry_eq]
  generalize (lg_sl ([.ref q, .long v, .ref f]) ++ List.replicate (4 - (lg_sl ([.ref q, .long v, .ref f])).length) Slot.unset).toArray = ls at hl ⊢
  have hl : lv_has ls 4 [(0, .ref q), (1, .long v), (3, .ref f)] := hl
  refine lv_aload_n hx hb dX10_checkValidValue_0 rfl (lv_at hl 0 rfl) ?_
  refine lv_lload_n hx hb dX10_checkValidValue_1 rfl (lv_at hl 1 rfl) ?_
  have g2 : fVR q lo hi fF s s.heap := hF
  refine vp_callSi (u_runV (As := [.long v]) (rest := []) ⟨hx, hb, hml, hown, hts⟩ (metX10_isValidValue l q lo hi v h1 h2) (ucwV 1 hts (lw_uV q63 q64 q65 q66) rfl rfl rfl (by decide +kernel) ⟨Nat.le_of_ble_eq_true rfl, Nat.le_of_ble_eq_true rfl⟩) (pV_start (F := fVR q lo hi fF) fVR_mv (cs_recv (g2.1)) g2) rfl rfl hl.1 rfl (lv_room (Nat.le_of_ble_eq_true rfl)) dX10_checkValidValue_2 ⟨Nat.le_of_ble_eq_true rfl, Nat.le_of_ble_eq_true rfl⟩) (fun r2 pr2 => ?_)
  have pr2 : r2 = 1 := pr2
  have pr2 := pr2.symm
  subst pr2
  refine lv_if_ne (tgt := 93) hx hb dX10_checkValidValue_5 (by decide) (fun c5 => ?_) (fun c0 => absurd ((ic_eq (X := 1) (Y := 0) (by decide +kernel) (by decide +kernel)).mp c0) (by decide))
  refine lv_lload_n hx hb dX10_checkValidValue_93 rfl (lv_at hl 1 rfl) ?_
  exact W.lret (v := v) hx hb hr (fun t ht hW => ⟨_, rfl, rfl, ht⟩) (fun q h => by cases h) dX10_checkValidValue_94
set_option maxHeartbeats 4000000 in
set_option maxRecDepth 100000 in
/-- ValueRange.checkValidIntValue of a value in range -/
theorem metX10_checkValidIntValue (l : Launch) (q f : Nat) (lo hi v : Int64) (h1 : lo.toInt ≤ v.toInt) (h2 : v.toInt ≤ hi.toInt) (h3 : -2147483648 ≤ lo.toInt) (h4 : hi.toInt ≤ 2147483647) : uMet l yX10_checkValidIntValue (ws_ yX10_checkValidIntValue cX10_checkValidIntValue 4 (some .int)) ({ frames := 3, cells := 0, slots := 0, locals := 64 }) (va_Pc [.ref q, .long v, .ref f] (fun U => fVR q lo hi fF U U.heap)) (vp_Si (fun r => r.toInt = v.toInt)) 0 0 (fun _ => False) := by
  refine uMet.ofW (cc := cX10_checkValidIntValue) (maxL := 4) (ret := (some .int)) (by decide) rfl ?_
  intro p e s mi args below me_ c B hv
  obtain ⟨rfl, hF⟩ := hv
  have hF : fVR q lo hi fF s s.heap := hF
  obtain ⟨hx, hb, hr, hlocks, hpre, hnamed, hml⟩ := B
  have hts := atoms_spec (ws := ws_ yX10_checkValidIntValue cX10_checkValidIntValue 4 (some .int)) hpre
  have hts : ∀ w ∈ lw_all, w.before _ s = true := fun w h => hts w (List.mem_cons_of_mem _ h)
  have hown : s.vm.findClass RX10 = some mi.cls := findClass_of_methodNamed hnamed
  have hl := lv_entry ([.ref q, .long v, .ref f]) (n := 4) (Nat.le_of_ble_eq_true rfl)
  rw [lg_entry_eq]
  generalize (lg_sl ([.ref q, .long v, .ref f]) ++ List.replicate (4 - (lg_sl ([.ref q, .long v, .ref f])).length) Slot.unset).toArray = ls at hl ⊢
  have hl : lv_has ls 4 [(0, .ref q), (1, .long v), (3, .ref f)] := hl
  refine lv_aload_n hx hb dX10_checkValidIntValue_0 rfl (lv_at hl 0 rfl) ?_
  refine lv_lload_n hx hb dX10_checkValidIntValue_1 rfl (lv_at hl 1 rfl) ?_
  have g2 : fVR q lo hi fF s s.heap := hF
  refine vp_callSi (u_runV (As := [.long v]) (rest := []) ⟨hx, hb, hml, hown, hts⟩ (metX10_isValidIntValue l q lo hi v h1 h2 h3 h4) (ucwV 1 hts (lw_uV q487 q488 q489 q490) rfl rfl rfl (by decide +kernel) ⟨Nat.le_of_ble_eq_true rfl, Nat.le_of_ble_eq_true rfl⟩) (pV_start (F := fVR q lo hi fF) fVR_mv (cs_recv (g2.1)) g2) rfl rfl hl.1 rfl (lv_room (Nat.le_of_ble_eq_true rfl)) dX10_checkValidIntValue_2 ⟨Nat.le_of_ble_eq_true rfl, Nat.le_of_ble_eq_true rfl⟩) (fun r2 pr2 => ?_)
  have pr2 : r2 = 1 := pr2
  have pr2 := pr2.symm
  subst pr2
  refine lv_if_ne (tgt := 44) hx hb dX10_checkValidIntValue_5 (by decide) (fun c5 => ?_) (fun c0 => absurd ((ic_eq (X := 1) (Y := 0) (by decide +kernel) (by decide +kernel)).mp c0) (by decide))
  refine lv_lload_n hx hb dX10_checkValidIntValue_44 rfl (lv_at hl 1 rfl) ?_
  refine lv_l2i (v := (v).toInt32) hx hb dX10_checkValidIntValue_45 rfl ?_
  refine lv_topi (fun v45 ev45 => ?_)
  have tv45 : v45.toInt = v.toInt := ii_l2i ev45 rfl (by omega) (by omega)
  exact W.iret (v := v45) hx hb hr (fun t ht hW => ⟨_, rfl, tv45, ht⟩) (fun q h => by cases h) dX10_checkValidIntValue_46
set_option maxHeartbeats 4000000 in
set_option maxRecDepth 100000 in
/-- ChronoField.range() -/
theorem metX6_range (l : Launch) (q r9 : Nat) (lo hi : Int64)  : Met l yX6_range (ws_ yX6_range cX6_range 1 (some (.object "ValueRange"))) ({ frames := 0, cells := 0, slots := 0, locals := 0 }) (va_Pc [.ref q] (fun U => fCF q r9 lo hi fF U U.heap)) (va_Sr (fun a9 => a9 = r9) Value.ref) 0 0 (fun _ => False) := by
  refine Met.ofW (cc := cX6_range) (maxL := 1) (ret := (some (.object "ValueRange"))) (by decide) rfl ?_
  intro p e s mi args below me_ c s₁ B hml hv
  obtain ⟨rfl, hF⟩ := hv
  have hF : fCF q r9 lo hi fF s s.heap := hF
  have hx := B.exec
  have hb := B.bytes
  have hr := B.returns
  have hts := atoms_spec (ws := ws_ yX6_range cX6_range 1 (some (.object "ValueRange"))) B.pre
  have hts : ∀ w ∈ lw_all, w.before _ s = true := fun w h => hts w (List.mem_cons_of_mem _ h)
  have hown : s.vm.findClass RX6 = some mi.cls := findClass_of_methodNamed B.named
  have hlocks := B.notSynchronized
  have hl := lv_entry ([.ref q]) (n := 1) (Nat.le_of_ble_eq_true rfl)
  rw [lg_entry_eq]
  generalize (lg_sl ([.ref q]) ++ List.replicate (1 - (lg_sl ([.ref q])).length) Slot.unset).toArray = ls at hl ⊢
  have hl : lv_has ls 1 [(0, .ref q)] := hl
  refine lv_aload_n hx hb dX6_range_0 rfl (lv_at hl 0 rfl) ?_
  refine cs_get hx hb hF.2.1 hown (hts _ q726) (fun _ h9 => h9) dX6_range_1 ?_
  exact W.aret (v := .ref r9) hx hb hr (Or.inl ⟨_, rfl⟩) (Or.inr ⟨_, rfl⟩) (fun t ht hW => ⟨_, rfl, rfl, ht⟩) (fun q h => by cases h) dX6_range_4
set_option maxHeartbeats 4000000 in
set_option maxRecDepth 100000 in
/-- ChronoField.checkValidValue of a value in range -/
theorem metX6_checkValidValue (l : Launch) (q r9 : Nat) (lo hi v : Int64) (h1 : lo.toInt ≤ v.toInt) (h2 : v.toInt ≤ hi.toInt) : Met l yX6_checkValidValue (ws_ yX6_checkValidValue cX6_checkValidValue 3 (some .long)) ({ frames := 3, cells := 0, slots := 0, locals := 65 }) (va_Pc [.ref q, .long v] (fun U => fCF q r9 lo hi fF U U.heap)) (vp_Sl (fun r => r = v)) 0 0 (fun _ => False) := by
  refine Met.ofW (cc := cX6_checkValidValue) (maxL := 3) (ret := (some .long)) (by decide) rfl ?_
  intro p e s mi args below me_ c s₁ B hml hv
  obtain ⟨rfl, hF⟩ := hv
  have hF : fCF q r9 lo hi fF s s.heap := hF
  have hx := B.exec
  have hb := B.bytes
  have hr := B.returns
  have hts := atoms_spec (ws := ws_ yX6_checkValidValue cX6_checkValidValue 3 (some .long)) B.pre
  have hts : ∀ w ∈ lw_all, w.before _ s = true := fun w h => hts w (List.mem_cons_of_mem _ h)
  have hown : s.vm.findClass RX6 = some mi.cls := findClass_of_methodNamed B.named
  have hlocks := B.notSynchronized
  have hl := lv_entry ([.ref q, .long v]) (n := 3) (Nat.le_of_ble_eq_true rfl)
  rw [lg_entry_eq]
  generalize (lg_sl ([.ref q, .long v]) ++ List.replicate (3 - (lg_sl ([.ref q, .long v])).length) Slot.unset).toArray = ls at hl ⊢
  have hl : lv_has ls 3 [(0, .ref q), (1, .long v)] := hl
  refine lv_aload_n hx hb dX6_checkValidValue_0 rfl (lv_at hl 0 rfl) ?_
  have g1 : fCF q r9 lo hi fF s s.heap := hF
  refine va_csr (W.runV (As := []) (rest := []) ⟨hx, hb, hml, hown, hts⟩ (metX6_range l q r9 lo hi) (cwV 0 hts (lw_V q55 q56 q57 q8 q58) rfl rfl rfl (by decide +kernel) ⟨Nat.le_of_ble_eq_true rfl, Nat.le_of_ble_eq_true rfl⟩) (pV_start (F := fCF q r9 lo hi fF) fCF_mv (cs_recv (g1.1)) g1) rfl rfl hl.1 rfl (lv_room (Nat.le_of_ble_eq_true rfl)) dX6_checkValidValue_1 ⟨Nat.le_of_ble_eq_true rfl, Nat.le_of_ble_eq_true rfl⟩) (fun r1 pr1 => ?_)
  have pr1 : r1 = r9 := pr1
  have pr1 := pr1.symm
  subst pr1
  refine lv_lload_n hx hb dX6_checkValidValue_4 rfl (lv_at hl 1 rfl) ?_
  refine lv_aload_n hx hb dX6_checkValidValue_5 rfl (lv_at hl 0 rfl) ?_
  have g6 : fVR r9 lo hi fF s s.heap := hF.2.2
  refine vp_callSl (u_runV (As := [.long v, .ref q]) (rest := []) ⟨hx, hb, hml, hown, hts⟩ (metX10_checkValidValue l r9 q lo hi v h1 h2) (ucwV 2 hts (lw_uV q59 q60 q61 q62) rfl rfl rfl (by decide +kernel) ⟨Nat.le_of_ble_eq_true rfl, Nat.le_of_ble_eq_true rfl⟩) (pV_start (F := fVR r9 lo hi fF) fVR_mv (cs_recv (g6.1)) g6) rfl rfl hl.1 rfl (lv_room (Nat.le_of_ble_eq_true rfl)) dX6_checkValidValue_6 ⟨Nat.le_of_ble_eq_true rfl, Nat.le_of_ble_eq_true rfl⟩) (fun r6 pr6 => ?_)
  have pr6 : r6 = v := pr6
  exact W.lret (v := r6) hx hb hr (fun t ht hW => ⟨_, rfl, pr6, ht⟩) (fun q h => by cases h) dX6_checkValidValue_9
set_option maxHeartbeats 4000000 in
set_option maxRecDepth 100000 in
/-- ChronoField.checkValidIntValue of a value in range -/
theorem metX6_checkValidIntValue (l : Launch) (q r9 : Nat) (lo hi v : Int64) (h1 : lo.toInt ≤ v.toInt) (h2 : v.toInt ≤ hi.toInt) (h3 : -2147483648 ≤ lo.toInt) (h4 : hi.toInt ≤ 2147483647) : Met l yX6_checkValidIntValue (ws_ yX6_checkValidIntValue cX6_checkValidIntValue 3 (some .int)) ({ frames := 4, cells := 0, slots := 0, locals := 87 }) (va_Pc [.ref q, .long v] (fun U => fCF q r9 lo hi fF U U.heap)) (vp_Si (fun r => r.toInt = v.toInt)) 0 0 (fun _ => False) := by
  refine Met.ofW (cc := cX6_checkValidIntValue) (maxL := 3) (ret := (some .int)) (by decide) rfl ?_
  intro p e s mi args below me_ c s₁ B hml hv
  obtain ⟨rfl, hF⟩ := hv
  have hF : fCF q r9 lo hi fF s s.heap := hF
  have hx := B.exec
  have hb := B.bytes
  have hr := B.returns
  have hts := atoms_spec (ws := ws_ yX6_checkValidIntValue cX6_checkValidIntValue 3 (some .int)) B.pre
  have hts : ∀ w ∈ lw_all, w.before _ s = true := fun w h => hts w (List.mem_cons_of_mem _ h)
  have hown : s.vm.findClass RX6 = some mi.cls := findClass_of_methodNamed B.named
  have hlocks := B.notSynchronized
  have hl := lv_entry ([.ref q, .long v]) (n := 3) (Nat.le_of_ble_eq_true rfl)
  rw [lg_entry_eq]
  generalize (lg_sl ([.ref q, .long v]) ++ List.replicate (3 - (lg_sl ([.ref q, .long v])).length) Slot.unset).toArray = ls at hl ⊢
  have hl : lv_has ls 3 [(0, .ref q), (1, .long v)] := hl
  refine lv_aload_n hx hb dX6_checkValidIntValue_0 rfl (lv_at hl 0 rfl) ?_
  have g1 : fCF q r9 lo hi fF s s.heap := hF
  refine va_csr (W.runV (As := []) (rest := []) ⟨hx, hb, hml, hown, hts⟩ (metX6_range l q r9 lo hi) (cwV 0 hts (lw_V q55 q56 q57 q8 q58) rfl rfl rfl (by decide +kernel) ⟨Nat.le_of_ble_eq_true rfl, Nat.le_of_ble_eq_true rfl⟩) (pV_start (F := fCF q r9 lo hi fF) fCF_mv (cs_recv (g1.1)) g1) rfl rfl hl.1 rfl (lv_room (Nat.le_of_ble_eq_true rfl)) dX6_checkValidIntValue_1 ⟨Nat.le_of_ble_eq_true rfl, Nat.le_of_ble_eq_true rfl⟩) (fun r1 pr1 => ?_)
  have pr1 : r1 = r9 := pr1
  have pr1 := pr1.symm
  subst pr1
  refine lv_lload_n hx hb dX6_checkValidIntValue_4 rfl (lv_at hl 1 rfl) ?_
  refine lv_aload_n hx hb dX6_checkValidIntValue_5 rfl (lv_at hl 0 rfl) ?_
  have g6 : fVR r9 lo hi fF s s.heap := hF.2.2
  refine vp_callSi (u_runV (As := [.long v, .ref q]) (rest := []) ⟨hx, hb, hml, hown, hts⟩ (metX10_checkValidIntValue l r9 q lo hi v h1 h2 h3 h4) (ucwV 2 hts (lw_uV q483 q484 q485 q486) rfl rfl rfl (by decide +kernel) ⟨Nat.le_of_ble_eq_true rfl, Nat.le_of_ble_eq_true rfl⟩) (pV_start (F := fVR r9 lo hi fF) fVR_mv (cs_recv (g6.1)) g6) rfl rfl hl.1 rfl (lv_room (Nat.le_of_ble_eq_true rfl)) dX6_checkValidIntValue_6 ⟨Nat.le_of_ble_eq_true rfl, Nat.le_of_ble_eq_true rfl⟩) (fun r6 pr6 => ?_)
  have pr6 : r6.toInt = v.toInt := pr6
  exact W.iret (v := r6) hx hb hr (fun t ht hW => ⟨_, rfl, pr6, ht⟩) (fun q h => by cases h) dX6_checkValidIntValue_9
end
section
set_option maxHeartbeats 4000000 in
set_option maxRecDepth 100000 in
/-- IsoChronology.isLeapYear -/
theorem metX9_isLeapYear (l : Launch) (q : Nat) (v : Int64)  : Met l yX9_isLeapYear (ws_ yX9_isLeapYear cX9_isLeapYear 3 (some .boolean)) ({ frames := 0, cells := 0, slots := 0, locals := 0 }) (va_Pc [.ref q, .long v] (fun U => fNo U U.heap)) (vp_Si (fun r => r = lB v.toInt)) 0 0 (fun _ => False) := by
  refine Met.ofW (cc := cX9_isLeapYear) (maxL := 3) (ret := (some .boolean)) (by decide) rfl ?_
  intro p e s mi args below me_ c s₁ B hml hv
  obtain ⟨rfl, hF⟩ := hv
  have hF : fNo s s.heap := hF
  have hx := B.exec
  have hb := B.bytes
  have hr := B.returns
  have hts := atoms_spec (ws := ws_ yX9_isLeapYear cX9_isLeapYear 3 (some .boolean)) B.pre
  have hts : ∀ w ∈ lw_all, w.before _ s = true := fun w h => hts w (List.mem_cons_of_mem _ h)
  have hown : s.vm.findClass RX9 = some mi.cls := findClass_of_methodNamed B.named
  have hlocks := B.notSynchronized
  have hl := lv_entry ([.ref q, .long v]) (n := 3) (Nat.le_of_ble_eq_true rfl)
  rw [lg_entry_eq]
  generalize (lg_sl ([.ref q, .long v]) ++ List.replicate (3 - (lg_sl ([.ref q, .long v])).length) Slot.unset).toArray = ls at hl ⊢
  have hl : lv_has ls 3 [(0, .ref q), (1, .long v)] := hl
  refine lv_lload_n hx hb dX9_isLeapYear_0 rfl (lv_at hl 1 rfl) ?_
  refine lv_ldc2 (v := 3) hx hb hown (hts _ q614) dX9_isLeapYear_1 ?_
  refine lv_land hx hb dX9_isLeapYear_4 ?_
  refine lv_topl (fun v4 ev4 => ?_)
  have z4 := ll_and3z ev4
  refine lv_lconst (v := 0) hx hb dX9_isLeapYear_5 (by decide +kernel) ?_
  refine W.lcmp hx hb dX9_isLeapYear_6 ?_
  refine lv_if_ne (tgt := 34) hx hb dX9_isLeapYear_7 (by decide) (fun c7 => ?_) (fun c7 => ?_)
  · have k_7 : ¬ v4.toInt = 0 := fun c0 => c7 ((cm_eq0 (X := v4.toInt) (Y := 0) rfl (by decide +kernel)).mpr c0)
    refine lv_iconst (v := 0) hx hb dX9_isLeapYear_34 (by decide +kernel) ?_
    exact W.zret (v := 0) hx hb hr rfl (fun t ht hW => ⟨_, rfl, lB0 (by omega), ht⟩) (fun q h => by cases h) dX9_isLeapYear_35
  · have k_7 : v4.toInt = 0 := (cm_eq0 (X := v4.toInt) (Y := 0) rfl (by decide +kernel)).mp c7
    refine lv_lload_n hx hb dX9_isLeapYear_10 rfl (lv_at hl 1 rfl) ?_
    refine lv_ldc2 (v := 100) hx hb hown (hts _ q615) dX9_isLeapYear_11 ?_
    refine lv_lrem hx hb dX9_isLeapYear_14 (by decide) ?_
    refine lv_topl (fun v14 ev14 => ?_)
    have tv14 : (0 ≤ v.toInt → v14.toInt = v.toInt % 100) ∧ (v.toInt ≤ 0 → v14.toInt = -((-v.toInt) % 100)) := ll_rem ev14 rfl (by decide +kernel) (by decide)
    refine lv_lconst (v := 0) hx hb dX9_isLeapYear_15 (by decide +kernel) ?_
    refine W.lcmp hx hb dX9_isLeapYear_16 ?_
    refine lv_if_ne (tgt := 30) hx hb dX9_isLeapYear_17 (by decide) (fun c17 => ?_) (fun c17 => ?_)
    · have k_17 : ¬ v14.toInt = 0 := fun c0 => c17 ((cm_eq0 (X := v14.toInt) (Y := 0) rfl (by decide +kernel)).mpr c0)
      refine lv_iconst (v := 1) hx hb dX9_isLeapYear_30 (by decide +kernel) ?_
      refine lv_goto (tgt := 35) hx hb dX9_isLeapYear_31 (by decide) ?_
      exact W.zret (v := 1) hx hb hr rfl (fun t ht hW => ⟨_, rfl, lB1 (by omega), ht⟩) (fun q h => by cases h) dX9_isLeapYear_35
    · have k_17 : v14.toInt = 0 := (cm_eq0 (X := v14.toInt) (Y := 0) rfl (by decide +kernel)).mp c17
      refine lv_lload_n hx hb dX9_isLeapYear_20 rfl (lv_at hl 1 rfl) ?_
      refine lv_ldc2 (v := 400) hx hb hown (hts _ q616) dX9_isLeapYear_21 ?_
      refine lv_lrem hx hb dX9_isLeapYear_24 (by decide) ?_
      refine lv_topl (fun v24 ev24 => ?_)
      have tv24 : (0 ≤ v.toInt → v24.toInt = v.toInt % 400) ∧ (v.toInt ≤ 0 → v24.toInt = -((-v.toInt) % 400)) := ll_rem ev24 rfl (by decide +kernel) (by decide)
      refine lv_lconst (v := 0) hx hb dX9_isLeapYear_25 (by decide +kernel) ?_
      refine W.lcmp hx hb dX9_isLeapYear_26 ?_
      refine lv_if_ne (tgt := 34) hx hb dX9_isLeapYear_27 (by decide) (fun c27 => ?_) (fun c27 => ?_)
      · have k_27 : ¬ v24.toInt = 0 := fun c0 => c27 ((cm_eq0 (X := v24.toInt) (Y := 0) rfl (by decide +kernel)).mpr c0)
        refine lv_iconst (v := 0) hx hb dX9_isLeapYear_34 (by decide +kernel) ?_
        exact W.zret (v := 0) hx hb hr rfl (fun t ht hW => ⟨_, rfl, lB0 (by omega), ht⟩) (fun q h => by cases h) dX9_isLeapYear_35
      · have k_27 : v24.toInt = 0 := (cm_eq0 (X := v24.toInt) (Y := 0) rfl (by decide +kernel)).mp c27
        refine lv_iconst (v := 1) hx hb dX9_isLeapYear_30 (by decide +kernel) ?_
        refine lv_goto (tgt := 35) hx hb dX9_isLeapYear_31 (by decide) ?_
        exact W.zret (v := 1) hx hb hr rfl (fun t ht hW => ⟨_, rfl, lB1 (by omega), ht⟩) (fun q h => by cases h) dX9_isLeapYear_35
set_option maxHeartbeats 4000000 in
set_option maxRecDepth 100000 in
/-- Month.of of a month -/
theorem metX8_of (l : Launch) (k : Nat → Nat) (m : Int32) (h1 : 1 ≤ m.toInt) (h2 : m.toInt ≤ 12) : Met l yX8_of (ws_ yX8_of cX8_of 1 (some (.object "Month"))) ({ frames := 0, cells := 0, slots := 0, locals := 0 }) (va_Pc [.int m] (fun U => cst k fF U U.heap)) (va_Sr (fun a9 => a9 = k (6 + (m.toInt - 1).toNat)) Value.ref) 0 0 (fun _ => False) := by
  refine Met.ofW (cc := cX8_of) (maxL := 1) (ret := (some (.object "Month"))) (by decide) rfl ?_
  intro p e s mi args below me_ c s₁ B hml hv
  obtain ⟨rfl, hF⟩ := hv
  have hF : cst k fF s s.heap := hF
  have hx := B.exec
  have hb := B.bytes
  have hr := B.returns
  have hts := atoms_spec (ws := ws_ yX8_of cX8_of 1 (some (.object "Month"))) B.pre
  have hts : ∀ w ∈ lw_all, w.before _ s = true := fun w h => hts w (List.mem_cons_of_mem _ h)
  have hown : s.vm.findClass RX8 = some mi.cls := findClass_of_methodNamed B.named
  have hlocks := B.notSynchronized
  have hl := lv_entry ([.int m]) (n := 1) (Nat.le_of_ble_eq_true rfl)
  rw [lg_entry_eq]
  generalize (lg_sl ([.int m]) ++ List.replicate (1 - (lg_sl ([.int m])).length) Slot.unset).toArray = ls at hl ⊢
  have hl : lv_has ls 1 [(0, .int m)] := hl
  refine lv_iload_n hx hb dX8_of_0 rfl (lv_at hl 0 rfl) ?_
  refine lv_iconst (v := 1) hx hb dX8_of_1 (by decide +kernel) ?_
  refine lv_icmp_lt (tgt := 11) hx hb dX8_of_2 (by decide) (fun c0 => absurd ((ic_lt (X := m.toInt) (Y := 1) rfl (by decide +kernel)).mp c0) (by omega)) (fun c2 => ?_)
  refine lv_iload_n hx hb dX8_of_5 rfl (lv_at hl 0 rfl) ?_
  refine lv_bipush (v := 12) hx hb dX8_of_6 (by decide +kernel) ?_
  refine lv_icmp_le (tgt := 38) hx hb dX8_of_8 (by decide) (fun c8 => ?_) (fun c0 => absurd ((ic_le (X := m.toInt) (Y := 12) rfl (by decide +kernel)).mpr (by omega)) c0)
  refine cs_gets hx hb hF.2.2.2.1.1 hown (hts _ q602) (fun _ h9 => h9) dX8_of_38 ?_
  refine lv_iload_n hx hb dX8_of_41 rfl (lv_at hl 0 rfl) ?_
  refine lv_iconst (v := 1) hx hb dX8_of_42 (by decide +kernel) ?_
  refine lv_isub hx hb dX8_of_43 ?_
  refine lv_topi (fun v43 ev43 => ?_)
  have tv43 : v43.toInt = m.toInt - 1 := ii_sub ev43 rfl (by decide +kernel) (by omega) (by omega)
  have z43 : v43.toNatClampNeg = (m.toInt - 1).toNat := by rw [← tv43]; rfl
  refine cs_aald hx hb hF.2.2.2.1.2 (vp_in_iff.mpr ⟨by omega, by omega⟩) (v := .ref (k (6 + (m.toInt - 1).toNat))) (by show Value.ref (k (6 + v43.toNatClampNeg)) = _; rw [z43]) dX8_of_44 ?_
  exact W.aret (v := .ref (k (6 + (m.toInt - 1).toNat))) hx hb hr (Or.inl ⟨_, rfl⟩) (Or.inr ⟨_, rfl⟩) (fun t ht hW => ⟨_, rfl, rfl, ht⟩) (fun q h => by cases h) dX8_of_45
set_option maxHeartbeats 4000000 in
set_option maxRecDepth 100000 in
/-- Enum.ordinal() of a month -/
theorem metJ0_ordinal (l : Launch) (q j : Nat)  : Met l yJ0_ordinal (ws_ yJ0_ordinal cJ0_ordinal 1 (some .int)) ({ frames := 0, cells := 0, slots := 0, locals := 0 }) (va_Pc [.ref q] (fun U => fMo q j fF U U.heap)) (vp_Si (fun r => r = nI j)) 0 0 (fun _ => False) := by
  refine Met.ofW (cc := cJ0_ordinal) (maxL := 1) (ret := (some .int)) (by decide) rfl ?_
  intro p e s mi args below me_ c s₁ B hml hv
  obtain ⟨rfl, hF⟩ := hv
  have hF : fMo q j fF s s.heap := hF
  have hx := B.exec
  have hb := B.bytes
  have hr := B.returns
  have hts := atoms_spec (ws := ws_ yJ0_ordinal cJ0_ordinal 1 (some .int)) B.pre
  have hts : ∀ w ∈ lw_all, w.before _ s = true := fun w h => hts w (List.mem_cons_of_mem _ h)
  have hown : s.vm.findClass RJ0 = some mi.cls := findClass_of_methodNamed B.named
  have hlocks := B.notSynchronized
  have hl := lv_entry ([.ref q]) (n := 1) (Nat.le_of_ble_eq_true rfl)
  rw [lg_entry_eq]
  generalize (lg_sl ([.ref q]) ++ List.replicate (1 - (lg_sl ([.ref q])).length) Slot.unset).toArray = ls at hl ⊢
  have hl : lv_has ls 1 [(0, .ref q)] := hl
  refine lv_aload_n hx hb dJ0_ordinal_0 rfl (lv_at hl 0 rfl) ?_
  refine cs_get hx hb hF.2 hown (hts _ q733) (fun _ h9 => h9) dJ0_ordinal_1 ?_
  exact W.iret (v := (nI j)) hx hb hr (fun t ht hW => ⟨_, rfl, rfl, ht⟩) (fun q h => by cases h) dJ0_ordinal_4
set_option maxHeartbeats 4000000 in
set_option maxRecDepth 100000 in
/-- Month.firstDayOfYear -/
theorem metX8_firstDayOfYear (l : Launch) (q j : Nat) (y : Int) (hj : j < 12) : Met l yX8_firstDayOfYear (ws_ yX8_firstDayOfYear cX8_firstDayOfYear 3 (some .int)) ({ frames := 1, cells := 0, slots := 0, locals := 20 }) (va_Pc [.ref q, .int (lB y)] (fun U => fMo q j fF U U.heap)) (vp_Si (fun r => r.toInt = ca_cum (ca_L y) ((j : Int) + 1) + 1)) 0 0 (fun _ => False) := by
  refine Met.ofW (cc := cX8_firstDayOfYear) (maxL := 3) (ret := (some .int)) (by decide) rfl ?_
  intro p e s mi args below me_ c s₁ B hml hv
  obtain ⟨rfl, hF⟩ := hv
  have hF : fMo q j fF s s.heap := hF
  have hx := B.exec
  have hb := B.bytes
  have hr := B.returns
  have hts := atoms_spec (ws := ws_ yX8_firstDayOfYear cX8_firstDayOfYear 3 (some .int)) B.pre
  have hts : ∀ w ∈ lw_all, w.before _ s = true := fun w h => hts w (List.mem_cons_of_mem _ h)
  have hown : s.vm.findClass RX8 = some mi.cls := findClass_of_methodNamed B.named
  have hlocks := B.notSynchronized
  have hl := lv_entry ([.ref q, .int (lB y)]) (n := 3) (Nat.le_of_ble_eq_true rfl)
  rw [lg_entry_eq]
  generalize (lg_sl ([.ref q, .int (lB y)]) ++ List.replicate (3 - (lg_sl ([.ref q, .int (lB y)])).length) Slot.unset).toArray = ls at hl ⊢
  have hl : lv_has ls 3 [(0, .ref q), (1, .int (lB y))] := hl
  have hL := ca_L01 y
  refine w_cut (α := Int32) (fun a ls => lv_has ls 3 [(0, .ref q), (1, .int (lB y))] ∧ a.toInt = ca_L y) (fun a ls => F0 mi 9 ls [.int a]) ?_ ?_
  · rintro a ls ⟨hl, ha⟩
    refine lv_istore_n (lv' := [(2, .int a), (0, .ref q), (1, .int (lB y))]) hx hb dX8_firstDayOfYear_9 rfl hl (by decide) rfl (fun ls hl => ?_)
    refine lv_aload_n hx hb dX8_firstDayOfYear_10 rfl (lv_at hl 1 rfl) ?_
    have g11 : fMo q j fF s s.heap := hF
    refine vp_callSi (va_Run.run (va_runU (As := []) (rest := []) ⟨hx, hb, hml, hown, hts⟩ (metJ0_ordinal l q j) (va_cwU 0 hts (lw_app (fun w hw => by simp only [List.mem_cons, List.not_mem_nil, or_false] at hw; rcases hw with e9 | e9 | e9 | e9 | e9 <;> rw [e9] <;> first | exact q621 | exact q622 | exact q624 | exact q625 | exact q7) (lw_meth q626)) rfl rfl rfl rfl (by decide +kernel) ⟨Nat.le_of_ble_eq_true rfl, Nat.le_of_ble_eq_true rfl⟩) (pV_start (F := fMo q j fF) fMo_mv (cs_recv (g11.1)) g11) rfl rfl hl.1 rfl (lv_room (Nat.le_of_ble_eq_true rfl)) dX8_firstDayOfYear_11 ⟨Nat.le_of_ble_eq_true rfl, Nat.le_of_ble_eq_true rfl⟩)) (fun r11 pr11 => ?_)
    have pr11 : r11 = nI j := pr11
    have pr11 := pr11.symm
    subst pr11
    rcases (show j = 0 ∨ j = 1 ∨ j = 2 ∨ j = 3 ∨ j = 4 ∨ j = 5 ∨ j = 6 ∨ j = 7 ∨ j = 8 ∨ j = 9 ∨ j = 10 ∨ j = 11 by omega) with rfl | rfl | rfl | rfl | rfl | rfl | rfl | rfl | rfl | rfl | rfl | rfl
    · refine lv_tableIn (tgt := 76) (off := 62) hx hb dX8_firstDayOfYear_14 (by decide +kernel) (by decide +kernel) (by decide +kernel) (by decide) ?_
      refine lv_iconst (v := 1) hx hb dX8_firstDayOfYear_76 (by decide +kernel) ?_
      have z9 : ca_cum (ca_L y) (((0 : Nat) : Int) + 1) = 0 := rfl
      exact W.iret (v := 1) hx hb hr (fun t ht hW => ⟨_, rfl, by rw [z9]; decide +kernel, ht⟩) (fun q h => by cases h) dX8_firstDayOfYear_77
    · refine lv_tableIn (tgt := 78) (off := 64) hx hb dX8_firstDayOfYear_14 (by decide +kernel) (by decide +kernel) (by decide +kernel) (by decide) ?_
      refine lv_bipush (v := 32) hx hb dX8_firstDayOfYear_78 (by decide +kernel) ?_
      have z9 : ca_cum (ca_L y) (((1 : Nat) : Int) + 1) = 31 := rfl
      exact W.iret (v := 32) hx hb hr (fun t ht hW => ⟨_, rfl, by rw [z9]; decide +kernel, ht⟩) (fun q h => by cases h) dX8_firstDayOfYear_80
    · refine lv_tableIn (tgt := 81) (off := 67) hx hb dX8_firstDayOfYear_14 (by decide +kernel) (by decide +kernel) (by decide +kernel) (by decide) ?_
      refine lv_bipush (v := 60) hx hb dX8_firstDayOfYear_81 (by decide +kernel) ?_
      refine lv_iload_n hx hb dX8_firstDayOfYear_83 rfl (lv_at hl 0 rfl) ?_
      refine lv_iadd hx hb dX8_firstDayOfYear_84 ?_
      refine lv_topi (fun v84 ev84 => ?_)
      have tv84 : v84.toInt = 60 + (ca_L y) := ii_add ev84 (by decide +kernel) ha (by omega) (by omega)
      have z9 : ca_cum (ca_L y) (((2 : Nat) : Int) + 1) = 59 + ca_L y + 0 := rfl
      exact W.iret (v := v84) hx hb hr (fun t ht hW => ⟨_, rfl, by rw [z9]; omega, ht⟩) (fun q h => by cases h) dX8_firstDayOfYear_85
    · refine lv_tableIn (tgt := 86) (off := 72) hx hb dX8_firstDayOfYear_14 (by decide +kernel) (by decide +kernel) (by decide +kernel) (by decide) ?_
      refine lv_bipush (v := 91) hx hb dX8_firstDayOfYear_86 (by decide +kernel) ?_
      refine lv_iload_n hx hb dX8_firstDayOfYear_88 rfl (lv_at hl 0 rfl) ?_
      refine lv_iadd hx hb dX8_firstDayOfYear_89 ?_
      refine lv_topi (fun v89 ev89 => ?_)
      have tv89 : v89.toInt = 91 + (ca_L y) := ii_add ev89 (by decide +kernel) ha (by omega) (by omega)
      have z9 : ca_cum (ca_L y) (((3 : Nat) : Int) + 1) = 59 + ca_L y + 31 := rfl
      exact W.iret (v := v89) hx hb hr (fun t ht hW => ⟨_, rfl, by rw [z9]; omega, ht⟩) (fun q h => by cases h) dX8_firstDayOfYear_90
    · refine lv_tableIn (tgt := 91) (off := 77) hx hb dX8_firstDayOfYear_14 (by decide +kernel) (by decide +kernel) (by decide +kernel) (by decide) ?_
      refine lv_bipush (v := 121) hx hb dX8_firstDayOfYear_91 (by decide +kernel) ?_
      refine lv_iload_n hx hb dX8_firstDayOfYear_93 rfl (lv_at hl 0 rfl) ?_
      refine lv_iadd hx hb dX8_firstDayOfYear_94 ?_
      refine lv_topi (fun v94 ev94 => ?_)
      have tv94 : v94.toInt = 121 + (ca_L y) := ii_add ev94 (by decide +kernel) ha (by omega) (by omega)
      have z9 : ca_cum (ca_L y) (((4 : Nat) : Int) + 1) = 59 + ca_L y + 61 := rfl
      exact W.iret (v := v94) hx hb hr (fun t ht hW => ⟨_, rfl, by rw [z9]; omega, ht⟩) (fun q h => by cases h) dX8_firstDayOfYear_95
    · refine lv_tableIn (tgt := 96) (off := 82) hx hb dX8_firstDayOfYear_14 (by decide +kernel) (by decide +kernel) (by decide +kernel) (by decide) ?_
      refine lv_sipush (v := 152) hx hb dX8_firstDayOfYear_96 (by decide +kernel) ?_
      refine lv_iload_n hx hb dX8_firstDayOfYear_99 rfl (lv_at hl 0 rfl) ?_
      refine lv_iadd hx hb dX8_firstDayOfYear_100 ?_
      refine lv_topi (fun v100 ev100 => ?_)
      have tv100 : v100.toInt = 152 + (ca_L y) := ii_add ev100 (by decide +kernel) ha (by omega) (by omega)
      have z9 : ca_cum (ca_L y) (((5 : Nat) : Int) + 1) = 59 + ca_L y + 92 := rfl
      exact W.iret (v := v100) hx hb hr (fun t ht hW => ⟨_, rfl, by rw [z9]; omega, ht⟩) (fun q h => by cases h) dX8_firstDayOfYear_101
    · refine lv_tableIn (tgt := 102) (off := 88) hx hb dX8_firstDayOfYear_14 (by decide +kernel) (by decide +kernel) (by decide +kernel) (by decide) ?_
      refine lv_sipush (v := 182) hx hb dX8_firstDayOfYear_102 (by decide +kernel) ?_
      refine lv_iload_n hx hb dX8_firstDayOfYear_105 rfl (lv_at hl 0 rfl) ?_
      refine lv_iadd hx hb dX8_firstDayOfYear_106 ?_
      refine lv_topi (fun v106 ev106 => ?_)
      have tv106 : v106.toInt = 182 + (ca_L y) := ii_add ev106 (by decide +kernel) ha (by omega) (by omega)
      have z9 : ca_cum (ca_L y) (((6 : Nat) : Int) + 1) = 59 + ca_L y + 122 := rfl
      exact W.iret (v := v106) hx hb hr (fun t ht hW => ⟨_, rfl, by rw [z9]; omega, ht⟩) (fun q h => by cases h) dX8_firstDayOfYear_107
    · refine lv_tableIn (tgt := 108) (off := 94) hx hb dX8_firstDayOfYear_14 (by decide +kernel) (by decide +kernel) (by decide +kernel) (by decide) ?_
      refine lv_sipush (v := 213) hx hb dX8_firstDayOfYear_108 (by decide +kernel) ?_
      refine lv_iload_n hx hb dX8_firstDayOfYear_111 rfl (lv_at hl 0 rfl) ?_
      refine lv_iadd hx hb dX8_firstDayOfYear_112 ?_
      refine lv_topi (fun v112 ev112 => ?_)
      have tv112 : v112.toInt = 213 + (ca_L y) := ii_add ev112 (by decide +kernel) ha (by omega) (by omega)
      have z9 : ca_cum (ca_L y) (((7 : Nat) : Int) + 1) = 59 + ca_L y + 153 := rfl
      exact W.iret (v := v112) hx hb hr (fun t ht hW => ⟨_, rfl, by rw [z9]; omega, ht⟩) (fun q h => by cases h) dX8_firstDayOfYear_113
    · refine lv_tableIn (tgt := 114) (off := 100) hx hb dX8_firstDayOfYear_14 (by decide +kernel) (by decide +kernel) (by decide +kernel) (by decide) ?_
      refine lv_sipush (v := 244) hx hb dX8_firstDayOfYear_114 (by decide +kernel) ?_
      refine lv_iload_n hx hb dX8_firstDayOfYear_117 rfl (lv_at hl 0 rfl) ?_
      refine lv_iadd hx hb dX8_firstDayOfYear_118 ?_
      refine lv_topi (fun v118 ev118 => ?_)
      have tv118 : v118.toInt = 244 + (ca_L y) := ii_add ev118 (by decide +kernel) ha (by omega) (by omega)
      have z9 : ca_cum (ca_L y) (((8 : Nat) : Int) + 1) = 59 + ca_L y + 184 := rfl
      exact W.iret (v := v118) hx hb hr (fun t ht hW => ⟨_, rfl, by rw [z9]; omega, ht⟩) (fun q h => by cases h) dX8_firstDayOfYear_119
    · refine lv_tableIn (tgt := 120) (off := 106) hx hb dX8_firstDayOfYear_14 (by decide +kernel) (by decide +kernel) (by decide +kernel) (by decide) ?_
      refine lv_sipush (v := 274) hx hb dX8_firstDayOfYear_120 (by decide +kernel) ?_
      refine lv_iload_n hx hb dX8_firstDayOfYear_123 rfl (lv_at hl 0 rfl) ?_
      refine lv_iadd hx hb dX8_firstDayOfYear_124 ?_
      refine lv_topi (fun v124 ev124 => ?_)
      have tv124 : v124.toInt = 274 + (ca_L y) := ii_add ev124 (by decide +kernel) ha (by omega) (by omega)
      have z9 : ca_cum (ca_L y) (((9 : Nat) : Int) + 1) = 59 + ca_L y + 214 := rfl
      exact W.iret (v := v124) hx hb hr (fun t ht hW => ⟨_, rfl, by rw [z9]; omega, ht⟩) (fun q h => by cases h) dX8_firstDayOfYear_125
    · refine lv_tableIn (tgt := 126) (off := 112) hx hb dX8_firstDayOfYear_14 (by decide +kernel) (by decide +kernel) (by decide +kernel) (by decide) ?_
      refine lv_sipush (v := 305) hx hb dX8_firstDayOfYear_126 (by decide +kernel) ?_
      refine lv_iload_n hx hb dX8_firstDayOfYear_129 rfl (lv_at hl 0 rfl) ?_
      refine lv_iadd hx hb dX8_firstDayOfYear_130 ?_
      refine lv_topi (fun v130 ev130 => ?_)
      have tv130 : v130.toInt = 305 + (ca_L y) := ii_add ev130 (by decide +kernel) ha (by omega) (by omega)
      have z9 : ca_cum (ca_L y) (((10 : Nat) : Int) + 1) = 59 + ca_L y + 245 := rfl
      exact W.iret (v := v130) hx hb hr (fun t ht hW => ⟨_, rfl, by rw [z9]; omega, ht⟩) (fun q h => by cases h) dX8_firstDayOfYear_131
    · refine lv_tableIn (tgt := 132) (off := 118) hx hb dX8_firstDayOfYear_14 (by decide +kernel) (by decide +kernel) (by decide +kernel) (by decide) ?_
      refine lv_sipush (v := 335) hx hb dX8_firstDayOfYear_132 (by decide +kernel) ?_
      refine lv_iload_n hx hb dX8_firstDayOfYear_135 rfl (lv_at hl 0 rfl) ?_
      refine lv_iadd hx hb dX8_firstDayOfYear_136 ?_
      refine lv_topi (fun v136 ev136 => ?_)
      have tv136 : v136.toInt = 335 + (ca_L y) := ii_add ev136 (by decide +kernel) ha (by omega) (by omega)
      have z9 : ca_cum (ca_L y) (((11 : Nat) : Int) + 1) = 59 + ca_L y + 275 := rfl
      exact W.iret (v := v136) hx hb hr (fun t ht hW => ⟨_, rfl, by rw [z9]; omega, ht⟩) (fun q h => by cases h) dX8_firstDayOfYear_137
  · intro hj9
    refine lv_iload_n hx hb dX8_firstDayOfYear_0 rfl (lv_at hl 1 rfl) ?_
    refine lv_if_eq (tgt := 8) hx hb dX8_firstDayOfYear_1 (by decide) (fun c1 => ?_) (fun c1 => ?_)
    · have k_1 : (ca_L y) = 0 := (ic_eq (X := (ca_L y)) (Y := 0) (lB_I y) (by decide +kernel)).mp c1
      refine lv_iconst (v := 0) hx hb dX8_firstDayOfYear_8 (by decide +kernel) ?_
      have h2 : ca_L y = 0 := k_1
      exact hj9 0 ls ⟨hl, by rw [h2]; decide +kernel⟩
    · have k_1 : ¬ (ca_L y) = 0 := fun c0 => c1 ((ic_eq (X := (ca_L y)) (Y := 0) (lB_I y) (by decide +kernel)).mpr c0)
      refine lv_iconst (v := 1) hx hb dX8_firstDayOfYear_4 (by decide +kernel) ?_
      refine lv_goto (tgt := 9) hx hb dX8_firstDayOfYear_5 (by decide) ?_
      have h2 : ca_L y = 1 := by omega
      exact hj9 1 ls ⟨hl, by rw [h2]; decide +kernel⟩
end
section
set_option maxHeartbeats 4000000 in
set_option maxRecDepth 100000 in
/-- LocalDate.getYear() -/
theorem metX5_getYear (l : Launch) (k : Nat → Nat) (q : Nat) (y m d : Int32)  : Met l yX5_getYear (ws_ yX5_getYear cX5_getYear 1 (some .int)) ({ frames := 0, cells := 0, slots := 0, locals := 0 }) (va_Pc [.ref q] (fun U => fCL k q y m d U U.heap)) (vp_Si (fun r => r = y)) 0 0 (fun _ => False) := by
  refine Met.ofW (cc := cX5_getYear) (maxL := 1) (ret := (some .int)) (by decide) rfl ?_
  intro p e s mi args below me_ c s₁ B hml hv
  obtain ⟨rfl, hF⟩ := hv
  have hF : fCL k q y m d s s.heap := hF
  have hx := B.exec
  have hb := B.bytes
  have hr := B.returns
  have hts := atoms_spec (ws := ws_ yX5_getYear cX5_getYear 1 (some .int)) B.pre
  have hts : ∀ w ∈ lw_all, w.before _ s = true := fun w h => hts w (List.mem_cons_of_mem _ h)
  have hown : s.vm.findClass RX5 = some mi.cls := findClass_of_methodNamed B.named
  have hlocks := B.notSynchronized
  have hl := lv_entry ([.ref q]) (n := 1) (Nat.le_of_ble_eq_true rfl)
  rw [lg_entry_eq]
  generalize (lg_sl ([.ref q]) ++ List.replicate (1 - (lg_sl ([.ref q])).length) Slot.unset).toArray = ls at hl ⊢
  have hl : lv_has ls 1 [(0, .ref q)] := hl
  refine lv_aload_n hx hb dX5_getYear_0 rfl (lv_at hl 0 rfl) ?_
  refine cs_get hx hb hF.2.2.1 hown (hts _ q514) (fun _ h9 => h9) dX5_getYear_1 ?_
  exact W.iret (v := y) hx hb hr (fun t ht hW => ⟨_, rfl, rfl, ht⟩) (fun q h => by cases h) dX5_getYear_4
set_option maxHeartbeats 4000000 in
set_option maxRecDepth 100000 in
/-- LocalDate.getMonthValue() -/
theorem metX5_getMonthValue (l : Launch) (k : Nat → Nat) (q : Nat) (y m d : Int32)  : Met l yX5_getMonthValue (ws_ yX5_getMonthValue cX5_getMonthValue 1 (some .int)) ({ frames := 0, cells := 0, slots := 0, locals := 0 }) (va_Pc [.ref q] (fun U => fCL k q y m d U U.heap)) (vp_Si (fun r => r = m)) 0 0 (fun _ => False) := by
  refine Met.ofW (cc := cX5_getMonthValue) (maxL := 1) (ret := (some .int)) (by decide) rfl ?_
  intro p e s mi args below me_ c s₁ B hml hv
  obtain ⟨rfl, hF⟩ := hv
  have hF : fCL k q y m d s s.heap := hF
  have hx := B.exec
  have hb := B.bytes
  have hr := B.returns
  have hts := atoms_spec (ws := ws_ yX5_getMonthValue cX5_getMonthValue 1 (some .int)) B.pre
  have hts : ∀ w ∈ lw_all, w.before _ s = true := fun w h => hts w (List.mem_cons_of_mem _ h)
  have hown : s.vm.findClass RX5 = some mi.cls := findClass_of_methodNamed B.named
  have hlocks := B.notSynchronized
  have hl := lv_entry ([.ref q]) (n := 1) (Nat.le_of_ble_eq_true rfl)
  rw [lg_entry_eq]
  generalize (lg_sl ([.ref q]) ++ List.replicate (1 - (lg_sl ([.ref q])).length) Slot.unset).toArray = ls at hl ⊢
  have hl : lv_has ls 1 [(0, .ref q)] := hl
  refine lv_aload_n hx hb dX5_getMonthValue_0 rfl (lv_at hl 0 rfl) ?_
  refine cs_get hx hb hF.2.2.2.1 hown (hts _ q515) (fun _ h9 => h9) dX5_getMonthValue_1 ?_
  exact W.iret (v := m) hx hb hr (fun t ht hW => ⟨_, rfl, rfl, ht⟩) (fun q h => by cases h) dX5_getMonthValue_4
set_option maxHeartbeats 4000000 in
set_option maxRecDepth 100000 in
/-- LocalDate.getDayOfMonth() -/
theorem metX5_getDayOfMonth (l : Launch) (k : Nat → Nat) (q : Nat) (y m d : Int32)  : Met l yX5_getDayOfMonth (ws_ yX5_getDayOfMonth cX5_getDayOfMonth 1 (some .int)) ({ frames := 0, cells := 0, slots := 0, locals := 0 }) (va_Pc [.ref q] (fun U => fCL k q y m d U U.heap)) (vp_Si (fun r => r = d)) 0 0 (fun _ => False) := by
  refine Met.ofW (cc := cX5_getDayOfMonth) (maxL := 1) (ret := (some .int)) (by decide) rfl ?_
  intro p e s mi args below me_ c s₁ B hml hv
  obtain ⟨rfl, hF⟩ := hv
  have hF : fCL k q y m d s s.heap := hF
  have hx := B.exec
  have hb := B.bytes
  have hr := B.returns
  have hts := atoms_spec (ws := ws_ yX5_getDayOfMonth cX5_getDayOfMonth 1 (some .int)) B.pre
  have hts : ∀ w ∈ lw_all, w.before _ s = true := fun w h => hts w (List.mem_cons_of_mem _ h)
  have hown : s.vm.findClass RX5 = some mi.cls := findClass_of_methodNamed B.named
  have hlocks := B.notSynchronized
  have hl := lv_entry ([.ref q]) (n := 1) (Nat.le_of_ble_eq_true rfl)
  rw [lg_entry_eq]
  generalize (lg_sl ([.ref q]) ++ List.replicate (1 - (lg_sl ([.ref q])).length) Slot.unset).toArray = ls at hl ⊢
  have hl : lv_has ls 1 [(0, .ref q)] := hl
  refine lv_aload_n hx hb dX5_getDayOfMonth_0 rfl (lv_at hl 0 rfl) ?_
  refine cs_get hx hb hF.2.2.2.2 hown (hts _ q516) (fun _ h9 => h9) dX5_getDayOfMonth_1 ?_
  exact W.iret (v := d) hx hb hr (fun t ht hW => ⟨_, rfl, rfl, ht⟩) (fun q h => by cases h) dX5_getDayOfMonth_4
set_option maxHeartbeats 4000000 in
set_option maxRecDepth 100000 in
/-- LocalDate.getMonth() -/
theorem metX5_getMonth (l : Launch) (k : Nat → Nat) (q : Nat) (y m d : Int32) (h1 : 1 ≤ m.toInt) (h2 : m.toInt ≤ 12) : Met l yX5_getMonth (ws_ yX5_getMonth cX5_getMonth 1 (some (.object "Month"))) ({ frames := 1, cells := 0, slots := 0, locals := 20 }) (va_Pc [.ref q] (fun U => fCL k q y m d U U.heap)) (va_Sr (fun a9 => a9 = k (6 + (m.toInt - 1).toNat)) Value.ref) 0 0 (fun _ => False) := by
  refine Met.ofW (cc := cX5_getMonth) (maxL := 1) (ret := (some (.object "Month"))) (by decide) rfl ?_
  intro p e s mi args below me_ c s₁ B hml hv
  obtain ⟨rfl, hF⟩ := hv
  have hF : fCL k q y m d s s.heap := hF
  have hx := B.exec
  have hb := B.bytes
  have hr := B.returns
  have hts := atoms_spec (ws := ws_ yX5_getMonth cX5_getMonth 1 (some (.object "Month"))) B.pre
  have hts : ∀ w ∈ lw_all, w.before _ s = true := fun w h => hts w (List.mem_cons_of_mem _ h)
  have hown : s.vm.findClass RX5 = some mi.cls := findClass_of_methodNamed B.named
  have hlocks := B.notSynchronized
  have hl := lv_entry ([.ref q]) (n := 1) (Nat.le_of_ble_eq_true rfl)
  rw [lg_entry_eq]
  generalize (lg_sl ([.ref q]) ++ List.replicate (1 - (lg_sl ([.ref q])).length) Slot.unset).toArray = ls at hl ⊢
  have hl : lv_has ls 1 [(0, .ref q)] := hl
  refine lv_aload_n hx hb dX5_getMonth_0 rfl (lv_at hl 0 rfl) ?_
  refine cs_get hx hb hF.2.2.2.1 hown (hts _ q515) (fun _ h9 => h9) dX5_getMonth_1 ?_
  have g4 : cst k fF s s.heap := hF.1
  refine va_csr (W.runS (As := [.int m]) (rest := []) ⟨hx, hb, hml, hown, hts⟩ (metX8_of l k m h1 h2) (va_cwS 1 hts (lw_S q571 q572 q26 q573) rfl rfl rfl (by decide +kernel) ⟨Nat.le_of_ble_eq_true rfl, Nat.le_of_ble_eq_true rfl⟩) (pS_start (F := cst k fF) cst_mv g4) rfl rfl hl.1 rfl (lv_room (Nat.le_of_ble_eq_true rfl)) dX5_getMonth_4 ⟨Nat.le_of_ble_eq_true rfl, Nat.le_of_ble_eq_true rfl⟩) (fun r4 pr4 => ?_)
  have pr4 : r4 = k (6 + (m.toInt - 1).toNat) := pr4
  exact W.aret (v := .ref r4) hx hb hr (Or.inl ⟨_, rfl⟩) (Or.inr ⟨_, rfl⟩) (fun t ht hW => ⟨_, rfl, pr4, ht⟩) (fun q h => by cases h) dX5_getMonth_7
set_option maxHeartbeats 4000000 in
set_option maxRecDepth 100000 in
/-- LocalDate.isLeapYear() -/
theorem metX5_isLeapYear (l : Launch) (k : Nat → Nat) (q : Nat) (y m d : Int32)  : Met l yX5_isLeapYear (ws_ yX5_isLeapYear cX5_isLeapYear 1 (some .boolean)) ({ frames := 1, cells := 0, slots := 0, locals := 22 }) (va_Pc [.ref q] (fun U => fCL k q y m d U U.heap)) (vp_Si (fun r => r = lB y.toInt)) 0 0 (fun _ => False) := by
  refine Met.ofW (cc := cX5_isLeapYear) (maxL := 1) (ret := (some .boolean)) (by decide) rfl ?_
  intro p e s mi args below me_ c s₁ B hml hv
  obtain ⟨rfl, hF⟩ := hv
  have hF : fCL k q y m d s s.heap := hF
  have hx := B.exec
  have hb := B.bytes
  have hr := B.returns
  have hts := atoms_spec (ws := ws_ yX5_isLeapYear cX5_isLeapYear 1 (some .boolean)) B.pre
  have hts : ∀ w ∈ lw_all, w.before _ s = true := fun w h => hts w (List.mem_cons_of_mem _ h)
  have hown : s.vm.findClass RX5 = some mi.cls := findClass_of_methodNamed B.named
  have hlocks := B.notSynchronized
  have hl := lv_entry ([.ref q]) (n := 1) (Nat.le_of_ble_eq_true rfl)
  rw [lg_entry_eq]
  generalize (lg_sl ([.ref q]) ++ List.replicate (1 - (lg_sl ([.ref q])).length) Slot.unset).toArray = ls at hl ⊢
  have hl : lv_has ls 1 [(0, .ref q)] := hl
  refine cs_gets hx hb hF.1.2.2.1.1 hown (hts _ q608) (fun _ h9 => h9) dX5_isLeapYear_0 ?_
  refine lv_aload_n hx hb dX5_isLeapYear_3 rfl (lv_at hl 0 rfl) ?_
  refine cs_get hx hb hF.2.2.1 hown (hts _ q514) (fun _ h9 => h9) dX5_isLeapYear_4 ?_
  refine lv_i2l (v := (y).toInt64) hx hb dX5_isLeapYear_7 rfl ?_
  refine lv_topl (fun v7 ev7 => ?_)
  have tv7 : v7.toInt = y.toInt := ll_i2l ev7 rfl
  have g8 : fNo s s.heap := trivial
  refine vp_callSi (W.runV (As := [.long v7]) (rest := []) ⟨hx, hb, hml, hown, hts⟩ (metX9_isLeapYear l (k 4) v7) (cwV 1 hts (lw_V q610 q611 q612 q28 q613) rfl rfl rfl (by decide +kernel) ⟨Nat.le_of_ble_eq_true rfl, Nat.le_of_ble_eq_true rfl⟩) (pV_start (F := fNo) fNo_mv (cs_recv (hF.1.2.2.1.2)) g8) rfl rfl hl.1 rfl (lv_room (Nat.le_of_ble_eq_true rfl)) dX5_isLeapYear_8 ⟨Nat.le_of_ble_eq_true rfl, Nat.le_of_ble_eq_true rfl⟩) (fun r8 pr8 => ?_)
  have pr8 : r8 = lB v7.toInt := pr8
  rw [tv7] at pr8
  exact W.zret (v := r8) hx hb hr (by rw [pr8]; exact lB_nar _) (fun t ht hW => ⟨_, rfl, pr8, ht⟩) (fun q h => by cases h) dX5_isLeapYear_11
set_option maxHeartbeats 4000000 in
set_option maxRecDepth 100000 in
/-- LocalDate.getDayOfYear() -/
theorem metX5_getDayOfYear (l : Launch) (k : Nat → Nat) (q : Nat) (y m d : Int32) (h1 : 1 ≤ m.toInt) (h2 : m.toInt ≤ 12) (h3 : 1 ≤ d.toInt) (h4 : d.toInt ≤ 31) : Met l yX5_getDayOfYear (ws_ yX5_getDayOfYear cX5_getDayOfYear 1 (some .int)) ({ frames := 2, cells := 0, slots := 0, locals := 42 }) (va_Pc [.ref q] (fun U => fCL k q y m d U U.heap)) (vp_Si (fun r => r.toInt = ca_cum (ca_L y.toInt) m.toInt + d.toInt)) 0 0 (fun _ => False) := by
  refine Met.ofW (cc := cX5_getDayOfYear) (maxL := 1) (ret := (some .int)) (by decide) rfl ?_
  intro p e s mi args below me_ c s₁ B hml hv
  obtain ⟨rfl, hF⟩ := hv
  have hF : fCL k q y m d s s.heap := hF
  have hx := B.exec
  have hb := B.bytes
  have hr := B.returns
  have hts := atoms_spec (ws := ws_ yX5_getDayOfYear cX5_getDayOfYear 1 (some .int)) B.pre
  have hts : ∀ w ∈ lw_all, w.before _ s = true := fun w h => hts w (List.mem_cons_of_mem _ h)
  have hown : s.vm.findClass RX5 = some mi.cls := findClass_of_methodNamed B.named
  have hlocks := B.notSynchronized
  have hl := lv_entry ([.ref q]) (n := 1) (Nat.le_of_ble_eq_true rfl)
  rw [lg_entry_eq]
  generalize (lg_sl ([.ref q]) ++ List.replicate (1 - (lg_sl ([.ref q])).length) Slot.unset).toArray = ls at hl ⊢
  have hl : lv_has ls 1 [(0, .ref q)] := hl
  have hcb := ca_cumb (y := y.toInt) h1 h2
  refine lv_aload_n hx hb dX5_getDayOfYear_0 rfl (lv_at hl 0 rfl) ?_
  have g1 : fCL k q y m d s s.heap := hF
  refine va_csr (W.runV (As := []) (rest := []) ⟨hx, hb, hml, hown, hts⟩ (metX5_getMonth l k q y m d h1 h2) (cwV 0 hts (lw_V q567 q568 q569 q6 q570) rfl rfl rfl (by decide +kernel) ⟨Nat.le_of_ble_eq_true rfl, Nat.le_of_ble_eq_true rfl⟩) (pV_start (F := fCL k q y m d) fCL_mv (cs_recv (g1.2.1)) g1) rfl rfl hl.1 rfl (lv_room (Nat.le_of_ble_eq_true rfl)) dX5_getDayOfYear_1 ⟨Nat.le_of_ble_eq_true rfl, Nat.le_of_ble_eq_true rfl⟩) (fun r1 pr1 => ?_)
  have pr1 : r1 = k (6 + (m.toInt - 1).toNat) := pr1
  have pr1 := pr1.symm
  subst pr1
  refine lv_aload_n hx hb dX5_getDayOfYear_4 rfl (lv_at hl 0 rfl) ?_
  have g5 : fCL k q y m d s s.heap := hF
  refine vp_callSi (W.runV (As := []) (rest := [.ref (k (6 + (m.toInt - 1).toNat))]) ⟨hx, hb, hml, hown, hts⟩ (metX5_isLeapYear l k q y m d) (cwV 0 hts (lw_V q604 q605 q606 q6 q607) rfl rfl rfl (by decide +kernel) ⟨Nat.le_of_ble_eq_true rfl, Nat.le_of_ble_eq_true rfl⟩) (pV_start (F := fCL k q y m d) fCL_mv (cs_recv (g5.2.1)) g5) rfl rfl hl.1 rfl (lv_room (Nat.le_of_ble_eq_true rfl)) dX5_getDayOfYear_5 ⟨Nat.le_of_ble_eq_true rfl, Nat.le_of_ble_eq_true rfl⟩) (fun r5 pr5 => ?_)
  have pr5 : r5 = lB y.toInt := pr5
  have pr5 := pr5.symm
  subst pr5
  have g8 : fMo (k (6 + (m.toInt - 1).toNat)) (m.toInt - 1).toNat fF s s.heap := hF.1.2.2.2.2 _ (by omega)
  refine vp_callSi (W.runV (As := [.int (lB y.toInt)]) (rest := []) ⟨hx, hb, hml, hown, hts⟩ (metX8_firstDayOfYear l (k (6 + (m.toInt - 1).toNat)) (m.toInt - 1).toNat y.toInt (by omega)) (cwV 1 hts (lw_V q617 q618 q619 q26 q620) rfl rfl rfl (by decide +kernel) ⟨Nat.le_of_ble_eq_true rfl, Nat.le_of_ble_eq_true rfl⟩) (pV_start (F := fMo (k (6 + (m.toInt - 1).toNat)) (m.toInt - 1).toNat fF) fMo_mv (cs_recv (g8.1)) g8) rfl rfl hl.1 rfl (lv_room (Nat.le_of_ble_eq_true rfl)) dX5_getDayOfYear_8 ⟨Nat.le_of_ble_eq_true rfl, Nat.le_of_ble_eq_true rfl⟩) (fun r8 pr8 => ?_)
  have pr8 : r8.toInt = ca_cum (ca_L y.toInt) ((((m.toInt - 1).toNat : Nat) : Int) + 1) + 1 := pr8
  rw [show ((((m.toInt - 1).toNat : Nat) : Int) + 1) = m.toInt by omega] at pr8
  refine lv_aload_n hx hb dX5_getDayOfYear_11 rfl (lv_at hl 0 rfl) ?_
  refine cs_get hx hb hF.2.2.2.2 hown (hts _ q516) (fun _ h9 => h9) dX5_getDayOfYear_12 ?_
  refine lv_iadd hx hb dX5_getDayOfYear_15 ?_
  refine lv_topi (fun v15 ev15 => ?_)
  have tv15 : v15.toInt = r8.toInt + d.toInt := ii_add ev15 rfl rfl (by omega) (by omega)
  refine lv_iconst (v := 1) hx hb dX5_getDayOfYear_16 (by decide +kernel) ?_
  refine lv_isub hx hb dX5_getDayOfYear_17 ?_
  refine lv_topi (fun v17 ev17 => ?_)
  have tv17 : v17.toInt = v15.toInt - 1 := ii_sub ev17 rfl (by decide +kernel) (by omega) (by omega)
  exact W.iret (v := v17) hx hb hr (fun t ht hW => ⟨_, rfl, by show v17.toInt = ca_cum (ca_L y.toInt) m.toInt + d.toInt; omega, ht⟩) (fun q h => by cases h) dX5_getDayOfYear_18
set_option maxHeartbeats 4000000 in
set_option maxRecDepth 100000 in
/-- LocalDate.lengthOfMonth() -/
theorem metX5_lengthOfMonth (l : Launch) (k : Nat → Nat) (q : Nat) (y m d : Int32) (h1 : 1 ≤ m.toInt) (h2 : m.toInt ≤ 12) : Met l yX5_lengthOfMonth (ws_ yX5_lengthOfMonth cX5_lengthOfMonth 1 (some .int)) ({ frames := 2, cells := 0, slots := 0, locals := 42 }) (va_Pc [.ref q] (fun U => fCL k q y m d U U.heap)) (vp_Si (fun r => r.toInt = ca_ln (ca_L y.toInt) m.toInt)) 0 0 (fun _ => False) := by
  refine Met.ofW (cc := cX5_lengthOfMonth) (maxL := 1) (ret := (some .int)) (by decide) rfl ?_
  intro p e s mi args below me_ c s₁ B hml hv
  obtain ⟨rfl, hF⟩ := hv
  have hF : fCL k q y m d s s.heap := hF
  have hx := B.exec
  have hb := B.bytes
  have hr := B.returns
  have hts := atoms_spec (ws := ws_ yX5_lengthOfMonth cX5_lengthOfMonth 1 (some .int)) B.pre
  have hts : ∀ w ∈ lw_all, w.before _ s = true := fun w h => hts w (List.mem_cons_of_mem _ h)
  have hown : s.vm.findClass RX5 = some mi.cls := findClass_of_methodNamed B.named
  have hlocks := B.notSynchronized
  have hl := lv_entry ([.ref q]) (n := 1) (Nat.le_of_ble_eq_true rfl)
  rw [lg_entry_eq]
  generalize (lg_sl ([.ref q]) ++ List.replicate (1 - (lg_sl ([.ref q])).length) Slot.unset).toArray = ls at hl ⊢
  have hl : lv_has ls 1 [(0, .ref q)] := hl
  refine lv_aload_n hx hb dX5_lengthOfMonth_0 rfl (lv_at hl 0 rfl) ?_
  refine cs_get hx hb hF.2.2.2.1 hown (hts _ q515) (fun _ h9 => h9) dX5_lengthOfMonth_1 ?_
  have hL := ca_L01 y.toInt
  rcases ca_month h1 h2 with hm | hm | hm | hm | hm | hm | hm | hm | hm | hm | hm | hm
  · refine lv_tableOut (tgt := 78) hx hb dX5_lengthOfMonth_4 (by omega) (by decide) ?_
    refine lv_bipush (v := 31) hx hb dX5_lengthOfMonth_78 (by decide +kernel) ?_
    exact W.iret (v := 31) hx hb hr (fun t ht hW => ⟨_, rfl, by show (31 : Int32).toInt = ca_ln (ca_L y.toInt) m.toInt; rw [hm]; show _ = (31 : Int); decide +kernel, ht⟩) (fun q h => by cases h) dX5_lengthOfMonth_80
  · refine lv_tableIn (tgt := 60) (off := 56) hx hb dX5_lengthOfMonth_4 (by omega) (by omega) (by rw [hm]; rfl) (by decide) ?_
    refine lv_aload_n hx hb dX5_lengthOfMonth_60 rfl (lv_at hl 0 rfl) ?_
    have g61 : fCL k q y m d s s.heap := hF
    refine vp_callSi (W.runV (As := []) (rest := []) ⟨hx, hb, hml, hown, hts⟩ (metX5_isLeapYear l k q y m d) (cwV 0 hts (lw_V q604 q605 q606 q6 q607) rfl rfl rfl (by decide +kernel) ⟨Nat.le_of_ble_eq_true rfl, Nat.le_of_ble_eq_true rfl⟩) (pV_start (F := fCL k q y m d) fCL_mv (cs_recv (g61.2.1)) g61) rfl rfl hl.1 rfl (lv_room (Nat.le_of_ble_eq_true rfl)) dX5_lengthOfMonth_61 ⟨Nat.le_of_ble_eq_true rfl, Nat.le_of_ble_eq_true rfl⟩) (fun r61 pr61 => ?_)
    have pr61 : r61 = lB y.toInt := pr61
    have pr61 := pr61.symm
    subst pr61
    refine lv_if_eq (tgt := 72) hx hb dX5_lengthOfMonth_64 (by decide) (fun c64 => ?_) (fun c64 => ?_)
    · have k_64 : (ca_L y.toInt) = 0 := (ic_eq (X := (ca_L y.toInt)) (Y := 0) (lB_I y.toInt) (by decide +kernel)).mp c64
      refine lv_bipush (v := 28) hx hb dX5_lengthOfMonth_72 (by decide +kernel) ?_
      have z9 : ca_ln (ca_L y.toInt) 2 = 28 + ca_L y.toInt := rfl
      have z8 : (28 : Int32).toInt = 28 := by decide +kernel
      exact W.iret (v := 28) hx hb hr (fun t ht hW => ⟨_, rfl, by show (28 : Int32).toInt = ca_ln (ca_L y.toInt) m.toInt; rw [hm, z9, z8]; omega, ht⟩) (fun q h => by cases h) dX5_lengthOfMonth_74
    · have k_64 : ¬ (ca_L y.toInt) = 0 := fun c0 => c64 ((ic_eq (X := (ca_L y.toInt)) (Y := 0) (lB_I y.toInt) (by decide +kernel)).mpr c0)
      refine lv_bipush (v := 29) hx hb dX5_lengthOfMonth_67 (by decide +kernel) ?_
      refine lv_goto (tgt := 74) hx hb dX5_lengthOfMonth_69 (by decide) ?_
      have z9 : ca_ln (ca_L y.toInt) 2 = 28 + ca_L y.toInt := rfl
      have z8 : (29 : Int32).toInt = 29 := by decide +kernel
      exact W.iret (v := 29) hx hb hr (fun t ht hW => ⟨_, rfl, by show (29 : Int32).toInt = ca_ln (ca_L y.toInt) m.toInt; rw [hm, z9, z8]; omega, ht⟩) (fun q h => by cases h) dX5_lengthOfMonth_74
  · refine lv_tableIn (tgt := 78) (off := 74) hx hb dX5_lengthOfMonth_4 (by omega) (by omega) (by rw [hm]; rfl) (by decide) ?_
    refine lv_bipush (v := 31) hx hb dX5_lengthOfMonth_78 (by decide +kernel) ?_
    exact W.iret (v := 31) hx hb hr (fun t ht hW => ⟨_, rfl, by show (31 : Int32).toInt = ca_ln (ca_L y.toInt) m.toInt; rw [hm]; show _ = (31 : Int); decide +kernel, ht⟩) (fun q h => by cases h) dX5_lengthOfMonth_80
  · refine lv_tableIn (tgt := 75) (off := 71) hx hb dX5_lengthOfMonth_4 (by omega) (by omega) (by rw [hm]; rfl) (by decide) ?_
    refine lv_bipush (v := 30) hx hb dX5_lengthOfMonth_75 (by decide +kernel) ?_
    exact W.iret (v := 30) hx hb hr (fun t ht hW => ⟨_, rfl, by show (30 : Int32).toInt = ca_ln (ca_L y.toInt) m.toInt; rw [hm]; show _ = (30 : Int); decide +kernel, ht⟩) (fun q h => by cases h) dX5_lengthOfMonth_77
  · refine lv_tableIn (tgt := 78) (off := 74) hx hb dX5_lengthOfMonth_4 (by omega) (by omega) (by rw [hm]; rfl) (by decide) ?_
    refine lv_bipush (v := 31) hx hb dX5_lengthOfMonth_78 (by decide +kernel) ?_
    exact W.iret (v := 31) hx hb hr (fun t ht hW => ⟨_, rfl, by show (31 : Int32).toInt = ca_ln (ca_L y.toInt) m.toInt; rw [hm]; show _ = (31 : Int); decide +kernel, ht⟩) (fun q h => by cases h) dX5_lengthOfMonth_80
  · refine lv_tableIn (tgt := 75) (off := 71) hx hb dX5_lengthOfMonth_4 (by omega) (by omega) (by rw [hm]; rfl) (by decide) ?_
    refine lv_bipush (v := 30) hx hb dX5_lengthOfMonth_75 (by decide +kernel) ?_
    exact W.iret (v := 30) hx hb hr (fun t ht hW => ⟨_, rfl, by show (30 : Int32).toInt = ca_ln (ca_L y.toInt) m.toInt; rw [hm]; show _ = (30 : Int); decide +kernel, ht⟩) (fun q h => by cases h) dX5_lengthOfMonth_77
  · refine lv_tableIn (tgt := 78) (off := 74) hx hb dX5_lengthOfMonth_4 (by omega) (by omega) (by rw [hm]; rfl) (by decide) ?_
    refine lv_bipush (v := 31) hx hb dX5_lengthOfMonth_78 (by decide +kernel) ?_
    exact W.iret (v := 31) hx hb hr (fun t ht hW => ⟨_, rfl, by show (31 : Int32).toInt = ca_ln (ca_L y.toInt) m.toInt; rw [hm]; show _ = (31 : Int); decide +kernel, ht⟩) (fun q h => by cases h) dX5_lengthOfMonth_80
  · refine lv_tableIn (tgt := 78) (off := 74) hx hb dX5_lengthOfMonth_4 (by omega) (by omega) (by rw [hm]; rfl) (by decide) ?_
    refine lv_bipush (v := 31) hx hb dX5_lengthOfMonth_78 (by decide +kernel) ?_
    exact W.iret (v := 31) hx hb hr (fun t ht hW => ⟨_, rfl, by show (31 : Int32).toInt = ca_ln (ca_L y.toInt) m.toInt; rw [hm]; show _ = (31 : Int); decide +kernel, ht⟩) (fun q h => by cases h) dX5_lengthOfMonth_80
  · refine lv_tableIn (tgt := 75) (off := 71) hx hb dX5_lengthOfMonth_4 (by omega) (by omega) (by rw [hm]; rfl) (by decide) ?_
    refine lv_bipush (v := 30) hx hb dX5_lengthOfMonth_75 (by decide +kernel) ?_
    exact W.iret (v := 30) hx hb hr (fun t ht hW => ⟨_, rfl, by show (30 : Int32).toInt = ca_ln (ca_L y.toInt) m.toInt; rw [hm]; show _ = (30 : Int); decide +kernel, ht⟩) (fun q h => by cases h) dX5_lengthOfMonth_77
  · refine lv_tableIn (tgt := 78) (off := 74) hx hb dX5_lengthOfMonth_4 (by omega) (by omega) (by rw [hm]; rfl) (by decide) ?_
    refine lv_bipush (v := 31) hx hb dX5_lengthOfMonth_78 (by decide +kernel) ?_
    exact W.iret (v := 31) hx hb hr (fun t ht hW => ⟨_, rfl, by show (31 : Int32).toInt = ca_ln (ca_L y.toInt) m.toInt; rw [hm]; show _ = (31 : Int); decide +kernel, ht⟩) (fun q h => by cases h) dX5_lengthOfMonth_80
  · refine lv_tableIn (tgt := 75) (off := 71) hx hb dX5_lengthOfMonth_4 (by omega) (by omega) (by rw [hm]; rfl) (by decide) ?_
    refine lv_bipush (v := 30) hx hb dX5_lengthOfMonth_75 (by decide +kernel) ?_
    exact W.iret (v := 30) hx hb hr (fun t ht hW => ⟨_, rfl, by show (30 : Int32).toInt = ca_ln (ca_L y.toInt) m.toInt; rw [hm]; show _ = (30 : Int); decide +kernel, ht⟩) (fun q h => by cases h) dX5_lengthOfMonth_77
  · refine lv_tableOut (tgt := 78) hx hb dX5_lengthOfMonth_4 (by omega) (by decide) ?_
    refine lv_bipush (v := 31) hx hb dX5_lengthOfMonth_78 (by decide +kernel) ?_
    exact W.iret (v := 31) hx hb hr (fun t ht hW => ⟨_, rfl, by show (31 : Int32).toInt = ca_ln (ca_L y.toInt) m.toInt; rw [hm]; show _ = (31 : Int); decide +kernel, ht⟩) (fun q h => by cases h) dX5_lengthOfMonth_80
end
section
set_option maxHeartbeats 4000000 in
set_option maxRecDepth 100000 in
/-- LocalDate.toEpochDay() -/
theorem metX5_toEpochDay (l : Launch) (k : Nat → Nat) (q : Nat) (y m d : Int32) (n : Int) (hg : gd n y m d) : Met l yX5_toEpochDay (ws_ yX5_toEpochDay cX5_toEpochDay 7 (some .long)) ({ frames := 2, cells := 0, slots := 0, locals := 42 }) (va_Pc [.ref q] (fun U => fCL k q y m d U U.heap)) (vp_Sl (fun r => r.toInt = n)) 0 0 (fun _ => False) := by
  refine Met.ofW (cc := cX5_toEpochDay) (maxL := 7) (ret := (some .long)) (by decide) rfl ?_
  intro p e s mi args below me_ c s₁ B hml hv
  obtain ⟨rfl, hF⟩ := hv
  have hF : fCL k q y m d s s.heap := hF
  have hx := B.exec
  have hb := B.bytes
  have hr := B.returns
  have hts := atoms_spec (ws := ws_ yX5_toEpochDay cX5_toEpochDay 7 (some .long)) B.pre
  have hts : ∀ w ∈ lw_all, w.before _ s = true := fun w h => hts w (List.mem_cons_of_mem _ h)
  have hown : s.vm.findClass RX5 = some mi.cls := findClass_of_methodNamed B.named
  have hlocks := B.notSynchronized
  have hl := lv_entry ([.ref q]) (n := 7) (Nat.le_of_ble_eq_true rfl)
  rw [lg_entry_eq]
  generalize (lg_sl ([.ref q]) ++ List.replicate (7 - (lg_sl ([.ref q])).length) Slot.unset).toArray = ls at hl ⊢
  have hl : lv_has ls 7 [(0, .ref q)] := hl
  obtain ⟨h1, h2, h3, h4⟩ := gd_b hg
  obtain ⟨hI, h5, h6⟩ := hg
  refine lv_aload_n hx hb dX5_toEpochDay_0 rfl (lv_at hl 0 rfl) ?_
  refine cs_get hx hb hF.2.2.1 hown (hts _ q514) (fun _ h9 => h9) dX5_toEpochDay_1 ?_
  refine lv_i2l (v := (y).toInt64) hx hb dX5_toEpochDay_4 rfl ?_
  refine lv_topl (fun v4 ev4 => ?_)
  have tv4 : v4.toInt = y.toInt := ll_i2l ev4 rfl
  refine lv_lstore_n (lv' := [(1, .long v4), (0, .ref q)]) hx hb dX5_toEpochDay_5 rfl hl (by decide) rfl (fun ls hl => ?_)
  refine lv_aload_n hx hb dX5_toEpochDay_6 rfl (lv_at hl 1 rfl) ?_
  refine cs_get hx hb hF.2.2.2.1 hown (hts _ q515) (fun _ h9 => h9) dX5_toEpochDay_7 ?_
  refine lv_i2l (v := (m).toInt64) hx hb dX5_toEpochDay_10 rfl ?_
  refine lv_topl (fun v10 ev10 => ?_)
  have tv10 : v10.toInt = m.toInt := ll_i2l ev10 rfl
  refine lv_lstore_n (lv' := [(3, .long v10), (1, .long v4), (0, .ref q)]) hx hb dX5_toEpochDay_11 rfl hl (by decide) rfl (fun ls hl => ?_)
  refine lv_lconst (v := 0) hx hb dX5_toEpochDay_12 (by decide +kernel) ?_
  refine lv_lstore (lv' := [(5, .long 0), (3, .long v10), (1, .long v4), (0, .ref q)]) hx hb dX5_toEpochDay_13 hl (by decide) rfl (fun ls hl => ?_)
  refine lv_lload hx hb dX5_toEpochDay_15 (lv_at hl 0 rfl) ?_
  refine lv_ldc2 (v := 365) hx hb hown (hts _ q474) dX5_toEpochDay_17 ?_
  refine lv_lload_n hx hb dX5_toEpochDay_20 rfl (lv_at hl 2 rfl) ?_
  refine lv_lmul hx hb dX5_toEpochDay_21 ?_
  refine lv_topl (fun v21 ev21 => ?_)
  have tv21 : v21.toInt = 365 * v4.toInt := ll_mul ev21 (by decide +kernel) rfl (by omega) (by omega)
  refine lv_ladd hx hb dX5_toEpochDay_22 ?_
  refine lv_topl (fun v22 ev22 => ?_)
  have tv22 : v22.toInt = 0 + v21.toInt := ll_add ev22 (by decide +kernel) rfl (by omega) (by omega)
  refine lv_lstore (lv' := [(5, .long v22), (3, .long v10), (1, .long v4), (0, .ref q)]) hx hb dX5_toEpochDay_23 hl (by decide) rfl (fun ls hl => ?_)
  refine w_cut (α := Int64) (fun a ls => lv_has ls 7 [(5, .long a), (3, .long v10), (1, .long v4), (0, .ref q)] ∧ ∃ y4 y100 y400 : Int, a.toInt = 365 * y.toInt + (y4 - y100 + y400) ∧ (0 ≤ y.toInt → y4 = (y.toInt + 3) / 4 ∧ y100 = (y.toInt + 99) / 100 ∧ y400 = (y.toInt + 399) / 400) ∧ (y.toInt < 0 → y4 = -((-y.toInt) / 4) ∧ y100 = -((-y.toInt) / 100) ∧ y400 = -((-y.toInt) / 400))) (fun a ls => F0 mi 90 ls []) ?_ ?_
  · rintro a ls ⟨hl, y4, y100, y400, ha, hp, hn⟩
    have hba : -366000000000 ≤ a.toInt ∧ a.toInt ≤ 366000000000 := by omega
    refine lv_lload hx hb dX5_toEpochDay_90 (lv_at hl 0 rfl) ?_
    refine lv_ldc2 (v := 367) hx hb hown (hts _ q657) dX5_toEpochDay_92 ?_
    refine lv_lload_n hx hb dX5_toEpochDay_95 rfl (lv_at hl 1 rfl) ?_
    refine lv_lmul hx hb dX5_toEpochDay_96 ?_
    refine lv_topl (fun v96 ev96 => ?_)
    have tv96 : v96.toInt = 367 * v10.toInt := ll_mul ev96 (by decide +kernel) rfl (by omega) (by omega)
    refine lv_ldc2 (v := 362) hx hb hown (hts _ q658) dX5_toEpochDay_97 ?_
    refine lv_lsub hx hb dX5_toEpochDay_100 ?_
    refine lv_topl (fun v100 ev100 => ?_)
    have tv100 : v100.toInt = v96.toInt - 362 := ll_sub ev100 rfl (by decide +kernel) (by omega) (by omega)
    refine lv_ldc2 (v := 12) hx hb hown (hts _ q659) dX5_toEpochDay_101 ?_
    refine lv_ldiv hx hb dX5_toEpochDay_104 (by decide) ?_
    refine lv_topl (fun v104 ev104 => ?_)
    have tv104 : v104.toInt = v100.toInt / 12 := (ll_div ev104 rfl (by decide +kernel) (by decide)).1 (by omega)
    refine lv_ladd hx hb dX5_toEpochDay_105 ?_
    refine lv_topl (fun v105 ev105 => ?_)
    have tv105 : v105.toInt = a.toInt + v104.toInt := ll_add ev105 rfl rfl (by omega) (by omega)
    refine lv_lstore (lv' := [(5, .long v105), (3, .long v10), (1, .long v4), (0, .ref q)]) hx hb dX5_toEpochDay_106 hl (by decide) rfl (fun ls hl => ?_)
    refine lv_lload hx hb dX5_toEpochDay_108 (lv_at hl 0 rfl) ?_
    refine lv_aload_n hx hb dX5_toEpochDay_110 rfl (lv_at hl 3 rfl) ?_
    refine cs_get hx hb hF.2.2.2.2 hown (hts _ q516) (fun _ h9 => h9) dX5_toEpochDay_111 ?_
    refine lv_iconst (v := 1) hx hb dX5_toEpochDay_114 (by decide +kernel) ?_
    refine lv_isub hx hb dX5_toEpochDay_115 ?_
    refine lv_topi (fun v115 ev115 => ?_)
    have tv115 : v115.toInt = d.toInt - 1 := ii_sub ev115 rfl (by decide +kernel) (by omega) (by omega)
    refine lv_i2l (v := (v115).toInt64) hx hb dX5_toEpochDay_116 rfl ?_
    refine lv_topl (fun v116 ev116 => ?_)
    have tv116 : v116.toInt = v115.toInt := ll_i2l ev116 rfl
    refine lv_ladd hx hb dX5_toEpochDay_117 ?_
    refine lv_topl (fun v117 ev117 => ?_)
    have tv117 : v117.toInt = v105.toInt + v116.toInt := ll_add ev117 rfl rfl (by omega) (by omega)
    refine lv_lstore (lv' := [(5, .long v117), (3, .long v10), (1, .long v4), (0, .ref q)]) hx hb dX5_toEpochDay_118 hl (by decide) rfl (fun ls hl => ?_)
    refine w_cut (α := Int64) (fun a ls => lv_has ls 7 [(5, .long a), (3, .long v10), (1, .long v4), (0, .ref q)] ∧ a.toInt = v117.toInt - (if m.toInt > 2 then (if ca_L y.toInt = 1 then 1 else 2) else 0)) (fun a ls => F0 mi 147 ls []) ?_ ?_
    · rintro a2 ls ⟨hl, ha2⟩
      have hba2 : -400000000000 ≤ a2.toInt ∧ a2.toInt ≤ 400000000000 := by split at ha2 <;> (try split at ha2) <;> omega
      refine lv_lload hx hb dX5_toEpochDay_147 (lv_at hl 0 rfl) ?_
      refine lv_ldc2 (v := 719528) hx hb hown (hts _ q469) dX5_toEpochDay_149 ?_
      refine lv_lsub hx hb dX5_toEpochDay_152 ?_
      refine lv_topl (fun v152 ev152 => ?_)
      have tv152 : v152.toInt = a2.toInt - 719528 := ll_sub ev152 rfl (by decide +kernel) (by omega) (by omega)
      have hfin := ca_back (t := a2.toInt) (y4 := y4) (y100 := y100) (y400 := y400) hI hp hn (by rw [ha2]; omega)
      exact W.lret (v := v152) hx hb hr (fun t ht hW => ⟨_, rfl, by show v152.toInt = n; omega, ht⟩) (fun q h => by cases h) dX5_toEpochDay_153
    · intro hj2
      refine lv_lload_n hx hb dX5_toEpochDay_120 rfl (lv_at hl 1 rfl) ?_
      refine lv_ldc2 (v := 2) hx hb hown (hts _ q660) dX5_toEpochDay_121 ?_
      refine W.lcmp hx hb dX5_toEpochDay_124 ?_
      refine lv_if_le (tgt := 147) hx hb dX5_toEpochDay_125 (by decide) (fun c125 => ?_) (fun c125 => ?_)
      · have k_125 : v10.toInt ≤ 2 := (cm_le0 (X := v10.toInt) (Y := 2) rfl (by decide +kernel)).mp c125
        exact hj2 _ ls ⟨lv_sub hl [0, 1, 2, 3] rfl, by rw [if_neg (by omega)]; omega⟩
      · have k_125 : ¬ v10.toInt ≤ 2 := fun c0 => c125 ((cm_le0 (X := v10.toInt) (Y := 2) rfl (by decide +kernel)).mpr c0)
        refine lv_lload hx hb dX5_toEpochDay_128 (lv_at hl 0 rfl) ?_
        refine lv_lconst (v := 1) hx hb dX5_toEpochDay_130 (by decide +kernel) ?_
        refine lv_lsub hx hb dX5_toEpochDay_131 ?_
        refine lv_topl (fun v131 ev131 => ?_)
        have tv131 : v131.toInt = v117.toInt - 1 := ll_sub ev131 rfl (by decide +kernel) (by omega) (by omega)
        refine lv_lstore (lv' := [(5, .long v131), (3, .long v10), (1, .long v4), (0, .ref q)]) hx hb dX5_toEpochDay_132 hl (by decide) rfl (fun ls hl => ?_)
        refine lv_aload_n hx hb dX5_toEpochDay_134 rfl (lv_at hl 3 rfl) ?_
        have g135 : fCL k q y m d s s.heap := hF
        refine vp_callSi (W.runV (As := []) (rest := []) ⟨hx, hb, hml, hown, hts⟩ (metX5_isLeapYear l k q y m d) (cwV 0 hts (lw_V q604 q605 q606 q6 q607) rfl rfl rfl (by decide +kernel) ⟨Nat.le_of_ble_eq_true rfl, Nat.le_of_ble_eq_true rfl⟩) (pV_start (F := fCL k q y m d) fCL_mv (cs_recv (g135.2.1)) g135) rfl rfl hl.1 rfl (lv_room (Nat.le_of_ble_eq_true rfl)) dX5_toEpochDay_135 ⟨Nat.le_of_ble_eq_true rfl, Nat.le_of_ble_eq_true rfl⟩) (fun r135 pr135 => ?_)
        have pr135 : r135 = lB y.toInt := pr135
        have pr135 := pr135.symm
        subst pr135
        refine lv_if_ne (tgt := 147) hx hb dX5_toEpochDay_138 (by decide) (fun c138 => ?_) (fun c138 => ?_)
        · have k_138 : ¬ (ca_L y.toInt) = 0 := fun c0 => c138 ((ic_eq (X := (ca_L y.toInt)) (Y := 0) (lB_I y.toInt) (by decide +kernel)).mpr c0)
          exact hj2 _ ls ⟨lv_sub hl [0, 1, 2, 3] rfl, by rw [if_pos (by omega), if_pos (by have := ca_L01 y.toInt; omega)]; omega⟩
        · have k_138 : (ca_L y.toInt) = 0 := (ic_eq (X := (ca_L y.toInt)) (Y := 0) (lB_I y.toInt) (by decide +kernel)).mp c138
          refine lv_lload hx hb dX5_toEpochDay_141 (lv_at hl 0 rfl) ?_
          refine lv_lconst (v := 1) hx hb dX5_toEpochDay_143 (by decide +kernel) ?_
          refine lv_lsub hx hb dX5_toEpochDay_144 ?_
          refine lv_topl (fun v144 ev144 => ?_)
          have tv144 : v144.toInt = v131.toInt - 1 := ll_sub ev144 rfl (by decide +kernel) (by omega) (by omega)
          refine lv_lstore (lv' := [(5, .long v144), (3, .long v10), (1, .long v4), (0, .ref q)]) hx hb dX5_toEpochDay_145 hl (by decide) rfl (fun ls hl => ?_)
          exact hj2 _ ls ⟨lv_sub hl [0, 1, 2, 3] rfl, by rw [if_pos (by omega), if_neg (by omega)]; omega⟩
  · intro hj1
    refine lv_lload_n hx hb dX5_toEpochDay_25 rfl (lv_at hl 2 rfl) ?_
    refine lv_lconst (v := 0) hx hb dX5_toEpochDay_26 (by decide +kernel) ?_
    refine W.lcmp hx hb dX5_toEpochDay_27 ?_
    refine lv_if_lt (tgt := 68) hx hb dX5_toEpochDay_28 (by decide) (fun c28 => ?_) (fun c28 => ?_)
    · have k_28 : v4.toInt < 0 := (cm_lt0 (X := v4.toInt) (Y := 0) rfl (by decide +kernel)).mp c28
      refine lv_lload hx hb dX5_toEpochDay_68 (lv_at hl 0 rfl) ?_
      refine lv_lload_n hx hb dX5_toEpochDay_70 rfl (lv_at hl 2 rfl) ?_
      refine lv_ldc2 (v := (-4)) hx hb hown (hts _ q654) dX5_toEpochDay_71 ?_
      refine lv_ldiv hx hb dX5_toEpochDay_74 (by decide) ?_
      refine lv_topl (fun v74 ev74 => ?_)
      have tv74 : v74.toInt = (-v4.toInt) / 4 := ll_divn ev74 rfl (show ((-4) : Int64).toInt = -4 by decide +kernel) (by decide) (by omega)
      refine lv_lload_n hx hb dX5_toEpochDay_75 rfl (lv_at hl 2 rfl) ?_
      refine lv_ldc2 (v := (-100)) hx hb hown (hts _ q655) dX5_toEpochDay_76 ?_
      refine lv_ldiv hx hb dX5_toEpochDay_79 (by decide) ?_
      refine lv_topl (fun v79 ev79 => ?_)
      have tv79 : v79.toInt = (-v4.toInt) / 100 := ll_divn ev79 rfl (show ((-100) : Int64).toInt = -100 by decide +kernel) (by decide) (by omega)
      refine lv_lsub hx hb dX5_toEpochDay_80 ?_
      refine lv_topl (fun v80 ev80 => ?_)
      have tv80 : v80.toInt = v74.toInt - v79.toInt := ll_sub ev80 rfl rfl (by omega) (by omega)
      refine lv_lload_n hx hb dX5_toEpochDay_81 rfl (lv_at hl 2 rfl) ?_
      refine lv_ldc2 (v := (-400)) hx hb hown (hts _ q656) dX5_toEpochDay_82 ?_
      refine lv_ldiv hx hb dX5_toEpochDay_85 (by decide) ?_
      refine lv_topl (fun v85 ev85 => ?_)
      have tv85 : v85.toInt = (-v4.toInt) / 400 := ll_divn ev85 rfl (show ((-400) : Int64).toInt = -400 by decide +kernel) (by decide) (by omega)
      refine lv_ladd hx hb dX5_toEpochDay_86 ?_
      refine lv_topl (fun v86 ev86 => ?_)
      have tv86 : v86.toInt = v80.toInt + v85.toInt := ll_add ev86 rfl rfl (by omega) (by omega)
      refine lv_lsub hx hb dX5_toEpochDay_87 ?_
      refine lv_topl (fun v87 ev87 => ?_)
      have tv87 : v87.toInt = v22.toInt - v86.toInt := ll_sub ev87 rfl rfl (by omega) (by omega)
      refine lv_lstore (lv' := [(5, .long v87), (3, .long v10), (1, .long v4), (0, .ref q)]) hx hb dX5_toEpochDay_88 hl (by decide) rfl (fun ls hl => ?_)
      exact hj1 _ ls ⟨lv_sub hl [0, 1, 2, 3] rfl, -((-y.toInt) / 4), -((-y.toInt) / 100), -((-y.toInt) / 400), by omega, fun h => by omega, fun h => ⟨rfl, rfl, rfl⟩⟩
    · have k_28 : ¬ v4.toInt < 0 := fun c0 => c28 ((cm_lt0 (X := v4.toInt) (Y := 0) rfl (by decide +kernel)).mpr c0)
      refine lv_lload hx hb dX5_toEpochDay_31 (lv_at hl 0 rfl) ?_
      refine lv_lload_n hx hb dX5_toEpochDay_33 rfl (lv_at hl 2 rfl) ?_
      refine lv_ldc2 (v := 3) hx hb hown (hts _ q651) dX5_toEpochDay_34 ?_
      refine lv_ladd hx hb dX5_toEpochDay_37 ?_
      refine lv_topl (fun v37 ev37 => ?_)
      have tv37 : v37.toInt = v4.toInt + 3 := ll_add ev37 rfl (by decide +kernel) (by omega) (by omega)
      refine lv_ldc2 (v := 4) hx hb hown (hts _ q475) dX5_toEpochDay_38 ?_
      refine lv_ldiv hx hb dX5_toEpochDay_41 (by decide) ?_
      refine lv_topl (fun v41 ev41 => ?_)
      have tv41 : v41.toInt = v37.toInt / 4 := (ll_div ev41 rfl (by decide +kernel) (by decide)).1 (by omega)
      refine lv_lload_n hx hb dX5_toEpochDay_42 rfl (lv_at hl 2 rfl) ?_
      refine lv_ldc2 (v := 99) hx hb hown (hts _ q652) dX5_toEpochDay_43 ?_
      refine lv_ladd hx hb dX5_toEpochDay_46 ?_
      refine lv_topl (fun v46 ev46 => ?_)
      have tv46 : v46.toInt = v4.toInt + 99 := ll_add ev46 rfl (by decide +kernel) (by omega) (by omega)
      refine lv_ldc2 (v := 100) hx hb hown (hts _ q476) dX5_toEpochDay_47 ?_
      refine lv_ldiv hx hb dX5_toEpochDay_50 (by decide) ?_
      refine lv_topl (fun v50 ev50 => ?_)
      have tv50 : v50.toInt = v46.toInt / 100 := (ll_div ev50 rfl (by decide +kernel) (by decide)).1 (by omega)
      refine lv_lsub hx hb dX5_toEpochDay_51 ?_
      refine lv_topl (fun v51 ev51 => ?_)
      have tv51 : v51.toInt = v41.toInt - v50.toInt := ll_sub ev51 rfl rfl (by omega) (by omega)
      refine lv_lload_n hx hb dX5_toEpochDay_52 rfl (lv_at hl 2 rfl) ?_
      refine lv_ldc2 (v := 399) hx hb hown (hts _ q653) dX5_toEpochDay_53 ?_
      refine lv_ladd hx hb dX5_toEpochDay_56 ?_
      refine lv_topl (fun v56 ev56 => ?_)
      have tv56 : v56.toInt = v4.toInt + 399 := ll_add ev56 rfl (by decide +kernel) (by omega) (by omega)
      refine lv_ldc2 (v := 400) hx hb hown (hts _ q472) dX5_toEpochDay_57 ?_
      refine lv_ldiv hx hb dX5_toEpochDay_60 (by decide) ?_
      refine lv_topl (fun v60 ev60 => ?_)
      have tv60 : v60.toInt = v56.toInt / 400 := (ll_div ev60 rfl (by decide +kernel) (by decide)).1 (by omega)
      refine lv_ladd hx hb dX5_toEpochDay_61 ?_
      refine lv_topl (fun v61 ev61 => ?_)
      have tv61 : v61.toInt = v51.toInt + v60.toInt := ll_add ev61 rfl rfl (by omega) (by omega)
      refine lv_ladd hx hb dX5_toEpochDay_62 ?_
      refine lv_topl (fun v62 ev62 => ?_)
      have tv62 : v62.toInt = v22.toInt + v61.toInt := ll_add ev62 rfl rfl (by omega) (by omega)
      refine lv_lstore (lv' := [(5, .long v62), (3, .long v10), (1, .long v4), (0, .ref q)]) hx hb dX5_toEpochDay_63 hl (by decide) rfl (fun ls hl => ?_)
      refine lv_goto (tgt := 90) hx hb dX5_toEpochDay_65 (by decide) ?_
      exact hj1 _ ls ⟨lv_sub hl [0, 1, 2, 3] rfl, (y.toInt + 3) / 4, (y.toInt + 99) / 100, (y.toInt + 399) / 400, by omega, fun h => ⟨rfl, rfl, rfl⟩, fun h => by omega⟩
end
section
set_option maxHeartbeats 4000000 in
set_option maxRecDepth 100000 in
/-- DayCount.epochDay() -/
theorem metX1_epochDay (l : Launch) (k : Nat → Nat) (h q : Nat) (y m d : Int32) (n : Int) (hg : gd n y m d) : Met l yX1_epochDay (ws_ yX1_epochDay cX1_epochDay 1 (some .long)) ({ frames := 3, cells := 0, slots := 0, locals := 68 }) (va_Pc [.ref h] (fun U => fCD k h q y m d U U.heap)) (vp_Sl (fun r => r.toInt = n)) 0 0 (fun _ => False) := by
  refine Met.ofW (cc := cX1_epochDay) (maxL := 1) (ret := (some .long)) (by decide) rfl ?_
  intro p e s mi args below me_ c s₁ B hml hv
  obtain ⟨rfl, hF⟩ := hv
  have hF : fCD k h q y m d s s.heap := hF
  have hx := B.exec
  have hb := B.bytes
  have hr := B.returns
  have hts := atoms_spec (ws := ws_ yX1_epochDay cX1_epochDay 1 (some .long)) B.pre
  have hts : ∀ w ∈ lw_all, w.before _ s = true := fun w h => hts w (List.mem_cons_of_mem _ h)
  have hown : s.vm.findClass RX1 = some mi.cls := findClass_of_methodNamed B.named
  have hlocks := B.notSynchronized
  have hl := lv_entry ([.ref h]) (n := 1) (Nat.le_of_ble_eq_true rfl)
  rw [lg_entry_eq]
  generalize (lg_sl ([.ref h]) ++ List.replicate (1 - (lg_sl ([.ref h])).length) Slot.unset).toArray = ls at hl ⊢
  have hl : lv_has ls 1 [(0, .ref h)] := hl
  have hgb := gd_b hg
  refine lv_aload_n hx hb dX1_epochDay_0 rfl (lv_at hl 0 rfl) ?_
  refine cs_get hx hb hF.2.1.2 hown (hts _ q524) (fun _ h9 => h9) dX1_epochDay_1 ?_
  have g4 : fCL k q y m d s s.heap := ⟨hF.1, hF.2.2⟩
  refine vp_callSl (W.runV (As := []) (rest := []) ⟨hx, hb, hml, hown, hts⟩ (metX5_toEpochDay l k q y m d n hg) (cwV 0 hts (lw_V q647 q648 q649 q6 q650) rfl rfl rfl (by decide +kernel) ⟨Nat.le_of_ble_eq_true rfl, Nat.le_of_ble_eq_true rfl⟩) (pV_start (F := fCL k q y m d) fCL_mv (cs_recv (g4.2.1)) g4) rfl rfl hl.1 rfl (lv_room (Nat.le_of_ble_eq_true rfl)) dX1_epochDay_4 ⟨Nat.le_of_ble_eq_true rfl, Nat.le_of_ble_eq_true rfl⟩) (fun r4 pr4 => ?_)
  have pr4 : r4.toInt = n := pr4
  exact W.lret (v := r4) hx hb hr (fun t ht hW => ⟨_, rfl, pr4, ht⟩) (fun q h => by cases h) dX1_epochDay_7
set_option maxHeartbeats 4000000 in
set_option maxRecDepth 100000 in
/-- DayCount.year() -/
theorem metX1_year (l : Launch) (k : Nat → Nat) (h q : Nat) (y m d : Int32)  : Met l yX1_year (ws_ yX1_year cX1_year 1 (some .int)) ({ frames := 1, cells := 0, slots := 0, locals := 20 }) (va_Pc [.ref h] (fun U => fCD k h q y m d U U.heap)) (vp_Si (fun r => r = y)) 0 0 (fun _ => False) := by
  refine Met.ofW (cc := cX1_year) (maxL := 1) (ret := (some .int)) (by decide) rfl ?_
  intro p e s mi args below me_ c s₁ B hml hv
  obtain ⟨rfl, hF⟩ := hv
  have hF : fCD k h q y m d s s.heap := hF
  have hx := B.exec
  have hb := B.bytes
  have hr := B.returns
  have hts := atoms_spec (ws := ws_ yX1_year cX1_year 1 (some .int)) B.pre
  have hts : ∀ w ∈ lw_all, w.before _ s = true := fun w h => hts w (List.mem_cons_of_mem _ h)
  have hown : s.vm.findClass RX1 = some mi.cls := findClass_of_methodNamed B.named
  have hlocks := B.notSynchronized
  have hl := lv_entry ([.ref h]) (n := 1) (Nat.le_of_ble_eq_true rfl)
  rw [lg_entry_eq]
  generalize (lg_sl ([.ref h]) ++ List.replicate (1 - (lg_sl ([.ref h])).length) Slot.unset).toArray = ls at hl ⊢
  have hl : lv_has ls 1 [(0, .ref h)] := hl
  refine lv_aload_n hx hb dX1_year_0 rfl (lv_at hl 0 rfl) ?_
  refine cs_get hx hb hF.2.1.2 hown (hts _ q524) (fun _ h9 => h9) dX1_year_1 ?_
  have g4 : fCL k q y m d s s.heap := ⟨hF.1, hF.2.2⟩
  refine vp_callSi (W.runV (As := []) (rest := []) ⟨hx, hb, hml, hown, hts⟩ (metX5_getYear l k q y m d) (cwV 0 hts (lw_V q539 q540 q541 q6 q542) rfl rfl rfl (by decide +kernel) ⟨Nat.le_of_ble_eq_true rfl, Nat.le_of_ble_eq_true rfl⟩) (pV_start (F := fCL k q y m d) fCL_mv (cs_recv (g4.2.1)) g4) rfl rfl hl.1 rfl (lv_room (Nat.le_of_ble_eq_true rfl)) dX1_year_4 ⟨Nat.le_of_ble_eq_true rfl, Nat.le_of_ble_eq_true rfl⟩) (fun r4 pr4 => ?_)
  have pr4 : r4 = y := pr4
  exact W.iret (v := r4) hx hb hr (fun t ht hW => ⟨_, rfl, pr4, ht⟩) (fun q h => by cases h) dX1_year_7
set_option maxHeartbeats 4000000 in
set_option maxRecDepth 100000 in
/-- DayCount.month() -/
theorem metX1_month (l : Launch) (k : Nat → Nat) (h q : Nat) (y m d : Int32)  : Met l yX1_month (ws_ yX1_month cX1_month 1 (some .int)) ({ frames := 1, cells := 0, slots := 0, locals := 20 }) (va_Pc [.ref h] (fun U => fCD k h q y m d U U.heap)) (vp_Si (fun r => r = m)) 0 0 (fun _ => False) := by
  refine Met.ofW (cc := cX1_month) (maxL := 1) (ret := (some .int)) (by decide) rfl ?_
  intro p e s mi args below me_ c s₁ B hml hv
  obtain ⟨rfl, hF⟩ := hv
  have hF : fCD k h q y m d s s.heap := hF
  have hx := B.exec
  have hb := B.bytes
  have hr := B.returns
  have hts := atoms_spec (ws := ws_ yX1_month cX1_month 1 (some .int)) B.pre
  have hts : ∀ w ∈ lw_all, w.before _ s = true := fun w h => hts w (List.mem_cons_of_mem _ h)
  have hown : s.vm.findClass RX1 = some mi.cls := findClass_of_methodNamed B.named
  have hlocks := B.notSynchronized
  have hl := lv_entry ([.ref h]) (n := 1) (Nat.le_of_ble_eq_true rfl)
  rw [lg_entry_eq]
  generalize (lg_sl ([.ref h]) ++ List.replicate (1 - (lg_sl ([.ref h])).length) Slot.unset).toArray = ls at hl ⊢
  have hl : lv_has ls 1 [(0, .ref h)] := hl
  refine lv_aload_n hx hb dX1_month_0 rfl (lv_at hl 0 rfl) ?_
  refine cs_get hx hb hF.2.1.2 hown (hts _ q524) (fun _ h9 => h9) dX1_month_1 ?_
  have g4 : fCL k q y m d s s.heap := ⟨hF.1, hF.2.2⟩
  refine vp_callSi (W.runV (As := []) (rest := []) ⟨hx, hb, hml, hown, hts⟩ (metX5_getMonthValue l k q y m d) (cwV 0 hts (lw_V q547 q548 q549 q6 q550) rfl rfl rfl (by decide +kernel) ⟨Nat.le_of_ble_eq_true rfl, Nat.le_of_ble_eq_true rfl⟩) (pV_start (F := fCL k q y m d) fCL_mv (cs_recv (g4.2.1)) g4) rfl rfl hl.1 rfl (lv_room (Nat.le_of_ble_eq_true rfl)) dX1_month_4 ⟨Nat.le_of_ble_eq_true rfl, Nat.le_of_ble_eq_true rfl⟩) (fun r4 pr4 => ?_)
  have pr4 : r4 = m := pr4
  exact W.iret (v := r4) hx hb hr (fun t ht hW => ⟨_, rfl, pr4, ht⟩) (fun q h => by cases h) dX1_month_7
set_option maxHeartbeats 4000000 in
set_option maxRecDepth 100000 in
/-- DayCount.dayOfMonth() -/
theorem metX1_dayOfMonth (l : Launch) (k : Nat → Nat) (h q : Nat) (y m d : Int32)  : Met l yX1_dayOfMonth (ws_ yX1_dayOfMonth cX1_dayOfMonth 1 (some .int)) ({ frames := 1, cells := 0, slots := 0, locals := 20 }) (va_Pc [.ref h] (fun U => fCD k h q y m d U U.heap)) (vp_Si (fun r => r = d)) 0 0 (fun _ => False) := by
  refine Met.ofW (cc := cX1_dayOfMonth) (maxL := 1) (ret := (some .int)) (by decide) rfl ?_
  intro p e s mi args below me_ c s₁ B hml hv
  obtain ⟨rfl, hF⟩ := hv
  have hF : fCD k h q y m d s s.heap := hF
  have hx := B.exec
  have hb := B.bytes
  have hr := B.returns
  have hts := atoms_spec (ws := ws_ yX1_dayOfMonth cX1_dayOfMonth 1 (some .int)) B.pre
  have hts : ∀ w ∈ lw_all, w.before _ s = true := fun w h => hts w (List.mem_cons_of_mem _ h)
  have hown : s.vm.findClass RX1 = some mi.cls := findClass_of_methodNamed B.named
  have hlocks := B.notSynchronized
  have hl := lv_entry ([.ref h]) (n := 1) (Nat.le_of_ble_eq_true rfl)
  rw [lg_entry_eq]
  generalize (lg_sl ([.ref h]) ++ List.replicate (1 - (lg_sl ([.ref h])).length) Slot.unset).toArray = ls at hl ⊢
  have hl : lv_has ls 1 [(0, .ref h)] := hl
  refine lv_aload_n hx hb dX1_dayOfMonth_0 rfl (lv_at hl 0 rfl) ?_
  refine cs_get hx hb hF.2.1.2 hown (hts _ q524) (fun _ h9 => h9) dX1_dayOfMonth_1 ?_
  have g4 : fCL k q y m d s s.heap := ⟨hF.1, hF.2.2⟩
  refine vp_callSi (W.runV (As := []) (rest := []) ⟨hx, hb, hml, hown, hts⟩ (metX5_getDayOfMonth l k q y m d) (cwV 0 hts (lw_V q555 q556 q557 q6 q558) rfl rfl rfl (by decide +kernel) ⟨Nat.le_of_ble_eq_true rfl, Nat.le_of_ble_eq_true rfl⟩) (pV_start (F := fCL k q y m d) fCL_mv (cs_recv (g4.2.1)) g4) rfl rfl hl.1 rfl (lv_room (Nat.le_of_ble_eq_true rfl)) dX1_dayOfMonth_4 ⟨Nat.le_of_ble_eq_true rfl, Nat.le_of_ble_eq_true rfl⟩) (fun r4 pr4 => ?_)
  have pr4 : r4 = d := pr4
  exact W.iret (v := r4) hx hb hr (fun t ht hW => ⟨_, rfl, pr4, ht⟩) (fun q h => by cases h) dX1_dayOfMonth_7
set_option maxHeartbeats 4000000 in
set_option maxRecDepth 100000 in
/-- DayCount.dayOfYear() -/
theorem metX1_dayOfYear (l : Launch) (k : Nat → Nat) (h q : Nat) (y m d : Int32) (n : Int) (hg : gd n y m d) : Met l yX1_dayOfYear (ws_ yX1_dayOfYear cX1_dayOfYear 1 (some .int)) ({ frames := 3, cells := 0, slots := 0, locals := 62 }) (va_Pc [.ref h] (fun U => fCD k h q y m d U U.heap)) (vp_Si (fun r => r.toInt = ca_cum (ca_L y.toInt) m.toInt + d.toInt)) 0 0 (fun _ => False) := by
  refine Met.ofW (cc := cX1_dayOfYear) (maxL := 1) (ret := (some .int)) (by decide) rfl ?_
  intro p e s mi args below me_ c s₁ B hml hv
  obtain ⟨rfl, hF⟩ := hv
  have hF : fCD k h q y m d s s.heap := hF
  have hx := B.exec
  have hb := B.bytes
  have hr := B.returns
  have hts := atoms_spec (ws := ws_ yX1_dayOfYear cX1_dayOfYear 1 (some .int)) B.pre
  have hts : ∀ w ∈ lw_all, w.before _ s = true := fun w h => hts w (List.mem_cons_of_mem _ h)
  have hown : s.vm.findClass RX1 = some mi.cls := findClass_of_methodNamed B.named
  have hlocks := B.notSynchronized
  have hl := lv_entry ([.ref h]) (n := 1) (Nat.le_of_ble_eq_true rfl)
  rw [lg_entry_eq]
  generalize (lg_sl ([.ref h]) ++ List.replicate (1 - (lg_sl ([.ref h])).length) Slot.unset).toArray = ls at hl ⊢
  have hl : lv_has ls 1 [(0, .ref h)] := hl
  have hgb := gd_b hg
  refine lv_aload_n hx hb dX1_dayOfYear_0 rfl (lv_at hl 0 rfl) ?_
  refine cs_get hx hb hF.2.1.2 hown (hts _ q524) (fun _ h9 => h9) dX1_dayOfYear_1 ?_
  have g4 : fCL k q y m d s s.heap := ⟨hF.1, hF.2.2⟩
  refine vp_callSi (W.runV (As := []) (rest := []) ⟨hx, hb, hml, hown, hts⟩ (metX5_getDayOfYear l k q y m d hgb.1 hgb.2.1 hgb.2.2.1 hgb.2.2.2) (cwV 0 hts (lw_V q563 q564 q565 q6 q566) rfl rfl rfl (by decide +kernel) ⟨Nat.le_of_ble_eq_true rfl, Nat.le_of_ble_eq_true rfl⟩) (pV_start (F := fCL k q y m d) fCL_mv (cs_recv (g4.2.1)) g4) rfl rfl hl.1 rfl (lv_room (Nat.le_of_ble_eq_true rfl)) dX1_dayOfYear_4 ⟨Nat.le_of_ble_eq_true rfl, Nat.le_of_ble_eq_true rfl⟩) (fun r4 pr4 => ?_)
  have pr4 : r4.toInt = ca_cum (ca_L y.toInt) m.toInt + d.toInt := pr4
  exact W.iret (v := r4) hx hb hr (fun t ht hW => ⟨_, rfl, pr4, ht⟩) (fun q h => by cases h) dX1_dayOfYear_7
set_option maxHeartbeats 4000000 in
set_option maxRecDepth 100000 in
/-- DayCount.leap() -/
theorem metX1_leap (l : Launch) (k : Nat → Nat) (h q : Nat) (y m d : Int32)  : Met l yX1_leap (ws_ yX1_leap cX1_leap 1 (some .boolean)) ({ frames := 2, cells := 0, slots := 0, locals := 42 }) (va_Pc [.ref h] (fun U => fCD k h q y m d U U.heap)) (vp_Si (fun r => r = lB y.toInt)) 0 0 (fun _ => False) := by
  refine Met.ofW (cc := cX1_leap) (maxL := 1) (ret := (some .boolean)) (by decide) rfl ?_
  intro p e s mi args below me_ c s₁ B hml hv
  obtain ⟨rfl, hF⟩ := hv
  have hF : fCD k h q y m d s s.heap := hF
  have hx := B.exec
  have hb := B.bytes
  have hr := B.returns
  have hts := atoms_spec (ws := ws_ yX1_leap cX1_leap 1 (some .boolean)) B.pre
  have hts : ∀ w ∈ lw_all, w.before _ s = true := fun w h => hts w (List.mem_cons_of_mem _ h)
  have hown : s.vm.findClass RX1 = some mi.cls := findClass_of_methodNamed B.named
  have hlocks := B.notSynchronized
  have hl := lv_entry ([.ref h]) (n := 1) (Nat.le_of_ble_eq_true rfl)
  rw [lg_entry_eq]
  generalize (lg_sl ([.ref h]) ++ List.replicate (1 - (lg_sl ([.ref h])).length) Slot.unset).toArray = ls at hl ⊢
  have hl : lv_has ls 1 [(0, .ref h)] := hl
  refine lv_aload_n hx hb dX1_leap_0 rfl (lv_at hl 0 rfl) ?_
  refine cs_get hx hb hF.2.1.2 hown (hts _ q524) (fun _ h9 => h9) dX1_leap_1 ?_
  have g4 : fCL k q y m d s s.heap := ⟨hF.1, hF.2.2⟩
  refine vp_callSi (W.runV (As := []) (rest := []) ⟨hx, hb, hml, hown, hts⟩ (metX5_isLeapYear l k q y m d) (cwV 0 hts (lw_V q631 q605 q606 q6 q607) rfl rfl rfl (by decide +kernel) ⟨Nat.le_of_ble_eq_true rfl, Nat.le_of_ble_eq_true rfl⟩) (pV_start (F := fCL k q y m d) fCL_mv (cs_recv (g4.2.1)) g4) rfl rfl hl.1 rfl (lv_room (Nat.le_of_ble_eq_true rfl)) dX1_leap_4 ⟨Nat.le_of_ble_eq_true rfl, Nat.le_of_ble_eq_true rfl⟩) (fun r4 pr4 => ?_)
  have pr4 : r4 = lB y.toInt := pr4
  exact W.zret (v := r4) hx hb hr (by rw [pr4]; exact lB_nar _) (fun t ht hW => ⟨_, rfl, pr4, ht⟩) (fun q h => by cases h) dX1_leap_7
set_option maxHeartbeats 4000000 in
set_option maxRecDepth 100000 in
/-- DayCount.monthLength() -/
theorem metX1_monthLength (l : Launch) (k : Nat → Nat) (h q : Nat) (y m d : Int32) (n : Int) (hg : gd n y m d) : Met l yX1_monthLength (ws_ yX1_monthLength cX1_monthLength 1 (some .int)) ({ frames := 3, cells := 0, slots := 0, locals := 62 }) (va_Pc [.ref h] (fun U => fCD k h q y m d U U.heap)) (vp_Si (fun r => r.toInt = ca_ln (ca_L y.toInt) m.toInt)) 0 0 (fun _ => False) := by
  refine Met.ofW (cc := cX1_monthLength) (maxL := 1) (ret := (some .int)) (by decide) rfl ?_
  intro p e s mi args below me_ c s₁ B hml hv
  obtain ⟨rfl, hF⟩ := hv
  have hF : fCD k h q y m d s s.heap := hF
  have hx := B.exec
  have hb := B.bytes
  have hr := B.returns
  have hts := atoms_spec (ws := ws_ yX1_monthLength cX1_monthLength 1 (some .int)) B.pre
  have hts : ∀ w ∈ lw_all, w.before _ s = true := fun w h => hts w (List.mem_cons_of_mem _ h)
  have hown : s.vm.findClass RX1 = some mi.cls := findClass_of_methodNamed B.named
  have hlocks := B.notSynchronized
  have hl := lv_entry ([.ref h]) (n := 1) (Nat.le_of_ble_eq_true rfl)
  rw [lg_entry_eq]
  generalize (lg_sl ([.ref h]) ++ List.replicate (1 - (lg_sl ([.ref h])).length) Slot.unset).toArray = ls at hl ⊢
  have hl : lv_has ls 1 [(0, .ref h)] := hl
  have hgb := gd_b hg
  refine lv_aload_n hx hb dX1_monthLength_0 rfl (lv_at hl 0 rfl) ?_
  refine cs_get hx hb hF.2.1.2 hown (hts _ q524) (fun _ h9 => h9) dX1_monthLength_1 ?_
  have g4 : fCL k q y m d s s.heap := ⟨hF.1, hF.2.2⟩
  refine vp_callSi (W.runV (As := []) (rest := []) ⟨hx, hb, hml, hown, hts⟩ (metX5_lengthOfMonth l k q y m d hgb.1 hgb.2.1) (cwV 0 hts (lw_V q636 q637 q638 q6 q639) rfl rfl rfl (by decide +kernel) ⟨Nat.le_of_ble_eq_true rfl, Nat.le_of_ble_eq_true rfl⟩) (pV_start (F := fCL k q y m d) fCL_mv (cs_recv (g4.2.1)) g4) rfl rfl hl.1 rfl (lv_room (Nat.le_of_ble_eq_true rfl)) dX1_monthLength_4 ⟨Nat.le_of_ble_eq_true rfl, Nat.le_of_ble_eq_true rfl⟩) (fun r4 pr4 => ?_)
  have pr4 : r4.toInt = ca_ln (ca_L y.toInt) m.toInt := pr4
  exact W.iret (v := r4) hx hb hr (fun t ht hW => ⟨_, rfl, pr4, ht⟩) (fun q h => by cases h) dX1_monthLength_7
end
section
set_option maxHeartbeats 4000000 in
set_option maxRecDepth 100000 in
/-- the script at a place -/
theorem metX0_cell (l : Launch) (b L j : Nat) (xs : Nat → Int32) (hj : j < 2) (hL2 : L ≤ 2) : Met l yX0_cell (ws_ yX0_cell cX0_cell 2 (some .int)) ({ frames := 0, cells := 0, slots := 0, locals := 0 }) (va_Pc [.ref b, .int (nI j)] (fun U => fX b L xs U U.heap)) (vp_Si (fun r => r = if j < L then xs j else 0)) 0 0 (fun _ => False) := by
  refine Met.ofW (cc := cX0_cell) (maxL := 2) (ret := (some .int)) (by decide +kernel) rfl ?_
  intro p e s mi args below me_ c s₁ B hml hv
  obtain ⟨rfl, hF⟩ := hv
  have hF : fX b L xs s s.heap := hF
  have hx := B.exec
  have hb := B.bytes
  have hr := B.returns
  have hts := atoms_spec (ws := ws_ yX0_cell cX0_cell 2 (some .int)) B.pre
  have hts : ∀ w ∈ lw_all, w.before _ s = true := fun w h => hts w (List.mem_cons_of_mem _ h)
  have hown : s.vm.findClass RX0 = some mi.cls := findClass_of_methodNamed B.named
  have hlocks := B.notSynchronized
  have hl := lv_entry ([.ref b, .int (nI j)]) (n := 2) (Nat.le_of_ble_eq_true rfl)
  rw [lg_entry_eq]
  generalize (lg_sl ([.ref b, .int (nI j)]) ++ List.replicate (2 - (lg_sl ([.ref b, .int (nI j)])).length) Slot.unset).toArray = ls at hl ⊢
  have hl : lv_has ls 2 [(0, .ref b), (1, .int (nI j))] := hl
  have hbl : b < s.heap.size := by obtain ⟨scr, h1, -⟩ := hF; exact (Array.getElem?_eq_some_iff.mp h1).1
  have hS : va_S fF s.heap s.heap [] := va_S.rf
  refine lv_iload_n hx hb dX0_cell_0 rfl (lv_at hl 1 rfl) ?_
  refine lv_aload_n hx hb dX0_cell_1 rfl (lv_at hl 0 rfl) ?_
  refine va_slen hx hb hF hbl (fun h => h) hS dX0_cell_2 ?_
  refine lv_icmp_ge (tgt := 12) hx hb dX0_cell_3 (by decide) (fun c3 => ?_) (fun c3 => ?_)
  · have k_3 : (L : Int) ≤ (j : Int) := (ic_le (X := (L : Int)) (Y := (j : Int)) (nI_toInt (by omega)) (nI_toInt (by omega))).mp c3
    refine lv_iconst (v := 0) hx hb dX0_cell_12 (by decide +kernel) ?_
    exact W.iret (v := 0) hx hb hr (fun t ht hW => ⟨_, rfl, by show (0 : Int32) = if j < L then xs j else 0; rw [if_neg (by omega)], ht⟩) (fun q h => by cases h) dX0_cell_13
  · have k_3 : ¬ (L : Int) ≤ (j : Int) := fun c0 => c3 ((ic_le (X := (L : Int)) (Y := (j : Int)) (nI_toInt (by omega)) (nI_toInt (by omega))).mpr c0)
    refine lv_aload_n hx hb dX0_cell_6 rfl (lv_at hl 0 rfl) ?_
    refine lv_iload_n hx hb dX0_cell_7 rfl (lv_at hl 1 rfl) ?_
    refine va_sld hx hb hF hbl (fun h => h) hS (vp_in_nI (by omega) (by omega)) dX0_cell_8 ?_
    refine lv_goto (tgt := 13) hx hb dX0_cell_9 (by decide) ?_
    exact W.iret (v := (xs (nI j).toNatClampNeg)) hx hb hr (fun t ht hW => ⟨_, rfl, by show (xs (nI j).toNatClampNeg) = if j < L then xs j else 0; rw [if_pos (by omega), nI_clamp (by omega)], ht⟩) (fun q h => by cases h) dX0_cell_13
set_option maxHeartbeats 4000000 in
set_option maxRecDepth 100000 in
/-- the law's length of a month -/
theorem metX0_length (l : Launch) (m : Int32) (y : Int) (h1 : 1 ≤ m.toInt) (h2 : m.toInt ≤ 12) : Met l yX0_length (ws_ yX0_length cX0_length 2 (some .int)) ({ frames := 0, cells := 0, slots := 0, locals := 0 }) (va_Pc [.int m, .int (lB y)] (fun U => fNo U U.heap)) (vp_Si (fun r => r.toInt = ca_ln (ca_L y) m.toInt)) 0 0 (fun _ => False) := by
  refine Met.ofW (cc := cX0_length) (maxL := 2) (ret := (some .int)) (by decide +kernel) rfl ?_
  intro p e s mi args below me_ c s₁ B hml hv
  obtain ⟨rfl, hF⟩ := hv
  have hF : fNo s s.heap := hF
  have hx := B.exec
  have hb := B.bytes
  have hr := B.returns
  have hts := atoms_spec (ws := ws_ yX0_length cX0_length 2 (some .int)) B.pre
  have hts : ∀ w ∈ lw_all, w.before _ s = true := fun w h => hts w (List.mem_cons_of_mem _ h)
  have hown : s.vm.findClass RX0 = some mi.cls := findClass_of_methodNamed B.named
  have hlocks := B.notSynchronized
  have hl := lv_entry ([.int m, .int (lB y)]) (n := 2) (Nat.le_of_ble_eq_true rfl)
  rw [lg_entry_eq]
  generalize (lg_sl ([.int m, .int (lB y)]) ++ List.replicate (2 - (lg_sl ([.int m, .int (lB y)])).length) Slot.unset).toArray = ls at hl ⊢
  have hl : lv_has ls 2 [(0, .int m), (1, .int (lB y))] := hl
  have hL := ca_L01 y
  refine lv_iload_n hx hb dX0_length_0 rfl (lv_at hl 0 rfl) ?_
  refine lv_iconst (v := 2) hx hb dX0_length_1 (by decide +kernel) ?_
  refine lv_icmp_ne (tgt := 19) hx hb dX0_length_2 (by decide) (fun c2 => ?_) (fun c2 => ?_)
  · have k_2 : ¬ m.toInt = 2 := fun c0 => c2 ((ic_eq (X := m.toInt) (Y := 2) rfl (by decide +kernel)).mpr c0)
    refine lv_iload_n hx hb dX0_length_19 rfl (lv_at hl 0 rfl) ?_
    refine lv_iconst (v := 4) hx hb dX0_length_20 (by decide +kernel) ?_
    refine lv_icmp_eq (tgt := 42) hx hb dX0_length_21 (by decide) (fun c21 => ?_) (fun c21 => ?_)
    · have k_21 : m.toInt = 4 := (ic_eq (X := m.toInt) (Y := 4) rfl (by decide +kernel)).mp c21
      refine lv_bipush (v := 30) hx hb dX0_length_42 (by decide +kernel) ?_
      refine lv_goto (tgt := 49) hx hb dX0_length_44 (by decide) ?_
      have z8 : (30 : Int32).toInt = 30 := by decide +kernel
      exact W.iret (v := 30) hx hb hr (fun t ht hW => ⟨_, rfl, by show (30 : Int32).toInt = ca_ln (ca_L y) m.toInt; rw [z8]; rcases ca_tab (ca_L y) y h1 h2 with g | g | g | g | g | g | g | g | g | g | g | g <;> omega, ht⟩) (fun q h => by cases h) dX0_length_49
    · have k_21 : ¬ m.toInt = 4 := fun c0 => c21 ((ic_eq (X := m.toInt) (Y := 4) rfl (by decide +kernel)).mpr c0)
      refine lv_iload_n hx hb dX0_length_24 rfl (lv_at hl 0 rfl) ?_
      refine lv_bipush (v := 6) hx hb dX0_length_25 (by decide +kernel) ?_
      refine lv_icmp_eq (tgt := 42) hx hb dX0_length_27 (by decide) (fun c27 => ?_) (fun c27 => ?_)
      · have k_27 : m.toInt = 6 := (ic_eq (X := m.toInt) (Y := 6) rfl (by decide +kernel)).mp c27
        refine lv_bipush (v := 30) hx hb dX0_length_42 (by decide +kernel) ?_
        refine lv_goto (tgt := 49) hx hb dX0_length_44 (by decide) ?_
        have z8 : (30 : Int32).toInt = 30 := by decide +kernel
        exact W.iret (v := 30) hx hb hr (fun t ht hW => ⟨_, rfl, by show (30 : Int32).toInt = ca_ln (ca_L y) m.toInt; rw [z8]; rcases ca_tab (ca_L y) y h1 h2 with g | g | g | g | g | g | g | g | g | g | g | g <;> omega, ht⟩) (fun q h => by cases h) dX0_length_49
      · have k_27 : ¬ m.toInt = 6 := fun c0 => c27 ((ic_eq (X := m.toInt) (Y := 6) rfl (by decide +kernel)).mpr c0)
        refine lv_iload_n hx hb dX0_length_30 rfl (lv_at hl 0 rfl) ?_
        refine lv_bipush (v := 9) hx hb dX0_length_31 (by decide +kernel) ?_
        refine lv_icmp_eq (tgt := 42) hx hb dX0_length_33 (by decide) (fun c33 => ?_) (fun c33 => ?_)
        · have k_33 : m.toInt = 9 := (ic_eq (X := m.toInt) (Y := 9) rfl (by decide +kernel)).mp c33
          refine lv_bipush (v := 30) hx hb dX0_length_42 (by decide +kernel) ?_
          refine lv_goto (tgt := 49) hx hb dX0_length_44 (by decide) ?_
          have z8 : (30 : Int32).toInt = 30 := by decide +kernel
          exact W.iret (v := 30) hx hb hr (fun t ht hW => ⟨_, rfl, by show (30 : Int32).toInt = ca_ln (ca_L y) m.toInt; rw [z8]; rcases ca_tab (ca_L y) y h1 h2 with g | g | g | g | g | g | g | g | g | g | g | g <;> omega, ht⟩) (fun q h => by cases h) dX0_length_49
        · have k_33 : ¬ m.toInt = 9 := fun c0 => c33 ((ic_eq (X := m.toInt) (Y := 9) rfl (by decide +kernel)).mpr c0)
          refine lv_iload_n hx hb dX0_length_36 rfl (lv_at hl 0 rfl) ?_
          refine lv_bipush (v := 11) hx hb dX0_length_37 (by decide +kernel) ?_
          refine lv_icmp_ne (tgt := 47) hx hb dX0_length_39 (by decide) (fun c39 => ?_) (fun c39 => ?_)
          · have k_39 : ¬ m.toInt = 11 := fun c0 => c39 ((ic_eq (X := m.toInt) (Y := 11) rfl (by decide +kernel)).mpr c0)
            refine lv_bipush (v := 31) hx hb dX0_length_47 (by decide +kernel) ?_
            have z8 : (31 : Int32).toInt = 31 := by decide +kernel
            exact W.iret (v := 31) hx hb hr (fun t ht hW => ⟨_, rfl, by show (31 : Int32).toInt = ca_ln (ca_L y) m.toInt; rw [z8]; rcases ca_tab (ca_L y) y h1 h2 with g | g | g | g | g | g | g | g | g | g | g | g <;> omega, ht⟩) (fun q h => by cases h) dX0_length_49
          · have k_39 : m.toInt = 11 := (ic_eq (X := m.toInt) (Y := 11) rfl (by decide +kernel)).mp c39
            refine lv_bipush (v := 30) hx hb dX0_length_42 (by decide +kernel) ?_
            refine lv_goto (tgt := 49) hx hb dX0_length_44 (by decide) ?_
            have z8 : (30 : Int32).toInt = 30 := by decide +kernel
            exact W.iret (v := 30) hx hb hr (fun t ht hW => ⟨_, rfl, by show (30 : Int32).toInt = ca_ln (ca_L y) m.toInt; rw [z8]; rcases ca_tab (ca_L y) y h1 h2 with g | g | g | g | g | g | g | g | g | g | g | g <;> omega, ht⟩) (fun q h => by cases h) dX0_length_49
  · have k_2 : m.toInt = 2 := (ic_eq (X := m.toInt) (Y := 2) rfl (by decide +kernel)).mp c2
    refine lv_iload_n hx hb dX0_length_5 rfl (lv_at hl 1 rfl) ?_
    refine lv_if_eq (tgt := 14) hx hb dX0_length_6 (by decide) (fun c6 => ?_) (fun c6 => ?_)
    · have k_6 : (ca_L y) = 0 := (ic_eq (X := (ca_L y)) (Y := 0) (lB_I y) (by decide +kernel)).mp c6
      refine lv_bipush (v := 28) hx hb dX0_length_14 (by decide +kernel) ?_
      refine lv_goto (tgt := 49) hx hb dX0_length_16 (by decide) ?_
      have z8 : (28 : Int32).toInt = 28 := by decide +kernel
      exact W.iret (v := 28) hx hb hr (fun t ht hW => ⟨_, rfl, by show (28 : Int32).toInt = ca_ln (ca_L y) m.toInt; rw [z8]; rcases ca_tab (ca_L y) y h1 h2 with g | g | g | g | g | g | g | g | g | g | g | g <;> omega, ht⟩) (fun q h => by cases h) dX0_length_49
    · have k_6 : ¬ (ca_L y) = 0 := fun c0 => c6 ((ic_eq (X := (ca_L y)) (Y := 0) (lB_I y) (by decide +kernel)).mpr c0)
      refine lv_bipush (v := 29) hx hb dX0_length_9 (by decide +kernel) ?_
      refine lv_goto (tgt := 49) hx hb dX0_length_11 (by decide) ?_
      have z8 : (29 : Int32).toInt = 29 := by decide +kernel
      exact W.iret (v := 29) hx hb hr (fun t ht hW => ⟨_, rfl, by show (29 : Int32).toInt = ca_ln (ca_L y) m.toInt; rw [z8]; rcases ca_tab (ca_L y) y h1 h2 with g | g | g | g | g | g | g | g | g | g | g | g <;> omega, ht⟩) (fun q h => by cases h) dX0_length_49
set_option maxHeartbeats 4000000 in
set_option maxRecDepth 100000 in
/-- Math.floorDiv by a positive number -/
theorem metJ9_floorDiv (l : Launch) (a b : Int64) (c9 : Int) (hq : b.toInt = c9) (hc : 0 < c9) : Met l yJ9_floorDiv (ws_ yJ9_floorDiv cJ9_floorDiv 6 (some .long)) ({ frames := 0, cells := 0, slots := 0, locals := 0 }) (va_Pc [.long a, .long b] (fun U => fNo U U.heap)) (vp_Sl (fun r => r.toInt = a.toInt / c9)) 0 0 (fun _ => False) := by
  refine va_MetF (cc := cJ9_floorDiv) (maxL := 6) (ret := (some .long)) (by decide +kernel) rfl ?_
  intro p e s mi args below me_ c s₁ B hml hv
  obtain ⟨rfl, hF⟩ := hv
  have hF : fNo s s.heap := hF
  have hx := B.exec
  have hb := B.bytes
  have hr := B.returns
  have hts := atoms_spec (ws := ws_ yJ9_floorDiv cJ9_floorDiv 6 (some .long)) B.pre
  have hts : ∀ w ∈ lw_all, w.before _ s = true := fun w h => hts w (List.mem_cons_of_mem _ h)
  have hown : s.vm.findClass RJ9 = some mi.cls := findClass_of_methodNamed B.named
  have hlocks := B.notSynchronized
  have hl := lv_entry ([.long a, .long b]) (n := 6) (Nat.le_of_ble_eq_true rfl)
  rw [lg_entry_eq]
  generalize (lg_sl ([.long a, .long b]) ++ List.replicate (6 - (lg_sl ([.long a, .long b])).length) Slot.unset).toArray = ls at hl ⊢
  have hl : lv_has ls 6 [(0, .long a), (2, .long b)] := hl
  refine lv_lload_n hx hb dJ9_floorDiv_0 rfl (lv_at hl 0 rfl) ?_
  refine lv_lload_n hx hb dJ9_floorDiv_1 rfl (lv_at hl 1 rfl) ?_
  refine lv_ldiv hx hb dJ9_floorDiv_2 (ll_nz hq hc) ?_
  refine lv_topl (fun v2 ev2 => ?_)
  refine lv_lstore (lv' := [(4, .long v2), (0, .long a), (2, .long b)]) hx hb dJ9_floorDiv_3 hl (by decide) rfl (fun ls hl => ?_)
  refine lv_lload_n hx hb dJ9_floorDiv_5 rfl (lv_at hl 1 rfl) ?_
  refine lv_lload_n hx hb dJ9_floorDiv_6 rfl (lv_at hl 2 rfl) ?_
  refine lv_lxor hx hb dJ9_floorDiv_7 ?_
  refine lv_topl (fun v7 ev7 => ?_)
  refine lv_lconst (v := 0) hx hb dJ9_floorDiv_8 (by decide +kernel) ?_
  refine W.lcmp hx hb dJ9_floorDiv_9 ?_
  have tq := ll_div ev2 rfl hq hc
  have zx := ll_xor ev7 (by omega)
  refine lv_if_ge (tgt := 27) hx hb dJ9_floorDiv_10 (by decide) (fun c10 => ?_) (fun c10 => ?_)
  · have k_10 : 0 ≤ v7.toInt := (cm_ge0 (X := v7.toInt) (Y := 0) rfl (by decide +kernel)).mp c10
    refine lv_lload hx hb dJ9_floorDiv_27 (lv_at hl 0 rfl) ?_
    exact W.lret (v := v2) hx hb hr (fun t ht hW => ⟨_, rfl, by show v2.toInt = a.toInt / c9; have := tq.1 (by omega); omega, ht⟩) (fun q h => by cases h) dJ9_floorDiv_29
  · have k_10 : ¬ 0 ≤ v7.toInt := fun c0 => c10 ((cm_ge0 (X := v7.toInt) (Y := 0) rfl (by decide +kernel)).mpr c0)
    have tn := tq.2 (by omega)
    have hk := ll_remI hc tq
    have hr9 := ll_rng a
    have fd := fd_neg hc tn
    refine lv_lload hx hb dJ9_floorDiv_13 (lv_at hl 0 rfl) ?_
    refine lv_lload_n hx hb dJ9_floorDiv_15 rfl (lv_at hl 2 rfl) ?_
    refine lv_lmul hx hb dJ9_floorDiv_16 ?_
    refine lv_topl (fun v16 ev16 => ?_)
    refine lv_lload_n hx hb dJ9_floorDiv_17 rfl (lv_at hl 1 rfl) ?_
    refine W.lcmp hx hb dJ9_floorDiv_18 ?_
    have tm : v16.toInt = v2.toInt * c9 := ll_mul ev16 rfl hq (hk.1 hr9).1 (hk.1 hr9).2
    refine lv_if_eq (tgt := 27) hx hb dJ9_floorDiv_19 (by decide) (fun c19 => ?_) (fun c19 => ?_)
    · have k_19 : v16.toInt = a.toInt := (cm_eq0 (X := v16.toInt) (Y := a.toInt) rfl rfl).mp c19
      refine lv_lload hx hb dJ9_floorDiv_27 (lv_at hl 0 rfl) ?_
      exact W.lret (v := v2) hx hb hr (fun t ht hW => ⟨_, rfl, (fd.1 (by omega)).symm, ht⟩) (fun q h => by cases h) dJ9_floorDiv_29
    · have k_19 : ¬ v16.toInt = a.toInt := fun c0 => c19 ((cm_eq0 (X := v16.toInt) (Y := a.toInt) rfl rfl).mpr c0)
      have hlt := ll_rng v2
      have hne : -9223372036854775808 < v2.toInt := by
        have h9 := fd.2 (by omega)
        have h8 : a.toInt / c9 * c9 ≤ a.toInt := Int.ediv_mul_le a.toInt (show c9 ≠ 0 by omega)
        have h7 : -9223372036854775808 ≤ v2.toInt * c9 := (hk.1 hr9).1
        have h6 : a.toInt < v2.toInt * c9 := by have h5 := (hk.2.2.1 (by omega)); have h4 := Int.emod_nonneg (-a.toInt) (show c9 ≠ 0 by omega); omega
        have h3 : v2.toInt ≤ 0 := by have h5 : 0 ≤ (-a.toInt) / c9 := Int.ediv_nonneg (by omega) (by omega); omega
        have h2 : v2.toInt * c9 ≤ v2.toInt * 1 := Int.mul_le_mul_of_nonpos_left h3 (by omega)
        omega
      refine lv_lload hx hb dJ9_floorDiv_22 (lv_at hl 0 rfl) ?_
      refine lv_lconst (v := 1) hx hb dJ9_floorDiv_24 (by decide +kernel) ?_
      refine lv_lsub hx hb dJ9_floorDiv_25 ?_
      refine lv_topl (fun v25 ev25 => ?_)
      have tv25 : v25.toInt = v2.toInt - 1 := ll_sub ev25 rfl (by decide +kernel) (by omega) (by omega)
      exact W.lret (v := v25) hx hb hr (fun t ht hW => ⟨_, rfl, by show v25.toInt = a.toInt / c9; have := fd.2 (by omega); omega, ht⟩) (fun q h => by cases h) dJ9_floorDiv_26
set_option maxHeartbeats 4000000 in
set_option maxRecDepth 100000 in
/-- Math.floorMod by a positive number: it returns -/
theorem metJ9_floorMod (l : Launch) (a b : Int64) (c9 : Int) (hq : b.toInt = c9) (hc : 0 < c9) : Met l yJ9_floorMod (ws_ yJ9_floorMod cJ9_floorMod 6 (some .long)) ({ frames := 0, cells := 0, slots := 0, locals := 0 }) (va_Pc [.long a, .long b] (fun U => fNo U U.heap)) (vp_Sl (fun r => True)) 0 0 (fun _ => False) := by
  refine va_MetF (cc := cJ9_floorMod) (maxL := 6) (ret := (some .long)) (by decide +kernel) rfl ?_
  intro p e s mi args below me_ c s₁ B hml hv
  obtain ⟨rfl, hF⟩ := hv
  have hF : fNo s s.heap := hF
  have hx := B.exec
  have hb := B.bytes
  have hr := B.returns
  have hts := atoms_spec (ws := ws_ yJ9_floorMod cJ9_floorMod 6 (some .long)) B.pre
  have hts : ∀ w ∈ lw_all, w.before _ s = true := fun w h => hts w (List.mem_cons_of_mem _ h)
  have hown : s.vm.findClass RJ9 = some mi.cls := findClass_of_methodNamed B.named
  have hlocks := B.notSynchronized
  have hl := lv_entry ([.long a, .long b]) (n := 6) (Nat.le_of_ble_eq_true rfl)
  rw [lg_entry_eq]
  generalize (lg_sl ([.long a, .long b]) ++ List.replicate (6 - (lg_sl ([.long a, .long b])).length) Slot.unset).toArray = ls at hl ⊢
  have hl : lv_has ls 6 [(0, .long a), (2, .long b)] := hl
  refine lv_lload_n hx hb dJ9_floorMod_0 rfl (lv_at hl 0 rfl) ?_
  refine lv_lload_n hx hb dJ9_floorMod_1 rfl (lv_at hl 1 rfl) ?_
  refine lv_lrem hx hb dJ9_floorMod_2 (ll_nz hq hc) ?_
  refine lv_topl (fun v2 ev2 => ?_)
  refine lv_lstore (lv' := [(4, .long v2), (0, .long a), (2, .long b)]) hx hb dJ9_floorMod_3 hl (by decide) rfl (fun ls hl => ?_)
  refine lv_lload_n hx hb dJ9_floorMod_5 rfl (lv_at hl 1 rfl) ?_
  refine lv_lload_n hx hb dJ9_floorMod_6 rfl (lv_at hl 2 rfl) ?_
  refine lv_lxor hx hb dJ9_floorMod_7 ?_
  refine lv_topl (fun v7 ev7 => ?_)
  refine lv_lconst (v := 0) hx hb dJ9_floorMod_8 (by decide +kernel) ?_
  refine W.lcmp hx hb dJ9_floorMod_9 ?_
  refine lv_if_ge (tgt := 25) hx hb dJ9_floorMod_10 (by decide) (fun c10 => ?_) (fun c10 => ?_)
  · have k_10 : 0 ≤ v7.toInt := (cm_ge0 (X := v7.toInt) (Y := 0) rfl (by decide +kernel)).mp c10
    refine lv_lload hx hb dJ9_floorMod_25 (lv_at hl 0 rfl) ?_
    exact W.lret (v := v2) hx hb hr (fun t ht hW => ⟨_, rfl, trivial, ht⟩) (fun q h => by cases h) dJ9_floorMod_27
  · have k_10 : ¬ 0 ≤ v7.toInt := fun c0 => c10 ((cm_ge0 (X := v7.toInt) (Y := 0) rfl (by decide +kernel)).mpr c0)
    refine lv_lload hx hb dJ9_floorMod_13 (lv_at hl 0 rfl) ?_
    refine lv_lconst (v := 0) hx hb dJ9_floorMod_15 (by decide +kernel) ?_
    refine W.lcmp hx hb dJ9_floorMod_16 ?_
    refine lv_if_eq (tgt := 25) hx hb dJ9_floorMod_17 (by decide) (fun c17 => ?_) (fun c17 => ?_)
    · have k_17 : v2.toInt = 0 := (cm_eq0 (X := v2.toInt) (Y := 0) rfl (by decide +kernel)).mp c17
      refine lv_lload hx hb dJ9_floorMod_25 (lv_at hl 0 rfl) ?_
      exact W.lret (v := v2) hx hb hr (fun t ht hW => ⟨_, rfl, trivial, ht⟩) (fun q h => by cases h) dJ9_floorMod_27
    · have k_17 : ¬ v2.toInt = 0 := fun c0 => c17 ((cm_eq0 (X := v2.toInt) (Y := 0) rfl (by decide +kernel)).mpr c0)
      refine lv_lload hx hb dJ9_floorMod_20 (lv_at hl 0 rfl) ?_
      refine lv_lload_n hx hb dJ9_floorMod_22 rfl (lv_at hl 2 rfl) ?_
      refine lv_ladd hx hb dJ9_floorMod_23 ?_
      refine lv_topl (fun v23 ev23 => ?_)
      exact W.lret (v := v23) hx hb hr (fun t ht hW => ⟨_, rfl, trivial, ht⟩) (fun q h => by cases h) dJ9_floorMod_24
set_option maxHeartbeats 4000000 in
set_option maxRecDepth 100000 in
/-- the law's first day of a year -/
theorem metX0_askedFirstOf (l : Launch) (v : Int64) (h1 : -1000000000 ≤ v.toInt) (h2 : v.toInt ≤ 1000000000) : Met l yX0_askedFirstOf (ws_ yX0_askedFirstOf cX0_askedFirstOf 4 (some .long)) ({ frames := 1, cells := 0, slots := 0, locals := 25 }) (va_Pc [.long v] (fun U => fNo U U.heap)) (vp_Sl (fun r => r.toInt = 365 * (v.toInt - 1) + (v.toInt - 1) / 4 - (v.toInt - 1) / 100 + (v.toInt - 1) / 400 - 719162)) 0 0 (fun _ => False) := by
  refine Met.ofW (cc := cX0_askedFirstOf) (maxL := 4) (ret := (some .long)) (by decide +kernel) rfl ?_
  intro p e s mi args below me_ c s₁ B hml hv
  obtain ⟨rfl, hF⟩ := hv
  have hF : fNo s s.heap := hF
  have hx := B.exec
  have hb := B.bytes
  have hr := B.returns
  have hts := atoms_spec (ws := ws_ yX0_askedFirstOf cX0_askedFirstOf 4 (some .long)) B.pre
  have hts : ∀ w ∈ lw_all, w.before _ s = true := fun w h => hts w (List.mem_cons_of_mem _ h)
  have hown : s.vm.findClass RX0 = some mi.cls := findClass_of_methodNamed B.named
  have hlocks := B.notSynchronized
  have hl := lv_entry ([.long v]) (n := 4) (Nat.le_of_ble_eq_true rfl)
  rw [lg_entry_eq]
  generalize (lg_sl ([.long v]) ++ List.replicate (4 - (lg_sl ([.long v])).length) Slot.unset).toArray = ls at hl ⊢
  have hl : lv_has ls 4 [(0, .long v)] := hl
  refine lv_lload_n hx hb dX0_askedFirstOf_0 rfl (lv_at hl 0 rfl) ?_
  refine lv_lconst (v := 1) hx hb dX0_askedFirstOf_1 (by decide +kernel) ?_
  refine lv_lsub hx hb dX0_askedFirstOf_2 ?_
  refine lv_topl (fun v2 ev2 => ?_)
  have tv2 : v2.toInt = v.toInt - 1 := ll_sub ev2 rfl (by decide +kernel) (by omega) (by omega)
  refine lv_lstore_n (lv' := [(2, .long v2), (0, .long v)]) hx hb dX0_askedFirstOf_3 rfl hl (by decide) rfl (fun ls hl => ?_)
  refine lv_ldc2 (v := 365) hx hb hown (hts _ q685) dX0_askedFirstOf_4 ?_
  refine lv_lload_n hx hb dX0_askedFirstOf_7 rfl (lv_at hl 0 rfl) ?_
  refine lv_lmul hx hb dX0_askedFirstOf_8 ?_
  refine lv_topl (fun v8 ev8 => ?_)
  have tv8 : v8.toInt = 365 * v2.toInt := ll_mul ev8 (by decide +kernel) rfl (by omega) (by omega)
  refine lv_lload_n hx hb dX0_askedFirstOf_9 rfl (lv_at hl 0 rfl) ?_
  refine lv_ldc2 (v := 4) hx hb hown (hts _ q686) dX0_askedFirstOf_10 ?_
  have g13 : fNo s s.heap := trivial
  refine vp_callSl (W.runS (As := [.long v2, .long 4]) (rest := [.long v8]) ⟨hx, hb, hml, hown, hts⟩ (metJ9_floorDiv l v2 4 4 (by decide +kernel) (by decide)) (va_cwS 2 hts (lw_S q679 q680 q18 q681) rfl rfl rfl (by decide +kernel) ⟨Nat.le_of_ble_eq_true rfl, Nat.le_of_ble_eq_true rfl⟩) (pS_start (F := fNo) fNo_mv g13) rfl rfl hl.1 rfl (lv_room (Nat.le_of_ble_eq_true rfl)) dX0_askedFirstOf_13 ⟨Nat.le_of_ble_eq_true rfl, Nat.le_of_ble_eq_true rfl⟩) (fun r13 pr13 => ?_)
  have pr13 : r13.toInt = v2.toInt / 4 := pr13
  refine lv_ladd hx hb dX0_askedFirstOf_16 ?_
  refine lv_topl (fun v16 ev16 => ?_)
  have tv16 : v16.toInt = v8.toInt + r13.toInt := ll_add ev16 rfl rfl (by omega) (by omega)
  refine lv_lload_n hx hb dX0_askedFirstOf_17 rfl (lv_at hl 0 rfl) ?_
  refine lv_ldc2 (v := 100) hx hb hown (hts _ q687) dX0_askedFirstOf_18 ?_
  have g21 : fNo s s.heap := trivial
  refine vp_callSl (W.runS (As := [.long v2, .long 100]) (rest := [.long v16]) ⟨hx, hb, hml, hown, hts⟩ (metJ9_floorDiv l v2 100 100 (by decide +kernel) (by decide)) (va_cwS 2 hts (lw_S q679 q680 q18 q681) rfl rfl rfl (by decide +kernel) ⟨Nat.le_of_ble_eq_true rfl, Nat.le_of_ble_eq_true rfl⟩) (pS_start (F := fNo) fNo_mv g21) rfl rfl hl.1 rfl (lv_room (Nat.le_of_ble_eq_true rfl)) dX0_askedFirstOf_21 ⟨Nat.le_of_ble_eq_true rfl, Nat.le_of_ble_eq_true rfl⟩) (fun r21 pr21 => ?_)
  have pr21 : r21.toInt = v2.toInt / 100 := pr21
  refine lv_lsub hx hb dX0_askedFirstOf_24 ?_
  refine lv_topl (fun v24 ev24 => ?_)
  have tv24 : v24.toInt = v16.toInt - r21.toInt := ll_sub ev24 rfl rfl (by omega) (by omega)
  refine lv_lload_n hx hb dX0_askedFirstOf_25 rfl (lv_at hl 0 rfl) ?_
  refine lv_ldc2 (v := 400) hx hb hown (hts _ q694) dX0_askedFirstOf_26 ?_
  have g29 : fNo s s.heap := trivial
  refine vp_callSl (W.runS (As := [.long v2, .long 400]) (rest := [.long v24]) ⟨hx, hb, hml, hown, hts⟩ (metJ9_floorDiv l v2 400 400 (by decide +kernel) (by decide)) (va_cwS 2 hts (lw_S q679 q680 q18 q681) rfl rfl rfl (by decide +kernel) ⟨Nat.le_of_ble_eq_true rfl, Nat.le_of_ble_eq_true rfl⟩) (pS_start (F := fNo) fNo_mv g29) rfl rfl hl.1 rfl (lv_room (Nat.le_of_ble_eq_true rfl)) dX0_askedFirstOf_29 ⟨Nat.le_of_ble_eq_true rfl, Nat.le_of_ble_eq_true rfl⟩) (fun r29 pr29 => ?_)
  have pr29 : r29.toInt = v2.toInt / 400 := pr29
  refine lv_ladd hx hb dX0_askedFirstOf_32 ?_
  refine lv_topl (fun v32 ev32 => ?_)
  have tv32 : v32.toInt = v24.toInt + r29.toInt := ll_add ev32 rfl rfl (by omega) (by omega)
  refine lv_ldc2 (v := 719162) hx hb hown (hts _ q698) dX0_askedFirstOf_33 ?_
  refine lv_lsub hx hb dX0_askedFirstOf_36 ?_
  refine lv_topl (fun v36 ev36 => ?_)
  have tv36 : v36.toInt = v32.toInt - 719162 := ll_sub ev36 rfl (by decide +kernel) (by omega) (by omega)
  exact W.lret (v := v36) hx hb hr (fun t ht hW => ⟨_, rfl, by show v36.toInt = 365 * (v.toInt - 1) + (v.toInt - 1) / 4 - (v.toInt - 1) / 100 + (v.toInt - 1) / 400 - 719162; omega, ht⟩) (fun q h => by cases h) dX0_askedFirstOf_37
end
section
/-! CONTRACTS OF THE METHODS THAT MAKE OR CHANGE CELLS (printed by wip/D-29837w/gen/alloc.py) -/
set_option maxRecDepth 100000
theorem vP0 {D : va_G} {cl : List vw_C} {H : Heap} : va_P D cl [] H := fun k q h => by simp at h
theorem vD0 {A : Nat → Prop} : va_D A [] := ⟨fun i j p q h => by simp at h, fun k q h => by simp at h⟩
theorem sh_nar {m : Int32} (h1 : -32768 ≤ m.toInt) (h2 : m.toInt ≤ 32767) : narrow .short (.int m) = .int m ∧ fits .short (.int m) = true := by
  have e : m.toInt16.toInt32 = m := ii_i2s rfl rfl h1 h2
  have a := pk_ns m
  have b := pk_fs m
  rw [e] at a b
  exact ⟨a, b⟩
/-- a LocalDate that comes back -/
abbrev bLD (D : va_G) (A : Nat → Prop) (u : Int32 × Int32 × Int32) (a : Nat) (t : State) : Prop := va_P D vwC [(a, .inr (1, [.int u.1, .int u.2.1, .int u.2.2]))] t.heap ∧ va_K D vwC [] t ∧ va_D A [(a, .inr (1, [.int u.1, .int u.2.1, .int u.2.2]))]
/-- a DayCount behind a method of its own -/
abbrev bDC (D : va_G) (A : Nat → Prop) (h : Nat) (u : Int32 × Int32 × Int32) (t : State) : Prop := ∃ q : Nat, va_P D vwC [(h, .inr (0, [.ref q])), (q, .inr (1, [.int u.1, .int u.2.1, .int u.2.2]))] t.heap ∧ va_K D vwC [] t ∧ va_D A [(h, .inr (0, [.ref q])), (q, .inr (1, [.int u.1, .int u.2.1, .int u.2.2]))]
/-- an array of five longs that comes back -/
abbrev bAR (D : va_G) (A : Nat → Prop) (u : Nat → Int64) (a : Nat) (t : State) : Prop := ∃ cA : ClassId, va_P D vwC [(a, .inl (cA, 5, .inr (.inl u)))] t.heap ∧ va_K D vwC [(cA, .long)] t ∧ va_D A [(a, .inl (cA, 5, .inr (.inl u)))]
/-- nothing is said of the world behind -/
abbrev b0 (_ : Unit) (_ : State) : Prop := True
theorem zlo : (-365243219162 : Int64).toInt = -365243219162 := by decide +kernel
theorem zhi : (365241780471 : Int64).toInt = 365241780471 := by decide +kernel
theorem zylo : (-999999999 : Int64).toInt = -999999999 := by decide +kernel
theorem zyhi : (999999999 : Int64).toInt = 999999999 := by decide +kernel
set_option maxHeartbeats 4000000 in
set_option maxRecDepth 100000 in
/-- DefaultInterfaceTemporalAccessor() -/
theorem metX2_init (l : Launch) (h : Nat)  : Met l yX2_init (ws_ yX2_init cX2_init 1 none) ({ frames := 1, cells := 0, slots := 0, locals := 12 }) (va_Pc [.ref h] (fun U => fNo U U.heap)) (va_Sv (fun _ => True)) 0 0 (fun _ => False) := by
  refine Met.ofW (cc := cX2_init) (maxL := 1) (ret := none) (by decide +kernel) rfl ?_
  intro p e s mi args below me_ c s₁ B hml hv
  obtain ⟨rfl, hF⟩ := hv
  have hF : fNo s s.heap := hF
  have hx := B.exec
  have hb := B.bytes
  have hr := B.returns
  have hts := atoms_spec (ws := ws_ yX2_init cX2_init 1 none) B.pre
  have hts : ∀ w ∈ lw_all, w.before _ s = true := fun w h => hts w (List.mem_cons_of_mem _ h)
  have hown : s.vm.findClass RX2 = some mi.cls := findClass_of_methodNamed B.named
  have hlocks := B.notSynchronized
  have hin : me_.name = "<init>" := (name_of_methodNamed B.named B.method).1
  have hl := lv_entry ([.ref h]) (n := 1) (Nat.le_of_ble_eq_true rfl)
  rw [lg_entry_eq]
  generalize (lg_sl ([.ref h]) ++ List.replicate (1 - (lg_sl ([.ref h])).length) Slot.unset).toArray = ls at hl ⊢
  have hl : lv_has ls 1 [(0, .ref h)] := hl
  refine lv_aload_n hx hb dX2_init_0 rfl (lv_at hl 0 rfl) ?_
  refine W.objInit hx hb hown (hts _ q513) (hts _ q44) (hts _ q45) rfl (by rw [hml]; exact hl.1) rfl dX2_init_1 (Nat.le_of_ble_eq_true rfl) (Nat.le_of_ble_eq_true rfl) ?_
  refine W.eq (g2 := F0 mi 4 ls []) rfl ?_
  exact W.vret hx hb hr (fun t ht hW => ⟨rfl, trivial, ht⟩) (fun q h => by cases h) dX2_init_4
set_option maxHeartbeats 4000000 in
set_option maxRecDepth 100000 in
/-- the constructor above -/
theorem metX3_init (l : Launch) (h : Nat)  : Met l yX3_init (ws_ yX3_init cX3_init 1 none) ({ frames := 2, cells := 0, slots := 0, locals := 32 }) (va_Pc [.ref h] (fun U => fNo U U.heap)) (va_Sv (fun _ => True)) 0 0 (fun _ => False) := by
  refine Met.ofW (cc := cX3_init) (maxL := 1) (ret := none) (by decide +kernel) rfl ?_
  intro p e s mi args below me_ c s₁ B hml hv
  obtain ⟨rfl, hF⟩ := hv
  have hF : fNo s s.heap := hF
  have hx := B.exec
  have hb := B.bytes
  have hr := B.returns
  have hts := atoms_spec (ws := ws_ yX3_init cX3_init 1 none) B.pre
  have hts : ∀ w ∈ lw_all, w.before _ s = true := fun w h => hts w (List.mem_cons_of_mem _ h)
  have hown : s.vm.findClass RX3 = some mi.cls := findClass_of_methodNamed B.named
  have hlocks := B.notSynchronized
  have hin : me_.name = "<init>" := (name_of_methodNamed B.named B.method).1
  have hl := lv_entry ([.ref h]) (n := 1) (Nat.le_of_ble_eq_true rfl)
  rw [lg_entry_eq]
  generalize (lg_sl ([.ref h]) ++ List.replicate (1 - (lg_sl ([.ref h])).length) Slot.unset).toArray = ls at hl ⊢
  have hl : lv_has ls 1 [(0, .ref h)] := hl
  refine lv_aload_n hx hb dX3_init_0 rfl (lv_at hl 0 rfl) ?_
  have g1 : fNo s s.heap := trivial
  refine va_csv (W.runI (As := []) (rest := []) ⟨hx, hb, hml, hown, hts⟩ (metX2_init l h) (cwI 0 hts (lw_meth q512) rfl rfl rfl (hts _ q3) (hts _ q510) (hts _ q511) rfl (by decide +kernel) ⟨Nat.le_of_ble_eq_true rfl, Nat.le_of_ble_eq_true rfl⟩) (pS_start (F := fNo) fNo_mv g1) rfl rfl hl.1 rfl (lv_room (Nat.le_of_ble_eq_true rfl)) dX3_init_1 ⟨Nat.le_of_ble_eq_true rfl, Nat.le_of_ble_eq_true rfl⟩) (fun _ => ?_)
  exact W.vret hx hb hr (fun t ht hW => ⟨rfl, trivial, ht⟩) (fun q h => by cases h) dX3_init_4
set_option maxHeartbeats 4000000 in
set_option maxRecDepth 100000 in
/-- the constructor above -/
theorem metX4_init (l : Launch) (h : Nat)  : Met l yX4_init (ws_ yX4_init cX4_init 1 none) ({ frames := 3, cells := 0, slots := 0, locals := 52 }) (va_Pc [.ref h] (fun U => fNo U U.heap)) (va_Sv (fun _ => True)) 0 0 (fun _ => False) := by
  refine Met.ofW (cc := cX4_init) (maxL := 1) (ret := none) (by decide +kernel) rfl ?_
  intro p e s mi args below me_ c s₁ B hml hv
  obtain ⟨rfl, hF⟩ := hv
  have hF : fNo s s.heap := hF
  have hx := B.exec
  have hb := B.bytes
  have hr := B.returns
  have hts := atoms_spec (ws := ws_ yX4_init cX4_init 1 none) B.pre
  have hts : ∀ w ∈ lw_all, w.before _ s = true := fun w h => hts w (List.mem_cons_of_mem _ h)
  have hown : s.vm.findClass RX4 = some mi.cls := findClass_of_methodNamed B.named
  have hlocks := B.notSynchronized
  have hin : me_.name = "<init>" := (name_of_methodNamed B.named B.method).1
  have hl := lv_entry ([.ref h]) (n := 1) (Nat.le_of_ble_eq_true rfl)
  rw [lg_entry_eq]
  generalize (lg_sl ([.ref h]) ++ List.replicate (1 - (lg_sl ([.ref h])).length) Slot.unset).toArray = ls at hl ⊢
  have hl : lv_has ls 1 [(0, .ref h)] := hl
  refine lv_aload_n hx hb dX4_init_0 rfl (lv_at hl 0 rfl) ?_
  have g1a : fNo s s.heap := trivial
  refine va_csv (W.runI (As := []) (rest := []) ⟨hx, hb, hml, hown, hts⟩ (metX3_init l h) (cwI 0 hts (lw_meth q509) rfl rfl rfl (hts _ q4) (hts _ q507) (hts _ q508) rfl (by decide +kernel) ⟨Nat.le_of_ble_eq_true rfl, Nat.le_of_ble_eq_true rfl⟩) (pS_start (F := fNo) fNo_mv g1a) rfl rfl hl.1 rfl (lv_room (Nat.le_of_ble_eq_true rfl)) dX4_init_1 ⟨Nat.le_of_ble_eq_true rfl, Nat.le_of_ble_eq_true rfl⟩) (fun _ => ?_)
  exact W.vret hx hb hr (fun t ht hW => ⟨rfl, trivial, ht⟩) (fun q h => by cases h) dX4_init_4
set_option maxHeartbeats 4000000 in
set_option maxRecDepth 100000 in
/-- LocalDate(y, m, d) -/
theorem metX5_init (l : Launch) (D : va_G) (k : Nat → Nat) (sz : Nat) (h : Nat) (y m d : Int32) (h1 : -32768 ≤ m.toInt) (h2 : m.toInt ≤ 32767) (h3 : -32768 ≤ d.toInt) (h4 : d.toInt ≤ 32767) : Met l yX5_init (ws_ yX5_init cX5_init 4 none) ({ frames := 4, cells := 0, slots := 0, locals := 72 }) (va_Pc [.ref h, .int y, .int m, .int d] (al D k [(h, .inr (1, [.int 0, .int 0, .int 0]))] sz xT)) (va_Qv (fun (u : Unit) => True) (fun _ t => va_P D vwC [(h, .inr (1, [.int y, .int m, .int d]))] t.heap ∧ va_K D vwC [] t ∧ va_D (va_A [(h, .inr (1, [.int 0, .int 0, .int 0]))] sz) [(h, .inr (1, [.int y, .int m, .int d]))]) (va_A [(h, .inr (1, [.int 0, .int 0, .int 0]))] sz)) 0 0 (va_A [(h, .inr (1, [.int 0, .int 0, .int 0]))] sz) := by
  refine Met.ofW (cc := cX5_init) (maxL := 4) (ret := none) (by decide +kernel) rfl ?_
  intro p e s mi args below me_ c s₁ B hml hv
  obtain ⟨rfl, hsz, hP, hK, hD0, hC, hX⟩ := hv
  have hx := B.exec
  have hb := B.bytes
  have hr := B.returns
  have hts := atoms_spec (ws := ws_ yX5_init cX5_init 4 none) B.pre
  have hts : ∀ w ∈ lw_all, w.before _ s = true := fun w h => hts w (List.mem_cons_of_mem _ h)
  have hown : s.vm.findClass RX5 = some mi.cls := findClass_of_methodNamed B.named
  have hlocks := B.notSynchronized
  have hin : me_.name = "<init>" := (name_of_methodNamed B.named B.method).1
  have hl := lv_entry ([.ref h, .int y, .int m, .int d]) (n := 4) (Nat.le_of_ble_eq_true rfl)
  rw [lg_entry_eq]
  generalize (lg_sl ([.ref h, .int y, .int m, .int d]) ++ List.replicate (4 - (lg_sl ([.ref h, .int y, .int m, .int d])).length) Slot.unset).toArray = ls at hl ⊢
  have hl : lv_has ls 4 [(0, .ref h), (1, .int y), (2, .int m), (3, .int d)] := hl
  subst hsz
  have hD := hD0.self (sz := s.heap.size)
  generalize hAe : va_A [(h, .inr (1, [.int 0, .int 0, .int 0]))] s.heap.size = A at hD hC hX ⊢
  have hA : ∀ q : Nat, s.heap.size ≤ q → A q := fun q h => by rw [← hAe]; exact Or.inr h
  have hS : va_S A s.heap s.heap [] := va_S.rf
  have hP : va_P D vwC [(h, .inr (1, [.int 0, .int 0, .int 0]))] s.heap := hP
  refine lv_aload_n hx hb dX5_init_0 rfl (lv_at hl 0 rfl) ?_
  have g1b : fNo s s.heap := trivial
  refine va_csv (W.runI (As := []) (rest := []) ⟨hx, hb, hml, hown, hts⟩ (metX4_init l h) (cwI 0 hts (lw_meth q506) rfl rfl rfl (hts _ q5) (hts _ q504) (hts _ q505) rfl (by decide +kernel) ⟨Nat.le_of_ble_eq_true rfl, Nat.le_of_ble_eq_true rfl⟩) (pS_start (F := fNo) fNo_mv g1b) rfl rfl hl.1 rfl (lv_room (Nat.le_of_ble_eq_true rfl)) dX5_init_1 ⟨Nat.le_of_ble_eq_true rfl, Nat.le_of_ble_eq_true rfl⟩) (fun _ => ?_)
  refine lv_aload_n hx hb dX5_init_4 rfl (lv_at hl 0 rfl) ?_
  refine lv_iload_n hx hb dX5_init_5 rfl (lv_at hl 1 rfl) ?_
  refine va_putF (D := D) (ci := 1) (v := .int y) (ty := .int) (C := RX5) (T := TX5) (N := 3) hx hb hts in_X5 tyX5 tyX5_ok nmX5 hown hK hP hD hS 0 rfl rfl 0 (by decide) (hts _ q514) (fun _ h9 => h9) rfl hin rfl (by decide +kernel) rfl rfl (Nat.le_of_ble_eq_true rfl) dX5_init_6 (fun H locs hP hD hS => ?_)
  have hP : va_P D vwC [(h, .inr (1, [.int y, .int 0, .int 0]))] H := hP
  have hD : va_D A [(h, .inr (1, [.int y, .int 0, .int 0]))] := hD
  refine lv_aload_n hx hb dX5_init_9 rfl (lv_at hl 0 rfl) ?_
  refine lv_iload_n hx hb dX5_init_10 rfl (lv_at hl 2 rfl) ?_
  refine lv_i2s (v := m) hx hb dX5_init_11 (ii_i2s rfl rfl (by omega) (by omega)) ?_
  refine va_putF (D := D) (ci := 1) (v := .int m) (ty := .short) (C := RX5) (T := TX5) (N := 3) hx hb hts in_X5 tyX5 tyX5_ok nmX5 hown hK hP hD hS 0 rfl rfl 1 (by decide) (hts _ q515) (fun _ h9 => h9) rfl hin rfl (by decide +kernel) (sh_nar h1 h2).1 (sh_nar h1 h2).2 (Nat.le_of_ble_eq_true rfl) dX5_init_12 (fun H locs hP hD hS => ?_)
  have hP : va_P D vwC [(h, .inr (1, [.int y, .int m, .int 0]))] H := hP
  have hD : va_D A [(h, .inr (1, [.int y, .int m, .int 0]))] := hD
  refine lv_aload_n hx hb dX5_init_15 rfl (lv_at hl 0 rfl) ?_
  refine lv_iload_n hx hb dX5_init_16 rfl (lv_at hl 3 rfl) ?_
  refine lv_i2s (v := d) hx hb dX5_init_17 (ii_i2s rfl rfl (by omega) (by omega)) ?_
  refine va_putF (D := D) (ci := 1) (v := .int d) (ty := .short) (C := RX5) (T := TX5) (N := 3) hx hb hts in_X5 tyX5 tyX5_ok nmX5 hown hK hP hD hS 0 rfl rfl 2 (by decide) (hts _ q516) (fun _ h9 => h9) rfl hin rfl (by decide +kernel) (sh_nar h3 h4).1 (sh_nar h3 h4).2 (Nat.le_of_ble_eq_true rfl) dX5_init_18 (fun H locs hP hD hS => ?_)
  have hP : va_P D vwC [(h, .inr (1, [.int y, .int m, .int d]))] H := hP
  have hD : va_D A [(h, .inr (1, [.int y, .int m, .int d]))] := hD
  have hP9 := hP.sub (ws' := [(h, .inr (1, [.int y, .int m, .int d]))]) [0] rfl
  have hD9 := hD.sub (ws' := [(h, .inr (1, [.int y, .int m, .int d]))]) [0] (by decide) rfl
  have hK9 := hK.sub (tys' := []) [] rfl
  refine W.widen (k := 0) (n := 0) (Nat.le_of_ble_eq_true rfl) (Nat.le_of_ble_eq_true rfl) ?_
  exact W.vret hx hb hr (fun t ht hW => ⟨⟨(), rfl, trivial, by rw [ht]; exact hP9, va_K.moved hW.alike hK9, hD9⟩, hS.F ht⟩) hS.2.2 dX5_init_21
end
section
set_option maxHeartbeats 4000000 in
set_option maxRecDepth 100000 in
/-- LocalDate.ofEpochDay of a count in range -/
theorem metX5_ofEpochDay (l : Launch) (D : va_G) (k : Nat → Nat) (sz : Nat) (n : Int64) (h1 : -365243219162 ≤ n.toInt) (h2 : n.toInt ≤ 365241780471) : Met l yX5_ofEpochDay (ws_ yX5_ofEpochDay cX5_ofEpochDay 15 (some (.object "LocalDate"))) ({ frames := 5, cells := 1, slots := 3, locals := 109 }) (va_Pc [.long n] (al D k [] sz xT)) (va_Qr (fun (u : Int32 × Int32 × Int32) => gd n.toInt u.1 u.2.1 u.2.2) (bLD D (va_A [] sz)) (va_A [] sz)) 1 3 (va_A [] sz) := by
  refine Met.ofW (cc := cX5_ofEpochDay) (maxL := 15) (ret := (some (.object "LocalDate"))) (by decide +kernel) rfl ?_
  intro p e s mi args below me_ c s₁ B hml hv
  obtain ⟨rfl, hsz, hP, hK, hD0, hC, hX⟩ := hv
  have hx := B.exec
  have hb := B.bytes
  have hr := B.returns
  have hts := atoms_spec (ws := ws_ yX5_ofEpochDay cX5_ofEpochDay 15 (some (.object "LocalDate"))) B.pre
  have hts : ∀ w ∈ lw_all, w.before _ s = true := fun w h => hts w (List.mem_cons_of_mem _ h)
  have hown : s.vm.findClass RX5 = some mi.cls := findClass_of_methodNamed B.named
  have hlocks := B.notSynchronized
  have hl := lv_entry ([.long n]) (n := 15) (Nat.le_of_ble_eq_true rfl)
  rw [lg_entry_eq]
  generalize (lg_sl ([.long n]) ++ List.replicate (15 - (lg_sl ([.long n])).length) Slot.unset).toArray = ls at hl ⊢
  have hl : lv_has ls 15 [(0, .long n)] := hl
  subst hsz
  have hD := hD0.self (sz := s.heap.size)
  generalize hAe : va_A [] s.heap.size = A at hD hC hX ⊢
  have hA : ∀ q : Nat, s.heap.size ≤ q → A q := fun q h => by rw [← hAe]; exact Or.inr h
  have hS : va_S A s.heap s.heap [] := va_S.rf
  have hP : va_P D vwC [] s.heap := hP
  have zl := zlo
  have zh := zhi
  refine cs_gets hx hb (cst_kept hC hS.2.1).1.1 hown (hts _ q49) (fun _ h9 => h9) dX5_ofEpochDay_0 ?_
  refine lv_lload_n hx hb dX5_ofEpochDay_3 rfl (lv_at hl 0 rfl) ?_
  have g4 : fCF (k 0) (k 1) (-365243219162) 365241780471 fF s s.heap := fCF_narrow (cst_kept hC hS.2.1).1.2 (fF_no _)
  refine vp_callSl (W.runV (As := [.long n]) (rest := []) ⟨hx, hb, hml, hown, hts⟩ (metX6_checkValidValue l (k 0) (k 1) (-365243219162) 365241780471 n (by omega) (by omega)) (cwV 1 hts (lw_V q51 q52 q53 q8 q54) rfl rfl rfl (by decide +kernel) ⟨Nat.le_of_ble_eq_true rfl, Nat.le_of_ble_eq_true rfl⟩) (pV_start (F := fCF (k 0) (k 1) (-365243219162) 365241780471 fF) fCF_mv (cs_recv (g4.1)) g4) rfl rfl hl.1 rfl (lv_room (Nat.le_of_ble_eq_true rfl)) dX5_ofEpochDay_4 ⟨Nat.le_of_ble_eq_true rfl, Nat.le_of_ble_eq_true rfl⟩) (fun r4 pr4 => ?_)
  refine lv_pop2_2 hx hb dX5_ofEpochDay_7 rfl ?_
  refine lv_lload_n hx hb dX5_ofEpochDay_8 rfl (lv_at hl 0 rfl) ?_
  refine lv_ldc2 (v := 719528) hx hb hown (hts _ q469) dX5_ofEpochDay_9 ?_
  refine lv_ladd hx hb dX5_ofEpochDay_12 ?_
  refine lv_topl (fun v12 ev12 => ?_)
  have tv12 : v12.toInt = n.toInt + 719528 := ll_add ev12 rfl (by decide +kernel) (by omega) (by omega)
  refine lv_lstore_n (lv' := [(2, .long v12), (0, .long n)]) hx hb dX5_ofEpochDay_13 rfl hl (by decide) rfl (fun ls hl => ?_)
  refine lv_lload_n hx hb dX5_ofEpochDay_14 rfl (lv_at hl 0 rfl) ?_
  refine lv_ldc2 (v := 60) hx hb hown (hts _ q470) dX5_ofEpochDay_15 ?_
  refine lv_lsub hx hb dX5_ofEpochDay_18 ?_
  refine lv_topl (fun v18 ev18 => ?_)
  have tv18 : v18.toInt = v12.toInt - 60 := ll_sub ev18 rfl (by decide +kernel) (by omega) (by omega)
  refine lv_lstore_n (lv' := [(2, .long v18), (0, .long n)]) hx hb dX5_ofEpochDay_19 rfl hl (by decide) rfl (fun ls hl => ?_)
  refine lv_lconst (v := 0) hx hb dX5_ofEpochDay_20 (by decide +kernel) ?_
  refine lv_lstore (lv' := [(4, .long 0), (2, .long v18), (0, .long n)]) hx hb dX5_ofEpochDay_21 hl (by decide) rfl (fun ls hl => ?_)
  refine w_cut (α := Int64 × Int64) (fun a ls => lv_has ls 15 [(4, .long a.2), (2, .long a.1), (0, .long n)] ∧ ∃ κ : Int, a.2.toInt = 400 * κ ∧ a.1.toInt + 146097 * κ = n.toInt + 719468 ∧ 0 ≤ a.1.toInt ∧ a.1.toInt ≤ 365242499939 ∧ -2500001 ≤ κ ∧ κ ≤ 0) (fun a ls => F0 mi 58 ls []) ?_ ?_
  · rintro ⟨z, j⟩ ls ⟨hl, κ, hj1, hj2, hj3, hj4, hj5, hj6⟩
    have hl : lv_has ls 15 [(4, .long j), (2, .long z), (0, .long n)] := hl
    have hj1 : j.toInt = 400 * κ := hj1
    have hj2 : z.toInt + 146097 * κ = n.toInt + 719468 := hj2
    have hj3 : 0 ≤ z.toInt := hj3
    have hj4 : z.toInt ≤ 365242499939 := hj4
    refine lv_ldc2 (v := 400) hx hb hown (hts _ q472) dX5_ofEpochDay_58 ?_
    refine lv_lload_n hx hb dX5_ofEpochDay_61 rfl (lv_at hl 1 rfl) ?_
    refine lv_lmul hx hb dX5_ofEpochDay_62 ?_
    refine lv_topl (fun v62 ev62 => ?_)
    have tv62 : v62.toInt = 400 * z.toInt := ll_mul ev62 (by decide +kernel) rfl (by omega) (by omega)
    refine lv_ldc2 (v := 591) hx hb hown (hts _ q473) dX5_ofEpochDay_63 ?_
    refine lv_ladd hx hb dX5_ofEpochDay_66 ?_
    refine lv_topl (fun v66 ev66 => ?_)
    have tv66 : v66.toInt = v62.toInt + 591 := ll_add ev66 rfl (by decide +kernel) (by omega) (by omega)
    refine lv_ldc2 (v := 146097) hx hb hown (hts _ q471) dX5_ofEpochDay_67 ?_
    refine lv_ldiv hx hb dX5_ofEpochDay_70 (by decide) ?_
    refine lv_topl (fun v70 ev70 => ?_)
    have tv70 : v70.toInt = v66.toInt / 146097 := (ll_div ev70 rfl (by decide +kernel) (by decide)).1 (by omega)
    refine lv_lstore (lv' := [(6, .long v70), (4, .long j), (2, .long z), (0, .long n)]) hx hb dX5_ofEpochDay_71 hl (by decide) rfl (fun ls hl => ?_)
    refine lv_lload_n hx hb dX5_ofEpochDay_73 rfl (lv_at hl 2 rfl) ?_
    refine lv_ldc2 (v := 365) hx hb hown (hts _ q474) dX5_ofEpochDay_74 ?_
    refine lv_lload hx hb dX5_ofEpochDay_77 (lv_at hl 0 rfl) ?_
    refine lv_lmul hx hb dX5_ofEpochDay_79 ?_
    refine lv_topl (fun v79 ev79 => ?_)
    have tv79 : v79.toInt = 365 * v70.toInt := ll_mul ev79 (by decide +kernel) rfl (by omega) (by omega)
    refine lv_lload hx hb dX5_ofEpochDay_80 (lv_at hl 0 rfl) ?_
    refine lv_ldc2 (v := 4) hx hb hown (hts _ q475) dX5_ofEpochDay_82 ?_
    refine lv_ldiv hx hb dX5_ofEpochDay_85 (by decide) ?_
    refine lv_topl (fun v85 ev85 => ?_)
    have tv85 : v85.toInt = v70.toInt / 4 := (ll_div ev85 rfl (by decide +kernel) (by decide)).1 (by omega)
    refine lv_ladd hx hb dX5_ofEpochDay_86 ?_
    refine lv_topl (fun v86 ev86 => ?_)
    have tv86 : v86.toInt = v79.toInt + v85.toInt := ll_add ev86 rfl rfl (by omega) (by omega)
    refine lv_lload hx hb dX5_ofEpochDay_87 (lv_at hl 0 rfl) ?_
    refine lv_ldc2 (v := 100) hx hb hown (hts _ q476) dX5_ofEpochDay_89 ?_
    refine lv_ldiv hx hb dX5_ofEpochDay_92 (by decide) ?_
    refine lv_topl (fun v92 ev92 => ?_)
    have tv92 : v92.toInt = v70.toInt / 100 := (ll_div ev92 rfl (by decide +kernel) (by decide)).1 (by omega)
    refine lv_lsub hx hb dX5_ofEpochDay_93 ?_
    refine lv_topl (fun v93 ev93 => ?_)
    have tv93 : v93.toInt = v86.toInt - v92.toInt := ll_sub ev93 rfl rfl (by omega) (by omega)
    refine lv_lload hx hb dX5_ofEpochDay_94 (lv_at hl 0 rfl) ?_
    refine lv_ldc2 (v := 400) hx hb hown (hts _ q472) dX5_ofEpochDay_96 ?_
    refine lv_ldiv hx hb dX5_ofEpochDay_99 (by decide) ?_
    refine lv_topl (fun v99 ev99 => ?_)
    have tv99 : v99.toInt = v70.toInt / 400 := (ll_div ev99 rfl (by decide +kernel) (by decide)).1 (by omega)
    refine lv_ladd hx hb dX5_ofEpochDay_100 ?_
    refine lv_topl (fun v100 ev100 => ?_)
    have tv100 : v100.toInt = v93.toInt + v99.toInt := ll_add ev100 rfl rfl (by omega) (by omega)
    refine lv_lsub hx hb dX5_ofEpochDay_101 ?_
    refine lv_topl (fun v101 ev101 => ?_)
    have tv101 : v101.toInt = z.toInt - v100.toInt := ll_sub ev101 rfl rfl (by omega) (by omega)
    refine lv_lstore (lv' := [(8, .long v101), (6, .long v70), (4, .long j), (2, .long z), (0, .long n)]) hx hb dX5_ofEpochDay_102 hl (by decide) rfl (fun ls hl => ?_)
    have hfm : ca_fm v70.toInt = 365 * v70.toInt + v70.toInt / 4 - v70.toInt / 100 + v70.toInt / 400 := rfl
    have hst := ca_step v70.toInt
    have hest := ca_est (z := z.toInt) (y := v70.toInt) (by omega)
    refine w_cut (α := Int64 × Int64) (fun a ls => lv_has ls 15 [(8, .long a.2), (6, .long a.1), (4, .long j), (2, .long z), (0, .long n)] ∧ 0 ≤ a.1.toInt ∧ a.1.toInt ≤ 1100000000 ∧ z.toInt = ca_fm a.1.toInt + a.2.toInt ∧ 0 ≤ a.2.toInt ∧ a.2.toInt < 365 + ca_L (a.1.toInt + 1)) (fun a ls => F0 mi 148 ls []) ?_ ?_
    · rintro ⟨g, q⟩ ls ⟨hl, hg1, hg2, hg3, hg4, hg5⟩
      have hl : lv_has ls 15 [(8, .long q), (6, .long g), (4, .long j), (2, .long z), (0, .long n)] := hl
      have hg1 : 0 ≤ g.toInt := hg1
      have hg2 : g.toInt ≤ 1100000000 := hg2
      have hg3 : z.toInt = ca_fm g.toInt + q.toInt := hg3
      have hg4 : 0 ≤ q.toInt := hg4
      have hg5 : q.toInt < 365 + ca_L (g.toInt + 1) := hg5
      have hL := ca_L01 (g.toInt + 1)
      clear hfm hst hest
      refine lv_lload hx hb dX5_ofEpochDay_148 (lv_at hl 1 rfl) ?_
      refine lv_lload hx hb dX5_ofEpochDay_150 (lv_at hl 2 rfl) ?_
      refine lv_ladd hx hb dX5_ofEpochDay_152 ?_
      refine lv_topl (fun v152 ev152 => ?_)
      have tv152 : v152.toInt = g.toInt + j.toInt := ll_add ev152 rfl rfl (by omega) (by omega)
      refine lv_lstore (lv' := [(6, .long v152), (8, .long q), (4, .long j), (2, .long z), (0, .long n)]) hx hb dX5_ofEpochDay_153 hl (by decide) rfl (fun ls hl => ?_)
      refine lv_lload hx hb dX5_ofEpochDay_155 (lv_at hl 1 rfl) ?_
      refine lv_l2i (v := (q).toInt32) hx hb dX5_ofEpochDay_157 rfl ?_
      refine lv_topi (fun v157 ev157 => ?_)
      have tv157 : v157.toInt = q.toInt := ii_l2i ev157 rfl (by omega) (by omega)
      refine lv_istore (lv' := [(10, .int v157), (6, .long v152), (8, .long q), (4, .long j), (2, .long z), (0, .long n)]) hx hb dX5_ofEpochDay_158 hl (by decide) rfl (fun ls hl => ?_)
      refine lv_iload hx hb dX5_ofEpochDay_160 (lv_at hl 0 rfl) ?_
      refine lv_iconst (v := 5) hx hb dX5_ofEpochDay_162 (by decide +kernel) ?_
      refine lv_imul hx hb dX5_ofEpochDay_163 ?_
      refine lv_topi (fun v163 ev163 => ?_)
      have tv163 : v163.toInt = v157.toInt * 5 := ii_mul ev163 rfl (by decide +kernel) (by omega) (by omega)
      refine lv_iconst (v := 2) hx hb dX5_ofEpochDay_164 (by decide +kernel) ?_
      refine lv_iadd hx hb dX5_ofEpochDay_165 ?_
      refine lv_topi (fun v165 ev165 => ?_)
      have tv165 : v165.toInt = v163.toInt + 2 := ii_add ev165 rfl (by decide +kernel) (by omega) (by omega)
      refine lv_sipush (v := 153) hx hb dX5_ofEpochDay_166 (by decide +kernel) ?_
      refine lv_idiv hx hb dX5_ofEpochDay_169 (by decide) ?_
      refine lv_topi (fun v169 ev169 => ?_)
      have tv169 : v169.toInt = v165.toInt / 153 := (ii_div ev169 rfl (by decide +kernel) (by decide)).1 (by omega)
      refine lv_istore (lv' := [(11, .int v169), (10, .int v157), (6, .long v152), (8, .long q), (4, .long j), (2, .long z), (0, .long n)]) hx hb dX5_ofEpochDay_170 hl (by decide) rfl (fun ls hl => ?_)
      refine lv_iload hx hb dX5_ofEpochDay_172 (lv_at hl 0 rfl) ?_
      refine lv_iconst (v := 2) hx hb dX5_ofEpochDay_174 (by decide +kernel) ?_
      refine lv_iadd hx hb dX5_ofEpochDay_175 ?_
      refine lv_topi (fun v175 ev175 => ?_)
      have tv175 : v175.toInt = v169.toInt + 2 := ii_add ev175 rfl (by decide +kernel) (by omega) (by omega)
      refine lv_bipush (v := 12) hx hb dX5_ofEpochDay_176 (by decide +kernel) ?_
      refine lv_irem hx hb dX5_ofEpochDay_178 (by decide) ?_
      refine lv_topi (fun v178 ev178 => ?_)
      have tv178 : v178.toInt = v175.toInt % 12 := (ii_rem ev178 rfl (by decide +kernel) (by decide)).1 (by omega)
      refine lv_iconst (v := 1) hx hb dX5_ofEpochDay_179 (by decide +kernel) ?_
      refine lv_iadd hx hb dX5_ofEpochDay_180 ?_
      refine lv_topi (fun v180 ev180 => ?_)
      have tv180 : v180.toInt = v178.toInt + 1 := ii_add ev180 rfl (by decide +kernel) (by omega) (by omega)
      refine lv_istore (lv' := [(12, .int v180), (11, .int v169), (10, .int v157), (6, .long v152), (8, .long q), (4, .long j), (2, .long z), (0, .long n)]) hx hb dX5_ofEpochDay_181 hl (by decide) rfl (fun ls hl => ?_)
      have hdm := ca_dom (q := v157.toInt) (mm := v169.toInt) (m := v180.toInt) (by omega) (by omega) (by omega) (by omega)
      have hob := hdm.1
      refine lv_iload hx hb dX5_ofEpochDay_183 (lv_at hl 2 rfl) ?_
      refine lv_iload hx hb dX5_ofEpochDay_185 (lv_at hl 1 rfl) ?_
      refine lv_sipush (v := 306) hx hb dX5_ofEpochDay_187 (by decide +kernel) ?_
      refine lv_imul hx hb dX5_ofEpochDay_190 ?_
      refine lv_topi (fun v190 ev190 => ?_)
      have tv190 : v190.toInt = v169.toInt * 306 := ii_mul ev190 rfl (by decide +kernel) (by omega) (by omega)
      refine lv_iconst (v := 5) hx hb dX5_ofEpochDay_191 (by decide +kernel) ?_
      refine lv_iadd hx hb dX5_ofEpochDay_192 ?_
      refine lv_topi (fun v192 ev192 => ?_)
      have tv192 : v192.toInt = v190.toInt + 5 := ii_add ev192 rfl (by decide +kernel) (by omega) (by omega)
      refine lv_bipush (v := 10) hx hb dX5_ofEpochDay_193 (by decide +kernel) ?_
      refine lv_idiv hx hb dX5_ofEpochDay_195 (by decide) ?_
      refine lv_topi (fun v195 ev195 => ?_)
      have tv195 : v195.toInt = v192.toInt / 10 := (ii_div ev195 rfl (by decide +kernel) (by decide)).1 (by omega)
      refine lv_isub hx hb dX5_ofEpochDay_196 ?_
      refine lv_topi (fun v196 ev196 => ?_)
      have tv196 : v196.toInt = v157.toInt - v195.toInt := ii_sub ev196 rfl rfl (by omega) (by omega)
      refine lv_iconst (v := 1) hx hb dX5_ofEpochDay_197 (by decide +kernel) ?_
      refine lv_iadd hx hb dX5_ofEpochDay_198 ?_
      refine lv_topi (fun v198 ev198 => ?_)
      have tv198 : v198.toInt = v196.toInt + 1 := ii_add ev198 rfl (by decide +kernel) (by omega) (by omega)
      refine lv_istore (lv' := [(13, .int v198), (12, .int v180), (11, .int v169), (10, .int v157), (6, .long v152), (8, .long q), (4, .long j), (2, .long z), (0, .long n)]) hx hb dX5_ofEpochDay_199 hl (by decide) rfl (fun ls hl => ?_)
      refine lv_lload hx hb dX5_ofEpochDay_201 (lv_at hl 4 rfl) ?_
      refine lv_iload hx hb dX5_ofEpochDay_203 (lv_at hl 2 rfl) ?_
      refine lv_bipush (v := 10) hx hb dX5_ofEpochDay_205 (by decide +kernel) ?_
      refine lv_idiv hx hb dX5_ofEpochDay_207 (by decide) ?_
      refine lv_topi (fun v207 ev207 => ?_)
      have tv207 : v207.toInt = v169.toInt / 10 := (ii_div ev207 rfl (by decide +kernel) (by decide)).1 (by omega)
      refine lv_i2l (v := (v207).toInt64) hx hb dX5_ofEpochDay_208 rfl ?_
      refine lv_topl (fun v208 ev208 => ?_)
      have tv208 : v208.toInt = v207.toInt := ll_i2l ev208 rfl
      refine lv_ladd hx hb dX5_ofEpochDay_209 ?_
      refine lv_topl (fun v209 ev209 => ?_)
      have tv209 : v209.toInt = v152.toInt + v208.toInt := ll_add ev209 rfl rfl (by omega) (by omega)
      refine lv_lstore (lv' := [(6, .long v209), (13, .int v198), (12, .int v180), (11, .int v169), (10, .int v157), (8, .long q), (4, .long j), (2, .long z), (0, .long n)]) hx hb dX5_ofEpochDay_210 hl (by decide) rfl (fun ls hl => ?_)
      have h4 := ca_400 g.toInt κ
      have h5 := ca_L400 (g.toInt + 1) κ
      have e1 : v152.toInt = g.toInt + 400 * κ := by omega
      have e2 : v152.toInt + 1 = g.toInt + 1 + 400 * κ := by omega
      have hI := ca_mk (n := n.toInt) (Y := v152.toInt) (q := v157.toInt) (mm := v169.toInt) (m := v180.toInt) (dd := v198.toInt) (by rw [e1, h4]; omega) (by omega) (by rw [e2, h5]; omega) (by omega) (by omega) (by omega)
      have e3 : v152.toInt + v169.toInt / 10 = v209.toInt := by omega
      rw [e3] at hI
      have hbd := ca_bnd hI h1 h2
      have zyl := zylo
      have zyh := zyhi
      refine cs_gets hx hb (cst_kept hC hS.2.1).2.1.1 hown (hts _ q477) (fun _ h9 => h9) dX5_ofEpochDay_212 ?_
      refine lv_lload hx hb dX5_ofEpochDay_215 (lv_at hl 0 rfl) ?_
      have g217 : fCF (k 2) (k 3) (-999999999) 999999999 fF s s.heap := fCF_narrow (cst_kept hC hS.2.1).2.1.2 (fF_no _)
      refine vp_callSi (W.runV (As := [.long v209]) (rest := []) ⟨hx, hb, hml, hown, hts⟩ (metX6_checkValidIntValue l (k 2) (k 3) (-999999999) 999999999 v209 (by omega) (by omega) (by decide +kernel) (by decide +kernel)) (cwV 1 hts (lw_V q479 q480 q481 q8 q482) rfl rfl rfl (by decide +kernel) ⟨Nat.le_of_ble_eq_true rfl, Nat.le_of_ble_eq_true rfl⟩) (pV_start (F := fCF (k 2) (k 3) (-999999999) 999999999 fF) fCF_mv (cs_recv (g217.1)) g217) rfl rfl hl.1 rfl (lv_room (Nat.le_of_ble_eq_true rfl)) dX5_ofEpochDay_217 ⟨Nat.le_of_ble_eq_true rfl, Nat.le_of_ble_eq_true rfl⟩) (fun r217 pr217 => ?_)
      have pr217 : r217.toInt = v209.toInt := pr217
      refine lv_istore (lv' := [(14, .int r217), (6, .long v209), (13, .int v198), (12, .int v180), (11, .int v169), (10, .int v157), (8, .long q), (4, .long j), (2, .long z), (0, .long n)]) hx hb dX5_ofEpochDay_220 hl (by decide) rfl (fun ls hl => ?_)
      have hg : gd n.toInt r217 v180 v198 := ⟨by rw [pr217]; exact hI, by omega, by omega⟩
      have hgb := gd_b hg
      refine va_new (ci := 1) (fs := [.int 0, .int 0, .int 0]) (C := RX5) (T := TX5) (N := 3) hx hb hts in_X5 tyX5 tyX5_ok hown (hts _ q499) (hts _ q500) (hts _ q6) hK hP hD hS hA rfl (fun j hj => by rcases (show j = 0 ∨ j = 1 ∨ j = 2 by omega) with rfl | rfl | rfl <;> rfl) (Nat.le_of_ble_eq_true rfl) (Nat.le_of_ble_eq_true rfl) dX5_ofEpochDay_222 (fun qa H hP hD hS => ?_)
      have hP : va_P D vwC [(qa, .inr (1, [.int 0, .int 0, .int 0]))] H := hP
      have hD : va_D A [(qa, .inr (1, [.int 0, .int 0, .int 0]))] := hD
      refine W.widen (k := 1) (n := 3) (Nat.le_of_ble_eq_true rfl) (Nat.le_of_ble_eq_true rfl) ?_
      refine lv_dup hx hb dX5_ofEpochDay_225 rfl ?_
      refine lv_iload hx hb dX5_ofEpochDay_226 (lv_at hl 0 rfl) ?_
      refine lv_iload hx hb dX5_ofEpochDay_228 (lv_at hl 3 rfl) ?_
      refine lv_iload hx hb dX5_ofEpochDay_230 (lv_at hl 2 rfl) ?_
      have hPc := hP.sub (ws' := [(qa, .inr (1, [.int 0, .int 0, .int 0]))]) [0] rfl
      have hDc := hD.sub (ws' := [(qa, .inr (1, [.int 0, .int 0, .int 0]))]) [0] (by decide) rfl
      have hKc := hK.sub (tys' := []) [] rfl
      have hFc := va_free (wc := [(qa, .inr (1, [.int 0, .int 0, .int 0]))]) hD hS hA [0] rfl
      have hCc := cst_narrow (cst_kept hC hS.2.1) hFc
      refine va_callv (va_runI (As := [.int r217, .int v180, .int v198]) (rest := [.ref qa]) ⟨hx, hb, hml, hown, hts⟩ (metX5_init l D k H.size qa r217 v180 v198 (by omega) (by omega) (by omega) (by omega)) (cwI 3 hts (lw_meth q503) rfl rfl rfl (hts _ q6) (hts _ q501) (hts _ q502) rfl (by decide +kernel) ⟨Nat.le_of_ble_eq_true rfl, Nat.le_of_ble_eq_true rfl⟩) (aS_start (X := xT) xT_mv hPc hKc hDc hCc trivial) rfl rfl hl.1 rfl (lv_room (Nat.le_of_ble_eq_true rfl)) dX5_ofEpochDay_232 ⟨Nat.le_of_ble_eq_true rfl, Nat.le_of_ble_eq_true rfl⟩) hS (fun q _ h => hFc q h) hFc (fun u t H1 locs ht hvm hw hB hz1 hk1 hS => ?_)
      obtain ⟨hP1, hK1, hD1⟩ := hB
      rw [ht] at hP1
      have hK1 := va_K.moved hvm.symm hK1
      obtain ⟨hP, hD⟩ := va_join (wr := []) (w1 := [(qa, .inr (1, [.int r217, .int v180, .int v198]))]) hP hD [0] [] rfl rfl (by decide) (by decide) hk1 hFc hP1 hD1
      have hK := (hK.sub (tys' := []) [] rfl).app hK1
      generalize H1 = H at hP hS ⊢
      have hP : va_P D vwC [(qa, .inr (1, [.int r217, .int v180, .int v198]))] H := hP
      have hD : va_D A [(qa, .inr (1, [.int r217, .int v180, .int v198]))] := hD
      have hK : va_K D vwC [] s := hK
      refine W.widen (k := 1) (n := 3) (Nat.le_of_ble_eq_true rfl) (Nat.le_of_ble_eq_true rfl) ?_
      have hP9 := hP.sub (ws' := [(qa, .inr (1, [.int r217, .int v180, .int v198]))]) [0] rfl
      have hD9 := hD.sub (ws' := [(qa, .inr (1, [.int r217, .int v180, .int v198]))]) [0] (by decide) rfl
      have hK9 := hK.sub (tys' := []) [] rfl
      refine W.widen (k := 1) (n := 3) (Nat.le_of_ble_eq_true rfl) (Nat.le_of_ble_eq_true rfl) ?_
      exact W.aret (v := .ref qa) hx hb hr (Or.inl ⟨_, rfl⟩) (Or.inr ⟨_, rfl⟩) (fun t ht hW => ⟨⟨(r217, v180, v198), qa, rfl, hg, by rw [ht]; exact hP9, va_K.moved hW.alike hK9, hD9⟩, hS.F ht⟩) hS.2.2 dX5_ofEpochDay_235
    · intro hk2
      refine lv_lload hx hb dX5_ofEpochDay_104 (lv_at hl 0 rfl) ?_
      refine lv_lconst (v := 0) hx hb dX5_ofEpochDay_106 (by decide +kernel) ?_
      refine W.lcmp hx hb dX5_ofEpochDay_107 ?_
      refine lv_if_ge (tgt := 148) hx hb dX5_ofEpochDay_108 (by decide) (fun c108 => ?_) (fun c108 => ?_)
      · have k_108 : 0 ≤ v101.toInt := (cm_ge0 (X := v101.toInt) (Y := 0) rfl (by decide +kernel)).mp c108
        exact hk2 (v70, v101) ls ⟨lv_sub hl [0, 1, 2, 3, 4] rfl, by show 0 ≤ v70.toInt; omega, by show v70.toInt ≤ 1100000000; omega, by show z.toInt = ca_fm v70.toInt + v101.toInt; omega, by show 0 ≤ v101.toInt; omega, by show v101.toInt < 365 + ca_L (v70.toInt + 1); omega⟩
      · have k_108 : ¬ 0 ≤ v101.toInt := fun c0 => c108 ((cm_ge0 (X := v101.toInt) (Y := 0) rfl (by decide +kernel)).mpr c0)
        have hpos : 1 ≤ v70.toInt := by omega
        refine lv_lload hx hb dX5_ofEpochDay_111 (lv_at hl 1 rfl) ?_
        refine lv_lconst (v := 1) hx hb dX5_ofEpochDay_113 (by decide +kernel) ?_
        refine lv_lsub hx hb dX5_ofEpochDay_114 ?_
        refine lv_topl (fun v114 ev114 => ?_)
        have tv114 : v114.toInt = v70.toInt - 1 := ll_sub ev114 rfl (by decide +kernel) (by omega) (by omega)
        refine lv_lstore (lv' := [(6, .long v114), (8, .long v101), (4, .long j), (2, .long z), (0, .long n)]) hx hb dX5_ofEpochDay_115 hl (by decide) rfl (fun ls hl => ?_)
        refine lv_lload_n hx hb dX5_ofEpochDay_117 rfl (lv_at hl 3 rfl) ?_
        refine lv_ldc2 (v := 365) hx hb hown (hts _ q474) dX5_ofEpochDay_118 ?_
        refine lv_lload hx hb dX5_ofEpochDay_121 (lv_at hl 0 rfl) ?_
        refine lv_lmul hx hb dX5_ofEpochDay_123 ?_
        refine lv_topl (fun v123 ev123 => ?_)
        have tv123 : v123.toInt = 365 * v114.toInt := ll_mul ev123 (by decide +kernel) rfl (by omega) (by omega)
        refine lv_lload hx hb dX5_ofEpochDay_124 (lv_at hl 0 rfl) ?_
        refine lv_ldc2 (v := 4) hx hb hown (hts _ q475) dX5_ofEpochDay_126 ?_
        refine lv_ldiv hx hb dX5_ofEpochDay_129 (by decide) ?_
        refine lv_topl (fun v129 ev129 => ?_)
        have tv129 : v129.toInt = v114.toInt / 4 := (ll_div ev129 rfl (by decide +kernel) (by decide)).1 (by omega)
        refine lv_ladd hx hb dX5_ofEpochDay_130 ?_
        refine lv_topl (fun v130 ev130 => ?_)
        have tv130 : v130.toInt = v123.toInt + v129.toInt := ll_add ev130 rfl rfl (by omega) (by omega)
        refine lv_lload hx hb dX5_ofEpochDay_131 (lv_at hl 0 rfl) ?_
        refine lv_ldc2 (v := 100) hx hb hown (hts _ q476) dX5_ofEpochDay_133 ?_
        refine lv_ldiv hx hb dX5_ofEpochDay_136 (by decide) ?_
        refine lv_topl (fun v136 ev136 => ?_)
        have tv136 : v136.toInt = v114.toInt / 100 := (ll_div ev136 rfl (by decide +kernel) (by decide)).1 (by omega)
        refine lv_lsub hx hb dX5_ofEpochDay_137 ?_
        refine lv_topl (fun v137 ev137 => ?_)
        have tv137 : v137.toInt = v130.toInt - v136.toInt := ll_sub ev137 rfl rfl (by omega) (by omega)
        refine lv_lload hx hb dX5_ofEpochDay_138 (lv_at hl 0 rfl) ?_
        refine lv_ldc2 (v := 400) hx hb hown (hts _ q472) dX5_ofEpochDay_140 ?_
        refine lv_ldiv hx hb dX5_ofEpochDay_143 (by decide) ?_
        refine lv_topl (fun v143 ev143 => ?_)
        have tv143 : v143.toInt = v114.toInt / 400 := (ll_div ev143 rfl (by decide +kernel) (by decide)).1 (by omega)
        refine lv_ladd hx hb dX5_ofEpochDay_144 ?_
        refine lv_topl (fun v144 ev144 => ?_)
        have tv144 : v144.toInt = v137.toInt + v143.toInt := ll_add ev144 rfl rfl (by omega) (by omega)
        refine lv_lsub hx hb dX5_ofEpochDay_145 ?_
        refine lv_topl (fun v145 ev145 => ?_)
        have tv145 : v145.toInt = z.toInt - v144.toInt := ll_sub ev145 rfl rfl (by omega) (by omega)
        refine lv_lstore (lv' := [(8, .long v145), (6, .long v114), (4, .long j), (2, .long z), (0, .long n)]) hx hb dX5_ofEpochDay_146 hl (by decide) rfl (fun ls hl => ?_)
        have hfm2 : ca_fm v114.toInt = 365 * v114.toInt + v114.toInt / 4 - v114.toInt / 100 + v114.toInt / 400 := rfl
        have hst2 := ca_step v114.toInt
        have e4 : v114.toInt + 1 = v70.toInt := by omega
        have e5 : v70.toInt - 1 = v114.toInt := by omega
        have hlo := hest.2
        rw [e5] at hlo
        rw [e4] at hst2
        exact hk2 (v114, v145) ls ⟨lv_sub hl [0, 1, 2, 3, 4] rfl, by show 0 ≤ v114.toInt; omega, by show v114.toInt ≤ 1100000000; omega, by show z.toInt = ca_fm v114.toInt + v145.toInt; omega, by show 0 ≤ v145.toInt; omega, by show v145.toInt < 365 + ca_L (v114.toInt + 1); rw [e4]; omega⟩
  · intro hk1
    refine lv_lload_n hx hb dX5_ofEpochDay_23 rfl (lv_at hl 1 rfl) ?_
    refine lv_lconst (v := 0) hx hb dX5_ofEpochDay_24 (by decide +kernel) ?_
    refine W.lcmp hx hb dX5_ofEpochDay_25 ?_
    refine lv_if_ge (tgt := 58) hx hb dX5_ofEpochDay_26 (by decide) (fun c26 => ?_) (fun c26 => ?_)
    · have k_26 : 0 ≤ v18.toInt := (cm_ge0 (X := v18.toInt) (Y := 0) rfl (by decide +kernel)).mp c26
      exact hk1 (v18, 0) ls ⟨lv_sub hl [0, 1, 2] rfl, 0, by show (0 : Int64).toInt = 400 * 0; decide +kernel, by show v18.toInt + 146097 * 0 = n.toInt + 719468; omega, by show 0 ≤ v18.toInt; omega, by show v18.toInt ≤ 365242499939; omega, by omega, by omega⟩
    · have k_26 : ¬ 0 ≤ v18.toInt := fun c0 => c26 ((cm_ge0 (X := v18.toInt) (Y := 0) rfl (by decide +kernel)).mpr c0)
      refine lv_lload_n hx hb dX5_ofEpochDay_29 rfl (lv_at hl 1 rfl) ?_
      refine lv_lconst (v := 1) hx hb dX5_ofEpochDay_30 (by decide +kernel) ?_
      refine lv_ladd hx hb dX5_ofEpochDay_31 ?_
      refine lv_topl (fun v31 ev31 => ?_)
      have tv31 : v31.toInt = v18.toInt + 1 := ll_add ev31 rfl (by decide +kernel) (by omega) (by omega)
      refine lv_ldc2 (v := 146097) hx hb hown (hts _ q471) dX5_ofEpochDay_32 ?_
      refine lv_ldiv hx hb dX5_ofEpochDay_35 (by decide) ?_
      refine lv_topl (fun v35 ev35 => ?_)
      have tv35 : v35.toInt = -((-v31.toInt) / 146097) := (ll_div ev35 rfl (by decide +kernel) (by decide)).2 (by omega)
      refine lv_lconst (v := 1) hx hb dX5_ofEpochDay_36 (by decide +kernel) ?_
      refine lv_lsub hx hb dX5_ofEpochDay_37 ?_
      refine lv_topl (fun v37 ev37 => ?_)
      have tv37 : v37.toInt = v35.toInt - 1 := ll_sub ev37 rfl (by decide +kernel) (by omega) (by omega)
      refine lv_lstore (lv' := [(6, .long v37), (4, .long 0), (2, .long v18), (0, .long n)]) hx hb dX5_ofEpochDay_38 hl (by decide) rfl (fun ls hl => ?_)
      refine lv_lload hx hb dX5_ofEpochDay_40 (lv_at hl 0 rfl) ?_
      refine lv_ldc2 (v := 400) hx hb hown (hts _ q472) dX5_ofEpochDay_42 ?_
      refine lv_lmul hx hb dX5_ofEpochDay_45 ?_
      refine lv_topl (fun v45 ev45 => ?_)
      have tv45 : v45.toInt = v37.toInt * 400 := ll_mul ev45 rfl (by decide +kernel) (by omega) (by omega)
      refine lv_lstore (lv' := [(4, .long v45), (6, .long v37), (2, .long v18), (0, .long n)]) hx hb dX5_ofEpochDay_46 hl (by decide) rfl (fun ls hl => ?_)
      refine lv_lload_n hx hb dX5_ofEpochDay_48 rfl (lv_at hl 2 rfl) ?_
      refine lv_lload hx hb dX5_ofEpochDay_49 (lv_at hl 1 rfl) ?_
      refine lv_lneg hx hb dX5_ofEpochDay_51 ?_
      refine lv_topl (fun v51 ev51 => ?_)
      have tv51 : v51.toInt = -v37.toInt := ll_neg ev51 rfl (by omega) (by omega)
      refine lv_ldc2 (v := 146097) hx hb hown (hts _ q471) dX5_ofEpochDay_52 ?_
      refine lv_lmul hx hb dX5_ofEpochDay_55 ?_
      refine lv_topl (fun v55 ev55 => ?_)
      have tv55 : v55.toInt = v51.toInt * 146097 := ll_mul ev55 rfl (by decide +kernel) (by omega) (by omega)
      refine lv_ladd hx hb dX5_ofEpochDay_56 ?_
      refine lv_topl (fun v56 ev56 => ?_)
      have tv56 : v56.toInt = v18.toInt + v55.toInt := ll_add ev56 rfl rfl (by omega) (by omega)
      refine lv_lstore_n (lv' := [(2, .long v56), (4, .long v45), (6, .long v37), (0, .long n)]) hx hb dX5_ofEpochDay_57 rfl hl (by decide) rfl (fun ls hl => ?_)
      exact hk1 (v56, v45) ls ⟨lv_sub hl [1, 0, 3] rfl, v37.toInt, by show v45.toInt = 400 * v37.toInt; omega, by show v56.toInt + 146097 * v37.toInt = n.toInt + 719468; omega, by show 0 ≤ v56.toInt; omega, by show v56.toInt ≤ 365242499939; omega, by omega, by omega⟩
end
section
set_option maxHeartbeats 4000000 in
set_option maxRecDepth 100000 in
/-- DayCount() -/
theorem metX1_init (l : Launch) (D : va_G) (k : Nat → Nat) (sz : Nat) (h : Nat)  : Met l yX1_init (ws_ yX1_init cX1_init 1 none) ({ frames := 6, cells := 1, slots := 3, locals := 143 }) (va_Pc [.ref h] (al D k [(h, .inr (0, [.null]))] sz xT)) (va_Qv (fun (u : Int32 × Int32 × Int32) => gd 0 u.1 u.2.1 u.2.2) (bDC D (va_A [(h, .inr (0, [.null]))] sz) h) (va_A [(h, .inr (0, [.null]))] sz)) 1 3 (va_A [(h, .inr (0, [.null]))] sz) := by
  refine Met.ofW (cc := cX1_init) (maxL := 1) (ret := none) (by decide +kernel) rfl ?_
  intro p e s mi args below me_ c s₁ B hml hv
  obtain ⟨rfl, hsz, hP, hK, hD0, hC, hX⟩ := hv
  have hx := B.exec
  have hb := B.bytes
  have hr := B.returns
  have hts := atoms_spec (ws := ws_ yX1_init cX1_init 1 none) B.pre
  have hts : ∀ w ∈ lw_all, w.before _ s = true := fun w h => hts w (List.mem_cons_of_mem _ h)
  have hown : s.vm.findClass RX1 = some mi.cls := findClass_of_methodNamed B.named
  have hlocks := B.notSynchronized
  have hin : me_.name = "<init>" := (name_of_methodNamed B.named B.method).1
  have hl := lv_entry ([.ref h]) (n := 1) (Nat.le_of_ble_eq_true rfl)
  rw [lg_entry_eq]
  generalize (lg_sl ([.ref h]) ++ List.replicate (1 - (lg_sl ([.ref h])).length) Slot.unset).toArray = ls at hl ⊢
  have hl : lv_has ls 1 [(0, .ref h)] := hl
  subst hsz
  have hD := hD0.self (sz := s.heap.size)
  generalize hAe : va_A [(h, .inr (0, [.null]))] s.heap.size = A at hD hC hX ⊢
  have hA : ∀ q : Nat, s.heap.size ≤ q → A q := fun q h => by rw [← hAe]; exact Or.inr h
  have hS : va_S A s.heap s.heap [] := va_S.rf
  have hP : va_P D vwC [(h, .inr (0, [.null]))] s.heap := hP
  refine lv_aload_n hx hb dX1_init_0 rfl (lv_at hl 0 rfl) ?_
  refine W.objInit hx hb hown (hts _ q43) (hts _ q44) (hts _ q45) rfl (by rw [hml]; exact hl.1) rfl dX1_init_1 (Nat.le_of_ble_eq_true rfl) (Nat.le_of_ble_eq_true rfl) ?_
  refine W.eq (g2 := F0 mi 4 ls []) rfl ?_
  refine lv_aload_n hx hb dX1_init_4 rfl (lv_at hl 0 rfl) ?_
  refine lv_lconst (v := 0) hx hb dX1_init_5 (by decide +kernel) ?_
  have hPc := hP.sub (ws' := []) [] rfl
  have hDc := hD.sub (ws' := []) [] (by decide) rfl
  have hKc := hK.sub (tys' := []) [] rfl
  have hFc := va_free (wc := []) hD hS hA [] rfl
  have hCc := cst_narrow (cst_kept hC hS.2.1) hFc
  refine va_callr (va_runS (As := [.long 0]) (rest := [.ref h]) ⟨hx, hb, hml, hown, hts⟩ (metX5_ofEpochDay l D k s.heap.size 0 (by decide +kernel) (by decide +kernel)) (va_cwS 1 hts (lw_S q46 q47 q6 q48) rfl rfl rfl (by decide +kernel) ⟨Nat.le_of_ble_eq_true rfl, Nat.le_of_ble_eq_true rfl⟩) (aS_start (X := xT) xT_mv hPc hKc hDc hCc trivial) rfl rfl hl.1 rfl (lv_room (Nat.le_of_ble_eq_true rfl)) dX1_init_6 ⟨Nat.le_of_ble_eq_true rfl, Nat.le_of_ble_eq_true rfl⟩) hS (fun q _ h => hFc q h) hFc (fun u r6 t H1 locs ht hvm hw hB hz1 hk1 hS => ?_)
  obtain ⟨y, m, d⟩ := u
  obtain ⟨hP1, hK1, hD1⟩ := hB
  rw [ht] at hP1
  have hK1 := va_K.moved hvm.symm hK1
  have p6 : gd (0 : Int64).toInt y m d := hw
  obtain ⟨hP, hD⟩ := va_join (wr := [(h, .inr (0, [.null]))]) (w1 := [(r6, .inr (1, [.int y, .int m, .int d]))]) hP hD [] [0] rfl rfl (by decide) (by decide) hk1 hFc hP1 hD1
  have hK := (hK.sub (tys' := []) [] rfl).app hK1
  generalize H1 = H at hP hS ⊢
  have hP : va_P D vwC [(h, .inr (0, [.null])), (r6, .inr (1, [.int y, .int m, .int d]))] H := hP
  have hD : va_D A [(h, .inr (0, [.null])), (r6, .inr (1, [.int y, .int m, .int d]))] := hD
  have hK : va_K D vwC [] s := hK
  refine W.widen (k := 1) (n := 3) (Nat.le_of_ble_eq_true rfl) (Nat.le_of_ble_eq_true rfl) ?_
  refine va_put (D := D) (ci := 0) (v := .ref r6) (ty := .object "LocalDate") (C := RX1) (T := TX1) (N := 1) hx hb hts in_X1 tyX1 tyX1_ok nmX1 hown hK hP hD hS 0 rfl rfl 0 (by decide) (hts _ q524) (fun _ h9 => h9) rfl (by decide +kernel) rfl rfl (Nat.le_of_ble_eq_true rfl) dX1_init_9 (fun H locs hP hD hS => ?_)
  have hP : va_P D vwC [(h, .inr (0, [.ref r6])), (r6, .inr (1, [.int y, .int m, .int d]))] H := hP
  have hD : va_D A [(h, .inr (0, [.ref r6])), (r6, .inr (1, [.int y, .int m, .int d]))] := hD
  have zz : (0 : Int64).toInt = 0 := by decide +kernel
  rw [zz] at p6
  have hP9 := hP.sub (ws' := [(h, .inr (0, [.ref r6])), (r6, .inr (1, [.int y, .int m, .int d]))]) [0, 1] rfl
  have hD9 := hD.sub (ws' := [(h, .inr (0, [.ref r6])), (r6, .inr (1, [.int y, .int m, .int d]))]) [0, 1] (by decide) rfl
  have hK9 := hK.sub (tys' := []) [] rfl
  refine W.widen (k := 1) (n := 3) (Nat.le_of_ble_eq_true rfl) (Nat.le_of_ble_eq_true rfl) ?_
  exact W.vret hx hb hr (fun t ht hW => ⟨⟨(y, m, d), rfl, p6, r6, by rw [ht]; exact hP9, va_K.moved hW.alike hK9, hD9⟩, hS.F ht⟩) hS.2.2 dX1_init_12
set_option maxHeartbeats 4000000 in
set_option maxRecDepth 100000 in
/-- DayCount.near(a) -/
theorem metX1_near (l : Launch) (D : va_G) (k : Nat → Nat) (sz : Nat) (h q0 : Nat) (y0 m0 d0 : Int32) (a : Int32)  : Met l yX1_near (ws_ yX1_near cX1_near 2 (some .boolean)) ({ frames := 6, cells := 1, slots := 3, locals := 143 }) (va_Pc [.ref h, .int a] (al D k [(h, .inr (0, [.ref q0])), (q0, .inr (1, [.int y0, .int m0, .int d0]))] sz xT)) (va_Qi (fun (r : Int32) (u : Int32 × Int32 × Int32) => r = 1 ∧ gd a.toInt u.1 u.2.1 u.2.2) (bDC D (va_A [(h, .inr (0, [.ref q0])), (q0, .inr (1, [.int y0, .int m0, .int d0]))] sz) h) (va_A [(h, .inr (0, [.ref q0])), (q0, .inr (1, [.int y0, .int m0, .int d0]))] sz)) 1 3 (va_A [(h, .inr (0, [.ref q0])), (q0, .inr (1, [.int y0, .int m0, .int d0]))] sz) := by
  refine Met.ofW (cc := cX1_near) (maxL := 2) (ret := (some .boolean)) (by decide +kernel) rfl ?_
  intro p e s mi args below me_ c s₁ B hml hv
  obtain ⟨rfl, hsz, hP, hK, hD0, hC, hX⟩ := hv
  have hx := B.exec
  have hb := B.bytes
  have hr := B.returns
  have hts := atoms_spec (ws := ws_ yX1_near cX1_near 2 (some .boolean)) B.pre
  have hts : ∀ w ∈ lw_all, w.before _ s = true := fun w h => hts w (List.mem_cons_of_mem _ h)
  have hown : s.vm.findClass RX1 = some mi.cls := findClass_of_methodNamed B.named
  have hlocks := B.notSynchronized
  have hl := lv_entry ([.ref h, .int a]) (n := 2) (Nat.le_of_ble_eq_true rfl)
  rw [lg_entry_eq]
  generalize (lg_sl ([.ref h, .int a]) ++ List.replicate (2 - (lg_sl ([.ref h, .int a])).length) Slot.unset).toArray = ls at hl ⊢
  have hl : lv_has ls 2 [(0, .ref h), (1, .int a)] := hl
  subst hsz
  have hD := hD0.self (sz := s.heap.size)
  generalize hAe : va_A [(h, .inr (0, [.ref q0])), (q0, .inr (1, [.int y0, .int m0, .int d0]))] s.heap.size = A at hD hC hX ⊢
  have hA : ∀ q : Nat, s.heap.size ≤ q → A q := fun q h => by rw [← hAe]; exact Or.inr h
  have hS : va_S A s.heap s.heap [] := va_S.rf
  have hP : va_P D vwC [(h, .inr (0, [.ref q0])), (q0, .inr (1, [.int y0, .int m0, .int d0]))] s.heap := hP
  have hra := ii_rng a
  refine lv_aload_n hx hb dX1_near_0 rfl (lv_at hl 0 rfl) ?_
  refine lv_iload_n hx hb dX1_near_1 rfl (lv_at hl 1 rfl) ?_
  refine lv_i2l (v := (a).toInt64) hx hb dX1_near_2 rfl ?_
  refine lv_topl (fun v2 ev2 => ?_)
  have tv2 : v2.toInt = a.toInt := ll_i2l ev2 rfl
  have hPc := hP.sub (ws' := []) [] rfl
  have hDc := hD.sub (ws' := []) [] (by decide) rfl
  have hKc := hK.sub (tys' := []) [] rfl
  have hFc := va_free (wc := []) hD hS hA [] rfl
  have hCc := cst_narrow (cst_kept hC hS.2.1) hFc
  refine va_callr (va_runS (As := [.long v2]) (rest := [.ref h]) ⟨hx, hb, hml, hown, hts⟩ (metX5_ofEpochDay l D k s.heap.size v2 (by omega) (by omega)) (va_cwS 1 hts (lw_S q46 q47 q6 q48) rfl rfl rfl (by decide +kernel) ⟨Nat.le_of_ble_eq_true rfl, Nat.le_of_ble_eq_true rfl⟩) (aS_start (X := xT) xT_mv hPc hKc hDc hCc trivial) rfl rfl hl.1 rfl (lv_room (Nat.le_of_ble_eq_true rfl)) dX1_near_3 ⟨Nat.le_of_ble_eq_true rfl, Nat.le_of_ble_eq_true rfl⟩) hS (fun q _ h => hFc q h) hFc (fun u r3 t H1 locs ht hvm hw hB hz1 hk1 hS => ?_)
  obtain ⟨y, m, d⟩ := u
  obtain ⟨hP1, hK1, hD1⟩ := hB
  rw [ht] at hP1
  have hK1 := va_K.moved hvm.symm hK1
  have p3 : gd v2.toInt y m d := hw
  obtain ⟨hP, hD⟩ := va_join (wr := [(h, .inr (0, [.ref q0])), (q0, .inr (1, [.int y0, .int m0, .int d0]))]) (w1 := [(r3, .inr (1, [.int y, .int m, .int d]))]) hP hD [] [0, 1] rfl rfl (by decide) (by decide) hk1 hFc hP1 hD1
  have hK := (hK.sub (tys' := []) [] rfl).app hK1
  generalize H1 = H at hP hS ⊢
  have hP : va_P D vwC [(h, .inr (0, [.ref q0])), (q0, .inr (1, [.int y0, .int m0, .int d0])), (r3, .inr (1, [.int y, .int m, .int d]))] H := hP
  have hD : va_D A [(h, .inr (0, [.ref q0])), (q0, .inr (1, [.int y0, .int m0, .int d0])), (r3, .inr (1, [.int y, .int m, .int d]))] := hD
  have hK : va_K D vwC [] s := hK
  refine W.widen (k := 1) (n := 3) (Nat.le_of_ble_eq_true rfl) (Nat.le_of_ble_eq_true rfl) ?_
  rw [tv2] at p3
  refine va_put (D := D) (ci := 0) (v := .ref r3) (ty := .object "LocalDate") (C := RX1) (T := TX1) (N := 1) hx hb hts in_X1 tyX1 tyX1_ok nmX1 hown hK hP hD hS 0 rfl rfl 0 (by decide) (hts _ q524) (fun _ h9 => h9) rfl (by decide +kernel) rfl rfl (Nat.le_of_ble_eq_true rfl) dX1_near_6 (fun H locs hP hD hS => ?_)
  have hP : va_P D vwC [(h, .inr (0, [.ref r3])), (q0, .inr (1, [.int y0, .int m0, .int d0])), (r3, .inr (1, [.int y, .int m, .int d]))] H := hP
  have hD : va_D A [(h, .inr (0, [.ref r3])), (q0, .inr (1, [.int y0, .int m0, .int d0])), (r3, .inr (1, [.int y, .int m, .int d]))] := hD
  refine lv_iconst (v := 1) hx hb dX1_near_9 (by decide +kernel) ?_
  have hP9 := hP.sub (ws' := [(h, .inr (0, [.ref r3])), (r3, .inr (1, [.int y, .int m, .int d]))]) [0, 2] rfl
  have hD9 := hD.sub (ws' := [(h, .inr (0, [.ref r3])), (r3, .inr (1, [.int y, .int m, .int d]))]) [0, 2] (by decide) rfl
  have hK9 := hK.sub (tys' := []) [] rfl
  refine W.widen (k := 1) (n := 3) (Nat.le_of_ble_eq_true rfl) (Nat.le_of_ble_eq_true rfl) ?_
  exact W.zret (v := 1) hx hb hr rfl (fun t ht hW => ⟨⟨1, (y, m, d), rfl, ⟨rfl, p3⟩, r3, by rw [ht]; exact hP9, va_K.moved hW.alike hK9, hD9⟩, hS.F ht⟩) hS.2.2 dX1_near_10
set_option maxHeartbeats 4000000 in
set_option maxRecDepth 100000 in
/-- DayCount.fromDay(a, b) -/
theorem metX1_fromDay (l : Launch) (D : va_G) (k : Nat → Nat) (sz : Nat) (h q0 : Nat) (y0 m0 d0 : Int32) (a b : Int32)  : Met l yX1_fromDay (ws_ yX1_fromDay cX1_fromDay 5 (some .boolean)) ({ frames := 6, cells := 1, slots := 3, locals := 143 }) (va_Pc [.ref h, .int a, .int b] (al D k [(h, .inr (0, [.ref q0])), (q0, .inr (1, [.int y0, .int m0, .int d0]))] sz xT)) (va_Qi (fun (r : Int32) (u : Int32 × Int32 × Int32) => (-365243219162 ≤ (jn a b).toInt ∧ (jn a b).toInt ≤ 365241780471 → r = 1 ∧ gd (jn a b).toInt u.1 u.2.1 u.2.2) ∧ (¬ (-365243219162 ≤ (jn a b).toInt ∧ (jn a b).toInt ≤ 365241780471) → r = 0 ∧ u = (y0, m0, d0))) (bDC D (va_A [(h, .inr (0, [.ref q0])), (q0, .inr (1, [.int y0, .int m0, .int d0]))] sz) h) (va_A [(h, .inr (0, [.ref q0])), (q0, .inr (1, [.int y0, .int m0, .int d0]))] sz)) 1 3 (va_A [(h, .inr (0, [.ref q0])), (q0, .inr (1, [.int y0, .int m0, .int d0]))] sz) := by
  refine Met.ofW (cc := cX1_fromDay) (maxL := 5) (ret := (some .boolean)) (by decide +kernel) rfl ?_
  intro p e s mi args below me_ c s₁ B hml hv
  obtain ⟨rfl, hsz, hP, hK, hD0, hC, hX⟩ := hv
  have hx := B.exec
  have hb := B.bytes
  have hr := B.returns
  have hts := atoms_spec (ws := ws_ yX1_fromDay cX1_fromDay 5 (some .boolean)) B.pre
  have hts : ∀ w ∈ lw_all, w.before _ s = true := fun w h => hts w (List.mem_cons_of_mem _ h)
  have hown : s.vm.findClass RX1 = some mi.cls := findClass_of_methodNamed B.named
  have hlocks := B.notSynchronized
  have hl := lv_entry ([.ref h, .int a, .int b]) (n := 5) (Nat.le_of_ble_eq_true rfl)
  rw [lg_entry_eq]
  generalize (lg_sl ([.ref h, .int a, .int b]) ++ List.replicate (5 - (lg_sl ([.ref h, .int a, .int b])).length) Slot.unset).toArray = ls at hl ⊢
  have hl : lv_has ls 5 [(0, .ref h), (1, .int a), (2, .int b)] := hl
  subst hsz
  have hD := hD0.self (sz := s.heap.size)
  generalize hAe : va_A [(h, .inr (0, [.ref q0])), (q0, .inr (1, [.int y0, .int m0, .int d0]))] s.heap.size = A at hD hC hX ⊢
  have hA : ∀ q : Nat, s.heap.size ≤ q → A q := fun q h => by rw [← hAe]; exact Or.inr h
  have hS : va_S A s.heap s.heap [] := va_S.rf
  have hP : va_P D vwC [(h, .inr (0, [.ref q0])), (q0, .inr (1, [.int y0, .int m0, .int d0]))] s.heap := hP
  refine lv_iload_n hx hb dX1_fromDay_0 rfl (lv_at hl 1 rfl) ?_
  refine lv_i2l (v := (a).toInt64) hx hb dX1_fromDay_1 rfl ?_
  refine lv_topl (fun v1 ev1 => ?_)
  have tv1 : v1.toInt = a.toInt := ll_i2l ev1 rfl
  refine lv_bipush (v := 32) hx hb dX1_fromDay_2 (by decide +kernel) ?_
  refine lv_lshl (v := v1 <<< ((32 : Int32).toInt64 &&& 63)) hx hb dX1_fromDay_4 rfl ?_
  refine lv_topl (fun v4 ev4 => ?_)
  refine lv_iload_n hx hb dX1_fromDay_5 rfl (lv_at hl 2 rfl) ?_
  refine lv_i2l (v := (b).toInt64) hx hb dX1_fromDay_6 rfl ?_
  refine lv_topl (fun v6 ev6 => ?_)
  have tv6 : v6.toInt = b.toInt := ll_i2l ev6 rfl
  refine lv_ldc2 (v := 4294967295) hx hb hown (hts _ q532) dX1_fromDay_7 ?_
  refine lv_land hx hb dX1_fromDay_10 ?_
  refine lv_topl (fun v10 ev10 => ?_)
  refine lv_lor hx hb dX1_fromDay_11 ?_
  refine lv_topl (fun v11 ev11 => ?_)
  have hjn : v11 = jn a b := by rw [ev11, ev4, ev10, ev1, ev6]; rfl
  rw [← hjn]
  refine lv_lstore_n (lv' := [(3, .long v11), (0, .ref h), (1, .int a), (2, .int b)]) hx hb dX1_fromDay_12 rfl hl (by decide) rfl (fun ls hl => ?_)
  refine lv_lload_n hx hb dX1_fromDay_13 rfl (lv_at hl 0 rfl) ?_
  refine lv_ldc2 (v := (-365243219162)) hx hb hown (hts _ q533) dX1_fromDay_14 ?_
  refine W.lcmp hx hb dX1_fromDay_17 ?_
  refine lv_if_lt (tgt := 29) hx hb dX1_fromDay_18 (by decide) (fun c18 => ?_) (fun c18 => ?_)
  · have k_18 : v11.toInt < (-365243219162) := (cm_lt0 (X := v11.toInt) (Y := (-365243219162)) rfl (by decide +kernel)).mp c18
    refine lv_iconst (v := 0) hx hb dX1_fromDay_29 (by decide +kernel) ?_
    have hP9 := hP.sub (ws' := [(h, .inr (0, [.ref q0])), (q0, .inr (1, [.int y0, .int m0, .int d0]))]) [0, 1] rfl
    have hD9 := hD.sub (ws' := [(h, .inr (0, [.ref q0])), (q0, .inr (1, [.int y0, .int m0, .int d0]))]) [0, 1] (by decide) rfl
    have hK9 := hK.sub (tys' := []) [] rfl
    refine W.widen (k := 1) (n := 3) (Nat.le_of_ble_eq_true rfl) (Nat.le_of_ble_eq_true rfl) ?_
    exact W.zret (v := 0) hx hb hr rfl (fun t ht hW => ⟨⟨0, (y0, m0, d0), rfl, ⟨fun h => absurd h.1 (by omega), fun _ => ⟨rfl, rfl⟩⟩, q0, by rw [ht]; exact hP9, va_K.moved hW.alike hK9, hD9⟩, hS.F ht⟩) hS.2.2 dX1_fromDay_30
  · have k_18 : ¬ v11.toInt < (-365243219162) := fun c0 => c18 ((cm_lt0 (X := v11.toInt) (Y := (-365243219162)) rfl (by decide +kernel)).mpr c0)
    refine lv_lload_n hx hb dX1_fromDay_21 rfl (lv_at hl 0 rfl) ?_
    refine lv_ldc2 (v := 365241780471) hx hb hown (hts _ q534) dX1_fromDay_22 ?_
    refine W.lcmp hx hb dX1_fromDay_25 ?_
    refine lv_if_le (tgt := 31) hx hb dX1_fromDay_26 (by decide) (fun c26 => ?_) (fun c26 => ?_)
    · have k_26 : v11.toInt ≤ 365241780471 := (cm_le0 (X := v11.toInt) (Y := 365241780471) rfl (by decide +kernel)).mp c26
      refine lv_aload_n hx hb dX1_fromDay_31 rfl (lv_at hl 1 rfl) ?_
      refine lv_lload_n hx hb dX1_fromDay_32 rfl (lv_at hl 0 rfl) ?_
      have hPc := hP.sub (ws' := []) [] rfl
      have hDc := hD.sub (ws' := []) [] (by decide) rfl
      have hKc := hK.sub (tys' := []) [] rfl
      have hFc := va_free (wc := []) hD hS hA [] rfl
      have hCc := cst_narrow (cst_kept hC hS.2.1) hFc
      refine va_callr (va_runS (As := [.long v11]) (rest := [.ref h]) ⟨hx, hb, hml, hown, hts⟩ (metX5_ofEpochDay l D k s.heap.size v11 (by omega) (by omega)) (va_cwS 1 hts (lw_S q46 q47 q6 q48) rfl rfl rfl (by decide +kernel) ⟨Nat.le_of_ble_eq_true rfl, Nat.le_of_ble_eq_true rfl⟩) (aS_start (X := xT) xT_mv hPc hKc hDc hCc trivial) rfl rfl hl.1 rfl (lv_room (Nat.le_of_ble_eq_true rfl)) dX1_fromDay_33 ⟨Nat.le_of_ble_eq_true rfl, Nat.le_of_ble_eq_true rfl⟩) hS (fun q _ h => hFc q h) hFc (fun u r33 t H1 locs ht hvm hw hB hz1 hk1 hS => ?_)
      obtain ⟨y, m, d⟩ := u
      obtain ⟨hP1, hK1, hD1⟩ := hB
      rw [ht] at hP1
      have hK1 := va_K.moved hvm.symm hK1
      have p33 : gd v11.toInt y m d := hw
      obtain ⟨hP, hD⟩ := va_join (wr := [(h, .inr (0, [.ref q0])), (q0, .inr (1, [.int y0, .int m0, .int d0]))]) (w1 := [(r33, .inr (1, [.int y, .int m, .int d]))]) hP hD [] [0, 1] rfl rfl (by decide) (by decide) hk1 hFc hP1 hD1
      have hK := (hK.sub (tys' := []) [] rfl).app hK1
      generalize H1 = H at hP hS ⊢
      have hP : va_P D vwC [(h, .inr (0, [.ref q0])), (q0, .inr (1, [.int y0, .int m0, .int d0])), (r33, .inr (1, [.int y, .int m, .int d]))] H := hP
      have hD : va_D A [(h, .inr (0, [.ref q0])), (q0, .inr (1, [.int y0, .int m0, .int d0])), (r33, .inr (1, [.int y, .int m, .int d]))] := hD
      have hK : va_K D vwC [] s := hK
      refine W.widen (k := 1) (n := 3) (Nat.le_of_ble_eq_true rfl) (Nat.le_of_ble_eq_true rfl) ?_
      refine va_put (D := D) (ci := 0) (v := .ref r33) (ty := .object "LocalDate") (C := RX1) (T := TX1) (N := 1) hx hb hts in_X1 tyX1 tyX1_ok nmX1 hown hK hP hD hS 0 rfl rfl 0 (by decide) (hts _ q524) (fun _ h9 => h9) rfl (by decide +kernel) rfl rfl (Nat.le_of_ble_eq_true rfl) dX1_fromDay_36 (fun H locs hP hD hS => ?_)
      have hP : va_P D vwC [(h, .inr (0, [.ref r33])), (q0, .inr (1, [.int y0, .int m0, .int d0])), (r33, .inr (1, [.int y, .int m, .int d]))] H := hP
      have hD : va_D A [(h, .inr (0, [.ref r33])), (q0, .inr (1, [.int y0, .int m0, .int d0])), (r33, .inr (1, [.int y, .int m, .int d]))] := hD
      refine lv_iconst (v := 1) hx hb dX1_fromDay_39 (by decide +kernel) ?_
      have hP9 := hP.sub (ws' := [(h, .inr (0, [.ref r33])), (r33, .inr (1, [.int y, .int m, .int d]))]) [0, 2] rfl
      have hD9 := hD.sub (ws' := [(h, .inr (0, [.ref r33])), (r33, .inr (1, [.int y, .int m, .int d]))]) [0, 2] (by decide) rfl
      have hK9 := hK.sub (tys' := []) [] rfl
      refine W.widen (k := 1) (n := 3) (Nat.le_of_ble_eq_true rfl) (Nat.le_of_ble_eq_true rfl) ?_
      exact W.zret (v := 1) hx hb hr rfl (fun t ht hW => ⟨⟨1, (y, m, d), rfl, ⟨fun _ => ⟨rfl, p33⟩, fun h => absurd ⟨by omega, by omega⟩ h⟩, r33, by rw [ht]; exact hP9, va_K.moved hW.alike hK9, hD9⟩, hS.F ht⟩) hS.2.2 dX1_fromDay_40
    · have k_26 : ¬ v11.toInt ≤ 365241780471 := fun c0 => c26 ((cm_le0 (X := v11.toInt) (Y := 365241780471) rfl (by decide +kernel)).mpr c0)
      refine lv_iconst (v := 0) hx hb dX1_fromDay_29 (by decide +kernel) ?_
      have hP9 := hP.sub (ws' := [(h, .inr (0, [.ref q0])), (q0, .inr (1, [.int y0, .int m0, .int d0]))]) [0, 1] rfl
      have hD9 := hD.sub (ws' := [(h, .inr (0, [.ref q0])), (q0, .inr (1, [.int y0, .int m0, .int d0]))]) [0, 1] (by decide) rfl
      have hK9 := hK.sub (tys' := []) [] rfl
      refine W.widen (k := 1) (n := 3) (Nat.le_of_ble_eq_true rfl) (Nat.le_of_ble_eq_true rfl) ?_
      exact W.zret (v := 0) hx hb hr rfl (fun t ht hW => ⟨⟨0, (y0, m0, d0), rfl, ⟨fun h => absurd h.2 (by omega), fun _ => ⟨rfl, rfl⟩⟩, q0, by rw [ht]; exact hP9, va_K.moved hW.alike hK9, hD9⟩, hS.F ht⟩) hS.2.2 dX1_fromDay_30
end
section
/-! THE LAW'S OWN METHODS (printed by wip/D-29837w/gen/law.py) -/
set_option maxRecDepth 100000
/-- what the law's own count of a day says -/
def civ (n : Int) (u : Nat → Int64) : Prop := IsD n (u 0).toInt (u 1).toInt (u 2).toInt ∧ (u 3).toInt = ca_cum (ca_L (u 0).toInt) (u 1).toInt + (u 2).toInt
theorem vp0 : vp_in 0 5 := vp_in_iff.mpr (by decide +kernel)
theorem vp1 : vp_in 1 5 := vp_in_iff.mpr (by decide +kernel)
theorem vp2 : vp_in 2 5 := vp_in_iff.mpr (by decide +kernel)
theorem vp3 : vp_in 3 5 := vp_in_iff.mpr (by decide +kernel)
theorem vp4 : vp_in 4 5 := vp_in_iff.mpr (by decide +kernel)
theorem cl0 : (0 : Int32).toNatClampNeg = 0 := by decide +kernel
theorem cl1 : (1 : Int32).toNatClampNeg = 1 := by decide +kernel
theorem cl2 : (2 : Int32).toNatClampNeg = 2 := by decide +kernel
theorem cl3 : (3 : Int32).toNatClampNeg = 3 := by decide +kernel
theorem cl4 : (4 : Int32).toNatClampNeg = 4 := by decide +kernel
/-- the array of the law's own five numbers -/
def five (a b c d e : Int64) : Nat → Int64 := vp_updL (vp_updL (vp_updL (vp_updL (vp_updL (fun _ => 0) 0 a) 1 b) 2 c) 3 d) 4 e
theorem five0 (a b c d e : Int64) : five a b c d e 0 = a := rfl
theorem five1 (a b c d e : Int64) : five a b c d e 1 = b := rfl
theorem five2 (a b c d e : Int64) : five a b c d e 2 = c := rfl
theorem five3 (a b c d e : Int64) : five a b c d e 3 = d := rfl
set_option maxHeartbeats 4000000 in
set_option maxRecDepth 100000 in
/-- the law's own count of a day -/
theorem metX0_askedCivil (l : Launch) (D : va_G) (k : Nat → Nat) (sz : Nat) (n : Int64) (h1 : -365243219162 ≤ n.toInt) (h2 : n.toInt ≤ 365241780471) : Met l yX0_askedCivil (ws_ yX0_askedCivil cX0_askedCivil 22 (some (.array .long))) ({ frames := 2, cells := 1, slots := 5, locals := 48 }) (va_Pc [.long n] (al D k [] sz xT)) (va_Qr (fun (u : (Nat → Int64)) => civ n.toInt u) (bAR D (va_A [] sz)) (va_A [] sz)) 1 5 (va_A [] sz) := by
  refine Met.ofW (cc := cX0_askedCivil) (maxL := 22) (ret := (some (.array .long))) (by decide +kernel) rfl ?_
  intro p e s mi args below me_ c s₁ B hml hv
  obtain ⟨rfl, hsz, hP, hK, hD0, hC, hX⟩ := hv
  have hx := B.exec
  have hb := B.bytes
  have hr := B.returns
  have hts := atoms_spec (ws := ws_ yX0_askedCivil cX0_askedCivil 22 (some (.array .long))) B.pre
  have hts : ∀ w ∈ lw_all, w.before _ s = true := fun w h => hts w (List.mem_cons_of_mem _ h)
  have hown : s.vm.findClass RX0 = some mi.cls := findClass_of_methodNamed B.named
  have hlocks := B.notSynchronized
  have hl := lv_entry ([.long n]) (n := 22) (Nat.le_of_ble_eq_true rfl)
  rw [lg_entry_eq]
  generalize (lg_sl ([.long n]) ++ List.replicate (22 - (lg_sl ([.long n])).length) Slot.unset).toArray = ls at hl ⊢
  have hl : lv_has ls 22 [(0, .long n)] := hl
  subst hsz
  have hD := hD0.self (sz := s.heap.size)
  generalize hAe : va_A [] s.heap.size = A at hD hC hX ⊢
  have hA : ∀ q : Nat, s.heap.size ≤ q → A q := fun q h => by rw [← hAe]; exact Or.inr h
  have hS : va_S A s.heap s.heap [] := va_S.rf
  have hP : va_P D vwC [] s.heap := hP
  refine lv_lload_n hx hb dX0_askedCivil_0 rfl (lv_at hl 0 rfl) ?_
  refine lv_ldc2 (v := 719468) hx hb hown (hts _ q677) dX0_askedCivil_1 ?_
  refine lv_ladd hx hb dX0_askedCivil_4 ?_
  refine lv_topl (fun v4 ev4 => ?_)
  have tv4 : v4.toInt = n.toInt + 719468 := ll_add ev4 rfl (by decide +kernel) (by omega) (by omega)
  refine lv_lstore_n (lv' := [(2, .long v4), (0, .long n)]) hx hb dX0_askedCivil_5 rfl hl (by decide) rfl (fun ls hl => ?_)
  refine lv_lload_n hx hb dX0_askedCivil_6 rfl (lv_at hl 0 rfl) ?_
  refine lv_ldc2 (v := 146097) hx hb hown (hts _ q678) dX0_askedCivil_7 ?_
  have g10 : fNo s s.heap := trivial
  refine vp_callSl (W.runS (As := [.long v4, .long 146097]) (rest := []) ⟨hx, hb, hml, hown, hts⟩ (metJ9_floorDiv l v4 146097 146097 (by decide +kernel) (by decide)) (va_cwS 2 hts (lw_S q679 q680 q18 q681) rfl rfl rfl (by decide +kernel) ⟨Nat.le_of_ble_eq_true rfl, Nat.le_of_ble_eq_true rfl⟩) (pS_start (F := fNo) fNo_mv g10) rfl rfl hl.1 rfl (lv_room (Nat.le_of_ble_eq_true rfl)) dX0_askedCivil_10 ⟨Nat.le_of_ble_eq_true rfl, Nat.le_of_ble_eq_true rfl⟩) (fun r10 pr10 => ?_)
  have pr10 : r10.toInt = v4.toInt / 146097 := pr10
  refine lv_lstore (lv' := [(4, .long r10), (2, .long v4), (0, .long n)]) hx hb dX0_askedCivil_13 hl (by decide) rfl (fun ls hl => ?_)
  refine lv_lload_n hx hb dX0_askedCivil_15 rfl (lv_at hl 1 rfl) ?_
  refine lv_lload hx hb dX0_askedCivil_16 (lv_at hl 0 rfl) ?_
  refine lv_ldc2 (v := 146097) hx hb hown (hts _ q678) dX0_askedCivil_18 ?_
  refine lv_lmul hx hb dX0_askedCivil_21 ?_
  refine lv_topl (fun v21 ev21 => ?_)
  have tv21 : v21.toInt = r10.toInt * 146097 := ll_mul ev21 rfl (by decide +kernel) (by omega) (by omega)
  refine lv_lsub hx hb dX0_askedCivil_22 ?_
  refine lv_topl (fun v22 ev22 => ?_)
  have tv22 : v22.toInt = v4.toInt - v21.toInt := ll_sub ev22 rfl rfl (by omega) (by omega)
  refine lv_lstore (lv' := [(6, .long v22), (4, .long r10), (2, .long v4), (0, .long n)]) hx hb dX0_askedCivil_23 hl (by decide) rfl (fun ls hl => ?_)
  refine lv_lload hx hb dX0_askedCivil_25 (lv_at hl 0 rfl) ?_
  refine lv_lload hx hb dX0_askedCivil_27 (lv_at hl 0 rfl) ?_
  refine lv_ldc2 (v := 1460) hx hb hown (hts _ q682) dX0_askedCivil_29 ?_
  refine lv_ldiv hx hb dX0_askedCivil_32 (by decide) ?_
  refine lv_topl (fun v32 ev32 => ?_)
  have tv32 : v32.toInt = v22.toInt / 1460 := (ll_div ev32 rfl (by decide +kernel) (by decide)).1 (by omega)
  refine lv_lsub hx hb dX0_askedCivil_33 ?_
  refine lv_topl (fun v33 ev33 => ?_)
  have tv33 : v33.toInt = v22.toInt - v32.toInt := ll_sub ev33 rfl rfl (by omega) (by omega)
  refine lv_lload hx hb dX0_askedCivil_34 (lv_at hl 0 rfl) ?_
  refine lv_ldc2 (v := 36524) hx hb hown (hts _ q683) dX0_askedCivil_36 ?_
  refine lv_ldiv hx hb dX0_askedCivil_39 (by decide) ?_
  refine lv_topl (fun v39 ev39 => ?_)
  have tv39 : v39.toInt = v22.toInt / 36524 := (ll_div ev39 rfl (by decide +kernel) (by decide)).1 (by omega)
  refine lv_ladd hx hb dX0_askedCivil_40 ?_
  refine lv_topl (fun v40 ev40 => ?_)
  have tv40 : v40.toInt = v33.toInt + v39.toInt := ll_add ev40 rfl rfl (by omega) (by omega)
  refine lv_lload hx hb dX0_askedCivil_41 (lv_at hl 0 rfl) ?_
  refine lv_ldc2 (v := 146096) hx hb hown (hts _ q684) dX0_askedCivil_43 ?_
  refine lv_ldiv hx hb dX0_askedCivil_46 (by decide) ?_
  refine lv_topl (fun v46 ev46 => ?_)
  have tv46 : v46.toInt = v22.toInt / 146096 := (ll_div ev46 rfl (by decide +kernel) (by decide)).1 (by omega)
  refine lv_lsub hx hb dX0_askedCivil_47 ?_
  refine lv_topl (fun v47 ev47 => ?_)
  have tv47 : v47.toInt = v40.toInt - v46.toInt := ll_sub ev47 rfl rfl (by omega) (by omega)
  refine lv_ldc2 (v := 365) hx hb hown (hts _ q685) dX0_askedCivil_48 ?_
  refine lv_ldiv hx hb dX0_askedCivil_51 (by decide) ?_
  refine lv_topl (fun v51 ev51 => ?_)
  have tv51 : v51.toInt = v47.toInt / 365 := (ll_div ev51 rfl (by decide +kernel) (by decide)).1 (by omega)
  refine lv_lstore (lv' := [(8, .long v51), (6, .long v22), (4, .long r10), (2, .long v4), (0, .long n)]) hx hb dX0_askedCivil_52 hl (by decide) rfl (fun ls hl => ?_)
  refine lv_lload hx hb dX0_askedCivil_54 (lv_at hl 1 rfl) ?_
  refine lv_ldc2 (v := 365) hx hb hown (hts _ q685) dX0_askedCivil_56 ?_
  refine lv_lload hx hb dX0_askedCivil_59 (lv_at hl 0 rfl) ?_
  refine lv_lmul hx hb dX0_askedCivil_61 ?_
  refine lv_topl (fun v61 ev61 => ?_)
  have tv61 : v61.toInt = 365 * v51.toInt := ll_mul ev61 (by decide +kernel) rfl (by omega) (by omega)
  refine lv_lload hx hb dX0_askedCivil_62 (lv_at hl 0 rfl) ?_
  refine lv_ldc2 (v := 4) hx hb hown (hts _ q686) dX0_askedCivil_64 ?_
  refine lv_ldiv hx hb dX0_askedCivil_67 (by decide) ?_
  refine lv_topl (fun v67 ev67 => ?_)
  have tv67 : v67.toInt = v51.toInt / 4 := (ll_div ev67 rfl (by decide +kernel) (by decide)).1 (by omega)
  refine lv_ladd hx hb dX0_askedCivil_68 ?_
  refine lv_topl (fun v68 ev68 => ?_)
  have tv68 : v68.toInt = v61.toInt + v67.toInt := ll_add ev68 rfl rfl (by omega) (by omega)
  refine lv_lload hx hb dX0_askedCivil_69 (lv_at hl 0 rfl) ?_
  refine lv_ldc2 (v := 100) hx hb hown (hts _ q687) dX0_askedCivil_71 ?_
  refine lv_ldiv hx hb dX0_askedCivil_74 (by decide) ?_
  refine lv_topl (fun v74 ev74 => ?_)
  have tv74 : v74.toInt = v51.toInt / 100 := (ll_div ev74 rfl (by decide +kernel) (by decide)).1 (by omega)
  refine lv_lsub hx hb dX0_askedCivil_75 ?_
  refine lv_topl (fun v75 ev75 => ?_)
  have tv75 : v75.toInt = v68.toInt - v74.toInt := ll_sub ev75 rfl rfl (by omega) (by omega)
  refine lv_lsub hx hb dX0_askedCivil_76 ?_
  refine lv_topl (fun v76 ev76 => ?_)
  have tv76 : v76.toInt = v22.toInt - v75.toInt := ll_sub ev76 rfl rfl (by omega) (by omega)
  refine lv_lstore (lv' := [(10, .long v76), (8, .long v51), (6, .long v22), (4, .long r10), (2, .long v4), (0, .long n)]) hx hb dX0_askedCivil_77 hl (by decide) rfl (fun ls hl => ?_)
  have hyo := ca_yoe (z := v22.toInt) (Q := v51.toInt) (by omega) (by omega) (by omega)
  have hfm : ca_fm v51.toInt = 365 * v51.toInt + v51.toInt / 4 - v51.toInt / 100 + v51.toInt / 400 := rfl
  have h400 : v51.toInt / 400 = 0 := by omega
  have hst := ca_step v51.toInt
  have hL := ca_L01 (v51.toInt + 1)
  have qa2 : 0 ≤ v76.toInt ∧ v76.toInt < 365 + ca_L (v51.toInt + 1) := by omega
  refine lv_ldc2 (v := 5) hx hb hown (hts _ q688) dX0_askedCivil_79 ?_
  refine lv_lload hx hb dX0_askedCivil_82 (lv_at hl 0 rfl) ?_
  refine lv_lmul hx hb dX0_askedCivil_84 ?_
  refine lv_topl (fun v84 ev84 => ?_)
  have tv84 : v84.toInt = 5 * v76.toInt := ll_mul ev84 (by decide +kernel) rfl (by omega) (by omega)
  refine lv_ldc2 (v := 2) hx hb hown (hts _ q689) dX0_askedCivil_85 ?_
  refine lv_ladd hx hb dX0_askedCivil_88 ?_
  refine lv_topl (fun v88 ev88 => ?_)
  have tv88 : v88.toInt = v84.toInt + 2 := ll_add ev88 rfl (by decide +kernel) (by omega) (by omega)
  refine lv_ldc2 (v := 153) hx hb hown (hts _ q690) dX0_askedCivil_89 ?_
  refine lv_ldiv hx hb dX0_askedCivil_92 (by decide) ?_
  refine lv_topl (fun v92 ev92 => ?_)
  have tv92 : v92.toInt = v88.toInt / 153 := (ll_div ev92 rfl (by decide +kernel) (by decide)).1 (by omega)
  refine lv_lstore (lv' := [(12, .long v92), (10, .long v76), (8, .long v51), (6, .long v22), (4, .long r10), (2, .long v4), (0, .long n)]) hx hb dX0_askedCivil_93 hl (by decide) rfl (fun ls hl => ?_)
  refine lv_lload hx hb dX0_askedCivil_95 (lv_at hl 1 rfl) ?_
  refine lv_ldc2 (v := 153) hx hb hown (hts _ q690) dX0_askedCivil_97 ?_
  refine lv_lload hx hb dX0_askedCivil_100 (lv_at hl 0 rfl) ?_
  refine lv_lmul hx hb dX0_askedCivil_102 ?_
  refine lv_topl (fun v102 ev102 => ?_)
  have tv102 : v102.toInt = 153 * v92.toInt := ll_mul ev102 (by decide +kernel) rfl (by omega) (by omega)
  refine lv_ldc2 (v := 2) hx hb hown (hts _ q689) dX0_askedCivil_103 ?_
  refine lv_ladd hx hb dX0_askedCivil_106 ?_
  refine lv_topl (fun v106 ev106 => ?_)
  have tv106 : v106.toInt = v102.toInt + 2 := ll_add ev106 rfl (by decide +kernel) (by omega) (by omega)
  refine lv_ldc2 (v := 5) hx hb hown (hts _ q688) dX0_askedCivil_107 ?_
  refine lv_ldiv hx hb dX0_askedCivil_110 (by decide) ?_
  refine lv_topl (fun v110 ev110 => ?_)
  have tv110 : v110.toInt = v106.toInt / 5 := (ll_div ev110 rfl (by decide +kernel) (by decide)).1 (by omega)
  refine lv_lsub hx hb dX0_askedCivil_111 ?_
  refine lv_topl (fun v111 ev111 => ?_)
  have tv111 : v111.toInt = v76.toInt - v110.toInt := ll_sub ev111 rfl rfl (by omega) (by omega)
  refine lv_lconst (v := 1) hx hb dX0_askedCivil_112 (by decide +kernel) ?_
  refine lv_ladd hx hb dX0_askedCivil_113 ?_
  refine lv_topl (fun v113 ev113 => ?_)
  have tv113 : v113.toInt = v111.toInt + 1 := ll_add ev113 rfl (by decide +kernel) (by omega) (by omega)
  refine lv_lstore (lv' := [(14, .long v113), (12, .long v92), (10, .long v76), (8, .long v51), (6, .long v22), (4, .long r10), (2, .long v4), (0, .long n)]) hx hb dX0_askedCivil_114 hl (by decide) rfl (fun ls hl => ?_)
  refine lv_lload hx hb dX0_askedCivil_116 (lv_at hl 1 rfl) ?_
  have qa1 : v92.toInt = (5 * v76.toInt + 2) / 153 := by omega
  have qa3 : 0 ≤ v92.toInt ∧ v92.toInt ≤ 11 := by omega
  refine w_cut (α := Int64) (fun a ls => lv_has ls 22 [(14, .long v113), (12, .long v92), (10, .long v76), (8, .long v51), (6, .long v22), (4, .long r10), (2, .long v4), (0, .long n)] ∧ ((v92.toInt < 10 ∧ a.toInt = v92.toInt + 3) ∨ (¬ v92.toInt < 10 ∧ a.toInt = v92.toInt - 9))) (fun a ls => F0 mi 140 ls [.long a]) ?_ ?_
  · rintro mo ls ⟨hl, hmo2⟩
    have hmo : mo.toInt = (v92.toInt + 2) % 12 + 1 := by omega
    refine lv_lstore (lv' := [(16, .long mo), (14, .long v113), (12, .long v92), (10, .long v76), (8, .long v51), (6, .long v22), (4, .long r10), (2, .long v4), (0, .long n)]) hx hb dX0_askedCivil_140 hl (by decide) rfl (fun ls hl => ?_)
    refine lv_lload hx hb dX0_askedCivil_142 (lv_at hl 4 rfl) ?_
    refine lv_lload hx hb dX0_askedCivil_144 (lv_at hl 6 rfl) ?_
    refine lv_ldc2 (v := 400) hx hb hown (hts _ q694) dX0_askedCivil_146 ?_
    refine lv_lmul hx hb dX0_askedCivil_149 ?_
    refine lv_topl (fun v149 ev149 => ?_)
    have tv149 : v149.toInt = r10.toInt * 400 := ll_mul ev149 rfl (by decide +kernel) (by omega) (by omega)
    refine lv_ladd hx hb dX0_askedCivil_150 ?_
    refine lv_topl (fun v150 ev150 => ?_)
    have tv150 : v150.toInt = v51.toInt + v149.toInt := ll_add ev150 rfl rfl (by omega) (by omega)
    refine lv_lload hx hb dX0_askedCivil_151 (lv_at hl 0 rfl) ?_
    have hdm := ca_dom (q := v76.toInt) (mm := v92.toInt) (m := mo.toInt) qa2.1 (by omega) qa1 hmo
    refine w_cut (α := Int32) (fun a ls => lv_has ls 22 [(16, .long mo), (14, .long v113), (12, .long v92), (10, .long v76), (8, .long v51), (6, .long v22), (4, .long r10), (2, .long v4), (0, .long n)] ∧ a.toInt = v92.toInt / 10) (fun a ls => F0 mi 165 ls [.int a, .long v150]) ?_ ?_
    · rintro bi ls ⟨hl, hbi⟩
      refine lv_i2l (v := (bi).toInt64) hx hb dX0_askedCivil_165 rfl ?_
      refine lv_topl (fun v165 ev165 => ?_)
      have tv165 : v165.toInt = bi.toInt := ll_i2l ev165 rfl
      refine lv_ladd hx hb dX0_askedCivil_166 ?_
      refine lv_topl (fun v166 ev166 => ?_)
      have tv166 : v166.toInt = v150.toInt + v165.toInt := ll_add ev166 rfl rfl (by omega) (by omega)
      refine lv_lstore (lv' := [(18, .long v166), (16, .long mo), (14, .long v113), (12, .long v92), (10, .long v76), (8, .long v51), (6, .long v22), (4, .long r10), (2, .long v4), (0, .long n)]) hx hb dX0_askedCivil_167 hl (by decide) rfl (fun ls hl => ?_)
      have h4 := ca_400 v51.toInt r10.toInt
      have h5 := ca_L400 (v51.toInt + 1) r10.toInt
      have e1 : v150.toInt = v51.toInt + 400 * r10.toInt := by omega
      have e2 : v150.toInt + 1 = v51.toInt + 1 + 400 * r10.toInt := by omega
      have hI := ca_mk (n := n.toInt) (Y := v150.toInt) (q := v76.toInt) (mm := v92.toInt) (m := mo.toInt) (dd := v113.toInt) (by rw [e1, h4]; omega) qa2.1 (by rw [e2, h5]; exact qa2.2) qa1 hmo (by omega)
      have e3 : v150.toInt + v92.toInt / 10 = v166.toInt := by omega
      rw [e3] at hI
      have hbd := ca_bnd hI h1 h2
      have hcf := ca_first hI
      clear hfm hst hyo hdm
      refine lv_lload_n hx hb dX0_askedCivil_169 rfl (lv_at hl 9 rfl) ?_
      refine lv_lload hx hb dX0_askedCivil_170 (lv_at hl 0 rfl) ?_
      have g172 : fNo s s.heap := trivial
      refine vp_callSl (W.runS (As := [.long v166]) (rest := [.long n]) ⟨hx, hb, hml, hown, hts⟩ (metX0_askedFirstOf l v166 (by omega) (by omega)) (va_cwS 1 hts (lw_S q695 q696 q1 q697) rfl rfl rfl (by decide +kernel) ⟨Nat.le_of_ble_eq_true rfl, Nat.le_of_ble_eq_true rfl⟩) (pS_start (F := fNo) fNo_mv g172) rfl rfl hl.1 rfl (lv_room (Nat.le_of_ble_eq_true rfl)) dX0_askedCivil_172 ⟨Nat.le_of_ble_eq_true rfl, Nat.le_of_ble_eq_true rfl⟩) (fun r172 pr172 => ?_)
      have pr172 : r172.toInt = 365 * (v166.toInt - 1) + (v166.toInt - 1) / 4 - (v166.toInt - 1) / 100 + (v166.toInt - 1) / 400 - 719162 := pr172
      refine lv_lsub hx hb dX0_askedCivil_175 ?_
      refine lv_topl (fun v175 ev175 => ?_)
      have tv175 : v175.toInt = n.toInt - r172.toInt := ll_sub ev175 rfl rfl (by omega) (by omega)
      refine lv_lconst (v := 1) hx hb dX0_askedCivil_176 (by decide +kernel) ?_
      refine lv_ladd hx hb dX0_askedCivil_177 ?_
      refine lv_topl (fun v177 ev177 => ?_)
      have tv177 : v177.toInt = v175.toInt + 1 := ll_add ev177 rfl (by decide +kernel) (by omega) (by omega)
      refine lv_lstore (lv' := [(20, .long v177), (18, .long v166), (16, .long mo), (14, .long v113), (12, .long v92), (10, .long v76), (8, .long v51), (6, .long v22), (4, .long r10), (2, .long v4), (0, .long n)]) hx hb dX0_askedCivil_178 hl (by decide) rfl (fun ls hl => ?_)
      refine lv_iconst (v := 5) hx hb dX0_askedCivil_180 (by decide +kernel) ?_
      refine va_newa (atype := .long) (ty := .long) (a0 := (5, .inr (.inl (fun _ => 0)))) (N' := 5) hx hb (hts _ q703) rfl hK hP hD hS hA (fun cA => rfl) (by decide +kernel) (by decide +kernel) (Nat.le_of_ble_eq_true rfl) (Nat.le_of_ble_eq_true rfl) (Nat.le_of_ble_eq_true rfl) dX0_askedCivil_181 (fun qa cA H hK hP hD hS => ?_)
      have hP : va_P D vwC [(qa, .inl (cA, 5, .inr (.inl (fun _ => 0))))] H := hP
      have hD : va_D A [(qa, .inl (cA, 5, .inr (.inl (fun _ => 0))))] := hD
      have hK : va_K D vwC [(cA, .long)] s := hK
      refine W.widen (k := 1) (n := 5) (Nat.le_of_ble_eq_true rfl) (Nat.le_of_ble_eq_true rfl) ?_
      refine lv_dup hx hb dX0_askedCivil_183 rfl ?_
      refine lv_iconst (v := 0) hx hb dX0_askedCivil_184 (by decide +kernel) ?_
      refine lv_lload hx hb dX0_askedCivil_185 (lv_at hl 1 rfl) ?_
      refine va_last hx hb hK hP hD hS 0 0 rfl rfl (i := 0) (x := v166) vp0 dX0_askedCivil_187 (fun H locs hP hD hS => ?_)
      rw [cl0] at hP hD
      have hP : va_P D vwC [(qa, .inl (cA, 5, .inr (.inl (vp_updL ((fun _ => 0)) 0 v166))))] H := hP
      have hD : va_D A [(qa, .inl (cA, 5, .inr (.inl (vp_updL ((fun _ => 0)) 0 v166))))] := hD
      refine lv_dup hx hb dX0_askedCivil_188 rfl ?_
      refine lv_iconst (v := 1) hx hb dX0_askedCivil_189 (by decide +kernel) ?_
      refine lv_lload hx hb dX0_askedCivil_190 (lv_at hl 2 rfl) ?_
      refine va_last hx hb hK hP hD hS 0 0 rfl rfl (i := 1) (x := mo) vp1 dX0_askedCivil_192 (fun H locs hP hD hS => ?_)
      rw [cl1] at hP hD
      have hP : va_P D vwC [(qa, .inl (cA, 5, .inr (.inl (vp_updL (vp_updL ((fun _ => 0)) 0 v166) 1 mo))))] H := hP
      have hD : va_D A [(qa, .inl (cA, 5, .inr (.inl (vp_updL (vp_updL ((fun _ => 0)) 0 v166) 1 mo))))] := hD
      refine lv_dup hx hb dX0_askedCivil_193 rfl ?_
      refine lv_iconst (v := 2) hx hb dX0_askedCivil_194 (by decide +kernel) ?_
      refine lv_lload hx hb dX0_askedCivil_195 (lv_at hl 3 rfl) ?_
      refine va_last hx hb hK hP hD hS 0 0 rfl rfl (i := 2) (x := v113) vp2 dX0_askedCivil_197 (fun H locs hP hD hS => ?_)
      rw [cl2] at hP hD
      have hP : va_P D vwC [(qa, .inl (cA, 5, .inr (.inl (vp_updL (vp_updL (vp_updL ((fun _ => 0)) 0 v166) 1 mo) 2 v113))))] H := hP
      have hD : va_D A [(qa, .inl (cA, 5, .inr (.inl (vp_updL (vp_updL (vp_updL ((fun _ => 0)) 0 v166) 1 mo) 2 v113))))] := hD
      refine lv_dup hx hb dX0_askedCivil_198 rfl ?_
      refine lv_iconst (v := 3) hx hb dX0_askedCivil_199 (by decide +kernel) ?_
      refine lv_lload hx hb dX0_askedCivil_200 (lv_at hl 0 rfl) ?_
      refine va_last hx hb hK hP hD hS 0 0 rfl rfl (i := 3) (x := v177) vp3 dX0_askedCivil_202 (fun H locs hP hD hS => ?_)
      rw [cl3] at hP hD
      have hP : va_P D vwC [(qa, .inl (cA, 5, .inr (.inl (vp_updL (vp_updL (vp_updL (vp_updL ((fun _ => 0)) 0 v166) 1 mo) 2 v113) 3 v177))))] H := hP
      have hD : va_D A [(qa, .inl (cA, 5, .inr (.inl (vp_updL (vp_updL (vp_updL (vp_updL ((fun _ => 0)) 0 v166) 1 mo) 2 v113) 3 v177))))] := hD
      refine lv_dup hx hb dX0_askedCivil_203 rfl ?_
      refine lv_iconst (v := 4) hx hb dX0_askedCivil_204 (by decide +kernel) ?_
      refine lv_lload_n hx hb dX0_askedCivil_205 rfl (lv_at hl 10 rfl) ?_
      refine lv_ldc2 (v := 3) hx hb hown (hts _ q692) dX0_askedCivil_206 ?_
      refine lv_ladd hx hb dX0_askedCivil_209 ?_
      refine lv_topl (fun v209 ev209 => ?_)
      refine lv_ldc2 (v := 7) hx hb hown (hts _ q699) dX0_askedCivil_210 ?_
      have g213 : fNo s H := trivial
      refine vp_callSl (W.runS (As := [.long v209, .long 7]) (rest := [.int 4, .ref qa, .ref qa]) ⟨hx, hb, hml, hown, hts⟩ (metJ9_floorMod l v209 7 7 (by decide +kernel) (by decide)) (va_cwS 2 hts (lw_S q700 q701 q18 q702) rfl rfl rfl (by decide +kernel) ⟨Nat.le_of_ble_eq_true rfl, Nat.le_of_ble_eq_true rfl⟩) (pS_start (F := fNo) fNo_mv g213) rfl rfl hl.1 rfl (lv_room (Nat.le_of_ble_eq_true rfl)) dX0_askedCivil_213 ⟨Nat.le_of_ble_eq_true rfl, Nat.le_of_ble_eq_true rfl⟩) (fun r213 pr213 => ?_)
      refine lv_lconst (v := 1) hx hb dX0_askedCivil_216 (by decide +kernel) ?_
      refine lv_ladd hx hb dX0_askedCivil_217 ?_
      refine lv_topl (fun v217 ev217 => ?_)
      refine va_last hx hb hK hP hD hS 0 0 rfl rfl (i := 4) (x := v217) vp4 dX0_askedCivil_218 (fun H locs hP hD hS => ?_)
      rw [cl4] at hP hD
      have hP : va_P D vwC [(qa, .inl (cA, 5, .inr (.inl (vp_updL (vp_updL (vp_updL (vp_updL (vp_updL ((fun _ => 0)) 0 v166) 1 mo) 2 v113) 3 v177) 4 v217))))] H := hP
      have hD : va_D A [(qa, .inl (cA, 5, .inr (.inl (vp_updL (vp_updL (vp_updL (vp_updL (vp_updL ((fun _ => 0)) 0 v166) 1 mo) 2 v113) 3 v177) 4 v217))))] := hD
      have hP : va_P D vwC [(qa, .inl (cA, 5, .inr (.inl (five v166 mo v113 v177 v217))))] H := hP
      have hD : va_D A [(qa, .inl (cA, 5, .inr (.inl (five v166 mo v113 v177 v217))))] := hD
      have hP9 := hP.sub (ws' := [(qa, .inl (cA, 5, .inr (.inl (five v166 mo v113 v177 v217))))]) [0] rfl
      have hD9 := hD.sub (ws' := [(qa, .inl (cA, 5, .inr (.inl (five v166 mo v113 v177 v217))))]) [0] (by decide) rfl
      have hK9 := hK.sub (tys' := [(cA, .long)]) [0] rfl
      refine W.widen (k := 1) (n := 5) (Nat.le_of_ble_eq_true rfl) (Nat.le_of_ble_eq_true rfl) ?_
      exact W.aret (v := .ref qa) hx hb hr (Or.inr ⟨_, rfl⟩) (Or.inr ⟨_, rfl⟩) (fun t ht hW => ⟨⟨(five v166 mo v113 v177 v217), qa, rfl, (by show IsD n.toInt v166.toInt mo.toInt v113.toInt ∧ v177.toInt = ca_cum (ca_L v166.toInt) mo.toInt + v113.toInt; exact ⟨hI, by omega⟩), cA, by rw [ht]; exact hP9, va_K.moved hW.alike hK9, hD9⟩, hS.F ht⟩) hS.2.2 dX0_askedCivil_219
    · intro hk2
      clear hmo hdm
      refine lv_ldc2 (v := 3) hx hb hown (hts _ q692) dX0_askedCivil_153 ?_
      refine W.lcmp hx hb dX0_askedCivil_156 ?_
      refine lv_if_ge (tgt := 164) hx hb dX0_askedCivil_157 (by decide) (fun c157 => ?_) (fun c157 => ?_)
      · have k_157 : 3 ≤ mo.toInt := (cm_ge0 (X := mo.toInt) (Y := 3) rfl (by decide +kernel)).mp c157
        refine lv_iconst (v := 0) hx hb dX0_askedCivil_164 (by decide +kernel) ?_
        exact hk2 0 ls ⟨hl, by show (0 : Int32).toInt = v92.toInt / 10; rw [show (0 : Int32).toInt = 0 by decide +kernel]; omega⟩
      · have k_157 : ¬ 3 ≤ mo.toInt := fun c0 => c157 ((cm_ge0 (X := mo.toInt) (Y := 3) rfl (by decide +kernel)).mpr c0)
        refine lv_iconst (v := 1) hx hb dX0_askedCivil_160 (by decide +kernel) ?_
        refine lv_goto (tgt := 165) hx hb dX0_askedCivil_161 (by decide) ?_
        exact hk2 1 ls ⟨hl, by show (1 : Int32).toInt = v92.toInt / 10; rw [show (1 : Int32).toInt = 1 by decide +kernel]; omega⟩
  · intro hk1
    refine lv_ldc2 (v := 10) hx hb hown (hts _ q691) dX0_askedCivil_118 ?_
    refine W.lcmp hx hb dX0_askedCivil_121 ?_
    refine lv_if_ge (tgt := 134) hx hb dX0_askedCivil_122 (by decide) (fun c122 => ?_) (fun c122 => ?_)
    · have k_122 : 10 ≤ v92.toInt := (cm_ge0 (X := v92.toInt) (Y := 10) rfl (by decide +kernel)).mp c122
      refine lv_lload hx hb dX0_askedCivil_134 (lv_at hl 1 rfl) ?_
      refine lv_ldc2 (v := 9) hx hb hown (hts _ q693) dX0_askedCivil_136 ?_
      refine lv_lsub hx hb dX0_askedCivil_139 ?_
      refine lv_topl (fun v139 ev139 => ?_)
      have tv139 : v139.toInt = v92.toInt - 9 := ll_sub ev139 rfl (by decide +kernel) (by omega) (by omega)
      exact hk1 v139 ls ⟨hl, by show (v92.toInt < 10 ∧ v139.toInt = v92.toInt + 3) ∨ (¬ v92.toInt < 10 ∧ v139.toInt = v92.toInt - 9); omega⟩
    · have k_122 : ¬ 10 ≤ v92.toInt := fun c0 => c122 ((cm_ge0 (X := v92.toInt) (Y := 10) rfl (by decide +kernel)).mpr c0)
      refine lv_lload hx hb dX0_askedCivil_125 (lv_at hl 1 rfl) ?_
      refine lv_ldc2 (v := 3) hx hb hown (hts _ q692) dX0_askedCivil_127 ?_
      refine lv_ladd hx hb dX0_askedCivil_130 ?_
      refine lv_topl (fun v130 ev130 => ?_)
      have tv130 : v130.toInt = v92.toInt + 3 := ll_add ev130 rfl (by decide +kernel) (by omega) (by omega)
      refine lv_goto (tgt := 140) hx hb dX0_askedCivil_131 (by decide) ?_
      exact hk1 v130 ls ⟨hl, by show (v92.toInt < 10 ∧ v130.toInt = v92.toInt + 3) ∨ (¬ v92.toInt < 10 ∧ v130.toInt = v92.toInt - 9); omega⟩
end
section
set_option maxHeartbeats 4000000 in
set_option maxRecDepth 100000 in
/-- askedIs of a day: true -/
theorem metX0_askedIs (l : Launch) (D : va_G) (k : Nat → Nat) (sz : Nat) (h q : Nat) (y m d : Int32) (n : Int64) (h1 : -365243219162 ≤ n.toInt) (h2 : n.toInt ≤ 365241780471) (hg : gd n.toInt y m d) : Met l yX0_askedIs (ws_ yX0_askedIs cX0_askedIs 4 (some .boolean)) ({ frames := 4, cells := 1, slots := 5, locals := 89 }) (va_Pc [.ref h, .long n] (al D k [] sz (fDC h q y m d))) (va_Qi (fun (r : Int32) (u : Unit) => r = 1) (b0) (va_A [] sz)) 1 5 (va_A [] sz) := by
  refine Met.ofW (cc := cX0_askedIs) (maxL := 4) (ret := (some .boolean)) (by decide +kernel) rfl ?_
  intro p e s mi args below me_ c s₁ B hml hv
  obtain ⟨rfl, hsz, hP, hK, hD0, hC, hX⟩ := hv
  have hx := B.exec
  have hb := B.bytes
  have hr := B.returns
  have hts := atoms_spec (ws := ws_ yX0_askedIs cX0_askedIs 4 (some .boolean)) B.pre
  have hts : ∀ w ∈ lw_all, w.before _ s = true := fun w h => hts w (List.mem_cons_of_mem _ h)
  have hown : s.vm.findClass RX0 = some mi.cls := findClass_of_methodNamed B.named
  have hlocks := B.notSynchronized
  have hl := lv_entry ([.ref h, .long n]) (n := 4) (Nat.le_of_ble_eq_true rfl)
  rw [lg_entry_eq]
  generalize (lg_sl ([.ref h, .long n]) ++ List.replicate (4 - (lg_sl ([.ref h, .long n])).length) Slot.unset).toArray = ls at hl ⊢
  have hl : lv_has ls 4 [(0, .ref h), (1, .long n)] := hl
  subst hsz
  have hD := hD0.self (sz := s.heap.size)
  generalize hAe : va_A [] s.heap.size = A at hD hC hX ⊢
  have hA : ∀ q : Nat, s.heap.size ≤ q → A q := fun q h => by rw [← hAe]; exact Or.inr h
  have hS : va_S A s.heap s.heap [] := va_S.rf
  have hP : va_P D vwC [] s.heap := hP
  refine lv_lload_n hx hb dX0_askedIs_0 rfl (lv_at hl 1 rfl) ?_
  have hPc := hP.sub (ws' := []) [] rfl
  have hDc := hD.sub (ws' := []) [] (by decide) rfl
  have hKc := hK.sub (tys' := []) [] rfl
  have hFc := va_free (wc := []) hD hS hA [] rfl
  have hCc := cst_narrow (cst_kept hC hS.2.1) hFc
  refine va_callr (va_runS (As := [.long n]) (rest := []) ⟨hx, hb, hml, hown, hts⟩ (metX0_askedCivil l D k s.heap.size n h1 h2) (va_cwS 1 hts (lw_S q674 q675 q1 q676) rfl rfl rfl (by decide +kernel) ⟨Nat.le_of_ble_eq_true rfl, Nat.le_of_ble_eq_true rfl⟩) (aS_start (X := xT) xT_mv hPc hKc hDc hCc trivial) rfl rfl hl.1 rfl (lv_room (Nat.le_of_ble_eq_true rfl)) dX0_askedIs_1 ⟨Nat.le_of_ble_eq_true rfl, Nat.le_of_ble_eq_true rfl⟩) hS (fun q _ h => hFc q h) hFc (fun u r1 t H1 locs ht hvm hw hB hz1 hk1 hS => ?_)
  obtain ⟨cA, hP1, hK1, hD1⟩ := hB
  rw [ht] at hP1
  have hK1 := va_K.moved hvm.symm hK1
  have p1 : civ n.toInt u := hw
  obtain ⟨hP, hD⟩ := va_join (wr := []) (w1 := [(r1, .inl (cA, 5, .inr (.inl u)))]) hP hD [] [] rfl rfl (by decide) (by decide) hk1 hFc hP1 hD1
  have hK := (hK.sub (tys' := []) [] rfl).app hK1
  generalize H1 = H at hP hS ⊢
  have hP : va_P D vwC [(r1, .inl (cA, 5, .inr (.inl u)))] H := hP
  have hD : va_D A [(r1, .inl (cA, 5, .inr (.inl u)))] := hD
  have hK : va_K D vwC [(cA, .long)] s := hK
  refine W.widen (k := 1) (n := 5) (Nat.le_of_ble_eq_true rfl) (Nat.le_of_ble_eq_true rfl) ?_
  obtain ⟨cv1, cv2⟩ := p1
  have hun := ca_uniq hg.1 cv1
  obtain ⟨un1, un2, un3⟩ := hun
  have hfC : fCD k h q y m d s H := ⟨cst_narrow (cst_kept hC hS.2.1) (fF_no _), fDC_narrow (fDC_kept hX hS.2.1) (fF_no _)⟩
  refine lv_astore_n (lv' := [(3, .ref r1), (0, .ref h), (1, .long n)]) hx hb dX0_askedIs_4 rfl hl (by decide) rfl (fun ls hl => ?_)
  refine lv_aload_n hx hb dX0_askedIs_5 rfl (lv_at hl 1 rfl) ?_
  have g6 : fCD k h q y m d s H := hfC
  refine vp_callSl (W.runV (As := []) (rest := []) ⟨hx, hb, hml, hown, hts⟩ (metX1_epochDay l k h q y m d n.toInt hg) (cwV 0 hts (lw_V q643 q644 q645 q2 q646) rfl rfl rfl (by decide +kernel) ⟨Nat.le_of_ble_eq_true rfl, Nat.le_of_ble_eq_true rfl⟩) (pV_start (F := fCD k h q y m d) fCD_mv (cs_recv (g6.2.1.1)) g6) rfl rfl hl.1 rfl (lv_room (Nat.le_of_ble_eq_true rfl)) dX0_askedIs_6 ⟨Nat.le_of_ble_eq_true rfl, Nat.le_of_ble_eq_true rfl⟩) (fun r6 pr6 => ?_)
  have pr6 : r6.toInt = n.toInt := pr6
  refine lv_lload_n hx hb dX0_askedIs_9 rfl (lv_at hl 2 rfl) ?_
  refine W.lcmp hx hb dX0_askedIs_10 ?_
  refine lv_if_ne (tgt := 66) hx hb dX0_askedIs_11 (by decide) (fun c0 => absurd ((cm_eq0 (X := r6.toInt) (Y := n.toInt) rfl rfl).mpr (by omega)) c0) (fun c11 => ?_)
  refine lv_aload_n hx hb dX0_askedIs_14 rfl (lv_at hl 1 rfl) ?_
  have g15 : fCD k h q y m d s H := hfC
  refine vp_callSi (W.runV (As := []) (rest := []) ⟨hx, hb, hml, hown, hts⟩ (metX1_year l k h q y m d) (cwV 0 hts (lw_V q535 q536 q537 q2 q538) rfl rfl rfl (by decide +kernel) ⟨Nat.le_of_ble_eq_true rfl, Nat.le_of_ble_eq_true rfl⟩) (pV_start (F := fCD k h q y m d) fCD_mv (cs_recv (g15.2.1.1)) g15) rfl rfl hl.1 rfl (lv_room (Nat.le_of_ble_eq_true rfl)) dX0_askedIs_15 ⟨Nat.le_of_ble_eq_true rfl, Nat.le_of_ble_eq_true rfl⟩) (fun r15 pr15 => ?_)
  have pr15 : r15 = y := pr15
  have pr15 := pr15.symm
  subst pr15
  refine lv_i2l (v := (y).toInt64) hx hb dX0_askedIs_18 rfl ?_
  refine lv_topl (fun v18 ev18 => ?_)
  have tv18 : v18.toInt = y.toInt := ll_i2l ev18 rfl
  refine lv_aload_n hx hb dX0_askedIs_19 rfl (lv_at hl 0 rfl) ?_
  refine lv_iconst (v := 0) hx hb dX0_askedIs_20 (by decide +kernel) ?_
  refine va_lald hx hb hK hP 0 0 rfl rfl vp0 dX0_askedIs_21 ?_
  rw [cl0]
  refine W.lcmp hx hb dX0_askedIs_22 ?_
  refine lv_if_ne (tgt := 66) hx hb dX0_askedIs_23 (by decide) (fun c0 => absurd ((cm_eq0 (X := v18.toInt) (Y := (u 0).toInt) rfl rfl).mpr (by omega)) c0) (fun c23 => ?_)
  refine lv_aload_n hx hb dX0_askedIs_26 rfl (lv_at hl 1 rfl) ?_
  have g27 : fCD k h q y m d s H := hfC
  refine vp_callSi (W.runV (As := []) (rest := []) ⟨hx, hb, hml, hown, hts⟩ (metX1_month l k h q y m d) (cwV 0 hts (lw_V q543 q544 q545 q2 q546) rfl rfl rfl (by decide +kernel) ⟨Nat.le_of_ble_eq_true rfl, Nat.le_of_ble_eq_true rfl⟩) (pV_start (F := fCD k h q y m d) fCD_mv (cs_recv (g27.2.1.1)) g27) rfl rfl hl.1 rfl (lv_room (Nat.le_of_ble_eq_true rfl)) dX0_askedIs_27 ⟨Nat.le_of_ble_eq_true rfl, Nat.le_of_ble_eq_true rfl⟩) (fun r27 pr27 => ?_)
  have pr27 : r27 = m := pr27
  have pr27 := pr27.symm
  subst pr27
  refine lv_i2l (v := (m).toInt64) hx hb dX0_askedIs_30 rfl ?_
  refine lv_topl (fun v30 ev30 => ?_)
  have tv30 : v30.toInt = m.toInt := ll_i2l ev30 rfl
  refine lv_aload_n hx hb dX0_askedIs_31 rfl (lv_at hl 0 rfl) ?_
  refine lv_iconst (v := 1) hx hb dX0_askedIs_32 (by decide +kernel) ?_
  refine va_lald hx hb hK hP 0 0 rfl rfl vp1 dX0_askedIs_33 ?_
  rw [cl1]
  refine W.lcmp hx hb dX0_askedIs_34 ?_
  refine lv_if_ne (tgt := 66) hx hb dX0_askedIs_35 (by decide) (fun c0 => absurd ((cm_eq0 (X := v30.toInt) (Y := (u 1).toInt) rfl rfl).mpr (by omega)) c0) (fun c35 => ?_)
  refine lv_aload_n hx hb dX0_askedIs_38 rfl (lv_at hl 1 rfl) ?_
  have g39 : fCD k h q y m d s H := hfC
  refine vp_callSi (W.runV (As := []) (rest := []) ⟨hx, hb, hml, hown, hts⟩ (metX1_dayOfMonth l k h q y m d) (cwV 0 hts (lw_V q551 q552 q553 q2 q554) rfl rfl rfl (by decide +kernel) ⟨Nat.le_of_ble_eq_true rfl, Nat.le_of_ble_eq_true rfl⟩) (pV_start (F := fCD k h q y m d) fCD_mv (cs_recv (g39.2.1.1)) g39) rfl rfl hl.1 rfl (lv_room (Nat.le_of_ble_eq_true rfl)) dX0_askedIs_39 ⟨Nat.le_of_ble_eq_true rfl, Nat.le_of_ble_eq_true rfl⟩) (fun r39 pr39 => ?_)
  have pr39 : r39 = d := pr39
  have pr39 := pr39.symm
  subst pr39
  refine lv_i2l (v := (d).toInt64) hx hb dX0_askedIs_42 rfl ?_
  refine lv_topl (fun v42 ev42 => ?_)
  have tv42 : v42.toInt = d.toInt := ll_i2l ev42 rfl
  refine lv_aload_n hx hb dX0_askedIs_43 rfl (lv_at hl 0 rfl) ?_
  refine lv_iconst (v := 2) hx hb dX0_askedIs_44 (by decide +kernel) ?_
  refine va_lald hx hb hK hP 0 0 rfl rfl vp2 dX0_askedIs_45 ?_
  rw [cl2]
  refine W.lcmp hx hb dX0_askedIs_46 ?_
  refine lv_if_ne (tgt := 66) hx hb dX0_askedIs_47 (by decide) (fun c0 => absurd ((cm_eq0 (X := v42.toInt) (Y := (u 2).toInt) rfl rfl).mpr (by omega)) c0) (fun c47 => ?_)
  refine lv_aload_n hx hb dX0_askedIs_50 rfl (lv_at hl 1 rfl) ?_
  have g51 : fCD k h q y m d s H := hfC
  refine vp_callSi (W.runV (As := []) (rest := []) ⟨hx, hb, hml, hown, hts⟩ (metX1_dayOfYear l k h q y m d n.toInt hg) (cwV 0 hts (lw_V q559 q560 q561 q2 q562) rfl rfl rfl (by decide +kernel) ⟨Nat.le_of_ble_eq_true rfl, Nat.le_of_ble_eq_true rfl⟩) (pV_start (F := fCD k h q y m d) fCD_mv (cs_recv (g51.2.1.1)) g51) rfl rfl hl.1 rfl (lv_room (Nat.le_of_ble_eq_true rfl)) dX0_askedIs_51 ⟨Nat.le_of_ble_eq_true rfl, Nat.le_of_ble_eq_true rfl⟩) (fun r51 pr51 => ?_)
  have pr51 : r51.toInt = ca_cum (ca_L y.toInt) m.toInt + d.toInt := pr51
  refine lv_i2l (v := (r51).toInt64) hx hb dX0_askedIs_54 rfl ?_
  refine lv_topl (fun v54 ev54 => ?_)
  have tv54 : v54.toInt = r51.toInt := ll_i2l ev54 rfl
  refine lv_aload_n hx hb dX0_askedIs_55 rfl (lv_at hl 0 rfl) ?_
  refine lv_iconst (v := 3) hx hb dX0_askedIs_56 (by decide +kernel) ?_
  rw [un1, un2, un3] at pr51
  refine va_lald hx hb hK hP 0 0 rfl rfl vp3 dX0_askedIs_57 ?_
  rw [cl3]
  refine W.lcmp hx hb dX0_askedIs_58 ?_
  refine lv_if_ne (tgt := 66) hx hb dX0_askedIs_59 (by decide) (fun c0 => absurd ((cm_eq0 (X := v54.toInt) (Y := (u 3).toInt) rfl rfl).mpr (by omega)) c0) (fun c59 => ?_)
  refine lv_iconst (v := 1) hx hb dX0_askedIs_62 (by decide +kernel) ?_
  refine lv_goto (tgt := 67) hx hb dX0_askedIs_63 (by decide) ?_
  refine W.widen (k := 1) (n := 5) (Nat.le_of_ble_eq_true rfl) (Nat.le_of_ble_eq_true rfl) ?_
  exact W.zret (v := 1) hx hb hr rfl (fun t ht hW => ⟨⟨1, (), rfl, rfl, trivial⟩, hS.F ht⟩) hS.2.2 dX0_askedIs_67
end
section
/-! THE LAW'S FOUR CHECKS (printed by wip/D-29837w/gen/law2.py) -/
set_option maxRecDepth 100000
theorem nA0 {a sz : Nat} (h : a < sz) : ¬ va_A [] sz a := by
  intro q
  rcases q with ⟨k, e, q⟩ | q
  · simp at q
  · omega
section LOOP
variable {p : Program} {l : Launch} {e : Env} {R : Room} {s : State} {m : MethodId} {args : Array Value} {below : List Frame} {meth : Method} {c : Code} {H : Heap} {locs : List Loc} {cells slots : Nat} {Q : State → Prop}
/-- a loop: one turn, given all later turns -/
theorem w_loop {α : Type} {g0 : JFrame} (μ : α → Nat) (I : α → Array Slot → Prop) (g : α → Array Slot → JFrame) (hs : ∀ (a : α) (ls : Array Slot), I a ls → (∀ (a2 : α) (ls2 : Array Slot), I a2 ls2 → μ a2 < μ a → W p l e R s m args below meth c H locs cells slots Q (g a2 ls2)) → W p l e R s m args below meth c H locs cells slots Q (g a ls)) (k : (∀ (a : α) (ls : Array Slot), I a ls → W p l e R s m args below meth c H locs cells slots Q (g a ls)) → W p l e R s m args below meth c H locs cells slots Q g0) : W p l e R s m args below meth c H locs cells slots Q g0 := by
  refine k ?_
  have key : ∀ (n : Nat) (a : α) (ls : Array Slot), μ a < n → I a ls → W p l e R s m args below meth c H locs cells slots Q (g a ls) := by
    intro n
    induction n with
    | zero => intro a ls h; omega
    | succ n ih => intro a ls h hI; exact hs a ls hI (fun a2 ls2 h2 h3 => ih a2 ls2 (by omega) h2)
  exact fun a ls hI => key (μ a + 1) a ls (by omega) hI
end LOOP
set_option maxHeartbeats 4000000 in
set_option maxRecDepth 100000 in
/-- what is known of day 0: true -/
theorem metX0_known (l : Launch) (D : va_G) (k : Nat → Nat) (sz : Nat)   : Met l yX0_known (ws_ yX0_known cX0_known 1 (some .boolean)) ({ frames := 7, cells := 3, slots := 7, locals := 167 }) (va_Pc [] (al D k [] sz xT)) (va_Qi (fun (r : Int32) (u : Unit) => r = 1) (b0) (va_A [] sz)) 3 7 (va_A [] sz) := by
  refine Met.ofW (cc := cX0_known) (maxL := 1) (ret := (some .boolean)) (by decide +kernel) rfl ?_
  intro p e s mi args below me_ c s₁ B hml hv
  obtain ⟨rfl, hsz, hP, hK, hD0, hC, hX⟩ := hv
  have hx := B.exec
  have hb := B.bytes
  have hr := B.returns
  have hts := atoms_spec (ws := ws_ yX0_known cX0_known 1 (some .boolean)) B.pre
  have hts : ∀ w ∈ lw_all, w.before _ s = true := fun w h => hts w (List.mem_cons_of_mem _ h)
  have hown : s.vm.findClass RX0 = some mi.cls := findClass_of_methodNamed B.named
  have hlocks := B.notSynchronized
  have hl := lv_entry ([]) (n := 1) (Nat.le_of_ble_eq_true rfl)
  rw [lg_entry_eq]
  generalize (lg_sl ([]) ++ List.replicate (1 - (lg_sl ([])).length) Slot.unset).toArray = ls at hl ⊢
  have hl : lv_has ls 1 [] := hl
  subst hsz
  have hD := hD0.self (sz := s.heap.size)
  generalize hAe : va_A [] s.heap.size = A at hD hC hX ⊢
  have hA : ∀ q : Nat, s.heap.size ≤ q → A q := fun q h => by rw [← hAe]; exact Or.inr h
  have hS : va_S A s.heap s.heap [] := va_S.rf
  have hP : va_P D vwC [] s.heap := hP
  refine va_new (ci := 0) (fs := [.null]) (C := RX1) (T := TX1) (N := 1) hx hb hts in_X1 tyX1 tyX1_ok hown (hts _ q38) (hts _ q39) (hts _ q2) hK hP hD hS hA rfl (fun j hj => by rcases (show j = 0 by omega) with rfl <;> rfl) (Nat.le_of_ble_eq_true rfl) (Nat.le_of_ble_eq_true rfl) dX0_known_0 (fun qx H hP hD hS => ?_)
  have hP : va_P D vwC [(qx, .inr (0, [.null]))] H := hP
  have hD : va_D A [(qx, .inr (0, [.null]))] := hD
  refine W.widen (k := 1) (n := 1) (Nat.le_of_ble_eq_true rfl) (Nat.le_of_ble_eq_true rfl) ?_
  refine lv_dup hx hb dX0_known_3 rfl ?_
  have hPc := hP.sub (ws' := [(qx, .inr (0, [.null]))]) [0] rfl
  have hDc := hD.sub (ws' := [(qx, .inr (0, [.null]))]) [0] (by decide) rfl
  have hKc := hK.sub (tys' := []) [] rfl
  have hFc := va_free (wc := [(qx, .inr (0, [.null]))]) hD hS hA [0] rfl
  have hCc := cst_narrow (cst_kept hC hS.2.1) hFc
  refine va_callv (va_runI (As := []) (rest := [.ref qx]) ⟨hx, hb, hml, hown, hts⟩ (metX1_init l D k H.size qx) (cwI 0 hts (lw_meth q42) rfl rfl rfl (hts _ q2) (hts _ q40) (hts _ q41) rfl (by decide +kernel) ⟨Nat.le_of_ble_eq_true rfl, Nat.le_of_ble_eq_true rfl⟩) (aS_start (X := xT) xT_mv hPc hKc hDc hCc trivial) rfl rfl hl.1 rfl (lv_room (Nat.le_of_ble_eq_true rfl)) dX0_known_4 ⟨Nat.le_of_ble_eq_true rfl, Nat.le_of_ble_eq_true rfl⟩) hS (fun q _ h => hFc q h) hFc (fun u t H1 locs ht hvm hw hB hz1 hk1 hS => ?_)
  obtain ⟨y4, m4, d4⟩ := u
  obtain ⟨ad4, hP1, hK1, hD1⟩ := hB
  rw [ht] at hP1
  have hK1 := va_K.moved hvm.symm hK1
  have p4 : gd 0 y4 m4 d4 := hw
  obtain ⟨hP, hD⟩ := va_join (wr := []) (w1 := [(qx, .inr (0, [.ref ad4])), (ad4, .inr (1, [.int y4, .int m4, .int d4]))]) hP hD [0] [] rfl rfl (by decide) (by decide) hk1 hFc hP1 hD1
  have hK := (hK.sub (tys' := []) [] rfl).app hK1
  generalize H1 = H at hP hS ⊢
  have hP : va_P D vwC [(qx, .inr (0, [.ref ad4])), (ad4, .inr (1, [.int y4, .int m4, .int d4]))] H := hP
  have hD : va_D A [(qx, .inr (0, [.ref ad4])), (ad4, .inr (1, [.int y4, .int m4, .int d4]))] := hD
  have hK : va_K D vwC [] s := hK
  refine W.widen (k := 2) (n := 4) (Nat.le_of_ble_eq_true rfl) (Nat.le_of_ble_eq_true rfl) ?_
  refine lv_astore_n (lv' := [(0, .ref qx)]) hx hb dX0_known_7 rfl hl (by decide) rfl (fun ls hl => ?_)
  refine lv_aload_n hx hb dX0_known_8 rfl (lv_at hl 0 rfl) ?_
  refine lv_iconst (v := 0) hx hb dX0_known_9 (by decide +kernel) ?_
  refine lv_iconst (v := 0) hx hb dX0_known_10 (by decide +kernel) ?_
  have zj11 : (jn 0 0).toInt = 0 := by decide +kernel
  have hPc := hP.sub (ws' := [(qx, .inr (0, [.ref ad4])), (ad4, .inr (1, [.int y4, .int m4, .int d4]))]) [0, 1] rfl
  have hDc := hD.sub (ws' := [(qx, .inr (0, [.ref ad4])), (ad4, .inr (1, [.int y4, .int m4, .int d4]))]) [0, 1] (by decide) rfl
  have hKc := hK.sub (tys' := []) [] rfl
  have hFc := va_free (wc := [(qx, .inr (0, [.ref ad4])), (ad4, .inr (1, [.int y4, .int m4, .int d4]))]) hD hS hA [0, 1] rfl
  have hCc := cst_narrow (cst_kept hC hS.2.1) hFc
  refine va_calli (va_runV (As := [.int 0, .int 0]) (rest := []) ⟨hx, hb, hml, hown, hts⟩ (metX1_fromDay l D k H.size qx ad4 y4 m4 d4 0 0) (cwV 2 hts (lw_V q528 q529 q530 q2 q531) rfl rfl rfl (by decide +kernel) ⟨Nat.le_of_ble_eq_true rfl, Nat.le_of_ble_eq_true rfl⟩) (aV_start (X := xT) xT_mv (va_recv hKc hPc (ci := 0) (q0 := 0) rfl rfl) hPc hKc hDc hCc trivial) rfl rfl hl.1 rfl (lv_room (Nat.le_of_ble_eq_true rfl)) dX0_known_11 ⟨Nat.le_of_ble_eq_true rfl, Nat.le_of_ble_eq_true rfl⟩) hS (fun q _ h => hFc q h) hFc (fun r11 u t H1 locs ht hvm hw hB hz1 hk1 hS => ?_)
  obtain ⟨y11, m11, d11⟩ := u
  obtain ⟨ad11, hP1, hK1, hD1⟩ := hB
  rw [ht] at hP1
  have hK1 := va_K.moved hvm.symm hK1
  have p11 : (-365243219162 ≤ (jn 0 0).toInt ∧ (jn 0 0).toInt ≤ 365241780471 → r11 = 1 ∧ gd (jn 0 0).toInt y11 m11 d11) ∧ (¬ (-365243219162 ≤ (jn 0 0).toInt ∧ (jn 0 0).toInt ≤ 365241780471) → r11 = 0 ∧ (y11, m11, d11) = (y4, m4, d4)) := hw
  have w11 := p11.1 ⟨by rw [zj11]; omega, by rw [zj11]; omega⟩
  have hg11 : gd (0) y11 m11 d11 := by have e9 := w11.2; rw [zj11] at e9; exact e9
  obtain ⟨hP, hD⟩ := va_join (wr := []) (w1 := [(qx, .inr (0, [.ref ad11])), (ad11, .inr (1, [.int y11, .int m11, .int d11]))]) hP hD [0, 1] [] rfl rfl (by decide) (by decide) hk1 hFc hP1 hD1
  have hK := (hK.sub (tys' := []) [] rfl).app hK1
  generalize H1 = H at hP hS ⊢
  have hP : va_P D vwC [(qx, .inr (0, [.ref ad11])), (ad11, .inr (1, [.int y11, .int m11, .int d11]))] H := hP
  have hD : va_D A [(qx, .inr (0, [.ref ad11])), (ad11, .inr (1, [.int y11, .int m11, .int d11]))] := hD
  have hK : va_K D vwC [] s := hK
  refine W.widen (k := 3) (n := 7) (Nat.le_of_ble_eq_true rfl) (Nat.le_of_ble_eq_true rfl) ?_
  have z11 : 1 = r11 := w11.1.symm
  subst z11
  obtain ⟨hy9, hm9, hd9⟩ := ca_uniq hg11.1 ca_D0
  have hc9 : ca_cum (ca_L y11.toInt) m11.toInt = 0 := by rw [hm9]; rfl
  have hL9 : ca_L y11.toInt = 0 := by rw [hy9]; decide +kernel
  have hl9 : ca_ln (ca_L y11.toInt) m11.toInt = 31 := by rw [hm9]; rfl
  refine lv_if_eq (tgt := 67) hx hb dX0_known_14 (by decide) (fun c0 => absurd ((ic_eq (X := 1) (Y := 0) (by decide +kernel) (by decide +kernel)).mp c0) (by decide)) (fun c14 => ?_)
  refine lv_aload_n hx hb dX0_known_17 rfl (lv_at hl 0 rfl) ?_
  have g18 : fCD k qx ad11 y11 m11 d11 s H := ⟨cst_narrow (cst_kept hC hS.2.1) (fF_no _), dc_cell hts hK hP 0 1 rfl rfl (fun h => h) (fun h => h)⟩
  refine vp_callSi (W.runV (As := []) (rest := []) ⟨hx, hb, hml, hown, hts⟩ (metX1_year l k qx ad11 y11 m11 d11) (cwV 0 hts (lw_V q535 q536 q537 q2 q538) rfl rfl rfl (by decide +kernel) ⟨Nat.le_of_ble_eq_true rfl, Nat.le_of_ble_eq_true rfl⟩) (pV_start (F := fCD k qx ad11 y11 m11 d11) fCD_mv (cs_recv (g18.2.1.1)) g18) rfl rfl hl.1 rfl (lv_room (Nat.le_of_ble_eq_true rfl)) dX0_known_18 ⟨Nat.le_of_ble_eq_true rfl, Nat.le_of_ble_eq_true rfl⟩) (fun r18 pr18 => ?_)
  have pr18 : r18 = y11 := pr18
  have pr18 := pr18.symm
  subst pr18
  refine lv_sipush (v := 1970) hx hb dX0_known_21 (by decide +kernel) ?_
  refine lv_icmp_ne (tgt := 67) hx hb dX0_known_24 (by decide) (fun c0 => absurd ((ic_eq (X := y11.toInt) (Y := 1970) rfl (by decide +kernel)).mpr (by omega)) c0) (fun c24 => ?_)
  refine lv_aload_n hx hb dX0_known_27 rfl (lv_at hl 0 rfl) ?_
  have g28 : fCD k qx ad11 y11 m11 d11 s H := ⟨cst_narrow (cst_kept hC hS.2.1) (fF_no _), dc_cell hts hK hP 0 1 rfl rfl (fun h => h) (fun h => h)⟩
  refine vp_callSi (W.runV (As := []) (rest := []) ⟨hx, hb, hml, hown, hts⟩ (metX1_month l k qx ad11 y11 m11 d11) (cwV 0 hts (lw_V q543 q544 q545 q2 q546) rfl rfl rfl (by decide +kernel) ⟨Nat.le_of_ble_eq_true rfl, Nat.le_of_ble_eq_true rfl⟩) (pV_start (F := fCD k qx ad11 y11 m11 d11) fCD_mv (cs_recv (g28.2.1.1)) g28) rfl rfl hl.1 rfl (lv_room (Nat.le_of_ble_eq_true rfl)) dX0_known_28 ⟨Nat.le_of_ble_eq_true rfl, Nat.le_of_ble_eq_true rfl⟩) (fun r28 pr28 => ?_)
  have pr28 : r28 = m11 := pr28
  have pr28 := pr28.symm
  subst pr28
  refine lv_iconst (v := 1) hx hb dX0_known_31 (by decide +kernel) ?_
  refine lv_icmp_ne (tgt := 67) hx hb dX0_known_32 (by decide) (fun c0 => absurd ((ic_eq (X := m11.toInt) (Y := 1) rfl (by decide +kernel)).mpr (by omega)) c0) (fun c32 => ?_)
  refine lv_aload_n hx hb dX0_known_35 rfl (lv_at hl 0 rfl) ?_
  have g36 : fCD k qx ad11 y11 m11 d11 s H := ⟨cst_narrow (cst_kept hC hS.2.1) (fF_no _), dc_cell hts hK hP 0 1 rfl rfl (fun h => h) (fun h => h)⟩
  refine vp_callSi (W.runV (As := []) (rest := []) ⟨hx, hb, hml, hown, hts⟩ (metX1_dayOfMonth l k qx ad11 y11 m11 d11) (cwV 0 hts (lw_V q551 q552 q553 q2 q554) rfl rfl rfl (by decide +kernel) ⟨Nat.le_of_ble_eq_true rfl, Nat.le_of_ble_eq_true rfl⟩) (pV_start (F := fCD k qx ad11 y11 m11 d11) fCD_mv (cs_recv (g36.2.1.1)) g36) rfl rfl hl.1 rfl (lv_room (Nat.le_of_ble_eq_true rfl)) dX0_known_36 ⟨Nat.le_of_ble_eq_true rfl, Nat.le_of_ble_eq_true rfl⟩) (fun r36 pr36 => ?_)
  have pr36 : r36 = d11 := pr36
  have pr36 := pr36.symm
  subst pr36
  refine lv_iconst (v := 1) hx hb dX0_known_39 (by decide +kernel) ?_
  refine lv_icmp_ne (tgt := 67) hx hb dX0_known_40 (by decide) (fun c0 => absurd ((ic_eq (X := d11.toInt) (Y := 1) rfl (by decide +kernel)).mpr (by omega)) c0) (fun c40 => ?_)
  refine lv_aload_n hx hb dX0_known_43 rfl (lv_at hl 0 rfl) ?_
  have g44 : fCD k qx ad11 y11 m11 d11 s H := ⟨cst_narrow (cst_kept hC hS.2.1) (fF_no _), dc_cell hts hK hP 0 1 rfl rfl (fun h => h) (fun h => h)⟩
  refine vp_callSi (W.runV (As := []) (rest := []) ⟨hx, hb, hml, hown, hts⟩ (metX1_dayOfYear l k qx ad11 y11 m11 d11 (0) hg11) (cwV 0 hts (lw_V q559 q560 q561 q2 q562) rfl rfl rfl (by decide +kernel) ⟨Nat.le_of_ble_eq_true rfl, Nat.le_of_ble_eq_true rfl⟩) (pV_start (F := fCD k qx ad11 y11 m11 d11) fCD_mv (cs_recv (g44.2.1.1)) g44) rfl rfl hl.1 rfl (lv_room (Nat.le_of_ble_eq_true rfl)) dX0_known_44 ⟨Nat.le_of_ble_eq_true rfl, Nat.le_of_ble_eq_true rfl⟩) (fun r44 pr44 => ?_)
  have pr44 : r44.toInt = ca_cum (ca_L y11.toInt) m11.toInt + d11.toInt := pr44
  refine lv_iconst (v := 1) hx hb dX0_known_47 (by decide +kernel) ?_
  refine lv_icmp_ne (tgt := 67) hx hb dX0_known_48 (by decide) (fun c0 => absurd ((ic_eq (X := r44.toInt) (Y := 1) rfl (by decide +kernel)).mpr (by omega)) c0) (fun c48 => ?_)
  refine lv_aload_n hx hb dX0_known_51 rfl (lv_at hl 0 rfl) ?_
  have g52 : fCD k qx ad11 y11 m11 d11 s H := ⟨cst_narrow (cst_kept hC hS.2.1) (fF_no _), dc_cell hts hK hP 0 1 rfl rfl (fun h => h) (fun h => h)⟩
  refine vp_callSi (W.runV (As := []) (rest := []) ⟨hx, hb, hml, hown, hts⟩ (metX1_leap l k qx ad11 y11 m11 d11) (cwV 0 hts (lw_V q627 q628 q629 q2 q630) rfl rfl rfl (by decide +kernel) ⟨Nat.le_of_ble_eq_true rfl, Nat.le_of_ble_eq_true rfl⟩) (pV_start (F := fCD k qx ad11 y11 m11 d11) fCD_mv (cs_recv (g52.2.1.1)) g52) rfl rfl hl.1 rfl (lv_room (Nat.le_of_ble_eq_true rfl)) dX0_known_52 ⟨Nat.le_of_ble_eq_true rfl, Nat.le_of_ble_eq_true rfl⟩) (fun r52 pr52 => ?_)
  have pr52 : r52 = lB y11.toInt := pr52
  have pr52 := pr52.symm
  subst pr52
  refine lv_if_ne (tgt := 67) hx hb dX0_known_55 (by decide) (fun c0 => absurd ((ic_eq (X := (ca_L y11.toInt)) (Y := 0) (lB_I _) (by decide +kernel)).mpr (by omega)) c0) (fun c55 => ?_)
  refine lv_aload_n hx hb dX0_known_58 rfl (lv_at hl 0 rfl) ?_
  have g59 : fCD k qx ad11 y11 m11 d11 s H := ⟨cst_narrow (cst_kept hC hS.2.1) (fF_no _), dc_cell hts hK hP 0 1 rfl rfl (fun h => h) (fun h => h)⟩
  refine vp_callSi (W.runV (As := []) (rest := []) ⟨hx, hb, hml, hown, hts⟩ (metX1_monthLength l k qx ad11 y11 m11 d11 (0) hg11) (cwV 0 hts (lw_V q632 q633 q634 q2 q635) rfl rfl rfl (by decide +kernel) ⟨Nat.le_of_ble_eq_true rfl, Nat.le_of_ble_eq_true rfl⟩) (pV_start (F := fCD k qx ad11 y11 m11 d11) fCD_mv (cs_recv (g59.2.1.1)) g59) rfl rfl hl.1 rfl (lv_room (Nat.le_of_ble_eq_true rfl)) dX0_known_59 ⟨Nat.le_of_ble_eq_true rfl, Nat.le_of_ble_eq_true rfl⟩) (fun r59 pr59 => ?_)
  have pr59 : r59.toInt = ca_ln (ca_L y11.toInt) m11.toInt := pr59
  refine lv_bipush (v := 31) hx hb dX0_known_62 (by decide +kernel) ?_
  refine lv_icmp_eq (tgt := 69) hx hb dX0_known_64 (by decide) (fun c64 => ?_) (fun c0 => absurd ((ic_eq (X := r59.toInt) (Y := 31) rfl (by decide +kernel)).mpr (by omega)) c0)
  refine lv_iconst (v := 1) hx hb dX0_known_69 (by decide +kernel) ?_
  refine W.widen (k := 3) (n := 7) (Nat.le_of_ble_eq_true rfl) (Nat.le_of_ble_eq_true rfl) ?_
  exact W.zret (v := 1) hx hb hr rfl (fun t ht hW => ⟨⟨1, (), rfl, rfl, trivial⟩, hS.F ht⟩) hS.2.2 dX0_known_70
set_option maxHeartbeats 4000000 in
set_option maxRecDepth 100000 in
/-- askedNear: true -/
theorem metX0_askedNear (l : Launch) (D : va_G) (k : Nat → Nat) (sz : Nat) (a : Int32)  : Met l yX0_askedNear (ws_ yX0_askedNear cX0_askedNear 2 (some .boolean)) ({ frames := 7, cells := 6, slots := 20, locals := 164 }) (va_Pc [.int a] (al D k [] sz xT)) (va_Qi (fun (r : Int32) (u : Unit) => r = 1) (b0) (va_A [] sz)) 6 20 (va_A [] sz) := by
  refine Met.ofW (cc := cX0_askedNear) (maxL := 2) (ret := (some .boolean)) (by decide +kernel) rfl ?_
  intro p e s mi args below me_ c s₁ B hml hv
  obtain ⟨rfl, hsz, hP, hK, hD0, hC, hX⟩ := hv
  have hx := B.exec
  have hb := B.bytes
  have hr := B.returns
  have hts := atoms_spec (ws := ws_ yX0_askedNear cX0_askedNear 2 (some .boolean)) B.pre
  have hts : ∀ w ∈ lw_all, w.before _ s = true := fun w h => hts w (List.mem_cons_of_mem _ h)
  have hown : s.vm.findClass RX0 = some mi.cls := findClass_of_methodNamed B.named
  have hlocks := B.notSynchronized
  have hl := lv_entry ([.int a]) (n := 2) (Nat.le_of_ble_eq_true rfl)
  rw [lg_entry_eq]
  generalize (lg_sl ([.int a]) ++ List.replicate (2 - (lg_sl ([.int a])).length) Slot.unset).toArray = ls at hl ⊢
  have hl : lv_has ls 2 [(0, .int a)] := hl
  subst hsz
  have hD := hD0.self (sz := s.heap.size)
  generalize hAe : va_A [] s.heap.size = A at hD hC hX ⊢
  have hA : ∀ q : Nat, s.heap.size ≤ q → A q := fun q h => by rw [← hAe]; exact Or.inr h
  have hS : va_S A s.heap s.heap [] := va_S.rf
  have hP : va_P D vwC [] s.heap := hP
  have hra := ii_rng a
  refine va_new (ci := 0) (fs := [.null]) (C := RX1) (T := TX1) (N := 1) hx hb hts in_X1 tyX1 tyX1_ok hown (hts _ q38) (hts _ q39) (hts _ q2) hK hP hD hS hA rfl (fun j hj => by rcases (show j = 0 by omega) with rfl <;> rfl) (Nat.le_of_ble_eq_true rfl) (Nat.le_of_ble_eq_true rfl) dX0_askedNear_0 (fun qx H hP hD hS => ?_)
  have hP : va_P D vwC [(qx, .inr (0, [.null]))] H := hP
  have hD : va_D A [(qx, .inr (0, [.null]))] := hD
  refine W.widen (k := 1) (n := 1) (Nat.le_of_ble_eq_true rfl) (Nat.le_of_ble_eq_true rfl) ?_
  refine lv_dup hx hb dX0_askedNear_3 rfl ?_
  have hPc := hP.sub (ws' := [(qx, .inr (0, [.null]))]) [0] rfl
  have hDc := hD.sub (ws' := [(qx, .inr (0, [.null]))]) [0] (by decide) rfl
  have hKc := hK.sub (tys' := []) [] rfl
  have hFc := va_free (wc := [(qx, .inr (0, [.null]))]) hD hS hA [0] rfl
  have hCc := cst_narrow (cst_kept hC hS.2.1) hFc
  refine va_callv (va_runI (As := []) (rest := [.ref qx]) ⟨hx, hb, hml, hown, hts⟩ (metX1_init l D k H.size qx) (cwI 0 hts (lw_meth q42) rfl rfl rfl (hts _ q2) (hts _ q40) (hts _ q41) rfl (by decide +kernel) ⟨Nat.le_of_ble_eq_true rfl, Nat.le_of_ble_eq_true rfl⟩) (aS_start (X := xT) xT_mv hPc hKc hDc hCc trivial) rfl rfl hl.1 rfl (lv_room (Nat.le_of_ble_eq_true rfl)) dX0_askedNear_4 ⟨Nat.le_of_ble_eq_true rfl, Nat.le_of_ble_eq_true rfl⟩) hS (fun q _ h => hFc q h) hFc (fun u t H1 locs ht hvm hw hB hz1 hk1 hS => ?_)
  obtain ⟨y4, m4, d4⟩ := u
  obtain ⟨ad4, hP1, hK1, hD1⟩ := hB
  rw [ht] at hP1
  have hK1 := va_K.moved hvm.symm hK1
  have p4 : gd 0 y4 m4 d4 := hw
  obtain ⟨hP, hD⟩ := va_join (wr := []) (w1 := [(qx, .inr (0, [.ref ad4])), (ad4, .inr (1, [.int y4, .int m4, .int d4]))]) hP hD [0] [] rfl rfl (by decide) (by decide) hk1 hFc hP1 hD1
  have hK := (hK.sub (tys' := []) [] rfl).app hK1
  generalize H1 = H at hP hS ⊢
  have hP : va_P D vwC [(qx, .inr (0, [.ref ad4])), (ad4, .inr (1, [.int y4, .int m4, .int d4]))] H := hP
  have hD : va_D A [(qx, .inr (0, [.ref ad4])), (ad4, .inr (1, [.int y4, .int m4, .int d4]))] := hD
  have hK : va_K D vwC [] s := hK
  refine W.widen (k := 2) (n := 4) (Nat.le_of_ble_eq_true rfl) (Nat.le_of_ble_eq_true rfl) ?_
  refine lv_astore_n (lv' := [(1, .ref qx), (0, .int a)]) hx hb dX0_askedNear_7 rfl hl (by decide) rfl (fun ls hl => ?_)
  refine lv_aload_n hx hb dX0_askedNear_8 rfl (lv_at hl 0 rfl) ?_
  refine lv_iload_n hx hb dX0_askedNear_9 rfl (lv_at hl 1 rfl) ?_
  have hPc := hP.sub (ws' := [(qx, .inr (0, [.ref ad4])), (ad4, .inr (1, [.int y4, .int m4, .int d4]))]) [0, 1] rfl
  have hDc := hD.sub (ws' := [(qx, .inr (0, [.ref ad4])), (ad4, .inr (1, [.int y4, .int m4, .int d4]))]) [0, 1] (by decide) rfl
  have hKc := hK.sub (tys' := []) [] rfl
  have hFc := va_free (wc := [(qx, .inr (0, [.ref ad4])), (ad4, .inr (1, [.int y4, .int m4, .int d4]))]) hD hS hA [0, 1] rfl
  have hCc := cst_narrow (cst_kept hC hS.2.1) hFc
  refine va_calli (va_runV (As := [.int a]) (rest := []) ⟨hx, hb, hml, hown, hts⟩ (metX1_near l D k H.size qx ad4 y4 m4 d4 a) (cwV 1 hts (lw_V q667 q668 q669 q2 q670) rfl rfl rfl (by decide +kernel) ⟨Nat.le_of_ble_eq_true rfl, Nat.le_of_ble_eq_true rfl⟩) (aV_start (X := xT) xT_mv (va_recv hKc hPc (ci := 0) (q0 := 0) rfl rfl) hPc hKc hDc hCc trivial) rfl rfl hl.1 rfl (lv_room (Nat.le_of_ble_eq_true rfl)) dX0_askedNear_10 ⟨Nat.le_of_ble_eq_true rfl, Nat.le_of_ble_eq_true rfl⟩) hS (fun q _ h => hFc q h) hFc (fun r10 u t H1 locs ht hvm hw hB hz1 hk1 hS => ?_)
  obtain ⟨y10, m10, d10⟩ := u
  obtain ⟨ad10, hP1, hK1, hD1⟩ := hB
  rw [ht] at hP1
  have hK1 := va_K.moved hvm.symm hK1
  have p10 : r10 = 1 ∧ gd a.toInt y10 m10 d10 := hw
  have hg10 := p10.2
  obtain ⟨hP, hD⟩ := va_join (wr := []) (w1 := [(qx, .inr (0, [.ref ad10])), (ad10, .inr (1, [.int y10, .int m10, .int d10]))]) hP hD [0, 1] [] rfl rfl (by decide) (by decide) hk1 hFc hP1 hD1
  have hK := (hK.sub (tys' := []) [] rfl).app hK1
  generalize H1 = H at hP hS ⊢
  have hP : va_P D vwC [(qx, .inr (0, [.ref ad10])), (ad10, .inr (1, [.int y10, .int m10, .int d10]))] H := hP
  have hD : va_D A [(qx, .inr (0, [.ref ad10])), (ad10, .inr (1, [.int y10, .int m10, .int d10]))] := hD
  have hK : va_K D vwC [] s := hK
  refine W.widen (k := 3) (n := 7) (Nat.le_of_ble_eq_true rfl) (Nat.le_of_ble_eq_true rfl) ?_
  have z10 : 1 = r10 := p10.1.symm
  subst z10
  refine lv_if_eq (tgt := 45) hx hb dX0_askedNear_13 (by decide) (fun c0 => absurd ((ic_eq (X := 1) (Y := 0) (by decide +kernel) (by decide +kernel)).mp c0) (by decide)) (fun c13 => ?_)
  refine lv_aload_n hx hb dX0_askedNear_16 rfl (lv_at hl 0 rfl) ?_
  refine lv_iload_n hx hb dX0_askedNear_17 rfl (lv_at hl 1 rfl) ?_
  refine lv_i2l (v := (a).toInt64) hx hb dX0_askedNear_18 rfl ?_
  refine lv_topl (fun v18 ev18 => ?_)
  have tv18 : v18.toInt = a.toInt := ll_i2l ev18 rfl
  have hPc := hP.sub (ws' := []) [] rfl
  have hDc := hD.sub (ws' := []) [] (by decide) rfl
  have hKc := hK.sub (tys' := []) [] rfl
  have hFc := va_free (wc := []) hD hS hA [] rfl
  have hCc := cst_narrow (cst_kept hC hS.2.1) hFc
  refine va_calli (va_runS (As := [.ref qx, .long v18]) (rest := []) ⟨hx, hb, hml, hown, hts⟩ (metX0_askedIs l D k H.size qx ad10 y10 m10 d10 v18 (by omega) (by omega) (by rw [tv18]; exact hg10)) (va_cwS 2 hts (lw_S q671 q672 q1 q673) rfl rfl rfl (by decide +kernel) ⟨Nat.le_of_ble_eq_true rfl, Nat.le_of_ble_eq_true rfl⟩) (aS_start (X := (fDC qx ad10 y10 m10 d10)) (fun _ => fDC_mv) hPc hKc hDc hCc (dc_cell hts hK hP 0 1 rfl rfl (nA0 (hP 0 _ rfl).lt) (nA0 (hP 1 _ rfl).lt))) rfl rfl hl.1 rfl (lv_room (Nat.le_of_ble_eq_true rfl)) dX0_askedNear_19 ⟨Nat.le_of_ble_eq_true rfl, Nat.le_of_ble_eq_true rfl⟩) hS (fun q _ h => hFc q h) hFc (fun r19 u t H1 locs ht hvm hw hB hz1 hk1 hS => ?_)
  have hP1 : va_P D vwC [] H1 := vP0
  have hD1 : va_D (va_A [] H.size) [] := vD0
  have hK1 := hKc
  have p19 : r19 = 1 := hw
  obtain ⟨hP, hD⟩ := va_join (wr := [(qx, .inr (0, [.ref ad10])), (ad10, .inr (1, [.int y10, .int m10, .int d10]))]) (w1 := []) hP hD [] [0, 1] rfl rfl (by decide) (by decide) hk1 hFc hP1 hD1
  have hK := (hK.sub (tys' := []) [] rfl).app hK1
  generalize H1 = H at hP hS ⊢
  have hP : va_P D vwC [(qx, .inr (0, [.ref ad10])), (ad10, .inr (1, [.int y10, .int m10, .int d10]))] H := hP
  have hD : va_D A [(qx, .inr (0, [.ref ad10])), (ad10, .inr (1, [.int y10, .int m10, .int d10]))] := hD
  have hK : va_K D vwC [] s := hK
  refine W.widen (k := 4) (n := 12) (Nat.le_of_ble_eq_true rfl) (Nat.le_of_ble_eq_true rfl) ?_
  have z19 : 1 = r19 := p19.symm
  subst z19
  refine lv_if_eq (tgt := 45) hx hb dX0_askedNear_22 (by decide) (fun c0 => absurd ((ic_eq (X := 1) (Y := 0) (by decide +kernel) (by decide +kernel)).mp c0) (by decide)) (fun c22 => ?_)
  refine lv_aload_n hx hb dX0_askedNear_25 rfl (lv_at hl 0 rfl) ?_
  refine lv_iconst (v := 0) hx hb dX0_askedNear_26 (by decide +kernel) ?_
  have hPc := hP.sub (ws' := [(qx, .inr (0, [.ref ad10])), (ad10, .inr (1, [.int y10, .int m10, .int d10]))]) [0, 1] rfl
  have hDc := hD.sub (ws' := [(qx, .inr (0, [.ref ad10])), (ad10, .inr (1, [.int y10, .int m10, .int d10]))]) [0, 1] (by decide) rfl
  have hKc := hK.sub (tys' := []) [] rfl
  have hFc := va_free (wc := [(qx, .inr (0, [.ref ad10])), (ad10, .inr (1, [.int y10, .int m10, .int d10]))]) hD hS hA [0, 1] rfl
  have hCc := cst_narrow (cst_kept hC hS.2.1) hFc
  refine va_calli (va_runV (As := [.int 0]) (rest := []) ⟨hx, hb, hml, hown, hts⟩ (metX1_near l D k H.size qx ad10 y10 m10 d10 0) (cwV 1 hts (lw_V q667 q668 q669 q2 q670) rfl rfl rfl (by decide +kernel) ⟨Nat.le_of_ble_eq_true rfl, Nat.le_of_ble_eq_true rfl⟩) (aV_start (X := xT) xT_mv (va_recv hKc hPc (ci := 0) (q0 := 0) rfl rfl) hPc hKc hDc hCc trivial) rfl rfl hl.1 rfl (lv_room (Nat.le_of_ble_eq_true rfl)) dX0_askedNear_27 ⟨Nat.le_of_ble_eq_true rfl, Nat.le_of_ble_eq_true rfl⟩) hS (fun q _ h => hFc q h) hFc (fun r27 u t H1 locs ht hvm hw hB hz1 hk1 hS => ?_)
  obtain ⟨y27, m27, d27⟩ := u
  obtain ⟨ad27, hP1, hK1, hD1⟩ := hB
  rw [ht] at hP1
  have hK1 := va_K.moved hvm.symm hK1
  have p27 : r27 = 1 ∧ gd (0 : Int32).toInt y27 m27 d27 := hw
  have hg27 := p27.2
  obtain ⟨hP, hD⟩ := va_join (wr := []) (w1 := [(qx, .inr (0, [.ref ad27])), (ad27, .inr (1, [.int y27, .int m27, .int d27]))]) hP hD [0, 1] [] rfl rfl (by decide) (by decide) hk1 hFc hP1 hD1
  have hK := (hK.sub (tys' := []) [] rfl).app hK1
  generalize H1 = H at hP hS ⊢
  have hP : va_P D vwC [(qx, .inr (0, [.ref ad27])), (ad27, .inr (1, [.int y27, .int m27, .int d27]))] H := hP
  have hD : va_D A [(qx, .inr (0, [.ref ad27])), (ad27, .inr (1, [.int y27, .int m27, .int d27]))] := hD
  have hK : va_K D vwC [] s := hK
  refine W.widen (k := 5) (n := 15) (Nat.le_of_ble_eq_true rfl) (Nat.le_of_ble_eq_true rfl) ?_
  have z27 : 1 = r27 := p27.1.symm
  subst z27
  have z0l : (0 : Int64).toInt = 0 := by decide +kernel
  have z0i : (0 : Int32).toInt = 0 := by decide +kernel
  rw [z0i] at hg27
  refine lv_if_eq (tgt := 45) hx hb dX0_askedNear_30 (by decide) (fun c0 => absurd ((ic_eq (X := 1) (Y := 0) (by decide +kernel) (by decide +kernel)).mp c0) (by decide)) (fun c30 => ?_)
  refine lv_aload_n hx hb dX0_askedNear_33 rfl (lv_at hl 0 rfl) ?_
  refine lv_lconst (v := 0) hx hb dX0_askedNear_34 (by decide +kernel) ?_
  have hPc := hP.sub (ws' := []) [] rfl
  have hDc := hD.sub (ws' := []) [] (by decide) rfl
  have hKc := hK.sub (tys' := []) [] rfl
  have hFc := va_free (wc := []) hD hS hA [] rfl
  have hCc := cst_narrow (cst_kept hC hS.2.1) hFc
  refine va_calli (va_runS (As := [.ref qx, .long 0]) (rest := []) ⟨hx, hb, hml, hown, hts⟩ (metX0_askedIs l D k H.size qx ad27 y27 m27 d27 0 (by omega) (by omega) (by rw [z0l]; exact hg27)) (va_cwS 2 hts (lw_S q671 q672 q1 q673) rfl rfl rfl (by decide +kernel) ⟨Nat.le_of_ble_eq_true rfl, Nat.le_of_ble_eq_true rfl⟩) (aS_start (X := (fDC qx ad27 y27 m27 d27)) (fun _ => fDC_mv) hPc hKc hDc hCc (dc_cell hts hK hP 0 1 rfl rfl (nA0 (hP 0 _ rfl).lt) (nA0 (hP 1 _ rfl).lt))) rfl rfl hl.1 rfl (lv_room (Nat.le_of_ble_eq_true rfl)) dX0_askedNear_35 ⟨Nat.le_of_ble_eq_true rfl, Nat.le_of_ble_eq_true rfl⟩) hS (fun q _ h => hFc q h) hFc (fun r35 u t H1 locs ht hvm hw hB hz1 hk1 hS => ?_)
  have hP1 : va_P D vwC [] H1 := vP0
  have hD1 : va_D (va_A [] H.size) [] := vD0
  have hK1 := hKc
  have p35 : r35 = 1 := hw
  obtain ⟨hP, hD⟩ := va_join (wr := [(qx, .inr (0, [.ref ad27])), (ad27, .inr (1, [.int y27, .int m27, .int d27]))]) (w1 := []) hP hD [] [0, 1] rfl rfl (by decide) (by decide) hk1 hFc hP1 hD1
  have hK := (hK.sub (tys' := []) [] rfl).app hK1
  generalize H1 = H at hP hS ⊢
  have hP : va_P D vwC [(qx, .inr (0, [.ref ad27])), (ad27, .inr (1, [.int y27, .int m27, .int d27]))] H := hP
  have hD : va_D A [(qx, .inr (0, [.ref ad27])), (ad27, .inr (1, [.int y27, .int m27, .int d27]))] := hD
  have hK : va_K D vwC [] s := hK
  refine W.widen (k := 6) (n := 20) (Nat.le_of_ble_eq_true rfl) (Nat.le_of_ble_eq_true rfl) ?_
  have z35 : 1 = r35 := p35.symm
  subst z35
  refine lv_if_eq (tgt := 45) hx hb dX0_askedNear_38 (by decide) (fun c0 => absurd ((ic_eq (X := 1) (Y := 0) (by decide +kernel) (by decide +kernel)).mp c0) (by decide)) (fun c38 => ?_)
  refine lv_iconst (v := 1) hx hb dX0_askedNear_41 (by decide +kernel) ?_
  refine lv_goto (tgt := 46) hx hb dX0_askedNear_42 (by decide) ?_
  refine W.widen (k := 6) (n := 20) (Nat.le_of_ble_eq_true rfl) (Nat.le_of_ble_eq_true rfl) ?_
  exact W.zret (v := 1) hx hb hr rfl (fun t ht hW => ⟨⟨1, (), rfl, rfl, trivial⟩, hS.F ht⟩) hS.2.2 dX0_askedNear_46
set_option maxHeartbeats 4000000 in
set_option maxRecDepth 100000 in
/-- askedPlain: true -/
theorem metX0_askedPlain (l : Launch) (D : va_G) (k : Nat → Nat) (sz : Nat) (a b : Int32)  : Met l yX0_askedPlain (ws_ yX0_askedPlain cX0_askedPlain 5 (some .boolean)) ({ frames := 7, cells := 4, slots := 12, locals := 167 }) (va_Pc [.int a, .int b] (al D k [] sz xT)) (va_Qi (fun (r : Int32) (u : Unit) => r = 1) (b0) (va_A [] sz)) 4 12 (va_A [] sz) := by
  refine Met.ofW (cc := cX0_askedPlain) (maxL := 5) (ret := (some .boolean)) (by decide +kernel) rfl ?_
  intro p e s mi args below me_ c s₁ B hml hv
  obtain ⟨rfl, hsz, hP, hK, hD0, hC, hX⟩ := hv
  have hx := B.exec
  have hb := B.bytes
  have hr := B.returns
  have hts := atoms_spec (ws := ws_ yX0_askedPlain cX0_askedPlain 5 (some .boolean)) B.pre
  have hts : ∀ w ∈ lw_all, w.before _ s = true := fun w h => hts w (List.mem_cons_of_mem _ h)
  have hown : s.vm.findClass RX0 = some mi.cls := findClass_of_methodNamed B.named
  have hlocks := B.notSynchronized
  have hl := lv_entry ([.int a, .int b]) (n := 5) (Nat.le_of_ble_eq_true rfl)
  rw [lg_entry_eq]
  generalize (lg_sl ([.int a, .int b]) ++ List.replicate (5 - (lg_sl ([.int a, .int b])).length) Slot.unset).toArray = ls at hl ⊢
  have hl : lv_has ls 5 [(0, .int a), (1, .int b)] := hl
  subst hsz
  have hD := hD0.self (sz := s.heap.size)
  generalize hAe : va_A [] s.heap.size = A at hD hC hX ⊢
  have hA : ∀ q : Nat, s.heap.size ≤ q → A q := fun q h => by rw [← hAe]; exact Or.inr h
  have hS : va_S A s.heap s.heap [] := va_S.rf
  have hP : va_P D vwC [] s.heap := hP
  have hrb := ii_rng b
  refine lv_iload_n hx hb dX0_askedPlain_0 rfl (lv_at hl 0 rfl) ?_
  refine lv_i2l (v := (a).toInt64) hx hb dX0_askedPlain_1 rfl ?_
  refine lv_topl (fun v1 ev1 => ?_)
  have tv1 : v1.toInt = a.toInt := ll_i2l ev1 rfl
  refine lv_bipush (v := 32) hx hb dX0_askedPlain_2 (by decide +kernel) ?_
  refine lv_lshl (v := (v1 : Int64) <<< ((32 : Int32).toInt64 &&& 63)) hx hb dX0_askedPlain_4 rfl ?_
  refine lv_topl (fun v4 ev4 => ?_)
  refine lv_iload_n hx hb dX0_askedPlain_5 rfl (lv_at hl 1 rfl) ?_
  refine lv_i2l (v := (b).toInt64) hx hb dX0_askedPlain_6 rfl ?_
  refine lv_topl (fun v6 ev6 => ?_)
  have tv6 : v6.toInt = b.toInt := ll_i2l ev6 rfl
  refine lv_ldc2 (v := 4294967295) hx hb hown (hts _ q640) dX0_askedPlain_7 ?_
  refine lv_land hx hb dX0_askedPlain_10 ?_
  refine lv_topl (fun v10 ev10 => ?_)
  refine lv_lor hx hb dX0_askedPlain_11 ?_
  refine lv_topl (fun v11 ev11 => ?_)
  refine lv_lstore_n (lv' := [(2, .long v11), (0, .int a), (1, .int b)]) hx hb dX0_askedPlain_12 rfl hl (by decide) rfl (fun ls hl => ?_)
  refine w_cut (α := Int64) (fun a9 ls => lv_has ls 5 [(2, .long a9), (0, .int a), (1, .int b)] ∧ -365243219162 ≤ a9.toInt ∧ a9.toInt ≤ 365241780471) (fun a ls => F0 mi 32 ls []) ?_ ?_
  · rintro n ls ⟨hl, hn1, hn2⟩
    refine va_new (ci := 0) (fs := [.null]) (C := RX1) (T := TX1) (N := 1) hx hb hts in_X1 tyX1 tyX1_ok hown (hts _ q38) (hts _ q39) (hts _ q2) hK hP hD hS hA rfl (fun j hj => by rcases (show j = 0 by omega) with rfl <;> rfl) (Nat.le_of_ble_eq_true rfl) (Nat.le_of_ble_eq_true rfl) dX0_askedPlain_32 (fun qx H hP hD hS => ?_)
    have hP : va_P D vwC [(qx, .inr (0, [.null]))] H := hP
    have hD : va_D A [(qx, .inr (0, [.null]))] := hD
    refine W.widen (k := 1) (n := 1) (Nat.le_of_ble_eq_true rfl) (Nat.le_of_ble_eq_true rfl) ?_
    refine lv_dup hx hb dX0_askedPlain_35 rfl ?_
    have hPc := hP.sub (ws' := [(qx, .inr (0, [.null]))]) [0] rfl
    have hDc := hD.sub (ws' := [(qx, .inr (0, [.null]))]) [0] (by decide) rfl
    have hKc := hK.sub (tys' := []) [] rfl
    have hFc := va_free (wc := [(qx, .inr (0, [.null]))]) hD hS hA [0] rfl
    have hCc := cst_narrow (cst_kept hC hS.2.1) hFc
    refine va_callv (va_runI (As := []) (rest := [.ref qx]) ⟨hx, hb, hml, hown, hts⟩ (metX1_init l D k H.size qx) (cwI 0 hts (lw_meth q42) rfl rfl rfl (hts _ q2) (hts _ q40) (hts _ q41) rfl (by decide +kernel) ⟨Nat.le_of_ble_eq_true rfl, Nat.le_of_ble_eq_true rfl⟩) (aS_start (X := xT) xT_mv hPc hKc hDc hCc trivial) rfl rfl hl.1 rfl (lv_room (Nat.le_of_ble_eq_true rfl)) dX0_askedPlain_36 ⟨Nat.le_of_ble_eq_true rfl, Nat.le_of_ble_eq_true rfl⟩) hS (fun q _ h => hFc q h) hFc (fun u t H1 locs ht hvm hw hB hz1 hk1 hS => ?_)
    obtain ⟨y36, m36, d36⟩ := u
    obtain ⟨ad36, hP1, hK1, hD1⟩ := hB
    rw [ht] at hP1
    have hK1 := va_K.moved hvm.symm hK1
    have p36 : gd 0 y36 m36 d36 := hw
    obtain ⟨hP, hD⟩ := va_join (wr := []) (w1 := [(qx, .inr (0, [.ref ad36])), (ad36, .inr (1, [.int y36, .int m36, .int d36]))]) hP hD [0] [] rfl rfl (by decide) (by decide) hk1 hFc hP1 hD1
    have hK := (hK.sub (tys' := []) [] rfl).app hK1
    generalize H1 = H at hP hS ⊢
    have hP : va_P D vwC [(qx, .inr (0, [.ref ad36])), (ad36, .inr (1, [.int y36, .int m36, .int d36]))] H := hP
    have hD : va_D A [(qx, .inr (0, [.ref ad36])), (ad36, .inr (1, [.int y36, .int m36, .int d36]))] := hD
    have hK : va_K D vwC [] s := hK
    refine W.widen (k := 2) (n := 4) (Nat.le_of_ble_eq_true rfl) (Nat.le_of_ble_eq_true rfl) ?_
    refine lv_astore (lv' := [(4, .ref qx), (2, .long n), (0, .int a), (1, .int b)]) hx hb dX0_askedPlain_39 hl (by decide) rfl (fun ls hl => ?_)
    refine lv_aload hx hb dX0_askedPlain_41 (lv_at hl 0 rfl) ?_
    refine lv_lload_n hx hb dX0_askedPlain_43 rfl (lv_at hl 1 rfl) ?_
    refine lv_bipush (v := 32) hx hb dX0_askedPlain_44 (by decide +kernel) ?_
    refine lv_lshr (v := (n : Int64) >>> ((32 : Int32).toInt64 &&& 63)) hx hb dX0_askedPlain_46 rfl ?_
    refine lv_topl (fun v46 ev46 => ?_)
    refine lv_l2i (v := (v46 : Int64).toInt32) hx hb dX0_askedPlain_47 rfl ?_
    refine lv_topi (fun v47 ev47 => ?_)
    refine lv_lload_n hx hb dX0_askedPlain_48 rfl (lv_at hl 1 rfl) ?_
    refine lv_l2i (v := (n : Int64).toInt32) hx hb dX0_askedPlain_49 rfl ?_
    refine lv_topi (fun v49 ev49 => ?_)
    have zk50 : jn v47 v49 = n := by rw [ev47, ev46, ev49]; exact jn_back _
    have zj50 : (jn v47 v49).toInt = n.toInt := by rw [zk50]
    have hPc := hP.sub (ws' := [(qx, .inr (0, [.ref ad36])), (ad36, .inr (1, [.int y36, .int m36, .int d36]))]) [0, 1] rfl
    have hDc := hD.sub (ws' := [(qx, .inr (0, [.ref ad36])), (ad36, .inr (1, [.int y36, .int m36, .int d36]))]) [0, 1] (by decide) rfl
    have hKc := hK.sub (tys' := []) [] rfl
    have hFc := va_free (wc := [(qx, .inr (0, [.ref ad36])), (ad36, .inr (1, [.int y36, .int m36, .int d36]))]) hD hS hA [0, 1] rfl
    have hCc := cst_narrow (cst_kept hC hS.2.1) hFc
    refine va_calli (va_runV (As := [.int v47, .int v49]) (rest := []) ⟨hx, hb, hml, hown, hts⟩ (metX1_fromDay l D k H.size qx ad36 y36 m36 d36 v47 v49) (cwV 2 hts (lw_V q528 q529 q530 q2 q531) rfl rfl rfl (by decide +kernel) ⟨Nat.le_of_ble_eq_true rfl, Nat.le_of_ble_eq_true rfl⟩) (aV_start (X := xT) xT_mv (va_recv hKc hPc (ci := 0) (q0 := 0) rfl rfl) hPc hKc hDc hCc trivial) rfl rfl hl.1 rfl (lv_room (Nat.le_of_ble_eq_true rfl)) dX0_askedPlain_50 ⟨Nat.le_of_ble_eq_true rfl, Nat.le_of_ble_eq_true rfl⟩) hS (fun q _ h => hFc q h) hFc (fun r50 u t H1 locs ht hvm hw hB hz1 hk1 hS => ?_)
    obtain ⟨y50, m50, d50⟩ := u
    obtain ⟨ad50, hP1, hK1, hD1⟩ := hB
    rw [ht] at hP1
    have hK1 := va_K.moved hvm.symm hK1
    have p50 : (-365243219162 ≤ (jn v47 v49).toInt ∧ (jn v47 v49).toInt ≤ 365241780471 → r50 = 1 ∧ gd (jn v47 v49).toInt y50 m50 d50) ∧ (¬ (-365243219162 ≤ (jn v47 v49).toInt ∧ (jn v47 v49).toInt ≤ 365241780471) → r50 = 0 ∧ (y50, m50, d50) = (y36, m36, d36)) := hw
    have w50 := p50.1 ⟨by rw [zj50]; omega, by rw [zj50]; omega⟩
    have hg50 : gd (n.toInt) y50 m50 d50 := by have e9 := w50.2; rw [zj50] at e9; exact e9
    obtain ⟨hP, hD⟩ := va_join (wr := []) (w1 := [(qx, .inr (0, [.ref ad50])), (ad50, .inr (1, [.int y50, .int m50, .int d50]))]) hP hD [0, 1] [] rfl rfl (by decide) (by decide) hk1 hFc hP1 hD1
    have hK := (hK.sub (tys' := []) [] rfl).app hK1
    generalize H1 = H at hP hS ⊢
    have hP : va_P D vwC [(qx, .inr (0, [.ref ad50])), (ad50, .inr (1, [.int y50, .int m50, .int d50]))] H := hP
    have hD : va_D A [(qx, .inr (0, [.ref ad50])), (ad50, .inr (1, [.int y50, .int m50, .int d50]))] := hD
    have hK : va_K D vwC [] s := hK
    refine W.widen (k := 3) (n := 7) (Nat.le_of_ble_eq_true rfl) (Nat.le_of_ble_eq_true rfl) ?_
    have z50 : 1 = r50 := w50.1.symm
    subst z50
    refine lv_if_eq (tgt := 69) hx hb dX0_askedPlain_53 (by decide) (fun c0 => absurd ((ic_eq (X := 1) (Y := 0) (by decide +kernel) (by decide +kernel)).mp c0) (by decide)) (fun c53 => ?_)
    refine lv_aload hx hb dX0_askedPlain_56 (lv_at hl 0 rfl) ?_
    refine lv_lload_n hx hb dX0_askedPlain_58 rfl (lv_at hl 1 rfl) ?_
    have hPc := hP.sub (ws' := []) [] rfl
    have hDc := hD.sub (ws' := []) [] (by decide) rfl
    have hKc := hK.sub (tys' := []) [] rfl
    have hFc := va_free (wc := []) hD hS hA [] rfl
    have hCc := cst_narrow (cst_kept hC hS.2.1) hFc
    refine va_calli (va_runS (As := [.ref qx, .long n]) (rest := []) ⟨hx, hb, hml, hown, hts⟩ (metX0_askedIs l D k H.size qx ad50 y50 m50 d50 n (by omega) (by omega) hg50) (va_cwS 2 hts (lw_S q671 q672 q1 q673) rfl rfl rfl (by decide +kernel) ⟨Nat.le_of_ble_eq_true rfl, Nat.le_of_ble_eq_true rfl⟩) (aS_start (X := (fDC qx ad50 y50 m50 d50)) (fun _ => fDC_mv) hPc hKc hDc hCc (dc_cell hts hK hP 0 1 rfl rfl (nA0 (hP 0 _ rfl).lt) (nA0 (hP 1 _ rfl).lt))) rfl rfl hl.1 rfl (lv_room (Nat.le_of_ble_eq_true rfl)) dX0_askedPlain_59 ⟨Nat.le_of_ble_eq_true rfl, Nat.le_of_ble_eq_true rfl⟩) hS (fun q _ h => hFc q h) hFc (fun r59 u t H1 locs ht hvm hw hB hz1 hk1 hS => ?_)
    have hP1 : va_P D vwC [] H1 := vP0
    have hD1 : va_D (va_A [] H.size) [] := vD0
    have hK1 := hKc
    have p59 : r59 = 1 := hw
    obtain ⟨hP, hD⟩ := va_join (wr := [(qx, .inr (0, [.ref ad50])), (ad50, .inr (1, [.int y50, .int m50, .int d50]))]) (w1 := []) hP hD [] [0, 1] rfl rfl (by decide) (by decide) hk1 hFc hP1 hD1
    have hK := (hK.sub (tys' := []) [] rfl).app hK1
    generalize H1 = H at hP hS ⊢
    have hP : va_P D vwC [(qx, .inr (0, [.ref ad50])), (ad50, .inr (1, [.int y50, .int m50, .int d50]))] H := hP
    have hD : va_D A [(qx, .inr (0, [.ref ad50])), (ad50, .inr (1, [.int y50, .int m50, .int d50]))] := hD
    have hK : va_K D vwC [] s := hK
    refine W.widen (k := 4) (n := 12) (Nat.le_of_ble_eq_true rfl) (Nat.le_of_ble_eq_true rfl) ?_
    have z59 : 1 = r59 := p59.symm
    subst z59
    refine lv_if_eq (tgt := 69) hx hb dX0_askedPlain_62 (by decide) (fun c0 => absurd ((ic_eq (X := 1) (Y := 0) (by decide +kernel) (by decide +kernel)).mp c0) (by decide)) (fun c62 => ?_)
    refine lv_iconst (v := 1) hx hb dX0_askedPlain_65 (by decide +kernel) ?_
    refine lv_goto (tgt := 70) hx hb dX0_askedPlain_66 (by decide) ?_
    refine W.widen (k := 4) (n := 12) (Nat.le_of_ble_eq_true rfl) (Nat.le_of_ble_eq_true rfl) ?_
    exact W.zret (v := 1) hx hb hr rfl (fun t ht hW => ⟨⟨1, (), rfl, rfl, trivial⟩, hS.F ht⟩) hS.2.2 dX0_askedPlain_70
  · intro hk
    refine lv_lload_n hx hb dX0_askedPlain_13 rfl (lv_at hl 0 rfl) ?_
    refine lv_ldc2 (v := (-365243219162)) hx hb hown (hts _ q641) dX0_askedPlain_14 ?_
    refine W.lcmp hx hb dX0_askedPlain_17 ?_
    refine lv_if_lt (tgt := 29) hx hb dX0_askedPlain_18 (by decide) (fun c18 => ?_) (fun c18 => ?_)
    · have k_18 : v11.toInt < (-365243219162) := (cm_lt0 (X := v11.toInt) (Y := (-365243219162)) rfl (by decide +kernel)).mp c18
      refine lv_iload_n hx hb dX0_askedPlain_29 rfl (lv_at hl 2 rfl) ?_
      refine lv_i2l (v := (b).toInt64) hx hb dX0_askedPlain_30 rfl ?_
      refine lv_topl (fun v30 ev30 => ?_)
      have tv30 : v30.toInt = b.toInt := ll_i2l ev30 rfl
      refine lv_lstore_n (lv' := [(2, .long v30), (0, .int a), (1, .int b)]) hx hb dX0_askedPlain_31 rfl hl (by decide) rfl (fun ls hl => ?_)
      exact hk v30 ls ⟨lv_sub hl [0, 1, 2] rfl, by omega, by omega⟩
    · have k_18 : ¬ v11.toInt < (-365243219162) := fun c0 => c18 ((cm_lt0 (X := v11.toInt) (Y := (-365243219162)) rfl (by decide +kernel)).mpr c0)
      refine lv_lload_n hx hb dX0_askedPlain_21 rfl (lv_at hl 0 rfl) ?_
      refine lv_ldc2 (v := 365241780471) hx hb hown (hts _ q642) dX0_askedPlain_22 ?_
      refine W.lcmp hx hb dX0_askedPlain_25 ?_
      refine lv_if_le (tgt := 32) hx hb dX0_askedPlain_26 (by decide) (fun c26 => ?_) (fun c26 => ?_)
      · have k_26 : v11.toInt ≤ 365241780471 := (cm_le0 (X := v11.toInt) (Y := 365241780471) rfl (by decide +kernel)).mp c26
        exact hk v11 ls ⟨lv_sub hl [0, 1, 2] rfl, by omega, by omega⟩
      · have k_26 : ¬ v11.toInt ≤ 365241780471 := fun c0 => c26 ((cm_le0 (X := v11.toInt) (Y := 365241780471) rfl (by decide +kernel)).mpr c0)
        refine lv_iload_n hx hb dX0_askedPlain_29 rfl (lv_at hl 2 rfl) ?_
        refine lv_i2l (v := (b).toInt64) hx hb dX0_askedPlain_30 rfl ?_
        refine lv_topl (fun v30a ev30a => ?_)
        have tv30a : v30a.toInt = b.toInt := ll_i2l ev30a rfl
        refine lv_lstore_n (lv' := [(2, .long v30a), (0, .int a), (1, .int b)]) hx hb dX0_askedPlain_31 rfl hl (by decide) rfl (fun ls hl => ?_)
        exact hk v30a ls ⟨lv_sub hl [0, 1, 2] rfl, by omega, by omega⟩
end
section
set_option maxHeartbeats 4000000 in
set_option maxRecDepth 100000 in
/-- askedEnds: true -/
theorem metX0_askedEnds (l : Launch) (D : va_G) (k : Nat → Nat) (sz : Nat) (a : Int32)  : Met l yX0_askedEnds (ws_ yX0_askedEnds cX0_askedEnds 6 (some .boolean)) ({ frames := 7, cells := 10, slots := 30, locals := 167 }) (va_Pc [.int a] (al D k [] sz xT)) (va_Qi (fun (r : Int32) (u : Unit) => r = 1) (b0) (va_A [] sz)) 10 30 (va_A [] sz) := by
  refine Met.ofW (cc := cX0_askedEnds) (maxL := 6) (ret := (some .boolean)) (by decide +kernel) rfl ?_
  intro p e s mi args below me_ c s₁ B hml hv
  obtain ⟨rfl, hsz, hP, hK, hD0, hC, hX⟩ := hv
  have hx := B.exec
  have hb := B.bytes
  have hr := B.returns
  have hts := atoms_spec (ws := ws_ yX0_askedEnds cX0_askedEnds 6 (some .boolean)) B.pre
  have hts : ∀ w ∈ lw_all, w.before _ s = true := fun w h => hts w (List.mem_cons_of_mem _ h)
  have hown : s.vm.findClass RX0 = some mi.cls := findClass_of_methodNamed B.named
  have hlocks := B.notSynchronized
  have hl := lv_entry ([.int a]) (n := 6) (Nat.le_of_ble_eq_true rfl)
  rw [lg_entry_eq]
  generalize (lg_sl ([.int a]) ++ List.replicate (6 - (lg_sl ([.int a])).length) Slot.unset).toArray = ls at hl ⊢
  have hl : lv_has ls 6 [(0, .int a)] := hl
  subst hsz
  have hD := hD0.self (sz := s.heap.size)
  generalize hAe : va_A [] s.heap.size = A at hD hC hX ⊢
  have hA : ∀ q : Nat, s.heap.size ≤ q → A q := fun q h => by rw [← hAe]; exact Or.inr h
  have hS : va_S A s.heap s.heap [] := va_S.rf
  have hP : va_P D vwC [] s.heap := hP
  have hra := ii_rng a
  refine va_new (ci := 0) (fs := [.null]) (C := RX1) (T := TX1) (N := 1) hx hb hts in_X1 tyX1 tyX1_ok hown (hts _ q38) (hts _ q39) (hts _ q2) hK hP hD hS hA rfl (fun j hj => by rcases (show j = 0 by omega) with rfl <;> rfl) (Nat.le_of_ble_eq_true rfl) (Nat.le_of_ble_eq_true rfl) dX0_askedEnds_0 (fun qx H hP hD hS => ?_)
  have hP : va_P D vwC [(qx, .inr (0, [.null]))] H := hP
  have hD : va_D A [(qx, .inr (0, [.null]))] := hD
  refine W.widen (k := 1) (n := 1) (Nat.le_of_ble_eq_true rfl) (Nat.le_of_ble_eq_true rfl) ?_
  refine lv_dup hx hb dX0_askedEnds_3 rfl ?_
  have hPc := hP.sub (ws' := [(qx, .inr (0, [.null]))]) [0] rfl
  have hDc := hD.sub (ws' := [(qx, .inr (0, [.null]))]) [0] (by decide) rfl
  have hKc := hK.sub (tys' := []) [] rfl
  have hFc := va_free (wc := [(qx, .inr (0, [.null]))]) hD hS hA [0] rfl
  have hCc := cst_narrow (cst_kept hC hS.2.1) hFc
  refine va_callv (va_runI (As := []) (rest := [.ref qx]) ⟨hx, hb, hml, hown, hts⟩ (metX1_init l D k H.size qx) (cwI 0 hts (lw_meth q42) rfl rfl rfl (hts _ q2) (hts _ q40) (hts _ q41) rfl (by decide +kernel) ⟨Nat.le_of_ble_eq_true rfl, Nat.le_of_ble_eq_true rfl⟩) (aS_start (X := xT) xT_mv hPc hKc hDc hCc trivial) rfl rfl hl.1 rfl (lv_room (Nat.le_of_ble_eq_true rfl)) dX0_askedEnds_4 ⟨Nat.le_of_ble_eq_true rfl, Nat.le_of_ble_eq_true rfl⟩) hS (fun q _ h => hFc q h) hFc (fun u t H1 locs ht hvm hw hB hz1 hk1 hS => ?_)
  obtain ⟨y4, m4, d4⟩ := u
  obtain ⟨ad4, hP1, hK1, hD1⟩ := hB
  rw [ht] at hP1
  have hK1 := va_K.moved hvm.symm hK1
  have p4 : gd 0 y4 m4 d4 := hw
  obtain ⟨hP, hD⟩ := va_join (wr := []) (w1 := [(qx, .inr (0, [.ref ad4])), (ad4, .inr (1, [.int y4, .int m4, .int d4]))]) hP hD [0] [] rfl rfl (by decide) (by decide) hk1 hFc hP1 hD1
  have hK := (hK.sub (tys' := []) [] rfl).app hK1
  generalize H1 = H at hP hS ⊢
  have hP : va_P D vwC [(qx, .inr (0, [.ref ad4])), (ad4, .inr (1, [.int y4, .int m4, .int d4]))] H := hP
  have hD : va_D A [(qx, .inr (0, [.ref ad4])), (ad4, .inr (1, [.int y4, .int m4, .int d4]))] := hD
  have hK : va_K D vwC [] s := hK
  refine W.widen (k := 2) (n := 4) (Nat.le_of_ble_eq_true rfl) (Nat.le_of_ble_eq_true rfl) ?_
  refine lv_astore_n (lv' := [(1, .ref qx), (0, .int a)]) hx hb dX0_askedEnds_7 rfl hl (by decide) rfl (fun ls hl => ?_)
  refine lv_ldc2 (v := (-365243219162)) hx hb hown (hts _ q641) dX0_askedEnds_8 ?_
  refine lv_lstore_n (lv' := [(2, .long (-365243219162)), (1, .ref qx), (0, .int a)]) hx hb dX0_askedEnds_11 rfl hl (by decide) rfl (fun ls hl => ?_)
  refine lv_ldc2 (v := 365241780471) hx hb hown (hts _ q642) dX0_askedEnds_12 ?_
  refine lv_lstore (lv' := [(4, .long 365241780471), (2, .long (-365243219162)), (1, .ref qx), (0, .int a)]) hx hb dX0_askedEnds_15 hl (by decide) rfl (fun ls hl => ?_)
  refine lv_aload_n hx hb dX0_askedEnds_17 rfl (lv_at hl 2 rfl) ?_
  refine lv_iload_n hx hb dX0_askedEnds_18 rfl (lv_at hl 3 rfl) ?_
  have hPc := hP.sub (ws' := [(qx, .inr (0, [.ref ad4])), (ad4, .inr (1, [.int y4, .int m4, .int d4]))]) [0, 1] rfl
  have hDc := hD.sub (ws' := [(qx, .inr (0, [.ref ad4])), (ad4, .inr (1, [.int y4, .int m4, .int d4]))]) [0, 1] (by decide) rfl
  have hKc := hK.sub (tys' := []) [] rfl
  have hFc := va_free (wc := [(qx, .inr (0, [.ref ad4])), (ad4, .inr (1, [.int y4, .int m4, .int d4]))]) hD hS hA [0, 1] rfl
  have hCc := cst_narrow (cst_kept hC hS.2.1) hFc
  refine va_calli (va_runV (As := [.int a]) (rest := []) ⟨hx, hb, hml, hown, hts⟩ (metX1_near l D k H.size qx ad4 y4 m4 d4 a) (cwV 1 hts (lw_V q667 q668 q669 q2 q670) rfl rfl rfl (by decide +kernel) ⟨Nat.le_of_ble_eq_true rfl, Nat.le_of_ble_eq_true rfl⟩) (aV_start (X := xT) xT_mv (va_recv hKc hPc (ci := 0) (q0 := 0) rfl rfl) hPc hKc hDc hCc trivial) rfl rfl hl.1 rfl (lv_room (Nat.le_of_ble_eq_true rfl)) dX0_askedEnds_19 ⟨Nat.le_of_ble_eq_true rfl, Nat.le_of_ble_eq_true rfl⟩) hS (fun q _ h => hFc q h) hFc (fun r19 u t H1 locs ht hvm hw hB hz1 hk1 hS => ?_)
  obtain ⟨y19, m19, d19⟩ := u
  obtain ⟨ad19, hP1, hK1, hD1⟩ := hB
  rw [ht] at hP1
  have hK1 := va_K.moved hvm.symm hK1
  have p19 : r19 = 1 ∧ gd a.toInt y19 m19 d19 := hw
  have hg19 := p19.2
  obtain ⟨hP, hD⟩ := va_join (wr := []) (w1 := [(qx, .inr (0, [.ref ad19])), (ad19, .inr (1, [.int y19, .int m19, .int d19]))]) hP hD [0, 1] [] rfl rfl (by decide) (by decide) hk1 hFc hP1 hD1
  have hK := (hK.sub (tys' := []) [] rfl).app hK1
  generalize H1 = H at hP hS ⊢
  have hP : va_P D vwC [(qx, .inr (0, [.ref ad19])), (ad19, .inr (1, [.int y19, .int m19, .int d19]))] H := hP
  have hD : va_D A [(qx, .inr (0, [.ref ad19])), (ad19, .inr (1, [.int y19, .int m19, .int d19]))] := hD
  have hK : va_K D vwC [] s := hK
  refine W.widen (k := 3) (n := 7) (Nat.le_of_ble_eq_true rfl) (Nat.le_of_ble_eq_true rfl) ?_
  have z19 : 1 = r19 := p19.1.symm
  subst z19
  refine lv_pop hx hb dX0_askedEnds_22 rfl ?_
  refine lv_aload_n hx hb dX0_askedEnds_23 rfl (lv_at hl 2 rfl) ?_
  refine lv_lload_n hx hb dX0_askedEnds_24 rfl (lv_at hl 1 rfl) ?_
  refine lv_lconst (v := 1) hx hb dX0_askedEnds_25 (by decide +kernel) ?_
  refine lv_lsub hx hb dX0_askedEnds_26 ?_
  refine lv_topl (fun v26 ev26 => ?_)
  have tv26 : v26.toInt = (-365243219162) - 1 := ll_sub ev26 (by decide +kernel) (by decide +kernel) (by omega) (by omega)
  refine lv_bipush (v := 32) hx hb dX0_askedEnds_27 (by decide +kernel) ?_
  refine lv_lshr (v := (v26 : Int64) >>> ((32 : Int32).toInt64 &&& 63)) hx hb dX0_askedEnds_29 rfl ?_
  refine lv_topl (fun v29 ev29 => ?_)
  refine lv_l2i (v := (v29 : Int64).toInt32) hx hb dX0_askedEnds_30 rfl ?_
  refine lv_topi (fun v30 ev30 => ?_)
  refine lv_lload_n hx hb dX0_askedEnds_31 rfl (lv_at hl 1 rfl) ?_
  refine lv_lconst (v := 1) hx hb dX0_askedEnds_32 (by decide +kernel) ?_
  refine lv_lsub hx hb dX0_askedEnds_33 ?_
  refine lv_topl (fun v33 ev33 => ?_)
  have tv33 : v33.toInt = (-365243219162) - 1 := ll_sub ev33 (by decide +kernel) (by decide +kernel) (by omega) (by omega)
  refine lv_l2i (v := (v33 : Int64).toInt32) hx hb dX0_askedEnds_34 rfl ?_
  refine lv_topi (fun v34 ev34 => ?_)
  have zk35 : jn v30 v34 = v26 := by rw [ev30, ev29, ev34, show v33 = v26 by rw [ev33, ev26]]; exact jn_back v26
  have hPc := hP.sub (ws' := [(qx, .inr (0, [.ref ad19])), (ad19, .inr (1, [.int y19, .int m19, .int d19]))]) [0, 1] rfl
  have hDc := hD.sub (ws' := [(qx, .inr (0, [.ref ad19])), (ad19, .inr (1, [.int y19, .int m19, .int d19]))]) [0, 1] (by decide) rfl
  have hKc := hK.sub (tys' := []) [] rfl
  have hFc := va_free (wc := [(qx, .inr (0, [.ref ad19])), (ad19, .inr (1, [.int y19, .int m19, .int d19]))]) hD hS hA [0, 1] rfl
  have hCc := cst_narrow (cst_kept hC hS.2.1) hFc
  refine va_calli (va_runV (As := [.int v30, .int v34]) (rest := []) ⟨hx, hb, hml, hown, hts⟩ (metX1_fromDay l D k H.size qx ad19 y19 m19 d19 v30 v34) (cwV 2 hts (lw_V q528 q529 q530 q2 q531) rfl rfl rfl (by decide +kernel) ⟨Nat.le_of_ble_eq_true rfl, Nat.le_of_ble_eq_true rfl⟩) (aV_start (X := xT) xT_mv (va_recv hKc hPc (ci := 0) (q0 := 0) rfl rfl) hPc hKc hDc hCc trivial) rfl rfl hl.1 rfl (lv_room (Nat.le_of_ble_eq_true rfl)) dX0_askedEnds_35 ⟨Nat.le_of_ble_eq_true rfl, Nat.le_of_ble_eq_true rfl⟩) hS (fun q _ h => hFc q h) hFc (fun r35 u t H1 locs ht hvm hw hB hz1 hk1 hS => ?_)
  obtain ⟨y35, m35, d35⟩ := u
  obtain ⟨ad35, hP1, hK1, hD1⟩ := hB
  rw [ht] at hP1
  have hK1 := va_K.moved hvm.symm hK1
  have p35 : (-365243219162 ≤ (jn v30 v34).toInt ∧ (jn v30 v34).toInt ≤ 365241780471 → r35 = 1 ∧ gd (jn v30 v34).toInt y35 m35 d35) ∧ (¬ (-365243219162 ≤ (jn v30 v34).toInt ∧ (jn v30 v34).toInt ≤ 365241780471) → r35 = 0 ∧ (y35, m35, d35) = (y19, m19, d19)) := hw
  have w35 := p35.2 (by rw [zk35]; omega)
  have hg35 : gd (a.toInt) y35 m35 d35 := by
    have e9 := w35.2
    simp only [Prod.mk.injEq] at e9
    rw [e9.1, e9.2.1, e9.2.2]
    exact hg19
  obtain ⟨hP, hD⟩ := va_join (wr := []) (w1 := [(qx, .inr (0, [.ref ad35])), (ad35, .inr (1, [.int y35, .int m35, .int d35]))]) hP hD [0, 1] [] rfl rfl (by decide) (by decide) hk1 hFc hP1 hD1
  have hK := (hK.sub (tys' := []) [] rfl).app hK1
  generalize H1 = H at hP hS ⊢
  have hP : va_P D vwC [(qx, .inr (0, [.ref ad35])), (ad35, .inr (1, [.int y35, .int m35, .int d35]))] H := hP
  have hD : va_D A [(qx, .inr (0, [.ref ad35])), (ad35, .inr (1, [.int y35, .int m35, .int d35]))] := hD
  have hK : va_K D vwC [] s := hK
  refine W.widen (k := 4) (n := 10) (Nat.le_of_ble_eq_true rfl) (Nat.le_of_ble_eq_true rfl) ?_
  have z35 : 0 = r35 := w35.1.symm
  subst z35
  refine lv_if_ne (tgt := 90) hx hb dX0_askedEnds_38 (by decide) (fun c0 => absurd ((ic_eq (X := 0) (Y := 0) (by decide +kernel) (by decide +kernel)).mpr (by decide)) c0) (fun c38 => ?_)
  refine lv_aload_n hx hb dX0_askedEnds_41 rfl (lv_at hl 2 rfl) ?_
  refine lv_lload hx hb dX0_askedEnds_42 (lv_at hl 0 rfl) ?_
  refine lv_lconst (v := 1) hx hb dX0_askedEnds_44 (by decide +kernel) ?_
  refine lv_ladd hx hb dX0_askedEnds_45 ?_
  refine lv_topl (fun v45 ev45 => ?_)
  have tv45 : v45.toInt = 365241780471 + 1 := ll_add ev45 (by decide +kernel) (by decide +kernel) (by omega) (by omega)
  refine lv_bipush (v := 32) hx hb dX0_askedEnds_46 (by decide +kernel) ?_
  refine lv_lshr (v := (v45 : Int64) >>> ((32 : Int32).toInt64 &&& 63)) hx hb dX0_askedEnds_48 rfl ?_
  refine lv_topl (fun v48 ev48 => ?_)
  refine lv_l2i (v := (v48 : Int64).toInt32) hx hb dX0_askedEnds_49 rfl ?_
  refine lv_topi (fun v49 ev49 => ?_)
  refine lv_lload hx hb dX0_askedEnds_50 (lv_at hl 0 rfl) ?_
  refine lv_lconst (v := 1) hx hb dX0_askedEnds_52 (by decide +kernel) ?_
  refine lv_ladd hx hb dX0_askedEnds_53 ?_
  refine lv_topl (fun v53 ev53 => ?_)
  have tv53 : v53.toInt = 365241780471 + 1 := ll_add ev53 (by decide +kernel) (by decide +kernel) (by omega) (by omega)
  refine lv_l2i (v := (v53 : Int64).toInt32) hx hb dX0_askedEnds_54 rfl ?_
  refine lv_topi (fun v54 ev54 => ?_)
  have zk55 : jn v49 v54 = v45 := by rw [ev49, ev48, ev54, show v53 = v45 by rw [ev53, ev45]]; exact jn_back v45
  have hPc := hP.sub (ws' := [(qx, .inr (0, [.ref ad35])), (ad35, .inr (1, [.int y35, .int m35, .int d35]))]) [0, 1] rfl
  have hDc := hD.sub (ws' := [(qx, .inr (0, [.ref ad35])), (ad35, .inr (1, [.int y35, .int m35, .int d35]))]) [0, 1] (by decide) rfl
  have hKc := hK.sub (tys' := []) [] rfl
  have hFc := va_free (wc := [(qx, .inr (0, [.ref ad35])), (ad35, .inr (1, [.int y35, .int m35, .int d35]))]) hD hS hA [0, 1] rfl
  have hCc := cst_narrow (cst_kept hC hS.2.1) hFc
  refine va_calli (va_runV (As := [.int v49, .int v54]) (rest := []) ⟨hx, hb, hml, hown, hts⟩ (metX1_fromDay l D k H.size qx ad35 y35 m35 d35 v49 v54) (cwV 2 hts (lw_V q528 q529 q530 q2 q531) rfl rfl rfl (by decide +kernel) ⟨Nat.le_of_ble_eq_true rfl, Nat.le_of_ble_eq_true rfl⟩) (aV_start (X := xT) xT_mv (va_recv hKc hPc (ci := 0) (q0 := 0) rfl rfl) hPc hKc hDc hCc trivial) rfl rfl hl.1 rfl (lv_room (Nat.le_of_ble_eq_true rfl)) dX0_askedEnds_55 ⟨Nat.le_of_ble_eq_true rfl, Nat.le_of_ble_eq_true rfl⟩) hS (fun q _ h => hFc q h) hFc (fun r55 u t H1 locs ht hvm hw hB hz1 hk1 hS => ?_)
  obtain ⟨y55, m55, d55⟩ := u
  obtain ⟨ad55, hP1, hK1, hD1⟩ := hB
  rw [ht] at hP1
  have hK1 := va_K.moved hvm.symm hK1
  have p55 : (-365243219162 ≤ (jn v49 v54).toInt ∧ (jn v49 v54).toInt ≤ 365241780471 → r55 = 1 ∧ gd (jn v49 v54).toInt y55 m55 d55) ∧ (¬ (-365243219162 ≤ (jn v49 v54).toInt ∧ (jn v49 v54).toInt ≤ 365241780471) → r55 = 0 ∧ (y55, m55, d55) = (y35, m35, d35)) := hw
  have w55 := p55.2 (by rw [zk55]; omega)
  have hg55 : gd (a.toInt) y55 m55 d55 := by
    have e9 := w55.2
    simp only [Prod.mk.injEq] at e9
    rw [e9.1, e9.2.1, e9.2.2]
    exact hg35
  obtain ⟨hP, hD⟩ := va_join (wr := []) (w1 := [(qx, .inr (0, [.ref ad55])), (ad55, .inr (1, [.int y55, .int m55, .int d55]))]) hP hD [0, 1] [] rfl rfl (by decide) (by decide) hk1 hFc hP1 hD1
  have hK := (hK.sub (tys' := []) [] rfl).app hK1
  generalize H1 = H at hP hS ⊢
  have hP : va_P D vwC [(qx, .inr (0, [.ref ad55])), (ad55, .inr (1, [.int y55, .int m55, .int d55]))] H := hP
  have hD : va_D A [(qx, .inr (0, [.ref ad55])), (ad55, .inr (1, [.int y55, .int m55, .int d55]))] := hD
  have hK : va_K D vwC [] s := hK
  refine W.widen (k := 5) (n := 13) (Nat.le_of_ble_eq_true rfl) (Nat.le_of_ble_eq_true rfl) ?_
  have z55 : 0 = r55 := w55.1.symm
  subst z55
  refine lv_if_ne (tgt := 90) hx hb dX0_askedEnds_58 (by decide) (fun c0 => absurd ((ic_eq (X := 0) (Y := 0) (by decide +kernel) (by decide +kernel)).mpr (by decide)) c0) (fun c58 => ?_)
  refine lv_aload_n hx hb dX0_askedEnds_61 rfl (lv_at hl 2 rfl) ?_
  refine lv_ldc (v := (-2147483648)) hx hb hown (hts _ q707) dX0_askedEnds_62 ?_
  refine lv_iconst (v := 0) hx hb dX0_askedEnds_64 (by decide +kernel) ?_
  have hPc := hP.sub (ws' := [(qx, .inr (0, [.ref ad55])), (ad55, .inr (1, [.int y55, .int m55, .int d55]))]) [0, 1] rfl
  have hDc := hD.sub (ws' := [(qx, .inr (0, [.ref ad55])), (ad55, .inr (1, [.int y55, .int m55, .int d55]))]) [0, 1] (by decide) rfl
  have hKc := hK.sub (tys' := []) [] rfl
  have hFc := va_free (wc := [(qx, .inr (0, [.ref ad55])), (ad55, .inr (1, [.int y55, .int m55, .int d55]))]) hD hS hA [0, 1] rfl
  have hCc := cst_narrow (cst_kept hC hS.2.1) hFc
  refine va_calli (va_runV (As := [.int (-2147483648), .int 0]) (rest := []) ⟨hx, hb, hml, hown, hts⟩ (metX1_fromDay l D k H.size qx ad55 y55 m55 d55 (-2147483648) 0) (cwV 2 hts (lw_V q528 q529 q530 q2 q531) rfl rfl rfl (by decide +kernel) ⟨Nat.le_of_ble_eq_true rfl, Nat.le_of_ble_eq_true rfl⟩) (aV_start (X := xT) xT_mv (va_recv hKc hPc (ci := 0) (q0 := 0) rfl rfl) hPc hKc hDc hCc trivial) rfl rfl hl.1 rfl (lv_room (Nat.le_of_ble_eq_true rfl)) dX0_askedEnds_65 ⟨Nat.le_of_ble_eq_true rfl, Nat.le_of_ble_eq_true rfl⟩) hS (fun q _ h => hFc q h) hFc (fun r65 u t H1 locs ht hvm hw hB hz1 hk1 hS => ?_)
  obtain ⟨y65, m65, d65⟩ := u
  obtain ⟨ad65, hP1, hK1, hD1⟩ := hB
  rw [ht] at hP1
  have hK1 := va_K.moved hvm.symm hK1
  have p65 : (-365243219162 ≤ (jn (-2147483648) 0).toInt ∧ (jn (-2147483648) 0).toInt ≤ 365241780471 → r65 = 1 ∧ gd (jn (-2147483648) 0).toInt y65 m65 d65) ∧ (¬ (-365243219162 ≤ (jn (-2147483648) 0).toInt ∧ (jn (-2147483648) 0).toInt ≤ 365241780471) → r65 = 0 ∧ (y65, m65, d65) = (y55, m55, d55)) := hw
  have w65 := p65.2 (by decide +kernel)
  have hg65 : gd (a.toInt) y65 m65 d65 := by
    have e9 := w65.2
    simp only [Prod.mk.injEq] at e9
    rw [e9.1, e9.2.1, e9.2.2]
    exact hg55
  obtain ⟨hP, hD⟩ := va_join (wr := []) (w1 := [(qx, .inr (0, [.ref ad65])), (ad65, .inr (1, [.int y65, .int m65, .int d65]))]) hP hD [0, 1] [] rfl rfl (by decide) (by decide) hk1 hFc hP1 hD1
  have hK := (hK.sub (tys' := []) [] rfl).app hK1
  generalize H1 = H at hP hS ⊢
  have hP : va_P D vwC [(qx, .inr (0, [.ref ad65])), (ad65, .inr (1, [.int y65, .int m65, .int d65]))] H := hP
  have hD : va_D A [(qx, .inr (0, [.ref ad65])), (ad65, .inr (1, [.int y65, .int m65, .int d65]))] := hD
  have hK : va_K D vwC [] s := hK
  refine W.widen (k := 6) (n := 16) (Nat.le_of_ble_eq_true rfl) (Nat.le_of_ble_eq_true rfl) ?_
  have z65 : 0 = r65 := w65.1.symm
  subst z65
  refine lv_if_ne (tgt := 90) hx hb dX0_askedEnds_68 (by decide) (fun c0 => absurd ((ic_eq (X := 0) (Y := 0) (by decide +kernel) (by decide +kernel)).mpr (by decide)) c0) (fun c68 => ?_)
  refine lv_aload_n hx hb dX0_askedEnds_71 rfl (lv_at hl 2 rfl) ?_
  refine lv_ldc (v := 2147483647) hx hb hown (hts _ q708) dX0_askedEnds_72 ?_
  refine lv_iconst (v := (-1)) hx hb dX0_askedEnds_74 (by decide +kernel) ?_
  have hPc := hP.sub (ws' := [(qx, .inr (0, [.ref ad65])), (ad65, .inr (1, [.int y65, .int m65, .int d65]))]) [0, 1] rfl
  have hDc := hD.sub (ws' := [(qx, .inr (0, [.ref ad65])), (ad65, .inr (1, [.int y65, .int m65, .int d65]))]) [0, 1] (by decide) rfl
  have hKc := hK.sub (tys' := []) [] rfl
  have hFc := va_free (wc := [(qx, .inr (0, [.ref ad65])), (ad65, .inr (1, [.int y65, .int m65, .int d65]))]) hD hS hA [0, 1] rfl
  have hCc := cst_narrow (cst_kept hC hS.2.1) hFc
  refine va_calli (va_runV (As := [.int 2147483647, .int (-1)]) (rest := []) ⟨hx, hb, hml, hown, hts⟩ (metX1_fromDay l D k H.size qx ad65 y65 m65 d65 2147483647 (-1)) (cwV 2 hts (lw_V q528 q529 q530 q2 q531) rfl rfl rfl (by decide +kernel) ⟨Nat.le_of_ble_eq_true rfl, Nat.le_of_ble_eq_true rfl⟩) (aV_start (X := xT) xT_mv (va_recv hKc hPc (ci := 0) (q0 := 0) rfl rfl) hPc hKc hDc hCc trivial) rfl rfl hl.1 rfl (lv_room (Nat.le_of_ble_eq_true rfl)) dX0_askedEnds_75 ⟨Nat.le_of_ble_eq_true rfl, Nat.le_of_ble_eq_true rfl⟩) hS (fun q _ h => hFc q h) hFc (fun r75 u t H1 locs ht hvm hw hB hz1 hk1 hS => ?_)
  obtain ⟨y75, m75, d75⟩ := u
  obtain ⟨ad75, hP1, hK1, hD1⟩ := hB
  rw [ht] at hP1
  have hK1 := va_K.moved hvm.symm hK1
  have p75 : (-365243219162 ≤ (jn 2147483647 (-1)).toInt ∧ (jn 2147483647 (-1)).toInt ≤ 365241780471 → r75 = 1 ∧ gd (jn 2147483647 (-1)).toInt y75 m75 d75) ∧ (¬ (-365243219162 ≤ (jn 2147483647 (-1)).toInt ∧ (jn 2147483647 (-1)).toInt ≤ 365241780471) → r75 = 0 ∧ (y75, m75, d75) = (y65, m65, d65)) := hw
  have w75 := p75.2 (by decide +kernel)
  have hg75 : gd (a.toInt) y75 m75 d75 := by
    have e9 := w75.2
    simp only [Prod.mk.injEq] at e9
    rw [e9.1, e9.2.1, e9.2.2]
    exact hg65
  obtain ⟨hP, hD⟩ := va_join (wr := []) (w1 := [(qx, .inr (0, [.ref ad75])), (ad75, .inr (1, [.int y75, .int m75, .int d75]))]) hP hD [0, 1] [] rfl rfl (by decide) (by decide) hk1 hFc hP1 hD1
  have hK := (hK.sub (tys' := []) [] rfl).app hK1
  generalize H1 = H at hP hS ⊢
  have hP : va_P D vwC [(qx, .inr (0, [.ref ad75])), (ad75, .inr (1, [.int y75, .int m75, .int d75]))] H := hP
  have hD : va_D A [(qx, .inr (0, [.ref ad75])), (ad75, .inr (1, [.int y75, .int m75, .int d75]))] := hD
  have hK : va_K D vwC [] s := hK
  refine W.widen (k := 7) (n := 19) (Nat.le_of_ble_eq_true rfl) (Nat.le_of_ble_eq_true rfl) ?_
  have z75 : 0 = r75 := w75.1.symm
  subst z75
  refine lv_if_ne (tgt := 90) hx hb dX0_askedEnds_78 (by decide) (fun c0 => absurd ((ic_eq (X := 0) (Y := 0) (by decide +kernel) (by decide +kernel)).mpr (by decide)) c0) (fun c78 => ?_)
  refine lv_aload_n hx hb dX0_askedEnds_81 rfl (lv_at hl 2 rfl) ?_
  refine lv_iload_n hx hb dX0_askedEnds_82 rfl (lv_at hl 3 rfl) ?_
  refine lv_i2l (v := (a).toInt64) hx hb dX0_askedEnds_83 rfl ?_
  refine lv_topl (fun v83 ev83 => ?_)
  have tv83 : v83.toInt = a.toInt := ll_i2l ev83 rfl
  have hPc := hP.sub (ws' := []) [] rfl
  have hDc := hD.sub (ws' := []) [] (by decide) rfl
  have hKc := hK.sub (tys' := []) [] rfl
  have hFc := va_free (wc := []) hD hS hA [] rfl
  have hCc := cst_narrow (cst_kept hC hS.2.1) hFc
  refine va_calli (va_runS (As := [.ref qx, .long v83]) (rest := []) ⟨hx, hb, hml, hown, hts⟩ (metX0_askedIs l D k H.size qx ad75 y75 m75 d75 v83 (by omega) (by omega) (by rw [tv83]; exact hg75)) (va_cwS 2 hts (lw_S q671 q672 q1 q673) rfl rfl rfl (by decide +kernel) ⟨Nat.le_of_ble_eq_true rfl, Nat.le_of_ble_eq_true rfl⟩) (aS_start (X := (fDC qx ad75 y75 m75 d75)) (fun _ => fDC_mv) hPc hKc hDc hCc (dc_cell hts hK hP 0 1 rfl rfl (nA0 (hP 0 _ rfl).lt) (nA0 (hP 1 _ rfl).lt))) rfl rfl hl.1 rfl (lv_room (Nat.le_of_ble_eq_true rfl)) dX0_askedEnds_84 ⟨Nat.le_of_ble_eq_true rfl, Nat.le_of_ble_eq_true rfl⟩) hS (fun q _ h => hFc q h) hFc (fun r84 u t H1 locs ht hvm hw hB hz1 hk1 hS => ?_)
  have hP1 : va_P D vwC [] H1 := vP0
  have hD1 : va_D (va_A [] H.size) [] := vD0
  have hK1 := hKc
  have p84 : r84 = 1 := hw
  obtain ⟨hP, hD⟩ := va_join (wr := [(qx, .inr (0, [.ref ad75])), (ad75, .inr (1, [.int y75, .int m75, .int d75]))]) (w1 := []) hP hD [] [0, 1] rfl rfl (by decide) (by decide) hk1 hFc hP1 hD1
  have hK := (hK.sub (tys' := []) [] rfl).app hK1
  generalize H1 = H at hP hS ⊢
  have hP : va_P D vwC [(qx, .inr (0, [.ref ad75])), (ad75, .inr (1, [.int y75, .int m75, .int d75]))] H := hP
  have hD : va_D A [(qx, .inr (0, [.ref ad75])), (ad75, .inr (1, [.int y75, .int m75, .int d75]))] := hD
  have hK : va_K D vwC [] s := hK
  refine W.widen (k := 8) (n := 24) (Nat.le_of_ble_eq_true rfl) (Nat.le_of_ble_eq_true rfl) ?_
  have z84 : 1 = r84 := p84.symm
  subst z84
  refine lv_if_ne (tgt := 92) hx hb dX0_askedEnds_87 (by decide) (fun c87 => ?_) (fun c0 => absurd ((ic_eq (X := 1) (Y := 0) (by decide +kernel) (by decide +kernel)).mp c0) (by decide))
  refine lv_aload_n hx hb dX0_askedEnds_92 rfl (lv_at hl 2 rfl) ?_
  refine lv_lload_n hx hb dX0_askedEnds_93 rfl (lv_at hl 1 rfl) ?_
  refine lv_bipush (v := 32) hx hb dX0_askedEnds_94 (by decide +kernel) ?_
  refine lv_lshr (v := ((-365243219162) : Int64) >>> ((32 : Int32).toInt64 &&& 63)) hx hb dX0_askedEnds_96 rfl ?_
  refine lv_topl (fun v96 ev96 => ?_)
  refine lv_l2i (v := (v96 : Int64).toInt32) hx hb dX0_askedEnds_97 rfl ?_
  refine lv_topi (fun v97 ev97 => ?_)
  refine lv_lload_n hx hb dX0_askedEnds_98 rfl (lv_at hl 1 rfl) ?_
  refine lv_l2i (v := ((-365243219162) : Int64).toInt32) hx hb dX0_askedEnds_99 rfl ?_
  refine lv_topi (fun v99 ev99 => ?_)
  have zj100 : (jn v97 v99).toInt = -365243219162 := by rw [show jn v97 v99 = -365243219162 by rw [ev97, ev96, ev99]; exact jn_back _]; decide +kernel
  have hPc := hP.sub (ws' := [(qx, .inr (0, [.ref ad75])), (ad75, .inr (1, [.int y75, .int m75, .int d75]))]) [0, 1] rfl
  have hDc := hD.sub (ws' := [(qx, .inr (0, [.ref ad75])), (ad75, .inr (1, [.int y75, .int m75, .int d75]))]) [0, 1] (by decide) rfl
  have hKc := hK.sub (tys' := []) [] rfl
  have hFc := va_free (wc := [(qx, .inr (0, [.ref ad75])), (ad75, .inr (1, [.int y75, .int m75, .int d75]))]) hD hS hA [0, 1] rfl
  have hCc := cst_narrow (cst_kept hC hS.2.1) hFc
  refine va_calli (va_runV (As := [.int v97, .int v99]) (rest := []) ⟨hx, hb, hml, hown, hts⟩ (metX1_fromDay l D k H.size qx ad75 y75 m75 d75 v97 v99) (cwV 2 hts (lw_V q528 q529 q530 q2 q531) rfl rfl rfl (by decide +kernel) ⟨Nat.le_of_ble_eq_true rfl, Nat.le_of_ble_eq_true rfl⟩) (aV_start (X := xT) xT_mv (va_recv hKc hPc (ci := 0) (q0 := 0) rfl rfl) hPc hKc hDc hCc trivial) rfl rfl hl.1 rfl (lv_room (Nat.le_of_ble_eq_true rfl)) dX0_askedEnds_100 ⟨Nat.le_of_ble_eq_true rfl, Nat.le_of_ble_eq_true rfl⟩) hS (fun q _ h => hFc q h) hFc (fun r100 u t H1 locs ht hvm hw hB hz1 hk1 hS => ?_)
  obtain ⟨y100, m100, d100⟩ := u
  obtain ⟨ad100, hP1, hK1, hD1⟩ := hB
  rw [ht] at hP1
  have hK1 := va_K.moved hvm.symm hK1
  have p100 : (-365243219162 ≤ (jn v97 v99).toInt ∧ (jn v97 v99).toInt ≤ 365241780471 → r100 = 1 ∧ gd (jn v97 v99).toInt y100 m100 d100) ∧ (¬ (-365243219162 ≤ (jn v97 v99).toInt ∧ (jn v97 v99).toInt ≤ 365241780471) → r100 = 0 ∧ (y100, m100, d100) = (y75, m75, d75)) := hw
  have w100 := p100.1 ⟨by rw [zj100]; omega, by rw [zj100]; omega⟩
  have hg100 : gd (-365243219162) y100 m100 d100 := by have e9 := w100.2; rw [zj100] at e9; exact e9
  obtain ⟨hP, hD⟩ := va_join (wr := []) (w1 := [(qx, .inr (0, [.ref ad100])), (ad100, .inr (1, [.int y100, .int m100, .int d100]))]) hP hD [0, 1] [] rfl rfl (by decide) (by decide) hk1 hFc hP1 hD1
  have hK := (hK.sub (tys' := []) [] rfl).app hK1
  generalize H1 = H at hP hS ⊢
  have hP : va_P D vwC [(qx, .inr (0, [.ref ad100])), (ad100, .inr (1, [.int y100, .int m100, .int d100]))] H := hP
  have hD : va_D A [(qx, .inr (0, [.ref ad100])), (ad100, .inr (1, [.int y100, .int m100, .int d100]))] := hD
  have hK : va_K D vwC [] s := hK
  refine W.widen (k := 9) (n := 27) (Nat.le_of_ble_eq_true rfl) (Nat.le_of_ble_eq_true rfl) ?_
  have z100 : 1 = r100 := w100.1.symm
  subst z100
  obtain ⟨hy9, hm9, hd9⟩ := ca_uniq hg100.1 ca_Dmin
  have hc9 : ca_cum (ca_L y100.toInt) m100.toInt = 0 := by rw [hm9]; rfl
  have hL9 : ca_L y100.toInt = 0 := by rw [hy9]; decide +kernel
  have hl9 : ca_ln (ca_L y100.toInt) m100.toInt = 31 := by rw [hm9]; rfl
  refine lv_if_eq (tgt := 155) hx hb dX0_askedEnds_103 (by decide) (fun c0 => absurd ((ic_eq (X := 1) (Y := 0) (by decide +kernel) (by decide +kernel)).mp c0) (by decide)) (fun c103 => ?_)
  refine lv_aload_n hx hb dX0_askedEnds_106 rfl (lv_at hl 2 rfl) ?_
  have g107 : fCD k qx ad100 y100 m100 d100 s H := ⟨cst_narrow (cst_kept hC hS.2.1) (fF_no _), dc_cell hts hK hP 0 1 rfl rfl (fun h => h) (fun h => h)⟩
  refine vp_callSi (W.runV (As := []) (rest := []) ⟨hx, hb, hml, hown, hts⟩ (metX1_year l k qx ad100 y100 m100 d100) (cwV 0 hts (lw_V q535 q536 q537 q2 q538) rfl rfl rfl (by decide +kernel) ⟨Nat.le_of_ble_eq_true rfl, Nat.le_of_ble_eq_true rfl⟩) (pV_start (F := fCD k qx ad100 y100 m100 d100) fCD_mv (cs_recv (g107.2.1.1)) g107) rfl rfl hl.1 rfl (lv_room (Nat.le_of_ble_eq_true rfl)) dX0_askedEnds_107 ⟨Nat.le_of_ble_eq_true rfl, Nat.le_of_ble_eq_true rfl⟩) (fun r107 pr107 => ?_)
  have pr107 : r107 = y100 := pr107
  have pr107 := pr107.symm
  subst pr107
  refine lv_ldc (v := (-999999999)) hx hb hown (hts _ q709) dX0_askedEnds_110 ?_
  refine lv_icmp_ne (tgt := 155) hx hb dX0_askedEnds_112 (by decide) (fun c0 => absurd ((ic_eq (X := y100.toInt) (Y := (-999999999)) rfl (by decide +kernel)).mpr (by omega)) c0) (fun c112 => ?_)
  refine lv_aload_n hx hb dX0_askedEnds_115 rfl (lv_at hl 2 rfl) ?_
  have g116 : fCD k qx ad100 y100 m100 d100 s H := ⟨cst_narrow (cst_kept hC hS.2.1) (fF_no _), dc_cell hts hK hP 0 1 rfl rfl (fun h => h) (fun h => h)⟩
  refine vp_callSi (W.runV (As := []) (rest := []) ⟨hx, hb, hml, hown, hts⟩ (metX1_month l k qx ad100 y100 m100 d100) (cwV 0 hts (lw_V q543 q544 q545 q2 q546) rfl rfl rfl (by decide +kernel) ⟨Nat.le_of_ble_eq_true rfl, Nat.le_of_ble_eq_true rfl⟩) (pV_start (F := fCD k qx ad100 y100 m100 d100) fCD_mv (cs_recv (g116.2.1.1)) g116) rfl rfl hl.1 rfl (lv_room (Nat.le_of_ble_eq_true rfl)) dX0_askedEnds_116 ⟨Nat.le_of_ble_eq_true rfl, Nat.le_of_ble_eq_true rfl⟩) (fun r116 pr116 => ?_)
  have pr116 : r116 = m100 := pr116
  have pr116 := pr116.symm
  subst pr116
  refine lv_iconst (v := 1) hx hb dX0_askedEnds_119 (by decide +kernel) ?_
  refine lv_icmp_ne (tgt := 155) hx hb dX0_askedEnds_120 (by decide) (fun c0 => absurd ((ic_eq (X := m100.toInt) (Y := 1) rfl (by decide +kernel)).mpr (by omega)) c0) (fun c120 => ?_)
  refine lv_aload_n hx hb dX0_askedEnds_123 rfl (lv_at hl 2 rfl) ?_
  have g124 : fCD k qx ad100 y100 m100 d100 s H := ⟨cst_narrow (cst_kept hC hS.2.1) (fF_no _), dc_cell hts hK hP 0 1 rfl rfl (fun h => h) (fun h => h)⟩
  refine vp_callSi (W.runV (As := []) (rest := []) ⟨hx, hb, hml, hown, hts⟩ (metX1_dayOfMonth l k qx ad100 y100 m100 d100) (cwV 0 hts (lw_V q551 q552 q553 q2 q554) rfl rfl rfl (by decide +kernel) ⟨Nat.le_of_ble_eq_true rfl, Nat.le_of_ble_eq_true rfl⟩) (pV_start (F := fCD k qx ad100 y100 m100 d100) fCD_mv (cs_recv (g124.2.1.1)) g124) rfl rfl hl.1 rfl (lv_room (Nat.le_of_ble_eq_true rfl)) dX0_askedEnds_124 ⟨Nat.le_of_ble_eq_true rfl, Nat.le_of_ble_eq_true rfl⟩) (fun r124 pr124 => ?_)
  have pr124 : r124 = d100 := pr124
  have pr124 := pr124.symm
  subst pr124
  refine lv_iconst (v := 1) hx hb dX0_askedEnds_127 (by decide +kernel) ?_
  refine lv_icmp_ne (tgt := 155) hx hb dX0_askedEnds_128 (by decide) (fun c0 => absurd ((ic_eq (X := d100.toInt) (Y := 1) rfl (by decide +kernel)).mpr (by omega)) c0) (fun c128 => ?_)
  refine lv_aload_n hx hb dX0_askedEnds_131 rfl (lv_at hl 2 rfl) ?_
  have g132 : fCD k qx ad100 y100 m100 d100 s H := ⟨cst_narrow (cst_kept hC hS.2.1) (fF_no _), dc_cell hts hK hP 0 1 rfl rfl (fun h => h) (fun h => h)⟩
  refine vp_callSi (W.runV (As := []) (rest := []) ⟨hx, hb, hml, hown, hts⟩ (metX1_dayOfYear l k qx ad100 y100 m100 d100 (-365243219162) hg100) (cwV 0 hts (lw_V q559 q560 q561 q2 q562) rfl rfl rfl (by decide +kernel) ⟨Nat.le_of_ble_eq_true rfl, Nat.le_of_ble_eq_true rfl⟩) (pV_start (F := fCD k qx ad100 y100 m100 d100) fCD_mv (cs_recv (g132.2.1.1)) g132) rfl rfl hl.1 rfl (lv_room (Nat.le_of_ble_eq_true rfl)) dX0_askedEnds_132 ⟨Nat.le_of_ble_eq_true rfl, Nat.le_of_ble_eq_true rfl⟩) (fun r132 pr132 => ?_)
  have pr132 : r132.toInt = ca_cum (ca_L y100.toInt) m100.toInt + d100.toInt := pr132
  refine lv_iconst (v := 1) hx hb dX0_askedEnds_135 (by decide +kernel) ?_
  refine lv_icmp_ne (tgt := 155) hx hb dX0_askedEnds_136 (by decide) (fun c0 => absurd ((ic_eq (X := r132.toInt) (Y := 1) rfl (by decide +kernel)).mpr (by omega)) c0) (fun c136 => ?_)
  refine lv_aload_n hx hb dX0_askedEnds_139 rfl (lv_at hl 2 rfl) ?_
  have g140 : fCD k qx ad100 y100 m100 d100 s H := ⟨cst_narrow (cst_kept hC hS.2.1) (fF_no _), dc_cell hts hK hP 0 1 rfl rfl (fun h => h) (fun h => h)⟩
  refine vp_callSi (W.runV (As := []) (rest := []) ⟨hx, hb, hml, hown, hts⟩ (metX1_leap l k qx ad100 y100 m100 d100) (cwV 0 hts (lw_V q627 q628 q629 q2 q630) rfl rfl rfl (by decide +kernel) ⟨Nat.le_of_ble_eq_true rfl, Nat.le_of_ble_eq_true rfl⟩) (pV_start (F := fCD k qx ad100 y100 m100 d100) fCD_mv (cs_recv (g140.2.1.1)) g140) rfl rfl hl.1 rfl (lv_room (Nat.le_of_ble_eq_true rfl)) dX0_askedEnds_140 ⟨Nat.le_of_ble_eq_true rfl, Nat.le_of_ble_eq_true rfl⟩) (fun r140 pr140 => ?_)
  have pr140 : r140 = lB y100.toInt := pr140
  have pr140 := pr140.symm
  subst pr140
  refine lv_if_ne (tgt := 155) hx hb dX0_askedEnds_143 (by decide) (fun c0 => absurd ((ic_eq (X := (ca_L y100.toInt)) (Y := 0) (lB_I _) (by decide +kernel)).mpr (by omega)) c0) (fun c143 => ?_)
  refine lv_aload_n hx hb dX0_askedEnds_146 rfl (lv_at hl 2 rfl) ?_
  have g147 : fCD k qx ad100 y100 m100 d100 s H := ⟨cst_narrow (cst_kept hC hS.2.1) (fF_no _), dc_cell hts hK hP 0 1 rfl rfl (fun h => h) (fun h => h)⟩
  refine vp_callSi (W.runV (As := []) (rest := []) ⟨hx, hb, hml, hown, hts⟩ (metX1_monthLength l k qx ad100 y100 m100 d100 (-365243219162) hg100) (cwV 0 hts (lw_V q632 q633 q634 q2 q635) rfl rfl rfl (by decide +kernel) ⟨Nat.le_of_ble_eq_true rfl, Nat.le_of_ble_eq_true rfl⟩) (pV_start (F := fCD k qx ad100 y100 m100 d100) fCD_mv (cs_recv (g147.2.1.1)) g147) rfl rfl hl.1 rfl (lv_room (Nat.le_of_ble_eq_true rfl)) dX0_askedEnds_147 ⟨Nat.le_of_ble_eq_true rfl, Nat.le_of_ble_eq_true rfl⟩) (fun r147 pr147 => ?_)
  have pr147 : r147.toInt = ca_ln (ca_L y100.toInt) m100.toInt := pr147
  refine lv_bipush (v := 31) hx hb dX0_askedEnds_150 (by decide +kernel) ?_
  refine lv_icmp_eq (tgt := 157) hx hb dX0_askedEnds_152 (by decide) (fun c152 => ?_) (fun c0 => absurd ((ic_eq (X := r147.toInt) (Y := 31) rfl (by decide +kernel)).mpr (by omega)) c0)
  refine lv_aload_n hx hb dX0_askedEnds_157 rfl (lv_at hl 2 rfl) ?_
  refine lv_lload hx hb dX0_askedEnds_158 (lv_at hl 0 rfl) ?_
  refine lv_bipush (v := 32) hx hb dX0_askedEnds_160 (by decide +kernel) ?_
  refine lv_lshr (v := (365241780471 : Int64) >>> ((32 : Int32).toInt64 &&& 63)) hx hb dX0_askedEnds_162 rfl ?_
  refine lv_topl (fun v162 ev162 => ?_)
  refine lv_l2i (v := (v162 : Int64).toInt32) hx hb dX0_askedEnds_163 rfl ?_
  refine lv_topi (fun v163 ev163 => ?_)
  refine lv_lload hx hb dX0_askedEnds_164 (lv_at hl 0 rfl) ?_
  refine lv_l2i (v := (365241780471 : Int64).toInt32) hx hb dX0_askedEnds_166 rfl ?_
  refine lv_topi (fun v166 ev166 => ?_)
  have zj167 : (jn v163 v166).toInt = 365241780471 := by rw [show jn v163 v166 = 365241780471 by rw [ev163, ev162, ev166]; exact jn_back _]; decide +kernel
  have hPc := hP.sub (ws' := [(qx, .inr (0, [.ref ad100])), (ad100, .inr (1, [.int y100, .int m100, .int d100]))]) [0, 1] rfl
  have hDc := hD.sub (ws' := [(qx, .inr (0, [.ref ad100])), (ad100, .inr (1, [.int y100, .int m100, .int d100]))]) [0, 1] (by decide) rfl
  have hKc := hK.sub (tys' := []) [] rfl
  have hFc := va_free (wc := [(qx, .inr (0, [.ref ad100])), (ad100, .inr (1, [.int y100, .int m100, .int d100]))]) hD hS hA [0, 1] rfl
  have hCc := cst_narrow (cst_kept hC hS.2.1) hFc
  refine va_calli (va_runV (As := [.int v163, .int v166]) (rest := []) ⟨hx, hb, hml, hown, hts⟩ (metX1_fromDay l D k H.size qx ad100 y100 m100 d100 v163 v166) (cwV 2 hts (lw_V q528 q529 q530 q2 q531) rfl rfl rfl (by decide +kernel) ⟨Nat.le_of_ble_eq_true rfl, Nat.le_of_ble_eq_true rfl⟩) (aV_start (X := xT) xT_mv (va_recv hKc hPc (ci := 0) (q0 := 0) rfl rfl) hPc hKc hDc hCc trivial) rfl rfl hl.1 rfl (lv_room (Nat.le_of_ble_eq_true rfl)) dX0_askedEnds_167 ⟨Nat.le_of_ble_eq_true rfl, Nat.le_of_ble_eq_true rfl⟩) hS (fun q _ h => hFc q h) hFc (fun r167 u t H1 locs ht hvm hw hB hz1 hk1 hS => ?_)
  obtain ⟨y167, m167, d167⟩ := u
  obtain ⟨ad167, hP1, hK1, hD1⟩ := hB
  rw [ht] at hP1
  have hK1 := va_K.moved hvm.symm hK1
  have p167 : (-365243219162 ≤ (jn v163 v166).toInt ∧ (jn v163 v166).toInt ≤ 365241780471 → r167 = 1 ∧ gd (jn v163 v166).toInt y167 m167 d167) ∧ (¬ (-365243219162 ≤ (jn v163 v166).toInt ∧ (jn v163 v166).toInt ≤ 365241780471) → r167 = 0 ∧ (y167, m167, d167) = (y100, m100, d100)) := hw
  have w167 := p167.1 ⟨by rw [zj167]; omega, by rw [zj167]; omega⟩
  have hg167 : gd (365241780471) y167 m167 d167 := by have e9 := w167.2; rw [zj167] at e9; exact e9
  obtain ⟨hP, hD⟩ := va_join (wr := []) (w1 := [(qx, .inr (0, [.ref ad167])), (ad167, .inr (1, [.int y167, .int m167, .int d167]))]) hP hD [0, 1] [] rfl rfl (by decide) (by decide) hk1 hFc hP1 hD1
  have hK := (hK.sub (tys' := []) [] rfl).app hK1
  generalize H1 = H at hP hS ⊢
  have hP : va_P D vwC [(qx, .inr (0, [.ref ad167])), (ad167, .inr (1, [.int y167, .int m167, .int d167]))] H := hP
  have hD : va_D A [(qx, .inr (0, [.ref ad167])), (ad167, .inr (1, [.int y167, .int m167, .int d167]))] := hD
  have hK : va_K D vwC [] s := hK
  refine W.widen (k := 10) (n := 30) (Nat.le_of_ble_eq_true rfl) (Nat.le_of_ble_eq_true rfl) ?_
  have z167 : 1 = r167 := w167.1.symm
  subst z167
  clear hy9 hm9 hd9 hc9 hL9 hl9
  obtain ⟨hy9, hm9, hd9⟩ := ca_uniq hg167.1 ca_Dmax
  have hL9 : ca_L y167.toInt = 0 := by rw [hy9]; decide +kernel
  have hc9 : ca_cum (ca_L y167.toInt) m167.toInt = 334 := by rw [hm9, hL9]; decide +kernel
  have hl9 : ca_ln (ca_L y167.toInt) m167.toInt = 31 := by rw [hm9]; rfl
  refine lv_if_eq (tgt := 240) hx hb dX0_askedEnds_170 (by decide) (fun c0 => absurd ((ic_eq (X := 1) (Y := 0) (by decide +kernel) (by decide +kernel)).mp c0) (by decide)) (fun c170 => ?_)
  refine lv_aload_n hx hb dX0_askedEnds_173 rfl (lv_at hl 2 rfl) ?_
  have g174 : fCD k qx ad167 y167 m167 d167 s H := ⟨cst_narrow (cst_kept hC hS.2.1) (fF_no _), dc_cell hts hK hP 0 1 rfl rfl (fun h => h) (fun h => h)⟩
  refine vp_callSi (W.runV (As := []) (rest := []) ⟨hx, hb, hml, hown, hts⟩ (metX1_year l k qx ad167 y167 m167 d167) (cwV 0 hts (lw_V q535 q536 q537 q2 q538) rfl rfl rfl (by decide +kernel) ⟨Nat.le_of_ble_eq_true rfl, Nat.le_of_ble_eq_true rfl⟩) (pV_start (F := fCD k qx ad167 y167 m167 d167) fCD_mv (cs_recv (g174.2.1.1)) g174) rfl rfl hl.1 rfl (lv_room (Nat.le_of_ble_eq_true rfl)) dX0_askedEnds_174 ⟨Nat.le_of_ble_eq_true rfl, Nat.le_of_ble_eq_true rfl⟩) (fun r174 pr174 => ?_)
  have pr174 : r174 = y167 := pr174
  have pr174 := pr174.symm
  subst pr174
  refine lv_ldc (v := 999999999) hx hb hown (hts _ q710) dX0_askedEnds_177 ?_
  refine lv_icmp_ne (tgt := 240) hx hb dX0_askedEnds_179 (by decide) (fun c0 => absurd ((ic_eq (X := y167.toInt) (Y := 999999999) rfl (by decide +kernel)).mpr (by omega)) c0) (fun c179 => ?_)
  refine lv_aload_n hx hb dX0_askedEnds_182 rfl (lv_at hl 2 rfl) ?_
  have g183 : fCD k qx ad167 y167 m167 d167 s H := ⟨cst_narrow (cst_kept hC hS.2.1) (fF_no _), dc_cell hts hK hP 0 1 rfl rfl (fun h => h) (fun h => h)⟩
  refine vp_callSi (W.runV (As := []) (rest := []) ⟨hx, hb, hml, hown, hts⟩ (metX1_month l k qx ad167 y167 m167 d167) (cwV 0 hts (lw_V q543 q544 q545 q2 q546) rfl rfl rfl (by decide +kernel) ⟨Nat.le_of_ble_eq_true rfl, Nat.le_of_ble_eq_true rfl⟩) (pV_start (F := fCD k qx ad167 y167 m167 d167) fCD_mv (cs_recv (g183.2.1.1)) g183) rfl rfl hl.1 rfl (lv_room (Nat.le_of_ble_eq_true rfl)) dX0_askedEnds_183 ⟨Nat.le_of_ble_eq_true rfl, Nat.le_of_ble_eq_true rfl⟩) (fun r183 pr183 => ?_)
  have pr183 : r183 = m167 := pr183
  have pr183 := pr183.symm
  subst pr183
  refine lv_bipush (v := 12) hx hb dX0_askedEnds_186 (by decide +kernel) ?_
  refine lv_icmp_ne (tgt := 240) hx hb dX0_askedEnds_188 (by decide) (fun c0 => absurd ((ic_eq (X := m167.toInt) (Y := 12) rfl (by decide +kernel)).mpr (by omega)) c0) (fun c188 => ?_)
  refine lv_aload_n hx hb dX0_askedEnds_191 rfl (lv_at hl 2 rfl) ?_
  have g192 : fCD k qx ad167 y167 m167 d167 s H := ⟨cst_narrow (cst_kept hC hS.2.1) (fF_no _), dc_cell hts hK hP 0 1 rfl rfl (fun h => h) (fun h => h)⟩
  refine vp_callSi (W.runV (As := []) (rest := []) ⟨hx, hb, hml, hown, hts⟩ (metX1_dayOfMonth l k qx ad167 y167 m167 d167) (cwV 0 hts (lw_V q551 q552 q553 q2 q554) rfl rfl rfl (by decide +kernel) ⟨Nat.le_of_ble_eq_true rfl, Nat.le_of_ble_eq_true rfl⟩) (pV_start (F := fCD k qx ad167 y167 m167 d167) fCD_mv (cs_recv (g192.2.1.1)) g192) rfl rfl hl.1 rfl (lv_room (Nat.le_of_ble_eq_true rfl)) dX0_askedEnds_192 ⟨Nat.le_of_ble_eq_true rfl, Nat.le_of_ble_eq_true rfl⟩) (fun r192 pr192 => ?_)
  have pr192 : r192 = d167 := pr192
  have pr192 := pr192.symm
  subst pr192
  refine lv_bipush (v := 31) hx hb dX0_askedEnds_195 (by decide +kernel) ?_
  refine lv_icmp_ne (tgt := 240) hx hb dX0_askedEnds_197 (by decide) (fun c0 => absurd ((ic_eq (X := d167.toInt) (Y := 31) rfl (by decide +kernel)).mpr (by omega)) c0) (fun c197 => ?_)
  refine lv_aload_n hx hb dX0_askedEnds_200 rfl (lv_at hl 2 rfl) ?_
  have g201 : fCD k qx ad167 y167 m167 d167 s H := ⟨cst_narrow (cst_kept hC hS.2.1) (fF_no _), dc_cell hts hK hP 0 1 rfl rfl (fun h => h) (fun h => h)⟩
  refine vp_callSi (W.runV (As := []) (rest := []) ⟨hx, hb, hml, hown, hts⟩ (metX1_dayOfYear l k qx ad167 y167 m167 d167 (365241780471) hg167) (cwV 0 hts (lw_V q559 q560 q561 q2 q562) rfl rfl rfl (by decide +kernel) ⟨Nat.le_of_ble_eq_true rfl, Nat.le_of_ble_eq_true rfl⟩) (pV_start (F := fCD k qx ad167 y167 m167 d167) fCD_mv (cs_recv (g201.2.1.1)) g201) rfl rfl hl.1 rfl (lv_room (Nat.le_of_ble_eq_true rfl)) dX0_askedEnds_201 ⟨Nat.le_of_ble_eq_true rfl, Nat.le_of_ble_eq_true rfl⟩) (fun r201 pr201 => ?_)
  have pr201 : r201.toInt = ca_cum (ca_L y167.toInt) m167.toInt + d167.toInt := pr201
  refine lv_sipush (v := 365) hx hb dX0_askedEnds_204 (by decide +kernel) ?_
  refine lv_icmp_ne (tgt := 240) hx hb dX0_askedEnds_207 (by decide) (fun c0 => absurd ((ic_eq (X := r201.toInt) (Y := 365) rfl (by decide +kernel)).mpr (by omega)) c0) (fun c207 => ?_)
  refine lv_aload_n hx hb dX0_askedEnds_210 rfl (lv_at hl 2 rfl) ?_
  have g211 : fCD k qx ad167 y167 m167 d167 s H := ⟨cst_narrow (cst_kept hC hS.2.1) (fF_no _), dc_cell hts hK hP 0 1 rfl rfl (fun h => h) (fun h => h)⟩
  refine vp_callSi (W.runV (As := []) (rest := []) ⟨hx, hb, hml, hown, hts⟩ (metX1_leap l k qx ad167 y167 m167 d167) (cwV 0 hts (lw_V q627 q628 q629 q2 q630) rfl rfl rfl (by decide +kernel) ⟨Nat.le_of_ble_eq_true rfl, Nat.le_of_ble_eq_true rfl⟩) (pV_start (F := fCD k qx ad167 y167 m167 d167) fCD_mv (cs_recv (g211.2.1.1)) g211) rfl rfl hl.1 rfl (lv_room (Nat.le_of_ble_eq_true rfl)) dX0_askedEnds_211 ⟨Nat.le_of_ble_eq_true rfl, Nat.le_of_ble_eq_true rfl⟩) (fun r211 pr211 => ?_)
  have pr211 : r211 = lB y167.toInt := pr211
  have pr211 := pr211.symm
  subst pr211
  refine lv_if_ne (tgt := 240) hx hb dX0_askedEnds_214 (by decide) (fun c0 => absurd ((ic_eq (X := (ca_L y167.toInt)) (Y := 0) (lB_I _) (by decide +kernel)).mpr (by omega)) c0) (fun c214 => ?_)
  refine lv_aload_n hx hb dX0_askedEnds_217 rfl (lv_at hl 2 rfl) ?_
  have g218 : fCD k qx ad167 y167 m167 d167 s H := ⟨cst_narrow (cst_kept hC hS.2.1) (fF_no _), dc_cell hts hK hP 0 1 rfl rfl (fun h => h) (fun h => h)⟩
  refine vp_callSi (W.runV (As := []) (rest := []) ⟨hx, hb, hml, hown, hts⟩ (metX1_monthLength l k qx ad167 y167 m167 d167 (365241780471) hg167) (cwV 0 hts (lw_V q632 q633 q634 q2 q635) rfl rfl rfl (by decide +kernel) ⟨Nat.le_of_ble_eq_true rfl, Nat.le_of_ble_eq_true rfl⟩) (pV_start (F := fCD k qx ad167 y167 m167 d167) fCD_mv (cs_recv (g218.2.1.1)) g218) rfl rfl hl.1 rfl (lv_room (Nat.le_of_ble_eq_true rfl)) dX0_askedEnds_218 ⟨Nat.le_of_ble_eq_true rfl, Nat.le_of_ble_eq_true rfl⟩) (fun r218 pr218 => ?_)
  have pr218 : r218.toInt = ca_ln (ca_L y167.toInt) m167.toInt := pr218
  refine lv_bipush (v := 31) hx hb dX0_askedEnds_221 (by decide +kernel) ?_
  refine lv_icmp_ne (tgt := 240) hx hb dX0_askedEnds_223 (by decide) (fun c0 => absurd ((ic_eq (X := r218.toInt) (Y := 31) rfl (by decide +kernel)).mpr (by omega)) c0) (fun c223 => ?_)
  refine lv_aload_n hx hb dX0_askedEnds_226 rfl (lv_at hl 2 rfl) ?_
  have g227 : fCD k qx ad167 y167 m167 d167 s H := ⟨cst_narrow (cst_kept hC hS.2.1) (fF_no _), dc_cell hts hK hP 0 1 rfl rfl (fun h => h) (fun h => h)⟩
  refine vp_callSl (W.runV (As := []) (rest := []) ⟨hx, hb, hml, hown, hts⟩ (metX1_epochDay l k qx ad167 y167 m167 d167 (365241780471) hg167) (cwV 0 hts (lw_V q643 q644 q645 q2 q646) rfl rfl rfl (by decide +kernel) ⟨Nat.le_of_ble_eq_true rfl, Nat.le_of_ble_eq_true rfl⟩) (pV_start (F := fCD k qx ad167 y167 m167 d167) fCD_mv (cs_recv (g227.2.1.1)) g227) rfl rfl hl.1 rfl (lv_room (Nat.le_of_ble_eq_true rfl)) dX0_askedEnds_227 ⟨Nat.le_of_ble_eq_true rfl, Nat.le_of_ble_eq_true rfl⟩) (fun r227 pr227 => ?_)
  have pr227 : r227.toInt = 365241780471 := pr227
  refine lv_lload hx hb dX0_askedEnds_230 (lv_at hl 0 rfl) ?_
  refine W.lcmp hx hb dX0_askedEnds_232 ?_
  refine lv_if_ne (tgt := 240) hx hb dX0_askedEnds_233 (by decide) (fun c0 => absurd ((cm_eq0 (X := r227.toInt) (Y := 365241780471) rfl (by decide +kernel)).mpr (by omega)) c0) (fun c233 => ?_)
  refine lv_iconst (v := 1) hx hb dX0_askedEnds_236 (by decide +kernel) ?_
  refine lv_goto (tgt := 241) hx hb dX0_askedEnds_237 (by decide) ?_
  refine W.widen (k := 10) (n := 30) (Nat.le_of_ble_eq_true rfl) (Nat.le_of_ble_eq_true rfl) ?_
  exact W.zret (v := 1) hx hb hr rfl (fun t ht hW => ⟨⟨1, (), rfl, rfl, trivial⟩, hS.F ht⟩) hS.2.2 dX0_askedEnds_241
end
section
/-! THE LAW'S ELDER CHECK (printed by wip/D-29837w/gen/law3.py) -/
set_option maxRecDepth 100000
set_option maxHeartbeats 4000000 in
set_option maxRecDepth 100000 in
/-- elder: true on every script -/
theorem metX0_elder (l : Launch) (D : va_G) (k : Nat → Nat) (sz : Nat) (b L : Nat) (xs : Nat → Int32) (hL2 : L ≤ 2) : Met l yX0_elder (ws_ yX0_elder cX0_elder 11 (some .boolean)) ({ frames := 8, cells := 7, slots := 17, locals := 187 }) (va_Pc [.ref b] (al D k [] sz (xX b L xs))) (va_Qi (fun (r : Int32) (u : Unit) => r = 1) (b0) (va_A [] sz)) 7 17 (va_A [] sz) := by
  refine Met.ofW (cc := cX0_elder) (maxL := 11) (ret := (some .boolean)) (by decide +kernel) rfl ?_
  intro p e s mi args below me_ c s₁ B hml hv
  obtain ⟨rfl, hsz, hP, hK, hD0, hC, hX⟩ := hv
  have hx := B.exec
  have hb := B.bytes
  have hr := B.returns
  have hts := atoms_spec (ws := ws_ yX0_elder cX0_elder 11 (some .boolean)) B.pre
  have hts : ∀ w ∈ lw_all, w.before _ s = true := fun w h => hts w (List.mem_cons_of_mem _ h)
  have hown : s.vm.findClass RX0 = some mi.cls := findClass_of_methodNamed B.named
  have hlocks := B.notSynchronized
  have hl := lv_entry ([.ref b]) (n := 11) (Nat.le_of_ble_eq_true rfl)
  rw [lg_entry_eq]
  generalize (lg_sl ([.ref b]) ++ List.replicate (11 - (lg_sl ([.ref b])).length) Slot.unset).toArray = ls at hl ⊢
  have hl : lv_has ls 11 [(0, .ref b)] := hl
  subst hsz
  have hD := hD0.self (sz := s.heap.size)
  generalize hAe : va_A [] s.heap.size = A at hD hC hX ⊢
  have hA : ∀ q : Nat, s.heap.size ≤ q → A q := fun q h => by rw [← hAe]; exact Or.inr h
  have hS : va_S A s.heap s.heap [] := va_S.rf
  have hP : va_P D vwC [] s.heap := hP
  have hPc := hP.sub (ws' := []) [] rfl
  have hDc := hD.sub (ws' := []) [] (by decide) rfl
  have hKc := hK.sub (tys' := []) [] rfl
  have hFc := va_free (wc := []) hD hS hA [] rfl
  have hCc := cst_narrow (cst_kept hC hS.2.1) hFc
  refine va_calli (va_runS (As := []) (rest := []) ⟨hx, hb, hml, hown, hts⟩ (metX0_known l D k s.heap.size ) (va_cwS 0 hts (lw_S q35 q36 q1 q37) rfl rfl rfl (by decide +kernel) ⟨Nat.le_of_ble_eq_true rfl, Nat.le_of_ble_eq_true rfl⟩) (aS_start (X := xT) xT_mv hPc hKc hDc hCc trivial) rfl rfl hl.1 rfl (lv_room (Nat.le_of_ble_eq_true rfl)) dX0_elder_0 ⟨Nat.le_of_ble_eq_true rfl, Nat.le_of_ble_eq_true rfl⟩) hS (fun q _ h => hFc q h) hFc (fun r0 u t H1 locs ht hvm hw hB hz1 hk1 hS => ?_)
  have hP1 : va_P D vwC [] H1 := vP0
  have hD1 : va_D (va_A [] s.heap.size) [] := vD0
  have hK1 := hKc
  have p0 : r0 = 1 := hw
  obtain ⟨hP, hD⟩ := va_join (wr := []) (w1 := []) hP hD [] [] rfl rfl (by decide) (by decide) hk1 hFc hP1 hD1
  have hK := (hK.sub (tys' := []) [] rfl).app hK1
  generalize H1 = H at hP hS ⊢
  have hP : va_P D vwC [] H := hP
  have hD : va_D A [] := hD
  have hK : va_K D vwC [] s := hK
  refine W.widen (k := 3) (n := 7) (Nat.le_of_ble_eq_true rfl) (Nat.le_of_ble_eq_true rfl) ?_
  have z0 : 1 = r0 := p0.symm
  subst z0
  refine lv_if_ne (tgt := 8) hx hb dX0_elder_3 (by decide) (fun c3 => ?_) (fun c0 => absurd ((ic_eq (X := 1) (Y := 0) (by decide +kernel) (by decide +kernel)).mp c0) (by decide))
  refine lv_aload_n hx hb dX0_elder_8 rfl (lv_at hl 0 rfl) ?_
  refine lv_iconst (v := 0) hx hb dX0_elder_9 (by decide +kernel) ?_
  have g10 : fX b L xs s H := (hX.1.kept (hS.2.1 b hX.2.2 hX.2.1))
  refine vp_callSi (W.runS (As := [.ref b, .int 0]) (rest := []) ⟨hx, hb, hml, hown, hts⟩ (metX0_cell l b L 0 xs (by decide) hL2) (va_cwS 2 hts (lw_S q29 q30 q1 q31) rfl rfl rfl (by decide +kernel) ⟨Nat.le_of_ble_eq_true rfl, Nat.le_of_ble_eq_true rfl⟩) (pS_start (F := fX b L xs) fX_mv g10) rfl rfl hl.1 rfl (lv_room (Nat.le_of_ble_eq_true rfl)) dX0_elder_10 ⟨Nat.le_of_ble_eq_true rfl, Nat.le_of_ble_eq_true rfl⟩) (fun r10 pr10 => ?_)
  refine lv_i2l (v := (r10).toInt64) hx hb dX0_elder_13 rfl ?_
  refine lv_topl (fun v13 ev13 => ?_)
  have tv13 : v13.toInt = r10.toInt := ll_i2l ev13 rfl
  refine lv_bipush (v := 32) hx hb dX0_elder_14 (by decide +kernel) ?_
  refine lv_lshl (v := (v13 : Int64) <<< ((32 : Int32).toInt64 &&& 63)) hx hb dX0_elder_16 rfl ?_
  refine lv_topl (fun v16 ev16 => ?_)
  refine lv_aload_n hx hb dX0_elder_17 rfl (lv_at hl 0 rfl) ?_
  refine lv_iconst (v := 1) hx hb dX0_elder_18 (by decide +kernel) ?_
  have g19 : fX b L xs s H := (hX.1.kept (hS.2.1 b hX.2.2 hX.2.1))
  refine vp_callSi (W.runS (As := [.ref b, .int 1]) (rest := [.long v16]) ⟨hx, hb, hml, hown, hts⟩ (metX0_cell l b L 1 xs (by decide) hL2) (va_cwS 2 hts (lw_S q29 q30 q1 q31) rfl rfl rfl (by decide +kernel) ⟨Nat.le_of_ble_eq_true rfl, Nat.le_of_ble_eq_true rfl⟩) (pS_start (F := fX b L xs) fX_mv g19) rfl rfl hl.1 rfl (lv_room (Nat.le_of_ble_eq_true rfl)) dX0_elder_19 ⟨Nat.le_of_ble_eq_true rfl, Nat.le_of_ble_eq_true rfl⟩) (fun r19 pr19 => ?_)
  refine lv_i2l (v := (r19).toInt64) hx hb dX0_elder_22 rfl ?_
  refine lv_topl (fun v22 ev22 => ?_)
  have tv22 : v22.toInt = r19.toInt := ll_i2l ev22 rfl
  refine lv_ldc2 (v := 4294967295) hx hb hown (hts _ q640) dX0_elder_23 ?_
  refine lv_land hx hb dX0_elder_26 ?_
  refine lv_topl (fun v26 ev26 => ?_)
  refine lv_lor hx hb dX0_elder_27 ?_
  refine lv_topl (fun v27 ev27 => ?_)
  refine lv_lstore_n (lv' := [(1, .long v27), (0, .ref b)]) hx hb dX0_elder_28 rfl hl (by decide) rfl (fun ls hl => ?_)
  refine w_cut (α := Int64) (fun a ls => lv_has ls 11 [(1, .long a), (0, .ref b)] ∧ -365243219162 ≤ a.toInt ∧ a.toInt < 365241780471) (fun a ls => F0 mi 52 ls []) ?_ ?_
  · rintro n ls ⟨hl, hn1, hn2⟩
    refine va_new (ci := 0) (fs := [.null]) (C := RX1) (T := TX1) (N := 1) hx hb hts in_X1 tyX1 tyX1_ok hown (hts _ q38) (hts _ q39) (hts _ q2) hK hP hD hS hA rfl (fun j hj => by rcases (show j = 0 by omega) with rfl <;> rfl) (Nat.le_of_ble_eq_true rfl) (Nat.le_of_ble_eq_true rfl) dX0_elder_52 (fun qx H hP hD hS => ?_)
    have hP : va_P D vwC [(qx, .inr (0, [.null]))] H := hP
    have hD : va_D A [(qx, .inr (0, [.null]))] := hD
    refine W.widen (k := 4) (n := 8) (Nat.le_of_ble_eq_true rfl) (Nat.le_of_ble_eq_true rfl) ?_
    refine lv_dup hx hb dX0_elder_55 rfl ?_
    have hPc := hP.sub (ws' := [(qx, .inr (0, [.null]))]) [0] rfl
    have hDc := hD.sub (ws' := [(qx, .inr (0, [.null]))]) [0] (by decide) rfl
    have hKc := hK.sub (tys' := []) [] rfl
    have hFc := va_free (wc := [(qx, .inr (0, [.null]))]) hD hS hA [0] rfl
    have hCc := cst_narrow (cst_kept hC hS.2.1) hFc
    refine va_callv (va_runI (As := []) (rest := [.ref qx]) ⟨hx, hb, hml, hown, hts⟩ (metX1_init l D k H.size qx) (cwI 0 hts (lw_meth q42) rfl rfl rfl (hts _ q2) (hts _ q40) (hts _ q41) rfl (by decide +kernel) ⟨Nat.le_of_ble_eq_true rfl, Nat.le_of_ble_eq_true rfl⟩) (aS_start (X := xT) xT_mv hPc hKc hDc hCc trivial) rfl rfl hl.1 rfl (lv_room (Nat.le_of_ble_eq_true rfl)) dX0_elder_56 ⟨Nat.le_of_ble_eq_true rfl, Nat.le_of_ble_eq_true rfl⟩) hS (fun q _ h => hFc q h) hFc (fun u t H1 locs ht hvm hw hB hz1 hk1 hS => ?_)
    obtain ⟨y56, m56, d56⟩ := u
    obtain ⟨ad56, hP1, hK1, hD1⟩ := hB
    rw [ht] at hP1
    have hK1 := va_K.moved hvm.symm hK1
    have p56 : gd 0 y56 m56 d56 := hw
    obtain ⟨hP, hD⟩ := va_join (wr := []) (w1 := [(qx, .inr (0, [.ref ad56])), (ad56, .inr (1, [.int y56, .int m56, .int d56]))]) hP hD [0] [] rfl rfl (by decide) (by decide) hk1 hFc hP1 hD1
    have hK := (hK.sub (tys' := []) [] rfl).app hK1
    generalize H1 = H at hP hS ⊢
    have hP : va_P D vwC [(qx, .inr (0, [.ref ad56])), (ad56, .inr (1, [.int y56, .int m56, .int d56]))] H := hP
    have hD : va_D A [(qx, .inr (0, [.ref ad56])), (ad56, .inr (1, [.int y56, .int m56, .int d56]))] := hD
    have hK : va_K D vwC [] s := hK
    refine W.widen (k := 5) (n := 11) (Nat.le_of_ble_eq_true rfl) (Nat.le_of_ble_eq_true rfl) ?_
    obtain ⟨hy9, hm9, hd9⟩ := ca_uniq p56.1 ca_D0
    refine lv_astore_n (lv' := [(3, .ref qx), (1, .long n), (0, .ref b)]) hx hb dX0_elder_59 rfl hl (by decide) rfl (fun ls hl => ?_)
    refine lv_aload_n hx hb dX0_elder_60 rfl (lv_at hl 0 rfl) ?_
    have g61 : fCD k qx ad56 y56 m56 d56 s H := ⟨cst_narrow (cst_kept hC hS.2.1) (fF_no _), dc_cell hts hK hP 0 1 rfl rfl (fun h => h) (fun h => h)⟩
    refine vp_callSl (W.runV (As := []) (rest := []) ⟨hx, hb, hml, hown, hts⟩ (metX1_epochDay l k qx ad56 y56 m56 d56 (0) p56) (cwV 0 hts (lw_V q643 q644 q645 q2 q646) rfl rfl rfl (by decide +kernel) ⟨Nat.le_of_ble_eq_true rfl, Nat.le_of_ble_eq_true rfl⟩) (pV_start (F := fCD k qx ad56 y56 m56 d56) fCD_mv (cs_recv (g61.2.1.1)) g61) rfl rfl hl.1 rfl (lv_room (Nat.le_of_ble_eq_true rfl)) dX0_elder_61 ⟨Nat.le_of_ble_eq_true rfl, Nat.le_of_ble_eq_true rfl⟩) (fun r61 pr61 => ?_)
    have pr61 : r61.toInt = 0 := pr61
    refine lv_lconst (v := 0) hx hb dX0_elder_64 (by decide +kernel) ?_
    refine W.lcmp hx hb dX0_elder_65 ?_
    refine lv_if_ne (tgt := 95) hx hb dX0_elder_66 (by decide) (fun c0 => absurd ((cm_eq0 (X := r61.toInt) (Y := 0) rfl (by decide +kernel)).mpr (by omega)) c0) (fun c66 => ?_)
    refine lv_aload_n hx hb dX0_elder_69 rfl (lv_at hl 0 rfl) ?_
    have g70 : fCD k qx ad56 y56 m56 d56 s H := ⟨cst_narrow (cst_kept hC hS.2.1) (fF_no _), dc_cell hts hK hP 0 1 rfl rfl (fun h => h) (fun h => h)⟩
    refine vp_callSi (W.runV (As := []) (rest := []) ⟨hx, hb, hml, hown, hts⟩ (metX1_year l k qx ad56 y56 m56 d56) (cwV 0 hts (lw_V q535 q536 q537 q2 q538) rfl rfl rfl (by decide +kernel) ⟨Nat.le_of_ble_eq_true rfl, Nat.le_of_ble_eq_true rfl⟩) (pV_start (F := fCD k qx ad56 y56 m56 d56) fCD_mv (cs_recv (g70.2.1.1)) g70) rfl rfl hl.1 rfl (lv_room (Nat.le_of_ble_eq_true rfl)) dX0_elder_70 ⟨Nat.le_of_ble_eq_true rfl, Nat.le_of_ble_eq_true rfl⟩) (fun r70 pr70 => ?_)
    have pr70 : r70 = y56 := pr70
    have pr70 := pr70.symm
    subst pr70
    refine lv_sipush (v := 1970) hx hb dX0_elder_73 (by decide +kernel) ?_
    refine lv_icmp_ne (tgt := 95) hx hb dX0_elder_76 (by decide) (fun c0 => absurd ((ic_eq (X := y56.toInt) (Y := 1970) rfl (by decide +kernel)).mpr (by omega)) c0) (fun c76 => ?_)
    refine lv_aload_n hx hb dX0_elder_79 rfl (lv_at hl 0 rfl) ?_
    have g80 : fCD k qx ad56 y56 m56 d56 s H := ⟨cst_narrow (cst_kept hC hS.2.1) (fF_no _), dc_cell hts hK hP 0 1 rfl rfl (fun h => h) (fun h => h)⟩
    refine vp_callSi (W.runV (As := []) (rest := []) ⟨hx, hb, hml, hown, hts⟩ (metX1_month l k qx ad56 y56 m56 d56) (cwV 0 hts (lw_V q543 q544 q545 q2 q546) rfl rfl rfl (by decide +kernel) ⟨Nat.le_of_ble_eq_true rfl, Nat.le_of_ble_eq_true rfl⟩) (pV_start (F := fCD k qx ad56 y56 m56 d56) fCD_mv (cs_recv (g80.2.1.1)) g80) rfl rfl hl.1 rfl (lv_room (Nat.le_of_ble_eq_true rfl)) dX0_elder_80 ⟨Nat.le_of_ble_eq_true rfl, Nat.le_of_ble_eq_true rfl⟩) (fun r80 pr80 => ?_)
    have pr80 : r80 = m56 := pr80
    have pr80 := pr80.symm
    subst pr80
    refine lv_iconst (v := 1) hx hb dX0_elder_83 (by decide +kernel) ?_
    refine lv_icmp_ne (tgt := 95) hx hb dX0_elder_84 (by decide) (fun c0 => absurd ((ic_eq (X := m56.toInt) (Y := 1) rfl (by decide +kernel)).mpr (by omega)) c0) (fun c84 => ?_)
    refine lv_aload_n hx hb dX0_elder_87 rfl (lv_at hl 0 rfl) ?_
    have g88 : fCD k qx ad56 y56 m56 d56 s H := ⟨cst_narrow (cst_kept hC hS.2.1) (fF_no _), dc_cell hts hK hP 0 1 rfl rfl (fun h => h) (fun h => h)⟩
    refine vp_callSi (W.runV (As := []) (rest := []) ⟨hx, hb, hml, hown, hts⟩ (metX1_dayOfMonth l k qx ad56 y56 m56 d56) (cwV 0 hts (lw_V q551 q552 q553 q2 q554) rfl rfl rfl (by decide +kernel) ⟨Nat.le_of_ble_eq_true rfl, Nat.le_of_ble_eq_true rfl⟩) (pV_start (F := fCD k qx ad56 y56 m56 d56) fCD_mv (cs_recv (g88.2.1.1)) g88) rfl rfl hl.1 rfl (lv_room (Nat.le_of_ble_eq_true rfl)) dX0_elder_88 ⟨Nat.le_of_ble_eq_true rfl, Nat.le_of_ble_eq_true rfl⟩) (fun r88 pr88 => ?_)
    have pr88 : r88 = d56 := pr88
    have pr88 := pr88.symm
    subst pr88
    refine lv_iconst (v := 1) hx hb dX0_elder_91 (by decide +kernel) ?_
    refine lv_icmp_eq (tgt := 97) hx hb dX0_elder_92 (by decide) (fun c92 => ?_) (fun c0 => absurd ((ic_eq (X := d56.toInt) (Y := 1) rfl (by decide +kernel)).mpr (by omega)) c0)
    refine lv_aload_n hx hb dX0_elder_97 rfl (lv_at hl 0 rfl) ?_
    refine lv_lload_n hx hb dX0_elder_98 rfl (lv_at hl 1 rfl) ?_
    refine lv_bipush (v := 32) hx hb dX0_elder_99 (by decide +kernel) ?_
    refine lv_lshr (v := (n : Int64) >>> ((32 : Int32).toInt64 &&& 63)) hx hb dX0_elder_101 rfl ?_
    refine lv_topl (fun v101 ev101 => ?_)
    refine lv_l2i (v := (v101 : Int64).toInt32) hx hb dX0_elder_102 rfl ?_
    refine lv_topi (fun v102 ev102 => ?_)
    refine lv_lload_n hx hb dX0_elder_103 rfl (lv_at hl 1 rfl) ?_
    refine lv_l2i (v := (n : Int64).toInt32) hx hb dX0_elder_104 rfl ?_
    refine lv_topi (fun v104 ev104 => ?_)
    have zj105 : (jn v102 v104).toInt = n.toInt := by rw [show jn v102 v104 = n by rw [ev102, ev101, ev104]; exact jn_back n]
    clear hy9 hm9 hd9
    have hPc := hP.sub (ws' := [(qx, .inr (0, [.ref ad56])), (ad56, .inr (1, [.int y56, .int m56, .int d56]))]) [0, 1] rfl
    have hDc := hD.sub (ws' := [(qx, .inr (0, [.ref ad56])), (ad56, .inr (1, [.int y56, .int m56, .int d56]))]) [0, 1] (by decide) rfl
    have hKc := hK.sub (tys' := []) [] rfl
    have hFc := va_free (wc := [(qx, .inr (0, [.ref ad56])), (ad56, .inr (1, [.int y56, .int m56, .int d56]))]) hD hS hA [0, 1] rfl
    have hCc := cst_narrow (cst_kept hC hS.2.1) hFc
    refine va_calli (va_runV (As := [.int v102, .int v104]) (rest := []) ⟨hx, hb, hml, hown, hts⟩ (metX1_fromDay l D k H.size qx ad56 y56 m56 d56 v102 v104) (cwV 2 hts (lw_V q528 q529 q530 q2 q531) rfl rfl rfl (by decide +kernel) ⟨Nat.le_of_ble_eq_true rfl, Nat.le_of_ble_eq_true rfl⟩) (aV_start (X := xT) xT_mv (va_recv hKc hPc (ci := 0) (q0 := 0) rfl rfl) hPc hKc hDc hCc trivial) rfl rfl hl.1 rfl (lv_room (Nat.le_of_ble_eq_true rfl)) dX0_elder_105 ⟨Nat.le_of_ble_eq_true rfl, Nat.le_of_ble_eq_true rfl⟩) hS (fun q _ h => hFc q h) hFc (fun r105 u t H1 locs ht hvm hw hB hz1 hk1 hS => ?_)
    obtain ⟨y105, m105, d105⟩ := u
    obtain ⟨ad105, hP1, hK1, hD1⟩ := hB
    rw [ht] at hP1
    have hK1 := va_K.moved hvm.symm hK1
    have p105 : (-365243219162 ≤ (jn v102 v104).toInt ∧ (jn v102 v104).toInt ≤ 365241780471 → r105 = 1 ∧ gd (jn v102 v104).toInt y105 m105 d105) ∧ (¬ (-365243219162 ≤ (jn v102 v104).toInt ∧ (jn v102 v104).toInt ≤ 365241780471) → r105 = 0 ∧ (y105, m105, d105) = (y56, m56, d56)) := hw
    have w105 := p105.1 ⟨by rw [zj105]; omega, by rw [zj105]; omega⟩
    have hg105 : gd (n.toInt) y105 m105 d105 := by have e9 := w105.2; rw [zj105] at e9; exact e9
    obtain ⟨hP, hD⟩ := va_join (wr := []) (w1 := [(qx, .inr (0, [.ref ad105])), (ad105, .inr (1, [.int y105, .int m105, .int d105]))]) hP hD [0, 1] [] rfl rfl (by decide) (by decide) hk1 hFc hP1 hD1
    have hK := (hK.sub (tys' := []) [] rfl).app hK1
    generalize H1 = H at hP hS ⊢
    have hP : va_P D vwC [(qx, .inr (0, [.ref ad105])), (ad105, .inr (1, [.int y105, .int m105, .int d105]))] H := hP
    have hD : va_D A [(qx, .inr (0, [.ref ad105])), (ad105, .inr (1, [.int y105, .int m105, .int d105]))] := hD
    have hK : va_K D vwC [] s := hK
    refine W.widen (k := 6) (n := 14) (Nat.le_of_ble_eq_true rfl) (Nat.le_of_ble_eq_true rfl) ?_
    have z105 : 1 = r105 := w105.1.symm
    subst z105
    refine lv_if_eq (tgt := 120) hx hb dX0_elder_108 (by decide) (fun c0 => absurd ((ic_eq (X := 1) (Y := 0) (by decide +kernel) (by decide +kernel)).mp c0) (by decide)) (fun c108 => ?_)
    refine lv_aload_n hx hb dX0_elder_111 rfl (lv_at hl 0 rfl) ?_
    have g112 : fCD k qx ad105 y105 m105 d105 s H := ⟨cst_narrow (cst_kept hC hS.2.1) (fF_no _), dc_cell hts hK hP 0 1 rfl rfl (fun h => h) (fun h => h)⟩
    refine vp_callSl (W.runV (As := []) (rest := []) ⟨hx, hb, hml, hown, hts⟩ (metX1_epochDay l k qx ad105 y105 m105 d105 (n.toInt) hg105) (cwV 0 hts (lw_V q643 q644 q645 q2 q646) rfl rfl rfl (by decide +kernel) ⟨Nat.le_of_ble_eq_true rfl, Nat.le_of_ble_eq_true rfl⟩) (pV_start (F := fCD k qx ad105 y105 m105 d105) fCD_mv (cs_recv (g112.2.1.1)) g112) rfl rfl hl.1 rfl (lv_room (Nat.le_of_ble_eq_true rfl)) dX0_elder_112 ⟨Nat.le_of_ble_eq_true rfl, Nat.le_of_ble_eq_true rfl⟩) (fun r112 pr112 => ?_)
    have pr112 : r112.toInt = n.toInt := pr112
    refine lv_lload_n hx hb dX0_elder_115 rfl (lv_at hl 1 rfl) ?_
    refine W.lcmp hx hb dX0_elder_116 ?_
    refine lv_if_eq (tgt := 122) hx hb dX0_elder_117 (by decide) (fun c117 => ?_) (fun c0 => absurd ((cm_eq0 (X := r112.toInt) (Y := n.toInt) rfl rfl).mpr (by omega)) c0)
    refine lv_aload_n hx hb dX0_elder_122 rfl (lv_at hl 0 rfl) ?_
    have g123 : fCD k qx ad105 y105 m105 d105 s H := ⟨cst_narrow (cst_kept hC hS.2.1) (fF_no _), dc_cell hts hK hP 0 1 rfl rfl (fun h => h) (fun h => h)⟩
    refine vp_callSi (W.runV (As := []) (rest := []) ⟨hx, hb, hml, hown, hts⟩ (metX1_year l k qx ad105 y105 m105 d105) (cwV 0 hts (lw_V q535 q536 q537 q2 q538) rfl rfl rfl (by decide +kernel) ⟨Nat.le_of_ble_eq_true rfl, Nat.le_of_ble_eq_true rfl⟩) (pV_start (F := fCD k qx ad105 y105 m105 d105) fCD_mv (cs_recv (g123.2.1.1)) g123) rfl rfl hl.1 rfl (lv_room (Nat.le_of_ble_eq_true rfl)) dX0_elder_123 ⟨Nat.le_of_ble_eq_true rfl, Nat.le_of_ble_eq_true rfl⟩) (fun r123 pr123 => ?_)
    have pr123 : r123 = y105 := pr123
    have pr123 := pr123.symm
    subst pr123
    refine lv_istore (lv' := [(4, .int y105), (3, .ref qx), (1, .long n), (0, .ref b)]) hx hb dX0_elder_126 hl (by decide) rfl (fun ls hl => ?_)
    refine lv_aload_n hx hb dX0_elder_128 rfl (lv_at hl 1 rfl) ?_
    have g129 : fCD k qx ad105 y105 m105 d105 s H := ⟨cst_narrow (cst_kept hC hS.2.1) (fF_no _), dc_cell hts hK hP 0 1 rfl rfl (fun h => h) (fun h => h)⟩
    refine vp_callSi (W.runV (As := []) (rest := []) ⟨hx, hb, hml, hown, hts⟩ (metX1_month l k qx ad105 y105 m105 d105) (cwV 0 hts (lw_V q543 q544 q545 q2 q546) rfl rfl rfl (by decide +kernel) ⟨Nat.le_of_ble_eq_true rfl, Nat.le_of_ble_eq_true rfl⟩) (pV_start (F := fCD k qx ad105 y105 m105 d105) fCD_mv (cs_recv (g129.2.1.1)) g129) rfl rfl hl.1 rfl (lv_room (Nat.le_of_ble_eq_true rfl)) dX0_elder_129 ⟨Nat.le_of_ble_eq_true rfl, Nat.le_of_ble_eq_true rfl⟩) (fun r129 pr129 => ?_)
    have pr129 : r129 = m105 := pr129
    have pr129 := pr129.symm
    subst pr129
    refine lv_istore (lv' := [(5, .int m105), (4, .int y105), (3, .ref qx), (1, .long n), (0, .ref b)]) hx hb dX0_elder_132 hl (by decide) rfl (fun ls hl => ?_)
    refine lv_aload_n hx hb dX0_elder_134 rfl (lv_at hl 2 rfl) ?_
    have g135 : fCD k qx ad105 y105 m105 d105 s H := ⟨cst_narrow (cst_kept hC hS.2.1) (fF_no _), dc_cell hts hK hP 0 1 rfl rfl (fun h => h) (fun h => h)⟩
    refine vp_callSi (W.runV (As := []) (rest := []) ⟨hx, hb, hml, hown, hts⟩ (metX1_dayOfMonth l k qx ad105 y105 m105 d105) (cwV 0 hts (lw_V q551 q552 q553 q2 q554) rfl rfl rfl (by decide +kernel) ⟨Nat.le_of_ble_eq_true rfl, Nat.le_of_ble_eq_true rfl⟩) (pV_start (F := fCD k qx ad105 y105 m105 d105) fCD_mv (cs_recv (g135.2.1.1)) g135) rfl rfl hl.1 rfl (lv_room (Nat.le_of_ble_eq_true rfl)) dX0_elder_135 ⟨Nat.le_of_ble_eq_true rfl, Nat.le_of_ble_eq_true rfl⟩) (fun r135 pr135 => ?_)
    have pr135 : r135 = d105 := pr135
    have pr135 := pr135.symm
    subst pr135
    refine lv_istore (lv' := [(6, .int d105), (5, .int m105), (4, .int y105), (3, .ref qx), (1, .long n), (0, .ref b)]) hx hb dX0_elder_138 hl (by decide) rfl (fun ls hl => ?_)
    refine lv_aload_n hx hb dX0_elder_140 rfl (lv_at hl 3 rfl) ?_
    have g141 : fCD k qx ad105 y105 m105 d105 s H := ⟨cst_narrow (cst_kept hC hS.2.1) (fF_no _), dc_cell hts hK hP 0 1 rfl rfl (fun h => h) (fun h => h)⟩
    refine vp_callSi (W.runV (As := []) (rest := []) ⟨hx, hb, hml, hown, hts⟩ (metX1_dayOfYear l k qx ad105 y105 m105 d105 (n.toInt) hg105) (cwV 0 hts (lw_V q559 q560 q561 q2 q562) rfl rfl rfl (by decide +kernel) ⟨Nat.le_of_ble_eq_true rfl, Nat.le_of_ble_eq_true rfl⟩) (pV_start (F := fCD k qx ad105 y105 m105 d105) fCD_mv (cs_recv (g141.2.1.1)) g141) rfl rfl hl.1 rfl (lv_room (Nat.le_of_ble_eq_true rfl)) dX0_elder_141 ⟨Nat.le_of_ble_eq_true rfl, Nat.le_of_ble_eq_true rfl⟩) (fun r141 pr141 => ?_)
    have pr141 : r141.toInt = ca_cum (ca_L y105.toInt) m105.toInt + d105.toInt := pr141
    refine lv_istore (lv' := [(7, .int r141), (6, .int d105), (5, .int m105), (4, .int y105), (3, .ref qx), (1, .long n), (0, .ref b)]) hx hb dX0_elder_144 hl (by decide) rfl (fun ls hl => ?_)
    have hgb := gd_b hg105
    have hL := ca_L01 y105.toInt
    have hlb := ca_lnb (y := y105.toInt) hgb.1 hgb.2.1
    have hdl : d105.toInt ≤ ca_ln (ca_L y105.toInt) m105.toInt := hg105.1.2.2.2.1
    refine w_cut (α := Int32) (fun a ls => lv_has ls 11 [(7, .int r141), (6, .int d105), (5, .int m105), (4, .int y105), (3, .ref qx), (1, .long n), (0, .ref b)] ∧ a = lB y105.toInt) (fun a ls => F0 mi 175 ls [.int a]) ?_ ?_
    · rintro bl ls ⟨hl, hbl⟩
      subst hbl
      refine lv_istore (lv' := [(8, .int (lB y105.toInt)), (7, .int r141), (6, .int d105), (5, .int m105), (4, .int y105), (3, .ref qx), (1, .long n), (0, .ref b)]) hx hb dX0_elder_175 hl (by decide) rfl (fun ls hl => ?_)
      refine lv_aload_n hx hb dX0_elder_177 rfl (lv_at hl 5 rfl) ?_
      have g178 : fCD k qx ad105 y105 m105 d105 s H := ⟨cst_narrow (cst_kept hC hS.2.1) (fF_no _), dc_cell hts hK hP 0 1 rfl rfl (fun h => h) (fun h => h)⟩
      refine vp_callSi (W.runV (As := []) (rest := []) ⟨hx, hb, hml, hown, hts⟩ (metX1_leap l k qx ad105 y105 m105 d105) (cwV 0 hts (lw_V q627 q628 q629 q2 q630) rfl rfl rfl (by decide +kernel) ⟨Nat.le_of_ble_eq_true rfl, Nat.le_of_ble_eq_true rfl⟩) (pV_start (F := fCD k qx ad105 y105 m105 d105) fCD_mv (cs_recv (g178.2.1.1)) g178) rfl rfl hl.1 rfl (lv_room (Nat.le_of_ble_eq_true rfl)) dX0_elder_178 ⟨Nat.le_of_ble_eq_true rfl, Nat.le_of_ble_eq_true rfl⟩) (fun r178 pr178 => ?_)
      have pr178 : r178 = lB y105.toInt := pr178
      have pr178 := pr178.symm
      subst pr178
      refine lv_iload hx hb dX0_elder_181 (lv_at hl 0 rfl) ?_
      refine lv_icmp_ne (tgt := 213) hx hb dX0_elder_183 (by decide) (fun c0 => absurd ((ic_eq (X := (ca_L y105.toInt)) (Y := (ca_L y105.toInt)) (lB_I _) (lB_I _)).mpr (by omega)) c0) (fun c183 => ?_)
      refine lv_iload hx hb dX0_elder_186 (lv_at hl 3 rfl) ?_
      refine lv_iconst (v := 1) hx hb dX0_elder_188 (by decide +kernel) ?_
      refine lv_icmp_lt (tgt := 213) hx hb dX0_elder_189 (by decide) (fun c0 => absurd ((ic_lt (X := m105.toInt) (Y := 1) rfl (by decide +kernel)).mp c0) (by omega)) (fun c189 => ?_)
      refine lv_iload hx hb dX0_elder_192 (lv_at hl 3 rfl) ?_
      refine lv_bipush (v := 12) hx hb dX0_elder_194 (by decide +kernel) ?_
      refine lv_icmp_gt (tgt := 213) hx hb dX0_elder_196 (by decide) (fun c0 => absurd ((ic_lt (X := 12) (Y := m105.toInt) (by decide +kernel) rfl).mp c0) (by omega)) (fun c196 => ?_)
      refine lv_aload_n hx hb dX0_elder_199 rfl (lv_at hl 5 rfl) ?_
      have g200 : fCD k qx ad105 y105 m105 d105 s H := ⟨cst_narrow (cst_kept hC hS.2.1) (fF_no _), dc_cell hts hK hP 0 1 rfl rfl (fun h => h) (fun h => h)⟩
      refine vp_callSi (W.runV (As := []) (rest := []) ⟨hx, hb, hml, hown, hts⟩ (metX1_monthLength l k qx ad105 y105 m105 d105 (n.toInt) hg105) (cwV 0 hts (lw_V q632 q633 q634 q2 q635) rfl rfl rfl (by decide +kernel) ⟨Nat.le_of_ble_eq_true rfl, Nat.le_of_ble_eq_true rfl⟩) (pV_start (F := fCD k qx ad105 y105 m105 d105) fCD_mv (cs_recv (g200.2.1.1)) g200) rfl rfl hl.1 rfl (lv_room (Nat.le_of_ble_eq_true rfl)) dX0_elder_200 ⟨Nat.le_of_ble_eq_true rfl, Nat.le_of_ble_eq_true rfl⟩) (fun r200 pr200 => ?_)
      have pr200 : r200.toInt = ca_ln (ca_L y105.toInt) m105.toInt := pr200
      refine lv_iload hx hb dX0_elder_203 (lv_at hl 3 rfl) ?_
      refine lv_iload hx hb dX0_elder_205 (lv_at hl 0 rfl) ?_
      have g207 : fNo s H := trivial
      refine vp_callSi (W.runS (As := [.int m105, .int (lB y105.toInt)]) (rest := [.int r200]) ⟨hx, hb, hml, hown, hts⟩ (metX0_length l m105 y105.toInt hgb.1 hgb.2.1) (va_cwS 2 hts (lw_S q661 q662 q1 q663) rfl rfl rfl (by decide +kernel) ⟨Nat.le_of_ble_eq_true rfl, Nat.le_of_ble_eq_true rfl⟩) (pS_start (F := fNo) fNo_mv g207) rfl rfl hl.1 rfl (lv_room (Nat.le_of_ble_eq_true rfl)) dX0_elder_207 ⟨Nat.le_of_ble_eq_true rfl, Nat.le_of_ble_eq_true rfl⟩) (fun r207 pr207 => ?_)
      have pr207 : r207.toInt = ca_ln (ca_L y105.toInt) m105.toInt := pr207
      refine lv_icmp_eq (tgt := 215) hx hb dX0_elder_210 (by decide) (fun c210 => ?_) (fun c0 => absurd ((ic_eq (X := r200.toInt) (Y := r207.toInt) rfl rfl).mpr (by omega)) c0)
      refine lv_iload hx hb dX0_elder_215 (lv_at hl 2 rfl) ?_
      refine lv_iconst (v := 1) hx hb dX0_elder_217 (by decide +kernel) ?_
      refine lv_icmp_lt (tgt := 233) hx hb dX0_elder_218 (by decide) (fun c0 => absurd ((ic_lt (X := d105.toInt) (Y := 1) rfl (by decide +kernel)).mp c0) (by omega)) (fun c218 => ?_)
      refine lv_iload hx hb dX0_elder_221 (lv_at hl 2 rfl) ?_
      refine lv_iload hx hb dX0_elder_223 (lv_at hl 3 rfl) ?_
      refine lv_iload hx hb dX0_elder_225 (lv_at hl 0 rfl) ?_
      have g227 : fNo s H := trivial
      refine vp_callSi (W.runS (As := [.int m105, .int (lB y105.toInt)]) (rest := [.int d105]) ⟨hx, hb, hml, hown, hts⟩ (metX0_length l m105 y105.toInt hgb.1 hgb.2.1) (va_cwS 2 hts (lw_S q661 q662 q1 q663) rfl rfl rfl (by decide +kernel) ⟨Nat.le_of_ble_eq_true rfl, Nat.le_of_ble_eq_true rfl⟩) (pS_start (F := fNo) fNo_mv g227) rfl rfl hl.1 rfl (lv_room (Nat.le_of_ble_eq_true rfl)) dX0_elder_227 ⟨Nat.le_of_ble_eq_true rfl, Nat.le_of_ble_eq_true rfl⟩) (fun r227 pr227 => ?_)
      have pr227 : r227.toInt = ca_ln (ca_L y105.toInt) m105.toInt := pr227
      refine lv_icmp_le (tgt := 235) hx hb dX0_elder_230 (by decide) (fun c230 => ?_) (fun c0 => absurd ((ic_le (X := d105.toInt) (Y := r227.toInt) rfl rfl).mpr (by omega)) c0)
      refine lv_iconst (v := 0) hx hb dX0_elder_235 (by decide +kernel) ?_
      refine lv_istore (lv' := [(9, .int 0), (8, .int (lB y105.toInt)), (7, .int r141), (6, .int d105), (5, .int m105), (4, .int y105), (3, .ref qx), (1, .long n), (0, .ref b)]) hx hb dX0_elder_236 hl (by decide) rfl (fun ls hl => ?_)
      refine lv_iconst (v := 1) hx hb dX0_elder_238 (by decide +kernel) ?_
      refine lv_istore (lv' := [(10, .int 1), (9, .int 0), (8, .int (lB y105.toInt)), (7, .int r141), (6, .int d105), (5, .int m105), (4, .int y105), (3, .ref qx), (1, .long n), (0, .ref b)]) hx hb dX0_elder_239 hl (by decide) rfl (fun ls hl => ?_)
      refine w_cut (α := Int32) (fun a ls => lv_has ls 11 [(9, .int a), (8, .int (lB y105.toInt)), (7, .int r141), (6, .int d105), (5, .int m105), (4, .int y105), (3, .ref qx), (1, .long n), (0, .ref b)] ∧ a.toInt = ca_cum (ca_L y105.toInt) m105.toInt) (fun a ls => F0 mi 266 ls []) ?_ ?_
      · rintro bf ls ⟨hl, hbf⟩
        have hcb := ca_cumb (y := y105.toInt) hgb.1 hgb.2.1
        refine lv_iload hx hb dX0_elder_266 (lv_at hl 2 rfl) ?_
        refine lv_iload hx hb dX0_elder_268 (lv_at hl 0 rfl) ?_
        refine lv_iload hx hb dX0_elder_270 (lv_at hl 3 rfl) ?_
        refine lv_iadd hx hb dX0_elder_272 ?_
        refine lv_topi (fun v272 ev272 => ?_)
        have tv272 : v272.toInt = bf.toInt + d105.toInt := ii_add ev272 rfl rfl (by omega) (by omega)
        refine lv_icmp_eq (tgt := 278) hx hb dX0_elder_273 (by decide) (fun c273 => ?_) (fun c0 => absurd ((ic_eq (X := r141.toInt) (Y := v272.toInt) rfl rfl).mpr (by omega)) c0)
        refine lv_aload_n hx hb dX0_elder_278 rfl (lv_at hl 6 rfl) ?_
        refine lv_lload_n hx hb dX0_elder_279 rfl (lv_at hl 7 rfl) ?_
        refine lv_lconst (v := 1) hx hb dX0_elder_280 (by decide +kernel) ?_
        refine lv_ladd hx hb dX0_elder_281 ?_
        refine lv_topl (fun v281 ev281 => ?_)
        have tv281 : v281.toInt = n.toInt + 1 := ll_add ev281 rfl (by decide +kernel) (by omega) (by omega)
        refine lv_bipush (v := 32) hx hb dX0_elder_282 (by decide +kernel) ?_
        refine lv_lshr (v := (v281 : Int64) >>> ((32 : Int32).toInt64 &&& 63)) hx hb dX0_elder_284 rfl ?_
        refine lv_topl (fun v284 ev284 => ?_)
        refine lv_l2i (v := (v284 : Int64).toInt32) hx hb dX0_elder_285 rfl ?_
        refine lv_topi (fun v285 ev285 => ?_)
        refine lv_lload_n hx hb dX0_elder_286 rfl (lv_at hl 7 rfl) ?_
        refine lv_lconst (v := 1) hx hb dX0_elder_287 (by decide +kernel) ?_
        refine lv_ladd hx hb dX0_elder_288 ?_
        refine lv_topl (fun v288 ev288 => ?_)
        have tv288 : v288.toInt = n.toInt + 1 := ll_add ev288 rfl (by decide +kernel) (by omega) (by omega)
        refine lv_l2i (v := (v288 : Int64).toInt32) hx hb dX0_elder_289 rfl ?_
        refine lv_topi (fun v289 ev289 => ?_)
        have zj290 : (jn v285 v289).toInt = n.toInt + 1 := by rw [show jn v285 v289 = v281 by rw [ev285, ev284, ev289, show v288 = v281 by rw [ev288, ev281]]; exact jn_back v281]; omega
        have hPc := hP.sub (ws' := [(qx, .inr (0, [.ref ad105])), (ad105, .inr (1, [.int y105, .int m105, .int d105]))]) [0, 1] rfl
        have hDc := hD.sub (ws' := [(qx, .inr (0, [.ref ad105])), (ad105, .inr (1, [.int y105, .int m105, .int d105]))]) [0, 1] (by decide) rfl
        have hKc := hK.sub (tys' := []) [] rfl
        have hFc := va_free (wc := [(qx, .inr (0, [.ref ad105])), (ad105, .inr (1, [.int y105, .int m105, .int d105]))]) hD hS hA [0, 1] rfl
        have hCc := cst_narrow (cst_kept hC hS.2.1) hFc
        refine va_calli (va_runV (As := [.int v285, .int v289]) (rest := []) ⟨hx, hb, hml, hown, hts⟩ (metX1_fromDay l D k H.size qx ad105 y105 m105 d105 v285 v289) (cwV 2 hts (lw_V q528 q529 q530 q2 q531) rfl rfl rfl (by decide +kernel) ⟨Nat.le_of_ble_eq_true rfl, Nat.le_of_ble_eq_true rfl⟩) (aV_start (X := xT) xT_mv (va_recv hKc hPc (ci := 0) (q0 := 0) rfl rfl) hPc hKc hDc hCc trivial) rfl rfl hl.1 rfl (lv_room (Nat.le_of_ble_eq_true rfl)) dX0_elder_290 ⟨Nat.le_of_ble_eq_true rfl, Nat.le_of_ble_eq_true rfl⟩) hS (fun q _ h => hFc q h) hFc (fun r290 u t H1 locs ht hvm hw hB hz1 hk1 hS => ?_)
        obtain ⟨y290, m290, d290⟩ := u
        obtain ⟨ad290, hP1, hK1, hD1⟩ := hB
        rw [ht] at hP1
        have hK1 := va_K.moved hvm.symm hK1
        have p290 : (-365243219162 ≤ (jn v285 v289).toInt ∧ (jn v285 v289).toInt ≤ 365241780471 → r290 = 1 ∧ gd (jn v285 v289).toInt y290 m290 d290) ∧ (¬ (-365243219162 ≤ (jn v285 v289).toInt ∧ (jn v285 v289).toInt ≤ 365241780471) → r290 = 0 ∧ (y290, m290, d290) = (y105, m105, d105)) := hw
        have w290 := p290.1 ⟨by rw [zj290]; omega, by rw [zj290]; omega⟩
        have hg290 : gd (n.toInt + 1) y290 m290 d290 := by have e9 := w290.2; rw [zj290] at e9; exact e9
        obtain ⟨hP, hD⟩ := va_join (wr := []) (w1 := [(qx, .inr (0, [.ref ad290])), (ad290, .inr (1, [.int y290, .int m290, .int d290]))]) hP hD [0, 1] [] rfl rfl (by decide) (by decide) hk1 hFc hP1 hD1
        have hK := (hK.sub (tys' := []) [] rfl).app hK1
        generalize H1 = H at hP hS ⊢
        have hP : va_P D vwC [(qx, .inr (0, [.ref ad290])), (ad290, .inr (1, [.int y290, .int m290, .int d290]))] H := hP
        have hD : va_D A [(qx, .inr (0, [.ref ad290])), (ad290, .inr (1, [.int y290, .int m290, .int d290]))] := hD
        have hK : va_K D vwC [] s := hK
        refine W.widen (k := 7) (n := 17) (Nat.le_of_ble_eq_true rfl) (Nat.le_of_ble_eq_true rfl) ?_
        have z290 : 1 = r290 := w290.1.symm
        subst z290
        refine lv_if_eq (tgt := 307) hx hb dX0_elder_293 (by decide) (fun c0 => absurd ((ic_eq (X := 1) (Y := 0) (by decide +kernel) (by decide +kernel)).mp c0) (by decide)) (fun c293 => ?_)
        refine lv_aload_n hx hb dX0_elder_296 rfl (lv_at hl 6 rfl) ?_
        have g297 : fCD k qx ad290 y290 m290 d290 s H := ⟨cst_narrow (cst_kept hC hS.2.1) (fF_no _), dc_cell hts hK hP 0 1 rfl rfl (fun h => h) (fun h => h)⟩
        refine vp_callSl (W.runV (As := []) (rest := []) ⟨hx, hb, hml, hown, hts⟩ (metX1_epochDay l k qx ad290 y290 m290 d290 ((n.toInt + 1)) hg290) (cwV 0 hts (lw_V q643 q644 q645 q2 q646) rfl rfl rfl (by decide +kernel) ⟨Nat.le_of_ble_eq_true rfl, Nat.le_of_ble_eq_true rfl⟩) (pV_start (F := fCD k qx ad290 y290 m290 d290) fCD_mv (cs_recv (g297.2.1.1)) g297) rfl rfl hl.1 rfl (lv_room (Nat.le_of_ble_eq_true rfl)) dX0_elder_297 ⟨Nat.le_of_ble_eq_true rfl, Nat.le_of_ble_eq_true rfl⟩) (fun r297 pr297 => ?_)
        have pr297 : r297.toInt = (n.toInt + 1) := pr297
        refine lv_lload_n hx hb dX0_elder_300 rfl (lv_at hl 7 rfl) ?_
        refine lv_lconst (v := 1) hx hb dX0_elder_301 (by decide +kernel) ?_
        refine lv_ladd hx hb dX0_elder_302 ?_
        refine lv_topl (fun v302 ev302 => ?_)
        have tv302 : v302.toInt = n.toInt + 1 := ll_add ev302 rfl (by decide +kernel) (by omega) (by omega)
        refine W.lcmp hx hb dX0_elder_303 ?_
        refine lv_if_eq (tgt := 309) hx hb dX0_elder_304 (by decide) (fun c304 => ?_) (fun c0 => absurd ((cm_eq0 (X := r297.toInt) (Y := v302.toInt) rfl rfl).mpr (by omega)) c0)
        refine lv_iload hx hb dX0_elder_309 (lv_at hl 3 rfl) ?_
        refine lv_iload hx hb dX0_elder_311 (lv_at hl 4 rfl) ?_
        refine lv_iload hx hb dX0_elder_313 (lv_at hl 1 rfl) ?_
        have g315 : fNo s H := trivial
        refine vp_callSi (W.runS (As := [.int m105, .int (lB y105.toInt)]) (rest := [.int d105]) ⟨hx, hb, hml, hown, hts⟩ (metX0_length l m105 y105.toInt hgb.1 hgb.2.1) (va_cwS 2 hts (lw_S q661 q662 q1 q663) rfl rfl rfl (by decide +kernel) ⟨Nat.le_of_ble_eq_true rfl, Nat.le_of_ble_eq_true rfl⟩) (pS_start (F := fNo) fNo_mv g315) rfl rfl hl.1 rfl (lv_room (Nat.le_of_ble_eq_true rfl)) dX0_elder_315 ⟨Nat.le_of_ble_eq_true rfl, Nat.le_of_ble_eq_true rfl⟩) (fun r315 pr315 => ?_)
        have pr315 : r315.toInt = ca_ln (ca_L y105.toInt) m105.toInt := pr315
        refine lv_icmp_ge (tgt := 356) hx hb dX0_elder_318 (by decide) (fun c318 => ?_) (fun c318 => ?_)
        · have k_318 : r315.toInt ≤ d105.toInt := (ic_le (X := r315.toInt) (Y := d105.toInt) rfl rfl).mp c318
          refine lv_iload hx hb dX0_elder_356 (lv_at hl 4 rfl) ?_
          refine lv_bipush (v := 12) hx hb dX0_elder_358 (by decide +kernel) ?_
          refine lv_icmp_ge (tgt := 397) hx hb dX0_elder_360 (by decide) (fun c360 => ?_) (fun c360 => ?_)
          · have k_360 : 12 ≤ m105.toInt := (ic_le (X := 12) (Y := m105.toInt) (by decide +kernel) rfl).mp c360
            obtain ⟨u1, u2, u3⟩ := ca_uniq hg290.1 (ca_next3 hg105.1 (by omega) (by omega))
            have hyr : -999999999 ≤ y105.toInt ∧ y105.toInt ≤ 999999999 := hg105.2
            refine lv_aload_n hx hb dX0_elder_397 rfl (lv_at hl 6 rfl) ?_
            have g398 : fCD k qx ad290 y290 m290 d290 s H := ⟨cst_narrow (cst_kept hC hS.2.1) (fF_no _), dc_cell hts hK hP 0 1 rfl rfl (fun h => h) (fun h => h)⟩
            refine vp_callSi (W.runV (As := []) (rest := []) ⟨hx, hb, hml, hown, hts⟩ (metX1_year l k qx ad290 y290 m290 d290) (cwV 0 hts (lw_V q535 q536 q537 q2 q538) rfl rfl rfl (by decide +kernel) ⟨Nat.le_of_ble_eq_true rfl, Nat.le_of_ble_eq_true rfl⟩) (pV_start (F := fCD k qx ad290 y290 m290 d290) fCD_mv (cs_recv (g398.2.1.1)) g398) rfl rfl hl.1 rfl (lv_room (Nat.le_of_ble_eq_true rfl)) dX0_elder_398 ⟨Nat.le_of_ble_eq_true rfl, Nat.le_of_ble_eq_true rfl⟩) (fun r398 pr398 => ?_)
            have pr398 : r398 = y290 := pr398
            have pr398 := pr398.symm
            subst pr398
            refine lv_iload hx hb dX0_elder_401 (lv_at hl 5 rfl) ?_
            refine lv_iconst (v := 1) hx hb dX0_elder_403 (by decide +kernel) ?_
            refine lv_iadd hx hb dX0_elder_404 ?_
            refine lv_topi (fun v404 ev404 => ?_)
            have tv404 : v404.toInt = y105.toInt + 1 := ii_add ev404 rfl (by decide +kernel) (by omega) (by omega)
            refine lv_icmp_ne (tgt := 428) hx hb dX0_elder_405 (by decide) (fun c0 => absurd ((ic_eq (X := y290.toInt) (Y := v404.toInt) rfl rfl).mpr (by omega)) c0) (fun c405 => ?_)
            refine lv_aload_n hx hb dX0_elder_408 rfl (lv_at hl 6 rfl) ?_
            have g409 : fCD k qx ad290 y290 m290 d290 s H := ⟨cst_narrow (cst_kept hC hS.2.1) (fF_no _), dc_cell hts hK hP 0 1 rfl rfl (fun h => h) (fun h => h)⟩
            refine vp_callSi (W.runV (As := []) (rest := []) ⟨hx, hb, hml, hown, hts⟩ (metX1_month l k qx ad290 y290 m290 d290) (cwV 0 hts (lw_V q543 q544 q545 q2 q546) rfl rfl rfl (by decide +kernel) ⟨Nat.le_of_ble_eq_true rfl, Nat.le_of_ble_eq_true rfl⟩) (pV_start (F := fCD k qx ad290 y290 m290 d290) fCD_mv (cs_recv (g409.2.1.1)) g409) rfl rfl hl.1 rfl (lv_room (Nat.le_of_ble_eq_true rfl)) dX0_elder_409 ⟨Nat.le_of_ble_eq_true rfl, Nat.le_of_ble_eq_true rfl⟩) (fun r409 pr409 => ?_)
            have pr409 : r409 = m290 := pr409
            have pr409 := pr409.symm
            subst pr409
            refine lv_iconst (v := 1) hx hb dX0_elder_412 (by decide +kernel) ?_
            refine lv_icmp_ne (tgt := 428) hx hb dX0_elder_413 (by decide) (fun c0 => absurd ((ic_eq (X := m290.toInt) (Y := 1) rfl (by decide +kernel)).mpr (by omega)) c0) (fun c413 => ?_)
            refine lv_aload_n hx hb dX0_elder_416 rfl (lv_at hl 6 rfl) ?_
            have g417 : fCD k qx ad290 y290 m290 d290 s H := ⟨cst_narrow (cst_kept hC hS.2.1) (fF_no _), dc_cell hts hK hP 0 1 rfl rfl (fun h => h) (fun h => h)⟩
            refine vp_callSi (W.runV (As := []) (rest := []) ⟨hx, hb, hml, hown, hts⟩ (metX1_dayOfMonth l k qx ad290 y290 m290 d290) (cwV 0 hts (lw_V q551 q552 q553 q2 q554) rfl rfl rfl (by decide +kernel) ⟨Nat.le_of_ble_eq_true rfl, Nat.le_of_ble_eq_true rfl⟩) (pV_start (F := fCD k qx ad290 y290 m290 d290) fCD_mv (cs_recv (g417.2.1.1)) g417) rfl rfl hl.1 rfl (lv_room (Nat.le_of_ble_eq_true rfl)) dX0_elder_417 ⟨Nat.le_of_ble_eq_true rfl, Nat.le_of_ble_eq_true rfl⟩) (fun r417 pr417 => ?_)
            have pr417 : r417 = d290 := pr417
            have pr417 := pr417.symm
            subst pr417
            refine lv_iconst (v := 1) hx hb dX0_elder_420 (by decide +kernel) ?_
            refine lv_icmp_ne (tgt := 428) hx hb dX0_elder_421 (by decide) (fun c0 => absurd ((ic_eq (X := d290.toInt) (Y := 1) rfl (by decide +kernel)).mpr (by omega)) c0) (fun c421 => ?_)
            refine lv_iconst (v := 1) hx hb dX0_elder_424 (by decide +kernel) ?_
            refine lv_goto (tgt := 429) hx hb dX0_elder_425 (by decide) ?_
            refine W.widen (k := 7) (n := 17) (Nat.le_of_ble_eq_true rfl) (Nat.le_of_ble_eq_true rfl) ?_
            exact W.zret (v := 1) hx hb hr rfl (fun t ht hW => ⟨⟨1, (), rfl, rfl, trivial⟩, hS.F ht⟩) hS.2.2 dX0_elder_429
          · have k_360 : ¬ 12 ≤ m105.toInt := fun c0 => c360 ((ic_le (X := 12) (Y := m105.toInt) (by decide +kernel) rfl).mpr c0)
            obtain ⟨u1, u2, u3⟩ := ca_uniq hg290.1 (ca_next2 hg105.1 (by omega) (by omega))
            refine lv_aload_n hx hb dX0_elder_363 rfl (lv_at hl 6 rfl) ?_
            have g364 : fCD k qx ad290 y290 m290 d290 s H := ⟨cst_narrow (cst_kept hC hS.2.1) (fF_no _), dc_cell hts hK hP 0 1 rfl rfl (fun h => h) (fun h => h)⟩
            refine vp_callSi (W.runV (As := []) (rest := []) ⟨hx, hb, hml, hown, hts⟩ (metX1_year l k qx ad290 y290 m290 d290) (cwV 0 hts (lw_V q535 q536 q537 q2 q538) rfl rfl rfl (by decide +kernel) ⟨Nat.le_of_ble_eq_true rfl, Nat.le_of_ble_eq_true rfl⟩) (pV_start (F := fCD k qx ad290 y290 m290 d290) fCD_mv (cs_recv (g364.2.1.1)) g364) rfl rfl hl.1 rfl (lv_room (Nat.le_of_ble_eq_true rfl)) dX0_elder_364 ⟨Nat.le_of_ble_eq_true rfl, Nat.le_of_ble_eq_true rfl⟩) (fun r364 pr364 => ?_)
            have pr364 : r364 = y290 := pr364
            have pr364 := pr364.symm
            subst pr364
            refine lv_iload hx hb dX0_elder_367 (lv_at hl 5 rfl) ?_
            refine lv_icmp_ne (tgt := 395) hx hb dX0_elder_369 (by decide) (fun c0 => absurd ((ic_eq (X := y290.toInt) (Y := y105.toInt) rfl rfl).mpr (by omega)) c0) (fun c369 => ?_)
            refine lv_aload_n hx hb dX0_elder_372 rfl (lv_at hl 6 rfl) ?_
            have g373 : fCD k qx ad290 y290 m290 d290 s H := ⟨cst_narrow (cst_kept hC hS.2.1) (fF_no _), dc_cell hts hK hP 0 1 rfl rfl (fun h => h) (fun h => h)⟩
            refine vp_callSi (W.runV (As := []) (rest := []) ⟨hx, hb, hml, hown, hts⟩ (metX1_month l k qx ad290 y290 m290 d290) (cwV 0 hts (lw_V q543 q544 q545 q2 q546) rfl rfl rfl (by decide +kernel) ⟨Nat.le_of_ble_eq_true rfl, Nat.le_of_ble_eq_true rfl⟩) (pV_start (F := fCD k qx ad290 y290 m290 d290) fCD_mv (cs_recv (g373.2.1.1)) g373) rfl rfl hl.1 rfl (lv_room (Nat.le_of_ble_eq_true rfl)) dX0_elder_373 ⟨Nat.le_of_ble_eq_true rfl, Nat.le_of_ble_eq_true rfl⟩) (fun r373 pr373 => ?_)
            have pr373 : r373 = m290 := pr373
            have pr373 := pr373.symm
            subst pr373
            refine lv_iload hx hb dX0_elder_376 (lv_at hl 4 rfl) ?_
            refine lv_iconst (v := 1) hx hb dX0_elder_378 (by decide +kernel) ?_
            refine lv_iadd hx hb dX0_elder_379 ?_
            refine lv_topi (fun v379 ev379 => ?_)
            have tv379 : v379.toInt = m105.toInt + 1 := ii_add ev379 rfl (by decide +kernel) (by omega) (by omega)
            refine lv_icmp_ne (tgt := 395) hx hb dX0_elder_380 (by decide) (fun c0 => absurd ((ic_eq (X := m290.toInt) (Y := v379.toInt) rfl rfl).mpr (by omega)) c0) (fun c380 => ?_)
            refine lv_aload_n hx hb dX0_elder_383 rfl (lv_at hl 6 rfl) ?_
            have g384 : fCD k qx ad290 y290 m290 d290 s H := ⟨cst_narrow (cst_kept hC hS.2.1) (fF_no _), dc_cell hts hK hP 0 1 rfl rfl (fun h => h) (fun h => h)⟩
            refine vp_callSi (W.runV (As := []) (rest := []) ⟨hx, hb, hml, hown, hts⟩ (metX1_dayOfMonth l k qx ad290 y290 m290 d290) (cwV 0 hts (lw_V q551 q552 q553 q2 q554) rfl rfl rfl (by decide +kernel) ⟨Nat.le_of_ble_eq_true rfl, Nat.le_of_ble_eq_true rfl⟩) (pV_start (F := fCD k qx ad290 y290 m290 d290) fCD_mv (cs_recv (g384.2.1.1)) g384) rfl rfl hl.1 rfl (lv_room (Nat.le_of_ble_eq_true rfl)) dX0_elder_384 ⟨Nat.le_of_ble_eq_true rfl, Nat.le_of_ble_eq_true rfl⟩) (fun r384 pr384 => ?_)
            have pr384 : r384 = d290 := pr384
            have pr384 := pr384.symm
            subst pr384
            refine lv_iconst (v := 1) hx hb dX0_elder_387 (by decide +kernel) ?_
            refine lv_icmp_ne (tgt := 395) hx hb dX0_elder_388 (by decide) (fun c0 => absurd ((ic_eq (X := d290.toInt) (Y := 1) rfl (by decide +kernel)).mpr (by omega)) c0) (fun c388 => ?_)
            refine lv_iconst (v := 1) hx hb dX0_elder_391 (by decide +kernel) ?_
            refine lv_goto (tgt := 396) hx hb dX0_elder_392 (by decide) ?_
            refine W.widen (k := 7) (n := 17) (Nat.le_of_ble_eq_true rfl) (Nat.le_of_ble_eq_true rfl) ?_
            exact W.zret (v := 1) hx hb hr rfl (fun t ht hW => ⟨⟨1, (), rfl, rfl, trivial⟩, hS.F ht⟩) hS.2.2 dX0_elder_396
        · have k_318 : ¬ r315.toInt ≤ d105.toInt := fun c0 => c318 ((ic_le (X := r315.toInt) (Y := d105.toInt) rfl rfl).mpr c0)
          obtain ⟨u1, u2, u3⟩ := ca_uniq hg290.1 (ca_next1 hg105.1 (by omega))
          refine lv_aload_n hx hb dX0_elder_321 rfl (lv_at hl 6 rfl) ?_
          have g322 : fCD k qx ad290 y290 m290 d290 s H := ⟨cst_narrow (cst_kept hC hS.2.1) (fF_no _), dc_cell hts hK hP 0 1 rfl rfl (fun h => h) (fun h => h)⟩
          refine vp_callSi (W.runV (As := []) (rest := []) ⟨hx, hb, hml, hown, hts⟩ (metX1_year l k qx ad290 y290 m290 d290) (cwV 0 hts (lw_V q535 q536 q537 q2 q538) rfl rfl rfl (by decide +kernel) ⟨Nat.le_of_ble_eq_true rfl, Nat.le_of_ble_eq_true rfl⟩) (pV_start (F := fCD k qx ad290 y290 m290 d290) fCD_mv (cs_recv (g322.2.1.1)) g322) rfl rfl hl.1 rfl (lv_room (Nat.le_of_ble_eq_true rfl)) dX0_elder_322 ⟨Nat.le_of_ble_eq_true rfl, Nat.le_of_ble_eq_true rfl⟩) (fun r322 pr322 => ?_)
          have pr322 : r322 = y290 := pr322
          have pr322 := pr322.symm
          subst pr322
          refine lv_iload hx hb dX0_elder_325 (lv_at hl 5 rfl) ?_
          refine lv_icmp_ne (tgt := 354) hx hb dX0_elder_327 (by decide) (fun c0 => absurd ((ic_eq (X := y290.toInt) (Y := y105.toInt) rfl rfl).mpr (by omega)) c0) (fun c327 => ?_)
          refine lv_aload_n hx hb dX0_elder_330 rfl (lv_at hl 6 rfl) ?_
          have g331 : fCD k qx ad290 y290 m290 d290 s H := ⟨cst_narrow (cst_kept hC hS.2.1) (fF_no _), dc_cell hts hK hP 0 1 rfl rfl (fun h => h) (fun h => h)⟩
          refine vp_callSi (W.runV (As := []) (rest := []) ⟨hx, hb, hml, hown, hts⟩ (metX1_month l k qx ad290 y290 m290 d290) (cwV 0 hts (lw_V q543 q544 q545 q2 q546) rfl rfl rfl (by decide +kernel) ⟨Nat.le_of_ble_eq_true rfl, Nat.le_of_ble_eq_true rfl⟩) (pV_start (F := fCD k qx ad290 y290 m290 d290) fCD_mv (cs_recv (g331.2.1.1)) g331) rfl rfl hl.1 rfl (lv_room (Nat.le_of_ble_eq_true rfl)) dX0_elder_331 ⟨Nat.le_of_ble_eq_true rfl, Nat.le_of_ble_eq_true rfl⟩) (fun r331 pr331 => ?_)
          have pr331 : r331 = m290 := pr331
          have pr331 := pr331.symm
          subst pr331
          refine lv_iload hx hb dX0_elder_334 (lv_at hl 4 rfl) ?_
          refine lv_icmp_ne (tgt := 354) hx hb dX0_elder_336 (by decide) (fun c0 => absurd ((ic_eq (X := m290.toInt) (Y := m105.toInt) rfl rfl).mpr (by omega)) c0) (fun c336 => ?_)
          refine lv_aload_n hx hb dX0_elder_339 rfl (lv_at hl 6 rfl) ?_
          have g340 : fCD k qx ad290 y290 m290 d290 s H := ⟨cst_narrow (cst_kept hC hS.2.1) (fF_no _), dc_cell hts hK hP 0 1 rfl rfl (fun h => h) (fun h => h)⟩
          refine vp_callSi (W.runV (As := []) (rest := []) ⟨hx, hb, hml, hown, hts⟩ (metX1_dayOfMonth l k qx ad290 y290 m290 d290) (cwV 0 hts (lw_V q551 q552 q553 q2 q554) rfl rfl rfl (by decide +kernel) ⟨Nat.le_of_ble_eq_true rfl, Nat.le_of_ble_eq_true rfl⟩) (pV_start (F := fCD k qx ad290 y290 m290 d290) fCD_mv (cs_recv (g340.2.1.1)) g340) rfl rfl hl.1 rfl (lv_room (Nat.le_of_ble_eq_true rfl)) dX0_elder_340 ⟨Nat.le_of_ble_eq_true rfl, Nat.le_of_ble_eq_true rfl⟩) (fun r340 pr340 => ?_)
          have pr340 : r340 = d290 := pr340
          have pr340 := pr340.symm
          subst pr340
          refine lv_iload hx hb dX0_elder_343 (lv_at hl 3 rfl) ?_
          refine lv_iconst (v := 1) hx hb dX0_elder_345 (by decide +kernel) ?_
          refine lv_iadd hx hb dX0_elder_346 ?_
          refine lv_topi (fun v346 ev346 => ?_)
          have tv346 : v346.toInt = d105.toInt + 1 := ii_add ev346 rfl (by decide +kernel) (by omega) (by omega)
          refine lv_icmp_ne (tgt := 354) hx hb dX0_elder_347 (by decide) (fun c0 => absurd ((ic_eq (X := d290.toInt) (Y := v346.toInt) rfl rfl).mpr (by omega)) c0) (fun c347 => ?_)
          refine lv_iconst (v := 1) hx hb dX0_elder_350 (by decide +kernel) ?_
          refine lv_goto (tgt := 355) hx hb dX0_elder_351 (by decide) ?_
          refine W.widen (k := 7) (n := 17) (Nat.le_of_ble_eq_true rfl) (Nat.le_of_ble_eq_true rfl) ?_
          exact W.zret (v := 1) hx hb hr rfl (fun t ht hW => ⟨⟨1, (), rfl, rfl, trivial⟩, hS.F ht⟩) hS.2.2 dX0_elder_355
      · intro hE
        refine w_loop (α := Int32 × Int32) (fun a => (m105.toInt - a.1.toInt).toNat) (fun a ls => lv_has ls 11 [(10, .int a.1), (9, .int a.2), (8, .int (lB y105.toInt)), (7, .int r141), (6, .int d105), (5, .int m105), (4, .int y105), (3, .ref qx), (1, .long n), (0, .ref b)] ∧ 1 ≤ a.1.toInt ∧ a.1.toInt ≤ m105.toInt ∧ a.2.toInt = ca_cum (ca_L y105.toInt) a.1.toInt) (fun a ls => F0 mi 241 ls []) ?_ ?_
        · rintro ⟨i, bf⟩ ls ⟨hl, hi1, hi2, hbf⟩ ih
          have hl : lv_has ls 11 [(10, .int i), (9, .int bf), (8, .int (lB y105.toInt)), (7, .int r141), (6, .int d105), (5, .int m105), (4, .int y105), (3, .ref qx), (1, .long n), (0, .ref b)] := hl
          have hi1 : 1 ≤ i.toInt := hi1
          have hi2 : i.toInt ≤ m105.toInt := hi2
          have hbf : bf.toInt = ca_cum (ca_L y105.toInt) i.toInt := hbf
          refine lv_iload hx hb dX0_elder_241 (lv_at hl 0 rfl) ?_
          refine lv_iload hx hb dX0_elder_243 (lv_at hl 5 rfl) ?_
          refine lv_icmp_ge (tgt := 266) hx hb dX0_elder_245 (by decide) (fun c245 => ?_) (fun c245 => ?_)
          · have k_245 : m105.toInt ≤ i.toInt := (ic_le (X := m105.toInt) (Y := i.toInt) rfl rfl).mp c245
            have ei : i.toInt = m105.toInt := by omega
            exact hE bf ls ⟨lv_sub hl [1, 2, 3, 4, 5, 6, 7, 8, 9] rfl, by rw [← ei]; exact hbf⟩
          · have k_245 : ¬ m105.toInt ≤ i.toInt := fun c0 => c245 ((ic_le (X := m105.toInt) (Y := i.toInt) rfl rfl).mpr c0)
            have hib := ca_lnb (y := y105.toInt) hi1 (by omega)
            have hicb := ca_cumb (y := y105.toInt) hi1 (by omega)
            have hstep := ca_cum1 (L := ca_L y105.toInt) hi1 (by omega)
            refine lv_iload hx hb dX0_elder_248 (lv_at hl 1 rfl) ?_
            refine lv_iload hx hb dX0_elder_250 (lv_at hl 0 rfl) ?_
            refine lv_iload hx hb dX0_elder_252 (lv_at hl 2 rfl) ?_
            have g254 : fNo s H := trivial
            refine vp_callSi (W.runS (As := [.int i, .int (lB y105.toInt)]) (rest := [.int bf]) ⟨hx, hb, hml, hown, hts⟩ (metX0_length l i y105.toInt hi1 (by omega)) (va_cwS 2 hts (lw_S q661 q662 q1 q663) rfl rfl rfl (by decide +kernel) ⟨Nat.le_of_ble_eq_true rfl, Nat.le_of_ble_eq_true rfl⟩) (pS_start (F := fNo) fNo_mv g254) rfl rfl hl.1 rfl (lv_room (Nat.le_of_ble_eq_true rfl)) dX0_elder_254 ⟨Nat.le_of_ble_eq_true rfl, Nat.le_of_ble_eq_true rfl⟩) (fun r254 pr254 => ?_)
            have pr254 : r254.toInt = ca_ln (ca_L y105.toInt) i.toInt := pr254
            refine lv_iadd hx hb dX0_elder_257 ?_
            refine lv_topi (fun v257 ev257 => ?_)
            have tv257 : v257.toInt = bf.toInt + r254.toInt := ii_add ev257 rfl rfl (by omega) (by omega)
            refine lv_istore (lv' := [(9, .int v257), (10, .int i), (8, .int (lB y105.toInt)), (7, .int r141), (6, .int d105), (5, .int m105), (4, .int y105), (3, .ref qx), (1, .long n), (0, .ref b)]) hx hb dX0_elder_258 hl (by decide) rfl (fun ls hl => ?_)
            obtain ⟨i2, ei2⟩ : ∃ y9 : Int32, y9 = i + 1 := ⟨_, rfl⟩
            have ti2 : i2.toInt = i.toInt + 1 := ii_add ei2 rfl (by decide +kernel) (by omega) (by omega)
            refine lv_iinc (v := i2) (lv' := [(10, .int i2), (9, .int v257), (8, .int (lB y105.toInt)), (7, .int r141), (6, .int d105), (5, .int m105), (4, .int y105), (3, .ref qx), (1, .long n), (0, .ref b)]) hx hb dX0_elder_260 hl (k := 1) rfl (by rw [ei2]; rfl) (by decide) rfl (fun ls hl => ?_)
            refine lv_goto (tgt := 241) hx hb dX0_elder_263 (by decide) ?_
            exact ih (i2, v257) ls ⟨lv_sub hl [0, 1, 2, 3, 4, 5, 6, 7, 8, 9] rfl, by show 1 ≤ i2.toInt; omega, by show i2.toInt ≤ m105.toInt; omega, by show v257.toInt = ca_cum (ca_L y105.toInt) i2.toInt; rw [ti2, hstep]; omega⟩ (by show (m105.toInt - i2.toInt).toNat < (m105.toInt - i.toInt).toNat; omega)
        · intro hW
          exact hW (1, 0) ls ⟨hl, by show 1 ≤ (1 : Int32).toInt; decide +kernel, by show (1 : Int32).toInt ≤ m105.toInt; rw [show (1 : Int32).toInt = 1 by decide +kernel]; exact hgb.1, by show (0 : Int32).toInt = ca_cum (ca_L y105.toInt) (1 : Int32).toInt; rw [show (0 : Int32).toInt = 0 by decide +kernel, show (1 : Int32).toInt = 1 by decide +kernel]; rfl⟩
    · intro hk
      refine lv_iload hx hb dX0_elder_146 (lv_at hl 3 rfl) ?_
      refine lv_iconst (v := 3) hx hb dX0_elder_148 (by decide +kernel) ?_
      refine lv_iand hx hb dX0_elder_149 ?_
      refine lv_topi (fun v149 ev149 => ?_)
      have z3 := ii_and3z ev149
      refine lv_if_ne (tgt := 174) hx hb dX0_elder_150 (by decide) (fun c150 => ?_) (fun c150 => ?_)
      · have k_150 : ¬ v149.toInt = 0 := fun c0 => c150 ((ic_eq (X := v149.toInt) (Y := 0) rfl (by decide +kernel)).mpr c0)
        refine lv_iconst (v := 0) hx hb dX0_elder_174 (by decide +kernel) ?_
        exact hk 0 ls ⟨hl, lB0 (by omega)⟩
      · have k_150 : v149.toInt = 0 := (ic_eq (X := v149.toInt) (Y := 0) rfl (by decide +kernel)).mp c150
        refine lv_iload hx hb dX0_elder_153 (lv_at hl 3 rfl) ?_
        refine lv_bipush (v := 100) hx hb dX0_elder_155 (by decide +kernel) ?_
        refine lv_irem hx hb dX0_elder_157 (by decide) ?_
        refine lv_topi (fun v157 ev157 => ?_)
        have tv157 : (0 ≤ y105.toInt → v157.toInt = y105.toInt % 100) ∧ (y105.toInt ≤ 0 → v157.toInt = -((-y105.toInt) % 100)) := ii_rem ev157 rfl (by decide +kernel) (by decide)
        refine lv_if_ne (tgt := 170) hx hb dX0_elder_158 (by decide) (fun c158 => ?_) (fun c158 => ?_)
        · have k_158 : ¬ v157.toInt = 0 := fun c0 => c158 ((ic_eq (X := v157.toInt) (Y := 0) rfl (by decide +kernel)).mpr c0)
          refine lv_iconst (v := 1) hx hb dX0_elder_170 (by decide +kernel) ?_
          refine lv_goto (tgt := 175) hx hb dX0_elder_171 (by decide) ?_
          exact hk 1 ls ⟨hl, lB1 (by omega)⟩
        · have k_158 : v157.toInt = 0 := (ic_eq (X := v157.toInt) (Y := 0) rfl (by decide +kernel)).mp c158
          refine lv_iload hx hb dX0_elder_161 (lv_at hl 3 rfl) ?_
          refine lv_sipush (v := 400) hx hb dX0_elder_163 (by decide +kernel) ?_
          refine lv_irem hx hb dX0_elder_166 (by decide) ?_
          refine lv_topi (fun v166 ev166 => ?_)
          have tv166 : (0 ≤ y105.toInt → v166.toInt = y105.toInt % 400) ∧ (y105.toInt ≤ 0 → v166.toInt = -((-y105.toInt) % 400)) := ii_rem ev166 rfl (by decide +kernel) (by decide)
          refine lv_if_ne (tgt := 174) hx hb dX0_elder_167 (by decide) (fun c167 => ?_) (fun c167 => ?_)
          · have k_167 : ¬ v166.toInt = 0 := fun c0 => c167 ((ic_eq (X := v166.toInt) (Y := 0) rfl (by decide +kernel)).mpr c0)
            refine lv_iconst (v := 0) hx hb dX0_elder_174 (by decide +kernel) ?_
            exact hk 0 ls ⟨hl, lB0 (by omega)⟩
          · have k_167 : v166.toInt = 0 := (ic_eq (X := v166.toInt) (Y := 0) rfl (by decide +kernel)).mp c167
            refine lv_iconst (v := 1) hx hb dX0_elder_170 (by decide +kernel) ?_
            refine lv_goto (tgt := 175) hx hb dX0_elder_171 (by decide) ?_
            exact hk 1 ls ⟨hl, lB1 (by omega)⟩
  · intro hk
    refine lv_lload_n hx hb dX0_elder_29 rfl (lv_at hl 0 rfl) ?_
    refine lv_ldc2 (v := (-365243219162)) hx hb hown (hts _ q641) dX0_elder_30 ?_
    refine W.lcmp hx hb dX0_elder_33 ?_
    refine lv_if_lt (tgt := 45) hx hb dX0_elder_34 (by decide) (fun c34 => ?_) (fun c34 => ?_)
    · have k_34 : v27.toInt < (-365243219162) := (cm_lt0 (X := v27.toInt) (Y := (-365243219162)) rfl (by decide +kernel)).mp c34
      refine lv_aload_n hx hb dX0_elder_45 rfl (lv_at hl 1 rfl) ?_
      refine lv_iconst (v := 1) hx hb dX0_elder_46 (by decide +kernel) ?_
      have g47 : fX b L xs s H := (hX.1.kept (hS.2.1 b hX.2.2 hX.2.1))
      refine vp_callSi (W.runS (As := [.ref b, .int 1]) (rest := []) ⟨hx, hb, hml, hown, hts⟩ (metX0_cell l b L 1 xs (by decide) hL2) (va_cwS 2 hts (lw_S q29 q30 q1 q31) rfl rfl rfl (by decide +kernel) ⟨Nat.le_of_ble_eq_true rfl, Nat.le_of_ble_eq_true rfl⟩) (pS_start (F := fX b L xs) fX_mv g47) rfl rfl hl.1 rfl (lv_room (Nat.le_of_ble_eq_true rfl)) dX0_elder_47 ⟨Nat.le_of_ble_eq_true rfl, Nat.le_of_ble_eq_true rfl⟩) (fun r47 pr47 => ?_)
      have hrr := ii_rng r47
      refine lv_i2l (v := (r47).toInt64) hx hb dX0_elder_50 rfl ?_
      refine lv_topl (fun v50 ev50 => ?_)
      have tv50 : v50.toInt = r47.toInt := ll_i2l ev50 rfl
      refine lv_lstore_n (lv' := [(1, .long v50), (0, .ref b)]) hx hb dX0_elder_51 rfl hl (by decide) rfl (fun ls hl => ?_)
      exact hk v50 ls ⟨lv_sub hl [0, 1] rfl, by omega, by omega⟩
    · have k_34 : ¬ v27.toInt < (-365243219162) := fun c0 => c34 ((cm_lt0 (X := v27.toInt) (Y := (-365243219162)) rfl (by decide +kernel)).mpr c0)
      refine lv_lload_n hx hb dX0_elder_37 rfl (lv_at hl 0 rfl) ?_
      refine lv_ldc2 (v := 365241780471) hx hb hown (hts _ q642) dX0_elder_38 ?_
      refine W.lcmp hx hb dX0_elder_41 ?_
      refine lv_if_lt (tgt := 52) hx hb dX0_elder_42 (by decide) (fun c42 => ?_) (fun c42 => ?_)
      · have k_42 : v27.toInt < 365241780471 := (cm_lt0 (X := v27.toInt) (Y := 365241780471) rfl (by decide +kernel)).mp c42
        exact hk v27 ls ⟨lv_sub hl [0, 1] rfl, by omega, by omega⟩
      · have k_42 : ¬ v27.toInt < 365241780471 := fun c0 => c42 ((cm_lt0 (X := v27.toInt) (Y := 365241780471) rfl (by decide +kernel)).mpr c0)
        refine lv_aload_n hx hb dX0_elder_45 rfl (lv_at hl 1 rfl) ?_
        refine lv_iconst (v := 1) hx hb dX0_elder_46 (by decide +kernel) ?_
        have g47a : fX b L xs s H := (hX.1.kept (hS.2.1 b hX.2.2 hX.2.1))
        refine vp_callSi (W.runS (As := [.ref b, .int 1]) (rest := []) ⟨hx, hb, hml, hown, hts⟩ (metX0_cell l b L 1 xs (by decide) hL2) (va_cwS 2 hts (lw_S q29 q30 q1 q31) rfl rfl rfl (by decide +kernel) ⟨Nat.le_of_ble_eq_true rfl, Nat.le_of_ble_eq_true rfl⟩) (pS_start (F := fX b L xs) fX_mv g47a) rfl rfl hl.1 rfl (lv_room (Nat.le_of_ble_eq_true rfl)) dX0_elder_47 ⟨Nat.le_of_ble_eq_true rfl, Nat.le_of_ble_eq_true rfl⟩) (fun r47a pr47a => ?_)
        have hrr := ii_rng r47a
        refine lv_i2l (v := (r47a).toInt64) hx hb dX0_elder_50 rfl ?_
        refine lv_topl (fun v50a ev50a => ?_)
        have tv50a : v50a.toInt = r47a.toInt := ll_i2l ev50a rfl
        refine lv_lstore_n (lv' := [(1, .long v50a), (0, .ref b)]) hx hb dX0_elder_51 rfl hl (by decide) rfl (fun ls hl => ?_)
        exact hk v50a ls ⟨lv_sub hl [0, 1] rfl, by omega, by omega⟩
end
section
/-! THE CLAIM OUT OF ONE WALK OF THE LAW'S BODY. Your part is whole_start (and what it stands on); all else here is the same for every law, but numbers. -/
def R_law : String := "DayCountLaw"
def lw_P (b : Addr) (xs : List Int32) (args : Array Value) (s : State) : Prop := args = #[.ref b] ∧ s.IntsAt b xs ∧ xs.length ≤ 2 ∧ (Jvm.Cond.and given_1 narrow_1).before args s = true
def lw_Q (_ : Array Value) (s : State) (o : Outcome) (t : State) : Prop := o = .returned (some (.int 1)) ∧ Framed s o t [] 1200004 5502214
def lw_Z (below : List Frame) (a : Array Value) (s : State) : State → Prop := fun t => ∃ o, t.status = .running ∧ Ended t below o ∧ lw_Q a s o t
/-- the law's own end, with 1 on the stack, nothing written that was there before, its room as the claim has it -/
theorem lw_ret {p : Program} {l : Launch} {e : Env} {s : State} {m : MethodId} {below : List Frame} {meth : Method} {c : Code} {b : Nat} (hx : p.tables.exec = Jvm.exec) (hb : c.code = code) (hr : meth.sig.returnType = ret) (hlocks : meth.locks = false) {pc : Nat} {H : Heap} {ls : Array Slot} (hdg : decode code pc = .ok (.ireturn, 1)) : W p l e room_1 s m #[Value.ref b] below meth c H [] 1200004 5502214 (lw_Z below #[Value.ref b] s) (F0 m pc ls [.int 1]) := by
  intro T hT X
  obtain ⟨fs, hret, hrun, hended, hW, hframe⟩ := X.leave (v := some (.int 1)) (hlocks := hlocks) (fun h => by rw [hr] at h; cases h)
  have hmeth' : T.vm.method? m = some meth := X.method'
  refine ⟨T.setFrames fs, ?_, .returned (some (.int 1)), hrun, hended, rfl, ⟨_, rfl⟩, hW, hframe⟩
  jvm_step X.here [X.here.top, hx, hb, hdg, hmeth', hr, ret, narrow_b1]
  (try refine ⟨rfl, ?_⟩); (try refine ⟨rfl, ?_⟩)
  first | (intro acts; rw [hret _ acts rfl rfl rfl]) | rw [hret _ _ rfl rfl rfl]
  exact Steps.refl _
/-- what holds at the law's entry: the machine, the code, the tables' words (any of lw_tbl by 'hts w (by decide +kernel)'), the script of L ints xs at the cell b, what the Statement gives of the start (any of its parts by flat_of_before) -/
def lw_At (p : Program) (s : State) (m : MethodId) (meth : Method) (c : Code) (b L : Nat) (xs : Nat → Int32) : Prop :=
  p.tables.exec = Jvm.exec ∧ c.code = code ∧ meth.sig.returnType = ret ∧ c.maxLocals = 1 ∧ s.vm.findClass R_law = some m.cls ∧ (∀ w ∈ lw_tbl, w.before #[Value.ref b] s = true) ∧ va_X b L xs s s.heap ∧ b < s.heap.size ∧ meth.locks = false ∧ (Jvm.Cond.and given_1 narrow_1).before #[Value.ref b] s = true
/-! THE CONSTANTS, out of what the Statement gives of the start -/
set_option maxRecDepth 100000
theorem st_field {args : Array Value} {s : State} {t : Term} {o n d : String} {v : Value} {a : Nat} {A : Nat → Prop} (hv : (Term.field t o n d).eval args s none [] s = some v) (ht : t.eval args s none [] s = some (.ref a)) (hA : ∀ a : Nat, a < s.heap.size → ¬ A a) : va_OF o n d v a A s s.heap := by
  cases hfo : s.fieldFound? o n d with
  | none =>
    rw [va_fe ht] at hv
    simp [State.fieldOf?, State.fieldNamed?, hfo] at hv
  | some x =>
    obtain ⟨cf, k, fi, f⟩ := x
    obtain ⟨g1, cell, g2, g3, -, -, g6⟩ := Term.field_spec hfo ht hv
    exact ⟨cf, k, fi, f, cell, hfo, g1, g2, g3, g6, hA _ (Array.getElem?_eq_some_iff.mp g2).1⟩
theorem st_obj {args : Array Value} {s : State} {t : Term} {nm : String} {A : Nat → Prop} (hex : (Cond.exactly t nm).before args s = true) (hA : ∀ a : Nat, a < s.heap.size → ¬ A a) : ∃ a : Nat, t.eval args s none [] s = some (.ref a) ∧ va_O nm a A s s.heap := by
  obtain ⟨a, c, cell, k, q1, -⟩ := Cond.exactly_spec hex
  exact ⟨a, q1, va_Oof hex q1 hA⟩
/-- a ChronoField of the start, with its range -/
theorem st_field_range {args : Array Value} {s : State} {nm : String} {lo hi : Int64} {A : Nat → Prop} (hl : (Cond.laysStatic "ChronoField" nm "LChronoField;").before args s = true) (hini : (Cond.initialized "ChronoField").before args s = true) (h1 : (Cond.exactly (.static "ChronoField" nm "LChronoField;") "ChronoField").before args s = true) (h2 : (Cond.exactly (.field (.static "ChronoField" nm "LChronoField;") "ChronoField" "range" "LValueRange;") "ValueRange").before args s = true) (h3 : (Cond.eq (.field (.field (.static "ChronoField" nm "LChronoField;") "ChronoField" "range" "LValueRange;") "ValueRange" "minSmallest" "J") (.long lo)).before args s = true) (h4 : (Cond.eq (.field (.field (.static "ChronoField" nm "LChronoField;") "ChronoField" "range" "LValueRange;") "ValueRange" "maxLargest" "J") (.long hi)).before args s = true) (hA : ∀ a : Nat, a < s.heap.size → ¬ A a) : ∃ q r : Nat, va_Z "ChronoField" nm "LChronoField;" (.ref q) A s s.heap ∧ fCF q r lo hi A s s.heap := by
  obtain ⟨q, e1, o1⟩ := st_obj h1 hA
  obtain ⟨r, e2, o2⟩ := st_obj h2 hA
  exact ⟨q, r, va_Zref hl hini e1 hA, o1, st_field e2 e1 hA, o2, st_field (va_eqtl h3) e2 hA, st_field (va_eqtl h4) e2 hA⟩
theorem st_month {args : Array Value} {s : State} {nm : String} {j : Nat} {A : Nat → Prop} (h1 : (Cond.exactly (.static "Month" nm "LMonth;") "Month").before args s = true) (h2 : (Cond.eq (.field (.static "Month" nm "LMonth;") "java/lang/Enum" "ordinal" "I") (.int (nI j))).before args s = true) (h3 : (Cond.eq (.elem (.static "Month" "ENUMS" "[LMonth;") (.int (nI j))) (.static "Month" nm "LMonth;")).before args s = true) (hA : ∀ a : Nat, a < s.heap.size → ¬ A a) : ∃ a : Nat, fMo a j A s s.heap ∧ (Term.elem (.static "Month" "ENUMS" "[LMonth;") (.int (nI j))).eval args s none [] s = some (.ref a) := by
  obtain ⟨a, e1, o1⟩ := st_obj h1 hA
  exact ⟨a, ⟨o1, st_field (va_eqt h2) e1 hA⟩, va_eqv h3 e1⟩
set_option maxHeartbeats 4000000 in
theorem st_months {args : Array Value} {s : State} {A : Nat → Prop} (hs : ∀ c ∈ flatC (Jvm.Cond.and given_1 narrow_1), c.before args s = true) (hA : ∀ a : Nat, a < s.heap.size → ¬ A a) : ∃ ad : Nat → Nat, ∀ j : Nat, j < 12 → fMo (ad j) j A s s.heap ∧ (Term.elem (.static "Month" "ENUMS" "[LMonth;") (.int (nI j))).eval args s none [] s = some (.ref (ad j)) := by
  refine Classical.axiomOfChoice (r := fun j a => j < 12 → fMo a j A s s.heap ∧ (Term.elem (.static "Month" "ENUMS" "[LMonth;") (.int (nI j))).eval args s none [] s = some (.ref a)) (fun j => ?_)
  by_cases hj : j < 12
  · rcases (show j = 0 ∨ j = 1 ∨ j = 2 ∨ j = 3 ∨ j = 4 ∨ j = 5 ∨ j = 6 ∨ j = 7 ∨ j = 8 ∨ j = 9 ∨ j = 10 ∨ j = 11 by omega) with rfl | rfl | rfl | rfl | rfl | rfl | rfl | rfl | rfl | rfl | rfl | rfl
    · obtain ⟨a, h1, h2⟩ := st_month (nm := "JANUARY") (j := 0) (hs _ (by decide +kernel)) (hs _ (by decide +kernel)) (hs _ (by decide +kernel)) hA
      exact ⟨a, fun _ => ⟨h1, h2⟩⟩
    · obtain ⟨a, h1, h2⟩ := st_month (nm := "FEBRUARY") (j := 1) (hs _ (by decide +kernel)) (hs _ (by decide +kernel)) (hs _ (by decide +kernel)) hA
      exact ⟨a, fun _ => ⟨h1, h2⟩⟩
    · obtain ⟨a, h1, h2⟩ := st_month (nm := "MARCH") (j := 2) (hs _ (by decide +kernel)) (hs _ (by decide +kernel)) (hs _ (by decide +kernel)) hA
      exact ⟨a, fun _ => ⟨h1, h2⟩⟩
    · obtain ⟨a, h1, h2⟩ := st_month (nm := "APRIL") (j := 3) (hs _ (by decide +kernel)) (hs _ (by decide +kernel)) (hs _ (by decide +kernel)) hA
      exact ⟨a, fun _ => ⟨h1, h2⟩⟩
    · obtain ⟨a, h1, h2⟩ := st_month (nm := "MAY") (j := 4) (hs _ (by decide +kernel)) (hs _ (by decide +kernel)) (hs _ (by decide +kernel)) hA
      exact ⟨a, fun _ => ⟨h1, h2⟩⟩
    · obtain ⟨a, h1, h2⟩ := st_month (nm := "JUNE") (j := 5) (hs _ (by decide +kernel)) (hs _ (by decide +kernel)) (hs _ (by decide +kernel)) hA
      exact ⟨a, fun _ => ⟨h1, h2⟩⟩
    · obtain ⟨a, h1, h2⟩ := st_month (nm := "JULY") (j := 6) (hs _ (by decide +kernel)) (hs _ (by decide +kernel)) (hs _ (by decide +kernel)) hA
      exact ⟨a, fun _ => ⟨h1, h2⟩⟩
    · obtain ⟨a, h1, h2⟩ := st_month (nm := "AUGUST") (j := 7) (hs _ (by decide +kernel)) (hs _ (by decide +kernel)) (hs _ (by decide +kernel)) hA
      exact ⟨a, fun _ => ⟨h1, h2⟩⟩
    · obtain ⟨a, h1, h2⟩ := st_month (nm := "SEPTEMBER") (j := 8) (hs _ (by decide +kernel)) (hs _ (by decide +kernel)) (hs _ (by decide +kernel)) hA
      exact ⟨a, fun _ => ⟨h1, h2⟩⟩
    · obtain ⟨a, h1, h2⟩ := st_month (nm := "OCTOBER") (j := 9) (hs _ (by decide +kernel)) (hs _ (by decide +kernel)) (hs _ (by decide +kernel)) hA
      exact ⟨a, fun _ => ⟨h1, h2⟩⟩
    · obtain ⟨a, h1, h2⟩ := st_month (nm := "NOVEMBER") (j := 10) (hs _ (by decide +kernel)) (hs _ (by decide +kernel)) (hs _ (by decide +kernel)) hA
      exact ⟨a, fun _ => ⟨h1, h2⟩⟩
    · obtain ⟨a, h1, h2⟩ := st_month (nm := "DECEMBER") (j := 11) (hs _ (by decide +kernel)) (hs _ (by decide +kernel)) (hs _ (by decide +kernel)) hA
      exact ⟨a, fun _ => ⟨h1, h2⟩⟩
  · exact ⟨0, fun h => absurd h hj⟩
set_option maxHeartbeats 4000000 in
/-- all constants at the start -/
theorem st_cst {args : Array Value} {s : State} {A : Nat → Prop} (hts0 : ∀ w ∈ lw_tbl, w.before args s = true) (hgv : (Jvm.Cond.and given_1 narrow_1).before args s = true) (hA : ∀ a : Nat, a < s.heap.size → ¬ A a) : ∃ k : Nat → Nat, cst k A s s.heap := by
  have hs := flat_of_before _ hgv
  obtain ⟨e1, r1, he1⟩ := st_field_range (nm := "EPOCH_DAY") (lo := -365243219162) (hi := 365241780471) (hts0 _ q50) (hts0 _ (lw_all_tbl q8)) (hs _ (by decide +kernel)) (hs _ (by decide +kernel)) (hs _ (by decide +kernel)) (hs _ (by decide +kernel)) hA
  obtain ⟨e2, r2, he2⟩ := st_field_range (nm := "YEAR") (lo := -999999999) (hi := 999999999) (hts0 _ q478) (hts0 _ (lw_all_tbl q8)) (hs _ (by decide +kernel)) (hs _ (by decide +kernel)) (hs _ (by decide +kernel)) (hs _ (by decide +kernel)) hA
  have hi1 : (Cond.exactly (.static "IsoChronology" "INSTANCE" "LIsoChronology;") "IsoChronology").before args s = true := hs _ (by decide +kernel)
  obtain ⟨i1, ei1, oi1⟩ := st_obj hi1 hA
  obtain ⟨ad, had⟩ := st_months hs hA
  have hlen : (Cond.eq (.length (.static "Month" "ENUMS" "[LMonth;")) (.int 12)).before args s = true := hs _ (by decide +kernel)
  have harr : (Cond.arrayOf (.static "Month" "ENUMS" "[LMonth;") (.object "Month")).before args s = true := hs _ (by decide +kernel)
  obtain ⟨t1, et1, ht1⟩ := va_Tof (N := 12) (f := fun j => .ref (ad j)) (A := A) (by decide) harr (va_eqt hlen) (fun j hj => (had j hj).2) hA
  obtain ⟨k, hk⟩ : ∃ k : Nat → Nat, k = fun i => if i < 6 then [e1, r1, e2, r2, i1, t1].getD i 0 else ad (i - 6) := ⟨_, rfl⟩
  have k0 : k 0 = e1 := by rw [hk]; rfl
  have k1 : k 1 = r1 := by rw [hk]; rfl
  have k2 : k 2 = e2 := by rw [hk]; rfl
  have k3 : k 3 = r2 := by rw [hk]; rfl
  have k4 : k 4 = i1 := by rw [hk]; rfl
  have k5 : k 5 = t1 := by rw [hk]; rfl
  have k6 : ∀ j, k (6 + j) = ad j := fun j => by
    rw [hk]
    show (if 6 + j < 6 then _ else ad (6 + j - 6)) = ad j
    rw [if_neg (by omega), Nat.add_sub_cancel_left]
  have kf : (fun j => Value.ref (k (6 + j))) = fun j => Value.ref (ad j) := funext fun j => by rw [k6]
  refine ⟨k, ?_⟩
  unfold cst
  rw [k0, k1, k2, k3, k4, k5, kf]
  exact ⟨he1, he2, ⟨va_Zref (hts0 _ q609) (hts0 _ (lw_all_tbl q28)) ei1 hA, oi1⟩, ⟨va_Zref (hts0 _ q603) (hts0 _ (lw_all_tbl q26)) et1 hA, ht1⟩, fun j hj => by rw [k6]; exact (had j hj).1⟩
end
section
/-! THE LAW, from its entry (the walk's rows printed by wip/D-29837w/gen/start.py) -/
set_option maxRecDepth 100000
set_option maxHeartbeats 4000000 in
theorem whole_start {p : Program} {e : Env} {s : State} {m : MethodId} {below : List Frame} {meth : Method} {c : Code} (l : Launch) (hflags : l.flags = flags0) {b L : Nat} {xs : Nat → Int32} (hL : L ≤ 2) (C0 : lw_At p s m meth c b L xs) : W p l e room_1 s m #[Value.ref b] below meth c s.heap [] 0 0 (lw_Z below #[Value.ref b] s) (entryFrame m ([Value.ref b] : List Value).toArray 1) := by
  obtain ⟨hx, hb, hr, hml, hown, hts0, hX, hbl, hlocks, hgv⟩ := C0
  have hts : ∀ w ∈ lw_all, w.before #[Value.ref b] s = true := fun w h => hts0 w (lw_all_tbl h)
  obtain ⟨A, hAd⟩ : ∃ A : Nat → Prop, A = fun q => s.heap.size ≤ q := ⟨_, rfl⟩
  have hA : ∀ q : Nat, s.heap.size ≤ q → A q := fun q h => by rw [hAd]; exact h
  have hAn : ∀ q : Nat, q < s.heap.size → ¬ A q := fun q h => by rw [hAd]; exact Nat.not_le.mpr h
  have hbA : ¬ A b := hAn b hbl
  obtain ⟨c0, iS0, hKn0⟩ := u_known (C := RX1) (T := TX1) (N := 1) (n := 1) hts0 (fun w h => lw_all_tbl (in_X1 w h)) (hts0 _ (lw_all_tbl q39))
  obtain ⟨c1, iS1, hKn1⟩ := u_known (C := RX5) (T := TX5) (N := 3) (n := 3) hts0 (fun w h => lw_all_tbl (in_X5 w h)) (hts0 _ (lw_all_tbl q500))
  obtain ⟨D, hKc⟩ : ∃ D : va_G, ∀ (k : Nat) (q : vw_C), vwC[k]? = some q → u_Kn s q.1 q.2.1 q.2.2 (D.1 k) (D.2 k) := by
    refine ⟨(fun k => if k = 0 then c0 else c1, fun k => if k = 0 then iS0 else iS1), ?_⟩
    intro k q hq
    match k, hq with
    | 0, hq => cases hq; exact hKn0
    | 1, hq => cases hq; exact hKn1
    | k + 2, hq => simp [vwC] at hq
  have hK : va_K D vwC [] s := ⟨hKc, fun k q h => by simp at h⟩
  have hP : va_P D vwC [] s.heap := vP0
  have hD : va_D A [] := vD0
  have hS : va_S A s.heap s.heap [] := va_S.rf
  obtain ⟨k, hC⟩ := st_cst (A := A) hts0 hgv hAn
  have hl := lv_entry ([.ref b]) (n := 1) (Nat.le_of_ble_eq_true rfl)
  rw [lg_entry_eq]
  generalize (lg_sl ([.ref b]) ++ List.replicate (1 - (lg_sl ([.ref b])).length) Slot.unset).toArray = ls at hl ⊢
  have hl : lv_has ls 1 [(0, .ref b)] := hl
  refine lv_aload_n hx hb dL_law_0 rfl (lv_at hl 0 rfl) ?_
  have hPc := hP.sub (ws' := []) [] rfl
  have hDc := hD.sub (ws' := []) [] (by decide) rfl
  have hKc := hK.sub (tys' := []) [] rfl
  have hFc := va_free (wc := []) hD hS hA [] rfl
  have hCc := cst_narrow (cst_kept hC hS.2.1) hFc
  refine va_calli (va_runS (As := [.ref b]) (rest := []) ⟨hx, hb, hml, hown, hts⟩ (metX0_elder l D k s.heap.size b L xs hL) (va_cwS 1 hts (lw_S q32 q33 q1 q34) rfl rfl rfl (by decide +kernel) ⟨Nat.le_of_ble_eq_true rfl, Nat.le_of_ble_eq_true rfl⟩) (aS_start (X := (xX b L xs)) (xX_mv b L xs) hPc hKc hDc hCc ⟨hX.kept (hS.2.1 b hbl hbA), nA0 (Nat.lt_of_lt_of_le hbl hS.1), Nat.lt_of_lt_of_le hbl hS.1⟩) rfl rfl hl.1 rfl (lv_room (Nat.le_of_ble_eq_true rfl)) dL_law_1 ⟨Nat.le_of_ble_eq_true rfl, Nat.le_of_ble_eq_true rfl⟩) hS (fun q _ h => hFc q h) hFc (fun r1 u t H1 locs ht hvm hw hB hz1 hk1 hS => ?_)
  have hP1 : va_P D vwC [] H1 := vP0
  have hD1 : va_D (va_A [] s.heap.size) [] := vD0
  have hK1 := hKc
  have p1 : r1 = 1 := hw
  obtain ⟨hP, hD⟩ := va_join (wr := []) (w1 := []) hP hD [] [] rfl rfl (by decide) (by decide) hk1 hFc hP1 hD1
  have hK := (hK.sub (tys' := []) [] rfl).app hK1
  generalize H1 = H at hP hS ⊢
  have hP : va_P D vwC [] H := hP
  have hD : va_D A [] := hD
  have hK : va_K D vwC [] s := hK
  refine W.widen (k := 7) (n := 17) (Nat.le_of_ble_eq_true rfl) (Nat.le_of_ble_eq_true rfl) ?_
  have z1 : 1 = r1 := p1.symm
  subst z1
  refine lv_if_eq (tgt := 49) hx hb dL_law_4 (by decide) (fun c0 => absurd ((ic_eq (X := 1) (Y := 0) (by decide +kernel) (by decide +kernel)).mp c0) (by decide)) (fun c4 => ?_)
  refine lv_aload_n hx hb dL_law_7 rfl (lv_at hl 0 rfl) ?_
  refine lv_iconst (v := 0) hx hb dL_law_8 (by decide +kernel) ?_
  have g9 : fX b L xs s H := (hX.kept (hS.2.1 b hbl hbA))
  refine vp_callSi (W.runS (As := [.ref b, .int 0]) (rest := []) ⟨hx, hb, hml, hown, hts⟩ (metX0_cell l b L 0 xs (by decide) hL) (va_cwS 2 hts (lw_S q29 q30 q1 q31) rfl rfl rfl (by decide +kernel) ⟨Nat.le_of_ble_eq_true rfl, Nat.le_of_ble_eq_true rfl⟩) (pS_start (F := fX b L xs) fX_mv g9) rfl rfl hl.1 rfl (lv_room (Nat.le_of_ble_eq_true rfl)) dL_law_9 ⟨Nat.le_of_ble_eq_true rfl, Nat.le_of_ble_eq_true rfl⟩) (fun r9 pr9 => ?_)
  have hPc := hP.sub (ws' := []) [] rfl
  have hDc := hD.sub (ws' := []) [] (by decide) rfl
  have hKc := hK.sub (tys' := []) [] rfl
  have hFc := va_free (wc := []) hD hS hA [] rfl
  have hCc := cst_narrow (cst_kept hC hS.2.1) hFc
  refine va_calli (va_runS (As := [.int r9]) (rest := []) ⟨hx, hb, hml, hown, hts⟩ (metX0_askedNear l D k H.size r9) (va_cwS 1 hts (lw_S q664 q665 q1 q666) rfl rfl rfl (by decide +kernel) ⟨Nat.le_of_ble_eq_true rfl, Nat.le_of_ble_eq_true rfl⟩) (aS_start (X := xT) xT_mv hPc hKc hDc hCc trivial) rfl rfl hl.1 rfl (lv_room (Nat.le_of_ble_eq_true rfl)) dL_law_12 ⟨Nat.le_of_ble_eq_true rfl, Nat.le_of_ble_eq_true rfl⟩) hS (fun q _ h => hFc q h) hFc (fun r12 u t H1 locs ht hvm hw hB hz1 hk1 hS => ?_)
  have hP1 : va_P D vwC [] H1 := vP0
  have hD1 : va_D (va_A [] H.size) [] := vD0
  have hK1 := hKc
  have p12 : r12 = 1 := hw
  obtain ⟨hP, hD⟩ := va_join (wr := []) (w1 := []) hP hD [] [] rfl rfl (by decide) (by decide) hk1 hFc hP1 hD1
  have hK := (hK.sub (tys' := []) [] rfl).app hK1
  generalize H1 = H at hP hS ⊢
  have hP : va_P D vwC [] H := hP
  have hD : va_D A [] := hD
  have hK : va_K D vwC [] s := hK
  refine W.widen (k := 13) (n := 37) (Nat.le_of_ble_eq_true rfl) (Nat.le_of_ble_eq_true rfl) ?_
  have z12 : 1 = r12 := p12.symm
  subst z12
  refine lv_if_eq (tgt := 49) hx hb dL_law_15 (by decide) (fun c0 => absurd ((ic_eq (X := 1) (Y := 0) (by decide +kernel) (by decide +kernel)).mp c0) (by decide)) (fun c15 => ?_)
  refine lv_aload_n hx hb dL_law_18 rfl (lv_at hl 0 rfl) ?_
  refine lv_iconst (v := 0) hx hb dL_law_19 (by decide +kernel) ?_
  have g20 : fX b L xs s H := (hX.kept (hS.2.1 b hbl hbA))
  refine vp_callSi (W.runS (As := [.ref b, .int 0]) (rest := []) ⟨hx, hb, hml, hown, hts⟩ (metX0_cell l b L 0 xs (by decide) hL) (va_cwS 2 hts (lw_S q29 q30 q1 q31) rfl rfl rfl (by decide +kernel) ⟨Nat.le_of_ble_eq_true rfl, Nat.le_of_ble_eq_true rfl⟩) (pS_start (F := fX b L xs) fX_mv g20) rfl rfl hl.1 rfl (lv_room (Nat.le_of_ble_eq_true rfl)) dL_law_20 ⟨Nat.le_of_ble_eq_true rfl, Nat.le_of_ble_eq_true rfl⟩) (fun r20 pr20 => ?_)
  have hPc := hP.sub (ws' := []) [] rfl
  have hDc := hD.sub (ws' := []) [] (by decide) rfl
  have hKc := hK.sub (tys' := []) [] rfl
  have hFc := va_free (wc := []) hD hS hA [] rfl
  have hCc := cst_narrow (cst_kept hC hS.2.1) hFc
  refine va_calli (va_runS (As := [.int r20]) (rest := []) ⟨hx, hb, hml, hown, hts⟩ (metX0_askedEnds l D k H.size r20) (va_cwS 1 hts (lw_S q704 q705 q1 q706) rfl rfl rfl (by decide +kernel) ⟨Nat.le_of_ble_eq_true rfl, Nat.le_of_ble_eq_true rfl⟩) (aS_start (X := xT) xT_mv hPc hKc hDc hCc trivial) rfl rfl hl.1 rfl (lv_room (Nat.le_of_ble_eq_true rfl)) dL_law_23 ⟨Nat.le_of_ble_eq_true rfl, Nat.le_of_ble_eq_true rfl⟩) hS (fun q _ h => hFc q h) hFc (fun r23 u t H1 locs ht hvm hw hB hz1 hk1 hS => ?_)
  have hP1 : va_P D vwC [] H1 := vP0
  have hD1 : va_D (va_A [] H.size) [] := vD0
  have hK1 := hKc
  have p23 : r23 = 1 := hw
  obtain ⟨hP, hD⟩ := va_join (wr := []) (w1 := []) hP hD [] [] rfl rfl (by decide) (by decide) hk1 hFc hP1 hD1
  have hK := (hK.sub (tys' := []) [] rfl).app hK1
  generalize H1 = H at hP hS ⊢
  have hP : va_P D vwC [] H := hP
  have hD : va_D A [] := hD
  have hK : va_K D vwC [] s := hK
  refine W.widen (k := 23) (n := 67) (Nat.le_of_ble_eq_true rfl) (Nat.le_of_ble_eq_true rfl) ?_
  have z23 : 1 = r23 := p23.symm
  subst z23
  refine lv_if_eq (tgt := 49) hx hb dL_law_26 (by decide) (fun c0 => absurd ((ic_eq (X := 1) (Y := 0) (by decide +kernel) (by decide +kernel)).mp c0) (by decide)) (fun c26 => ?_)
  refine lv_aload_n hx hb dL_law_29 rfl (lv_at hl 0 rfl) ?_
  refine lv_iconst (v := 0) hx hb dL_law_30 (by decide +kernel) ?_
  have g31 : fX b L xs s H := (hX.kept (hS.2.1 b hbl hbA))
  refine vp_callSi (W.runS (As := [.ref b, .int 0]) (rest := []) ⟨hx, hb, hml, hown, hts⟩ (metX0_cell l b L 0 xs (by decide) hL) (va_cwS 2 hts (lw_S q29 q30 q1 q31) rfl rfl rfl (by decide +kernel) ⟨Nat.le_of_ble_eq_true rfl, Nat.le_of_ble_eq_true rfl⟩) (pS_start (F := fX b L xs) fX_mv g31) rfl rfl hl.1 rfl (lv_room (Nat.le_of_ble_eq_true rfl)) dL_law_31 ⟨Nat.le_of_ble_eq_true rfl, Nat.le_of_ble_eq_true rfl⟩) (fun r31 pr31 => ?_)
  refine lv_aload_n hx hb dL_law_34 rfl (lv_at hl 0 rfl) ?_
  refine lv_iconst (v := 1) hx hb dL_law_35 (by decide +kernel) ?_
  have g36 : fX b L xs s H := (hX.kept (hS.2.1 b hbl hbA))
  refine vp_callSi (W.runS (As := [.ref b, .int 1]) (rest := [.int r31]) ⟨hx, hb, hml, hown, hts⟩ (metX0_cell l b L 1 xs (by decide) hL) (va_cwS 2 hts (lw_S q29 q30 q1 q31) rfl rfl rfl (by decide +kernel) ⟨Nat.le_of_ble_eq_true rfl, Nat.le_of_ble_eq_true rfl⟩) (pS_start (F := fX b L xs) fX_mv g36) rfl rfl hl.1 rfl (lv_room (Nat.le_of_ble_eq_true rfl)) dL_law_36 ⟨Nat.le_of_ble_eq_true rfl, Nat.le_of_ble_eq_true rfl⟩) (fun r36 pr36 => ?_)
  have hPc := hP.sub (ws' := []) [] rfl
  have hDc := hD.sub (ws' := []) [] (by decide) rfl
  have hKc := hK.sub (tys' := []) [] rfl
  have hFc := va_free (wc := []) hD hS hA [] rfl
  have hCc := cst_narrow (cst_kept hC hS.2.1) hFc
  refine va_calli (va_runS (As := [.int r31, .int r36]) (rest := []) ⟨hx, hb, hml, hown, hts⟩ (metX0_askedPlain l D k H.size r31 r36) (va_cwS 2 hts (lw_S q711 q712 q1 q713) rfl rfl rfl (by decide +kernel) ⟨Nat.le_of_ble_eq_true rfl, Nat.le_of_ble_eq_true rfl⟩) (aS_start (X := xT) xT_mv hPc hKc hDc hCc trivial) rfl rfl hl.1 rfl (lv_room (Nat.le_of_ble_eq_true rfl)) dL_law_39 ⟨Nat.le_of_ble_eq_true rfl, Nat.le_of_ble_eq_true rfl⟩) hS (fun q _ h => hFc q h) hFc (fun r39 u t H1 locs ht hvm hw hB hz1 hk1 hS => ?_)
  have hP1 : va_P D vwC [] H1 := vP0
  have hD1 : va_D (va_A [] H.size) [] := vD0
  have hK1 := hKc
  have p39 : r39 = 1 := hw
  obtain ⟨hP, hD⟩ := va_join (wr := []) (w1 := []) hP hD [] [] rfl rfl (by decide) (by decide) hk1 hFc hP1 hD1
  have hK := (hK.sub (tys' := []) [] rfl).app hK1
  generalize H1 = H at hP hS ⊢
  have hP : va_P D vwC [] H := hP
  have hD : va_D A [] := hD
  have hK : va_K D vwC [] s := hK
  refine W.widen (k := 27) (n := 79) (Nat.le_of_ble_eq_true rfl) (Nat.le_of_ble_eq_true rfl) ?_
  have z39 : 1 = r39 := p39.symm
  subst z39
  refine lv_if_eq (tgt := 49) hx hb dL_law_42 (by decide) (fun c0 => absurd ((ic_eq (X := 1) (Y := 0) (by decide +kernel) (by decide +kernel)).mp c0) (by decide)) (fun c42 => ?_)
  refine lv_iconst (v := 1) hx hb dL_law_45 (by decide +kernel) ?_
  refine lv_goto (tgt := 50) hx hb dL_law_46 (by decide) ?_
  refine va_forget (fun q hq => by have h9 := hS.2.2 q hq; rw [hAd] at h9; exact h9) ?_
  refine W.widen (k := 1200004) (n := 5502214) (Nat.le_of_ble_eq_true rfl) (Nat.le_of_ble_eq_true rfl) ?_
  exact lw_ret hx hb hr hlocks dL_law_50
end
section
set_option maxHeartbeats 4000000 in
theorem lw_walk (l : Launch) (hflags : l.flags = flags0) (b : Addr) (xs : List Int32) : MetFree l x (headSpec (Jvm.Cond.code x code maxLocals ret :: tables_1) room_1) (lw_P b xs) (fun _ _ _ _ _ => True) lw_Q := by
  refine MetFree.of_bodyS (code := code) (maxLocals := maxLocals) (ret := ret) (by decide) ?_ ?_
  · intro args s m h hn
    obtain ⟨meth, c, h1, h2, h3, h4, h5, h6, -, -⟩ := Cond.code_spec hn (atoms_spec (ws := Jvm.Cond.code x code maxLocals ret :: tables_1) h _ List.mem_cons_self)
    exact ⟨meth, c, h1, h2, h3, h4, h5, h6⟩
  · intro p e s m args below meth c s₁ B hml0 hP _
    obtain ⟨rfl, hx, hbd, hgv⟩ := hP
    obtain ⟨scr, harrAt, hlist, hof, hsmall⟩ := hx
    obtain ⟨hcb, hkn, -, -⟩ := State.arrayAt?_spec harrAt
    have hown : s.vm.findClass R_law = some m.cls := findClass_of_methodNamed B.named
    have hts0 : ∀ c ∈ (Jvm.Cond.code x code maxLocals ret :: tables_1), c.before #[Value.ref b] s = true := atoms_spec (ws := Jvm.Cond.code x code maxLocals ret :: tables_1) B.pre
    have hts : ∀ w ∈ lw_tbl, w.before #[Value.ref b] s = true := k2_hts_sels lw_privs (fun w hw => hts0 w (List.mem_cons_of_mem _ hw)) lw_privs_ok
    have hml : c.maxLocals = 1 := B.maxLocals_eq (hts0 _ List.mem_cons_self)
    have X₀ : Stand p l e room_1 s m #[Value.ref b] below meth c s₁ [] 0 0 := Stand.of_body B
    have hh0 : s₁.heap = s.heap := by rw [B.state]; rfl
    have hsz : scr.slots.size = xs.length := by rw [← Array.length_toList, hlist, List.length_map]
    have hval : ∀ j : Nat, j < xs.length → scr.slots[j]? = some (.int (xs.getD j 0)) := fun j hj => by
      rw [← Array.getElem?_toList, hlist]
      simp [hj]
    have hbl : b < s.heap.size := (Array.getElem?_eq_some_iff.mp hcb).1
    have hX : va_X b xs.length (fun j => xs.getD j 0) s s.heap := ⟨scr, hcb, hof, hkn, hsz, hval⟩
    have K : W p l e room_1 s m #[Value.ref b] below meth c s₁.heap [] 0 0 (lw_Z below #[Value.ref b] s) (entryFrame m ([Value.ref b] : List Value).toArray 1) := by
      rw [hh0]
      exact whole_start l hflags hbd ⟨B.exec, B.bytes, B.returns, hml, hown, hts, hX, hbl, B.notSynchronized, hgv⟩
    obtain ⟨t, a1, o, b1, b2, b3⟩ := K s₁ rfl X₀
    exact ⟨t, o, a1, b1, b2, b3⟩
theorem lw_pre_spec {args : Array Value} {s : State} (h : (Jvm.Cond.and given_1 narrow_1).before args s = true) (hr : rest_1_c.before args s = true) : ∃ (b : Addr) (xs : List Int32), lw_P b xs args s := by
  have hs := flat_of_before _ h
  have hq := flat_of_before _ hr
  have hc : (Cond.count 1).before args s = true := hs _ (by decide +kernel)
  have harr : (Cond.arrayOf (.arg 0) .int).before args s = true := hs _ (by decide +kernel)
  have hle : (Cond.le (.length (.arg 0)) (.int 2)).before args s = true := hs _ (by decide +kernel)
  have hlen : (Cond.isInt (.length (.arg 0))).before args s = true := hq _ (by decide +kernel)
  have hall : (Cond.all (.arg 0) (.isInt (.elem (.arg 0) (.index 0)))).before args s = true := hq _ (by decide +kernel)
  obtain ⟨b, xs, hb, hx⟩ := State.ints_of_pre rfl harr hlen hall
  have hsm : xs.length < 2 ^ 31 := hx.choose_spec.2.2.2
  have hev : (Term.length (.arg 0)).eval args s none [] s = some (.int xs.length.toInt32) := hx.length_eval hb
  have hv := Cond.le_ints hev (show (Term.int 2).eval args s none [] s = some (.int 2) from rfl)
  have hd : xs.length.toInt32 ≤ 2 := by
    simpa [Cond.before, Cond.holds, hv] using hle
  have hN : xs.length ≤ 2 := (Int32.ofNat_le_ofNat hsm (by decide)).mp (show Int32.ofNat xs.length ≤ Int32.ofNat 2 from hd)
  exact ⟨b, xs, Cond.one_arg hc (show args[0]? = some (.ref b) from hb), hx, hN, h⟩
theorem lw_comes (l : Launch) (hflags : l.flags = flags0) : Comes l x (Jvm.Cond.code x code maxLocals ret :: tables_1) room_1 (fun tb e args s => Calls_1 tb e args s ∧ rest_1 tb e args s ∧ Pre_1 tb e args s)
    (fun _ _ args s o t => lw_Q args s o t) := by
  intro p e ha hc hk s m args below hf hfit hheap happ hpre
  obtain ⟨b, xs, hP⟩ := lw_pre_spec hpre.2.2 hpre.2.1
  obtain ⟨k, o, h1, h2, h3, hQ⟩ := lw_walk l hflags b xs p e ha hc hk s m args below hf ((Spec.applies_iff_loose hf).mp happ).1 hP trivial
  exact ⟨k, o, h1, h2, h3, hQ⟩
theorem lw_frame {s t : State} {o : Outcome} {args : Array Value} (h : Framed s o t [] 1200004 5502214) :
    Framed s o t (fieldLocs frame_1_writes args s ++ arrayLocs frame_1_arrays args s ++ staticLocs frame_1_statics s) 1200004 5502214 := h
theorem lw_limb (L : Cond) (hL : ∀ (args : Array Value) (s t : State), L.after args s (.returned (some (.int 1))) t = true) :
    ArmFor flags0 classFile x code maxLocals ret World_1 tables_1 room_1 Calls_1 rest_1 Pre_1
      (fun tb e a s o t => postC L tb e a s o t ∧ Framed s o t (fieldLocs frame_1_writes a s ++ arrayLocs frame_1_arrays a s ++ staticLocs frame_1_statics s) 1200004 5502214) := by
  intro l hflags _ _ p e ha hc hk s m args below hf hfit hheap happ hpre
  obtain ⟨k, o, h1, h2, h3, rfl, hF⟩ := lw_comes l hflags p e ha hc hk s m args below hf hfit hheap happ hpre
  exact ⟨k, _, h1, h2, h3, hL args s _, lw_frame hF⟩
theorem i_vc : Claimed_1_1 ∧ Claimed_1_2 := ⟨lw_limb limb_1_1 (fun args s t => by simp [limb_1_1, Cond.after, Cond.holds, Cond.value]), lw_limb limb_1_2 (fun args s t => Cond.after_iff.mpr (by
  first | (rw [show limb_1_2 = Cond.eq .result (.int 1) from rfl, Cond.eq_ints (x := 1) (y := 1) rfl rfl]; simp; done) | (simp [limb_1_2, Cond.value, Term.eval]; done)))⟩
end
