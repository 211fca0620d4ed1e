section
-- ===== PART A: goes FIRST, ahead of the names: the tables' words, and 'selects' of the private methods out of them =====
/-- a private method of a class that the tables say can be made, by its rows of tables_1 -/
def lw_okq (q : MethodName × Nat) : Prop := (q.1.cls ≠ "java/lang/invoke/MethodHandle" ∧ q.1.cls ≠ "java/lang/invoke/VarHandle") ∧ Cond.instantiable q.1.cls q.2 ∈ tables_1 ∧ Cond.privateMethod q.1 ∈ tables_1 ∧ Cond.instanceMethod q.1 ∈ tables_1
set_option maxRecDepth 100000
theorem lw_t1 {w : Cond} (h : w ∈ tables_1_1) : w ∈ tables_1 := List.mem_append_left _ h
theorem lw_t2 {w : Cond} (h : w ∈ tables_1_2) : w ∈ tables_1 := List.mem_append_right _ (List.mem_append_left _ h)
theorem lw_t3 {w : Cond} (h : w ∈ tables_1_3) : w ∈ tables_1 := List.mem_append_right _ (List.mem_append_right _ h)
theorem lw_p0 : lw_okq (⟨"BlockPacker", "word", "(II)V"⟩, 8) := ⟨⟨by decide +kernel, by decide +kernel⟩, lw_t1 (List.mem_of_getElem? (i := 37) rfl), lw_t1 (List.mem_of_getElem? (i := 98) rfl), lw_t1 (List.mem_of_getElem? (i := 99) rfl)⟩
theorem lw_p1 : lw_okq (⟨"java/lang/Throwable", "fillInStackTrace", "(I)Ljava/lang/Throwable;"⟩, 6) := ⟨⟨by decide +kernel, by decide +kernel⟩, lw_t1 (List.mem_of_getElem? (i := 177) rfl), lw_t1 (List.mem_of_getElem? (i := 175) rfl), lw_t1 (List.mem_of_getElem? (i := 176) rfl)⟩
def lw_privs_1 : List (MethodName × Nat) := [(⟨"BlockPacker", "word", "(II)V"⟩, 8), (⟨"java/lang/Throwable", "fillInStackTrace", "(I)Ljava/lang/Throwable;"⟩, 6)]
theorem lw_r1 : ∀ q ∈ lw_privs_1, lw_okq q := List.forall_mem_cons.mpr ⟨lw_p0, List.forall_mem_cons.mpr ⟨lw_p1, fun _ h => absurd h List.not_mem_nil⟩⟩
def lw_privs : List (MethodName × Nat) := lw_privs_1
def lw_tbl : List Cond := k2_sels lw_privs ++ tables_1
theorem lw_privs_ok : ∀ q ∈ lw_privs, lw_okq q := lw_r1
-- ===== ONE list of words for every method: the tables' words that hold all through a run =====
def lw_all : List Cond := lw_tbl.filter goodWord
/-- a word of the tables by its place: claim/WORDS.tsv -/
theorem lw_w {w : Cond} (i : Nat) (h : lw_tbl[i]? = some w) (g : goodWord w = true) : w ∈ lw_all := List.mem_filter.mpr ⟨List.mem_of_getElem? h, g⟩
theorem lw_all_tbl {w : Cond} (h : w ∈ lw_all) : w ∈ lw_tbl := (List.mem_filter.mp h).1
theorem lw_self : GoodIn lw_all lw_all := fun w h => ⟨h, good_of_word (List.mem_filter.mp h).2⟩
/-- a class's field words, by their places -/
theorem lw_in (ws : List Cond) (ps : List Nat) (hp : ws = ps.filterMap (fun i => lw_tbl[i]?)) (hg : ws.all goodWord = true) : ∀ w ∈ ws, w ∈ lw_all := by
  intro w h
  have h1 := List.all_eq_true.mp hg w h
  rw [hp] at h
  obtain ⟨i, -, hi⟩ := List.mem_filterMap.mp h
  exact lw_w i hi h1
/-- the words of a contract for the method y with code b, L locals, answer r -/
abbrev ws_ (y : MethodName) (b : ByteArray) (L : Nat) (r : Option FieldType) : List Cond := Cond.code y b L r :: lw_all
theorem lw_meth {y : MethodName} {b : ByteArray} {L : Nat} {r : Option FieldType} (h : Cond.code y b L r ∈ lw_all) : GoodIn lw_all (ws_ y b L r) := by
  intro w hw
  rcases List.mem_cons.mp hw with e | e
  · rw [e]
    exact lw_self _ h
  · exact lw_self _ e
theorem lw_app {a c : List Cond} (ha : ∀ w ∈ a, w ∈ lw_all) (hc : GoodIn lw_all c) : GoodIn lw_all (a ++ c) := by
  intro w hw
  rcases List.mem_append.mp hw with e | e
  · exact lw_self w (ha w e)
  · exact hc w e
/-- what a call through an object asks: cwV n hts (lw_V ..) -/
theorem lw_V {own : String} {idx : Nat} {C : String} {y : MethodName} {b : ByteArray} {L : Nat} {r : Option FieldType} (h1 : Cond.methodLink own idx y ∈ lw_all) (h2 : Cond.instanceMethod y ∈ lw_all) (h3 : Cond.selects C y y ∈ lw_all) (h4 : Cond.initialized C ∈ lw_all) (h5 : Cond.code y b L r ∈ lw_all) : GoodIn lw_all (wsV own idx C y (ws_ y b L r)) := by
  refine lw_app ?_ (lw_meth h5)
  intro w hw
  simp only [List.mem_cons, List.not_mem_nil, or_false] at hw
  rcases hw with e | e | e | e
  · rw [e]; exact h1
  · rw [e]; exact h2
  · rw [e]; exact h3
  · rw [e]; exact h4
/-- what a static call asks: va_cwS n hts (lw_S ..) -/
theorem lw_S {own : String} {idx : Nat} {y : MethodName} {b : ByteArray} {L : Nat} {r : Option FieldType} (h1 : Cond.methodLink own idx y ∈ lw_all) (h2 : Cond.static y ∈ lw_all) (h3 : Cond.initialized y.cls ∈ lw_all) (h4 : Cond.code y b L r ∈ lw_all) : GoodIn lw_all (va_wsS own idx y (ws_ y b L r)) := by
  refine lw_app ?_ (lw_meth h4)
  intro w hw
  simp only [List.mem_cons, List.not_mem_nil, or_false] at hw
  rcases hw with e | e | e
  · rw [e]; exact h1
  · rw [e]; exact h2
  · rw [e]; exact h3
/-- the words of a contract for a method WITH HANDLERS (hh: its table) -/
abbrev wsW_ (y : MethodName) (b : ByteArray) (L : Nat) (r : Option FieldType) (hh : List (Nat × Nat × Nat × Nat)) : List Cond := Cond.codeWith y b L r hh :: lw_all
theorem lw_methW {y : MethodName} {b : ByteArray} {L : Nat} {r : Option FieldType} {hh : List (Nat × Nat × Nat × Nat)} (h : Cond.codeWith y b L r hh ∈ lw_all) : GoodIn lw_all (wsW_ y b L r hh) := by
  intro w hw
  rcases List.mem_cons.mp hw with e | e
  · rw [e]
    exact lw_self _ h
  · exact lw_self _ e
/-- any list of words by their places (lw_in), good -/
theorem lw_good {ws : List Cond} (h : ∀ w ∈ ws, w ∈ lw_all) : GoodIn lw_all ws := fun w hw => lw_self w (h w hw)
/-- what a call of a method with handlers asks: vx_cwVW n hts (lw_VW ..), vx_cwSW n hts (lw_SW ..) -/
theorem lw_VW {own : String} {idx : Nat} {C : String} {y : MethodName} {b : ByteArray} {L : Nat} {r : Option FieldType} {hh : List (Nat × Nat × Nat × Nat)} (h1 : Cond.methodLink own idx y ∈ lw_all) (h2 : Cond.instanceMethod y ∈ lw_all) (h3 : Cond.selects C y y ∈ lw_all) (h4 : Cond.initialized C ∈ lw_all) (h5 : Cond.codeWith y b L r hh ∈ lw_all) : GoodIn lw_all (wsV own idx C y (wsW_ y b L r hh)) := by
  refine lw_app ?_ (lw_methW h5)
  intro w hw
  simp only [List.mem_cons, List.not_mem_nil, or_false] at hw
  rcases hw with e | e | e | e
  · rw [e]; exact h1
  · rw [e]; exact h2
  · rw [e]; exact h3
  · rw [e]; exact h4
theorem lw_SW {own : String} {idx : Nat} {y : MethodName} {b : ByteArray} {L : Nat} {r : Option FieldType} {hh : List (Nat × Nat × Nat × Nat)} (h1 : Cond.methodLink own idx y ∈ lw_all) (h2 : Cond.static y ∈ lw_all) (h3 : Cond.initialized y.cls ∈ lw_all) (h4 : Cond.codeWith y b L r hh ∈ lw_all) : GoodIn lw_all (va_wsS own idx y (wsW_ y b L r hh)) := by
  refine lw_app ?_ (lw_methW h4)
  intro w hw
  simp only [List.mem_cons, List.not_mem_nil, or_false] at hw
  rcases hw with e | e | e
  · rw [e]; exact h1
  · rw [e]; exact h2
  · rw [e]; exact h3
/-- a word by its place in its run of the tables -/
theorem lw_at {r : List Cond} (hr : ∀ w ∈ r, w ∈ lw_tbl) {w : Cond} (i : Nat) (h : r[i]? = some w) : w ∈ lw_tbl := hr w (List.mem_of_getElem? h)
theorem lw_g {w : Cond} (h : w ∈ lw_tbl) (g : goodWord w = true) : w ∈ lw_all := List.mem_filter.mpr ⟨h, g⟩
theorem lw_ms : ∀ w ∈ k2_sels lw_privs, w ∈ lw_tbl := fun w h => show w ∈ k2_sels lw_privs ++ tables_1 from List.mem_append_left _ h
theorem lw_m1 : ∀ w ∈ tables_1_1, w ∈ lw_tbl := fun w h => show w ∈ k2_sels lw_privs ++ tables_1 from List.mem_append_right (k2_sels lw_privs) (show w ∈ tables_1 from List.mem_append_left _ h)
theorem lw_m2 : ∀ w ∈ tables_1_2, w ∈ lw_tbl := fun w h => show w ∈ k2_sels lw_privs ++ tables_1 from List.mem_append_right (k2_sels lw_privs) (show w ∈ tables_1 from List.mem_append_right _ (List.mem_append_left _ h))
theorem lw_m3 : ∀ w ∈ tables_1_3, w ∈ lw_tbl := fun w h => show w ∈ k2_sels lw_privs ++ tables_1 from List.mem_append_right (k2_sels lw_privs) (show w ∈ tables_1 from List.mem_append_right _ (List.mem_append_right _ h))
theorem qs0 : (Cond.selects "BlockPacker" ⟨"BlockPacker", "word", "(II)V"⟩ ⟨"BlockPacker", "word", "(II)V"⟩) ∈ lw_all := lw_g (lw_at lw_ms 0 rfl) rfl
theorem qs1 : (Cond.selects "java/lang/Throwable" ⟨"java/lang/Throwable", "fillInStackTrace", "(I)Ljava/lang/Throwable;"⟩ ⟨"java/lang/Throwable", "fillInStackTrace", "(I)Ljava/lang/Throwable;"⟩) ∈ lw_all := lw_g (lw_at lw_ms 1 rfl) rfl
end
section
/-! DECODE ROWS BY BYTES: one lemma an opcode; a method's code is cut into short pieces once, and a row reads its own piece alone. -/
set_option maxRecDepth 100000
/-- the code has just these bytes from pc on -/
def DkAt (code : ByteArray) (pc : Nat) (bs : List UInt8) : Prop := ∀ (j : Nat) (b : UInt8), bs[j]? = some b → code.data.toList[pc + j]? = some b
/-- the piece W has the bytes bs from its place j on -/
def dkIn (W : List UInt8) (j : Nat) (bs : List UInt8) : Bool := decide ((W.drop j).take bs.length = bs)
theorem dk_seg {l W T : List UInt8} {o o2 : Nat} (h : l.drop o = W ++ T) (n : Nat) (hn : W.length = n) (ho : o + n = o2) : l.drop o2 = T := by
  subst ho
  rw [← List.drop_drop, h, List.drop_left' hn]
theorem dk_at {code : ByteArray} {W T bs : List UInt8} {o pc : Nat} (h : code.data.toList.drop o = W ++ T) (j : Nat) (hp : o + j = pc) (hw : dkIn W j bs = true) : DkAt code pc bs := by
  subst hp
  intro i b e
  have h1 := of_decide_eq_true hw
  have h2 : i < bs.length := (List.getElem?_eq_some_iff.mp e).1
  have h3 : W[j + i]? = some b := by
    rw [← h1, List.getElem?_take, if_pos h2, List.getElem?_drop] at e
    exact e
  have h4 : j + i < W.length := (List.getElem?_eq_some_iff.mp h3).1
  have h5 : (code.data.toList.drop o)[j + i]? = some b := by
    rw [h, List.getElem?_append_left h4]
    exact h3
  rw [List.getElem?_drop, ← Nat.add_assoc] at h5
  exact h5
theorem dk_u1 {A : ByteArray} {p : Nat} {b : UInt8} (h : A.data.toList[p]? = some b) : (Reader.u1 : Reader DecodeError Nat) A p = .ok (b.toNat, p + 1) := by
  obtain ⟨h1, h2⟩ := List.getElem?_eq_some_iff.mp h
  have h3 : p < A.size := by simpa using h1
  have h4 : A[p]'h3 = b := h2
  have e : (Reader.u1 : Reader DecodeError Nat) A p = (if h : p < A.size then .ok (A[p].toNat, p + 1) else .error (HasTruncated.truncated p)) := by
    show (do if h : p < A.size then do set (p + 1); Pure.pure A[p].toNat else MonadExcept.throw (HasTruncated.truncated p) : Reader DecodeError Nat) A p = _
    by_cases hi : p < A.size
    · rw [dif_pos hi, dif_pos hi]; rfl
    · rw [dif_neg hi, dif_neg hi]; rfl
  rw [e, dif_pos h3, h4]
theorem dk_bind {α β : Type} {r : Reader DecodeError α} {f : α → Reader DecodeError β} {A : ByteArray} {p s : Nat} {a : α} (h : r A p = .ok (a, s)) : (r >>= f) A p = f a A s := by
  show (do let (a, s) ← r A p; f a A s : Except DecodeError (β × Nat)) = _
  rw [h]
  rfl
theorem dk_map {α β : Type} {r : Reader DecodeError α} {g : α → β} {A : ByteArray} {p s : Nat} {a : α} (h : r A p = .ok (a, s)) : (g <$> r) A p = .ok (g a, s) := by
  show (do let (a, s) ← r A p; .ok (g a, s) : Except DecodeError (β × Nat)) = _
  rw [h]
  rfl
theorem dk_u2 {A : ByteArray} {p : Nat} {a b : UInt8} (h : A.data.toList[p]? = some a) (h2 : A.data.toList[p + 1]? = some b) : (Reader.u2 : Reader DecodeError Nat) A p = .ok (a.toNat * 256 + b.toNat, p + 2) := by
  show (Reader.u1 >>= fun hi => Reader.u1 >>= fun lo => Pure.pure (hi * 256 + lo) : Reader DecodeError Nat) A p = _
  rw [dk_bind (dk_u1 h), dk_bind (dk_u1 h2)]
  rfl
theorem dk_of {code : ByteArray} {pc n : Nat} {i : Instr} (h : Decoder.instr pc code pc = .ok (i, pc + n)) : decode code pc = .ok (i, n) := by
  have e : decode code pc = (match Decoder.instr pc code pc with | .error x => .error x | .ok (j, s) => .ok (j, s - pc)) := by
    show (do let (j, s) ← Decoder.instr pc code pc; Pure.pure (j, s - pc) : Except DecodeError (Instr × Nat)) = _
    cases Decoder.instr pc code pc <;> rfl
  rw [e, h]
  show Except.ok (i, pc + n - pc) = _
  rw [Nat.add_sub_cancel_left]
theorem dk_1 {code : ByteArray} {pc : Nat} (h : DkAt code pc [1]) : decode code pc = .ok (.aconst_null, 1) := dk_of ((dk_bind (dk_u1 (h 0 _ rfl))).trans rfl)
theorem dk_2 {code : ByteArray} {pc : Nat} (h : DkAt code pc [2]) : decode code pc = .ok (.iconst (-1), 1) := dk_of ((dk_bind (dk_u1 (h 0 _ rfl))).trans rfl)
theorem dk_3 {code : ByteArray} {pc : Nat} (h : DkAt code pc [3]) : decode code pc = .ok (.iconst 0, 1) := dk_of ((dk_bind (dk_u1 (h 0 _ rfl))).trans rfl)
theorem dk_4 {code : ByteArray} {pc : Nat} (h : DkAt code pc [4]) : decode code pc = .ok (.iconst 1, 1) := dk_of ((dk_bind (dk_u1 (h 0 _ rfl))).trans rfl)
theorem dk_5 {code : ByteArray} {pc : Nat} (h : DkAt code pc [5]) : decode code pc = .ok (.iconst 2, 1) := dk_of ((dk_bind (dk_u1 (h 0 _ rfl))).trans rfl)
theorem dk_6 {code : ByteArray} {pc : Nat} (h : DkAt code pc [6]) : decode code pc = .ok (.iconst 3, 1) := dk_of ((dk_bind (dk_u1 (h 0 _ rfl))).trans rfl)
theorem dk_7 {code : ByteArray} {pc : Nat} (h : DkAt code pc [7]) : decode code pc = .ok (.iconst 4, 1) := dk_of ((dk_bind (dk_u1 (h 0 _ rfl))).trans rfl)
theorem dk_8 {code : ByteArray} {pc : Nat} (h : DkAt code pc [8]) : decode code pc = .ok (.iconst 5, 1) := dk_of ((dk_bind (dk_u1 (h 0 _ rfl))).trans rfl)
theorem dk_10 {code : ByteArray} {pc : Nat} (h : DkAt code pc [10]) : decode code pc = .ok (.lconst 1, 1) := dk_of ((dk_bind (dk_u1 (h 0 _ rfl))).trans rfl)
theorem dk_16 {code : ByteArray} {pc : Nat} (a : UInt8) (h : DkAt code pc [16, a]) : decode code pc = .ok (.bipush (Reader.signed 8 a.toNat), 2) := dk_of ((dk_bind (dk_u1 (h 0 _ rfl))).trans ((dk_bind (dk_map (dk_u1 (h 1 _ rfl)))).trans rfl))
theorem dk_17 {code : ByteArray} {pc : Nat} (a b : UInt8) (h : DkAt code pc [17, a, b]) : decode code pc = .ok (.sipush (Reader.signed 16 (a.toNat * 256 + b.toNat)), 3) := dk_of ((dk_bind (dk_u1 (h 0 _ rfl))).trans ((dk_bind (dk_map (dk_u2 (h 1 _ rfl) (h 2 _ rfl)))).trans rfl))
theorem dk_18 {code : ByteArray} {pc : Nat} (a : UInt8) (h : DkAt code pc [18, a]) : decode code pc = .ok (.ldc a.toNat, 2) := dk_of ((dk_bind (dk_u1 (h 0 _ rfl))).trans ((dk_bind (dk_u1 (h 1 _ rfl))).trans rfl))
theorem dk_19 {code : ByteArray} {pc : Nat} (a b : UInt8) (h : DkAt code pc [19, a, b]) : decode code pc = .ok (.ldc_w (a.toNat * 256 + b.toNat), 3) := dk_of ((dk_bind (dk_u1 (h 0 _ rfl))).trans ((dk_bind (dk_u2 (h 1 _ rfl) (h 2 _ rfl))).trans rfl))
theorem dk_20 {code : ByteArray} {pc : Nat} (a b : UInt8) (h : DkAt code pc [20, a, b]) : decode code pc = .ok (.ldc2_w (a.toNat * 256 + b.toNat), 3) := dk_of ((dk_bind (dk_u1 (h 0 _ rfl))).trans ((dk_bind (dk_u2 (h 1 _ rfl) (h 2 _ rfl))).trans rfl))
theorem dk_21 {code : ByteArray} {pc : Nat} (a : UInt8) (h : DkAt code pc [21, a]) : decode code pc = .ok (.iload a.toNat, 2) := dk_of ((dk_bind (dk_u1 (h 0 _ rfl))).trans ((dk_bind (dk_u1 (h 1 _ rfl))).trans rfl))
theorem dk_25 {code : ByteArray} {pc : Nat} (a : UInt8) (h : DkAt code pc [25, a]) : decode code pc = .ok (.aload a.toNat, 2) := dk_of ((dk_bind (dk_u1 (h 0 _ rfl))).trans ((dk_bind (dk_u1 (h 1 _ rfl))).trans rfl))
theorem dk_26 {code : ByteArray} {pc : Nat} (h : DkAt code pc [26]) : decode code pc = .ok (.iload_n 0, 1) := dk_of ((dk_bind (dk_u1 (h 0 _ rfl))).trans rfl)
theorem dk_27 {code : ByteArray} {pc : Nat} (h : DkAt code pc [27]) : decode code pc = .ok (.iload_n 1, 1) := dk_of ((dk_bind (dk_u1 (h 0 _ rfl))).trans rfl)
theorem dk_28 {code : ByteArray} {pc : Nat} (h : DkAt code pc [28]) : decode code pc = .ok (.iload_n 2, 1) := dk_of ((dk_bind (dk_u1 (h 0 _ rfl))).trans rfl)
theorem dk_29 {code : ByteArray} {pc : Nat} (h : DkAt code pc [29]) : decode code pc = .ok (.iload_n 3, 1) := dk_of ((dk_bind (dk_u1 (h 0 _ rfl))).trans rfl)
theorem dk_32 {code : ByteArray} {pc : Nat} (h : DkAt code pc [32]) : decode code pc = .ok (.lload_n 2, 1) := dk_of ((dk_bind (dk_u1 (h 0 _ rfl))).trans rfl)
theorem dk_42 {code : ByteArray} {pc : Nat} (h : DkAt code pc [42]) : decode code pc = .ok (.aload_n 0, 1) := dk_of ((dk_bind (dk_u1 (h 0 _ rfl))).trans rfl)
theorem dk_43 {code : ByteArray} {pc : Nat} (h : DkAt code pc [43]) : decode code pc = .ok (.aload_n 1, 1) := dk_of ((dk_bind (dk_u1 (h 0 _ rfl))).trans rfl)
theorem dk_44 {code : ByteArray} {pc : Nat} (h : DkAt code pc [44]) : decode code pc = .ok (.aload_n 2, 1) := dk_of ((dk_bind (dk_u1 (h 0 _ rfl))).trans rfl)
theorem dk_45 {code : ByteArray} {pc : Nat} (h : DkAt code pc [45]) : decode code pc = .ok (.aload_n 3, 1) := dk_of ((dk_bind (dk_u1 (h 0 _ rfl))).trans rfl)
theorem dk_46 {code : ByteArray} {pc : Nat} (h : DkAt code pc [46]) : decode code pc = .ok (.iaload, 1) := dk_of ((dk_bind (dk_u1 (h 0 _ rfl))).trans rfl)
theorem dk_51 {code : ByteArray} {pc : Nat} (h : DkAt code pc [51]) : decode code pc = .ok (.baload, 1) := dk_of ((dk_bind (dk_u1 (h 0 _ rfl))).trans rfl)
theorem dk_53 {code : ByteArray} {pc : Nat} (h : DkAt code pc [53]) : decode code pc = .ok (.saload, 1) := dk_of ((dk_bind (dk_u1 (h 0 _ rfl))).trans rfl)
theorem dk_54 {code : ByteArray} {pc : Nat} (a : UInt8) (h : DkAt code pc [54, a]) : decode code pc = .ok (.istore a.toNat, 2) := dk_of ((dk_bind (dk_u1 (h 0 _ rfl))).trans ((dk_bind (dk_u1 (h 1 _ rfl))).trans rfl))
theorem dk_58 {code : ByteArray} {pc : Nat} (a : UInt8) (h : DkAt code pc [58, a]) : decode code pc = .ok (.astore a.toNat, 2) := dk_of ((dk_bind (dk_u1 (h 0 _ rfl))).trans ((dk_bind (dk_u1 (h 1 _ rfl))).trans rfl))
theorem dk_59 {code : ByteArray} {pc : Nat} (h : DkAt code pc [59]) : decode code pc = .ok (.istore_n 0, 1) := dk_of ((dk_bind (dk_u1 (h 0 _ rfl))).trans rfl)
theorem dk_60 {code : ByteArray} {pc : Nat} (h : DkAt code pc [60]) : decode code pc = .ok (.istore_n 1, 1) := dk_of ((dk_bind (dk_u1 (h 0 _ rfl))).trans rfl)
theorem dk_61 {code : ByteArray} {pc : Nat} (h : DkAt code pc [61]) : decode code pc = .ok (.istore_n 2, 1) := dk_of ((dk_bind (dk_u1 (h 0 _ rfl))).trans rfl)
theorem dk_62 {code : ByteArray} {pc : Nat} (h : DkAt code pc [62]) : decode code pc = .ok (.istore_n 3, 1) := dk_of ((dk_bind (dk_u1 (h 0 _ rfl))).trans rfl)
theorem dk_65 {code : ByteArray} {pc : Nat} (h : DkAt code pc [65]) : decode code pc = .ok (.lstore_n 2, 1) := dk_of ((dk_bind (dk_u1 (h 0 _ rfl))).trans rfl)
theorem dk_75 {code : ByteArray} {pc : Nat} (h : DkAt code pc [75]) : decode code pc = .ok (.astore_n 0, 1) := dk_of ((dk_bind (dk_u1 (h 0 _ rfl))).trans rfl)
theorem dk_76 {code : ByteArray} {pc : Nat} (h : DkAt code pc [76]) : decode code pc = .ok (.astore_n 1, 1) := dk_of ((dk_bind (dk_u1 (h 0 _ rfl))).trans rfl)
theorem dk_77 {code : ByteArray} {pc : Nat} (h : DkAt code pc [77]) : decode code pc = .ok (.astore_n 2, 1) := dk_of ((dk_bind (dk_u1 (h 0 _ rfl))).trans rfl)
theorem dk_78 {code : ByteArray} {pc : Nat} (h : DkAt code pc [78]) : decode code pc = .ok (.astore_n 3, 1) := dk_of ((dk_bind (dk_u1 (h 0 _ rfl))).trans rfl)
theorem dk_79 {code : ByteArray} {pc : Nat} (h : DkAt code pc [79]) : decode code pc = .ok (.iastore, 1) := dk_of ((dk_bind (dk_u1 (h 0 _ rfl))).trans rfl)
theorem dk_84 {code : ByteArray} {pc : Nat} (h : DkAt code pc [84]) : decode code pc = .ok (.bastore, 1) := dk_of ((dk_bind (dk_u1 (h 0 _ rfl))).trans rfl)
theorem dk_86 {code : ByteArray} {pc : Nat} (h : DkAt code pc [86]) : decode code pc = .ok (.sastore, 1) := dk_of ((dk_bind (dk_u1 (h 0 _ rfl))).trans rfl)
theorem dk_87 {code : ByteArray} {pc : Nat} (h : DkAt code pc [87]) : decode code pc = .ok (.pop, 1) := dk_of ((dk_bind (dk_u1 (h 0 _ rfl))).trans rfl)
theorem dk_89 {code : ByteArray} {pc : Nat} (h : DkAt code pc [89]) : decode code pc = .ok (.dup, 1) := dk_of ((dk_bind (dk_u1 (h 0 _ rfl))).trans rfl)
theorem dk_96 {code : ByteArray} {pc : Nat} (h : DkAt code pc [96]) : decode code pc = .ok (.iadd, 1) := dk_of ((dk_bind (dk_u1 (h 0 _ rfl))).trans rfl)
theorem dk_97 {code : ByteArray} {pc : Nat} (h : DkAt code pc [97]) : decode code pc = .ok (.ladd, 1) := dk_of ((dk_bind (dk_u1 (h 0 _ rfl))).trans rfl)
theorem dk_100 {code : ByteArray} {pc : Nat} (h : DkAt code pc [100]) : decode code pc = .ok (.isub, 1) := dk_of ((dk_bind (dk_u1 (h 0 _ rfl))).trans rfl)
theorem dk_104 {code : ByteArray} {pc : Nat} (h : DkAt code pc [104]) : decode code pc = .ok (.imul, 1) := dk_of ((dk_bind (dk_u1 (h 0 _ rfl))).trans rfl)
theorem dk_108 {code : ByteArray} {pc : Nat} (h : DkAt code pc [108]) : decode code pc = .ok (.idiv, 1) := dk_of ((dk_bind (dk_u1 (h 0 _ rfl))).trans rfl)
theorem dk_112 {code : ByteArray} {pc : Nat} (h : DkAt code pc [112]) : decode code pc = .ok (.irem, 1) := dk_of ((dk_bind (dk_u1 (h 0 _ rfl))).trans rfl)
theorem dk_116 {code : ByteArray} {pc : Nat} (h : DkAt code pc [116]) : decode code pc = .ok (.ineg, 1) := dk_of ((dk_bind (dk_u1 (h 0 _ rfl))).trans rfl)
theorem dk_120 {code : ByteArray} {pc : Nat} (h : DkAt code pc [120]) : decode code pc = .ok (.ishl, 1) := dk_of ((dk_bind (dk_u1 (h 0 _ rfl))).trans rfl)
theorem dk_122 {code : ByteArray} {pc : Nat} (h : DkAt code pc [122]) : decode code pc = .ok (.ishr, 1) := dk_of ((dk_bind (dk_u1 (h 0 _ rfl))).trans rfl)
theorem dk_124 {code : ByteArray} {pc : Nat} (h : DkAt code pc [124]) : decode code pc = .ok (.iushr, 1) := dk_of ((dk_bind (dk_u1 (h 0 _ rfl))).trans rfl)
theorem dk_126 {code : ByteArray} {pc : Nat} (h : DkAt code pc [126]) : decode code pc = .ok (.iand, 1) := dk_of ((dk_bind (dk_u1 (h 0 _ rfl))).trans rfl)
theorem dk_128 {code : ByteArray} {pc : Nat} (h : DkAt code pc [128]) : decode code pc = .ok (.ior, 1) := dk_of ((dk_bind (dk_u1 (h 0 _ rfl))).trans rfl)
theorem dk_130 {code : ByteArray} {pc : Nat} (h : DkAt code pc [130]) : decode code pc = .ok (.ixor, 1) := dk_of ((dk_bind (dk_u1 (h 0 _ rfl))).trans rfl)
theorem dk_132 {code : ByteArray} {pc : Nat} (a b : UInt8) (h : DkAt code pc [132, a, b]) : decode code pc = .ok (.iinc a.toNat (Reader.signed 8 b.toNat), 3) := dk_of ((dk_bind (dk_u1 (h 0 _ rfl))).trans ((dk_bind (dk_u1 (h 1 _ rfl))).trans ((dk_bind (dk_map (dk_u1 (h 2 _ rfl)))).trans rfl)))
theorem dk_133 {code : ByteArray} {pc : Nat} (h : DkAt code pc [133]) : decode code pc = .ok (.i2l, 1) := dk_of ((dk_bind (dk_u1 (h 0 _ rfl))).trans rfl)
theorem dk_136 {code : ByteArray} {pc : Nat} (h : DkAt code pc [136]) : decode code pc = .ok (.l2i, 1) := dk_of ((dk_bind (dk_u1 (h 0 _ rfl))).trans rfl)
theorem dk_145 {code : ByteArray} {pc : Nat} (h : DkAt code pc [145]) : decode code pc = .ok (.i2b, 1) := dk_of ((dk_bind (dk_u1 (h 0 _ rfl))).trans rfl)
theorem dk_146 {code : ByteArray} {pc : Nat} (h : DkAt code pc [146]) : decode code pc = .ok (.i2c, 1) := dk_of ((dk_bind (dk_u1 (h 0 _ rfl))).trans rfl)
theorem dk_147 {code : ByteArray} {pc : Nat} (h : DkAt code pc [147]) : decode code pc = .ok (.i2s, 1) := dk_of ((dk_bind (dk_u1 (h 0 _ rfl))).trans rfl)
theorem dk_148 {code : ByteArray} {pc : Nat} (h : DkAt code pc [148]) : decode code pc = .ok (.lcmp, 1) := dk_of ((dk_bind (dk_u1 (h 0 _ rfl))).trans rfl)
theorem dk_153 {code : ByteArray} {pc : Nat} (a b : UInt8) (h : DkAt code pc [153, a, b]) : decode code pc = .ok (.ifCond .eq (Reader.signed 16 (a.toNat * 256 + b.toNat)), 3) := dk_of ((dk_bind (dk_u1 (h 0 _ rfl))).trans ((dk_bind (dk_map (dk_u2 (h 1 _ rfl) (h 2 _ rfl)))).trans rfl))
theorem dk_154 {code : ByteArray} {pc : Nat} (a b : UInt8) (h : DkAt code pc [154, a, b]) : decode code pc = .ok (.ifCond .ne (Reader.signed 16 (a.toNat * 256 + b.toNat)), 3) := dk_of ((dk_bind (dk_u1 (h 0 _ rfl))).trans ((dk_bind (dk_map (dk_u2 (h 1 _ rfl) (h 2 _ rfl)))).trans rfl))
theorem dk_155 {code : ByteArray} {pc : Nat} (a b : UInt8) (h : DkAt code pc [155, a, b]) : decode code pc = .ok (.ifCond .lt (Reader.signed 16 (a.toNat * 256 + b.toNat)), 3) := dk_of ((dk_bind (dk_u1 (h 0 _ rfl))).trans ((dk_bind (dk_map (dk_u2 (h 1 _ rfl) (h 2 _ rfl)))).trans rfl))
theorem dk_156 {code : ByteArray} {pc : Nat} (a b : UInt8) (h : DkAt code pc [156, a, b]) : decode code pc = .ok (.ifCond .ge (Reader.signed 16 (a.toNat * 256 + b.toNat)), 3) := dk_of ((dk_bind (dk_u1 (h 0 _ rfl))).trans ((dk_bind (dk_map (dk_u2 (h 1 _ rfl) (h 2 _ rfl)))).trans rfl))
theorem dk_157 {code : ByteArray} {pc : Nat} (a b : UInt8) (h : DkAt code pc [157, a, b]) : decode code pc = .ok (.ifCond .gt (Reader.signed 16 (a.toNat * 256 + b.toNat)), 3) := dk_of ((dk_bind (dk_u1 (h 0 _ rfl))).trans ((dk_bind (dk_map (dk_u2 (h 1 _ rfl) (h 2 _ rfl)))).trans rfl))
theorem dk_158 {code : ByteArray} {pc : Nat} (a b : UInt8) (h : DkAt code pc [158, a, b]) : decode code pc = .ok (.ifCond .le (Reader.signed 16 (a.toNat * 256 + b.toNat)), 3) := dk_of ((dk_bind (dk_u1 (h 0 _ rfl))).trans ((dk_bind (dk_map (dk_u2 (h 1 _ rfl) (h 2 _ rfl)))).trans rfl))
theorem dk_159 {code : ByteArray} {pc : Nat} (a b : UInt8) (h : DkAt code pc [159, a, b]) : decode code pc = .ok (.if_icmp .eq (Reader.signed 16 (a.toNat * 256 + b.toNat)), 3) := dk_of ((dk_bind (dk_u1 (h 0 _ rfl))).trans ((dk_bind (dk_map (dk_u2 (h 1 _ rfl) (h 2 _ rfl)))).trans rfl))
theorem dk_160 {code : ByteArray} {pc : Nat} (a b : UInt8) (h : DkAt code pc [160, a, b]) : decode code pc = .ok (.if_icmp .ne (Reader.signed 16 (a.toNat * 256 + b.toNat)), 3) := dk_of ((dk_bind (dk_u1 (h 0 _ rfl))).trans ((dk_bind (dk_map (dk_u2 (h 1 _ rfl) (h 2 _ rfl)))).trans rfl))
theorem dk_161 {code : ByteArray} {pc : Nat} (a b : UInt8) (h : DkAt code pc [161, a, b]) : decode code pc = .ok (.if_icmp .lt (Reader.signed 16 (a.toNat * 256 + b.toNat)), 3) := dk_of ((dk_bind (dk_u1 (h 0 _ rfl))).trans ((dk_bind (dk_map (dk_u2 (h 1 _ rfl) (h 2 _ rfl)))).trans rfl))
theorem dk_162 {code : ByteArray} {pc : Nat} (a b : UInt8) (h : DkAt code pc [162, a, b]) : decode code pc = .ok (.if_icmp .ge (Reader.signed 16 (a.toNat * 256 + b.toNat)), 3) := dk_of ((dk_bind (dk_u1 (h 0 _ rfl))).trans ((dk_bind (dk_map (dk_u2 (h 1 _ rfl) (h 2 _ rfl)))).trans rfl))
theorem dk_163 {code : ByteArray} {pc : Nat} (a b : UInt8) (h : DkAt code pc [163, a, b]) : decode code pc = .ok (.if_icmp .gt (Reader.signed 16 (a.toNat * 256 + b.toNat)), 3) := dk_of ((dk_bind (dk_u1 (h 0 _ rfl))).trans ((dk_bind (dk_map (dk_u2 (h 1 _ rfl) (h 2 _ rfl)))).trans rfl))
theorem dk_164 {code : ByteArray} {pc : Nat} (a b : UInt8) (h : DkAt code pc [164, a, b]) : decode code pc = .ok (.if_icmp .le (Reader.signed 16 (a.toNat * 256 + b.toNat)), 3) := dk_of ((dk_bind (dk_u1 (h 0 _ rfl))).trans ((dk_bind (dk_map (dk_u2 (h 1 _ rfl) (h 2 _ rfl)))).trans rfl))
theorem dk_167 {code : ByteArray} {pc : Nat} (a b : UInt8) (h : DkAt code pc [167, a, b]) : decode code pc = .ok (.goto (Reader.signed 16 (a.toNat * 256 + b.toNat)), 3) := dk_of ((dk_bind (dk_u1 (h 0 _ rfl))).trans ((dk_bind (dk_map (dk_u2 (h 1 _ rfl) (h 2 _ rfl)))).trans rfl))
theorem dk_172 {code : ByteArray} {pc : Nat} (h : DkAt code pc [172]) : decode code pc = .ok (.ireturn, 1) := dk_of ((dk_bind (dk_u1 (h 0 _ rfl))).trans rfl)
theorem dk_176 {code : ByteArray} {pc : Nat} (h : DkAt code pc [176]) : decode code pc = .ok (.areturn, 1) := dk_of ((dk_bind (dk_u1 (h 0 _ rfl))).trans rfl)
theorem dk_177 {code : ByteArray} {pc : Nat} (h : DkAt code pc [177]) : decode code pc = .ok (.return_, 1) := dk_of ((dk_bind (dk_u1 (h 0 _ rfl))).trans rfl)
theorem dk_178 {code : ByteArray} {pc : Nat} (a b : UInt8) (h : DkAt code pc [178, a, b]) : decode code pc = .ok (.getstatic (a.toNat * 256 + b.toNat), 3) := dk_of ((dk_bind (dk_u1 (h 0 _ rfl))).trans ((dk_bind (dk_u2 (h 1 _ rfl) (h 2 _ rfl))).trans rfl))
theorem dk_180 {code : ByteArray} {pc : Nat} (a b : UInt8) (h : DkAt code pc [180, a, b]) : decode code pc = .ok (.getfield (a.toNat * 256 + b.toNat), 3) := dk_of ((dk_bind (dk_u1 (h 0 _ rfl))).trans ((dk_bind (dk_u2 (h 1 _ rfl) (h 2 _ rfl))).trans rfl))
theorem dk_181 {code : ByteArray} {pc : Nat} (a b : UInt8) (h : DkAt code pc [181, a, b]) : decode code pc = .ok (.putfield (a.toNat * 256 + b.toNat), 3) := dk_of ((dk_bind (dk_u1 (h 0 _ rfl))).trans ((dk_bind (dk_u2 (h 1 _ rfl) (h 2 _ rfl))).trans rfl))
theorem dk_182 {code : ByteArray} {pc : Nat} (a b : UInt8) (h : DkAt code pc [182, a, b]) : decode code pc = .ok (.invokevirtual (a.toNat * 256 + b.toNat), 3) := dk_of ((dk_bind (dk_u1 (h 0 _ rfl))).trans ((dk_bind (dk_u2 (h 1 _ rfl) (h 2 _ rfl))).trans rfl))
theorem dk_183 {code : ByteArray} {pc : Nat} (a b : UInt8) (h : DkAt code pc [183, a, b]) : decode code pc = .ok (.invokespecial (a.toNat * 256 + b.toNat), 3) := dk_of ((dk_bind (dk_u1 (h 0 _ rfl))).trans ((dk_bind (dk_u2 (h 1 _ rfl) (h 2 _ rfl))).trans rfl))
theorem dk_184 {code : ByteArray} {pc : Nat} (a b : UInt8) (h : DkAt code pc [184, a, b]) : decode code pc = .ok (.invokestatic (a.toNat * 256 + b.toNat), 3) := dk_of ((dk_bind (dk_u1 (h 0 _ rfl))).trans ((dk_bind (dk_u2 (h 1 _ rfl) (h 2 _ rfl))).trans rfl))
theorem dk_187 {code : ByteArray} {pc : Nat} (a b : UInt8) (h : DkAt code pc [187, a, b]) : decode code pc = .ok (.new (a.toNat * 256 + b.toNat), 3) := dk_of ((dk_bind (dk_u1 (h 0 _ rfl))).trans ((dk_bind (dk_u2 (h 1 _ rfl) (h 2 _ rfl))).trans rfl))
theorem dk_188_8 {code : ByteArray} {pc : Nat} (h : DkAt code pc [188, 8]) : decode code pc = .ok (.newarray .byte, 2) := dk_of ((dk_bind (dk_u1 (h 0 _ rfl))).trans ((dk_bind (dk_u1 (h 1 _ rfl))).trans rfl))
theorem dk_188_9 {code : ByteArray} {pc : Nat} (h : DkAt code pc [188, 9]) : decode code pc = .ok (.newarray .short, 2) := dk_of ((dk_bind (dk_u1 (h 0 _ rfl))).trans ((dk_bind (dk_u1 (h 1 _ rfl))).trans rfl))
theorem dk_188_10 {code : ByteArray} {pc : Nat} (h : DkAt code pc [188, 10]) : decode code pc = .ok (.newarray .int, 2) := dk_of ((dk_bind (dk_u1 (h 0 _ rfl))).trans ((dk_bind (dk_u1 (h 1 _ rfl))).trans rfl))
theorem dk_190 {code : ByteArray} {pc : Nat} (h : DkAt code pc [190]) : decode code pc = .ok (.arraylength, 1) := dk_of ((dk_bind (dk_u1 (h 0 _ rfl))).trans rfl)
theorem dk_191 {code : ByteArray} {pc : Nat} (h : DkAt code pc [191]) : decode code pc = .ok (.athrow, 1) := dk_of ((dk_bind (dk_u1 (h 0 _ rfl))).trans rfl)
theorem dk_192 {code : ByteArray} {pc : Nat} (a b : UInt8) (h : DkAt code pc [192, a, b]) : decode code pc = .ok (.checkcast (a.toNat * 256 + b.toNat), 3) := dk_of ((dk_bind (dk_u1 (h 0 _ rfl))).trans ((dk_bind (dk_u2 (h 1 _ rfl) (h 2 _ rfl))).trans rfl))
theorem dk_199 {code : ByteArray} {pc : Nat} (a b : UInt8) (h : DkAt code pc [199, a, b]) : decode code pc = .ok (.ifnonnull (Reader.signed 16 (a.toNat * 256 + b.toNat)), 3) := dk_of ((dk_bind (dk_u1 (h 0 _ rfl))).trans ((dk_bind (dk_map (dk_u2 (h 1 _ rfl) (h 2 _ rfl)))).trans rfl))
/-! SafeUtils -/
set_option maxRecDepth 100000
def RX6 : String := "SafeUtils"
abbrev cX6_checkRange : ByteArray := prog_11_method_4_code
def yX6_checkRange : MethodName := ⟨RX6, "checkRange", "([BII)V"⟩
def dkwX6_checkRange_1 : List UInt8 := [183, 0, 30, 191, 177]
abbrev dktX6_checkRange_1 : List UInt8 := dkwX6_checkRange_1 ++ []
def dkwX6_checkRange_0 : List UInt8 := [28, 184, 0, 22, 27, 155, 0, 11, 27, 42, 190, 28, 100, 164, 0, 13, 187, 0, 26, 89, 18, 28]
abbrev dktX6_checkRange_0 : List UInt8 := dkwX6_checkRange_0 ++ dktX6_checkRange_1
theorem dksX6_checkRange_0 : cX6_checkRange.data.toList.drop 0 = dktX6_checkRange_0 := by decide +kernel
theorem dksX6_checkRange_1 : cX6_checkRange.data.toList.drop 22 = dktX6_checkRange_1 := dk_seg dksX6_checkRange_0 22 rfl rfl
theorem dX6_checkRange_0 : decode cX6_checkRange 0 = .ok (.iload_n 2, 1) := dk_28 (dk_at dksX6_checkRange_0 0 rfl rfl)
theorem dX6_checkRange_1 : decode cX6_checkRange 1 = .ok (.invokestatic 22, 3) := dk_184 0 22 (dk_at dksX6_checkRange_0 1 rfl rfl)
theorem dX6_checkRange_4 : decode cX6_checkRange 4 = .ok (.iload_n 1, 1) := dk_27 (dk_at dksX6_checkRange_0 4 rfl rfl)
theorem dX6_checkRange_5 : decode cX6_checkRange 5 = .ok (.ifCond .lt 11, 3) := dk_155 0 11 (dk_at dksX6_checkRange_0 5 rfl rfl)
theorem dX6_checkRange_8 : decode cX6_checkRange 8 = .ok (.iload_n 1, 1) := dk_27 (dk_at dksX6_checkRange_0 8 rfl rfl)
theorem dX6_checkRange_9 : decode cX6_checkRange 9 = .ok (.aload_n 0, 1) := dk_42 (dk_at dksX6_checkRange_0 9 rfl rfl)
theorem dX6_checkRange_10 : decode cX6_checkRange 10 = .ok (.arraylength, 1) := dk_190 (dk_at dksX6_checkRange_0 10 rfl rfl)
theorem dX6_checkRange_11 : decode cX6_checkRange 11 = .ok (.iload_n 2, 1) := dk_28 (dk_at dksX6_checkRange_0 11 rfl rfl)
theorem dX6_checkRange_12 : decode cX6_checkRange 12 = .ok (.isub, 1) := dk_100 (dk_at dksX6_checkRange_0 12 rfl rfl)
theorem dX6_checkRange_13 : decode cX6_checkRange 13 = .ok (.if_icmp .le 13, 3) := dk_164 0 13 (dk_at dksX6_checkRange_0 13 rfl rfl)
theorem dX6_checkRange_16 : decode cX6_checkRange 16 = .ok (.new 26, 3) := dk_187 0 26 (dk_at dksX6_checkRange_0 16 rfl rfl)
theorem dX6_checkRange_19 : decode cX6_checkRange 19 = .ok (.dup, 1) := dk_89 (dk_at dksX6_checkRange_0 19 rfl rfl)
theorem dX6_checkRange_20 : decode cX6_checkRange 20 = .ok (.ldc 28, 2) := dk_18 28 (dk_at dksX6_checkRange_0 20 rfl rfl)
theorem dX6_checkRange_22 : decode cX6_checkRange 22 = .ok (.invokespecial 30, 3) := dk_183 0 30 (dk_at dksX6_checkRange_1 0 rfl rfl)
theorem dX6_checkRange_25 : decode cX6_checkRange 25 = .ok (.athrow, 1) := dk_191 (dk_at dksX6_checkRange_1 3 rfl rfl)
theorem dX6_checkRange_26 : decode cX6_checkRange 26 = .ok (.return_, 1) := dk_177 (dk_at dksX6_checkRange_1 4 rfl rfl)
abbrev cX6_checkLength : ByteArray := prog_11_method_5_code
def yX6_checkLength : MethodName := ⟨RX6, "checkLength", "(I)V"⟩
def dkwX6_checkLength_0 : List UInt8 := [26, 156, 0, 13, 187, 0, 33, 89, 18, 35, 183, 0, 37, 191, 177]
abbrev dktX6_checkLength_0 : List UInt8 := dkwX6_checkLength_0 ++ []
theorem dksX6_checkLength_0 : cX6_checkLength.data.toList.drop 0 = dktX6_checkLength_0 := by decide +kernel
theorem dX6_checkLength_0 : decode cX6_checkLength 0 = .ok (.iload_n 0, 1) := dk_26 (dk_at dksX6_checkLength_0 0 rfl rfl)
theorem dX6_checkLength_1 : decode cX6_checkLength 1 = .ok (.ifCond .ge 13, 3) := dk_156 0 13 (dk_at dksX6_checkLength_0 1 rfl rfl)
theorem dX6_checkLength_4 : decode cX6_checkLength 4 = .ok (.new 33, 3) := dk_187 0 33 (dk_at dksX6_checkLength_0 4 rfl rfl)
theorem dX6_checkLength_7 : decode cX6_checkLength 7 = .ok (.dup, 1) := dk_89 (dk_at dksX6_checkLength_0 7 rfl rfl)
theorem dX6_checkLength_8 : decode cX6_checkLength 8 = .ok (.ldc 35, 2) := dk_18 35 (dk_at dksX6_checkLength_0 8 rfl rfl)
theorem dX6_checkLength_10 : decode cX6_checkLength 10 = .ok (.invokespecial 37, 3) := dk_183 0 37 (dk_at dksX6_checkLength_0 10 rfl rfl)
theorem dX6_checkLength_13 : decode cX6_checkLength 13 = .ok (.athrow, 1) := dk_191 (dk_at dksX6_checkLength_0 13 rfl rfl)
theorem dX6_checkLength_14 : decode cX6_checkLength 14 = .ok (.return_, 1) := dk_177 (dk_at dksX6_checkLength_0 14 rfl rfl)
abbrev cX6_readInt : ByteArray := prog_11_method_8_code
def yX6_readInt : MethodName := ⟨RX6, "readInt", "([BI)I"⟩
def dkwX6_readInt_0 : List UInt8 := [42, 27, 184, 0, 38, 172]
abbrev dktX6_readInt_0 : List UInt8 := dkwX6_readInt_0 ++ []
theorem dksX6_readInt_0 : cX6_readInt.data.toList.drop 0 = dktX6_readInt_0 := by decide +kernel
theorem dX6_readInt_0 : decode cX6_readInt 0 = .ok (.aload_n 0, 1) := dk_42 (dk_at dksX6_readInt_0 0 rfl rfl)
theorem dX6_readInt_1 : decode cX6_readInt 1 = .ok (.iload_n 1, 1) := dk_27 (dk_at dksX6_readInt_0 1 rfl rfl)
theorem dX6_readInt_2 : decode cX6_readInt 2 = .ok (.invokestatic 38, 3) := dk_184 0 38 (dk_at dksX6_readInt_0 2 rfl rfl)
theorem dX6_readInt_5 : decode cX6_readInt 5 = .ok (.ireturn, 1) := dk_172 (dk_at dksX6_readInt_0 5 rfl rfl)
abbrev cX6_readIntLE : ByteArray := prog_11_method_7_code
def yX6_readIntLE : MethodName := ⟨RX6, "readIntLE", "([BI)I"⟩
def dkwX6_readIntLE_1 : List UInt8 := [51, 17, 0, 255, 126, 16, 16, 120, 128, 42, 27, 6, 96, 51, 17, 0, 255, 126, 16, 24, 120, 128, 172]
abbrev dktX6_readIntLE_1 : List UInt8 := dkwX6_readIntLE_1 ++ []
def dkwX6_readIntLE_0 : List UInt8 := [42, 27, 51, 17, 0, 255, 126, 42, 27, 4, 96, 51, 17, 0, 255, 126, 16, 8, 120, 128, 42, 27, 5, 96]
abbrev dktX6_readIntLE_0 : List UInt8 := dkwX6_readIntLE_0 ++ dktX6_readIntLE_1
theorem dksX6_readIntLE_0 : cX6_readIntLE.data.toList.drop 0 = dktX6_readIntLE_0 := by decide +kernel
theorem dksX6_readIntLE_1 : cX6_readIntLE.data.toList.drop 24 = dktX6_readIntLE_1 := dk_seg dksX6_readIntLE_0 24 rfl rfl
theorem dX6_readIntLE_0 : decode cX6_readIntLE 0 = .ok (.aload_n 0, 1) := dk_42 (dk_at dksX6_readIntLE_0 0 rfl rfl)
theorem dX6_readIntLE_1 : decode cX6_readIntLE 1 = .ok (.iload_n 1, 1) := dk_27 (dk_at dksX6_readIntLE_0 1 rfl rfl)
theorem dX6_readIntLE_2 : decode cX6_readIntLE 2 = .ok (.baload, 1) := dk_51 (dk_at dksX6_readIntLE_0 2 rfl rfl)
theorem dX6_readIntLE_3 : decode cX6_readIntLE 3 = .ok (.sipush 255, 3) := dk_17 0 255 (dk_at dksX6_readIntLE_0 3 rfl rfl)
theorem dX6_readIntLE_6 : decode cX6_readIntLE 6 = .ok (.iand, 1) := dk_126 (dk_at dksX6_readIntLE_0 6 rfl rfl)
theorem dX6_readIntLE_7 : decode cX6_readIntLE 7 = .ok (.aload_n 0, 1) := dk_42 (dk_at dksX6_readIntLE_0 7 rfl rfl)
theorem dX6_readIntLE_8 : decode cX6_readIntLE 8 = .ok (.iload_n 1, 1) := dk_27 (dk_at dksX6_readIntLE_0 8 rfl rfl)
theorem dX6_readIntLE_9 : decode cX6_readIntLE 9 = .ok (.iconst 1, 1) := dk_4 (dk_at dksX6_readIntLE_0 9 rfl rfl)
theorem dX6_readIntLE_10 : decode cX6_readIntLE 10 = .ok (.iadd, 1) := dk_96 (dk_at dksX6_readIntLE_0 10 rfl rfl)
theorem dX6_readIntLE_11 : decode cX6_readIntLE 11 = .ok (.baload, 1) := dk_51 (dk_at dksX6_readIntLE_0 11 rfl rfl)
theorem dX6_readIntLE_12 : decode cX6_readIntLE 12 = .ok (.sipush 255, 3) := dk_17 0 255 (dk_at dksX6_readIntLE_0 12 rfl rfl)
theorem dX6_readIntLE_15 : decode cX6_readIntLE 15 = .ok (.iand, 1) := dk_126 (dk_at dksX6_readIntLE_0 15 rfl rfl)
theorem dX6_readIntLE_16 : decode cX6_readIntLE 16 = .ok (.bipush 8, 2) := dk_16 8 (dk_at dksX6_readIntLE_0 16 rfl rfl)
theorem dX6_readIntLE_18 : decode cX6_readIntLE 18 = .ok (.ishl, 1) := dk_120 (dk_at dksX6_readIntLE_0 18 rfl rfl)
theorem dX6_readIntLE_19 : decode cX6_readIntLE 19 = .ok (.ior, 1) := dk_128 (dk_at dksX6_readIntLE_0 19 rfl rfl)
theorem dX6_readIntLE_20 : decode cX6_readIntLE 20 = .ok (.aload_n 0, 1) := dk_42 (dk_at dksX6_readIntLE_0 20 rfl rfl)
theorem dX6_readIntLE_21 : decode cX6_readIntLE 21 = .ok (.iload_n 1, 1) := dk_27 (dk_at dksX6_readIntLE_0 21 rfl rfl)
theorem dX6_readIntLE_22 : decode cX6_readIntLE 22 = .ok (.iconst 2, 1) := dk_5 (dk_at dksX6_readIntLE_0 22 rfl rfl)
theorem dX6_readIntLE_23 : decode cX6_readIntLE 23 = .ok (.iadd, 1) := dk_96 (dk_at dksX6_readIntLE_0 23 rfl rfl)
theorem dX6_readIntLE_24 : decode cX6_readIntLE 24 = .ok (.baload, 1) := dk_51 (dk_at dksX6_readIntLE_1 0 rfl rfl)
theorem dX6_readIntLE_25 : decode cX6_readIntLE 25 = .ok (.sipush 255, 3) := dk_17 0 255 (dk_at dksX6_readIntLE_1 1 rfl rfl)
theorem dX6_readIntLE_28 : decode cX6_readIntLE 28 = .ok (.iand, 1) := dk_126 (dk_at dksX6_readIntLE_1 4 rfl rfl)
theorem dX6_readIntLE_29 : decode cX6_readIntLE 29 = .ok (.bipush 16, 2) := dk_16 16 (dk_at dksX6_readIntLE_1 5 rfl rfl)
theorem dX6_readIntLE_31 : decode cX6_readIntLE 31 = .ok (.ishl, 1) := dk_120 (dk_at dksX6_readIntLE_1 7 rfl rfl)
theorem dX6_readIntLE_32 : decode cX6_readIntLE 32 = .ok (.ior, 1) := dk_128 (dk_at dksX6_readIntLE_1 8 rfl rfl)
theorem dX6_readIntLE_33 : decode cX6_readIntLE 33 = .ok (.aload_n 0, 1) := dk_42 (dk_at dksX6_readIntLE_1 9 rfl rfl)
theorem dX6_readIntLE_34 : decode cX6_readIntLE 34 = .ok (.iload_n 1, 1) := dk_27 (dk_at dksX6_readIntLE_1 10 rfl rfl)
theorem dX6_readIntLE_35 : decode cX6_readIntLE 35 = .ok (.iconst 3, 1) := dk_6 (dk_at dksX6_readIntLE_1 11 rfl rfl)
theorem dX6_readIntLE_36 : decode cX6_readIntLE 36 = .ok (.iadd, 1) := dk_96 (dk_at dksX6_readIntLE_1 12 rfl rfl)
theorem dX6_readIntLE_37 : decode cX6_readIntLE 37 = .ok (.baload, 1) := dk_51 (dk_at dksX6_readIntLE_1 13 rfl rfl)
theorem dX6_readIntLE_38 : decode cX6_readIntLE 38 = .ok (.sipush 255, 3) := dk_17 0 255 (dk_at dksX6_readIntLE_1 14 rfl rfl)
theorem dX6_readIntLE_41 : decode cX6_readIntLE 41 = .ok (.iand, 1) := dk_126 (dk_at dksX6_readIntLE_1 17 rfl rfl)
theorem dX6_readIntLE_42 : decode cX6_readIntLE 42 = .ok (.bipush 24, 2) := dk_16 24 (dk_at dksX6_readIntLE_1 18 rfl rfl)
theorem dX6_readIntLE_44 : decode cX6_readIntLE 44 = .ok (.ishl, 1) := dk_120 (dk_at dksX6_readIntLE_1 20 rfl rfl)
theorem dX6_readIntLE_45 : decode cX6_readIntLE 45 = .ok (.ior, 1) := dk_128 (dk_at dksX6_readIntLE_1 21 rfl rfl)
theorem dX6_readIntLE_46 : decode cX6_readIntLE 46 = .ok (.ireturn, 1) := dk_172 (dk_at dksX6_readIntLE_1 22 rfl rfl)
abbrev cX6_readShort : ByteArray := prog_11_method_15_code
def yX6_readShort : MethodName := ⟨RX6, "readShort", "([SI)I"⟩
def dkwX6_readShort_0 : List UInt8 := [42, 27, 53, 18, 42, 126, 172]
abbrev dktX6_readShort_0 : List UInt8 := dkwX6_readShort_0 ++ []
theorem dksX6_readShort_0 : cX6_readShort.data.toList.drop 0 = dktX6_readShort_0 := by decide +kernel
theorem dX6_readShort_0 : decode cX6_readShort 0 = .ok (.aload_n 0, 1) := dk_42 (dk_at dksX6_readShort_0 0 rfl rfl)
theorem dX6_readShort_1 : decode cX6_readShort 1 = .ok (.iload_n 1, 1) := dk_27 (dk_at dksX6_readShort_0 1 rfl rfl)
theorem dX6_readShort_2 : decode cX6_readShort 2 = .ok (.saload, 1) := dk_53 (dk_at dksX6_readShort_0 2 rfl rfl)
theorem dX6_readShort_3 : decode cX6_readShort 3 = .ok (.ldc 42, 2) := dk_18 42 (dk_at dksX6_readShort_0 3 rfl rfl)
theorem dX6_readShort_5 : decode cX6_readShort 5 = .ok (.iand, 1) := dk_126 (dk_at dksX6_readShort_0 5 rfl rfl)
theorem dX6_readShort_6 : decode cX6_readShort 6 = .ok (.ireturn, 1) := dk_172 (dk_at dksX6_readShort_0 6 rfl rfl)
abbrev cX6_writeShort : ByteArray := prog_11_method_13_code
def yX6_writeShort : MethodName := ⟨RX6, "writeShort", "([SII)V"⟩
def dkwX6_writeShort_0 : List UInt8 := [42, 27, 28, 147, 86, 177]
abbrev dktX6_writeShort_0 : List UInt8 := dkwX6_writeShort_0 ++ []
theorem dksX6_writeShort_0 : cX6_writeShort.data.toList.drop 0 = dktX6_writeShort_0 := by decide +kernel
theorem dX6_writeShort_0 : decode cX6_writeShort 0 = .ok (.aload_n 0, 1) := dk_42 (dk_at dksX6_writeShort_0 0 rfl rfl)
theorem dX6_writeShort_1 : decode cX6_writeShort 1 = .ok (.iload_n 1, 1) := dk_27 (dk_at dksX6_writeShort_0 1 rfl rfl)
theorem dX6_writeShort_2 : decode cX6_writeShort 2 = .ok (.iload_n 2, 1) := dk_28 (dk_at dksX6_writeShort_0 2 rfl rfl)
theorem dX6_writeShort_3 : decode cX6_writeShort 3 = .ok (.i2s, 1) := dk_147 (dk_at dksX6_writeShort_0 3 rfl rfl)
theorem dX6_writeShort_4 : decode cX6_writeShort 4 = .ok (.sastore, 1) := dk_86 (dk_at dksX6_writeShort_0 4 rfl rfl)
theorem dX6_writeShort_5 : decode cX6_writeShort 5 = .ok (.return_, 1) := dk_177 (dk_at dksX6_writeShort_0 5 rfl rfl)
abbrev cX6_writeByte : ByteArray := prog_11_method_12_code
def yX6_writeByte : MethodName := ⟨RX6, "writeByte", "([BII)V"⟩
def dkwX6_writeByte_0 : List UInt8 := [42, 27, 28, 145, 84, 177]
abbrev dktX6_writeByte_0 : List UInt8 := dkwX6_writeByte_0 ++ []
theorem dksX6_writeByte_0 : cX6_writeByte.data.toList.drop 0 = dktX6_writeByte_0 := by decide +kernel
theorem dX6_writeByte_0 : decode cX6_writeByte 0 = .ok (.aload_n 0, 1) := dk_42 (dk_at dksX6_writeByte_0 0 rfl rfl)
theorem dX6_writeByte_1 : decode cX6_writeByte 1 = .ok (.iload_n 1, 1) := dk_27 (dk_at dksX6_writeByte_0 1 rfl rfl)
theorem dX6_writeByte_2 : decode cX6_writeByte 2 = .ok (.iload_n 2, 1) := dk_28 (dk_at dksX6_writeByte_0 2 rfl rfl)
theorem dX6_writeByte_3 : decode cX6_writeByte 3 = .ok (.i2b, 1) := dk_145 (dk_at dksX6_writeByte_0 3 rfl rfl)
theorem dX6_writeByte_4 : decode cX6_writeByte 4 = .ok (.bastore, 1) := dk_84 (dk_at dksX6_writeByte_0 4 rfl rfl)
theorem dX6_writeByte_5 : decode cX6_writeByte 5 = .ok (.return_, 1) := dk_177 (dk_at dksX6_writeByte_0 5 rfl rfl)
abbrev cX6_writeShortLE : ByteArray := prog_11_method_9_code
def yX6_writeShortLE : MethodName := ⟨RX6, "writeShortLE", "([BII)V"⟩
def dkwX6_writeShortLE_0 : List UInt8 := [42, 27, 132, 1, 1, 28, 145, 84, 42, 27, 132, 1, 1, 28, 16, 8, 124, 145, 84, 177]
abbrev dktX6_writeShortLE_0 : List UInt8 := dkwX6_writeShortLE_0 ++ []
theorem dksX6_writeShortLE_0 : cX6_writeShortLE.data.toList.drop 0 = dktX6_writeShortLE_0 := by decide +kernel
theorem dX6_writeShortLE_0 : decode cX6_writeShortLE 0 = .ok (.aload_n 0, 1) := dk_42 (dk_at dksX6_writeShortLE_0 0 rfl rfl)
theorem dX6_writeShortLE_1 : decode cX6_writeShortLE 1 = .ok (.iload_n 1, 1) := dk_27 (dk_at dksX6_writeShortLE_0 1 rfl rfl)
theorem dX6_writeShortLE_2 : decode cX6_writeShortLE 2 = .ok (.iinc 1 1, 3) := dk_132 1 1 (dk_at dksX6_writeShortLE_0 2 rfl rfl)
theorem dX6_writeShortLE_5 : decode cX6_writeShortLE 5 = .ok (.iload_n 2, 1) := dk_28 (dk_at dksX6_writeShortLE_0 5 rfl rfl)
theorem dX6_writeShortLE_6 : decode cX6_writeShortLE 6 = .ok (.i2b, 1) := dk_145 (dk_at dksX6_writeShortLE_0 6 rfl rfl)
theorem dX6_writeShortLE_7 : decode cX6_writeShortLE 7 = .ok (.bastore, 1) := dk_84 (dk_at dksX6_writeShortLE_0 7 rfl rfl)
theorem dX6_writeShortLE_8 : decode cX6_writeShortLE 8 = .ok (.aload_n 0, 1) := dk_42 (dk_at dksX6_writeShortLE_0 8 rfl rfl)
theorem dX6_writeShortLE_9 : decode cX6_writeShortLE 9 = .ok (.iload_n 1, 1) := dk_27 (dk_at dksX6_writeShortLE_0 9 rfl rfl)
theorem dX6_writeShortLE_10 : decode cX6_writeShortLE 10 = .ok (.iinc 1 1, 3) := dk_132 1 1 (dk_at dksX6_writeShortLE_0 10 rfl rfl)
theorem dX6_writeShortLE_13 : decode cX6_writeShortLE 13 = .ok (.iload_n 2, 1) := dk_28 (dk_at dksX6_writeShortLE_0 13 rfl rfl)
theorem dX6_writeShortLE_14 : decode cX6_writeShortLE 14 = .ok (.bipush 8, 2) := dk_16 8 (dk_at dksX6_writeShortLE_0 14 rfl rfl)
theorem dX6_writeShortLE_16 : decode cX6_writeShortLE 16 = .ok (.iushr, 1) := dk_124 (dk_at dksX6_writeShortLE_0 16 rfl rfl)
theorem dX6_writeShortLE_17 : decode cX6_writeShortLE 17 = .ok (.i2b, 1) := dk_145 (dk_at dksX6_writeShortLE_0 17 rfl rfl)
theorem dX6_writeShortLE_18 : decode cX6_writeShortLE 18 = .ok (.bastore, 1) := dk_84 (dk_at dksX6_writeShortLE_0 18 rfl rfl)
theorem dX6_writeShortLE_19 : decode cX6_writeShortLE 19 = .ok (.return_, 1) := dk_177 (dk_at dksX6_writeShortLE_0 19 rfl rfl)
abbrev cX6_readByte : ByteArray := prog_11_method_6_code
def yX6_readByte : MethodName := ⟨RX6, "readByte", "([BI)B"⟩
def dkwX6_readByte_0 : List UInt8 := [42, 27, 51, 172]
abbrev dktX6_readByte_0 : List UInt8 := dkwX6_readByte_0 ++ []
theorem dksX6_readByte_0 : cX6_readByte.data.toList.drop 0 = dktX6_readByte_0 := by decide +kernel
theorem dX6_readByte_0 : decode cX6_readByte 0 = .ok (.aload_n 0, 1) := dk_42 (dk_at dksX6_readByte_0 0 rfl rfl)
theorem dX6_readByte_1 : decode cX6_readByte 1 = .ok (.iload_n 1, 1) := dk_27 (dk_at dksX6_readByte_0 1 rfl rfl)
theorem dX6_readByte_2 : decode cX6_readByte 2 = .ok (.baload, 1) := dk_51 (dk_at dksX6_readByte_0 2 rfl rfl)
theorem dX6_readByte_3 : decode cX6_readByte 3 = .ok (.ireturn, 1) := dk_172 (dk_at dksX6_readByte_0 3 rfl rfl)
abbrev cX6_readShortLE : ByteArray := prog_11_method_14_code
def yX6_readShortLE : MethodName := ⟨RX6, "readShortLE", "([BI)I"⟩
def dkwX6_readShortLE_0 : List UInt8 := [42, 27, 51, 17, 0, 255, 126, 42, 27, 4, 96, 51, 17, 0, 255, 126, 16, 8, 120, 128, 172]
abbrev dktX6_readShortLE_0 : List UInt8 := dkwX6_readShortLE_0 ++ []
theorem dksX6_readShortLE_0 : cX6_readShortLE.data.toList.drop 0 = dktX6_readShortLE_0 := by decide +kernel
theorem dX6_readShortLE_0 : decode cX6_readShortLE 0 = .ok (.aload_n 0, 1) := dk_42 (dk_at dksX6_readShortLE_0 0 rfl rfl)
theorem dX6_readShortLE_1 : decode cX6_readShortLE 1 = .ok (.iload_n 1, 1) := dk_27 (dk_at dksX6_readShortLE_0 1 rfl rfl)
theorem dX6_readShortLE_2 : decode cX6_readShortLE 2 = .ok (.baload, 1) := dk_51 (dk_at dksX6_readShortLE_0 2 rfl rfl)
theorem dX6_readShortLE_3 : decode cX6_readShortLE 3 = .ok (.sipush 255, 3) := dk_17 0 255 (dk_at dksX6_readShortLE_0 3 rfl rfl)
theorem dX6_readShortLE_6 : decode cX6_readShortLE 6 = .ok (.iand, 1) := dk_126 (dk_at dksX6_readShortLE_0 6 rfl rfl)
theorem dX6_readShortLE_7 : decode cX6_readShortLE 7 = .ok (.aload_n 0, 1) := dk_42 (dk_at dksX6_readShortLE_0 7 rfl rfl)
theorem dX6_readShortLE_8 : decode cX6_readShortLE 8 = .ok (.iload_n 1, 1) := dk_27 (dk_at dksX6_readShortLE_0 8 rfl rfl)
theorem dX6_readShortLE_9 : decode cX6_readShortLE 9 = .ok (.iconst 1, 1) := dk_4 (dk_at dksX6_readShortLE_0 9 rfl rfl)
theorem dX6_readShortLE_10 : decode cX6_readShortLE 10 = .ok (.iadd, 1) := dk_96 (dk_at dksX6_readShortLE_0 10 rfl rfl)
theorem dX6_readShortLE_11 : decode cX6_readShortLE 11 = .ok (.baload, 1) := dk_51 (dk_at dksX6_readShortLE_0 11 rfl rfl)
theorem dX6_readShortLE_12 : decode cX6_readShortLE 12 = .ok (.sipush 255, 3) := dk_17 0 255 (dk_at dksX6_readShortLE_0 12 rfl rfl)
theorem dX6_readShortLE_15 : decode cX6_readShortLE 15 = .ok (.iand, 1) := dk_126 (dk_at dksX6_readShortLE_0 15 rfl rfl)
theorem dX6_readShortLE_16 : decode cX6_readShortLE 16 = .ok (.bipush 8, 2) := dk_16 8 (dk_at dksX6_readShortLE_0 16 rfl rfl)
theorem dX6_readShortLE_18 : decode cX6_readShortLE 18 = .ok (.ishl, 1) := dk_120 (dk_at dksX6_readShortLE_0 18 rfl rfl)
theorem dX6_readShortLE_19 : decode cX6_readShortLE 19 = .ok (.ior, 1) := dk_128 (dk_at dksX6_readShortLE_0 19 rfl rfl)
theorem dX6_readShortLE_20 : decode cX6_readShortLE 20 = .ok (.ireturn, 1) := dk_172 (dk_at dksX6_readShortLE_0 20 rfl rfl)
theorem q9 : (Jvm.Cond.initialized "SafeUtils") ∈ lw_all := lw_g (lw_at lw_m1 7 rfl) rfl
theorem q135 : (Jvm.Cond.static ({ cls := "SafeUtils", name := "checkRange", desc := "([BII)V" } : Jvm.MethodName)) ∈ lw_all := lw_g (lw_at lw_m1 133 rfl) rfl
theorem q136 : (Jvm.Cond.code ({ cls := "SafeUtils", name := "checkRange", desc := "([BII)V" } : Jvm.MethodName) prog_11_method_4_code (3 : Nat) (Option.none : Option Jvm.ClassFile.FieldType)) ∈ lw_all := lw_g (lw_at lw_m1 134 rfl) rfl
theorem q137 : (Jvm.Cond.methodLink "SafeUtils" (22 : Nat) ({ cls := "SafeUtils", name := "checkLength", desc := "(I)V" } : Jvm.MethodName)) ∈ lw_all := lw_g (lw_at lw_m1 135 rfl) rfl
theorem q138 : (Jvm.Cond.static ({ cls := "SafeUtils", name := "checkLength", desc := "(I)V" } : Jvm.MethodName)) ∈ lw_all := lw_g (lw_at lw_m1 136 rfl) rfl
theorem q139 : (Jvm.Cond.code ({ cls := "SafeUtils", name := "checkLength", desc := "(I)V" } : Jvm.MethodName) prog_11_method_5_code (1 : Nat) (Option.none : Option Jvm.ClassFile.FieldType)) ∈ lw_all := lw_g (lw_at lw_m1 137 rfl) rfl
theorem q140 : (Jvm.Cond.classLink "SafeUtils" (33 : Nat) "java/lang/IllegalArgumentException") ∈ lw_all := lw_g (lw_at lw_m1 138 rfl) rfl
theorem q181 : (Jvm.Cond.stringRef "SafeUtils" (35 : Nat) "lengths must be >= 0") ∈ lw_tbl := lw_at lw_m1 179 rfl
theorem q182 : (Jvm.Cond.methodLink "SafeUtils" (37 : Nat) ({ cls := "java/lang/IllegalArgumentException", name := "<init>", desc := "(Ljava/lang/String;)V" } : Jvm.MethodName)) ∈ lw_all := lw_g (lw_at lw_m1 180 rfl) rfl
theorem q207 : (Jvm.Cond.classLink "SafeUtils" (26 : Nat) "java/lang/ArrayIndexOutOfBoundsException") ∈ lw_all := lw_g (lw_at lw_m1 205 rfl) rfl
theorem q218 : (Jvm.Cond.stringRef "SafeUtils" (28 : Nat) "left out") ∈ lw_tbl := lw_at lw_m1 216 rfl
theorem q219 : (Jvm.Cond.methodLink "SafeUtils" (30 : Nat) ({ cls := "java/lang/ArrayIndexOutOfBoundsException", name := "<init>", desc := "(Ljava/lang/String;)V" } : Jvm.MethodName)) ∈ lw_all := lw_g (lw_at lw_m1 217 rfl) rfl
theorem q235 : (Jvm.Cond.static ({ cls := "SafeUtils", name := "readInt", desc := "([BI)I" } : Jvm.MethodName)) ∈ lw_all := lw_g (lw_at lw_m1 233 rfl) rfl
theorem q236 : (Jvm.Cond.code ({ cls := "SafeUtils", name := "readInt", desc := "([BI)I" } : Jvm.MethodName) prog_11_method_8_code (2 : Nat) (Option.some Jvm.ClassFile.FieldType.int)) ∈ lw_all := lw_g (lw_at lw_m1 234 rfl) rfl
theorem q237 : (Jvm.Cond.methodLink "SafeUtils" (38 : Nat) ({ cls := "SafeUtils", name := "readIntLE", desc := "([BI)I" } : Jvm.MethodName)) ∈ lw_all := lw_g (lw_at lw_m1 235 rfl) rfl
theorem q238 : (Jvm.Cond.static ({ cls := "SafeUtils", name := "readIntLE", desc := "([BI)I" } : Jvm.MethodName)) ∈ lw_all := lw_g (lw_at lw_m1 236 rfl) rfl
theorem q239 : (Jvm.Cond.code ({ cls := "SafeUtils", name := "readIntLE", desc := "([BI)I" } : Jvm.MethodName) prog_11_method_7_code (2 : Nat) (Option.some Jvm.ClassFile.FieldType.int)) ∈ lw_all := lw_g (lw_at lw_m1 237 rfl) rfl
theorem q245 : (Jvm.Cond.static ({ cls := "SafeUtils", name := "readShort", desc := "([SI)I" } : Jvm.MethodName)) ∈ lw_all := lw_g (lw_at lw_m2 3 rfl) rfl
theorem q246 : (Jvm.Cond.code ({ cls := "SafeUtils", name := "readShort", desc := "([SI)I" } : Jvm.MethodName) prog_11_method_15_code (2 : Nat) (Option.some Jvm.ClassFile.FieldType.int)) ∈ lw_all := lw_g (lw_at lw_m2 4 rfl) rfl
theorem q247 : (Jvm.Cond.constant "SafeUtils" (42 : Nat) (65535 : Int32)) ∈ lw_all := lw_g (lw_at lw_m2 5 rfl) rfl
theorem q249 : (Jvm.Cond.static ({ cls := "SafeUtils", name := "writeShort", desc := "([SII)V" } : Jvm.MethodName)) ∈ lw_all := lw_g (lw_at lw_m2 7 rfl) rfl
theorem q250 : (Jvm.Cond.code ({ cls := "SafeUtils", name := "writeShort", desc := "([SII)V" } : Jvm.MethodName) prog_11_method_13_code (3 : Nat) (Option.none : Option Jvm.ClassFile.FieldType)) ∈ lw_all := lw_g (lw_at lw_m2 8 rfl) rfl
theorem q289 : (Jvm.Cond.static ({ cls := "SafeUtils", name := "writeByte", desc := "([BII)V" } : Jvm.MethodName)) ∈ lw_all := lw_g (lw_at lw_m2 47 rfl) rfl
theorem q290 : (Jvm.Cond.code ({ cls := "SafeUtils", name := "writeByte", desc := "([BII)V" } : Jvm.MethodName) prog_11_method_12_code (3 : Nat) (Option.none : Option Jvm.ClassFile.FieldType)) ∈ lw_all := lw_g (lw_at lw_m2 48 rfl) rfl
theorem q310 : (Jvm.Cond.static ({ cls := "SafeUtils", name := "writeShortLE", desc := "([BII)V" } : Jvm.MethodName)) ∈ lw_all := lw_g (lw_at lw_m2 68 rfl) rfl
theorem q311 : (Jvm.Cond.code ({ cls := "SafeUtils", name := "writeShortLE", desc := "([BII)V" } : Jvm.MethodName) prog_11_method_9_code (3 : Nat) (Option.none : Option Jvm.ClassFile.FieldType)) ∈ lw_all := lw_g (lw_at lw_m2 69 rfl) rfl
theorem q317 : (Jvm.Cond.static ({ cls := "SafeUtils", name := "readByte", desc := "([BI)B" } : Jvm.MethodName)) ∈ lw_all := lw_g (lw_at lw_m2 75 rfl) rfl
theorem q318 : (Jvm.Cond.code ({ cls := "SafeUtils", name := "readByte", desc := "([BI)B" } : Jvm.MethodName) prog_11_method_6_code (2 : Nat) (Option.some Jvm.ClassFile.FieldType.byte)) ∈ lw_all := lw_g (lw_at lw_m2 76 rfl) rfl
theorem q345 : (Jvm.Cond.static ({ cls := "SafeUtils", name := "readInt", desc := "([II)I" } : Jvm.MethodName)) ∈ lw_all := lw_g (lw_at lw_m2 103 rfl) rfl
theorem q346 : (Jvm.Cond.code ({ cls := "SafeUtils", name := "readInt", desc := "([II)I" } : Jvm.MethodName) prog_11_method_11_code (2 : Nat) (Option.some Jvm.ClassFile.FieldType.int)) ∈ lw_all := lw_g (lw_at lw_m2 104 rfl) rfl
theorem q348 : (Jvm.Cond.static ({ cls := "SafeUtils", name := "writeInt", desc := "([III)V" } : Jvm.MethodName)) ∈ lw_all := lw_g (lw_at lw_m2 106 rfl) rfl
theorem q349 : (Jvm.Cond.code ({ cls := "SafeUtils", name := "writeInt", desc := "([III)V" } : Jvm.MethodName) prog_11_method_10_code (3 : Nat) (Option.none : Option Jvm.ClassFile.FieldType)) ∈ lw_all := lw_g (lw_at lw_m2 107 rfl) rfl
theorem q375 : (Jvm.Cond.static ({ cls := "SafeUtils", name := "readShortLE", desc := "([BI)I" } : Jvm.MethodName)) ∈ lw_all := lw_g (lw_at lw_m2 133 rfl) rfl
theorem q376 : (Jvm.Cond.code ({ cls := "SafeUtils", name := "readShortLE", desc := "([BI)I" } : Jvm.MethodName) prog_11_method_14_code (2 : Nat) (Option.some Jvm.ClassFile.FieldType.int)) ∈ lw_all := lw_g (lw_at lw_m2 134 rfl) rfl
/-! LZ4Utils -/
set_option maxRecDepth 100000
def RX7 : String := "LZ4Utils"
abbrev cX7_hash64k : ByteArray := prog_10_method_8_code
def yX7_hash64k : MethodName := ⟨RX7, "hash64k", "(I)I"⟩
def dkwX7_hash64k_0 : List UInt8 := [26, 18, 41, 104, 16, 19, 124, 172]
abbrev dktX7_hash64k_0 : List UInt8 := dkwX7_hash64k_0 ++ []
theorem dksX7_hash64k_0 : cX7_hash64k.data.toList.drop 0 = dktX7_hash64k_0 := by decide +kernel
theorem dX7_hash64k_0 : decode cX7_hash64k 0 = .ok (.iload_n 0, 1) := dk_26 (dk_at dksX7_hash64k_0 0 rfl rfl)
theorem dX7_hash64k_1 : decode cX7_hash64k 1 = .ok (.ldc 41, 2) := dk_18 41 (dk_at dksX7_hash64k_0 1 rfl rfl)
theorem dX7_hash64k_3 : decode cX7_hash64k 3 = .ok (.imul, 1) := dk_104 (dk_at dksX7_hash64k_0 3 rfl rfl)
theorem dX7_hash64k_4 : decode cX7_hash64k 4 = .ok (.bipush 19, 2) := dk_16 19 (dk_at dksX7_hash64k_0 4 rfl rfl)
theorem dX7_hash64k_6 : decode cX7_hash64k 6 = .ok (.iushr, 1) := dk_124 (dk_at dksX7_hash64k_0 6 rfl rfl)
theorem dX7_hash64k_7 : decode cX7_hash64k 7 = .ok (.ireturn, 1) := dk_172 (dk_at dksX7_hash64k_0 7 rfl rfl)
abbrev cX7_sequenceLength : ByteArray := prog_10_method_6_code
def yX7_sequenceLength : MethodName := ⟨RX7, "sequenceLength", "(II)I"⟩
def dkwX7_sequenceLength_1 : List UInt8 := [20, 0, 32, 148, 158, 0, 13, 187, 0, 34, 89, 18, 36, 183, 0, 38, 191, 32, 136, 172]
abbrev dktX7_sequenceLength_1 : List UInt8 := dkwX7_sequenceLength_1 ++ []
def dkwX7_sequenceLength_0 : List UInt8 := [10, 26, 184, 0, 24, 133, 97, 26, 133, 97, 20, 0, 28, 97, 27, 184, 0, 24, 133, 97, 65, 32]
abbrev dktX7_sequenceLength_0 : List UInt8 := dkwX7_sequenceLength_0 ++ dktX7_sequenceLength_1
theorem dksX7_sequenceLength_0 : cX7_sequenceLength.data.toList.drop 0 = dktX7_sequenceLength_0 := by decide +kernel
theorem dksX7_sequenceLength_1 : cX7_sequenceLength.data.toList.drop 22 = dktX7_sequenceLength_1 := dk_seg dksX7_sequenceLength_0 22 rfl rfl
theorem dX7_sequenceLength_0 : decode cX7_sequenceLength 0 = .ok (.lconst 1, 1) := dk_10 (dk_at dksX7_sequenceLength_0 0 rfl rfl)
theorem dX7_sequenceLength_1 : decode cX7_sequenceLength 1 = .ok (.iload_n 0, 1) := dk_26 (dk_at dksX7_sequenceLength_0 1 rfl rfl)
theorem dX7_sequenceLength_2 : decode cX7_sequenceLength 2 = .ok (.invokestatic 24, 3) := dk_184 0 24 (dk_at dksX7_sequenceLength_0 2 rfl rfl)
theorem dX7_sequenceLength_5 : decode cX7_sequenceLength 5 = .ok (.i2l, 1) := dk_133 (dk_at dksX7_sequenceLength_0 5 rfl rfl)
theorem dX7_sequenceLength_6 : decode cX7_sequenceLength 6 = .ok (.ladd, 1) := dk_97 (dk_at dksX7_sequenceLength_0 6 rfl rfl)
theorem dX7_sequenceLength_7 : decode cX7_sequenceLength 7 = .ok (.iload_n 0, 1) := dk_26 (dk_at dksX7_sequenceLength_0 7 rfl rfl)
theorem dX7_sequenceLength_8 : decode cX7_sequenceLength 8 = .ok (.i2l, 1) := dk_133 (dk_at dksX7_sequenceLength_0 8 rfl rfl)
theorem dX7_sequenceLength_9 : decode cX7_sequenceLength 9 = .ok (.ladd, 1) := dk_97 (dk_at dksX7_sequenceLength_0 9 rfl rfl)
theorem dX7_sequenceLength_10 : decode cX7_sequenceLength 10 = .ok (.ldc2_w 28, 3) := dk_20 0 28 (dk_at dksX7_sequenceLength_0 10 rfl rfl)
theorem dX7_sequenceLength_13 : decode cX7_sequenceLength 13 = .ok (.ladd, 1) := dk_97 (dk_at dksX7_sequenceLength_0 13 rfl rfl)
theorem dX7_sequenceLength_14 : decode cX7_sequenceLength 14 = .ok (.iload_n 1, 1) := dk_27 (dk_at dksX7_sequenceLength_0 14 rfl rfl)
theorem dX7_sequenceLength_15 : decode cX7_sequenceLength 15 = .ok (.invokestatic 24, 3) := dk_184 0 24 (dk_at dksX7_sequenceLength_0 15 rfl rfl)
theorem dX7_sequenceLength_18 : decode cX7_sequenceLength 18 = .ok (.i2l, 1) := dk_133 (dk_at dksX7_sequenceLength_0 18 rfl rfl)
theorem dX7_sequenceLength_19 : decode cX7_sequenceLength 19 = .ok (.ladd, 1) := dk_97 (dk_at dksX7_sequenceLength_0 19 rfl rfl)
theorem dX7_sequenceLength_20 : decode cX7_sequenceLength 20 = .ok (.lstore_n 2, 1) := dk_65 (dk_at dksX7_sequenceLength_0 20 rfl rfl)
theorem dX7_sequenceLength_21 : decode cX7_sequenceLength 21 = .ok (.lload_n 2, 1) := dk_32 (dk_at dksX7_sequenceLength_0 21 rfl rfl)
theorem dX7_sequenceLength_22 : decode cX7_sequenceLength 22 = .ok (.ldc2_w 32, 3) := dk_20 0 32 (dk_at dksX7_sequenceLength_1 0 rfl rfl)
theorem dX7_sequenceLength_25 : decode cX7_sequenceLength 25 = .ok (.lcmp, 1) := dk_148 (dk_at dksX7_sequenceLength_1 3 rfl rfl)
theorem dX7_sequenceLength_26 : decode cX7_sequenceLength 26 = .ok (.ifCond .le 13, 3) := dk_158 0 13 (dk_at dksX7_sequenceLength_1 4 rfl rfl)
theorem dX7_sequenceLength_29 : decode cX7_sequenceLength 29 = .ok (.new 34, 3) := dk_187 0 34 (dk_at dksX7_sequenceLength_1 7 rfl rfl)
theorem dX7_sequenceLength_32 : decode cX7_sequenceLength 32 = .ok (.dup, 1) := dk_89 (dk_at dksX7_sequenceLength_1 10 rfl rfl)
theorem dX7_sequenceLength_33 : decode cX7_sequenceLength 33 = .ok (.ldc 36, 2) := dk_18 36 (dk_at dksX7_sequenceLength_1 11 rfl rfl)
theorem dX7_sequenceLength_35 : decode cX7_sequenceLength 35 = .ok (.invokespecial 38, 3) := dk_183 0 38 (dk_at dksX7_sequenceLength_1 13 rfl rfl)
theorem dX7_sequenceLength_38 : decode cX7_sequenceLength 38 = .ok (.athrow, 1) := dk_191 (dk_at dksX7_sequenceLength_1 16 rfl rfl)
theorem dX7_sequenceLength_39 : decode cX7_sequenceLength 39 = .ok (.lload_n 2, 1) := dk_32 (dk_at dksX7_sequenceLength_1 17 rfl rfl)
theorem dX7_sequenceLength_40 : decode cX7_sequenceLength 40 = .ok (.l2i, 1) := dk_136 (dk_at dksX7_sequenceLength_1 18 rfl rfl)
theorem dX7_sequenceLength_41 : decode cX7_sequenceLength 41 = .ok (.ireturn, 1) := dk_172 (dk_at dksX7_sequenceLength_1 19 rfl rfl)
abbrev cX7_lengthOfEncodedInteger : ByteArray := prog_10_method_5_code
def yX7_lengthOfEncodedInteger : MethodName := ⟨RX7, "lengthOfEncodedInteger", "(I)I"⟩
def dkwX7_lengthOfEncodedInteger_0 : List UInt8 := [26, 16, 15, 161, 0, 14, 26, 16, 15, 100, 17, 0, 255, 108, 4, 96, 172, 3, 172]
abbrev dktX7_lengthOfEncodedInteger_0 : List UInt8 := dkwX7_lengthOfEncodedInteger_0 ++ []
theorem dksX7_lengthOfEncodedInteger_0 : cX7_lengthOfEncodedInteger.data.toList.drop 0 = dktX7_lengthOfEncodedInteger_0 := by decide +kernel
theorem dX7_lengthOfEncodedInteger_0 : decode cX7_lengthOfEncodedInteger 0 = .ok (.iload_n 0, 1) := dk_26 (dk_at dksX7_lengthOfEncodedInteger_0 0 rfl rfl)
theorem dX7_lengthOfEncodedInteger_1 : decode cX7_lengthOfEncodedInteger 1 = .ok (.bipush 15, 2) := dk_16 15 (dk_at dksX7_lengthOfEncodedInteger_0 1 rfl rfl)
theorem dX7_lengthOfEncodedInteger_3 : decode cX7_lengthOfEncodedInteger 3 = .ok (.if_icmp .lt 14, 3) := dk_161 0 14 (dk_at dksX7_lengthOfEncodedInteger_0 3 rfl rfl)
theorem dX7_lengthOfEncodedInteger_6 : decode cX7_lengthOfEncodedInteger 6 = .ok (.iload_n 0, 1) := dk_26 (dk_at dksX7_lengthOfEncodedInteger_0 6 rfl rfl)
theorem dX7_lengthOfEncodedInteger_7 : decode cX7_lengthOfEncodedInteger 7 = .ok (.bipush 15, 2) := dk_16 15 (dk_at dksX7_lengthOfEncodedInteger_0 7 rfl rfl)
theorem dX7_lengthOfEncodedInteger_9 : decode cX7_lengthOfEncodedInteger 9 = .ok (.isub, 1) := dk_100 (dk_at dksX7_lengthOfEncodedInteger_0 9 rfl rfl)
theorem dX7_lengthOfEncodedInteger_10 : decode cX7_lengthOfEncodedInteger 10 = .ok (.sipush 255, 3) := dk_17 0 255 (dk_at dksX7_lengthOfEncodedInteger_0 10 rfl rfl)
theorem dX7_lengthOfEncodedInteger_13 : decode cX7_lengthOfEncodedInteger 13 = .ok (.idiv, 1) := dk_108 (dk_at dksX7_lengthOfEncodedInteger_0 13 rfl rfl)
theorem dX7_lengthOfEncodedInteger_14 : decode cX7_lengthOfEncodedInteger 14 = .ok (.iconst 1, 1) := dk_4 (dk_at dksX7_lengthOfEncodedInteger_0 14 rfl rfl)
theorem dX7_lengthOfEncodedInteger_15 : decode cX7_lengthOfEncodedInteger 15 = .ok (.iadd, 1) := dk_96 (dk_at dksX7_lengthOfEncodedInteger_0 15 rfl rfl)
theorem dX7_lengthOfEncodedInteger_16 : decode cX7_lengthOfEncodedInteger 16 = .ok (.ireturn, 1) := dk_172 (dk_at dksX7_lengthOfEncodedInteger_0 16 rfl rfl)
theorem dX7_lengthOfEncodedInteger_17 : decode cX7_lengthOfEncodedInteger 17 = .ok (.iconst 0, 1) := dk_3 (dk_at dksX7_lengthOfEncodedInteger_0 17 rfl rfl)
theorem dX7_lengthOfEncodedInteger_18 : decode cX7_lengthOfEncodedInteger 18 = .ok (.ireturn, 1) := dk_172 (dk_at dksX7_lengthOfEncodedInteger_0 18 rfl rfl)
abbrev cX7_notEnoughSpace : ByteArray := prog_10_method_4_code
def yX7_notEnoughSpace : MethodName := ⟨RX7, "notEnoughSpace", "(II)Z"⟩
def dkwX7_notEnoughSpace_0 : List UInt8 := [27, 156, 0, 5, 4, 172, 26, 27, 162, 0, 7, 4, 167, 0, 4, 3, 172]
abbrev dktX7_notEnoughSpace_0 : List UInt8 := dkwX7_notEnoughSpace_0 ++ []
theorem dksX7_notEnoughSpace_0 : cX7_notEnoughSpace.data.toList.drop 0 = dktX7_notEnoughSpace_0 := by decide +kernel
theorem dX7_notEnoughSpace_0 : decode cX7_notEnoughSpace 0 = .ok (.iload_n 1, 1) := dk_27 (dk_at dksX7_notEnoughSpace_0 0 rfl rfl)
theorem dX7_notEnoughSpace_1 : decode cX7_notEnoughSpace 1 = .ok (.ifCond .ge 5, 3) := dk_156 0 5 (dk_at dksX7_notEnoughSpace_0 1 rfl rfl)
theorem dX7_notEnoughSpace_4 : decode cX7_notEnoughSpace 4 = .ok (.iconst 1, 1) := dk_4 (dk_at dksX7_notEnoughSpace_0 4 rfl rfl)
theorem dX7_notEnoughSpace_5 : decode cX7_notEnoughSpace 5 = .ok (.ireturn, 1) := dk_172 (dk_at dksX7_notEnoughSpace_0 5 rfl rfl)
theorem dX7_notEnoughSpace_6 : decode cX7_notEnoughSpace 6 = .ok (.iload_n 0, 1) := dk_26 (dk_at dksX7_notEnoughSpace_0 6 rfl rfl)
theorem dX7_notEnoughSpace_7 : decode cX7_notEnoughSpace 7 = .ok (.iload_n 1, 1) := dk_27 (dk_at dksX7_notEnoughSpace_0 7 rfl rfl)
theorem dX7_notEnoughSpace_8 : decode cX7_notEnoughSpace 8 = .ok (.if_icmp .ge 7, 3) := dk_162 0 7 (dk_at dksX7_notEnoughSpace_0 8 rfl rfl)
theorem dX7_notEnoughSpace_11 : decode cX7_notEnoughSpace 11 = .ok (.iconst 1, 1) := dk_4 (dk_at dksX7_notEnoughSpace_0 11 rfl rfl)
theorem dX7_notEnoughSpace_12 : decode cX7_notEnoughSpace 12 = .ok (.goto 4, 3) := dk_167 0 4 (dk_at dksX7_notEnoughSpace_0 12 rfl rfl)
theorem dX7_notEnoughSpace_15 : decode cX7_notEnoughSpace 15 = .ok (.iconst 0, 1) := dk_3 (dk_at dksX7_notEnoughSpace_0 15 rfl rfl)
theorem dX7_notEnoughSpace_16 : decode cX7_notEnoughSpace 16 = .ok (.ireturn, 1) := dk_172 (dk_at dksX7_notEnoughSpace_0 16 rfl rfl)
theorem q17 : (Jvm.Cond.initialized "LZ4Utils") ∈ lw_all := lw_g (lw_at lw_m1 15 rfl) rfl
theorem q241 : (Jvm.Cond.static ({ cls := "LZ4Utils", name := "hash64k", desc := "(I)I" } : Jvm.MethodName)) ∈ lw_all := lw_g (lw_at lw_m1 239 rfl) rfl
theorem q242 : (Jvm.Cond.code ({ cls := "LZ4Utils", name := "hash64k", desc := "(I)I" } : Jvm.MethodName) prog_10_method_8_code (1 : Nat) (Option.some Jvm.ClassFile.FieldType.int)) ∈ lw_all := lw_g (lw_at lw_m2 0 rfl) rfl
theorem q243 : (Jvm.Cond.constant "LZ4Utils" (41 : Nat) (-1640531535 : Int32)) ∈ lw_all := lw_g (lw_at lw_m2 1 rfl) rfl
theorem q258 : (Jvm.Cond.static ({ cls := "LZ4Utils", name := "sequenceLength", desc := "(II)I" } : Jvm.MethodName)) ∈ lw_all := lw_g (lw_at lw_m2 16 rfl) rfl
theorem q259 : (Jvm.Cond.code ({ cls := "LZ4Utils", name := "sequenceLength", desc := "(II)I" } : Jvm.MethodName) prog_10_method_6_code (4 : Nat) (Option.some Jvm.ClassFile.FieldType.int)) ∈ lw_all := lw_g (lw_at lw_m2 17 rfl) rfl
theorem q260 : (Jvm.Cond.methodLink "LZ4Utils" (24 : Nat) ({ cls := "LZ4Utils", name := "lengthOfEncodedInteger", desc := "(I)I" } : Jvm.MethodName)) ∈ lw_all := lw_g (lw_at lw_m2 18 rfl) rfl
theorem q261 : (Jvm.Cond.static ({ cls := "LZ4Utils", name := "lengthOfEncodedInteger", desc := "(I)I" } : Jvm.MethodName)) ∈ lw_all := lw_g (lw_at lw_m2 19 rfl) rfl
theorem q262 : (Jvm.Cond.code ({ cls := "LZ4Utils", name := "lengthOfEncodedInteger", desc := "(I)I" } : Jvm.MethodName) prog_10_method_5_code (1 : Nat) (Option.some Jvm.ClassFile.FieldType.int)) ∈ lw_all := lw_g (lw_at lw_m2 20 rfl) rfl
theorem q263 : (Jvm.Cond.constantLong "LZ4Utils" (28 : Nat) (2 : Int64)) ∈ lw_all := lw_g (lw_at lw_m2 21 rfl) rfl
theorem q264 : (Jvm.Cond.constantLong "LZ4Utils" (32 : Nat) (2147483647 : Int64)) ∈ lw_all := lw_g (lw_at lw_m2 22 rfl) rfl
theorem q265 : (Jvm.Cond.classLink "LZ4Utils" (34 : Nat) "LZ4Exception") ∈ lw_all := lw_g (lw_at lw_m2 23 rfl) rfl
theorem q274 : (Jvm.Cond.stringRef "LZ4Utils" (36 : Nat) "Sequence length too large") ∈ lw_tbl := lw_at lw_m2 32 rfl
theorem q275 : (Jvm.Cond.methodLink "LZ4Utils" (38 : Nat) ({ cls := "LZ4Exception", name := "<init>", desc := "(Ljava/lang/String;)V" } : Jvm.MethodName)) ∈ lw_all := lw_g (lw_at lw_m2 33 rfl) rfl
theorem q283 : (Jvm.Cond.static ({ cls := "LZ4Utils", name := "notEnoughSpace", desc := "(II)Z" } : Jvm.MethodName)) ∈ lw_all := lw_g (lw_at lw_m2 41 rfl) rfl
theorem q284 : (Jvm.Cond.code ({ cls := "LZ4Utils", name := "notEnoughSpace", desc := "(II)Z" } : Jvm.MethodName) prog_10_method_4_code (2 : Nat) (Option.some Jvm.ClassFile.FieldType.boolean)) ∈ lw_all := lw_g (lw_at lw_m2 42 rfl) rfl
theorem q342 : (Jvm.Cond.static ({ cls := "LZ4Utils", name := "hash", desc := "(I)I" } : Jvm.MethodName)) ∈ lw_all := lw_g (lw_at lw_m2 100 rfl) rfl
theorem q343 : (Jvm.Cond.code ({ cls := "LZ4Utils", name := "hash", desc := "(I)I" } : Jvm.MethodName) prog_10_method_7_code (1 : Nat) (Option.some Jvm.ClassFile.FieldType.int)) ∈ lw_all := lw_g (lw_at lw_m2 101 rfl) rfl
theorem q379 : (Jvm.Cond.static ({ cls := "LZ4Utils", name := "zero", desc := "([BII)V" } : Jvm.MethodName)) ∈ lw_all := lw_g (lw_at lw_m2 137 rfl) rfl
theorem q380 : (Jvm.Cond.code ({ cls := "LZ4Utils", name := "zero", desc := "([BII)V" } : Jvm.MethodName) prog_10_method_9_code (3 : Nat) (Option.none : Option Jvm.ClassFile.FieldType)) ∈ lw_all := lw_g (lw_at lw_m2 138 rfl) rfl
theorem q381 : (Jvm.Cond.methodLink "LZ4Utils" (42 : Nat) ({ cls := "java/util/Arrays", name := "fill", desc := "([BIIB)V" } : Jvm.MethodName)) ∈ lw_all := lw_g (lw_at lw_m2 139 rfl) rfl
/-! LZ4SafeUtils -/
set_option maxRecDepth 100000
def RX8 : String := "LZ4SafeUtils"
abbrev cX8_readIntEquals : ByteArray := prog_9_method_4_code
def yX8_readIntEquals : MethodName := ⟨RX8, "readIntEquals", "([BII)Z"⟩
def dkwX8_readIntEquals_2 : List UInt8 := [4, 167, 0, 4, 3, 172]
abbrev dktX8_readIntEquals_2 : List UInt8 := dkwX8_readIntEquals_2 ++ []
def dkwX8_readIntEquals_1 : List UInt8 := [5, 96, 51, 42, 28, 5, 96, 51, 160, 0, 20, 42, 27, 6, 96, 51, 42, 28, 6, 96, 51, 160, 0, 7]
abbrev dktX8_readIntEquals_1 : List UInt8 := dkwX8_readIntEquals_1 ++ dktX8_readIntEquals_2
def dkwX8_readIntEquals_0 : List UInt8 := [42, 27, 51, 42, 28, 51, 160, 0, 46, 42, 27, 4, 96, 51, 42, 28, 4, 96, 51, 160, 0, 33, 42, 27]
abbrev dktX8_readIntEquals_0 : List UInt8 := dkwX8_readIntEquals_0 ++ dktX8_readIntEquals_1
theorem dksX8_readIntEquals_0 : cX8_readIntEquals.data.toList.drop 0 = dktX8_readIntEquals_0 := by decide +kernel
theorem dksX8_readIntEquals_1 : cX8_readIntEquals.data.toList.drop 24 = dktX8_readIntEquals_1 := dk_seg dksX8_readIntEquals_0 24 rfl rfl
theorem dksX8_readIntEquals_2 : cX8_readIntEquals.data.toList.drop 48 = dktX8_readIntEquals_2 := dk_seg dksX8_readIntEquals_1 24 rfl rfl
theorem dX8_readIntEquals_0 : decode cX8_readIntEquals 0 = .ok (.aload_n 0, 1) := dk_42 (dk_at dksX8_readIntEquals_0 0 rfl rfl)
theorem dX8_readIntEquals_1 : decode cX8_readIntEquals 1 = .ok (.iload_n 1, 1) := dk_27 (dk_at dksX8_readIntEquals_0 1 rfl rfl)
theorem dX8_readIntEquals_2 : decode cX8_readIntEquals 2 = .ok (.baload, 1) := dk_51 (dk_at dksX8_readIntEquals_0 2 rfl rfl)
theorem dX8_readIntEquals_3 : decode cX8_readIntEquals 3 = .ok (.aload_n 0, 1) := dk_42 (dk_at dksX8_readIntEquals_0 3 rfl rfl)
theorem dX8_readIntEquals_4 : decode cX8_readIntEquals 4 = .ok (.iload_n 2, 1) := dk_28 (dk_at dksX8_readIntEquals_0 4 rfl rfl)
theorem dX8_readIntEquals_5 : decode cX8_readIntEquals 5 = .ok (.baload, 1) := dk_51 (dk_at dksX8_readIntEquals_0 5 rfl rfl)
theorem dX8_readIntEquals_6 : decode cX8_readIntEquals 6 = .ok (.if_icmp .ne 46, 3) := dk_160 0 46 (dk_at dksX8_readIntEquals_0 6 rfl rfl)
theorem dX8_readIntEquals_9 : decode cX8_readIntEquals 9 = .ok (.aload_n 0, 1) := dk_42 (dk_at dksX8_readIntEquals_0 9 rfl rfl)
theorem dX8_readIntEquals_10 : decode cX8_readIntEquals 10 = .ok (.iload_n 1, 1) := dk_27 (dk_at dksX8_readIntEquals_0 10 rfl rfl)
theorem dX8_readIntEquals_11 : decode cX8_readIntEquals 11 = .ok (.iconst 1, 1) := dk_4 (dk_at dksX8_readIntEquals_0 11 rfl rfl)
theorem dX8_readIntEquals_12 : decode cX8_readIntEquals 12 = .ok (.iadd, 1) := dk_96 (dk_at dksX8_readIntEquals_0 12 rfl rfl)
theorem dX8_readIntEquals_13 : decode cX8_readIntEquals 13 = .ok (.baload, 1) := dk_51 (dk_at dksX8_readIntEquals_0 13 rfl rfl)
theorem dX8_readIntEquals_14 : decode cX8_readIntEquals 14 = .ok (.aload_n 0, 1) := dk_42 (dk_at dksX8_readIntEquals_0 14 rfl rfl)
theorem dX8_readIntEquals_15 : decode cX8_readIntEquals 15 = .ok (.iload_n 2, 1) := dk_28 (dk_at dksX8_readIntEquals_0 15 rfl rfl)
theorem dX8_readIntEquals_16 : decode cX8_readIntEquals 16 = .ok (.iconst 1, 1) := dk_4 (dk_at dksX8_readIntEquals_0 16 rfl rfl)
theorem dX8_readIntEquals_17 : decode cX8_readIntEquals 17 = .ok (.iadd, 1) := dk_96 (dk_at dksX8_readIntEquals_0 17 rfl rfl)
theorem dX8_readIntEquals_18 : decode cX8_readIntEquals 18 = .ok (.baload, 1) := dk_51 (dk_at dksX8_readIntEquals_0 18 rfl rfl)
theorem dX8_readIntEquals_19 : decode cX8_readIntEquals 19 = .ok (.if_icmp .ne 33, 3) := dk_160 0 33 (dk_at dksX8_readIntEquals_0 19 rfl rfl)
theorem dX8_readIntEquals_22 : decode cX8_readIntEquals 22 = .ok (.aload_n 0, 1) := dk_42 (dk_at dksX8_readIntEquals_0 22 rfl rfl)
theorem dX8_readIntEquals_23 : decode cX8_readIntEquals 23 = .ok (.iload_n 1, 1) := dk_27 (dk_at dksX8_readIntEquals_0 23 rfl rfl)
theorem dX8_readIntEquals_24 : decode cX8_readIntEquals 24 = .ok (.iconst 2, 1) := dk_5 (dk_at dksX8_readIntEquals_1 0 rfl rfl)
theorem dX8_readIntEquals_25 : decode cX8_readIntEquals 25 = .ok (.iadd, 1) := dk_96 (dk_at dksX8_readIntEquals_1 1 rfl rfl)
theorem dX8_readIntEquals_26 : decode cX8_readIntEquals 26 = .ok (.baload, 1) := dk_51 (dk_at dksX8_readIntEquals_1 2 rfl rfl)
theorem dX8_readIntEquals_27 : decode cX8_readIntEquals 27 = .ok (.aload_n 0, 1) := dk_42 (dk_at dksX8_readIntEquals_1 3 rfl rfl)
theorem dX8_readIntEquals_28 : decode cX8_readIntEquals 28 = .ok (.iload_n 2, 1) := dk_28 (dk_at dksX8_readIntEquals_1 4 rfl rfl)
theorem dX8_readIntEquals_29 : decode cX8_readIntEquals 29 = .ok (.iconst 2, 1) := dk_5 (dk_at dksX8_readIntEquals_1 5 rfl rfl)
theorem dX8_readIntEquals_30 : decode cX8_readIntEquals 30 = .ok (.iadd, 1) := dk_96 (dk_at dksX8_readIntEquals_1 6 rfl rfl)
theorem dX8_readIntEquals_31 : decode cX8_readIntEquals 31 = .ok (.baload, 1) := dk_51 (dk_at dksX8_readIntEquals_1 7 rfl rfl)
theorem dX8_readIntEquals_32 : decode cX8_readIntEquals 32 = .ok (.if_icmp .ne 20, 3) := dk_160 0 20 (dk_at dksX8_readIntEquals_1 8 rfl rfl)
theorem dX8_readIntEquals_35 : decode cX8_readIntEquals 35 = .ok (.aload_n 0, 1) := dk_42 (dk_at dksX8_readIntEquals_1 11 rfl rfl)
theorem dX8_readIntEquals_36 : decode cX8_readIntEquals 36 = .ok (.iload_n 1, 1) := dk_27 (dk_at dksX8_readIntEquals_1 12 rfl rfl)
theorem dX8_readIntEquals_37 : decode cX8_readIntEquals 37 = .ok (.iconst 3, 1) := dk_6 (dk_at dksX8_readIntEquals_1 13 rfl rfl)
theorem dX8_readIntEquals_38 : decode cX8_readIntEquals 38 = .ok (.iadd, 1) := dk_96 (dk_at dksX8_readIntEquals_1 14 rfl rfl)
theorem dX8_readIntEquals_39 : decode cX8_readIntEquals 39 = .ok (.baload, 1) := dk_51 (dk_at dksX8_readIntEquals_1 15 rfl rfl)
theorem dX8_readIntEquals_40 : decode cX8_readIntEquals 40 = .ok (.aload_n 0, 1) := dk_42 (dk_at dksX8_readIntEquals_1 16 rfl rfl)
theorem dX8_readIntEquals_41 : decode cX8_readIntEquals 41 = .ok (.iload_n 2, 1) := dk_28 (dk_at dksX8_readIntEquals_1 17 rfl rfl)
theorem dX8_readIntEquals_42 : decode cX8_readIntEquals 42 = .ok (.iconst 3, 1) := dk_6 (dk_at dksX8_readIntEquals_1 18 rfl rfl)
theorem dX8_readIntEquals_43 : decode cX8_readIntEquals 43 = .ok (.iadd, 1) := dk_96 (dk_at dksX8_readIntEquals_1 19 rfl rfl)
theorem dX8_readIntEquals_44 : decode cX8_readIntEquals 44 = .ok (.baload, 1) := dk_51 (dk_at dksX8_readIntEquals_1 20 rfl rfl)
theorem dX8_readIntEquals_45 : decode cX8_readIntEquals 45 = .ok (.if_icmp .ne 7, 3) := dk_160 0 7 (dk_at dksX8_readIntEquals_1 21 rfl rfl)
theorem dX8_readIntEquals_48 : decode cX8_readIntEquals 48 = .ok (.iconst 1, 1) := dk_4 (dk_at dksX8_readIntEquals_2 0 rfl rfl)
theorem dX8_readIntEquals_49 : decode cX8_readIntEquals 49 = .ok (.goto 4, 3) := dk_167 0 4 (dk_at dksX8_readIntEquals_2 1 rfl rfl)
theorem dX8_readIntEquals_52 : decode cX8_readIntEquals 52 = .ok (.iconst 0, 1) := dk_3 (dk_at dksX8_readIntEquals_2 4 rfl rfl)
theorem dX8_readIntEquals_53 : decode cX8_readIntEquals 53 = .ok (.ireturn, 1) := dk_172 (dk_at dksX8_readIntEquals_2 5 rfl rfl)
abbrev cX8_commonBytesBackward : ByteArray := prog_9_method_9_code
def yX8_commonBytesBackward : MethodName := ⟨RX8, "commonBytesBackward", "([BIIII)I"⟩
def dkwX8_commonBytesBackward_1 : List UInt8 := [28, 51, 160, 0, 9, 132, 5, 1, 167, 255, 227, 21, 5, 172]
abbrev dktX8_commonBytesBackward_1 : List UInt8 := dkwX8_commonBytesBackward_1 ++ []
def dkwX8_commonBytesBackward_0 : List UInt8 := [3, 54, 5, 27, 29, 164, 0, 30, 28, 21, 4, 164, 0, 24, 42, 132, 1, 255, 27, 51, 42, 132, 2, 255]
abbrev dktX8_commonBytesBackward_0 : List UInt8 := dkwX8_commonBytesBackward_0 ++ dktX8_commonBytesBackward_1
theorem dksX8_commonBytesBackward_0 : cX8_commonBytesBackward.data.toList.drop 0 = dktX8_commonBytesBackward_0 := by decide +kernel
theorem dksX8_commonBytesBackward_1 : cX8_commonBytesBackward.data.toList.drop 24 = dktX8_commonBytesBackward_1 := dk_seg dksX8_commonBytesBackward_0 24 rfl rfl
theorem dX8_commonBytesBackward_0 : decode cX8_commonBytesBackward 0 = .ok (.iconst 0, 1) := dk_3 (dk_at dksX8_commonBytesBackward_0 0 rfl rfl)
theorem dX8_commonBytesBackward_1 : decode cX8_commonBytesBackward 1 = .ok (.istore 5, 2) := dk_54 5 (dk_at dksX8_commonBytesBackward_0 1 rfl rfl)
theorem dX8_commonBytesBackward_3 : decode cX8_commonBytesBackward 3 = .ok (.iload_n 1, 1) := dk_27 (dk_at dksX8_commonBytesBackward_0 3 rfl rfl)
theorem dX8_commonBytesBackward_4 : decode cX8_commonBytesBackward 4 = .ok (.iload_n 3, 1) := dk_29 (dk_at dksX8_commonBytesBackward_0 4 rfl rfl)
theorem dX8_commonBytesBackward_5 : decode cX8_commonBytesBackward 5 = .ok (.if_icmp .le 30, 3) := dk_164 0 30 (dk_at dksX8_commonBytesBackward_0 5 rfl rfl)
theorem dX8_commonBytesBackward_8 : decode cX8_commonBytesBackward 8 = .ok (.iload_n 2, 1) := dk_28 (dk_at dksX8_commonBytesBackward_0 8 rfl rfl)
theorem dX8_commonBytesBackward_9 : decode cX8_commonBytesBackward 9 = .ok (.iload 4, 2) := dk_21 4 (dk_at dksX8_commonBytesBackward_0 9 rfl rfl)
theorem dX8_commonBytesBackward_11 : decode cX8_commonBytesBackward 11 = .ok (.if_icmp .le 24, 3) := dk_164 0 24 (dk_at dksX8_commonBytesBackward_0 11 rfl rfl)
theorem dX8_commonBytesBackward_14 : decode cX8_commonBytesBackward 14 = .ok (.aload_n 0, 1) := dk_42 (dk_at dksX8_commonBytesBackward_0 14 rfl rfl)
theorem dX8_commonBytesBackward_15 : decode cX8_commonBytesBackward 15 = .ok (.iinc 1 (-1), 3) := dk_132 1 255 (dk_at dksX8_commonBytesBackward_0 15 rfl rfl)
theorem dX8_commonBytesBackward_18 : decode cX8_commonBytesBackward 18 = .ok (.iload_n 1, 1) := dk_27 (dk_at dksX8_commonBytesBackward_0 18 rfl rfl)
theorem dX8_commonBytesBackward_19 : decode cX8_commonBytesBackward 19 = .ok (.baload, 1) := dk_51 (dk_at dksX8_commonBytesBackward_0 19 rfl rfl)
theorem dX8_commonBytesBackward_20 : decode cX8_commonBytesBackward 20 = .ok (.aload_n 0, 1) := dk_42 (dk_at dksX8_commonBytesBackward_0 20 rfl rfl)
theorem dX8_commonBytesBackward_21 : decode cX8_commonBytesBackward 21 = .ok (.iinc 2 (-1), 3) := dk_132 2 255 (dk_at dksX8_commonBytesBackward_0 21 rfl rfl)
theorem dX8_commonBytesBackward_24 : decode cX8_commonBytesBackward 24 = .ok (.iload_n 2, 1) := dk_28 (dk_at dksX8_commonBytesBackward_1 0 rfl rfl)
theorem dX8_commonBytesBackward_25 : decode cX8_commonBytesBackward 25 = .ok (.baload, 1) := dk_51 (dk_at dksX8_commonBytesBackward_1 1 rfl rfl)
theorem dX8_commonBytesBackward_26 : decode cX8_commonBytesBackward 26 = .ok (.if_icmp .ne 9, 3) := dk_160 0 9 (dk_at dksX8_commonBytesBackward_1 2 rfl rfl)
theorem dX8_commonBytesBackward_29 : decode cX8_commonBytesBackward 29 = .ok (.iinc 5 1, 3) := dk_132 5 1 (dk_at dksX8_commonBytesBackward_1 5 rfl rfl)
theorem dX8_commonBytesBackward_32 : decode cX8_commonBytesBackward 32 = .ok (.goto (-29), 3) := dk_167 255 227 (dk_at dksX8_commonBytesBackward_1 8 rfl rfl)
theorem dX8_commonBytesBackward_35 : decode cX8_commonBytesBackward 35 = .ok (.iload 5, 2) := dk_21 5 (dk_at dksX8_commonBytesBackward_1 11 rfl rfl)
theorem dX8_commonBytesBackward_37 : decode cX8_commonBytesBackward 37 = .ok (.ireturn, 1) := dk_172 (dk_at dksX8_commonBytesBackward_1 13 rfl rfl)
abbrev cX8_writeLen : ByteArray := prog_9_method_13_code
def yX8_writeLen : MethodName := ⟨RX8, "writeLen", "(I[BI)I"⟩
def dkwX8_writeLen_1 : List UInt8 := [28, 132, 2, 1, 26, 145, 84, 28, 172]
abbrev dktX8_writeLen_1 : List UInt8 := dkwX8_writeLen_1 ++ []
def dkwX8_writeLen_0 : List UInt8 := [26, 17, 0, 255, 161, 0, 19, 43, 28, 132, 2, 1, 2, 84, 196, 132, 0, 0, 255, 1, 167, 255, 236, 43]
abbrev dktX8_writeLen_0 : List UInt8 := dkwX8_writeLen_0 ++ dktX8_writeLen_1
theorem dksX8_writeLen_0 : cX8_writeLen.data.toList.drop 0 = dktX8_writeLen_0 := by decide +kernel
theorem dksX8_writeLen_1 : cX8_writeLen.data.toList.drop 24 = dktX8_writeLen_1 := dk_seg dksX8_writeLen_0 24 rfl rfl
theorem dX8_writeLen_0 : decode cX8_writeLen 0 = .ok (.iload_n 0, 1) := dk_26 (dk_at dksX8_writeLen_0 0 rfl rfl)
theorem dX8_writeLen_1 : decode cX8_writeLen 1 = .ok (.sipush 255, 3) := dk_17 0 255 (dk_at dksX8_writeLen_0 1 rfl rfl)
theorem dX8_writeLen_4 : decode cX8_writeLen 4 = .ok (.if_icmp .lt 19, 3) := dk_161 0 19 (dk_at dksX8_writeLen_0 4 rfl rfl)
theorem dX8_writeLen_7 : decode cX8_writeLen 7 = .ok (.aload_n 1, 1) := dk_43 (dk_at dksX8_writeLen_0 7 rfl rfl)
theorem dX8_writeLen_8 : decode cX8_writeLen 8 = .ok (.iload_n 2, 1) := dk_28 (dk_at dksX8_writeLen_0 8 rfl rfl)
theorem dX8_writeLen_9 : decode cX8_writeLen 9 = .ok (.iinc 2 1, 3) := dk_132 2 1 (dk_at dksX8_writeLen_0 9 rfl rfl)
theorem dX8_writeLen_12 : decode cX8_writeLen 12 = .ok (.iconst (-1), 1) := dk_2 (dk_at dksX8_writeLen_0 12 rfl rfl)
theorem dX8_writeLen_13 : decode cX8_writeLen 13 = .ok (.bastore, 1) := dk_84 (dk_at dksX8_writeLen_0 13 rfl rfl)
theorem dX8_writeLen_14 : decode cX8_writeLen 14 = .ok (.iinc 0 (-255), 6) := by decide +kernel
theorem dX8_writeLen_20 : decode cX8_writeLen 20 = .ok (.goto (-20), 3) := dk_167 255 236 (dk_at dksX8_writeLen_0 20 rfl rfl)
theorem dX8_writeLen_23 : decode cX8_writeLen 23 = .ok (.aload_n 1, 1) := dk_43 (dk_at dksX8_writeLen_0 23 rfl rfl)
theorem dX8_writeLen_24 : decode cX8_writeLen 24 = .ok (.iload_n 2, 1) := dk_28 (dk_at dksX8_writeLen_1 0 rfl rfl)
theorem dX8_writeLen_25 : decode cX8_writeLen 25 = .ok (.iinc 2 1, 3) := dk_132 2 1 (dk_at dksX8_writeLen_1 1 rfl rfl)
theorem dX8_writeLen_28 : decode cX8_writeLen 28 = .ok (.iload_n 0, 1) := dk_26 (dk_at dksX8_writeLen_1 4 rfl rfl)
theorem dX8_writeLen_29 : decode cX8_writeLen 29 = .ok (.i2b, 1) := dk_145 (dk_at dksX8_writeLen_1 5 rfl rfl)
theorem dX8_writeLen_30 : decode cX8_writeLen 30 = .ok (.bastore, 1) := dk_84 (dk_at dksX8_writeLen_1 6 rfl rfl)
theorem dX8_writeLen_31 : decode cX8_writeLen 31 = .ok (.iload_n 2, 1) := dk_28 (dk_at dksX8_writeLen_1 7 rfl rfl)
theorem dX8_writeLen_32 : decode cX8_writeLen 32 = .ok (.ireturn, 1) := dk_172 (dk_at dksX8_writeLen_1 8 rfl rfl)
abbrev cX8_wildArraycopy : ByteArray := prog_9_method_11_code
def yX8_wildArraycopy : MethodName := ⟨RX8, "wildArraycopy", "([BI[BII)V"⟩
def dkwX8_wildArraycopy_1 : List UInt8 := [132, 5, 8, 167, 255, 233, 167, 0, 15, 58, 5, 187, 0, 34, 89, 18, 36, 183, 0, 38, 191, 177]
abbrev dktX8_wildArraycopy_1 : List UInt8 := dkwX8_wildArraycopy_1 ++ []
def dkwX8_wildArraycopy_0 : List UInt8 := [3, 54, 5, 21, 5, 21, 4, 162, 0, 22, 42, 27, 21, 5, 96, 44, 29, 21, 5, 96, 184, 0, 22]
abbrev dktX8_wildArraycopy_0 : List UInt8 := dkwX8_wildArraycopy_0 ++ dktX8_wildArraycopy_1
theorem dksX8_wildArraycopy_0 : cX8_wildArraycopy.data.toList.drop 0 = dktX8_wildArraycopy_0 := by decide +kernel
theorem dksX8_wildArraycopy_1 : cX8_wildArraycopy.data.toList.drop 23 = dktX8_wildArraycopy_1 := dk_seg dksX8_wildArraycopy_0 23 rfl rfl
theorem dX8_wildArraycopy_0 : decode cX8_wildArraycopy 0 = .ok (.iconst 0, 1) := dk_3 (dk_at dksX8_wildArraycopy_0 0 rfl rfl)
theorem dX8_wildArraycopy_1 : decode cX8_wildArraycopy 1 = .ok (.istore 5, 2) := dk_54 5 (dk_at dksX8_wildArraycopy_0 1 rfl rfl)
theorem dX8_wildArraycopy_3 : decode cX8_wildArraycopy 3 = .ok (.iload 5, 2) := dk_21 5 (dk_at dksX8_wildArraycopy_0 3 rfl rfl)
theorem dX8_wildArraycopy_5 : decode cX8_wildArraycopy 5 = .ok (.iload 4, 2) := dk_21 4 (dk_at dksX8_wildArraycopy_0 5 rfl rfl)
theorem dX8_wildArraycopy_7 : decode cX8_wildArraycopy 7 = .ok (.if_icmp .ge 22, 3) := dk_162 0 22 (dk_at dksX8_wildArraycopy_0 7 rfl rfl)
theorem dX8_wildArraycopy_10 : decode cX8_wildArraycopy 10 = .ok (.aload_n 0, 1) := dk_42 (dk_at dksX8_wildArraycopy_0 10 rfl rfl)
theorem dX8_wildArraycopy_11 : decode cX8_wildArraycopy 11 = .ok (.iload_n 1, 1) := dk_27 (dk_at dksX8_wildArraycopy_0 11 rfl rfl)
theorem dX8_wildArraycopy_12 : decode cX8_wildArraycopy 12 = .ok (.iload 5, 2) := dk_21 5 (dk_at dksX8_wildArraycopy_0 12 rfl rfl)
theorem dX8_wildArraycopy_14 : decode cX8_wildArraycopy 14 = .ok (.iadd, 1) := dk_96 (dk_at dksX8_wildArraycopy_0 14 rfl rfl)
theorem dX8_wildArraycopy_15 : decode cX8_wildArraycopy 15 = .ok (.aload_n 2, 1) := dk_44 (dk_at dksX8_wildArraycopy_0 15 rfl rfl)
theorem dX8_wildArraycopy_16 : decode cX8_wildArraycopy 16 = .ok (.iload_n 3, 1) := dk_29 (dk_at dksX8_wildArraycopy_0 16 rfl rfl)
theorem dX8_wildArraycopy_17 : decode cX8_wildArraycopy 17 = .ok (.iload 5, 2) := dk_21 5 (dk_at dksX8_wildArraycopy_0 17 rfl rfl)
theorem dX8_wildArraycopy_19 : decode cX8_wildArraycopy 19 = .ok (.iadd, 1) := dk_96 (dk_at dksX8_wildArraycopy_0 19 rfl rfl)
theorem dX8_wildArraycopy_20 : decode cX8_wildArraycopy 20 = .ok (.invokestatic 22, 3) := dk_184 0 22 (dk_at dksX8_wildArraycopy_0 20 rfl rfl)
theorem dX8_wildArraycopy_23 : decode cX8_wildArraycopy 23 = .ok (.iinc 5 8, 3) := dk_132 5 8 (dk_at dksX8_wildArraycopy_1 0 rfl rfl)
theorem dX8_wildArraycopy_26 : decode cX8_wildArraycopy 26 = .ok (.goto (-23), 3) := dk_167 255 233 (dk_at dksX8_wildArraycopy_1 3 rfl rfl)
theorem dX8_wildArraycopy_29 : decode cX8_wildArraycopy 29 = .ok (.goto 15, 3) := dk_167 0 15 (dk_at dksX8_wildArraycopy_1 6 rfl rfl)
theorem dX8_wildArraycopy_32 : decode cX8_wildArraycopy 32 = .ok (.astore 5, 2) := dk_58 5 (dk_at dksX8_wildArraycopy_1 9 rfl rfl)
theorem dX8_wildArraycopy_34 : decode cX8_wildArraycopy 34 = .ok (.new 34, 3) := dk_187 0 34 (dk_at dksX8_wildArraycopy_1 11 rfl rfl)
theorem dX8_wildArraycopy_37 : decode cX8_wildArraycopy 37 = .ok (.dup, 1) := dk_89 (dk_at dksX8_wildArraycopy_1 14 rfl rfl)
theorem dX8_wildArraycopy_38 : decode cX8_wildArraycopy 38 = .ok (.ldc 36, 2) := dk_18 36 (dk_at dksX8_wildArraycopy_1 15 rfl rfl)
theorem dX8_wildArraycopy_40 : decode cX8_wildArraycopy 40 = .ok (.invokespecial 38, 3) := dk_183 0 38 (dk_at dksX8_wildArraycopy_1 17 rfl rfl)
theorem dX8_wildArraycopy_43 : decode cX8_wildArraycopy 43 = .ok (.athrow, 1) := dk_191 (dk_at dksX8_wildArraycopy_1 20 rfl rfl)
theorem dX8_wildArraycopy_44 : decode cX8_wildArraycopy 44 = .ok (.return_, 1) := dk_177 (dk_at dksX8_wildArraycopy_1 21 rfl rfl)
abbrev cX8_copy8Bytes : ByteArray := prog_9_method_7_code
def yX8_copy8Bytes : MethodName := ⟨RX8, "copy8Bytes", "([BI[BI)V"⟩
def dkwX8_copy8Bytes_1 : List UInt8 := [132, 4, 1, 167, 255, 234, 177]
abbrev dktX8_copy8Bytes_1 : List UInt8 := dkwX8_copy8Bytes_1 ++ []
def dkwX8_copy8Bytes_0 : List UInt8 := [3, 54, 4, 21, 4, 16, 8, 162, 0, 21, 44, 29, 21, 4, 96, 42, 27, 21, 4, 96, 51, 84]
abbrev dktX8_copy8Bytes_0 : List UInt8 := dkwX8_copy8Bytes_0 ++ dktX8_copy8Bytes_1
theorem dksX8_copy8Bytes_0 : cX8_copy8Bytes.data.toList.drop 0 = dktX8_copy8Bytes_0 := by decide +kernel
theorem dksX8_copy8Bytes_1 : cX8_copy8Bytes.data.toList.drop 22 = dktX8_copy8Bytes_1 := dk_seg dksX8_copy8Bytes_0 22 rfl rfl
theorem dX8_copy8Bytes_0 : decode cX8_copy8Bytes 0 = .ok (.iconst 0, 1) := dk_3 (dk_at dksX8_copy8Bytes_0 0 rfl rfl)
theorem dX8_copy8Bytes_1 : decode cX8_copy8Bytes 1 = .ok (.istore 4, 2) := dk_54 4 (dk_at dksX8_copy8Bytes_0 1 rfl rfl)
theorem dX8_copy8Bytes_3 : decode cX8_copy8Bytes 3 = .ok (.iload 4, 2) := dk_21 4 (dk_at dksX8_copy8Bytes_0 3 rfl rfl)
theorem dX8_copy8Bytes_5 : decode cX8_copy8Bytes 5 = .ok (.bipush 8, 2) := dk_16 8 (dk_at dksX8_copy8Bytes_0 5 rfl rfl)
theorem dX8_copy8Bytes_7 : decode cX8_copy8Bytes 7 = .ok (.if_icmp .ge 21, 3) := dk_162 0 21 (dk_at dksX8_copy8Bytes_0 7 rfl rfl)
theorem dX8_copy8Bytes_10 : decode cX8_copy8Bytes 10 = .ok (.aload_n 2, 1) := dk_44 (dk_at dksX8_copy8Bytes_0 10 rfl rfl)
theorem dX8_copy8Bytes_11 : decode cX8_copy8Bytes 11 = .ok (.iload_n 3, 1) := dk_29 (dk_at dksX8_copy8Bytes_0 11 rfl rfl)
theorem dX8_copy8Bytes_12 : decode cX8_copy8Bytes 12 = .ok (.iload 4, 2) := dk_21 4 (dk_at dksX8_copy8Bytes_0 12 rfl rfl)
theorem dX8_copy8Bytes_14 : decode cX8_copy8Bytes 14 = .ok (.iadd, 1) := dk_96 (dk_at dksX8_copy8Bytes_0 14 rfl rfl)
theorem dX8_copy8Bytes_15 : decode cX8_copy8Bytes 15 = .ok (.aload_n 0, 1) := dk_42 (dk_at dksX8_copy8Bytes_0 15 rfl rfl)
theorem dX8_copy8Bytes_16 : decode cX8_copy8Bytes 16 = .ok (.iload_n 1, 1) := dk_27 (dk_at dksX8_copy8Bytes_0 16 rfl rfl)
theorem dX8_copy8Bytes_17 : decode cX8_copy8Bytes 17 = .ok (.iload 4, 2) := dk_21 4 (dk_at dksX8_copy8Bytes_0 17 rfl rfl)
theorem dX8_copy8Bytes_19 : decode cX8_copy8Bytes 19 = .ok (.iadd, 1) := dk_96 (dk_at dksX8_copy8Bytes_0 19 rfl rfl)
theorem dX8_copy8Bytes_20 : decode cX8_copy8Bytes 20 = .ok (.baload, 1) := dk_51 (dk_at dksX8_copy8Bytes_0 20 rfl rfl)
theorem dX8_copy8Bytes_21 : decode cX8_copy8Bytes 21 = .ok (.bastore, 1) := dk_84 (dk_at dksX8_copy8Bytes_0 21 rfl rfl)
theorem dX8_copy8Bytes_22 : decode cX8_copy8Bytes 22 = .ok (.iinc 4 1, 3) := dk_132 4 1 (dk_at dksX8_copy8Bytes_1 0 rfl rfl)
theorem dX8_copy8Bytes_25 : decode cX8_copy8Bytes 25 = .ok (.goto (-22), 3) := dk_167 255 234 (dk_at dksX8_copy8Bytes_1 3 rfl rfl)
theorem dX8_copy8Bytes_28 : decode cX8_copy8Bytes 28 = .ok (.return_, 1) := dk_177 (dk_at dksX8_copy8Bytes_1 6 rfl rfl)
abbrev cX8_commonBytes : ByteArray := prog_9_method_8_code
def yX8_commonBytes : MethodName := ⟨RX8, "commonBytes", "([BIII)I"⟩
def dkwX8_commonBytes_1 : List UInt8 := [132, 4, 1, 167, 255, 233, 21, 4, 172]
abbrev dktX8_commonBytes_1 : List UInt8 := dkwX8_commonBytes_1 ++ []
def dkwX8_commonBytes_0 : List UInt8 := [3, 54, 4, 28, 29, 162, 0, 24, 42, 27, 132, 1, 1, 51, 42, 28, 132, 2, 1, 51, 160, 0, 9]
abbrev dktX8_commonBytes_0 : List UInt8 := dkwX8_commonBytes_0 ++ dktX8_commonBytes_1
theorem dksX8_commonBytes_0 : cX8_commonBytes.data.toList.drop 0 = dktX8_commonBytes_0 := by decide +kernel
theorem dksX8_commonBytes_1 : cX8_commonBytes.data.toList.drop 23 = dktX8_commonBytes_1 := dk_seg dksX8_commonBytes_0 23 rfl rfl
theorem dX8_commonBytes_0 : decode cX8_commonBytes 0 = .ok (.iconst 0, 1) := dk_3 (dk_at dksX8_commonBytes_0 0 rfl rfl)
theorem dX8_commonBytes_1 : decode cX8_commonBytes 1 = .ok (.istore 4, 2) := dk_54 4 (dk_at dksX8_commonBytes_0 1 rfl rfl)
theorem dX8_commonBytes_3 : decode cX8_commonBytes 3 = .ok (.iload_n 2, 1) := dk_28 (dk_at dksX8_commonBytes_0 3 rfl rfl)
theorem dX8_commonBytes_4 : decode cX8_commonBytes 4 = .ok (.iload_n 3, 1) := dk_29 (dk_at dksX8_commonBytes_0 4 rfl rfl)
theorem dX8_commonBytes_5 : decode cX8_commonBytes 5 = .ok (.if_icmp .ge 24, 3) := dk_162 0 24 (dk_at dksX8_commonBytes_0 5 rfl rfl)
theorem dX8_commonBytes_8 : decode cX8_commonBytes 8 = .ok (.aload_n 0, 1) := dk_42 (dk_at dksX8_commonBytes_0 8 rfl rfl)
theorem dX8_commonBytes_9 : decode cX8_commonBytes 9 = .ok (.iload_n 1, 1) := dk_27 (dk_at dksX8_commonBytes_0 9 rfl rfl)
theorem dX8_commonBytes_10 : decode cX8_commonBytes 10 = .ok (.iinc 1 1, 3) := dk_132 1 1 (dk_at dksX8_commonBytes_0 10 rfl rfl)
theorem dX8_commonBytes_13 : decode cX8_commonBytes 13 = .ok (.baload, 1) := dk_51 (dk_at dksX8_commonBytes_0 13 rfl rfl)
theorem dX8_commonBytes_14 : decode cX8_commonBytes 14 = .ok (.aload_n 0, 1) := dk_42 (dk_at dksX8_commonBytes_0 14 rfl rfl)
theorem dX8_commonBytes_15 : decode cX8_commonBytes 15 = .ok (.iload_n 2, 1) := dk_28 (dk_at dksX8_commonBytes_0 15 rfl rfl)
theorem dX8_commonBytes_16 : decode cX8_commonBytes 16 = .ok (.iinc 2 1, 3) := dk_132 2 1 (dk_at dksX8_commonBytes_0 16 rfl rfl)
theorem dX8_commonBytes_19 : decode cX8_commonBytes 19 = .ok (.baload, 1) := dk_51 (dk_at dksX8_commonBytes_0 19 rfl rfl)
theorem dX8_commonBytes_20 : decode cX8_commonBytes 20 = .ok (.if_icmp .ne 9, 3) := dk_160 0 9 (dk_at dksX8_commonBytes_0 20 rfl rfl)
theorem dX8_commonBytes_23 : decode cX8_commonBytes 23 = .ok (.iinc 4 1, 3) := dk_132 4 1 (dk_at dksX8_commonBytes_1 0 rfl rfl)
theorem dX8_commonBytes_26 : decode cX8_commonBytes 26 = .ok (.goto (-23), 3) := dk_167 255 233 (dk_at dksX8_commonBytes_1 3 rfl rfl)
theorem dX8_commonBytes_29 : decode cX8_commonBytes 29 = .ok (.iload 4, 2) := dk_21 4 (dk_at dksX8_commonBytes_1 6 rfl rfl)
theorem dX8_commonBytes_31 : decode cX8_commonBytes 31 = .ok (.ireturn, 1) := dk_172 (dk_at dksX8_commonBytes_1 8 rfl rfl)
abbrev cX8_lastLiterals : ByteArray := prog_9_method_12_code
def yX8_lastLiterals : MethodName := ⟨RX8, "lastLiterals", "([BII[BII)I"⟩
def dkwX8_lastLiterals_3 : List UInt8 := [7, 120, 145, 84, 42, 27, 45, 21, 4, 21, 6, 184, 0, 26, 21, 4, 21, 6, 96, 54, 4, 21, 4, 172]
abbrev dktX8_lastLiterals_3 : List UInt8 := dkwX8_lastLiterals_3 ++ []
def dkwX8_lastLiterals_2 : List UInt8 := [21, 6, 16, 15, 100, 45, 21, 4, 184, 0, 56, 54, 4, 167, 0, 15, 45, 21, 4, 132, 4, 1, 21, 6]
abbrev dktX8_lastLiterals_2 : List UInt8 := dkwX8_lastLiterals_2 ++ dktX8_lastLiterals_3
def dkwX8_lastLiterals_1 : List UInt8 := [187, 0, 34, 89, 183, 0, 51, 191, 21, 6, 16, 15, 161, 0, 28, 45, 21, 4, 132, 4, 1, 16, 240, 84]
abbrev dktX8_lastLiterals_1 : List UInt8 := dkwX8_lastLiterals_1 ++ dktX8_lastLiterals_2
def dkwX8_lastLiterals_0 : List UInt8 := [28, 54, 6, 21, 5, 21, 4, 100, 4, 21, 6, 184, 0, 41, 96, 21, 6, 96, 184, 0, 47, 153, 0, 11]
abbrev dktX8_lastLiterals_0 : List UInt8 := dkwX8_lastLiterals_0 ++ dktX8_lastLiterals_1
theorem dksX8_lastLiterals_0 : cX8_lastLiterals.data.toList.drop 0 = dktX8_lastLiterals_0 := by decide +kernel
theorem dksX8_lastLiterals_1 : cX8_lastLiterals.data.toList.drop 24 = dktX8_lastLiterals_1 := dk_seg dksX8_lastLiterals_0 24 rfl rfl
theorem dksX8_lastLiterals_2 : cX8_lastLiterals.data.toList.drop 48 = dktX8_lastLiterals_2 := dk_seg dksX8_lastLiterals_1 24 rfl rfl
theorem dksX8_lastLiterals_3 : cX8_lastLiterals.data.toList.drop 72 = dktX8_lastLiterals_3 := dk_seg dksX8_lastLiterals_2 24 rfl rfl
theorem dX8_lastLiterals_0 : decode cX8_lastLiterals 0 = .ok (.iload_n 2, 1) := dk_28 (dk_at dksX8_lastLiterals_0 0 rfl rfl)
theorem dX8_lastLiterals_1 : decode cX8_lastLiterals 1 = .ok (.istore 6, 2) := dk_54 6 (dk_at dksX8_lastLiterals_0 1 rfl rfl)
theorem dX8_lastLiterals_3 : decode cX8_lastLiterals 3 = .ok (.iload 5, 2) := dk_21 5 (dk_at dksX8_lastLiterals_0 3 rfl rfl)
theorem dX8_lastLiterals_5 : decode cX8_lastLiterals 5 = .ok (.iload 4, 2) := dk_21 4 (dk_at dksX8_lastLiterals_0 5 rfl rfl)
theorem dX8_lastLiterals_7 : decode cX8_lastLiterals 7 = .ok (.isub, 1) := dk_100 (dk_at dksX8_lastLiterals_0 7 rfl rfl)
theorem dX8_lastLiterals_8 : decode cX8_lastLiterals 8 = .ok (.iconst 1, 1) := dk_4 (dk_at dksX8_lastLiterals_0 8 rfl rfl)
theorem dX8_lastLiterals_9 : decode cX8_lastLiterals 9 = .ok (.iload 6, 2) := dk_21 6 (dk_at dksX8_lastLiterals_0 9 rfl rfl)
theorem dX8_lastLiterals_11 : decode cX8_lastLiterals 11 = .ok (.invokestatic 41, 3) := dk_184 0 41 (dk_at dksX8_lastLiterals_0 11 rfl rfl)
theorem dX8_lastLiterals_14 : decode cX8_lastLiterals 14 = .ok (.iadd, 1) := dk_96 (dk_at dksX8_lastLiterals_0 14 rfl rfl)
theorem dX8_lastLiterals_15 : decode cX8_lastLiterals 15 = .ok (.iload 6, 2) := dk_21 6 (dk_at dksX8_lastLiterals_0 15 rfl rfl)
theorem dX8_lastLiterals_17 : decode cX8_lastLiterals 17 = .ok (.iadd, 1) := dk_96 (dk_at dksX8_lastLiterals_0 17 rfl rfl)
theorem dX8_lastLiterals_18 : decode cX8_lastLiterals 18 = .ok (.invokestatic 47, 3) := dk_184 0 47 (dk_at dksX8_lastLiterals_0 18 rfl rfl)
theorem dX8_lastLiterals_21 : decode cX8_lastLiterals 21 = .ok (.ifCond .eq 11, 3) := dk_153 0 11 (dk_at dksX8_lastLiterals_0 21 rfl rfl)
theorem dX8_lastLiterals_24 : decode cX8_lastLiterals 24 = .ok (.new 34, 3) := dk_187 0 34 (dk_at dksX8_lastLiterals_1 0 rfl rfl)
theorem dX8_lastLiterals_27 : decode cX8_lastLiterals 27 = .ok (.dup, 1) := dk_89 (dk_at dksX8_lastLiterals_1 3 rfl rfl)
theorem dX8_lastLiterals_28 : decode cX8_lastLiterals 28 = .ok (.invokespecial 51, 3) := dk_183 0 51 (dk_at dksX8_lastLiterals_1 4 rfl rfl)
theorem dX8_lastLiterals_31 : decode cX8_lastLiterals 31 = .ok (.athrow, 1) := dk_191 (dk_at dksX8_lastLiterals_1 7 rfl rfl)
theorem dX8_lastLiterals_32 : decode cX8_lastLiterals 32 = .ok (.iload 6, 2) := dk_21 6 (dk_at dksX8_lastLiterals_1 8 rfl rfl)
theorem dX8_lastLiterals_34 : decode cX8_lastLiterals 34 = .ok (.bipush 15, 2) := dk_16 15 (dk_at dksX8_lastLiterals_1 10 rfl rfl)
theorem dX8_lastLiterals_36 : decode cX8_lastLiterals 36 = .ok (.if_icmp .lt 28, 3) := dk_161 0 28 (dk_at dksX8_lastLiterals_1 12 rfl rfl)
theorem dX8_lastLiterals_39 : decode cX8_lastLiterals 39 = .ok (.aload_n 3, 1) := dk_45 (dk_at dksX8_lastLiterals_1 15 rfl rfl)
theorem dX8_lastLiterals_40 : decode cX8_lastLiterals 40 = .ok (.iload 4, 2) := dk_21 4 (dk_at dksX8_lastLiterals_1 16 rfl rfl)
theorem dX8_lastLiterals_42 : decode cX8_lastLiterals 42 = .ok (.iinc 4 1, 3) := dk_132 4 1 (dk_at dksX8_lastLiterals_1 18 rfl rfl)
theorem dX8_lastLiterals_45 : decode cX8_lastLiterals 45 = .ok (.bipush (-16), 2) := dk_16 240 (dk_at dksX8_lastLiterals_1 21 rfl rfl)
theorem dX8_lastLiterals_47 : decode cX8_lastLiterals 47 = .ok (.bastore, 1) := dk_84 (dk_at dksX8_lastLiterals_1 23 rfl rfl)
theorem dX8_lastLiterals_48 : decode cX8_lastLiterals 48 = .ok (.iload 6, 2) := dk_21 6 (dk_at dksX8_lastLiterals_2 0 rfl rfl)
theorem dX8_lastLiterals_50 : decode cX8_lastLiterals 50 = .ok (.bipush 15, 2) := dk_16 15 (dk_at dksX8_lastLiterals_2 2 rfl rfl)
theorem dX8_lastLiterals_52 : decode cX8_lastLiterals 52 = .ok (.isub, 1) := dk_100 (dk_at dksX8_lastLiterals_2 4 rfl rfl)
theorem dX8_lastLiterals_53 : decode cX8_lastLiterals 53 = .ok (.aload_n 3, 1) := dk_45 (dk_at dksX8_lastLiterals_2 5 rfl rfl)
theorem dX8_lastLiterals_54 : decode cX8_lastLiterals 54 = .ok (.iload 4, 2) := dk_21 4 (dk_at dksX8_lastLiterals_2 6 rfl rfl)
theorem dX8_lastLiterals_56 : decode cX8_lastLiterals 56 = .ok (.invokestatic 56, 3) := dk_184 0 56 (dk_at dksX8_lastLiterals_2 8 rfl rfl)
theorem dX8_lastLiterals_59 : decode cX8_lastLiterals 59 = .ok (.istore 4, 2) := dk_54 4 (dk_at dksX8_lastLiterals_2 11 rfl rfl)
theorem dX8_lastLiterals_61 : decode cX8_lastLiterals 61 = .ok (.goto 15, 3) := dk_167 0 15 (dk_at dksX8_lastLiterals_2 13 rfl rfl)
theorem dX8_lastLiterals_64 : decode cX8_lastLiterals 64 = .ok (.aload_n 3, 1) := dk_45 (dk_at dksX8_lastLiterals_2 16 rfl rfl)
theorem dX8_lastLiterals_65 : decode cX8_lastLiterals 65 = .ok (.iload 4, 2) := dk_21 4 (dk_at dksX8_lastLiterals_2 17 rfl rfl)
theorem dX8_lastLiterals_67 : decode cX8_lastLiterals 67 = .ok (.iinc 4 1, 3) := dk_132 4 1 (dk_at dksX8_lastLiterals_2 19 rfl rfl)
theorem dX8_lastLiterals_70 : decode cX8_lastLiterals 70 = .ok (.iload 6, 2) := dk_21 6 (dk_at dksX8_lastLiterals_2 22 rfl rfl)
theorem dX8_lastLiterals_72 : decode cX8_lastLiterals 72 = .ok (.iconst 4, 1) := dk_7 (dk_at dksX8_lastLiterals_3 0 rfl rfl)
theorem dX8_lastLiterals_73 : decode cX8_lastLiterals 73 = .ok (.ishl, 1) := dk_120 (dk_at dksX8_lastLiterals_3 1 rfl rfl)
theorem dX8_lastLiterals_74 : decode cX8_lastLiterals 74 = .ok (.i2b, 1) := dk_145 (dk_at dksX8_lastLiterals_3 2 rfl rfl)
theorem dX8_lastLiterals_75 : decode cX8_lastLiterals 75 = .ok (.bastore, 1) := dk_84 (dk_at dksX8_lastLiterals_3 3 rfl rfl)
theorem dX8_lastLiterals_76 : decode cX8_lastLiterals 76 = .ok (.aload_n 0, 1) := dk_42 (dk_at dksX8_lastLiterals_3 4 rfl rfl)
theorem dX8_lastLiterals_77 : decode cX8_lastLiterals 77 = .ok (.iload_n 1, 1) := dk_27 (dk_at dksX8_lastLiterals_3 5 rfl rfl)
theorem dX8_lastLiterals_78 : decode cX8_lastLiterals 78 = .ok (.aload_n 3, 1) := dk_45 (dk_at dksX8_lastLiterals_3 6 rfl rfl)
theorem dX8_lastLiterals_79 : decode cX8_lastLiterals 79 = .ok (.iload 4, 2) := dk_21 4 (dk_at dksX8_lastLiterals_3 7 rfl rfl)
theorem dX8_lastLiterals_81 : decode cX8_lastLiterals 81 = .ok (.iload 6, 2) := dk_21 6 (dk_at dksX8_lastLiterals_3 9 rfl rfl)
theorem dX8_lastLiterals_83 : decode cX8_lastLiterals 83 = .ok (.invokestatic 26, 3) := dk_184 0 26 (dk_at dksX8_lastLiterals_3 11 rfl rfl)
theorem dX8_lastLiterals_86 : decode cX8_lastLiterals 86 = .ok (.iload 4, 2) := dk_21 4 (dk_at dksX8_lastLiterals_3 14 rfl rfl)
theorem dX8_lastLiterals_88 : decode cX8_lastLiterals 88 = .ok (.iload 6, 2) := dk_21 6 (dk_at dksX8_lastLiterals_3 16 rfl rfl)
theorem dX8_lastLiterals_90 : decode cX8_lastLiterals 90 = .ok (.iadd, 1) := dk_96 (dk_at dksX8_lastLiterals_3 18 rfl rfl)
theorem dX8_lastLiterals_91 : decode cX8_lastLiterals 91 = .ok (.istore 4, 2) := dk_54 4 (dk_at dksX8_lastLiterals_3 19 rfl rfl)
theorem dX8_lastLiterals_93 : decode cX8_lastLiterals 93 = .ok (.iload 4, 2) := dk_21 4 (dk_at dksX8_lastLiterals_3 21 rfl rfl)
theorem dX8_lastLiterals_95 : decode cX8_lastLiterals 95 = .ok (.ireturn, 1) := dk_172 (dk_at dksX8_lastLiterals_3 23 rfl rfl)
abbrev cX8_safeArraycopy : ByteArray := prog_9_method_10_code
def yX8_safeArraycopy : MethodName := ⟨RX8, "safeArraycopy", "([BI[BII)V"⟩
def dkwX8_safeArraycopy_0 : List UInt8 := [42, 27, 44, 29, 21, 4, 184, 0, 26, 177]
abbrev dktX8_safeArraycopy_0 : List UInt8 := dkwX8_safeArraycopy_0 ++ []
theorem dksX8_safeArraycopy_0 : cX8_safeArraycopy.data.toList.drop 0 = dktX8_safeArraycopy_0 := by decide +kernel
theorem dX8_safeArraycopy_0 : decode cX8_safeArraycopy 0 = .ok (.aload_n 0, 1) := dk_42 (dk_at dksX8_safeArraycopy_0 0 rfl rfl)
theorem dX8_safeArraycopy_1 : decode cX8_safeArraycopy 1 = .ok (.iload_n 1, 1) := dk_27 (dk_at dksX8_safeArraycopy_0 1 rfl rfl)
theorem dX8_safeArraycopy_2 : decode cX8_safeArraycopy 2 = .ok (.aload_n 2, 1) := dk_44 (dk_at dksX8_safeArraycopy_0 2 rfl rfl)
theorem dX8_safeArraycopy_3 : decode cX8_safeArraycopy 3 = .ok (.iload_n 3, 1) := dk_29 (dk_at dksX8_safeArraycopy_0 3 rfl rfl)
theorem dX8_safeArraycopy_4 : decode cX8_safeArraycopy 4 = .ok (.iload 4, 2) := dk_21 4 (dk_at dksX8_safeArraycopy_0 4 rfl rfl)
theorem dX8_safeArraycopy_6 : decode cX8_safeArraycopy 6 = .ok (.invokestatic 26, 3) := dk_184 0 26 (dk_at dksX8_safeArraycopy_0 6 rfl rfl)
theorem dX8_safeArraycopy_9 : decode cX8_safeArraycopy 9 = .ok (.return_, 1) := dk_177 (dk_at dksX8_safeArraycopy_0 9 rfl rfl)
abbrev cX8_safeIncrementalCopy : ByteArray := prog_9_method_5_code
def yX8_safeIncrementalCopy : MethodName := ⟨RX8, "safeIncrementalCopy", "([BIII)V"⟩
def dkwX8_safeIncrementalCopy_1 : List UInt8 := [167, 255, 235, 177]
abbrev dktX8_safeIncrementalCopy_1 : List UInt8 := dkwX8_safeIncrementalCopy_1 ++ []
def dkwX8_safeIncrementalCopy_0 : List UInt8 := [3, 54, 4, 21, 4, 29, 162, 0, 21, 42, 28, 21, 4, 96, 42, 27, 21, 4, 96, 51, 84, 132, 4, 1]
abbrev dktX8_safeIncrementalCopy_0 : List UInt8 := dkwX8_safeIncrementalCopy_0 ++ dktX8_safeIncrementalCopy_1
theorem dksX8_safeIncrementalCopy_0 : cX8_safeIncrementalCopy.data.toList.drop 0 = dktX8_safeIncrementalCopy_0 := by decide +kernel
theorem dksX8_safeIncrementalCopy_1 : cX8_safeIncrementalCopy.data.toList.drop 24 = dktX8_safeIncrementalCopy_1 := dk_seg dksX8_safeIncrementalCopy_0 24 rfl rfl
theorem dX8_safeIncrementalCopy_0 : decode cX8_safeIncrementalCopy 0 = .ok (.iconst 0, 1) := dk_3 (dk_at dksX8_safeIncrementalCopy_0 0 rfl rfl)
theorem dX8_safeIncrementalCopy_1 : decode cX8_safeIncrementalCopy 1 = .ok (.istore 4, 2) := dk_54 4 (dk_at dksX8_safeIncrementalCopy_0 1 rfl rfl)
theorem dX8_safeIncrementalCopy_3 : decode cX8_safeIncrementalCopy 3 = .ok (.iload 4, 2) := dk_21 4 (dk_at dksX8_safeIncrementalCopy_0 3 rfl rfl)
theorem dX8_safeIncrementalCopy_5 : decode cX8_safeIncrementalCopy 5 = .ok (.iload_n 3, 1) := dk_29 (dk_at dksX8_safeIncrementalCopy_0 5 rfl rfl)
theorem dX8_safeIncrementalCopy_6 : decode cX8_safeIncrementalCopy 6 = .ok (.if_icmp .ge 21, 3) := dk_162 0 21 (dk_at dksX8_safeIncrementalCopy_0 6 rfl rfl)
theorem dX8_safeIncrementalCopy_9 : decode cX8_safeIncrementalCopy 9 = .ok (.aload_n 0, 1) := dk_42 (dk_at dksX8_safeIncrementalCopy_0 9 rfl rfl)
theorem dX8_safeIncrementalCopy_10 : decode cX8_safeIncrementalCopy 10 = .ok (.iload_n 2, 1) := dk_28 (dk_at dksX8_safeIncrementalCopy_0 10 rfl rfl)
theorem dX8_safeIncrementalCopy_11 : decode cX8_safeIncrementalCopy 11 = .ok (.iload 4, 2) := dk_21 4 (dk_at dksX8_safeIncrementalCopy_0 11 rfl rfl)
theorem dX8_safeIncrementalCopy_13 : decode cX8_safeIncrementalCopy 13 = .ok (.iadd, 1) := dk_96 (dk_at dksX8_safeIncrementalCopy_0 13 rfl rfl)
theorem dX8_safeIncrementalCopy_14 : decode cX8_safeIncrementalCopy 14 = .ok (.aload_n 0, 1) := dk_42 (dk_at dksX8_safeIncrementalCopy_0 14 rfl rfl)
theorem dX8_safeIncrementalCopy_15 : decode cX8_safeIncrementalCopy 15 = .ok (.iload_n 1, 1) := dk_27 (dk_at dksX8_safeIncrementalCopy_0 15 rfl rfl)
theorem dX8_safeIncrementalCopy_16 : decode cX8_safeIncrementalCopy 16 = .ok (.iload 4, 2) := dk_21 4 (dk_at dksX8_safeIncrementalCopy_0 16 rfl rfl)
theorem dX8_safeIncrementalCopy_18 : decode cX8_safeIncrementalCopy 18 = .ok (.iadd, 1) := dk_96 (dk_at dksX8_safeIncrementalCopy_0 18 rfl rfl)
theorem dX8_safeIncrementalCopy_19 : decode cX8_safeIncrementalCopy 19 = .ok (.baload, 1) := dk_51 (dk_at dksX8_safeIncrementalCopy_0 19 rfl rfl)
theorem dX8_safeIncrementalCopy_20 : decode cX8_safeIncrementalCopy 20 = .ok (.bastore, 1) := dk_84 (dk_at dksX8_safeIncrementalCopy_0 20 rfl rfl)
theorem dX8_safeIncrementalCopy_21 : decode cX8_safeIncrementalCopy 21 = .ok (.iinc 4 1, 3) := dk_132 4 1 (dk_at dksX8_safeIncrementalCopy_0 21 rfl rfl)
theorem dX8_safeIncrementalCopy_24 : decode cX8_safeIncrementalCopy 24 = .ok (.goto (-21), 3) := dk_167 255 235 (dk_at dksX8_safeIncrementalCopy_1 0 rfl rfl)
theorem dX8_safeIncrementalCopy_27 : decode cX8_safeIncrementalCopy 27 = .ok (.return_, 1) := dk_177 (dk_at dksX8_safeIncrementalCopy_1 3 rfl rfl)
abbrev cX8_wildIncrementalCopy : ByteArray := prog_9_method_6_code
def yX8_wildIncrementalCopy : MethodName := ⟨RX8, "wildIncrementalCopy", "([BIII)V"⟩
def dkwX8_wildIncrementalCopy_0 : List UInt8 := [42, 27, 42, 28, 184, 0, 22, 132, 1, 8, 132, 2, 8, 28, 29, 161, 255, 241, 177]
abbrev dktX8_wildIncrementalCopy_0 : List UInt8 := dkwX8_wildIncrementalCopy_0 ++ []
theorem dksX8_wildIncrementalCopy_0 : cX8_wildIncrementalCopy.data.toList.drop 0 = dktX8_wildIncrementalCopy_0 := by decide +kernel
theorem dX8_wildIncrementalCopy_0 : decode cX8_wildIncrementalCopy 0 = .ok (.aload_n 0, 1) := dk_42 (dk_at dksX8_wildIncrementalCopy_0 0 rfl rfl)
theorem dX8_wildIncrementalCopy_1 : decode cX8_wildIncrementalCopy 1 = .ok (.iload_n 1, 1) := dk_27 (dk_at dksX8_wildIncrementalCopy_0 1 rfl rfl)
theorem dX8_wildIncrementalCopy_2 : decode cX8_wildIncrementalCopy 2 = .ok (.aload_n 0, 1) := dk_42 (dk_at dksX8_wildIncrementalCopy_0 2 rfl rfl)
theorem dX8_wildIncrementalCopy_3 : decode cX8_wildIncrementalCopy 3 = .ok (.iload_n 2, 1) := dk_28 (dk_at dksX8_wildIncrementalCopy_0 3 rfl rfl)
theorem dX8_wildIncrementalCopy_4 : decode cX8_wildIncrementalCopy 4 = .ok (.invokestatic 22, 3) := dk_184 0 22 (dk_at dksX8_wildIncrementalCopy_0 4 rfl rfl)
theorem dX8_wildIncrementalCopy_7 : decode cX8_wildIncrementalCopy 7 = .ok (.iinc 1 8, 3) := dk_132 1 8 (dk_at dksX8_wildIncrementalCopy_0 7 rfl rfl)
theorem dX8_wildIncrementalCopy_10 : decode cX8_wildIncrementalCopy 10 = .ok (.iinc 2 8, 3) := dk_132 2 8 (dk_at dksX8_wildIncrementalCopy_0 10 rfl rfl)
theorem dX8_wildIncrementalCopy_13 : decode cX8_wildIncrementalCopy 13 = .ok (.iload_n 2, 1) := dk_28 (dk_at dksX8_wildIncrementalCopy_0 13 rfl rfl)
theorem dX8_wildIncrementalCopy_14 : decode cX8_wildIncrementalCopy 14 = .ok (.iload_n 3, 1) := dk_29 (dk_at dksX8_wildIncrementalCopy_0 14 rfl rfl)
theorem dX8_wildIncrementalCopy_15 : decode cX8_wildIncrementalCopy 15 = .ok (.if_icmp .lt (-15), 3) := dk_161 255 241 (dk_at dksX8_wildIncrementalCopy_0 15 rfl rfl)
theorem dX8_wildIncrementalCopy_18 : decode cX8_wildIncrementalCopy 18 = .ok (.return_, 1) := dk_177 (dk_at dksX8_wildIncrementalCopy_0 18 rfl rfl)
theorem q18 : (Jvm.Cond.initialized "LZ4SafeUtils") ∈ lw_all := lw_g (lw_at lw_m1 16 rfl) rfl
theorem q252 : (Jvm.Cond.static ({ cls := "LZ4SafeUtils", name := "readIntEquals", desc := "([BII)Z" } : Jvm.MethodName)) ∈ lw_all := lw_g (lw_at lw_m2 10 rfl) rfl
theorem q253 : (Jvm.Cond.code ({ cls := "LZ4SafeUtils", name := "readIntEquals", desc := "([BII)Z" } : Jvm.MethodName) prog_9_method_4_code (3 : Nat) (Option.some Jvm.ClassFile.FieldType.boolean)) ∈ lw_all := lw_g (lw_at lw_m2 11 rfl) rfl
theorem q255 : (Jvm.Cond.static ({ cls := "LZ4SafeUtils", name := "commonBytesBackward", desc := "([BIIII)I" } : Jvm.MethodName)) ∈ lw_all := lw_g (lw_at lw_m2 13 rfl) rfl
theorem q256 : (Jvm.Cond.code ({ cls := "LZ4SafeUtils", name := "commonBytesBackward", desc := "([BIIII)I" } : Jvm.MethodName) prog_9_method_9_code (6 : Nat) (Option.some Jvm.ClassFile.FieldType.int)) ∈ lw_all := lw_g (lw_at lw_m2 14 rfl) rfl
theorem q292 : (Jvm.Cond.static ({ cls := "LZ4SafeUtils", name := "writeLen", desc := "(I[BI)I" } : Jvm.MethodName)) ∈ lw_all := lw_g (lw_at lw_m2 50 rfl) rfl
theorem q293 : (Jvm.Cond.code ({ cls := "LZ4SafeUtils", name := "writeLen", desc := "(I[BI)I" } : Jvm.MethodName) prog_9_method_13_code (3 : Nat) (Option.some Jvm.ClassFile.FieldType.int)) ∈ lw_all := lw_g (lw_at lw_m2 51 rfl) rfl
theorem q295 : (Jvm.Cond.static ({ cls := "LZ4SafeUtils", name := "wildArraycopy", desc := "([BI[BII)V" } : Jvm.MethodName)) ∈ lw_all := lw_g (lw_at lw_m2 53 rfl) rfl
theorem q296 : (Jvm.Cond.codeWith ({ cls := "LZ4SafeUtils", name := "wildArraycopy", desc := "([BI[BII)V" } : Jvm.MethodName) prog_9_method_11_code (6 : Nat) (Option.none : Option Jvm.ClassFile.FieldType) [((0 : Nat), (29 : Nat), (32 : Nat), (32 : Nat))]) ∈ lw_all := lw_g (lw_at lw_m2 54 rfl) rfl
theorem q297 : (Jvm.Cond.classLink "LZ4SafeUtils" (32 : Nat) "java/lang/ArrayIndexOutOfBoundsException") ∈ lw_all := lw_g (lw_at lw_m2 55 rfl) rfl
theorem q303 : (Jvm.Cond.methodLink "LZ4SafeUtils" (22 : Nat) ({ cls := "LZ4SafeUtils", name := "copy8Bytes", desc := "([BI[BI)V" } : Jvm.MethodName)) ∈ lw_all := lw_g (lw_at lw_m2 61 rfl) rfl
theorem q304 : (Jvm.Cond.static ({ cls := "LZ4SafeUtils", name := "copy8Bytes", desc := "([BI[BI)V" } : Jvm.MethodName)) ∈ lw_all := lw_g (lw_at lw_m2 62 rfl) rfl
theorem q305 : (Jvm.Cond.code ({ cls := "LZ4SafeUtils", name := "copy8Bytes", desc := "([BI[BI)V" } : Jvm.MethodName) prog_9_method_7_code (5 : Nat) (Option.none : Option Jvm.ClassFile.FieldType)) ∈ lw_all := lw_g (lw_at lw_m2 63 rfl) rfl
theorem q306 : (Jvm.Cond.classLink "LZ4SafeUtils" (34 : Nat) "LZ4Exception") ∈ lw_all := lw_g (lw_at lw_m2 64 rfl) rfl
theorem q307 : (Jvm.Cond.stringRef "LZ4SafeUtils" (36 : Nat) "left out") ∈ lw_tbl := lw_at lw_m2 65 rfl
theorem q308 : (Jvm.Cond.methodLink "LZ4SafeUtils" (38 : Nat) ({ cls := "LZ4Exception", name := "<init>", desc := "(Ljava/lang/String;)V" } : Jvm.MethodName)) ∈ lw_all := lw_g (lw_at lw_m2 66 rfl) rfl
theorem q313 : (Jvm.Cond.static ({ cls := "LZ4SafeUtils", name := "commonBytes", desc := "([BIII)I" } : Jvm.MethodName)) ∈ lw_all := lw_g (lw_at lw_m2 71 rfl) rfl
theorem q314 : (Jvm.Cond.code ({ cls := "LZ4SafeUtils", name := "commonBytes", desc := "([BIII)I" } : Jvm.MethodName) prog_9_method_8_code (5 : Nat) (Option.some Jvm.ClassFile.FieldType.int)) ∈ lw_all := lw_g (lw_at lw_m2 72 rfl) rfl
theorem q320 : (Jvm.Cond.static ({ cls := "LZ4SafeUtils", name := "lastLiterals", desc := "([BII[BII)I" } : Jvm.MethodName)) ∈ lw_all := lw_g (lw_at lw_m2 78 rfl) rfl
theorem q321 : (Jvm.Cond.code ({ cls := "LZ4SafeUtils", name := "lastLiterals", desc := "([BII[BII)I" } : Jvm.MethodName) prog_9_method_12_code (7 : Nat) (Option.some Jvm.ClassFile.FieldType.int)) ∈ lw_all := lw_g (lw_at lw_m2 79 rfl) rfl
theorem q322 : (Jvm.Cond.methodLink "LZ4SafeUtils" (41 : Nat) ({ cls := "LZ4Utils", name := "lengthOfEncodedInteger", desc := "(I)I" } : Jvm.MethodName)) ∈ lw_all := lw_g (lw_at lw_m2 80 rfl) rfl
theorem q323 : (Jvm.Cond.methodLink "LZ4SafeUtils" (47 : Nat) ({ cls := "LZ4Utils", name := "notEnoughSpace", desc := "(II)Z" } : Jvm.MethodName)) ∈ lw_all := lw_g (lw_at lw_m2 81 rfl) rfl
theorem q324 : (Jvm.Cond.methodLink "LZ4SafeUtils" (51 : Nat) ({ cls := "LZ4Exception", name := "<init>", desc := "()V" } : Jvm.MethodName)) ∈ lw_all := lw_g (lw_at lw_m2 82 rfl) rfl
theorem q334 : (Jvm.Cond.methodLink "LZ4SafeUtils" (56 : Nat) ({ cls := "LZ4SafeUtils", name := "writeLen", desc := "(I[BI)I" } : Jvm.MethodName)) ∈ lw_all := lw_g (lw_at lw_m2 92 rfl) rfl
theorem q335 : (Jvm.Cond.methodLink "LZ4SafeUtils" (26 : Nat) ({ cls := "java/lang/System", name := "arraycopy", desc := "(Ljava/lang/Object;ILjava/lang/Object;II)V" } : Jvm.MethodName)) ∈ lw_all := lw_g (lw_at lw_m2 93 rfl) rfl
theorem q371 : (Jvm.Cond.static ({ cls := "LZ4SafeUtils", name := "safeArraycopy", desc := "([BI[BII)V" } : Jvm.MethodName)) ∈ lw_all := lw_g (lw_at lw_m2 129 rfl) rfl
theorem q372 : (Jvm.Cond.code ({ cls := "LZ4SafeUtils", name := "safeArraycopy", desc := "([BI[BII)V" } : Jvm.MethodName) prog_9_method_10_code (5 : Nat) (Option.none : Option Jvm.ClassFile.FieldType)) ∈ lw_all := lw_g (lw_at lw_m2 130 rfl) rfl
theorem q623 : (Jvm.Cond.static ({ cls := "LZ4SafeUtils", name := "safeIncrementalCopy", desc := "([BIII)V" } : Jvm.MethodName)) ∈ lw_all := lw_g (lw_at lw_m3 141 rfl) rfl
theorem q624 : (Jvm.Cond.code ({ cls := "LZ4SafeUtils", name := "safeIncrementalCopy", desc := "([BIII)V" } : Jvm.MethodName) prog_9_method_5_code (5 : Nat) (Option.none : Option Jvm.ClassFile.FieldType)) ∈ lw_all := lw_g (lw_at lw_m3 142 rfl) rfl
theorem q626 : (Jvm.Cond.static ({ cls := "LZ4SafeUtils", name := "wildIncrementalCopy", desc := "([BIII)V" } : Jvm.MethodName)) ∈ lw_all := lw_g (lw_at lw_m3 144 rfl) rfl
theorem q627 : (Jvm.Cond.code ({ cls := "LZ4SafeUtils", name := "wildIncrementalCopy", desc := "([BIII)V" } : Jvm.MethodName) prog_9_method_6_code (4 : Nat) (Option.none : Option Jvm.ClassFile.FieldType)) ∈ lw_all := lw_g (lw_at lw_m3 145 rfl) rfl
theorem q91 : (Jvm.Cond.arrayClass Jvm.ClassFile.FieldType.byte) ∈ lw_all := lw_g (lw_at lw_m1 89 rfl) rfl
set_option maxRecDepth 100000
theorem q281 : (Jvm.Cond.arrayClass Jvm.ClassFile.FieldType.short) ∈ lw_all := lw_g (lw_at lw_m2 39 rfl) rfl
theorem q422 : (Jvm.Cond.arrayClass Jvm.ClassFile.FieldType.int) ∈ lw_all := lw_g (lw_at lw_m2 180 rfl) rfl
theorem q16 : (Jvm.Cond.initialized "LZ4Constants") ∈ lw_all := lw_g (lw_at lw_m1 14 rfl) rfl
set_option maxRecDepth 100000
theorem q233 : (Jvm.Cond.laysStatic "LZ4Constants" "SKIP_STRENGTH" "I") ∈ lw_tbl := lw_at lw_m1 231 rfl
theorem q21 : (Jvm.Cond.initialized "java/lang/System") ∈ lw_all := lw_g (lw_at lw_m1 19 rfl) rfl
set_option maxRecDepth 100000
theorem q336 : (Jvm.Cond.static ({ cls := "java/lang/System", name := "arraycopy", desc := "(Ljava/lang/Object;ILjava/lang/Object;II)V" } : Jvm.MethodName)) ∈ lw_all := lw_g (lw_at lw_m2 94 rfl) rfl
theorem q337 : (Jvm.Cond.native ({ cls := "java/lang/System", name := "arraycopy", desc := "(Ljava/lang/Object;ILjava/lang/Object;II)V" } : Jvm.MethodName)) ∈ lw_all := lw_g (lw_at lw_m2 95 rfl) rfl
/-! java/lang/Object -/
set_option maxRecDepth 100000
def RJ16 : String := "java/lang/Object"
abbrev cJ16_init : ByteArray := object_method_1_code
def yJ16_init : MethodName := ⟨RJ16, "<init>", "()V"⟩
theorem dJ16_init_0 : decode cJ16_init 0 = .ok (.return_, 1) := by decide +kernel
theorem q44 : (Jvm.Cond.instanceMethod ({ cls := "java/lang/Object", name := "<init>", desc := "()V" } : Jvm.MethodName)) ∈ lw_all := lw_g (lw_at lw_m1 42 rfl) rfl
theorem q45 : (Jvm.Cond.code ({ cls := "java/lang/Object", name := "<init>", desc := "()V" } : Jvm.MethodName) object_method_1_code (1 : Nat) (Option.none : Option Jvm.ClassFile.FieldType)) ∈ lw_all := lw_g (lw_at lw_m1 43 rfl) rfl
theorem q459 : (Jvm.Cond.native ({ cls := "java/lang/Object", name := "clone", desc := "()Ljava/lang/Object;" } : Jvm.MethodName)) ∈ lw_all := lw_g (lw_at lw_m2 217 rfl) rfl
theorem q460 : (Jvm.Cond.instanceMethod ({ cls := "java/lang/Object", name := "clone", desc := "()Ljava/lang/Object;" } : Jvm.MethodName)) ∈ lw_all := lw_g (lw_at lw_m2 218 rfl) rfl
theorem q655 : (Jvm.Cond.initialized "java/lang/Object") ∈ lw_all := lw_g (lw_at lw_m3 173 rfl) rfl
end
section
/-! LZ4Compressor -/
set_option maxRecDepth 100000
def RX2 : String := "LZ4Compressor"
abbrev cX2_init : ByteArray := prog_3_method_1_code
def yX2_init : MethodName := ⟨RX2, "<init>", "()V"⟩
theorem dX2_init_0 : decode cX2_init 0 = .ok (.aload_n 0, 1) := by decide +kernel
theorem dX2_init_1 : decode cX2_init 1 = .ok (.invokespecial 1, 3) := by decide +kernel
theorem dX2_init_4 : decode cX2_init 4 = .ok (.return_, 1) := by decide +kernel
theorem q4 : (Jvm.Cond.initialized "LZ4Compressor") ∈ lw_all := lw_g (lw_at lw_m1 2 rfl) rfl
theorem q52 : (Jvm.Cond.instanceMethod ({ cls := "LZ4Compressor", name := "<init>", desc := "()V" } : Jvm.MethodName)) ∈ lw_all := lw_g (lw_at lw_m1 50 rfl) rfl
theorem q53 : (Jvm.Cond.code ({ cls := "LZ4Compressor", name := "<init>", desc := "()V" } : Jvm.MethodName) prog_3_method_1_code (1 : Nat) (Option.none : Option Jvm.ClassFile.FieldType)) ∈ lw_all := lw_g (lw_at lw_m1 51 rfl) rfl
theorem q54 : (Jvm.Cond.methodLink "LZ4Compressor" (1 : Nat) ({ cls := "java/lang/Object", name := "<init>", desc := "()V" } : Jvm.MethodName)) ∈ lw_all := lw_g (lw_at lw_m1 52 rfl) rfl
theorem q129 : (Jvm.Cond.declares ({ cls := "LZ4Compressor", name := "compress", desc := "([BII[BII)I" } : Jvm.MethodName)) ∈ lw_tbl := lw_at lw_m1 127 rfl
theorem q130 : (Jvm.Cond.sameMethod "LZ4Compressor" "LZ4Compressor" "compress" "([BII[BII)I") ∈ lw_all := lw_g (lw_at lw_m1 128 rfl) rfl
/-! LZ4SafeDecompressor -/
set_option maxRecDepth 100000
def RX4 : String := "LZ4SafeDecompressor"
abbrev cX4_init : ByteArray := prog_8_method_1_code
def yX4_init : MethodName := ⟨RX4, "<init>", "()V"⟩
theorem dX4_init_0 : decode cX4_init 0 = .ok (.aload_n 0, 1) := by decide +kernel
theorem dX4_init_1 : decode cX4_init 1 = .ok (.invokespecial 1, 3) := by decide +kernel
theorem dX4_init_4 : decode cX4_init 4 = .ok (.return_, 1) := by decide +kernel
theorem q6 : (Jvm.Cond.initialized "LZ4SafeDecompressor") ∈ lw_all := lw_g (lw_at lw_m1 4 rfl) rfl
theorem q62 : (Jvm.Cond.instanceMethod ({ cls := "LZ4SafeDecompressor", name := "<init>", desc := "()V" } : Jvm.MethodName)) ∈ lw_all := lw_g (lw_at lw_m1 60 rfl) rfl
theorem q63 : (Jvm.Cond.code ({ cls := "LZ4SafeDecompressor", name := "<init>", desc := "()V" } : Jvm.MethodName) prog_8_method_1_code (1 : Nat) (Option.none : Option Jvm.ClassFile.FieldType)) ∈ lw_all := lw_g (lw_at lw_m1 61 rfl) rfl
theorem q64 : (Jvm.Cond.methodLink "LZ4SafeDecompressor" (1 : Nat) ({ cls := "java/lang/Object", name := "<init>", desc := "()V" } : Jvm.MethodName)) ∈ lw_all := lw_g (lw_at lw_m1 62 rfl) rfl
theorem q356 : (Jvm.Cond.declares ({ cls := "LZ4SafeDecompressor", name := "decompress", desc := "([BII[BII)I" } : Jvm.MethodName)) ∈ lw_tbl := lw_at lw_m2 114 rfl
theorem q357 : (Jvm.Cond.sameMethod "LZ4SafeDecompressor" "LZ4SafeDecompressor" "decompress" "([BII[BII)I") ∈ lw_all := lw_g (lw_at lw_m2 115 rfl) rfl
/-! LZ4JavaSafeCompressor -/
set_option maxRecDepth 100000
def RX3 : String := "LZ4JavaSafeCompressor"
abbrev cX3_init : ByteArray := prog_6_method_1_code
def yX3_init : MethodName := ⟨RX3, "<init>", "()V"⟩
theorem dX3_init_0 : decode cX3_init 0 = .ok (.aload_n 0, 1) := by decide +kernel
theorem dX3_init_1 : decode cX3_init 1 = .ok (.invokespecial 1, 3) := by decide +kernel
theorem dX3_init_4 : decode cX3_init 4 = .ok (.return_, 1) := by decide +kernel
abbrev cX3_compress : ByteArray := prog_6_method_3_code
def yX3_compress : MethodName := ⟨RX3, "compress", "([BII[BII)I"⟩
def dkwX3_compress_25 : List UInt8 := [21, 12, 21, 5, 100, 172]
abbrev dktX3_compress_25 : List UInt8 := dkwX3_compress_25 ++ []
def dkwX3_compress_24 : List UInt8 := [54, 13, 167, 254, 37, 43, 21, 13, 21, 8, 21, 13, 100, 25, 4, 21, 12, 21, 7, 184, 0, 84, 54, 12]
abbrev dktX3_compress_24 : List UInt8 := dkwX3_compress_24 ++ dktX3_compress_25
def dkwX3_compress_23 : List UInt8 := [21, 12, 132, 12, 1, 54, 22, 25, 4, 21, 22, 3, 184, 0, 58, 167, 255, 27, 21, 11, 132, 11, 1]
abbrev dktX3_compress_23 : List UInt8 := dkwX3_compress_23 ++ dktX3_compress_24
def dkwX3_compress_22 : List UInt8 := [54, 19, 21, 19, 18, 113, 162, 0, 35, 43, 21, 16, 21, 11, 184, 0, 33, 154, 0, 6, 167, 0, 21]
abbrev dktX3_compress_22 : List UInt8 := dkwX3_compress_22 ++ dktX3_compress_23
def dkwX3_compress_21 : List UInt8 := [25, 14, 21, 24, 184, 0, 106, 54, 16, 25, 14, 21, 24, 21, 11, 184, 0, 109, 21, 11, 21, 16, 100]
abbrev dktX3_compress_21 : List UInt8 := dkwX3_compress_21 ++ dktX3_compress_22
def dkwX3_compress_20 : List UInt8 := [184, 0, 13, 184, 0, 103, 21, 11, 5, 100, 184, 0, 109, 43, 21, 11, 184, 0, 13, 184, 0, 103, 54, 24]
abbrev dktX3_compress_20 : List UInt8 := dkwX3_compress_20 ++ dktX3_compress_21
def dkwX3_compress_19 : List UInt8 := [184, 0, 58, 21, 11, 21, 10, 164, 0, 10, 21, 11, 54, 13, 167, 0, 108, 25, 14, 43, 21, 11, 5, 100]
abbrev dktX3_compress_19 : List UInt8 := dkwX3_compress_19 ++ dktX3_compress_20
def dkwX3_compress_18 : List UInt8 := [21, 12, 184, 0, 62, 54, 12, 167, 0, 20, 25, 4, 21, 22, 25, 4, 21, 22, 184, 0, 80, 21, 23, 128]
abbrev dktX3_compress_18 : List UInt8 := dkwX3_compress_18 ++ dktX3_compress_19
def dkwX3_compress_17 : List UInt8 := [25, 4, 21, 22, 25, 4, 21, 22, 184, 0, 80, 16, 15, 128, 184, 0, 58, 21, 23, 16, 15, 100, 25, 4]
abbrev dktX3_compress_17 : List UInt8 := dkwX3_compress_17 ++ dktX3_compress_18
def dkwX3_compress_16 : List UInt8 := [187, 0, 51, 89, 18, 53, 183, 0, 55, 191, 21, 11, 21, 23, 96, 54, 11, 21, 23, 16, 15, 161, 0, 37]
abbrev dktX3_compress_16 : List UInt8 := dkwX3_compress_16 ++ dktX3_compress_17
def dkwX3_compress_15 : List UInt8 := [184, 0, 73, 54, 23, 21, 7, 21, 12, 100, 16, 6, 21, 23, 184, 0, 77, 96, 184, 0, 47, 153, 0, 13]
abbrev dktX3_compress_15 : List UInt8 := dkwX3_compress_15 ++ dktX3_compress_16
def dkwX3_compress_14 : List UInt8 := [25, 4, 21, 12, 21, 19, 184, 0, 70, 132, 12, 2, 132, 11, 4, 43, 21, 16, 7, 96, 21, 11, 21, 9]
abbrev dktX3_compress_14 : List UInt8 := dkwX3_compress_14 ++ dktX3_compress_15
def dkwX3_compress_13 : List UInt8 := [120, 184, 0, 58, 43, 21, 13, 25, 4, 21, 12, 21, 21, 184, 0, 66, 21, 12, 21, 21, 96, 54, 12]
abbrev dktX3_compress_13 : List UInt8 := dkwX3_compress_13 ++ dktX3_compress_14
def dkwX3_compress_12 : List UInt8 := [21, 21, 16, 15, 100, 25, 4, 21, 12, 184, 0, 62, 54, 12, 167, 0, 14, 25, 4, 21, 22, 21, 21, 7]
abbrev dktX3_compress_12 : List UInt8 := dkwX3_compress_12 ++ dktX3_compress_13
def dkwX3_compress_11 : List UInt8 := [18, 53, 183, 0, 55, 191, 21, 21, 16, 15, 161, 0, 30, 25, 4, 21, 22, 17, 0, 240, 184, 0, 58]
abbrev dktX3_compress_11 : List UInt8 := dkwX3_compress_11 ++ dktX3_compress_12
def dkwX3_compress_10 : List UInt8 := [21, 12, 100, 21, 21, 3, 184, 0, 43, 4, 96, 8, 96, 184, 0, 47, 153, 0, 13, 187, 0, 51, 89]
abbrev dktX3_compress_10 : List UInt8 := dkwX3_compress_10 ++ dktX3_compress_11
def dkwX3_compress_9 : List UInt8 := [21, 16, 21, 20, 100, 54, 16, 21, 11, 21, 13, 100, 54, 21, 21, 12, 132, 12, 1, 54, 22, 21, 7]
abbrev dktX3_compress_9 : List UInt8 := dkwX3_compress_9 ++ dktX3_compress_10
def dkwX3_compress_8 : List UInt8 := [153, 255, 173, 43, 21, 16, 21, 11, 28, 21, 13, 184, 0, 39, 54, 20, 21, 11, 21, 20, 100, 54, 11]
abbrev dktX3_compress_8 : List UInt8 := dkwX3_compress_8 ++ dktX3_compress_9
def dkwX3_compress_7 : List UInt8 := [25, 14, 21, 20, 21, 11, 184, 0, 109, 21, 19, 18, 113, 162, 255, 184, 43, 21, 16, 21, 11, 184, 0, 33]
abbrev dktX3_compress_7 : List UInt8 := dkwX3_compress_7 ++ dktX3_compress_8
def dkwX3_compress_6 : List UInt8 := [184, 0, 13, 184, 0, 103, 54, 20, 25, 14, 21, 20, 184, 0, 106, 54, 16, 21, 11, 21, 16, 100, 54, 19]
abbrev dktX3_compress_6 : List UInt8 := dkwX3_compress_6 ++ dktX3_compress_7
def dkwX3_compress_5 : List UInt8 := [132, 18, 1, 178, 0, 9, 124, 54, 17, 21, 15, 21, 10, 164, 0, 6, 167, 1, 179, 43, 21, 11]
abbrev dktX3_compress_5 : List UInt8 := dkwX3_compress_5 ++ dktX3_compress_6
def dkwX3_compress_4 : List UInt8 := [54, 17, 4, 178, 0, 9, 120, 54, 18, 21, 15, 54, 11, 21, 15, 21, 17, 96, 54, 15, 21, 18]
abbrev dktX3_compress_4 : List UInt8 := dkwX3_compress_4 ++ dktX3_compress_5
def dkwX3_compress_3 : List UInt8 := [132, 11, 1, 54, 13, 17, 16, 0, 188, 10, 58, 14, 25, 14, 21, 13, 184, 0, 97, 21, 11, 54, 15, 4]
abbrev dktX3_compress_3 : List UInt8 := dkwX3_compress_3 ++ dktX3_compress_4
def dkwX3_compress_2 : List UInt8 := [21, 8, 8, 100, 54, 9, 21, 8, 16, 12, 100, 54, 10, 28, 54, 11, 21, 5, 54, 12, 21, 11]
abbrev dktX3_compress_2 : List UInt8 := dkwX3_compress_2 ++ dktX3_compress_3
def dkwX3_compress_1 : List UInt8 := [18, 91, 162, 0, 16, 43, 28, 29, 25, 4, 21, 5, 21, 7, 184, 0, 92, 172, 28, 29, 96, 54, 8]
abbrev dktX3_compress_1 : List UInt8 := dkwX3_compress_1 ++ dktX3_compress_2
def dkwX3_compress_0 : List UInt8 := [43, 28, 29, 184, 0, 88, 25, 4, 21, 5, 21, 6, 184, 0, 88, 21, 5, 21, 6, 96, 54, 7, 29]
abbrev dktX3_compress_0 : List UInt8 := dkwX3_compress_0 ++ dktX3_compress_1
theorem dksX3_compress_0 : cX3_compress.data.toList.drop 0 = dktX3_compress_0 := by decide +kernel
theorem dksX3_compress_1 : cX3_compress.data.toList.drop 23 = dktX3_compress_1 := dk_seg dksX3_compress_0 23 rfl rfl
theorem dksX3_compress_2 : cX3_compress.data.toList.drop 46 = dktX3_compress_2 := dk_seg dksX3_compress_1 23 rfl rfl
theorem dksX3_compress_3 : cX3_compress.data.toList.drop 68 = dktX3_compress_3 := dk_seg dksX3_compress_2 22 rfl rfl
theorem dksX3_compress_4 : cX3_compress.data.toList.drop 92 = dktX3_compress_4 := dk_seg dksX3_compress_3 24 rfl rfl
theorem dksX3_compress_5 : cX3_compress.data.toList.drop 114 = dktX3_compress_5 := dk_seg dksX3_compress_4 22 rfl rfl
theorem dksX3_compress_6 : cX3_compress.data.toList.drop 136 = dktX3_compress_6 := dk_seg dksX3_compress_5 22 rfl rfl
theorem dksX3_compress_7 : cX3_compress.data.toList.drop 160 = dktX3_compress_7 := dk_seg dksX3_compress_6 24 rfl rfl
theorem dksX3_compress_8 : cX3_compress.data.toList.drop 184 = dktX3_compress_8 := dk_seg dksX3_compress_7 24 rfl rfl
theorem dksX3_compress_9 : cX3_compress.data.toList.drop 207 = dktX3_compress_9 := dk_seg dksX3_compress_8 23 rfl rfl
theorem dksX3_compress_10 : cX3_compress.data.toList.drop 230 = dktX3_compress_10 := dk_seg dksX3_compress_9 23 rfl rfl
theorem dksX3_compress_11 : cX3_compress.data.toList.drop 253 = dktX3_compress_11 := dk_seg dksX3_compress_10 23 rfl rfl
theorem dksX3_compress_12 : cX3_compress.data.toList.drop 276 = dktX3_compress_12 := dk_seg dksX3_compress_11 23 rfl rfl
theorem dksX3_compress_13 : cX3_compress.data.toList.drop 300 = dktX3_compress_13 := dk_seg dksX3_compress_12 24 rfl rfl
theorem dksX3_compress_14 : cX3_compress.data.toList.drop 323 = dktX3_compress_14 := dk_seg dksX3_compress_13 23 rfl rfl
theorem dksX3_compress_15 : cX3_compress.data.toList.drop 347 = dktX3_compress_15 := dk_seg dksX3_compress_14 24 rfl rfl
theorem dksX3_compress_16 : cX3_compress.data.toList.drop 371 = dktX3_compress_16 := dk_seg dksX3_compress_15 24 rfl rfl
theorem dksX3_compress_17 : cX3_compress.data.toList.drop 395 = dktX3_compress_17 := dk_seg dksX3_compress_16 24 rfl rfl
theorem dksX3_compress_18 : cX3_compress.data.toList.drop 419 = dktX3_compress_18 := dk_seg dksX3_compress_17 24 rfl rfl
theorem dksX3_compress_19 : cX3_compress.data.toList.drop 443 = dktX3_compress_19 := dk_seg dksX3_compress_18 24 rfl rfl
theorem dksX3_compress_20 : cX3_compress.data.toList.drop 467 = dktX3_compress_20 := dk_seg dksX3_compress_19 24 rfl rfl
theorem dksX3_compress_21 : cX3_compress.data.toList.drop 491 = dktX3_compress_21 := dk_seg dksX3_compress_20 24 rfl rfl
theorem dksX3_compress_22 : cX3_compress.data.toList.drop 514 = dktX3_compress_22 := dk_seg dksX3_compress_21 23 rfl rfl
theorem dksX3_compress_23 : cX3_compress.data.toList.drop 537 = dktX3_compress_23 := dk_seg dksX3_compress_22 23 rfl rfl
theorem dksX3_compress_24 : cX3_compress.data.toList.drop 560 = dktX3_compress_24 := dk_seg dksX3_compress_23 23 rfl rfl
theorem dksX3_compress_25 : cX3_compress.data.toList.drop 584 = dktX3_compress_25 := dk_seg dksX3_compress_24 24 rfl rfl
theorem dX3_compress_0 : decode cX3_compress 0 = .ok (.aload_n 1, 1) := dk_43 (dk_at dksX3_compress_0 0 rfl rfl)
theorem dX3_compress_1 : decode cX3_compress 1 = .ok (.iload_n 2, 1) := dk_28 (dk_at dksX3_compress_0 1 rfl rfl)
theorem dX3_compress_2 : decode cX3_compress 2 = .ok (.iload_n 3, 1) := dk_29 (dk_at dksX3_compress_0 2 rfl rfl)
theorem dX3_compress_3 : decode cX3_compress 3 = .ok (.invokestatic 88, 3) := dk_184 0 88 (dk_at dksX3_compress_0 3 rfl rfl)
theorem dX3_compress_6 : decode cX3_compress 6 = .ok (.aload 4, 2) := dk_25 4 (dk_at dksX3_compress_0 6 rfl rfl)
theorem dX3_compress_8 : decode cX3_compress 8 = .ok (.iload 5, 2) := dk_21 5 (dk_at dksX3_compress_0 8 rfl rfl)
theorem dX3_compress_10 : decode cX3_compress 10 = .ok (.iload 6, 2) := dk_21 6 (dk_at dksX3_compress_0 10 rfl rfl)
theorem dX3_compress_12 : decode cX3_compress 12 = .ok (.invokestatic 88, 3) := dk_184 0 88 (dk_at dksX3_compress_0 12 rfl rfl)
theorem dX3_compress_15 : decode cX3_compress 15 = .ok (.iload 5, 2) := dk_21 5 (dk_at dksX3_compress_0 15 rfl rfl)
theorem dX3_compress_17 : decode cX3_compress 17 = .ok (.iload 6, 2) := dk_21 6 (dk_at dksX3_compress_0 17 rfl rfl)
theorem dX3_compress_19 : decode cX3_compress 19 = .ok (.iadd, 1) := dk_96 (dk_at dksX3_compress_0 19 rfl rfl)
theorem dX3_compress_20 : decode cX3_compress 20 = .ok (.istore 7, 2) := dk_54 7 (dk_at dksX3_compress_0 20 rfl rfl)
theorem dX3_compress_22 : decode cX3_compress 22 = .ok (.iload_n 3, 1) := dk_29 (dk_at dksX3_compress_0 22 rfl rfl)
theorem dX3_compress_23 : decode cX3_compress 23 = .ok (.ldc 91, 2) := dk_18 91 (dk_at dksX3_compress_1 0 rfl rfl)
theorem dX3_compress_25 : decode cX3_compress 25 = .ok (.if_icmp .ge 16, 3) := dk_162 0 16 (dk_at dksX3_compress_1 2 rfl rfl)
theorem dX3_compress_28 : decode cX3_compress 28 = .ok (.aload_n 1, 1) := dk_43 (dk_at dksX3_compress_1 5 rfl rfl)
theorem dX3_compress_29 : decode cX3_compress 29 = .ok (.iload_n 2, 1) := dk_28 (dk_at dksX3_compress_1 6 rfl rfl)
theorem dX3_compress_30 : decode cX3_compress 30 = .ok (.iload_n 3, 1) := dk_29 (dk_at dksX3_compress_1 7 rfl rfl)
theorem dX3_compress_31 : decode cX3_compress 31 = .ok (.aload 4, 2) := dk_25 4 (dk_at dksX3_compress_1 8 rfl rfl)
theorem dX3_compress_33 : decode cX3_compress 33 = .ok (.iload 5, 2) := dk_21 5 (dk_at dksX3_compress_1 10 rfl rfl)
theorem dX3_compress_35 : decode cX3_compress 35 = .ok (.iload 7, 2) := dk_21 7 (dk_at dksX3_compress_1 12 rfl rfl)
theorem dX3_compress_37 : decode cX3_compress 37 = .ok (.invokestatic 92, 3) := dk_184 0 92 (dk_at dksX3_compress_1 14 rfl rfl)
theorem dX3_compress_40 : decode cX3_compress 40 = .ok (.ireturn, 1) := dk_172 (dk_at dksX3_compress_1 17 rfl rfl)
abbrev cX3_compress64k : ByteArray := prog_6_method_2_code
def yX3_compress64k : MethodName := ⟨RX3, "compress64k", "([BII[BII)I"⟩
def dkwX3_compress64k_22 : List UInt8 := [21, 5, 184, 0, 84, 54, 10, 21, 10, 21, 4, 100, 172]
abbrev dktX3_compress64k_22 : List UInt8 := dkwX3_compress64k_22 ++ []
def dkwX3_compress64k_21 : List UInt8 := [167, 255, 37, 21, 9, 132, 9, 1, 54, 11, 167, 254, 61, 42, 21, 11, 21, 6, 21, 11, 100, 45, 21, 10]
abbrev dktX3_compress64k_21 : List UInt8 := dkwX3_compress64k_21 ++ dktX3_compress64k_22
def dkwX3_compress64k_20 : List UInt8 := [184, 0, 33, 154, 0, 6, 167, 0, 20, 21, 10, 132, 10, 1, 54, 19, 45, 21, 19, 3, 184, 0, 58]
abbrev dktX3_compress64k_20 : List UInt8 := dkwX3_compress64k_20 ++ dktX3_compress64k_21
def dkwX3_compress64k_19 : List UInt8 := [21, 21, 184, 0, 25, 96, 54, 14, 25, 12, 21, 21, 21, 9, 27, 100, 184, 0, 29, 42, 21, 9, 21, 14]
abbrev dktX3_compress64k_19 : List UInt8 := dkwX3_compress64k_19 ++ dktX3_compress64k_20
def dkwX3_compress64k_18 : List UInt8 := [21, 9, 5, 100, 27, 100, 184, 0, 29, 42, 21, 9, 184, 0, 13, 184, 0, 19, 54, 21, 27, 25, 12]
abbrev dktX3_compress64k_18 : List UInt8 := dkwX3_compress64k_18 ++ dktX3_compress64k_19
def dkwX3_compress64k_17 : List UInt8 := [164, 0, 10, 21, 9, 54, 11, 167, 0, 99, 25, 12, 42, 21, 9, 5, 100, 184, 0, 13, 184, 0, 19]
abbrev dktX3_compress64k_17 : List UInt8 := dkwX3_compress64k_17 ++ dktX3_compress64k_18
def dkwX3_compress64k_16 : List UInt8 := [167, 0, 18, 45, 21, 19, 45, 21, 19, 184, 0, 80, 21, 20, 128, 184, 0, 58, 21, 9, 21, 8]
abbrev dktX3_compress64k_16 : List UInt8 := dkwX3_compress64k_16 ++ dktX3_compress64k_17
def dkwX3_compress64k_15 : List UInt8 := [184, 0, 80, 16, 15, 128, 184, 0, 58, 21, 20, 16, 15, 100, 45, 21, 10, 184, 0, 62, 54, 10]
abbrev dktX3_compress64k_15 : List UInt8 := dkwX3_compress64k_15 ++ dktX3_compress64k_16
def dkwX3_compress64k_14 : List UInt8 := [183, 0, 55, 191, 21, 9, 21, 20, 96, 54, 9, 21, 20, 16, 15, 161, 0, 34, 45, 21, 19, 45, 21, 19]
abbrev dktX3_compress64k_14 : List UInt8 := dkwX3_compress64k_14 ++ dktX3_compress64k_15
def dkwX3_compress64k_13 : List UInt8 := [21, 10, 100, 16, 6, 21, 20, 184, 0, 77, 96, 184, 0, 47, 153, 0, 13, 187, 0, 51, 89, 18, 53]
abbrev dktX3_compress64k_13 : List UInt8 := dkwX3_compress64k_13 ++ dktX3_compress64k_14
def dkwX3_compress64k_12 : List UInt8 := [132, 10, 2, 132, 9, 4, 132, 14, 4, 42, 21, 14, 21, 9, 21, 7, 184, 0, 73, 54, 20, 21, 5]
abbrev dktX3_compress64k_12 : List UInt8 := dkwX3_compress64k_12 ++ dktX3_compress64k_13
def dkwX3_compress64k_11 : List UInt8 := [184, 0, 66, 21, 10, 21, 18, 96, 54, 10, 45, 21, 10, 21, 9, 21, 14, 100, 147, 184, 0, 70]
abbrev dktX3_compress64k_11 : List UInt8 := dkwX3_compress64k_11 ++ dktX3_compress64k_12
def dkwX3_compress64k_10 : List UInt8 := [54, 10, 167, 0, 13, 45, 21, 19, 21, 18, 7, 120, 184, 0, 58, 42, 21, 11, 45, 21, 10, 21, 18]
abbrev dktX3_compress64k_10 : List UInt8 := dkwX3_compress64k_10 ++ dktX3_compress64k_11
def dkwX3_compress64k_9 : List UInt8 := [161, 0, 28, 45, 21, 19, 17, 0, 240, 184, 0, 58, 21, 18, 16, 15, 100, 45, 21, 10, 184, 0, 62]
abbrev dktX3_compress64k_9 : List UInt8 := dkwX3_compress64k_9 ++ dktX3_compress64k_10
def dkwX3_compress64k_8 : List UInt8 := [96, 8, 96, 184, 0, 47, 153, 0, 13, 187, 0, 51, 89, 18, 53, 183, 0, 55, 191, 21, 18, 16, 15]
abbrev dktX3_compress64k_8 : List UInt8 := dkwX3_compress64k_8 ++ dktX3_compress64k_9
def dkwX3_compress64k_7 : List UInt8 := [21, 11, 100, 54, 18, 21, 10, 132, 10, 1, 54, 19, 21, 5, 21, 10, 100, 21, 18, 3, 184, 0, 43, 4]
abbrev dktX3_compress64k_7 : List UInt8 := dkwX3_compress64k_7 ++ dktX3_compress64k_8
def dkwX3_compress64k_6 : List UInt8 := [21, 11, 184, 0, 39, 54, 17, 21, 9, 21, 17, 100, 54, 9, 21, 14, 21, 17, 100, 54, 14, 21, 9]
abbrev dktX3_compress64k_6 : List UInt8 := dkwX3_compress64k_6 ++ dktX3_compress64k_7
def dkwX3_compress64k_5 : List UInt8 := [21, 9, 27, 100, 184, 0, 29, 42, 21, 14, 21, 9, 184, 0, 33, 153, 255, 183, 42, 21, 14, 21, 9, 27]
abbrev dktX3_compress64k_5 : List UInt8 := dkwX3_compress64k_5 ++ dktX3_compress64k_6
def dkwX3_compress64k_4 : List UInt8 := [184, 0, 13, 184, 0, 19, 54, 17, 27, 25, 12, 21, 17, 184, 0, 25, 96, 54, 14, 25, 12, 21, 17]
abbrev dktX3_compress64k_4 : List UInt8 := dkwX3_compress64k_4 ++ dktX3_compress64k_5
def dkwX3_compress64k_3 : List UInt8 := [21, 16, 132, 16, 1, 178, 0, 9, 124, 54, 15, 21, 13, 21, 8, 164, 0, 6, 167, 1, 155, 42, 21, 9]
abbrev dktX3_compress64k_3 : List UInt8 := dkwX3_compress64k_3 ++ dktX3_compress64k_4
def dkwX3_compress64k_2 : List UInt8 := [54, 13, 4, 54, 15, 4, 178, 0, 9, 120, 54, 16, 21, 13, 54, 9, 21, 13, 21, 15, 96, 54, 13]
abbrev dktX3_compress64k_2 : List UInt8 := dkwX3_compress64k_2 ++ dktX3_compress64k_3
def dkwX3_compress64k_1 : List UInt8 := [54, 10, 21, 9, 54, 11, 28, 16, 13, 161, 1, 211, 17, 32, 0, 188, 9, 58, 12, 132, 9, 1, 21, 9]
abbrev dktX3_compress64k_1 : List UInt8 := dkwX3_compress64k_1 ++ dktX3_compress64k_2
def dkwX3_compress64k_0 : List UInt8 := [27, 28, 96, 54, 6, 21, 6, 8, 100, 54, 7, 21, 6, 16, 12, 100, 54, 8, 27, 54, 9, 21, 4]
abbrev dktX3_compress64k_0 : List UInt8 := dkwX3_compress64k_0 ++ dktX3_compress64k_1
theorem dksX3_compress64k_0 : cX3_compress64k.data.toList.drop 0 = dktX3_compress64k_0 := by decide +kernel
theorem dksX3_compress64k_1 : cX3_compress64k.data.toList.drop 23 = dktX3_compress64k_1 := dk_seg dksX3_compress64k_0 23 rfl rfl
theorem dksX3_compress64k_2 : cX3_compress64k.data.toList.drop 47 = dktX3_compress64k_2 := dk_seg dksX3_compress64k_1 24 rfl rfl
theorem dksX3_compress64k_3 : cX3_compress64k.data.toList.drop 70 = dktX3_compress64k_3 := dk_seg dksX3_compress64k_2 23 rfl rfl
theorem dksX3_compress64k_4 : cX3_compress64k.data.toList.drop 94 = dktX3_compress64k_4 := dk_seg dksX3_compress64k_3 24 rfl rfl
theorem dksX3_compress64k_5 : cX3_compress64k.data.toList.drop 117 = dktX3_compress64k_5 := dk_seg dksX3_compress64k_4 23 rfl rfl
theorem dksX3_compress64k_6 : cX3_compress64k.data.toList.drop 141 = dktX3_compress64k_6 := dk_seg dksX3_compress64k_5 24 rfl rfl
theorem dksX3_compress64k_7 : cX3_compress64k.data.toList.drop 164 = dktX3_compress64k_7 := dk_seg dksX3_compress64k_6 23 rfl rfl
theorem dksX3_compress64k_8 : cX3_compress64k.data.toList.drop 188 = dktX3_compress64k_8 := dk_seg dksX3_compress64k_7 24 rfl rfl
theorem dksX3_compress64k_9 : cX3_compress64k.data.toList.drop 211 = dktX3_compress64k_9 := dk_seg dksX3_compress64k_8 23 rfl rfl
theorem dksX3_compress64k_10 : cX3_compress64k.data.toList.drop 234 = dktX3_compress64k_10 := dk_seg dksX3_compress64k_9 23 rfl rfl
theorem dksX3_compress64k_11 : cX3_compress64k.data.toList.drop 257 = dktX3_compress64k_11 := dk_seg dksX3_compress64k_10 23 rfl rfl
theorem dksX3_compress64k_12 : cX3_compress64k.data.toList.drop 279 = dktX3_compress64k_12 := dk_seg dksX3_compress64k_11 22 rfl rfl
theorem dksX3_compress64k_13 : cX3_compress64k.data.toList.drop 302 = dktX3_compress64k_13 := dk_seg dksX3_compress64k_12 23 rfl rfl
theorem dksX3_compress64k_14 : cX3_compress64k.data.toList.drop 325 = dktX3_compress64k_14 := dk_seg dksX3_compress64k_13 23 rfl rfl
theorem dksX3_compress64k_15 : cX3_compress64k.data.toList.drop 349 = dktX3_compress64k_15 := dk_seg dksX3_compress64k_14 24 rfl rfl
theorem dksX3_compress64k_16 : cX3_compress64k.data.toList.drop 371 = dktX3_compress64k_16 := dk_seg dksX3_compress64k_15 22 rfl rfl
theorem dksX3_compress64k_17 : cX3_compress64k.data.toList.drop 393 = dktX3_compress64k_17 := dk_seg dksX3_compress64k_16 22 rfl rfl
theorem dksX3_compress64k_18 : cX3_compress64k.data.toList.drop 416 = dktX3_compress64k_18 := dk_seg dksX3_compress64k_17 23 rfl rfl
theorem dksX3_compress64k_19 : cX3_compress64k.data.toList.drop 439 = dktX3_compress64k_19 := dk_seg dksX3_compress64k_18 23 rfl rfl
theorem dksX3_compress64k_20 : cX3_compress64k.data.toList.drop 463 = dktX3_compress64k_20 := dk_seg dksX3_compress64k_19 24 rfl rfl
theorem dksX3_compress64k_21 : cX3_compress64k.data.toList.drop 486 = dktX3_compress64k_21 := dk_seg dksX3_compress64k_20 23 rfl rfl
theorem dksX3_compress64k_22 : cX3_compress64k.data.toList.drop 510 = dktX3_compress64k_22 := dk_seg dksX3_compress64k_21 24 rfl rfl
theorem dX3_compress64k_0 : decode cX3_compress64k 0 = .ok (.iload_n 1, 1) := dk_27 (dk_at dksX3_compress64k_0 0 rfl rfl)
theorem dX3_compress64k_1 : decode cX3_compress64k 1 = .ok (.iload_n 2, 1) := dk_28 (dk_at dksX3_compress64k_0 1 rfl rfl)
theorem dX3_compress64k_2 : decode cX3_compress64k 2 = .ok (.iadd, 1) := dk_96 (dk_at dksX3_compress64k_0 2 rfl rfl)
theorem dX3_compress64k_3 : decode cX3_compress64k 3 = .ok (.istore 6, 2) := dk_54 6 (dk_at dksX3_compress64k_0 3 rfl rfl)
theorem dX3_compress64k_5 : decode cX3_compress64k 5 = .ok (.iload 6, 2) := dk_21 6 (dk_at dksX3_compress64k_0 5 rfl rfl)
theorem dX3_compress64k_7 : decode cX3_compress64k 7 = .ok (.iconst 5, 1) := dk_8 (dk_at dksX3_compress64k_0 7 rfl rfl)
theorem dX3_compress64k_8 : decode cX3_compress64k 8 = .ok (.isub, 1) := dk_100 (dk_at dksX3_compress64k_0 8 rfl rfl)
theorem dX3_compress64k_9 : decode cX3_compress64k 9 = .ok (.istore 7, 2) := dk_54 7 (dk_at dksX3_compress64k_0 9 rfl rfl)
theorem dX3_compress64k_11 : decode cX3_compress64k 11 = .ok (.iload 6, 2) := dk_21 6 (dk_at dksX3_compress64k_0 11 rfl rfl)
theorem dX3_compress64k_13 : decode cX3_compress64k 13 = .ok (.bipush 12, 2) := dk_16 12 (dk_at dksX3_compress64k_0 13 rfl rfl)
theorem dX3_compress64k_15 : decode cX3_compress64k 15 = .ok (.isub, 1) := dk_100 (dk_at dksX3_compress64k_0 15 rfl rfl)
theorem dX3_compress64k_16 : decode cX3_compress64k 16 = .ok (.istore 8, 2) := dk_54 8 (dk_at dksX3_compress64k_0 16 rfl rfl)
theorem dX3_compress64k_18 : decode cX3_compress64k 18 = .ok (.iload_n 1, 1) := dk_27 (dk_at dksX3_compress64k_0 18 rfl rfl)
theorem dX3_compress64k_19 : decode cX3_compress64k 19 = .ok (.istore 9, 2) := dk_54 9 (dk_at dksX3_compress64k_0 19 rfl rfl)
theorem dX3_compress64k_21 : decode cX3_compress64k 21 = .ok (.iload 4, 2) := dk_21 4 (dk_at dksX3_compress64k_0 21 rfl rfl)
theorem dX3_compress64k_23 : decode cX3_compress64k 23 = .ok (.istore 10, 2) := dk_54 10 (dk_at dksX3_compress64k_1 0 rfl rfl)
theorem dX3_compress64k_25 : decode cX3_compress64k 25 = .ok (.iload 9, 2) := dk_21 9 (dk_at dksX3_compress64k_1 2 rfl rfl)
theorem dX3_compress64k_27 : decode cX3_compress64k 27 = .ok (.istore 11, 2) := dk_54 11 (dk_at dksX3_compress64k_1 4 rfl rfl)
theorem dX3_compress64k_29 : decode cX3_compress64k 29 = .ok (.iload_n 2, 1) := dk_28 (dk_at dksX3_compress64k_1 6 rfl rfl)
theorem dX3_compress64k_30 : decode cX3_compress64k 30 = .ok (.bipush 13, 2) := dk_16 13 (dk_at dksX3_compress64k_1 7 rfl rfl)
theorem dX3_compress64k_32 : decode cX3_compress64k 32 = .ok (.if_icmp .lt 467, 3) := dk_161 1 211 (dk_at dksX3_compress64k_1 9 rfl rfl)
theorem dX3_compress64k_35 : decode cX3_compress64k 35 = .ok (.sipush 8192, 3) := dk_17 32 0 (dk_at dksX3_compress64k_1 12 rfl rfl)
theorem dX3_compress64k_38 : decode cX3_compress64k 38 = .ok (.newarray .short, 2) := dk_188_9 (dk_at dksX3_compress64k_1 15 rfl rfl)
theorem dX3_compress64k_40 : decode cX3_compress64k 40 = .ok (.astore 12, 2) := dk_58 12 (dk_at dksX3_compress64k_1 17 rfl rfl)
theorem dX3_compress64k_42 : decode cX3_compress64k 42 = .ok (.iinc 9 1, 3) := dk_132 9 1 (dk_at dksX3_compress64k_1 19 rfl rfl)
theorem dX3_compress64k_45 : decode cX3_compress64k 45 = .ok (.iload 9, 2) := dk_21 9 (dk_at dksX3_compress64k_1 22 rfl rfl)
theorem dX3_compress64k_47 : decode cX3_compress64k 47 = .ok (.istore 13, 2) := dk_54 13 (dk_at dksX3_compress64k_2 0 rfl rfl)
theorem dX3_compress64k_49 : decode cX3_compress64k 49 = .ok (.iconst 1, 1) := dk_4 (dk_at dksX3_compress64k_2 2 rfl rfl)
theorem dX3_compress64k_50 : decode cX3_compress64k 50 = .ok (.istore 15, 2) := dk_54 15 (dk_at dksX3_compress64k_2 3 rfl rfl)
theorem dX3_compress64k_52 : decode cX3_compress64k 52 = .ok (.iconst 1, 1) := dk_4 (dk_at dksX3_compress64k_2 5 rfl rfl)
theorem dX3_compress64k_53 : decode cX3_compress64k 53 = .ok (.getstatic 9, 3) := dk_178 0 9 (dk_at dksX3_compress64k_2 6 rfl rfl)
theorem dX3_compress64k_56 : decode cX3_compress64k 56 = .ok (.ishl, 1) := dk_120 (dk_at dksX3_compress64k_2 9 rfl rfl)
theorem dX3_compress64k_57 : decode cX3_compress64k 57 = .ok (.istore 16, 2) := dk_54 16 (dk_at dksX3_compress64k_2 10 rfl rfl)
theorem dX3_compress64k_59 : decode cX3_compress64k 59 = .ok (.iload 13, 2) := dk_21 13 (dk_at dksX3_compress64k_2 12 rfl rfl)
theorem dX3_compress64k_61 : decode cX3_compress64k 61 = .ok (.istore 9, 2) := dk_54 9 (dk_at dksX3_compress64k_2 14 rfl rfl)
theorem dX3_compress64k_63 : decode cX3_compress64k 63 = .ok (.iload 13, 2) := dk_21 13 (dk_at dksX3_compress64k_2 16 rfl rfl)
theorem dX3_compress64k_65 : decode cX3_compress64k 65 = .ok (.iload 15, 2) := dk_21 15 (dk_at dksX3_compress64k_2 18 rfl rfl)
theorem dX3_compress64k_67 : decode cX3_compress64k 67 = .ok (.iadd, 1) := dk_96 (dk_at dksX3_compress64k_2 20 rfl rfl)
theorem dX3_compress64k_68 : decode cX3_compress64k 68 = .ok (.istore 13, 2) := dk_54 13 (dk_at dksX3_compress64k_2 21 rfl rfl)
theorem dX3_compress64k_70 : decode cX3_compress64k 70 = .ok (.iload 16, 2) := dk_21 16 (dk_at dksX3_compress64k_3 0 rfl rfl)
theorem dX3_compress64k_72 : decode cX3_compress64k 72 = .ok (.iinc 16 1, 3) := dk_132 16 1 (dk_at dksX3_compress64k_3 2 rfl rfl)
theorem dX3_compress64k_75 : decode cX3_compress64k 75 = .ok (.getstatic 9, 3) := dk_178 0 9 (dk_at dksX3_compress64k_3 5 rfl rfl)
theorem dX3_compress64k_78 : decode cX3_compress64k 78 = .ok (.iushr, 1) := dk_124 (dk_at dksX3_compress64k_3 8 rfl rfl)
theorem dX3_compress64k_79 : decode cX3_compress64k 79 = .ok (.istore 15, 2) := dk_54 15 (dk_at dksX3_compress64k_3 9 rfl rfl)
theorem dX3_compress64k_81 : decode cX3_compress64k 81 = .ok (.iload 13, 2) := dk_21 13 (dk_at dksX3_compress64k_3 11 rfl rfl)
theorem dX3_compress64k_83 : decode cX3_compress64k 83 = .ok (.iload 8, 2) := dk_21 8 (dk_at dksX3_compress64k_3 13 rfl rfl)
theorem dX3_compress64k_85 : decode cX3_compress64k 85 = .ok (.if_icmp .le 6, 3) := dk_164 0 6 (dk_at dksX3_compress64k_3 15 rfl rfl)
theorem dX3_compress64k_88 : decode cX3_compress64k 88 = .ok (.goto 411, 3) := dk_167 1 155 (dk_at dksX3_compress64k_3 18 rfl rfl)
theorem dX3_compress64k_91 : decode cX3_compress64k 91 = .ok (.aload_n 0, 1) := dk_42 (dk_at dksX3_compress64k_3 21 rfl rfl)
theorem dX3_compress64k_92 : decode cX3_compress64k 92 = .ok (.iload 9, 2) := dk_21 9 (dk_at dksX3_compress64k_3 22 rfl rfl)
theorem dX3_compress64k_94 : decode cX3_compress64k 94 = .ok (.invokestatic 13, 3) := dk_184 0 13 (dk_at dksX3_compress64k_4 0 rfl rfl)
theorem dX3_compress64k_97 : decode cX3_compress64k 97 = .ok (.invokestatic 19, 3) := dk_184 0 19 (dk_at dksX3_compress64k_4 3 rfl rfl)
theorem dX3_compress64k_100 : decode cX3_compress64k 100 = .ok (.istore 17, 2) := dk_54 17 (dk_at dksX3_compress64k_4 6 rfl rfl)
theorem dX3_compress64k_102 : decode cX3_compress64k 102 = .ok (.iload_n 1, 1) := dk_27 (dk_at dksX3_compress64k_4 8 rfl rfl)
theorem dX3_compress64k_103 : decode cX3_compress64k 103 = .ok (.aload 12, 2) := dk_25 12 (dk_at dksX3_compress64k_4 9 rfl rfl)
theorem dX3_compress64k_105 : decode cX3_compress64k 105 = .ok (.iload 17, 2) := dk_21 17 (dk_at dksX3_compress64k_4 11 rfl rfl)
theorem dX3_compress64k_107 : decode cX3_compress64k 107 = .ok (.invokestatic 25, 3) := dk_184 0 25 (dk_at dksX3_compress64k_4 13 rfl rfl)
theorem dX3_compress64k_110 : decode cX3_compress64k 110 = .ok (.iadd, 1) := dk_96 (dk_at dksX3_compress64k_4 16 rfl rfl)
theorem dX3_compress64k_111 : decode cX3_compress64k 111 = .ok (.istore 14, 2) := dk_54 14 (dk_at dksX3_compress64k_4 17 rfl rfl)
theorem dX3_compress64k_113 : decode cX3_compress64k 113 = .ok (.aload 12, 2) := dk_25 12 (dk_at dksX3_compress64k_4 19 rfl rfl)
theorem dX3_compress64k_115 : decode cX3_compress64k 115 = .ok (.iload 17, 2) := dk_21 17 (dk_at dksX3_compress64k_4 21 rfl rfl)
theorem dX3_compress64k_117 : decode cX3_compress64k 117 = .ok (.iload 9, 2) := dk_21 9 (dk_at dksX3_compress64k_5 0 rfl rfl)
theorem dX3_compress64k_119 : decode cX3_compress64k 119 = .ok (.iload_n 1, 1) := dk_27 (dk_at dksX3_compress64k_5 2 rfl rfl)
theorem dX3_compress64k_120 : decode cX3_compress64k 120 = .ok (.isub, 1) := dk_100 (dk_at dksX3_compress64k_5 3 rfl rfl)
theorem dX3_compress64k_121 : decode cX3_compress64k 121 = .ok (.invokestatic 29, 3) := dk_184 0 29 (dk_at dksX3_compress64k_5 4 rfl rfl)
theorem dX3_compress64k_124 : decode cX3_compress64k 124 = .ok (.aload_n 0, 1) := dk_42 (dk_at dksX3_compress64k_5 7 rfl rfl)
theorem dX3_compress64k_125 : decode cX3_compress64k 125 = .ok (.iload 14, 2) := dk_21 14 (dk_at dksX3_compress64k_5 8 rfl rfl)
theorem dX3_compress64k_127 : decode cX3_compress64k 127 = .ok (.iload 9, 2) := dk_21 9 (dk_at dksX3_compress64k_5 10 rfl rfl)
theorem dX3_compress64k_129 : decode cX3_compress64k 129 = .ok (.invokestatic 33, 3) := dk_184 0 33 (dk_at dksX3_compress64k_5 12 rfl rfl)
theorem dX3_compress64k_132 : decode cX3_compress64k 132 = .ok (.ifCond .eq (-73), 3) := dk_153 255 183 (dk_at dksX3_compress64k_5 15 rfl rfl)
theorem dX3_compress64k_135 : decode cX3_compress64k 135 = .ok (.aload_n 0, 1) := dk_42 (dk_at dksX3_compress64k_5 18 rfl rfl)
theorem dX3_compress64k_136 : decode cX3_compress64k 136 = .ok (.iload 14, 2) := dk_21 14 (dk_at dksX3_compress64k_5 19 rfl rfl)
theorem dX3_compress64k_138 : decode cX3_compress64k 138 = .ok (.iload 9, 2) := dk_21 9 (dk_at dksX3_compress64k_5 21 rfl rfl)
theorem dX3_compress64k_140 : decode cX3_compress64k 140 = .ok (.iload_n 1, 1) := dk_27 (dk_at dksX3_compress64k_5 23 rfl rfl)
theorem dX3_compress64k_141 : decode cX3_compress64k 141 = .ok (.iload 11, 2) := dk_21 11 (dk_at dksX3_compress64k_6 0 rfl rfl)
theorem dX3_compress64k_143 : decode cX3_compress64k 143 = .ok (.invokestatic 39, 3) := dk_184 0 39 (dk_at dksX3_compress64k_6 2 rfl rfl)
theorem dX3_compress64k_146 : decode cX3_compress64k 146 = .ok (.istore 17, 2) := dk_54 17 (dk_at dksX3_compress64k_6 5 rfl rfl)
theorem dX3_compress64k_148 : decode cX3_compress64k 148 = .ok (.iload 9, 2) := dk_21 9 (dk_at dksX3_compress64k_6 7 rfl rfl)
theorem dX3_compress64k_150 : decode cX3_compress64k 150 = .ok (.iload 17, 2) := dk_21 17 (dk_at dksX3_compress64k_6 9 rfl rfl)
theorem dX3_compress64k_152 : decode cX3_compress64k 152 = .ok (.isub, 1) := dk_100 (dk_at dksX3_compress64k_6 11 rfl rfl)
theorem dX3_compress64k_153 : decode cX3_compress64k 153 = .ok (.istore 9, 2) := dk_54 9 (dk_at dksX3_compress64k_6 12 rfl rfl)
theorem dX3_compress64k_155 : decode cX3_compress64k 155 = .ok (.iload 14, 2) := dk_21 14 (dk_at dksX3_compress64k_6 14 rfl rfl)
theorem dX3_compress64k_157 : decode cX3_compress64k 157 = .ok (.iload 17, 2) := dk_21 17 (dk_at dksX3_compress64k_6 16 rfl rfl)
theorem dX3_compress64k_159 : decode cX3_compress64k 159 = .ok (.isub, 1) := dk_100 (dk_at dksX3_compress64k_6 18 rfl rfl)
theorem dX3_compress64k_160 : decode cX3_compress64k 160 = .ok (.istore 14, 2) := dk_54 14 (dk_at dksX3_compress64k_6 19 rfl rfl)
theorem dX3_compress64k_162 : decode cX3_compress64k 162 = .ok (.iload 9, 2) := dk_21 9 (dk_at dksX3_compress64k_6 21 rfl rfl)
theorem dX3_compress64k_164 : decode cX3_compress64k 164 = .ok (.iload 11, 2) := dk_21 11 (dk_at dksX3_compress64k_7 0 rfl rfl)
theorem dX3_compress64k_166 : decode cX3_compress64k 166 = .ok (.isub, 1) := dk_100 (dk_at dksX3_compress64k_7 2 rfl rfl)
theorem dX3_compress64k_167 : decode cX3_compress64k 167 = .ok (.istore 18, 2) := dk_54 18 (dk_at dksX3_compress64k_7 3 rfl rfl)
theorem dX3_compress64k_169 : decode cX3_compress64k 169 = .ok (.iload 10, 2) := dk_21 10 (dk_at dksX3_compress64k_7 5 rfl rfl)
theorem dX3_compress64k_171 : decode cX3_compress64k 171 = .ok (.iinc 10 1, 3) := dk_132 10 1 (dk_at dksX3_compress64k_7 7 rfl rfl)
theorem dX3_compress64k_174 : decode cX3_compress64k 174 = .ok (.istore 19, 2) := dk_54 19 (dk_at dksX3_compress64k_7 10 rfl rfl)
theorem dX3_compress64k_176 : decode cX3_compress64k 176 = .ok (.iload 5, 2) := dk_21 5 (dk_at dksX3_compress64k_7 12 rfl rfl)
theorem dX3_compress64k_178 : decode cX3_compress64k 178 = .ok (.iload 10, 2) := dk_21 10 (dk_at dksX3_compress64k_7 14 rfl rfl)
theorem dX3_compress64k_180 : decode cX3_compress64k 180 = .ok (.isub, 1) := dk_100 (dk_at dksX3_compress64k_7 16 rfl rfl)
theorem dX3_compress64k_181 : decode cX3_compress64k 181 = .ok (.iload 18, 2) := dk_21 18 (dk_at dksX3_compress64k_7 17 rfl rfl)
theorem dX3_compress64k_183 : decode cX3_compress64k 183 = .ok (.iconst 0, 1) := dk_3 (dk_at dksX3_compress64k_7 19 rfl rfl)
theorem dX3_compress64k_184 : decode cX3_compress64k 184 = .ok (.invokestatic 43, 3) := dk_184 0 43 (dk_at dksX3_compress64k_7 20 rfl rfl)
theorem dX3_compress64k_187 : decode cX3_compress64k 187 = .ok (.iconst 1, 1) := dk_4 (dk_at dksX3_compress64k_7 23 rfl rfl)
theorem dX3_compress64k_188 : decode cX3_compress64k 188 = .ok (.iadd, 1) := dk_96 (dk_at dksX3_compress64k_8 0 rfl rfl)
theorem dX3_compress64k_189 : decode cX3_compress64k 189 = .ok (.iconst 5, 1) := dk_8 (dk_at dksX3_compress64k_8 1 rfl rfl)
theorem dX3_compress64k_190 : decode cX3_compress64k 190 = .ok (.iadd, 1) := dk_96 (dk_at dksX3_compress64k_8 2 rfl rfl)
theorem dX3_compress64k_191 : decode cX3_compress64k 191 = .ok (.invokestatic 47, 3) := dk_184 0 47 (dk_at dksX3_compress64k_8 3 rfl rfl)
theorem dX3_compress64k_194 : decode cX3_compress64k 194 = .ok (.ifCond .eq 13, 3) := dk_153 0 13 (dk_at dksX3_compress64k_8 6 rfl rfl)
theorem dX3_compress64k_197 : decode cX3_compress64k 197 = .ok (.new 51, 3) := dk_187 0 51 (dk_at dksX3_compress64k_8 9 rfl rfl)
theorem dX3_compress64k_200 : decode cX3_compress64k 200 = .ok (.dup, 1) := dk_89 (dk_at dksX3_compress64k_8 12 rfl rfl)
theorem dX3_compress64k_201 : decode cX3_compress64k 201 = .ok (.ldc 53, 2) := dk_18 53 (dk_at dksX3_compress64k_8 13 rfl rfl)
theorem dX3_compress64k_203 : decode cX3_compress64k 203 = .ok (.invokespecial 55, 3) := dk_183 0 55 (dk_at dksX3_compress64k_8 15 rfl rfl)
theorem dX3_compress64k_206 : decode cX3_compress64k 206 = .ok (.athrow, 1) := dk_191 (dk_at dksX3_compress64k_8 18 rfl rfl)
theorem dX3_compress64k_207 : decode cX3_compress64k 207 = .ok (.iload 18, 2) := dk_21 18 (dk_at dksX3_compress64k_8 19 rfl rfl)
theorem dX3_compress64k_209 : decode cX3_compress64k 209 = .ok (.bipush 15, 2) := dk_16 15 (dk_at dksX3_compress64k_8 21 rfl rfl)
theorem dX3_compress64k_211 : decode cX3_compress64k 211 = .ok (.if_icmp .lt 28, 3) := dk_161 0 28 (dk_at dksX3_compress64k_9 0 rfl rfl)
theorem dX3_compress64k_214 : decode cX3_compress64k 214 = .ok (.aload_n 3, 1) := dk_45 (dk_at dksX3_compress64k_9 3 rfl rfl)
theorem dX3_compress64k_215 : decode cX3_compress64k 215 = .ok (.iload 19, 2) := dk_21 19 (dk_at dksX3_compress64k_9 4 rfl rfl)
theorem dX3_compress64k_217 : decode cX3_compress64k 217 = .ok (.sipush 240, 3) := dk_17 0 240 (dk_at dksX3_compress64k_9 6 rfl rfl)
theorem dX3_compress64k_220 : decode cX3_compress64k 220 = .ok (.invokestatic 58, 3) := dk_184 0 58 (dk_at dksX3_compress64k_9 9 rfl rfl)
theorem dX3_compress64k_223 : decode cX3_compress64k 223 = .ok (.iload 18, 2) := dk_21 18 (dk_at dksX3_compress64k_9 12 rfl rfl)
theorem dX3_compress64k_225 : decode cX3_compress64k 225 = .ok (.bipush 15, 2) := dk_16 15 (dk_at dksX3_compress64k_9 14 rfl rfl)
theorem dX3_compress64k_227 : decode cX3_compress64k 227 = .ok (.isub, 1) := dk_100 (dk_at dksX3_compress64k_9 16 rfl rfl)
theorem dX3_compress64k_228 : decode cX3_compress64k 228 = .ok (.aload_n 3, 1) := dk_45 (dk_at dksX3_compress64k_9 17 rfl rfl)
theorem dX3_compress64k_229 : decode cX3_compress64k 229 = .ok (.iload 10, 2) := dk_21 10 (dk_at dksX3_compress64k_9 18 rfl rfl)
theorem dX3_compress64k_231 : decode cX3_compress64k 231 = .ok (.invokestatic 62, 3) := dk_184 0 62 (dk_at dksX3_compress64k_9 20 rfl rfl)
theorem dX3_compress64k_234 : decode cX3_compress64k 234 = .ok (.istore 10, 2) := dk_54 10 (dk_at dksX3_compress64k_10 0 rfl rfl)
theorem dX3_compress64k_236 : decode cX3_compress64k 236 = .ok (.goto 13, 3) := dk_167 0 13 (dk_at dksX3_compress64k_10 2 rfl rfl)
theorem dX3_compress64k_239 : decode cX3_compress64k 239 = .ok (.aload_n 3, 1) := dk_45 (dk_at dksX3_compress64k_10 5 rfl rfl)
theorem dX3_compress64k_240 : decode cX3_compress64k 240 = .ok (.iload 19, 2) := dk_21 19 (dk_at dksX3_compress64k_10 6 rfl rfl)
theorem dX3_compress64k_242 : decode cX3_compress64k 242 = .ok (.iload 18, 2) := dk_21 18 (dk_at dksX3_compress64k_10 8 rfl rfl)
theorem dX3_compress64k_244 : decode cX3_compress64k 244 = .ok (.iconst 4, 1) := dk_7 (dk_at dksX3_compress64k_10 10 rfl rfl)
theorem dX3_compress64k_245 : decode cX3_compress64k 245 = .ok (.ishl, 1) := dk_120 (dk_at dksX3_compress64k_10 11 rfl rfl)
theorem dX3_compress64k_246 : decode cX3_compress64k 246 = .ok (.invokestatic 58, 3) := dk_184 0 58 (dk_at dksX3_compress64k_10 12 rfl rfl)
theorem dX3_compress64k_249 : decode cX3_compress64k 249 = .ok (.aload_n 0, 1) := dk_42 (dk_at dksX3_compress64k_10 15 rfl rfl)
theorem dX3_compress64k_250 : decode cX3_compress64k 250 = .ok (.iload 11, 2) := dk_21 11 (dk_at dksX3_compress64k_10 16 rfl rfl)
theorem dX3_compress64k_252 : decode cX3_compress64k 252 = .ok (.aload_n 3, 1) := dk_45 (dk_at dksX3_compress64k_10 18 rfl rfl)
theorem dX3_compress64k_253 : decode cX3_compress64k 253 = .ok (.iload 10, 2) := dk_21 10 (dk_at dksX3_compress64k_10 19 rfl rfl)
theorem dX3_compress64k_255 : decode cX3_compress64k 255 = .ok (.iload 18, 2) := dk_21 18 (dk_at dksX3_compress64k_10 21 rfl rfl)
theorem dX3_compress64k_257 : decode cX3_compress64k 257 = .ok (.invokestatic 66, 3) := dk_184 0 66 (dk_at dksX3_compress64k_11 0 rfl rfl)
theorem dX3_compress64k_260 : decode cX3_compress64k 260 = .ok (.iload 10, 2) := dk_21 10 (dk_at dksX3_compress64k_11 3 rfl rfl)
theorem dX3_compress64k_262 : decode cX3_compress64k 262 = .ok (.iload 18, 2) := dk_21 18 (dk_at dksX3_compress64k_11 5 rfl rfl)
theorem dX3_compress64k_264 : decode cX3_compress64k 264 = .ok (.iadd, 1) := dk_96 (dk_at dksX3_compress64k_11 7 rfl rfl)
theorem dX3_compress64k_265 : decode cX3_compress64k 265 = .ok (.istore 10, 2) := dk_54 10 (dk_at dksX3_compress64k_11 8 rfl rfl)
theorem dX3_compress64k_267 : decode cX3_compress64k 267 = .ok (.aload_n 3, 1) := dk_45 (dk_at dksX3_compress64k_11 10 rfl rfl)
theorem dX3_compress64k_268 : decode cX3_compress64k 268 = .ok (.iload 10, 2) := dk_21 10 (dk_at dksX3_compress64k_11 11 rfl rfl)
theorem dX3_compress64k_270 : decode cX3_compress64k 270 = .ok (.iload 9, 2) := dk_21 9 (dk_at dksX3_compress64k_11 13 rfl rfl)
theorem dX3_compress64k_272 : decode cX3_compress64k 272 = .ok (.iload 14, 2) := dk_21 14 (dk_at dksX3_compress64k_11 15 rfl rfl)
theorem dX3_compress64k_274 : decode cX3_compress64k 274 = .ok (.isub, 1) := dk_100 (dk_at dksX3_compress64k_11 17 rfl rfl)
theorem dX3_compress64k_275 : decode cX3_compress64k 275 = .ok (.i2s, 1) := dk_147 (dk_at dksX3_compress64k_11 18 rfl rfl)
theorem dX3_compress64k_276 : decode cX3_compress64k 276 = .ok (.invokestatic 70, 3) := dk_184 0 70 (dk_at dksX3_compress64k_11 19 rfl rfl)
theorem dX3_compress64k_279 : decode cX3_compress64k 279 = .ok (.iinc 10 2, 3) := dk_132 10 2 (dk_at dksX3_compress64k_12 0 rfl rfl)
theorem dX3_compress64k_282 : decode cX3_compress64k 282 = .ok (.iinc 9 4, 3) := dk_132 9 4 (dk_at dksX3_compress64k_12 3 rfl rfl)
theorem dX3_compress64k_285 : decode cX3_compress64k 285 = .ok (.iinc 14 4, 3) := dk_132 14 4 (dk_at dksX3_compress64k_12 6 rfl rfl)
theorem dX3_compress64k_288 : decode cX3_compress64k 288 = .ok (.aload_n 0, 1) := dk_42 (dk_at dksX3_compress64k_12 9 rfl rfl)
theorem dX3_compress64k_289 : decode cX3_compress64k 289 = .ok (.iload 14, 2) := dk_21 14 (dk_at dksX3_compress64k_12 10 rfl rfl)
theorem dX3_compress64k_291 : decode cX3_compress64k 291 = .ok (.iload 9, 2) := dk_21 9 (dk_at dksX3_compress64k_12 12 rfl rfl)
theorem dX3_compress64k_293 : decode cX3_compress64k 293 = .ok (.iload 7, 2) := dk_21 7 (dk_at dksX3_compress64k_12 14 rfl rfl)
theorem dX3_compress64k_295 : decode cX3_compress64k 295 = .ok (.invokestatic 73, 3) := dk_184 0 73 (dk_at dksX3_compress64k_12 16 rfl rfl)
theorem dX3_compress64k_298 : decode cX3_compress64k 298 = .ok (.istore 20, 2) := dk_54 20 (dk_at dksX3_compress64k_12 19 rfl rfl)
theorem dX3_compress64k_300 : decode cX3_compress64k 300 = .ok (.iload 5, 2) := dk_21 5 (dk_at dksX3_compress64k_12 21 rfl rfl)
theorem dX3_compress64k_302 : decode cX3_compress64k 302 = .ok (.iload 10, 2) := dk_21 10 (dk_at dksX3_compress64k_13 0 rfl rfl)
theorem dX3_compress64k_304 : decode cX3_compress64k 304 = .ok (.isub, 1) := dk_100 (dk_at dksX3_compress64k_13 2 rfl rfl)
theorem dX3_compress64k_305 : decode cX3_compress64k 305 = .ok (.bipush 6, 2) := dk_16 6 (dk_at dksX3_compress64k_13 3 rfl rfl)
theorem dX3_compress64k_307 : decode cX3_compress64k 307 = .ok (.iload 20, 2) := dk_21 20 (dk_at dksX3_compress64k_13 5 rfl rfl)
theorem dX3_compress64k_309 : decode cX3_compress64k 309 = .ok (.invokestatic 77, 3) := dk_184 0 77 (dk_at dksX3_compress64k_13 7 rfl rfl)
theorem dX3_compress64k_312 : decode cX3_compress64k 312 = .ok (.iadd, 1) := dk_96 (dk_at dksX3_compress64k_13 10 rfl rfl)
theorem dX3_compress64k_313 : decode cX3_compress64k 313 = .ok (.invokestatic 47, 3) := dk_184 0 47 (dk_at dksX3_compress64k_13 11 rfl rfl)
theorem dX3_compress64k_316 : decode cX3_compress64k 316 = .ok (.ifCond .eq 13, 3) := dk_153 0 13 (dk_at dksX3_compress64k_13 14 rfl rfl)
theorem dX3_compress64k_319 : decode cX3_compress64k 319 = .ok (.new 51, 3) := dk_187 0 51 (dk_at dksX3_compress64k_13 17 rfl rfl)
theorem dX3_compress64k_322 : decode cX3_compress64k 322 = .ok (.dup, 1) := dk_89 (dk_at dksX3_compress64k_13 20 rfl rfl)
theorem dX3_compress64k_323 : decode cX3_compress64k 323 = .ok (.ldc 53, 2) := dk_18 53 (dk_at dksX3_compress64k_13 21 rfl rfl)
theorem dX3_compress64k_325 : decode cX3_compress64k 325 = .ok (.invokespecial 55, 3) := dk_183 0 55 (dk_at dksX3_compress64k_14 0 rfl rfl)
theorem dX3_compress64k_328 : decode cX3_compress64k 328 = .ok (.athrow, 1) := dk_191 (dk_at dksX3_compress64k_14 3 rfl rfl)
theorem dX3_compress64k_329 : decode cX3_compress64k 329 = .ok (.iload 9, 2) := dk_21 9 (dk_at dksX3_compress64k_14 4 rfl rfl)
theorem dX3_compress64k_331 : decode cX3_compress64k 331 = .ok (.iload 20, 2) := dk_21 20 (dk_at dksX3_compress64k_14 6 rfl rfl)
theorem dX3_compress64k_333 : decode cX3_compress64k 333 = .ok (.iadd, 1) := dk_96 (dk_at dksX3_compress64k_14 8 rfl rfl)
theorem dX3_compress64k_334 : decode cX3_compress64k 334 = .ok (.istore 9, 2) := dk_54 9 (dk_at dksX3_compress64k_14 9 rfl rfl)
theorem dX3_compress64k_336 : decode cX3_compress64k 336 = .ok (.iload 20, 2) := dk_21 20 (dk_at dksX3_compress64k_14 11 rfl rfl)
theorem dX3_compress64k_338 : decode cX3_compress64k 338 = .ok (.bipush 15, 2) := dk_16 15 (dk_at dksX3_compress64k_14 13 rfl rfl)
theorem dX3_compress64k_340 : decode cX3_compress64k 340 = .ok (.if_icmp .lt 34, 3) := dk_161 0 34 (dk_at dksX3_compress64k_14 15 rfl rfl)
theorem dX3_compress64k_343 : decode cX3_compress64k 343 = .ok (.aload_n 3, 1) := dk_45 (dk_at dksX3_compress64k_14 18 rfl rfl)
theorem dX3_compress64k_344 : decode cX3_compress64k 344 = .ok (.iload 19, 2) := dk_21 19 (dk_at dksX3_compress64k_14 19 rfl rfl)
theorem dX3_compress64k_346 : decode cX3_compress64k 346 = .ok (.aload_n 3, 1) := dk_45 (dk_at dksX3_compress64k_14 21 rfl rfl)
theorem dX3_compress64k_347 : decode cX3_compress64k 347 = .ok (.iload 19, 2) := dk_21 19 (dk_at dksX3_compress64k_14 22 rfl rfl)
theorem dX3_compress64k_349 : decode cX3_compress64k 349 = .ok (.invokestatic 80, 3) := dk_184 0 80 (dk_at dksX3_compress64k_15 0 rfl rfl)
theorem dX3_compress64k_352 : decode cX3_compress64k 352 = .ok (.bipush 15, 2) := dk_16 15 (dk_at dksX3_compress64k_15 3 rfl rfl)
theorem dX3_compress64k_354 : decode cX3_compress64k 354 = .ok (.ior, 1) := dk_128 (dk_at dksX3_compress64k_15 5 rfl rfl)
theorem dX3_compress64k_355 : decode cX3_compress64k 355 = .ok (.invokestatic 58, 3) := dk_184 0 58 (dk_at dksX3_compress64k_15 6 rfl rfl)
theorem dX3_compress64k_358 : decode cX3_compress64k 358 = .ok (.iload 20, 2) := dk_21 20 (dk_at dksX3_compress64k_15 9 rfl rfl)
theorem dX3_compress64k_360 : decode cX3_compress64k 360 = .ok (.bipush 15, 2) := dk_16 15 (dk_at dksX3_compress64k_15 11 rfl rfl)
theorem dX3_compress64k_362 : decode cX3_compress64k 362 = .ok (.isub, 1) := dk_100 (dk_at dksX3_compress64k_15 13 rfl rfl)
theorem dX3_compress64k_363 : decode cX3_compress64k 363 = .ok (.aload_n 3, 1) := dk_45 (dk_at dksX3_compress64k_15 14 rfl rfl)
theorem dX3_compress64k_364 : decode cX3_compress64k 364 = .ok (.iload 10, 2) := dk_21 10 (dk_at dksX3_compress64k_15 15 rfl rfl)
theorem dX3_compress64k_366 : decode cX3_compress64k 366 = .ok (.invokestatic 62, 3) := dk_184 0 62 (dk_at dksX3_compress64k_15 17 rfl rfl)
theorem dX3_compress64k_369 : decode cX3_compress64k 369 = .ok (.istore 10, 2) := dk_54 10 (dk_at dksX3_compress64k_15 20 rfl rfl)
theorem dX3_compress64k_371 : decode cX3_compress64k 371 = .ok (.goto 18, 3) := dk_167 0 18 (dk_at dksX3_compress64k_16 0 rfl rfl)
theorem dX3_compress64k_374 : decode cX3_compress64k 374 = .ok (.aload_n 3, 1) := dk_45 (dk_at dksX3_compress64k_16 3 rfl rfl)
theorem dX3_compress64k_375 : decode cX3_compress64k 375 = .ok (.iload 19, 2) := dk_21 19 (dk_at dksX3_compress64k_16 4 rfl rfl)
theorem dX3_compress64k_377 : decode cX3_compress64k 377 = .ok (.aload_n 3, 1) := dk_45 (dk_at dksX3_compress64k_16 6 rfl rfl)
theorem dX3_compress64k_378 : decode cX3_compress64k 378 = .ok (.iload 19, 2) := dk_21 19 (dk_at dksX3_compress64k_16 7 rfl rfl)
theorem dX3_compress64k_380 : decode cX3_compress64k 380 = .ok (.invokestatic 80, 3) := dk_184 0 80 (dk_at dksX3_compress64k_16 9 rfl rfl)
theorem dX3_compress64k_383 : decode cX3_compress64k 383 = .ok (.iload 20, 2) := dk_21 20 (dk_at dksX3_compress64k_16 12 rfl rfl)
theorem dX3_compress64k_385 : decode cX3_compress64k 385 = .ok (.ior, 1) := dk_128 (dk_at dksX3_compress64k_16 14 rfl rfl)
theorem dX3_compress64k_386 : decode cX3_compress64k 386 = .ok (.invokestatic 58, 3) := dk_184 0 58 (dk_at dksX3_compress64k_16 15 rfl rfl)
theorem dX3_compress64k_389 : decode cX3_compress64k 389 = .ok (.iload 9, 2) := dk_21 9 (dk_at dksX3_compress64k_16 18 rfl rfl)
theorem dX3_compress64k_391 : decode cX3_compress64k 391 = .ok (.iload 8, 2) := dk_21 8 (dk_at dksX3_compress64k_16 20 rfl rfl)
theorem dX3_compress64k_393 : decode cX3_compress64k 393 = .ok (.if_icmp .le 10, 3) := dk_164 0 10 (dk_at dksX3_compress64k_17 0 rfl rfl)
theorem dX3_compress64k_396 : decode cX3_compress64k 396 = .ok (.iload 9, 2) := dk_21 9 (dk_at dksX3_compress64k_17 3 rfl rfl)
theorem dX3_compress64k_398 : decode cX3_compress64k 398 = .ok (.istore 11, 2) := dk_54 11 (dk_at dksX3_compress64k_17 5 rfl rfl)
theorem dX3_compress64k_400 : decode cX3_compress64k 400 = .ok (.goto 99, 3) := dk_167 0 99 (dk_at dksX3_compress64k_17 7 rfl rfl)
theorem dX3_compress64k_403 : decode cX3_compress64k 403 = .ok (.aload 12, 2) := dk_25 12 (dk_at dksX3_compress64k_17 10 rfl rfl)
theorem dX3_compress64k_405 : decode cX3_compress64k 405 = .ok (.aload_n 0, 1) := dk_42 (dk_at dksX3_compress64k_17 12 rfl rfl)
theorem dX3_compress64k_406 : decode cX3_compress64k 406 = .ok (.iload 9, 2) := dk_21 9 (dk_at dksX3_compress64k_17 13 rfl rfl)
theorem dX3_compress64k_408 : decode cX3_compress64k 408 = .ok (.iconst 2, 1) := dk_5 (dk_at dksX3_compress64k_17 15 rfl rfl)
theorem dX3_compress64k_409 : decode cX3_compress64k 409 = .ok (.isub, 1) := dk_100 (dk_at dksX3_compress64k_17 16 rfl rfl)
theorem dX3_compress64k_410 : decode cX3_compress64k 410 = .ok (.invokestatic 13, 3) := dk_184 0 13 (dk_at dksX3_compress64k_17 17 rfl rfl)
theorem dX3_compress64k_413 : decode cX3_compress64k 413 = .ok (.invokestatic 19, 3) := dk_184 0 19 (dk_at dksX3_compress64k_17 20 rfl rfl)
theorem dX3_compress64k_416 : decode cX3_compress64k 416 = .ok (.iload 9, 2) := dk_21 9 (dk_at dksX3_compress64k_18 0 rfl rfl)
theorem dX3_compress64k_418 : decode cX3_compress64k 418 = .ok (.iconst 2, 1) := dk_5 (dk_at dksX3_compress64k_18 2 rfl rfl)
theorem dX3_compress64k_419 : decode cX3_compress64k 419 = .ok (.isub, 1) := dk_100 (dk_at dksX3_compress64k_18 3 rfl rfl)
theorem dX3_compress64k_420 : decode cX3_compress64k 420 = .ok (.iload_n 1, 1) := dk_27 (dk_at dksX3_compress64k_18 4 rfl rfl)
theorem dX3_compress64k_421 : decode cX3_compress64k 421 = .ok (.isub, 1) := dk_100 (dk_at dksX3_compress64k_18 5 rfl rfl)
theorem dX3_compress64k_422 : decode cX3_compress64k 422 = .ok (.invokestatic 29, 3) := dk_184 0 29 (dk_at dksX3_compress64k_18 6 rfl rfl)
theorem dX3_compress64k_425 : decode cX3_compress64k 425 = .ok (.aload_n 0, 1) := dk_42 (dk_at dksX3_compress64k_18 9 rfl rfl)
theorem dX3_compress64k_426 : decode cX3_compress64k 426 = .ok (.iload 9, 2) := dk_21 9 (dk_at dksX3_compress64k_18 10 rfl rfl)
theorem dX3_compress64k_428 : decode cX3_compress64k 428 = .ok (.invokestatic 13, 3) := dk_184 0 13 (dk_at dksX3_compress64k_18 12 rfl rfl)
theorem dX3_compress64k_431 : decode cX3_compress64k 431 = .ok (.invokestatic 19, 3) := dk_184 0 19 (dk_at dksX3_compress64k_18 15 rfl rfl)
theorem dX3_compress64k_434 : decode cX3_compress64k 434 = .ok (.istore 21, 2) := dk_54 21 (dk_at dksX3_compress64k_18 18 rfl rfl)
theorem dX3_compress64k_436 : decode cX3_compress64k 436 = .ok (.iload_n 1, 1) := dk_27 (dk_at dksX3_compress64k_18 20 rfl rfl)
theorem dX3_compress64k_437 : decode cX3_compress64k 437 = .ok (.aload 12, 2) := dk_25 12 (dk_at dksX3_compress64k_18 21 rfl rfl)
theorem dX3_compress64k_439 : decode cX3_compress64k 439 = .ok (.iload 21, 2) := dk_21 21 (dk_at dksX3_compress64k_19 0 rfl rfl)
theorem dX3_compress64k_441 : decode cX3_compress64k 441 = .ok (.invokestatic 25, 3) := dk_184 0 25 (dk_at dksX3_compress64k_19 2 rfl rfl)
theorem dX3_compress64k_444 : decode cX3_compress64k 444 = .ok (.iadd, 1) := dk_96 (dk_at dksX3_compress64k_19 5 rfl rfl)
theorem dX3_compress64k_445 : decode cX3_compress64k 445 = .ok (.istore 14, 2) := dk_54 14 (dk_at dksX3_compress64k_19 6 rfl rfl)
theorem dX3_compress64k_447 : decode cX3_compress64k 447 = .ok (.aload 12, 2) := dk_25 12 (dk_at dksX3_compress64k_19 8 rfl rfl)
theorem dX3_compress64k_449 : decode cX3_compress64k 449 = .ok (.iload 21, 2) := dk_21 21 (dk_at dksX3_compress64k_19 10 rfl rfl)
theorem dX3_compress64k_451 : decode cX3_compress64k 451 = .ok (.iload 9, 2) := dk_21 9 (dk_at dksX3_compress64k_19 12 rfl rfl)
theorem dX3_compress64k_453 : decode cX3_compress64k 453 = .ok (.iload_n 1, 1) := dk_27 (dk_at dksX3_compress64k_19 14 rfl rfl)
theorem dX3_compress64k_454 : decode cX3_compress64k 454 = .ok (.isub, 1) := dk_100 (dk_at dksX3_compress64k_19 15 rfl rfl)
theorem dX3_compress64k_455 : decode cX3_compress64k 455 = .ok (.invokestatic 29, 3) := dk_184 0 29 (dk_at dksX3_compress64k_19 16 rfl rfl)
theorem dX3_compress64k_458 : decode cX3_compress64k 458 = .ok (.aload_n 0, 1) := dk_42 (dk_at dksX3_compress64k_19 19 rfl rfl)
theorem dX3_compress64k_459 : decode cX3_compress64k 459 = .ok (.iload 9, 2) := dk_21 9 (dk_at dksX3_compress64k_19 20 rfl rfl)
theorem dX3_compress64k_461 : decode cX3_compress64k 461 = .ok (.iload 14, 2) := dk_21 14 (dk_at dksX3_compress64k_19 22 rfl rfl)
theorem dX3_compress64k_463 : decode cX3_compress64k 463 = .ok (.invokestatic 33, 3) := dk_184 0 33 (dk_at dksX3_compress64k_20 0 rfl rfl)
theorem dX3_compress64k_466 : decode cX3_compress64k 466 = .ok (.ifCond .ne 6, 3) := dk_154 0 6 (dk_at dksX3_compress64k_20 3 rfl rfl)
theorem dX3_compress64k_469 : decode cX3_compress64k 469 = .ok (.goto 20, 3) := dk_167 0 20 (dk_at dksX3_compress64k_20 6 rfl rfl)
theorem dX3_compress64k_472 : decode cX3_compress64k 472 = .ok (.iload 10, 2) := dk_21 10 (dk_at dksX3_compress64k_20 9 rfl rfl)
theorem dX3_compress64k_474 : decode cX3_compress64k 474 = .ok (.iinc 10 1, 3) := dk_132 10 1 (dk_at dksX3_compress64k_20 11 rfl rfl)
theorem dX3_compress64k_477 : decode cX3_compress64k 477 = .ok (.istore 19, 2) := dk_54 19 (dk_at dksX3_compress64k_20 14 rfl rfl)
theorem dX3_compress64k_479 : decode cX3_compress64k 479 = .ok (.aload_n 3, 1) := dk_45 (dk_at dksX3_compress64k_20 16 rfl rfl)
theorem dX3_compress64k_480 : decode cX3_compress64k 480 = .ok (.iload 19, 2) := dk_21 19 (dk_at dksX3_compress64k_20 17 rfl rfl)
theorem dX3_compress64k_482 : decode cX3_compress64k 482 = .ok (.iconst 0, 1) := dk_3 (dk_at dksX3_compress64k_20 19 rfl rfl)
theorem dX3_compress64k_483 : decode cX3_compress64k 483 = .ok (.invokestatic 58, 3) := dk_184 0 58 (dk_at dksX3_compress64k_20 20 rfl rfl)
theorem dX3_compress64k_486 : decode cX3_compress64k 486 = .ok (.goto (-219), 3) := dk_167 255 37 (dk_at dksX3_compress64k_21 0 rfl rfl)
theorem dX3_compress64k_489 : decode cX3_compress64k 489 = .ok (.iload 9, 2) := dk_21 9 (dk_at dksX3_compress64k_21 3 rfl rfl)
theorem dX3_compress64k_491 : decode cX3_compress64k 491 = .ok (.iinc 9 1, 3) := dk_132 9 1 (dk_at dksX3_compress64k_21 5 rfl rfl)
theorem dX3_compress64k_494 : decode cX3_compress64k 494 = .ok (.istore 11, 2) := dk_54 11 (dk_at dksX3_compress64k_21 8 rfl rfl)
theorem dX3_compress64k_496 : decode cX3_compress64k 496 = .ok (.goto (-451), 3) := dk_167 254 61 (dk_at dksX3_compress64k_21 10 rfl rfl)
theorem dX3_compress64k_499 : decode cX3_compress64k 499 = .ok (.aload_n 0, 1) := dk_42 (dk_at dksX3_compress64k_21 13 rfl rfl)
theorem dX3_compress64k_500 : decode cX3_compress64k 500 = .ok (.iload 11, 2) := dk_21 11 (dk_at dksX3_compress64k_21 14 rfl rfl)
theorem dX3_compress64k_502 : decode cX3_compress64k 502 = .ok (.iload 6, 2) := dk_21 6 (dk_at dksX3_compress64k_21 16 rfl rfl)
theorem dX3_compress64k_504 : decode cX3_compress64k 504 = .ok (.iload 11, 2) := dk_21 11 (dk_at dksX3_compress64k_21 18 rfl rfl)
theorem dX3_compress64k_506 : decode cX3_compress64k 506 = .ok (.isub, 1) := dk_100 (dk_at dksX3_compress64k_21 20 rfl rfl)
theorem dX3_compress64k_507 : decode cX3_compress64k 507 = .ok (.aload_n 3, 1) := dk_45 (dk_at dksX3_compress64k_21 21 rfl rfl)
theorem dX3_compress64k_508 : decode cX3_compress64k 508 = .ok (.iload 10, 2) := dk_21 10 (dk_at dksX3_compress64k_21 22 rfl rfl)
theorem dX3_compress64k_510 : decode cX3_compress64k 510 = .ok (.iload 5, 2) := dk_21 5 (dk_at dksX3_compress64k_22 0 rfl rfl)
theorem dX3_compress64k_512 : decode cX3_compress64k 512 = .ok (.invokestatic 84, 3) := dk_184 0 84 (dk_at dksX3_compress64k_22 2 rfl rfl)
theorem dX3_compress64k_515 : decode cX3_compress64k 515 = .ok (.istore 10, 2) := dk_54 10 (dk_at dksX3_compress64k_22 5 rfl rfl)
theorem dX3_compress64k_517 : decode cX3_compress64k 517 = .ok (.iload 10, 2) := dk_21 10 (dk_at dksX3_compress64k_22 7 rfl rfl)
theorem dX3_compress64k_519 : decode cX3_compress64k 519 = .ok (.iload 4, 2) := dk_21 4 (dk_at dksX3_compress64k_22 9 rfl rfl)
theorem dX3_compress64k_521 : decode cX3_compress64k 521 = .ok (.isub, 1) := dk_100 (dk_at dksX3_compress64k_22 11 rfl rfl)
theorem dX3_compress64k_522 : decode cX3_compress64k 522 = .ok (.ireturn, 1) := dk_172 (dk_at dksX3_compress64k_22 12 rfl rfl)
theorem q5 : (Jvm.Cond.initialized "LZ4JavaSafeCompressor") ∈ lw_all := lw_g (lw_at lw_m1 3 rfl) rfl
theorem q47 : (Jvm.Cond.instantiable "LZ4JavaSafeCompressor" (0 : Nat)) ∈ lw_all := lw_g (lw_at lw_m1 45 rfl) rfl
theorem q49 : (Jvm.Cond.instanceMethod ({ cls := "LZ4JavaSafeCompressor", name := "<init>", desc := "()V" } : Jvm.MethodName)) ∈ lw_all := lw_g (lw_at lw_m1 47 rfl) rfl
theorem q50 : (Jvm.Cond.code ({ cls := "LZ4JavaSafeCompressor", name := "<init>", desc := "()V" } : Jvm.MethodName) prog_6_method_1_code (1 : Nat) (Option.none : Option Jvm.ClassFile.FieldType)) ∈ lw_all := lw_g (lw_at lw_m1 48 rfl) rfl
theorem q51 : (Jvm.Cond.methodLink "LZ4JavaSafeCompressor" (1 : Nat) ({ cls := "LZ4Compressor", name := "<init>", desc := "()V" } : Jvm.MethodName)) ∈ lw_all := lw_g (lw_at lw_m1 49 rfl) rfl
theorem q55 : (Jvm.Cond.superclass "LZ4JavaSafeCompressor" "LZ4Compressor") ∈ lw_all := lw_g (lw_at lw_m1 53 rfl) rfl
theorem q131 : (Jvm.Cond.selects "LZ4JavaSafeCompressor" ({ cls := "LZ4Compressor", name := "compress", desc := "([BII[BII)I" } : Jvm.MethodName) ({ cls := "LZ4JavaSafeCompressor", name := "compress", desc := "([BII[BII)I" } : Jvm.MethodName)) ∈ lw_all := lw_g (lw_at lw_m1 129 rfl) rfl
theorem q132 : (Jvm.Cond.instanceMethod ({ cls := "LZ4JavaSafeCompressor", name := "compress", desc := "([BII[BII)I" } : Jvm.MethodName)) ∈ lw_all := lw_g (lw_at lw_m1 130 rfl) rfl
theorem q133 : (Jvm.Cond.code ({ cls := "LZ4JavaSafeCompressor", name := "compress", desc := "([BII[BII)I" } : Jvm.MethodName) prog_6_method_3_code (25 : Nat) (Option.some Jvm.ClassFile.FieldType.int)) ∈ lw_all := lw_g (lw_at lw_m1 131 rfl) rfl
theorem q134 : (Jvm.Cond.methodLink "LZ4JavaSafeCompressor" (88 : Nat) ({ cls := "SafeUtils", name := "checkRange", desc := "([BII)V" } : Jvm.MethodName)) ∈ lw_all := lw_g (lw_at lw_m1 132 rfl) rfl
theorem q228 : (Jvm.Cond.constant "LZ4JavaSafeCompressor" (91 : Nat) (65547 : Int32)) ∈ lw_all := lw_g (lw_at lw_m1 226 rfl) rfl
theorem q229 : (Jvm.Cond.methodLink "LZ4JavaSafeCompressor" (92 : Nat) ({ cls := "LZ4JavaSafeCompressor", name := "compress64k", desc := "([BII[BII)I" } : Jvm.MethodName)) ∈ lw_all := lw_g (lw_at lw_m1 227 rfl) rfl
theorem q230 : (Jvm.Cond.static ({ cls := "LZ4JavaSafeCompressor", name := "compress64k", desc := "([BII[BII)I" } : Jvm.MethodName)) ∈ lw_all := lw_g (lw_at lw_m1 228 rfl) rfl
theorem q231 : (Jvm.Cond.code ({ cls := "LZ4JavaSafeCompressor", name := "compress64k", desc := "([BII[BII)I" } : Jvm.MethodName) prog_6_method_2_code (22 : Nat) (Option.some Jvm.ClassFile.FieldType.int)) ∈ lw_all := lw_g (lw_at lw_m1 229 rfl) rfl
theorem q232 : (Jvm.Cond.fieldLink "LZ4JavaSafeCompressor" (9 : Nat) "LZ4Constants" "SKIP_STRENGTH" "I") ∈ lw_all := lw_g (lw_at lw_m1 230 rfl) rfl
theorem q234 : (Jvm.Cond.methodLink "LZ4JavaSafeCompressor" (13 : Nat) ({ cls := "SafeUtils", name := "readInt", desc := "([BI)I" } : Jvm.MethodName)) ∈ lw_all := lw_g (lw_at lw_m1 232 rfl) rfl
theorem q240 : (Jvm.Cond.methodLink "LZ4JavaSafeCompressor" (19 : Nat) ({ cls := "LZ4Utils", name := "hash64k", desc := "(I)I" } : Jvm.MethodName)) ∈ lw_all := lw_g (lw_at lw_m1 238 rfl) rfl
theorem q244 : (Jvm.Cond.methodLink "LZ4JavaSafeCompressor" (25 : Nat) ({ cls := "SafeUtils", name := "readShort", desc := "([SI)I" } : Jvm.MethodName)) ∈ lw_all := lw_g (lw_at lw_m2 2 rfl) rfl
theorem q248 : (Jvm.Cond.methodLink "LZ4JavaSafeCompressor" (29 : Nat) ({ cls := "SafeUtils", name := "writeShort", desc := "([SII)V" } : Jvm.MethodName)) ∈ lw_all := lw_g (lw_at lw_m2 6 rfl) rfl
theorem q251 : (Jvm.Cond.methodLink "LZ4JavaSafeCompressor" (33 : Nat) ({ cls := "LZ4SafeUtils", name := "readIntEquals", desc := "([BII)Z" } : Jvm.MethodName)) ∈ lw_all := lw_g (lw_at lw_m2 9 rfl) rfl
theorem q254 : (Jvm.Cond.methodLink "LZ4JavaSafeCompressor" (39 : Nat) ({ cls := "LZ4SafeUtils", name := "commonBytesBackward", desc := "([BIIII)I" } : Jvm.MethodName)) ∈ lw_all := lw_g (lw_at lw_m2 12 rfl) rfl
theorem q257 : (Jvm.Cond.methodLink "LZ4JavaSafeCompressor" (43 : Nat) ({ cls := "LZ4Utils", name := "sequenceLength", desc := "(II)I" } : Jvm.MethodName)) ∈ lw_all := lw_g (lw_at lw_m2 15 rfl) rfl
theorem q282 : (Jvm.Cond.methodLink "LZ4JavaSafeCompressor" (47 : Nat) ({ cls := "LZ4Utils", name := "notEnoughSpace", desc := "(II)Z" } : Jvm.MethodName)) ∈ lw_all := lw_g (lw_at lw_m2 40 rfl) rfl
theorem q285 : (Jvm.Cond.classLink "LZ4JavaSafeCompressor" (51 : Nat) "LZ4Exception") ∈ lw_all := lw_g (lw_at lw_m2 43 rfl) rfl
theorem q286 : (Jvm.Cond.stringRef "LZ4JavaSafeCompressor" (53 : Nat) "maxDestLen is too small") ∈ lw_tbl := lw_at lw_m2 44 rfl
theorem q287 : (Jvm.Cond.methodLink "LZ4JavaSafeCompressor" (55 : Nat) ({ cls := "LZ4Exception", name := "<init>", desc := "(Ljava/lang/String;)V" } : Jvm.MethodName)) ∈ lw_all := lw_g (lw_at lw_m2 45 rfl) rfl
theorem q288 : (Jvm.Cond.methodLink "LZ4JavaSafeCompressor" (58 : Nat) ({ cls := "SafeUtils", name := "writeByte", desc := "([BII)V" } : Jvm.MethodName)) ∈ lw_all := lw_g (lw_at lw_m2 46 rfl) rfl
theorem q291 : (Jvm.Cond.methodLink "LZ4JavaSafeCompressor" (62 : Nat) ({ cls := "LZ4SafeUtils", name := "writeLen", desc := "(I[BI)I" } : Jvm.MethodName)) ∈ lw_all := lw_g (lw_at lw_m2 49 rfl) rfl
theorem q294 : (Jvm.Cond.methodLink "LZ4JavaSafeCompressor" (66 : Nat) ({ cls := "LZ4SafeUtils", name := "wildArraycopy", desc := "([BI[BII)V" } : Jvm.MethodName)) ∈ lw_all := lw_g (lw_at lw_m2 52 rfl) rfl
theorem q309 : (Jvm.Cond.methodLink "LZ4JavaSafeCompressor" (70 : Nat) ({ cls := "SafeUtils", name := "writeShortLE", desc := "([BII)V" } : Jvm.MethodName)) ∈ lw_all := lw_g (lw_at lw_m2 67 rfl) rfl
theorem q312 : (Jvm.Cond.methodLink "LZ4JavaSafeCompressor" (73 : Nat) ({ cls := "LZ4SafeUtils", name := "commonBytes", desc := "([BIII)I" } : Jvm.MethodName)) ∈ lw_all := lw_g (lw_at lw_m2 70 rfl) rfl
theorem q315 : (Jvm.Cond.methodLink "LZ4JavaSafeCompressor" (77 : Nat) ({ cls := "LZ4Utils", name := "lengthOfEncodedInteger", desc := "(I)I" } : Jvm.MethodName)) ∈ lw_all := lw_g (lw_at lw_m2 73 rfl) rfl
theorem q316 : (Jvm.Cond.methodLink "LZ4JavaSafeCompressor" (80 : Nat) ({ cls := "SafeUtils", name := "readByte", desc := "([BI)B" } : Jvm.MethodName)) ∈ lw_all := lw_g (lw_at lw_m2 74 rfl) rfl
theorem q319 : (Jvm.Cond.methodLink "LZ4JavaSafeCompressor" (84 : Nat) ({ cls := "LZ4SafeUtils", name := "lastLiterals", desc := "([BII[BII)I" } : Jvm.MethodName)) ∈ lw_all := lw_g (lw_at lw_m2 77 rfl) rfl
theorem q338 : (Jvm.Cond.methodLink "LZ4JavaSafeCompressor" (97 : Nat) ({ cls := "java/util/Arrays", name := "fill", desc := "([II)V" } : Jvm.MethodName)) ∈ lw_all := lw_g (lw_at lw_m2 96 rfl) rfl
theorem q341 : (Jvm.Cond.methodLink "LZ4JavaSafeCompressor" (103 : Nat) ({ cls := "LZ4Utils", name := "hash", desc := "(I)I" } : Jvm.MethodName)) ∈ lw_all := lw_g (lw_at lw_m2 99 rfl) rfl
theorem q344 : (Jvm.Cond.methodLink "LZ4JavaSafeCompressor" (106 : Nat) ({ cls := "SafeUtils", name := "readInt", desc := "([II)I" } : Jvm.MethodName)) ∈ lw_all := lw_g (lw_at lw_m2 102 rfl) rfl
theorem q347 : (Jvm.Cond.methodLink "LZ4JavaSafeCompressor" (109 : Nat) ({ cls := "SafeUtils", name := "writeInt", desc := "([III)V" } : Jvm.MethodName)) ∈ lw_all := lw_g (lw_at lw_m2 105 rfl) rfl
theorem q350 : (Jvm.Cond.constant "LZ4JavaSafeCompressor" (113 : Nat) (65536 : Int32)) ∈ lw_all := lw_g (lw_at lw_m2 108 rfl) rfl
/-! LZ4JavaSafeSafeDecompressor -/
set_option maxRecDepth 100000
def RX5 : String := "LZ4JavaSafeSafeDecompressor"
abbrev cX5_init : ByteArray := prog_7_method_1_code
def yX5_init : MethodName := ⟨RX5, "<init>", "()V"⟩
theorem dX5_init_0 : decode cX5_init 0 = .ok (.aload_n 0, 1) := by decide +kernel
theorem dX5_init_1 : decode cX5_init 1 = .ok (.invokespecial 1, 3) := by decide +kernel
theorem dX5_init_4 : decode cX5_init 4 = .ok (.return_, 1) := by decide +kernel
abbrev cX5_decompress : ByteArray := prog_7_method_2_code
def yX5_decompress : MethodName := ⟨RX5, "decompress", "([BII[BII)I"⟩
def dkwX5_decompress_23 : List UInt8 := [21, 10, 21, 5, 100, 172]
abbrev dktX5_decompress_23 : List UInt8 := dkwX5_decompress_23 ++ []
def dkwX5_decompress_22 : List UInt8 := [184, 0, 55, 167, 0, 14, 25, 4, 21, 15, 21, 10, 21, 17, 184, 0, 59, 21, 17, 54, 10, 167, 254, 45]
abbrev dktX5_decompress_22 : List UInt8 := dkwX5_decompress_22 ++ dktX5_decompress_23
def dkwX5_decompress_21 : List UInt8 := [21, 8, 164, 0, 13, 187, 0, 17, 89, 18, 24, 183, 0, 21, 191, 25, 4, 21, 15, 21, 10, 21, 16]
abbrev dktX5_decompress_21 : List UInt8 := dkwX5_decompress_21 ++ dktX5_decompress_22
def dkwX5_decompress_20 : List UInt8 := [21, 17, 184, 0, 52, 167, 0, 58, 21, 8, 21, 17, 100, 16, 8, 184, 0, 30, 153, 0, 34, 21, 17]
abbrev dktX5_decompress_20 : List UInt8 := dkwX5_decompress_20 ++ dktX5_decompress_21
def dkwX5_decompress_19 : List UInt8 := [154, 0, 32, 21, 17, 21, 8, 164, 0, 13, 187, 0, 17, 89, 18, 24, 183, 0, 21, 191, 25, 4, 21, 10]
abbrev dktX5_decompress_19 : List UInt8 := dkwX5_decompress_19 ++ dktX5_decompress_20
def dkwX5_decompress_18 : List UInt8 := [21, 16, 96, 54, 17, 21, 17, 21, 10, 162, 0, 13, 187, 0, 17, 89, 18, 50, 183, 0, 21, 191, 21, 14]
abbrev dktX5_decompress_18 : List UInt8 := dkwX5_decompress_18 ++ dktX5_decompress_19
def dkwX5_decompress_17 : List UInt8 := [89, 18, 50, 183, 0, 21, 191, 21, 16, 21, 17, 17, 0, 255, 126, 96, 54, 16, 132, 16, 4, 21, 10]
abbrev dktX5_decompress_17 : List UInt8 := dkwX5_decompress_17 ++ dktX5_decompress_18
def dkwX5_decompress_16 : List UInt8 := [184, 0, 13, 89, 54, 17, 2, 160, 0, 24, 196, 132, 0, 16, 0, 255, 21, 16, 156, 255, 225, 187, 0, 17]
abbrev dktX5_decompress_16 : List UInt8 := dkwX5_decompress_16 ++ dktX5_decompress_17
def dkwX5_decompress_15 : List UInt8 := [21, 16, 16, 15, 160, 0, 61, 2, 54, 17, 21, 9, 21, 7, 162, 0, 40, 43, 21, 9, 132, 9, 1]
abbrev dktX5_decompress_15 : List UInt8 := dkwX5_decompress_15 ++ dktX5_decompress_16
def dkwX5_decompress_14 : List UInt8 := [21, 15, 21, 5, 162, 0, 13, 187, 0, 17, 89, 18, 24, 183, 0, 21, 191, 21, 11, 16, 15, 126, 54, 16]
abbrev dktX5_decompress_14 : List UInt8 := dkwX5_decompress_14 ++ dktX5_decompress_15
def dkwX5_decompress_13 : List UInt8 := [54, 9, 21, 13, 54, 10, 43, 21, 9, 184, 0, 46, 54, 14, 132, 9, 2, 21, 10, 21, 14, 100, 54, 15]
abbrev dktX5_decompress_13 : List UInt8 := dkwX5_decompress_13 ++ dktX5_decompress_14
def dkwX5_decompress_12 : List UInt8 := [21, 13, 54, 10, 167, 1, 0, 43, 21, 9, 25, 4, 21, 10, 21, 12, 184, 0, 43, 21, 9, 21, 12, 96]
abbrev dktX5_decompress_12 : List UInt8 := dkwX5_decompress_12 ++ dktX5_decompress_13
def dkwX5_decompress_11 : List UInt8 := [183, 0, 21, 191, 43, 21, 9, 25, 4, 21, 10, 21, 12, 184, 0, 37, 21, 9, 21, 12, 96, 54, 9]
abbrev dktX5_decompress_11 : List UInt8 := dkwX5_decompress_11 ++ dktX5_decompress_12
def dkwX5_decompress_10 : List UInt8 := [187, 0, 17, 89, 183, 0, 36, 191, 21, 9, 21, 12, 96, 21, 7, 159, 0, 13, 187, 0, 17, 89, 18, 24]
abbrev dktX5_decompress_10 : List UInt8 := dkwX5_decompress_10 ++ dktX5_decompress_11
def dkwX5_decompress_9 : List UInt8 := [21, 7, 21, 9, 100, 16, 8, 21, 12, 96, 184, 0, 30, 153, 0, 64, 21, 13, 21, 8, 164, 0, 11]
abbrev dktX5_decompress_9 : List UInt8 := dkwX5_decompress_9 ++ dktX5_decompress_10
def dkwX5_decompress_8 : List UInt8 := [187, 0, 17, 89, 18, 28, 183, 0, 21, 191, 21, 8, 21, 13, 100, 16, 8, 184, 0, 30, 154, 0, 19]
abbrev dktX5_decompress_8 : List UInt8 := dkwX5_decompress_8 ++ dktX5_decompress_9
def dkwX5_decompress_7 : List UInt8 := [21, 13, 17, 0, 255, 126, 96, 54, 12, 21, 10, 21, 12, 96, 54, 13, 21, 13, 21, 10, 162, 0, 13]
abbrev dktX5_decompress_7 : List UInt8 := dkwX5_decompress_7 ++ dktX5_decompress_8
def dkwX5_decompress_6 : List UInt8 := [196, 132, 0, 12, 0, 255, 21, 12, 156, 255, 225, 187, 0, 17, 89, 18, 28, 183, 0, 21, 191, 21, 12]
abbrev dktX5_decompress_6 : List UInt8 := dkwX5_decompress_6 ++ dktX5_decompress_7
def dkwX5_decompress_5 : List UInt8 := [21, 7, 162, 0, 40, 43, 21, 9, 132, 9, 1, 184, 0, 13, 89, 54, 13, 2, 160, 0, 24]
abbrev dktX5_decompress_5 : List UInt8 := dkwX5_decompress_5 ++ dktX5_decompress_6
def dkwX5_decompress_4 : List UInt8 := [54, 11, 132, 9, 1, 21, 11, 7, 124, 54, 12, 21, 12, 16, 15, 160, 0, 61, 2, 54, 13, 21, 9]
abbrev dktX5_decompress_4 : List UInt8 := dkwX5_decompress_4 ++ dktX5_decompress_5
def dkwX5_decompress_3 : List UInt8 := [161, 0, 13, 187, 0, 17, 89, 18, 24, 183, 0, 21, 191, 43, 21, 9, 184, 0, 13, 17, 0, 255, 126]
abbrev dktX5_decompress_3 : List UInt8 := dkwX5_decompress_3 ++ dktX5_decompress_4
def dkwX5_decompress_2 : List UInt8 := [29, 96, 54, 7, 21, 5, 21, 6, 96, 54, 8, 28, 54, 9, 21, 5, 54, 10, 21, 9, 21, 7]
abbrev dktX5_decompress_2 : List UInt8 := dkwX5_decompress_2 ++ dktX5_decompress_3
def dkwX5_decompress_1 : List UInt8 := [160, 0, 11, 43, 28, 184, 0, 13, 153, 0, 13, 187, 0, 17, 89, 18, 19, 183, 0, 21, 191, 3, 172, 28]
abbrev dktX5_decompress_1 : List UInt8 := dkwX5_decompress_1 ++ dktX5_decompress_2
def dkwX5_decompress_0 : List UInt8 := [43, 28, 29, 184, 0, 7, 25, 4, 21, 5, 21, 6, 184, 0, 7, 21, 6, 154, 0, 28, 29, 4]
abbrev dktX5_decompress_0 : List UInt8 := dkwX5_decompress_0 ++ dktX5_decompress_1
theorem dksX5_decompress_0 : cX5_decompress.data.toList.drop 0 = dktX5_decompress_0 := by decide +kernel
theorem dksX5_decompress_1 : cX5_decompress.data.toList.drop 22 = dktX5_decompress_1 := dk_seg dksX5_decompress_0 22 rfl rfl
theorem dksX5_decompress_2 : cX5_decompress.data.toList.drop 46 = dktX5_decompress_2 := dk_seg dksX5_decompress_1 24 rfl rfl
theorem dksX5_decompress_3 : cX5_decompress.data.toList.drop 68 = dktX5_decompress_3 := dk_seg dksX5_decompress_2 22 rfl rfl
theorem dksX5_decompress_4 : cX5_decompress.data.toList.drop 91 = dktX5_decompress_4 := dk_seg dksX5_decompress_3 23 rfl rfl
theorem dksX5_decompress_5 : cX5_decompress.data.toList.drop 114 = dktX5_decompress_5 := dk_seg dksX5_decompress_4 23 rfl rfl
theorem dksX5_decompress_6 : cX5_decompress.data.toList.drop 135 = dktX5_decompress_6 := dk_seg dksX5_decompress_5 21 rfl rfl
theorem dksX5_decompress_7 : cX5_decompress.data.toList.drop 158 = dktX5_decompress_7 := dk_seg dksX5_decompress_6 23 rfl rfl
theorem dksX5_decompress_8 : cX5_decompress.data.toList.drop 181 = dktX5_decompress_8 := dk_seg dksX5_decompress_7 23 rfl rfl
theorem dksX5_decompress_9 : cX5_decompress.data.toList.drop 204 = dktX5_decompress_9 := dk_seg dksX5_decompress_8 23 rfl rfl
theorem dksX5_decompress_10 : cX5_decompress.data.toList.drop 227 = dktX5_decompress_10 := dk_seg dksX5_decompress_9 23 rfl rfl
theorem dksX5_decompress_11 : cX5_decompress.data.toList.drop 251 = dktX5_decompress_11 := dk_seg dksX5_decompress_10 24 rfl rfl
theorem dksX5_decompress_12 : cX5_decompress.data.toList.drop 274 = dktX5_decompress_12 := dk_seg dksX5_decompress_11 23 rfl rfl
theorem dksX5_decompress_13 : cX5_decompress.data.toList.drop 298 = dktX5_decompress_13 := dk_seg dksX5_decompress_12 24 rfl rfl
theorem dksX5_decompress_14 : cX5_decompress.data.toList.drop 322 = dktX5_decompress_14 := dk_seg dksX5_decompress_13 24 rfl rfl
theorem dksX5_decompress_15 : cX5_decompress.data.toList.drop 346 = dktX5_decompress_15 := dk_seg dksX5_decompress_14 24 rfl rfl
theorem dksX5_decompress_16 : cX5_decompress.data.toList.drop 369 = dktX5_decompress_16 := dk_seg dksX5_decompress_15 23 rfl rfl
theorem dksX5_decompress_17 : cX5_decompress.data.toList.drop 393 = dktX5_decompress_17 := dk_seg dksX5_decompress_16 24 rfl rfl
theorem dksX5_decompress_18 : cX5_decompress.data.toList.drop 416 = dktX5_decompress_18 := dk_seg dksX5_decompress_17 23 rfl rfl
theorem dksX5_decompress_19 : cX5_decompress.data.toList.drop 440 = dktX5_decompress_19 := dk_seg dksX5_decompress_18 24 rfl rfl
theorem dksX5_decompress_20 : cX5_decompress.data.toList.drop 464 = dktX5_decompress_20 := dk_seg dksX5_decompress_19 24 rfl rfl
theorem dksX5_decompress_21 : cX5_decompress.data.toList.drop 487 = dktX5_decompress_21 := dk_seg dksX5_decompress_20 23 rfl rfl
theorem dksX5_decompress_22 : cX5_decompress.data.toList.drop 510 = dktX5_decompress_22 := dk_seg dksX5_decompress_21 23 rfl rfl
theorem dksX5_decompress_23 : cX5_decompress.data.toList.drop 534 = dktX5_decompress_23 := dk_seg dksX5_decompress_22 24 rfl rfl
theorem dX5_decompress_0 : decode cX5_decompress 0 = .ok (.aload_n 1, 1) := dk_43 (dk_at dksX5_decompress_0 0 rfl rfl)
theorem dX5_decompress_1 : decode cX5_decompress 1 = .ok (.iload_n 2, 1) := dk_28 (dk_at dksX5_decompress_0 1 rfl rfl)
theorem dX5_decompress_2 : decode cX5_decompress 2 = .ok (.iload_n 3, 1) := dk_29 (dk_at dksX5_decompress_0 2 rfl rfl)
theorem dX5_decompress_3 : decode cX5_decompress 3 = .ok (.invokestatic 7, 3) := dk_184 0 7 (dk_at dksX5_decompress_0 3 rfl rfl)
theorem dX5_decompress_6 : decode cX5_decompress 6 = .ok (.aload 4, 2) := dk_25 4 (dk_at dksX5_decompress_0 6 rfl rfl)
theorem dX5_decompress_8 : decode cX5_decompress 8 = .ok (.iload 5, 2) := dk_21 5 (dk_at dksX5_decompress_0 8 rfl rfl)
theorem dX5_decompress_10 : decode cX5_decompress 10 = .ok (.iload 6, 2) := dk_21 6 (dk_at dksX5_decompress_0 10 rfl rfl)
theorem dX5_decompress_12 : decode cX5_decompress 12 = .ok (.invokestatic 7, 3) := dk_184 0 7 (dk_at dksX5_decompress_0 12 rfl rfl)
theorem dX5_decompress_15 : decode cX5_decompress 15 = .ok (.iload 6, 2) := dk_21 6 (dk_at dksX5_decompress_0 15 rfl rfl)
theorem dX5_decompress_17 : decode cX5_decompress 17 = .ok (.ifCond .ne 28, 3) := dk_154 0 28 (dk_at dksX5_decompress_0 17 rfl rfl)
theorem dX5_decompress_20 : decode cX5_decompress 20 = .ok (.iload_n 3, 1) := dk_29 (dk_at dksX5_decompress_0 20 rfl rfl)
theorem dX5_decompress_21 : decode cX5_decompress 21 = .ok (.iconst 1, 1) := dk_4 (dk_at dksX5_decompress_0 21 rfl rfl)
theorem dX5_decompress_22 : decode cX5_decompress 22 = .ok (.if_icmp .ne 11, 3) := dk_160 0 11 (dk_at dksX5_decompress_1 0 rfl rfl)
theorem dX5_decompress_25 : decode cX5_decompress 25 = .ok (.aload_n 1, 1) := dk_43 (dk_at dksX5_decompress_1 3 rfl rfl)
theorem dX5_decompress_26 : decode cX5_decompress 26 = .ok (.iload_n 2, 1) := dk_28 (dk_at dksX5_decompress_1 4 rfl rfl)
theorem dX5_decompress_27 : decode cX5_decompress 27 = .ok (.invokestatic 13, 3) := dk_184 0 13 (dk_at dksX5_decompress_1 5 rfl rfl)
theorem dX5_decompress_30 : decode cX5_decompress 30 = .ok (.ifCond .eq 13, 3) := dk_153 0 13 (dk_at dksX5_decompress_1 8 rfl rfl)
theorem dX5_decompress_33 : decode cX5_decompress 33 = .ok (.new 17, 3) := dk_187 0 17 (dk_at dksX5_decompress_1 11 rfl rfl)
theorem dX5_decompress_36 : decode cX5_decompress 36 = .ok (.dup, 1) := dk_89 (dk_at dksX5_decompress_1 14 rfl rfl)
theorem dX5_decompress_37 : decode cX5_decompress 37 = .ok (.ldc 19, 2) := dk_18 19 (dk_at dksX5_decompress_1 15 rfl rfl)
theorem dX5_decompress_39 : decode cX5_decompress 39 = .ok (.invokespecial 21, 3) := dk_183 0 21 (dk_at dksX5_decompress_1 17 rfl rfl)
theorem dX5_decompress_42 : decode cX5_decompress 42 = .ok (.athrow, 1) := dk_191 (dk_at dksX5_decompress_1 20 rfl rfl)
theorem dX5_decompress_43 : decode cX5_decompress 43 = .ok (.iconst 0, 1) := dk_3 (dk_at dksX5_decompress_1 21 rfl rfl)
theorem dX5_decompress_44 : decode cX5_decompress 44 = .ok (.ireturn, 1) := dk_172 (dk_at dksX5_decompress_1 22 rfl rfl)
theorem dX5_decompress_45 : decode cX5_decompress 45 = .ok (.iload_n 2, 1) := dk_28 (dk_at dksX5_decompress_1 23 rfl rfl)
theorem dX5_decompress_46 : decode cX5_decompress 46 = .ok (.iload_n 3, 1) := dk_29 (dk_at dksX5_decompress_2 0 rfl rfl)
theorem dX5_decompress_47 : decode cX5_decompress 47 = .ok (.iadd, 1) := dk_96 (dk_at dksX5_decompress_2 1 rfl rfl)
theorem dX5_decompress_48 : decode cX5_decompress 48 = .ok (.istore 7, 2) := dk_54 7 (dk_at dksX5_decompress_2 2 rfl rfl)
theorem dX5_decompress_50 : decode cX5_decompress 50 = .ok (.iload 5, 2) := dk_21 5 (dk_at dksX5_decompress_2 4 rfl rfl)
theorem dX5_decompress_52 : decode cX5_decompress 52 = .ok (.iload 6, 2) := dk_21 6 (dk_at dksX5_decompress_2 6 rfl rfl)
theorem dX5_decompress_54 : decode cX5_decompress 54 = .ok (.iadd, 1) := dk_96 (dk_at dksX5_decompress_2 8 rfl rfl)
theorem dX5_decompress_55 : decode cX5_decompress 55 = .ok (.istore 8, 2) := dk_54 8 (dk_at dksX5_decompress_2 9 rfl rfl)
theorem dX5_decompress_57 : decode cX5_decompress 57 = .ok (.iload_n 2, 1) := dk_28 (dk_at dksX5_decompress_2 11 rfl rfl)
theorem dX5_decompress_58 : decode cX5_decompress 58 = .ok (.istore 9, 2) := dk_54 9 (dk_at dksX5_decompress_2 12 rfl rfl)
theorem dX5_decompress_60 : decode cX5_decompress 60 = .ok (.iload 5, 2) := dk_21 5 (dk_at dksX5_decompress_2 14 rfl rfl)
theorem dX5_decompress_62 : decode cX5_decompress 62 = .ok (.istore 10, 2) := dk_54 10 (dk_at dksX5_decompress_2 16 rfl rfl)
theorem dX5_decompress_64 : decode cX5_decompress 64 = .ok (.iload 9, 2) := dk_21 9 (dk_at dksX5_decompress_2 18 rfl rfl)
theorem dX5_decompress_66 : decode cX5_decompress 66 = .ok (.iload 7, 2) := dk_21 7 (dk_at dksX5_decompress_2 20 rfl rfl)
theorem dX5_decompress_68 : decode cX5_decompress 68 = .ok (.if_icmp .lt 13, 3) := dk_161 0 13 (dk_at dksX5_decompress_3 0 rfl rfl)
theorem dX5_decompress_71 : decode cX5_decompress 71 = .ok (.new 17, 3) := dk_187 0 17 (dk_at dksX5_decompress_3 3 rfl rfl)
theorem dX5_decompress_74 : decode cX5_decompress 74 = .ok (.dup, 1) := dk_89 (dk_at dksX5_decompress_3 6 rfl rfl)
theorem dX5_decompress_75 : decode cX5_decompress 75 = .ok (.ldc 24, 2) := dk_18 24 (dk_at dksX5_decompress_3 7 rfl rfl)
theorem dX5_decompress_77 : decode cX5_decompress 77 = .ok (.invokespecial 21, 3) := dk_183 0 21 (dk_at dksX5_decompress_3 9 rfl rfl)
theorem dX5_decompress_80 : decode cX5_decompress 80 = .ok (.athrow, 1) := dk_191 (dk_at dksX5_decompress_3 12 rfl rfl)
theorem dX5_decompress_81 : decode cX5_decompress 81 = .ok (.aload_n 1, 1) := dk_43 (dk_at dksX5_decompress_3 13 rfl rfl)
theorem dX5_decompress_82 : decode cX5_decompress 82 = .ok (.iload 9, 2) := dk_21 9 (dk_at dksX5_decompress_3 14 rfl rfl)
theorem dX5_decompress_84 : decode cX5_decompress 84 = .ok (.invokestatic 13, 3) := dk_184 0 13 (dk_at dksX5_decompress_3 16 rfl rfl)
theorem dX5_decompress_87 : decode cX5_decompress 87 = .ok (.sipush 255, 3) := dk_17 0 255 (dk_at dksX5_decompress_3 19 rfl rfl)
theorem dX5_decompress_90 : decode cX5_decompress 90 = .ok (.iand, 1) := dk_126 (dk_at dksX5_decompress_3 22 rfl rfl)
theorem dX5_decompress_91 : decode cX5_decompress 91 = .ok (.istore 11, 2) := dk_54 11 (dk_at dksX5_decompress_4 0 rfl rfl)
theorem dX5_decompress_93 : decode cX5_decompress 93 = .ok (.iinc 9 1, 3) := dk_132 9 1 (dk_at dksX5_decompress_4 2 rfl rfl)
theorem dX5_decompress_96 : decode cX5_decompress 96 = .ok (.iload 11, 2) := dk_21 11 (dk_at dksX5_decompress_4 5 rfl rfl)
theorem dX5_decompress_98 : decode cX5_decompress 98 = .ok (.iconst 4, 1) := dk_7 (dk_at dksX5_decompress_4 7 rfl rfl)
theorem dX5_decompress_99 : decode cX5_decompress 99 = .ok (.iushr, 1) := dk_124 (dk_at dksX5_decompress_4 8 rfl rfl)
theorem dX5_decompress_100 : decode cX5_decompress 100 = .ok (.istore 12, 2) := dk_54 12 (dk_at dksX5_decompress_4 9 rfl rfl)
theorem dX5_decompress_102 : decode cX5_decompress 102 = .ok (.iload 12, 2) := dk_21 12 (dk_at dksX5_decompress_4 11 rfl rfl)
theorem dX5_decompress_104 : decode cX5_decompress 104 = .ok (.bipush 15, 2) := dk_16 15 (dk_at dksX5_decompress_4 13 rfl rfl)
theorem dX5_decompress_106 : decode cX5_decompress 106 = .ok (.if_icmp .ne 61, 3) := dk_160 0 61 (dk_at dksX5_decompress_4 15 rfl rfl)
theorem dX5_decompress_109 : decode cX5_decompress 109 = .ok (.iconst (-1), 1) := dk_2 (dk_at dksX5_decompress_4 18 rfl rfl)
theorem dX5_decompress_110 : decode cX5_decompress 110 = .ok (.istore 13, 2) := dk_54 13 (dk_at dksX5_decompress_4 19 rfl rfl)
theorem dX5_decompress_112 : decode cX5_decompress 112 = .ok (.iload 9, 2) := dk_21 9 (dk_at dksX5_decompress_4 21 rfl rfl)
theorem dX5_decompress_114 : decode cX5_decompress 114 = .ok (.iload 7, 2) := dk_21 7 (dk_at dksX5_decompress_5 0 rfl rfl)
theorem dX5_decompress_116 : decode cX5_decompress 116 = .ok (.if_icmp .ge 40, 3) := dk_162 0 40 (dk_at dksX5_decompress_5 2 rfl rfl)
theorem dX5_decompress_119 : decode cX5_decompress 119 = .ok (.aload_n 1, 1) := dk_43 (dk_at dksX5_decompress_5 5 rfl rfl)
theorem dX5_decompress_120 : decode cX5_decompress 120 = .ok (.iload 9, 2) := dk_21 9 (dk_at dksX5_decompress_5 6 rfl rfl)
theorem dX5_decompress_122 : decode cX5_decompress 122 = .ok (.iinc 9 1, 3) := dk_132 9 1 (dk_at dksX5_decompress_5 8 rfl rfl)
theorem dX5_decompress_125 : decode cX5_decompress 125 = .ok (.invokestatic 13, 3) := dk_184 0 13 (dk_at dksX5_decompress_5 11 rfl rfl)
theorem dX5_decompress_128 : decode cX5_decompress 128 = .ok (.dup, 1) := dk_89 (dk_at dksX5_decompress_5 14 rfl rfl)
theorem dX5_decompress_129 : decode cX5_decompress 129 = .ok (.istore 13, 2) := dk_54 13 (dk_at dksX5_decompress_5 15 rfl rfl)
theorem dX5_decompress_131 : decode cX5_decompress 131 = .ok (.iconst (-1), 1) := dk_2 (dk_at dksX5_decompress_5 17 rfl rfl)
theorem dX5_decompress_132 : decode cX5_decompress 132 = .ok (.if_icmp .ne 24, 3) := dk_160 0 24 (dk_at dksX5_decompress_5 18 rfl rfl)
theorem dX5_decompress_135 : decode cX5_decompress 135 = .ok (.iinc 12 255, 6) := by decide +kernel
theorem dX5_decompress_141 : decode cX5_decompress 141 = .ok (.iload 12, 2) := dk_21 12 (dk_at dksX5_decompress_6 6 rfl rfl)
theorem dX5_decompress_143 : decode cX5_decompress 143 = .ok (.ifCond .ge (-31), 3) := dk_156 255 225 (dk_at dksX5_decompress_6 8 rfl rfl)
theorem dX5_decompress_146 : decode cX5_decompress 146 = .ok (.new 17, 3) := dk_187 0 17 (dk_at dksX5_decompress_6 11 rfl rfl)
theorem dX5_decompress_149 : decode cX5_decompress 149 = .ok (.dup, 1) := dk_89 (dk_at dksX5_decompress_6 14 rfl rfl)
theorem dX5_decompress_150 : decode cX5_decompress 150 = .ok (.ldc 28, 2) := dk_18 28 (dk_at dksX5_decompress_6 15 rfl rfl)
theorem dX5_decompress_152 : decode cX5_decompress 152 = .ok (.invokespecial 21, 3) := dk_183 0 21 (dk_at dksX5_decompress_6 17 rfl rfl)
theorem dX5_decompress_155 : decode cX5_decompress 155 = .ok (.athrow, 1) := dk_191 (dk_at dksX5_decompress_6 20 rfl rfl)
theorem dX5_decompress_156 : decode cX5_decompress 156 = .ok (.iload 12, 2) := dk_21 12 (dk_at dksX5_decompress_6 21 rfl rfl)
theorem dX5_decompress_158 : decode cX5_decompress 158 = .ok (.iload 13, 2) := dk_21 13 (dk_at dksX5_decompress_7 0 rfl rfl)
theorem dX5_decompress_160 : decode cX5_decompress 160 = .ok (.sipush 255, 3) := dk_17 0 255 (dk_at dksX5_decompress_7 2 rfl rfl)
theorem dX5_decompress_163 : decode cX5_decompress 163 = .ok (.iand, 1) := dk_126 (dk_at dksX5_decompress_7 5 rfl rfl)
theorem dX5_decompress_164 : decode cX5_decompress 164 = .ok (.iadd, 1) := dk_96 (dk_at dksX5_decompress_7 6 rfl rfl)
theorem dX5_decompress_165 : decode cX5_decompress 165 = .ok (.istore 12, 2) := dk_54 12 (dk_at dksX5_decompress_7 7 rfl rfl)
theorem dX5_decompress_167 : decode cX5_decompress 167 = .ok (.iload 10, 2) := dk_21 10 (dk_at dksX5_decompress_7 9 rfl rfl)
theorem dX5_decompress_169 : decode cX5_decompress 169 = .ok (.iload 12, 2) := dk_21 12 (dk_at dksX5_decompress_7 11 rfl rfl)
theorem dX5_decompress_171 : decode cX5_decompress 171 = .ok (.iadd, 1) := dk_96 (dk_at dksX5_decompress_7 13 rfl rfl)
theorem dX5_decompress_172 : decode cX5_decompress 172 = .ok (.istore 13, 2) := dk_54 13 (dk_at dksX5_decompress_7 14 rfl rfl)
theorem dX5_decompress_174 : decode cX5_decompress 174 = .ok (.iload 13, 2) := dk_21 13 (dk_at dksX5_decompress_7 16 rfl rfl)
theorem dX5_decompress_176 : decode cX5_decompress 176 = .ok (.iload 10, 2) := dk_21 10 (dk_at dksX5_decompress_7 18 rfl rfl)
theorem dX5_decompress_178 : decode cX5_decompress 178 = .ok (.if_icmp .ge 13, 3) := dk_162 0 13 (dk_at dksX5_decompress_7 20 rfl rfl)
theorem dX5_decompress_181 : decode cX5_decompress 181 = .ok (.new 17, 3) := dk_187 0 17 (dk_at dksX5_decompress_8 0 rfl rfl)
theorem dX5_decompress_184 : decode cX5_decompress 184 = .ok (.dup, 1) := dk_89 (dk_at dksX5_decompress_8 3 rfl rfl)
theorem dX5_decompress_185 : decode cX5_decompress 185 = .ok (.ldc 28, 2) := dk_18 28 (dk_at dksX5_decompress_8 4 rfl rfl)
theorem dX5_decompress_187 : decode cX5_decompress 187 = .ok (.invokespecial 21, 3) := dk_183 0 21 (dk_at dksX5_decompress_8 6 rfl rfl)
theorem dX5_decompress_190 : decode cX5_decompress 190 = .ok (.athrow, 1) := dk_191 (dk_at dksX5_decompress_8 9 rfl rfl)
theorem dX5_decompress_191 : decode cX5_decompress 191 = .ok (.iload 8, 2) := dk_21 8 (dk_at dksX5_decompress_8 10 rfl rfl)
theorem dX5_decompress_193 : decode cX5_decompress 193 = .ok (.iload 13, 2) := dk_21 13 (dk_at dksX5_decompress_8 12 rfl rfl)
theorem dX5_decompress_195 : decode cX5_decompress 195 = .ok (.isub, 1) := dk_100 (dk_at dksX5_decompress_8 14 rfl rfl)
theorem dX5_decompress_196 : decode cX5_decompress 196 = .ok (.bipush 8, 2) := dk_16 8 (dk_at dksX5_decompress_8 15 rfl rfl)
theorem dX5_decompress_198 : decode cX5_decompress 198 = .ok (.invokestatic 30, 3) := dk_184 0 30 (dk_at dksX5_decompress_8 17 rfl rfl)
theorem dX5_decompress_201 : decode cX5_decompress 201 = .ok (.ifCond .ne 19, 3) := dk_154 0 19 (dk_at dksX5_decompress_8 20 rfl rfl)
theorem dX5_decompress_204 : decode cX5_decompress 204 = .ok (.iload 7, 2) := dk_21 7 (dk_at dksX5_decompress_9 0 rfl rfl)
theorem dX5_decompress_206 : decode cX5_decompress 206 = .ok (.iload 9, 2) := dk_21 9 (dk_at dksX5_decompress_9 2 rfl rfl)
theorem dX5_decompress_208 : decode cX5_decompress 208 = .ok (.isub, 1) := dk_100 (dk_at dksX5_decompress_9 4 rfl rfl)
theorem dX5_decompress_209 : decode cX5_decompress 209 = .ok (.bipush 8, 2) := dk_16 8 (dk_at dksX5_decompress_9 5 rfl rfl)
theorem dX5_decompress_211 : decode cX5_decompress 211 = .ok (.iload 12, 2) := dk_21 12 (dk_at dksX5_decompress_9 7 rfl rfl)
theorem dX5_decompress_213 : decode cX5_decompress 213 = .ok (.iadd, 1) := dk_96 (dk_at dksX5_decompress_9 9 rfl rfl)
theorem dX5_decompress_214 : decode cX5_decompress 214 = .ok (.invokestatic 30, 3) := dk_184 0 30 (dk_at dksX5_decompress_9 10 rfl rfl)
theorem dX5_decompress_217 : decode cX5_decompress 217 = .ok (.ifCond .eq 64, 3) := dk_153 0 64 (dk_at dksX5_decompress_9 13 rfl rfl)
theorem dX5_decompress_220 : decode cX5_decompress 220 = .ok (.iload 13, 2) := dk_21 13 (dk_at dksX5_decompress_9 16 rfl rfl)
theorem dX5_decompress_222 : decode cX5_decompress 222 = .ok (.iload 8, 2) := dk_21 8 (dk_at dksX5_decompress_9 18 rfl rfl)
theorem dX5_decompress_224 : decode cX5_decompress 224 = .ok (.if_icmp .le 11, 3) := dk_164 0 11 (dk_at dksX5_decompress_9 20 rfl rfl)
theorem dX5_decompress_227 : decode cX5_decompress 227 = .ok (.new 17, 3) := dk_187 0 17 (dk_at dksX5_decompress_10 0 rfl rfl)
theorem dX5_decompress_230 : decode cX5_decompress 230 = .ok (.dup, 1) := dk_89 (dk_at dksX5_decompress_10 3 rfl rfl)
theorem dX5_decompress_231 : decode cX5_decompress 231 = .ok (.invokespecial 36, 3) := dk_183 0 36 (dk_at dksX5_decompress_10 4 rfl rfl)
theorem dX5_decompress_234 : decode cX5_decompress 234 = .ok (.athrow, 1) := dk_191 (dk_at dksX5_decompress_10 7 rfl rfl)
theorem dX5_decompress_235 : decode cX5_decompress 235 = .ok (.iload 9, 2) := dk_21 9 (dk_at dksX5_decompress_10 8 rfl rfl)
theorem dX5_decompress_237 : decode cX5_decompress 237 = .ok (.iload 12, 2) := dk_21 12 (dk_at dksX5_decompress_10 10 rfl rfl)
theorem dX5_decompress_239 : decode cX5_decompress 239 = .ok (.iadd, 1) := dk_96 (dk_at dksX5_decompress_10 12 rfl rfl)
theorem dX5_decompress_240 : decode cX5_decompress 240 = .ok (.iload 7, 2) := dk_21 7 (dk_at dksX5_decompress_10 13 rfl rfl)
theorem dX5_decompress_242 : decode cX5_decompress 242 = .ok (.if_icmp .eq 13, 3) := dk_159 0 13 (dk_at dksX5_decompress_10 15 rfl rfl)
theorem dX5_decompress_245 : decode cX5_decompress 245 = .ok (.new 17, 3) := dk_187 0 17 (dk_at dksX5_decompress_10 18 rfl rfl)
theorem dX5_decompress_248 : decode cX5_decompress 248 = .ok (.dup, 1) := dk_89 (dk_at dksX5_decompress_10 21 rfl rfl)
theorem dX5_decompress_249 : decode cX5_decompress 249 = .ok (.ldc 24, 2) := dk_18 24 (dk_at dksX5_decompress_10 22 rfl rfl)
theorem dX5_decompress_251 : decode cX5_decompress 251 = .ok (.invokespecial 21, 3) := dk_183 0 21 (dk_at dksX5_decompress_11 0 rfl rfl)
theorem dX5_decompress_254 : decode cX5_decompress 254 = .ok (.athrow, 1) := dk_191 (dk_at dksX5_decompress_11 3 rfl rfl)
theorem dX5_decompress_255 : decode cX5_decompress 255 = .ok (.aload_n 1, 1) := dk_43 (dk_at dksX5_decompress_11 4 rfl rfl)
theorem dX5_decompress_256 : decode cX5_decompress 256 = .ok (.iload 9, 2) := dk_21 9 (dk_at dksX5_decompress_11 5 rfl rfl)
theorem dX5_decompress_258 : decode cX5_decompress 258 = .ok (.aload 4, 2) := dk_25 4 (dk_at dksX5_decompress_11 7 rfl rfl)
theorem dX5_decompress_260 : decode cX5_decompress 260 = .ok (.iload 10, 2) := dk_21 10 (dk_at dksX5_decompress_11 9 rfl rfl)
theorem dX5_decompress_262 : decode cX5_decompress 262 = .ok (.iload 12, 2) := dk_21 12 (dk_at dksX5_decompress_11 11 rfl rfl)
theorem dX5_decompress_264 : decode cX5_decompress 264 = .ok (.invokestatic 37, 3) := dk_184 0 37 (dk_at dksX5_decompress_11 13 rfl rfl)
theorem dX5_decompress_267 : decode cX5_decompress 267 = .ok (.iload 9, 2) := dk_21 9 (dk_at dksX5_decompress_11 16 rfl rfl)
theorem dX5_decompress_269 : decode cX5_decompress 269 = .ok (.iload 12, 2) := dk_21 12 (dk_at dksX5_decompress_11 18 rfl rfl)
theorem dX5_decompress_271 : decode cX5_decompress 271 = .ok (.iadd, 1) := dk_96 (dk_at dksX5_decompress_11 20 rfl rfl)
theorem dX5_decompress_272 : decode cX5_decompress 272 = .ok (.istore 9, 2) := dk_54 9 (dk_at dksX5_decompress_11 21 rfl rfl)
theorem dX5_decompress_274 : decode cX5_decompress 274 = .ok (.iload 13, 2) := dk_21 13 (dk_at dksX5_decompress_12 0 rfl rfl)
theorem dX5_decompress_276 : decode cX5_decompress 276 = .ok (.istore 10, 2) := dk_54 10 (dk_at dksX5_decompress_12 2 rfl rfl)
theorem dX5_decompress_278 : decode cX5_decompress 278 = .ok (.goto 256, 3) := dk_167 1 0 (dk_at dksX5_decompress_12 4 rfl rfl)
theorem dX5_decompress_281 : decode cX5_decompress 281 = .ok (.aload_n 1, 1) := dk_43 (dk_at dksX5_decompress_12 7 rfl rfl)
theorem dX5_decompress_282 : decode cX5_decompress 282 = .ok (.iload 9, 2) := dk_21 9 (dk_at dksX5_decompress_12 8 rfl rfl)
theorem dX5_decompress_284 : decode cX5_decompress 284 = .ok (.aload 4, 2) := dk_25 4 (dk_at dksX5_decompress_12 10 rfl rfl)
theorem dX5_decompress_286 : decode cX5_decompress 286 = .ok (.iload 10, 2) := dk_21 10 (dk_at dksX5_decompress_12 12 rfl rfl)
theorem dX5_decompress_288 : decode cX5_decompress 288 = .ok (.iload 12, 2) := dk_21 12 (dk_at dksX5_decompress_12 14 rfl rfl)
theorem dX5_decompress_290 : decode cX5_decompress 290 = .ok (.invokestatic 43, 3) := dk_184 0 43 (dk_at dksX5_decompress_12 16 rfl rfl)
theorem dX5_decompress_293 : decode cX5_decompress 293 = .ok (.iload 9, 2) := dk_21 9 (dk_at dksX5_decompress_12 19 rfl rfl)
theorem dX5_decompress_295 : decode cX5_decompress 295 = .ok (.iload 12, 2) := dk_21 12 (dk_at dksX5_decompress_12 21 rfl rfl)
theorem dX5_decompress_297 : decode cX5_decompress 297 = .ok (.iadd, 1) := dk_96 (dk_at dksX5_decompress_12 23 rfl rfl)
theorem dX5_decompress_298 : decode cX5_decompress 298 = .ok (.istore 9, 2) := dk_54 9 (dk_at dksX5_decompress_13 0 rfl rfl)
theorem dX5_decompress_300 : decode cX5_decompress 300 = .ok (.iload 13, 2) := dk_21 13 (dk_at dksX5_decompress_13 2 rfl rfl)
theorem dX5_decompress_302 : decode cX5_decompress 302 = .ok (.istore 10, 2) := dk_54 10 (dk_at dksX5_decompress_13 4 rfl rfl)
theorem dX5_decompress_304 : decode cX5_decompress 304 = .ok (.aload_n 1, 1) := dk_43 (dk_at dksX5_decompress_13 6 rfl rfl)
theorem dX5_decompress_305 : decode cX5_decompress 305 = .ok (.iload 9, 2) := dk_21 9 (dk_at dksX5_decompress_13 7 rfl rfl)
theorem dX5_decompress_307 : decode cX5_decompress 307 = .ok (.invokestatic 46, 3) := dk_184 0 46 (dk_at dksX5_decompress_13 9 rfl rfl)
theorem dX5_decompress_310 : decode cX5_decompress 310 = .ok (.istore 14, 2) := dk_54 14 (dk_at dksX5_decompress_13 12 rfl rfl)
theorem dX5_decompress_312 : decode cX5_decompress 312 = .ok (.iinc 9 2, 3) := dk_132 9 2 (dk_at dksX5_decompress_13 14 rfl rfl)
theorem dX5_decompress_315 : decode cX5_decompress 315 = .ok (.iload 10, 2) := dk_21 10 (dk_at dksX5_decompress_13 17 rfl rfl)
theorem dX5_decompress_317 : decode cX5_decompress 317 = .ok (.iload 14, 2) := dk_21 14 (dk_at dksX5_decompress_13 19 rfl rfl)
theorem dX5_decompress_319 : decode cX5_decompress 319 = .ok (.isub, 1) := dk_100 (dk_at dksX5_decompress_13 21 rfl rfl)
theorem dX5_decompress_320 : decode cX5_decompress 320 = .ok (.istore 15, 2) := dk_54 15 (dk_at dksX5_decompress_13 22 rfl rfl)
theorem dX5_decompress_322 : decode cX5_decompress 322 = .ok (.iload 15, 2) := dk_21 15 (dk_at dksX5_decompress_14 0 rfl rfl)
theorem dX5_decompress_324 : decode cX5_decompress 324 = .ok (.iload 5, 2) := dk_21 5 (dk_at dksX5_decompress_14 2 rfl rfl)
theorem dX5_decompress_326 : decode cX5_decompress 326 = .ok (.if_icmp .ge 13, 3) := dk_162 0 13 (dk_at dksX5_decompress_14 4 rfl rfl)
theorem dX5_decompress_329 : decode cX5_decompress 329 = .ok (.new 17, 3) := dk_187 0 17 (dk_at dksX5_decompress_14 7 rfl rfl)
theorem dX5_decompress_332 : decode cX5_decompress 332 = .ok (.dup, 1) := dk_89 (dk_at dksX5_decompress_14 10 rfl rfl)
theorem dX5_decompress_333 : decode cX5_decompress 333 = .ok (.ldc 24, 2) := dk_18 24 (dk_at dksX5_decompress_14 11 rfl rfl)
theorem dX5_decompress_335 : decode cX5_decompress 335 = .ok (.invokespecial 21, 3) := dk_183 0 21 (dk_at dksX5_decompress_14 13 rfl rfl)
theorem dX5_decompress_338 : decode cX5_decompress 338 = .ok (.athrow, 1) := dk_191 (dk_at dksX5_decompress_14 16 rfl rfl)
theorem dX5_decompress_339 : decode cX5_decompress 339 = .ok (.iload 11, 2) := dk_21 11 (dk_at dksX5_decompress_14 17 rfl rfl)
theorem dX5_decompress_341 : decode cX5_decompress 341 = .ok (.bipush 15, 2) := dk_16 15 (dk_at dksX5_decompress_14 19 rfl rfl)
theorem dX5_decompress_343 : decode cX5_decompress 343 = .ok (.iand, 1) := dk_126 (dk_at dksX5_decompress_14 21 rfl rfl)
theorem dX5_decompress_344 : decode cX5_decompress 344 = .ok (.istore 16, 2) := dk_54 16 (dk_at dksX5_decompress_14 22 rfl rfl)
theorem dX5_decompress_346 : decode cX5_decompress 346 = .ok (.iload 16, 2) := dk_21 16 (dk_at dksX5_decompress_15 0 rfl rfl)
theorem dX5_decompress_348 : decode cX5_decompress 348 = .ok (.bipush 15, 2) := dk_16 15 (dk_at dksX5_decompress_15 2 rfl rfl)
theorem dX5_decompress_350 : decode cX5_decompress 350 = .ok (.if_icmp .ne 61, 3) := dk_160 0 61 (dk_at dksX5_decompress_15 4 rfl rfl)
theorem dX5_decompress_353 : decode cX5_decompress 353 = .ok (.iconst (-1), 1) := dk_2 (dk_at dksX5_decompress_15 7 rfl rfl)
theorem dX5_decompress_354 : decode cX5_decompress 354 = .ok (.istore 17, 2) := dk_54 17 (dk_at dksX5_decompress_15 8 rfl rfl)
theorem dX5_decompress_356 : decode cX5_decompress 356 = .ok (.iload 9, 2) := dk_21 9 (dk_at dksX5_decompress_15 10 rfl rfl)
theorem dX5_decompress_358 : decode cX5_decompress 358 = .ok (.iload 7, 2) := dk_21 7 (dk_at dksX5_decompress_15 12 rfl rfl)
theorem dX5_decompress_360 : decode cX5_decompress 360 = .ok (.if_icmp .ge 40, 3) := dk_162 0 40 (dk_at dksX5_decompress_15 14 rfl rfl)
theorem dX5_decompress_363 : decode cX5_decompress 363 = .ok (.aload_n 1, 1) := dk_43 (dk_at dksX5_decompress_15 17 rfl rfl)
theorem dX5_decompress_364 : decode cX5_decompress 364 = .ok (.iload 9, 2) := dk_21 9 (dk_at dksX5_decompress_15 18 rfl rfl)
theorem dX5_decompress_366 : decode cX5_decompress 366 = .ok (.iinc 9 1, 3) := dk_132 9 1 (dk_at dksX5_decompress_15 20 rfl rfl)
theorem dX5_decompress_369 : decode cX5_decompress 369 = .ok (.invokestatic 13, 3) := dk_184 0 13 (dk_at dksX5_decompress_16 0 rfl rfl)
theorem dX5_decompress_372 : decode cX5_decompress 372 = .ok (.dup, 1) := dk_89 (dk_at dksX5_decompress_16 3 rfl rfl)
theorem dX5_decompress_373 : decode cX5_decompress 373 = .ok (.istore 17, 2) := dk_54 17 (dk_at dksX5_decompress_16 4 rfl rfl)
theorem dX5_decompress_375 : decode cX5_decompress 375 = .ok (.iconst (-1), 1) := dk_2 (dk_at dksX5_decompress_16 6 rfl rfl)
theorem dX5_decompress_376 : decode cX5_decompress 376 = .ok (.if_icmp .ne 24, 3) := dk_160 0 24 (dk_at dksX5_decompress_16 7 rfl rfl)
theorem dX5_decompress_379 : decode cX5_decompress 379 = .ok (.iinc 16 255, 6) := by decide +kernel
theorem dX5_decompress_385 : decode cX5_decompress 385 = .ok (.iload 16, 2) := dk_21 16 (dk_at dksX5_decompress_16 16 rfl rfl)
theorem dX5_decompress_387 : decode cX5_decompress 387 = .ok (.ifCond .ge (-31), 3) := dk_156 255 225 (dk_at dksX5_decompress_16 18 rfl rfl)
theorem dX5_decompress_390 : decode cX5_decompress 390 = .ok (.new 17, 3) := dk_187 0 17 (dk_at dksX5_decompress_16 21 rfl rfl)
theorem dX5_decompress_393 : decode cX5_decompress 393 = .ok (.dup, 1) := dk_89 (dk_at dksX5_decompress_17 0 rfl rfl)
theorem dX5_decompress_394 : decode cX5_decompress 394 = .ok (.ldc 50, 2) := dk_18 50 (dk_at dksX5_decompress_17 1 rfl rfl)
theorem dX5_decompress_396 : decode cX5_decompress 396 = .ok (.invokespecial 21, 3) := dk_183 0 21 (dk_at dksX5_decompress_17 3 rfl rfl)
theorem dX5_decompress_399 : decode cX5_decompress 399 = .ok (.athrow, 1) := dk_191 (dk_at dksX5_decompress_17 6 rfl rfl)
theorem dX5_decompress_400 : decode cX5_decompress 400 = .ok (.iload 16, 2) := dk_21 16 (dk_at dksX5_decompress_17 7 rfl rfl)
theorem dX5_decompress_402 : decode cX5_decompress 402 = .ok (.iload 17, 2) := dk_21 17 (dk_at dksX5_decompress_17 9 rfl rfl)
theorem dX5_decompress_404 : decode cX5_decompress 404 = .ok (.sipush 255, 3) := dk_17 0 255 (dk_at dksX5_decompress_17 11 rfl rfl)
theorem dX5_decompress_407 : decode cX5_decompress 407 = .ok (.iand, 1) := dk_126 (dk_at dksX5_decompress_17 14 rfl rfl)
theorem dX5_decompress_408 : decode cX5_decompress 408 = .ok (.iadd, 1) := dk_96 (dk_at dksX5_decompress_17 15 rfl rfl)
theorem dX5_decompress_409 : decode cX5_decompress 409 = .ok (.istore 16, 2) := dk_54 16 (dk_at dksX5_decompress_17 16 rfl rfl)
theorem dX5_decompress_411 : decode cX5_decompress 411 = .ok (.iinc 16 4, 3) := dk_132 16 4 (dk_at dksX5_decompress_17 18 rfl rfl)
theorem dX5_decompress_414 : decode cX5_decompress 414 = .ok (.iload 10, 2) := dk_21 10 (dk_at dksX5_decompress_17 21 rfl rfl)
theorem dX5_decompress_416 : decode cX5_decompress 416 = .ok (.iload 16, 2) := dk_21 16 (dk_at dksX5_decompress_18 0 rfl rfl)
theorem dX5_decompress_418 : decode cX5_decompress 418 = .ok (.iadd, 1) := dk_96 (dk_at dksX5_decompress_18 2 rfl rfl)
theorem dX5_decompress_419 : decode cX5_decompress 419 = .ok (.istore 17, 2) := dk_54 17 (dk_at dksX5_decompress_18 3 rfl rfl)
theorem dX5_decompress_421 : decode cX5_decompress 421 = .ok (.iload 17, 2) := dk_21 17 (dk_at dksX5_decompress_18 5 rfl rfl)
theorem dX5_decompress_423 : decode cX5_decompress 423 = .ok (.iload 10, 2) := dk_21 10 (dk_at dksX5_decompress_18 7 rfl rfl)
theorem dX5_decompress_425 : decode cX5_decompress 425 = .ok (.if_icmp .ge 13, 3) := dk_162 0 13 (dk_at dksX5_decompress_18 9 rfl rfl)
theorem dX5_decompress_428 : decode cX5_decompress 428 = .ok (.new 17, 3) := dk_187 0 17 (dk_at dksX5_decompress_18 12 rfl rfl)
theorem dX5_decompress_431 : decode cX5_decompress 431 = .ok (.dup, 1) := dk_89 (dk_at dksX5_decompress_18 15 rfl rfl)
theorem dX5_decompress_432 : decode cX5_decompress 432 = .ok (.ldc 50, 2) := dk_18 50 (dk_at dksX5_decompress_18 16 rfl rfl)
theorem dX5_decompress_434 : decode cX5_decompress 434 = .ok (.invokespecial 21, 3) := dk_183 0 21 (dk_at dksX5_decompress_18 18 rfl rfl)
theorem dX5_decompress_437 : decode cX5_decompress 437 = .ok (.athrow, 1) := dk_191 (dk_at dksX5_decompress_18 21 rfl rfl)
theorem dX5_decompress_438 : decode cX5_decompress 438 = .ok (.iload 14, 2) := dk_21 14 (dk_at dksX5_decompress_18 22 rfl rfl)
theorem dX5_decompress_440 : decode cX5_decompress 440 = .ok (.ifCond .ne 32, 3) := dk_154 0 32 (dk_at dksX5_decompress_19 0 rfl rfl)
theorem dX5_decompress_443 : decode cX5_decompress 443 = .ok (.iload 17, 2) := dk_21 17 (dk_at dksX5_decompress_19 3 rfl rfl)
theorem dX5_decompress_445 : decode cX5_decompress 445 = .ok (.iload 8, 2) := dk_21 8 (dk_at dksX5_decompress_19 5 rfl rfl)
theorem dX5_decompress_447 : decode cX5_decompress 447 = .ok (.if_icmp .le 13, 3) := dk_164 0 13 (dk_at dksX5_decompress_19 7 rfl rfl)
theorem dX5_decompress_450 : decode cX5_decompress 450 = .ok (.new 17, 3) := dk_187 0 17 (dk_at dksX5_decompress_19 10 rfl rfl)
theorem dX5_decompress_453 : decode cX5_decompress 453 = .ok (.dup, 1) := dk_89 (dk_at dksX5_decompress_19 13 rfl rfl)
theorem dX5_decompress_454 : decode cX5_decompress 454 = .ok (.ldc 24, 2) := dk_18 24 (dk_at dksX5_decompress_19 14 rfl rfl)
theorem dX5_decompress_456 : decode cX5_decompress 456 = .ok (.invokespecial 21, 3) := dk_183 0 21 (dk_at dksX5_decompress_19 16 rfl rfl)
theorem dX5_decompress_459 : decode cX5_decompress 459 = .ok (.athrow, 1) := dk_191 (dk_at dksX5_decompress_19 19 rfl rfl)
theorem dX5_decompress_460 : decode cX5_decompress 460 = .ok (.aload 4, 2) := dk_25 4 (dk_at dksX5_decompress_19 20 rfl rfl)
theorem dX5_decompress_462 : decode cX5_decompress 462 = .ok (.iload 10, 2) := dk_21 10 (dk_at dksX5_decompress_19 22 rfl rfl)
theorem dX5_decompress_464 : decode cX5_decompress 464 = .ok (.iload 17, 2) := dk_21 17 (dk_at dksX5_decompress_20 0 rfl rfl)
theorem dX5_decompress_466 : decode cX5_decompress 466 = .ok (.invokestatic 52, 3) := dk_184 0 52 (dk_at dksX5_decompress_20 2 rfl rfl)
theorem dX5_decompress_469 : decode cX5_decompress 469 = .ok (.goto 58, 3) := dk_167 0 58 (dk_at dksX5_decompress_20 5 rfl rfl)
theorem dX5_decompress_472 : decode cX5_decompress 472 = .ok (.iload 8, 2) := dk_21 8 (dk_at dksX5_decompress_20 8 rfl rfl)
theorem dX5_decompress_474 : decode cX5_decompress 474 = .ok (.iload 17, 2) := dk_21 17 (dk_at dksX5_decompress_20 10 rfl rfl)
theorem dX5_decompress_476 : decode cX5_decompress 476 = .ok (.isub, 1) := dk_100 (dk_at dksX5_decompress_20 12 rfl rfl)
theorem dX5_decompress_477 : decode cX5_decompress 477 = .ok (.bipush 8, 2) := dk_16 8 (dk_at dksX5_decompress_20 13 rfl rfl)
theorem dX5_decompress_479 : decode cX5_decompress 479 = .ok (.invokestatic 30, 3) := dk_184 0 30 (dk_at dksX5_decompress_20 15 rfl rfl)
theorem dX5_decompress_482 : decode cX5_decompress 482 = .ok (.ifCond .eq 34, 3) := dk_153 0 34 (dk_at dksX5_decompress_20 18 rfl rfl)
theorem dX5_decompress_485 : decode cX5_decompress 485 = .ok (.iload 17, 2) := dk_21 17 (dk_at dksX5_decompress_20 21 rfl rfl)
theorem dX5_decompress_487 : decode cX5_decompress 487 = .ok (.iload 8, 2) := dk_21 8 (dk_at dksX5_decompress_21 0 rfl rfl)
theorem dX5_decompress_489 : decode cX5_decompress 489 = .ok (.if_icmp .le 13, 3) := dk_164 0 13 (dk_at dksX5_decompress_21 2 rfl rfl)
theorem dX5_decompress_492 : decode cX5_decompress 492 = .ok (.new 17, 3) := dk_187 0 17 (dk_at dksX5_decompress_21 5 rfl rfl)
theorem dX5_decompress_495 : decode cX5_decompress 495 = .ok (.dup, 1) := dk_89 (dk_at dksX5_decompress_21 8 rfl rfl)
theorem dX5_decompress_496 : decode cX5_decompress 496 = .ok (.ldc 24, 2) := dk_18 24 (dk_at dksX5_decompress_21 9 rfl rfl)
theorem dX5_decompress_498 : decode cX5_decompress 498 = .ok (.invokespecial 21, 3) := dk_183 0 21 (dk_at dksX5_decompress_21 11 rfl rfl)
theorem dX5_decompress_501 : decode cX5_decompress 501 = .ok (.athrow, 1) := dk_191 (dk_at dksX5_decompress_21 14 rfl rfl)
theorem dX5_decompress_502 : decode cX5_decompress 502 = .ok (.aload 4, 2) := dk_25 4 (dk_at dksX5_decompress_21 15 rfl rfl)
theorem dX5_decompress_504 : decode cX5_decompress 504 = .ok (.iload 15, 2) := dk_21 15 (dk_at dksX5_decompress_21 17 rfl rfl)
theorem dX5_decompress_506 : decode cX5_decompress 506 = .ok (.iload 10, 2) := dk_21 10 (dk_at dksX5_decompress_21 19 rfl rfl)
theorem dX5_decompress_508 : decode cX5_decompress 508 = .ok (.iload 16, 2) := dk_21 16 (dk_at dksX5_decompress_21 21 rfl rfl)
theorem dX5_decompress_510 : decode cX5_decompress 510 = .ok (.invokestatic 55, 3) := dk_184 0 55 (dk_at dksX5_decompress_22 0 rfl rfl)
theorem dX5_decompress_513 : decode cX5_decompress 513 = .ok (.goto 14, 3) := dk_167 0 14 (dk_at dksX5_decompress_22 3 rfl rfl)
theorem dX5_decompress_516 : decode cX5_decompress 516 = .ok (.aload 4, 2) := dk_25 4 (dk_at dksX5_decompress_22 6 rfl rfl)
theorem dX5_decompress_518 : decode cX5_decompress 518 = .ok (.iload 15, 2) := dk_21 15 (dk_at dksX5_decompress_22 8 rfl rfl)
theorem dX5_decompress_520 : decode cX5_decompress 520 = .ok (.iload 10, 2) := dk_21 10 (dk_at dksX5_decompress_22 10 rfl rfl)
theorem dX5_decompress_522 : decode cX5_decompress 522 = .ok (.iload 17, 2) := dk_21 17 (dk_at dksX5_decompress_22 12 rfl rfl)
theorem dX5_decompress_524 : decode cX5_decompress 524 = .ok (.invokestatic 59, 3) := dk_184 0 59 (dk_at dksX5_decompress_22 14 rfl rfl)
theorem dX5_decompress_527 : decode cX5_decompress 527 = .ok (.iload 17, 2) := dk_21 17 (dk_at dksX5_decompress_22 17 rfl rfl)
theorem dX5_decompress_529 : decode cX5_decompress 529 = .ok (.istore 10, 2) := dk_54 10 (dk_at dksX5_decompress_22 19 rfl rfl)
theorem dX5_decompress_531 : decode cX5_decompress 531 = .ok (.goto (-467), 3) := dk_167 254 45 (dk_at dksX5_decompress_22 21 rfl rfl)
theorem dX5_decompress_534 : decode cX5_decompress 534 = .ok (.iload 10, 2) := dk_21 10 (dk_at dksX5_decompress_23 0 rfl rfl)
theorem dX5_decompress_536 : decode cX5_decompress 536 = .ok (.iload 5, 2) := dk_21 5 (dk_at dksX5_decompress_23 2 rfl rfl)
theorem dX5_decompress_538 : decode cX5_decompress 538 = .ok (.isub, 1) := dk_100 (dk_at dksX5_decompress_23 4 rfl rfl)
theorem dX5_decompress_539 : decode cX5_decompress 539 = .ok (.ireturn, 1) := dk_172 (dk_at dksX5_decompress_23 5 rfl rfl)
theorem q7 : (Jvm.Cond.initialized "LZ4JavaSafeSafeDecompressor") ∈ lw_all := lw_g (lw_at lw_m1 5 rfl) rfl
theorem q57 : (Jvm.Cond.instantiable "LZ4JavaSafeSafeDecompressor" (0 : Nat)) ∈ lw_all := lw_g (lw_at lw_m1 55 rfl) rfl
theorem q59 : (Jvm.Cond.instanceMethod ({ cls := "LZ4JavaSafeSafeDecompressor", name := "<init>", desc := "()V" } : Jvm.MethodName)) ∈ lw_all := lw_g (lw_at lw_m1 57 rfl) rfl
theorem q60 : (Jvm.Cond.code ({ cls := "LZ4JavaSafeSafeDecompressor", name := "<init>", desc := "()V" } : Jvm.MethodName) prog_7_method_1_code (1 : Nat) (Option.none : Option Jvm.ClassFile.FieldType)) ∈ lw_all := lw_g (lw_at lw_m1 58 rfl) rfl
theorem q61 : (Jvm.Cond.methodLink "LZ4JavaSafeSafeDecompressor" (1 : Nat) ({ cls := "LZ4SafeDecompressor", name := "<init>", desc := "()V" } : Jvm.MethodName)) ∈ lw_all := lw_g (lw_at lw_m1 59 rfl) rfl
theorem q65 : (Jvm.Cond.superclass "LZ4JavaSafeSafeDecompressor" "LZ4SafeDecompressor") ∈ lw_all := lw_g (lw_at lw_m1 63 rfl) rfl
theorem q358 : (Jvm.Cond.selects "LZ4JavaSafeSafeDecompressor" ({ cls := "LZ4SafeDecompressor", name := "decompress", desc := "([BII[BII)I" } : Jvm.MethodName) ({ cls := "LZ4JavaSafeSafeDecompressor", name := "decompress", desc := "([BII[BII)I" } : Jvm.MethodName)) ∈ lw_all := lw_g (lw_at lw_m2 116 rfl) rfl
theorem q359 : (Jvm.Cond.instanceMethod ({ cls := "LZ4JavaSafeSafeDecompressor", name := "decompress", desc := "([BII[BII)I" } : Jvm.MethodName)) ∈ lw_all := lw_g (lw_at lw_m2 117 rfl) rfl
theorem q360 : (Jvm.Cond.code ({ cls := "LZ4JavaSafeSafeDecompressor", name := "decompress", desc := "([BII[BII)I" } : Jvm.MethodName) prog_7_method_2_code (18 : Nat) (Option.some Jvm.ClassFile.FieldType.int)) ∈ lw_all := lw_g (lw_at lw_m2 118 rfl) rfl
theorem q361 : (Jvm.Cond.methodLink "LZ4JavaSafeSafeDecompressor" (7 : Nat) ({ cls := "SafeUtils", name := "checkRange", desc := "([BII)V" } : Jvm.MethodName)) ∈ lw_all := lw_g (lw_at lw_m2 119 rfl) rfl
theorem q362 : (Jvm.Cond.methodLink "LZ4JavaSafeSafeDecompressor" (13 : Nat) ({ cls := "SafeUtils", name := "readByte", desc := "([BI)B" } : Jvm.MethodName)) ∈ lw_all := lw_g (lw_at lw_m2 120 rfl) rfl
theorem q363 : (Jvm.Cond.classLink "LZ4JavaSafeSafeDecompressor" (17 : Nat) "LZ4Exception") ∈ lw_all := lw_g (lw_at lw_m2 121 rfl) rfl
theorem q364 : (Jvm.Cond.stringRef "LZ4JavaSafeSafeDecompressor" (19 : Nat) "Output buffer too small") ∈ lw_tbl := lw_at lw_m2 122 rfl
theorem q365 : (Jvm.Cond.methodLink "LZ4JavaSafeSafeDecompressor" (21 : Nat) ({ cls := "LZ4Exception", name := "<init>", desc := "(Ljava/lang/String;)V" } : Jvm.MethodName)) ∈ lw_all := lw_g (lw_at lw_m2 123 rfl) rfl
theorem q366 : (Jvm.Cond.stringRef "LZ4JavaSafeSafeDecompressor" (24 : Nat) "left out") ∈ lw_tbl := lw_at lw_m2 124 rfl
theorem q367 : (Jvm.Cond.stringRef "LZ4JavaSafeSafeDecompressor" (28 : Nat) "Too large literalLen") ∈ lw_tbl := lw_at lw_m2 125 rfl
theorem q368 : (Jvm.Cond.methodLink "LZ4JavaSafeSafeDecompressor" (30 : Nat) ({ cls := "LZ4Utils", name := "notEnoughSpace", desc := "(II)Z" } : Jvm.MethodName)) ∈ lw_all := lw_g (lw_at lw_m2 126 rfl) rfl
theorem q369 : (Jvm.Cond.methodLink "LZ4JavaSafeSafeDecompressor" (36 : Nat) ({ cls := "LZ4Exception", name := "<init>", desc := "()V" } : Jvm.MethodName)) ∈ lw_all := lw_g (lw_at lw_m2 127 rfl) rfl
theorem q370 : (Jvm.Cond.methodLink "LZ4JavaSafeSafeDecompressor" (37 : Nat) ({ cls := "LZ4SafeUtils", name := "safeArraycopy", desc := "([BI[BII)V" } : Jvm.MethodName)) ∈ lw_all := lw_g (lw_at lw_m2 128 rfl) rfl
theorem q373 : (Jvm.Cond.methodLink "LZ4JavaSafeSafeDecompressor" (43 : Nat) ({ cls := "LZ4SafeUtils", name := "wildArraycopy", desc := "([BI[BII)V" } : Jvm.MethodName)) ∈ lw_all := lw_g (lw_at lw_m2 131 rfl) rfl
theorem q374 : (Jvm.Cond.methodLink "LZ4JavaSafeSafeDecompressor" (46 : Nat) ({ cls := "SafeUtils", name := "readShortLE", desc := "([BI)I" } : Jvm.MethodName)) ∈ lw_all := lw_g (lw_at lw_m2 132 rfl) rfl
theorem q377 : (Jvm.Cond.stringRef "LZ4JavaSafeSafeDecompressor" (50 : Nat) "Too large matchLen") ∈ lw_tbl := lw_at lw_m2 135 rfl
theorem q378 : (Jvm.Cond.methodLink "LZ4JavaSafeSafeDecompressor" (52 : Nat) ({ cls := "LZ4Utils", name := "zero", desc := "([BII)V" } : Jvm.MethodName)) ∈ lw_all := lw_g (lw_at lw_m2 136 rfl) rfl
theorem q622 : (Jvm.Cond.methodLink "LZ4JavaSafeSafeDecompressor" (55 : Nat) ({ cls := "LZ4SafeUtils", name := "safeIncrementalCopy", desc := "([BIII)V" } : Jvm.MethodName)) ∈ lw_all := lw_g (lw_at lw_m3 140 rfl) rfl
theorem q625 : (Jvm.Cond.methodLink "LZ4JavaSafeSafeDecompressor" (59 : Nat) ({ cls := "LZ4SafeUtils", name := "wildIncrementalCopy", desc := "([BIII)V" } : Jvm.MethodName)) ∈ lw_all := lw_g (lw_at lw_m3 143 rfl) rfl
end
section
/-! BlockPacker -/
set_option maxRecDepth 100000
def RX1 : String := "BlockPacker"
def TX1 : u_T := fun k => match k with
  | 0 => ("BlockPacker", "packer", "LLZ4Compressor;", true)
  | 1 => ("BlockPacker", "opener", "LLZ4SafeDecompressor;", true)
  | 2 => ("BlockPacker", "text", "[B", true)
  | 3 => ("BlockPacker", "packed", "[B", true)
  | 4 => ("BlockPacker", "opened", "[B", true)
  | 5 => ("BlockPacker", "size", "I", false)
  | 6 => ("BlockPacker", "length", "I", false)
  | _ => ("BlockPacker", "back", "I", false)
def tyX1 : Nat → FieldType := fun k => match k with
  | 0 => .object "LZ4Compressor"
  | 1 => .object "LZ4SafeDecompressor"
  | 2 => .array .byte
  | 3 => .array .byte
  | 4 => .array .byte
  | 5 => .int
  | 6 => .int
  | _ => .int
abbrev wsX10 : List Cond := u_ws RX1 TX1 8
theorem nmX1 : ∀ a, a < 8 → ∀ b, b < 8 → a ≠ b → (TX1 a).2.1 ≠ (TX1 b).2.1 := by decide +kernel
theorem tyX1_ok : ∀ k, k < 8 → parseFieldDescriptor (TX1 k).2.2.1 = some (tyX1 k) := by decide +kernel
abbrev cX1_init : ByteArray := prog_1_method_1_code
def yX1_init : MethodName := ⟨RX1, "<init>", "()V"⟩
def dkwX1_init_2 : List UInt8 := [17, 64, 0, 188, 8, 181, 0, 30, 42, 2, 181, 0, 33, 177]
abbrev dktX1_init_2 : List UInt8 := dkwX1_init_2 ++ []
def dkwX1_init_1 : List UInt8 := [181, 0, 19, 42, 17, 64, 0, 188, 8, 181, 0, 23, 42, 17, 64, 80, 188, 8, 181, 0, 27, 42]
abbrev dktX1_init_1 : List UInt8 := dkwX1_init_1 ++ dktX1_init_2
def dkwX1_init_0 : List UInt8 := [42, 183, 0, 1, 42, 187, 0, 7, 89, 183, 0, 9, 181, 0, 10, 42, 187, 0, 16, 89, 183, 0, 18]
abbrev dktX1_init_0 : List UInt8 := dkwX1_init_0 ++ dktX1_init_1
theorem dksX1_init_0 : cX1_init.data.toList.drop 0 = dktX1_init_0 := by decide +kernel
theorem dksX1_init_1 : cX1_init.data.toList.drop 23 = dktX1_init_1 := dk_seg dksX1_init_0 23 rfl rfl
theorem dksX1_init_2 : cX1_init.data.toList.drop 45 = dktX1_init_2 := dk_seg dksX1_init_1 22 rfl rfl
theorem dX1_init_0 : decode cX1_init 0 = .ok (.aload_n 0, 1) := dk_42 (dk_at dksX1_init_0 0 rfl rfl)
theorem dX1_init_1 : decode cX1_init 1 = .ok (.invokespecial 1, 3) := dk_183 0 1 (dk_at dksX1_init_0 1 rfl rfl)
theorem dX1_init_4 : decode cX1_init 4 = .ok (.aload_n 0, 1) := dk_42 (dk_at dksX1_init_0 4 rfl rfl)
theorem dX1_init_5 : decode cX1_init 5 = .ok (.new 7, 3) := dk_187 0 7 (dk_at dksX1_init_0 5 rfl rfl)
theorem dX1_init_8 : decode cX1_init 8 = .ok (.dup, 1) := dk_89 (dk_at dksX1_init_0 8 rfl rfl)
theorem dX1_init_9 : decode cX1_init 9 = .ok (.invokespecial 9, 3) := dk_183 0 9 (dk_at dksX1_init_0 9 rfl rfl)
theorem dX1_init_12 : decode cX1_init 12 = .ok (.putfield 10, 3) := dk_181 0 10 (dk_at dksX1_init_0 12 rfl rfl)
theorem dX1_init_15 : decode cX1_init 15 = .ok (.aload_n 0, 1) := dk_42 (dk_at dksX1_init_0 15 rfl rfl)
theorem dX1_init_16 : decode cX1_init 16 = .ok (.new 16, 3) := dk_187 0 16 (dk_at dksX1_init_0 16 rfl rfl)
theorem dX1_init_19 : decode cX1_init 19 = .ok (.dup, 1) := dk_89 (dk_at dksX1_init_0 19 rfl rfl)
theorem dX1_init_20 : decode cX1_init 20 = .ok (.invokespecial 18, 3) := dk_183 0 18 (dk_at dksX1_init_0 20 rfl rfl)
theorem dX1_init_23 : decode cX1_init 23 = .ok (.putfield 19, 3) := dk_181 0 19 (dk_at dksX1_init_1 0 rfl rfl)
theorem dX1_init_26 : decode cX1_init 26 = .ok (.aload_n 0, 1) := dk_42 (dk_at dksX1_init_1 3 rfl rfl)
theorem dX1_init_27 : decode cX1_init 27 = .ok (.sipush 16384, 3) := dk_17 64 0 (dk_at dksX1_init_1 4 rfl rfl)
theorem dX1_init_30 : decode cX1_init 30 = .ok (.newarray .byte, 2) := dk_188_8 (dk_at dksX1_init_1 7 rfl rfl)
theorem dX1_init_32 : decode cX1_init 32 = .ok (.putfield 23, 3) := dk_181 0 23 (dk_at dksX1_init_1 9 rfl rfl)
theorem dX1_init_35 : decode cX1_init 35 = .ok (.aload_n 0, 1) := dk_42 (dk_at dksX1_init_1 12 rfl rfl)
theorem dX1_init_36 : decode cX1_init 36 = .ok (.sipush 16464, 3) := dk_17 64 80 (dk_at dksX1_init_1 13 rfl rfl)
theorem dX1_init_39 : decode cX1_init 39 = .ok (.newarray .byte, 2) := dk_188_8 (dk_at dksX1_init_1 16 rfl rfl)
theorem dX1_init_41 : decode cX1_init 41 = .ok (.putfield 27, 3) := dk_181 0 27 (dk_at dksX1_init_1 18 rfl rfl)
theorem dX1_init_44 : decode cX1_init 44 = .ok (.aload_n 0, 1) := dk_42 (dk_at dksX1_init_1 21 rfl rfl)
theorem dX1_init_45 : decode cX1_init 45 = .ok (.sipush 16384, 3) := dk_17 64 0 (dk_at dksX1_init_2 0 rfl rfl)
theorem dX1_init_48 : decode cX1_init 48 = .ok (.newarray .byte, 2) := dk_188_8 (dk_at dksX1_init_2 3 rfl rfl)
theorem dX1_init_50 : decode cX1_init 50 = .ok (.putfield 30, 3) := dk_181 0 30 (dk_at dksX1_init_2 5 rfl rfl)
theorem dX1_init_53 : decode cX1_init 53 = .ok (.aload_n 0, 1) := dk_42 (dk_at dksX1_init_2 8 rfl rfl)
theorem dX1_init_54 : decode cX1_init 54 = .ok (.iconst (-1), 1) := dk_2 (dk_at dksX1_init_2 9 rfl rfl)
theorem dX1_init_55 : decode cX1_init 55 = .ok (.putfield 33, 3) := dk_181 0 33 (dk_at dksX1_init_2 10 rfl rfl)
theorem dX1_init_58 : decode cX1_init 58 = .ok (.return_, 1) := dk_177 (dk_at dksX1_init_2 13 rfl rfl)
abbrev cX1_put : ByteArray := prog_1_method_2_code
def yX1_put : MethodName := ⟨RX1, "put", "(IIII)Z"⟩
def dkwX1_put_3 : List UInt8 := [181, 0, 37, 4, 172]
abbrev dktX1_put_3 : List UInt8 := dkwX1_put_3 ++ []
def dkwX1_put_2 : List UInt8 := [182, 0, 40, 42, 42, 180, 0, 37, 16, 12, 96, 21, 4, 182, 0, 40, 42, 89, 180, 0, 37, 16, 16, 96]
abbrev dktX1_put_2 : List UInt8 := dkwX1_put_2 ++ dktX1_put_3
def dkwX1_put_1 : List UInt8 := [182, 0, 40, 42, 42, 180, 0, 37, 7, 96, 28, 182, 0, 40, 42, 42, 180, 0, 37, 16, 8, 96, 29]
abbrev dktX1_put_1 : List UInt8 := dkwX1_put_1 ++ dktX1_put_2
def dkwX1_put_0 : List UInt8 := [42, 180, 0, 37, 42, 180, 0, 23, 190, 16, 16, 100, 164, 0, 5, 3, 172, 42, 42, 180, 0, 37, 27]
abbrev dktX1_put_0 : List UInt8 := dkwX1_put_0 ++ dktX1_put_1
theorem dksX1_put_0 : cX1_put.data.toList.drop 0 = dktX1_put_0 := by decide +kernel
theorem dksX1_put_1 : cX1_put.data.toList.drop 23 = dktX1_put_1 := dk_seg dksX1_put_0 23 rfl rfl
theorem dksX1_put_2 : cX1_put.data.toList.drop 46 = dktX1_put_2 := dk_seg dksX1_put_1 23 rfl rfl
theorem dksX1_put_3 : cX1_put.data.toList.drop 70 = dktX1_put_3 := dk_seg dksX1_put_2 24 rfl rfl
theorem dX1_put_0 : decode cX1_put 0 = .ok (.aload_n 0, 1) := dk_42 (dk_at dksX1_put_0 0 rfl rfl)
theorem dX1_put_1 : decode cX1_put 1 = .ok (.getfield 37, 3) := dk_180 0 37 (dk_at dksX1_put_0 1 rfl rfl)
theorem dX1_put_4 : decode cX1_put 4 = .ok (.aload_n 0, 1) := dk_42 (dk_at dksX1_put_0 4 rfl rfl)
theorem dX1_put_5 : decode cX1_put 5 = .ok (.getfield 23, 3) := dk_180 0 23 (dk_at dksX1_put_0 5 rfl rfl)
theorem dX1_put_8 : decode cX1_put 8 = .ok (.arraylength, 1) := dk_190 (dk_at dksX1_put_0 8 rfl rfl)
theorem dX1_put_9 : decode cX1_put 9 = .ok (.bipush 16, 2) := dk_16 16 (dk_at dksX1_put_0 9 rfl rfl)
theorem dX1_put_11 : decode cX1_put 11 = .ok (.isub, 1) := dk_100 (dk_at dksX1_put_0 11 rfl rfl)
theorem dX1_put_12 : decode cX1_put 12 = .ok (.if_icmp .le 5, 3) := dk_164 0 5 (dk_at dksX1_put_0 12 rfl rfl)
theorem dX1_put_15 : decode cX1_put 15 = .ok (.iconst 0, 1) := dk_3 (dk_at dksX1_put_0 15 rfl rfl)
theorem dX1_put_16 : decode cX1_put 16 = .ok (.ireturn, 1) := dk_172 (dk_at dksX1_put_0 16 rfl rfl)
theorem dX1_put_17 : decode cX1_put 17 = .ok (.aload_n 0, 1) := dk_42 (dk_at dksX1_put_0 17 rfl rfl)
theorem dX1_put_18 : decode cX1_put 18 = .ok (.aload_n 0, 1) := dk_42 (dk_at dksX1_put_0 18 rfl rfl)
theorem dX1_put_19 : decode cX1_put 19 = .ok (.getfield 37, 3) := dk_180 0 37 (dk_at dksX1_put_0 19 rfl rfl)
theorem dX1_put_22 : decode cX1_put 22 = .ok (.iload_n 1, 1) := dk_27 (dk_at dksX1_put_0 22 rfl rfl)
theorem dX1_put_23 : decode cX1_put 23 = .ok (.invokevirtual 40, 3) := dk_182 0 40 (dk_at dksX1_put_1 0 rfl rfl)
theorem dX1_put_26 : decode cX1_put 26 = .ok (.aload_n 0, 1) := dk_42 (dk_at dksX1_put_1 3 rfl rfl)
theorem dX1_put_27 : decode cX1_put 27 = .ok (.aload_n 0, 1) := dk_42 (dk_at dksX1_put_1 4 rfl rfl)
theorem dX1_put_28 : decode cX1_put 28 = .ok (.getfield 37, 3) := dk_180 0 37 (dk_at dksX1_put_1 5 rfl rfl)
theorem dX1_put_31 : decode cX1_put 31 = .ok (.iconst 4, 1) := dk_7 (dk_at dksX1_put_1 8 rfl rfl)
theorem dX1_put_32 : decode cX1_put 32 = .ok (.iadd, 1) := dk_96 (dk_at dksX1_put_1 9 rfl rfl)
theorem dX1_put_33 : decode cX1_put 33 = .ok (.iload_n 2, 1) := dk_28 (dk_at dksX1_put_1 10 rfl rfl)
theorem dX1_put_34 : decode cX1_put 34 = .ok (.invokevirtual 40, 3) := dk_182 0 40 (dk_at dksX1_put_1 11 rfl rfl)
theorem dX1_put_37 : decode cX1_put 37 = .ok (.aload_n 0, 1) := dk_42 (dk_at dksX1_put_1 14 rfl rfl)
theorem dX1_put_38 : decode cX1_put 38 = .ok (.aload_n 0, 1) := dk_42 (dk_at dksX1_put_1 15 rfl rfl)
theorem dX1_put_39 : decode cX1_put 39 = .ok (.getfield 37, 3) := dk_180 0 37 (dk_at dksX1_put_1 16 rfl rfl)
theorem dX1_put_42 : decode cX1_put 42 = .ok (.bipush 8, 2) := dk_16 8 (dk_at dksX1_put_1 19 rfl rfl)
theorem dX1_put_44 : decode cX1_put 44 = .ok (.iadd, 1) := dk_96 (dk_at dksX1_put_1 21 rfl rfl)
theorem dX1_put_45 : decode cX1_put 45 = .ok (.iload_n 3, 1) := dk_29 (dk_at dksX1_put_1 22 rfl rfl)
theorem dX1_put_46 : decode cX1_put 46 = .ok (.invokevirtual 40, 3) := dk_182 0 40 (dk_at dksX1_put_2 0 rfl rfl)
theorem dX1_put_49 : decode cX1_put 49 = .ok (.aload_n 0, 1) := dk_42 (dk_at dksX1_put_2 3 rfl rfl)
theorem dX1_put_50 : decode cX1_put 50 = .ok (.aload_n 0, 1) := dk_42 (dk_at dksX1_put_2 4 rfl rfl)
theorem dX1_put_51 : decode cX1_put 51 = .ok (.getfield 37, 3) := dk_180 0 37 (dk_at dksX1_put_2 5 rfl rfl)
theorem dX1_put_54 : decode cX1_put 54 = .ok (.bipush 12, 2) := dk_16 12 (dk_at dksX1_put_2 8 rfl rfl)
theorem dX1_put_56 : decode cX1_put 56 = .ok (.iadd, 1) := dk_96 (dk_at dksX1_put_2 10 rfl rfl)
theorem dX1_put_57 : decode cX1_put 57 = .ok (.iload 4, 2) := dk_21 4 (dk_at dksX1_put_2 11 rfl rfl)
theorem dX1_put_59 : decode cX1_put 59 = .ok (.invokevirtual 40, 3) := dk_182 0 40 (dk_at dksX1_put_2 13 rfl rfl)
theorem dX1_put_62 : decode cX1_put 62 = .ok (.aload_n 0, 1) := dk_42 (dk_at dksX1_put_2 16 rfl rfl)
theorem dX1_put_63 : decode cX1_put 63 = .ok (.dup, 1) := dk_89 (dk_at dksX1_put_2 17 rfl rfl)
theorem dX1_put_64 : decode cX1_put 64 = .ok (.getfield 37, 3) := dk_180 0 37 (dk_at dksX1_put_2 18 rfl rfl)
theorem dX1_put_67 : decode cX1_put 67 = .ok (.bipush 16, 2) := dk_16 16 (dk_at dksX1_put_2 21 rfl rfl)
theorem dX1_put_69 : decode cX1_put 69 = .ok (.iadd, 1) := dk_96 (dk_at dksX1_put_2 23 rfl rfl)
theorem dX1_put_70 : decode cX1_put 70 = .ok (.putfield 37, 3) := dk_181 0 37 (dk_at dksX1_put_3 0 rfl rfl)
theorem dX1_put_73 : decode cX1_put 73 = .ok (.iconst 1, 1) := dk_4 (dk_at dksX1_put_3 3 rfl rfl)
theorem dX1_put_74 : decode cX1_put 74 = .ok (.ireturn, 1) := dk_172 (dk_at dksX1_put_3 4 rfl rfl)
abbrev cX1_word : ByteArray := prog_1_method_3_code
def yX1_word : MethodName := ⟨RX1, "word", "(II)V"⟩
def dkwX1_word_1 : List UInt8 := [42, 180, 0, 23, 27, 5, 96, 28, 16, 8, 122, 145, 84, 42, 180, 0, 23, 27, 6, 96, 28, 145, 84, 177]
abbrev dktX1_word_1 : List UInt8 := dkwX1_word_1 ++ []
def dkwX1_word_0 : List UInt8 := [42, 180, 0, 23, 27, 28, 16, 24, 122, 145, 84, 42, 180, 0, 23, 27, 4, 96, 28, 16, 16, 122, 145, 84]
abbrev dktX1_word_0 : List UInt8 := dkwX1_word_0 ++ dktX1_word_1
theorem dksX1_word_0 : cX1_word.data.toList.drop 0 = dktX1_word_0 := by decide +kernel
theorem dksX1_word_1 : cX1_word.data.toList.drop 24 = dktX1_word_1 := dk_seg dksX1_word_0 24 rfl rfl
theorem dX1_word_0 : decode cX1_word 0 = .ok (.aload_n 0, 1) := dk_42 (dk_at dksX1_word_0 0 rfl rfl)
theorem dX1_word_1 : decode cX1_word 1 = .ok (.getfield 23, 3) := dk_180 0 23 (dk_at dksX1_word_0 1 rfl rfl)
theorem dX1_word_4 : decode cX1_word 4 = .ok (.iload_n 1, 1) := dk_27 (dk_at dksX1_word_0 4 rfl rfl)
theorem dX1_word_5 : decode cX1_word 5 = .ok (.iload_n 2, 1) := dk_28 (dk_at dksX1_word_0 5 rfl rfl)
theorem dX1_word_6 : decode cX1_word 6 = .ok (.bipush 24, 2) := dk_16 24 (dk_at dksX1_word_0 6 rfl rfl)
theorem dX1_word_8 : decode cX1_word 8 = .ok (.ishr, 1) := dk_122 (dk_at dksX1_word_0 8 rfl rfl)
theorem dX1_word_9 : decode cX1_word 9 = .ok (.i2b, 1) := dk_145 (dk_at dksX1_word_0 9 rfl rfl)
theorem dX1_word_10 : decode cX1_word 10 = .ok (.bastore, 1) := dk_84 (dk_at dksX1_word_0 10 rfl rfl)
theorem dX1_word_11 : decode cX1_word 11 = .ok (.aload_n 0, 1) := dk_42 (dk_at dksX1_word_0 11 rfl rfl)
theorem dX1_word_12 : decode cX1_word 12 = .ok (.getfield 23, 3) := dk_180 0 23 (dk_at dksX1_word_0 12 rfl rfl)
theorem dX1_word_15 : decode cX1_word 15 = .ok (.iload_n 1, 1) := dk_27 (dk_at dksX1_word_0 15 rfl rfl)
theorem dX1_word_16 : decode cX1_word 16 = .ok (.iconst 1, 1) := dk_4 (dk_at dksX1_word_0 16 rfl rfl)
theorem dX1_word_17 : decode cX1_word 17 = .ok (.iadd, 1) := dk_96 (dk_at dksX1_word_0 17 rfl rfl)
theorem dX1_word_18 : decode cX1_word 18 = .ok (.iload_n 2, 1) := dk_28 (dk_at dksX1_word_0 18 rfl rfl)
theorem dX1_word_19 : decode cX1_word 19 = .ok (.bipush 16, 2) := dk_16 16 (dk_at dksX1_word_0 19 rfl rfl)
theorem dX1_word_21 : decode cX1_word 21 = .ok (.ishr, 1) := dk_122 (dk_at dksX1_word_0 21 rfl rfl)
theorem dX1_word_22 : decode cX1_word 22 = .ok (.i2b, 1) := dk_145 (dk_at dksX1_word_0 22 rfl rfl)
theorem dX1_word_23 : decode cX1_word 23 = .ok (.bastore, 1) := dk_84 (dk_at dksX1_word_0 23 rfl rfl)
theorem dX1_word_24 : decode cX1_word 24 = .ok (.aload_n 0, 1) := dk_42 (dk_at dksX1_word_1 0 rfl rfl)
theorem dX1_word_25 : decode cX1_word 25 = .ok (.getfield 23, 3) := dk_180 0 23 (dk_at dksX1_word_1 1 rfl rfl)
theorem dX1_word_28 : decode cX1_word 28 = .ok (.iload_n 1, 1) := dk_27 (dk_at dksX1_word_1 4 rfl rfl)
theorem dX1_word_29 : decode cX1_word 29 = .ok (.iconst 2, 1) := dk_5 (dk_at dksX1_word_1 5 rfl rfl)
theorem dX1_word_30 : decode cX1_word 30 = .ok (.iadd, 1) := dk_96 (dk_at dksX1_word_1 6 rfl rfl)
theorem dX1_word_31 : decode cX1_word 31 = .ok (.iload_n 2, 1) := dk_28 (dk_at dksX1_word_1 7 rfl rfl)
theorem dX1_word_32 : decode cX1_word 32 = .ok (.bipush 8, 2) := dk_16 8 (dk_at dksX1_word_1 8 rfl rfl)
theorem dX1_word_34 : decode cX1_word 34 = .ok (.ishr, 1) := dk_122 (dk_at dksX1_word_1 10 rfl rfl)
theorem dX1_word_35 : decode cX1_word 35 = .ok (.i2b, 1) := dk_145 (dk_at dksX1_word_1 11 rfl rfl)
theorem dX1_word_36 : decode cX1_word 36 = .ok (.bastore, 1) := dk_84 (dk_at dksX1_word_1 12 rfl rfl)
theorem dX1_word_37 : decode cX1_word 37 = .ok (.aload_n 0, 1) := dk_42 (dk_at dksX1_word_1 13 rfl rfl)
theorem dX1_word_38 : decode cX1_word 38 = .ok (.getfield 23, 3) := dk_180 0 23 (dk_at dksX1_word_1 14 rfl rfl)
theorem dX1_word_41 : decode cX1_word 41 = .ok (.iload_n 1, 1) := dk_27 (dk_at dksX1_word_1 17 rfl rfl)
theorem dX1_word_42 : decode cX1_word 42 = .ok (.iconst 3, 1) := dk_6 (dk_at dksX1_word_1 18 rfl rfl)
theorem dX1_word_43 : decode cX1_word 43 = .ok (.iadd, 1) := dk_96 (dk_at dksX1_word_1 19 rfl rfl)
theorem dX1_word_44 : decode cX1_word 44 = .ok (.iload_n 2, 1) := dk_28 (dk_at dksX1_word_1 20 rfl rfl)
theorem dX1_word_45 : decode cX1_word 45 = .ok (.i2b, 1) := dk_145 (dk_at dksX1_word_1 21 rfl rfl)
theorem dX1_word_46 : decode cX1_word 46 = .ok (.bastore, 1) := dk_84 (dk_at dksX1_word_1 22 rfl rfl)
theorem dX1_word_47 : decode cX1_word 47 = .ok (.return_, 1) := dk_177 (dk_at dksX1_word_1 23 rfl rfl)
abbrev cX1_repeat : ByteArray := prog_1_method_4_code
def yX1_repeat : MethodName := ⟨RX1, "repeat", "(II)I"⟩
def dkwX1_repeat_4 : List UInt8 := [167, 255, 225, 42, 89, 180, 0, 37, 21, 4, 96, 181, 0, 37, 21, 4, 172]
abbrev dktX1_repeat_4 : List UInt8 := dkwX1_repeat_4 ++ []
def dkwX1_repeat_3 : List UInt8 := [180, 0, 23, 42, 180, 0, 37, 21, 5, 96, 42, 180, 0, 23, 29, 21, 5, 96, 51, 84, 132, 5, 1]
abbrev dktX1_repeat_3 : List UInt8 := dkwX1_repeat_3 ++ dktX1_repeat_4
def dkwX1_repeat_2 : List UInt8 := [180, 0, 23, 190, 42, 180, 0, 37, 100, 54, 4, 3, 54, 5, 21, 5, 21, 4, 162, 0, 30, 42]
abbrev dktX1_repeat_2 : List UInt8 := dkwX1_repeat_2 ++ dktX1_repeat_3
def dkwX1_repeat_1 : List UInt8 := [17, 4, 1, 112, 54, 4, 21, 4, 42, 180, 0, 23, 190, 42, 180, 0, 37, 100, 164, 0, 15, 42]
abbrev dktX1_repeat_1 : List UInt8 := dkwX1_repeat_1 ++ dktX1_repeat_2
def dkwX1_repeat_0 : List UInt8 := [42, 180, 0, 37, 154, 0, 5, 2, 172, 27, 18, 44, 126, 42, 180, 0, 37, 112, 62, 28, 18, 44, 126]
abbrev dktX1_repeat_0 : List UInt8 := dkwX1_repeat_0 ++ dktX1_repeat_1
theorem dksX1_repeat_0 : cX1_repeat.data.toList.drop 0 = dktX1_repeat_0 := by decide +kernel
theorem dksX1_repeat_1 : cX1_repeat.data.toList.drop 23 = dktX1_repeat_1 := dk_seg dksX1_repeat_0 23 rfl rfl
theorem dksX1_repeat_2 : cX1_repeat.data.toList.drop 45 = dktX1_repeat_2 := dk_seg dksX1_repeat_1 22 rfl rfl
theorem dksX1_repeat_3 : cX1_repeat.data.toList.drop 67 = dktX1_repeat_3 := dk_seg dksX1_repeat_2 22 rfl rfl
theorem dksX1_repeat_4 : cX1_repeat.data.toList.drop 90 = dktX1_repeat_4 := dk_seg dksX1_repeat_3 23 rfl rfl
theorem dX1_repeat_0 : decode cX1_repeat 0 = .ok (.aload_n 0, 1) := dk_42 (dk_at dksX1_repeat_0 0 rfl rfl)
theorem dX1_repeat_1 : decode cX1_repeat 1 = .ok (.getfield 37, 3) := dk_180 0 37 (dk_at dksX1_repeat_0 1 rfl rfl)
theorem dX1_repeat_4 : decode cX1_repeat 4 = .ok (.ifCond .ne 5, 3) := dk_154 0 5 (dk_at dksX1_repeat_0 4 rfl rfl)
theorem dX1_repeat_7 : decode cX1_repeat 7 = .ok (.iconst (-1), 1) := dk_2 (dk_at dksX1_repeat_0 7 rfl rfl)
theorem dX1_repeat_8 : decode cX1_repeat 8 = .ok (.ireturn, 1) := dk_172 (dk_at dksX1_repeat_0 8 rfl rfl)
theorem dX1_repeat_9 : decode cX1_repeat 9 = .ok (.iload_n 1, 1) := dk_27 (dk_at dksX1_repeat_0 9 rfl rfl)
theorem dX1_repeat_10 : decode cX1_repeat 10 = .ok (.ldc 44, 2) := dk_18 44 (dk_at dksX1_repeat_0 10 rfl rfl)
theorem dX1_repeat_12 : decode cX1_repeat 12 = .ok (.iand, 1) := dk_126 (dk_at dksX1_repeat_0 12 rfl rfl)
theorem dX1_repeat_13 : decode cX1_repeat 13 = .ok (.aload_n 0, 1) := dk_42 (dk_at dksX1_repeat_0 13 rfl rfl)
theorem dX1_repeat_14 : decode cX1_repeat 14 = .ok (.getfield 37, 3) := dk_180 0 37 (dk_at dksX1_repeat_0 14 rfl rfl)
theorem dX1_repeat_17 : decode cX1_repeat 17 = .ok (.irem, 1) := dk_112 (dk_at dksX1_repeat_0 17 rfl rfl)
theorem dX1_repeat_18 : decode cX1_repeat 18 = .ok (.istore_n 3, 1) := dk_62 (dk_at dksX1_repeat_0 18 rfl rfl)
theorem dX1_repeat_19 : decode cX1_repeat 19 = .ok (.iload_n 2, 1) := dk_28 (dk_at dksX1_repeat_0 19 rfl rfl)
theorem dX1_repeat_20 : decode cX1_repeat 20 = .ok (.ldc 44, 2) := dk_18 44 (dk_at dksX1_repeat_0 20 rfl rfl)
theorem dX1_repeat_22 : decode cX1_repeat 22 = .ok (.iand, 1) := dk_126 (dk_at dksX1_repeat_0 22 rfl rfl)
theorem dX1_repeat_23 : decode cX1_repeat 23 = .ok (.sipush 1025, 3) := dk_17 4 1 (dk_at dksX1_repeat_1 0 rfl rfl)
theorem dX1_repeat_26 : decode cX1_repeat 26 = .ok (.irem, 1) := dk_112 (dk_at dksX1_repeat_1 3 rfl rfl)
theorem dX1_repeat_27 : decode cX1_repeat 27 = .ok (.istore 4, 2) := dk_54 4 (dk_at dksX1_repeat_1 4 rfl rfl)
theorem dX1_repeat_29 : decode cX1_repeat 29 = .ok (.iload 4, 2) := dk_21 4 (dk_at dksX1_repeat_1 6 rfl rfl)
theorem dX1_repeat_31 : decode cX1_repeat 31 = .ok (.aload_n 0, 1) := dk_42 (dk_at dksX1_repeat_1 8 rfl rfl)
theorem dX1_repeat_32 : decode cX1_repeat 32 = .ok (.getfield 23, 3) := dk_180 0 23 (dk_at dksX1_repeat_1 9 rfl rfl)
theorem dX1_repeat_35 : decode cX1_repeat 35 = .ok (.arraylength, 1) := dk_190 (dk_at dksX1_repeat_1 12 rfl rfl)
theorem dX1_repeat_36 : decode cX1_repeat 36 = .ok (.aload_n 0, 1) := dk_42 (dk_at dksX1_repeat_1 13 rfl rfl)
theorem dX1_repeat_37 : decode cX1_repeat 37 = .ok (.getfield 37, 3) := dk_180 0 37 (dk_at dksX1_repeat_1 14 rfl rfl)
theorem dX1_repeat_40 : decode cX1_repeat 40 = .ok (.isub, 1) := dk_100 (dk_at dksX1_repeat_1 17 rfl rfl)
theorem dX1_repeat_41 : decode cX1_repeat 41 = .ok (.if_icmp .le 15, 3) := dk_164 0 15 (dk_at dksX1_repeat_1 18 rfl rfl)
theorem dX1_repeat_44 : decode cX1_repeat 44 = .ok (.aload_n 0, 1) := dk_42 (dk_at dksX1_repeat_1 21 rfl rfl)
theorem dX1_repeat_45 : decode cX1_repeat 45 = .ok (.getfield 23, 3) := dk_180 0 23 (dk_at dksX1_repeat_2 0 rfl rfl)
theorem dX1_repeat_48 : decode cX1_repeat 48 = .ok (.arraylength, 1) := dk_190 (dk_at dksX1_repeat_2 3 rfl rfl)
theorem dX1_repeat_49 : decode cX1_repeat 49 = .ok (.aload_n 0, 1) := dk_42 (dk_at dksX1_repeat_2 4 rfl rfl)
theorem dX1_repeat_50 : decode cX1_repeat 50 = .ok (.getfield 37, 3) := dk_180 0 37 (dk_at dksX1_repeat_2 5 rfl rfl)
theorem dX1_repeat_53 : decode cX1_repeat 53 = .ok (.isub, 1) := dk_100 (dk_at dksX1_repeat_2 8 rfl rfl)
theorem dX1_repeat_54 : decode cX1_repeat 54 = .ok (.istore 4, 2) := dk_54 4 (dk_at dksX1_repeat_2 9 rfl rfl)
theorem dX1_repeat_56 : decode cX1_repeat 56 = .ok (.iconst 0, 1) := dk_3 (dk_at dksX1_repeat_2 11 rfl rfl)
theorem dX1_repeat_57 : decode cX1_repeat 57 = .ok (.istore 5, 2) := dk_54 5 (dk_at dksX1_repeat_2 12 rfl rfl)
theorem dX1_repeat_59 : decode cX1_repeat 59 = .ok (.iload 5, 2) := dk_21 5 (dk_at dksX1_repeat_2 14 rfl rfl)
theorem dX1_repeat_61 : decode cX1_repeat 61 = .ok (.iload 4, 2) := dk_21 4 (dk_at dksX1_repeat_2 16 rfl rfl)
theorem dX1_repeat_63 : decode cX1_repeat 63 = .ok (.if_icmp .ge 30, 3) := dk_162 0 30 (dk_at dksX1_repeat_2 18 rfl rfl)
theorem dX1_repeat_66 : decode cX1_repeat 66 = .ok (.aload_n 0, 1) := dk_42 (dk_at dksX1_repeat_2 21 rfl rfl)
theorem dX1_repeat_67 : decode cX1_repeat 67 = .ok (.getfield 23, 3) := dk_180 0 23 (dk_at dksX1_repeat_3 0 rfl rfl)
theorem dX1_repeat_70 : decode cX1_repeat 70 = .ok (.aload_n 0, 1) := dk_42 (dk_at dksX1_repeat_3 3 rfl rfl)
theorem dX1_repeat_71 : decode cX1_repeat 71 = .ok (.getfield 37, 3) := dk_180 0 37 (dk_at dksX1_repeat_3 4 rfl rfl)
theorem dX1_repeat_74 : decode cX1_repeat 74 = .ok (.iload 5, 2) := dk_21 5 (dk_at dksX1_repeat_3 7 rfl rfl)
theorem dX1_repeat_76 : decode cX1_repeat 76 = .ok (.iadd, 1) := dk_96 (dk_at dksX1_repeat_3 9 rfl rfl)
theorem dX1_repeat_77 : decode cX1_repeat 77 = .ok (.aload_n 0, 1) := dk_42 (dk_at dksX1_repeat_3 10 rfl rfl)
theorem dX1_repeat_78 : decode cX1_repeat 78 = .ok (.getfield 23, 3) := dk_180 0 23 (dk_at dksX1_repeat_3 11 rfl rfl)
theorem dX1_repeat_81 : decode cX1_repeat 81 = .ok (.iload_n 3, 1) := dk_29 (dk_at dksX1_repeat_3 14 rfl rfl)
theorem dX1_repeat_82 : decode cX1_repeat 82 = .ok (.iload 5, 2) := dk_21 5 (dk_at dksX1_repeat_3 15 rfl rfl)
theorem dX1_repeat_84 : decode cX1_repeat 84 = .ok (.iadd, 1) := dk_96 (dk_at dksX1_repeat_3 17 rfl rfl)
theorem dX1_repeat_85 : decode cX1_repeat 85 = .ok (.baload, 1) := dk_51 (dk_at dksX1_repeat_3 18 rfl rfl)
theorem dX1_repeat_86 : decode cX1_repeat 86 = .ok (.bastore, 1) := dk_84 (dk_at dksX1_repeat_3 19 rfl rfl)
theorem dX1_repeat_87 : decode cX1_repeat 87 = .ok (.iinc 5 1, 3) := dk_132 5 1 (dk_at dksX1_repeat_3 20 rfl rfl)
theorem dX1_repeat_90 : decode cX1_repeat 90 = .ok (.goto (-31), 3) := dk_167 255 225 (dk_at dksX1_repeat_4 0 rfl rfl)
theorem dX1_repeat_93 : decode cX1_repeat 93 = .ok (.aload_n 0, 1) := dk_42 (dk_at dksX1_repeat_4 3 rfl rfl)
theorem dX1_repeat_94 : decode cX1_repeat 94 = .ok (.dup, 1) := dk_89 (dk_at dksX1_repeat_4 4 rfl rfl)
theorem dX1_repeat_95 : decode cX1_repeat 95 = .ok (.getfield 37, 3) := dk_180 0 37 (dk_at dksX1_repeat_4 5 rfl rfl)
theorem dX1_repeat_98 : decode cX1_repeat 98 = .ok (.iload 4, 2) := dk_21 4 (dk_at dksX1_repeat_4 8 rfl rfl)
theorem dX1_repeat_100 : decode cX1_repeat 100 = .ok (.iadd, 1) := dk_96 (dk_at dksX1_repeat_4 10 rfl rfl)
theorem dX1_repeat_101 : decode cX1_repeat 101 = .ok (.putfield 37, 3) := dk_181 0 37 (dk_at dksX1_repeat_4 11 rfl rfl)
theorem dX1_repeat_104 : decode cX1_repeat 104 = .ok (.iload 4, 2) := dk_21 4 (dk_at dksX1_repeat_4 14 rfl rfl)
theorem dX1_repeat_106 : decode cX1_repeat 106 = .ok (.ireturn, 1) := dk_172 (dk_at dksX1_repeat_4 16 rfl rfl)
abbrev cX1_fill : ByteArray := prog_1_method_5_code
def yX1_fill : MethodName := ⟨RX1, "fill", "(II)I"⟩
def dkwX1_fill_3 : List UInt8 := [181, 0, 37, 29, 172]
abbrev dktX1_fill_3 : List UInt8 := dkwX1_fill_3 ++ []
def dkwX1_fill_2 : List UInt8 := [180, 0, 37, 21, 4, 96, 27, 145, 84, 132, 4, 1, 167, 255, 233, 42, 89, 180, 0, 37, 29, 96]
abbrev dktX1_fill_2 : List UInt8 := dkwX1_fill_2 ++ dktX1_fill_3
def dkwX1_fill_1 : List UInt8 := [180, 0, 23, 190, 42, 180, 0, 37, 100, 62, 3, 54, 4, 21, 4, 29, 162, 0, 23, 42, 180, 0, 23, 42]
abbrev dktX1_fill_1 : List UInt8 := dkwX1_fill_1 ++ dktX1_fill_2
def dkwX1_fill_0 : List UInt8 := [28, 18, 44, 126, 17, 4, 1, 112, 62, 29, 42, 180, 0, 23, 190, 42, 180, 0, 37, 100, 164, 0, 14, 42]
abbrev dktX1_fill_0 : List UInt8 := dkwX1_fill_0 ++ dktX1_fill_1
theorem dksX1_fill_0 : cX1_fill.data.toList.drop 0 = dktX1_fill_0 := by decide +kernel
theorem dksX1_fill_1 : cX1_fill.data.toList.drop 24 = dktX1_fill_1 := dk_seg dksX1_fill_0 24 rfl rfl
theorem dksX1_fill_2 : cX1_fill.data.toList.drop 48 = dktX1_fill_2 := dk_seg dksX1_fill_1 24 rfl rfl
theorem dksX1_fill_3 : cX1_fill.data.toList.drop 70 = dktX1_fill_3 := dk_seg dksX1_fill_2 22 rfl rfl
theorem dX1_fill_0 : decode cX1_fill 0 = .ok (.iload_n 2, 1) := dk_28 (dk_at dksX1_fill_0 0 rfl rfl)
theorem dX1_fill_1 : decode cX1_fill 1 = .ok (.ldc 44, 2) := dk_18 44 (dk_at dksX1_fill_0 1 rfl rfl)
theorem dX1_fill_3 : decode cX1_fill 3 = .ok (.iand, 1) := dk_126 (dk_at dksX1_fill_0 3 rfl rfl)
theorem dX1_fill_4 : decode cX1_fill 4 = .ok (.sipush 1025, 3) := dk_17 4 1 (dk_at dksX1_fill_0 4 rfl rfl)
theorem dX1_fill_7 : decode cX1_fill 7 = .ok (.irem, 1) := dk_112 (dk_at dksX1_fill_0 7 rfl rfl)
theorem dX1_fill_8 : decode cX1_fill 8 = .ok (.istore_n 3, 1) := dk_62 (dk_at dksX1_fill_0 8 rfl rfl)
theorem dX1_fill_9 : decode cX1_fill 9 = .ok (.iload_n 3, 1) := dk_29 (dk_at dksX1_fill_0 9 rfl rfl)
theorem dX1_fill_10 : decode cX1_fill 10 = .ok (.aload_n 0, 1) := dk_42 (dk_at dksX1_fill_0 10 rfl rfl)
theorem dX1_fill_11 : decode cX1_fill 11 = .ok (.getfield 23, 3) := dk_180 0 23 (dk_at dksX1_fill_0 11 rfl rfl)
theorem dX1_fill_14 : decode cX1_fill 14 = .ok (.arraylength, 1) := dk_190 (dk_at dksX1_fill_0 14 rfl rfl)
theorem dX1_fill_15 : decode cX1_fill 15 = .ok (.aload_n 0, 1) := dk_42 (dk_at dksX1_fill_0 15 rfl rfl)
theorem dX1_fill_16 : decode cX1_fill 16 = .ok (.getfield 37, 3) := dk_180 0 37 (dk_at dksX1_fill_0 16 rfl rfl)
theorem dX1_fill_19 : decode cX1_fill 19 = .ok (.isub, 1) := dk_100 (dk_at dksX1_fill_0 19 rfl rfl)
theorem dX1_fill_20 : decode cX1_fill 20 = .ok (.if_icmp .le 14, 3) := dk_164 0 14 (dk_at dksX1_fill_0 20 rfl rfl)
theorem dX1_fill_23 : decode cX1_fill 23 = .ok (.aload_n 0, 1) := dk_42 (dk_at dksX1_fill_0 23 rfl rfl)
theorem dX1_fill_24 : decode cX1_fill 24 = .ok (.getfield 23, 3) := dk_180 0 23 (dk_at dksX1_fill_1 0 rfl rfl)
theorem dX1_fill_27 : decode cX1_fill 27 = .ok (.arraylength, 1) := dk_190 (dk_at dksX1_fill_1 3 rfl rfl)
theorem dX1_fill_28 : decode cX1_fill 28 = .ok (.aload_n 0, 1) := dk_42 (dk_at dksX1_fill_1 4 rfl rfl)
theorem dX1_fill_29 : decode cX1_fill 29 = .ok (.getfield 37, 3) := dk_180 0 37 (dk_at dksX1_fill_1 5 rfl rfl)
theorem dX1_fill_32 : decode cX1_fill 32 = .ok (.isub, 1) := dk_100 (dk_at dksX1_fill_1 8 rfl rfl)
theorem dX1_fill_33 : decode cX1_fill 33 = .ok (.istore_n 3, 1) := dk_62 (dk_at dksX1_fill_1 9 rfl rfl)
theorem dX1_fill_34 : decode cX1_fill 34 = .ok (.iconst 0, 1) := dk_3 (dk_at dksX1_fill_1 10 rfl rfl)
theorem dX1_fill_35 : decode cX1_fill 35 = .ok (.istore 4, 2) := dk_54 4 (dk_at dksX1_fill_1 11 rfl rfl)
theorem dX1_fill_37 : decode cX1_fill 37 = .ok (.iload 4, 2) := dk_21 4 (dk_at dksX1_fill_1 13 rfl rfl)
theorem dX1_fill_39 : decode cX1_fill 39 = .ok (.iload_n 3, 1) := dk_29 (dk_at dksX1_fill_1 15 rfl rfl)
theorem dX1_fill_40 : decode cX1_fill 40 = .ok (.if_icmp .ge 23, 3) := dk_162 0 23 (dk_at dksX1_fill_1 16 rfl rfl)
theorem dX1_fill_43 : decode cX1_fill 43 = .ok (.aload_n 0, 1) := dk_42 (dk_at dksX1_fill_1 19 rfl rfl)
theorem dX1_fill_44 : decode cX1_fill 44 = .ok (.getfield 23, 3) := dk_180 0 23 (dk_at dksX1_fill_1 20 rfl rfl)
theorem dX1_fill_47 : decode cX1_fill 47 = .ok (.aload_n 0, 1) := dk_42 (dk_at dksX1_fill_1 23 rfl rfl)
theorem dX1_fill_48 : decode cX1_fill 48 = .ok (.getfield 37, 3) := dk_180 0 37 (dk_at dksX1_fill_2 0 rfl rfl)
theorem dX1_fill_51 : decode cX1_fill 51 = .ok (.iload 4, 2) := dk_21 4 (dk_at dksX1_fill_2 3 rfl rfl)
theorem dX1_fill_53 : decode cX1_fill 53 = .ok (.iadd, 1) := dk_96 (dk_at dksX1_fill_2 5 rfl rfl)
theorem dX1_fill_54 : decode cX1_fill 54 = .ok (.iload_n 1, 1) := dk_27 (dk_at dksX1_fill_2 6 rfl rfl)
theorem dX1_fill_55 : decode cX1_fill 55 = .ok (.i2b, 1) := dk_145 (dk_at dksX1_fill_2 7 rfl rfl)
theorem dX1_fill_56 : decode cX1_fill 56 = .ok (.bastore, 1) := dk_84 (dk_at dksX1_fill_2 8 rfl rfl)
theorem dX1_fill_57 : decode cX1_fill 57 = .ok (.iinc 4 1, 3) := dk_132 4 1 (dk_at dksX1_fill_2 9 rfl rfl)
theorem dX1_fill_60 : decode cX1_fill 60 = .ok (.goto (-23), 3) := dk_167 255 233 (dk_at dksX1_fill_2 12 rfl rfl)
theorem dX1_fill_63 : decode cX1_fill 63 = .ok (.aload_n 0, 1) := dk_42 (dk_at dksX1_fill_2 15 rfl rfl)
theorem dX1_fill_64 : decode cX1_fill 64 = .ok (.dup, 1) := dk_89 (dk_at dksX1_fill_2 16 rfl rfl)
theorem dX1_fill_65 : decode cX1_fill 65 = .ok (.getfield 37, 3) := dk_180 0 37 (dk_at dksX1_fill_2 17 rfl rfl)
theorem dX1_fill_68 : decode cX1_fill 68 = .ok (.iload_n 3, 1) := dk_29 (dk_at dksX1_fill_2 20 rfl rfl)
theorem dX1_fill_69 : decode cX1_fill 69 = .ok (.iadd, 1) := dk_96 (dk_at dksX1_fill_2 21 rfl rfl)
theorem dX1_fill_70 : decode cX1_fill 70 = .ok (.putfield 37, 3) := dk_181 0 37 (dk_at dksX1_fill_3 0 rfl rfl)
theorem dX1_fill_73 : decode cX1_fill 73 = .ok (.iload_n 3, 1) := dk_29 (dk_at dksX1_fill_3 3 rfl rfl)
theorem dX1_fill_74 : decode cX1_fill 74 = .ok (.ireturn, 1) := dk_172 (dk_at dksX1_fill_3 4 rfl rfl)
abbrev cX1_trim : ByteArray := prog_1_method_6_code
def yX1_trim : MethodName := ⟨RX1, "trim", "(I)V"⟩
def dkwX1_trim_0 : List UInt8 := [42, 27, 18, 44, 126, 42, 180, 0, 37, 4, 96, 112, 181, 0, 37, 177]
abbrev dktX1_trim_0 : List UInt8 := dkwX1_trim_0 ++ []
theorem dksX1_trim_0 : cX1_trim.data.toList.drop 0 = dktX1_trim_0 := by decide +kernel
theorem dX1_trim_0 : decode cX1_trim 0 = .ok (.aload_n 0, 1) := dk_42 (dk_at dksX1_trim_0 0 rfl rfl)
theorem dX1_trim_1 : decode cX1_trim 1 = .ok (.iload_n 1, 1) := dk_27 (dk_at dksX1_trim_0 1 rfl rfl)
theorem dX1_trim_2 : decode cX1_trim 2 = .ok (.ldc 44, 2) := dk_18 44 (dk_at dksX1_trim_0 2 rfl rfl)
theorem dX1_trim_4 : decode cX1_trim 4 = .ok (.iand, 1) := dk_126 (dk_at dksX1_trim_0 4 rfl rfl)
theorem dX1_trim_5 : decode cX1_trim 5 = .ok (.aload_n 0, 1) := dk_42 (dk_at dksX1_trim_0 5 rfl rfl)
theorem dX1_trim_6 : decode cX1_trim 6 = .ok (.getfield 37, 3) := dk_180 0 37 (dk_at dksX1_trim_0 6 rfl rfl)
theorem dX1_trim_9 : decode cX1_trim 9 = .ok (.iconst 1, 1) := dk_4 (dk_at dksX1_trim_0 9 rfl rfl)
theorem dX1_trim_10 : decode cX1_trim 10 = .ok (.iadd, 1) := dk_96 (dk_at dksX1_trim_0 10 rfl rfl)
theorem dX1_trim_11 : decode cX1_trim 11 = .ok (.irem, 1) := dk_112 (dk_at dksX1_trim_0 11 rfl rfl)
theorem dX1_trim_12 : decode cX1_trim 12 = .ok (.putfield 37, 3) := dk_181 0 37 (dk_at dksX1_trim_0 12 rfl rfl)
theorem dX1_trim_15 : decode cX1_trim 15 = .ok (.return_, 1) := dk_177 (dk_at dksX1_trim_0 15 rfl rfl)
abbrev cX1_size : ByteArray := prog_1_method_10_code
def yX1_size : MethodName := ⟨RX1, "size", "()I"⟩
theorem dX1_size_0 : decode cX1_size 0 = .ok (.aload_n 0, 1) := by decide +kernel
theorem dX1_size_1 : decode cX1_size 1 = .ok (.getfield 37, 3) := by decide +kernel
theorem dX1_size_4 : decode cX1_size 4 = .ok (.ireturn, 1) := by decide +kernel
abbrev cX1_pack : ByteArray := prog_1_method_7_code
def yX1_pack : MethodName := ⟨RX1, "pack", "()Z"⟩
def dkwX1_pack_2 : List UInt8 := [16, 16, 96, 163, 0, 7, 4, 167, 0, 4, 3, 172]
abbrev dktX1_pack_2 : List UInt8 := dkwX1_pack_2 ++ []
def dkwX1_pack_1 : List UInt8 := [182, 0, 45, 181, 0, 33, 42, 180, 0, 33, 42, 180, 0, 37, 42, 180, 0, 37, 17, 0, 255, 108, 96]
abbrev dktX1_pack_1 : List UInt8 := dkwX1_pack_1 ++ dktX1_pack_2
def dkwX1_pack_0 : List UInt8 := [42, 42, 180, 0, 10, 42, 180, 0, 23, 3, 42, 180, 0, 37, 42, 180, 0, 27, 3, 42, 180, 0, 27, 190]
abbrev dktX1_pack_0 : List UInt8 := dkwX1_pack_0 ++ dktX1_pack_1
theorem dksX1_pack_0 : cX1_pack.data.toList.drop 0 = dktX1_pack_0 := by decide +kernel
theorem dksX1_pack_1 : cX1_pack.data.toList.drop 24 = dktX1_pack_1 := dk_seg dksX1_pack_0 24 rfl rfl
theorem dksX1_pack_2 : cX1_pack.data.toList.drop 47 = dktX1_pack_2 := dk_seg dksX1_pack_1 23 rfl rfl
theorem dX1_pack_0 : decode cX1_pack 0 = .ok (.aload_n 0, 1) := dk_42 (dk_at dksX1_pack_0 0 rfl rfl)
theorem dX1_pack_1 : decode cX1_pack 1 = .ok (.aload_n 0, 1) := dk_42 (dk_at dksX1_pack_0 1 rfl rfl)
theorem dX1_pack_2 : decode cX1_pack 2 = .ok (.getfield 10, 3) := dk_180 0 10 (dk_at dksX1_pack_0 2 rfl rfl)
theorem dX1_pack_5 : decode cX1_pack 5 = .ok (.aload_n 0, 1) := dk_42 (dk_at dksX1_pack_0 5 rfl rfl)
theorem dX1_pack_6 : decode cX1_pack 6 = .ok (.getfield 23, 3) := dk_180 0 23 (dk_at dksX1_pack_0 6 rfl rfl)
theorem dX1_pack_9 : decode cX1_pack 9 = .ok (.iconst 0, 1) := dk_3 (dk_at dksX1_pack_0 9 rfl rfl)
theorem dX1_pack_10 : decode cX1_pack 10 = .ok (.aload_n 0, 1) := dk_42 (dk_at dksX1_pack_0 10 rfl rfl)
theorem dX1_pack_11 : decode cX1_pack 11 = .ok (.getfield 37, 3) := dk_180 0 37 (dk_at dksX1_pack_0 11 rfl rfl)
theorem dX1_pack_14 : decode cX1_pack 14 = .ok (.aload_n 0, 1) := dk_42 (dk_at dksX1_pack_0 14 rfl rfl)
theorem dX1_pack_15 : decode cX1_pack 15 = .ok (.getfield 27, 3) := dk_180 0 27 (dk_at dksX1_pack_0 15 rfl rfl)
theorem dX1_pack_18 : decode cX1_pack 18 = .ok (.iconst 0, 1) := dk_3 (dk_at dksX1_pack_0 18 rfl rfl)
theorem dX1_pack_19 : decode cX1_pack 19 = .ok (.aload_n 0, 1) := dk_42 (dk_at dksX1_pack_0 19 rfl rfl)
theorem dX1_pack_20 : decode cX1_pack 20 = .ok (.getfield 27, 3) := dk_180 0 27 (dk_at dksX1_pack_0 20 rfl rfl)
theorem dX1_pack_23 : decode cX1_pack 23 = .ok (.arraylength, 1) := dk_190 (dk_at dksX1_pack_0 23 rfl rfl)
theorem dX1_pack_24 : decode cX1_pack 24 = .ok (.invokevirtual 45, 3) := dk_182 0 45 (dk_at dksX1_pack_1 0 rfl rfl)
theorem dX1_pack_27 : decode cX1_pack 27 = .ok (.putfield 33, 3) := dk_181 0 33 (dk_at dksX1_pack_1 3 rfl rfl)
theorem dX1_pack_30 : decode cX1_pack 30 = .ok (.aload_n 0, 1) := dk_42 (dk_at dksX1_pack_1 6 rfl rfl)
theorem dX1_pack_31 : decode cX1_pack 31 = .ok (.getfield 33, 3) := dk_180 0 33 (dk_at dksX1_pack_1 7 rfl rfl)
theorem dX1_pack_34 : decode cX1_pack 34 = .ok (.aload_n 0, 1) := dk_42 (dk_at dksX1_pack_1 10 rfl rfl)
theorem dX1_pack_35 : decode cX1_pack 35 = .ok (.getfield 37, 3) := dk_180 0 37 (dk_at dksX1_pack_1 11 rfl rfl)
theorem dX1_pack_38 : decode cX1_pack 38 = .ok (.aload_n 0, 1) := dk_42 (dk_at dksX1_pack_1 14 rfl rfl)
theorem dX1_pack_39 : decode cX1_pack 39 = .ok (.getfield 37, 3) := dk_180 0 37 (dk_at dksX1_pack_1 15 rfl rfl)
theorem dX1_pack_42 : decode cX1_pack 42 = .ok (.sipush 255, 3) := dk_17 0 255 (dk_at dksX1_pack_1 18 rfl rfl)
theorem dX1_pack_45 : decode cX1_pack 45 = .ok (.idiv, 1) := dk_108 (dk_at dksX1_pack_1 21 rfl rfl)
theorem dX1_pack_46 : decode cX1_pack 46 = .ok (.iadd, 1) := dk_96 (dk_at dksX1_pack_1 22 rfl rfl)
theorem dX1_pack_47 : decode cX1_pack 47 = .ok (.bipush 16, 2) := dk_16 16 (dk_at dksX1_pack_2 0 rfl rfl)
theorem dX1_pack_49 : decode cX1_pack 49 = .ok (.iadd, 1) := dk_96 (dk_at dksX1_pack_2 2 rfl rfl)
theorem dX1_pack_50 : decode cX1_pack 50 = .ok (.if_icmp .gt 7, 3) := dk_163 0 7 (dk_at dksX1_pack_2 3 rfl rfl)
theorem dX1_pack_53 : decode cX1_pack 53 = .ok (.iconst 1, 1) := dk_4 (dk_at dksX1_pack_2 6 rfl rfl)
theorem dX1_pack_54 : decode cX1_pack 54 = .ok (.goto 4, 3) := dk_167 0 4 (dk_at dksX1_pack_2 7 rfl rfl)
theorem dX1_pack_57 : decode cX1_pack 57 = .ok (.iconst 0, 1) := dk_3 (dk_at dksX1_pack_2 10 rfl rfl)
theorem dX1_pack_58 : decode cX1_pack 58 = .ok (.ireturn, 1) := dk_172 (dk_at dksX1_pack_2 11 rfl rfl)
abbrev cX1_open : ByteArray := prog_1_method_8_code
def yX1_open : MethodName := ⟨RX1, "open", "()I"⟩
def dkwX1_open_1 : List UInt8 := [180, 0, 30, 3, 42, 180, 0, 30, 190, 182, 0, 51, 181, 0, 56, 42, 180, 0, 56, 172]
abbrev dktX1_open_1 : List UInt8 := dkwX1_open_1 ++ []
def dkwX1_open_0 : List UInt8 := [42, 180, 0, 33, 156, 0, 5, 2, 172, 42, 42, 180, 0, 19, 42, 180, 0, 27, 3, 42, 180, 0, 33, 42]
abbrev dktX1_open_0 : List UInt8 := dkwX1_open_0 ++ dktX1_open_1
theorem dksX1_open_0 : cX1_open.data.toList.drop 0 = dktX1_open_0 := by decide +kernel
theorem dksX1_open_1 : cX1_open.data.toList.drop 24 = dktX1_open_1 := dk_seg dksX1_open_0 24 rfl rfl
theorem dX1_open_0 : decode cX1_open 0 = .ok (.aload_n 0, 1) := dk_42 (dk_at dksX1_open_0 0 rfl rfl)
theorem dX1_open_1 : decode cX1_open 1 = .ok (.getfield 33, 3) := dk_180 0 33 (dk_at dksX1_open_0 1 rfl rfl)
theorem dX1_open_4 : decode cX1_open 4 = .ok (.ifCond .ge 5, 3) := dk_156 0 5 (dk_at dksX1_open_0 4 rfl rfl)
theorem dX1_open_7 : decode cX1_open 7 = .ok (.iconst (-1), 1) := dk_2 (dk_at dksX1_open_0 7 rfl rfl)
theorem dX1_open_8 : decode cX1_open 8 = .ok (.ireturn, 1) := dk_172 (dk_at dksX1_open_0 8 rfl rfl)
theorem dX1_open_9 : decode cX1_open 9 = .ok (.aload_n 0, 1) := dk_42 (dk_at dksX1_open_0 9 rfl rfl)
theorem dX1_open_10 : decode cX1_open 10 = .ok (.aload_n 0, 1) := dk_42 (dk_at dksX1_open_0 10 rfl rfl)
theorem dX1_open_11 : decode cX1_open 11 = .ok (.getfield 19, 3) := dk_180 0 19 (dk_at dksX1_open_0 11 rfl rfl)
theorem dX1_open_14 : decode cX1_open 14 = .ok (.aload_n 0, 1) := dk_42 (dk_at dksX1_open_0 14 rfl rfl)
theorem dX1_open_15 : decode cX1_open 15 = .ok (.getfield 27, 3) := dk_180 0 27 (dk_at dksX1_open_0 15 rfl rfl)
theorem dX1_open_18 : decode cX1_open 18 = .ok (.iconst 0, 1) := dk_3 (dk_at dksX1_open_0 18 rfl rfl)
theorem dX1_open_19 : decode cX1_open 19 = .ok (.aload_n 0, 1) := dk_42 (dk_at dksX1_open_0 19 rfl rfl)
theorem dX1_open_20 : decode cX1_open 20 = .ok (.getfield 33, 3) := dk_180 0 33 (dk_at dksX1_open_0 20 rfl rfl)
theorem dX1_open_23 : decode cX1_open 23 = .ok (.aload_n 0, 1) := dk_42 (dk_at dksX1_open_0 23 rfl rfl)
theorem dX1_open_24 : decode cX1_open 24 = .ok (.getfield 30, 3) := dk_180 0 30 (dk_at dksX1_open_1 0 rfl rfl)
theorem dX1_open_27 : decode cX1_open 27 = .ok (.iconst 0, 1) := dk_3 (dk_at dksX1_open_1 3 rfl rfl)
theorem dX1_open_28 : decode cX1_open 28 = .ok (.aload_n 0, 1) := dk_42 (dk_at dksX1_open_1 4 rfl rfl)
theorem dX1_open_29 : decode cX1_open 29 = .ok (.getfield 30, 3) := dk_180 0 30 (dk_at dksX1_open_1 5 rfl rfl)
theorem dX1_open_32 : decode cX1_open 32 = .ok (.arraylength, 1) := dk_190 (dk_at dksX1_open_1 8 rfl rfl)
theorem dX1_open_33 : decode cX1_open 33 = .ok (.invokevirtual 51, 3) := dk_182 0 51 (dk_at dksX1_open_1 9 rfl rfl)
theorem dX1_open_36 : decode cX1_open 36 = .ok (.putfield 56, 3) := dk_181 0 56 (dk_at dksX1_open_1 12 rfl rfl)
theorem dX1_open_39 : decode cX1_open 39 = .ok (.aload_n 0, 1) := dk_42 (dk_at dksX1_open_1 15 rfl rfl)
theorem dX1_open_40 : decode cX1_open 40 = .ok (.getfield 56, 3) := dk_180 0 56 (dk_at dksX1_open_1 16 rfl rfl)
theorem dX1_open_43 : decode cX1_open 43 = .ok (.ireturn, 1) := dk_172 (dk_at dksX1_open_1 19 rfl rfl)
abbrev cX1_opened : ByteArray := prog_1_method_9_code
def yX1_opened : MethodName := ⟨RX1, "opened", "(I)I"⟩
def dkwX1_opened_1 : List UInt8 := [51, 17, 0, 255, 126, 172]
abbrev dktX1_opened_1 : List UInt8 := dkwX1_opened_1 ++ []
def dkwX1_opened_0 : List UInt8 := [42, 180, 0, 56, 154, 0, 7, 2, 167, 0, 21, 42, 180, 0, 30, 27, 18, 44, 126, 42, 180, 0, 56, 112]
abbrev dktX1_opened_0 : List UInt8 := dkwX1_opened_0 ++ dktX1_opened_1
theorem dksX1_opened_0 : cX1_opened.data.toList.drop 0 = dktX1_opened_0 := by decide +kernel
theorem dksX1_opened_1 : cX1_opened.data.toList.drop 24 = dktX1_opened_1 := dk_seg dksX1_opened_0 24 rfl rfl
theorem dX1_opened_0 : decode cX1_opened 0 = .ok (.aload_n 0, 1) := dk_42 (dk_at dksX1_opened_0 0 rfl rfl)
theorem dX1_opened_1 : decode cX1_opened 1 = .ok (.getfield 56, 3) := dk_180 0 56 (dk_at dksX1_opened_0 1 rfl rfl)
theorem dX1_opened_4 : decode cX1_opened 4 = .ok (.ifCond .ne 7, 3) := dk_154 0 7 (dk_at dksX1_opened_0 4 rfl rfl)
theorem dX1_opened_7 : decode cX1_opened 7 = .ok (.iconst (-1), 1) := dk_2 (dk_at dksX1_opened_0 7 rfl rfl)
theorem dX1_opened_8 : decode cX1_opened 8 = .ok (.goto 21, 3) := dk_167 0 21 (dk_at dksX1_opened_0 8 rfl rfl)
theorem dX1_opened_11 : decode cX1_opened 11 = .ok (.aload_n 0, 1) := dk_42 (dk_at dksX1_opened_0 11 rfl rfl)
theorem dX1_opened_12 : decode cX1_opened 12 = .ok (.getfield 30, 3) := dk_180 0 30 (dk_at dksX1_opened_0 12 rfl rfl)
theorem dX1_opened_15 : decode cX1_opened 15 = .ok (.iload_n 1, 1) := dk_27 (dk_at dksX1_opened_0 15 rfl rfl)
theorem dX1_opened_16 : decode cX1_opened 16 = .ok (.ldc 44, 2) := dk_18 44 (dk_at dksX1_opened_0 16 rfl rfl)
theorem dX1_opened_18 : decode cX1_opened 18 = .ok (.iand, 1) := dk_126 (dk_at dksX1_opened_0 18 rfl rfl)
theorem dX1_opened_19 : decode cX1_opened 19 = .ok (.aload_n 0, 1) := dk_42 (dk_at dksX1_opened_0 19 rfl rfl)
theorem dX1_opened_20 : decode cX1_opened 20 = .ok (.getfield 56, 3) := dk_180 0 56 (dk_at dksX1_opened_0 20 rfl rfl)
theorem dX1_opened_23 : decode cX1_opened 23 = .ok (.irem, 1) := dk_112 (dk_at dksX1_opened_0 23 rfl rfl)
theorem dX1_opened_24 : decode cX1_opened 24 = .ok (.baload, 1) := dk_51 (dk_at dksX1_opened_1 0 rfl rfl)
theorem dX1_opened_25 : decode cX1_opened 25 = .ok (.sipush 255, 3) := dk_17 0 255 (dk_at dksX1_opened_1 1 rfl rfl)
theorem dX1_opened_28 : decode cX1_opened 28 = .ok (.iand, 1) := dk_126 (dk_at dksX1_opened_1 4 rfl rfl)
theorem dX1_opened_29 : decode cX1_opened 29 = .ok (.ireturn, 1) := dk_172 (dk_at dksX1_opened_1 5 rfl rfl)
theorem q3 : (Jvm.Cond.initialized "BlockPacker") ∈ lw_all := lw_g (lw_at lw_m1 1 rfl) rfl
theorem q39 : (Jvm.Cond.instantiable "BlockPacker" (8 : Nat)) ∈ lw_all := lw_g (lw_at lw_m1 37 rfl) rfl
theorem q41 : (Jvm.Cond.instanceMethod ({ cls := "BlockPacker", name := "<init>", desc := "()V" } : Jvm.MethodName)) ∈ lw_all := lw_g (lw_at lw_m1 39 rfl) rfl
theorem q42 : (Jvm.Cond.code ({ cls := "BlockPacker", name := "<init>", desc := "()V" } : Jvm.MethodName) prog_1_method_1_code (1 : Nat) (Option.none : Option Jvm.ClassFile.FieldType)) ∈ lw_all := lw_g (lw_at lw_m1 40 rfl) rfl
theorem q43 : (Jvm.Cond.methodLink "BlockPacker" (1 : Nat) ({ cls := "java/lang/Object", name := "<init>", desc := "()V" } : Jvm.MethodName)) ∈ lw_all := lw_g (lw_at lw_m1 41 rfl) rfl
theorem q46 : (Jvm.Cond.classLink "BlockPacker" (7 : Nat) "LZ4JavaSafeCompressor") ∈ lw_all := lw_g (lw_at lw_m1 44 rfl) rfl
theorem q48 : (Jvm.Cond.methodLink "BlockPacker" (9 : Nat) ({ cls := "LZ4JavaSafeCompressor", name := "<init>", desc := "()V" } : Jvm.MethodName)) ∈ lw_all := lw_g (lw_at lw_m1 46 rfl) rfl
theorem q56 : (Jvm.Cond.classLink "BlockPacker" (16 : Nat) "LZ4JavaSafeSafeDecompressor") ∈ lw_all := lw_g (lw_at lw_m1 54 rfl) rfl
theorem q58 : (Jvm.Cond.methodLink "BlockPacker" (18 : Nat) ({ cls := "LZ4JavaSafeSafeDecompressor", name := "<init>", desc := "()V" } : Jvm.MethodName)) ∈ lw_all := lw_g (lw_at lw_m1 56 rfl) rfl
theorem q66 : (Jvm.Cond.fieldLink "BlockPacker" (10 : Nat) "BlockPacker" "packer" "LLZ4Compressor;") ∈ lw_all := lw_g (lw_at lw_m1 64 rfl) rfl
theorem q67 : (Jvm.Cond.fieldLink "BlockPacker" (19 : Nat) "BlockPacker" "opener" "LLZ4SafeDecompressor;") ∈ lw_all := lw_g (lw_at lw_m1 65 rfl) rfl
theorem q68 : (Jvm.Cond.fieldLink "BlockPacker" (23 : Nat) "BlockPacker" "text" "[B") ∈ lw_all := lw_g (lw_at lw_m1 66 rfl) rfl
theorem q69 : (Jvm.Cond.fieldLink "BlockPacker" (27 : Nat) "BlockPacker" "packed" "[B") ∈ lw_all := lw_g (lw_at lw_m1 67 rfl) rfl
theorem q70 : (Jvm.Cond.fieldLink "BlockPacker" (30 : Nat) "BlockPacker" "opened" "[B") ∈ lw_all := lw_g (lw_at lw_m1 68 rfl) rfl
theorem q71 : (Jvm.Cond.fieldLink "BlockPacker" (37 : Nat) "BlockPacker" "size" "I") ∈ lw_all := lw_g (lw_at lw_m1 69 rfl) rfl
theorem q72 : (Jvm.Cond.fieldLink "BlockPacker" (33 : Nat) "BlockPacker" "length" "I") ∈ lw_all := lw_g (lw_at lw_m1 70 rfl) rfl
theorem q73 : (Jvm.Cond.fieldLink "BlockPacker" (56 : Nat) "BlockPacker" "back" "I") ∈ lw_all := lw_g (lw_at lw_m1 71 rfl) rfl
theorem q74 : (Jvm.Cond.laysFinal "BlockPacker" "BlockPacker" "packer" "LLZ4Compressor;") ∈ lw_all := lw_g (lw_at lw_m1 72 rfl) rfl
theorem q75 : (Jvm.Cond.soleField "BlockPacker" "packer") ∈ lw_all := lw_g (lw_at lw_m1 73 rfl) rfl
theorem q76 : (Jvm.Cond.laysFinal "BlockPacker" "BlockPacker" "opener" "LLZ4SafeDecompressor;") ∈ lw_all := lw_g (lw_at lw_m1 74 rfl) rfl
theorem q77 : (Jvm.Cond.soleField "BlockPacker" "opener") ∈ lw_all := lw_g (lw_at lw_m1 75 rfl) rfl
theorem q78 : (Jvm.Cond.laysFinal "BlockPacker" "BlockPacker" "text" "[B") ∈ lw_all := lw_g (lw_at lw_m1 76 rfl) rfl
theorem q79 : (Jvm.Cond.soleField "BlockPacker" "text") ∈ lw_all := lw_g (lw_at lw_m1 77 rfl) rfl
theorem q80 : (Jvm.Cond.laysFinal "BlockPacker" "BlockPacker" "packed" "[B") ∈ lw_all := lw_g (lw_at lw_m1 78 rfl) rfl
theorem q81 : (Jvm.Cond.soleField "BlockPacker" "packed") ∈ lw_all := lw_g (lw_at lw_m1 79 rfl) rfl
theorem q82 : (Jvm.Cond.laysFinal "BlockPacker" "BlockPacker" "opened" "[B") ∈ lw_all := lw_g (lw_at lw_m1 80 rfl) rfl
theorem q83 : (Jvm.Cond.soleField "BlockPacker" "opened") ∈ lw_all := lw_g (lw_at lw_m1 81 rfl) rfl
theorem q84 : (Jvm.Cond.lays "BlockPacker" "BlockPacker" "size" "I") ∈ lw_all := lw_g (lw_at lw_m1 82 rfl) rfl
theorem q85 : (Jvm.Cond.soleField "BlockPacker" "size") ∈ lw_all := lw_g (lw_at lw_m1 83 rfl) rfl
theorem q86 : (Jvm.Cond.lays "BlockPacker" "BlockPacker" "length" "I") ∈ lw_all := lw_g (lw_at lw_m1 84 rfl) rfl
theorem q87 : (Jvm.Cond.soleField "BlockPacker" "length") ∈ lw_all := lw_g (lw_at lw_m1 85 rfl) rfl
theorem q88 : (Jvm.Cond.lays "BlockPacker" "BlockPacker" "back" "I") ∈ lw_all := lw_g (lw_at lw_m1 86 rfl) rfl
theorem q89 : (Jvm.Cond.soleField "BlockPacker" "back") ∈ lw_all := lw_g (lw_at lw_m1 87 rfl) rfl
theorem q90 : (Jvm.Cond.superclass "BlockPacker" "java/lang/Object") ∈ lw_all := lw_g (lw_at lw_m1 88 rfl) rfl
theorem q96 : (Jvm.Cond.instanceMethod ({ cls := "BlockPacker", name := "put", desc := "(IIII)Z" } : Jvm.MethodName)) ∈ lw_all := lw_g (lw_at lw_m1 94 rfl) rfl
theorem q97 : (Jvm.Cond.selects "BlockPacker" ({ cls := "BlockPacker", name := "put", desc := "(IIII)Z" } : Jvm.MethodName) ({ cls := "BlockPacker", name := "put", desc := "(IIII)Z" } : Jvm.MethodName)) ∈ lw_all := lw_g (lw_at lw_m1 95 rfl) rfl
theorem q98 : (Jvm.Cond.code ({ cls := "BlockPacker", name := "put", desc := "(IIII)Z" } : Jvm.MethodName) prog_1_method_2_code (5 : Nat) (Option.some Jvm.ClassFile.FieldType.boolean)) ∈ lw_all := lw_g (lw_at lw_m1 96 rfl) rfl
theorem q99 : (Jvm.Cond.methodLink "BlockPacker" (40 : Nat) ({ cls := "BlockPacker", name := "word", desc := "(II)V" } : Jvm.MethodName)) ∈ lw_all := lw_g (lw_at lw_m1 97 rfl) rfl
theorem q100 : (Jvm.Cond.privateMethod ({ cls := "BlockPacker", name := "word", desc := "(II)V" } : Jvm.MethodName)) ∈ lw_tbl := lw_at lw_m1 98 rfl
theorem q101 : (Jvm.Cond.instanceMethod ({ cls := "BlockPacker", name := "word", desc := "(II)V" } : Jvm.MethodName)) ∈ lw_all := lw_g (lw_at lw_m1 99 rfl) rfl
theorem q102 : (Jvm.Cond.code ({ cls := "BlockPacker", name := "word", desc := "(II)V" } : Jvm.MethodName) prog_1_method_3_code (3 : Nat) (Option.none : Option Jvm.ClassFile.FieldType)) ∈ lw_all := lw_g (lw_at lw_m1 100 rfl) rfl
theorem q107 : (Jvm.Cond.instanceMethod ({ cls := "BlockPacker", name := "repeat", desc := "(II)I" } : Jvm.MethodName)) ∈ lw_all := lw_g (lw_at lw_m1 105 rfl) rfl
theorem q108 : (Jvm.Cond.selects "BlockPacker" ({ cls := "BlockPacker", name := "repeat", desc := "(II)I" } : Jvm.MethodName) ({ cls := "BlockPacker", name := "repeat", desc := "(II)I" } : Jvm.MethodName)) ∈ lw_all := lw_g (lw_at lw_m1 106 rfl) rfl
theorem q109 : (Jvm.Cond.code ({ cls := "BlockPacker", name := "repeat", desc := "(II)I" } : Jvm.MethodName) prog_1_method_4_code (6 : Nat) (Option.some Jvm.ClassFile.FieldType.int)) ∈ lw_all := lw_g (lw_at lw_m1 107 rfl) rfl
theorem q110 : (Jvm.Cond.constant "BlockPacker" (44 : Nat) (2147483647 : Int32)) ∈ lw_all := lw_g (lw_at lw_m1 108 rfl) rfl
theorem q113 : (Jvm.Cond.instanceMethod ({ cls := "BlockPacker", name := "fill", desc := "(II)I" } : Jvm.MethodName)) ∈ lw_all := lw_g (lw_at lw_m1 111 rfl) rfl
theorem q114 : (Jvm.Cond.selects "BlockPacker" ({ cls := "BlockPacker", name := "fill", desc := "(II)I" } : Jvm.MethodName) ({ cls := "BlockPacker", name := "fill", desc := "(II)I" } : Jvm.MethodName)) ∈ lw_all := lw_g (lw_at lw_m1 112 rfl) rfl
theorem q115 : (Jvm.Cond.code ({ cls := "BlockPacker", name := "fill", desc := "(II)I" } : Jvm.MethodName) prog_1_method_5_code (5 : Nat) (Option.some Jvm.ClassFile.FieldType.int)) ∈ lw_all := lw_g (lw_at lw_m1 113 rfl) rfl
theorem q117 : (Jvm.Cond.instanceMethod ({ cls := "BlockPacker", name := "trim", desc := "(I)V" } : Jvm.MethodName)) ∈ lw_all := lw_g (lw_at lw_m1 115 rfl) rfl
theorem q118 : (Jvm.Cond.selects "BlockPacker" ({ cls := "BlockPacker", name := "trim", desc := "(I)V" } : Jvm.MethodName) ({ cls := "BlockPacker", name := "trim", desc := "(I)V" } : Jvm.MethodName)) ∈ lw_all := lw_g (lw_at lw_m1 116 rfl) rfl
theorem q119 : (Jvm.Cond.code ({ cls := "BlockPacker", name := "trim", desc := "(I)V" } : Jvm.MethodName) prog_1_method_6_code (2 : Nat) (Option.none : Option Jvm.ClassFile.FieldType)) ∈ lw_all := lw_g (lw_at lw_m1 117 rfl) rfl
theorem q121 : (Jvm.Cond.instanceMethod ({ cls := "BlockPacker", name := "size", desc := "()I" } : Jvm.MethodName)) ∈ lw_all := lw_g (lw_at lw_m1 119 rfl) rfl
theorem q122 : (Jvm.Cond.selects "BlockPacker" ({ cls := "BlockPacker", name := "size", desc := "()I" } : Jvm.MethodName) ({ cls := "BlockPacker", name := "size", desc := "()I" } : Jvm.MethodName)) ∈ lw_all := lw_g (lw_at lw_m1 120 rfl) rfl
theorem q123 : (Jvm.Cond.code ({ cls := "BlockPacker", name := "size", desc := "()I" } : Jvm.MethodName) prog_1_method_10_code (1 : Nat) (Option.some Jvm.ClassFile.FieldType.int)) ∈ lw_all := lw_g (lw_at lw_m1 121 rfl) rfl
theorem q125 : (Jvm.Cond.instanceMethod ({ cls := "BlockPacker", name := "pack", desc := "()Z" } : Jvm.MethodName)) ∈ lw_all := lw_g (lw_at lw_m1 123 rfl) rfl
theorem q126 : (Jvm.Cond.selects "BlockPacker" ({ cls := "BlockPacker", name := "pack", desc := "()Z" } : Jvm.MethodName) ({ cls := "BlockPacker", name := "pack", desc := "()Z" } : Jvm.MethodName)) ∈ lw_all := lw_g (lw_at lw_m1 124 rfl) rfl
theorem q127 : (Jvm.Cond.code ({ cls := "BlockPacker", name := "pack", desc := "()Z" } : Jvm.MethodName) prog_1_method_7_code (1 : Nat) (Option.some Jvm.ClassFile.FieldType.boolean)) ∈ lw_all := lw_g (lw_at lw_m1 125 rfl) rfl
theorem q128 : (Jvm.Cond.methodLink "BlockPacker" (45 : Nat) ({ cls := "LZ4Compressor", name := "compress", desc := "([BII[BII)I" } : Jvm.MethodName)) ∈ lw_all := lw_g (lw_at lw_m1 126 rfl) rfl
theorem q352 : (Jvm.Cond.instanceMethod ({ cls := "BlockPacker", name := "open", desc := "()I" } : Jvm.MethodName)) ∈ lw_all := lw_g (lw_at lw_m2 110 rfl) rfl
theorem q353 : (Jvm.Cond.selects "BlockPacker" ({ cls := "BlockPacker", name := "open", desc := "()I" } : Jvm.MethodName) ({ cls := "BlockPacker", name := "open", desc := "()I" } : Jvm.MethodName)) ∈ lw_all := lw_g (lw_at lw_m2 111 rfl) rfl
theorem q354 : (Jvm.Cond.code ({ cls := "BlockPacker", name := "open", desc := "()I" } : Jvm.MethodName) prog_1_method_8_code (1 : Nat) (Option.some Jvm.ClassFile.FieldType.int)) ∈ lw_all := lw_g (lw_at lw_m2 112 rfl) rfl
theorem q355 : (Jvm.Cond.methodLink "BlockPacker" (51 : Nat) ({ cls := "LZ4SafeDecompressor", name := "decompress", desc := "([BII[BII)I" } : Jvm.MethodName)) ∈ lw_all := lw_g (lw_at lw_m2 113 rfl) rfl
theorem q629 : (Jvm.Cond.instanceMethod ({ cls := "BlockPacker", name := "opened", desc := "(I)I" } : Jvm.MethodName)) ∈ lw_all := lw_g (lw_at lw_m3 147 rfl) rfl
theorem q630 : (Jvm.Cond.selects "BlockPacker" ({ cls := "BlockPacker", name := "opened", desc := "(I)I" } : Jvm.MethodName) ({ cls := "BlockPacker", name := "opened", desc := "(I)I" } : Jvm.MethodName)) ∈ lw_all := lw_g (lw_at lw_m3 148 rfl) rfl
theorem q631 : (Jvm.Cond.code ({ cls := "BlockPacker", name := "opened", desc := "(I)I" } : Jvm.MethodName) prog_1_method_9_code (2 : Nat) (Option.some Jvm.ClassFile.FieldType.int)) ∈ lw_all := lw_g (lw_at lw_m3 149 rfl) rfl
theorem in_X1 : ∀ w ∈ wsX10, w ∈ lw_all := lw_in wsX10 [74, 76, 78, 80, 82, 84, 86, 88] (by decide +kernel) (by decide +kernel)
/-! BlockPackerLaw -/
set_option maxRecDepth 100000
def RX0 : String := "BlockPackerLaw"
abbrev cX0_cell : ByteArray := method_2_code
def yX0_cell : MethodName := ⟨RX0, "cell", "([II)I"⟩
def dkwX0_cell_0 : List UInt8 := [27, 42, 190, 162, 0, 9, 42, 27, 46, 167, 0, 4, 3, 172]
abbrev dktX0_cell_0 : List UInt8 := dkwX0_cell_0 ++ []
theorem dksX0_cell_0 : cX0_cell.data.toList.drop 0 = dktX0_cell_0 := by decide +kernel
theorem dX0_cell_0 : decode cX0_cell 0 = .ok (.iload_n 1, 1) := dk_27 (dk_at dksX0_cell_0 0 rfl rfl)
theorem dX0_cell_1 : decode cX0_cell 1 = .ok (.aload_n 0, 1) := dk_42 (dk_at dksX0_cell_0 1 rfl rfl)
theorem dX0_cell_2 : decode cX0_cell 2 = .ok (.arraylength, 1) := dk_190 (dk_at dksX0_cell_0 2 rfl rfl)
theorem dX0_cell_3 : decode cX0_cell 3 = .ok (.if_icmp .ge 9, 3) := dk_162 0 9 (dk_at dksX0_cell_0 3 rfl rfl)
theorem dX0_cell_6 : decode cX0_cell 6 = .ok (.aload_n 0, 1) := dk_42 (dk_at dksX0_cell_0 6 rfl rfl)
theorem dX0_cell_7 : decode cX0_cell 7 = .ok (.iload_n 1, 1) := dk_27 (dk_at dksX0_cell_0 7 rfl rfl)
theorem dX0_cell_8 : decode cX0_cell 8 = .ok (.iaload, 1) := dk_46 (dk_at dksX0_cell_0 8 rfl rfl)
theorem dX0_cell_9 : decode cX0_cell 9 = .ok (.goto 4, 3) := dk_167 0 4 (dk_at dksX0_cell_0 9 rfl rfl)
theorem dX0_cell_12 : decode cX0_cell 12 = .ok (.iconst 0, 1) := dk_3 (dk_at dksX0_cell_0 12 rfl rfl)
theorem dX0_cell_13 : decode cX0_cell 13 = .ok (.ireturn, 1) := dk_172 (dk_at dksX0_cell_0 13 rfl rfl)
abbrev cX0_elder : ByteArray := method_4_code
def yX0_elder : MethodName := ⟨RX0, "elder", "([I)Z"⟩
def dkwX0_elder_1 : List UInt8 := [4, 167, 0, 4, 3, 172]
abbrev dktX0_elder_1 : List UInt8 := dkwX0_elder_1 ++ []
def dkwX0_elder_0 : List UInt8 := [187, 0, 7, 89, 183, 0, 9, 42, 184, 0, 26, 153, 0, 17, 184, 0, 32, 42, 184, 0, 26, 153, 0, 7]
abbrev dktX0_elder_0 : List UInt8 := dkwX0_elder_0 ++ dktX0_elder_1
theorem dksX0_elder_0 : cX0_elder.data.toList.drop 0 = dktX0_elder_0 := by decide +kernel
theorem dksX0_elder_1 : cX0_elder.data.toList.drop 24 = dktX0_elder_1 := dk_seg dksX0_elder_0 24 rfl rfl
theorem dX0_elder_0 : decode cX0_elder 0 = .ok (.new 7, 3) := dk_187 0 7 (dk_at dksX0_elder_0 0 rfl rfl)
theorem dX0_elder_3 : decode cX0_elder 3 = .ok (.dup, 1) := dk_89 (dk_at dksX0_elder_0 3 rfl rfl)
theorem dX0_elder_4 : decode cX0_elder 4 = .ok (.invokespecial 9, 3) := dk_183 0 9 (dk_at dksX0_elder_0 4 rfl rfl)
theorem dX0_elder_7 : decode cX0_elder 7 = .ok (.aload_n 0, 1) := dk_42 (dk_at dksX0_elder_0 7 rfl rfl)
theorem dX0_elder_8 : decode cX0_elder 8 = .ok (.invokestatic 26, 3) := dk_184 0 26 (dk_at dksX0_elder_0 8 rfl rfl)
theorem dX0_elder_11 : decode cX0_elder 11 = .ok (.ifCond .eq 17, 3) := dk_153 0 17 (dk_at dksX0_elder_0 11 rfl rfl)
theorem dX0_elder_14 : decode cX0_elder 14 = .ok (.invokestatic 32, 3) := dk_184 0 32 (dk_at dksX0_elder_0 14 rfl rfl)
theorem dX0_elder_17 : decode cX0_elder 17 = .ok (.aload_n 0, 1) := dk_42 (dk_at dksX0_elder_0 17 rfl rfl)
theorem dX0_elder_18 : decode cX0_elder 18 = .ok (.invokestatic 26, 3) := dk_184 0 26 (dk_at dksX0_elder_0 18 rfl rfl)
theorem dX0_elder_21 : decode cX0_elder 21 = .ok (.ifCond .eq 7, 3) := dk_153 0 7 (dk_at dksX0_elder_0 21 rfl rfl)
theorem dX0_elder_24 : decode cX0_elder 24 = .ok (.iconst 1, 1) := dk_4 (dk_at dksX0_elder_1 0 rfl rfl)
theorem dX0_elder_25 : decode cX0_elder 25 = .ok (.goto 4, 3) := dk_167 0 4 (dk_at dksX0_elder_1 1 rfl rfl)
theorem dX0_elder_28 : decode cX0_elder 28 = .ok (.iconst 0, 1) := dk_3 (dk_at dksX0_elder_1 4 rfl rfl)
theorem dX0_elder_29 : decode cX0_elder 29 = .ok (.ireturn, 1) := dk_172 (dk_at dksX0_elder_1 5 rfl rfl)
abbrev cX0_trip : ByteArray := method_5_code
def yX0_trip : MethodName := ⟨RX0, "trip", "(LBlockPacker;[I)Z"⟩
def dkwX0_trip_15 : List UInt8 := [160, 0, 7, 4, 167, 0, 4, 3, 172]
abbrev dktX0_trip_15 : List UInt8 := dkwX0_trip_15 ++ []
def dkwX0_trip_14 : List UInt8 := [126, 159, 0, 5, 3, 172, 132, 4, 1, 167, 255, 228, 29, 157, 0, 12, 42, 3, 182, 0, 51, 2]
abbrev dktX0_trip_14 : List UInt8 := dkwX0_trip_14 ++ dktX0_trip_15
def dkwX0_trip_13 : List UInt8 := [3, 172, 3, 54, 4, 21, 4, 29, 162, 0, 28, 42, 21, 4, 182, 0, 51, 44, 21, 4, 51, 17, 0, 255]
abbrev dktX0_trip_13 : List UInt8 := dkwX0_trip_13 ++ dktX0_trip_14
def dkwX0_trip_12 : List UInt8 := [172, 132, 4, 3, 167, 254, 234, 42, 182, 0, 14, 154, 0, 5, 3, 172, 42, 182, 0, 18, 29, 159, 0, 5]
abbrev dktX0_trip_12 : List UInt8 := dkwX0_trip_12 ++ dktX0_trip_13
def dkwX0_trip_11 : List UInt8 := [21, 5, 182, 0, 22, 21, 5, 18, 47, 126, 29, 4, 96, 112, 62, 42, 182, 0, 48, 29, 159, 0, 5, 3]
abbrev dktX0_trip_11 : List UInt8 := dkwX0_trip_11 ++ dktX0_trip_12
def dkwX0_trip_10 : List UInt8 := [29, 21, 8, 96, 21, 5, 145, 84, 132, 8, 1, 167, 255, 237, 29, 21, 7, 96, 62, 167, 0, 19, 42]
abbrev dktX0_trip_10 : List UInt8 := dkwX0_trip_10 ++ dktX0_trip_11
def dkwX0_trip_9 : List UInt8 := [160, 0, 46, 42, 21, 5, 21, 6, 182, 0, 10, 54, 7, 3, 54, 8, 21, 8, 21, 7, 162, 0, 18, 44]
abbrev dktX0_trip_9 : List UInt8 := dkwX0_trip_9 ++ dktX0_trip_10
def dkwX0_trip_8 : List UInt8 := [96, 51, 84, 132, 9, 1, 167, 255, 233, 29, 21, 7, 96, 62, 167, 0, 72, 43, 21, 4, 46, 6, 126, 5]
abbrev dktX0_trip_8 : List UInt8 := dkwX0_trip_8 ++ dktX0_trip_9
def dkwX0_trip_7 : List UInt8 := [29, 112, 54, 8, 3, 54, 9, 21, 9, 21, 7, 162, 0, 22, 44, 29, 21, 9, 96, 44, 21, 8, 21, 9]
abbrev dktX0_trip_7 : List UInt8 := dkwX0_trip_7 ++ dktX0_trip_8
def dkwX0_trip_6 : List UInt8 := [21, 7, 2, 159, 0, 5, 3, 172, 3, 54, 7, 29, 154, 0, 7, 3, 167, 0, 10, 21, 5, 18, 47, 126]
abbrev dktX0_trip_6 : List UInt8 := dkwX0_trip_6 ++ dktX0_trip_7
def dkwX0_trip_5 : List UInt8 := [43, 21, 4, 46, 6, 126, 4, 160, 0, 82, 42, 21, 5, 21, 6, 182, 0, 44, 54, 7, 29, 154, 0, 14]
abbrev dktX0_trip_5 : List UInt8 := dkwX0_trip_5 ++ dktX0_trip_6
def dkwX0_trip_4 : List UInt8 := [29, 21, 5, 21, 6, 100, 184, 0, 40, 62, 167, 0, 172, 29, 44, 190, 16, 16, 100, 163, 0, 163, 3, 172]
abbrev dktX0_trip_4 : List UInt8 := dkwX0_trip_4 ++ dktX0_trip_5
def dkwX0_trip_3 : List UInt8 := [184, 0, 40, 62, 44, 29, 21, 6, 184, 0, 40, 62, 44, 29, 21, 5, 21, 6, 130, 184, 0, 40, 62, 44]
abbrev dktX0_trip_3 : List UInt8 := dkwX0_trip_3 ++ dktX0_trip_4
def dkwX0_trip_2 : List UInt8 := [21, 6, 21, 5, 21, 6, 130, 21, 5, 21, 6, 100, 182, 0, 36, 153, 0, 44, 44, 29, 21, 5]
abbrev dktX0_trip_2 : List UInt8 := dkwX0_trip_2 ++ dktX0_trip_3
def dkwX0_trip_1 : List UInt8 := [96, 46, 54, 5, 43, 21, 4, 5, 96, 46, 54, 6, 43, 21, 4, 46, 6, 126, 154, 0, 76, 42, 21, 5]
abbrev dktX0_trip_1 : List UInt8 := dkwX0_trip_1 ++ dktX0_trip_2
def dkwX0_trip_0 : List UInt8 := [17, 64, 0, 188, 8, 77, 3, 62, 3, 54, 4, 21, 4, 5, 96, 43, 190, 162, 1, 19, 43, 21, 4, 4]
abbrev dktX0_trip_0 : List UInt8 := dkwX0_trip_0 ++ dktX0_trip_1
theorem dksX0_trip_0 : cX0_trip.data.toList.drop 0 = dktX0_trip_0 := by decide +kernel
theorem dksX0_trip_1 : cX0_trip.data.toList.drop 24 = dktX0_trip_1 := dk_seg dksX0_trip_0 24 rfl rfl
theorem dksX0_trip_2 : cX0_trip.data.toList.drop 48 = dktX0_trip_2 := dk_seg dksX0_trip_1 24 rfl rfl
theorem dksX0_trip_3 : cX0_trip.data.toList.drop 70 = dktX0_trip_3 := dk_seg dksX0_trip_2 22 rfl rfl
theorem dksX0_trip_4 : cX0_trip.data.toList.drop 94 = dktX0_trip_4 := dk_seg dksX0_trip_3 24 rfl rfl
theorem dksX0_trip_5 : cX0_trip.data.toList.drop 118 = dktX0_trip_5 := dk_seg dksX0_trip_4 24 rfl rfl
theorem dksX0_trip_6 : cX0_trip.data.toList.drop 142 = dktX0_trip_6 := dk_seg dksX0_trip_5 24 rfl rfl
theorem dksX0_trip_7 : cX0_trip.data.toList.drop 166 = dktX0_trip_7 := dk_seg dksX0_trip_6 24 rfl rfl
theorem dksX0_trip_8 : cX0_trip.data.toList.drop 190 = dktX0_trip_8 := dk_seg dksX0_trip_7 24 rfl rfl
theorem dksX0_trip_9 : cX0_trip.data.toList.drop 214 = dktX0_trip_9 := dk_seg dksX0_trip_8 24 rfl rfl
theorem dksX0_trip_10 : cX0_trip.data.toList.drop 238 = dktX0_trip_10 := dk_seg dksX0_trip_9 24 rfl rfl
theorem dksX0_trip_11 : cX0_trip.data.toList.drop 261 = dktX0_trip_11 := dk_seg dksX0_trip_10 23 rfl rfl
theorem dksX0_trip_12 : cX0_trip.data.toList.drop 285 = dktX0_trip_12 := dk_seg dksX0_trip_11 24 rfl rfl
theorem dksX0_trip_13 : cX0_trip.data.toList.drop 309 = dktX0_trip_13 := dk_seg dksX0_trip_12 24 rfl rfl
theorem dksX0_trip_14 : cX0_trip.data.toList.drop 333 = dktX0_trip_14 := dk_seg dksX0_trip_13 24 rfl rfl
theorem dksX0_trip_15 : cX0_trip.data.toList.drop 355 = dktX0_trip_15 := dk_seg dksX0_trip_14 22 rfl rfl
theorem dX0_trip_0 : decode cX0_trip 0 = .ok (.sipush 16384, 3) := dk_17 64 0 (dk_at dksX0_trip_0 0 rfl rfl)
theorem dX0_trip_3 : decode cX0_trip 3 = .ok (.newarray .byte, 2) := dk_188_8 (dk_at dksX0_trip_0 3 rfl rfl)
theorem dX0_trip_5 : decode cX0_trip 5 = .ok (.astore_n 2, 1) := dk_77 (dk_at dksX0_trip_0 5 rfl rfl)
theorem dX0_trip_6 : decode cX0_trip 6 = .ok (.iconst 0, 1) := dk_3 (dk_at dksX0_trip_0 6 rfl rfl)
theorem dX0_trip_7 : decode cX0_trip 7 = .ok (.istore_n 3, 1) := dk_62 (dk_at dksX0_trip_0 7 rfl rfl)
theorem dX0_trip_8 : decode cX0_trip 8 = .ok (.iconst 0, 1) := dk_3 (dk_at dksX0_trip_0 8 rfl rfl)
theorem dX0_trip_9 : decode cX0_trip 9 = .ok (.istore 4, 2) := dk_54 4 (dk_at dksX0_trip_0 9 rfl rfl)
theorem dX0_trip_11 : decode cX0_trip 11 = .ok (.iload 4, 2) := dk_21 4 (dk_at dksX0_trip_0 11 rfl rfl)
theorem dX0_trip_13 : decode cX0_trip 13 = .ok (.iconst 2, 1) := dk_5 (dk_at dksX0_trip_0 13 rfl rfl)
theorem dX0_trip_14 : decode cX0_trip 14 = .ok (.iadd, 1) := dk_96 (dk_at dksX0_trip_0 14 rfl rfl)
theorem dX0_trip_15 : decode cX0_trip 15 = .ok (.aload_n 1, 1) := dk_43 (dk_at dksX0_trip_0 15 rfl rfl)
theorem dX0_trip_16 : decode cX0_trip 16 = .ok (.arraylength, 1) := dk_190 (dk_at dksX0_trip_0 16 rfl rfl)
theorem dX0_trip_17 : decode cX0_trip 17 = .ok (.if_icmp .ge 275, 3) := dk_162 1 19 (dk_at dksX0_trip_0 17 rfl rfl)
theorem dX0_trip_20 : decode cX0_trip 20 = .ok (.aload_n 1, 1) := dk_43 (dk_at dksX0_trip_0 20 rfl rfl)
theorem dX0_trip_21 : decode cX0_trip 21 = .ok (.iload 4, 2) := dk_21 4 (dk_at dksX0_trip_0 21 rfl rfl)
theorem dX0_trip_23 : decode cX0_trip 23 = .ok (.iconst 1, 1) := dk_4 (dk_at dksX0_trip_0 23 rfl rfl)
theorem dX0_trip_24 : decode cX0_trip 24 = .ok (.iadd, 1) := dk_96 (dk_at dksX0_trip_1 0 rfl rfl)
theorem dX0_trip_25 : decode cX0_trip 25 = .ok (.iaload, 1) := dk_46 (dk_at dksX0_trip_1 1 rfl rfl)
theorem dX0_trip_26 : decode cX0_trip 26 = .ok (.istore 5, 2) := dk_54 5 (dk_at dksX0_trip_1 2 rfl rfl)
theorem dX0_trip_28 : decode cX0_trip 28 = .ok (.aload_n 1, 1) := dk_43 (dk_at dksX0_trip_1 4 rfl rfl)
theorem dX0_trip_29 : decode cX0_trip 29 = .ok (.iload 4, 2) := dk_21 4 (dk_at dksX0_trip_1 5 rfl rfl)
theorem dX0_trip_31 : decode cX0_trip 31 = .ok (.iconst 2, 1) := dk_5 (dk_at dksX0_trip_1 7 rfl rfl)
theorem dX0_trip_32 : decode cX0_trip 32 = .ok (.iadd, 1) := dk_96 (dk_at dksX0_trip_1 8 rfl rfl)
theorem dX0_trip_33 : decode cX0_trip 33 = .ok (.iaload, 1) := dk_46 (dk_at dksX0_trip_1 9 rfl rfl)
theorem dX0_trip_34 : decode cX0_trip 34 = .ok (.istore 6, 2) := dk_54 6 (dk_at dksX0_trip_1 10 rfl rfl)
theorem dX0_trip_36 : decode cX0_trip 36 = .ok (.aload_n 1, 1) := dk_43 (dk_at dksX0_trip_1 12 rfl rfl)
theorem dX0_trip_37 : decode cX0_trip 37 = .ok (.iload 4, 2) := dk_21 4 (dk_at dksX0_trip_1 13 rfl rfl)
theorem dX0_trip_39 : decode cX0_trip 39 = .ok (.iaload, 1) := dk_46 (dk_at dksX0_trip_1 15 rfl rfl)
theorem dX0_trip_40 : decode cX0_trip 40 = .ok (.iconst 3, 1) := dk_6 (dk_at dksX0_trip_1 16 rfl rfl)
theorem dX0_trip_41 : decode cX0_trip 41 = .ok (.iand, 1) := dk_126 (dk_at dksX0_trip_1 17 rfl rfl)
theorem dX0_trip_42 : decode cX0_trip 42 = .ok (.ifCond .ne 76, 3) := dk_154 0 76 (dk_at dksX0_trip_1 18 rfl rfl)
theorem dX0_trip_45 : decode cX0_trip 45 = .ok (.aload_n 0, 1) := dk_42 (dk_at dksX0_trip_1 21 rfl rfl)
theorem dX0_trip_46 : decode cX0_trip 46 = .ok (.iload 5, 2) := dk_21 5 (dk_at dksX0_trip_1 22 rfl rfl)
theorem dX0_trip_48 : decode cX0_trip 48 = .ok (.iload 6, 2) := dk_21 6 (dk_at dksX0_trip_2 0 rfl rfl)
theorem dX0_trip_50 : decode cX0_trip 50 = .ok (.iload 5, 2) := dk_21 5 (dk_at dksX0_trip_2 2 rfl rfl)
theorem dX0_trip_52 : decode cX0_trip 52 = .ok (.iload 6, 2) := dk_21 6 (dk_at dksX0_trip_2 4 rfl rfl)
theorem dX0_trip_54 : decode cX0_trip 54 = .ok (.ixor, 1) := dk_130 (dk_at dksX0_trip_2 6 rfl rfl)
theorem dX0_trip_55 : decode cX0_trip 55 = .ok (.iload 5, 2) := dk_21 5 (dk_at dksX0_trip_2 7 rfl rfl)
theorem dX0_trip_57 : decode cX0_trip 57 = .ok (.iload 6, 2) := dk_21 6 (dk_at dksX0_trip_2 9 rfl rfl)
theorem dX0_trip_59 : decode cX0_trip 59 = .ok (.isub, 1) := dk_100 (dk_at dksX0_trip_2 11 rfl rfl)
theorem dX0_trip_60 : decode cX0_trip 60 = .ok (.invokevirtual 36, 3) := dk_182 0 36 (dk_at dksX0_trip_2 12 rfl rfl)
theorem dX0_trip_63 : decode cX0_trip 63 = .ok (.ifCond .eq 44, 3) := dk_153 0 44 (dk_at dksX0_trip_2 15 rfl rfl)
theorem dX0_trip_66 : decode cX0_trip 66 = .ok (.aload_n 2, 1) := dk_44 (dk_at dksX0_trip_2 18 rfl rfl)
theorem dX0_trip_67 : decode cX0_trip 67 = .ok (.iload_n 3, 1) := dk_29 (dk_at dksX0_trip_2 19 rfl rfl)
theorem dX0_trip_68 : decode cX0_trip 68 = .ok (.iload 5, 2) := dk_21 5 (dk_at dksX0_trip_2 20 rfl rfl)
theorem dX0_trip_70 : decode cX0_trip 70 = .ok (.invokestatic 40, 3) := dk_184 0 40 (dk_at dksX0_trip_3 0 rfl rfl)
theorem dX0_trip_73 : decode cX0_trip 73 = .ok (.istore_n 3, 1) := dk_62 (dk_at dksX0_trip_3 3 rfl rfl)
theorem dX0_trip_74 : decode cX0_trip 74 = .ok (.aload_n 2, 1) := dk_44 (dk_at dksX0_trip_3 4 rfl rfl)
theorem dX0_trip_75 : decode cX0_trip 75 = .ok (.iload_n 3, 1) := dk_29 (dk_at dksX0_trip_3 5 rfl rfl)
theorem dX0_trip_76 : decode cX0_trip 76 = .ok (.iload 6, 2) := dk_21 6 (dk_at dksX0_trip_3 6 rfl rfl)
theorem dX0_trip_78 : decode cX0_trip 78 = .ok (.invokestatic 40, 3) := dk_184 0 40 (dk_at dksX0_trip_3 8 rfl rfl)
theorem dX0_trip_81 : decode cX0_trip 81 = .ok (.istore_n 3, 1) := dk_62 (dk_at dksX0_trip_3 11 rfl rfl)
theorem dX0_trip_82 : decode cX0_trip 82 = .ok (.aload_n 2, 1) := dk_44 (dk_at dksX0_trip_3 12 rfl rfl)
theorem dX0_trip_83 : decode cX0_trip 83 = .ok (.iload_n 3, 1) := dk_29 (dk_at dksX0_trip_3 13 rfl rfl)
theorem dX0_trip_84 : decode cX0_trip 84 = .ok (.iload 5, 2) := dk_21 5 (dk_at dksX0_trip_3 14 rfl rfl)
theorem dX0_trip_86 : decode cX0_trip 86 = .ok (.iload 6, 2) := dk_21 6 (dk_at dksX0_trip_3 16 rfl rfl)
theorem dX0_trip_88 : decode cX0_trip 88 = .ok (.ixor, 1) := dk_130 (dk_at dksX0_trip_3 18 rfl rfl)
theorem dX0_trip_89 : decode cX0_trip 89 = .ok (.invokestatic 40, 3) := dk_184 0 40 (dk_at dksX0_trip_3 19 rfl rfl)
theorem dX0_trip_92 : decode cX0_trip 92 = .ok (.istore_n 3, 1) := dk_62 (dk_at dksX0_trip_3 22 rfl rfl)
theorem dX0_trip_93 : decode cX0_trip 93 = .ok (.aload_n 2, 1) := dk_44 (dk_at dksX0_trip_3 23 rfl rfl)
theorem dX0_trip_94 : decode cX0_trip 94 = .ok (.iload_n 3, 1) := dk_29 (dk_at dksX0_trip_4 0 rfl rfl)
theorem dX0_trip_95 : decode cX0_trip 95 = .ok (.iload 5, 2) := dk_21 5 (dk_at dksX0_trip_4 1 rfl rfl)
theorem dX0_trip_97 : decode cX0_trip 97 = .ok (.iload 6, 2) := dk_21 6 (dk_at dksX0_trip_4 3 rfl rfl)
theorem dX0_trip_99 : decode cX0_trip 99 = .ok (.isub, 1) := dk_100 (dk_at dksX0_trip_4 5 rfl rfl)
theorem dX0_trip_100 : decode cX0_trip 100 = .ok (.invokestatic 40, 3) := dk_184 0 40 (dk_at dksX0_trip_4 6 rfl rfl)
theorem dX0_trip_103 : decode cX0_trip 103 = .ok (.istore_n 3, 1) := dk_62 (dk_at dksX0_trip_4 9 rfl rfl)
theorem dX0_trip_104 : decode cX0_trip 104 = .ok (.goto 172, 3) := dk_167 0 172 (dk_at dksX0_trip_4 10 rfl rfl)
theorem dX0_trip_107 : decode cX0_trip 107 = .ok (.iload_n 3, 1) := dk_29 (dk_at dksX0_trip_4 13 rfl rfl)
theorem dX0_trip_108 : decode cX0_trip 108 = .ok (.aload_n 2, 1) := dk_44 (dk_at dksX0_trip_4 14 rfl rfl)
theorem dX0_trip_109 : decode cX0_trip 109 = .ok (.arraylength, 1) := dk_190 (dk_at dksX0_trip_4 15 rfl rfl)
theorem dX0_trip_110 : decode cX0_trip 110 = .ok (.bipush 16, 2) := dk_16 16 (dk_at dksX0_trip_4 16 rfl rfl)
theorem dX0_trip_112 : decode cX0_trip 112 = .ok (.isub, 1) := dk_100 (dk_at dksX0_trip_4 18 rfl rfl)
theorem dX0_trip_113 : decode cX0_trip 113 = .ok (.if_icmp .gt 163, 3) := dk_163 0 163 (dk_at dksX0_trip_4 19 rfl rfl)
theorem dX0_trip_116 : decode cX0_trip 116 = .ok (.iconst 0, 1) := dk_3 (dk_at dksX0_trip_4 22 rfl rfl)
theorem dX0_trip_117 : decode cX0_trip 117 = .ok (.ireturn, 1) := dk_172 (dk_at dksX0_trip_4 23 rfl rfl)
theorem dX0_trip_118 : decode cX0_trip 118 = .ok (.aload_n 1, 1) := dk_43 (dk_at dksX0_trip_5 0 rfl rfl)
theorem dX0_trip_119 : decode cX0_trip 119 = .ok (.iload 4, 2) := dk_21 4 (dk_at dksX0_trip_5 1 rfl rfl)
theorem dX0_trip_121 : decode cX0_trip 121 = .ok (.iaload, 1) := dk_46 (dk_at dksX0_trip_5 3 rfl rfl)
theorem dX0_trip_122 : decode cX0_trip 122 = .ok (.iconst 3, 1) := dk_6 (dk_at dksX0_trip_5 4 rfl rfl)
theorem dX0_trip_123 : decode cX0_trip 123 = .ok (.iand, 1) := dk_126 (dk_at dksX0_trip_5 5 rfl rfl)
theorem dX0_trip_124 : decode cX0_trip 124 = .ok (.iconst 1, 1) := dk_4 (dk_at dksX0_trip_5 6 rfl rfl)
theorem dX0_trip_125 : decode cX0_trip 125 = .ok (.if_icmp .ne 82, 3) := dk_160 0 82 (dk_at dksX0_trip_5 7 rfl rfl)
theorem dX0_trip_128 : decode cX0_trip 128 = .ok (.aload_n 0, 1) := dk_42 (dk_at dksX0_trip_5 10 rfl rfl)
theorem dX0_trip_129 : decode cX0_trip 129 = .ok (.iload 5, 2) := dk_21 5 (dk_at dksX0_trip_5 11 rfl rfl)
theorem dX0_trip_131 : decode cX0_trip 131 = .ok (.iload 6, 2) := dk_21 6 (dk_at dksX0_trip_5 13 rfl rfl)
theorem dX0_trip_133 : decode cX0_trip 133 = .ok (.invokevirtual 44, 3) := dk_182 0 44 (dk_at dksX0_trip_5 15 rfl rfl)
theorem dX0_trip_136 : decode cX0_trip 136 = .ok (.istore 7, 2) := dk_54 7 (dk_at dksX0_trip_5 18 rfl rfl)
theorem dX0_trip_138 : decode cX0_trip 138 = .ok (.iload_n 3, 1) := dk_29 (dk_at dksX0_trip_5 20 rfl rfl)
theorem dX0_trip_139 : decode cX0_trip 139 = .ok (.ifCond .ne 14, 3) := dk_154 0 14 (dk_at dksX0_trip_5 21 rfl rfl)
theorem dX0_trip_142 : decode cX0_trip 142 = .ok (.iload 7, 2) := dk_21 7 (dk_at dksX0_trip_6 0 rfl rfl)
theorem dX0_trip_144 : decode cX0_trip 144 = .ok (.iconst (-1), 1) := dk_2 (dk_at dksX0_trip_6 2 rfl rfl)
theorem dX0_trip_145 : decode cX0_trip 145 = .ok (.if_icmp .eq 5, 3) := dk_159 0 5 (dk_at dksX0_trip_6 3 rfl rfl)
theorem dX0_trip_148 : decode cX0_trip 148 = .ok (.iconst 0, 1) := dk_3 (dk_at dksX0_trip_6 6 rfl rfl)
theorem dX0_trip_149 : decode cX0_trip 149 = .ok (.ireturn, 1) := dk_172 (dk_at dksX0_trip_6 7 rfl rfl)
theorem dX0_trip_150 : decode cX0_trip 150 = .ok (.iconst 0, 1) := dk_3 (dk_at dksX0_trip_6 8 rfl rfl)
theorem dX0_trip_151 : decode cX0_trip 151 = .ok (.istore 7, 2) := dk_54 7 (dk_at dksX0_trip_6 9 rfl rfl)
theorem dX0_trip_153 : decode cX0_trip 153 = .ok (.iload_n 3, 1) := dk_29 (dk_at dksX0_trip_6 11 rfl rfl)
theorem dX0_trip_154 : decode cX0_trip 154 = .ok (.ifCond .ne 7, 3) := dk_154 0 7 (dk_at dksX0_trip_6 12 rfl rfl)
theorem dX0_trip_157 : decode cX0_trip 157 = .ok (.iconst 0, 1) := dk_3 (dk_at dksX0_trip_6 15 rfl rfl)
theorem dX0_trip_158 : decode cX0_trip 158 = .ok (.goto 10, 3) := dk_167 0 10 (dk_at dksX0_trip_6 16 rfl rfl)
theorem dX0_trip_161 : decode cX0_trip 161 = .ok (.iload 5, 2) := dk_21 5 (dk_at dksX0_trip_6 19 rfl rfl)
theorem dX0_trip_163 : decode cX0_trip 163 = .ok (.ldc 47, 2) := dk_18 47 (dk_at dksX0_trip_6 21 rfl rfl)
theorem dX0_trip_165 : decode cX0_trip 165 = .ok (.iand, 1) := dk_126 (dk_at dksX0_trip_6 23 rfl rfl)
theorem dX0_trip_166 : decode cX0_trip 166 = .ok (.iload_n 3, 1) := dk_29 (dk_at dksX0_trip_7 0 rfl rfl)
theorem dX0_trip_167 : decode cX0_trip 167 = .ok (.irem, 1) := dk_112 (dk_at dksX0_trip_7 1 rfl rfl)
theorem dX0_trip_168 : decode cX0_trip 168 = .ok (.istore 8, 2) := dk_54 8 (dk_at dksX0_trip_7 2 rfl rfl)
theorem dX0_trip_170 : decode cX0_trip 170 = .ok (.iconst 0, 1) := dk_3 (dk_at dksX0_trip_7 4 rfl rfl)
theorem dX0_trip_171 : decode cX0_trip 171 = .ok (.istore 9, 2) := dk_54 9 (dk_at dksX0_trip_7 5 rfl rfl)
theorem dX0_trip_173 : decode cX0_trip 173 = .ok (.iload 9, 2) := dk_21 9 (dk_at dksX0_trip_7 7 rfl rfl)
theorem dX0_trip_175 : decode cX0_trip 175 = .ok (.iload 7, 2) := dk_21 7 (dk_at dksX0_trip_7 9 rfl rfl)
theorem dX0_trip_177 : decode cX0_trip 177 = .ok (.if_icmp .ge 22, 3) := dk_162 0 22 (dk_at dksX0_trip_7 11 rfl rfl)
theorem dX0_trip_180 : decode cX0_trip 180 = .ok (.aload_n 2, 1) := dk_44 (dk_at dksX0_trip_7 14 rfl rfl)
theorem dX0_trip_181 : decode cX0_trip 181 = .ok (.iload_n 3, 1) := dk_29 (dk_at dksX0_trip_7 15 rfl rfl)
theorem dX0_trip_182 : decode cX0_trip 182 = .ok (.iload 9, 2) := dk_21 9 (dk_at dksX0_trip_7 16 rfl rfl)
theorem dX0_trip_184 : decode cX0_trip 184 = .ok (.iadd, 1) := dk_96 (dk_at dksX0_trip_7 18 rfl rfl)
theorem dX0_trip_185 : decode cX0_trip 185 = .ok (.aload_n 2, 1) := dk_44 (dk_at dksX0_trip_7 19 rfl rfl)
theorem dX0_trip_186 : decode cX0_trip 186 = .ok (.iload 8, 2) := dk_21 8 (dk_at dksX0_trip_7 20 rfl rfl)
theorem dX0_trip_188 : decode cX0_trip 188 = .ok (.iload 9, 2) := dk_21 9 (dk_at dksX0_trip_7 22 rfl rfl)
theorem dX0_trip_190 : decode cX0_trip 190 = .ok (.iadd, 1) := dk_96 (dk_at dksX0_trip_8 0 rfl rfl)
theorem dX0_trip_191 : decode cX0_trip 191 = .ok (.baload, 1) := dk_51 (dk_at dksX0_trip_8 1 rfl rfl)
theorem dX0_trip_192 : decode cX0_trip 192 = .ok (.bastore, 1) := dk_84 (dk_at dksX0_trip_8 2 rfl rfl)
theorem dX0_trip_193 : decode cX0_trip 193 = .ok (.iinc 9 1, 3) := dk_132 9 1 (dk_at dksX0_trip_8 3 rfl rfl)
theorem dX0_trip_196 : decode cX0_trip 196 = .ok (.goto (-23), 3) := dk_167 255 233 (dk_at dksX0_trip_8 6 rfl rfl)
theorem dX0_trip_199 : decode cX0_trip 199 = .ok (.iload_n 3, 1) := dk_29 (dk_at dksX0_trip_8 9 rfl rfl)
theorem dX0_trip_200 : decode cX0_trip 200 = .ok (.iload 7, 2) := dk_21 7 (dk_at dksX0_trip_8 10 rfl rfl)
theorem dX0_trip_202 : decode cX0_trip 202 = .ok (.iadd, 1) := dk_96 (dk_at dksX0_trip_8 12 rfl rfl)
theorem dX0_trip_203 : decode cX0_trip 203 = .ok (.istore_n 3, 1) := dk_62 (dk_at dksX0_trip_8 13 rfl rfl)
theorem dX0_trip_204 : decode cX0_trip 204 = .ok (.goto 72, 3) := dk_167 0 72 (dk_at dksX0_trip_8 14 rfl rfl)
theorem dX0_trip_207 : decode cX0_trip 207 = .ok (.aload_n 1, 1) := dk_43 (dk_at dksX0_trip_8 17 rfl rfl)
theorem dX0_trip_208 : decode cX0_trip 208 = .ok (.iload 4, 2) := dk_21 4 (dk_at dksX0_trip_8 18 rfl rfl)
theorem dX0_trip_210 : decode cX0_trip 210 = .ok (.iaload, 1) := dk_46 (dk_at dksX0_trip_8 20 rfl rfl)
theorem dX0_trip_211 : decode cX0_trip 211 = .ok (.iconst 3, 1) := dk_6 (dk_at dksX0_trip_8 21 rfl rfl)
theorem dX0_trip_212 : decode cX0_trip 212 = .ok (.iand, 1) := dk_126 (dk_at dksX0_trip_8 22 rfl rfl)
theorem dX0_trip_213 : decode cX0_trip 213 = .ok (.iconst 2, 1) := dk_5 (dk_at dksX0_trip_8 23 rfl rfl)
theorem dX0_trip_214 : decode cX0_trip 214 = .ok (.if_icmp .ne 46, 3) := dk_160 0 46 (dk_at dksX0_trip_9 0 rfl rfl)
theorem dX0_trip_217 : decode cX0_trip 217 = .ok (.aload_n 0, 1) := dk_42 (dk_at dksX0_trip_9 3 rfl rfl)
theorem dX0_trip_218 : decode cX0_trip 218 = .ok (.iload 5, 2) := dk_21 5 (dk_at dksX0_trip_9 4 rfl rfl)
theorem dX0_trip_220 : decode cX0_trip 220 = .ok (.iload 6, 2) := dk_21 6 (dk_at dksX0_trip_9 6 rfl rfl)
theorem dX0_trip_222 : decode cX0_trip 222 = .ok (.invokevirtual 10, 3) := dk_182 0 10 (dk_at dksX0_trip_9 8 rfl rfl)
theorem dX0_trip_225 : decode cX0_trip 225 = .ok (.istore 7, 2) := dk_54 7 (dk_at dksX0_trip_9 11 rfl rfl)
theorem dX0_trip_227 : decode cX0_trip 227 = .ok (.iconst 0, 1) := dk_3 (dk_at dksX0_trip_9 13 rfl rfl)
theorem dX0_trip_228 : decode cX0_trip 228 = .ok (.istore 8, 2) := dk_54 8 (dk_at dksX0_trip_9 14 rfl rfl)
theorem dX0_trip_230 : decode cX0_trip 230 = .ok (.iload 8, 2) := dk_21 8 (dk_at dksX0_trip_9 16 rfl rfl)
theorem dX0_trip_232 : decode cX0_trip 232 = .ok (.iload 7, 2) := dk_21 7 (dk_at dksX0_trip_9 18 rfl rfl)
theorem dX0_trip_234 : decode cX0_trip 234 = .ok (.if_icmp .ge 18, 3) := dk_162 0 18 (dk_at dksX0_trip_9 20 rfl rfl)
theorem dX0_trip_237 : decode cX0_trip 237 = .ok (.aload_n 2, 1) := dk_44 (dk_at dksX0_trip_9 23 rfl rfl)
theorem dX0_trip_238 : decode cX0_trip 238 = .ok (.iload_n 3, 1) := dk_29 (dk_at dksX0_trip_10 0 rfl rfl)
theorem dX0_trip_239 : decode cX0_trip 239 = .ok (.iload 8, 2) := dk_21 8 (dk_at dksX0_trip_10 1 rfl rfl)
theorem dX0_trip_241 : decode cX0_trip 241 = .ok (.iadd, 1) := dk_96 (dk_at dksX0_trip_10 3 rfl rfl)
theorem dX0_trip_242 : decode cX0_trip 242 = .ok (.iload 5, 2) := dk_21 5 (dk_at dksX0_trip_10 4 rfl rfl)
theorem dX0_trip_244 : decode cX0_trip 244 = .ok (.i2b, 1) := dk_145 (dk_at dksX0_trip_10 6 rfl rfl)
theorem dX0_trip_245 : decode cX0_trip 245 = .ok (.bastore, 1) := dk_84 (dk_at dksX0_trip_10 7 rfl rfl)
theorem dX0_trip_246 : decode cX0_trip 246 = .ok (.iinc 8 1, 3) := dk_132 8 1 (dk_at dksX0_trip_10 8 rfl rfl)
theorem dX0_trip_249 : decode cX0_trip 249 = .ok (.goto (-19), 3) := dk_167 255 237 (dk_at dksX0_trip_10 11 rfl rfl)
theorem dX0_trip_252 : decode cX0_trip 252 = .ok (.iload_n 3, 1) := dk_29 (dk_at dksX0_trip_10 14 rfl rfl)
theorem dX0_trip_253 : decode cX0_trip 253 = .ok (.iload 7, 2) := dk_21 7 (dk_at dksX0_trip_10 15 rfl rfl)
theorem dX0_trip_255 : decode cX0_trip 255 = .ok (.iadd, 1) := dk_96 (dk_at dksX0_trip_10 17 rfl rfl)
theorem dX0_trip_256 : decode cX0_trip 256 = .ok (.istore_n 3, 1) := dk_62 (dk_at dksX0_trip_10 18 rfl rfl)
theorem dX0_trip_257 : decode cX0_trip 257 = .ok (.goto 19, 3) := dk_167 0 19 (dk_at dksX0_trip_10 19 rfl rfl)
theorem dX0_trip_260 : decode cX0_trip 260 = .ok (.aload_n 0, 1) := dk_42 (dk_at dksX0_trip_10 22 rfl rfl)
theorem dX0_trip_261 : decode cX0_trip 261 = .ok (.iload 5, 2) := dk_21 5 (dk_at dksX0_trip_11 0 rfl rfl)
theorem dX0_trip_263 : decode cX0_trip 263 = .ok (.invokevirtual 22, 3) := dk_182 0 22 (dk_at dksX0_trip_11 2 rfl rfl)
theorem dX0_trip_266 : decode cX0_trip 266 = .ok (.iload 5, 2) := dk_21 5 (dk_at dksX0_trip_11 5 rfl rfl)
theorem dX0_trip_268 : decode cX0_trip 268 = .ok (.ldc 47, 2) := dk_18 47 (dk_at dksX0_trip_11 7 rfl rfl)
theorem dX0_trip_270 : decode cX0_trip 270 = .ok (.iand, 1) := dk_126 (dk_at dksX0_trip_11 9 rfl rfl)
theorem dX0_trip_271 : decode cX0_trip 271 = .ok (.iload_n 3, 1) := dk_29 (dk_at dksX0_trip_11 10 rfl rfl)
theorem dX0_trip_272 : decode cX0_trip 272 = .ok (.iconst 1, 1) := dk_4 (dk_at dksX0_trip_11 11 rfl rfl)
theorem dX0_trip_273 : decode cX0_trip 273 = .ok (.iadd, 1) := dk_96 (dk_at dksX0_trip_11 12 rfl rfl)
theorem dX0_trip_274 : decode cX0_trip 274 = .ok (.irem, 1) := dk_112 (dk_at dksX0_trip_11 13 rfl rfl)
theorem dX0_trip_275 : decode cX0_trip 275 = .ok (.istore_n 3, 1) := dk_62 (dk_at dksX0_trip_11 14 rfl rfl)
theorem dX0_trip_276 : decode cX0_trip 276 = .ok (.aload_n 0, 1) := dk_42 (dk_at dksX0_trip_11 15 rfl rfl)
theorem dX0_trip_277 : decode cX0_trip 277 = .ok (.invokevirtual 48, 3) := dk_182 0 48 (dk_at dksX0_trip_11 16 rfl rfl)
theorem dX0_trip_280 : decode cX0_trip 280 = .ok (.iload_n 3, 1) := dk_29 (dk_at dksX0_trip_11 19 rfl rfl)
theorem dX0_trip_281 : decode cX0_trip 281 = .ok (.if_icmp .eq 5, 3) := dk_159 0 5 (dk_at dksX0_trip_11 20 rfl rfl)
theorem dX0_trip_284 : decode cX0_trip 284 = .ok (.iconst 0, 1) := dk_3 (dk_at dksX0_trip_11 23 rfl rfl)
theorem dX0_trip_285 : decode cX0_trip 285 = .ok (.ireturn, 1) := dk_172 (dk_at dksX0_trip_12 0 rfl rfl)
theorem dX0_trip_286 : decode cX0_trip 286 = .ok (.iinc 4 3, 3) := dk_132 4 3 (dk_at dksX0_trip_12 1 rfl rfl)
theorem dX0_trip_289 : decode cX0_trip 289 = .ok (.goto (-278), 3) := dk_167 254 234 (dk_at dksX0_trip_12 4 rfl rfl)
theorem dX0_trip_292 : decode cX0_trip 292 = .ok (.aload_n 0, 1) := dk_42 (dk_at dksX0_trip_12 7 rfl rfl)
theorem dX0_trip_293 : decode cX0_trip 293 = .ok (.invokevirtual 14, 3) := dk_182 0 14 (dk_at dksX0_trip_12 8 rfl rfl)
theorem dX0_trip_296 : decode cX0_trip 296 = .ok (.ifCond .ne 5, 3) := dk_154 0 5 (dk_at dksX0_trip_12 11 rfl rfl)
theorem dX0_trip_299 : decode cX0_trip 299 = .ok (.iconst 0, 1) := dk_3 (dk_at dksX0_trip_12 14 rfl rfl)
theorem dX0_trip_300 : decode cX0_trip 300 = .ok (.ireturn, 1) := dk_172 (dk_at dksX0_trip_12 15 rfl rfl)
theorem dX0_trip_301 : decode cX0_trip 301 = .ok (.aload_n 0, 1) := dk_42 (dk_at dksX0_trip_12 16 rfl rfl)
theorem dX0_trip_302 : decode cX0_trip 302 = .ok (.invokevirtual 18, 3) := dk_182 0 18 (dk_at dksX0_trip_12 17 rfl rfl)
theorem dX0_trip_305 : decode cX0_trip 305 = .ok (.iload_n 3, 1) := dk_29 (dk_at dksX0_trip_12 20 rfl rfl)
theorem dX0_trip_306 : decode cX0_trip 306 = .ok (.if_icmp .eq 5, 3) := dk_159 0 5 (dk_at dksX0_trip_12 21 rfl rfl)
theorem dX0_trip_309 : decode cX0_trip 309 = .ok (.iconst 0, 1) := dk_3 (dk_at dksX0_trip_13 0 rfl rfl)
theorem dX0_trip_310 : decode cX0_trip 310 = .ok (.ireturn, 1) := dk_172 (dk_at dksX0_trip_13 1 rfl rfl)
theorem dX0_trip_311 : decode cX0_trip 311 = .ok (.iconst 0, 1) := dk_3 (dk_at dksX0_trip_13 2 rfl rfl)
theorem dX0_trip_312 : decode cX0_trip 312 = .ok (.istore 4, 2) := dk_54 4 (dk_at dksX0_trip_13 3 rfl rfl)
theorem dX0_trip_314 : decode cX0_trip 314 = .ok (.iload 4, 2) := dk_21 4 (dk_at dksX0_trip_13 5 rfl rfl)
theorem dX0_trip_316 : decode cX0_trip 316 = .ok (.iload_n 3, 1) := dk_29 (dk_at dksX0_trip_13 7 rfl rfl)
theorem dX0_trip_317 : decode cX0_trip 317 = .ok (.if_icmp .ge 28, 3) := dk_162 0 28 (dk_at dksX0_trip_13 8 rfl rfl)
theorem dX0_trip_320 : decode cX0_trip 320 = .ok (.aload_n 0, 1) := dk_42 (dk_at dksX0_trip_13 11 rfl rfl)
theorem dX0_trip_321 : decode cX0_trip 321 = .ok (.iload 4, 2) := dk_21 4 (dk_at dksX0_trip_13 12 rfl rfl)
theorem dX0_trip_323 : decode cX0_trip 323 = .ok (.invokevirtual 51, 3) := dk_182 0 51 (dk_at dksX0_trip_13 14 rfl rfl)
theorem dX0_trip_326 : decode cX0_trip 326 = .ok (.aload_n 2, 1) := dk_44 (dk_at dksX0_trip_13 17 rfl rfl)
theorem dX0_trip_327 : decode cX0_trip 327 = .ok (.iload 4, 2) := dk_21 4 (dk_at dksX0_trip_13 18 rfl rfl)
theorem dX0_trip_329 : decode cX0_trip 329 = .ok (.baload, 1) := dk_51 (dk_at dksX0_trip_13 20 rfl rfl)
theorem dX0_trip_330 : decode cX0_trip 330 = .ok (.sipush 255, 3) := dk_17 0 255 (dk_at dksX0_trip_13 21 rfl rfl)
theorem dX0_trip_333 : decode cX0_trip 333 = .ok (.iand, 1) := dk_126 (dk_at dksX0_trip_14 0 rfl rfl)
theorem dX0_trip_334 : decode cX0_trip 334 = .ok (.if_icmp .eq 5, 3) := dk_159 0 5 (dk_at dksX0_trip_14 1 rfl rfl)
theorem dX0_trip_337 : decode cX0_trip 337 = .ok (.iconst 0, 1) := dk_3 (dk_at dksX0_trip_14 4 rfl rfl)
theorem dX0_trip_338 : decode cX0_trip 338 = .ok (.ireturn, 1) := dk_172 (dk_at dksX0_trip_14 5 rfl rfl)
theorem dX0_trip_339 : decode cX0_trip 339 = .ok (.iinc 4 1, 3) := dk_132 4 1 (dk_at dksX0_trip_14 6 rfl rfl)
theorem dX0_trip_342 : decode cX0_trip 342 = .ok (.goto (-28), 3) := dk_167 255 228 (dk_at dksX0_trip_14 9 rfl rfl)
theorem dX0_trip_345 : decode cX0_trip 345 = .ok (.iload_n 3, 1) := dk_29 (dk_at dksX0_trip_14 12 rfl rfl)
theorem dX0_trip_346 : decode cX0_trip 346 = .ok (.ifCond .gt 12, 3) := dk_157 0 12 (dk_at dksX0_trip_14 13 rfl rfl)
theorem dX0_trip_349 : decode cX0_trip 349 = .ok (.aload_n 0, 1) := dk_42 (dk_at dksX0_trip_14 16 rfl rfl)
theorem dX0_trip_350 : decode cX0_trip 350 = .ok (.iconst 0, 1) := dk_3 (dk_at dksX0_trip_14 17 rfl rfl)
theorem dX0_trip_351 : decode cX0_trip 351 = .ok (.invokevirtual 51, 3) := dk_182 0 51 (dk_at dksX0_trip_14 18 rfl rfl)
theorem dX0_trip_354 : decode cX0_trip 354 = .ok (.iconst (-1), 1) := dk_2 (dk_at dksX0_trip_14 21 rfl rfl)
theorem dX0_trip_355 : decode cX0_trip 355 = .ok (.if_icmp .ne 7, 3) := dk_160 0 7 (dk_at dksX0_trip_15 0 rfl rfl)
theorem dX0_trip_358 : decode cX0_trip 358 = .ok (.iconst 1, 1) := dk_4 (dk_at dksX0_trip_15 3 rfl rfl)
theorem dX0_trip_359 : decode cX0_trip 359 = .ok (.goto 4, 3) := dk_167 0 4 (dk_at dksX0_trip_15 4 rfl rfl)
theorem dX0_trip_362 : decode cX0_trip 362 = .ok (.iconst 0, 1) := dk_3 (dk_at dksX0_trip_15 7 rfl rfl)
theorem dX0_trip_363 : decode cX0_trip 363 = .ok (.ireturn, 1) := dk_172 (dk_at dksX0_trip_15 8 rfl rfl)
abbrev cX0_word : ByteArray := method_6_code
def yX0_word : MethodName := ⟨RX0, "word", "([BII)I"⟩
def dkwX0_word_1 : List UInt8 := [16, 8, 122, 145, 84, 42, 27, 6, 96, 28, 145, 84, 27, 7, 96, 172]
abbrev dktX0_word_1 : List UInt8 := dkwX0_word_1 ++ []
def dkwX0_word_0 : List UInt8 := [42, 27, 28, 16, 24, 122, 145, 84, 42, 27, 4, 96, 28, 16, 16, 122, 145, 84, 42, 27, 5, 96, 28]
abbrev dktX0_word_0 : List UInt8 := dkwX0_word_0 ++ dktX0_word_1
theorem dksX0_word_0 : cX0_word.data.toList.drop 0 = dktX0_word_0 := by decide +kernel
theorem dksX0_word_1 : cX0_word.data.toList.drop 23 = dktX0_word_1 := dk_seg dksX0_word_0 23 rfl rfl
theorem dX0_word_0 : decode cX0_word 0 = .ok (.aload_n 0, 1) := dk_42 (dk_at dksX0_word_0 0 rfl rfl)
theorem dX0_word_1 : decode cX0_word 1 = .ok (.iload_n 1, 1) := dk_27 (dk_at dksX0_word_0 1 rfl rfl)
theorem dX0_word_2 : decode cX0_word 2 = .ok (.iload_n 2, 1) := dk_28 (dk_at dksX0_word_0 2 rfl rfl)
theorem dX0_word_3 : decode cX0_word 3 = .ok (.bipush 24, 2) := dk_16 24 (dk_at dksX0_word_0 3 rfl rfl)
theorem dX0_word_5 : decode cX0_word 5 = .ok (.ishr, 1) := dk_122 (dk_at dksX0_word_0 5 rfl rfl)
theorem dX0_word_6 : decode cX0_word 6 = .ok (.i2b, 1) := dk_145 (dk_at dksX0_word_0 6 rfl rfl)
theorem dX0_word_7 : decode cX0_word 7 = .ok (.bastore, 1) := dk_84 (dk_at dksX0_word_0 7 rfl rfl)
theorem dX0_word_8 : decode cX0_word 8 = .ok (.aload_n 0, 1) := dk_42 (dk_at dksX0_word_0 8 rfl rfl)
theorem dX0_word_9 : decode cX0_word 9 = .ok (.iload_n 1, 1) := dk_27 (dk_at dksX0_word_0 9 rfl rfl)
theorem dX0_word_10 : decode cX0_word 10 = .ok (.iconst 1, 1) := dk_4 (dk_at dksX0_word_0 10 rfl rfl)
theorem dX0_word_11 : decode cX0_word 11 = .ok (.iadd, 1) := dk_96 (dk_at dksX0_word_0 11 rfl rfl)
theorem dX0_word_12 : decode cX0_word 12 = .ok (.iload_n 2, 1) := dk_28 (dk_at dksX0_word_0 12 rfl rfl)
theorem dX0_word_13 : decode cX0_word 13 = .ok (.bipush 16, 2) := dk_16 16 (dk_at dksX0_word_0 13 rfl rfl)
theorem dX0_word_15 : decode cX0_word 15 = .ok (.ishr, 1) := dk_122 (dk_at dksX0_word_0 15 rfl rfl)
theorem dX0_word_16 : decode cX0_word 16 = .ok (.i2b, 1) := dk_145 (dk_at dksX0_word_0 16 rfl rfl)
theorem dX0_word_17 : decode cX0_word 17 = .ok (.bastore, 1) := dk_84 (dk_at dksX0_word_0 17 rfl rfl)
theorem dX0_word_18 : decode cX0_word 18 = .ok (.aload_n 0, 1) := dk_42 (dk_at dksX0_word_0 18 rfl rfl)
theorem dX0_word_19 : decode cX0_word 19 = .ok (.iload_n 1, 1) := dk_27 (dk_at dksX0_word_0 19 rfl rfl)
theorem dX0_word_20 : decode cX0_word 20 = .ok (.iconst 2, 1) := dk_5 (dk_at dksX0_word_0 20 rfl rfl)
theorem dX0_word_21 : decode cX0_word 21 = .ok (.iadd, 1) := dk_96 (dk_at dksX0_word_0 21 rfl rfl)
theorem dX0_word_22 : decode cX0_word 22 = .ok (.iload_n 2, 1) := dk_28 (dk_at dksX0_word_0 22 rfl rfl)
theorem dX0_word_23 : decode cX0_word 23 = .ok (.bipush 8, 2) := dk_16 8 (dk_at dksX0_word_1 0 rfl rfl)
theorem dX0_word_25 : decode cX0_word 25 = .ok (.ishr, 1) := dk_122 (dk_at dksX0_word_1 2 rfl rfl)
theorem dX0_word_26 : decode cX0_word 26 = .ok (.i2b, 1) := dk_145 (dk_at dksX0_word_1 3 rfl rfl)
theorem dX0_word_27 : decode cX0_word 27 = .ok (.bastore, 1) := dk_84 (dk_at dksX0_word_1 4 rfl rfl)
theorem dX0_word_28 : decode cX0_word 28 = .ok (.aload_n 0, 1) := dk_42 (dk_at dksX0_word_1 5 rfl rfl)
theorem dX0_word_29 : decode cX0_word 29 = .ok (.iload_n 1, 1) := dk_27 (dk_at dksX0_word_1 6 rfl rfl)
theorem dX0_word_30 : decode cX0_word 30 = .ok (.iconst 3, 1) := dk_6 (dk_at dksX0_word_1 7 rfl rfl)
theorem dX0_word_31 : decode cX0_word 31 = .ok (.iadd, 1) := dk_96 (dk_at dksX0_word_1 8 rfl rfl)
theorem dX0_word_32 : decode cX0_word 32 = .ok (.iload_n 2, 1) := dk_28 (dk_at dksX0_word_1 9 rfl rfl)
theorem dX0_word_33 : decode cX0_word 33 = .ok (.i2b, 1) := dk_145 (dk_at dksX0_word_1 10 rfl rfl)
theorem dX0_word_34 : decode cX0_word 34 = .ok (.bastore, 1) := dk_84 (dk_at dksX0_word_1 11 rfl rfl)
theorem dX0_word_35 : decode cX0_word 35 = .ok (.iload_n 1, 1) := dk_27 (dk_at dksX0_word_1 12 rfl rfl)
theorem dX0_word_36 : decode cX0_word 36 = .ok (.iconst 4, 1) := dk_7 (dk_at dksX0_word_1 13 rfl rfl)
theorem dX0_word_37 : decode cX0_word 37 = .ok (.iadd, 1) := dk_96 (dk_at dksX0_word_1 14 rfl rfl)
theorem dX0_word_38 : decode cX0_word 38 = .ok (.ireturn, 1) := dk_172 (dk_at dksX0_word_1 15 rfl rfl)
abbrev cX0_used : ByteArray := method_3_code
def yX0_used : MethodName := ⟨RX0, "used", "()LBlockPacker;"⟩
def dkwX0_used_1 : List UInt8 := [87, 132, 1, 1, 167, 255, 238, 42, 182, 0, 14, 87, 42, 182, 0, 18, 87, 42, 3, 182, 0, 22, 42, 176]
abbrev dktX0_used_1 : List UInt8 := dkwX0_used_1 ++ []
def dkwX0_used_0 : List UInt8 := [187, 0, 7, 89, 183, 0, 9, 75, 3, 60, 27, 16, 16, 162, 0, 18, 42, 2, 17, 4, 0, 182, 0, 10]
abbrev dktX0_used_0 : List UInt8 := dkwX0_used_0 ++ dktX0_used_1
theorem dksX0_used_0 : cX0_used.data.toList.drop 0 = dktX0_used_0 := by decide +kernel
theorem dksX0_used_1 : cX0_used.data.toList.drop 24 = dktX0_used_1 := dk_seg dksX0_used_0 24 rfl rfl
theorem dX0_used_0 : decode cX0_used 0 = .ok (.new 7, 3) := dk_187 0 7 (dk_at dksX0_used_0 0 rfl rfl)
theorem dX0_used_3 : decode cX0_used 3 = .ok (.dup, 1) := dk_89 (dk_at dksX0_used_0 3 rfl rfl)
theorem dX0_used_4 : decode cX0_used 4 = .ok (.invokespecial 9, 3) := dk_183 0 9 (dk_at dksX0_used_0 4 rfl rfl)
theorem dX0_used_7 : decode cX0_used 7 = .ok (.astore_n 0, 1) := dk_75 (dk_at dksX0_used_0 7 rfl rfl)
theorem dX0_used_8 : decode cX0_used 8 = .ok (.iconst 0, 1) := dk_3 (dk_at dksX0_used_0 8 rfl rfl)
theorem dX0_used_9 : decode cX0_used 9 = .ok (.istore_n 1, 1) := dk_60 (dk_at dksX0_used_0 9 rfl rfl)
theorem dX0_used_10 : decode cX0_used 10 = .ok (.iload_n 1, 1) := dk_27 (dk_at dksX0_used_0 10 rfl rfl)
theorem dX0_used_11 : decode cX0_used 11 = .ok (.bipush 16, 2) := dk_16 16 (dk_at dksX0_used_0 11 rfl rfl)
theorem dX0_used_13 : decode cX0_used 13 = .ok (.if_icmp .ge 18, 3) := dk_162 0 18 (dk_at dksX0_used_0 13 rfl rfl)
theorem dX0_used_16 : decode cX0_used 16 = .ok (.aload_n 0, 1) := dk_42 (dk_at dksX0_used_0 16 rfl rfl)
theorem dX0_used_17 : decode cX0_used 17 = .ok (.iconst (-1), 1) := dk_2 (dk_at dksX0_used_0 17 rfl rfl)
theorem dX0_used_18 : decode cX0_used 18 = .ok (.sipush 1024, 3) := dk_17 4 0 (dk_at dksX0_used_0 18 rfl rfl)
theorem dX0_used_21 : decode cX0_used 21 = .ok (.invokevirtual 10, 3) := dk_182 0 10 (dk_at dksX0_used_0 21 rfl rfl)
theorem dX0_used_24 : decode cX0_used 24 = .ok (.pop, 1) := dk_87 (dk_at dksX0_used_1 0 rfl rfl)
theorem dX0_used_25 : decode cX0_used 25 = .ok (.iinc 1 1, 3) := dk_132 1 1 (dk_at dksX0_used_1 1 rfl rfl)
theorem dX0_used_28 : decode cX0_used 28 = .ok (.goto (-18), 3) := dk_167 255 238 (dk_at dksX0_used_1 4 rfl rfl)
theorem dX0_used_31 : decode cX0_used 31 = .ok (.aload_n 0, 1) := dk_42 (dk_at dksX0_used_1 7 rfl rfl)
theorem dX0_used_32 : decode cX0_used 32 = .ok (.invokevirtual 14, 3) := dk_182 0 14 (dk_at dksX0_used_1 8 rfl rfl)
theorem dX0_used_35 : decode cX0_used 35 = .ok (.pop, 1) := dk_87 (dk_at dksX0_used_1 11 rfl rfl)
theorem dX0_used_36 : decode cX0_used 36 = .ok (.aload_n 0, 1) := dk_42 (dk_at dksX0_used_1 12 rfl rfl)
theorem dX0_used_37 : decode cX0_used 37 = .ok (.invokevirtual 18, 3) := dk_182 0 18 (dk_at dksX0_used_1 13 rfl rfl)
theorem dX0_used_40 : decode cX0_used 40 = .ok (.pop, 1) := dk_87 (dk_at dksX0_used_1 16 rfl rfl)
theorem dX0_used_41 : decode cX0_used 41 = .ok (.aload_n 0, 1) := dk_42 (dk_at dksX0_used_1 17 rfl rfl)
theorem dX0_used_42 : decode cX0_used 42 = .ok (.iconst 0, 1) := dk_3 (dk_at dksX0_used_1 18 rfl rfl)
theorem dX0_used_43 : decode cX0_used 43 = .ok (.invokevirtual 22, 3) := dk_182 0 22 (dk_at dksX0_used_1 19 rfl rfl)
theorem dX0_used_46 : decode cX0_used 46 = .ok (.aload_n 0, 1) := dk_42 (dk_at dksX0_used_1 22 rfl rfl)
theorem dX0_used_47 : decode cX0_used 47 = .ok (.areturn, 1) := dk_176 (dk_at dksX0_used_1 23 rfl rfl)
abbrev cX0_askedKeeps : ByteArray := method_7_code
def yX0_askedKeeps : MethodName := ⟨RX0, "askedKeeps", "(II)Z"⟩
def dkwX0_askedKeeps_7 : List UInt8 := [160, 0, 7, 4, 167, 0, 4, 3, 172]
abbrev dktX0_askedKeeps_7 : List UInt8 := dkwX0_askedKeeps_7 ++ []
def dkwX0_askedKeeps_6 : List UInt8 := [17, 0, 255, 126, 159, 0, 5, 3, 172, 132, 4, 1, 167, 255, 199, 44, 182, 0, 48, 17, 4, 3]
abbrev dktX0_askedKeeps_6 : List UInt8 := dkwX0_askedKeeps_6 ++ dktX0_askedKeeps_7
def dkwX0_askedKeeps_5 : List UInt8 := [21, 4, 7, 108, 46, 16, 24, 16, 8, 21, 4, 7, 112, 104, 100, 122, 17, 0, 255, 126, 167, 0, 8, 26]
abbrev dktX0_askedKeeps_5 : List UInt8 := dkwX0_askedKeeps_5 ++ dktX0_askedKeeps_6
def dkwX0_askedKeeps_4 : List UInt8 := [54, 4, 21, 4, 16, 56, 162, 0, 56, 44, 21, 4, 182, 0, 51, 21, 4, 16, 16, 162, 0, 27, 45]
abbrev dktX0_askedKeeps_4 : List UInt8 := dkwX0_askedKeeps_4 ++ dktX0_askedKeeps_5
def dkwX0_askedKeeps_3 : List UInt8 := [188, 10, 89, 3, 26, 79, 89, 4, 27, 79, 89, 5, 26, 27, 130, 79, 89, 6, 26, 27, 100, 79, 78, 3]
abbrev dktX0_askedKeeps_3 : List UInt8 := dkwX0_askedKeeps_3 ++ dktX0_askedKeeps_4
def dkwX0_askedKeeps_2 : List UInt8 := [17, 0, 255, 130, 17, 4, 0, 182, 0, 10, 87, 44, 182, 0, 18, 16, 56, 159, 0, 5, 3, 172, 7]
abbrev dktX0_askedKeeps_2 : List UInt8 := dkwX0_askedKeeps_2 ++ dktX0_askedKeeps_3
def dkwX0_askedKeeps_1 : List UInt8 := [16, 40, 182, 0, 10, 87, 44, 182, 0, 14, 154, 0, 5, 3, 172, 44, 6, 182, 0, 22, 44, 27]
abbrev dktX0_askedKeeps_1 : List UInt8 := dkwX0_askedKeeps_1 ++ dktX0_askedKeeps_2
def dkwX0_askedKeeps_0 : List UInt8 := [187, 0, 7, 89, 183, 0, 9, 77, 44, 26, 27, 26, 27, 130, 26, 27, 100, 182, 0, 36, 87, 44, 26]
abbrev dktX0_askedKeeps_0 : List UInt8 := dkwX0_askedKeeps_0 ++ dktX0_askedKeeps_1
theorem dksX0_askedKeeps_0 : cX0_askedKeeps.data.toList.drop 0 = dktX0_askedKeeps_0 := by decide +kernel
theorem dksX0_askedKeeps_1 : cX0_askedKeeps.data.toList.drop 23 = dktX0_askedKeeps_1 := dk_seg dksX0_askedKeeps_0 23 rfl rfl
theorem dksX0_askedKeeps_2 : cX0_askedKeeps.data.toList.drop 45 = dktX0_askedKeeps_2 := dk_seg dksX0_askedKeeps_1 22 rfl rfl
theorem dksX0_askedKeeps_3 : cX0_askedKeeps.data.toList.drop 68 = dktX0_askedKeeps_3 := dk_seg dksX0_askedKeeps_2 23 rfl rfl
theorem dksX0_askedKeeps_4 : cX0_askedKeeps.data.toList.drop 92 = dktX0_askedKeeps_4 := dk_seg dksX0_askedKeeps_3 24 rfl rfl
theorem dksX0_askedKeeps_5 : cX0_askedKeeps.data.toList.drop 115 = dktX0_askedKeeps_5 := dk_seg dksX0_askedKeeps_4 23 rfl rfl
theorem dksX0_askedKeeps_6 : cX0_askedKeeps.data.toList.drop 139 = dktX0_askedKeeps_6 := dk_seg dksX0_askedKeeps_5 24 rfl rfl
theorem dksX0_askedKeeps_7 : cX0_askedKeeps.data.toList.drop 161 = dktX0_askedKeeps_7 := dk_seg dksX0_askedKeeps_6 22 rfl rfl
theorem dX0_askedKeeps_0 : decode cX0_askedKeeps 0 = .ok (.new 7, 3) := dk_187 0 7 (dk_at dksX0_askedKeeps_0 0 rfl rfl)
theorem dX0_askedKeeps_3 : decode cX0_askedKeeps 3 = .ok (.dup, 1) := dk_89 (dk_at dksX0_askedKeeps_0 3 rfl rfl)
theorem dX0_askedKeeps_4 : decode cX0_askedKeeps 4 = .ok (.invokespecial 9, 3) := dk_183 0 9 (dk_at dksX0_askedKeeps_0 4 rfl rfl)
theorem dX0_askedKeeps_7 : decode cX0_askedKeeps 7 = .ok (.astore_n 2, 1) := dk_77 (dk_at dksX0_askedKeeps_0 7 rfl rfl)
theorem dX0_askedKeeps_8 : decode cX0_askedKeeps 8 = .ok (.aload_n 2, 1) := dk_44 (dk_at dksX0_askedKeeps_0 8 rfl rfl)
theorem dX0_askedKeeps_9 : decode cX0_askedKeeps 9 = .ok (.iload_n 0, 1) := dk_26 (dk_at dksX0_askedKeeps_0 9 rfl rfl)
theorem dX0_askedKeeps_10 : decode cX0_askedKeeps 10 = .ok (.iload_n 1, 1) := dk_27 (dk_at dksX0_askedKeeps_0 10 rfl rfl)
theorem dX0_askedKeeps_11 : decode cX0_askedKeeps 11 = .ok (.iload_n 0, 1) := dk_26 (dk_at dksX0_askedKeeps_0 11 rfl rfl)
theorem dX0_askedKeeps_12 : decode cX0_askedKeeps 12 = .ok (.iload_n 1, 1) := dk_27 (dk_at dksX0_askedKeeps_0 12 rfl rfl)
theorem dX0_askedKeeps_13 : decode cX0_askedKeeps 13 = .ok (.ixor, 1) := dk_130 (dk_at dksX0_askedKeeps_0 13 rfl rfl)
theorem dX0_askedKeeps_14 : decode cX0_askedKeeps 14 = .ok (.iload_n 0, 1) := dk_26 (dk_at dksX0_askedKeeps_0 14 rfl rfl)
theorem dX0_askedKeeps_15 : decode cX0_askedKeeps 15 = .ok (.iload_n 1, 1) := dk_27 (dk_at dksX0_askedKeeps_0 15 rfl rfl)
theorem dX0_askedKeeps_16 : decode cX0_askedKeeps 16 = .ok (.isub, 1) := dk_100 (dk_at dksX0_askedKeeps_0 16 rfl rfl)
theorem dX0_askedKeeps_17 : decode cX0_askedKeeps 17 = .ok (.invokevirtual 36, 3) := dk_182 0 36 (dk_at dksX0_askedKeeps_0 17 rfl rfl)
theorem dX0_askedKeeps_20 : decode cX0_askedKeeps 20 = .ok (.pop, 1) := dk_87 (dk_at dksX0_askedKeeps_0 20 rfl rfl)
theorem dX0_askedKeeps_21 : decode cX0_askedKeeps 21 = .ok (.aload_n 2, 1) := dk_44 (dk_at dksX0_askedKeeps_0 21 rfl rfl)
theorem dX0_askedKeeps_22 : decode cX0_askedKeeps 22 = .ok (.iload_n 0, 1) := dk_26 (dk_at dksX0_askedKeeps_0 22 rfl rfl)
theorem dX0_askedKeeps_23 : decode cX0_askedKeeps 23 = .ok (.bipush 40, 2) := dk_16 40 (dk_at dksX0_askedKeeps_1 0 rfl rfl)
theorem dX0_askedKeeps_25 : decode cX0_askedKeeps 25 = .ok (.invokevirtual 10, 3) := dk_182 0 10 (dk_at dksX0_askedKeeps_1 2 rfl rfl)
theorem dX0_askedKeeps_28 : decode cX0_askedKeeps 28 = .ok (.pop, 1) := dk_87 (dk_at dksX0_askedKeeps_1 5 rfl rfl)
theorem dX0_askedKeeps_29 : decode cX0_askedKeeps 29 = .ok (.aload_n 2, 1) := dk_44 (dk_at dksX0_askedKeeps_1 6 rfl rfl)
theorem dX0_askedKeeps_30 : decode cX0_askedKeeps 30 = .ok (.invokevirtual 14, 3) := dk_182 0 14 (dk_at dksX0_askedKeeps_1 7 rfl rfl)
theorem dX0_askedKeeps_33 : decode cX0_askedKeeps 33 = .ok (.ifCond .ne 5, 3) := dk_154 0 5 (dk_at dksX0_askedKeeps_1 10 rfl rfl)
theorem dX0_askedKeeps_36 : decode cX0_askedKeeps 36 = .ok (.iconst 0, 1) := dk_3 (dk_at dksX0_askedKeeps_1 13 rfl rfl)
theorem dX0_askedKeeps_37 : decode cX0_askedKeeps 37 = .ok (.ireturn, 1) := dk_172 (dk_at dksX0_askedKeeps_1 14 rfl rfl)
theorem dX0_askedKeeps_38 : decode cX0_askedKeeps 38 = .ok (.aload_n 2, 1) := dk_44 (dk_at dksX0_askedKeeps_1 15 rfl rfl)
theorem dX0_askedKeeps_39 : decode cX0_askedKeeps 39 = .ok (.iconst 3, 1) := dk_6 (dk_at dksX0_askedKeeps_1 16 rfl rfl)
theorem dX0_askedKeeps_40 : decode cX0_askedKeeps 40 = .ok (.invokevirtual 22, 3) := dk_182 0 22 (dk_at dksX0_askedKeeps_1 17 rfl rfl)
theorem dX0_askedKeeps_43 : decode cX0_askedKeeps 43 = .ok (.aload_n 2, 1) := dk_44 (dk_at dksX0_askedKeeps_1 20 rfl rfl)
theorem dX0_askedKeeps_44 : decode cX0_askedKeeps 44 = .ok (.iload_n 1, 1) := dk_27 (dk_at dksX0_askedKeeps_1 21 rfl rfl)
theorem dX0_askedKeeps_45 : decode cX0_askedKeeps 45 = .ok (.sipush 255, 3) := dk_17 0 255 (dk_at dksX0_askedKeeps_2 0 rfl rfl)
theorem dX0_askedKeeps_48 : decode cX0_askedKeeps 48 = .ok (.ixor, 1) := dk_130 (dk_at dksX0_askedKeeps_2 3 rfl rfl)
theorem dX0_askedKeeps_49 : decode cX0_askedKeeps 49 = .ok (.sipush 1024, 3) := dk_17 4 0 (dk_at dksX0_askedKeeps_2 4 rfl rfl)
theorem dX0_askedKeeps_52 : decode cX0_askedKeeps 52 = .ok (.invokevirtual 10, 3) := dk_182 0 10 (dk_at dksX0_askedKeeps_2 7 rfl rfl)
theorem dX0_askedKeeps_55 : decode cX0_askedKeeps 55 = .ok (.pop, 1) := dk_87 (dk_at dksX0_askedKeeps_2 10 rfl rfl)
theorem dX0_askedKeeps_56 : decode cX0_askedKeeps 56 = .ok (.aload_n 2, 1) := dk_44 (dk_at dksX0_askedKeeps_2 11 rfl rfl)
theorem dX0_askedKeeps_57 : decode cX0_askedKeeps 57 = .ok (.invokevirtual 18, 3) := dk_182 0 18 (dk_at dksX0_askedKeeps_2 12 rfl rfl)
theorem dX0_askedKeeps_60 : decode cX0_askedKeeps 60 = .ok (.bipush 56, 2) := dk_16 56 (dk_at dksX0_askedKeeps_2 15 rfl rfl)
theorem dX0_askedKeeps_62 : decode cX0_askedKeeps 62 = .ok (.if_icmp .eq 5, 3) := dk_159 0 5 (dk_at dksX0_askedKeeps_2 17 rfl rfl)
theorem dX0_askedKeeps_65 : decode cX0_askedKeeps 65 = .ok (.iconst 0, 1) := dk_3 (dk_at dksX0_askedKeeps_2 20 rfl rfl)
theorem dX0_askedKeeps_66 : decode cX0_askedKeeps 66 = .ok (.ireturn, 1) := dk_172 (dk_at dksX0_askedKeeps_2 21 rfl rfl)
theorem dX0_askedKeeps_67 : decode cX0_askedKeeps 67 = .ok (.iconst 4, 1) := dk_7 (dk_at dksX0_askedKeeps_2 22 rfl rfl)
theorem dX0_askedKeeps_68 : decode cX0_askedKeeps 68 = .ok (.newarray .int, 2) := dk_188_10 (dk_at dksX0_askedKeeps_3 0 rfl rfl)
theorem dX0_askedKeeps_70 : decode cX0_askedKeeps 70 = .ok (.dup, 1) := dk_89 (dk_at dksX0_askedKeeps_3 2 rfl rfl)
theorem dX0_askedKeeps_71 : decode cX0_askedKeeps 71 = .ok (.iconst 0, 1) := dk_3 (dk_at dksX0_askedKeeps_3 3 rfl rfl)
theorem dX0_askedKeeps_72 : decode cX0_askedKeeps 72 = .ok (.iload_n 0, 1) := dk_26 (dk_at dksX0_askedKeeps_3 4 rfl rfl)
theorem dX0_askedKeeps_73 : decode cX0_askedKeeps 73 = .ok (.iastore, 1) := dk_79 (dk_at dksX0_askedKeeps_3 5 rfl rfl)
theorem dX0_askedKeeps_74 : decode cX0_askedKeeps 74 = .ok (.dup, 1) := dk_89 (dk_at dksX0_askedKeeps_3 6 rfl rfl)
theorem dX0_askedKeeps_75 : decode cX0_askedKeeps 75 = .ok (.iconst 1, 1) := dk_4 (dk_at dksX0_askedKeeps_3 7 rfl rfl)
theorem dX0_askedKeeps_76 : decode cX0_askedKeeps 76 = .ok (.iload_n 1, 1) := dk_27 (dk_at dksX0_askedKeeps_3 8 rfl rfl)
theorem dX0_askedKeeps_77 : decode cX0_askedKeeps 77 = .ok (.iastore, 1) := dk_79 (dk_at dksX0_askedKeeps_3 9 rfl rfl)
theorem dX0_askedKeeps_78 : decode cX0_askedKeeps 78 = .ok (.dup, 1) := dk_89 (dk_at dksX0_askedKeeps_3 10 rfl rfl)
theorem dX0_askedKeeps_79 : decode cX0_askedKeeps 79 = .ok (.iconst 2, 1) := dk_5 (dk_at dksX0_askedKeeps_3 11 rfl rfl)
theorem dX0_askedKeeps_80 : decode cX0_askedKeeps 80 = .ok (.iload_n 0, 1) := dk_26 (dk_at dksX0_askedKeeps_3 12 rfl rfl)
theorem dX0_askedKeeps_81 : decode cX0_askedKeeps 81 = .ok (.iload_n 1, 1) := dk_27 (dk_at dksX0_askedKeeps_3 13 rfl rfl)
theorem dX0_askedKeeps_82 : decode cX0_askedKeeps 82 = .ok (.ixor, 1) := dk_130 (dk_at dksX0_askedKeeps_3 14 rfl rfl)
theorem dX0_askedKeeps_83 : decode cX0_askedKeeps 83 = .ok (.iastore, 1) := dk_79 (dk_at dksX0_askedKeeps_3 15 rfl rfl)
theorem dX0_askedKeeps_84 : decode cX0_askedKeeps 84 = .ok (.dup, 1) := dk_89 (dk_at dksX0_askedKeeps_3 16 rfl rfl)
theorem dX0_askedKeeps_85 : decode cX0_askedKeeps 85 = .ok (.iconst 3, 1) := dk_6 (dk_at dksX0_askedKeeps_3 17 rfl rfl)
theorem dX0_askedKeeps_86 : decode cX0_askedKeeps 86 = .ok (.iload_n 0, 1) := dk_26 (dk_at dksX0_askedKeeps_3 18 rfl rfl)
theorem dX0_askedKeeps_87 : decode cX0_askedKeeps 87 = .ok (.iload_n 1, 1) := dk_27 (dk_at dksX0_askedKeeps_3 19 rfl rfl)
theorem dX0_askedKeeps_88 : decode cX0_askedKeeps 88 = .ok (.isub, 1) := dk_100 (dk_at dksX0_askedKeeps_3 20 rfl rfl)
theorem dX0_askedKeeps_89 : decode cX0_askedKeeps 89 = .ok (.iastore, 1) := dk_79 (dk_at dksX0_askedKeeps_3 21 rfl rfl)
theorem dX0_askedKeeps_90 : decode cX0_askedKeeps 90 = .ok (.astore_n 3, 1) := dk_78 (dk_at dksX0_askedKeeps_3 22 rfl rfl)
theorem dX0_askedKeeps_91 : decode cX0_askedKeeps 91 = .ok (.iconst 0, 1) := dk_3 (dk_at dksX0_askedKeeps_3 23 rfl rfl)
theorem dX0_askedKeeps_92 : decode cX0_askedKeeps 92 = .ok (.istore 4, 2) := dk_54 4 (dk_at dksX0_askedKeeps_4 0 rfl rfl)
theorem dX0_askedKeeps_94 : decode cX0_askedKeeps 94 = .ok (.iload 4, 2) := dk_21 4 (dk_at dksX0_askedKeeps_4 2 rfl rfl)
theorem dX0_askedKeeps_96 : decode cX0_askedKeeps 96 = .ok (.bipush 56, 2) := dk_16 56 (dk_at dksX0_askedKeeps_4 4 rfl rfl)
theorem dX0_askedKeeps_98 : decode cX0_askedKeeps 98 = .ok (.if_icmp .ge 56, 3) := dk_162 0 56 (dk_at dksX0_askedKeeps_4 6 rfl rfl)
theorem dX0_askedKeeps_101 : decode cX0_askedKeeps 101 = .ok (.aload_n 2, 1) := dk_44 (dk_at dksX0_askedKeeps_4 9 rfl rfl)
theorem dX0_askedKeeps_102 : decode cX0_askedKeeps 102 = .ok (.iload 4, 2) := dk_21 4 (dk_at dksX0_askedKeeps_4 10 rfl rfl)
theorem dX0_askedKeeps_104 : decode cX0_askedKeeps 104 = .ok (.invokevirtual 51, 3) := dk_182 0 51 (dk_at dksX0_askedKeeps_4 12 rfl rfl)
theorem dX0_askedKeeps_107 : decode cX0_askedKeeps 107 = .ok (.iload 4, 2) := dk_21 4 (dk_at dksX0_askedKeeps_4 15 rfl rfl)
theorem dX0_askedKeeps_109 : decode cX0_askedKeeps 109 = .ok (.bipush 16, 2) := dk_16 16 (dk_at dksX0_askedKeeps_4 17 rfl rfl)
theorem dX0_askedKeeps_111 : decode cX0_askedKeeps 111 = .ok (.if_icmp .ge 27, 3) := dk_162 0 27 (dk_at dksX0_askedKeeps_4 19 rfl rfl)
theorem dX0_askedKeeps_114 : decode cX0_askedKeeps 114 = .ok (.aload_n 3, 1) := dk_45 (dk_at dksX0_askedKeeps_4 22 rfl rfl)
theorem dX0_askedKeeps_115 : decode cX0_askedKeeps 115 = .ok (.iload 4, 2) := dk_21 4 (dk_at dksX0_askedKeeps_5 0 rfl rfl)
theorem dX0_askedKeeps_117 : decode cX0_askedKeeps 117 = .ok (.iconst 4, 1) := dk_7 (dk_at dksX0_askedKeeps_5 2 rfl rfl)
theorem dX0_askedKeeps_118 : decode cX0_askedKeeps 118 = .ok (.idiv, 1) := dk_108 (dk_at dksX0_askedKeeps_5 3 rfl rfl)
theorem dX0_askedKeeps_119 : decode cX0_askedKeeps 119 = .ok (.iaload, 1) := dk_46 (dk_at dksX0_askedKeeps_5 4 rfl rfl)
theorem dX0_askedKeeps_120 : decode cX0_askedKeeps 120 = .ok (.bipush 24, 2) := dk_16 24 (dk_at dksX0_askedKeeps_5 5 rfl rfl)
theorem dX0_askedKeeps_122 : decode cX0_askedKeeps 122 = .ok (.bipush 8, 2) := dk_16 8 (dk_at dksX0_askedKeeps_5 7 rfl rfl)
theorem dX0_askedKeeps_124 : decode cX0_askedKeeps 124 = .ok (.iload 4, 2) := dk_21 4 (dk_at dksX0_askedKeeps_5 9 rfl rfl)
theorem dX0_askedKeeps_126 : decode cX0_askedKeeps 126 = .ok (.iconst 4, 1) := dk_7 (dk_at dksX0_askedKeeps_5 11 rfl rfl)
theorem dX0_askedKeeps_127 : decode cX0_askedKeeps 127 = .ok (.irem, 1) := dk_112 (dk_at dksX0_askedKeeps_5 12 rfl rfl)
theorem dX0_askedKeeps_128 : decode cX0_askedKeeps 128 = .ok (.imul, 1) := dk_104 (dk_at dksX0_askedKeeps_5 13 rfl rfl)
theorem dX0_askedKeeps_129 : decode cX0_askedKeeps 129 = .ok (.isub, 1) := dk_100 (dk_at dksX0_askedKeeps_5 14 rfl rfl)
theorem dX0_askedKeeps_130 : decode cX0_askedKeeps 130 = .ok (.ishr, 1) := dk_122 (dk_at dksX0_askedKeeps_5 15 rfl rfl)
theorem dX0_askedKeeps_131 : decode cX0_askedKeeps 131 = .ok (.sipush 255, 3) := dk_17 0 255 (dk_at dksX0_askedKeeps_5 16 rfl rfl)
theorem dX0_askedKeeps_134 : decode cX0_askedKeeps 134 = .ok (.iand, 1) := dk_126 (dk_at dksX0_askedKeeps_5 19 rfl rfl)
theorem dX0_askedKeeps_135 : decode cX0_askedKeeps 135 = .ok (.goto 8, 3) := dk_167 0 8 (dk_at dksX0_askedKeeps_5 20 rfl rfl)
theorem dX0_askedKeeps_138 : decode cX0_askedKeeps 138 = .ok (.iload_n 0, 1) := dk_26 (dk_at dksX0_askedKeeps_5 23 rfl rfl)
theorem dX0_askedKeeps_139 : decode cX0_askedKeeps 139 = .ok (.sipush 255, 3) := dk_17 0 255 (dk_at dksX0_askedKeeps_6 0 rfl rfl)
theorem dX0_askedKeeps_142 : decode cX0_askedKeeps 142 = .ok (.iand, 1) := dk_126 (dk_at dksX0_askedKeeps_6 3 rfl rfl)
theorem dX0_askedKeeps_143 : decode cX0_askedKeeps 143 = .ok (.if_icmp .eq 5, 3) := dk_159 0 5 (dk_at dksX0_askedKeeps_6 4 rfl rfl)
theorem dX0_askedKeeps_146 : decode cX0_askedKeeps 146 = .ok (.iconst 0, 1) := dk_3 (dk_at dksX0_askedKeeps_6 7 rfl rfl)
theorem dX0_askedKeeps_147 : decode cX0_askedKeeps 147 = .ok (.ireturn, 1) := dk_172 (dk_at dksX0_askedKeeps_6 8 rfl rfl)
theorem dX0_askedKeeps_148 : decode cX0_askedKeeps 148 = .ok (.iinc 4 1, 3) := dk_132 4 1 (dk_at dksX0_askedKeeps_6 9 rfl rfl)
theorem dX0_askedKeeps_151 : decode cX0_askedKeeps 151 = .ok (.goto (-57), 3) := dk_167 255 199 (dk_at dksX0_askedKeeps_6 12 rfl rfl)
theorem dX0_askedKeeps_154 : decode cX0_askedKeeps 154 = .ok (.aload_n 2, 1) := dk_44 (dk_at dksX0_askedKeeps_6 15 rfl rfl)
theorem dX0_askedKeeps_155 : decode cX0_askedKeeps 155 = .ok (.invokevirtual 48, 3) := dk_182 0 48 (dk_at dksX0_askedKeeps_6 16 rfl rfl)
theorem dX0_askedKeeps_158 : decode cX0_askedKeeps 158 = .ok (.sipush 1027, 3) := dk_17 4 3 (dk_at dksX0_askedKeeps_6 19 rfl rfl)
theorem dX0_askedKeeps_161 : decode cX0_askedKeeps 161 = .ok (.if_icmp .ne 7, 3) := dk_160 0 7 (dk_at dksX0_askedKeeps_7 0 rfl rfl)
theorem dX0_askedKeeps_164 : decode cX0_askedKeeps 164 = .ok (.iconst 1, 1) := dk_4 (dk_at dksX0_askedKeeps_7 3 rfl rfl)
theorem dX0_askedKeeps_165 : decode cX0_askedKeeps 165 = .ok (.goto 4, 3) := dk_167 0 4 (dk_at dksX0_askedKeeps_7 4 rfl rfl)
theorem dX0_askedKeeps_168 : decode cX0_askedKeeps 168 = .ok (.iconst 0, 1) := dk_3 (dk_at dksX0_askedKeeps_7 7 rfl rfl)
theorem dX0_askedKeeps_169 : decode cX0_askedKeeps 169 = .ok (.ireturn, 1) := dk_172 (dk_at dksX0_askedKeeps_7 8 rfl rfl)
abbrev cX0_askedCounts : ByteArray := method_8_code
def yX0_askedCounts : MethodName := ⟨RX0, "askedCounts", "()Z"⟩
def dkwX0_askedCounts_9 : List UInt8 := [160, 0, 7, 4, 167, 0, 4, 3, 172]
abbrev dktX0_askedCounts_9 : List UInt8 := dkwX0_askedCounts_9 ++ []
def dkwX0_askedCounts_8 : List UInt8 := [182, 0, 44, 154, 0, 28, 42, 4, 5, 6, 7, 182, 0, 36, 154, 0, 17, 42, 182, 0, 48, 17, 64, 0]
abbrev dktX0_askedCounts_8 : List UInt8 := dkwX0_askedCounts_8 ++ dktX0_askedCounts_9
def dkwX0_askedCounts_7 : List UInt8 := [182, 0, 48, 17, 64, 0, 159, 0, 5, 3, 172, 42, 4, 4, 182, 0, 10, 154, 0, 37, 42, 3, 4]
abbrev dktX0_askedCounts_7 : List UInt8 := dkwX0_askedCounts_7 ++ dktX0_askedCounts_8
def dkwX0_askedCounts_6 : List UInt8 := [182, 0, 48, 100, 61, 28, 158, 0, 15, 42, 3, 17, 4, 0, 182, 0, 44, 28, 160, 0, 13, 42]
abbrev dktX0_askedCounts_6 : List UInt8 := dkwX0_askedCounts_6 ++ dktX0_askedCounts_7
def dkwX0_askedCounts_5 : List UInt8 := [162, 0, 20, 42, 16, 9, 17, 4, 0, 182, 0, 10, 17, 4, 0, 159, 255, 234, 3, 172, 17, 64, 0, 42]
abbrev dktX0_askedCounts_5 : List UInt8 := dkwX0_askedCounts_5 ++ dktX0_askedCounts_6
def dkwX0_askedCounts_4 : List UInt8 := [160, 0, 13, 42, 182, 0, 48, 27, 4, 96, 159, 0, 5, 3, 172, 42, 182, 0, 48, 17, 60, 0]
abbrev dktX0_askedCounts_4 : List UInt8 := dkwX0_askedCounts_4 ++ dktX0_askedCounts_5
def dkwX0_askedCounts_3 : List UInt8 := [17, 3, 254, 159, 0, 5, 3, 172, 42, 182, 0, 48, 60, 42, 2, 17, 4, 2, 182, 0, 44, 4]
abbrev dktX0_askedCounts_3 : List UInt8 := dkwX0_askedCounts_3 ++ dktX0_askedCounts_4
def dkwX0_askedCounts_2 : List UInt8 := [182, 0, 10, 154, 0, 27, 42, 16, 7, 18, 55, 182, 0, 10, 154, 0, 16, 42, 16, 7, 2, 182, 0, 10]
abbrev dktX0_askedCounts_2 : List UInt8 := dkwX0_askedCounts_2 ++ dktX0_askedCounts_3
def dkwX0_askedCounts_1 : List UInt8 := [154, 0, 54, 42, 16, 7, 17, 4, 0, 182, 0, 10, 17, 4, 0, 160, 0, 39, 42, 16, 7, 17, 4, 1]
abbrev dktX0_askedCounts_1 : List UInt8 := dkwX0_askedCounts_1 ++ dktX0_askedCounts_2
def dkwX0_askedCounts_0 : List UInt8 := [187, 0, 7, 89, 183, 0, 9, 75, 42, 8, 8, 182, 0, 44, 2, 160, 0, 61, 42, 182, 0, 48]
abbrev dktX0_askedCounts_0 : List UInt8 := dkwX0_askedCounts_0 ++ dktX0_askedCounts_1
theorem dksX0_askedCounts_0 : cX0_askedCounts.data.toList.drop 0 = dktX0_askedCounts_0 := by decide +kernel
theorem dksX0_askedCounts_1 : cX0_askedCounts.data.toList.drop 22 = dktX0_askedCounts_1 := dk_seg dksX0_askedCounts_0 22 rfl rfl
theorem dksX0_askedCounts_2 : cX0_askedCounts.data.toList.drop 46 = dktX0_askedCounts_2 := dk_seg dksX0_askedCounts_1 24 rfl rfl
theorem dksX0_askedCounts_3 : cX0_askedCounts.data.toList.drop 70 = dktX0_askedCounts_3 := dk_seg dksX0_askedCounts_2 24 rfl rfl
theorem dksX0_askedCounts_4 : cX0_askedCounts.data.toList.drop 92 = dktX0_askedCounts_4 := dk_seg dksX0_askedCounts_3 22 rfl rfl
theorem dksX0_askedCounts_5 : cX0_askedCounts.data.toList.drop 114 = dktX0_askedCounts_5 := dk_seg dksX0_askedCounts_4 22 rfl rfl
theorem dksX0_askedCounts_6 : cX0_askedCounts.data.toList.drop 138 = dktX0_askedCounts_6 := dk_seg dksX0_askedCounts_5 24 rfl rfl
theorem dksX0_askedCounts_7 : cX0_askedCounts.data.toList.drop 160 = dktX0_askedCounts_7 := dk_seg dksX0_askedCounts_6 22 rfl rfl
theorem dksX0_askedCounts_8 : cX0_askedCounts.data.toList.drop 183 = dktX0_askedCounts_8 := dk_seg dksX0_askedCounts_7 23 rfl rfl
theorem dksX0_askedCounts_9 : cX0_askedCounts.data.toList.drop 207 = dktX0_askedCounts_9 := dk_seg dksX0_askedCounts_8 24 rfl rfl
theorem dX0_askedCounts_0 : decode cX0_askedCounts 0 = .ok (.new 7, 3) := dk_187 0 7 (dk_at dksX0_askedCounts_0 0 rfl rfl)
theorem dX0_askedCounts_3 : decode cX0_askedCounts 3 = .ok (.dup, 1) := dk_89 (dk_at dksX0_askedCounts_0 3 rfl rfl)
theorem dX0_askedCounts_4 : decode cX0_askedCounts 4 = .ok (.invokespecial 9, 3) := dk_183 0 9 (dk_at dksX0_askedCounts_0 4 rfl rfl)
theorem dX0_askedCounts_7 : decode cX0_askedCounts 7 = .ok (.astore_n 0, 1) := dk_75 (dk_at dksX0_askedCounts_0 7 rfl rfl)
theorem dX0_askedCounts_8 : decode cX0_askedCounts 8 = .ok (.aload_n 0, 1) := dk_42 (dk_at dksX0_askedCounts_0 8 rfl rfl)
theorem dX0_askedCounts_9 : decode cX0_askedCounts 9 = .ok (.iconst 5, 1) := dk_8 (dk_at dksX0_askedCounts_0 9 rfl rfl)
theorem dX0_askedCounts_10 : decode cX0_askedCounts 10 = .ok (.iconst 5, 1) := dk_8 (dk_at dksX0_askedCounts_0 10 rfl rfl)
theorem dX0_askedCounts_11 : decode cX0_askedCounts 11 = .ok (.invokevirtual 44, 3) := dk_182 0 44 (dk_at dksX0_askedCounts_0 11 rfl rfl)
theorem dX0_askedCounts_14 : decode cX0_askedCounts 14 = .ok (.iconst (-1), 1) := dk_2 (dk_at dksX0_askedCounts_0 14 rfl rfl)
theorem dX0_askedCounts_15 : decode cX0_askedCounts 15 = .ok (.if_icmp .ne 61, 3) := dk_160 0 61 (dk_at dksX0_askedCounts_0 15 rfl rfl)
theorem dX0_askedCounts_18 : decode cX0_askedCounts 18 = .ok (.aload_n 0, 1) := dk_42 (dk_at dksX0_askedCounts_0 18 rfl rfl)
theorem dX0_askedCounts_19 : decode cX0_askedCounts 19 = .ok (.invokevirtual 48, 3) := dk_182 0 48 (dk_at dksX0_askedCounts_0 19 rfl rfl)
theorem dX0_askedCounts_22 : decode cX0_askedCounts 22 = .ok (.ifCond .ne 54, 3) := dk_154 0 54 (dk_at dksX0_askedCounts_1 0 rfl rfl)
theorem dX0_askedCounts_25 : decode cX0_askedCounts 25 = .ok (.aload_n 0, 1) := dk_42 (dk_at dksX0_askedCounts_1 3 rfl rfl)
theorem dX0_askedCounts_26 : decode cX0_askedCounts 26 = .ok (.bipush 7, 2) := dk_16 7 (dk_at dksX0_askedCounts_1 4 rfl rfl)
theorem dX0_askedCounts_28 : decode cX0_askedCounts 28 = .ok (.sipush 1024, 3) := dk_17 4 0 (dk_at dksX0_askedCounts_1 6 rfl rfl)
theorem dX0_askedCounts_31 : decode cX0_askedCounts 31 = .ok (.invokevirtual 10, 3) := dk_182 0 10 (dk_at dksX0_askedCounts_1 9 rfl rfl)
theorem dX0_askedCounts_34 : decode cX0_askedCounts 34 = .ok (.sipush 1024, 3) := dk_17 4 0 (dk_at dksX0_askedCounts_1 12 rfl rfl)
theorem dX0_askedCounts_37 : decode cX0_askedCounts 37 = .ok (.if_icmp .ne 39, 3) := dk_160 0 39 (dk_at dksX0_askedCounts_1 15 rfl rfl)
theorem dX0_askedCounts_40 : decode cX0_askedCounts 40 = .ok (.aload_n 0, 1) := dk_42 (dk_at dksX0_askedCounts_1 18 rfl rfl)
theorem dX0_askedCounts_41 : decode cX0_askedCounts 41 = .ok (.bipush 7, 2) := dk_16 7 (dk_at dksX0_askedCounts_1 19 rfl rfl)
theorem dX0_askedCounts_43 : decode cX0_askedCounts 43 = .ok (.sipush 1025, 3) := dk_17 4 1 (dk_at dksX0_askedCounts_1 21 rfl rfl)
theorem dX0_askedCounts_46 : decode cX0_askedCounts 46 = .ok (.invokevirtual 10, 3) := dk_182 0 10 (dk_at dksX0_askedCounts_2 0 rfl rfl)
theorem dX0_askedCounts_49 : decode cX0_askedCounts 49 = .ok (.ifCond .ne 27, 3) := dk_154 0 27 (dk_at dksX0_askedCounts_2 3 rfl rfl)
theorem dX0_askedCounts_52 : decode cX0_askedCounts 52 = .ok (.aload_n 0, 1) := dk_42 (dk_at dksX0_askedCounts_2 6 rfl rfl)
theorem dX0_askedCounts_53 : decode cX0_askedCounts 53 = .ok (.bipush 7, 2) := dk_16 7 (dk_at dksX0_askedCounts_2 7 rfl rfl)
theorem dX0_askedCounts_55 : decode cX0_askedCounts 55 = .ok (.ldc 55, 2) := dk_18 55 (dk_at dksX0_askedCounts_2 9 rfl rfl)
theorem dX0_askedCounts_57 : decode cX0_askedCounts 57 = .ok (.invokevirtual 10, 3) := dk_182 0 10 (dk_at dksX0_askedCounts_2 11 rfl rfl)
theorem dX0_askedCounts_60 : decode cX0_askedCounts 60 = .ok (.ifCond .ne 16, 3) := dk_154 0 16 (dk_at dksX0_askedCounts_2 14 rfl rfl)
theorem dX0_askedCounts_63 : decode cX0_askedCounts 63 = .ok (.aload_n 0, 1) := dk_42 (dk_at dksX0_askedCounts_2 17 rfl rfl)
theorem dX0_askedCounts_64 : decode cX0_askedCounts 64 = .ok (.bipush 7, 2) := dk_16 7 (dk_at dksX0_askedCounts_2 18 rfl rfl)
theorem dX0_askedCounts_66 : decode cX0_askedCounts 66 = .ok (.iconst (-1), 1) := dk_2 (dk_at dksX0_askedCounts_2 20 rfl rfl)
theorem dX0_askedCounts_67 : decode cX0_askedCounts 67 = .ok (.invokevirtual 10, 3) := dk_182 0 10 (dk_at dksX0_askedCounts_2 21 rfl rfl)
theorem dX0_askedCounts_70 : decode cX0_askedCounts 70 = .ok (.sipush 1022, 3) := dk_17 3 254 (dk_at dksX0_askedCounts_3 0 rfl rfl)
theorem dX0_askedCounts_73 : decode cX0_askedCounts 73 = .ok (.if_icmp .eq 5, 3) := dk_159 0 5 (dk_at dksX0_askedCounts_3 3 rfl rfl)
theorem dX0_askedCounts_76 : decode cX0_askedCounts 76 = .ok (.iconst 0, 1) := dk_3 (dk_at dksX0_askedCounts_3 6 rfl rfl)
theorem dX0_askedCounts_77 : decode cX0_askedCounts 77 = .ok (.ireturn, 1) := dk_172 (dk_at dksX0_askedCounts_3 7 rfl rfl)
theorem dX0_askedCounts_78 : decode cX0_askedCounts 78 = .ok (.aload_n 0, 1) := dk_42 (dk_at dksX0_askedCounts_3 8 rfl rfl)
theorem dX0_askedCounts_79 : decode cX0_askedCounts 79 = .ok (.invokevirtual 48, 3) := dk_182 0 48 (dk_at dksX0_askedCounts_3 9 rfl rfl)
theorem dX0_askedCounts_82 : decode cX0_askedCounts 82 = .ok (.istore_n 1, 1) := dk_60 (dk_at dksX0_askedCounts_3 12 rfl rfl)
theorem dX0_askedCounts_83 : decode cX0_askedCounts 83 = .ok (.aload_n 0, 1) := dk_42 (dk_at dksX0_askedCounts_3 13 rfl rfl)
theorem dX0_askedCounts_84 : decode cX0_askedCounts 84 = .ok (.iconst (-1), 1) := dk_2 (dk_at dksX0_askedCounts_3 14 rfl rfl)
theorem dX0_askedCounts_85 : decode cX0_askedCounts 85 = .ok (.sipush 1026, 3) := dk_17 4 2 (dk_at dksX0_askedCounts_3 15 rfl rfl)
theorem dX0_askedCounts_88 : decode cX0_askedCounts 88 = .ok (.invokevirtual 44, 3) := dk_182 0 44 (dk_at dksX0_askedCounts_3 18 rfl rfl)
theorem dX0_askedCounts_91 : decode cX0_askedCounts 91 = .ok (.iconst 1, 1) := dk_4 (dk_at dksX0_askedCounts_3 21 rfl rfl)
theorem dX0_askedCounts_92 : decode cX0_askedCounts 92 = .ok (.if_icmp .ne 13, 3) := dk_160 0 13 (dk_at dksX0_askedCounts_4 0 rfl rfl)
theorem dX0_askedCounts_95 : decode cX0_askedCounts 95 = .ok (.aload_n 0, 1) := dk_42 (dk_at dksX0_askedCounts_4 3 rfl rfl)
theorem dX0_askedCounts_96 : decode cX0_askedCounts 96 = .ok (.invokevirtual 48, 3) := dk_182 0 48 (dk_at dksX0_askedCounts_4 4 rfl rfl)
theorem dX0_askedCounts_99 : decode cX0_askedCounts 99 = .ok (.iload_n 1, 1) := dk_27 (dk_at dksX0_askedCounts_4 7 rfl rfl)
theorem dX0_askedCounts_100 : decode cX0_askedCounts 100 = .ok (.iconst 1, 1) := dk_4 (dk_at dksX0_askedCounts_4 8 rfl rfl)
theorem dX0_askedCounts_101 : decode cX0_askedCounts 101 = .ok (.iadd, 1) := dk_96 (dk_at dksX0_askedCounts_4 9 rfl rfl)
theorem dX0_askedCounts_102 : decode cX0_askedCounts 102 = .ok (.if_icmp .eq 5, 3) := dk_159 0 5 (dk_at dksX0_askedCounts_4 10 rfl rfl)
theorem dX0_askedCounts_105 : decode cX0_askedCounts 105 = .ok (.iconst 0, 1) := dk_3 (dk_at dksX0_askedCounts_4 13 rfl rfl)
theorem dX0_askedCounts_106 : decode cX0_askedCounts 106 = .ok (.ireturn, 1) := dk_172 (dk_at dksX0_askedCounts_4 14 rfl rfl)
theorem dX0_askedCounts_107 : decode cX0_askedCounts 107 = .ok (.aload_n 0, 1) := dk_42 (dk_at dksX0_askedCounts_4 15 rfl rfl)
theorem dX0_askedCounts_108 : decode cX0_askedCounts 108 = .ok (.invokevirtual 48, 3) := dk_182 0 48 (dk_at dksX0_askedCounts_4 16 rfl rfl)
theorem dX0_askedCounts_111 : decode cX0_askedCounts 111 = .ok (.sipush 15360, 3) := dk_17 60 0 (dk_at dksX0_askedCounts_4 19 rfl rfl)
theorem dX0_askedCounts_114 : decode cX0_askedCounts 114 = .ok (.if_icmp .ge 20, 3) := dk_162 0 20 (dk_at dksX0_askedCounts_5 0 rfl rfl)
theorem dX0_askedCounts_117 : decode cX0_askedCounts 117 = .ok (.aload_n 0, 1) := dk_42 (dk_at dksX0_askedCounts_5 3 rfl rfl)
theorem dX0_askedCounts_118 : decode cX0_askedCounts 118 = .ok (.bipush 9, 2) := dk_16 9 (dk_at dksX0_askedCounts_5 4 rfl rfl)
theorem dX0_askedCounts_120 : decode cX0_askedCounts 120 = .ok (.sipush 1024, 3) := dk_17 4 0 (dk_at dksX0_askedCounts_5 6 rfl rfl)
theorem dX0_askedCounts_123 : decode cX0_askedCounts 123 = .ok (.invokevirtual 10, 3) := dk_182 0 10 (dk_at dksX0_askedCounts_5 9 rfl rfl)
theorem dX0_askedCounts_126 : decode cX0_askedCounts 126 = .ok (.sipush 1024, 3) := dk_17 4 0 (dk_at dksX0_askedCounts_5 12 rfl rfl)
theorem dX0_askedCounts_129 : decode cX0_askedCounts 129 = .ok (.if_icmp .eq (-22), 3) := dk_159 255 234 (dk_at dksX0_askedCounts_5 15 rfl rfl)
theorem dX0_askedCounts_132 : decode cX0_askedCounts 132 = .ok (.iconst 0, 1) := dk_3 (dk_at dksX0_askedCounts_5 18 rfl rfl)
theorem dX0_askedCounts_133 : decode cX0_askedCounts 133 = .ok (.ireturn, 1) := dk_172 (dk_at dksX0_askedCounts_5 19 rfl rfl)
theorem dX0_askedCounts_134 : decode cX0_askedCounts 134 = .ok (.sipush 16384, 3) := dk_17 64 0 (dk_at dksX0_askedCounts_5 20 rfl rfl)
theorem dX0_askedCounts_137 : decode cX0_askedCounts 137 = .ok (.aload_n 0, 1) := dk_42 (dk_at dksX0_askedCounts_5 23 rfl rfl)
theorem dX0_askedCounts_138 : decode cX0_askedCounts 138 = .ok (.invokevirtual 48, 3) := dk_182 0 48 (dk_at dksX0_askedCounts_6 0 rfl rfl)
theorem dX0_askedCounts_141 : decode cX0_askedCounts 141 = .ok (.isub, 1) := dk_100 (dk_at dksX0_askedCounts_6 3 rfl rfl)
theorem dX0_askedCounts_142 : decode cX0_askedCounts 142 = .ok (.istore_n 2, 1) := dk_61 (dk_at dksX0_askedCounts_6 4 rfl rfl)
theorem dX0_askedCounts_143 : decode cX0_askedCounts 143 = .ok (.iload_n 2, 1) := dk_28 (dk_at dksX0_askedCounts_6 5 rfl rfl)
theorem dX0_askedCounts_144 : decode cX0_askedCounts 144 = .ok (.ifCond .le 15, 3) := dk_158 0 15 (dk_at dksX0_askedCounts_6 6 rfl rfl)
theorem dX0_askedCounts_147 : decode cX0_askedCounts 147 = .ok (.aload_n 0, 1) := dk_42 (dk_at dksX0_askedCounts_6 9 rfl rfl)
theorem dX0_askedCounts_148 : decode cX0_askedCounts 148 = .ok (.iconst 0, 1) := dk_3 (dk_at dksX0_askedCounts_6 10 rfl rfl)
theorem dX0_askedCounts_149 : decode cX0_askedCounts 149 = .ok (.sipush 1024, 3) := dk_17 4 0 (dk_at dksX0_askedCounts_6 11 rfl rfl)
theorem dX0_askedCounts_152 : decode cX0_askedCounts 152 = .ok (.invokevirtual 44, 3) := dk_182 0 44 (dk_at dksX0_askedCounts_6 14 rfl rfl)
theorem dX0_askedCounts_155 : decode cX0_askedCounts 155 = .ok (.iload_n 2, 1) := dk_28 (dk_at dksX0_askedCounts_6 17 rfl rfl)
theorem dX0_askedCounts_156 : decode cX0_askedCounts 156 = .ok (.if_icmp .ne 13, 3) := dk_160 0 13 (dk_at dksX0_askedCounts_6 18 rfl rfl)
theorem dX0_askedCounts_159 : decode cX0_askedCounts 159 = .ok (.aload_n 0, 1) := dk_42 (dk_at dksX0_askedCounts_6 21 rfl rfl)
theorem dX0_askedCounts_160 : decode cX0_askedCounts 160 = .ok (.invokevirtual 48, 3) := dk_182 0 48 (dk_at dksX0_askedCounts_7 0 rfl rfl)
theorem dX0_askedCounts_163 : decode cX0_askedCounts 163 = .ok (.sipush 16384, 3) := dk_17 64 0 (dk_at dksX0_askedCounts_7 3 rfl rfl)
theorem dX0_askedCounts_166 : decode cX0_askedCounts 166 = .ok (.if_icmp .eq 5, 3) := dk_159 0 5 (dk_at dksX0_askedCounts_7 6 rfl rfl)
theorem dX0_askedCounts_169 : decode cX0_askedCounts 169 = .ok (.iconst 0, 1) := dk_3 (dk_at dksX0_askedCounts_7 9 rfl rfl)
theorem dX0_askedCounts_170 : decode cX0_askedCounts 170 = .ok (.ireturn, 1) := dk_172 (dk_at dksX0_askedCounts_7 10 rfl rfl)
theorem dX0_askedCounts_171 : decode cX0_askedCounts 171 = .ok (.aload_n 0, 1) := dk_42 (dk_at dksX0_askedCounts_7 11 rfl rfl)
theorem dX0_askedCounts_172 : decode cX0_askedCounts 172 = .ok (.iconst 1, 1) := dk_4 (dk_at dksX0_askedCounts_7 12 rfl rfl)
theorem dX0_askedCounts_173 : decode cX0_askedCounts 173 = .ok (.iconst 1, 1) := dk_4 (dk_at dksX0_askedCounts_7 13 rfl rfl)
theorem dX0_askedCounts_174 : decode cX0_askedCounts 174 = .ok (.invokevirtual 10, 3) := dk_182 0 10 (dk_at dksX0_askedCounts_7 14 rfl rfl)
theorem dX0_askedCounts_177 : decode cX0_askedCounts 177 = .ok (.ifCond .ne 37, 3) := dk_154 0 37 (dk_at dksX0_askedCounts_7 17 rfl rfl)
theorem dX0_askedCounts_180 : decode cX0_askedCounts 180 = .ok (.aload_n 0, 1) := dk_42 (dk_at dksX0_askedCounts_7 20 rfl rfl)
theorem dX0_askedCounts_181 : decode cX0_askedCounts 181 = .ok (.iconst 0, 1) := dk_3 (dk_at dksX0_askedCounts_7 21 rfl rfl)
theorem dX0_askedCounts_182 : decode cX0_askedCounts 182 = .ok (.iconst 1, 1) := dk_4 (dk_at dksX0_askedCounts_7 22 rfl rfl)
theorem dX0_askedCounts_183 : decode cX0_askedCounts 183 = .ok (.invokevirtual 44, 3) := dk_182 0 44 (dk_at dksX0_askedCounts_8 0 rfl rfl)
theorem dX0_askedCounts_186 : decode cX0_askedCounts 186 = .ok (.ifCond .ne 28, 3) := dk_154 0 28 (dk_at dksX0_askedCounts_8 3 rfl rfl)
theorem dX0_askedCounts_189 : decode cX0_askedCounts 189 = .ok (.aload_n 0, 1) := dk_42 (dk_at dksX0_askedCounts_8 6 rfl rfl)
theorem dX0_askedCounts_190 : decode cX0_askedCounts 190 = .ok (.iconst 1, 1) := dk_4 (dk_at dksX0_askedCounts_8 7 rfl rfl)
theorem dX0_askedCounts_191 : decode cX0_askedCounts 191 = .ok (.iconst 2, 1) := dk_5 (dk_at dksX0_askedCounts_8 8 rfl rfl)
theorem dX0_askedCounts_192 : decode cX0_askedCounts 192 = .ok (.iconst 3, 1) := dk_6 (dk_at dksX0_askedCounts_8 9 rfl rfl)
theorem dX0_askedCounts_193 : decode cX0_askedCounts 193 = .ok (.iconst 4, 1) := dk_7 (dk_at dksX0_askedCounts_8 10 rfl rfl)
theorem dX0_askedCounts_194 : decode cX0_askedCounts 194 = .ok (.invokevirtual 36, 3) := dk_182 0 36 (dk_at dksX0_askedCounts_8 11 rfl rfl)
theorem dX0_askedCounts_197 : decode cX0_askedCounts 197 = .ok (.ifCond .ne 17, 3) := dk_154 0 17 (dk_at dksX0_askedCounts_8 14 rfl rfl)
theorem dX0_askedCounts_200 : decode cX0_askedCounts 200 = .ok (.aload_n 0, 1) := dk_42 (dk_at dksX0_askedCounts_8 17 rfl rfl)
theorem dX0_askedCounts_201 : decode cX0_askedCounts 201 = .ok (.invokevirtual 48, 3) := dk_182 0 48 (dk_at dksX0_askedCounts_8 18 rfl rfl)
theorem dX0_askedCounts_204 : decode cX0_askedCounts 204 = .ok (.sipush 16384, 3) := dk_17 64 0 (dk_at dksX0_askedCounts_8 21 rfl rfl)
theorem dX0_askedCounts_207 : decode cX0_askedCounts 207 = .ok (.if_icmp .ne 7, 3) := dk_160 0 7 (dk_at dksX0_askedCounts_9 0 rfl rfl)
theorem dX0_askedCounts_210 : decode cX0_askedCounts 210 = .ok (.iconst 1, 1) := dk_4 (dk_at dksX0_askedCounts_9 3 rfl rfl)
theorem dX0_askedCounts_211 : decode cX0_askedCounts 211 = .ok (.goto 4, 3) := dk_167 0 4 (dk_at dksX0_askedCounts_9 4 rfl rfl)
theorem dX0_askedCounts_214 : decode cX0_askedCounts 214 = .ok (.iconst 0, 1) := dk_3 (dk_at dksX0_askedCounts_9 7 rfl rfl)
theorem dX0_askedCounts_215 : decode cX0_askedCounts 215 = .ok (.ireturn, 1) := dk_172 (dk_at dksX0_askedCounts_9 8 rfl rfl)
abbrev cX0_askedStands : ByteArray := method_9_code
def yX0_askedStands : MethodName := ⟨RX0, "askedStands", "()Z"⟩
def dkwX0_askedStands_8 : List UInt8 := [42, 16, 15, 182, 0, 51, 7, 160, 0, 7, 4, 167, 0, 4, 3, 172]
abbrev dktX0_askedStands_8 : List UInt8 := dkwX0_askedStands_8 ++ []
def dkwX0_askedStands_7 : List UInt8 := [182, 0, 14, 153, 0, 35, 42, 182, 0, 18, 16, 16, 160, 0, 26, 42, 6, 182, 0, 51, 4, 160, 0, 17]
abbrev dktX0_askedStands_7 : List UInt8 := dkwX0_askedStands_7 ++ dktX0_askedStands_8
def dkwX0_askedStands_6 : List UInt8 := [159, 0, 5, 3, 172, 42, 4, 5, 6, 7, 182, 0, 36, 87, 42, 182, 0, 18, 154, 0, 42, 42]
abbrev dktX0_askedStands_6 : List UInt8 := dkwX0_askedStands_6 ++ dktX0_askedStands_7
def dkwX0_askedStands_5 : List UInt8 := [182, 0, 22, 42, 182, 0, 14, 153, 0, 19, 42, 182, 0, 18, 154, 0, 12, 42, 3, 182, 0, 51, 2]
abbrev dktX0_askedStands_5 : List UInt8 := dkwX0_askedStands_5 ++ dktX0_askedStands_6
def dkwX0_askedStands_4 : List UInt8 := [182, 0, 51, 16, 98, 160, 0, 13, 42, 2, 182, 0, 51, 16, 100, 159, 0, 5, 3, 172, 42, 3]
abbrev dktX0_askedStands_4 : List UInt8 := dkwX0_askedStands_4 ++ dktX0_askedStands_5
def dkwX0_askedStands_3 : List UInt8 := [160, 0, 42, 42, 182, 0, 18, 16, 16, 160, 0, 33, 42, 182, 0, 18, 16, 16, 160, 0, 24, 42, 16, 17]
abbrev dktX0_askedStands_3 : List UInt8 := dkwX0_askedStands_3 ++ dktX0_askedStands_4
def dkwX0_askedStands_2 : List UInt8 := [87, 42, 182, 0, 18, 2, 160, 0, 58, 42, 182, 0, 14, 153, 0, 51, 42, 3, 182, 0, 51, 2]
abbrev dktX0_askedStands_2 : List UInt8 := dkwX0_askedStands_2 ++ dktX0_askedStands_3
def dkwX0_askedStands_1 : List UInt8 := [160, 0, 10, 42, 182, 0, 48, 153, 0, 5, 3, 172, 42, 18, 56, 18, 56, 18, 56, 18, 56, 182, 0, 36]
abbrev dktX0_askedStands_1 : List UInt8 := dkwX0_askedStands_1 ++ dktX0_askedStands_2
def dkwX0_askedStands_0 : List UInt8 := [187, 0, 7, 89, 183, 0, 9, 75, 42, 182, 0, 18, 2, 160, 0, 19, 42, 3, 182, 0, 51, 2]
abbrev dktX0_askedStands_0 : List UInt8 := dkwX0_askedStands_0 ++ dktX0_askedStands_1
theorem dksX0_askedStands_0 : cX0_askedStands.data.toList.drop 0 = dktX0_askedStands_0 := by decide +kernel
theorem dksX0_askedStands_1 : cX0_askedStands.data.toList.drop 22 = dktX0_askedStands_1 := dk_seg dksX0_askedStands_0 22 rfl rfl
theorem dksX0_askedStands_2 : cX0_askedStands.data.toList.drop 46 = dktX0_askedStands_2 := dk_seg dksX0_askedStands_1 24 rfl rfl
theorem dksX0_askedStands_3 : cX0_askedStands.data.toList.drop 68 = dktX0_askedStands_3 := dk_seg dksX0_askedStands_2 22 rfl rfl
theorem dksX0_askedStands_4 : cX0_askedStands.data.toList.drop 92 = dktX0_askedStands_4 := dk_seg dksX0_askedStands_3 24 rfl rfl
theorem dksX0_askedStands_5 : cX0_askedStands.data.toList.drop 114 = dktX0_askedStands_5 := dk_seg dksX0_askedStands_4 22 rfl rfl
theorem dksX0_askedStands_6 : cX0_askedStands.data.toList.drop 137 = dktX0_askedStands_6 := dk_seg dksX0_askedStands_5 23 rfl rfl
theorem dksX0_askedStands_7 : cX0_askedStands.data.toList.drop 159 = dktX0_askedStands_7 := dk_seg dksX0_askedStands_6 22 rfl rfl
theorem dksX0_askedStands_8 : cX0_askedStands.data.toList.drop 183 = dktX0_askedStands_8 := dk_seg dksX0_askedStands_7 24 rfl rfl
theorem dX0_askedStands_0 : decode cX0_askedStands 0 = .ok (.new 7, 3) := dk_187 0 7 (dk_at dksX0_askedStands_0 0 rfl rfl)
theorem dX0_askedStands_3 : decode cX0_askedStands 3 = .ok (.dup, 1) := dk_89 (dk_at dksX0_askedStands_0 3 rfl rfl)
theorem dX0_askedStands_4 : decode cX0_askedStands 4 = .ok (.invokespecial 9, 3) := dk_183 0 9 (dk_at dksX0_askedStands_0 4 rfl rfl)
theorem dX0_askedStands_7 : decode cX0_askedStands 7 = .ok (.astore_n 0, 1) := dk_75 (dk_at dksX0_askedStands_0 7 rfl rfl)
theorem dX0_askedStands_8 : decode cX0_askedStands 8 = .ok (.aload_n 0, 1) := dk_42 (dk_at dksX0_askedStands_0 8 rfl rfl)
theorem dX0_askedStands_9 : decode cX0_askedStands 9 = .ok (.invokevirtual 18, 3) := dk_182 0 18 (dk_at dksX0_askedStands_0 9 rfl rfl)
theorem dX0_askedStands_12 : decode cX0_askedStands 12 = .ok (.iconst (-1), 1) := dk_2 (dk_at dksX0_askedStands_0 12 rfl rfl)
theorem dX0_askedStands_13 : decode cX0_askedStands 13 = .ok (.if_icmp .ne 19, 3) := dk_160 0 19 (dk_at dksX0_askedStands_0 13 rfl rfl)
theorem dX0_askedStands_16 : decode cX0_askedStands 16 = .ok (.aload_n 0, 1) := dk_42 (dk_at dksX0_askedStands_0 16 rfl rfl)
theorem dX0_askedStands_17 : decode cX0_askedStands 17 = .ok (.iconst 0, 1) := dk_3 (dk_at dksX0_askedStands_0 17 rfl rfl)
theorem dX0_askedStands_18 : decode cX0_askedStands 18 = .ok (.invokevirtual 51, 3) := dk_182 0 51 (dk_at dksX0_askedStands_0 18 rfl rfl)
theorem dX0_askedStands_21 : decode cX0_askedStands 21 = .ok (.iconst (-1), 1) := dk_2 (dk_at dksX0_askedStands_0 21 rfl rfl)
theorem dX0_askedStands_22 : decode cX0_askedStands 22 = .ok (.if_icmp .ne 10, 3) := dk_160 0 10 (dk_at dksX0_askedStands_1 0 rfl rfl)
theorem dX0_askedStands_25 : decode cX0_askedStands 25 = .ok (.aload_n 0, 1) := dk_42 (dk_at dksX0_askedStands_1 3 rfl rfl)
theorem dX0_askedStands_26 : decode cX0_askedStands 26 = .ok (.invokevirtual 48, 3) := dk_182 0 48 (dk_at dksX0_askedStands_1 4 rfl rfl)
theorem dX0_askedStands_29 : decode cX0_askedStands 29 = .ok (.ifCond .eq 5, 3) := dk_153 0 5 (dk_at dksX0_askedStands_1 7 rfl rfl)
theorem dX0_askedStands_32 : decode cX0_askedStands 32 = .ok (.iconst 0, 1) := dk_3 (dk_at dksX0_askedStands_1 10 rfl rfl)
theorem dX0_askedStands_33 : decode cX0_askedStands 33 = .ok (.ireturn, 1) := dk_172 (dk_at dksX0_askedStands_1 11 rfl rfl)
theorem dX0_askedStands_34 : decode cX0_askedStands 34 = .ok (.aload_n 0, 1) := dk_42 (dk_at dksX0_askedStands_1 12 rfl rfl)
theorem dX0_askedStands_35 : decode cX0_askedStands 35 = .ok (.ldc 56, 2) := dk_18 56 (dk_at dksX0_askedStands_1 13 rfl rfl)
theorem dX0_askedStands_37 : decode cX0_askedStands 37 = .ok (.ldc 56, 2) := dk_18 56 (dk_at dksX0_askedStands_1 15 rfl rfl)
theorem dX0_askedStands_39 : decode cX0_askedStands 39 = .ok (.ldc 56, 2) := dk_18 56 (dk_at dksX0_askedStands_1 17 rfl rfl)
theorem dX0_askedStands_41 : decode cX0_askedStands 41 = .ok (.ldc 56, 2) := dk_18 56 (dk_at dksX0_askedStands_1 19 rfl rfl)
theorem dX0_askedStands_43 : decode cX0_askedStands 43 = .ok (.invokevirtual 36, 3) := dk_182 0 36 (dk_at dksX0_askedStands_1 21 rfl rfl)
theorem dX0_askedStands_46 : decode cX0_askedStands 46 = .ok (.pop, 1) := dk_87 (dk_at dksX0_askedStands_2 0 rfl rfl)
theorem dX0_askedStands_47 : decode cX0_askedStands 47 = .ok (.aload_n 0, 1) := dk_42 (dk_at dksX0_askedStands_2 1 rfl rfl)
theorem dX0_askedStands_48 : decode cX0_askedStands 48 = .ok (.invokevirtual 18, 3) := dk_182 0 18 (dk_at dksX0_askedStands_2 2 rfl rfl)
theorem dX0_askedStands_51 : decode cX0_askedStands 51 = .ok (.iconst (-1), 1) := dk_2 (dk_at dksX0_askedStands_2 5 rfl rfl)
theorem dX0_askedStands_52 : decode cX0_askedStands 52 = .ok (.if_icmp .ne 58, 3) := dk_160 0 58 (dk_at dksX0_askedStands_2 6 rfl rfl)
theorem dX0_askedStands_55 : decode cX0_askedStands 55 = .ok (.aload_n 0, 1) := dk_42 (dk_at dksX0_askedStands_2 9 rfl rfl)
theorem dX0_askedStands_56 : decode cX0_askedStands 56 = .ok (.invokevirtual 14, 3) := dk_182 0 14 (dk_at dksX0_askedStands_2 10 rfl rfl)
theorem dX0_askedStands_59 : decode cX0_askedStands 59 = .ok (.ifCond .eq 51, 3) := dk_153 0 51 (dk_at dksX0_askedStands_2 13 rfl rfl)
theorem dX0_askedStands_62 : decode cX0_askedStands 62 = .ok (.aload_n 0, 1) := dk_42 (dk_at dksX0_askedStands_2 16 rfl rfl)
theorem dX0_askedStands_63 : decode cX0_askedStands 63 = .ok (.iconst 0, 1) := dk_3 (dk_at dksX0_askedStands_2 17 rfl rfl)
theorem dX0_askedStands_64 : decode cX0_askedStands 64 = .ok (.invokevirtual 51, 3) := dk_182 0 51 (dk_at dksX0_askedStands_2 18 rfl rfl)
theorem dX0_askedStands_67 : decode cX0_askedStands 67 = .ok (.iconst (-1), 1) := dk_2 (dk_at dksX0_askedStands_2 21 rfl rfl)
theorem dX0_askedStands_68 : decode cX0_askedStands 68 = .ok (.if_icmp .ne 42, 3) := dk_160 0 42 (dk_at dksX0_askedStands_3 0 rfl rfl)
theorem dX0_askedStands_71 : decode cX0_askedStands 71 = .ok (.aload_n 0, 1) := dk_42 (dk_at dksX0_askedStands_3 3 rfl rfl)
theorem dX0_askedStands_72 : decode cX0_askedStands 72 = .ok (.invokevirtual 18, 3) := dk_182 0 18 (dk_at dksX0_askedStands_3 4 rfl rfl)
theorem dX0_askedStands_75 : decode cX0_askedStands 75 = .ok (.bipush 16, 2) := dk_16 16 (dk_at dksX0_askedStands_3 7 rfl rfl)
theorem dX0_askedStands_77 : decode cX0_askedStands 77 = .ok (.if_icmp .ne 33, 3) := dk_160 0 33 (dk_at dksX0_askedStands_3 9 rfl rfl)
theorem dX0_askedStands_80 : decode cX0_askedStands 80 = .ok (.aload_n 0, 1) := dk_42 (dk_at dksX0_askedStands_3 12 rfl rfl)
theorem dX0_askedStands_81 : decode cX0_askedStands 81 = .ok (.invokevirtual 18, 3) := dk_182 0 18 (dk_at dksX0_askedStands_3 13 rfl rfl)
theorem dX0_askedStands_84 : decode cX0_askedStands 84 = .ok (.bipush 16, 2) := dk_16 16 (dk_at dksX0_askedStands_3 16 rfl rfl)
theorem dX0_askedStands_86 : decode cX0_askedStands 86 = .ok (.if_icmp .ne 24, 3) := dk_160 0 24 (dk_at dksX0_askedStands_3 18 rfl rfl)
theorem dX0_askedStands_89 : decode cX0_askedStands 89 = .ok (.aload_n 0, 1) := dk_42 (dk_at dksX0_askedStands_3 21 rfl rfl)
theorem dX0_askedStands_90 : decode cX0_askedStands 90 = .ok (.bipush 17, 2) := dk_16 17 (dk_at dksX0_askedStands_3 22 rfl rfl)
theorem dX0_askedStands_92 : decode cX0_askedStands 92 = .ok (.invokevirtual 51, 3) := dk_182 0 51 (dk_at dksX0_askedStands_4 0 rfl rfl)
theorem dX0_askedStands_95 : decode cX0_askedStands 95 = .ok (.bipush 98, 2) := dk_16 98 (dk_at dksX0_askedStands_4 3 rfl rfl)
theorem dX0_askedStands_97 : decode cX0_askedStands 97 = .ok (.if_icmp .ne 13, 3) := dk_160 0 13 (dk_at dksX0_askedStands_4 5 rfl rfl)
theorem dX0_askedStands_100 : decode cX0_askedStands 100 = .ok (.aload_n 0, 1) := dk_42 (dk_at dksX0_askedStands_4 8 rfl rfl)
theorem dX0_askedStands_101 : decode cX0_askedStands 101 = .ok (.iconst (-1), 1) := dk_2 (dk_at dksX0_askedStands_4 9 rfl rfl)
theorem dX0_askedStands_102 : decode cX0_askedStands 102 = .ok (.invokevirtual 51, 3) := dk_182 0 51 (dk_at dksX0_askedStands_4 10 rfl rfl)
theorem dX0_askedStands_105 : decode cX0_askedStands 105 = .ok (.bipush 100, 2) := dk_16 100 (dk_at dksX0_askedStands_4 13 rfl rfl)
theorem dX0_askedStands_107 : decode cX0_askedStands 107 = .ok (.if_icmp .eq 5, 3) := dk_159 0 5 (dk_at dksX0_askedStands_4 15 rfl rfl)
theorem dX0_askedStands_110 : decode cX0_askedStands 110 = .ok (.iconst 0, 1) := dk_3 (dk_at dksX0_askedStands_4 18 rfl rfl)
theorem dX0_askedStands_111 : decode cX0_askedStands 111 = .ok (.ireturn, 1) := dk_172 (dk_at dksX0_askedStands_4 19 rfl rfl)
theorem dX0_askedStands_112 : decode cX0_askedStands 112 = .ok (.aload_n 0, 1) := dk_42 (dk_at dksX0_askedStands_4 20 rfl rfl)
theorem dX0_askedStands_113 : decode cX0_askedStands 113 = .ok (.iconst 0, 1) := dk_3 (dk_at dksX0_askedStands_4 21 rfl rfl)
theorem dX0_askedStands_114 : decode cX0_askedStands 114 = .ok (.invokevirtual 22, 3) := dk_182 0 22 (dk_at dksX0_askedStands_5 0 rfl rfl)
theorem dX0_askedStands_117 : decode cX0_askedStands 117 = .ok (.aload_n 0, 1) := dk_42 (dk_at dksX0_askedStands_5 3 rfl rfl)
theorem dX0_askedStands_118 : decode cX0_askedStands 118 = .ok (.invokevirtual 14, 3) := dk_182 0 14 (dk_at dksX0_askedStands_5 4 rfl rfl)
theorem dX0_askedStands_121 : decode cX0_askedStands 121 = .ok (.ifCond .eq 19, 3) := dk_153 0 19 (dk_at dksX0_askedStands_5 7 rfl rfl)
theorem dX0_askedStands_124 : decode cX0_askedStands 124 = .ok (.aload_n 0, 1) := dk_42 (dk_at dksX0_askedStands_5 10 rfl rfl)
theorem dX0_askedStands_125 : decode cX0_askedStands 125 = .ok (.invokevirtual 18, 3) := dk_182 0 18 (dk_at dksX0_askedStands_5 11 rfl rfl)
theorem dX0_askedStands_128 : decode cX0_askedStands 128 = .ok (.ifCond .ne 12, 3) := dk_154 0 12 (dk_at dksX0_askedStands_5 14 rfl rfl)
theorem dX0_askedStands_131 : decode cX0_askedStands 131 = .ok (.aload_n 0, 1) := dk_42 (dk_at dksX0_askedStands_5 17 rfl rfl)
theorem dX0_askedStands_132 : decode cX0_askedStands 132 = .ok (.iconst 0, 1) := dk_3 (dk_at dksX0_askedStands_5 18 rfl rfl)
theorem dX0_askedStands_133 : decode cX0_askedStands 133 = .ok (.invokevirtual 51, 3) := dk_182 0 51 (dk_at dksX0_askedStands_5 19 rfl rfl)
theorem dX0_askedStands_136 : decode cX0_askedStands 136 = .ok (.iconst (-1), 1) := dk_2 (dk_at dksX0_askedStands_5 22 rfl rfl)
theorem dX0_askedStands_137 : decode cX0_askedStands 137 = .ok (.if_icmp .eq 5, 3) := dk_159 0 5 (dk_at dksX0_askedStands_6 0 rfl rfl)
theorem dX0_askedStands_140 : decode cX0_askedStands 140 = .ok (.iconst 0, 1) := dk_3 (dk_at dksX0_askedStands_6 3 rfl rfl)
theorem dX0_askedStands_141 : decode cX0_askedStands 141 = .ok (.ireturn, 1) := dk_172 (dk_at dksX0_askedStands_6 4 rfl rfl)
theorem dX0_askedStands_142 : decode cX0_askedStands 142 = .ok (.aload_n 0, 1) := dk_42 (dk_at dksX0_askedStands_6 5 rfl rfl)
theorem dX0_askedStands_143 : decode cX0_askedStands 143 = .ok (.iconst 1, 1) := dk_4 (dk_at dksX0_askedStands_6 6 rfl rfl)
theorem dX0_askedStands_144 : decode cX0_askedStands 144 = .ok (.iconst 2, 1) := dk_5 (dk_at dksX0_askedStands_6 7 rfl rfl)
theorem dX0_askedStands_145 : decode cX0_askedStands 145 = .ok (.iconst 3, 1) := dk_6 (dk_at dksX0_askedStands_6 8 rfl rfl)
theorem dX0_askedStands_146 : decode cX0_askedStands 146 = .ok (.iconst 4, 1) := dk_7 (dk_at dksX0_askedStands_6 9 rfl rfl)
theorem dX0_askedStands_147 : decode cX0_askedStands 147 = .ok (.invokevirtual 36, 3) := dk_182 0 36 (dk_at dksX0_askedStands_6 10 rfl rfl)
theorem dX0_askedStands_150 : decode cX0_askedStands 150 = .ok (.pop, 1) := dk_87 (dk_at dksX0_askedStands_6 13 rfl rfl)
theorem dX0_askedStands_151 : decode cX0_askedStands 151 = .ok (.aload_n 0, 1) := dk_42 (dk_at dksX0_askedStands_6 14 rfl rfl)
theorem dX0_askedStands_152 : decode cX0_askedStands 152 = .ok (.invokevirtual 18, 3) := dk_182 0 18 (dk_at dksX0_askedStands_6 15 rfl rfl)
theorem dX0_askedStands_155 : decode cX0_askedStands 155 = .ok (.ifCond .ne 42, 3) := dk_154 0 42 (dk_at dksX0_askedStands_6 18 rfl rfl)
theorem dX0_askedStands_158 : decode cX0_askedStands 158 = .ok (.aload_n 0, 1) := dk_42 (dk_at dksX0_askedStands_6 21 rfl rfl)
theorem dX0_askedStands_159 : decode cX0_askedStands 159 = .ok (.invokevirtual 14, 3) := dk_182 0 14 (dk_at dksX0_askedStands_7 0 rfl rfl)
theorem dX0_askedStands_162 : decode cX0_askedStands 162 = .ok (.ifCond .eq 35, 3) := dk_153 0 35 (dk_at dksX0_askedStands_7 3 rfl rfl)
theorem dX0_askedStands_165 : decode cX0_askedStands 165 = .ok (.aload_n 0, 1) := dk_42 (dk_at dksX0_askedStands_7 6 rfl rfl)
theorem dX0_askedStands_166 : decode cX0_askedStands 166 = .ok (.invokevirtual 18, 3) := dk_182 0 18 (dk_at dksX0_askedStands_7 7 rfl rfl)
theorem dX0_askedStands_169 : decode cX0_askedStands 169 = .ok (.bipush 16, 2) := dk_16 16 (dk_at dksX0_askedStands_7 10 rfl rfl)
theorem dX0_askedStands_171 : decode cX0_askedStands 171 = .ok (.if_icmp .ne 26, 3) := dk_160 0 26 (dk_at dksX0_askedStands_7 12 rfl rfl)
theorem dX0_askedStands_174 : decode cX0_askedStands 174 = .ok (.aload_n 0, 1) := dk_42 (dk_at dksX0_askedStands_7 15 rfl rfl)
theorem dX0_askedStands_175 : decode cX0_askedStands 175 = .ok (.iconst 3, 1) := dk_6 (dk_at dksX0_askedStands_7 16 rfl rfl)
theorem dX0_askedStands_176 : decode cX0_askedStands 176 = .ok (.invokevirtual 51, 3) := dk_182 0 51 (dk_at dksX0_askedStands_7 17 rfl rfl)
theorem dX0_askedStands_179 : decode cX0_askedStands 179 = .ok (.iconst 1, 1) := dk_4 (dk_at dksX0_askedStands_7 20 rfl rfl)
theorem dX0_askedStands_180 : decode cX0_askedStands 180 = .ok (.if_icmp .ne 17, 3) := dk_160 0 17 (dk_at dksX0_askedStands_7 21 rfl rfl)
theorem dX0_askedStands_183 : decode cX0_askedStands 183 = .ok (.aload_n 0, 1) := dk_42 (dk_at dksX0_askedStands_8 0 rfl rfl)
theorem dX0_askedStands_184 : decode cX0_askedStands 184 = .ok (.bipush 15, 2) := dk_16 15 (dk_at dksX0_askedStands_8 1 rfl rfl)
theorem dX0_askedStands_186 : decode cX0_askedStands 186 = .ok (.invokevirtual 51, 3) := dk_182 0 51 (dk_at dksX0_askedStands_8 3 rfl rfl)
theorem dX0_askedStands_189 : decode cX0_askedStands 189 = .ok (.iconst 4, 1) := dk_7 (dk_at dksX0_askedStands_8 6 rfl rfl)
theorem dX0_askedStands_190 : decode cX0_askedStands 190 = .ok (.if_icmp .ne 7, 3) := dk_160 0 7 (dk_at dksX0_askedStands_8 7 rfl rfl)
theorem dX0_askedStands_193 : decode cX0_askedStands 193 = .ok (.iconst 1, 1) := dk_4 (dk_at dksX0_askedStands_8 10 rfl rfl)
theorem dX0_askedStands_194 : decode cX0_askedStands 194 = .ok (.goto 4, 3) := dk_167 0 4 (dk_at dksX0_askedStands_8 11 rfl rfl)
theorem dX0_askedStands_197 : decode cX0_askedStands 197 = .ok (.iconst 0, 1) := dk_3 (dk_at dksX0_askedStands_8 14 rfl rfl)
theorem dX0_askedStands_198 : decode cX0_askedStands 198 = .ok (.ireturn, 1) := dk_172 (dk_at dksX0_askedStands_8 15 rfl rfl)
theorem q2 : (Jvm.Cond.initialized "BlockPackerLaw") ∈ lw_all := lw_g (lw_at lw_m1 0 rfl) rfl
theorem q32 : (Jvm.Cond.methodLink "BlockPackerLaw" (61 : Nat) ({ cls := "BlockPackerLaw", name := "cell", desc := "([II)I" } : Jvm.MethodName)) ∈ lw_all := lw_g (lw_at lw_m1 30 rfl) rfl
theorem q33 : (Jvm.Cond.static ({ cls := "BlockPackerLaw", name := "cell", desc := "([II)I" } : Jvm.MethodName)) ∈ lw_all := lw_g (lw_at lw_m1 31 rfl) rfl
theorem q34 : (Jvm.Cond.code ({ cls := "BlockPackerLaw", name := "cell", desc := "([II)I" } : Jvm.MethodName) method_2_code (2 : Nat) (Option.some Jvm.ClassFile.FieldType.int)) ∈ lw_all := lw_g (lw_at lw_m1 32 rfl) rfl
theorem q35 : (Jvm.Cond.methodLink "BlockPackerLaw" (57 : Nat) ({ cls := "BlockPackerLaw", name := "elder", desc := "([I)Z" } : Jvm.MethodName)) ∈ lw_all := lw_g (lw_at lw_m1 33 rfl) rfl
theorem q36 : (Jvm.Cond.static ({ cls := "BlockPackerLaw", name := "elder", desc := "([I)Z" } : Jvm.MethodName)) ∈ lw_all := lw_g (lw_at lw_m1 34 rfl) rfl
theorem q37 : (Jvm.Cond.code ({ cls := "BlockPackerLaw", name := "elder", desc := "([I)Z" } : Jvm.MethodName) method_4_code (1 : Nat) (Option.some Jvm.ClassFile.FieldType.boolean)) ∈ lw_all := lw_g (lw_at lw_m1 35 rfl) rfl
theorem q38 : (Jvm.Cond.classLink "BlockPackerLaw" (7 : Nat) "BlockPacker") ∈ lw_all := lw_g (lw_at lw_m1 36 rfl) rfl
theorem q40 : (Jvm.Cond.methodLink "BlockPackerLaw" (9 : Nat) ({ cls := "BlockPacker", name := "<init>", desc := "()V" } : Jvm.MethodName)) ∈ lw_all := lw_g (lw_at lw_m1 38 rfl) rfl
theorem q92 : (Jvm.Cond.methodLink "BlockPackerLaw" (26 : Nat) ({ cls := "BlockPackerLaw", name := "trip", desc := "(LBlockPacker;[I)Z" } : Jvm.MethodName)) ∈ lw_all := lw_g (lw_at lw_m1 90 rfl) rfl
theorem q93 : (Jvm.Cond.static ({ cls := "BlockPackerLaw", name := "trip", desc := "(LBlockPacker;[I)Z" } : Jvm.MethodName)) ∈ lw_all := lw_g (lw_at lw_m1 91 rfl) rfl
theorem q94 : (Jvm.Cond.code ({ cls := "BlockPackerLaw", name := "trip", desc := "(LBlockPacker;[I)Z" } : Jvm.MethodName) method_5_code (10 : Nat) (Option.some Jvm.ClassFile.FieldType.boolean)) ∈ lw_all := lw_g (lw_at lw_m1 92 rfl) rfl
theorem q95 : (Jvm.Cond.methodLink "BlockPackerLaw" (36 : Nat) ({ cls := "BlockPacker", name := "put", desc := "(IIII)Z" } : Jvm.MethodName)) ∈ lw_all := lw_g (lw_at lw_m1 93 rfl) rfl
theorem q103 : (Jvm.Cond.methodLink "BlockPackerLaw" (40 : Nat) ({ cls := "BlockPackerLaw", name := "word", desc := "([BII)I" } : Jvm.MethodName)) ∈ lw_all := lw_g (lw_at lw_m1 101 rfl) rfl
theorem q104 : (Jvm.Cond.static ({ cls := "BlockPackerLaw", name := "word", desc := "([BII)I" } : Jvm.MethodName)) ∈ lw_all := lw_g (lw_at lw_m1 102 rfl) rfl
theorem q105 : (Jvm.Cond.code ({ cls := "BlockPackerLaw", name := "word", desc := "([BII)I" } : Jvm.MethodName) method_6_code (3 : Nat) (Option.some Jvm.ClassFile.FieldType.int)) ∈ lw_all := lw_g (lw_at lw_m1 103 rfl) rfl
theorem q106 : (Jvm.Cond.methodLink "BlockPackerLaw" (44 : Nat) ({ cls := "BlockPacker", name := "repeat", desc := "(II)I" } : Jvm.MethodName)) ∈ lw_all := lw_g (lw_at lw_m1 104 rfl) rfl
theorem q111 : (Jvm.Cond.constant "BlockPackerLaw" (47 : Nat) (2147483647 : Int32)) ∈ lw_all := lw_g (lw_at lw_m1 109 rfl) rfl
theorem q112 : (Jvm.Cond.methodLink "BlockPackerLaw" (10 : Nat) ({ cls := "BlockPacker", name := "fill", desc := "(II)I" } : Jvm.MethodName)) ∈ lw_all := lw_g (lw_at lw_m1 110 rfl) rfl
theorem q116 : (Jvm.Cond.methodLink "BlockPackerLaw" (22 : Nat) ({ cls := "BlockPacker", name := "trim", desc := "(I)V" } : Jvm.MethodName)) ∈ lw_all := lw_g (lw_at lw_m1 114 rfl) rfl
theorem q120 : (Jvm.Cond.methodLink "BlockPackerLaw" (48 : Nat) ({ cls := "BlockPacker", name := "size", desc := "()I" } : Jvm.MethodName)) ∈ lw_all := lw_g (lw_at lw_m1 118 rfl) rfl
theorem q124 : (Jvm.Cond.methodLink "BlockPackerLaw" (14 : Nat) ({ cls := "BlockPacker", name := "pack", desc := "()Z" } : Jvm.MethodName)) ∈ lw_all := lw_g (lw_at lw_m1 122 rfl) rfl
theorem q351 : (Jvm.Cond.methodLink "BlockPackerLaw" (18 : Nat) ({ cls := "BlockPacker", name := "open", desc := "()I" } : Jvm.MethodName)) ∈ lw_all := lw_g (lw_at lw_m2 109 rfl) rfl
theorem q628 : (Jvm.Cond.methodLink "BlockPackerLaw" (51 : Nat) ({ cls := "BlockPacker", name := "opened", desc := "(I)I" } : Jvm.MethodName)) ∈ lw_all := lw_g (lw_at lw_m3 146 rfl) rfl
theorem q632 : (Jvm.Cond.methodLink "BlockPackerLaw" (32 : Nat) ({ cls := "BlockPackerLaw", name := "used", desc := "()LBlockPacker;" } : Jvm.MethodName)) ∈ lw_all := lw_g (lw_at lw_m3 150 rfl) rfl
theorem q633 : (Jvm.Cond.static ({ cls := "BlockPackerLaw", name := "used", desc := "()LBlockPacker;" } : Jvm.MethodName)) ∈ lw_all := lw_g (lw_at lw_m3 151 rfl) rfl
theorem q634 : (Jvm.Cond.code ({ cls := "BlockPackerLaw", name := "used", desc := "()LBlockPacker;" } : Jvm.MethodName) method_3_code (2 : Nat) (Option.some (Jvm.ClassFile.FieldType.object "BlockPacker"))) ∈ lw_all := lw_g (lw_at lw_m3 152 rfl) rfl
theorem q635 : (Jvm.Cond.methodLink "BlockPackerLaw" (65 : Nat) ({ cls := "BlockPackerLaw", name := "askedKeeps", desc := "(II)Z" } : Jvm.MethodName)) ∈ lw_all := lw_g (lw_at lw_m3 153 rfl) rfl
theorem q636 : (Jvm.Cond.static ({ cls := "BlockPackerLaw", name := "askedKeeps", desc := "(II)Z" } : Jvm.MethodName)) ∈ lw_all := lw_g (lw_at lw_m3 154 rfl) rfl
theorem q637 : (Jvm.Cond.code ({ cls := "BlockPackerLaw", name := "askedKeeps", desc := "(II)Z" } : Jvm.MethodName) method_7_code (5 : Nat) (Option.some Jvm.ClassFile.FieldType.boolean)) ∈ lw_all := lw_g (lw_at lw_m3 155 rfl) rfl
theorem q638 : (Jvm.Cond.methodLink "BlockPackerLaw" (69 : Nat) ({ cls := "BlockPackerLaw", name := "askedCounts", desc := "()Z" } : Jvm.MethodName)) ∈ lw_all := lw_g (lw_at lw_m3 156 rfl) rfl
theorem q639 : (Jvm.Cond.static ({ cls := "BlockPackerLaw", name := "askedCounts", desc := "()Z" } : Jvm.MethodName)) ∈ lw_all := lw_g (lw_at lw_m3 157 rfl) rfl
theorem q640 : (Jvm.Cond.code ({ cls := "BlockPackerLaw", name := "askedCounts", desc := "()Z" } : Jvm.MethodName) method_8_code (3 : Nat) (Option.some Jvm.ClassFile.FieldType.boolean)) ∈ lw_all := lw_g (lw_at lw_m3 158 rfl) rfl
theorem q641 : (Jvm.Cond.constant "BlockPackerLaw" (55 : Nat) (-2147483648 : Int32)) ∈ lw_all := lw_g (lw_at lw_m3 159 rfl) rfl
theorem q642 : (Jvm.Cond.methodLink "BlockPackerLaw" (72 : Nat) ({ cls := "BlockPackerLaw", name := "askedStands", desc := "()Z" } : Jvm.MethodName)) ∈ lw_all := lw_g (lw_at lw_m3 160 rfl) rfl
theorem q643 : (Jvm.Cond.static ({ cls := "BlockPackerLaw", name := "askedStands", desc := "()Z" } : Jvm.MethodName)) ∈ lw_all := lw_g (lw_at lw_m3 161 rfl) rfl
theorem q644 : (Jvm.Cond.code ({ cls := "BlockPackerLaw", name := "askedStands", desc := "()Z" } : Jvm.MethodName) method_9_code (1 : Nat) (Option.some Jvm.ClassFile.FieldType.boolean)) ∈ lw_all := lw_g (lw_at lw_m3 162 rfl) rfl
theorem q645 : (Jvm.Cond.constant "BlockPackerLaw" (56 : Nat) (1633837924 : Int32)) ∈ lw_all := lw_g (lw_at lw_m3 163 rfl) rfl
/-! the law's own entry -/
set_option maxRecDepth 100000
abbrev cL_law : ByteArray := code
def dkwL_law_1 : List UInt8 := [184, 0, 69, 153, 0, 13, 184, 0, 72, 153, 0, 7, 4, 167, 0, 4, 3, 172]
abbrev dktL_law_1 : List UInt8 := dkwL_law_1 ++ []
def dkwL_law_0 : List UInt8 := [42, 184, 0, 57, 153, 0, 35, 42, 3, 184, 0, 61, 42, 4, 184, 0, 61, 184, 0, 65, 153, 0, 19]
abbrev dktL_law_0 : List UInt8 := dkwL_law_0 ++ dktL_law_1
theorem dksL_law_0 : cL_law.data.toList.drop 0 = dktL_law_0 := by decide +kernel
theorem dksL_law_1 : cL_law.data.toList.drop 23 = dktL_law_1 := dk_seg dksL_law_0 23 rfl rfl
theorem dL_law_0 : decode cL_law 0 = .ok (.aload_n 0, 1) := dk_42 (dk_at dksL_law_0 0 rfl rfl)
theorem dL_law_1 : decode cL_law 1 = .ok (.invokestatic 57, 3) := dk_184 0 57 (dk_at dksL_law_0 1 rfl rfl)
theorem dL_law_4 : decode cL_law 4 = .ok (.ifCond .eq 35, 3) := dk_153 0 35 (dk_at dksL_law_0 4 rfl rfl)
theorem dL_law_7 : decode cL_law 7 = .ok (.aload_n 0, 1) := dk_42 (dk_at dksL_law_0 7 rfl rfl)
theorem dL_law_8 : decode cL_law 8 = .ok (.iconst 0, 1) := dk_3 (dk_at dksL_law_0 8 rfl rfl)
theorem dL_law_9 : decode cL_law 9 = .ok (.invokestatic 61, 3) := dk_184 0 61 (dk_at dksL_law_0 9 rfl rfl)
theorem dL_law_12 : decode cL_law 12 = .ok (.aload_n 0, 1) := dk_42 (dk_at dksL_law_0 12 rfl rfl)
theorem dL_law_13 : decode cL_law 13 = .ok (.iconst 1, 1) := dk_4 (dk_at dksL_law_0 13 rfl rfl)
theorem dL_law_14 : decode cL_law 14 = .ok (.invokestatic 61, 3) := dk_184 0 61 (dk_at dksL_law_0 14 rfl rfl)
theorem dL_law_17 : decode cL_law 17 = .ok (.invokestatic 65, 3) := dk_184 0 65 (dk_at dksL_law_0 17 rfl rfl)
theorem dL_law_20 : decode cL_law 20 = .ok (.ifCond .eq 19, 3) := dk_153 0 19 (dk_at dksL_law_0 20 rfl rfl)
theorem dL_law_23 : decode cL_law 23 = .ok (.invokestatic 69, 3) := dk_184 0 69 (dk_at dksL_law_1 0 rfl rfl)
theorem dL_law_26 : decode cL_law 26 = .ok (.ifCond .eq 13, 3) := dk_153 0 13 (dk_at dksL_law_1 3 rfl rfl)
theorem dL_law_29 : decode cL_law 29 = .ok (.invokestatic 72, 3) := dk_184 0 72 (dk_at dksL_law_1 6 rfl rfl)
theorem dL_law_32 : decode cL_law 32 = .ok (.ifCond .eq 7, 3) := dk_153 0 7 (dk_at dksL_law_1 9 rfl rfl)
theorem dL_law_35 : decode cL_law 35 = .ok (.iconst 1, 1) := dk_4 (dk_at dksL_law_1 12 rfl rfl)
theorem dL_law_36 : decode cL_law 36 = .ok (.goto 4, 3) := dk_167 0 4 (dk_at dksL_law_1 13 rfl rfl)
theorem dL_law_39 : decode cL_law 39 = .ok (.iconst 0, 1) := dk_3 (dk_at dksL_law_1 16 rfl rfl)
theorem dL_law_40 : decode cL_law 40 = .ok (.ireturn, 1) := dk_172 (dk_at dksL_law_1 17 rfl rfl)
end
section
/-! A static call of a method with an exception table (starting text: rows of kit/laws) -/
section VXS
variable {p : Program} {l : Launch} {e : Env} {R : Room} {s : State} {m : MethodId} {args : Array Value} {below : List Frame} {meth : Method} {c : Code} {T : State} {H : Heap} {locs : List Loc} {cells slots : Nat}
abbrev vx_CSW (R : Room) (s : State) (args : Array Value) (own : String) (index : Nat) (y : MethodName) (bytes : ByteArray) (maxL : Nat) (ret : Option FieldType) (hh : List (Nat × Nat × Nat × Nat)) (ws : List Cond) (rm : Room) (mc ms n : Nat) : Prop :=
  (rm.cells = mc ∧ rm.slots = ms ∧ rm.frames + 1 ≤ R.frames ∧ 8 + (maxL + 11) + rm.locals ≤ R.locals ∧ (∀ w ∈ ws, ∀ (a' : Array Value) (U : State), s.WarmedH U.vm → w.before a' U = true) ∧ Cond.codeWith y bytes maxL ret hh ∈ ws) ∧
  (Cond.codeWith y bytes maxL ret hh).before args s = true ∧ (Cond.initialized y.cls).before args s = true ∧ (y.cls ≠ "java/lang/invoke/MethodHandle" ∧ y.cls ≠ "java/lang/invoke/VarHandle") ∧
  (∀ sig, parseMethodDescriptor y.desc = some sig → n = sig.parameters.length) ∧ (Cond.methodLink own index y).before args s = true ∧ (Cond.static y).before args s = true
theorem vx_cwSW {own : String} {index maxL mc ms : Nat} {y : MethodName} {bytes : ByteArray} {ret : Option FieldType} {hh : List (Nat × Nat × Nat × Nat)} {Ts ws ws' : List Cond} {rm : Room} (n : Nat) (ht : ∀ w ∈ Ts, w.before args s = true) (hT : GoodIn Ts (va_wsS own index y ws)) (hw : ws = Cond.codeWith y bytes maxL ret hh :: ws') (hrc : rm.cells = mc) (hrs : rm.slots = ms)
    (hd : y.cls ≠ "java/lang/invoke/MethodHandle" ∧ y.cls ≠ "java/lang/invoke/VarHandle" ∧ (parseMethodDescriptor y.desc).map (fun d => d.parameters.length) = some n) (hR : rm.frames + 1 ≤ R.frames ∧ 8 + (maxL + 11) + rm.locals ≤ R.locals) :
    vx_CSW R s args own index y bytes maxL ret hh ws rm mc ms n := by
  have ok : ∀ w ∈ va_wsS own index y ws, w.before args s = true := fun w h => ht w (hT w h).1
  have hG : GoodIn Ts ws := fun w h => hT w (by unfold va_wsS; exact List.mem_append_right _ h)
  have hc : Cond.codeWith y bytes maxL ret hh ∈ ws := by rw [hw]; exact List.mem_cons_self
  refine ⟨⟨hrc, hrs, hR.1, hR.2, pay_in ht hG, hc⟩, ht _ (hG _ hc).1, ok _ (by simp [va_wsS]), ⟨hd.1, hd.2.1⟩, fun sig h => ?_, ok _ (by simp [va_wsS]), ok _ (by simp [va_wsS])⟩
  have h2 := hd.2.2
  rw [h] at h2
  exact (Option.some.inj h2).symm
theorem vx_callSW (X : Stand p l e R s m args below meth c T locs cells slots) (hexec : p.tables.exec = Jvm.exec) {own : String} {index : Nat} {y : MethodName} {bytes : ByteArray} {maxL : Nat} {ret : Option FieldType} {hh : List (Nat × Nat × Nat × Nat)}
    (hown : s.vm.findClass own = some m.cls) (hlink : (Cond.methodLink own index y).before args s = true) (hstat : (Cond.static y).before args s = true) (hinit : (Cond.initialized y.cls).before args s = true)
    (hcode : (Cond.codeWith y bytes maxL ret hh).before args s = true) (hy : y.cls ≠ "java/lang/invoke/MethodHandle" ∧ y.cls ≠ "java/lang/invoke/VarHandle")
    {W9 : Nat} {Pre : Pt → Array Value → Prop} {Post : Pt → Array Value → Option Value → Pt → Prop} (hK : Back l R p e below s args y 3 W9 Pre Post)
    {g : JFrame} (hg : g.method = m) (hsize : g.locals.size = c.maxLocals) {argsL rest : List Value} (hlen : ∀ sig, parseMethodDescriptor y.desc = some sig → argsL.length = sig.parameters.length)
    (hstack : g.stack = argsL.reverse ++ rest) (hW : 2 * g.monitorRoom + (rest.map fun v => v.category).sum ≤ W9) (hdg : decode c.code g.pc = .ok (.invokestatic index, 3))
    (hpre : ∀ vm₁, s.WarmedH vm₁ → Pre ⟨T.setVm vm₁, locs, cells, slots⟩ argsL.toArray) :
    ∃ (v : Option Value) (vm₁ : Vm) (B : Pt), s.WarmedH vm₁ ∧ Stand p l e R s m args below meth c B.U B.locs B.cells B.slots ∧ Post ⟨T.setVm vm₁, locs, cells, slots⟩ argsL.toArray v B ∧
      ∀ target, Steps p.tables e below (B.U.setTop { g with pc := g.pc + 3, stack := v.toList ++ rest }) target → Steps p.tables e below (T.setTop g) target := by
  obtain ⟨mk, methM, cM, hnamed, hmethM, -, -, -, -, -, -, hsigM⟩ := Cond.codeWith_spec hcode
  have hstatic : methM.isStatic = true := Cond.static_spec hnamed hmethM hstat
  obtain ⟨kP, hkP, -⟩ := className_of_methodNamed hnamed
  have hinitP : kP.init = .initialized := Cond.initialized_spec (findClass_of_methodNamed hnamed) hkP hinit
  obtain ⟨vm₁, X₁, hstep₁⟩ := X.invokestatic hexec hown hlink hnamed hmethM hstatic hkP hinitP hy (g := g) hg (argsL := argsL) (rest := rest) (hlen _ hsigM) hstack hdg
  obtain ⟨v, B, X', hpost, hsteps⟩ := hK m meth c ⟨T.setVm vm₁, locs, cells, slots⟩ { g with stack := rest } (.invokestatic index) mk argsL.toArray X₁ hg hsize hdg hW (X₁.named hnamed) (hpre vm₁ X₁.warmed)
  exact ⟨v, vm₁, B, X₁.warmed, X', hpost, fun target h => hstep₁ _ fun acts => by rw [doInvoke_state]; exact hsteps.trans h⟩
theorem vx_runSW {y : MethodName} {bytes cc : ByteArray} {maxL nL mc ms n index : Nat} {ret : Option FieldType} {hh : List (Nat × Nat × Nat × Nat)} {ws : List Cond} {rm : Room} {Pc : Array Value → State → Prop} {Qc : Array Value → State → Outcome → State → Prop} {free : Addr → Prop} {Ts : List Cond} {own : String} {As rest : List Value} {g : JFrame}
    (S : CallFix p m c cc nL s args Ts own) (hM : Met l y ws rm Pc Qc mc ms free) (cw : vx_CSW R s args own index y bytes maxL ret hh ws rm mc ms n) (hp : PreS s H Pc As)
    (hg : g.method = m) (hn : As.length = n) (hsize : g.locals.size = nL) (hstack : g.stack = As.reverse ++ rest) (hW : 2 * g.monitorRoom + (rest.map fun v => v.category).sum ≤ 8) (hdg : decode cc g.pc = .ok (.invokestatic index, 3)) (hf : cells + mc ≤ R.cells ∧ slots + ms ≤ R.slots) :
    va_Run p l e R s m args below meth c H locs cells slots mc ms g rest (Qc As.toArray) (free) := by
  obtain ⟨⟨hrc, hrs, hfr, hlo, hws, hcw⟩, hcode, hini, hy, hlen, hl, hstt⟩ := cw
  have hK : Back l R p e below s args y 3 8 (PreOf R mc ms Pc) (PostOf Qc mc ms free) := va_backW (hh := hh) (bytes := bytes) (maxL := maxL) (ret := ret) hM hp.1 hrc hrs hfr hlo hws hcw (fun a' U hW => word_at hW (Or.inl (by first | rfl | simp [Cond.onTables, Cond.keeps, Cond.steady])) hini)
  obtain ⟨hx, hb, hml, ho, -⟩ := S
  intro T hT X
  obtain ⟨v, vm₁, ⟨U', l2, c2, s2⟩, hW₁, X', ⟨g', mk, t, L, e1, e2, hq, h1, hL, h2, h3⟩, st⟩ := vx_callSW X hx (hh := hh) (bytes := bytes) (maxL := maxL) (ret := ret) ho hl hstt hini hcode hy hK hg (hsize.trans hml.symm) (argsL := As) (rest := rest) (fun sig h => hn.trans (hlen sig h)) hstack hW (by rw [hb]; exact hdg)
    (fun vm₁ hW₁ => ⟨hf.1, hf.2, hp.2 (T.setVm vm₁) hT hW₁⟩)
  dsimp only [Pt.U, Pt.locs, Pt.cells, Pt.slots] at X' e1 e2 h1 h2 h3 st
  subst h1; subst h2; subst h3
  exact ⟨v, (T.setVm vm₁).calling g' mk As.toArray, t, U', L, hT, X', hL, e1, e2, hq, st⟩
end VXS
end
section
/-! OUR ROWS: the machine's rows over one fixed list of classes and array classes, with ints that are naturals (nI), byte arrays that are functions to Int8 -/
set_option maxRecDepth 100000
abbrev z_G : Type := va_G × (ClassId × ClassId × ClassId)
def z_T0 : u_T := fun _ => ("", "", "", false)
theorem in_z0 (C : String) : ∀ w ∈ u_ws C z_T0 0, w ∈ lw_all := fun w h => by simp [u_ws] at h
def z_cl : List vw_C := [(RX1, TX1, 8), (RX3, z_T0, 0), (RX5, z_T0, 0)]
def z_ty (G : z_G) : List (ClassId × FieldType) := [(G.2.1, .byte), (G.2.2.1, .short), (G.2.2.2, .int)]
/-- a byte array of n places, holding t -/
def z_B (G : z_G) (n : Nat) (t : Nat → Int8) : va_E := .inl (G.2.1, n, .inl (fun j => (t j).toInt32))
/-- an array of shorts that hold naturals -/
def z_H (G : z_G) (n : Nat) (h : Nat → Nat) : va_E := .inl (G.2.2.1, n, .inl (fun j => nI (h j)))
def z_I (G : z_G) (n : Nat) (f : Nat → Int32) : va_E := .inl (G.2.2.2, n, .inl f)
/-- the state between two instructions: the cells, apart, and nothing else written -/
def z_S (G : z_G) (ws : va_W) (A : Nat → Prop) (s : State) (H : Heap) (locs : List Loc) : Prop := va_P G.1 z_cl ws H ∧ va_D A ws ∧ va_S A s.heap H locs
/-- what holds all through a method -/
def z_X (p : Program) (s : State) (m : MethodId) (args : Array Value) (meth : Method) (c : Code) (y : MethodName) (cc : ByteArray) (L : Nat) (ret : Option FieldType) (G : z_G) (A : Nat → Prop) : Prop :=
  CallFix p m c cc L s args lw_all y.cls ∧ meth.sig.returnType = ret ∧ meth.locks = false ∧ meth.name = y.name ∧ va_K G.1 z_cl (z_ty G) s ∧ ∀ q, s.heap.size ≤ q → A q
/-- what else a method's start says; it stays where nothing of A is written -/
def z_Eok (E : (Nat → Prop) → State → Prop) : Prop := ∀ (A B : Nat → Prop) (u U : State), E A u → u.vm.Alike U.vm → u.heap.size ≤ U.heap.size → (∀ q, q < u.heap.size → ¬ A q → U.heap[q]? = u.heap[q]?) → (∀ q, B q → A q) → E B U
def z_E0 : (Nat → Prop) → State → Prop := fun _ _ => True
theorem z_E0ok : z_Eok z_E0 := fun _ _ _ _ _ _ _ _ _ => trivial
/-- SKIP_STRENGTH is 6 -/
def z_E1 : (Nat → Prop) → State → Prop := fun A U => va_Z "LZ4Constants" "SKIP_STRENGTH" "I" (.int (nI 6)) A U U.heap
theorem z_E1ok : z_Eok z_E1 := fun _ _ _ _ h hv _ hq hB => ((h.moved hv).kept hq).narrow hB
def z_Dk1 : MethodName := ⟨"LZ4Compressor", "compress", "([BII[BII)I"⟩
def z_Dk2 : MethodName := ⟨"LZ4SafeDecompressor", "decompress", "([BII[BII)I"⟩
theorem z_Dkmv {x : MethodName} {u U : State} (hv : u.vm.Alike U.vm) (h : va_Nw (.declares x) u) : va_Nw (.declares x) U := va_tabs rfl (rfl : (u.setVm U.vm).vm = U.vm) (by rw [Cond.declares_setVm hv]; exact h)
/-- and the two abstract methods are declared -/
def z_E2 : (Nat → Prop) → State → Prop := fun A U => z_E1 A U ∧ va_Nw (.declares z_Dk1) U ∧ va_Nw (.declares z_Dk2) U
theorem z_E2ok : z_Eok z_E2 := fun A B u U h hv hs hq hB => ⟨z_E1ok A B u U h.1 hv hs hq hB, z_Dkmv hv h.2.1, z_Dkmv hv h.2.2⟩
/-- and the script: an int array that is no cell of the world -/
def z_E3 (b L : Nat) (xs : Nat → Int32) : (Nat → Prop) → State → Prop := fun A U => z_E2 A U ∧ va_X b L xs U U.heap ∧ b < U.heap.size ∧ ¬ A b
theorem z_E3ok (b L : Nat) (xs : Nat → Int32) : z_Eok (z_E3 b L xs) := fun A B u U h hv hs hq hB =>
  ⟨z_E2ok A B u U h.1 hv hs hq hB, (h.2.1.moved hv).kept (hq b h.2.2.1 h.2.2.2), Nat.lt_of_lt_of_le h.2.2.1 hs, fun z => h.2.2.2 (hB b z)⟩
theorem z_E2.one {A : Nat → Prop} {U : State} (h : z_E2 A U) : z_E1 A U := h.1
theorem z_E3.two {b L : Nat} {xs : Nat → Int32} {A : Nat → Prop} {U : State} (h : z_E3 b L xs A U) : z_E2 A U := h.1
/-- a method's start -/
def z_Pc (G : z_G) (E : (Nat → Prop) → State → Prop) (As : List Value) (wc : va_W) (sz : Nat) : Array Value → State → Prop := va_Pc As (fun U => U.heap.size = sz ∧ va_P G.1 z_cl wc U.heap ∧ va_K G.1 z_cl (z_ty G) U ∧ va_D (fun _ => True) wc ∧ E (va_A wc sz) U)
/-- the cells behind it -/
def z_Bk (G : z_G) {S : Type} (w1 : S → va_W) (A : Nat → Prop) : S → State → Prop := fun u t => va_P G.1 z_cl (w1 u) t.heap ∧ va_D A (w1 u)
def z_Br (G : z_G) {S : Type} (w1 : S → Nat → va_W) (A : Nat → Prop) : S → Nat → State → Prop := fun u q t => va_P G.1 z_cl (w1 u q) t.heap ∧ va_D A (w1 u q)
def z_Mi (l : Launch) (y : MethodName) (cc : ByteArray) (L : Nat) (ty : FieldType) (rm : Room) (mc ms : Nat) (G : z_G) (E : (Nat → Prop) → State → Prop) (As : List Value) (wc : va_W) {S : Type} (post : Int32 → S → Prop) (w1 : S → va_W) : Prop :=
  ∀ sz : Nat, Met l y (ws_ y cc L (some ty)) rm (z_Pc G E As wc sz) (va_Qi post (z_Bk G w1 (va_A wc sz)) (va_A wc sz)) mc ms (va_A wc sz)
def z_Mv (l : Launch) (y : MethodName) (cc : ByteArray) (L : Nat) (rm : Room) (mc ms : Nat) (G : z_G) (E : (Nat → Prop) → State → Prop) (As : List Value) (wc : va_W) {S : Type} (post : S → Prop) (w1 : S → va_W) : Prop :=
  ∀ sz : Nat, Met l y (ws_ y cc L none) rm (z_Pc G E As wc sz) (va_Qv post (z_Bk G w1 (va_A wc sz)) (va_A wc sz)) mc ms (va_A wc sz)
def z_MvW (l : Launch) (y : MethodName) (cc : ByteArray) (L : Nat) (hh : List (Nat × Nat × Nat × Nat)) (rm : Room) (mc ms : Nat) (G : z_G) (E : (Nat → Prop) → State → Prop) (As : List Value) (wc : va_W) {S : Type} (post : S → Prop) (w1 : S → va_W) : Prop :=
  ∀ sz : Nat, Met l y (wsW_ y cc L none hh) rm (z_Pc G E As wc sz) (va_Qv post (z_Bk G w1 (va_A wc sz)) (va_A wc sz)) mc ms (va_A wc sz)
def z_Mr (l : Launch) (y : MethodName) (cc : ByteArray) (L : Nat) (ty : FieldType) (rm : Room) (mc ms : Nat) (G : z_G) (E : (Nat → Prop) → State → Prop) (As : List Value) (wc : va_W) {S : Type} (post : S → Prop) (w1 : S → Nat → va_W) : Prop :=
  ∀ sz : Nat, Met l y (ws_ y cc L (some ty)) rm (z_Pc G E As wc sz) (va_Qr post (z_Br G w1 (va_A wc sz)) (va_A wc sz)) mc ms (va_A wc sz)
/-- a method's end -/
def z_Zi (below : List Frame) (G : z_G) (As : List Value) (s : State) (mc ms : Nat) {S : Type} (post : Int32 → S → Prop) (w1 : S → va_W) (A : Nat → Prop) : State → Prop := MQ below (va_Qi post (z_Bk G w1 A) A) As.toArray s mc ms A
def z_Zv (below : List Frame) (G : z_G) (As : List Value) (s : State) (mc ms : Nat) {S : Type} (post : S → Prop) (w1 : S → va_W) (A : Nat → Prop) : State → Prop := MQ below (va_Qv post (z_Bk G w1 A) A) As.toArray s mc ms A
def z_Zr (below : List Frame) (G : z_G) (As : List Value) (s : State) (mc ms : Nat) {S : Type} (post : S → Prop) (w1 : S → Nat → va_W) (A : Nat → Prop) : State → Prop := MQ below (va_Qr post (z_Br G w1 A) A) As.toArray s mc ms A
section ZB
variable {l : Launch} {y : MethodName} {cc : ByteArray} {L : Nat} {ty : FieldType} {rm : Room} {mc ms : Nat} {G : z_G} {E : (Nat → Prop) → State → Prop} {As : List Value} {wc : va_W} {S : Type}
theorem Mi.mk {post : Int32 → S → Prop} {w1 : S → va_W} (hy : plainName y.cls = true) (hn : (lg_sl As).length ≤ L)
    (body : ∀ (p : Program) (e : Env) (s : State) (m : MethodId) (below : List Frame) (meth : Method) (c : Code) (A : Nat → Prop) (ls : Array Slot), z_X p s m As.toArray meth c y cc L (some ty) G A → E A s → z_S G wc A s s.heap [] → lv_has ls L (lv_args 0 As) →
      W p l e rm s m As.toArray below meth c s.heap [] 0 0 (z_Zi below G As s mc ms post w1 A) (F0 m 0 ls [])) : z_Mi l y cc L ty rm mc ms G E As wc post w1 := by
  intro sz
  refine Met.ofW (cc := cc) (maxL := L) (ret := some ty) hy rfl ?_
  intro p e s m args below meth c s₁ B hml hv
  obtain ⟨rfl, hsz, hP, hK, hD0, hE⟩ := hv
  have hts := atoms_spec (ws := ws_ y cc L (some ty)) B.pre
  have hts : ∀ w ∈ lw_all, w.before _ s = true := fun w h => hts w (List.mem_cons_of_mem _ h)
  subst hsz
  have hl := lv_entry As (n := L) hn
  rw [lg_entry_eq]
  exact body p e s m below meth c _ _ ⟨⟨B.exec, B.bytes, hml, findClass_of_methodNamed B.named, hts⟩, B.returns, B.notSynchronized, (name_of_methodNamed B.named B.method).1, hK, fun q h => Or.inr h⟩ hE ⟨hP, hD0.self, va_S.rf⟩ hl
theorem Mv.mk {post : S → Prop} {w1 : S → va_W} (hy : plainName y.cls = true) (hn : (lg_sl As).length ≤ L)
    (body : ∀ (p : Program) (e : Env) (s : State) (m : MethodId) (below : List Frame) (meth : Method) (c : Code) (A : Nat → Prop) (ls : Array Slot), z_X p s m As.toArray meth c y cc L none G A → E A s → z_S G wc A s s.heap [] → lv_has ls L (lv_args 0 As) →
      W p l e rm s m As.toArray below meth c s.heap [] 0 0 (z_Zv below G As s mc ms post w1 A) (F0 m 0 ls [])) : z_Mv l y cc L rm mc ms G E As wc post w1 := by
  intro sz
  refine Met.ofW (cc := cc) (maxL := L) (ret := none) hy rfl ?_
  intro p e s m args below meth c s₁ B hml hv
  obtain ⟨rfl, hsz, hP, hK, hD0, hE⟩ := hv
  have hts := atoms_spec (ws := ws_ y cc L none) B.pre
  have hts : ∀ w ∈ lw_all, w.before _ s = true := fun w h => hts w (List.mem_cons_of_mem _ h)
  subst hsz
  have hl := lv_entry As (n := L) hn
  rw [lg_entry_eq]
  exact body p e s m below meth c _ _ ⟨⟨B.exec, B.bytes, hml, findClass_of_methodNamed B.named, hts⟩, B.returns, B.notSynchronized, (name_of_methodNamed B.named B.method).1, hK, fun q h => Or.inr h⟩ hE ⟨hP, hD0.self, va_S.rf⟩ hl
theorem MvW.mk {hh : List (Nat × Nat × Nat × Nat)} {post : S → Prop} {w1 : S → va_W} (hy : plainName y.cls = true) (hn : (lg_sl As).length ≤ L)
    (body : ∀ (p : Program) (e : Env) (s : State) (m : MethodId) (below : List Frame) (meth : Method) (c : Code) (A : Nat → Prop) (ls : Array Slot), z_X p s m As.toArray meth c y cc L none G A → E A s → z_S G wc A s s.heap [] → lv_has ls L (lv_args 0 As) →
      W p l e rm s m As.toArray below meth c s.heap [] 0 0 (z_Zv below G As s mc ms post w1 A) (F0 m 0 ls [])) : z_MvW l y cc L hh rm mc ms G E As wc post w1 := by
  intro sz
  refine va_MetW (cc := cc) (maxL := L) (ret := none) (hh := hh) hy rfl ?_
  intro p e s m args below meth c s₁ B hml hv
  obtain ⟨rfl, hsz, hP, hK, hD0, hE⟩ := hv
  have hts := atoms_spec (ws := wsW_ y cc L none hh) B.pre
  have hts : ∀ w ∈ lw_all, w.before _ s = true := fun w h => hts w (List.mem_cons_of_mem _ h)
  subst hsz
  have hl := lv_entry As (n := L) hn
  rw [lg_entry_eq]
  exact body p e s m below meth c _ _ ⟨⟨B.exec, B.bytes, hml, findClass_of_methodNamed B.named, hts⟩, B.returns, B.notSynchronized, (name_of_methodNamed B.named B.method).1, hK, fun q h => Or.inr h⟩ hE ⟨hP, hD0.self, va_S.rf⟩ hl
theorem Mr.mk {post : S → Prop} {w1 : S → Nat → va_W} (hy : plainName y.cls = true) (hn : (lg_sl As).length ≤ L)
    (body : ∀ (p : Program) (e : Env) (s : State) (m : MethodId) (below : List Frame) (meth : Method) (c : Code) (A : Nat → Prop) (ls : Array Slot), z_X p s m As.toArray meth c y cc L (some ty) G A → E A s → z_S G wc A s s.heap [] → lv_has ls L (lv_args 0 As) →
      W p l e rm s m As.toArray below meth c s.heap [] 0 0 (z_Zr below G As s mc ms post w1 A) (F0 m 0 ls [])) : z_Mr l y cc L ty rm mc ms G E As wc post w1 := by
  intro sz
  refine Met.ofW (cc := cc) (maxL := L) (ret := some ty) hy rfl ?_
  intro p e s m args below meth c s₁ B hml hv
  obtain ⟨rfl, hsz, hP, hK, hD0, hE⟩ := hv
  have hts := atoms_spec (ws := ws_ y cc L (some ty)) B.pre
  have hts : ∀ w ∈ lw_all, w.before _ s = true := fun w h => hts w (List.mem_cons_of_mem _ h)
  subst hsz
  have hl := lv_entry As (n := L) hn
  rw [lg_entry_eq]
  exact body p e s m below meth c _ _ ⟨⟨B.exec, B.bytes, hml, findClass_of_methodNamed B.named, hts⟩, B.returns, B.notSynchronized, (name_of_methodNamed B.named B.method).1, hK, fun q h => Or.inr h⟩ hE ⟨hP, hD0.self, va_S.rf⟩ hl
end ZB
theorem z_S.sub {G : z_G} {ws ws' : va_W} {A : Nat → Prop} {s : State} {H : Heap} {locs : List Loc} (h : z_S G ws A s H locs) (is : List Nat) (hn : va_nd is = true) (hs : is.map (fun i => ws[i]?) = ws'.map some) : z_S G ws' A s H locs := by
  have h2 : is.filterMap (fun i => ws[i]?) = ws' := by
    have e : is.filterMap (fun i => ws[i]?) = (is.map (fun i => ws[i]?)).filterMap id := by rw [List.filterMap_map]; rfl
    rw [e, hs, List.filterMap_map]
    simp
  exact ⟨h.1.sub is h2, h.2.1.sub is hn hs, h.2.2⟩
section ZR
variable {p : Program} {l : Launch} {e : Env} {R : Room} {s : State} {m : MethodId} {args : Array Value} {below : List Frame} {meth : Method} {c : Code} {H : Heap} {locs : List Loc} {cells slots : Nat} {Q : State → Prop}
variable {cc : ByteArray} {pc : Nat} {ls : Array Slot} {rest : List Value}
theorem z_top {x y : Int32} (h : x = y) (k : W p l e R s m args below meth c H locs cells slots Q (F0 m pc ls (.int y :: rest))) : W p l e R s m args below meth c H locs cells slots Q (F0 m pc ls (.int x :: rest)) := by rw [h]; exact k
theorem z_topr {x y : Nat} (h : x = y) (k : W p l e R s m args below meth c H locs cells slots Q (F0 m pc ls (.ref y :: rest))) : W p l e R s m args below meth c H locs cells slots Q (F0 m pc ls (.ref x :: rest)) := by rw [h]; exact k
theorem z_iadd (hx : p.tables.exec = Jvm.exec) (hb : c.code = cc) {a b : Nat} (hd : decode cc pc = .ok (.iadd, 1)) (k : W p l e R s m args below meth c H locs cells slots Q (F0 m (pc + 1) ls (.int (nI (a + b)) :: rest))) : W p l e R s m args below meth c H locs cells slots Q (F0 m pc ls (.int (nI b) :: .int (nI a) :: rest)) :=
  lv_iadd hx hb hd (by rw [nI_add]; exact k)
theorem z_isub (hx : p.tables.exec = Jvm.exec) (hb : c.code = cc) {a b : Nat} (hd : decode cc pc = .ok (.isub, 1)) (h : b ≤ a) (k : W p l e R s m args below meth c H locs cells slots Q (F0 m (pc + 1) ls (.int (nI (a - b)) :: rest))) : W p l e R s m args below meth c H locs cells slots Q (F0 m pc ls (.int (nI b) :: .int (nI a) :: rest)) :=
  lv_isub hx hb hd (by rw [pk_sub h]; exact k)
theorem z_imul (hx : p.tables.exec = Jvm.exec) (hb : c.code = cc) {a b : Nat} (hd : decode cc pc = .ok (.imul, 1)) (k : W p l e R s m args below meth c H locs cells slots Q (F0 m (pc + 1) ls (.int (nI (a * b)) :: rest))) : W p l e R s m args below meth c H locs cells slots Q (F0 m pc ls (.int (nI b) :: .int (nI a) :: rest)) :=
  lv_imul hx hb hd (by rw [pk_mul]; exact k)
theorem z_icmp_eq (hx : p.tables.exec = Jvm.exec) (hb : c.code = cc) {a b : Nat} {off : Int} {tgt : Nat} (hd : decode cc pc = .ok (.if_icmp .eq off, 3)) (ht : (pc : Int) + off = (tgt : Int)) (h1 : a < 2 ^ 31) (h2 : b < 2 ^ 31) (kt : a = b → W p l e R s m args below meth c H locs cells slots Q (F0 m tgt ls rest)) (kf : a ≠ b → W p l e R s m args below meth c H locs cells slots Q (F0 m (pc + 3) ls rest)) : W p l e R s m args below meth c H locs cells slots Q (F0 m pc ls (.int (nI b) :: .int (nI a) :: rest)) :=
  lv_icmp_eq hx hb hd ht (fun h => kt ((nI_eq h1 h2).mp h)) (fun h => kf fun q => h ((nI_eq h1 h2).mpr q))
theorem z_icmp_ne (hx : p.tables.exec = Jvm.exec) (hb : c.code = cc) {a b : Nat} {off : Int} {tgt : Nat} (hd : decode cc pc = .ok (.if_icmp .ne off, 3)) (ht : (pc : Int) + off = (tgt : Int)) (h1 : a < 2 ^ 31) (h2 : b < 2 ^ 31) (kt : a ≠ b → W p l e R s m args below meth c H locs cells slots Q (F0 m tgt ls rest)) (kf : a = b → W p l e R s m args below meth c H locs cells slots Q (F0 m (pc + 3) ls rest)) : W p l e R s m args below meth c H locs cells slots Q (F0 m pc ls (.int (nI b) :: .int (nI a) :: rest)) :=
  lv_icmp_ne hx hb hd ht (fun h => kt fun q => h ((nI_eq h1 h2).mpr q)) (fun h => kf ((nI_eq h1 h2).mp h))
theorem z_icmp_lt (hx : p.tables.exec = Jvm.exec) (hb : c.code = cc) {a b : Nat} {off : Int} {tgt : Nat} (hd : decode cc pc = .ok (.if_icmp .lt off, 3)) (ht : (pc : Int) + off = (tgt : Int)) (h1 : a < 2 ^ 31) (h2 : b < 2 ^ 31) (kt : a < b → W p l e R s m args below meth c H locs cells slots Q (F0 m tgt ls rest)) (kf : b ≤ a → W p l e R s m args below meth c H locs cells slots Q (F0 m (pc + 3) ls rest)) : W p l e R s m args below meth c H locs cells slots Q (F0 m pc ls (.int (nI b) :: .int (nI a) :: rest)) :=
  lv_icmp_lt hx hb hd ht (fun h => kt ((nI_ltI h1 h2).mp h)) (fun h => kf (Nat.le_of_not_lt fun q => h ((nI_ltI h1 h2).mpr q)))
theorem z_icmp_ge (hx : p.tables.exec = Jvm.exec) (hb : c.code = cc) {a b : Nat} {off : Int} {tgt : Nat} (hd : decode cc pc = .ok (.if_icmp .ge off, 3)) (ht : (pc : Int) + off = (tgt : Int)) (h1 : a < 2 ^ 31) (h2 : b < 2 ^ 31) (kt : b ≤ a → W p l e R s m args below meth c H locs cells slots Q (F0 m tgt ls rest)) (kf : a < b → W p l e R s m args below meth c H locs cells slots Q (F0 m (pc + 3) ls rest)) : W p l e R s m args below meth c H locs cells slots Q (F0 m pc ls (.int (nI b) :: .int (nI a) :: rest)) :=
  lv_icmp_ge hx hb hd ht (fun h => kt ((nI_leI h2 h1).mp h)) (fun h => kf (Nat.lt_of_not_le fun q => h ((nI_leI h2 h1).mpr q)))
theorem z_icmp_gt (hx : p.tables.exec = Jvm.exec) (hb : c.code = cc) {a b : Nat} {off : Int} {tgt : Nat} (hd : decode cc pc = .ok (.if_icmp .gt off, 3)) (ht : (pc : Int) + off = (tgt : Int)) (h1 : a < 2 ^ 31) (h2 : b < 2 ^ 31) (kt : b < a → W p l e R s m args below meth c H locs cells slots Q (F0 m tgt ls rest)) (kf : a ≤ b → W p l e R s m args below meth c H locs cells slots Q (F0 m (pc + 3) ls rest)) : W p l e R s m args below meth c H locs cells slots Q (F0 m pc ls (.int (nI b) :: .int (nI a) :: rest)) :=
  lv_icmp_gt hx hb hd ht (fun h => kt ((nI_ltI h2 h1).mp h)) (fun h => kf (Nat.le_of_not_lt fun q => h ((nI_ltI h2 h1).mpr q)))
theorem z_icmp_le (hx : p.tables.exec = Jvm.exec) (hb : c.code = cc) {a b : Nat} {off : Int} {tgt : Nat} (hd : decode cc pc = .ok (.if_icmp .le off, 3)) (ht : (pc : Int) + off = (tgt : Int)) (h1 : a < 2 ^ 31) (h2 : b < 2 ^ 31) (kt : a ≤ b → W p l e R s m args below meth c H locs cells slots Q (F0 m tgt ls rest)) (kf : b < a → W p l e R s m args below meth c H locs cells slots Q (F0 m (pc + 3) ls rest)) : W p l e R s m args below meth c H locs cells slots Q (F0 m pc ls (.int (nI b) :: .int (nI a) :: rest)) :=
  lv_icmp_le hx hb hd ht (fun h => kt ((nI_leI h1 h2).mp h)) (fun h => kf (Nat.lt_of_not_le fun q => h ((nI_leI h1 h2).mpr q)))
theorem z_if_eq (hx : p.tables.exec = Jvm.exec) (hb : c.code = cc) {a : Nat} {off : Int} {tgt : Nat} (hd : decode cc pc = .ok (.ifCond .eq off, 3)) (ht : (pc : Int) + off = (tgt : Int)) (h1 : a < 2 ^ 31) (kt : a = 0 → W p l e R s m args below meth c H locs cells slots Q (F0 m tgt ls rest)) (kf : a ≠ 0 → W p l e R s m args below meth c H locs cells slots Q (F0 m (pc + 3) ls rest)) : W p l e R s m args below meth c H locs cells slots Q (F0 m pc ls (.int (nI a) :: rest)) :=
  lv_if_eq hx hb hd ht (fun h => kt ((nI_eq h1 (by decide)).mp (h.trans nI_0.symm))) (fun h => kf fun q => h (by rw [q]; exact nI_0))
theorem z_if_ne (hx : p.tables.exec = Jvm.exec) (hb : c.code = cc) {a : Nat} {off : Int} {tgt : Nat} (hd : decode cc pc = .ok (.ifCond .ne off, 3)) (ht : (pc : Int) + off = (tgt : Int)) (h1 : a < 2 ^ 31) (kt : a ≠ 0 → W p l e R s m args below meth c H locs cells slots Q (F0 m tgt ls rest)) (kf : a = 0 → W p l e R s m args below meth c H locs cells slots Q (F0 m (pc + 3) ls rest)) : W p l e R s m args below meth c H locs cells slots Q (F0 m pc ls (.int (nI a) :: rest)) :=
  lv_if_ne hx hb hd ht (fun h => kt fun q => h (by rw [q]; exact nI_0)) (fun h => kf ((nI_eq h1 (by decide)).mp (h.trans nI_0.symm)))
theorem z_if_gt (hx : p.tables.exec = Jvm.exec) (hb : c.code = cc) {a : Nat} {off : Int} {tgt : Nat} (hd : decode cc pc = .ok (.ifCond .gt off, 3)) (ht : (pc : Int) + off = (tgt : Int)) (h1 : a < 2 ^ 31) (kt : 0 < a → W p l e R s m args below meth c H locs cells slots Q (F0 m tgt ls rest)) (kf : a = 0 → W p l e R s m args below meth c H locs cells slots Q (F0 m (pc + 3) ls rest)) : W p l e R s m args below meth c H locs cells slots Q (F0 m pc ls (.int (nI a) :: rest)) :=
  lv_if_gt hx hb hd ht (fun h => kt ((nI_ltI (by decide) h1).mp (by rw [nI_0]; exact h))) (fun h => kf (Nat.eq_zero_of_not_pos fun q => h (by rw [← nI_0]; exact (nI_ltI (by decide) h1).mpr q)))
theorem z_if_le (hx : p.tables.exec = Jvm.exec) (hb : c.code = cc) {a : Nat} {off : Int} {tgt : Nat} (hd : decode cc pc = .ok (.ifCond .le off, 3)) (ht : (pc : Int) + off = (tgt : Int)) (h1 : a < 2 ^ 31) (kt : a = 0 → W p l e R s m args below meth c H locs cells slots Q (F0 m tgt ls rest)) (kf : 0 < a → W p l e R s m args below meth c H locs cells slots Q (F0 m (pc + 3) ls rest)) : W p l e R s m args below meth c H locs cells slots Q (F0 m pc ls (.int (nI a) :: rest)) :=
  lv_if_le hx hb hd ht (fun h => kt (Nat.le_zero.mp ((nI_leI h1 (by decide)).mp (by rw [nI_0]; exact h)))) (fun h => kf (Nat.pos_of_ne_zero fun q => h (by rw [q, nI_0]; decide)))
theorem z_if_ge (hx : p.tables.exec = Jvm.exec) (hb : c.code = cc) {a : Nat} {off : Int} {tgt : Nat} (hd : decode cc pc = .ok (.ifCond .ge off, 3)) (ht : (pc : Int) + off = (tgt : Int)) (h1 : a < 2 ^ 31) (kt : W p l e R s m args below meth c H locs cells slots Q (F0 m tgt ls rest)) : W p l e R s m args below meth c H locs cells slots Q (F0 m pc ls (.int (nI a) :: rest)) :=
  lv_if_ge hx hb hd ht (fun _ => kt) (fun h => absurd (nI_pos' h1) h)
theorem z_if_lt (hx : p.tables.exec = Jvm.exec) (hb : c.code = cc) {a : Nat} {off : Int} {tgt : Nat} (hd : decode cc pc = .ok (.ifCond .lt off, 3)) (ht : (pc : Int) + off = (tgt : Int)) (h1 : a < 2 ^ 31) (kf : W p l e R s m args below meth c H locs cells slots Q (F0 m (pc + 3) ls rest)) : W p l e R s m args below meth c H locs cells slots Q (F0 m pc ls (.int (nI a) :: rest)) :=
  lv_if_lt hx hb hd ht (fun h => absurd h (nI_pos h1)) (fun _ => kf)
theorem z_iinc (hx : p.tables.exec = Jvm.exec) (hb : c.code = cc) {i nL k : Nat} {n : Int} {a d : Nat} {lv lv' : List (Nat × Value)} (hd : decode cc pc = .ok (.iinc i n, 3)) (h : lv_has ls nL lv) (hk : lv[k]? = some (i, .int (nI a))) (hv : Int32.ofInt n = nI d) (hn : i < nL) (hl : (i, Value.int (nI (a + d))) :: lv.filter (fun q => !(q.1 == i) && !(q.1 + 1 == i && q.2.category == 2)) = lv')
    (kk : ∀ ls' : Array Slot, lv_has ls' nL lv' → W p l e R s m args below meth c H locs cells slots Q (F0 m (pc + 3) ls' rest)) : W p l e R s m args below meth c H locs cells slots Q (F0 m pc ls rest) :=
  lv_iinc hx hb hd h hk (by rw [hv, nI_add]) hn hl kk
theorem z_iincW (hx : p.tables.exec = Jvm.exec) (hb : c.code = cc) {i nL k : Nat} {n : Int} {a d : Nat} {lv lv' : List (Nat × Value)} (hd : decode cc pc = .ok (.iinc i n, 6)) (h : lv_has ls nL lv) (hk : lv[k]? = some (i, .int (nI a))) (hv : nI a + Int32.ofInt n = nI d) (hn : i < nL) (hl : (i, Value.int (nI d)) :: lv.filter (fun q => !(q.1 == i) && !(q.1 + 1 == i && q.2.category == 2)) = lv')
    (kk : ∀ ls' : Array Slot, lv_has ls' nL lv' → W p l e R s m args below meth c H locs cells slots Q (F0 m (pc + 6) ls' rest)) : W p l e R s m args below meth c H locs cells slots Q (F0 m pc ls rest) :=
  lv_iincW hx hb hd h hk hv hn hl kk
end ZR
end
section
/-! OUR ROWS, second: arrays, fields, answers, calls -/
set_option maxRecDepth 100000
theorem z_nb (x : Int32) : vp_nar .byte x = x.toInt8.toInt32 := vp_nar_byte x
theorem z_n16 {v : Nat} (h : v < 32768) : (nI v).toInt16.toInt32 = nI v := by
  apply Int32.toInt_inj.mp
  rw [Int16.toInt_toInt32, Int32.toInt_toInt16, nI_toInt (by omega)]
  simp only [Int.bmod]
  omega
theorem z_upB (t : Nat → Int8) (i : Nat) (x : Int32) : upd (fun j => (t j).toInt32) i (vp_nar .byte x) = fun j => (va_up t i x.toInt8 j).toInt32 := by
  funext j
  rw [z_nb]
  by_cases h : j = i
  · rw [h, pk_us, va_up_self]
  · rw [pk_un h, va_up_ne _ _ h]
theorem z_upH (t : Nat → Nat) (i : Nat) {v : Nat} (hv : v < 32768) : upd (fun j => nI (t j)) i (vp_nar .short (nI v)) = fun j => nI (va_up t i v j) := by
  funext j
  rw [vp_nar_short, z_n16 hv]
  by_cases h : j = i
  · rw [h, pk_us, va_up_self]
  · rw [pk_un h, va_up_ne _ _ h]
section ZA
variable {p : Program} {l : Launch} {e : Env} {R : Room} {s : State} {m : MethodId} {args : Array Value} {below : List Frame} {meth : Method} {c : Code} {H : Heap} {locs : List Loc} {cells slots : Nat} {Q : State → Prop}
variable {cc : ByteArray} {pc : Nat} {ls : Array Slot} {rest : List Value} {y : MethodName} {L : Nat} {ret : Option FieldType} {G : z_G} {A : Nat → Prop} {ws : va_W} {a : Nat}
theorem z_X.x (X : z_X p s m args meth c y cc L ret G A) : p.tables.exec = Jvm.exec := X.1.1
theorem z_X.b (X : z_X p s m args meth c y cc L ret G A) : c.code = cc := X.1.2.1
theorem z_X.K (X : z_X p s m args meth c y cc L ret G A) : va_K G.1 z_cl (z_ty G) s := X.2.2.2.2.1
theorem z_X.w (X : z_X p s m args meth c y cc L ret G A) {w : Cond} (h : w ∈ lw_all) : w.before args s = true := X.1.2.2.2.2 w h
theorem z_X.own (X : z_X p s m args meth c y cc L ret G A) : s.vm.findClass y.cls = some m.cls := X.1.2.2.2.1
theorem z_X.hA (X : z_X p s m args meth c y cc L ret G A) : ∀ q, s.heap.size ≤ q → A q := X.2.2.2.2.2
theorem z_bald (X : z_X p s m args meth c y cc L ret G A) (hS : z_S G ws A s H locs) (q0 : Nat) {n : Nat} {t : Nat → Int8} (ha : ws[q0]? = some (a, z_B G n t)) {i : Nat} (hin : i < n) (hn : n < 2 ^ 31) (hd : decode cc pc = .ok (.baload, 1))
    (k : W p l e R s m args below meth c H locs cells slots Q (F0 m (pc + 1) ls (.int (t i).toInt32 :: rest))) : W p l e R s m args below meth c H locs cells slots Q (F0 m pc ls (.int (nI i) :: .ref a :: rest)) :=
  va_bald X.x X.b X.K hS.1 q0 0 ha rfl (vp_in_nI hin hn) hd (by rw [nI_clamp (Nat.lt_trans hin hn)]; exact k)
theorem z_sald (X : z_X p s m args meth c y cc L ret G A) (hS : z_S G ws A s H locs) (q0 : Nat) {n : Nat} {t : Nat → Nat} (ha : ws[q0]? = some (a, z_H G n t)) {i : Nat} (hin : i < n) (hn : n < 2 ^ 31) (hd : decode cc pc = .ok (.saload, 1))
    (k : W p l e R s m args below meth c H locs cells slots Q (F0 m (pc + 1) ls (.int (nI (t i)) :: rest))) : W p l e R s m args below meth c H locs cells slots Q (F0 m pc ls (.int (nI i) :: .ref a :: rest)) :=
  va_sald X.x X.b X.K hS.1 q0 1 ha rfl (vp_in_nI hin hn) hd (by rw [nI_clamp (Nat.lt_trans hin hn)]; exact k)
theorem z_iald (X : z_X p s m args meth c y cc L ret G A) (hS : z_S G ws A s H locs) (q0 : Nat) {n : Nat} {t : Nat → Int32} (ha : ws[q0]? = some (a, z_I G n t)) {i : Nat} (hin : i < n) (hn : n < 2 ^ 31) (hd : decode cc pc = .ok (.iaload, 1))
    (k : W p l e R s m args below meth c H locs cells slots Q (F0 m (pc + 1) ls (.int (t i) :: rest))) : W p l e R s m args below meth c H locs cells slots Q (F0 m pc ls (.int (nI i) :: .ref a :: rest)) :=
  va_iald X.x X.b X.K hS.1 q0 2 ha rfl (vp_in_nI hin hn) hd (by rw [nI_clamp (Nat.lt_trans hin hn)]; exact k)
theorem z_bast (X : z_X p s m args meth c y cc L ret G A) (hS : z_S G ws A s H locs) (q0 : Nat) {n : Nat} {t : Nat → Int8} (ha : ws[q0]? = some (a, z_B G n t)) {i : Nat} {x : Int32} (hin : i < n) (hn : n < 2 ^ 31) {ws' : va_W} (hw : ws.set q0 (a, z_B G n (va_up t i x.toInt8)) = ws') (hd : decode cc pc = .ok (.bastore, 1))
    (k : ∀ (H1 : Heap) (locs1 : List Loc), z_S G ws' A s H1 locs1 → W p l e R s m args below meth c H1 locs1 cells slots Q (F0 m (pc + 1) ls rest)) : W p l e R s m args below meth c H locs cells slots Q (F0 m pc ls (.int x :: .int (nI i) :: .ref a :: rest)) := by
  refine va_bast X.x X.b X.K hS.1 hS.2.1 hS.2.2 q0 0 ha rfl (vp_in_nI hin hn) hd (fun H1 locs1 hP hD hS1 => ?_)
  rw [nI_clamp (Nat.lt_trans hin hn), z_upB] at hP hD
  subst hw
  exact k H1 locs1 ⟨hP, hD, hS1⟩
theorem z_sast (X : z_X p s m args meth c y cc L ret G A) (hS : z_S G ws A s H locs) (q0 : Nat) {n : Nat} {t : Nat → Nat} (ha : ws[q0]? = some (a, z_H G n t)) {i v : Nat} (hin : i < n) (hn : n < 2 ^ 31) (hv : v < 32768) {ws' : va_W} (hw : ws.set q0 (a, z_H G n (va_up t i v)) = ws') (hd : decode cc pc = .ok (.sastore, 1))
    (k : ∀ (H1 : Heap) (locs1 : List Loc), z_S G ws' A s H1 locs1 → W p l e R s m args below meth c H1 locs1 cells slots Q (F0 m (pc + 1) ls rest)) : W p l e R s m args below meth c H locs cells slots Q (F0 m pc ls (.int (nI v) :: .int (nI i) :: .ref a :: rest)) := by
  refine va_sast X.x X.b X.K hS.1 hS.2.1 hS.2.2 q0 1 ha rfl (vp_in_nI hin hn) hd (fun H1 locs1 hP hD hS1 => ?_)
  rw [nI_clamp (Nat.lt_trans hin hn), z_upH _ _ hv] at hP hD
  subst hw
  exact k H1 locs1 ⟨hP, hD, hS1⟩
theorem z_iast (X : z_X p s m args meth c y cc L ret G A) (hS : z_S G ws A s H locs) (q0 : Nat) {n : Nat} {t : Nat → Int32} (ha : ws[q0]? = some (a, z_I G n t)) {i : Nat} {x : Int32} (hin : i < n) (hn : n < 2 ^ 31) {ws' : va_W} (hw : ws.set q0 (a, z_I G n (upd t i x)) = ws') (hd : decode cc pc = .ok (.iastore, 1))
    (k : ∀ (H1 : Heap) (locs1 : List Loc), z_S G ws' A s H1 locs1 → W p l e R s m args below meth c H1 locs1 cells slots Q (F0 m (pc + 1) ls rest)) : W p l e R s m args below meth c H locs cells slots Q (F0 m pc ls (.int x :: .int (nI i) :: .ref a :: rest)) := by
  refine va_iast X.x X.b X.K hS.1 hS.2.1 hS.2.2 q0 2 ha rfl (vp_in_nI hin hn) hd (fun H1 locs1 hP hD hS1 => ?_)
  rw [nI_clamp (Nat.lt_trans hin hn)] at hP hD
  subst hw
  exact k H1 locs1 ⟨hP, hD, hS1⟩
theorem z_balen (X : z_X p s m args meth c y cc L ret G A) (hS : z_S G ws A s H locs) (q0 : Nat) {n : Nat} {t : Nat → Int8} (ha : ws[q0]? = some (a, z_B G n t)) (hd : decode cc pc = .ok (.arraylength, 1))
    (k : W p l e R s m args below meth c H locs cells slots Q (F0 m (pc + 1) ls (.int (nI n) :: rest))) : W p l e R s m args below meth c H locs cells slots Q (F0 m pc ls (.ref a :: rest)) :=
  va_alen X.x X.b X.K hS.1 q0 0 ha rfl rfl hd k
theorem z_get (X : z_X p s m args meth c y cc L ret G A) (hy : y.cls = RX1) (hS : z_S G ws A s H locs) (q0 : Nat) {fs : List Value} (he : ws[q0]? = some (a, .inr (0, fs))) (k : Nat) (hk : k < 8) {index : Nat} (hr : (TX1 k).1 = RX1) (hq : Cond.fieldLink RX1 index RX1 (TX1 k).2.1 (TX1 k).2.2.1 ∈ lw_all) {v : Value} (hv : fs[k]? = some v) (hd : decode cc pc = .ok (.getfield index, 3))
    (kk : W p l e R s m args below meth c H locs cells slots Q (F0 m (pc + 3) ls (v :: rest))) : W p l e R s m args below meth c H locs cells slots Q (F0 m pc ls (.ref a :: rest)) :=
  va_get (D := G.1) (ci := 0) (C := RX1) (T := TX1) (N := 8) (own := RX1) (ref := RX1) X.x X.b X.1.2.2.2.2 in_X1 (by rw [← hy]; exact X.own) X.K hS.1 q0 he rfl k hk (X.w hq) (fun x h => by rw [hr] at h; exact h) hv hd kk
theorem z_put (X : z_X p s m args meth c y cc L ret G A) (hy : y.cls = RX1) (hS : z_S G ws A s H locs) (q0 : Nat) {fs : List Value} (he : ws[q0]? = some (a, .inr (0, fs))) (k : Nat) (hk : k < 8) {index : Nat} (hr : (TX1 k).1 = RX1) (hq : Cond.fieldLink RX1 index RX1 (TX1 k).2.1 (TX1 k).2.2.1 ∈ lw_all) (hfin : (TX1 k).2.2.2 = false) (hdsc : parseFieldDescriptor (TX1 k).2.2.1 = some .int) {v : Int32} (hlen : k < fs.length) {ws' : va_W} (hw : ws.set q0 (a, .inr (0, fs.set k (.int v))) = ws') (hd : decode cc pc = .ok (.putfield index, 3))
    (kk : ∀ (H1 : Heap) (locs1 : List Loc), z_S G ws' A s H1 locs1 → W p l e R s m args below meth c H1 locs1 cells slots Q (F0 m (pc + 3) ls rest)) : W p l e R s m args below meth c H locs cells slots Q (F0 m pc ls (.int v :: .ref a :: rest)) := by
  refine va_put (D := G.1) (ci := 0) (C := RX1) (T := TX1) (N := 8) (own := RX1) (ref := RX1) (ty := .int) X.x X.b X.1.2.2.2.2 in_X1 tyX1 tyX1_ok nmX1 (by rw [← hy]; exact X.own) X.K hS.1 hS.2.1 hS.2.2 q0 he rfl k hk (X.w hq) (fun x h => by rw [hr] at h; exact h) hfin hdsc rfl rfl hlen hd (fun H1 locs1 hP hD hS1 => ?_)
  subst hw
  exact kk H1 locs1 ⟨hP, hD, hS1⟩
theorem z_putF (X : z_X p s m args meth c y cc L ret G A) (hy : y.cls = RX1) (hS : z_S G ws A s H locs) (q0 : Nat) {fs : List Value} (he : ws[q0]? = some (a, .inr (0, fs))) (k : Nat) (hk : k < 8) {index : Nat} (hr : (TX1 k).1 = RX1) (hq : Cond.fieldLink RX1 index RX1 (TX1 k).2.1 (TX1 k).2.2.1 ∈ lw_all) (hfin : (TX1 k).2.2.2 = true) (hin : y.name = "<init>") {ty : FieldType} {v : Value} (hdsc : parseFieldDescriptor (TX1 k).2.2.1 = some ty) (hn : narrow ty v = v) (hfit : fits ty v = true) (hlen : k < fs.length) {ws' : va_W} (hw : ws.set q0 (a, .inr (0, fs.set k v)) = ws') (hd : decode cc pc = .ok (.putfield index, 3))
    (kk : ∀ (H1 : Heap) (locs1 : List Loc), z_S G ws' A s H1 locs1 → W p l e R s m args below meth c H1 locs1 cells slots Q (F0 m (pc + 3) ls rest)) : W p l e R s m args below meth c H locs cells slots Q (F0 m pc ls (v :: .ref a :: rest)) := by
  refine va_putF (D := G.1) (ci := 0) (C := RX1) (T := TX1) (N := 8) (own := RX1) (ref := RX1) (ty := ty) X.x X.b X.1.2.2.2.2 in_X1 tyX1 tyX1_ok nmX1 (by rw [← hy]; exact X.own) X.K hS.1 hS.2.1 hS.2.2 q0 he rfl k hk (X.w hq) (fun x h => by rw [hr] at h; exact h) hfin (X.2.2.2.1.trans hin) hr hdsc hn hfit hlen hd (fun H1 locs1 hP hD hS1 => ?_)
  subst hw
  exact kk H1 locs1 ⟨hP, hD, hS1⟩
theorem z_ldc (X : z_X p s m args meth c y cc L ret G A) {own : String} (hy : y.cls = own) {index : Nat} {v : Int32} (hq : Cond.constant own index v ∈ lw_all) (hd : decode cc pc = .ok (.ldc index, 2)) (k : W p l e R s m args below meth c H locs cells slots Q (F0 m (pc + 2) ls (.int v :: rest))) : W p l e R s m args below meth c H locs cells slots Q (F0 m pc ls rest) :=
  lv_ldc X.x X.b (own := own) (by rw [← hy]; exact X.own) (X.w hq) hd k
theorem z_ldc2 (X : z_X p s m args meth c y cc L ret G A) {own : String} (hy : y.cls = own) {index : Nat} {v : Int64} (hq : Cond.constantLong own index v ∈ lw_all) (hd : decode cc pc = .ok (.ldc2_w index, 3)) (k : W p l e R s m args below meth c H locs cells slots Q (F0 m (pc + 3) ls (.long v :: rest))) : W p l e R s m args below meth c H locs cells slots Q (F0 m pc ls rest) :=
  lv_ldc2 X.x X.b (own := own) (by rw [← hy]; exact X.own) (X.w hq) hd k
/-- the one class of an array class -/
theorem z_cls {U : State} {c1 c2 : ClassId} {ty : FieldType} (h1 : U.vm.findClass ("[" ++ ty.toString) = some c1) (h2 : U.vm.findClass ("[" ++ ty.toString) = some c2) : c1 = c2 := Option.some.inj (h1.symm.trans h2)
theorem z_newb (X : z_X p s m args meth c y cc L ret G A) (hq : Cond.arrayClass .byte ∈ lw_all) (hS : z_S G ws A s H locs) {n : Nat} (hn : n < 2 ^ 29) (hc : cells + 1 ≤ R.cells) (hs : slots + n ≤ R.slots) (hd : decode cc pc = .ok (.newarray .byte, 2))
    (k : ∀ (q : Nat) (H1 : Heap), z_S G (ws ++ [(q, z_B G n (fun _ => 0))]) A s H1 locs → W p l e R s m args below meth c H1 locs (cells + 1) (slots + n) Q (F0 m (pc + 2) ls (.ref q :: rest))) : W p l e R s m args below meth c H locs cells slots Q (F0 m pc ls (.int (nI n) :: rest)) := by
  have hl : n < 2 ^ 31 := by omega
  refine va_newa (atype := .byte) (ty := .byte) (a0 := (n, .inl (fun _ => 0))) X.x X.b (X.w hq) rfl X.K hS.1 hS.2.1 hS.2.2 X.hA (fun _ => rfl) (nI_pos hl) (nI_clamp hl) (by show n * 1 ≤ _; omega) hc hs hd (fun q cA H1 hK hP hD hS1 => ?_)
  have e : cA = G.2.1 := z_cls (U := s) (ty := .byte) (hK.2 3 (cA, .byte) rfl).2 (hK.2 0 (G.2.1, .byte) rfl).2
  subst e
  exact k q H1 ⟨hP, hD, hS1⟩
theorem z_newh (X : z_X p s m args meth c y cc L ret G A) (hq : Cond.arrayClass .short ∈ lw_all) (hS : z_S G ws A s H locs) {n : Nat} (hn : n < 2 ^ 28) (hc : cells + 1 ≤ R.cells) (hs : slots + n ≤ R.slots) (hd : decode cc pc = .ok (.newarray .short, 2))
    (k : ∀ (q : Nat) (H1 : Heap), z_S G (ws ++ [(q, z_H G n (fun _ => 0))]) A s H1 locs → W p l e R s m args below meth c H1 locs (cells + 1) (slots + n) Q (F0 m (pc + 2) ls (.ref q :: rest))) : W p l e R s m args below meth c H locs cells slots Q (F0 m pc ls (.int (nI n) :: rest)) := by
  have hl : n < 2 ^ 31 := by omega
  refine va_newa (atype := .short) (ty := .short) (a0 := (n, .inl (fun _ => nI 0))) X.x X.b (X.w hq) rfl X.K hS.1 hS.2.1 hS.2.2 X.hA (fun _ => rfl) (nI_pos hl) (nI_clamp hl) (by show n * 2 ≤ _; omega) hc hs hd (fun q cA H1 hK hP hD hS1 => ?_)
  have e : cA = G.2.2.1 := z_cls (U := s) (ty := .short) (hK.2 3 (cA, .short) rfl).2 (hK.2 1 (G.2.2.1, .short) rfl).2
  subst e
  exact k q H1 ⟨hP, hD, hS1⟩
theorem z_newi (X : z_X p s m args meth c y cc L ret G A) (hq : Cond.arrayClass .int ∈ lw_all) (hS : z_S G ws A s H locs) {n : Nat} (hn : n < 2 ^ 27) (hc : cells + 1 ≤ R.cells) (hs : slots + n ≤ R.slots) (hd : decode cc pc = .ok (.newarray .int, 2))
    (k : ∀ (q : Nat) (H1 : Heap), z_S G (ws ++ [(q, z_I G n (fun _ => 0))]) A s H1 locs → W p l e R s m args below meth c H1 locs (cells + 1) (slots + n) Q (F0 m (pc + 2) ls (.ref q :: rest))) : W p l e R s m args below meth c H locs cells slots Q (F0 m pc ls (.int (nI n) :: rest)) := by
  have hl : n < 2 ^ 31 := by omega
  refine va_newa (atype := .int) (ty := .int) (a0 := (n, .inl (fun _ => 0))) X.x X.b (X.w hq) rfl X.K hS.1 hS.2.1 hS.2.2 X.hA (fun _ => rfl) (nI_pos hl) (nI_clamp hl) (by show n * 4 ≤ _; omega) hc hs hd (fun q cA H1 hK hP hD hS1 => ?_)
  have e : cA = G.2.2.2 := z_cls (U := s) (ty := .int) (hK.2 3 (cA, .int) rfl).2 (hK.2 2 (G.2.2.2, .int) rfl).2
  subst e
  exact k q H1 ⟨hP, hD, hS1⟩
end ZA
section ZE
variable {p : Program} {l : Launch} {e : Env} {R : Room} {s : State} {m : MethodId} {As : List Value} {below : List Frame} {meth : Method} {c : Code} {H : Heap} {locs : List Loc} {cells slots : Nat}
variable {cc : ByteArray} {pc : Nat} {ls : Array Slot} {y : MethodName} {L : Nat} {G : z_G} {A : Nat → Prop} {ws : va_W} {S : Type}
theorem z_iret {ty : FieldType} {post : Int32 → S → Prop} {w1 : S → va_W} {v : Int32} (X : z_X p s m As.toArray meth c y cc L (some ty) G A) (hS : z_S G ws A s H locs) (u : S) (hn : narrow ty (.int v) = .int v) (hp : post v u) (is : List Nat) (hnd : va_nd is = true) (hs : is.map (fun i => ws[i]?) = (w1 u).map some) (hd : decode cc pc = .ok (.ireturn, 1)) :
    W p l e R s m As.toArray below meth c H locs cells slots (z_Zi below G As s cells slots post w1 A) (F0 m pc ls [.int v]) := by
  have hS' := hS.sub is hnd hs
  exact W.zret X.x X.b X.2.1 hn (fun t ht hW => ⟨⟨v, u, rfl, hp, by rw [ht]; exact hS'.1, hS'.2.1⟩, hS.2.2.F ht⟩) hS.2.2.2.2 hd X.2.2.1
theorem z_vret {post : S → Prop} {w1 : S → va_W} (X : z_X p s m As.toArray meth c y cc L none G A) (hS : z_S G ws A s H locs) (u : S) (hp : post u) (is : List Nat) (hnd : va_nd is = true) (hs : is.map (fun i => ws[i]?) = (w1 u).map some) (hd : decode cc pc = .ok (.return_, 1)) :
    W p l e R s m As.toArray below meth c H locs cells slots (z_Zv below G As s cells slots post w1 A) (F0 m pc ls []) := by
  have hS' := hS.sub is hnd hs
  exact W.vret X.x X.b X.2.1 (fun t ht hW => ⟨⟨u, rfl, hp, by rw [ht]; exact hS'.1, hS'.2.1⟩, hS.2.2.F ht⟩) hS.2.2.2.2 hd X.2.2.1
theorem z_aret {C : String} {post : S → Prop} {w1 : S → Nat → va_W} {a : Nat} (X : z_X p s m As.toArray meth c y cc L (some (.object C)) G A) (hS : z_S G ws A s H locs) (u : S) (hp : post u) (is : List Nat) (hnd : va_nd is = true) (hs : is.map (fun i => ws[i]?) = (w1 u a).map some) (hd : decode cc pc = .ok (.areturn, 1)) :
    W p l e R s m As.toArray below meth c H locs cells slots (z_Zr below G As s cells slots post w1 A) (F0 m pc ls [.ref a]) := by
  have hS' := hS.sub is hnd hs
  exact W.aret X.x X.b X.2.1 (Or.inl ⟨_, rfl⟩) (Or.inr ⟨_, rfl⟩) (fun t ht hW => ⟨⟨u, a, rfl, hp, by rw [ht]; exact hS'.1, hS'.2.1⟩, hS.2.2.F ht⟩) hS.2.2.2.2 hd X.2.2.1
end ZE
section ZC
variable {p : Program} {l : Launch} {e : Env} {R : Room} {s : State} {m : MethodId} {args : Array Value} {below : List Frame} {meth : Method} {c : Code} {H : Heap} {locs : List Loc} {cells slots : Nat} {Q : State → Prop}
variable {cc : ByteArray} {pc : Nat} {ls : Array Slot} {rest st : List Value} {y y1 : MethodName} {L : Nat} {ret : Option FieldType} {G : z_G} {A : Nat → Prop} {ws wc wr : va_W} {a : Nat}
variable {E : (Nat → Prop) → State → Prop} {As : List Value} {S : Type} {bytes : ByteArray} {L1 mc ms index : Nat} {ty : FieldType} {rm : Room} {own : String}
/-- what a call's place in the caller's world says -/
def z_At (ws wc wr : va_W) (isC isR : List Nat) : Prop := isC.map (fun i => ws[i]?) = wc.map some ∧ isR.map (fun i => ws[i]?) = wr.map some ∧ va_nd isC = true ∧ va_nd isR = true ∧ ∀ i ∈ isR, i ∉ isC
theorem z_pre (X : z_X p s m args meth c y cc L ret G A) (hEk : z_Eok E) (hE : E A s) (hS : z_S G ws A s H locs) {isC isR : List Nat} (hat : z_At ws wc wr isC isR) : PreS s H (z_Pc G E As wc H.size) As := by
  have hS' := hS.sub isC hat.2.2.1 hat.1
  have hF := va_free hS.2.1 hS.2.2 X.hA isC hat.1
  refine ⟨fun a U g mk h => ?_, fun U hU hW => ⟨rfl, by rw [hU], by rw [hU]; exact hS'.1, va_K.moved hW.alike X.K, hS'.2.1.weaken (fun _ _ _ _ => trivial), ?_⟩⟩
  · obtain ⟨q0, q1, qP, qK, qD, qE⟩ := h
    exact ⟨q0, q1, qP, va_K.moved (u := U) (U := U.calling g mk a) (Vm.Alike.refl U.vm) qK, qD, hEk _ _ U (U.calling g mk a) qE (Vm.Alike.refl U.vm) (Nat.le_refl _) (fun _ _ _ => rfl) (fun _ h => h)⟩
  · exact hEk A _ s U hE hW.alike (by rw [hU]; exact hS.2.2.1) (fun q h1 h2 => by rw [hU]; exact hS.2.2.2.1 q h1 h2) hF
theorem z_preV (X : z_X p s m args meth c y cc L ret G A) (hEk : z_Eok E) (hE : E A s) (hS : z_S G ws A s H locs) {isC isR : List Nat} {b ci q0 : Nat} {q : vw_C} {fs : List Value} (hc : z_cl[ci]? = some q) (he : ws[q0]? = some (b, .inr (ci, fs))) {C : String} (hC : q.1 = C) (hat : z_At ws wc wr isC isR) : PreV s H C b (z_Pc G E (.ref b :: As) wc H.size) As := by
  obtain ⟨h1, h2⟩ := z_pre (As := .ref b :: As) X hEk hE hS hat
  subst hC
  exact ⟨h1, va_recv X.K hS.1 hc he, h2⟩
theorem z_endi {post : Int32 → S → Prop} {w1 : S → va_W} {av : Array Value} (X : z_X p s m args meth c y cc L ret G A) (hS : z_S G ws A s H locs) {isC isR : List Nat} (hat : z_At ws wc wr isC isR)
    (hr : va_Run p l e R s m args below meth c H locs cells slots mc ms (F0 m pc ls st) rest (va_Qi post (z_Bk G w1 (va_A wc H.size)) (va_A wc H.size) av) (va_A wc H.size))
    (kk : ∀ (r : Int32) (u : S) (H1 : Heap) (locs1 : List Loc), post r u → z_S G (wr ++ w1 u) A s H1 locs1 → W p l e R s m args below meth c H1 locs1 (cells + mc) (slots + ms) Q (F0 m (pc + 3) ls (.int r :: rest))) : W p l e R s m args below meth c H locs cells slots Q (F0 m pc ls st) := by
  have hF := va_free hS.2.1 hS.2.2 X.hA isC hat.1
  refine va_calli hr hS.2.2 (fun q _ h => hF q h) hF (fun r u t H1 locs1 ht hvm hp hB hz1 hk1 hS1 => ?_)
  obtain ⟨hP1, hD1⟩ := hB
  rw [ht] at hP1
  obtain ⟨hP, hD⟩ := va_join hS.1 hS.2.1 isC isR hat.1 hat.2.1 hat.2.2.2.1 hat.2.2.2.2 hk1 hF hP1 hD1
  exact kk r u H1 locs1 hp ⟨hP, hD, hS1⟩
theorem z_endv {post : S → Prop} {w1 : S → va_W} {av : Array Value} (X : z_X p s m args meth c y cc L ret G A) (hS : z_S G ws A s H locs) {isC isR : List Nat} (hat : z_At ws wc wr isC isR)
    (hr : va_Run p l e R s m args below meth c H locs cells slots mc ms (F0 m pc ls st) rest (va_Qv post (z_Bk G w1 (va_A wc H.size)) (va_A wc H.size) av) (va_A wc H.size))
    (kk : ∀ (u : S) (H1 : Heap) (locs1 : List Loc), post u → z_S G (wr ++ w1 u) A s H1 locs1 → W p l e R s m args below meth c H1 locs1 (cells + mc) (slots + ms) Q (F0 m (pc + 3) ls rest)) : W p l e R s m args below meth c H locs cells slots Q (F0 m pc ls st) := by
  have hF := va_free hS.2.1 hS.2.2 X.hA isC hat.1
  refine va_callv hr hS.2.2 (fun q _ h => hF q h) hF (fun u t H1 locs1 ht hvm hp hB hz1 hk1 hS1 => ?_)
  obtain ⟨hP1, hD1⟩ := hB
  rw [ht] at hP1
  obtain ⟨hP, hD⟩ := va_join hS.1 hS.2.1 isC isR hat.1 hat.2.1 hat.2.2.2.1 hat.2.2.2.2 hk1 hF hP1 hD1
  exact kk u H1 locs1 hp ⟨hP, hD, hS1⟩
theorem z_endr {post : S → Prop} {w1 : S → Nat → va_W} {av : Array Value} (X : z_X p s m args meth c y cc L ret G A) (hS : z_S G ws A s H locs) {isC isR : List Nat} (hat : z_At ws wc wr isC isR)
    (hr : va_Run p l e R s m args below meth c H locs cells slots mc ms (F0 m pc ls st) rest (va_Qr post (z_Br G w1 (va_A wc H.size)) (va_A wc H.size) av) (va_A wc H.size))
    (kk : ∀ (u : S) (q : Nat) (H1 : Heap) (locs1 : List Loc), post u → z_S G (wr ++ w1 u q) A s H1 locs1 → W p l e R s m args below meth c H1 locs1 (cells + mc) (slots + ms) Q (F0 m (pc + 3) ls (.ref q :: rest))) : W p l e R s m args below meth c H locs cells slots Q (F0 m pc ls st) := by
  have hF := va_free hS.2.1 hS.2.2 X.hA isC hat.1
  refine va_callr hr hS.2.2 (fun q _ h => hF q h) hF (fun u q t H1 locs1 ht hvm hp hB hz1 hk1 hS1 => ?_)
  obtain ⟨hP1, hD1⟩ := hB
  rw [ht] at hP1
  obtain ⟨hP, hD⟩ := va_join hS.1 hS.2.1 isC isR hat.1 hat.2.1 hat.2.2.2.1 hat.2.2.2.2 hk1 hF hP1 hD1
  exact kk u q H1 locs1 hp ⟨hP, hD, hS1⟩
end ZC
end
section
/-! OUR ROWS, third: a call of each kind, whole -/
set_option maxRecDepth 100000
/-- what a callee's name says, once -/
abbrev z_Nm (y : MethodName) (n : Nat) : Prop := y.cls ≠ "java/lang/invoke/MethodHandle" ∧ y.cls ≠ "java/lang/invoke/VarHandle" ∧ (parseMethodDescriptor y.desc).map (fun d => d.parameters.length) = some n
section ZD
variable {p : Program} {l : Launch} {e : Env} {R : Room} {s : State} {m : MethodId} {args : Array Value} {below : List Frame} {meth : Method} {c : Code} {H : Heap} {locs : List Loc} {cells slots : Nat} {Q : State → Prop}
variable {cc : ByteArray} {pc : Nat} {ls : Array Slot} {rest st : List Value} {y y1 : MethodName} {L : Nat} {ret : Option FieldType} {G : z_G} {A : Nat → Prop} {ws wc wr : va_W} {a : Nat}
variable {E : (Nat → Prop) → State → Prop} {As : List Value} {S : Type} {bytes : ByteArray} {L1 mc ms index : Nat} {ty : FieldType} {rm : Room} {own : String}
theorem z_cSi {post : Int32 → S → Prop} {w1 : S → va_W} (X : z_X p s m args meth c y cc L ret G A) (hy : y.cls = own) (hEk : z_Eok E) (hE : E A s) (hS : z_S G ws A s H locs) (hM : z_Mi l y1 bytes L1 ty rm mc ms G E As wc post w1) (n : Nat)
    (q1 : Cond.methodLink own index y1 ∈ lw_all) (q2 : Cond.static y1 ∈ lw_all) (q3 : Cond.initialized y1.cls ∈ lw_all) (q4 : Cond.code y1 bytes L1 (some ty) ∈ lw_all) (hnm : z_Nm y1 n) (hrm : rm.cells = mc ∧ rm.slots = ms) (hR : rm.frames + 1 ≤ R.frames ∧ 8 + (L1 + 11) + rm.locals ≤ R.locals)
    (isC isR : List Nat) (hat : z_At ws wc wr isC isR) (hn : As.length = n) (hl : ls.size = L) (hst : st = As.reverse ++ rest) (hroom : (rest.map fun v => v.category).sum ≤ 8) (hf : cells + mc ≤ R.cells ∧ slots + ms ≤ R.slots) (hd : decode cc pc = .ok (.invokestatic index, 3))
    (kk : ∀ (r : Int32) (u : S) (H1 : Heap) (locs1 : List Loc), post r u → z_S G (wr ++ w1 u) A s H1 locs1 → W p l e R s m args below meth c H1 locs1 (cells + mc) (slots + ms) Q (F0 m (pc + 3) ls (.int r :: rest))) : W p l e R s m args below meth c H locs cells slots Q (F0 m pc ls st) := by
  subst hy
  exact z_endi X hS hat (va_runS X.1 (hM H.size) (va_cwS n X.1.2.2.2.2 (lw_S q1 q2 q3 q4) rfl hrm.1 hrm.2 hnm hR) (z_pre X hEk hE hS hat) rfl hn hl hst (lv_room hroom) hd hf) kk
theorem z_cSv {post : S → Prop} {w1 : S → va_W} (X : z_X p s m args meth c y cc L ret G A) (hy : y.cls = own) (hEk : z_Eok E) (hE : E A s) (hS : z_S G ws A s H locs) (hM : z_Mv l y1 bytes L1 rm mc ms G E As wc post w1) (n : Nat)
    (q1 : Cond.methodLink own index y1 ∈ lw_all) (q2 : Cond.static y1 ∈ lw_all) (q3 : Cond.initialized y1.cls ∈ lw_all) (q4 : Cond.code y1 bytes L1 none ∈ lw_all) (hnm : z_Nm y1 n) (hrm : rm.cells = mc ∧ rm.slots = ms) (hR : rm.frames + 1 ≤ R.frames ∧ 8 + (L1 + 11) + rm.locals ≤ R.locals)
    (isC isR : List Nat) (hat : z_At ws wc wr isC isR) (hn : As.length = n) (hl : ls.size = L) (hst : st = As.reverse ++ rest) (hroom : (rest.map fun v => v.category).sum ≤ 8) (hf : cells + mc ≤ R.cells ∧ slots + ms ≤ R.slots) (hd : decode cc pc = .ok (.invokestatic index, 3))
    (kk : ∀ (u : S) (H1 : Heap) (locs1 : List Loc), post u → z_S G (wr ++ w1 u) A s H1 locs1 → W p l e R s m args below meth c H1 locs1 (cells + mc) (slots + ms) Q (F0 m (pc + 3) ls rest)) : W p l e R s m args below meth c H locs cells slots Q (F0 m pc ls st) := by
  subst hy
  exact z_endv X hS hat (va_runS X.1 (hM H.size) (va_cwS n X.1.2.2.2.2 (lw_S q1 q2 q3 q4) rfl hrm.1 hrm.2 hnm hR) (z_pre X hEk hE hS hat) rfl hn hl hst (lv_room hroom) hd hf) kk
theorem z_cSr {post : S → Prop} {w1 : S → Nat → va_W} (X : z_X p s m args meth c y cc L ret G A) (hy : y.cls = own) (hEk : z_Eok E) (hE : E A s) (hS : z_S G ws A s H locs) (hM : z_Mr l y1 bytes L1 ty rm mc ms G E As wc post w1) (n : Nat)
    (q1 : Cond.methodLink own index y1 ∈ lw_all) (q2 : Cond.static y1 ∈ lw_all) (q3 : Cond.initialized y1.cls ∈ lw_all) (q4 : Cond.code y1 bytes L1 (some ty) ∈ lw_all) (hnm : z_Nm y1 n) (hrm : rm.cells = mc ∧ rm.slots = ms) (hR : rm.frames + 1 ≤ R.frames ∧ 8 + (L1 + 11) + rm.locals ≤ R.locals)
    (isC isR : List Nat) (hat : z_At ws wc wr isC isR) (hn : As.length = n) (hl : ls.size = L) (hst : st = As.reverse ++ rest) (hroom : (rest.map fun v => v.category).sum ≤ 8) (hf : cells + mc ≤ R.cells ∧ slots + ms ≤ R.slots) (hd : decode cc pc = .ok (.invokestatic index, 3))
    (kk : ∀ (u : S) (q : Nat) (H1 : Heap) (locs1 : List Loc), post u → z_S G (wr ++ w1 u q) A s H1 locs1 → W p l e R s m args below meth c H1 locs1 (cells + mc) (slots + ms) Q (F0 m (pc + 3) ls (.ref q :: rest))) : W p l e R s m args below meth c H locs cells slots Q (F0 m pc ls st) := by
  subst hy
  exact z_endr X hS hat (va_runS X.1 (hM H.size) (va_cwS n X.1.2.2.2.2 (lw_S q1 q2 q3 q4) rfl hrm.1 hrm.2 hnm hR) (z_pre X hEk hE hS hat) rfl hn hl hst (lv_room hroom) hd hf) kk
theorem z_cSWv {hh : List (Nat × Nat × Nat × Nat)} {post : S → Prop} {w1 : S → va_W} (X : z_X p s m args meth c y cc L ret G A) (hy : y.cls = own) (hEk : z_Eok E) (hE : E A s) (hS : z_S G ws A s H locs) (hM : z_MvW l y1 bytes L1 hh rm mc ms G E As wc post w1) (n : Nat)
    (q1 : Cond.methodLink own index y1 ∈ lw_all) (q2 : Cond.static y1 ∈ lw_all) (q3 : Cond.initialized y1.cls ∈ lw_all) (q4 : Cond.codeWith y1 bytes L1 none hh ∈ lw_all) (hnm : z_Nm y1 n) (hrm : rm.cells = mc ∧ rm.slots = ms) (hR : rm.frames + 1 ≤ R.frames ∧ 8 + (L1 + 11) + rm.locals ≤ R.locals)
    (isC isR : List Nat) (hat : z_At ws wc wr isC isR) (hn : As.length = n) (hl : ls.size = L) (hst : st = As.reverse ++ rest) (hroom : (rest.map fun v => v.category).sum ≤ 8) (hf : cells + mc ≤ R.cells ∧ slots + ms ≤ R.slots) (hd : decode cc pc = .ok (.invokestatic index, 3))
    (kk : ∀ (u : S) (H1 : Heap) (locs1 : List Loc), post u → z_S G (wr ++ w1 u) A s H1 locs1 → W p l e R s m args below meth c H1 locs1 (cells + mc) (slots + ms) Q (F0 m (pc + 3) ls rest)) : W p l e R s m args below meth c H locs cells slots Q (F0 m pc ls st) := by
  subst hy
  exact z_endv X hS hat (vx_runSW X.1 (hM H.size) (vx_cwSW n X.1.2.2.2.2 (lw_SW q1 q2 q3 q4) rfl hrm.1 hrm.2 hnm hR) (z_pre X hEk hE hS hat) rfl hn hl hst (lv_room hroom) hd hf) kk
theorem z_cVi {post : Int32 → S → Prop} {w1 : S → va_W} {b ci q0 : Nat} {qc : vw_C} {fs : List Value} (X : z_X p s m args meth c y cc L ret G A) (hy : y.cls = own) (hEk : z_Eok E) (hE : E A s) (hS : z_S G ws A s H locs) (hM : z_Mi l y1 bytes L1 ty rm mc ms G E (.ref b :: As) wc post w1) (n : Nat)
    (q1 : Cond.methodLink own index y1 ∈ lw_all) (q2 : Cond.instanceMethod y1 ∈ lw_all) (q3 : Cond.selects y1.cls y1 y1 ∈ lw_all) (q4 : Cond.initialized y1.cls ∈ lw_all) (q5 : Cond.code y1 bytes L1 (some ty) ∈ lw_all) (hnm : z_Nm y1 n) (hrm : rm.cells = mc ∧ rm.slots = ms) (hR : rm.frames + 1 ≤ R.frames ∧ 8 + (L1 + 11) + rm.locals ≤ R.locals)
    (hc : z_cl[ci]? = some qc) (he : ws[q0]? = some (b, .inr (ci, fs))) (hC : qc.1 = y1.cls) (isC isR : List Nat) (hat : z_At ws wc wr isC isR) (hn : As.length = n) (hl : ls.size = L) (hst : st = As.reverse ++ .ref b :: rest) (hroom : (rest.map fun v => v.category).sum ≤ 8) (hf : cells + mc ≤ R.cells ∧ slots + ms ≤ R.slots) (hd : decode cc pc = .ok (.invokevirtual index, 3))
    (kk : ∀ (r : Int32) (u : S) (H1 : Heap) (locs1 : List Loc), post r u → z_S G (wr ++ w1 u) A s H1 locs1 → W p l e R s m args below meth c H1 locs1 (cells + mc) (slots + ms) Q (F0 m (pc + 3) ls (.int r :: rest))) : W p l e R s m args below meth c H locs cells slots Q (F0 m pc ls st) := by
  subst hy
  exact z_endi X hS hat (va_runV X.1 (hM H.size) (cwV n X.1.2.2.2.2 (lw_V q1 q2 q3 q4 q5) rfl hrm.1 hrm.2 ⟨rfl, hnm⟩ hR) (z_preV X hEk hE hS hc he hC hat) rfl hn hl hst (lv_room hroom) hd hf) kk
theorem z_cVv {post : S → Prop} {w1 : S → va_W} {b ci q0 : Nat} {qc : vw_C} {fs : List Value} (X : z_X p s m args meth c y cc L ret G A) (hy : y.cls = own) (hEk : z_Eok E) (hE : E A s) (hS : z_S G ws A s H locs) (hM : z_Mv l y1 bytes L1 rm mc ms G E (.ref b :: As) wc post w1) (n : Nat)
    (q1 : Cond.methodLink own index y1 ∈ lw_all) (q2 : Cond.instanceMethod y1 ∈ lw_all) (q3 : Cond.selects y1.cls y1 y1 ∈ lw_all) (q4 : Cond.initialized y1.cls ∈ lw_all) (q5 : Cond.code y1 bytes L1 none ∈ lw_all) (hnm : z_Nm y1 n) (hrm : rm.cells = mc ∧ rm.slots = ms) (hR : rm.frames + 1 ≤ R.frames ∧ 8 + (L1 + 11) + rm.locals ≤ R.locals)
    (hc : z_cl[ci]? = some qc) (he : ws[q0]? = some (b, .inr (ci, fs))) (hC : qc.1 = y1.cls) (isC isR : List Nat) (hat : z_At ws wc wr isC isR) (hn : As.length = n) (hl : ls.size = L) (hst : st = As.reverse ++ .ref b :: rest) (hroom : (rest.map fun v => v.category).sum ≤ 8) (hf : cells + mc ≤ R.cells ∧ slots + ms ≤ R.slots) (hd : decode cc pc = .ok (.invokevirtual index, 3))
    (kk : ∀ (u : S) (H1 : Heap) (locs1 : List Loc), post u → z_S G (wr ++ w1 u) A s H1 locs1 → W p l e R s m args below meth c H1 locs1 (cells + mc) (slots + ms) Q (F0 m (pc + 3) ls rest)) : W p l e R s m args below meth c H locs cells slots Q (F0 m pc ls st) := by
  subst hy
  exact z_endv X hS hat (va_runV X.1 (hM H.size) (cwV n X.1.2.2.2.2 (lw_V q1 q2 q3 q4 q5) rfl hrm.1 hrm.2 ⟨rfl, hnm⟩ hR) (z_preV X hEk hE hS hc he hC hat) rfl hn hl hst (lv_room hroom) hd hf) kk
/-- a call through an abstract method of a superclass, on a receiver whose class is known -/
theorem z_cUi {post : Int32 → S → Prop} {w1 : S → va_W} {x : MethodName} {C : String} {b ci q0 : Nat} {qc : vw_C} {fs : List Value} (X : z_X p s m args meth c y cc L ret G A) (hy : y.cls = own) (hEk : z_Eok E) (hE : E A s) (hS : z_S G ws A s H locs) (hM : z_Mi l y1 bytes L1 ty rm mc ms G E (.ref b :: As) wc post w1) (n : Nat)
    (q1 : Cond.methodLink own index x ∈ lw_all) (q2 : Cond.sameMethod x.cls x.cls x.name x.desc ∈ lw_all) (q3 : Cond.selects C x y1 ∈ lw_all) (q4 : Cond.instanceMethod y1 ∈ lw_all) (q5 : Cond.initialized y1.cls ∈ lw_all) (q6 : Cond.code y1 bytes L1 (some ty) ∈ lw_all) (hz : va_Nw (.declares ⟨x.cls, x.name, x.desc⟩) s) (hnm : z_Nm x n) (hrm : rm.cells = mc ∧ rm.slots = ms) (hR : rm.frames + 1 ≤ R.frames ∧ 8 + (L1 + 11) + rm.locals ≤ R.locals)
    (hc : z_cl[ci]? = some qc) (he : ws[q0]? = some (b, .inr (ci, fs))) (hC : qc.1 = C) (isC isR : List Nat) (hat : z_At ws wc wr isC isR) (hn : As.length = n) (hl : ls.size = L) (hst : st = As.reverse ++ .ref b :: rest) (hroom : (rest.map fun v => v.category).sum ≤ 8) (hf : cells + mc ≤ R.cells ∧ slots + ms ≤ R.slots) (hd : decode cc pc = .ok (.invokevirtual index, 3))
    (kk : ∀ (r : Int32) (u : S) (H1 : Heap) (locs1 : List Loc), post r u → z_S G (wr ++ w1 u) A s H1 locs1 → W p l e R s m args below meth c H1 locs1 (cells + mc) (slots + ms) Q (F0 m (pc + 3) ls (.int r :: rest))) : W p l e R s m args below meth c H locs cells slots Q (F0 m pc ls st) := by
  subst hy
  have hG : GoodIn lw_all (va_wsU y.cls index C x.cls x y1 (ws_ y1 bytes L1 (some ty))) := by
    refine lw_app ?_ (lw_meth q6)
    intro w hw
    simp only [List.mem_cons, List.not_mem_nil, or_false] at hw
    rcases hw with e | e | e | e | e
    · rw [e]; exact q1
    · rw [e]; exact q2
    · rw [e]; exact q3
    · rw [e]; exact q4
    · rw [e]; exact q5
  exact z_endi X hS hat (va_runU X.1 (hM H.size) (va_cwA n X.1.2.2.2.2 hG rfl hrm.1 hrm.2 hz hnm hR) (z_preV X hEk hE hS hc he hC hat) rfl hn hl hst (lv_room hroom) hd hf) kk
theorem z_cIv {post : S → Prop} {w1 : S → va_W} {b : Nat} (X : z_X p s m args meth c y cc L ret G A) (hy : y.cls = own) (hEk : z_Eok E) (hE : E A s) (hS : z_S G ws A s H locs) (hM : z_Mv l y1 bytes L1 rm mc ms G E (.ref b :: As) wc post w1) (n : Nat)
    (q1 : Cond.methodLink own index y1 ∈ lw_all) (q2 : Cond.instanceMethod y1 ∈ lw_all) (q4 : Cond.initialized y1.cls ∈ lw_all) (q5 : Cond.code y1 bytes L1 none ∈ lw_all) (hin : y1.name = "<init>") (hnm : z_Nm y1 n) (hrm : rm.cells = mc ∧ rm.slots = ms) (hR : rm.frames + 1 ≤ R.frames ∧ 8 + (L1 + 11) + rm.locals ≤ R.locals)
    (isC isR : List Nat) (hat : z_At ws wc wr isC isR) (hn : As.length = n) (hl : ls.size = L) (hst : st = As.reverse ++ .ref b :: rest) (hroom : (rest.map fun v => v.category).sum ≤ 8) (hf : cells + mc ≤ R.cells ∧ slots + ms ≤ R.slots) (hd : decode cc pc = .ok (.invokespecial index, 3))
    (kk : ∀ (u : S) (H1 : Heap) (locs1 : List Loc), post u → z_S G (wr ++ w1 u) A s H1 locs1 → W p l e R s m args below meth c H1 locs1 (cells + mc) (slots + ms) Q (F0 m (pc + 3) ls rest)) : W p l e R s m args below meth c H locs cells slots Q (F0 m pc ls st) := by
  subst hy
  exact z_endv X hS hat (va_runI X.1 (hM H.size) (cwI n X.1.2.2.2.2 (lw_meth q5) rfl hrm.1 hrm.2 (X.w q4) (X.w q1) (X.w q2) hin hnm hR) (z_pre (As := .ref b :: As) X hEk hE hS hat) rfl hn hl hst (lv_room hroom) hd hf) kk
end ZD
end
section
/-! OUR ROWS, fourth: bytes as naturals; the rows that need them -/
set_option maxRecDepth 100000
/-- a byte, unsigned -/
def z_ub (x : Int8) : Nat := x.toUInt8.toNat
theorem z_ub_lt (x : Int8) : z_ub x < 256 := x.toUInt8.toNat_lt
/-- x & 2147483647 -/
def z_ab (x : Int32) : Nat := x.toBitVec.toNat % 2 ^ 31
theorem z_ab_lt (x : Int32) : z_ab x < 2 ^ 31 := Nat.mod_lt _ (by decide)
theorem z_andM (x : Int32) : x &&& 2147483647 = nI (z_ab x) := pk_and x 31 (by decide)
theorem z_88 (x : Int8) : x.toInt32.toInt8 = x := by simp
theorem z_ub_toInt (x : Int8) : x.toInt = Int.bmod (z_ub x) 256 := by
  have h : x.toInt = x.toBitVec.toInt := rfl
  rw [h, BitVec.toInt_eq_toNat_bmod]
  rfl
theorem z_inj {x y : Int8} (h : x.toInt32 = y.toInt32) : x = y := by
  have := congrArg Int32.toInt8 h
  rwa [z_88, z_88] at this
theorem z_ubinj {x y : Int8} (h : z_ub x = z_ub y) : x = y := by
  apply Int8.toInt_inj.mp
  rw [z_ub_toInt, z_ub_toInt, h]
theorem z_and255 (x : Int8) : x.toInt32 &&& nI 255 = nI (z_ub x) := by
  rw [pk_and x.toInt32 8 (by decide)]
  congr 1
  have h1 : x.toInt32.toBitVec = x.toBitVec.signExtend 32 := rfl
  have h2 : x.toBitVec.toNat = z_ub x := rfl
  have h3 := z_ub_lt x
  rw [h1, BitVec.toNat_signExtend, BitVec.toNat_setWidth, h2]
  split <;> omega
theorem z_ubN (n : Nat) : z_ub (nI n).toInt8 = n % 256 := by
  have h : z_ub (nI n).toInt8 = ((nI n).toBitVec.signExtend 8).toNat := rfl
  rw [h, BitVec.toNat_signExtend, BitVec.toNat_setWidth]
  have h2 : (nI n).toBitVec.toNat = n % 2 ^ 32 := by
    show (BitVec.ofNat 32 n).toNat = _
    rw [BitVec.toNat_ofNat]
  rw [h2]
  split <;> omega
theorem z_ubN' {n : Nat} (h : n < 256) : z_ub (nI n).toInt8 = n := by rw [z_ubN]; omega
theorem z_m1 : (-1 : Int32) = (-1 : Int8).toInt32 := by decide
theorem z_ubm1 : z_ub (-1) = 255 := by decide
theorem z_m1_iff (x : Int8) : x.toInt32 = -1 ↔ z_ub x = 255 := by
  constructor
  · intro h
    rw [z_m1] at h
    rw [z_inj h, z_ubm1]
  · intro h
    rw [z_m1, z_ubinj (h.trans z_ubm1.symm)]
theorem z_dec {a : Nat} (h : 1 ≤ a) : nI a + Int32.ofInt (-1) = nI (a - 1) := by
  have e := pk_m1 (a - 1)
  rw [show a - 1 + 1 = a by omega] at e
  rw [← e]
  rfl
theorem z_or (a b : Nat) : nI a ||| nI b = nI (a ||| b) := by
  apply Int32.toBitVec_inj.mp
  show BitVec.ofNat 32 a ||| BitVec.ofNat 32 b = BitVec.ofNat 32 (a ||| b)
  rw [BitVec.ofNat_or]
/-- two bytes, the lower first -/
theorem z_le2 {u v : Nat} (hu : u < 256) : nI u ||| nI (v * 256) = nI (u + 256 * v) := by
  rw [z_or]
  congr 1
  have h := Nat.shiftLeft_add_eq_or_of_lt (show u < 2 ^ 8 from hu) v
  rw [Nat.shiftLeft_eq] at h
  rw [Nat.or_comm, ← h]
  omega
/-- the token's lower half -/
theorem z_tok : ∀ a, a < 16 → ∀ b, b < 16 → z_ub (((nI (a * 16)).toInt8.toInt32 ||| nI b).toInt8) = a * 16 + b := by decide +kernel
theorem z_tok2 {x : Int8} {a b : Nat} (ha : a < 16) (hb : b < 16) (h : z_ub x = a * 16) : z_ub ((x.toInt32 ||| nI b).toInt8) = a * 16 + b := by
  have e : x = (nI (a * 16)).toInt8 := z_ubinj (by rw [h, z_ubN]; omega)
  rw [e]
  exact z_tok a ha b hb
section ZN
variable {p : Program} {l : Launch} {e : Env} {R : Room} {s : State} {m : MethodId} {args : Array Value} {below : List Frame} {meth : Method} {c : Code} {H : Heap} {locs : List Loc} {cells slots : Nat} {Q : State → Prop}
variable {cc : ByteArray} {pc : Nat} {ls : Array Slot} {rest : List Value} {y : MethodName} {L : Nat} {ret : Option FieldType} {G : z_G} {A : Nat → Prop} {ws : va_W} {a : Nat}
theorem z_bast8 (X : z_X p s m args meth c y cc L ret G A) (hS : z_S G ws A s H locs) (q0 : Nat) {n : Nat} {t : Nat → Int8} (ha : ws[q0]? = some (a, z_B G n t)) {i : Nat} {x : Int8} (hin : i < n) (hn : n < 2 ^ 31) {ws' : va_W} (hw : ws.set q0 (a, z_B G n (va_up t i x)) = ws') (hd : decode cc pc = .ok (.bastore, 1))
    (k : ∀ (H1 : Heap) (locs1 : List Loc), z_S G ws' A s H1 locs1 → W p l e R s m args below meth c H1 locs1 cells slots Q (F0 m (pc + 1) ls rest)) : W p l e R s m args below meth c H locs cells slots Q (F0 m pc ls (.int x.toInt32 :: .int (nI i) :: .ref a :: rest)) :=
  z_bast X hS q0 ha hin hn (by rw [z_88]; exact hw) hd k
theorem z_icmp_ne8 (hx : p.tables.exec = Jvm.exec) (hb : c.code = cc) {a b : Int8} {off : Int} {tgt : Nat} (hd : decode cc pc = .ok (.if_icmp .ne off, 3)) (ht : (pc : Int) + off = (tgt : Int)) (kt : a ≠ b → W p l e R s m args below meth c H locs cells slots Q (F0 m tgt ls rest)) (kf : a = b → W p l e R s m args below meth c H locs cells slots Q (F0 m (pc + 3) ls rest)) : W p l e R s m args below meth c H locs cells slots Q (F0 m pc ls (.int b.toInt32 :: .int a.toInt32 :: rest)) :=
  lv_icmp_ne hx hb hd ht (fun h => kt fun q => h (by rw [q])) (fun h => kf (z_inj h))
theorem z_idiv (hx : p.tables.exec = Jvm.exec) (hb : c.code = cc) {a b : Nat} (hd : decode cc pc = .ok (.idiv, 1)) (h1 : a < 2 ^ 31) (h2 : 0 < b) (h3 : b < 2 ^ 31) (k : W p l e R s m args below meth c H locs cells slots Q (F0 m (pc + 1) ls (.int (nI (a / b)) :: rest))) : W p l e R s m args below meth c H locs cells slots Q (F0 m pc ls (.int (nI b) :: .int (nI a) :: rest)) :=
  lv_idiv hx hb hd (nI_ne0 h2 h3) (by rw [pk_div h1 h2 h3]; exact k)
theorem z_irem (hx : p.tables.exec = Jvm.exec) (hb : c.code = cc) {a b : Nat} (hd : decode cc pc = .ok (.irem, 1)) (h1 : a < 2 ^ 31) (h2 : 0 < b) (h3 : b < 2 ^ 31) (k : W p l e R s m args below meth c H locs cells slots Q (F0 m (pc + 1) ls (.int (nI (a % b)) :: rest))) : W p l e R s m args below meth c H locs cells slots Q (F0 m pc ls (.int (nI b) :: .int (nI a) :: rest)) :=
  lv_irem hx hb hd (nI_ne0 h2 h3) (by rw [pk_rem h1 h2 h3]; exact k)
theorem z_sld {b L0 : Nat} {xs : Nat → Int32} (X : z_X p s m args meth c y cc L ret G A) (hE : z_E3 b L0 xs A s) (hS : z_S G ws A s H locs) {i : Nat} (hin : i < L0) (hn : L0 < 2 ^ 31) (hd : decode cc pc = .ok (.iaload, 1)) (k : W p l e R s m args below meth c H locs cells slots Q (F0 m (pc + 1) ls (.int (xs i) :: rest))) : W p l e R s m args below meth c H locs cells slots Q (F0 m pc ls (.int (nI i) :: .ref b :: rest)) :=
  va_sld X.x X.b hE.2.1 hE.2.2.1 hE.2.2.2 hS.2.2 (vp_in_nI hin hn) hd (by rw [nI_clamp (Nat.lt_trans hin hn)]; exact k)
theorem z_slen {b L0 : Nat} {xs : Nat → Int32} (X : z_X p s m args meth c y cc L ret G A) (hE : z_E3 b L0 xs A s) (hS : z_S G ws A s H locs) (hd : decode cc pc = .ok (.arraylength, 1)) (k : W p l e R s m args below meth c H locs cells slots Q (F0 m (pc + 1) ls (.int (nI L0) :: rest))) : W p l e R s m args below meth c H locs cells slots Q (F0 m pc ls (.ref b :: rest)) :=
  va_slen X.x X.b hE.2.1 hE.2.2.1 hE.2.2.2 hS.2.2 hd k
/-- System.arraycopy of bytes between two arrays -/
theorem z_copy (X : z_X p s m args meth c y cc L ret G A) {own : String} (hy : y.cls = own) (hls : ls.size = L) {index : Nat} (q1 : Cond.methodLink own index arraycopyName ∈ lw_all) (hS : z_S G ws A s H locs) (i0 i1 : Nat) {a0 n0 n1 : Nat} {f g : Nat → Int8} (ha0 : ws[i0]? = some (a0, z_B G n0 f)) (ha1 : ws[i1]? = some (a, z_B G n1 g))
    {sp dp n : Nat} (h1 : sp < 2 ^ 31) (h2 : dp < 2 ^ 31) (h3 : n < 2 ^ 31) (h4 : sp + n ≤ n0) (h5 : dp + n ≤ n1) (hframes : 1 ≤ R.frames) (hlocals : (rest.map fun v => v.category).sum + (nativeFrameWords "java/lang/System" "arraycopy" 5 + 11) ≤ R.locals) {ws' : va_W} (hw : ws.set i1 (a, z_B G n1 (va_cpy f g sp dp n)) = ws') (hd : decode cc pc = .ok (.invokestatic index, 3))
    (k : ∀ (H1 : Heap) (locs1 : List Loc), z_S G ws' A s H1 locs1 → W p l e R s m args below meth c H1 locs1 cells slots Q (F0 m (pc + 3) ls rest)) : W p l e R s m args below meth c H locs cells slots Q (F0 m pc ls (.int (nI n) :: .int (nI dp) :: .ref a :: .int (nI sp) :: .ref a0 :: rest)) := by
  subst hy
  refine va_copyi X.x X.b (X.1.2.2.1.trans hls.symm) X.own (X.w q1) (X.w q337) (X.w q336) (X.w q21) X.K hS.1 hS.2.1 hS.2.2 i0 i1 0 0 ha0 ha1 rfl rfl rfl (nI_pos h1) (nI_pos h2) (nI_pos h3) (by rw [nI_clamp h1, nI_clamp h3]; exact h4) (by rw [nI_clamp h2, nI_clamp h3]; exact h5) (fun i hi => ?_) hframes hlocals hd (fun H1 locs1 hP hD hS1 => ?_)
  · have := pk_fb (f (sp + i)).toInt32
    rw [z_88] at this
    rw [nI_clamp h1]
    exact this
  · rw [nI_clamp h1, nI_clamp h2, nI_clamp h3] at hP hD
    have e : va_cpy (fun j => (f j).toInt32) (fun j => (g j).toInt32) sp dp n = fun j => (va_cpy f g sp dp n j).toInt32 := by
      funext j
      unfold va_cpy
      split <;> rfl
    rw [e] at hP hD
    subst hw
    exact k H1 locs1 ⟨hP, hD, hS1⟩
end ZN
end
section
/-! THE PLAIN LAW of the block format: what a packed text is, no program in sight -/
set_option maxRecDepth 100000
/-- the bytes of p from i to j say the number v -/
def z_ext (p : Nat → Int8) (i v j : Nat) : Prop := j = i + v / 255 + 1 ∧ (∀ k, k < v / 255 → z_ub (p (i + k)) = 255) ∧ z_ub (p (i + v / 255)) = v % 255
/-- .. what of the length v the token's half does not hold -/
def z_len (p : Nat → Int8) (i v j : Nat) : Prop := (v < 15 → j = i) ∧ (15 ≤ v → z_ext p i (v - 15) j)
def z_el (v : Nat) : Nat := if 15 ≤ v then (v - 15) / 255 + 1 else 0
/-- behind the token at i: lit bytes of the text t, from its place o on, which stand at i1 -/
def z_lit (p t : Nat → Int8) (i o lit i1 : Nat) : Prop := z_len p (i + 1) lit i1 ∧ ∀ j, j < lit → p (i1 + j) = t (o + j)
/-- one sequence: from i to i' in p, from o to o' in the text -/
def z_sq (p t : Nat → Int8) (n i o i' o' : Nat) : Prop := ∃ lit ml off i1 : Nat, z_ub (p i) = min lit 15 * 16 + min ml 15 ∧ z_lit p t i o lit i1 ∧ z_ub (p (i1 + lit)) + 256 * z_ub (p (i1 + lit + 1)) = off ∧ 1 ≤ off ∧ off ≤ o + lit ∧ z_len p (i1 + lit + 2) ml i' ∧ (∀ j, j < ml + 4 → t (o + lit + j) = t (o + lit + j - off)) ∧ o' = o + lit + (ml + 4) ∧ o + lit + 12 ≤ n ∧ o' + 5 ≤ n
/-- the last one, of literals alone -/
def z_fin (p t : Nat → Int8) (n L i o : Nat) : Prop := o ≤ n ∧ ∃ i1 : Nat, z_ub (p i) = min (n - o) 15 * 16 ∧ z_lit p t i o (n - o) i1 ∧ L = i1 + (n - o)
def z_dk (p t : Nat → Int8) (n L : Nat) : Nat → Nat → Nat → Prop
  | 0, i, o => z_fin p t n L i o
  | k + 1, i, o => ∃ i' o' : Nat, z_sq p t n i o i' o' ∧ z_dk p t n L k i' o'
def z_ck (p t : Nat → Int8) (n : Nat) : Nat → Nat → Nat → Prop
  | 0, i, o => i = 0 ∧ o = 0
  | k + 1, i, o => ∃ i' o' : Nat, z_ck p t n k i' o' ∧ z_sq p t n i' o' i o
/-- L bytes of p are a packed text of n bytes, t -/
def z_ok (p t : Nat → Int8) (L n : Nat) : Prop := ∃ k, z_dk p t n L k 0 0
theorem z_len_j {p : Nat → Int8} {i v j : Nat} (h : z_len p i v j) : j = i + z_el v := by
  unfold z_el
  split
  · exact (h.2 ‹_›).1
  · exact h.1 (by omega)
theorem z_el_le (v : Nat) : z_el v ≤ v := by unfold z_el; split <;> omega
theorem z_el_le2 (v : Nat) : z_el v ≤ v / 255 + 1 := by unfold z_el; split <;> omega
theorem z_ext_c {p p' : Nat → Int8} {i v j : Nat} (h : z_ext p i v j) (hp : ∀ q, i ≤ q → q < j → p' q = p q) : z_ext p' i v j := by
  obtain ⟨h1, h2, h3⟩ := h
  refine ⟨h1, fun k hk => ?_, ?_⟩
  · rw [hp _ (by omega) (by omega)]; exact h2 k hk
  · rw [hp _ (by omega) (by omega)]; exact h3
theorem z_len_c {p p' : Nat → Int8} {i v j : Nat} (h : z_len p i v j) (hp : ∀ q, i ≤ q → q < j → p' q = p q) : z_len p' i v j := ⟨h.1, fun hv => z_ext_c (h.2 hv) hp⟩
theorem z_lit_c {p p' t : Nat → Int8} {i o lit i1 : Nat} (h : z_lit p t i o lit i1) (hp : ∀ q, i < q → q < i1 + lit → p' q = p q) : z_lit p' t i o lit i1 := by
  have hj := z_len_j h.1
  refine ⟨z_len_c h.1 (fun q h1 h2 => hp q (by omega) (by omega)), fun j hj2 => ?_⟩
  rw [hp _ (by omega) (by omega)]
  exact h.2 j hj2
theorem z_sq_lt {p t : Nat → Int8} {n i o i' o' : Nat} (h : z_sq p t n i o i' o') : i + 3 ≤ i' := by
  obtain ⟨lit, ml, off, i1, -, h2, -, -, -, h6, -⟩ := h
  have a := z_len_j h2.1
  have b := z_len_j h6
  omega
theorem z_sq_c {p p' t : Nat → Int8} {n i o i' o' : Nat} (h : z_sq p t n i o i' o') (hp : ∀ q, i ≤ q → q < i' → p' q = p q) : z_sq p' t n i o i' o' := by
  obtain ⟨lit, ml, off, i1, h1, h2, h3, h4, h5, h6, h7⟩ := h
  have a := z_len_j h2.1
  have b := z_len_j h6
  refine ⟨lit, ml, off, i1, ?_, z_lit_c h2 (fun q g1 g2 => hp q (by omega) (by omega)), ?_, h4, h5, z_len_c h6 (fun q g1 g2 => hp q (by omega) (by omega)), h7⟩
  · rw [hp _ (by omega) (by omega)]; exact h1
  · rw [hp _ (by omega) (by omega), hp _ (by omega) (by omega)]; exact h3
theorem z_ck_c {p p' t : Nat → Int8} {n : Nat} : ∀ (k i o : Nat), z_ck p t n k i o → (∀ q, q < i → p' q = p q) → z_ck p' t n k i o := by
  intro k
  induction k with
  | zero => intro i o h _; exact h
  | succ k ih =>
    intro i o h hp
    obtain ⟨i', o', h1, h2⟩ := h
    have hl := z_sq_lt h2
    exact ⟨i', o', ih i' o' h1 (fun q hq => hp q (by omega)), z_sq_c h2 (fun q _ hq => hp q hq)⟩
theorem z_join {p t : Nat → Int8} {n L : Nat} : ∀ (k i o : Nat), z_ck p t n k i o → ∀ j, z_dk p t n L j i o → z_ok p t L n := by
  intro k
  induction k with
  | zero =>
    intro i o h j hj
    obtain ⟨rfl, rfl⟩ := h
    exact ⟨j, hj⟩
  | succ k ih =>
    intro i o h j hj
    obtain ⟨i', o', h1, h2⟩ := h
    exact ih i' o' h1 (j + 1) ⟨i, o, h2, hj⟩
theorem z_fin_len {p t : Nat → Int8} {n L i o : Nat} (h : z_fin p t n L i o) : i + 1 + (n - o) ≤ L := by
  obtain ⟨-, i1, -, h2, h3⟩ := h
  have := z_len_j h2.1
  omega
theorem z_dk_len {p t : Nat → Int8} {n L : Nat} : ∀ (k i o : Nat), z_dk p t n L k i o → o + 5 ≤ n → i + 6 ≤ L := by
  intro k
  induction k with
  | zero =>
    intro i o h ho
    have := z_fin_len h
    omega
  | succ k ih =>
    intro i o h ho
    obtain ⟨i', o', h1, h2⟩ := h
    have hl := z_sq_lt h1
    obtain ⟨lit, ml, off, i1, -, -, -, -, -, -, -, -, -, h10⟩ := h1
    have := ih i' o' h2 h10
    omega
/-- a match, copied byte by byte, gives back the text -/
theorem z_back {d d' t : Nat → Int8} {o off m : Nat} (h1 : 1 ≤ off) (h2 : off ≤ o) (hd : ∀ j, j < o → d j = t j) (hk : ∀ j, j < o → d' j = d j) (hc : ∀ j, j < m → d' (o + j) = d' (o - off + j)) (ht : ∀ j, j < m → t (o + j) = t (o + j - off)) : ∀ j, j < o + m → d' j = t j := by
  intro j
  induction j using Nat.strongRecOn with
  | ind j ih =>
    intro hj
    by_cases h : j < o
    · rw [hk j h, hd j h]
    · have e : j = o + (j - o) := by omega
      rw [e, hc (j - o) (by omega), ht (j - o) (by omega), ih (o - off + (j - o)) (by omega) (by omega)]
      congr 1
      omega
end
section
/-! SafeUtils and LZ4Utils: their contracts (printed by gen/g11.py) -/
set_option maxRecDepth 100000
abbrev z_rm (f c s lo : Nat) : Room := { frames := f, cells := c, slots := s, locals := lo }
theorem z_nrb (x : Int8) : narrow .byte (.int x.toInt32) = .int x.toInt32 := by have h := pk_nb x.toInt32; rwa [z_88] at h
section ZL
variable {p : Program} {l : Launch} {e : Env} {R : Room} {s : State} {m : MethodId} {args : Array Value} {below : List Frame} {meth : Method} {c : Code} {H : Heap} {locs : List Loc} {cells slots : Nat} {Q : State → Prop}
theorem z_ladd {cc : ByteArray} {pc : Nat} {ls : Array Slot} {rest : List Value} (hx : p.tables.exec = Jvm.exec) (hb : c.code = cc) {a b : Nat} (hd : decode cc pc = .ok (.ladd, 1)) (k : W p l e R s m args below meth c H locs cells slots Q (F0 m (pc + 1) ls (.long (lN (a + b)) :: rest))) : W p l e R s m args below meth c H locs cells slots Q (F0 m pc ls (.long (lN b) :: .long (lN a) :: rest)) :=
  lv_ladd hx hb hd (by rw [lN_add]; exact k)
end ZL
theorem z_lc {a b : Nat} (hb : b < 2 ^ 31) (h : a < b) : lg_cmp (lN a) (lN b) = -1 := by
  have h1 : ¬ lN b < lN a := fun q => absurd ((lN_lt hb (Nat.lt_trans h hb)).mp q) (by omega)
  have h2 : ¬ lN a = lN b := fun q => absurd ((lN_eq (Nat.lt_trans h hb) hb).mp q) (by omega)
  simp [lg_cmp, h1, h2]
theorem z_hash (x : Int32) : ∃ h : Nat, h < 8192 ∧ (x.toUInt32 >>> ((nI 19).toUInt32 &&& Int32.toUInt32 31)).toInt32 = nI h := by
  have e := pk_ushr x (nI 19) 19 (by decide)
  have hlt : x.toBitVec.toNat < 2 ^ 32 := x.toBitVec.isLt
  refine ⟨x.toBitVec.toNat / 2 ^ 19, by omega, ?_⟩
  apply Int32.toBitVec_inj.mp
  apply BitVec.eq_of_toNat_eq
  rw [e, pk_tn (by omega)]
theorem nm_m_readByte : z_Nm yX6_readByte 2 := by decide +kernel
set_option maxHeartbeats 4000000 in
theorem m_readByte (l : Launch) (G : z_G) (x0 n : Nat) (t : Nat → Int8) (i : Nat) (hi : i < n) (hn : n < 2 ^ 31) : z_Mi l yX6_readByte cX6_readByte 2 .byte (z_rm 0 0 0 0) 0 0 G z_E0 [.ref x0, .int (nI i)] [(x0, z_B G n t)] (S := Unit) (fun r _ => r = (t i).toInt32) (fun _ => [(x0, z_B G n t)]) := by
  refine Mi.mk (by decide) (Nat.le_of_ble_eq_true rfl) ?_
  intro p e s m below meth c A ls X hE hS hl
  have hl : lv_has ls 2 [(0, .ref x0), (1, .int (nI i))] := hl
  refine lv_aload_n X.x X.b dX6_readByte_0 rfl (lv_at hl 0 rfl) ?_
  refine lv_iload_n X.x X.b dX6_readByte_1 rfl (lv_at hl 1 rfl) ?_
  refine z_bald X hS 0 rfl (i := i) (by omega) (by omega) dX6_readByte_2 ?_
  exact z_iret X hS () (z_nrb _) (rfl) [0] rfl rfl dX6_readByte_3
theorem nm_m_readIntLE : z_Nm yX6_readIntLE 2 := by decide +kernel
set_option maxHeartbeats 4000000 in
theorem m_readIntLE (l : Launch) (G : z_G) (x0 n : Nat) (t : Nat → Int8) (i : Nat) (hi : i + 3 < n) (hn : n < 2 ^ 31) : z_Mi l yX6_readIntLE cX6_readIntLE 2 .int (z_rm 0 0 0 0) 0 0 G z_E0 [.ref x0, .int (nI i)] [(x0, z_B G n t)] (S := Unit) (fun _ _ => True) (fun _ => [(x0, z_B G n t)]) := by
  refine Mi.mk (by decide) (Nat.le_of_ble_eq_true rfl) ?_
  intro p e s m below meth c A ls X hE hS hl
  have hl : lv_has ls 2 [(0, .ref x0), (1, .int (nI i))] := hl
  have := z_ub_lt (t i)
  have := z_ub_lt (t (i + 1))
  have := z_ub_lt (t (i + 2))
  have := z_ub_lt (t (i + 3))
  refine lv_aload_n X.x X.b dX6_readIntLE_0 rfl (lv_at hl 0 rfl) ?_
  refine lv_iload_n X.x X.b dX6_readIntLE_1 rfl (lv_at hl 1 rfl) ?_
  refine z_bald X hS 0 rfl (i := i) (by omega) (by omega) dX6_readIntLE_2 ?_
  refine lv_sipush (v := (nI 255)) X.x X.b dX6_readIntLE_3 (by decide) ?_
  refine lv_iand X.x X.b dX6_readIntLE_6 ?_
  refine z_top (y := (nI (z_ub (t i)))) (z_and255 _) ?_
  refine lv_aload_n X.x X.b dX6_readIntLE_7 rfl (lv_at hl 0 rfl) ?_
  refine lv_iload_n X.x X.b dX6_readIntLE_8 rfl (lv_at hl 1 rfl) ?_
  refine lv_iconst (v := (nI 1)) X.x X.b dX6_readIntLE_9 (by decide) ?_
  refine z_iadd X.x X.b dX6_readIntLE_10 ?_
  refine z_bald X hS 0 rfl (i := (i + 1)) (by omega) (by omega) dX6_readIntLE_11 ?_
  refine lv_sipush (v := (nI 255)) X.x X.b dX6_readIntLE_12 (by decide) ?_
  refine lv_iand X.x X.b dX6_readIntLE_15 ?_
  refine z_top (y := (nI (z_ub (t (i + 1))))) (z_and255 _) ?_
  refine lv_bipush (v := (nI 8)) X.x X.b dX6_readIntLE_16 (by decide) ?_
  refine lv_ishl X.x X.b dX6_readIntLE_18 ?_
  refine z_top (y := (nI ((z_ub (t (i + 1))) * 256))) (pk_shlN (nI 8 &&& 31) 8 (by decide) (by omega)) ?_
  refine lv_ior X.x X.b dX6_readIntLE_19 ?_
  refine lv_aload_n X.x X.b dX6_readIntLE_20 rfl (lv_at hl 0 rfl) ?_
  refine lv_iload_n X.x X.b dX6_readIntLE_21 rfl (lv_at hl 1 rfl) ?_
  refine lv_iconst (v := (nI 2)) X.x X.b dX6_readIntLE_22 (by decide) ?_
  refine z_iadd X.x X.b dX6_readIntLE_23 ?_
  refine z_bald X hS 0 rfl (i := (i + 2)) (by omega) (by omega) dX6_readIntLE_24 ?_
  refine lv_sipush (v := (nI 255)) X.x X.b dX6_readIntLE_25 (by decide) ?_
  refine lv_iand X.x X.b dX6_readIntLE_28 ?_
  refine z_top (y := (nI (z_ub (t (i + 2))))) (z_and255 _) ?_
  refine lv_bipush (v := (nI 16)) X.x X.b dX6_readIntLE_29 (by decide) ?_
  refine lv_ishl X.x X.b dX6_readIntLE_31 ?_
  refine z_top (y := (nI ((z_ub (t (i + 2))) * 65536))) (pk_shlN (nI 16 &&& 31) 16 (by decide) (by omega)) ?_
  refine lv_ior X.x X.b dX6_readIntLE_32 ?_
  refine lv_aload_n X.x X.b dX6_readIntLE_33 rfl (lv_at hl 0 rfl) ?_
  refine lv_iload_n X.x X.b dX6_readIntLE_34 rfl (lv_at hl 1 rfl) ?_
  refine lv_iconst (v := (nI 3)) X.x X.b dX6_readIntLE_35 (by decide) ?_
  refine z_iadd X.x X.b dX6_readIntLE_36 ?_
  refine z_bald X hS 0 rfl (i := (i + 3)) (by omega) (by omega) dX6_readIntLE_37 ?_
  refine lv_sipush (v := (nI 255)) X.x X.b dX6_readIntLE_38 (by decide) ?_
  refine lv_iand X.x X.b dX6_readIntLE_41 ?_
  refine z_top (y := (nI (z_ub (t (i + 3))))) (z_and255 _) ?_
  refine lv_bipush (v := (nI 24)) X.x X.b dX6_readIntLE_42 (by decide) ?_
  refine lv_ishl X.x X.b dX6_readIntLE_44 ?_
  refine z_top (y := (nI ((z_ub (t (i + 3))) * 16777216))) (pk_shlN (nI 24 &&& 31) 24 (by decide) (by omega)) ?_
  refine lv_ior X.x X.b dX6_readIntLE_45 ?_
  exact z_iret X hS () (rfl) (trivial) [0] rfl rfl dX6_readIntLE_46
theorem nm_m_readInt : z_Nm yX6_readInt 2 := by decide +kernel
set_option maxHeartbeats 4000000 in
theorem m_readInt (l : Launch) (G : z_G) (x0 n : Nat) (t : Nat → Int8) (i : Nat) (hi : i + 3 < n) (hn : n < 2 ^ 31) : z_Mi l yX6_readInt cX6_readInt 2 .int (z_rm 1 0 0 24) 0 0 G z_E0 [.ref x0, .int (nI i)] [(x0, z_B G n t)] (S := Unit) (fun _ _ => True) (fun _ => [(x0, z_B G n t)]) := by
  refine Mi.mk (by decide) (Nat.le_of_ble_eq_true rfl) ?_
  intro p e s m below meth c A ls X hE hS hl
  have hl : lv_has ls 2 [(0, .ref x0), (1, .int (nI i))] := hl
  refine lv_aload_n X.x X.b dX6_readInt_0 rfl (lv_at hl 0 rfl) ?_
  refine lv_iload_n X.x X.b dX6_readInt_1 rfl (lv_at hl 1 rfl) ?_
  refine z_cSi (wr := []) X rfl z_E0ok trivial hS (m_readIntLE l G x0 n t i hi hn) 2 q237 q238 q9 q239 nm_m_readIntLE ⟨rfl, rfl⟩ ⟨Nat.le_of_ble_eq_true rfl, Nat.le_of_ble_eq_true rfl⟩ [0] [] ⟨rfl, rfl, rfl, rfl, by decide⟩ rfl hl.1 rfl (Nat.le_of_ble_eq_true rfl) ⟨Nat.le_of_ble_eq_true rfl, Nat.le_of_ble_eq_true rfl⟩ dX6_readInt_2 (fun r_1 u_2 H locs hp hS => ?_)
  have hS : z_S G [(x0, z_B G n t)] A s H locs := hS
  exact z_iret X hS () (rfl) (trivial) [0] rfl rfl dX6_readInt_5
theorem nm_m_writeShortLE : z_Nm yX6_writeShortLE 3 := by decide +kernel
set_option maxHeartbeats 4000000 in
theorem m_writeShortLE (l : Launch) (G : z_G) (x0 n : Nat) (t : Nat → Int8) (i v : Nat) (hi : i + 1 < n) (hn : n < 2 ^ 31) (hv : v < 65536) : z_Mv l yX6_writeShortLE cX6_writeShortLE 3 (z_rm 0 0 0 0) 0 0 G z_E0 [.ref x0, .int (nI i), .int (nI v)] [(x0, z_B G n t)] (S := Nat → Int8) (fun u => u = va_up (va_up t i (nI v).toInt8) (i + 1) (nI (v / 256)).toInt8) (fun u => [(x0, z_B G n u)]) := by
  refine Mv.mk (by decide) (Nat.le_of_ble_eq_true rfl) ?_
  intro p e s m below meth c A ls X hE hS hl
  have hl : lv_has ls 3 [(0, .ref x0), (1, .int (nI i)), (2, .int (nI v))] := hl
  refine lv_aload_n X.x X.b dX6_writeShortLE_0 rfl (lv_at hl 0 rfl) ?_
  refine lv_iload_n X.x X.b dX6_writeShortLE_1 rfl (lv_at hl 1 rfl) ?_
  refine z_iinc (d := 1) (lv' := [(1, .int (nI (i + 1))), (0, .ref x0), (2, .int (nI v))]) X.x X.b dX6_writeShortLE_2 hl (k := 1) rfl (by decide) (by decide) rfl (fun ls hl => ?_)
  refine lv_iload_n X.x X.b dX6_writeShortLE_5 rfl (lv_at hl 2 rfl) ?_
  refine lv_i2b X.x X.b dX6_writeShortLE_6 rfl ?_
  refine z_bast8 (ws' := [(x0, z_B G n (va_up t i ((nI v).toInt8)))]) X hS 0 rfl (i := i) (by omega) (by omega) rfl dX6_writeShortLE_7 (fun H locs hS => ?_)
  refine lv_aload_n X.x X.b dX6_writeShortLE_8 rfl (lv_at hl 1 rfl) ?_
  refine lv_iload_n X.x X.b dX6_writeShortLE_9 rfl (lv_at hl 0 rfl) ?_
  refine z_iinc (d := 1) (lv' := [(1, .int (nI ((i + 1) + 1))), (0, .ref x0), (2, .int (nI v))]) X.x X.b dX6_writeShortLE_10 hl (k := 0) rfl (by decide) (by decide) rfl (fun ls hl => ?_)
  refine lv_iload_n X.x X.b dX6_writeShortLE_13 rfl (lv_at hl 2 rfl) ?_
  refine lv_bipush (v := (nI 8)) X.x X.b dX6_writeShortLE_14 (by decide) ?_
  refine lv_iushr X.x X.b dX6_writeShortLE_16 rfl ?_
  refine z_top (y := (nI (v / 256))) (pk_ushrN (by omega) (nI 8) 8 (by decide)) ?_
  refine lv_i2b X.x X.b dX6_writeShortLE_17 rfl ?_
  refine z_bast8 (ws' := [(x0, z_B G n (va_up (va_up t i ((nI v).toInt8)) (i + 1) ((nI (v / 256)).toInt8)))]) X hS 0 rfl (i := (i + 1)) (by omega) (by omega) rfl dX6_writeShortLE_18 (fun H locs hS => ?_)
  exact z_vret X hS _ (rfl) [0] rfl rfl dX6_writeShortLE_19
theorem nm_m_writeByte : z_Nm yX6_writeByte 3 := by decide +kernel
set_option maxHeartbeats 4000000 in
theorem m_writeByte (l : Launch) (G : z_G) (x0 n : Nat) (t : Nat → Int8) (i : Nat) (x : Int32) (hi : i < n) (hn : n < 2 ^ 31) : z_Mv l yX6_writeByte cX6_writeByte 3 (z_rm 0 0 0 0) 0 0 G z_E0 [.ref x0, .int (nI i), .int x] [(x0, z_B G n t)] (S := Nat → Int8) (fun u => u = va_up t i x.toInt8) (fun u => [(x0, z_B G n u)]) := by
  refine Mv.mk (by decide) (Nat.le_of_ble_eq_true rfl) ?_
  intro p e s m below meth c A ls X hE hS hl
  have hl : lv_has ls 3 [(0, .ref x0), (1, .int (nI i)), (2, .int x)] := hl
  refine lv_aload_n X.x X.b dX6_writeByte_0 rfl (lv_at hl 0 rfl) ?_
  refine lv_iload_n X.x X.b dX6_writeByte_1 rfl (lv_at hl 1 rfl) ?_
  refine lv_iload_n X.x X.b dX6_writeByte_2 rfl (lv_at hl 2 rfl) ?_
  refine lv_i2b X.x X.b dX6_writeByte_3 rfl ?_
  refine z_bast8 (ws' := [(x0, z_B G n (va_up t i x.toInt8))]) X hS 0 rfl (i := i) (by omega) (by omega) rfl dX6_writeByte_4 (fun H locs hS => ?_)
  exact z_vret X hS _ (rfl) [0] rfl rfl dX6_writeByte_5
theorem nm_m_writeShort : z_Nm yX6_writeShort 3 := by decide +kernel
set_option maxHeartbeats 4000000 in
theorem m_writeShort (l : Launch) (G : z_G) (x0 n : Nat) (t : Nat → Nat) (i v : Nat) (hi : i < n) (hn : n < 2 ^ 31) (hv : v < 32768) : z_Mv l yX6_writeShort cX6_writeShort 3 (z_rm 0 0 0 0) 0 0 G z_E0 [.ref x0, .int (nI i), .int (nI v)] [(x0, z_H G n t)] (S := Nat → Nat) (fun u => u = va_up t i v) (fun u => [(x0, z_H G n u)]) := by
  refine Mv.mk (by decide) (Nat.le_of_ble_eq_true rfl) ?_
  intro p e s m below meth c A ls X hE hS hl
  have hl : lv_has ls 3 [(0, .ref x0), (1, .int (nI i)), (2, .int (nI v))] := hl
  refine lv_aload_n X.x X.b dX6_writeShort_0 rfl (lv_at hl 0 rfl) ?_
  refine lv_iload_n X.x X.b dX6_writeShort_1 rfl (lv_at hl 1 rfl) ?_
  refine lv_iload_n X.x X.b dX6_writeShort_2 rfl (lv_at hl 2 rfl) ?_
  refine lv_i2s (v := nI v) X.x X.b dX6_writeShort_3 (z_n16 (by omega)) ?_
  refine z_sast (ws' := [(x0, z_H G n (va_up t i v))]) X hS 0 rfl (i := i) (by omega) (by omega) (by omega) rfl dX6_writeShort_4 (fun H locs hS => ?_)
  exact z_vret X hS _ (rfl) [0] rfl rfl dX6_writeShort_5
theorem nm_m_readShortLE : z_Nm yX6_readShortLE 2 := by decide +kernel
set_option maxHeartbeats 4000000 in
theorem m_readShortLE (l : Launch) (G : z_G) (x0 n : Nat) (t : Nat → Int8) (i : Nat) (hi : i + 1 < n) (hn : n < 2 ^ 31) : z_Mi l yX6_readShortLE cX6_readShortLE 2 .int (z_rm 0 0 0 0) 0 0 G z_E0 [.ref x0, .int (nI i)] [(x0, z_B G n t)] (S := Unit) (fun r _ => r = nI (z_ub (t i) + 256 * z_ub (t (i + 1)))) (fun _ => [(x0, z_B G n t)]) := by
  refine Mi.mk (by decide) (Nat.le_of_ble_eq_true rfl) ?_
  intro p e s m below meth c A ls X hE hS hl
  have hl : lv_has ls 2 [(0, .ref x0), (1, .int (nI i))] := hl
  have h0u := z_ub_lt (t i)
  have h1u := z_ub_lt (t (i + 1))
  refine lv_aload_n X.x X.b dX6_readShortLE_0 rfl (lv_at hl 0 rfl) ?_
  refine lv_iload_n X.x X.b dX6_readShortLE_1 rfl (lv_at hl 1 rfl) ?_
  refine z_bald X hS 0 rfl (i := i) (by omega) (by omega) dX6_readShortLE_2 ?_
  refine lv_sipush (v := (nI 255)) X.x X.b dX6_readShortLE_3 (by decide) ?_
  refine lv_iand X.x X.b dX6_readShortLE_6 ?_
  refine z_top (y := (nI (z_ub (t i)))) (z_and255 _) ?_
  refine lv_aload_n X.x X.b dX6_readShortLE_7 rfl (lv_at hl 0 rfl) ?_
  refine lv_iload_n X.x X.b dX6_readShortLE_8 rfl (lv_at hl 1 rfl) ?_
  refine lv_iconst (v := (nI 1)) X.x X.b dX6_readShortLE_9 (by decide) ?_
  refine z_iadd X.x X.b dX6_readShortLE_10 ?_
  refine z_bald X hS 0 rfl (i := (i + 1)) (by omega) (by omega) dX6_readShortLE_11 ?_
  refine lv_sipush (v := (nI 255)) X.x X.b dX6_readShortLE_12 (by decide) ?_
  refine lv_iand X.x X.b dX6_readShortLE_15 ?_
  refine z_top (y := (nI (z_ub (t (i + 1))))) (z_and255 _) ?_
  refine lv_bipush (v := (nI 8)) X.x X.b dX6_readShortLE_16 (by decide) ?_
  refine lv_ishl X.x X.b dX6_readShortLE_18 ?_
  refine z_top (y := (nI ((z_ub (t (i + 1))) * 256))) (pk_shlN (nI 8 &&& 31) 8 (by decide) (by omega)) ?_
  refine lv_ior X.x X.b dX6_readShortLE_19 ?_
  refine z_top (y := (nI (z_ub (t i) + 256 * z_ub (t (i + 1))))) (z_le2 (z_ub_lt _)) ?_
  exact z_iret X hS () (rfl) (rfl) [0] rfl rfl dX6_readShortLE_20
theorem nm_m_readShort : z_Nm yX6_readShort 2 := by decide +kernel
set_option maxHeartbeats 4000000 in
theorem m_readShort (l : Launch) (G : z_G) (x0 n : Nat) (t : Nat → Nat) (i : Nat) (hi : i < n) (hn : n < 2 ^ 31) (ht : t i < 32768) : z_Mi l yX6_readShort cX6_readShort 2 .int (z_rm 0 0 0 0) 0 0 G z_E0 [.ref x0, .int (nI i)] [(x0, z_H G n t)] (S := Unit) (fun r _ => r = nI (t i)) (fun _ => [(x0, z_H G n t)]) := by
  refine Mi.mk (by decide) (Nat.le_of_ble_eq_true rfl) ?_
  intro p e s m below meth c A ls X hE hS hl
  have hl : lv_has ls 2 [(0, .ref x0), (1, .int (nI i))] := hl
  refine lv_aload_n X.x X.b dX6_readShort_0 rfl (lv_at hl 0 rfl) ?_
  refine lv_iload_n X.x X.b dX6_readShort_1 rfl (lv_at hl 1 rfl) ?_
  refine z_sald X hS 0 rfl (i := i) (by omega) (by omega) dX6_readShort_2 ?_
  refine z_ldc (v := 65535) X rfl q247 dX6_readShort_3 ?_
  refine lv_iand X.x X.b dX6_readShort_5 ?_
  refine z_top (y := (nI (t i % 65536))) (pk_andN (m := 65535) (by omega) 16 (by decide)) ?_
  refine z_top (y := (nI (t i))) (congrArg nI (Nat.mod_eq_of_lt (by omega))) ?_
  exact z_iret X hS () (rfl) (rfl) [0] rfl rfl dX6_readShort_6
theorem nm_m_checkLength : z_Nm yX6_checkLength 1 := by decide +kernel
set_option maxHeartbeats 4000000 in
theorem m_checkLength (l : Launch) (G : z_G) (n : Nat) (hn : n < 2 ^ 31) : z_Mv l yX6_checkLength cX6_checkLength 1 (z_rm 0 0 0 0) 0 0 G z_E0 [.int (nI n)] [] (S := Unit) (fun _ => True) (fun _ => []) := by
  refine Mv.mk (by decide) (Nat.le_of_ble_eq_true rfl) ?_
  intro p e s m below meth c A ls X hE hS hl
  have hl : lv_has ls 1 [(0, .int (nI n))] := hl
  refine lv_iload_n X.x X.b dX6_checkLength_0 rfl (lv_at hl 0 rfl) ?_
  refine z_if_ge (tgt := 14) X.x X.b dX6_checkLength_1 (by decide) (by omega) ?_
  exact z_vret X hS () (trivial) [] rfl rfl dX6_checkLength_14
theorem nm_m_checkRange : z_Nm yX6_checkRange 3 := by decide +kernel
set_option maxHeartbeats 4000000 in
theorem m_checkRange (l : Launch) (G : z_G) (x0 n : Nat) (t : Nat → Int8) (i k : Nat) (hi : i + k ≤ n) (hn : n < 2 ^ 31) : z_Mv l yX6_checkRange cX6_checkRange 3 (z_rm 1 0 0 32) 0 0 G z_E0 [.ref x0, .int (nI i), .int (nI k)] [(x0, z_B G n t)] (S := Unit) (fun _ => True) (fun _ => [(x0, z_B G n t)]) := by
  refine Mv.mk (by decide) (Nat.le_of_ble_eq_true rfl) ?_
  intro p e s m below meth c A ls X hE hS hl
  have hl : lv_has ls 3 [(0, .ref x0), (1, .int (nI i)), (2, .int (nI k))] := hl
  refine lv_iload_n X.x X.b dX6_checkRange_0 rfl (lv_at hl 2 rfl) ?_
  refine z_cSv (wr := [(x0, z_B G n t)]) X rfl z_E0ok trivial hS (m_checkLength l G k (by omega)) 1 q137 q138 q9 q139 nm_m_checkLength ⟨rfl, rfl⟩ ⟨Nat.le_of_ble_eq_true rfl, Nat.le_of_ble_eq_true rfl⟩ [] [0] ⟨rfl, rfl, rfl, rfl, by decide⟩ rfl hl.1 rfl (Nat.le_of_ble_eq_true rfl) ⟨Nat.le_of_ble_eq_true rfl, Nat.le_of_ble_eq_true rfl⟩ dX6_checkRange_1 (fun u_2 H locs hp hS => ?_)
  have hS : z_S G [(x0, z_B G n t)] A s H locs := hS
  refine lv_iload_n X.x X.b dX6_checkRange_4 rfl (lv_at hl 1 rfl) ?_
  refine z_if_lt (tgt := 16) X.x X.b dX6_checkRange_5 (by decide) (by omega) ?_
  refine lv_iload_n X.x X.b dX6_checkRange_8 rfl (lv_at hl 1 rfl) ?_
  refine lv_aload_n X.x X.b dX6_checkRange_9 rfl (lv_at hl 0 rfl) ?_
  refine z_balen X hS 0 rfl dX6_checkRange_10 ?_
  refine lv_iload_n X.x X.b dX6_checkRange_11 rfl (lv_at hl 2 rfl) ?_
  refine z_isub X.x X.b dX6_checkRange_12 (by omega) ?_
  refine z_icmp_le (tgt := 26) X.x X.b dX6_checkRange_13 (by decide) (by omega) (by omega) (fun c_4 => ?_) (fun c_4 => by exfalso; omega)
  exact z_vret X hS () (trivial) [0] rfl rfl dX6_checkRange_26
theorem nm_m_notEnough : z_Nm yX7_notEnoughSpace 2 := by decide +kernel
set_option maxHeartbeats 4000000 in
theorem m_notEnough (l : Launch) (G : z_G) (a b : Nat) (ha : a < 2 ^ 31) (hb : b < 2 ^ 31) : z_Mi l yX7_notEnoughSpace cX7_notEnoughSpace 2 .boolean (z_rm 0 0 0 0) 0 0 G z_E0 [.int (nI a), .int (nI b)] [] (S := Unit) (fun r _ => r = 0 ↔ b ≤ a) (fun _ => []) := by
  refine Mi.mk (by decide) (Nat.le_of_ble_eq_true rfl) ?_
  intro p e s m below meth c A ls X hE hS hl
  have hl : lv_has ls 2 [(0, .int (nI a)), (1, .int (nI b))] := hl
  refine lv_iload_n X.x X.b dX7_notEnoughSpace_0 rfl (lv_at hl 1 rfl) ?_
  refine z_if_ge (tgt := 6) X.x X.b dX7_notEnoughSpace_1 (by decide) (by omega) ?_
  refine lv_iload_n X.x X.b dX7_notEnoughSpace_6 rfl (lv_at hl 0 rfl) ?_
  refine lv_iload_n X.x X.b dX7_notEnoughSpace_7 rfl (lv_at hl 1 rfl) ?_
  refine z_icmp_ge (tgt := 15) X.x X.b dX7_notEnoughSpace_8 (by decide) (by omega) (by omega) (fun c_2 => ?_) (fun c_2 => ?_)
  · refine lv_iconst (v := (nI 0)) X.x X.b dX7_notEnoughSpace_15 (by decide) ?_
    exact z_iret X hS () (rfl) (⟨fun _ => by omega, fun _ => nI_0⟩) [] rfl rfl dX7_notEnoughSpace_16
  · refine lv_iconst (v := (nI 1)) X.x X.b dX7_notEnoughSpace_11 (by decide) ?_
    refine lv_goto (tgt := 16) X.x X.b dX7_notEnoughSpace_12 (by decide) ?_
    exact z_iret X hS () (rfl) (⟨fun h => absurd h (by decide), fun h => absurd h (by omega)⟩) [] rfl rfl dX7_notEnoughSpace_16
theorem nm_m_encLen : z_Nm yX7_lengthOfEncodedInteger 1 := by decide +kernel
set_option maxHeartbeats 4000000 in
theorem m_encLen (l : Launch) (G : z_G) (v : Nat) (hv : v < 2 ^ 31) : z_Mi l yX7_lengthOfEncodedInteger cX7_lengthOfEncodedInteger 1 .int (z_rm 0 0 0 0) 0 0 G z_E0 [.int (nI v)] [] (S := Unit) (fun r _ => r = nI (z_el v)) (fun _ => []) := by
  refine Mi.mk (by decide) (Nat.le_of_ble_eq_true rfl) ?_
  intro p e s m below meth c A ls X hE hS hl
  have hl : lv_has ls 1 [(0, .int (nI v))] := hl
  refine lv_iload_n X.x X.b dX7_lengthOfEncodedInteger_0 rfl (lv_at hl 0 rfl) ?_
  refine lv_bipush (v := (nI 15)) X.x X.b dX7_lengthOfEncodedInteger_1 (by decide) ?_
  refine z_icmp_lt (tgt := 17) X.x X.b dX7_lengthOfEncodedInteger_3 (by decide) (by omega) (by omega) (fun c_1 => ?_) (fun c_1 => ?_)
  · refine lv_iconst (v := (nI 0)) X.x X.b dX7_lengthOfEncodedInteger_17 (by decide) ?_
    exact z_iret X hS () (rfl) (by rw [show z_el v = 0 from if_neg (by omega)]) [] rfl rfl dX7_lengthOfEncodedInteger_18
  · refine lv_iload_n X.x X.b dX7_lengthOfEncodedInteger_6 rfl (lv_at hl 0 rfl) ?_
    refine lv_bipush (v := (nI 15)) X.x X.b dX7_lengthOfEncodedInteger_7 (by decide) ?_
    refine z_isub X.x X.b dX7_lengthOfEncodedInteger_9 (by omega) ?_
    refine lv_sipush (v := (nI 255)) X.x X.b dX7_lengthOfEncodedInteger_10 (by decide) ?_
    refine z_idiv X.x X.b dX7_lengthOfEncodedInteger_13 (by omega) (by omega) (by omega) ?_
    refine lv_iconst (v := (nI 1)) X.x X.b dX7_lengthOfEncodedInteger_14 (by decide) ?_
    refine z_iadd X.x X.b dX7_lengthOfEncodedInteger_15 ?_
    exact z_iret X hS () (rfl) (by rw [show z_el v = (v - 15) / 255 + 1 from if_pos (by omega)]) [] rfl rfl dX7_lengthOfEncodedInteger_16
theorem nm_m_seqLen : z_Nm yX7_sequenceLength 2 := by decide +kernel
set_option maxHeartbeats 4000000 in
theorem m_seqLen (l : Launch) (G : z_G) (v : Nat) (hv : v < 2 ^ 29) : z_Mi l yX7_sequenceLength cX7_sequenceLength 4 .int (z_rm 1 0 0 32) 0 0 G z_E0 [.int (nI v), .int (nI 0)] [] (S := Unit) (fun r _ => r = nI (3 + z_el v + v)) (fun _ => []) := by
  refine Mi.mk (by decide) (Nat.le_of_ble_eq_true rfl) ?_
  intro p e s m below meth c A ls X hE hS hl
  have hl : lv_has ls 4 [(0, .int (nI v)), (1, .int (nI 0))] := hl
  have hel := z_el_le v
  refine lv_lconst (v := lN 1) X.x X.b dX7_sequenceLength_0 rfl ?_
  refine lv_iload_n X.x X.b dX7_sequenceLength_1 rfl (lv_at hl 0 rfl) ?_
  refine z_cSi (wr := []) X rfl z_E0ok trivial hS (m_encLen l G v (by omega)) 1 q260 q261 q17 q262 nm_m_encLen ⟨rfl, rfl⟩ ⟨Nat.le_of_ble_eq_true rfl, Nat.le_of_ble_eq_true rfl⟩ [] [] ⟨rfl, rfl, rfl, rfl, by decide⟩ rfl hl.1 rfl (Nat.le_of_ble_eq_true rfl) ⟨Nat.le_of_ble_eq_true rfl, Nat.le_of_ble_eq_true rfl⟩ dX7_sequenceLength_2 (fun r_1 u_2 H locs hp hS => ?_)
  have hS : z_S G [] A s H locs := hS
  obtain rfl : r_1 = nI (z_el v) := hp
  refine lv_i2l (v := lN (z_el v)) X.x X.b dX7_sequenceLength_5 (nI_l (by omega)) ?_
  refine z_ladd X.x X.b dX7_sequenceLength_6 ?_
  refine lv_iload_n X.x X.b dX7_sequenceLength_7 rfl (lv_at hl 0 rfl) ?_
  refine lv_i2l (v := lN v) X.x X.b dX7_sequenceLength_8 (nI_l (by omega)) ?_
  refine z_ladd X.x X.b dX7_sequenceLength_9 ?_
  refine z_ldc2 (v := lN 2) X rfl q263 dX7_sequenceLength_10 ?_
  refine z_ladd X.x X.b dX7_sequenceLength_13 ?_
  refine lv_iload_n X.x X.b dX7_sequenceLength_14 rfl (lv_at hl 1 rfl) ?_
  refine z_cSi (wr := []) X rfl z_E0ok trivial hS (m_encLen l G 0 (by omega)) 1 q260 q261 q17 q262 nm_m_encLen ⟨rfl, rfl⟩ ⟨Nat.le_of_ble_eq_true rfl, Nat.le_of_ble_eq_true rfl⟩ [] [] ⟨rfl, rfl, rfl, rfl, by decide⟩ rfl hl.1 rfl (Nat.le_of_ble_eq_true rfl) ⟨Nat.le_of_ble_eq_true rfl, Nat.le_of_ble_eq_true rfl⟩ dX7_sequenceLength_15 (fun r_3 u_4 H locs hp hS => ?_)
  have hS : z_S G [] A s H locs := hS
  obtain rfl : r_3 = nI 0 := hp
  refine lv_i2l (v := lN 0) X.x X.b dX7_sequenceLength_18 (nI_l (by omega)) ?_
  refine z_ladd X.x X.b dX7_sequenceLength_19 ?_
  refine lv_lstore_n (lv' := [(2, .long (lN ((((1 + (z_el v)) + v) + 2) + 0))), (0, .int (nI v)), (1, .int (nI 0))]) X.x X.b dX7_sequenceLength_20 rfl hl (by decide) rfl (fun ls hl => ?_)
  refine lv_lload_n X.x X.b dX7_sequenceLength_21 rfl (lv_at hl 0 rfl) ?_
  refine z_ldc2 (v := lN 2147483647) X rfl q264 dX7_sequenceLength_22 ?_
  refine W.lcmp X.x X.b dX7_sequenceLength_25 ?_
  refine z_top (y := (-1)) (z_lc (by omega) (by omega)) ?_
  refine lv_if_le (tgt := 39) X.x X.b dX7_sequenceLength_26 (by decide) (fun c0 => ?_) (fun c0 => absurd (by decide) c0)
  refine lv_lload_n X.x X.b dX7_sequenceLength_39 rfl (lv_at hl 0 rfl) ?_
  refine lv_l2i (v := nI ((((1 + (z_el v)) + v) + 2) + 0)) X.x X.b dX7_sequenceLength_40 (lN_i _) ?_
  exact z_iret X hS () (rfl) (congrArg nI (by omega)) [] rfl rfl dX7_sequenceLength_41
theorem nm_m_hash64k : z_Nm yX7_hash64k 1 := by decide +kernel
set_option maxHeartbeats 4000000 in
theorem m_hash64k (l : Launch) (G : z_G) (x : Int32) : z_Mi l yX7_hash64k cX7_hash64k 1 .int (z_rm 0 0 0 0) 0 0 G z_E0 [.int x] [] (S := Unit) (fun r _ => ∃ h : Nat, h < 8192 ∧ r = nI h) (fun _ => []) := by
  refine Mi.mk (by decide) (Nat.le_of_ble_eq_true rfl) ?_
  intro p e s m below meth c A ls X hE hS hl
  have hl : lv_has ls 1 [(0, .int x)] := hl
  refine lv_iload_n X.x X.b dX7_hash64k_0 rfl (lv_at hl 0 rfl) ?_
  refine z_ldc (v := (-1640531535)) X rfl q243 dX7_hash64k_1 ?_
  refine lv_imul X.x X.b dX7_hash64k_3 ?_
  refine lv_bipush (v := (nI 19)) X.x X.b dX7_hash64k_4 (by decide) ?_
  refine lv_iushr X.x X.b dX7_hash64k_6 rfl ?_
  obtain ⟨h, hh, eh⟩ := z_hash (x * (-1640531535))
  refine z_top (y := nI h) eh ?_
  exact z_iret X hS () (rfl) (⟨h, hh, rfl⟩) [] rfl rfl dX7_hash64k_7
end
section
/-! LZ4SafeUtils: its contracts (printed by gen/g12.py) -/
set_option maxRecDepth 100000
theorem z_m18 : (-1 : Int32).toInt8 = -1 := by decide
theorem z_m16 : z_ub (-16 : Int32).toInt8 = 240 := by decide
theorem z_upN {α : Type} (t : Nat → α) {k j : Nat} (v : α) (h : j ≠ k) : va_up t k v j = t j := va_up_ne t v h
theorem z_upS {α : Type} (t : Nat → α) {k j : Nat} (v : α) (h : j = k) : va_up t k v j = v := by rw [h, va_up_self]
theorem z_iinc255 {a : Nat} (h : 255 ≤ a) : nI a + Int32.ofInt (-255) = nI (a - 255) := by
  have e : Int32.ofInt (-255) = - nI 255 := by decide
  rw [e, ← Int32.sub_eq_add_neg, pk_sub h]
set_option maxHeartbeats 4000000 in
theorem lo_copy8 {p : Program} {l : Launch} {e : Env} {s : State} {m : MethodId} {args : Array Value} {below : List Frame} {meth : Method} {c : Code} {A : Nat → Prop} {G : z_G} {Q : State → Prop} (x0 x1 n0 n1 : Nat) (f t0 : Nat → Int8) (so d : Nat) (hs : so + 8 ≤ n0) (hd : d + 8 ≤ n1) (hn0 : n0 < 2 ^ 30) (hn1 : n1 < 2 ^ 30) (X : z_X p s m args meth c yX8_copy8Bytes cX8_copy8Bytes 5 none G A) (K : ∀ (t : Nat → Int8), (∀ j, j < d → t j = t0 j) → (∀ j, j < 8 → t (d + j) = f (so + j)) → ∀ (H : Heap) (locs : List Loc) (ls : Array Slot), z_S G [(x0, z_B G n0 f), (x1, z_B G n1 t)] A s H locs → lv_has ls 5 [] → W p l e (z_rm 0 0 0 0) s m args below meth c H locs 0 0 Q (F0 m 28 ls [])) :
    ∀ (k : Nat) (i : Nat) (t : Nat → Int8), 8 - i < k → i ≤ 8 → (∀ j, j < d → t j = t0 j) → (∀ j, j < i → t (d + j) = f (so + j)) → ∀ (H : Heap) (locs : List Loc) (ls : Array Slot), z_S G [(x0, z_B G n0 f), (x1, z_B G n1 t)] A s H locs → lv_has ls 5 [(0, .ref x0), (1, .int (nI so)), (2, .ref x1), (3, .int (nI d)), (4, .int (nI i))] → W p l e (z_rm 0 0 0 0) s m args below meth c H locs 0 0 Q (F0 m 3 ls []) := by
  intro k
  induction k with
  | zero =>
    intro i t hk
    exact absurd hk (Nat.not_lt_zero _)
  | succ k ih =>
    intro i t hk hi h1 h2 H locs ls hS hl
    refine lv_iload X.x X.b dX8_copy8Bytes_3 (lv_at hl 4 rfl) ?_
    refine lv_bipush (v := (nI 8)) X.x X.b dX8_copy8Bytes_5 (by decide) ?_
    refine z_icmp_ge (tgt := 28) X.x X.b dX8_copy8Bytes_7 (by decide) (by omega) (by omega) (fun c_1 => ?_) (fun c_1 => ?_)
    · exact K t (h1) (fun j hj => h2 j (by omega)) H _ ls hS (lv_sub hl [] rfl)
    · refine lv_aload_n X.x X.b dX8_copy8Bytes_10 rfl (lv_at hl 2 rfl) ?_
      refine lv_iload_n X.x X.b dX8_copy8Bytes_11 rfl (lv_at hl 3 rfl) ?_
      refine lv_iload X.x X.b dX8_copy8Bytes_12 (lv_at hl 4 rfl) ?_
      refine z_iadd X.x X.b dX8_copy8Bytes_14 ?_
      refine lv_aload_n X.x X.b dX8_copy8Bytes_15 rfl (lv_at hl 0 rfl) ?_
      refine lv_iload_n X.x X.b dX8_copy8Bytes_16 rfl (lv_at hl 1 rfl) ?_
      refine lv_iload X.x X.b dX8_copy8Bytes_17 (lv_at hl 4 rfl) ?_
      refine z_iadd X.x X.b dX8_copy8Bytes_19 ?_
      refine z_bald X hS 0 rfl (i := (so + i)) (by omega) (by omega) dX8_copy8Bytes_20 ?_
      refine z_bast8 (ws' := [(x0, z_B G n0 f), (x1, z_B G n1 (va_up t (d + i) (f (so + i))))]) X hS 1 rfl (i := (d + i)) (by omega) (by omega) rfl dX8_copy8Bytes_21 (fun H locs hS => ?_)
      refine z_iinc (d := 1) (lv' := [(4, .int (nI (i + 1))), (0, .ref x0), (1, .int (nI so)), (2, .ref x1), (3, .int (nI d))]) X.x X.b dX8_copy8Bytes_22 hl (k := 4) rfl (by decide) (by decide) rfl (fun ls hl => ?_)
      refine lv_goto (tgt := 3) X.x X.b dX8_copy8Bytes_25 (by decide) ?_
      exact ih (i + 1) (va_up t (d + i) (f (so + i))) (by omega) (by omega) (fun j hj => (z_upN t _ (by omega)).trans (h1 j hj)) (fun j hj => if q : j = i then (by subst q; exact z_upS t _ rfl) else (z_upN t _ (by omega)).trans (h2 j (by omega))) H _ ls hS (lv_sub hl [1, 2, 3, 4, 0] rfl)
theorem nm_m_copy8 : z_Nm yX8_copy8Bytes 4 := by decide +kernel
set_option maxHeartbeats 4000000 in
theorem m_copy8 (l : Launch) (G : z_G) (x0 x1 n0 n1 : Nat) (f t0 : Nat → Int8) (so d : Nat) (hs : so + 8 ≤ n0) (hd : d + 8 ≤ n1) (hn0 : n0 < 2 ^ 30) (hn1 : n1 < 2 ^ 30) : z_Mv l yX8_copy8Bytes cX8_copy8Bytes 5 (z_rm 0 0 0 0) 0 0 G z_E0 [.ref x0, .int (nI so), .ref x1, .int (nI d)] [(x0, z_B G n0 f), (x1, z_B G n1 t0)] (S := Nat → Int8) (fun u => (∀ j, j < d → u j = t0 j) ∧ ∀ j, j < 8 → u (d + j) = f (so + j)) (fun u => [(x0, z_B G n0 f), (x1, z_B G n1 u)]) := by
  refine Mv.mk (by decide) (Nat.le_of_ble_eq_true rfl) ?_
  intro p e s m below meth c A ls X hE hS hl
  have hl : lv_has ls 5 [(0, .ref x0), (1, .int (nI so)), (2, .ref x1), (3, .int (nI d))] := hl
  refine lv_iconst (v := (nI 0)) X.x X.b dX8_copy8Bytes_0 (by decide) ?_
  refine lv_istore (lv' := [(4, .int (nI 0)), (0, .ref x0), (1, .int (nI so)), (2, .ref x1), (3, .int (nI d))]) X.x X.b dX8_copy8Bytes_1 hl (by decide) rfl (fun ls hl => ?_)
  refine lo_copy8 x0 x1 n0 n1 f t0 so d hs hd hn0 hn1 X (fun t h1 h2 H locs ls hS hl => ?_) 9 0 t0 (by omega) (by omega) (fun _ _ => rfl) (fun j hj => absurd hj (Nat.not_lt_zero _)) _ _ ls hS (lv_sub hl [1, 2, 3, 4, 0] rfl)
  exact z_vret X hS t (⟨h1, h2⟩) [0, 1] rfl rfl dX8_copy8Bytes_28
set_option maxHeartbeats 4000000 in
theorem lo_copy8s {p : Program} {l : Launch} {e : Env} {s : State} {m : MethodId} {args : Array Value} {below : List Frame} {meth : Method} {c : Code} {A : Nat → Prop} {G : z_G} {Q : State → Prop} (x0 n : Nat) (t0 : Nat → Int8) (so d : Nat) (hs : so < d) (hd : d + 8 ≤ n) (hn : n < 2 ^ 30) (X : z_X p s m args meth c yX8_copy8Bytes cX8_copy8Bytes 5 none G A) (K : ∀ (t : Nat → Int8), (∀ j, j < d → t j = t0 j) → (∀ j, j < 8 → t (d + j) = t (so + j)) → ∀ (H : Heap) (locs : List Loc) (ls : Array Slot), z_S G [(x0, z_B G n t)] A s H locs → lv_has ls 5 [] → W p l e (z_rm 0 0 0 0) s m args below meth c H locs 0 0 Q (F0 m 28 ls [])) :
    ∀ (k : Nat) (i : Nat) (t : Nat → Int8), 8 - i < k → i ≤ 8 → (∀ j, j < d → t j = t0 j) → (∀ j, j < i → t (d + j) = t (so + j)) → ∀ (H : Heap) (locs : List Loc) (ls : Array Slot), z_S G [(x0, z_B G n t)] A s H locs → lv_has ls 5 [(0, .ref x0), (1, .int (nI so)), (2, .ref x0), (3, .int (nI d)), (4, .int (nI i))] → W p l e (z_rm 0 0 0 0) s m args below meth c H locs 0 0 Q (F0 m 3 ls []) := by
  intro k
  induction k with
  | zero =>
    intro i t hk
    exact absurd hk (Nat.not_lt_zero _)
  | succ k ih =>
    intro i t hk hi h1 h2 H locs ls hS hl
    refine lv_iload X.x X.b dX8_copy8Bytes_3 (lv_at hl 4 rfl) ?_
    refine lv_bipush (v := (nI 8)) X.x X.b dX8_copy8Bytes_5 (by decide) ?_
    refine z_icmp_ge (tgt := 28) X.x X.b dX8_copy8Bytes_7 (by decide) (by omega) (by omega) (fun c_1 => ?_) (fun c_1 => ?_)
    · exact K t (h1) (fun j hj => h2 j (by omega)) H _ ls hS (lv_sub hl [] rfl)
    · refine lv_aload_n X.x X.b dX8_copy8Bytes_10 rfl (lv_at hl 2 rfl) ?_
      refine lv_iload_n X.x X.b dX8_copy8Bytes_11 rfl (lv_at hl 3 rfl) ?_
      refine lv_iload X.x X.b dX8_copy8Bytes_12 (lv_at hl 4 rfl) ?_
      refine z_iadd X.x X.b dX8_copy8Bytes_14 ?_
      refine lv_aload_n X.x X.b dX8_copy8Bytes_15 rfl (lv_at hl 0 rfl) ?_
      refine lv_iload_n X.x X.b dX8_copy8Bytes_16 rfl (lv_at hl 1 rfl) ?_
      refine lv_iload X.x X.b dX8_copy8Bytes_17 (lv_at hl 4 rfl) ?_
      refine z_iadd X.x X.b dX8_copy8Bytes_19 ?_
      refine z_bald X hS 0 rfl (i := (so + i)) (by omega) (by omega) dX8_copy8Bytes_20 ?_
      refine z_bast8 (ws' := [(x0, z_B G n (va_up t (d + i) (t (so + i))))]) X hS 0 rfl (i := (d + i)) (by omega) (by omega) rfl dX8_copy8Bytes_21 (fun H locs hS => ?_)
      refine z_iinc (d := 1) (lv' := [(4, .int (nI (i + 1))), (0, .ref x0), (1, .int (nI so)), (2, .ref x0), (3, .int (nI d))]) X.x X.b dX8_copy8Bytes_22 hl (k := 4) rfl (by decide) (by decide) rfl (fun ls hl => ?_)
      refine lv_goto (tgt := 3) X.x X.b dX8_copy8Bytes_25 (by decide) ?_
      exact ih (i + 1) (va_up t (d + i) (t (so + i))) (by omega) (by omega) (fun j hj => (z_upN t _ (by omega)).trans (h1 j hj)) (fun j hj => if q : j = i then (by subst q; rw [z_upS t _ rfl, z_upN t _ (by omega)]) else (by rw [z_upN t _ (by omega), z_upN t _ (by omega)]; exact h2 j (by omega))) H _ ls hS (lv_sub hl [1, 2, 3, 4, 0] rfl)
theorem nm_m_copy8s : z_Nm yX8_copy8Bytes 4 := by decide +kernel
set_option maxHeartbeats 4000000 in
theorem m_copy8s (l : Launch) (G : z_G) (x0 n : Nat) (t0 : Nat → Int8) (so d : Nat) (hs : so < d) (hd : d + 8 ≤ n) (hn : n < 2 ^ 30) : z_Mv l yX8_copy8Bytes cX8_copy8Bytes 5 (z_rm 0 0 0 0) 0 0 G z_E0 [.ref x0, .int (nI so), .ref x0, .int (nI d)] [(x0, z_B G n t0)] (S := Nat → Int8) (fun u => (∀ j, j < d → u j = t0 j) ∧ ∀ j, j < 8 → u (d + j) = u (so + j)) (fun u => [(x0, z_B G n u)]) := by
  refine Mv.mk (by decide) (Nat.le_of_ble_eq_true rfl) ?_
  intro p e s m below meth c A ls X hE hS hl
  have hl : lv_has ls 5 [(0, .ref x0), (1, .int (nI so)), (2, .ref x0), (3, .int (nI d))] := hl
  refine lv_iconst (v := (nI 0)) X.x X.b dX8_copy8Bytes_0 (by decide) ?_
  refine lv_istore (lv' := [(4, .int (nI 0)), (0, .ref x0), (1, .int (nI so)), (2, .ref x0), (3, .int (nI d))]) X.x X.b dX8_copy8Bytes_1 hl (by decide) rfl (fun ls hl => ?_)
  refine lo_copy8s x0 n t0 so d hs hd hn X (fun t h1 h2 H locs ls hS hl => ?_) 9 0 t0 (by omega) (by omega) (fun _ _ => rfl) (fun j hj => absurd hj (Nat.not_lt_zero _)) _ _ ls hS (lv_sub hl [1, 2, 3, 4, 0] rfl)
  exact z_vret X hS t (⟨h1, h2⟩) [0] rfl rfl dX8_copy8Bytes_28
set_option maxHeartbeats 4000000 in
theorem lo_safeInc {p : Program} {l : Launch} {e : Env} {s : State} {m : MethodId} {args : Array Value} {below : List Frame} {meth : Method} {c : Code} {A : Nat → Prop} {G : z_G} {Q : State → Prop} (x0 n : Nat) (t0 : Nat → Int8) (so d len : Nat) (hs : so < d) (hd : d + len ≤ n) (hn : n < 2 ^ 30) (X : z_X p s m args meth c yX8_safeIncrementalCopy cX8_safeIncrementalCopy 5 none G A) (K : ∀ (t : Nat → Int8), (∀ j, j < d → t j = t0 j) → (∀ j, j < len → t (d + j) = t (so + j)) → ∀ (H : Heap) (locs : List Loc) (ls : Array Slot), z_S G [(x0, z_B G n t)] A s H locs → lv_has ls 5 [] → W p l e (z_rm 0 0 0 0) s m args below meth c H locs 0 0 Q (F0 m 27 ls [])) :
    ∀ (k : Nat) (i : Nat) (t : Nat → Int8), len - i < k → i ≤ len → (∀ j, j < d → t j = t0 j) → (∀ j, j < i → t (d + j) = t (so + j)) → ∀ (H : Heap) (locs : List Loc) (ls : Array Slot), z_S G [(x0, z_B G n t)] A s H locs → lv_has ls 5 [(0, .ref x0), (1, .int (nI so)), (2, .int (nI d)), (3, .int (nI len)), (4, .int (nI i))] → W p l e (z_rm 0 0 0 0) s m args below meth c H locs 0 0 Q (F0 m 3 ls []) := by
  intro k
  induction k with
  | zero =>
    intro i t hk
    exact absurd hk (Nat.not_lt_zero _)
  | succ k ih =>
    intro i t hk hi h1 h2 H locs ls hS hl
    refine lv_iload X.x X.b dX8_safeIncrementalCopy_3 (lv_at hl 4 rfl) ?_
    refine lv_iload_n X.x X.b dX8_safeIncrementalCopy_5 rfl (lv_at hl 3 rfl) ?_
    refine z_icmp_ge (tgt := 27) X.x X.b dX8_safeIncrementalCopy_6 (by decide) (by omega) (by omega) (fun c_1 => ?_) (fun c_1 => ?_)
    · exact K t (h1) (fun j hj => h2 j (by omega)) H _ ls hS (lv_sub hl [] rfl)
    · refine lv_aload_n X.x X.b dX8_safeIncrementalCopy_9 rfl (lv_at hl 0 rfl) ?_
      refine lv_iload_n X.x X.b dX8_safeIncrementalCopy_10 rfl (lv_at hl 2 rfl) ?_
      refine lv_iload X.x X.b dX8_safeIncrementalCopy_11 (lv_at hl 4 rfl) ?_
      refine z_iadd X.x X.b dX8_safeIncrementalCopy_13 ?_
      refine lv_aload_n X.x X.b dX8_safeIncrementalCopy_14 rfl (lv_at hl 0 rfl) ?_
      refine lv_iload_n X.x X.b dX8_safeIncrementalCopy_15 rfl (lv_at hl 1 rfl) ?_
      refine lv_iload X.x X.b dX8_safeIncrementalCopy_16 (lv_at hl 4 rfl) ?_
      refine z_iadd X.x X.b dX8_safeIncrementalCopy_18 ?_
      refine z_bald X hS 0 rfl (i := (so + i)) (by omega) (by omega) dX8_safeIncrementalCopy_19 ?_
      refine z_bast8 (ws' := [(x0, z_B G n (va_up t (d + i) (t (so + i))))]) X hS 0 rfl (i := (d + i)) (by omega) (by omega) rfl dX8_safeIncrementalCopy_20 (fun H locs hS => ?_)
      refine z_iinc (d := 1) (lv' := [(4, .int (nI (i + 1))), (0, .ref x0), (1, .int (nI so)), (2, .int (nI d)), (3, .int (nI len))]) X.x X.b dX8_safeIncrementalCopy_21 hl (k := 4) rfl (by decide) (by decide) rfl (fun ls hl => ?_)
      refine lv_goto (tgt := 3) X.x X.b dX8_safeIncrementalCopy_24 (by decide) ?_
      exact ih (i + 1) (va_up t (d + i) (t (so + i))) (by omega) (by omega) (fun j hj => (z_upN t _ (by omega)).trans (h1 j hj)) (fun j hj => if q : j = i then (by subst q; rw [z_upS t _ rfl, z_upN t _ (by omega)]) else (by rw [z_upN t _ (by omega), z_upN t _ (by omega)]; exact h2 j (by omega))) H _ ls hS (lv_sub hl [1, 2, 3, 4, 0] rfl)
theorem nm_m_safeInc : z_Nm yX8_safeIncrementalCopy 4 := by decide +kernel
set_option maxHeartbeats 4000000 in
theorem m_safeInc (l : Launch) (G : z_G) (x0 n : Nat) (t0 : Nat → Int8) (so d len : Nat) (hs : so < d) (hd : d + len ≤ n) (hn : n < 2 ^ 30) : z_Mv l yX8_safeIncrementalCopy cX8_safeIncrementalCopy 5 (z_rm 0 0 0 0) 0 0 G z_E0 [.ref x0, .int (nI so), .int (nI d), .int (nI len)] [(x0, z_B G n t0)] (S := Nat → Int8) (fun u => (∀ j, j < d → u j = t0 j) ∧ ∀ j, j < len → u (d + j) = u (so + j)) (fun u => [(x0, z_B G n u)]) := by
  refine Mv.mk (by decide) (Nat.le_of_ble_eq_true rfl) ?_
  intro p e s m below meth c A ls X hE hS hl
  have hl : lv_has ls 5 [(0, .ref x0), (1, .int (nI so)), (2, .int (nI d)), (3, .int (nI len))] := hl
  refine lv_iconst (v := (nI 0)) X.x X.b dX8_safeIncrementalCopy_0 (by decide) ?_
  refine lv_istore (lv' := [(4, .int (nI 0)), (0, .ref x0), (1, .int (nI so)), (2, .int (nI d)), (3, .int (nI len))]) X.x X.b dX8_safeIncrementalCopy_1 hl (by decide) rfl (fun ls hl => ?_)
  refine lo_safeInc x0 n t0 so d len hs hd hn X (fun t h1 h2 H locs ls hS hl => ?_) (len + 1) 0 t0 (by omega) (by omega) (fun _ _ => rfl) (fun j hj => absurd hj (Nat.not_lt_zero _)) _ _ ls hS (lv_sub hl [1, 2, 3, 4, 0] rfl)
  exact z_vret X hS t (⟨h1, h2⟩) [0] rfl rfl dX8_safeIncrementalCopy_27
set_option maxHeartbeats 4000000 in
theorem lo_wildInc {p : Program} {l : Launch} {e : Env} {s : State} {m : MethodId} {args : Array Value} {below : List Frame} {meth : Method} {c : Code} {A : Nat → Prop} {G : z_G} {Q : State → Prop} (x0 n : Nat) (t0 : Nat → Int8) (so d en : Nat) (hs : so < d) (hd : en + 7 ≤ n) (hn : n < 2 ^ 30) (X : z_X p s m args meth c yX8_wildIncrementalCopy cX8_wildIncrementalCopy 4 none G A) (K : ∀ (t : Nat → Int8), (∀ j, j < d → t j = t0 j) → (∀ j, d + j < en → t (d + j) = t (so + j)) → ∀ (H : Heap) (locs : List Loc) (ls : Array Slot), z_S G [(x0, z_B G n t)] A s H locs → lv_has ls 4 [] → W p l e (z_rm 1 0 0 24) s m args below meth c H locs 0 0 Q (F0 m 18 ls [])) :
    ∀ (k : Nat) (i : Nat) (a : Nat) (b : Nat) (t : Nat → Int8), en - b < k → a = so + i → b = d + i → b < en → (∀ j, j < d → t j = t0 j) → (∀ j, j < i → t (d + j) = t (so + j)) → ∀ (H : Heap) (locs : List Loc) (ls : Array Slot), z_S G [(x0, z_B G n t)] A s H locs → lv_has ls 4 [(0, .ref x0), (1, .int (nI a)), (2, .int (nI b)), (3, .int (nI en))] → W p l e (z_rm 1 0 0 24) s m args below meth c H locs 0 0 Q (F0 m 0 ls []) := by
  intro k
  induction k with
  | zero =>
    intro i a b t hk
    exact absurd hk (Nat.not_lt_zero _)
  | succ k ih =>
    intro i a b t hk ha hb hi h1 h2 H locs ls hS hl
    refine lv_aload_n X.x X.b dX8_wildIncrementalCopy_0 rfl (lv_at hl 0 rfl) ?_
    refine lv_iload_n X.x X.b dX8_wildIncrementalCopy_1 rfl (lv_at hl 1 rfl) ?_
    refine lv_aload_n X.x X.b dX8_wildIncrementalCopy_2 rfl (lv_at hl 0 rfl) ?_
    refine lv_iload_n X.x X.b dX8_wildIncrementalCopy_3 rfl (lv_at hl 2 rfl) ?_
    refine z_cSv (wr := []) X rfl z_E0ok trivial hS (m_copy8s l G x0 n t a b (by omega) (by omega) hn) 4 q303 q304 q18 q305 nm_m_copy8s ⟨rfl, rfl⟩ ⟨Nat.le_of_ble_eq_true rfl, Nat.le_of_ble_eq_true rfl⟩ [0] [] ⟨rfl, rfl, rfl, rfl, by decide⟩ rfl hl.1 rfl (Nat.le_of_ble_eq_true rfl) ⟨Nat.le_of_ble_eq_true rfl, Nat.le_of_ble_eq_true rfl⟩ dX8_wildIncrementalCopy_4 (fun u H locs hp hS => ?_)
    have hS : z_S G [(x0, z_B G n u)] A s H locs := hS
    obtain ⟨g1, g2⟩ := hp
    refine z_iinc (d := 8) (lv' := [(1, .int (nI (a + 8))), (0, .ref x0), (2, .int (nI b)), (3, .int (nI en))]) X.x X.b dX8_wildIncrementalCopy_7 hl (k := 1) rfl (by decide) (by decide) rfl (fun ls hl => ?_)
    refine z_iinc (d := 8) (lv' := [(2, .int (nI (b + 8))), (1, .int (nI (a + 8))), (0, .ref x0), (3, .int (nI en))]) X.x X.b dX8_wildIncrementalCopy_10 hl (k := 2) rfl (by decide) (by decide) rfl (fun ls hl => ?_)
    refine lv_iload_n X.x X.b dX8_wildIncrementalCopy_13 rfl (lv_at hl 0 rfl) ?_
    refine lv_iload_n X.x X.b dX8_wildIncrementalCopy_14 rfl (lv_at hl 3 rfl) ?_
    refine z_icmp_lt (tgt := 0) X.x X.b dX8_wildIncrementalCopy_15 (by decide) (by omega) (by omega) (fun c_2 => ?_) (fun c_2 => ?_)
    · exact ih (i + 8) (a + 8) (b + 8) u (by omega) (by omega) (by omega) (by omega) (fun j hj => (g1 j (by omega)).trans (h1 j hj)) (fun j hj => if q : j < i then (by rw [g1 _ (by omega), g1 _ (by omega)]; exact h2 j q) else (by have e := g2 (j - i) (by omega); rw [show b + (j - i) = d + j by omega, show a + (j - i) = so + j by omega] at e; exact e)) H _ ls hS (lv_sub hl [2, 1, 0, 3] rfl)
    · exact K u (fun j hj => (g1 j (by omega)).trans (h1 j hj)) (fun j hj => if q : j < i then (by rw [g1 _ (by omega), g1 _ (by omega)]; exact h2 j q) else (by have e := g2 (j - i) (by omega); rw [show b + (j - i) = d + j by omega, show a + (j - i) = so + j by omega] at e; exact e)) H _ ls hS (lv_sub hl [] rfl)
theorem nm_m_wildInc : z_Nm yX8_wildIncrementalCopy 4 := by decide +kernel
set_option maxHeartbeats 4000000 in
theorem m_wildInc (l : Launch) (G : z_G) (x0 n : Nat) (t0 : Nat → Int8) (so d en : Nat) (hs : so < d) (hd : en + 7 ≤ n) (hn : n < 2 ^ 30) (hen : d < en) : z_Mv l yX8_wildIncrementalCopy cX8_wildIncrementalCopy 4 (z_rm 1 0 0 24) 0 0 G z_E0 [.ref x0, .int (nI so), .int (nI d), .int (nI en)] [(x0, z_B G n t0)] (S := Nat → Int8) (fun u => (∀ j, j < d → u j = t0 j) ∧ ∀ j, d + j < en → u (d + j) = u (so + j)) (fun u => [(x0, z_B G n u)]) := by
  refine Mv.mk (by decide) (Nat.le_of_ble_eq_true rfl) ?_
  intro p e s m below meth c A ls X hE hS hl
  have hl : lv_has ls 4 [(0, .ref x0), (1, .int (nI so)), (2, .int (nI d)), (3, .int (nI en))] := hl
  refine lo_wildInc x0 n t0 so d en hs hd hn X (fun t h1 h2 H locs ls hS hl => ?_) (en + 1) 0 so d t0 (by omega) rfl rfl hen (fun _ _ => rfl) (fun j hj => absurd hj (Nat.not_lt_zero _)) _ _ ls hS (lv_sub hl [0, 1, 2, 3] rfl)
  exact z_vret X hS t (⟨h1, h2⟩) [0] rfl rfl dX8_wildIncrementalCopy_18
set_option maxHeartbeats 4000000 in
theorem lo_wild {p : Program} {l : Launch} {e : Env} {s : State} {m : MethodId} {args : Array Value} {below : List Frame} {meth : Method} {c : Code} {A : Nat → Prop} {G : z_G} {Q : State → Prop} (x0 x1 n0 n1 : Nat) (f t0 : Nat → Int8) (so d len : Nat) (hs : so + len + 7 ≤ n0) (hd : d + len + 7 ≤ n1) (hn0 : n0 < 2 ^ 30) (hn1 : n1 < 2 ^ 30) (X : z_X p s m args meth c yX8_wildArraycopy cX8_wildArraycopy 6 none G A) (K : ∀ (t : Nat → Int8), (∀ j, j < d → t j = t0 j) → (∀ j, j < len → t (d + j) = f (so + j)) → ∀ (H : Heap) (locs : List Loc) (ls : Array Slot), z_S G [(x0, z_B G n0 f), (x1, z_B G n1 t)] A s H locs → lv_has ls 6 [] → W p l e (z_rm 1 0 0 24) s m args below meth c H locs 0 0 Q (F0 m 29 ls [])) :
    ∀ (k : Nat) (i : Nat) (t : Nat → Int8), len + 8 - i < k → i < len + 8 → (∀ j, j < d → t j = t0 j) → (∀ j, j < i → t (d + j) = f (so + j)) → ∀ (H : Heap) (locs : List Loc) (ls : Array Slot), z_S G [(x0, z_B G n0 f), (x1, z_B G n1 t)] A s H locs → lv_has ls 6 [(0, .ref x0), (1, .int (nI so)), (2, .ref x1), (3, .int (nI d)), (4, .int (nI len)), (5, .int (nI i))] → W p l e (z_rm 1 0 0 24) s m args below meth c H locs 0 0 Q (F0 m 3 ls []) := by
  intro k
  induction k with
  | zero =>
    intro i t hk
    exact absurd hk (Nat.not_lt_zero _)
  | succ k ih =>
    intro i t hk hi h1 h2 H locs ls hS hl
    refine lv_iload X.x X.b dX8_wildArraycopy_3 (lv_at hl 5 rfl) ?_
    refine lv_iload X.x X.b dX8_wildArraycopy_5 (lv_at hl 4 rfl) ?_
    refine z_icmp_ge (tgt := 29) X.x X.b dX8_wildArraycopy_7 (by decide) (by omega) (by omega) (fun c_1 => ?_) (fun c_1 => ?_)
    · exact K t (h1) (fun j hj => h2 j (by omega)) H _ ls hS (lv_sub hl [] rfl)
    · refine lv_aload_n X.x X.b dX8_wildArraycopy_10 rfl (lv_at hl 0 rfl) ?_
      refine lv_iload_n X.x X.b dX8_wildArraycopy_11 rfl (lv_at hl 1 rfl) ?_
      refine lv_iload X.x X.b dX8_wildArraycopy_12 (lv_at hl 5 rfl) ?_
      refine z_iadd X.x X.b dX8_wildArraycopy_14 ?_
      refine lv_aload_n X.x X.b dX8_wildArraycopy_15 rfl (lv_at hl 2 rfl) ?_
      refine lv_iload_n X.x X.b dX8_wildArraycopy_16 rfl (lv_at hl 3 rfl) ?_
      refine lv_iload X.x X.b dX8_wildArraycopy_17 (lv_at hl 5 rfl) ?_
      refine z_iadd X.x X.b dX8_wildArraycopy_19 ?_
      refine z_cSv (wr := []) X rfl z_E0ok trivial hS (m_copy8 l G x0 x1 n0 n1 f t (so + i) (d + i) (by omega) (by omega) hn0 hn1) 4 q303 q304 q18 q305 nm_m_copy8 ⟨rfl, rfl⟩ ⟨Nat.le_of_ble_eq_true rfl, Nat.le_of_ble_eq_true rfl⟩ [0, 1] [] ⟨rfl, rfl, rfl, rfl, by decide⟩ rfl hl.1 rfl (Nat.le_of_ble_eq_true rfl) ⟨Nat.le_of_ble_eq_true rfl, Nat.le_of_ble_eq_true rfl⟩ dX8_wildArraycopy_20 (fun u H locs hp hS => ?_)
      have hS : z_S G [(x0, z_B G n0 f), (x1, z_B G n1 u)] A s H locs := hS
      obtain ⟨g1, g2⟩ := hp
      refine z_iinc (d := 8) (lv' := [(5, .int (nI (i + 8))), (0, .ref x0), (1, .int (nI so)), (2, .ref x1), (3, .int (nI d)), (4, .int (nI len))]) X.x X.b dX8_wildArraycopy_23 hl (k := 5) rfl (by decide) (by decide) rfl (fun ls hl => ?_)
      refine lv_goto (tgt := 3) X.x X.b dX8_wildArraycopy_26 (by decide) ?_
      exact ih (i + 8) u (by omega) (by omega) (fun j hj => (g1 j (by omega)).trans (h1 j hj)) (fun j hj => if q : j < i then (by rw [g1 _ (by omega)]; exact h2 j q) else (by have e := g2 (j - i) (by omega); rw [show d + i + (j - i) = d + j by omega, show so + i + (j - i) = so + j by omega] at e; exact e)) H _ ls hS (lv_sub hl [1, 2, 3, 4, 5, 0] rfl)
theorem nm_m_wild : z_Nm yX8_wildArraycopy 5 := by decide +kernel
set_option maxHeartbeats 4000000 in
theorem m_wild (l : Launch) (G : z_G) (x0 x1 n0 n1 : Nat) (f t0 : Nat → Int8) (so d len : Nat) (hs : so + len + 7 ≤ n0) (hd : d + len + 7 ≤ n1) (hn0 : n0 < 2 ^ 30) (hn1 : n1 < 2 ^ 30) : z_MvW l yX8_wildArraycopy cX8_wildArraycopy 6 [(0, 29, 32, 32)] (z_rm 1 0 0 24) 0 0 G z_E0 [.ref x0, .int (nI so), .ref x1, .int (nI d), .int (nI len)] [(x0, z_B G n0 f), (x1, z_B G n1 t0)] (S := Nat → Int8) (fun u => (∀ j, j < d → u j = t0 j) ∧ ∀ j, j < len → u (d + j) = f (so + j)) (fun u => [(x0, z_B G n0 f), (x1, z_B G n1 u)]) := by
  refine MvW.mk (by decide) (Nat.le_of_ble_eq_true rfl) ?_
  intro p e s m below meth c A ls X hE hS hl
  have hl : lv_has ls 6 [(0, .ref x0), (1, .int (nI so)), (2, .ref x1), (3, .int (nI d)), (4, .int (nI len))] := hl
  refine lv_iconst (v := (nI 0)) X.x X.b dX8_wildArraycopy_0 (by decide) ?_
  refine lv_istore (lv' := [(5, .int (nI 0)), (0, .ref x0), (1, .int (nI so)), (2, .ref x1), (3, .int (nI d)), (4, .int (nI len))]) X.x X.b dX8_wildArraycopy_1 hl (by decide) rfl (fun ls hl => ?_)
  refine lo_wild x0 x1 n0 n1 f t0 so d len hs hd hn0 hn1 X (fun t h1 h2 H locs ls hS hl => ?_) (len + 9) 0 t0 (by omega) (by omega) (fun _ _ => rfl) (fun j hj => absurd hj (Nat.not_lt_zero _)) _ _ ls hS (lv_sub hl [1, 2, 3, 4, 5, 0] rfl)
  refine lv_goto (tgt := 44) X.x X.b dX8_wildArraycopy_29 (by decide) ?_
  exact z_vret X hS t (⟨h1, h2⟩) [0, 1] rfl rfl dX8_wildArraycopy_44
set_option maxHeartbeats 4000000 in
theorem lo_common {p : Program} {l : Launch} {e : Env} {s : State} {m : MethodId} {args : Array Value} {below : List Frame} {meth : Method} {c : Code} {A : Nat → Prop} {G : z_G} {Q : State → Prop} (x0 n : Nat) (t : Nat → Int8) (o1 o2 lim : Nat) (h12 : o1 < o2) (hl2 : o2 ≤ lim) (hlim : lim ≤ n) (hn : n < 2 ^ 30) (X : z_X p s m args meth c yX8_commonBytes cX8_commonBytes 5 (some .int) G A) (K : ∀ (i : Nat), o2 + i ≤ lim → (∀ j, j < i → t (o1 + j) = t (o2 + j)) → (o2 + i < lim → t (o1 + i) ≠ t (o2 + i)) → ∀ (H : Heap) (locs : List Loc) (ls : Array Slot), z_S G [(x0, z_B G n t)] A s H locs → lv_has ls 5 [(4, .int (nI i))] → W p l e (z_rm 0 0 0 0) s m args below meth c H locs 0 0 Q (F0 m 29 ls [])) :
    ∀ (k : Nat) (i : Nat) (a : Nat) (b : Nat), lim + 1 - b < k → a = o1 + i → b = o2 + i → b ≤ lim → (∀ j, j < i → t (o1 + j) = t (o2 + j)) → ∀ (H : Heap) (locs : List Loc) (ls : Array Slot), z_S G [(x0, z_B G n t)] A s H locs → lv_has ls 5 [(0, .ref x0), (1, .int (nI a)), (2, .int (nI b)), (3, .int (nI lim)), (4, .int (nI i))] → W p l e (z_rm 0 0 0 0) s m args below meth c H locs 0 0 Q (F0 m 3 ls []) := by
  intro k
  induction k with
  | zero =>
    intro i a b hk
    exact absurd hk (Nat.not_lt_zero _)
  | succ k ih =>
    intro i a b hk ha hb hbl h2 H locs ls hS hl
    refine lv_iload_n X.x X.b dX8_commonBytes_3 rfl (lv_at hl 2 rfl) ?_
    refine lv_iload_n X.x X.b dX8_commonBytes_4 rfl (lv_at hl 3 rfl) ?_
    refine z_icmp_ge (tgt := 29) X.x X.b dX8_commonBytes_5 (by decide) (by omega) (by omega) (fun c_1 => ?_) (fun c_1 => ?_)
    · exact K i (by omega) (h2) (fun q => absurd q (by omega)) H _ ls hS (lv_sub hl [4] rfl)
    · refine lv_aload_n X.x X.b dX8_commonBytes_8 rfl (lv_at hl 0 rfl) ?_
      refine lv_iload_n X.x X.b dX8_commonBytes_9 rfl (lv_at hl 1 rfl) ?_
      refine z_iinc (d := 1) (lv' := [(1, .int (nI (a + 1))), (0, .ref x0), (2, .int (nI b)), (3, .int (nI lim)), (4, .int (nI i))]) X.x X.b dX8_commonBytes_10 hl (k := 1) rfl (by decide) (by decide) rfl (fun ls hl => ?_)
      refine z_bald X hS 0 rfl (i := a) (by omega) (by omega) dX8_commonBytes_13 ?_
      refine lv_aload_n X.x X.b dX8_commonBytes_14 rfl (lv_at hl 1 rfl) ?_
      refine lv_iload_n X.x X.b dX8_commonBytes_15 rfl (lv_at hl 2 rfl) ?_
      refine z_iinc (d := 1) (lv' := [(2, .int (nI (b + 1))), (1, .int (nI (a + 1))), (0, .ref x0), (3, .int (nI lim)), (4, .int (nI i))]) X.x X.b dX8_commonBytes_16 hl (k := 2) rfl (by decide) (by decide) rfl (fun ls hl => ?_)
      refine z_bald X hS 0 rfl (i := b) (by omega) (by omega) dX8_commonBytes_19 ?_
      refine z_icmp_ne8 (tgt := 29) X.x X.b dX8_commonBytes_20 (by decide) (fun c8 => ?_) (fun c8 => ?_)
      · exact K i (by omega) (h2) (fun _ q => c8 (by rw [ha, hb]; exact q)) H _ ls hS (lv_sub hl [4] rfl)
      · refine z_iinc (d := 1) (lv' := [(4, .int (nI (i + 1))), (2, .int (nI (b + 1))), (1, .int (nI (a + 1))), (0, .ref x0), (3, .int (nI lim))]) X.x X.b dX8_commonBytes_23 hl (k := 4) rfl (by decide) (by decide) rfl (fun ls hl => ?_)
        refine lv_goto (tgt := 3) X.x X.b dX8_commonBytes_26 (by decide) ?_
        exact ih (i + 1) (a + 1) (b + 1) (by omega) (by omega) (by omega) (by omega) (fun j hj => if q : j = i then (by subst q; rw [← ha, ← hb]; exact c8) else h2 j (by omega)) H _ ls hS (lv_sub hl [3, 2, 1, 4, 0] rfl)
theorem nm_m_common : z_Nm yX8_commonBytes 4 := by decide +kernel
set_option maxHeartbeats 4000000 in
theorem m_common (l : Launch) (G : z_G) (x0 n : Nat) (t : Nat → Int8) (o1 o2 lim : Nat) (h12 : o1 < o2) (hl2 : o2 ≤ lim) (hlim : lim ≤ n) (hn : n < 2 ^ 30) : z_Mi l yX8_commonBytes cX8_commonBytes 5 .int (z_rm 0 0 0 0) 0 0 G z_E0 [.ref x0, .int (nI o1), .int (nI o2), .int (nI lim)] [(x0, z_B G n t)] (S := Unit) (fun r _ => ∃ i, r = nI i ∧ o2 + i ≤ lim ∧ (∀ j, j < i → t (o1 + j) = t (o2 + j)) ∧ (o2 + i < lim → t (o1 + i) ≠ t (o2 + i))) (fun _ => [(x0, z_B G n t)]) := by
  refine Mi.mk (by decide) (Nat.le_of_ble_eq_true rfl) ?_
  intro p e s m below meth c A ls X hE hS hl
  have hl : lv_has ls 5 [(0, .ref x0), (1, .int (nI o1)), (2, .int (nI o2)), (3, .int (nI lim))] := hl
  refine lv_iconst (v := (nI 0)) X.x X.b dX8_commonBytes_0 (by decide) ?_
  refine lv_istore (lv' := [(4, .int (nI 0)), (0, .ref x0), (1, .int (nI o1)), (2, .int (nI o2)), (3, .int (nI lim))]) X.x X.b dX8_commonBytes_1 hl (by decide) rfl (fun ls hl => ?_)
  refine lo_common x0 n t o1 o2 lim h12 hl2 hlim hn X (fun i g0 g1 g2 H locs ls hS hl => ?_) (lim + 2) 0 o1 o2 (by omega) rfl rfl hl2 (fun j hj => absurd hj (Nat.not_lt_zero _)) _ _ ls hS (lv_sub hl [1, 2, 3, 4, 0] rfl)
  refine lv_iload X.x X.b dX8_commonBytes_29 (lv_at hl 0 rfl) ?_
  exact z_iret X hS () (rfl) (⟨i, rfl, g0, g1, g2⟩) [0] rfl rfl dX8_commonBytes_31
set_option maxHeartbeats 4000000 in
theorem lo_backw {p : Program} {l : Launch} {e : Env} {s : State} {m : MethodId} {args : Array Value} {below : List Frame} {meth : Method} {c : Code} {A : Nat → Prop} {G : z_G} {Q : State → Prop} (x0 n : Nat) (t : Nat → Int8) (o1 o2 l1 l2 : Nat) (h1 : l1 ≤ o1) (h2 : l2 ≤ o2) (hn1 : o1 ≤ n) (hn2 : o2 ≤ n) (hn : n < 2 ^ 30) (X : z_X p s m args meth c yX8_commonBytesBackward cX8_commonBytesBackward 6 (some .int) G A) (K : ∀ (i : Nat) (a : Nat) (b : Nat), a + i = o1 → b + i = o2 → l1 ≤ a → l2 ≤ b → (∀ j, j < i → t (a + j) = t (b + j)) → ∀ (H : Heap) (locs : List Loc) (ls : Array Slot), z_S G [(x0, z_B G n t)] A s H locs → lv_has ls 6 [(5, .int (nI i))] → W p l e (z_rm 0 0 0 0) s m args below meth c H locs 0 0 Q (F0 m 35 ls [])) :
    ∀ (k : Nat) (i : Nat) (a : Nat) (b : Nat), a < k → a + i = o1 → b + i = o2 → l1 ≤ a → l2 ≤ b → (∀ j, j < i → t (a + j) = t (b + j)) → ∀ (H : Heap) (locs : List Loc) (ls : Array Slot), z_S G [(x0, z_B G n t)] A s H locs → lv_has ls 6 [(0, .ref x0), (1, .int (nI a)), (2, .int (nI b)), (3, .int (nI l1)), (4, .int (nI l2)), (5, .int (nI i))] → W p l e (z_rm 0 0 0 0) s m args below meth c H locs 0 0 Q (F0 m 3 ls []) := by
  intro k
  induction k with
  | zero =>
    intro i a b hk
    exact absurd hk (Nat.not_lt_zero _)
  | succ k ih =>
    intro i a b hk ha hb hla hlb h5 H locs ls hS hl
    refine lv_iload_n X.x X.b dX8_commonBytesBackward_3 rfl (lv_at hl 1 rfl) ?_
    refine lv_iload_n X.x X.b dX8_commonBytesBackward_4 rfl (lv_at hl 3 rfl) ?_
    refine z_icmp_le (tgt := 35) X.x X.b dX8_commonBytesBackward_5 (by decide) (by omega) (by omega) (fun c_1 => ?_) (fun c_1 => ?_)
    · exact K i a b (ha) (hb) (hla) (hlb) (h5) H _ ls hS (lv_sub hl [5] rfl)
    · refine lv_iload_n X.x X.b dX8_commonBytesBackward_8 rfl (lv_at hl 2 rfl) ?_
      refine lv_iload X.x X.b dX8_commonBytesBackward_9 (lv_at hl 4 rfl) ?_
      refine z_icmp_le (tgt := 35) X.x X.b dX8_commonBytesBackward_11 (by decide) (by omega) (by omega) (fun c_2 => ?_) (fun c_2 => ?_)
      · exact K i a b (ha) (hb) (hla) (hlb) (h5) H _ ls hS (lv_sub hl [5] rfl)
      · refine lv_aload_n X.x X.b dX8_commonBytesBackward_14 rfl (lv_at hl 0 rfl) ?_
        refine lv_iinc (v := nI (a - 1)) (lv' := [(1, .int (nI (a - 1))), (0, .ref x0), (2, .int (nI b)), (3, .int (nI l1)), (4, .int (nI l2)), (5, .int (nI i))]) X.x X.b dX8_commonBytesBackward_15 hl (k := 1) rfl (z_dec (by omega)) (by decide) rfl (fun ls hl => ?_)
        refine lv_iload_n X.x X.b dX8_commonBytesBackward_18 rfl (lv_at hl 0 rfl) ?_
        refine z_bald X hS 0 rfl (i := (a - 1)) (by omega) (by omega) dX8_commonBytesBackward_19 ?_
        refine lv_aload_n X.x X.b dX8_commonBytesBackward_20 rfl (lv_at hl 1 rfl) ?_
        refine lv_iinc (v := nI (b - 1)) (lv' := [(2, .int (nI (b - 1))), (1, .int (nI (a - 1))), (0, .ref x0), (3, .int (nI l1)), (4, .int (nI l2)), (5, .int (nI i))]) X.x X.b dX8_commonBytesBackward_21 hl (k := 2) rfl (z_dec (by omega)) (by decide) rfl (fun ls hl => ?_)
        refine lv_iload_n X.x X.b dX8_commonBytesBackward_24 rfl (lv_at hl 0 rfl) ?_
        refine z_bald X hS 0 rfl (i := (b - 1)) (by omega) (by omega) dX8_commonBytesBackward_25 ?_
        refine z_icmp_ne8 (tgt := 35) X.x X.b dX8_commonBytesBackward_26 (by decide) (fun c8 => ?_) (fun c8 => ?_)
        · exact K i a b (ha) (hb) (hla) (hlb) (h5) H _ ls hS (lv_sub hl [5] rfl)
        · refine z_iinc (d := 1) (lv' := [(5, .int (nI (i + 1))), (2, .int (nI (b - 1))), (1, .int (nI (a - 1))), (0, .ref x0), (3, .int (nI l1)), (4, .int (nI l2))]) X.x X.b dX8_commonBytesBackward_29 hl (k := 5) rfl (by decide) (by decide) rfl (fun ls hl => ?_)
          refine lv_goto (tgt := 3) X.x X.b dX8_commonBytesBackward_32 (by decide) ?_
          exact ih (i + 1) (a - 1) (b - 1) (by omega) (by omega) (by omega) (by omega) (by omega) (fun j hj => if q : j = 0 then (by subst q; exact c8) else (by have e := h5 (j - 1) (by omega); rw [show a - 1 + j = a + (j - 1) by omega, show b - 1 + j = b + (j - 1) by omega]; exact e)) H _ ls hS (lv_sub hl [3, 2, 1, 4, 5, 0] rfl)
theorem nm_m_backw : z_Nm yX8_commonBytesBackward 5 := by decide +kernel
set_option maxHeartbeats 4000000 in
theorem m_backw (l : Launch) (G : z_G) (x0 n : Nat) (t : Nat → Int8) (o1 o2 l1 l2 : Nat) (h1 : l1 ≤ o1) (h2 : l2 ≤ o2) (hn1 : o1 ≤ n) (hn2 : o2 ≤ n) (hn : n < 2 ^ 30) : z_Mi l yX8_commonBytesBackward cX8_commonBytesBackward 6 .int (z_rm 0 0 0 0) 0 0 G z_E0 [.ref x0, .int (nI o1), .int (nI o2), .int (nI l1), .int (nI l2)] [(x0, z_B G n t)] (S := Unit) (fun r _ => ∃ i a b, r = nI i ∧ a + i = o1 ∧ b + i = o2 ∧ l1 ≤ a ∧ l2 ≤ b ∧ ∀ j, j < i → t (a + j) = t (b + j)) (fun _ => [(x0, z_B G n t)]) := by
  refine Mi.mk (by decide) (Nat.le_of_ble_eq_true rfl) ?_
  intro p e s m below meth c A ls X hE hS hl
  have hl : lv_has ls 6 [(0, .ref x0), (1, .int (nI o1)), (2, .int (nI o2)), (3, .int (nI l1)), (4, .int (nI l2))] := hl
  refine lv_iconst (v := (nI 0)) X.x X.b dX8_commonBytesBackward_0 (by decide) ?_
  refine lv_istore (lv' := [(5, .int (nI 0)), (0, .ref x0), (1, .int (nI o1)), (2, .int (nI o2)), (3, .int (nI l1)), (4, .int (nI l2))]) X.x X.b dX8_commonBytesBackward_1 hl (by decide) rfl (fun ls hl => ?_)
  refine lo_backw x0 n t o1 o2 l1 l2 h1 h2 hn1 hn2 hn X (fun i a b g0 g1 g2 g3 g4 H locs ls hS hl => ?_) (o1 + 1) 0 o1 o2 (by omega) rfl rfl h1 h2 (fun j hj => absurd hj (Nat.not_lt_zero _)) _ _ ls hS (lv_sub hl [1, 2, 3, 4, 5, 0] rfl)
  refine lv_iload X.x X.b dX8_commonBytesBackward_35 (lv_at hl 0 rfl) ?_
  exact z_iret X hS () (rfl) (⟨i, a, b, rfl, g0, g1, g2, g3, g4⟩) [0] rfl rfl dX8_commonBytesBackward_37
theorem nm_m_eq4 : z_Nm yX8_readIntEquals 3 := by decide +kernel
set_option maxHeartbeats 4000000 in
theorem m_eq4 (l : Launch) (G : z_G) (x0 n : Nat) (t : Nat → Int8) (i k : Nat) (hi : i + 4 ≤ n) (hk : k + 4 ≤ n) (hn : n < 2 ^ 30) : z_Mi l yX8_readIntEquals cX8_readIntEquals 3 .boolean (z_rm 0 0 0 0) 0 0 G z_E0 [.ref x0, .int (nI i), .int (nI k)] [(x0, z_B G n t)] (S := Unit) (fun r _ => r = 0 ↔ ¬ ∀ j, j < 4 → t (i + j) = t (k + j)) (fun _ => [(x0, z_B G n t)]) := by
  refine Mi.mk (by decide) (Nat.le_of_ble_eq_true rfl) ?_
  intro p e s m below meth c A ls X hE hS hl
  have hl : lv_has ls 3 [(0, .ref x0), (1, .int (nI i)), (2, .int (nI k))] := hl
  refine lv_aload_n X.x X.b dX8_readIntEquals_0 rfl (lv_at hl 0 rfl) ?_
  refine lv_iload_n X.x X.b dX8_readIntEquals_1 rfl (lv_at hl 1 rfl) ?_
  refine z_bald X hS 0 rfl (i := i) (by omega) (by omega) dX8_readIntEquals_2 ?_
  refine lv_aload_n X.x X.b dX8_readIntEquals_3 rfl (lv_at hl 0 rfl) ?_
  refine lv_iload_n X.x X.b dX8_readIntEquals_4 rfl (lv_at hl 2 rfl) ?_
  refine z_bald X hS 0 rfl (i := k) (by omega) (by omega) dX8_readIntEquals_5 ?_
  refine z_icmp_ne8 (tgt := 52) X.x X.b dX8_readIntEquals_6 (by decide) (fun c0 => ?_) (fun c0 => ?_)
  · refine lv_iconst (v := (nI 0)) X.x X.b dX8_readIntEquals_52 (by decide) ?_
    exact z_iret X hS () (rfl) (⟨fun _ h => c0 (h 0 (by decide)), fun _ => rfl⟩) [0] rfl rfl dX8_readIntEquals_53
  · refine lv_aload_n X.x X.b dX8_readIntEquals_9 rfl (lv_at hl 0 rfl) ?_
    refine lv_iload_n X.x X.b dX8_readIntEquals_10 rfl (lv_at hl 1 rfl) ?_
    refine lv_iconst (v := (nI 1)) X.x X.b dX8_readIntEquals_11 (by decide) ?_
    refine z_iadd X.x X.b dX8_readIntEquals_12 ?_
    refine z_bald X hS 0 rfl (i := (i + 1)) (by omega) (by omega) dX8_readIntEquals_13 ?_
    refine lv_aload_n X.x X.b dX8_readIntEquals_14 rfl (lv_at hl 0 rfl) ?_
    refine lv_iload_n X.x X.b dX8_readIntEquals_15 rfl (lv_at hl 2 rfl) ?_
    refine lv_iconst (v := (nI 1)) X.x X.b dX8_readIntEquals_16 (by decide) ?_
    refine z_iadd X.x X.b dX8_readIntEquals_17 ?_
    refine z_bald X hS 0 rfl (i := (k + 1)) (by omega) (by omega) dX8_readIntEquals_18 ?_
    refine z_icmp_ne8 (tgt := 52) X.x X.b dX8_readIntEquals_19 (by decide) (fun c1 => ?_) (fun c1 => ?_)
    · refine lv_iconst (v := (nI 0)) X.x X.b dX8_readIntEquals_52 (by decide) ?_
      exact z_iret X hS () (rfl) (⟨fun _ h => c1 (h 1 (by decide)), fun _ => rfl⟩) [0] rfl rfl dX8_readIntEquals_53
    · refine lv_aload_n X.x X.b dX8_readIntEquals_22 rfl (lv_at hl 0 rfl) ?_
      refine lv_iload_n X.x X.b dX8_readIntEquals_23 rfl (lv_at hl 1 rfl) ?_
      refine lv_iconst (v := (nI 2)) X.x X.b dX8_readIntEquals_24 (by decide) ?_
      refine z_iadd X.x X.b dX8_readIntEquals_25 ?_
      refine z_bald X hS 0 rfl (i := (i + 2)) (by omega) (by omega) dX8_readIntEquals_26 ?_
      refine lv_aload_n X.x X.b dX8_readIntEquals_27 rfl (lv_at hl 0 rfl) ?_
      refine lv_iload_n X.x X.b dX8_readIntEquals_28 rfl (lv_at hl 2 rfl) ?_
      refine lv_iconst (v := (nI 2)) X.x X.b dX8_readIntEquals_29 (by decide) ?_
      refine z_iadd X.x X.b dX8_readIntEquals_30 ?_
      refine z_bald X hS 0 rfl (i := (k + 2)) (by omega) (by omega) dX8_readIntEquals_31 ?_
      refine z_icmp_ne8 (tgt := 52) X.x X.b dX8_readIntEquals_32 (by decide) (fun c2 => ?_) (fun c2 => ?_)
      · refine lv_iconst (v := (nI 0)) X.x X.b dX8_readIntEquals_52 (by decide) ?_
        exact z_iret X hS () (rfl) (⟨fun _ h => c2 (h 2 (by decide)), fun _ => rfl⟩) [0] rfl rfl dX8_readIntEquals_53
      · refine lv_aload_n X.x X.b dX8_readIntEquals_35 rfl (lv_at hl 0 rfl) ?_
        refine lv_iload_n X.x X.b dX8_readIntEquals_36 rfl (lv_at hl 1 rfl) ?_
        refine lv_iconst (v := (nI 3)) X.x X.b dX8_readIntEquals_37 (by decide) ?_
        refine z_iadd X.x X.b dX8_readIntEquals_38 ?_
        refine z_bald X hS 0 rfl (i := (i + 3)) (by omega) (by omega) dX8_readIntEquals_39 ?_
        refine lv_aload_n X.x X.b dX8_readIntEquals_40 rfl (lv_at hl 0 rfl) ?_
        refine lv_iload_n X.x X.b dX8_readIntEquals_41 rfl (lv_at hl 2 rfl) ?_
        refine lv_iconst (v := (nI 3)) X.x X.b dX8_readIntEquals_42 (by decide) ?_
        refine z_iadd X.x X.b dX8_readIntEquals_43 ?_
        refine z_bald X hS 0 rfl (i := (k + 3)) (by omega) (by omega) dX8_readIntEquals_44 ?_
        refine z_icmp_ne8 (tgt := 52) X.x X.b dX8_readIntEquals_45 (by decide) (fun c3 => ?_) (fun c3 => ?_)
        · refine lv_iconst (v := (nI 0)) X.x X.b dX8_readIntEquals_52 (by decide) ?_
          exact z_iret X hS () (rfl) (⟨fun _ h => c3 (h 3 (by decide)), fun _ => rfl⟩) [0] rfl rfl dX8_readIntEquals_53
        · refine lv_iconst (v := (nI 1)) X.x X.b dX8_readIntEquals_48 (by decide) ?_
          refine lv_goto (tgt := 53) X.x X.b dX8_readIntEquals_49 (by decide) ?_
          exact z_iret X hS () (rfl) (⟨fun h => absurd h (by decide), fun h => absurd (fun j hj => co_4 (P := fun j => t (i + j) = t (k + j)) c0 c1 c2 c3 hj) h⟩) [0] rfl rfl dX8_readIntEquals_53
theorem nm_m_safeCopy : z_Nm yX8_safeArraycopy 5 := by decide +kernel
set_option maxHeartbeats 4000000 in
theorem m_safeCopy (l : Launch) (G : z_G) (x0 x1 n0 n1 : Nat) (f t0 : Nat → Int8) (so d len : Nat) (hs : so + len ≤ n0) (hd : d + len ≤ n1) (hn0 : n0 < 2 ^ 30) (hn1 : n1 < 2 ^ 30) : z_Mv l yX8_safeArraycopy cX8_safeArraycopy 5 (z_rm 1 0 0 40) 0 0 G z_E0 [.ref x0, .int (nI so), .ref x1, .int (nI d), .int (nI len)] [(x0, z_B G n0 f), (x1, z_B G n1 t0)] (S := Nat → Int8) (fun u => u = va_cpy f t0 so d len) (fun u => [(x0, z_B G n0 f), (x1, z_B G n1 u)]) := by
  refine Mv.mk (by decide) (Nat.le_of_ble_eq_true rfl) ?_
  intro p e s m below meth c A ls X hE hS hl
  have hl : lv_has ls 5 [(0, .ref x0), (1, .int (nI so)), (2, .ref x1), (3, .int (nI d)), (4, .int (nI len))] := hl
  refine lv_aload_n X.x X.b dX8_safeArraycopy_0 rfl (lv_at hl 0 rfl) ?_
  refine lv_iload_n X.x X.b dX8_safeArraycopy_1 rfl (lv_at hl 1 rfl) ?_
  refine lv_aload_n X.x X.b dX8_safeArraycopy_2 rfl (lv_at hl 2 rfl) ?_
  refine lv_iload_n X.x X.b dX8_safeArraycopy_3 rfl (lv_at hl 3 rfl) ?_
  refine lv_iload X.x X.b dX8_safeArraycopy_4 (lv_at hl 4 rfl) ?_
  refine z_copy (ws' := [(x0, z_B G n0 f), (x1, z_B G n1 (va_cpy f t0 so d len))]) X rfl hl.1 q335 hS 0 1 rfl rfl (by omega) (by omega) (by omega) (by omega) (by omega) (by decide) (by decide) rfl dX8_safeArraycopy_6 (fun H locs hS => ?_)
  exact z_vret X hS _ (rfl) [0, 1] rfl rfl dX8_safeArraycopy_9
set_option maxHeartbeats 4000000 in
theorem lo_wlen {p : Program} {l : Launch} {e : Env} {s : State} {m : MethodId} {args : Array Value} {below : List Frame} {meth : Method} {c : Code} {A : Nat → Prop} {G : z_G} {Q : State → Prop} (x0 n : Nat) (t0 : Nat → Int8) (len d : Nat) (hd : d + len / 255 + 1 ≤ n) (hn : n < 2 ^ 30) (hlen : len < 2 ^ 30) (X : z_X p s m args meth c yX8_writeLen cX8_writeLen 3 (some .int) G A) (K : ∀ (q : Nat) (a : Nat) (b : Nat) (t : Nat → Int8), a + 255 * q = len → b = d + q → a < 255 → (∀ j, j < d → t j = t0 j) → (∀ j, j < q → z_ub (t (d + j)) = 255) → ∀ (H : Heap) (locs : List Loc) (ls : Array Slot), z_S G [(x0, z_B G n t)] A s H locs → lv_has ls 3 [(0, .int (nI a)), (1, .ref x0), (2, .int (nI b))] → W p l e (z_rm 0 0 0 0) s m args below meth c H locs 0 0 Q (F0 m 23 ls [])) :
    ∀ (k : Nat) (q : Nat) (a : Nat) (b : Nat) (t : Nat → Int8), a < k → a + 255 * q = len → b = d + q → (∀ j, j < d → t j = t0 j) → (∀ j, j < q → z_ub (t (d + j)) = 255) → ∀ (H : Heap) (locs : List Loc) (ls : Array Slot), z_S G [(x0, z_B G n t)] A s H locs → lv_has ls 3 [(0, .int (nI a)), (1, .ref x0), (2, .int (nI b))] → W p l e (z_rm 0 0 0 0) s m args below meth c H locs 0 0 Q (F0 m 0 ls []) := by
  intro k
  induction k with
  | zero =>
    intro q a b t hk
    exact absurd hk (Nat.not_lt_zero _)
  | succ k ih =>
    intro q a b t hk ha hb h1 h2 H locs ls hS hl
    refine lv_iload_n X.x X.b dX8_writeLen_0 rfl (lv_at hl 0 rfl) ?_
    refine lv_sipush (v := (nI 255)) X.x X.b dX8_writeLen_1 (by decide) ?_
    refine z_icmp_lt (tgt := 23) X.x X.b dX8_writeLen_4 (by decide) (by omega) (by omega) (fun c_1 => ?_) (fun c_1 => ?_)
    · exact K q a b t (by omega) (hb) (by omega) (h1) (h2) H _ ls hS (lv_sub hl [0, 1, 2] rfl)
    · refine lv_aload_n X.x X.b dX8_writeLen_7 rfl (lv_at hl 1 rfl) ?_
      refine lv_iload_n X.x X.b dX8_writeLen_8 rfl (lv_at hl 2 rfl) ?_
      refine z_iinc (d := 1) (lv' := [(2, .int (nI (b + 1))), (0, .int (nI a)), (1, .ref x0)]) X.x X.b dX8_writeLen_9 hl (k := 2) rfl (by decide) (by decide) rfl (fun ls hl => ?_)
      refine lv_iconst (v := (-1 : Int32)) X.x X.b dX8_writeLen_12 (by decide) ?_
      refine z_bast (ws' := [(x0, z_B G n (va_up t b ((-1 : Int32).toInt8)))]) X hS 0 rfl (i := b) (by omega) (by omega) rfl dX8_writeLen_13 (fun H locs hS => ?_)
      refine z_iincW (d := a - 255) (lv' := [(0, .int (nI (a - 255))), (2, .int (nI (b + 1))), (1, .ref x0)]) X.x X.b dX8_writeLen_14 hl (k := 1) rfl (z_iinc255 (by omega)) (by decide) rfl (fun ls hl => ?_)
      refine lv_goto (tgt := 0) X.x X.b dX8_writeLen_20 (by decide) ?_
      exact ih (q + 1) (a - 255) (b + 1) (va_up t b ((-1 : Int32).toInt8)) (by omega) (by omega) (by omega) (fun j hj => (z_upN t _ (by omega)).trans (h1 j hj)) (fun j hj => if qq : j = q then (by rw [qq, z_upS t _ (by omega), z_m18]; exact z_ubm1) else (by rw [z_upN t _ (by omega)]; exact h2 j (by omega))) H _ ls hS (lv_sub hl [0, 2, 1] rfl)
theorem nm_m_writeLen : z_Nm yX8_writeLen 3 := by decide +kernel
set_option maxHeartbeats 4000000 in
theorem m_writeLen (l : Launch) (G : z_G) (x0 n : Nat) (t0 : Nat → Int8) (len d : Nat) (hd : d + len / 255 + 1 ≤ n) (hn : n < 2 ^ 30) (hlen : len < 2 ^ 30) : z_Mi l yX8_writeLen cX8_writeLen 3 .int (z_rm 0 0 0 0) 0 0 G z_E0 [.int (nI len), .ref x0, .int (nI d)] [(x0, z_B G n t0)] (S := Nat → Int8) (fun r u => r = nI (d + len / 255 + 1) ∧ z_ext u d len (d + len / 255 + 1) ∧ ∀ j, j < d → u j = t0 j) (fun u => [(x0, z_B G n u)]) := by
  refine Mi.mk (by decide) (Nat.le_of_ble_eq_true rfl) ?_
  intro p e s m below meth c A ls X hE hS hl
  have hl : lv_has ls 3 [(0, .int (nI len)), (1, .ref x0), (2, .int (nI d))] := hl
  refine lo_wlen x0 n t0 len d hd hn hlen X (fun q a b t ha hb hx h1 h2 H locs ls hS hl => ?_) (len + 1) 0 len d t0 (by omega) (by omega) (by omega) (fun _ _ => rfl) (fun j hj => absurd hj (Nat.not_lt_zero _)) _ _ ls hS (lv_sub hl [0, 1, 2] rfl)
  have hq : q = len / 255 := by omega
  have hr : a = len % 255 := by omega
  refine lv_aload_n X.x X.b dX8_writeLen_23 rfl (lv_at hl 1 rfl) ?_
  refine lv_iload_n X.x X.b dX8_writeLen_24 rfl (lv_at hl 2 rfl) ?_
  refine z_iinc (d := 1) (lv' := [(2, .int (nI (b + 1))), (0, .int (nI a)), (1, .ref x0)]) X.x X.b dX8_writeLen_25 hl (k := 2) rfl (by decide) (by decide) rfl (fun ls hl => ?_)
  refine lv_iload_n X.x X.b dX8_writeLen_28 rfl (lv_at hl 1 rfl) ?_
  refine lv_i2b X.x X.b dX8_writeLen_29 rfl ?_
  refine z_bast8 (ws' := [(x0, z_B G n (va_up t b ((nI a).toInt8)))]) X hS 0 rfl (i := b) (by omega) (by omega) rfl dX8_writeLen_30 (fun H locs hS => ?_)
  refine lv_iload_n X.x X.b dX8_writeLen_31 rfl (lv_at hl 0 rfl) ?_
  exact z_iret X hS (va_up t b ((nI a).toInt8)) (rfl) (⟨congrArg nI (by omega), ⟨rfl, fun j hj => (congrArg z_ub (z_upN t _ (by omega))).trans (h2 j (by omega)), by rw [z_upS t _ (by omega), z_ubN, ← hr]; omega⟩, fun j hj => (z_upN t _ (by omega)).trans (h1 j hj)⟩) [0] rfl rfl dX8_writeLen_32
theorem nm_m_last : z_Nm yX8_lastLiterals 6 := by decide +kernel
set_option maxHeartbeats 4000000 in
theorem m_last (l : Launch) (G : z_G) (x0 x1 n0 n1 : Nat) (f t0 : Nat → Int8) (so d len : Nat) (hs : so + len ≤ n0) (hd : d + 1 + z_el len + len ≤ n1) (hn0 : n0 < 2 ^ 28) (hn1 : n1 < 2 ^ 28) : z_Mi l yX8_lastLiterals cX8_lastLiterals 7 .int (z_rm 1 0 0 60) 0 0 G z_E0 [.ref x0, .int (nI so), .int (nI len), .ref x1, .int (nI d), .int (nI n1)] [(x0, z_B G n0 f), (x1, z_B G n1 t0)] (S := Nat → Int8) (fun r u => r = nI (d + 1 + z_el len + len) ∧ (∀ j, j < d → u j = t0 j) ∧ z_ub (u d) = min len 15 * 16 ∧ z_lit u f d so len (d + 1 + z_el len)) (fun u => [(x0, z_B G n0 f), (x1, z_B G n1 u)]) := by
  refine Mi.mk (by decide) (Nat.le_of_ble_eq_true rfl) ?_
  intro p e s m below meth c A ls X hE hS hl
  have hl : lv_has ls 7 [(0, .ref x0), (1, .int (nI so)), (2, .int (nI len)), (3, .ref x1), (4, .int (nI d)), (5, .int (nI n1))] := hl
  refine lv_iload_n X.x X.b dX8_lastLiterals_0 rfl (lv_at hl 2 rfl) ?_
  refine lv_istore (lv' := [(6, .int (nI len)), (0, .ref x0), (1, .int (nI so)), (2, .int (nI len)), (3, .ref x1), (4, .int (nI d)), (5, .int (nI n1))]) X.x X.b dX8_lastLiterals_1 hl (by decide) rfl (fun ls hl => ?_)
  refine lv_iload X.x X.b dX8_lastLiterals_3 (lv_at hl 6 rfl) ?_
  refine lv_iload X.x X.b dX8_lastLiterals_5 (lv_at hl 5 rfl) ?_
  refine z_isub X.x X.b dX8_lastLiterals_7 (by omega) ?_
  refine lv_iconst (v := (nI 1)) X.x X.b dX8_lastLiterals_8 (by decide) ?_
  refine lv_iload X.x X.b dX8_lastLiterals_9 (lv_at hl 0 rfl) ?_
  refine z_cSi (wr := [(x0, z_B G n0 f), (x1, z_B G n1 t0)]) X rfl z_E0ok trivial hS (m_encLen l G len (by omega)) 1 q322 q261 q17 q262 nm_m_encLen ⟨rfl, rfl⟩ ⟨Nat.le_of_ble_eq_true rfl, Nat.le_of_ble_eq_true rfl⟩ [] [0, 1] ⟨rfl, rfl, rfl, rfl, by decide⟩ rfl hl.1 rfl (Nat.le_of_ble_eq_true rfl) ⟨Nat.le_of_ble_eq_true rfl, Nat.le_of_ble_eq_true rfl⟩ dX8_lastLiterals_11 (fun r_1 u_2 H locs hp hS => ?_)
  have hS : z_S G [(x0, z_B G n0 f), (x1, z_B G n1 t0)] A s H locs := hS
  obtain rfl : r_1 = nI (z_el len) := hp
  refine z_iadd X.x X.b dX8_lastLiterals_14 ?_
  refine lv_iload X.x X.b dX8_lastLiterals_15 (lv_at hl 0 rfl) ?_
  refine z_iadd X.x X.b dX8_lastLiterals_17 ?_
  have hel := z_el_le len
  refine z_cSi (wr := [(x0, z_B G n0 f), (x1, z_B G n1 t0)]) X rfl z_E0ok trivial hS (m_notEnough l G (n1 - d) (1 + z_el len + len) (by omega) (by omega)) 2 q323 q283 q17 q284 nm_m_notEnough ⟨rfl, rfl⟩ ⟨Nat.le_of_ble_eq_true rfl, Nat.le_of_ble_eq_true rfl⟩ [] [0, 1] ⟨rfl, rfl, rfl, rfl, by decide⟩ rfl hl.1 rfl (Nat.le_of_ble_eq_true rfl) ⟨Nat.le_of_ble_eq_true rfl, Nat.le_of_ble_eq_true rfl⟩ dX8_lastLiterals_18 (fun r_3 u_4 H locs hp hS => ?_)
  have hS : z_S G [(x0, z_B G n0 f), (x1, z_B G n1 t0)] A s H locs := hS
  refine lv_if_eq (tgt := 32) X.x X.b dX8_lastLiterals_21 (by decide) (fun c0 => ?_) (fun c0 => absurd (hp.mpr (by omega)) c0)
  refine lv_iload X.x X.b dX8_lastLiterals_32 (lv_at hl 0 rfl) ?_
  refine lv_bipush (v := (nI 15)) X.x X.b dX8_lastLiterals_34 (by decide) ?_
  refine z_icmp_lt (tgt := 64) X.x X.b dX8_lastLiterals_36 (by decide) (by omega) (by omega) (fun c_5 => ?_) (fun c_5 => ?_)
  · have hel2 : z_el len = 0 := if_neg (by omega)
    have hz : d + 1 = d + 1 + z_el len := by omega
    refine lv_aload_n X.x X.b dX8_lastLiterals_64 rfl (lv_at hl 4 rfl) ?_
    refine lv_iload X.x X.b dX8_lastLiterals_65 (lv_at hl 5 rfl) ?_
    refine z_iinc (d := 1) (lv' := [(4, .int (nI (d + 1))), (6, .int (nI len)), (0, .ref x0), (1, .int (nI so)), (2, .int (nI len)), (3, .ref x1), (5, .int (nI n1))]) X.x X.b dX8_lastLiterals_67 hl (k := 5) rfl (by decide) (by decide) rfl (fun ls hl => ?_)
    refine lv_iload X.x X.b dX8_lastLiterals_70 (lv_at hl 1 rfl) ?_
    refine lv_iconst (v := (nI 4)) X.x X.b dX8_lastLiterals_72 (by decide) ?_
    refine lv_ishl X.x X.b dX8_lastLiterals_73 ?_
    refine z_top (y := (nI (len * 16))) (pk_shlN (nI 4 &&& 31) 4 (by decide) (by omega)) ?_
    refine lv_i2b X.x X.b dX8_lastLiterals_74 rfl ?_
    refine z_bast8 (ws' := [(x0, z_B G n0 f), (x1, z_B G n1 (va_up t0 d ((nI (len * 16)).toInt8)))]) X hS 1 rfl (i := d) (by omega) (by omega) rfl dX8_lastLiterals_75 (fun H locs hS => ?_)
    rw [hz] at hl
    refine lv_aload_n X.x X.b dX8_lastLiterals_76 rfl (lv_at hl 2 rfl) ?_
    refine lv_iload_n X.x X.b dX8_lastLiterals_77 rfl (lv_at hl 3 rfl) ?_
    refine lv_aload_n X.x X.b dX8_lastLiterals_78 rfl (lv_at hl 5 rfl) ?_
    refine lv_iload X.x X.b dX8_lastLiterals_79 (lv_at hl 0 rfl) ?_
    refine lv_iload X.x X.b dX8_lastLiterals_81 (lv_at hl 1 rfl) ?_
    refine z_copy (ws' := [(x0, z_B G n0 f), (x1, z_B G n1 (va_cpy f (va_up t0 d ((nI (len * 16)).toInt8)) so (d + 1 + z_el len) len))]) X rfl hl.1 q335 hS 0 1 rfl rfl (by omega) (by omega) (by omega) (by omega) (by omega) (by decide) (by decide) rfl dX8_lastLiterals_83 (fun H locs hS => ?_)
    refine lv_iload X.x X.b dX8_lastLiterals_86 (lv_at hl 0 rfl) ?_
    refine lv_iload X.x X.b dX8_lastLiterals_88 (lv_at hl 1 rfl) ?_
    refine z_iadd X.x X.b dX8_lastLiterals_90 ?_
    refine lv_istore (lv' := [(4, .int (nI ((d + 1 + z_el len) + len))), (6, .int (nI len)), (0, .ref x0), (1, .int (nI so)), (2, .int (nI len)), (3, .ref x1), (5, .int (nI n1))]) X.x X.b dX8_lastLiterals_91 hl (by decide) rfl (fun ls hl => ?_)
    refine lv_iload X.x X.b dX8_lastLiterals_93 (lv_at hl 0 rfl) ?_
    exact z_iret X hS (va_cpy f (va_up t0 d ((nI (len * 16)).toInt8)) so (d + 1 + z_el len) len) (rfl) (⟨rfl, fun j hj => (pk_cpy_out (Or.inl (by omega))).trans (z_upN t0 _ (by omega)), by rw [pk_cpy_out (Or.inl (by omega)), z_upS t0 _ rfl, z_ubN]; omega, ⟨⟨fun _ => by omega, fun q => absurd q (by omega)⟩, fun j hj => (pk_cpy_in (by omega) (by omega)).trans (congrArg f (by omega))⟩⟩) [0, 1] rfl rfl dX8_lastLiterals_95
  · refine lv_aload_n X.x X.b dX8_lastLiterals_39 rfl (lv_at hl 4 rfl) ?_
    refine lv_iload X.x X.b dX8_lastLiterals_40 (lv_at hl 5 rfl) ?_
    refine z_iinc (d := 1) (lv' := [(4, .int (nI (d + 1))), (6, .int (nI len)), (0, .ref x0), (1, .int (nI so)), (2, .int (nI len)), (3, .ref x1), (5, .int (nI n1))]) X.x X.b dX8_lastLiterals_42 hl (k := 5) rfl (by decide) (by decide) rfl (fun ls hl => ?_)
    refine lv_bipush (v := (-16 : Int32)) X.x X.b dX8_lastLiterals_45 (by decide) ?_
    refine z_bast (ws' := [(x0, z_B G n0 f), (x1, z_B G n1 (va_up t0 d ((-16 : Int32).toInt8)))]) X hS 1 rfl (i := d) (by omega) (by omega) rfl dX8_lastLiterals_47 (fun H locs hS => ?_)
    refine lv_iload X.x X.b dX8_lastLiterals_48 (lv_at hl 1 rfl) ?_
    refine lv_bipush (v := (nI 15)) X.x X.b dX8_lastLiterals_50 (by decide) ?_
    refine z_isub X.x X.b dX8_lastLiterals_52 (by omega) ?_
    refine lv_aload_n X.x X.b dX8_lastLiterals_53 rfl (lv_at hl 5 rfl) ?_
    refine lv_iload X.x X.b dX8_lastLiterals_54 (lv_at hl 0 rfl) ?_
    have hel2 : z_el len = (len - 15) / 255 + 1 := if_pos (by omega)
    refine z_cSi (wr := [(x0, z_B G n0 f)]) X rfl z_E0ok trivial hS (m_writeLen l G x1 n1 (va_up t0 d ((-16 : Int32).toInt8)) (len - 15) (d + 1) (by omega) (by omega) (by omega)) 3 q334 q292 q18 q293 nm_m_writeLen ⟨rfl, rfl⟩ ⟨Nat.le_of_ble_eq_true rfl, Nat.le_of_ble_eq_true rfl⟩ [1] [0] ⟨rfl, rfl, rfl, rfl, by decide⟩ rfl hl.1 rfl (Nat.le_of_ble_eq_true rfl) ⟨Nat.le_of_ble_eq_true rfl, Nat.le_of_ble_eq_true rfl⟩ dX8_lastLiterals_56 (fun r_6 u H locs hp hS => ?_)
    have hS : z_S G [(x0, z_B G n0 f), (x1, z_B G n1 u)] A s H locs := hS
    obtain ⟨rfl, g1, g2⟩ := hp
    refine z_top (y := nI (d + 1 + z_el len)) (congrArg nI (by omega)) ?_
    refine lv_istore (lv' := [(4, .int (nI (d + 1 + z_el len))), (6, .int (nI len)), (0, .ref x0), (1, .int (nI so)), (2, .int (nI len)), (3, .ref x1), (5, .int (nI n1))]) X.x X.b dX8_lastLiterals_59 hl (by decide) rfl (fun ls hl => ?_)
    refine lv_goto (tgt := 76) X.x X.b dX8_lastLiterals_61 (by decide) ?_
    refine lv_aload_n X.x X.b dX8_lastLiterals_76 rfl (lv_at hl 2 rfl) ?_
    refine lv_iload_n X.x X.b dX8_lastLiterals_77 rfl (lv_at hl 3 rfl) ?_
    refine lv_aload_n X.x X.b dX8_lastLiterals_78 rfl (lv_at hl 5 rfl) ?_
    refine lv_iload X.x X.b dX8_lastLiterals_79 (lv_at hl 0 rfl) ?_
    refine lv_iload X.x X.b dX8_lastLiterals_81 (lv_at hl 1 rfl) ?_
    refine z_copy (ws' := [(x0, z_B G n0 f), (x1, z_B G n1 (va_cpy f u so (d + 1 + z_el len) len))]) X rfl hl.1 q335 hS 0 1 rfl rfl (by omega) (by omega) (by omega) (by omega) (by omega) (by decide) (by decide) rfl dX8_lastLiterals_83 (fun H locs hS => ?_)
    refine lv_iload X.x X.b dX8_lastLiterals_86 (lv_at hl 0 rfl) ?_
    refine lv_iload X.x X.b dX8_lastLiterals_88 (lv_at hl 1 rfl) ?_
    refine z_iadd X.x X.b dX8_lastLiterals_90 ?_
    refine lv_istore (lv' := [(4, .int (nI ((d + 1 + z_el len) + len))), (6, .int (nI len)), (0, .ref x0), (1, .int (nI so)), (2, .int (nI len)), (3, .ref x1), (5, .int (nI n1))]) X.x X.b dX8_lastLiterals_91 hl (by decide) rfl (fun ls hl => ?_)
    refine lv_iload X.x X.b dX8_lastLiterals_93 (lv_at hl 0 rfl) ?_
    exact z_iret X hS (va_cpy f u so (d + 1 + z_el len) len) (rfl) (⟨rfl, fun j hj => (pk_cpy_out (Or.inl (by omega))).trans ((g2 j (by omega)).trans (z_upN t0 _ (by omega))), by rw [pk_cpy_out (Or.inl (by omega)), g2 d (by omega), z_upS t0 _ rfl, z_m16]; omega, ⟨⟨fun q => absurd q (by omega), fun _ => z_ext_c (by rw [show d + 1 + z_el len = d + 1 + (len - 15) / 255 + 1 by omega]; exact g1) (fun q q1 q2 => pk_cpy_out (Or.inl (by omega)))⟩, fun j hj => (pk_cpy_in (by omega) (by omega)).trans (congrArg f (by omega))⟩⟩) [0, 1] rfl rfl dX8_lastLiterals_95
end
section
/-! LZ4JavaSafeSafeDecompressor.decompress: its contract (printed by gen/g13.py) -/
set_option maxRecDepth 100000
/-- what stands at a place of the packed text: its literals; then the end, or a match and the rest -/
theorem z_dk_head {p t : Nat → Int8} {n L : Nat} (j i o : Nat) (h : z_dk p t n L j i o) : ∃ lit lo i1 : Nat, z_ub (p i) = min lit 15 * 16 + lo ∧ lo < 16 ∧ z_lit p t i o lit i1 ∧ i1 + lit ≤ L ∧ o + lit ≤ n ∧
    ((L = i1 + lit ∧ o + lit = n) ∨ ∃ j' ml off i' : Nat, j = j' + 1 ∧ lo = min ml 15 ∧ z_ub (p (i1 + lit)) + 256 * z_ub (p (i1 + lit + 1)) = off ∧ 1 ≤ off ∧ off ≤ o + lit ∧ z_len p (i1 + lit + 2) ml i' ∧ (∀ j, j < ml + 4 → t (o + lit + j) = t (o + lit + j - off)) ∧ o + lit + 12 ≤ n ∧ o + lit + (ml + 4) + 5 ≤ n ∧ z_dk p t n L j' i' (o + lit + (ml + 4)) ∧ i1 + lit + 8 ≤ L ∧ i' + 6 ≤ L) := by
  match j, h with
  | 0, h =>
    obtain ⟨h1, i1, h2, h3, h4⟩ := h
    exact ⟨n - o, 0, i1, by omega, by omega, h3, by omega, by omega, Or.inl ⟨h4, by omega⟩⟩
  | j' + 1, h =>
    obtain ⟨i', o', h1, h2⟩ := h
    obtain ⟨lit, ml, off, i1, g1, g2, g3, g4, g5, g6, g7, rfl, g9, g10⟩ := h1
    have h5 := z_dk_len j' i' _ h2 g10
    have h6 := z_len_j g6
    exact ⟨lit, min ml 15, i1, g1, by omega, g2, by omega, by omega, Or.inr ⟨j', ml, off, i', rfl, rfl, g3, g4, g5, g6, g7, g9, g10, h2, by omega, h5⟩⟩
theorem z_ub_lt1 {p : Nat → Int8} (i : Nat) : z_ub (p i) < 256 := z_ub_lt _
set_option maxHeartbeats 4000000 in
theorem lo_decL {p0 : Program} {l : Launch} {e : Env} {s : State} {m : MethodId} {args : Array Value} {below : List Frame} {meth : Method} {c : Code} {A : Nat → Prop} {G : z_G} {Q : State → Prop} (x1 x2 : Nat) (p : Nat → Int8) (L : Nat) (hL : L ≤ 16464) (d : Nat → Int8) (o i0 v i1 : Nat) (hx : z_ext p i0 v i1) (hi1 : i1 ≤ L) (tok : Nat) (X : z_X p0 s m args meth c yX5_decompress cX5_decompress 18 (some .int) G A) (K : ∀ (x : Int8), z_ub x = v % 255 → ∀ (H : Heap) (locs : List Loc) (ls : Array Slot), z_S G [(x1, z_B G 16464 p), (x2, z_B G 16384 d)] A s H locs → lv_has ls 18 [(1, .ref x1), (2, .int (nI 0)), (4, .ref x2), (5, .int (nI 0)), (7, .int (nI L)), (8, .int (nI 16384)), (9, .int (nI i1)), (10, .int (nI o)), (12, .int (nI (15 + 255 * (v / 255)))), (13, .int (x).toInt32), (11, .int (nI tok))] → W p0 l e (z_rm 2 0 0 70) s m args below meth c H locs 0 0 Q (F0 m 156 ls [])) :
    ∀ (k : Nat) (ct : Nat) (sp : Nat) (a : Nat), v / 255 - ct < k → sp = i0 + ct → a = 15 + 255 * ct → ct ≤ v / 255 → ∀ (H : Heap) (locs : List Loc) (ls : Array Slot), z_S G [(x1, z_B G 16464 p), (x2, z_B G 16384 d)] A s H locs → lv_has ls 18 [(1, .ref x1), (2, .int (nI 0)), (4, .ref x2), (5, .int (nI 0)), (7, .int (nI L)), (8, .int (nI 16384)), (9, .int (nI sp)), (10, .int (nI o)), (12, .int (nI a)), (11, .int (nI tok))] → W p0 l e (z_rm 2 0 0 70) s m args below meth c H locs 0 0 Q (F0 m 112 ls []) := by
  intro k
  induction k with
  | zero =>
    intro ct sp a hk
    exact absurd hk (Nat.not_lt_zero _)
  | succ k ih =>
    intro ct sp a hk hs ha hc H locs ls hS hl
    have hxj := hx.1
    refine lv_iload X.x X.b dX5_decompress_112 (lv_at hl 6 rfl) ?_
    refine lv_iload X.x X.b dX5_decompress_114 (lv_at hl 4 rfl) ?_
    refine z_icmp_ge (tgt := 156) X.x X.b dX5_decompress_116 (by decide) (by omega) (by omega) (fun c_1 => by exfalso; omega) (fun c_1 => ?_)
    refine lv_aload_n X.x X.b dX5_decompress_119 rfl (lv_at hl 0 rfl) ?_
    refine lv_iload X.x X.b dX5_decompress_120 (lv_at hl 6 rfl) ?_
    refine z_iinc (d := 1) (lv' := [(9, .int (nI (sp + 1))), (1, .ref x1), (2, .int (nI 0)), (4, .ref x2), (5, .int (nI 0)), (7, .int (nI L)), (8, .int (nI 16384)), (10, .int (nI o)), (12, .int (nI a)), (11, .int (nI tok))]) X.x X.b dX5_decompress_122 hl (k := 6) rfl (by decide) (by decide) rfl (fun ls hl => ?_)
    refine z_cSi (wr := [(x2, z_B G 16384 d)]) X rfl z_E0ok trivial hS (m_readByte l G x1 16464 p sp (by omega) (by decide)) 2 q362 q317 q9 q318 nm_m_readByte ⟨rfl, rfl⟩ ⟨Nat.le_of_ble_eq_true rfl, Nat.le_of_ble_eq_true rfl⟩ [0] [1] ⟨rfl, rfl, rfl, rfl, by decide⟩ rfl hl.1 rfl (Nat.le_of_ble_eq_true rfl) ⟨Nat.le_of_ble_eq_true rfl, Nat.le_of_ble_eq_true rfl⟩ dX5_decompress_125 (fun r_2 u_3 H locs hp hS => ?_)
    have hS : z_S G [(x2, z_B G 16384 d), (x1, z_B G 16464 p)] A s H locs := hS
    obtain rfl : r_2 = (p sp).toInt32 := hp
    have hS := hS.sub (ws' := [(x1, z_B G 16464 p), (x2, z_B G 16384 d)]) [1, 0] rfl rfl
    refine lv_dup X.x X.b dX5_decompress_128 rfl ?_
    refine lv_istore (lv' := [(13, .int (p sp).toInt32), (9, .int (nI (sp + 1))), (1, .ref x1), (2, .int (nI 0)), (4, .ref x2), (5, .int (nI 0)), (7, .int (nI L)), (8, .int (nI 16384)), (10, .int (nI o)), (12, .int (nI a)), (11, .int (nI tok))]) X.x X.b dX5_decompress_129 hl (by decide) rfl (fun ls hl => ?_)
    refine lv_iconst (v := (-1 : Int32)) X.x X.b dX5_decompress_131 (by decide) ?_
    have hu := z_ub_lt (p sp)
    refine lv_icmp_ne (tgt := 156) X.x X.b dX5_decompress_132 (by decide) (fun c9 => ?_) (fun c9 => ?_)
    · have hc2 : ct = v / 255 := by rcases Nat.lt_or_ge ct (v / 255) with q | q; exact absurd ((z_m1_iff _).mpr (by rw [hs]; exact hx.2.1 ct q)) c9; omega
      have hl : lv_has ls 18 [(13, .int (p sp).toInt32), (9, .int (nI i1)), (1, .ref x1), (2, .int (nI 0)), (4, .ref x2), (5, .int (nI 0)), (7, .int (nI L)), (8, .int (nI 16384)), (10, .int (nI o)), (12, .int (nI a)), (11, .int (nI tok))] := by have e : sp + 1 = i1 := (by rw [hx.1]; omega); rw [e] at hl; exact hl
      have hl : lv_has ls 18 [(13, .int (p sp).toInt32), (9, .int (nI i1)), (1, .ref x1), (2, .int (nI 0)), (4, .ref x2), (5, .int (nI 0)), (7, .int (nI L)), (8, .int (nI 16384)), (10, .int (nI o)), (12, .int (nI (15 + 255 * (v / 255)))), (11, .int (nI tok))] := by have e : a = 15 + 255 * (v / 255) := (by omega); rw [e] at hl; exact hl
      exact K (p sp) (by rw [hs, hc2]; exact hx.2.2) H _ ls hS (lv_sub hl [2, 3, 4, 5, 6, 7, 1, 8, 9, 0, 10] rfl)
    · have c8 := (z_m1_iff _).mp c9
      have hc2 : ct < v / 255 := by rcases Nat.lt_or_ge ct (v / 255) with q | q; exact q; (have q2 : ct = v / 255 := by omega); (rw [hs, q2, hx.2.2] at c8; omega)
      refine z_iincW (d := a + 255) (lv' := [(12, .int (nI (a + 255))), (13, .int (p sp).toInt32), (9, .int (nI (sp + 1))), (1, .ref x1), (2, .int (nI 0)), (4, .ref x2), (5, .int (nI 0)), (7, .int (nI L)), (8, .int (nI 16384)), (10, .int (nI o)), (11, .int (nI tok))]) X.x X.b dX5_decompress_135 hl (k := 9) rfl (nI_add a 255) (by decide) rfl (fun ls hl => ?_)
      refine lv_iload X.x X.b dX5_decompress_141 (lv_at hl 0 rfl) ?_
      refine z_if_ge (tgt := 112) X.x X.b dX5_decompress_143 (by decide) (by omega) ?_
      exact ih (ct + 1) (sp + 1) (a + 255) (by omega) (by omega) (by omega) (by omega) H _ ls hS (lv_sub hl [3, 4, 5, 6, 7, 8, 2, 9, 0, 10] rfl)
set_option maxHeartbeats 4000000 in
theorem lo_decM {p0 : Program} {l : Launch} {e : Env} {s : State} {m : MethodId} {args : Array Value} {below : List Frame} {meth : Method} {c : Code} {A : Nat → Prop} {G : z_G} {Q : State → Prop} (x1 x2 : Nat) (p : Nat → Int8) (L : Nat) (hL : L ≤ 16464) (d : Nat → Int8) (o i0 v i1 : Nat) (hx : z_ext p i0 v i1) (hi1 : i1 ≤ L) (tok : Nat) (lit off mo lc : Nat) (X : z_X p0 s m args meth c yX5_decompress cX5_decompress 18 (some .int) G A) (K : ∀ (x : Int8), z_ub x = v % 255 → ∀ (H : Heap) (locs : List Loc) (ls : Array Slot), z_S G [(x1, z_B G 16464 p), (x2, z_B G 16384 d)] A s H locs → lv_has ls 18 [(1, .ref x1), (2, .int (nI 0)), (4, .ref x2), (5, .int (nI 0)), (7, .int (nI L)), (8, .int (nI 16384)), (9, .int (nI i1)), (10, .int (nI o)), (16, .int (nI (15 + 255 * (v / 255)))), (17, .int (x).toInt32), (11, .int (nI tok)), (14, .int (nI off)), (15, .int (nI mo))] → W p0 l e (z_rm 2 0 0 70) s m args below meth c H locs 0 0 Q (F0 m 400 ls [])) :
    ∀ (k : Nat) (ct : Nat) (sp : Nat) (a : Nat), v / 255 - ct < k → sp = i0 + ct → a = 15 + 255 * ct → ct ≤ v / 255 → ∀ (H : Heap) (locs : List Loc) (ls : Array Slot), z_S G [(x1, z_B G 16464 p), (x2, z_B G 16384 d)] A s H locs → lv_has ls 18 [(1, .ref x1), (2, .int (nI 0)), (4, .ref x2), (5, .int (nI 0)), (7, .int (nI L)), (8, .int (nI 16384)), (9, .int (nI sp)), (10, .int (nI o)), (16, .int (nI a)), (11, .int (nI tok)), (14, .int (nI off)), (15, .int (nI mo))] → W p0 l e (z_rm 2 0 0 70) s m args below meth c H locs 0 0 Q (F0 m 356 ls []) := by
  intro k
  induction k with
  | zero =>
    intro ct sp a hk
    exact absurd hk (Nat.not_lt_zero _)
  | succ k ih =>
    intro ct sp a hk hs ha hc H locs ls hS hl
    have hxj := hx.1
    refine lv_iload X.x X.b dX5_decompress_356 (lv_at hl 6 rfl) ?_
    refine lv_iload X.x X.b dX5_decompress_358 (lv_at hl 4 rfl) ?_
    refine z_icmp_ge (tgt := 400) X.x X.b dX5_decompress_360 (by decide) (by omega) (by omega) (fun c_1 => by exfalso; omega) (fun c_1 => ?_)
    refine lv_aload_n X.x X.b dX5_decompress_363 rfl (lv_at hl 0 rfl) ?_
    refine lv_iload X.x X.b dX5_decompress_364 (lv_at hl 6 rfl) ?_
    refine z_iinc (d := 1) (lv' := [(9, .int (nI (sp + 1))), (1, .ref x1), (2, .int (nI 0)), (4, .ref x2), (5, .int (nI 0)), (7, .int (nI L)), (8, .int (nI 16384)), (10, .int (nI o)), (16, .int (nI a)), (11, .int (nI tok)), (14, .int (nI off)), (15, .int (nI mo))]) X.x X.b dX5_decompress_366 hl (k := 6) rfl (by decide) (by decide) rfl (fun ls hl => ?_)
    refine z_cSi (wr := [(x2, z_B G 16384 d)]) X rfl z_E0ok trivial hS (m_readByte l G x1 16464 p sp (by omega) (by decide)) 2 q362 q317 q9 q318 nm_m_readByte ⟨rfl, rfl⟩ ⟨Nat.le_of_ble_eq_true rfl, Nat.le_of_ble_eq_true rfl⟩ [0] [1] ⟨rfl, rfl, rfl, rfl, by decide⟩ rfl hl.1 rfl (Nat.le_of_ble_eq_true rfl) ⟨Nat.le_of_ble_eq_true rfl, Nat.le_of_ble_eq_true rfl⟩ dX5_decompress_369 (fun r_2 u_3 H locs hp hS => ?_)
    have hS : z_S G [(x2, z_B G 16384 d), (x1, z_B G 16464 p)] A s H locs := hS
    obtain rfl : r_2 = (p sp).toInt32 := hp
    have hS := hS.sub (ws' := [(x1, z_B G 16464 p), (x2, z_B G 16384 d)]) [1, 0] rfl rfl
    refine lv_dup X.x X.b dX5_decompress_372 rfl ?_
    refine lv_istore (lv' := [(17, .int (p sp).toInt32), (9, .int (nI (sp + 1))), (1, .ref x1), (2, .int (nI 0)), (4, .ref x2), (5, .int (nI 0)), (7, .int (nI L)), (8, .int (nI 16384)), (10, .int (nI o)), (16, .int (nI a)), (11, .int (nI tok)), (14, .int (nI off)), (15, .int (nI mo))]) X.x X.b dX5_decompress_373 hl (by decide) rfl (fun ls hl => ?_)
    refine lv_iconst (v := (-1 : Int32)) X.x X.b dX5_decompress_375 (by decide) ?_
    have hu := z_ub_lt (p sp)
    refine lv_icmp_ne (tgt := 400) X.x X.b dX5_decompress_376 (by decide) (fun c9 => ?_) (fun c9 => ?_)
    · have hc2 : ct = v / 255 := by rcases Nat.lt_or_ge ct (v / 255) with q | q; exact absurd ((z_m1_iff _).mpr (by rw [hs]; exact hx.2.1 ct q)) c9; omega
      have hl : lv_has ls 18 [(17, .int (p sp).toInt32), (9, .int (nI i1)), (1, .ref x1), (2, .int (nI 0)), (4, .ref x2), (5, .int (nI 0)), (7, .int (nI L)), (8, .int (nI 16384)), (10, .int (nI o)), (16, .int (nI a)), (11, .int (nI tok)), (14, .int (nI off)), (15, .int (nI mo))] := by have e : sp + 1 = i1 := (by rw [hx.1]; omega); rw [e] at hl; exact hl
      have hl : lv_has ls 18 [(17, .int (p sp).toInt32), (9, .int (nI i1)), (1, .ref x1), (2, .int (nI 0)), (4, .ref x2), (5, .int (nI 0)), (7, .int (nI L)), (8, .int (nI 16384)), (10, .int (nI o)), (16, .int (nI (15 + 255 * (v / 255)))), (11, .int (nI tok)), (14, .int (nI off)), (15, .int (nI mo))] := by have e : a = 15 + 255 * (v / 255) := (by omega); rw [e] at hl; exact hl
      exact K (p sp) (by rw [hs, hc2]; exact hx.2.2) H _ ls hS (lv_sub hl [2, 3, 4, 5, 6, 7, 1, 8, 9, 0, 10, 11, 12] rfl)
    · have c8 := (z_m1_iff _).mp c9
      have hc2 : ct < v / 255 := by rcases Nat.lt_or_ge ct (v / 255) with q | q; exact q; (have q2 : ct = v / 255 := by omega); (rw [hs, q2, hx.2.2] at c8; omega)
      refine z_iincW (d := a + 255) (lv' := [(16, .int (nI (a + 255))), (17, .int (p sp).toInt32), (9, .int (nI (sp + 1))), (1, .ref x1), (2, .int (nI 0)), (4, .ref x2), (5, .int (nI 0)), (7, .int (nI L)), (8, .int (nI 16384)), (10, .int (nI o)), (11, .int (nI tok)), (14, .int (nI off)), (15, .int (nI mo))]) X.x X.b dX5_decompress_379 hl (k := 9) rfl (nI_add a 255) (by decide) rfl (fun ls hl => ?_)
      refine lv_iload X.x X.b dX5_decompress_385 (lv_at hl 0 rfl) ?_
      refine z_if_ge (tgt := 356) X.x X.b dX5_decompress_387 (by decide) (by omega) ?_
      exact ih (ct + 1) (sp + 1) (a + 255) (by omega) (by omega) (by omega) (by omega) H _ ls hS (lv_sub hl [3, 4, 5, 6, 7, 8, 2, 9, 0, 10, 11, 12] rfl)
set_option maxHeartbeats 4000000 in
theorem lo_dec1 {p0 : Program} {l : Launch} {e : Env} {s : State} {m : MethodId} {args : Array Value} {below : List Frame} {meth : Method} {c : Code} {A : Nat → Prop} {G : z_G} {Q : State → Prop} (x1 x2 : Nat) (p : Nat → Int8) (L : Nat) (hL : L ≤ 16464) (t : Nat → Int8) (n : Nat) (hn : n ≤ 16384) (d : Nat → Int8) (i o lit lo i1 : Nat) (h1 : z_ub (p i) = min lit 15 * 16 + lo) (h2 : lo < 16) (h3 : z_lit p t i o lit i1) (h4 : i1 + lit ≤ L) (h5 : o + lit ≤ n) (X : z_X p0 s m args meth c yX5_decompress cX5_decompress 18 (some .int) G A) (K : ∀ (_ : Unit), ∀ (H : Heap) (locs : List Loc) (ls : Array Slot), z_S G [(x1, z_B G 16464 p), (x2, z_B G 16384 d)] A s H locs → lv_has ls 18 [(1, .ref x1), (2, .int (nI 0)), (4, .ref x2), (5, .int (nI 0)), (7, .int (nI L)), (8, .int (nI 16384)), (9, .int (nI i1)), (10, .int (nI o)), (11, .int (nI (z_ub (p i)))), (12, .int (nI lit))] → W p0 l e (z_rm 2 0 0 70) s m args below meth c H locs 0 0 Q (F0 m 167 ls [])) :
    ∀ (_ : Unit), ∀ (H : Heap) (locs : List Loc) (ls : Array Slot), z_S G [(x1, z_B G 16464 p), (x2, z_B G 16384 d)] A s H locs → lv_has ls 18 [(1, .ref x1), (2, .int (nI 0)), (4, .ref x2), (5, .int (nI 0)), (7, .int (nI L)), (8, .int (nI 16384)), (9, .int (nI i)), (10, .int (nI o))] → W p0 l e (z_rm 2 0 0 70) s m args below meth c H locs 0 0 Q (F0 m 64 ls []) := by
  intro _  H locs ls hS hl
  have hu := z_ub_lt (p i)
  have hj := z_len_j h3.1
  refine lv_iload X.x X.b dX5_decompress_64 (lv_at hl 6 rfl) ?_
  refine lv_iload X.x X.b dX5_decompress_66 (lv_at hl 4 rfl) ?_
  refine z_icmp_lt (tgt := 81) X.x X.b dX5_decompress_68 (by decide) (by omega) (by omega) (fun c_1 => ?_) (fun c_1 => by exfalso; omega)
  refine lv_aload_n X.x X.b dX5_decompress_81 rfl (lv_at hl 0 rfl) ?_
  refine lv_iload X.x X.b dX5_decompress_82 (lv_at hl 6 rfl) ?_
  refine z_cSi (wr := [(x2, z_B G 16384 d)]) X rfl z_E0ok trivial hS (m_readByte l G x1 16464 p i (by omega) (by decide)) 2 q362 q317 q9 q318 nm_m_readByte ⟨rfl, rfl⟩ ⟨Nat.le_of_ble_eq_true rfl, Nat.le_of_ble_eq_true rfl⟩ [0] [1] ⟨rfl, rfl, rfl, rfl, by decide⟩ rfl hl.1 rfl (Nat.le_of_ble_eq_true rfl) ⟨Nat.le_of_ble_eq_true rfl, Nat.le_of_ble_eq_true rfl⟩ dX5_decompress_84 (fun r_2 u_3 H locs hp hS => ?_)
  have hS : z_S G [(x2, z_B G 16384 d), (x1, z_B G 16464 p)] A s H locs := hS
  obtain rfl : r_2 = (p i).toInt32 := hp
  have hS := hS.sub (ws' := [(x1, z_B G 16464 p), (x2, z_B G 16384 d)]) [1, 0] rfl rfl
  refine lv_sipush (v := (nI 255)) X.x X.b dX5_decompress_87 (by decide) ?_
  refine lv_iand X.x X.b dX5_decompress_90 ?_
  refine z_top (y := (nI (z_ub (p i)))) (z_and255 _) ?_
  refine lv_istore (lv' := [(11, .int (nI (z_ub (p i)))), (1, .ref x1), (2, .int (nI 0)), (4, .ref x2), (5, .int (nI 0)), (7, .int (nI L)), (8, .int (nI 16384)), (9, .int (nI i)), (10, .int (nI o))]) X.x X.b dX5_decompress_91 hl (by decide) rfl (fun ls hl => ?_)
  refine z_iinc (d := 1) (lv' := [(9, .int (nI (i + 1))), (11, .int (nI (z_ub (p i)))), (1, .ref x1), (2, .int (nI 0)), (4, .ref x2), (5, .int (nI 0)), (7, .int (nI L)), (8, .int (nI 16384)), (10, .int (nI o))]) X.x X.b dX5_decompress_93 hl (k := 7) rfl (by decide) (by decide) rfl (fun ls hl => ?_)
  refine lv_iload X.x X.b dX5_decompress_96 (lv_at hl 1 rfl) ?_
  refine lv_iconst (v := (nI 4)) X.x X.b dX5_decompress_98 (by decide) ?_
  refine lv_iushr X.x X.b dX5_decompress_99 rfl ?_
  refine z_top (y := (nI ((z_ub (p i)) / 16))) (pk_ushrN (by omega) (nI 4) 4 (by decide)) ?_
  refine z_top (y := (nI (min lit 15))) (congrArg nI (by omega)) ?_
  refine lv_istore (lv' := [(12, .int (nI (min lit 15))), (9, .int (nI (i + 1))), (11, .int (nI (z_ub (p i)))), (1, .ref x1), (2, .int (nI 0)), (4, .ref x2), (5, .int (nI 0)), (7, .int (nI L)), (8, .int (nI 16384)), (10, .int (nI o))]) X.x X.b dX5_decompress_100 hl (by decide) rfl (fun ls hl => ?_)
  refine lv_iload X.x X.b dX5_decompress_102 (lv_at hl 0 rfl) ?_
  refine lv_bipush (v := (nI 15)) X.x X.b dX5_decompress_104 (by decide) ?_
  refine z_icmp_ne (tgt := 167) X.x X.b dX5_decompress_106 (by decide) (by omega) (by omega) (fun c1 => ?_) (fun c1 => ?_)
  · have hlit : lit < 15 := by omega
    have hl : lv_has ls 18 [(12, .int (nI lit)), (9, .int (nI (i + 1))), (11, .int (nI (z_ub (p i)))), (1, .ref x1), (2, .int (nI 0)), (4, .ref x2), (5, .int (nI 0)), (7, .int (nI L)), (8, .int (nI 16384)), (10, .int (nI o))] := by have e : min lit 15 = lit := (by omega); rw [e] at hl; exact hl
    have hl : lv_has ls 18 [(12, .int (nI lit)), (9, .int (nI i1)), (11, .int (nI (z_ub (p i)))), (1, .ref x1), (2, .int (nI 0)), (4, .ref x2), (5, .int (nI 0)), (7, .int (nI L)), (8, .int (nI 16384)), (10, .int (nI o))] := by have e : i + 1 = i1 := ((h3.1.1 hlit).symm); rw [e] at hl; exact hl
    exact K () H _ ls hS (lv_sub hl [3, 4, 5, 6, 7, 8, 1, 9, 2, 0] rfl)
  · refine lv_iconst (v := (-1 : Int32)) X.x X.b dX5_decompress_109 (by decide) ?_
    refine lv_istore (lv' := [(13, .int (-1 : Int32)), (12, .int (nI (min lit 15))), (9, .int (nI (i + 1))), (11, .int (nI (z_ub (p i)))), (1, .ref x1), (2, .int (nI 0)), (4, .ref x2), (5, .int (nI 0)), (7, .int (nI L)), (8, .int (nI 16384)), (10, .int (nI o))]) X.x X.b dX5_decompress_110 hl (by decide) rfl (fun ls hl => ?_)
    have hlit : 15 ≤ lit := by omega
    have hl : lv_has ls 18 [(13, .int (-1 : Int32)), (12, .int (nI 15)), (9, .int (nI (i + 1))), (11, .int (nI (z_ub (p i)))), (1, .ref x1), (2, .int (nI 0)), (4, .ref x2), (5, .int (nI 0)), (7, .int (nI L)), (8, .int (nI 16384)), (10, .int (nI o))] := by have e : min lit 15 = 15 := (by omega); rw [e] at hl; exact hl
    refine lo_decL x1 x2 p L hL d o (i + 1) (lit - 15) i1 (h3.1.2 hlit) (by omega) (z_ub (p i)) X (fun x hx H locs ls hS hl => ?_) ((lit - 15) / 255 + 1) 0 (i + 1) 15 (by omega) (by omega) (by omega) (by omega) H _ ls hS (lv_sub hl [4, 5, 6, 7, 8, 9, 2, 10, 1, 3] rfl)
    have hxl := z_ub_lt x
    have hlv : (lit - 15) / 255 < 16464 := by omega
    refine lv_iload X.x X.b dX5_decompress_156 (lv_at hl 8 rfl) ?_
    refine lv_iload X.x X.b dX5_decompress_158 (lv_at hl 9 rfl) ?_
    refine lv_sipush (v := (nI 255)) X.x X.b dX5_decompress_160 (by decide) ?_
    refine lv_iand X.x X.b dX5_decompress_163 ?_
    refine z_top (y := (nI (z_ub x))) (z_and255 _) ?_
    refine z_iadd X.x X.b dX5_decompress_164 ?_
    refine z_top (y := (nI lit)) (congrArg nI (by omega)) ?_
    refine lv_istore (lv' := [(12, .int (nI lit)), (1, .ref x1), (2, .int (nI 0)), (4, .ref x2), (5, .int (nI 0)), (7, .int (nI L)), (8, .int (nI 16384)), (9, .int (nI i1)), (10, .int (nI o)), (13, .int (x).toInt32), (11, .int (nI (z_ub (p i))))]) X.x X.b dX5_decompress_165 hl (by decide) rfl (fun ls hl => ?_)
    exact K () H _ ls hS (lv_sub hl [1, 2, 3, 4, 5, 6, 7, 8, 10, 0] rfl)
set_option maxHeartbeats 4000000 in
theorem lo_dec2 {p0 : Program} {l : Launch} {e : Env} {s : State} {m : MethodId} {args : Array Value} {below : List Frame} {meth : Method} {c : Code} {A : Nat → Prop} {G : z_G} {Q : State → Prop} (x1 x2 : Nat) (p : Nat → Int8) (L : Nat) (hL : L ≤ 16464) (t : Nat → Int8) (n : Nat) (hn : n ≤ 16384) (d : Nat → Int8) (i o lit i1 tok : Nat) (h3 : z_lit p t i o lit i1) (h4 : L = i1 + lit) (h5 : o + lit = n) (hd : ∀ j, j < o → d j = t j) (X : z_X p0 s m args meth c yX5_decompress cX5_decompress 18 (some .int) G A) (K : ∀ u : Nat → Int8, (∀ j, j < n → u j = t j) → ∀ (H : Heap) (locs : List Loc) (ls : Array Slot), z_S G [(x1, z_B G 16464 p), (x2, z_B G 16384 u)] A s H locs → W p0 l e (z_rm 2 0 0 70) s m args below meth c H locs 0 0 Q (F0 m 539 ls [.int (nI n)])) :
    ∀ (H : Heap) (locs : List Loc) (ls : Array Slot), z_S G [(x1, z_B G 16464 p), (x2, z_B G 16384 d)] A s H locs → lv_has ls 18 [(1, .ref x1), (2, .int (nI 0)), (4, .ref x2), (5, .int (nI 0)), (7, .int (nI L)), (8, .int (nI 16384)), (9, .int (nI i1)), (10, .int (nI o)), (11, .int (nI tok)), (12, .int (nI lit))] → W p0 l e (z_rm 2 0 0 70) s m args below meth c H locs 0 0 Q (F0 m 167 ls []) := by
  intro H locs ls hS hl
  refine lv_iload X.x X.b dX5_decompress_167 (lv_at hl 7 rfl) ?_
  refine lv_iload X.x X.b dX5_decompress_169 (lv_at hl 9 rfl) ?_
  refine z_iadd X.x X.b dX5_decompress_171 ?_
  refine lv_istore (lv' := [(13, .int (nI (o + lit))), (1, .ref x1), (2, .int (nI 0)), (4, .ref x2), (5, .int (nI 0)), (7, .int (nI L)), (8, .int (nI 16384)), (9, .int (nI i1)), (10, .int (nI o)), (11, .int (nI tok)), (12, .int (nI lit))]) X.x X.b dX5_decompress_172 hl (by decide) rfl (fun ls hl => ?_)
  refine lv_iload X.x X.b dX5_decompress_174 (lv_at hl 0 rfl) ?_
  refine lv_iload X.x X.b dX5_decompress_176 (lv_at hl 8 rfl) ?_
  refine z_icmp_ge (tgt := 191) X.x X.b dX5_decompress_178 (by decide) (by omega) (by omega) (fun c_1 => ?_) (fun c_1 => by exfalso; omega)
  refine lv_iload X.x X.b dX5_decompress_191 (lv_at hl 6 rfl) ?_
  refine lv_iload X.x X.b dX5_decompress_193 (lv_at hl 0 rfl) ?_
  refine z_isub X.x X.b dX5_decompress_195 (by omega) ?_
  refine lv_bipush (v := (nI 8)) X.x X.b dX5_decompress_196 (by decide) ?_
  refine z_cSi (wr := [(x1, z_B G 16464 p), (x2, z_B G 16384 d)]) X rfl z_E0ok trivial hS (m_notEnough l G (16384 - (o + lit)) 8 (by omega) (by omega)) 2 q368 q283 q17 q284 nm_m_notEnough ⟨rfl, rfl⟩ ⟨Nat.le_of_ble_eq_true rfl, Nat.le_of_ble_eq_true rfl⟩ [] [0, 1] ⟨rfl, rfl, rfl, rfl, by decide⟩ rfl hl.1 rfl (Nat.le_of_ble_eq_true rfl) ⟨Nat.le_of_ble_eq_true rfl, Nat.le_of_ble_eq_true rfl⟩ dX5_decompress_198 (fun r_2 u_3 H locs hp hS => ?_)
  have hS : z_S G [(x1, z_B G 16464 p), (x2, z_B G 16384 d)] A s H locs := hS
  refine lv_if_ne (tgt := 220) X.x X.b dX5_decompress_201 (by decide) (fun c_4 => ?_) (fun c_4 => ?_)
  · refine lv_iload X.x X.b dX5_decompress_220 (lv_at hl 0 rfl) ?_
    refine lv_iload X.x X.b dX5_decompress_222 (lv_at hl 6 rfl) ?_
    refine z_icmp_le (tgt := 235) X.x X.b dX5_decompress_224 (by decide) (by omega) (by omega) (fun c_5 => ?_) (fun c_5 => by exfalso; omega)
    refine lv_iload X.x X.b dX5_decompress_235 (lv_at hl 7 rfl) ?_
    refine lv_iload X.x X.b dX5_decompress_237 (lv_at hl 10 rfl) ?_
    refine z_iadd X.x X.b dX5_decompress_239 ?_
    refine lv_iload X.x X.b dX5_decompress_240 (lv_at hl 5 rfl) ?_
    refine z_icmp_eq (tgt := 255) X.x X.b dX5_decompress_242 (by decide) (by omega) (by omega) (fun c_6 => ?_) (fun c_6 => by exfalso; omega)
    refine lv_aload_n X.x X.b dX5_decompress_255 rfl (lv_at hl 1 rfl) ?_
    refine lv_iload X.x X.b dX5_decompress_256 (lv_at hl 7 rfl) ?_
    refine lv_aload X.x X.b dX5_decompress_258 (lv_at hl 3 rfl) ?_
    refine lv_iload X.x X.b dX5_decompress_260 (lv_at hl 8 rfl) ?_
    refine lv_iload X.x X.b dX5_decompress_262 (lv_at hl 10 rfl) ?_
    refine z_cSv (wr := []) X rfl z_E0ok trivial hS (m_safeCopy l G x1 x2 16464 16384 p d i1 o lit (by omega) (by omega) (by decide) (by decide)) 5 q370 q371 q18 q372 nm_m_safeCopy ⟨rfl, rfl⟩ ⟨Nat.le_of_ble_eq_true rfl, Nat.le_of_ble_eq_true rfl⟩ [0, 1] [] ⟨rfl, rfl, rfl, rfl, by decide⟩ rfl hl.1 rfl (Nat.le_of_ble_eq_true rfl) ⟨Nat.le_of_ble_eq_true rfl, Nat.le_of_ble_eq_true rfl⟩ dX5_decompress_264 (fun u H locs hp hS => ?_)
    have hS : z_S G [(x1, z_B G 16464 p), (x2, z_B G 16384 u)] A s H locs := hS
    subst hp
    refine lv_iload X.x X.b dX5_decompress_267 (lv_at hl 7 rfl) ?_
    refine lv_iload X.x X.b dX5_decompress_269 (lv_at hl 10 rfl) ?_
    refine z_iadd X.x X.b dX5_decompress_271 ?_
    refine lv_istore (lv' := [(9, .int (nI (i1 + lit))), (13, .int (nI (o + lit))), (1, .ref x1), (2, .int (nI 0)), (4, .ref x2), (5, .int (nI 0)), (7, .int (nI L)), (8, .int (nI 16384)), (10, .int (nI o)), (11, .int (nI tok)), (12, .int (nI lit))]) X.x X.b dX5_decompress_272 hl (by decide) rfl (fun ls hl => ?_)
    refine lv_iload X.x X.b dX5_decompress_274 (lv_at hl 1 rfl) ?_
    refine lv_istore (lv' := [(10, .int (nI (o + lit))), (9, .int (nI (i1 + lit))), (13, .int (nI (o + lit))), (1, .ref x1), (2, .int (nI 0)), (4, .ref x2), (5, .int (nI 0)), (7, .int (nI L)), (8, .int (nI 16384)), (11, .int (nI tok)), (12, .int (nI lit))]) X.x X.b dX5_decompress_276 hl (by decide) rfl (fun ls hl => ?_)
    refine lv_goto (tgt := 534) X.x X.b dX5_decompress_278 (by decide) ?_
    refine lv_iload X.x X.b dX5_decompress_534 (lv_at hl 0 rfl) ?_
    refine lv_iload X.x X.b dX5_decompress_536 (lv_at hl 6 rfl) ?_
    refine z_isub X.x X.b dX5_decompress_538 (by omega) ?_
    refine z_top (y := (nI n)) (congrArg nI (by omega)) ?_
    exact K _ (fun j hj => if q : j < o then (pk_cpy_out (Or.inl q)).trans (hd j q) else (pk_cpy_in (by omega) (by omega)).trans ((h3.2 (j - o) (by omega)).trans (congrArg t (by omega)))) H _ ls hS
  · refine lv_iload X.x X.b dX5_decompress_204 (lv_at hl 5 rfl) ?_
    refine lv_iload X.x X.b dX5_decompress_206 (lv_at hl 7 rfl) ?_
    refine z_isub X.x X.b dX5_decompress_208 (by omega) ?_
    refine lv_bipush (v := (nI 8)) X.x X.b dX5_decompress_209 (by decide) ?_
    refine lv_iload X.x X.b dX5_decompress_211 (lv_at hl 10 rfl) ?_
    refine z_iadd X.x X.b dX5_decompress_213 ?_
    refine z_cSi (wr := [(x1, z_B G 16464 p), (x2, z_B G 16384 d)]) X rfl z_E0ok trivial hS (m_notEnough l G (L - i1) (8 + lit) (by omega) (by omega)) 2 q368 q283 q17 q284 nm_m_notEnough ⟨rfl, rfl⟩ ⟨Nat.le_of_ble_eq_true rfl, Nat.le_of_ble_eq_true rfl⟩ [] [0, 1] ⟨rfl, rfl, rfl, rfl, by decide⟩ rfl hl.1 rfl (Nat.le_of_ble_eq_true rfl) ⟨Nat.le_of_ble_eq_true rfl, Nat.le_of_ble_eq_true rfl⟩ dX5_decompress_214 (fun r_8 u_9 H locs hp hS => ?_)
    have hS : z_S G [(x1, z_B G 16464 p), (x2, z_B G 16384 d)] A s H locs := hS
    refine lv_if_eq (tgt := 281) X.x X.b dX5_decompress_217 (by decide) (fun c5 => absurd (hp.mp c5) (by omega)) (fun c5 => ?_)
    refine lv_iload X.x X.b dX5_decompress_220 (lv_at hl 0 rfl) ?_
    refine lv_iload X.x X.b dX5_decompress_222 (lv_at hl 6 rfl) ?_
    refine z_icmp_le (tgt := 235) X.x X.b dX5_decompress_224 (by decide) (by omega) (by omega) (fun c_10 => ?_) (fun c_10 => by exfalso; omega)
    refine lv_iload X.x X.b dX5_decompress_235 (lv_at hl 7 rfl) ?_
    refine lv_iload X.x X.b dX5_decompress_237 (lv_at hl 10 rfl) ?_
    refine z_iadd X.x X.b dX5_decompress_239 ?_
    refine lv_iload X.x X.b dX5_decompress_240 (lv_at hl 5 rfl) ?_
    refine z_icmp_eq (tgt := 255) X.x X.b dX5_decompress_242 (by decide) (by omega) (by omega) (fun c_11 => ?_) (fun c_11 => by exfalso; omega)
    refine lv_aload_n X.x X.b dX5_decompress_255 rfl (lv_at hl 1 rfl) ?_
    refine lv_iload X.x X.b dX5_decompress_256 (lv_at hl 7 rfl) ?_
    refine lv_aload X.x X.b dX5_decompress_258 (lv_at hl 3 rfl) ?_
    refine lv_iload X.x X.b dX5_decompress_260 (lv_at hl 8 rfl) ?_
    refine lv_iload X.x X.b dX5_decompress_262 (lv_at hl 10 rfl) ?_
    refine z_cSv (wr := []) X rfl z_E0ok trivial hS (m_safeCopy l G x1 x2 16464 16384 p d i1 o lit (by omega) (by omega) (by decide) (by decide)) 5 q370 q371 q18 q372 nm_m_safeCopy ⟨rfl, rfl⟩ ⟨Nat.le_of_ble_eq_true rfl, Nat.le_of_ble_eq_true rfl⟩ [0, 1] [] ⟨rfl, rfl, rfl, rfl, by decide⟩ rfl hl.1 rfl (Nat.le_of_ble_eq_true rfl) ⟨Nat.le_of_ble_eq_true rfl, Nat.le_of_ble_eq_true rfl⟩ dX5_decompress_264 (fun u H locs hp hS => ?_)
    have hS : z_S G [(x1, z_B G 16464 p), (x2, z_B G 16384 u)] A s H locs := hS
    subst hp
    refine lv_iload X.x X.b dX5_decompress_267 (lv_at hl 7 rfl) ?_
    refine lv_iload X.x X.b dX5_decompress_269 (lv_at hl 10 rfl) ?_
    refine z_iadd X.x X.b dX5_decompress_271 ?_
    refine lv_istore (lv' := [(9, .int (nI (i1 + lit))), (13, .int (nI (o + lit))), (1, .ref x1), (2, .int (nI 0)), (4, .ref x2), (5, .int (nI 0)), (7, .int (nI L)), (8, .int (nI 16384)), (10, .int (nI o)), (11, .int (nI tok)), (12, .int (nI lit))]) X.x X.b dX5_decompress_272 hl (by decide) rfl (fun ls hl => ?_)
    refine lv_iload X.x X.b dX5_decompress_274 (lv_at hl 1 rfl) ?_
    refine lv_istore (lv' := [(10, .int (nI (o + lit))), (9, .int (nI (i1 + lit))), (13, .int (nI (o + lit))), (1, .ref x1), (2, .int (nI 0)), (4, .ref x2), (5, .int (nI 0)), (7, .int (nI L)), (8, .int (nI 16384)), (11, .int (nI tok)), (12, .int (nI lit))]) X.x X.b dX5_decompress_276 hl (by decide) rfl (fun ls hl => ?_)
    refine lv_goto (tgt := 534) X.x X.b dX5_decompress_278 (by decide) ?_
    refine lv_iload X.x X.b dX5_decompress_534 (lv_at hl 0 rfl) ?_
    refine lv_iload X.x X.b dX5_decompress_536 (lv_at hl 6 rfl) ?_
    refine z_isub X.x X.b dX5_decompress_538 (by omega) ?_
    refine z_top (y := (nI n)) (congrArg nI (by omega)) ?_
    exact K _ (fun j hj => if q : j < o then (pk_cpy_out (Or.inl q)).trans (hd j q) else (pk_cpy_in (by omega) (by omega)).trans ((h3.2 (j - o) (by omega)).trans (congrArg t (by omega)))) H _ ls hS
set_option maxHeartbeats 4000000 in
theorem lo_dec3 {p0 : Program} {l : Launch} {e : Env} {s : State} {m : MethodId} {args : Array Value} {below : List Frame} {meth : Method} {c : Code} {A : Nat → Prop} {G : z_G} {Q : State → Prop} (x1 x2 : Nat) (p : Nat → Int8) (L : Nat) (hL : L ≤ 16464) (t : Nat → Int8) (n : Nat) (hn : n ≤ 16384) (d : Nat → Int8) (i o lit ml off i1 i2 : Nat) (h1 : z_ub (p i) = min lit 15 * 16 + min ml 15) (h3 : z_lit p t i o lit i1) (h6 : z_ub (p (i1 + lit)) + 256 * z_ub (p (i1 + lit + 1)) = off) (h7 : 1 ≤ off) (h8 : off ≤ o + lit) (h9 : z_len p (i1 + lit + 2) ml i2) (h10 : o + lit + 12 ≤ n) (h11 : i1 + lit + 8 ≤ L) (h12 : i2 + 6 ≤ L) (hd : ∀ j, j < o → d j = t j) (X : z_X p0 s m args meth c yX5_decompress cX5_decompress 18 (some .int) G A) (K : ∀ (u : Nat → Int8), (∀ j, j < o + lit → u j = t j) → ∀ (H : Heap) (locs : List Loc) (ls : Array Slot), z_S G [(x1, z_B G 16464 p), (x2, z_B G 16384 u)] A s H locs → lv_has ls 18 [(1, .ref x1), (2, .int (nI 0)), (4, .ref x2), (5, .int (nI 0)), (7, .int (nI L)), (8, .int (nI 16384)), (9, .int (nI i2)), (10, .int (nI (o + lit))), (14, .int (nI off)), (15, .int (nI (o + lit - off))), (16, .int (nI ml))] → W p0 l e (z_rm 2 0 0 70) s m args below meth c H locs 0 0 Q (F0 m 411 ls [])) :
    ∀ (_ : Unit), ∀ (H : Heap) (locs : List Loc) (ls : Array Slot), z_S G [(x1, z_B G 16464 p), (x2, z_B G 16384 d)] A s H locs → lv_has ls 18 [(1, .ref x1), (2, .int (nI 0)), (4, .ref x2), (5, .int (nI 0)), (7, .int (nI L)), (8, .int (nI 16384)), (9, .int (nI i1)), (10, .int (nI o)), (11, .int (nI (z_ub (p i)))), (12, .int (nI lit))] → W p0 l e (z_rm 2 0 0 70) s m args below meth c H locs 0 0 Q (F0 m 167 ls []) := by
  intro _  H locs ls hS hl
  have hu := z_ub_lt (p i)
  have hu1 := z_ub_lt (p (i1 + lit))
  have hu2 := z_ub_lt (p (i1 + lit + 1))
  have hj := z_len_j h9
  refine lv_iload X.x X.b dX5_decompress_167 (lv_at hl 7 rfl) ?_
  refine lv_iload X.x X.b dX5_decompress_169 (lv_at hl 9 rfl) ?_
  refine z_iadd X.x X.b dX5_decompress_171 ?_
  refine lv_istore (lv' := [(13, .int (nI (o + lit))), (1, .ref x1), (2, .int (nI 0)), (4, .ref x2), (5, .int (nI 0)), (7, .int (nI L)), (8, .int (nI 16384)), (9, .int (nI i1)), (10, .int (nI o)), (11, .int (nI (z_ub (p i)))), (12, .int (nI lit))]) X.x X.b dX5_decompress_172 hl (by decide) rfl (fun ls hl => ?_)
  refine lv_iload X.x X.b dX5_decompress_174 (lv_at hl 0 rfl) ?_
  refine lv_iload X.x X.b dX5_decompress_176 (lv_at hl 8 rfl) ?_
  refine z_icmp_ge (tgt := 191) X.x X.b dX5_decompress_178 (by decide) (by omega) (by omega) (fun c_1 => ?_) (fun c_1 => by exfalso; omega)
  refine lv_iload X.x X.b dX5_decompress_191 (lv_at hl 6 rfl) ?_
  refine lv_iload X.x X.b dX5_decompress_193 (lv_at hl 0 rfl) ?_
  refine z_isub X.x X.b dX5_decompress_195 (by omega) ?_
  refine lv_bipush (v := (nI 8)) X.x X.b dX5_decompress_196 (by decide) ?_
  refine z_cSi (wr := [(x1, z_B G 16464 p), (x2, z_B G 16384 d)]) X rfl z_E0ok trivial hS (m_notEnough l G (16384 - (o + lit)) 8 (by omega) (by omega)) 2 q368 q283 q17 q284 nm_m_notEnough ⟨rfl, rfl⟩ ⟨Nat.le_of_ble_eq_true rfl, Nat.le_of_ble_eq_true rfl⟩ [] [0, 1] ⟨rfl, rfl, rfl, rfl, by decide⟩ rfl hl.1 rfl (Nat.le_of_ble_eq_true rfl) ⟨Nat.le_of_ble_eq_true rfl, Nat.le_of_ble_eq_true rfl⟩ dX5_decompress_198 (fun r_2 u_3 H locs hp hS => ?_)
  have hS : z_S G [(x1, z_B G 16464 p), (x2, z_B G 16384 d)] A s H locs := hS
  refine lv_if_ne (tgt := 220) X.x X.b dX5_decompress_201 (by decide) (fun c4 => absurd (hp.mpr (by omega)) c4) (fun c4 => ?_)
  refine lv_iload X.x X.b dX5_decompress_204 (lv_at hl 5 rfl) ?_
  refine lv_iload X.x X.b dX5_decompress_206 (lv_at hl 7 rfl) ?_
  refine z_isub X.x X.b dX5_decompress_208 (by omega) ?_
  refine lv_bipush (v := (nI 8)) X.x X.b dX5_decompress_209 (by decide) ?_
  refine lv_iload X.x X.b dX5_decompress_211 (lv_at hl 10 rfl) ?_
  refine z_iadd X.x X.b dX5_decompress_213 ?_
  refine z_cSi (wr := [(x1, z_B G 16464 p), (x2, z_B G 16384 d)]) X rfl z_E0ok trivial hS (m_notEnough l G (L - i1) (8 + lit) (by omega) (by omega)) 2 q368 q283 q17 q284 nm_m_notEnough ⟨rfl, rfl⟩ ⟨Nat.le_of_ble_eq_true rfl, Nat.le_of_ble_eq_true rfl⟩ [] [0, 1] ⟨rfl, rfl, rfl, rfl, by decide⟩ rfl hl.1 rfl (Nat.le_of_ble_eq_true rfl) ⟨Nat.le_of_ble_eq_true rfl, Nat.le_of_ble_eq_true rfl⟩ dX5_decompress_214 (fun r_4 u_5 H locs hp hS => ?_)
  have hS : z_S G [(x1, z_B G 16464 p), (x2, z_B G 16384 d)] A s H locs := hS
  refine lv_if_eq (tgt := 281) X.x X.b dX5_decompress_217 (by decide) (fun c5 => ?_) (fun c5 => absurd (hp.mpr (by omega)) c5)
  refine lv_aload_n X.x X.b dX5_decompress_281 rfl (lv_at hl 1 rfl) ?_
  refine lv_iload X.x X.b dX5_decompress_282 (lv_at hl 7 rfl) ?_
  refine lv_aload X.x X.b dX5_decompress_284 (lv_at hl 3 rfl) ?_
  refine lv_iload X.x X.b dX5_decompress_286 (lv_at hl 8 rfl) ?_
  refine lv_iload X.x X.b dX5_decompress_288 (lv_at hl 10 rfl) ?_
  refine z_cSWv (wr := []) X rfl z_E0ok trivial hS (m_wild l G x1 x2 16464 16384 p d i1 o lit (by omega) (by omega) (by decide) (by decide)) 5 q373 q295 q18 q296 nm_m_wild ⟨rfl, rfl⟩ ⟨Nat.le_of_ble_eq_true rfl, Nat.le_of_ble_eq_true rfl⟩ [0, 1] [] ⟨rfl, rfl, rfl, rfl, by decide⟩ rfl hl.1 rfl (Nat.le_of_ble_eq_true rfl) ⟨Nat.le_of_ble_eq_true rfl, Nat.le_of_ble_eq_true rfl⟩ dX5_decompress_290 (fun u H locs hp hS => ?_)
  have hS : z_S G [(x1, z_B G 16464 p), (x2, z_B G 16384 u)] A s H locs := hS
  obtain ⟨g1, g2⟩ := hp
  refine lv_iload X.x X.b dX5_decompress_293 (lv_at hl 7 rfl) ?_
  refine lv_iload X.x X.b dX5_decompress_295 (lv_at hl 10 rfl) ?_
  refine z_iadd X.x X.b dX5_decompress_297 ?_
  refine lv_istore (lv' := [(9, .int (nI (i1 + lit))), (13, .int (nI (o + lit))), (1, .ref x1), (2, .int (nI 0)), (4, .ref x2), (5, .int (nI 0)), (7, .int (nI L)), (8, .int (nI 16384)), (10, .int (nI o)), (11, .int (nI (z_ub (p i)))), (12, .int (nI lit))]) X.x X.b dX5_decompress_298 hl (by decide) rfl (fun ls hl => ?_)
  refine lv_iload X.x X.b dX5_decompress_300 (lv_at hl 1 rfl) ?_
  refine lv_istore (lv' := [(10, .int (nI (o + lit))), (9, .int (nI (i1 + lit))), (13, .int (nI (o + lit))), (1, .ref x1), (2, .int (nI 0)), (4, .ref x2), (5, .int (nI 0)), (7, .int (nI L)), (8, .int (nI 16384)), (11, .int (nI (z_ub (p i)))), (12, .int (nI lit))]) X.x X.b dX5_decompress_302 hl (by decide) rfl (fun ls hl => ?_)
  refine lv_aload_n X.x X.b dX5_decompress_304 rfl (lv_at hl 3 rfl) ?_
  refine lv_iload X.x X.b dX5_decompress_305 (lv_at hl 1 rfl) ?_
  refine z_cSi (wr := [(x2, z_B G 16384 u)]) X rfl z_E0ok trivial hS (m_readShortLE l G x1 16464 p (i1 + lit) (by omega) (by decide)) 2 q374 q375 q9 q376 nm_m_readShortLE ⟨rfl, rfl⟩ ⟨Nat.le_of_ble_eq_true rfl, Nat.le_of_ble_eq_true rfl⟩ [0] [1] ⟨rfl, rfl, rfl, rfl, by decide⟩ rfl hl.1 rfl (Nat.le_of_ble_eq_true rfl) ⟨Nat.le_of_ble_eq_true rfl, Nat.le_of_ble_eq_true rfl⟩ dX5_decompress_307 (fun r_7 u_8 H locs hp hS => ?_)
  have hS : z_S G [(x2, z_B G 16384 u), (x1, z_B G 16464 p)] A s H locs := hS
  obtain rfl := hp
  refine z_top (y := (nI off)) (congrArg nI h6) ?_
  have hS := hS.sub (ws' := [(x1, z_B G 16464 p), (x2, z_B G 16384 u)]) [1, 0] rfl rfl
  refine lv_istore (lv' := [(14, .int (nI off)), (10, .int (nI (o + lit))), (9, .int (nI (i1 + lit))), (13, .int (nI (o + lit))), (1, .ref x1), (2, .int (nI 0)), (4, .ref x2), (5, .int (nI 0)), (7, .int (nI L)), (8, .int (nI 16384)), (11, .int (nI (z_ub (p i)))), (12, .int (nI lit))]) X.x X.b dX5_decompress_310 hl (by decide) rfl (fun ls hl => ?_)
  refine z_iinc (d := 2) (lv' := [(9, .int (nI ((i1 + lit) + 2))), (14, .int (nI off)), (10, .int (nI (o + lit))), (13, .int (nI (o + lit))), (1, .ref x1), (2, .int (nI 0)), (4, .ref x2), (5, .int (nI 0)), (7, .int (nI L)), (8, .int (nI 16384)), (11, .int (nI (z_ub (p i)))), (12, .int (nI lit))]) X.x X.b dX5_decompress_312 hl (k := 2) rfl (by decide) (by decide) rfl (fun ls hl => ?_)
  refine lv_iload X.x X.b dX5_decompress_315 (lv_at hl 2 rfl) ?_
  refine lv_iload X.x X.b dX5_decompress_317 (lv_at hl 1 rfl) ?_
  refine z_isub X.x X.b dX5_decompress_319 (by omega) ?_
  refine lv_istore (lv' := [(15, .int (nI ((o + lit) - off))), (9, .int (nI ((i1 + lit) + 2))), (14, .int (nI off)), (10, .int (nI (o + lit))), (13, .int (nI (o + lit))), (1, .ref x1), (2, .int (nI 0)), (4, .ref x2), (5, .int (nI 0)), (7, .int (nI L)), (8, .int (nI 16384)), (11, .int (nI (z_ub (p i)))), (12, .int (nI lit))]) X.x X.b dX5_decompress_320 hl (by decide) rfl (fun ls hl => ?_)
  refine lv_iload X.x X.b dX5_decompress_322 (lv_at hl 0 rfl) ?_
  refine lv_iload X.x X.b dX5_decompress_324 (lv_at hl 8 rfl) ?_
  refine z_icmp_ge (tgt := 339) X.x X.b dX5_decompress_326 (by decide) (by omega) (by omega) (fun c_9 => ?_) (fun c_9 => by exfalso; omega)
  refine lv_iload X.x X.b dX5_decompress_339 (lv_at hl 11 rfl) ?_
  refine lv_bipush (v := (nI 15)) X.x X.b dX5_decompress_341 (by decide) ?_
  refine lv_iand X.x X.b dX5_decompress_343 ?_
  refine z_top (y := (nI ((z_ub (p i)) % 16))) (pk_andN (m := nI 15) (by omega) 4 (by decide)) ?_
  refine z_top (y := (nI (min ml 15))) (congrArg nI (by omega)) ?_
  refine lv_istore (lv' := [(16, .int (nI (min ml 15))), (15, .int (nI ((o + lit) - off))), (9, .int (nI ((i1 + lit) + 2))), (14, .int (nI off)), (10, .int (nI (o + lit))), (13, .int (nI (o + lit))), (1, .ref x1), (2, .int (nI 0)), (4, .ref x2), (5, .int (nI 0)), (7, .int (nI L)), (8, .int (nI 16384)), (11, .int (nI (z_ub (p i)))), (12, .int (nI lit))]) X.x X.b dX5_decompress_344 hl (by decide) rfl (fun ls hl => ?_)
  refine lv_iload X.x X.b dX5_decompress_346 (lv_at hl 0 rfl) ?_
  refine lv_bipush (v := (nI 15)) X.x X.b dX5_decompress_348 (by decide) ?_
  refine z_icmp_ne (tgt := 411) X.x X.b dX5_decompress_350 (by decide) (by omega) (by omega) (fun c1 => ?_) (fun c1 => ?_)
  · have hml : ml < 15 := by omega
    have hl : lv_has ls 18 [(16, .int (nI ml)), (15, .int (nI ((o + lit) - off))), (9, .int (nI ((i1 + lit) + 2))), (14, .int (nI off)), (10, .int (nI (o + lit))), (13, .int (nI (o + lit))), (1, .ref x1), (2, .int (nI 0)), (4, .ref x2), (5, .int (nI 0)), (7, .int (nI L)), (8, .int (nI 16384)), (11, .int (nI (z_ub (p i)))), (12, .int (nI lit))] := by have e : min ml 15 = ml := (by omega); rw [e] at hl; exact hl
    have hl : lv_has ls 18 [(16, .int (nI ml)), (15, .int (nI ((o + lit) - off))), (9, .int (nI i2)), (14, .int (nI off)), (10, .int (nI (o + lit))), (13, .int (nI (o + lit))), (1, .ref x1), (2, .int (nI 0)), (4, .ref x2), (5, .int (nI 0)), (7, .int (nI L)), (8, .int (nI 16384)), (11, .int (nI (z_ub (p i)))), (12, .int (nI lit))] := by have e : (i1 + lit) + 2 = i2 := ((h9.1 hml).symm); rw [e] at hl; exact hl
    exact K u (fun j hj => if q : j < o then (g1 j q).trans (hd j q) else (by have e := g2 (j - o) (by omega); rw [show o + (j - o) = j by omega] at e; rw [e, h3.2 (j - o) (by omega)]; exact congrArg t (by omega))) H _ ls hS (lv_sub hl [6, 7, 8, 9, 10, 11, 2, 4, 3, 1, 0] rfl)
  · refine lv_iconst (v := (-1 : Int32)) X.x X.b dX5_decompress_353 (by decide) ?_
    refine lv_istore (lv' := [(17, .int (-1 : Int32)), (16, .int (nI (min ml 15))), (15, .int (nI ((o + lit) - off))), (9, .int (nI ((i1 + lit) + 2))), (14, .int (nI off)), (10, .int (nI (o + lit))), (13, .int (nI (o + lit))), (1, .ref x1), (2, .int (nI 0)), (4, .ref x2), (5, .int (nI 0)), (7, .int (nI L)), (8, .int (nI 16384)), (11, .int (nI (z_ub (p i)))), (12, .int (nI lit))]) X.x X.b dX5_decompress_354 hl (by decide) rfl (fun ls hl => ?_)
    have hml : 15 ≤ ml := by omega
    have hl : lv_has ls 18 [(17, .int (-1 : Int32)), (16, .int (nI 15)), (15, .int (nI ((o + lit) - off))), (9, .int (nI ((i1 + lit) + 2))), (14, .int (nI off)), (10, .int (nI (o + lit))), (13, .int (nI (o + lit))), (1, .ref x1), (2, .int (nI 0)), (4, .ref x2), (5, .int (nI 0)), (7, .int (nI L)), (8, .int (nI 16384)), (11, .int (nI (z_ub (p i)))), (12, .int (nI lit))] := by have e : min ml 15 = 15 := (by omega); rw [e] at hl; exact hl
    refine lo_decM x1 x2 p L hL u (o + lit) (i1 + lit + 2) (ml - 15) i2 (h9.2 hml) (by omega) (z_ub (p i)) lit off (o + lit - off) 0 X (fun x hx H locs ls hS hl => ?_) ((ml - 15) / 255 + 1) 0 (i1 + lit + 2) 15 (by omega) (by omega) (by omega) (by omega) H _ ls hS (lv_sub hl [7, 8, 9, 10, 11, 12, 3, 5, 1, 13, 4, 2] rfl)
    have hxl := z_ub_lt x
    have hlv : (ml - 15) / 255 < 16464 := by have := (h9.2 hml).1; omega
    refine lv_iload X.x X.b dX5_decompress_400 (lv_at hl 8 rfl) ?_
    refine lv_iload X.x X.b dX5_decompress_402 (lv_at hl 9 rfl) ?_
    refine lv_sipush (v := (nI 255)) X.x X.b dX5_decompress_404 (by decide) ?_
    refine lv_iand X.x X.b dX5_decompress_407 ?_
    refine z_top (y := (nI (z_ub x))) (z_and255 _) ?_
    refine z_iadd X.x X.b dX5_decompress_408 ?_
    refine z_top (y := (nI ml)) (congrArg nI (by omega)) ?_
    refine lv_istore (lv' := [(16, .int (nI ml)), (1, .ref x1), (2, .int (nI 0)), (4, .ref x2), (5, .int (nI 0)), (7, .int (nI L)), (8, .int (nI 16384)), (9, .int (nI i2)), (10, .int (nI (o + lit))), (17, .int (x).toInt32), (11, .int (nI (z_ub (p i)))), (14, .int (nI off)), (15, .int (nI (o + lit - off)))]) X.x X.b dX5_decompress_409 hl (by decide) rfl (fun ls hl => ?_)
    exact K u (fun j hj => if q : j < o then (g1 j q).trans (hd j q) else (by have e := g2 (j - o) (by omega); rw [show o + (j - o) = j by omega] at e; rw [e, h3.2 (j - o) (by omega)]; exact congrArg t (by omega))) H _ ls hS (lv_sub hl [1, 2, 3, 4, 5, 6, 7, 8, 11, 12, 0] rfl)
set_option maxHeartbeats 4000000 in
theorem lo_dec4 {p0 : Program} {l : Launch} {e : Env} {s : State} {m : MethodId} {args : Array Value} {below : List Frame} {meth : Method} {c : Code} {A : Nat → Prop} {G : z_G} {Q : State → Prop} (x1 x2 : Nat) (p : Nat → Int8) (L : Nat) (hL : L ≤ 16464) (t : Nat → Int8) (n : Nat) (hn : n ≤ 16384) (d : Nat → Int8) (o1 ml off i2 : Nat) (h7 : 1 ≤ off) (h8 : off ≤ o1) (h10 : o1 + (ml + 4) + 5 ≤ n) (hd : ∀ j, j < o1 → d j = t j) (ht : ∀ j, j < ml + 4 → t (o1 + j) = t (o1 + j - off)) (X : z_X p0 s m args meth c yX5_decompress cX5_decompress 18 (some .int) G A) (K : ∀ (u : Nat → Int8), (∀ j, j < o1 + (ml + 4) → u j = t j) → ∀ (H : Heap) (locs : List Loc) (ls : Array Slot), z_S G [(x1, z_B G 16464 p), (x2, z_B G 16384 u)] A s H locs → lv_has ls 18 [(1, .ref x1), (2, .int (nI 0)), (4, .ref x2), (5, .int (nI 0)), (7, .int (nI L)), (8, .int (nI 16384)), (9, .int (nI i2)), (10, .int (nI (o1 + (ml + 4))))] → W p0 l e (z_rm 2 0 0 70) s m args below meth c H locs 0 0 Q (F0 m 64 ls [])) :
    ∀ (_ : Unit), ∀ (H : Heap) (locs : List Loc) (ls : Array Slot), z_S G [(x1, z_B G 16464 p), (x2, z_B G 16384 d)] A s H locs → lv_has ls 18 [(1, .ref x1), (2, .int (nI 0)), (4, .ref x2), (5, .int (nI 0)), (7, .int (nI L)), (8, .int (nI 16384)), (9, .int (nI i2)), (10, .int (nI o1)), (14, .int (nI off)), (15, .int (nI (o1 - off))), (16, .int (nI ml))] → W p0 l e (z_rm 2 0 0 70) s m args below meth c H locs 0 0 Q (F0 m 411 ls []) := by
  intro _  H locs ls hS hl
  refine z_iinc (d := 4) (lv' := [(16, .int (nI (ml + 4))), (1, .ref x1), (2, .int (nI 0)), (4, .ref x2), (5, .int (nI 0)), (7, .int (nI L)), (8, .int (nI 16384)), (9, .int (nI i2)), (10, .int (nI o1)), (14, .int (nI off)), (15, .int (nI (o1 - off)))]) X.x X.b dX5_decompress_411 hl (k := 10) rfl (by decide) (by decide) rfl (fun ls hl => ?_)
  refine lv_iload X.x X.b dX5_decompress_414 (lv_at hl 8 rfl) ?_
  refine lv_iload X.x X.b dX5_decompress_416 (lv_at hl 0 rfl) ?_
  refine z_iadd X.x X.b dX5_decompress_418 ?_
  refine lv_istore (lv' := [(17, .int (nI (o1 + (ml + 4)))), (16, .int (nI (ml + 4))), (1, .ref x1), (2, .int (nI 0)), (4, .ref x2), (5, .int (nI 0)), (7, .int (nI L)), (8, .int (nI 16384)), (9, .int (nI i2)), (10, .int (nI o1)), (14, .int (nI off)), (15, .int (nI (o1 - off)))]) X.x X.b dX5_decompress_419 hl (by decide) rfl (fun ls hl => ?_)
  refine lv_iload X.x X.b dX5_decompress_421 (lv_at hl 0 rfl) ?_
  refine lv_iload X.x X.b dX5_decompress_423 (lv_at hl 9 rfl) ?_
  refine z_icmp_ge (tgt := 438) X.x X.b dX5_decompress_425 (by decide) (by omega) (by omega) (fun c_1 => ?_) (fun c_1 => by exfalso; omega)
  refine lv_iload X.x X.b dX5_decompress_438 (lv_at hl 10 rfl) ?_
  refine z_if_ne (tgt := 472) X.x X.b dX5_decompress_440 (by decide) (by omega) (fun c_2 => ?_) (fun c_2 => by exfalso; omega)
  refine lv_iload X.x X.b dX5_decompress_472 (lv_at hl 7 rfl) ?_
  refine lv_iload X.x X.b dX5_decompress_474 (lv_at hl 0 rfl) ?_
  refine z_isub X.x X.b dX5_decompress_476 (by omega) ?_
  refine lv_bipush (v := (nI 8)) X.x X.b dX5_decompress_477 (by decide) ?_
  refine z_cSi (wr := [(x1, z_B G 16464 p), (x2, z_B G 16384 d)]) X rfl z_E0ok trivial hS (m_notEnough l G (16384 - (o1 + (ml + 4))) 8 (by omega) (by omega)) 2 q368 q283 q17 q284 nm_m_notEnough ⟨rfl, rfl⟩ ⟨Nat.le_of_ble_eq_true rfl, Nat.le_of_ble_eq_true rfl⟩ [] [0, 1] ⟨rfl, rfl, rfl, rfl, by decide⟩ rfl hl.1 rfl (Nat.le_of_ble_eq_true rfl) ⟨Nat.le_of_ble_eq_true rfl, Nat.le_of_ble_eq_true rfl⟩ dX5_decompress_479 (fun r_3 u_4 H locs hp hS => ?_)
  have hS : z_S G [(x1, z_B G 16464 p), (x2, z_B G 16384 d)] A s H locs := hS
  refine lv_if_eq (tgt := 516) X.x X.b dX5_decompress_482 (by decide) (fun c6 => ?_) (fun c6 => ?_)
  · refine lv_aload X.x X.b dX5_decompress_516 (lv_at hl 4 rfl) ?_
    refine lv_iload X.x X.b dX5_decompress_518 (lv_at hl 11 rfl) ?_
    refine lv_iload X.x X.b dX5_decompress_520 (lv_at hl 9 rfl) ?_
    refine lv_iload X.x X.b dX5_decompress_522 (lv_at hl 0 rfl) ?_
    have hq := hp.mp c6
    refine z_cSv (wr := [(x1, z_B G 16464 p)]) X rfl z_E0ok trivial hS (m_wildInc l G x2 16384 d (o1 - off) o1 (o1 + (ml + 4)) (by omega) (by omega) (by decide) (by omega)) 4 q625 q626 q18 q627 nm_m_wildInc ⟨rfl, rfl⟩ ⟨Nat.le_of_ble_eq_true rfl, Nat.le_of_ble_eq_true rfl⟩ [1] [0] ⟨rfl, rfl, rfl, rfl, by decide⟩ rfl hl.1 rfl (Nat.le_of_ble_eq_true rfl) ⟨Nat.le_of_ble_eq_true rfl, Nat.le_of_ble_eq_true rfl⟩ dX5_decompress_524 (fun u H locs hp hS => ?_)
    have hS : z_S G [(x1, z_B G 16464 p), (x2, z_B G 16384 u)] A s H locs := hS
    obtain ⟨g1, g2⟩ := hp
    refine lv_iload X.x X.b dX5_decompress_527 (lv_at hl 0 rfl) ?_
    refine lv_istore (lv' := [(10, .int (nI (o1 + (ml + 4)))), (17, .int (nI (o1 + (ml + 4)))), (16, .int (nI (ml + 4))), (1, .ref x1), (2, .int (nI 0)), (4, .ref x2), (5, .int (nI 0)), (7, .int (nI L)), (8, .int (nI 16384)), (9, .int (nI i2)), (14, .int (nI off)), (15, .int (nI (o1 - off)))]) X.x X.b dX5_decompress_529 hl (by decide) rfl (fun ls hl => ?_)
    refine lv_goto (tgt := 64) X.x X.b dX5_decompress_531 (by decide) ?_
    exact K u (z_back h7 h8 hd g1 (fun j hj => g2 j (by omega)) ht) H _ ls hS (lv_sub hl [3, 4, 5, 6, 7, 8, 9, 0] rfl)
  · refine lv_iload X.x X.b dX5_decompress_485 (lv_at hl 0 rfl) ?_
    refine lv_iload X.x X.b dX5_decompress_487 (lv_at hl 7 rfl) ?_
    refine z_icmp_le (tgt := 502) X.x X.b dX5_decompress_489 (by decide) (by omega) (by omega) (fun c_6 => ?_) (fun c_6 => by exfalso; omega)
    refine lv_aload X.x X.b dX5_decompress_502 (lv_at hl 4 rfl) ?_
    refine lv_iload X.x X.b dX5_decompress_504 (lv_at hl 11 rfl) ?_
    refine lv_iload X.x X.b dX5_decompress_506 (lv_at hl 9 rfl) ?_
    refine lv_iload X.x X.b dX5_decompress_508 (lv_at hl 1 rfl) ?_
    refine z_cSv (wr := [(x1, z_B G 16464 p)]) X rfl z_E0ok trivial hS (m_safeInc l G x2 16384 d (o1 - off) o1 (ml + 4) (by omega) (by omega) (by decide)) 4 q622 q623 q18 q624 nm_m_safeInc ⟨rfl, rfl⟩ ⟨Nat.le_of_ble_eq_true rfl, Nat.le_of_ble_eq_true rfl⟩ [1] [0] ⟨rfl, rfl, rfl, rfl, by decide⟩ rfl hl.1 rfl (Nat.le_of_ble_eq_true rfl) ⟨Nat.le_of_ble_eq_true rfl, Nat.le_of_ble_eq_true rfl⟩ dX5_decompress_510 (fun u H locs hp hS => ?_)
    have hS : z_S G [(x1, z_B G 16464 p), (x2, z_B G 16384 u)] A s H locs := hS
    obtain ⟨g1, g2⟩ := hp
    refine lv_goto (tgt := 527) X.x X.b dX5_decompress_513 (by decide) ?_
    refine lv_iload X.x X.b dX5_decompress_527 (lv_at hl 0 rfl) ?_
    refine lv_istore (lv' := [(10, .int (nI (o1 + (ml + 4)))), (17, .int (nI (o1 + (ml + 4)))), (16, .int (nI (ml + 4))), (1, .ref x1), (2, .int (nI 0)), (4, .ref x2), (5, .int (nI 0)), (7, .int (nI L)), (8, .int (nI 16384)), (9, .int (nI i2)), (14, .int (nI off)), (15, .int (nI (o1 - off)))]) X.x X.b dX5_decompress_529 hl (by decide) rfl (fun ls hl => ?_)
    refine lv_goto (tgt := 64) X.x X.b dX5_decompress_531 (by decide) ?_
    exact K u (z_back h7 h8 hd g1 (fun j hj => g2 j (by omega)) ht) H _ ls hS (lv_sub hl [3, 4, 5, 6, 7, 8, 9, 0] rfl)
set_option maxHeartbeats 4000000 in
theorem lo_dec {p0 : Program} {l : Launch} {e : Env} {s : State} {m : MethodId} {args : Array Value} {below : List Frame} {meth : Method} {c : Code} {A : Nat → Prop} {G : z_G} {Q : State → Prop} (x1 x2 : Nat) (p : Nat → Int8) (L : Nat) (hL : L ≤ 16464) (t : Nat → Int8) (n : Nat) (hn : n ≤ 16384) (X : z_X p0 s m args meth c yX5_decompress cX5_decompress 18 (some .int) G A) (K : ∀ u : Nat → Int8, (∀ j, j < n → u j = t j) → ∀ (H : Heap) (locs : List Loc) (ls : Array Slot), z_S G [(x1, z_B G 16464 p), (x2, z_B G 16384 u)] A s H locs → W p0 l e (z_rm 2 0 0 70) s m args below meth c H locs 0 0 Q (F0 m 539 ls [.int (nI n)])) :
    ∀ (j i o : Nat) (d : Nat → Int8), z_dk p t n L j i o → (∀ q, q < o → d q = t q) → ∀ (H : Heap) (locs : List Loc) (ls : Array Slot), z_S G [(x1, z_B G 16464 p), (x2, z_B G 16384 d)] A s H locs → lv_has ls 18 [(1, .ref x1), (2, .int (nI 0)), (4, .ref x2), (5, .int (nI 0)), (7, .int (nI L)), (8, .int (nI 16384)), (9, .int (nI i)), (10, .int (nI o))] → W p0 l e (z_rm 2 0 0 70) s m args below meth c H locs 0 0 Q (F0 m 64 ls []) := by
  intro j
  induction j with
  | zero =>
    intro i o d hdk hd H locs ls hS hl
    obtain ⟨lit, lo, i1, h1, h2, h3, h4, h5, hh⟩ := z_dk_head 0 i o hdk
    refine lo_dec1 x1 x2 p L hL t n hn d i o lit lo i1 h1 h2 h3 h4 h5 X (fun _ H locs ls hS hl => ?_) () H locs ls hS hl
    rcases hh with hh | ⟨j', ml, off, i', e, -⟩
    · exact lo_dec2 x1 x2 p L hL t n hn d i o lit i1 (z_ub (p i)) h3 hh.1 hh.2 hd X K H locs ls hS hl
    · exact absurd e (by omega)
  | succ j ih =>
    intro i o d hdk hd H locs ls hS hl
    obtain ⟨lit, lo, i1, h1, h2, h3, h4, h5, hh⟩ := z_dk_head _ i o hdk
    refine lo_dec1 x1 x2 p L hL t n hn d i o lit lo i1 h1 h2 h3 h4 h5 X (fun _ H locs ls hS hl => ?_) () H locs ls hS hl
    rcases hh with hh | ⟨j', ml, off, i', e, rfl, h6, h7, h8, h9, ht, h10, h10', h13, h11, h12⟩
    · exact lo_dec2 x1 x2 p L hL t n hn d i o lit i1 (z_ub (p i)) h3 hh.1 hh.2 hd X K H locs ls hS hl
    · have e : j = j' := by omega
      subst e
      refine lo_dec3 x1 x2 p L hL t n hn d i o lit ml off i1 i' h1 h3 h6 h7 h8 h9 h10 h11 h12 hd X (fun u hu H locs ls hS hl => ?_) () H locs ls hS hl
      refine lo_dec4 x1 x2 p L hL t n hn u (o + lit) ml off i' h7 h8 h10' hu ht X (fun u hu H locs ls hS hl => ?_) () H locs ls hS hl
      exact ih i' (o + lit + (ml + 4)) u h13 hu H locs ls hS hl
theorem nm_m_dec : z_Nm yX5_decompress 6 := by decide +kernel
set_option maxHeartbeats 4000000 in
theorem m_dec (l : Launch) (G : z_G) (x0 x1 x2 : Nat) (p t d0 : Nat → Int8) (L n : Nat) (hok : z_ok p t L n) (hn : n ≤ 16384) (hL : L ≤ 16464) : z_Mi l yX5_decompress cX5_decompress 18 .int (z_rm 2 0 0 70) 0 0 G z_E0 [.ref x0, .ref x1, .int (nI 0), .int (nI L), .ref x2, .int (nI 0), .int (nI 16384)] [(x1, z_B G 16464 p), (x2, z_B G 16384 d0)] (S := Nat → Int8) (fun r u => r = nI n ∧ ∀ j, j < n → u j = t j) (fun u => [(x1, z_B G 16464 p), (x2, z_B G 16384 u)]) := by
  refine Mi.mk (by decide) (Nat.le_of_ble_eq_true rfl) ?_
  intro p0 e s m below meth c A ls X hE hS hl
  have hl : lv_has ls 18 [(0, .ref x0), (1, .ref x1), (2, .int (nI 0)), (3, .int (nI L)), (4, .ref x2), (5, .int (nI 0)), (6, .int (nI 16384))] := hl
  refine lv_aload_n X.x X.b dX5_decompress_0 rfl (lv_at hl 1 rfl) ?_
  refine lv_iload_n X.x X.b dX5_decompress_1 rfl (lv_at hl 2 rfl) ?_
  refine lv_iload_n X.x X.b dX5_decompress_2 rfl (lv_at hl 3 rfl) ?_
  refine z_cSv (wr := [(x2, z_B G 16384 d0)]) X rfl z_E0ok trivial hS (m_checkRange l G x1 16464 p 0 L (by omega) (by decide)) 3 q361 q135 q9 q136 nm_m_checkRange ⟨rfl, rfl⟩ ⟨Nat.le_of_ble_eq_true rfl, Nat.le_of_ble_eq_true rfl⟩ [0] [1] ⟨rfl, rfl, rfl, rfl, by decide⟩ rfl hl.1 rfl (Nat.le_of_ble_eq_true rfl) ⟨Nat.le_of_ble_eq_true rfl, Nat.le_of_ble_eq_true rfl⟩ dX5_decompress_3 (fun u_2 H locs hp hS => ?_)
  have hS : z_S G [(x2, z_B G 16384 d0), (x1, z_B G 16464 p)] A s H locs := hS
  have hS := hS.sub (ws' := [(x1, z_B G 16464 p), (x2, z_B G 16384 d0)]) [1, 0] rfl rfl
  refine lv_aload X.x X.b dX5_decompress_6 (lv_at hl 4 rfl) ?_
  refine lv_iload X.x X.b dX5_decompress_8 (lv_at hl 5 rfl) ?_
  refine lv_iload X.x X.b dX5_decompress_10 (lv_at hl 6 rfl) ?_
  refine z_cSv (wr := [(x1, z_B G 16464 p)]) X rfl z_E0ok trivial hS (m_checkRange l G x2 16384 d0 0 16384 (by omega) (by decide)) 3 q361 q135 q9 q136 nm_m_checkRange ⟨rfl, rfl⟩ ⟨Nat.le_of_ble_eq_true rfl, Nat.le_of_ble_eq_true rfl⟩ [1] [0] ⟨rfl, rfl, rfl, rfl, by decide⟩ rfl hl.1 rfl (Nat.le_of_ble_eq_true rfl) ⟨Nat.le_of_ble_eq_true rfl, Nat.le_of_ble_eq_true rfl⟩ dX5_decompress_12 (fun u_4 H locs hp hS => ?_)
  have hS : z_S G [(x1, z_B G 16464 p), (x2, z_B G 16384 d0)] A s H locs := hS
  have hS := hS.sub (ws' := [(x1, z_B G 16464 p), (x2, z_B G 16384 d0)]) [0, 1] rfl rfl
  refine lv_iload X.x X.b dX5_decompress_15 (lv_at hl 6 rfl) ?_
  refine z_if_ne (tgt := 45) X.x X.b dX5_decompress_17 (by decide) (by omega) (fun c0 => ?_) (fun c0 => absurd c0 (by decide))
  refine lv_iload_n X.x X.b dX5_decompress_45 rfl (lv_at hl 2 rfl) ?_
  refine lv_iload_n X.x X.b dX5_decompress_46 rfl (lv_at hl 3 rfl) ?_
  refine z_iadd X.x X.b dX5_decompress_47 ?_
  refine lv_istore (lv' := [(7, .int (nI (0 + L))), (0, .ref x0), (1, .ref x1), (2, .int (nI 0)), (3, .int (nI L)), (4, .ref x2), (5, .int (nI 0)), (6, .int (nI 16384))]) X.x X.b dX5_decompress_48 hl (by decide) rfl (fun ls hl => ?_)
  refine lv_iload X.x X.b dX5_decompress_50 (lv_at hl 6 rfl) ?_
  refine lv_iload X.x X.b dX5_decompress_52 (lv_at hl 7 rfl) ?_
  refine z_iadd X.x X.b dX5_decompress_54 ?_
  refine lv_istore (lv' := [(8, .int (nI (0 + 16384))), (7, .int (nI (0 + L))), (0, .ref x0), (1, .ref x1), (2, .int (nI 0)), (3, .int (nI L)), (4, .ref x2), (5, .int (nI 0)), (6, .int (nI 16384))]) X.x X.b dX5_decompress_55 hl (by decide) rfl (fun ls hl => ?_)
  refine lv_iload_n X.x X.b dX5_decompress_57 rfl (lv_at hl 4 rfl) ?_
  refine lv_istore (lv' := [(9, .int (nI 0)), (8, .int (nI (0 + 16384))), (7, .int (nI (0 + L))), (0, .ref x0), (1, .ref x1), (2, .int (nI 0)), (3, .int (nI L)), (4, .ref x2), (5, .int (nI 0)), (6, .int (nI 16384))]) X.x X.b dX5_decompress_58 hl (by decide) rfl (fun ls hl => ?_)
  refine lv_iload X.x X.b dX5_decompress_60 (lv_at hl 8 rfl) ?_
  refine lv_istore (lv' := [(10, .int (nI 0)), (9, .int (nI 0)), (8, .int (nI (0 + 16384))), (7, .int (nI (0 + L))), (0, .ref x0), (1, .ref x1), (2, .int (nI 0)), (3, .int (nI L)), (4, .ref x2), (5, .int (nI 0)), (6, .int (nI 16384))]) X.x X.b dX5_decompress_62 hl (by decide) rfl (fun ls hl => ?_)
  have hl : lv_has ls 18 [(10, .int (nI 0)), (9, .int (nI 0)), (8, .int (nI (0 + 16384))), (7, .int (nI L)), (0, .ref x0), (1, .ref x1), (2, .int (nI 0)), (3, .int (nI L)), (4, .ref x2), (5, .int (nI 0)), (6, .int (nI 16384))] := by have e : 0 + L = L := (by omega); rw [e] at hl; exact hl
  obtain ⟨k, hk⟩ := hok
  refine lo_dec x1 x2 p L hL t n hn X (fun u hu H locs ls hS => ?_) k 0 0 d0 hk (fun q hq => absurd hq (Nat.not_lt_zero _)) _ _ ls hS (lv_sub hl [5, 6, 8, 9, 3, 2, 1, 0] rfl)
  exact z_iret X hS u rfl ⟨rfl, hu⟩ [0, 1] rfl rfl dX5_decompress_539
end
section
/-! LZ4JavaSafeCompressor: compress64k, compress (printed by gen/g14.py) -/
set_option maxRecDepth 100000
section ZK
variable {p0 : Program} {l : Launch} {e : Env} {R : Room} {s : State} {m : MethodId} {args : Array Value} {below : List Frame} {meth : Method} {c : Code} {H : Heap} {locs : List Loc} {cells slots : Nat} {Q : State → Prop}
theorem z_skip {cc : ByteArray} {pc : Nat} {ls : Array Slot} {rest : List Value} {y : MethodName} {L : Nat} {ret : Option FieldType} {G : z_G} {A : Nat → Prop} {ws : va_W} (X : z_X p0 s m args meth c y cc L ret G A) (hy : y.cls = "LZ4JavaSafeCompressor") (hE : z_E1 A s) (hS : z_S G ws A s H locs) (hd : decode cc pc = .ok (.getstatic 9, 3))
    (k : W p0 l e R s m args below meth c H locs cells slots Q (F0 m (pc + 3) ls (.int (nI 6) :: rest))) : W p0 l e R s m args below meth c H locs cells slots Q (F0 m pc ls rest) :=
  va_gets (own := "LZ4JavaSafeCompressor") (ref := "LZ4Constants") X.x X.b hE hS.2.2 (by rw [← hy]; exact X.own) (X.w q232) (fun x h => h) hd k
end ZK
/-- at the search: all up to a is packed, in d bytes -/
def z_an (p t : Nat → Int8) (n kk d a : Nat) : Prop := z_ck p t n kk d a ∧ d ≤ a + a / 255
/-- at a match: the token at tok and its literals stand -/
def z_md (p t : Nat → Int8) (n kk tok a lit i1 : Nat) : Prop := z_ck p t n kk tok a ∧ tok ≤ a + a / 255 ∧ z_ub (p tok) = min lit 15 * 16 ∧ z_lit p t tok a lit i1
/-- the match itself -/
def z_mt (t : Nat → Int8) (n ref sO ex : Nat) (h : Nat → Nat) : Prop := ref < sO ∧ (∀ j, j < ex + 4 → t (ref + j) = t (sO + j)) ∧ sO + ex + 12 ≤ n ∧ ∀ j, j < 8192 → h j ≤ sO + ex
theorem z_uplt {h : Nat → Nat} {i v b c N : Nat} (hh : ∀ j, j < N → h j ≤ b) (hb : b ≤ c) (hv : v ≤ c) : ∀ j, j < N → va_up h i v j ≤ c := by
  intro j hj
  by_cases q : j = i
  · rw [z_upS h v q]; exact hv
  · rw [z_upN h v q]; exact Nat.le_trans (hh j hj) hb
set_option maxHeartbeats 4000000 in
theorem lo_search {p9 : Program} {l : Launch} {e : Env} {s : State} {m : MethodId} {args : Array Value} {below : List Frame} {meth : Method} {c : Code} {A : Nat → Prop} {G : z_G} {Q : State → Prop} (x1 x2 x3 : Nat) (t : Nat → Int8) (n : Nat) (hn : n ≤ 16384) (hn13 : 13 ≤ n) (p : Nat → Int8) (kk d a : Nat) (hka : z_an p t n kk d a) (X : z_X p9 s m args meth c yX3_compress64k cX3_compress64k 22 (some .int) G A) (hE : z_E1 A s) (K : ∀ (p : Nat → Int8) (kk : Nat) (d : Nat) (a : Nat), z_an p t n kk d a → a ≤ n → ∀ (H : Heap) (locs : List Loc) (ls : Array Slot), z_S G [(x1, z_B G 16384 t), (x2, z_B G 16464 p)] A s H locs → lv_has ls 22 [(0, .ref x1), (1, .int (nI 0)), (3, .ref x2), (4, .int (nI 0)), (5, .int (nI 16464)), (6, .int (nI n)), (10, .int (nI d)), (11, .int (nI a))] → W p9 l e (z_rm 2 1 8192 90) s m args below meth c H locs 1 8192 Q (F0 m 499 ls [])) (K1 : ∀ (sO : Nat) (ref : Nat) (h : Nat → Nat), a + 1 ≤ sO → sO + 13 ≤ n → ref < sO → (∀ j, j < 4 → t (ref + j) = t (sO + j)) → (∀ j, j < 8192 → h j ≤ sO) → ∀ (H : Heap) (locs : List Loc) (ls : Array Slot), z_S G [(x1, z_B G 16384 t), (x2, z_B G 16464 p), (x3, z_H G 8192 h)] A s H locs → lv_has ls 22 [(0, .ref x1), (1, .int (nI 0)), (3, .ref x2), (4, .int (nI 0)), (5, .int (nI 16464)), (6, .int (nI n)), (7, .int (nI (n - 5))), (8, .int (nI (n - 12))), (9, .int (nI sO)), (10, .int (nI d)), (11, .int (nI a)), (12, .ref x3), (14, .int (nI ref))] → W p9 l e (z_rm 2 1 8192 90) s m args below meth c H locs 1 8192 Q (F0 m 135 ls [])) :
    ∀ (k : Nat) (f : Nat) (st : Nat) (q : Nat) (h : Nat → Nat), n + 1 - f < k → a + 1 ≤ f → f ≤ n → 1 ≤ st → st ≤ 300 → 64 ≤ q → q ≤ 64 + f → (∀ j, j < 8192 → h j ≤ f - 1) → ∀ (H : Heap) (locs : List Loc) (ls : Array Slot), z_S G [(x1, z_B G 16384 t), (x2, z_B G 16464 p), (x3, z_H G 8192 h)] A s H locs → lv_has ls 22 [(0, .ref x1), (1, .int (nI 0)), (3, .ref x2), (4, .int (nI 0)), (5, .int (nI 16464)), (6, .int (nI n)), (7, .int (nI (n - 5))), (8, .int (nI (n - 12))), (10, .int (nI d)), (11, .int (nI a)), (12, .ref x3), (13, .int (nI f)), (15, .int (nI st)), (16, .int (nI q))] → W p9 l e (z_rm 2 1 8192 90) s m args below meth c H locs 1 8192 Q (F0 m 59 ls []) := by
  intro k
  induction k with
  | zero =>
    intro f st q h hk
    exact absurd hk (Nat.not_lt_zero _)
  | succ k ih =>
    intro f st q h hk hf1 hf2 hs1 hs2 hq1 hq2 hh H locs ls hS hl
    refine lv_iload X.x X.b dX3_compress64k_59 (lv_at hl 11 rfl) ?_
    refine lv_istore (lv' := [(9, .int (nI f)), (0, .ref x1), (1, .int (nI 0)), (3, .ref x2), (4, .int (nI 0)), (5, .int (nI 16464)), (6, .int (nI n)), (7, .int (nI (n - 5))), (8, .int (nI (n - 12))), (10, .int (nI d)), (11, .int (nI a)), (12, .ref x3), (13, .int (nI f)), (15, .int (nI st)), (16, .int (nI q))]) X.x X.b dX3_compress64k_61 hl (by decide) rfl (fun ls hl => ?_)
    refine lv_iload X.x X.b dX3_compress64k_63 (lv_at hl 12 rfl) ?_
    refine lv_iload X.x X.b dX3_compress64k_65 (lv_at hl 13 rfl) ?_
    refine z_iadd X.x X.b dX3_compress64k_67 ?_
    refine lv_istore (lv' := [(13, .int (nI (f + st))), (9, .int (nI f)), (0, .ref x1), (1, .int (nI 0)), (3, .ref x2), (4, .int (nI 0)), (5, .int (nI 16464)), (6, .int (nI n)), (7, .int (nI (n - 5))), (8, .int (nI (n - 12))), (10, .int (nI d)), (11, .int (nI a)), (12, .ref x3), (15, .int (nI st)), (16, .int (nI q))]) X.x X.b dX3_compress64k_68 hl (by decide) rfl (fun ls hl => ?_)
    refine lv_iload X.x X.b dX3_compress64k_70 (lv_at hl 14 rfl) ?_
    refine z_iinc (d := 1) (lv' := [(16, .int (nI (q + 1))), (13, .int (nI (f + st))), (9, .int (nI f)), (0, .ref x1), (1, .int (nI 0)), (3, .ref x2), (4, .int (nI 0)), (5, .int (nI 16464)), (6, .int (nI n)), (7, .int (nI (n - 5))), (8, .int (nI (n - 12))), (10, .int (nI d)), (11, .int (nI a)), (12, .ref x3), (15, .int (nI st))]) X.x X.b dX3_compress64k_72 hl (k := 14) rfl (by decide) (by decide) rfl (fun ls hl => ?_)
    refine z_skip X rfl hE hS dX3_compress64k_75 ?_
    refine lv_iushr X.x X.b dX3_compress64k_78 rfl ?_
    refine z_top (y := (nI (q / 64))) (pk_ushrN (by omega) (nI 6) 6 (by decide)) ?_
    refine lv_istore (lv' := [(15, .int (nI (q / 64))), (16, .int (nI (q + 1))), (13, .int (nI (f + st))), (9, .int (nI f)), (0, .ref x1), (1, .int (nI 0)), (3, .ref x2), (4, .int (nI 0)), (5, .int (nI 16464)), (6, .int (nI n)), (7, .int (nI (n - 5))), (8, .int (nI (n - 12))), (10, .int (nI d)), (11, .int (nI a)), (12, .ref x3)]) X.x X.b dX3_compress64k_79 hl (by decide) rfl (fun ls hl => ?_)
    refine lv_iload X.x X.b dX3_compress64k_81 (lv_at hl 2 rfl) ?_
    refine lv_iload X.x X.b dX3_compress64k_83 (lv_at hl 11 rfl) ?_
    refine z_icmp_le (tgt := 91) X.x X.b dX3_compress64k_85 (by decide) (by omega) (by omega) (fun c1 => ?_) (fun c1 => ?_)
    · refine lv_aload_n X.x X.b dX3_compress64k_91 rfl (lv_at hl 4 rfl) ?_
      refine lv_iload X.x X.b dX3_compress64k_92 (lv_at hl 3 rfl) ?_
      refine z_cSi (wr := [(x2, z_B G 16464 p), (x3, z_H G 8192 h)]) X rfl z_E0ok trivial hS (m_readInt l G x1 16384 t f (by omega) (by decide)) 2 q234 q235 q9 q236 nm_m_readInt ⟨rfl, rfl⟩ ⟨Nat.le_of_ble_eq_true rfl, Nat.le_of_ble_eq_true rfl⟩ [0] [1, 2] ⟨rfl, rfl, rfl, rfl, by decide⟩ rfl hl.1 rfl (Nat.le_of_ble_eq_true rfl) ⟨Nat.le_of_ble_eq_true rfl, Nat.le_of_ble_eq_true rfl⟩ dX3_compress64k_94 (fun r_1 u_2 H locs hp hS => ?_)
      have hS : z_S G [(x2, z_B G 16464 p), (x3, z_H G 8192 h), (x1, z_B G 16384 t)] A s H locs := hS
      have hS := hS.sub (ws' := [(x1, z_B G 16384 t), (x2, z_B G 16464 p), (x3, z_H G 8192 h)]) [2, 0, 1] rfl rfl
      refine z_cSi (wr := [(x1, z_B G 16384 t), (x2, z_B G 16464 p), (x3, z_H G 8192 h)]) X rfl z_E0ok trivial hS (m_hash64k l G r_1) 1 q240 q241 q17 q242 nm_m_hash64k ⟨rfl, rfl⟩ ⟨Nat.le_of_ble_eq_true rfl, Nat.le_of_ble_eq_true rfl⟩ [] [0, 1, 2] ⟨rfl, rfl, rfl, rfl, by decide⟩ rfl hl.1 rfl (Nat.le_of_ble_eq_true rfl) ⟨Nat.le_of_ble_eq_true rfl, Nat.le_of_ble_eq_true rfl⟩ dX3_compress64k_97 (fun r_3 u_4 H locs hp hS => ?_)
      have hS : z_S G [(x1, z_B G 16384 t), (x2, z_B G 16464 p), (x3, z_H G 8192 h)] A s H locs := hS
      obtain ⟨hx, hhx, rfl⟩ := hp
      refine lv_istore (lv' := [(17, .int (nI hx)), (15, .int (nI (q / 64))), (16, .int (nI (q + 1))), (13, .int (nI (f + st))), (9, .int (nI f)), (0, .ref x1), (1, .int (nI 0)), (3, .ref x2), (4, .int (nI 0)), (5, .int (nI 16464)), (6, .int (nI n)), (7, .int (nI (n - 5))), (8, .int (nI (n - 12))), (10, .int (nI d)), (11, .int (nI a)), (12, .ref x3)]) X.x X.b dX3_compress64k_100 hl (by decide) rfl (fun ls hl => ?_)
      refine lv_iload_n X.x X.b dX3_compress64k_102 rfl (lv_at hl 6 rfl) ?_
      refine lv_aload X.x X.b dX3_compress64k_103 (lv_at hl 15 rfl) ?_
      refine lv_iload X.x X.b dX3_compress64k_105 (lv_at hl 0 rfl) ?_
      refine z_cSi (wr := [(x1, z_B G 16384 t), (x2, z_B G 16464 p)]) X rfl z_E0ok trivial hS (m_readShort l G x3 8192 h hx hhx (by decide) (by have := hh hx hhx; omega)) 2 q244 q245 q9 q246 nm_m_readShort ⟨rfl, rfl⟩ ⟨Nat.le_of_ble_eq_true rfl, Nat.le_of_ble_eq_true rfl⟩ [2] [0, 1] ⟨rfl, rfl, rfl, rfl, by decide⟩ rfl hl.1 rfl (Nat.le_of_ble_eq_true rfl) ⟨Nat.le_of_ble_eq_true rfl, Nat.le_of_ble_eq_true rfl⟩ dX3_compress64k_107 (fun r_5 u_6 H locs hp hS => ?_)
      have hS : z_S G [(x1, z_B G 16384 t), (x2, z_B G 16464 p), (x3, z_H G 8192 h)] A s H locs := hS
      obtain rfl := hp
      refine z_iadd X.x X.b dX3_compress64k_110 ?_
      refine z_top (y := (nI (h hx))) (congrArg nI (Nat.zero_add _)) ?_
      refine lv_istore (lv' := [(14, .int (nI (h hx))), (17, .int (nI hx)), (15, .int (nI (q / 64))), (16, .int (nI (q + 1))), (13, .int (nI (f + st))), (9, .int (nI f)), (0, .ref x1), (1, .int (nI 0)), (3, .ref x2), (4, .int (nI 0)), (5, .int (nI 16464)), (6, .int (nI n)), (7, .int (nI (n - 5))), (8, .int (nI (n - 12))), (10, .int (nI d)), (11, .int (nI a)), (12, .ref x3)]) X.x X.b dX3_compress64k_111 hl (by decide) rfl (fun ls hl => ?_)
      refine lv_aload X.x X.b dX3_compress64k_113 (lv_at hl 16 rfl) ?_
      refine lv_iload X.x X.b dX3_compress64k_115 (lv_at hl 1 rfl) ?_
      refine lv_iload X.x X.b dX3_compress64k_117 (lv_at hl 5 rfl) ?_
      refine lv_iload_n X.x X.b dX3_compress64k_119 rfl (lv_at hl 7 rfl) ?_
      refine z_isub X.x X.b dX3_compress64k_120 (by omega) ?_
      refine z_top (y := (nI f)) (congrArg nI (Nat.sub_zero _)) ?_
      refine z_cSv (wr := [(x1, z_B G 16384 t), (x2, z_B G 16464 p)]) X rfl z_E0ok trivial hS (m_writeShort l G x3 8192 h hx f hhx (by decide) (by omega)) 3 q248 q249 q9 q250 nm_m_writeShort ⟨rfl, rfl⟩ ⟨Nat.le_of_ble_eq_true rfl, Nat.le_of_ble_eq_true rfl⟩ [2] [0, 1] ⟨rfl, rfl, rfl, rfl, by decide⟩ rfl hl.1 rfl (Nat.le_of_ble_eq_true rfl) ⟨Nat.le_of_ble_eq_true rfl, Nat.le_of_ble_eq_true rfl⟩ dX3_compress64k_121 (fun u9 H locs hp hS => ?_)
      have hS : z_S G [(x1, z_B G 16384 t), (x2, z_B G 16464 p), (x3, z_H G 8192 u9)] A s H locs := hS
      subst hp
      refine lv_aload_n X.x X.b dX3_compress64k_124 rfl (lv_at hl 6 rfl) ?_
      refine lv_iload X.x X.b dX3_compress64k_125 (lv_at hl 0 rfl) ?_
      refine lv_iload X.x X.b dX3_compress64k_127 (lv_at hl 5 rfl) ?_
      have hr := hh hx hhx
      refine z_cSi (wr := [(x2, z_B G 16464 p), (x3, z_H G 8192 (va_up h hx f))]) X rfl z_E0ok trivial hS (m_eq4 l G x1 16384 t (h hx) f (by omega) (by omega) (by decide)) 3 q251 q252 q18 q253 nm_m_eq4 ⟨rfl, rfl⟩ ⟨Nat.le_of_ble_eq_true rfl, Nat.le_of_ble_eq_true rfl⟩ [0] [1, 2] ⟨rfl, rfl, rfl, rfl, by decide⟩ rfl hl.1 rfl (Nat.le_of_ble_eq_true rfl) ⟨Nat.le_of_ble_eq_true rfl, Nat.le_of_ble_eq_true rfl⟩ dX3_compress64k_129 (fun r_8 u_9 H locs hp hS => ?_)
      have hS : z_S G [(x2, z_B G 16464 p), (x3, z_H G 8192 (va_up h hx f)), (x1, z_B G 16384 t)] A s H locs := hS
      have hS := hS.sub (ws' := [(x1, z_B G 16384 t), (x2, z_B G 16464 p), (x3, z_H G 8192 (va_up h hx f))]) [2, 0, 1] rfl rfl
      refine lv_if_eq (tgt := 59) X.x X.b dX3_compress64k_132 (by decide) (fun c2 => ?_) (fun c2 => ?_)
      · exact ih (f + st) (q / 64) (q + 1) (va_up h hx f) (by omega) (by omega) (by omega) (by omega) (by omega) (by omega) (by omega) (z_uplt hh (by omega) (by omega)) H _ ls hS (lv_sub hl [6, 7, 8, 9, 10, 11, 12, 13, 14, 15, 16, 4, 2, 3] rfl)
      · exact K1 f (h hx) (va_up h hx f) (hf1) (by omega) (by omega) (Classical.byContradiction fun q => c2 (hp.mpr q)) (z_uplt hh (by omega) (by omega)) H _ ls hS (lv_sub hl [6, 7, 8, 9, 10, 11, 12, 13, 5, 14, 15, 16, 0] rfl)
    · refine lv_goto (tgt := 499) X.x X.b dX3_compress64k_88 (by decide) ?_
      exact K p kk d a (hka) (by omega) H _ ls (hS.sub [0, 1] rfl rfl) (lv_sub hl [4, 5, 6, 7, 8, 9, 12, 13] rfl)
set_option maxHeartbeats 4000000 in
theorem lo_lits {p9 : Program} {l : Launch} {e : Env} {s : State} {m : MethodId} {args : Array Value} {below : List Frame} {meth : Method} {c : Code} {A : Nat → Prop} {G : z_G} {Q : State → Prop} (x1 x2 x3 : Nat) (t : Nat → Int8) (n : Nat) (hn : n ≤ 16384) (hn13 : 13 ≤ n) (p : Nat → Int8) (kk d a sO ref : Nat) (h : Nat → Nat) (hk : z_an p t n kk d a) (g1 : a + 1 ≤ sO) (g2 : sO + 13 ≤ n) (g3 : ref < sO) (g4 : ∀ j, j < 4 → t (ref + j) = t (sO + j)) (g5 : ∀ j, j < 8192 → h j ≤ sO) (X : z_X p9 s m args meth c yX3_compress64k cX3_compress64k 22 (some .int) G A) (K : ∀ (p : Nat → Int8) (lit : Nat) (i1 : Nat) (sO : Nat) (dO : Nat) (ref : Nat) (ex : Nat), z_md p t n kk d a lit i1 → z_mt t n ref sO ex h → sO = a + lit → dO = i1 + lit → ∀ (H : Heap) (locs : List Loc) (ls : Array Slot), z_S G [(x1, z_B G 16384 t), (x2, z_B G 16464 p), (x3, z_H G 8192 h)] A s H locs → lv_has ls 22 [(0, .ref x1), (1, .int (nI 0)), (3, .ref x2), (4, .int (nI 0)), (5, .int (nI 16464)), (6, .int (nI n)), (7, .int (nI (n - 5))), (8, .int (nI (n - 12))), (9, .int (nI sO)), (10, .int (nI dO)), (12, .ref x3), (14, .int (nI ref)), (19, .int (nI d))] → W p9 l e (z_rm 2 1 8192 90) s m args below meth c H locs 1 8192 Q (F0 m 267 ls [])) :
    ∀ (_ : Unit), ∀ (H : Heap) (locs : List Loc) (ls : Array Slot), z_S G [(x1, z_B G 16384 t), (x2, z_B G 16464 p), (x3, z_H G 8192 h)] A s H locs → lv_has ls 22 [(0, .ref x1), (1, .int (nI 0)), (3, .ref x2), (4, .int (nI 0)), (5, .int (nI 16464)), (6, .int (nI n)), (7, .int (nI (n - 5))), (8, .int (nI (n - 12))), (9, .int (nI sO)), (10, .int (nI d)), (11, .int (nI a)), (12, .ref x3), (14, .int (nI ref))] → W p9 l e (z_rm 2 1 8192 90) s m args below meth c H locs 1 8192 Q (F0 m 135 ls []) := by
  intro _  H locs ls hS hl
  obtain ⟨hck, hda⟩ := hk
  refine lv_aload_n X.x X.b dX3_compress64k_135 rfl (lv_at hl 0 rfl) ?_
  refine lv_iload X.x X.b dX3_compress64k_136 (lv_at hl 12 rfl) ?_
  refine lv_iload X.x X.b dX3_compress64k_138 (lv_at hl 8 rfl) ?_
  refine lv_iload_n X.x X.b dX3_compress64k_140 rfl (lv_at hl 1 rfl) ?_
  refine lv_iload X.x X.b dX3_compress64k_141 (lv_at hl 10 rfl) ?_
  refine z_cSi (wr := [(x2, z_B G 16464 p), (x3, z_H G 8192 h)]) X rfl z_E0ok trivial hS (m_backw l G x1 16384 t ref sO 0 a (Nat.zero_le _) (by omega) (by omega) (by omega) (by decide)) 5 q254 q255 q18 q256 nm_m_backw ⟨rfl, rfl⟩ ⟨Nat.le_of_ble_eq_true rfl, Nat.le_of_ble_eq_true rfl⟩ [0] [1, 2] ⟨rfl, rfl, rfl, rfl, by decide⟩ rfl hl.1 rfl (Nat.le_of_ble_eq_true rfl) ⟨Nat.le_of_ble_eq_true rfl, Nat.le_of_ble_eq_true rfl⟩ dX3_compress64k_143 (fun r_1 u_2 H locs hp hS => ?_)
  have hS : z_S G [(x2, z_B G 16464 p), (x3, z_H G 8192 h), (x1, z_B G 16384 t)] A s H locs := hS
  obtain ⟨ex, rf, so, rfl, e1, e2, -, e4, e5⟩ := hp
  have hS := hS.sub (ws' := [(x1, z_B G 16384 t), (x2, z_B G 16464 p), (x3, z_H G 8192 h)]) [2, 0, 1] rfl rfl
  refine lv_istore (lv' := [(17, .int (nI ex)), (0, .ref x1), (1, .int (nI 0)), (3, .ref x2), (4, .int (nI 0)), (5, .int (nI 16464)), (6, .int (nI n)), (7, .int (nI (n - 5))), (8, .int (nI (n - 12))), (9, .int (nI sO)), (10, .int (nI d)), (11, .int (nI a)), (12, .ref x3), (14, .int (nI ref))]) X.x X.b dX3_compress64k_146 hl (by decide) rfl (fun ls hl => ?_)
  refine lv_iload X.x X.b dX3_compress64k_148 (lv_at hl 9 rfl) ?_
  refine lv_iload X.x X.b dX3_compress64k_150 (lv_at hl 0 rfl) ?_
  refine z_isub X.x X.b dX3_compress64k_152 (by omega) ?_
  refine z_top (y := (nI so)) (congrArg nI (by omega)) ?_
  refine lv_istore (lv' := [(9, .int (nI so)), (17, .int (nI ex)), (0, .ref x1), (1, .int (nI 0)), (3, .ref x2), (4, .int (nI 0)), (5, .int (nI 16464)), (6, .int (nI n)), (7, .int (nI (n - 5))), (8, .int (nI (n - 12))), (10, .int (nI d)), (11, .int (nI a)), (12, .ref x3), (14, .int (nI ref))]) X.x X.b dX3_compress64k_153 hl (by decide) rfl (fun ls hl => ?_)
  refine lv_iload X.x X.b dX3_compress64k_155 (lv_at hl 13 rfl) ?_
  refine lv_iload X.x X.b dX3_compress64k_157 (lv_at hl 1 rfl) ?_
  refine z_isub X.x X.b dX3_compress64k_159 (by omega) ?_
  refine z_top (y := (nI rf)) (congrArg nI (by omega)) ?_
  refine lv_istore (lv' := [(14, .int (nI rf)), (9, .int (nI so)), (17, .int (nI ex)), (0, .ref x1), (1, .int (nI 0)), (3, .ref x2), (4, .int (nI 0)), (5, .int (nI 16464)), (6, .int (nI n)), (7, .int (nI (n - 5))), (8, .int (nI (n - 12))), (10, .int (nI d)), (11, .int (nI a)), (12, .ref x3)]) X.x X.b dX3_compress64k_160 hl (by decide) rfl (fun ls hl => ?_)
  refine lv_iload X.x X.b dX3_compress64k_162 (lv_at hl 1 rfl) ?_
  refine lv_iload X.x X.b dX3_compress64k_164 (lv_at hl 12 rfl) ?_
  refine z_isub X.x X.b dX3_compress64k_166 (by omega) ?_
  refine lv_istore (lv' := [(18, .int (nI (so - a))), (14, .int (nI rf)), (9, .int (nI so)), (17, .int (nI ex)), (0, .ref x1), (1, .int (nI 0)), (3, .ref x2), (4, .int (nI 0)), (5, .int (nI 16464)), (6, .int (nI n)), (7, .int (nI (n - 5))), (8, .int (nI (n - 12))), (10, .int (nI d)), (11, .int (nI a)), (12, .ref x3)]) X.x X.b dX3_compress64k_167 hl (by decide) rfl (fun ls hl => ?_)
  refine lv_iload X.x X.b dX3_compress64k_169 (lv_at hl 12 rfl) ?_
  refine z_iinc (d := 1) (lv' := [(10, .int (nI (d + 1))), (18, .int (nI (so - a))), (14, .int (nI rf)), (9, .int (nI so)), (17, .int (nI ex)), (0, .ref x1), (1, .int (nI 0)), (3, .ref x2), (4, .int (nI 0)), (5, .int (nI 16464)), (6, .int (nI n)), (7, .int (nI (n - 5))), (8, .int (nI (n - 12))), (11, .int (nI a)), (12, .ref x3)]) X.x X.b dX3_compress64k_171 hl (k := 12) rfl (by decide) (by decide) rfl (fun ls hl => ?_)
  refine lv_istore (lv' := [(19, .int (nI d)), (10, .int (nI (d + 1))), (18, .int (nI (so - a))), (14, .int (nI rf)), (9, .int (nI so)), (17, .int (nI ex)), (0, .ref x1), (1, .int (nI 0)), (3, .ref x2), (4, .int (nI 0)), (5, .int (nI 16464)), (6, .int (nI n)), (7, .int (nI (n - 5))), (8, .int (nI (n - 12))), (11, .int (nI a)), (12, .ref x3)]) X.x X.b dX3_compress64k_174 hl (by decide) rfl (fun ls hl => ?_)
  refine lv_iload X.x X.b dX3_compress64k_176 (lv_at hl 10 rfl) ?_
  refine lv_iload X.x X.b dX3_compress64k_178 (lv_at hl 1 rfl) ?_
  refine z_isub X.x X.b dX3_compress64k_180 (by omega) ?_
  refine lv_iload X.x X.b dX3_compress64k_181 (lv_at hl 2 rfl) ?_
  refine lv_iconst (v := (nI 0)) X.x X.b dX3_compress64k_183 (by decide) ?_
  obtain ⟨lit, hlit⟩ : ∃ lit, lit = so - a := ⟨_, rfl⟩
  rw [← hlit] at hl
  rw [← hlit]
  have hel := z_el_le lit
  have hel2 := z_el_le2 lit
  refine z_cSi (wr := [(x1, z_B G 16384 t), (x2, z_B G 16464 p), (x3, z_H G 8192 h)]) X rfl z_E0ok trivial hS (m_seqLen l G lit (by omega)) 2 q257 q258 q17 q259 nm_m_seqLen ⟨rfl, rfl⟩ ⟨Nat.le_of_ble_eq_true rfl, Nat.le_of_ble_eq_true rfl⟩ [] [0, 1, 2] ⟨rfl, rfl, rfl, rfl, by decide⟩ rfl hl.1 rfl (Nat.le_of_ble_eq_true rfl) ⟨Nat.le_of_ble_eq_true rfl, Nat.le_of_ble_eq_true rfl⟩ dX3_compress64k_184 (fun r_3 u_4 H locs hp hS => ?_)
  have hS : z_S G [(x1, z_B G 16384 t), (x2, z_B G 16464 p), (x3, z_H G 8192 h)] A s H locs := hS
  obtain rfl : r_3 = nI (3 + z_el lit + lit) := hp
  refine lv_iconst (v := (nI 1)) X.x X.b dX3_compress64k_187 (by decide) ?_
  refine z_iadd X.x X.b dX3_compress64k_188 ?_
  refine lv_iconst (v := (nI 5)) X.x X.b dX3_compress64k_189 (by decide) ?_
  refine z_iadd X.x X.b dX3_compress64k_190 ?_
  refine z_cSi (wr := [(x1, z_B G 16384 t), (x2, z_B G 16464 p), (x3, z_H G 8192 h)]) X rfl z_E0ok trivial hS (m_notEnough l G (16464 - (d + 1)) (3 + z_el lit + lit + 1 + 5) (by omega) (by omega)) 2 q282 q283 q17 q284 nm_m_notEnough ⟨rfl, rfl⟩ ⟨Nat.le_of_ble_eq_true rfl, Nat.le_of_ble_eq_true rfl⟩ [] [0, 1, 2] ⟨rfl, rfl, rfl, rfl, by decide⟩ rfl hl.1 rfl (Nat.le_of_ble_eq_true rfl) ⟨Nat.le_of_ble_eq_true rfl, Nat.le_of_ble_eq_true rfl⟩ dX3_compress64k_191 (fun r_5 u_6 H locs hp hS => ?_)
  have hS : z_S G [(x1, z_B G 16384 t), (x2, z_B G 16464 p), (x3, z_H G 8192 h)] A s H locs := hS
  refine lv_if_eq (tgt := 207) X.x X.b dX3_compress64k_194 (by decide) (fun c3 => ?_) (fun c3 => absurd (hp.mpr (by omega)) c3)
  refine lv_iload X.x X.b dX3_compress64k_207 (lv_at hl 2 rfl) ?_
  refine lv_bipush (v := (nI 15)) X.x X.b dX3_compress64k_209 (by decide) ?_
  refine z_icmp_lt (tgt := 239) X.x X.b dX3_compress64k_211 (by decide) (by omega) (by omega) (fun c4 => ?_) (fun c4 => ?_)
  · refine lv_aload_n X.x X.b dX3_compress64k_239 rfl (lv_at hl 8 rfl) ?_
    refine lv_iload X.x X.b dX3_compress64k_240 (lv_at hl 0 rfl) ?_
    refine lv_iload X.x X.b dX3_compress64k_242 (lv_at hl 2 rfl) ?_
    refine lv_iconst (v := (nI 4)) X.x X.b dX3_compress64k_244 (by decide) ?_
    refine lv_ishl X.x X.b dX3_compress64k_245 ?_
    refine z_top (y := (nI (lit * 16))) (pk_shlN (nI 4 &&& 31) 4 (by decide) (by omega)) ?_
    refine z_cSv (wr := [(x1, z_B G 16384 t), (x3, z_H G 8192 h)]) X rfl z_E0ok trivial hS (m_writeByte l G x2 16464 p d (nI (lit * 16)) (by omega) (by decide)) 3 q288 q289 q9 q290 nm_m_writeByte ⟨rfl, rfl⟩ ⟨Nat.le_of_ble_eq_true rfl, Nat.le_of_ble_eq_true rfl⟩ [1] [0, 2] ⟨rfl, rfl, rfl, rfl, by decide⟩ rfl hl.1 rfl (Nat.le_of_ble_eq_true rfl) ⟨Nat.le_of_ble_eq_true rfl, Nat.le_of_ble_eq_true rfl⟩ dX3_compress64k_246 (fun u9 H locs hp hS => ?_)
    have hS : z_S G [(x1, z_B G 16384 t), (x3, z_H G 8192 h), (x2, z_B G 16464 u9)] A s H locs := hS
    subst hp
    have hS := hS.sub (ws' := [(x1, z_B G 16384 t), (x2, z_B G 16464 (va_up p d (nI (lit * 16)).toInt8)), (x3, z_H G 8192 h)]) [0, 2, 1] rfl rfl
    have he : z_el lit = 0 := if_neg (by omega)
    have hl : lv_has ls 22 [(19, .int (nI d)), (10, .int (nI (d + 1 + z_el lit))), (18, .int (nI lit)), (14, .int (nI rf)), (9, .int (nI so)), (17, .int (nI ex)), (0, .ref x1), (1, .int (nI 0)), (3, .ref x2), (4, .int (nI 0)), (5, .int (nI 16464)), (6, .int (nI n)), (7, .int (nI (n - 5))), (8, .int (nI (n - 12))), (11, .int (nI a)), (12, .ref x3)] := by have e : d + 1 = d + 1 + z_el lit := (by omega); rw [e] at hl; exact hl
    obtain ⟨p1, hp1⟩ : ∃ p1, p1 = (va_up p d (nI (lit * 16)).toInt8) := ⟨_, rfl⟩
    rw [← hp1] at hS
    have k1 : ∀ j, j < d → p1 j = p j := fun j hj => by rw [hp1]; exact z_upN p _ (by omega)
    have k2 : z_ub (p1 d) = min lit 15 * 16 := by rw [hp1, z_upS p _ rfl, z_ubN]; omega
    have k3 : z_len p1 (d + 1) lit (d + 1 + z_el lit) := ⟨fun _ => by omega, fun q => absurd q (by omega)⟩
    refine lv_aload_n X.x X.b dX3_compress64k_249 rfl (lv_at hl 6 rfl) ?_
    refine lv_iload X.x X.b dX3_compress64k_250 (lv_at hl 14 rfl) ?_
    refine lv_aload_n X.x X.b dX3_compress64k_252 rfl (lv_at hl 8 rfl) ?_
    refine lv_iload X.x X.b dX3_compress64k_253 (lv_at hl 1 rfl) ?_
    refine lv_iload X.x X.b dX3_compress64k_255 (lv_at hl 2 rfl) ?_
    refine z_cSWv (wr := [(x3, z_H G 8192 h)]) X rfl z_E0ok trivial hS (m_wild l G x1 x2 16384 16464 t p1 a (d + 1 + z_el lit) lit (by omega) (by omega) (by decide) (by decide)) 5 q294 q295 q18 q296 nm_m_wild ⟨rfl, rfl⟩ ⟨Nat.le_of_ble_eq_true rfl, Nat.le_of_ble_eq_true rfl⟩ [0, 1] [2] ⟨rfl, rfl, rfl, rfl, by decide⟩ rfl hl.1 rfl (Nat.le_of_ble_eq_true rfl) ⟨Nat.le_of_ble_eq_true rfl, Nat.le_of_ble_eq_true rfl⟩ dX3_compress64k_257 (fun v H locs hp hS => ?_)
    have hS : z_S G [(x3, z_H G 8192 h), (x1, z_B G 16384 t), (x2, z_B G 16464 v)] A s H locs := hS
    obtain ⟨v1, v2⟩ := hp
    have hS := hS.sub (ws' := [(x1, z_B G 16384 t), (x2, z_B G 16464 v), (x3, z_H G 8192 h)]) [1, 2, 0] rfl rfl
    refine lv_iload X.x X.b dX3_compress64k_260 (lv_at hl 1 rfl) ?_
    refine lv_iload X.x X.b dX3_compress64k_262 (lv_at hl 2 rfl) ?_
    refine z_iadd X.x X.b dX3_compress64k_264 ?_
    refine lv_istore (lv' := [(10, .int (nI ((d + 1 + z_el lit) + lit))), (19, .int (nI d)), (18, .int (nI lit)), (14, .int (nI rf)), (9, .int (nI so)), (17, .int (nI ex)), (0, .ref x1), (1, .int (nI 0)), (3, .ref x2), (4, .int (nI 0)), (5, .int (nI 16464)), (6, .int (nI n)), (7, .int (nI (n - 5))), (8, .int (nI (n - 12))), (11, .int (nI a)), (12, .ref x3)]) X.x X.b dX3_compress64k_265 hl (by decide) rfl (fun ls hl => ?_)
    have hlj := z_len_j k3
    exact K v lit (d + 1 + z_el lit) so (d + 1 + z_el lit + lit) rf ex (⟨z_ck_c kk d a hck (fun j hj => (v1 j (by omega)).trans (k1 j hj)), hda, by rw [v1 d (by omega)]; exact k2, z_len_c k3 (fun q q1 q2 => v1 q (by omega)), v2⟩) (⟨by omega, fun j hj => if q : j < ex then e5 j q else (by have e := g4 (j - ex) (by omega); rw [show ref + (j - ex) = rf + j by omega, show sO + (j - ex) = so + j by omega] at e; exact e), by omega, fun j hj => Nat.le_trans (g5 j hj) (by omega)⟩) (by omega) (rfl) H _ ls hS (lv_sub hl [6, 7, 8, 9, 10, 11, 12, 13, 4, 0, 15, 3, 1] rfl)
  · refine lv_aload_n X.x X.b dX3_compress64k_214 rfl (lv_at hl 8 rfl) ?_
    refine lv_iload X.x X.b dX3_compress64k_215 (lv_at hl 0 rfl) ?_
    refine lv_sipush (v := (nI 240)) X.x X.b dX3_compress64k_217 (by decide) ?_
    refine z_cSv (wr := [(x1, z_B G 16384 t), (x3, z_H G 8192 h)]) X rfl z_E0ok trivial hS (m_writeByte l G x2 16464 p d (nI 240) (by omega) (by decide)) 3 q288 q289 q9 q290 nm_m_writeByte ⟨rfl, rfl⟩ ⟨Nat.le_of_ble_eq_true rfl, Nat.le_of_ble_eq_true rfl⟩ [1] [0, 2] ⟨rfl, rfl, rfl, rfl, by decide⟩ rfl hl.1 rfl (Nat.le_of_ble_eq_true rfl) ⟨Nat.le_of_ble_eq_true rfl, Nat.le_of_ble_eq_true rfl⟩ dX3_compress64k_220 (fun u9 H locs hp hS => ?_)
    have hS : z_S G [(x1, z_B G 16384 t), (x3, z_H G 8192 h), (x2, z_B G 16464 u9)] A s H locs := hS
    subst hp
    have hS := hS.sub (ws' := [(x1, z_B G 16384 t), (x2, z_B G 16464 (va_up p d (nI 240).toInt8)), (x3, z_H G 8192 h)]) [0, 2, 1] rfl rfl
    refine lv_iload X.x X.b dX3_compress64k_223 (lv_at hl 2 rfl) ?_
    refine lv_bipush (v := (nI 15)) X.x X.b dX3_compress64k_225 (by decide) ?_
    refine z_isub X.x X.b dX3_compress64k_227 (by omega) ?_
    refine lv_aload_n X.x X.b dX3_compress64k_228 rfl (lv_at hl 8 rfl) ?_
    refine lv_iload X.x X.b dX3_compress64k_229 (lv_at hl 1 rfl) ?_
    have he : z_el lit = (lit - 15) / 255 + 1 := if_pos (by omega)
    refine z_cSi (wr := [(x1, z_B G 16384 t), (x3, z_H G 8192 h)]) X rfl z_E0ok trivial hS (m_writeLen l G x2 16464 (va_up p d (nI 240).toInt8) (lit - 15) (d + 1) (by omega) (by decide) (by omega)) 3 q291 q292 q18 q293 nm_m_writeLen ⟨rfl, rfl⟩ ⟨Nat.le_of_ble_eq_true rfl, Nat.le_of_ble_eq_true rfl⟩ [1] [0, 2] ⟨rfl, rfl, rfl, rfl, by decide⟩ rfl hl.1 rfl (Nat.le_of_ble_eq_true rfl) ⟨Nat.le_of_ble_eq_true rfl, Nat.le_of_ble_eq_true rfl⟩ dX3_compress64k_231 (fun r_10 u H locs hp hS => ?_)
    have hS : z_S G [(x1, z_B G 16384 t), (x3, z_H G 8192 h), (x2, z_B G 16464 u)] A s H locs := hS
    obtain ⟨rfl, w1, w2⟩ := hp
    have hS := hS.sub (ws' := [(x1, z_B G 16384 t), (x2, z_B G 16464 u), (x3, z_H G 8192 h)]) [0, 2, 1] rfl rfl
    refine z_top (y := (nI (d + 1 + z_el lit))) (congrArg nI (by omega)) ?_
    refine lv_istore (lv' := [(10, .int (nI (d + 1 + z_el lit))), (19, .int (nI d)), (18, .int (nI lit)), (14, .int (nI rf)), (9, .int (nI so)), (17, .int (nI ex)), (0, .ref x1), (1, .int (nI 0)), (3, .ref x2), (4, .int (nI 0)), (5, .int (nI 16464)), (6, .int (nI n)), (7, .int (nI (n - 5))), (8, .int (nI (n - 12))), (11, .int (nI a)), (12, .ref x3)]) X.x X.b dX3_compress64k_234 hl (by decide) rfl (fun ls hl => ?_)
    refine lv_goto (tgt := 249) X.x X.b dX3_compress64k_236 (by decide) ?_
    obtain ⟨p1, hp1⟩ : ∃ p1, p1 = u := ⟨_, rfl⟩
    rw [← hp1] at hS
    have k1 : ∀ j, j < d → p1 j = p j := fun j hj => by rw [hp1]; exact (w2 j (by omega)).trans (z_upN p _ (by omega))
    have k2 : z_ub (p1 d) = min lit 15 * 16 := by rw [hp1, w2 d (by omega), z_upS p _ rfl, z_ubN]; omega
    have k3 : z_len p1 (d + 1) lit (d + 1 + z_el lit) := ⟨fun q => absurd q (by omega), fun _ => by rw [hp1, he]; exact w1⟩
    refine lv_aload_n X.x X.b dX3_compress64k_249 rfl (lv_at hl 6 rfl) ?_
    refine lv_iload X.x X.b dX3_compress64k_250 (lv_at hl 14 rfl) ?_
    refine lv_aload_n X.x X.b dX3_compress64k_252 rfl (lv_at hl 8 rfl) ?_
    refine lv_iload X.x X.b dX3_compress64k_253 (lv_at hl 0 rfl) ?_
    refine lv_iload X.x X.b dX3_compress64k_255 (lv_at hl 2 rfl) ?_
    refine z_cSWv (wr := [(x3, z_H G 8192 h)]) X rfl z_E0ok trivial hS (m_wild l G x1 x2 16384 16464 t p1 a (d + 1 + z_el lit) lit (by omega) (by omega) (by decide) (by decide)) 5 q294 q295 q18 q296 nm_m_wild ⟨rfl, rfl⟩ ⟨Nat.le_of_ble_eq_true rfl, Nat.le_of_ble_eq_true rfl⟩ [0, 1] [2] ⟨rfl, rfl, rfl, rfl, by decide⟩ rfl hl.1 rfl (Nat.le_of_ble_eq_true rfl) ⟨Nat.le_of_ble_eq_true rfl, Nat.le_of_ble_eq_true rfl⟩ dX3_compress64k_257 (fun v H locs hp hS => ?_)
    have hS : z_S G [(x3, z_H G 8192 h), (x1, z_B G 16384 t), (x2, z_B G 16464 v)] A s H locs := hS
    obtain ⟨v1, v2⟩ := hp
    have hS := hS.sub (ws' := [(x1, z_B G 16384 t), (x2, z_B G 16464 v), (x3, z_H G 8192 h)]) [1, 2, 0] rfl rfl
    refine lv_iload X.x X.b dX3_compress64k_260 (lv_at hl 0 rfl) ?_
    refine lv_iload X.x X.b dX3_compress64k_262 (lv_at hl 2 rfl) ?_
    refine z_iadd X.x X.b dX3_compress64k_264 ?_
    refine lv_istore (lv' := [(10, .int (nI ((d + 1 + z_el lit) + lit))), (19, .int (nI d)), (18, .int (nI lit)), (14, .int (nI rf)), (9, .int (nI so)), (17, .int (nI ex)), (0, .ref x1), (1, .int (nI 0)), (3, .ref x2), (4, .int (nI 0)), (5, .int (nI 16464)), (6, .int (nI n)), (7, .int (nI (n - 5))), (8, .int (nI (n - 12))), (11, .int (nI a)), (12, .ref x3)]) X.x X.b dX3_compress64k_265 hl (by decide) rfl (fun ls hl => ?_)
    have hlj := z_len_j k3
    exact K v lit (d + 1 + z_el lit) so (d + 1 + z_el lit + lit) rf ex (⟨z_ck_c kk d a hck (fun j hj => (v1 j (by omega)).trans (k1 j hj)), hda, by rw [v1 d (by omega)]; exact k2, z_len_c k3 (fun q q1 q2 => v1 q (by omega)), v2⟩) (⟨by omega, fun j hj => if q : j < ex then e5 j q else (by have e := g4 (j - ex) (by omega); rw [show ref + (j - ex) = rf + j by omega, show sO + (j - ex) = so + j by omega] at e; exact e), by omega, fun j hj => Nat.le_trans (g5 j hj) (by omega)⟩) (by omega) (rfl) H _ ls hS (lv_sub hl [6, 7, 8, 9, 10, 11, 12, 13, 4, 0, 15, 3, 1] rfl)
set_option maxHeartbeats 4000000 in
theorem lo_match {p9 : Program} {l : Launch} {e : Env} {s : State} {m : MethodId} {args : Array Value} {below : List Frame} {meth : Method} {c : Code} {A : Nat → Prop} {G : z_G} {Q : State → Prop} (x1 x2 x3 : Nat) (t : Nat → Int8) (n : Nat) (hn : n ≤ 16384) (hn13 : 13 ≤ n) (p : Nat → Int8) (kk tok a lit i1 sO dO ref ex : Nat) (h : Nat → Nat) (m1 : z_md p t n kk tok a lit i1) (m2 : z_mt t n ref sO ex h) (m3 : sO = a + lit) (m4 : dO = i1 + lit) (X : z_X p9 s m args meth c yX3_compress64k cX3_compress64k 22 (some .int) G A) (K : ∀ (p : Nat → Int8) (d : Nat) (sN : Nat), z_an p t n (kk + 1) d sN → sN + 5 ≤ n → sO + 4 ≤ sN → (∀ j, j < 8192 → h j < sN) → ∀ (H : Heap) (locs : List Loc) (ls : Array Slot), z_S G [(x1, z_B G 16384 t), (x2, z_B G 16464 p), (x3, z_H G 8192 h)] A s H locs → lv_has ls 22 [(0, .ref x1), (1, .int (nI 0)), (3, .ref x2), (4, .int (nI 0)), (5, .int (nI 16464)), (6, .int (nI n)), (7, .int (nI (n - 5))), (8, .int (nI (n - 12))), (9, .int (nI sN)), (10, .int (nI d)), (12, .ref x3)] → W p9 l e (z_rm 2 1 8192 90) s m args below meth c H locs 1 8192 Q (F0 m 389 ls [])) :
    ∀ (_ : Unit), ∀ (H : Heap) (locs : List Loc) (ls : Array Slot), z_S G [(x1, z_B G 16384 t), (x2, z_B G 16464 p), (x3, z_H G 8192 h)] A s H locs → lv_has ls 22 [(0, .ref x1), (1, .int (nI 0)), (3, .ref x2), (4, .int (nI 0)), (5, .int (nI 16464)), (6, .int (nI n)), (7, .int (nI (n - 5))), (8, .int (nI (n - 12))), (9, .int (nI sO)), (10, .int (nI dO)), (12, .ref x3), (14, .int (nI ref)), (19, .int (nI tok))] → W p9 l e (z_rm 2 1 8192 90) s m args below meth c H locs 1 8192 Q (F0 m 267 ls []) := by
  intro _  H locs ls hS hl
  obtain ⟨hck, hda, htk, hlt⟩ := m1
  obtain ⟨n1, n2, n3, n4⟩ := m2
  have hj1 := z_len_j hlt.1
  have hel := z_el_le lit
  have hel2 := z_el_le2 lit
  refine lv_aload_n X.x X.b dX3_compress64k_267 rfl (lv_at hl 2 rfl) ?_
  refine lv_iload X.x X.b dX3_compress64k_268 (lv_at hl 9 rfl) ?_
  refine lv_iload X.x X.b dX3_compress64k_270 (lv_at hl 8 rfl) ?_
  refine lv_iload X.x X.b dX3_compress64k_272 (lv_at hl 11 rfl) ?_
  refine z_isub X.x X.b dX3_compress64k_274 (by omega) ?_
  refine lv_i2s (v := nI (sO - ref)) X.x X.b dX3_compress64k_275 (z_n16 (by omega)) ?_
  refine z_cSv (wr := [(x1, z_B G 16384 t), (x3, z_H G 8192 h)]) X rfl z_E0ok trivial hS (m_writeShortLE l G x2 16464 p dO (sO - ref) (by omega) (by decide) (by omega)) 3 q309 q310 q9 q311 nm_m_writeShortLE ⟨rfl, rfl⟩ ⟨Nat.le_of_ble_eq_true rfl, Nat.le_of_ble_eq_true rfl⟩ [1] [0, 2] ⟨rfl, rfl, rfl, rfl, by decide⟩ rfl hl.1 rfl (Nat.le_of_ble_eq_true rfl) ⟨Nat.le_of_ble_eq_true rfl, Nat.le_of_ble_eq_true rfl⟩ dX3_compress64k_276 (fun u9 H locs hp hS => ?_)
  have hS : z_S G [(x1, z_B G 16384 t), (x3, z_H G 8192 h), (x2, z_B G 16464 u9)] A s H locs := hS
  subst hp
  have hS := hS.sub (ws' := [(x1, z_B G 16384 t), (x2, z_B G 16464 (va_up (va_up p dO (nI (sO - ref)).toInt8) (dO + 1) (nI ((sO - ref) / 256)).toInt8)), (x3, z_H G 8192 h)]) [0, 2, 1] rfl rfl
  obtain ⟨p1, hp1⟩ : ∃ p1, p1 = (va_up (va_up p dO (nI (sO - ref)).toInt8) (dO + 1) (nI ((sO - ref) / 256)).toInt8) := ⟨_, rfl⟩
  rw [← hp1] at hS
  have k0 : z_ub (p1 dO) + 256 * z_ub (p1 (dO + 1)) = sO - ref := by rw [hp1, z_upN _ _ (by omega), z_upS _ _ rfl, z_upS _ _ rfl, z_ubN, z_ubN]; omega
  have k1 : ∀ j, j < dO → p1 j = p j := fun j hj => by rw [hp1, z_upN _ _ (by omega), z_upN _ _ (by omega)]
  refine z_iinc (d := 2) (lv' := [(10, .int (nI (dO + 2))), (0, .ref x1), (1, .int (nI 0)), (3, .ref x2), (4, .int (nI 0)), (5, .int (nI 16464)), (6, .int (nI n)), (7, .int (nI (n - 5))), (8, .int (nI (n - 12))), (9, .int (nI sO)), (12, .ref x3), (14, .int (nI ref)), (19, .int (nI tok))]) X.x X.b dX3_compress64k_279 hl (k := 9) rfl (by decide) (by decide) rfl (fun ls hl => ?_)
  refine z_iinc (d := 4) (lv' := [(9, .int (nI (sO + 4))), (10, .int (nI (dO + 2))), (0, .ref x1), (1, .int (nI 0)), (3, .ref x2), (4, .int (nI 0)), (5, .int (nI 16464)), (6, .int (nI n)), (7, .int (nI (n - 5))), (8, .int (nI (n - 12))), (12, .ref x3), (14, .int (nI ref)), (19, .int (nI tok))]) X.x X.b dX3_compress64k_282 hl (k := 9) rfl (by decide) (by decide) rfl (fun ls hl => ?_)
  refine z_iinc (d := 4) (lv' := [(14, .int (nI (ref + 4))), (9, .int (nI (sO + 4))), (10, .int (nI (dO + 2))), (0, .ref x1), (1, .int (nI 0)), (3, .ref x2), (4, .int (nI 0)), (5, .int (nI 16464)), (6, .int (nI n)), (7, .int (nI (n - 5))), (8, .int (nI (n - 12))), (12, .ref x3), (19, .int (nI tok))]) X.x X.b dX3_compress64k_285 hl (k := 11) rfl (by decide) (by decide) rfl (fun ls hl => ?_)
  refine lv_aload_n X.x X.b dX3_compress64k_288 rfl (lv_at hl 3 rfl) ?_
  refine lv_iload X.x X.b dX3_compress64k_289 (lv_at hl 0 rfl) ?_
  refine lv_iload X.x X.b dX3_compress64k_291 (lv_at hl 1 rfl) ?_
  refine lv_iload X.x X.b dX3_compress64k_293 (lv_at hl 9 rfl) ?_
  refine z_cSi (wr := [(x2, z_B G 16464 p1), (x3, z_H G 8192 h)]) X rfl z_E0ok trivial hS (m_common l G x1 16384 t (ref + 4) (sO + 4) (n - 5) (by omega) (by omega) (by omega) (by decide)) 4 q312 q313 q18 q314 nm_m_common ⟨rfl, rfl⟩ ⟨Nat.le_of_ble_eq_true rfl, Nat.le_of_ble_eq_true rfl⟩ [0] [1, 2] ⟨rfl, rfl, rfl, rfl, by decide⟩ rfl hl.1 rfl (Nat.le_of_ble_eq_true rfl) ⟨Nat.le_of_ble_eq_true rfl, Nat.le_of_ble_eq_true rfl⟩ dX3_compress64k_295 (fun r_2 u_3 H locs hp hS => ?_)
  have hS : z_S G [(x2, z_B G 16464 p1), (x3, z_H G 8192 h), (x1, z_B G 16384 t)] A s H locs := hS
  obtain ⟨ml, rfl, e1, e2, e3⟩ := hp
  have hS := hS.sub (ws' := [(x1, z_B G 16384 t), (x2, z_B G 16464 p1), (x3, z_H G 8192 h)]) [2, 0, 1] rfl rfl
  have hem := z_el_le ml
  have hem2 := z_el_le2 ml
  have hex : ex ≤ ml := by rcases Nat.lt_or_ge ml ex with q | q; exact absurd (by have := n2 (4 + ml) (by omega); rw [show ref + (4 + ml) = ref + 4 + ml by omega, show sO + (4 + ml) = sO + 4 + ml by omega] at this; exact this) (e3 (by omega)); exact q
  have hmm : ∀ j, j < ml + 4 → t (a + lit + j) = t (a + lit + j - (sO - ref)) := fun j hj => by rw [show a + lit + j - (sO - ref) = ref + j by omega, show a + lit + j = sO + j by omega]; exact (if q : j < 4 then (n2 j (by omega)).symm else (by have e := e2 (j - 4) (by omega); rw [show ref + 4 + (j - 4) = ref + j by omega, show sO + 4 + (j - 4) = sO + j by omega] at e; exact e.symm))
  refine lv_istore (lv' := [(20, .int (nI ml)), (14, .int (nI (ref + 4))), (9, .int (nI (sO + 4))), (10, .int (nI (dO + 2))), (0, .ref x1), (1, .int (nI 0)), (3, .ref x2), (4, .int (nI 0)), (5, .int (nI 16464)), (6, .int (nI n)), (7, .int (nI (n - 5))), (8, .int (nI (n - 12))), (12, .ref x3), (19, .int (nI tok))]) X.x X.b dX3_compress64k_298 hl (by decide) rfl (fun ls hl => ?_)
  refine lv_iload X.x X.b dX3_compress64k_300 (lv_at hl 8 rfl) ?_
  refine lv_iload X.x X.b dX3_compress64k_302 (lv_at hl 3 rfl) ?_
  refine z_isub X.x X.b dX3_compress64k_304 (by omega) ?_
  refine lv_bipush (v := (nI 6)) X.x X.b dX3_compress64k_305 (by decide) ?_
  refine lv_iload X.x X.b dX3_compress64k_307 (lv_at hl 0 rfl) ?_
  refine z_cSi (wr := [(x1, z_B G 16384 t), (x2, z_B G 16464 p1), (x3, z_H G 8192 h)]) X rfl z_E0ok trivial hS (m_encLen l G ml (by omega)) 1 q315 q261 q17 q262 nm_m_encLen ⟨rfl, rfl⟩ ⟨Nat.le_of_ble_eq_true rfl, Nat.le_of_ble_eq_true rfl⟩ [] [0, 1, 2] ⟨rfl, rfl, rfl, rfl, by decide⟩ rfl hl.1 rfl (Nat.le_of_ble_eq_true rfl) ⟨Nat.le_of_ble_eq_true rfl, Nat.le_of_ble_eq_true rfl⟩ dX3_compress64k_309 (fun r_4 u_5 H locs hp hS => ?_)
  have hS : z_S G [(x1, z_B G 16384 t), (x2, z_B G 16464 p1), (x3, z_H G 8192 h)] A s H locs := hS
  obtain rfl : r_4 = nI (z_el ml) := hp
  refine z_iadd X.x X.b dX3_compress64k_312 ?_
  refine z_cSi (wr := [(x1, z_B G 16384 t), (x2, z_B G 16464 p1), (x3, z_H G 8192 h)]) X rfl z_E0ok trivial hS (m_notEnough l G (16464 - (dO + 2)) (6 + z_el ml) (by omega) (by omega)) 2 q282 q283 q17 q284 nm_m_notEnough ⟨rfl, rfl⟩ ⟨Nat.le_of_ble_eq_true rfl, Nat.le_of_ble_eq_true rfl⟩ [] [0, 1, 2] ⟨rfl, rfl, rfl, rfl, by decide⟩ rfl hl.1 rfl (Nat.le_of_ble_eq_true rfl) ⟨Nat.le_of_ble_eq_true rfl, Nat.le_of_ble_eq_true rfl⟩ dX3_compress64k_313 (fun r_6 u_7 H locs hp hS => ?_)
  have hS : z_S G [(x1, z_B G 16384 t), (x2, z_B G 16464 p1), (x3, z_H G 8192 h)] A s H locs := hS
  refine lv_if_eq (tgt := 329) X.x X.b dX3_compress64k_316 (by decide) (fun c3 => ?_) (fun c3 => absurd (hp.mpr (by omega)) c3)
  refine lv_iload X.x X.b dX3_compress64k_329 (lv_at hl 2 rfl) ?_
  refine lv_iload X.x X.b dX3_compress64k_331 (lv_at hl 0 rfl) ?_
  refine z_iadd X.x X.b dX3_compress64k_333 ?_
  refine lv_istore (lv' := [(9, .int (nI ((sO + 4) + ml))), (20, .int (nI ml)), (14, .int (nI (ref + 4))), (10, .int (nI (dO + 2))), (0, .ref x1), (1, .int (nI 0)), (3, .ref x2), (4, .int (nI 0)), (5, .int (nI 16464)), (6, .int (nI n)), (7, .int (nI (n - 5))), (8, .int (nI (n - 12))), (12, .ref x3), (19, .int (nI tok))]) X.x X.b dX3_compress64k_334 hl (by decide) rfl (fun ls hl => ?_)
  refine lv_iload X.x X.b dX3_compress64k_336 (lv_at hl 1 rfl) ?_
  refine lv_bipush (v := (nI 15)) X.x X.b dX3_compress64k_338 (by decide) ?_
  refine z_icmp_lt (tgt := 374) X.x X.b dX3_compress64k_340 (by decide) (by omega) (by omega) (fun c4 => ?_) (fun c4 => ?_)
  · refine lv_aload_n X.x X.b dX3_compress64k_374 rfl (lv_at hl 6 rfl) ?_
    refine lv_iload X.x X.b dX3_compress64k_375 (lv_at hl 13 rfl) ?_
    refine lv_aload_n X.x X.b dX3_compress64k_377 rfl (lv_at hl 6 rfl) ?_
    refine lv_iload X.x X.b dX3_compress64k_378 (lv_at hl 13 rfl) ?_
    refine z_cSi (wr := [(x1, z_B G 16384 t), (x3, z_H G 8192 h)]) X rfl z_E0ok trivial hS (m_readByte l G x2 16464 p1 tok (by omega) (by decide)) 2 q316 q317 q9 q318 nm_m_readByte ⟨rfl, rfl⟩ ⟨Nat.le_of_ble_eq_true rfl, Nat.le_of_ble_eq_true rfl⟩ [1] [0, 2] ⟨rfl, rfl, rfl, rfl, by decide⟩ rfl hl.1 rfl (Nat.le_of_ble_eq_true rfl) ⟨Nat.le_of_ble_eq_true rfl, Nat.le_of_ble_eq_true rfl⟩ dX3_compress64k_380 (fun r_8 u_9 H locs hp hS => ?_)
    have hS : z_S G [(x1, z_B G 16384 t), (x3, z_H G 8192 h), (x2, z_B G 16464 p1)] A s H locs := hS
    obtain rfl : r_8 = (p1 tok).toInt32 := hp
    have hS := hS.sub (ws' := [(x1, z_B G 16384 t), (x2, z_B G 16464 p1), (x3, z_H G 8192 h)]) [0, 2, 1] rfl rfl
    refine lv_iload X.x X.b dX3_compress64k_383 (lv_at hl 1 rfl) ?_
    refine lv_ior X.x X.b dX3_compress64k_385 ?_
    refine z_cSv (wr := [(x1, z_B G 16384 t), (x3, z_H G 8192 h)]) X rfl z_E0ok trivial hS (m_writeByte l G x2 16464 p1 tok ((p1 tok).toInt32 ||| nI ml) (by omega) (by decide)) 3 q288 q289 q9 q290 nm_m_writeByte ⟨rfl, rfl⟩ ⟨Nat.le_of_ble_eq_true rfl, Nat.le_of_ble_eq_true rfl⟩ [1] [0, 2] ⟨rfl, rfl, rfl, rfl, by decide⟩ rfl hl.1 rfl (Nat.le_of_ble_eq_true rfl) ⟨Nat.le_of_ble_eq_true rfl, Nat.le_of_ble_eq_true rfl⟩ dX3_compress64k_386 (fun u9 H locs hp hS => ?_)
    have hS : z_S G [(x1, z_B G 16384 t), (x3, z_H G 8192 h), (x2, z_B G 16464 u9)] A s H locs := hS
    subst hp
    have hS := hS.sub (ws' := [(x1, z_B G 16384 t), (x2, z_B G 16464 (va_up p1 tok ((p1 tok).toInt32 ||| nI ml).toInt8)), (x3, z_H G 8192 h)]) [0, 2, 1] rfl rfl
    have he : z_el ml = 0 := if_neg (by omega)
    have hl : lv_has ls 22 [(9, .int (nI ((sO + 4) + ml))), (20, .int (nI ml)), (14, .int (nI (ref + 4))), (10, .int (nI (dO + 2 + z_el ml))), (0, .ref x1), (1, .int (nI 0)), (3, .ref x2), (4, .int (nI 0)), (5, .int (nI 16464)), (6, .int (nI n)), (7, .int (nI (n - 5))), (8, .int (nI (n - 12))), (12, .ref x3), (19, .int (nI tok))] := by have e : dO + 2 = dO + 2 + z_el ml := (by omega); rw [e] at hl; exact hl
    obtain ⟨p2, hp2⟩ : ∃ p2, p2 = (va_up p1 tok ((p1 tok).toInt32 ||| nI ml).toInt8) := ⟨_, rfl⟩
    rw [← hp2] at hS
    have j1 : ∀ j, j ≠ tok → j < dO + 2 → p2 j = p1 j := fun j hj hj2 => by rw [hp2]; exact z_upN p1 _ hj
    have j2 : z_ub (p2 tok) = min lit 15 * 16 + min ml 15 := by rw [hp2, z_upS p1 _ rfl, show min ml 15 = ml by omega]; exact z_tok2 (by omega) (by omega) (by rw [k1 tok (by omega)]; exact htk)
    have j3 : z_len p2 (dO + 2) ml (dO + 2 + z_el ml) := ⟨fun _ => by omega, fun q => absurd q (by omega)⟩
    have j4 : ∀ q, tok < q → q < i1 + lit → p2 q = p q := fun q q1 q2 => (j1 q (by omega) (by omega)).trans (k1 q (by omega))
    have j5 : ∀ q, q < tok → p2 q = p q := fun q q1 => (j1 q (by omega) (by omega)).trans (k1 q (by omega))
    exact K p2 (dO + 2 + z_el ml) (sO + 4 + ml) (⟨⟨tok, a, z_ck_c kk tok a hck j5, lit, ml, sO - ref, i1, j2, z_lit_c hlt j4, by rw [← m4, j1 dO (by omega) (by omega), j1 (dO + 1) (by omega) (by omega)]; exact k0, by omega, by omega, by rw [← m4]; exact j3, hmm, by omega, by omega, by omega⟩, by omega⟩) (by omega) (by omega) (fun j hj => Nat.lt_of_le_of_lt (n4 j hj) (by omega)) H _ ls hS (lv_sub hl [4, 5, 6, 7, 8, 9, 10, 11, 0, 3, 12] rfl)
  · refine lv_aload_n X.x X.b dX3_compress64k_343 rfl (lv_at hl 6 rfl) ?_
    refine lv_iload X.x X.b dX3_compress64k_344 (lv_at hl 13 rfl) ?_
    refine lv_aload_n X.x X.b dX3_compress64k_346 rfl (lv_at hl 6 rfl) ?_
    refine lv_iload X.x X.b dX3_compress64k_347 (lv_at hl 13 rfl) ?_
    refine z_cSi (wr := [(x1, z_B G 16384 t), (x3, z_H G 8192 h)]) X rfl z_E0ok trivial hS (m_readByte l G x2 16464 p1 tok (by omega) (by decide)) 2 q316 q317 q9 q318 nm_m_readByte ⟨rfl, rfl⟩ ⟨Nat.le_of_ble_eq_true rfl, Nat.le_of_ble_eq_true rfl⟩ [1] [0, 2] ⟨rfl, rfl, rfl, rfl, by decide⟩ rfl hl.1 rfl (Nat.le_of_ble_eq_true rfl) ⟨Nat.le_of_ble_eq_true rfl, Nat.le_of_ble_eq_true rfl⟩ dX3_compress64k_349 (fun r_11 u_12 H locs hp hS => ?_)
    have hS : z_S G [(x1, z_B G 16384 t), (x3, z_H G 8192 h), (x2, z_B G 16464 p1)] A s H locs := hS
    obtain rfl : r_11 = (p1 tok).toInt32 := hp
    have hS := hS.sub (ws' := [(x1, z_B G 16384 t), (x2, z_B G 16464 p1), (x3, z_H G 8192 h)]) [0, 2, 1] rfl rfl
    refine lv_bipush (v := (nI 15)) X.x X.b dX3_compress64k_352 (by decide) ?_
    refine lv_ior X.x X.b dX3_compress64k_354 ?_
    refine z_cSv (wr := [(x1, z_B G 16384 t), (x3, z_H G 8192 h)]) X rfl z_E0ok trivial hS (m_writeByte l G x2 16464 p1 tok ((p1 tok).toInt32 ||| nI 15) (by omega) (by decide)) 3 q288 q289 q9 q290 nm_m_writeByte ⟨rfl, rfl⟩ ⟨Nat.le_of_ble_eq_true rfl, Nat.le_of_ble_eq_true rfl⟩ [1] [0, 2] ⟨rfl, rfl, rfl, rfl, by decide⟩ rfl hl.1 rfl (Nat.le_of_ble_eq_true rfl) ⟨Nat.le_of_ble_eq_true rfl, Nat.le_of_ble_eq_true rfl⟩ dX3_compress64k_355 (fun u9 H locs hp hS => ?_)
    have hS : z_S G [(x1, z_B G 16384 t), (x3, z_H G 8192 h), (x2, z_B G 16464 u9)] A s H locs := hS
    subst hp
    have hS := hS.sub (ws' := [(x1, z_B G 16384 t), (x2, z_B G 16464 (va_up p1 tok ((p1 tok).toInt32 ||| nI 15).toInt8)), (x3, z_H G 8192 h)]) [0, 2, 1] rfl rfl
    refine lv_iload X.x X.b dX3_compress64k_358 (lv_at hl 1 rfl) ?_
    refine lv_bipush (v := (nI 15)) X.x X.b dX3_compress64k_360 (by decide) ?_
    refine z_isub X.x X.b dX3_compress64k_362 (by omega) ?_
    refine lv_aload_n X.x X.b dX3_compress64k_363 rfl (lv_at hl 6 rfl) ?_
    refine lv_iload X.x X.b dX3_compress64k_364 (lv_at hl 3 rfl) ?_
    have he : z_el ml = (ml - 15) / 255 + 1 := if_pos (by omega)
    refine z_cSi (wr := [(x1, z_B G 16384 t), (x3, z_H G 8192 h)]) X rfl z_E0ok trivial hS (m_writeLen l G x2 16464 (va_up p1 tok ((p1 tok).toInt32 ||| nI 15).toInt8) (ml - 15) (dO + 2) (by omega) (by decide) (by omega)) 3 q291 q292 q18 q293 nm_m_writeLen ⟨rfl, rfl⟩ ⟨Nat.le_of_ble_eq_true rfl, Nat.le_of_ble_eq_true rfl⟩ [1] [0, 2] ⟨rfl, rfl, rfl, rfl, by decide⟩ rfl hl.1 rfl (Nat.le_of_ble_eq_true rfl) ⟨Nat.le_of_ble_eq_true rfl, Nat.le_of_ble_eq_true rfl⟩ dX3_compress64k_366 (fun r_14 u H locs hp hS => ?_)
    have hS : z_S G [(x1, z_B G 16384 t), (x3, z_H G 8192 h), (x2, z_B G 16464 u)] A s H locs := hS
    obtain ⟨rfl, w1, w2⟩ := hp
    have hS := hS.sub (ws' := [(x1, z_B G 16384 t), (x2, z_B G 16464 u), (x3, z_H G 8192 h)]) [0, 2, 1] rfl rfl
    refine z_top (y := (nI (dO + 2 + z_el ml))) (congrArg nI (by omega)) ?_
    refine lv_istore (lv' := [(10, .int (nI (dO + 2 + z_el ml))), (9, .int (nI ((sO + 4) + ml))), (20, .int (nI ml)), (14, .int (nI (ref + 4))), (0, .ref x1), (1, .int (nI 0)), (3, .ref x2), (4, .int (nI 0)), (5, .int (nI 16464)), (6, .int (nI n)), (7, .int (nI (n - 5))), (8, .int (nI (n - 12))), (12, .ref x3), (19, .int (nI tok))]) X.x X.b dX3_compress64k_369 hl (by decide) rfl (fun ls hl => ?_)
    refine lv_goto (tgt := 389) X.x X.b dX3_compress64k_371 (by decide) ?_
    obtain ⟨p2, hp2⟩ : ∃ p2, p2 = u := ⟨_, rfl⟩
    rw [← hp2] at hS
    have j1 : ∀ j, j ≠ tok → j < dO + 2 → p2 j = p1 j := fun j hj hj2 => by rw [hp2]; exact (w2 j hj2).trans (z_upN p1 _ hj)
    have j2 : z_ub (p2 tok) = min lit 15 * 16 + min ml 15 := by rw [hp2, w2 tok (by omega), z_upS p1 _ rfl, show min ml 15 = 15 by omega]; exact z_tok2 (by omega) (by omega) (by rw [k1 tok (by omega)]; exact htk)
    have j3 : z_len p2 (dO + 2) ml (dO + 2 + z_el ml) := ⟨fun q => absurd q (by omega), fun _ => by rw [hp2, he]; exact w1⟩
    have j4 : ∀ q, tok < q → q < i1 + lit → p2 q = p q := fun q q1 q2 => (j1 q (by omega) (by omega)).trans (k1 q (by omega))
    have j5 : ∀ q, q < tok → p2 q = p q := fun q q1 => (j1 q (by omega) (by omega)).trans (k1 q (by omega))
    exact K p2 (dO + 2 + z_el ml) (sO + 4 + ml) (⟨⟨tok, a, z_ck_c kk tok a hck j5, lit, ml, sO - ref, i1, j2, z_lit_c hlt j4, by rw [← m4, j1 dO (by omega) (by omega), j1 (dO + 1) (by omega) (by omega)]; exact k0, by omega, by omega, by rw [← m4]; exact j3, hmm, by omega, by omega, by omega⟩, by omega⟩) (by omega) (by omega) (fun j hj => Nat.lt_of_le_of_lt (n4 j hj) (by omega)) H _ ls hS (lv_sub hl [4, 5, 6, 7, 8, 9, 10, 11, 1, 0, 12] rfl)
set_option maxHeartbeats 4000000 in
theorem lo_after {p9 : Program} {l : Launch} {e : Env} {s : State} {m : MethodId} {args : Array Value} {below : List Frame} {meth : Method} {c : Code} {A : Nat → Prop} {G : z_G} {Q : State → Prop} (x1 x2 x3 : Nat) (t : Nat → Int8) (n : Nat) (hn : n ≤ 16384) (hn13 : 13 ≤ n) (p : Nat → Int8) (kk d sN : Nat) (h : Nat → Nat) (hk : z_an p t n kk d sN) (h1 : sN + 5 ≤ n) (h2 : 4 ≤ sN) (h3 : ∀ j, j < 8192 → h j < sN) (X : z_X p9 s m args meth c yX3_compress64k cX3_compress64k 22 (some .int) G A) (K : ∀ (p : Nat → Int8) (kk : Nat) (d : Nat) (a : Nat), z_an p t n kk d a → a ≤ n → ∀ (H : Heap) (locs : List Loc) (ls : Array Slot), z_S G [(x1, z_B G 16384 t), (x2, z_B G 16464 p)] A s H locs → lv_has ls 22 [(0, .ref x1), (1, .int (nI 0)), (3, .ref x2), (4, .int (nI 0)), (5, .int (nI 16464)), (6, .int (nI n)), (10, .int (nI d)), (11, .int (nI a))] → W p9 l e (z_rm 2 1 8192 90) s m args below meth c H locs 1 8192 Q (F0 m 499 ls [])) (K1 : ∀ (p : Nat → Int8) (tok : Nat) (a : Nat) (lit : Nat) (i1 : Nat) (sO : Nat) (dO : Nat) (ref : Nat) (ex : Nat) (h : Nat → Nat), z_md p t n kk tok a lit i1 → z_mt t n ref sO ex h → sO = a + lit → dO = i1 + lit → sN ≤ sO → ∀ (H : Heap) (locs : List Loc) (ls : Array Slot), z_S G [(x1, z_B G 16384 t), (x2, z_B G 16464 p), (x3, z_H G 8192 h)] A s H locs → lv_has ls 22 [(0, .ref x1), (1, .int (nI 0)), (3, .ref x2), (4, .int (nI 0)), (5, .int (nI 16464)), (6, .int (nI n)), (7, .int (nI (n - 5))), (8, .int (nI (n - 12))), (9, .int (nI sO)), (10, .int (nI dO)), (12, .ref x3), (14, .int (nI ref)), (19, .int (nI tok))] → W p9 l e (z_rm 2 1 8192 90) s m args below meth c H locs 1 8192 Q (F0 m 267 ls [])) (K2 : ∀ (p : Nat → Int8) (d : Nat) (a : Nat) (h : Nat → Nat), z_an p t n kk d a → a + 12 ≤ n → (∀ j, j < 8192 → h j ≤ a) → sN ≤ a → ∀ (H : Heap) (locs : List Loc) (ls : Array Slot), z_S G [(x1, z_B G 16384 t), (x2, z_B G 16464 p), (x3, z_H G 8192 h)] A s H locs → lv_has ls 22 [(0, .ref x1), (1, .int (nI 0)), (3, .ref x2), (4, .int (nI 0)), (5, .int (nI 16464)), (6, .int (nI n)), (7, .int (nI (n - 5))), (8, .int (nI (n - 12))), (9, .int (nI (a + 1))), (10, .int (nI d)), (11, .int (nI a)), (12, .ref x3)] → W p9 l e (z_rm 2 1 8192 90) s m args below meth c H locs 1 8192 Q (F0 m 45 ls [])) :
    ∀ (_ : Unit), ∀ (H : Heap) (locs : List Loc) (ls : Array Slot), z_S G [(x1, z_B G 16384 t), (x2, z_B G 16464 p), (x3, z_H G 8192 h)] A s H locs → lv_has ls 22 [(0, .ref x1), (1, .int (nI 0)), (3, .ref x2), (4, .int (nI 0)), (5, .int (nI 16464)), (6, .int (nI n)), (7, .int (nI (n - 5))), (8, .int (nI (n - 12))), (9, .int (nI sN)), (10, .int (nI d)), (12, .ref x3)] → W p9 l e (z_rm 2 1 8192 90) s m args below meth c H locs 1 8192 Q (F0 m 389 ls []) := by
  intro _  H locs ls hS hl
  obtain ⟨hck, hda⟩ := hk
  refine lv_iload X.x X.b dX3_compress64k_389 (lv_at hl 8 rfl) ?_
  refine lv_iload X.x X.b dX3_compress64k_391 (lv_at hl 7 rfl) ?_
  refine z_icmp_le (tgt := 403) X.x X.b dX3_compress64k_393 (by decide) (by omega) (by omega) (fun c1 => ?_) (fun c1 => ?_)
  · refine lv_aload X.x X.b dX3_compress64k_403 (lv_at hl 10 rfl) ?_
    refine lv_aload_n X.x X.b dX3_compress64k_405 rfl (lv_at hl 0 rfl) ?_
    refine lv_iload X.x X.b dX3_compress64k_406 (lv_at hl 8 rfl) ?_
    refine lv_iconst (v := (nI 2)) X.x X.b dX3_compress64k_408 (by decide) ?_
    refine z_isub X.x X.b dX3_compress64k_409 (by omega) ?_
    refine z_cSi (wr := [(x2, z_B G 16464 p), (x3, z_H G 8192 h)]) X rfl z_E0ok trivial hS (m_readInt l G x1 16384 t (sN - 2) (by omega) (by decide)) 2 q234 q235 q9 q236 nm_m_readInt ⟨rfl, rfl⟩ ⟨Nat.le_of_ble_eq_true rfl, Nat.le_of_ble_eq_true rfl⟩ [0] [1, 2] ⟨rfl, rfl, rfl, rfl, by decide⟩ rfl hl.1 rfl (Nat.le_of_ble_eq_true rfl) ⟨Nat.le_of_ble_eq_true rfl, Nat.le_of_ble_eq_true rfl⟩ dX3_compress64k_410 (fun r_1 u_2 H locs hp hS => ?_)
    have hS : z_S G [(x2, z_B G 16464 p), (x3, z_H G 8192 h), (x1, z_B G 16384 t)] A s H locs := hS
    have hS := hS.sub (ws' := [(x1, z_B G 16384 t), (x2, z_B G 16464 p), (x3, z_H G 8192 h)]) [2, 0, 1] rfl rfl
    refine z_cSi (wr := [(x1, z_B G 16384 t), (x2, z_B G 16464 p), (x3, z_H G 8192 h)]) X rfl z_E0ok trivial hS (m_hash64k l G r_1) 1 q240 q241 q17 q242 nm_m_hash64k ⟨rfl, rfl⟩ ⟨Nat.le_of_ble_eq_true rfl, Nat.le_of_ble_eq_true rfl⟩ [] [0, 1, 2] ⟨rfl, rfl, rfl, rfl, by decide⟩ rfl hl.1 rfl (Nat.le_of_ble_eq_true rfl) ⟨Nat.le_of_ble_eq_true rfl, Nat.le_of_ble_eq_true rfl⟩ dX3_compress64k_413 (fun r_3 u_4 H locs hp hS => ?_)
    have hS : z_S G [(x1, z_B G 16384 t), (x2, z_B G 16464 p), (x3, z_H G 8192 h)] A s H locs := hS
    obtain ⟨hx, hhx, rfl⟩ := hp
    refine lv_iload X.x X.b dX3_compress64k_416 (lv_at hl 8 rfl) ?_
    refine lv_iconst (v := (nI 2)) X.x X.b dX3_compress64k_418 (by decide) ?_
    refine z_isub X.x X.b dX3_compress64k_419 (by omega) ?_
    refine lv_iload_n X.x X.b dX3_compress64k_420 rfl (lv_at hl 1 rfl) ?_
    refine z_isub X.x X.b dX3_compress64k_421 (by omega) ?_
    refine z_top (y := (nI (sN - 2))) (congrArg nI (Nat.sub_zero _)) ?_
    refine z_cSv (wr := [(x1, z_B G 16384 t), (x2, z_B G 16464 p)]) X rfl z_E0ok trivial hS (m_writeShort l G x3 8192 h hx (sN - 2) hhx (by decide) (by omega)) 3 q248 q249 q9 q250 nm_m_writeShort ⟨rfl, rfl⟩ ⟨Nat.le_of_ble_eq_true rfl, Nat.le_of_ble_eq_true rfl⟩ [2] [0, 1] ⟨rfl, rfl, rfl, rfl, by decide⟩ rfl hl.1 rfl (Nat.le_of_ble_eq_true rfl) ⟨Nat.le_of_ble_eq_true rfl, Nat.le_of_ble_eq_true rfl⟩ dX3_compress64k_422 (fun u9 H locs hp hS => ?_)
    have hS : z_S G [(x1, z_B G 16384 t), (x2, z_B G 16464 p), (x3, z_H G 8192 u9)] A s H locs := hS
    subst hp
    refine lv_aload_n X.x X.b dX3_compress64k_425 rfl (lv_at hl 0 rfl) ?_
    refine lv_iload X.x X.b dX3_compress64k_426 (lv_at hl 8 rfl) ?_
    refine z_cSi (wr := [(x2, z_B G 16464 p), (x3, z_H G 8192 (va_up h hx (sN - 2)))]) X rfl z_E0ok trivial hS (m_readInt l G x1 16384 t sN (by omega) (by decide)) 2 q234 q235 q9 q236 nm_m_readInt ⟨rfl, rfl⟩ ⟨Nat.le_of_ble_eq_true rfl, Nat.le_of_ble_eq_true rfl⟩ [0] [1, 2] ⟨rfl, rfl, rfl, rfl, by decide⟩ rfl hl.1 rfl (Nat.le_of_ble_eq_true rfl) ⟨Nat.le_of_ble_eq_true rfl, Nat.le_of_ble_eq_true rfl⟩ dX3_compress64k_428 (fun r_6 u_7 H locs hp hS => ?_)
    have hS : z_S G [(x2, z_B G 16464 p), (x3, z_H G 8192 (va_up h hx (sN - 2))), (x1, z_B G 16384 t)] A s H locs := hS
    have hS := hS.sub (ws' := [(x1, z_B G 16384 t), (x2, z_B G 16464 p), (x3, z_H G 8192 (va_up h hx (sN - 2)))]) [2, 0, 1] rfl rfl
    refine z_cSi (wr := [(x1, z_B G 16384 t), (x2, z_B G 16464 p), (x3, z_H G 8192 (va_up h hx (sN - 2)))]) X rfl z_E0ok trivial hS (m_hash64k l G r_6) 1 q240 q241 q17 q242 nm_m_hash64k ⟨rfl, rfl⟩ ⟨Nat.le_of_ble_eq_true rfl, Nat.le_of_ble_eq_true rfl⟩ [] [0, 1, 2] ⟨rfl, rfl, rfl, rfl, by decide⟩ rfl hl.1 rfl (Nat.le_of_ble_eq_true rfl) ⟨Nat.le_of_ble_eq_true rfl, Nat.le_of_ble_eq_true rfl⟩ dX3_compress64k_431 (fun r_8 u_9 H locs hp hS => ?_)
    have hS : z_S G [(x1, z_B G 16384 t), (x2, z_B G 16464 p), (x3, z_H G 8192 (va_up h hx (sN - 2)))] A s H locs := hS
    obtain ⟨hy, hhy, rfl⟩ := hp
    refine lv_istore (lv' := [(21, .int (nI hy)), (0, .ref x1), (1, .int (nI 0)), (3, .ref x2), (4, .int (nI 0)), (5, .int (nI 16464)), (6, .int (nI n)), (7, .int (nI (n - 5))), (8, .int (nI (n - 12))), (9, .int (nI sN)), (10, .int (nI d)), (12, .ref x3)]) X.x X.b dX3_compress64k_434 hl (by decide) rfl (fun ls hl => ?_)
    refine lv_iload_n X.x X.b dX3_compress64k_436 rfl (lv_at hl 2 rfl) ?_
    refine lv_aload X.x X.b dX3_compress64k_437 (lv_at hl 11 rfl) ?_
    refine lv_iload X.x X.b dX3_compress64k_439 (lv_at hl 0 rfl) ?_
    have hz : ∀ j, j < 8192 → va_up h hx (sN - 2) j ≤ sN - 1 := z_uplt (b := sN - 1) (fun j hj => Nat.le_sub_one_of_lt (h3 j hj)) (by omega) (by omega)
    have hr := hz hy hhy
    refine z_cSi (wr := [(x1, z_B G 16384 t), (x2, z_B G 16464 p)]) X rfl z_E0ok trivial hS (m_readShort l G x3 8192 (va_up h hx (sN - 2)) hy hhy (by decide) (by omega)) 2 q244 q245 q9 q246 nm_m_readShort ⟨rfl, rfl⟩ ⟨Nat.le_of_ble_eq_true rfl, Nat.le_of_ble_eq_true rfl⟩ [2] [0, 1] ⟨rfl, rfl, rfl, rfl, by decide⟩ rfl hl.1 rfl (Nat.le_of_ble_eq_true rfl) ⟨Nat.le_of_ble_eq_true rfl, Nat.le_of_ble_eq_true rfl⟩ dX3_compress64k_441 (fun r_10 u_11 H locs hp hS => ?_)
    have hS : z_S G [(x1, z_B G 16384 t), (x2, z_B G 16464 p), (x3, z_H G 8192 (va_up h hx (sN - 2)))] A s H locs := hS
    obtain rfl := hp
    refine z_iadd X.x X.b dX3_compress64k_444 ?_
    refine z_top (y := (nI (va_up h hx (sN - 2) hy))) (congrArg nI (Nat.zero_add _)) ?_
    refine lv_istore (lv' := [(14, .int (nI (va_up h hx (sN - 2) hy))), (21, .int (nI hy)), (0, .ref x1), (1, .int (nI 0)), (3, .ref x2), (4, .int (nI 0)), (5, .int (nI 16464)), (6, .int (nI n)), (7, .int (nI (n - 5))), (8, .int (nI (n - 12))), (9, .int (nI sN)), (10, .int (nI d)), (12, .ref x3)]) X.x X.b dX3_compress64k_445 hl (by decide) rfl (fun ls hl => ?_)
    refine lv_aload X.x X.b dX3_compress64k_447 (lv_at hl 12 rfl) ?_
    refine lv_iload X.x X.b dX3_compress64k_449 (lv_at hl 1 rfl) ?_
    refine lv_iload X.x X.b dX3_compress64k_451 (lv_at hl 10 rfl) ?_
    refine lv_iload_n X.x X.b dX3_compress64k_453 rfl (lv_at hl 3 rfl) ?_
    refine z_isub X.x X.b dX3_compress64k_454 (by omega) ?_
    refine z_top (y := (nI sN)) (congrArg nI (Nat.sub_zero _)) ?_
    refine z_cSv (wr := [(x1, z_B G 16384 t), (x2, z_B G 16464 p)]) X rfl z_E0ok trivial hS (m_writeShort l G x3 8192 (va_up h hx (sN - 2)) hy sN hhy (by decide) (by omega)) 3 q248 q249 q9 q250 nm_m_writeShort ⟨rfl, rfl⟩ ⟨Nat.le_of_ble_eq_true rfl, Nat.le_of_ble_eq_true rfl⟩ [2] [0, 1] ⟨rfl, rfl, rfl, rfl, by decide⟩ rfl hl.1 rfl (Nat.le_of_ble_eq_true rfl) ⟨Nat.le_of_ble_eq_true rfl, Nat.le_of_ble_eq_true rfl⟩ dX3_compress64k_455 (fun u9 H locs hp hS => ?_)
    have hS : z_S G [(x1, z_B G 16384 t), (x2, z_B G 16464 p), (x3, z_H G 8192 u9)] A s H locs := hS
    subst hp
    refine lv_aload_n X.x X.b dX3_compress64k_458 rfl (lv_at hl 2 rfl) ?_
    refine lv_iload X.x X.b dX3_compress64k_459 (lv_at hl 10 rfl) ?_
    refine lv_iload X.x X.b dX3_compress64k_461 (lv_at hl 0 rfl) ?_
    refine z_cSi (wr := [(x2, z_B G 16464 p), (x3, z_H G 8192 (va_up (va_up h hx (sN - 2)) hy sN))]) X rfl z_E0ok trivial hS (m_eq4 l G x1 16384 t sN (va_up h hx (sN - 2) hy) (by omega) (by omega) (by decide)) 3 q251 q252 q18 q253 nm_m_eq4 ⟨rfl, rfl⟩ ⟨Nat.le_of_ble_eq_true rfl, Nat.le_of_ble_eq_true rfl⟩ [0] [1, 2] ⟨rfl, rfl, rfl, rfl, by decide⟩ rfl hl.1 rfl (Nat.le_of_ble_eq_true rfl) ⟨Nat.le_of_ble_eq_true rfl, Nat.le_of_ble_eq_true rfl⟩ dX3_compress64k_463 (fun r_13 u_14 H locs hp hS => ?_)
    have hS : z_S G [(x2, z_B G 16464 p), (x3, z_H G 8192 (va_up (va_up h hx (sN - 2)) hy sN)), (x1, z_B G 16384 t)] A s H locs := hS
    have hS := hS.sub (ws' := [(x1, z_B G 16384 t), (x2, z_B G 16464 p), (x3, z_H G 8192 (va_up (va_up h hx (sN - 2)) hy sN))]) [2, 0, 1] rfl rfl
    refine lv_if_ne (tgt := 472) X.x X.b dX3_compress64k_466 (by decide) (fun c2 => ?_) (fun c2 => ?_)
    · refine lv_iload X.x X.b dX3_compress64k_472 (lv_at hl 11 rfl) ?_
      refine z_iinc (d := 1) (lv' := [(10, .int (nI (d + 1))), (14, .int (nI (va_up h hx (sN - 2) hy))), (21, .int (nI hy)), (0, .ref x1), (1, .int (nI 0)), (3, .ref x2), (4, .int (nI 0)), (5, .int (nI 16464)), (6, .int (nI n)), (7, .int (nI (n - 5))), (8, .int (nI (n - 12))), (9, .int (nI sN)), (12, .ref x3)]) X.x X.b dX3_compress64k_474 hl (k := 11) rfl (by decide) (by decide) rfl (fun ls hl => ?_)
      refine lv_istore (lv' := [(19, .int (nI d)), (10, .int (nI (d + 1))), (14, .int (nI (va_up h hx (sN - 2) hy))), (21, .int (nI hy)), (0, .ref x1), (1, .int (nI 0)), (3, .ref x2), (4, .int (nI 0)), (5, .int (nI 16464)), (6, .int (nI n)), (7, .int (nI (n - 5))), (8, .int (nI (n - 12))), (9, .int (nI sN)), (12, .ref x3)]) X.x X.b dX3_compress64k_477 hl (by decide) rfl (fun ls hl => ?_)
      refine lv_aload_n X.x X.b dX3_compress64k_479 rfl (lv_at hl 6 rfl) ?_
      refine lv_iload X.x X.b dX3_compress64k_480 (lv_at hl 0 rfl) ?_
      refine lv_iconst (v := (nI 0)) X.x X.b dX3_compress64k_482 (by decide) ?_
      refine z_cSv (wr := [(x1, z_B G 16384 t), (x3, z_H G 8192 (va_up (va_up h hx (sN - 2)) hy sN))]) X rfl z_E0ok trivial hS (m_writeByte l G x2 16464 p d (nI 0) (by omega) (by decide)) 3 q288 q289 q9 q290 nm_m_writeByte ⟨rfl, rfl⟩ ⟨Nat.le_of_ble_eq_true rfl, Nat.le_of_ble_eq_true rfl⟩ [1] [0, 2] ⟨rfl, rfl, rfl, rfl, by decide⟩ rfl hl.1 rfl (Nat.le_of_ble_eq_true rfl) ⟨Nat.le_of_ble_eq_true rfl, Nat.le_of_ble_eq_true rfl⟩ dX3_compress64k_483 (fun u9 H locs hp hS => ?_)
      have hS : z_S G [(x1, z_B G 16384 t), (x3, z_H G 8192 (va_up (va_up h hx (sN - 2)) hy sN)), (x2, z_B G 16464 u9)] A s H locs := hS
      subst hp
      have hS := hS.sub (ws' := [(x1, z_B G 16384 t), (x2, z_B G 16464 (va_up p d (nI 0).toInt8)), (x3, z_H G 8192 (va_up (va_up h hx (sN - 2)) hy sN))]) [0, 2, 1] rfl rfl
      refine lv_goto (tgt := 267) X.x X.b dX3_compress64k_486 (by decide) ?_
      have hm := Classical.byContradiction fun q => c2 (hp.mpr q)
      have hu : ∀ q, q < d → (va_up p d (nI 0).toInt8) q = p q := fun q hq => z_upN p _ (by omega)
      exact K1 (va_up p d (nI 0).toInt8) d sN 0 (d + 1) sN (d + 1) (va_up h hx (sN - 2) hy) 0 (va_up (va_up h hx (sN - 2)) hy sN) (⟨z_ck_c kk d sN hck hu, hda, by rw [z_upS p _ rfl]; decide, ⟨fun _ => rfl, fun q => absurd q (by decide)⟩, fun j hj => absurd hj (Nat.not_lt_zero _)⟩) (⟨by omega, fun j hj => (hm j (by omega)).symm, by omega, z_uplt hz (by omega) (by omega)⟩) (rfl) (rfl) (Nat.le_refl _) H _ ls hS (lv_sub hl [4, 5, 6, 7, 8, 9, 10, 11, 12, 1, 13, 2, 0] rfl)
    · refine lv_goto (tgt := 489) X.x X.b dX3_compress64k_469 (by decide) ?_
      refine lv_iload X.x X.b dX3_compress64k_489 (lv_at hl 10 rfl) ?_
      refine z_iinc (d := 1) (lv' := [(9, .int (nI (sN + 1))), (14, .int (nI (va_up h hx (sN - 2) hy))), (21, .int (nI hy)), (0, .ref x1), (1, .int (nI 0)), (3, .ref x2), (4, .int (nI 0)), (5, .int (nI 16464)), (6, .int (nI n)), (7, .int (nI (n - 5))), (8, .int (nI (n - 12))), (10, .int (nI d)), (12, .ref x3)]) X.x X.b dX3_compress64k_491 hl (k := 10) rfl (by decide) (by decide) rfl (fun ls hl => ?_)
      refine lv_istore (lv' := [(11, .int (nI sN)), (9, .int (nI (sN + 1))), (14, .int (nI (va_up h hx (sN - 2) hy))), (21, .int (nI hy)), (0, .ref x1), (1, .int (nI 0)), (3, .ref x2), (4, .int (nI 0)), (5, .int (nI 16464)), (6, .int (nI n)), (7, .int (nI (n - 5))), (8, .int (nI (n - 12))), (10, .int (nI d)), (12, .ref x3)]) X.x X.b dX3_compress64k_494 hl (by decide) rfl (fun ls hl => ?_)
      refine lv_goto (tgt := 45) X.x X.b dX3_compress64k_496 (by decide) ?_
      exact K2 p d sN (va_up (va_up h hx (sN - 2)) hy sN) (⟨hck, hda⟩) (by omega) (z_uplt hz (by omega) (by omega)) (Nat.le_refl _) H _ ls hS (lv_sub hl [4, 5, 6, 7, 8, 9, 10, 11, 1, 12, 0, 13] rfl)
  · refine lv_iload X.x X.b dX3_compress64k_396 (lv_at hl 8 rfl) ?_
    refine lv_istore (lv' := [(11, .int (nI sN)), (0, .ref x1), (1, .int (nI 0)), (3, .ref x2), (4, .int (nI 0)), (5, .int (nI 16464)), (6, .int (nI n)), (7, .int (nI (n - 5))), (8, .int (nI (n - 12))), (9, .int (nI sN)), (10, .int (nI d)), (12, .ref x3)]) X.x X.b dX3_compress64k_398 hl (by decide) rfl (fun ls hl => ?_)
    refine lv_goto (tgt := 499) X.x X.b dX3_compress64k_400 (by decide) ?_
    exact K p kk d sN (⟨hck, hda⟩) (by omega) H _ ls (hS.sub [0, 1] rfl rfl) (lv_sub hl [1, 2, 3, 4, 5, 6, 10, 0] rfl)
set_option maxHeartbeats 4000000 in
theorem lo_chain {p9 : Program} {l : Launch} {e : Env} {s : State} {m : MethodId} {args : Array Value} {below : List Frame} {meth : Method} {c : Code} {A : Nat → Prop} {G : z_G} {Q : State → Prop} (x1 x2 x3 : Nat) (t : Nat → Int8) (n : Nat) (hn : n ≤ 16384) (hn13 : 13 ≤ n) (s0 : Nat) (X : z_X p9 s m args meth c yX3_compress64k cX3_compress64k 22 (some .int) G A) (K : ∀ (p : Nat → Int8) (kk : Nat) (d : Nat) (a : Nat), z_an p t n kk d a → a ≤ n → ∀ (H : Heap) (locs : List Loc) (ls : Array Slot), z_S G [(x1, z_B G 16384 t), (x2, z_B G 16464 p)] A s H locs → lv_has ls 22 [(0, .ref x1), (1, .int (nI 0)), (3, .ref x2), (4, .int (nI 0)), (5, .int (nI 16464)), (6, .int (nI n)), (10, .int (nI d)), (11, .int (nI a))] → W p9 l e (z_rm 2 1 8192 90) s m args below meth c H locs 1 8192 Q (F0 m 499 ls [])) (K1 : ∀ (p : Nat → Int8) (kk : Nat) (d : Nat) (a : Nat) (h : Nat → Nat), z_an p t n kk d a → a + 12 ≤ n → (∀ j, j < 8192 → h j ≤ a) → s0 < a → ∀ (H : Heap) (locs : List Loc) (ls : Array Slot), z_S G [(x1, z_B G 16384 t), (x2, z_B G 16464 p), (x3, z_H G 8192 h)] A s H locs → lv_has ls 22 [(0, .ref x1), (1, .int (nI 0)), (3, .ref x2), (4, .int (nI 0)), (5, .int (nI 16464)), (6, .int (nI n)), (7, .int (nI (n - 5))), (8, .int (nI (n - 12))), (9, .int (nI (a + 1))), (10, .int (nI d)), (11, .int (nI a)), (12, .ref x3)] → W p9 l e (z_rm 2 1 8192 90) s m args below meth c H locs 1 8192 Q (F0 m 45 ls [])) :
    ∀ (k : Nat) (p : Nat → Int8) (kk : Nat) (tok : Nat) (a : Nat) (lit : Nat) (i1 : Nat) (sO : Nat) (dO : Nat) (ref : Nat) (ex : Nat) (h : Nat → Nat), n - sO < k → z_md p t n kk tok a lit i1 → z_mt t n ref sO ex h → sO = a + lit → dO = i1 + lit → s0 ≤ sO → ∀ (H : Heap) (locs : List Loc) (ls : Array Slot), z_S G [(x1, z_B G 16384 t), (x2, z_B G 16464 p), (x3, z_H G 8192 h)] A s H locs → lv_has ls 22 [(0, .ref x1), (1, .int (nI 0)), (3, .ref x2), (4, .int (nI 0)), (5, .int (nI 16464)), (6, .int (nI n)), (7, .int (nI (n - 5))), (8, .int (nI (n - 12))), (9, .int (nI sO)), (10, .int (nI dO)), (12, .ref x3), (14, .int (nI ref)), (19, .int (nI tok))] → W p9 l e (z_rm 2 1 8192 90) s m args below meth c H locs 1 8192 Q (F0 m 267 ls []) := by
  intro k
  induction k with
  | zero =>
    intro p kk tok a lit i1 sO dO ref ex h hk
    exact absurd hk (Nat.not_lt_zero _)
  | succ k ih =>
    intro p kk tok a lit i1 sO dO ref ex h hk m1 m2 m3 m4 m5 H locs ls hS hl
    refine lo_match x1 x2 x3 t n hn hn13 p kk tok a lit i1 sO dO ref ex h m1 m2 m3 m4 X (fun p d sN hk h1 h2 h3 H locs ls hS hl => ?_) () H locs ls hS hl
    refine lo_after x1 x2 x3 t n hn hn13 p (kk + 1) d sN h hk h1 (by omega) h3 X K (fun p tok a lit i1 sO2 dO ref ex h m1 m2 m3 m4 m5 H locs ls hS hl => ?_) (fun p d a h hk h1 h4 h5 H locs ls hS hl => ?_) () H locs ls hS hl
    · exact ih p (kk + 1) tok a lit i1 sO2 dO ref ex h (by have := m2.2.2.1; omega) m1 m2 m3 m4 (by omega) H locs ls hS hl
    · exact K1 p (kk + 1) d a h hk h1 h4 (by omega) H locs ls hS hl
set_option maxHeartbeats 4000000 in
theorem lo_main {p9 : Program} {l : Launch} {e : Env} {s : State} {m : MethodId} {args : Array Value} {below : List Frame} {meth : Method} {c : Code} {A : Nat → Prop} {G : z_G} {Q : State → Prop} (x1 x2 x3 : Nat) (t : Nat → Int8) (n : Nat) (hn : n ≤ 16384) (hn13 : 13 ≤ n) (X : z_X p9 s m args meth c yX3_compress64k cX3_compress64k 22 (some .int) G A) (hE : z_E1 A s) (K : ∀ (p : Nat → Int8) (kk : Nat) (d : Nat) (a : Nat), z_an p t n kk d a → a ≤ n → ∀ (H : Heap) (locs : List Loc) (ls : Array Slot), z_S G [(x1, z_B G 16384 t), (x2, z_B G 16464 p)] A s H locs → lv_has ls 22 [(0, .ref x1), (1, .int (nI 0)), (3, .ref x2), (4, .int (nI 0)), (5, .int (nI 16464)), (6, .int (nI n)), (10, .int (nI d)), (11, .int (nI a))] → W p9 l e (z_rm 2 1 8192 90) s m args below meth c H locs 1 8192 Q (F0 m 499 ls [])) :
    ∀ (k : Nat) (p : Nat → Int8) (kk : Nat) (d : Nat) (a : Nat) (h : Nat → Nat), n - a < k → z_an p t n kk d a → a + 12 ≤ n → (∀ j, j < 8192 → h j ≤ a) → ∀ (H : Heap) (locs : List Loc) (ls : Array Slot), z_S G [(x1, z_B G 16384 t), (x2, z_B G 16464 p), (x3, z_H G 8192 h)] A s H locs → lv_has ls 22 [(0, .ref x1), (1, .int (nI 0)), (3, .ref x2), (4, .int (nI 0)), (5, .int (nI 16464)), (6, .int (nI n)), (7, .int (nI (n - 5))), (8, .int (nI (n - 12))), (9, .int (nI (a + 1))), (10, .int (nI d)), (11, .int (nI a)), (12, .ref x3)] → W p9 l e (z_rm 2 1 8192 90) s m args below meth c H locs 1 8192 Q (F0 m 45 ls []) := by
  intro k
  induction k with
  | zero =>
    intro p kk d a h hk
    exact absurd hk (Nat.not_lt_zero _)
  | succ k ih =>
    intro p kk d a h hk hk h1 h2 H locs ls hS hl
    have hst : nI 1 <<< (nI 6 &&& 31) = nI 64 := by decide
    refine lv_iload X.x X.b dX3_compress64k_45 (lv_at hl 8 rfl) ?_
    refine lv_istore (lv' := [(13, .int (nI (a + 1))), (0, .ref x1), (1, .int (nI 0)), (3, .ref x2), (4, .int (nI 0)), (5, .int (nI 16464)), (6, .int (nI n)), (7, .int (nI (n - 5))), (8, .int (nI (n - 12))), (9, .int (nI (a + 1))), (10, .int (nI d)), (11, .int (nI a)), (12, .ref x3)]) X.x X.b dX3_compress64k_47 hl (by decide) rfl (fun ls hl => ?_)
    refine lv_iconst (v := (nI 1)) X.x X.b dX3_compress64k_49 (by decide) ?_
    refine lv_istore (lv' := [(15, .int (nI 1)), (13, .int (nI (a + 1))), (0, .ref x1), (1, .int (nI 0)), (3, .ref x2), (4, .int (nI 0)), (5, .int (nI 16464)), (6, .int (nI n)), (7, .int (nI (n - 5))), (8, .int (nI (n - 12))), (9, .int (nI (a + 1))), (10, .int (nI d)), (11, .int (nI a)), (12, .ref x3)]) X.x X.b dX3_compress64k_50 hl (by decide) rfl (fun ls hl => ?_)
    refine lv_iconst (v := (nI 1)) X.x X.b dX3_compress64k_52 (by decide) ?_
    refine z_skip X rfl hE hS dX3_compress64k_53 ?_
    refine lv_ishl X.x X.b dX3_compress64k_56 ?_
    refine z_top (y := (nI (1 * 64))) (pk_shlN (nI 6 &&& 31) 6 (by decide) (by omega)) ?_
    refine lv_istore (lv' := [(16, .int (nI (1 * 64))), (15, .int (nI 1)), (13, .int (nI (a + 1))), (0, .ref x1), (1, .int (nI 0)), (3, .ref x2), (4, .int (nI 0)), (5, .int (nI 16464)), (6, .int (nI n)), (7, .int (nI (n - 5))), (8, .int (nI (n - 12))), (9, .int (nI (a + 1))), (10, .int (nI d)), (11, .int (nI a)), (12, .ref x3)]) X.x X.b dX3_compress64k_57 hl (by decide) rfl (fun ls hl => ?_)
    refine lo_search x1 x2 x3 t n hn hn13 p kk d a hk X hE K (fun sO ref h g1 g2 g3 g4 g5 H locs ls hS hl => ?_) (n + 2) (a + 1) 1 64 h (by omega) (Nat.le_refl _) (by omega) (by decide) (by decide) (by decide) (by omega) (fun j hj => h2 j hj) H _ ls hS (lv_sub hl [3, 4, 5, 6, 7, 8, 9, 10, 12, 13, 14, 2, 1, 0] rfl)
    refine lo_lits x1 x2 x3 t n hn hn13 p kk d a sO ref h hk g1 g2 g3 g4 g5 X (fun p lit i1 so dO rf ex m1 m2 m3 m4 H locs ls hS hl => ?_) () H locs ls hS hl
    refine lo_chain x1 x2 x3 t n hn hn13 a X K (fun p kk d a2 h hk h1 h2 h3 H locs ls hS hl => ?_) (n + 1) p kk d a lit i1 so dO rf ex h (by omega) m1 m2 m3 m4 (by omega) H locs ls hS hl
    exact ih p kk d a2 h (by omega) hk h1 h2 H locs ls hS hl
set_option maxHeartbeats 4000000 in
theorem lo_end {p9 : Program} {l : Launch} {e : Env} {s : State} {m : MethodId} {args : Array Value} {below : List Frame} {meth : Method} {c : Code} {A : Nat → Prop} {G : z_G} {Q : State → Prop} (x1 x2 : Nat) (t : Nat → Int8) (n : Nat) (hn : n ≤ 16384) (X : z_X p9 s m args meth c yX3_compress64k cX3_compress64k 22 (some .int) G A) (K : ∀ (u : Nat → Int8) (L : Nat), L ≤ n + n / 255 + 16 → L ≤ 16464 → z_ok u t L n → ∀ (H : Heap) (locs : List Loc) (ls : Array Slot), z_S G [(x1, z_B G 16384 t), (x2, z_B G 16464 u)] A s H locs → W p9 l e (z_rm 2 1 8192 90) s m args below meth c H locs 1 8192 Q (F0 m 522 ls [.int (nI L)])) :
    ∀ (p : Nat → Int8) (kk d a : Nat), z_an p t n kk d a → a ≤ n → ∀ (H : Heap) (locs : List Loc) (ls : Array Slot), z_S G [(x1, z_B G 16384 t), (x2, z_B G 16464 p)] A s H locs → lv_has ls 22 [(0, .ref x1), (1, .int (nI 0)), (3, .ref x2), (4, .int (nI 0)), (5, .int (nI 16464)), (6, .int (nI n)), (10, .int (nI d)), (11, .int (nI a))] → W p9 l e (z_rm 2 1 8192 90) s m args below meth c H locs 1 8192 Q (F0 m 499 ls []) := by
  intro p kk d a hk ha H locs ls hS hl
  obtain ⟨hck, hda⟩ := hk
  have hel := z_el_le (n - a)
  have hel2 := z_el_le2 (n - a)
  refine lv_aload_n X.x X.b dX3_compress64k_499 rfl (lv_at hl 0 rfl) ?_
  refine lv_iload X.x X.b dX3_compress64k_500 (lv_at hl 7 rfl) ?_
  refine lv_iload X.x X.b dX3_compress64k_502 (lv_at hl 5 rfl) ?_
  refine lv_iload X.x X.b dX3_compress64k_504 (lv_at hl 7 rfl) ?_
  refine z_isub X.x X.b dX3_compress64k_506 (by omega) ?_
  refine lv_aload_n X.x X.b dX3_compress64k_507 rfl (lv_at hl 2 rfl) ?_
  refine lv_iload X.x X.b dX3_compress64k_508 (lv_at hl 6 rfl) ?_
  refine lv_iload X.x X.b dX3_compress64k_510 (lv_at hl 4 rfl) ?_
  refine z_cSi (wr := []) X rfl z_E0ok trivial hS (m_last l G x1 x2 16384 16464 t p a d (n - a) (by omega) (by omega) (by decide) (by decide)) 6 q319 q320 q18 q321 nm_m_last ⟨rfl, rfl⟩ ⟨Nat.le_of_ble_eq_true rfl, Nat.le_of_ble_eq_true rfl⟩ [0, 1] [] ⟨rfl, rfl, rfl, rfl, by decide⟩ rfl hl.1 rfl (Nat.le_of_ble_eq_true rfl) ⟨Nat.le_of_ble_eq_true rfl, Nat.le_of_ble_eq_true rfl⟩ dX3_compress64k_512 (fun r_1 u H locs hp hS => ?_)
  have hS : z_S G [(x1, z_B G 16384 t), (x2, z_B G 16464 u)] A s H locs := hS
  obtain ⟨rfl, g1, g2, g3⟩ := hp
  refine lv_istore (lv' := [(10, .int (nI (d + 1 + z_el (n - a) + (n - a)))), (0, .ref x1), (1, .int (nI 0)), (3, .ref x2), (4, .int (nI 0)), (5, .int (nI 16464)), (6, .int (nI n)), (11, .int (nI a))]) X.x X.b dX3_compress64k_515 hl (by decide) rfl (fun ls hl => ?_)
  refine lv_iload X.x X.b dX3_compress64k_517 (lv_at hl 0 rfl) ?_
  refine lv_iload X.x X.b dX3_compress64k_519 (lv_at hl 4 rfl) ?_
  refine z_isub X.x X.b dX3_compress64k_521 (by omega) ?_
  refine z_top (y := (nI (d + 1 + z_el (n - a) + (n - a)))) (congrArg nI (Nat.sub_zero _)) ?_
  exact K u (d + 1 + z_el (n - a) + (n - a)) (by omega) (by omega) (z_join kk d a (z_ck_c kk d a hck g1) 0 ⟨ha, _, g2, g3, rfl⟩) H _ ls hS
theorem nm_m_c64 : z_Nm yX3_compress64k 6 := by decide +kernel
set_option maxHeartbeats 4000000 in
theorem m_c64 (l : Launch) (G : z_G) (x1 x2 : Nat) (t p0 : Nat → Int8) (n : Nat) (hn : n ≤ 16384) : z_Mi l yX3_compress64k cX3_compress64k 22 .int (z_rm 2 1 8192 90) 1 8192 G z_E1 [.ref x1, .int (nI 0), .int (nI n), .ref x2, .int (nI 0), .int (nI 16464)] [(x1, z_B G 16384 t), (x2, z_B G 16464 p0)] (S := Nat → Int8) (fun r u => ∃ L, r = nI L ∧ L ≤ n + n / 255 + 16 ∧ L ≤ 16464 ∧ z_ok u t L n) (fun u => [(x1, z_B G 16384 t), (x2, z_B G 16464 u)]) := by
  refine Mi.mk (by decide) (Nat.le_of_ble_eq_true rfl) ?_
  intro p9 e s m below meth c A ls X hE hS hl
  have hl : lv_has ls 22 [(0, .ref x1), (1, .int (nI 0)), (2, .int (nI n)), (3, .ref x2), (4, .int (nI 0)), (5, .int (nI 16464))] := hl
  have KE := @lo_end p9 l e s m #[.ref x1, .int (nI 0), .int (nI n), .ref x2, .int (nI 0), .int (nI 16464)] below meth c A G (z_Zi below G [.ref x1, .int (nI 0), .int (nI n), .ref x2, .int (nI 0), .int (nI 16464)] s 1 8192 (S := Nat → Int8) (fun r u => ∃ L, r = nI L ∧ L ≤ n + n / 255 + 16 ∧ L ≤ 16464 ∧ z_ok u t L n) (fun u => [(x1, z_B G 16384 t), (x2, z_B G 16464 u)]) A) x1 x2 t n hn X (fun u L h1 h2 h3 H locs ls hS => z_iret X hS u rfl ⟨L, rfl, h1, h2, h3⟩ [0, 1] rfl rfl dX3_compress64k_522)
  refine lv_iload_n X.x X.b dX3_compress64k_0 rfl (lv_at hl 1 rfl) ?_
  refine lv_iload_n X.x X.b dX3_compress64k_1 rfl (lv_at hl 2 rfl) ?_
  refine z_iadd X.x X.b dX3_compress64k_2 ?_
  refine z_top (y := (nI n)) (congrArg nI (Nat.zero_add _)) ?_
  refine lv_istore (lv' := [(6, .int (nI n)), (0, .ref x1), (1, .int (nI 0)), (2, .int (nI n)), (3, .ref x2), (4, .int (nI 0)), (5, .int (nI 16464))]) X.x X.b dX3_compress64k_3 hl (by decide) rfl (fun ls hl => ?_)
  refine lv_iload X.x X.b dX3_compress64k_5 (lv_at hl 0 rfl) ?_
  refine lv_iconst (v := (nI 5)) X.x X.b dX3_compress64k_7 (by decide) ?_
  refine lv_isub X.x X.b dX3_compress64k_8 ?_
  refine lv_istore (lv' := [(7, .int (nI n - nI 5)), (6, .int (nI n)), (0, .ref x1), (1, .int (nI 0)), (2, .int (nI n)), (3, .ref x2), (4, .int (nI 0)), (5, .int (nI 16464))]) X.x X.b dX3_compress64k_9 hl (by decide) rfl (fun ls hl => ?_)
  refine lv_iload X.x X.b dX3_compress64k_11 (lv_at hl 1 rfl) ?_
  refine lv_bipush (v := (nI 12)) X.x X.b dX3_compress64k_13 (by decide) ?_
  refine lv_isub X.x X.b dX3_compress64k_15 ?_
  refine lv_istore (lv' := [(8, .int (nI n - nI 12)), (7, .int (nI n - nI 5)), (6, .int (nI n)), (0, .ref x1), (1, .int (nI 0)), (2, .int (nI n)), (3, .ref x2), (4, .int (nI 0)), (5, .int (nI 16464))]) X.x X.b dX3_compress64k_16 hl (by decide) rfl (fun ls hl => ?_)
  refine lv_iload_n X.x X.b dX3_compress64k_18 rfl (lv_at hl 4 rfl) ?_
  refine lv_istore (lv' := [(9, .int (nI 0)), (8, .int (nI n - nI 12)), (7, .int (nI n - nI 5)), (6, .int (nI n)), (0, .ref x1), (1, .int (nI 0)), (2, .int (nI n)), (3, .ref x2), (4, .int (nI 0)), (5, .int (nI 16464))]) X.x X.b dX3_compress64k_19 hl (by decide) rfl (fun ls hl => ?_)
  refine lv_iload X.x X.b dX3_compress64k_21 (lv_at hl 8 rfl) ?_
  refine lv_istore (lv' := [(10, .int (nI 0)), (9, .int (nI 0)), (8, .int (nI n - nI 12)), (7, .int (nI n - nI 5)), (6, .int (nI n)), (0, .ref x1), (1, .int (nI 0)), (2, .int (nI n)), (3, .ref x2), (4, .int (nI 0)), (5, .int (nI 16464))]) X.x X.b dX3_compress64k_23 hl (by decide) rfl (fun ls hl => ?_)
  refine lv_iload X.x X.b dX3_compress64k_25 (lv_at hl 1 rfl) ?_
  refine lv_istore (lv' := [(11, .int (nI 0)), (10, .int (nI 0)), (9, .int (nI 0)), (8, .int (nI n - nI 12)), (7, .int (nI n - nI 5)), (6, .int (nI n)), (0, .ref x1), (1, .int (nI 0)), (2, .int (nI n)), (3, .ref x2), (4, .int (nI 0)), (5, .int (nI 16464))]) X.x X.b dX3_compress64k_27 hl (by decide) rfl (fun ls hl => ?_)
  refine lv_iload_n X.x X.b dX3_compress64k_29 rfl (lv_at hl 8 rfl) ?_
  refine lv_bipush (v := (nI 13)) X.x X.b dX3_compress64k_30 (by decide) ?_
  refine z_icmp_lt (tgt := 499) X.x X.b dX3_compress64k_32 (by decide) (by omega) (by omega) (fun c1 => ?_) (fun c1 => ?_)
  · refine W.widen (k := 1) (n := 8192) (Nat.le_of_ble_eq_true rfl) (Nat.le_of_ble_eq_true rfl) ?_
    exact KE p0 0 0 0 ⟨⟨rfl, rfl⟩, Nat.le_refl _⟩ (Nat.zero_le _) _ _ ls hS (lv_sub hl [6, 7, 9, 10, 11, 5, 1, 0] rfl)
  · have hl : lv_has ls 22 [(11, .int (nI 0)), (10, .int (nI 0)), (9, .int (nI 0)), (8, .int (nI n - nI 12)), (7, .int (nI (n - 5))), (6, .int (nI n)), (0, .ref x1), (1, .int (nI 0)), (2, .int (nI n)), (3, .ref x2), (4, .int (nI 0)), (5, .int (nI 16464))] := by rw [show nI n - nI 5 = nI (n - 5) from pk_sub (by omega)] at hl; exact hl
    have hl : lv_has ls 22 [(11, .int (nI 0)), (10, .int (nI 0)), (9, .int (nI 0)), (8, .int (nI (n - 12))), (7, .int (nI (n - 5))), (6, .int (nI n)), (0, .ref x1), (1, .int (nI 0)), (2, .int (nI n)), (3, .ref x2), (4, .int (nI 0)), (5, .int (nI 16464))] := by rw [show nI n - nI 12 = nI (n - 12) from pk_sub (by omega)] at hl; exact hl
    refine lv_sipush (v := (nI 8192)) X.x X.b dX3_compress64k_35 (by decide) ?_
    refine z_newh X q281 hS (by omega) (by decide) (by decide) dX3_compress64k_38 (fun q_1 H hS => ?_)
    have hS : z_S G [(x1, z_B G 16384 t), (x2, z_B G 16464 p0), (q_1, z_H G 8192 (fun _ => 0))] A s H _ := hS
    refine lv_astore (lv' := [(12, .ref q_1), (11, .int (nI 0)), (10, .int (nI 0)), (9, .int (nI 0)), (8, .int (nI (n - 12))), (7, .int (nI (n - 5))), (6, .int (nI n)), (0, .ref x1), (1, .int (nI 0)), (2, .int (nI n)), (3, .ref x2), (4, .int (nI 0)), (5, .int (nI 16464))]) X.x X.b dX3_compress64k_40 hl (by decide) rfl (fun ls hl => ?_)
    refine z_iinc (d := 1) (lv' := [(9, .int (nI (0 + 1))), (12, .ref q_1), (11, .int (nI 0)), (10, .int (nI 0)), (8, .int (nI (n - 12))), (7, .int (nI (n - 5))), (6, .int (nI n)), (0, .ref x1), (1, .int (nI 0)), (2, .int (nI n)), (3, .ref x2), (4, .int (nI 0)), (5, .int (nI 16464))]) X.x X.b dX3_compress64k_42 hl (k := 3) rfl (by decide) (by decide) rfl (fun ls hl => ?_)
    refine lo_main x1 x2 q_1 t n hn c1 X hE (fun p kk d a hk ha H locs ls hS hl => KE p kk d a hk ha H locs ls (hS.sub [0, 1] rfl rfl) hl) (n + 1) p0 0 0 0 (fun _ => 0) (by omega) ⟨⟨rfl, rfl⟩, Nat.le_refl _⟩ (by omega) (fun _ _ => Nat.le_refl _) _ _ ls hS (lv_sub hl [7, 8, 10, 11, 12, 6, 5, 4, 0, 3, 2, 1] rfl)
theorem nm_m_comp : z_Nm yX3_compress 6 := by decide +kernel
set_option maxHeartbeats 4000000 in
theorem m_comp (l : Launch) (G : z_G) (x0 x1 x2 : Nat) (t p0 : Nat → Int8) (n : Nat) (hn : n ≤ 16384) : z_Mi l yX3_compress cX3_compress 25 .int (z_rm 3 1 8192 140) 1 8192 G z_E1 [.ref x0, .ref x1, .int (nI 0), .int (nI n), .ref x2, .int (nI 0), .int (nI 16464)] [(x1, z_B G 16384 t), (x2, z_B G 16464 p0)] (S := Nat → Int8) (fun r u => ∃ L, r = nI L ∧ L ≤ n + n / 255 + 16 ∧ L ≤ 16464 ∧ z_ok u t L n) (fun u => [(x1, z_B G 16384 t), (x2, z_B G 16464 u)]) := by
  refine Mi.mk (by decide) (Nat.le_of_ble_eq_true rfl) ?_
  intro p9 e s m below meth c A ls X hE hS hl
  have hl : lv_has ls 25 [(0, .ref x0), (1, .ref x1), (2, .int (nI 0)), (3, .int (nI n)), (4, .ref x2), (5, .int (nI 0)), (6, .int (nI 16464))] := hl
  refine lv_aload_n X.x X.b dX3_compress_0 rfl (lv_at hl 1 rfl) ?_
  refine lv_iload_n X.x X.b dX3_compress_1 rfl (lv_at hl 2 rfl) ?_
  refine lv_iload_n X.x X.b dX3_compress_2 rfl (lv_at hl 3 rfl) ?_
  refine z_cSv (wr := [(x2, z_B G 16464 p0)]) X rfl z_E0ok trivial hS (m_checkRange l G x1 16384 t 0 n (by omega) (by decide)) 3 q134 q135 q9 q136 nm_m_checkRange ⟨rfl, rfl⟩ ⟨Nat.le_of_ble_eq_true rfl, Nat.le_of_ble_eq_true rfl⟩ [0] [1] ⟨rfl, rfl, rfl, rfl, by decide⟩ rfl hl.1 rfl (Nat.le_of_ble_eq_true rfl) ⟨Nat.le_of_ble_eq_true rfl, Nat.le_of_ble_eq_true rfl⟩ dX3_compress_3 (fun u_2 H locs hp hS => ?_)
  have hS : z_S G [(x2, z_B G 16464 p0), (x1, z_B G 16384 t)] A s H locs := hS
  have hS := hS.sub (ws' := [(x1, z_B G 16384 t), (x2, z_B G 16464 p0)]) [1, 0] rfl rfl
  refine lv_aload X.x X.b dX3_compress_6 (lv_at hl 4 rfl) ?_
  refine lv_iload X.x X.b dX3_compress_8 (lv_at hl 5 rfl) ?_
  refine lv_iload X.x X.b dX3_compress_10 (lv_at hl 6 rfl) ?_
  refine z_cSv (wr := [(x1, z_B G 16384 t)]) X rfl z_E0ok trivial hS (m_checkRange l G x2 16464 p0 0 16464 (by omega) (by decide)) 3 q134 q135 q9 q136 nm_m_checkRange ⟨rfl, rfl⟩ ⟨Nat.le_of_ble_eq_true rfl, Nat.le_of_ble_eq_true rfl⟩ [1] [0] ⟨rfl, rfl, rfl, rfl, by decide⟩ rfl hl.1 rfl (Nat.le_of_ble_eq_true rfl) ⟨Nat.le_of_ble_eq_true rfl, Nat.le_of_ble_eq_true rfl⟩ dX3_compress_12 (fun u_4 H locs hp hS => ?_)
  have hS : z_S G [(x1, z_B G 16384 t), (x2, z_B G 16464 p0)] A s H locs := hS
  refine lv_iload X.x X.b dX3_compress_15 (lv_at hl 5 rfl) ?_
  refine lv_iload X.x X.b dX3_compress_17 (lv_at hl 6 rfl) ?_
  refine z_iadd X.x X.b dX3_compress_19 ?_
  refine z_top (y := (nI 16464)) (congrArg nI (Nat.zero_add _)) ?_
  refine lv_istore (lv' := [(7, .int (nI 16464)), (0, .ref x0), (1, .ref x1), (2, .int (nI 0)), (3, .int (nI n)), (4, .ref x2), (5, .int (nI 0)), (6, .int (nI 16464))]) X.x X.b dX3_compress_20 hl (by decide) rfl (fun ls hl => ?_)
  refine lv_iload_n X.x X.b dX3_compress_22 rfl (lv_at hl 4 rfl) ?_
  refine z_ldc (v := 65547) X rfl q228 dX3_compress_23 ?_
  refine z_top (y := (nI 65547)) (by decide) ?_
  refine z_icmp_ge (tgt := 41) X.x X.b dX3_compress_25 (by decide) (by omega) (by omega) (fun c_5 => by exfalso; omega) (fun c_5 => ?_)
  refine lv_aload_n X.x X.b dX3_compress_28 rfl (lv_at hl 2 rfl) ?_
  refine lv_iload_n X.x X.b dX3_compress_29 rfl (lv_at hl 3 rfl) ?_
  refine lv_iload_n X.x X.b dX3_compress_30 rfl (lv_at hl 4 rfl) ?_
  refine lv_aload X.x X.b dX3_compress_31 (lv_at hl 5 rfl) ?_
  refine lv_iload X.x X.b dX3_compress_33 (lv_at hl 6 rfl) ?_
  refine lv_iload X.x X.b dX3_compress_35 (lv_at hl 0 rfl) ?_
  refine z_cSi (wr := []) X rfl z_E1ok hE hS (m_c64 l G x1 x2 t p0 n hn) 6 q229 q230 q5 q231 nm_m_c64 ⟨rfl, rfl⟩ ⟨Nat.le_of_ble_eq_true rfl, Nat.le_of_ble_eq_true rfl⟩ [0, 1] [] ⟨rfl, rfl, rfl, rfl, by decide⟩ rfl hl.1 rfl (Nat.le_of_ble_eq_true rfl) ⟨Nat.le_of_ble_eq_true rfl, Nat.le_of_ble_eq_true rfl⟩ dX3_compress_37 (fun r_6 u H locs hp hS => ?_)
  have hS : z_S G [(x1, z_B G 16384 t), (x2, z_B G 16464 u)] A s H locs := hS
  exact z_iret X hS u (rfl) (hp) [0, 1] rfl rfl dX3_compress_40
end
section
/-! BlockPacker: its contracts (printed by gen/g15.py) -/
set_option maxRecDepth 100000
section ZO
variable {p : Program} {l : Launch} {e : Env} {R : Room} {s : State} {m : MethodId} {args : Array Value} {below : List Frame} {meth : Method} {c : Code} {H : Heap} {locs : List Loc} {cells slots : Nat} {Q : State → Prop}
variable {cc : ByteArray} {pc : Nat} {ls : Array Slot} {rest : List Value} {y : MethodName} {L : Nat} {ret : Option FieldType} {G : z_G} {A : Nat → Prop} {ws : va_W} {a : Nat} {own : String}
theorem z_newo {C : String} {T : u_T} {N ci index : Nat} {fs : List Value} (X : z_X p s m args meth c y cc L ret G A) (hy : y.cls = own) (hin : ∀ w ∈ u_ws C T N, w ∈ lw_all) (ty : Nat → FieldType) (hty : ∀ k, k < N → parseFieldDescriptor (T k).2.2.1 = some (ty k)) (q1 : Cond.classLink own index C ∈ lw_all) (q2 : Cond.instantiable C N ∈ lw_all) (q3 : Cond.initialized C ∈ lw_all) (hS : z_S G ws A s H locs) (hc : z_cl[ci]? = some (C, T, N)) (hfs : ∀ j, j < N → defaultValue (ty j) = vp_V fs j) (hcells : cells + 1 ≤ R.cells) (hslots : slots + N ≤ R.slots) (hd : decode cc pc = .ok (.new index, 3))
    (k : ∀ (q : Nat) (H1 : Heap), z_S G (ws ++ [(q, .inr (ci, fs))]) A s H1 locs → W p l e R s m args below meth c H1 locs (cells + 1) (slots + N) Q (F0 m (pc + 3) ls (.ref q :: rest))) : W p l e R s m args below meth c H locs cells slots Q (F0 m pc ls rest) := by
  subst hy
  exact va_new X.x X.b X.1.2.2.2.2 hin ty hty X.own (X.w q1) (X.w q2) (X.w q3) X.K hS.1 hS.2.1 hS.2.2 X.hA hc hfs hcells hslots hd (fun q H1 hP hD hS1 => k q H1 ⟨hP, hD, hS1⟩)
theorem z_oinit {index : Nat} (X : z_X p s m args meth c y cc L ret G A) (hy : y.cls = own) (q : Cond.methodLink own index Lib.objectInit ∈ lw_all) (hl : ls.size = L) (hd : decode cc pc = .ok (.invokespecial index, 3)) (hf : 1 ≤ R.frames) (hr : (rest.map fun v => v.category).sum + 12 ≤ R.locals) (k : W p l e R s m args below meth c H locs cells slots Q (F0 m (pc + 3) ls rest)) : W p l e R s m args below meth c H locs cells slots Q (F0 m pc ls (.ref a :: rest)) := by
  subst hy
  exact W.objInit X.x X.b X.own (X.w q) (X.w q44) (X.w q45) rfl (hl.trans X.1.2.2.1.symm) rfl hd hf (by show 2 * 0 + _ + 12 ≤ _; omega) k
end ZO
theorem z_def : ∀ j, j < 8 → defaultValue (tyX1 j) = vp_V [.null, .null, .null, .null, .null, .int (nI 0), .int (nI 0), .int (nI 0)] j := by
  intro j hj
  match j, hj with
  | 0, _ => rfl
  | 1, _ => rfl
  | 2, _ => rfl
  | 3, _ => rfl
  | 4, _ => rfl
  | 5, _ => rfl
  | 6, _ => rfl
  | 7, _ => rfl
  | j + 8, hj => exact absurd hj (by omega)
/-- the four bytes of w, the highest first, from i on -/
def z_w4 (t : Nat → Int8) (i : Nat) (w : Int32) : Nat → Int8 := va_up (va_up (va_up (va_up t i (w >>> (nI 24 &&& 31)).toInt8) (i + 1) (w >>> (nI 16 &&& 31)).toInt8) (i + 2) (w >>> (nI 8 &&& 31)).toInt8) (i + 3) w.toInt8
def z_w16 (t : Nat → Int8) (i : Nat) (a b c d : Int32) : Nat → Int8 := z_w4 (z_w4 (z_w4 (z_w4 t i a) (i + 4) b) (i + 8) c) (i + 12) d
theorem nmx_comp : z_Nm z_Dk1 6 := by decide +kernel
theorem nmx_dec : z_Nm z_Dk2 6 := by decide +kernel
theorem nm_m_X2_init : z_Nm yX2_init 0 := by decide +kernel
set_option maxHeartbeats 4000000 in
theorem m_X2_init (l : Launch) (G : z_G) (a : Nat) : z_Mv l yX2_init cX2_init 1 (z_rm 1 0 0 12) 0 0 G z_E0 [.ref a] [] (S := Unit) (fun _ => True) (fun _ => []) := by
  refine Mv.mk (by decide) (Nat.le_of_ble_eq_true rfl) ?_
  intro p e s m below meth c A ls X hE hS hl
  have hl : lv_has ls 1 [(0, .ref a)] := hl
  refine lv_aload_n X.x X.b dX2_init_0 rfl (lv_at hl 0 rfl) ?_
  refine z_oinit X rfl q54 hl.1 dX2_init_1 (Nat.le_of_ble_eq_true rfl) (Nat.le_of_ble_eq_true rfl) ?_
  exact z_vret X hS () (trivial) [] rfl rfl dX2_init_4
theorem nm_m_X4_init : z_Nm yX4_init 0 := by decide +kernel
set_option maxHeartbeats 4000000 in
theorem m_X4_init (l : Launch) (G : z_G) (a : Nat) : z_Mv l yX4_init cX4_init 1 (z_rm 1 0 0 12) 0 0 G z_E0 [.ref a] [] (S := Unit) (fun _ => True) (fun _ => []) := by
  refine Mv.mk (by decide) (Nat.le_of_ble_eq_true rfl) ?_
  intro p e s m below meth c A ls X hE hS hl
  have hl : lv_has ls 1 [(0, .ref a)] := hl
  refine lv_aload_n X.x X.b dX4_init_0 rfl (lv_at hl 0 rfl) ?_
  refine z_oinit X rfl q64 hl.1 dX4_init_1 (Nat.le_of_ble_eq_true rfl) (Nat.le_of_ble_eq_true rfl) ?_
  exact z_vret X hS () (trivial) [] rfl rfl dX4_init_4
theorem nm_m_X3_init : z_Nm yX3_init 0 := by decide +kernel
set_option maxHeartbeats 4000000 in
theorem m_X3_init (l : Launch) (G : z_G) (a : Nat) : z_Mv l yX3_init cX3_init 1 (z_rm 2 0 0 32) 0 0 G z_E0 [.ref a] [] (S := Unit) (fun _ => True) (fun _ => []) := by
  refine Mv.mk (by decide) (Nat.le_of_ble_eq_true rfl) ?_
  intro p e s m below meth c A ls X hE hS hl
  have hl : lv_has ls 1 [(0, .ref a)] := hl
  refine lv_aload_n X.x X.b dX3_init_0 rfl (lv_at hl 0 rfl) ?_
  refine z_cIv (wr := []) X rfl z_E0ok trivial hS (m_X2_init l G a) 0 q51 q52 q4 q53 rfl nm_m_X2_init ⟨rfl, rfl⟩ ⟨Nat.le_of_ble_eq_true rfl, Nat.le_of_ble_eq_true rfl⟩ [] [] ⟨rfl, rfl, rfl, rfl, by decide⟩ rfl hl.1 rfl (Nat.le_of_ble_eq_true rfl) ⟨Nat.le_of_ble_eq_true rfl, Nat.le_of_ble_eq_true rfl⟩ dX3_init_1 (fun u_2 H locs hp hS => ?_)
  have hS : z_S G [] A s H locs := hS
  exact z_vret X hS () (trivial) [] rfl rfl dX3_init_4
theorem nm_m_X5_init : z_Nm yX5_init 0 := by decide +kernel
set_option maxHeartbeats 4000000 in
theorem m_X5_init (l : Launch) (G : z_G) (a : Nat) : z_Mv l yX5_init cX5_init 1 (z_rm 2 0 0 32) 0 0 G z_E0 [.ref a] [] (S := Unit) (fun _ => True) (fun _ => []) := by
  refine Mv.mk (by decide) (Nat.le_of_ble_eq_true rfl) ?_
  intro p e s m below meth c A ls X hE hS hl
  have hl : lv_has ls 1 [(0, .ref a)] := hl
  refine lv_aload_n X.x X.b dX5_init_0 rfl (lv_at hl 0 rfl) ?_
  refine z_cIv (wr := []) X rfl z_E0ok trivial hS (m_X4_init l G a) 0 q61 q62 q6 q63 rfl nm_m_X4_init ⟨rfl, rfl⟩ ⟨Nat.le_of_ble_eq_true rfl, Nat.le_of_ble_eq_true rfl⟩ [] [] ⟨rfl, rfl, rfl, rfl, by decide⟩ rfl hl.1 rfl (Nat.le_of_ble_eq_true rfl) ⟨Nat.le_of_ble_eq_true rfl, Nat.le_of_ble_eq_true rfl⟩ dX5_init_1 (fun u_2 H locs hp hS => ?_)
  have hS : z_S G [] A s H locs := hS
  exact z_vret X hS () (trivial) [] rfl rfl dX5_init_4
theorem nm_m_new : z_Nm yX1_init 0 := by decide +kernel
set_option maxHeartbeats 4000000 in
theorem m_new (l : Launch) (G : z_G) (b0 : Nat) : z_Mv l yX1_init cX1_init 1 (z_rm 3 5 49232 60) 5 49232 G z_E0 [.ref b0] [(b0, .inr (0, [.null, .null, .null, .null, .null, .int (nI 0), .int (nI 0), .int (nI 0)]))] (S := Nat × Nat × Nat × Nat × Nat) (fun _ => True) (fun u => [(b0, .inr (0, [.ref u.1, .ref u.2.1, .ref u.2.2.1, .ref u.2.2.2.1, .ref u.2.2.2.2, .int (nI 0), .int (-1 : Int32), .int (nI 0)])), (u.1, .inr (1, [])), (u.2.1, .inr (2, [])), (u.2.2.1, z_B G 16384 (fun _ => 0)), (u.2.2.2.1, z_B G 16464 (fun _ => 0)), (u.2.2.2.2, z_B G 16384 (fun _ => 0))]) := by
  refine Mv.mk (by decide) (Nat.le_of_ble_eq_true rfl) ?_
  intro p e s m below meth c A ls X hE hS hl
  have hl : lv_has ls 1 [(0, .ref b0)] := hl
  refine lv_aload_n X.x X.b dX1_init_0 rfl (lv_at hl 0 rfl) ?_
  refine z_oinit X rfl q43 hl.1 dX1_init_1 (Nat.le_of_ble_eq_true rfl) (Nat.le_of_ble_eq_true rfl) ?_
  refine lv_aload_n X.x X.b dX1_init_4 rfl (lv_at hl 0 rfl) ?_
  refine z_newo (ci := 1) (fs := []) X rfl (in_z0 _) (fun _ => .int) (fun k h => absurd h (Nat.not_lt_zero k)) q46 q47 q5 hS rfl (fun j hj => absurd hj (Nat.not_lt_zero j)) (Nat.le_of_ble_eq_true rfl) (Nat.le_of_ble_eq_true rfl) dX1_init_5 (fun q_1 H hS => ?_)
  have hS : z_S G [(b0, .inr (0, [.null, .null, .null, .null, .null, .int (nI 0), .int (nI 0), .int (nI 0)])), (q_1, .inr (1, []))] A s H _ := hS
  refine lv_dup X.x X.b dX1_init_8 rfl ?_
  refine z_cIv (wr := [(b0, .inr (0, [.null, .null, .null, .null, .null, .int (nI 0), .int (nI 0), .int (nI 0)])), (q_1, .inr (1, []))]) X rfl z_E0ok trivial hS (m_X3_init l G q_1) 0 q48 q49 q5 q50 rfl nm_m_X3_init ⟨rfl, rfl⟩ ⟨Nat.le_of_ble_eq_true rfl, Nat.le_of_ble_eq_true rfl⟩ [] [0, 1] ⟨rfl, rfl, rfl, rfl, by decide⟩ rfl hl.1 rfl (Nat.le_of_ble_eq_true rfl) ⟨Nat.le_of_ble_eq_true rfl, Nat.le_of_ble_eq_true rfl⟩ dX1_init_9 (fun u_3 H locs hp hS => ?_)
  have hS : z_S G [(b0, .inr (0, [.null, .null, .null, .null, .null, .int (nI 0), .int (nI 0), .int (nI 0)])), (q_1, .inr (1, []))] A s H locs := hS
  refine z_putF (ws' := [(b0, .inr (0, [.ref q_1, .null, .null, .null, .null, .int (nI 0), .int (nI 0), .int (nI 0)])), (q_1, .inr (1, []))]) (ty := tyX1 0) X rfl hS 0 rfl 0 (by decide) rfl q66 rfl rfl (by decide +kernel) rfl rfl (Nat.le_of_ble_eq_true rfl) rfl dX1_init_12 (fun H locs hS => ?_)
  refine lv_aload_n X.x X.b dX1_init_15 rfl (lv_at hl 0 rfl) ?_
  refine z_newo (ci := 2) (fs := []) X rfl (in_z0 _) (fun _ => .int) (fun k h => absurd h (Nat.not_lt_zero k)) q56 q57 q7 hS rfl (fun j hj => absurd hj (Nat.not_lt_zero j)) (Nat.le_of_ble_eq_true rfl) (Nat.le_of_ble_eq_true rfl) dX1_init_16 (fun q_4 H hS => ?_)
  have hS : z_S G [(b0, .inr (0, [.ref q_1, .null, .null, .null, .null, .int (nI 0), .int (nI 0), .int (nI 0)])), (q_1, .inr (1, [])), (q_4, .inr (2, []))] A s H _ := hS
  refine lv_dup X.x X.b dX1_init_19 rfl ?_
  refine z_cIv (wr := [(b0, .inr (0, [.ref q_1, .null, .null, .null, .null, .int (nI 0), .int (nI 0), .int (nI 0)])), (q_1, .inr (1, [])), (q_4, .inr (2, []))]) X rfl z_E0ok trivial hS (m_X5_init l G q_4) 0 q58 q59 q7 q60 rfl nm_m_X5_init ⟨rfl, rfl⟩ ⟨Nat.le_of_ble_eq_true rfl, Nat.le_of_ble_eq_true rfl⟩ [] [0, 1, 2] ⟨rfl, rfl, rfl, rfl, by decide⟩ rfl hl.1 rfl (Nat.le_of_ble_eq_true rfl) ⟨Nat.le_of_ble_eq_true rfl, Nat.le_of_ble_eq_true rfl⟩ dX1_init_20 (fun u_6 H locs hp hS => ?_)
  have hS : z_S G [(b0, .inr (0, [.ref q_1, .null, .null, .null, .null, .int (nI 0), .int (nI 0), .int (nI 0)])), (q_1, .inr (1, [])), (q_4, .inr (2, []))] A s H locs := hS
  refine z_putF (ws' := [(b0, .inr (0, [.ref q_1, .ref q_4, .null, .null, .null, .int (nI 0), .int (nI 0), .int (nI 0)])), (q_1, .inr (1, [])), (q_4, .inr (2, []))]) (ty := tyX1 1) X rfl hS 0 rfl 1 (by decide) rfl q67 rfl rfl (by decide +kernel) rfl rfl (Nat.le_of_ble_eq_true rfl) rfl dX1_init_23 (fun H locs hS => ?_)
  refine lv_aload_n X.x X.b dX1_init_26 rfl (lv_at hl 0 rfl) ?_
  refine lv_sipush (v := (nI 16384)) X.x X.b dX1_init_27 (by decide) ?_
  refine z_newb X q91 hS (by omega) (by decide) (by decide) dX1_init_30 (fun q_7 H hS => ?_)
  have hS : z_S G [(b0, .inr (0, [.ref q_1, .ref q_4, .null, .null, .null, .int (nI 0), .int (nI 0), .int (nI 0)])), (q_1, .inr (1, [])), (q_4, .inr (2, [])), (q_7, z_B G 16384 (fun _ => 0))] A s H _ := hS
  refine z_putF (ws' := [(b0, .inr (0, [.ref q_1, .ref q_4, .ref q_7, .null, .null, .int (nI 0), .int (nI 0), .int (nI 0)])), (q_1, .inr (1, [])), (q_4, .inr (2, [])), (q_7, z_B G 16384 (fun _ => 0))]) (ty := tyX1 2) X rfl hS 0 rfl 2 (by decide) rfl q68 rfl rfl (by decide +kernel) rfl rfl (Nat.le_of_ble_eq_true rfl) rfl dX1_init_32 (fun H locs hS => ?_)
  refine lv_aload_n X.x X.b dX1_init_35 rfl (lv_at hl 0 rfl) ?_
  refine lv_sipush (v := (nI 16464)) X.x X.b dX1_init_36 (by decide) ?_
  refine z_newb X q91 hS (by omega) (by decide) (by decide) dX1_init_39 (fun q_8 H hS => ?_)
  have hS : z_S G [(b0, .inr (0, [.ref q_1, .ref q_4, .ref q_7, .null, .null, .int (nI 0), .int (nI 0), .int (nI 0)])), (q_1, .inr (1, [])), (q_4, .inr (2, [])), (q_7, z_B G 16384 (fun _ => 0)), (q_8, z_B G 16464 (fun _ => 0))] A s H _ := hS
  refine z_putF (ws' := [(b0, .inr (0, [.ref q_1, .ref q_4, .ref q_7, .ref q_8, .null, .int (nI 0), .int (nI 0), .int (nI 0)])), (q_1, .inr (1, [])), (q_4, .inr (2, [])), (q_7, z_B G 16384 (fun _ => 0)), (q_8, z_B G 16464 (fun _ => 0))]) (ty := tyX1 3) X rfl hS 0 rfl 3 (by decide) rfl q69 rfl rfl (by decide +kernel) rfl rfl (Nat.le_of_ble_eq_true rfl) rfl dX1_init_41 (fun H locs hS => ?_)
  refine lv_aload_n X.x X.b dX1_init_44 rfl (lv_at hl 0 rfl) ?_
  refine lv_sipush (v := (nI 16384)) X.x X.b dX1_init_45 (by decide) ?_
  refine z_newb X q91 hS (by omega) (by decide) (by decide) dX1_init_48 (fun q_9 H hS => ?_)
  have hS : z_S G [(b0, .inr (0, [.ref q_1, .ref q_4, .ref q_7, .ref q_8, .null, .int (nI 0), .int (nI 0), .int (nI 0)])), (q_1, .inr (1, [])), (q_4, .inr (2, [])), (q_7, z_B G 16384 (fun _ => 0)), (q_8, z_B G 16464 (fun _ => 0)), (q_9, z_B G 16384 (fun _ => 0))] A s H _ := hS
  refine z_putF (ws' := [(b0, .inr (0, [.ref q_1, .ref q_4, .ref q_7, .ref q_8, .ref q_9, .int (nI 0), .int (nI 0), .int (nI 0)])), (q_1, .inr (1, [])), (q_4, .inr (2, [])), (q_7, z_B G 16384 (fun _ => 0)), (q_8, z_B G 16464 (fun _ => 0)), (q_9, z_B G 16384 (fun _ => 0))]) (ty := tyX1 4) X rfl hS 0 rfl 4 (by decide) rfl q70 rfl rfl (by decide +kernel) rfl rfl (Nat.le_of_ble_eq_true rfl) rfl dX1_init_50 (fun H locs hS => ?_)
  refine lv_aload_n X.x X.b dX1_init_53 rfl (lv_at hl 0 rfl) ?_
  refine lv_iconst (v := (-1 : Int32)) X.x X.b dX1_init_54 (by decide) ?_
  refine z_put (ws' := [(b0, .inr (0, [.ref q_1, .ref q_4, .ref q_7, .ref q_8, .ref q_9, .int (nI 0), .int (-1 : Int32), .int (nI 0)])), (q_1, .inr (1, [])), (q_4, .inr (2, [])), (q_7, z_B G 16384 (fun _ => 0)), (q_8, z_B G 16464 (fun _ => 0)), (q_9, z_B G 16384 (fun _ => 0))]) X rfl hS 0 rfl 6 (by decide) rfl q72 rfl (by decide +kernel) (Nat.le_of_ble_eq_true rfl) rfl dX1_init_55 (fun H locs hS => ?_)
  exact z_vret X hS (q_1, q_4, q_7, q_8, q_9) (trivial) [0, 1, 2, 3, 4, 5] rfl rfl dX1_init_58
theorem nm_m_size : z_Nm yX1_size 0 := by decide +kernel
set_option maxHeartbeats 4000000 in
theorem m_size (l : Launch) (G : z_G) (b0 bc bd bt bp bo : Nat) (n : Nat) (ln : Int32) (bk : Nat) (hn : n ≤ 16384) : z_Mi l yX1_size cX1_size 1 .int (z_rm 0 0 0 0) 0 0 G z_E0 [.ref b0] [(b0, .inr (0, [.ref bc, .ref bd, .ref bt, .ref bp, .ref bo, .int (nI n), .int ln, .int (nI bk)]))] (S := Unit) (fun r _ => r = nI n) (fun _ => [(b0, .inr (0, [.ref bc, .ref bd, .ref bt, .ref bp, .ref bo, .int (nI n), .int ln, .int (nI bk)]))]) := by
  refine Mi.mk (by decide) (Nat.le_of_ble_eq_true rfl) ?_
  intro p e s m below meth c A ls X hE hS hl
  have hl : lv_has ls 1 [(0, .ref b0)] := hl
  refine lv_aload_n X.x X.b dX1_size_0 rfl (lv_at hl 0 rfl) ?_
  refine z_get X rfl hS 0 rfl 5 (by decide) rfl q71 rfl dX1_size_1 ?_
  exact z_iret X hS () (rfl) (rfl) [0] rfl rfl dX1_size_4
theorem nm_m_trim : z_Nm yX1_trim 1 := by decide +kernel
set_option maxHeartbeats 4000000 in
theorem m_trim (l : Launch) (G : z_G) (b0 bc bd bt bp bo : Nat) (n : Nat) (ln : Int32) (bk : Nat) (hn : n ≤ 16384) (x : Int32) : z_Mv l yX1_trim cX1_trim 2 (z_rm 0 0 0 0) 0 0 G z_E0 [.ref b0, .int x] [(b0, .inr (0, [.ref bc, .ref bd, .ref bt, .ref bp, .ref bo, .int (nI n), .int ln, .int (nI bk)]))] (S := Unit) (fun _ => True) (fun _ => [(b0, .inr (0, [.ref bc, .ref bd, .ref bt, .ref bp, .ref bo, .int (nI (z_ab x % (n + 1))), .int ln, .int (nI bk)]))]) := by
  refine Mv.mk (by decide) (Nat.le_of_ble_eq_true rfl) ?_
  intro p e s m below meth c A ls X hE hS hl
  have hl : lv_has ls 2 [(0, .ref b0), (1, .int x)] := hl
  have hx := z_ab_lt x
  refine lv_aload_n X.x X.b dX1_trim_0 rfl (lv_at hl 0 rfl) ?_
  refine lv_iload_n X.x X.b dX1_trim_1 rfl (lv_at hl 1 rfl) ?_
  refine z_ldc (v := 2147483647) X rfl q110 dX1_trim_2 ?_
  refine lv_iand X.x X.b dX1_trim_4 ?_
  refine z_top (y := (nI (z_ab x))) (z_andM _) ?_
  refine lv_aload_n X.x X.b dX1_trim_5 rfl (lv_at hl 0 rfl) ?_
  refine z_get X rfl hS 0 rfl 5 (by decide) rfl q71 rfl dX1_trim_6 ?_
  refine lv_iconst (v := (nI 1)) X.x X.b dX1_trim_9 (by decide) ?_
  refine z_iadd X.x X.b dX1_trim_10 ?_
  refine z_irem X.x X.b dX1_trim_11 (by omega) (by omega) (by omega) ?_
  refine z_put (ws' := [(b0, .inr (0, [.ref bc, .ref bd, .ref bt, .ref bp, .ref bo, .int (nI ((z_ab x) % (n + 1))), .int ln, .int (nI bk)]))]) X rfl hS 0 rfl 5 (by decide) rfl q71 rfl (by decide +kernel) (Nat.le_of_ble_eq_true rfl) rfl dX1_trim_12 (fun H locs hS => ?_)
  exact z_vret X hS () (trivial) [0] rfl rfl dX1_trim_15
theorem nm_m_word : z_Nm yX1_word 2 := by decide +kernel
set_option maxHeartbeats 4000000 in
theorem m_word (l : Launch) (G : z_G) (b0 bc bd bt bp bo : Nat) (n : Nat) (ln : Int32) (bk : Nat) (hn : n ≤ 16384) (t : Nat → Int8) (i : Nat) (w : Int32) (hi : i + 3 < 16384) : z_Mv l yX1_word cX1_word 3 (z_rm 0 0 0 0) 0 0 G z_E0 [.ref b0, .int (nI i), .int w] [(b0, .inr (0, [.ref bc, .ref bd, .ref bt, .ref bp, .ref bo, .int (nI n), .int ln, .int (nI bk)])), (bt, z_B G 16384 t)] (S := Nat → Int8) (fun u => u = z_w4 t i w) (fun u => [(b0, .inr (0, [.ref bc, .ref bd, .ref bt, .ref bp, .ref bo, .int (nI n), .int ln, .int (nI bk)])), (bt, z_B G 16384 u)]) := by
  refine Mv.mk (by decide) (Nat.le_of_ble_eq_true rfl) ?_
  intro p e s m below meth c A ls X hE hS hl
  have hl : lv_has ls 3 [(0, .ref b0), (1, .int (nI i)), (2, .int w)] := hl
  refine lv_aload_n X.x X.b dX1_word_0 rfl (lv_at hl 0 rfl) ?_
  refine z_get X rfl hS 0 rfl 2 (by decide) rfl q68 rfl dX1_word_1 ?_
  refine lv_iload_n X.x X.b dX1_word_4 rfl (lv_at hl 1 rfl) ?_
  refine lv_iload_n X.x X.b dX1_word_5 rfl (lv_at hl 2 rfl) ?_
  refine lv_bipush (v := (nI 24)) X.x X.b dX1_word_6 (by decide) ?_
  refine lv_ishr X.x X.b dX1_word_8 ?_
  refine lv_i2b X.x X.b dX1_word_9 rfl ?_
  refine z_bast8 (ws' := [(b0, .inr (0, [.ref bc, .ref bd, .ref bt, .ref bp, .ref bo, .int (nI n), .int ln, .int (nI bk)])), (bt, z_B G 16384 (va_up t i ((w >>> ((nI 24) &&& 31)).toInt8)))]) X hS 1 rfl (i := i) (by omega) (by omega) rfl dX1_word_10 (fun H locs hS => ?_)
  refine lv_aload_n X.x X.b dX1_word_11 rfl (lv_at hl 0 rfl) ?_
  refine z_get X rfl hS 0 rfl 2 (by decide) rfl q68 rfl dX1_word_12 ?_
  refine lv_iload_n X.x X.b dX1_word_15 rfl (lv_at hl 1 rfl) ?_
  refine lv_iconst (v := (nI 1)) X.x X.b dX1_word_16 (by decide) ?_
  refine z_iadd X.x X.b dX1_word_17 ?_
  refine lv_iload_n X.x X.b dX1_word_18 rfl (lv_at hl 2 rfl) ?_
  refine lv_bipush (v := (nI 16)) X.x X.b dX1_word_19 (by decide) ?_
  refine lv_ishr X.x X.b dX1_word_21 ?_
  refine lv_i2b X.x X.b dX1_word_22 rfl ?_
  refine z_bast8 (ws' := [(b0, .inr (0, [.ref bc, .ref bd, .ref bt, .ref bp, .ref bo, .int (nI n), .int ln, .int (nI bk)])), (bt, z_B G 16384 (va_up (va_up t i ((w >>> ((nI 24) &&& 31)).toInt8)) (i + 1) ((w >>> ((nI 16) &&& 31)).toInt8)))]) X hS 1 rfl (i := (i + 1)) (by omega) (by omega) rfl dX1_word_23 (fun H locs hS => ?_)
  refine lv_aload_n X.x X.b dX1_word_24 rfl (lv_at hl 0 rfl) ?_
  refine z_get X rfl hS 0 rfl 2 (by decide) rfl q68 rfl dX1_word_25 ?_
  refine lv_iload_n X.x X.b dX1_word_28 rfl (lv_at hl 1 rfl) ?_
  refine lv_iconst (v := (nI 2)) X.x X.b dX1_word_29 (by decide) ?_
  refine z_iadd X.x X.b dX1_word_30 ?_
  refine lv_iload_n X.x X.b dX1_word_31 rfl (lv_at hl 2 rfl) ?_
  refine lv_bipush (v := (nI 8)) X.x X.b dX1_word_32 (by decide) ?_
  refine lv_ishr X.x X.b dX1_word_34 ?_
  refine lv_i2b X.x X.b dX1_word_35 rfl ?_
  refine z_bast8 (ws' := [(b0, .inr (0, [.ref bc, .ref bd, .ref bt, .ref bp, .ref bo, .int (nI n), .int ln, .int (nI bk)])), (bt, z_B G 16384 (va_up (va_up (va_up t i ((w >>> ((nI 24) &&& 31)).toInt8)) (i + 1) ((w >>> ((nI 16) &&& 31)).toInt8)) (i + 2) ((w >>> ((nI 8) &&& 31)).toInt8)))]) X hS 1 rfl (i := (i + 2)) (by omega) (by omega) rfl dX1_word_36 (fun H locs hS => ?_)
  refine lv_aload_n X.x X.b dX1_word_37 rfl (lv_at hl 0 rfl) ?_
  refine z_get X rfl hS 0 rfl 2 (by decide) rfl q68 rfl dX1_word_38 ?_
  refine lv_iload_n X.x X.b dX1_word_41 rfl (lv_at hl 1 rfl) ?_
  refine lv_iconst (v := (nI 3)) X.x X.b dX1_word_42 (by decide) ?_
  refine z_iadd X.x X.b dX1_word_43 ?_
  refine lv_iload_n X.x X.b dX1_word_44 rfl (lv_at hl 2 rfl) ?_
  refine lv_i2b X.x X.b dX1_word_45 rfl ?_
  refine z_bast8 (ws' := [(b0, .inr (0, [.ref bc, .ref bd, .ref bt, .ref bp, .ref bo, .int (nI n), .int ln, .int (nI bk)])), (bt, z_B G 16384 (va_up (va_up (va_up (va_up t i ((w >>> ((nI 24) &&& 31)).toInt8)) (i + 1) ((w >>> ((nI 16) &&& 31)).toInt8)) (i + 2) ((w >>> ((nI 8) &&& 31)).toInt8)) (i + 3) w.toInt8))]) X hS 1 rfl (i := (i + 3)) (by omega) (by omega) rfl dX1_word_46 (fun H locs hS => ?_)
  exact z_vret X hS _ (rfl) [0, 1] rfl rfl dX1_word_47
theorem nm_m_put1 : z_Nm yX1_put 4 := by decide +kernel
set_option maxHeartbeats 4000000 in
theorem m_put1 (l : Launch) (G : z_G) (b0 bc bd bt bp bo : Nat) (n : Nat) (ln : Int32) (bk : Nat) (hn : n ≤ 16384) (t : Nat → Int8) (e1 e2 e3 e4 : Int32) (h16 : n ≤ 16368) : z_Mi l yX1_put cX1_put 5 .boolean (z_rm 1 0 0 24) 0 0 G z_E0 [.ref b0, .int e1, .int e2, .int e3, .int e4] [(b0, .inr (0, [.ref bc, .ref bd, .ref bt, .ref bp, .ref bo, .int (nI n), .int ln, .int (nI bk)])), (bt, z_B G 16384 t)] (S := Unit) (fun r _ => r = 1) (fun _ => [(b0, .inr (0, [.ref bc, .ref bd, .ref bt, .ref bp, .ref bo, .int (nI (n + 16)), .int ln, .int (nI bk)])), (bt, z_B G 16384 (z_w16 t n e1 e2 e3 e4))]) := by
  refine Mi.mk (by decide) (Nat.le_of_ble_eq_true rfl) ?_
  intro p e s m below meth c A ls X hE hS hl
  have hl : lv_has ls 5 [(0, .ref b0), (1, .int e1), (2, .int e2), (3, .int e3), (4, .int e4)] := hl
  refine lv_aload_n X.x X.b dX1_put_0 rfl (lv_at hl 0 rfl) ?_
  refine z_get X rfl hS 0 rfl 5 (by decide) rfl q71 rfl dX1_put_1 ?_
  refine lv_aload_n X.x X.b dX1_put_4 rfl (lv_at hl 0 rfl) ?_
  refine z_get X rfl hS 0 rfl 2 (by decide) rfl q68 rfl dX1_put_5 ?_
  refine z_balen X hS 1 rfl dX1_put_8 ?_
  refine lv_bipush (v := (nI 16)) X.x X.b dX1_put_9 (by decide) ?_
  refine z_isub X.x X.b dX1_put_11 (by omega) ?_
  refine z_icmp_le (tgt := 17) X.x X.b dX1_put_12 (by decide) (by omega) (by omega) (fun c_1 => ?_) (fun c_1 => by exfalso; omega)
  refine lv_aload_n X.x X.b dX1_put_17 rfl (lv_at hl 0 rfl) ?_
  refine lv_aload_n X.x X.b dX1_put_18 rfl (lv_at hl 0 rfl) ?_
  refine z_get X rfl hS 0 rfl 5 (by decide) rfl q71 rfl dX1_put_19 ?_
  refine lv_iload_n X.x X.b dX1_put_22 rfl (lv_at hl 1 rfl) ?_
  refine z_cVv (ci := 0) (q0 := 0) (wr := []) X rfl z_E0ok trivial hS (m_word l G b0 bc bd bt bp bo n ln bk hn t n e1 (by omega)) 2 q99 q101 qs0 q3 q102 nm_m_word ⟨rfl, rfl⟩ ⟨Nat.le_of_ble_eq_true rfl, Nat.le_of_ble_eq_true rfl⟩ rfl rfl rfl [0, 1] [] ⟨rfl, rfl, rfl, rfl, by decide⟩ rfl hl.1 rfl (Nat.le_of_ble_eq_true rfl) ⟨Nat.le_of_ble_eq_true rfl, Nat.le_of_ble_eq_true rfl⟩ dX1_put_23 (fun u9 H locs hp hS => ?_)
  have hS : z_S G [(b0, .inr (0, [.ref bc, .ref bd, .ref bt, .ref bp, .ref bo, .int (nI n), .int ln, .int (nI bk)])), (bt, z_B G 16384 u9)] A s H locs := hS
  subst hp
  refine lv_aload_n X.x X.b dX1_put_26 rfl (lv_at hl 0 rfl) ?_
  refine lv_aload_n X.x X.b dX1_put_27 rfl (lv_at hl 0 rfl) ?_
  refine z_get X rfl hS 0 rfl 5 (by decide) rfl q71 rfl dX1_put_28 ?_
  refine lv_iconst (v := (nI 4)) X.x X.b dX1_put_31 (by decide) ?_
  refine z_iadd X.x X.b dX1_put_32 ?_
  refine lv_iload_n X.x X.b dX1_put_33 rfl (lv_at hl 2 rfl) ?_
  refine z_cVv (ci := 0) (q0 := 0) (wr := []) X rfl z_E0ok trivial hS (m_word l G b0 bc bd bt bp bo n ln bk hn (z_w4 t n e1) (n + 4) e2 (by omega)) 2 q99 q101 qs0 q3 q102 nm_m_word ⟨rfl, rfl⟩ ⟨Nat.le_of_ble_eq_true rfl, Nat.le_of_ble_eq_true rfl⟩ rfl rfl rfl [0, 1] [] ⟨rfl, rfl, rfl, rfl, by decide⟩ rfl hl.1 rfl (Nat.le_of_ble_eq_true rfl) ⟨Nat.le_of_ble_eq_true rfl, Nat.le_of_ble_eq_true rfl⟩ dX1_put_34 (fun u9 H locs hp hS => ?_)
  have hS : z_S G [(b0, .inr (0, [.ref bc, .ref bd, .ref bt, .ref bp, .ref bo, .int (nI n), .int ln, .int (nI bk)])), (bt, z_B G 16384 u9)] A s H locs := hS
  subst hp
  refine lv_aload_n X.x X.b dX1_put_37 rfl (lv_at hl 0 rfl) ?_
  refine lv_aload_n X.x X.b dX1_put_38 rfl (lv_at hl 0 rfl) ?_
  refine z_get X rfl hS 0 rfl 5 (by decide) rfl q71 rfl dX1_put_39 ?_
  refine lv_bipush (v := (nI 8)) X.x X.b dX1_put_42 (by decide) ?_
  refine z_iadd X.x X.b dX1_put_44 ?_
  refine lv_iload_n X.x X.b dX1_put_45 rfl (lv_at hl 3 rfl) ?_
  refine z_cVv (ci := 0) (q0 := 0) (wr := []) X rfl z_E0ok trivial hS (m_word l G b0 bc bd bt bp bo n ln bk hn (z_w4 (z_w4 t n e1) (n + 4) e2) (n + 8) e3 (by omega)) 2 q99 q101 qs0 q3 q102 nm_m_word ⟨rfl, rfl⟩ ⟨Nat.le_of_ble_eq_true rfl, Nat.le_of_ble_eq_true rfl⟩ rfl rfl rfl [0, 1] [] ⟨rfl, rfl, rfl, rfl, by decide⟩ rfl hl.1 rfl (Nat.le_of_ble_eq_true rfl) ⟨Nat.le_of_ble_eq_true rfl, Nat.le_of_ble_eq_true rfl⟩ dX1_put_46 (fun u9 H locs hp hS => ?_)
  have hS : z_S G [(b0, .inr (0, [.ref bc, .ref bd, .ref bt, .ref bp, .ref bo, .int (nI n), .int ln, .int (nI bk)])), (bt, z_B G 16384 u9)] A s H locs := hS
  subst hp
  refine lv_aload_n X.x X.b dX1_put_49 rfl (lv_at hl 0 rfl) ?_
  refine lv_aload_n X.x X.b dX1_put_50 rfl (lv_at hl 0 rfl) ?_
  refine z_get X rfl hS 0 rfl 5 (by decide) rfl q71 rfl dX1_put_51 ?_
  refine lv_bipush (v := (nI 12)) X.x X.b dX1_put_54 (by decide) ?_
  refine z_iadd X.x X.b dX1_put_56 ?_
  refine lv_iload X.x X.b dX1_put_57 (lv_at hl 4 rfl) ?_
  refine z_cVv (ci := 0) (q0 := 0) (wr := []) X rfl z_E0ok trivial hS (m_word l G b0 bc bd bt bp bo n ln bk hn (z_w4 (z_w4 (z_w4 t n e1) (n + 4) e2) (n + 8) e3) (n + 12) e4 (by omega)) 2 q99 q101 qs0 q3 q102 nm_m_word ⟨rfl, rfl⟩ ⟨Nat.le_of_ble_eq_true rfl, Nat.le_of_ble_eq_true rfl⟩ rfl rfl rfl [0, 1] [] ⟨rfl, rfl, rfl, rfl, by decide⟩ rfl hl.1 rfl (Nat.le_of_ble_eq_true rfl) ⟨Nat.le_of_ble_eq_true rfl, Nat.le_of_ble_eq_true rfl⟩ dX1_put_59 (fun u9 H locs hp hS => ?_)
  have hS : z_S G [(b0, .inr (0, [.ref bc, .ref bd, .ref bt, .ref bp, .ref bo, .int (nI n), .int ln, .int (nI bk)])), (bt, z_B G 16384 u9)] A s H locs := hS
  subst hp
  refine lv_aload_n X.x X.b dX1_put_62 rfl (lv_at hl 0 rfl) ?_
  refine lv_dup X.x X.b dX1_put_63 rfl ?_
  refine z_get X rfl hS 0 rfl 5 (by decide) rfl q71 rfl dX1_put_64 ?_
  refine lv_bipush (v := (nI 16)) X.x X.b dX1_put_67 (by decide) ?_
  refine z_iadd X.x X.b dX1_put_69 ?_
  refine z_put (ws' := [(b0, .inr (0, [.ref bc, .ref bd, .ref bt, .ref bp, .ref bo, .int (nI (n + 16)), .int ln, .int (nI bk)])), (bt, z_B G 16384 (z_w4 (z_w4 (z_w4 (z_w4 t n e1) (n + 4) e2) (n + 8) e3) (n + 12) e4))]) X rfl hS 0 rfl 5 (by decide) rfl q71 rfl (by decide +kernel) (Nat.le_of_ble_eq_true rfl) rfl dX1_put_70 (fun H locs hS => ?_)
  refine lv_iconst (v := (nI 1)) X.x X.b dX1_put_73 (by decide) ?_
  exact z_iret X hS () (rfl) (rfl) [0, 1] rfl rfl dX1_put_74
theorem nm_m_put0 : z_Nm yX1_put 4 := by decide +kernel
set_option maxHeartbeats 4000000 in
theorem m_put0 (l : Launch) (G : z_G) (b0 bc bd bt bp bo : Nat) (n : Nat) (ln : Int32) (bk : Nat) (hn : n ≤ 16384) (t : Nat → Int8) (e1 e2 e3 e4 : Int32) (h16 : 16368 < n) : z_Mi l yX1_put cX1_put 5 .boolean (z_rm 1 0 0 24) 0 0 G z_E0 [.ref b0, .int e1, .int e2, .int e3, .int e4] [(b0, .inr (0, [.ref bc, .ref bd, .ref bt, .ref bp, .ref bo, .int (nI n), .int ln, .int (nI bk)])), (bt, z_B G 16384 t)] (S := Unit) (fun r _ => r = 0) (fun _ => [(b0, .inr (0, [.ref bc, .ref bd, .ref bt, .ref bp, .ref bo, .int (nI n), .int ln, .int (nI bk)])), (bt, z_B G 16384 t)]) := by
  refine Mi.mk (by decide) (Nat.le_of_ble_eq_true rfl) ?_
  intro p e s m below meth c A ls X hE hS hl
  have hl : lv_has ls 5 [(0, .ref b0), (1, .int e1), (2, .int e2), (3, .int e3), (4, .int e4)] := hl
  refine lv_aload_n X.x X.b dX1_put_0 rfl (lv_at hl 0 rfl) ?_
  refine z_get X rfl hS 0 rfl 5 (by decide) rfl q71 rfl dX1_put_1 ?_
  refine lv_aload_n X.x X.b dX1_put_4 rfl (lv_at hl 0 rfl) ?_
  refine z_get X rfl hS 0 rfl 2 (by decide) rfl q68 rfl dX1_put_5 ?_
  refine z_balen X hS 1 rfl dX1_put_8 ?_
  refine lv_bipush (v := (nI 16)) X.x X.b dX1_put_9 (by decide) ?_
  refine z_isub X.x X.b dX1_put_11 (by omega) ?_
  refine z_icmp_le (tgt := 17) X.x X.b dX1_put_12 (by decide) (by omega) (by omega) (fun c_1 => by exfalso; omega) (fun c_1 => ?_)
  refine lv_iconst (v := (nI 0)) X.x X.b dX1_put_15 (by decide) ?_
  exact z_iret X hS () (rfl) (rfl) [0, 1] rfl rfl dX1_put_16
def z_k (n : Nat) (x : Int32) : Nat := min (z_ab x % 1025) (16384 - n)
set_option maxHeartbeats 4000000 in
theorem lo_fill {p : Program} {l : Launch} {e : Env} {s : State} {m : MethodId} {args : Array Value} {below : List Frame} {meth : Method} {c : Code} {A : Nat → Prop} {G : z_G} {Q : State → Prop} (b0 bc bd bt bp bo : Nat) (n : Nat) (ln : Int32) (bk : Nat) (hn : n ≤ 16384) (t0 : Nat → Int8) (v : Int32) (ct : Nat) (hct : n + ct ≤ 16384) (X : z_X p s m args meth c yX1_fill cX1_fill 5 (some .int) G A) (K : ∀ (t : Nat → Int8), (∀ j, j < n → t j = t0 j) → (∀ j, j < ct → t (n + j) = v.toInt8) → ∀ (H : Heap) (locs : List Loc) (ls : Array Slot), z_S G [(b0, .inr (0, [.ref bc, .ref bd, .ref bt, .ref bp, .ref bo, .int (nI n), .int ln, .int (nI bk)])), (bt, z_B G 16384 t)] A s H locs → lv_has ls 5 [(0, .ref b0), (3, .int (nI ct))] → W p l e (z_rm 0 0 0 0) s m args below meth c H locs 0 0 Q (F0 m 63 ls [])) :
    ∀ (k : Nat) (i : Nat) (t : Nat → Int8), ct - i < k → i ≤ ct → (∀ j, j < n → t j = t0 j) → (∀ j, j < i → t (n + j) = v.toInt8) → ∀ (H : Heap) (locs : List Loc) (ls : Array Slot), z_S G [(b0, .inr (0, [.ref bc, .ref bd, .ref bt, .ref bp, .ref bo, .int (nI n), .int ln, .int (nI bk)])), (bt, z_B G 16384 t)] A s H locs → lv_has ls 5 [(0, .ref b0), (1, .int v), (3, .int (nI ct)), (4, .int (nI i))] → W p l e (z_rm 0 0 0 0) s m args below meth c H locs 0 0 Q (F0 m 37 ls []) := by
  intro k
  induction k with
  | zero =>
    intro i t hk
    exact absurd hk (Nat.not_lt_zero _)
  | succ k ih =>
    intro i t hk hi h1 h2 H locs ls hS hl
    refine lv_iload X.x X.b dX1_fill_37 (lv_at hl 3 rfl) ?_
    refine lv_iload_n X.x X.b dX1_fill_39 rfl (lv_at hl 2 rfl) ?_
    refine z_icmp_ge (tgt := 63) X.x X.b dX1_fill_40 (by decide) (by omega) (by omega) (fun c_1 => ?_) (fun c_1 => ?_)
    · exact K t (h1) (fun j hj => h2 j (by omega)) H _ ls hS (lv_sub hl [0, 2] rfl)
    · refine lv_aload_n X.x X.b dX1_fill_43 rfl (lv_at hl 0 rfl) ?_
      refine z_get X rfl hS 0 rfl 2 (by decide) rfl q68 rfl dX1_fill_44 ?_
      refine lv_aload_n X.x X.b dX1_fill_47 rfl (lv_at hl 0 rfl) ?_
      refine z_get X rfl hS 0 rfl 5 (by decide) rfl q71 rfl dX1_fill_48 ?_
      refine lv_iload X.x X.b dX1_fill_51 (lv_at hl 3 rfl) ?_
      refine z_iadd X.x X.b dX1_fill_53 ?_
      refine lv_iload_n X.x X.b dX1_fill_54 rfl (lv_at hl 1 rfl) ?_
      refine lv_i2b X.x X.b dX1_fill_55 rfl ?_
      refine z_bast8 (ws' := [(b0, .inr (0, [.ref bc, .ref bd, .ref bt, .ref bp, .ref bo, .int (nI n), .int ln, .int (nI bk)])), (bt, z_B G 16384 (va_up t (n + i) v.toInt8))]) X hS 1 rfl (i := (n + i)) (by omega) (by omega) rfl dX1_fill_56 (fun H locs hS => ?_)
      refine z_iinc (d := 1) (lv' := [(4, .int (nI (i + 1))), (0, .ref b0), (1, .int v), (3, .int (nI ct))]) X.x X.b dX1_fill_57 hl (k := 3) rfl (by decide) (by decide) rfl (fun ls hl => ?_)
      refine lv_goto (tgt := 37) X.x X.b dX1_fill_60 (by decide) ?_
      exact ih (i + 1) (va_up t (n + i) v.toInt8) (by omega) (by omega) (fun j hj => (z_upN t _ (by omega)).trans (h1 j hj)) (fun j hj => if q : j = i then (by subst q; exact z_upS t _ rfl) else (z_upN t _ (by omega)).trans (h2 j (by omega))) H _ ls hS (lv_sub hl [1, 2, 3, 0] rfl)
theorem nm_m_fill : z_Nm yX1_fill 2 := by decide +kernel
set_option maxHeartbeats 4000000 in
theorem m_fill (l : Launch) (G : z_G) (b0 bc bd bt bp bo : Nat) (n : Nat) (ln : Int32) (bk : Nat) (hn : n ≤ 16384) (t0 : Nat → Int8) (v x : Int32) : z_Mi l yX1_fill cX1_fill 5 .int (z_rm 0 0 0 0) 0 0 G z_E0 [.ref b0, .int v, .int x] [(b0, .inr (0, [.ref bc, .ref bd, .ref bt, .ref bp, .ref bo, .int (nI n), .int ln, .int (nI bk)])), (bt, z_B G 16384 t0)] (S := Nat → Int8) (fun r u => r = nI (z_k n x) ∧ (∀ j, j < n → u j = t0 j) ∧ ∀ j, j < z_k n x → u (n + j) = v.toInt8) (fun u => [(b0, .inr (0, [.ref bc, .ref bd, .ref bt, .ref bp, .ref bo, .int (nI (n + z_k n x)), .int ln, .int (nI bk)])), (bt, z_B G 16384 u)]) := by
  refine Mi.mk (by decide) (Nat.le_of_ble_eq_true rfl) ?_
  intro p e s m below meth c A ls X hE hS hl
  have hl : lv_has ls 5 [(0, .ref b0), (1, .int v), (2, .int x)] := hl
  have hx := z_ab_lt x
  have hk2 : z_k n x ≤ 16384 - n := Nat.min_le_right _ _
  refine lv_iload_n X.x X.b dX1_fill_0 rfl (lv_at hl 2 rfl) ?_
  refine z_ldc (v := 2147483647) X rfl q110 dX1_fill_1 ?_
  refine lv_iand X.x X.b dX1_fill_3 ?_
  refine z_top (y := (nI (z_ab x))) (z_andM _) ?_
  refine lv_sipush (v := (nI 1025)) X.x X.b dX1_fill_4 (by decide) ?_
  refine z_irem X.x X.b dX1_fill_7 (by omega) (by omega) (by omega) ?_
  refine lv_istore_n (lv' := [(3, .int (nI ((z_ab x) % 1025))), (0, .ref b0), (1, .int v), (2, .int x)]) X.x X.b dX1_fill_8 rfl hl (by decide) rfl (fun ls hl => ?_)
  refine lv_iload_n X.x X.b dX1_fill_9 rfl (lv_at hl 0 rfl) ?_
  refine lv_aload_n X.x X.b dX1_fill_10 rfl (lv_at hl 1 rfl) ?_
  refine z_get X rfl hS 0 rfl 2 (by decide) rfl q68 rfl dX1_fill_11 ?_
  refine z_balen X hS 1 rfl dX1_fill_14 ?_
  refine lv_aload_n X.x X.b dX1_fill_15 rfl (lv_at hl 1 rfl) ?_
  refine z_get X rfl hS 0 rfl 5 (by decide) rfl q71 rfl dX1_fill_16 ?_
  refine z_isub X.x X.b dX1_fill_19 (by omega) ?_
  refine z_icmp_le (tgt := 34) X.x X.b dX1_fill_20 (by decide) (by omega) (by omega) (fun c1 => ?_) (fun c1 => ?_)
  · have hl : lv_has ls 5 [(3, .int (nI (z_k n x))), (0, .ref b0), (1, .int v), (2, .int x)] := by have e : (z_ab x) % 1025 = z_k n x := (by unfold z_k; omega); rw [e] at hl; exact hl
    refine lv_iconst (v := (nI 0)) X.x X.b dX1_fill_34 (by decide) ?_
    refine lv_istore (lv' := [(4, .int (nI 0)), (3, .int (nI (z_k n x))), (0, .ref b0), (1, .int v), (2, .int x)]) X.x X.b dX1_fill_35 hl (by decide) rfl (fun ls hl => ?_)
    refine lo_fill b0 bc bd bt bp bo n ln bk hn t0 v (z_k n x) (by omega) X (fun t h1 h2 H locs ls hS hl => ?_) (z_k n x + 1) 0 t0 (by omega) (Nat.zero_le _) (fun _ _ => rfl) (fun j hj => absurd hj (Nat.not_lt_zero _)) _ _ ls hS (lv_sub hl [2, 3, 1, 0] rfl)
    refine lv_aload_n X.x X.b dX1_fill_63 rfl (lv_at hl 0 rfl) ?_
    refine lv_dup X.x X.b dX1_fill_64 rfl ?_
    refine z_get X rfl hS 0 rfl 5 (by decide) rfl q71 rfl dX1_fill_65 ?_
    refine lv_iload_n X.x X.b dX1_fill_68 rfl (lv_at hl 1 rfl) ?_
    refine z_iadd X.x X.b dX1_fill_69 ?_
    refine z_put (ws' := [(b0, .inr (0, [.ref bc, .ref bd, .ref bt, .ref bp, .ref bo, .int (nI (n + (z_k n x))), .int ln, .int (nI bk)])), (bt, z_B G 16384 t)]) X rfl hS 0 rfl 5 (by decide) rfl q71 rfl (by decide +kernel) (Nat.le_of_ble_eq_true rfl) rfl dX1_fill_70 (fun H locs hS => ?_)
    refine lv_iload_n X.x X.b dX1_fill_73 rfl (lv_at hl 1 rfl) ?_
    exact z_iret X hS t (rfl) (⟨rfl, h1, h2⟩) [0, 1] rfl rfl dX1_fill_74
  · refine lv_aload_n X.x X.b dX1_fill_23 rfl (lv_at hl 1 rfl) ?_
    refine z_get X rfl hS 0 rfl 2 (by decide) rfl q68 rfl dX1_fill_24 ?_
    refine z_balen X hS 1 rfl dX1_fill_27 ?_
    refine lv_aload_n X.x X.b dX1_fill_28 rfl (lv_at hl 1 rfl) ?_
    refine z_get X rfl hS 0 rfl 5 (by decide) rfl q71 rfl dX1_fill_29 ?_
    refine z_isub X.x X.b dX1_fill_32 (by omega) ?_
    refine lv_istore_n (lv' := [(3, .int (nI (16384 - n))), (0, .ref b0), (1, .int v), (2, .int x)]) X.x X.b dX1_fill_33 rfl hl (by decide) rfl (fun ls hl => ?_)
    have hl : lv_has ls 5 [(3, .int (nI (z_k n x))), (0, .ref b0), (1, .int v), (2, .int x)] := by have e : 16384 - n = z_k n x := (by unfold z_k; omega); rw [e] at hl; exact hl
    refine lv_iconst (v := (nI 0)) X.x X.b dX1_fill_34 (by decide) ?_
    refine lv_istore (lv' := [(4, .int (nI 0)), (3, .int (nI (z_k n x))), (0, .ref b0), (1, .int v), (2, .int x)]) X.x X.b dX1_fill_35 hl (by decide) rfl (fun ls hl => ?_)
    refine lo_fill b0 bc bd bt bp bo n ln bk hn t0 v (z_k n x) (by omega) X (fun t h1 h2 H locs ls hS hl => ?_) (z_k n x + 1) 0 t0 (by omega) (Nat.zero_le _) (fun _ _ => rfl) (fun j hj => absurd hj (Nat.not_lt_zero _)) _ _ ls hS (lv_sub hl [2, 3, 1, 0] rfl)
    refine lv_aload_n X.x X.b dX1_fill_63 rfl (lv_at hl 0 rfl) ?_
    refine lv_dup X.x X.b dX1_fill_64 rfl ?_
    refine z_get X rfl hS 0 rfl 5 (by decide) rfl q71 rfl dX1_fill_65 ?_
    refine lv_iload_n X.x X.b dX1_fill_68 rfl (lv_at hl 1 rfl) ?_
    refine z_iadd X.x X.b dX1_fill_69 ?_
    refine z_put (ws' := [(b0, .inr (0, [.ref bc, .ref bd, .ref bt, .ref bp, .ref bo, .int (nI (n + (z_k n x))), .int ln, .int (nI bk)])), (bt, z_B G 16384 t)]) X rfl hS 0 rfl 5 (by decide) rfl q71 rfl (by decide +kernel) (Nat.le_of_ble_eq_true rfl) rfl dX1_fill_70 (fun H locs hS => ?_)
    refine lv_iload_n X.x X.b dX1_fill_73 rfl (lv_at hl 1 rfl) ?_
    exact z_iret X hS t (rfl) (⟨rfl, h1, h2⟩) [0, 1] rfl rfl dX1_fill_74
set_option maxHeartbeats 4000000 in
theorem lo_rep {p : Program} {l : Launch} {e : Env} {s : State} {m : MethodId} {args : Array Value} {below : List Frame} {meth : Method} {c : Code} {A : Nat → Prop} {G : z_G} {Q : State → Prop} (b0 bc bd bt bp bo : Nat) (n : Nat) (ln : Int32) (bk : Nat) (hn : n ≤ 16384) (t0 : Nat → Int8) (f ct : Nat) (hf : f < n) (hct : n + ct ≤ 16384) (X : z_X p s m args meth c yX1_repeat cX1_repeat 6 (some .int) G A) (K : ∀ (t : Nat → Int8), (∀ j, j < n → t j = t0 j) → (∀ j, j < ct → t (n + j) = t (f + j)) → ∀ (H : Heap) (locs : List Loc) (ls : Array Slot), z_S G [(b0, .inr (0, [.ref bc, .ref bd, .ref bt, .ref bp, .ref bo, .int (nI n), .int ln, .int (nI bk)])), (bt, z_B G 16384 t)] A s H locs → lv_has ls 6 [(0, .ref b0), (4, .int (nI ct))] → W p l e (z_rm 0 0 0 0) s m args below meth c H locs 0 0 Q (F0 m 93 ls [])) :
    ∀ (k : Nat) (i : Nat) (t : Nat → Int8), ct - i < k → i ≤ ct → (∀ j, j < n → t j = t0 j) → (∀ j, j < i → t (n + j) = t (f + j)) → ∀ (H : Heap) (locs : List Loc) (ls : Array Slot), z_S G [(b0, .inr (0, [.ref bc, .ref bd, .ref bt, .ref bp, .ref bo, .int (nI n), .int ln, .int (nI bk)])), (bt, z_B G 16384 t)] A s H locs → lv_has ls 6 [(0, .ref b0), (3, .int (nI f)), (4, .int (nI ct)), (5, .int (nI i))] → W p l e (z_rm 0 0 0 0) s m args below meth c H locs 0 0 Q (F0 m 59 ls []) := by
  intro k
  induction k with
  | zero =>
    intro i t hk
    exact absurd hk (Nat.not_lt_zero _)
  | succ k ih =>
    intro i t hk hi h1 h2 H locs ls hS hl
    refine lv_iload X.x X.b dX1_repeat_59 (lv_at hl 3 rfl) ?_
    refine lv_iload X.x X.b dX1_repeat_61 (lv_at hl 2 rfl) ?_
    refine z_icmp_ge (tgt := 93) X.x X.b dX1_repeat_63 (by decide) (by omega) (by omega) (fun c_1 => ?_) (fun c_1 => ?_)
    · exact K t (h1) (fun j hj => h2 j (by omega)) H _ ls hS (lv_sub hl [0, 2] rfl)
    · refine lv_aload_n X.x X.b dX1_repeat_66 rfl (lv_at hl 0 rfl) ?_
      refine z_get X rfl hS 0 rfl 2 (by decide) rfl q68 rfl dX1_repeat_67 ?_
      refine lv_aload_n X.x X.b dX1_repeat_70 rfl (lv_at hl 0 rfl) ?_
      refine z_get X rfl hS 0 rfl 5 (by decide) rfl q71 rfl dX1_repeat_71 ?_
      refine lv_iload X.x X.b dX1_repeat_74 (lv_at hl 3 rfl) ?_
      refine z_iadd X.x X.b dX1_repeat_76 ?_
      refine lv_aload_n X.x X.b dX1_repeat_77 rfl (lv_at hl 0 rfl) ?_
      refine z_get X rfl hS 0 rfl 2 (by decide) rfl q68 rfl dX1_repeat_78 ?_
      refine lv_iload_n X.x X.b dX1_repeat_81 rfl (lv_at hl 1 rfl) ?_
      refine lv_iload X.x X.b dX1_repeat_82 (lv_at hl 3 rfl) ?_
      refine z_iadd X.x X.b dX1_repeat_84 ?_
      refine z_bald X hS 1 rfl (i := (f + i)) (by omega) (by omega) dX1_repeat_85 ?_
      refine z_bast8 (ws' := [(b0, .inr (0, [.ref bc, .ref bd, .ref bt, .ref bp, .ref bo, .int (nI n), .int ln, .int (nI bk)])), (bt, z_B G 16384 (va_up t (n + i) (t (f + i))))]) X hS 1 rfl (i := (n + i)) (by omega) (by omega) rfl dX1_repeat_86 (fun H locs hS => ?_)
      refine z_iinc (d := 1) (lv' := [(5, .int (nI (i + 1))), (0, .ref b0), (3, .int (nI f)), (4, .int (nI ct))]) X.x X.b dX1_repeat_87 hl (k := 3) rfl (by decide) (by decide) rfl (fun ls hl => ?_)
      refine lv_goto (tgt := 59) X.x X.b dX1_repeat_90 (by decide) ?_
      exact ih (i + 1) (va_up t (n + i) (t (f + i))) (by omega) (by omega) (fun j hj => (z_upN t _ (by omega)).trans (h1 j hj)) (fun j hj => if q : j = i then (by subst q; rw [z_upS t _ rfl, z_upN t _ (by omega)]) else (by rw [z_upN t _ (by omega), z_upN t _ (by omega)]; exact h2 j (by omega))) H _ ls hS (lv_sub hl [1, 2, 3, 0] rfl)
theorem nm_m_rep : z_Nm yX1_repeat 2 := by decide +kernel
set_option maxHeartbeats 4000000 in
theorem m_rep (l : Launch) (G : z_G) (b0 bc bd bt bp bo : Nat) (n : Nat) (ln : Int32) (bk : Nat) (hn : n ≤ 16384) (hn0 : 0 < n) (t0 : Nat → Int8) (g x : Int32) : z_Mi l yX1_repeat cX1_repeat 6 .int (z_rm 0 0 0 0) 0 0 G z_E0 [.ref b0, .int g, .int x] [(b0, .inr (0, [.ref bc, .ref bd, .ref bt, .ref bp, .ref bo, .int (nI n), .int ln, .int (nI bk)])), (bt, z_B G 16384 t0)] (S := Nat → Int8) (fun r u => r = nI (z_k n x) ∧ (∀ j, j < n → u j = t0 j) ∧ ∀ j, j < z_k n x → u (n + j) = u (z_ab g % n + j)) (fun u => [(b0, .inr (0, [.ref bc, .ref bd, .ref bt, .ref bp, .ref bo, .int (nI (n + z_k n x)), .int ln, .int (nI bk)])), (bt, z_B G 16384 u)]) := by
  refine Mi.mk (by decide) (Nat.le_of_ble_eq_true rfl) ?_
  intro p e s m below meth c A ls X hE hS hl
  have hl : lv_has ls 6 [(0, .ref b0), (1, .int g), (2, .int x)] := hl
  have hx := z_ab_lt x
  have hg := z_ab_lt g
  have hk2 : z_k n x ≤ 16384 - n := Nat.min_le_right _ _
  have hm : z_ab g % n < n := Nat.mod_lt _ hn0
  refine lv_aload_n X.x X.b dX1_repeat_0 rfl (lv_at hl 0 rfl) ?_
  refine z_get X rfl hS 0 rfl 5 (by decide) rfl q71 rfl dX1_repeat_1 ?_
  refine z_if_ne (tgt := 9) X.x X.b dX1_repeat_4 (by decide) (by omega) (fun c_1 => ?_) (fun c_1 => by exfalso; omega)
  refine lv_iload_n X.x X.b dX1_repeat_9 rfl (lv_at hl 1 rfl) ?_
  refine z_ldc (v := 2147483647) X rfl q110 dX1_repeat_10 ?_
  refine lv_iand X.x X.b dX1_repeat_12 ?_
  refine z_top (y := (nI (z_ab g))) (z_andM _) ?_
  refine lv_aload_n X.x X.b dX1_repeat_13 rfl (lv_at hl 0 rfl) ?_
  refine z_get X rfl hS 0 rfl 5 (by decide) rfl q71 rfl dX1_repeat_14 ?_
  refine z_irem X.x X.b dX1_repeat_17 (by omega) (by omega) (by omega) ?_
  refine lv_istore_n (lv' := [(3, .int (nI ((z_ab g) % n))), (0, .ref b0), (1, .int g), (2, .int x)]) X.x X.b dX1_repeat_18 rfl hl (by decide) rfl (fun ls hl => ?_)
  refine lv_iload_n X.x X.b dX1_repeat_19 rfl (lv_at hl 3 rfl) ?_
  refine z_ldc (v := 2147483647) X rfl q110 dX1_repeat_20 ?_
  refine lv_iand X.x X.b dX1_repeat_22 ?_
  refine z_top (y := (nI (z_ab x))) (z_andM _) ?_
  refine lv_sipush (v := (nI 1025)) X.x X.b dX1_repeat_23 (by decide) ?_
  refine z_irem X.x X.b dX1_repeat_26 (by omega) (by omega) (by omega) ?_
  refine lv_istore (lv' := [(4, .int (nI ((z_ab x) % 1025))), (3, .int (nI ((z_ab g) % n))), (0, .ref b0), (1, .int g), (2, .int x)]) X.x X.b dX1_repeat_27 hl (by decide) rfl (fun ls hl => ?_)
  refine lv_iload X.x X.b dX1_repeat_29 (lv_at hl 0 rfl) ?_
  refine lv_aload_n X.x X.b dX1_repeat_31 rfl (lv_at hl 2 rfl) ?_
  refine z_get X rfl hS 0 rfl 2 (by decide) rfl q68 rfl dX1_repeat_32 ?_
  refine z_balen X hS 1 rfl dX1_repeat_35 ?_
  refine lv_aload_n X.x X.b dX1_repeat_36 rfl (lv_at hl 2 rfl) ?_
  refine z_get X rfl hS 0 rfl 5 (by decide) rfl q71 rfl dX1_repeat_37 ?_
  refine z_isub X.x X.b dX1_repeat_40 (by omega) ?_
  refine z_icmp_le (tgt := 56) X.x X.b dX1_repeat_41 (by decide) (by omega) (by omega) (fun c1 => ?_) (fun c1 => ?_)
  · have hl : lv_has ls 6 [(4, .int (nI (z_k n x))), (3, .int (nI ((z_ab g) % n))), (0, .ref b0), (1, .int g), (2, .int x)] := by have e : (z_ab x) % 1025 = z_k n x := (by unfold z_k; omega); rw [e] at hl; exact hl
    refine lv_iconst (v := (nI 0)) X.x X.b dX1_repeat_56 (by decide) ?_
    refine lv_istore (lv' := [(5, .int (nI 0)), (4, .int (nI (z_k n x))), (3, .int (nI ((z_ab g) % n))), (0, .ref b0), (1, .int g), (2, .int x)]) X.x X.b dX1_repeat_57 hl (by decide) rfl (fun ls hl => ?_)
    refine lo_rep b0 bc bd bt bp bo n ln bk hn t0 (z_ab g % n) (z_k n x) hm (by omega) X (fun t h1 h2 H locs ls hS hl => ?_) (z_k n x + 1) 0 t0 (by omega) (Nat.zero_le _) (fun _ _ => rfl) (fun j hj => absurd hj (Nat.not_lt_zero _)) _ _ ls hS (lv_sub hl [3, 2, 1, 0] rfl)
    refine lv_aload_n X.x X.b dX1_repeat_93 rfl (lv_at hl 0 rfl) ?_
    refine lv_dup X.x X.b dX1_repeat_94 rfl ?_
    refine z_get X rfl hS 0 rfl 5 (by decide) rfl q71 rfl dX1_repeat_95 ?_
    refine lv_iload X.x X.b dX1_repeat_98 (lv_at hl 1 rfl) ?_
    refine z_iadd X.x X.b dX1_repeat_100 ?_
    refine z_put (ws' := [(b0, .inr (0, [.ref bc, .ref bd, .ref bt, .ref bp, .ref bo, .int (nI (n + (z_k n x))), .int ln, .int (nI bk)])), (bt, z_B G 16384 t)]) X rfl hS 0 rfl 5 (by decide) rfl q71 rfl (by decide +kernel) (Nat.le_of_ble_eq_true rfl) rfl dX1_repeat_101 (fun H locs hS => ?_)
    refine lv_iload X.x X.b dX1_repeat_104 (lv_at hl 1 rfl) ?_
    exact z_iret X hS t (rfl) (⟨rfl, h1, h2⟩) [0, 1] rfl rfl dX1_repeat_106
  · refine lv_aload_n X.x X.b dX1_repeat_44 rfl (lv_at hl 2 rfl) ?_
    refine z_get X rfl hS 0 rfl 2 (by decide) rfl q68 rfl dX1_repeat_45 ?_
    refine z_balen X hS 1 rfl dX1_repeat_48 ?_
    refine lv_aload_n X.x X.b dX1_repeat_49 rfl (lv_at hl 2 rfl) ?_
    refine z_get X rfl hS 0 rfl 5 (by decide) rfl q71 rfl dX1_repeat_50 ?_
    refine z_isub X.x X.b dX1_repeat_53 (by omega) ?_
    refine lv_istore (lv' := [(4, .int (nI (16384 - n))), (3, .int (nI ((z_ab g) % n))), (0, .ref b0), (1, .int g), (2, .int x)]) X.x X.b dX1_repeat_54 hl (by decide) rfl (fun ls hl => ?_)
    have hl : lv_has ls 6 [(4, .int (nI (z_k n x))), (3, .int (nI ((z_ab g) % n))), (0, .ref b0), (1, .int g), (2, .int x)] := by have e : 16384 - n = z_k n x := (by unfold z_k; omega); rw [e] at hl; exact hl
    refine lv_iconst (v := (nI 0)) X.x X.b dX1_repeat_56 (by decide) ?_
    refine lv_istore (lv' := [(5, .int (nI 0)), (4, .int (nI (z_k n x))), (3, .int (nI ((z_ab g) % n))), (0, .ref b0), (1, .int g), (2, .int x)]) X.x X.b dX1_repeat_57 hl (by decide) rfl (fun ls hl => ?_)
    refine lo_rep b0 bc bd bt bp bo n ln bk hn t0 (z_ab g % n) (z_k n x) hm (by omega) X (fun t h1 h2 H locs ls hS hl => ?_) (z_k n x + 1) 0 t0 (by omega) (Nat.zero_le _) (fun _ _ => rfl) (fun j hj => absurd hj (Nat.not_lt_zero _)) _ _ ls hS (lv_sub hl [3, 2, 1, 0] rfl)
    refine lv_aload_n X.x X.b dX1_repeat_93 rfl (lv_at hl 0 rfl) ?_
    refine lv_dup X.x X.b dX1_repeat_94 rfl ?_
    refine z_get X rfl hS 0 rfl 5 (by decide) rfl q71 rfl dX1_repeat_95 ?_
    refine lv_iload X.x X.b dX1_repeat_98 (lv_at hl 1 rfl) ?_
    refine z_iadd X.x X.b dX1_repeat_100 ?_
    refine z_put (ws' := [(b0, .inr (0, [.ref bc, .ref bd, .ref bt, .ref bp, .ref bo, .int (nI (n + (z_k n x))), .int ln, .int (nI bk)])), (bt, z_B G 16384 t)]) X rfl hS 0 rfl 5 (by decide) rfl q71 rfl (by decide +kernel) (Nat.le_of_ble_eq_true rfl) rfl dX1_repeat_101 (fun H locs hS => ?_)
    refine lv_iload X.x X.b dX1_repeat_104 (lv_at hl 1 rfl) ?_
    exact z_iret X hS t (rfl) (⟨rfl, h1, h2⟩) [0, 1] rfl rfl dX1_repeat_106
theorem nm_m_rep0 : z_Nm yX1_repeat 2 := by decide +kernel
set_option maxHeartbeats 4000000 in
theorem m_rep0 (l : Launch) (G : z_G) (b0 bc bd bt bp bo : Nat) (ln : Int32) (bk : Nat) (g x : Int32) : z_Mi l yX1_repeat cX1_repeat 6 .int (z_rm 0 0 0 0) 0 0 G z_E0 [.ref b0, .int g, .int x] [(b0, .inr (0, [.ref bc, .ref bd, .ref bt, .ref bp, .ref bo, .int (nI 0), .int ln, .int (nI bk)]))] (S := Unit) (fun r _ => r = -1) (fun _ => [(b0, .inr (0, [.ref bc, .ref bd, .ref bt, .ref bp, .ref bo, .int (nI 0), .int ln, .int (nI bk)]))]) := by
  refine Mi.mk (by decide) (Nat.le_of_ble_eq_true rfl) ?_
  intro p e s m below meth c A ls X hE hS hl
  have hl : lv_has ls 6 [(0, .ref b0), (1, .int g), (2, .int x)] := hl
  refine lv_aload_n X.x X.b dX1_repeat_0 rfl (lv_at hl 0 rfl) ?_
  refine z_get X rfl hS 0 rfl 5 (by decide) rfl q71 rfl dX1_repeat_1 ?_
  refine z_if_ne (tgt := 9) X.x X.b dX1_repeat_4 (by decide) (by omega) (fun c_1 => by exfalso; omega) (fun c_1 => ?_)
  refine lv_iconst (v := (-1 : Int32)) X.x X.b dX1_repeat_7 (by decide) ?_
  exact z_iret X hS () (rfl) (rfl) [0] rfl rfl dX1_repeat_8
theorem nm_m_pack : z_Nm yX1_pack 0 := by decide +kernel
set_option maxHeartbeats 4000000 in
theorem m_pack (l : Launch) (G : z_G) (b0 bc bd bt bp bo : Nat) (n : Nat) (ln : Int32) (bk : Nat) (hn : n ≤ 16384) (t p0 : Nat → Int8) : z_Mi l yX1_pack cX1_pack 1 .boolean (z_rm 4 1 8192 190) 1 8192 G z_E2 [.ref b0] [(b0, .inr (0, [.ref bc, .ref bd, .ref bt, .ref bp, .ref bo, .int (nI n), .int ln, .int (nI bk)])), (bc, .inr (1, [])), (bt, z_B G 16384 t), (bp, z_B G 16464 p0)] (S := Nat × (Nat → Int8)) (fun r u => r = 1 ∧ u.1 ≤ 16464 ∧ z_ok u.2 t u.1 n) (fun u => [(b0, .inr (0, [.ref bc, .ref bd, .ref bt, .ref bp, .ref bo, .int (nI n), .int (nI u.1), .int (nI bk)])), (bc, .inr (1, [])), (bt, z_B G 16384 t), (bp, z_B G 16464 u.2)]) := by
  refine Mi.mk (by decide) (Nat.le_of_ble_eq_true rfl) ?_
  intro p e s m below meth c A ls X hE hS hl
  have hl : lv_has ls 1 [(0, .ref b0)] := hl
  refine lv_aload_n X.x X.b dX1_pack_0 rfl (lv_at hl 0 rfl) ?_
  refine lv_aload_n X.x X.b dX1_pack_1 rfl (lv_at hl 0 rfl) ?_
  refine z_get X rfl hS 0 rfl 0 (by decide) rfl q66 rfl dX1_pack_2 ?_
  refine lv_aload_n X.x X.b dX1_pack_5 rfl (lv_at hl 0 rfl) ?_
  refine z_get X rfl hS 0 rfl 2 (by decide) rfl q68 rfl dX1_pack_6 ?_
  refine lv_iconst (v := (nI 0)) X.x X.b dX1_pack_9 (by decide) ?_
  refine lv_aload_n X.x X.b dX1_pack_10 rfl (lv_at hl 0 rfl) ?_
  refine z_get X rfl hS 0 rfl 5 (by decide) rfl q71 rfl dX1_pack_11 ?_
  refine lv_aload_n X.x X.b dX1_pack_14 rfl (lv_at hl 0 rfl) ?_
  refine z_get X rfl hS 0 rfl 3 (by decide) rfl q69 rfl dX1_pack_15 ?_
  refine lv_iconst (v := (nI 0)) X.x X.b dX1_pack_18 (by decide) ?_
  refine lv_aload_n X.x X.b dX1_pack_19 rfl (lv_at hl 0 rfl) ?_
  refine z_get X rfl hS 0 rfl 3 (by decide) rfl q69 rfl dX1_pack_20 ?_
  refine z_balen X hS 3 rfl dX1_pack_23 ?_
  refine z_cUi (ci := 1) (q0 := 1) (wr := [(b0, .inr (0, [.ref bc, .ref bd, .ref bt, .ref bp, .ref bo, .int (nI n), .int ln, .int (nI bk)])), (bc, .inr (1, []))]) X rfl z_E1ok hE.1 hS (m_comp l G bc bt bp t p0 n hn) 6 q128 q130 q131 q132 q5 q133 hE.2.1 nmx_comp ⟨rfl, rfl⟩ ⟨Nat.le_of_ble_eq_true rfl, Nat.le_of_ble_eq_true rfl⟩ rfl rfl rfl [2, 3] [0, 1] ⟨rfl, rfl, rfl, rfl, by decide⟩ rfl hl.1 rfl (Nat.le_of_ble_eq_true rfl) ⟨Nat.le_of_ble_eq_true rfl, Nat.le_of_ble_eq_true rfl⟩ dX1_pack_24 (fun r_1 u H locs hp hS => ?_)
  have hS : z_S G [(b0, .inr (0, [.ref bc, .ref bd, .ref bt, .ref bp, .ref bo, .int (nI n), .int ln, .int (nI bk)])), (bc, .inr (1, [])), (bt, z_B G 16384 t), (bp, z_B G 16464 u)] A s H locs := hS
  obtain ⟨L, rfl, h1, h2, h3⟩ := hp
  refine z_put (ws' := [(b0, .inr (0, [.ref bc, .ref bd, .ref bt, .ref bp, .ref bo, .int (nI n), .int (nI L), .int (nI bk)])), (bc, .inr (1, [])), (bt, z_B G 16384 t), (bp, z_B G 16464 u)]) X rfl hS 0 rfl 6 (by decide) rfl q72 rfl (by decide +kernel) (Nat.le_of_ble_eq_true rfl) rfl dX1_pack_27 (fun H locs hS => ?_)
  refine lv_aload_n X.x X.b dX1_pack_30 rfl (lv_at hl 0 rfl) ?_
  refine z_get X rfl hS 0 rfl 6 (by decide) rfl q72 rfl dX1_pack_31 ?_
  refine lv_aload_n X.x X.b dX1_pack_34 rfl (lv_at hl 0 rfl) ?_
  refine z_get X rfl hS 0 rfl 5 (by decide) rfl q71 rfl dX1_pack_35 ?_
  refine lv_aload_n X.x X.b dX1_pack_38 rfl (lv_at hl 0 rfl) ?_
  refine z_get X rfl hS 0 rfl 5 (by decide) rfl q71 rfl dX1_pack_39 ?_
  refine lv_sipush (v := (nI 255)) X.x X.b dX1_pack_42 (by decide) ?_
  refine z_idiv X.x X.b dX1_pack_45 (by omega) (by omega) (by omega) ?_
  refine z_iadd X.x X.b dX1_pack_46 ?_
  refine lv_bipush (v := (nI 16)) X.x X.b dX1_pack_47 (by decide) ?_
  refine z_iadd X.x X.b dX1_pack_49 ?_
  refine z_icmp_gt (tgt := 57) X.x X.b dX1_pack_50 (by decide) (by omega) (by omega) (fun c_2 => by exfalso; omega) (fun c_2 => ?_)
  refine lv_iconst (v := (nI 1)) X.x X.b dX1_pack_53 (by decide) ?_
  refine lv_goto (tgt := 58) X.x X.b dX1_pack_54 (by decide) ?_
  exact z_iret X hS (L, u) (rfl) (⟨rfl, h2, h3⟩) [0, 1, 2, 3] rfl rfl dX1_pack_58
theorem nm_m_open0 : z_Nm yX1_open 0 := by decide +kernel
set_option maxHeartbeats 4000000 in
theorem m_open0 (l : Launch) (G : z_G) (b0 bc bd bt bp bo : Nat) (n : Nat) (bk : Nat) : z_Mi l yX1_open cX1_open 1 .int (z_rm 3 0 0 110) 0 0 G z_E0 [.ref b0] [(b0, .inr (0, [.ref bc, .ref bd, .ref bt, .ref bp, .ref bo, .int (nI n), .int (-1 : Int32), .int (nI bk)]))] (S := Unit) (fun r _ => r = -1) (fun _ => [(b0, .inr (0, [.ref bc, .ref bd, .ref bt, .ref bp, .ref bo, .int (nI n), .int (-1 : Int32), .int (nI bk)]))]) := by
  refine Mi.mk (by decide) (Nat.le_of_ble_eq_true rfl) ?_
  intro p e s m below meth c A ls X hE hS hl
  have hl : lv_has ls 1 [(0, .ref b0)] := hl
  refine lv_aload_n X.x X.b dX1_open_0 rfl (lv_at hl 0 rfl) ?_
  refine z_get X rfl hS 0 rfl 6 (by decide) rfl q72 rfl dX1_open_1 ?_
  refine lv_if_ge (tgt := 9) X.x X.b dX1_open_4 (by decide) (fun c1 => absurd c1 (by decide)) (fun _ => ?_)
  refine lv_iconst (v := (-1 : Int32)) X.x X.b dX1_open_7 (by decide) ?_
  exact z_iret X hS () (rfl) (rfl) [0] rfl rfl dX1_open_8
theorem nm_m_open : z_Nm yX1_open 0 := by decide +kernel
set_option maxHeartbeats 4000000 in
theorem m_open (l : Launch) (G : z_G) (b0 bc bd bt bp bo : Nat) (n : Nat) (bk : Nat) (hn : n ≤ 16384) (pk t o0 : Nat → Int8) (L n1 : Nat) (hok : z_ok pk t L n1) (hn1 : n1 ≤ 16384) (hL : L ≤ 16464) : z_Mi l yX1_open cX1_open 1 .int (z_rm 3 0 0 110) 0 0 G z_E2 [.ref b0] [(b0, .inr (0, [.ref bc, .ref bd, .ref bt, .ref bp, .ref bo, .int (nI n), .int (nI L), .int (nI bk)])), (bd, .inr (2, [])), (bp, z_B G 16464 pk), (bo, z_B G 16384 o0)] (S := Nat → Int8) (fun r u => r = nI n1 ∧ ∀ j, j < n1 → u j = t j) (fun u => [(b0, .inr (0, [.ref bc, .ref bd, .ref bt, .ref bp, .ref bo, .int (nI n), .int (nI L), .int (nI n1)])), (bd, .inr (2, [])), (bp, z_B G 16464 pk), (bo, z_B G 16384 u)]) := by
  refine Mi.mk (by decide) (Nat.le_of_ble_eq_true rfl) ?_
  intro p e s m below meth c A ls X hE hS hl
  have hl : lv_has ls 1 [(0, .ref b0)] := hl
  refine lv_aload_n X.x X.b dX1_open_0 rfl (lv_at hl 0 rfl) ?_
  refine z_get X rfl hS 0 rfl 6 (by decide) rfl q72 rfl dX1_open_1 ?_
  refine z_if_ge (tgt := 9) X.x X.b dX1_open_4 (by decide) (by omega) ?_
  refine lv_aload_n X.x X.b dX1_open_9 rfl (lv_at hl 0 rfl) ?_
  refine lv_aload_n X.x X.b dX1_open_10 rfl (lv_at hl 0 rfl) ?_
  refine z_get X rfl hS 0 rfl 1 (by decide) rfl q67 rfl dX1_open_11 ?_
  refine lv_aload_n X.x X.b dX1_open_14 rfl (lv_at hl 0 rfl) ?_
  refine z_get X rfl hS 0 rfl 3 (by decide) rfl q69 rfl dX1_open_15 ?_
  refine lv_iconst (v := (nI 0)) X.x X.b dX1_open_18 (by decide) ?_
  refine lv_aload_n X.x X.b dX1_open_19 rfl (lv_at hl 0 rfl) ?_
  refine z_get X rfl hS 0 rfl 6 (by decide) rfl q72 rfl dX1_open_20 ?_
  refine lv_aload_n X.x X.b dX1_open_23 rfl (lv_at hl 0 rfl) ?_
  refine z_get X rfl hS 0 rfl 4 (by decide) rfl q70 rfl dX1_open_24 ?_
  refine lv_iconst (v := (nI 0)) X.x X.b dX1_open_27 (by decide) ?_
  refine lv_aload_n X.x X.b dX1_open_28 rfl (lv_at hl 0 rfl) ?_
  refine z_get X rfl hS 0 rfl 4 (by decide) rfl q70 rfl dX1_open_29 ?_
  refine z_balen X hS 3 rfl dX1_open_32 ?_
  refine z_cUi (ci := 2) (q0 := 1) (wr := [(b0, .inr (0, [.ref bc, .ref bd, .ref bt, .ref bp, .ref bo, .int (nI n), .int (nI L), .int (nI bk)])), (bd, .inr (2, []))]) X rfl z_E0ok trivial hS (m_dec l G bd bp bo pk t o0 L n1 hok hn1 hL) 6 q355 q357 q358 q359 q7 q360 hE.2.2 nmx_dec ⟨rfl, rfl⟩ ⟨Nat.le_of_ble_eq_true rfl, Nat.le_of_ble_eq_true rfl⟩ rfl rfl rfl [2, 3] [0, 1] ⟨rfl, rfl, rfl, rfl, by decide⟩ rfl hl.1 rfl (Nat.le_of_ble_eq_true rfl) ⟨Nat.le_of_ble_eq_true rfl, Nat.le_of_ble_eq_true rfl⟩ dX1_open_33 (fun r_2 u H locs hp hS => ?_)
  have hS : z_S G [(b0, .inr (0, [.ref bc, .ref bd, .ref bt, .ref bp, .ref bo, .int (nI n), .int (nI L), .int (nI bk)])), (bd, .inr (2, [])), (bp, z_B G 16464 pk), (bo, z_B G 16384 u)] A s H locs := hS
  obtain ⟨rfl, h1⟩ := hp
  refine z_put (ws' := [(b0, .inr (0, [.ref bc, .ref bd, .ref bt, .ref bp, .ref bo, .int (nI n), .int (nI L), .int (nI n1)])), (bd, .inr (2, [])), (bp, z_B G 16464 pk), (bo, z_B G 16384 u)]) X rfl hS 0 rfl 7 (by decide) rfl q73 rfl (by decide +kernel) (Nat.le_of_ble_eq_true rfl) rfl dX1_open_36 (fun H locs hS => ?_)
  refine lv_aload_n X.x X.b dX1_open_39 rfl (lv_at hl 0 rfl) ?_
  refine z_get X rfl hS 0 rfl 7 (by decide) rfl q73 rfl dX1_open_40 ?_
  exact z_iret X hS u (rfl) (⟨rfl, h1⟩) [0, 1, 2, 3] rfl rfl dX1_open_43
theorem nm_m_opened : z_Nm yX1_opened 1 := by decide +kernel
set_option maxHeartbeats 4000000 in
theorem m_opened (l : Launch) (G : z_G) (b0 bc bd bt bp bo : Nat) (n : Nat) (ln : Int32) (bk : Nat) (hn : n ≤ 16384) (hb0 : 0 < bk) (hb : bk ≤ 16384) (o : Nat → Int8) (x : Int32) : z_Mi l yX1_opened cX1_opened 2 .int (z_rm 0 0 0 0) 0 0 G z_E0 [.ref b0, .int x] [(b0, .inr (0, [.ref bc, .ref bd, .ref bt, .ref bp, .ref bo, .int (nI n), .int ln, .int (nI bk)])), (bo, z_B G 16384 o)] (S := Unit) (fun r _ => r = nI (z_ub (o (z_ab x % bk)))) (fun _ => [(b0, .inr (0, [.ref bc, .ref bd, .ref bt, .ref bp, .ref bo, .int (nI n), .int ln, .int (nI bk)])), (bo, z_B G 16384 o)]) := by
  refine Mi.mk (by decide) (Nat.le_of_ble_eq_true rfl) ?_
  intro p e s m below meth c A ls X hE hS hl
  have hl : lv_has ls 2 [(0, .ref b0), (1, .int x)] := hl
  have hx := z_ab_lt x
  have hm : z_ab x % bk < bk := Nat.mod_lt _ hb0
  refine lv_aload_n X.x X.b dX1_opened_0 rfl (lv_at hl 0 rfl) ?_
  refine z_get X rfl hS 0 rfl 7 (by decide) rfl q73 rfl dX1_opened_1 ?_
  refine z_if_ne (tgt := 11) X.x X.b dX1_opened_4 (by decide) (by omega) (fun c_1 => ?_) (fun c_1 => by exfalso; omega)
  refine lv_aload_n X.x X.b dX1_opened_11 rfl (lv_at hl 0 rfl) ?_
  refine z_get X rfl hS 0 rfl 4 (by decide) rfl q70 rfl dX1_opened_12 ?_
  refine lv_iload_n X.x X.b dX1_opened_15 rfl (lv_at hl 1 rfl) ?_
  refine z_ldc (v := 2147483647) X rfl q110 dX1_opened_16 ?_
  refine lv_iand X.x X.b dX1_opened_18 ?_
  refine z_top (y := (nI (z_ab x))) (z_andM _) ?_
  refine lv_aload_n X.x X.b dX1_opened_19 rfl (lv_at hl 0 rfl) ?_
  refine z_get X rfl hS 0 rfl 7 (by decide) rfl q73 rfl dX1_opened_20 ?_
  refine z_irem X.x X.b dX1_opened_23 (by omega) (by omega) (by omega) ?_
  refine z_bald X hS 1 rfl (i := ((z_ab x) % bk)) (by omega) (by omega) dX1_opened_24 ?_
  refine lv_sipush (v := (nI 255)) X.x X.b dX1_opened_25 (by decide) ?_
  refine lv_iand X.x X.b dX1_opened_28 ?_
  refine z_top (y := (nI (z_ub (o ((z_ab x) % bk))))) (z_and255 _) ?_
  exact z_iret X hS () (rfl) (rfl) [0, 1] rfl rfl dX1_opened_29
theorem nm_m_opened0 : z_Nm yX1_opened 1 := by decide +kernel
set_option maxHeartbeats 4000000 in
theorem m_opened0 (l : Launch) (G : z_G) (b0 bc bd bt bp bo : Nat) (n : Nat) (ln : Int32) (x : Int32) : z_Mi l yX1_opened cX1_opened 2 .int (z_rm 0 0 0 0) 0 0 G z_E0 [.ref b0, .int x] [(b0, .inr (0, [.ref bc, .ref bd, .ref bt, .ref bp, .ref bo, .int (nI n), .int ln, .int (nI 0)]))] (S := Unit) (fun r _ => r = -1) (fun _ => [(b0, .inr (0, [.ref bc, .ref bd, .ref bt, .ref bp, .ref bo, .int (nI n), .int ln, .int (nI 0)]))]) := by
  refine Mi.mk (by decide) (Nat.le_of_ble_eq_true rfl) ?_
  intro p e s m below meth c A ls X hE hS hl
  have hl : lv_has ls 2 [(0, .ref b0), (1, .int x)] := hl
  refine lv_aload_n X.x X.b dX1_opened_0 rfl (lv_at hl 0 rfl) ?_
  refine z_get X rfl hS 0 rfl 7 (by decide) rfl q73 rfl dX1_opened_1 ?_
  refine z_if_ne (tgt := 11) X.x X.b dX1_opened_4 (by decide) (by omega) (fun c_1 => by exfalso; omega) (fun c_1 => ?_)
  refine lv_iconst (v := (-1 : Int32)) X.x X.b dX1_opened_7 (by decide) ?_
  refine lv_goto (tgt := 29) X.x X.b dX1_opened_8 (by decide) ?_
  exact z_iret X hS () (rfl) (rfl) [0] rfl rfl dX1_opened_29
end
section
/-! BlockPackerLaw: word, cell, used, trip, elder (printed by gen/g16.py) -/
set_option maxRecDepth 100000
theorem z_abN {i : Nat} (h : i < 2 ^ 31) : z_ab (nI i) = i := by
  unfold z_ab
  rw [pk_tn (by omega)]
  omega
theorem z_ub_of (x : Int32) : z_ub x.toInt8 = x.toBitVec.toNat % 256 := by
  have h : z_ub x.toInt8 = (x.toBitVec.signExtend 8).toNat := rfl
  rw [h, BitVec.toNat_signExtend, BitVec.toNat_setWidth]
  have hlt : x.toBitVec.toNat < 2 ^ 32 := x.toBitVec.isLt
  split <;> omega
theorem z_and255x (x : Int32) : x &&& nI 255 = nI (z_ub x.toInt8) := by rw [z_ub_of]; exact pk_and x 8 (by decide)
theorem z_w4_lo {t : Nat → Int8} {i j : Nat} {w : Int32} (h : j < i) : z_w4 t i w j = t j := by
  unfold z_w4
  rw [z_upN _ _ (by omega), z_upN _ _ (by omega), z_upN _ _ (by omega), z_upN _ _ (by omega)]
theorem z_w4_c {t t' : Nat → Int8} {i : Nat} {w : Int32} (h : ∀ j, j < i → t j = t' j) : ∀ j, j < i + 4 → z_w4 t i w j = z_w4 t' i w j := by
  intro j hj
  unfold z_w4 va_up
  split
  · rfl
  split
  · rfl
  split
  · rfl
  split
  · rfl
  exact h j (by omega)
/-- the law's own text keeps step with the packer's -/
theorem z_w16_c {t t' : Nat → Int8} {n i1 i2 i3 : Nat} {a b c d : Int32} (h1 : i1 = n + 4) (h2 : i2 = n + 8) (h3 : i3 = n + 12) (h : ∀ j, j < n → t j = t' j) : ∀ j, j < n + 16 → z_w4 (z_w4 (z_w4 (z_w4 t n a) i1 b) i2 c) i3 d j = z_w16 t' n a b c d j := by
  subst h1; subst h2; subst h3
  intro j hj
  unfold z_w16
  exact z_w4_c (z_w4_c (z_w4_c (z_w4_c h))) j (by omega)
theorem z_fill_c {t t' t0 t0' : Nat → Int8} {n k : Nat} {v : Int8} (h : ∀ j, j < n → t0 j = t0' j) (h1 : ∀ j, j < n → t j = t0 j) (h2 : ∀ j, j < k → t (n + j) = v) (h3 : ∀ j, j < n → t' j = t0' j) (h4 : ∀ j, j < k → t' (n + j) = v) : ∀ j, j < n + k → t j = t' j := by
  intro j hj
  by_cases q : j < n
  · rw [h1 j q, h3 j q, h j q]
  · have e := h2 (j - n) (by omega)
    have e' := h4 (j - n) (by omega)
    rw [show n + (j - n) = j by omega] at e e'
    rw [e, e']
theorem z_rep_c {t t' t0 t0' : Nat → Int8} {n k f : Nat} (hf : f < n) (h : ∀ j, j < n → t0 j = t0' j) (h1 : ∀ j, j < n → t j = t0 j) (h2 : ∀ j, j < k → t (n + j) = t (f + j)) (h3 : ∀ j, j < n → t' j = t0' j) (h4 : ∀ j, j < k → t' (n + j) = t' (f + j)) : ∀ j, j < n + k → t j = t' j := by
  intro j
  induction j using Nat.strongRecOn with
  | ind j ih =>
    intro hj
    by_cases q : j < n
    · rw [h1 j q, h3 j q, h j q]
    · have e := h2 (j - n) (by omega)
      have e' := h4 (j - n) (by omega)
      rw [show n + (j - n) = j by omega] at e e'
      rw [e, e']
      exact ih _ (by omega) (by omega)
theorem z_mod_self {i n : Nat} (h : i < n) (hn : n ≤ 16384) : z_ab (nI i) % n = i := by rw [z_abN (by omega), Nat.mod_eq_of_lt h]
theorem nm_m_lword : z_Nm yX0_word 3 := by decide +kernel
set_option maxHeartbeats 4000000 in
theorem m_lword (l : Launch) (G : z_G) (x0 n : Nat) (t : Nat → Int8) (i : Nat) (w : Int32) (hi : i + 3 < n) (hn : n < 2 ^ 31) : z_Mi l yX0_word cX0_word 3 .int (z_rm 0 0 0 0) 0 0 G z_E0 [.ref x0, .int (nI i), .int w] [(x0, z_B G n t)] (S := Nat → Int8) (fun r u => r = nI (i + 4) ∧ u = z_w4 t i w) (fun u => [(x0, z_B G n u)]) := by
  refine Mi.mk (by decide) (Nat.le_of_ble_eq_true rfl) ?_
  intro p e s m below meth c A ls X hE hS hl
  have hl : lv_has ls 3 [(0, .ref x0), (1, .int (nI i)), (2, .int w)] := hl
  refine lv_aload_n X.x X.b dX0_word_0 rfl (lv_at hl 0 rfl) ?_
  refine lv_iload_n X.x X.b dX0_word_1 rfl (lv_at hl 1 rfl) ?_
  refine lv_iload_n X.x X.b dX0_word_2 rfl (lv_at hl 2 rfl) ?_
  refine lv_bipush (v := (nI 24)) X.x X.b dX0_word_3 (by decide) ?_
  refine lv_ishr X.x X.b dX0_word_5 ?_
  refine lv_i2b X.x X.b dX0_word_6 rfl ?_
  refine z_bast8 (ws' := [(x0, z_B G n (va_up t i ((w >>> ((nI 24) &&& 31)).toInt8)))]) X hS 0 rfl (i := i) (by omega) (by omega) rfl dX0_word_7 (fun H locs hS => ?_)
  refine lv_aload_n X.x X.b dX0_word_8 rfl (lv_at hl 0 rfl) ?_
  refine lv_iload_n X.x X.b dX0_word_9 rfl (lv_at hl 1 rfl) ?_
  refine lv_iconst (v := (nI 1)) X.x X.b dX0_word_10 (by decide) ?_
  refine z_iadd X.x X.b dX0_word_11 ?_
  refine lv_iload_n X.x X.b dX0_word_12 rfl (lv_at hl 2 rfl) ?_
  refine lv_bipush (v := (nI 16)) X.x X.b dX0_word_13 (by decide) ?_
  refine lv_ishr X.x X.b dX0_word_15 ?_
  refine lv_i2b X.x X.b dX0_word_16 rfl ?_
  refine z_bast8 (ws' := [(x0, z_B G n (va_up (va_up t i ((w >>> ((nI 24) &&& 31)).toInt8)) (i + 1) ((w >>> ((nI 16) &&& 31)).toInt8)))]) X hS 0 rfl (i := (i + 1)) (by omega) (by omega) rfl dX0_word_17 (fun H locs hS => ?_)
  refine lv_aload_n X.x X.b dX0_word_18 rfl (lv_at hl 0 rfl) ?_
  refine lv_iload_n X.x X.b dX0_word_19 rfl (lv_at hl 1 rfl) ?_
  refine lv_iconst (v := (nI 2)) X.x X.b dX0_word_20 (by decide) ?_
  refine z_iadd X.x X.b dX0_word_21 ?_
  refine lv_iload_n X.x X.b dX0_word_22 rfl (lv_at hl 2 rfl) ?_
  refine lv_bipush (v := (nI 8)) X.x X.b dX0_word_23 (by decide) ?_
  refine lv_ishr X.x X.b dX0_word_25 ?_
  refine lv_i2b X.x X.b dX0_word_26 rfl ?_
  refine z_bast8 (ws' := [(x0, z_B G n (va_up (va_up (va_up t i ((w >>> ((nI 24) &&& 31)).toInt8)) (i + 1) ((w >>> ((nI 16) &&& 31)).toInt8)) (i + 2) ((w >>> ((nI 8) &&& 31)).toInt8)))]) X hS 0 rfl (i := (i + 2)) (by omega) (by omega) rfl dX0_word_27 (fun H locs hS => ?_)
  refine lv_aload_n X.x X.b dX0_word_28 rfl (lv_at hl 0 rfl) ?_
  refine lv_iload_n X.x X.b dX0_word_29 rfl (lv_at hl 1 rfl) ?_
  refine lv_iconst (v := (nI 3)) X.x X.b dX0_word_30 (by decide) ?_
  refine z_iadd X.x X.b dX0_word_31 ?_
  refine lv_iload_n X.x X.b dX0_word_32 rfl (lv_at hl 2 rfl) ?_
  refine lv_i2b X.x X.b dX0_word_33 rfl ?_
  refine z_bast8 (ws' := [(x0, z_B G n (va_up (va_up (va_up (va_up t i ((w >>> ((nI 24) &&& 31)).toInt8)) (i + 1) ((w >>> ((nI 16) &&& 31)).toInt8)) (i + 2) ((w >>> ((nI 8) &&& 31)).toInt8)) (i + 3) w.toInt8))]) X hS 0 rfl (i := (i + 3)) (by omega) (by omega) rfl dX0_word_34 (fun H locs hS => ?_)
  refine lv_iload_n X.x X.b dX0_word_35 rfl (lv_at hl 1 rfl) ?_
  refine lv_iconst (v := (nI 4)) X.x X.b dX0_word_36 (by decide) ?_
  refine z_iadd X.x X.b dX0_word_37 ?_
  exact z_iret X hS _ (rfl) (⟨rfl, rfl⟩) [0] rfl rfl dX0_word_38
theorem nm_m_cell : z_Nm yX0_cell 2 := by decide +kernel
set_option maxHeartbeats 4000000 in
theorem m_cell (l : Launch) (G : z_G) (b Ls : Nat) (xs : Nat → Int32) (hLs : Ls ≤ 96) (k : Nat) (hk : k < 96) : z_Mi l yX0_cell cX0_cell 2 .int (z_rm 0 0 0 0) 0 0 G (z_E3 b Ls xs) [.ref b, .int (nI k)] [] (S := Unit) (fun _ _ => True) (fun _ => []) := by
  refine Mi.mk (by decide) (Nat.le_of_ble_eq_true rfl) ?_
  intro p e s m below meth c A ls X hE hS hl
  have hl : lv_has ls 2 [(0, .ref b), (1, .int (nI k))] := hl
  refine lv_iload_n X.x X.b dX0_cell_0 rfl (lv_at hl 1 rfl) ?_
  refine lv_aload_n X.x X.b dX0_cell_1 rfl (lv_at hl 0 rfl) ?_
  refine z_slen X hE hS dX0_cell_2 ?_
  refine z_icmp_ge (tgt := 12) X.x X.b dX0_cell_3 (by decide) (by omega) (by omega) (fun c_1 => ?_) (fun c_1 => ?_)
  · refine lv_iconst (v := (nI 0)) X.x X.b dX0_cell_12 (by decide) ?_
    exact z_iret X hS () (rfl) (trivial) [] rfl rfl dX0_cell_13
  · refine lv_aload_n X.x X.b dX0_cell_6 rfl (lv_at hl 0 rfl) ?_
    refine lv_iload_n X.x X.b dX0_cell_7 rfl (lv_at hl 1 rfl) ?_
    refine z_sld X hE hS (i := k) (by omega) (by omega) dX0_cell_8 ?_
    refine lv_goto (tgt := 13) X.x X.b dX0_cell_9 (by decide) ?_
    exact z_iret X hS () (rfl) (trivial) [] rfl rfl dX0_cell_13
set_option maxHeartbeats 4000000 in
theorem lo_used {p : Program} {l : Launch} {e : Env} {s : State} {m : MethodId} {args : Array Value} {below : List Frame} {meth : Method} {c : Code} {A : Nat → Prop} {G : z_G} {Q : State → Prop} (b0 bc bd bt bp bo : Nat) (X : z_X p s m args meth c yX0_used cX0_used 2 (some (.object "BlockPacker")) G A) (K : ∀ (n : Nat) (t : Nat → Int8), n ≤ 16384 → ∀ (H : Heap) (locs : List Loc) (ls : Array Slot), z_S G [(b0, .inr (0, [.ref bc, .ref bd, .ref bt, .ref bp, .ref bo, .int (nI n), .int (-1 : Int32), .int (nI 0)])), (bc, .inr (1, [])), (bd, .inr (2, [])), (bt, z_B G 16384 t), (bp, z_B G 16464 (fun _ => 0)), (bo, z_B G 16384 (fun _ => 0))] A s H locs → lv_has ls 2 [(0, .ref b0)] → W p l e (z_rm 5 7 57432 220) s m args below meth c H locs 6 49240 Q (F0 m 31 ls [])) :
    ∀ (k : Nat) (i : Nat) (n : Nat) (t : Nat → Int8), 16 - i < k → i ≤ 16 → n ≤ 16384 → ∀ (H : Heap) (locs : List Loc) (ls : Array Slot), z_S G [(b0, .inr (0, [.ref bc, .ref bd, .ref bt, .ref bp, .ref bo, .int (nI n), .int (-1 : Int32), .int (nI 0)])), (bc, .inr (1, [])), (bd, .inr (2, [])), (bt, z_B G 16384 t), (bp, z_B G 16464 (fun _ => 0)), (bo, z_B G 16384 (fun _ => 0))] A s H locs → lv_has ls 2 [(0, .ref b0), (1, .int (nI i))] → W p l e (z_rm 5 7 57432 220) s m args below meth c H locs 6 49240 Q (F0 m 10 ls []) := by
  intro k
  induction k with
  | zero =>
    intro i n t hk
    exact absurd hk (Nat.not_lt_zero _)
  | succ k ih =>
    intro i n t hk hi hn H locs ls hS hl
    refine lv_iload_n X.x X.b dX0_used_10 rfl (lv_at hl 1 rfl) ?_
    refine lv_bipush (v := (nI 16)) X.x X.b dX0_used_11 (by decide) ?_
    refine z_icmp_ge (tgt := 31) X.x X.b dX0_used_13 (by decide) (by omega) (by omega) (fun c_1 => ?_) (fun c_1 => ?_)
    · exact K n t (hn) H _ ls hS (lv_sub hl [0] rfl)
    · refine lv_aload_n X.x X.b dX0_used_16 rfl (lv_at hl 0 rfl) ?_
      refine lv_iconst (v := (-1 : Int32)) X.x X.b dX0_used_17 (by decide) ?_
      refine lv_sipush (v := (nI 1024)) X.x X.b dX0_used_18 (by decide) ?_
      refine z_cVi (ci := 0) (q0 := 0) (wr := [(bc, .inr (1, [])), (bd, .inr (2, [])), (bp, z_B G 16464 (fun _ => 0)), (bo, z_B G 16384 (fun _ => 0))]) X rfl z_E0ok trivial hS (m_fill l G b0 bc bd bt bp bo n (-1 : Int32) 0 (by omega) t (-1 : Int32) (nI 1024)) 2 q112 q113 q114 q3 q115 nm_m_fill ⟨rfl, rfl⟩ ⟨Nat.le_of_ble_eq_true rfl, Nat.le_of_ble_eq_true rfl⟩ rfl rfl rfl [0, 3] [1, 2, 4, 5] ⟨rfl, rfl, rfl, rfl, by decide⟩ rfl hl.1 rfl (Nat.le_of_ble_eq_true rfl) ⟨Nat.le_of_ble_eq_true rfl, Nat.le_of_ble_eq_true rfl⟩ dX0_used_21 (fun r_2 u H locs hp hS => ?_)
      have hS : z_S G [(bc, .inr (1, [])), (bd, .inr (2, [])), (bp, z_B G 16464 (fun _ => 0)), (bo, z_B G 16384 (fun _ => 0)), (b0, .inr (0, [.ref bc, .ref bd, .ref bt, .ref bp, .ref bo, .int (nI (n + z_k n (nI 1024))), .int (-1 : Int32), .int (nI 0)])), (bt, z_B G 16384 u)] A s H locs := hS
      obtain ⟨rfl, -, -⟩ := hp
      have hS := hS.sub (ws' := [(b0, .inr (0, [.ref bc, .ref bd, .ref bt, .ref bp, .ref bo, .int (nI (n + z_k n (nI 1024))), .int (-1 : Int32), .int (nI 0)])), (bc, .inr (1, [])), (bd, .inr (2, [])), (bt, z_B G 16384 u), (bp, z_B G 16464 (fun _ => 0)), (bo, z_B G 16384 (fun _ => 0))]) [4, 0, 1, 5, 2, 3] rfl rfl
      refine lv_pop X.x X.b dX0_used_24 rfl ?_
      refine z_iinc (d := 1) (lv' := [(1, .int (nI (i + 1))), (0, .ref b0)]) X.x X.b dX0_used_25 hl (k := 1) rfl (by decide) (by decide) rfl (fun ls hl => ?_)
      refine lv_goto (tgt := 10) X.x X.b dX0_used_28 (by decide) ?_
      have hk2 : z_k n (nI 1024) ≤ 16384 - n := Nat.min_le_right _ _
      exact ih (i + 1) (n + z_k n (nI 1024)) u (by omega) (by omega) (by omega) H _ ls hS (lv_sub hl [1, 0] rfl)
theorem nm_m_used : z_Nm yX0_used 0 := by decide +kernel
set_option maxHeartbeats 4000000 in
theorem m_used (l : Launch) (G : z_G) : z_Mr l yX0_used cX0_used 2 (.object "BlockPacker") (z_rm 5 7 57432 220) 7 57432 G z_E2 [] [] (S := (Nat × Nat × Nat × Nat × Nat) × (Int32 × Nat) × (Nat → Int8) × (Nat → Int8) × (Nat → Int8)) (fun _ => True) (fun u q => [(q, .inr (0, [.ref u.1.1, .ref u.1.2.1, .ref u.1.2.2.1, .ref u.1.2.2.2.1, .ref u.1.2.2.2.2, .int (nI 0), .int u.2.1.1, .int (nI u.2.1.2)])), (u.1.1, .inr (1, [])), (u.1.2.1, .inr (2, [])), (u.1.2.2.1, z_B G 16384 u.2.2.1), (u.1.2.2.2.1, z_B G 16464 u.2.2.2.1), (u.1.2.2.2.2, z_B G 16384 u.2.2.2.2)]) := by
  refine Mr.mk (by decide) (Nat.le_of_ble_eq_true rfl) ?_
  intro p e s m below meth c A ls X hE hS hl
  have hl : lv_has ls 2 [] := hl
  refine z_newo (ci := 0) (fs := [.null, .null, .null, .null, .null, .int (nI 0), .int (nI 0), .int (nI 0)]) X rfl in_X1 tyX1 tyX1_ok q38 q39 q3 hS rfl (fun j hj => z_def j hj) (Nat.le_of_ble_eq_true rfl) (Nat.le_of_ble_eq_true rfl) dX0_used_0 (fun q_1 H hS => ?_)
  have hS : z_S G [(q_1, .inr (0, [.null, .null, .null, .null, .null, .int (nI 0), .int (nI 0), .int (nI 0)]))] A s H _ := hS
  refine lv_dup X.x X.b dX0_used_3 rfl ?_
  refine z_cIv (wr := []) X rfl z_E0ok trivial hS (m_new l G q_1) 0 q40 q41 q3 q42 rfl nm_m_new ⟨rfl, rfl⟩ ⟨Nat.le_of_ble_eq_true rfl, Nat.le_of_ble_eq_true rfl⟩ [0] [] ⟨rfl, rfl, rfl, rfl, by decide⟩ rfl hl.1 rfl (Nat.le_of_ble_eq_true rfl) ⟨Nat.le_of_ble_eq_true rfl, Nat.le_of_ble_eq_true rfl⟩ dX0_used_4 (fun u_3 H locs hp hS => ?_)
  have hS : z_S G [(q_1, .inr (0, [.ref u_3.1, .ref u_3.2.1, .ref u_3.2.2.1, .ref u_3.2.2.2.1, .ref u_3.2.2.2.2, .int (nI 0), .int (-1 : Int32), .int (nI 0)])), (u_3.1, .inr (1, [])), (u_3.2.1, .inr (2, [])), (u_3.2.2.1, z_B G 16384 (fun _ => 0)), (u_3.2.2.2.1, z_B G 16464 (fun _ => 0)), (u_3.2.2.2.2, z_B G 16384 (fun _ => 0))] A s H locs := hS
  obtain ⟨bc, bd, bt, bp, bo⟩ := u_3
  have hS : z_S G [(q_1, .inr (0, [.ref bc, .ref bd, .ref bt, .ref bp, .ref bo, .int (nI 0), .int (-1 : Int32), .int (nI 0)])), (bc, .inr (1, [])), (bd, .inr (2, [])), (bt, z_B G 16384 (fun _ => 0)), (bp, z_B G 16464 (fun _ => 0)), (bo, z_B G 16384 (fun _ => 0))] A s H locs := hS
  refine lv_astore_n (lv' := [(0, .ref q_1)]) X.x X.b dX0_used_7 rfl hl (by decide) rfl (fun ls hl => ?_)
  refine lv_iconst (v := (nI 0)) X.x X.b dX0_used_8 (by decide) ?_
  refine lv_istore_n (lv' := [(1, .int (nI 0)), (0, .ref q_1)]) X.x X.b dX0_used_9 rfl hl (by decide) rfl (fun ls hl => ?_)
  refine lo_used q_1 bc bd bt bp bo X (fun n t hn H locs ls hS hl => ?_) 17 0 0 (fun _ => 0) (by omega) (by omega) (by omega) H _ ls hS (lv_sub hl [1, 0] rfl)
  refine lv_aload_n X.x X.b dX0_used_31 rfl (lv_at hl 0 rfl) ?_
  refine z_cVi (ci := 0) (q0 := 0) (wr := [(bd, .inr (2, [])), (bo, z_B G 16384 (fun _ => 0))]) X rfl z_E2ok hE hS (m_pack l G q_1 bc bd bt bp bo n (-1 : Int32) 0 (by omega) t (fun _ => 0)) 0 q124 q125 q126 q3 q127 nm_m_pack ⟨rfl, rfl⟩ ⟨Nat.le_of_ble_eq_true rfl, Nat.le_of_ble_eq_true rfl⟩ rfl rfl rfl [0, 1, 3, 4] [2, 5] ⟨rfl, rfl, rfl, rfl, by decide⟩ rfl hl.1 rfl (Nat.le_of_ble_eq_true rfl) ⟨Nat.le_of_ble_eq_true rfl, Nat.le_of_ble_eq_true rfl⟩ dX0_used_32 (fun r_4 u_5 H locs hp hS => ?_)
  have hS : z_S G [(bd, .inr (2, [])), (bo, z_B G 16384 (fun _ => 0)), (q_1, .inr (0, [.ref bc, .ref bd, .ref bt, .ref bp, .ref bo, .int (nI n), .int (nI u_5.1), .int (nI 0)])), (bc, .inr (1, [])), (bt, z_B G 16384 t), (bp, z_B G 16464 u_5.2)] A s H locs := hS
  obtain ⟨rfl, hL, hok⟩ := hp
  obtain ⟨L1, p1⟩ := u_5
  have hS : z_S G [(bd, .inr (2, [])), (bo, z_B G 16384 (fun _ => 0)), (q_1, .inr (0, [.ref bc, .ref bd, .ref bt, .ref bp, .ref bo, .int (nI n), .int (nI L1), .int (nI 0)])), (bc, .inr (1, [])), (bt, z_B G 16384 t), (bp, z_B G 16464 p1)] A s H locs := hS
  have hS := hS.sub (ws' := [(q_1, .inr (0, [.ref bc, .ref bd, .ref bt, .ref bp, .ref bo, .int (nI n), .int (nI L1), .int (nI 0)])), (bc, .inr (1, [])), (bd, .inr (2, [])), (bt, z_B G 16384 t), (bp, z_B G 16464 p1), (bo, z_B G 16384 (fun _ => 0))]) [2, 3, 0, 4, 5, 1] rfl rfl
  refine lv_pop X.x X.b dX0_used_35 rfl ?_
  refine lv_aload_n X.x X.b dX0_used_36 rfl (lv_at hl 0 rfl) ?_
  refine z_cVi (ci := 0) (q0 := 0) (wr := [(bc, .inr (1, [])), (bt, z_B G 16384 t)]) X rfl z_E2ok hE hS (m_open l G q_1 bc bd bt bp bo n 0 (by omega) p1 t (fun _ => 0) L1 n hok (by omega) hL) 0 q351 q352 q353 q3 q354 nm_m_open ⟨rfl, rfl⟩ ⟨Nat.le_of_ble_eq_true rfl, Nat.le_of_ble_eq_true rfl⟩ rfl rfl rfl [0, 2, 4, 5] [1, 3] ⟨rfl, rfl, rfl, rfl, by decide⟩ rfl hl.1 rfl (Nat.le_of_ble_eq_true rfl) ⟨Nat.le_of_ble_eq_true rfl, Nat.le_of_ble_eq_true rfl⟩ dX0_used_37 (fun r_6 o1 H locs hp hS => ?_)
  have hS : z_S G [(bc, .inr (1, [])), (bt, z_B G 16384 t), (q_1, .inr (0, [.ref bc, .ref bd, .ref bt, .ref bp, .ref bo, .int (nI n), .int (nI L1), .int (nI n)])), (bd, .inr (2, [])), (bp, z_B G 16464 p1), (bo, z_B G 16384 o1)] A s H locs := hS
  obtain ⟨rfl, -⟩ := hp
  have hS := hS.sub (ws' := [(q_1, .inr (0, [.ref bc, .ref bd, .ref bt, .ref bp, .ref bo, .int (nI n), .int (nI L1), .int (nI n)])), (bc, .inr (1, [])), (bd, .inr (2, [])), (bt, z_B G 16384 t), (bp, z_B G 16464 p1), (bo, z_B G 16384 o1)]) [2, 0, 3, 1, 4, 5] rfl rfl
  refine lv_pop X.x X.b dX0_used_40 rfl ?_
  refine lv_aload_n X.x X.b dX0_used_41 rfl (lv_at hl 0 rfl) ?_
  refine lv_iconst (v := (nI 0)) X.x X.b dX0_used_42 (by decide) ?_
  refine z_cVv (ci := 0) (q0 := 0) (wr := [(bc, .inr (1, [])), (bd, .inr (2, [])), (bt, z_B G 16384 t), (bp, z_B G 16464 p1), (bo, z_B G 16384 o1)]) X rfl z_E0ok trivial hS (m_trim l G q_1 bc bd bt bp bo n (nI L1) n (by omega) (nI 0)) 1 q116 q117 q118 q3 q119 nm_m_trim ⟨rfl, rfl⟩ ⟨Nat.le_of_ble_eq_true rfl, Nat.le_of_ble_eq_true rfl⟩ rfl rfl rfl [0] [1, 2, 3, 4, 5] ⟨rfl, rfl, rfl, rfl, by decide⟩ rfl hl.1 rfl (Nat.le_of_ble_eq_true rfl) ⟨Nat.le_of_ble_eq_true rfl, Nat.le_of_ble_eq_true rfl⟩ dX0_used_43 (fun u_8 H locs hp hS => ?_)
  have hS : z_S G [(bc, .inr (1, [])), (bd, .inr (2, [])), (bt, z_B G 16384 t), (bp, z_B G 16464 p1), (bo, z_B G 16384 o1), (q_1, .inr (0, [.ref bc, .ref bd, .ref bt, .ref bp, .ref bo, .int (nI (z_ab (nI 0) % (n + 1))), .int (nI L1), .int (nI n)]))] A s H locs := hS
  have hS := hS.sub (ws' := [(q_1, .inr (0, [.ref bc, .ref bd, .ref bt, .ref bp, .ref bo, .int (nI (z_ab (nI 0) % (n + 1))), .int (nI L1), .int (nI n)])), (bc, .inr (1, [])), (bd, .inr (2, [])), (bt, z_B G 16384 t), (bp, z_B G 16464 p1), (bo, z_B G 16384 o1)]) [5, 0, 1, 2, 3, 4] rfl rfl
  have hS : z_S G [(q_1, .inr (0, [.ref bc, .ref bd, .ref bt, .ref bp, .ref bo, .int (nI 0), .int (nI L1), .int (nI n)])), (bc, .inr (1, [])), (bd, .inr (2, [])), (bt, z_B G 16384 t), (bp, z_B G 16464 p1), (bo, z_B G 16384 o1)] A s H locs := by have e : z_ab (nI 0) % (n + 1) = 0 := (by rw [z_abN (by decide)]; exact Nat.zero_mod _); rw [e] at hS; exact hS
  refine lv_aload_n X.x X.b dX0_used_46 rfl (lv_at hl 0 rfl) ?_
  exact z_aret X hS ((bc, bd, bt, bp, bo), (nI L1, n), t, p1, o1) (trivial) [0, 1, 2, 3, 4, 5] rfl rfl dX0_used_47
set_option maxHeartbeats 4000000 in
theorem lo_trep {p : Program} {l : Launch} {e : Env} {s : State} {m : MethodId} {args : Array Value} {below : List Frame} {meth : Method} {c : Code} {A : Nat → Prop} {G : z_G} {Q : State → Prop} (b0 bc bd bt bp bo x2 b Ls : Nat) (xs : Nat → Int32) (hLs : Ls ≤ 96) (n k0 : Nat) (ln : Int32) (bk : Nat) (t p0 o0 tl0 : Nat → Int8) (f ct : Nat) (hf : f < n) (hct : n + ct ≤ 16384) (X : z_X p s m args meth c yX0_trip cX0_trip 10 (some .boolean) G A) (K : ∀ (tl : Nat → Int8), (∀ j, j < n → tl j = tl0 j) → (∀ j, j < ct → tl (n + j) = tl (f + j)) → ∀ (H : Heap) (locs : List Loc) (ls : Array Slot), z_S G [(b0, .inr (0, [.ref bc, .ref bd, .ref bt, .ref bp, .ref bo, .int (nI (n + ct)), .int ln, .int (nI bk)])), (bc, .inr (1, [])), (bd, .inr (2, [])), (bt, z_B G 16384 t), (bp, z_B G 16464 p0), (bo, z_B G 16384 o0), (x2, z_B G 16384 tl)] A s H locs → lv_has ls 10 [(0, .ref b0), (1, .ref b), (2, .ref x2), (3, .int (nI n)), (4, .int (nI k0)), (7, .int (nI ct))] → W p l e (z_rm 5 2 24576 220) s m args below meth c H locs 1 16384 Q (F0 m 199 ls [])) :
    ∀ (k : Nat) (i : Nat) (tl : Nat → Int8), ct - i < k → i ≤ ct → (∀ j, j < n → tl j = tl0 j) → (∀ j, j < i → tl (n + j) = tl (f + j)) → ∀ (H : Heap) (locs : List Loc) (ls : Array Slot), z_S G [(b0, .inr (0, [.ref bc, .ref bd, .ref bt, .ref bp, .ref bo, .int (nI (n + ct)), .int ln, .int (nI bk)])), (bc, .inr (1, [])), (bd, .inr (2, [])), (bt, z_B G 16384 t), (bp, z_B G 16464 p0), (bo, z_B G 16384 o0), (x2, z_B G 16384 tl)] A s H locs → lv_has ls 10 [(0, .ref b0), (1, .ref b), (2, .ref x2), (3, .int (nI n)), (4, .int (nI k0)), (7, .int (nI ct)), (8, .int (nI f)), (9, .int (nI i))] → W p l e (z_rm 5 2 24576 220) s m args below meth c H locs 1 16384 Q (F0 m 173 ls []) := by
  intro k
  induction k with
  | zero =>
    intro i tl hk
    exact absurd hk (Nat.not_lt_zero _)
  | succ k ih =>
    intro i tl hk hi h1 h2 H locs ls hS hl
    refine lv_iload X.x X.b dX0_trip_173 (lv_at hl 7 rfl) ?_
    refine lv_iload X.x X.b dX0_trip_175 (lv_at hl 5 rfl) ?_
    refine z_icmp_ge (tgt := 199) X.x X.b dX0_trip_177 (by decide) (by omega) (by omega) (fun c_1 => ?_) (fun c_1 => ?_)
    · exact K tl (h1) (fun j hj => h2 j (by omega)) H _ ls hS (lv_sub hl [0, 1, 2, 3, 4, 5] rfl)
    · refine lv_aload_n X.x X.b dX0_trip_180 rfl (lv_at hl 2 rfl) ?_
      refine lv_iload_n X.x X.b dX0_trip_181 rfl (lv_at hl 3 rfl) ?_
      refine lv_iload X.x X.b dX0_trip_182 (lv_at hl 7 rfl) ?_
      refine z_iadd X.x X.b dX0_trip_184 ?_
      refine lv_aload_n X.x X.b dX0_trip_185 rfl (lv_at hl 2 rfl) ?_
      refine lv_iload X.x X.b dX0_trip_186 (lv_at hl 6 rfl) ?_
      refine lv_iload X.x X.b dX0_trip_188 (lv_at hl 7 rfl) ?_
      refine z_iadd X.x X.b dX0_trip_190 ?_
      refine z_bald X hS 6 rfl (i := (f + i)) (by omega) (by omega) dX0_trip_191 ?_
      refine z_bast8 (ws' := [(b0, .inr (0, [.ref bc, .ref bd, .ref bt, .ref bp, .ref bo, .int (nI (n + ct)), .int ln, .int (nI bk)])), (bc, .inr (1, [])), (bd, .inr (2, [])), (bt, z_B G 16384 t), (bp, z_B G 16464 p0), (bo, z_B G 16384 o0), (x2, z_B G 16384 (va_up tl (n + i) (tl (f + i))))]) X hS 6 rfl (i := (n + i)) (by omega) (by omega) rfl dX0_trip_192 (fun H locs hS => ?_)
      refine z_iinc (d := 1) (lv' := [(9, .int (nI (i + 1))), (0, .ref b0), (1, .ref b), (2, .ref x2), (3, .int (nI n)), (4, .int (nI k0)), (7, .int (nI ct)), (8, .int (nI f))]) X.x X.b dX0_trip_193 hl (k := 7) rfl (by decide) (by decide) rfl (fun ls hl => ?_)
      refine lv_goto (tgt := 173) X.x X.b dX0_trip_196 (by decide) ?_
      exact ih (i + 1) (va_up tl (n + i) (tl (f + i))) (by omega) (by omega) (fun j hj => (z_upN tl _ (by omega)).trans (h1 j hj)) (fun j hj => if q : j = i then (by subst q; rw [z_upS tl _ rfl, z_upN tl _ (by omega)]) else (by rw [z_upN tl _ (by omega), z_upN tl _ (by omega)]; exact h2 j (by omega))) H _ ls hS (lv_sub hl [1, 2, 3, 4, 5, 6, 7, 0] rfl)
set_option maxHeartbeats 4000000 in
theorem lo_tfill {p : Program} {l : Launch} {e : Env} {s : State} {m : MethodId} {args : Array Value} {below : List Frame} {meth : Method} {c : Code} {A : Nat → Prop} {G : z_G} {Q : State → Prop} (b0 bc bd bt bp bo x2 b Ls : Nat) (xs : Nat → Int32) (hLs : Ls ≤ 96) (n k0 : Nat) (ln : Int32) (bk : Nat) (t p0 o0 tl0 : Nat → Int8) (v : Int32) (ct : Nat) (hct : n + ct ≤ 16384) (X : z_X p s m args meth c yX0_trip cX0_trip 10 (some .boolean) G A) (K : ∀ (tl : Nat → Int8), (∀ j, j < n → tl j = tl0 j) → (∀ j, j < ct → tl (n + j) = v.toInt8) → ∀ (H : Heap) (locs : List Loc) (ls : Array Slot), z_S G [(b0, .inr (0, [.ref bc, .ref bd, .ref bt, .ref bp, .ref bo, .int (nI (n + ct)), .int ln, .int (nI bk)])), (bc, .inr (1, [])), (bd, .inr (2, [])), (bt, z_B G 16384 t), (bp, z_B G 16464 p0), (bo, z_B G 16384 o0), (x2, z_B G 16384 tl)] A s H locs → lv_has ls 10 [(0, .ref b0), (1, .ref b), (2, .ref x2), (3, .int (nI n)), (4, .int (nI k0)), (7, .int (nI ct))] → W p l e (z_rm 5 2 24576 220) s m args below meth c H locs 1 16384 Q (F0 m 252 ls [])) :
    ∀ (k : Nat) (i : Nat) (tl : Nat → Int8), ct - i < k → i ≤ ct → (∀ j, j < n → tl j = tl0 j) → (∀ j, j < i → tl (n + j) = v.toInt8) → ∀ (H : Heap) (locs : List Loc) (ls : Array Slot), z_S G [(b0, .inr (0, [.ref bc, .ref bd, .ref bt, .ref bp, .ref bo, .int (nI (n + ct)), .int ln, .int (nI bk)])), (bc, .inr (1, [])), (bd, .inr (2, [])), (bt, z_B G 16384 t), (bp, z_B G 16464 p0), (bo, z_B G 16384 o0), (x2, z_B G 16384 tl)] A s H locs → lv_has ls 10 [(0, .ref b0), (1, .ref b), (2, .ref x2), (3, .int (nI n)), (4, .int (nI k0)), (5, .int v), (7, .int (nI ct)), (8, .int (nI i))] → W p l e (z_rm 5 2 24576 220) s m args below meth c H locs 1 16384 Q (F0 m 230 ls []) := by
  intro k
  induction k with
  | zero =>
    intro i tl hk
    exact absurd hk (Nat.not_lt_zero _)
  | succ k ih =>
    intro i tl hk hi h1 h2 H locs ls hS hl
    refine lv_iload X.x X.b dX0_trip_230 (lv_at hl 7 rfl) ?_
    refine lv_iload X.x X.b dX0_trip_232 (lv_at hl 6 rfl) ?_
    refine z_icmp_ge (tgt := 252) X.x X.b dX0_trip_234 (by decide) (by omega) (by omega) (fun c_1 => ?_) (fun c_1 => ?_)
    · exact K tl (h1) (fun j hj => h2 j (by omega)) H _ ls hS (lv_sub hl [0, 1, 2, 3, 4, 6] rfl)
    · refine lv_aload_n X.x X.b dX0_trip_237 rfl (lv_at hl 2 rfl) ?_
      refine lv_iload_n X.x X.b dX0_trip_238 rfl (lv_at hl 3 rfl) ?_
      refine lv_iload X.x X.b dX0_trip_239 (lv_at hl 7 rfl) ?_
      refine z_iadd X.x X.b dX0_trip_241 ?_
      refine lv_iload X.x X.b dX0_trip_242 (lv_at hl 5 rfl) ?_
      refine lv_i2b X.x X.b dX0_trip_244 rfl ?_
      refine z_bast8 (ws' := [(b0, .inr (0, [.ref bc, .ref bd, .ref bt, .ref bp, .ref bo, .int (nI (n + ct)), .int ln, .int (nI bk)])), (bc, .inr (1, [])), (bd, .inr (2, [])), (bt, z_B G 16384 t), (bp, z_B G 16464 p0), (bo, z_B G 16384 o0), (x2, z_B G 16384 (va_up tl (n + i) v.toInt8))]) X hS 6 rfl (i := (n + i)) (by omega) (by omega) rfl dX0_trip_245 (fun H locs hS => ?_)
      refine z_iinc (d := 1) (lv' := [(8, .int (nI (i + 1))), (0, .ref b0), (1, .ref b), (2, .ref x2), (3, .int (nI n)), (4, .int (nI k0)), (5, .int v), (7, .int (nI ct))]) X.x X.b dX0_trip_246 hl (k := 7) rfl (by decide) (by decide) rfl (fun ls hl => ?_)
      refine lv_goto (tgt := 230) X.x X.b dX0_trip_249 (by decide) ?_
      exact ih (i + 1) (va_up tl (n + i) v.toInt8) (by omega) (by omega) (fun j hj => (z_upN tl _ (by omega)).trans (h1 j hj)) (fun j hj => if q : j = i then (by subst q; exact z_upS tl _ rfl) else (z_upN tl _ (by omega)).trans (h2 j (by omega))) H _ ls hS (lv_sub hl [1, 2, 3, 4, 5, 6, 7, 0] rfl)
set_option maxHeartbeats 4000000 in
theorem lo_trip {p : Program} {l : Launch} {e : Env} {s : State} {m : MethodId} {args : Array Value} {below : List Frame} {meth : Method} {c : Code} {A : Nat → Prop} {G : z_G} {Q : State → Prop} (b0 bc bd bt bp bo x2 b Ls : Nat) (xs : Nat → Int32) (hLs : Ls ≤ 96) (ln : Int32) (bk : Nat) (p0 o0 : Nat → Int8) (X : z_X p s m args meth c yX0_trip cX0_trip 10 (some .boolean) G A) (hE : (z_E3 b Ls xs) A s) (K : ∀ (n : Nat) (t : Nat → Int8) (tl : Nat → Int8), n ≤ 16384 → (∀ j, j < n → tl j = t j) → ∀ (H : Heap) (locs : List Loc) (ls : Array Slot), z_S G [(b0, .inr (0, [.ref bc, .ref bd, .ref bt, .ref bp, .ref bo, .int (nI n), .int ln, .int (nI bk)])), (bc, .inr (1, [])), (bd, .inr (2, [])), (bt, z_B G 16384 t), (bp, z_B G 16464 p0), (bo, z_B G 16384 o0), (x2, z_B G 16384 tl)] A s H locs → lv_has ls 10 [(0, .ref b0), (2, .ref x2), (3, .int (nI n))] → W p l e (z_rm 5 2 24576 220) s m args below meth c H locs 1 16384 Q (F0 m 292 ls [])) :
    ∀ (k : Nat) (n : Nat) (k0 : Nat) (t : Nat → Int8) (tl : Nat → Int8), Ls - k0 < k → k0 ≤ Ls → n ≤ 16384 → (∀ j, j < n → tl j = t j) → ∀ (H : Heap) (locs : List Loc) (ls : Array Slot), z_S G [(b0, .inr (0, [.ref bc, .ref bd, .ref bt, .ref bp, .ref bo, .int (nI n), .int ln, .int (nI bk)])), (bc, .inr (1, [])), (bd, .inr (2, [])), (bt, z_B G 16384 t), (bp, z_B G 16464 p0), (bo, z_B G 16384 o0), (x2, z_B G 16384 tl)] A s H locs → lv_has ls 10 [(0, .ref b0), (1, .ref b), (2, .ref x2), (3, .int (nI n)), (4, .int (nI k0))] → W p l e (z_rm 5 2 24576 220) s m args below meth c H locs 1 16384 Q (F0 m 11 ls []) := by
  intro k
  induction k with
  | zero =>
    intro n k0 t tl hk
    exact absurd hk (Nat.not_lt_zero _)
  | succ k ih =>
    intro n k0 t tl hk hk0 hn ht H locs ls hS hl
    refine lv_iload X.x X.b dX0_trip_11 (lv_at hl 4 rfl) ?_
    refine lv_iconst (v := (nI 2)) X.x X.b dX0_trip_13 (by decide) ?_
    refine z_iadd X.x X.b dX0_trip_14 ?_
    refine lv_aload_n X.x X.b dX0_trip_15 rfl (lv_at hl 1 rfl) ?_
    refine z_slen X hE hS dX0_trip_16 ?_
    refine z_icmp_ge (tgt := 292) X.x X.b dX0_trip_17 (by decide) (by omega) (by omega) (fun cL => ?_) (fun cL => ?_)
    · exact K n t tl (hn) (ht) H _ ls hS (lv_sub hl [0, 2, 3] rfl)
    · refine lv_aload_n X.x X.b dX0_trip_20 rfl (lv_at hl 1 rfl) ?_
      refine lv_iload X.x X.b dX0_trip_21 (lv_at hl 4 rfl) ?_
      refine lv_iconst (v := (nI 1)) X.x X.b dX0_trip_23 (by decide) ?_
      refine z_iadd X.x X.b dX0_trip_24 ?_
      refine z_sld X hE hS (i := (k0 + 1)) (by omega) (by omega) dX0_trip_25 ?_
      obtain ⟨a0, ha0⟩ : ∃ a0, a0 = xs (k0 + 1) := ⟨_, rfl⟩
      rw [← ha0]
      refine lv_istore (lv' := [(5, .int a0), (0, .ref b0), (1, .ref b), (2, .ref x2), (3, .int (nI n)), (4, .int (nI k0))]) X.x X.b dX0_trip_26 hl (by decide) rfl (fun ls hl => ?_)
      refine lv_aload_n X.x X.b dX0_trip_28 rfl (lv_at hl 2 rfl) ?_
      refine lv_iload X.x X.b dX0_trip_29 (lv_at hl 5 rfl) ?_
      refine lv_iconst (v := (nI 2)) X.x X.b dX0_trip_31 (by decide) ?_
      refine z_iadd X.x X.b dX0_trip_32 ?_
      refine z_sld X hE hS (i := (k0 + 2)) (by omega) (by omega) dX0_trip_33 ?_
      obtain ⟨a1, ha1⟩ : ∃ a1, a1 = xs (k0 + 2) := ⟨_, rfl⟩
      rw [← ha1]
      refine lv_istore (lv' := [(6, .int a1), (5, .int a0), (0, .ref b0), (1, .ref b), (2, .ref x2), (3, .int (nI n)), (4, .int (nI k0))]) X.x X.b dX0_trip_34 hl (by decide) rfl (fun ls hl => ?_)
      refine lv_aload_n X.x X.b dX0_trip_36 rfl (lv_at hl 3 rfl) ?_
      refine lv_iload X.x X.b dX0_trip_37 (lv_at hl 6 rfl) ?_
      refine z_sld X hE hS (i := k0) (by omega) (by omega) dX0_trip_39 ?_
      refine lv_iconst (v := (nI 3)) X.x X.b dX0_trip_40 (by decide) ?_
      refine lv_iand X.x X.b dX0_trip_41 ?_
      refine lv_if_ne (tgt := 118) X.x X.b dX0_trip_42 (by decide) (fun c_1 => ?_) (fun c_1 => ?_)
      · refine lv_aload_n X.x X.b dX0_trip_118 rfl (lv_at hl 3 rfl) ?_
        refine lv_iload X.x X.b dX0_trip_119 (lv_at hl 6 rfl) ?_
        refine z_sld X hE hS (i := k0) (by omega) (by omega) dX0_trip_121 ?_
        refine lv_iconst (v := (nI 3)) X.x X.b dX0_trip_122 (by decide) ?_
        refine lv_iand X.x X.b dX0_trip_123 ?_
        refine lv_iconst (v := (nI 1)) X.x X.b dX0_trip_124 (by decide) ?_
        refine lv_icmp_ne (tgt := 207) X.x X.b dX0_trip_125 (by decide) (fun c_2 => ?_) (fun c_2 => ?_)
        · refine lv_aload_n X.x X.b dX0_trip_207 rfl (lv_at hl 3 rfl) ?_
          refine lv_iload X.x X.b dX0_trip_208 (lv_at hl 6 rfl) ?_
          refine z_sld X hE hS (i := k0) (by omega) (by omega) dX0_trip_210 ?_
          refine lv_iconst (v := (nI 3)) X.x X.b dX0_trip_211 (by decide) ?_
          refine lv_iand X.x X.b dX0_trip_212 ?_
          refine lv_iconst (v := (nI 2)) X.x X.b dX0_trip_213 (by decide) ?_
          refine lv_icmp_ne (tgt := 260) X.x X.b dX0_trip_214 (by decide) (fun c_3 => ?_) (fun c_3 => ?_)
          · refine lv_aload_n X.x X.b dX0_trip_260 rfl (lv_at hl 2 rfl) ?_
            refine lv_iload X.x X.b dX0_trip_261 (lv_at hl 1 rfl) ?_
            have hg := z_ab_lt a0
            have hm : z_ab a0 % (n + 1) < n + 1 := Nat.mod_lt _ (Nat.succ_pos n)
            refine z_cVv (ci := 0) (q0 := 0) (wr := [(bc, .inr (1, [])), (bd, .inr (2, [])), (bt, z_B G 16384 t), (bp, z_B G 16464 p0), (bo, z_B G 16384 o0), (x2, z_B G 16384 tl)]) X rfl z_E0ok trivial hS (m_trim l G b0 bc bd bt bp bo n ln bk (by omega) a0) 1 q116 q117 q118 q3 q119 nm_m_trim ⟨rfl, rfl⟩ ⟨Nat.le_of_ble_eq_true rfl, Nat.le_of_ble_eq_true rfl⟩ rfl rfl rfl [0] [1, 2, 3, 4, 5, 6] ⟨rfl, rfl, rfl, rfl, by decide⟩ rfl hl.1 rfl (Nat.le_of_ble_eq_true rfl) ⟨Nat.le_of_ble_eq_true rfl, Nat.le_of_ble_eq_true rfl⟩ dX0_trip_263 (fun u_5 H locs hp hS => ?_)
            have hS : z_S G [(bc, .inr (1, [])), (bd, .inr (2, [])), (bt, z_B G 16384 t), (bp, z_B G 16464 p0), (bo, z_B G 16384 o0), (x2, z_B G 16384 tl), (b0, .inr (0, [.ref bc, .ref bd, .ref bt, .ref bp, .ref bo, .int (nI (z_ab a0 % (n + 1))), .int ln, .int (nI bk)]))] A s H locs := hS
            have hS := hS.sub (ws' := [(b0, .inr (0, [.ref bc, .ref bd, .ref bt, .ref bp, .ref bo, .int (nI (z_ab a0 % (n + 1))), .int ln, .int (nI bk)])), (bc, .inr (1, [])), (bd, .inr (2, [])), (bt, z_B G 16384 t), (bp, z_B G 16464 p0), (bo, z_B G 16384 o0), (x2, z_B G 16384 tl)]) [6, 0, 1, 2, 3, 4, 5] rfl rfl
            refine lv_iload X.x X.b dX0_trip_266 (lv_at hl 1 rfl) ?_
            refine z_ldc (v := 2147483647) X rfl q111 dX0_trip_268 ?_
            refine lv_iand X.x X.b dX0_trip_270 ?_
            refine z_top (y := (nI (z_ab a0))) (z_andM _) ?_
            refine lv_iload_n X.x X.b dX0_trip_271 rfl (lv_at hl 5 rfl) ?_
            refine lv_iconst (v := (nI 1)) X.x X.b dX0_trip_272 (by decide) ?_
            refine z_iadd X.x X.b dX0_trip_273 ?_
            refine z_irem X.x X.b dX0_trip_274 (by omega) (by omega) (by omega) ?_
            refine lv_istore_n (lv' := [(3, .int (nI ((z_ab a0) % (n + 1)))), (6, .int a1), (5, .int a0), (0, .ref b0), (1, .ref b), (2, .ref x2), (4, .int (nI k0))]) X.x X.b dX0_trip_275 rfl hl (by decide) rfl (fun ls hl => ?_)
            refine lv_aload_n X.x X.b dX0_trip_276 rfl (lv_at hl 3 rfl) ?_
            have hl : lv_has ls 10 [(3, .int (nI (z_ab a0 % (n + 1)))), (6, .int a1), (5, .int a0), (0, .ref b0), (1, .ref b), (2, .ref x2), (4, .int (nI k0))] := by have e : (z_ab a0) % (n + 1) = z_ab a0 % (n + 1) := (by omega); rw [e] at hl; exact hl
            refine z_cVi (ci := 0) (q0 := 0) (wr := [(bc, .inr (1, [])), (bd, .inr (2, [])), (bt, z_B G 16384 t), (bp, z_B G 16464 p0), (bo, z_B G 16384 o0), (x2, z_B G 16384 tl)]) X rfl z_E0ok trivial hS (m_size l G b0 bc bd bt bp bo (z_ab a0 % (n + 1)) ln bk (by omega)) 0 q120 q121 q122 q3 q123 nm_m_size ⟨rfl, rfl⟩ ⟨Nat.le_of_ble_eq_true rfl, Nat.le_of_ble_eq_true rfl⟩ rfl rfl rfl [0] [1, 2, 3, 4, 5, 6] ⟨rfl, rfl, rfl, rfl, by decide⟩ rfl hl.1 rfl (Nat.le_of_ble_eq_true rfl) ⟨Nat.le_of_ble_eq_true rfl, Nat.le_of_ble_eq_true rfl⟩ dX0_trip_277 (fun r_6 u_7 H locs hp hS => ?_)
            have hS : z_S G [(bc, .inr (1, [])), (bd, .inr (2, [])), (bt, z_B G 16384 t), (bp, z_B G 16464 p0), (bo, z_B G 16384 o0), (x2, z_B G 16384 tl), (b0, .inr (0, [.ref bc, .ref bd, .ref bt, .ref bp, .ref bo, .int (nI (z_ab a0 % (n + 1))), .int ln, .int (nI bk)]))] A s H locs := hS
            subst hp
            have hS := hS.sub (ws' := [(b0, .inr (0, [.ref bc, .ref bd, .ref bt, .ref bp, .ref bo, .int (nI (z_ab a0 % (n + 1))), .int ln, .int (nI bk)])), (bc, .inr (1, [])), (bd, .inr (2, [])), (bt, z_B G 16384 t), (bp, z_B G 16464 p0), (bo, z_B G 16384 o0), (x2, z_B G 16384 tl)]) [6, 0, 1, 2, 3, 4, 5] rfl rfl
            refine lv_iload_n X.x X.b dX0_trip_280 rfl (lv_at hl 0 rfl) ?_
            refine z_icmp_eq (tgt := 286) X.x X.b dX0_trip_281 (by decide) (by omega) (by omega) (fun c_8 => ?_) (fun c_8 => by exfalso; omega)
            refine z_iinc (d := 3) (lv' := [(4, .int (nI (k0 + 3))), (3, .int (nI (z_ab a0 % (n + 1)))), (6, .int a1), (5, .int a0), (0, .ref b0), (1, .ref b), (2, .ref x2)]) X.x X.b dX0_trip_286 hl (k := 6) rfl (by decide) (by decide) rfl (fun ls hl => ?_)
            refine lv_goto (tgt := 11) X.x X.b dX0_trip_289 (by decide) ?_
            exact ih (z_ab a0 % (n + 1)) (k0 + 3) t tl (by omega) (by omega) (by omega) (fun j hj => ht j (by omega)) H _ ls hS (lv_sub hl [4, 5, 6, 1, 0] rfl)
          · refine lv_aload_n X.x X.b dX0_trip_217 rfl (lv_at hl 2 rfl) ?_
            refine lv_iload X.x X.b dX0_trip_218 (lv_at hl 1 rfl) ?_
            refine lv_iload X.x X.b dX0_trip_220 (lv_at hl 0 rfl) ?_
            refine z_cVi (ci := 0) (q0 := 0) (wr := [(bc, .inr (1, [])), (bd, .inr (2, [])), (bp, z_B G 16464 p0), (bo, z_B G 16384 o0), (x2, z_B G 16384 tl)]) X rfl z_E0ok trivial hS (m_fill l G b0 bc bd bt bp bo n ln bk (by omega) t a0 a1) 2 q112 q113 q114 q3 q115 nm_m_fill ⟨rfl, rfl⟩ ⟨Nat.le_of_ble_eq_true rfl, Nat.le_of_ble_eq_true rfl⟩ rfl rfl rfl [0, 3] [1, 2, 4, 5, 6] ⟨rfl, rfl, rfl, rfl, by decide⟩ rfl hl.1 rfl (Nat.le_of_ble_eq_true rfl) ⟨Nat.le_of_ble_eq_true rfl, Nat.le_of_ble_eq_true rfl⟩ dX0_trip_222 (fun r_9 u H locs hp hS => ?_)
            have hS : z_S G [(bc, .inr (1, [])), (bd, .inr (2, [])), (bp, z_B G 16464 p0), (bo, z_B G 16384 o0), (x2, z_B G 16384 tl), (b0, .inr (0, [.ref bc, .ref bd, .ref bt, .ref bp, .ref bo, .int (nI (n + z_k n a1)), .int ln, .int (nI bk)])), (bt, z_B G 16384 u)] A s H locs := hS
            obtain ⟨rfl, g1, g2⟩ := hp
            have hS := hS.sub (ws' := [(b0, .inr (0, [.ref bc, .ref bd, .ref bt, .ref bp, .ref bo, .int (nI (n + z_k n a1)), .int ln, .int (nI bk)])), (bc, .inr (1, [])), (bd, .inr (2, [])), (bt, z_B G 16384 u), (bp, z_B G 16464 p0), (bo, z_B G 16384 o0), (x2, z_B G 16384 tl)]) [5, 0, 1, 6, 2, 3, 4] rfl rfl
            refine lv_istore (lv' := [(7, .int (nI (z_k n a1))), (6, .int a1), (5, .int a0), (0, .ref b0), (1, .ref b), (2, .ref x2), (3, .int (nI n)), (4, .int (nI k0))]) X.x X.b dX0_trip_225 hl (by decide) rfl (fun ls hl => ?_)
            refine lv_iconst (v := (nI 0)) X.x X.b dX0_trip_227 (by decide) ?_
            refine lv_istore (lv' := [(8, .int (nI 0)), (7, .int (nI (z_k n a1))), (6, .int a1), (5, .int a0), (0, .ref b0), (1, .ref b), (2, .ref x2), (3, .int (nI n)), (4, .int (nI k0))]) X.x X.b dX0_trip_228 hl (by decide) rfl (fun ls hl => ?_)
            have hk2 : z_k n a1 ≤ 16384 - n := Nat.min_le_right _ _
            refine lo_tfill b0 bc bd bt bp bo x2 b Ls xs hLs n k0 ln bk u p0 o0 tl a0 (z_k n a1) (by omega) X (fun tl2 h1 h2 H locs ls hS hl => ?_) (z_k n a1 + 1) 0 tl (by omega) (Nat.zero_le _) (fun _ _ => rfl) (fun j hj => absurd hj (Nat.not_lt_zero _)) H _ ls hS (lv_sub hl [4, 5, 6, 7, 8, 3, 1, 0] rfl)
            refine lv_iload_n X.x X.b dX0_trip_252 rfl (lv_at hl 3 rfl) ?_
            refine lv_iload X.x X.b dX0_trip_253 (lv_at hl 5 rfl) ?_
            refine z_iadd X.x X.b dX0_trip_255 ?_
            refine lv_istore_n (lv' := [(3, .int (nI (n + (z_k n a1)))), (0, .ref b0), (1, .ref b), (2, .ref x2), (4, .int (nI k0)), (7, .int (nI (z_k n a1)))]) X.x X.b dX0_trip_256 rfl hl (by decide) rfl (fun ls hl => ?_)
            refine lv_goto (tgt := 276) X.x X.b dX0_trip_257 (by decide) ?_
            refine lv_aload_n X.x X.b dX0_trip_276 rfl (lv_at hl 1 rfl) ?_
            have hl : lv_has ls 10 [(3, .int (nI (n + z_k n a1))), (0, .ref b0), (1, .ref b), (2, .ref x2), (4, .int (nI k0)), (7, .int (nI (z_k n a1)))] := by have e : n + (z_k n a1) = n + z_k n a1 := (by omega); rw [e] at hl; exact hl
            refine z_cVi (ci := 0) (q0 := 0) (wr := [(bc, .inr (1, [])), (bd, .inr (2, [])), (bt, z_B G 16384 u), (bp, z_B G 16464 p0), (bo, z_B G 16384 o0), (x2, z_B G 16384 tl2)]) X rfl z_E0ok trivial hS (m_size l G b0 bc bd bt bp bo (n + z_k n a1) ln bk (by omega)) 0 q120 q121 q122 q3 q123 nm_m_size ⟨rfl, rfl⟩ ⟨Nat.le_of_ble_eq_true rfl, Nat.le_of_ble_eq_true rfl⟩ rfl rfl rfl [0] [1, 2, 3, 4, 5, 6] ⟨rfl, rfl, rfl, rfl, by decide⟩ rfl hl.1 rfl (Nat.le_of_ble_eq_true rfl) ⟨Nat.le_of_ble_eq_true rfl, Nat.le_of_ble_eq_true rfl⟩ dX0_trip_277 (fun r_10 u_11 H locs hp hS => ?_)
            have hS : z_S G [(bc, .inr (1, [])), (bd, .inr (2, [])), (bt, z_B G 16384 u), (bp, z_B G 16464 p0), (bo, z_B G 16384 o0), (x2, z_B G 16384 tl2), (b0, .inr (0, [.ref bc, .ref bd, .ref bt, .ref bp, .ref bo, .int (nI (n + z_k n a1)), .int ln, .int (nI bk)]))] A s H locs := hS
            subst hp
            have hS := hS.sub (ws' := [(b0, .inr (0, [.ref bc, .ref bd, .ref bt, .ref bp, .ref bo, .int (nI (n + z_k n a1)), .int ln, .int (nI bk)])), (bc, .inr (1, [])), (bd, .inr (2, [])), (bt, z_B G 16384 u), (bp, z_B G 16464 p0), (bo, z_B G 16384 o0), (x2, z_B G 16384 tl2)]) [6, 0, 1, 2, 3, 4, 5] rfl rfl
            refine lv_iload_n X.x X.b dX0_trip_280 rfl (lv_at hl 0 rfl) ?_
            refine z_icmp_eq (tgt := 286) X.x X.b dX0_trip_281 (by decide) (by omega) (by omega) (fun c_12 => ?_) (fun c_12 => by exfalso; omega)
            refine z_iinc (d := 3) (lv' := [(4, .int (nI (k0 + 3))), (3, .int (nI (n + z_k n a1))), (0, .ref b0), (1, .ref b), (2, .ref x2), (7, .int (nI (z_k n a1)))]) X.x X.b dX0_trip_286 hl (k := 4) rfl (by decide) (by decide) rfl (fun ls hl => ?_)
            refine lv_goto (tgt := 11) X.x X.b dX0_trip_289 (by decide) ?_
            exact ih (n + z_k n a1) (k0 + 3) u tl2 (by omega) (by omega) (by omega) (fun j hj => z_fill_c ht h1 h2 g1 g2 j hj) H _ ls hS (lv_sub hl [2, 3, 4, 1, 0] rfl)
        · refine lv_aload_n X.x X.b dX0_trip_128 rfl (lv_at hl 2 rfl) ?_
          refine lv_iload X.x X.b dX0_trip_129 (lv_at hl 1 rfl) ?_
          refine lv_iload X.x X.b dX0_trip_131 (lv_at hl 0 rfl) ?_
          rcases Nat.eq_zero_or_pos n with hb | hb
          · subst hb
            refine z_cVi (ci := 0) (q0 := 0) (wr := [(bc, .inr (1, [])), (bd, .inr (2, [])), (bt, z_B G 16384 t), (bp, z_B G 16464 p0), (bo, z_B G 16384 o0), (x2, z_B G 16384 tl)]) X rfl z_E0ok trivial hS (m_rep0 l G b0 bc bd bt bp bo ln bk a0 a1) 2 q106 q107 q108 q3 q109 nm_m_rep0 ⟨rfl, rfl⟩ ⟨Nat.le_of_ble_eq_true rfl, Nat.le_of_ble_eq_true rfl⟩ rfl rfl rfl [0] [1, 2, 3, 4, 5, 6] ⟨rfl, rfl, rfl, rfl, by decide⟩ rfl hl.1 rfl (Nat.le_of_ble_eq_true rfl) ⟨Nat.le_of_ble_eq_true rfl, Nat.le_of_ble_eq_true rfl⟩ dX0_trip_133 (fun r_13 u_14 H locs hp hS => ?_)
            have hS : z_S G [(bc, .inr (1, [])), (bd, .inr (2, [])), (bt, z_B G 16384 t), (bp, z_B G 16464 p0), (bo, z_B G 16384 o0), (x2, z_B G 16384 tl), (b0, .inr (0, [.ref bc, .ref bd, .ref bt, .ref bp, .ref bo, .int (nI 0), .int ln, .int (nI bk)]))] A s H locs := hS
            subst hp
            have hS := hS.sub (ws' := [(b0, .inr (0, [.ref bc, .ref bd, .ref bt, .ref bp, .ref bo, .int (nI 0), .int ln, .int (nI bk)])), (bc, .inr (1, [])), (bd, .inr (2, [])), (bt, z_B G 16384 t), (bp, z_B G 16464 p0), (bo, z_B G 16384 o0), (x2, z_B G 16384 tl)]) [6, 0, 1, 2, 3, 4, 5] rfl rfl
            refine lv_istore (lv' := [(7, .int (-1 : Int32)), (6, .int a1), (5, .int a0), (0, .ref b0), (1, .ref b), (2, .ref x2), (3, .int (nI 0)), (4, .int (nI k0))]) X.x X.b dX0_trip_136 hl (by decide) rfl (fun ls hl => ?_)
            refine lv_iload_n X.x X.b dX0_trip_138 rfl (lv_at hl 6 rfl) ?_
            refine z_if_ne (tgt := 153) X.x X.b dX0_trip_139 (by decide) (by omega) (fun c_15 => by exfalso; omega) (fun c_15 => ?_)
            refine lv_iload X.x X.b dX0_trip_142 (lv_at hl 0 rfl) ?_
            refine lv_iconst (v := (-1 : Int32)) X.x X.b dX0_trip_144 (by decide) ?_
            refine lv_icmp_eq (tgt := 150) X.x X.b dX0_trip_145 (by decide) (fun _ => ?_) (fun c1 => absurd rfl c1)
            refine lv_iconst (v := (nI 0)) X.x X.b dX0_trip_150 (by decide) ?_
            refine lv_istore (lv' := [(7, .int (nI 0)), (6, .int a1), (5, .int a0), (0, .ref b0), (1, .ref b), (2, .ref x2), (3, .int (nI 0)), (4, .int (nI k0))]) X.x X.b dX0_trip_151 hl (by decide) rfl (fun ls hl => ?_)
            refine lv_iload_n X.x X.b dX0_trip_153 rfl (lv_at hl 6 rfl) ?_
            refine z_if_ne (tgt := 161) X.x X.b dX0_trip_154 (by decide) (by omega) (fun c_16 => by exfalso; omega) (fun c_16 => ?_)
            refine lv_iconst (v := (nI 0)) X.x X.b dX0_trip_157 (by decide) ?_
            refine lv_goto (tgt := 168) X.x X.b dX0_trip_158 (by decide) ?_
            refine lv_istore (lv' := [(8, .int (nI 0)), (7, .int (nI 0)), (6, .int a1), (5, .int a0), (0, .ref b0), (1, .ref b), (2, .ref x2), (3, .int (nI 0)), (4, .int (nI k0))]) X.x X.b dX0_trip_168 hl (by decide) rfl (fun ls hl => ?_)
            refine lv_iconst (v := (nI 0)) X.x X.b dX0_trip_170 (by decide) ?_
            refine lv_istore (lv' := [(9, .int (nI 0)), (8, .int (nI 0)), (7, .int (nI 0)), (6, .int a1), (5, .int a0), (0, .ref b0), (1, .ref b), (2, .ref x2), (3, .int (nI 0)), (4, .int (nI k0))]) X.x X.b dX0_trip_171 hl (by decide) rfl (fun ls hl => ?_)
            refine lv_iload X.x X.b dX0_trip_173 (lv_at hl 0 rfl) ?_
            refine lv_iload X.x X.b dX0_trip_175 (lv_at hl 2 rfl) ?_
            refine z_icmp_ge (tgt := 199) X.x X.b dX0_trip_177 (by decide) (by omega) (by omega) (fun c_17 => ?_) (fun c_17 => by exfalso; omega)
            refine lv_iload_n X.x X.b dX0_trip_199 rfl (lv_at hl 8 rfl) ?_
            refine lv_iload X.x X.b dX0_trip_200 (lv_at hl 2 rfl) ?_
            refine z_iadd X.x X.b dX0_trip_202 ?_
            refine lv_istore_n (lv' := [(3, .int (nI (0 + 0))), (9, .int (nI 0)), (8, .int (nI 0)), (7, .int (nI 0)), (6, .int a1), (5, .int a0), (0, .ref b0), (1, .ref b), (2, .ref x2), (4, .int (nI k0))]) X.x X.b dX0_trip_203 rfl hl (by decide) rfl (fun ls hl => ?_)
            refine lv_goto (tgt := 276) X.x X.b dX0_trip_204 (by decide) ?_
            refine lv_aload_n X.x X.b dX0_trip_276 rfl (lv_at hl 6 rfl) ?_
            have hl : lv_has ls 10 [(3, .int (nI 0)), (9, .int (nI 0)), (8, .int (nI 0)), (7, .int (nI 0)), (6, .int a1), (5, .int a0), (0, .ref b0), (1, .ref b), (2, .ref x2), (4, .int (nI k0))] := by have e : 0 + 0 = 0 := (by omega); rw [e] at hl; exact hl
            refine z_cVi (ci := 0) (q0 := 0) (wr := [(bc, .inr (1, [])), (bd, .inr (2, [])), (bt, z_B G 16384 t), (bp, z_B G 16464 p0), (bo, z_B G 16384 o0), (x2, z_B G 16384 tl)]) X rfl z_E0ok trivial hS (m_size l G b0 bc bd bt bp bo 0 ln bk (by omega)) 0 q120 q121 q122 q3 q123 nm_m_size ⟨rfl, rfl⟩ ⟨Nat.le_of_ble_eq_true rfl, Nat.le_of_ble_eq_true rfl⟩ rfl rfl rfl [0] [1, 2, 3, 4, 5, 6] ⟨rfl, rfl, rfl, rfl, by decide⟩ rfl hl.1 rfl (Nat.le_of_ble_eq_true rfl) ⟨Nat.le_of_ble_eq_true rfl, Nat.le_of_ble_eq_true rfl⟩ dX0_trip_277 (fun r_18 u_19 H locs hp hS => ?_)
            have hS : z_S G [(bc, .inr (1, [])), (bd, .inr (2, [])), (bt, z_B G 16384 t), (bp, z_B G 16464 p0), (bo, z_B G 16384 o0), (x2, z_B G 16384 tl), (b0, .inr (0, [.ref bc, .ref bd, .ref bt, .ref bp, .ref bo, .int (nI 0), .int ln, .int (nI bk)]))] A s H locs := hS
            subst hp
            have hS := hS.sub (ws' := [(b0, .inr (0, [.ref bc, .ref bd, .ref bt, .ref bp, .ref bo, .int (nI 0), .int ln, .int (nI bk)])), (bc, .inr (1, [])), (bd, .inr (2, [])), (bt, z_B G 16384 t), (bp, z_B G 16464 p0), (bo, z_B G 16384 o0), (x2, z_B G 16384 tl)]) [6, 0, 1, 2, 3, 4, 5] rfl rfl
            refine lv_iload_n X.x X.b dX0_trip_280 rfl (lv_at hl 0 rfl) ?_
            refine z_icmp_eq (tgt := 286) X.x X.b dX0_trip_281 (by decide) (by omega) (by omega) (fun c_20 => ?_) (fun c_20 => by exfalso; omega)
            refine z_iinc (d := 3) (lv' := [(4, .int (nI (k0 + 3))), (3, .int (nI 0)), (9, .int (nI 0)), (8, .int (nI 0)), (7, .int (nI 0)), (6, .int a1), (5, .int a0), (0, .ref b0), (1, .ref b), (2, .ref x2)]) X.x X.b dX0_trip_286 hl (k := 9) rfl (by decide) (by decide) rfl (fun ls hl => ?_)
            refine lv_goto (tgt := 11) X.x X.b dX0_trip_289 (by decide) ?_
            exact ih 0 (k0 + 3) t tl (by omega) (by omega) (by omega) (fun j hj => absurd hj (Nat.not_lt_zero _)) H _ ls hS (lv_sub hl [7, 8, 9, 1, 0] rfl)
          · refine z_cVi (ci := 0) (q0 := 0) (wr := [(bc, .inr (1, [])), (bd, .inr (2, [])), (bp, z_B G 16464 p0), (bo, z_B G 16384 o0), (x2, z_B G 16384 tl)]) X rfl z_E0ok trivial hS (m_rep l G b0 bc bd bt bp bo n ln bk (by omega) (by omega) t a0 a1) 2 q106 q107 q108 q3 q109 nm_m_rep ⟨rfl, rfl⟩ ⟨Nat.le_of_ble_eq_true rfl, Nat.le_of_ble_eq_true rfl⟩ rfl rfl rfl [0, 3] [1, 2, 4, 5, 6] ⟨rfl, rfl, rfl, rfl, by decide⟩ rfl hl.1 rfl (Nat.le_of_ble_eq_true rfl) ⟨Nat.le_of_ble_eq_true rfl, Nat.le_of_ble_eq_true rfl⟩ dX0_trip_133 (fun r_21 u H locs hp hS => ?_)
            have hS : z_S G [(bc, .inr (1, [])), (bd, .inr (2, [])), (bp, z_B G 16464 p0), (bo, z_B G 16384 o0), (x2, z_B G 16384 tl), (b0, .inr (0, [.ref bc, .ref bd, .ref bt, .ref bp, .ref bo, .int (nI (n + z_k n a1)), .int ln, .int (nI bk)])), (bt, z_B G 16384 u)] A s H locs := hS
            obtain ⟨rfl, g1, g2⟩ := hp
            have hS := hS.sub (ws' := [(b0, .inr (0, [.ref bc, .ref bd, .ref bt, .ref bp, .ref bo, .int (nI (n + z_k n a1)), .int ln, .int (nI bk)])), (bc, .inr (1, [])), (bd, .inr (2, [])), (bt, z_B G 16384 u), (bp, z_B G 16464 p0), (bo, z_B G 16384 o0), (x2, z_B G 16384 tl)]) [5, 0, 1, 6, 2, 3, 4] rfl rfl
            refine lv_istore (lv' := [(7, .int (nI (z_k n a1))), (6, .int a1), (5, .int a0), (0, .ref b0), (1, .ref b), (2, .ref x2), (3, .int (nI n)), (4, .int (nI k0))]) X.x X.b dX0_trip_136 hl (by decide) rfl (fun ls hl => ?_)
            refine lv_iload_n X.x X.b dX0_trip_138 rfl (lv_at hl 6 rfl) ?_
            refine z_if_ne (tgt := 153) X.x X.b dX0_trip_139 (by decide) (by omega) (fun c_22 => ?_) (fun c_22 => by exfalso; omega)
            refine lv_iload_n X.x X.b dX0_trip_153 rfl (lv_at hl 6 rfl) ?_
            refine z_if_ne (tgt := 161) X.x X.b dX0_trip_154 (by decide) (by omega) (fun c_23 => ?_) (fun c_23 => by exfalso; omega)
            have hg := z_ab_lt a0
            refine lv_iload X.x X.b dX0_trip_161 (lv_at hl 2 rfl) ?_
            refine z_ldc (v := 2147483647) X rfl q111 dX0_trip_163 ?_
            refine lv_iand X.x X.b dX0_trip_165 ?_
            refine z_top (y := (nI (z_ab a0))) (z_andM _) ?_
            refine lv_iload_n X.x X.b dX0_trip_166 rfl (lv_at hl 6 rfl) ?_
            refine z_irem X.x X.b dX0_trip_167 (by omega) (by omega) (by omega) ?_
            refine lv_istore (lv' := [(8, .int (nI ((z_ab a0) % n))), (7, .int (nI (z_k n a1))), (6, .int a1), (5, .int a0), (0, .ref b0), (1, .ref b), (2, .ref x2), (3, .int (nI n)), (4, .int (nI k0))]) X.x X.b dX0_trip_168 hl (by decide) rfl (fun ls hl => ?_)
            refine lv_iconst (v := (nI 0)) X.x X.b dX0_trip_170 (by decide) ?_
            refine lv_istore (lv' := [(9, .int (nI 0)), (8, .int (nI ((z_ab a0) % n))), (7, .int (nI (z_k n a1))), (6, .int a1), (5, .int a0), (0, .ref b0), (1, .ref b), (2, .ref x2), (3, .int (nI n)), (4, .int (nI k0))]) X.x X.b dX0_trip_171 hl (by decide) rfl (fun ls hl => ?_)
            have hk2 : z_k n a1 ≤ 16384 - n := Nat.min_le_right _ _
            have hm : z_ab a0 % n < n := Nat.mod_lt _ hb
            refine lo_trep b0 bc bd bt bp bo x2 b Ls xs hLs n k0 ln bk u p0 o0 tl (z_ab a0 % n) (z_k n a1) hm (by omega) X (fun tl2 h1 h2 H locs ls hS hl => ?_) (z_k n a1 + 1) 0 tl (by omega) (Nat.zero_le _) (fun _ _ => rfl) (fun j hj => absurd hj (Nat.not_lt_zero _)) H _ ls hS (lv_sub hl [5, 6, 7, 8, 9, 2, 1, 0] rfl)
            refine lv_iload_n X.x X.b dX0_trip_199 rfl (lv_at hl 3 rfl) ?_
            refine lv_iload X.x X.b dX0_trip_200 (lv_at hl 5 rfl) ?_
            refine z_iadd X.x X.b dX0_trip_202 ?_
            refine lv_istore_n (lv' := [(3, .int (nI (n + (z_k n a1)))), (0, .ref b0), (1, .ref b), (2, .ref x2), (4, .int (nI k0)), (7, .int (nI (z_k n a1)))]) X.x X.b dX0_trip_203 rfl hl (by decide) rfl (fun ls hl => ?_)
            refine lv_goto (tgt := 276) X.x X.b dX0_trip_204 (by decide) ?_
            refine lv_aload_n X.x X.b dX0_trip_276 rfl (lv_at hl 1 rfl) ?_
            have hl : lv_has ls 10 [(3, .int (nI (n + z_k n a1))), (0, .ref b0), (1, .ref b), (2, .ref x2), (4, .int (nI k0)), (7, .int (nI (z_k n a1)))] := by have e : n + (z_k n a1) = n + z_k n a1 := (by omega); rw [e] at hl; exact hl
            refine z_cVi (ci := 0) (q0 := 0) (wr := [(bc, .inr (1, [])), (bd, .inr (2, [])), (bt, z_B G 16384 u), (bp, z_B G 16464 p0), (bo, z_B G 16384 o0), (x2, z_B G 16384 tl2)]) X rfl z_E0ok trivial hS (m_size l G b0 bc bd bt bp bo (n + z_k n a1) ln bk (by omega)) 0 q120 q121 q122 q3 q123 nm_m_size ⟨rfl, rfl⟩ ⟨Nat.le_of_ble_eq_true rfl, Nat.le_of_ble_eq_true rfl⟩ rfl rfl rfl [0] [1, 2, 3, 4, 5, 6] ⟨rfl, rfl, rfl, rfl, by decide⟩ rfl hl.1 rfl (Nat.le_of_ble_eq_true rfl) ⟨Nat.le_of_ble_eq_true rfl, Nat.le_of_ble_eq_true rfl⟩ dX0_trip_277 (fun r_24 u_25 H locs hp hS => ?_)
            have hS : z_S G [(bc, .inr (1, [])), (bd, .inr (2, [])), (bt, z_B G 16384 u), (bp, z_B G 16464 p0), (bo, z_B G 16384 o0), (x2, z_B G 16384 tl2), (b0, .inr (0, [.ref bc, .ref bd, .ref bt, .ref bp, .ref bo, .int (nI (n + z_k n a1)), .int ln, .int (nI bk)]))] A s H locs := hS
            subst hp
            have hS := hS.sub (ws' := [(b0, .inr (0, [.ref bc, .ref bd, .ref bt, .ref bp, .ref bo, .int (nI (n + z_k n a1)), .int ln, .int (nI bk)])), (bc, .inr (1, [])), (bd, .inr (2, [])), (bt, z_B G 16384 u), (bp, z_B G 16464 p0), (bo, z_B G 16384 o0), (x2, z_B G 16384 tl2)]) [6, 0, 1, 2, 3, 4, 5] rfl rfl
            refine lv_iload_n X.x X.b dX0_trip_280 rfl (lv_at hl 0 rfl) ?_
            refine z_icmp_eq (tgt := 286) X.x X.b dX0_trip_281 (by decide) (by omega) (by omega) (fun c_26 => ?_) (fun c_26 => by exfalso; omega)
            refine z_iinc (d := 3) (lv' := [(4, .int (nI (k0 + 3))), (3, .int (nI (n + z_k n a1))), (0, .ref b0), (1, .ref b), (2, .ref x2), (7, .int (nI (z_k n a1)))]) X.x X.b dX0_trip_286 hl (k := 4) rfl (by decide) (by decide) rfl (fun ls hl => ?_)
            refine lv_goto (tgt := 11) X.x X.b dX0_trip_289 (by decide) ?_
            exact ih (n + z_k n a1) (k0 + 3) u tl2 (by omega) (by omega) (by omega) (fun j hj => z_rep_c hm ht h1 h2 g1 g2 j hj) H _ ls hS (lv_sub hl [2, 3, 4, 1, 0] rfl)
      · refine lv_aload_n X.x X.b dX0_trip_45 rfl (lv_at hl 2 rfl) ?_
        refine lv_iload X.x X.b dX0_trip_46 (lv_at hl 1 rfl) ?_
        refine lv_iload X.x X.b dX0_trip_48 (lv_at hl 0 rfl) ?_
        refine lv_iload X.x X.b dX0_trip_50 (lv_at hl 1 rfl) ?_
        refine lv_iload X.x X.b dX0_trip_52 (lv_at hl 0 rfl) ?_
        refine lv_ixor X.x X.b dX0_trip_54 ?_
        refine lv_iload X.x X.b dX0_trip_55 (lv_at hl 1 rfl) ?_
        refine lv_iload X.x X.b dX0_trip_57 (lv_at hl 0 rfl) ?_
        refine lv_isub X.x X.b dX0_trip_59 ?_
        rcases Nat.lt_or_ge 16368 n with hb | hb
        · refine z_cVi (ci := 0) (q0 := 0) (wr := [(bc, .inr (1, [])), (bd, .inr (2, [])), (bp, z_B G 16464 p0), (bo, z_B G 16384 o0), (x2, z_B G 16384 tl)]) X rfl z_E0ok trivial hS (m_put0 l G b0 bc bd bt bp bo n ln bk (by omega) t a0 a1 (a0 ^^^ a1) (a0 - a1) (by omega)) 4 q95 q96 q97 q3 q98 nm_m_put0 ⟨rfl, rfl⟩ ⟨Nat.le_of_ble_eq_true rfl, Nat.le_of_ble_eq_true rfl⟩ rfl rfl rfl [0, 3] [1, 2, 4, 5, 6] ⟨rfl, rfl, rfl, rfl, by decide⟩ rfl hl.1 rfl (Nat.le_of_ble_eq_true rfl) ⟨Nat.le_of_ble_eq_true rfl, Nat.le_of_ble_eq_true rfl⟩ dX0_trip_60 (fun r_27 u_28 H locs hp hS => ?_)
          have hS : z_S G [(bc, .inr (1, [])), (bd, .inr (2, [])), (bp, z_B G 16464 p0), (bo, z_B G 16384 o0), (x2, z_B G 16384 tl), (b0, .inr (0, [.ref bc, .ref bd, .ref bt, .ref bp, .ref bo, .int (nI n), .int ln, .int (nI bk)])), (bt, z_B G 16384 t)] A s H locs := hS
          subst hp
          have hS := hS.sub (ws' := [(b0, .inr (0, [.ref bc, .ref bd, .ref bt, .ref bp, .ref bo, .int (nI n), .int ln, .int (nI bk)])), (bc, .inr (1, [])), (bd, .inr (2, [])), (bt, z_B G 16384 t), (bp, z_B G 16464 p0), (bo, z_B G 16384 o0), (x2, z_B G 16384 tl)]) [5, 0, 1, 6, 2, 3, 4] rfl rfl
          refine lv_if_eq (tgt := 107) X.x X.b dX0_trip_63 (by decide) (fun _ => ?_) (fun c1 => absurd rfl c1)
          refine lv_iload_n X.x X.b dX0_trip_107 rfl (lv_at hl 5 rfl) ?_
          refine lv_aload_n X.x X.b dX0_trip_108 rfl (lv_at hl 4 rfl) ?_
          refine z_balen X hS 6 rfl dX0_trip_109 ?_
          refine lv_bipush (v := (nI 16)) X.x X.b dX0_trip_110 (by decide) ?_
          refine z_isub X.x X.b dX0_trip_112 (by omega) ?_
          refine z_icmp_gt (tgt := 276) X.x X.b dX0_trip_113 (by decide) (by omega) (by omega) (fun c_29 => ?_) (fun c_29 => by exfalso; omega)
          refine lv_aload_n X.x X.b dX0_trip_276 rfl (lv_at hl 2 rfl) ?_
          refine z_cVi (ci := 0) (q0 := 0) (wr := [(bc, .inr (1, [])), (bd, .inr (2, [])), (bt, z_B G 16384 t), (bp, z_B G 16464 p0), (bo, z_B G 16384 o0), (x2, z_B G 16384 tl)]) X rfl z_E0ok trivial hS (m_size l G b0 bc bd bt bp bo n ln bk (by omega)) 0 q120 q121 q122 q3 q123 nm_m_size ⟨rfl, rfl⟩ ⟨Nat.le_of_ble_eq_true rfl, Nat.le_of_ble_eq_true rfl⟩ rfl rfl rfl [0] [1, 2, 3, 4, 5, 6] ⟨rfl, rfl, rfl, rfl, by decide⟩ rfl hl.1 rfl (Nat.le_of_ble_eq_true rfl) ⟨Nat.le_of_ble_eq_true rfl, Nat.le_of_ble_eq_true rfl⟩ dX0_trip_277 (fun r_30 u_31 H locs hp hS => ?_)
          have hS : z_S G [(bc, .inr (1, [])), (bd, .inr (2, [])), (bt, z_B G 16384 t), (bp, z_B G 16464 p0), (bo, z_B G 16384 o0), (x2, z_B G 16384 tl), (b0, .inr (0, [.ref bc, .ref bd, .ref bt, .ref bp, .ref bo, .int (nI n), .int ln, .int (nI bk)]))] A s H locs := hS
          subst hp
          have hS := hS.sub (ws' := [(b0, .inr (0, [.ref bc, .ref bd, .ref bt, .ref bp, .ref bo, .int (nI n), .int ln, .int (nI bk)])), (bc, .inr (1, [])), (bd, .inr (2, [])), (bt, z_B G 16384 t), (bp, z_B G 16464 p0), (bo, z_B G 16384 o0), (x2, z_B G 16384 tl)]) [6, 0, 1, 2, 3, 4, 5] rfl rfl
          refine lv_iload_n X.x X.b dX0_trip_280 rfl (lv_at hl 5 rfl) ?_
          refine z_icmp_eq (tgt := 286) X.x X.b dX0_trip_281 (by decide) (by omega) (by omega) (fun c_32 => ?_) (fun c_32 => by exfalso; omega)
          refine z_iinc (d := 3) (lv' := [(4, .int (nI (k0 + 3))), (6, .int a1), (5, .int a0), (0, .ref b0), (1, .ref b), (2, .ref x2), (3, .int (nI n))]) X.x X.b dX0_trip_286 hl (k := 6) rfl (by decide) (by decide) rfl (fun ls hl => ?_)
          refine lv_goto (tgt := 11) X.x X.b dX0_trip_289 (by decide) ?_
          exact ih n (k0 + 3) t tl (by omega) (by omega) (by omega) (ht) H _ ls hS (lv_sub hl [3, 4, 5, 6, 0] rfl)
        · refine z_cVi (ci := 0) (q0 := 0) (wr := [(bc, .inr (1, [])), (bd, .inr (2, [])), (bp, z_B G 16464 p0), (bo, z_B G 16384 o0), (x2, z_B G 16384 tl)]) X rfl z_E0ok trivial hS (m_put1 l G b0 bc bd bt bp bo n ln bk (by omega) t a0 a1 (a0 ^^^ a1) (a0 - a1) (by omega)) 4 q95 q96 q97 q3 q98 nm_m_put1 ⟨rfl, rfl⟩ ⟨Nat.le_of_ble_eq_true rfl, Nat.le_of_ble_eq_true rfl⟩ rfl rfl rfl [0, 3] [1, 2, 4, 5, 6] ⟨rfl, rfl, rfl, rfl, by decide⟩ rfl hl.1 rfl (Nat.le_of_ble_eq_true rfl) ⟨Nat.le_of_ble_eq_true rfl, Nat.le_of_ble_eq_true rfl⟩ dX0_trip_60 (fun r_33 u_34 H locs hp hS => ?_)
          have hS : z_S G [(bc, .inr (1, [])), (bd, .inr (2, [])), (bp, z_B G 16464 p0), (bo, z_B G 16384 o0), (x2, z_B G 16384 tl), (b0, .inr (0, [.ref bc, .ref bd, .ref bt, .ref bp, .ref bo, .int (nI (n + 16)), .int ln, .int (nI bk)])), (bt, z_B G 16384 (z_w16 t n a0 a1 (a0 ^^^ a1) (a0 - a1)))] A s H locs := hS
          subst hp
          have hS := hS.sub (ws' := [(b0, .inr (0, [.ref bc, .ref bd, .ref bt, .ref bp, .ref bo, .int (nI (n + 16)), .int ln, .int (nI bk)])), (bc, .inr (1, [])), (bd, .inr (2, [])), (bt, z_B G 16384 (z_w16 t n a0 a1 (a0 ^^^ a1) (a0 - a1))), (bp, z_B G 16464 p0), (bo, z_B G 16384 o0), (x2, z_B G 16384 tl)]) [5, 0, 1, 6, 2, 3, 4] rfl rfl
          refine lv_if_eq (tgt := 107) X.x X.b dX0_trip_63 (by decide) (fun c1 => absurd c1 (by decide)) (fun _ => ?_)
          refine lv_aload_n X.x X.b dX0_trip_66 rfl (lv_at hl 4 rfl) ?_
          refine lv_iload_n X.x X.b dX0_trip_67 rfl (lv_at hl 5 rfl) ?_
          refine lv_iload X.x X.b dX0_trip_68 (lv_at hl 1 rfl) ?_
          refine z_cSi (wr := [(b0, .inr (0, [.ref bc, .ref bd, .ref bt, .ref bp, .ref bo, .int (nI (n + 16)), .int ln, .int (nI bk)])), (bc, .inr (1, [])), (bd, .inr (2, [])), (bt, z_B G 16384 (z_w16 t n a0 a1 (a0 ^^^ a1) (a0 - a1))), (bp, z_B G 16464 p0), (bo, z_B G 16384 o0)]) X rfl z_E0ok trivial hS (m_lword l G x2 16384 tl n a0 (by omega) (by decide)) 3 q103 q104 q2 q105 nm_m_lword ⟨rfl, rfl⟩ ⟨Nat.le_of_ble_eq_true rfl, Nat.le_of_ble_eq_true rfl⟩ [6] [0, 1, 2, 3, 4, 5] ⟨rfl, rfl, rfl, rfl, by decide⟩ rfl hl.1 rfl (Nat.le_of_ble_eq_true rfl) ⟨Nat.le_of_ble_eq_true rfl, Nat.le_of_ble_eq_true rfl⟩ dX0_trip_70 (fun r_35 u_36 H locs hp hS => ?_)
          have hS : z_S G [(b0, .inr (0, [.ref bc, .ref bd, .ref bt, .ref bp, .ref bo, .int (nI (n + 16)), .int ln, .int (nI bk)])), (bc, .inr (1, [])), (bd, .inr (2, [])), (bt, z_B G 16384 (z_w16 t n a0 a1 (a0 ^^^ a1) (a0 - a1))), (bp, z_B G 16464 p0), (bo, z_B G 16384 o0), (x2, z_B G 16384 u_36)] A s H locs := hS
          obtain ⟨rfl, rfl⟩ := hp
          refine lv_istore_n (lv' := [(3, .int (nI (n + 4))), (6, .int a1), (5, .int a0), (0, .ref b0), (1, .ref b), (2, .ref x2), (4, .int (nI k0))]) X.x X.b dX0_trip_73 rfl hl (by decide) rfl (fun ls hl => ?_)
          refine lv_aload_n X.x X.b dX0_trip_74 rfl (lv_at hl 5 rfl) ?_
          refine lv_iload_n X.x X.b dX0_trip_75 rfl (lv_at hl 0 rfl) ?_
          refine lv_iload X.x X.b dX0_trip_76 (lv_at hl 1 rfl) ?_
          refine z_cSi (wr := [(b0, .inr (0, [.ref bc, .ref bd, .ref bt, .ref bp, .ref bo, .int (nI (n + 16)), .int ln, .int (nI bk)])), (bc, .inr (1, [])), (bd, .inr (2, [])), (bt, z_B G 16384 (z_w16 t n a0 a1 (a0 ^^^ a1) (a0 - a1))), (bp, z_B G 16464 p0), (bo, z_B G 16384 o0)]) X rfl z_E0ok trivial hS (m_lword l G x2 16384 (z_w4 tl n a0) (n + 4) a1 (by omega) (by decide)) 3 q103 q104 q2 q105 nm_m_lword ⟨rfl, rfl⟩ ⟨Nat.le_of_ble_eq_true rfl, Nat.le_of_ble_eq_true rfl⟩ [6] [0, 1, 2, 3, 4, 5] ⟨rfl, rfl, rfl, rfl, by decide⟩ rfl hl.1 rfl (Nat.le_of_ble_eq_true rfl) ⟨Nat.le_of_ble_eq_true rfl, Nat.le_of_ble_eq_true rfl⟩ dX0_trip_78 (fun r_37 u_38 H locs hp hS => ?_)
          have hS : z_S G [(b0, .inr (0, [.ref bc, .ref bd, .ref bt, .ref bp, .ref bo, .int (nI (n + 16)), .int ln, .int (nI bk)])), (bc, .inr (1, [])), (bd, .inr (2, [])), (bt, z_B G 16384 (z_w16 t n a0 a1 (a0 ^^^ a1) (a0 - a1))), (bp, z_B G 16464 p0), (bo, z_B G 16384 o0), (x2, z_B G 16384 u_38)] A s H locs := hS
          obtain ⟨rfl, rfl⟩ := hp
          refine lv_istore_n (lv' := [(3, .int (nI ((n + 4) + 4))), (6, .int a1), (5, .int a0), (0, .ref b0), (1, .ref b), (2, .ref x2), (4, .int (nI k0))]) X.x X.b dX0_trip_81 rfl hl (by decide) rfl (fun ls hl => ?_)
          refine lv_aload_n X.x X.b dX0_trip_82 rfl (lv_at hl 5 rfl) ?_
          refine lv_iload_n X.x X.b dX0_trip_83 rfl (lv_at hl 0 rfl) ?_
          refine lv_iload X.x X.b dX0_trip_84 (lv_at hl 2 rfl) ?_
          refine lv_iload X.x X.b dX0_trip_86 (lv_at hl 1 rfl) ?_
          refine lv_ixor X.x X.b dX0_trip_88 ?_
          refine z_cSi (wr := [(b0, .inr (0, [.ref bc, .ref bd, .ref bt, .ref bp, .ref bo, .int (nI (n + 16)), .int ln, .int (nI bk)])), (bc, .inr (1, [])), (bd, .inr (2, [])), (bt, z_B G 16384 (z_w16 t n a0 a1 (a0 ^^^ a1) (a0 - a1))), (bp, z_B G 16464 p0), (bo, z_B G 16384 o0)]) X rfl z_E0ok trivial hS (m_lword l G x2 16384 (z_w4 (z_w4 tl n a0) (n + 4) a1) ((n + 4) + 4) (a0 ^^^ a1) (by omega) (by decide)) 3 q103 q104 q2 q105 nm_m_lword ⟨rfl, rfl⟩ ⟨Nat.le_of_ble_eq_true rfl, Nat.le_of_ble_eq_true rfl⟩ [6] [0, 1, 2, 3, 4, 5] ⟨rfl, rfl, rfl, rfl, by decide⟩ rfl hl.1 rfl (Nat.le_of_ble_eq_true rfl) ⟨Nat.le_of_ble_eq_true rfl, Nat.le_of_ble_eq_true rfl⟩ dX0_trip_89 (fun r_39 u_40 H locs hp hS => ?_)
          have hS : z_S G [(b0, .inr (0, [.ref bc, .ref bd, .ref bt, .ref bp, .ref bo, .int (nI (n + 16)), .int ln, .int (nI bk)])), (bc, .inr (1, [])), (bd, .inr (2, [])), (bt, z_B G 16384 (z_w16 t n a0 a1 (a0 ^^^ a1) (a0 - a1))), (bp, z_B G 16464 p0), (bo, z_B G 16384 o0), (x2, z_B G 16384 u_40)] A s H locs := hS
          obtain ⟨rfl, rfl⟩ := hp
          refine lv_istore_n (lv' := [(3, .int (nI (((n + 4) + 4) + 4))), (6, .int a1), (5, .int a0), (0, .ref b0), (1, .ref b), (2, .ref x2), (4, .int (nI k0))]) X.x X.b dX0_trip_92 rfl hl (by decide) rfl (fun ls hl => ?_)
          refine lv_aload_n X.x X.b dX0_trip_93 rfl (lv_at hl 5 rfl) ?_
          refine lv_iload_n X.x X.b dX0_trip_94 rfl (lv_at hl 0 rfl) ?_
          refine lv_iload X.x X.b dX0_trip_95 (lv_at hl 2 rfl) ?_
          refine lv_iload X.x X.b dX0_trip_97 (lv_at hl 1 rfl) ?_
          refine lv_isub X.x X.b dX0_trip_99 ?_
          refine z_cSi (wr := [(b0, .inr (0, [.ref bc, .ref bd, .ref bt, .ref bp, .ref bo, .int (nI (n + 16)), .int ln, .int (nI bk)])), (bc, .inr (1, [])), (bd, .inr (2, [])), (bt, z_B G 16384 (z_w16 t n a0 a1 (a0 ^^^ a1) (a0 - a1))), (bp, z_B G 16464 p0), (bo, z_B G 16384 o0)]) X rfl z_E0ok trivial hS (m_lword l G x2 16384 (z_w4 (z_w4 (z_w4 tl n a0) (n + 4) a1) ((n + 4) + 4) (a0 ^^^ a1)) (((n + 4) + 4) + 4) (a0 - a1) (by omega) (by decide)) 3 q103 q104 q2 q105 nm_m_lword ⟨rfl, rfl⟩ ⟨Nat.le_of_ble_eq_true rfl, Nat.le_of_ble_eq_true rfl⟩ [6] [0, 1, 2, 3, 4, 5] ⟨rfl, rfl, rfl, rfl, by decide⟩ rfl hl.1 rfl (Nat.le_of_ble_eq_true rfl) ⟨Nat.le_of_ble_eq_true rfl, Nat.le_of_ble_eq_true rfl⟩ dX0_trip_100 (fun r_41 u_42 H locs hp hS => ?_)
          have hS : z_S G [(b0, .inr (0, [.ref bc, .ref bd, .ref bt, .ref bp, .ref bo, .int (nI (n + 16)), .int ln, .int (nI bk)])), (bc, .inr (1, [])), (bd, .inr (2, [])), (bt, z_B G 16384 (z_w16 t n a0 a1 (a0 ^^^ a1) (a0 - a1))), (bp, z_B G 16464 p0), (bo, z_B G 16384 o0), (x2, z_B G 16384 u_42)] A s H locs := hS
          obtain ⟨rfl, rfl⟩ := hp
          refine lv_istore_n (lv' := [(3, .int (nI ((((n + 4) + 4) + 4) + 4))), (6, .int a1), (5, .int a0), (0, .ref b0), (1, .ref b), (2, .ref x2), (4, .int (nI k0))]) X.x X.b dX0_trip_103 rfl hl (by decide) rfl (fun ls hl => ?_)
          refine lv_goto (tgt := 276) X.x X.b dX0_trip_104 (by decide) ?_
          refine lv_aload_n X.x X.b dX0_trip_276 rfl (lv_at hl 3 rfl) ?_
          have hl : lv_has ls 10 [(3, .int (nI (n + 16))), (6, .int a1), (5, .int a0), (0, .ref b0), (1, .ref b), (2, .ref x2), (4, .int (nI k0))] := by have e : (((n + 4) + 4) + 4) + 4 = n + 16 := (by omega); rw [e] at hl; exact hl
          refine z_cVi (ci := 0) (q0 := 0) (wr := [(bc, .inr (1, [])), (bd, .inr (2, [])), (bt, z_B G 16384 (z_w16 t n a0 a1 (a0 ^^^ a1) (a0 - a1))), (bp, z_B G 16464 p0), (bo, z_B G 16384 o0), (x2, z_B G 16384 (z_w4 (z_w4 (z_w4 (z_w4 tl n a0) (n + 4) a1) ((n + 4) + 4) (a0 ^^^ a1)) (((n + 4) + 4) + 4) (a0 - a1)))]) X rfl z_E0ok trivial hS (m_size l G b0 bc bd bt bp bo (n + 16) ln bk (by omega)) 0 q120 q121 q122 q3 q123 nm_m_size ⟨rfl, rfl⟩ ⟨Nat.le_of_ble_eq_true rfl, Nat.le_of_ble_eq_true rfl⟩ rfl rfl rfl [0] [1, 2, 3, 4, 5, 6] ⟨rfl, rfl, rfl, rfl, by decide⟩ rfl hl.1 rfl (Nat.le_of_ble_eq_true rfl) ⟨Nat.le_of_ble_eq_true rfl, Nat.le_of_ble_eq_true rfl⟩ dX0_trip_277 (fun r_43 u_44 H locs hp hS => ?_)
          have hS : z_S G [(bc, .inr (1, [])), (bd, .inr (2, [])), (bt, z_B G 16384 (z_w16 t n a0 a1 (a0 ^^^ a1) (a0 - a1))), (bp, z_B G 16464 p0), (bo, z_B G 16384 o0), (x2, z_B G 16384 (z_w4 (z_w4 (z_w4 (z_w4 tl n a0) (n + 4) a1) ((n + 4) + 4) (a0 ^^^ a1)) (((n + 4) + 4) + 4) (a0 - a1))), (b0, .inr (0, [.ref bc, .ref bd, .ref bt, .ref bp, .ref bo, .int (nI (n + 16)), .int ln, .int (nI bk)]))] A s H locs := hS
          subst hp
          have hS := hS.sub (ws' := [(b0, .inr (0, [.ref bc, .ref bd, .ref bt, .ref bp, .ref bo, .int (nI (n + 16)), .int ln, .int (nI bk)])), (bc, .inr (1, [])), (bd, .inr (2, [])), (bt, z_B G 16384 (z_w16 t n a0 a1 (a0 ^^^ a1) (a0 - a1))), (bp, z_B G 16464 p0), (bo, z_B G 16384 o0), (x2, z_B G 16384 (z_w4 (z_w4 (z_w4 (z_w4 tl n a0) (n + 4) a1) ((n + 4) + 4) (a0 ^^^ a1)) (((n + 4) + 4) + 4) (a0 - a1)))]) [6, 0, 1, 2, 3, 4, 5] rfl rfl
          refine lv_iload_n X.x X.b dX0_trip_280 rfl (lv_at hl 0 rfl) ?_
          refine z_icmp_eq (tgt := 286) X.x X.b dX0_trip_281 (by decide) (by omega) (by omega) (fun c_45 => ?_) (fun c_45 => by exfalso; omega)
          refine z_iinc (d := 3) (lv' := [(4, .int (nI (k0 + 3))), (3, .int (nI (n + 16))), (6, .int a1), (5, .int a0), (0, .ref b0), (1, .ref b), (2, .ref x2)]) X.x X.b dX0_trip_286 hl (k := 6) rfl (by decide) (by decide) rfl (fun ls hl => ?_)
          refine lv_goto (tgt := 11) X.x X.b dX0_trip_289 (by decide) ?_
          exact ih (n + 16) (k0 + 3) (z_w16 t n a0 a1 (a0 ^^^ a1) (a0 - a1)) (z_w4 (z_w4 (z_w4 (z_w4 tl n a0) (n + 4) a1) ((n + 4) + 4) (a0 ^^^ a1)) (((n + 4) + 4) + 4) (a0 - a1)) (by omega) (by omega) (by omega) (z_w16_c rfl rfl rfl ht) H _ ls hS (lv_sub hl [4, 5, 6, 1, 0] rfl)
set_option maxHeartbeats 4000000 in
theorem lo_tcmp {p : Program} {l : Launch} {e : Env} {s : State} {m : MethodId} {args : Array Value} {below : List Frame} {meth : Method} {c : Code} {A : Nat → Prop} {G : z_G} {Q : State → Prop} (b0 bc bd bt bp bo x2 : Nat) (n : Nat) (ln : Int32) (t p0 o tl : Nat → Int8) (hn : n ≤ 16384) (ht : ∀ j, j < n → tl j = t j) (ho : ∀ j, j < n → o j = t j) (X : z_X p s m args meth c yX0_trip cX0_trip 10 (some .boolean) G A) (K : ∀ (_ : Unit), ∀ (H : Heap) (locs : List Loc) (ls : Array Slot), z_S G [(b0, .inr (0, [.ref bc, .ref bd, .ref bt, .ref bp, .ref bo, .int (nI n), .int ln, .int (nI n)])), (bc, .inr (1, [])), (bd, .inr (2, [])), (bt, z_B G 16384 t), (bp, z_B G 16464 p0), (bo, z_B G 16384 o), (x2, z_B G 16384 tl)] A s H locs → lv_has ls 10 [(0, .ref b0), (2, .ref x2), (3, .int (nI n))] → W p l e (z_rm 5 2 24576 220) s m args below meth c H locs 2 24576 Q (F0 m 345 ls [])) :
    ∀ (k : Nat) (i : Nat), n - i < k → i ≤ n → ∀ (H : Heap) (locs : List Loc) (ls : Array Slot), z_S G [(b0, .inr (0, [.ref bc, .ref bd, .ref bt, .ref bp, .ref bo, .int (nI n), .int ln, .int (nI n)])), (bc, .inr (1, [])), (bd, .inr (2, [])), (bt, z_B G 16384 t), (bp, z_B G 16464 p0), (bo, z_B G 16384 o), (x2, z_B G 16384 tl)] A s H locs → lv_has ls 10 [(0, .ref b0), (2, .ref x2), (3, .int (nI n)), (4, .int (nI i))] → W p l e (z_rm 5 2 24576 220) s m args below meth c H locs 2 24576 Q (F0 m 314 ls []) := by
  intro k
  induction k with
  | zero =>
    intro i hk
    exact absurd hk (Nat.not_lt_zero _)
  | succ k ih =>
    intro i hk hi H locs ls hS hl
    refine lv_iload X.x X.b dX0_trip_314 (lv_at hl 3 rfl) ?_
    refine lv_iload_n X.x X.b dX0_trip_316 rfl (lv_at hl 2 rfl) ?_
    refine z_icmp_ge (tgt := 345) X.x X.b dX0_trip_317 (by decide) (by omega) (by omega) (fun c1 => ?_) (fun c1 => ?_)
    · exact K () H _ ls hS (lv_sub hl [0, 1, 2] rfl)
    · refine lv_aload_n X.x X.b dX0_trip_320 rfl (lv_at hl 0 rfl) ?_
      refine lv_iload X.x X.b dX0_trip_321 (lv_at hl 3 rfl) ?_
      refine z_cVi (ci := 0) (q0 := 0) (wr := [(bc, .inr (1, [])), (bd, .inr (2, [])), (bt, z_B G 16384 t), (bp, z_B G 16464 p0), (x2, z_B G 16384 tl)]) X rfl z_E0ok trivial hS (m_opened l G b0 bc bd bt bp bo n ln n (by omega) (by omega) (by omega) o (nI i)) 1 q628 q629 q630 q3 q631 nm_m_opened ⟨rfl, rfl⟩ ⟨Nat.le_of_ble_eq_true rfl, Nat.le_of_ble_eq_true rfl⟩ rfl rfl rfl [0, 5] [1, 2, 3, 4, 6] ⟨rfl, rfl, rfl, rfl, by decide⟩ rfl hl.1 rfl (Nat.le_of_ble_eq_true rfl) ⟨Nat.le_of_ble_eq_true rfl, Nat.le_of_ble_eq_true rfl⟩ dX0_trip_323 (fun r_1 u_2 H locs hp hS => ?_)
      have hS : z_S G [(bc, .inr (1, [])), (bd, .inr (2, [])), (bt, z_B G 16384 t), (bp, z_B G 16464 p0), (x2, z_B G 16384 tl), (b0, .inr (0, [.ref bc, .ref bd, .ref bt, .ref bp, .ref bo, .int (nI n), .int ln, .int (nI n)])), (bo, z_B G 16384 o)] A s H locs := hS
      subst hp
      have hS := hS.sub (ws' := [(b0, .inr (0, [.ref bc, .ref bd, .ref bt, .ref bp, .ref bo, .int (nI n), .int ln, .int (nI n)])), (bc, .inr (1, [])), (bd, .inr (2, [])), (bt, z_B G 16384 t), (bp, z_B G 16464 p0), (bo, z_B G 16384 o), (x2, z_B G 16384 tl)]) [5, 0, 1, 2, 3, 6, 4] rfl rfl
      refine z_top (y := (nI (z_ub (o (i))))) (congrArg (fun q => nI (z_ub (o q))) (z_mod_self c1 hn)) ?_
      refine lv_aload_n X.x X.b dX0_trip_326 rfl (lv_at hl 1 rfl) ?_
      refine lv_iload X.x X.b dX0_trip_327 (lv_at hl 3 rfl) ?_
      refine z_bald X hS 6 rfl (i := i) (by omega) (by omega) dX0_trip_329 ?_
      have hb1 := z_ub_lt (o i)
      have hb2 := z_ub_lt (tl i)
      have hb3 : z_ub (o i) = z_ub (tl i) := congrArg z_ub ((ho i c1).trans (ht i c1).symm)
      refine lv_sipush (v := (nI 255)) X.x X.b dX0_trip_330 (by decide) ?_
      refine lv_iand X.x X.b dX0_trip_333 ?_
      refine z_top (y := (nI (z_ub (tl i)))) (z_and255 _) ?_
      refine z_icmp_eq (tgt := 339) X.x X.b dX0_trip_334 (by decide) (by omega) (by omega) (fun c_3 => ?_) (fun c_3 => by exfalso; omega)
      refine z_iinc (d := 1) (lv' := [(4, .int (nI (i + 1))), (0, .ref b0), (2, .ref x2), (3, .int (nI n))]) X.x X.b dX0_trip_339 hl (k := 3) rfl (by decide) (by decide) rfl (fun ls hl => ?_)
      refine lv_goto (tgt := 314) X.x X.b dX0_trip_342 (by decide) ?_
      exact ih (i + 1) (by omega) (by omega) H _ ls hS (lv_sub hl [1, 2, 3, 0] rfl)
theorem nm_m_trip : z_Nm yX0_trip 2 := by decide +kernel
set_option maxHeartbeats 4000000 in
theorem m_trip (l : Launch) (G : z_G) (b0 bc bd bt bp bo b Ls : Nat) (xs : Nat → Int32) (hLs : Ls ≤ 96) (ln : Int32) (bk : Nat) (t0 p0 o0 : Nat → Int8) : z_Mi l yX0_trip cX0_trip 10 .boolean (z_rm 5 2 24576 220) 2 24576 G (z_E3 b Ls xs) [.ref b0, .ref b] [(b0, .inr (0, [.ref bc, .ref bd, .ref bt, .ref bp, .ref bo, .int (nI 0), .int ln, .int (nI bk)])), (bc, .inr (1, [])), (bd, .inr (2, [])), (bt, z_B G 16384 t0), (bp, z_B G 16464 p0), (bo, z_B G 16384 o0)] (S := Unit) (fun r _ => r = 1) (fun _ => []) := by
  refine Mi.mk (by decide) (Nat.le_of_ble_eq_true rfl) ?_
  intro p e s m below meth c A ls X hE hS hl
  have hl : lv_has ls 10 [(0, .ref b0), (1, .ref b)] := hl
  refine lv_sipush (v := (nI 16384)) X.x X.b dX0_trip_0 (by decide) ?_
  refine z_newb X q91 hS (by omega) (by decide) (by decide) dX0_trip_3 (fun q_1 H hS => ?_)
  have hS : z_S G [(b0, .inr (0, [.ref bc, .ref bd, .ref bt, .ref bp, .ref bo, .int (nI 0), .int ln, .int (nI bk)])), (bc, .inr (1, [])), (bd, .inr (2, [])), (bt, z_B G 16384 t0), (bp, z_B G 16464 p0), (bo, z_B G 16384 o0), (q_1, z_B G 16384 (fun _ => 0))] A s H _ := hS
  refine lv_astore_n (lv' := [(2, .ref q_1), (0, .ref b0), (1, .ref b)]) X.x X.b dX0_trip_5 rfl hl (by decide) rfl (fun ls hl => ?_)
  refine lv_iconst (v := (nI 0)) X.x X.b dX0_trip_6 (by decide) ?_
  refine lv_istore_n (lv' := [(3, .int (nI 0)), (2, .ref q_1), (0, .ref b0), (1, .ref b)]) X.x X.b dX0_trip_7 rfl hl (by decide) rfl (fun ls hl => ?_)
  refine lv_iconst (v := (nI 0)) X.x X.b dX0_trip_8 (by decide) ?_
  refine lv_istore (lv' := [(4, .int (nI 0)), (3, .int (nI 0)), (2, .ref q_1), (0, .ref b0), (1, .ref b)]) X.x X.b dX0_trip_9 hl (by decide) rfl (fun ls hl => ?_)
  refine lo_trip b0 bc bd bt bp bo q_1 b Ls xs hLs ln bk p0 o0 X hE (fun n t tl hn ht H locs ls hS hl => ?_) (Ls + 1) 0 0 t0 (fun _ => 0) (by omega) (Nat.zero_le _) (Nat.zero_le _) (fun j hj => absurd hj (Nat.not_lt_zero _)) H _ ls hS (lv_sub hl [3, 4, 2, 1, 0] rfl)
  refine lv_aload_n X.x X.b dX0_trip_292 rfl (lv_at hl 0 rfl) ?_
  refine z_cVi (ci := 0) (q0 := 0) (wr := [(bd, .inr (2, [])), (bo, z_B G 16384 o0), (q_1, z_B G 16384 tl)]) X rfl z_E2ok hE.1 hS (m_pack l G b0 bc bd bt bp bo n ln bk (by omega) t p0) 0 q124 q125 q126 q3 q127 nm_m_pack ⟨rfl, rfl⟩ ⟨Nat.le_of_ble_eq_true rfl, Nat.le_of_ble_eq_true rfl⟩ rfl rfl rfl [0, 1, 3, 4] [2, 5, 6] ⟨rfl, rfl, rfl, rfl, by decide⟩ rfl hl.1 rfl (Nat.le_of_ble_eq_true rfl) ⟨Nat.le_of_ble_eq_true rfl, Nat.le_of_ble_eq_true rfl⟩ dX0_trip_293 (fun r_2 u_3 H locs hp hS => ?_)
  have hS : z_S G [(bd, .inr (2, [])), (bo, z_B G 16384 o0), (q_1, z_B G 16384 tl), (b0, .inr (0, [.ref bc, .ref bd, .ref bt, .ref bp, .ref bo, .int (nI n), .int (nI u_3.1), .int (nI bk)])), (bc, .inr (1, [])), (bt, z_B G 16384 t), (bp, z_B G 16464 u_3.2)] A s H locs := hS
  obtain ⟨rfl, hL, hok⟩ := hp
  obtain ⟨L1, p1⟩ := u_3
  have hS : z_S G [(bd, .inr (2, [])), (bo, z_B G 16384 o0), (q_1, z_B G 16384 tl), (b0, .inr (0, [.ref bc, .ref bd, .ref bt, .ref bp, .ref bo, .int (nI n), .int (nI L1), .int (nI bk)])), (bc, .inr (1, [])), (bt, z_B G 16384 t), (bp, z_B G 16464 p1)] A s H locs := hS
  have hS := hS.sub (ws' := [(b0, .inr (0, [.ref bc, .ref bd, .ref bt, .ref bp, .ref bo, .int (nI n), .int (nI L1), .int (nI bk)])), (bc, .inr (1, [])), (bd, .inr (2, [])), (bt, z_B G 16384 t), (bp, z_B G 16464 p1), (bo, z_B G 16384 o0), (q_1, z_B G 16384 tl)]) [3, 4, 0, 5, 6, 1, 2] rfl rfl
  refine lv_if_ne (tgt := 301) X.x X.b dX0_trip_296 (by decide) (fun _ => ?_) (fun c1 => absurd c1 (by decide))
  refine lv_aload_n X.x X.b dX0_trip_301 rfl (lv_at hl 0 rfl) ?_
  refine z_cVi (ci := 0) (q0 := 0) (wr := [(bc, .inr (1, [])), (bt, z_B G 16384 t), (q_1, z_B G 16384 tl)]) X rfl z_E2ok hE.1 hS (m_open l G b0 bc bd bt bp bo n bk (by omega) p1 t o0 L1 n hok (by omega) hL) 0 q351 q352 q353 q3 q354 nm_m_open ⟨rfl, rfl⟩ ⟨Nat.le_of_ble_eq_true rfl, Nat.le_of_ble_eq_true rfl⟩ rfl rfl rfl [0, 2, 4, 5] [1, 3, 6] ⟨rfl, rfl, rfl, rfl, by decide⟩ rfl hl.1 rfl (Nat.le_of_ble_eq_true rfl) ⟨Nat.le_of_ble_eq_true rfl, Nat.le_of_ble_eq_true rfl⟩ dX0_trip_302 (fun r_4 o1 H locs hp hS => ?_)
  have hS : z_S G [(bc, .inr (1, [])), (bt, z_B G 16384 t), (q_1, z_B G 16384 tl), (b0, .inr (0, [.ref bc, .ref bd, .ref bt, .ref bp, .ref bo, .int (nI n), .int (nI L1), .int (nI n)])), (bd, .inr (2, [])), (bp, z_B G 16464 p1), (bo, z_B G 16384 o1)] A s H locs := hS
  obtain ⟨rfl, ho⟩ := hp
  have hS := hS.sub (ws' := [(b0, .inr (0, [.ref bc, .ref bd, .ref bt, .ref bp, .ref bo, .int (nI n), .int (nI L1), .int (nI n)])), (bc, .inr (1, [])), (bd, .inr (2, [])), (bt, z_B G 16384 t), (bp, z_B G 16464 p1), (bo, z_B G 16384 o1), (q_1, z_B G 16384 tl)]) [3, 0, 4, 1, 5, 6, 2] rfl rfl
  refine lv_iload_n X.x X.b dX0_trip_305 rfl (lv_at hl 2 rfl) ?_
  refine z_icmp_eq (tgt := 311) X.x X.b dX0_trip_306 (by decide) (by omega) (by omega) (fun c_5 => ?_) (fun c_5 => by exfalso; omega)
  refine lv_iconst (v := (nI 0)) X.x X.b dX0_trip_311 (by decide) ?_
  refine lv_istore (lv' := [(4, .int (nI 0)), (0, .ref b0), (2, .ref q_1), (3, .int (nI n))]) X.x X.b dX0_trip_312 hl (by decide) rfl (fun ls hl => ?_)
  refine lo_tcmp b0 bc bd bt bp bo q_1 n (nI L1) t p1 o1 tl hn ht ho X (fun _ H locs ls hS hl => ?_) (n + 1) 0 (by omega) (Nat.zero_le _) H _ ls hS (lv_sub hl [1, 2, 3, 0] rfl)
  refine lv_iload_n X.x X.b dX0_trip_345 rfl (lv_at hl 2 rfl) ?_
  refine z_if_gt (tgt := 358) X.x X.b dX0_trip_346 (by decide) (by omega) (fun c1 => ?_) (fun c1 => ?_)
  · refine lv_iconst (v := (nI 1)) X.x X.b dX0_trip_358 (by decide) ?_
    refine lv_goto (tgt := 363) X.x X.b dX0_trip_359 (by decide) ?_
    exact z_iret X hS () (rfl) (rfl) [] rfl rfl dX0_trip_363
  · refine lv_aload_n X.x X.b dX0_trip_349 rfl (lv_at hl 0 rfl) ?_
    refine lv_iconst (v := (nI 0)) X.x X.b dX0_trip_350 (by decide) ?_
    subst c1
    refine z_cVi (ci := 0) (q0 := 0) (wr := [(bc, .inr (1, [])), (bd, .inr (2, [])), (bt, z_B G 16384 t), (bp, z_B G 16464 p1), (bo, z_B G 16384 o1), (q_1, z_B G 16384 tl)]) X rfl z_E0ok trivial hS (m_opened0 l G b0 bc bd bt bp bo 0 (nI L1) (nI 0)) 1 q628 q629 q630 q3 q631 nm_m_opened0 ⟨rfl, rfl⟩ ⟨Nat.le_of_ble_eq_true rfl, Nat.le_of_ble_eq_true rfl⟩ rfl rfl rfl [0] [1, 2, 3, 4, 5, 6] ⟨rfl, rfl, rfl, rfl, by decide⟩ rfl hl.1 rfl (Nat.le_of_ble_eq_true rfl) ⟨Nat.le_of_ble_eq_true rfl, Nat.le_of_ble_eq_true rfl⟩ dX0_trip_351 (fun r_6 u_7 H locs hp hS => ?_)
    have hS : z_S G [(bc, .inr (1, [])), (bd, .inr (2, [])), (bt, z_B G 16384 t), (bp, z_B G 16464 p1), (bo, z_B G 16384 o1), (q_1, z_B G 16384 tl), (b0, .inr (0, [.ref bc, .ref bd, .ref bt, .ref bp, .ref bo, .int (nI 0), .int (nI L1), .int (nI 0)]))] A s H locs := hS
    subst hp
    have hS := hS.sub (ws' := [(b0, .inr (0, [.ref bc, .ref bd, .ref bt, .ref bp, .ref bo, .int (nI 0), .int (nI L1), .int (nI 0)])), (bc, .inr (1, [])), (bd, .inr (2, [])), (bt, z_B G 16384 t), (bp, z_B G 16464 p1), (bo, z_B G 16384 o1), (q_1, z_B G 16384 tl)]) [6, 0, 1, 2, 3, 4, 5] rfl rfl
    refine lv_iconst (v := (-1 : Int32)) X.x X.b dX0_trip_354 (by decide) ?_
    refine lv_icmp_ne (tgt := 362) X.x X.b dX0_trip_355 (by decide) (fun c2 => absurd rfl c2) (fun _ => ?_)
    refine lv_iconst (v := (nI 1)) X.x X.b dX0_trip_358 (by decide) ?_
    refine lv_goto (tgt := 363) X.x X.b dX0_trip_359 (by decide) ?_
    exact z_iret X hS () (rfl) (rfl) [] rfl rfl dX0_trip_363
theorem nm_m_elder : z_Nm yX0_elder 1 := by decide +kernel
set_option maxHeartbeats 4000000 in
theorem m_elder (l : Launch) (G : z_G) (b Ls : Nat) (xs : Nat → Int32) (hLs : Ls ≤ 96) : z_Mi l yX0_elder cX0_elder 1 .boolean (z_rm 6 17 155824 260) 17 155824 G (z_E3 b Ls xs) [.ref b] [] (S := Unit) (fun r _ => r = 1) (fun _ => []) := by
  refine Mi.mk (by decide) (Nat.le_of_ble_eq_true rfl) ?_
  intro p e s m below meth c A ls X hE hS hl
  have hl : lv_has ls 1 [(0, .ref b)] := hl
  refine z_newo (ci := 0) (fs := [.null, .null, .null, .null, .null, .int (nI 0), .int (nI 0), .int (nI 0)]) X rfl in_X1 tyX1 tyX1_ok q38 q39 q3 hS rfl (fun j hj => z_def j hj) (Nat.le_of_ble_eq_true rfl) (Nat.le_of_ble_eq_true rfl) dX0_elder_0 (fun q_1 H hS => ?_)
  have hS : z_S G [(q_1, .inr (0, [.null, .null, .null, .null, .null, .int (nI 0), .int (nI 0), .int (nI 0)]))] A s H _ := hS
  refine lv_dup X.x X.b dX0_elder_3 rfl ?_
  refine z_cIv (wr := []) X rfl z_E0ok trivial hS (m_new l G q_1) 0 q40 q41 q3 q42 rfl nm_m_new ⟨rfl, rfl⟩ ⟨Nat.le_of_ble_eq_true rfl, Nat.le_of_ble_eq_true rfl⟩ [0] [] ⟨rfl, rfl, rfl, rfl, by decide⟩ rfl hl.1 rfl (Nat.le_of_ble_eq_true rfl) ⟨Nat.le_of_ble_eq_true rfl, Nat.le_of_ble_eq_true rfl⟩ dX0_elder_4 (fun u_3 H locs hp hS => ?_)
  have hS : z_S G [(q_1, .inr (0, [.ref u_3.1, .ref u_3.2.1, .ref u_3.2.2.1, .ref u_3.2.2.2.1, .ref u_3.2.2.2.2, .int (nI 0), .int (-1 : Int32), .int (nI 0)])), (u_3.1, .inr (1, [])), (u_3.2.1, .inr (2, [])), (u_3.2.2.1, z_B G 16384 (fun _ => 0)), (u_3.2.2.2.1, z_B G 16464 (fun _ => 0)), (u_3.2.2.2.2, z_B G 16384 (fun _ => 0))] A s H locs := hS
  obtain ⟨bc, bd, bt, bp, bo⟩ := u_3
  have hS : z_S G [(q_1, .inr (0, [.ref bc, .ref bd, .ref bt, .ref bp, .ref bo, .int (nI 0), .int (-1 : Int32), .int (nI 0)])), (bc, .inr (1, [])), (bd, .inr (2, [])), (bt, z_B G 16384 (fun _ => 0)), (bp, z_B G 16464 (fun _ => 0)), (bo, z_B G 16384 (fun _ => 0))] A s H locs := hS
  refine lv_aload_n X.x X.b dX0_elder_7 rfl (lv_at hl 0 rfl) ?_
  refine z_cSi (wr := []) X rfl (z_E3ok _ _ _) hE hS (m_trip l G q_1 bc bd bt bp bo b Ls xs hLs (-1) 0 (fun _ => 0) (fun _ => 0) (fun _ => 0)) 2 q92 q93 q2 q94 nm_m_trip ⟨rfl, rfl⟩ ⟨Nat.le_of_ble_eq_true rfl, Nat.le_of_ble_eq_true rfl⟩ [0, 1, 2, 3, 4, 5] [] ⟨rfl, rfl, rfl, rfl, by decide⟩ rfl hl.1 rfl (Nat.le_of_ble_eq_true rfl) ⟨Nat.le_of_ble_eq_true rfl, Nat.le_of_ble_eq_true rfl⟩ dX0_elder_8 (fun r_4 u_5 H locs hp hS => ?_)
  have hS : z_S G [] A s H locs := hS
  subst hp
  refine lv_if_eq (tgt := 28) X.x X.b dX0_elder_11 (by decide) (fun c1 => absurd c1 (by decide)) (fun _ => ?_)
  refine z_cSr (wr := []) X rfl z_E2ok hE.1 hS (m_used l G) 0 q632 q633 q2 q634 nm_m_used ⟨rfl, rfl⟩ ⟨Nat.le_of_ble_eq_true rfl, Nat.le_of_ble_eq_true rfl⟩ [] [] ⟨rfl, rfl, rfl, rfl, by decide⟩ rfl hl.1 rfl (Nat.le_of_ble_eq_true rfl) ⟨Nat.le_of_ble_eq_true rfl, Nat.le_of_ble_eq_true rfl⟩ dX0_elder_14 (fun u_7 r_6 H locs hp hS => ?_)
  have hS : z_S G [(r_6, .inr (0, [.ref u_7.1.1, .ref u_7.1.2.1, .ref u_7.1.2.2.1, .ref u_7.1.2.2.2.1, .ref u_7.1.2.2.2.2, .int (nI 0), .int u_7.2.1.1, .int (nI u_7.2.1.2)])), (u_7.1.1, .inr (1, [])), (u_7.1.2.1, .inr (2, [])), (u_7.1.2.2.1, z_B G 16384 u_7.2.2.1), (u_7.1.2.2.2.1, z_B G 16464 u_7.2.2.2.1), (u_7.1.2.2.2.2, z_B G 16384 u_7.2.2.2.2)] A s H locs := hS
  obtain ⟨⟨cc, cd, ct, cp, co⟩, ⟨ln, bk⟩, t1, p1, o1⟩ := u_7
  have hS : z_S G [(r_6, .inr (0, [.ref cc, .ref cd, .ref ct, .ref cp, .ref co, .int (nI 0), .int ln, .int (nI bk)])), (cc, .inr (1, [])), (cd, .inr (2, [])), (ct, z_B G 16384 t1), (cp, z_B G 16464 p1), (co, z_B G 16384 o1)] A s H locs := hS
  refine lv_aload_n X.x X.b dX0_elder_17 rfl (lv_at hl 0 rfl) ?_
  refine z_cSi (wr := []) X rfl (z_E3ok _ _ _) hE hS (m_trip l G r_6 cc cd ct cp co b Ls xs hLs ln bk t1 p1 o1) 2 q92 q93 q2 q94 nm_m_trip ⟨rfl, rfl⟩ ⟨Nat.le_of_ble_eq_true rfl, Nat.le_of_ble_eq_true rfl⟩ [0, 1, 2, 3, 4, 5] [] ⟨rfl, rfl, rfl, rfl, by decide⟩ rfl hl.1 rfl (Nat.le_of_ble_eq_true rfl) ⟨Nat.le_of_ble_eq_true rfl, Nat.le_of_ble_eq_true rfl⟩ dX0_elder_18 (fun r_8 u_9 H locs hp hS => ?_)
  have hS : z_S G [] A s H locs := hS
  subst hp
  refine lv_if_eq (tgt := 28) X.x X.b dX0_elder_21 (by decide) (fun c1 => absurd c1 (by decide)) (fun _ => ?_)
  refine lv_iconst (v := (nI 1)) X.x X.b dX0_elder_24 (by decide) ?_
  refine lv_goto (tgt := 29) X.x X.b dX0_elder_25 (by decide) ?_
  exact z_iret X hS () (rfl) (rfl) [] rfl rfl dX0_elder_29
end
section
/-! BlockPackerLaw: askedKeeps, askedCounts, askedStands (printed by gen/g17.py) -/
set_option maxRecDepth 100000
def z_f4 (a b c d : Int32) : Nat → Int32 := upd (upd (upd (upd (fun _ => 0) 0 a) 1 b) 2 c) 3 d
theorem z_w16_i (t : Nat → Int8) (a b c d : Int32) : ∀ i, i < 16 → z_w16 t 0 a b c d i = (z_f4 a b c d (i / 4) >>> (nI (24 - 8 * (i % 4)) &&& 31)).toInt8 := by
  intro i hi
  have h : i = 0 ∨ i = 1 ∨ i = 2 ∨ i = 3 ∨ i = 4 ∨ i = 5 ∨ i = 6 ∨ i = 7 ∨ i = 8 ∨ i = 9 ∨ i = 10 ∨ i = 11 ∨ i = 12 ∨ i = 13 ∨ i = 14 ∨ i = 15 := by omega
  have z : ∀ x : Int32, x >>> (nI 0 &&& 31) = x := fun x => sb_shr0 x
  rcases h with rfl | rfl | rfl | rfl | rfl | rfl | rfl | rfl | rfl | rfl | rfl | rfl | rfl | rfl | rfl | rfl <;> simp [z_w16, z_w4, va_up, z_f4, upd, z]
set_option maxHeartbeats 4000000 in
theorem lo_keep {p : Program} {l : Launch} {e : Env} {s : State} {m : MethodId} {args : Array Value} {below : List Frame} {meth : Method} {c : Code} {A : Nat → Prop} {G : z_G} {Q : State → Prop} (b0 bc bd bt bp bo x3 : Nat) (e0 e1 : Int32) (L1 : Nat) (t2 p1 o1 : Nat → Int8) (ho1 : ∀ i, i < 16 → o1 i = (z_f4 e0 e1 (e0 ^^^ e1) (e0 - e1) (i / 4) >>> (nI (24 - 8 * (i % 4)) &&& 31)).toInt8) (ho2 : ∀ i, 16 ≤ i → i < 56 → o1 i = e0.toInt8) (X : z_X p s m args meth c yX0_askedKeeps cX0_askedKeeps 5 (some .boolean) G A) (K : ∀ (_ : Unit), ∀ (H : Heap) (locs : List Loc) (ls : Array Slot), z_S G [(b0, .inr (0, [.ref bc, .ref bd, .ref bt, .ref bp, .ref bo, .int (nI 1027), .int (nI L1), .int (nI 56)])), (bc, .inr (1, [])), (bd, .inr (2, [])), (bt, z_B G 16384 t2), (bp, z_B G 16464 p1), (bo, z_B G 16384 o1), (x3, z_I G 4 (z_f4 e0 e1 (e0 ^^^ e1) (e0 - e1)))] A s H locs → lv_has ls 5 [(2, .ref b0)] → W p l e (z_rm 5 8 57436 220) s m args below meth c H locs 8 57436 Q (F0 m 154 ls [])) :
    ∀ (k : Nat) (i : Nat), 56 - i < k → i ≤ 56 → ∀ (H : Heap) (locs : List Loc) (ls : Array Slot), z_S G [(b0, .inr (0, [.ref bc, .ref bd, .ref bt, .ref bp, .ref bo, .int (nI 1027), .int (nI L1), .int (nI 56)])), (bc, .inr (1, [])), (bd, .inr (2, [])), (bt, z_B G 16384 t2), (bp, z_B G 16464 p1), (bo, z_B G 16384 o1), (x3, z_I G 4 (z_f4 e0 e1 (e0 ^^^ e1) (e0 - e1)))] A s H locs → lv_has ls 5 [(0, .int e0), (1, .int e1), (2, .ref b0), (3, .ref x3), (4, .int (nI i))] → W p l e (z_rm 5 8 57436 220) s m args below meth c H locs 8 57436 Q (F0 m 94 ls []) := by
  intro k
  induction k with
  | zero =>
    intro i hk
    exact absurd hk (Nat.not_lt_zero _)
  | succ k ih =>
    intro i hk hi H locs ls hS hl
    refine lv_iload X.x X.b dX0_askedKeeps_94 (lv_at hl 4 rfl) ?_
    refine lv_bipush (v := (nI 56)) X.x X.b dX0_askedKeeps_96 (by decide) ?_
    refine z_icmp_ge (tgt := 154) X.x X.b dX0_askedKeeps_98 (by decide) (by omega) (by omega) (fun c1 => ?_) (fun c1 => ?_)
    · exact K () H _ ls hS (lv_sub hl [2] rfl)
    · refine lv_aload_n X.x X.b dX0_askedKeeps_101 rfl (lv_at hl 2 rfl) ?_
      refine lv_iload X.x X.b dX0_askedKeeps_102 (lv_at hl 4 rfl) ?_
      refine z_cVi (ci := 0) (q0 := 0) (wr := [(bc, .inr (1, [])), (bd, .inr (2, [])), (bt, z_B G 16384 t2), (bp, z_B G 16464 p1), (x3, z_I G 4 (z_f4 e0 e1 (e0 ^^^ e1) (e0 - e1)))]) X rfl z_E0ok trivial hS (m_opened l G b0 bc bd bt bp bo 1027 (nI L1) 56 (by omega) (by omega) (by omega) o1 (nI i)) 1 q628 q629 q630 q3 q631 nm_m_opened ⟨rfl, rfl⟩ ⟨Nat.le_of_ble_eq_true rfl, Nat.le_of_ble_eq_true rfl⟩ rfl rfl rfl [0, 5] [1, 2, 3, 4, 6] ⟨rfl, rfl, rfl, rfl, by decide⟩ rfl hl.1 rfl (Nat.le_of_ble_eq_true rfl) ⟨Nat.le_of_ble_eq_true rfl, Nat.le_of_ble_eq_true rfl⟩ dX0_askedKeeps_104 (fun r_1 u_2 H locs hp hS => ?_)
      have hS : z_S G [(bc, .inr (1, [])), (bd, .inr (2, [])), (bt, z_B G 16384 t2), (bp, z_B G 16464 p1), (x3, z_I G 4 (z_f4 e0 e1 (e0 ^^^ e1) (e0 - e1))), (b0, .inr (0, [.ref bc, .ref bd, .ref bt, .ref bp, .ref bo, .int (nI 1027), .int (nI L1), .int (nI 56)])), (bo, z_B G 16384 o1)] A s H locs := hS
      subst hp
      have hS := hS.sub (ws' := [(b0, .inr (0, [.ref bc, .ref bd, .ref bt, .ref bp, .ref bo, .int (nI 1027), .int (nI L1), .int (nI 56)])), (bc, .inr (1, [])), (bd, .inr (2, [])), (bt, z_B G 16384 t2), (bp, z_B G 16464 p1), (bo, z_B G 16384 o1), (x3, z_I G 4 (z_f4 e0 e1 (e0 ^^^ e1) (e0 - e1)))]) [5, 0, 1, 2, 3, 6, 4] rfl rfl
      refine z_top (y := (nI (z_ub (o1 i)))) (congrArg (fun q => nI (z_ub (o1 q))) (z_mod_self c1 (by decide))) ?_
      refine lv_iload X.x X.b dX0_askedKeeps_107 (lv_at hl 4 rfl) ?_
      refine lv_bipush (v := (nI 16)) X.x X.b dX0_askedKeeps_109 (by decide) ?_
      refine z_icmp_ge (tgt := 138) X.x X.b dX0_askedKeeps_111 (by decide) (by omega) (by omega) (fun c2 => ?_) (fun c2 => ?_)
      · refine lv_iload_n X.x X.b dX0_askedKeeps_138 rfl (lv_at hl 0 rfl) ?_
        refine lv_sipush (v := (nI 255)) X.x X.b dX0_askedKeeps_139 (by decide) ?_
        refine lv_iand X.x X.b dX0_askedKeeps_142 ?_
        refine z_top (y := (nI (z_ub (o1 i)))) ((z_and255x _).trans (congrArg (fun q => nI (z_ub q)) (ho2 i c2 c1).symm)) ?_
        have hb := z_ub_lt (o1 i)
        refine z_icmp_eq (tgt := 148) X.x X.b dX0_askedKeeps_143 (by decide) (by omega) (by omega) (fun c3 => ?_) (fun c3 => absurd rfl c3)
        refine z_iinc (d := 1) (lv' := [(4, .int (nI (i + 1))), (0, .int e0), (1, .int e1), (2, .ref b0), (3, .ref x3)]) X.x X.b dX0_askedKeeps_148 hl (k := 4) rfl (by decide) (by decide) rfl (fun ls hl => ?_)
        refine lv_goto (tgt := 94) X.x X.b dX0_askedKeeps_151 (by decide) ?_
        exact ih (i + 1) (by omega) (by omega) H _ ls hS (lv_sub hl [1, 2, 3, 4, 0] rfl)
      · refine lv_aload_n X.x X.b dX0_askedKeeps_114 rfl (lv_at hl 3 rfl) ?_
        refine lv_iload X.x X.b dX0_askedKeeps_115 (lv_at hl 4 rfl) ?_
        refine lv_iconst (v := (nI 4)) X.x X.b dX0_askedKeeps_117 (by decide) ?_
        refine z_idiv X.x X.b dX0_askedKeeps_118 (by omega) (by omega) (by omega) ?_
        refine z_iald X hS 6 rfl (i := (i / 4)) (by omega) (by omega) dX0_askedKeeps_119 ?_
        refine lv_bipush (v := (nI 24)) X.x X.b dX0_askedKeeps_120 (by decide) ?_
        refine lv_bipush (v := (nI 8)) X.x X.b dX0_askedKeeps_122 (by decide) ?_
        refine lv_iload X.x X.b dX0_askedKeeps_124 (lv_at hl 4 rfl) ?_
        refine lv_iconst (v := (nI 4)) X.x X.b dX0_askedKeeps_126 (by decide) ?_
        refine z_irem X.x X.b dX0_askedKeeps_127 (by omega) (by omega) (by omega) ?_
        refine z_imul X.x X.b dX0_askedKeeps_128 ?_
        refine z_isub X.x X.b dX0_askedKeeps_129 (by omega) ?_
        refine lv_ishr X.x X.b dX0_askedKeeps_130 ?_
        refine lv_sipush (v := (nI 255)) X.x X.b dX0_askedKeeps_131 (by decide) ?_
        refine lv_iand X.x X.b dX0_askedKeeps_134 ?_
        refine z_top (y := (nI (z_ub (o1 i)))) ((z_and255x _).trans (congrArg (fun q => nI (z_ub q)) (ho1 i c2).symm)) ?_
        refine lv_goto (tgt := 143) X.x X.b dX0_askedKeeps_135 (by decide) ?_
        have hb := z_ub_lt (o1 i)
        refine z_icmp_eq (tgt := 148) X.x X.b dX0_askedKeeps_143 (by decide) (by omega) (by omega) (fun c3 => ?_) (fun c3 => absurd rfl c3)
        refine z_iinc (d := 1) (lv' := [(4, .int (nI (i + 1))), (0, .int e0), (1, .int e1), (2, .ref b0), (3, .ref x3)]) X.x X.b dX0_askedKeeps_148 hl (k := 4) rfl (by decide) (by decide) rfl (fun ls hl => ?_)
        refine lv_goto (tgt := 94) X.x X.b dX0_askedKeeps_151 (by decide) ?_
        exact ih (i + 1) (by omega) (by omega) H _ ls hS (lv_sub hl [1, 2, 3, 4, 0] rfl)
theorem nm_m_keeps : z_Nm yX0_askedKeeps 2 := by decide +kernel
set_option maxHeartbeats 4000000 in
theorem m_keeps (l : Launch) (G : z_G) (e0 e1 : Int32) : z_Mi l yX0_askedKeeps cX0_askedKeeps 5 .boolean (z_rm 5 8 57436 220) 8 57436 G z_E2 [.int e0, .int e1] [] (S := Unit) (fun r _ => r = 1) (fun _ => []) := by
  refine Mi.mk (by decide) (Nat.le_of_ble_eq_true rfl) ?_
  intro p e s m below meth c A ls X hE hS hl
  have hl : lv_has ls 5 [(0, .int e0), (1, .int e1)] := hl
  refine z_newo (ci := 0) (fs := [.null, .null, .null, .null, .null, .int (nI 0), .int (nI 0), .int (nI 0)]) X rfl in_X1 tyX1 tyX1_ok q38 q39 q3 hS rfl (fun j hj => z_def j hj) (Nat.le_of_ble_eq_true rfl) (Nat.le_of_ble_eq_true rfl) dX0_askedKeeps_0 (fun q_1 H hS => ?_)
  have hS : z_S G [(q_1, .inr (0, [.null, .null, .null, .null, .null, .int (nI 0), .int (nI 0), .int (nI 0)]))] A s H _ := hS
  refine lv_dup X.x X.b dX0_askedKeeps_3 rfl ?_
  refine z_cIv (wr := []) X rfl z_E0ok trivial hS (m_new l G q_1) 0 q40 q41 q3 q42 rfl nm_m_new ⟨rfl, rfl⟩ ⟨Nat.le_of_ble_eq_true rfl, Nat.le_of_ble_eq_true rfl⟩ [0] [] ⟨rfl, rfl, rfl, rfl, by decide⟩ rfl hl.1 rfl (Nat.le_of_ble_eq_true rfl) ⟨Nat.le_of_ble_eq_true rfl, Nat.le_of_ble_eq_true rfl⟩ dX0_askedKeeps_4 (fun u_3 H locs hp hS => ?_)
  have hS : z_S G [(q_1, .inr (0, [.ref u_3.1, .ref u_3.2.1, .ref u_3.2.2.1, .ref u_3.2.2.2.1, .ref u_3.2.2.2.2, .int (nI 0), .int (-1 : Int32), .int (nI 0)])), (u_3.1, .inr (1, [])), (u_3.2.1, .inr (2, [])), (u_3.2.2.1, z_B G 16384 (fun _ => 0)), (u_3.2.2.2.1, z_B G 16464 (fun _ => 0)), (u_3.2.2.2.2, z_B G 16384 (fun _ => 0))] A s H locs := hS
  obtain ⟨bc, bd, bt, bp, bo⟩ := u_3
  have hS : z_S G [(q_1, .inr (0, [.ref bc, .ref bd, .ref bt, .ref bp, .ref bo, .int (nI 0), .int (-1 : Int32), .int (nI 0)])), (bc, .inr (1, [])), (bd, .inr (2, [])), (bt, z_B G 16384 (fun _ => 0)), (bp, z_B G 16464 (fun _ => 0)), (bo, z_B G 16384 (fun _ => 0))] A s H locs := hS
  refine lv_astore_n (lv' := [(2, .ref q_1), (0, .int e0), (1, .int e1)]) X.x X.b dX0_askedKeeps_7 rfl hl (by decide) rfl (fun ls hl => ?_)
  refine lv_aload_n X.x X.b dX0_askedKeeps_8 rfl (lv_at hl 0 rfl) ?_
  refine lv_iload_n X.x X.b dX0_askedKeeps_9 rfl (lv_at hl 1 rfl) ?_
  refine lv_iload_n X.x X.b dX0_askedKeeps_10 rfl (lv_at hl 2 rfl) ?_
  refine lv_iload_n X.x X.b dX0_askedKeeps_11 rfl (lv_at hl 1 rfl) ?_
  refine lv_iload_n X.x X.b dX0_askedKeeps_12 rfl (lv_at hl 2 rfl) ?_
  refine lv_ixor X.x X.b dX0_askedKeeps_13 ?_
  refine lv_iload_n X.x X.b dX0_askedKeeps_14 rfl (lv_at hl 1 rfl) ?_
  refine lv_iload_n X.x X.b dX0_askedKeeps_15 rfl (lv_at hl 2 rfl) ?_
  refine lv_isub X.x X.b dX0_askedKeeps_16 ?_
  refine z_cVi (ci := 0) (q0 := 0) (wr := [(bc, .inr (1, [])), (bd, .inr (2, [])), (bp, z_B G 16464 (fun _ => 0)), (bo, z_B G 16384 (fun _ => 0))]) X rfl z_E0ok trivial hS (m_put1 l G q_1 bc bd bt bp bo 0 (-1 : Int32) 0 (by omega) (fun _ => 0) e0 e1 (e0 ^^^ e1) (e0 - e1) (by decide)) 4 q95 q96 q97 q3 q98 nm_m_put1 ⟨rfl, rfl⟩ ⟨Nat.le_of_ble_eq_true rfl, Nat.le_of_ble_eq_true rfl⟩ rfl rfl rfl [0, 3] [1, 2, 4, 5] ⟨rfl, rfl, rfl, rfl, by decide⟩ rfl hl.1 rfl (Nat.le_of_ble_eq_true rfl) ⟨Nat.le_of_ble_eq_true rfl, Nat.le_of_ble_eq_true rfl⟩ dX0_askedKeeps_17 (fun r_4 u_5 H locs hp hS => ?_)
  have hS : z_S G [(bc, .inr (1, [])), (bd, .inr (2, [])), (bp, z_B G 16464 (fun _ => 0)), (bo, z_B G 16384 (fun _ => 0)), (q_1, .inr (0, [.ref bc, .ref bd, .ref bt, .ref bp, .ref bo, .int (nI (0 + 16)), .int (-1 : Int32), .int (nI 0)])), (bt, z_B G 16384 (z_w16 (fun _ => 0) 0 e0 e1 (e0 ^^^ e1) (e0 - e1)))] A s H locs := hS
  subst hp
  have hS := hS.sub (ws' := [(q_1, .inr (0, [.ref bc, .ref bd, .ref bt, .ref bp, .ref bo, .int (nI (0 + 16)), .int (-1 : Int32), .int (nI 0)])), (bc, .inr (1, [])), (bd, .inr (2, [])), (bt, z_B G 16384 (z_w16 (fun _ => 0) 0 e0 e1 (e0 ^^^ e1) (e0 - e1))), (bp, z_B G 16464 (fun _ => 0)), (bo, z_B G 16384 (fun _ => 0))]) [4, 0, 1, 5, 2, 3] rfl rfl
  refine lv_pop X.x X.b dX0_askedKeeps_20 rfl ?_
  refine lv_aload_n X.x X.b dX0_askedKeeps_21 rfl (lv_at hl 0 rfl) ?_
  refine lv_iload_n X.x X.b dX0_askedKeeps_22 rfl (lv_at hl 1 rfl) ?_
  refine lv_bipush (v := (nI 40)) X.x X.b dX0_askedKeeps_23 (by decide) ?_
  refine z_cVi (ci := 0) (q0 := 0) (wr := [(bc, .inr (1, [])), (bd, .inr (2, [])), (bp, z_B G 16464 (fun _ => 0)), (bo, z_B G 16384 (fun _ => 0))]) X rfl z_E0ok trivial hS (m_fill l G q_1 bc bd bt bp bo (0 + 16) (-1 : Int32) 0 (by omega) (z_w16 (fun _ => 0) 0 e0 e1 (e0 ^^^ e1) (e0 - e1)) e0 (nI 40)) 2 q112 q113 q114 q3 q115 nm_m_fill ⟨rfl, rfl⟩ ⟨Nat.le_of_ble_eq_true rfl, Nat.le_of_ble_eq_true rfl⟩ rfl rfl rfl [0, 3] [1, 2, 4, 5] ⟨rfl, rfl, rfl, rfl, by decide⟩ rfl hl.1 rfl (Nat.le_of_ble_eq_true rfl) ⟨Nat.le_of_ble_eq_true rfl, Nat.le_of_ble_eq_true rfl⟩ dX0_askedKeeps_25 (fun r_6 t1 H locs hp hS => ?_)
  have hS : z_S G [(bc, .inr (1, [])), (bd, .inr (2, [])), (bp, z_B G 16464 (fun _ => 0)), (bo, z_B G 16384 (fun _ => 0)), (q_1, .inr (0, [.ref bc, .ref bd, .ref bt, .ref bp, .ref bo, .int (nI ((0 + 16) + z_k (0 + 16) (nI 40))), .int (-1 : Int32), .int (nI 0)])), (bt, z_B G 16384 t1)] A s H locs := hS
  obtain ⟨rfl, g1, g2⟩ := hp
  have hS := hS.sub (ws' := [(q_1, .inr (0, [.ref bc, .ref bd, .ref bt, .ref bp, .ref bo, .int (nI ((0 + 16) + z_k (0 + 16) (nI 40))), .int (-1 : Int32), .int (nI 0)])), (bc, .inr (1, [])), (bd, .inr (2, [])), (bt, z_B G 16384 t1), (bp, z_B G 16464 (fun _ => 0)), (bo, z_B G 16384 (fun _ => 0))]) [4, 0, 1, 5, 2, 3] rfl rfl
  have hk1 : z_k (0 + 16) (nI 40) = 40 := by decide
  rw [hk1] at g2
  have hS : z_S G [(q_1, .inr (0, [.ref bc, .ref bd, .ref bt, .ref bp, .ref bo, .int (nI 56), .int (-1 : Int32), .int (nI 0)])), (bc, .inr (1, [])), (bd, .inr (2, [])), (bt, z_B G 16384 t1), (bp, z_B G 16464 (fun _ => 0)), (bo, z_B G 16384 (fun _ => 0))] A s H locs := by have e : (0 + 16) + z_k (0 + 16) (nI 40) = 56 := (by rw [hk1]); rw [e] at hS; exact hS
  refine lv_pop X.x X.b dX0_askedKeeps_28 rfl ?_
  refine lv_aload_n X.x X.b dX0_askedKeeps_29 rfl (lv_at hl 0 rfl) ?_
  refine z_cVi (ci := 0) (q0 := 0) (wr := [(bd, .inr (2, [])), (bo, z_B G 16384 (fun _ => 0))]) X rfl z_E2ok hE hS (m_pack l G q_1 bc bd bt bp bo 56 (-1 : Int32) 0 (by omega) t1 (fun _ => 0)) 0 q124 q125 q126 q3 q127 nm_m_pack ⟨rfl, rfl⟩ ⟨Nat.le_of_ble_eq_true rfl, Nat.le_of_ble_eq_true rfl⟩ rfl rfl rfl [0, 1, 3, 4] [2, 5] ⟨rfl, rfl, rfl, rfl, by decide⟩ rfl hl.1 rfl (Nat.le_of_ble_eq_true rfl) ⟨Nat.le_of_ble_eq_true rfl, Nat.le_of_ble_eq_true rfl⟩ dX0_askedKeeps_30 (fun r_7 u_8 H locs hp hS => ?_)
  have hS : z_S G [(bd, .inr (2, [])), (bo, z_B G 16384 (fun _ => 0)), (q_1, .inr (0, [.ref bc, .ref bd, .ref bt, .ref bp, .ref bo, .int (nI 56), .int (nI u_8.1), .int (nI 0)])), (bc, .inr (1, [])), (bt, z_B G 16384 t1), (bp, z_B G 16464 u_8.2)] A s H locs := hS
  obtain ⟨rfl, hL, hok⟩ := hp
  obtain ⟨L1, p1⟩ := u_8
  have hS : z_S G [(bd, .inr (2, [])), (bo, z_B G 16384 (fun _ => 0)), (q_1, .inr (0, [.ref bc, .ref bd, .ref bt, .ref bp, .ref bo, .int (nI 56), .int (nI L1), .int (nI 0)])), (bc, .inr (1, [])), (bt, z_B G 16384 t1), (bp, z_B G 16464 p1)] A s H locs := hS
  have hS := hS.sub (ws' := [(q_1, .inr (0, [.ref bc, .ref bd, .ref bt, .ref bp, .ref bo, .int (nI 56), .int (nI L1), .int (nI 0)])), (bc, .inr (1, [])), (bd, .inr (2, [])), (bt, z_B G 16384 t1), (bp, z_B G 16464 p1), (bo, z_B G 16384 (fun _ => 0))]) [2, 3, 0, 4, 5, 1] rfl rfl
  refine lv_if_ne (tgt := 38) X.x X.b dX0_askedKeeps_33 (by decide) (fun _ => ?_) (fun c1 => absurd c1 (by decide))
  refine lv_aload_n X.x X.b dX0_askedKeeps_38 rfl (lv_at hl 0 rfl) ?_
  refine lv_iconst (v := (nI 3)) X.x X.b dX0_askedKeeps_39 (by decide) ?_
  refine z_cVv (ci := 0) (q0 := 0) (wr := [(bc, .inr (1, [])), (bd, .inr (2, [])), (bt, z_B G 16384 t1), (bp, z_B G 16464 p1), (bo, z_B G 16384 (fun _ => 0))]) X rfl z_E0ok trivial hS (m_trim l G q_1 bc bd bt bp bo 56 (nI L1) 0 (by omega) (nI 3)) 1 q116 q117 q118 q3 q119 nm_m_trim ⟨rfl, rfl⟩ ⟨Nat.le_of_ble_eq_true rfl, Nat.le_of_ble_eq_true rfl⟩ rfl rfl rfl [0] [1, 2, 3, 4, 5] ⟨rfl, rfl, rfl, rfl, by decide⟩ rfl hl.1 rfl (Nat.le_of_ble_eq_true rfl) ⟨Nat.le_of_ble_eq_true rfl, Nat.le_of_ble_eq_true rfl⟩ dX0_askedKeeps_40 (fun u_10 H locs hp hS => ?_)
  have hS : z_S G [(bc, .inr (1, [])), (bd, .inr (2, [])), (bt, z_B G 16384 t1), (bp, z_B G 16464 p1), (bo, z_B G 16384 (fun _ => 0)), (q_1, .inr (0, [.ref bc, .ref bd, .ref bt, .ref bp, .ref bo, .int (nI (z_ab (nI 3) % (56 + 1))), .int (nI L1), .int (nI 0)]))] A s H locs := hS
  have hS := hS.sub (ws' := [(q_1, .inr (0, [.ref bc, .ref bd, .ref bt, .ref bp, .ref bo, .int (nI (z_ab (nI 3) % (56 + 1))), .int (nI L1), .int (nI 0)])), (bc, .inr (1, [])), (bd, .inr (2, [])), (bt, z_B G 16384 t1), (bp, z_B G 16464 p1), (bo, z_B G 16384 (fun _ => 0))]) [5, 0, 1, 2, 3, 4] rfl rfl
  have hS : z_S G [(q_1, .inr (0, [.ref bc, .ref bd, .ref bt, .ref bp, .ref bo, .int (nI 3), .int (nI L1), .int (nI 0)])), (bc, .inr (1, [])), (bd, .inr (2, [])), (bt, z_B G 16384 t1), (bp, z_B G 16464 p1), (bo, z_B G 16384 (fun _ => 0))] A s H locs := by have e : z_ab (nI 3) % (56 + 1) = 3 := (by rw [z_abN (by decide)]); rw [e] at hS; exact hS
  refine lv_aload_n X.x X.b dX0_askedKeeps_43 rfl (lv_at hl 0 rfl) ?_
  refine lv_iload_n X.x X.b dX0_askedKeeps_44 rfl (lv_at hl 2 rfl) ?_
  refine lv_sipush (v := (nI 255)) X.x X.b dX0_askedKeeps_45 (by decide) ?_
  refine lv_ixor X.x X.b dX0_askedKeeps_48 ?_
  refine lv_sipush (v := (nI 1024)) X.x X.b dX0_askedKeeps_49 (by decide) ?_
  refine z_cVi (ci := 0) (q0 := 0) (wr := [(bc, .inr (1, [])), (bd, .inr (2, [])), (bp, z_B G 16464 p1), (bo, z_B G 16384 (fun _ => 0))]) X rfl z_E0ok trivial hS (m_fill l G q_1 bc bd bt bp bo 3 (nI L1) 0 (by omega) t1 (e1 ^^^ (nI 255)) (nI 1024)) 2 q112 q113 q114 q3 q115 nm_m_fill ⟨rfl, rfl⟩ ⟨Nat.le_of_ble_eq_true rfl, Nat.le_of_ble_eq_true rfl⟩ rfl rfl rfl [0, 3] [1, 2, 4, 5] ⟨rfl, rfl, rfl, rfl, by decide⟩ rfl hl.1 rfl (Nat.le_of_ble_eq_true rfl) ⟨Nat.le_of_ble_eq_true rfl, Nat.le_of_ble_eq_true rfl⟩ dX0_askedKeeps_52 (fun r_11 t2 H locs hp hS => ?_)
  have hS : z_S G [(bc, .inr (1, [])), (bd, .inr (2, [])), (bp, z_B G 16464 p1), (bo, z_B G 16384 (fun _ => 0)), (q_1, .inr (0, [.ref bc, .ref bd, .ref bt, .ref bp, .ref bo, .int (nI (3 + z_k 3 (nI 1024))), .int (nI L1), .int (nI 0)])), (bt, z_B G 16384 t2)] A s H locs := hS
  obtain ⟨rfl, -, -⟩ := hp
  have hS := hS.sub (ws' := [(q_1, .inr (0, [.ref bc, .ref bd, .ref bt, .ref bp, .ref bo, .int (nI (3 + z_k 3 (nI 1024))), .int (nI L1), .int (nI 0)])), (bc, .inr (1, [])), (bd, .inr (2, [])), (bt, z_B G 16384 t2), (bp, z_B G 16464 p1), (bo, z_B G 16384 (fun _ => 0))]) [4, 0, 1, 5, 2, 3] rfl rfl
  have hk2 : z_k 3 (nI 1024) = 1024 := by decide
  have hS : z_S G [(q_1, .inr (0, [.ref bc, .ref bd, .ref bt, .ref bp, .ref bo, .int (nI 1027), .int (nI L1), .int (nI 0)])), (bc, .inr (1, [])), (bd, .inr (2, [])), (bt, z_B G 16384 t2), (bp, z_B G 16464 p1), (bo, z_B G 16384 (fun _ => 0))] A s H locs := by have e : 3 + z_k 3 (nI 1024) = 1027 := (by rw [hk2]); rw [e] at hS; exact hS
  refine lv_pop X.x X.b dX0_askedKeeps_55 rfl ?_
  refine lv_aload_n X.x X.b dX0_askedKeeps_56 rfl (lv_at hl 0 rfl) ?_
  refine z_cVi (ci := 0) (q0 := 0) (wr := [(bc, .inr (1, [])), (bt, z_B G 16384 t2)]) X rfl z_E2ok hE hS (m_open l G q_1 bc bd bt bp bo 1027 0 (by omega) p1 t1 (fun _ => 0) L1 56 hok (by omega) hL) 0 q351 q352 q353 q3 q354 nm_m_open ⟨rfl, rfl⟩ ⟨Nat.le_of_ble_eq_true rfl, Nat.le_of_ble_eq_true rfl⟩ rfl rfl rfl [0, 2, 4, 5] [1, 3] ⟨rfl, rfl, rfl, rfl, by decide⟩ rfl hl.1 rfl (Nat.le_of_ble_eq_true rfl) ⟨Nat.le_of_ble_eq_true rfl, Nat.le_of_ble_eq_true rfl⟩ dX0_askedKeeps_57 (fun r_12 o1 H locs hp hS => ?_)
  have hS : z_S G [(bc, .inr (1, [])), (bt, z_B G 16384 t2), (q_1, .inr (0, [.ref bc, .ref bd, .ref bt, .ref bp, .ref bo, .int (nI 1027), .int (nI L1), .int (nI 56)])), (bd, .inr (2, [])), (bp, z_B G 16464 p1), (bo, z_B G 16384 o1)] A s H locs := hS
  obtain ⟨rfl, ho⟩ := hp
  have hS := hS.sub (ws' := [(q_1, .inr (0, [.ref bc, .ref bd, .ref bt, .ref bp, .ref bo, .int (nI 1027), .int (nI L1), .int (nI 56)])), (bc, .inr (1, [])), (bd, .inr (2, [])), (bt, z_B G 16384 t2), (bp, z_B G 16464 p1), (bo, z_B G 16384 o1)]) [2, 0, 3, 1, 4, 5] rfl rfl
  refine lv_bipush (v := (nI 56)) X.x X.b dX0_askedKeeps_60 (by decide) ?_
  refine z_icmp_eq (tgt := 67) X.x X.b dX0_askedKeeps_62 (by decide) (by omega) (by omega) (fun c_13 => ?_) (fun c_13 => by exfalso; omega)
  refine lv_iconst (v := (nI 4)) X.x X.b dX0_askedKeeps_67 (by decide) ?_
  refine z_newi X q422 hS (by omega) (by decide) (by decide) dX0_askedKeeps_68 (fun q_14 H hS => ?_)
  have hS : z_S G [(q_1, .inr (0, [.ref bc, .ref bd, .ref bt, .ref bp, .ref bo, .int (nI 1027), .int (nI L1), .int (nI 56)])), (bc, .inr (1, [])), (bd, .inr (2, [])), (bt, z_B G 16384 t2), (bp, z_B G 16464 p1), (bo, z_B G 16384 o1), (q_14, z_I G 4 (fun _ => 0))] A s H _ := hS
  refine lv_dup X.x X.b dX0_askedKeeps_70 rfl ?_
  refine lv_iconst (v := (nI 0)) X.x X.b dX0_askedKeeps_71 (by decide) ?_
  refine lv_iload_n X.x X.b dX0_askedKeeps_72 rfl (lv_at hl 1 rfl) ?_
  refine z_iast (ws' := [(q_1, .inr (0, [.ref bc, .ref bd, .ref bt, .ref bp, .ref bo, .int (nI 1027), .int (nI L1), .int (nI 56)])), (bc, .inr (1, [])), (bd, .inr (2, [])), (bt, z_B G 16384 t2), (bp, z_B G 16464 p1), (bo, z_B G 16384 o1), (q_14, z_I G 4 (upd (fun _ => 0) 0 e0))]) X hS 6 rfl (i := 0) (by omega) (by omega) rfl dX0_askedKeeps_73 (fun H locs hS => ?_)
  refine lv_dup X.x X.b dX0_askedKeeps_74 rfl ?_
  refine lv_iconst (v := (nI 1)) X.x X.b dX0_askedKeeps_75 (by decide) ?_
  refine lv_iload_n X.x X.b dX0_askedKeeps_76 rfl (lv_at hl 2 rfl) ?_
  refine z_iast (ws' := [(q_1, .inr (0, [.ref bc, .ref bd, .ref bt, .ref bp, .ref bo, .int (nI 1027), .int (nI L1), .int (nI 56)])), (bc, .inr (1, [])), (bd, .inr (2, [])), (bt, z_B G 16384 t2), (bp, z_B G 16464 p1), (bo, z_B G 16384 o1), (q_14, z_I G 4 (upd (upd (fun _ => 0) 0 e0) 1 e1))]) X hS 6 rfl (i := 1) (by omega) (by omega) rfl dX0_askedKeeps_77 (fun H locs hS => ?_)
  refine lv_dup X.x X.b dX0_askedKeeps_78 rfl ?_
  refine lv_iconst (v := (nI 2)) X.x X.b dX0_askedKeeps_79 (by decide) ?_
  refine lv_iload_n X.x X.b dX0_askedKeeps_80 rfl (lv_at hl 1 rfl) ?_
  refine lv_iload_n X.x X.b dX0_askedKeeps_81 rfl (lv_at hl 2 rfl) ?_
  refine lv_ixor X.x X.b dX0_askedKeeps_82 ?_
  refine z_iast (ws' := [(q_1, .inr (0, [.ref bc, .ref bd, .ref bt, .ref bp, .ref bo, .int (nI 1027), .int (nI L1), .int (nI 56)])), (bc, .inr (1, [])), (bd, .inr (2, [])), (bt, z_B G 16384 t2), (bp, z_B G 16464 p1), (bo, z_B G 16384 o1), (q_14, z_I G 4 (upd (upd (upd (fun _ => 0) 0 e0) 1 e1) 2 (e0 ^^^ e1)))]) X hS 6 rfl (i := 2) (by omega) (by omega) rfl dX0_askedKeeps_83 (fun H locs hS => ?_)
  refine lv_dup X.x X.b dX0_askedKeeps_84 rfl ?_
  refine lv_iconst (v := (nI 3)) X.x X.b dX0_askedKeeps_85 (by decide) ?_
  refine lv_iload_n X.x X.b dX0_askedKeeps_86 rfl (lv_at hl 1 rfl) ?_
  refine lv_iload_n X.x X.b dX0_askedKeeps_87 rfl (lv_at hl 2 rfl) ?_
  refine lv_isub X.x X.b dX0_askedKeeps_88 ?_
  refine z_iast (ws' := [(q_1, .inr (0, [.ref bc, .ref bd, .ref bt, .ref bp, .ref bo, .int (nI 1027), .int (nI L1), .int (nI 56)])), (bc, .inr (1, [])), (bd, .inr (2, [])), (bt, z_B G 16384 t2), (bp, z_B G 16464 p1), (bo, z_B G 16384 o1), (q_14, z_I G 4 (upd (upd (upd (upd (fun _ => 0) 0 e0) 1 e1) 2 (e0 ^^^ e1)) 3 (e0 - e1)))]) X hS 6 rfl (i := 3) (by omega) (by omega) rfl dX0_askedKeeps_89 (fun H locs hS => ?_)
  refine lv_astore_n (lv' := [(3, .ref q_14), (2, .ref q_1), (0, .int e0), (1, .int e1)]) X.x X.b dX0_askedKeeps_90 rfl hl (by decide) rfl (fun ls hl => ?_)
  refine lv_iconst (v := (nI 0)) X.x X.b dX0_askedKeeps_91 (by decide) ?_
  refine lv_istore (lv' := [(4, .int (nI 0)), (3, .ref q_14), (2, .ref q_1), (0, .int e0), (1, .int e1)]) X.x X.b dX0_askedKeeps_92 hl (by decide) rfl (fun ls hl => ?_)
  have ho1 : ∀ i, i < 16 → o1 i = (z_f4 e0 e1 (e0 ^^^ e1) (e0 - e1) (i / 4) >>> (nI (24 - 8 * (i % 4)) &&& 31)).toInt8 := fun i hi => (ho i (by omega)).trans ((g1 i (by omega)).trans (z_w16_i _ _ _ _ _ i hi))
  have ho2 : ∀ i, 16 ≤ i → i < 56 → o1 i = e0.toInt8 := fun i h1 h2 => (ho i h2).trans (by have e := g2 (i - 16) (by omega); rw [show 0 + 16 + (i - 16) = i by omega] at e; exact e)
  refine lo_keep q_1 bc bd bt bp bo q_14 e0 e1 L1 t2 p1 o1 ho1 ho2 X (fun _ H locs ls hS hl => ?_) 57 0 (by omega) (by decide) H _ ls hS (lv_sub hl [3, 4, 2, 1, 0] rfl)
  refine lv_aload_n X.x X.b dX0_askedKeeps_154 rfl (lv_at hl 0 rfl) ?_
  refine z_cVi (ci := 0) (q0 := 0) (wr := [(bc, .inr (1, [])), (bd, .inr (2, [])), (bt, z_B G 16384 t2), (bp, z_B G 16464 p1), (bo, z_B G 16384 o1), (q_14, z_I G 4 (z_f4 e0 e1 (e0 ^^^ e1) (e0 - e1)))]) X rfl z_E0ok trivial hS (m_size l G q_1 bc bd bt bp bo 1027 (nI L1) 56 (by omega)) 0 q120 q121 q122 q3 q123 nm_m_size ⟨rfl, rfl⟩ ⟨Nat.le_of_ble_eq_true rfl, Nat.le_of_ble_eq_true rfl⟩ rfl rfl rfl [0] [1, 2, 3, 4, 5, 6] ⟨rfl, rfl, rfl, rfl, by decide⟩ rfl hl.1 rfl (Nat.le_of_ble_eq_true rfl) ⟨Nat.le_of_ble_eq_true rfl, Nat.le_of_ble_eq_true rfl⟩ dX0_askedKeeps_155 (fun r_15 u_16 H locs hp hS => ?_)
  have hS : z_S G [(bc, .inr (1, [])), (bd, .inr (2, [])), (bt, z_B G 16384 t2), (bp, z_B G 16464 p1), (bo, z_B G 16384 o1), (q_14, z_I G 4 (z_f4 e0 e1 (e0 ^^^ e1) (e0 - e1))), (q_1, .inr (0, [.ref bc, .ref bd, .ref bt, .ref bp, .ref bo, .int (nI 1027), .int (nI L1), .int (nI 56)]))] A s H locs := hS
  subst hp
  have hS := hS.sub (ws' := [(q_1, .inr (0, [.ref bc, .ref bd, .ref bt, .ref bp, .ref bo, .int (nI 1027), .int (nI L1), .int (nI 56)])), (bc, .inr (1, [])), (bd, .inr (2, [])), (bt, z_B G 16384 t2), (bp, z_B G 16464 p1), (bo, z_B G 16384 o1), (q_14, z_I G 4 (z_f4 e0 e1 (e0 ^^^ e1) (e0 - e1)))]) [6, 0, 1, 2, 3, 4, 5] rfl rfl
  refine lv_sipush (v := (nI 1027)) X.x X.b dX0_askedKeeps_158 (by decide) ?_
  refine z_icmp_ne (tgt := 168) X.x X.b dX0_askedKeeps_161 (by decide) (by omega) (by omega) (fun c_17 => by exfalso; omega) (fun c_17 => ?_)
  refine lv_iconst (v := (nI 1)) X.x X.b dX0_askedKeeps_164 (by decide) ?_
  refine lv_goto (tgt := 169) X.x X.b dX0_askedKeeps_165 (by decide) ?_
  exact z_iret X hS () (rfl) (rfl) [] rfl rfl dX0_askedKeeps_169
set_option maxHeartbeats 4000000 in
theorem lo_cnt {p : Program} {l : Launch} {e : Env} {s : State} {m : MethodId} {args : Array Value} {below : List Frame} {meth : Method} {c : Code} {A : Nat → Prop} {G : z_G} {Q : State → Prop} (b0 bc bd bt bp bo : Nat) (X : z_X p s m args meth c yX0_askedCounts cX0_askedCounts 3 (some .boolean) G A) (K : ∀ (t : Nat → Int8), ∀ (H : Heap) (locs : List Loc) (ls : Array Slot), z_S G [(b0, .inr (0, [.ref bc, .ref bd, .ref bt, .ref bp, .ref bo, .int (nI 16383), .int (-1 : Int32), .int (nI 0)])), (bc, .inr (1, [])), (bd, .inr (2, [])), (bt, z_B G 16384 t), (bp, z_B G 16464 (fun _ => 0)), (bo, z_B G 16384 (fun _ => 0))] A s H locs → lv_has ls 3 [(0, .ref b0)] → W p l e (z_rm 4 6 49240 220) s m args below meth c H locs 6 49240 Q (F0 m 134 ls [])) :
    ∀ (k : Nat) (n : Nat) (t : Nat → Int8), 16384 - n < k → n % 1024 = 1023 → 2047 ≤ n → n ≤ 16383 → ∀ (H : Heap) (locs : List Loc) (ls : Array Slot), z_S G [(b0, .inr (0, [.ref bc, .ref bd, .ref bt, .ref bp, .ref bo, .int (nI n), .int (-1 : Int32), .int (nI 0)])), (bc, .inr (1, [])), (bd, .inr (2, [])), (bt, z_B G 16384 t), (bp, z_B G 16464 (fun _ => 0)), (bo, z_B G 16384 (fun _ => 0))] A s H locs → lv_has ls 3 [(0, .ref b0)] → W p l e (z_rm 4 6 49240 220) s m args below meth c H locs 6 49240 Q (F0 m 107 ls []) := by
  intro k
  induction k with
  | zero =>
    intro n t hk
    exact absurd hk (Nat.not_lt_zero _)
  | succ k ih =>
    intro n t hk h1 h2 h3 H locs ls hS hl
    refine lv_aload_n X.x X.b dX0_askedCounts_107 rfl (lv_at hl 0 rfl) ?_
    refine z_cVi (ci := 0) (q0 := 0) (wr := [(bc, .inr (1, [])), (bd, .inr (2, [])), (bt, z_B G 16384 t), (bp, z_B G 16464 (fun _ => 0)), (bo, z_B G 16384 (fun _ => 0))]) X rfl z_E0ok trivial hS (m_size l G b0 bc bd bt bp bo n (-1 : Int32) 0 (by omega)) 0 q120 q121 q122 q3 q123 nm_m_size ⟨rfl, rfl⟩ ⟨Nat.le_of_ble_eq_true rfl, Nat.le_of_ble_eq_true rfl⟩ rfl rfl rfl [0] [1, 2, 3, 4, 5] ⟨rfl, rfl, rfl, rfl, by decide⟩ rfl hl.1 rfl (Nat.le_of_ble_eq_true rfl) ⟨Nat.le_of_ble_eq_true rfl, Nat.le_of_ble_eq_true rfl⟩ dX0_askedCounts_108 (fun r_1 u_2 H locs hp hS => ?_)
    have hS : z_S G [(bc, .inr (1, [])), (bd, .inr (2, [])), (bt, z_B G 16384 t), (bp, z_B G 16464 (fun _ => 0)), (bo, z_B G 16384 (fun _ => 0)), (b0, .inr (0, [.ref bc, .ref bd, .ref bt, .ref bp, .ref bo, .int (nI n), .int (-1 : Int32), .int (nI 0)]))] A s H locs := hS
    subst hp
    have hS := hS.sub (ws' := [(b0, .inr (0, [.ref bc, .ref bd, .ref bt, .ref bp, .ref bo, .int (nI n), .int (-1 : Int32), .int (nI 0)])), (bc, .inr (1, [])), (bd, .inr (2, [])), (bt, z_B G 16384 t), (bp, z_B G 16464 (fun _ => 0)), (bo, z_B G 16384 (fun _ => 0))]) [5, 0, 1, 2, 3, 4] rfl rfl
    refine lv_sipush (v := (nI 15360)) X.x X.b dX0_askedCounts_111 (by decide) ?_
    refine z_icmp_ge (tgt := 134) X.x X.b dX0_askedCounts_114 (by decide) (by omega) (by omega) (fun c1 => ?_) (fun c1 => ?_)
    · have hn3 : n = 16383 := by omega
      subst hn3
      exact K t H _ ls hS (lv_sub hl [0] rfl)
    · refine lv_aload_n X.x X.b dX0_askedCounts_117 rfl (lv_at hl 0 rfl) ?_
      refine lv_bipush (v := (nI 9)) X.x X.b dX0_askedCounts_118 (by decide) ?_
      refine lv_sipush (v := (nI 1024)) X.x X.b dX0_askedCounts_120 (by decide) ?_
      have hk : z_k n (nI 1024) = 1024 := by unfold z_k; rw [z_abN (by decide)]; omega
      refine z_cVi (ci := 0) (q0 := 0) (wr := [(bc, .inr (1, [])), (bd, .inr (2, [])), (bp, z_B G 16464 (fun _ => 0)), (bo, z_B G 16384 (fun _ => 0))]) X rfl z_E0ok trivial hS (m_fill l G b0 bc bd bt bp bo n (-1 : Int32) 0 (by omega) t (nI 9) (nI 1024)) 2 q112 q113 q114 q3 q115 nm_m_fill ⟨rfl, rfl⟩ ⟨Nat.le_of_ble_eq_true rfl, Nat.le_of_ble_eq_true rfl⟩ rfl rfl rfl [0, 3] [1, 2, 4, 5] ⟨rfl, rfl, rfl, rfl, by decide⟩ rfl hl.1 rfl (Nat.le_of_ble_eq_true rfl) ⟨Nat.le_of_ble_eq_true rfl, Nat.le_of_ble_eq_true rfl⟩ dX0_askedCounts_123 (fun r_3 u H locs hp hS => ?_)
      have hS : z_S G [(bc, .inr (1, [])), (bd, .inr (2, [])), (bp, z_B G 16464 (fun _ => 0)), (bo, z_B G 16384 (fun _ => 0)), (b0, .inr (0, [.ref bc, .ref bd, .ref bt, .ref bp, .ref bo, .int (nI (n + z_k n (nI 1024))), .int (-1 : Int32), .int (nI 0)])), (bt, z_B G 16384 u)] A s H locs := hS
      obtain ⟨rfl, -, -⟩ := hp
      have hS := hS.sub (ws' := [(b0, .inr (0, [.ref bc, .ref bd, .ref bt, .ref bp, .ref bo, .int (nI (n + z_k n (nI 1024))), .int (-1 : Int32), .int (nI 0)])), (bc, .inr (1, [])), (bd, .inr (2, [])), (bt, z_B G 16384 u), (bp, z_B G 16464 (fun _ => 0)), (bo, z_B G 16384 (fun _ => 0))]) [4, 0, 1, 5, 2, 3] rfl rfl
      refine z_top (y := (nI 1024)) (congrArg nI hk) ?_
      have hS : z_S G [(b0, .inr (0, [.ref bc, .ref bd, .ref bt, .ref bp, .ref bo, .int (nI (n + 1024)), .int (-1 : Int32), .int (nI 0)])), (bc, .inr (1, [])), (bd, .inr (2, [])), (bt, z_B G 16384 u), (bp, z_B G 16464 (fun _ => 0)), (bo, z_B G 16384 (fun _ => 0))] A s H locs := by have e : n + z_k n (nI 1024) = n + 1024 := (by rw [hk]); rw [e] at hS; exact hS
      refine lv_sipush (v := (nI 1024)) X.x X.b dX0_askedCounts_126 (by decide) ?_
      refine z_icmp_eq (tgt := 107) X.x X.b dX0_askedCounts_129 (by decide) (by omega) (by omega) (fun c_4 => ?_) (fun c_4 => by exfalso; omega)
      exact ih (n + 1024) u (by omega) (by omega) (by omega) (by omega) H _ ls hS (lv_sub hl [0] rfl)
theorem nm_m_counts : z_Nm yX0_askedCounts 0 := by decide +kernel
set_option maxHeartbeats 4000000 in
theorem m_counts (l : Launch) (G : z_G) : z_Mi l yX0_askedCounts cX0_askedCounts 3 .boolean (z_rm 4 6 49240 220) 6 49240 G z_E0 [] [] (S := Unit) (fun r _ => r = 1) (fun _ => []) := by
  refine Mi.mk (by decide) (Nat.le_of_ble_eq_true rfl) ?_
  intro p e s m below meth c A ls X hE hS hl
  have hl : lv_has ls 3 [] := hl
  refine z_newo (ci := 0) (fs := [.null, .null, .null, .null, .null, .int (nI 0), .int (nI 0), .int (nI 0)]) X rfl in_X1 tyX1 tyX1_ok q38 q39 q3 hS rfl (fun j hj => z_def j hj) (Nat.le_of_ble_eq_true rfl) (Nat.le_of_ble_eq_true rfl) dX0_askedCounts_0 (fun q_1 H hS => ?_)
  have hS : z_S G [(q_1, .inr (0, [.null, .null, .null, .null, .null, .int (nI 0), .int (nI 0), .int (nI 0)]))] A s H _ := hS
  refine lv_dup X.x X.b dX0_askedCounts_3 rfl ?_
  refine z_cIv (wr := []) X rfl z_E0ok trivial hS (m_new l G q_1) 0 q40 q41 q3 q42 rfl nm_m_new ⟨rfl, rfl⟩ ⟨Nat.le_of_ble_eq_true rfl, Nat.le_of_ble_eq_true rfl⟩ [0] [] ⟨rfl, rfl, rfl, rfl, by decide⟩ rfl hl.1 rfl (Nat.le_of_ble_eq_true rfl) ⟨Nat.le_of_ble_eq_true rfl, Nat.le_of_ble_eq_true rfl⟩ dX0_askedCounts_4 (fun u_3 H locs hp hS => ?_)
  have hS : z_S G [(q_1, .inr (0, [.ref u_3.1, .ref u_3.2.1, .ref u_3.2.2.1, .ref u_3.2.2.2.1, .ref u_3.2.2.2.2, .int (nI 0), .int (-1 : Int32), .int (nI 0)])), (u_3.1, .inr (1, [])), (u_3.2.1, .inr (2, [])), (u_3.2.2.1, z_B G 16384 (fun _ => 0)), (u_3.2.2.2.1, z_B G 16464 (fun _ => 0)), (u_3.2.2.2.2, z_B G 16384 (fun _ => 0))] A s H locs := hS
  obtain ⟨bc, bd, bt, bp, bo⟩ := u_3
  have hS : z_S G [(q_1, .inr (0, [.ref bc, .ref bd, .ref bt, .ref bp, .ref bo, .int (nI 0), .int (-1 : Int32), .int (nI 0)])), (bc, .inr (1, [])), (bd, .inr (2, [])), (bt, z_B G 16384 (fun _ => 0)), (bp, z_B G 16464 (fun _ => 0)), (bo, z_B G 16384 (fun _ => 0))] A s H locs := hS
  refine lv_astore_n (lv' := [(0, .ref q_1)]) X.x X.b dX0_askedCounts_7 rfl hl (by decide) rfl (fun ls hl => ?_)
  refine lv_aload_n X.x X.b dX0_askedCounts_8 rfl (lv_at hl 0 rfl) ?_
  refine lv_iconst (v := (nI 5)) X.x X.b dX0_askedCounts_9 (by decide) ?_
  refine lv_iconst (v := (nI 5)) X.x X.b dX0_askedCounts_10 (by decide) ?_
  refine z_cVi (ci := 0) (q0 := 0) (wr := [(bc, .inr (1, [])), (bd, .inr (2, [])), (bt, z_B G 16384 (fun _ => 0)), (bp, z_B G 16464 (fun _ => 0)), (bo, z_B G 16384 (fun _ => 0))]) X rfl z_E0ok trivial hS (m_rep0 l G q_1 bc bd bt bp bo (-1 : Int32) 0 (nI 5) (nI 5)) 2 q106 q107 q108 q3 q109 nm_m_rep0 ⟨rfl, rfl⟩ ⟨Nat.le_of_ble_eq_true rfl, Nat.le_of_ble_eq_true rfl⟩ rfl rfl rfl [0] [1, 2, 3, 4, 5] ⟨rfl, rfl, rfl, rfl, by decide⟩ rfl hl.1 rfl (Nat.le_of_ble_eq_true rfl) ⟨Nat.le_of_ble_eq_true rfl, Nat.le_of_ble_eq_true rfl⟩ dX0_askedCounts_11 (fun r_4 u_5 H locs hp hS => ?_)
  have hS : z_S G [(bc, .inr (1, [])), (bd, .inr (2, [])), (bt, z_B G 16384 (fun _ => 0)), (bp, z_B G 16464 (fun _ => 0)), (bo, z_B G 16384 (fun _ => 0)), (q_1, .inr (0, [.ref bc, .ref bd, .ref bt, .ref bp, .ref bo, .int (nI 0), .int (-1 : Int32), .int (nI 0)]))] A s H locs := hS
  subst hp
  have hS := hS.sub (ws' := [(q_1, .inr (0, [.ref bc, .ref bd, .ref bt, .ref bp, .ref bo, .int (nI 0), .int (-1 : Int32), .int (nI 0)])), (bc, .inr (1, [])), (bd, .inr (2, [])), (bt, z_B G 16384 (fun _ => 0)), (bp, z_B G 16464 (fun _ => 0)), (bo, z_B G 16384 (fun _ => 0))]) [5, 0, 1, 2, 3, 4] rfl rfl
  refine lv_iconst (v := (-1 : Int32)) X.x X.b dX0_askedCounts_14 (by decide) ?_
  refine lv_icmp_ne (tgt := 76) X.x X.b dX0_askedCounts_15 (by decide) (fun c2 => absurd rfl c2) (fun _ => ?_)
  refine lv_aload_n X.x X.b dX0_askedCounts_18 rfl (lv_at hl 0 rfl) ?_
  refine z_cVi (ci := 0) (q0 := 0) (wr := [(bc, .inr (1, [])), (bd, .inr (2, [])), (bt, z_B G 16384 (fun _ => 0)), (bp, z_B G 16464 (fun _ => 0)), (bo, z_B G 16384 (fun _ => 0))]) X rfl z_E0ok trivial hS (m_size l G q_1 bc bd bt bp bo 0 (-1 : Int32) 0 (by omega)) 0 q120 q121 q122 q3 q123 nm_m_size ⟨rfl, rfl⟩ ⟨Nat.le_of_ble_eq_true rfl, Nat.le_of_ble_eq_true rfl⟩ rfl rfl rfl [0] [1, 2, 3, 4, 5] ⟨rfl, rfl, rfl, rfl, by decide⟩ rfl hl.1 rfl (Nat.le_of_ble_eq_true rfl) ⟨Nat.le_of_ble_eq_true rfl, Nat.le_of_ble_eq_true rfl⟩ dX0_askedCounts_19 (fun r_6 u_7 H locs hp hS => ?_)
  have hS : z_S G [(bc, .inr (1, [])), (bd, .inr (2, [])), (bt, z_B G 16384 (fun _ => 0)), (bp, z_B G 16464 (fun _ => 0)), (bo, z_B G 16384 (fun _ => 0)), (q_1, .inr (0, [.ref bc, .ref bd, .ref bt, .ref bp, .ref bo, .int (nI 0), .int (-1 : Int32), .int (nI 0)]))] A s H locs := hS
  subst hp
  have hS := hS.sub (ws' := [(q_1, .inr (0, [.ref bc, .ref bd, .ref bt, .ref bp, .ref bo, .int (nI 0), .int (-1 : Int32), .int (nI 0)])), (bc, .inr (1, [])), (bd, .inr (2, [])), (bt, z_B G 16384 (fun _ => 0)), (bp, z_B G 16464 (fun _ => 0)), (bo, z_B G 16384 (fun _ => 0))]) [5, 0, 1, 2, 3, 4] rfl rfl
  refine z_if_ne (tgt := 76) X.x X.b dX0_askedCounts_22 (by decide) (by omega) (fun c_8 => by exfalso; omega) (fun c_8 => ?_)
  refine lv_aload_n X.x X.b dX0_askedCounts_25 rfl (lv_at hl 0 rfl) ?_
  refine lv_bipush (v := (nI 7)) X.x X.b dX0_askedCounts_26 (by decide) ?_
  refine lv_sipush (v := (nI 1024)) X.x X.b dX0_askedCounts_28 (by decide) ?_
  have hk1 : z_k 0 (nI 1024) = 1024 := by decide +kernel
  refine z_cVi (ci := 0) (q0 := 0) (wr := [(bc, .inr (1, [])), (bd, .inr (2, [])), (bp, z_B G 16464 (fun _ => 0)), (bo, z_B G 16384 (fun _ => 0))]) X rfl z_E0ok trivial hS (m_fill l G q_1 bc bd bt bp bo 0 (-1 : Int32) 0 (by omega) (fun _ => 0) (nI 7) (nI 1024)) 2 q112 q113 q114 q3 q115 nm_m_fill ⟨rfl, rfl⟩ ⟨Nat.le_of_ble_eq_true rfl, Nat.le_of_ble_eq_true rfl⟩ rfl rfl rfl [0, 3] [1, 2, 4, 5] ⟨rfl, rfl, rfl, rfl, by decide⟩ rfl hl.1 rfl (Nat.le_of_ble_eq_true rfl) ⟨Nat.le_of_ble_eq_true rfl, Nat.le_of_ble_eq_true rfl⟩ dX0_askedCounts_31 (fun r_9 t1 H locs hp hS => ?_)
  have hS : z_S G [(bc, .inr (1, [])), (bd, .inr (2, [])), (bp, z_B G 16464 (fun _ => 0)), (bo, z_B G 16384 (fun _ => 0)), (q_1, .inr (0, [.ref bc, .ref bd, .ref bt, .ref bp, .ref bo, .int (nI (0 + z_k 0 (nI 1024))), .int (-1 : Int32), .int (nI 0)])), (bt, z_B G 16384 t1)] A s H locs := hS
  obtain ⟨rfl, -, -⟩ := hp
  have hS := hS.sub (ws' := [(q_1, .inr (0, [.ref bc, .ref bd, .ref bt, .ref bp, .ref bo, .int (nI (0 + z_k 0 (nI 1024))), .int (-1 : Int32), .int (nI 0)])), (bc, .inr (1, [])), (bd, .inr (2, [])), (bt, z_B G 16384 t1), (bp, z_B G 16464 (fun _ => 0)), (bo, z_B G 16384 (fun _ => 0))]) [4, 0, 1, 5, 2, 3] rfl rfl
  refine z_top (y := (nI 1024)) (congrArg nI hk1) ?_
  have hS : z_S G [(q_1, .inr (0, [.ref bc, .ref bd, .ref bt, .ref bp, .ref bo, .int (nI 1024), .int (-1 : Int32), .int (nI 0)])), (bc, .inr (1, [])), (bd, .inr (2, [])), (bt, z_B G 16384 t1), (bp, z_B G 16464 (fun _ => 0)), (bo, z_B G 16384 (fun _ => 0))] A s H locs := by have e : 0 + z_k 0 (nI 1024) = 1024 := (by rw [hk1]); rw [e] at hS; exact hS
  refine lv_sipush (v := (nI 1024)) X.x X.b dX0_askedCounts_34 (by decide) ?_
  refine z_icmp_ne (tgt := 76) X.x X.b dX0_askedCounts_37 (by decide) (by omega) (by omega) (fun c_10 => by exfalso; omega) (fun c_10 => ?_)
  refine lv_aload_n X.x X.b dX0_askedCounts_40 rfl (lv_at hl 0 rfl) ?_
  refine lv_bipush (v := (nI 7)) X.x X.b dX0_askedCounts_41 (by decide) ?_
  refine lv_sipush (v := (nI 1025)) X.x X.b dX0_askedCounts_43 (by decide) ?_
  have hk2 : z_k 1024 (nI 1025) = 0 := by decide +kernel
  refine z_cVi (ci := 0) (q0 := 0) (wr := [(bc, .inr (1, [])), (bd, .inr (2, [])), (bp, z_B G 16464 (fun _ => 0)), (bo, z_B G 16384 (fun _ => 0))]) X rfl z_E0ok trivial hS (m_fill l G q_1 bc bd bt bp bo 1024 (-1 : Int32) 0 (by omega) t1 (nI 7) (nI 1025)) 2 q112 q113 q114 q3 q115 nm_m_fill ⟨rfl, rfl⟩ ⟨Nat.le_of_ble_eq_true rfl, Nat.le_of_ble_eq_true rfl⟩ rfl rfl rfl [0, 3] [1, 2, 4, 5] ⟨rfl, rfl, rfl, rfl, by decide⟩ rfl hl.1 rfl (Nat.le_of_ble_eq_true rfl) ⟨Nat.le_of_ble_eq_true rfl, Nat.le_of_ble_eq_true rfl⟩ dX0_askedCounts_46 (fun r_11 t2 H locs hp hS => ?_)
  have hS : z_S G [(bc, .inr (1, [])), (bd, .inr (2, [])), (bp, z_B G 16464 (fun _ => 0)), (bo, z_B G 16384 (fun _ => 0)), (q_1, .inr (0, [.ref bc, .ref bd, .ref bt, .ref bp, .ref bo, .int (nI (1024 + z_k 1024 (nI 1025))), .int (-1 : Int32), .int (nI 0)])), (bt, z_B G 16384 t2)] A s H locs := hS
  obtain ⟨rfl, -, -⟩ := hp
  have hS := hS.sub (ws' := [(q_1, .inr (0, [.ref bc, .ref bd, .ref bt, .ref bp, .ref bo, .int (nI (1024 + z_k 1024 (nI 1025))), .int (-1 : Int32), .int (nI 0)])), (bc, .inr (1, [])), (bd, .inr (2, [])), (bt, z_B G 16384 t2), (bp, z_B G 16464 (fun _ => 0)), (bo, z_B G 16384 (fun _ => 0))]) [4, 0, 1, 5, 2, 3] rfl rfl
  refine z_top (y := (nI 0)) (congrArg nI hk2) ?_
  have hS : z_S G [(q_1, .inr (0, [.ref bc, .ref bd, .ref bt, .ref bp, .ref bo, .int (nI 1024), .int (-1 : Int32), .int (nI 0)])), (bc, .inr (1, [])), (bd, .inr (2, [])), (bt, z_B G 16384 t2), (bp, z_B G 16464 (fun _ => 0)), (bo, z_B G 16384 (fun _ => 0))] A s H locs := by have e : 1024 + z_k 1024 (nI 1025) = 1024 := (by rw [hk2]); rw [e] at hS; exact hS
  refine z_if_ne (tgt := 76) X.x X.b dX0_askedCounts_49 (by decide) (by omega) (fun c_12 => by exfalso; omega) (fun c_12 => ?_)
  refine lv_aload_n X.x X.b dX0_askedCounts_52 rfl (lv_at hl 0 rfl) ?_
  refine lv_bipush (v := (nI 7)) X.x X.b dX0_askedCounts_53 (by decide) ?_
  refine z_ldc (v := (-2147483648)) X rfl q641 dX0_askedCounts_55 ?_
  have hk3 : z_k 1024 (-2147483648) = 0 := by decide +kernel
  refine z_cVi (ci := 0) (q0 := 0) (wr := [(bc, .inr (1, [])), (bd, .inr (2, [])), (bp, z_B G 16464 (fun _ => 0)), (bo, z_B G 16384 (fun _ => 0))]) X rfl z_E0ok trivial hS (m_fill l G q_1 bc bd bt bp bo 1024 (-1 : Int32) 0 (by omega) t2 (nI 7) (-2147483648)) 2 q112 q113 q114 q3 q115 nm_m_fill ⟨rfl, rfl⟩ ⟨Nat.le_of_ble_eq_true rfl, Nat.le_of_ble_eq_true rfl⟩ rfl rfl rfl [0, 3] [1, 2, 4, 5] ⟨rfl, rfl, rfl, rfl, by decide⟩ rfl hl.1 rfl (Nat.le_of_ble_eq_true rfl) ⟨Nat.le_of_ble_eq_true rfl, Nat.le_of_ble_eq_true rfl⟩ dX0_askedCounts_57 (fun r_13 t3 H locs hp hS => ?_)
  have hS : z_S G [(bc, .inr (1, [])), (bd, .inr (2, [])), (bp, z_B G 16464 (fun _ => 0)), (bo, z_B G 16384 (fun _ => 0)), (q_1, .inr (0, [.ref bc, .ref bd, .ref bt, .ref bp, .ref bo, .int (nI (1024 + z_k 1024 (-2147483648))), .int (-1 : Int32), .int (nI 0)])), (bt, z_B G 16384 t3)] A s H locs := hS
  obtain ⟨rfl, -, -⟩ := hp
  have hS := hS.sub (ws' := [(q_1, .inr (0, [.ref bc, .ref bd, .ref bt, .ref bp, .ref bo, .int (nI (1024 + z_k 1024 (-2147483648))), .int (-1 : Int32), .int (nI 0)])), (bc, .inr (1, [])), (bd, .inr (2, [])), (bt, z_B G 16384 t3), (bp, z_B G 16464 (fun _ => 0)), (bo, z_B G 16384 (fun _ => 0))]) [4, 0, 1, 5, 2, 3] rfl rfl
  refine z_top (y := (nI 0)) (congrArg nI hk3) ?_
  have hS : z_S G [(q_1, .inr (0, [.ref bc, .ref bd, .ref bt, .ref bp, .ref bo, .int (nI 1024), .int (-1 : Int32), .int (nI 0)])), (bc, .inr (1, [])), (bd, .inr (2, [])), (bt, z_B G 16384 t3), (bp, z_B G 16464 (fun _ => 0)), (bo, z_B G 16384 (fun _ => 0))] A s H locs := by have e : 1024 + z_k 1024 (-2147483648) = 1024 := (by rw [hk3]); rw [e] at hS; exact hS
  refine z_if_ne (tgt := 76) X.x X.b dX0_askedCounts_60 (by decide) (by omega) (fun c_14 => by exfalso; omega) (fun c_14 => ?_)
  refine lv_aload_n X.x X.b dX0_askedCounts_63 rfl (lv_at hl 0 rfl) ?_
  refine lv_bipush (v := (nI 7)) X.x X.b dX0_askedCounts_64 (by decide) ?_
  refine lv_iconst (v := (-1 : Int32)) X.x X.b dX0_askedCounts_66 (by decide) ?_
  have hk4 : z_k 1024 (-1 : Int32) = 1022 := by decide +kernel
  refine z_cVi (ci := 0) (q0 := 0) (wr := [(bc, .inr (1, [])), (bd, .inr (2, [])), (bp, z_B G 16464 (fun _ => 0)), (bo, z_B G 16384 (fun _ => 0))]) X rfl z_E0ok trivial hS (m_fill l G q_1 bc bd bt bp bo 1024 (-1 : Int32) 0 (by omega) t3 (nI 7) (-1 : Int32)) 2 q112 q113 q114 q3 q115 nm_m_fill ⟨rfl, rfl⟩ ⟨Nat.le_of_ble_eq_true rfl, Nat.le_of_ble_eq_true rfl⟩ rfl rfl rfl [0, 3] [1, 2, 4, 5] ⟨rfl, rfl, rfl, rfl, by decide⟩ rfl hl.1 rfl (Nat.le_of_ble_eq_true rfl) ⟨Nat.le_of_ble_eq_true rfl, Nat.le_of_ble_eq_true rfl⟩ dX0_askedCounts_67 (fun r_15 t4 H locs hp hS => ?_)
  have hS : z_S G [(bc, .inr (1, [])), (bd, .inr (2, [])), (bp, z_B G 16464 (fun _ => 0)), (bo, z_B G 16384 (fun _ => 0)), (q_1, .inr (0, [.ref bc, .ref bd, .ref bt, .ref bp, .ref bo, .int (nI (1024 + z_k 1024 (-1 : Int32))), .int (-1 : Int32), .int (nI 0)])), (bt, z_B G 16384 t4)] A s H locs := hS
  obtain ⟨rfl, -, -⟩ := hp
  have hS := hS.sub (ws' := [(q_1, .inr (0, [.ref bc, .ref bd, .ref bt, .ref bp, .ref bo, .int (nI (1024 + z_k 1024 (-1 : Int32))), .int (-1 : Int32), .int (nI 0)])), (bc, .inr (1, [])), (bd, .inr (2, [])), (bt, z_B G 16384 t4), (bp, z_B G 16464 (fun _ => 0)), (bo, z_B G 16384 (fun _ => 0))]) [4, 0, 1, 5, 2, 3] rfl rfl
  refine z_top (y := (nI 1022)) (congrArg nI hk4) ?_
  have hS : z_S G [(q_1, .inr (0, [.ref bc, .ref bd, .ref bt, .ref bp, .ref bo, .int (nI 2046), .int (-1 : Int32), .int (nI 0)])), (bc, .inr (1, [])), (bd, .inr (2, [])), (bt, z_B G 16384 t4), (bp, z_B G 16464 (fun _ => 0)), (bo, z_B G 16384 (fun _ => 0))] A s H locs := by have e : 1024 + z_k 1024 (-1 : Int32) = 2046 := (by rw [hk4]); rw [e] at hS; exact hS
  refine lv_sipush (v := (nI 1022)) X.x X.b dX0_askedCounts_70 (by decide) ?_
  refine z_icmp_eq (tgt := 78) X.x X.b dX0_askedCounts_73 (by decide) (by omega) (by omega) (fun c_16 => ?_) (fun c_16 => by exfalso; omega)
  refine lv_aload_n X.x X.b dX0_askedCounts_78 rfl (lv_at hl 0 rfl) ?_
  refine z_cVi (ci := 0) (q0 := 0) (wr := [(bc, .inr (1, [])), (bd, .inr (2, [])), (bt, z_B G 16384 t4), (bp, z_B G 16464 (fun _ => 0)), (bo, z_B G 16384 (fun _ => 0))]) X rfl z_E0ok trivial hS (m_size l G q_1 bc bd bt bp bo 2046 (-1 : Int32) 0 (by omega)) 0 q120 q121 q122 q3 q123 nm_m_size ⟨rfl, rfl⟩ ⟨Nat.le_of_ble_eq_true rfl, Nat.le_of_ble_eq_true rfl⟩ rfl rfl rfl [0] [1, 2, 3, 4, 5] ⟨rfl, rfl, rfl, rfl, by decide⟩ rfl hl.1 rfl (Nat.le_of_ble_eq_true rfl) ⟨Nat.le_of_ble_eq_true rfl, Nat.le_of_ble_eq_true rfl⟩ dX0_askedCounts_79 (fun r_17 u_18 H locs hp hS => ?_)
  have hS : z_S G [(bc, .inr (1, [])), (bd, .inr (2, [])), (bt, z_B G 16384 t4), (bp, z_B G 16464 (fun _ => 0)), (bo, z_B G 16384 (fun _ => 0)), (q_1, .inr (0, [.ref bc, .ref bd, .ref bt, .ref bp, .ref bo, .int (nI 2046), .int (-1 : Int32), .int (nI 0)]))] A s H locs := hS
  subst hp
  have hS := hS.sub (ws' := [(q_1, .inr (0, [.ref bc, .ref bd, .ref bt, .ref bp, .ref bo, .int (nI 2046), .int (-1 : Int32), .int (nI 0)])), (bc, .inr (1, [])), (bd, .inr (2, [])), (bt, z_B G 16384 t4), (bp, z_B G 16464 (fun _ => 0)), (bo, z_B G 16384 (fun _ => 0))]) [5, 0, 1, 2, 3, 4] rfl rfl
  refine lv_istore_n (lv' := [(1, .int (nI 2046)), (0, .ref q_1)]) X.x X.b dX0_askedCounts_82 rfl hl (by decide) rfl (fun ls hl => ?_)
  refine lv_aload_n X.x X.b dX0_askedCounts_83 rfl (lv_at hl 1 rfl) ?_
  refine lv_iconst (v := (-1 : Int32)) X.x X.b dX0_askedCounts_84 (by decide) ?_
  refine lv_sipush (v := (nI 1026)) X.x X.b dX0_askedCounts_85 (by decide) ?_
  have hk5 : z_k 2046 (nI 1026) = 1 := by decide +kernel
  refine z_cVi (ci := 0) (q0 := 0) (wr := [(bc, .inr (1, [])), (bd, .inr (2, [])), (bp, z_B G 16464 (fun _ => 0)), (bo, z_B G 16384 (fun _ => 0))]) X rfl z_E0ok trivial hS (m_rep l G q_1 bc bd bt bp bo 2046 (-1 : Int32) 0 (by omega) (by decide) t4 (-1 : Int32) (nI 1026)) 2 q106 q107 q108 q3 q109 nm_m_rep ⟨rfl, rfl⟩ ⟨Nat.le_of_ble_eq_true rfl, Nat.le_of_ble_eq_true rfl⟩ rfl rfl rfl [0, 3] [1, 2, 4, 5] ⟨rfl, rfl, rfl, rfl, by decide⟩ rfl hl.1 rfl (Nat.le_of_ble_eq_true rfl) ⟨Nat.le_of_ble_eq_true rfl, Nat.le_of_ble_eq_true rfl⟩ dX0_askedCounts_88 (fun r_19 t5 H locs hp hS => ?_)
  have hS : z_S G [(bc, .inr (1, [])), (bd, .inr (2, [])), (bp, z_B G 16464 (fun _ => 0)), (bo, z_B G 16384 (fun _ => 0)), (q_1, .inr (0, [.ref bc, .ref bd, .ref bt, .ref bp, .ref bo, .int (nI (2046 + z_k 2046 (nI 1026))), .int (-1 : Int32), .int (nI 0)])), (bt, z_B G 16384 t5)] A s H locs := hS
  obtain ⟨rfl, -, -⟩ := hp
  have hS := hS.sub (ws' := [(q_1, .inr (0, [.ref bc, .ref bd, .ref bt, .ref bp, .ref bo, .int (nI (2046 + z_k 2046 (nI 1026))), .int (-1 : Int32), .int (nI 0)])), (bc, .inr (1, [])), (bd, .inr (2, [])), (bt, z_B G 16384 t5), (bp, z_B G 16464 (fun _ => 0)), (bo, z_B G 16384 (fun _ => 0))]) [4, 0, 1, 5, 2, 3] rfl rfl
  refine z_top (y := (nI 1)) (congrArg nI hk5) ?_
  have hS : z_S G [(q_1, .inr (0, [.ref bc, .ref bd, .ref bt, .ref bp, .ref bo, .int (nI 2047), .int (-1 : Int32), .int (nI 0)])), (bc, .inr (1, [])), (bd, .inr (2, [])), (bt, z_B G 16384 t5), (bp, z_B G 16464 (fun _ => 0)), (bo, z_B G 16384 (fun _ => 0))] A s H locs := by have e : 2046 + z_k 2046 (nI 1026) = 2047 := (by rw [hk5]); rw [e] at hS; exact hS
  refine lv_iconst (v := (nI 1)) X.x X.b dX0_askedCounts_91 (by decide) ?_
  refine z_icmp_ne (tgt := 105) X.x X.b dX0_askedCounts_92 (by decide) (by omega) (by omega) (fun c_20 => by exfalso; omega) (fun c_20 => ?_)
  refine lv_aload_n X.x X.b dX0_askedCounts_95 rfl (lv_at hl 1 rfl) ?_
  refine z_cVi (ci := 0) (q0 := 0) (wr := [(bc, .inr (1, [])), (bd, .inr (2, [])), (bt, z_B G 16384 t5), (bp, z_B G 16464 (fun _ => 0)), (bo, z_B G 16384 (fun _ => 0))]) X rfl z_E0ok trivial hS (m_size l G q_1 bc bd bt bp bo 2047 (-1 : Int32) 0 (by omega)) 0 q120 q121 q122 q3 q123 nm_m_size ⟨rfl, rfl⟩ ⟨Nat.le_of_ble_eq_true rfl, Nat.le_of_ble_eq_true rfl⟩ rfl rfl rfl [0] [1, 2, 3, 4, 5] ⟨rfl, rfl, rfl, rfl, by decide⟩ rfl hl.1 rfl (Nat.le_of_ble_eq_true rfl) ⟨Nat.le_of_ble_eq_true rfl, Nat.le_of_ble_eq_true rfl⟩ dX0_askedCounts_96 (fun r_21 u_22 H locs hp hS => ?_)
  have hS : z_S G [(bc, .inr (1, [])), (bd, .inr (2, [])), (bt, z_B G 16384 t5), (bp, z_B G 16464 (fun _ => 0)), (bo, z_B G 16384 (fun _ => 0)), (q_1, .inr (0, [.ref bc, .ref bd, .ref bt, .ref bp, .ref bo, .int (nI 2047), .int (-1 : Int32), .int (nI 0)]))] A s H locs := hS
  subst hp
  have hS := hS.sub (ws' := [(q_1, .inr (0, [.ref bc, .ref bd, .ref bt, .ref bp, .ref bo, .int (nI 2047), .int (-1 : Int32), .int (nI 0)])), (bc, .inr (1, [])), (bd, .inr (2, [])), (bt, z_B G 16384 t5), (bp, z_B G 16464 (fun _ => 0)), (bo, z_B G 16384 (fun _ => 0))]) [5, 0, 1, 2, 3, 4] rfl rfl
  refine lv_iload_n X.x X.b dX0_askedCounts_99 rfl (lv_at hl 0 rfl) ?_
  refine lv_iconst (v := (nI 1)) X.x X.b dX0_askedCounts_100 (by decide) ?_
  refine z_iadd X.x X.b dX0_askedCounts_101 ?_
  refine z_icmp_eq (tgt := 107) X.x X.b dX0_askedCounts_102 (by decide) (by omega) (by omega) (fun c_23 => ?_) (fun c_23 => by exfalso; omega)
  refine lo_cnt q_1 bc bd bt bp bo X (fun t H locs ls hS hl => ?_) 16385 2047 t5 (by decide) (by decide) (by decide) (by decide) H _ ls hS (lv_sub hl [1] rfl)
  refine lv_sipush (v := (nI 16384)) X.x X.b dX0_askedCounts_134 (by decide) ?_
  refine lv_aload_n X.x X.b dX0_askedCounts_137 rfl (lv_at hl 0 rfl) ?_
  refine z_cVi (ci := 0) (q0 := 0) (wr := [(bc, .inr (1, [])), (bd, .inr (2, [])), (bt, z_B G 16384 t), (bp, z_B G 16464 (fun _ => 0)), (bo, z_B G 16384 (fun _ => 0))]) X rfl z_E0ok trivial hS (m_size l G q_1 bc bd bt bp bo 16383 (-1 : Int32) 0 (by omega)) 0 q120 q121 q122 q3 q123 nm_m_size ⟨rfl, rfl⟩ ⟨Nat.le_of_ble_eq_true rfl, Nat.le_of_ble_eq_true rfl⟩ rfl rfl rfl [0] [1, 2, 3, 4, 5] ⟨rfl, rfl, rfl, rfl, by decide⟩ rfl hl.1 rfl (Nat.le_of_ble_eq_true rfl) ⟨Nat.le_of_ble_eq_true rfl, Nat.le_of_ble_eq_true rfl⟩ dX0_askedCounts_138 (fun r_24 u_25 H locs hp hS => ?_)
  have hS : z_S G [(bc, .inr (1, [])), (bd, .inr (2, [])), (bt, z_B G 16384 t), (bp, z_B G 16464 (fun _ => 0)), (bo, z_B G 16384 (fun _ => 0)), (q_1, .inr (0, [.ref bc, .ref bd, .ref bt, .ref bp, .ref bo, .int (nI 16383), .int (-1 : Int32), .int (nI 0)]))] A s H locs := hS
  subst hp
  have hS := hS.sub (ws' := [(q_1, .inr (0, [.ref bc, .ref bd, .ref bt, .ref bp, .ref bo, .int (nI 16383), .int (-1 : Int32), .int (nI 0)])), (bc, .inr (1, [])), (bd, .inr (2, [])), (bt, z_B G 16384 t), (bp, z_B G 16464 (fun _ => 0)), (bo, z_B G 16384 (fun _ => 0))]) [5, 0, 1, 2, 3, 4] rfl rfl
  refine z_isub X.x X.b dX0_askedCounts_141 (by omega) ?_
  refine z_top (y := (nI 1)) (by decide) ?_
  refine lv_istore_n (lv' := [(2, .int (nI 1)), (0, .ref q_1)]) X.x X.b dX0_askedCounts_142 rfl hl (by decide) rfl (fun ls hl => ?_)
  refine lv_iload_n X.x X.b dX0_askedCounts_143 rfl (lv_at hl 0 rfl) ?_
  refine z_if_le (tgt := 159) X.x X.b dX0_askedCounts_144 (by decide) (by omega) (fun c_26 => by exfalso; omega) (fun c_26 => ?_)
  refine lv_aload_n X.x X.b dX0_askedCounts_147 rfl (lv_at hl 1 rfl) ?_
  refine lv_iconst (v := (nI 0)) X.x X.b dX0_askedCounts_148 (by decide) ?_
  refine lv_sipush (v := (nI 1024)) X.x X.b dX0_askedCounts_149 (by decide) ?_
  have hk6 : z_k 16383 (nI 1024) = 1 := by decide +kernel
  refine z_cVi (ci := 0) (q0 := 0) (wr := [(bc, .inr (1, [])), (bd, .inr (2, [])), (bp, z_B G 16464 (fun _ => 0)), (bo, z_B G 16384 (fun _ => 0))]) X rfl z_E0ok trivial hS (m_rep l G q_1 bc bd bt bp bo 16383 (-1 : Int32) 0 (by omega) (by decide) t (nI 0) (nI 1024)) 2 q106 q107 q108 q3 q109 nm_m_rep ⟨rfl, rfl⟩ ⟨Nat.le_of_ble_eq_true rfl, Nat.le_of_ble_eq_true rfl⟩ rfl rfl rfl [0, 3] [1, 2, 4, 5] ⟨rfl, rfl, rfl, rfl, by decide⟩ rfl hl.1 rfl (Nat.le_of_ble_eq_true rfl) ⟨Nat.le_of_ble_eq_true rfl, Nat.le_of_ble_eq_true rfl⟩ dX0_askedCounts_152 (fun r_27 t6 H locs hp hS => ?_)
  have hS : z_S G [(bc, .inr (1, [])), (bd, .inr (2, [])), (bp, z_B G 16464 (fun _ => 0)), (bo, z_B G 16384 (fun _ => 0)), (q_1, .inr (0, [.ref bc, .ref bd, .ref bt, .ref bp, .ref bo, .int (nI (16383 + z_k 16383 (nI 1024))), .int (-1 : Int32), .int (nI 0)])), (bt, z_B G 16384 t6)] A s H locs := hS
  obtain ⟨rfl, -, -⟩ := hp
  have hS := hS.sub (ws' := [(q_1, .inr (0, [.ref bc, .ref bd, .ref bt, .ref bp, .ref bo, .int (nI (16383 + z_k 16383 (nI 1024))), .int (-1 : Int32), .int (nI 0)])), (bc, .inr (1, [])), (bd, .inr (2, [])), (bt, z_B G 16384 t6), (bp, z_B G 16464 (fun _ => 0)), (bo, z_B G 16384 (fun _ => 0))]) [4, 0, 1, 5, 2, 3] rfl rfl
  refine z_top (y := (nI 1)) (congrArg nI hk6) ?_
  have hS : z_S G [(q_1, .inr (0, [.ref bc, .ref bd, .ref bt, .ref bp, .ref bo, .int (nI 16384), .int (-1 : Int32), .int (nI 0)])), (bc, .inr (1, [])), (bd, .inr (2, [])), (bt, z_B G 16384 t6), (bp, z_B G 16464 (fun _ => 0)), (bo, z_B G 16384 (fun _ => 0))] A s H locs := by have e : 16383 + z_k 16383 (nI 1024) = 16384 := (by rw [hk6]); rw [e] at hS; exact hS
  refine lv_iload_n X.x X.b dX0_askedCounts_155 rfl (lv_at hl 0 rfl) ?_
  refine z_icmp_ne (tgt := 169) X.x X.b dX0_askedCounts_156 (by decide) (by omega) (by omega) (fun c_28 => by exfalso; omega) (fun c_28 => ?_)
  refine lv_aload_n X.x X.b dX0_askedCounts_159 rfl (lv_at hl 1 rfl) ?_
  refine z_cVi (ci := 0) (q0 := 0) (wr := [(bc, .inr (1, [])), (bd, .inr (2, [])), (bt, z_B G 16384 t6), (bp, z_B G 16464 (fun _ => 0)), (bo, z_B G 16384 (fun _ => 0))]) X rfl z_E0ok trivial hS (m_size l G q_1 bc bd bt bp bo 16384 (-1 : Int32) 0 (by omega)) 0 q120 q121 q122 q3 q123 nm_m_size ⟨rfl, rfl⟩ ⟨Nat.le_of_ble_eq_true rfl, Nat.le_of_ble_eq_true rfl⟩ rfl rfl rfl [0] [1, 2, 3, 4, 5] ⟨rfl, rfl, rfl, rfl, by decide⟩ rfl hl.1 rfl (Nat.le_of_ble_eq_true rfl) ⟨Nat.le_of_ble_eq_true rfl, Nat.le_of_ble_eq_true rfl⟩ dX0_askedCounts_160 (fun r_29 u_30 H locs hp hS => ?_)
  have hS : z_S G [(bc, .inr (1, [])), (bd, .inr (2, [])), (bt, z_B G 16384 t6), (bp, z_B G 16464 (fun _ => 0)), (bo, z_B G 16384 (fun _ => 0)), (q_1, .inr (0, [.ref bc, .ref bd, .ref bt, .ref bp, .ref bo, .int (nI 16384), .int (-1 : Int32), .int (nI 0)]))] A s H locs := hS
  subst hp
  have hS := hS.sub (ws' := [(q_1, .inr (0, [.ref bc, .ref bd, .ref bt, .ref bp, .ref bo, .int (nI 16384), .int (-1 : Int32), .int (nI 0)])), (bc, .inr (1, [])), (bd, .inr (2, [])), (bt, z_B G 16384 t6), (bp, z_B G 16464 (fun _ => 0)), (bo, z_B G 16384 (fun _ => 0))]) [5, 0, 1, 2, 3, 4] rfl rfl
  refine lv_sipush (v := (nI 16384)) X.x X.b dX0_askedCounts_163 (by decide) ?_
  refine z_icmp_eq (tgt := 171) X.x X.b dX0_askedCounts_166 (by decide) (by omega) (by omega) (fun c_31 => ?_) (fun c_31 => by exfalso; omega)
  refine lv_aload_n X.x X.b dX0_askedCounts_171 rfl (lv_at hl 1 rfl) ?_
  refine lv_iconst (v := (nI 1)) X.x X.b dX0_askedCounts_172 (by decide) ?_
  refine lv_iconst (v := (nI 1)) X.x X.b dX0_askedCounts_173 (by decide) ?_
  have hk7 : z_k 16384 (nI 1) = 0 := by decide +kernel
  refine z_cVi (ci := 0) (q0 := 0) (wr := [(bc, .inr (1, [])), (bd, .inr (2, [])), (bp, z_B G 16464 (fun _ => 0)), (bo, z_B G 16384 (fun _ => 0))]) X rfl z_E0ok trivial hS (m_fill l G q_1 bc bd bt bp bo 16384 (-1 : Int32) 0 (by omega) t6 (nI 1) (nI 1)) 2 q112 q113 q114 q3 q115 nm_m_fill ⟨rfl, rfl⟩ ⟨Nat.le_of_ble_eq_true rfl, Nat.le_of_ble_eq_true rfl⟩ rfl rfl rfl [0, 3] [1, 2, 4, 5] ⟨rfl, rfl, rfl, rfl, by decide⟩ rfl hl.1 rfl (Nat.le_of_ble_eq_true rfl) ⟨Nat.le_of_ble_eq_true rfl, Nat.le_of_ble_eq_true rfl⟩ dX0_askedCounts_174 (fun r_32 t7 H locs hp hS => ?_)
  have hS : z_S G [(bc, .inr (1, [])), (bd, .inr (2, [])), (bp, z_B G 16464 (fun _ => 0)), (bo, z_B G 16384 (fun _ => 0)), (q_1, .inr (0, [.ref bc, .ref bd, .ref bt, .ref bp, .ref bo, .int (nI (16384 + z_k 16384 (nI 1))), .int (-1 : Int32), .int (nI 0)])), (bt, z_B G 16384 t7)] A s H locs := hS
  obtain ⟨rfl, -, -⟩ := hp
  have hS := hS.sub (ws' := [(q_1, .inr (0, [.ref bc, .ref bd, .ref bt, .ref bp, .ref bo, .int (nI (16384 + z_k 16384 (nI 1))), .int (-1 : Int32), .int (nI 0)])), (bc, .inr (1, [])), (bd, .inr (2, [])), (bt, z_B G 16384 t7), (bp, z_B G 16464 (fun _ => 0)), (bo, z_B G 16384 (fun _ => 0))]) [4, 0, 1, 5, 2, 3] rfl rfl
  refine z_top (y := (nI 0)) (congrArg nI hk7) ?_
  have hS : z_S G [(q_1, .inr (0, [.ref bc, .ref bd, .ref bt, .ref bp, .ref bo, .int (nI 16384), .int (-1 : Int32), .int (nI 0)])), (bc, .inr (1, [])), (bd, .inr (2, [])), (bt, z_B G 16384 t7), (bp, z_B G 16464 (fun _ => 0)), (bo, z_B G 16384 (fun _ => 0))] A s H locs := by have e : 16384 + z_k 16384 (nI 1) = 16384 := (by rw [hk7]); rw [e] at hS; exact hS
  refine z_if_ne (tgt := 214) X.x X.b dX0_askedCounts_177 (by decide) (by omega) (fun c_33 => by exfalso; omega) (fun c_33 => ?_)
  refine lv_aload_n X.x X.b dX0_askedCounts_180 rfl (lv_at hl 1 rfl) ?_
  refine lv_iconst (v := (nI 0)) X.x X.b dX0_askedCounts_181 (by decide) ?_
  refine lv_iconst (v := (nI 1)) X.x X.b dX0_askedCounts_182 (by decide) ?_
  have hk8 : z_k 16384 (nI 1) = 0 := by decide +kernel
  refine z_cVi (ci := 0) (q0 := 0) (wr := [(bc, .inr (1, [])), (bd, .inr (2, [])), (bp, z_B G 16464 (fun _ => 0)), (bo, z_B G 16384 (fun _ => 0))]) X rfl z_E0ok trivial hS (m_rep l G q_1 bc bd bt bp bo 16384 (-1 : Int32) 0 (by omega) (by decide) t7 (nI 0) (nI 1)) 2 q106 q107 q108 q3 q109 nm_m_rep ⟨rfl, rfl⟩ ⟨Nat.le_of_ble_eq_true rfl, Nat.le_of_ble_eq_true rfl⟩ rfl rfl rfl [0, 3] [1, 2, 4, 5] ⟨rfl, rfl, rfl, rfl, by decide⟩ rfl hl.1 rfl (Nat.le_of_ble_eq_true rfl) ⟨Nat.le_of_ble_eq_true rfl, Nat.le_of_ble_eq_true rfl⟩ dX0_askedCounts_183 (fun r_34 t8 H locs hp hS => ?_)
  have hS : z_S G [(bc, .inr (1, [])), (bd, .inr (2, [])), (bp, z_B G 16464 (fun _ => 0)), (bo, z_B G 16384 (fun _ => 0)), (q_1, .inr (0, [.ref bc, .ref bd, .ref bt, .ref bp, .ref bo, .int (nI (16384 + z_k 16384 (nI 1))), .int (-1 : Int32), .int (nI 0)])), (bt, z_B G 16384 t8)] A s H locs := hS
  obtain ⟨rfl, -, -⟩ := hp
  have hS := hS.sub (ws' := [(q_1, .inr (0, [.ref bc, .ref bd, .ref bt, .ref bp, .ref bo, .int (nI (16384 + z_k 16384 (nI 1))), .int (-1 : Int32), .int (nI 0)])), (bc, .inr (1, [])), (bd, .inr (2, [])), (bt, z_B G 16384 t8), (bp, z_B G 16464 (fun _ => 0)), (bo, z_B G 16384 (fun _ => 0))]) [4, 0, 1, 5, 2, 3] rfl rfl
  refine z_top (y := (nI 0)) (congrArg nI hk8) ?_
  have hS : z_S G [(q_1, .inr (0, [.ref bc, .ref bd, .ref bt, .ref bp, .ref bo, .int (nI 16384), .int (-1 : Int32), .int (nI 0)])), (bc, .inr (1, [])), (bd, .inr (2, [])), (bt, z_B G 16384 t8), (bp, z_B G 16464 (fun _ => 0)), (bo, z_B G 16384 (fun _ => 0))] A s H locs := by have e : 16384 + z_k 16384 (nI 1) = 16384 := (by rw [hk8]); rw [e] at hS; exact hS
  refine z_if_ne (tgt := 214) X.x X.b dX0_askedCounts_186 (by decide) (by omega) (fun c_35 => by exfalso; omega) (fun c_35 => ?_)
  refine lv_aload_n X.x X.b dX0_askedCounts_189 rfl (lv_at hl 1 rfl) ?_
  refine lv_iconst (v := (nI 1)) X.x X.b dX0_askedCounts_190 (by decide) ?_
  refine lv_iconst (v := (nI 2)) X.x X.b dX0_askedCounts_191 (by decide) ?_
  refine lv_iconst (v := (nI 3)) X.x X.b dX0_askedCounts_192 (by decide) ?_
  refine lv_iconst (v := (nI 4)) X.x X.b dX0_askedCounts_193 (by decide) ?_
  refine z_cVi (ci := 0) (q0 := 0) (wr := [(bc, .inr (1, [])), (bd, .inr (2, [])), (bp, z_B G 16464 (fun _ => 0)), (bo, z_B G 16384 (fun _ => 0))]) X rfl z_E0ok trivial hS (m_put0 l G q_1 bc bd bt bp bo 16384 (-1 : Int32) 0 (by omega) t8 (nI 1) (nI 2) (nI 3) (nI 4) (by decide)) 4 q95 q96 q97 q3 q98 nm_m_put0 ⟨rfl, rfl⟩ ⟨Nat.le_of_ble_eq_true rfl, Nat.le_of_ble_eq_true rfl⟩ rfl rfl rfl [0, 3] [1, 2, 4, 5] ⟨rfl, rfl, rfl, rfl, by decide⟩ rfl hl.1 rfl (Nat.le_of_ble_eq_true rfl) ⟨Nat.le_of_ble_eq_true rfl, Nat.le_of_ble_eq_true rfl⟩ dX0_askedCounts_194 (fun r_36 u_37 H locs hp hS => ?_)
  have hS : z_S G [(bc, .inr (1, [])), (bd, .inr (2, [])), (bp, z_B G 16464 (fun _ => 0)), (bo, z_B G 16384 (fun _ => 0)), (q_1, .inr (0, [.ref bc, .ref bd, .ref bt, .ref bp, .ref bo, .int (nI 16384), .int (-1 : Int32), .int (nI 0)])), (bt, z_B G 16384 t8)] A s H locs := hS
  subst hp
  have hS := hS.sub (ws' := [(q_1, .inr (0, [.ref bc, .ref bd, .ref bt, .ref bp, .ref bo, .int (nI 16384), .int (-1 : Int32), .int (nI 0)])), (bc, .inr (1, [])), (bd, .inr (2, [])), (bt, z_B G 16384 t8), (bp, z_B G 16464 (fun _ => 0)), (bo, z_B G 16384 (fun _ => 0))]) [4, 0, 1, 5, 2, 3] rfl rfl
  refine lv_if_ne (tgt := 214) X.x X.b dX0_askedCounts_197 (by decide) (fun c1 => absurd rfl c1) (fun _ => ?_)
  refine lv_aload_n X.x X.b dX0_askedCounts_200 rfl (lv_at hl 1 rfl) ?_
  refine z_cVi (ci := 0) (q0 := 0) (wr := [(bc, .inr (1, [])), (bd, .inr (2, [])), (bt, z_B G 16384 t8), (bp, z_B G 16464 (fun _ => 0)), (bo, z_B G 16384 (fun _ => 0))]) X rfl z_E0ok trivial hS (m_size l G q_1 bc bd bt bp bo 16384 (-1 : Int32) 0 (by omega)) 0 q120 q121 q122 q3 q123 nm_m_size ⟨rfl, rfl⟩ ⟨Nat.le_of_ble_eq_true rfl, Nat.le_of_ble_eq_true rfl⟩ rfl rfl rfl [0] [1, 2, 3, 4, 5] ⟨rfl, rfl, rfl, rfl, by decide⟩ rfl hl.1 rfl (Nat.le_of_ble_eq_true rfl) ⟨Nat.le_of_ble_eq_true rfl, Nat.le_of_ble_eq_true rfl⟩ dX0_askedCounts_201 (fun r_38 u_39 H locs hp hS => ?_)
  have hS : z_S G [(bc, .inr (1, [])), (bd, .inr (2, [])), (bt, z_B G 16384 t8), (bp, z_B G 16464 (fun _ => 0)), (bo, z_B G 16384 (fun _ => 0)), (q_1, .inr (0, [.ref bc, .ref bd, .ref bt, .ref bp, .ref bo, .int (nI 16384), .int (-1 : Int32), .int (nI 0)]))] A s H locs := hS
  subst hp
  have hS := hS.sub (ws' := [(q_1, .inr (0, [.ref bc, .ref bd, .ref bt, .ref bp, .ref bo, .int (nI 16384), .int (-1 : Int32), .int (nI 0)])), (bc, .inr (1, [])), (bd, .inr (2, [])), (bt, z_B G 16384 t8), (bp, z_B G 16464 (fun _ => 0)), (bo, z_B G 16384 (fun _ => 0))]) [5, 0, 1, 2, 3, 4] rfl rfl
  refine lv_sipush (v := (nI 16384)) X.x X.b dX0_askedCounts_204 (by decide) ?_
  refine z_icmp_ne (tgt := 214) X.x X.b dX0_askedCounts_207 (by decide) (by omega) (by omega) (fun c_40 => by exfalso; omega) (fun c_40 => ?_)
  refine lv_iconst (v := (nI 1)) X.x X.b dX0_askedCounts_210 (by decide) ?_
  refine lv_goto (tgt := 215) X.x X.b dX0_askedCounts_211 (by decide) ?_
  exact z_iret X hS () (rfl) (rfl) [] rfl rfl dX0_askedCounts_215
theorem nm_m_stands : z_Nm yX0_askedStands 0 := by decide +kernel
set_option maxHeartbeats 4000000 in
theorem m_stands (l : Launch) (G : z_G) : z_Mi l yX0_askedStands cX0_askedStands 1 .boolean (z_rm 5 9 73816 220) 9 73816 G z_E2 [] [] (S := Unit) (fun r _ => r = 1) (fun _ => []) := by
  refine Mi.mk (by decide) (Nat.le_of_ble_eq_true rfl) ?_
  intro p e s m below meth c A ls X hE hS hl
  have hl : lv_has ls 1 [] := hl
  refine z_newo (ci := 0) (fs := [.null, .null, .null, .null, .null, .int (nI 0), .int (nI 0), .int (nI 0)]) X rfl in_X1 tyX1 tyX1_ok q38 q39 q3 hS rfl (fun j hj => z_def j hj) (Nat.le_of_ble_eq_true rfl) (Nat.le_of_ble_eq_true rfl) dX0_askedStands_0 (fun q_1 H hS => ?_)
  have hS : z_S G [(q_1, .inr (0, [.null, .null, .null, .null, .null, .int (nI 0), .int (nI 0), .int (nI 0)]))] A s H _ := hS
  refine lv_dup X.x X.b dX0_askedStands_3 rfl ?_
  refine z_cIv (wr := []) X rfl z_E0ok trivial hS (m_new l G q_1) 0 q40 q41 q3 q42 rfl nm_m_new ⟨rfl, rfl⟩ ⟨Nat.le_of_ble_eq_true rfl, Nat.le_of_ble_eq_true rfl⟩ [0] [] ⟨rfl, rfl, rfl, rfl, by decide⟩ rfl hl.1 rfl (Nat.le_of_ble_eq_true rfl) ⟨Nat.le_of_ble_eq_true rfl, Nat.le_of_ble_eq_true rfl⟩ dX0_askedStands_4 (fun u_3 H locs hp hS => ?_)
  have hS : z_S G [(q_1, .inr (0, [.ref u_3.1, .ref u_3.2.1, .ref u_3.2.2.1, .ref u_3.2.2.2.1, .ref u_3.2.2.2.2, .int (nI 0), .int (-1 : Int32), .int (nI 0)])), (u_3.1, .inr (1, [])), (u_3.2.1, .inr (2, [])), (u_3.2.2.1, z_B G 16384 (fun _ => 0)), (u_3.2.2.2.1, z_B G 16464 (fun _ => 0)), (u_3.2.2.2.2, z_B G 16384 (fun _ => 0))] A s H locs := hS
  obtain ⟨bc, bd, bt, bp, bo⟩ := u_3
  have hS : z_S G [(q_1, .inr (0, [.ref bc, .ref bd, .ref bt, .ref bp, .ref bo, .int (nI 0), .int (-1 : Int32), .int (nI 0)])), (bc, .inr (1, [])), (bd, .inr (2, [])), (bt, z_B G 16384 (fun _ => 0)), (bp, z_B G 16464 (fun _ => 0)), (bo, z_B G 16384 (fun _ => 0))] A s H locs := hS
  refine lv_astore_n (lv' := [(0, .ref q_1)]) X.x X.b dX0_askedStands_7 rfl hl (by decide) rfl (fun ls hl => ?_)
  refine lv_aload_n X.x X.b dX0_askedStands_8 rfl (lv_at hl 0 rfl) ?_
  refine z_cVi (ci := 0) (q0 := 0) (wr := [(bc, .inr (1, [])), (bd, .inr (2, [])), (bt, z_B G 16384 (fun _ => 0)), (bp, z_B G 16464 (fun _ => 0)), (bo, z_B G 16384 (fun _ => 0))]) X rfl z_E0ok trivial hS (m_open0 l G q_1 bc bd bt bp bo 0 0) 0 q351 q352 q353 q3 q354 nm_m_open0 ⟨rfl, rfl⟩ ⟨Nat.le_of_ble_eq_true rfl, Nat.le_of_ble_eq_true rfl⟩ rfl rfl rfl [0] [1, 2, 3, 4, 5] ⟨rfl, rfl, rfl, rfl, by decide⟩ rfl hl.1 rfl (Nat.le_of_ble_eq_true rfl) ⟨Nat.le_of_ble_eq_true rfl, Nat.le_of_ble_eq_true rfl⟩ dX0_askedStands_9 (fun r_4 u_5 H locs hp hS => ?_)
  have hS : z_S G [(bc, .inr (1, [])), (bd, .inr (2, [])), (bt, z_B G 16384 (fun _ => 0)), (bp, z_B G 16464 (fun _ => 0)), (bo, z_B G 16384 (fun _ => 0)), (q_1, .inr (0, [.ref bc, .ref bd, .ref bt, .ref bp, .ref bo, .int (nI 0), .int (-1 : Int32), .int (nI 0)]))] A s H locs := hS
  subst hp
  have hS := hS.sub (ws' := [(q_1, .inr (0, [.ref bc, .ref bd, .ref bt, .ref bp, .ref bo, .int (nI 0), .int (-1 : Int32), .int (nI 0)])), (bc, .inr (1, [])), (bd, .inr (2, [])), (bt, z_B G 16384 (fun _ => 0)), (bp, z_B G 16464 (fun _ => 0)), (bo, z_B G 16384 (fun _ => 0))]) [5, 0, 1, 2, 3, 4] rfl rfl
  refine lv_iconst (v := (-1 : Int32)) X.x X.b dX0_askedStands_12 (by decide) ?_
  refine lv_icmp_ne (tgt := 32) X.x X.b dX0_askedStands_13 (by decide) (fun c2 => absurd rfl c2) (fun _ => ?_)
  refine lv_aload_n X.x X.b dX0_askedStands_16 rfl (lv_at hl 0 rfl) ?_
  refine lv_iconst (v := (nI 0)) X.x X.b dX0_askedStands_17 (by decide) ?_
  refine z_cVi (ci := 0) (q0 := 0) (wr := [(bc, .inr (1, [])), (bd, .inr (2, [])), (bt, z_B G 16384 (fun _ => 0)), (bp, z_B G 16464 (fun _ => 0)), (bo, z_B G 16384 (fun _ => 0))]) X rfl z_E0ok trivial hS (m_opened0 l G q_1 bc bd bt bp bo 0 (-1 : Int32) (nI 0)) 1 q628 q629 q630 q3 q631 nm_m_opened0 ⟨rfl, rfl⟩ ⟨Nat.le_of_ble_eq_true rfl, Nat.le_of_ble_eq_true rfl⟩ rfl rfl rfl [0] [1, 2, 3, 4, 5] ⟨rfl, rfl, rfl, rfl, by decide⟩ rfl hl.1 rfl (Nat.le_of_ble_eq_true rfl) ⟨Nat.le_of_ble_eq_true rfl, Nat.le_of_ble_eq_true rfl⟩ dX0_askedStands_18 (fun r_6 u_7 H locs hp hS => ?_)
  have hS : z_S G [(bc, .inr (1, [])), (bd, .inr (2, [])), (bt, z_B G 16384 (fun _ => 0)), (bp, z_B G 16464 (fun _ => 0)), (bo, z_B G 16384 (fun _ => 0)), (q_1, .inr (0, [.ref bc, .ref bd, .ref bt, .ref bp, .ref bo, .int (nI 0), .int (-1 : Int32), .int (nI 0)]))] A s H locs := hS
  subst hp
  have hS := hS.sub (ws' := [(q_1, .inr (0, [.ref bc, .ref bd, .ref bt, .ref bp, .ref bo, .int (nI 0), .int (-1 : Int32), .int (nI 0)])), (bc, .inr (1, [])), (bd, .inr (2, [])), (bt, z_B G 16384 (fun _ => 0)), (bp, z_B G 16464 (fun _ => 0)), (bo, z_B G 16384 (fun _ => 0))]) [5, 0, 1, 2, 3, 4] rfl rfl
  refine lv_iconst (v := (-1 : Int32)) X.x X.b dX0_askedStands_21 (by decide) ?_
  refine lv_icmp_ne (tgt := 32) X.x X.b dX0_askedStands_22 (by decide) (fun c2 => absurd rfl c2) (fun _ => ?_)
  refine lv_aload_n X.x X.b dX0_askedStands_25 rfl (lv_at hl 0 rfl) ?_
  refine z_cVi (ci := 0) (q0 := 0) (wr := [(bc, .inr (1, [])), (bd, .inr (2, [])), (bt, z_B G 16384 (fun _ => 0)), (bp, z_B G 16464 (fun _ => 0)), (bo, z_B G 16384 (fun _ => 0))]) X rfl z_E0ok trivial hS (m_size l G q_1 bc bd bt bp bo 0 (-1 : Int32) 0 (by omega)) 0 q120 q121 q122 q3 q123 nm_m_size ⟨rfl, rfl⟩ ⟨Nat.le_of_ble_eq_true rfl, Nat.le_of_ble_eq_true rfl⟩ rfl rfl rfl [0] [1, 2, 3, 4, 5] ⟨rfl, rfl, rfl, rfl, by decide⟩ rfl hl.1 rfl (Nat.le_of_ble_eq_true rfl) ⟨Nat.le_of_ble_eq_true rfl, Nat.le_of_ble_eq_true rfl⟩ dX0_askedStands_26 (fun r_8 u_9 H locs hp hS => ?_)
  have hS : z_S G [(bc, .inr (1, [])), (bd, .inr (2, [])), (bt, z_B G 16384 (fun _ => 0)), (bp, z_B G 16464 (fun _ => 0)), (bo, z_B G 16384 (fun _ => 0)), (q_1, .inr (0, [.ref bc, .ref bd, .ref bt, .ref bp, .ref bo, .int (nI 0), .int (-1 : Int32), .int (nI 0)]))] A s H locs := hS
  subst hp
  have hS := hS.sub (ws' := [(q_1, .inr (0, [.ref bc, .ref bd, .ref bt, .ref bp, .ref bo, .int (nI 0), .int (-1 : Int32), .int (nI 0)])), (bc, .inr (1, [])), (bd, .inr (2, [])), (bt, z_B G 16384 (fun _ => 0)), (bp, z_B G 16464 (fun _ => 0)), (bo, z_B G 16384 (fun _ => 0))]) [5, 0, 1, 2, 3, 4] rfl rfl
  refine z_if_eq (tgt := 34) X.x X.b dX0_askedStands_29 (by decide) (by omega) (fun c1 => ?_) (fun c1 => absurd rfl c1)
  refine lv_aload_n X.x X.b dX0_askedStands_34 rfl (lv_at hl 0 rfl) ?_
  refine z_ldc (v := 1633837924) X rfl q645 dX0_askedStands_35 ?_
  refine z_ldc (v := 1633837924) X rfl q645 dX0_askedStands_37 ?_
  refine z_ldc (v := 1633837924) X rfl q645 dX0_askedStands_39 ?_
  refine z_ldc (v := 1633837924) X rfl q645 dX0_askedStands_41 ?_
  refine z_cVi (ci := 0) (q0 := 0) (wr := [(bc, .inr (1, [])), (bd, .inr (2, [])), (bp, z_B G 16464 (fun _ => 0)), (bo, z_B G 16384 (fun _ => 0))]) X rfl z_E0ok trivial hS (m_put1 l G q_1 bc bd bt bp bo 0 (-1 : Int32) 0 (by omega) (fun _ => 0) 1633837924 1633837924 1633837924 1633837924 (by decide)) 4 q95 q96 q97 q3 q98 nm_m_put1 ⟨rfl, rfl⟩ ⟨Nat.le_of_ble_eq_true rfl, Nat.le_of_ble_eq_true rfl⟩ rfl rfl rfl [0, 3] [1, 2, 4, 5] ⟨rfl, rfl, rfl, rfl, by decide⟩ rfl hl.1 rfl (Nat.le_of_ble_eq_true rfl) ⟨Nat.le_of_ble_eq_true rfl, Nat.le_of_ble_eq_true rfl⟩ dX0_askedStands_43 (fun r_10 u_11 H locs hp hS => ?_)
  have hS : z_S G [(bc, .inr (1, [])), (bd, .inr (2, [])), (bp, z_B G 16464 (fun _ => 0)), (bo, z_B G 16384 (fun _ => 0)), (q_1, .inr (0, [.ref bc, .ref bd, .ref bt, .ref bp, .ref bo, .int (nI (0 + 16)), .int (-1 : Int32), .int (nI 0)])), (bt, z_B G 16384 (z_w16 (fun _ => 0) 0 1633837924 1633837924 1633837924 1633837924))] A s H locs := hS
  subst hp
  have hS := hS.sub (ws' := [(q_1, .inr (0, [.ref bc, .ref bd, .ref bt, .ref bp, .ref bo, .int (nI (0 + 16)), .int (-1 : Int32), .int (nI 0)])), (bc, .inr (1, [])), (bd, .inr (2, [])), (bt, z_B G 16384 (z_w16 (fun _ => 0) 0 1633837924 1633837924 1633837924 1633837924)), (bp, z_B G 16464 (fun _ => 0)), (bo, z_B G 16384 (fun _ => 0))]) [4, 0, 1, 5, 2, 3] rfl rfl
  have hS : z_S G [(q_1, .inr (0, [.ref bc, .ref bd, .ref bt, .ref bp, .ref bo, .int (nI 16), .int (-1 : Int32), .int (nI 0)])), (bc, .inr (1, [])), (bd, .inr (2, [])), (bt, z_B G 16384 (z_w16 (fun _ => 0) 0 1633837924 1633837924 1633837924 1633837924)), (bp, z_B G 16464 (fun _ => 0)), (bo, z_B G 16384 (fun _ => 0))] A s H locs := by have e : 0 + 16 = 16 := (rfl); rw [e] at hS; exact hS
  refine lv_pop X.x X.b dX0_askedStands_46 rfl ?_
  refine lv_aload_n X.x X.b dX0_askedStands_47 rfl (lv_at hl 0 rfl) ?_
  refine z_cVi (ci := 0) (q0 := 0) (wr := [(bc, .inr (1, [])), (bd, .inr (2, [])), (bt, z_B G 16384 (z_w16 (fun _ => 0) 0 1633837924 1633837924 1633837924 1633837924)), (bp, z_B G 16464 (fun _ => 0)), (bo, z_B G 16384 (fun _ => 0))]) X rfl z_E0ok trivial hS (m_open0 l G q_1 bc bd bt bp bo 16 0) 0 q351 q352 q353 q3 q354 nm_m_open0 ⟨rfl, rfl⟩ ⟨Nat.le_of_ble_eq_true rfl, Nat.le_of_ble_eq_true rfl⟩ rfl rfl rfl [0] [1, 2, 3, 4, 5] ⟨rfl, rfl, rfl, rfl, by decide⟩ rfl hl.1 rfl (Nat.le_of_ble_eq_true rfl) ⟨Nat.le_of_ble_eq_true rfl, Nat.le_of_ble_eq_true rfl⟩ dX0_askedStands_48 (fun r_12 u_13 H locs hp hS => ?_)
  have hS : z_S G [(bc, .inr (1, [])), (bd, .inr (2, [])), (bt, z_B G 16384 (z_w16 (fun _ => 0) 0 1633837924 1633837924 1633837924 1633837924)), (bp, z_B G 16464 (fun _ => 0)), (bo, z_B G 16384 (fun _ => 0)), (q_1, .inr (0, [.ref bc, .ref bd, .ref bt, .ref bp, .ref bo, .int (nI 16), .int (-1 : Int32), .int (nI 0)]))] A s H locs := hS
  subst hp
  have hS := hS.sub (ws' := [(q_1, .inr (0, [.ref bc, .ref bd, .ref bt, .ref bp, .ref bo, .int (nI 16), .int (-1 : Int32), .int (nI 0)])), (bc, .inr (1, [])), (bd, .inr (2, [])), (bt, z_B G 16384 (z_w16 (fun _ => 0) 0 1633837924 1633837924 1633837924 1633837924)), (bp, z_B G 16464 (fun _ => 0)), (bo, z_B G 16384 (fun _ => 0))]) [5, 0, 1, 2, 3, 4] rfl rfl
  refine lv_iconst (v := (-1 : Int32)) X.x X.b dX0_askedStands_51 (by decide) ?_
  refine lv_icmp_ne (tgt := 110) X.x X.b dX0_askedStands_52 (by decide) (fun c2 => absurd rfl c2) (fun _ => ?_)
  refine lv_aload_n X.x X.b dX0_askedStands_55 rfl (lv_at hl 0 rfl) ?_
  refine z_cVi (ci := 0) (q0 := 0) (wr := [(bd, .inr (2, [])), (bo, z_B G 16384 (fun _ => 0))]) X rfl z_E2ok hE hS (m_pack l G q_1 bc bd bt bp bo 16 (-1 : Int32) 0 (by omega) (z_w16 (fun _ => 0) 0 1633837924 1633837924 1633837924 1633837924) (fun _ => 0)) 0 q124 q125 q126 q3 q127 nm_m_pack ⟨rfl, rfl⟩ ⟨Nat.le_of_ble_eq_true rfl, Nat.le_of_ble_eq_true rfl⟩ rfl rfl rfl [0, 1, 3, 4] [2, 5] ⟨rfl, rfl, rfl, rfl, by decide⟩ rfl hl.1 rfl (Nat.le_of_ble_eq_true rfl) ⟨Nat.le_of_ble_eq_true rfl, Nat.le_of_ble_eq_true rfl⟩ dX0_askedStands_56 (fun r_14 u_15 H locs hp hS => ?_)
  have hS : z_S G [(bd, .inr (2, [])), (bo, z_B G 16384 (fun _ => 0)), (q_1, .inr (0, [.ref bc, .ref bd, .ref bt, .ref bp, .ref bo, .int (nI 16), .int (nI u_15.1), .int (nI 0)])), (bc, .inr (1, [])), (bt, z_B G 16384 (z_w16 (fun _ => 0) 0 1633837924 1633837924 1633837924 1633837924)), (bp, z_B G 16464 u_15.2)] A s H locs := hS
  obtain ⟨rfl, hL1, hok1⟩ := hp
  obtain ⟨L1, p1⟩ := u_15
  have hS : z_S G [(bd, .inr (2, [])), (bo, z_B G 16384 (fun _ => 0)), (q_1, .inr (0, [.ref bc, .ref bd, .ref bt, .ref bp, .ref bo, .int (nI 16), .int (nI L1), .int (nI 0)])), (bc, .inr (1, [])), (bt, z_B G 16384 (z_w16 (fun _ => 0) 0 1633837924 1633837924 1633837924 1633837924)), (bp, z_B G 16464 p1)] A s H locs := hS
  have hS := hS.sub (ws' := [(q_1, .inr (0, [.ref bc, .ref bd, .ref bt, .ref bp, .ref bo, .int (nI 16), .int (nI L1), .int (nI 0)])), (bc, .inr (1, [])), (bd, .inr (2, [])), (bt, z_B G 16384 (z_w16 (fun _ => 0) 0 1633837924 1633837924 1633837924 1633837924)), (bp, z_B G 16464 p1), (bo, z_B G 16384 (fun _ => 0))]) [2, 3, 0, 4, 5, 1] rfl rfl
  refine lv_if_eq (tgt := 110) X.x X.b dX0_askedStands_59 (by decide) (fun c1 => absurd c1 (by decide)) (fun _ => ?_)
  refine lv_aload_n X.x X.b dX0_askedStands_62 rfl (lv_at hl 0 rfl) ?_
  refine lv_iconst (v := (nI 0)) X.x X.b dX0_askedStands_63 (by decide) ?_
  refine z_cVi (ci := 0) (q0 := 0) (wr := [(bc, .inr (1, [])), (bd, .inr (2, [])), (bt, z_B G 16384 (z_w16 (fun _ => 0) 0 1633837924 1633837924 1633837924 1633837924)), (bp, z_B G 16464 p1), (bo, z_B G 16384 (fun _ => 0))]) X rfl z_E0ok trivial hS (m_opened0 l G q_1 bc bd bt bp bo 16 (nI L1) (nI 0)) 1 q628 q629 q630 q3 q631 nm_m_opened0 ⟨rfl, rfl⟩ ⟨Nat.le_of_ble_eq_true rfl, Nat.le_of_ble_eq_true rfl⟩ rfl rfl rfl [0] [1, 2, 3, 4, 5] ⟨rfl, rfl, rfl, rfl, by decide⟩ rfl hl.1 rfl (Nat.le_of_ble_eq_true rfl) ⟨Nat.le_of_ble_eq_true rfl, Nat.le_of_ble_eq_true rfl⟩ dX0_askedStands_64 (fun r_16 u_17 H locs hp hS => ?_)
  have hS : z_S G [(bc, .inr (1, [])), (bd, .inr (2, [])), (bt, z_B G 16384 (z_w16 (fun _ => 0) 0 1633837924 1633837924 1633837924 1633837924)), (bp, z_B G 16464 p1), (bo, z_B G 16384 (fun _ => 0)), (q_1, .inr (0, [.ref bc, .ref bd, .ref bt, .ref bp, .ref bo, .int (nI 16), .int (nI L1), .int (nI 0)]))] A s H locs := hS
  subst hp
  have hS := hS.sub (ws' := [(q_1, .inr (0, [.ref bc, .ref bd, .ref bt, .ref bp, .ref bo, .int (nI 16), .int (nI L1), .int (nI 0)])), (bc, .inr (1, [])), (bd, .inr (2, [])), (bt, z_B G 16384 (z_w16 (fun _ => 0) 0 1633837924 1633837924 1633837924 1633837924)), (bp, z_B G 16464 p1), (bo, z_B G 16384 (fun _ => 0))]) [5, 0, 1, 2, 3, 4] rfl rfl
  refine lv_iconst (v := (-1 : Int32)) X.x X.b dX0_askedStands_67 (by decide) ?_
  refine lv_icmp_ne (tgt := 110) X.x X.b dX0_askedStands_68 (by decide) (fun c2 => absurd rfl c2) (fun _ => ?_)
  refine lv_aload_n X.x X.b dX0_askedStands_71 rfl (lv_at hl 0 rfl) ?_
  refine z_cVi (ci := 0) (q0 := 0) (wr := [(bc, .inr (1, [])), (bt, z_B G 16384 (z_w16 (fun _ => 0) 0 1633837924 1633837924 1633837924 1633837924))]) X rfl z_E2ok hE hS (m_open l G q_1 bc bd bt bp bo 16 0 (by omega) p1 (z_w16 (fun _ => 0) 0 1633837924 1633837924 1633837924 1633837924) (fun _ => 0) L1 16 hok1 (by omega) hL1) 0 q351 q352 q353 q3 q354 nm_m_open ⟨rfl, rfl⟩ ⟨Nat.le_of_ble_eq_true rfl, Nat.le_of_ble_eq_true rfl⟩ rfl rfl rfl [0, 2, 4, 5] [1, 3] ⟨rfl, rfl, rfl, rfl, by decide⟩ rfl hl.1 rfl (Nat.le_of_ble_eq_true rfl) ⟨Nat.le_of_ble_eq_true rfl, Nat.le_of_ble_eq_true rfl⟩ dX0_askedStands_72 (fun r_18 o1 H locs hp hS => ?_)
  have hS : z_S G [(bc, .inr (1, [])), (bt, z_B G 16384 (z_w16 (fun _ => 0) 0 1633837924 1633837924 1633837924 1633837924)), (q_1, .inr (0, [.ref bc, .ref bd, .ref bt, .ref bp, .ref bo, .int (nI 16), .int (nI L1), .int (nI 16)])), (bd, .inr (2, [])), (bp, z_B G 16464 p1), (bo, z_B G 16384 o1)] A s H locs := hS
  obtain ⟨rfl, ho1⟩ := hp
  have hS := hS.sub (ws' := [(q_1, .inr (0, [.ref bc, .ref bd, .ref bt, .ref bp, .ref bo, .int (nI 16), .int (nI L1), .int (nI 16)])), (bc, .inr (1, [])), (bd, .inr (2, [])), (bt, z_B G 16384 (z_w16 (fun _ => 0) 0 1633837924 1633837924 1633837924 1633837924)), (bp, z_B G 16464 p1), (bo, z_B G 16384 o1)]) [2, 0, 3, 1, 4, 5] rfl rfl
  refine lv_bipush (v := (nI 16)) X.x X.b dX0_askedStands_75 (by decide) ?_
  refine z_icmp_ne (tgt := 110) X.x X.b dX0_askedStands_77 (by decide) (by omega) (by omega) (fun c_19 => by exfalso; omega) (fun c_19 => ?_)
  refine lv_aload_n X.x X.b dX0_askedStands_80 rfl (lv_at hl 0 rfl) ?_
  refine z_cVi (ci := 0) (q0 := 0) (wr := [(bc, .inr (1, [])), (bt, z_B G 16384 (z_w16 (fun _ => 0) 0 1633837924 1633837924 1633837924 1633837924))]) X rfl z_E2ok hE hS (m_open l G q_1 bc bd bt bp bo 16 16 (by omega) p1 (z_w16 (fun _ => 0) 0 1633837924 1633837924 1633837924 1633837924) o1 L1 16 hok1 (by omega) hL1) 0 q351 q352 q353 q3 q354 nm_m_open ⟨rfl, rfl⟩ ⟨Nat.le_of_ble_eq_true rfl, Nat.le_of_ble_eq_true rfl⟩ rfl rfl rfl [0, 2, 4, 5] [1, 3] ⟨rfl, rfl, rfl, rfl, by decide⟩ rfl hl.1 rfl (Nat.le_of_ble_eq_true rfl) ⟨Nat.le_of_ble_eq_true rfl, Nat.le_of_ble_eq_true rfl⟩ dX0_askedStands_81 (fun r_20 o2 H locs hp hS => ?_)
  have hS : z_S G [(bc, .inr (1, [])), (bt, z_B G 16384 (z_w16 (fun _ => 0) 0 1633837924 1633837924 1633837924 1633837924)), (q_1, .inr (0, [.ref bc, .ref bd, .ref bt, .ref bp, .ref bo, .int (nI 16), .int (nI L1), .int (nI 16)])), (bd, .inr (2, [])), (bp, z_B G 16464 p1), (bo, z_B G 16384 o2)] A s H locs := hS
  obtain ⟨rfl, ho2⟩ := hp
  have hS := hS.sub (ws' := [(q_1, .inr (0, [.ref bc, .ref bd, .ref bt, .ref bp, .ref bo, .int (nI 16), .int (nI L1), .int (nI 16)])), (bc, .inr (1, [])), (bd, .inr (2, [])), (bt, z_B G 16384 (z_w16 (fun _ => 0) 0 1633837924 1633837924 1633837924 1633837924)), (bp, z_B G 16464 p1), (bo, z_B G 16384 o2)]) [2, 0, 3, 1, 4, 5] rfl rfl
  refine lv_bipush (v := (nI 16)) X.x X.b dX0_askedStands_84 (by decide) ?_
  refine z_icmp_ne (tgt := 110) X.x X.b dX0_askedStands_86 (by decide) (by omega) (by omega) (fun c_21 => by exfalso; omega) (fun c_21 => ?_)
  refine lv_aload_n X.x X.b dX0_askedStands_89 rfl (lv_at hl 0 rfl) ?_
  refine lv_bipush (v := (nI 17)) X.x X.b dX0_askedStands_90 (by decide) ?_
  refine z_cVi (ci := 0) (q0 := 0) (wr := [(bc, .inr (1, [])), (bd, .inr (2, [])), (bt, z_B G 16384 (z_w16 (fun _ => 0) 0 1633837924 1633837924 1633837924 1633837924)), (bp, z_B G 16464 p1)]) X rfl z_E0ok trivial hS (m_opened l G q_1 bc bd bt bp bo 16 (nI L1) 16 (by omega) (by omega) (by omega) o2 (nI 17)) 1 q628 q629 q630 q3 q631 nm_m_opened ⟨rfl, rfl⟩ ⟨Nat.le_of_ble_eq_true rfl, Nat.le_of_ble_eq_true rfl⟩ rfl rfl rfl [0, 5] [1, 2, 3, 4] ⟨rfl, rfl, rfl, rfl, by decide⟩ rfl hl.1 rfl (Nat.le_of_ble_eq_true rfl) ⟨Nat.le_of_ble_eq_true rfl, Nat.le_of_ble_eq_true rfl⟩ dX0_askedStands_92 (fun r_22 u_23 H locs hp hS => ?_)
  have hS : z_S G [(bc, .inr (1, [])), (bd, .inr (2, [])), (bt, z_B G 16384 (z_w16 (fun _ => 0) 0 1633837924 1633837924 1633837924 1633837924)), (bp, z_B G 16464 p1), (q_1, .inr (0, [.ref bc, .ref bd, .ref bt, .ref bp, .ref bo, .int (nI 16), .int (nI L1), .int (nI 16)])), (bo, z_B G 16384 o2)] A s H locs := hS
  subst hp
  have hS := hS.sub (ws' := [(q_1, .inr (0, [.ref bc, .ref bd, .ref bt, .ref bp, .ref bo, .int (nI 16), .int (nI L1), .int (nI 16)])), (bc, .inr (1, [])), (bd, .inr (2, [])), (bt, z_B G 16384 (z_w16 (fun _ => 0) 0 1633837924 1633837924 1633837924 1633837924)), (bp, z_B G 16464 p1), (bo, z_B G 16384 o2)]) [4, 0, 1, 2, 3, 5] rfl rfl
  refine z_top (y := (nI 98)) (congrArg nI (by rw [show z_ab (nI 17) % 16 = 1 by decide, ho2 1 (by decide)]; decide)) ?_
  refine lv_bipush (v := (nI 98)) X.x X.b dX0_askedStands_95 (by decide) ?_
  refine z_icmp_ne (tgt := 110) X.x X.b dX0_askedStands_97 (by decide) (by omega) (by omega) (fun c_24 => by exfalso; omega) (fun c_24 => ?_)
  refine lv_aload_n X.x X.b dX0_askedStands_100 rfl (lv_at hl 0 rfl) ?_
  refine lv_iconst (v := (-1 : Int32)) X.x X.b dX0_askedStands_101 (by decide) ?_
  refine z_cVi (ci := 0) (q0 := 0) (wr := [(bc, .inr (1, [])), (bd, .inr (2, [])), (bt, z_B G 16384 (z_w16 (fun _ => 0) 0 1633837924 1633837924 1633837924 1633837924)), (bp, z_B G 16464 p1)]) X rfl z_E0ok trivial hS (m_opened l G q_1 bc bd bt bp bo 16 (nI L1) 16 (by omega) (by omega) (by omega) o2 (-1 : Int32)) 1 q628 q629 q630 q3 q631 nm_m_opened ⟨rfl, rfl⟩ ⟨Nat.le_of_ble_eq_true rfl, Nat.le_of_ble_eq_true rfl⟩ rfl rfl rfl [0, 5] [1, 2, 3, 4] ⟨rfl, rfl, rfl, rfl, by decide⟩ rfl hl.1 rfl (Nat.le_of_ble_eq_true rfl) ⟨Nat.le_of_ble_eq_true rfl, Nat.le_of_ble_eq_true rfl⟩ dX0_askedStands_102 (fun r_25 u_26 H locs hp hS => ?_)
  have hS : z_S G [(bc, .inr (1, [])), (bd, .inr (2, [])), (bt, z_B G 16384 (z_w16 (fun _ => 0) 0 1633837924 1633837924 1633837924 1633837924)), (bp, z_B G 16464 p1), (q_1, .inr (0, [.ref bc, .ref bd, .ref bt, .ref bp, .ref bo, .int (nI 16), .int (nI L1), .int (nI 16)])), (bo, z_B G 16384 o2)] A s H locs := hS
  subst hp
  have hS := hS.sub (ws' := [(q_1, .inr (0, [.ref bc, .ref bd, .ref bt, .ref bp, .ref bo, .int (nI 16), .int (nI L1), .int (nI 16)])), (bc, .inr (1, [])), (bd, .inr (2, [])), (bt, z_B G 16384 (z_w16 (fun _ => 0) 0 1633837924 1633837924 1633837924 1633837924)), (bp, z_B G 16464 p1), (bo, z_B G 16384 o2)]) [4, 0, 1, 2, 3, 5] rfl rfl
  refine z_top (y := (nI 100)) (congrArg nI (by rw [show z_ab (-1 : Int32) % 16 = 15 by decide, ho2 15 (by decide)]; decide)) ?_
  refine lv_bipush (v := (nI 100)) X.x X.b dX0_askedStands_105 (by decide) ?_
  refine z_icmp_eq (tgt := 112) X.x X.b dX0_askedStands_107 (by decide) (by omega) (by omega) (fun c_27 => ?_) (fun c_27 => by exfalso; omega)
  refine lv_aload_n X.x X.b dX0_askedStands_112 rfl (lv_at hl 0 rfl) ?_
  refine lv_iconst (v := (nI 0)) X.x X.b dX0_askedStands_113 (by decide) ?_
  refine z_cVv (ci := 0) (q0 := 0) (wr := [(bc, .inr (1, [])), (bd, .inr (2, [])), (bt, z_B G 16384 (z_w16 (fun _ => 0) 0 1633837924 1633837924 1633837924 1633837924)), (bp, z_B G 16464 p1), (bo, z_B G 16384 o2)]) X rfl z_E0ok trivial hS (m_trim l G q_1 bc bd bt bp bo 16 (nI L1) 16 (by omega) (nI 0)) 1 q116 q117 q118 q3 q119 nm_m_trim ⟨rfl, rfl⟩ ⟨Nat.le_of_ble_eq_true rfl, Nat.le_of_ble_eq_true rfl⟩ rfl rfl rfl [0] [1, 2, 3, 4, 5] ⟨rfl, rfl, rfl, rfl, by decide⟩ rfl hl.1 rfl (Nat.le_of_ble_eq_true rfl) ⟨Nat.le_of_ble_eq_true rfl, Nat.le_of_ble_eq_true rfl⟩ dX0_askedStands_114 (fun u_29 H locs hp hS => ?_)
  have hS : z_S G [(bc, .inr (1, [])), (bd, .inr (2, [])), (bt, z_B G 16384 (z_w16 (fun _ => 0) 0 1633837924 1633837924 1633837924 1633837924)), (bp, z_B G 16464 p1), (bo, z_B G 16384 o2), (q_1, .inr (0, [.ref bc, .ref bd, .ref bt, .ref bp, .ref bo, .int (nI (z_ab (nI 0) % (16 + 1))), .int (nI L1), .int (nI 16)]))] A s H locs := hS
  have hS := hS.sub (ws' := [(q_1, .inr (0, [.ref bc, .ref bd, .ref bt, .ref bp, .ref bo, .int (nI (z_ab (nI 0) % (16 + 1))), .int (nI L1), .int (nI 16)])), (bc, .inr (1, [])), (bd, .inr (2, [])), (bt, z_B G 16384 (z_w16 (fun _ => 0) 0 1633837924 1633837924 1633837924 1633837924)), (bp, z_B G 16464 p1), (bo, z_B G 16384 o2)]) [5, 0, 1, 2, 3, 4] rfl rfl
  have hS : z_S G [(q_1, .inr (0, [.ref bc, .ref bd, .ref bt, .ref bp, .ref bo, .int (nI 0), .int (nI L1), .int (nI 16)])), (bc, .inr (1, [])), (bd, .inr (2, [])), (bt, z_B G 16384 (z_w16 (fun _ => 0) 0 1633837924 1633837924 1633837924 1633837924)), (bp, z_B G 16464 p1), (bo, z_B G 16384 o2)] A s H locs := by have e : z_ab (nI 0) % (16 + 1) = 0 := (by rw [z_abN (by decide)]); rw [e] at hS; exact hS
  refine lv_aload_n X.x X.b dX0_askedStands_117 rfl (lv_at hl 0 rfl) ?_
  refine z_cVi (ci := 0) (q0 := 0) (wr := [(bd, .inr (2, [])), (bo, z_B G 16384 o2)]) X rfl z_E2ok hE hS (m_pack l G q_1 bc bd bt bp bo 0 (nI L1) 16 (by omega) (z_w16 (fun _ => 0) 0 1633837924 1633837924 1633837924 1633837924) p1) 0 q124 q125 q126 q3 q127 nm_m_pack ⟨rfl, rfl⟩ ⟨Nat.le_of_ble_eq_true rfl, Nat.le_of_ble_eq_true rfl⟩ rfl rfl rfl [0, 1, 3, 4] [2, 5] ⟨rfl, rfl, rfl, rfl, by decide⟩ rfl hl.1 rfl (Nat.le_of_ble_eq_true rfl) ⟨Nat.le_of_ble_eq_true rfl, Nat.le_of_ble_eq_true rfl⟩ dX0_askedStands_118 (fun r_30 u_31 H locs hp hS => ?_)
  have hS : z_S G [(bd, .inr (2, [])), (bo, z_B G 16384 o2), (q_1, .inr (0, [.ref bc, .ref bd, .ref bt, .ref bp, .ref bo, .int (nI 0), .int (nI u_31.1), .int (nI 16)])), (bc, .inr (1, [])), (bt, z_B G 16384 (z_w16 (fun _ => 0) 0 1633837924 1633837924 1633837924 1633837924)), (bp, z_B G 16464 u_31.2)] A s H locs := hS
  obtain ⟨rfl, hL2, hok2⟩ := hp
  obtain ⟨L2, p2⟩ := u_31
  have hS : z_S G [(bd, .inr (2, [])), (bo, z_B G 16384 o2), (q_1, .inr (0, [.ref bc, .ref bd, .ref bt, .ref bp, .ref bo, .int (nI 0), .int (nI L2), .int (nI 16)])), (bc, .inr (1, [])), (bt, z_B G 16384 (z_w16 (fun _ => 0) 0 1633837924 1633837924 1633837924 1633837924)), (bp, z_B G 16464 p2)] A s H locs := hS
  have hS := hS.sub (ws' := [(q_1, .inr (0, [.ref bc, .ref bd, .ref bt, .ref bp, .ref bo, .int (nI 0), .int (nI L2), .int (nI 16)])), (bc, .inr (1, [])), (bd, .inr (2, [])), (bt, z_B G 16384 (z_w16 (fun _ => 0) 0 1633837924 1633837924 1633837924 1633837924)), (bp, z_B G 16464 p2), (bo, z_B G 16384 o2)]) [2, 3, 0, 4, 5, 1] rfl rfl
  refine lv_if_eq (tgt := 140) X.x X.b dX0_askedStands_121 (by decide) (fun c1 => absurd c1 (by decide)) (fun _ => ?_)
  refine lv_aload_n X.x X.b dX0_askedStands_124 rfl (lv_at hl 0 rfl) ?_
  refine z_cVi (ci := 0) (q0 := 0) (wr := [(bc, .inr (1, [])), (bt, z_B G 16384 (z_w16 (fun _ => 0) 0 1633837924 1633837924 1633837924 1633837924))]) X rfl z_E2ok hE hS (m_open l G q_1 bc bd bt bp bo 0 16 (by omega) p2 (z_w16 (fun _ => 0) 0 1633837924 1633837924 1633837924 1633837924) o2 L2 0 hok2 (by omega) hL2) 0 q351 q352 q353 q3 q354 nm_m_open ⟨rfl, rfl⟩ ⟨Nat.le_of_ble_eq_true rfl, Nat.le_of_ble_eq_true rfl⟩ rfl rfl rfl [0, 2, 4, 5] [1, 3] ⟨rfl, rfl, rfl, rfl, by decide⟩ rfl hl.1 rfl (Nat.le_of_ble_eq_true rfl) ⟨Nat.le_of_ble_eq_true rfl, Nat.le_of_ble_eq_true rfl⟩ dX0_askedStands_125 (fun r_32 o3 H locs hp hS => ?_)
  have hS : z_S G [(bc, .inr (1, [])), (bt, z_B G 16384 (z_w16 (fun _ => 0) 0 1633837924 1633837924 1633837924 1633837924)), (q_1, .inr (0, [.ref bc, .ref bd, .ref bt, .ref bp, .ref bo, .int (nI 0), .int (nI L2), .int (nI 0)])), (bd, .inr (2, [])), (bp, z_B G 16464 p2), (bo, z_B G 16384 o3)] A s H locs := hS
  obtain ⟨rfl, ho3⟩ := hp
  have hS := hS.sub (ws' := [(q_1, .inr (0, [.ref bc, .ref bd, .ref bt, .ref bp, .ref bo, .int (nI 0), .int (nI L2), .int (nI 0)])), (bc, .inr (1, [])), (bd, .inr (2, [])), (bt, z_B G 16384 (z_w16 (fun _ => 0) 0 1633837924 1633837924 1633837924 1633837924)), (bp, z_B G 16464 p2), (bo, z_B G 16384 o3)]) [2, 0, 3, 1, 4, 5] rfl rfl
  refine z_if_ne (tgt := 140) X.x X.b dX0_askedStands_128 (by decide) (by omega) (fun c_33 => by exfalso; omega) (fun c_33 => ?_)
  refine lv_aload_n X.x X.b dX0_askedStands_131 rfl (lv_at hl 0 rfl) ?_
  refine lv_iconst (v := (nI 0)) X.x X.b dX0_askedStands_132 (by decide) ?_
  refine z_cVi (ci := 0) (q0 := 0) (wr := [(bc, .inr (1, [])), (bd, .inr (2, [])), (bt, z_B G 16384 (z_w16 (fun _ => 0) 0 1633837924 1633837924 1633837924 1633837924)), (bp, z_B G 16464 p2), (bo, z_B G 16384 o3)]) X rfl z_E0ok trivial hS (m_opened0 l G q_1 bc bd bt bp bo 0 (nI L2) (nI 0)) 1 q628 q629 q630 q3 q631 nm_m_opened0 ⟨rfl, rfl⟩ ⟨Nat.le_of_ble_eq_true rfl, Nat.le_of_ble_eq_true rfl⟩ rfl rfl rfl [0] [1, 2, 3, 4, 5] ⟨rfl, rfl, rfl, rfl, by decide⟩ rfl hl.1 rfl (Nat.le_of_ble_eq_true rfl) ⟨Nat.le_of_ble_eq_true rfl, Nat.le_of_ble_eq_true rfl⟩ dX0_askedStands_133 (fun r_34 u_35 H locs hp hS => ?_)
  have hS : z_S G [(bc, .inr (1, [])), (bd, .inr (2, [])), (bt, z_B G 16384 (z_w16 (fun _ => 0) 0 1633837924 1633837924 1633837924 1633837924)), (bp, z_B G 16464 p2), (bo, z_B G 16384 o3), (q_1, .inr (0, [.ref bc, .ref bd, .ref bt, .ref bp, .ref bo, .int (nI 0), .int (nI L2), .int (nI 0)]))] A s H locs := hS
  subst hp
  have hS := hS.sub (ws' := [(q_1, .inr (0, [.ref bc, .ref bd, .ref bt, .ref bp, .ref bo, .int (nI 0), .int (nI L2), .int (nI 0)])), (bc, .inr (1, [])), (bd, .inr (2, [])), (bt, z_B G 16384 (z_w16 (fun _ => 0) 0 1633837924 1633837924 1633837924 1633837924)), (bp, z_B G 16464 p2), (bo, z_B G 16384 o3)]) [5, 0, 1, 2, 3, 4] rfl rfl
  refine lv_iconst (v := (-1 : Int32)) X.x X.b dX0_askedStands_136 (by decide) ?_
  refine lv_icmp_eq (tgt := 142) X.x X.b dX0_askedStands_137 (by decide) (fun _ => ?_) (fun c2 => absurd rfl c2)
  refine lv_aload_n X.x X.b dX0_askedStands_142 rfl (lv_at hl 0 rfl) ?_
  refine lv_iconst (v := (nI 1)) X.x X.b dX0_askedStands_143 (by decide) ?_
  refine lv_iconst (v := (nI 2)) X.x X.b dX0_askedStands_144 (by decide) ?_
  refine lv_iconst (v := (nI 3)) X.x X.b dX0_askedStands_145 (by decide) ?_
  refine lv_iconst (v := (nI 4)) X.x X.b dX0_askedStands_146 (by decide) ?_
  refine z_cVi (ci := 0) (q0 := 0) (wr := [(bc, .inr (1, [])), (bd, .inr (2, [])), (bp, z_B G 16464 p2), (bo, z_B G 16384 o3)]) X rfl z_E0ok trivial hS (m_put1 l G q_1 bc bd bt bp bo 0 (nI L2) 0 (by omega) (z_w16 (fun _ => 0) 0 1633837924 1633837924 1633837924 1633837924) (nI 1) (nI 2) (nI 3) (nI 4) (by decide)) 4 q95 q96 q97 q3 q98 nm_m_put1 ⟨rfl, rfl⟩ ⟨Nat.le_of_ble_eq_true rfl, Nat.le_of_ble_eq_true rfl⟩ rfl rfl rfl [0, 3] [1, 2, 4, 5] ⟨rfl, rfl, rfl, rfl, by decide⟩ rfl hl.1 rfl (Nat.le_of_ble_eq_true rfl) ⟨Nat.le_of_ble_eq_true rfl, Nat.le_of_ble_eq_true rfl⟩ dX0_askedStands_147 (fun r_36 u_37 H locs hp hS => ?_)
  have hS : z_S G [(bc, .inr (1, [])), (bd, .inr (2, [])), (bp, z_B G 16464 p2), (bo, z_B G 16384 o3), (q_1, .inr (0, [.ref bc, .ref bd, .ref bt, .ref bp, .ref bo, .int (nI (0 + 16)), .int (nI L2), .int (nI 0)])), (bt, z_B G 16384 (z_w16 (z_w16 (fun _ => 0) 0 1633837924 1633837924 1633837924 1633837924) 0 (nI 1) (nI 2) (nI 3) (nI 4)))] A s H locs := hS
  subst hp
  have hS := hS.sub (ws' := [(q_1, .inr (0, [.ref bc, .ref bd, .ref bt, .ref bp, .ref bo, .int (nI (0 + 16)), .int (nI L2), .int (nI 0)])), (bc, .inr (1, [])), (bd, .inr (2, [])), (bt, z_B G 16384 (z_w16 (z_w16 (fun _ => 0) 0 1633837924 1633837924 1633837924 1633837924) 0 (nI 1) (nI 2) (nI 3) (nI 4))), (bp, z_B G 16464 p2), (bo, z_B G 16384 o3)]) [4, 0, 1, 5, 2, 3] rfl rfl
  have hS : z_S G [(q_1, .inr (0, [.ref bc, .ref bd, .ref bt, .ref bp, .ref bo, .int (nI 16), .int (nI L2), .int (nI 0)])), (bc, .inr (1, [])), (bd, .inr (2, [])), (bt, z_B G 16384 (z_w16 (z_w16 (fun _ => 0) 0 1633837924 1633837924 1633837924 1633837924) 0 (nI 1) (nI 2) (nI 3) (nI 4))), (bp, z_B G 16464 p2), (bo, z_B G 16384 o3)] A s H locs := by have e : 0 + 16 = 16 := (rfl); rw [e] at hS; exact hS
  refine lv_pop X.x X.b dX0_askedStands_150 rfl ?_
  refine lv_aload_n X.x X.b dX0_askedStands_151 rfl (lv_at hl 0 rfl) ?_
  refine z_cVi (ci := 0) (q0 := 0) (wr := [(bc, .inr (1, [])), (bt, z_B G 16384 (z_w16 (z_w16 (fun _ => 0) 0 1633837924 1633837924 1633837924 1633837924) 0 (nI 1) (nI 2) (nI 3) (nI 4)))]) X rfl z_E2ok hE hS (m_open l G q_1 bc bd bt bp bo 16 0 (by omega) p2 (z_w16 (fun _ => 0) 0 1633837924 1633837924 1633837924 1633837924) o3 L2 0 hok2 (by omega) hL2) 0 q351 q352 q353 q3 q354 nm_m_open ⟨rfl, rfl⟩ ⟨Nat.le_of_ble_eq_true rfl, Nat.le_of_ble_eq_true rfl⟩ rfl rfl rfl [0, 2, 4, 5] [1, 3] ⟨rfl, rfl, rfl, rfl, by decide⟩ rfl hl.1 rfl (Nat.le_of_ble_eq_true rfl) ⟨Nat.le_of_ble_eq_true rfl, Nat.le_of_ble_eq_true rfl⟩ dX0_askedStands_152 (fun r_38 o4 H locs hp hS => ?_)
  have hS : z_S G [(bc, .inr (1, [])), (bt, z_B G 16384 (z_w16 (z_w16 (fun _ => 0) 0 1633837924 1633837924 1633837924 1633837924) 0 (nI 1) (nI 2) (nI 3) (nI 4))), (q_1, .inr (0, [.ref bc, .ref bd, .ref bt, .ref bp, .ref bo, .int (nI 16), .int (nI L2), .int (nI 0)])), (bd, .inr (2, [])), (bp, z_B G 16464 p2), (bo, z_B G 16384 o4)] A s H locs := hS
  obtain ⟨rfl, ho4⟩ := hp
  have hS := hS.sub (ws' := [(q_1, .inr (0, [.ref bc, .ref bd, .ref bt, .ref bp, .ref bo, .int (nI 16), .int (nI L2), .int (nI 0)])), (bc, .inr (1, [])), (bd, .inr (2, [])), (bt, z_B G 16384 (z_w16 (z_w16 (fun _ => 0) 0 1633837924 1633837924 1633837924 1633837924) 0 (nI 1) (nI 2) (nI 3) (nI 4))), (bp, z_B G 16464 p2), (bo, z_B G 16384 o4)]) [2, 0, 3, 1, 4, 5] rfl rfl
  refine z_if_ne (tgt := 197) X.x X.b dX0_askedStands_155 (by decide) (by omega) (fun c_39 => by exfalso; omega) (fun c_39 => ?_)
  refine lv_aload_n X.x X.b dX0_askedStands_158 rfl (lv_at hl 0 rfl) ?_
  refine z_cVi (ci := 0) (q0 := 0) (wr := [(bd, .inr (2, [])), (bo, z_B G 16384 o4)]) X rfl z_E2ok hE hS (m_pack l G q_1 bc bd bt bp bo 16 (nI L2) 0 (by omega) (z_w16 (z_w16 (fun _ => 0) 0 1633837924 1633837924 1633837924 1633837924) 0 (nI 1) (nI 2) (nI 3) (nI 4)) p2) 0 q124 q125 q126 q3 q127 nm_m_pack ⟨rfl, rfl⟩ ⟨Nat.le_of_ble_eq_true rfl, Nat.le_of_ble_eq_true rfl⟩ rfl rfl rfl [0, 1, 3, 4] [2, 5] ⟨rfl, rfl, rfl, rfl, by decide⟩ rfl hl.1 rfl (Nat.le_of_ble_eq_true rfl) ⟨Nat.le_of_ble_eq_true rfl, Nat.le_of_ble_eq_true rfl⟩ dX0_askedStands_159 (fun r_40 u_41 H locs hp hS => ?_)
  have hS : z_S G [(bd, .inr (2, [])), (bo, z_B G 16384 o4), (q_1, .inr (0, [.ref bc, .ref bd, .ref bt, .ref bp, .ref bo, .int (nI 16), .int (nI u_41.1), .int (nI 0)])), (bc, .inr (1, [])), (bt, z_B G 16384 (z_w16 (z_w16 (fun _ => 0) 0 1633837924 1633837924 1633837924 1633837924) 0 (nI 1) (nI 2) (nI 3) (nI 4))), (bp, z_B G 16464 u_41.2)] A s H locs := hS
  obtain ⟨rfl, hL3, hok3⟩ := hp
  obtain ⟨L3, p3⟩ := u_41
  have hS : z_S G [(bd, .inr (2, [])), (bo, z_B G 16384 o4), (q_1, .inr (0, [.ref bc, .ref bd, .ref bt, .ref bp, .ref bo, .int (nI 16), .int (nI L3), .int (nI 0)])), (bc, .inr (1, [])), (bt, z_B G 16384 (z_w16 (z_w16 (fun _ => 0) 0 1633837924 1633837924 1633837924 1633837924) 0 (nI 1) (nI 2) (nI 3) (nI 4))), (bp, z_B G 16464 p3)] A s H locs := hS
  have hS := hS.sub (ws' := [(q_1, .inr (0, [.ref bc, .ref bd, .ref bt, .ref bp, .ref bo, .int (nI 16), .int (nI L3), .int (nI 0)])), (bc, .inr (1, [])), (bd, .inr (2, [])), (bt, z_B G 16384 (z_w16 (z_w16 (fun _ => 0) 0 1633837924 1633837924 1633837924 1633837924) 0 (nI 1) (nI 2) (nI 3) (nI 4))), (bp, z_B G 16464 p3), (bo, z_B G 16384 o4)]) [2, 3, 0, 4, 5, 1] rfl rfl
  refine lv_if_eq (tgt := 197) X.x X.b dX0_askedStands_162 (by decide) (fun c1 => absurd c1 (by decide)) (fun _ => ?_)
  refine lv_aload_n X.x X.b dX0_askedStands_165 rfl (lv_at hl 0 rfl) ?_
  refine z_cVi (ci := 0) (q0 := 0) (wr := [(bc, .inr (1, [])), (bt, z_B G 16384 (z_w16 (z_w16 (fun _ => 0) 0 1633837924 1633837924 1633837924 1633837924) 0 (nI 1) (nI 2) (nI 3) (nI 4)))]) X rfl z_E2ok hE hS (m_open l G q_1 bc bd bt bp bo 16 0 (by omega) p3 (z_w16 (z_w16 (fun _ => 0) 0 1633837924 1633837924 1633837924 1633837924) 0 (nI 1) (nI 2) (nI 3) (nI 4)) o4 L3 16 hok3 (by omega) hL3) 0 q351 q352 q353 q3 q354 nm_m_open ⟨rfl, rfl⟩ ⟨Nat.le_of_ble_eq_true rfl, Nat.le_of_ble_eq_true rfl⟩ rfl rfl rfl [0, 2, 4, 5] [1, 3] ⟨rfl, rfl, rfl, rfl, by decide⟩ rfl hl.1 rfl (Nat.le_of_ble_eq_true rfl) ⟨Nat.le_of_ble_eq_true rfl, Nat.le_of_ble_eq_true rfl⟩ dX0_askedStands_166 (fun r_42 o5 H locs hp hS => ?_)
  have hS : z_S G [(bc, .inr (1, [])), (bt, z_B G 16384 (z_w16 (z_w16 (fun _ => 0) 0 1633837924 1633837924 1633837924 1633837924) 0 (nI 1) (nI 2) (nI 3) (nI 4))), (q_1, .inr (0, [.ref bc, .ref bd, .ref bt, .ref bp, .ref bo, .int (nI 16), .int (nI L3), .int (nI 16)])), (bd, .inr (2, [])), (bp, z_B G 16464 p3), (bo, z_B G 16384 o5)] A s H locs := hS
  obtain ⟨rfl, ho5⟩ := hp
  have hS := hS.sub (ws' := [(q_1, .inr (0, [.ref bc, .ref bd, .ref bt, .ref bp, .ref bo, .int (nI 16), .int (nI L3), .int (nI 16)])), (bc, .inr (1, [])), (bd, .inr (2, [])), (bt, z_B G 16384 (z_w16 (z_w16 (fun _ => 0) 0 1633837924 1633837924 1633837924 1633837924) 0 (nI 1) (nI 2) (nI 3) (nI 4))), (bp, z_B G 16464 p3), (bo, z_B G 16384 o5)]) [2, 0, 3, 1, 4, 5] rfl rfl
  refine lv_bipush (v := (nI 16)) X.x X.b dX0_askedStands_169 (by decide) ?_
  refine z_icmp_ne (tgt := 197) X.x X.b dX0_askedStands_171 (by decide) (by omega) (by omega) (fun c_43 => by exfalso; omega) (fun c_43 => ?_)
  refine lv_aload_n X.x X.b dX0_askedStands_174 rfl (lv_at hl 0 rfl) ?_
  refine lv_iconst (v := (nI 3)) X.x X.b dX0_askedStands_175 (by decide) ?_
  refine z_cVi (ci := 0) (q0 := 0) (wr := [(bc, .inr (1, [])), (bd, .inr (2, [])), (bt, z_B G 16384 (z_w16 (z_w16 (fun _ => 0) 0 1633837924 1633837924 1633837924 1633837924) 0 (nI 1) (nI 2) (nI 3) (nI 4))), (bp, z_B G 16464 p3)]) X rfl z_E0ok trivial hS (m_opened l G q_1 bc bd bt bp bo 16 (nI L3) 16 (by omega) (by omega) (by omega) o5 (nI 3)) 1 q628 q629 q630 q3 q631 nm_m_opened ⟨rfl, rfl⟩ ⟨Nat.le_of_ble_eq_true rfl, Nat.le_of_ble_eq_true rfl⟩ rfl rfl rfl [0, 5] [1, 2, 3, 4] ⟨rfl, rfl, rfl, rfl, by decide⟩ rfl hl.1 rfl (Nat.le_of_ble_eq_true rfl) ⟨Nat.le_of_ble_eq_true rfl, Nat.le_of_ble_eq_true rfl⟩ dX0_askedStands_176 (fun r_44 u_45 H locs hp hS => ?_)
  have hS : z_S G [(bc, .inr (1, [])), (bd, .inr (2, [])), (bt, z_B G 16384 (z_w16 (z_w16 (fun _ => 0) 0 1633837924 1633837924 1633837924 1633837924) 0 (nI 1) (nI 2) (nI 3) (nI 4))), (bp, z_B G 16464 p3), (q_1, .inr (0, [.ref bc, .ref bd, .ref bt, .ref bp, .ref bo, .int (nI 16), .int (nI L3), .int (nI 16)])), (bo, z_B G 16384 o5)] A s H locs := hS
  subst hp
  have hS := hS.sub (ws' := [(q_1, .inr (0, [.ref bc, .ref bd, .ref bt, .ref bp, .ref bo, .int (nI 16), .int (nI L3), .int (nI 16)])), (bc, .inr (1, [])), (bd, .inr (2, [])), (bt, z_B G 16384 (z_w16 (z_w16 (fun _ => 0) 0 1633837924 1633837924 1633837924 1633837924) 0 (nI 1) (nI 2) (nI 3) (nI 4))), (bp, z_B G 16464 p3), (bo, z_B G 16384 o5)]) [4, 0, 1, 2, 3, 5] rfl rfl
  refine z_top (y := (nI 1)) (congrArg nI (by rw [show z_ab (nI 3) % 16 = 3 by decide, ho5 3 (by decide)]; decide)) ?_
  refine lv_iconst (v := (nI 1)) X.x X.b dX0_askedStands_179 (by decide) ?_
  refine z_icmp_ne (tgt := 197) X.x X.b dX0_askedStands_180 (by decide) (by omega) (by omega) (fun c_46 => by exfalso; omega) (fun c_46 => ?_)
  refine lv_aload_n X.x X.b dX0_askedStands_183 rfl (lv_at hl 0 rfl) ?_
  refine lv_bipush (v := (nI 15)) X.x X.b dX0_askedStands_184 (by decide) ?_
  refine z_cVi (ci := 0) (q0 := 0) (wr := [(bc, .inr (1, [])), (bd, .inr (2, [])), (bt, z_B G 16384 (z_w16 (z_w16 (fun _ => 0) 0 1633837924 1633837924 1633837924 1633837924) 0 (nI 1) (nI 2) (nI 3) (nI 4))), (bp, z_B G 16464 p3)]) X rfl z_E0ok trivial hS (m_opened l G q_1 bc bd bt bp bo 16 (nI L3) 16 (by omega) (by omega) (by omega) o5 (nI 15)) 1 q628 q629 q630 q3 q631 nm_m_opened ⟨rfl, rfl⟩ ⟨Nat.le_of_ble_eq_true rfl, Nat.le_of_ble_eq_true rfl⟩ rfl rfl rfl [0, 5] [1, 2, 3, 4] ⟨rfl, rfl, rfl, rfl, by decide⟩ rfl hl.1 rfl (Nat.le_of_ble_eq_true rfl) ⟨Nat.le_of_ble_eq_true rfl, Nat.le_of_ble_eq_true rfl⟩ dX0_askedStands_186 (fun r_47 u_48 H locs hp hS => ?_)
  have hS : z_S G [(bc, .inr (1, [])), (bd, .inr (2, [])), (bt, z_B G 16384 (z_w16 (z_w16 (fun _ => 0) 0 1633837924 1633837924 1633837924 1633837924) 0 (nI 1) (nI 2) (nI 3) (nI 4))), (bp, z_B G 16464 p3), (q_1, .inr (0, [.ref bc, .ref bd, .ref bt, .ref bp, .ref bo, .int (nI 16), .int (nI L3), .int (nI 16)])), (bo, z_B G 16384 o5)] A s H locs := hS
  subst hp
  have hS := hS.sub (ws' := [(q_1, .inr (0, [.ref bc, .ref bd, .ref bt, .ref bp, .ref bo, .int (nI 16), .int (nI L3), .int (nI 16)])), (bc, .inr (1, [])), (bd, .inr (2, [])), (bt, z_B G 16384 (z_w16 (z_w16 (fun _ => 0) 0 1633837924 1633837924 1633837924 1633837924) 0 (nI 1) (nI 2) (nI 3) (nI 4))), (bp, z_B G 16464 p3), (bo, z_B G 16384 o5)]) [4, 0, 1, 2, 3, 5] rfl rfl
  refine z_top (y := (nI 4)) (congrArg nI (by rw [show z_ab (nI 15) % 16 = 15 by decide, ho5 15 (by decide)]; decide)) ?_
  refine lv_iconst (v := (nI 4)) X.x X.b dX0_askedStands_189 (by decide) ?_
  refine z_icmp_ne (tgt := 197) X.x X.b dX0_askedStands_190 (by decide) (by omega) (by omega) (fun c_49 => by exfalso; omega) (fun c_49 => ?_)
  refine lv_iconst (v := (nI 1)) X.x X.b dX0_askedStands_193 (by decide) ?_
  refine lv_goto (tgt := 198) X.x X.b dX0_askedStands_194 (by decide) ?_
  exact z_iret X hS () (rfl) (rfl) [] rfl rfl dX0_askedStands_198
end
section
set_option maxRecDepth 100000
/-! THE CLAIM OUT OF ONE WALK OF THE LAW'S BODY. Your part is whole_start (and what it stands on); all else here is the same for every law, but numbers. -/
def R_law : String := "BlockPackerLaw"
def lw_P (b : Addr) (xs : List Int32) (args : Array Value) (s : State) : Prop := args = #[.ref b] ∧ s.IntsAt b xs ∧ xs.length ≤ 96 ∧ (Jvm.Cond.and given_1 narrow_1).before args s = true
def lw_Q (_ : Array Value) (s : State) (o : Outcome) (t : State) : Prop := o = .returned (some (.int 1)) ∧ Framed s o t [] 600576 7275178
def lw_Z (below : List Frame) (a : Array Value) (s : State) : State → Prop := fun t => ∃ o, t.status = .running ∧ Ended t below o ∧ lw_Q a s o t
/-- the law's own end, with 1 on the stack, nothing written that was there before, its room as the claim has it -/
theorem lw_ret {p : Program} {l : Launch} {e : Env} {s : State} {m : MethodId} {below : List Frame} {meth : Method} {c : Code} {b : Nat} (hx : p.tables.exec = Jvm.exec) (hb : c.code = code) (hr : meth.sig.returnType = ret) (hlocks : meth.locks = false) {pc : Nat} {H : Heap} {ls : Array Slot} (hdg : decode code pc = .ok (.ireturn, 1)) : W p l e room_1 s m #[Value.ref b] below meth c H [] 600576 7275178 (lw_Z below #[Value.ref b] s) (F0 m pc ls [.int 1]) := by
  intro T hT X
  obtain ⟨fs, hret, hrun, hended, hW, hframe⟩ := X.leave (v := some (.int 1)) (hlocks := hlocks) (fun h => by rw [hr] at h; cases h)
  have hmeth' : T.vm.method? m = some meth := X.method'
  refine ⟨T.setFrames fs, ?_, .returned (some (.int 1)), hrun, hended, rfl, ⟨_, rfl⟩, hW, hframe⟩
  jvm_step X.here [X.here.top, hx, hb, hdg, hmeth', hr, ret, narrow_b1]
  (try refine ⟨rfl, ?_⟩); (try refine ⟨rfl, ?_⟩)
  first | (intro acts; rw [hret _ acts rfl rfl rfl]) | rw [hret _ _ rfl rfl rfl]
  exact Steps.refl _
/-- what holds at the law's entry: the machine, the code, the tables' words (any of lw_tbl by 'hts w (by decide +kernel)'), the script of L ints xs at the cell b, what the Statement gives of the start (any of its parts by flat_of_before) -/
def lw_At (p : Program) (s : State) (m : MethodId) (meth : Method) (c : Code) (b L : Nat) (xs : Nat → Int32) : Prop :=
  p.tables.exec = Jvm.exec ∧ c.code = code ∧ meth.sig.returnType = ret ∧ c.maxLocals = 1 ∧ s.vm.findClass R_law = some m.cls ∧ (∀ w ∈ lw_tbl, w.before #[Value.ref b] s = true) ∧ va_X b L xs s s.heap ∧ b < s.heap.size ∧ meth.locks = false ∧ (Jvm.Cond.and given_1 narrow_1).before #[Value.ref b] s = true
-- ===== YOUR PART BEGINS =====
set_option maxHeartbeats 4000000 in
theorem whole_start {p : Program} {e : Env} {s : State} {m : MethodId} {below : List Frame} {meth : Method} {c : Code} (l : Launch) (hflags : l.flags = flags0) {b L : Nat} {xs : Nat → Int32} (hL : L ≤ 96) (C0 : lw_At p s m meth c b L xs) : W p l e room_1 s m #[Value.ref b] below meth c s.heap [] 0 0 (lw_Z below #[Value.ref b] s) (entryFrame m ([Value.ref b] : List Value).toArray 1) := by
  obtain ⟨hx, hb, hr, hml, hown, hts0, hX, hbl, hlocks, hgv⟩ := id C0
  have hts : ∀ w ∈ lw_all, w.before #[Value.ref b] s = true := fun w h => hts0 w (lw_all_tbl h)
  obtain ⟨c0, i0, hK0⟩ := u_known (C := RX1) (T := TX1) (N := 8) (n := 8) hts in_X1 (hts _ q39)
  obtain ⟨c1, i1, hK1⟩ := u_known (C := RX3) (T := z_T0) (N := 0) (n := 0) hts (in_z0 _) (hts _ q47)
  obtain ⟨c2, i2, hK2⟩ := u_known (C := RX5) (T := z_T0) (N := 0) (n := 0) hts (in_z0 _) (hts _ q57)
  obtain ⟨a0, k0, m0, e0, f0, g0⟩ := Cond.arrayClass_spec (hts _ q91)
  obtain ⟨a1, k1, m1, e1, f1, g1⟩ := Cond.arrayClass_spec (hts _ q281)
  obtain ⟨a2, k2, m2, e2, f2, g2⟩ := Cond.arrayClass_spec (hts _ q422)
  obtain ⟨G, hK⟩ : ∃ G : z_G, va_K G.1 z_cl (z_ty G) s := by
    refine ⟨((fun k => if k = 0 then c0 else if k = 1 then c1 else c2, fun k => if k = 0 then i0 else if k = 1 then i1 else i2), (a0, a1, a2)), ?_, ?_⟩
    · intro k q hq
      match k, hq with
      | 0, hq => cases hq; exact hK0
      | 1, hq => cases hq; exact hK1
      | 2, hq => cases hq; exact hK2
      | k + 3, hq => simp [z_cl] at hq
    · intro k q hq
      match k, hq with
      | 0, hq => cases hq; exact ⟨fun n z => ⟨fun k h => (by cases h), k0, f0, m0, g0⟩, e0⟩
      | 1, hq => cases hq; exact ⟨fun n z => ⟨fun k h => (by cases h), k1, f1, m1, g1⟩, e1⟩
      | 2, hq => cases hq; exact ⟨fun n z => ⟨fun k h => (by cases h), k2, f2, m2, g2⟩, e2⟩
      | k + 3, hq => simp [z_ty] at hq
  have hbA : ¬ (fun q : Nat => s.heap.size ≤ q) b := Nat.not_le.mpr hbl
  have hsk : (Cond.eq (.static "LZ4Constants" "SKIP_STRENGTH" "I") (.int 6)).before #[Value.ref b] s = true := flat_of_before _ hgv _ (by decide +kernel)
  have hE1 : z_E1 (fun q : Nat => s.heap.size ≤ q) s := va_Zof (hts0 _ q233) (hts _ q16) (va_eqi hsk) (fun a h => Nat.not_le.mpr h)
  have hE : z_E3 b L xs (fun q : Nat => s.heap.size ≤ q) s := ⟨⟨hE1, va_Nw.of rfl (hts0 _ q129), va_Nw.of rfl (hts0 _ q356)⟩, hX, hbl, hbA⟩
  have X : z_X p s m #[Value.ref b] meth c ⟨"BlockPackerLaw", meth.name, ""⟩ code 1 ret G (fun q : Nat => s.heap.size ≤ q) := ⟨⟨hx, hb, hml, hown, hts⟩, hr, hlocks, rfl, hK, fun _ h => h⟩
  have hS : z_S G [] (fun q : Nat => s.heap.size ≤ q) s s.heap [] := ⟨fun k q h => by simp at h, ⟨fun i j p q h => by simp at h, fun k q h => by simp at h⟩, va_S.rf⟩
  have hl := lv_entry ([.ref b]) (n := 1) (Nat.le_of_ble_eq_true rfl)
  rw [lg_entry_eq]
  generalize (lg_sl ([.ref b]) ++ List.replicate (1 - (lg_sl ([.ref b])).length) Slot.unset).toArray = ls at hl ⊢
  have hl : lv_has ls 1 [(0, .ref b)] := hl
  generalize hAe : (fun q : Nat => s.heap.size ≤ q) = A at hE X hS
  refine lv_aload_n X.x X.b dL_law_0 rfl (lv_at hl 0 rfl) ?_
  refine z_cSi (wr := []) X rfl (z_E3ok _ _ _) hE hS (m_elder l G b L xs hL) 1 q35 q36 q2 q37 nm_m_elder ⟨rfl, rfl⟩ ⟨Nat.le_of_ble_eq_true rfl, Nat.le_of_ble_eq_true rfl⟩ [] [] ⟨rfl, rfl, rfl, rfl, by decide⟩ rfl hl.1 rfl (Nat.le_of_ble_eq_true rfl) ⟨Nat.le_of_ble_eq_true rfl, Nat.le_of_ble_eq_true rfl⟩ dL_law_1 (fun r_1 u_2 H locs hp hS => ?_)
  have hS : z_S G [] A s H locs := hS
  subst hp
  refine lv_if_eq (tgt := 39) X.x X.b dL_law_4 (by decide) (fun c1 => absurd c1 (by decide)) (fun _ => ?_)
  refine lv_aload_n X.x X.b dL_law_7 rfl (lv_at hl 0 rfl) ?_
  refine lv_iconst (v := (nI 0)) X.x X.b dL_law_8 (by decide) ?_
  refine z_cSi (wr := []) X rfl (z_E3ok _ _ _) hE hS (m_cell l G b L xs hL 0 (by decide)) 2 q32 q33 q2 q34 nm_m_cell ⟨rfl, rfl⟩ ⟨Nat.le_of_ble_eq_true rfl, Nat.le_of_ble_eq_true rfl⟩ [] [] ⟨rfl, rfl, rfl, rfl, by decide⟩ rfl hl.1 rfl (Nat.le_of_ble_eq_true rfl) ⟨Nat.le_of_ble_eq_true rfl, Nat.le_of_ble_eq_true rfl⟩ dL_law_9 (fun r_3 u_4 H locs hp hS => ?_)
  have hS : z_S G [] A s H locs := hS
  refine lv_aload_n X.x X.b dL_law_12 rfl (lv_at hl 0 rfl) ?_
  refine lv_iconst (v := (nI 1)) X.x X.b dL_law_13 (by decide) ?_
  refine z_cSi (wr := []) X rfl (z_E3ok _ _ _) hE hS (m_cell l G b L xs hL 1 (by decide)) 2 q32 q33 q2 q34 nm_m_cell ⟨rfl, rfl⟩ ⟨Nat.le_of_ble_eq_true rfl, Nat.le_of_ble_eq_true rfl⟩ [] [] ⟨rfl, rfl, rfl, rfl, by decide⟩ rfl hl.1 rfl (Nat.le_of_ble_eq_true rfl) ⟨Nat.le_of_ble_eq_true rfl, Nat.le_of_ble_eq_true rfl⟩ dL_law_14 (fun r_5 u_6 H locs hp hS => ?_)
  have hS : z_S G [] A s H locs := hS
  refine z_cSi (wr := []) X rfl z_E2ok hE.1 hS (m_keeps l G r_3 r_5) 2 q635 q636 q2 q637 nm_m_keeps ⟨rfl, rfl⟩ ⟨Nat.le_of_ble_eq_true rfl, Nat.le_of_ble_eq_true rfl⟩ [] [] ⟨rfl, rfl, rfl, rfl, by decide⟩ rfl hl.1 rfl (Nat.le_of_ble_eq_true rfl) ⟨Nat.le_of_ble_eq_true rfl, Nat.le_of_ble_eq_true rfl⟩ dL_law_17 (fun r_7 u_8 H locs hp hS => ?_)
  have hS : z_S G [] A s H locs := hS
  subst hp
  refine lv_if_eq (tgt := 39) X.x X.b dL_law_20 (by decide) (fun c1 => absurd c1 (by decide)) (fun _ => ?_)
  refine z_cSi (wr := []) X rfl z_E0ok trivial hS (m_counts l G) 0 q638 q639 q2 q640 nm_m_counts ⟨rfl, rfl⟩ ⟨Nat.le_of_ble_eq_true rfl, Nat.le_of_ble_eq_true rfl⟩ [] [] ⟨rfl, rfl, rfl, rfl, by decide⟩ rfl hl.1 rfl (Nat.le_of_ble_eq_true rfl) ⟨Nat.le_of_ble_eq_true rfl, Nat.le_of_ble_eq_true rfl⟩ dL_law_23 (fun r_9 u_10 H locs hp hS => ?_)
  have hS : z_S G [] A s H locs := hS
  subst hp
  refine lv_if_eq (tgt := 39) X.x X.b dL_law_26 (by decide) (fun c1 => absurd c1 (by decide)) (fun _ => ?_)
  refine z_cSi (wr := []) X rfl z_E2ok hE.1 hS (m_stands l G) 0 q642 q643 q2 q644 nm_m_stands ⟨rfl, rfl⟩ ⟨Nat.le_of_ble_eq_true rfl, Nat.le_of_ble_eq_true rfl⟩ [] [] ⟨rfl, rfl, rfl, rfl, by decide⟩ rfl hl.1 rfl (Nat.le_of_ble_eq_true rfl) ⟨Nat.le_of_ble_eq_true rfl, Nat.le_of_ble_eq_true rfl⟩ dL_law_29 (fun r_11 u_12 H locs hp hS => ?_)
  have hS : z_S G [] A s H locs := hS
  subst hp
  refine lv_if_eq (tgt := 39) X.x X.b dL_law_32 (by decide) (fun c1 => absurd c1 (by decide)) (fun _ => ?_)
  refine lv_iconst (v := (nI 1)) X.x X.b dL_law_35 (by decide) ?_
  refine lv_goto (tgt := 40) X.x X.b dL_law_36 (by decide) ?_
  refine z_top (y := 1) (by decide) ?_
  refine va_forget (fun q hq => by have h := hS.2.2.2.2 q hq; rw [← hAe] at h; exact h) ?_
  refine W.widen (k := 600576) (n := 7275178) (Nat.le_of_ble_eq_true rfl) (Nat.le_of_ble_eq_true rfl) ?_
  exact lw_ret hx hb hr hlocks dL_law_40
-- ===== YOUR PART ENDS =====
set_option maxHeartbeats 4000000 in
theorem lw_walk (l : Launch) (hflags : l.flags = flags0) (b : Addr) (xs : List Int32) : MetFree l x (headSpec (Jvm.Cond.code x code maxLocals ret :: tables_1) room_1) (lw_P b xs) (fun _ _ _ _ _ => True) lw_Q := by
  refine MetFree.of_bodyS (code := code) (maxLocals := maxLocals) (ret := ret) (by decide) ?_ ?_
  · intro args s m h hn
    obtain ⟨meth, c, h1, h2, h3, h4, h5, h6, -, -⟩ := Cond.code_spec hn (atoms_spec (ws := Jvm.Cond.code x code maxLocals ret :: tables_1) h _ List.mem_cons_self)
    exact ⟨meth, c, h1, h2, h3, h4, h5, h6⟩
  · intro p e s m args below meth c s₁ B hml0 hP _
    obtain ⟨rfl, hx, hbd, hgv⟩ := hP
    obtain ⟨scr, harrAt, hlist, hof, hsmall⟩ := hx
    obtain ⟨hcb, hkn, -, -⟩ := State.arrayAt?_spec harrAt
    have hown : s.vm.findClass R_law = some m.cls := findClass_of_methodNamed B.named
    have hts0 : ∀ c ∈ (Jvm.Cond.code x code maxLocals ret :: tables_1), c.before #[Value.ref b] s = true := atoms_spec (ws := Jvm.Cond.code x code maxLocals ret :: tables_1) B.pre
    have hts : ∀ w ∈ lw_tbl, w.before #[Value.ref b] s = true := k2_hts_sels lw_privs (fun w hw => hts0 w (List.mem_cons_of_mem _ hw)) lw_privs_ok
    have hml : c.maxLocals = 1 := B.maxLocals_eq (hts0 _ List.mem_cons_self)
    have X₀ : Stand p l e room_1 s m #[Value.ref b] below meth c s₁ [] 0 0 := Stand.of_body B
    have hh0 : s₁.heap = s.heap := by rw [B.state]; rfl
    have hsz : scr.slots.size = xs.length := by rw [← Array.length_toList, hlist, List.length_map]
    have hval : ∀ j : Nat, j < xs.length → scr.slots[j]? = some (.int (xs.getD j 0)) := fun j hj => by
      rw [← Array.getElem?_toList, hlist]
      simp [hj]
    have hbl : b < s.heap.size := (Array.getElem?_eq_some_iff.mp hcb).1
    have hX : va_X b xs.length (fun j => xs.getD j 0) s s.heap := ⟨scr, hcb, hof, hkn, hsz, hval⟩
    have K : W p l e room_1 s m #[Value.ref b] below meth c s₁.heap [] 0 0 (lw_Z below #[Value.ref b] s) (entryFrame m ([Value.ref b] : List Value).toArray 1) := by
      rw [hh0]
      exact whole_start l hflags hbd ⟨B.exec, B.bytes, B.returns, hml, hown, hts, hX, hbl, B.notSynchronized, hgv⟩
    obtain ⟨t, a1, o, b1, b2, b3⟩ := K s₁ rfl X₀
    exact ⟨t, o, a1, b1, b2, b3⟩
theorem lw_pre_spec {args : Array Value} {s : State} (h : (Jvm.Cond.and given_1 narrow_1).before args s = true) (hr : rest_1_c.before args s = true) : ∃ (b : Addr) (xs : List Int32), lw_P b xs args s := by
  have hs := flat_of_before _ h
  have hq := flat_of_before _ hr
  have hc : (Cond.count 1).before args s = true := hs _ (by decide +kernel)
  have harr : (Cond.arrayOf (.arg 0) .int).before args s = true := hs _ (by decide +kernel)
  have hle : (Cond.le (.length (.arg 0)) (.int 96)).before args s = true := hs _ (by decide +kernel)
  have hlen : (Cond.isInt (.length (.arg 0))).before args s = true := hq _ (by decide +kernel)
  have hall : (Cond.all (.arg 0) (.isInt (.elem (.arg 0) (.index 0)))).before args s = true := hq _ (by decide +kernel)
  obtain ⟨b, xs, hb, hx⟩ := State.ints_of_pre rfl harr hlen hall
  have hsm : xs.length < 2 ^ 31 := hx.choose_spec.2.2.2
  have hev : (Term.length (.arg 0)).eval args s none [] s = some (.int xs.length.toInt32) := hx.length_eval hb
  have hv := Cond.le_ints hev (show (Term.int 96).eval args s none [] s = some (.int 96) from rfl)
  have hd : xs.length.toInt32 ≤ 96 := by
    simpa [Cond.before, Cond.holds, hv] using hle
  have hN : xs.length ≤ 96 := (Int32.ofNat_le_ofNat hsm (by decide)).mp (show Int32.ofNat xs.length ≤ Int32.ofNat 96 from hd)
  exact ⟨b, xs, Cond.one_arg hc (show args[0]? = some (.ref b) from hb), hx, hN, h⟩
theorem lw_comes (l : Launch) (hflags : l.flags = flags0) : Comes l x (Jvm.Cond.code x code maxLocals ret :: tables_1) room_1 (fun tb e args s => Calls_1 tb e args s ∧ rest_1 tb e args s ∧ Pre_1 tb e args s)
    (fun _ _ args s o t => lw_Q args s o t) := by
  intro p e ha hc hk s m args below hf hfit hheap happ hpre
  obtain ⟨b, xs, hP⟩ := lw_pre_spec hpre.2.2 hpre.2.1
  obtain ⟨k, o, h1, h2, h3, hQ⟩ := lw_walk l hflags b xs p e ha hc hk s m args below hf ((Spec.applies_iff_loose hf).mp happ).1 hP trivial
  exact ⟨k, o, h1, h2, h3, hQ⟩
theorem lw_frame {s t : State} {o : Outcome} {args : Array Value} (h : Framed s o t [] 600576 7275178) :
    Framed s o t (fieldLocs frame_1_writes args s ++ arrayLocs frame_1_arrays args s ++ staticLocs frame_1_statics s) 600576 7275178 := h
theorem lw_limb (L : Cond) (hL : ∀ (args : Array Value) (s t : State), L.after args s (.returned (some (.int 1))) t = true) :
    ArmFor flags0 classFile x code maxLocals ret World_1 tables_1 room_1 Calls_1 rest_1 Pre_1
      (fun tb e a s o t => postC L tb e a s o t ∧ Framed s o t (fieldLocs frame_1_writes a s ++ arrayLocs frame_1_arrays a s ++ staticLocs frame_1_statics s) 600576 7275178) := by
  intro l hflags _ _ p e ha hc hk s m args below hf hfit hheap happ hpre
  obtain ⟨k, o, h1, h2, h3, rfl, hF⟩ := lw_comes l hflags p e ha hc hk s m args below hf hfit hheap happ hpre
  exact ⟨k, _, h1, h2, h3, hL args s _, lw_frame hF⟩
theorem i_vc : Claimed_1_1 ∧ Claimed_1_2 := ⟨lw_limb limb_1_1 (fun args s t => by simp [limb_1_1, Cond.after, Cond.holds, Cond.value]), lw_limb limb_1_2 (fun args s t => Cond.after_iff.mpr (by
  first | (rw [show limb_1_2 = Cond.eq .result (.int 1) from rfl, Cond.eq_ints (x := 1) (y := 1) rfl rfl]; simp; done) | (simp [limb_1_2, Cond.value, Term.eval]; done)))⟩
end
