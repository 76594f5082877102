section
-- ===== PART A: goes FIRST, ahead of the names: the tables' words, and 'selects' of the private methods out of them =====
/-- a private method of a class that the tables say can be made, by its rows of tables_1 -/
def lw_okq (q : MethodName × Nat) : Prop := (q.1.cls ≠ "java/lang/invoke/MethodHandle" ∧ q.1.cls ≠ "java/lang/invoke/VarHandle") ∧ Cond.instantiable q.1.cls q.2 ∈ tables_1 ∧ Cond.privateMethod q.1 ∈ tables_1 ∧ Cond.instanceMethod q.1 ∈ tables_1
set_option maxRecDepth 100000
theorem lw_t1 {w : Cond} (h : w ∈ tables_1_1) : w ∈ tables_1 := List.mem_append_left _ h
theorem lw_t2 {w : Cond} (h : w ∈ tables_1_2) : w ∈ tables_1 := List.mem_append_right _ h
theorem lw_p0 : lw_okq (⟨"java/lang/Throwable", "fillInStackTrace", "(I)Ljava/lang/Throwable;"⟩, 6) := ⟨⟨by decide +kernel, by decide +kernel⟩, lw_t1 (List.mem_of_getElem? (i := 71) rfl), lw_t1 (List.mem_of_getElem? (i := 69) rfl), lw_t1 (List.mem_of_getElem? (i := 70) rfl)⟩
theorem lw_p1 : lw_okq (⟨"ImmutableLongArray$Builder", "ensureRoomFor", "(I)V"⟩, 2) := ⟨⟨by decide +kernel, by decide +kernel⟩, lw_t1 (List.mem_of_getElem? (i := 101) rfl), lw_t1 (List.mem_of_getElem? (i := 164) rfl), lw_t1 (List.mem_of_getElem? (i := 165) rfl)⟩
theorem lw_p2 : lw_okq (⟨"ImmutableLongArray", "isPartialView", "()Z"⟩, 3) := ⟨⟨by decide +kernel, by decide +kernel⟩, lw_t1 (List.mem_of_getElem? (i := 120) rfl), lw_t2 (List.mem_of_getElem? (i := 141) rfl), lw_t2 (List.mem_of_getElem? (i := 142) rfl)⟩
def lw_privs_1 : List (MethodName × Nat) := [(⟨"java/lang/Throwable", "fillInStackTrace", "(I)Ljava/lang/Throwable;"⟩, 6), (⟨"ImmutableLongArray$Builder", "ensureRoomFor", "(I)V"⟩, 2), (⟨"ImmutableLongArray", "isPartialView", "()Z"⟩, 3)]
theorem lw_r1 : ∀ q ∈ lw_privs_1, lw_okq q := List.forall_mem_cons.mpr ⟨lw_p0, List.forall_mem_cons.mpr ⟨lw_p1, List.forall_mem_cons.mpr ⟨lw_p2, fun _ h => absurd h List.not_mem_nil⟩⟩⟩
def lw_privs : List (MethodName × Nat) := lw_privs_1
def lw_tbl : List Cond := k2_sels lw_privs ++ tables_1
theorem lw_privs_ok : ∀ q ∈ lw_privs, lw_okq q := lw_r1
-- ===== ONE list of words for every method: the tables' words that hold all through a run =====
def lw_all : List Cond := lw_tbl.filter goodWord
/-- a word of the tables by its place: claim/WORDS.tsv -/
theorem lw_w {w : Cond} (i : Nat) (h : lw_tbl[i]? = some w) (g : goodWord w = true) : w ∈ lw_all := List.mem_filter.mpr ⟨List.mem_of_getElem? h, g⟩
theorem lw_all_tbl {w : Cond} (h : w ∈ lw_all) : w ∈ lw_tbl := (List.mem_filter.mp h).1
theorem lw_self : GoodIn lw_all lw_all := fun w h => ⟨h, good_of_word (List.mem_filter.mp h).2⟩
/-- a class's field words, by their places -/
theorem lw_in (ws : List Cond) (ps : List Nat) (hp : ws = ps.filterMap (fun i => lw_tbl[i]?)) (hg : ws.all goodWord = true) : ∀ w ∈ ws, w ∈ lw_all := by
  intro w h
  have h1 := List.all_eq_true.mp hg w h
  rw [hp] at h
  obtain ⟨i, -, hi⟩ := List.mem_filterMap.mp h
  exact lw_w i hi h1
/-- the words of a contract for the method y with code b, L locals, answer r -/
abbrev ws_ (y : MethodName) (b : ByteArray) (L : Nat) (r : Option FieldType) : List Cond := Cond.code y b L r :: lw_all
theorem lw_meth {y : MethodName} {b : ByteArray} {L : Nat} {r : Option FieldType} (h : Cond.code y b L r ∈ lw_all) : GoodIn lw_all (ws_ y b L r) := by
  intro w hw
  rcases List.mem_cons.mp hw with e | e
  · rw [e]
    exact lw_self _ h
  · exact lw_self _ e
theorem lw_app {a c : List Cond} (ha : ∀ w ∈ a, w ∈ lw_all) (hc : GoodIn lw_all c) : GoodIn lw_all (a ++ c) := by
  intro w hw
  rcases List.mem_append.mp hw with e | e
  · exact lw_self w (ha w e)
  · exact hc w e
/-- what a call through an object asks: cwV n hts (lw_V ..) -/
theorem lw_V {own : String} {idx : Nat} {C : String} {y : MethodName} {b : ByteArray} {L : Nat} {r : Option FieldType} (h1 : Cond.methodLink own idx y ∈ lw_all) (h2 : Cond.instanceMethod y ∈ lw_all) (h3 : Cond.selects C y y ∈ lw_all) (h4 : Cond.initialized C ∈ lw_all) (h5 : Cond.code y b L r ∈ lw_all) : GoodIn lw_all (wsV own idx C y (ws_ y b L r)) := by
  refine lw_app ?_ (lw_meth h5)
  intro w hw
  simp only [List.mem_cons, List.not_mem_nil, or_false] at hw
  rcases hw with e | e | e | e
  · rw [e]; exact h1
  · rw [e]; exact h2
  · rw [e]; exact h3
  · rw [e]; exact h4
/-- what a static call asks: va_cwS n hts (lw_S ..) -/
theorem lw_S {own : String} {idx : Nat} {y : MethodName} {b : ByteArray} {L : Nat} {r : Option FieldType} (h1 : Cond.methodLink own idx y ∈ lw_all) (h2 : Cond.static y ∈ lw_all) (h3 : Cond.initialized y.cls ∈ lw_all) (h4 : Cond.code y b L r ∈ lw_all) : GoodIn lw_all (va_wsS own idx y (ws_ y b L r)) := by
  refine lw_app ?_ (lw_meth h4)
  intro w hw
  simp only [List.mem_cons, List.not_mem_nil, or_false] at hw
  rcases hw with e | e | e
  · rw [e]; exact h1
  · rw [e]; exact h2
  · rw [e]; exact h3
/-- the words of a contract for a method WITH HANDLERS (hh: its table) -/
abbrev wsW_ (y : MethodName) (b : ByteArray) (L : Nat) (r : Option FieldType) (hh : List (Nat × Nat × Nat × Nat)) : List Cond := Cond.codeWith y b L r hh :: lw_all
theorem lw_methW {y : MethodName} {b : ByteArray} {L : Nat} {r : Option FieldType} {hh : List (Nat × Nat × Nat × Nat)} (h : Cond.codeWith y b L r hh ∈ lw_all) : GoodIn lw_all (wsW_ y b L r hh) := by
  intro w hw
  rcases List.mem_cons.mp hw with e | e
  · rw [e]
    exact lw_self _ h
  · exact lw_self _ e
/-- any list of words by their places (lw_in), good -/
theorem lw_good {ws : List Cond} (h : ∀ w ∈ ws, w ∈ lw_all) : GoodIn lw_all ws := fun w hw => lw_self w (h w hw)
/-- what a call of a method with handlers asks: vx_cwVW n hts (lw_VW ..), vx_cwSW n hts (lw_SW ..) -/
theorem lw_VW {own : String} {idx : Nat} {C : String} {y : MethodName} {b : ByteArray} {L : Nat} {r : Option FieldType} {hh : List (Nat × Nat × Nat × Nat)} (h1 : Cond.methodLink own idx y ∈ lw_all) (h2 : Cond.instanceMethod y ∈ lw_all) (h3 : Cond.selects C y y ∈ lw_all) (h4 : Cond.initialized C ∈ lw_all) (h5 : Cond.codeWith y b L r hh ∈ lw_all) : GoodIn lw_all (wsV own idx C y (wsW_ y b L r hh)) := by
  refine lw_app ?_ (lw_methW h5)
  intro w hw
  simp only [List.mem_cons, List.not_mem_nil, or_false] at hw
  rcases hw with e | e | e | e
  · rw [e]; exact h1
  · rw [e]; exact h2
  · rw [e]; exact h3
  · rw [e]; exact h4
theorem lw_SW {own : String} {idx : Nat} {y : MethodName} {b : ByteArray} {L : Nat} {r : Option FieldType} {hh : List (Nat × Nat × Nat × Nat)} (h1 : Cond.methodLink own idx y ∈ lw_all) (h2 : Cond.static y ∈ lw_all) (h3 : Cond.initialized y.cls ∈ lw_all) (h4 : Cond.codeWith y b L r hh ∈ lw_all) : GoodIn lw_all (va_wsS own idx y (wsW_ y b L r hh)) := by
  refine lw_app ?_ (lw_methW h4)
  intro w hw
  simp only [List.mem_cons, List.not_mem_nil, or_false] at hw
  rcases hw with e | e | e
  · rw [e]; exact h1
  · rw [e]; exact h2
  · rw [e]; exact h3
/-- a word by its place in its run of the tables -/
theorem lw_at {r : List Cond} (hr : ∀ w ∈ r, w ∈ lw_tbl) {w : Cond} (i : Nat) (h : r[i]? = some w) : w ∈ lw_tbl := hr w (List.mem_of_getElem? h)
theorem lw_g {w : Cond} (h : w ∈ lw_tbl) (g : goodWord w = true) : w ∈ lw_all := List.mem_filter.mpr ⟨h, g⟩
theorem lw_ms : ∀ w ∈ k2_sels lw_privs, w ∈ lw_tbl := fun w h => show w ∈ k2_sels lw_privs ++ tables_1 from List.mem_append_left _ h
theorem lw_m1 : ∀ w ∈ tables_1_1, w ∈ lw_tbl := fun w h => show w ∈ k2_sels lw_privs ++ tables_1 from List.mem_append_right (k2_sels lw_privs) (show w ∈ tables_1 from List.mem_append_left _ h)
theorem lw_m2 : ∀ w ∈ tables_1_2, w ∈ lw_tbl := fun w h => show w ∈ k2_sels lw_privs ++ tables_1 from List.mem_append_right (k2_sels lw_privs) (show w ∈ tables_1 from List.mem_append_right _ h)
theorem qs0 : (Cond.selects "java/lang/Throwable" ⟨"java/lang/Throwable", "fillInStackTrace", "(I)Ljava/lang/Throwable;"⟩ ⟨"java/lang/Throwable", "fillInStackTrace", "(I)Ljava/lang/Throwable;"⟩) ∈ lw_all := lw_g (lw_at lw_ms 0 rfl) rfl
theorem qs1 : (Cond.selects "ImmutableLongArray$Builder" ⟨"ImmutableLongArray$Builder", "ensureRoomFor", "(I)V"⟩ ⟨"ImmutableLongArray$Builder", "ensureRoomFor", "(I)V"⟩) ∈ lw_all := lw_g (lw_at lw_ms 1 rfl) rfl
theorem qs2 : (Cond.selects "ImmutableLongArray" ⟨"ImmutableLongArray", "isPartialView", "()Z"⟩ ⟨"ImmutableLongArray", "isPartialView", "()Z"⟩) ∈ lw_all := lw_g (lw_at lw_ms 2 rfl) rfl
-- ===== end of PART A; then your names; then what follows =====
end
section
/-! DECODE ROWS BY BYTES: one lemma an opcode; a method's code is cut into short pieces once, and a row reads its own piece alone. -/
set_option maxRecDepth 100000
/-- the code has just these bytes from pc on -/
def DkAt (code : ByteArray) (pc : Nat) (bs : List UInt8) : Prop := ∀ (j : Nat) (b : UInt8), bs[j]? = some b → code.data.toList[pc + j]? = some b
/-- the piece W has the bytes bs from its place j on -/
def dkIn (W : List UInt8) (j : Nat) (bs : List UInt8) : Bool := decide ((W.drop j).take bs.length = bs)
theorem dk_seg {l W T : List UInt8} {o o2 : Nat} (h : l.drop o = W ++ T) (n : Nat) (hn : W.length = n) (ho : o + n = o2) : l.drop o2 = T := by
  subst ho
  rw [← List.drop_drop, h, List.drop_left' hn]
theorem dk_at {code : ByteArray} {W T bs : List UInt8} {o pc : Nat} (h : code.data.toList.drop o = W ++ T) (j : Nat) (hp : o + j = pc) (hw : dkIn W j bs = true) : DkAt code pc bs := by
  subst hp
  intro i b e
  have h1 := of_decide_eq_true hw
  have h2 : i < bs.length := (List.getElem?_eq_some_iff.mp e).1
  have h3 : W[j + i]? = some b := by
    rw [← h1, List.getElem?_take, if_pos h2, List.getElem?_drop] at e
    exact e
  have h4 : j + i < W.length := (List.getElem?_eq_some_iff.mp h3).1
  have h5 : (code.data.toList.drop o)[j + i]? = some b := by
    rw [h, List.getElem?_append_left h4]
    exact h3
  rw [List.getElem?_drop, ← Nat.add_assoc] at h5
  exact h5
theorem dk_u1 {A : ByteArray} {p : Nat} {b : UInt8} (h : A.data.toList[p]? = some b) : (Reader.u1 : Reader DecodeError Nat) A p = .ok (b.toNat, p + 1) := by
  obtain ⟨h1, h2⟩ := List.getElem?_eq_some_iff.mp h
  have h3 : p < A.size := by simpa using h1
  have h4 : A[p]'h3 = b := h2
  have e : (Reader.u1 : Reader DecodeError Nat) A p = (if h : p < A.size then .ok (A[p].toNat, p + 1) else .error (HasTruncated.truncated p)) := by
    show (do if h : p < A.size then do set (p + 1); Pure.pure A[p].toNat else MonadExcept.throw (HasTruncated.truncated p) : Reader DecodeError Nat) A p = _
    by_cases hi : p < A.size
    · rw [dif_pos hi, dif_pos hi]; rfl
    · rw [dif_neg hi, dif_neg hi]; rfl
  rw [e, dif_pos h3, h4]
theorem dk_bind {α β : Type} {r : Reader DecodeError α} {f : α → Reader DecodeError β} {A : ByteArray} {p s : Nat} {a : α} (h : r A p = .ok (a, s)) : (r >>= f) A p = f a A s := by
  show (do let (a, s) ← r A p; f a A s : Except DecodeError (β × Nat)) = _
  rw [h]
  rfl
theorem dk_map {α β : Type} {r : Reader DecodeError α} {g : α → β} {A : ByteArray} {p s : Nat} {a : α} (h : r A p = .ok (a, s)) : (g <$> r) A p = .ok (g a, s) := by
  show (do let (a, s) ← r A p; .ok (g a, s) : Except DecodeError (β × Nat)) = _
  rw [h]
  rfl
theorem dk_u2 {A : ByteArray} {p : Nat} {a b : UInt8} (h : A.data.toList[p]? = some a) (h2 : A.data.toList[p + 1]? = some b) : (Reader.u2 : Reader DecodeError Nat) A p = .ok (a.toNat * 256 + b.toNat, p + 2) := by
  show (Reader.u1 >>= fun hi => Reader.u1 >>= fun lo => Pure.pure (hi * 256 + lo) : Reader DecodeError Nat) A p = _
  rw [dk_bind (dk_u1 h), dk_bind (dk_u1 h2)]
  rfl
theorem dk_of {code : ByteArray} {pc n : Nat} {i : Instr} (h : Decoder.instr pc code pc = .ok (i, pc + n)) : decode code pc = .ok (i, n) := by
  have e : decode code pc = (match Decoder.instr pc code pc with | .error x => .error x | .ok (j, s) => .ok (j, s - pc)) := by
    show (do let (j, s) ← Decoder.instr pc code pc; Pure.pure (j, s - pc) : Except DecodeError (Instr × Nat)) = _
    cases Decoder.instr pc code pc <;> rfl
  rw [e, h]
  show Except.ok (i, pc + n - pc) = _
  rw [Nat.add_sub_cancel_left]
theorem dk_2 {code : ByteArray} {pc : Nat} (h : DkAt code pc [2]) : decode code pc = .ok (.iconst (-1), 1) := dk_of ((dk_bind (dk_u1 (h 0 _ rfl))).trans rfl)
theorem dk_3 {code : ByteArray} {pc : Nat} (h : DkAt code pc [3]) : decode code pc = .ok (.iconst 0, 1) := dk_of ((dk_bind (dk_u1 (h 0 _ rfl))).trans rfl)
theorem dk_4 {code : ByteArray} {pc : Nat} (h : DkAt code pc [4]) : decode code pc = .ok (.iconst 1, 1) := dk_of ((dk_bind (dk_u1 (h 0 _ rfl))).trans rfl)
theorem dk_5 {code : ByteArray} {pc : Nat} (h : DkAt code pc [5]) : decode code pc = .ok (.iconst 2, 1) := dk_of ((dk_bind (dk_u1 (h 0 _ rfl))).trans rfl)
theorem dk_6 {code : ByteArray} {pc : Nat} (h : DkAt code pc [6]) : decode code pc = .ok (.iconst 3, 1) := dk_of ((dk_bind (dk_u1 (h 0 _ rfl))).trans rfl)
theorem dk_7 {code : ByteArray} {pc : Nat} (h : DkAt code pc [7]) : decode code pc = .ok (.iconst 4, 1) := dk_of ((dk_bind (dk_u1 (h 0 _ rfl))).trans rfl)
theorem dk_8 {code : ByteArray} {pc : Nat} (h : DkAt code pc [8]) : decode code pc = .ok (.iconst 5, 1) := dk_of ((dk_bind (dk_u1 (h 0 _ rfl))).trans rfl)
theorem dk_9 {code : ByteArray} {pc : Nat} (h : DkAt code pc [9]) : decode code pc = .ok (.lconst 0, 1) := dk_of ((dk_bind (dk_u1 (h 0 _ rfl))).trans rfl)
theorem dk_10 {code : ByteArray} {pc : Nat} (h : DkAt code pc [10]) : decode code pc = .ok (.lconst 1, 1) := dk_of ((dk_bind (dk_u1 (h 0 _ rfl))).trans rfl)
theorem dk_16 {code : ByteArray} {pc : Nat} (a : UInt8) (h : DkAt code pc [16, a]) : decode code pc = .ok (.bipush (Reader.signed 8 a.toNat), 2) := dk_of ((dk_bind (dk_u1 (h 0 _ rfl))).trans ((dk_bind (dk_map (dk_u1 (h 1 _ rfl)))).trans rfl))
theorem dk_17 {code : ByteArray} {pc : Nat} (a b : UInt8) (h : DkAt code pc [17, a, b]) : decode code pc = .ok (.sipush (Reader.signed 16 (a.toNat * 256 + b.toNat)), 3) := dk_of ((dk_bind (dk_u1 (h 0 _ rfl))).trans ((dk_bind (dk_map (dk_u2 (h 1 _ rfl) (h 2 _ rfl)))).trans rfl))
theorem dk_18 {code : ByteArray} {pc : Nat} (a : UInt8) (h : DkAt code pc [18, a]) : decode code pc = .ok (.ldc a.toNat, 2) := dk_of ((dk_bind (dk_u1 (h 0 _ rfl))).trans ((dk_bind (dk_u1 (h 1 _ rfl))).trans rfl))
theorem dk_19 {code : ByteArray} {pc : Nat} (a b : UInt8) (h : DkAt code pc [19, a, b]) : decode code pc = .ok (.ldc_w (a.toNat * 256 + b.toNat), 3) := dk_of ((dk_bind (dk_u1 (h 0 _ rfl))).trans ((dk_bind (dk_u2 (h 1 _ rfl) (h 2 _ rfl))).trans rfl))
theorem dk_20 {code : ByteArray} {pc : Nat} (a b : UInt8) (h : DkAt code pc [20, a, b]) : decode code pc = .ok (.ldc2_w (a.toNat * 256 + b.toNat), 3) := dk_of ((dk_bind (dk_u1 (h 0 _ rfl))).trans ((dk_bind (dk_u2 (h 1 _ rfl) (h 2 _ rfl))).trans rfl))
theorem dk_21 {code : ByteArray} {pc : Nat} (a : UInt8) (h : DkAt code pc [21, a]) : decode code pc = .ok (.iload a.toNat, 2) := dk_of ((dk_bind (dk_u1 (h 0 _ rfl))).trans ((dk_bind (dk_u1 (h 1 _ rfl))).trans rfl))
theorem dk_22 {code : ByteArray} {pc : Nat} (a : UInt8) (h : DkAt code pc [22, a]) : decode code pc = .ok (.lload a.toNat, 2) := dk_of ((dk_bind (dk_u1 (h 0 _ rfl))).trans ((dk_bind (dk_u1 (h 1 _ rfl))).trans rfl))
theorem dk_25 {code : ByteArray} {pc : Nat} (a : UInt8) (h : DkAt code pc [25, a]) : decode code pc = .ok (.aload a.toNat, 2) := dk_of ((dk_bind (dk_u1 (h 0 _ rfl))).trans ((dk_bind (dk_u1 (h 1 _ rfl))).trans rfl))
theorem dk_26 {code : ByteArray} {pc : Nat} (h : DkAt code pc [26]) : decode code pc = .ok (.iload_n 0, 1) := dk_of ((dk_bind (dk_u1 (h 0 _ rfl))).trans rfl)
theorem dk_27 {code : ByteArray} {pc : Nat} (h : DkAt code pc [27]) : decode code pc = .ok (.iload_n 1, 1) := dk_of ((dk_bind (dk_u1 (h 0 _ rfl))).trans rfl)
theorem dk_28 {code : ByteArray} {pc : Nat} (h : DkAt code pc [28]) : decode code pc = .ok (.iload_n 2, 1) := dk_of ((dk_bind (dk_u1 (h 0 _ rfl))).trans rfl)
theorem dk_29 {code : ByteArray} {pc : Nat} (h : DkAt code pc [29]) : decode code pc = .ok (.iload_n 3, 1) := dk_of ((dk_bind (dk_u1 (h 0 _ rfl))).trans rfl)
theorem dk_30 {code : ByteArray} {pc : Nat} (h : DkAt code pc [30]) : decode code pc = .ok (.lload_n 0, 1) := dk_of ((dk_bind (dk_u1 (h 0 _ rfl))).trans rfl)
theorem dk_31 {code : ByteArray} {pc : Nat} (h : DkAt code pc [31]) : decode code pc = .ok (.lload_n 1, 1) := dk_of ((dk_bind (dk_u1 (h 0 _ rfl))).trans rfl)
theorem dk_33 {code : ByteArray} {pc : Nat} (h : DkAt code pc [33]) : decode code pc = .ok (.lload_n 3, 1) := dk_of ((dk_bind (dk_u1 (h 0 _ rfl))).trans rfl)
theorem dk_42 {code : ByteArray} {pc : Nat} (h : DkAt code pc [42]) : decode code pc = .ok (.aload_n 0, 1) := dk_of ((dk_bind (dk_u1 (h 0 _ rfl))).trans rfl)
theorem dk_43 {code : ByteArray} {pc : Nat} (h : DkAt code pc [43]) : decode code pc = .ok (.aload_n 1, 1) := dk_of ((dk_bind (dk_u1 (h 0 _ rfl))).trans rfl)
theorem dk_44 {code : ByteArray} {pc : Nat} (h : DkAt code pc [44]) : decode code pc = .ok (.aload_n 2, 1) := dk_of ((dk_bind (dk_u1 (h 0 _ rfl))).trans rfl)
theorem dk_45 {code : ByteArray} {pc : Nat} (h : DkAt code pc [45]) : decode code pc = .ok (.aload_n 3, 1) := dk_of ((dk_bind (dk_u1 (h 0 _ rfl))).trans rfl)
theorem dk_46 {code : ByteArray} {pc : Nat} (h : DkAt code pc [46]) : decode code pc = .ok (.iaload, 1) := dk_of ((dk_bind (dk_u1 (h 0 _ rfl))).trans rfl)
theorem dk_47 {code : ByteArray} {pc : Nat} (h : DkAt code pc [47]) : decode code pc = .ok (.laload, 1) := dk_of ((dk_bind (dk_u1 (h 0 _ rfl))).trans rfl)
theorem dk_50 {code : ByteArray} {pc : Nat} (h : DkAt code pc [50]) : decode code pc = .ok (.aaload, 1) := dk_of ((dk_bind (dk_u1 (h 0 _ rfl))).trans rfl)
theorem dk_54 {code : ByteArray} {pc : Nat} (a : UInt8) (h : DkAt code pc [54, a]) : decode code pc = .ok (.istore a.toNat, 2) := dk_of ((dk_bind (dk_u1 (h 0 _ rfl))).trans ((dk_bind (dk_u1 (h 1 _ rfl))).trans rfl))
theorem dk_55 {code : ByteArray} {pc : Nat} (a : UInt8) (h : DkAt code pc [55, a]) : decode code pc = .ok (.lstore a.toNat, 2) := dk_of ((dk_bind (dk_u1 (h 0 _ rfl))).trans ((dk_bind (dk_u1 (h 1 _ rfl))).trans rfl))
theorem dk_58 {code : ByteArray} {pc : Nat} (a : UInt8) (h : DkAt code pc [58, a]) : decode code pc = .ok (.astore a.toNat, 2) := dk_of ((dk_bind (dk_u1 (h 0 _ rfl))).trans ((dk_bind (dk_u1 (h 1 _ rfl))).trans rfl))
theorem dk_59 {code : ByteArray} {pc : Nat} (h : DkAt code pc [59]) : decode code pc = .ok (.istore_n 0, 1) := dk_of ((dk_bind (dk_u1 (h 0 _ rfl))).trans rfl)
theorem dk_60 {code : ByteArray} {pc : Nat} (h : DkAt code pc [60]) : decode code pc = .ok (.istore_n 1, 1) := dk_of ((dk_bind (dk_u1 (h 0 _ rfl))).trans rfl)
theorem dk_61 {code : ByteArray} {pc : Nat} (h : DkAt code pc [61]) : decode code pc = .ok (.istore_n 2, 1) := dk_of ((dk_bind (dk_u1 (h 0 _ rfl))).trans rfl)
theorem dk_62 {code : ByteArray} {pc : Nat} (h : DkAt code pc [62]) : decode code pc = .ok (.istore_n 3, 1) := dk_of ((dk_bind (dk_u1 (h 0 _ rfl))).trans rfl)
theorem dk_64 {code : ByteArray} {pc : Nat} (h : DkAt code pc [64]) : decode code pc = .ok (.lstore_n 1, 1) := dk_of ((dk_bind (dk_u1 (h 0 _ rfl))).trans rfl)
theorem dk_66 {code : ByteArray} {pc : Nat} (h : DkAt code pc [66]) : decode code pc = .ok (.lstore_n 3, 1) := dk_of ((dk_bind (dk_u1 (h 0 _ rfl))).trans rfl)
theorem dk_76 {code : ByteArray} {pc : Nat} (h : DkAt code pc [76]) : decode code pc = .ok (.astore_n 1, 1) := dk_of ((dk_bind (dk_u1 (h 0 _ rfl))).trans rfl)
theorem dk_77 {code : ByteArray} {pc : Nat} (h : DkAt code pc [77]) : decode code pc = .ok (.astore_n 2, 1) := dk_of ((dk_bind (dk_u1 (h 0 _ rfl))).trans rfl)
theorem dk_78 {code : ByteArray} {pc : Nat} (h : DkAt code pc [78]) : decode code pc = .ok (.astore_n 3, 1) := dk_of ((dk_bind (dk_u1 (h 0 _ rfl))).trans rfl)
theorem dk_80 {code : ByteArray} {pc : Nat} (h : DkAt code pc [80]) : decode code pc = .ok (.lastore, 1) := dk_of ((dk_bind (dk_u1 (h 0 _ rfl))).trans rfl)
theorem dk_83 {code : ByteArray} {pc : Nat} (h : DkAt code pc [83]) : decode code pc = .ok (.aastore, 1) := dk_of ((dk_bind (dk_u1 (h 0 _ rfl))).trans rfl)
theorem dk_87 {code : ByteArray} {pc : Nat} (h : DkAt code pc [87]) : decode code pc = .ok (.pop, 1) := dk_of ((dk_bind (dk_u1 (h 0 _ rfl))).trans rfl)
theorem dk_89 {code : ByteArray} {pc : Nat} (h : DkAt code pc [89]) : decode code pc = .ok (.dup, 1) := dk_of ((dk_bind (dk_u1 (h 0 _ rfl))).trans rfl)
theorem dk_96 {code : ByteArray} {pc : Nat} (h : DkAt code pc [96]) : decode code pc = .ok (.iadd, 1) := dk_of ((dk_bind (dk_u1 (h 0 _ rfl))).trans rfl)
theorem dk_97 {code : ByteArray} {pc : Nat} (h : DkAt code pc [97]) : decode code pc = .ok (.ladd, 1) := dk_of ((dk_bind (dk_u1 (h 0 _ rfl))).trans rfl)
theorem dk_100 {code : ByteArray} {pc : Nat} (h : DkAt code pc [100]) : decode code pc = .ok (.isub, 1) := dk_of ((dk_bind (dk_u1 (h 0 _ rfl))).trans rfl)
theorem dk_104 {code : ByteArray} {pc : Nat} (h : DkAt code pc [104]) : decode code pc = .ok (.imul, 1) := dk_of ((dk_bind (dk_u1 (h 0 _ rfl))).trans rfl)
theorem dk_105 {code : ByteArray} {pc : Nat} (h : DkAt code pc [105]) : decode code pc = .ok (.lmul, 1) := dk_of ((dk_bind (dk_u1 (h 0 _ rfl))).trans rfl)
theorem dk_112 {code : ByteArray} {pc : Nat} (h : DkAt code pc [112]) : decode code pc = .ok (.irem, 1) := dk_of ((dk_bind (dk_u1 (h 0 _ rfl))).trans rfl)
theorem dk_120 {code : ByteArray} {pc : Nat} (h : DkAt code pc [120]) : decode code pc = .ok (.ishl, 1) := dk_of ((dk_bind (dk_u1 (h 0 _ rfl))).trans rfl)
theorem dk_121 {code : ByteArray} {pc : Nat} (h : DkAt code pc [121]) : decode code pc = .ok (.lshl, 1) := dk_of ((dk_bind (dk_u1 (h 0 _ rfl))).trans rfl)
theorem dk_122 {code : ByteArray} {pc : Nat} (h : DkAt code pc [122]) : decode code pc = .ok (.ishr, 1) := dk_of ((dk_bind (dk_u1 (h 0 _ rfl))).trans rfl)
theorem dk_123 {code : ByteArray} {pc : Nat} (h : DkAt code pc [123]) : decode code pc = .ok (.lshr, 1) := dk_of ((dk_bind (dk_u1 (h 0 _ rfl))).trans rfl)
theorem dk_124 {code : ByteArray} {pc : Nat} (h : DkAt code pc [124]) : decode code pc = .ok (.iushr, 1) := dk_of ((dk_bind (dk_u1 (h 0 _ rfl))).trans rfl)
theorem dk_125 {code : ByteArray} {pc : Nat} (h : DkAt code pc [125]) : decode code pc = .ok (.lushr, 1) := dk_of ((dk_bind (dk_u1 (h 0 _ rfl))).trans rfl)
theorem dk_126 {code : ByteArray} {pc : Nat} (h : DkAt code pc [126]) : decode code pc = .ok (.iand, 1) := dk_of ((dk_bind (dk_u1 (h 0 _ rfl))).trans rfl)
theorem dk_127 {code : ByteArray} {pc : Nat} (h : DkAt code pc [127]) : decode code pc = .ok (.land, 1) := dk_of ((dk_bind (dk_u1 (h 0 _ rfl))).trans rfl)
theorem dk_129 {code : ByteArray} {pc : Nat} (h : DkAt code pc [129]) : decode code pc = .ok (.lor, 1) := dk_of ((dk_bind (dk_u1 (h 0 _ rfl))).trans rfl)
theorem dk_130 {code : ByteArray} {pc : Nat} (h : DkAt code pc [130]) : decode code pc = .ok (.ixor, 1) := dk_of ((dk_bind (dk_u1 (h 0 _ rfl))).trans rfl)
theorem dk_131 {code : ByteArray} {pc : Nat} (h : DkAt code pc [131]) : decode code pc = .ok (.lxor, 1) := dk_of ((dk_bind (dk_u1 (h 0 _ rfl))).trans rfl)
theorem dk_132 {code : ByteArray} {pc : Nat} (a b : UInt8) (h : DkAt code pc [132, a, b]) : decode code pc = .ok (.iinc a.toNat (Reader.signed 8 b.toNat), 3) := dk_of ((dk_bind (dk_u1 (h 0 _ rfl))).trans ((dk_bind (dk_u1 (h 1 _ rfl))).trans ((dk_bind (dk_map (dk_u1 (h 2 _ rfl)))).trans rfl)))
theorem dk_133 {code : ByteArray} {pc : Nat} (h : DkAt code pc [133]) : decode code pc = .ok (.i2l, 1) := dk_of ((dk_bind (dk_u1 (h 0 _ rfl))).trans rfl)
theorem dk_136 {code : ByteArray} {pc : Nat} (h : DkAt code pc [136]) : decode code pc = .ok (.l2i, 1) := dk_of ((dk_bind (dk_u1 (h 0 _ rfl))).trans rfl)
theorem dk_148 {code : ByteArray} {pc : Nat} (h : DkAt code pc [148]) : decode code pc = .ok (.lcmp, 1) := dk_of ((dk_bind (dk_u1 (h 0 _ rfl))).trans rfl)
theorem dk_153 {code : ByteArray} {pc : Nat} (a b : UInt8) (h : DkAt code pc [153, a, b]) : decode code pc = .ok (.ifCond .eq (Reader.signed 16 (a.toNat * 256 + b.toNat)), 3) := dk_of ((dk_bind (dk_u1 (h 0 _ rfl))).trans ((dk_bind (dk_map (dk_u2 (h 1 _ rfl) (h 2 _ rfl)))).trans rfl))
theorem dk_154 {code : ByteArray} {pc : Nat} (a b : UInt8) (h : DkAt code pc [154, a, b]) : decode code pc = .ok (.ifCond .ne (Reader.signed 16 (a.toNat * 256 + b.toNat)), 3) := dk_of ((dk_bind (dk_u1 (h 0 _ rfl))).trans ((dk_bind (dk_map (dk_u2 (h 1 _ rfl) (h 2 _ rfl)))).trans rfl))
theorem dk_155 {code : ByteArray} {pc : Nat} (a b : UInt8) (h : DkAt code pc [155, a, b]) : decode code pc = .ok (.ifCond .lt (Reader.signed 16 (a.toNat * 256 + b.toNat)), 3) := dk_of ((dk_bind (dk_u1 (h 0 _ rfl))).trans ((dk_bind (dk_map (dk_u2 (h 1 _ rfl) (h 2 _ rfl)))).trans rfl))
theorem dk_156 {code : ByteArray} {pc : Nat} (a b : UInt8) (h : DkAt code pc [156, a, b]) : decode code pc = .ok (.ifCond .ge (Reader.signed 16 (a.toNat * 256 + b.toNat)), 3) := dk_of ((dk_bind (dk_u1 (h 0 _ rfl))).trans ((dk_bind (dk_map (dk_u2 (h 1 _ rfl) (h 2 _ rfl)))).trans rfl))
theorem dk_157 {code : ByteArray} {pc : Nat} (a b : UInt8) (h : DkAt code pc [157, a, b]) : decode code pc = .ok (.ifCond .gt (Reader.signed 16 (a.toNat * 256 + b.toNat)), 3) := dk_of ((dk_bind (dk_u1 (h 0 _ rfl))).trans ((dk_bind (dk_map (dk_u2 (h 1 _ rfl) (h 2 _ rfl)))).trans rfl))
theorem dk_159 {code : ByteArray} {pc : Nat} (a b : UInt8) (h : DkAt code pc [159, a, b]) : decode code pc = .ok (.if_icmp .eq (Reader.signed 16 (a.toNat * 256 + b.toNat)), 3) := dk_of ((dk_bind (dk_u1 (h 0 _ rfl))).trans ((dk_bind (dk_map (dk_u2 (h 1 _ rfl) (h 2 _ rfl)))).trans rfl))
theorem dk_160 {code : ByteArray} {pc : Nat} (a b : UInt8) (h : DkAt code pc [160, a, b]) : decode code pc = .ok (.if_icmp .ne (Reader.signed 16 (a.toNat * 256 + b.toNat)), 3) := dk_of ((dk_bind (dk_u1 (h 0 _ rfl))).trans ((dk_bind (dk_map (dk_u2 (h 1 _ rfl) (h 2 _ rfl)))).trans rfl))
theorem dk_161 {code : ByteArray} {pc : Nat} (a b : UInt8) (h : DkAt code pc [161, a, b]) : decode code pc = .ok (.if_icmp .lt (Reader.signed 16 (a.toNat * 256 + b.toNat)), 3) := dk_of ((dk_bind (dk_u1 (h 0 _ rfl))).trans ((dk_bind (dk_map (dk_u2 (h 1 _ rfl) (h 2 _ rfl)))).trans rfl))
theorem dk_162 {code : ByteArray} {pc : Nat} (a b : UInt8) (h : DkAt code pc [162, a, b]) : decode code pc = .ok (.if_icmp .ge (Reader.signed 16 (a.toNat * 256 + b.toNat)), 3) := dk_of ((dk_bind (dk_u1 (h 0 _ rfl))).trans ((dk_bind (dk_map (dk_u2 (h 1 _ rfl) (h 2 _ rfl)))).trans rfl))
theorem dk_163 {code : ByteArray} {pc : Nat} (a b : UInt8) (h : DkAt code pc [163, a, b]) : decode code pc = .ok (.if_icmp .gt (Reader.signed 16 (a.toNat * 256 + b.toNat)), 3) := dk_of ((dk_bind (dk_u1 (h 0 _ rfl))).trans ((dk_bind (dk_map (dk_u2 (h 1 _ rfl) (h 2 _ rfl)))).trans rfl))
theorem dk_164 {code : ByteArray} {pc : Nat} (a b : UInt8) (h : DkAt code pc [164, a, b]) : decode code pc = .ok (.if_icmp .le (Reader.signed 16 (a.toNat * 256 + b.toNat)), 3) := dk_of ((dk_bind (dk_u1 (h 0 _ rfl))).trans ((dk_bind (dk_map (dk_u2 (h 1 _ rfl) (h 2 _ rfl)))).trans rfl))
theorem dk_166 {code : ByteArray} {pc : Nat} (a b : UInt8) (h : DkAt code pc [166, a, b]) : decode code pc = .ok (.if_acmp .ne (Reader.signed 16 (a.toNat * 256 + b.toNat)), 3) := dk_of ((dk_bind (dk_u1 (h 0 _ rfl))).trans ((dk_bind (dk_map (dk_u2 (h 1 _ rfl) (h 2 _ rfl)))).trans rfl))
theorem dk_167 {code : ByteArray} {pc : Nat} (a b : UInt8) (h : DkAt code pc [167, a, b]) : decode code pc = .ok (.goto (Reader.signed 16 (a.toNat * 256 + b.toNat)), 3) := dk_of ((dk_bind (dk_u1 (h 0 _ rfl))).trans ((dk_bind (dk_map (dk_u2 (h 1 _ rfl) (h 2 _ rfl)))).trans rfl))
theorem dk_172 {code : ByteArray} {pc : Nat} (h : DkAt code pc [172]) : decode code pc = .ok (.ireturn, 1) := dk_of ((dk_bind (dk_u1 (h 0 _ rfl))).trans rfl)
theorem dk_173 {code : ByteArray} {pc : Nat} (h : DkAt code pc [173]) : decode code pc = .ok (.lreturn, 1) := dk_of ((dk_bind (dk_u1 (h 0 _ rfl))).trans rfl)
theorem dk_176 {code : ByteArray} {pc : Nat} (h : DkAt code pc [176]) : decode code pc = .ok (.areturn, 1) := dk_of ((dk_bind (dk_u1 (h 0 _ rfl))).trans rfl)
theorem dk_177 {code : ByteArray} {pc : Nat} (h : DkAt code pc [177]) : decode code pc = .ok (.return_, 1) := dk_of ((dk_bind (dk_u1 (h 0 _ rfl))).trans rfl)
theorem dk_178 {code : ByteArray} {pc : Nat} (a b : UInt8) (h : DkAt code pc [178, a, b]) : decode code pc = .ok (.getstatic (a.toNat * 256 + b.toNat), 3) := dk_of ((dk_bind (dk_u1 (h 0 _ rfl))).trans ((dk_bind (dk_u2 (h 1 _ rfl) (h 2 _ rfl))).trans rfl))
theorem dk_180 {code : ByteArray} {pc : Nat} (a b : UInt8) (h : DkAt code pc [180, a, b]) : decode code pc = .ok (.getfield (a.toNat * 256 + b.toNat), 3) := dk_of ((dk_bind (dk_u1 (h 0 _ rfl))).trans ((dk_bind (dk_u2 (h 1 _ rfl) (h 2 _ rfl))).trans rfl))
theorem dk_181 {code : ByteArray} {pc : Nat} (a b : UInt8) (h : DkAt code pc [181, a, b]) : decode code pc = .ok (.putfield (a.toNat * 256 + b.toNat), 3) := dk_of ((dk_bind (dk_u1 (h 0 _ rfl))).trans ((dk_bind (dk_u2 (h 1 _ rfl) (h 2 _ rfl))).trans rfl))
theorem dk_182 {code : ByteArray} {pc : Nat} (a b : UInt8) (h : DkAt code pc [182, a, b]) : decode code pc = .ok (.invokevirtual (a.toNat * 256 + b.toNat), 3) := dk_of ((dk_bind (dk_u1 (h 0 _ rfl))).trans ((dk_bind (dk_u2 (h 1 _ rfl) (h 2 _ rfl))).trans rfl))
theorem dk_183 {code : ByteArray} {pc : Nat} (a b : UInt8) (h : DkAt code pc [183, a, b]) : decode code pc = .ok (.invokespecial (a.toNat * 256 + b.toNat), 3) := dk_of ((dk_bind (dk_u1 (h 0 _ rfl))).trans ((dk_bind (dk_u2 (h 1 _ rfl) (h 2 _ rfl))).trans rfl))
theorem dk_184 {code : ByteArray} {pc : Nat} (a b : UInt8) (h : DkAt code pc [184, a, b]) : decode code pc = .ok (.invokestatic (a.toNat * 256 + b.toNat), 3) := dk_of ((dk_bind (dk_u1 (h 0 _ rfl))).trans ((dk_bind (dk_u2 (h 1 _ rfl) (h 2 _ rfl))).trans rfl))
theorem dk_187 {code : ByteArray} {pc : Nat} (a b : UInt8) (h : DkAt code pc [187, a, b]) : decode code pc = .ok (.new (a.toNat * 256 + b.toNat), 3) := dk_of ((dk_bind (dk_u1 (h 0 _ rfl))).trans ((dk_bind (dk_u2 (h 1 _ rfl) (h 2 _ rfl))).trans rfl))
theorem dk_188_11 {code : ByteArray} {pc : Nat} (h : DkAt code pc [188, 11]) : decode code pc = .ok (.newarray .long, 2) := dk_of ((dk_bind (dk_u1 (h 0 _ rfl))).trans ((dk_bind (dk_u1 (h 1 _ rfl))).trans rfl))
theorem dk_189 {code : ByteArray} {pc : Nat} (a b : UInt8) (h : DkAt code pc [189, a, b]) : decode code pc = .ok (.anewarray (a.toNat * 256 + b.toNat), 3) := dk_of ((dk_bind (dk_u1 (h 0 _ rfl))).trans ((dk_bind (dk_u2 (h 1 _ rfl) (h 2 _ rfl))).trans rfl))
theorem dk_190 {code : ByteArray} {pc : Nat} (h : DkAt code pc [190]) : decode code pc = .ok (.arraylength, 1) := dk_of ((dk_bind (dk_u1 (h 0 _ rfl))).trans rfl)
theorem dk_191 {code : ByteArray} {pc : Nat} (h : DkAt code pc [191]) : decode code pc = .ok (.athrow, 1) := dk_of ((dk_bind (dk_u1 (h 0 _ rfl))).trans rfl)
theorem dk_192 {code : ByteArray} {pc : Nat} (a b : UInt8) (h : DkAt code pc [192, a, b]) : decode code pc = .ok (.checkcast (a.toNat * 256 + b.toNat), 3) := dk_of ((dk_bind (dk_u1 (h 0 _ rfl))).trans ((dk_bind (dk_u2 (h 1 _ rfl) (h 2 _ rfl))).trans rfl))
theorem dk_193 {code : ByteArray} {pc : Nat} (a b : UInt8) (h : DkAt code pc [193, a, b]) : decode code pc = .ok (.instanceof (a.toNat * 256 + b.toNat), 3) := dk_of ((dk_bind (dk_u1 (h 0 _ rfl))).trans ((dk_bind (dk_u2 (h 1 _ rfl) (h 2 _ rfl))).trans rfl))
/-! java/lang/Integer -/
set_option maxRecDepth 100000
def RJ5 : String := "java/lang/Integer"
abbrev cJ5_highestOneBit : ByteArray := prog_11_method_45_code
def yJ5_highestOneBit : MethodName := ⟨RJ5, "highestOneBit", "(I)I"⟩
def dkwJ5_highestOneBit_0 : List UInt8 := [26, 18, 127, 26, 184, 0, 51, 124, 126, 172]
abbrev dktJ5_highestOneBit_0 : List UInt8 := dkwJ5_highestOneBit_0 ++ []
theorem dksJ5_highestOneBit_0 : cJ5_highestOneBit.data.toList.drop 0 = dktJ5_highestOneBit_0 := by decide +kernel
theorem dJ5_highestOneBit_0 : decode cJ5_highestOneBit 0 = .ok (.iload_n 0, 1) := dk_26 (dk_at dksJ5_highestOneBit_0 0 rfl rfl)
theorem dJ5_highestOneBit_1 : decode cJ5_highestOneBit 1 = .ok (.ldc 127, 2) := dk_18 127 (dk_at dksJ5_highestOneBit_0 1 rfl rfl)
theorem dJ5_highestOneBit_3 : decode cJ5_highestOneBit 3 = .ok (.iload_n 0, 1) := dk_26 (dk_at dksJ5_highestOneBit_0 3 rfl rfl)
theorem dJ5_highestOneBit_4 : decode cJ5_highestOneBit 4 = .ok (.invokestatic 51, 3) := dk_184 0 51 (dk_at dksJ5_highestOneBit_0 4 rfl rfl)
theorem dJ5_highestOneBit_7 : decode cJ5_highestOneBit 7 = .ok (.iushr, 1) := dk_124 (dk_at dksJ5_highestOneBit_0 7 rfl rfl)
theorem dJ5_highestOneBit_8 : decode cJ5_highestOneBit 8 = .ok (.iand, 1) := dk_126 (dk_at dksJ5_highestOneBit_0 8 rfl rfl)
theorem dJ5_highestOneBit_9 : decode cJ5_highestOneBit 9 = .ok (.ireturn, 1) := dk_172 (dk_at dksJ5_highestOneBit_0 9 rfl rfl)
abbrev cJ5_numberOfLeadingZeros : ByteArray := prog_11_method_47_code
def yJ5_numberOfLeadingZeros : MethodName := ⟨RJ5, "numberOfLeadingZeros", "(I)I"⟩
def dkwJ5_numberOfLeadingZeros_3 : List UInt8 := [5, 124, 59, 27, 26, 4, 124, 100, 172]
abbrev dktJ5_numberOfLeadingZeros_3 : List UInt8 := dkwJ5_numberOfLeadingZeros_3 ++ []
def dkwJ5_numberOfLeadingZeros_2 : List UInt8 := [124, 59, 26, 16, 16, 161, 0, 10, 132, 1, 252, 26, 7, 124, 59, 26, 7, 161, 0, 10, 132, 1, 254, 26]
abbrev dktJ5_numberOfLeadingZeros_2 : List UInt8 := dkwJ5_numberOfLeadingZeros_2 ++ dktJ5_numberOfLeadingZeros_3
def dkwJ5_numberOfLeadingZeros_1 : List UInt8 := [161, 0, 11, 132, 1, 240, 26, 16, 16, 124, 59, 26, 17, 1, 0, 161, 0, 11, 132, 1, 248, 26, 16, 8]
abbrev dktJ5_numberOfLeadingZeros_1 : List UInt8 := dkwJ5_numberOfLeadingZeros_1 ++ dktJ5_numberOfLeadingZeros_2
def dkwJ5_numberOfLeadingZeros_0 : List UInt8 := [26, 157, 0, 14, 26, 154, 0, 8, 16, 32, 167, 0, 4, 3, 172, 16, 31, 60, 26, 19, 1, 8]
abbrev dktJ5_numberOfLeadingZeros_0 : List UInt8 := dkwJ5_numberOfLeadingZeros_0 ++ dktJ5_numberOfLeadingZeros_1
theorem dksJ5_numberOfLeadingZeros_0 : cJ5_numberOfLeadingZeros.data.toList.drop 0 = dktJ5_numberOfLeadingZeros_0 := by decide +kernel
theorem dksJ5_numberOfLeadingZeros_1 : cJ5_numberOfLeadingZeros.data.toList.drop 22 = dktJ5_numberOfLeadingZeros_1 := dk_seg dksJ5_numberOfLeadingZeros_0 22 rfl rfl
theorem dksJ5_numberOfLeadingZeros_2 : cJ5_numberOfLeadingZeros.data.toList.drop 46 = dktJ5_numberOfLeadingZeros_2 := dk_seg dksJ5_numberOfLeadingZeros_1 24 rfl rfl
theorem dksJ5_numberOfLeadingZeros_3 : cJ5_numberOfLeadingZeros.data.toList.drop 70 = dktJ5_numberOfLeadingZeros_3 := dk_seg dksJ5_numberOfLeadingZeros_2 24 rfl rfl
theorem dJ5_numberOfLeadingZeros_0 : decode cJ5_numberOfLeadingZeros 0 = .ok (.iload_n 0, 1) := dk_26 (dk_at dksJ5_numberOfLeadingZeros_0 0 rfl rfl)
theorem dJ5_numberOfLeadingZeros_1 : decode cJ5_numberOfLeadingZeros 1 = .ok (.ifCond .gt 14, 3) := dk_157 0 14 (dk_at dksJ5_numberOfLeadingZeros_0 1 rfl rfl)
theorem dJ5_numberOfLeadingZeros_4 : decode cJ5_numberOfLeadingZeros 4 = .ok (.iload_n 0, 1) := dk_26 (dk_at dksJ5_numberOfLeadingZeros_0 4 rfl rfl)
theorem dJ5_numberOfLeadingZeros_5 : decode cJ5_numberOfLeadingZeros 5 = .ok (.ifCond .ne 8, 3) := dk_154 0 8 (dk_at dksJ5_numberOfLeadingZeros_0 5 rfl rfl)
theorem dJ5_numberOfLeadingZeros_8 : decode cJ5_numberOfLeadingZeros 8 = .ok (.bipush 32, 2) := dk_16 32 (dk_at dksJ5_numberOfLeadingZeros_0 8 rfl rfl)
theorem dJ5_numberOfLeadingZeros_10 : decode cJ5_numberOfLeadingZeros 10 = .ok (.goto 4, 3) := dk_167 0 4 (dk_at dksJ5_numberOfLeadingZeros_0 10 rfl rfl)
theorem dJ5_numberOfLeadingZeros_13 : decode cJ5_numberOfLeadingZeros 13 = .ok (.iconst 0, 1) := dk_3 (dk_at dksJ5_numberOfLeadingZeros_0 13 rfl rfl)
theorem dJ5_numberOfLeadingZeros_14 : decode cJ5_numberOfLeadingZeros 14 = .ok (.ireturn, 1) := dk_172 (dk_at dksJ5_numberOfLeadingZeros_0 14 rfl rfl)
theorem dJ5_numberOfLeadingZeros_15 : decode cJ5_numberOfLeadingZeros 15 = .ok (.bipush 31, 2) := dk_16 31 (dk_at dksJ5_numberOfLeadingZeros_0 15 rfl rfl)
theorem dJ5_numberOfLeadingZeros_17 : decode cJ5_numberOfLeadingZeros 17 = .ok (.istore_n 1, 1) := dk_60 (dk_at dksJ5_numberOfLeadingZeros_0 17 rfl rfl)
theorem dJ5_numberOfLeadingZeros_18 : decode cJ5_numberOfLeadingZeros 18 = .ok (.iload_n 0, 1) := dk_26 (dk_at dksJ5_numberOfLeadingZeros_0 18 rfl rfl)
theorem dJ5_numberOfLeadingZeros_19 : decode cJ5_numberOfLeadingZeros 19 = .ok (.ldc_w 264, 3) := dk_19 1 8 (dk_at dksJ5_numberOfLeadingZeros_0 19 rfl rfl)
theorem dJ5_numberOfLeadingZeros_22 : decode cJ5_numberOfLeadingZeros 22 = .ok (.if_icmp .lt 11, 3) := dk_161 0 11 (dk_at dksJ5_numberOfLeadingZeros_1 0 rfl rfl)
theorem dJ5_numberOfLeadingZeros_25 : decode cJ5_numberOfLeadingZeros 25 = .ok (.iinc 1 (-16), 3) := dk_132 1 240 (dk_at dksJ5_numberOfLeadingZeros_1 3 rfl rfl)
theorem dJ5_numberOfLeadingZeros_28 : decode cJ5_numberOfLeadingZeros 28 = .ok (.iload_n 0, 1) := dk_26 (dk_at dksJ5_numberOfLeadingZeros_1 6 rfl rfl)
theorem dJ5_numberOfLeadingZeros_29 : decode cJ5_numberOfLeadingZeros 29 = .ok (.bipush 16, 2) := dk_16 16 (dk_at dksJ5_numberOfLeadingZeros_1 7 rfl rfl)
theorem dJ5_numberOfLeadingZeros_31 : decode cJ5_numberOfLeadingZeros 31 = .ok (.iushr, 1) := dk_124 (dk_at dksJ5_numberOfLeadingZeros_1 9 rfl rfl)
theorem dJ5_numberOfLeadingZeros_32 : decode cJ5_numberOfLeadingZeros 32 = .ok (.istore_n 0, 1) := dk_59 (dk_at dksJ5_numberOfLeadingZeros_1 10 rfl rfl)
theorem dJ5_numberOfLeadingZeros_33 : decode cJ5_numberOfLeadingZeros 33 = .ok (.iload_n 0, 1) := dk_26 (dk_at dksJ5_numberOfLeadingZeros_1 11 rfl rfl)
theorem dJ5_numberOfLeadingZeros_34 : decode cJ5_numberOfLeadingZeros 34 = .ok (.sipush 256, 3) := dk_17 1 0 (dk_at dksJ5_numberOfLeadingZeros_1 12 rfl rfl)
theorem dJ5_numberOfLeadingZeros_37 : decode cJ5_numberOfLeadingZeros 37 = .ok (.if_icmp .lt 11, 3) := dk_161 0 11 (dk_at dksJ5_numberOfLeadingZeros_1 15 rfl rfl)
theorem dJ5_numberOfLeadingZeros_40 : decode cJ5_numberOfLeadingZeros 40 = .ok (.iinc 1 (-8), 3) := dk_132 1 248 (dk_at dksJ5_numberOfLeadingZeros_1 18 rfl rfl)
theorem dJ5_numberOfLeadingZeros_43 : decode cJ5_numberOfLeadingZeros 43 = .ok (.iload_n 0, 1) := dk_26 (dk_at dksJ5_numberOfLeadingZeros_1 21 rfl rfl)
theorem dJ5_numberOfLeadingZeros_44 : decode cJ5_numberOfLeadingZeros 44 = .ok (.bipush 8, 2) := dk_16 8 (dk_at dksJ5_numberOfLeadingZeros_1 22 rfl rfl)
theorem dJ5_numberOfLeadingZeros_46 : decode cJ5_numberOfLeadingZeros 46 = .ok (.iushr, 1) := dk_124 (dk_at dksJ5_numberOfLeadingZeros_2 0 rfl rfl)
theorem dJ5_numberOfLeadingZeros_47 : decode cJ5_numberOfLeadingZeros 47 = .ok (.istore_n 0, 1) := dk_59 (dk_at dksJ5_numberOfLeadingZeros_2 1 rfl rfl)
theorem dJ5_numberOfLeadingZeros_48 : decode cJ5_numberOfLeadingZeros 48 = .ok (.iload_n 0, 1) := dk_26 (dk_at dksJ5_numberOfLeadingZeros_2 2 rfl rfl)
theorem dJ5_numberOfLeadingZeros_49 : decode cJ5_numberOfLeadingZeros 49 = .ok (.bipush 16, 2) := dk_16 16 (dk_at dksJ5_numberOfLeadingZeros_2 3 rfl rfl)
theorem dJ5_numberOfLeadingZeros_51 : decode cJ5_numberOfLeadingZeros 51 = .ok (.if_icmp .lt 10, 3) := dk_161 0 10 (dk_at dksJ5_numberOfLeadingZeros_2 5 rfl rfl)
theorem dJ5_numberOfLeadingZeros_54 : decode cJ5_numberOfLeadingZeros 54 = .ok (.iinc 1 (-4), 3) := dk_132 1 252 (dk_at dksJ5_numberOfLeadingZeros_2 8 rfl rfl)
theorem dJ5_numberOfLeadingZeros_57 : decode cJ5_numberOfLeadingZeros 57 = .ok (.iload_n 0, 1) := dk_26 (dk_at dksJ5_numberOfLeadingZeros_2 11 rfl rfl)
theorem dJ5_numberOfLeadingZeros_58 : decode cJ5_numberOfLeadingZeros 58 = .ok (.iconst 4, 1) := dk_7 (dk_at dksJ5_numberOfLeadingZeros_2 12 rfl rfl)
theorem dJ5_numberOfLeadingZeros_59 : decode cJ5_numberOfLeadingZeros 59 = .ok (.iushr, 1) := dk_124 (dk_at dksJ5_numberOfLeadingZeros_2 13 rfl rfl)
theorem dJ5_numberOfLeadingZeros_60 : decode cJ5_numberOfLeadingZeros 60 = .ok (.istore_n 0, 1) := dk_59 (dk_at dksJ5_numberOfLeadingZeros_2 14 rfl rfl)
theorem dJ5_numberOfLeadingZeros_61 : decode cJ5_numberOfLeadingZeros 61 = .ok (.iload_n 0, 1) := dk_26 (dk_at dksJ5_numberOfLeadingZeros_2 15 rfl rfl)
theorem dJ5_numberOfLeadingZeros_62 : decode cJ5_numberOfLeadingZeros 62 = .ok (.iconst 4, 1) := dk_7 (dk_at dksJ5_numberOfLeadingZeros_2 16 rfl rfl)
theorem dJ5_numberOfLeadingZeros_63 : decode cJ5_numberOfLeadingZeros 63 = .ok (.if_icmp .lt 10, 3) := dk_161 0 10 (dk_at dksJ5_numberOfLeadingZeros_2 17 rfl rfl)
theorem dJ5_numberOfLeadingZeros_66 : decode cJ5_numberOfLeadingZeros 66 = .ok (.iinc 1 (-2), 3) := dk_132 1 254 (dk_at dksJ5_numberOfLeadingZeros_2 20 rfl rfl)
theorem dJ5_numberOfLeadingZeros_69 : decode cJ5_numberOfLeadingZeros 69 = .ok (.iload_n 0, 1) := dk_26 (dk_at dksJ5_numberOfLeadingZeros_2 23 rfl rfl)
theorem dJ5_numberOfLeadingZeros_70 : decode cJ5_numberOfLeadingZeros 70 = .ok (.iconst 2, 1) := dk_5 (dk_at dksJ5_numberOfLeadingZeros_3 0 rfl rfl)
theorem dJ5_numberOfLeadingZeros_71 : decode cJ5_numberOfLeadingZeros 71 = .ok (.iushr, 1) := dk_124 (dk_at dksJ5_numberOfLeadingZeros_3 1 rfl rfl)
theorem dJ5_numberOfLeadingZeros_72 : decode cJ5_numberOfLeadingZeros 72 = .ok (.istore_n 0, 1) := dk_59 (dk_at dksJ5_numberOfLeadingZeros_3 2 rfl rfl)
theorem dJ5_numberOfLeadingZeros_73 : decode cJ5_numberOfLeadingZeros 73 = .ok (.iload_n 1, 1) := dk_27 (dk_at dksJ5_numberOfLeadingZeros_3 3 rfl rfl)
theorem dJ5_numberOfLeadingZeros_74 : decode cJ5_numberOfLeadingZeros 74 = .ok (.iload_n 0, 1) := dk_26 (dk_at dksJ5_numberOfLeadingZeros_3 4 rfl rfl)
theorem dJ5_numberOfLeadingZeros_75 : decode cJ5_numberOfLeadingZeros 75 = .ok (.iconst 1, 1) := dk_4 (dk_at dksJ5_numberOfLeadingZeros_3 5 rfl rfl)
theorem dJ5_numberOfLeadingZeros_76 : decode cJ5_numberOfLeadingZeros 76 = .ok (.iushr, 1) := dk_124 (dk_at dksJ5_numberOfLeadingZeros_3 6 rfl rfl)
theorem dJ5_numberOfLeadingZeros_77 : decode cJ5_numberOfLeadingZeros 77 = .ok (.isub, 1) := dk_100 (dk_at dksJ5_numberOfLeadingZeros_3 7 rfl rfl)
theorem dJ5_numberOfLeadingZeros_78 : decode cJ5_numberOfLeadingZeros 78 = .ok (.ireturn, 1) := dk_172 (dk_at dksJ5_numberOfLeadingZeros_3 8 rfl rfl)
theorem q14 : (Jvm.Cond.initialized "java/lang/Integer") ∈ lw_all := lw_g (lw_at lw_m1 11 rfl) rfl
theorem q190 : (Jvm.Cond.static ({ cls := "java/lang/Integer", name := "highestOneBit", desc := "(I)I" } : Jvm.MethodName)) ∈ lw_all := lw_g (lw_at lw_m1 187 rfl) rfl
theorem q191 : (Jvm.Cond.code ({ cls := "java/lang/Integer", name := "highestOneBit", desc := "(I)I" } : Jvm.MethodName) prog_11_method_45_code (1 : Nat) (Option.some Jvm.ClassFile.FieldType.int)) ∈ lw_all := lw_g (lw_at lw_m1 188 rfl) rfl
theorem q192 : (Jvm.Cond.constant "java/lang/Integer" (127 : Nat) (-2147483648 : Int32)) ∈ lw_all := lw_g (lw_at lw_m1 189 rfl) rfl
theorem q193 : (Jvm.Cond.methodLink "java/lang/Integer" (51 : Nat) ({ cls := "java/lang/Integer", name := "numberOfLeadingZeros", desc := "(I)I" } : Jvm.MethodName)) ∈ lw_all := lw_g (lw_at lw_m1 190 rfl) rfl
theorem q194 : (Jvm.Cond.static ({ cls := "java/lang/Integer", name := "numberOfLeadingZeros", desc := "(I)I" } : Jvm.MethodName)) ∈ lw_all := lw_g (lw_at lw_m1 191 rfl) rfl
theorem q195 : (Jvm.Cond.code ({ cls := "java/lang/Integer", name := "numberOfLeadingZeros", desc := "(I)I" } : Jvm.MethodName) prog_11_method_47_code (2 : Nat) (Option.some Jvm.ClassFile.FieldType.int)) ∈ lw_all := lw_g (lw_at lw_m1 192 rfl) rfl
theorem q196 : (Jvm.Cond.constant "java/lang/Integer" (264 : Nat) (65536 : Int32)) ∈ lw_all := lw_g (lw_at lw_m1 193 rfl) rfl
/-! java/util/Arrays -/
set_option maxRecDepth 100000
def RJ6 : String := "java/util/Arrays"
abbrev cJ6_copyOf : ByteArray := prog_19_method_124_code
def yJ6_copyOf : MethodName := ⟨RJ6, "copyOf", "([JI)[J"⟩
def dkwJ6_copyOf_1 : List UInt8 := [27, 184, 1, 48, 184, 0, 150, 44, 176]
abbrev dktJ6_copyOf_1 : List UInt8 := dkwJ6_copyOf_1 ++ []
def dkwJ6_copyOf_0 : List UInt8 := [27, 42, 190, 160, 0, 11, 42, 182, 1, 63, 192, 1, 64, 176, 27, 188, 11, 77, 42, 3, 44, 3, 42, 190]
abbrev dktJ6_copyOf_0 : List UInt8 := dkwJ6_copyOf_0 ++ dktJ6_copyOf_1
theorem dksJ6_copyOf_0 : cJ6_copyOf.data.toList.drop 0 = dktJ6_copyOf_0 := by decide +kernel
theorem dksJ6_copyOf_1 : cJ6_copyOf.data.toList.drop 24 = dktJ6_copyOf_1 := dk_seg dksJ6_copyOf_0 24 rfl rfl
theorem dJ6_copyOf_0 : decode cJ6_copyOf 0 = .ok (.iload_n 1, 1) := dk_27 (dk_at dksJ6_copyOf_0 0 rfl rfl)
theorem dJ6_copyOf_1 : decode cJ6_copyOf 1 = .ok (.aload_n 0, 1) := dk_42 (dk_at dksJ6_copyOf_0 1 rfl rfl)
theorem dJ6_copyOf_2 : decode cJ6_copyOf 2 = .ok (.arraylength, 1) := dk_190 (dk_at dksJ6_copyOf_0 2 rfl rfl)
theorem dJ6_copyOf_3 : decode cJ6_copyOf 3 = .ok (.if_icmp .ne 11, 3) := dk_160 0 11 (dk_at dksJ6_copyOf_0 3 rfl rfl)
theorem dJ6_copyOf_6 : decode cJ6_copyOf 6 = .ok (.aload_n 0, 1) := dk_42 (dk_at dksJ6_copyOf_0 6 rfl rfl)
theorem dJ6_copyOf_7 : decode cJ6_copyOf 7 = .ok (.invokevirtual 319, 3) := dk_182 1 63 (dk_at dksJ6_copyOf_0 7 rfl rfl)
theorem dJ6_copyOf_10 : decode cJ6_copyOf 10 = .ok (.checkcast 320, 3) := dk_192 1 64 (dk_at dksJ6_copyOf_0 10 rfl rfl)
theorem dJ6_copyOf_13 : decode cJ6_copyOf 13 = .ok (.areturn, 1) := dk_176 (dk_at dksJ6_copyOf_0 13 rfl rfl)
theorem dJ6_copyOf_14 : decode cJ6_copyOf 14 = .ok (.iload_n 1, 1) := dk_27 (dk_at dksJ6_copyOf_0 14 rfl rfl)
theorem dJ6_copyOf_15 : decode cJ6_copyOf 15 = .ok (.newarray .long, 2) := dk_188_11 (dk_at dksJ6_copyOf_0 15 rfl rfl)
theorem dJ6_copyOf_17 : decode cJ6_copyOf 17 = .ok (.astore_n 2, 1) := dk_77 (dk_at dksJ6_copyOf_0 17 rfl rfl)
theorem dJ6_copyOf_18 : decode cJ6_copyOf 18 = .ok (.aload_n 0, 1) := dk_42 (dk_at dksJ6_copyOf_0 18 rfl rfl)
theorem dJ6_copyOf_19 : decode cJ6_copyOf 19 = .ok (.iconst 0, 1) := dk_3 (dk_at dksJ6_copyOf_0 19 rfl rfl)
theorem dJ6_copyOf_20 : decode cJ6_copyOf 20 = .ok (.aload_n 2, 1) := dk_44 (dk_at dksJ6_copyOf_0 20 rfl rfl)
theorem dJ6_copyOf_21 : decode cJ6_copyOf 21 = .ok (.iconst 0, 1) := dk_3 (dk_at dksJ6_copyOf_0 21 rfl rfl)
theorem dJ6_copyOf_22 : decode cJ6_copyOf 22 = .ok (.aload_n 0, 1) := dk_42 (dk_at dksJ6_copyOf_0 22 rfl rfl)
theorem dJ6_copyOf_23 : decode cJ6_copyOf 23 = .ok (.arraylength, 1) := dk_190 (dk_at dksJ6_copyOf_0 23 rfl rfl)
theorem dJ6_copyOf_24 : decode cJ6_copyOf 24 = .ok (.iload_n 1, 1) := dk_27 (dk_at dksJ6_copyOf_1 0 rfl rfl)
theorem dJ6_copyOf_25 : decode cJ6_copyOf 25 = .ok (.invokestatic 304, 3) := dk_184 1 48 (dk_at dksJ6_copyOf_1 1 rfl rfl)
theorem dJ6_copyOf_28 : decode cJ6_copyOf 28 = .ok (.invokestatic 150, 3) := dk_184 0 150 (dk_at dksJ6_copyOf_1 4 rfl rfl)
theorem dJ6_copyOf_31 : decode cJ6_copyOf 31 = .ok (.aload_n 2, 1) := dk_44 (dk_at dksJ6_copyOf_1 7 rfl rfl)
theorem dJ6_copyOf_32 : decode cJ6_copyOf 32 = .ok (.areturn, 1) := dk_176 (dk_at dksJ6_copyOf_1 8 rfl rfl)
abbrev cJ6_copyOfRange : ByteArray := prog_19_method_138_code
def yJ6_copyOfRange : MethodName := ⟨RJ6, "copyOfRange", "([JII)[J"⟩
def dkwJ6_copyOfRange_1 : List UInt8 := [176]
abbrev dktJ6_copyOfRange_1 : List UInt8 := dkwJ6_copyOfRange_1 ++ []
def dkwJ6_copyOfRange_0 : List UInt8 := [27, 154, 0, 9, 28, 42, 190, 159, 0, 10, 42, 27, 28, 184, 1, 99, 176, 42, 182, 1, 63, 192, 1, 64]
abbrev dktJ6_copyOfRange_0 : List UInt8 := dkwJ6_copyOfRange_0 ++ dktJ6_copyOfRange_1
theorem dksJ6_copyOfRange_0 : cJ6_copyOfRange.data.toList.drop 0 = dktJ6_copyOfRange_0 := by decide +kernel
theorem dksJ6_copyOfRange_1 : cJ6_copyOfRange.data.toList.drop 24 = dktJ6_copyOfRange_1 := dk_seg dksJ6_copyOfRange_0 24 rfl rfl
theorem dJ6_copyOfRange_0 : decode cJ6_copyOfRange 0 = .ok (.iload_n 1, 1) := dk_27 (dk_at dksJ6_copyOfRange_0 0 rfl rfl)
theorem dJ6_copyOfRange_1 : decode cJ6_copyOfRange 1 = .ok (.ifCond .ne 9, 3) := dk_154 0 9 (dk_at dksJ6_copyOfRange_0 1 rfl rfl)
theorem dJ6_copyOfRange_4 : decode cJ6_copyOfRange 4 = .ok (.iload_n 2, 1) := dk_28 (dk_at dksJ6_copyOfRange_0 4 rfl rfl)
theorem dJ6_copyOfRange_5 : decode cJ6_copyOfRange 5 = .ok (.aload_n 0, 1) := dk_42 (dk_at dksJ6_copyOfRange_0 5 rfl rfl)
theorem dJ6_copyOfRange_6 : decode cJ6_copyOfRange 6 = .ok (.arraylength, 1) := dk_190 (dk_at dksJ6_copyOfRange_0 6 rfl rfl)
theorem dJ6_copyOfRange_7 : decode cJ6_copyOfRange 7 = .ok (.if_icmp .eq 10, 3) := dk_159 0 10 (dk_at dksJ6_copyOfRange_0 7 rfl rfl)
theorem dJ6_copyOfRange_10 : decode cJ6_copyOfRange 10 = .ok (.aload_n 0, 1) := dk_42 (dk_at dksJ6_copyOfRange_0 10 rfl rfl)
theorem dJ6_copyOfRange_11 : decode cJ6_copyOfRange 11 = .ok (.iload_n 1, 1) := dk_27 (dk_at dksJ6_copyOfRange_0 11 rfl rfl)
theorem dJ6_copyOfRange_12 : decode cJ6_copyOfRange 12 = .ok (.iload_n 2, 1) := dk_28 (dk_at dksJ6_copyOfRange_0 12 rfl rfl)
theorem dJ6_copyOfRange_13 : decode cJ6_copyOfRange 13 = .ok (.invokestatic 355, 3) := dk_184 1 99 (dk_at dksJ6_copyOfRange_0 13 rfl rfl)
theorem dJ6_copyOfRange_16 : decode cJ6_copyOfRange 16 = .ok (.areturn, 1) := dk_176 (dk_at dksJ6_copyOfRange_0 16 rfl rfl)
theorem dJ6_copyOfRange_17 : decode cJ6_copyOfRange 17 = .ok (.aload_n 0, 1) := dk_42 (dk_at dksJ6_copyOfRange_0 17 rfl rfl)
theorem dJ6_copyOfRange_18 : decode cJ6_copyOfRange 18 = .ok (.invokevirtual 319, 3) := dk_182 1 63 (dk_at dksJ6_copyOfRange_0 18 rfl rfl)
theorem dJ6_copyOfRange_21 : decode cJ6_copyOfRange 21 = .ok (.checkcast 320, 3) := dk_192 1 64 (dk_at dksJ6_copyOfRange_0 21 rfl rfl)
theorem dJ6_copyOfRange_24 : decode cJ6_copyOfRange 24 = .ok (.areturn, 1) := dk_176 (dk_at dksJ6_copyOfRange_1 0 rfl rfl)
abbrev cJ6_copyOfRangeLong : ByteArray := prog_19_method_139_code
def yJ6_copyOfRangeLong : MethodName := ⟨RJ6, "copyOfRangeLong", "([JII)[J"⟩
def dkwJ6_copyOfRangeLong_1 : List UInt8 := [184, 1, 48, 184, 0, 150, 25, 4, 176]
abbrev dktJ6_copyOfRangeLong_1 : List UInt8 := dkwJ6_copyOfRangeLong_1 ++ []
def dkwJ6_copyOfRangeLong_0 : List UInt8 := [27, 28, 184, 1, 87, 28, 27, 100, 62, 29, 188, 11, 58, 4, 42, 27, 25, 4, 3, 42, 190, 27, 100, 29]
abbrev dktJ6_copyOfRangeLong_0 : List UInt8 := dkwJ6_copyOfRangeLong_0 ++ dktJ6_copyOfRangeLong_1
theorem dksJ6_copyOfRangeLong_0 : cJ6_copyOfRangeLong.data.toList.drop 0 = dktJ6_copyOfRangeLong_0 := by decide +kernel
theorem dksJ6_copyOfRangeLong_1 : cJ6_copyOfRangeLong.data.toList.drop 24 = dktJ6_copyOfRangeLong_1 := dk_seg dksJ6_copyOfRangeLong_0 24 rfl rfl
theorem dJ6_copyOfRangeLong_0 : decode cJ6_copyOfRangeLong 0 = .ok (.iload_n 1, 1) := dk_27 (dk_at dksJ6_copyOfRangeLong_0 0 rfl rfl)
theorem dJ6_copyOfRangeLong_1 : decode cJ6_copyOfRangeLong 1 = .ok (.iload_n 2, 1) := dk_28 (dk_at dksJ6_copyOfRangeLong_0 1 rfl rfl)
theorem dJ6_copyOfRangeLong_2 : decode cJ6_copyOfRangeLong 2 = .ok (.invokestatic 343, 3) := dk_184 1 87 (dk_at dksJ6_copyOfRangeLong_0 2 rfl rfl)
theorem dJ6_copyOfRangeLong_5 : decode cJ6_copyOfRangeLong 5 = .ok (.iload_n 2, 1) := dk_28 (dk_at dksJ6_copyOfRangeLong_0 5 rfl rfl)
theorem dJ6_copyOfRangeLong_6 : decode cJ6_copyOfRangeLong 6 = .ok (.iload_n 1, 1) := dk_27 (dk_at dksJ6_copyOfRangeLong_0 6 rfl rfl)
theorem dJ6_copyOfRangeLong_7 : decode cJ6_copyOfRangeLong 7 = .ok (.isub, 1) := dk_100 (dk_at dksJ6_copyOfRangeLong_0 7 rfl rfl)
theorem dJ6_copyOfRangeLong_8 : decode cJ6_copyOfRangeLong 8 = .ok (.istore_n 3, 1) := dk_62 (dk_at dksJ6_copyOfRangeLong_0 8 rfl rfl)
theorem dJ6_copyOfRangeLong_9 : decode cJ6_copyOfRangeLong 9 = .ok (.iload_n 3, 1) := dk_29 (dk_at dksJ6_copyOfRangeLong_0 9 rfl rfl)
theorem dJ6_copyOfRangeLong_10 : decode cJ6_copyOfRangeLong 10 = .ok (.newarray .long, 2) := dk_188_11 (dk_at dksJ6_copyOfRangeLong_0 10 rfl rfl)
theorem dJ6_copyOfRangeLong_12 : decode cJ6_copyOfRangeLong 12 = .ok (.astore 4, 2) := dk_58 4 (dk_at dksJ6_copyOfRangeLong_0 12 rfl rfl)
theorem dJ6_copyOfRangeLong_14 : decode cJ6_copyOfRangeLong 14 = .ok (.aload_n 0, 1) := dk_42 (dk_at dksJ6_copyOfRangeLong_0 14 rfl rfl)
theorem dJ6_copyOfRangeLong_15 : decode cJ6_copyOfRangeLong 15 = .ok (.iload_n 1, 1) := dk_27 (dk_at dksJ6_copyOfRangeLong_0 15 rfl rfl)
theorem dJ6_copyOfRangeLong_16 : decode cJ6_copyOfRangeLong 16 = .ok (.aload 4, 2) := dk_25 4 (dk_at dksJ6_copyOfRangeLong_0 16 rfl rfl)
theorem dJ6_copyOfRangeLong_18 : decode cJ6_copyOfRangeLong 18 = .ok (.iconst 0, 1) := dk_3 (dk_at dksJ6_copyOfRangeLong_0 18 rfl rfl)
theorem dJ6_copyOfRangeLong_19 : decode cJ6_copyOfRangeLong 19 = .ok (.aload_n 0, 1) := dk_42 (dk_at dksJ6_copyOfRangeLong_0 19 rfl rfl)
theorem dJ6_copyOfRangeLong_20 : decode cJ6_copyOfRangeLong 20 = .ok (.arraylength, 1) := dk_190 (dk_at dksJ6_copyOfRangeLong_0 20 rfl rfl)
theorem dJ6_copyOfRangeLong_21 : decode cJ6_copyOfRangeLong 21 = .ok (.iload_n 1, 1) := dk_27 (dk_at dksJ6_copyOfRangeLong_0 21 rfl rfl)
theorem dJ6_copyOfRangeLong_22 : decode cJ6_copyOfRangeLong 22 = .ok (.isub, 1) := dk_100 (dk_at dksJ6_copyOfRangeLong_0 22 rfl rfl)
theorem dJ6_copyOfRangeLong_23 : decode cJ6_copyOfRangeLong 23 = .ok (.iload_n 3, 1) := dk_29 (dk_at dksJ6_copyOfRangeLong_0 23 rfl rfl)
theorem dJ6_copyOfRangeLong_24 : decode cJ6_copyOfRangeLong 24 = .ok (.invokestatic 304, 3) := dk_184 1 48 (dk_at dksJ6_copyOfRangeLong_1 0 rfl rfl)
theorem dJ6_copyOfRangeLong_27 : decode cJ6_copyOfRangeLong 27 = .ok (.invokestatic 150, 3) := dk_184 0 150 (dk_at dksJ6_copyOfRangeLong_1 3 rfl rfl)
theorem dJ6_copyOfRangeLong_30 : decode cJ6_copyOfRangeLong 30 = .ok (.aload 4, 2) := dk_25 4 (dk_at dksJ6_copyOfRangeLong_1 6 rfl rfl)
theorem dJ6_copyOfRangeLong_32 : decode cJ6_copyOfRangeLong 32 = .ok (.areturn, 1) := dk_176 (dk_at dksJ6_copyOfRangeLong_1 8 rfl rfl)
abbrev cJ6_checkLength : ByteArray := prog_19_method_131_code
def yJ6_checkLength : MethodName := ⟨RJ6, "checkLength", "(II)V"⟩
def dkwJ6_checkLength_1 : List UInt8 := [182, 0, 50, 27, 182, 0, 54, 182, 0, 61, 183, 0, 65, 191, 177]
abbrev dktJ6_checkLength_1 : List UInt8 := dkwJ6_checkLength_1 ++ []
def dkwJ6_checkLength_0 : List UInt8 := [27, 26, 162, 0, 35, 187, 0, 43, 89, 187, 0, 45, 89, 183, 0, 47, 26, 182, 0, 54, 19, 1, 81]
abbrev dktJ6_checkLength_0 : List UInt8 := dkwJ6_checkLength_0 ++ dktJ6_checkLength_1
theorem dksJ6_checkLength_0 : cJ6_checkLength.data.toList.drop 0 = dktJ6_checkLength_0 := by decide +kernel
theorem dksJ6_checkLength_1 : cJ6_checkLength.data.toList.drop 23 = dktJ6_checkLength_1 := dk_seg dksJ6_checkLength_0 23 rfl rfl
theorem dJ6_checkLength_0 : decode cJ6_checkLength 0 = .ok (.iload_n 1, 1) := dk_27 (dk_at dksJ6_checkLength_0 0 rfl rfl)
theorem dJ6_checkLength_1 : decode cJ6_checkLength 1 = .ok (.iload_n 0, 1) := dk_26 (dk_at dksJ6_checkLength_0 1 rfl rfl)
theorem dJ6_checkLength_2 : decode cJ6_checkLength 2 = .ok (.if_icmp .ge 35, 3) := dk_162 0 35 (dk_at dksJ6_checkLength_0 2 rfl rfl)
theorem dJ6_checkLength_5 : decode cJ6_checkLength 5 = .ok (.new 43, 3) := dk_187 0 43 (dk_at dksJ6_checkLength_0 5 rfl rfl)
theorem dJ6_checkLength_8 : decode cJ6_checkLength 8 = .ok (.dup, 1) := dk_89 (dk_at dksJ6_checkLength_0 8 rfl rfl)
theorem dJ6_checkLength_9 : decode cJ6_checkLength 9 = .ok (.new 45, 3) := dk_187 0 45 (dk_at dksJ6_checkLength_0 9 rfl rfl)
theorem dJ6_checkLength_12 : decode cJ6_checkLength 12 = .ok (.dup, 1) := dk_89 (dk_at dksJ6_checkLength_0 12 rfl rfl)
theorem dJ6_checkLength_13 : decode cJ6_checkLength 13 = .ok (.invokespecial 47, 3) := dk_183 0 47 (dk_at dksJ6_checkLength_0 13 rfl rfl)
theorem dJ6_checkLength_16 : decode cJ6_checkLength 16 = .ok (.iload_n 0, 1) := dk_26 (dk_at dksJ6_checkLength_0 16 rfl rfl)
theorem dJ6_checkLength_17 : decode cJ6_checkLength 17 = .ok (.invokevirtual 54, 3) := dk_182 0 54 (dk_at dksJ6_checkLength_0 17 rfl rfl)
theorem dJ6_checkLength_20 : decode cJ6_checkLength 20 = .ok (.ldc_w 337, 3) := dk_19 1 81 (dk_at dksJ6_checkLength_0 20 rfl rfl)
theorem dJ6_checkLength_23 : decode cJ6_checkLength 23 = .ok (.invokevirtual 50, 3) := dk_182 0 50 (dk_at dksJ6_checkLength_1 0 rfl rfl)
theorem dJ6_checkLength_26 : decode cJ6_checkLength 26 = .ok (.iload_n 1, 1) := dk_27 (dk_at dksJ6_checkLength_1 3 rfl rfl)
theorem dJ6_checkLength_27 : decode cJ6_checkLength 27 = .ok (.invokevirtual 54, 3) := dk_182 0 54 (dk_at dksJ6_checkLength_1 4 rfl rfl)
theorem dJ6_checkLength_30 : decode cJ6_checkLength 30 = .ok (.invokevirtual 61, 3) := dk_182 0 61 (dk_at dksJ6_checkLength_1 7 rfl rfl)
theorem dJ6_checkLength_33 : decode cJ6_checkLength 33 = .ok (.invokespecial 65, 3) := dk_183 0 65 (dk_at dksJ6_checkLength_1 10 rfl rfl)
theorem dJ6_checkLength_36 : decode cJ6_checkLength 36 = .ok (.athrow, 1) := dk_191 (dk_at dksJ6_checkLength_1 13 rfl rfl)
theorem dJ6_checkLength_37 : decode cJ6_checkLength 37 = .ok (.return_, 1) := dk_177 (dk_at dksJ6_checkLength_1 14 rfl rfl)
theorem q15 : (Jvm.Cond.initialized "java/util/Arrays") ∈ lw_all := lw_g (lw_at lw_m1 12 rfl) rfl
theorem q199 : (Jvm.Cond.static ({ cls := "java/util/Arrays", name := "copyOf", desc := "([JI)[J" } : Jvm.MethodName)) ∈ lw_all := lw_g (lw_at lw_m1 196 rfl) rfl
theorem q200 : (Jvm.Cond.code ({ cls := "java/util/Arrays", name := "copyOf", desc := "([JI)[J" } : Jvm.MethodName) prog_19_method_124_code (3 : Nat) (Option.some (Jvm.ClassFile.FieldType.array Jvm.ClassFile.FieldType.long))) ∈ lw_all := lw_g (lw_at lw_m1 197 rfl) rfl
theorem q201 : (Jvm.Cond.methodLink "java/util/Arrays" (319 : Nat) ({ cls := "[J", name := "clone", desc := "()Ljava/lang/Object;" } : Jvm.MethodName)) ∈ lw_all := lw_g (lw_at lw_m1 198 rfl) rfl
theorem q207 : (Jvm.Cond.classLink "java/util/Arrays" (320 : Nat) "[J") ∈ lw_all := lw_g (lw_at lw_m1 204 rfl) rfl
theorem q208 : (Jvm.Cond.methodLink "java/util/Arrays" (304 : Nat) ({ cls := "java/lang/Math", name := "min", desc := "(II)I" } : Jvm.MethodName)) ∈ lw_all := lw_g (lw_at lw_m1 205 rfl) rfl
theorem q211 : (Jvm.Cond.methodLink "java/util/Arrays" (150 : Nat) ({ cls := "java/lang/System", name := "arraycopy", desc := "(Ljava/lang/Object;ILjava/lang/Object;II)V" } : Jvm.MethodName)) ∈ lw_all := lw_g (lw_at lw_m1 208 rfl) rfl
theorem q330 : (Jvm.Cond.static ({ cls := "java/util/Arrays", name := "copyOfRange", desc := "([JII)[J" } : Jvm.MethodName)) ∈ lw_all := lw_g (lw_at lw_m2 87 rfl) rfl
theorem q331 : (Jvm.Cond.code ({ cls := "java/util/Arrays", name := "copyOfRange", desc := "([JII)[J" } : Jvm.MethodName) prog_19_method_138_code (3 : Nat) (Option.some (Jvm.ClassFile.FieldType.array Jvm.ClassFile.FieldType.long))) ∈ lw_all := lw_g (lw_at lw_m2 88 rfl) rfl
theorem q332 : (Jvm.Cond.methodLink "java/util/Arrays" (355 : Nat) ({ cls := "java/util/Arrays", name := "copyOfRangeLong", desc := "([JII)[J" } : Jvm.MethodName)) ∈ lw_all := lw_g (lw_at lw_m2 89 rfl) rfl
theorem q333 : (Jvm.Cond.static ({ cls := "java/util/Arrays", name := "copyOfRangeLong", desc := "([JII)[J" } : Jvm.MethodName)) ∈ lw_all := lw_g (lw_at lw_m2 90 rfl) rfl
theorem q334 : (Jvm.Cond.code ({ cls := "java/util/Arrays", name := "copyOfRangeLong", desc := "([JII)[J" } : Jvm.MethodName) prog_19_method_139_code (5 : Nat) (Option.some (Jvm.ClassFile.FieldType.array Jvm.ClassFile.FieldType.long))) ∈ lw_all := lw_g (lw_at lw_m2 91 rfl) rfl
theorem q335 : (Jvm.Cond.methodLink "java/util/Arrays" (343 : Nat) ({ cls := "java/util/Arrays", name := "checkLength", desc := "(II)V" } : Jvm.MethodName)) ∈ lw_all := lw_g (lw_at lw_m2 92 rfl) rfl
theorem q336 : (Jvm.Cond.static ({ cls := "java/util/Arrays", name := "checkLength", desc := "(II)V" } : Jvm.MethodName)) ∈ lw_all := lw_g (lw_at lw_m2 93 rfl) rfl
theorem q337 : (Jvm.Cond.code ({ cls := "java/util/Arrays", name := "checkLength", desc := "(II)V" } : Jvm.MethodName) prog_19_method_131_code (2 : Nat) (Option.none : Option Jvm.ClassFile.FieldType)) ∈ lw_all := lw_g (lw_at lw_m2 94 rfl) rfl
/-! java/lang/Math -/
set_option maxRecDepth 100000
def RJ7 : String := "java/lang/Math"
abbrev cJ7_min : ByteArray := prog_13_method_69_code
def yJ7_min : MethodName := ⟨RJ7, "min", "(II)I"⟩
def dkwJ7_min_0 : List UInt8 := [26, 27, 163, 0, 7, 26, 167, 0, 4, 27, 172]
abbrev dktJ7_min_0 : List UInt8 := dkwJ7_min_0 ++ []
theorem dksJ7_min_0 : cJ7_min.data.toList.drop 0 = dktJ7_min_0 := by decide +kernel
theorem dJ7_min_0 : decode cJ7_min 0 = .ok (.iload_n 0, 1) := dk_26 (dk_at dksJ7_min_0 0 rfl rfl)
theorem dJ7_min_1 : decode cJ7_min 1 = .ok (.iload_n 1, 1) := dk_27 (dk_at dksJ7_min_0 1 rfl rfl)
theorem dJ7_min_2 : decode cJ7_min 2 = .ok (.if_icmp .gt 7, 3) := dk_163 0 7 (dk_at dksJ7_min_0 2 rfl rfl)
theorem dJ7_min_5 : decode cJ7_min 5 = .ok (.iload_n 0, 1) := dk_26 (dk_at dksJ7_min_0 5 rfl rfl)
theorem dJ7_min_6 : decode cJ7_min 6 = .ok (.goto 4, 3) := dk_167 0 4 (dk_at dksJ7_min_0 6 rfl rfl)
theorem dJ7_min_9 : decode cJ7_min 9 = .ok (.iload_n 1, 1) := dk_27 (dk_at dksJ7_min_0 9 rfl rfl)
theorem dJ7_min_10 : decode cJ7_min 10 = .ok (.ireturn, 1) := dk_172 (dk_at dksJ7_min_0 10 rfl rfl)
theorem q16 : (Jvm.Cond.initialized "java/lang/Math") ∈ lw_all := lw_g (lw_at lw_m1 13 rfl) rfl
theorem q209 : (Jvm.Cond.static ({ cls := "java/lang/Math", name := "min", desc := "(II)I" } : Jvm.MethodName)) ∈ lw_all := lw_g (lw_at lw_m1 206 rfl) rfl
theorem q210 : (Jvm.Cond.code ({ cls := "java/lang/Math", name := "min", desc := "(II)I" } : Jvm.MethodName) prog_13_method_69_code (2 : Nat) (Option.some Jvm.ClassFile.FieldType.int)) ∈ lw_all := lw_g (lw_at lw_m1 207 rfl) rfl
/-! java/lang/Long -/
set_option maxRecDepth 100000
def RJ9 : String := "java/lang/Long"
abbrev cJ9_hashCode : ByteArray := prog_12_method_36_code
def yJ9_hashCode : MethodName := ⟨RJ9, "hashCode", "(J)I"⟩
def dkwJ9_hashCode_0 : List UInt8 := [30, 30, 16, 32, 125, 131, 136, 172]
abbrev dktJ9_hashCode_0 : List UInt8 := dkwJ9_hashCode_0 ++ []
theorem dksJ9_hashCode_0 : cJ9_hashCode.data.toList.drop 0 = dktJ9_hashCode_0 := by decide +kernel
theorem dJ9_hashCode_0 : decode cJ9_hashCode 0 = .ok (.lload_n 0, 1) := dk_30 (dk_at dksJ9_hashCode_0 0 rfl rfl)
theorem dJ9_hashCode_1 : decode cJ9_hashCode 1 = .ok (.lload_n 0, 1) := dk_30 (dk_at dksJ9_hashCode_0 1 rfl rfl)
theorem dJ9_hashCode_2 : decode cJ9_hashCode 2 = .ok (.bipush 32, 2) := dk_16 32 (dk_at dksJ9_hashCode_0 2 rfl rfl)
theorem dJ9_hashCode_4 : decode cJ9_hashCode 4 = .ok (.lushr, 1) := dk_125 (dk_at dksJ9_hashCode_0 4 rfl rfl)
theorem dJ9_hashCode_5 : decode cJ9_hashCode 5 = .ok (.lxor, 1) := dk_131 (dk_at dksJ9_hashCode_0 5 rfl rfl)
theorem dJ9_hashCode_6 : decode cJ9_hashCode 6 = .ok (.l2i, 1) := dk_136 (dk_at dksJ9_hashCode_0 6 rfl rfl)
theorem dJ9_hashCode_7 : decode cJ9_hashCode 7 = .ok (.ireturn, 1) := dk_172 (dk_at dksJ9_hashCode_0 7 rfl rfl)
theorem q19 : (Jvm.Cond.initialized "java/lang/Long") ∈ lw_all := lw_g (lw_at lw_m1 16 rfl) rfl
theorem q319 : (Jvm.Cond.static ({ cls := "java/lang/Long", name := "hashCode", desc := "(J)I" } : Jvm.MethodName)) ∈ lw_all := lw_g (lw_at lw_m2 76 rfl) rfl
theorem q320 : (Jvm.Cond.code ({ cls := "java/lang/Long", name := "hashCode", desc := "(J)I" } : Jvm.MethodName) prog_12_method_36_code (2 : Nat) (Option.some Jvm.ClassFile.FieldType.int)) ∈ lw_all := lw_g (lw_at lw_m2 77 rfl) rfl
/-! java/lang/Object -/
set_option maxRecDepth 100000
def RJ10 : String := "java/lang/Object"
abbrev cJ10_init : ByteArray := object_method_1_code
def yJ10_init : MethodName := ⟨RJ10, "<init>", "()V"⟩
theorem dJ10_init_0 : decode cJ10_init 0 = .ok (.return_, 1) := by decide +kernel
theorem q26 : (Jvm.Cond.instanceMethod ({ cls := "java/lang/Object", name := "<init>", desc := "()V" } : Jvm.MethodName)) ∈ lw_all := lw_g (lw_at lw_m1 23 rfl) rfl
theorem q27 : (Jvm.Cond.code ({ cls := "java/lang/Object", name := "<init>", desc := "()V" } : Jvm.MethodName) object_method_1_code (1 : Nat) (Option.none : Option Jvm.ClassFile.FieldType)) ∈ lw_all := lw_g (lw_at lw_m1 24 rfl) rfl
theorem q203 : (Jvm.Cond.native ({ cls := "java/lang/Object", name := "clone", desc := "()Ljava/lang/Object;" } : Jvm.MethodName)) ∈ lw_all := lw_g (lw_at lw_m1 200 rfl) rfl
theorem q204 : (Jvm.Cond.instanceMethod ({ cls := "java/lang/Object", name := "clone", desc := "()Ljava/lang/Object;" } : Jvm.MethodName)) ∈ lw_all := lw_g (lw_at lw_m1 201 rfl) rfl
theorem q406 : (Jvm.Cond.initialized "java/lang/Object") ∈ lw_all := lw_g (lw_at lw_m2 163 rfl) rfl
theorem q202 : (Jvm.Cond.sameMethod "[J" "java/lang/Object" "clone" "()Ljava/lang/Object;") ∈ lw_all := lw_g (lw_at lw_m1 199 rfl) rfl
set_option maxRecDepth 100000
theorem q205 : (Jvm.Cond.selects "[J" ({ cls := "[J", name := "clone", desc := "()Ljava/lang/Object;" } : Jvm.MethodName) ({ cls := "java/lang/Object", name := "clone", desc := "()Ljava/lang/Object;" } : Jvm.MethodName)) ∈ lw_all := lw_g (lw_at lw_m1 202 rfl) rfl
theorem q206 : (Jvm.Cond.castable "[J" "java/lang/Cloneable") ∈ lw_tbl := lw_at lw_m1 203 rfl
theorem q17 : (Jvm.Cond.initialized "java/lang/System") ∈ lw_all := lw_g (lw_at lw_m1 14 rfl) rfl
set_option maxRecDepth 100000
theorem q212 : (Jvm.Cond.static ({ cls := "java/lang/System", name := "arraycopy", desc := "(Ljava/lang/Object;ILjava/lang/Object;II)V" } : Jvm.MethodName)) ∈ lw_all := lw_g (lw_at lw_m1 209 rfl) rfl
theorem q213 : (Jvm.Cond.native ({ cls := "java/lang/System", name := "arraycopy", desc := "(Ljava/lang/Object;ILjava/lang/Object;II)V" } : Jvm.MethodName)) ∈ lw_all := lw_g (lw_at lw_m1 210 rfl) rfl
theorem q102 : (Jvm.Cond.arrayClass Jvm.ClassFile.FieldType.byte) ∈ lw_all := lw_g (lw_at lw_m1 99 rfl) rfl
set_option maxRecDepth 100000
theorem q116 : (Jvm.Cond.arrayClass Jvm.ClassFile.FieldType.long) ∈ lw_all := lw_g (lw_at lw_m1 113 rfl) rfl
theorem q118 : (Jvm.Cond.arrayOver (Jvm.ClassFile.FieldType.object "ImmutableLongArray")) ∈ lw_tbl := lw_at lw_m1 115 rfl
theorem q404 : (Jvm.Cond.arrayOver (Jvm.ClassFile.FieldType.array Jvm.ClassFile.FieldType.long)) ∈ lw_tbl := lw_at lw_m2 161 rfl
end
section
/-! FixedRowDesk -/
set_option maxRecDepth 100000
def RX1 : String := "FixedRowDesk"
def TX1 : u_T := fun k => match k with
  | 0 => ("FixedRowDesk", "maker", "LImmutableLongArray$Builder;", false)
  | 1 => ("FixedRowDesk", "made", "I", false)
  | _ => ("FixedRowDesk", "rows", "[LImmutableLongArray;", true)
def tyX1 : Nat → FieldType := fun k => match k with
  | 0 => .object "ImmutableLongArray$Builder"
  | 1 => .int
  | _ => .array (.object "ImmutableLongArray")
abbrev wsX10 : List Cond := u_ws RX1 TX1 3
theorem nmX1 : ∀ a, a < 3 → ∀ b, b < 3 → a ≠ b → (TX1 a).2.1 ≠ (TX1 b).2.1 := by decide +kernel
theorem tyX1_ok : ∀ k, k < 3 → parseFieldDescriptor (TX1 k).2.2.1 = some (tyX1 k) := by decide +kernel
abbrev cX1_init : ByteArray := prog_1_method_1_code
def yX1_init : MethodName := ⟨RX1, "<init>", "()V"⟩
def dkwX1_init_1 : List UInt8 := [162, 0, 20, 42, 180, 0, 19, 27, 27, 133, 184, 0, 23, 83, 132, 1, 1, 167, 255, 237, 177]
abbrev dktX1_init_1 : List UInt8 := dkwX1_init_1 ++ []
def dkwX1_init_0 : List UInt8 := [42, 183, 0, 1, 42, 7, 184, 0, 7, 181, 0, 13, 42, 7, 189, 0, 8, 181, 0, 19, 3, 60, 27, 7]
abbrev dktX1_init_0 : List UInt8 := dkwX1_init_0 ++ dktX1_init_1
theorem dksX1_init_0 : cX1_init.data.toList.drop 0 = dktX1_init_0 := by decide +kernel
theorem dksX1_init_1 : cX1_init.data.toList.drop 24 = dktX1_init_1 := dk_seg dksX1_init_0 24 rfl rfl
theorem dX1_init_0 : decode cX1_init 0 = .ok (.aload_n 0, 1) := dk_42 (dk_at dksX1_init_0 0 rfl rfl)
theorem dX1_init_1 : decode cX1_init 1 = .ok (.invokespecial 1, 3) := dk_183 0 1 (dk_at dksX1_init_0 1 rfl rfl)
theorem dX1_init_4 : decode cX1_init 4 = .ok (.aload_n 0, 1) := dk_42 (dk_at dksX1_init_0 4 rfl rfl)
theorem dX1_init_5 : decode cX1_init 5 = .ok (.iconst 4, 1) := dk_7 (dk_at dksX1_init_0 5 rfl rfl)
theorem dX1_init_6 : decode cX1_init 6 = .ok (.invokestatic 7, 3) := dk_184 0 7 (dk_at dksX1_init_0 6 rfl rfl)
theorem dX1_init_9 : decode cX1_init 9 = .ok (.putfield 13, 3) := dk_181 0 13 (dk_at dksX1_init_0 9 rfl rfl)
theorem dX1_init_12 : decode cX1_init 12 = .ok (.aload_n 0, 1) := dk_42 (dk_at dksX1_init_0 12 rfl rfl)
theorem dX1_init_13 : decode cX1_init 13 = .ok (.iconst 4, 1) := dk_7 (dk_at dksX1_init_0 13 rfl rfl)
theorem dX1_init_14 : decode cX1_init 14 = .ok (.anewarray 8, 3) := dk_189 0 8 (dk_at dksX1_init_0 14 rfl rfl)
theorem dX1_init_17 : decode cX1_init 17 = .ok (.putfield 19, 3) := dk_181 0 19 (dk_at dksX1_init_0 17 rfl rfl)
theorem dX1_init_20 : decode cX1_init 20 = .ok (.iconst 0, 1) := dk_3 (dk_at dksX1_init_0 20 rfl rfl)
theorem dX1_init_21 : decode cX1_init 21 = .ok (.istore_n 1, 1) := dk_60 (dk_at dksX1_init_0 21 rfl rfl)
theorem dX1_init_22 : decode cX1_init 22 = .ok (.iload_n 1, 1) := dk_27 (dk_at dksX1_init_0 22 rfl rfl)
theorem dX1_init_23 : decode cX1_init 23 = .ok (.iconst 4, 1) := dk_7 (dk_at dksX1_init_0 23 rfl rfl)
theorem dX1_init_24 : decode cX1_init 24 = .ok (.if_icmp .ge 20, 3) := dk_162 0 20 (dk_at dksX1_init_1 0 rfl rfl)
theorem dX1_init_27 : decode cX1_init 27 = .ok (.aload_n 0, 1) := dk_42 (dk_at dksX1_init_1 3 rfl rfl)
theorem dX1_init_28 : decode cX1_init 28 = .ok (.getfield 19, 3) := dk_180 0 19 (dk_at dksX1_init_1 4 rfl rfl)
theorem dX1_init_31 : decode cX1_init 31 = .ok (.iload_n 1, 1) := dk_27 (dk_at dksX1_init_1 7 rfl rfl)
theorem dX1_init_32 : decode cX1_init 32 = .ok (.iload_n 1, 1) := dk_27 (dk_at dksX1_init_1 8 rfl rfl)
theorem dX1_init_33 : decode cX1_init 33 = .ok (.i2l, 1) := dk_133 (dk_at dksX1_init_1 9 rfl rfl)
theorem dX1_init_34 : decode cX1_init 34 = .ok (.invokestatic 23, 3) := dk_184 0 23 (dk_at dksX1_init_1 10 rfl rfl)
theorem dX1_init_37 : decode cX1_init 37 = .ok (.aastore, 1) := dk_83 (dk_at dksX1_init_1 13 rfl rfl)
theorem dX1_init_38 : decode cX1_init 38 = .ok (.iinc 1 1, 3) := dk_132 1 1 (dk_at dksX1_init_1 14 rfl rfl)
theorem dX1_init_41 : decode cX1_init 41 = .ok (.goto (-19), 3) := dk_167 255 237 (dk_at dksX1_init_1 17 rfl rfl)
theorem dX1_init_44 : decode cX1_init 44 = .ok (.return_, 1) := dk_177 (dk_at dksX1_init_1 20 rfl rfl)
abbrev cX1_addRow : ByteArray := prog_1_method_4_code
def yX1_addRow : MethodName := ⟨RX1, "addRow", "(I)Z"⟩
def dkwX1_addRow_2 : List UInt8 := [182, 0, 46, 87, 4, 172]
abbrev dktX1_addRow_2 : List UInt8 := dkwX1_addRow_2 ++ []
def dkwX1_addRow_1 : List UInt8 := [172, 42, 89, 180, 0, 29, 28, 96, 181, 0, 29, 42, 180, 0, 13, 42, 180, 0, 19, 27, 6, 126, 50]
abbrev dktX1_addRow_1 : List UInt8 := dkwX1_addRow_1 ++ dktX1_addRow_2
def dkwX1_addRow_0 : List UInt8 := [42, 180, 0, 19, 27, 6, 126, 50, 182, 0, 42, 61, 42, 180, 0, 29, 28, 96, 16, 96, 164, 0, 5, 3]
abbrev dktX1_addRow_0 : List UInt8 := dkwX1_addRow_0 ++ dktX1_addRow_1
theorem dksX1_addRow_0 : cX1_addRow.data.toList.drop 0 = dktX1_addRow_0 := by decide +kernel
theorem dksX1_addRow_1 : cX1_addRow.data.toList.drop 24 = dktX1_addRow_1 := dk_seg dksX1_addRow_0 24 rfl rfl
theorem dksX1_addRow_2 : cX1_addRow.data.toList.drop 47 = dktX1_addRow_2 := dk_seg dksX1_addRow_1 23 rfl rfl
theorem dX1_addRow_0 : decode cX1_addRow 0 = .ok (.aload_n 0, 1) := dk_42 (dk_at dksX1_addRow_0 0 rfl rfl)
theorem dX1_addRow_1 : decode cX1_addRow 1 = .ok (.getfield 19, 3) := dk_180 0 19 (dk_at dksX1_addRow_0 1 rfl rfl)
theorem dX1_addRow_4 : decode cX1_addRow 4 = .ok (.iload_n 1, 1) := dk_27 (dk_at dksX1_addRow_0 4 rfl rfl)
theorem dX1_addRow_5 : decode cX1_addRow 5 = .ok (.iconst 3, 1) := dk_6 (dk_at dksX1_addRow_0 5 rfl rfl)
theorem dX1_addRow_6 : decode cX1_addRow 6 = .ok (.iand, 1) := dk_126 (dk_at dksX1_addRow_0 6 rfl rfl)
theorem dX1_addRow_7 : decode cX1_addRow 7 = .ok (.aaload, 1) := dk_50 (dk_at dksX1_addRow_0 7 rfl rfl)
theorem dX1_addRow_8 : decode cX1_addRow 8 = .ok (.invokevirtual 42, 3) := dk_182 0 42 (dk_at dksX1_addRow_0 8 rfl rfl)
theorem dX1_addRow_11 : decode cX1_addRow 11 = .ok (.istore_n 2, 1) := dk_61 (dk_at dksX1_addRow_0 11 rfl rfl)
theorem dX1_addRow_12 : decode cX1_addRow 12 = .ok (.aload_n 0, 1) := dk_42 (dk_at dksX1_addRow_0 12 rfl rfl)
theorem dX1_addRow_13 : decode cX1_addRow 13 = .ok (.getfield 29, 3) := dk_180 0 29 (dk_at dksX1_addRow_0 13 rfl rfl)
theorem dX1_addRow_16 : decode cX1_addRow 16 = .ok (.iload_n 2, 1) := dk_28 (dk_at dksX1_addRow_0 16 rfl rfl)
theorem dX1_addRow_17 : decode cX1_addRow 17 = .ok (.iadd, 1) := dk_96 (dk_at dksX1_addRow_0 17 rfl rfl)
theorem dX1_addRow_18 : decode cX1_addRow 18 = .ok (.bipush 96, 2) := dk_16 96 (dk_at dksX1_addRow_0 18 rfl rfl)
theorem dX1_addRow_20 : decode cX1_addRow 20 = .ok (.if_icmp .le 5, 3) := dk_164 0 5 (dk_at dksX1_addRow_0 20 rfl rfl)
theorem dX1_addRow_23 : decode cX1_addRow 23 = .ok (.iconst 0, 1) := dk_3 (dk_at dksX1_addRow_0 23 rfl rfl)
theorem dX1_addRow_24 : decode cX1_addRow 24 = .ok (.ireturn, 1) := dk_172 (dk_at dksX1_addRow_1 0 rfl rfl)
theorem dX1_addRow_25 : decode cX1_addRow 25 = .ok (.aload_n 0, 1) := dk_42 (dk_at dksX1_addRow_1 1 rfl rfl)
theorem dX1_addRow_26 : decode cX1_addRow 26 = .ok (.dup, 1) := dk_89 (dk_at dksX1_addRow_1 2 rfl rfl)
theorem dX1_addRow_27 : decode cX1_addRow 27 = .ok (.getfield 29, 3) := dk_180 0 29 (dk_at dksX1_addRow_1 3 rfl rfl)
theorem dX1_addRow_30 : decode cX1_addRow 30 = .ok (.iload_n 2, 1) := dk_28 (dk_at dksX1_addRow_1 6 rfl rfl)
theorem dX1_addRow_31 : decode cX1_addRow 31 = .ok (.iadd, 1) := dk_96 (dk_at dksX1_addRow_1 7 rfl rfl)
theorem dX1_addRow_32 : decode cX1_addRow 32 = .ok (.putfield 29, 3) := dk_181 0 29 (dk_at dksX1_addRow_1 8 rfl rfl)
theorem dX1_addRow_35 : decode cX1_addRow 35 = .ok (.aload_n 0, 1) := dk_42 (dk_at dksX1_addRow_1 11 rfl rfl)
theorem dX1_addRow_36 : decode cX1_addRow 36 = .ok (.getfield 13, 3) := dk_180 0 13 (dk_at dksX1_addRow_1 12 rfl rfl)
theorem dX1_addRow_39 : decode cX1_addRow 39 = .ok (.aload_n 0, 1) := dk_42 (dk_at dksX1_addRow_1 15 rfl rfl)
theorem dX1_addRow_40 : decode cX1_addRow 40 = .ok (.getfield 19, 3) := dk_180 0 19 (dk_at dksX1_addRow_1 16 rfl rfl)
theorem dX1_addRow_43 : decode cX1_addRow 43 = .ok (.iload_n 1, 1) := dk_27 (dk_at dksX1_addRow_1 19 rfl rfl)
theorem dX1_addRow_44 : decode cX1_addRow 44 = .ok (.iconst 3, 1) := dk_6 (dk_at dksX1_addRow_1 20 rfl rfl)
theorem dX1_addRow_45 : decode cX1_addRow 45 = .ok (.iand, 1) := dk_126 (dk_at dksX1_addRow_1 21 rfl rfl)
theorem dX1_addRow_46 : decode cX1_addRow 46 = .ok (.aaload, 1) := dk_50 (dk_at dksX1_addRow_1 22 rfl rfl)
theorem dX1_addRow_47 : decode cX1_addRow 47 = .ok (.invokevirtual 46, 3) := dk_182 0 46 (dk_at dksX1_addRow_2 0 rfl rfl)
theorem dX1_addRow_50 : decode cX1_addRow 50 = .ok (.pop, 1) := dk_87 (dk_at dksX1_addRow_2 3 rfl rfl)
theorem dX1_addRow_51 : decode cX1_addRow 51 = .ok (.iconst 1, 1) := dk_4 (dk_at dksX1_addRow_2 4 rfl rfl)
theorem dX1_addRow_52 : decode cX1_addRow 52 = .ok (.ireturn, 1) := dk_172 (dk_at dksX1_addRow_2 5 rfl rfl)
abbrev cX1_build : ByteArray := prog_1_method_5_code
def yX1_build : MethodName := ⟨RX1, "build", "(I)I"⟩
def dkwX1_build_1 : List UInt8 := [182, 0, 42, 172]
abbrev dktX1_build_1 : List UInt8 := dkwX1_build_1 ++ []
def dkwX1_build_0 : List UInt8 := [42, 180, 0, 19, 27, 6, 126, 42, 180, 0, 13, 182, 0, 50, 83, 42, 180, 0, 19, 27, 6, 126, 50]
abbrev dktX1_build_0 : List UInt8 := dkwX1_build_0 ++ dktX1_build_1
theorem dksX1_build_0 : cX1_build.data.toList.drop 0 = dktX1_build_0 := by decide +kernel
theorem dksX1_build_1 : cX1_build.data.toList.drop 23 = dktX1_build_1 := dk_seg dksX1_build_0 23 rfl rfl
theorem dX1_build_0 : decode cX1_build 0 = .ok (.aload_n 0, 1) := dk_42 (dk_at dksX1_build_0 0 rfl rfl)
theorem dX1_build_1 : decode cX1_build 1 = .ok (.getfield 19, 3) := dk_180 0 19 (dk_at dksX1_build_0 1 rfl rfl)
theorem dX1_build_4 : decode cX1_build 4 = .ok (.iload_n 1, 1) := dk_27 (dk_at dksX1_build_0 4 rfl rfl)
theorem dX1_build_5 : decode cX1_build 5 = .ok (.iconst 3, 1) := dk_6 (dk_at dksX1_build_0 5 rfl rfl)
theorem dX1_build_6 : decode cX1_build 6 = .ok (.iand, 1) := dk_126 (dk_at dksX1_build_0 6 rfl rfl)
theorem dX1_build_7 : decode cX1_build 7 = .ok (.aload_n 0, 1) := dk_42 (dk_at dksX1_build_0 7 rfl rfl)
theorem dX1_build_8 : decode cX1_build 8 = .ok (.getfield 13, 3) := dk_180 0 13 (dk_at dksX1_build_0 8 rfl rfl)
theorem dX1_build_11 : decode cX1_build 11 = .ok (.invokevirtual 50, 3) := dk_182 0 50 (dk_at dksX1_build_0 11 rfl rfl)
theorem dX1_build_14 : decode cX1_build 14 = .ok (.aastore, 1) := dk_83 (dk_at dksX1_build_0 14 rfl rfl)
theorem dX1_build_15 : decode cX1_build 15 = .ok (.aload_n 0, 1) := dk_42 (dk_at dksX1_build_0 15 rfl rfl)
theorem dX1_build_16 : decode cX1_build 16 = .ok (.getfield 19, 3) := dk_180 0 19 (dk_at dksX1_build_0 16 rfl rfl)
theorem dX1_build_19 : decode cX1_build 19 = .ok (.iload_n 1, 1) := dk_27 (dk_at dksX1_build_0 19 rfl rfl)
theorem dX1_build_20 : decode cX1_build 20 = .ok (.iconst 3, 1) := dk_6 (dk_at dksX1_build_0 20 rfl rfl)
theorem dX1_build_21 : decode cX1_build 21 = .ok (.iand, 1) := dk_126 (dk_at dksX1_build_0 21 rfl rfl)
theorem dX1_build_22 : decode cX1_build 22 = .ok (.aaload, 1) := dk_50 (dk_at dksX1_build_0 22 rfl rfl)
theorem dX1_build_23 : decode cX1_build 23 = .ok (.invokevirtual 42, 3) := dk_182 0 42 (dk_at dksX1_build_1 0 rfl rfl)
theorem dX1_build_26 : decode cX1_build 26 = .ok (.ireturn, 1) := dk_172 (dk_at dksX1_build_1 3 rfl rfl)
abbrev cX1_anew : ByteArray := prog_1_method_6_code
def yX1_anew : MethodName := ⟨RX1, "anew", "(I)V"⟩
def dkwX1_anew_0 : List UInt8 := [42, 27, 16, 31, 126, 184, 0, 7, 181, 0, 13, 42, 3, 181, 0, 29, 177]
abbrev dktX1_anew_0 : List UInt8 := dkwX1_anew_0 ++ []
theorem dksX1_anew_0 : cX1_anew.data.toList.drop 0 = dktX1_anew_0 := by decide +kernel
theorem dX1_anew_0 : decode cX1_anew 0 = .ok (.aload_n 0, 1) := dk_42 (dk_at dksX1_anew_0 0 rfl rfl)
theorem dX1_anew_1 : decode cX1_anew 1 = .ok (.iload_n 1, 1) := dk_27 (dk_at dksX1_anew_0 1 rfl rfl)
theorem dX1_anew_2 : decode cX1_anew 2 = .ok (.bipush 31, 2) := dk_16 31 (dk_at dksX1_anew_0 2 rfl rfl)
theorem dX1_anew_4 : decode cX1_anew 4 = .ok (.iand, 1) := dk_126 (dk_at dksX1_anew_0 4 rfl rfl)
theorem dX1_anew_5 : decode cX1_anew 5 = .ok (.invokestatic 7, 3) := dk_184 0 7 (dk_at dksX1_anew_0 5 rfl rfl)
theorem dX1_anew_8 : decode cX1_anew 8 = .ok (.putfield 13, 3) := dk_181 0 13 (dk_at dksX1_anew_0 8 rfl rfl)
theorem dX1_anew_11 : decode cX1_anew 11 = .ok (.aload_n 0, 1) := dk_42 (dk_at dksX1_anew_0 11 rfl rfl)
theorem dX1_anew_12 : decode cX1_anew 12 = .ok (.iconst 0, 1) := dk_3 (dk_at dksX1_anew_0 12 rfl rfl)
theorem dX1_anew_13 : decode cX1_anew 13 = .ok (.putfield 29, 3) := dk_181 0 29 (dk_at dksX1_anew_0 13 rfl rfl)
theorem dX1_anew_16 : decode cX1_anew 16 = .ok (.return_, 1) := dk_177 (dk_at dksX1_anew_0 16 rfl rfl)
abbrev cX1_part : ByteArray := prog_1_method_7_code
def yX1_part : MethodName := ⟨RX1, "part", "(IIII)I"⟩
def dkwX1_part_2 : List UInt8 := [126, 25, 5, 21, 6, 21, 6, 21, 7, 96, 182, 0, 55, 83, 21, 7, 172]
abbrev dktX1_part_2 : List UInt8 := dkwX1_part_2 ++ []
def dkwX1_part_1 : List UInt8 := [21, 4, 18, 54, 126, 25, 5, 182, 0, 42, 21, 6, 100, 4, 96, 112, 54, 7, 42, 180, 0, 19, 27, 6]
abbrev dktX1_part_1 : List UInt8 := dkwX1_part_1 ++ dktX1_part_2
def dkwX1_part_0 : List UInt8 := [42, 180, 0, 19, 28, 6, 126, 50, 58, 5, 29, 18, 54, 126, 25, 5, 182, 0, 42, 4, 96, 112, 54, 6]
abbrev dktX1_part_0 : List UInt8 := dkwX1_part_0 ++ dktX1_part_1
theorem dksX1_part_0 : cX1_part.data.toList.drop 0 = dktX1_part_0 := by decide +kernel
theorem dksX1_part_1 : cX1_part.data.toList.drop 24 = dktX1_part_1 := dk_seg dksX1_part_0 24 rfl rfl
theorem dksX1_part_2 : cX1_part.data.toList.drop 48 = dktX1_part_2 := dk_seg dksX1_part_1 24 rfl rfl
theorem dX1_part_0 : decode cX1_part 0 = .ok (.aload_n 0, 1) := dk_42 (dk_at dksX1_part_0 0 rfl rfl)
theorem dX1_part_1 : decode cX1_part 1 = .ok (.getfield 19, 3) := dk_180 0 19 (dk_at dksX1_part_0 1 rfl rfl)
theorem dX1_part_4 : decode cX1_part 4 = .ok (.iload_n 2, 1) := dk_28 (dk_at dksX1_part_0 4 rfl rfl)
theorem dX1_part_5 : decode cX1_part 5 = .ok (.iconst 3, 1) := dk_6 (dk_at dksX1_part_0 5 rfl rfl)
theorem dX1_part_6 : decode cX1_part 6 = .ok (.iand, 1) := dk_126 (dk_at dksX1_part_0 6 rfl rfl)
theorem dX1_part_7 : decode cX1_part 7 = .ok (.aaload, 1) := dk_50 (dk_at dksX1_part_0 7 rfl rfl)
theorem dX1_part_8 : decode cX1_part 8 = .ok (.astore 5, 2) := dk_58 5 (dk_at dksX1_part_0 8 rfl rfl)
theorem dX1_part_10 : decode cX1_part 10 = .ok (.iload_n 3, 1) := dk_29 (dk_at dksX1_part_0 10 rfl rfl)
theorem dX1_part_11 : decode cX1_part 11 = .ok (.ldc 54, 2) := dk_18 54 (dk_at dksX1_part_0 11 rfl rfl)
theorem dX1_part_13 : decode cX1_part 13 = .ok (.iand, 1) := dk_126 (dk_at dksX1_part_0 13 rfl rfl)
theorem dX1_part_14 : decode cX1_part 14 = .ok (.aload 5, 2) := dk_25 5 (dk_at dksX1_part_0 14 rfl rfl)
theorem dX1_part_16 : decode cX1_part 16 = .ok (.invokevirtual 42, 3) := dk_182 0 42 (dk_at dksX1_part_0 16 rfl rfl)
theorem dX1_part_19 : decode cX1_part 19 = .ok (.iconst 1, 1) := dk_4 (dk_at dksX1_part_0 19 rfl rfl)
theorem dX1_part_20 : decode cX1_part 20 = .ok (.iadd, 1) := dk_96 (dk_at dksX1_part_0 20 rfl rfl)
theorem dX1_part_21 : decode cX1_part 21 = .ok (.irem, 1) := dk_112 (dk_at dksX1_part_0 21 rfl rfl)
theorem dX1_part_22 : decode cX1_part 22 = .ok (.istore 6, 2) := dk_54 6 (dk_at dksX1_part_0 22 rfl rfl)
theorem dX1_part_24 : decode cX1_part 24 = .ok (.iload 4, 2) := dk_21 4 (dk_at dksX1_part_1 0 rfl rfl)
theorem dX1_part_26 : decode cX1_part 26 = .ok (.ldc 54, 2) := dk_18 54 (dk_at dksX1_part_1 2 rfl rfl)
theorem dX1_part_28 : decode cX1_part 28 = .ok (.iand, 1) := dk_126 (dk_at dksX1_part_1 4 rfl rfl)
theorem dX1_part_29 : decode cX1_part 29 = .ok (.aload 5, 2) := dk_25 5 (dk_at dksX1_part_1 5 rfl rfl)
theorem dX1_part_31 : decode cX1_part 31 = .ok (.invokevirtual 42, 3) := dk_182 0 42 (dk_at dksX1_part_1 7 rfl rfl)
theorem dX1_part_34 : decode cX1_part 34 = .ok (.iload 6, 2) := dk_21 6 (dk_at dksX1_part_1 10 rfl rfl)
theorem dX1_part_36 : decode cX1_part 36 = .ok (.isub, 1) := dk_100 (dk_at dksX1_part_1 12 rfl rfl)
theorem dX1_part_37 : decode cX1_part 37 = .ok (.iconst 1, 1) := dk_4 (dk_at dksX1_part_1 13 rfl rfl)
theorem dX1_part_38 : decode cX1_part 38 = .ok (.iadd, 1) := dk_96 (dk_at dksX1_part_1 14 rfl rfl)
theorem dX1_part_39 : decode cX1_part 39 = .ok (.irem, 1) := dk_112 (dk_at dksX1_part_1 15 rfl rfl)
theorem dX1_part_40 : decode cX1_part 40 = .ok (.istore 7, 2) := dk_54 7 (dk_at dksX1_part_1 16 rfl rfl)
theorem dX1_part_42 : decode cX1_part 42 = .ok (.aload_n 0, 1) := dk_42 (dk_at dksX1_part_1 18 rfl rfl)
theorem dX1_part_43 : decode cX1_part 43 = .ok (.getfield 19, 3) := dk_180 0 19 (dk_at dksX1_part_1 19 rfl rfl)
theorem dX1_part_46 : decode cX1_part 46 = .ok (.iload_n 1, 1) := dk_27 (dk_at dksX1_part_1 22 rfl rfl)
theorem dX1_part_47 : decode cX1_part 47 = .ok (.iconst 3, 1) := dk_6 (dk_at dksX1_part_1 23 rfl rfl)
theorem dX1_part_48 : decode cX1_part 48 = .ok (.iand, 1) := dk_126 (dk_at dksX1_part_2 0 rfl rfl)
theorem dX1_part_49 : decode cX1_part 49 = .ok (.aload 5, 2) := dk_25 5 (dk_at dksX1_part_2 1 rfl rfl)
theorem dX1_part_51 : decode cX1_part 51 = .ok (.iload 6, 2) := dk_21 6 (dk_at dksX1_part_2 3 rfl rfl)
theorem dX1_part_53 : decode cX1_part 53 = .ok (.iload 6, 2) := dk_21 6 (dk_at dksX1_part_2 5 rfl rfl)
theorem dX1_part_55 : decode cX1_part 55 = .ok (.iload 7, 2) := dk_21 7 (dk_at dksX1_part_2 7 rfl rfl)
theorem dX1_part_57 : decode cX1_part 57 = .ok (.iadd, 1) := dk_96 (dk_at dksX1_part_2 9 rfl rfl)
theorem dX1_part_58 : decode cX1_part 58 = .ok (.invokevirtual 55, 3) := dk_182 0 55 (dk_at dksX1_part_2 10 rfl rfl)
theorem dX1_part_61 : decode cX1_part 61 = .ok (.aastore, 1) := dk_83 (dk_at dksX1_part_2 13 rfl rfl)
theorem dX1_part_62 : decode cX1_part 62 = .ok (.iload 7, 2) := dk_21 7 (dk_at dksX1_part_2 14 rfl rfl)
theorem dX1_part_64 : decode cX1_part 64 = .ok (.ireturn, 1) := dk_172 (dk_at dksX1_part_2 16 rfl rfl)
abbrev cX1_get : ByteArray := prog_1_method_9_code
def yX1_get : MethodName := ⟨RX1, "get", "(II)J"⟩
def dkwX1_get_1 : List UInt8 := [126, 45, 182, 0, 42, 112, 182, 0, 66, 173]
abbrev dktX1_get_1 : List UInt8 := dkwX1_get_1 ++ []
def dkwX1_get_0 : List UInt8 := [42, 180, 0, 19, 27, 6, 126, 50, 78, 45, 182, 0, 62, 153, 0, 7, 9, 167, 0, 16, 45, 28, 18, 54]
abbrev dktX1_get_0 : List UInt8 := dkwX1_get_0 ++ dktX1_get_1
theorem dksX1_get_0 : cX1_get.data.toList.drop 0 = dktX1_get_0 := by decide +kernel
theorem dksX1_get_1 : cX1_get.data.toList.drop 24 = dktX1_get_1 := dk_seg dksX1_get_0 24 rfl rfl
theorem dX1_get_0 : decode cX1_get 0 = .ok (.aload_n 0, 1) := dk_42 (dk_at dksX1_get_0 0 rfl rfl)
theorem dX1_get_1 : decode cX1_get 1 = .ok (.getfield 19, 3) := dk_180 0 19 (dk_at dksX1_get_0 1 rfl rfl)
theorem dX1_get_4 : decode cX1_get 4 = .ok (.iload_n 1, 1) := dk_27 (dk_at dksX1_get_0 4 rfl rfl)
theorem dX1_get_5 : decode cX1_get 5 = .ok (.iconst 3, 1) := dk_6 (dk_at dksX1_get_0 5 rfl rfl)
theorem dX1_get_6 : decode cX1_get 6 = .ok (.iand, 1) := dk_126 (dk_at dksX1_get_0 6 rfl rfl)
theorem dX1_get_7 : decode cX1_get 7 = .ok (.aaload, 1) := dk_50 (dk_at dksX1_get_0 7 rfl rfl)
theorem dX1_get_8 : decode cX1_get 8 = .ok (.astore_n 3, 1) := dk_78 (dk_at dksX1_get_0 8 rfl rfl)
theorem dX1_get_9 : decode cX1_get 9 = .ok (.aload_n 3, 1) := dk_45 (dk_at dksX1_get_0 9 rfl rfl)
theorem dX1_get_10 : decode cX1_get 10 = .ok (.invokevirtual 62, 3) := dk_182 0 62 (dk_at dksX1_get_0 10 rfl rfl)
theorem dX1_get_13 : decode cX1_get 13 = .ok (.ifCond .eq 7, 3) := dk_153 0 7 (dk_at dksX1_get_0 13 rfl rfl)
theorem dX1_get_16 : decode cX1_get 16 = .ok (.lconst 0, 1) := dk_9 (dk_at dksX1_get_0 16 rfl rfl)
theorem dX1_get_17 : decode cX1_get 17 = .ok (.goto 16, 3) := dk_167 0 16 (dk_at dksX1_get_0 17 rfl rfl)
theorem dX1_get_20 : decode cX1_get 20 = .ok (.aload_n 3, 1) := dk_45 (dk_at dksX1_get_0 20 rfl rfl)
theorem dX1_get_21 : decode cX1_get 21 = .ok (.iload_n 2, 1) := dk_28 (dk_at dksX1_get_0 21 rfl rfl)
theorem dX1_get_22 : decode cX1_get 22 = .ok (.ldc 54, 2) := dk_18 54 (dk_at dksX1_get_0 22 rfl rfl)
theorem dX1_get_24 : decode cX1_get 24 = .ok (.iand, 1) := dk_126 (dk_at dksX1_get_1 0 rfl rfl)
theorem dX1_get_25 : decode cX1_get 25 = .ok (.aload_n 3, 1) := dk_45 (dk_at dksX1_get_1 1 rfl rfl)
theorem dX1_get_26 : decode cX1_get 26 = .ok (.invokevirtual 42, 3) := dk_182 0 42 (dk_at dksX1_get_1 2 rfl rfl)
theorem dX1_get_29 : decode cX1_get 29 = .ok (.irem, 1) := dk_112 (dk_at dksX1_get_1 5 rfl rfl)
theorem dX1_get_30 : decode cX1_get 30 = .ok (.invokevirtual 66, 3) := dk_182 0 66 (dk_at dksX1_get_1 6 rfl rfl)
theorem dX1_get_33 : decode cX1_get 33 = .ok (.lreturn, 1) := dk_173 (dk_at dksX1_get_1 9 rfl rfl)
abbrev cX1_first : ByteArray := prog_1_method_10_code
def yX1_first : MethodName := ⟨RX1, "first", "(III)I"⟩
def dkwX1_first_0 : List UInt8 := [42, 180, 0, 19, 27, 6, 126, 50, 28, 29, 184, 0, 33, 182, 0, 70, 172]
abbrev dktX1_first_0 : List UInt8 := dkwX1_first_0 ++ []
theorem dksX1_first_0 : cX1_first.data.toList.drop 0 = dktX1_first_0 := by decide +kernel
theorem dX1_first_0 : decode cX1_first 0 = .ok (.aload_n 0, 1) := dk_42 (dk_at dksX1_first_0 0 rfl rfl)
theorem dX1_first_1 : decode cX1_first 1 = .ok (.getfield 19, 3) := dk_180 0 19 (dk_at dksX1_first_0 1 rfl rfl)
theorem dX1_first_4 : decode cX1_first 4 = .ok (.iload_n 1, 1) := dk_27 (dk_at dksX1_first_0 4 rfl rfl)
theorem dX1_first_5 : decode cX1_first 5 = .ok (.iconst 3, 1) := dk_6 (dk_at dksX1_first_0 5 rfl rfl)
theorem dX1_first_6 : decode cX1_first 6 = .ok (.iand, 1) := dk_126 (dk_at dksX1_first_0 6 rfl rfl)
theorem dX1_first_7 : decode cX1_first 7 = .ok (.aaload, 1) := dk_50 (dk_at dksX1_first_0 7 rfl rfl)
theorem dX1_first_8 : decode cX1_first 8 = .ok (.iload_n 2, 1) := dk_28 (dk_at dksX1_first_0 8 rfl rfl)
theorem dX1_first_9 : decode cX1_first 9 = .ok (.iload_n 3, 1) := dk_29 (dk_at dksX1_first_0 9 rfl rfl)
theorem dX1_first_10 : decode cX1_first 10 = .ok (.invokestatic 33, 3) := dk_184 0 33 (dk_at dksX1_first_0 10 rfl rfl)
theorem dX1_first_13 : decode cX1_first 13 = .ok (.invokevirtual 70, 3) := dk_182 0 70 (dk_at dksX1_first_0 13 rfl rfl)
theorem dX1_first_16 : decode cX1_first 16 = .ok (.ireturn, 1) := dk_172 (dk_at dksX1_first_0 16 rfl rfl)
abbrev cX1_of : ByteArray := prog_1_method_2_code
def yX1_of : MethodName := ⟨RX1, "of", "(II)J"⟩
def dkwX1_of_0 : List UInt8 := [26, 133, 16, 32, 121, 27, 133, 20, 0, 27, 127, 129, 173]
abbrev dktX1_of_0 : List UInt8 := dkwX1_of_0 ++ []
theorem dksX1_of_0 : cX1_of.data.toList.drop 0 = dktX1_of_0 := by decide +kernel
theorem dX1_of_0 : decode cX1_of 0 = .ok (.iload_n 0, 1) := dk_26 (dk_at dksX1_of_0 0 rfl rfl)
theorem dX1_of_1 : decode cX1_of 1 = .ok (.i2l, 1) := dk_133 (dk_at dksX1_of_0 1 rfl rfl)
theorem dX1_of_2 : decode cX1_of 2 = .ok (.bipush 32, 2) := dk_16 32 (dk_at dksX1_of_0 2 rfl rfl)
theorem dX1_of_4 : decode cX1_of 4 = .ok (.lshl, 1) := dk_121 (dk_at dksX1_of_0 4 rfl rfl)
theorem dX1_of_5 : decode cX1_of 5 = .ok (.iload_n 1, 1) := dk_27 (dk_at dksX1_of_0 5 rfl rfl)
theorem dX1_of_6 : decode cX1_of 6 = .ok (.i2l, 1) := dk_133 (dk_at dksX1_of_0 6 rfl rfl)
theorem dX1_of_7 : decode cX1_of 7 = .ok (.ldc2_w 27, 3) := dk_20 0 27 (dk_at dksX1_of_0 7 rfl rfl)
theorem dX1_of_10 : decode cX1_of 10 = .ok (.land, 1) := dk_127 (dk_at dksX1_of_0 10 rfl rfl)
theorem dX1_of_11 : decode cX1_of 11 = .ok (.lor, 1) := dk_129 (dk_at dksX1_of_0 11 rfl rfl)
theorem dX1_of_12 : decode cX1_of 12 = .ok (.lreturn, 1) := dk_173 (dk_at dksX1_of_0 12 rfl rfl)
abbrev cX1_last : ByteArray := prog_1_method_11_code
def yX1_last : MethodName := ⟨RX1, "last", "(III)I"⟩
def dkwX1_last_0 : List UInt8 := [42, 180, 0, 19, 27, 6, 126, 50, 28, 29, 184, 0, 33, 182, 0, 74, 172]
abbrev dktX1_last_0 : List UInt8 := dkwX1_last_0 ++ []
theorem dksX1_last_0 : cX1_last.data.toList.drop 0 = dktX1_last_0 := by decide +kernel
theorem dX1_last_0 : decode cX1_last 0 = .ok (.aload_n 0, 1) := dk_42 (dk_at dksX1_last_0 0 rfl rfl)
theorem dX1_last_1 : decode cX1_last 1 = .ok (.getfield 19, 3) := dk_180 0 19 (dk_at dksX1_last_0 1 rfl rfl)
theorem dX1_last_4 : decode cX1_last 4 = .ok (.iload_n 1, 1) := dk_27 (dk_at dksX1_last_0 4 rfl rfl)
theorem dX1_last_5 : decode cX1_last 5 = .ok (.iconst 3, 1) := dk_6 (dk_at dksX1_last_0 5 rfl rfl)
theorem dX1_last_6 : decode cX1_last 6 = .ok (.iand, 1) := dk_126 (dk_at dksX1_last_0 6 rfl rfl)
theorem dX1_last_7 : decode cX1_last 7 = .ok (.aaload, 1) := dk_50 (dk_at dksX1_last_0 7 rfl rfl)
theorem dX1_last_8 : decode cX1_last 8 = .ok (.iload_n 2, 1) := dk_28 (dk_at dksX1_last_0 8 rfl rfl)
theorem dX1_last_9 : decode cX1_last 9 = .ok (.iload_n 3, 1) := dk_29 (dk_at dksX1_last_0 9 rfl rfl)
theorem dX1_last_10 : decode cX1_last 10 = .ok (.invokestatic 33, 3) := dk_184 0 33 (dk_at dksX1_last_0 10 rfl rfl)
theorem dX1_last_13 : decode cX1_last 13 = .ok (.invokevirtual 74, 3) := dk_182 0 74 (dk_at dksX1_last_0 13 rfl rfl)
theorem dX1_last_16 : decode cX1_last 16 = .ok (.ireturn, 1) := dk_172 (dk_at dksX1_last_0 16 rfl rfl)
abbrev cX1_length : ByteArray := prog_1_method_13_code
def yX1_length : MethodName := ⟨RX1, "length", "(I)I"⟩
def dkwX1_length_0 : List UInt8 := [42, 180, 0, 19, 27, 6, 126, 50, 182, 0, 42, 172]
abbrev dktX1_length_0 : List UInt8 := dkwX1_length_0 ++ []
theorem dksX1_length_0 : cX1_length.data.toList.drop 0 = dktX1_length_0 := by decide +kernel
theorem dX1_length_0 : decode cX1_length 0 = .ok (.aload_n 0, 1) := dk_42 (dk_at dksX1_length_0 0 rfl rfl)
theorem dX1_length_1 : decode cX1_length 1 = .ok (.getfield 19, 3) := dk_180 0 19 (dk_at dksX1_length_0 1 rfl rfl)
theorem dX1_length_4 : decode cX1_length 4 = .ok (.iload_n 1, 1) := dk_27 (dk_at dksX1_length_0 4 rfl rfl)
theorem dX1_length_5 : decode cX1_length 5 = .ok (.iconst 3, 1) := dk_6 (dk_at dksX1_length_0 5 rfl rfl)
theorem dX1_length_6 : decode cX1_length 6 = .ok (.iand, 1) := dk_126 (dk_at dksX1_length_0 6 rfl rfl)
theorem dX1_length_7 : decode cX1_length 7 = .ok (.aaload, 1) := dk_50 (dk_at dksX1_length_0 7 rfl rfl)
theorem dX1_length_8 : decode cX1_length 8 = .ok (.invokevirtual 42, 3) := dk_182 0 42 (dk_at dksX1_length_0 8 rfl rfl)
theorem dX1_length_11 : decode cX1_length 11 = .ok (.ireturn, 1) := dk_172 (dk_at dksX1_length_0 11 rfl rfl)
abbrev cX1_same : ByteArray := prog_1_method_14_code
def yX1_same : MethodName := ⟨RX1, "same", "(II)Z"⟩
def dkwX1_same_0 : List UInt8 := [42, 180, 0, 19, 27, 6, 126, 50, 42, 180, 0, 19, 28, 6, 126, 50, 182, 0, 81, 172]
abbrev dktX1_same_0 : List UInt8 := dkwX1_same_0 ++ []
theorem dksX1_same_0 : cX1_same.data.toList.drop 0 = dktX1_same_0 := by decide +kernel
theorem dX1_same_0 : decode cX1_same 0 = .ok (.aload_n 0, 1) := dk_42 (dk_at dksX1_same_0 0 rfl rfl)
theorem dX1_same_1 : decode cX1_same 1 = .ok (.getfield 19, 3) := dk_180 0 19 (dk_at dksX1_same_0 1 rfl rfl)
theorem dX1_same_4 : decode cX1_same 4 = .ok (.iload_n 1, 1) := dk_27 (dk_at dksX1_same_0 4 rfl rfl)
theorem dX1_same_5 : decode cX1_same 5 = .ok (.iconst 3, 1) := dk_6 (dk_at dksX1_same_0 5 rfl rfl)
theorem dX1_same_6 : decode cX1_same 6 = .ok (.iand, 1) := dk_126 (dk_at dksX1_same_0 6 rfl rfl)
theorem dX1_same_7 : decode cX1_same 7 = .ok (.aaload, 1) := dk_50 (dk_at dksX1_same_0 7 rfl rfl)
theorem dX1_same_8 : decode cX1_same 8 = .ok (.aload_n 0, 1) := dk_42 (dk_at dksX1_same_0 8 rfl rfl)
theorem dX1_same_9 : decode cX1_same 9 = .ok (.getfield 19, 3) := dk_180 0 19 (dk_at dksX1_same_0 9 rfl rfl)
theorem dX1_same_12 : decode cX1_same 12 = .ok (.iload_n 2, 1) := dk_28 (dk_at dksX1_same_0 12 rfl rfl)
theorem dX1_same_13 : decode cX1_same 13 = .ok (.iconst 3, 1) := dk_6 (dk_at dksX1_same_0 13 rfl rfl)
theorem dX1_same_14 : decode cX1_same 14 = .ok (.iand, 1) := dk_126 (dk_at dksX1_same_0 14 rfl rfl)
theorem dX1_same_15 : decode cX1_same 15 = .ok (.aaload, 1) := dk_50 (dk_at dksX1_same_0 15 rfl rfl)
theorem dX1_same_16 : decode cX1_same 16 = .ok (.invokevirtual 81, 3) := dk_182 0 81 (dk_at dksX1_same_0 16 rfl rfl)
theorem dX1_same_19 : decode cX1_same 19 = .ok (.ireturn, 1) := dk_172 (dk_at dksX1_same_0 19 rfl rfl)
abbrev cX1_hash : ByteArray := prog_1_method_15_code
def yX1_hash : MethodName := ⟨RX1, "hash", "(I)I"⟩
def dkwX1_hash_0 : List UInt8 := [42, 180, 0, 19, 27, 6, 126, 50, 182, 0, 85, 172]
abbrev dktX1_hash_0 : List UInt8 := dkwX1_hash_0 ++ []
theorem dksX1_hash_0 : cX1_hash.data.toList.drop 0 = dktX1_hash_0 := by decide +kernel
theorem dX1_hash_0 : decode cX1_hash 0 = .ok (.aload_n 0, 1) := dk_42 (dk_at dksX1_hash_0 0 rfl rfl)
theorem dX1_hash_1 : decode cX1_hash 1 = .ok (.getfield 19, 3) := dk_180 0 19 (dk_at dksX1_hash_0 1 rfl rfl)
theorem dX1_hash_4 : decode cX1_hash 4 = .ok (.iload_n 1, 1) := dk_27 (dk_at dksX1_hash_0 4 rfl rfl)
theorem dX1_hash_5 : decode cX1_hash 5 = .ok (.iconst 3, 1) := dk_6 (dk_at dksX1_hash_0 5 rfl rfl)
theorem dX1_hash_6 : decode cX1_hash 6 = .ok (.iand, 1) := dk_126 (dk_at dksX1_hash_0 6 rfl rfl)
theorem dX1_hash_7 : decode cX1_hash 7 = .ok (.aaload, 1) := dk_50 (dk_at dksX1_hash_0 7 rfl rfl)
theorem dX1_hash_8 : decode cX1_hash 8 = .ok (.invokevirtual 85, 3) := dk_182 0 85 (dk_at dksX1_hash_0 8 rfl rfl)
theorem dX1_hash_11 : decode cX1_hash 11 = .ok (.ireturn, 1) := dk_172 (dk_at dksX1_hash_0 11 rfl rfl)
abbrev cX1_whole : ByteArray := prog_1_method_16_code
def yX1_whole : MethodName := ⟨RX1, "whole", "(I)J"⟩
def dkwX1_whole_1 : List UInt8 := [33, 20, 0, 92, 105, 44, 21, 5, 47, 97, 66, 132, 5, 1, 167, 255, 235, 33, 173]
abbrev dktX1_whole_1 : List UInt8 := dkwX1_whole_1 ++ []
def dkwX1_whole_0 : List UInt8 := [42, 180, 0, 19, 27, 6, 126, 50, 182, 0, 88, 77, 9, 66, 3, 54, 5, 21, 5, 44, 190, 162, 0, 20]
abbrev dktX1_whole_0 : List UInt8 := dkwX1_whole_0 ++ dktX1_whole_1
theorem dksX1_whole_0 : cX1_whole.data.toList.drop 0 = dktX1_whole_0 := by decide +kernel
theorem dksX1_whole_1 : cX1_whole.data.toList.drop 24 = dktX1_whole_1 := dk_seg dksX1_whole_0 24 rfl rfl
theorem dX1_whole_0 : decode cX1_whole 0 = .ok (.aload_n 0, 1) := dk_42 (dk_at dksX1_whole_0 0 rfl rfl)
theorem dX1_whole_1 : decode cX1_whole 1 = .ok (.getfield 19, 3) := dk_180 0 19 (dk_at dksX1_whole_0 1 rfl rfl)
theorem dX1_whole_4 : decode cX1_whole 4 = .ok (.iload_n 1, 1) := dk_27 (dk_at dksX1_whole_0 4 rfl rfl)
theorem dX1_whole_5 : decode cX1_whole 5 = .ok (.iconst 3, 1) := dk_6 (dk_at dksX1_whole_0 5 rfl rfl)
theorem dX1_whole_6 : decode cX1_whole 6 = .ok (.iand, 1) := dk_126 (dk_at dksX1_whole_0 6 rfl rfl)
theorem dX1_whole_7 : decode cX1_whole 7 = .ok (.aaload, 1) := dk_50 (dk_at dksX1_whole_0 7 rfl rfl)
theorem dX1_whole_8 : decode cX1_whole 8 = .ok (.invokevirtual 88, 3) := dk_182 0 88 (dk_at dksX1_whole_0 8 rfl rfl)
theorem dX1_whole_11 : decode cX1_whole 11 = .ok (.astore_n 2, 1) := dk_77 (dk_at dksX1_whole_0 11 rfl rfl)
theorem dX1_whole_12 : decode cX1_whole 12 = .ok (.lconst 0, 1) := dk_9 (dk_at dksX1_whole_0 12 rfl rfl)
theorem dX1_whole_13 : decode cX1_whole 13 = .ok (.lstore_n 3, 1) := dk_66 (dk_at dksX1_whole_0 13 rfl rfl)
theorem dX1_whole_14 : decode cX1_whole 14 = .ok (.iconst 0, 1) := dk_3 (dk_at dksX1_whole_0 14 rfl rfl)
theorem dX1_whole_15 : decode cX1_whole 15 = .ok (.istore 5, 2) := dk_54 5 (dk_at dksX1_whole_0 15 rfl rfl)
theorem dX1_whole_17 : decode cX1_whole 17 = .ok (.iload 5, 2) := dk_21 5 (dk_at dksX1_whole_0 17 rfl rfl)
theorem dX1_whole_19 : decode cX1_whole 19 = .ok (.aload_n 2, 1) := dk_44 (dk_at dksX1_whole_0 19 rfl rfl)
theorem dX1_whole_20 : decode cX1_whole 20 = .ok (.arraylength, 1) := dk_190 (dk_at dksX1_whole_0 20 rfl rfl)
theorem dX1_whole_21 : decode cX1_whole 21 = .ok (.if_icmp .ge 20, 3) := dk_162 0 20 (dk_at dksX1_whole_0 21 rfl rfl)
theorem dX1_whole_24 : decode cX1_whole 24 = .ok (.lload_n 3, 1) := dk_33 (dk_at dksX1_whole_1 0 rfl rfl)
theorem dX1_whole_25 : decode cX1_whole 25 = .ok (.ldc2_w 92, 3) := dk_20 0 92 (dk_at dksX1_whole_1 1 rfl rfl)
theorem dX1_whole_28 : decode cX1_whole 28 = .ok (.lmul, 1) := dk_105 (dk_at dksX1_whole_1 4 rfl rfl)
theorem dX1_whole_29 : decode cX1_whole 29 = .ok (.aload_n 2, 1) := dk_44 (dk_at dksX1_whole_1 5 rfl rfl)
theorem dX1_whole_30 : decode cX1_whole 30 = .ok (.iload 5, 2) := dk_21 5 (dk_at dksX1_whole_1 6 rfl rfl)
theorem dX1_whole_32 : decode cX1_whole 32 = .ok (.laload, 1) := dk_47 (dk_at dksX1_whole_1 8 rfl rfl)
theorem dX1_whole_33 : decode cX1_whole 33 = .ok (.ladd, 1) := dk_97 (dk_at dksX1_whole_1 9 rfl rfl)
theorem dX1_whole_34 : decode cX1_whole 34 = .ok (.lstore_n 3, 1) := dk_66 (dk_at dksX1_whole_1 10 rfl rfl)
theorem dX1_whole_35 : decode cX1_whole 35 = .ok (.iinc 5 1, 3) := dk_132 5 1 (dk_at dksX1_whole_1 11 rfl rfl)
theorem dX1_whole_38 : decode cX1_whole 38 = .ok (.goto (-21), 3) := dk_167 255 235 (dk_at dksX1_whole_1 14 rfl rfl)
theorem dX1_whole_41 : decode cX1_whole 41 = .ok (.lload_n 3, 1) := dk_33 (dk_at dksX1_whole_1 17 rfl rfl)
theorem dX1_whole_42 : decode cX1_whole 42 = .ok (.lreturn, 1) := dk_173 (dk_at dksX1_whole_1 18 rfl rfl)
abbrev cX1_add : ByteArray := prog_1_method_3_code
def yX1_add : MethodName := ⟨RX1, "add", "(II)Z"⟩
def dkwX1_add_1 : List UInt8 := [180, 0, 13, 27, 28, 184, 0, 33, 182, 0, 36, 87, 4, 172]
abbrev dktX1_add_1 : List UInt8 := dkwX1_add_1 ++ []
def dkwX1_add_0 : List UInt8 := [42, 180, 0, 29, 16, 96, 161, 0, 5, 3, 172, 42, 89, 180, 0, 29, 4, 96, 181, 0, 29, 42]
abbrev dktX1_add_0 : List UInt8 := dkwX1_add_0 ++ dktX1_add_1
theorem dksX1_add_0 : cX1_add.data.toList.drop 0 = dktX1_add_0 := by decide +kernel
theorem dksX1_add_1 : cX1_add.data.toList.drop 22 = dktX1_add_1 := dk_seg dksX1_add_0 22 rfl rfl
theorem dX1_add_0 : decode cX1_add 0 = .ok (.aload_n 0, 1) := dk_42 (dk_at dksX1_add_0 0 rfl rfl)
theorem dX1_add_1 : decode cX1_add 1 = .ok (.getfield 29, 3) := dk_180 0 29 (dk_at dksX1_add_0 1 rfl rfl)
theorem dX1_add_4 : decode cX1_add 4 = .ok (.bipush 96, 2) := dk_16 96 (dk_at dksX1_add_0 4 rfl rfl)
theorem dX1_add_6 : decode cX1_add 6 = .ok (.if_icmp .lt 5, 3) := dk_161 0 5 (dk_at dksX1_add_0 6 rfl rfl)
theorem dX1_add_9 : decode cX1_add 9 = .ok (.iconst 0, 1) := dk_3 (dk_at dksX1_add_0 9 rfl rfl)
theorem dX1_add_10 : decode cX1_add 10 = .ok (.ireturn, 1) := dk_172 (dk_at dksX1_add_0 10 rfl rfl)
theorem dX1_add_11 : decode cX1_add 11 = .ok (.aload_n 0, 1) := dk_42 (dk_at dksX1_add_0 11 rfl rfl)
theorem dX1_add_12 : decode cX1_add 12 = .ok (.dup, 1) := dk_89 (dk_at dksX1_add_0 12 rfl rfl)
theorem dX1_add_13 : decode cX1_add 13 = .ok (.getfield 29, 3) := dk_180 0 29 (dk_at dksX1_add_0 13 rfl rfl)
theorem dX1_add_16 : decode cX1_add 16 = .ok (.iconst 1, 1) := dk_4 (dk_at dksX1_add_0 16 rfl rfl)
theorem dX1_add_17 : decode cX1_add 17 = .ok (.iadd, 1) := dk_96 (dk_at dksX1_add_0 17 rfl rfl)
theorem dX1_add_18 : decode cX1_add 18 = .ok (.putfield 29, 3) := dk_181 0 29 (dk_at dksX1_add_0 18 rfl rfl)
theorem dX1_add_21 : decode cX1_add 21 = .ok (.aload_n 0, 1) := dk_42 (dk_at dksX1_add_0 21 rfl rfl)
theorem dX1_add_22 : decode cX1_add 22 = .ok (.getfield 13, 3) := dk_180 0 13 (dk_at dksX1_add_1 0 rfl rfl)
theorem dX1_add_25 : decode cX1_add 25 = .ok (.iload_n 1, 1) := dk_27 (dk_at dksX1_add_1 3 rfl rfl)
theorem dX1_add_26 : decode cX1_add 26 = .ok (.iload_n 2, 1) := dk_28 (dk_at dksX1_add_1 4 rfl rfl)
theorem dX1_add_27 : decode cX1_add 27 = .ok (.invokestatic 33, 3) := dk_184 0 33 (dk_at dksX1_add_1 5 rfl rfl)
theorem dX1_add_30 : decode cX1_add 30 = .ok (.invokevirtual 36, 3) := dk_182 0 36 (dk_at dksX1_add_1 8 rfl rfl)
theorem dX1_add_33 : decode cX1_add 33 = .ok (.pop, 1) := dk_87 (dk_at dksX1_add_1 11 rfl rfl)
theorem dX1_add_34 : decode cX1_add 34 = .ok (.iconst 1, 1) := dk_4 (dk_at dksX1_add_1 12 rfl rfl)
theorem dX1_add_35 : decode cX1_add 35 = .ok (.ireturn, 1) := dk_172 (dk_at dksX1_add_1 13 rfl rfl)
abbrev cX1_trim : ByteArray := prog_1_method_8_code
def yX1_trim : MethodName := ⟨RX1, "trim", "(I)V"⟩
def dkwX1_trim_0 : List UInt8 := [42, 180, 0, 19, 27, 6, 126, 42, 180, 0, 19, 27, 6, 126, 50, 182, 0, 59, 83, 177]
abbrev dktX1_trim_0 : List UInt8 := dkwX1_trim_0 ++ []
theorem dksX1_trim_0 : cX1_trim.data.toList.drop 0 = dktX1_trim_0 := by decide +kernel
theorem dX1_trim_0 : decode cX1_trim 0 = .ok (.aload_n 0, 1) := dk_42 (dk_at dksX1_trim_0 0 rfl rfl)
theorem dX1_trim_1 : decode cX1_trim 1 = .ok (.getfield 19, 3) := dk_180 0 19 (dk_at dksX1_trim_0 1 rfl rfl)
theorem dX1_trim_4 : decode cX1_trim 4 = .ok (.iload_n 1, 1) := dk_27 (dk_at dksX1_trim_0 4 rfl rfl)
theorem dX1_trim_5 : decode cX1_trim 5 = .ok (.iconst 3, 1) := dk_6 (dk_at dksX1_trim_0 5 rfl rfl)
theorem dX1_trim_6 : decode cX1_trim 6 = .ok (.iand, 1) := dk_126 (dk_at dksX1_trim_0 6 rfl rfl)
theorem dX1_trim_7 : decode cX1_trim 7 = .ok (.aload_n 0, 1) := dk_42 (dk_at dksX1_trim_0 7 rfl rfl)
theorem dX1_trim_8 : decode cX1_trim 8 = .ok (.getfield 19, 3) := dk_180 0 19 (dk_at dksX1_trim_0 8 rfl rfl)
theorem dX1_trim_11 : decode cX1_trim 11 = .ok (.iload_n 1, 1) := dk_27 (dk_at dksX1_trim_0 11 rfl rfl)
theorem dX1_trim_12 : decode cX1_trim 12 = .ok (.iconst 3, 1) := dk_6 (dk_at dksX1_trim_0 12 rfl rfl)
theorem dX1_trim_13 : decode cX1_trim 13 = .ok (.iand, 1) := dk_126 (dk_at dksX1_trim_0 13 rfl rfl)
theorem dX1_trim_14 : decode cX1_trim 14 = .ok (.aaload, 1) := dk_50 (dk_at dksX1_trim_0 14 rfl rfl)
theorem dX1_trim_15 : decode cX1_trim 15 = .ok (.invokevirtual 59, 3) := dk_182 0 59 (dk_at dksX1_trim_0 15 rfl rfl)
theorem dX1_trim_18 : decode cX1_trim 18 = .ok (.aastore, 1) := dk_83 (dk_at dksX1_trim_0 18 rfl rfl)
theorem dX1_trim_19 : decode cX1_trim 19 = .ok (.return_, 1) := dk_177 (dk_at dksX1_trim_0 19 rfl rfl)
abbrev cX1_holds : ByteArray := prog_1_method_12_code
def yX1_holds : MethodName := ⟨RX1, "holds", "(III)Z"⟩
def dkwX1_holds_0 : List UInt8 := [42, 180, 0, 19, 27, 6, 126, 50, 28, 29, 184, 0, 33, 182, 0, 77, 172]
abbrev dktX1_holds_0 : List UInt8 := dkwX1_holds_0 ++ []
theorem dksX1_holds_0 : cX1_holds.data.toList.drop 0 = dktX1_holds_0 := by decide +kernel
theorem dX1_holds_0 : decode cX1_holds 0 = .ok (.aload_n 0, 1) := dk_42 (dk_at dksX1_holds_0 0 rfl rfl)
theorem dX1_holds_1 : decode cX1_holds 1 = .ok (.getfield 19, 3) := dk_180 0 19 (dk_at dksX1_holds_0 1 rfl rfl)
theorem dX1_holds_4 : decode cX1_holds 4 = .ok (.iload_n 1, 1) := dk_27 (dk_at dksX1_holds_0 4 rfl rfl)
theorem dX1_holds_5 : decode cX1_holds 5 = .ok (.iconst 3, 1) := dk_6 (dk_at dksX1_holds_0 5 rfl rfl)
theorem dX1_holds_6 : decode cX1_holds 6 = .ok (.iand, 1) := dk_126 (dk_at dksX1_holds_0 6 rfl rfl)
theorem dX1_holds_7 : decode cX1_holds 7 = .ok (.aaload, 1) := dk_50 (dk_at dksX1_holds_0 7 rfl rfl)
theorem dX1_holds_8 : decode cX1_holds 8 = .ok (.iload_n 2, 1) := dk_28 (dk_at dksX1_holds_0 8 rfl rfl)
theorem dX1_holds_9 : decode cX1_holds 9 = .ok (.iload_n 3, 1) := dk_29 (dk_at dksX1_holds_0 9 rfl rfl)
theorem dX1_holds_10 : decode cX1_holds 10 = .ok (.invokestatic 33, 3) := dk_184 0 33 (dk_at dksX1_holds_0 10 rfl rfl)
theorem dX1_holds_13 : decode cX1_holds 13 = .ok (.invokevirtual 77, 3) := dk_182 0 77 (dk_at dksX1_holds_0 13 rfl rfl)
theorem dX1_holds_16 : decode cX1_holds 16 = .ok (.ireturn, 1) := dk_172 (dk_at dksX1_holds_0 16 rfl rfl)
theorem q4 : (Jvm.Cond.initialized "FixedRowDesk") ∈ lw_all := lw_g (lw_at lw_m1 1 rfl) rfl
theorem q21 : (Jvm.Cond.instantiable "FixedRowDesk" (3 : Nat)) ∈ lw_all := lw_g (lw_at lw_m1 18 rfl) rfl
theorem q23 : (Jvm.Cond.instanceMethod ({ cls := "FixedRowDesk", name := "<init>", desc := "()V" } : Jvm.MethodName)) ∈ lw_all := lw_g (lw_at lw_m1 20 rfl) rfl
theorem q24 : (Jvm.Cond.code ({ cls := "FixedRowDesk", name := "<init>", desc := "()V" } : Jvm.MethodName) prog_1_method_1_code (2 : Nat) (Option.none : Option Jvm.ClassFile.FieldType)) ∈ lw_all := lw_g (lw_at lw_m1 21 rfl) rfl
theorem q25 : (Jvm.Cond.methodLink "FixedRowDesk" (1 : Nat) ({ cls := "java/lang/Object", name := "<init>", desc := "()V" } : Jvm.MethodName)) ∈ lw_all := lw_g (lw_at lw_m1 22 rfl) rfl
theorem q28 : (Jvm.Cond.methodLink "FixedRowDesk" (7 : Nat) ({ cls := "ImmutableLongArray", name := "builder", desc := "(I)LImmutableLongArray$Builder;" } : Jvm.MethodName)) ∈ lw_all := lw_g (lw_at lw_m1 25 rfl) rfl
theorem q117 : (Jvm.Cond.classLink "FixedRowDesk" (8 : Nat) "ImmutableLongArray") ∈ lw_all := lw_g (lw_at lw_m1 114 rfl) rfl
theorem q119 : (Jvm.Cond.methodLink "FixedRowDesk" (23 : Nat) ({ cls := "ImmutableLongArray", name := "of", desc := "(J)LImmutableLongArray;" } : Jvm.MethodName)) ∈ lw_all := lw_g (lw_at lw_m1 116 rfl) rfl
theorem q143 : (Jvm.Cond.fieldLink "FixedRowDesk" (13 : Nat) "FixedRowDesk" "maker" "LImmutableLongArray$Builder;") ∈ lw_all := lw_g (lw_at lw_m1 140 rfl) rfl
theorem q144 : (Jvm.Cond.fieldLink "FixedRowDesk" (29 : Nat) "FixedRowDesk" "made" "I") ∈ lw_all := lw_g (lw_at lw_m1 141 rfl) rfl
theorem q145 : (Jvm.Cond.fieldLink "FixedRowDesk" (19 : Nat) "FixedRowDesk" "rows" "[LImmutableLongArray;") ∈ lw_all := lw_g (lw_at lw_m1 142 rfl) rfl
theorem q146 : (Jvm.Cond.lays "FixedRowDesk" "FixedRowDesk" "maker" "LImmutableLongArray$Builder;") ∈ lw_all := lw_g (lw_at lw_m1 143 rfl) rfl
theorem q147 : (Jvm.Cond.soleField "FixedRowDesk" "maker") ∈ lw_all := lw_g (lw_at lw_m1 144 rfl) rfl
theorem q148 : (Jvm.Cond.lays "FixedRowDesk" "FixedRowDesk" "made" "I") ∈ lw_all := lw_g (lw_at lw_m1 145 rfl) rfl
theorem q149 : (Jvm.Cond.soleField "FixedRowDesk" "made") ∈ lw_all := lw_g (lw_at lw_m1 146 rfl) rfl
theorem q150 : (Jvm.Cond.laysFinal "FixedRowDesk" "FixedRowDesk" "rows" "[LImmutableLongArray;") ∈ lw_all := lw_g (lw_at lw_m1 147 rfl) rfl
theorem q151 : (Jvm.Cond.soleField "FixedRowDesk" "rows") ∈ lw_all := lw_g (lw_at lw_m1 148 rfl) rfl
theorem q152 : (Jvm.Cond.superclass "FixedRowDesk" "java/lang/Object") ∈ lw_all := lw_g (lw_at lw_m1 149 rfl) rfl
theorem q154 : (Jvm.Cond.instanceMethod ({ cls := "FixedRowDesk", name := "addRow", desc := "(I)Z" } : Jvm.MethodName)) ∈ lw_all := lw_g (lw_at lw_m1 151 rfl) rfl
theorem q155 : (Jvm.Cond.selects "FixedRowDesk" ({ cls := "FixedRowDesk", name := "addRow", desc := "(I)Z" } : Jvm.MethodName) ({ cls := "FixedRowDesk", name := "addRow", desc := "(I)Z" } : Jvm.MethodName)) ∈ lw_all := lw_g (lw_at lw_m1 152 rfl) rfl
theorem q156 : (Jvm.Cond.code ({ cls := "FixedRowDesk", name := "addRow", desc := "(I)Z" } : Jvm.MethodName) prog_1_method_4_code (3 : Nat) (Option.some Jvm.ClassFile.FieldType.boolean)) ∈ lw_all := lw_g (lw_at lw_m1 153 rfl) rfl
theorem q157 : (Jvm.Cond.methodLink "FixedRowDesk" (42 : Nat) ({ cls := "ImmutableLongArray", name := "length", desc := "()I" } : Jvm.MethodName)) ∈ lw_all := lw_g (lw_at lw_m1 154 rfl) rfl
theorem q161 : (Jvm.Cond.methodLink "FixedRowDesk" (46 : Nat) ({ cls := "ImmutableLongArray$Builder", name := "addAll", desc := "(LImmutableLongArray;)LImmutableLongArray$Builder;" } : Jvm.MethodName)) ∈ lw_all := lw_g (lw_at lw_m1 158 rfl) rfl
theorem q216 : (Jvm.Cond.instanceMethod ({ cls := "FixedRowDesk", name := "build", desc := "(I)I" } : Jvm.MethodName)) ∈ lw_all := lw_g (lw_at lw_m1 213 rfl) rfl
theorem q217 : (Jvm.Cond.selects "FixedRowDesk" ({ cls := "FixedRowDesk", name := "build", desc := "(I)I" } : Jvm.MethodName) ({ cls := "FixedRowDesk", name := "build", desc := "(I)I" } : Jvm.MethodName)) ∈ lw_all := lw_g (lw_at lw_m1 214 rfl) rfl
theorem q218 : (Jvm.Cond.code ({ cls := "FixedRowDesk", name := "build", desc := "(I)I" } : Jvm.MethodName) prog_1_method_5_code (2 : Nat) (Option.some Jvm.ClassFile.FieldType.int)) ∈ lw_all := lw_g (lw_at lw_m1 215 rfl) rfl
theorem q219 : (Jvm.Cond.methodLink "FixedRowDesk" (50 : Nat) ({ cls := "ImmutableLongArray$Builder", name := "build", desc := "()LImmutableLongArray;" } : Jvm.MethodName)) ∈ lw_all := lw_g (lw_at lw_m1 216 rfl) rfl
theorem q227 : (Jvm.Cond.instanceMethod ({ cls := "FixedRowDesk", name := "anew", desc := "(I)V" } : Jvm.MethodName)) ∈ lw_all := lw_g (lw_at lw_m1 224 rfl) rfl
theorem q228 : (Jvm.Cond.selects "FixedRowDesk" ({ cls := "FixedRowDesk", name := "anew", desc := "(I)V" } : Jvm.MethodName) ({ cls := "FixedRowDesk", name := "anew", desc := "(I)V" } : Jvm.MethodName)) ∈ lw_all := lw_g (lw_at lw_m1 225 rfl) rfl
theorem q229 : (Jvm.Cond.code ({ cls := "FixedRowDesk", name := "anew", desc := "(I)V" } : Jvm.MethodName) prog_1_method_6_code (2 : Nat) (Option.none : Option Jvm.ClassFile.FieldType)) ∈ lw_all := lw_g (lw_at lw_m1 226 rfl) rfl
theorem q231 : (Jvm.Cond.instanceMethod ({ cls := "FixedRowDesk", name := "part", desc := "(IIII)I" } : Jvm.MethodName)) ∈ lw_all := lw_g (lw_at lw_m1 228 rfl) rfl
theorem q232 : (Jvm.Cond.selects "FixedRowDesk" ({ cls := "FixedRowDesk", name := "part", desc := "(IIII)I" } : Jvm.MethodName) ({ cls := "FixedRowDesk", name := "part", desc := "(IIII)I" } : Jvm.MethodName)) ∈ lw_all := lw_g (lw_at lw_m1 229 rfl) rfl
theorem q233 : (Jvm.Cond.code ({ cls := "FixedRowDesk", name := "part", desc := "(IIII)I" } : Jvm.MethodName) prog_1_method_7_code (8 : Nat) (Option.some Jvm.ClassFile.FieldType.int)) ∈ lw_all := lw_g (lw_at lw_m1 230 rfl) rfl
theorem q234 : (Jvm.Cond.constant "FixedRowDesk" (54 : Nat) (2147483647 : Int32)) ∈ lw_all := lw_g (lw_at lw_m1 231 rfl) rfl
theorem q235 : (Jvm.Cond.methodLink "FixedRowDesk" (55 : Nat) ({ cls := "ImmutableLongArray", name := "subArray", desc := "(II)LImmutableLongArray;" } : Jvm.MethodName)) ∈ lw_all := lw_g (lw_at lw_m1 232 rfl) rfl
theorem q259 : (Jvm.Cond.instanceMethod ({ cls := "FixedRowDesk", name := "get", desc := "(II)J" } : Jvm.MethodName)) ∈ lw_all := lw_g (lw_at lw_m2 16 rfl) rfl
theorem q260 : (Jvm.Cond.selects "FixedRowDesk" ({ cls := "FixedRowDesk", name := "get", desc := "(II)J" } : Jvm.MethodName) ({ cls := "FixedRowDesk", name := "get", desc := "(II)J" } : Jvm.MethodName)) ∈ lw_all := lw_g (lw_at lw_m2 17 rfl) rfl
theorem q261 : (Jvm.Cond.code ({ cls := "FixedRowDesk", name := "get", desc := "(II)J" } : Jvm.MethodName) prog_1_method_9_code (4 : Nat) (Option.some Jvm.ClassFile.FieldType.long)) ∈ lw_all := lw_g (lw_at lw_m2 18 rfl) rfl
theorem q262 : (Jvm.Cond.methodLink "FixedRowDesk" (62 : Nat) ({ cls := "ImmutableLongArray", name := "isEmpty", desc := "()Z" } : Jvm.MethodName)) ∈ lw_all := lw_g (lw_at lw_m2 19 rfl) rfl
theorem q266 : (Jvm.Cond.methodLink "FixedRowDesk" (66 : Nat) ({ cls := "ImmutableLongArray", name := "get", desc := "(I)J" } : Jvm.MethodName)) ∈ lw_all := lw_g (lw_at lw_m2 23 rfl) rfl
theorem q278 : (Jvm.Cond.instanceMethod ({ cls := "FixedRowDesk", name := "first", desc := "(III)I" } : Jvm.MethodName)) ∈ lw_all := lw_g (lw_at lw_m2 35 rfl) rfl
theorem q279 : (Jvm.Cond.selects "FixedRowDesk" ({ cls := "FixedRowDesk", name := "first", desc := "(III)I" } : Jvm.MethodName) ({ cls := "FixedRowDesk", name := "first", desc := "(III)I" } : Jvm.MethodName)) ∈ lw_all := lw_g (lw_at lw_m2 36 rfl) rfl
theorem q280 : (Jvm.Cond.code ({ cls := "FixedRowDesk", name := "first", desc := "(III)I" } : Jvm.MethodName) prog_1_method_10_code (4 : Nat) (Option.some Jvm.ClassFile.FieldType.int)) ∈ lw_all := lw_g (lw_at lw_m2 37 rfl) rfl
theorem q281 : (Jvm.Cond.methodLink "FixedRowDesk" (33 : Nat) ({ cls := "FixedRowDesk", name := "of", desc := "(II)J" } : Jvm.MethodName)) ∈ lw_all := lw_g (lw_at lw_m2 38 rfl) rfl
theorem q282 : (Jvm.Cond.static ({ cls := "FixedRowDesk", name := "of", desc := "(II)J" } : Jvm.MethodName)) ∈ lw_all := lw_g (lw_at lw_m2 39 rfl) rfl
theorem q283 : (Jvm.Cond.code ({ cls := "FixedRowDesk", name := "of", desc := "(II)J" } : Jvm.MethodName) prog_1_method_2_code (2 : Nat) (Option.some Jvm.ClassFile.FieldType.long)) ∈ lw_all := lw_g (lw_at lw_m2 40 rfl) rfl
theorem q284 : (Jvm.Cond.constantLong "FixedRowDesk" (27 : Nat) (4294967295 : Int64)) ∈ lw_all := lw_g (lw_at lw_m2 41 rfl) rfl
theorem q285 : (Jvm.Cond.methodLink "FixedRowDesk" (70 : Nat) ({ cls := "ImmutableLongArray", name := "indexOf", desc := "(J)I" } : Jvm.MethodName)) ∈ lw_all := lw_g (lw_at lw_m2 42 rfl) rfl
theorem q290 : (Jvm.Cond.instanceMethod ({ cls := "FixedRowDesk", name := "last", desc := "(III)I" } : Jvm.MethodName)) ∈ lw_all := lw_g (lw_at lw_m2 47 rfl) rfl
theorem q291 : (Jvm.Cond.selects "FixedRowDesk" ({ cls := "FixedRowDesk", name := "last", desc := "(III)I" } : Jvm.MethodName) ({ cls := "FixedRowDesk", name := "last", desc := "(III)I" } : Jvm.MethodName)) ∈ lw_all := lw_g (lw_at lw_m2 48 rfl) rfl
theorem q292 : (Jvm.Cond.code ({ cls := "FixedRowDesk", name := "last", desc := "(III)I" } : Jvm.MethodName) prog_1_method_11_code (4 : Nat) (Option.some Jvm.ClassFile.FieldType.int)) ∈ lw_all := lw_g (lw_at lw_m2 49 rfl) rfl
theorem q293 : (Jvm.Cond.methodLink "FixedRowDesk" (74 : Nat) ({ cls := "ImmutableLongArray", name := "lastIndexOf", desc := "(J)I" } : Jvm.MethodName)) ∈ lw_all := lw_g (lw_at lw_m2 50 rfl) rfl
theorem q298 : (Jvm.Cond.instanceMethod ({ cls := "FixedRowDesk", name := "length", desc := "(I)I" } : Jvm.MethodName)) ∈ lw_all := lw_g (lw_at lw_m2 55 rfl) rfl
theorem q299 : (Jvm.Cond.selects "FixedRowDesk" ({ cls := "FixedRowDesk", name := "length", desc := "(I)I" } : Jvm.MethodName) ({ cls := "FixedRowDesk", name := "length", desc := "(I)I" } : Jvm.MethodName)) ∈ lw_all := lw_g (lw_at lw_m2 56 rfl) rfl
theorem q300 : (Jvm.Cond.code ({ cls := "FixedRowDesk", name := "length", desc := "(I)I" } : Jvm.MethodName) prog_1_method_13_code (2 : Nat) (Option.some Jvm.ClassFile.FieldType.int)) ∈ lw_all := lw_g (lw_at lw_m2 57 rfl) rfl
theorem q302 : (Jvm.Cond.instanceMethod ({ cls := "FixedRowDesk", name := "same", desc := "(II)Z" } : Jvm.MethodName)) ∈ lw_all := lw_g (lw_at lw_m2 59 rfl) rfl
theorem q303 : (Jvm.Cond.selects "FixedRowDesk" ({ cls := "FixedRowDesk", name := "same", desc := "(II)Z" } : Jvm.MethodName) ({ cls := "FixedRowDesk", name := "same", desc := "(II)Z" } : Jvm.MethodName)) ∈ lw_all := lw_g (lw_at lw_m2 60 rfl) rfl
theorem q304 : (Jvm.Cond.code ({ cls := "FixedRowDesk", name := "same", desc := "(II)Z" } : Jvm.MethodName) prog_1_method_14_code (3 : Nat) (Option.some Jvm.ClassFile.FieldType.boolean)) ∈ lw_all := lw_g (lw_at lw_m2 61 rfl) rfl
theorem q305 : (Jvm.Cond.methodLink "FixedRowDesk" (81 : Nat) ({ cls := "ImmutableLongArray", name := "equals", desc := "(Ljava/lang/Object;)Z" } : Jvm.MethodName)) ∈ lw_all := lw_g (lw_at lw_m2 62 rfl) rfl
theorem q311 : (Jvm.Cond.instanceMethod ({ cls := "FixedRowDesk", name := "hash", desc := "(I)I" } : Jvm.MethodName)) ∈ lw_all := lw_g (lw_at lw_m2 68 rfl) rfl
theorem q312 : (Jvm.Cond.selects "FixedRowDesk" ({ cls := "FixedRowDesk", name := "hash", desc := "(I)I" } : Jvm.MethodName) ({ cls := "FixedRowDesk", name := "hash", desc := "(I)I" } : Jvm.MethodName)) ∈ lw_all := lw_g (lw_at lw_m2 69 rfl) rfl
theorem q313 : (Jvm.Cond.code ({ cls := "FixedRowDesk", name := "hash", desc := "(I)I" } : Jvm.MethodName) prog_1_method_15_code (2 : Nat) (Option.some Jvm.ClassFile.FieldType.int)) ∈ lw_all := lw_g (lw_at lw_m2 70 rfl) rfl
theorem q314 : (Jvm.Cond.methodLink "FixedRowDesk" (85 : Nat) ({ cls := "ImmutableLongArray", name := "hashCode", desc := "()I" } : Jvm.MethodName)) ∈ lw_all := lw_g (lw_at lw_m2 71 rfl) rfl
theorem q322 : (Jvm.Cond.instanceMethod ({ cls := "FixedRowDesk", name := "whole", desc := "(I)J" } : Jvm.MethodName)) ∈ lw_all := lw_g (lw_at lw_m2 79 rfl) rfl
theorem q323 : (Jvm.Cond.selects "FixedRowDesk" ({ cls := "FixedRowDesk", name := "whole", desc := "(I)J" } : Jvm.MethodName) ({ cls := "FixedRowDesk", name := "whole", desc := "(I)J" } : Jvm.MethodName)) ∈ lw_all := lw_g (lw_at lw_m2 80 rfl) rfl
theorem q324 : (Jvm.Cond.code ({ cls := "FixedRowDesk", name := "whole", desc := "(I)J" } : Jvm.MethodName) prog_1_method_16_code (6 : Nat) (Option.some Jvm.ClassFile.FieldType.long)) ∈ lw_all := lw_g (lw_at lw_m2 81 rfl) rfl
theorem q325 : (Jvm.Cond.methodLink "FixedRowDesk" (88 : Nat) ({ cls := "ImmutableLongArray", name := "toArray", desc := "()[J" } : Jvm.MethodName)) ∈ lw_all := lw_g (lw_at lw_m2 82 rfl) rfl
theorem q338 : (Jvm.Cond.constantLong "FixedRowDesk" (92 : Nat) (31 : Int64)) ∈ lw_all := lw_g (lw_at lw_m2 95 rfl) rfl
theorem q359 : (Jvm.Cond.instanceMethod ({ cls := "FixedRowDesk", name := "add", desc := "(II)Z" } : Jvm.MethodName)) ∈ lw_all := lw_g (lw_at lw_m2 116 rfl) rfl
theorem q360 : (Jvm.Cond.selects "FixedRowDesk" ({ cls := "FixedRowDesk", name := "add", desc := "(II)Z" } : Jvm.MethodName) ({ cls := "FixedRowDesk", name := "add", desc := "(II)Z" } : Jvm.MethodName)) ∈ lw_all := lw_g (lw_at lw_m2 117 rfl) rfl
theorem q361 : (Jvm.Cond.code ({ cls := "FixedRowDesk", name := "add", desc := "(II)Z" } : Jvm.MethodName) prog_1_method_3_code (3 : Nat) (Option.some Jvm.ClassFile.FieldType.boolean)) ∈ lw_all := lw_g (lw_at lw_m2 118 rfl) rfl
theorem q362 : (Jvm.Cond.methodLink "FixedRowDesk" (36 : Nat) ({ cls := "ImmutableLongArray$Builder", name := "add", desc := "(J)LImmutableLongArray$Builder;" } : Jvm.MethodName)) ∈ lw_all := lw_g (lw_at lw_m2 119 rfl) rfl
theorem q376 : (Jvm.Cond.instanceMethod ({ cls := "FixedRowDesk", name := "trim", desc := "(I)V" } : Jvm.MethodName)) ∈ lw_all := lw_g (lw_at lw_m2 133 rfl) rfl
theorem q377 : (Jvm.Cond.selects "FixedRowDesk" ({ cls := "FixedRowDesk", name := "trim", desc := "(I)V" } : Jvm.MethodName) ({ cls := "FixedRowDesk", name := "trim", desc := "(I)V" } : Jvm.MethodName)) ∈ lw_all := lw_g (lw_at lw_m2 134 rfl) rfl
theorem q378 : (Jvm.Cond.code ({ cls := "FixedRowDesk", name := "trim", desc := "(I)V" } : Jvm.MethodName) prog_1_method_8_code (2 : Nat) (Option.none : Option Jvm.ClassFile.FieldType)) ∈ lw_all := lw_g (lw_at lw_m2 135 rfl) rfl
theorem q379 : (Jvm.Cond.methodLink "FixedRowDesk" (59 : Nat) ({ cls := "ImmutableLongArray", name := "trimmed", desc := "()LImmutableLongArray;" } : Jvm.MethodName)) ∈ lw_all := lw_g (lw_at lw_m2 136 rfl) rfl
theorem q395 : (Jvm.Cond.instanceMethod ({ cls := "FixedRowDesk", name := "holds", desc := "(III)Z" } : Jvm.MethodName)) ∈ lw_all := lw_g (lw_at lw_m2 152 rfl) rfl
theorem q396 : (Jvm.Cond.selects "FixedRowDesk" ({ cls := "FixedRowDesk", name := "holds", desc := "(III)Z" } : Jvm.MethodName) ({ cls := "FixedRowDesk", name := "holds", desc := "(III)Z" } : Jvm.MethodName)) ∈ lw_all := lw_g (lw_at lw_m2 153 rfl) rfl
theorem q397 : (Jvm.Cond.code ({ cls := "FixedRowDesk", name := "holds", desc := "(III)Z" } : Jvm.MethodName) prog_1_method_12_code (4 : Nat) (Option.some Jvm.ClassFile.FieldType.boolean)) ∈ lw_all := lw_g (lw_at lw_m2 154 rfl) rfl
theorem q398 : (Jvm.Cond.methodLink "FixedRowDesk" (77 : Nat) ({ cls := "ImmutableLongArray", name := "contains", desc := "(J)Z" } : Jvm.MethodName)) ∈ lw_all := lw_g (lw_at lw_m2 155 rfl) rfl
theorem in_X1 : ∀ w ∈ wsX10, w ∈ lw_all := lw_in wsX10 [146, 148, 150] (by decide +kernel) (by decide +kernel)
/-! ImmutableLongArray -/
set_option maxRecDepth 100000
def RX2 : String := "ImmutableLongArray"
def TX2 : u_T := fun k => match k with
  | 0 => ("ImmutableLongArray", "array", "[J", true)
  | 1 => ("ImmutableLongArray", "start", "I", true)
  | _ => ("ImmutableLongArray", "end", "I", true)
def tyX2 : Nat → FieldType := fun k => match k with
  | 0 => .array .long
  | 1 => .int
  | _ => .int
abbrev wsX20 : List Cond := u_ws RX2 TX2 3
theorem nmX2 : ∀ a, a < 3 → ∀ b, b < 3 → a ≠ b → (TX2 a).2.1 ≠ (TX2 b).2.1 := by decide +kernel
theorem tyX2_ok : ∀ k, k < 3 → parseFieldDescriptor (TX2 k).2.2.1 = some (tyX2 k) := by decide +kernel
abbrev cX2_builder : ByteArray := prog_3_method_2_code
def yX2_builder : MethodName := ⟨RX2, "builder", "(I)LImmutableLongArray$Builder;"⟩
def dkwX2_builder_0 : List UInt8 := [26, 155, 0, 7, 4, 167, 0, 4, 3, 18, 7, 26, 184, 0, 9, 187, 0, 15, 89, 26, 183, 0, 17, 176]
abbrev dktX2_builder_0 : List UInt8 := dkwX2_builder_0 ++ []
theorem dksX2_builder_0 : cX2_builder.data.toList.drop 0 = dktX2_builder_0 := by decide +kernel
theorem dX2_builder_0 : decode cX2_builder 0 = .ok (.iload_n 0, 1) := dk_26 (dk_at dksX2_builder_0 0 rfl rfl)
theorem dX2_builder_1 : decode cX2_builder 1 = .ok (.ifCond .lt 7, 3) := dk_155 0 7 (dk_at dksX2_builder_0 1 rfl rfl)
theorem dX2_builder_4 : decode cX2_builder 4 = .ok (.iconst 1, 1) := dk_4 (dk_at dksX2_builder_0 4 rfl rfl)
theorem dX2_builder_5 : decode cX2_builder 5 = .ok (.goto 4, 3) := dk_167 0 4 (dk_at dksX2_builder_0 5 rfl rfl)
theorem dX2_builder_8 : decode cX2_builder 8 = .ok (.iconst 0, 1) := dk_3 (dk_at dksX2_builder_0 8 rfl rfl)
theorem dX2_builder_9 : decode cX2_builder 9 = .ok (.ldc 7, 2) := dk_18 7 (dk_at dksX2_builder_0 9 rfl rfl)
theorem dX2_builder_11 : decode cX2_builder 11 = .ok (.iload_n 0, 1) := dk_26 (dk_at dksX2_builder_0 11 rfl rfl)
theorem dX2_builder_12 : decode cX2_builder 12 = .ok (.invokestatic 9, 3) := dk_184 0 9 (dk_at dksX2_builder_0 12 rfl rfl)
theorem dX2_builder_15 : decode cX2_builder 15 = .ok (.new 15, 3) := dk_187 0 15 (dk_at dksX2_builder_0 15 rfl rfl)
theorem dX2_builder_18 : decode cX2_builder 18 = .ok (.dup, 1) := dk_89 (dk_at dksX2_builder_0 18 rfl rfl)
theorem dX2_builder_19 : decode cX2_builder 19 = .ok (.iload_n 0, 1) := dk_26 (dk_at dksX2_builder_0 19 rfl rfl)
theorem dX2_builder_20 : decode cX2_builder 20 = .ok (.invokespecial 17, 3) := dk_183 0 17 (dk_at dksX2_builder_0 20 rfl rfl)
theorem dX2_builder_23 : decode cX2_builder 23 = .ok (.areturn, 1) := dk_176 (dk_at dksX2_builder_0 23 rfl rfl)
abbrev cX2_of : ByteArray := prog_3_method_1_code
def yX2_of : MethodName := ⟨RX2, "of", "(J)LImmutableLongArray;"⟩
def dkwX2_of_0 : List UInt8 := [187, 0, 1, 89, 4, 188, 11, 89, 3, 30, 80, 183, 0, 3, 176]
abbrev dktX2_of_0 : List UInt8 := dkwX2_of_0 ++ []
theorem dksX2_of_0 : cX2_of.data.toList.drop 0 = dktX2_of_0 := by decide +kernel
theorem dX2_of_0 : decode cX2_of 0 = .ok (.new 1, 3) := dk_187 0 1 (dk_at dksX2_of_0 0 rfl rfl)
theorem dX2_of_3 : decode cX2_of 3 = .ok (.dup, 1) := dk_89 (dk_at dksX2_of_0 3 rfl rfl)
theorem dX2_of_4 : decode cX2_of 4 = .ok (.iconst 1, 1) := dk_4 (dk_at dksX2_of_0 4 rfl rfl)
theorem dX2_of_5 : decode cX2_of 5 = .ok (.newarray .long, 2) := dk_188_11 (dk_at dksX2_of_0 5 rfl rfl)
theorem dX2_of_7 : decode cX2_of 7 = .ok (.dup, 1) := dk_89 (dk_at dksX2_of_0 7 rfl rfl)
theorem dX2_of_8 : decode cX2_of 8 = .ok (.iconst 0, 1) := dk_3 (dk_at dksX2_of_0 8 rfl rfl)
theorem dX2_of_9 : decode cX2_of 9 = .ok (.lload_n 0, 1) := dk_30 (dk_at dksX2_of_0 9 rfl rfl)
theorem dX2_of_10 : decode cX2_of 10 = .ok (.lastore, 1) := dk_80 (dk_at dksX2_of_0 10 rfl rfl)
theorem dX2_of_11 : decode cX2_of 11 = .ok (.invokespecial 3, 3) := dk_183 0 3 (dk_at dksX2_of_0 11 rfl rfl)
theorem dX2_of_14 : decode cX2_of 14 = .ok (.areturn, 1) := dk_176 (dk_at dksX2_of_0 14 rfl rfl)
abbrev cX2_init : ByteArray := prog_3_method_3_code
def yX2_init : MethodName := ⟨RX2, "<init>", "([J)V"⟩
def dkwX2_init_0 : List UInt8 := [42, 43, 3, 43, 190, 183, 0, 20, 177]
abbrev dktX2_init_0 : List UInt8 := dkwX2_init_0 ++ []
theorem dksX2_init_0 : cX2_init.data.toList.drop 0 = dktX2_init_0 := by decide +kernel
theorem dX2_init_0 : decode cX2_init 0 = .ok (.aload_n 0, 1) := dk_42 (dk_at dksX2_init_0 0 rfl rfl)
theorem dX2_init_1 : decode cX2_init 1 = .ok (.aload_n 1, 1) := dk_43 (dk_at dksX2_init_0 1 rfl rfl)
theorem dX2_init_2 : decode cX2_init 2 = .ok (.iconst 0, 1) := dk_3 (dk_at dksX2_init_0 2 rfl rfl)
theorem dX2_init_3 : decode cX2_init 3 = .ok (.aload_n 1, 1) := dk_43 (dk_at dksX2_init_0 3 rfl rfl)
theorem dX2_init_4 : decode cX2_init 4 = .ok (.arraylength, 1) := dk_190 (dk_at dksX2_init_0 4 rfl rfl)
theorem dX2_init_5 : decode cX2_init 5 = .ok (.invokespecial 20, 3) := dk_183 0 20 (dk_at dksX2_init_0 5 rfl rfl)
theorem dX2_init_8 : decode cX2_init 8 = .ok (.return_, 1) := dk_177 (dk_at dksX2_init_0 8 rfl rfl)
abbrev cX2_init_2 : ByteArray := prog_3_method_4_code
def yX2_init_2 : MethodName := ⟨RX2, "<init>", "([JII)V"⟩
def dkwX2_init_2_0 : List UInt8 := [42, 183, 0, 23, 42, 43, 181, 0, 28, 42, 28, 181, 0, 32, 42, 29, 181, 0, 36, 177]
abbrev dktX2_init_2_0 : List UInt8 := dkwX2_init_2_0 ++ []
theorem dksX2_init_2_0 : cX2_init_2.data.toList.drop 0 = dktX2_init_2_0 := by decide +kernel
theorem dX2_init_2_0 : decode cX2_init_2 0 = .ok (.aload_n 0, 1) := dk_42 (dk_at dksX2_init_2_0 0 rfl rfl)
theorem dX2_init_2_1 : decode cX2_init_2 1 = .ok (.invokespecial 23, 3) := dk_183 0 23 (dk_at dksX2_init_2_0 1 rfl rfl)
theorem dX2_init_2_4 : decode cX2_init_2 4 = .ok (.aload_n 0, 1) := dk_42 (dk_at dksX2_init_2_0 4 rfl rfl)
theorem dX2_init_2_5 : decode cX2_init_2 5 = .ok (.aload_n 1, 1) := dk_43 (dk_at dksX2_init_2_0 5 rfl rfl)
theorem dX2_init_2_6 : decode cX2_init_2 6 = .ok (.putfield 28, 3) := dk_181 0 28 (dk_at dksX2_init_2_0 6 rfl rfl)
theorem dX2_init_2_9 : decode cX2_init_2 9 = .ok (.aload_n 0, 1) := dk_42 (dk_at dksX2_init_2_0 9 rfl rfl)
theorem dX2_init_2_10 : decode cX2_init_2 10 = .ok (.iload_n 2, 1) := dk_28 (dk_at dksX2_init_2_0 10 rfl rfl)
theorem dX2_init_2_11 : decode cX2_init_2 11 = .ok (.putfield 32, 3) := dk_181 0 32 (dk_at dksX2_init_2_0 11 rfl rfl)
theorem dX2_init_2_14 : decode cX2_init_2 14 = .ok (.aload_n 0, 1) := dk_42 (dk_at dksX2_init_2_0 14 rfl rfl)
theorem dX2_init_2_15 : decode cX2_init_2 15 = .ok (.iload_n 3, 1) := dk_29 (dk_at dksX2_init_2_0 15 rfl rfl)
theorem dX2_init_2_16 : decode cX2_init_2 16 = .ok (.putfield 36, 3) := dk_181 0 36 (dk_at dksX2_init_2_0 16 rfl rfl)
theorem dX2_init_2_19 : decode cX2_init_2 19 = .ok (.return_, 1) := dk_177 (dk_at dksX2_init_2_0 19 rfl rfl)
abbrev cX2_length : ByteArray := prog_3_method_5_code
def yX2_length : MethodName := ⟨RX2, "length", "()I"⟩
def dkwX2_length_0 : List UInt8 := [42, 180, 0, 36, 42, 180, 0, 32, 100, 172]
abbrev dktX2_length_0 : List UInt8 := dkwX2_length_0 ++ []
theorem dksX2_length_0 : cX2_length.data.toList.drop 0 = dktX2_length_0 := by decide +kernel
theorem dX2_length_0 : decode cX2_length 0 = .ok (.aload_n 0, 1) := dk_42 (dk_at dksX2_length_0 0 rfl rfl)
theorem dX2_length_1 : decode cX2_length 1 = .ok (.getfield 36, 3) := dk_180 0 36 (dk_at dksX2_length_0 1 rfl rfl)
theorem dX2_length_4 : decode cX2_length 4 = .ok (.aload_n 0, 1) := dk_42 (dk_at dksX2_length_0 4 rfl rfl)
theorem dX2_length_5 : decode cX2_length 5 = .ok (.getfield 32, 3) := dk_180 0 32 (dk_at dksX2_length_0 5 rfl rfl)
theorem dX2_length_8 : decode cX2_length 8 = .ok (.isub, 1) := dk_100 (dk_at dksX2_length_0 8 rfl rfl)
theorem dX2_length_9 : decode cX2_length 9 = .ok (.ireturn, 1) := dk_172 (dk_at dksX2_length_0 9 rfl rfl)
abbrev cX2_subArray : ByteArray := prog_3_method_12_code
def yX2_subArray : MethodName := ⟨RX2, "subArray", "(II)LImmutableLongArray;"⟩
def dkwX2_subArray_2 : List UInt8 := [183, 0, 20, 176]
abbrev dktX2_subArray_2 : List UInt8 := dkwX2_subArray_2 ++ []
def dkwX2_subArray_1 : List UInt8 := [167, 0, 26, 187, 0, 1, 89, 42, 180, 0, 28, 42, 180, 0, 32, 27, 96, 42, 180, 0, 32, 28, 96]
abbrev dktX2_subArray_1 : List UInt8 := dkwX2_subArray_1 ++ dktX2_subArray_2
def dkwX2_subArray_0 : List UInt8 := [27, 28, 42, 182, 0, 39, 184, 0, 57, 27, 28, 160, 0, 16, 187, 0, 1, 89, 3, 188, 11, 183, 0, 3]
abbrev dktX2_subArray_0 : List UInt8 := dkwX2_subArray_0 ++ dktX2_subArray_1
theorem dksX2_subArray_0 : cX2_subArray.data.toList.drop 0 = dktX2_subArray_0 := by decide +kernel
theorem dksX2_subArray_1 : cX2_subArray.data.toList.drop 24 = dktX2_subArray_1 := dk_seg dksX2_subArray_0 24 rfl rfl
theorem dksX2_subArray_2 : cX2_subArray.data.toList.drop 47 = dktX2_subArray_2 := dk_seg dksX2_subArray_1 23 rfl rfl
theorem dX2_subArray_0 : decode cX2_subArray 0 = .ok (.iload_n 1, 1) := dk_27 (dk_at dksX2_subArray_0 0 rfl rfl)
theorem dX2_subArray_1 : decode cX2_subArray 1 = .ok (.iload_n 2, 1) := dk_28 (dk_at dksX2_subArray_0 1 rfl rfl)
theorem dX2_subArray_2 : decode cX2_subArray 2 = .ok (.aload_n 0, 1) := dk_42 (dk_at dksX2_subArray_0 2 rfl rfl)
theorem dX2_subArray_3 : decode cX2_subArray 3 = .ok (.invokevirtual 39, 3) := dk_182 0 39 (dk_at dksX2_subArray_0 3 rfl rfl)
theorem dX2_subArray_6 : decode cX2_subArray 6 = .ok (.invokestatic 57, 3) := dk_184 0 57 (dk_at dksX2_subArray_0 6 rfl rfl)
theorem dX2_subArray_9 : decode cX2_subArray 9 = .ok (.iload_n 1, 1) := dk_27 (dk_at dksX2_subArray_0 9 rfl rfl)
theorem dX2_subArray_10 : decode cX2_subArray 10 = .ok (.iload_n 2, 1) := dk_28 (dk_at dksX2_subArray_0 10 rfl rfl)
theorem dX2_subArray_11 : decode cX2_subArray 11 = .ok (.if_icmp .ne 16, 3) := dk_160 0 16 (dk_at dksX2_subArray_0 11 rfl rfl)
theorem dX2_subArray_14 : decode cX2_subArray 14 = .ok (.new 1, 3) := dk_187 0 1 (dk_at dksX2_subArray_0 14 rfl rfl)
theorem dX2_subArray_17 : decode cX2_subArray 17 = .ok (.dup, 1) := dk_89 (dk_at dksX2_subArray_0 17 rfl rfl)
theorem dX2_subArray_18 : decode cX2_subArray 18 = .ok (.iconst 0, 1) := dk_3 (dk_at dksX2_subArray_0 18 rfl rfl)
theorem dX2_subArray_19 : decode cX2_subArray 19 = .ok (.newarray .long, 2) := dk_188_11 (dk_at dksX2_subArray_0 19 rfl rfl)
theorem dX2_subArray_21 : decode cX2_subArray 21 = .ok (.invokespecial 3, 3) := dk_183 0 3 (dk_at dksX2_subArray_0 21 rfl rfl)
theorem dX2_subArray_24 : decode cX2_subArray 24 = .ok (.goto 26, 3) := dk_167 0 26 (dk_at dksX2_subArray_1 0 rfl rfl)
theorem dX2_subArray_27 : decode cX2_subArray 27 = .ok (.new 1, 3) := dk_187 0 1 (dk_at dksX2_subArray_1 3 rfl rfl)
theorem dX2_subArray_30 : decode cX2_subArray 30 = .ok (.dup, 1) := dk_89 (dk_at dksX2_subArray_1 6 rfl rfl)
theorem dX2_subArray_31 : decode cX2_subArray 31 = .ok (.aload_n 0, 1) := dk_42 (dk_at dksX2_subArray_1 7 rfl rfl)
theorem dX2_subArray_32 : decode cX2_subArray 32 = .ok (.getfield 28, 3) := dk_180 0 28 (dk_at dksX2_subArray_1 8 rfl rfl)
theorem dX2_subArray_35 : decode cX2_subArray 35 = .ok (.aload_n 0, 1) := dk_42 (dk_at dksX2_subArray_1 11 rfl rfl)
theorem dX2_subArray_36 : decode cX2_subArray 36 = .ok (.getfield 32, 3) := dk_180 0 32 (dk_at dksX2_subArray_1 12 rfl rfl)
theorem dX2_subArray_39 : decode cX2_subArray 39 = .ok (.iload_n 1, 1) := dk_27 (dk_at dksX2_subArray_1 15 rfl rfl)
theorem dX2_subArray_40 : decode cX2_subArray 40 = .ok (.iadd, 1) := dk_96 (dk_at dksX2_subArray_1 16 rfl rfl)
theorem dX2_subArray_41 : decode cX2_subArray 41 = .ok (.aload_n 0, 1) := dk_42 (dk_at dksX2_subArray_1 17 rfl rfl)
theorem dX2_subArray_42 : decode cX2_subArray 42 = .ok (.getfield 32, 3) := dk_180 0 32 (dk_at dksX2_subArray_1 18 rfl rfl)
theorem dX2_subArray_45 : decode cX2_subArray 45 = .ok (.iload_n 2, 1) := dk_28 (dk_at dksX2_subArray_1 21 rfl rfl)
theorem dX2_subArray_46 : decode cX2_subArray 46 = .ok (.iadd, 1) := dk_96 (dk_at dksX2_subArray_1 22 rfl rfl)
theorem dX2_subArray_47 : decode cX2_subArray 47 = .ok (.invokespecial 20, 3) := dk_183 0 20 (dk_at dksX2_subArray_2 0 rfl rfl)
theorem dX2_subArray_50 : decode cX2_subArray 50 = .ok (.areturn, 1) := dk_176 (dk_at dksX2_subArray_2 3 rfl rfl)
abbrev cX2_isEmpty : ByteArray := prog_3_method_6_code
def yX2_isEmpty : MethodName := ⟨RX2, "isEmpty", "()Z"⟩
def dkwX2_isEmpty_0 : List UInt8 := [42, 180, 0, 36, 42, 180, 0, 32, 160, 0, 7, 4, 167, 0, 4, 3, 172]
abbrev dktX2_isEmpty_0 : List UInt8 := dkwX2_isEmpty_0 ++ []
theorem dksX2_isEmpty_0 : cX2_isEmpty.data.toList.drop 0 = dktX2_isEmpty_0 := by decide +kernel
theorem dX2_isEmpty_0 : decode cX2_isEmpty 0 = .ok (.aload_n 0, 1) := dk_42 (dk_at dksX2_isEmpty_0 0 rfl rfl)
theorem dX2_isEmpty_1 : decode cX2_isEmpty 1 = .ok (.getfield 36, 3) := dk_180 0 36 (dk_at dksX2_isEmpty_0 1 rfl rfl)
theorem dX2_isEmpty_4 : decode cX2_isEmpty 4 = .ok (.aload_n 0, 1) := dk_42 (dk_at dksX2_isEmpty_0 4 rfl rfl)
theorem dX2_isEmpty_5 : decode cX2_isEmpty 5 = .ok (.getfield 32, 3) := dk_180 0 32 (dk_at dksX2_isEmpty_0 5 rfl rfl)
theorem dX2_isEmpty_8 : decode cX2_isEmpty 8 = .ok (.if_icmp .ne 7, 3) := dk_160 0 7 (dk_at dksX2_isEmpty_0 8 rfl rfl)
theorem dX2_isEmpty_11 : decode cX2_isEmpty 11 = .ok (.iconst 1, 1) := dk_4 (dk_at dksX2_isEmpty_0 11 rfl rfl)
theorem dX2_isEmpty_12 : decode cX2_isEmpty 12 = .ok (.goto 4, 3) := dk_167 0 4 (dk_at dksX2_isEmpty_0 12 rfl rfl)
theorem dX2_isEmpty_15 : decode cX2_isEmpty 15 = .ok (.iconst 0, 1) := dk_3 (dk_at dksX2_isEmpty_0 15 rfl rfl)
theorem dX2_isEmpty_16 : decode cX2_isEmpty 16 = .ok (.ireturn, 1) := dk_172 (dk_at dksX2_isEmpty_0 16 rfl rfl)
abbrev cX2_get : ByteArray := prog_3_method_7_code
def yX2_get : MethodName := ⟨RX2, "get", "(I)J"⟩
def dkwX2_get_0 : List UInt8 := [27, 42, 182, 0, 39, 184, 0, 43, 87, 42, 180, 0, 28, 42, 180, 0, 32, 27, 96, 47, 173]
abbrev dktX2_get_0 : List UInt8 := dkwX2_get_0 ++ []
theorem dksX2_get_0 : cX2_get.data.toList.drop 0 = dktX2_get_0 := by decide +kernel
theorem dX2_get_0 : decode cX2_get 0 = .ok (.iload_n 1, 1) := dk_27 (dk_at dksX2_get_0 0 rfl rfl)
theorem dX2_get_1 : decode cX2_get 1 = .ok (.aload_n 0, 1) := dk_42 (dk_at dksX2_get_0 1 rfl rfl)
theorem dX2_get_2 : decode cX2_get 2 = .ok (.invokevirtual 39, 3) := dk_182 0 39 (dk_at dksX2_get_0 2 rfl rfl)
theorem dX2_get_5 : decode cX2_get 5 = .ok (.invokestatic 43, 3) := dk_184 0 43 (dk_at dksX2_get_0 5 rfl rfl)
theorem dX2_get_8 : decode cX2_get 8 = .ok (.pop, 1) := dk_87 (dk_at dksX2_get_0 8 rfl rfl)
theorem dX2_get_9 : decode cX2_get 9 = .ok (.aload_n 0, 1) := dk_42 (dk_at dksX2_get_0 9 rfl rfl)
theorem dX2_get_10 : decode cX2_get 10 = .ok (.getfield 28, 3) := dk_180 0 28 (dk_at dksX2_get_0 10 rfl rfl)
theorem dX2_get_13 : decode cX2_get 13 = .ok (.aload_n 0, 1) := dk_42 (dk_at dksX2_get_0 13 rfl rfl)
theorem dX2_get_14 : decode cX2_get 14 = .ok (.getfield 32, 3) := dk_180 0 32 (dk_at dksX2_get_0 14 rfl rfl)
theorem dX2_get_17 : decode cX2_get 17 = .ok (.iload_n 1, 1) := dk_27 (dk_at dksX2_get_0 17 rfl rfl)
theorem dX2_get_18 : decode cX2_get 18 = .ok (.iadd, 1) := dk_96 (dk_at dksX2_get_0 18 rfl rfl)
theorem dX2_get_19 : decode cX2_get 19 = .ok (.laload, 1) := dk_47 (dk_at dksX2_get_0 19 rfl rfl)
theorem dX2_get_20 : decode cX2_get 20 = .ok (.lreturn, 1) := dk_173 (dk_at dksX2_get_0 20 rfl rfl)
abbrev cX2_indexOf : ByteArray := prog_3_method_8_code
def yX2_indexOf : MethodName := ⟨RX2, "indexOf", "(J)I"⟩
def dkwX2_indexOf_1 : List UInt8 := [29, 42, 180, 0, 32, 100, 172, 132, 3, 1, 167, 255, 227, 2, 172]
abbrev dktX2_indexOf_1 : List UInt8 := dkwX2_indexOf_1 ++ []
def dkwX2_indexOf_0 : List UInt8 := [42, 180, 0, 32, 62, 29, 42, 180, 0, 36, 162, 0, 27, 42, 180, 0, 28, 29, 47, 31, 148, 154, 0, 10]
abbrev dktX2_indexOf_0 : List UInt8 := dkwX2_indexOf_0 ++ dktX2_indexOf_1
theorem dksX2_indexOf_0 : cX2_indexOf.data.toList.drop 0 = dktX2_indexOf_0 := by decide +kernel
theorem dksX2_indexOf_1 : cX2_indexOf.data.toList.drop 24 = dktX2_indexOf_1 := dk_seg dksX2_indexOf_0 24 rfl rfl
theorem dX2_indexOf_0 : decode cX2_indexOf 0 = .ok (.aload_n 0, 1) := dk_42 (dk_at dksX2_indexOf_0 0 rfl rfl)
theorem dX2_indexOf_1 : decode cX2_indexOf 1 = .ok (.getfield 32, 3) := dk_180 0 32 (dk_at dksX2_indexOf_0 1 rfl rfl)
theorem dX2_indexOf_4 : decode cX2_indexOf 4 = .ok (.istore_n 3, 1) := dk_62 (dk_at dksX2_indexOf_0 4 rfl rfl)
theorem dX2_indexOf_5 : decode cX2_indexOf 5 = .ok (.iload_n 3, 1) := dk_29 (dk_at dksX2_indexOf_0 5 rfl rfl)
theorem dX2_indexOf_6 : decode cX2_indexOf 6 = .ok (.aload_n 0, 1) := dk_42 (dk_at dksX2_indexOf_0 6 rfl rfl)
theorem dX2_indexOf_7 : decode cX2_indexOf 7 = .ok (.getfield 36, 3) := dk_180 0 36 (dk_at dksX2_indexOf_0 7 rfl rfl)
theorem dX2_indexOf_10 : decode cX2_indexOf 10 = .ok (.if_icmp .ge 27, 3) := dk_162 0 27 (dk_at dksX2_indexOf_0 10 rfl rfl)
theorem dX2_indexOf_13 : decode cX2_indexOf 13 = .ok (.aload_n 0, 1) := dk_42 (dk_at dksX2_indexOf_0 13 rfl rfl)
theorem dX2_indexOf_14 : decode cX2_indexOf 14 = .ok (.getfield 28, 3) := dk_180 0 28 (dk_at dksX2_indexOf_0 14 rfl rfl)
theorem dX2_indexOf_17 : decode cX2_indexOf 17 = .ok (.iload_n 3, 1) := dk_29 (dk_at dksX2_indexOf_0 17 rfl rfl)
theorem dX2_indexOf_18 : decode cX2_indexOf 18 = .ok (.laload, 1) := dk_47 (dk_at dksX2_indexOf_0 18 rfl rfl)
theorem dX2_indexOf_19 : decode cX2_indexOf 19 = .ok (.lload_n 1, 1) := dk_31 (dk_at dksX2_indexOf_0 19 rfl rfl)
theorem dX2_indexOf_20 : decode cX2_indexOf 20 = .ok (.lcmp, 1) := dk_148 (dk_at dksX2_indexOf_0 20 rfl rfl)
theorem dX2_indexOf_21 : decode cX2_indexOf 21 = .ok (.ifCond .ne 10, 3) := dk_154 0 10 (dk_at dksX2_indexOf_0 21 rfl rfl)
theorem dX2_indexOf_24 : decode cX2_indexOf 24 = .ok (.iload_n 3, 1) := dk_29 (dk_at dksX2_indexOf_1 0 rfl rfl)
theorem dX2_indexOf_25 : decode cX2_indexOf 25 = .ok (.aload_n 0, 1) := dk_42 (dk_at dksX2_indexOf_1 1 rfl rfl)
theorem dX2_indexOf_26 : decode cX2_indexOf 26 = .ok (.getfield 32, 3) := dk_180 0 32 (dk_at dksX2_indexOf_1 2 rfl rfl)
theorem dX2_indexOf_29 : decode cX2_indexOf 29 = .ok (.isub, 1) := dk_100 (dk_at dksX2_indexOf_1 5 rfl rfl)
theorem dX2_indexOf_30 : decode cX2_indexOf 30 = .ok (.ireturn, 1) := dk_172 (dk_at dksX2_indexOf_1 6 rfl rfl)
theorem dX2_indexOf_31 : decode cX2_indexOf 31 = .ok (.iinc 3 1, 3) := dk_132 3 1 (dk_at dksX2_indexOf_1 7 rfl rfl)
theorem dX2_indexOf_34 : decode cX2_indexOf 34 = .ok (.goto (-29), 3) := dk_167 255 227 (dk_at dksX2_indexOf_1 10 rfl rfl)
theorem dX2_indexOf_37 : decode cX2_indexOf 37 = .ok (.iconst (-1), 1) := dk_2 (dk_at dksX2_indexOf_1 13 rfl rfl)
theorem dX2_indexOf_38 : decode cX2_indexOf 38 = .ok (.ireturn, 1) := dk_172 (dk_at dksX2_indexOf_1 14 rfl rfl)
abbrev cX2_lastIndexOf : ByteArray := prog_3_method_9_code
def yX2_lastIndexOf : MethodName := ⟨RX2, "lastIndexOf", "(J)I"⟩
def dkwX2_lastIndexOf_1 : List UInt8 := [154, 0, 10, 29, 42, 180, 0, 32, 100, 172, 132, 3, 255, 167, 255, 227, 2, 172]
abbrev dktX2_lastIndexOf_1 : List UInt8 := dkwX2_lastIndexOf_1 ++ []
def dkwX2_lastIndexOf_0 : List UInt8 := [42, 180, 0, 36, 4, 100, 62, 29, 42, 180, 0, 32, 161, 0, 27, 42, 180, 0, 28, 29, 47, 31, 148]
abbrev dktX2_lastIndexOf_0 : List UInt8 := dkwX2_lastIndexOf_0 ++ dktX2_lastIndexOf_1
theorem dksX2_lastIndexOf_0 : cX2_lastIndexOf.data.toList.drop 0 = dktX2_lastIndexOf_0 := by decide +kernel
theorem dksX2_lastIndexOf_1 : cX2_lastIndexOf.data.toList.drop 23 = dktX2_lastIndexOf_1 := dk_seg dksX2_lastIndexOf_0 23 rfl rfl
theorem dX2_lastIndexOf_0 : decode cX2_lastIndexOf 0 = .ok (.aload_n 0, 1) := dk_42 (dk_at dksX2_lastIndexOf_0 0 rfl rfl)
theorem dX2_lastIndexOf_1 : decode cX2_lastIndexOf 1 = .ok (.getfield 36, 3) := dk_180 0 36 (dk_at dksX2_lastIndexOf_0 1 rfl rfl)
theorem dX2_lastIndexOf_4 : decode cX2_lastIndexOf 4 = .ok (.iconst 1, 1) := dk_4 (dk_at dksX2_lastIndexOf_0 4 rfl rfl)
theorem dX2_lastIndexOf_5 : decode cX2_lastIndexOf 5 = .ok (.isub, 1) := dk_100 (dk_at dksX2_lastIndexOf_0 5 rfl rfl)
theorem dX2_lastIndexOf_6 : decode cX2_lastIndexOf 6 = .ok (.istore_n 3, 1) := dk_62 (dk_at dksX2_lastIndexOf_0 6 rfl rfl)
theorem dX2_lastIndexOf_7 : decode cX2_lastIndexOf 7 = .ok (.iload_n 3, 1) := dk_29 (dk_at dksX2_lastIndexOf_0 7 rfl rfl)
theorem dX2_lastIndexOf_8 : decode cX2_lastIndexOf 8 = .ok (.aload_n 0, 1) := dk_42 (dk_at dksX2_lastIndexOf_0 8 rfl rfl)
theorem dX2_lastIndexOf_9 : decode cX2_lastIndexOf 9 = .ok (.getfield 32, 3) := dk_180 0 32 (dk_at dksX2_lastIndexOf_0 9 rfl rfl)
theorem dX2_lastIndexOf_12 : decode cX2_lastIndexOf 12 = .ok (.if_icmp .lt 27, 3) := dk_161 0 27 (dk_at dksX2_lastIndexOf_0 12 rfl rfl)
theorem dX2_lastIndexOf_15 : decode cX2_lastIndexOf 15 = .ok (.aload_n 0, 1) := dk_42 (dk_at dksX2_lastIndexOf_0 15 rfl rfl)
theorem dX2_lastIndexOf_16 : decode cX2_lastIndexOf 16 = .ok (.getfield 28, 3) := dk_180 0 28 (dk_at dksX2_lastIndexOf_0 16 rfl rfl)
theorem dX2_lastIndexOf_19 : decode cX2_lastIndexOf 19 = .ok (.iload_n 3, 1) := dk_29 (dk_at dksX2_lastIndexOf_0 19 rfl rfl)
theorem dX2_lastIndexOf_20 : decode cX2_lastIndexOf 20 = .ok (.laload, 1) := dk_47 (dk_at dksX2_lastIndexOf_0 20 rfl rfl)
theorem dX2_lastIndexOf_21 : decode cX2_lastIndexOf 21 = .ok (.lload_n 1, 1) := dk_31 (dk_at dksX2_lastIndexOf_0 21 rfl rfl)
theorem dX2_lastIndexOf_22 : decode cX2_lastIndexOf 22 = .ok (.lcmp, 1) := dk_148 (dk_at dksX2_lastIndexOf_0 22 rfl rfl)
theorem dX2_lastIndexOf_23 : decode cX2_lastIndexOf 23 = .ok (.ifCond .ne 10, 3) := dk_154 0 10 (dk_at dksX2_lastIndexOf_1 0 rfl rfl)
theorem dX2_lastIndexOf_26 : decode cX2_lastIndexOf 26 = .ok (.iload_n 3, 1) := dk_29 (dk_at dksX2_lastIndexOf_1 3 rfl rfl)
theorem dX2_lastIndexOf_27 : decode cX2_lastIndexOf 27 = .ok (.aload_n 0, 1) := dk_42 (dk_at dksX2_lastIndexOf_1 4 rfl rfl)
theorem dX2_lastIndexOf_28 : decode cX2_lastIndexOf 28 = .ok (.getfield 32, 3) := dk_180 0 32 (dk_at dksX2_lastIndexOf_1 5 rfl rfl)
theorem dX2_lastIndexOf_31 : decode cX2_lastIndexOf 31 = .ok (.isub, 1) := dk_100 (dk_at dksX2_lastIndexOf_1 8 rfl rfl)
theorem dX2_lastIndexOf_32 : decode cX2_lastIndexOf 32 = .ok (.ireturn, 1) := dk_172 (dk_at dksX2_lastIndexOf_1 9 rfl rfl)
theorem dX2_lastIndexOf_33 : decode cX2_lastIndexOf 33 = .ok (.iinc 3 (-1), 3) := dk_132 3 255 (dk_at dksX2_lastIndexOf_1 10 rfl rfl)
theorem dX2_lastIndexOf_36 : decode cX2_lastIndexOf 36 = .ok (.goto (-29), 3) := dk_167 255 227 (dk_at dksX2_lastIndexOf_1 13 rfl rfl)
theorem dX2_lastIndexOf_39 : decode cX2_lastIndexOf 39 = .ok (.iconst (-1), 1) := dk_2 (dk_at dksX2_lastIndexOf_1 16 rfl rfl)
theorem dX2_lastIndexOf_40 : decode cX2_lastIndexOf 40 = .ok (.ireturn, 1) := dk_172 (dk_at dksX2_lastIndexOf_1 17 rfl rfl)
abbrev cX2_equals : ByteArray := prog_3_method_13_code
def yX2_equals : MethodName := ⟨RX2, "equals", "(Ljava/lang/Object;)Z"⟩
def dkwX2_equals_2 : List UInt8 := [182, 0, 61, 44, 29, 182, 0, 61, 148, 153, 0, 5, 3, 172, 132, 3, 1, 167, 255, 229, 4, 172]
abbrev dktX2_equals_2 : List UInt8 := dkwX2_equals_2 ++ []
def dkwX2_equals_1 : List UInt8 := [182, 0, 39, 44, 182, 0, 39, 159, 0, 5, 3, 172, 3, 62, 29, 42, 182, 0, 39, 162, 0, 25, 42, 29]
abbrev dktX2_equals_1 : List UInt8 := dkwX2_equals_1 ++ dktX2_equals_2
def dkwX2_equals_0 : List UInt8 := [43, 42, 166, 0, 5, 4, 172, 43, 193, 0, 1, 154, 0, 5, 3, 172, 43, 192, 0, 1, 77, 42]
abbrev dktX2_equals_0 : List UInt8 := dkwX2_equals_0 ++ dktX2_equals_1
theorem dksX2_equals_0 : cX2_equals.data.toList.drop 0 = dktX2_equals_0 := by decide +kernel
theorem dksX2_equals_1 : cX2_equals.data.toList.drop 22 = dktX2_equals_1 := dk_seg dksX2_equals_0 22 rfl rfl
theorem dksX2_equals_2 : cX2_equals.data.toList.drop 46 = dktX2_equals_2 := dk_seg dksX2_equals_1 24 rfl rfl
theorem dX2_equals_0 : decode cX2_equals 0 = .ok (.aload_n 1, 1) := dk_43 (dk_at dksX2_equals_0 0 rfl rfl)
theorem dX2_equals_1 : decode cX2_equals 1 = .ok (.aload_n 0, 1) := dk_42 (dk_at dksX2_equals_0 1 rfl rfl)
theorem dX2_equals_2 : decode cX2_equals 2 = .ok (.if_acmp .ne 5, 3) := dk_166 0 5 (dk_at dksX2_equals_0 2 rfl rfl)
theorem dX2_equals_5 : decode cX2_equals 5 = .ok (.iconst 1, 1) := dk_4 (dk_at dksX2_equals_0 5 rfl rfl)
theorem dX2_equals_6 : decode cX2_equals 6 = .ok (.ireturn, 1) := dk_172 (dk_at dksX2_equals_0 6 rfl rfl)
theorem dX2_equals_7 : decode cX2_equals 7 = .ok (.aload_n 1, 1) := dk_43 (dk_at dksX2_equals_0 7 rfl rfl)
theorem dX2_equals_8 : decode cX2_equals 8 = .ok (.instanceof 1, 3) := dk_193 0 1 (dk_at dksX2_equals_0 8 rfl rfl)
theorem dX2_equals_11 : decode cX2_equals 11 = .ok (.ifCond .ne 5, 3) := dk_154 0 5 (dk_at dksX2_equals_0 11 rfl rfl)
theorem dX2_equals_14 : decode cX2_equals 14 = .ok (.iconst 0, 1) := dk_3 (dk_at dksX2_equals_0 14 rfl rfl)
theorem dX2_equals_15 : decode cX2_equals 15 = .ok (.ireturn, 1) := dk_172 (dk_at dksX2_equals_0 15 rfl rfl)
theorem dX2_equals_16 : decode cX2_equals 16 = .ok (.aload_n 1, 1) := dk_43 (dk_at dksX2_equals_0 16 rfl rfl)
theorem dX2_equals_17 : decode cX2_equals 17 = .ok (.checkcast 1, 3) := dk_192 0 1 (dk_at dksX2_equals_0 17 rfl rfl)
theorem dX2_equals_20 : decode cX2_equals 20 = .ok (.astore_n 2, 1) := dk_77 (dk_at dksX2_equals_0 20 rfl rfl)
theorem dX2_equals_21 : decode cX2_equals 21 = .ok (.aload_n 0, 1) := dk_42 (dk_at dksX2_equals_0 21 rfl rfl)
theorem dX2_equals_22 : decode cX2_equals 22 = .ok (.invokevirtual 39, 3) := dk_182 0 39 (dk_at dksX2_equals_1 0 rfl rfl)
theorem dX2_equals_25 : decode cX2_equals 25 = .ok (.aload_n 2, 1) := dk_44 (dk_at dksX2_equals_1 3 rfl rfl)
theorem dX2_equals_26 : decode cX2_equals 26 = .ok (.invokevirtual 39, 3) := dk_182 0 39 (dk_at dksX2_equals_1 4 rfl rfl)
theorem dX2_equals_29 : decode cX2_equals 29 = .ok (.if_icmp .eq 5, 3) := dk_159 0 5 (dk_at dksX2_equals_1 7 rfl rfl)
theorem dX2_equals_32 : decode cX2_equals 32 = .ok (.iconst 0, 1) := dk_3 (dk_at dksX2_equals_1 10 rfl rfl)
theorem dX2_equals_33 : decode cX2_equals 33 = .ok (.ireturn, 1) := dk_172 (dk_at dksX2_equals_1 11 rfl rfl)
theorem dX2_equals_34 : decode cX2_equals 34 = .ok (.iconst 0, 1) := dk_3 (dk_at dksX2_equals_1 12 rfl rfl)
theorem dX2_equals_35 : decode cX2_equals 35 = .ok (.istore_n 3, 1) := dk_62 (dk_at dksX2_equals_1 13 rfl rfl)
theorem dX2_equals_36 : decode cX2_equals 36 = .ok (.iload_n 3, 1) := dk_29 (dk_at dksX2_equals_1 14 rfl rfl)
theorem dX2_equals_37 : decode cX2_equals 37 = .ok (.aload_n 0, 1) := dk_42 (dk_at dksX2_equals_1 15 rfl rfl)
theorem dX2_equals_38 : decode cX2_equals 38 = .ok (.invokevirtual 39, 3) := dk_182 0 39 (dk_at dksX2_equals_1 16 rfl rfl)
theorem dX2_equals_41 : decode cX2_equals 41 = .ok (.if_icmp .ge 25, 3) := dk_162 0 25 (dk_at dksX2_equals_1 19 rfl rfl)
theorem dX2_equals_44 : decode cX2_equals 44 = .ok (.aload_n 0, 1) := dk_42 (dk_at dksX2_equals_1 22 rfl rfl)
theorem dX2_equals_45 : decode cX2_equals 45 = .ok (.iload_n 3, 1) := dk_29 (dk_at dksX2_equals_1 23 rfl rfl)
theorem dX2_equals_46 : decode cX2_equals 46 = .ok (.invokevirtual 61, 3) := dk_182 0 61 (dk_at dksX2_equals_2 0 rfl rfl)
theorem dX2_equals_49 : decode cX2_equals 49 = .ok (.aload_n 2, 1) := dk_44 (dk_at dksX2_equals_2 3 rfl rfl)
theorem dX2_equals_50 : decode cX2_equals 50 = .ok (.iload_n 3, 1) := dk_29 (dk_at dksX2_equals_2 4 rfl rfl)
theorem dX2_equals_51 : decode cX2_equals 51 = .ok (.invokevirtual 61, 3) := dk_182 0 61 (dk_at dksX2_equals_2 5 rfl rfl)
theorem dX2_equals_54 : decode cX2_equals 54 = .ok (.lcmp, 1) := dk_148 (dk_at dksX2_equals_2 8 rfl rfl)
theorem dX2_equals_55 : decode cX2_equals 55 = .ok (.ifCond .eq 5, 3) := dk_153 0 5 (dk_at dksX2_equals_2 9 rfl rfl)
theorem dX2_equals_58 : decode cX2_equals 58 = .ok (.iconst 0, 1) := dk_3 (dk_at dksX2_equals_2 12 rfl rfl)
theorem dX2_equals_59 : decode cX2_equals 59 = .ok (.ireturn, 1) := dk_172 (dk_at dksX2_equals_2 13 rfl rfl)
theorem dX2_equals_60 : decode cX2_equals 60 = .ok (.iinc 3 1, 3) := dk_132 3 1 (dk_at dksX2_equals_2 14 rfl rfl)
theorem dX2_equals_63 : decode cX2_equals 63 = .ok (.goto (-27), 3) := dk_167 255 229 (dk_at dksX2_equals_2 17 rfl rfl)
theorem dX2_equals_66 : decode cX2_equals 66 = .ok (.iconst 1, 1) := dk_4 (dk_at dksX2_equals_2 20 rfl rfl)
theorem dX2_equals_67 : decode cX2_equals 67 = .ok (.ireturn, 1) := dk_172 (dk_at dksX2_equals_2 21 rfl rfl)
abbrev cX2_hashCode : ByteArray := prog_3_method_14_code
def yX2_hashCode : MethodName := ⟨RX2, "hashCode", "()I"⟩
def dkwX2_hashCode_1 : List UInt8 := [180, 0, 28, 28, 47, 184, 0, 65, 96, 60, 132, 2, 1, 167, 255, 228, 27, 172]
abbrev dktX2_hashCode_1 : List UInt8 := dkwX2_hashCode_1 ++ []
def dkwX2_hashCode_0 : List UInt8 := [4, 60, 42, 180, 0, 32, 61, 28, 42, 180, 0, 36, 162, 0, 26, 27, 16, 31, 104, 60, 27, 42]
abbrev dktX2_hashCode_0 : List UInt8 := dkwX2_hashCode_0 ++ dktX2_hashCode_1
theorem dksX2_hashCode_0 : cX2_hashCode.data.toList.drop 0 = dktX2_hashCode_0 := by decide +kernel
theorem dksX2_hashCode_1 : cX2_hashCode.data.toList.drop 22 = dktX2_hashCode_1 := dk_seg dksX2_hashCode_0 22 rfl rfl
theorem dX2_hashCode_0 : decode cX2_hashCode 0 = .ok (.iconst 1, 1) := dk_4 (dk_at dksX2_hashCode_0 0 rfl rfl)
theorem dX2_hashCode_1 : decode cX2_hashCode 1 = .ok (.istore_n 1, 1) := dk_60 (dk_at dksX2_hashCode_0 1 rfl rfl)
theorem dX2_hashCode_2 : decode cX2_hashCode 2 = .ok (.aload_n 0, 1) := dk_42 (dk_at dksX2_hashCode_0 2 rfl rfl)
theorem dX2_hashCode_3 : decode cX2_hashCode 3 = .ok (.getfield 32, 3) := dk_180 0 32 (dk_at dksX2_hashCode_0 3 rfl rfl)
theorem dX2_hashCode_6 : decode cX2_hashCode 6 = .ok (.istore_n 2, 1) := dk_61 (dk_at dksX2_hashCode_0 6 rfl rfl)
theorem dX2_hashCode_7 : decode cX2_hashCode 7 = .ok (.iload_n 2, 1) := dk_28 (dk_at dksX2_hashCode_0 7 rfl rfl)
theorem dX2_hashCode_8 : decode cX2_hashCode 8 = .ok (.aload_n 0, 1) := dk_42 (dk_at dksX2_hashCode_0 8 rfl rfl)
theorem dX2_hashCode_9 : decode cX2_hashCode 9 = .ok (.getfield 36, 3) := dk_180 0 36 (dk_at dksX2_hashCode_0 9 rfl rfl)
theorem dX2_hashCode_12 : decode cX2_hashCode 12 = .ok (.if_icmp .ge 26, 3) := dk_162 0 26 (dk_at dksX2_hashCode_0 12 rfl rfl)
theorem dX2_hashCode_15 : decode cX2_hashCode 15 = .ok (.iload_n 1, 1) := dk_27 (dk_at dksX2_hashCode_0 15 rfl rfl)
theorem dX2_hashCode_16 : decode cX2_hashCode 16 = .ok (.bipush 31, 2) := dk_16 31 (dk_at dksX2_hashCode_0 16 rfl rfl)
theorem dX2_hashCode_18 : decode cX2_hashCode 18 = .ok (.imul, 1) := dk_104 (dk_at dksX2_hashCode_0 18 rfl rfl)
theorem dX2_hashCode_19 : decode cX2_hashCode 19 = .ok (.istore_n 1, 1) := dk_60 (dk_at dksX2_hashCode_0 19 rfl rfl)
theorem dX2_hashCode_20 : decode cX2_hashCode 20 = .ok (.iload_n 1, 1) := dk_27 (dk_at dksX2_hashCode_0 20 rfl rfl)
theorem dX2_hashCode_21 : decode cX2_hashCode 21 = .ok (.aload_n 0, 1) := dk_42 (dk_at dksX2_hashCode_0 21 rfl rfl)
theorem dX2_hashCode_22 : decode cX2_hashCode 22 = .ok (.getfield 28, 3) := dk_180 0 28 (dk_at dksX2_hashCode_1 0 rfl rfl)
theorem dX2_hashCode_25 : decode cX2_hashCode 25 = .ok (.iload_n 2, 1) := dk_28 (dk_at dksX2_hashCode_1 3 rfl rfl)
theorem dX2_hashCode_26 : decode cX2_hashCode 26 = .ok (.laload, 1) := dk_47 (dk_at dksX2_hashCode_1 4 rfl rfl)
theorem dX2_hashCode_27 : decode cX2_hashCode 27 = .ok (.invokestatic 65, 3) := dk_184 0 65 (dk_at dksX2_hashCode_1 5 rfl rfl)
theorem dX2_hashCode_30 : decode cX2_hashCode 30 = .ok (.iadd, 1) := dk_96 (dk_at dksX2_hashCode_1 8 rfl rfl)
theorem dX2_hashCode_31 : decode cX2_hashCode 31 = .ok (.istore_n 1, 1) := dk_60 (dk_at dksX2_hashCode_1 9 rfl rfl)
theorem dX2_hashCode_32 : decode cX2_hashCode 32 = .ok (.iinc 2 1, 3) := dk_132 2 1 (dk_at dksX2_hashCode_1 10 rfl rfl)
theorem dX2_hashCode_35 : decode cX2_hashCode 35 = .ok (.goto (-28), 3) := dk_167 255 228 (dk_at dksX2_hashCode_1 13 rfl rfl)
theorem dX2_hashCode_38 : decode cX2_hashCode 38 = .ok (.iload_n 1, 1) := dk_27 (dk_at dksX2_hashCode_1 16 rfl rfl)
theorem dX2_hashCode_39 : decode cX2_hashCode 39 = .ok (.ireturn, 1) := dk_172 (dk_at dksX2_hashCode_1 17 rfl rfl)
abbrev cX2_toArray : ByteArray := prog_3_method_11_code
def yX2_toArray : MethodName := ⟨RX2, "toArray", "()[J"⟩
def dkwX2_toArray_0 : List UInt8 := [42, 180, 0, 28, 42, 180, 0, 32, 42, 180, 0, 36, 184, 0, 51, 176]
abbrev dktX2_toArray_0 : List UInt8 := dkwX2_toArray_0 ++ []
theorem dksX2_toArray_0 : cX2_toArray.data.toList.drop 0 = dktX2_toArray_0 := by decide +kernel
theorem dX2_toArray_0 : decode cX2_toArray 0 = .ok (.aload_n 0, 1) := dk_42 (dk_at dksX2_toArray_0 0 rfl rfl)
theorem dX2_toArray_1 : decode cX2_toArray 1 = .ok (.getfield 28, 3) := dk_180 0 28 (dk_at dksX2_toArray_0 1 rfl rfl)
theorem dX2_toArray_4 : decode cX2_toArray 4 = .ok (.aload_n 0, 1) := dk_42 (dk_at dksX2_toArray_0 4 rfl rfl)
theorem dX2_toArray_5 : decode cX2_toArray 5 = .ok (.getfield 32, 3) := dk_180 0 32 (dk_at dksX2_toArray_0 5 rfl rfl)
theorem dX2_toArray_8 : decode cX2_toArray 8 = .ok (.aload_n 0, 1) := dk_42 (dk_at dksX2_toArray_0 8 rfl rfl)
theorem dX2_toArray_9 : decode cX2_toArray 9 = .ok (.getfield 36, 3) := dk_180 0 36 (dk_at dksX2_toArray_0 9 rfl rfl)
theorem dX2_toArray_12 : decode cX2_toArray 12 = .ok (.invokestatic 51, 3) := dk_184 0 51 (dk_at dksX2_toArray_0 12 rfl rfl)
theorem dX2_toArray_15 : decode cX2_toArray 15 = .ok (.areturn, 1) := dk_176 (dk_at dksX2_toArray_0 15 rfl rfl)
abbrev cX2_trimmed : ByteArray := prog_3_method_15_code
def yX2_trimmed : MethodName := ⟨RX2, "trimmed", "()LImmutableLongArray;"⟩
def dkwX2_trimmed_0 : List UInt8 := [42, 182, 0, 70, 153, 0, 17, 187, 0, 1, 89, 42, 182, 0, 74, 183, 0, 3, 167, 0, 4, 42, 176]
abbrev dktX2_trimmed_0 : List UInt8 := dkwX2_trimmed_0 ++ []
theorem dksX2_trimmed_0 : cX2_trimmed.data.toList.drop 0 = dktX2_trimmed_0 := by decide +kernel
theorem dX2_trimmed_0 : decode cX2_trimmed 0 = .ok (.aload_n 0, 1) := dk_42 (dk_at dksX2_trimmed_0 0 rfl rfl)
theorem dX2_trimmed_1 : decode cX2_trimmed 1 = .ok (.invokevirtual 70, 3) := dk_182 0 70 (dk_at dksX2_trimmed_0 1 rfl rfl)
theorem dX2_trimmed_4 : decode cX2_trimmed 4 = .ok (.ifCond .eq 17, 3) := dk_153 0 17 (dk_at dksX2_trimmed_0 4 rfl rfl)
theorem dX2_trimmed_7 : decode cX2_trimmed 7 = .ok (.new 1, 3) := dk_187 0 1 (dk_at dksX2_trimmed_0 7 rfl rfl)
theorem dX2_trimmed_10 : decode cX2_trimmed 10 = .ok (.dup, 1) := dk_89 (dk_at dksX2_trimmed_0 10 rfl rfl)
theorem dX2_trimmed_11 : decode cX2_trimmed 11 = .ok (.aload_n 0, 1) := dk_42 (dk_at dksX2_trimmed_0 11 rfl rfl)
theorem dX2_trimmed_12 : decode cX2_trimmed 12 = .ok (.invokevirtual 74, 3) := dk_182 0 74 (dk_at dksX2_trimmed_0 12 rfl rfl)
theorem dX2_trimmed_15 : decode cX2_trimmed 15 = .ok (.invokespecial 3, 3) := dk_183 0 3 (dk_at dksX2_trimmed_0 15 rfl rfl)
theorem dX2_trimmed_18 : decode cX2_trimmed 18 = .ok (.goto 4, 3) := dk_167 0 4 (dk_at dksX2_trimmed_0 18 rfl rfl)
theorem dX2_trimmed_21 : decode cX2_trimmed 21 = .ok (.aload_n 0, 1) := dk_42 (dk_at dksX2_trimmed_0 21 rfl rfl)
theorem dX2_trimmed_22 : decode cX2_trimmed 22 = .ok (.areturn, 1) := dk_176 (dk_at dksX2_trimmed_0 22 rfl rfl)
abbrev cX2_isPartialView : ByteArray := prog_3_method_16_code
def yX2_isPartialView : MethodName := ⟨RX2, "isPartialView", "()Z"⟩
def dkwX2_isPartialView_1 : List UInt8 := [172]
abbrev dktX2_isPartialView_1 : List UInt8 := dkwX2_isPartialView_1 ++ []
def dkwX2_isPartialView_0 : List UInt8 := [42, 180, 0, 32, 157, 0, 15, 42, 180, 0, 36, 42, 180, 0, 28, 190, 162, 0, 7, 4, 167, 0, 4, 3]
abbrev dktX2_isPartialView_0 : List UInt8 := dkwX2_isPartialView_0 ++ dktX2_isPartialView_1
theorem dksX2_isPartialView_0 : cX2_isPartialView.data.toList.drop 0 = dktX2_isPartialView_0 := by decide +kernel
theorem dksX2_isPartialView_1 : cX2_isPartialView.data.toList.drop 24 = dktX2_isPartialView_1 := dk_seg dksX2_isPartialView_0 24 rfl rfl
theorem dX2_isPartialView_0 : decode cX2_isPartialView 0 = .ok (.aload_n 0, 1) := dk_42 (dk_at dksX2_isPartialView_0 0 rfl rfl)
theorem dX2_isPartialView_1 : decode cX2_isPartialView 1 = .ok (.getfield 32, 3) := dk_180 0 32 (dk_at dksX2_isPartialView_0 1 rfl rfl)
theorem dX2_isPartialView_4 : decode cX2_isPartialView 4 = .ok (.ifCond .gt 15, 3) := dk_157 0 15 (dk_at dksX2_isPartialView_0 4 rfl rfl)
theorem dX2_isPartialView_7 : decode cX2_isPartialView 7 = .ok (.aload_n 0, 1) := dk_42 (dk_at dksX2_isPartialView_0 7 rfl rfl)
theorem dX2_isPartialView_8 : decode cX2_isPartialView 8 = .ok (.getfield 36, 3) := dk_180 0 36 (dk_at dksX2_isPartialView_0 8 rfl rfl)
theorem dX2_isPartialView_11 : decode cX2_isPartialView 11 = .ok (.aload_n 0, 1) := dk_42 (dk_at dksX2_isPartialView_0 11 rfl rfl)
theorem dX2_isPartialView_12 : decode cX2_isPartialView 12 = .ok (.getfield 28, 3) := dk_180 0 28 (dk_at dksX2_isPartialView_0 12 rfl rfl)
theorem dX2_isPartialView_15 : decode cX2_isPartialView 15 = .ok (.arraylength, 1) := dk_190 (dk_at dksX2_isPartialView_0 15 rfl rfl)
theorem dX2_isPartialView_16 : decode cX2_isPartialView 16 = .ok (.if_icmp .ge 7, 3) := dk_162 0 7 (dk_at dksX2_isPartialView_0 16 rfl rfl)
theorem dX2_isPartialView_19 : decode cX2_isPartialView 19 = .ok (.iconst 1, 1) := dk_4 (dk_at dksX2_isPartialView_0 19 rfl rfl)
theorem dX2_isPartialView_20 : decode cX2_isPartialView 20 = .ok (.goto 4, 3) := dk_167 0 4 (dk_at dksX2_isPartialView_0 20 rfl rfl)
theorem dX2_isPartialView_23 : decode cX2_isPartialView 23 = .ok (.iconst 0, 1) := dk_3 (dk_at dksX2_isPartialView_0 23 rfl rfl)
theorem dX2_isPartialView_24 : decode cX2_isPartialView 24 = .ok (.ireturn, 1) := dk_172 (dk_at dksX2_isPartialView_1 0 rfl rfl)
abbrev cX2_contains : ByteArray := prog_3_method_10_code
def yX2_contains : MethodName := ⟨RX2, "contains", "(J)Z"⟩
def dkwX2_contains_0 : List UInt8 := [42, 31, 182, 0, 47, 155, 0, 7, 4, 167, 0, 4, 3, 172]
abbrev dktX2_contains_0 : List UInt8 := dkwX2_contains_0 ++ []
theorem dksX2_contains_0 : cX2_contains.data.toList.drop 0 = dktX2_contains_0 := by decide +kernel
theorem dX2_contains_0 : decode cX2_contains 0 = .ok (.aload_n 0, 1) := dk_42 (dk_at dksX2_contains_0 0 rfl rfl)
theorem dX2_contains_1 : decode cX2_contains 1 = .ok (.lload_n 1, 1) := dk_31 (dk_at dksX2_contains_0 1 rfl rfl)
theorem dX2_contains_2 : decode cX2_contains 2 = .ok (.invokevirtual 47, 3) := dk_182 0 47 (dk_at dksX2_contains_0 2 rfl rfl)
theorem dX2_contains_5 : decode cX2_contains 5 = .ok (.ifCond .lt 7, 3) := dk_155 0 7 (dk_at dksX2_contains_0 5 rfl rfl)
theorem dX2_contains_8 : decode cX2_contains 8 = .ok (.iconst 1, 1) := dk_4 (dk_at dksX2_contains_0 8 rfl rfl)
theorem dX2_contains_9 : decode cX2_contains 9 = .ok (.goto 4, 3) := dk_167 0 4 (dk_at dksX2_contains_0 9 rfl rfl)
theorem dX2_contains_12 : decode cX2_contains 12 = .ok (.iconst 0, 1) := dk_3 (dk_at dksX2_contains_0 12 rfl rfl)
theorem dX2_contains_13 : decode cX2_contains 13 = .ok (.ireturn, 1) := dk_172 (dk_at dksX2_contains_0 13 rfl rfl)
theorem q5 : (Jvm.Cond.initialized "ImmutableLongArray") ∈ lw_all := lw_g (lw_at lw_m1 2 rfl) rfl
theorem q29 : (Jvm.Cond.static ({ cls := "ImmutableLongArray", name := "builder", desc := "(I)LImmutableLongArray$Builder;" } : Jvm.MethodName)) ∈ lw_all := lw_g (lw_at lw_m1 26 rfl) rfl
theorem q30 : (Jvm.Cond.code ({ cls := "ImmutableLongArray", name := "builder", desc := "(I)LImmutableLongArray$Builder;" } : Jvm.MethodName) prog_3_method_2_code (1 : Nat) (Option.some (Jvm.ClassFile.FieldType.object "ImmutableLongArray$Builder"))) ∈ lw_all := lw_g (lw_at lw_m1 27 rfl) rfl
theorem q31 : (Jvm.Cond.stringRef "ImmutableLongArray" (7 : Nat) "Invalid initialCapacity: %s") ∈ lw_tbl := lw_at lw_m1 28 rfl
theorem q32 : (Jvm.Cond.methodLink "ImmutableLongArray" (9 : Nat) ({ cls := "Preconditions", name := "checkArgument", desc := "(ZLjava/lang/String;I)V" } : Jvm.MethodName)) ∈ lw_all := lw_g (lw_at lw_m1 29 rfl) rfl
theorem q103 : (Jvm.Cond.classLink "ImmutableLongArray" (15 : Nat) "ImmutableLongArray$Builder") ∈ lw_all := lw_g (lw_at lw_m1 100 rfl) rfl
theorem q105 : (Jvm.Cond.methodLink "ImmutableLongArray" (17 : Nat) ({ cls := "ImmutableLongArray$Builder", name := "<init>", desc := "(I)V" } : Jvm.MethodName)) ∈ lw_all := lw_g (lw_at lw_m1 102 rfl) rfl
theorem q120 : (Jvm.Cond.static ({ cls := "ImmutableLongArray", name := "of", desc := "(J)LImmutableLongArray;" } : Jvm.MethodName)) ∈ lw_all := lw_g (lw_at lw_m1 117 rfl) rfl
theorem q121 : (Jvm.Cond.code ({ cls := "ImmutableLongArray", name := "of", desc := "(J)LImmutableLongArray;" } : Jvm.MethodName) prog_3_method_1_code (2 : Nat) (Option.some (Jvm.ClassFile.FieldType.object "ImmutableLongArray"))) ∈ lw_all := lw_g (lw_at lw_m1 118 rfl) rfl
theorem q122 : (Jvm.Cond.classLink "ImmutableLongArray" (1 : Nat) "ImmutableLongArray") ∈ lw_all := lw_g (lw_at lw_m1 119 rfl) rfl
theorem q123 : (Jvm.Cond.instantiable "ImmutableLongArray" (3 : Nat)) ∈ lw_all := lw_g (lw_at lw_m1 120 rfl) rfl
theorem q124 : (Jvm.Cond.methodLink "ImmutableLongArray" (3 : Nat) ({ cls := "ImmutableLongArray", name := "<init>", desc := "([J)V" } : Jvm.MethodName)) ∈ lw_all := lw_g (lw_at lw_m1 121 rfl) rfl
theorem q125 : (Jvm.Cond.instanceMethod ({ cls := "ImmutableLongArray", name := "<init>", desc := "([J)V" } : Jvm.MethodName)) ∈ lw_all := lw_g (lw_at lw_m1 122 rfl) rfl
theorem q126 : (Jvm.Cond.code ({ cls := "ImmutableLongArray", name := "<init>", desc := "([J)V" } : Jvm.MethodName) prog_3_method_3_code (2 : Nat) (Option.none : Option Jvm.ClassFile.FieldType)) ∈ lw_all := lw_g (lw_at lw_m1 123 rfl) rfl
theorem q127 : (Jvm.Cond.methodLink "ImmutableLongArray" (20 : Nat) ({ cls := "ImmutableLongArray", name := "<init>", desc := "([JII)V" } : Jvm.MethodName)) ∈ lw_all := lw_g (lw_at lw_m1 124 rfl) rfl
theorem q128 : (Jvm.Cond.instanceMethod ({ cls := "ImmutableLongArray", name := "<init>", desc := "([JII)V" } : Jvm.MethodName)) ∈ lw_all := lw_g (lw_at lw_m1 125 rfl) rfl
theorem q129 : (Jvm.Cond.code ({ cls := "ImmutableLongArray", name := "<init>", desc := "([JII)V" } : Jvm.MethodName) prog_3_method_4_code (4 : Nat) (Option.none : Option Jvm.ClassFile.FieldType)) ∈ lw_all := lw_g (lw_at lw_m1 126 rfl) rfl
theorem q130 : (Jvm.Cond.methodLink "ImmutableLongArray" (23 : Nat) ({ cls := "java/lang/Object", name := "<init>", desc := "()V" } : Jvm.MethodName)) ∈ lw_all := lw_g (lw_at lw_m1 127 rfl) rfl
theorem q132 : (Jvm.Cond.fieldLink "ImmutableLongArray" (28 : Nat) "ImmutableLongArray" "array" "[J") ∈ lw_all := lw_g (lw_at lw_m1 129 rfl) rfl
theorem q134 : (Jvm.Cond.fieldLink "ImmutableLongArray" (32 : Nat) "ImmutableLongArray" "start" "I") ∈ lw_all := lw_g (lw_at lw_m1 131 rfl) rfl
theorem q135 : (Jvm.Cond.fieldLink "ImmutableLongArray" (36 : Nat) "ImmutableLongArray" "end" "I") ∈ lw_all := lw_g (lw_at lw_m1 132 rfl) rfl
theorem q136 : (Jvm.Cond.laysFinal "ImmutableLongArray" "ImmutableLongArray" "array" "[J") ∈ lw_all := lw_g (lw_at lw_m1 133 rfl) rfl
theorem q137 : (Jvm.Cond.soleField "ImmutableLongArray" "array") ∈ lw_all := lw_g (lw_at lw_m1 134 rfl) rfl
theorem q138 : (Jvm.Cond.laysFinal "ImmutableLongArray" "ImmutableLongArray" "start" "I") ∈ lw_all := lw_g (lw_at lw_m1 135 rfl) rfl
theorem q139 : (Jvm.Cond.soleField "ImmutableLongArray" "start") ∈ lw_all := lw_g (lw_at lw_m1 136 rfl) rfl
theorem q140 : (Jvm.Cond.laysFinal "ImmutableLongArray" "ImmutableLongArray" "end" "I") ∈ lw_all := lw_g (lw_at lw_m1 137 rfl) rfl
theorem q141 : (Jvm.Cond.soleField "ImmutableLongArray" "end") ∈ lw_all := lw_g (lw_at lw_m1 138 rfl) rfl
theorem q142 : (Jvm.Cond.superclass "ImmutableLongArray" "java/lang/Object") ∈ lw_all := lw_g (lw_at lw_m1 139 rfl) rfl
theorem q158 : (Jvm.Cond.instanceMethod ({ cls := "ImmutableLongArray", name := "length", desc := "()I" } : Jvm.MethodName)) ∈ lw_all := lw_g (lw_at lw_m1 155 rfl) rfl
theorem q159 : (Jvm.Cond.selects "ImmutableLongArray" ({ cls := "ImmutableLongArray", name := "length", desc := "()I" } : Jvm.MethodName) ({ cls := "ImmutableLongArray", name := "length", desc := "()I" } : Jvm.MethodName)) ∈ lw_all := lw_g (lw_at lw_m1 156 rfl) rfl
theorem q160 : (Jvm.Cond.code ({ cls := "ImmutableLongArray", name := "length", desc := "()I" } : Jvm.MethodName) prog_3_method_5_code (1 : Nat) (Option.some Jvm.ClassFile.FieldType.int)) ∈ lw_all := lw_g (lw_at lw_m1 157 rfl) rfl
theorem q236 : (Jvm.Cond.instanceMethod ({ cls := "ImmutableLongArray", name := "subArray", desc := "(II)LImmutableLongArray;" } : Jvm.MethodName)) ∈ lw_all := lw_g (lw_at lw_m1 233 rfl) rfl
theorem q237 : (Jvm.Cond.selects "ImmutableLongArray" ({ cls := "ImmutableLongArray", name := "subArray", desc := "(II)LImmutableLongArray;" } : Jvm.MethodName) ({ cls := "ImmutableLongArray", name := "subArray", desc := "(II)LImmutableLongArray;" } : Jvm.MethodName)) ∈ lw_all := lw_g (lw_at lw_m1 234 rfl) rfl
theorem q238 : (Jvm.Cond.code ({ cls := "ImmutableLongArray", name := "subArray", desc := "(II)LImmutableLongArray;" } : Jvm.MethodName) prog_3_method_12_code (3 : Nat) (Option.some (Jvm.ClassFile.FieldType.object "ImmutableLongArray"))) ∈ lw_all := lw_g (lw_at lw_m1 235 rfl) rfl
theorem q239 : (Jvm.Cond.methodLink "ImmutableLongArray" (39 : Nat) ({ cls := "ImmutableLongArray", name := "length", desc := "()I" } : Jvm.MethodName)) ∈ lw_all := lw_g (lw_at lw_m1 236 rfl) rfl
theorem q240 : (Jvm.Cond.methodLink "ImmutableLongArray" (57 : Nat) ({ cls := "Preconditions", name := "checkPositionIndexes", desc := "(III)V" } : Jvm.MethodName)) ∈ lw_all := lw_g (lw_at lw_m1 237 rfl) rfl
theorem q263 : (Jvm.Cond.instanceMethod ({ cls := "ImmutableLongArray", name := "isEmpty", desc := "()Z" } : Jvm.MethodName)) ∈ lw_all := lw_g (lw_at lw_m2 20 rfl) rfl
theorem q264 : (Jvm.Cond.selects "ImmutableLongArray" ({ cls := "ImmutableLongArray", name := "isEmpty", desc := "()Z" } : Jvm.MethodName) ({ cls := "ImmutableLongArray", name := "isEmpty", desc := "()Z" } : Jvm.MethodName)) ∈ lw_all := lw_g (lw_at lw_m2 21 rfl) rfl
theorem q265 : (Jvm.Cond.code ({ cls := "ImmutableLongArray", name := "isEmpty", desc := "()Z" } : Jvm.MethodName) prog_3_method_6_code (1 : Nat) (Option.some Jvm.ClassFile.FieldType.boolean)) ∈ lw_all := lw_g (lw_at lw_m2 22 rfl) rfl
theorem q267 : (Jvm.Cond.instanceMethod ({ cls := "ImmutableLongArray", name := "get", desc := "(I)J" } : Jvm.MethodName)) ∈ lw_all := lw_g (lw_at lw_m2 24 rfl) rfl
theorem q268 : (Jvm.Cond.selects "ImmutableLongArray" ({ cls := "ImmutableLongArray", name := "get", desc := "(I)J" } : Jvm.MethodName) ({ cls := "ImmutableLongArray", name := "get", desc := "(I)J" } : Jvm.MethodName)) ∈ lw_all := lw_g (lw_at lw_m2 25 rfl) rfl
theorem q269 : (Jvm.Cond.code ({ cls := "ImmutableLongArray", name := "get", desc := "(I)J" } : Jvm.MethodName) prog_3_method_7_code (2 : Nat) (Option.some Jvm.ClassFile.FieldType.long)) ∈ lw_all := lw_g (lw_at lw_m2 26 rfl) rfl
theorem q270 : (Jvm.Cond.methodLink "ImmutableLongArray" (43 : Nat) ({ cls := "Preconditions", name := "checkElementIndex", desc := "(II)I" } : Jvm.MethodName)) ∈ lw_all := lw_g (lw_at lw_m2 27 rfl) rfl
theorem q286 : (Jvm.Cond.instanceMethod ({ cls := "ImmutableLongArray", name := "indexOf", desc := "(J)I" } : Jvm.MethodName)) ∈ lw_all := lw_g (lw_at lw_m2 43 rfl) rfl
theorem q287 : (Jvm.Cond.selects "ImmutableLongArray" ({ cls := "ImmutableLongArray", name := "indexOf", desc := "(J)I" } : Jvm.MethodName) ({ cls := "ImmutableLongArray", name := "indexOf", desc := "(J)I" } : Jvm.MethodName)) ∈ lw_all := lw_g (lw_at lw_m2 44 rfl) rfl
theorem q288 : (Jvm.Cond.code ({ cls := "ImmutableLongArray", name := "indexOf", desc := "(J)I" } : Jvm.MethodName) prog_3_method_8_code (4 : Nat) (Option.some Jvm.ClassFile.FieldType.int)) ∈ lw_all := lw_g (lw_at lw_m2 45 rfl) rfl
theorem q294 : (Jvm.Cond.instanceMethod ({ cls := "ImmutableLongArray", name := "lastIndexOf", desc := "(J)I" } : Jvm.MethodName)) ∈ lw_all := lw_g (lw_at lw_m2 51 rfl) rfl
theorem q295 : (Jvm.Cond.selects "ImmutableLongArray" ({ cls := "ImmutableLongArray", name := "lastIndexOf", desc := "(J)I" } : Jvm.MethodName) ({ cls := "ImmutableLongArray", name := "lastIndexOf", desc := "(J)I" } : Jvm.MethodName)) ∈ lw_all := lw_g (lw_at lw_m2 52 rfl) rfl
theorem q296 : (Jvm.Cond.code ({ cls := "ImmutableLongArray", name := "lastIndexOf", desc := "(J)I" } : Jvm.MethodName) prog_3_method_9_code (4 : Nat) (Option.some Jvm.ClassFile.FieldType.int)) ∈ lw_all := lw_g (lw_at lw_m2 53 rfl) rfl
theorem q306 : (Jvm.Cond.instanceMethod ({ cls := "ImmutableLongArray", name := "equals", desc := "(Ljava/lang/Object;)Z" } : Jvm.MethodName)) ∈ lw_all := lw_g (lw_at lw_m2 63 rfl) rfl
theorem q307 : (Jvm.Cond.selects "ImmutableLongArray" ({ cls := "ImmutableLongArray", name := "equals", desc := "(Ljava/lang/Object;)Z" } : Jvm.MethodName) ({ cls := "ImmutableLongArray", name := "equals", desc := "(Ljava/lang/Object;)Z" } : Jvm.MethodName)) ∈ lw_all := lw_g (lw_at lw_m2 64 rfl) rfl
theorem q308 : (Jvm.Cond.code ({ cls := "ImmutableLongArray", name := "equals", desc := "(Ljava/lang/Object;)Z" } : Jvm.MethodName) prog_3_method_13_code (4 : Nat) (Option.some Jvm.ClassFile.FieldType.boolean)) ∈ lw_all := lw_g (lw_at lw_m2 65 rfl) rfl
theorem q309 : (Jvm.Cond.methodLink "ImmutableLongArray" (61 : Nat) ({ cls := "ImmutableLongArray", name := "get", desc := "(I)J" } : Jvm.MethodName)) ∈ lw_all := lw_g (lw_at lw_m2 66 rfl) rfl
theorem q315 : (Jvm.Cond.instanceMethod ({ cls := "ImmutableLongArray", name := "hashCode", desc := "()I" } : Jvm.MethodName)) ∈ lw_all := lw_g (lw_at lw_m2 72 rfl) rfl
theorem q316 : (Jvm.Cond.selects "ImmutableLongArray" ({ cls := "ImmutableLongArray", name := "hashCode", desc := "()I" } : Jvm.MethodName) ({ cls := "ImmutableLongArray", name := "hashCode", desc := "()I" } : Jvm.MethodName)) ∈ lw_all := lw_g (lw_at lw_m2 73 rfl) rfl
theorem q317 : (Jvm.Cond.code ({ cls := "ImmutableLongArray", name := "hashCode", desc := "()I" } : Jvm.MethodName) prog_3_method_14_code (3 : Nat) (Option.some Jvm.ClassFile.FieldType.int)) ∈ lw_all := lw_g (lw_at lw_m2 74 rfl) rfl
theorem q318 : (Jvm.Cond.methodLink "ImmutableLongArray" (65 : Nat) ({ cls := "java/lang/Long", name := "hashCode", desc := "(J)I" } : Jvm.MethodName)) ∈ lw_all := lw_g (lw_at lw_m2 75 rfl) rfl
theorem q326 : (Jvm.Cond.instanceMethod ({ cls := "ImmutableLongArray", name := "toArray", desc := "()[J" } : Jvm.MethodName)) ∈ lw_all := lw_g (lw_at lw_m2 83 rfl) rfl
theorem q327 : (Jvm.Cond.selects "ImmutableLongArray" ({ cls := "ImmutableLongArray", name := "toArray", desc := "()[J" } : Jvm.MethodName) ({ cls := "ImmutableLongArray", name := "toArray", desc := "()[J" } : Jvm.MethodName)) ∈ lw_all := lw_g (lw_at lw_m2 84 rfl) rfl
theorem q328 : (Jvm.Cond.code ({ cls := "ImmutableLongArray", name := "toArray", desc := "()[J" } : Jvm.MethodName) prog_3_method_11_code (1 : Nat) (Option.some (Jvm.ClassFile.FieldType.array Jvm.ClassFile.FieldType.long))) ∈ lw_all := lw_g (lw_at lw_m2 85 rfl) rfl
theorem q329 : (Jvm.Cond.methodLink "ImmutableLongArray" (51 : Nat) ({ cls := "java/util/Arrays", name := "copyOfRange", desc := "([JII)[J" } : Jvm.MethodName)) ∈ lw_all := lw_g (lw_at lw_m2 86 rfl) rfl
theorem q380 : (Jvm.Cond.instanceMethod ({ cls := "ImmutableLongArray", name := "trimmed", desc := "()LImmutableLongArray;" } : Jvm.MethodName)) ∈ lw_all := lw_g (lw_at lw_m2 137 rfl) rfl
theorem q381 : (Jvm.Cond.selects "ImmutableLongArray" ({ cls := "ImmutableLongArray", name := "trimmed", desc := "()LImmutableLongArray;" } : Jvm.MethodName) ({ cls := "ImmutableLongArray", name := "trimmed", desc := "()LImmutableLongArray;" } : Jvm.MethodName)) ∈ lw_all := lw_g (lw_at lw_m2 138 rfl) rfl
theorem q382 : (Jvm.Cond.code ({ cls := "ImmutableLongArray", name := "trimmed", desc := "()LImmutableLongArray;" } : Jvm.MethodName) prog_3_method_15_code (1 : Nat) (Option.some (Jvm.ClassFile.FieldType.object "ImmutableLongArray"))) ∈ lw_all := lw_g (lw_at lw_m2 139 rfl) rfl
theorem q383 : (Jvm.Cond.methodLink "ImmutableLongArray" (70 : Nat) ({ cls := "ImmutableLongArray", name := "isPartialView", desc := "()Z" } : Jvm.MethodName)) ∈ lw_all := lw_g (lw_at lw_m2 140 rfl) rfl
theorem q384 : (Jvm.Cond.privateMethod ({ cls := "ImmutableLongArray", name := "isPartialView", desc := "()Z" } : Jvm.MethodName)) ∈ lw_tbl := lw_at lw_m2 141 rfl
theorem q385 : (Jvm.Cond.instanceMethod ({ cls := "ImmutableLongArray", name := "isPartialView", desc := "()Z" } : Jvm.MethodName)) ∈ lw_all := lw_g (lw_at lw_m2 142 rfl) rfl
theorem q386 : (Jvm.Cond.code ({ cls := "ImmutableLongArray", name := "isPartialView", desc := "()Z" } : Jvm.MethodName) prog_3_method_16_code (1 : Nat) (Option.some Jvm.ClassFile.FieldType.boolean)) ∈ lw_all := lw_g (lw_at lw_m2 143 rfl) rfl
theorem q387 : (Jvm.Cond.methodLink "ImmutableLongArray" (74 : Nat) ({ cls := "ImmutableLongArray", name := "toArray", desc := "()[J" } : Jvm.MethodName)) ∈ lw_all := lw_g (lw_at lw_m2 144 rfl) rfl
theorem q399 : (Jvm.Cond.instanceMethod ({ cls := "ImmutableLongArray", name := "contains", desc := "(J)Z" } : Jvm.MethodName)) ∈ lw_all := lw_g (lw_at lw_m2 156 rfl) rfl
theorem q400 : (Jvm.Cond.selects "ImmutableLongArray" ({ cls := "ImmutableLongArray", name := "contains", desc := "(J)Z" } : Jvm.MethodName) ({ cls := "ImmutableLongArray", name := "contains", desc := "(J)Z" } : Jvm.MethodName)) ∈ lw_all := lw_g (lw_at lw_m2 157 rfl) rfl
theorem q401 : (Jvm.Cond.code ({ cls := "ImmutableLongArray", name := "contains", desc := "(J)Z" } : Jvm.MethodName) prog_3_method_10_code (3 : Nat) (Option.some Jvm.ClassFile.FieldType.boolean)) ∈ lw_all := lw_g (lw_at lw_m2 158 rfl) rfl
theorem q402 : (Jvm.Cond.methodLink "ImmutableLongArray" (47 : Nat) ({ cls := "ImmutableLongArray", name := "indexOf", desc := "(J)I" } : Jvm.MethodName)) ∈ lw_all := lw_g (lw_at lw_m2 159 rfl) rfl
theorem in_X2 : ∀ w ∈ wsX20, w ∈ lw_all := lw_in wsX20 [136, 138, 140] (by decide +kernel) (by decide +kernel)
/-! Preconditions -/
set_option maxRecDepth 100000
def RX3 : String := "Preconditions"
abbrev cX3_checkArgument : ByteArray := prog_5_method_1_code
def yX3_checkArgument : MethodName := ⟨RX3, "checkArgument", "(ZLjava/lang/String;I)V"⟩
def dkwX3_checkArgument_0 : List UInt8 := [26, 154, 0, 13, 187, 0, 1, 89, 18, 3, 183, 0, 5, 191, 177]
abbrev dktX3_checkArgument_0 : List UInt8 := dkwX3_checkArgument_0 ++ []
theorem dksX3_checkArgument_0 : cX3_checkArgument.data.toList.drop 0 = dktX3_checkArgument_0 := by decide +kernel
theorem dX3_checkArgument_0 : decode cX3_checkArgument 0 = .ok (.iload_n 0, 1) := dk_26 (dk_at dksX3_checkArgument_0 0 rfl rfl)
theorem dX3_checkArgument_1 : decode cX3_checkArgument 1 = .ok (.ifCond .ne 13, 3) := dk_154 0 13 (dk_at dksX3_checkArgument_0 1 rfl rfl)
theorem dX3_checkArgument_4 : decode cX3_checkArgument 4 = .ok (.new 1, 3) := dk_187 0 1 (dk_at dksX3_checkArgument_0 4 rfl rfl)
theorem dX3_checkArgument_7 : decode cX3_checkArgument 7 = .ok (.dup, 1) := dk_89 (dk_at dksX3_checkArgument_0 7 rfl rfl)
theorem dX3_checkArgument_8 : decode cX3_checkArgument 8 = .ok (.ldc 3, 2) := dk_18 3 (dk_at dksX3_checkArgument_0 8 rfl rfl)
theorem dX3_checkArgument_10 : decode cX3_checkArgument 10 = .ok (.invokespecial 5, 3) := dk_183 0 5 (dk_at dksX3_checkArgument_0 10 rfl rfl)
theorem dX3_checkArgument_13 : decode cX3_checkArgument 13 = .ok (.athrow, 1) := dk_191 (dk_at dksX3_checkArgument_0 13 rfl rfl)
theorem dX3_checkArgument_14 : decode cX3_checkArgument 14 = .ok (.return_, 1) := dk_177 (dk_at dksX3_checkArgument_0 14 rfl rfl)
abbrev cX3_checkPositionIndexes : ByteArray := prog_5_method_4_code
def yX3_checkPositionIndexes : MethodName := ⟨RX3, "checkPositionIndexes", "(III)V"⟩
def dkwX3_checkPositionIndexes_1 : List UInt8 := [177]
abbrev dktX3_checkPositionIndexes_1 : List UInt8 := dkwX3_checkPositionIndexes_1 ++ []
def dkwX3_checkPositionIndexes_0 : List UInt8 := [26, 155, 0, 13, 27, 26, 161, 0, 8, 27, 28, 164, 0, 13, 187, 0, 17, 89, 18, 3, 183, 0, 19, 191]
abbrev dktX3_checkPositionIndexes_0 : List UInt8 := dkwX3_checkPositionIndexes_0 ++ dktX3_checkPositionIndexes_1
theorem dksX3_checkPositionIndexes_0 : cX3_checkPositionIndexes.data.toList.drop 0 = dktX3_checkPositionIndexes_0 := by decide +kernel
theorem dksX3_checkPositionIndexes_1 : cX3_checkPositionIndexes.data.toList.drop 24 = dktX3_checkPositionIndexes_1 := dk_seg dksX3_checkPositionIndexes_0 24 rfl rfl
theorem dX3_checkPositionIndexes_0 : decode cX3_checkPositionIndexes 0 = .ok (.iload_n 0, 1) := dk_26 (dk_at dksX3_checkPositionIndexes_0 0 rfl rfl)
theorem dX3_checkPositionIndexes_1 : decode cX3_checkPositionIndexes 1 = .ok (.ifCond .lt 13, 3) := dk_155 0 13 (dk_at dksX3_checkPositionIndexes_0 1 rfl rfl)
theorem dX3_checkPositionIndexes_4 : decode cX3_checkPositionIndexes 4 = .ok (.iload_n 1, 1) := dk_27 (dk_at dksX3_checkPositionIndexes_0 4 rfl rfl)
theorem dX3_checkPositionIndexes_5 : decode cX3_checkPositionIndexes 5 = .ok (.iload_n 0, 1) := dk_26 (dk_at dksX3_checkPositionIndexes_0 5 rfl rfl)
theorem dX3_checkPositionIndexes_6 : decode cX3_checkPositionIndexes 6 = .ok (.if_icmp .lt 8, 3) := dk_161 0 8 (dk_at dksX3_checkPositionIndexes_0 6 rfl rfl)
theorem dX3_checkPositionIndexes_9 : decode cX3_checkPositionIndexes 9 = .ok (.iload_n 1, 1) := dk_27 (dk_at dksX3_checkPositionIndexes_0 9 rfl rfl)
theorem dX3_checkPositionIndexes_10 : decode cX3_checkPositionIndexes 10 = .ok (.iload_n 2, 1) := dk_28 (dk_at dksX3_checkPositionIndexes_0 10 rfl rfl)
theorem dX3_checkPositionIndexes_11 : decode cX3_checkPositionIndexes 11 = .ok (.if_icmp .le 13, 3) := dk_164 0 13 (dk_at dksX3_checkPositionIndexes_0 11 rfl rfl)
theorem dX3_checkPositionIndexes_14 : decode cX3_checkPositionIndexes 14 = .ok (.new 17, 3) := dk_187 0 17 (dk_at dksX3_checkPositionIndexes_0 14 rfl rfl)
theorem dX3_checkPositionIndexes_17 : decode cX3_checkPositionIndexes 17 = .ok (.dup, 1) := dk_89 (dk_at dksX3_checkPositionIndexes_0 17 rfl rfl)
theorem dX3_checkPositionIndexes_18 : decode cX3_checkPositionIndexes 18 = .ok (.ldc 3, 2) := dk_18 3 (dk_at dksX3_checkPositionIndexes_0 18 rfl rfl)
theorem dX3_checkPositionIndexes_20 : decode cX3_checkPositionIndexes 20 = .ok (.invokespecial 19, 3) := dk_183 0 19 (dk_at dksX3_checkPositionIndexes_0 20 rfl rfl)
theorem dX3_checkPositionIndexes_23 : decode cX3_checkPositionIndexes 23 = .ok (.athrow, 1) := dk_191 (dk_at dksX3_checkPositionIndexes_0 23 rfl rfl)
theorem dX3_checkPositionIndexes_24 : decode cX3_checkPositionIndexes 24 = .ok (.return_, 1) := dk_177 (dk_at dksX3_checkPositionIndexes_1 0 rfl rfl)
abbrev cX3_checkElementIndex : ByteArray := prog_5_method_2_code
def yX3_checkElementIndex : MethodName := ⟨RX3, "checkElementIndex", "(II)I"⟩
def dkwX3_checkElementIndex_0 : List UInt8 := [26, 27, 18, 9, 184, 0, 11, 172]
abbrev dktX3_checkElementIndex_0 : List UInt8 := dkwX3_checkElementIndex_0 ++ []
theorem dksX3_checkElementIndex_0 : cX3_checkElementIndex.data.toList.drop 0 = dktX3_checkElementIndex_0 := by decide +kernel
theorem dX3_checkElementIndex_0 : decode cX3_checkElementIndex 0 = .ok (.iload_n 0, 1) := dk_26 (dk_at dksX3_checkElementIndex_0 0 rfl rfl)
theorem dX3_checkElementIndex_1 : decode cX3_checkElementIndex 1 = .ok (.iload_n 1, 1) := dk_27 (dk_at dksX3_checkElementIndex_0 1 rfl rfl)
theorem dX3_checkElementIndex_2 : decode cX3_checkElementIndex 2 = .ok (.ldc 9, 2) := dk_18 9 (dk_at dksX3_checkElementIndex_0 2 rfl rfl)
theorem dX3_checkElementIndex_4 : decode cX3_checkElementIndex 4 = .ok (.invokestatic 11, 3) := dk_184 0 11 (dk_at dksX3_checkElementIndex_0 4 rfl rfl)
theorem dX3_checkElementIndex_7 : decode cX3_checkElementIndex 7 = .ok (.ireturn, 1) := dk_172 (dk_at dksX3_checkElementIndex_0 7 rfl rfl)
abbrev cX3_checkElementIndex_2 : ByteArray := prog_5_method_3_code
def yX3_checkElementIndex_2 : MethodName := ⟨RX3, "checkElementIndex", "(IILjava/lang/String;)I"⟩
def dkwX3_checkElementIndex_2_0 : List UInt8 := [26, 155, 0, 8, 26, 27, 161, 0, 13, 187, 0, 17, 89, 18, 3, 183, 0, 19, 191, 26, 172]
abbrev dktX3_checkElementIndex_2_0 : List UInt8 := dkwX3_checkElementIndex_2_0 ++ []
theorem dksX3_checkElementIndex_2_0 : cX3_checkElementIndex_2.data.toList.drop 0 = dktX3_checkElementIndex_2_0 := by decide +kernel
theorem dX3_checkElementIndex_2_0 : decode cX3_checkElementIndex_2 0 = .ok (.iload_n 0, 1) := dk_26 (dk_at dksX3_checkElementIndex_2_0 0 rfl rfl)
theorem dX3_checkElementIndex_2_1 : decode cX3_checkElementIndex_2 1 = .ok (.ifCond .lt 8, 3) := dk_155 0 8 (dk_at dksX3_checkElementIndex_2_0 1 rfl rfl)
theorem dX3_checkElementIndex_2_4 : decode cX3_checkElementIndex_2 4 = .ok (.iload_n 0, 1) := dk_26 (dk_at dksX3_checkElementIndex_2_0 4 rfl rfl)
theorem dX3_checkElementIndex_2_5 : decode cX3_checkElementIndex_2 5 = .ok (.iload_n 1, 1) := dk_27 (dk_at dksX3_checkElementIndex_2_0 5 rfl rfl)
theorem dX3_checkElementIndex_2_6 : decode cX3_checkElementIndex_2 6 = .ok (.if_icmp .lt 13, 3) := dk_161 0 13 (dk_at dksX3_checkElementIndex_2_0 6 rfl rfl)
theorem dX3_checkElementIndex_2_9 : decode cX3_checkElementIndex_2 9 = .ok (.new 17, 3) := dk_187 0 17 (dk_at dksX3_checkElementIndex_2_0 9 rfl rfl)
theorem dX3_checkElementIndex_2_12 : decode cX3_checkElementIndex_2 12 = .ok (.dup, 1) := dk_89 (dk_at dksX3_checkElementIndex_2_0 12 rfl rfl)
theorem dX3_checkElementIndex_2_13 : decode cX3_checkElementIndex_2 13 = .ok (.ldc 3, 2) := dk_18 3 (dk_at dksX3_checkElementIndex_2_0 13 rfl rfl)
theorem dX3_checkElementIndex_2_15 : decode cX3_checkElementIndex_2 15 = .ok (.invokespecial 19, 3) := dk_183 0 19 (dk_at dksX3_checkElementIndex_2_0 15 rfl rfl)
theorem dX3_checkElementIndex_2_18 : decode cX3_checkElementIndex_2 18 = .ok (.athrow, 1) := dk_191 (dk_at dksX3_checkElementIndex_2_0 18 rfl rfl)
theorem dX3_checkElementIndex_2_19 : decode cX3_checkElementIndex_2 19 = .ok (.iload_n 0, 1) := dk_26 (dk_at dksX3_checkElementIndex_2_0 19 rfl rfl)
theorem dX3_checkElementIndex_2_20 : decode cX3_checkElementIndex_2 20 = .ok (.ireturn, 1) := dk_172 (dk_at dksX3_checkElementIndex_2_0 20 rfl rfl)
theorem q6 : (Jvm.Cond.initialized "Preconditions") ∈ lw_all := lw_g (lw_at lw_m1 3 rfl) rfl
theorem q33 : (Jvm.Cond.static ({ cls := "Preconditions", name := "checkArgument", desc := "(ZLjava/lang/String;I)V" } : Jvm.MethodName)) ∈ lw_all := lw_g (lw_at lw_m1 30 rfl) rfl
theorem q34 : (Jvm.Cond.code ({ cls := "Preconditions", name := "checkArgument", desc := "(ZLjava/lang/String;I)V" } : Jvm.MethodName) prog_5_method_1_code (3 : Nat) (Option.none : Option Jvm.ClassFile.FieldType)) ∈ lw_all := lw_g (lw_at lw_m1 31 rfl) rfl
theorem q35 : (Jvm.Cond.classLink "Preconditions" (1 : Nat) "java/lang/IllegalArgumentException") ∈ lw_all := lw_g (lw_at lw_m1 32 rfl) rfl
theorem q76 : (Jvm.Cond.stringRef "Preconditions" (3 : Nat) "left out") ∈ lw_tbl := lw_at lw_m1 73 rfl
theorem q77 : (Jvm.Cond.methodLink "Preconditions" (5 : Nat) ({ cls := "java/lang/IllegalArgumentException", name := "<init>", desc := "(Ljava/lang/String;)V" } : Jvm.MethodName)) ∈ lw_all := lw_g (lw_at lw_m1 74 rfl) rfl
theorem q241 : (Jvm.Cond.static ({ cls := "Preconditions", name := "checkPositionIndexes", desc := "(III)V" } : Jvm.MethodName)) ∈ lw_all := lw_g (lw_at lw_m1 238 rfl) rfl
theorem q242 : (Jvm.Cond.code ({ cls := "Preconditions", name := "checkPositionIndexes", desc := "(III)V" } : Jvm.MethodName) prog_5_method_4_code (3 : Nat) (Option.none : Option Jvm.ClassFile.FieldType)) ∈ lw_all := lw_g (lw_at lw_m1 239 rfl) rfl
theorem q243 : (Jvm.Cond.classLink "Preconditions" (17 : Nat) "java/lang/IndexOutOfBoundsException") ∈ lw_all := lw_g (lw_at lw_m2 0 rfl) rfl
theorem q252 : (Jvm.Cond.methodLink "Preconditions" (19 : Nat) ({ cls := "java/lang/IndexOutOfBoundsException", name := "<init>", desc := "(Ljava/lang/String;)V" } : Jvm.MethodName)) ∈ lw_all := lw_g (lw_at lw_m2 9 rfl) rfl
theorem q271 : (Jvm.Cond.static ({ cls := "Preconditions", name := "checkElementIndex", desc := "(II)I" } : Jvm.MethodName)) ∈ lw_all := lw_g (lw_at lw_m2 28 rfl) rfl
theorem q272 : (Jvm.Cond.code ({ cls := "Preconditions", name := "checkElementIndex", desc := "(II)I" } : Jvm.MethodName) prog_5_method_2_code (2 : Nat) (Option.some Jvm.ClassFile.FieldType.int)) ∈ lw_all := lw_g (lw_at lw_m2 29 rfl) rfl
theorem q273 : (Jvm.Cond.stringRef "Preconditions" (9 : Nat) "index") ∈ lw_tbl := lw_at lw_m2 30 rfl
theorem q274 : (Jvm.Cond.methodLink "Preconditions" (11 : Nat) ({ cls := "Preconditions", name := "checkElementIndex", desc := "(IILjava/lang/String;)I" } : Jvm.MethodName)) ∈ lw_all := lw_g (lw_at lw_m2 31 rfl) rfl
theorem q275 : (Jvm.Cond.static ({ cls := "Preconditions", name := "checkElementIndex", desc := "(IILjava/lang/String;)I" } : Jvm.MethodName)) ∈ lw_all := lw_g (lw_at lw_m2 32 rfl) rfl
theorem q276 : (Jvm.Cond.code ({ cls := "Preconditions", name := "checkElementIndex", desc := "(IILjava/lang/String;)I" } : Jvm.MethodName) prog_5_method_3_code (3 : Nat) (Option.some Jvm.ClassFile.FieldType.int)) ∈ lw_all := lw_g (lw_at lw_m2 33 rfl) rfl
/-! ImmutableLongArray$Builder -/
set_option maxRecDepth 100000
def RX4 : String := "ImmutableLongArray$Builder"
def TX4 : u_T := fun k => match k with
  | 0 => ("ImmutableLongArray$Builder", "array", "[J", false)
  | _ => ("ImmutableLongArray$Builder", "count", "I", false)
def tyX4 : Nat → FieldType := fun k => match k with
  | 0 => .array .long
  | _ => .int
abbrev wsX40 : List Cond := u_ws RX4 TX4 2
theorem nmX4 : ∀ a, a < 2 → ∀ b, b < 2 → a ≠ b → (TX4 a).2.1 ≠ (TX4 b).2.1 := by decide +kernel
theorem tyX4_ok : ∀ k, k < 2 → parseFieldDescriptor (TX4 k).2.2.1 = some (tyX4 k) := by decide +kernel
abbrev cX4_init : ByteArray := prog_4_method_1_code
def yX4_init : MethodName := ⟨RX4, "<init>", "(I)V"⟩
def dkwX4_init_0 : List UInt8 := [42, 183, 0, 1, 42, 3, 181, 0, 7, 42, 27, 188, 11, 181, 0, 13, 177]
abbrev dktX4_init_0 : List UInt8 := dkwX4_init_0 ++ []
theorem dksX4_init_0 : cX4_init.data.toList.drop 0 = dktX4_init_0 := by decide +kernel
theorem dX4_init_0 : decode cX4_init 0 = .ok (.aload_n 0, 1) := dk_42 (dk_at dksX4_init_0 0 rfl rfl)
theorem dX4_init_1 : decode cX4_init 1 = .ok (.invokespecial 1, 3) := dk_183 0 1 (dk_at dksX4_init_0 1 rfl rfl)
theorem dX4_init_4 : decode cX4_init 4 = .ok (.aload_n 0, 1) := dk_42 (dk_at dksX4_init_0 4 rfl rfl)
theorem dX4_init_5 : decode cX4_init 5 = .ok (.iconst 0, 1) := dk_3 (dk_at dksX4_init_0 5 rfl rfl)
theorem dX4_init_6 : decode cX4_init 6 = .ok (.putfield 7, 3) := dk_181 0 7 (dk_at dksX4_init_0 6 rfl rfl)
theorem dX4_init_9 : decode cX4_init 9 = .ok (.aload_n 0, 1) := dk_42 (dk_at dksX4_init_0 9 rfl rfl)
theorem dX4_init_10 : decode cX4_init 10 = .ok (.iload_n 1, 1) := dk_27 (dk_at dksX4_init_0 10 rfl rfl)
theorem dX4_init_11 : decode cX4_init 11 = .ok (.newarray .long, 2) := dk_188_11 (dk_at dksX4_init_0 11 rfl rfl)
theorem dX4_init_13 : decode cX4_init 13 = .ok (.putfield 13, 3) := dk_181 0 13 (dk_at dksX4_init_0 13 rfl rfl)
theorem dX4_init_16 : decode cX4_init 16 = .ok (.return_, 1) := dk_177 (dk_at dksX4_init_0 16 rfl rfl)
abbrev cX4_addAll : ByteArray := prog_4_method_3_code
def yX4_addAll : MethodName := ⟨RX4, "addAll", "(LImmutableLongArray;)LImmutableLongArray$Builder;"⟩
def dkwX4_addAll_1 : List UInt8 := [43, 182, 0, 21, 184, 0, 31, 42, 89, 180, 0, 7, 43, 182, 0, 21, 96, 181, 0, 7, 42, 176]
abbrev dktX4_addAll_1 : List UInt8 := dkwX4_addAll_1 ++ []
def dkwX4_addAll_0 : List UInt8 := [42, 43, 182, 0, 21, 182, 0, 17, 43, 180, 0, 27, 43, 180, 0, 28, 42, 180, 0, 13, 42, 180, 0, 7]
abbrev dktX4_addAll_0 : List UInt8 := dkwX4_addAll_0 ++ dktX4_addAll_1
theorem dksX4_addAll_0 : cX4_addAll.data.toList.drop 0 = dktX4_addAll_0 := by decide +kernel
theorem dksX4_addAll_1 : cX4_addAll.data.toList.drop 24 = dktX4_addAll_1 := dk_seg dksX4_addAll_0 24 rfl rfl
theorem dX4_addAll_0 : decode cX4_addAll 0 = .ok (.aload_n 0, 1) := dk_42 (dk_at dksX4_addAll_0 0 rfl rfl)
theorem dX4_addAll_1 : decode cX4_addAll 1 = .ok (.aload_n 1, 1) := dk_43 (dk_at dksX4_addAll_0 1 rfl rfl)
theorem dX4_addAll_2 : decode cX4_addAll 2 = .ok (.invokevirtual 21, 3) := dk_182 0 21 (dk_at dksX4_addAll_0 2 rfl rfl)
theorem dX4_addAll_5 : decode cX4_addAll 5 = .ok (.invokevirtual 17, 3) := dk_182 0 17 (dk_at dksX4_addAll_0 5 rfl rfl)
theorem dX4_addAll_8 : decode cX4_addAll 8 = .ok (.aload_n 1, 1) := dk_43 (dk_at dksX4_addAll_0 8 rfl rfl)
theorem dX4_addAll_9 : decode cX4_addAll 9 = .ok (.getfield 27, 3) := dk_180 0 27 (dk_at dksX4_addAll_0 9 rfl rfl)
theorem dX4_addAll_12 : decode cX4_addAll 12 = .ok (.aload_n 1, 1) := dk_43 (dk_at dksX4_addAll_0 12 rfl rfl)
theorem dX4_addAll_13 : decode cX4_addAll 13 = .ok (.getfield 28, 3) := dk_180 0 28 (dk_at dksX4_addAll_0 13 rfl rfl)
theorem dX4_addAll_16 : decode cX4_addAll 16 = .ok (.aload_n 0, 1) := dk_42 (dk_at dksX4_addAll_0 16 rfl rfl)
theorem dX4_addAll_17 : decode cX4_addAll 17 = .ok (.getfield 13, 3) := dk_180 0 13 (dk_at dksX4_addAll_0 17 rfl rfl)
theorem dX4_addAll_20 : decode cX4_addAll 20 = .ok (.aload_n 0, 1) := dk_42 (dk_at dksX4_addAll_0 20 rfl rfl)
theorem dX4_addAll_21 : decode cX4_addAll 21 = .ok (.getfield 7, 3) := dk_180 0 7 (dk_at dksX4_addAll_0 21 rfl rfl)
theorem dX4_addAll_24 : decode cX4_addAll 24 = .ok (.aload_n 1, 1) := dk_43 (dk_at dksX4_addAll_1 0 rfl rfl)
theorem dX4_addAll_25 : decode cX4_addAll 25 = .ok (.invokevirtual 21, 3) := dk_182 0 21 (dk_at dksX4_addAll_1 1 rfl rfl)
theorem dX4_addAll_28 : decode cX4_addAll 28 = .ok (.invokestatic 31, 3) := dk_184 0 31 (dk_at dksX4_addAll_1 4 rfl rfl)
theorem dX4_addAll_31 : decode cX4_addAll 31 = .ok (.aload_n 0, 1) := dk_42 (dk_at dksX4_addAll_1 7 rfl rfl)
theorem dX4_addAll_32 : decode cX4_addAll 32 = .ok (.dup, 1) := dk_89 (dk_at dksX4_addAll_1 8 rfl rfl)
theorem dX4_addAll_33 : decode cX4_addAll 33 = .ok (.getfield 7, 3) := dk_180 0 7 (dk_at dksX4_addAll_1 9 rfl rfl)
theorem dX4_addAll_36 : decode cX4_addAll 36 = .ok (.aload_n 1, 1) := dk_43 (dk_at dksX4_addAll_1 12 rfl rfl)
theorem dX4_addAll_37 : decode cX4_addAll 37 = .ok (.invokevirtual 21, 3) := dk_182 0 21 (dk_at dksX4_addAll_1 13 rfl rfl)
theorem dX4_addAll_40 : decode cX4_addAll 40 = .ok (.iadd, 1) := dk_96 (dk_at dksX4_addAll_1 16 rfl rfl)
theorem dX4_addAll_41 : decode cX4_addAll 41 = .ok (.putfield 7, 3) := dk_181 0 7 (dk_at dksX4_addAll_1 17 rfl rfl)
theorem dX4_addAll_44 : decode cX4_addAll 44 = .ok (.aload_n 0, 1) := dk_42 (dk_at dksX4_addAll_1 20 rfl rfl)
theorem dX4_addAll_45 : decode cX4_addAll 45 = .ok (.areturn, 1) := dk_176 (dk_at dksX4_addAll_1 21 rfl rfl)
abbrev cX4_ensureRoomFor : ByteArray := prog_4_method_4_code
def yX4_ensureRoomFor : MethodName := ⟨RX4, "ensureRoomFor", "(I)V"⟩
def dkwX4_ensureRoomFor_1 : List UInt8 := [180, 0, 13, 190, 28, 184, 0, 37, 184, 0, 41, 181, 0, 13, 177]
abbrev dktX4_ensureRoomFor_1 : List UInt8 := dkwX4_ensureRoomFor_1 ++ []
def dkwX4_ensureRoomFor_0 : List UInt8 := [42, 180, 0, 7, 27, 96, 61, 28, 42, 180, 0, 13, 190, 164, 0, 23, 42, 42, 180, 0, 13, 42]
abbrev dktX4_ensureRoomFor_0 : List UInt8 := dkwX4_ensureRoomFor_0 ++ dktX4_ensureRoomFor_1
theorem dksX4_ensureRoomFor_0 : cX4_ensureRoomFor.data.toList.drop 0 = dktX4_ensureRoomFor_0 := by decide +kernel
theorem dksX4_ensureRoomFor_1 : cX4_ensureRoomFor.data.toList.drop 22 = dktX4_ensureRoomFor_1 := dk_seg dksX4_ensureRoomFor_0 22 rfl rfl
theorem dX4_ensureRoomFor_0 : decode cX4_ensureRoomFor 0 = .ok (.aload_n 0, 1) := dk_42 (dk_at dksX4_ensureRoomFor_0 0 rfl rfl)
theorem dX4_ensureRoomFor_1 : decode cX4_ensureRoomFor 1 = .ok (.getfield 7, 3) := dk_180 0 7 (dk_at dksX4_ensureRoomFor_0 1 rfl rfl)
theorem dX4_ensureRoomFor_4 : decode cX4_ensureRoomFor 4 = .ok (.iload_n 1, 1) := dk_27 (dk_at dksX4_ensureRoomFor_0 4 rfl rfl)
theorem dX4_ensureRoomFor_5 : decode cX4_ensureRoomFor 5 = .ok (.iadd, 1) := dk_96 (dk_at dksX4_ensureRoomFor_0 5 rfl rfl)
theorem dX4_ensureRoomFor_6 : decode cX4_ensureRoomFor 6 = .ok (.istore_n 2, 1) := dk_61 (dk_at dksX4_ensureRoomFor_0 6 rfl rfl)
theorem dX4_ensureRoomFor_7 : decode cX4_ensureRoomFor 7 = .ok (.iload_n 2, 1) := dk_28 (dk_at dksX4_ensureRoomFor_0 7 rfl rfl)
theorem dX4_ensureRoomFor_8 : decode cX4_ensureRoomFor 8 = .ok (.aload_n 0, 1) := dk_42 (dk_at dksX4_ensureRoomFor_0 8 rfl rfl)
theorem dX4_ensureRoomFor_9 : decode cX4_ensureRoomFor 9 = .ok (.getfield 13, 3) := dk_180 0 13 (dk_at dksX4_ensureRoomFor_0 9 rfl rfl)
theorem dX4_ensureRoomFor_12 : decode cX4_ensureRoomFor 12 = .ok (.arraylength, 1) := dk_190 (dk_at dksX4_ensureRoomFor_0 12 rfl rfl)
theorem dX4_ensureRoomFor_13 : decode cX4_ensureRoomFor 13 = .ok (.if_icmp .le 23, 3) := dk_164 0 23 (dk_at dksX4_ensureRoomFor_0 13 rfl rfl)
theorem dX4_ensureRoomFor_16 : decode cX4_ensureRoomFor 16 = .ok (.aload_n 0, 1) := dk_42 (dk_at dksX4_ensureRoomFor_0 16 rfl rfl)
theorem dX4_ensureRoomFor_17 : decode cX4_ensureRoomFor 17 = .ok (.aload_n 0, 1) := dk_42 (dk_at dksX4_ensureRoomFor_0 17 rfl rfl)
theorem dX4_ensureRoomFor_18 : decode cX4_ensureRoomFor 18 = .ok (.getfield 13, 3) := dk_180 0 13 (dk_at dksX4_ensureRoomFor_0 18 rfl rfl)
theorem dX4_ensureRoomFor_21 : decode cX4_ensureRoomFor 21 = .ok (.aload_n 0, 1) := dk_42 (dk_at dksX4_ensureRoomFor_0 21 rfl rfl)
theorem dX4_ensureRoomFor_22 : decode cX4_ensureRoomFor 22 = .ok (.getfield 13, 3) := dk_180 0 13 (dk_at dksX4_ensureRoomFor_1 0 rfl rfl)
theorem dX4_ensureRoomFor_25 : decode cX4_ensureRoomFor 25 = .ok (.arraylength, 1) := dk_190 (dk_at dksX4_ensureRoomFor_1 3 rfl rfl)
theorem dX4_ensureRoomFor_26 : decode cX4_ensureRoomFor 26 = .ok (.iload_n 2, 1) := dk_28 (dk_at dksX4_ensureRoomFor_1 4 rfl rfl)
theorem dX4_ensureRoomFor_27 : decode cX4_ensureRoomFor 27 = .ok (.invokestatic 37, 3) := dk_184 0 37 (dk_at dksX4_ensureRoomFor_1 5 rfl rfl)
theorem dX4_ensureRoomFor_30 : decode cX4_ensureRoomFor 30 = .ok (.invokestatic 41, 3) := dk_184 0 41 (dk_at dksX4_ensureRoomFor_1 8 rfl rfl)
theorem dX4_ensureRoomFor_33 : decode cX4_ensureRoomFor 33 = .ok (.putfield 13, 3) := dk_181 0 13 (dk_at dksX4_ensureRoomFor_1 11 rfl rfl)
theorem dX4_ensureRoomFor_36 : decode cX4_ensureRoomFor 36 = .ok (.return_, 1) := dk_177 (dk_at dksX4_ensureRoomFor_1 14 rfl rfl)
abbrev cX4_expandedCapacity : ByteArray := prog_4_method_5_code
def yX4_expandedCapacity : MethodName := ⟨RX4, "expandedCapacity", "(II)I"⟩
def dkwX4_expandedCapacity_1 : List UInt8 := [162, 0, 12, 27, 4, 100, 184, 0, 54, 4, 120, 61, 28, 156, 0, 6, 18, 60, 61, 28, 172]
abbrev dktX4_expandedCapacity_1 : List UInt8 := dkwX4_expandedCapacity_1 ++ []
def dkwX4_expandedCapacity_0 : List UInt8 := [27, 156, 0, 13, 187, 0, 47, 89, 18, 49, 183, 0, 51, 191, 26, 26, 4, 122, 96, 4, 96, 61, 28, 27]
abbrev dktX4_expandedCapacity_0 : List UInt8 := dkwX4_expandedCapacity_0 ++ dktX4_expandedCapacity_1
theorem dksX4_expandedCapacity_0 : cX4_expandedCapacity.data.toList.drop 0 = dktX4_expandedCapacity_0 := by decide +kernel
theorem dksX4_expandedCapacity_1 : cX4_expandedCapacity.data.toList.drop 24 = dktX4_expandedCapacity_1 := dk_seg dksX4_expandedCapacity_0 24 rfl rfl
theorem dX4_expandedCapacity_0 : decode cX4_expandedCapacity 0 = .ok (.iload_n 1, 1) := dk_27 (dk_at dksX4_expandedCapacity_0 0 rfl rfl)
theorem dX4_expandedCapacity_1 : decode cX4_expandedCapacity 1 = .ok (.ifCond .ge 13, 3) := dk_156 0 13 (dk_at dksX4_expandedCapacity_0 1 rfl rfl)
theorem dX4_expandedCapacity_4 : decode cX4_expandedCapacity 4 = .ok (.new 47, 3) := dk_187 0 47 (dk_at dksX4_expandedCapacity_0 4 rfl rfl)
theorem dX4_expandedCapacity_7 : decode cX4_expandedCapacity 7 = .ok (.dup, 1) := dk_89 (dk_at dksX4_expandedCapacity_0 7 rfl rfl)
theorem dX4_expandedCapacity_8 : decode cX4_expandedCapacity 8 = .ok (.ldc 49, 2) := dk_18 49 (dk_at dksX4_expandedCapacity_0 8 rfl rfl)
theorem dX4_expandedCapacity_10 : decode cX4_expandedCapacity 10 = .ok (.invokespecial 51, 3) := dk_183 0 51 (dk_at dksX4_expandedCapacity_0 10 rfl rfl)
theorem dX4_expandedCapacity_13 : decode cX4_expandedCapacity 13 = .ok (.athrow, 1) := dk_191 (dk_at dksX4_expandedCapacity_0 13 rfl rfl)
theorem dX4_expandedCapacity_14 : decode cX4_expandedCapacity 14 = .ok (.iload_n 0, 1) := dk_26 (dk_at dksX4_expandedCapacity_0 14 rfl rfl)
theorem dX4_expandedCapacity_15 : decode cX4_expandedCapacity 15 = .ok (.iload_n 0, 1) := dk_26 (dk_at dksX4_expandedCapacity_0 15 rfl rfl)
theorem dX4_expandedCapacity_16 : decode cX4_expandedCapacity 16 = .ok (.iconst 1, 1) := dk_4 (dk_at dksX4_expandedCapacity_0 16 rfl rfl)
theorem dX4_expandedCapacity_17 : decode cX4_expandedCapacity 17 = .ok (.ishr, 1) := dk_122 (dk_at dksX4_expandedCapacity_0 17 rfl rfl)
theorem dX4_expandedCapacity_18 : decode cX4_expandedCapacity 18 = .ok (.iadd, 1) := dk_96 (dk_at dksX4_expandedCapacity_0 18 rfl rfl)
theorem dX4_expandedCapacity_19 : decode cX4_expandedCapacity 19 = .ok (.iconst 1, 1) := dk_4 (dk_at dksX4_expandedCapacity_0 19 rfl rfl)
theorem dX4_expandedCapacity_20 : decode cX4_expandedCapacity 20 = .ok (.iadd, 1) := dk_96 (dk_at dksX4_expandedCapacity_0 20 rfl rfl)
theorem dX4_expandedCapacity_21 : decode cX4_expandedCapacity 21 = .ok (.istore_n 2, 1) := dk_61 (dk_at dksX4_expandedCapacity_0 21 rfl rfl)
theorem dX4_expandedCapacity_22 : decode cX4_expandedCapacity 22 = .ok (.iload_n 2, 1) := dk_28 (dk_at dksX4_expandedCapacity_0 22 rfl rfl)
theorem dX4_expandedCapacity_23 : decode cX4_expandedCapacity 23 = .ok (.iload_n 1, 1) := dk_27 (dk_at dksX4_expandedCapacity_0 23 rfl rfl)
theorem dX4_expandedCapacity_24 : decode cX4_expandedCapacity 24 = .ok (.if_icmp .ge 12, 3) := dk_162 0 12 (dk_at dksX4_expandedCapacity_1 0 rfl rfl)
theorem dX4_expandedCapacity_27 : decode cX4_expandedCapacity 27 = .ok (.iload_n 1, 1) := dk_27 (dk_at dksX4_expandedCapacity_1 3 rfl rfl)
theorem dX4_expandedCapacity_28 : decode cX4_expandedCapacity 28 = .ok (.iconst 1, 1) := dk_4 (dk_at dksX4_expandedCapacity_1 4 rfl rfl)
theorem dX4_expandedCapacity_29 : decode cX4_expandedCapacity 29 = .ok (.isub, 1) := dk_100 (dk_at dksX4_expandedCapacity_1 5 rfl rfl)
theorem dX4_expandedCapacity_30 : decode cX4_expandedCapacity 30 = .ok (.invokestatic 54, 3) := dk_184 0 54 (dk_at dksX4_expandedCapacity_1 6 rfl rfl)
theorem dX4_expandedCapacity_33 : decode cX4_expandedCapacity 33 = .ok (.iconst 1, 1) := dk_4 (dk_at dksX4_expandedCapacity_1 9 rfl rfl)
theorem dX4_expandedCapacity_34 : decode cX4_expandedCapacity 34 = .ok (.ishl, 1) := dk_120 (dk_at dksX4_expandedCapacity_1 10 rfl rfl)
theorem dX4_expandedCapacity_35 : decode cX4_expandedCapacity 35 = .ok (.istore_n 2, 1) := dk_61 (dk_at dksX4_expandedCapacity_1 11 rfl rfl)
theorem dX4_expandedCapacity_36 : decode cX4_expandedCapacity 36 = .ok (.iload_n 2, 1) := dk_28 (dk_at dksX4_expandedCapacity_1 12 rfl rfl)
theorem dX4_expandedCapacity_37 : decode cX4_expandedCapacity 37 = .ok (.ifCond .ge 6, 3) := dk_156 0 6 (dk_at dksX4_expandedCapacity_1 13 rfl rfl)
theorem dX4_expandedCapacity_40 : decode cX4_expandedCapacity 40 = .ok (.ldc 60, 2) := dk_18 60 (dk_at dksX4_expandedCapacity_1 16 rfl rfl)
theorem dX4_expandedCapacity_42 : decode cX4_expandedCapacity 42 = .ok (.istore_n 2, 1) := dk_61 (dk_at dksX4_expandedCapacity_1 18 rfl rfl)
theorem dX4_expandedCapacity_43 : decode cX4_expandedCapacity 43 = .ok (.iload_n 2, 1) := dk_28 (dk_at dksX4_expandedCapacity_1 19 rfl rfl)
theorem dX4_expandedCapacity_44 : decode cX4_expandedCapacity 44 = .ok (.ireturn, 1) := dk_172 (dk_at dksX4_expandedCapacity_1 20 rfl rfl)
abbrev cX4_build : ByteArray := prog_4_method_6_code
def yX4_build : MethodName := ⟨RX4, "build", "()LImmutableLongArray;"⟩
def dkwX4_build_1 : List UInt8 := [42, 180, 0, 13, 3, 42, 180, 0, 7, 183, 0, 64, 176]
abbrev dktX4_build_1 : List UInt8 := dkwX4_build_1 ++ []
def dkwX4_build_0 : List UInt8 := [42, 180, 0, 7, 154, 0, 16, 187, 0, 22, 89, 3, 188, 11, 183, 0, 61, 167, 0, 19, 187, 0, 22, 89]
abbrev dktX4_build_0 : List UInt8 := dkwX4_build_0 ++ dktX4_build_1
theorem dksX4_build_0 : cX4_build.data.toList.drop 0 = dktX4_build_0 := by decide +kernel
theorem dksX4_build_1 : cX4_build.data.toList.drop 24 = dktX4_build_1 := dk_seg dksX4_build_0 24 rfl rfl
theorem dX4_build_0 : decode cX4_build 0 = .ok (.aload_n 0, 1) := dk_42 (dk_at dksX4_build_0 0 rfl rfl)
theorem dX4_build_1 : decode cX4_build 1 = .ok (.getfield 7, 3) := dk_180 0 7 (dk_at dksX4_build_0 1 rfl rfl)
theorem dX4_build_4 : decode cX4_build 4 = .ok (.ifCond .ne 16, 3) := dk_154 0 16 (dk_at dksX4_build_0 4 rfl rfl)
theorem dX4_build_7 : decode cX4_build 7 = .ok (.new 22, 3) := dk_187 0 22 (dk_at dksX4_build_0 7 rfl rfl)
theorem dX4_build_10 : decode cX4_build 10 = .ok (.dup, 1) := dk_89 (dk_at dksX4_build_0 10 rfl rfl)
theorem dX4_build_11 : decode cX4_build 11 = .ok (.iconst 0, 1) := dk_3 (dk_at dksX4_build_0 11 rfl rfl)
theorem dX4_build_12 : decode cX4_build 12 = .ok (.newarray .long, 2) := dk_188_11 (dk_at dksX4_build_0 12 rfl rfl)
theorem dX4_build_14 : decode cX4_build 14 = .ok (.invokespecial 61, 3) := dk_183 0 61 (dk_at dksX4_build_0 14 rfl rfl)
theorem dX4_build_17 : decode cX4_build 17 = .ok (.goto 19, 3) := dk_167 0 19 (dk_at dksX4_build_0 17 rfl rfl)
theorem dX4_build_20 : decode cX4_build 20 = .ok (.new 22, 3) := dk_187 0 22 (dk_at dksX4_build_0 20 rfl rfl)
theorem dX4_build_23 : decode cX4_build 23 = .ok (.dup, 1) := dk_89 (dk_at dksX4_build_0 23 rfl rfl)
theorem dX4_build_24 : decode cX4_build 24 = .ok (.aload_n 0, 1) := dk_42 (dk_at dksX4_build_1 0 rfl rfl)
theorem dX4_build_25 : decode cX4_build 25 = .ok (.getfield 13, 3) := dk_180 0 13 (dk_at dksX4_build_1 1 rfl rfl)
theorem dX4_build_28 : decode cX4_build 28 = .ok (.iconst 0, 1) := dk_3 (dk_at dksX4_build_1 4 rfl rfl)
theorem dX4_build_29 : decode cX4_build 29 = .ok (.aload_n 0, 1) := dk_42 (dk_at dksX4_build_1 5 rfl rfl)
theorem dX4_build_30 : decode cX4_build 30 = .ok (.getfield 7, 3) := dk_180 0 7 (dk_at dksX4_build_1 6 rfl rfl)
theorem dX4_build_33 : decode cX4_build 33 = .ok (.invokespecial 64, 3) := dk_183 0 64 (dk_at dksX4_build_1 9 rfl rfl)
theorem dX4_build_36 : decode cX4_build 36 = .ok (.areturn, 1) := dk_176 (dk_at dksX4_build_1 12 rfl rfl)
abbrev cX4_add : ByteArray := prog_4_method_2_code
def yX4_add : MethodName := ⟨RX4, "add", "(J)LImmutableLongArray$Builder;"⟩
def dkwX4_add_1 : List UInt8 := [181, 0, 7, 42, 176]
abbrev dktX4_add_1 : List UInt8 := dkwX4_add_1 ++ []
def dkwX4_add_0 : List UInt8 := [42, 4, 182, 0, 17, 42, 180, 0, 13, 42, 180, 0, 7, 31, 80, 42, 89, 180, 0, 7, 4, 96]
abbrev dktX4_add_0 : List UInt8 := dkwX4_add_0 ++ dktX4_add_1
theorem dksX4_add_0 : cX4_add.data.toList.drop 0 = dktX4_add_0 := by decide +kernel
theorem dksX4_add_1 : cX4_add.data.toList.drop 22 = dktX4_add_1 := dk_seg dksX4_add_0 22 rfl rfl
theorem dX4_add_0 : decode cX4_add 0 = .ok (.aload_n 0, 1) := dk_42 (dk_at dksX4_add_0 0 rfl rfl)
theorem dX4_add_1 : decode cX4_add 1 = .ok (.iconst 1, 1) := dk_4 (dk_at dksX4_add_0 1 rfl rfl)
theorem dX4_add_2 : decode cX4_add 2 = .ok (.invokevirtual 17, 3) := dk_182 0 17 (dk_at dksX4_add_0 2 rfl rfl)
theorem dX4_add_5 : decode cX4_add 5 = .ok (.aload_n 0, 1) := dk_42 (dk_at dksX4_add_0 5 rfl rfl)
theorem dX4_add_6 : decode cX4_add 6 = .ok (.getfield 13, 3) := dk_180 0 13 (dk_at dksX4_add_0 6 rfl rfl)
theorem dX4_add_9 : decode cX4_add 9 = .ok (.aload_n 0, 1) := dk_42 (dk_at dksX4_add_0 9 rfl rfl)
theorem dX4_add_10 : decode cX4_add 10 = .ok (.getfield 7, 3) := dk_180 0 7 (dk_at dksX4_add_0 10 rfl rfl)
theorem dX4_add_13 : decode cX4_add 13 = .ok (.lload_n 1, 1) := dk_31 (dk_at dksX4_add_0 13 rfl rfl)
theorem dX4_add_14 : decode cX4_add 14 = .ok (.lastore, 1) := dk_80 (dk_at dksX4_add_0 14 rfl rfl)
theorem dX4_add_15 : decode cX4_add 15 = .ok (.aload_n 0, 1) := dk_42 (dk_at dksX4_add_0 15 rfl rfl)
theorem dX4_add_16 : decode cX4_add 16 = .ok (.dup, 1) := dk_89 (dk_at dksX4_add_0 16 rfl rfl)
theorem dX4_add_17 : decode cX4_add 17 = .ok (.getfield 7, 3) := dk_180 0 7 (dk_at dksX4_add_0 17 rfl rfl)
theorem dX4_add_20 : decode cX4_add 20 = .ok (.iconst 1, 1) := dk_4 (dk_at dksX4_add_0 20 rfl rfl)
theorem dX4_add_21 : decode cX4_add 21 = .ok (.iadd, 1) := dk_96 (dk_at dksX4_add_0 21 rfl rfl)
theorem dX4_add_22 : decode cX4_add 22 = .ok (.putfield 7, 3) := dk_181 0 7 (dk_at dksX4_add_1 0 rfl rfl)
theorem dX4_add_25 : decode cX4_add 25 = .ok (.aload_n 0, 1) := dk_42 (dk_at dksX4_add_1 3 rfl rfl)
theorem dX4_add_26 : decode cX4_add 26 = .ok (.areturn, 1) := dk_176 (dk_at dksX4_add_1 4 rfl rfl)
theorem q11 : (Jvm.Cond.initialized "ImmutableLongArray$Builder") ∈ lw_all := lw_g (lw_at lw_m1 8 rfl) rfl
theorem q104 : (Jvm.Cond.instantiable "ImmutableLongArray$Builder" (2 : Nat)) ∈ lw_all := lw_g (lw_at lw_m1 101 rfl) rfl
theorem q106 : (Jvm.Cond.instanceMethod ({ cls := "ImmutableLongArray$Builder", name := "<init>", desc := "(I)V" } : Jvm.MethodName)) ∈ lw_all := lw_g (lw_at lw_m1 103 rfl) rfl
theorem q107 : (Jvm.Cond.code ({ cls := "ImmutableLongArray$Builder", name := "<init>", desc := "(I)V" } : Jvm.MethodName) prog_4_method_1_code (2 : Nat) (Option.none : Option Jvm.ClassFile.FieldType)) ∈ lw_all := lw_g (lw_at lw_m1 104 rfl) rfl
theorem q108 : (Jvm.Cond.methodLink "ImmutableLongArray$Builder" (1 : Nat) ({ cls := "java/lang/Object", name := "<init>", desc := "()V" } : Jvm.MethodName)) ∈ lw_all := lw_g (lw_at lw_m1 105 rfl) rfl
theorem q109 : (Jvm.Cond.fieldLink "ImmutableLongArray$Builder" (13 : Nat) "ImmutableLongArray$Builder" "array" "[J") ∈ lw_all := lw_g (lw_at lw_m1 106 rfl) rfl
theorem q110 : (Jvm.Cond.fieldLink "ImmutableLongArray$Builder" (7 : Nat) "ImmutableLongArray$Builder" "count" "I") ∈ lw_all := lw_g (lw_at lw_m1 107 rfl) rfl
theorem q111 : (Jvm.Cond.lays "ImmutableLongArray$Builder" "ImmutableLongArray$Builder" "array" "[J") ∈ lw_all := lw_g (lw_at lw_m1 108 rfl) rfl
theorem q112 : (Jvm.Cond.soleField "ImmutableLongArray$Builder" "array") ∈ lw_all := lw_g (lw_at lw_m1 109 rfl) rfl
theorem q113 : (Jvm.Cond.lays "ImmutableLongArray$Builder" "ImmutableLongArray$Builder" "count" "I") ∈ lw_all := lw_g (lw_at lw_m1 110 rfl) rfl
theorem q114 : (Jvm.Cond.soleField "ImmutableLongArray$Builder" "count") ∈ lw_all := lw_g (lw_at lw_m1 111 rfl) rfl
theorem q115 : (Jvm.Cond.superclass "ImmutableLongArray$Builder" "java/lang/Object") ∈ lw_all := lw_g (lw_at lw_m1 112 rfl) rfl
theorem q131 : (Jvm.Cond.fieldLinkNest "ImmutableLongArray$Builder" (27 : Nat) "ImmutableLongArray" "array" "[J" "ImmutableLongArray") ∈ lw_tbl := lw_at lw_m1 128 rfl
theorem q133 : (Jvm.Cond.fieldLinkNest "ImmutableLongArray$Builder" (28 : Nat) "ImmutableLongArray" "start" "I" "ImmutableLongArray") ∈ lw_tbl := lw_at lw_m1 130 rfl
theorem q162 : (Jvm.Cond.instanceMethod ({ cls := "ImmutableLongArray$Builder", name := "addAll", desc := "(LImmutableLongArray;)LImmutableLongArray$Builder;" } : Jvm.MethodName)) ∈ lw_all := lw_g (lw_at lw_m1 159 rfl) rfl
theorem q163 : (Jvm.Cond.selects "ImmutableLongArray$Builder" ({ cls := "ImmutableLongArray$Builder", name := "addAll", desc := "(LImmutableLongArray;)LImmutableLongArray$Builder;" } : Jvm.MethodName) ({ cls := "ImmutableLongArray$Builder", name := "addAll", desc := "(LImmutableLongArray;)LImmutableLongArray$Builder;" } : Jvm.MethodName)) ∈ lw_all := lw_g (lw_at lw_m1 160 rfl) rfl
theorem q164 : (Jvm.Cond.code ({ cls := "ImmutableLongArray$Builder", name := "addAll", desc := "(LImmutableLongArray;)LImmutableLongArray$Builder;" } : Jvm.MethodName) prog_4_method_3_code (2 : Nat) (Option.some (Jvm.ClassFile.FieldType.object "ImmutableLongArray$Builder"))) ∈ lw_all := lw_g (lw_at lw_m1 161 rfl) rfl
theorem q165 : (Jvm.Cond.methodLink "ImmutableLongArray$Builder" (21 : Nat) ({ cls := "ImmutableLongArray", name := "length", desc := "()I" } : Jvm.MethodName)) ∈ lw_all := lw_g (lw_at lw_m1 162 rfl) rfl
theorem q166 : (Jvm.Cond.methodLink "ImmutableLongArray$Builder" (17 : Nat) ({ cls := "ImmutableLongArray$Builder", name := "ensureRoomFor", desc := "(I)V" } : Jvm.MethodName)) ∈ lw_all := lw_g (lw_at lw_m1 163 rfl) rfl
theorem q167 : (Jvm.Cond.privateMethod ({ cls := "ImmutableLongArray$Builder", name := "ensureRoomFor", desc := "(I)V" } : Jvm.MethodName)) ∈ lw_tbl := lw_at lw_m1 164 rfl
theorem q168 : (Jvm.Cond.instanceMethod ({ cls := "ImmutableLongArray$Builder", name := "ensureRoomFor", desc := "(I)V" } : Jvm.MethodName)) ∈ lw_all := lw_g (lw_at lw_m1 165 rfl) rfl
theorem q169 : (Jvm.Cond.code ({ cls := "ImmutableLongArray$Builder", name := "ensureRoomFor", desc := "(I)V" } : Jvm.MethodName) prog_4_method_4_code (3 : Nat) (Option.none : Option Jvm.ClassFile.FieldType)) ∈ lw_all := lw_g (lw_at lw_m1 166 rfl) rfl
theorem q170 : (Jvm.Cond.methodLink "ImmutableLongArray$Builder" (37 : Nat) ({ cls := "ImmutableLongArray$Builder", name := "expandedCapacity", desc := "(II)I" } : Jvm.MethodName)) ∈ lw_all := lw_g (lw_at lw_m1 167 rfl) rfl
theorem q171 : (Jvm.Cond.static ({ cls := "ImmutableLongArray$Builder", name := "expandedCapacity", desc := "(II)I" } : Jvm.MethodName)) ∈ lw_all := lw_g (lw_at lw_m1 168 rfl) rfl
theorem q172 : (Jvm.Cond.code ({ cls := "ImmutableLongArray$Builder", name := "expandedCapacity", desc := "(II)I" } : Jvm.MethodName) prog_4_method_5_code (3 : Nat) (Option.some Jvm.ClassFile.FieldType.int)) ∈ lw_all := lw_g (lw_at lw_m1 169 rfl) rfl
theorem q173 : (Jvm.Cond.classLink "ImmutableLongArray$Builder" (47 : Nat) "java/lang/IllegalStateException") ∈ lw_all := lw_g (lw_at lw_m1 170 rfl) rfl
theorem q182 : (Jvm.Cond.stringRef "ImmutableLongArray$Builder" (49 : Nat) "left out") ∈ lw_tbl := lw_at lw_m1 179 rfl
theorem q183 : (Jvm.Cond.methodLink "ImmutableLongArray$Builder" (51 : Nat) ({ cls := "java/lang/IllegalStateException", name := "<init>", desc := "(Ljava/lang/String;)V" } : Jvm.MethodName)) ∈ lw_all := lw_g (lw_at lw_m1 180 rfl) rfl
theorem q189 : (Jvm.Cond.methodLink "ImmutableLongArray$Builder" (54 : Nat) ({ cls := "java/lang/Integer", name := "highestOneBit", desc := "(I)I" } : Jvm.MethodName)) ∈ lw_all := lw_g (lw_at lw_m1 186 rfl) rfl
theorem q197 : (Jvm.Cond.constant "ImmutableLongArray$Builder" (60 : Nat) (2147483647 : Int32)) ∈ lw_all := lw_g (lw_at lw_m1 194 rfl) rfl
theorem q198 : (Jvm.Cond.methodLink "ImmutableLongArray$Builder" (41 : Nat) ({ cls := "java/util/Arrays", name := "copyOf", desc := "([JI)[J" } : Jvm.MethodName)) ∈ lw_all := lw_g (lw_at lw_m1 195 rfl) rfl
theorem q214 : (Jvm.Cond.methodLink "ImmutableLongArray$Builder" (31 : Nat) ({ cls := "java/lang/System", name := "arraycopy", desc := "(Ljava/lang/Object;ILjava/lang/Object;II)V" } : Jvm.MethodName)) ∈ lw_all := lw_g (lw_at lw_m1 211 rfl) rfl
theorem q220 : (Jvm.Cond.instanceMethod ({ cls := "ImmutableLongArray$Builder", name := "build", desc := "()LImmutableLongArray;" } : Jvm.MethodName)) ∈ lw_all := lw_g (lw_at lw_m1 217 rfl) rfl
theorem q221 : (Jvm.Cond.selects "ImmutableLongArray$Builder" ({ cls := "ImmutableLongArray$Builder", name := "build", desc := "()LImmutableLongArray;" } : Jvm.MethodName) ({ cls := "ImmutableLongArray$Builder", name := "build", desc := "()LImmutableLongArray;" } : Jvm.MethodName)) ∈ lw_all := lw_g (lw_at lw_m1 218 rfl) rfl
theorem q222 : (Jvm.Cond.code ({ cls := "ImmutableLongArray$Builder", name := "build", desc := "()LImmutableLongArray;" } : Jvm.MethodName) prog_4_method_6_code (1 : Nat) (Option.some (Jvm.ClassFile.FieldType.object "ImmutableLongArray"))) ∈ lw_all := lw_g (lw_at lw_m1 219 rfl) rfl
theorem q223 : (Jvm.Cond.classLink "ImmutableLongArray$Builder" (22 : Nat) "ImmutableLongArray") ∈ lw_all := lw_g (lw_at lw_m1 220 rfl) rfl
theorem q224 : (Jvm.Cond.methodLinkNest "ImmutableLongArray$Builder" (61 : Nat) ({ cls := "ImmutableLongArray", name := "<init>", desc := "([J)V" } : Jvm.MethodName) "ImmutableLongArray") ∈ lw_tbl := lw_at lw_m1 221 rfl
theorem q225 : (Jvm.Cond.methodLinkNest "ImmutableLongArray$Builder" (64 : Nat) ({ cls := "ImmutableLongArray", name := "<init>", desc := "([JII)V" } : Jvm.MethodName) "ImmutableLongArray") ∈ lw_tbl := lw_at lw_m1 222 rfl
theorem q363 : (Jvm.Cond.instanceMethod ({ cls := "ImmutableLongArray$Builder", name := "add", desc := "(J)LImmutableLongArray$Builder;" } : Jvm.MethodName)) ∈ lw_all := lw_g (lw_at lw_m2 120 rfl) rfl
theorem q364 : (Jvm.Cond.selects "ImmutableLongArray$Builder" ({ cls := "ImmutableLongArray$Builder", name := "add", desc := "(J)LImmutableLongArray$Builder;" } : Jvm.MethodName) ({ cls := "ImmutableLongArray$Builder", name := "add", desc := "(J)LImmutableLongArray$Builder;" } : Jvm.MethodName)) ∈ lw_all := lw_g (lw_at lw_m2 121 rfl) rfl
theorem q365 : (Jvm.Cond.code ({ cls := "ImmutableLongArray$Builder", name := "add", desc := "(J)LImmutableLongArray$Builder;" } : Jvm.MethodName) prog_4_method_2_code (3 : Nat) (Option.some (Jvm.ClassFile.FieldType.object "ImmutableLongArray$Builder"))) ∈ lw_all := lw_g (lw_at lw_m2 122 rfl) rfl
theorem in_X4 : ∀ w ∈ wsX40, w ∈ lw_all := lw_in wsX40 [111, 113] (by decide +kernel) (by decide +kernel)
end
section
/-! FixedRowDeskLaw -/
set_option maxRecDepth 100000
def RX0 : String := "FixedRowDeskLaw"
abbrev cX0_cell : ByteArray := method_2_code
def yX0_cell : MethodName := ⟨RX0, "cell", "([II)I"⟩
def dkwX0_cell_0 : List UInt8 := [27, 42, 190, 162, 0, 9, 42, 27, 46, 167, 0, 4, 3, 172]
abbrev dktX0_cell_0 : List UInt8 := dkwX0_cell_0 ++ []
theorem dksX0_cell_0 : cX0_cell.data.toList.drop 0 = dktX0_cell_0 := by decide +kernel
theorem dX0_cell_0 : decode cX0_cell 0 = .ok (.iload_n 1, 1) := dk_27 (dk_at dksX0_cell_0 0 rfl rfl)
theorem dX0_cell_1 : decode cX0_cell 1 = .ok (.aload_n 0, 1) := dk_42 (dk_at dksX0_cell_0 1 rfl rfl)
theorem dX0_cell_2 : decode cX0_cell 2 = .ok (.arraylength, 1) := dk_190 (dk_at dksX0_cell_0 2 rfl rfl)
theorem dX0_cell_3 : decode cX0_cell 3 = .ok (.if_icmp .ge 9, 3) := dk_162 0 9 (dk_at dksX0_cell_0 3 rfl rfl)
theorem dX0_cell_6 : decode cX0_cell 6 = .ok (.aload_n 0, 1) := dk_42 (dk_at dksX0_cell_0 6 rfl rfl)
theorem dX0_cell_7 : decode cX0_cell 7 = .ok (.iload_n 1, 1) := dk_27 (dk_at dksX0_cell_0 7 rfl rfl)
theorem dX0_cell_8 : decode cX0_cell 8 = .ok (.iaload, 1) := dk_46 (dk_at dksX0_cell_0 8 rfl rfl)
theorem dX0_cell_9 : decode cX0_cell 9 = .ok (.goto 4, 3) := dk_167 0 4 (dk_at dksX0_cell_0 9 rfl rfl)
theorem dX0_cell_12 : decode cX0_cell 12 = .ok (.iconst 0, 1) := dk_3 (dk_at dksX0_cell_0 12 rfl rfl)
theorem dX0_cell_13 : decode cX0_cell 13 = .ok (.ireturn, 1) := dk_172 (dk_at dksX0_cell_0 13 rfl rfl)
abbrev cX0_part : ByteArray := method_4_code
def yX0_part : MethodName := ⟨RX0, "part", "([JII)[J"⟩
def dkwX0_part_1 : List UInt8 := [132, 4, 1, 167, 255, 237, 45, 176]
abbrev dktX0_part_1 : List UInt8 := dkwX0_part_1 ++ []
def dkwX0_part_0 : List UInt8 := [28, 188, 11, 78, 3, 54, 4, 21, 4, 28, 162, 0, 19, 45, 21, 4, 42, 27, 21, 4, 96, 47, 80]
abbrev dktX0_part_0 : List UInt8 := dkwX0_part_0 ++ dktX0_part_1
theorem dksX0_part_0 : cX0_part.data.toList.drop 0 = dktX0_part_0 := by decide +kernel
theorem dksX0_part_1 : cX0_part.data.toList.drop 23 = dktX0_part_1 := dk_seg dksX0_part_0 23 rfl rfl
theorem dX0_part_0 : decode cX0_part 0 = .ok (.iload_n 2, 1) := dk_28 (dk_at dksX0_part_0 0 rfl rfl)
theorem dX0_part_1 : decode cX0_part 1 = .ok (.newarray .long, 2) := dk_188_11 (dk_at dksX0_part_0 1 rfl rfl)
theorem dX0_part_3 : decode cX0_part 3 = .ok (.astore_n 3, 1) := dk_78 (dk_at dksX0_part_0 3 rfl rfl)
theorem dX0_part_4 : decode cX0_part 4 = .ok (.iconst 0, 1) := dk_3 (dk_at dksX0_part_0 4 rfl rfl)
theorem dX0_part_5 : decode cX0_part 5 = .ok (.istore 4, 2) := dk_54 4 (dk_at dksX0_part_0 5 rfl rfl)
theorem dX0_part_7 : decode cX0_part 7 = .ok (.iload 4, 2) := dk_21 4 (dk_at dksX0_part_0 7 rfl rfl)
theorem dX0_part_9 : decode cX0_part 9 = .ok (.iload_n 2, 1) := dk_28 (dk_at dksX0_part_0 9 rfl rfl)
theorem dX0_part_10 : decode cX0_part 10 = .ok (.if_icmp .ge 19, 3) := dk_162 0 19 (dk_at dksX0_part_0 10 rfl rfl)
theorem dX0_part_13 : decode cX0_part 13 = .ok (.aload_n 3, 1) := dk_45 (dk_at dksX0_part_0 13 rfl rfl)
theorem dX0_part_14 : decode cX0_part 14 = .ok (.iload 4, 2) := dk_21 4 (dk_at dksX0_part_0 14 rfl rfl)
theorem dX0_part_16 : decode cX0_part 16 = .ok (.aload_n 0, 1) := dk_42 (dk_at dksX0_part_0 16 rfl rfl)
theorem dX0_part_17 : decode cX0_part 17 = .ok (.iload_n 1, 1) := dk_27 (dk_at dksX0_part_0 17 rfl rfl)
theorem dX0_part_18 : decode cX0_part 18 = .ok (.iload 4, 2) := dk_21 4 (dk_at dksX0_part_0 18 rfl rfl)
theorem dX0_part_20 : decode cX0_part 20 = .ok (.iadd, 1) := dk_96 (dk_at dksX0_part_0 20 rfl rfl)
theorem dX0_part_21 : decode cX0_part 21 = .ok (.laload, 1) := dk_47 (dk_at dksX0_part_0 21 rfl rfl)
theorem dX0_part_22 : decode cX0_part 22 = .ok (.lastore, 1) := dk_80 (dk_at dksX0_part_0 22 rfl rfl)
theorem dX0_part_23 : decode cX0_part 23 = .ok (.iinc 4 1, 3) := dk_132 4 1 (dk_at dksX0_part_1 0 rfl rfl)
theorem dX0_part_26 : decode cX0_part 26 = .ok (.goto (-19), 3) := dk_167 255 237 (dk_at dksX0_part_1 3 rfl rfl)
theorem dX0_part_29 : decode cX0_part 29 = .ok (.aload_n 3, 1) := dk_45 (dk_at dksX0_part_1 6 rfl rfl)
theorem dX0_part_30 : decode cX0_part 30 = .ok (.areturn, 1) := dk_176 (dk_at dksX0_part_1 7 rfl rfl)
abbrev cX0_isAlike : ByteArray := method_5_code
def yX0_isAlike : MethodName := ⟨RX0, "isAlike", "([J[J)Z"⟩
def dkwX0_isAlike_1 : List UInt8 := [132, 2, 1, 167, 255, 231, 28, 42, 190, 160, 0, 13, 28, 43, 190, 160, 0, 7, 4, 167, 0, 4, 3, 172]
abbrev dktX0_isAlike_1 : List UInt8 := dkwX0_isAlike_1 ++ []
def dkwX0_isAlike_0 : List UInt8 := [3, 61, 28, 42, 190, 162, 0, 25, 28, 43, 190, 162, 0, 19, 42, 28, 47, 43, 28, 47, 148, 154, 0, 9]
abbrev dktX0_isAlike_0 : List UInt8 := dkwX0_isAlike_0 ++ dktX0_isAlike_1
theorem dksX0_isAlike_0 : cX0_isAlike.data.toList.drop 0 = dktX0_isAlike_0 := by decide +kernel
theorem dksX0_isAlike_1 : cX0_isAlike.data.toList.drop 24 = dktX0_isAlike_1 := dk_seg dksX0_isAlike_0 24 rfl rfl
theorem dX0_isAlike_0 : decode cX0_isAlike 0 = .ok (.iconst 0, 1) := dk_3 (dk_at dksX0_isAlike_0 0 rfl rfl)
theorem dX0_isAlike_1 : decode cX0_isAlike 1 = .ok (.istore_n 2, 1) := dk_61 (dk_at dksX0_isAlike_0 1 rfl rfl)
theorem dX0_isAlike_2 : decode cX0_isAlike 2 = .ok (.iload_n 2, 1) := dk_28 (dk_at dksX0_isAlike_0 2 rfl rfl)
theorem dX0_isAlike_3 : decode cX0_isAlike 3 = .ok (.aload_n 0, 1) := dk_42 (dk_at dksX0_isAlike_0 3 rfl rfl)
theorem dX0_isAlike_4 : decode cX0_isAlike 4 = .ok (.arraylength, 1) := dk_190 (dk_at dksX0_isAlike_0 4 rfl rfl)
theorem dX0_isAlike_5 : decode cX0_isAlike 5 = .ok (.if_icmp .ge 25, 3) := dk_162 0 25 (dk_at dksX0_isAlike_0 5 rfl rfl)
theorem dX0_isAlike_8 : decode cX0_isAlike 8 = .ok (.iload_n 2, 1) := dk_28 (dk_at dksX0_isAlike_0 8 rfl rfl)
theorem dX0_isAlike_9 : decode cX0_isAlike 9 = .ok (.aload_n 1, 1) := dk_43 (dk_at dksX0_isAlike_0 9 rfl rfl)
theorem dX0_isAlike_10 : decode cX0_isAlike 10 = .ok (.arraylength, 1) := dk_190 (dk_at dksX0_isAlike_0 10 rfl rfl)
theorem dX0_isAlike_11 : decode cX0_isAlike 11 = .ok (.if_icmp .ge 19, 3) := dk_162 0 19 (dk_at dksX0_isAlike_0 11 rfl rfl)
theorem dX0_isAlike_14 : decode cX0_isAlike 14 = .ok (.aload_n 0, 1) := dk_42 (dk_at dksX0_isAlike_0 14 rfl rfl)
theorem dX0_isAlike_15 : decode cX0_isAlike 15 = .ok (.iload_n 2, 1) := dk_28 (dk_at dksX0_isAlike_0 15 rfl rfl)
theorem dX0_isAlike_16 : decode cX0_isAlike 16 = .ok (.laload, 1) := dk_47 (dk_at dksX0_isAlike_0 16 rfl rfl)
theorem dX0_isAlike_17 : decode cX0_isAlike 17 = .ok (.aload_n 1, 1) := dk_43 (dk_at dksX0_isAlike_0 17 rfl rfl)
theorem dX0_isAlike_18 : decode cX0_isAlike 18 = .ok (.iload_n 2, 1) := dk_28 (dk_at dksX0_isAlike_0 18 rfl rfl)
theorem dX0_isAlike_19 : decode cX0_isAlike 19 = .ok (.laload, 1) := dk_47 (dk_at dksX0_isAlike_0 19 rfl rfl)
theorem dX0_isAlike_20 : decode cX0_isAlike 20 = .ok (.lcmp, 1) := dk_148 (dk_at dksX0_isAlike_0 20 rfl rfl)
theorem dX0_isAlike_21 : decode cX0_isAlike 21 = .ok (.ifCond .ne 9, 3) := dk_154 0 9 (dk_at dksX0_isAlike_0 21 rfl rfl)
theorem dX0_isAlike_24 : decode cX0_isAlike 24 = .ok (.iinc 2 1, 3) := dk_132 2 1 (dk_at dksX0_isAlike_1 0 rfl rfl)
theorem dX0_isAlike_27 : decode cX0_isAlike 27 = .ok (.goto (-25), 3) := dk_167 255 231 (dk_at dksX0_isAlike_1 3 rfl rfl)
theorem dX0_isAlike_30 : decode cX0_isAlike 30 = .ok (.iload_n 2, 1) := dk_28 (dk_at dksX0_isAlike_1 6 rfl rfl)
theorem dX0_isAlike_31 : decode cX0_isAlike 31 = .ok (.aload_n 0, 1) := dk_42 (dk_at dksX0_isAlike_1 7 rfl rfl)
theorem dX0_isAlike_32 : decode cX0_isAlike 32 = .ok (.arraylength, 1) := dk_190 (dk_at dksX0_isAlike_1 8 rfl rfl)
theorem dX0_isAlike_33 : decode cX0_isAlike 33 = .ok (.if_icmp .ne 13, 3) := dk_160 0 13 (dk_at dksX0_isAlike_1 9 rfl rfl)
theorem dX0_isAlike_36 : decode cX0_isAlike 36 = .ok (.iload_n 2, 1) := dk_28 (dk_at dksX0_isAlike_1 12 rfl rfl)
theorem dX0_isAlike_37 : decode cX0_isAlike 37 = .ok (.aload_n 1, 1) := dk_43 (dk_at dksX0_isAlike_1 13 rfl rfl)
theorem dX0_isAlike_38 : decode cX0_isAlike 38 = .ok (.arraylength, 1) := dk_190 (dk_at dksX0_isAlike_1 14 rfl rfl)
theorem dX0_isAlike_39 : decode cX0_isAlike 39 = .ok (.if_icmp .ne 7, 3) := dk_160 0 7 (dk_at dksX0_isAlike_1 15 rfl rfl)
theorem dX0_isAlike_42 : decode cX0_isAlike 42 = .ok (.iconst 1, 1) := dk_4 (dk_at dksX0_isAlike_1 18 rfl rfl)
theorem dX0_isAlike_43 : decode cX0_isAlike 43 = .ok (.goto 4, 3) := dk_167 0 4 (dk_at dksX0_isAlike_1 19 rfl rfl)
theorem dX0_isAlike_46 : decode cX0_isAlike 46 = .ok (.iconst 0, 1) := dk_3 (dk_at dksX0_isAlike_1 22 rfl rfl)
theorem dX0_isAlike_47 : decode cX0_isAlike 47 = .ok (.ireturn, 1) := dk_172 (dk_at dksX0_isAlike_1 23 rfl rfl)
abbrev cX0_hash : ByteArray := method_8_code
def yX0_hash : MethodName := ⟨RX0, "hash", "([J)I"⟩
def dkwX0_hash_1 : List UInt8 := [136, 96, 60, 132, 2, 1, 167, 255, 230, 27, 172]
abbrev dktX0_hash_1 : List UInt8 := dkwX0_hash_1 ++ []
def dkwX0_hash_0 : List UInt8 := [4, 60, 3, 61, 28, 42, 190, 162, 0, 26, 16, 31, 27, 104, 42, 28, 47, 42, 28, 47, 16, 32, 125, 131]
abbrev dktX0_hash_0 : List UInt8 := dkwX0_hash_0 ++ dktX0_hash_1
theorem dksX0_hash_0 : cX0_hash.data.toList.drop 0 = dktX0_hash_0 := by decide +kernel
theorem dksX0_hash_1 : cX0_hash.data.toList.drop 24 = dktX0_hash_1 := dk_seg dksX0_hash_0 24 rfl rfl
theorem dX0_hash_0 : decode cX0_hash 0 = .ok (.iconst 1, 1) := dk_4 (dk_at dksX0_hash_0 0 rfl rfl)
theorem dX0_hash_1 : decode cX0_hash 1 = .ok (.istore_n 1, 1) := dk_60 (dk_at dksX0_hash_0 1 rfl rfl)
theorem dX0_hash_2 : decode cX0_hash 2 = .ok (.iconst 0, 1) := dk_3 (dk_at dksX0_hash_0 2 rfl rfl)
theorem dX0_hash_3 : decode cX0_hash 3 = .ok (.istore_n 2, 1) := dk_61 (dk_at dksX0_hash_0 3 rfl rfl)
theorem dX0_hash_4 : decode cX0_hash 4 = .ok (.iload_n 2, 1) := dk_28 (dk_at dksX0_hash_0 4 rfl rfl)
theorem dX0_hash_5 : decode cX0_hash 5 = .ok (.aload_n 0, 1) := dk_42 (dk_at dksX0_hash_0 5 rfl rfl)
theorem dX0_hash_6 : decode cX0_hash 6 = .ok (.arraylength, 1) := dk_190 (dk_at dksX0_hash_0 6 rfl rfl)
theorem dX0_hash_7 : decode cX0_hash 7 = .ok (.if_icmp .ge 26, 3) := dk_162 0 26 (dk_at dksX0_hash_0 7 rfl rfl)
theorem dX0_hash_10 : decode cX0_hash 10 = .ok (.bipush 31, 2) := dk_16 31 (dk_at dksX0_hash_0 10 rfl rfl)
theorem dX0_hash_12 : decode cX0_hash 12 = .ok (.iload_n 1, 1) := dk_27 (dk_at dksX0_hash_0 12 rfl rfl)
theorem dX0_hash_13 : decode cX0_hash 13 = .ok (.imul, 1) := dk_104 (dk_at dksX0_hash_0 13 rfl rfl)
theorem dX0_hash_14 : decode cX0_hash 14 = .ok (.aload_n 0, 1) := dk_42 (dk_at dksX0_hash_0 14 rfl rfl)
theorem dX0_hash_15 : decode cX0_hash 15 = .ok (.iload_n 2, 1) := dk_28 (dk_at dksX0_hash_0 15 rfl rfl)
theorem dX0_hash_16 : decode cX0_hash 16 = .ok (.laload, 1) := dk_47 (dk_at dksX0_hash_0 16 rfl rfl)
theorem dX0_hash_17 : decode cX0_hash 17 = .ok (.aload_n 0, 1) := dk_42 (dk_at dksX0_hash_0 17 rfl rfl)
theorem dX0_hash_18 : decode cX0_hash 18 = .ok (.iload_n 2, 1) := dk_28 (dk_at dksX0_hash_0 18 rfl rfl)
theorem dX0_hash_19 : decode cX0_hash 19 = .ok (.laload, 1) := dk_47 (dk_at dksX0_hash_0 19 rfl rfl)
theorem dX0_hash_20 : decode cX0_hash 20 = .ok (.bipush 32, 2) := dk_16 32 (dk_at dksX0_hash_0 20 rfl rfl)
theorem dX0_hash_22 : decode cX0_hash 22 = .ok (.lushr, 1) := dk_125 (dk_at dksX0_hash_0 22 rfl rfl)
theorem dX0_hash_23 : decode cX0_hash 23 = .ok (.lxor, 1) := dk_131 (dk_at dksX0_hash_0 23 rfl rfl)
theorem dX0_hash_24 : decode cX0_hash 24 = .ok (.l2i, 1) := dk_136 (dk_at dksX0_hash_1 0 rfl rfl)
theorem dX0_hash_25 : decode cX0_hash 25 = .ok (.iadd, 1) := dk_96 (dk_at dksX0_hash_1 1 rfl rfl)
theorem dX0_hash_26 : decode cX0_hash 26 = .ok (.istore_n 1, 1) := dk_60 (dk_at dksX0_hash_1 2 rfl rfl)
theorem dX0_hash_27 : decode cX0_hash 27 = .ok (.iinc 2 1, 3) := dk_132 2 1 (dk_at dksX0_hash_1 3 rfl rfl)
theorem dX0_hash_30 : decode cX0_hash 30 = .ok (.goto (-26), 3) := dk_167 255 230 (dk_at dksX0_hash_1 6 rfl rfl)
theorem dX0_hash_33 : decode cX0_hash 33 = .ok (.iload_n 1, 1) := dk_27 (dk_at dksX0_hash_1 9 rfl rfl)
theorem dX0_hash_34 : decode cX0_hash 34 = .ok (.ireturn, 1) := dk_172 (dk_at dksX0_hash_1 10 rfl rfl)
abbrev cX0_whole : ByteArray := method_9_code
def yX0_whole : MethodName := ⟨RX0, "whole", "([J)J"⟩
def dkwX0_whole_1 : List UInt8 := [167, 255, 237, 31, 173]
abbrev dktX0_whole_1 : List UInt8 := dkwX0_whole_1 ++ []
def dkwX0_whole_0 : List UInt8 := [9, 64, 3, 62, 29, 42, 190, 162, 0, 19, 31, 20, 0, 11, 105, 42, 29, 47, 97, 64, 132, 3, 1]
abbrev dktX0_whole_0 : List UInt8 := dkwX0_whole_0 ++ dktX0_whole_1
theorem dksX0_whole_0 : cX0_whole.data.toList.drop 0 = dktX0_whole_0 := by decide +kernel
theorem dksX0_whole_1 : cX0_whole.data.toList.drop 23 = dktX0_whole_1 := dk_seg dksX0_whole_0 23 rfl rfl
theorem dX0_whole_0 : decode cX0_whole 0 = .ok (.lconst 0, 1) := dk_9 (dk_at dksX0_whole_0 0 rfl rfl)
theorem dX0_whole_1 : decode cX0_whole 1 = .ok (.lstore_n 1, 1) := dk_64 (dk_at dksX0_whole_0 1 rfl rfl)
theorem dX0_whole_2 : decode cX0_whole 2 = .ok (.iconst 0, 1) := dk_3 (dk_at dksX0_whole_0 2 rfl rfl)
theorem dX0_whole_3 : decode cX0_whole 3 = .ok (.istore_n 3, 1) := dk_62 (dk_at dksX0_whole_0 3 rfl rfl)
theorem dX0_whole_4 : decode cX0_whole 4 = .ok (.iload_n 3, 1) := dk_29 (dk_at dksX0_whole_0 4 rfl rfl)
theorem dX0_whole_5 : decode cX0_whole 5 = .ok (.aload_n 0, 1) := dk_42 (dk_at dksX0_whole_0 5 rfl rfl)
theorem dX0_whole_6 : decode cX0_whole 6 = .ok (.arraylength, 1) := dk_190 (dk_at dksX0_whole_0 6 rfl rfl)
theorem dX0_whole_7 : decode cX0_whole 7 = .ok (.if_icmp .ge 19, 3) := dk_162 0 19 (dk_at dksX0_whole_0 7 rfl rfl)
theorem dX0_whole_10 : decode cX0_whole 10 = .ok (.lload_n 1, 1) := dk_31 (dk_at dksX0_whole_0 10 rfl rfl)
theorem dX0_whole_11 : decode cX0_whole 11 = .ok (.ldc2_w 11, 3) := dk_20 0 11 (dk_at dksX0_whole_0 11 rfl rfl)
theorem dX0_whole_14 : decode cX0_whole 14 = .ok (.lmul, 1) := dk_105 (dk_at dksX0_whole_0 14 rfl rfl)
theorem dX0_whole_15 : decode cX0_whole 15 = .ok (.aload_n 0, 1) := dk_42 (dk_at dksX0_whole_0 15 rfl rfl)
theorem dX0_whole_16 : decode cX0_whole 16 = .ok (.iload_n 3, 1) := dk_29 (dk_at dksX0_whole_0 16 rfl rfl)
theorem dX0_whole_17 : decode cX0_whole 17 = .ok (.laload, 1) := dk_47 (dk_at dksX0_whole_0 17 rfl rfl)
theorem dX0_whole_18 : decode cX0_whole 18 = .ok (.ladd, 1) := dk_97 (dk_at dksX0_whole_0 18 rfl rfl)
theorem dX0_whole_19 : decode cX0_whole 19 = .ok (.lstore_n 1, 1) := dk_64 (dk_at dksX0_whole_0 19 rfl rfl)
theorem dX0_whole_20 : decode cX0_whole 20 = .ok (.iinc 3 1, 3) := dk_132 3 1 (dk_at dksX0_whole_0 20 rfl rfl)
theorem dX0_whole_23 : decode cX0_whole 23 = .ok (.goto (-19), 3) := dk_167 255 237 (dk_at dksX0_whole_1 0 rfl rfl)
theorem dX0_whole_26 : decode cX0_whole 26 = .ok (.lload_n 1, 1) := dk_31 (dk_at dksX0_whole_1 3 rfl rfl)
theorem dX0_whole_27 : decode cX0_whole 27 = .ok (.lreturn, 1) := dk_173 (dk_at dksX0_whole_1 4 rfl rfl)
abbrev cX0_adds : ByteArray := method_10_code
def yX0_adds : MethodName := ⟨RX0, "adds", "(LFixedRowDesk;[JIII)I"⟩
def dkwX0_adds_1 : List UInt8 := [16, 96, 160, 0, 5, 28, 172, 43, 28, 29, 21, 4, 184, 0, 21, 80, 28, 4, 96, 172]
abbrev dktX0_adds_1 : List UInt8 := dkwX0_adds_1 ++ []
def dkwX0_adds_0 : List UInt8 := [42, 29, 21, 4, 182, 0, 13, 28, 16, 96, 162, 0, 7, 4, 167, 0, 4, 3, 159, 0, 5, 2, 172, 28]
abbrev dktX0_adds_0 : List UInt8 := dkwX0_adds_0 ++ dktX0_adds_1
theorem dksX0_adds_0 : cX0_adds.data.toList.drop 0 = dktX0_adds_0 := by decide +kernel
theorem dksX0_adds_1 : cX0_adds.data.toList.drop 24 = dktX0_adds_1 := dk_seg dksX0_adds_0 24 rfl rfl
theorem dX0_adds_0 : decode cX0_adds 0 = .ok (.aload_n 0, 1) := dk_42 (dk_at dksX0_adds_0 0 rfl rfl)
theorem dX0_adds_1 : decode cX0_adds 1 = .ok (.iload_n 3, 1) := dk_29 (dk_at dksX0_adds_0 1 rfl rfl)
theorem dX0_adds_2 : decode cX0_adds 2 = .ok (.iload 4, 2) := dk_21 4 (dk_at dksX0_adds_0 2 rfl rfl)
theorem dX0_adds_4 : decode cX0_adds 4 = .ok (.invokevirtual 13, 3) := dk_182 0 13 (dk_at dksX0_adds_0 4 rfl rfl)
theorem dX0_adds_7 : decode cX0_adds 7 = .ok (.iload_n 2, 1) := dk_28 (dk_at dksX0_adds_0 7 rfl rfl)
theorem dX0_adds_8 : decode cX0_adds 8 = .ok (.bipush 96, 2) := dk_16 96 (dk_at dksX0_adds_0 8 rfl rfl)
theorem dX0_adds_10 : decode cX0_adds 10 = .ok (.if_icmp .ge 7, 3) := dk_162 0 7 (dk_at dksX0_adds_0 10 rfl rfl)
theorem dX0_adds_13 : decode cX0_adds 13 = .ok (.iconst 1, 1) := dk_4 (dk_at dksX0_adds_0 13 rfl rfl)
theorem dX0_adds_14 : decode cX0_adds 14 = .ok (.goto 4, 3) := dk_167 0 4 (dk_at dksX0_adds_0 14 rfl rfl)
theorem dX0_adds_17 : decode cX0_adds 17 = .ok (.iconst 0, 1) := dk_3 (dk_at dksX0_adds_0 17 rfl rfl)
theorem dX0_adds_18 : decode cX0_adds 18 = .ok (.if_icmp .eq 5, 3) := dk_159 0 5 (dk_at dksX0_adds_0 18 rfl rfl)
theorem dX0_adds_21 : decode cX0_adds 21 = .ok (.iconst (-1), 1) := dk_2 (dk_at dksX0_adds_0 21 rfl rfl)
theorem dX0_adds_22 : decode cX0_adds 22 = .ok (.ireturn, 1) := dk_172 (dk_at dksX0_adds_0 22 rfl rfl)
theorem dX0_adds_23 : decode cX0_adds 23 = .ok (.iload_n 2, 1) := dk_28 (dk_at dksX0_adds_0 23 rfl rfl)
theorem dX0_adds_24 : decode cX0_adds 24 = .ok (.bipush 96, 2) := dk_16 96 (dk_at dksX0_adds_1 0 rfl rfl)
theorem dX0_adds_26 : decode cX0_adds 26 = .ok (.if_icmp .ne 5, 3) := dk_160 0 5 (dk_at dksX0_adds_1 2 rfl rfl)
theorem dX0_adds_29 : decode cX0_adds 29 = .ok (.iload_n 2, 1) := dk_28 (dk_at dksX0_adds_1 5 rfl rfl)
theorem dX0_adds_30 : decode cX0_adds 30 = .ok (.ireturn, 1) := dk_172 (dk_at dksX0_adds_1 6 rfl rfl)
theorem dX0_adds_31 : decode cX0_adds 31 = .ok (.aload_n 1, 1) := dk_43 (dk_at dksX0_adds_1 7 rfl rfl)
theorem dX0_adds_32 : decode cX0_adds 32 = .ok (.iload_n 2, 1) := dk_28 (dk_at dksX0_adds_1 8 rfl rfl)
theorem dX0_adds_33 : decode cX0_adds 33 = .ok (.iload_n 3, 1) := dk_29 (dk_at dksX0_adds_1 9 rfl rfl)
theorem dX0_adds_34 : decode cX0_adds 34 = .ok (.iload 4, 2) := dk_21 4 (dk_at dksX0_adds_1 10 rfl rfl)
theorem dX0_adds_36 : decode cX0_adds 36 = .ok (.invokestatic 21, 3) := dk_184 0 21 (dk_at dksX0_adds_1 12 rfl rfl)
theorem dX0_adds_39 : decode cX0_adds 39 = .ok (.lastore, 1) := dk_80 (dk_at dksX0_adds_1 15 rfl rfl)
theorem dX0_adds_40 : decode cX0_adds 40 = .ok (.iload_n 2, 1) := dk_28 (dk_at dksX0_adds_1 16 rfl rfl)
theorem dX0_adds_41 : decode cX0_adds 41 = .ok (.iconst 1, 1) := dk_4 (dk_at dksX0_adds_1 17 rfl rfl)
theorem dX0_adds_42 : decode cX0_adds 42 = .ok (.iadd, 1) := dk_96 (dk_at dksX0_adds_1 18 rfl rfl)
theorem dX0_adds_43 : decode cX0_adds 43 = .ok (.ireturn, 1) := dk_172 (dk_at dksX0_adds_1 19 rfl rfl)
abbrev cX0_of : ByteArray := method_3_code
def yX0_of : MethodName := ⟨RX0, "of", "(II)J"⟩
def dkwX0_of_0 : List UInt8 := [26, 133, 20, 0, 7, 105, 27, 133, 20, 0, 9, 127, 97, 173]
abbrev dktX0_of_0 : List UInt8 := dkwX0_of_0 ++ []
theorem dksX0_of_0 : cX0_of.data.toList.drop 0 = dktX0_of_0 := by decide +kernel
theorem dX0_of_0 : decode cX0_of 0 = .ok (.iload_n 0, 1) := dk_26 (dk_at dksX0_of_0 0 rfl rfl)
theorem dX0_of_1 : decode cX0_of 1 = .ok (.i2l, 1) := dk_133 (dk_at dksX0_of_0 1 rfl rfl)
theorem dX0_of_2 : decode cX0_of 2 = .ok (.ldc2_w 7, 3) := dk_20 0 7 (dk_at dksX0_of_0 2 rfl rfl)
theorem dX0_of_5 : decode cX0_of 5 = .ok (.lmul, 1) := dk_105 (dk_at dksX0_of_0 5 rfl rfl)
theorem dX0_of_6 : decode cX0_of 6 = .ok (.iload_n 1, 1) := dk_27 (dk_at dksX0_of_0 6 rfl rfl)
theorem dX0_of_7 : decode cX0_of 7 = .ok (.i2l, 1) := dk_133 (dk_at dksX0_of_0 7 rfl rfl)
theorem dX0_of_8 : decode cX0_of 8 = .ok (.ldc2_w 9, 3) := dk_20 0 9 (dk_at dksX0_of_0 8 rfl rfl)
theorem dX0_of_11 : decode cX0_of 11 = .ok (.land, 1) := dk_127 (dk_at dksX0_of_0 11 rfl rfl)
theorem dX0_of_12 : decode cX0_of 12 = .ok (.ladd, 1) := dk_97 (dk_at dksX0_of_0 12 rfl rfl)
theorem dX0_of_13 : decode cX0_of 13 = .ok (.lreturn, 1) := dk_173 (dk_at dksX0_of_0 13 rfl rfl)
abbrev cX0_goes : ByteArray := method_11_code
def yX0_goes : MethodName := ⟨RX0, "goes", "(LFixedRowDesk;[[J[JI[II)I"⟩
def dkwX0_goes_26 : List UInt8 := [21, 8, 184, 0, 21, 55, 17, 132, 19, 1, 167, 255, 107, 21, 11, 172]
abbrev dktX0_goes_26 : List UInt8 := dkwX0_goes_26 ++ []
def dkwX0_goes_25 : List UInt8 := [190, 112, 47, 148, 153, 0, 5, 2, 172, 21, 19, 154, 0, 10, 22, 17, 10, 97, 167, 0, 10, 21, 7]
abbrev dktX0_goes_25 : List UInt8 := dkwX0_goes_25 ++ dktX0_goes_26
def dkwX0_goes_24 : List UInt8 := [21, 9, 182, 0, 72, 25, 16, 190, 154, 0, 7, 9, 167, 0, 15, 25, 16, 21, 9, 18, 29, 126, 25, 16]
abbrev dktX0_goes_24 : List UInt8 := dkwX0_goes_24 ++ dktX0_goes_25
def dkwX0_goes_23 : List UInt8 := [182, 0, 68, 25, 16, 22, 17, 184, 0, 60, 155, 0, 7, 4, 167, 0, 4, 3, 160, 0, 37, 42, 21, 6]
abbrev dktX0_goes_23 : List UInt8 := dkwX0_goes_23 ++ dktX0_goes_24
def dkwX0_goes_22 : List UInt8 := [182, 0, 63, 25, 16, 22, 17, 184, 0, 66, 159, 0, 5, 2, 172, 42, 21, 6, 21, 20, 21, 21]
abbrev dktX0_goes_22 : List UInt8 := dkwX0_goes_22 ++ dktX0_goes_23
def dkwX0_goes_21 : List UInt8 := [21, 20, 21, 21, 182, 0, 56, 25, 16, 22, 17, 184, 0, 60, 160, 0, 23, 42, 21, 6, 21, 20, 21, 21]
abbrev dktX0_goes_21 : List UInt8 := dkwX0_goes_21 ++ dktX0_goes_22
def dkwX0_goes_20 : List UInt8 := [54, 19, 21, 19, 6, 162, 0, 149, 22, 17, 16, 32, 123, 136, 54, 20, 22, 17, 136, 54, 21, 42, 21, 6]
abbrev dktX0_goes_20 : List UInt8 := dkwX0_goes_20 ++ dktX0_goes_21
def dkwX0_goes_19 : List UInt8 := [21, 8, 184, 0, 21, 167, 0, 15, 25, 16, 21, 9, 18, 29, 126, 25, 16, 190, 112, 47, 55, 17, 3]
abbrev dktX0_goes_19 : List UInt8 := dkwX0_goes_19 ++ dktX0_goes_20
def dkwX0_goes_18 : List UInt8 := [21, 11, 167, 0, 4, 2, 172, 43, 21, 6, 6, 126, 50, 58, 16, 25, 16, 190, 154, 0, 13, 21, 7]
abbrev dktX0_goes_18 : List UInt8 := dkwX0_goes_18 ++ dktX0_goes_19
def dkwX0_goes_17 : List UInt8 := [21, 15, 184, 0, 38, 83, 42, 21, 6, 21, 7, 21, 8, 21, 9, 182, 0, 53, 21, 15, 160, 0, 8]
abbrev dktX0_goes_17 : List UInt8 := dkwX0_goes_17 ++ dktX0_goes_18
def dkwX0_goes_16 : List UInt8 := [18, 29, 126, 25, 13, 190, 21, 14, 100, 4, 96, 112, 54, 15, 43, 21, 6, 6, 126, 25, 13, 21, 14]
abbrev dktX0_goes_16 : List UInt8 := dkwX0_goes_16 ++ dktX0_goes_17
def dkwX0_goes_15 : List UInt8 := [43, 21, 7, 6, 126, 50, 58, 13, 21, 8, 18, 29, 126, 25, 13, 190, 4, 96, 112, 54, 14, 21, 9]
abbrev dktX0_goes_15 : List UInt8 := dkwX0_goes_15 ++ dktX0_goes_16
def dkwX0_goes_14 : List UInt8 := [21, 7, 4, 126, 154, 0, 12, 42, 21, 6, 182, 0, 46, 21, 11, 172, 42, 21, 6, 182, 0, 50, 3, 172]
abbrev dktX0_goes_14 : List UInt8 := dkwX0_goes_14 ++ dktX0_goes_15
def dkwX0_goes_13 : List UInt8 := [21, 11, 184, 0, 38, 83, 42, 21, 6, 182, 0, 42, 21, 11, 160, 0, 8, 21, 11, 167, 0, 4, 2, 172]
abbrev dktX0_goes_13 : List UInt8 := dkwX0_goes_13 ++ dktX0_goes_14
def dkwX0_goes_12 : List UInt8 := [50, 21, 13, 47, 80, 132, 13, 1, 167, 255, 230, 21, 11, 21, 12, 96, 172, 43, 21, 6, 6, 126, 44, 3]
abbrev dktX0_goes_12 : List UInt8 := dkwX0_goes_12 ++ dktX0_goes_13
def dkwX0_goes_11 : List UInt8 := [21, 11, 172, 3, 54, 13, 21, 13, 21, 12, 162, 0, 25, 44, 21, 11, 21, 13, 96, 43, 21, 6, 6, 126]
abbrev dktX0_goes_11 : List UInt8 := dkwX0_goes_11 ++ dktX0_goes_12
def dkwX0_goes_10 : List UInt8 := [163, 0, 7, 4, 167, 0, 4, 3, 159, 0, 5, 2, 172, 21, 11, 21, 12, 96, 16, 96, 164, 0, 6]
abbrev dktX0_goes_10 : List UInt8 := dkwX0_goes_10 ++ dktX0_goes_11
def dkwX0_goes_9 : List UInt8 := [172, 43, 21, 6, 6, 126, 50, 190, 54, 12, 42, 21, 6, 182, 0, 34, 21, 11, 21, 12, 96, 16, 96]
abbrev dktX0_goes_9 : List UInt8 := dkwX0_goes_9 ++ dktX0_goes_10
def dkwX0_goes_8 : List UInt8 := [96, 167, 0, 10, 21, 8, 21, 12, 130, 6, 126, 184, 0, 30, 54, 11, 132, 12, 1, 167, 255, 179, 21, 11]
abbrev dktX0_goes_8 : List UInt8 := dkwX0_goes_8 ++ dktX0_goes_9
def dkwX0_goes_7 : List UInt8 := [167, 0, 9, 21, 6, 4, 126, 4, 100, 21, 12, 6, 112, 4, 160, 0, 14, 21, 8, 21, 12, 21, 9, 104]
abbrev dktX0_goes_7 : List UInt8 := dkwX0_goes_7 ++ dktX0_goes_8
def dkwX0_goes_6 : List UInt8 := [21, 11, 155, 0, 68, 42, 44, 21, 11, 21, 12, 6, 112, 154, 0, 14, 21, 6, 21, 12, 21, 7, 104, 96]
abbrev dktX0_goes_6 : List UInt8 := dkwX0_goes_6 ++ dktX0_goes_7
def dkwX0_goes_5 : List UInt8 := [21, 11, 21, 8, 21, 9, 184, 0, 30, 172, 3, 54, 12, 21, 12, 21, 10, 16, 31, 126, 163, 0, 73]
abbrev dktX0_goes_5 : List UInt8 := dkwX0_goes_5 ++ dktX0_goes_6
def dkwX0_goes_4 : List UInt8 := [42, 44, 21, 11, 21, 6, 21, 7, 184, 0, 30, 54, 11, 21, 11, 156, 0, 7, 2, 167, 0, 14, 42, 44]
abbrev dktX0_goes_4 : List UInt8 := dkwX0_goes_4 ++ dktX0_goes_5
def dkwX0_goes_3 : List UInt8 := [170, 0, 0, 1, 118, 0, 0, 0, 0, 0, 0, 0, 5, 0, 0, 0, 37, 0, 0, 0, 71, 0, 0, 0, 157, 0, 0, 0, 243, 0, 0, 1, 18, 0, 0, 1, 42]
abbrev dktX0_goes_3 : List UInt8 := dkwX0_goes_3 ++ dktX0_goes_4
def dkwX0_goes_2 : List UInt8 := [8, 96, 184, 0, 25, 54, 10, 29, 54, 11, 25, 4, 21, 5, 184, 0, 25, 18, 29, 126, 16, 7, 112]
abbrev dktX0_goes_2 : List UInt8 := dkwX0_goes_2 ++ dktX0_goes_3
def dkwX0_goes_1 : List UInt8 := [21, 5, 6, 96, 184, 0, 25, 54, 8, 25, 4, 21, 5, 7, 96, 184, 0, 25, 54, 9, 25, 4, 21, 5]
abbrev dktX0_goes_1 : List UInt8 := dkwX0_goes_1 ++ dktX0_goes_2
def dkwX0_goes_0 : List UInt8 := [25, 4, 21, 5, 4, 96, 184, 0, 25, 54, 6, 25, 4, 21, 5, 5, 96, 184, 0, 25, 54, 7, 25, 4]
abbrev dktX0_goes_0 : List UInt8 := dkwX0_goes_0 ++ dktX0_goes_1
theorem dksX0_goes_0 : cX0_goes.data.toList.drop 0 = dktX0_goes_0 := by decide +kernel
theorem dksX0_goes_1 : cX0_goes.data.toList.drop 24 = dktX0_goes_1 := dk_seg dksX0_goes_0 24 rfl rfl
theorem dksX0_goes_2 : cX0_goes.data.toList.drop 48 = dktX0_goes_2 := dk_seg dksX0_goes_1 24 rfl rfl
theorem dksX0_goes_3 : cX0_goes.data.toList.drop 71 = dktX0_goes_3 := dk_seg dksX0_goes_2 23 rfl rfl
theorem dksX0_goes_4 : cX0_goes.data.toList.drop 108 = dktX0_goes_4 := dk_seg dksX0_goes_3 37 rfl rfl
theorem dksX0_goes_5 : cX0_goes.data.toList.drop 132 = dktX0_goes_5 := dk_seg dksX0_goes_4 24 rfl rfl
theorem dksX0_goes_6 : cX0_goes.data.toList.drop 155 = dktX0_goes_6 := dk_seg dksX0_goes_5 23 rfl rfl
theorem dksX0_goes_7 : cX0_goes.data.toList.drop 179 = dktX0_goes_7 := dk_seg dksX0_goes_6 24 rfl rfl
theorem dksX0_goes_8 : cX0_goes.data.toList.drop 203 = dktX0_goes_8 := dk_seg dksX0_goes_7 24 rfl rfl
theorem dksX0_goes_9 : cX0_goes.data.toList.drop 227 = dktX0_goes_9 := dk_seg dksX0_goes_8 24 rfl rfl
theorem dksX0_goes_10 : cX0_goes.data.toList.drop 250 = dktX0_goes_10 := dk_seg dksX0_goes_9 23 rfl rfl
theorem dksX0_goes_11 : cX0_goes.data.toList.drop 273 = dktX0_goes_11 := dk_seg dksX0_goes_10 23 rfl rfl
theorem dksX0_goes_12 : cX0_goes.data.toList.drop 297 = dktX0_goes_12 := dk_seg dksX0_goes_11 24 rfl rfl
theorem dksX0_goes_13 : cX0_goes.data.toList.drop 321 = dktX0_goes_13 := dk_seg dksX0_goes_12 24 rfl rfl
theorem dksX0_goes_14 : cX0_goes.data.toList.drop 345 = dktX0_goes_14 := dk_seg dksX0_goes_13 24 rfl rfl
theorem dksX0_goes_15 : cX0_goes.data.toList.drop 369 = dktX0_goes_15 := dk_seg dksX0_goes_14 24 rfl rfl
theorem dksX0_goes_16 : cX0_goes.data.toList.drop 392 = dktX0_goes_16 := dk_seg dksX0_goes_15 23 rfl rfl
theorem dksX0_goes_17 : cX0_goes.data.toList.drop 415 = dktX0_goes_17 := dk_seg dksX0_goes_16 23 rfl rfl
theorem dksX0_goes_18 : cX0_goes.data.toList.drop 438 = dktX0_goes_18 := dk_seg dksX0_goes_17 23 rfl rfl
theorem dksX0_goes_19 : cX0_goes.data.toList.drop 461 = dktX0_goes_19 := dk_seg dksX0_goes_18 23 rfl rfl
theorem dksX0_goes_20 : cX0_goes.data.toList.drop 484 = dktX0_goes_20 := dk_seg dksX0_goes_19 23 rfl rfl
theorem dksX0_goes_21 : cX0_goes.data.toList.drop 508 = dktX0_goes_21 := dk_seg dksX0_goes_20 24 rfl rfl
theorem dksX0_goes_22 : cX0_goes.data.toList.drop 532 = dktX0_goes_22 := dk_seg dksX0_goes_21 24 rfl rfl
theorem dksX0_goes_23 : cX0_goes.data.toList.drop 554 = dktX0_goes_23 := dk_seg dksX0_goes_22 22 rfl rfl
theorem dksX0_goes_24 : cX0_goes.data.toList.drop 578 = dktX0_goes_24 := dk_seg dksX0_goes_23 24 rfl rfl
theorem dksX0_goes_25 : cX0_goes.data.toList.drop 602 = dktX0_goes_25 := dk_seg dksX0_goes_24 24 rfl rfl
theorem dksX0_goes_26 : cX0_goes.data.toList.drop 625 = dktX0_goes_26 := dk_seg dksX0_goes_25 23 rfl rfl
theorem dX0_goes_0 : decode cX0_goes 0 = .ok (.aload 4, 2) := dk_25 4 (dk_at dksX0_goes_0 0 rfl rfl)
theorem dX0_goes_2 : decode cX0_goes 2 = .ok (.iload 5, 2) := dk_21 5 (dk_at dksX0_goes_0 2 rfl rfl)
theorem dX0_goes_4 : decode cX0_goes 4 = .ok (.iconst 1, 1) := dk_4 (dk_at dksX0_goes_0 4 rfl rfl)
theorem dX0_goes_5 : decode cX0_goes 5 = .ok (.iadd, 1) := dk_96 (dk_at dksX0_goes_0 5 rfl rfl)
theorem dX0_goes_6 : decode cX0_goes 6 = .ok (.invokestatic 25, 3) := dk_184 0 25 (dk_at dksX0_goes_0 6 rfl rfl)
theorem dX0_goes_9 : decode cX0_goes 9 = .ok (.istore 6, 2) := dk_54 6 (dk_at dksX0_goes_0 9 rfl rfl)
theorem dX0_goes_11 : decode cX0_goes 11 = .ok (.aload 4, 2) := dk_25 4 (dk_at dksX0_goes_0 11 rfl rfl)
theorem dX0_goes_13 : decode cX0_goes 13 = .ok (.iload 5, 2) := dk_21 5 (dk_at dksX0_goes_0 13 rfl rfl)
theorem dX0_goes_15 : decode cX0_goes 15 = .ok (.iconst 2, 1) := dk_5 (dk_at dksX0_goes_0 15 rfl rfl)
theorem dX0_goes_16 : decode cX0_goes 16 = .ok (.iadd, 1) := dk_96 (dk_at dksX0_goes_0 16 rfl rfl)
theorem dX0_goes_17 : decode cX0_goes 17 = .ok (.invokestatic 25, 3) := dk_184 0 25 (dk_at dksX0_goes_0 17 rfl rfl)
theorem dX0_goes_20 : decode cX0_goes 20 = .ok (.istore 7, 2) := dk_54 7 (dk_at dksX0_goes_0 20 rfl rfl)
theorem dX0_goes_22 : decode cX0_goes 22 = .ok (.aload 4, 2) := dk_25 4 (dk_at dksX0_goes_0 22 rfl rfl)
theorem dX0_goes_24 : decode cX0_goes 24 = .ok (.iload 5, 2) := dk_21 5 (dk_at dksX0_goes_1 0 rfl rfl)
theorem dX0_goes_26 : decode cX0_goes 26 = .ok (.iconst 3, 1) := dk_6 (dk_at dksX0_goes_1 2 rfl rfl)
theorem dX0_goes_27 : decode cX0_goes 27 = .ok (.iadd, 1) := dk_96 (dk_at dksX0_goes_1 3 rfl rfl)
theorem dX0_goes_28 : decode cX0_goes 28 = .ok (.invokestatic 25, 3) := dk_184 0 25 (dk_at dksX0_goes_1 4 rfl rfl)
theorem dX0_goes_31 : decode cX0_goes 31 = .ok (.istore 8, 2) := dk_54 8 (dk_at dksX0_goes_1 7 rfl rfl)
theorem dX0_goes_33 : decode cX0_goes 33 = .ok (.aload 4, 2) := dk_25 4 (dk_at dksX0_goes_1 9 rfl rfl)
theorem dX0_goes_35 : decode cX0_goes 35 = .ok (.iload 5, 2) := dk_21 5 (dk_at dksX0_goes_1 11 rfl rfl)
theorem dX0_goes_37 : decode cX0_goes 37 = .ok (.iconst 4, 1) := dk_7 (dk_at dksX0_goes_1 13 rfl rfl)
theorem dX0_goes_38 : decode cX0_goes 38 = .ok (.iadd, 1) := dk_96 (dk_at dksX0_goes_1 14 rfl rfl)
theorem dX0_goes_39 : decode cX0_goes 39 = .ok (.invokestatic 25, 3) := dk_184 0 25 (dk_at dksX0_goes_1 15 rfl rfl)
theorem dX0_goes_42 : decode cX0_goes 42 = .ok (.istore 9, 2) := dk_54 9 (dk_at dksX0_goes_1 18 rfl rfl)
theorem dX0_goes_44 : decode cX0_goes 44 = .ok (.aload 4, 2) := dk_25 4 (dk_at dksX0_goes_1 20 rfl rfl)
theorem dX0_goes_46 : decode cX0_goes 46 = .ok (.iload 5, 2) := dk_21 5 (dk_at dksX0_goes_1 22 rfl rfl)
theorem dX0_goes_48 : decode cX0_goes 48 = .ok (.iconst 5, 1) := dk_8 (dk_at dksX0_goes_2 0 rfl rfl)
theorem dX0_goes_49 : decode cX0_goes 49 = .ok (.iadd, 1) := dk_96 (dk_at dksX0_goes_2 1 rfl rfl)
theorem dX0_goes_50 : decode cX0_goes 50 = .ok (.invokestatic 25, 3) := dk_184 0 25 (dk_at dksX0_goes_2 2 rfl rfl)
theorem dX0_goes_53 : decode cX0_goes 53 = .ok (.istore 10, 2) := dk_54 10 (dk_at dksX0_goes_2 5 rfl rfl)
theorem dX0_goes_55 : decode cX0_goes 55 = .ok (.iload_n 3, 1) := dk_29 (dk_at dksX0_goes_2 7 rfl rfl)
theorem dX0_goes_56 : decode cX0_goes 56 = .ok (.istore 11, 2) := dk_54 11 (dk_at dksX0_goes_2 8 rfl rfl)
theorem dX0_goes_58 : decode cX0_goes 58 = .ok (.aload 4, 2) := dk_25 4 (dk_at dksX0_goes_2 10 rfl rfl)
theorem dX0_goes_60 : decode cX0_goes 60 = .ok (.iload 5, 2) := dk_21 5 (dk_at dksX0_goes_2 12 rfl rfl)
theorem dX0_goes_62 : decode cX0_goes 62 = .ok (.invokestatic 25, 3) := dk_184 0 25 (dk_at dksX0_goes_2 14 rfl rfl)
theorem dX0_goes_65 : decode cX0_goes 65 = .ok (.ldc 29, 2) := dk_18 29 (dk_at dksX0_goes_2 17 rfl rfl)
theorem dX0_goes_67 : decode cX0_goes 67 = .ok (.iand, 1) := dk_126 (dk_at dksX0_goes_2 19 rfl rfl)
theorem dX0_goes_68 : decode cX0_goes 68 = .ok (.bipush 7, 2) := dk_16 7 (dk_at dksX0_goes_2 20 rfl rfl)
theorem dX0_goes_70 : decode cX0_goes 70 = .ok (.irem, 1) := dk_112 (dk_at dksX0_goes_2 22 rfl rfl)
theorem dX0_goes_71 : decode cX0_goes 71 = .ok (.tableswitch 374 0 5 #[37, 71, 157, 243, 274, 298], 37) := by decide +kernel
theorem dX0_goes_108 : decode cX0_goes 108 = .ok (.aload_n 0, 1) := dk_42 (dk_at dksX0_goes_4 0 rfl rfl)
theorem dX0_goes_109 : decode cX0_goes 109 = .ok (.aload_n 2, 1) := dk_44 (dk_at dksX0_goes_4 1 rfl rfl)
theorem dX0_goes_110 : decode cX0_goes 110 = .ok (.iload 11, 2) := dk_21 11 (dk_at dksX0_goes_4 2 rfl rfl)
theorem dX0_goes_112 : decode cX0_goes 112 = .ok (.iload 6, 2) := dk_21 6 (dk_at dksX0_goes_4 4 rfl rfl)
theorem dX0_goes_114 : decode cX0_goes 114 = .ok (.iload 7, 2) := dk_21 7 (dk_at dksX0_goes_4 6 rfl rfl)
theorem dX0_goes_116 : decode cX0_goes 116 = .ok (.invokestatic 30, 3) := dk_184 0 30 (dk_at dksX0_goes_4 8 rfl rfl)
theorem dX0_goes_119 : decode cX0_goes 119 = .ok (.istore 11, 2) := dk_54 11 (dk_at dksX0_goes_4 11 rfl rfl)
theorem dX0_goes_121 : decode cX0_goes 121 = .ok (.iload 11, 2) := dk_21 11 (dk_at dksX0_goes_4 13 rfl rfl)
theorem dX0_goes_123 : decode cX0_goes 123 = .ok (.ifCond .ge 7, 3) := dk_156 0 7 (dk_at dksX0_goes_4 15 rfl rfl)
theorem dX0_goes_126 : decode cX0_goes 126 = .ok (.iconst (-1), 1) := dk_2 (dk_at dksX0_goes_4 18 rfl rfl)
theorem dX0_goes_127 : decode cX0_goes 127 = .ok (.goto 14, 3) := dk_167 0 14 (dk_at dksX0_goes_4 19 rfl rfl)
theorem dX0_goes_130 : decode cX0_goes 130 = .ok (.aload_n 0, 1) := dk_42 (dk_at dksX0_goes_4 22 rfl rfl)
theorem dX0_goes_131 : decode cX0_goes 131 = .ok (.aload_n 2, 1) := dk_44 (dk_at dksX0_goes_4 23 rfl rfl)
theorem dX0_goes_132 : decode cX0_goes 132 = .ok (.iload 11, 2) := dk_21 11 (dk_at dksX0_goes_5 0 rfl rfl)
theorem dX0_goes_134 : decode cX0_goes 134 = .ok (.iload 8, 2) := dk_21 8 (dk_at dksX0_goes_5 2 rfl rfl)
theorem dX0_goes_136 : decode cX0_goes 136 = .ok (.iload 9, 2) := dk_21 9 (dk_at dksX0_goes_5 4 rfl rfl)
theorem dX0_goes_138 : decode cX0_goes 138 = .ok (.invokestatic 30, 3) := dk_184 0 30 (dk_at dksX0_goes_5 6 rfl rfl)
theorem dX0_goes_141 : decode cX0_goes 141 = .ok (.ireturn, 1) := dk_172 (dk_at dksX0_goes_5 9 rfl rfl)
theorem dX0_goes_142 : decode cX0_goes 142 = .ok (.iconst 0, 1) := dk_3 (dk_at dksX0_goes_5 10 rfl rfl)
theorem dX0_goes_143 : decode cX0_goes 143 = .ok (.istore 12, 2) := dk_54 12 (dk_at dksX0_goes_5 11 rfl rfl)
theorem dX0_goes_145 : decode cX0_goes 145 = .ok (.iload 12, 2) := dk_21 12 (dk_at dksX0_goes_5 13 rfl rfl)
theorem dX0_goes_147 : decode cX0_goes 147 = .ok (.iload 10, 2) := dk_21 10 (dk_at dksX0_goes_5 15 rfl rfl)
theorem dX0_goes_149 : decode cX0_goes 149 = .ok (.bipush 31, 2) := dk_16 31 (dk_at dksX0_goes_5 17 rfl rfl)
theorem dX0_goes_151 : decode cX0_goes 151 = .ok (.iand, 1) := dk_126 (dk_at dksX0_goes_5 19 rfl rfl)
theorem dX0_goes_152 : decode cX0_goes 152 = .ok (.if_icmp .gt 73, 3) := dk_163 0 73 (dk_at dksX0_goes_5 20 rfl rfl)
theorem dX0_goes_155 : decode cX0_goes 155 = .ok (.iload 11, 2) := dk_21 11 (dk_at dksX0_goes_6 0 rfl rfl)
theorem dX0_goes_157 : decode cX0_goes 157 = .ok (.ifCond .lt 68, 3) := dk_155 0 68 (dk_at dksX0_goes_6 2 rfl rfl)
theorem dX0_goes_160 : decode cX0_goes 160 = .ok (.aload_n 0, 1) := dk_42 (dk_at dksX0_goes_6 5 rfl rfl)
theorem dX0_goes_161 : decode cX0_goes 161 = .ok (.aload_n 2, 1) := dk_44 (dk_at dksX0_goes_6 6 rfl rfl)
theorem dX0_goes_162 : decode cX0_goes 162 = .ok (.iload 11, 2) := dk_21 11 (dk_at dksX0_goes_6 7 rfl rfl)
theorem dX0_goes_164 : decode cX0_goes 164 = .ok (.iload 12, 2) := dk_21 12 (dk_at dksX0_goes_6 9 rfl rfl)
theorem dX0_goes_166 : decode cX0_goes 166 = .ok (.iconst 3, 1) := dk_6 (dk_at dksX0_goes_6 11 rfl rfl)
theorem dX0_goes_167 : decode cX0_goes 167 = .ok (.irem, 1) := dk_112 (dk_at dksX0_goes_6 12 rfl rfl)
theorem dX0_goes_168 : decode cX0_goes 168 = .ok (.ifCond .ne 14, 3) := dk_154 0 14 (dk_at dksX0_goes_6 13 rfl rfl)
theorem dX0_goes_171 : decode cX0_goes 171 = .ok (.iload 6, 2) := dk_21 6 (dk_at dksX0_goes_6 16 rfl rfl)
theorem dX0_goes_173 : decode cX0_goes 173 = .ok (.iload 12, 2) := dk_21 12 (dk_at dksX0_goes_6 18 rfl rfl)
theorem dX0_goes_175 : decode cX0_goes 175 = .ok (.iload 7, 2) := dk_21 7 (dk_at dksX0_goes_6 20 rfl rfl)
theorem dX0_goes_177 : decode cX0_goes 177 = .ok (.imul, 1) := dk_104 (dk_at dksX0_goes_6 22 rfl rfl)
theorem dX0_goes_178 : decode cX0_goes 178 = .ok (.iadd, 1) := dk_96 (dk_at dksX0_goes_6 23 rfl rfl)
theorem dX0_goes_179 : decode cX0_goes 179 = .ok (.goto 9, 3) := dk_167 0 9 (dk_at dksX0_goes_7 0 rfl rfl)
theorem dX0_goes_182 : decode cX0_goes 182 = .ok (.iload 6, 2) := dk_21 6 (dk_at dksX0_goes_7 3 rfl rfl)
theorem dX0_goes_184 : decode cX0_goes 184 = .ok (.iconst 1, 1) := dk_4 (dk_at dksX0_goes_7 5 rfl rfl)
theorem dX0_goes_185 : decode cX0_goes 185 = .ok (.iand, 1) := dk_126 (dk_at dksX0_goes_7 6 rfl rfl)
theorem dX0_goes_186 : decode cX0_goes 186 = .ok (.iconst 1, 1) := dk_4 (dk_at dksX0_goes_7 7 rfl rfl)
theorem dX0_goes_187 : decode cX0_goes 187 = .ok (.isub, 1) := dk_100 (dk_at dksX0_goes_7 8 rfl rfl)
theorem dX0_goes_188 : decode cX0_goes 188 = .ok (.iload 12, 2) := dk_21 12 (dk_at dksX0_goes_7 9 rfl rfl)
theorem dX0_goes_190 : decode cX0_goes 190 = .ok (.iconst 3, 1) := dk_6 (dk_at dksX0_goes_7 11 rfl rfl)
theorem dX0_goes_191 : decode cX0_goes 191 = .ok (.irem, 1) := dk_112 (dk_at dksX0_goes_7 12 rfl rfl)
theorem dX0_goes_192 : decode cX0_goes 192 = .ok (.iconst 1, 1) := dk_4 (dk_at dksX0_goes_7 13 rfl rfl)
theorem dX0_goes_193 : decode cX0_goes 193 = .ok (.if_icmp .ne 14, 3) := dk_160 0 14 (dk_at dksX0_goes_7 14 rfl rfl)
theorem dX0_goes_196 : decode cX0_goes 196 = .ok (.iload 8, 2) := dk_21 8 (dk_at dksX0_goes_7 17 rfl rfl)
theorem dX0_goes_198 : decode cX0_goes 198 = .ok (.iload 12, 2) := dk_21 12 (dk_at dksX0_goes_7 19 rfl rfl)
theorem dX0_goes_200 : decode cX0_goes 200 = .ok (.iload 9, 2) := dk_21 9 (dk_at dksX0_goes_7 21 rfl rfl)
theorem dX0_goes_202 : decode cX0_goes 202 = .ok (.imul, 1) := dk_104 (dk_at dksX0_goes_7 23 rfl rfl)
theorem dX0_goes_203 : decode cX0_goes 203 = .ok (.iadd, 1) := dk_96 (dk_at dksX0_goes_8 0 rfl rfl)
theorem dX0_goes_204 : decode cX0_goes 204 = .ok (.goto 10, 3) := dk_167 0 10 (dk_at dksX0_goes_8 1 rfl rfl)
theorem dX0_goes_207 : decode cX0_goes 207 = .ok (.iload 8, 2) := dk_21 8 (dk_at dksX0_goes_8 4 rfl rfl)
theorem dX0_goes_209 : decode cX0_goes 209 = .ok (.iload 12, 2) := dk_21 12 (dk_at dksX0_goes_8 6 rfl rfl)
theorem dX0_goes_211 : decode cX0_goes 211 = .ok (.ixor, 1) := dk_130 (dk_at dksX0_goes_8 8 rfl rfl)
theorem dX0_goes_212 : decode cX0_goes 212 = .ok (.iconst 3, 1) := dk_6 (dk_at dksX0_goes_8 9 rfl rfl)
theorem dX0_goes_213 : decode cX0_goes 213 = .ok (.iand, 1) := dk_126 (dk_at dksX0_goes_8 10 rfl rfl)
theorem dX0_goes_214 : decode cX0_goes 214 = .ok (.invokestatic 30, 3) := dk_184 0 30 (dk_at dksX0_goes_8 11 rfl rfl)
theorem dX0_goes_217 : decode cX0_goes 217 = .ok (.istore 11, 2) := dk_54 11 (dk_at dksX0_goes_8 14 rfl rfl)
theorem dX0_goes_219 : decode cX0_goes 219 = .ok (.iinc 12 1, 3) := dk_132 12 1 (dk_at dksX0_goes_8 16 rfl rfl)
theorem dX0_goes_222 : decode cX0_goes 222 = .ok (.goto (-77), 3) := dk_167 255 179 (dk_at dksX0_goes_8 19 rfl rfl)
theorem dX0_goes_225 : decode cX0_goes 225 = .ok (.iload 11, 2) := dk_21 11 (dk_at dksX0_goes_8 22 rfl rfl)
theorem dX0_goes_227 : decode cX0_goes 227 = .ok (.ireturn, 1) := dk_172 (dk_at dksX0_goes_9 0 rfl rfl)
theorem dX0_goes_228 : decode cX0_goes 228 = .ok (.aload_n 1, 1) := dk_43 (dk_at dksX0_goes_9 1 rfl rfl)
theorem dX0_goes_229 : decode cX0_goes 229 = .ok (.iload 6, 2) := dk_21 6 (dk_at dksX0_goes_9 2 rfl rfl)
theorem dX0_goes_231 : decode cX0_goes 231 = .ok (.iconst 3, 1) := dk_6 (dk_at dksX0_goes_9 4 rfl rfl)
theorem dX0_goes_232 : decode cX0_goes 232 = .ok (.iand, 1) := dk_126 (dk_at dksX0_goes_9 5 rfl rfl)
theorem dX0_goes_233 : decode cX0_goes 233 = .ok (.aaload, 1) := dk_50 (dk_at dksX0_goes_9 6 rfl rfl)
theorem dX0_goes_234 : decode cX0_goes 234 = .ok (.arraylength, 1) := dk_190 (dk_at dksX0_goes_9 7 rfl rfl)
theorem dX0_goes_235 : decode cX0_goes 235 = .ok (.istore 12, 2) := dk_54 12 (dk_at dksX0_goes_9 8 rfl rfl)
theorem dX0_goes_237 : decode cX0_goes 237 = .ok (.aload_n 0, 1) := dk_42 (dk_at dksX0_goes_9 10 rfl rfl)
theorem dX0_goes_238 : decode cX0_goes 238 = .ok (.iload 6, 2) := dk_21 6 (dk_at dksX0_goes_9 11 rfl rfl)
theorem dX0_goes_240 : decode cX0_goes 240 = .ok (.invokevirtual 34, 3) := dk_182 0 34 (dk_at dksX0_goes_9 13 rfl rfl)
theorem dX0_goes_243 : decode cX0_goes 243 = .ok (.iload 11, 2) := dk_21 11 (dk_at dksX0_goes_9 16 rfl rfl)
theorem dX0_goes_245 : decode cX0_goes 245 = .ok (.iload 12, 2) := dk_21 12 (dk_at dksX0_goes_9 18 rfl rfl)
theorem dX0_goes_247 : decode cX0_goes 247 = .ok (.iadd, 1) := dk_96 (dk_at dksX0_goes_9 20 rfl rfl)
theorem dX0_goes_248 : decode cX0_goes 248 = .ok (.bipush 96, 2) := dk_16 96 (dk_at dksX0_goes_9 21 rfl rfl)
theorem dX0_goes_250 : decode cX0_goes 250 = .ok (.if_icmp .gt 7, 3) := dk_163 0 7 (dk_at dksX0_goes_10 0 rfl rfl)
theorem dX0_goes_253 : decode cX0_goes 253 = .ok (.iconst 1, 1) := dk_4 (dk_at dksX0_goes_10 3 rfl rfl)
theorem dX0_goes_254 : decode cX0_goes 254 = .ok (.goto 4, 3) := dk_167 0 4 (dk_at dksX0_goes_10 4 rfl rfl)
theorem dX0_goes_257 : decode cX0_goes 257 = .ok (.iconst 0, 1) := dk_3 (dk_at dksX0_goes_10 7 rfl rfl)
theorem dX0_goes_258 : decode cX0_goes 258 = .ok (.if_icmp .eq 5, 3) := dk_159 0 5 (dk_at dksX0_goes_10 8 rfl rfl)
theorem dX0_goes_261 : decode cX0_goes 261 = .ok (.iconst (-1), 1) := dk_2 (dk_at dksX0_goes_10 11 rfl rfl)
theorem dX0_goes_262 : decode cX0_goes 262 = .ok (.ireturn, 1) := dk_172 (dk_at dksX0_goes_10 12 rfl rfl)
theorem dX0_goes_263 : decode cX0_goes 263 = .ok (.iload 11, 2) := dk_21 11 (dk_at dksX0_goes_10 13 rfl rfl)
theorem dX0_goes_265 : decode cX0_goes 265 = .ok (.iload 12, 2) := dk_21 12 (dk_at dksX0_goes_10 15 rfl rfl)
theorem dX0_goes_267 : decode cX0_goes 267 = .ok (.iadd, 1) := dk_96 (dk_at dksX0_goes_10 17 rfl rfl)
theorem dX0_goes_268 : decode cX0_goes 268 = .ok (.bipush 96, 2) := dk_16 96 (dk_at dksX0_goes_10 18 rfl rfl)
theorem dX0_goes_270 : decode cX0_goes 270 = .ok (.if_icmp .le 6, 3) := dk_164 0 6 (dk_at dksX0_goes_10 20 rfl rfl)
theorem dX0_goes_273 : decode cX0_goes 273 = .ok (.iload 11, 2) := dk_21 11 (dk_at dksX0_goes_11 0 rfl rfl)
theorem dX0_goes_275 : decode cX0_goes 275 = .ok (.ireturn, 1) := dk_172 (dk_at dksX0_goes_11 2 rfl rfl)
theorem dX0_goes_276 : decode cX0_goes 276 = .ok (.iconst 0, 1) := dk_3 (dk_at dksX0_goes_11 3 rfl rfl)
theorem dX0_goes_277 : decode cX0_goes 277 = .ok (.istore 13, 2) := dk_54 13 (dk_at dksX0_goes_11 4 rfl rfl)
theorem dX0_goes_279 : decode cX0_goes 279 = .ok (.iload 13, 2) := dk_21 13 (dk_at dksX0_goes_11 6 rfl rfl)
theorem dX0_goes_281 : decode cX0_goes 281 = .ok (.iload 12, 2) := dk_21 12 (dk_at dksX0_goes_11 8 rfl rfl)
theorem dX0_goes_283 : decode cX0_goes 283 = .ok (.if_icmp .ge 25, 3) := dk_162 0 25 (dk_at dksX0_goes_11 10 rfl rfl)
theorem dX0_goes_286 : decode cX0_goes 286 = .ok (.aload_n 2, 1) := dk_44 (dk_at dksX0_goes_11 13 rfl rfl)
theorem dX0_goes_287 : decode cX0_goes 287 = .ok (.iload 11, 2) := dk_21 11 (dk_at dksX0_goes_11 14 rfl rfl)
theorem dX0_goes_289 : decode cX0_goes 289 = .ok (.iload 13, 2) := dk_21 13 (dk_at dksX0_goes_11 16 rfl rfl)
theorem dX0_goes_291 : decode cX0_goes 291 = .ok (.iadd, 1) := dk_96 (dk_at dksX0_goes_11 18 rfl rfl)
theorem dX0_goes_292 : decode cX0_goes 292 = .ok (.aload_n 1, 1) := dk_43 (dk_at dksX0_goes_11 19 rfl rfl)
theorem dX0_goes_293 : decode cX0_goes 293 = .ok (.iload 6, 2) := dk_21 6 (dk_at dksX0_goes_11 20 rfl rfl)
theorem dX0_goes_295 : decode cX0_goes 295 = .ok (.iconst 3, 1) := dk_6 (dk_at dksX0_goes_11 22 rfl rfl)
theorem dX0_goes_296 : decode cX0_goes 296 = .ok (.iand, 1) := dk_126 (dk_at dksX0_goes_11 23 rfl rfl)
theorem dX0_goes_297 : decode cX0_goes 297 = .ok (.aaload, 1) := dk_50 (dk_at dksX0_goes_12 0 rfl rfl)
theorem dX0_goes_298 : decode cX0_goes 298 = .ok (.iload 13, 2) := dk_21 13 (dk_at dksX0_goes_12 1 rfl rfl)
theorem dX0_goes_300 : decode cX0_goes 300 = .ok (.laload, 1) := dk_47 (dk_at dksX0_goes_12 3 rfl rfl)
theorem dX0_goes_301 : decode cX0_goes 301 = .ok (.lastore, 1) := dk_80 (dk_at dksX0_goes_12 4 rfl rfl)
theorem dX0_goes_302 : decode cX0_goes 302 = .ok (.iinc 13 1, 3) := dk_132 13 1 (dk_at dksX0_goes_12 5 rfl rfl)
theorem dX0_goes_305 : decode cX0_goes 305 = .ok (.goto (-26), 3) := dk_167 255 230 (dk_at dksX0_goes_12 8 rfl rfl)
theorem dX0_goes_308 : decode cX0_goes 308 = .ok (.iload 11, 2) := dk_21 11 (dk_at dksX0_goes_12 11 rfl rfl)
theorem dX0_goes_310 : decode cX0_goes 310 = .ok (.iload 12, 2) := dk_21 12 (dk_at dksX0_goes_12 13 rfl rfl)
theorem dX0_goes_312 : decode cX0_goes 312 = .ok (.iadd, 1) := dk_96 (dk_at dksX0_goes_12 15 rfl rfl)
theorem dX0_goes_313 : decode cX0_goes 313 = .ok (.ireturn, 1) := dk_172 (dk_at dksX0_goes_12 16 rfl rfl)
theorem dX0_goes_314 : decode cX0_goes 314 = .ok (.aload_n 1, 1) := dk_43 (dk_at dksX0_goes_12 17 rfl rfl)
theorem dX0_goes_315 : decode cX0_goes 315 = .ok (.iload 6, 2) := dk_21 6 (dk_at dksX0_goes_12 18 rfl rfl)
theorem dX0_goes_317 : decode cX0_goes 317 = .ok (.iconst 3, 1) := dk_6 (dk_at dksX0_goes_12 20 rfl rfl)
theorem dX0_goes_318 : decode cX0_goes 318 = .ok (.iand, 1) := dk_126 (dk_at dksX0_goes_12 21 rfl rfl)
theorem dX0_goes_319 : decode cX0_goes 319 = .ok (.aload_n 2, 1) := dk_44 (dk_at dksX0_goes_12 22 rfl rfl)
theorem dX0_goes_320 : decode cX0_goes 320 = .ok (.iconst 0, 1) := dk_3 (dk_at dksX0_goes_12 23 rfl rfl)
theorem dX0_goes_321 : decode cX0_goes 321 = .ok (.iload 11, 2) := dk_21 11 (dk_at dksX0_goes_13 0 rfl rfl)
theorem dX0_goes_323 : decode cX0_goes 323 = .ok (.invokestatic 38, 3) := dk_184 0 38 (dk_at dksX0_goes_13 2 rfl rfl)
theorem dX0_goes_326 : decode cX0_goes 326 = .ok (.aastore, 1) := dk_83 (dk_at dksX0_goes_13 5 rfl rfl)
theorem dX0_goes_327 : decode cX0_goes 327 = .ok (.aload_n 0, 1) := dk_42 (dk_at dksX0_goes_13 6 rfl rfl)
theorem dX0_goes_328 : decode cX0_goes 328 = .ok (.iload 6, 2) := dk_21 6 (dk_at dksX0_goes_13 7 rfl rfl)
theorem dX0_goes_330 : decode cX0_goes 330 = .ok (.invokevirtual 42, 3) := dk_182 0 42 (dk_at dksX0_goes_13 9 rfl rfl)
theorem dX0_goes_333 : decode cX0_goes 333 = .ok (.iload 11, 2) := dk_21 11 (dk_at dksX0_goes_13 12 rfl rfl)
theorem dX0_goes_335 : decode cX0_goes 335 = .ok (.if_icmp .ne 8, 3) := dk_160 0 8 (dk_at dksX0_goes_13 14 rfl rfl)
theorem dX0_goes_338 : decode cX0_goes 338 = .ok (.iload 11, 2) := dk_21 11 (dk_at dksX0_goes_13 17 rfl rfl)
theorem dX0_goes_340 : decode cX0_goes 340 = .ok (.goto 4, 3) := dk_167 0 4 (dk_at dksX0_goes_13 19 rfl rfl)
theorem dX0_goes_343 : decode cX0_goes 343 = .ok (.iconst (-1), 1) := dk_2 (dk_at dksX0_goes_13 22 rfl rfl)
theorem dX0_goes_344 : decode cX0_goes 344 = .ok (.ireturn, 1) := dk_172 (dk_at dksX0_goes_13 23 rfl rfl)
theorem dX0_goes_345 : decode cX0_goes 345 = .ok (.iload 7, 2) := dk_21 7 (dk_at dksX0_goes_14 0 rfl rfl)
theorem dX0_goes_347 : decode cX0_goes 347 = .ok (.iconst 1, 1) := dk_4 (dk_at dksX0_goes_14 2 rfl rfl)
theorem dX0_goes_348 : decode cX0_goes 348 = .ok (.iand, 1) := dk_126 (dk_at dksX0_goes_14 3 rfl rfl)
theorem dX0_goes_349 : decode cX0_goes 349 = .ok (.ifCond .ne 12, 3) := dk_154 0 12 (dk_at dksX0_goes_14 4 rfl rfl)
theorem dX0_goes_352 : decode cX0_goes 352 = .ok (.aload_n 0, 1) := dk_42 (dk_at dksX0_goes_14 7 rfl rfl)
theorem dX0_goes_353 : decode cX0_goes 353 = .ok (.iload 6, 2) := dk_21 6 (dk_at dksX0_goes_14 8 rfl rfl)
theorem dX0_goes_355 : decode cX0_goes 355 = .ok (.invokevirtual 46, 3) := dk_182 0 46 (dk_at dksX0_goes_14 10 rfl rfl)
theorem dX0_goes_358 : decode cX0_goes 358 = .ok (.iload 11, 2) := dk_21 11 (dk_at dksX0_goes_14 13 rfl rfl)
theorem dX0_goes_360 : decode cX0_goes 360 = .ok (.ireturn, 1) := dk_172 (dk_at dksX0_goes_14 15 rfl rfl)
theorem dX0_goes_361 : decode cX0_goes 361 = .ok (.aload_n 0, 1) := dk_42 (dk_at dksX0_goes_14 16 rfl rfl)
theorem dX0_goes_362 : decode cX0_goes 362 = .ok (.iload 6, 2) := dk_21 6 (dk_at dksX0_goes_14 17 rfl rfl)
theorem dX0_goes_364 : decode cX0_goes 364 = .ok (.invokevirtual 50, 3) := dk_182 0 50 (dk_at dksX0_goes_14 19 rfl rfl)
theorem dX0_goes_367 : decode cX0_goes 367 = .ok (.iconst 0, 1) := dk_3 (dk_at dksX0_goes_14 22 rfl rfl)
theorem dX0_goes_368 : decode cX0_goes 368 = .ok (.ireturn, 1) := dk_172 (dk_at dksX0_goes_14 23 rfl rfl)
theorem dX0_goes_369 : decode cX0_goes 369 = .ok (.aload_n 1, 1) := dk_43 (dk_at dksX0_goes_15 0 rfl rfl)
theorem dX0_goes_370 : decode cX0_goes 370 = .ok (.iload 7, 2) := dk_21 7 (dk_at dksX0_goes_15 1 rfl rfl)
theorem dX0_goes_372 : decode cX0_goes 372 = .ok (.iconst 3, 1) := dk_6 (dk_at dksX0_goes_15 3 rfl rfl)
theorem dX0_goes_373 : decode cX0_goes 373 = .ok (.iand, 1) := dk_126 (dk_at dksX0_goes_15 4 rfl rfl)
theorem dX0_goes_374 : decode cX0_goes 374 = .ok (.aaload, 1) := dk_50 (dk_at dksX0_goes_15 5 rfl rfl)
theorem dX0_goes_375 : decode cX0_goes 375 = .ok (.astore 13, 2) := dk_58 13 (dk_at dksX0_goes_15 6 rfl rfl)
theorem dX0_goes_377 : decode cX0_goes 377 = .ok (.iload 8, 2) := dk_21 8 (dk_at dksX0_goes_15 8 rfl rfl)
theorem dX0_goes_379 : decode cX0_goes 379 = .ok (.ldc 29, 2) := dk_18 29 (dk_at dksX0_goes_15 10 rfl rfl)
theorem dX0_goes_381 : decode cX0_goes 381 = .ok (.iand, 1) := dk_126 (dk_at dksX0_goes_15 12 rfl rfl)
theorem dX0_goes_382 : decode cX0_goes 382 = .ok (.aload 13, 2) := dk_25 13 (dk_at dksX0_goes_15 13 rfl rfl)
theorem dX0_goes_384 : decode cX0_goes 384 = .ok (.arraylength, 1) := dk_190 (dk_at dksX0_goes_15 15 rfl rfl)
theorem dX0_goes_385 : decode cX0_goes 385 = .ok (.iconst 1, 1) := dk_4 (dk_at dksX0_goes_15 16 rfl rfl)
theorem dX0_goes_386 : decode cX0_goes 386 = .ok (.iadd, 1) := dk_96 (dk_at dksX0_goes_15 17 rfl rfl)
theorem dX0_goes_387 : decode cX0_goes 387 = .ok (.irem, 1) := dk_112 (dk_at dksX0_goes_15 18 rfl rfl)
theorem dX0_goes_388 : decode cX0_goes 388 = .ok (.istore 14, 2) := dk_54 14 (dk_at dksX0_goes_15 19 rfl rfl)
theorem dX0_goes_390 : decode cX0_goes 390 = .ok (.iload 9, 2) := dk_21 9 (dk_at dksX0_goes_15 21 rfl rfl)
theorem dX0_goes_392 : decode cX0_goes 392 = .ok (.ldc 29, 2) := dk_18 29 (dk_at dksX0_goes_16 0 rfl rfl)
theorem dX0_goes_394 : decode cX0_goes 394 = .ok (.iand, 1) := dk_126 (dk_at dksX0_goes_16 2 rfl rfl)
theorem dX0_goes_395 : decode cX0_goes 395 = .ok (.aload 13, 2) := dk_25 13 (dk_at dksX0_goes_16 3 rfl rfl)
theorem dX0_goes_397 : decode cX0_goes 397 = .ok (.arraylength, 1) := dk_190 (dk_at dksX0_goes_16 5 rfl rfl)
theorem dX0_goes_398 : decode cX0_goes 398 = .ok (.iload 14, 2) := dk_21 14 (dk_at dksX0_goes_16 6 rfl rfl)
theorem dX0_goes_400 : decode cX0_goes 400 = .ok (.isub, 1) := dk_100 (dk_at dksX0_goes_16 8 rfl rfl)
theorem dX0_goes_401 : decode cX0_goes 401 = .ok (.iconst 1, 1) := dk_4 (dk_at dksX0_goes_16 9 rfl rfl)
theorem dX0_goes_402 : decode cX0_goes 402 = .ok (.iadd, 1) := dk_96 (dk_at dksX0_goes_16 10 rfl rfl)
theorem dX0_goes_403 : decode cX0_goes 403 = .ok (.irem, 1) := dk_112 (dk_at dksX0_goes_16 11 rfl rfl)
theorem dX0_goes_404 : decode cX0_goes 404 = .ok (.istore 15, 2) := dk_54 15 (dk_at dksX0_goes_16 12 rfl rfl)
theorem dX0_goes_406 : decode cX0_goes 406 = .ok (.aload_n 1, 1) := dk_43 (dk_at dksX0_goes_16 14 rfl rfl)
theorem dX0_goes_407 : decode cX0_goes 407 = .ok (.iload 6, 2) := dk_21 6 (dk_at dksX0_goes_16 15 rfl rfl)
theorem dX0_goes_409 : decode cX0_goes 409 = .ok (.iconst 3, 1) := dk_6 (dk_at dksX0_goes_16 17 rfl rfl)
theorem dX0_goes_410 : decode cX0_goes 410 = .ok (.iand, 1) := dk_126 (dk_at dksX0_goes_16 18 rfl rfl)
theorem dX0_goes_411 : decode cX0_goes 411 = .ok (.aload 13, 2) := dk_25 13 (dk_at dksX0_goes_16 19 rfl rfl)
theorem dX0_goes_413 : decode cX0_goes 413 = .ok (.iload 14, 2) := dk_21 14 (dk_at dksX0_goes_16 21 rfl rfl)
theorem dX0_goes_415 : decode cX0_goes 415 = .ok (.iload 15, 2) := dk_21 15 (dk_at dksX0_goes_17 0 rfl rfl)
theorem dX0_goes_417 : decode cX0_goes 417 = .ok (.invokestatic 38, 3) := dk_184 0 38 (dk_at dksX0_goes_17 2 rfl rfl)
theorem dX0_goes_420 : decode cX0_goes 420 = .ok (.aastore, 1) := dk_83 (dk_at dksX0_goes_17 5 rfl rfl)
theorem dX0_goes_421 : decode cX0_goes 421 = .ok (.aload_n 0, 1) := dk_42 (dk_at dksX0_goes_17 6 rfl rfl)
theorem dX0_goes_422 : decode cX0_goes 422 = .ok (.iload 6, 2) := dk_21 6 (dk_at dksX0_goes_17 7 rfl rfl)
theorem dX0_goes_424 : decode cX0_goes 424 = .ok (.iload 7, 2) := dk_21 7 (dk_at dksX0_goes_17 9 rfl rfl)
theorem dX0_goes_426 : decode cX0_goes 426 = .ok (.iload 8, 2) := dk_21 8 (dk_at dksX0_goes_17 11 rfl rfl)
theorem dX0_goes_428 : decode cX0_goes 428 = .ok (.iload 9, 2) := dk_21 9 (dk_at dksX0_goes_17 13 rfl rfl)
theorem dX0_goes_430 : decode cX0_goes 430 = .ok (.invokevirtual 53, 3) := dk_182 0 53 (dk_at dksX0_goes_17 15 rfl rfl)
theorem dX0_goes_433 : decode cX0_goes 433 = .ok (.iload 15, 2) := dk_21 15 (dk_at dksX0_goes_17 18 rfl rfl)
theorem dX0_goes_435 : decode cX0_goes 435 = .ok (.if_icmp .ne 8, 3) := dk_160 0 8 (dk_at dksX0_goes_17 20 rfl rfl)
theorem dX0_goes_438 : decode cX0_goes 438 = .ok (.iload 11, 2) := dk_21 11 (dk_at dksX0_goes_18 0 rfl rfl)
theorem dX0_goes_440 : decode cX0_goes 440 = .ok (.goto 4, 3) := dk_167 0 4 (dk_at dksX0_goes_18 2 rfl rfl)
theorem dX0_goes_443 : decode cX0_goes 443 = .ok (.iconst (-1), 1) := dk_2 (dk_at dksX0_goes_18 5 rfl rfl)
theorem dX0_goes_444 : decode cX0_goes 444 = .ok (.ireturn, 1) := dk_172 (dk_at dksX0_goes_18 6 rfl rfl)
theorem dX0_goes_445 : decode cX0_goes 445 = .ok (.aload_n 1, 1) := dk_43 (dk_at dksX0_goes_18 7 rfl rfl)
theorem dX0_goes_446 : decode cX0_goes 446 = .ok (.iload 6, 2) := dk_21 6 (dk_at dksX0_goes_18 8 rfl rfl)
theorem dX0_goes_448 : decode cX0_goes 448 = .ok (.iconst 3, 1) := dk_6 (dk_at dksX0_goes_18 10 rfl rfl)
theorem dX0_goes_449 : decode cX0_goes 449 = .ok (.iand, 1) := dk_126 (dk_at dksX0_goes_18 11 rfl rfl)
theorem dX0_goes_450 : decode cX0_goes 450 = .ok (.aaload, 1) := dk_50 (dk_at dksX0_goes_18 12 rfl rfl)
theorem dX0_goes_451 : decode cX0_goes 451 = .ok (.astore 16, 2) := dk_58 16 (dk_at dksX0_goes_18 13 rfl rfl)
theorem dX0_goes_453 : decode cX0_goes 453 = .ok (.aload 16, 2) := dk_25 16 (dk_at dksX0_goes_18 15 rfl rfl)
theorem dX0_goes_455 : decode cX0_goes 455 = .ok (.arraylength, 1) := dk_190 (dk_at dksX0_goes_18 17 rfl rfl)
theorem dX0_goes_456 : decode cX0_goes 456 = .ok (.ifCond .ne 13, 3) := dk_154 0 13 (dk_at dksX0_goes_18 18 rfl rfl)
theorem dX0_goes_459 : decode cX0_goes 459 = .ok (.iload 7, 2) := dk_21 7 (dk_at dksX0_goes_18 21 rfl rfl)
theorem dX0_goes_461 : decode cX0_goes 461 = .ok (.iload 8, 2) := dk_21 8 (dk_at dksX0_goes_19 0 rfl rfl)
theorem dX0_goes_463 : decode cX0_goes 463 = .ok (.invokestatic 21, 3) := dk_184 0 21 (dk_at dksX0_goes_19 2 rfl rfl)
theorem dX0_goes_466 : decode cX0_goes 466 = .ok (.goto 15, 3) := dk_167 0 15 (dk_at dksX0_goes_19 5 rfl rfl)
theorem dX0_goes_469 : decode cX0_goes 469 = .ok (.aload 16, 2) := dk_25 16 (dk_at dksX0_goes_19 8 rfl rfl)
theorem dX0_goes_471 : decode cX0_goes 471 = .ok (.iload 9, 2) := dk_21 9 (dk_at dksX0_goes_19 10 rfl rfl)
theorem dX0_goes_473 : decode cX0_goes 473 = .ok (.ldc 29, 2) := dk_18 29 (dk_at dksX0_goes_19 12 rfl rfl)
theorem dX0_goes_475 : decode cX0_goes 475 = .ok (.iand, 1) := dk_126 (dk_at dksX0_goes_19 14 rfl rfl)
theorem dX0_goes_476 : decode cX0_goes 476 = .ok (.aload 16, 2) := dk_25 16 (dk_at dksX0_goes_19 15 rfl rfl)
theorem dX0_goes_478 : decode cX0_goes 478 = .ok (.arraylength, 1) := dk_190 (dk_at dksX0_goes_19 17 rfl rfl)
theorem dX0_goes_479 : decode cX0_goes 479 = .ok (.irem, 1) := dk_112 (dk_at dksX0_goes_19 18 rfl rfl)
theorem dX0_goes_480 : decode cX0_goes 480 = .ok (.laload, 1) := dk_47 (dk_at dksX0_goes_19 19 rfl rfl)
theorem dX0_goes_481 : decode cX0_goes 481 = .ok (.lstore 17, 2) := dk_55 17 (dk_at dksX0_goes_19 20 rfl rfl)
theorem dX0_goes_483 : decode cX0_goes 483 = .ok (.iconst 0, 1) := dk_3 (dk_at dksX0_goes_19 22 rfl rfl)
theorem dX0_goes_484 : decode cX0_goes 484 = .ok (.istore 19, 2) := dk_54 19 (dk_at dksX0_goes_20 0 rfl rfl)
theorem dX0_goes_486 : decode cX0_goes 486 = .ok (.iload 19, 2) := dk_21 19 (dk_at dksX0_goes_20 2 rfl rfl)
theorem dX0_goes_488 : decode cX0_goes 488 = .ok (.iconst 3, 1) := dk_6 (dk_at dksX0_goes_20 4 rfl rfl)
theorem dX0_goes_489 : decode cX0_goes 489 = .ok (.if_icmp .ge 149, 3) := dk_162 0 149 (dk_at dksX0_goes_20 5 rfl rfl)
theorem dX0_goes_492 : decode cX0_goes 492 = .ok (.lload 17, 2) := dk_22 17 (dk_at dksX0_goes_20 8 rfl rfl)
theorem dX0_goes_494 : decode cX0_goes 494 = .ok (.bipush 32, 2) := dk_16 32 (dk_at dksX0_goes_20 10 rfl rfl)
theorem dX0_goes_496 : decode cX0_goes 496 = .ok (.lshr, 1) := dk_123 (dk_at dksX0_goes_20 12 rfl rfl)
theorem dX0_goes_497 : decode cX0_goes 497 = .ok (.l2i, 1) := dk_136 (dk_at dksX0_goes_20 13 rfl rfl)
theorem dX0_goes_498 : decode cX0_goes 498 = .ok (.istore 20, 2) := dk_54 20 (dk_at dksX0_goes_20 14 rfl rfl)
theorem dX0_goes_500 : decode cX0_goes 500 = .ok (.lload 17, 2) := dk_22 17 (dk_at dksX0_goes_20 16 rfl rfl)
theorem dX0_goes_502 : decode cX0_goes 502 = .ok (.l2i, 1) := dk_136 (dk_at dksX0_goes_20 18 rfl rfl)
theorem dX0_goes_503 : decode cX0_goes 503 = .ok (.istore 21, 2) := dk_54 21 (dk_at dksX0_goes_20 19 rfl rfl)
theorem dX0_goes_505 : decode cX0_goes 505 = .ok (.aload_n 0, 1) := dk_42 (dk_at dksX0_goes_20 21 rfl rfl)
theorem dX0_goes_506 : decode cX0_goes 506 = .ok (.iload 6, 2) := dk_21 6 (dk_at dksX0_goes_20 22 rfl rfl)
theorem dX0_goes_508 : decode cX0_goes 508 = .ok (.iload 20, 2) := dk_21 20 (dk_at dksX0_goes_21 0 rfl rfl)
theorem dX0_goes_510 : decode cX0_goes 510 = .ok (.iload 21, 2) := dk_21 21 (dk_at dksX0_goes_21 2 rfl rfl)
theorem dX0_goes_512 : decode cX0_goes 512 = .ok (.invokevirtual 56, 3) := dk_182 0 56 (dk_at dksX0_goes_21 4 rfl rfl)
theorem dX0_goes_515 : decode cX0_goes 515 = .ok (.aload 16, 2) := dk_25 16 (dk_at dksX0_goes_21 7 rfl rfl)
theorem dX0_goes_517 : decode cX0_goes 517 = .ok (.lload 17, 2) := dk_22 17 (dk_at dksX0_goes_21 9 rfl rfl)
theorem dX0_goes_519 : decode cX0_goes 519 = .ok (.invokestatic 60, 3) := dk_184 0 60 (dk_at dksX0_goes_21 11 rfl rfl)
theorem dX0_goes_522 : decode cX0_goes 522 = .ok (.if_icmp .ne 23, 3) := dk_160 0 23 (dk_at dksX0_goes_21 14 rfl rfl)
theorem dX0_goes_525 : decode cX0_goes 525 = .ok (.aload_n 0, 1) := dk_42 (dk_at dksX0_goes_21 17 rfl rfl)
theorem dX0_goes_526 : decode cX0_goes 526 = .ok (.iload 6, 2) := dk_21 6 (dk_at dksX0_goes_21 18 rfl rfl)
theorem dX0_goes_528 : decode cX0_goes 528 = .ok (.iload 20, 2) := dk_21 20 (dk_at dksX0_goes_21 20 rfl rfl)
theorem dX0_goes_530 : decode cX0_goes 530 = .ok (.iload 21, 2) := dk_21 21 (dk_at dksX0_goes_21 22 rfl rfl)
theorem dX0_goes_532 : decode cX0_goes 532 = .ok (.invokevirtual 63, 3) := dk_182 0 63 (dk_at dksX0_goes_22 0 rfl rfl)
theorem dX0_goes_535 : decode cX0_goes 535 = .ok (.aload 16, 2) := dk_25 16 (dk_at dksX0_goes_22 3 rfl rfl)
theorem dX0_goes_537 : decode cX0_goes 537 = .ok (.lload 17, 2) := dk_22 17 (dk_at dksX0_goes_22 5 rfl rfl)
theorem dX0_goes_539 : decode cX0_goes 539 = .ok (.invokestatic 66, 3) := dk_184 0 66 (dk_at dksX0_goes_22 7 rfl rfl)
theorem dX0_goes_542 : decode cX0_goes 542 = .ok (.if_icmp .eq 5, 3) := dk_159 0 5 (dk_at dksX0_goes_22 10 rfl rfl)
theorem dX0_goes_545 : decode cX0_goes 545 = .ok (.iconst (-1), 1) := dk_2 (dk_at dksX0_goes_22 13 rfl rfl)
theorem dX0_goes_546 : decode cX0_goes 546 = .ok (.ireturn, 1) := dk_172 (dk_at dksX0_goes_22 14 rfl rfl)
theorem dX0_goes_547 : decode cX0_goes 547 = .ok (.aload_n 0, 1) := dk_42 (dk_at dksX0_goes_22 15 rfl rfl)
theorem dX0_goes_548 : decode cX0_goes 548 = .ok (.iload 6, 2) := dk_21 6 (dk_at dksX0_goes_22 16 rfl rfl)
theorem dX0_goes_550 : decode cX0_goes 550 = .ok (.iload 20, 2) := dk_21 20 (dk_at dksX0_goes_22 18 rfl rfl)
theorem dX0_goes_552 : decode cX0_goes 552 = .ok (.iload 21, 2) := dk_21 21 (dk_at dksX0_goes_22 20 rfl rfl)
theorem dX0_goes_554 : decode cX0_goes 554 = .ok (.invokevirtual 68, 3) := dk_182 0 68 (dk_at dksX0_goes_23 0 rfl rfl)
theorem dX0_goes_557 : decode cX0_goes 557 = .ok (.aload 16, 2) := dk_25 16 (dk_at dksX0_goes_23 3 rfl rfl)
theorem dX0_goes_559 : decode cX0_goes 559 = .ok (.lload 17, 2) := dk_22 17 (dk_at dksX0_goes_23 5 rfl rfl)
theorem dX0_goes_561 : decode cX0_goes 561 = .ok (.invokestatic 60, 3) := dk_184 0 60 (dk_at dksX0_goes_23 7 rfl rfl)
theorem dX0_goes_564 : decode cX0_goes 564 = .ok (.ifCond .lt 7, 3) := dk_155 0 7 (dk_at dksX0_goes_23 10 rfl rfl)
theorem dX0_goes_567 : decode cX0_goes 567 = .ok (.iconst 1, 1) := dk_4 (dk_at dksX0_goes_23 13 rfl rfl)
theorem dX0_goes_568 : decode cX0_goes 568 = .ok (.goto 4, 3) := dk_167 0 4 (dk_at dksX0_goes_23 14 rfl rfl)
theorem dX0_goes_571 : decode cX0_goes 571 = .ok (.iconst 0, 1) := dk_3 (dk_at dksX0_goes_23 17 rfl rfl)
theorem dX0_goes_572 : decode cX0_goes 572 = .ok (.if_icmp .ne 37, 3) := dk_160 0 37 (dk_at dksX0_goes_23 18 rfl rfl)
theorem dX0_goes_575 : decode cX0_goes 575 = .ok (.aload_n 0, 1) := dk_42 (dk_at dksX0_goes_23 21 rfl rfl)
theorem dX0_goes_576 : decode cX0_goes 576 = .ok (.iload 6, 2) := dk_21 6 (dk_at dksX0_goes_23 22 rfl rfl)
theorem dX0_goes_578 : decode cX0_goes 578 = .ok (.iload 9, 2) := dk_21 9 (dk_at dksX0_goes_24 0 rfl rfl)
theorem dX0_goes_580 : decode cX0_goes 580 = .ok (.invokevirtual 72, 3) := dk_182 0 72 (dk_at dksX0_goes_24 2 rfl rfl)
theorem dX0_goes_583 : decode cX0_goes 583 = .ok (.aload 16, 2) := dk_25 16 (dk_at dksX0_goes_24 5 rfl rfl)
theorem dX0_goes_585 : decode cX0_goes 585 = .ok (.arraylength, 1) := dk_190 (dk_at dksX0_goes_24 7 rfl rfl)
theorem dX0_goes_586 : decode cX0_goes 586 = .ok (.ifCond .ne 7, 3) := dk_154 0 7 (dk_at dksX0_goes_24 8 rfl rfl)
theorem dX0_goes_589 : decode cX0_goes 589 = .ok (.lconst 0, 1) := dk_9 (dk_at dksX0_goes_24 11 rfl rfl)
theorem dX0_goes_590 : decode cX0_goes 590 = .ok (.goto 15, 3) := dk_167 0 15 (dk_at dksX0_goes_24 12 rfl rfl)
theorem dX0_goes_593 : decode cX0_goes 593 = .ok (.aload 16, 2) := dk_25 16 (dk_at dksX0_goes_24 15 rfl rfl)
theorem dX0_goes_595 : decode cX0_goes 595 = .ok (.iload 9, 2) := dk_21 9 (dk_at dksX0_goes_24 17 rfl rfl)
theorem dX0_goes_597 : decode cX0_goes 597 = .ok (.ldc 29, 2) := dk_18 29 (dk_at dksX0_goes_24 19 rfl rfl)
theorem dX0_goes_599 : decode cX0_goes 599 = .ok (.iand, 1) := dk_126 (dk_at dksX0_goes_24 21 rfl rfl)
theorem dX0_goes_600 : decode cX0_goes 600 = .ok (.aload 16, 2) := dk_25 16 (dk_at dksX0_goes_24 22 rfl rfl)
theorem dX0_goes_602 : decode cX0_goes 602 = .ok (.arraylength, 1) := dk_190 (dk_at dksX0_goes_25 0 rfl rfl)
theorem dX0_goes_603 : decode cX0_goes 603 = .ok (.irem, 1) := dk_112 (dk_at dksX0_goes_25 1 rfl rfl)
theorem dX0_goes_604 : decode cX0_goes 604 = .ok (.laload, 1) := dk_47 (dk_at dksX0_goes_25 2 rfl rfl)
theorem dX0_goes_605 : decode cX0_goes 605 = .ok (.lcmp, 1) := dk_148 (dk_at dksX0_goes_25 3 rfl rfl)
theorem dX0_goes_606 : decode cX0_goes 606 = .ok (.ifCond .eq 5, 3) := dk_153 0 5 (dk_at dksX0_goes_25 4 rfl rfl)
theorem dX0_goes_609 : decode cX0_goes 609 = .ok (.iconst (-1), 1) := dk_2 (dk_at dksX0_goes_25 7 rfl rfl)
theorem dX0_goes_610 : decode cX0_goes 610 = .ok (.ireturn, 1) := dk_172 (dk_at dksX0_goes_25 8 rfl rfl)
theorem dX0_goes_611 : decode cX0_goes 611 = .ok (.iload 19, 2) := dk_21 19 (dk_at dksX0_goes_25 9 rfl rfl)
theorem dX0_goes_613 : decode cX0_goes 613 = .ok (.ifCond .ne 10, 3) := dk_154 0 10 (dk_at dksX0_goes_25 11 rfl rfl)
theorem dX0_goes_616 : decode cX0_goes 616 = .ok (.lload 17, 2) := dk_22 17 (dk_at dksX0_goes_25 14 rfl rfl)
theorem dX0_goes_618 : decode cX0_goes 618 = .ok (.lconst 1, 1) := dk_10 (dk_at dksX0_goes_25 16 rfl rfl)
theorem dX0_goes_619 : decode cX0_goes 619 = .ok (.ladd, 1) := dk_97 (dk_at dksX0_goes_25 17 rfl rfl)
theorem dX0_goes_620 : decode cX0_goes 620 = .ok (.goto 10, 3) := dk_167 0 10 (dk_at dksX0_goes_25 18 rfl rfl)
theorem dX0_goes_623 : decode cX0_goes 623 = .ok (.iload 7, 2) := dk_21 7 (dk_at dksX0_goes_25 21 rfl rfl)
theorem dX0_goes_625 : decode cX0_goes 625 = .ok (.iload 8, 2) := dk_21 8 (dk_at dksX0_goes_26 0 rfl rfl)
theorem dX0_goes_627 : decode cX0_goes 627 = .ok (.invokestatic 21, 3) := dk_184 0 21 (dk_at dksX0_goes_26 2 rfl rfl)
theorem dX0_goes_630 : decode cX0_goes 630 = .ok (.lstore 17, 2) := dk_55 17 (dk_at dksX0_goes_26 5 rfl rfl)
theorem dX0_goes_632 : decode cX0_goes 632 = .ok (.iinc 19 1, 3) := dk_132 19 1 (dk_at dksX0_goes_26 7 rfl rfl)
theorem dX0_goes_635 : decode cX0_goes 635 = .ok (.goto (-149), 3) := dk_167 255 107 (dk_at dksX0_goes_26 10 rfl rfl)
theorem dX0_goes_638 : decode cX0_goes 638 = .ok (.iload 11, 2) := dk_21 11 (dk_at dksX0_goes_26 13 rfl rfl)
theorem dX0_goes_640 : decode cX0_goes 640 = .ok (.ireturn, 1) := dk_172 (dk_at dksX0_goes_26 15 rfl rfl)
abbrev cX0_first : ByteArray := method_6_code
def yX0_first : MethodName := ⟨RX0, "first", "([JJ)I"⟩
def dkwX0_first_1 : List UInt8 := [190, 162, 0, 7, 29, 167, 0, 4, 2, 172]
abbrev dktX0_first_1 : List UInt8 := dkwX0_first_1 ++ []
def dkwX0_first_0 : List UInt8 := [3, 62, 29, 42, 190, 162, 0, 17, 42, 29, 47, 31, 148, 153, 0, 9, 132, 3, 1, 167, 255, 239, 29, 42]
abbrev dktX0_first_0 : List UInt8 := dkwX0_first_0 ++ dktX0_first_1
theorem dksX0_first_0 : cX0_first.data.toList.drop 0 = dktX0_first_0 := by decide +kernel
theorem dksX0_first_1 : cX0_first.data.toList.drop 24 = dktX0_first_1 := dk_seg dksX0_first_0 24 rfl rfl
theorem dX0_first_0 : decode cX0_first 0 = .ok (.iconst 0, 1) := dk_3 (dk_at dksX0_first_0 0 rfl rfl)
theorem dX0_first_1 : decode cX0_first 1 = .ok (.istore_n 3, 1) := dk_62 (dk_at dksX0_first_0 1 rfl rfl)
theorem dX0_first_2 : decode cX0_first 2 = .ok (.iload_n 3, 1) := dk_29 (dk_at dksX0_first_0 2 rfl rfl)
theorem dX0_first_3 : decode cX0_first 3 = .ok (.aload_n 0, 1) := dk_42 (dk_at dksX0_first_0 3 rfl rfl)
theorem dX0_first_4 : decode cX0_first 4 = .ok (.arraylength, 1) := dk_190 (dk_at dksX0_first_0 4 rfl rfl)
theorem dX0_first_5 : decode cX0_first 5 = .ok (.if_icmp .ge 17, 3) := dk_162 0 17 (dk_at dksX0_first_0 5 rfl rfl)
theorem dX0_first_8 : decode cX0_first 8 = .ok (.aload_n 0, 1) := dk_42 (dk_at dksX0_first_0 8 rfl rfl)
theorem dX0_first_9 : decode cX0_first 9 = .ok (.iload_n 3, 1) := dk_29 (dk_at dksX0_first_0 9 rfl rfl)
theorem dX0_first_10 : decode cX0_first 10 = .ok (.laload, 1) := dk_47 (dk_at dksX0_first_0 10 rfl rfl)
theorem dX0_first_11 : decode cX0_first 11 = .ok (.lload_n 1, 1) := dk_31 (dk_at dksX0_first_0 11 rfl rfl)
theorem dX0_first_12 : decode cX0_first 12 = .ok (.lcmp, 1) := dk_148 (dk_at dksX0_first_0 12 rfl rfl)
theorem dX0_first_13 : decode cX0_first 13 = .ok (.ifCond .eq 9, 3) := dk_153 0 9 (dk_at dksX0_first_0 13 rfl rfl)
theorem dX0_first_16 : decode cX0_first 16 = .ok (.iinc 3 1, 3) := dk_132 3 1 (dk_at dksX0_first_0 16 rfl rfl)
theorem dX0_first_19 : decode cX0_first 19 = .ok (.goto (-17), 3) := dk_167 255 239 (dk_at dksX0_first_0 19 rfl rfl)
theorem dX0_first_22 : decode cX0_first 22 = .ok (.iload_n 3, 1) := dk_29 (dk_at dksX0_first_0 22 rfl rfl)
theorem dX0_first_23 : decode cX0_first 23 = .ok (.aload_n 0, 1) := dk_42 (dk_at dksX0_first_0 23 rfl rfl)
theorem dX0_first_24 : decode cX0_first 24 = .ok (.arraylength, 1) := dk_190 (dk_at dksX0_first_1 0 rfl rfl)
theorem dX0_first_25 : decode cX0_first 25 = .ok (.if_icmp .ge 7, 3) := dk_162 0 7 (dk_at dksX0_first_1 1 rfl rfl)
theorem dX0_first_28 : decode cX0_first 28 = .ok (.iload_n 3, 1) := dk_29 (dk_at dksX0_first_1 4 rfl rfl)
theorem dX0_first_29 : decode cX0_first 29 = .ok (.goto 4, 3) := dk_167 0 4 (dk_at dksX0_first_1 5 rfl rfl)
theorem dX0_first_32 : decode cX0_first 32 = .ok (.iconst (-1), 1) := dk_2 (dk_at dksX0_first_1 8 rfl rfl)
theorem dX0_first_33 : decode cX0_first 33 = .ok (.ireturn, 1) := dk_172 (dk_at dksX0_first_1 9 rfl rfl)
abbrev cX0_last : ByteArray := method_7_code
def yX0_last : MethodName := ⟨RX0, "last", "([JJ)I"⟩
def dkwX0_last_1 : List UInt8 := [172]
abbrev dktX0_last_1 : List UInt8 := dkwX0_last_1 ++ []
def dkwX0_last_0 : List UInt8 := [42, 190, 4, 100, 62, 29, 155, 0, 17, 42, 29, 47, 31, 148, 153, 0, 9, 132, 3, 255, 167, 255, 241, 29]
abbrev dktX0_last_0 : List UInt8 := dkwX0_last_0 ++ dktX0_last_1
theorem dksX0_last_0 : cX0_last.data.toList.drop 0 = dktX0_last_0 := by decide +kernel
theorem dksX0_last_1 : cX0_last.data.toList.drop 24 = dktX0_last_1 := dk_seg dksX0_last_0 24 rfl rfl
theorem dX0_last_0 : decode cX0_last 0 = .ok (.aload_n 0, 1) := dk_42 (dk_at dksX0_last_0 0 rfl rfl)
theorem dX0_last_1 : decode cX0_last 1 = .ok (.arraylength, 1) := dk_190 (dk_at dksX0_last_0 1 rfl rfl)
theorem dX0_last_2 : decode cX0_last 2 = .ok (.iconst 1, 1) := dk_4 (dk_at dksX0_last_0 2 rfl rfl)
theorem dX0_last_3 : decode cX0_last 3 = .ok (.isub, 1) := dk_100 (dk_at dksX0_last_0 3 rfl rfl)
theorem dX0_last_4 : decode cX0_last 4 = .ok (.istore_n 3, 1) := dk_62 (dk_at dksX0_last_0 4 rfl rfl)
theorem dX0_last_5 : decode cX0_last 5 = .ok (.iload_n 3, 1) := dk_29 (dk_at dksX0_last_0 5 rfl rfl)
theorem dX0_last_6 : decode cX0_last 6 = .ok (.ifCond .lt 17, 3) := dk_155 0 17 (dk_at dksX0_last_0 6 rfl rfl)
theorem dX0_last_9 : decode cX0_last 9 = .ok (.aload_n 0, 1) := dk_42 (dk_at dksX0_last_0 9 rfl rfl)
theorem dX0_last_10 : decode cX0_last 10 = .ok (.iload_n 3, 1) := dk_29 (dk_at dksX0_last_0 10 rfl rfl)
theorem dX0_last_11 : decode cX0_last 11 = .ok (.laload, 1) := dk_47 (dk_at dksX0_last_0 11 rfl rfl)
theorem dX0_last_12 : decode cX0_last 12 = .ok (.lload_n 1, 1) := dk_31 (dk_at dksX0_last_0 12 rfl rfl)
theorem dX0_last_13 : decode cX0_last 13 = .ok (.lcmp, 1) := dk_148 (dk_at dksX0_last_0 13 rfl rfl)
theorem dX0_last_14 : decode cX0_last 14 = .ok (.ifCond .eq 9, 3) := dk_153 0 9 (dk_at dksX0_last_0 14 rfl rfl)
theorem dX0_last_17 : decode cX0_last 17 = .ok (.iinc 3 (-1), 3) := dk_132 3 255 (dk_at dksX0_last_0 17 rfl rfl)
theorem dX0_last_20 : decode cX0_last 20 = .ok (.goto (-15), 3) := dk_167 255 241 (dk_at dksX0_last_0 20 rfl rfl)
theorem dX0_last_23 : decode cX0_last 23 = .ok (.iload_n 3, 1) := dk_29 (dk_at dksX0_last_0 23 rfl rfl)
theorem dX0_last_24 : decode cX0_last 24 = .ok (.ireturn, 1) := dk_172 (dk_at dksX0_last_1 0 rfl rfl)
theorem q3 : (Jvm.Cond.initialized "FixedRowDeskLaw") ∈ lw_all := lw_g (lw_at lw_m1 0 rfl) rfl
theorem q20 : (Jvm.Cond.classLink "FixedRowDeskLaw" (14 : Nat) "FixedRowDesk") ∈ lw_all := lw_g (lw_at lw_m1 17 rfl) rfl
theorem q22 : (Jvm.Cond.methodLink "FixedRowDeskLaw" (75 : Nat) ({ cls := "FixedRowDesk", name := "<init>", desc := "()V" } : Jvm.MethodName)) ∈ lw_all := lw_g (lw_at lw_m1 19 rfl) rfl
theorem q153 : (Jvm.Cond.methodLink "FixedRowDeskLaw" (34 : Nat) ({ cls := "FixedRowDesk", name := "addRow", desc := "(I)Z" } : Jvm.MethodName)) ∈ lw_all := lw_g (lw_at lw_m1 150 rfl) rfl
theorem q215 : (Jvm.Cond.methodLink "FixedRowDeskLaw" (42 : Nat) ({ cls := "FixedRowDesk", name := "build", desc := "(I)I" } : Jvm.MethodName)) ∈ lw_all := lw_g (lw_at lw_m1 212 rfl) rfl
theorem q226 : (Jvm.Cond.methodLink "FixedRowDeskLaw" (50 : Nat) ({ cls := "FixedRowDesk", name := "anew", desc := "(I)V" } : Jvm.MethodName)) ∈ lw_all := lw_g (lw_at lw_m1 223 rfl) rfl
theorem q230 : (Jvm.Cond.methodLink "FixedRowDeskLaw" (53 : Nat) ({ cls := "FixedRowDesk", name := "part", desc := "(IIII)I" } : Jvm.MethodName)) ∈ lw_all := lw_g (lw_at lw_m1 227 rfl) rfl
theorem q258 : (Jvm.Cond.methodLink "FixedRowDeskLaw" (72 : Nat) ({ cls := "FixedRowDesk", name := "get", desc := "(II)J" } : Jvm.MethodName)) ∈ lw_all := lw_g (lw_at lw_m2 15 rfl) rfl
theorem q277 : (Jvm.Cond.methodLink "FixedRowDeskLaw" (56 : Nat) ({ cls := "FixedRowDesk", name := "first", desc := "(III)I" } : Jvm.MethodName)) ∈ lw_all := lw_g (lw_at lw_m2 34 rfl) rfl
theorem q289 : (Jvm.Cond.methodLink "FixedRowDeskLaw" (63 : Nat) ({ cls := "FixedRowDesk", name := "last", desc := "(III)I" } : Jvm.MethodName)) ∈ lw_all := lw_g (lw_at lw_m2 46 rfl) rfl
theorem q297 : (Jvm.Cond.methodLink "FixedRowDeskLaw" (82 : Nat) ({ cls := "FixedRowDesk", name := "length", desc := "(I)I" } : Jvm.MethodName)) ∈ lw_all := lw_g (lw_at lw_m2 54 rfl) rfl
theorem q301 : (Jvm.Cond.methodLink "FixedRowDeskLaw" (98 : Nat) ({ cls := "FixedRowDesk", name := "same", desc := "(II)Z" } : Jvm.MethodName)) ∈ lw_all := lw_g (lw_at lw_m2 58 rfl) rfl
theorem q310 : (Jvm.Cond.methodLink "FixedRowDeskLaw" (85 : Nat) ({ cls := "FixedRowDesk", name := "hash", desc := "(I)I" } : Jvm.MethodName)) ∈ lw_all := lw_g (lw_at lw_m2 67 rfl) rfl
theorem q321 : (Jvm.Cond.methodLink "FixedRowDeskLaw" (91 : Nat) ({ cls := "FixedRowDesk", name := "whole", desc := "(I)J" } : Jvm.MethodName)) ∈ lw_all := lw_g (lw_at lw_m2 78 rfl) rfl
theorem q339 : (Jvm.Cond.methodLink "FixedRowDeskLaw" (25 : Nat) ({ cls := "FixedRowDeskLaw", name := "cell", desc := "([II)I" } : Jvm.MethodName)) ∈ lw_all := lw_g (lw_at lw_m2 96 rfl) rfl
theorem q340 : (Jvm.Cond.static ({ cls := "FixedRowDeskLaw", name := "cell", desc := "([II)I" } : Jvm.MethodName)) ∈ lw_all := lw_g (lw_at lw_m2 97 rfl) rfl
theorem q341 : (Jvm.Cond.code ({ cls := "FixedRowDeskLaw", name := "cell", desc := "([II)I" } : Jvm.MethodName) method_2_code (2 : Nat) (Option.some Jvm.ClassFile.FieldType.int)) ∈ lw_all := lw_g (lw_at lw_m2 98 rfl) rfl
theorem q342 : (Jvm.Cond.methodLink "FixedRowDeskLaw" (38 : Nat) ({ cls := "FixedRowDeskLaw", name := "part", desc := "([JII)[J" } : Jvm.MethodName)) ∈ lw_all := lw_g (lw_at lw_m2 99 rfl) rfl
theorem q343 : (Jvm.Cond.static ({ cls := "FixedRowDeskLaw", name := "part", desc := "([JII)[J" } : Jvm.MethodName)) ∈ lw_all := lw_g (lw_at lw_m2 100 rfl) rfl
theorem q344 : (Jvm.Cond.code ({ cls := "FixedRowDeskLaw", name := "part", desc := "([JII)[J" } : Jvm.MethodName) method_4_code (5 : Nat) (Option.some (Jvm.ClassFile.FieldType.array Jvm.ClassFile.FieldType.long))) ∈ lw_all := lw_g (lw_at lw_m2 101 rfl) rfl
theorem q345 : (Jvm.Cond.methodLink "FixedRowDeskLaw" (101 : Nat) ({ cls := "FixedRowDeskLaw", name := "isAlike", desc := "([J[J)Z" } : Jvm.MethodName)) ∈ lw_all := lw_g (lw_at lw_m2 102 rfl) rfl
theorem q346 : (Jvm.Cond.static ({ cls := "FixedRowDeskLaw", name := "isAlike", desc := "([J[J)Z" } : Jvm.MethodName)) ∈ lw_all := lw_g (lw_at lw_m2 103 rfl) rfl
theorem q347 : (Jvm.Cond.code ({ cls := "FixedRowDeskLaw", name := "isAlike", desc := "([J[J)Z" } : Jvm.MethodName) method_5_code (3 : Nat) (Option.some Jvm.ClassFile.FieldType.boolean)) ∈ lw_all := lw_g (lw_at lw_m2 104 rfl) rfl
theorem q348 : (Jvm.Cond.methodLink "FixedRowDeskLaw" (88 : Nat) ({ cls := "FixedRowDeskLaw", name := "hash", desc := "([J)I" } : Jvm.MethodName)) ∈ lw_all := lw_g (lw_at lw_m2 105 rfl) rfl
theorem q349 : (Jvm.Cond.static ({ cls := "FixedRowDeskLaw", name := "hash", desc := "([J)I" } : Jvm.MethodName)) ∈ lw_all := lw_g (lw_at lw_m2 106 rfl) rfl
theorem q350 : (Jvm.Cond.code ({ cls := "FixedRowDeskLaw", name := "hash", desc := "([J)I" } : Jvm.MethodName) method_8_code (3 : Nat) (Option.some Jvm.ClassFile.FieldType.int)) ∈ lw_all := lw_g (lw_at lw_m2 107 rfl) rfl
theorem q351 : (Jvm.Cond.methodLink "FixedRowDeskLaw" (95 : Nat) ({ cls := "FixedRowDeskLaw", name := "whole", desc := "([J)J" } : Jvm.MethodName)) ∈ lw_all := lw_g (lw_at lw_m2 108 rfl) rfl
theorem q352 : (Jvm.Cond.static ({ cls := "FixedRowDeskLaw", name := "whole", desc := "([J)J" } : Jvm.MethodName)) ∈ lw_all := lw_g (lw_at lw_m2 109 rfl) rfl
theorem q353 : (Jvm.Cond.code ({ cls := "FixedRowDeskLaw", name := "whole", desc := "([J)J" } : Jvm.MethodName) method_9_code (4 : Nat) (Option.some Jvm.ClassFile.FieldType.long)) ∈ lw_all := lw_g (lw_at lw_m2 110 rfl) rfl
theorem q354 : (Jvm.Cond.constantLong "FixedRowDeskLaw" (11 : Nat) (31 : Int64)) ∈ lw_all := lw_g (lw_at lw_m2 111 rfl) rfl
theorem q355 : (Jvm.Cond.methodLink "FixedRowDeskLaw" (30 : Nat) ({ cls := "FixedRowDeskLaw", name := "adds", desc := "(LFixedRowDesk;[JIII)I" } : Jvm.MethodName)) ∈ lw_all := lw_g (lw_at lw_m2 112 rfl) rfl
theorem q356 : (Jvm.Cond.static ({ cls := "FixedRowDeskLaw", name := "adds", desc := "(LFixedRowDesk;[JIII)I" } : Jvm.MethodName)) ∈ lw_all := lw_g (lw_at lw_m2 113 rfl) rfl
theorem q357 : (Jvm.Cond.code ({ cls := "FixedRowDeskLaw", name := "adds", desc := "(LFixedRowDesk;[JIII)I" } : Jvm.MethodName) method_10_code (5 : Nat) (Option.some Jvm.ClassFile.FieldType.int)) ∈ lw_all := lw_g (lw_at lw_m2 114 rfl) rfl
theorem q358 : (Jvm.Cond.methodLink "FixedRowDeskLaw" (13 : Nat) ({ cls := "FixedRowDesk", name := "add", desc := "(II)Z" } : Jvm.MethodName)) ∈ lw_all := lw_g (lw_at lw_m2 115 rfl) rfl
theorem q366 : (Jvm.Cond.methodLink "FixedRowDeskLaw" (21 : Nat) ({ cls := "FixedRowDeskLaw", name := "of", desc := "(II)J" } : Jvm.MethodName)) ∈ lw_all := lw_g (lw_at lw_m2 123 rfl) rfl
theorem q367 : (Jvm.Cond.static ({ cls := "FixedRowDeskLaw", name := "of", desc := "(II)J" } : Jvm.MethodName)) ∈ lw_all := lw_g (lw_at lw_m2 124 rfl) rfl
theorem q368 : (Jvm.Cond.code ({ cls := "FixedRowDeskLaw", name := "of", desc := "(II)J" } : Jvm.MethodName) method_3_code (2 : Nat) (Option.some Jvm.ClassFile.FieldType.long)) ∈ lw_all := lw_g (lw_at lw_m2 125 rfl) rfl
theorem q369 : (Jvm.Cond.constantLong "FixedRowDeskLaw" (7 : Nat) (4294967296 : Int64)) ∈ lw_all := lw_g (lw_at lw_m2 126 rfl) rfl
theorem q370 : (Jvm.Cond.constantLong "FixedRowDeskLaw" (9 : Nat) (4294967295 : Int64)) ∈ lw_all := lw_g (lw_at lw_m2 127 rfl) rfl
theorem q371 : (Jvm.Cond.methodLink "FixedRowDeskLaw" (78 : Nat) ({ cls := "FixedRowDeskLaw", name := "goes", desc := "(LFixedRowDesk;[[J[JI[II)I" } : Jvm.MethodName)) ∈ lw_all := lw_g (lw_at lw_m2 128 rfl) rfl
theorem q372 : (Jvm.Cond.static ({ cls := "FixedRowDeskLaw", name := "goes", desc := "(LFixedRowDesk;[[J[JI[II)I" } : Jvm.MethodName)) ∈ lw_all := lw_g (lw_at lw_m2 129 rfl) rfl
theorem q373 : (Jvm.Cond.code ({ cls := "FixedRowDeskLaw", name := "goes", desc := "(LFixedRowDesk;[[J[JI[II)I" } : Jvm.MethodName) method_11_code (22 : Nat) (Option.some Jvm.ClassFile.FieldType.int)) ∈ lw_all := lw_g (lw_at lw_m2 130 rfl) rfl
theorem q374 : (Jvm.Cond.constant "FixedRowDeskLaw" (29 : Nat) (2147483647 : Int32)) ∈ lw_all := lw_g (lw_at lw_m2 131 rfl) rfl
theorem q375 : (Jvm.Cond.methodLink "FixedRowDeskLaw" (46 : Nat) ({ cls := "FixedRowDesk", name := "trim", desc := "(I)V" } : Jvm.MethodName)) ∈ lw_all := lw_g (lw_at lw_m2 132 rfl) rfl
theorem q388 : (Jvm.Cond.methodLink "FixedRowDeskLaw" (60 : Nat) ({ cls := "FixedRowDeskLaw", name := "first", desc := "([JJ)I" } : Jvm.MethodName)) ∈ lw_all := lw_g (lw_at lw_m2 145 rfl) rfl
theorem q389 : (Jvm.Cond.static ({ cls := "FixedRowDeskLaw", name := "first", desc := "([JJ)I" } : Jvm.MethodName)) ∈ lw_all := lw_g (lw_at lw_m2 146 rfl) rfl
theorem q390 : (Jvm.Cond.code ({ cls := "FixedRowDeskLaw", name := "first", desc := "([JJ)I" } : Jvm.MethodName) method_6_code (4 : Nat) (Option.some Jvm.ClassFile.FieldType.int)) ∈ lw_all := lw_g (lw_at lw_m2 147 rfl) rfl
theorem q391 : (Jvm.Cond.methodLink "FixedRowDeskLaw" (66 : Nat) ({ cls := "FixedRowDeskLaw", name := "last", desc := "([JJ)I" } : Jvm.MethodName)) ∈ lw_all := lw_g (lw_at lw_m2 148 rfl) rfl
theorem q392 : (Jvm.Cond.static ({ cls := "FixedRowDeskLaw", name := "last", desc := "([JJ)I" } : Jvm.MethodName)) ∈ lw_all := lw_g (lw_at lw_m2 149 rfl) rfl
theorem q393 : (Jvm.Cond.code ({ cls := "FixedRowDeskLaw", name := "last", desc := "([JJ)I" } : Jvm.MethodName) method_7_code (4 : Nat) (Option.some Jvm.ClassFile.FieldType.int)) ∈ lw_all := lw_g (lw_at lw_m2 150 rfl) rfl
theorem q394 : (Jvm.Cond.methodLink "FixedRowDeskLaw" (68 : Nat) ({ cls := "FixedRowDesk", name := "holds", desc := "(III)Z" } : Jvm.MethodName)) ∈ lw_all := lw_g (lw_at lw_m2 151 rfl) rfl
theorem q403 : (Jvm.Cond.classLink "FixedRowDeskLaw" (76 : Nat) "[J") ∈ lw_all := lw_g (lw_at lw_m2 160 rfl) rfl
end
section
/-! the law's own entry -/
set_option maxRecDepth 100000
abbrev cL_law : ByteArray := code
def dkwL_law_32 : List UInt8 := [184, 0, 38, 184, 0, 88, 160, 0, 7, 4, 167, 0, 4, 3, 172]
abbrev dktL_law_32 : List UInt8 := dkwL_law_32 ++ []
def dkwL_law_31 : List UInt8 := [21, 5, 182, 0, 85, 43, 21, 6, 182, 0, 85, 160, 0, 26, 43, 21, 5, 182, 0, 85, 45, 3, 21, 7]
abbrev dktL_law_31 : List UInt8 := dkwL_law_31 ++ dktL_law_32
def dkwL_law_30 : List UInt8 := [172, 43, 21, 5, 21, 6, 182, 0, 98, 153, 0, 52, 43, 21, 6, 21, 5, 182, 0, 98, 153, 0, 41, 43]
abbrev dktL_law_30 : List UInt8 := dkwL_law_30 ++ dktL_law_31
def dkwL_law_29 : List UInt8 := [153, 0, 23, 43, 21, 14, 182, 0, 34, 153, 0, 14, 43, 21, 5, 182, 0, 42, 21, 7, 159, 0, 5, 3]
abbrev dktL_law_29 : List UInt8 := dkwL_law_29 ++ dktL_law_30
def dkwL_law_28 : List UInt8 := [21, 15, 159, 0, 5, 3, 172, 43, 42, 16, 95, 184, 0, 25, 182, 0, 50, 43, 21, 13, 182, 0, 34]
abbrev dktL_law_28 : List UInt8 := dkwL_law_28 ++ dktL_law_29
def dkwL_law_27 : List UInt8 := [43, 21, 6, 21, 11, 21, 12, 182, 0, 63, 21, 16, 155, 0, 11, 21, 16, 21, 8, 96, 167, 0, 5]
abbrev dktL_law_27 : List UInt8 := dkwL_law_27 ++ dktL_law_28
def dkwL_law_26 : List UInt8 := [43, 21, 13, 21, 11, 21, 12, 182, 0, 63, 54, 15, 43, 21, 14, 21, 11, 21, 12, 182, 0, 63, 54, 16]
abbrev dktL_law_26 : List UInt8 := dkwL_law_26 ++ dktL_law_27
def dkwL_law_25 : List UInt8 := [21, 15, 167, 0, 17, 21, 16, 155, 0, 11, 21, 16, 21, 8, 96, 167, 0, 4, 2, 159, 0, 5, 3, 172]
abbrev dktL_law_25 : List UInt8 := dkwL_law_25 ++ dktL_law_26
def dkwL_law_24 : List UInt8 := [182, 0, 56, 54, 16, 43, 21, 6, 21, 11, 21, 12, 182, 0, 56, 54, 17, 21, 17, 21, 15, 155, 0, 8]
abbrev dktL_law_24 : List UInt8 := dkwL_law_24 ++ dktL_law_25
def dkwL_law_23 : List UInt8 := [159, 0, 5, 3, 172, 43, 21, 13, 21, 11, 21, 12, 182, 0, 56, 54, 15, 43, 21, 14, 21, 11, 21, 12]
abbrev dktL_law_23 : List UInt8 := dkwL_law_23 ++ dktL_law_24
def dkwL_law_22 : List UInt8 := [160, 0, 26, 43, 21, 14, 21, 6, 21, 8, 21, 7, 21, 8, 100, 182, 0, 53, 21, 7, 21, 8, 100]
abbrev dktL_law_22 : List UInt8 := dkwL_law_22 ++ dktL_law_23
def dkwL_law_21 : List UInt8 := [5, 96, 54, 13, 21, 5, 6, 96, 54, 14, 43, 21, 13, 21, 6, 3, 21, 8, 182, 0, 53, 21, 8]
abbrev dktL_law_21 : List UInt8 := dkwL_law_21 ++ dktL_law_22
def dkwL_law_20 : List UInt8 := [18, 29, 126, 21, 7, 112, 47, 55, 9, 22, 9, 16, 32, 123, 136, 54, 11, 22, 9, 136, 54, 12, 21, 5]
abbrev dktL_law_20 : List UInt8 := dkwL_law_20 ++ dktL_law_21
def dkwL_law_19 : List UInt8 := [21, 7, 4, 96, 112, 54, 8, 21, 7, 154, 0, 7, 9, 167, 0, 17, 45, 42, 16, 94, 184, 0, 25]
abbrev dktL_law_19 : List UInt8 := dkwL_law_19 ++ dktL_law_20
def dkwL_law_18 : List UInt8 := [21, 8, 47, 148, 153, 0, 5, 3, 172, 132, 8, 1, 167, 255, 205, 42, 16, 93, 184, 0, 25, 18, 29, 126]
abbrev dktL_law_18 : List UInt8 := dkwL_law_18 ++ dktL_law_19
def dkwL_law_17 : List UInt8 := [45, 21, 8, 47, 148, 154, 0, 26, 21, 8, 21, 4, 162, 0, 21, 43, 21, 5, 21, 8, 182, 0, 72, 45]
abbrev dktL_law_17 : List UInt8 := dkwL_law_17 ++ dktL_law_18
def dkwL_law_16 : List UInt8 := [3, 159, 0, 5, 3, 172, 3, 54, 8, 21, 8, 21, 7, 162, 0, 50, 43, 21, 6, 21, 8, 182, 0, 72]
abbrev dktL_law_16 : List UInt8 := dkwL_law_16 ++ dktL_law_17
def dkwL_law_15 : List UInt8 := [21, 4, 160, 0, 26, 43, 21, 5, 21, 6, 182, 0, 98, 21, 7, 21, 4, 160, 0, 7, 4, 167, 0, 4]
abbrev dktL_law_15 : List UInt8 := dkwL_law_15 ++ dktL_law_16
def dkwL_law_14 : List UInt8 := [54, 7, 21, 7, 155, 0, 48, 43, 21, 6, 182, 0, 42, 21, 7, 160, 0, 37, 43, 21, 5, 182, 0, 82]
abbrev dktL_law_14 : List UInt8 := dkwL_law_14 ++ dktL_law_15
def dkwL_law_13 : List UInt8 := [153, 0, 5, 3, 172, 43, 45, 21, 4, 42, 16, 91, 184, 0, 25, 42, 16, 92, 184, 0, 25, 184, 0, 30]
abbrev dktL_law_13 : List UInt8 := dkwL_law_13 ++ dktL_law_14
def dkwL_law_12 : List UInt8 := [21, 4, 160, 0, 23, 43, 21, 5, 182, 0, 91, 45, 3, 21, 4, 184, 0, 38, 184, 0, 95, 148]
abbrev dktL_law_12 : List UInt8 := dkwL_law_12 ++ dktL_law_13
def dkwL_law_11 : List UInt8 := [167, 255, 48, 42, 16, 90, 184, 0, 25, 54, 5, 21, 5, 4, 96, 54, 6, 43, 21, 5, 182, 0, 42]
abbrev dktL_law_11 : List UInt8 := dkwL_law_11 ++ dktL_law_12
def dkwL_law_10 : List UInt8 := [184, 0, 101, 159, 0, 5, 3, 172, 132, 7, 1, 167, 255, 223, 132, 6, 1, 167, 255, 87, 132, 5, 1]
abbrev dktL_law_10 : List UInt8 := dkwL_law_10 ++ dktL_law_11
def dkwL_law_9 : List UInt8 := [54, 7, 21, 7, 7, 162, 0, 33, 43, 21, 7, 21, 6, 182, 0, 98, 44, 21, 7, 50, 44, 21, 6, 50]
abbrev dktL_law_9 : List UInt8 := dkwL_law_9 ++ dktL_law_10
def dkwL_law_8 : List UInt8 := [182, 0, 72, 44, 21, 6, 50, 21, 7, 47, 148, 153, 0, 5, 3, 172, 132, 7, 1, 167, 255, 222, 3]
abbrev dktL_law_8 : List UInt8 := dkwL_law_8 ++ dktL_law_9
def dkwL_law_7 : List UInt8 := [153, 0, 5, 3, 172, 3, 54, 7, 21, 7, 44, 21, 6, 50, 190, 162, 0, 30, 43, 21, 6, 21, 7]
abbrev dktL_law_7 : List UInt8 := dkwL_law_7 ++ dktL_law_8
def dkwL_law_6 : List UInt8 := [154, 0, 27, 43, 21, 6, 42, 16, 6, 21, 5, 104, 8, 96, 184, 0, 25, 182, 0, 72, 9, 148]
abbrev dktL_law_6 : List UInt8 := dkwL_law_6 ++ dktL_law_7
def dkwL_law_5 : List UInt8 := [43, 21, 6, 182, 0, 91, 44, 21, 6, 50, 184, 0, 95, 148, 153, 0, 5, 3, 172, 44, 21, 6, 50, 190]
abbrev dktL_law_5 : List UInt8 := dkwL_law_5 ++ dktL_law_6
def dkwL_law_4 : List UInt8 := [44, 21, 6, 50, 190, 160, 0, 36, 43, 21, 6, 182, 0, 85, 44, 21, 6, 50, 184, 0, 88, 160, 0, 20]
abbrev dktL_law_4 : List UInt8 := dkwL_law_4 ++ dktL_law_5
def dkwL_law_3 : List UInt8 := [54, 4, 21, 4, 156, 0, 5, 3, 172, 3, 54, 6, 21, 6, 7, 162, 0, 169, 43, 21, 6, 182, 0, 82]
abbrev dktL_law_3 : List UInt8 := dkwL_law_3 ++ dktL_law_4
def dkwL_law_2 : List UInt8 := [54, 5, 21, 5, 16, 15, 162, 0, 207, 43, 44, 45, 21, 4, 42, 16, 6, 21, 5, 104, 184, 0, 78]
abbrev dktL_law_2 : List UInt8 := dkwL_law_2 ++ dktL_law_3
def dkwL_law_1 : List UInt8 := [188, 11, 89, 3, 29, 133, 80, 83, 132, 3, 1, 167, 255, 237, 16, 96, 188, 11, 78, 3, 54, 4, 3]
abbrev dktL_law_1 : List UInt8 := dkwL_law_1 ++ dktL_law_2
def dkwL_law_0 : List UInt8 := [187, 0, 14, 89, 183, 0, 75, 76, 7, 189, 0, 76, 77, 3, 62, 29, 7, 162, 0, 20, 44, 29, 4]
abbrev dktL_law_0 : List UInt8 := dkwL_law_0 ++ dktL_law_1
theorem dksL_law_0 : cL_law.data.toList.drop 0 = dktL_law_0 := by decide +kernel
theorem dksL_law_1 : cL_law.data.toList.drop 23 = dktL_law_1 := dk_seg dksL_law_0 23 rfl rfl
theorem dksL_law_2 : cL_law.data.toList.drop 46 = dktL_law_2 := dk_seg dksL_law_1 23 rfl rfl
theorem dksL_law_3 : cL_law.data.toList.drop 69 = dktL_law_3 := dk_seg dksL_law_2 23 rfl rfl
theorem dksL_law_4 : cL_law.data.toList.drop 93 = dktL_law_4 := dk_seg dksL_law_3 24 rfl rfl
theorem dksL_law_5 : cL_law.data.toList.drop 117 = dktL_law_5 := dk_seg dksL_law_4 24 rfl rfl
theorem dksL_law_6 : cL_law.data.toList.drop 141 = dktL_law_6 := dk_seg dksL_law_5 24 rfl rfl
theorem dksL_law_7 : cL_law.data.toList.drop 163 = dktL_law_7 := dk_seg dksL_law_6 22 rfl rfl
theorem dksL_law_8 : cL_law.data.toList.drop 186 = dktL_law_8 := dk_seg dksL_law_7 23 rfl rfl
theorem dksL_law_9 : cL_law.data.toList.drop 209 = dktL_law_9 := dk_seg dksL_law_8 23 rfl rfl
theorem dksL_law_10 : cL_law.data.toList.drop 233 = dktL_law_10 := dk_seg dksL_law_9 24 rfl rfl
theorem dksL_law_11 : cL_law.data.toList.drop 256 = dktL_law_11 := dk_seg dksL_law_10 23 rfl rfl
theorem dksL_law_12 : cL_law.data.toList.drop 279 = dktL_law_12 := dk_seg dksL_law_11 23 rfl rfl
theorem dksL_law_13 : cL_law.data.toList.drop 301 = dktL_law_13 := dk_seg dksL_law_12 22 rfl rfl
theorem dksL_law_14 : cL_law.data.toList.drop 325 = dktL_law_14 := dk_seg dksL_law_13 24 rfl rfl
theorem dksL_law_15 : cL_law.data.toList.drop 349 = dktL_law_15 := dk_seg dksL_law_14 24 rfl rfl
theorem dksL_law_16 : cL_law.data.toList.drop 373 = dktL_law_16 := dk_seg dksL_law_15 24 rfl rfl
theorem dksL_law_17 : cL_law.data.toList.drop 397 = dktL_law_17 := dk_seg dksL_law_16 24 rfl rfl
theorem dksL_law_18 : cL_law.data.toList.drop 421 = dktL_law_18 := dk_seg dksL_law_17 24 rfl rfl
theorem dksL_law_19 : cL_law.data.toList.drop 445 = dktL_law_19 := dk_seg dksL_law_18 24 rfl rfl
theorem dksL_law_20 : cL_law.data.toList.drop 468 = dktL_law_20 := dk_seg dksL_law_19 23 rfl rfl
theorem dksL_law_21 : cL_law.data.toList.drop 492 = dktL_law_21 := dk_seg dksL_law_20 24 rfl rfl
theorem dksL_law_22 : cL_law.data.toList.drop 515 = dktL_law_22 := dk_seg dksL_law_21 23 rfl rfl
theorem dksL_law_23 : cL_law.data.toList.drop 538 = dktL_law_23 := dk_seg dksL_law_22 23 rfl rfl
theorem dksL_law_24 : cL_law.data.toList.drop 562 = dktL_law_24 := dk_seg dksL_law_23 24 rfl rfl
theorem dksL_law_25 : cL_law.data.toList.drop 586 = dktL_law_25 := dk_seg dksL_law_24 24 rfl rfl
theorem dksL_law_26 : cL_law.data.toList.drop 610 = dktL_law_26 := dk_seg dksL_law_25 24 rfl rfl
theorem dksL_law_27 : cL_law.data.toList.drop 634 = dktL_law_27 := dk_seg dksL_law_26 24 rfl rfl
theorem dksL_law_28 : cL_law.data.toList.drop 657 = dktL_law_28 := dk_seg dksL_law_27 23 rfl rfl
theorem dksL_law_29 : cL_law.data.toList.drop 680 = dktL_law_29 := dk_seg dksL_law_28 23 rfl rfl
theorem dksL_law_30 : cL_law.data.toList.drop 704 = dktL_law_30 := dk_seg dksL_law_29 24 rfl rfl
theorem dksL_law_31 : cL_law.data.toList.drop 728 = dktL_law_31 := dk_seg dksL_law_30 24 rfl rfl
theorem dksL_law_32 : cL_law.data.toList.drop 752 = dktL_law_32 := dk_seg dksL_law_31 24 rfl rfl
theorem dL_law_0 : decode cL_law 0 = .ok (.new 14, 3) := dk_187 0 14 (dk_at dksL_law_0 0 rfl rfl)
theorem dL_law_3 : decode cL_law 3 = .ok (.dup, 1) := dk_89 (dk_at dksL_law_0 3 rfl rfl)
theorem dL_law_4 : decode cL_law 4 = .ok (.invokespecial 75, 3) := dk_183 0 75 (dk_at dksL_law_0 4 rfl rfl)
theorem dL_law_7 : decode cL_law 7 = .ok (.astore_n 1, 1) := dk_76 (dk_at dksL_law_0 7 rfl rfl)
theorem dL_law_8 : decode cL_law 8 = .ok (.iconst 4, 1) := dk_7 (dk_at dksL_law_0 8 rfl rfl)
theorem dL_law_9 : decode cL_law 9 = .ok (.anewarray 76, 3) := dk_189 0 76 (dk_at dksL_law_0 9 rfl rfl)
theorem dL_law_12 : decode cL_law 12 = .ok (.astore_n 2, 1) := dk_77 (dk_at dksL_law_0 12 rfl rfl)
theorem dL_law_13 : decode cL_law 13 = .ok (.iconst 0, 1) := dk_3 (dk_at dksL_law_0 13 rfl rfl)
theorem dL_law_14 : decode cL_law 14 = .ok (.istore_n 3, 1) := dk_62 (dk_at dksL_law_0 14 rfl rfl)
theorem dL_law_15 : decode cL_law 15 = .ok (.iload_n 3, 1) := dk_29 (dk_at dksL_law_0 15 rfl rfl)
theorem dL_law_16 : decode cL_law 16 = .ok (.iconst 4, 1) := dk_7 (dk_at dksL_law_0 16 rfl rfl)
theorem dL_law_17 : decode cL_law 17 = .ok (.if_icmp .ge 20, 3) := dk_162 0 20 (dk_at dksL_law_0 17 rfl rfl)
theorem dL_law_20 : decode cL_law 20 = .ok (.aload_n 2, 1) := dk_44 (dk_at dksL_law_0 20 rfl rfl)
theorem dL_law_21 : decode cL_law 21 = .ok (.iload_n 3, 1) := dk_29 (dk_at dksL_law_0 21 rfl rfl)
theorem dL_law_22 : decode cL_law 22 = .ok (.iconst 1, 1) := dk_4 (dk_at dksL_law_0 22 rfl rfl)
theorem dL_law_23 : decode cL_law 23 = .ok (.newarray .long, 2) := dk_188_11 (dk_at dksL_law_1 0 rfl rfl)
theorem dL_law_25 : decode cL_law 25 = .ok (.dup, 1) := dk_89 (dk_at dksL_law_1 2 rfl rfl)
theorem dL_law_26 : decode cL_law 26 = .ok (.iconst 0, 1) := dk_3 (dk_at dksL_law_1 3 rfl rfl)
theorem dL_law_27 : decode cL_law 27 = .ok (.iload_n 3, 1) := dk_29 (dk_at dksL_law_1 4 rfl rfl)
theorem dL_law_28 : decode cL_law 28 = .ok (.i2l, 1) := dk_133 (dk_at dksL_law_1 5 rfl rfl)
theorem dL_law_29 : decode cL_law 29 = .ok (.lastore, 1) := dk_80 (dk_at dksL_law_1 6 rfl rfl)
theorem dL_law_30 : decode cL_law 30 = .ok (.aastore, 1) := dk_83 (dk_at dksL_law_1 7 rfl rfl)
theorem dL_law_31 : decode cL_law 31 = .ok (.iinc 3 1, 3) := dk_132 3 1 (dk_at dksL_law_1 8 rfl rfl)
theorem dL_law_34 : decode cL_law 34 = .ok (.goto (-19), 3) := dk_167 255 237 (dk_at dksL_law_1 11 rfl rfl)
theorem dL_law_37 : decode cL_law 37 = .ok (.bipush 96, 2) := dk_16 96 (dk_at dksL_law_1 14 rfl rfl)
theorem dL_law_39 : decode cL_law 39 = .ok (.newarray .long, 2) := dk_188_11 (dk_at dksL_law_1 16 rfl rfl)
theorem dL_law_41 : decode cL_law 41 = .ok (.astore_n 3, 1) := dk_78 (dk_at dksL_law_1 18 rfl rfl)
theorem dL_law_42 : decode cL_law 42 = .ok (.iconst 0, 1) := dk_3 (dk_at dksL_law_1 19 rfl rfl)
theorem dL_law_43 : decode cL_law 43 = .ok (.istore 4, 2) := dk_54 4 (dk_at dksL_law_1 20 rfl rfl)
theorem dL_law_45 : decode cL_law 45 = .ok (.iconst 0, 1) := dk_3 (dk_at dksL_law_1 22 rfl rfl)
theorem dL_law_46 : decode cL_law 46 = .ok (.istore 5, 2) := dk_54 5 (dk_at dksL_law_2 0 rfl rfl)
theorem dL_law_48 : decode cL_law 48 = .ok (.iload 5, 2) := dk_21 5 (dk_at dksL_law_2 2 rfl rfl)
theorem dL_law_50 : decode cL_law 50 = .ok (.bipush 15, 2) := dk_16 15 (dk_at dksL_law_2 4 rfl rfl)
theorem dL_law_52 : decode cL_law 52 = .ok (.if_icmp .ge 207, 3) := dk_162 0 207 (dk_at dksL_law_2 6 rfl rfl)
theorem dL_law_55 : decode cL_law 55 = .ok (.aload_n 1, 1) := dk_43 (dk_at dksL_law_2 9 rfl rfl)
theorem dL_law_56 : decode cL_law 56 = .ok (.aload_n 2, 1) := dk_44 (dk_at dksL_law_2 10 rfl rfl)
theorem dL_law_57 : decode cL_law 57 = .ok (.aload_n 3, 1) := dk_45 (dk_at dksL_law_2 11 rfl rfl)
theorem dL_law_58 : decode cL_law 58 = .ok (.iload 4, 2) := dk_21 4 (dk_at dksL_law_2 12 rfl rfl)
theorem dL_law_60 : decode cL_law 60 = .ok (.aload_n 0, 1) := dk_42 (dk_at dksL_law_2 14 rfl rfl)
theorem dL_law_61 : decode cL_law 61 = .ok (.bipush 6, 2) := dk_16 6 (dk_at dksL_law_2 15 rfl rfl)
theorem dL_law_63 : decode cL_law 63 = .ok (.iload 5, 2) := dk_21 5 (dk_at dksL_law_2 17 rfl rfl)
theorem dL_law_65 : decode cL_law 65 = .ok (.imul, 1) := dk_104 (dk_at dksL_law_2 19 rfl rfl)
theorem dL_law_66 : decode cL_law 66 = .ok (.invokestatic 78, 3) := dk_184 0 78 (dk_at dksL_law_2 20 rfl rfl)
theorem dL_law_69 : decode cL_law 69 = .ok (.istore 4, 2) := dk_54 4 (dk_at dksL_law_3 0 rfl rfl)
theorem dL_law_71 : decode cL_law 71 = .ok (.iload 4, 2) := dk_21 4 (dk_at dksL_law_3 2 rfl rfl)
theorem dL_law_73 : decode cL_law 73 = .ok (.ifCond .ge 5, 3) := dk_156 0 5 (dk_at dksL_law_3 4 rfl rfl)
theorem dL_law_76 : decode cL_law 76 = .ok (.iconst 0, 1) := dk_3 (dk_at dksL_law_3 7 rfl rfl)
theorem dL_law_77 : decode cL_law 77 = .ok (.ireturn, 1) := dk_172 (dk_at dksL_law_3 8 rfl rfl)
theorem dL_law_78 : decode cL_law 78 = .ok (.iconst 0, 1) := dk_3 (dk_at dksL_law_3 9 rfl rfl)
theorem dL_law_79 : decode cL_law 79 = .ok (.istore 6, 2) := dk_54 6 (dk_at dksL_law_3 10 rfl rfl)
theorem dL_law_81 : decode cL_law 81 = .ok (.iload 6, 2) := dk_21 6 (dk_at dksL_law_3 12 rfl rfl)
theorem dL_law_83 : decode cL_law 83 = .ok (.iconst 4, 1) := dk_7 (dk_at dksL_law_3 14 rfl rfl)
theorem dL_law_84 : decode cL_law 84 = .ok (.if_icmp .ge 169, 3) := dk_162 0 169 (dk_at dksL_law_3 15 rfl rfl)
theorem dL_law_87 : decode cL_law 87 = .ok (.aload_n 1, 1) := dk_43 (dk_at dksL_law_3 18 rfl rfl)
theorem dL_law_88 : decode cL_law 88 = .ok (.iload 6, 2) := dk_21 6 (dk_at dksL_law_3 19 rfl rfl)
theorem dL_law_90 : decode cL_law 90 = .ok (.invokevirtual 82, 3) := dk_182 0 82 (dk_at dksL_law_3 21 rfl rfl)
theorem dL_law_93 : decode cL_law 93 = .ok (.aload_n 2, 1) := dk_44 (dk_at dksL_law_4 0 rfl rfl)
theorem dL_law_94 : decode cL_law 94 = .ok (.iload 6, 2) := dk_21 6 (dk_at dksL_law_4 1 rfl rfl)
theorem dL_law_96 : decode cL_law 96 = .ok (.aaload, 1) := dk_50 (dk_at dksL_law_4 3 rfl rfl)
theorem dL_law_97 : decode cL_law 97 = .ok (.arraylength, 1) := dk_190 (dk_at dksL_law_4 4 rfl rfl)
theorem dL_law_98 : decode cL_law 98 = .ok (.if_icmp .ne 36, 3) := dk_160 0 36 (dk_at dksL_law_4 5 rfl rfl)
theorem dL_law_101 : decode cL_law 101 = .ok (.aload_n 1, 1) := dk_43 (dk_at dksL_law_4 8 rfl rfl)
theorem dL_law_102 : decode cL_law 102 = .ok (.iload 6, 2) := dk_21 6 (dk_at dksL_law_4 9 rfl rfl)
theorem dL_law_104 : decode cL_law 104 = .ok (.invokevirtual 85, 3) := dk_182 0 85 (dk_at dksL_law_4 11 rfl rfl)
theorem dL_law_107 : decode cL_law 107 = .ok (.aload_n 2, 1) := dk_44 (dk_at dksL_law_4 14 rfl rfl)
theorem dL_law_108 : decode cL_law 108 = .ok (.iload 6, 2) := dk_21 6 (dk_at dksL_law_4 15 rfl rfl)
theorem dL_law_110 : decode cL_law 110 = .ok (.aaload, 1) := dk_50 (dk_at dksL_law_4 17 rfl rfl)
theorem dL_law_111 : decode cL_law 111 = .ok (.invokestatic 88, 3) := dk_184 0 88 (dk_at dksL_law_4 18 rfl rfl)
theorem dL_law_114 : decode cL_law 114 = .ok (.if_icmp .ne 20, 3) := dk_160 0 20 (dk_at dksL_law_4 21 rfl rfl)
theorem dL_law_117 : decode cL_law 117 = .ok (.aload_n 1, 1) := dk_43 (dk_at dksL_law_5 0 rfl rfl)
theorem dL_law_118 : decode cL_law 118 = .ok (.iload 6, 2) := dk_21 6 (dk_at dksL_law_5 1 rfl rfl)
theorem dL_law_120 : decode cL_law 120 = .ok (.invokevirtual 91, 3) := dk_182 0 91 (dk_at dksL_law_5 3 rfl rfl)
theorem dL_law_123 : decode cL_law 123 = .ok (.aload_n 2, 1) := dk_44 (dk_at dksL_law_5 6 rfl rfl)
theorem dL_law_124 : decode cL_law 124 = .ok (.iload 6, 2) := dk_21 6 (dk_at dksL_law_5 7 rfl rfl)
theorem dL_law_126 : decode cL_law 126 = .ok (.aaload, 1) := dk_50 (dk_at dksL_law_5 9 rfl rfl)
theorem dL_law_127 : decode cL_law 127 = .ok (.invokestatic 95, 3) := dk_184 0 95 (dk_at dksL_law_5 10 rfl rfl)
theorem dL_law_130 : decode cL_law 130 = .ok (.lcmp, 1) := dk_148 (dk_at dksL_law_5 13 rfl rfl)
theorem dL_law_131 : decode cL_law 131 = .ok (.ifCond .eq 5, 3) := dk_153 0 5 (dk_at dksL_law_5 14 rfl rfl)
theorem dL_law_134 : decode cL_law 134 = .ok (.iconst 0, 1) := dk_3 (dk_at dksL_law_5 17 rfl rfl)
theorem dL_law_135 : decode cL_law 135 = .ok (.ireturn, 1) := dk_172 (dk_at dksL_law_5 18 rfl rfl)
theorem dL_law_136 : decode cL_law 136 = .ok (.aload_n 2, 1) := dk_44 (dk_at dksL_law_5 19 rfl rfl)
theorem dL_law_137 : decode cL_law 137 = .ok (.iload 6, 2) := dk_21 6 (dk_at dksL_law_5 20 rfl rfl)
theorem dL_law_139 : decode cL_law 139 = .ok (.aaload, 1) := dk_50 (dk_at dksL_law_5 22 rfl rfl)
theorem dL_law_140 : decode cL_law 140 = .ok (.arraylength, 1) := dk_190 (dk_at dksL_law_5 23 rfl rfl)
theorem dL_law_141 : decode cL_law 141 = .ok (.ifCond .ne 27, 3) := dk_154 0 27 (dk_at dksL_law_6 0 rfl rfl)
theorem dL_law_144 : decode cL_law 144 = .ok (.aload_n 1, 1) := dk_43 (dk_at dksL_law_6 3 rfl rfl)
theorem dL_law_145 : decode cL_law 145 = .ok (.iload 6, 2) := dk_21 6 (dk_at dksL_law_6 4 rfl rfl)
theorem dL_law_147 : decode cL_law 147 = .ok (.aload_n 0, 1) := dk_42 (dk_at dksL_law_6 6 rfl rfl)
theorem dL_law_148 : decode cL_law 148 = .ok (.bipush 6, 2) := dk_16 6 (dk_at dksL_law_6 7 rfl rfl)
theorem dL_law_150 : decode cL_law 150 = .ok (.iload 5, 2) := dk_21 5 (dk_at dksL_law_6 9 rfl rfl)
theorem dL_law_152 : decode cL_law 152 = .ok (.imul, 1) := dk_104 (dk_at dksL_law_6 11 rfl rfl)
theorem dL_law_153 : decode cL_law 153 = .ok (.iconst 5, 1) := dk_8 (dk_at dksL_law_6 12 rfl rfl)
theorem dL_law_154 : decode cL_law 154 = .ok (.iadd, 1) := dk_96 (dk_at dksL_law_6 13 rfl rfl)
theorem dL_law_155 : decode cL_law 155 = .ok (.invokestatic 25, 3) := dk_184 0 25 (dk_at dksL_law_6 14 rfl rfl)
theorem dL_law_158 : decode cL_law 158 = .ok (.invokevirtual 72, 3) := dk_182 0 72 (dk_at dksL_law_6 17 rfl rfl)
theorem dL_law_161 : decode cL_law 161 = .ok (.lconst 0, 1) := dk_9 (dk_at dksL_law_6 20 rfl rfl)
theorem dL_law_162 : decode cL_law 162 = .ok (.lcmp, 1) := dk_148 (dk_at dksL_law_6 21 rfl rfl)
theorem dL_law_163 : decode cL_law 163 = .ok (.ifCond .eq 5, 3) := dk_153 0 5 (dk_at dksL_law_7 0 rfl rfl)
theorem dL_law_166 : decode cL_law 166 = .ok (.iconst 0, 1) := dk_3 (dk_at dksL_law_7 3 rfl rfl)
theorem dL_law_167 : decode cL_law 167 = .ok (.ireturn, 1) := dk_172 (dk_at dksL_law_7 4 rfl rfl)
theorem dL_law_168 : decode cL_law 168 = .ok (.iconst 0, 1) := dk_3 (dk_at dksL_law_7 5 rfl rfl)
theorem dL_law_169 : decode cL_law 169 = .ok (.istore 7, 2) := dk_54 7 (dk_at dksL_law_7 6 rfl rfl)
theorem dL_law_171 : decode cL_law 171 = .ok (.iload 7, 2) := dk_21 7 (dk_at dksL_law_7 8 rfl rfl)
theorem dL_law_173 : decode cL_law 173 = .ok (.aload_n 2, 1) := dk_44 (dk_at dksL_law_7 10 rfl rfl)
theorem dL_law_174 : decode cL_law 174 = .ok (.iload 6, 2) := dk_21 6 (dk_at dksL_law_7 11 rfl rfl)
theorem dL_law_176 : decode cL_law 176 = .ok (.aaload, 1) := dk_50 (dk_at dksL_law_7 13 rfl rfl)
theorem dL_law_177 : decode cL_law 177 = .ok (.arraylength, 1) := dk_190 (dk_at dksL_law_7 14 rfl rfl)
theorem dL_law_178 : decode cL_law 178 = .ok (.if_icmp .ge 30, 3) := dk_162 0 30 (dk_at dksL_law_7 15 rfl rfl)
theorem dL_law_181 : decode cL_law 181 = .ok (.aload_n 1, 1) := dk_43 (dk_at dksL_law_7 18 rfl rfl)
theorem dL_law_182 : decode cL_law 182 = .ok (.iload 6, 2) := dk_21 6 (dk_at dksL_law_7 19 rfl rfl)
theorem dL_law_184 : decode cL_law 184 = .ok (.iload 7, 2) := dk_21 7 (dk_at dksL_law_7 21 rfl rfl)
theorem dL_law_186 : decode cL_law 186 = .ok (.invokevirtual 72, 3) := dk_182 0 72 (dk_at dksL_law_8 0 rfl rfl)
theorem dL_law_189 : decode cL_law 189 = .ok (.aload_n 2, 1) := dk_44 (dk_at dksL_law_8 3 rfl rfl)
theorem dL_law_190 : decode cL_law 190 = .ok (.iload 6, 2) := dk_21 6 (dk_at dksL_law_8 4 rfl rfl)
theorem dL_law_192 : decode cL_law 192 = .ok (.aaload, 1) := dk_50 (dk_at dksL_law_8 6 rfl rfl)
theorem dL_law_193 : decode cL_law 193 = .ok (.iload 7, 2) := dk_21 7 (dk_at dksL_law_8 7 rfl rfl)
theorem dL_law_195 : decode cL_law 195 = .ok (.laload, 1) := dk_47 (dk_at dksL_law_8 9 rfl rfl)
theorem dL_law_196 : decode cL_law 196 = .ok (.lcmp, 1) := dk_148 (dk_at dksL_law_8 10 rfl rfl)
theorem dL_law_197 : decode cL_law 197 = .ok (.ifCond .eq 5, 3) := dk_153 0 5 (dk_at dksL_law_8 11 rfl rfl)
theorem dL_law_200 : decode cL_law 200 = .ok (.iconst 0, 1) := dk_3 (dk_at dksL_law_8 14 rfl rfl)
theorem dL_law_201 : decode cL_law 201 = .ok (.ireturn, 1) := dk_172 (dk_at dksL_law_8 15 rfl rfl)
theorem dL_law_202 : decode cL_law 202 = .ok (.iinc 7 1, 3) := dk_132 7 1 (dk_at dksL_law_8 16 rfl rfl)
theorem dL_law_205 : decode cL_law 205 = .ok (.goto (-34), 3) := dk_167 255 222 (dk_at dksL_law_8 19 rfl rfl)
theorem dL_law_208 : decode cL_law 208 = .ok (.iconst 0, 1) := dk_3 (dk_at dksL_law_8 22 rfl rfl)
theorem dL_law_209 : decode cL_law 209 = .ok (.istore 7, 2) := dk_54 7 (dk_at dksL_law_9 0 rfl rfl)
theorem dL_law_211 : decode cL_law 211 = .ok (.iload 7, 2) := dk_21 7 (dk_at dksL_law_9 2 rfl rfl)
theorem dL_law_213 : decode cL_law 213 = .ok (.iconst 4, 1) := dk_7 (dk_at dksL_law_9 4 rfl rfl)
theorem dL_law_214 : decode cL_law 214 = .ok (.if_icmp .ge 33, 3) := dk_162 0 33 (dk_at dksL_law_9 5 rfl rfl)
theorem dL_law_217 : decode cL_law 217 = .ok (.aload_n 1, 1) := dk_43 (dk_at dksL_law_9 8 rfl rfl)
theorem dL_law_218 : decode cL_law 218 = .ok (.iload 7, 2) := dk_21 7 (dk_at dksL_law_9 9 rfl rfl)
theorem dL_law_220 : decode cL_law 220 = .ok (.iload 6, 2) := dk_21 6 (dk_at dksL_law_9 11 rfl rfl)
theorem dL_law_222 : decode cL_law 222 = .ok (.invokevirtual 98, 3) := dk_182 0 98 (dk_at dksL_law_9 13 rfl rfl)
theorem dL_law_225 : decode cL_law 225 = .ok (.aload_n 2, 1) := dk_44 (dk_at dksL_law_9 16 rfl rfl)
theorem dL_law_226 : decode cL_law 226 = .ok (.iload 7, 2) := dk_21 7 (dk_at dksL_law_9 17 rfl rfl)
theorem dL_law_228 : decode cL_law 228 = .ok (.aaload, 1) := dk_50 (dk_at dksL_law_9 19 rfl rfl)
theorem dL_law_229 : decode cL_law 229 = .ok (.aload_n 2, 1) := dk_44 (dk_at dksL_law_9 20 rfl rfl)
theorem dL_law_230 : decode cL_law 230 = .ok (.iload 6, 2) := dk_21 6 (dk_at dksL_law_9 21 rfl rfl)
theorem dL_law_232 : decode cL_law 232 = .ok (.aaload, 1) := dk_50 (dk_at dksL_law_9 23 rfl rfl)
theorem dL_law_233 : decode cL_law 233 = .ok (.invokestatic 101, 3) := dk_184 0 101 (dk_at dksL_law_10 0 rfl rfl)
theorem dL_law_236 : decode cL_law 236 = .ok (.if_icmp .eq 5, 3) := dk_159 0 5 (dk_at dksL_law_10 3 rfl rfl)
theorem dL_law_239 : decode cL_law 239 = .ok (.iconst 0, 1) := dk_3 (dk_at dksL_law_10 6 rfl rfl)
theorem dL_law_240 : decode cL_law 240 = .ok (.ireturn, 1) := dk_172 (dk_at dksL_law_10 7 rfl rfl)
theorem dL_law_241 : decode cL_law 241 = .ok (.iinc 7 1, 3) := dk_132 7 1 (dk_at dksL_law_10 8 rfl rfl)
theorem dL_law_244 : decode cL_law 244 = .ok (.goto (-33), 3) := dk_167 255 223 (dk_at dksL_law_10 11 rfl rfl)
theorem dL_law_247 : decode cL_law 247 = .ok (.iinc 6 1, 3) := dk_132 6 1 (dk_at dksL_law_10 14 rfl rfl)
theorem dL_law_250 : decode cL_law 250 = .ok (.goto (-169), 3) := dk_167 255 87 (dk_at dksL_law_10 17 rfl rfl)
theorem dL_law_253 : decode cL_law 253 = .ok (.iinc 5 1, 3) := dk_132 5 1 (dk_at dksL_law_10 20 rfl rfl)
theorem dL_law_256 : decode cL_law 256 = .ok (.goto (-208), 3) := dk_167 255 48 (dk_at dksL_law_11 0 rfl rfl)
theorem dL_law_259 : decode cL_law 259 = .ok (.aload_n 0, 1) := dk_42 (dk_at dksL_law_11 3 rfl rfl)
theorem dL_law_260 : decode cL_law 260 = .ok (.bipush 90, 2) := dk_16 90 (dk_at dksL_law_11 4 rfl rfl)
theorem dL_law_262 : decode cL_law 262 = .ok (.invokestatic 25, 3) := dk_184 0 25 (dk_at dksL_law_11 6 rfl rfl)
theorem dL_law_265 : decode cL_law 265 = .ok (.istore 5, 2) := dk_54 5 (dk_at dksL_law_11 9 rfl rfl)
theorem dL_law_267 : decode cL_law 267 = .ok (.iload 5, 2) := dk_21 5 (dk_at dksL_law_11 11 rfl rfl)
theorem dL_law_269 : decode cL_law 269 = .ok (.iconst 1, 1) := dk_4 (dk_at dksL_law_11 13 rfl rfl)
theorem dL_law_270 : decode cL_law 270 = .ok (.iadd, 1) := dk_96 (dk_at dksL_law_11 14 rfl rfl)
theorem dL_law_271 : decode cL_law 271 = .ok (.istore 6, 2) := dk_54 6 (dk_at dksL_law_11 15 rfl rfl)
theorem dL_law_273 : decode cL_law 273 = .ok (.aload_n 1, 1) := dk_43 (dk_at dksL_law_11 17 rfl rfl)
theorem dL_law_274 : decode cL_law 274 = .ok (.iload 5, 2) := dk_21 5 (dk_at dksL_law_11 18 rfl rfl)
theorem dL_law_276 : decode cL_law 276 = .ok (.invokevirtual 42, 3) := dk_182 0 42 (dk_at dksL_law_11 20 rfl rfl)
theorem dL_law_279 : decode cL_law 279 = .ok (.iload 4, 2) := dk_21 4 (dk_at dksL_law_12 0 rfl rfl)
theorem dL_law_281 : decode cL_law 281 = .ok (.if_icmp .ne 23, 3) := dk_160 0 23 (dk_at dksL_law_12 2 rfl rfl)
theorem dL_law_284 : decode cL_law 284 = .ok (.aload_n 1, 1) := dk_43 (dk_at dksL_law_12 5 rfl rfl)
theorem dL_law_285 : decode cL_law 285 = .ok (.iload 5, 2) := dk_21 5 (dk_at dksL_law_12 6 rfl rfl)
theorem dL_law_287 : decode cL_law 287 = .ok (.invokevirtual 91, 3) := dk_182 0 91 (dk_at dksL_law_12 8 rfl rfl)
theorem dL_law_290 : decode cL_law 290 = .ok (.aload_n 3, 1) := dk_45 (dk_at dksL_law_12 11 rfl rfl)
theorem dL_law_291 : decode cL_law 291 = .ok (.iconst 0, 1) := dk_3 (dk_at dksL_law_12 12 rfl rfl)
theorem dL_law_292 : decode cL_law 292 = .ok (.iload 4, 2) := dk_21 4 (dk_at dksL_law_12 13 rfl rfl)
theorem dL_law_294 : decode cL_law 294 = .ok (.invokestatic 38, 3) := dk_184 0 38 (dk_at dksL_law_12 15 rfl rfl)
theorem dL_law_297 : decode cL_law 297 = .ok (.invokestatic 95, 3) := dk_184 0 95 (dk_at dksL_law_12 18 rfl rfl)
theorem dL_law_300 : decode cL_law 300 = .ok (.lcmp, 1) := dk_148 (dk_at dksL_law_12 21 rfl rfl)
theorem dL_law_301 : decode cL_law 301 = .ok (.ifCond .eq 5, 3) := dk_153 0 5 (dk_at dksL_law_13 0 rfl rfl)
theorem dL_law_304 : decode cL_law 304 = .ok (.iconst 0, 1) := dk_3 (dk_at dksL_law_13 3 rfl rfl)
theorem dL_law_305 : decode cL_law 305 = .ok (.ireturn, 1) := dk_172 (dk_at dksL_law_13 4 rfl rfl)
theorem dL_law_306 : decode cL_law 306 = .ok (.aload_n 1, 1) := dk_43 (dk_at dksL_law_13 5 rfl rfl)
theorem dL_law_307 : decode cL_law 307 = .ok (.aload_n 3, 1) := dk_45 (dk_at dksL_law_13 6 rfl rfl)
theorem dL_law_308 : decode cL_law 308 = .ok (.iload 4, 2) := dk_21 4 (dk_at dksL_law_13 7 rfl rfl)
theorem dL_law_310 : decode cL_law 310 = .ok (.aload_n 0, 1) := dk_42 (dk_at dksL_law_13 9 rfl rfl)
theorem dL_law_311 : decode cL_law 311 = .ok (.bipush 91, 2) := dk_16 91 (dk_at dksL_law_13 10 rfl rfl)
theorem dL_law_313 : decode cL_law 313 = .ok (.invokestatic 25, 3) := dk_184 0 25 (dk_at dksL_law_13 12 rfl rfl)
theorem dL_law_316 : decode cL_law 316 = .ok (.aload_n 0, 1) := dk_42 (dk_at dksL_law_13 15 rfl rfl)
theorem dL_law_317 : decode cL_law 317 = .ok (.bipush 92, 2) := dk_16 92 (dk_at dksL_law_13 16 rfl rfl)
theorem dL_law_319 : decode cL_law 319 = .ok (.invokestatic 25, 3) := dk_184 0 25 (dk_at dksL_law_13 18 rfl rfl)
theorem dL_law_322 : decode cL_law 322 = .ok (.invokestatic 30, 3) := dk_184 0 30 (dk_at dksL_law_13 21 rfl rfl)
theorem dL_law_325 : decode cL_law 325 = .ok (.istore 7, 2) := dk_54 7 (dk_at dksL_law_14 0 rfl rfl)
theorem dL_law_327 : decode cL_law 327 = .ok (.iload 7, 2) := dk_21 7 (dk_at dksL_law_14 2 rfl rfl)
theorem dL_law_329 : decode cL_law 329 = .ok (.ifCond .lt 48, 3) := dk_155 0 48 (dk_at dksL_law_14 4 rfl rfl)
theorem dL_law_332 : decode cL_law 332 = .ok (.aload_n 1, 1) := dk_43 (dk_at dksL_law_14 7 rfl rfl)
theorem dL_law_333 : decode cL_law 333 = .ok (.iload 6, 2) := dk_21 6 (dk_at dksL_law_14 8 rfl rfl)
theorem dL_law_335 : decode cL_law 335 = .ok (.invokevirtual 42, 3) := dk_182 0 42 (dk_at dksL_law_14 10 rfl rfl)
theorem dL_law_338 : decode cL_law 338 = .ok (.iload 7, 2) := dk_21 7 (dk_at dksL_law_14 13 rfl rfl)
theorem dL_law_340 : decode cL_law 340 = .ok (.if_icmp .ne 37, 3) := dk_160 0 37 (dk_at dksL_law_14 15 rfl rfl)
theorem dL_law_343 : decode cL_law 343 = .ok (.aload_n 1, 1) := dk_43 (dk_at dksL_law_14 18 rfl rfl)
theorem dL_law_344 : decode cL_law 344 = .ok (.iload 5, 2) := dk_21 5 (dk_at dksL_law_14 19 rfl rfl)
theorem dL_law_346 : decode cL_law 346 = .ok (.invokevirtual 82, 3) := dk_182 0 82 (dk_at dksL_law_14 21 rfl rfl)
theorem dL_law_349 : decode cL_law 349 = .ok (.iload 4, 2) := dk_21 4 (dk_at dksL_law_15 0 rfl rfl)
theorem dL_law_351 : decode cL_law 351 = .ok (.if_icmp .ne 26, 3) := dk_160 0 26 (dk_at dksL_law_15 2 rfl rfl)
theorem dL_law_354 : decode cL_law 354 = .ok (.aload_n 1, 1) := dk_43 (dk_at dksL_law_15 5 rfl rfl)
theorem dL_law_355 : decode cL_law 355 = .ok (.iload 5, 2) := dk_21 5 (dk_at dksL_law_15 6 rfl rfl)
theorem dL_law_357 : decode cL_law 357 = .ok (.iload 6, 2) := dk_21 6 (dk_at dksL_law_15 8 rfl rfl)
theorem dL_law_359 : decode cL_law 359 = .ok (.invokevirtual 98, 3) := dk_182 0 98 (dk_at dksL_law_15 10 rfl rfl)
theorem dL_law_362 : decode cL_law 362 = .ok (.iload 7, 2) := dk_21 7 (dk_at dksL_law_15 13 rfl rfl)
theorem dL_law_364 : decode cL_law 364 = .ok (.iload 4, 2) := dk_21 4 (dk_at dksL_law_15 15 rfl rfl)
theorem dL_law_366 : decode cL_law 366 = .ok (.if_icmp .ne 7, 3) := dk_160 0 7 (dk_at dksL_law_15 17 rfl rfl)
theorem dL_law_369 : decode cL_law 369 = .ok (.iconst 1, 1) := dk_4 (dk_at dksL_law_15 20 rfl rfl)
theorem dL_law_370 : decode cL_law 370 = .ok (.goto 4, 3) := dk_167 0 4 (dk_at dksL_law_15 21 rfl rfl)
theorem dL_law_373 : decode cL_law 373 = .ok (.iconst 0, 1) := dk_3 (dk_at dksL_law_16 0 rfl rfl)
theorem dL_law_374 : decode cL_law 374 = .ok (.if_icmp .eq 5, 3) := dk_159 0 5 (dk_at dksL_law_16 1 rfl rfl)
theorem dL_law_377 : decode cL_law 377 = .ok (.iconst 0, 1) := dk_3 (dk_at dksL_law_16 4 rfl rfl)
theorem dL_law_378 : decode cL_law 378 = .ok (.ireturn, 1) := dk_172 (dk_at dksL_law_16 5 rfl rfl)
theorem dL_law_379 : decode cL_law 379 = .ok (.iconst 0, 1) := dk_3 (dk_at dksL_law_16 6 rfl rfl)
theorem dL_law_380 : decode cL_law 380 = .ok (.istore 8, 2) := dk_54 8 (dk_at dksL_law_16 7 rfl rfl)
theorem dL_law_382 : decode cL_law 382 = .ok (.iload 8, 2) := dk_21 8 (dk_at dksL_law_16 9 rfl rfl)
theorem dL_law_384 : decode cL_law 384 = .ok (.iload 7, 2) := dk_21 7 (dk_at dksL_law_16 11 rfl rfl)
theorem dL_law_386 : decode cL_law 386 = .ok (.if_icmp .ge 50, 3) := dk_162 0 50 (dk_at dksL_law_16 13 rfl rfl)
theorem dL_law_389 : decode cL_law 389 = .ok (.aload_n 1, 1) := dk_43 (dk_at dksL_law_16 16 rfl rfl)
theorem dL_law_390 : decode cL_law 390 = .ok (.iload 6, 2) := dk_21 6 (dk_at dksL_law_16 17 rfl rfl)
theorem dL_law_392 : decode cL_law 392 = .ok (.iload 8, 2) := dk_21 8 (dk_at dksL_law_16 19 rfl rfl)
theorem dL_law_394 : decode cL_law 394 = .ok (.invokevirtual 72, 3) := dk_182 0 72 (dk_at dksL_law_16 21 rfl rfl)
theorem dL_law_397 : decode cL_law 397 = .ok (.aload_n 3, 1) := dk_45 (dk_at dksL_law_17 0 rfl rfl)
theorem dL_law_398 : decode cL_law 398 = .ok (.iload 8, 2) := dk_21 8 (dk_at dksL_law_17 1 rfl rfl)
theorem dL_law_400 : decode cL_law 400 = .ok (.laload, 1) := dk_47 (dk_at dksL_law_17 3 rfl rfl)
theorem dL_law_401 : decode cL_law 401 = .ok (.lcmp, 1) := dk_148 (dk_at dksL_law_17 4 rfl rfl)
theorem dL_law_402 : decode cL_law 402 = .ok (.ifCond .ne 26, 3) := dk_154 0 26 (dk_at dksL_law_17 5 rfl rfl)
theorem dL_law_405 : decode cL_law 405 = .ok (.iload 8, 2) := dk_21 8 (dk_at dksL_law_17 8 rfl rfl)
theorem dL_law_407 : decode cL_law 407 = .ok (.iload 4, 2) := dk_21 4 (dk_at dksL_law_17 10 rfl rfl)
theorem dL_law_409 : decode cL_law 409 = .ok (.if_icmp .ge 21, 3) := dk_162 0 21 (dk_at dksL_law_17 12 rfl rfl)
theorem dL_law_412 : decode cL_law 412 = .ok (.aload_n 1, 1) := dk_43 (dk_at dksL_law_17 15 rfl rfl)
theorem dL_law_413 : decode cL_law 413 = .ok (.iload 5, 2) := dk_21 5 (dk_at dksL_law_17 16 rfl rfl)
theorem dL_law_415 : decode cL_law 415 = .ok (.iload 8, 2) := dk_21 8 (dk_at dksL_law_17 18 rfl rfl)
theorem dL_law_417 : decode cL_law 417 = .ok (.invokevirtual 72, 3) := dk_182 0 72 (dk_at dksL_law_17 20 rfl rfl)
theorem dL_law_420 : decode cL_law 420 = .ok (.aload_n 3, 1) := dk_45 (dk_at dksL_law_17 23 rfl rfl)
theorem dL_law_421 : decode cL_law 421 = .ok (.iload 8, 2) := dk_21 8 (dk_at dksL_law_18 0 rfl rfl)
theorem dL_law_423 : decode cL_law 423 = .ok (.laload, 1) := dk_47 (dk_at dksL_law_18 2 rfl rfl)
theorem dL_law_424 : decode cL_law 424 = .ok (.lcmp, 1) := dk_148 (dk_at dksL_law_18 3 rfl rfl)
theorem dL_law_425 : decode cL_law 425 = .ok (.ifCond .eq 5, 3) := dk_153 0 5 (dk_at dksL_law_18 4 rfl rfl)
theorem dL_law_428 : decode cL_law 428 = .ok (.iconst 0, 1) := dk_3 (dk_at dksL_law_18 7 rfl rfl)
theorem dL_law_429 : decode cL_law 429 = .ok (.ireturn, 1) := dk_172 (dk_at dksL_law_18 8 rfl rfl)
theorem dL_law_430 : decode cL_law 430 = .ok (.iinc 8 1, 3) := dk_132 8 1 (dk_at dksL_law_18 9 rfl rfl)
theorem dL_law_433 : decode cL_law 433 = .ok (.goto (-51), 3) := dk_167 255 205 (dk_at dksL_law_18 12 rfl rfl)
theorem dL_law_436 : decode cL_law 436 = .ok (.aload_n 0, 1) := dk_42 (dk_at dksL_law_18 15 rfl rfl)
theorem dL_law_437 : decode cL_law 437 = .ok (.bipush 93, 2) := dk_16 93 (dk_at dksL_law_18 16 rfl rfl)
theorem dL_law_439 : decode cL_law 439 = .ok (.invokestatic 25, 3) := dk_184 0 25 (dk_at dksL_law_18 18 rfl rfl)
theorem dL_law_442 : decode cL_law 442 = .ok (.ldc 29, 2) := dk_18 29 (dk_at dksL_law_18 21 rfl rfl)
theorem dL_law_444 : decode cL_law 444 = .ok (.iand, 1) := dk_126 (dk_at dksL_law_18 23 rfl rfl)
theorem dL_law_445 : decode cL_law 445 = .ok (.iload 7, 2) := dk_21 7 (dk_at dksL_law_19 0 rfl rfl)
theorem dL_law_447 : decode cL_law 447 = .ok (.iconst 1, 1) := dk_4 (dk_at dksL_law_19 2 rfl rfl)
theorem dL_law_448 : decode cL_law 448 = .ok (.iadd, 1) := dk_96 (dk_at dksL_law_19 3 rfl rfl)
theorem dL_law_449 : decode cL_law 449 = .ok (.irem, 1) := dk_112 (dk_at dksL_law_19 4 rfl rfl)
theorem dL_law_450 : decode cL_law 450 = .ok (.istore 8, 2) := dk_54 8 (dk_at dksL_law_19 5 rfl rfl)
theorem dL_law_452 : decode cL_law 452 = .ok (.iload 7, 2) := dk_21 7 (dk_at dksL_law_19 7 rfl rfl)
theorem dL_law_454 : decode cL_law 454 = .ok (.ifCond .ne 7, 3) := dk_154 0 7 (dk_at dksL_law_19 9 rfl rfl)
theorem dL_law_457 : decode cL_law 457 = .ok (.lconst 0, 1) := dk_9 (dk_at dksL_law_19 12 rfl rfl)
theorem dL_law_458 : decode cL_law 458 = .ok (.goto 17, 3) := dk_167 0 17 (dk_at dksL_law_19 13 rfl rfl)
theorem dL_law_461 : decode cL_law 461 = .ok (.aload_n 3, 1) := dk_45 (dk_at dksL_law_19 16 rfl rfl)
theorem dL_law_462 : decode cL_law 462 = .ok (.aload_n 0, 1) := dk_42 (dk_at dksL_law_19 17 rfl rfl)
theorem dL_law_463 : decode cL_law 463 = .ok (.bipush 94, 2) := dk_16 94 (dk_at dksL_law_19 18 rfl rfl)
theorem dL_law_465 : decode cL_law 465 = .ok (.invokestatic 25, 3) := dk_184 0 25 (dk_at dksL_law_19 20 rfl rfl)
theorem dL_law_468 : decode cL_law 468 = .ok (.ldc 29, 2) := dk_18 29 (dk_at dksL_law_20 0 rfl rfl)
theorem dL_law_470 : decode cL_law 470 = .ok (.iand, 1) := dk_126 (dk_at dksL_law_20 2 rfl rfl)
theorem dL_law_471 : decode cL_law 471 = .ok (.iload 7, 2) := dk_21 7 (dk_at dksL_law_20 3 rfl rfl)
theorem dL_law_473 : decode cL_law 473 = .ok (.irem, 1) := dk_112 (dk_at dksL_law_20 5 rfl rfl)
theorem dL_law_474 : decode cL_law 474 = .ok (.laload, 1) := dk_47 (dk_at dksL_law_20 6 rfl rfl)
theorem dL_law_475 : decode cL_law 475 = .ok (.lstore 9, 2) := dk_55 9 (dk_at dksL_law_20 7 rfl rfl)
theorem dL_law_477 : decode cL_law 477 = .ok (.lload 9, 2) := dk_22 9 (dk_at dksL_law_20 9 rfl rfl)
theorem dL_law_479 : decode cL_law 479 = .ok (.bipush 32, 2) := dk_16 32 (dk_at dksL_law_20 11 rfl rfl)
theorem dL_law_481 : decode cL_law 481 = .ok (.lshr, 1) := dk_123 (dk_at dksL_law_20 13 rfl rfl)
theorem dL_law_482 : decode cL_law 482 = .ok (.l2i, 1) := dk_136 (dk_at dksL_law_20 14 rfl rfl)
theorem dL_law_483 : decode cL_law 483 = .ok (.istore 11, 2) := dk_54 11 (dk_at dksL_law_20 15 rfl rfl)
theorem dL_law_485 : decode cL_law 485 = .ok (.lload 9, 2) := dk_22 9 (dk_at dksL_law_20 17 rfl rfl)
theorem dL_law_487 : decode cL_law 487 = .ok (.l2i, 1) := dk_136 (dk_at dksL_law_20 19 rfl rfl)
theorem dL_law_488 : decode cL_law 488 = .ok (.istore 12, 2) := dk_54 12 (dk_at dksL_law_20 20 rfl rfl)
theorem dL_law_490 : decode cL_law 490 = .ok (.iload 5, 2) := dk_21 5 (dk_at dksL_law_20 22 rfl rfl)
theorem dL_law_492 : decode cL_law 492 = .ok (.iconst 2, 1) := dk_5 (dk_at dksL_law_21 0 rfl rfl)
theorem dL_law_493 : decode cL_law 493 = .ok (.iadd, 1) := dk_96 (dk_at dksL_law_21 1 rfl rfl)
theorem dL_law_494 : decode cL_law 494 = .ok (.istore 13, 2) := dk_54 13 (dk_at dksL_law_21 2 rfl rfl)
theorem dL_law_496 : decode cL_law 496 = .ok (.iload 5, 2) := dk_21 5 (dk_at dksL_law_21 4 rfl rfl)
theorem dL_law_498 : decode cL_law 498 = .ok (.iconst 3, 1) := dk_6 (dk_at dksL_law_21 6 rfl rfl)
theorem dL_law_499 : decode cL_law 499 = .ok (.iadd, 1) := dk_96 (dk_at dksL_law_21 7 rfl rfl)
theorem dL_law_500 : decode cL_law 500 = .ok (.istore 14, 2) := dk_54 14 (dk_at dksL_law_21 8 rfl rfl)
theorem dL_law_502 : decode cL_law 502 = .ok (.aload_n 1, 1) := dk_43 (dk_at dksL_law_21 10 rfl rfl)
theorem dL_law_503 : decode cL_law 503 = .ok (.iload 13, 2) := dk_21 13 (dk_at dksL_law_21 11 rfl rfl)
theorem dL_law_505 : decode cL_law 505 = .ok (.iload 6, 2) := dk_21 6 (dk_at dksL_law_21 13 rfl rfl)
theorem dL_law_507 : decode cL_law 507 = .ok (.iconst 0, 1) := dk_3 (dk_at dksL_law_21 15 rfl rfl)
theorem dL_law_508 : decode cL_law 508 = .ok (.iload 8, 2) := dk_21 8 (dk_at dksL_law_21 16 rfl rfl)
theorem dL_law_510 : decode cL_law 510 = .ok (.invokevirtual 53, 3) := dk_182 0 53 (dk_at dksL_law_21 18 rfl rfl)
theorem dL_law_513 : decode cL_law 513 = .ok (.iload 8, 2) := dk_21 8 (dk_at dksL_law_21 21 rfl rfl)
theorem dL_law_515 : decode cL_law 515 = .ok (.if_icmp .ne 26, 3) := dk_160 0 26 (dk_at dksL_law_22 0 rfl rfl)
theorem dL_law_518 : decode cL_law 518 = .ok (.aload_n 1, 1) := dk_43 (dk_at dksL_law_22 3 rfl rfl)
theorem dL_law_519 : decode cL_law 519 = .ok (.iload 14, 2) := dk_21 14 (dk_at dksL_law_22 4 rfl rfl)
theorem dL_law_521 : decode cL_law 521 = .ok (.iload 6, 2) := dk_21 6 (dk_at dksL_law_22 6 rfl rfl)
theorem dL_law_523 : decode cL_law 523 = .ok (.iload 8, 2) := dk_21 8 (dk_at dksL_law_22 8 rfl rfl)
theorem dL_law_525 : decode cL_law 525 = .ok (.iload 7, 2) := dk_21 7 (dk_at dksL_law_22 10 rfl rfl)
theorem dL_law_527 : decode cL_law 527 = .ok (.iload 8, 2) := dk_21 8 (dk_at dksL_law_22 12 rfl rfl)
theorem dL_law_529 : decode cL_law 529 = .ok (.isub, 1) := dk_100 (dk_at dksL_law_22 14 rfl rfl)
theorem dL_law_530 : decode cL_law 530 = .ok (.invokevirtual 53, 3) := dk_182 0 53 (dk_at dksL_law_22 15 rfl rfl)
theorem dL_law_533 : decode cL_law 533 = .ok (.iload 7, 2) := dk_21 7 (dk_at dksL_law_22 18 rfl rfl)
theorem dL_law_535 : decode cL_law 535 = .ok (.iload 8, 2) := dk_21 8 (dk_at dksL_law_22 20 rfl rfl)
theorem dL_law_537 : decode cL_law 537 = .ok (.isub, 1) := dk_100 (dk_at dksL_law_22 22 rfl rfl)
theorem dL_law_538 : decode cL_law 538 = .ok (.if_icmp .eq 5, 3) := dk_159 0 5 (dk_at dksL_law_23 0 rfl rfl)
theorem dL_law_541 : decode cL_law 541 = .ok (.iconst 0, 1) := dk_3 (dk_at dksL_law_23 3 rfl rfl)
theorem dL_law_542 : decode cL_law 542 = .ok (.ireturn, 1) := dk_172 (dk_at dksL_law_23 4 rfl rfl)
theorem dL_law_543 : decode cL_law 543 = .ok (.aload_n 1, 1) := dk_43 (dk_at dksL_law_23 5 rfl rfl)
theorem dL_law_544 : decode cL_law 544 = .ok (.iload 13, 2) := dk_21 13 (dk_at dksL_law_23 6 rfl rfl)
theorem dL_law_546 : decode cL_law 546 = .ok (.iload 11, 2) := dk_21 11 (dk_at dksL_law_23 8 rfl rfl)
theorem dL_law_548 : decode cL_law 548 = .ok (.iload 12, 2) := dk_21 12 (dk_at dksL_law_23 10 rfl rfl)
theorem dL_law_550 : decode cL_law 550 = .ok (.invokevirtual 56, 3) := dk_182 0 56 (dk_at dksL_law_23 12 rfl rfl)
theorem dL_law_553 : decode cL_law 553 = .ok (.istore 15, 2) := dk_54 15 (dk_at dksL_law_23 15 rfl rfl)
theorem dL_law_555 : decode cL_law 555 = .ok (.aload_n 1, 1) := dk_43 (dk_at dksL_law_23 17 rfl rfl)
theorem dL_law_556 : decode cL_law 556 = .ok (.iload 14, 2) := dk_21 14 (dk_at dksL_law_23 18 rfl rfl)
theorem dL_law_558 : decode cL_law 558 = .ok (.iload 11, 2) := dk_21 11 (dk_at dksL_law_23 20 rfl rfl)
theorem dL_law_560 : decode cL_law 560 = .ok (.iload 12, 2) := dk_21 12 (dk_at dksL_law_23 22 rfl rfl)
theorem dL_law_562 : decode cL_law 562 = .ok (.invokevirtual 56, 3) := dk_182 0 56 (dk_at dksL_law_24 0 rfl rfl)
theorem dL_law_565 : decode cL_law 565 = .ok (.istore 16, 2) := dk_54 16 (dk_at dksL_law_24 3 rfl rfl)
theorem dL_law_567 : decode cL_law 567 = .ok (.aload_n 1, 1) := dk_43 (dk_at dksL_law_24 5 rfl rfl)
theorem dL_law_568 : decode cL_law 568 = .ok (.iload 6, 2) := dk_21 6 (dk_at dksL_law_24 6 rfl rfl)
theorem dL_law_570 : decode cL_law 570 = .ok (.iload 11, 2) := dk_21 11 (dk_at dksL_law_24 8 rfl rfl)
theorem dL_law_572 : decode cL_law 572 = .ok (.iload 12, 2) := dk_21 12 (dk_at dksL_law_24 10 rfl rfl)
theorem dL_law_574 : decode cL_law 574 = .ok (.invokevirtual 56, 3) := dk_182 0 56 (dk_at dksL_law_24 12 rfl rfl)
theorem dL_law_577 : decode cL_law 577 = .ok (.istore 17, 2) := dk_54 17 (dk_at dksL_law_24 15 rfl rfl)
theorem dL_law_579 : decode cL_law 579 = .ok (.iload 17, 2) := dk_21 17 (dk_at dksL_law_24 17 rfl rfl)
theorem dL_law_581 : decode cL_law 581 = .ok (.iload 15, 2) := dk_21 15 (dk_at dksL_law_24 19 rfl rfl)
theorem dL_law_583 : decode cL_law 583 = .ok (.ifCond .lt 8, 3) := dk_155 0 8 (dk_at dksL_law_24 21 rfl rfl)
theorem dL_law_586 : decode cL_law 586 = .ok (.iload 15, 2) := dk_21 15 (dk_at dksL_law_25 0 rfl rfl)
theorem dL_law_588 : decode cL_law 588 = .ok (.goto 17, 3) := dk_167 0 17 (dk_at dksL_law_25 2 rfl rfl)
theorem dL_law_591 : decode cL_law 591 = .ok (.iload 16, 2) := dk_21 16 (dk_at dksL_law_25 5 rfl rfl)
theorem dL_law_593 : decode cL_law 593 = .ok (.ifCond .lt 11, 3) := dk_155 0 11 (dk_at dksL_law_25 7 rfl rfl)
theorem dL_law_596 : decode cL_law 596 = .ok (.iload 16, 2) := dk_21 16 (dk_at dksL_law_25 10 rfl rfl)
theorem dL_law_598 : decode cL_law 598 = .ok (.iload 8, 2) := dk_21 8 (dk_at dksL_law_25 12 rfl rfl)
theorem dL_law_600 : decode cL_law 600 = .ok (.iadd, 1) := dk_96 (dk_at dksL_law_25 14 rfl rfl)
theorem dL_law_601 : decode cL_law 601 = .ok (.goto 4, 3) := dk_167 0 4 (dk_at dksL_law_25 15 rfl rfl)
theorem dL_law_604 : decode cL_law 604 = .ok (.iconst (-1), 1) := dk_2 (dk_at dksL_law_25 18 rfl rfl)
theorem dL_law_605 : decode cL_law 605 = .ok (.if_icmp .eq 5, 3) := dk_159 0 5 (dk_at dksL_law_25 19 rfl rfl)
theorem dL_law_608 : decode cL_law 608 = .ok (.iconst 0, 1) := dk_3 (dk_at dksL_law_25 22 rfl rfl)
theorem dL_law_609 : decode cL_law 609 = .ok (.ireturn, 1) := dk_172 (dk_at dksL_law_25 23 rfl rfl)
theorem dL_law_610 : decode cL_law 610 = .ok (.aload_n 1, 1) := dk_43 (dk_at dksL_law_26 0 rfl rfl)
theorem dL_law_611 : decode cL_law 611 = .ok (.iload 13, 2) := dk_21 13 (dk_at dksL_law_26 1 rfl rfl)
theorem dL_law_613 : decode cL_law 613 = .ok (.iload 11, 2) := dk_21 11 (dk_at dksL_law_26 3 rfl rfl)
theorem dL_law_615 : decode cL_law 615 = .ok (.iload 12, 2) := dk_21 12 (dk_at dksL_law_26 5 rfl rfl)
theorem dL_law_617 : decode cL_law 617 = .ok (.invokevirtual 63, 3) := dk_182 0 63 (dk_at dksL_law_26 7 rfl rfl)
theorem dL_law_620 : decode cL_law 620 = .ok (.istore 15, 2) := dk_54 15 (dk_at dksL_law_26 10 rfl rfl)
theorem dL_law_622 : decode cL_law 622 = .ok (.aload_n 1, 1) := dk_43 (dk_at dksL_law_26 12 rfl rfl)
theorem dL_law_623 : decode cL_law 623 = .ok (.iload 14, 2) := dk_21 14 (dk_at dksL_law_26 13 rfl rfl)
theorem dL_law_625 : decode cL_law 625 = .ok (.iload 11, 2) := dk_21 11 (dk_at dksL_law_26 15 rfl rfl)
theorem dL_law_627 : decode cL_law 627 = .ok (.iload 12, 2) := dk_21 12 (dk_at dksL_law_26 17 rfl rfl)
theorem dL_law_629 : decode cL_law 629 = .ok (.invokevirtual 63, 3) := dk_182 0 63 (dk_at dksL_law_26 19 rfl rfl)
theorem dL_law_632 : decode cL_law 632 = .ok (.istore 16, 2) := dk_54 16 (dk_at dksL_law_26 22 rfl rfl)
theorem dL_law_634 : decode cL_law 634 = .ok (.aload_n 1, 1) := dk_43 (dk_at dksL_law_27 0 rfl rfl)
theorem dL_law_635 : decode cL_law 635 = .ok (.iload 6, 2) := dk_21 6 (dk_at dksL_law_27 1 rfl rfl)
theorem dL_law_637 : decode cL_law 637 = .ok (.iload 11, 2) := dk_21 11 (dk_at dksL_law_27 3 rfl rfl)
theorem dL_law_639 : decode cL_law 639 = .ok (.iload 12, 2) := dk_21 12 (dk_at dksL_law_27 5 rfl rfl)
theorem dL_law_641 : decode cL_law 641 = .ok (.invokevirtual 63, 3) := dk_182 0 63 (dk_at dksL_law_27 7 rfl rfl)
theorem dL_law_644 : decode cL_law 644 = .ok (.iload 16, 2) := dk_21 16 (dk_at dksL_law_27 10 rfl rfl)
theorem dL_law_646 : decode cL_law 646 = .ok (.ifCond .lt 11, 3) := dk_155 0 11 (dk_at dksL_law_27 12 rfl rfl)
theorem dL_law_649 : decode cL_law 649 = .ok (.iload 16, 2) := dk_21 16 (dk_at dksL_law_27 15 rfl rfl)
theorem dL_law_651 : decode cL_law 651 = .ok (.iload 8, 2) := dk_21 8 (dk_at dksL_law_27 17 rfl rfl)
theorem dL_law_653 : decode cL_law 653 = .ok (.iadd, 1) := dk_96 (dk_at dksL_law_27 19 rfl rfl)
theorem dL_law_654 : decode cL_law 654 = .ok (.goto 5, 3) := dk_167 0 5 (dk_at dksL_law_27 20 rfl rfl)
theorem dL_law_657 : decode cL_law 657 = .ok (.iload 15, 2) := dk_21 15 (dk_at dksL_law_28 0 rfl rfl)
theorem dL_law_659 : decode cL_law 659 = .ok (.if_icmp .eq 5, 3) := dk_159 0 5 (dk_at dksL_law_28 2 rfl rfl)
theorem dL_law_662 : decode cL_law 662 = .ok (.iconst 0, 1) := dk_3 (dk_at dksL_law_28 5 rfl rfl)
theorem dL_law_663 : decode cL_law 663 = .ok (.ireturn, 1) := dk_172 (dk_at dksL_law_28 6 rfl rfl)
theorem dL_law_664 : decode cL_law 664 = .ok (.aload_n 1, 1) := dk_43 (dk_at dksL_law_28 7 rfl rfl)
theorem dL_law_665 : decode cL_law 665 = .ok (.aload_n 0, 1) := dk_42 (dk_at dksL_law_28 8 rfl rfl)
theorem dL_law_666 : decode cL_law 666 = .ok (.bipush 95, 2) := dk_16 95 (dk_at dksL_law_28 9 rfl rfl)
theorem dL_law_668 : decode cL_law 668 = .ok (.invokestatic 25, 3) := dk_184 0 25 (dk_at dksL_law_28 11 rfl rfl)
theorem dL_law_671 : decode cL_law 671 = .ok (.invokevirtual 50, 3) := dk_182 0 50 (dk_at dksL_law_28 14 rfl rfl)
theorem dL_law_674 : decode cL_law 674 = .ok (.aload_n 1, 1) := dk_43 (dk_at dksL_law_28 17 rfl rfl)
theorem dL_law_675 : decode cL_law 675 = .ok (.iload 13, 2) := dk_21 13 (dk_at dksL_law_28 18 rfl rfl)
theorem dL_law_677 : decode cL_law 677 = .ok (.invokevirtual 34, 3) := dk_182 0 34 (dk_at dksL_law_28 20 rfl rfl)
theorem dL_law_680 : decode cL_law 680 = .ok (.ifCond .eq 23, 3) := dk_153 0 23 (dk_at dksL_law_29 0 rfl rfl)
theorem dL_law_683 : decode cL_law 683 = .ok (.aload_n 1, 1) := dk_43 (dk_at dksL_law_29 3 rfl rfl)
theorem dL_law_684 : decode cL_law 684 = .ok (.iload 14, 2) := dk_21 14 (dk_at dksL_law_29 4 rfl rfl)
theorem dL_law_686 : decode cL_law 686 = .ok (.invokevirtual 34, 3) := dk_182 0 34 (dk_at dksL_law_29 6 rfl rfl)
theorem dL_law_689 : decode cL_law 689 = .ok (.ifCond .eq 14, 3) := dk_153 0 14 (dk_at dksL_law_29 9 rfl rfl)
theorem dL_law_692 : decode cL_law 692 = .ok (.aload_n 1, 1) := dk_43 (dk_at dksL_law_29 12 rfl rfl)
theorem dL_law_693 : decode cL_law 693 = .ok (.iload 5, 2) := dk_21 5 (dk_at dksL_law_29 13 rfl rfl)
theorem dL_law_695 : decode cL_law 695 = .ok (.invokevirtual 42, 3) := dk_182 0 42 (dk_at dksL_law_29 15 rfl rfl)
theorem dL_law_698 : decode cL_law 698 = .ok (.iload 7, 2) := dk_21 7 (dk_at dksL_law_29 18 rfl rfl)
theorem dL_law_700 : decode cL_law 700 = .ok (.if_icmp .eq 5, 3) := dk_159 0 5 (dk_at dksL_law_29 20 rfl rfl)
theorem dL_law_703 : decode cL_law 703 = .ok (.iconst 0, 1) := dk_3 (dk_at dksL_law_29 23 rfl rfl)
theorem dL_law_704 : decode cL_law 704 = .ok (.ireturn, 1) := dk_172 (dk_at dksL_law_30 0 rfl rfl)
theorem dL_law_705 : decode cL_law 705 = .ok (.aload_n 1, 1) := dk_43 (dk_at dksL_law_30 1 rfl rfl)
theorem dL_law_706 : decode cL_law 706 = .ok (.iload 5, 2) := dk_21 5 (dk_at dksL_law_30 2 rfl rfl)
theorem dL_law_708 : decode cL_law 708 = .ok (.iload 6, 2) := dk_21 6 (dk_at dksL_law_30 4 rfl rfl)
theorem dL_law_710 : decode cL_law 710 = .ok (.invokevirtual 98, 3) := dk_182 0 98 (dk_at dksL_law_30 6 rfl rfl)
theorem dL_law_713 : decode cL_law 713 = .ok (.ifCond .eq 52, 3) := dk_153 0 52 (dk_at dksL_law_30 9 rfl rfl)
theorem dL_law_716 : decode cL_law 716 = .ok (.aload_n 1, 1) := dk_43 (dk_at dksL_law_30 12 rfl rfl)
theorem dL_law_717 : decode cL_law 717 = .ok (.iload 6, 2) := dk_21 6 (dk_at dksL_law_30 13 rfl rfl)
theorem dL_law_719 : decode cL_law 719 = .ok (.iload 5, 2) := dk_21 5 (dk_at dksL_law_30 15 rfl rfl)
theorem dL_law_721 : decode cL_law 721 = .ok (.invokevirtual 98, 3) := dk_182 0 98 (dk_at dksL_law_30 17 rfl rfl)
theorem dL_law_724 : decode cL_law 724 = .ok (.ifCond .eq 41, 3) := dk_153 0 41 (dk_at dksL_law_30 20 rfl rfl)
theorem dL_law_727 : decode cL_law 727 = .ok (.aload_n 1, 1) := dk_43 (dk_at dksL_law_30 23 rfl rfl)
theorem dL_law_728 : decode cL_law 728 = .ok (.iload 5, 2) := dk_21 5 (dk_at dksL_law_31 0 rfl rfl)
theorem dL_law_730 : decode cL_law 730 = .ok (.invokevirtual 85, 3) := dk_182 0 85 (dk_at dksL_law_31 2 rfl rfl)
theorem dL_law_733 : decode cL_law 733 = .ok (.aload_n 1, 1) := dk_43 (dk_at dksL_law_31 5 rfl rfl)
theorem dL_law_734 : decode cL_law 734 = .ok (.iload 6, 2) := dk_21 6 (dk_at dksL_law_31 6 rfl rfl)
theorem dL_law_736 : decode cL_law 736 = .ok (.invokevirtual 85, 3) := dk_182 0 85 (dk_at dksL_law_31 8 rfl rfl)
theorem dL_law_739 : decode cL_law 739 = .ok (.if_icmp .ne 26, 3) := dk_160 0 26 (dk_at dksL_law_31 11 rfl rfl)
theorem dL_law_742 : decode cL_law 742 = .ok (.aload_n 1, 1) := dk_43 (dk_at dksL_law_31 14 rfl rfl)
theorem dL_law_743 : decode cL_law 743 = .ok (.iload 5, 2) := dk_21 5 (dk_at dksL_law_31 15 rfl rfl)
theorem dL_law_745 : decode cL_law 745 = .ok (.invokevirtual 85, 3) := dk_182 0 85 (dk_at dksL_law_31 17 rfl rfl)
theorem dL_law_748 : decode cL_law 748 = .ok (.aload_n 3, 1) := dk_45 (dk_at dksL_law_31 20 rfl rfl)
theorem dL_law_749 : decode cL_law 749 = .ok (.iconst 0, 1) := dk_3 (dk_at dksL_law_31 21 rfl rfl)
theorem dL_law_750 : decode cL_law 750 = .ok (.iload 7, 2) := dk_21 7 (dk_at dksL_law_31 22 rfl rfl)
theorem dL_law_752 : decode cL_law 752 = .ok (.invokestatic 38, 3) := dk_184 0 38 (dk_at dksL_law_32 0 rfl rfl)
theorem dL_law_755 : decode cL_law 755 = .ok (.invokestatic 88, 3) := dk_184 0 88 (dk_at dksL_law_32 3 rfl rfl)
theorem dL_law_758 : decode cL_law 758 = .ok (.if_icmp .ne 7, 3) := dk_160 0 7 (dk_at dksL_law_32 6 rfl rfl)
theorem dL_law_761 : decode cL_law 761 = .ok (.iconst 1, 1) := dk_4 (dk_at dksL_law_32 9 rfl rfl)
theorem dL_law_762 : decode cL_law 762 = .ok (.goto 4, 3) := dk_167 0 4 (dk_at dksL_law_32 10 rfl rfl)
theorem dL_law_765 : decode cL_law 765 = .ok (.iconst 0, 1) := dk_3 (dk_at dksL_law_32 13 rfl rfl)
theorem dL_law_766 : decode cL_law 766 = .ok (.ireturn, 1) := dk_172 (dk_at dksL_law_32 14 rfl rfl)
end
section
/-! THE CLAIM OUT OF ONE WALK OF THE LAW'S BODY. Your part is whole_start (and what it stands on); all else here is the same for every law, but numbers. -/
def R_law : String := "FixedRowDeskLaw"
def lw_P (b : Addr) (xs : List Int32) (args : Array Value) (s : State) : Prop := args = #[.ref b] ∧ s.IntsAt b xs ∧ xs.length ≤ 96 ∧ (Jvm.Cond.and given_1 narrow_1).before args s = true
def lw_Q (_ : Array Value) (s : State) (o : Outcome) (t : State) : Prop := o = .returned (some (.int 1)) ∧ Framed s o t [] 1200192 5500522
def lw_Z (below : List Frame) (a : Array Value) (s : State) : State → Prop := fun t => ∃ o, t.status = .running ∧ Ended t below o ∧ lw_Q a s o t
/-- the law's own end, with 1 on the stack, nothing written that was there before, its room as the claim has it -/
theorem lw_ret {p : Program} {l : Launch} {e : Env} {s : State} {m : MethodId} {below : List Frame} {meth : Method} {c : Code} {b : Nat} (hx : p.tables.exec = Jvm.exec) (hb : c.code = code) (hr : meth.sig.returnType = ret) (hlocks : meth.locks = false) {pc : Nat} {H : Heap} {ls : Array Slot} (hdg : decode code pc = .ok (.ireturn, 1)) : W p l e room_1 s m #[Value.ref b] below meth c H [] 1200192 5500522 (lw_Z below #[Value.ref b] s) (F0 m pc ls [.int 1]) := by
  intro T hT X
  obtain ⟨fs, hret, hrun, hended, hW, hframe⟩ := X.leave (v := some (.int 1)) (hlocks := hlocks) (fun h => by rw [hr] at h; cases h)
  have hmeth' : T.vm.method? m = some meth := X.method'
  refine ⟨T.setFrames fs, ?_, .returned (some (.int 1)), hrun, hended, rfl, ⟨_, rfl⟩, hW, hframe⟩
  jvm_step X.here [X.here.top, hx, hb, hdg, hmeth', hr, ret, narrow_b1]
  (try refine ⟨rfl, ?_⟩); (try refine ⟨rfl, ?_⟩)
  first | (intro acts; rw [hret _ acts rfl rfl rfl]) | rw [hret _ _ rfl rfl rfl]
  exact Steps.refl _
/-- what holds at the law's entry: the machine, the code, the tables' words (any of lw_tbl by 'hts w (by decide +kernel)'), the script of L ints xs at the cell b, what the Statement gives of the start (any of its parts by flat_of_before) -/
def lw_At (p : Program) (s : State) (m : MethodId) (meth : Method) (c : Code) (b L : Nat) (xs : Nat → Int32) : Prop :=
  p.tables.exec = Jvm.exec ∧ c.code = code ∧ meth.sig.returnType = ret ∧ c.maxLocals = 18 ∧ s.vm.findClass R_law = some m.cls ∧ (∀ w ∈ lw_tbl, w.before #[Value.ref b] s = true) ∧ va_X b L xs s s.heap ∧ b < s.heap.size ∧ meth.locks = false ∧ (Jvm.Cond.and given_1 narrow_1).before #[Value.ref b] s = true
end
section
/-! THE WORLD AS A MAP. A method's world is a partial map from addresses to cells (il_M). Every contract speaks of the whole world; what a call leaves alone is said by the map itself. Bundled in G: the classes' numbers and slots, the three array classes (long[], ImmutableLongArray[], long[][]), which cells may change, two Strings' addresses, the script's array. -/
set_option maxRecDepth 100000
abbrev il_G : Type := va_G × (ClassId × ClassId × ClassId) × (Nat → Prop) × (Nat × Nat) × (Nat × Nat × (Nat → Int32))
abbrev il_cl : List vw_C := [(RX1, TX1, 3), (RX2, TX2, 3), (RX4, TX4, 2)]
abbrev il_D (G : il_G) : va_G := G.1
abbrev il_J (G : il_G) : ClassId := G.2.1.1
abbrev il_I (G : il_G) : ClassId := G.2.1.2.1
abbrev il_L (G : il_G) : ClassId := G.2.1.2.2
abbrev il_A (G : il_G) : Nat → Prop := G.2.2.1
abbrev il_s1 (G : il_G) : Nat := G.2.2.2.1.1
abbrev il_s2 (G : il_G) : Nat := G.2.2.2.1.2
abbrev il_b (G : il_G) : Nat := G.2.2.2.2.1
abbrev il_n (G : il_G) : Nat := G.2.2.2.2.2.1
abbrev il_x (G : il_G) : Nat → Int32 := G.2.2.2.2.2.2
abbrev il_tys (G : il_G) : List (ClassId × FieldType) := [(il_J G, .long), (il_I G, .object RX2), (il_L G, .array .long)]
abbrev il_M : Type := Nat → Option va_E
def il_P (G : il_G) (M : il_M) (H : Heap) : Prop := ∃ ws : va_W, va_P (il_D G) il_cl ws H ∧ va_D (il_A G) ws ∧ ∀ (a : Nat) (e : va_E), M a = some e → ∃ k : Nat, ws[k]? = some (a, e)
def il_up (M : il_M) (a : Nat) (e : va_E) : il_M := fun q => if q = a then some e else M q
theorem il_up_eq (M : il_M) (a : Nat) (e : va_E) : il_up M a e a = some e := by simp [il_up]
theorem il_up_ne {M : il_M} {a q : Nat} {e : va_E} (h : q ≠ a) : il_up M a e q = M q := by simp [il_up, h]
/-- two cells that differ in what they are lie apart -/
theorem il_ne {M : il_M} {a q : Nat} {e e' : va_E} (h : M a = some e) (h' : M q = some e') (hn : e ≠ e') : a ≠ q := fun z => hn (by subst z; exact Option.some.inj (h.symm.trans h'))
theorem il_new {M : il_M} {a q : Nat} {e : va_E} (h : M a = none) (h' : M q = some e) : q ≠ a := fun z => by subst z; rw [h] at h'; cases h'
theorem il_up_keep {M : il_M} {a q : Nat} {e e' : va_E} (hn : q ≠ a) (h : M q = some e') : il_up M a e q = some e' := by rw [il_up_ne hn]; exact h
abbrev il_eD (mk : Nat) (made : Int32) (rs : Nat) : va_E := .inr (0, [.ref mk, .int made, .ref rs])
abbrev il_eR (a : Nat) (st en : Int32) : va_E := .inr (1, [.ref a, .int st, .int en])
abbrev il_eB (a : Nat) (n : Int32) : va_E := .inr (2, [.ref a, .int n])
abbrev il_eJ (G : il_G) (n : Nat) (f : Nat → Int64) : va_E := .inl (il_J G, n, .inr (.inl f))
abbrev il_eI (G : il_G) (n : Nat) (f : Nat → Option Nat) : va_E := .inl (il_I G, n, .inr (.inr (.inr (.inr f))))
abbrev il_eL (G : il_G) (n : Nat) (f : Nat → Option Nat) : va_E := .inl (il_L G, n, .inr (.inr (.inr (.inr f))))
/-- what the tables and the premises give, all through the run -/
def il_K (G : il_G) (U : State) : Prop := va_K (il_D G) il_cl (il_tys G) U ∧ (∃ kA : Class, U.vm.classes[il_L G]? = some kA ∧ kA.kind = .array (il_J G) (.array .long)) ∧ va_AO RX2 U ∧ va_Nw (.castable "[J" "java/lang/Cloneable") U
  ∧ va_Nw (.fieldLinkNest RX4 27 "ImmutableLongArray" "array" "[J" RX2) U ∧ va_Nw (.fieldLinkNest RX4 28 "ImmutableLongArray" "start" "I" RX2) U
  ∧ va_Nw (.methodLinkNest RX4 61 yX2_init RX2) U ∧ va_Nw (.methodLinkNest RX4 64 yX2_init_2 RX2) U
  ∧ vk_R RX2 7 "Invalid initialCapacity: %s" (il_s1 G) U ∧ vk_R RX3 9 "index" (il_s2 G) U
theorem il_K.warm {G : il_G} {s U : State} (hW : s.WarmedH U.vm) (h : il_K G s) : il_K G U := by
  obtain ⟨h1, ⟨kA, h2, h3⟩, h4, h5, h6, h7, h8, h9, h10, h11⟩ := h
  refine ⟨va_K.moved hW.alike h1, ?_, va_AO.moved hW.alike h4, va_Nw.warmC hW h5, va_Nw.warmF hW h6, va_Nw.warmF hW h7, va_Nw.warmM hW h8, va_Nw.warmM hW h9, vk_R.warm hW h10, vk_R.warm hW h11⟩
  obtain ⟨k', hk', he⟩ := hW.alike.2.2 _ _ h2
  exact ⟨k', hk', by rw [he]; exact h3⟩
theorem il_K.same {G : il_G} {s U : State} (hv : U.vm = s.vm) (h : il_K G s) : il_K G U := by
  obtain ⟨h1, ⟨kA, h2, h3⟩, h4, h5, h6, h7, h8, h9, h10, h11⟩ := h
  have hA : s.vm.Alike U.vm := by rw [hv]; exact Vm.Alike.refl _
  refine ⟨va_K.moved hA h1, ⟨kA, by rw [hv]; exact h2, h3⟩, va_AO.moved hA h4, va_Nw.same rfl hv.symm h5, va_Nw.same rfl hv.symm h6, va_Nw.same rfl hv.symm h7, va_Nw.same rfl hv.symm h8, va_Nw.same rfl hv.symm h9, vk_R.same hv h10, vk_R.same hv h11⟩
/-- what holds at a frame's start, besides its world -/
def il_B (G : il_G) (s : State) : Prop := il_K G s ∧ (∀ q : Nat, s.heap.size ≤ q → il_A G q) ∧ va_X (il_b G) (il_n G) (il_x G) s s.heap ∧ il_b G < s.heap.size ∧ ¬ il_A G (il_b G)
def il_W (G : il_G) (s : State) (M : il_M) (H : Heap) (locs : List Loc) : Prop := il_P G M H ∧ va_S (il_A G) s.heap H locs
def il_In (G : il_G) (M : il_M) (U : State) : Prop := il_P G M U.heap ∧ il_B G U
theorem il_In.call {G : il_G} {M : il_M} {U : State} {g : JFrame} {mk : MethodId} {a : Array Value} (h : il_In G M U) : il_In G M (U.calling g mk a) := by
  obtain ⟨h1, h2, h3, h4, h5, h6⟩ := h
  exact ⟨h1, il_K.same rfl h2, h3, va_X.moved (u := U) (Vm.Alike.refl U.vm) h4, h5, h6⟩
theorem il_In.of {G : il_G} {M : il_M} {s U : State} {H : Heap} {locs : List Loc} (hB : il_B G s) (hw : il_W G s M H locs) (hU : U.heap = H) (hW : s.WarmedH U.vm) : il_In G M U := by
  obtain ⟨k1, k2, k3, k4, k5⟩ := hB
  refine ⟨by rw [hU]; exact hw.1, k1.warm hW, fun q hq => k2 q ?_, ?_, ?_, k5⟩
  · rw [hU] at hq
    exact Nat.le_trans hw.2.1 hq
  · refine va_X.moved (u := s) hW.alike (va_X.kept k3 ?_)
    rw [hU]
    exact hw.2.2.1 _ k4 k5
  · rw [hU]
    exact Nat.lt_of_lt_of_le k4 hw.2.1
/-- a room by its level: a caller's level is one more than its callees' -/
abbrev il_R (k mc ms : Nat) : Room := { frames := k, cells := mc, slots := ms, locals := 50 * k }
abbrev il_Pc (G : il_G) (args : List Value) (M : il_M) : Array Value → State → Prop := va_Pc args (il_In G M)
abbrev il_Qi (G : il_G) (post : Int32 → il_M → Prop) : Array Value → State → Outcome → State → Prop := va_Qi post (fun M t => il_P G M t.heap) (il_A G)
abbrev il_Ql (G : il_G) (post : Int64 → il_M → Prop) : Array Value → State → Outcome → State → Prop := va_Ql post (fun M t => il_P G M t.heap) (il_A G)
abbrev il_Qv (G : il_G) (post : il_M → Prop) : Array Value → State → Outcome → State → Prop := va_Qv post (fun M t => il_P G M t.heap) (il_A G)
abbrev il_Qr (G : il_G) (post : Nat → il_M → Prop) : Array Value → State → Outcome → State → Prop := va_Qr (fun u : il_M × Nat => post u.2 u.1) (fun u a t => a = u.2 ∧ il_P G u.1 t.heap) (il_A G)
/-- contracts: of an int (or boolean), a long, nothing, a reference -/
abbrev il_Ci (l : Launch) (G : il_G) (y : MethodName) (b : ByteArray) (L : Nat) (ft : FieldType) (k mc ms : Nat) (args : List Value) (M : il_M) (post : Int32 → il_M → Prop) : Prop := Met l y (ws_ y b L (some ft)) (il_R k mc ms) (il_Pc G args M) (il_Qi G post) mc ms (il_A G)
abbrev il_Cl (l : Launch) (G : il_G) (y : MethodName) (b : ByteArray) (L : Nat) (k mc ms : Nat) (args : List Value) (M : il_M) (post : Int64 → il_M → Prop) : Prop := Met l y (ws_ y b L (some .long)) (il_R k mc ms) (il_Pc G args M) (il_Ql G post) mc ms (il_A G)
abbrev il_Cv (l : Launch) (G : il_G) (y : MethodName) (b : ByteArray) (L : Nat) (k mc ms : Nat) (args : List Value) (M : il_M) (post : il_M → Prop) : Prop := Met l y (ws_ y b L none) (il_R k mc ms) (il_Pc G args M) (il_Qv G post) mc ms (il_A G)
abbrev il_Cr (l : Launch) (G : il_G) (y : MethodName) (b : ByteArray) (L : Nat) (ft : FieldType) (k mc ms : Nat) (args : List Value) (M : il_M) (post : Nat → il_M → Prop) : Prop := Met l y (ws_ y b L (some ft)) (il_R k mc ms) (il_Pc G args M) (il_Qr G post) mc ms (il_A G)
/-- what a frame knows from its start to its end -/
def il_F (G : il_G) (p : Program) (s : State) (m : MethodId) (args : Array Value) (meth : Method) (c : Code) (cc : ByteArray) (L : Nat) (ret : Option FieldType) (y : MethodName) : Prop := p.tables.exec = Jvm.exec ∧ c.code = cc ∧ meth.sig.returnType = ret ∧ meth.locks = false ∧ c.maxLocals = L ∧ s.vm.findClass y.cls = some m.cls ∧ meth.name = y.name ∧ (∀ w ∈ lw_all, w.before args s = true) ∧ il_B G s
theorem il_enter {l : Launch} {y : MethodName} {b : ByteArray} {L : Nat} {ret : Option FieldType} {rm : Room} {args : List Value} {M : il_M} {Qc : Array Value → State → Outcome → State → Prop} {mc ms : Nat} {G : il_G} (hy : plainName y.cls = true) (hL : (lg_sl args).length ≤ L)
    (body : ∀ (p : Program) (e : Env) (s : State) (m : MethodId) (below : List Frame) (meth : Method) (c : Code), il_F G p s m args.toArray meth c b L ret y → il_W G s M s.heap [] → ∀ ls : Array Slot, lv_has ls L (lv_args 0 args) → W p l e rm s m args.toArray below meth c s.heap [] 0 0 (MQ below Qc args.toArray s mc ms (il_A G)) (F0 m 0 ls [])) :
    Met l y (ws_ y b L ret) rm (il_Pc G args M) Qc mc ms (il_A G) := by
  refine Met.ofW (cc := b) (maxL := L) (ret := ret) hy rfl ?_
  intro p e s m args' below meth c s₁ B hml hv
  obtain ⟨rfl, hP, hB⟩ := hv
  have hts := atoms_spec (ws := ws_ y b L ret) B.pre
  have hts : ∀ w ∈ lw_all, w.before _ s = true := fun w h => hts w (List.mem_cons_of_mem _ h)
  have hown : s.vm.findClass y.cls = some m.cls := findClass_of_methodNamed B.named
  have hin : meth.name = y.name := (name_of_methodNamed B.named B.method).1
  rw [lg_entry_eq]
  exact body p e s m below meth c ⟨B.exec, B.bytes, B.returns, B.notSynchronized, hml, hown, hin, hts, hB⟩ ⟨hP, va_S.rf⟩ _ (lv_entry args hL)
section ILR
variable {p : Program} {l : Launch} {e : Env} {R : Room} {s : State} {m : MethodId} {args : Array Value} {below : List Frame} {meth : Method} {c : Code} {H : Heap} {locs : List Loc} {cells slots : Nat} {Q : State → Prop}
variable {cc : ByteArray} {pc : Nat} {ls : Array Slot} {rest : List Value} {G : il_G} {M : il_M} {a : Nat}
/-- the number on top under another name -/
theorem il_ti {x : Int32} (z : Int32) (h : x = z) (k : W p l e R s m args below meth c H locs cells slots Q (F0 m pc ls (.int z :: rest))) : W p l e R s m args below meth c H locs cells slots Q (F0 m pc ls (.int x :: rest)) := by rw [h]; exact k
theorem il_tl {x : Int64} (z : Int64) (h : x = z) (k : W p l e R s m args below meth c H locs cells slots Q (F0 m pc ls (.long z :: rest))) : W p l e R s m args below meth c H locs cells slots Q (F0 m pc ls (.long x :: rest)) := by rw [h]; exact k
/-- roads that meet again -/
theorem il_join {α : Sort _} (g : α → JFrame) (P : α → Prop) {g0 : JFrame} (k : ∀ z, P z → W p l e R s m args below meth c H locs cells slots Q (g z)) (h : (∀ z, P z → W p l e R s m args below meth c H locs cells slots Q (g z)) → W p l e R s m args below meth c H locs cells slots Q g0) : W p l e R s m args below meth c H locs cells slots Q g0 := h k
theorem il_get (hx : p.tables.exec = Jvm.exec) (hb : c.code = cc) {own ref C : String} {T : u_T} {N ci index : Nat} (hts : ∀ w ∈ lw_all, w.before args s = true) (hin : ∀ w ∈ u_ws C T N, w ∈ lw_all) (hown : s.vm.findClass own = some m.cls) (hB : il_B G s) (hw : il_W G s M H locs) {fs : List Value} (he : M a = some (.inr (ci, fs))) (hc : il_cl[ci]? = some (C, T, N)) (k : Nat) (hk : k < N) (hlink : (Cond.fieldLink own index ref (T k).2.1 (T k).2.2.1).before args s = true) (hsame : ∀ x, s.fieldFound? (T k).1 (T k).2.1 (T k).2.2.1 = some x → s.fieldFound? ref (T k).2.1 (T k).2.2.1 = some x) {v : Value} (hv : fs[k]? = some v) (hdg : decode cc pc = .ok (.getfield index, 3))
    (kk : W p l e R s m args below meth c H locs cells slots Q (F0 m (pc + 3) ls (v :: rest))) : W p l e R s m args below meth c H locs cells slots Q (F0 m pc ls (.ref a :: rest)) := by
  obtain ⟨⟨ws, hP, hD, hM⟩, hS⟩ := hw
  obtain ⟨q0, hq⟩ := hM a _ he
  exact va_get hx hb hts hin hown hB.1.1 hP q0 hq hc k hk hlink hsame hv hdg kk
theorem il_getN (hx : p.tables.exec = Jvm.exec) (hb : c.code = cc) {own ref C host : String} {T : u_T} {N ci index : Nat} (hts : ∀ w ∈ lw_all, w.before args s = true) (hin : ∀ w ∈ u_ws C T N, w ∈ lw_all) (hown : s.vm.findClass own = some m.cls) (hB : il_B G s) (hw : il_W G s M H locs) {fs : List Value} (he : M a = some (.inr (ci, fs))) (hc : il_cl[ci]? = some (C, T, N)) (k : Nat) (hk : k < N) (hlink : va_Nw (Cond.fieldLinkNest own index ref (T k).2.1 (T k).2.2.1 host) s) (hsame : ∀ x, s.fieldFound? (T k).1 (T k).2.1 (T k).2.2.1 = some x → s.fieldFound? ref (T k).2.1 (T k).2.2.1 = some x) {v : Value} (hv : fs[k]? = some v) (hdg : decode cc pc = .ok (.getfield index, 3))
    (kk : W p l e R s m args below meth c H locs cells slots Q (F0 m (pc + 3) ls (v :: rest))) : W p l e R s m args below meth c H locs cells slots Q (F0 m pc ls (.ref a :: rest)) := by
  obtain ⟨⟨ws, hP, hD, hM⟩, hS⟩ := hw
  obtain ⟨q0, hq⟩ := hM a _ he
  exact va_getN hx hb hts hin hown hB.1.1 hP q0 hq hc k hk (va_Nw.use rfl hlink) hsame hv hdg kk
/-- the map behind a write -/
theorem il_P.set {ws : va_W} {q0 : Nat} {e0 e1 : va_E} {H1 : Heap} (hP : va_P (il_D G) il_cl (ws.set q0 (a, e1)) H1) (hD0 : va_D (il_A G) ws) (hD : va_D (il_A G) (ws.set q0 (a, e1))) (hM : ∀ (a : Nat) (e : va_E), M a = some e → ∃ k : Nat, ws[k]? = some (a, e)) (hq : ws[q0]? = some (a, e0)) : il_P G (il_up M a e1) H1 := by
  refine ⟨_, hP, hD, fun b e hb => ?_⟩
  have hl := (List.getElem?_eq_some_iff.mp hq).1
  by_cases hba : b = a
  · subst hba
    rw [il_up_eq] at hb
    cases hb
    exact ⟨q0, List.getElem?_set_self hl⟩
  · rw [il_up_ne hba] at hb
    obtain ⟨k, hk⟩ := hM b e hb
    refine ⟨k, ?_⟩
    rw [List.getElem?_set_ne (fun z => ?_)]
    · exact hk
    · subst z
      rw [hq] at hk
      cases hk
      exact hba rfl
theorem il_P.push {ws : va_W} {q : Nat} {e1 : va_E} {H1 : Heap} (hP : va_P (il_D G) il_cl (ws ++ [(q, e1)]) H1) (hD : va_D (il_A G) (ws ++ [(q, e1)])) (hM : ∀ (a : Nat) (e : va_E), M a = some e → ∃ k : Nat, ws[k]? = some (a, e)) : M q = none ∧ il_P G (il_up M q e1) H1 := by
  have hlast : (ws ++ [(q, e1)])[ws.length]? = some (q, e1) := by simp
  have hold : ∀ (k : Nat) (x : Nat × va_E), ws[k]? = some x → (ws ++ [(q, e1)])[k]? = some x := fun k x hx => by
    rw [List.getElem?_append_left (List.getElem?_eq_some_iff.mp hx).1]
    exact hx
  have hn : M q = none := by
    cases h : M q with
    | none => rfl
    | some e =>
      obtain ⟨k, hk⟩ := hM q e h
      have h1 := hD.1 k ws.length _ _ (hold k _ hk) hlast rfl
      have h2 := (List.getElem?_eq_some_iff.mp hk).1
      omega
  refine ⟨hn, _, hP, hD, fun b e hb => ?_⟩
  by_cases hbq : b = q
  · subst hbq
    rw [il_up_eq] at hb
    cases hb
    exact ⟨_, hlast⟩
  · rw [il_up_ne hbq] at hb
    obtain ⟨k, hk⟩ := hM b e hb
    exact ⟨k, hold k _ hk⟩
theorem il_put (hx : p.tables.exec = Jvm.exec) (hb : c.code = cc) {own ref C : String} {T : u_T} {N ci index : Nat} (hts : ∀ w ∈ lw_all, w.before args s = true) (hin : ∀ w ∈ u_ws C T N, w ∈ lw_all) (ty0 : Nat → FieldType) (hty : ∀ k, k < N → parseFieldDescriptor (T k).2.2.1 = some (ty0 k)) (hnm : ∀ a, a < N → ∀ b, b < N → a ≠ b → (T a).2.1 ≠ (T b).2.1) (hown : s.vm.findClass own = some m.cls) (hB : il_B G s) (hw : il_W G s M H locs) {fs : List Value} (he : M a = some (.inr (ci, fs))) (hc : il_cl[ci]? = some (C, T, N)) (k : Nat) (hk : k < N) (hlink : (Cond.fieldLink own index ref (T k).2.1 (T k).2.2.1).before args s = true) (hsame : ∀ x, s.fieldFound? (T k).1 (T k).2.1 (T k).2.2.1 = some x → s.fieldFound? ref (T k).2.1 (T k).2.2.1 = some x) (hfin : (T k).2.2.2 = false) {ty : FieldType} {v : Value} (hd : parseFieldDescriptor (T k).2.2.1 = some ty) (hn : narrow ty v = v) (hfit : fits ty v = true) (hl : k < fs.length)
    (hdg : decode cc pc = .ok (.putfield index, 3)) (kk : ∀ (H1 : Heap) (locs1 : List Loc), il_W G s (il_up M a (.inr (ci, fs.set k v))) H1 locs1 → W p l e R s m args below meth c H1 locs1 cells slots Q (F0 m (pc + 3) ls rest)) : W p l e R s m args below meth c H locs cells slots Q (F0 m pc ls (v :: .ref a :: rest)) := by
  obtain ⟨⟨ws, hP, hD, hM⟩, hS⟩ := hw
  obtain ⟨q0, hq⟩ := hM a _ he
  exact va_put hx hb hts hin ty0 hty hnm hown hB.1.1 hP hD hS q0 hq hc k hk hlink hsame hfin hd hn hfit hl hdg fun H1 locs1 hP1 hD1 hS1 => kk H1 locs1 ⟨il_P.set hP1 hD hD1 hM hq, hS1⟩
theorem il_putF (hx : p.tables.exec = Jvm.exec) (hb : c.code = cc) {own ref C : String} {T : u_T} {N ci index : Nat} (hts : ∀ w ∈ lw_all, w.before args s = true) (hin : ∀ w ∈ u_ws C T N, w ∈ lw_all) (ty0 : Nat → FieldType) (hty : ∀ k, k < N → parseFieldDescriptor (T k).2.2.1 = some (ty0 k)) (hnm : ∀ a, a < N → ∀ b, b < N → a ≠ b → (T a).2.1 ≠ (T b).2.1) (hown : s.vm.findClass own = some m.cls) (hB : il_B G s) (hw : il_W G s M H locs) {fs : List Value} (he : M a = some (.inr (ci, fs))) (hc : il_cl[ci]? = some (C, T, N)) (k : Nat) (hk : k < N) (hlink : (Cond.fieldLink own index ref (T k).2.1 (T k).2.2.1).before args s = true) (hsame : ∀ x, s.fieldFound? (T k).1 (T k).2.1 (T k).2.2.1 = some x → s.fieldFound? ref (T k).2.1 (T k).2.2.1 = some x) (hfin : (T k).2.2.2 = true) (hin2 : meth.name = "<init>") (hdecl : (T k).1 = own) {ty : FieldType} {v : Value} (hd : parseFieldDescriptor (T k).2.2.1 = some ty) (hn : narrow ty v = v) (hfit : fits ty v = true) (hl : k < fs.length)
    (hdg : decode cc pc = .ok (.putfield index, 3)) (kk : ∀ (H1 : Heap) (locs1 : List Loc), il_W G s (il_up M a (.inr (ci, fs.set k v))) H1 locs1 → W p l e R s m args below meth c H1 locs1 cells slots Q (F0 m (pc + 3) ls rest)) : W p l e R s m args below meth c H locs cells slots Q (F0 m pc ls (v :: .ref a :: rest)) := by
  obtain ⟨⟨ws, hP, hD, hM⟩, hS⟩ := hw
  obtain ⟨q0, hq⟩ := hM a _ he
  exact va_putF hx hb hts hin ty0 hty hnm hown hB.1.1 hP hD hS q0 hq hc k hk hlink hsame hfin hin2 hdecl hd hn hfit hl hdg fun H1 locs1 hP1 hD1 hS1 => kk H1 locs1 ⟨il_P.set hP1 hD hD1 hM hq, hS1⟩
/-- arrays of longs -/
theorem il_lald (hx : p.tables.exec = Jvm.exec) (hb : c.code = cc) (hB : il_B G s) (hw : il_W G s M H locs) {n : Nat} {f : Nat → Int64} (he : M a = some (il_eJ G n f)) {x : Int32} {i : Nat} (hi : i < n) (hn : n < 2 ^ 31) (hxi : x = nI i) (hdg : decode cc pc = .ok (.laload, 1))
    (kk : W p l e R s m args below meth c H locs cells slots Q (F0 m (pc + 1) ls (.long (f i) :: rest))) : W p l e R s m args below meth c H locs cells slots Q (F0 m pc ls (.int x :: .ref a :: rest)) := by
  obtain ⟨⟨ws, hP, hD, hM⟩, hS⟩ := hw
  obtain ⟨q0, hq⟩ := hM a _ he
  subst hxi
  refine va_lald hx hb hB.1.1 hP q0 0 hq rfl (vp_in_nI hi hn) hdg ?_
  rw [nI_clamp (by omega)]
  exact kk
theorem il_last (hx : p.tables.exec = Jvm.exec) (hb : c.code = cc) (hB : il_B G s) (hw : il_W G s M H locs) {n : Nat} {f : Nat → Int64} (he : M a = some (il_eJ G n f)) {x : Int32} {y : Int64} {i : Nat} (hi : i < n) (hn : n < 2 ^ 31) (hxi : x = nI i) (hdg : decode cc pc = .ok (.lastore, 1))
    (kk : ∀ (H1 : Heap) (locs1 : List Loc), il_W G s (il_up M a (il_eJ G n (vp_updL f i y))) H1 locs1 → W p l e R s m args below meth c H1 locs1 cells slots Q (F0 m (pc + 1) ls rest)) : W p l e R s m args below meth c H locs cells slots Q (F0 m pc ls (.long y :: .int x :: .ref a :: rest)) := by
  obtain ⟨⟨ws, hP, hD, hM⟩, hS⟩ := hw
  obtain ⟨q0, hq⟩ := hM a _ he
  subst hxi
  refine va_last hx hb hB.1.1 hP hD hS q0 0 hq rfl (vp_in_nI hi hn) hdg fun H1 locs1 hP1 hD1 hS1 => ?_
  rw [nI_clamp (by omega)] at hP1 hD1
  exact kk H1 locs1 ⟨il_P.set hP1 hD hD1 hM hq, hS1⟩
theorem il_alen (hx : p.tables.exec = Jvm.exec) (hb : c.code = cc) (hB : il_B G s) (hw : il_W G s M H locs) {n : Nat} {f : Nat → Int64} (he : M a = some (il_eJ G n f)) (hdg : decode cc pc = .ok (.arraylength, 1))
    (kk : W p l e R s m args below meth c H locs cells slots Q (F0 m (pc + 1) ls (.int (nI n) :: rest))) : W p l e R s m args below meth c H locs cells slots Q (F0 m pc ls (.ref a :: rest)) := by
  obtain ⟨⟨ws, hP, hD, hM⟩, hS⟩ := hw
  obtain ⟨q0, hq⟩ := hM a _ he
  exact va_alen (ty := .long) hx hb hB.1.1 hP q0 0 hq rfl rfl hdg kk
theorem il_newJ (hx : p.tables.exec = Jvm.exec) (hb : c.code = cc) (hts : ∀ w ∈ lw_all, w.before args s = true) (hB : il_B G s) (hw : il_W G s M H locs) {x : Int32} {n : Nat} (hn : n < 1000) (hxn : x = nI n) (hcells : cells + 1 ≤ R.cells) (hslots : slots + n ≤ R.slots) (hdg : decode cc pc = .ok (.newarray .long, 2))
    (kk : ∀ (q : Nat) (H1 : Heap) (locs1 : List Loc), M q = none → il_W G s (il_up M q (il_eJ G n (fun _ => 0))) H1 locs1 → W p l e R s m args below meth c H1 locs1 (cells + 1) (slots + n) Q (F0 m (pc + 2) ls (.ref q :: rest))) : W p l e R s m args below meth c H locs cells slots Q (F0 m pc ls (.int x :: rest)) := by
  obtain ⟨⟨ws, hP, hD, hM⟩, hS⟩ := hw
  subst hxn
  refine va_newa (atype := .long) (ty := .long) (N' := n) (a0 := (n, .inr (.inl (fun _ => 0)))) hx hb (hts _ q116) rfl hB.1.1 hP hD hS hB.2.1 (fun cA => rfl) (nI_pos (by omega)) (nI_clamp (by omega)) (by show n * 8 ≤ _; omega) hcells hslots hdg fun q cA H1 hK1 hP1 hD1 hS1 => ?_
  have h0 : va_RA s (il_J G) .long := (hB.1.1.2 0 _ rfl).2
  have h1 : va_RA s cA .long := (hK1.2 3 (cA, .long) rfl).2
  have e : cA = il_J G := Option.some.inj ((va_nm_long h1).symm.trans (va_nm_long h0))
  subst e
  obtain ⟨z1, z2⟩ := il_P.push hP1 hD1 hM
  exact kk q H1 _ z1 ⟨z2, hS1⟩
/-- a new object -/
theorem il_newO (hx : p.tables.exec = Jvm.exec) (hb : c.code = cc) {own C : String} {T : u_T} {N ci index : Nat} (hts : ∀ w ∈ lw_all, w.before args s = true) (hin : ∀ w ∈ u_ws C T N, w ∈ lw_all) (ty : Nat → FieldType) (hty : ∀ k, k < N → parseFieldDescriptor (T k).2.2.1 = some (ty k)) (hown : s.vm.findClass own = some m.cls) (hcl : (Cond.classLink own index C).before args s = true) (hinst : (Cond.instantiable C N).before args s = true) (hini : (Cond.initialized C).before args s = true)
    (hB : il_B G s) (hw : il_W G s M H locs) (hc : il_cl[ci]? = some (C, T, N)) {fs : List Value} (hfs : ∀ j, j < N → defaultValue (ty j) = vp_V fs j) (hcells : cells + 1 ≤ R.cells) (hslots : slots + N ≤ R.slots) (hdg : decode cc pc = .ok (.new index, 3))
    (kk : ∀ (q : Nat) (H1 : Heap) (locs1 : List Loc), M q = none → il_W G s (il_up M q (.inr (ci, fs))) H1 locs1 → W p l e R s m args below meth c H1 locs1 (cells + 1) (slots + N) Q (F0 m (pc + 3) ls (.ref q :: rest))) : W p l e R s m args below meth c H locs cells slots Q (F0 m pc ls rest) := by
  obtain ⟨⟨ws, hP, hD, hM⟩, hS⟩ := hw
  refine va_new hx hb hts hin ty hty hown hcl hinst hini hB.1.1 hP hD hS hB.2.1 hc hfs hcells hslots hdg fun q H1 hP1 hD1 hS1 => ?_
  obtain ⟨z1, z2⟩ := il_P.push hP1 hD1 hM
  exact kk q H1 _ z1 ⟨z2, hS1⟩
/-- arrays of ImmutableLongArray -/
theorem il_rald (hx : p.tables.exec = Jvm.exec) (hb : c.code = cc) (hB : il_B G s) (hw : il_W G s M H locs) {n : Nat} {f : Nat → Option Nat} (he : M a = some (il_eI G n f)) {x : Int32} {i r : Nat} (hi : i < n) (hn : n < 2 ^ 31) (hxi : x = nI i) (hr : f i = some r) (hdg : decode cc pc = .ok (.aaload, 1))
    (kk : W p l e R s m args below meth c H locs cells slots Q (F0 m (pc + 1) ls (.ref r :: rest))) : W p l e R s m args below meth c H locs cells slots Q (F0 m pc ls (.int x :: .ref a :: rest)) := by
  obtain ⟨⟨ws, hP, hD, hM⟩, hS⟩ := hw
  obtain ⟨q0, hq⟩ := hM a _ he
  subst hxi
  refine va_aldq (C := RX2) hx hb hB.1.1 hP q0 1 hq rfl (vp_in_nI hi hn) hdg ?_
  rw [nI_clamp (by omega), hr]
  exact kk
theorem il_rast (hx : p.tables.exec = Jvm.exec) (hb : c.code = cc) (hB : il_B G s) (hw : il_W G s M H locs) {n : Nat} {f : Nat → Option Nat} (he : M a = some (il_eI G n f)) {x : Int32} {i v : Nat} {vs : List Value} (hv : M v = some (.inr (1, vs))) (hi : i < n) (hn : n < 2 ^ 31) (hxi : x = nI i) (hdg : decode cc pc = .ok (.aastore, 1))
    (kk : ∀ (H1 : Heap) (locs1 : List Loc), il_W G s (il_up M a (il_eI G n (va_up f i (some v)))) H1 locs1 → W p l e R s m args below meth c H1 locs1 cells slots Q (F0 m (pc + 1) ls rest)) : W p l e R s m args below meth c H locs cells slots Q (F0 m pc ls (.ref v :: .int x :: .ref a :: rest)) := by
  obtain ⟨⟨ws, hP, hD, hM⟩, hS⟩ := hw
  obtain ⟨q0, hq⟩ := hM a _ he
  obtain ⟨q1, hq1⟩ := hM v _ hv
  subst hxi
  refine va_astq (r := (RX2, TX2, 3)) hx hb hB.1.1 hP hD hS q0 1 q1 1 hq rfl hq1 rfl (vp_in_nI hi hn) hdg fun H1 locs1 hP1 hD1 hS1 => ?_
  rw [nI_clamp (by omega)] at hP1 hD1
  exact kk H1 locs1 ⟨il_P.set hP1 hD hD1 hM hq, hS1⟩
theorem il_newI (hx : p.tables.exec = Jvm.exec) (hb : c.code = cc) {own : String} {index : Nat} (hown : s.vm.findClass own = some m.cls) (hcl : (Cond.classLink own index RX2).before args s = true) (hB : il_B G s) (hw : il_W G s M H locs) {x : Int32} {n : Nat} (hn : n < 1000) (hxn : x = nI n) (hcells : cells + 1 ≤ R.cells) (hslots : slots + n ≤ R.slots) (hdg : decode cc pc = .ok (.anewarray index, 3))
    (kk : ∀ (q : Nat) (H1 : Heap) (locs1 : List Loc), M q = none → il_W G s (il_up M q (il_eI G n (fun _ => none))) H1 locs1 → W p l e R s m args below meth c H1 locs1 (cells + 1) (slots + n) Q (F0 m (pc + 3) ls (.ref q :: rest))) : W p l e R s m args below meth c H locs cells slots Q (F0 m pc ls (.int x :: rest)) := by
  obtain ⟨⟨ws, hP, hD, hM⟩, hS⟩ := hw
  subst hxn
  refine va_newq (N' := n) hx hb hown hcl hB.1.2.2.1 hB.1.1 hP hD hS hB.2.1 (nI_pos (by omega)) (nI_clamp (by omega)) (by omega) hcells hslots hdg fun q cA H1 hK1 hP1 hD1 hS1 => ?_
  have h0 : va_RA s (il_I G) (.object RX2) := (hB.1.1.2 1 _ rfl).2
  have h1 : va_RA s cA (.object RX2) := (hK1.2 3 (cA, .object RX2) rfl).2
  obtain ⟨-, -, -, -, -, g0⟩ := h0
  obtain ⟨-, -, -, -, -, g1⟩ := h1
  have e : cA = il_I G := Option.some.inj (g1.symm.trans g0)
  subst e
  obtain ⟨z1, z2⟩ := il_P.push hP1 hD1 hM
  exact kk q H1 _ z1 ⟨z2, hS1⟩
end ILR
end
section
/-! CALLS, RETURNS, copies, arrays of arrays, the script: over the world as a map -/
set_option maxRecDepth 100000
theorem il_nb {z : Int32} (h : z = 0 ∨ z = 1) : narrow .boolean (.int z) = .int z := by rcases h with rfl | rfl <;> rfl
theorem il_nif {P : Prop} [Decidable P] : narrow .boolean (.int (if P then 1 else 0)) = .int (if P then 1 else 0) := by split <;> rfl
theorem il_K.s1 {G : il_G} {s : State} (h : il_K G s) : vk_R RX2 7 "Invalid initialCapacity: %s" (il_s1 G) s := h.2.2.2.2.2.2.2.2.1
theorem il_K.s2 {G : il_G} {s : State} (h : il_K G s) : vk_R RX3 9 "index" (il_s2 G) s := h.2.2.2.2.2.2.2.2.2
theorem il_K.cl {G : il_G} {s : State} (h : il_K G s) : va_Nw (.castable "[J" "java/lang/Cloneable") s := h.2.2.2.1
theorem il_K.f27 {G : il_G} {s : State} (h : il_K G s) : va_Nw (.fieldLinkNest RX4 27 "ImmutableLongArray" "array" "[J" RX2) s := h.2.2.2.2.1
theorem il_K.f28 {G : il_G} {s : State} (h : il_K G s) : va_Nw (.fieldLinkNest RX4 28 "ImmutableLongArray" "start" "I" RX2) s := h.2.2.2.2.2.1
theorem il_K.m61 {G : il_G} {s : State} (h : il_K G s) : va_Nw (.methodLinkNest RX4 61 yX2_init RX2) s := h.2.2.2.2.2.2.1
theorem il_K.m64 {G : il_G} {s : State} (h : il_K G s) : va_Nw (.methodLinkNest RX4 64 yX2_init_2 RX2) s := h.2.2.2.2.2.2.2.1
section ILC
variable {p : Program} {l : Launch} {e : Env} {R : Room} {s : State} {m : MethodId} {args : Array Value} {below : List Frame} {meth : Method} {c : Code} {H : Heap} {locs : List Loc} {cells slots : Nat} {Q : State → Prop}
variable {cc : ByteArray} {pc : Nat} {ls : Array Slot} {rest st0 : List Value} {G : il_G} {M : il_M} {a : Nat} {av : Array Value} {mc ms : Nat}
theorem il_ri {post : Int32 → il_M → Prop} (hw : il_W G s M H locs) (hr : va_Run p l e R s m args below meth c H locs cells slots mc ms (F0 m pc ls st0) rest (il_Qi G post av) (il_A G))
    (kk : ∀ (r : Int32) (M : il_M) (H : Heap) (locs : List Loc), post r M → il_W G s M H locs → W p l e R s m args below meth c H locs (cells + mc) (slots + ms) Q (F0 m (pc + 3) ls (.int r :: rest))) : W p l e R s m args below meth c H locs cells slots Q (F0 m pc ls st0) :=
  va_calli hr hw.2 (fun _ _ h => h) (fun _ h => h) fun r u t H1 locs1 ht _ hp hB _ _ hS => kk r u H1 locs1 hp ⟨by rw [← ht]; exact hB, hS⟩
theorem il_rl {post : Int64 → il_M → Prop} (hw : il_W G s M H locs) (hr : va_Run p l e R s m args below meth c H locs cells slots mc ms (F0 m pc ls st0) rest (il_Ql G post av) (il_A G))
    (kk : ∀ (r : Int64) (M : il_M) (H : Heap) (locs : List Loc), post r M → il_W G s M H locs → W p l e R s m args below meth c H locs (cells + mc) (slots + ms) Q (F0 m (pc + 3) ls (.long r :: rest))) : W p l e R s m args below meth c H locs cells slots Q (F0 m pc ls st0) :=
  va_calll hr hw.2 (fun _ _ h => h) (fun _ h => h) fun r u t H1 locs1 ht _ hp hB _ _ hS => kk r u H1 locs1 hp ⟨by rw [← ht]; exact hB, hS⟩
theorem il_rv {post : il_M → Prop} (hw : il_W G s M H locs) (hr : va_Run p l e R s m args below meth c H locs cells slots mc ms (F0 m pc ls st0) rest (il_Qv G post av) (il_A G))
    (kk : ∀ (M : il_M) (H : Heap) (locs : List Loc), post M → il_W G s M H locs → W p l e R s m args below meth c H locs (cells + mc) (slots + ms) Q (F0 m (pc + 3) ls rest)) : W p l e R s m args below meth c H locs cells slots Q (F0 m pc ls st0) :=
  va_callv hr hw.2 (fun _ _ h => h) (fun _ h => h) fun u t H1 locs1 ht _ hp hB _ _ hS => kk u H1 locs1 hp ⟨by rw [← ht]; exact hB, hS⟩
theorem il_rr {post : Nat → il_M → Prop} (hw : il_W G s M H locs) (hr : va_Run p l e R s m args below meth c H locs cells slots mc ms (F0 m pc ls st0) rest (il_Qr G post av) (il_A G))
    (kk : ∀ (r : Nat) (M : il_M) (H : Heap) (locs : List Loc), post r M → il_W G s M H locs → W p l e R s m args below meth c H locs (cells + mc) (slots + ms) Q (F0 m (pc + 3) ls (.ref r :: rest))) : W p l e R s m args below meth c H locs cells slots Q (F0 m pc ls st0) :=
  va_callr hr hw.2 (fun _ _ h => h) (fun _ h => h) fun u r t H1 locs1 ht _ hp hB _ _ hS => kk r u.1 H1 locs1 (by rw [hB.1]; exact hp) ⟨by rw [← ht]; exact hB.2, hS⟩
/-- a call through an object -/
theorem il_rV {y : MethodName} {bytes : ByteArray} {maxL nL n index k : Nat} {ret : Option FieldType} {Qc : Array Value → State → Outcome → State → Prop} {own C : String} {h ci : Nat} {As : List Value} {fs : List Value} {T : u_T} {N : Nat}
    (S : CallFix p m c cc nL s args lw_all own) (hM : Met l y (ws_ y bytes maxL ret) (il_R k mc ms) (il_Pc G (.ref h :: As) M) Qc mc ms (il_A G)) (hg : GoodIn lw_all (wsV own index C y (ws_ y bytes maxL ret)))
    (hd : y.cls = C ∧ y.cls ≠ "java/lang/invoke/MethodHandle" ∧ y.cls ≠ "java/lang/invoke/VarHandle" ∧ (parseMethodDescriptor y.desc).map (fun d => d.parameters.length) = some n) (hR : k + 1 ≤ R.frames ∧ 8 + (maxL + 11) + 50 * k ≤ R.locals)
    (hB : il_B G s) (hw : il_W G s M H locs) (he : M h = some (.inr (ci, fs))) (hc : il_cl[ci]? = some (C, T, N))
    (hn : As.length = n) (hsize : ls.size = nL) (hstack : st0 = As.reverse ++ .ref h :: rest) (hW : (rest.map fun v => v.category).sum ≤ 8) (hdg : decode cc pc = .ok (.invokevirtual index, 3)) (hf : cells + mc ≤ R.cells ∧ slots + ms ≤ R.slots) :
    va_Run p l e R s m args below meth c H locs cells slots mc ms (F0 m pc ls st0) rest (Qc (Value.ref h :: As).toArray) (il_A G) := by
  refine va_runV (As := As) (rest := rest) S hM (cwV n S.2.2.2.2 hg rfl rfl rfl hd hR) ⟨fun a U g mk q => ⟨q.1, q.2.call⟩, ?_, fun U hU hW => ⟨rfl, il_In.of hB hw hU hW⟩⟩ rfl hn hsize hstack (lv_room hW) hdg hf
  obtain ⟨⟨ws, hP, hD, hM'⟩, hS⟩ := hw
  obtain ⟨q0, hq⟩ := hM' h _ he
  exact va_recv hB.1.1 hP hc hq
theorem il_rS {y : MethodName} {bytes : ByteArray} {maxL nL n index k : Nat} {ret : Option FieldType} {Qc : Array Value → State → Outcome → State → Prop} {own : String} {As : List Value}
    (S : CallFix p m c cc nL s args lw_all own) (hM : Met l y (ws_ y bytes maxL ret) (il_R k mc ms) (il_Pc G As M) Qc mc ms (il_A G)) (hg : GoodIn lw_all (va_wsS own index y (ws_ y bytes maxL ret)))
    (hd : y.cls ≠ "java/lang/invoke/MethodHandle" ∧ y.cls ≠ "java/lang/invoke/VarHandle" ∧ (parseMethodDescriptor y.desc).map (fun d => d.parameters.length) = some n) (hR : k + 1 ≤ R.frames ∧ 8 + (maxL + 11) + 50 * k ≤ R.locals)
    (hB : il_B G s) (hw : il_W G s M H locs)
    (hn : As.length = n) (hsize : ls.size = nL) (hstack : st0 = As.reverse ++ rest) (hW : (rest.map fun v => v.category).sum ≤ 8) (hdg : decode cc pc = .ok (.invokestatic index, 3)) (hf : cells + mc ≤ R.cells ∧ slots + ms ≤ R.slots) :
    va_Run p l e R s m args below meth c H locs cells slots mc ms (F0 m pc ls st0) rest (Qc As.toArray) (il_A G) :=
  va_runS (As := As) (rest := rest) S hM (va_cwS n S.2.2.2.2 hg rfl rfl rfl hd hR) ⟨fun a U g mk q => ⟨q.1, q.2.call⟩, fun U hU hW => ⟨rfl, il_In.of hB hw hU hW⟩⟩ rfl hn hsize hstack (lv_room hW) hdg hf
theorem il_rI {y : MethodName} {bytes : ByteArray} {maxL nL n index k : Nat} {Qc : Array Value → State → Outcome → State → Prop} {own : String} {h : Nat} {As : List Value}
    (S : CallFix p m c cc nL s args lw_all own) (hM : Met l y (ws_ y bytes maxL none) (il_R k mc ms) (il_Pc G (.ref h :: As) M) Qc mc ms (il_A G)) (hg : GoodIn lw_all (ws_ y bytes maxL none))
    (hini : (Cond.initialized y.cls).before args s = true) (hl : (Cond.methodLink own index y).before args s = true) (hin : (Cond.instanceMethod y).before args s = true) (hy1 : y.name = "<init>")
    (hd : y.cls ≠ "java/lang/invoke/MethodHandle" ∧ y.cls ≠ "java/lang/invoke/VarHandle" ∧ (parseMethodDescriptor y.desc).map (fun d => d.parameters.length) = some n) (hR : k + 1 ≤ R.frames ∧ 8 + (maxL + 11) + 50 * k ≤ R.locals)
    (hB : il_B G s) (hw : il_W G s M H locs)
    (hn : As.length = n) (hsize : ls.size = nL) (hstack : st0 = As.reverse ++ .ref h :: rest) (hW : (rest.map fun v => v.category).sum ≤ 8) (hdg : decode cc pc = .ok (.invokespecial index, 3)) (hf : cells + mc ≤ R.cells ∧ slots + ms ≤ R.slots) :
    va_Run p l e R s m args below meth c H locs cells slots mc ms (F0 m pc ls st0) rest (Qc (Value.ref h :: As).toArray) (il_A G) :=
  va_runI (As := As) (rest := rest) S hM (cwI n S.2.2.2.2 hg rfl rfl rfl hini hl hin hy1 hd hR) ⟨fun a U g mk q => ⟨q.1, q.2.call⟩, fun U hU hW => ⟨rfl, il_In.of hB hw hU hW⟩⟩ rfl hn hsize hstack (lv_room hW) hdg hf
/-- a nest mate's private constructor -/
theorem il_rIN {y : MethodName} {bytes : ByteArray} {maxL nL n index k : Nat} {Qc : Array Value → State → Outcome → State → Prop} {own host : String} {h : Nat} {As : List Value}
    (S : CallFix p m c cc nL s args lw_all own) (hM : Met l y (ws_ y bytes maxL none) (il_R k mc ms) (il_Pc G (.ref h :: As) M) Qc mc ms (il_A G)) (hg : GoodIn lw_all (ws_ y bytes maxL none))
    (hini : (Cond.initialized y.cls).before args s = true) (hl : va_Nw (.methodLinkNest own index y host) s) (hin : (Cond.instanceMethod y).before args s = true) (hy1 : y.name = "<init>")
    (hd : y.cls ≠ "java/lang/invoke/MethodHandle" ∧ y.cls ≠ "java/lang/invoke/VarHandle" ∧ (parseMethodDescriptor y.desc).map (fun d => d.parameters.length) = some n) (hR : k + 1 ≤ R.frames ∧ 8 + (maxL + 11) + 50 * k ≤ R.locals)
    (hB : il_B G s) (hw : il_W G s M H locs)
    (hn : As.length = n) (hsize : ls.size = nL) (hstack : st0 = As.reverse ++ .ref h :: rest) (hW : (rest.map fun v => v.category).sum ≤ 8) (hdg : decode cc pc = .ok (.invokespecial index, 3)) (hf : cells + mc ≤ R.cells ∧ slots + ms ≤ R.slots) :
    va_Run p l e R s m args below meth c H locs cells slots mc ms (F0 m pc ls st0) rest (Qc (Value.ref h :: As).toArray) (il_A G) :=
  va_runIN (As := As) (rest := rest) S hM ⟨va_cnB n S.2.2.2.2 hg rfl rfl rfl hl hini hd hR, hy1, hin⟩ ⟨fun a U g mk q => ⟨q.1, q.2.call⟩, fun U hU hW => ⟨rfl, il_In.of hB hw hU hW⟩⟩ rfl hn hsize hstack (lv_room hW) hdg hf
/-- returns -/
theorem il_iret {post : Int32 → il_M → Prop} {v : Int32} {ft : FieldType} (hx : p.tables.exec = Jvm.exec) (hb : c.code = cc) (hr : meth.sig.returnType = some ft) (hlk : meth.locks = false) (hn : narrow ft (.int v) = .int v) (hw : il_W G s M H locs) (hp : post v M) (hc : cells ≤ mc) (hs : slots ≤ ms) (hdg : decode cc pc = .ok (.ireturn, 1)) :
    W p l e R s m args below meth c H locs cells slots (MQ below (il_Qi G post) args s mc ms (il_A G)) (F0 m pc ls [.int v]) := by
  refine W.widen hc hs ?_
  exact W.zret (v := v) hx hb hr hn (fun t ht hW => ⟨⟨v, M, rfl, hp, by show il_P G M t.heap; rw [ht]; exact hw.1⟩, hw.2.F ht⟩) hw.2.2.2 hdg hlk
theorem il_lret {post : Int64 → il_M → Prop} {v : Int64} (hx : p.tables.exec = Jvm.exec) (hb : c.code = cc) (hr : meth.sig.returnType = some .long) (hlk : meth.locks = false) (hw : il_W G s M H locs) (hp : post v M) (hc : cells ≤ mc) (hs : slots ≤ ms) (hdg : decode cc pc = .ok (.lreturn, 1)) :
    W p l e R s m args below meth c H locs cells slots (MQ below (il_Ql G post) args s mc ms (il_A G)) (F0 m pc ls [.long v]) := by
  refine W.widen hc hs ?_
  exact W.lret (v := v) hx hb hr (fun t ht hW => ⟨⟨v, M, rfl, hp, by show il_P G M t.heap; rw [ht]; exact hw.1⟩, hw.2.F ht⟩) hw.2.2.2 hdg hlk
theorem il_vret {post : il_M → Prop} (hx : p.tables.exec = Jvm.exec) (hb : c.code = cc) (hr : meth.sig.returnType = none) (hlk : meth.locks = false) (hw : il_W G s M H locs) (hp : post M) (hc : cells ≤ mc) (hs : slots ≤ ms) (hdg : decode cc pc = .ok (.return_, 1)) :
    W p l e R s m args below meth c H locs cells slots (MQ below (il_Qv G post) args s mc ms (il_A G)) (F0 m pc ls []) := by
  refine W.widen hc hs ?_
  exact W.vret hx hb hr (fun t ht hW => ⟨⟨M, rfl, hp, by show il_P G M t.heap; rw [ht]; exact hw.1⟩, hw.2.F ht⟩) hw.2.2.2 hdg hlk
theorem il_aret {post : Nat → il_M → Prop} {r : Nat} {rt : FieldType} (hx : p.tables.exec = Jvm.exec) (hb : c.code = cc) (hr : meth.sig.returnType = some rt) (hrt : (∃ n, rt = .object n) ∨ ∃ t, rt = .array t) (hlk : meth.locks = false) (hw : il_W G s M H locs) (hp : post r M) (hc : cells ≤ mc) (hs : slots ≤ ms) (hdg : decode cc pc = .ok (.areturn, 1)) :
    W p l e R s m args below meth c H locs cells slots (MQ below (il_Qr G post) args s mc ms (il_A G)) (F0 m pc ls [.ref r]) := by
  refine W.widen hc hs ?_
  exact W.aret (v := .ref r) hx hb hr hrt (Or.inr ⟨r, rfl⟩) (fun t ht hW => ⟨⟨(M, r), r, rfl, hp, rfl, by show il_P G M t.heap; rw [ht]; exact hw.1⟩, hw.2.F ht⟩) hw.2.2.2 hdg hlk
/-- roads that meet again, the world being the same, the heap perhaps another -/
theorem il_joinW {α : Sort _} (g : α → JFrame) (P : α → Prop) (kc ks : Nat) {g0 : JFrame} (k : ∀ (z : α) (H : Heap) (locs : List Loc), P z → il_W G s M H locs → W p l e R s m args below meth c H locs kc ks Q (g z)) (h : (∀ (z : α) (H : Heap) (locs : List Loc), P z → il_W G s M H locs → W p l e R s m args below meth c H locs kc ks Q (g z)) → W p l e R s m args below meth c H locs cells slots Q g0) : W p l e R s m args below meth c H locs cells slots Q g0 := h k
/-- System.arraycopy between arrays of longs (the two may be one) -/
theorem il_copy (hx : p.tables.exec = Jvm.exec) (hb : c.code = cc) (hml : c.maxLocals = ls.size) (hts : ∀ w ∈ lw_all, w.before args s = true) {own : String} {index : Nat} (hown : s.vm.findClass own = some m.cls) (hlink : (Cond.methodLink own index arraycopyName).before args s = true)
    (hB : il_B G s) (hw : il_W G s M H locs) {a0 a1 n0 n1 : Nat} {f g : Nat → Int64} (he0 : M a0 = some (il_eJ G n0 f)) (he1 : M a1 = some (il_eJ G n1 g)) {xs xd xn : Int32} {sp dp n : Nat} (hxs : xs = nI sp) (hxd : xd = nI dp) (hxn : xn = nI n) (h0 : n0 < 2 ^ 31) (h1 : n1 < 2 ^ 31) (h4 : sp + n ≤ n0) (h5 : dp + n ≤ n1)
    (hframes : 1 ≤ R.frames) (hlocals : (rest.map fun v => v.category).sum + (nativeFrameWords "java/lang/System" "arraycopy" 5 + 11) ≤ R.locals) (hdg : decode cc pc = .ok (.invokestatic index, 3))
    (kk : ∀ (H1 : Heap) (locs1 : List Loc), il_W G s (il_up M a1 (il_eJ G n1 (va_cpy f g sp dp n))) H1 locs1 → W p l e R s m args below meth c H1 locs1 cells slots Q (F0 m (pc + 3) ls rest)) : W p l e R s m args below meth c H locs cells slots Q (F0 m pc ls (.int xn :: .int xd :: .ref a1 :: .int xs :: .ref a0 :: rest)) := by
  obtain ⟨⟨ws, hP, hD, hM⟩, hS⟩ := hw
  obtain ⟨q0, hq0⟩ := hM a0 _ he0
  obtain ⟨q1, hq1⟩ := hM a1 _ he1
  subst hxs; subst hxd; subst hxn
  have e1 : (nI sp).toNatClampNeg = sp := nI_clamp (by omega)
  have e2 : (nI dp).toNatClampNeg = dp := nI_clamp (by omega)
  have e3 : (nI n).toNatClampNeg = n := nI_clamp (by omega)
  refine va_copyl (ty := .long) hx hb hml hown hlink (hts _ q213) (hts _ q212) (hts _ q17) hB.1.1 hP hD hS q0 q1 0 0 hq0 hq1 rfl rfl rfl (nI_pos (by omega)) (nI_pos (by omega)) (nI_pos (by omega)) (by rw [e1, e3]; exact h4) (by rw [e2, e3]; exact h5) (fun _ _ => rfl) hframes hlocals hdg fun H1 locs1 hP1 hD1 hS1 => ?_
  rw [e1, e2, e3] at hP1 hD1
  exact kk H1 locs1 ⟨il_P.set hP1 hD hD1 hM hq1, hS1⟩
theorem il_clone (hx : p.tables.exec = Jvm.exec) (hb : c.code = cc) (hml : c.maxLocals = ls.size) (hts : ∀ w ∈ lw_all, w.before args s = true) {own : String} {index : Nat} (hown : s.vm.findClass own = some m.cls)
    (hlink : (Cond.methodLink own index ⟨"[J", "clone", "()Ljava/lang/Object;"⟩).before args s = true) (hB : il_B G s) (hw : il_W G s M H locs) {n : Nat} {f : Nat → Int64} (he : M a = some (il_eJ G n f))
    (hframes : 1 ≤ R.frames) (hlocals : (rest.map fun v => v.category).sum + 14 ≤ R.locals) (hcells : cells + 1 ≤ R.cells) (hslots : slots + n ≤ R.slots) (hdg : decode cc pc = .ok (.invokevirtual index, 3))
    (kk : ∀ (q : Nat) (H1 : Heap) (locs1 : List Loc), M q = none → il_W G s (il_up M q (il_eJ G n f)) H1 locs1 → W p l e R s m args below meth c H1 locs1 (cells + 1) (slots + n) Q (F0 m (pc + 3) ls (.ref q :: rest))) : W p l e R s m args below meth c H locs cells slots Q (F0 m pc ls (.ref a :: rest)) := by
  obtain ⟨⟨ws, hP, hD, hM⟩, hS⟩ := hw
  obtain ⟨q0, hq⟩ := hM a _ he
  refine va_clone (x := (n, .inr (.inl f))) (ty := .long) hx hb hml hown hlink (hts _ q202) (hts _ q203) (hts _ q204) (hts _ q205) hB.1.cl hB.1.1 hP hD hS hB.2.1 q0 0 hq rfl (va_nm_long (hB.1.1.2 0 _ rfl).2) (fun i v hv => va_fit (ty := .long) (F := fun j => .long (f j)) (fun _ _ => rfl) i v hv) hframes hlocals hcells hslots hdg fun q H1 hK1 hP1 hD1 hS1 => ?_
  obtain ⟨z1, z2⟩ := il_P.push hP1 hD1 hM
  exact kk q H1 _ z1 ⟨z2, hS1⟩
theorem il_castJ (hx : p.tables.exec = Jvm.exec) (hb : c.code = cc) {own : String} {index : Nat} (hown : s.vm.findClass own = some m.cls) (hlink : (Cond.classLink own index "[J").before args s = true) (hB : il_B G s) (hw : il_W G s M H locs) {n : Nat} {f : Nat → Int64} (he : M a = some (il_eJ G n f)) (hdg : decode cc pc = .ok (.checkcast index, 3))
    (kk : W p l e R s m args below meth c H locs cells slots Q (F0 m (pc + 3) ls (.ref a :: rest))) : W p l e R s m args below meth c H locs cells slots Q (F0 m pc ls (.ref a :: rest)) := by
  obtain ⟨⟨ws, hP, hD, hM⟩, hS⟩ := hw
  obtain ⟨q0, hq⟩ := hM a _ he
  exact va_castA hx hb hown hlink hP q0 hq (va_nm_long (hB.1.1.2 0 _ rfl).2) hdg kk
/-- checkcast and instanceof of an ImmutableLongArray -/
theorem il_cast (hx : p.tables.exec = Jvm.exec) (hb : c.code = cc) {own : String} {index : Nat} (hown : s.vm.findClass own = some m.cls) (hlink : (Cond.classLink own index RX2).before args s = true) (hB : il_B G s) (hw : il_W G s M H locs) {fs : List Value} (he : M a = some (.inr (1, fs))) (hdg : decode cc pc = .ok (.checkcast index, 3))
    (kk : W p l e R s m args below meth c H locs cells slots Q (F0 m (pc + 3) ls (.ref a :: rest))) : W p l e R s m args below meth c H locs cells slots Q (F0 m pc ls (.ref a :: rest)) := by
  obtain ⟨⟨ws, hP, hD, hM⟩, hS⟩ := hw
  obtain ⟨q0, hq⟩ := hM a _ he
  exact va_castS hx hb hown hlink (hB.1.1.1 1 _ rfl).2 (va_recv (q := (RX2, TX2, 3)) hB.1.1 hP rfl hq) hdg kk
theorem il_inst (hx : p.tables.exec = Jvm.exec) (hb : c.code = cc) {own : String} {index : Nat} (hown : s.vm.findClass own = some m.cls) (hlink : (Cond.classLink own index RX2).before args s = true) (hB : il_B G s) (hw : il_W G s M H locs) {fs : List Value} (he : M a = some (.inr (1, fs))) (hdg : decode cc pc = .ok (.instanceof index, 3))
    (kk : W p l e R s m args below meth c H locs cells slots Q (F0 m (pc + 3) ls (.int 1 :: rest))) : W p l e R s m args below meth c H locs cells slots Q (F0 m pc ls (.ref a :: rest)) := by
  obtain ⟨⟨ws, hP, hD, hM⟩, hS⟩ := hw
  obtain ⟨q0, hq⟩ := hM a _ he
  exact va_instS hx hb hown hlink (hB.1.1.1 1 _ rfl).2 (va_recv (q := (RX2, TX2, 3)) hB.1.1 hP rfl hq) hdg kk
/-- the script -/
theorem il_sld (hx : p.tables.exec = Jvm.exec) (hb : c.code = cc) (hB : il_B G s) (hw : il_W G s M H locs) {x : Int32} {i : Nat} (hi : i < il_n G) (hn : il_n G < 2 ^ 31) (hxi : x = nI i) (hdg : decode cc pc = .ok (.iaload, 1))
    (kk : W p l e R s m args below meth c H locs cells slots Q (F0 m (pc + 1) ls (.int (il_x G i) :: rest))) : W p l e R s m args below meth c H locs cells slots Q (F0 m pc ls (.int x :: .ref (il_b G) :: rest)) := by
  subst hxi
  refine va_sld hx hb hB.2.2.1 hB.2.2.2.1 hB.2.2.2.2 hw.2 (vp_in_nI hi hn) hdg ?_
  rw [nI_clamp (by omega)]
  exact kk
theorem il_slen (hx : p.tables.exec = Jvm.exec) (hb : c.code = cc) (hB : il_B G s) (hw : il_W G s M H locs) (hdg : decode cc pc = .ok (.arraylength, 1))
    (kk : W p l e R s m args below meth c H locs cells slots Q (F0 m (pc + 1) ls (.int (nI (il_n G)) :: rest))) : W p l e R s m args below meth c H locs cells slots Q (F0 m pc ls (.ref (il_b G) :: rest)) :=
  va_slen hx hb hB.2.2.1 hB.2.2.2.1 hB.2.2.2.2 hw.2 hdg kk
/-- arrays of arrays of longs -/
theorem il_gald (hx : p.tables.exec = Jvm.exec) (hb : c.code = cc) (hB : il_B G s) (hw : il_W G s M H locs) {n : Nat} {f : Nat → Option Nat} (he : M a = some (il_eL G n f)) {x : Int32} {i r : Nat} (hi : i < n) (hn : n < 2 ^ 31) (hxi : x = nI i) (hr : f i = some r) (hdg : decode cc pc = .ok (.aaload, 1))
    (kk : W p l e R s m args below meth c H locs cells slots Q (F0 m (pc + 1) ls (.ref r :: rest))) : W p l e R s m args below meth c H locs cells slots Q (F0 m pc ls (.int x :: .ref a :: rest)) := by
  obtain ⟨⟨ws, hP, hD, hM⟩, hS⟩ := hw
  obtain ⟨q0, hq⟩ := hM a _ he
  subst hxi
  have e1 : (nI i).toNatClampNeg = i := nI_clamp (by omega)
  refine W.aald (v := va_rf (f i)) (ty := .array .long) hx hb (hP q0 _ hq) ((hB.1.1.2 2 _ rfl).1 n (fun j => va_rf (f j))) rfl (fun q => by cases q) (by show ¬ (nI i < 0 ∨ (arrV _ _ _).slots.size ≤ _); rw [arrV_size]; exact vp_in_nI hi hn) (by show (arrV _ _ _).slots[_]? = _; rw [e1, arrV_read _ _ hi]) rfl rfl hdg ?_
  rw [hr]
  exact kk
theorem il_gast (hx : p.tables.exec = Jvm.exec) (hb : c.code = cc) (hB : il_B G s) (hw : il_W G s M H locs) {n : Nat} {f : Nat → Option Nat} (he : M a = some (il_eL G n f)) {x : Int32} {i v : Nat} {N : Nat} {g : Nat → Int64} (hv : M v = some (il_eJ G N g)) (hi : i < n) (hn : n < 2 ^ 31) (hxi : x = nI i) (hdg : decode cc pc = .ok (.aastore, 1))
    (kk : ∀ (H1 : Heap) (locs1 : List Loc), il_W G s (il_up M a (il_eL G n (va_up f i (some v)))) H1 locs1 → W p l e R s m args below meth c H1 locs1 cells slots Q (F0 m (pc + 1) ls rest)) : W p l e R s m args below meth c H locs cells slots Q (F0 m pc ls (.ref v :: .int x :: .ref a :: rest)) := by
  obtain ⟨⟨ws, hP, hD, hM⟩, hS⟩ := hw
  obtain ⟨q0, hq⟩ := hM a _ he
  obtain ⟨q1, hq1⟩ := hM v _ hv
  subst hxi
  have e1 : (nI i).toNatClampNeg = i := nI_clamp (by omega)
  obtain ⟨kA, k1, k2⟩ := hB.1.2.1
  obtain ⟨-, kJ, hkJ, -⟩ := (hB.1.1.2 0 _ rfl).1 0 (fun _ => .null)
  refine W.aast (t := .array .long) hx hb (hP q0 _ hq) (fun q h => by cases h) (fun h => by cases h) k1 k2 rfl hkJ ⟨nI_pos (by omega), by show _ < (arrV _ _ _).slots.size; rw [arrV_size, e1]; exact hi⟩ (hP q1 _ hq1) (fun q h => by cases h) hkJ (va_asg _ _) rfl rfl hdg fun H1 e1' z oq => ?_
  have hset : va_P (il_D G) il_cl (ws.set q0 (a, il_eL G n (va_up f i (some v)))) H1 := by
    refine hP.set hD hq ?_ oq
    show H1[a]? = some (vp_cell _ _)
    rw [e1']
    rw [vp_cell_q, vp_cell_q, arrV_store, e1]
    congr 2
    funext q
    by_cases hqi : q = i
    · subst hqi
      simp [updV, va_up, va_rf]
    · simp [updV, va_up, hqi]
  exact kk H1 _ ⟨il_P.set hset hD (hD.set hq) hM hq, hS.put z oq (hD.2 q0 _ hq)⟩
theorem il_newL (hx : p.tables.exec = Jvm.exec) (hb : c.code = cc) {own : String} {index : Nat} (hown : s.vm.findClass own = some m.cls) (hcl : (Cond.classLink own index "[J").before args s = true) (hover : (Cond.arrayOver (.array .long)).before args s = true) (hB : il_B G s) (hw : il_W G s M H locs) {x : Int32} {n : Nat} (hn : n < 1000) (hxn : x = nI n) (hcells : cells + 1 ≤ R.cells) (hslots : slots + n ≤ R.slots) (hdg : decode cc pc = .ok (.anewarray index, 3))
    (kk : ∀ (q : Nat) (H1 : Heap) (locs1 : List Loc), M q = none → il_W G s (il_up M q (il_eL G n (fun _ => none))) H1 locs1 → W p l e R s m args below meth c H1 locs1 (cells + 1) (slots + n) Q (F0 m (pc + 3) ls (.ref q :: rest))) : W p l e R s m args below meth c H locs cells slots Q (F0 m pc ls (.int x :: rest)) := by
  obtain ⟨⟨ws, hP, hD, hM⟩, hS⟩ := hw
  subst hxn
  have eN : (nI n).toNatClampNeg = n := nI_clamp (by omega)
  have eS : (FieldType.array .long).toString = "[J" := by decide +kernel
  refine W.anewA (t := .long) hx hb hown (by rw [eS]; exact hcl) hover rfl hdg rfl (nI_pos (by omega)) (by rw [eN]; omega) hcells (by rw [eN]; exact hslots) fun cA kA comp f1 f2 f3 f4 => ?_
  have h0 : s.vm.findClass ("[" ++ (FieldType.array .long).toString) = some (il_L G) := (hB.1.1.2 2 _ rfl).2
  have e : cA = il_L G := Option.some.inj (f1.symm.trans h0)
  subst e
  rw [eN]
  generalize hH1 : H.push ({ cls := il_L G, slots := Array.replicate n .null, vm := .none } : Cell) = H1
  have z1 : H1.size = H.size + 1 := by rw [← hH1, Array.size_push]
  have e1 : H1[H.size]? = some (arrV (il_L G) n (fun _ => .null)) := by rw [← hH1, Array.getElem?_push_size, ← arrV_new]
  have o1 : ∀ q : Nat, q < H.size → H1[q]? = H[q]? := fun q hq => by rw [← hH1, Array.getElem?_push, if_neg (Nat.ne_of_lt hq)]
  have hk : ∀ (k : Nat) (x : Nat × va_E), ws[k]? = some x → H1[x.1]? = H[x.1]? := fun k x hx => o1 x.1 ((hP k x hx).lt)
  have hP1 : va_P (il_D G) il_cl (ws ++ [(H.size, il_eL G n (fun _ => none))]) H1 := by
    refine (hP.kept hk).app (fun k x hx => ?_)
    have hz : k < 1 := (List.getElem?_eq_some_iff.mp hx).1
    rw [show k = 0 by omega] at hx
    cases hx
    show H1[H.size]? = some (vp_cell _ _)
    rw [vp_cell_q]
    exact e1
  obtain ⟨y1, y2⟩ := il_P.push hP1 (hD.push hP rfl (hB.2.1 _ hS.1)) hM
  exact kk H.size H1 _ y1 ⟨y2, Nat.le_trans hS.1 (by omega), fun x h1 h2 => (o1 x (Nat.lt_of_lt_of_le h1 hS.1)).trans (hS.2.1 x h1 h2), hS.2.2⟩
end ILC
end
section
/-! PURE: numbers, what first, last, hash, sum, sameness of a row of longs are (a row: its length n and its numbers g) -/
set_option maxRecDepth 100000
def il_fst (n : Nat) (g : Nat → Int64) (v : Int64) (r : Int32) : Prop := (∃ k, k < n ∧ r = nI k ∧ g k = v ∧ ∀ j, j < k → g j ≠ v) ∨ (r = -1 ∧ ∀ j, j < n → g j ≠ v)
def il_lst (n : Nat) (g : Nat → Int64) (v : Int64) (r : Int32) : Prop := (∃ k, k < n ∧ r = nI k ∧ g k = v ∧ ∀ j, k < j → j < n → g j ≠ v) ∨ (r = -1 ∧ ∀ j, j < n → g j ≠ v)
def il_hc (v : Int64) : Int32 := (v ^^^ (v.toUInt64 >>> ((32 : Int32).toInt64.toUInt64 &&& Int64.toUInt64 63)).toInt64).toInt32
def il_hash (g : Nat → Int64) : Nat → Int32
  | 0 => 1
  | k + 1 => il_hash g k * 31 + il_hc (g k)
def il_sum (g : Nat → Int64) : Nat → Int64
  | 0 => 0
  | k + 1 => il_sum g k * 31 + g k
def il_of (hi lo : Int32) : Int64 := hi.toInt64 * 4294967296 + (lo.toInt64 &&& 4294967295)
def il_same (n1 : Nat) (g1 : Nat → Int64) (n2 : Nat) (g2 : Nat → Int64) : Prop := n1 = n2 ∧ ∀ j, j < n1 → g1 j = g2 j
def il_eqr (n1 : Nat) (g1 : Nat → Int64) (n2 : Nat) (g2 : Nat → Int64) (r : Int32) : Prop := (r = 1 ∧ il_same n1 g1 n2 g2) ∨ (r = 0 ∧ ¬ il_same n1 g1 n2 g2)
def il_k (x : Int32) : Nat := x.toBitVec.toNat % 4
def il_m (x : Int32) : Nat := x.toBitVec.toNat % 2147483648
def il_cat (g : Nat → Int64) (n : Nat) (h : Nat → Int64) : Nat → Int64 := fun j => if j < n then g j else h (j - n)
def il_set {α : Type} (f : Nat → α) (k : Nat) (x : α) : Nat → α := fun j => if j = k then x else f j
theorem il_k_lt (x : Int32) : il_k x < 4 := Nat.mod_lt _ (by decide)
theorem il_m_lt (x : Int32) : il_m x < 2147483648 := Nat.mod_lt _ (by decide)
theorem il_k_and (x : Int32) : x &&& 3 = nI (il_k x) := pk_and x 2 (by decide)
theorem il_m_and (x : Int32) : x &&& 2147483647 = nI (il_m x) := pk_and x 31 (by decide)
theorem il_31 (x : Int32) : ∃ j : Nat, j < 32 ∧ x &&& 31 = nI j := pk_andE x 5 (by decide)
theorem il_k_nI {i : Nat} (h : i < 4) : il_k (nI i) = i := by
  unfold il_k
  rw [pk_tn (by omega)]
  omega
theorem il_k_add (x : Int32) (j : Nat) (hj : j < 4) : il_k (x + nI j) = (il_k x + j) % 4 := by
  unfold il_k
  have e : (x + nI j).toBitVec.toNat = (x.toBitVec.toNat + (nI j).toBitVec.toNat) % 2 ^ 32 := by
    rw [Int32.toBitVec_add, BitVec.toNat_add]
  rw [e, pk_tn (by omega)]
  omega
theorem il_rem {a d : Nat} (ha : a < 2147483648) (h0 : 0 < d) (hd : d < 2147483648) : nI a - nI a / nI d * nI d = nI (a % d) := pk_rem ha h0 hd
theorem il_set_eq {α : Type} {f : Nat → α} {k : Nat} {x : α} : il_set f k x k = x := by simp [il_set]
theorem il_set_ne {α : Type} {f : Nat → α} {k j : Nat} {x : α} (h : j ≠ k) : il_set f k x j = f j := by simp [il_set, h]
theorem il_n1 {r : Nat} (h : r < 2 ^ 31) : nI r ≠ -1 := by
  intro e
  have h1 := nI_toInt h
  rw [e] at h1
  have h2 : (-1 : Int32).toInt = -1 := by decide
  omega
theorem il_fst_uniq {n : Nat} {g : Nat → Int64} {v : Int64} {r r' : Int32} (h : il_fst n g v r) (h' : il_fst n g v r') : r = r' := by
  rcases h with ⟨k, h1, h2, h3, h4⟩ | ⟨h1, h2⟩ <;> rcases h' with ⟨k', q1, q2, q3, q4⟩ | ⟨q1, q2⟩
  · have e : k = k' := by
      rcases Nat.lt_trichotomy k k' with z | z | z
      · exact absurd h3 (q4 k z)
      · exact z
      · exact absurd q3 (h4 k' z)
    rw [h2, q2, e]
  · exact absurd h3 (q2 k h1)
  · exact absurd q3 (h2 k' q1)
  · rw [h1, q1]
theorem il_lst_uniq {n : Nat} {g : Nat → Int64} {v : Int64} {r r' : Int32} (h : il_lst n g v r) (h' : il_lst n g v r') : r = r' := by
  rcases h with ⟨k, h1, h2, h3, h4⟩ | ⟨h1, h2⟩ <;> rcases h' with ⟨k', q1, q2, q3, q4⟩ | ⟨q1, q2⟩
  · have e : k = k' := by
      rcases Nat.lt_trichotomy k k' with z | z | z
      · exact absurd q3 (h4 k' z q1)
      · exact z
      · exact absurd h3 (q4 k z h1)
    rw [h2, q2, e]
  · exact absurd h3 (q2 k h1)
  · exact absurd q3 (h2 k' q1)
  · rw [h1, q1]
theorem il_fst_congr {n : Nat} {g g' : Nat → Int64} {v : Int64} {r : Int32} (e : ∀ j, j < n → g j = g' j) (h : il_fst n g v r) : il_fst n g' v r := by
  rcases h with ⟨k, h1, h2, h3, h4⟩ | ⟨h1, h2⟩
  · exact Or.inl ⟨k, h1, h2, by rw [← e k h1]; exact h3, fun j hj => by rw [← e j (by omega)]; exact h4 j hj⟩
  · exact Or.inr ⟨h1, fun j hj => by rw [← e j hj]; exact h2 j hj⟩
theorem il_lst_congr {n : Nat} {g g' : Nat → Int64} {v : Int64} {r : Int32} (e : ∀ j, j < n → g j = g' j) (h : il_lst n g v r) : il_lst n g' v r := by
  rcases h with ⟨k, h1, h2, h3, h4⟩ | ⟨h1, h2⟩
  · exact Or.inl ⟨k, h1, h2, by rw [← e k h1]; exact h3, fun j hk hj => by rw [← e j hj]; exact h4 j hk hj⟩
  · exact Or.inr ⟨h1, fun j hj => by rw [← e j hj]; exact h2 j hj⟩
theorem il_hash_congr {g g' : Nat → Int64} : ∀ {n : Nat}, (∀ j, j < n → g j = g' j) → il_hash g n = il_hash g' n
  | 0, _ => rfl
  | n + 1, e => by
    show il_hash g n * 31 + il_hc (g n) = il_hash g' n * 31 + il_hc (g' n)
    rw [il_hash_congr (fun j hj => e j (by omega)), e n (by omega)]
theorem il_sum_congr {g g' : Nat → Int64} : ∀ {n : Nat}, (∀ j, j < n → g j = g' j) → il_sum g n = il_sum g' n
  | 0, _ => rfl
  | n + 1, e => by
    show il_sum g n * 31 + g n = il_sum g' n * 31 + g' n
    rw [il_sum_congr (fun j hj => e j (by omega)), e n (by omega)]
theorem il_eqr_uniq {n1 n2 : Nat} {g1 g2 : Nat → Int64} {r r' : Int32} (h : il_eqr n1 g1 n2 g2 r) (h' : il_eqr n1 g1 n2 g2 r') : r = r' := by
  rcases h with ⟨h1, h2⟩ | ⟨h1, h2⟩ <;> rcases h' with ⟨q1, q2⟩ | ⟨q1, q2⟩
  · rw [h1, q1]
  · exact absurd h2 q2
  · exact absurd q2 h2
  · rw [h1, q1]
theorem il_same_congr {n1 n2 : Nat} {g1 g2 g1' g2' : Nat → Int64} (e1 : ∀ j, j < n1 → g1 j = g1' j) (e2 : ∀ j, j < n2 → g2 j = g2' j) (h : il_same n1 g1 n2 g2) : il_same n1 g1' n2 g2' :=
  ⟨h.1, fun j hj => by rw [← e1 j hj, ← e2 j (by rw [← h.1]; exact hj)]; exact h.2 j hj⟩
theorem il_eqr_congr {n1 n2 : Nat} {g1 g2 g1' g2' : Nat → Int64} {r : Int32} (e1 : ∀ j, j < n1 → g1 j = g1' j) (e2 : ∀ j, j < n2 → g2 j = g2' j) (h : il_eqr n1 g1 n2 g2 r) : il_eqr n1 g1' n2 g2' r := by
  rcases h with ⟨h1, h2⟩ | ⟨h1, h2⟩
  · exact Or.inl ⟨h1, il_same_congr e1 e2 h2⟩
  · exact Or.inr ⟨h1, fun z => h2 (il_same_congr (fun j hj => (e1 j hj).symm) (fun j hj => (e2 j hj).symm) z)⟩
/-- the row cut in two: the first place -/
theorem il_fst_cut {n at_ : Nat} {g : Nat → Int64} {v : Int64} {one two all : Int32} (hn : n < 1000) (hat : at_ ≤ n) (h1 : il_fst at_ g v one) (h2 : il_fst (n - at_) (fun x => g (at_ + x)) v two) (h : il_fst n g v all) :
    (¬ one < 0 → all = one) ∧ (one < 0 → ¬ two < 0 → all = two + nI at_) ∧ (one < 0 → two < 0 → all = -1) := by
  have neg1 : (-1 : Int32) < 0 := by decide
  rcases h1 with ⟨k, a1, a2, a3, a4⟩ | ⟨a1, a2⟩
  · have e : all = nI k := il_fst_uniq h (Or.inl ⟨k, by omega, rfl, a3, a4⟩)
    have hp : ¬ one < 0 := by rw [a2]; exact nI_pos (by omega)
    exact ⟨fun _ => by rw [e, a2], fun z => absurd z hp, fun z => absurd z hp⟩
  · rcases h2 with ⟨k, b1, b2, b3, b4⟩ | ⟨b1, b2⟩
    · have e : all = nI (at_ + k) := il_fst_uniq h (Or.inl ⟨at_ + k, by omega, rfl, b3, fun j hj => by
        by_cases hja : j < at_
        · exact a2 j hja
        · have this : g (at_ + (j - at_)) ≠ v := b4 (j - at_) (by omega)
          rw [show at_ + (j - at_) = j by omega] at this
          exact this⟩)
      have hp : ¬ two < 0 := by rw [b2]; exact nI_pos (by omega)
      exact ⟨fun z => absurd (by rw [a1]; exact neg1) z, fun _ _ => by rw [e, b2, nI_add, Nat.add_comm], fun _ z => absurd z hp⟩
    · have e : all = -1 := il_fst_uniq h (Or.inr ⟨rfl, fun j hj => by
        by_cases hja : j < at_
        · exact a2 j hja
        · have this : g (at_ + (j - at_)) ≠ v := b2 (j - at_) (by omega)
          rw [show at_ + (j - at_) = j by omega] at this
          exact this⟩)
      exact ⟨fun z => absurd (by rw [a1]; exact neg1) z, fun _ z => absurd (by rw [b1]; exact neg1) z, fun _ _ => e⟩
theorem il_lst_cut {n at_ : Nat} {g : Nat → Int64} {v : Int64} {one two all : Int32} (hn : n < 1000) (hat : at_ ≤ n) (h1 : il_lst at_ g v one) (h2 : il_lst (n - at_) (fun x => g (at_ + x)) v two) (h : il_lst n g v all) :
    (¬ two < 0 → all = two + nI at_) ∧ (two < 0 → all = one) := by
  have neg1 : (-1 : Int32) < 0 := by decide
  rcases h2 with ⟨k, b1, b2, b3, b4⟩ | ⟨b1, b2⟩
  · have e : all = nI (at_ + k) := il_lst_uniq h (Or.inl ⟨at_ + k, by omega, rfl, b3, fun j hk hj => by
      have this : g (at_ + (j - at_)) ≠ v := b4 (j - at_) (by omega) (by omega)
      rw [show at_ + (j - at_) = j by omega] at this
      exact this⟩)
    have hp : ¬ two < 0 := by rw [b2]; exact nI_pos (by omega)
    exact ⟨fun _ => by rw [e, b2, nI_add, Nat.add_comm], fun z => absurd z hp⟩
  · refine ⟨fun z => absurd (by rw [b1]; exact neg1) z, fun _ => ?_⟩
    have hhi : ∀ j, at_ ≤ j → j < n → g j ≠ v := fun j hj hn => by
      have this : g (at_ + (j - at_)) ≠ v := b2 (j - at_) (by omega)
      rw [show at_ + (j - at_) = j by omega] at this
      exact this
    rcases h1 with ⟨k, a1, a2, a3, a4⟩ | ⟨a1, a2⟩
    · rw [a2]
      exact il_lst_uniq h (Or.inl ⟨k, by omega, rfl, a3, fun j hk hj => by
        by_cases hja : j < at_
        · exact a4 j hk hja
        · exact hhi j (by omega) hj⟩)
    · rw [a1]
      exact il_lst_uniq h (Or.inr ⟨rfl, fun j hj => by
        by_cases hja : j < at_
        · exact a2 j hja
        · exact hhi j (by omega) hj⟩)
theorem il_fst_pos {n : Nat} {g : Nat → Int64} {v : Int64} {r : Int32} (h : il_fst n g v r) : (∃ k, k < n ∧ r = nI k) ∨ r = -1 := by
  rcases h with ⟨k, h1, h2, -, -⟩ | ⟨h1, -⟩
  · exact Or.inl ⟨k, h1, h2⟩
  · exact Or.inr h1
/-- bits: the number made of two halves -/
theorem il_i64 {x y : Int64} (h : ∀ i : Nat, i < 64 → x.toBitVec.getLsbD i = y.toBitVec.getLsbD i) : x = y := by
  apply Int64.toBitVec_inj.mp
  exact BitVec.eq_of_getLsbD_eq h
theorem il_lo (lo : Int32) (i : Nat) : (lo.toInt64 &&& 4294967295).toBitVec.getLsbD i = (decide (i < 32) && lo.toBitVec.getLsbD i) := by
  rw [Int64.toBitVec_and, BitVec.getLsbD_and]
  have e : (4294967295 : Int64).toBitVec = (4294967295 : BitVec 64) := rfl
  have e2 : ((4294967295 : BitVec 64)).getLsbD i = decide (i < 32) := by
    by_cases h : i < 32
    · simp only [h, decide_true]
      revert i
      decide
    · simp only [h, decide_false]
      rw [show (4294967295 : BitVec 64) = BitVec.setWidth 64 (BitVec.allOnes 32) by decide]
      rw [BitVec.getLsbD_setWidth, BitVec.getLsbD_allOnes]
      simp [h]
  rw [e, e2]
  by_cases h : i < 32
  · simp only [h, decide_true, Bool.and_true, Bool.true_and]
    rw [Int32.toBitVec_toInt64, BitVec.getLsbD_signExtend]
    simp [h]
    omega
  · simp [h]
theorem il_hi (hi : Int32) (i : Nat) : (hi.toInt64 * 4294967296).toBitVec.getLsbD i = (decide (i < 64) && (decide (32 ≤ i) && hi.toBitVec.getLsbD (i - 32))) := by
  have e : (hi.toInt64 * 4294967296).toBitVec = hi.toInt64.toBitVec <<< 32 := by
    rw [Int64.toBitVec_mul, BitVec.shiftLeft_eq_mul_twoPow]
    rfl
  rw [e, BitVec.getLsbD_shiftLeft, Int32.toBitVec_toInt64, BitVec.getLsbD_signExtend]
  by_cases h : i < 64
  · by_cases h2 : 32 ≤ i
    · have h3 : i - 32 < 32 := by omega
      have h4 : ¬ i < 32 := by omega
      have h5 : i - 32 < 64 := by omega
      simp [h, h2, h3, h4, h5]
    · have h4 : i < 32 := by omega
      simp [h, h2, h4]
  · simp [h]
theorem il_of_or (hi lo : Int32) : (hi.toInt64 * 4294967296) ||| (lo.toInt64 &&& 4294967295) = il_of hi lo := by
  unfold il_of
  apply Int64.toBitVec_inj.mp
  rw [Int64.toBitVec_or, Int64.toBitVec_add]
  refine (BitVec.add_eq_or_of_and_eq_zero _ _ ?_).symm
  apply BitVec.eq_of_getLsbD_eq
  intro i hi'
  rw [BitVec.getLsbD_and, il_hi, il_lo]
  by_cases h : i < 32
  · have h2 : ¬ 32 ≤ i := by omega
    simp [h, h2]
  · simp [h]
theorem il_of_bit (hi lo : Int32) (i : Nat) (h : i < 64) : (il_of hi lo).toBitVec.getLsbD i = if i < 32 then lo.toBitVec.getLsbD i else hi.toBitVec.getLsbD (i - 32) := by
  rw [← il_of_or, Int64.toBitVec_or, BitVec.getLsbD_or, il_hi, il_lo]
  by_cases h2 : i < 32
  · have h3 : ¬ 32 ≤ i := by omega
    simp [h2, h3]
  · have h3 : 32 ≤ i := by omega
    simp [h, h2, h3]
/-- the desk's way of it -/
theorem il_shl32 (x : Int64) : x <<< ((32 : Int32).toInt64 &&& 63) = x * 4294967296 := by
  apply Int64.toBitVec_inj.mp
  rw [Int64.toBitVec_shiftLeft, Int64.toBitVec_mul]
  have e : (((32 : Int32).toInt64 &&& 63).toBitVec.smod 64) = 32#64 := by decide
  rw [e, show (4294967296 : Int64).toBitVec = BitVec.twoPow 64 32 by decide, ← BitVec.shiftLeft_eq_mul_twoPow]
  rfl
theorem il_of_desk (hi lo : Int32) : (hi.toInt64 <<< ((32 : Int32).toInt64 &&& 63)) ||| (lo.toInt64 &&& 4294967295) = il_of hi lo := by
  rw [il_shl32]
  exact il_of_or hi lo
/-- a long is made of its own halves -/
theorem il_of_parts (v : Int64) : il_of (v >>> ((32 : Int32).toInt64 &&& 63)).toInt32 v.toInt32 = v := by
  apply il_i64
  intro i hi
  rw [il_of_bit _ _ _ hi]
  by_cases h : i < 32
  · rw [if_pos h, Int64.toBitVec_toInt32, BitVec.getLsbD_signExtend]
    simp [h, hi]
  · rw [if_neg h, Int64.toBitVec_toInt32, BitVec.getLsbD_signExtend, Int64.toBitVec_shiftRight]
    have e : (((32 : Int32).toInt64 &&& 63).toBitVec.smod 64) = 32#64 := by decide
    have h3 : i - 32 < 32 := by omega
    have h5 : i - 32 < 64 := by omega
    have h6 : 32 + (i - 32) = i := by omega
    rw [e]
    simp only [h3, h5, decide_true, Bool.true_and, if_true]
    show (v.toBitVec.sshiftRight' 32#64).getLsbD (i - 32) = _
    rw [BitVec.sshiftRight', BitVec.getLsbD_sshiftRight]
    simp [h5, h6, hi]
/-- a cell of the world stays, or is new -/
def il_ext (M M' : il_M) : Prop := ∀ (q : Nat) (e : va_E), M q = some e → M' q = some e
theorem il_ext.rf {M : il_M} : il_ext M M := fun _ _ h => h
theorem il_ext.trans {M M1 M2 : il_M} (h : il_ext M M1) (h' : il_ext M1 M2) : il_ext M M2 := fun q e z => h' q e (h q e z)
theorem il_ext.up {M : il_M} {a : Nat} {e : va_E} (h : M a = none) : il_ext M (il_up M a e) := fun q e' z => il_up_keep (il_new h z) z
theorem il_up_up {M : il_M} {a : Nat} {e e' : va_E} : il_up (il_up M a e) a e' = il_up M a e' := by
  funext q
  by_cases h : q = a
  · subst h
    rw [il_up_eq, il_up_eq]
  · rw [il_up_ne h, il_up_ne h, il_up_ne h]
/-- a row at h: the places st .. st+n of the array a, which hold g -/
def il_row (G : il_G) (M : il_M) (h a st n : Nat) (g : Nat → Int64) : Prop := ∃ (N : Nat) (f : Nat → Int64), M h = some (il_eR a (nI st) (nI (st + n))) ∧ M a = some (il_eJ G N f) ∧ st + n ≤ N ∧ N < 1000 ∧ ∀ j, j < n → f (st + j) = g j
theorem il_row.ext {G : il_G} {M M' : il_M} {h a st n : Nat} {g : Nat → Int64} (hr : il_row G M h a st n g) (he : il_ext M M') : il_row G M' h a st n g := by
  obtain ⟨N, f, h1, h2, h3⟩ := hr
  exact ⟨N, f, he _ _ h1, he _ _ h2, h3⟩
theorem il_row.congr {G : il_G} {M : il_M} {h a st n : Nat} {g g' : Nat → Int64} (hr : il_row G M h a st n g) (e : ∀ j, j < n → g j = g' j) : il_row G M h a st n g' := by
  obtain ⟨N, f, h1, h2, h3, h4, h5⟩ := hr
  exact ⟨N, f, h1, h2, h3, h4, fun j hj => by rw [h5 j hj, e j hj]⟩
/-- the builder at b: its array a holds g in its first n places -/
def il_bld (G : il_G) (M : il_M) (b a n : Nat) (g : Nat → Int64) : Prop := ∃ (N : Nat) (f : Nat → Int64), M b = some (il_eB a (nI n)) ∧ M a = some (il_eJ G N f) ∧ n ≤ N ∧ N < 200 ∧ ∀ j, j < n → f j = g j
theorem il_bld.ext {G : il_G} {M M' : il_M} {b a n : Nat} {g : Nat → Int64} (hr : il_bld G M b a n g) (he : il_ext M M') : il_bld G M' b a n g := by
  obtain ⟨N, f, h1, h2, h3⟩ := hr
  exact ⟨N, f, he _ _ h1, he _ _ h2, h3⟩
/-- a builder's step: all but the builder b and its array a stays; of a, the first n places stay -/
def il_step (G : il_G) (M M' : il_M) (b a n : Nat) : Prop := (∀ (q : Nat) (e : va_E), M q = some e → q ≠ b → q ≠ a → M' q = some e) ∧ ∀ (N : Nat) (f : Nat → Int64), M a = some (il_eJ G N f) → ∃ f', M' a = some (il_eJ G N f') ∧ ∀ j, j < n → f' j = f j
theorem il_step.row {G : il_G} {M M' : il_M} {b a n : Nat} {gb : Nat → Int64} {h ra st k : Nat} {g : Nat → Int64} (hs : il_step G M M' b a n) (hb : il_bld G M b a n gb) (hr : il_row G M h ra st k g) (ha : ra = a → st + k ≤ n) : il_row G M' h ra st k g := by
  obtain ⟨Nb, fb, b1, b2, -⟩ := hb
  obtain ⟨N, f, h1, h2, h3, h4, h5⟩ := hr
  have hhb : h ≠ b := il_ne h1 b1 (by simp)
  have hrb : ra ≠ b := il_ne h2 b1 (by simp)
  have hha : h ≠ a := il_ne h1 b2 (by simp)
  by_cases hra : ra = a
  · subst hra
    obtain ⟨f', g1, g2⟩ := hs.2 N f h2
    refine ⟨N, f', hs.1 _ _ h1 hhb hha, g1, h3, h4, fun j hj => ?_⟩
    rw [g2 _ (by have := ha rfl; omega)]
    exact h5 j hj
  · exact ⟨N, f, hs.1 _ _ h1 hhb hha, hs.1 _ _ h2 hrb hra, h3, h4, h5⟩
end
section
/-! CONTRACTS: Preconditions, Integer, Long, Arrays (printed by wip/D-17801w/gen/m20.py) -/
set_option maxRecDepth 100000
set_option maxHeartbeats 4000000 in
set_option maxRecDepth 100000 in
/-- Preconditions.checkArgument(true, ..) -/
theorem met_checkArgument {l : Launch} {G : il_G} {M : il_M} {q : Nat} {x : Int32} : il_Cv l G yX3_checkArgument cX3_checkArgument 3 0 0 0 [.int 1, .ref q, .int x] M (fun M' => M' = M) := by
  refine il_enter (by decide) (Nat.le_of_ble_eq_true rfl) ?_
  intro p e s m below meth cd hF hw ls hl
  obtain ⟨hx, hb, hr, hlk, hml, hown, hin, hts, hB⟩ := id hF
  have hl : lv_has ls 3 [(0, .int 1), (1, .ref q), (2, .int x)] := hl
  have hown : s.vm.findClass RX3 = some m.cls := hown
  refine lv_iload_n hx hb dX3_checkArgument_0 rfl (lv_at hl 0 rfl) ?_
  refine lv_if_ne (tgt := 14) hx hb dX3_checkArgument_1 (by decide) (fun c => ?_) (fun c => False.elim (absurd c (by decide)))
  exact il_vret hx hb hr hlk hw rfl (Nat.le_of_ble_eq_true rfl) (Nat.le_of_ble_eq_true rfl) dX3_checkArgument_14
set_option maxHeartbeats 4000000 in
set_option maxRecDepth 100000 in
/-- Preconditions.checkElementIndex(index, size, desc) -/
theorem met_checkElementIndex_2 {l : Launch} {G : il_G} {M : il_M} {i n q : Nat} (hi : i < n) (hn : n < 2 ^ 31) : il_Ci l G yX3_checkElementIndex_2 cX3_checkElementIndex_2 3 (.int) 0 0 0 [.int (nI i), .int (nI n), .ref q] M (fun r M' => r = nI i ∧ M' = M) := by
  refine il_enter (by decide) (Nat.le_of_ble_eq_true rfl) ?_
  intro p e s m below meth cd hF hw ls hl
  obtain ⟨hx, hb, hr, hlk, hml, hown, hin, hts, hB⟩ := id hF
  have hl : lv_has ls 3 [(0, .int (nI i)), (1, .int (nI n)), (2, .ref q)] := hl
  have hown : s.vm.findClass RX3 = some m.cls := hown
  refine lv_iload_n hx hb dX3_checkElementIndex_2_0 rfl (lv_at hl 0 rfl) ?_
  refine lv_if_lt (tgt := 9) hx hb dX3_checkElementIndex_2_1 (by decide) (fun c => False.elim (nI_pos (by omega) c)) (fun c => ?_)
  refine lv_iload_n hx hb dX3_checkElementIndex_2_4 rfl (lv_at hl 0 rfl) ?_
  refine lv_iload_n hx hb dX3_checkElementIndex_2_5 rfl (lv_at hl 1 rfl) ?_
  refine lv_icmp_lt (tgt := 19) hx hb dX3_checkElementIndex_2_6 (by decide) (fun c => ?_) (fun c => False.elim (c (nI_lt hi hn)))
  refine lv_iload_n hx hb dX3_checkElementIndex_2_19 rfl (lv_at hl 0 rfl) ?_
  exact il_iret (v := (nI i)) hx hb hr hlk rfl hw (⟨rfl, rfl⟩) (Nat.le_of_ble_eq_true rfl) (Nat.le_of_ble_eq_true rfl) dX3_checkElementIndex_2_20
set_option maxHeartbeats 4000000 in
set_option maxRecDepth 100000 in
/-- Preconditions.checkElementIndex(index, size) -/
theorem met_checkElementIndex {l : Launch} {G : il_G} {M : il_M} {i n : Nat} (hi : i < n) (hn : n < 2 ^ 31) : il_Ci l G yX3_checkElementIndex cX3_checkElementIndex 2 (.int) 1 0 0 [.int (nI i), .int (nI n)] M (fun r M' => r = nI i ∧ M' = M) := by
  refine il_enter (by decide) (Nat.le_of_ble_eq_true rfl) ?_
  intro p e s m below meth cd hF hw ls hl
  obtain ⟨hx, hb, hr, hlk, hml, hown, hin, hts, hB⟩ := id hF
  have hl : lv_has ls 2 [(0, .int (nI i)), (1, .int (nI n))] := hl
  have hown : s.vm.findClass RX3 = some m.cls := hown
  refine lv_iload_n hx hb dX3_checkElementIndex_0 rfl (lv_at hl 0 rfl) ?_
  refine lv_iload_n hx hb dX3_checkElementIndex_1 rfl (lv_at hl 1 rfl) ?_
  refine va_ldcS hx hb hown hB.1.s2 dX3_checkElementIndex_2 ?_
  refine il_ri hw (il_rS (n := 3) (As := [.int (nI i), .int (nI n), .ref (il_s2 G)]) (rest := []) ⟨hx, hb, hml, hown, hts⟩ (met_checkElementIndex_2 hi hn) (lw_S q274 q275 q6 q276) (by decide +kernel) ⟨Nat.le_of_ble_eq_true rfl, Nat.le_of_ble_eq_true rfl⟩ hB hw rfl hl.1 rfl (Nat.le_of_ble_eq_true rfl) dX3_checkElementIndex_4 ⟨(Nat.le_of_ble_eq_true rfl), (Nat.le_of_ble_eq_true rfl)⟩) (fun r M_ H locs hp hw => ?_)
  obtain ⟨rfl, eM_⟩ := hp
  rw [eM_] at hw
  exact il_iret (v := (nI i)) hx hb hr hlk rfl hw (⟨rfl, rfl⟩) (Nat.le_of_ble_eq_true rfl) (Nat.le_of_ble_eq_true rfl) dX3_checkElementIndex_7
set_option maxHeartbeats 4000000 in
set_option maxRecDepth 100000 in
/-- Preconditions.checkPositionIndexes(start, end, size) -/
theorem met_checkPositionIndexes {l : Launch} {G : il_G} {M : il_M} {a b n : Nat} (h1 : a ≤ b) (h2 : b ≤ n) (hn : n < 2 ^ 31) : il_Cv l G yX3_checkPositionIndexes cX3_checkPositionIndexes 3 0 0 0 [.int (nI a), .int (nI b), .int (nI n)] M (fun M' => M' = M) := by
  refine il_enter (by decide) (Nat.le_of_ble_eq_true rfl) ?_
  intro p e s m below meth cd hF hw ls hl
  obtain ⟨hx, hb, hr, hlk, hml, hown, hin, hts, hB⟩ := id hF
  have hl : lv_has ls 3 [(0, .int (nI a)), (1, .int (nI b)), (2, .int (nI n))] := hl
  have hown : s.vm.findClass RX3 = some m.cls := hown
  refine lv_iload_n hx hb dX3_checkPositionIndexes_0 rfl (lv_at hl 0 rfl) ?_
  refine lv_if_lt (tgt := 14) hx hb dX3_checkPositionIndexes_1 (by decide) (fun c => False.elim (nI_pos (by omega) c)) (fun c => ?_)
  refine lv_iload_n hx hb dX3_checkPositionIndexes_4 rfl (lv_at hl 1 rfl) ?_
  refine lv_iload_n hx hb dX3_checkPositionIndexes_5 rfl (lv_at hl 0 rfl) ?_
  refine lv_icmp_lt (tgt := 14) hx hb dX3_checkPositionIndexes_6 (by decide) (fun c => False.elim (nI_nlt h1 (by omega) c)) (fun c => ?_)
  refine lv_iload_n hx hb dX3_checkPositionIndexes_9 rfl (lv_at hl 1 rfl) ?_
  refine lv_iload_n hx hb dX3_checkPositionIndexes_10 rfl (lv_at hl 2 rfl) ?_
  refine lv_icmp_le (tgt := 24) hx hb dX3_checkPositionIndexes_11 (by decide) (fun c => ?_) (fun c => False.elim (c (nI_le h2 hn)))
  exact il_vret hx hb hr hlk hw rfl (Nat.le_of_ble_eq_true rfl) (Nat.le_of_ble_eq_true rfl) dX3_checkPositionIndexes_24
/-- the leading zeros of 1 .. 127, and the highest bit -/
def il_nlz (j : Nat) : Nat := if 16 ≤ j then (if 4 ≤ j / 16 then 25 - j / 16 / 4 / 2 else 27 - j / 16 / 2) else (if 4 ≤ j then 29 - j / 4 / 2 else 31 - j / 2)
def il_hob (j : Nat) : Nat := 2 ^ (31 - il_nlz j)
theorem il_hob_ok : ∀ j, j < 128 → 1 ≤ j → (nI j &&& ((-2147483648 : Int32).toUInt32 >>> ((nI (il_nlz j)).toUInt32 &&& Int32.toUInt32 31)).toInt32) = nI (il_hob j) ∧ il_hob j ≤ j ∧ j < 2 * il_hob j := by decide +kernel
set_option maxHeartbeats 4000000 in
set_option maxRecDepth 100000 in
/-- Integer.numberOfLeadingZeros(1 .. 127) -/
theorem met_nlz {l : Launch} {G : il_G} {M : il_M} {j : Nat} (h1 : 1 ≤ j) (h2 : j < 128) : il_Ci l G yJ5_numberOfLeadingZeros cJ5_numberOfLeadingZeros 2 (.int) 0 0 0 [.int (nI j)] M (fun r M' => r = nI (il_nlz j) ∧ M' = M) := by
  refine il_enter (by decide) (Nat.le_of_ble_eq_true rfl) ?_
  intro p e s m below meth cd hF hw ls hl
  obtain ⟨hx, hb, hr, hlk, hml, hown, hin, hts, hB⟩ := id hF
  have hl : lv_has ls 2 [(0, .int (nI j))] := hl
  have hown : s.vm.findClass RJ5 = some m.cls := hown
  refine lv_iload_n hx hb dJ5_numberOfLeadingZeros_0 rfl (lv_at hl 0 rfl) ?_
  refine lv_if_gt (tgt := 15) hx hb dJ5_numberOfLeadingZeros_1 (by decide) (fun c => ?_) (fun c => False.elim (by have c : ¬ (0 < j) := fun z => c ((nI_ltI (a := 0) (b := j) (by omega) (by omega)).mpr z); omega))
  have c : 0 < j := (nI_ltI (a := 0) (b := j) (by omega) (by omega)).mp c
  refine lv_bipush (v := 31) hx hb dJ5_numberOfLeadingZeros_15 (by decide) ?_
  refine lv_istore_n (lv' := [(1, .int 31), (0, .int (nI j))]) hx hb dJ5_numberOfLeadingZeros_17 rfl hl (by decide) rfl (fun ls hl => ?_)
  refine lv_iload_n hx hb dJ5_numberOfLeadingZeros_18 rfl (lv_at hl 1 rfl) ?_
  refine lv_ldcw hx hb hown (hts _ q196) dJ5_numberOfLeadingZeros_19 ?_
  refine lv_icmp_lt (tgt := 33) hx hb dJ5_numberOfLeadingZeros_22 (by decide) (fun c => ?_) (fun c => False.elim (by have c : ¬ (j < 65536) := fun z => c ((nI_ltI (a := j) (b := 65536) (by omega) (by omega)).mpr z); omega))
  have c : j < 65536 := (nI_ltI (a := j) (b := 65536) (by omega) (by omega)).mp c
  refine lv_iload_n hx hb dJ5_numberOfLeadingZeros_33 rfl (lv_at hl 1 rfl) ?_
  refine lv_sipush (v := 256) hx hb dJ5_numberOfLeadingZeros_34 (by decide) ?_
  refine lv_icmp_lt (tgt := 48) hx hb dJ5_numberOfLeadingZeros_37 (by decide) (fun c => ?_) (fun c => False.elim (by have c : ¬ (j < 256) := fun z => c ((nI_ltI (a := j) (b := 256) (by omega) (by omega)).mpr z); omega))
  have c : j < 256 := (nI_ltI (a := j) (b := 256) (by omega) (by omega)).mp c
  refine lv_iload_n hx hb dJ5_numberOfLeadingZeros_48 rfl (lv_at hl 1 rfl) ?_
  refine lv_bipush (v := 16) hx hb dJ5_numberOfLeadingZeros_49 (by decide) ?_
  refine lv_icmp_lt (tgt := 61) hx hb dJ5_numberOfLeadingZeros_51 (by decide) (fun c1 => ?_) (fun c1 => ?_)
  · have c1 : j < 16 := (nI_ltI (a := j) (b := 16) (by omega) (by omega)).mp c1
    have c1 : ¬ 16 ≤ j := by omega
    refine lv_iload_n hx hb dJ5_numberOfLeadingZeros_61 rfl (lv_at hl 1 rfl) ?_
    refine lv_iconst (v := 4) hx hb dJ5_numberOfLeadingZeros_62 (by decide) ?_
    refine lv_icmp_lt (tgt := 73) hx hb dJ5_numberOfLeadingZeros_63 (by decide) (fun c2 => ?_) (fun c2 => ?_)
    · have c2 : j < 4 := (nI_ltI (a := j) (b := 4) (by omega) (by omega)).mp c2
      have c2 : ¬ 4 ≤ j := by omega
      refine lv_iload_n hx hb dJ5_numberOfLeadingZeros_73 rfl (lv_at hl 0 rfl) ?_
      refine lv_iload_n hx hb dJ5_numberOfLeadingZeros_74 rfl (lv_at hl 1 rfl) ?_
      refine lv_iconst (v := 1) hx hb dJ5_numberOfLeadingZeros_75 (by decide) ?_
      refine lv_iushr (v := (((nI j) : Int32).toUInt32 >>> ((1 : Int32).toUInt32 &&& Int32.toUInt32 31)).toInt32) hx hb dJ5_numberOfLeadingZeros_76 rfl ?_
      refine il_ti (nI (j / 2)) (pk_ushrN (by omega) _ 1 (by decide)) ?_
      refine lv_isub hx hb dJ5_numberOfLeadingZeros_77 ?_
      refine il_ti (nI (31 - j / 2)) (pk_sub (a := 31) (by omega)) ?_
      exact il_iret (v := (nI (31 - j / 2))) hx hb hr hlk rfl hw (⟨by unfold il_nlz; simp [c1, c2], rfl⟩) (Nat.le_of_ble_eq_true rfl) (Nat.le_of_ble_eq_true rfl) dJ5_numberOfLeadingZeros_78
    · have c2 : ¬ (j < 4) := fun z => c2 ((nI_ltI (a := j) (b := 4) (by omega) (by omega)).mpr z)
      have c2 : 4 ≤ j := by omega
      refine lv_iinc (v := nI 29) (lv' := [(1, .int (nI 29)), (0, .int (nI j))]) hx hb dJ5_numberOfLeadingZeros_66 hl (k := 0) rfl (by exact rfl) (by decide) rfl (fun ls hl => ?_)
      refine lv_iload_n hx hb dJ5_numberOfLeadingZeros_69 rfl (lv_at hl 1 rfl) ?_
      refine lv_iconst (v := 2) hx hb dJ5_numberOfLeadingZeros_70 (by decide) ?_
      refine lv_iushr (v := (((nI j) : Int32).toUInt32 >>> ((2 : Int32).toUInt32 &&& Int32.toUInt32 31)).toInt32) hx hb dJ5_numberOfLeadingZeros_71 rfl ?_
      refine il_ti (nI (j / 4)) (pk_ushrN (by omega) _ 2 (by decide)) ?_
      refine lv_istore_n (lv' := [(0, .int (nI (j / 4))), (1, .int (nI 29))]) hx hb dJ5_numberOfLeadingZeros_72 rfl hl (by decide) rfl (fun ls hl => ?_)
      refine lv_iload_n hx hb dJ5_numberOfLeadingZeros_73 rfl (lv_at hl 1 rfl) ?_
      refine lv_iload_n hx hb dJ5_numberOfLeadingZeros_74 rfl (lv_at hl 0 rfl) ?_
      refine lv_iconst (v := 1) hx hb dJ5_numberOfLeadingZeros_75 (by decide) ?_
      refine lv_iushr (v := (((nI (j / 4)) : Int32).toUInt32 >>> ((1 : Int32).toUInt32 &&& Int32.toUInt32 31)).toInt32) hx hb dJ5_numberOfLeadingZeros_76 rfl ?_
      refine il_ti (nI (j / 4 / 2)) (pk_ushrN (by omega) _ 1 (by decide)) ?_
      refine lv_isub hx hb dJ5_numberOfLeadingZeros_77 ?_
      refine il_ti (nI (29 - j / 4 / 2)) (pk_sub (a := 29) (by omega)) ?_
      exact il_iret (v := (nI (29 - j / 4 / 2))) hx hb hr hlk rfl hw (⟨by unfold il_nlz; simp [c1, c2], rfl⟩) (Nat.le_of_ble_eq_true rfl) (Nat.le_of_ble_eq_true rfl) dJ5_numberOfLeadingZeros_78
  · have c1 : ¬ (j < 16) := fun z => c1 ((nI_ltI (a := j) (b := 16) (by omega) (by omega)).mpr z)
    have c1 : 16 ≤ j := by omega
    refine lv_iinc (v := nI 27) (lv' := [(1, .int (nI 27)), (0, .int (nI j))]) hx hb dJ5_numberOfLeadingZeros_54 hl (k := 0) rfl (by exact rfl) (by decide) rfl (fun ls hl => ?_)
    refine lv_iload_n hx hb dJ5_numberOfLeadingZeros_57 rfl (lv_at hl 1 rfl) ?_
    refine lv_iconst (v := 4) hx hb dJ5_numberOfLeadingZeros_58 (by decide) ?_
    refine lv_iushr (v := (((nI j) : Int32).toUInt32 >>> ((4 : Int32).toUInt32 &&& Int32.toUInt32 31)).toInt32) hx hb dJ5_numberOfLeadingZeros_59 rfl ?_
    refine il_ti (nI (j / 16)) (pk_ushrN (by omega) _ 4 (by decide)) ?_
    refine lv_istore_n (lv' := [(0, .int (nI (j / 16))), (1, .int (nI 27))]) hx hb dJ5_numberOfLeadingZeros_60 rfl hl (by decide) rfl (fun ls hl => ?_)
    refine lv_iload_n hx hb dJ5_numberOfLeadingZeros_61 rfl (lv_at hl 0 rfl) ?_
    refine lv_iconst (v := 4) hx hb dJ5_numberOfLeadingZeros_62 (by decide) ?_
    refine lv_icmp_lt (tgt := 73) hx hb dJ5_numberOfLeadingZeros_63 (by decide) (fun c2 => ?_) (fun c2 => ?_)
    · have c2 : (j / 16) < 4 := (nI_ltI (a := (j / 16)) (b := 4) (by omega) (by omega)).mp c2
      have c2 : ¬ 4 ≤ j / 16 := by omega
      refine lv_iload_n hx hb dJ5_numberOfLeadingZeros_73 rfl (lv_at hl 1 rfl) ?_
      refine lv_iload_n hx hb dJ5_numberOfLeadingZeros_74 rfl (lv_at hl 0 rfl) ?_
      refine lv_iconst (v := 1) hx hb dJ5_numberOfLeadingZeros_75 (by decide) ?_
      refine lv_iushr (v := (((nI (j / 16)) : Int32).toUInt32 >>> ((1 : Int32).toUInt32 &&& Int32.toUInt32 31)).toInt32) hx hb dJ5_numberOfLeadingZeros_76 rfl ?_
      refine il_ti (nI (j / 16 / 2)) (pk_ushrN (by omega) _ 1 (by decide)) ?_
      refine lv_isub hx hb dJ5_numberOfLeadingZeros_77 ?_
      refine il_ti (nI (27 - j / 16 / 2)) (pk_sub (a := 27) (by omega)) ?_
      exact il_iret (v := (nI (27 - j / 16 / 2))) hx hb hr hlk rfl hw (⟨by unfold il_nlz; simp [c1, c2], rfl⟩) (Nat.le_of_ble_eq_true rfl) (Nat.le_of_ble_eq_true rfl) dJ5_numberOfLeadingZeros_78
    · have c2 : ¬ ((j / 16) < 4) := fun z => c2 ((nI_ltI (a := (j / 16)) (b := 4) (by omega) (by omega)).mpr z)
      have c2 : 4 ≤ j / 16 := by omega
      refine lv_iinc (v := nI 25) (lv' := [(1, .int (nI 25)), (0, .int (nI (j / 16)))]) hx hb dJ5_numberOfLeadingZeros_66 hl (k := 1) rfl (by exact rfl) (by decide) rfl (fun ls hl => ?_)
      refine lv_iload_n hx hb dJ5_numberOfLeadingZeros_69 rfl (lv_at hl 1 rfl) ?_
      refine lv_iconst (v := 2) hx hb dJ5_numberOfLeadingZeros_70 (by decide) ?_
      refine lv_iushr (v := (((nI (j / 16)) : Int32).toUInt32 >>> ((2 : Int32).toUInt32 &&& Int32.toUInt32 31)).toInt32) hx hb dJ5_numberOfLeadingZeros_71 rfl ?_
      refine il_ti (nI (j / 16 / 4)) (pk_ushrN (by omega) _ 2 (by decide)) ?_
      refine lv_istore_n (lv' := [(0, .int (nI (j / 16 / 4))), (1, .int (nI 25))]) hx hb dJ5_numberOfLeadingZeros_72 rfl hl (by decide) rfl (fun ls hl => ?_)
      refine lv_iload_n hx hb dJ5_numberOfLeadingZeros_73 rfl (lv_at hl 1 rfl) ?_
      refine lv_iload_n hx hb dJ5_numberOfLeadingZeros_74 rfl (lv_at hl 0 rfl) ?_
      refine lv_iconst (v := 1) hx hb dJ5_numberOfLeadingZeros_75 (by decide) ?_
      refine lv_iushr (v := (((nI (j / 16 / 4)) : Int32).toUInt32 >>> ((1 : Int32).toUInt32 &&& Int32.toUInt32 31)).toInt32) hx hb dJ5_numberOfLeadingZeros_76 rfl ?_
      refine il_ti (nI (j / 16 / 4 / 2)) (pk_ushrN (by omega) _ 1 (by decide)) ?_
      refine lv_isub hx hb dJ5_numberOfLeadingZeros_77 ?_
      refine il_ti (nI (25 - j / 16 / 4 / 2)) (pk_sub (a := 25) (by omega)) ?_
      exact il_iret (v := (nI (25 - j / 16 / 4 / 2))) hx hb hr hlk rfl hw (⟨by unfold il_nlz; simp [c1, c2], rfl⟩) (Nat.le_of_ble_eq_true rfl) (Nat.le_of_ble_eq_true rfl) dJ5_numberOfLeadingZeros_78
set_option maxHeartbeats 4000000 in
set_option maxRecDepth 100000 in
/-- Integer.highestOneBit(1 .. 127) -/
theorem met_hob {l : Launch} {G : il_G} {M : il_M} {j : Nat} (h1 : 1 ≤ j) (h2 : j < 128) : il_Ci l G yJ5_highestOneBit cJ5_highestOneBit 1 (.int) 1 0 0 [.int (nI j)] M (fun r M' => r = nI (il_hob j) ∧ M' = M) := by
  refine il_enter (by decide) (Nat.le_of_ble_eq_true rfl) ?_
  intro p e s m below meth cd hF hw ls hl
  obtain ⟨hx, hb, hr, hlk, hml, hown, hin, hts, hB⟩ := id hF
  have hl : lv_has ls 1 [(0, .int (nI j))] := hl
  have hown : s.vm.findClass RJ5 = some m.cls := hown
  refine lv_iload_n hx hb dJ5_highestOneBit_0 rfl (lv_at hl 0 rfl) ?_
  refine lv_ldc hx hb hown (hts _ q192) dJ5_highestOneBit_1 ?_
  refine lv_iload_n hx hb dJ5_highestOneBit_3 rfl (lv_at hl 0 rfl) ?_
  refine il_ri hw (il_rS (n := 1) (As := [.int (nI j)]) (rest := [.int (-2147483648), .int (nI j)]) ⟨hx, hb, hml, hown, hts⟩ (met_nlz h1 h2) (lw_S q193 q194 q14 q195) (by decide +kernel) ⟨Nat.le_of_ble_eq_true rfl, Nat.le_of_ble_eq_true rfl⟩ hB hw rfl hl.1 rfl (Nat.le_of_ble_eq_true rfl) dJ5_highestOneBit_4 ⟨(Nat.le_of_ble_eq_true rfl), (Nat.le_of_ble_eq_true rfl)⟩) (fun r M_ H locs hp hw => ?_)
  obtain ⟨rfl, eM_⟩ := hp
  rw [eM_] at hw
  refine lv_iushr (v := (((-2147483648) : Int32).toUInt32 >>> (((nI (il_nlz j)) : Int32).toUInt32 &&& Int32.toUInt32 31)).toInt32) hx hb dJ5_highestOneBit_7 rfl ?_
  refine lv_iand hx hb dJ5_highestOneBit_8 ?_
  refine il_ti (nI (il_hob j)) ((il_hob_ok j h2 h1).1) ?_
  exact il_iret (v := (nI (il_hob j))) hx hb hr hlk rfl hw (⟨rfl, rfl⟩) (Nat.le_of_ble_eq_true rfl) (Nat.le_of_ble_eq_true rfl) dJ5_highestOneBit_9
set_option maxHeartbeats 4000000 in
set_option maxRecDepth 100000 in
/-- Long.hashCode(v) -/
theorem met_longHash {l : Launch} {G : il_G} {M : il_M} {v : Int64} : il_Ci l G yJ9_hashCode cJ9_hashCode 2 (.int) 0 0 0 [.long v] M (fun r M' => r = il_hc v ∧ M' = M) := by
  refine il_enter (by decide) (Nat.le_of_ble_eq_true rfl) ?_
  intro p e s m below meth cd hF hw ls hl
  obtain ⟨hx, hb, hr, hlk, hml, hown, hin, hts, hB⟩ := id hF
  have hl : lv_has ls 2 [(0, .long v)] := hl
  have hown : s.vm.findClass RJ9 = some m.cls := hown
  refine lv_lload_n hx hb dJ9_hashCode_0 rfl (lv_at hl 0 rfl) ?_
  refine lv_lload_n hx hb dJ9_hashCode_1 rfl (lv_at hl 0 rfl) ?_
  refine lv_bipush (v := 32) hx hb dJ9_hashCode_2 (by decide) ?_
  refine lv_lushr (v := (v.toUInt64 >>> ((32 : Int32).toInt64.toUInt64 &&& Int64.toUInt64 63)).toInt64) hx hb dJ9_hashCode_4 rfl ?_
  refine lv_lxor hx hb dJ9_hashCode_5 ?_
  refine lv_l2i hx hb dJ9_hashCode_6 rfl ?_
  exact il_iret (v := (((v ^^^ ((v.toUInt64 >>> ((32 : Int32).toInt64.toUInt64 &&& Int64.toUInt64 63)).toInt64)) : Int64).toInt32)) hx hb hr hlk rfl hw (⟨rfl, rfl⟩) (Nat.le_of_ble_eq_true rfl) (Nat.le_of_ble_eq_true rfl) dJ9_hashCode_7
set_option maxHeartbeats 4000000 in
set_option maxRecDepth 100000 in
/-- Arrays.checkLength(from, to) -/
theorem met_checkLength {l : Launch} {G : il_G} {M : il_M} {a b : Nat} (h1 : a ≤ b) (h2 : b < 2 ^ 31) : il_Cv l G yJ6_checkLength cJ6_checkLength 2 0 0 0 [.int (nI a), .int (nI b)] M (fun M' => M' = M) := by
  refine il_enter (by decide) (Nat.le_of_ble_eq_true rfl) ?_
  intro p e s m below meth cd hF hw ls hl
  obtain ⟨hx, hb, hr, hlk, hml, hown, hin, hts, hB⟩ := id hF
  have hl : lv_has ls 2 [(0, .int (nI a)), (1, .int (nI b))] := hl
  have hown : s.vm.findClass RJ6 = some m.cls := hown
  refine lv_iload_n hx hb dJ6_checkLength_0 rfl (lv_at hl 1 rfl) ?_
  refine lv_iload_n hx hb dJ6_checkLength_1 rfl (lv_at hl 0 rfl) ?_
  refine lv_icmp_ge (tgt := 37) hx hb dJ6_checkLength_2 (by decide) (fun c => ?_) (fun c => False.elim (c (nI_le h1 h2)))
  exact il_vret hx hb hr hlk hw rfl (Nat.le_of_ble_eq_true rfl) (Nat.le_of_ble_eq_true rfl) dJ6_checkLength_37
set_option maxHeartbeats 4000000 in
set_option maxRecDepth 100000 in
/-- Arrays.copyOf(array, a greater length) -/
theorem met_copyOf {l : Launch} {G : il_G} {M : il_M} {a n k : Nat} {f : Nat → Int64} (ha : M a = some (il_eJ G n f)) (h1 : n < k) (h2 : k < 200) : il_Cr l G yJ6_copyOf cJ6_copyOf 3 (.array .long) 1 1 200 [.ref a, .int (nI k)] M (fun r M' => M r = none ∧ ∃ f', M' = il_up M r (il_eJ G k f') ∧ ∀ j, j < n → f' j = f j) := by
  refine il_enter (by decide) (Nat.le_of_ble_eq_true rfl) ?_
  intro p e s m below meth cd hF hw ls hl
  obtain ⟨hx, hb, hr, hlk, hml, hown, hin, hts, hB⟩ := id hF
  have hl : lv_has ls 3 [(0, .ref a), (1, .int (nI k))] := hl
  have hown : s.vm.findClass RJ6 = some m.cls := hown
  have ha0 := ha
  refine lv_iload_n hx hb dJ6_copyOf_0 rfl (lv_at hl 1 rfl) ?_
  refine lv_aload_n hx hb dJ6_copyOf_1 rfl (lv_at hl 0 rfl) ?_
  refine il_alen hx hb hB hw ha dJ6_copyOf_2 ?_
  refine lv_icmp_ne (tgt := 14) hx hb dJ6_copyOf_3 (by decide) (fun c => ?_) (fun c => False.elim (absurd ((nI_eq (by omega) (by omega)).mp c) (by omega)))
  refine lv_iload_n hx hb dJ6_copyOf_14 rfl (lv_at hl 1 rfl) ?_
  refine il_newJ (n := k) hx hb hts hB hw (by omega) rfl (Nat.le_of_ble_eq_true rfl) (by show 0 + k ≤ 200; omega) dJ6_copyOf_15 (fun q H locs hn_q hw => ?_)
  have hw : il_W G s (il_up M q (il_eJ G k (fun _ => 0))) H locs := hw
  have ha := il_up_keep (a := q) (e := (il_eJ G k (fun _ => 0))) (il_new hn_q ha) ha
  have hq : il_up M q (il_eJ G k (fun _ => 0)) q = some (il_eJ G k (fun _ => 0)) := il_up_eq _ _ _
  generalize eM1 : il_up M q (il_eJ G k (fun _ => 0)) = M1 at hw ha hq
  refine W.widen (k := 1) (n := 200) (by omega) (by omega) ?_
  refine lv_astore_n (lv' := [(2, .ref q), (0, .ref a), (1, .int (nI k))]) hx hb dJ6_copyOf_17 rfl hl (by decide) rfl (fun ls hl => ?_)
  refine lv_aload_n hx hb dJ6_copyOf_18 rfl (lv_at hl 1 rfl) ?_
  refine lv_iconst (v := 0) hx hb dJ6_copyOf_19 (by decide) ?_
  refine lv_aload_n hx hb dJ6_copyOf_20 rfl (lv_at hl 0 rfl) ?_
  refine lv_iconst (v := 0) hx hb dJ6_copyOf_21 (by decide) ?_
  refine lv_aload_n hx hb dJ6_copyOf_22 rfl (lv_at hl 1 rfl) ?_
  refine il_alen hx hb hB hw ha dJ6_copyOf_23 ?_
  refine lv_iload_n hx hb dJ6_copyOf_24 rfl (lv_at hl 2 rfl) ?_
  refine va_mmin hx hb (by rw [hml]; exact hl.1.symm) hown (hts _ q208) (hts _ q209) (hts _ q16) (hts _ q210) (Nat.le_of_ble_eq_true rfl) (Nat.le_of_ble_eq_true rfl) (by first | exact Nat.le_of_ble_eq_true rfl | (dsimp only; omega)) (by first | exact Nat.le_of_ble_eq_true rfl | (dsimp only; omega)) dJ6_copyOf_25 ?_
  refine il_ti (nI n) (if_neg (nI_nlt (by omega) (by omega))) ?_
  refine il_copy (sp := 0) (dp := 0) (n := n) hx hb (by rw [hml]; exact hl.1.symm) hts hown (hts _ q211) hB hw ha hq rfl rfl rfl (by omega) (by omega) (by omega) (by omega) (Nat.le_of_ble_eq_true rfl) (by decide +kernel) dJ6_copyOf_28 (fun H locs hw => ?_)
  have hw : il_W G s (il_up M1 q (il_eJ G k (va_cpy f (fun _ => 0) 0 0 n))) H locs := hw
  have ha := il_up_keep (a := q) (e := (il_eJ G k (va_cpy f (fun _ => 0) 0 0 n))) (il_new hn_q ha0) ha
  have hq : il_up M1 q (il_eJ G k (va_cpy f (fun _ => 0) 0 0 n)) q = some (il_eJ G k (va_cpy f (fun _ => 0) 0 0 n)) := il_up_eq _ _ _
  generalize eM2 : il_up M1 q (il_eJ G k (va_cpy f (fun _ => 0) 0 0 n)) = M2 at hw ha hq
  refine lv_aload_n hx hb dJ6_copyOf_31 rfl (lv_at hl 0 rfl) ?_
  exact il_aret (r := q) hx hb hr (Or.inr ⟨_, rfl⟩) hlk hw (⟨hn_q, va_cpy f (fun _ => 0) 0 0 n, by rw [← eM2, ← eM1, il_up_up], fun j hj => by rw [pk_cpy_in (by omega) (by omega)]; congr 1; omega⟩) (Nat.le_of_ble_eq_true rfl) (Nat.le_of_ble_eq_true rfl) dJ6_copyOf_32
theorem il_min {a b : Nat} (h : a ≤ b) (hb : b < 2 ^ 31) : (if nI a < nI b then nI a else nI b) = nI a := by
  split
  · rfl
  · next z => rw [show a = b from Nat.le_antisymm h (Nat.not_lt.mp fun q => z (nI_lt q hb))]
set_option maxHeartbeats 4000000 in
set_option maxRecDepth 100000 in
/-- Arrays.copyOfRangeLong -/
theorem met_copyOfRangeLong {l : Launch} {G : il_G} {M : il_M} {a N st en : Nat} {f : Nat → Int64} (ha : M a = some (il_eJ G N f)) (h1 : st ≤ en) (h2 : en ≤ N) (h3 : N < 1000) (h4 : en - st ≤ 200) : il_Cr l G yJ6_copyOfRangeLong cJ6_copyOfRangeLong 5 (.array .long) 1 1 200 [.ref a, .int (nI st), .int (nI en)] M (fun r M' => M r = none ∧ ∃ f', M' = il_up M r (il_eJ G (en - st) f') ∧ ∀ j, j < en - st → f' j = f (st + j)) := by
  refine il_enter (by decide) (Nat.le_of_ble_eq_true rfl) ?_
  intro p e s m below meth cd hF hw ls hl
  obtain ⟨hx, hb, hr, hlk, hml, hown, hin, hts, hB⟩ := id hF
  have hl : lv_has ls 5 [(0, .ref a), (1, .int (nI st)), (2, .int (nI en))] := hl
  have hown : s.vm.findClass RJ6 = some m.cls := hown
  have ha0 := ha
  refine lv_iload_n hx hb dJ6_copyOfRangeLong_0 rfl (lv_at hl 1 rfl) ?_
  refine lv_iload_n hx hb dJ6_copyOfRangeLong_1 rfl (lv_at hl 2 rfl) ?_
  refine il_rv hw (il_rS (n := 2) (As := [.int (nI st), .int (nI en)]) (rest := []) ⟨hx, hb, hml, hown, hts⟩ (met_checkLength h1 (by omega)) (lw_S q335 q336 q15 q337) (by decide +kernel) ⟨Nat.le_of_ble_eq_true rfl, Nat.le_of_ble_eq_true rfl⟩ hB hw rfl hl.1 rfl (Nat.le_of_ble_eq_true rfl) dJ6_copyOfRangeLong_2 ⟨(Nat.le_of_ble_eq_true rfl), (Nat.le_of_ble_eq_true rfl)⟩) (fun M_ H locs hp hw => ?_)
  rw [hp] at hw
  refine lv_iload_n hx hb dJ6_copyOfRangeLong_5 rfl (lv_at hl 2 rfl) ?_
  refine lv_iload_n hx hb dJ6_copyOfRangeLong_6 rfl (lv_at hl 1 rfl) ?_
  refine lv_isub hx hb dJ6_copyOfRangeLong_7 ?_
  refine il_ti (nI (en - st)) (pk_sub h1) ?_
  refine lv_istore_n (lv' := [(3, .int (nI (en - st))), (0, .ref a), (1, .int (nI st)), (2, .int (nI en))]) hx hb dJ6_copyOfRangeLong_8 rfl hl (by decide) rfl (fun ls hl => ?_)
  refine lv_iload_n hx hb dJ6_copyOfRangeLong_9 rfl (lv_at hl 0 rfl) ?_
  refine il_newJ (n := (en - st)) hx hb hts hB hw (by omega) rfl (Nat.le_of_ble_eq_true rfl) (by show 0 + 0 + (en - st) ≤ 200; omega) dJ6_copyOfRangeLong_10 (fun q H locs hn_q hw => ?_)
  have hw : il_W G s (il_up M q (il_eJ G (en - st) (fun _ => 0))) H locs := hw
  have ha := il_up_keep (a := q) (e := (il_eJ G (en - st) (fun _ => 0))) (il_new hn_q ha) ha
  have hq : il_up M q (il_eJ G (en - st) (fun _ => 0)) q = some (il_eJ G (en - st) (fun _ => 0)) := il_up_eq _ _ _
  generalize eM1 : il_up M q (il_eJ G (en - st) (fun _ => 0)) = M1 at hw ha hq
  refine W.widen (k := 1) (n := 200) (by omega) (by omega) ?_
  refine lv_astore (lv' := [(4, .ref q), (3, .int (nI (en - st))), (0, .ref a), (1, .int (nI st)), (2, .int (nI en))]) hx hb dJ6_copyOfRangeLong_12 hl (by decide) rfl (fun ls hl => ?_)
  refine lv_aload_n hx hb dJ6_copyOfRangeLong_14 rfl (lv_at hl 2 rfl) ?_
  refine lv_iload_n hx hb dJ6_copyOfRangeLong_15 rfl (lv_at hl 3 rfl) ?_
  refine lv_aload hx hb dJ6_copyOfRangeLong_16 (lv_at hl 0 rfl) ?_
  refine lv_iconst (v := 0) hx hb dJ6_copyOfRangeLong_18 (by decide) ?_
  refine lv_aload_n hx hb dJ6_copyOfRangeLong_19 rfl (lv_at hl 2 rfl) ?_
  refine il_alen hx hb hB hw ha dJ6_copyOfRangeLong_20 ?_
  refine lv_iload_n hx hb dJ6_copyOfRangeLong_21 rfl (lv_at hl 3 rfl) ?_
  refine lv_isub hx hb dJ6_copyOfRangeLong_22 ?_
  refine il_ti (nI (N - st)) (pk_sub (by omega)) ?_
  refine lv_iload_n hx hb dJ6_copyOfRangeLong_23 rfl (lv_at hl 1 rfl) ?_
  refine va_mmin hx hb (by rw [hml]; exact hl.1.symm) hown (hts _ q208) (hts _ q209) (hts _ q16) (hts _ q210) (Nat.le_of_ble_eq_true rfl) (Nat.le_of_ble_eq_true rfl) (by first | exact Nat.le_of_ble_eq_true rfl | (dsimp only; omega)) (by first | exact Nat.le_of_ble_eq_true rfl | (dsimp only; omega)) dJ6_copyOfRangeLong_24 ?_
  refine il_ti (nI (en - st)) (il_min (by omega) (by omega)) ?_
  refine il_copy (sp := st) (dp := 0) (n := (en - st)) hx hb (by rw [hml]; exact hl.1.symm) hts hown (hts _ q211) hB hw ha hq rfl rfl rfl (by omega) (by omega) (by omega) (by omega) (Nat.le_of_ble_eq_true rfl) (by decide +kernel) dJ6_copyOfRangeLong_27 (fun H locs hw => ?_)
  have hw : il_W G s (il_up M1 q (il_eJ G (en - st) (va_cpy f (fun _ => 0) st 0 (en - st)))) H locs := hw
  have ha := il_up_keep (a := q) (e := (il_eJ G (en - st) (va_cpy f (fun _ => 0) st 0 (en - st)))) (il_new hn_q ha0) ha
  have hq : il_up M1 q (il_eJ G (en - st) (va_cpy f (fun _ => 0) st 0 (en - st))) q = some (il_eJ G (en - st) (va_cpy f (fun _ => 0) st 0 (en - st))) := il_up_eq _ _ _
  generalize eM2 : il_up M1 q (il_eJ G (en - st) (va_cpy f (fun _ => 0) st 0 (en - st))) = M2 at hw ha hq
  refine lv_aload hx hb dJ6_copyOfRangeLong_30 (lv_at hl 0 rfl) ?_
  exact il_aret (r := q) hx hb hr (Or.inr ⟨_, rfl⟩) hlk hw (⟨hn_q, va_cpy f (fun _ => 0) st 0 (en - st), by rw [← eM2, ← eM1, il_up_up], fun j hj => by rw [pk_cpy_in (by omega) (by omega)]; congr 1⟩) (Nat.le_of_ble_eq_true rfl) (Nat.le_of_ble_eq_true rfl) dJ6_copyOfRangeLong_32
set_option maxHeartbeats 4000000 in
set_option maxRecDepth 100000 in
/-- Arrays.copyOfRange -/
theorem met_copyOfRange {l : Launch} {G : il_G} {M : il_M} {a N st en : Nat} {f : Nat → Int64} (ha : M a = some (il_eJ G N f)) (h1 : st ≤ en) (h2 : en ≤ N) (h3 : N < 1000) (h4 : en - st ≤ 200) : il_Cr l G yJ6_copyOfRange cJ6_copyOfRange 3 (.array .long) 2 1 200 [.ref a, .int (nI st), .int (nI en)] M (fun r M' => M r = none ∧ ∃ f', M' = il_up M r (il_eJ G (en - st) f') ∧ ∀ j, j < en - st → f' j = f (st + j)) := by
  refine il_enter (by decide) (Nat.le_of_ble_eq_true rfl) ?_
  intro p e s m below meth cd hF hw ls hl
  obtain ⟨hx, hb, hr, hlk, hml, hown, hin, hts, hB⟩ := id hF
  have hl : lv_has ls 3 [(0, .ref a), (1, .int (nI st)), (2, .int (nI en))] := hl
  have hown : s.vm.findClass RJ6 = some m.cls := hown
  refine lv_iload_n hx hb dJ6_copyOfRange_0 rfl (lv_at hl 1 rfl) ?_
  refine lv_if_ne (tgt := 10) hx hb dJ6_copyOfRange_1 (by decide) (fun c => ?_) (fun c => ?_)
  · refine lv_aload_n hx hb dJ6_copyOfRange_10 rfl (lv_at hl 0 rfl) ?_
    refine lv_iload_n hx hb dJ6_copyOfRange_11 rfl (lv_at hl 1 rfl) ?_
    refine lv_iload_n hx hb dJ6_copyOfRange_12 rfl (lv_at hl 2 rfl) ?_
    refine il_rr hw (il_rS (n := 3) (As := [.ref a, .int (nI st), .int (nI en)]) (rest := []) ⟨hx, hb, hml, hown, hts⟩ (met_copyOfRangeLong ha h1 h2 h3 h4) (lw_S q332 q333 q15 q334) (by decide +kernel) ⟨Nat.le_of_ble_eq_true rfl, Nat.le_of_ble_eq_true rfl⟩ hB hw rfl hl.1 rfl (Nat.le_of_ble_eq_true rfl) dJ6_copyOfRange_13 ⟨(Nat.le_of_ble_eq_true rfl), (Nat.le_of_ble_eq_true rfl)⟩) (fun r M_ H locs hp hw => ?_)
    exact il_aret (r := r) hx hb hr (Or.inr ⟨_, rfl⟩) hlk hw hp (Nat.le_of_ble_eq_true rfl) (Nat.le_of_ble_eq_true rfl) dJ6_copyOfRange_16
  · refine lv_iload_n hx hb dJ6_copyOfRange_4 rfl (lv_at hl 2 rfl) ?_
    refine lv_aload_n hx hb dJ6_copyOfRange_5 rfl (lv_at hl 0 rfl) ?_
    refine il_alen hx hb hB hw ha dJ6_copyOfRange_6 ?_
    refine lv_icmp_eq (tgt := 17) hx hb dJ6_copyOfRange_7 (by decide) (fun c2 => ?_) (fun c2 => ?_)
    · have e1 : st = 0 := (nI_eq (by omega) (by omega)).mp (c.trans nI_0.symm)
      have e2 : en = N := (nI_eq (by omega) (by omega)).mp c2
      subst e1
      subst e2
      refine lv_aload_n hx hb dJ6_copyOfRange_17 rfl (lv_at hl 0 rfl) ?_
      refine il_clone hx hb (by rw [hml]; exact hl.1.symm) hts hown (hts _ q201) hB hw ha (Nat.le_of_ble_eq_true rfl) (Nat.le_of_ble_eq_true rfl) (Nat.le_of_ble_eq_true rfl) (by show 0 + en ≤ 200; omega) dJ6_copyOfRange_18 (fun q H locs hn_q hw => ?_)
      refine W.widen (k := 1) (n := 200) (by omega) (by omega) ?_
      refine il_castJ hx hb hown (hts _ q207) hB hw (il_up_eq _ _ _) dJ6_copyOfRange_21 ?_
      exact il_aret (r := q) hx hb hr (Or.inr ⟨_, rfl⟩) hlk hw (⟨hn_q, f, rfl, fun j _ => by rw [Nat.zero_add]⟩) (Nat.le_of_ble_eq_true rfl) (Nat.le_of_ble_eq_true rfl) dJ6_copyOfRange_24
    · refine lv_aload_n hx hb dJ6_copyOfRange_10 rfl (lv_at hl 0 rfl) ?_
      refine lv_iload_n hx hb dJ6_copyOfRange_11 rfl (lv_at hl 1 rfl) ?_
      refine lv_iload_n hx hb dJ6_copyOfRange_12 rfl (lv_at hl 2 rfl) ?_
      refine il_rr hw (il_rS (n := 3) (As := [.ref a, .int (nI st), .int (nI en)]) (rest := []) ⟨hx, hb, hml, hown, hts⟩ (met_copyOfRangeLong ha h1 h2 h3 h4) (lw_S q332 q333 q15 q334) (by decide +kernel) ⟨Nat.le_of_ble_eq_true rfl, Nat.le_of_ble_eq_true rfl⟩ hB hw rfl hl.1 rfl (Nat.le_of_ble_eq_true rfl) dJ6_copyOfRange_13 ⟨(Nat.le_of_ble_eq_true rfl), (Nat.le_of_ble_eq_true rfl)⟩) (fun r M_ H locs hp hw => ?_)
      exact il_aret (r := r) hx hb hr (Or.inr ⟨_, rfl⟩) hlk hw hp (Nat.le_of_ble_eq_true rfl) (Nat.le_of_ble_eq_true rfl) dJ6_copyOfRange_16
end
section
/-! CONTRACTS: ImmutableLongArray, Builder(room) (printed by wip/D-17801w/gen/m21.py) -/
set_option maxRecDepth 100000
theorem il_len {st n : Nat} : nI (st + n) - nI st = nI n := by rw [pk_sub (Nat.le_add_right _ _), Nat.add_sub_cancel_left]
theorem il_lt1 {st : Nat} (h : st < 2 ^ 30) : nI st - 1 < nI st := by
  have e := pk_sub_toInt (a := st) (b := 1) h (by omega)
  have e2 := nI_toInt (n := st) (by omega)
  rw [Int32.lt_iff_toInt_lt, e2]
  have e3 : (nI st - 1).toInt = (st : Int) - 1 := e
  rw [e3]
  omega
theorem il_m1 (a : Nat) : nI a + (-1) = nI a - 1 := (Int32.sub_eq_add_neg (nI a) 1).symm
theorem il_up_none {M : il_M} {a q : Nat} {e : va_E} (h : il_up M a e q = none) : M q = none ∧ q ≠ a := by
  by_cases z : q = a
  · subst z
    rw [il_up_eq] at h
    cases h
  · rw [il_up_ne z] at h
    exact ⟨h, z⟩
theorem il_ext.set {M M1 : il_M} {a : Nat} {e : va_E} (h : il_ext M M1) (hn : M a = none) : il_ext M (il_up M1 a e) := fun q e' z => il_up_keep (il_new hn z) (h q e' z)
theorem il_ext.none {M M1 : il_M} {a : Nat} (h : il_ext M M1) (hn : M1 a = none) : M a = none := by
  cases z : M a with
  | none => rfl
  | some e =>
    rw [h a e z] at hn
    cases hn
theorem il_nI_inj {a b : Nat} (ha : a < 2 ^ 31) (hb : b < 2 ^ 31) (h : nI a = nI b) : a = b := (nI_eq ha hb).mp h
theorem il_row.uniq {G : il_G} {M : il_M} {h a a' st st' n n' : Nat} {g g' : Nat → Int64} (h1 : il_row G M h a st n g) (h2 : il_row G M h a' st' n' g') : il_same n g n' g' := by
  obtain ⟨N, f, p1, p2, p3, p4, p5⟩ := h1
  obtain ⟨N', f', q1, q2, q3, q4, q5⟩ := h2
  have e := p1.symm.trans q1
  simp only [il_eR, Option.some.injEq, Sum.inr.injEq, Prod.mk.injEq, List.cons.injEq, Value.ref.injEq, Value.int.injEq, true_and, and_true] at e
  obtain ⟨rfl, e2, e3⟩ := e
  have e4 := p2.symm.trans q2
  simp only [il_eJ, Option.some.injEq, Sum.inl.injEq, Prod.mk.injEq, Sum.inr.injEq, true_and] at e4
  obtain ⟨rfl, rfl⟩ := e4
  have x1 : st = st' := il_nI_inj (by omega) (by omega) e2
  have x2 : st + n = st' + n' := il_nI_inj (by omega) (by omega) e3
  subst x1
  have x3 : n = n' := by omega
  subst x3
  exact ⟨rfl, fun j hj => by rw [← p5 j hj, ← q5 j hj]⟩
set_option maxHeartbeats 4000000 in
set_option maxRecDepth 100000 in
/-- ImmutableLongArray.length() -/
theorem met_length {l : Launch} {G : il_G} {M : il_M} {h a st n : Nat} (hh : M h = some (il_eR a (nI st) (nI (st + n)))) : il_Ci l G yX2_length cX2_length 1 (.int) 0 0 0 [.ref h] M (fun r M' => r = nI n ∧ M' = M) := by
  refine il_enter (by decide) (Nat.le_of_ble_eq_true rfl) ?_
  intro p e s m below meth cd hF hw ls hl
  obtain ⟨hx, hb, hr, hlk, hml, hown, hin, hts, hB⟩ := id hF
  have hl : lv_has ls 1 [(0, .ref h)] := hl
  have hown : s.vm.findClass RX2 = some m.cls := hown
  refine lv_aload_n hx hb dX2_length_0 rfl (lv_at hl 0 rfl) ?_
  refine il_get (C := RX2) (T := TX2) (N := 3) hx hb hts in_X2 hown hB hw hh rfl 2 (by decide) (hts _ q135) (fun _ h9 => h9) rfl dX2_length_1 ?_
  refine lv_aload_n hx hb dX2_length_4 rfl (lv_at hl 0 rfl) ?_
  refine il_get (C := RX2) (T := TX2) (N := 3) hx hb hts in_X2 hown hB hw hh rfl 1 (by decide) (hts _ q134) (fun _ h9 => h9) rfl dX2_length_5 ?_
  refine lv_isub hx hb dX2_length_8 ?_
  refine il_ti (nI n) il_len ?_
  exact il_iret (v := (nI n)) hx hb hr hlk rfl hw (⟨rfl, rfl⟩) (Nat.le_of_ble_eq_true rfl) (Nat.le_of_ble_eq_true rfl) dX2_length_9
set_option maxHeartbeats 4000000 in
set_option maxRecDepth 100000 in
/-- isEmpty() -/
theorem met_isEmpty {l : Launch} {G : il_G} {M : il_M} {h a st n : Nat} {g : Nat → Int64} (hrow : il_row G M h a st n g) : il_Ci l G yX2_isEmpty cX2_isEmpty 1 (.boolean) 0 0 0 [.ref h] M (fun r M' => ((n = 0 ∧ r = 1) ∨ (n ≠ 0 ∧ r = 0)) ∧ M' = M) := by
  refine il_enter (by decide) (Nat.le_of_ble_eq_true rfl) ?_
  intro p e s m below meth cd hF hw ls hl
  obtain ⟨hx, hb, hr, hlk, hml, hown, hin, hts, hB⟩ := id hF
  have hl : lv_has ls 1 [(0, .ref h)] := hl
  have hown : s.vm.findClass RX2 = some m.cls := hown
  have hrow0 := hrow
  obtain ⟨N, f, hh, ha, hle, hN, hg⟩ := hrow0
  refine lv_aload_n hx hb dX2_isEmpty_0 rfl (lv_at hl 0 rfl) ?_
  refine il_get (C := RX2) (T := TX2) (N := 3) hx hb hts in_X2 hown hB hw hh rfl 2 (by decide) (hts _ q135) (fun _ h9 => h9) rfl dX2_isEmpty_1 ?_
  refine lv_aload_n hx hb dX2_isEmpty_4 rfl (lv_at hl 0 rfl) ?_
  refine il_get (C := RX2) (T := TX2) (N := 3) hx hb hts in_X2 hown hB hw hh rfl 1 (by decide) (hts _ q134) (fun _ h9 => h9) rfl dX2_isEmpty_5 ?_
  refine lv_icmp_ne (tgt := 15) hx hb dX2_isEmpty_8 (by decide) (fun c => ?_) (fun c => ?_)
  · have c : ¬ ((st + n) = st) := fun z => c ((nI_eq (a := (st + n)) (b := st) (by omega) (by omega)).mpr z)
    refine lv_iconst (v := 0) hx hb dX2_isEmpty_15 (by decide) ?_
    exact il_iret (v := 0) hx hb hr hlk rfl hw (⟨Or.inr ⟨by omega, rfl⟩, rfl⟩) (Nat.le_of_ble_eq_true rfl) (Nat.le_of_ble_eq_true rfl) dX2_isEmpty_16
  · have c : (st + n) = st := (nI_eq (a := (st + n)) (b := st) (by omega) (by omega)).mp c
    refine lv_iconst (v := 1) hx hb dX2_isEmpty_11 (by decide) ?_
    refine lv_goto (tgt := 16) hx hb dX2_isEmpty_12 (by decide) ?_
    exact il_iret (v := 1) hx hb hr hlk rfl hw (⟨Or.inl ⟨by omega, rfl⟩, rfl⟩) (Nat.le_of_ble_eq_true rfl) (Nat.le_of_ble_eq_true rfl) dX2_isEmpty_16
set_option maxHeartbeats 4000000 in
set_option maxRecDepth 100000 in
/-- get(i) -/
theorem met_get {l : Launch} {G : il_G} {M : il_M} {h a st n : Nat} {g : Nat → Int64} (hrow : il_row G M h a st n g) {i : Nat} (hi : i < n) : il_Cl l G yX2_get cX2_get 2 2 0 0 [.ref h, .int (nI i)] M (fun r M' => r = g i ∧ M' = M) := by
  refine il_enter (by decide) (Nat.le_of_ble_eq_true rfl) ?_
  intro p e s m below meth cd hF hw ls hl
  obtain ⟨hx, hb, hr, hlk, hml, hown, hin, hts, hB⟩ := id hF
  have hl : lv_has ls 2 [(0, .ref h), (1, .int (nI i))] := hl
  have hown : s.vm.findClass RX2 = some m.cls := hown
  have hrow0 := hrow
  obtain ⟨N, f, hh, ha, hle, hN, hg⟩ := hrow0
  refine lv_iload_n hx hb dX2_get_0 rfl (lv_at hl 1 rfl) ?_
  refine lv_aload_n hx hb dX2_get_1 rfl (lv_at hl 0 rfl) ?_
  refine il_ri hw (il_rV (n := 0) (h := h) (As := []) (rest := [.int (nI i)]) ⟨hx, hb, hml, hown, hts⟩ (met_length hh) (lw_V q239 q158 q159 q5 q160) (by decide +kernel) ⟨Nat.le_of_ble_eq_true rfl, Nat.le_of_ble_eq_true rfl⟩ hB hw hh rfl rfl hl.1 rfl (Nat.le_of_ble_eq_true rfl) dX2_get_2 ⟨(Nat.le_of_ble_eq_true rfl), (Nat.le_of_ble_eq_true rfl)⟩) (fun r M_ H locs hp hw => ?_)
  obtain ⟨rfl, eM_⟩ := hp
  rw [eM_] at hw
  refine il_ri hw (il_rS (n := 2) (As := [.int (nI i), .int (nI n)]) (rest := []) ⟨hx, hb, hml, hown, hts⟩ (met_checkElementIndex hi (by omega)) (lw_S q270 q271 q6 q272) (by decide +kernel) ⟨Nat.le_of_ble_eq_true rfl, Nat.le_of_ble_eq_true rfl⟩ hB hw rfl hl.1 rfl (Nat.le_of_ble_eq_true rfl) dX2_get_5 ⟨(Nat.le_of_ble_eq_true rfl), (Nat.le_of_ble_eq_true rfl)⟩) (fun r M_ H locs hp hw => ?_)
  obtain ⟨rfl, eM_⟩ := hp
  rw [eM_] at hw
  refine lv_pop hx hb dX2_get_8 rfl ?_
  refine lv_aload_n hx hb dX2_get_9 rfl (lv_at hl 0 rfl) ?_
  refine il_get (C := RX2) (T := TX2) (N := 3) hx hb hts in_X2 hown hB hw hh rfl 0 (by decide) (hts _ q132) (fun _ h9 => h9) rfl dX2_get_10 ?_
  refine lv_aload_n hx hb dX2_get_13 rfl (lv_at hl 0 rfl) ?_
  refine il_get (C := RX2) (T := TX2) (N := 3) hx hb hts in_X2 hown hB hw hh rfl 1 (by decide) (hts _ q134) (fun _ h9 => h9) rfl dX2_get_14 ?_
  refine lv_iload_n hx hb dX2_get_17 rfl (lv_at hl 1 rfl) ?_
  refine lv_iadd hx hb dX2_get_18 ?_
  refine il_ti (nI (st + i)) (nI_add st i) ?_
  refine il_lald (i := (st + i)) hx hb hB hw ha (by omega) (by omega) rfl dX2_get_19 ?_
  exact il_lret (v := (f (st + i))) hx hb hr hlk hw (⟨hg i hi, rfl⟩) (Nat.le_of_ble_eq_true rfl) (Nat.le_of_ble_eq_true rfl) dX2_get_20
set_option maxHeartbeats 4000000 in
set_option maxRecDepth 100000 in
/-- indexOf(v) -/
theorem met_indexOf {l : Launch} {G : il_G} {M : il_M} {h a st n : Nat} {g : Nat → Int64} (hrow : il_row G M h a st n g) {v : Int64} : il_Ci l G yX2_indexOf cX2_indexOf 4 (.int) 0 0 0 [.ref h, .long v] M (fun r M' => il_fst n g v r ∧ M' = M) := by
  refine il_enter (by decide) (Nat.le_of_ble_eq_true rfl) ?_
  intro p e s m below meth cd hF hw ls hl
  obtain ⟨hx, hb, hr, hlk, hml, hown, hin, hts, hB⟩ := id hF
  have hl : lv_has ls 4 [(0, .ref h), (1, .long v)] := hl
  have hown : s.vm.findClass RX2 = some m.cls := hown
  have hrow0 := hrow
  obtain ⟨N, f, hh, ha, hle, hN, hg⟩ := hrow0
  refine lv_aload_n hx hb dX2_indexOf_0 rfl (lv_at hl 0 rfl) ?_
  refine il_get (C := RX2) (T := TX2) (N := 3) hx hb hts in_X2 hown hB hw hh rfl 1 (by decide) (hts _ q134) (fun _ h9 => h9) rfl dX2_indexOf_1 ?_
  refine lv_istore_n (lv' := [(3, .int (nI st)), (0, .ref h), (1, .long v)]) hx hb dX2_indexOf_4 rfl hl (by decide) rfl (fun ls hl => ?_)
  have loop : ∀ (k : Nat) (i : Nat), (i + k = n) → (∀ j, j < i → g j ≠ v) → ∀ ls : Array Slot, lv_has ls 4 [(0, .ref h), (1, .long v), (3, .int (nI (st + i)))] → W p l e (il_R 0 0 0) s m ([.ref h, .long v] : List Value).toArray below meth cd s.heap [] 0 0 (MQ below (il_Qi G (fun r M' => il_fst n g v r ∧ M' = M)) ([.ref h, .long v] : List Value).toArray s 0 0 (il_A G)) (F0 m 5 ls []) := by
    intro k
    induction k with
    | zero =>
      intro i hik hv ls hl
      refine lv_iload_n hx hb dX2_indexOf_5 rfl (lv_at hl 2 rfl) ?_
      refine lv_aload_n hx hb dX2_indexOf_6 rfl (lv_at hl 0 rfl) ?_
      refine il_get (C := RX2) (T := TX2) (N := 3) hx hb hts in_X2 hown hB hw hh rfl 2 (by decide) (hts _ q135) (fun _ h9 => h9) rfl dX2_indexOf_7 ?_
      refine lv_icmp_ge (tgt := 37) hx hb dX2_indexOf_10 (by decide) (fun c => ?_) (fun c => False.elim (by have c : ¬ ((st + n) ≤ (st + i)) := fun z => c ((nI_leI (a := (st + n)) (b := (st + i)) (by omega) (by omega)).mpr z); omega))
      have c : (st + n) ≤ (st + i) := (nI_leI (a := (st + n)) (b := (st + i)) (by omega) (by omega)).mp c
      refine lv_iconst (v := -1) hx hb dX2_indexOf_37 (by decide) ?_
      exact il_iret (v := (-1)) hx hb hr hlk rfl hw (⟨Or.inr ⟨rfl, fun j hj => hv j (by omega)⟩, rfl⟩) (Nat.le_of_ble_eq_true rfl) (Nat.le_of_ble_eq_true rfl) dX2_indexOf_38
    | succ k ih =>
      intro i hik hv ls hl
      refine lv_iload_n hx hb dX2_indexOf_5 rfl (lv_at hl 2 rfl) ?_
      refine lv_aload_n hx hb dX2_indexOf_6 rfl (lv_at hl 0 rfl) ?_
      refine il_get (C := RX2) (T := TX2) (N := 3) hx hb hts in_X2 hown hB hw hh rfl 2 (by decide) (hts _ q135) (fun _ h9 => h9) rfl dX2_indexOf_7 ?_
      refine lv_icmp_ge (tgt := 37) hx hb dX2_indexOf_10 (by decide) (fun c => False.elim (by have c : (st + n) ≤ (st + i) := (nI_leI (a := (st + n)) (b := (st + i)) (by omega) (by omega)).mp c; omega)) (fun c => ?_)
      have c : ¬ ((st + n) ≤ (st + i)) := fun z => c ((nI_leI (a := (st + n)) (b := (st + i)) (by omega) (by omega)).mpr z)
      refine lv_aload_n hx hb dX2_indexOf_13 rfl (lv_at hl 0 rfl) ?_
      refine il_get (C := RX2) (T := TX2) (N := 3) hx hb hts in_X2 hown hB hw hh rfl 0 (by decide) (hts _ q132) (fun _ h9 => h9) rfl dX2_indexOf_14 ?_
      refine lv_iload_n hx hb dX2_indexOf_17 rfl (lv_at hl 2 rfl) ?_
      refine il_lald (i := (st + i)) hx hb hB hw ha (by omega) (by omega) rfl dX2_indexOf_18 ?_
      refine lv_lload_n hx hb dX2_indexOf_19 rfl (lv_at hl 1 rfl) ?_
      refine W.lcmp hx hb dX2_indexOf_20 ?_
      refine lv_if_ne (tgt := 31) hx hb dX2_indexOf_21 (by decide) (fun c1 => ?_) (fun c1 => ?_)
      · have c1 : g i ≠ v := fun z => c1 ((lg_cmp_eq _ _).mpr ((hg i (by omega)).trans z))
        refine lv_iinc (v := nI (st + (i + 1))) (lv' := [(3, .int (nI (st + (i + 1)))), (0, .ref h), (1, .long v)]) hx hb dX2_indexOf_31 hl (k := 2) rfl (by exact nI_1 (st + i)) (by decide) rfl (fun ls hl => ?_)
        refine lv_goto (tgt := 5) hx hb dX2_indexOf_34 (by decide) ?_
        exact ih (i + 1) (by omega) (lt_s hv c1) ls (lv_sub hl [1, 2, 0] rfl)
      · have c1 : g i = v := (hg i (by omega)).symm.trans ((lg_cmp_eq _ _).mp c1)
        refine lv_iload_n hx hb dX2_indexOf_24 rfl (lv_at hl 2 rfl) ?_
        refine lv_aload_n hx hb dX2_indexOf_25 rfl (lv_at hl 0 rfl) ?_
        refine il_get (C := RX2) (T := TX2) (N := 3) hx hb hts in_X2 hown hB hw hh rfl 1 (by decide) (hts _ q134) (fun _ h9 => h9) rfl dX2_indexOf_26 ?_
        refine lv_isub hx hb dX2_indexOf_29 ?_
        refine il_ti (nI i) il_len ?_
        exact il_iret (v := (nI i)) hx hb hr hlk rfl hw (⟨Or.inl ⟨i, by omega, rfl, c1, hv⟩, rfl⟩) (Nat.le_of_ble_eq_true rfl) (Nat.le_of_ble_eq_true rfl) dX2_indexOf_30
  exact loop n 0 (by omega) (fun j hj => absurd hj (by omega)) ls (lv_sub hl [1, 2, 0] rfl)
set_option maxHeartbeats 4000000 in
set_option maxRecDepth 100000 in
/-- lastIndexOf(v) -/
theorem met_lastIndexOf {l : Launch} {G : il_G} {M : il_M} {h a st n : Nat} {g : Nat → Int64} (hrow : il_row G M h a st n g) {v : Int64} : il_Ci l G yX2_lastIndexOf cX2_lastIndexOf 4 (.int) 0 0 0 [.ref h, .long v] M (fun r M' => il_lst n g v r ∧ M' = M) := by
  refine il_enter (by decide) (Nat.le_of_ble_eq_true rfl) ?_
  intro p e s m below meth cd hF hw ls hl
  obtain ⟨hx, hb, hr, hlk, hml, hown, hin, hts, hB⟩ := id hF
  have hl : lv_has ls 4 [(0, .ref h), (1, .long v)] := hl
  have hown : s.vm.findClass RX2 = some m.cls := hown
  have hrow0 := hrow
  obtain ⟨N, f, hh, ha, hle, hN, hg⟩ := hrow0
  refine lv_aload_n hx hb dX2_lastIndexOf_0 rfl (lv_at hl 0 rfl) ?_
  refine il_get (C := RX2) (T := TX2) (N := 3) hx hb hts in_X2 hown hB hw hh rfl 2 (by decide) (hts _ q135) (fun _ h9 => h9) rfl dX2_lastIndexOf_1 ?_
  refine lv_iconst (v := 1) hx hb dX2_lastIndexOf_4 (by decide) ?_
  refine lv_isub hx hb dX2_lastIndexOf_5 ?_
  refine lv_istore_n (lv' := [(3, .int ((nI (st + n)) - 1)), (0, .ref h), (1, .long v)]) hx hb dX2_lastIndexOf_6 rfl hl (by decide) rfl (fun ls hl => ?_)
  have loop : ∀ (k : Nat), (k ≤ n) → (∀ j, k ≤ j → j < n → g j ≠ v) → ∀ ls : Array Slot, lv_has ls 4 [(0, .ref h), (1, .long v), (3, .int (nI (st + k) - 1))] → W p l e (il_R 0 0 0) s m ([.ref h, .long v] : List Value).toArray below meth cd s.heap [] 0 0 (MQ below (il_Qi G (fun r M' => il_lst n g v r ∧ M' = M)) ([.ref h, .long v] : List Value).toArray s 0 0 (il_A G)) (F0 m 7 ls []) := by
    intro k
    induction k with
    | zero =>
      intro hik hv ls hl
      refine lv_iload_n hx hb dX2_lastIndexOf_7 rfl (lv_at hl 2 rfl) ?_
      refine lv_aload_n hx hb dX2_lastIndexOf_8 rfl (lv_at hl 0 rfl) ?_
      refine il_get (C := RX2) (T := TX2) (N := 3) hx hb hts in_X2 hown hB hw hh rfl 1 (by decide) (hts _ q134) (fun _ h9 => h9) rfl dX2_lastIndexOf_9 ?_
      refine lv_icmp_lt (tgt := 39) hx hb dX2_lastIndexOf_12 (by decide) (fun c => ?_) (fun c => False.elim (c (il_lt1 (by omega))))
      refine lv_iconst (v := -1) hx hb dX2_lastIndexOf_39 (by decide) ?_
      exact il_iret (v := (-1)) hx hb hr hlk rfl hw (⟨Or.inr ⟨rfl, fun j hj => hv j (Nat.zero_le j) hj⟩, rfl⟩) (Nat.le_of_ble_eq_true rfl) (Nat.le_of_ble_eq_true rfl) dX2_lastIndexOf_40
    | succ k ih =>
      intro hik hv ls hl
      have hl : lv_has ls 4 [(0, .ref h), (1, .long v), (3, .int (nI (st + k)))] := by rw [← (nI_pred (st + k))]; exact hl
      refine lv_iload_n hx hb dX2_lastIndexOf_7 rfl (lv_at hl 2 rfl) ?_
      refine lv_aload_n hx hb dX2_lastIndexOf_8 rfl (lv_at hl 0 rfl) ?_
      refine il_get (C := RX2) (T := TX2) (N := 3) hx hb hts in_X2 hown hB hw hh rfl 1 (by decide) (hts _ q134) (fun _ h9 => h9) rfl dX2_lastIndexOf_9 ?_
      refine lv_icmp_lt (tgt := 39) hx hb dX2_lastIndexOf_12 (by decide) (fun c => False.elim (by have c : (st + k) < st := (nI_ltI (a := (st + k)) (b := st) (by omega) (by omega)).mp c; omega)) (fun c => ?_)
      have c : ¬ ((st + k) < st) := fun z => c ((nI_ltI (a := (st + k)) (b := st) (by omega) (by omega)).mpr z)
      refine lv_aload_n hx hb dX2_lastIndexOf_15 rfl (lv_at hl 0 rfl) ?_
      refine il_get (C := RX2) (T := TX2) (N := 3) hx hb hts in_X2 hown hB hw hh rfl 0 (by decide) (hts _ q132) (fun _ h9 => h9) rfl dX2_lastIndexOf_16 ?_
      refine lv_iload_n hx hb dX2_lastIndexOf_19 rfl (lv_at hl 2 rfl) ?_
      refine il_lald (i := (st + k)) hx hb hB hw ha (by omega) (by omega) rfl dX2_lastIndexOf_20 ?_
      refine lv_lload_n hx hb dX2_lastIndexOf_21 rfl (lv_at hl 1 rfl) ?_
      refine W.lcmp hx hb dX2_lastIndexOf_22 ?_
      refine lv_if_ne (tgt := 33) hx hb dX2_lastIndexOf_23 (by decide) (fun c1 => ?_) (fun c1 => ?_)
      · have c1 : g k ≠ v := fun z => c1 ((lg_cmp_eq _ _).mpr ((hg k (by omega)).trans z))
        refine lv_iinc (v := nI (st + k) - 1) (lv' := [(3, .int (nI (st + k) - 1)), (0, .ref h), (1, .long v)]) hx hb dX2_lastIndexOf_33 hl (k := 2) rfl (by exact il_m1 (st + k)) (by decide) rfl (fun ls hl => ?_)
        refine lv_goto (tgt := 7) hx hb dX2_lastIndexOf_36 (by decide) ?_
        exact ih (by omega) (fun j h1 h2 => if z : j = k then z ▸ c1 else hv j (by omega) h2) ls (lv_sub hl [1, 2, 0] rfl)
      · have c1 : g k = v := (hg k (by omega)).symm.trans ((lg_cmp_eq _ _).mp c1)
        refine lv_iload_n hx hb dX2_lastIndexOf_26 rfl (lv_at hl 2 rfl) ?_
        refine lv_aload_n hx hb dX2_lastIndexOf_27 rfl (lv_at hl 0 rfl) ?_
        refine il_get (C := RX2) (T := TX2) (N := 3) hx hb hts in_X2 hown hB hw hh rfl 1 (by decide) (hts _ q134) (fun _ h9 => h9) rfl dX2_lastIndexOf_28 ?_
        refine lv_isub hx hb dX2_lastIndexOf_31 ?_
        refine il_ti (nI k) il_len ?_
        exact il_iret (v := (nI k)) hx hb hr hlk rfl hw (⟨Or.inl ⟨k, by omega, rfl, c1, fun j h1 h2 => hv j (by omega) h2⟩, rfl⟩) (Nat.le_of_ble_eq_true rfl) (Nat.le_of_ble_eq_true rfl) dX2_lastIndexOf_32
  exact loop n (Nat.le_refl n) (fun j h1 h2 => absurd h1 (by omega)) ls (lv_sub hl [1, 2, 0] rfl)
set_option maxHeartbeats 4000000 in
set_option maxRecDepth 100000 in
/-- contains(v) -/
theorem met_contains {l : Launch} {G : il_G} {M : il_M} {h a st n : Nat} {g : Nat → Int64} (hrow : il_row G M h a st n g) {v : Int64} : il_Ci l G yX2_contains cX2_contains 3 (.boolean) 1 0 0 [.ref h, .long v] M (fun r M' => (∃ i, il_fst n g v i ∧ ((i < 0 ∧ r = 0) ∨ (¬ i < 0 ∧ r = 1))) ∧ M' = M) := by
  refine il_enter (by decide) (Nat.le_of_ble_eq_true rfl) ?_
  intro p e s m below meth cd hF hw ls hl
  obtain ⟨hx, hb, hr, hlk, hml, hown, hin, hts, hB⟩ := id hF
  have hl : lv_has ls 3 [(0, .ref h), (1, .long v)] := hl
  have hown : s.vm.findClass RX2 = some m.cls := hown
  have hrow0 := hrow
  obtain ⟨N, f, hh, ha, hle, hN, hg⟩ := hrow0
  refine lv_aload_n hx hb dX2_contains_0 rfl (lv_at hl 0 rfl) ?_
  refine lv_lload_n hx hb dX2_contains_1 rfl (lv_at hl 1 rfl) ?_
  refine il_ri hw (il_rV (n := 1) (h := h) (As := [.long v]) (rest := []) ⟨hx, hb, hml, hown, hts⟩ (met_indexOf hrow) (lw_V q402 q286 q287 q5 q288) (by decide +kernel) ⟨Nat.le_of_ble_eq_true rfl, Nat.le_of_ble_eq_true rfl⟩ hB hw hh rfl rfl hl.1 rfl (Nat.le_of_ble_eq_true rfl) dX2_contains_2 ⟨(Nat.le_of_ble_eq_true rfl), (Nat.le_of_ble_eq_true rfl)⟩) (fun r1 M_ H locs hp hw => ?_)
  obtain ⟨hf, eM_⟩ := hp
  rw [eM_] at hw
  refine lv_if_lt (tgt := 12) hx hb dX2_contains_5 (by decide) (fun c => ?_) (fun c => ?_)
  · refine lv_iconst (v := 0) hx hb dX2_contains_12 (by decide) ?_
    exact il_iret (v := 0) hx hb hr hlk rfl hw (⟨⟨r1, hf, Or.inl ⟨c, rfl⟩⟩, rfl⟩) (Nat.le_of_ble_eq_true rfl) (Nat.le_of_ble_eq_true rfl) dX2_contains_13
  · refine lv_iconst (v := 1) hx hb dX2_contains_8 (by decide) ?_
    refine lv_goto (tgt := 13) hx hb dX2_contains_9 (by decide) ?_
    exact il_iret (v := 1) hx hb hr hlk rfl hw (⟨⟨r1, hf, Or.inr ⟨c, rfl⟩⟩, rfl⟩) (Nat.le_of_ble_eq_true rfl) (Nat.le_of_ble_eq_true rfl) dX2_contains_13
set_option maxHeartbeats 4000000 in
set_option maxRecDepth 100000 in
/-- toArray() -/
theorem met_toArray {l : Launch} {G : il_G} {M : il_M} {h a st n : Nat} {g : Nat → Int64} (hrow : il_row G M h a st n g) (hn : n ≤ 200) : il_Cr l G yX2_toArray cX2_toArray 1 (.array .long) 3 1 200 [.ref h] M (fun r M' => M r = none ∧ ∃ f', M' = il_up M r (il_eJ G n f') ∧ ∀ j, j < n → f' j = g j) := by
  refine il_enter (by decide) (Nat.le_of_ble_eq_true rfl) ?_
  intro p e s m below meth cd hF hw ls hl
  obtain ⟨hx, hb, hr, hlk, hml, hown, hin, hts, hB⟩ := id hF
  have hl : lv_has ls 1 [(0, .ref h)] := hl
  have hown : s.vm.findClass RX2 = some m.cls := hown
  have hrow0 := hrow
  obtain ⟨N, f, hh, ha, hle, hN, hg⟩ := hrow0
  refine lv_aload_n hx hb dX2_toArray_0 rfl (lv_at hl 0 rfl) ?_
  refine il_get (C := RX2) (T := TX2) (N := 3) hx hb hts in_X2 hown hB hw hh rfl 0 (by decide) (hts _ q132) (fun _ h9 => h9) rfl dX2_toArray_1 ?_
  refine lv_aload_n hx hb dX2_toArray_4 rfl (lv_at hl 0 rfl) ?_
  refine il_get (C := RX2) (T := TX2) (N := 3) hx hb hts in_X2 hown hB hw hh rfl 1 (by decide) (hts _ q134) (fun _ h9 => h9) rfl dX2_toArray_5 ?_
  refine lv_aload_n hx hb dX2_toArray_8 rfl (lv_at hl 0 rfl) ?_
  refine il_get (C := RX2) (T := TX2) (N := 3) hx hb hts in_X2 hown hB hw hh rfl 2 (by decide) (hts _ q135) (fun _ h9 => h9) rfl dX2_toArray_9 ?_
  refine il_rr hw (il_rS (n := 3) (As := [.ref a, .int (nI st), .int (nI (st + n))]) (rest := []) ⟨hx, hb, hml, hown, hts⟩ (met_copyOfRange ha (by omega) hle hN (by omega)) (lw_S q329 q330 q15 q331) (by decide +kernel) ⟨Nat.le_of_ble_eq_true rfl, Nat.le_of_ble_eq_true rfl⟩ hB hw rfl hl.1 rfl (Nat.le_of_ble_eq_true rfl) dX2_toArray_12 ⟨(Nat.le_of_ble_eq_true rfl), (Nat.le_of_ble_eq_true rfl)⟩) (fun r1 M_ H locs hp hw => ?_)
  have en : st + n - st = n := by omega
  rw [en] at hp
  obtain ⟨hn1, f', eM_, hf'⟩ := hp
  exact il_aret (r := r1) hx hb hr (Or.inr ⟨_, rfl⟩) hlk hw (⟨hn1, f', eM_, fun j hj => by rw [hf' j hj, hg j hj]⟩) (Nat.le_of_ble_eq_true rfl) (Nat.le_of_ble_eq_true rfl) dX2_toArray_15
set_option maxHeartbeats 4000000 in
set_option maxRecDepth 100000 in
/-- ImmutableLongArray(array, start, end) -/
theorem met_init2 {l : Launch} {G : il_G} {M : il_M} {h a : Nat} {x y : Int32} (hh : M h = some (.inr (1, [.null, .int 0, .int 0]))) : il_Cv l G yX2_init_2 cX2_init_2 4 1 0 0 [.ref h, .ref a, .int x, .int y] M (fun M' => M' = il_up M h (il_eR a x y)) := by
  refine il_enter (by decide) (Nat.le_of_ble_eq_true rfl) ?_
  intro p e s m below meth cd hF hw ls hl
  obtain ⟨hx, hb, hr, hlk, hml, hown, hin, hts, hB⟩ := id hF
  have hl : lv_has ls 4 [(0, .ref h), (1, .ref a), (2, .int x), (3, .int y)] := hl
  have hown : s.vm.findClass RX2 = some m.cls := hown
  refine lv_aload_n hx hb dX2_init_2_0 rfl (lv_at hl 0 rfl) ?_
  refine W.objInit hx hb hown (hts _ q130) (hts _ q26) (hts _ q27) rfl (by rw [hml]; exact hl.1) rfl dX2_init_2_1 (Nat.le_of_ble_eq_true rfl) (Nat.le_of_ble_eq_true rfl) ?_
  refine W.eq (g2 := F0 m 4 ls []) rfl ?_
  refine lv_aload_n hx hb dX2_init_2_4 rfl (lv_at hl 0 rfl) ?_
  refine lv_aload_n hx hb dX2_init_2_5 rfl (lv_at hl 1 rfl) ?_
  refine il_putF (C := RX2) (T := TX2) (N := 3) (ty := .array .long) (v := .ref a) hx hb hts in_X2 tyX2 tyX2_ok nmX2 hown hB hw hh rfl 0 (by decide) (hts _ q132) (fun _ h9 => h9) rfl hin rfl (by decide +kernel) rfl rfl (Nat.le_of_ble_eq_true rfl) dX2_init_2_6 (fun H locs hw => ?_)
  have hw : il_W G s (il_up M h (.inr (1, [.ref a, .int 0, .int 0]))) H locs := hw
  have hh : il_up M h (.inr (1, [.ref a, .int 0, .int 0])) h = some (.inr (1, [.ref a, .int 0, .int 0])) := il_up_eq _ _ _
  generalize eM1 : il_up M h (.inr (1, [.ref a, .int 0, .int 0])) = M1 at hw hh
  refine lv_aload_n hx hb dX2_init_2_9 rfl (lv_at hl 0 rfl) ?_
  refine lv_iload_n hx hb dX2_init_2_10 rfl (lv_at hl 2 rfl) ?_
  refine il_putF (C := RX2) (T := TX2) (N := 3) (ty := .int) (v := .int x) hx hb hts in_X2 tyX2 tyX2_ok nmX2 hown hB hw hh rfl 1 (by decide) (hts _ q134) (fun _ h9 => h9) rfl hin rfl (by decide +kernel) rfl rfl (Nat.le_of_ble_eq_true rfl) dX2_init_2_11 (fun H locs hw => ?_)
  have hw : il_W G s (il_up M1 h (.inr (1, [.ref a, .int x, .int 0]))) H locs := hw
  have hh : il_up M1 h (.inr (1, [.ref a, .int x, .int 0])) h = some (.inr (1, [.ref a, .int x, .int 0])) := il_up_eq _ _ _
  generalize eM2 : il_up M1 h (.inr (1, [.ref a, .int x, .int 0])) = M2 at hw hh
  refine lv_aload_n hx hb dX2_init_2_14 rfl (lv_at hl 0 rfl) ?_
  refine lv_iload_n hx hb dX2_init_2_15 rfl (lv_at hl 3 rfl) ?_
  refine il_putF (C := RX2) (T := TX2) (N := 3) (ty := .int) (v := .int y) hx hb hts in_X2 tyX2 tyX2_ok nmX2 hown hB hw hh rfl 2 (by decide) (hts _ q135) (fun _ h9 => h9) rfl hin rfl (by decide +kernel) rfl rfl (Nat.le_of_ble_eq_true rfl) dX2_init_2_16 (fun H locs hw => ?_)
  have hw : il_W G s (il_up M2 h (.inr (1, [.ref a, .int x, .int y]))) H locs := hw
  have hh : il_up M2 h (.inr (1, [.ref a, .int x, .int y])) h = some (.inr (1, [.ref a, .int x, .int y])) := il_up_eq _ _ _
  generalize eM3 : il_up M2 h (.inr (1, [.ref a, .int x, .int y])) = M3 at hw hh
  exact il_vret hx hb hr hlk hw (by rw [← eM3, ← eM2, ← eM1, il_up_up, il_up_up]) (Nat.le_of_ble_eq_true rfl) (Nat.le_of_ble_eq_true rfl) dX2_init_2_19
set_option maxHeartbeats 4000000 in
set_option maxRecDepth 100000 in
/-- ImmutableLongArray(array) -/
theorem met_init1 {l : Launch} {G : il_G} {M : il_M} {h a n : Nat} {f : Nat → Int64} (hh : M h = some (.inr (1, [.null, .int 0, .int 0]))) (ha : M a = some (il_eJ G n f)) : il_Cv l G yX2_init cX2_init 2 2 0 0 [.ref h, .ref a] M (fun M' => M' = il_up M h (il_eR a 0 (nI n))) := by
  refine il_enter (by decide) (Nat.le_of_ble_eq_true rfl) ?_
  intro p e s m below meth cd hF hw ls hl
  obtain ⟨hx, hb, hr, hlk, hml, hown, hin, hts, hB⟩ := id hF
  have hl : lv_has ls 2 [(0, .ref h), (1, .ref a)] := hl
  have hown : s.vm.findClass RX2 = some m.cls := hown
  refine lv_aload_n hx hb dX2_init_0 rfl (lv_at hl 0 rfl) ?_
  refine lv_aload_n hx hb dX2_init_1 rfl (lv_at hl 1 rfl) ?_
  refine lv_iconst (v := 0) hx hb dX2_init_2 (by decide) ?_
  refine lv_aload_n hx hb dX2_init_3 rfl (lv_at hl 1 rfl) ?_
  refine il_alen hx hb hB hw ha dX2_init_4 ?_
  refine il_rv hw (il_rI (n := 3) (h := h) (As := [.ref a, .int 0, .int (nI n)]) (rest := []) ⟨hx, hb, hml, hown, hts⟩ (met_init2 hh) (lw_meth q129) (hts _ q5) (hts _ q127) (hts _ q128) rfl (by decide +kernel) ⟨Nat.le_of_ble_eq_true rfl, Nat.le_of_ble_eq_true rfl⟩ hB hw rfl hl.1 rfl (Nat.le_of_ble_eq_true rfl) dX2_init_5 ⟨(Nat.le_of_ble_eq_true rfl), (Nat.le_of_ble_eq_true rfl)⟩) (fun M_ H locs hp hw => ?_)
  exact il_vret hx hb hr hlk hw hp (Nat.le_of_ble_eq_true rfl) (Nat.le_of_ble_eq_true rfl) dX2_init_8
set_option maxHeartbeats 4000000 in
set_option maxRecDepth 100000 in
/-- ImmutableLongArray.of(v) -/
theorem met_of {l : Launch} {G : il_G} {M : il_M} {v : Int64} : il_Cr l G yX2_of cX2_of 2 (.object RX2) 3 2 4 [.long v] M (fun r M' => ∃ a', M r = none ∧ M a' = none ∧ il_ext M M' ∧ il_row G M' r a' 0 1 (fun _ => v)) := by
  refine il_enter (by decide) (Nat.le_of_ble_eq_true rfl) ?_
  intro p e s m below meth cd hF hw ls hl
  obtain ⟨hx, hb, hr, hlk, hml, hown, hin, hts, hB⟩ := id hF
  have hl : lv_has ls 2 [(0, .long v)] := hl
  have hown : s.vm.findClass RX2 = some m.cls := hown
  refine il_newO (ci := 1) (fs := [.null, .int 0, .int 0]) (C := RX2) (T := TX2) (N := 3) hx hb hts in_X2 tyX2 tyX2_ok hown (hts _ q122) (hts _ q123) (hts _ q5) hB hw rfl (fun j hj => by rcases (show j = 0 ∨ j = 1 ∨ j = 2 by omega) with rfl | rfl | rfl <;> rfl) (Nat.le_of_ble_eq_true rfl) (Nat.le_of_ble_eq_true rfl) dX2_of_0 (fun q1 H locs hn_q1 hw => ?_)
  have hw : il_W G s (il_up M q1 (.inr (1, [.null, .int 0, .int 0]))) H locs := hw
  have h1 : il_up M q1 (.inr (1, [.null, .int 0, .int 0])) q1 = some (.inr (1, [.null, .int 0, .int 0])) := il_up_eq _ _ _
  generalize eM1 : il_up M q1 (.inr (1, [.null, .int 0, .int 0])) = M1 at hw h1
  refine lv_dup hx hb dX2_of_3 rfl ?_
  refine lv_iconst (v := 1) hx hb dX2_of_4 (by decide) ?_
  refine il_newJ (n := 1) hx hb hts hB hw (by omega) rfl (Nat.le_of_ble_eq_true rfl) (Nat.le_of_ble_eq_true rfl) dX2_of_5 (fun q2 H locs hn_q2 hw => ?_)
  have hw : il_W G s (il_up M1 q2 (il_eJ G 1 (fun _ => 0))) H locs := hw
  have h1 := il_up_keep (a := q2) (e := (il_eJ G 1 (fun _ => 0))) (il_new hn_q2 h1) h1
  have h2 : il_up M1 q2 (il_eJ G 1 (fun _ => 0)) q2 = some (il_eJ G 1 (fun _ => 0)) := il_up_eq _ _ _
  generalize eM2 : il_up M1 q2 (il_eJ G 1 (fun _ => 0)) = M2 at hw h1 h2
  refine lv_dup hx hb dX2_of_7 rfl ?_
  refine lv_iconst (v := 0) hx hb dX2_of_8 (by decide) ?_
  refine lv_lload_n hx hb dX2_of_9 rfl (lv_at hl 0 rfl) ?_
  refine il_last (i := 0) hx hb hB hw h2 (by omega) (by omega) rfl dX2_of_10 (fun H locs hw => ?_)
  have hw : il_W G s (il_up M2 q2 (il_eJ G 1 (vp_updL (fun _ => 0) 0 v))) H locs := hw
  have h1 := il_up_keep (a := q2) (e := (il_eJ G 1 (vp_updL (fun _ => 0) 0 v))) (il_ne h1 h2 (by simp)) h1
  have h2 : il_up M2 q2 (il_eJ G 1 (vp_updL (fun _ => 0) 0 v)) q2 = some (il_eJ G 1 (vp_updL (fun _ => 0) 0 v)) := il_up_eq _ _ _
  generalize eM3 : il_up M2 q2 (il_eJ G 1 (vp_updL (fun _ => 0) 0 v)) = M3 at hw h1 h2
  refine il_rv hw (il_rI (n := 1) (h := q1) (As := [.ref q2]) (rest := [.ref q1]) ⟨hx, hb, hml, hown, hts⟩ (met_init1 h1 h2) (lw_meth q126) (hts _ q5) (hts _ q124) (hts _ q125) rfl (by decide +kernel) ⟨Nat.le_of_ble_eq_true rfl, Nat.le_of_ble_eq_true rfl⟩ hB hw rfl hl.1 rfl (Nat.le_of_ble_eq_true rfl) dX2_of_11 ⟨(Nat.le_of_ble_eq_true rfl), (Nat.le_of_ble_eq_true rfl)⟩) (fun M_ H locs hp hw => ?_)
  have hn2 := il_up_none (eM1 ▸ hn_q2 : il_up M q1 _ q2 = none)
  exact il_aret (r := q1) hx hb hr (Or.inl ⟨_, rfl⟩) hlk hw (⟨q2, hn_q1, hn2.1, by rw [hp, ← eM3, ← eM2, ← eM1]; exact ((((il_ext.rf.set hn_q1).set hn2.1).set hn2.1).set hn_q1), 1, _, by rw [hp]; exact il_up_eq _ _ _, by rw [hp]; exact il_up_keep hn2.2 h2, by omega, by omega, fun j hj => by rw [show j = 0 by omega]; exact pk_uLs⟩) (Nat.le_of_ble_eq_true rfl) (Nat.le_of_ble_eq_true rfl) dX2_of_14
set_option maxHeartbeats 4000000 in
set_option maxRecDepth 100000 in
/-- Builder(room) -/
theorem met_binit {l : Launch} {G : il_G} {M : il_M} {b n : Nat} (hbb : M b = some (.inr (2, [.null, .int 0]))) (hn : n < 40) : il_Cv l G yX4_init cX4_init 2 1 1 40 [.ref b, .int (nI n)] M (fun M' => ∃ a', M a' = none ∧ M' b = some (il_eB a' 0) ∧ M' a' = some (il_eJ G n (fun _ => 0)) ∧ ∀ x e, x ≠ b → M x = some e → M' x = some e) := by
  refine il_enter (by decide) (Nat.le_of_ble_eq_true rfl) ?_
  intro p e s m below meth cd hF hw ls hl
  obtain ⟨hx, hb, hr, hlk, hml, hown, hin, hts, hB⟩ := id hF
  have hl : lv_has ls 2 [(0, .ref b), (1, .int (nI n))] := hl
  have hown : s.vm.findClass RX4 = some m.cls := hown
  refine lv_aload_n hx hb dX4_init_0 rfl (lv_at hl 0 rfl) ?_
  refine W.objInit hx hb hown (hts _ q108) (hts _ q26) (hts _ q27) rfl (by rw [hml]; exact hl.1) rfl dX4_init_1 (Nat.le_of_ble_eq_true rfl) (Nat.le_of_ble_eq_true rfl) ?_
  refine W.eq (g2 := F0 m 4 ls []) rfl ?_
  refine lv_aload_n hx hb dX4_init_4 rfl (lv_at hl 0 rfl) ?_
  refine lv_iconst (v := 0) hx hb dX4_init_5 (by decide) ?_
  refine il_put (C := RX4) (T := TX4) (N := 2) (ty := .int) (v := .int 0) hx hb hts in_X4 tyX4 tyX4_ok nmX4 hown hB hw hbb rfl 1 (by decide) (hts _ q110) (fun _ h9 => h9) rfl (by decide +kernel) rfl rfl (Nat.le_of_ble_eq_true rfl) dX4_init_6 (fun H locs hw => ?_)
  have hw : il_W G s (il_up M b (.inr (2, [.null, .int 0]))) H locs := hw
  have hbb : il_up M b (.inr (2, [.null, .int 0])) b = some (.inr (2, [.null, .int 0])) := il_up_eq _ _ _
  generalize eM1 : il_up M b (.inr (2, [.null, .int 0])) = M1 at hw hbb
  refine lv_aload_n hx hb dX4_init_9 rfl (lv_at hl 0 rfl) ?_
  refine lv_iload_n hx hb dX4_init_10 rfl (lv_at hl 1 rfl) ?_
  refine il_newJ (n := n) hx hb hts hB hw (by omega) rfl (Nat.le_of_ble_eq_true rfl) (by show 0 + n ≤ 40; omega) dX4_init_11 (fun q H locs hn_q hw => ?_)
  have hw : il_W G s (il_up M1 q (il_eJ G n (fun _ => 0))) H locs := hw
  have hbb := il_up_keep (a := q) (e := (il_eJ G n (fun _ => 0))) (il_new hn_q hbb) hbb
  have hq : il_up M1 q (il_eJ G n (fun _ => 0)) q = some (il_eJ G n (fun _ => 0)) := il_up_eq _ _ _
  generalize eM2 : il_up M1 q (il_eJ G n (fun _ => 0)) = M2 at hw hbb hq
  refine W.widen (k := 1) (n := 40) (by omega) (by omega) ?_
  refine il_put (C := RX4) (T := TX4) (N := 2) (ty := .array .long) (v := .ref q) hx hb hts in_X4 tyX4 tyX4_ok nmX4 hown hB hw hbb rfl 0 (by decide) (hts _ q109) (fun _ h9 => h9) rfl (by decide +kernel) rfl rfl (Nat.le_of_ble_eq_true rfl) dX4_init_13 (fun H locs hw => ?_)
  have hw : il_W G s (il_up M2 b (.inr (2, [.ref q, .int 0]))) H locs := hw
  have hq := il_up_keep (a := b) (e := (.inr (2, [.ref q, .int 0]))) (il_ne hq hbb (by simp)) hq
  have hbb : il_up M2 b (.inr (2, [.ref q, .int 0])) b = some (.inr (2, [.ref q, .int 0])) := il_up_eq _ _ _
  generalize eM3 : il_up M2 b (.inr (2, [.ref q, .int 0])) = M3 at hw hq hbb
  have hnq := il_up_none (eM1 ▸ hn_q : il_up M b _ q = none)
  exact il_vret hx hb hr hlk hw (⟨q, hnq.1, hbb, hq, fun x e hx he => by rw [← eM3, ← eM2, ← eM1]; exact il_up_keep hx (il_up_keep (il_new hnq.1 he) (il_up_keep hx he))⟩) (Nat.le_of_ble_eq_true rfl) (Nat.le_of_ble_eq_true rfl) dX4_init_16
set_option maxHeartbeats 4000000 in
set_option maxRecDepth 100000 in
/-- ImmutableLongArray.builder(room) -/
theorem met_builder {l : Launch} {G : il_G} {M : il_M} {n : Nat} {g : Nat → Int64} (hn : n < 40) : il_Cr l G yX2_builder cX2_builder 1 (.object RX4) 2 2 50 [.int (nI n)] M (fun r M' => ∃ a', M r = none ∧ M a' = none ∧ il_ext M M' ∧ il_bld G M' r a' 0 g) := by
  refine il_enter (by decide) (Nat.le_of_ble_eq_true rfl) ?_
  intro p e s m below meth cd hF hw ls hl
  obtain ⟨hx, hb, hr, hlk, hml, hown, hin, hts, hB⟩ := id hF
  have hl : lv_has ls 1 [(0, .int (nI n))] := hl
  have hown : s.vm.findClass RX2 = some m.cls := hown
  refine lv_iload_n hx hb dX2_builder_0 rfl (lv_at hl 0 rfl) ?_
  refine lv_if_lt (tgt := 8) hx hb dX2_builder_1 (by decide) (fun c => False.elim (by have c : n < 0 := (nI_ltI (a := n) (b := 0) (by omega) (by omega)).mp c; omega)) (fun c => ?_)
  have c : ¬ (n < 0) := fun z => c ((nI_ltI (a := n) (b := 0) (by omega) (by omega)).mpr z)
  refine lv_iconst (v := 1) hx hb dX2_builder_4 (by decide) ?_
  refine lv_goto (tgt := 9) hx hb dX2_builder_5 (by decide) ?_
  refine va_ldcS hx hb hown hB.1.s1 dX2_builder_9 ?_
  refine lv_iload_n hx hb dX2_builder_11 rfl (lv_at hl 0 rfl) ?_
  refine il_rv hw (il_rS (n := 3) (As := [.int 1, .ref (il_s1 G), .int (nI n)]) (rest := []) ⟨hx, hb, hml, hown, hts⟩ met_checkArgument (lw_S q32 q33 q6 q34) (by decide +kernel) ⟨Nat.le_of_ble_eq_true rfl, Nat.le_of_ble_eq_true rfl⟩ hB hw rfl hl.1 rfl (Nat.le_of_ble_eq_true rfl) dX2_builder_12 ⟨(Nat.le_of_ble_eq_true rfl), (Nat.le_of_ble_eq_true rfl)⟩) (fun M_ H locs hp hw => ?_)
  rw [hp] at hw
  refine il_newO (ci := 2) (fs := [.null, .int 0]) (C := RX4) (T := TX4) (N := 2) hx hb hts in_X4 tyX4 tyX4_ok hown (hts _ q103) (hts _ q104) (hts _ q11) hB hw rfl (fun j hj => by rcases (show j = 0 ∨ j = 1 by omega) with rfl | rfl <;> rfl) (Nat.le_of_ble_eq_true rfl) (Nat.le_of_ble_eq_true rfl) dX2_builder_15 (fun q1 H locs hn_q1 hw => ?_)
  have hw : il_W G s (il_up M q1 (.inr (2, [.null, .int 0]))) H locs := hw
  have h1 : il_up M q1 (.inr (2, [.null, .int 0])) q1 = some (.inr (2, [.null, .int 0])) := il_up_eq _ _ _
  generalize eM1 : il_up M q1 (.inr (2, [.null, .int 0])) = M1 at hw h1
  refine lv_dup hx hb dX2_builder_18 rfl ?_
  refine lv_iload_n hx hb dX2_builder_19 rfl (lv_at hl 0 rfl) ?_
  refine il_rv hw (il_rI (n := 1) (h := q1) (As := [.int (nI n)]) (rest := [.ref q1]) ⟨hx, hb, hml, hown, hts⟩ (met_binit h1 hn) (lw_meth q107) (hts _ q11) (hts _ q105) (hts _ q106) rfl (by decide +kernel) ⟨Nat.le_of_ble_eq_true rfl, Nat.le_of_ble_eq_true rfl⟩ hB hw rfl hl.1 rfl (Nat.le_of_ble_eq_true rfl) dX2_builder_20 ⟨(Nat.le_of_ble_eq_true rfl), (Nat.le_of_ble_eq_true rfl)⟩) (fun M_ H locs hp hw => ?_)
  obtain ⟨a', p1, p2, p3, p4⟩ := hp
  have hn2 := il_up_none (eM1 ▸ p1 : il_up M q1 _ a' = none)
  exact il_aret (r := q1) hx hb hr (Or.inl ⟨_, rfl⟩) hlk hw (⟨a', hn_q1, hn2.1, fun x e he => p4 x e (il_new hn_q1 he) (by rw [← eM1]; exact il_up_keep (il_new hn_q1 he) he), n, _, p2, p3, by omega, by omega, fun j hj => absurd hj (by omega)⟩) (Nat.le_of_ble_eq_true rfl) (Nat.le_of_ble_eq_true rfl) dX2_builder_23
set_option maxHeartbeats 4000000 in
set_option maxRecDepth 100000 in
/-- subArray(i, j) -/
theorem met_subArray {l : Launch} {G : il_G} {M : il_M} {h a st n : Nat} {g : Nat → Int64} (hrow : il_row G M h a st n g) {i j : Nat} (hij : i ≤ j) (hjn : j ≤ n) : il_Cr l G yX2_subArray cX2_subArray 3 (.object RX2) 3 2 4 [.ref h, .int (nI i), .int (nI j)] M (fun r M' => ∃ a' st', M r = none ∧ il_ext M M' ∧ il_row G M' r a' st' (j - i) (fun x => g (i + x)) ∧ ((a' = a ∧ st' + (j - i) ≤ st + n) ∨ M a' = none)) := by
  refine il_enter (by decide) (Nat.le_of_ble_eq_true rfl) ?_
  intro p e s m below meth cd hF hw ls hl
  obtain ⟨hx, hb, hr, hlk, hml, hown, hin, hts, hB⟩ := id hF
  have hl : lv_has ls 3 [(0, .ref h), (1, .int (nI i)), (2, .int (nI j))] := hl
  have hown : s.vm.findClass RX2 = some m.cls := hown
  have hrow0 := hrow
  obtain ⟨N, f, hh, ha, hle, hN, hg⟩ := hrow0
  refine lv_iload_n hx hb dX2_subArray_0 rfl (lv_at hl 1 rfl) ?_
  refine lv_iload_n hx hb dX2_subArray_1 rfl (lv_at hl 2 rfl) ?_
  refine lv_aload_n hx hb dX2_subArray_2 rfl (lv_at hl 0 rfl) ?_
  refine il_ri hw (il_rV (n := 0) (h := h) (As := []) (rest := [.int (nI j), .int (nI i)]) ⟨hx, hb, hml, hown, hts⟩ (met_length hh) (lw_V q239 q158 q159 q5 q160) (by decide +kernel) ⟨Nat.le_of_ble_eq_true rfl, Nat.le_of_ble_eq_true rfl⟩ hB hw hh rfl rfl hl.1 rfl (Nat.le_of_ble_eq_true rfl) dX2_subArray_3 ⟨(Nat.le_of_ble_eq_true rfl), (Nat.le_of_ble_eq_true rfl)⟩) (fun r M_ H locs hp hw => ?_)
  obtain ⟨rfl, eM_⟩ := hp
  rw [eM_] at hw
  refine il_rv hw (il_rS (n := 3) (As := [.int (nI i), .int (nI j), .int (nI n)]) (rest := []) ⟨hx, hb, hml, hown, hts⟩ (met_checkPositionIndexes hij hjn (by omega)) (lw_S q240 q241 q6 q242) (by decide +kernel) ⟨Nat.le_of_ble_eq_true rfl, Nat.le_of_ble_eq_true rfl⟩ hB hw rfl hl.1 rfl (Nat.le_of_ble_eq_true rfl) dX2_subArray_6 ⟨(Nat.le_of_ble_eq_true rfl), (Nat.le_of_ble_eq_true rfl)⟩) (fun M_ H locs hp hw => ?_)
  rw [hp] at hw
  refine lv_iload_n hx hb dX2_subArray_9 rfl (lv_at hl 1 rfl) ?_
  refine lv_iload_n hx hb dX2_subArray_10 rfl (lv_at hl 2 rfl) ?_
  refine lv_icmp_ne (tgt := 27) hx hb dX2_subArray_11 (by decide) (fun c => ?_) (fun c => ?_)
  · have c : ¬ (i = j) := fun z => c ((nI_eq (a := i) (b := j) (by omega) (by omega)).mpr z)
    refine il_newO (ci := 1) (fs := [.null, .int 0, .int 0]) (C := RX2) (T := TX2) (N := 3) hx hb hts in_X2 tyX2 tyX2_ok hown (hts _ q122) (hts _ q123) (hts _ q5) hB hw rfl (fun j hj => by rcases (show j = 0 ∨ j = 1 ∨ j = 2 by omega) with rfl | rfl | rfl <;> rfl) (Nat.le_of_ble_eq_true rfl) (Nat.le_of_ble_eq_true rfl) dX2_subArray_27 (fun q1 H locs hn_q1 hw => ?_)
    have hw : il_W G s (il_up M q1 (.inr (1, [.null, .int 0, .int 0]))) H locs := hw
    have hh := il_up_keep (a := q1) (e := (.inr (1, [.null, .int 0, .int 0]))) (il_new hn_q1 hh) hh
    have ha := il_up_keep (a := q1) (e := (.inr (1, [.null, .int 0, .int 0]))) (il_new hn_q1 ha) ha
    have h1 : il_up M q1 (.inr (1, [.null, .int 0, .int 0])) q1 = some (.inr (1, [.null, .int 0, .int 0])) := il_up_eq _ _ _
    generalize eM1 : il_up M q1 (.inr (1, [.null, .int 0, .int 0])) = M1 at hw hh ha h1
    refine lv_dup hx hb dX2_subArray_30 rfl ?_
    refine lv_aload_n hx hb dX2_subArray_31 rfl (lv_at hl 0 rfl) ?_
    refine il_get (C := RX2) (T := TX2) (N := 3) hx hb hts in_X2 hown hB hw hh rfl 0 (by decide) (hts _ q132) (fun _ h9 => h9) rfl dX2_subArray_32 ?_
    refine lv_aload_n hx hb dX2_subArray_35 rfl (lv_at hl 0 rfl) ?_
    refine il_get (C := RX2) (T := TX2) (N := 3) hx hb hts in_X2 hown hB hw hh rfl 1 (by decide) (hts _ q134) (fun _ h9 => h9) rfl dX2_subArray_36 ?_
    refine lv_iload_n hx hb dX2_subArray_39 rfl (lv_at hl 1 rfl) ?_
    refine lv_iadd hx hb dX2_subArray_40 ?_
    refine il_ti (nI (st + i)) (nI_add st i) ?_
    refine lv_aload_n hx hb dX2_subArray_41 rfl (lv_at hl 0 rfl) ?_
    refine il_get (C := RX2) (T := TX2) (N := 3) hx hb hts in_X2 hown hB hw hh rfl 1 (by decide) (hts _ q134) (fun _ h9 => h9) rfl dX2_subArray_42 ?_
    refine lv_iload_n hx hb dX2_subArray_45 rfl (lv_at hl 2 rfl) ?_
    refine lv_iadd hx hb dX2_subArray_46 ?_
    refine il_ti (nI (st + j)) (nI_add st j) ?_
    refine il_rv hw (il_rI (n := 3) (h := q1) (As := [.ref a, .int (nI (st + i)), .int (nI (st + j))]) (rest := [.ref q1]) ⟨hx, hb, hml, hown, hts⟩ (met_init2 h1) (lw_meth q129) (hts _ q5) (hts _ q127) (hts _ q128) rfl (by decide +kernel) ⟨Nat.le_of_ble_eq_true rfl, Nat.le_of_ble_eq_true rfl⟩ hB hw rfl hl.1 rfl (Nat.le_of_ble_eq_true rfl) dX2_subArray_47 ⟨(Nat.le_of_ble_eq_true rfl), (Nat.le_of_ble_eq_true rfl)⟩) (fun M_ H locs hp hw => ?_)
    exact il_aret (r := q1) hx hb hr (Or.inl ⟨_, rfl⟩) hlk hw (⟨a, st + i, hn_q1, by rw [hp, ← eM1]; exact (il_ext.rf.set hn_q1).set hn_q1, ⟨N, f, by rw [hp, show st + i + (j - i) = st + j by omega]; exact il_up_eq _ _ _, by rw [hp]; exact il_up_keep (il_ne ha h1 (by simp)) ha, by omega, hN, fun x hx => by rw [Nat.add_assoc]; exact hg (i + x) (by omega)⟩, Or.inl ⟨rfl, by omega⟩⟩) (Nat.le_of_ble_eq_true rfl) (Nat.le_of_ble_eq_true rfl) dX2_subArray_50
  · have c : i = j := (nI_eq (a := i) (b := j) (by omega) (by omega)).mp c
    subst c
    refine il_newO (ci := 1) (fs := [.null, .int 0, .int 0]) (C := RX2) (T := TX2) (N := 3) hx hb hts in_X2 tyX2 tyX2_ok hown (hts _ q122) (hts _ q123) (hts _ q5) hB hw rfl (fun j hj => by rcases (show j = 0 ∨ j = 1 ∨ j = 2 by omega) with rfl | rfl | rfl <;> rfl) (Nat.le_of_ble_eq_true rfl) (Nat.le_of_ble_eq_true rfl) dX2_subArray_14 (fun q1 H locs hn_q1 hw => ?_)
    have hw : il_W G s (il_up M q1 (.inr (1, [.null, .int 0, .int 0]))) H locs := hw
    have hh := il_up_keep (a := q1) (e := (.inr (1, [.null, .int 0, .int 0]))) (il_new hn_q1 hh) hh
    have ha := il_up_keep (a := q1) (e := (.inr (1, [.null, .int 0, .int 0]))) (il_new hn_q1 ha) ha
    have h1 : il_up M q1 (.inr (1, [.null, .int 0, .int 0])) q1 = some (.inr (1, [.null, .int 0, .int 0])) := il_up_eq _ _ _
    generalize eM1 : il_up M q1 (.inr (1, [.null, .int 0, .int 0])) = M1 at hw hh ha h1
    refine lv_dup hx hb dX2_subArray_17 rfl ?_
    refine lv_iconst (v := 0) hx hb dX2_subArray_18 (by decide) ?_
    refine il_newJ (n := 0) hx hb hts hB hw (by omega) rfl (Nat.le_of_ble_eq_true rfl) (Nat.le_of_ble_eq_true rfl) dX2_subArray_19 (fun q2 H locs hn_q2 hw => ?_)
    have hw : il_W G s (il_up M1 q2 (il_eJ G 0 (fun _ => 0))) H locs := hw
    have hh := il_up_keep (a := q2) (e := (il_eJ G 0 (fun _ => 0))) (il_new hn_q2 hh) hh
    have ha := il_up_keep (a := q2) (e := (il_eJ G 0 (fun _ => 0))) (il_new hn_q2 ha) ha
    have h1 := il_up_keep (a := q2) (e := (il_eJ G 0 (fun _ => 0))) (il_new hn_q2 h1) h1
    have h2 : il_up M1 q2 (il_eJ G 0 (fun _ => 0)) q2 = some (il_eJ G 0 (fun _ => 0)) := il_up_eq _ _ _
    generalize eM2 : il_up M1 q2 (il_eJ G 0 (fun _ => 0)) = M2 at hw hh ha h1 h2
    refine il_rv hw (il_rI (n := 1) (h := q1) (As := [.ref q2]) (rest := [.ref q1]) ⟨hx, hb, hml, hown, hts⟩ (met_init1 h1 h2) (lw_meth q126) (hts _ q5) (hts _ q124) (hts _ q125) rfl (by decide +kernel) ⟨Nat.le_of_ble_eq_true rfl, Nat.le_of_ble_eq_true rfl⟩ hB hw rfl hl.1 rfl (Nat.le_of_ble_eq_true rfl) dX2_subArray_21 ⟨(Nat.le_of_ble_eq_true rfl), (Nat.le_of_ble_eq_true rfl)⟩) (fun M_ H locs hp hw => ?_)
    refine lv_goto (tgt := 50) hx hb dX2_subArray_24 (by decide) ?_
    have hn2 := il_up_none (eM1 ▸ hn_q2 : il_up M q1 _ q2 = none)
    exact il_aret (r := q1) hx hb hr (Or.inl ⟨_, rfl⟩) hlk hw (⟨q2, 0, hn_q1, by rw [hp, ← eM2, ← eM1]; exact (((il_ext.rf.set hn_q1).set hn2.1).set hn_q1), ⟨0, _, by rw [hp, show 0 + (i - i) = 0 by omega]; exact il_up_eq _ _ _, by rw [hp]; exact il_up_keep hn2.2 h2, by omega, by omega, fun x hx => absurd hx (by omega)⟩, Or.inr hn2.1⟩) (Nat.le_of_ble_eq_true rfl) (Nat.le_of_ble_eq_true rfl) dX2_subArray_50
set_option maxHeartbeats 4000000 in
set_option maxRecDepth 100000 in
/-- equals(another) -/
theorem met_equals {l : Launch} {G : il_G} {M : il_M} {h a st n : Nat} {g : Nat → Int64} (hrow : il_row G M h a st n g) {o a2 st2 n2 : Nat} {g2 : Nat → Int64} (hrow2 : il_row G M o a2 st2 n2 g2) : il_Ci l G yX2_equals cX2_equals 4 (.boolean) 3 0 0 [.ref h, .ref o] M (fun r M' => il_eqr n g n2 g2 r ∧ M' = M) := by
  refine il_enter (by decide) (Nat.le_of_ble_eq_true rfl) ?_
  intro p e s m below meth cd hF hw ls hl
  obtain ⟨hx, hb, hr, hlk, hml, hown, hin, hts, hB⟩ := id hF
  have hl : lv_has ls 4 [(0, .ref h), (1, .ref o)] := hl
  have hown : s.vm.findClass RX2 = some m.cls := hown
  have hrow0 := hrow
  obtain ⟨N, f, hh, ha, hle, hN, hg⟩ := hrow0
  have hrow3 := hrow2
  obtain ⟨N2, f2, oh, oa, ole, oN, og⟩ := hrow3
  refine lv_aload_n hx hb dX2_equals_0 rfl (lv_at hl 1 rfl) ?_
  refine lv_aload_n hx hb dX2_equals_1 rfl (lv_at hl 0 rfl) ?_
  refine lv_acmp_ne (rx := some o) (ry := some h) (tgt := 7) hx hb dX2_equals_2 (by decide) (fun c => ?_) (fun c => ?_)
  · refine lv_aload_n hx hb dX2_equals_7 rfl (lv_at hl 1 rfl) ?_
    refine il_inst hx hb hown (hts _ q122) hB hw oh dX2_equals_8 ?_
    refine lv_if_ne (tgt := 16) hx hb dX2_equals_11 (by decide) (fun c1 => ?_) (fun c1 => False.elim (absurd c1 (by decide)))
    refine lv_aload_n hx hb dX2_equals_16 rfl (lv_at hl 1 rfl) ?_
    refine il_cast hx hb hown (hts _ q122) hB hw oh dX2_equals_17 ?_
    refine lv_astore_n (lv' := [(2, .ref o), (0, .ref h), (1, .ref o)]) hx hb dX2_equals_20 rfl hl (by decide) rfl (fun ls hl => ?_)
    refine lv_aload_n hx hb dX2_equals_21 rfl (lv_at hl 1 rfl) ?_
    refine il_ri hw (il_rV (n := 0) (h := h) (As := []) (rest := []) ⟨hx, hb, hml, hown, hts⟩ (met_length hh) (lw_V q239 q158 q159 q5 q160) (by decide +kernel) ⟨Nat.le_of_ble_eq_true rfl, Nat.le_of_ble_eq_true rfl⟩ hB hw hh rfl rfl hl.1 rfl (Nat.le_of_ble_eq_true rfl) dX2_equals_22 ⟨(Nat.le_of_ble_eq_true rfl), (Nat.le_of_ble_eq_true rfl)⟩) (fun r M_ H locs hp hw => ?_)
    obtain ⟨rfl, eM_⟩ := hp
    rw [eM_] at hw
    refine lv_aload_n hx hb dX2_equals_25 rfl (lv_at hl 0 rfl) ?_
    refine il_ri hw (il_rV (n := 0) (h := o) (As := []) (rest := [.int (nI n)]) ⟨hx, hb, hml, hown, hts⟩ (met_length oh) (lw_V q239 q158 q159 q5 q160) (by decide +kernel) ⟨Nat.le_of_ble_eq_true rfl, Nat.le_of_ble_eq_true rfl⟩ hB hw oh rfl rfl hl.1 rfl (Nat.le_of_ble_eq_true rfl) dX2_equals_26 ⟨(Nat.le_of_ble_eq_true rfl), (Nat.le_of_ble_eq_true rfl)⟩) (fun r M_ H locs hp hw => ?_)
    obtain ⟨rfl, eM_⟩ := hp
    rw [eM_] at hw
    refine lv_icmp_eq (tgt := 34) hx hb dX2_equals_29 (by decide) (fun c2 => ?_) (fun c2 => ?_)
    · have c2 : n = n2 := (nI_eq (a := n) (b := n2) (by omega) (by omega)).mp c2
      refine lv_iconst (v := 0) hx hb dX2_equals_34 (by decide) ?_
      refine lv_istore_n (lv' := [(3, .int 0), (2, .ref o), (0, .ref h), (1, .ref o)]) hx hb dX2_equals_35 rfl hl (by decide) rfl (fun ls hl => ?_)
      refine W.widen (k := 0) (n := 0) (by omega) (by omega) ?_
      have loop : ∀ (k : Nat) (i : Nat), (i + k = n) → (∀ j, j < i → g j = g2 j) → ∀ (H : Heap) (locs : List Loc), il_W G s M H locs → ∀ ls : Array Slot, lv_has ls 4 [(0, .ref h), (1, .ref o), (2, .ref o), (3, .int (nI i))] → W p l e (il_R 3 0 0) s m ([.ref h, .ref o] : List Value).toArray below meth cd H locs 0 0 (MQ below (il_Qi G (fun r M' => il_eqr n g n2 g2 r ∧ M' = M)) ([.ref h, .ref o] : List Value).toArray s 0 0 (il_A G)) (F0 m 36 ls []) := by
        intro k
        induction k with
        | zero =>
          intro i hik hv H locs hw ls hl
          refine lv_iload_n hx hb dX2_equals_36 rfl (lv_at hl 3 rfl) ?_
          refine lv_aload_n hx hb dX2_equals_37 rfl (lv_at hl 0 rfl) ?_
          refine il_ri hw (il_rV (n := 0) (h := h) (As := []) (rest := [.int (nI i)]) ⟨hx, hb, hml, hown, hts⟩ (met_length hh) (lw_V q239 q158 q159 q5 q160) (by decide +kernel) ⟨Nat.le_of_ble_eq_true rfl, Nat.le_of_ble_eq_true rfl⟩ hB hw hh rfl rfl hl.1 rfl (Nat.le_of_ble_eq_true rfl) dX2_equals_38 ⟨(Nat.le_of_ble_eq_true rfl), (Nat.le_of_ble_eq_true rfl)⟩) (fun r M_ H locs hp hw => ?_)
          obtain ⟨rfl, eM_⟩ := hp
          rw [eM_] at hw
          refine lv_icmp_ge (tgt := 66) hx hb dX2_equals_41 (by decide) (fun c3 => ?_) (fun c3 => False.elim (by have c3 : ¬ (n ≤ i) := fun z => c3 ((nI_leI (a := n) (b := i) (by omega) (by omega)).mpr z); omega))
          have c3 : n ≤ i := (nI_leI (a := n) (b := i) (by omega) (by omega)).mp c3
          refine lv_iconst (v := 1) hx hb dX2_equals_66 (by decide) ?_
          exact il_iret (v := 1) hx hb hr hlk rfl hw (⟨Or.inl ⟨rfl, c2, fun j hj => hv j (by omega)⟩, rfl⟩) (Nat.le_of_ble_eq_true rfl) (Nat.le_of_ble_eq_true rfl) dX2_equals_67
        | succ k ih =>
          intro i hik hv H locs hw ls hl
          refine lv_iload_n hx hb dX2_equals_36 rfl (lv_at hl 3 rfl) ?_
          refine lv_aload_n hx hb dX2_equals_37 rfl (lv_at hl 0 rfl) ?_
          refine il_ri hw (il_rV (n := 0) (h := h) (As := []) (rest := [.int (nI i)]) ⟨hx, hb, hml, hown, hts⟩ (met_length hh) (lw_V q239 q158 q159 q5 q160) (by decide +kernel) ⟨Nat.le_of_ble_eq_true rfl, Nat.le_of_ble_eq_true rfl⟩ hB hw hh rfl rfl hl.1 rfl (Nat.le_of_ble_eq_true rfl) dX2_equals_38 ⟨(Nat.le_of_ble_eq_true rfl), (Nat.le_of_ble_eq_true rfl)⟩) (fun r M_ H locs hp hw => ?_)
          obtain ⟨rfl, eM_⟩ := hp
          rw [eM_] at hw
          refine lv_icmp_ge (tgt := 66) hx hb dX2_equals_41 (by decide) (fun c3 => False.elim (by have c3 : n ≤ i := (nI_leI (a := n) (b := i) (by omega) (by omega)).mp c3; omega)) (fun c3 => ?_)
          have c3 : ¬ (n ≤ i) := fun z => c3 ((nI_leI (a := n) (b := i) (by omega) (by omega)).mpr z)
          refine lv_aload_n hx hb dX2_equals_44 rfl (lv_at hl 0 rfl) ?_
          refine lv_iload_n hx hb dX2_equals_45 rfl (lv_at hl 3 rfl) ?_
          refine il_rl hw (il_rV (n := 1) (h := h) (As := [.int (nI i)]) (rest := []) ⟨hx, hb, hml, hown, hts⟩ (met_get hrow (i := i) (by omega)) (lw_V q309 q267 q268 q5 q269) (by decide +kernel) ⟨Nat.le_of_ble_eq_true rfl, Nat.le_of_ble_eq_true rfl⟩ hB hw hh rfl rfl hl.1 rfl (Nat.le_of_ble_eq_true rfl) dX2_equals_46 ⟨(Nat.le_of_ble_eq_true rfl), (Nat.le_of_ble_eq_true rfl)⟩) (fun r M_ H locs hp hw => ?_)
          obtain ⟨rfl, eM_⟩ := hp
          rw [eM_] at hw
          refine lv_aload_n hx hb dX2_equals_49 rfl (lv_at hl 2 rfl) ?_
          refine lv_iload_n hx hb dX2_equals_50 rfl (lv_at hl 3 rfl) ?_
          refine il_rl hw (il_rV (n := 1) (h := o) (As := [.int (nI i)]) (rest := [.long (g i)]) ⟨hx, hb, hml, hown, hts⟩ (met_get hrow2 (i := i) (by omega)) (lw_V q309 q267 q268 q5 q269) (by decide +kernel) ⟨Nat.le_of_ble_eq_true rfl, Nat.le_of_ble_eq_true rfl⟩ hB hw oh rfl rfl hl.1 rfl (Nat.le_of_ble_eq_true rfl) dX2_equals_51 ⟨(Nat.le_of_ble_eq_true rfl), (Nat.le_of_ble_eq_true rfl)⟩) (fun r M_ H locs hp hw => ?_)
          obtain ⟨rfl, eM_⟩ := hp
          rw [eM_] at hw
          refine W.lcmp hx hb dX2_equals_54 ?_
          refine lv_if_eq (tgt := 60) hx hb dX2_equals_55 (by decide) (fun c4 => ?_) (fun c4 => ?_)
          · have c4 := (lg_cmp_eq _ _).mp c4
            refine lv_iinc (v := nI (i + 1)) (lv' := [(3, .int (nI (i + 1))), (0, .ref h), (1, .ref o), (2, .ref o)]) hx hb dX2_equals_60 hl (k := 3) rfl (by exact nI_1 i) (by decide) rfl (fun ls hl => ?_)
            refine lv_goto (tgt := 36) hx hb dX2_equals_63 (by decide) ?_
            exact ih (i + 1) (by omega) (lt_s hv c4) _ _ hw ls (lv_sub hl [1, 2, 3, 0] rfl)
          · refine lv_iconst (v := 0) hx hb dX2_equals_58 (by decide) ?_
            exact il_iret (v := 0) hx hb hr hlk rfl hw (⟨Or.inr ⟨rfl, fun z => c4 ((lg_cmp_eq _ _).mpr (z.2 i (by omega)))⟩, rfl⟩) (Nat.le_of_ble_eq_true rfl) (Nat.le_of_ble_eq_true rfl) dX2_equals_59
      exact loop n 0 (by omega) (fun j hj => absurd hj (by omega)) _ _ hw ls (lv_sub hl [2, 3, 1, 0] rfl)
    · have c2 : ¬ (n = n2) := fun z => c2 ((nI_eq (a := n) (b := n2) (by omega) (by omega)).mpr z)
      refine lv_iconst (v := 0) hx hb dX2_equals_32 (by decide) ?_
      exact il_iret (v := 0) hx hb hr hlk rfl hw (⟨Or.inr ⟨rfl, fun z => c2 z.1⟩, rfl⟩) (Nat.le_of_ble_eq_true rfl) (Nat.le_of_ble_eq_true rfl) dX2_equals_33
  · have c : o = h := Option.some.inj c
    subst c
    refine lv_iconst (v := 1) hx hb dX2_equals_5 (by decide) ?_
    exact il_iret (v := 1) hx hb hr hlk rfl hw (⟨Or.inl ⟨rfl, il_row.uniq hrow hrow2⟩, rfl⟩) (Nat.le_of_ble_eq_true rfl) (Nat.le_of_ble_eq_true rfl) dX2_equals_6
set_option maxHeartbeats 4000000 in
set_option maxRecDepth 100000 in
/-- hashCode() -/
theorem met_hashCode {l : Launch} {G : il_G} {M : il_M} {h a st n : Nat} {g : Nat → Int64} (hrow : il_row G M h a st n g) : il_Ci l G yX2_hashCode cX2_hashCode 3 (.int) 1 0 0 [.ref h] M (fun r M' => r = il_hash g n ∧ M' = M) := by
  refine il_enter (by decide) (Nat.le_of_ble_eq_true rfl) ?_
  intro p e s m below meth cd hF hw ls hl
  obtain ⟨hx, hb, hr, hlk, hml, hown, hin, hts, hB⟩ := id hF
  have hl : lv_has ls 3 [(0, .ref h)] := hl
  have hown : s.vm.findClass RX2 = some m.cls := hown
  have hrow0 := hrow
  obtain ⟨N, f, hh, ha, hle, hN, hg⟩ := hrow0
  refine lv_iconst (v := 1) hx hb dX2_hashCode_0 (by decide) ?_
  refine lv_istore_n (lv' := [(1, .int 1), (0, .ref h)]) hx hb dX2_hashCode_1 rfl hl (by decide) rfl (fun ls hl => ?_)
  refine lv_aload_n hx hb dX2_hashCode_2 rfl (lv_at hl 1 rfl) ?_
  refine il_get (C := RX2) (T := TX2) (N := 3) hx hb hts in_X2 hown hB hw hh rfl 1 (by decide) (hts _ q134) (fun _ h9 => h9) rfl dX2_hashCode_3 ?_
  refine lv_istore_n (lv' := [(2, .int (nI st)), (1, .int 1), (0, .ref h)]) hx hb dX2_hashCode_6 rfl hl (by decide) rfl (fun ls hl => ?_)
  have loop : ∀ (k : Nat) (i : Nat), (i + k = n) → ∀ (H : Heap) (locs : List Loc), il_W G s M H locs → ∀ ls : Array Slot, lv_has ls 3 [(0, .ref h), (1, .int (il_hash g i)), (2, .int (nI (st + i)))] → W p l e (il_R 1 0 0) s m ([.ref h] : List Value).toArray below meth cd H locs 0 0 (MQ below (il_Qi G (fun r M' => r = il_hash g n ∧ M' = M)) ([.ref h] : List Value).toArray s 0 0 (il_A G)) (F0 m 7 ls []) := by
    intro k
    induction k with
    | zero =>
      intro i hik H locs hw ls hl
      refine lv_iload_n hx hb dX2_hashCode_7 rfl (lv_at hl 2 rfl) ?_
      refine lv_aload_n hx hb dX2_hashCode_8 rfl (lv_at hl 0 rfl) ?_
      refine il_get (C := RX2) (T := TX2) (N := 3) hx hb hts in_X2 hown hB hw hh rfl 2 (by decide) (hts _ q135) (fun _ h9 => h9) rfl dX2_hashCode_9 ?_
      refine lv_icmp_ge (tgt := 38) hx hb dX2_hashCode_12 (by decide) (fun c => ?_) (fun c => False.elim (by have c : ¬ ((st + n) ≤ (st + i)) := fun z => c ((nI_leI (a := (st + n)) (b := (st + i)) (by omega) (by omega)).mpr z); omega))
      have c : (st + n) ≤ (st + i) := (nI_leI (a := (st + n)) (b := (st + i)) (by omega) (by omega)).mp c
      refine lv_iload_n hx hb dX2_hashCode_38 rfl (lv_at hl 1 rfl) ?_
      exact il_iret (v := (il_hash g i)) hx hb hr hlk rfl hw (⟨by rw [show i = n by omega], rfl⟩) (Nat.le_of_ble_eq_true rfl) (Nat.le_of_ble_eq_true rfl) dX2_hashCode_39
    | succ k ih =>
      intro i hik H locs hw ls hl
      refine lv_iload_n hx hb dX2_hashCode_7 rfl (lv_at hl 2 rfl) ?_
      refine lv_aload_n hx hb dX2_hashCode_8 rfl (lv_at hl 0 rfl) ?_
      refine il_get (C := RX2) (T := TX2) (N := 3) hx hb hts in_X2 hown hB hw hh rfl 2 (by decide) (hts _ q135) (fun _ h9 => h9) rfl dX2_hashCode_9 ?_
      refine lv_icmp_ge (tgt := 38) hx hb dX2_hashCode_12 (by decide) (fun c => False.elim (by have c : (st + n) ≤ (st + i) := (nI_leI (a := (st + n)) (b := (st + i)) (by omega) (by omega)).mp c; omega)) (fun c => ?_)
      have c : ¬ ((st + n) ≤ (st + i)) := fun z => c ((nI_leI (a := (st + n)) (b := (st + i)) (by omega) (by omega)).mpr z)
      refine lv_iload_n hx hb dX2_hashCode_15 rfl (lv_at hl 1 rfl) ?_
      refine lv_bipush (v := 31) hx hb dX2_hashCode_16 (by decide) ?_
      refine lv_imul hx hb dX2_hashCode_18 ?_
      refine lv_istore_n (lv' := [(1, .int ((il_hash g i) * 31)), (0, .ref h), (2, .int (nI (st + i)))]) hx hb dX2_hashCode_19 rfl hl (by decide) rfl (fun ls hl => ?_)
      refine lv_iload_n hx hb dX2_hashCode_20 rfl (lv_at hl 0 rfl) ?_
      refine lv_aload_n hx hb dX2_hashCode_21 rfl (lv_at hl 1 rfl) ?_
      refine il_get (C := RX2) (T := TX2) (N := 3) hx hb hts in_X2 hown hB hw hh rfl 0 (by decide) (hts _ q132) (fun _ h9 => h9) rfl dX2_hashCode_22 ?_
      refine lv_iload_n hx hb dX2_hashCode_25 rfl (lv_at hl 2 rfl) ?_
      refine il_lald (i := (st + i)) hx hb hB hw ha (by omega) (by omega) rfl dX2_hashCode_26 ?_
      refine il_tl (g i) (hg i (by omega)) ?_
      refine il_ri hw (il_rS (n := 1) (As := [.long (g i)]) (rest := [.int ((il_hash g i) * 31)]) ⟨hx, hb, hml, hown, hts⟩ met_longHash (lw_S q318 q319 q19 q320) (by decide +kernel) ⟨Nat.le_of_ble_eq_true rfl, Nat.le_of_ble_eq_true rfl⟩ hB hw rfl hl.1 rfl (Nat.le_of_ble_eq_true rfl) dX2_hashCode_27 ⟨(Nat.le_of_ble_eq_true rfl), (Nat.le_of_ble_eq_true rfl)⟩) (fun r M_ H locs hp hw => ?_)
      obtain ⟨rfl, eM_⟩ := hp
      rw [eM_] at hw
      refine lv_iadd hx hb dX2_hashCode_30 ?_
      refine il_ti (il_hash g (i + 1)) rfl ?_
      refine lv_istore_n (lv' := [(1, .int (il_hash g (i + 1))), (0, .ref h), (2, .int (nI (st + i)))]) hx hb dX2_hashCode_31 rfl hl (by decide) rfl (fun ls hl => ?_)
      refine lv_iinc (v := nI (st + (i + 1))) (lv' := [(2, .int (nI (st + (i + 1)))), (1, .int (il_hash g (i + 1))), (0, .ref h)]) hx hb dX2_hashCode_32 hl (k := 2) rfl (by exact nI_1 (st + i)) (by decide) rfl (fun ls hl => ?_)
      refine lv_goto (tgt := 7) hx hb dX2_hashCode_35 (by decide) ?_
      exact ih (i + 1) (by omega) _ _ hw ls (lv_sub hl [2, 1, 0] rfl)
  exact loop n 0 (by omega) _ _ hw ls (lv_sub hl [2, 1, 0] rfl)
set_option maxHeartbeats 4000000 in
set_option maxRecDepth 100000 in
/-- isPartialView() -/
theorem met_isPartialView {l : Launch} {G : il_G} {M : il_M} {h a st n : Nat} {g : Nat → Int64} (hrow : il_row G M h a st n g) : il_Ci l G yX2_isPartialView cX2_isPartialView 1 (.boolean) 0 0 0 [.ref h] M (fun r M' => (r = 0 ∨ r = 1) ∧ M' = M) := by
  refine il_enter (by decide) (Nat.le_of_ble_eq_true rfl) ?_
  intro p e s m below meth cd hF hw ls hl
  obtain ⟨hx, hb, hr, hlk, hml, hown, hin, hts, hB⟩ := id hF
  have hl : lv_has ls 1 [(0, .ref h)] := hl
  have hown : s.vm.findClass RX2 = some m.cls := hown
  have hrow0 := hrow
  obtain ⟨N, f, hh, ha, hle, hN, hg⟩ := hrow0
  refine lv_aload_n hx hb dX2_isPartialView_0 rfl (lv_at hl 0 rfl) ?_
  refine il_get (C := RX2) (T := TX2) (N := 3) hx hb hts in_X2 hown hB hw hh rfl 1 (by decide) (hts _ q134) (fun _ h9 => h9) rfl dX2_isPartialView_1 ?_
  refine lv_if_gt (tgt := 19) hx hb dX2_isPartialView_4 (by decide) (fun c => ?_) (fun c => ?_)
  · refine lv_iconst (v := 1) hx hb dX2_isPartialView_19 (by decide) ?_
    refine lv_goto (tgt := 24) hx hb dX2_isPartialView_20 (by decide) ?_
    exact il_iret (v := 1) hx hb hr hlk rfl hw (⟨Or.inr rfl, rfl⟩) (Nat.le_of_ble_eq_true rfl) (Nat.le_of_ble_eq_true rfl) dX2_isPartialView_24
  · refine lv_aload_n hx hb dX2_isPartialView_7 rfl (lv_at hl 0 rfl) ?_
    refine il_get (C := RX2) (T := TX2) (N := 3) hx hb hts in_X2 hown hB hw hh rfl 2 (by decide) (hts _ q135) (fun _ h9 => h9) rfl dX2_isPartialView_8 ?_
    refine lv_aload_n hx hb dX2_isPartialView_11 rfl (lv_at hl 0 rfl) ?_
    refine il_get (C := RX2) (T := TX2) (N := 3) hx hb hts in_X2 hown hB hw hh rfl 0 (by decide) (hts _ q132) (fun _ h9 => h9) rfl dX2_isPartialView_12 ?_
    refine il_alen hx hb hB hw ha dX2_isPartialView_15 ?_
    refine lv_icmp_ge (tgt := 23) hx hb dX2_isPartialView_16 (by decide) (fun c1 => ?_) (fun c1 => ?_)
    · refine lv_iconst (v := 0) hx hb dX2_isPartialView_23 (by decide) ?_
      exact il_iret (v := 0) hx hb hr hlk rfl hw (⟨Or.inl rfl, rfl⟩) (Nat.le_of_ble_eq_true rfl) (Nat.le_of_ble_eq_true rfl) dX2_isPartialView_24
    · refine lv_iconst (v := 1) hx hb dX2_isPartialView_19 (by decide) ?_
      refine lv_goto (tgt := 24) hx hb dX2_isPartialView_20 (by decide) ?_
      exact il_iret (v := 1) hx hb hr hlk rfl hw (⟨Or.inr rfl, rfl⟩) (Nat.le_of_ble_eq_true rfl) (Nat.le_of_ble_eq_true rfl) dX2_isPartialView_24
set_option maxHeartbeats 4000000 in
set_option maxRecDepth 100000 in
/-- trimmed() -/
theorem met_trimmed {l : Launch} {G : il_G} {M : il_M} {h a st n : Nat} {g : Nat → Int64} (hrow : il_row G M h a st n g) (hn : n ≤ 200) : il_Cr l G yX2_trimmed cX2_trimmed 1 (.object RX2) 4 2 203 [.ref h] M (fun r M' => ∃ a' st', il_ext M M' ∧ il_row G M' r a' st' n g ∧ ((r = h ∧ a' = a ∧ st' = st) ∨ (M r = none ∧ M a' = none))) := by
  refine il_enter (by decide) (Nat.le_of_ble_eq_true rfl) ?_
  intro p e s m below meth cd hF hw ls hl
  obtain ⟨hx, hb, hr, hlk, hml, hown, hin, hts, hB⟩ := id hF
  have hl : lv_has ls 1 [(0, .ref h)] := hl
  have hown : s.vm.findClass RX2 = some m.cls := hown
  have hrow0 := hrow
  obtain ⟨N, f, hh, ha, hle, hN, hg⟩ := hrow0
  refine lv_aload_n hx hb dX2_trimmed_0 rfl (lv_at hl 0 rfl) ?_
  refine il_ri hw (il_rV (n := 0) (h := h) (As := []) (rest := []) ⟨hx, hb, hml, hown, hts⟩ (met_isPartialView hrow) (lw_V q383 q385 qs2 q5 q386) (by decide +kernel) ⟨Nat.le_of_ble_eq_true rfl, Nat.le_of_ble_eq_true rfl⟩ hB hw hh rfl rfl hl.1 rfl (Nat.le_of_ble_eq_true rfl) dX2_trimmed_1 ⟨(Nat.le_of_ble_eq_true rfl), (Nat.le_of_ble_eq_true rfl)⟩) (fun r1 M_ H locs hp hw => ?_)
  obtain ⟨-, eM_⟩ := hp
  rw [eM_] at hw
  refine lv_if_eq (tgt := 21) hx hb dX2_trimmed_4 (by decide) (fun c => ?_) (fun c => ?_)
  · refine lv_aload_n hx hb dX2_trimmed_21 rfl (lv_at hl 0 rfl) ?_
    exact il_aret (r := h) hx hb hr (Or.inl ⟨_, rfl⟩) hlk hw (⟨a, st, il_ext.rf, hrow, Or.inl ⟨rfl, rfl, rfl⟩⟩) (Nat.le_of_ble_eq_true rfl) (Nat.le_of_ble_eq_true rfl) dX2_trimmed_22
  · refine il_newO (ci := 1) (fs := [.null, .int 0, .int 0]) (C := RX2) (T := TX2) (N := 3) hx hb hts in_X2 tyX2 tyX2_ok hown (hts _ q122) (hts _ q123) (hts _ q5) hB hw rfl (fun j hj => by rcases (show j = 0 ∨ j = 1 ∨ j = 2 by omega) with rfl | rfl | rfl <;> rfl) (Nat.le_of_ble_eq_true rfl) (Nat.le_of_ble_eq_true rfl) dX2_trimmed_7 (fun q1 H locs hn_q1 hw => ?_)
    have hw : il_W G s (il_up M q1 (.inr (1, [.null, .int 0, .int 0]))) H locs := hw
    have hh := il_up_keep (a := q1) (e := (.inr (1, [.null, .int 0, .int 0]))) (il_new hn_q1 hh) hh
    have ha := il_up_keep (a := q1) (e := (.inr (1, [.null, .int 0, .int 0]))) (il_new hn_q1 ha) ha
    have h1 : il_up M q1 (.inr (1, [.null, .int 0, .int 0])) q1 = some (.inr (1, [.null, .int 0, .int 0])) := il_up_eq _ _ _
    generalize eM1 : il_up M q1 (.inr (1, [.null, .int 0, .int 0])) = M1 at hw hh ha h1
    have hrow1 : il_row G M1 h a st n g := hrow.ext (by rw [← eM1]; exact il_ext.rf.set hn_q1)
    refine lv_dup hx hb dX2_trimmed_10 rfl ?_
    refine lv_aload_n hx hb dX2_trimmed_11 rfl (lv_at hl 0 rfl) ?_
    refine il_rr hw (il_rV (n := 0) (h := h) (As := []) (rest := [.ref q1, .ref q1]) ⟨hx, hb, hml, hown, hts⟩ (met_toArray hrow1 hn) (lw_V q387 q326 q327 q5 q328) (by decide +kernel) ⟨Nat.le_of_ble_eq_true rfl, Nat.le_of_ble_eq_true rfl⟩ hB hw hh rfl rfl hl.1 rfl (Nat.le_of_ble_eq_true rfl) dX2_trimmed_12 ⟨(Nat.le_of_ble_eq_true rfl), (Nat.le_of_ble_eq_true rfl)⟩) (fun r1 M_ H locs hp hw => ?_)
    obtain ⟨p1, f', p2, p3⟩ := hp
    have hn2 := il_up_none (eM1 ▸ p1 : il_up M q1 _ r1 = none)
    have h2 : M_ r1 = some (il_eJ G n f') := by rw [p2]; exact il_up_eq _ _ _
    have h1 := (by rw [p2]; exact il_up_keep (Ne.symm hn2.2) h1 : M_ q1 = some _)
    refine il_rv hw (il_rI (n := 1) (h := q1) (As := [.ref r1]) (rest := [.ref q1]) ⟨hx, hb, hml, hown, hts⟩ (met_init1 h1 h2) (lw_meth q126) (hts _ q5) (hts _ q124) (hts _ q125) rfl (by decide +kernel) ⟨Nat.le_of_ble_eq_true rfl, Nat.le_of_ble_eq_true rfl⟩ hB hw rfl hl.1 rfl (Nat.le_of_ble_eq_true rfl) dX2_trimmed_15 ⟨(Nat.le_of_ble_eq_true rfl), (Nat.le_of_ble_eq_true rfl)⟩) (fun M2 H locs hp hw => ?_)
    refine lv_goto (tgt := 22) hx hb dX2_trimmed_18 (by decide) ?_
    exact il_aret (r := q1) hx hb hr (Or.inl ⟨_, rfl⟩) hlk hw (⟨r1, 0, by rw [hp, p2, ← eM1]; exact (((il_ext.rf.set hn_q1).set hn2.1).set hn_q1), ⟨n, f', by rw [hp, Nat.zero_add]; exact il_up_eq _ _ _, by rw [hp]; exact il_up_keep hn2.2 h2, by omega, by omega, fun j hj => by rw [Nat.zero_add]; exact p3 j hj⟩, Or.inr ⟨hn_q1, hn2.1⟩⟩) (Nat.le_of_ble_eq_true rfl) (Nat.le_of_ble_eq_true rfl) dX2_trimmed_22
end
section
/-! CONTRACTS: ImmutableLongArray.Builder (printed by wip/D-17801w/gen/m22.py) -/
set_option maxRecDepth 100000
theorem il_updc {f g : Nat → Int64} {n : Nat} {v : Int64} (h : ∀ j, j < n → f j = g j) : ∀ j, j < n + 1 → vp_updL f n v j = vp_updL g n v j := fun j hj => by
  by_cases z : j = n
  · subst z
    rw [pk_uLs, pk_uLs]
  · rw [pk_uLn z, pk_uLn z]
    exact h j (by omega)
theorem il_step_of {G : il_G} {M M1 M3 : il_M} {b a a' n N' N0 : Nat} {f' f0 : Nat → Int64} {y : Int32} (hb0 : M b = some (il_eB a y)) (ha0 : M a = some (il_eJ G N0 f0)) (q2 : M1 a' = some (il_eJ G N' f')) (q6 : (a' = a ∧ M1 = M) ∨ (M a' = none ∧ ∀ x e, x ≠ b → M x = some e → M1 x = some e)) (hk : ∀ x e, x ≠ b → x ≠ a' → M1 x = some e → M3 x = some e) (h3 : ∃ f3, M3 a' = some (il_eJ G N' f3) ∧ ∀ j, j < n → f3 j = f' j) : il_step G M M3 b a n := by
  have hab : a ≠ b := il_ne ha0 hb0 (by simp)
  rcases q6 with ⟨rfl, rfl⟩ | ⟨q6, q7⟩
  · refine ⟨fun x e he hxb hxa => hk x e hxb hxa he, fun N f hf => ?_⟩
    have e1 := hf.symm.trans q2
    simp only [il_eJ, Option.some.injEq, Sum.inl.injEq, Prod.mk.injEq, Sum.inr.injEq, true_and] at e1
    obtain ⟨rfl, rfl⟩ := e1
    exact h3
  · exact ⟨fun x e he hxb _ => hk x e hxb (il_new q6 he) (q7 x e hxb he), fun N f hf => ⟨f, hk a _ hab (il_new q6 hf) (q7 a _ hab hf), fun _ _ => rfl⟩⟩
set_option maxHeartbeats 4000000 in
set_option maxRecDepth 100000 in
/-- Builder.expandedCapacity(old, least) -/
theorem met_expandedCapacity {l : Launch} {G : il_G} {M : il_M} {o mn : Nat} (h1 : o < mn) (h2 : mn ≤ 96) : il_Ci l G yX4_expandedCapacity cX4_expandedCapacity 3 (.int) 2 0 0 [.int (nI o), .int (nI mn)] M (fun r M' => (∃ k, r = nI k ∧ mn ≤ k ∧ k < 200) ∧ M' = M) := by
  refine il_enter (by decide) (Nat.le_of_ble_eq_true rfl) ?_
  intro p e s m below meth cd hF hw ls hl
  obtain ⟨hx, hb, hr, hlk, hml, hown, hin, hts, hB⟩ := id hF
  have hl : lv_has ls 3 [(0, .int (nI o)), (1, .int (nI mn))] := hl
  have hown : s.vm.findClass RX4 = some m.cls := hown
  refine lv_iload_n hx hb dX4_expandedCapacity_0 rfl (lv_at hl 1 rfl) ?_
  refine lv_if_ge (tgt := 14) hx hb dX4_expandedCapacity_1 (by decide) (fun c => ?_) (fun c => False.elim (by have c : ¬ (0 ≤ mn) := fun z => c ((nI_leI (a := 0) (b := mn) (by omega) (by omega)).mpr z); omega))
  have c : 0 ≤ mn := (nI_leI (a := 0) (b := mn) (by omega) (by omega)).mp c
  refine lv_iload_n hx hb dX4_expandedCapacity_14 rfl (lv_at hl 0 rfl) ?_
  refine lv_iload_n hx hb dX4_expandedCapacity_15 rfl (lv_at hl 0 rfl) ?_
  refine lv_iconst (v := 1) hx hb dX4_expandedCapacity_16 (by decide) ?_
  refine lv_ishr hx hb dX4_expandedCapacity_17 ?_
  refine il_ti (nI (o / 2)) (pk_shrN (by omega) _ 1 (by decide)) ?_
  refine lv_iadd hx hb dX4_expandedCapacity_18 ?_
  refine il_ti (nI (o + o / 2)) (nI_add o (o / 2)) ?_
  refine lv_iconst (v := 1) hx hb dX4_expandedCapacity_19 (by decide) ?_
  refine lv_iadd hx hb dX4_expandedCapacity_20 ?_
  refine il_ti (nI (o + o / 2 + 1)) (nI_1 _) ?_
  refine lv_istore_n (lv' := [(2, .int (nI (o + o / 2 + 1))), (0, .int (nI o)), (1, .int (nI mn))]) hx hb dX4_expandedCapacity_21 rfl hl (by decide) rfl (fun ls hl => ?_)
  refine lv_iload_n hx hb dX4_expandedCapacity_22 rfl (lv_at hl 0 rfl) ?_
  refine lv_iload_n hx hb dX4_expandedCapacity_23 rfl (lv_at hl 2 rfl) ?_
  refine lv_icmp_ge (tgt := 36) hx hb dX4_expandedCapacity_24 (by decide) (fun c => ?_) (fun c => ?_)
  · have c : mn ≤ (o + o / 2 + 1) := (nI_leI (a := mn) (b := (o + o / 2 + 1)) (by omega) (by omega)).mp c
    refine lv_iload_n hx hb dX4_expandedCapacity_36 rfl (lv_at hl 0 rfl) ?_
    refine lv_if_ge (tgt := 43) hx hb dX4_expandedCapacity_37 (by decide) (fun c => ?_) (fun c => False.elim (by have c : ¬ (0 ≤ (o + o / 2 + 1)) := fun z => c ((nI_leI (a := 0) (b := (o + o / 2 + 1)) (by omega) (by omega)).mpr z); omega))
    have c : 0 ≤ (o + o / 2 + 1) := (nI_leI (a := 0) (b := (o + o / 2 + 1)) (by omega) (by omega)).mp c
    refine lv_iload_n hx hb dX4_expandedCapacity_43 rfl (lv_at hl 0 rfl) ?_
    exact il_iret (v := (nI (o + o / 2 + 1))) hx hb hr hlk rfl hw (⟨⟨_, rfl, by omega, by omega⟩, rfl⟩) (Nat.le_of_ble_eq_true rfl) (Nat.le_of_ble_eq_true rfl) dX4_expandedCapacity_44
  · have c : ¬ (mn ≤ (o + o / 2 + 1)) := fun z => c ((nI_leI (a := mn) (b := (o + o / 2 + 1)) (by omega) (by omega)).mpr z)
    refine lv_iload_n hx hb dX4_expandedCapacity_27 rfl (lv_at hl 2 rfl) ?_
    refine lv_iconst (v := 1) hx hb dX4_expandedCapacity_28 (by decide) ?_
    refine lv_isub hx hb dX4_expandedCapacity_29 ?_
    refine il_ti (nI (mn - 1)) (pk_sub (b := 1) (by omega)) ?_
    refine il_ri hw (il_rS (n := 1) (As := [.int (nI (mn - 1))]) (rest := []) ⟨hx, hb, hml, hown, hts⟩ (met_hob (j := mn - 1) (by omega) (by omega)) (lw_S q189 q190 q14 q191) (by decide +kernel) ⟨Nat.le_of_ble_eq_true rfl, Nat.le_of_ble_eq_true rfl⟩ hB hw rfl hl.1 rfl (Nat.le_of_ble_eq_true rfl) dX4_expandedCapacity_30 ⟨(Nat.le_of_ble_eq_true rfl), (Nat.le_of_ble_eq_true rfl)⟩) (fun r M_ H locs hp hw => ?_)
    obtain ⟨rfl, eM_⟩ := hp
    rw [eM_] at hw
    have hh := (il_hob_ok (mn - 1) (by omega) (by omega)).2
    refine lv_iconst (v := 1) hx hb dX4_expandedCapacity_33 (by decide) ?_
    refine lv_ishl hx hb dX4_expandedCapacity_34 ?_
    refine il_ti (nI (il_hob (mn - 1) * 2)) (pk_shlN _ 1 (by decide) (by omega)) ?_
    refine lv_istore_n (lv' := [(2, .int (nI (il_hob (mn - 1) * 2))), (0, .int (nI o)), (1, .int (nI mn))]) hx hb dX4_expandedCapacity_35 rfl hl (by decide) rfl (fun ls hl => ?_)
    refine lv_iload_n hx hb dX4_expandedCapacity_36 rfl (lv_at hl 0 rfl) ?_
    refine lv_if_ge (tgt := 43) hx hb dX4_expandedCapacity_37 (by decide) (fun c => ?_) (fun c => False.elim (by have c : ¬ (0 ≤ (il_hob (mn - 1) * 2)) := fun z => c ((nI_leI (a := 0) (b := (il_hob (mn - 1) * 2)) (by omega) (by omega)).mpr z); omega))
    have c : 0 ≤ (il_hob (mn - 1) * 2) := (nI_leI (a := 0) (b := (il_hob (mn - 1) * 2)) (by omega) (by omega)).mp c
    refine lv_iload_n hx hb dX4_expandedCapacity_43 rfl (lv_at hl 0 rfl) ?_
    exact il_iret (v := (nI (il_hob (mn - 1) * 2))) hx hb hr hlk rfl hw (⟨⟨_, rfl, by omega, by omega⟩, rfl⟩) (Nat.le_of_ble_eq_true rfl) (Nat.le_of_ble_eq_true rfl) dX4_expandedCapacity_44
set_option maxHeartbeats 4000000 in
set_option maxRecDepth 100000 in
/-- Builder.ensureRoomFor(k) -/
theorem met_ensure {l : Launch} {G : il_G} {M : il_M} {b a n : Nat} {g : Nat → Int64} (hbld : il_bld G M b a n g) {k : Nat} (h : n + k ≤ 96) : il_Cv l G yX4_ensureRoomFor cX4_ensureRoomFor 3 3 1 200 [.ref b, .int (nI k)] M (fun M' => ∃ a' N' f', M' b = some (il_eB a' (nI n)) ∧ M' a' = some (il_eJ G N' f') ∧ n + k ≤ N' ∧ N' < 200 ∧ (∀ j, j < n → f' j = g j) ∧ ((a' = a ∧ M' = M) ∨ (M a' = none ∧ ∀ x e, x ≠ b → M x = some e → M' x = some e))) := by
  refine il_enter (by decide) (Nat.le_of_ble_eq_true rfl) ?_
  intro p e s m below meth cd hF hw ls hl
  obtain ⟨hx, hb, hr, hlk, hml, hown, hin, hts, hB⟩ := id hF
  have hl : lv_has ls 3 [(0, .ref b), (1, .int (nI k))] := hl
  have hown : s.vm.findClass RX4 = some m.cls := hown
  have hbld0 := hbld
  obtain ⟨N, f, hbb, ha, hle, hN, hg⟩ := hbld0
  refine lv_aload_n hx hb dX4_ensureRoomFor_0 rfl (lv_at hl 0 rfl) ?_
  refine il_get (C := RX4) (T := TX4) (N := 2) hx hb hts in_X4 hown hB hw hbb rfl 1 (by decide) (hts _ q110) (fun _ h9 => h9) rfl dX4_ensureRoomFor_1 ?_
  refine lv_iload_n hx hb dX4_ensureRoomFor_4 rfl (lv_at hl 1 rfl) ?_
  refine lv_iadd hx hb dX4_ensureRoomFor_5 ?_
  refine il_ti (nI (n + k)) (nI_add n k) ?_
  refine lv_istore_n (lv' := [(2, .int (nI (n + k))), (0, .ref b), (1, .int (nI k))]) hx hb dX4_ensureRoomFor_6 rfl hl (by decide) rfl (fun ls hl => ?_)
  refine lv_iload_n hx hb dX4_ensureRoomFor_7 rfl (lv_at hl 0 rfl) ?_
  refine lv_aload_n hx hb dX4_ensureRoomFor_8 rfl (lv_at hl 1 rfl) ?_
  refine il_get (C := RX4) (T := TX4) (N := 2) hx hb hts in_X4 hown hB hw hbb rfl 0 (by decide) (hts _ q109) (fun _ h9 => h9) rfl dX4_ensureRoomFor_9 ?_
  refine il_alen hx hb hB hw ha dX4_ensureRoomFor_12 ?_
  refine lv_icmp_le (tgt := 36) hx hb dX4_ensureRoomFor_13 (by decide) (fun c => ?_) (fun c => ?_)
  · have c : (n + k) ≤ N := (nI_leI (a := (n + k)) (b := N) (by omega) (by omega)).mp c
    exact il_vret hx hb hr hlk hw (⟨a, N, f, hbb, ha, by omega, hN, hg, Or.inl ⟨rfl, rfl⟩⟩) (Nat.le_of_ble_eq_true rfl) (Nat.le_of_ble_eq_true rfl) dX4_ensureRoomFor_36
  · have c : ¬ ((n + k) ≤ N) := fun z => c ((nI_leI (a := (n + k)) (b := N) (by omega) (by omega)).mpr z)
    refine lv_aload_n hx hb dX4_ensureRoomFor_16 rfl (lv_at hl 1 rfl) ?_
    refine lv_aload_n hx hb dX4_ensureRoomFor_17 rfl (lv_at hl 1 rfl) ?_
    refine il_get (C := RX4) (T := TX4) (N := 2) hx hb hts in_X4 hown hB hw hbb rfl 0 (by decide) (hts _ q109) (fun _ h9 => h9) rfl dX4_ensureRoomFor_18 ?_
    refine lv_aload_n hx hb dX4_ensureRoomFor_21 rfl (lv_at hl 1 rfl) ?_
    refine il_get (C := RX4) (T := TX4) (N := 2) hx hb hts in_X4 hown hB hw hbb rfl 0 (by decide) (hts _ q109) (fun _ h9 => h9) rfl dX4_ensureRoomFor_22 ?_
    refine il_alen hx hb hB hw ha dX4_ensureRoomFor_25 ?_
    refine lv_iload_n hx hb dX4_ensureRoomFor_26 rfl (lv_at hl 0 rfl) ?_
    refine il_ri hw (il_rS (n := 2) (As := [.int (nI N), .int (nI (n + k))]) (rest := [.ref a, .ref b]) ⟨hx, hb, hml, hown, hts⟩ (met_expandedCapacity (o := N) (mn := n + k) (by omega) h) (lw_S q170 q171 q11 q172) (by decide +kernel) ⟨Nat.le_of_ble_eq_true rfl, Nat.le_of_ble_eq_true rfl⟩ hB hw rfl hl.1 rfl (Nat.le_of_ble_eq_true rfl) dX4_ensureRoomFor_27 ⟨(Nat.le_of_ble_eq_true rfl), (Nat.le_of_ble_eq_true rfl)⟩) (fun r0 M_ H locs hp hw => ?_)
    obtain ⟨⟨k', rfl, p1, p2⟩, eM_⟩ := hp
    rw [eM_] at hw
    refine il_rr hw (il_rS (n := 2) (As := [.ref a, .int (nI k')]) (rest := [.ref b]) ⟨hx, hb, hml, hown, hts⟩ (met_copyOf ha (by omega) p2) (lw_S q198 q199 q15 q200) (by decide +kernel) ⟨Nat.le_of_ble_eq_true rfl, Nat.le_of_ble_eq_true rfl⟩ hB hw rfl hl.1 rfl (Nat.le_of_ble_eq_true rfl) dX4_ensureRoomFor_30 ⟨(Nat.le_of_ble_eq_true rfl), (Nat.le_of_ble_eq_true rfl)⟩) (fun r1 M_ H locs hp hw => ?_)
    obtain ⟨hn1, f', eM_, hf'⟩ := hp
    rw [eM_] at hw
    have hw : il_W G s (il_up M r1 (il_eJ G k' f')) H locs := hw
    have hbb := il_up_keep (a := r1) (e := (il_eJ G k' f')) (il_new hn1 hbb) hbb
    have ha := il_up_keep (a := r1) (e := (il_eJ G k' f')) (il_new hn1 ha) ha
    have h1 : il_up M r1 (il_eJ G k' f') r1 = some (il_eJ G k' f') := il_up_eq _ _ _
    generalize eM1 : il_up M r1 (il_eJ G k' f') = M1 at hw hbb ha h1
    refine il_put (C := RX4) (T := TX4) (N := 2) (ty := .array .long) (v := .ref r1) hx hb hts in_X4 tyX4 tyX4_ok nmX4 hown hB hw hbb rfl 0 (by decide) (hts _ q109) (fun _ h9 => h9) rfl (by decide +kernel) rfl rfl (Nat.le_of_ble_eq_true rfl) dX4_ensureRoomFor_33 (fun H locs hw => ?_)
    have hw : il_W G s (il_up M1 b (.inr (2, [.ref r1, .int (nI n)]))) H locs := hw
    have ha := il_up_keep (a := b) (e := (.inr (2, [.ref r1, .int (nI n)]))) (il_ne ha hbb (by simp)) ha
    have h1 := il_up_keep (a := b) (e := (.inr (2, [.ref r1, .int (nI n)]))) (il_ne h1 hbb (by simp)) h1
    have hbb : il_up M1 b (.inr (2, [.ref r1, .int (nI n)])) b = some (.inr (2, [.ref r1, .int (nI n)])) := il_up_eq _ _ _
    generalize eM2 : il_up M1 b (.inr (2, [.ref r1, .int (nI n)])) = M2 at hw ha h1 hbb
    exact il_vret hx hb hr hlk hw (⟨r1, k', f', hbb, h1, by omega, p2, fun j hj => by rw [hf' j (by omega)]; exact hg j hj, Or.inr ⟨hn1, fun x e hx he => by rw [← eM2, ← eM1]; exact il_up_keep hx (il_up_keep (il_new hn1 he) he)⟩⟩) (Nat.le_of_ble_eq_true rfl) (Nat.le_of_ble_eq_true rfl) dX4_ensureRoomFor_36
set_option maxHeartbeats 4000000 in
set_option maxRecDepth 100000 in
/-- Builder.add(v) -/
theorem met_badd {l : Launch} {G : il_G} {M : il_M} {b a n : Nat} {g : Nat → Int64} (hbld : il_bld G M b a n g) {v : Int64} (h : n + 1 ≤ 96) : il_Cr l G yX4_add cX4_add 3 (.object RX4) 4 1 200 [.ref b, .long v] M (fun r M' => r = b ∧ ∃ a', il_bld G M' b a' (n + 1) (vp_updL g n v) ∧ (a' = a ∨ M a' = none) ∧ il_step G M M' b a n) := by
  refine il_enter (by decide) (Nat.le_of_ble_eq_true rfl) ?_
  intro p e s m below meth cd hF hw ls hl
  obtain ⟨hx, hb, hr, hlk, hml, hown, hin, hts, hB⟩ := id hF
  have hl : lv_has ls 3 [(0, .ref b), (1, .long v)] := hl
  have hown : s.vm.findClass RX4 = some m.cls := hown
  have hbld0 := hbld
  obtain ⟨N, f, hbb, ha, hle, hN, hg⟩ := hbld0
  refine lv_aload_n hx hb dX4_add_0 rfl (lv_at hl 0 rfl) ?_
  refine lv_iconst (v := 1) hx hb dX4_add_1 (by decide) ?_
  refine il_rv hw (il_rV (n := 1) (h := b) (As := [.int 1]) (rest := []) ⟨hx, hb, hml, hown, hts⟩ (met_ensure (k := 1) hbld h) (lw_V q166 q168 qs1 q11 q169) (by decide +kernel) ⟨Nat.le_of_ble_eq_true rfl, Nat.le_of_ble_eq_true rfl⟩ hB hw hbb rfl rfl hl.1 rfl (Nat.le_of_ble_eq_true rfl) dX4_add_2 ⟨(Nat.le_of_ble_eq_true rfl), (Nat.le_of_ble_eq_true rfl)⟩) (fun M1 H locs hp hw => ?_)
  obtain ⟨a', N', f', u1, u2, u3, u4, u5, u6⟩ := hp
  have u2' := u2
  refine lv_aload_n hx hb dX4_add_5 rfl (lv_at hl 0 rfl) ?_
  refine il_get (C := RX4) (T := TX4) (N := 2) hx hb hts in_X4 hown hB hw u1 rfl 0 (by decide) (hts _ q109) (fun _ h9 => h9) rfl dX4_add_6 ?_
  refine lv_aload_n hx hb dX4_add_9 rfl (lv_at hl 0 rfl) ?_
  refine il_get (C := RX4) (T := TX4) (N := 2) hx hb hts in_X4 hown hB hw u1 rfl 1 (by decide) (hts _ q110) (fun _ h9 => h9) rfl dX4_add_10 ?_
  refine lv_lload_n hx hb dX4_add_13 rfl (lv_at hl 1 rfl) ?_
  refine il_last (i := n) hx hb hB hw u2 (by omega) (by omega) rfl dX4_add_14 (fun H locs hw => ?_)
  have hw : il_W G s (il_up M1 a' (il_eJ G N' (vp_updL f' n v))) H locs := hw
  have u1 := il_up_keep (a := a') (e := (il_eJ G N' (vp_updL f' n v))) (il_ne u1 u2 (by simp)) u1
  have u2 : il_up M1 a' (il_eJ G N' (vp_updL f' n v)) a' = some (il_eJ G N' (vp_updL f' n v)) := il_up_eq _ _ _
  generalize eM2 : il_up M1 a' (il_eJ G N' (vp_updL f' n v)) = M2 at hw u1 u2
  refine lv_aload_n hx hb dX4_add_15 rfl (lv_at hl 0 rfl) ?_
  refine lv_dup hx hb dX4_add_16 rfl ?_
  refine il_get (C := RX4) (T := TX4) (N := 2) hx hb hts in_X4 hown hB hw u1 rfl 1 (by decide) (hts _ q110) (fun _ h9 => h9) rfl dX4_add_17 ?_
  refine lv_iconst (v := 1) hx hb dX4_add_20 (by decide) ?_
  refine lv_iadd hx hb dX4_add_21 ?_
  refine il_ti (nI (n + 1)) (nI_1 n) ?_
  refine il_put (C := RX4) (T := TX4) (N := 2) (ty := .int) (v := .int (nI (n + 1))) hx hb hts in_X4 tyX4 tyX4_ok nmX4 hown hB hw u1 rfl 1 (by decide) (hts _ q110) (fun _ h9 => h9) rfl (by decide +kernel) rfl rfl (Nat.le_of_ble_eq_true rfl) dX4_add_22 (fun H locs hw => ?_)
  have hw : il_W G s (il_up M2 b (.inr (2, [.ref a', .int (nI (n + 1))]))) H locs := hw
  have u2 := il_up_keep (a := b) (e := (.inr (2, [.ref a', .int (nI (n + 1))]))) (il_ne u2 u1 (by simp)) u2
  have u1 : il_up M2 b (.inr (2, [.ref a', .int (nI (n + 1))])) b = some (.inr (2, [.ref a', .int (nI (n + 1))])) := il_up_eq _ _ _
  generalize eM3 : il_up M2 b (.inr (2, [.ref a', .int (nI (n + 1))])) = M3 at hw u2 u1
  refine lv_aload_n hx hb dX4_add_25 rfl (lv_at hl 0 rfl) ?_
  exact il_aret (r := b) hx hb hr (Or.inl ⟨_, rfl⟩) hlk hw (⟨rfl, a', ⟨N', _, u1, u2, by omega, u4, il_updc u5⟩, u6.elim (fun z => Or.inl z.1) (fun z => Or.inr z.1), il_step_of hbb ha u2' u6 (fun x e hxb hxa he => by rw [← eM3, ← eM2]; exact il_up_keep hxb (il_up_keep hxa he)) ⟨_, u2, fun j hj => pk_uLn (by omega)⟩⟩) (Nat.le_of_ble_eq_true rfl) (Nat.le_of_ble_eq_true rfl) dX4_add_26
set_option maxHeartbeats 4000000 in
set_option maxRecDepth 100000 in
/-- Builder.addAll(row) -/
theorem met_baddAll {l : Launch} {G : il_G} {M : il_M} {b a n : Nat} {g : Nat → Int64} (hbld : il_bld G M b a n g) {h ra st k : Nat} {gr : Nat → Int64} (hrow : il_row G M h ra st k gr) (h0 : n + k ≤ 96) : il_Cr l G yX4_addAll cX4_addAll 2 (.object RX4) 4 1 200 [.ref b, .ref h] M (fun r M' => r = b ∧ ∃ a', il_bld G M' b a' (n + k) (il_cat g n gr) ∧ (a' = a ∨ M a' = none) ∧ il_step G M M' b a n) := by
  refine il_enter (by decide) (Nat.le_of_ble_eq_true rfl) ?_
  intro p e s m below meth cd hF hw ls hl
  obtain ⟨hx, hb, hr, hlk, hml, hown, hin, hts, hB⟩ := id hF
  have hl : lv_has ls 2 [(0, .ref b), (1, .ref h)] := hl
  have hown : s.vm.findClass RX4 = some m.cls := hown
  have hbld0 := hbld
  obtain ⟨N, f, hbb, ha, hle, hN, hg⟩ := hbld0
  have hrow0 := hrow
  obtain ⟨Nr, fr, rh, rra, rle, rN, rg⟩ := hrow0
  refine lv_aload_n hx hb dX4_addAll_0 rfl (lv_at hl 0 rfl) ?_
  refine lv_aload_n hx hb dX4_addAll_1 rfl (lv_at hl 1 rfl) ?_
  refine il_ri hw (il_rV (n := 0) (h := h) (As := []) (rest := [.ref b]) ⟨hx, hb, hml, hown, hts⟩ (met_length rh) (lw_V q165 q158 q159 q5 q160) (by decide +kernel) ⟨Nat.le_of_ble_eq_true rfl, Nat.le_of_ble_eq_true rfl⟩ hB hw rh rfl rfl hl.1 rfl (Nat.le_of_ble_eq_true rfl) dX4_addAll_2 ⟨(Nat.le_of_ble_eq_true rfl), (Nat.le_of_ble_eq_true rfl)⟩) (fun r M_ H locs hp hw => ?_)
  obtain ⟨rfl, eM_⟩ := hp
  rw [eM_] at hw
  refine il_rv hw (il_rV (n := 1) (h := b) (As := [.int (nI k)]) (rest := []) ⟨hx, hb, hml, hown, hts⟩ (met_ensure hbld h0) (lw_V q166 q168 qs1 q11 q169) (by decide +kernel) ⟨Nat.le_of_ble_eq_true rfl, Nat.le_of_ble_eq_true rfl⟩ hB hw hbb rfl rfl hl.1 rfl (Nat.le_of_ble_eq_true rfl) dX4_addAll_5 ⟨(Nat.le_of_ble_eq_true rfl), (Nat.le_of_ble_eq_true rfl)⟩) (fun M1 H locs hp hw => ?_)
  obtain ⟨a', N', f', u1, u2, u3, u4, u5, u6⟩ := hp
  have hk1 : ∀ x e, x ≠ b → M x = some e → M1 x = some e := by
    rcases u6 with ⟨-, e⟩ | ⟨-, e⟩
    · rw [e]; exact fun x e' _ z => z
    · exact e
  have rh := hk1 _ _ (il_ne rh hbb (by simp)) rh
  have rra := hk1 _ _ (il_ne rra hbb (by simp)) rra
  have u2' := u2
  refine lv_aload_n hx hb dX4_addAll_8 rfl (lv_at hl 1 rfl) ?_
  refine il_getN (C := RX2) (T := TX2) (N := 3) hx hb hts in_X2 hown hB hw rh rfl 0 (by decide) hB.1.f27 (fun _ h9 => h9) rfl dX4_addAll_9 ?_
  refine lv_aload_n hx hb dX4_addAll_12 rfl (lv_at hl 1 rfl) ?_
  refine il_getN (C := RX2) (T := TX2) (N := 3) hx hb hts in_X2 hown hB hw rh rfl 1 (by decide) hB.1.f28 (fun _ h9 => h9) rfl dX4_addAll_13 ?_
  refine lv_aload_n hx hb dX4_addAll_16 rfl (lv_at hl 0 rfl) ?_
  refine il_get (C := RX4) (T := TX4) (N := 2) hx hb hts in_X4 hown hB hw u1 rfl 0 (by decide) (hts _ q109) (fun _ h9 => h9) rfl dX4_addAll_17 ?_
  refine lv_aload_n hx hb dX4_addAll_20 rfl (lv_at hl 0 rfl) ?_
  refine il_get (C := RX4) (T := TX4) (N := 2) hx hb hts in_X4 hown hB hw u1 rfl 1 (by decide) (hts _ q110) (fun _ h9 => h9) rfl dX4_addAll_21 ?_
  refine lv_aload_n hx hb dX4_addAll_24 rfl (lv_at hl 1 rfl) ?_
  refine il_ri hw (il_rV (n := 0) (h := h) (As := []) (rest := [.int (nI n), .ref a', .int (nI st), .ref ra]) ⟨hx, hb, hml, hown, hts⟩ (met_length rh) (lw_V q165 q158 q159 q5 q160) (by decide +kernel) ⟨Nat.le_of_ble_eq_true rfl, Nat.le_of_ble_eq_true rfl⟩ hB hw rh rfl rfl hl.1 rfl (Nat.le_of_ble_eq_true rfl) dX4_addAll_25 ⟨(Nat.le_of_ble_eq_true rfl), (Nat.le_of_ble_eq_true rfl)⟩) (fun r M_ H locs hp hw => ?_)
  obtain ⟨rfl, eM_⟩ := hp
  rw [eM_] at hw
  refine il_copy (sp := st) (dp := n) (n := k) hx hb (by rw [hml]; exact hl.1.symm) hts hown (hts _ q214) hB hw rra u2 rfl rfl rfl (by omega) (by omega) (by omega) (by omega) (Nat.le_of_ble_eq_true rfl) (by decide +kernel) dX4_addAll_28 (fun H locs hw => ?_)
  have hw : il_W G s (il_up M1 a' (il_eJ G N' (va_cpy fr f' st n k))) H locs := hw
  have u1 := il_up_keep (a := a') (e := (il_eJ G N' (va_cpy fr f' st n k))) (il_ne u1 u2 (by simp)) u1
  have rh := il_up_keep (a := a') (e := (il_eJ G N' (va_cpy fr f' st n k))) (il_ne rh u2 (by simp)) rh
  have u2 : il_up M1 a' (il_eJ G N' (va_cpy fr f' st n k)) a' = some (il_eJ G N' (va_cpy fr f' st n k)) := il_up_eq _ _ _
  generalize eM2 : il_up M1 a' (il_eJ G N' (va_cpy fr f' st n k)) = M2 at hw u1 rh u2
  refine lv_aload_n hx hb dX4_addAll_31 rfl (lv_at hl 0 rfl) ?_
  refine lv_dup hx hb dX4_addAll_32 rfl ?_
  refine il_get (C := RX4) (T := TX4) (N := 2) hx hb hts in_X4 hown hB hw u1 rfl 1 (by decide) (hts _ q110) (fun _ h9 => h9) rfl dX4_addAll_33 ?_
  refine lv_aload_n hx hb dX4_addAll_36 rfl (lv_at hl 1 rfl) ?_
  refine il_ri hw (il_rV (n := 0) (h := h) (As := []) (rest := [.int (nI n), .ref b]) ⟨hx, hb, hml, hown, hts⟩ (met_length rh) (lw_V q165 q158 q159 q5 q160) (by decide +kernel) ⟨Nat.le_of_ble_eq_true rfl, Nat.le_of_ble_eq_true rfl⟩ hB hw rh rfl rfl hl.1 rfl (Nat.le_of_ble_eq_true rfl) dX4_addAll_37 ⟨(Nat.le_of_ble_eq_true rfl), (Nat.le_of_ble_eq_true rfl)⟩) (fun r M_ H locs hp hw => ?_)
  obtain ⟨rfl, eM_⟩ := hp
  rw [eM_] at hw
  refine lv_iadd hx hb dX4_addAll_40 ?_
  refine il_ti (nI (n + k)) (nI_add n k) ?_
  refine il_put (C := RX4) (T := TX4) (N := 2) (ty := .int) (v := .int (nI (n + k))) hx hb hts in_X4 tyX4 tyX4_ok nmX4 hown hB hw u1 rfl 1 (by decide) (hts _ q110) (fun _ h9 => h9) rfl (by decide +kernel) rfl rfl (Nat.le_of_ble_eq_true rfl) dX4_addAll_41 (fun H locs hw => ?_)
  have hw : il_W G s (il_up M2 b (.inr (2, [.ref a', .int (nI (n + k))]))) H locs := hw
  have rh := il_up_keep (a := b) (e := (.inr (2, [.ref a', .int (nI (n + k))]))) (il_ne rh u1 (by simp)) rh
  have u2 := il_up_keep (a := b) (e := (.inr (2, [.ref a', .int (nI (n + k))]))) (il_ne u2 u1 (by simp)) u2
  have u1 : il_up M2 b (.inr (2, [.ref a', .int (nI (n + k))])) b = some (.inr (2, [.ref a', .int (nI (n + k))])) := il_up_eq _ _ _
  generalize eM3 : il_up M2 b (.inr (2, [.ref a', .int (nI (n + k))])) = M3 at hw rh u2 u1
  refine lv_aload_n hx hb dX4_addAll_44 rfl (lv_at hl 0 rfl) ?_
  refine il_aret (r := b) hx hb hr (Or.inl ⟨_, rfl⟩) hlk hw (⟨rfl, a', ⟨N', _, u1, u2, by omega, u4, fun j hj => ?_⟩, u6.elim (fun z => Or.inl z.1) (fun z => Or.inr z.1), il_step_of hbb ha u2' u6 (fun x e hxb hxa he => by rw [← eM3, ← eM2]; exact il_up_keep hxb (il_up_keep hxa he)) ⟨_, u2, fun j hj => pk_cpy_out (Or.inl hj)⟩⟩) (Nat.le_of_ble_eq_true rfl) (Nat.le_of_ble_eq_true rfl) dX4_addAll_45
  unfold il_cat
  by_cases z : j < n
  · rw [if_pos z, pk_cpy_out (Or.inl z)]; exact u5 j z
  · rw [if_neg z, pk_cpy_in (by omega) hj]; exact rg _ (by omega)
set_option maxHeartbeats 4000000 in
set_option maxRecDepth 100000 in
/-- Builder.build() -/
theorem met_bbuild {l : Launch} {G : il_G} {M : il_M} {b a n : Nat} {g : Nat → Int64} (hbld : il_bld G M b a n g) : il_Cr l G yX4_build cX4_build 1 (.object RX2) 3 2 4 [.ref b] M (fun r M' => ∃ a', M r = none ∧ il_ext M M' ∧ il_row G M' r a' 0 n g ∧ (a' = a ∨ M a' = none)) := by
  refine il_enter (by decide) (Nat.le_of_ble_eq_true rfl) ?_
  intro p e s m below meth cd hF hw ls hl
  obtain ⟨hx, hb, hr, hlk, hml, hown, hin, hts, hB⟩ := id hF
  have hl : lv_has ls 1 [(0, .ref b)] := hl
  have hown : s.vm.findClass RX4 = some m.cls := hown
  have hbld0 := hbld
  obtain ⟨N, f, hbb, ha, hle, hN, hg⟩ := hbld0
  refine lv_aload_n hx hb dX4_build_0 rfl (lv_at hl 0 rfl) ?_
  refine il_get (C := RX4) (T := TX4) (N := 2) hx hb hts in_X4 hown hB hw hbb rfl 1 (by decide) (hts _ q110) (fun _ h9 => h9) rfl dX4_build_1 ?_
  refine lv_if_ne (tgt := 20) hx hb dX4_build_4 (by decide) (fun c => ?_) (fun c => ?_)
  · have c : ¬ (n = 0) := fun z => c ((nI_eq (a := n) (b := 0) (by omega) (by omega)).mpr z)
    refine il_newO (ci := 1) (fs := [.null, .int 0, .int 0]) (C := RX2) (T := TX2) (N := 3) hx hb hts in_X2 tyX2 tyX2_ok hown (hts _ q223) (hts _ q123) (hts _ q5) hB hw rfl (fun j hj => by rcases (show j = 0 ∨ j = 1 ∨ j = 2 by omega) with rfl | rfl | rfl <;> rfl) (Nat.le_of_ble_eq_true rfl) (Nat.le_of_ble_eq_true rfl) dX4_build_20 (fun q1 H locs hn_q1 hw => ?_)
    have hw : il_W G s (il_up M q1 (.inr (1, [.null, .int 0, .int 0]))) H locs := hw
    have hbb := il_up_keep (a := q1) (e := (.inr (1, [.null, .int 0, .int 0]))) (il_new hn_q1 hbb) hbb
    have ha := il_up_keep (a := q1) (e := (.inr (1, [.null, .int 0, .int 0]))) (il_new hn_q1 ha) ha
    have h1 : il_up M q1 (.inr (1, [.null, .int 0, .int 0])) q1 = some (.inr (1, [.null, .int 0, .int 0])) := il_up_eq _ _ _
    generalize eM1 : il_up M q1 (.inr (1, [.null, .int 0, .int 0])) = M1 at hw hbb ha h1
    refine lv_dup hx hb dX4_build_23 rfl ?_
    refine lv_aload_n hx hb dX4_build_24 rfl (lv_at hl 0 rfl) ?_
    refine il_get (C := RX4) (T := TX4) (N := 2) hx hb hts in_X4 hown hB hw hbb rfl 0 (by decide) (hts _ q109) (fun _ h9 => h9) rfl dX4_build_25 ?_
    refine lv_iconst (v := 0) hx hb dX4_build_28 (by decide) ?_
    refine lv_aload_n hx hb dX4_build_29 rfl (lv_at hl 0 rfl) ?_
    refine il_get (C := RX4) (T := TX4) (N := 2) hx hb hts in_X4 hown hB hw hbb rfl 1 (by decide) (hts _ q110) (fun _ h9 => h9) rfl dX4_build_30 ?_
    refine il_rv hw (il_rIN (n := 3) (h := q1) (As := [.ref a, .int 0, .int (nI n)]) (rest := [.ref q1]) ⟨hx, hb, hml, hown, hts⟩ (met_init2 h1) (lw_meth q129) (hts _ q5) hB.1.m64 (hts _ q128) rfl (by decide +kernel) ⟨Nat.le_of_ble_eq_true rfl, Nat.le_of_ble_eq_true rfl⟩ hB hw rfl hl.1 rfl (Nat.le_of_ble_eq_true rfl) dX4_build_33 ⟨(Nat.le_of_ble_eq_true rfl), (Nat.le_of_ble_eq_true rfl)⟩) (fun M_ H locs hp hw => ?_)
    exact il_aret (r := q1) hx hb hr (Or.inl ⟨_, rfl⟩) hlk hw (⟨a, hn_q1, by rw [hp, ← eM1]; exact (il_ext.rf.set hn_q1).set hn_q1, ⟨N, f, by rw [hp, Nat.zero_add]; exact il_up_eq _ _ _, by rw [hp]; exact il_up_keep (il_ne ha h1 (by simp)) ha, by omega, by omega, fun j hj => by rw [Nat.zero_add]; exact hg j hj⟩, Or.inl rfl⟩) (Nat.le_of_ble_eq_true rfl) (Nat.le_of_ble_eq_true rfl) dX4_build_36
  · have c : n = 0 := (nI_eq (a := n) (b := 0) (by omega) (by omega)).mp c
    refine il_newO (ci := 1) (fs := [.null, .int 0, .int 0]) (C := RX2) (T := TX2) (N := 3) hx hb hts in_X2 tyX2 tyX2_ok hown (hts _ q223) (hts _ q123) (hts _ q5) hB hw rfl (fun j hj => by rcases (show j = 0 ∨ j = 1 ∨ j = 2 by omega) with rfl | rfl | rfl <;> rfl) (Nat.le_of_ble_eq_true rfl) (Nat.le_of_ble_eq_true rfl) dX4_build_7 (fun q1 H locs hn_q1 hw => ?_)
    have hw : il_W G s (il_up M q1 (.inr (1, [.null, .int 0, .int 0]))) H locs := hw
    have hbb := il_up_keep (a := q1) (e := (.inr (1, [.null, .int 0, .int 0]))) (il_new hn_q1 hbb) hbb
    have ha := il_up_keep (a := q1) (e := (.inr (1, [.null, .int 0, .int 0]))) (il_new hn_q1 ha) ha
    have h1 : il_up M q1 (.inr (1, [.null, .int 0, .int 0])) q1 = some (.inr (1, [.null, .int 0, .int 0])) := il_up_eq _ _ _
    generalize eM1 : il_up M q1 (.inr (1, [.null, .int 0, .int 0])) = M1 at hw hbb ha h1
    refine lv_dup hx hb dX4_build_10 rfl ?_
    refine lv_iconst (v := 0) hx hb dX4_build_11 (by decide) ?_
    refine il_newJ (n := 0) hx hb hts hB hw (by omega) rfl (Nat.le_of_ble_eq_true rfl) (Nat.le_of_ble_eq_true rfl) dX4_build_12 (fun q2 H locs hn_q2 hw => ?_)
    have hw : il_W G s (il_up M1 q2 (il_eJ G 0 (fun _ => 0))) H locs := hw
    have hbb := il_up_keep (a := q2) (e := (il_eJ G 0 (fun _ => 0))) (il_new hn_q2 hbb) hbb
    have ha := il_up_keep (a := q2) (e := (il_eJ G 0 (fun _ => 0))) (il_new hn_q2 ha) ha
    have h1 := il_up_keep (a := q2) (e := (il_eJ G 0 (fun _ => 0))) (il_new hn_q2 h1) h1
    have h2 : il_up M1 q2 (il_eJ G 0 (fun _ => 0)) q2 = some (il_eJ G 0 (fun _ => 0)) := il_up_eq _ _ _
    generalize eM2 : il_up M1 q2 (il_eJ G 0 (fun _ => 0)) = M2 at hw hbb ha h1 h2
    refine il_rv hw (il_rIN (n := 1) (h := q1) (As := [.ref q2]) (rest := [.ref q1]) ⟨hx, hb, hml, hown, hts⟩ (met_init1 h1 h2) (lw_meth q126) (hts _ q5) hB.1.m61 (hts _ q125) rfl (by decide +kernel) ⟨Nat.le_of_ble_eq_true rfl, Nat.le_of_ble_eq_true rfl⟩ hB hw rfl hl.1 rfl (Nat.le_of_ble_eq_true rfl) dX4_build_14 ⟨(Nat.le_of_ble_eq_true rfl), (Nat.le_of_ble_eq_true rfl)⟩) (fun M_ H locs hp hw => ?_)
    refine lv_goto (tgt := 36) hx hb dX4_build_17 (by decide) ?_
    have hn2 := il_up_none (eM1 ▸ hn_q2 : il_up M q1 _ q2 = none)
    exact il_aret (r := q1) hx hb hr (Or.inl ⟨_, rfl⟩) hlk hw (⟨q2, hn_q1, by rw [hp, ← eM2, ← eM1]; exact (((il_ext.rf.set hn_q1).set hn2.1).set hn_q1), ⟨0, _, by rw [hp, c]; exact il_up_eq _ _ _, by rw [hp]; exact il_up_keep hn2.2 h2, by omega, by omega, fun x hx => absurd hx (by omega)⟩, Or.inr hn2.1⟩) (Nat.le_of_ble_eq_true rfl) (Nat.le_of_ble_eq_true rfl) dX4_build_36
end
section
/-! THE DESK's world: the builder, its number made, the four rows; P: cells that are not the desk's -/
set_option maxRecDepth 100000
def il_rows (G : il_G) (P : Nat → Prop) (M : il_M) (ro : Nat → Option Nat) (ba made : Nat) (n : Nat → Nat) (g : Nat → Nat → Int64) : Prop := ∀ k, k < 4 → ∃ h ra st, ro k = some h ∧ il_row G M h ra st (n k) (g k) ∧ n k ≤ 96 ∧ ¬ P h ∧ ¬ P ra ∧ (ra = ba → st + n k ≤ made)
def il_dc (G : il_G) (P : Nat → Prop) (M : il_M) (d made : Nat) (mg : Nat → Int64) (n : Nat → Nat) (g : Nat → Nat → Int64) (mk ba rs : Nat) (ro : Nat → Option Nat) : Prop := M d = some (il_eD mk (nI made) rs) ∧ il_bld G M mk ba made mg ∧ M rs = some (il_eI G 4 ro) ∧ made ≤ 96 ∧ (¬ P d ∧ ¬ P mk ∧ ¬ P ba ∧ ¬ P rs) ∧ (∀ q, P q → ∃ e, M q = some e) ∧ il_rows G P M ro ba made n g
def il_desk (G : il_G) (P : Nat → Prop) (M : il_M) (d made : Nat) (mg : Nat → Int64) (n : Nat → Nat) (g : Nat → Nat → Int64) : Prop := ∃ mk ba rs ro, il_dc G P M d made mg n g mk ba rs ro
/-- P's cells stay -/
def il_fr (P : Nat → Prop) (M M' : il_M) : Prop := ∀ (q : Nat) (e : va_E), P q → M q = some e → M' q = some e
theorem il_ext.fr {P : Nat → Prop} {M M' : il_M} (h : il_ext M M') : il_fr P M M' := fun q e _ z => h q e z
theorem il_fr.trans {P : Nat → Prop} {M M1 M2 : il_M} (h : il_fr P M M1) (h' : il_fr P M1 M2) : il_fr P M M2 := fun q e hp z => h' q e hp (h q e hp z)
theorem il_row.up {G : il_G} {M : il_M} {h a st n x : Nat} {g : Nat → Int64} {e : va_E} (hr : il_row G M h a st n g) (h1 : h ≠ x) (h2 : a ≠ x) : il_row G (il_up M x e) h a st n g := by
  obtain ⟨N, f, p1, p2, p3⟩ := hr
  exact ⟨N, f, il_up_keep h1 p1, il_up_keep h2 p2, p3⟩
theorem il_rows.ext {G : il_G} {P : Nat → Prop} {M M' : il_M} {ro : Nat → Option Nat} {ba made : Nat} {n : Nat → Nat} {g : Nat → Nat → Int64} (h : il_rows G P M ro ba made n g) (hx : il_ext M M') : il_rows G P M' ro ba made n g := fun k hk => by
  obtain ⟨h0, ra, st, p1, p2, p3⟩ := h k hk
  exact ⟨h0, ra, st, p1, p2.ext hx, p3⟩
theorem il_dc.ext {G : il_G} {P : Nat → Prop} {M M' : il_M} {d made : Nat} {mg : Nat → Int64} {n : Nat → Nat} {g : Nat → Nat → Int64} {mk ba rs : Nat} {ro : Nat → Option Nat} (h : il_dc G P M d made mg n g mk ba rs ro) (hx : il_ext M M') : il_dc G P M' d made mg n g mk ba rs ro := by
  obtain ⟨p1, p2, p3, p4, p5, p6, p7⟩ := h
  exact ⟨hx _ _ p1, p2.ext hx, hx _ _ p3, p4, p5, fun q hq => by obtain ⟨e, he⟩ := p6 q hq; exact ⟨e, hx _ _ he⟩, p7.ext hx⟩
theorem il_desk.ext {G : il_G} {P : Nat → Prop} {M M' : il_M} {d made : Nat} {mg : Nat → Int64} {n : Nat → Nat} {g : Nat → Nat → Int64} (h : il_desk G P M d made mg n g) (hx : il_ext M M') : il_desk G P M' d made mg n g := by
  obtain ⟨mk, ba, rs, ro, h⟩ := h
  exact ⟨mk, ba, rs, ro, h.ext hx⟩
/-- numbers come to the builder -/
theorem il_dc.add {G : il_G} {P : Nat → Prop} {M M2 : il_M} {d made made' a' : Nat} {mg mg' : Nat → Int64} {n : Nat → Nat} {g : Nat → Nat → Int64} {mk ba rs : Nat} {ro : Nat → Option Nat} (h : il_dc G P M d made mg n g mk ba rs ro) (hb' : il_bld G M2 mk a' made' mg') (hs : il_step G (il_up M d (il_eD mk (nI made') rs)) M2 mk ba made) (ha' : a' = ba ∨ il_up M d (il_eD mk (nI made') rs) a' = none) (h1 : made ≤ made') (h2 : made' ≤ 96) : il_dc G P M2 d made' mg' n g mk a' rs ro ∧ il_fr P M M2 := by
  obtain ⟨p1, p2, p3, p4, ⟨p5, p6, p7, p8⟩, p9, p10⟩ := h
  have p2' := p2
  obtain ⟨NB, fb, b1, b2, b3⟩ := p2'
  have n1 : mk ≠ d := il_ne b1 p1 (by simp)
  have n2 : ba ≠ d := il_ne b2 p1 (by simp)
  have n3 : rs ≠ d := il_ne p3 p1 (by simp)
  have n4 : rs ≠ mk := il_ne p3 b1 (by simp)
  have n5 : rs ≠ ba ∨ True := Or.inr trivial
  have hb1 : il_bld G (il_up M d (il_eD mk (nI made') rs)) mk ba made mg := ⟨NB, fb, il_up_keep n1 b1, il_up_keep n2 b2, b3⟩
  have hfr : il_fr P M M2 := fun q e hq he => hs.1 q e (il_up_keep (fun z => p5 (z ▸ hq)) he) (fun z => p6 (z ▸ hq)) (fun z => p7 (z ▸ hq))
  refine ⟨⟨hs.1 _ _ (il_up_eq _ _ _) (Ne.symm n1) (Ne.symm n2), hb', ?_, h2, ⟨p5, p6, ?_, p8⟩, fun q hq => ?_, fun k hk => ?_⟩, hfr⟩
  · by_cases z : rs = ba
    · exfalso
      rw [z] at p3
      have := p3.symm.trans b2
      simp at this
    · exact hs.1 _ _ (il_up_keep n3 p3) n4 z
  · rcases ha' with rfl | z
    · exact p7
    · intro hp
      obtain ⟨e, he⟩ := p9 _ hp
      rw [(il_up_none z).1] at he
      cases he
  · obtain ⟨e, he⟩ := p9 q hq
    exact ⟨e, hfr q e hq he⟩
  · obtain ⟨h0, ra, st, r1, r2, r3, r4, r5, r6⟩ := p10 k hk
    obtain ⟨N, f, x1, x2, -⟩ := id r2
    have y1 : h0 ≠ d := il_ne x1 p1 (by simp)
    have y2 : ra ≠ d := il_ne x2 p1 (by simp)
    have r2' := r2.up (x := d) (e := il_eD mk (nI made') rs) y1 y2
    refine ⟨h0, ra, st, r1, hs.row hb1 r2' r6, r3, r4, r5, fun z => ?_⟩
    rcases ha' with rfl | w
    · exact Nat.le_trans (r6 z) h1
    · subst z
      rw [(il_up_none w).1] at x2
      cases x2
/-- a row is laid into its place -/
theorem il_dc.setrow {G : il_G} {P : Nat → Prop} {M M1 : il_M} {d made : Nat} {mg : Nat → Int64} {n : Nat → Nat} {g : Nat → Nat → Int64} {mk ba rs : Nat} {ro : Nat → Option Nat} (h : il_dc G P M d made mg n g mk ba rs ro) {r a' st' n' K : Nat} {g' : Nat → Int64} (hx : il_ext M M1) (hr : il_row G M1 r a' st' n' g') (hn : n' ≤ 96) (pr : ¬ P r) (pa : ¬ P a') (hsh : a' = ba → st' + n' ≤ made) : il_dc G P (il_up M1 rs (il_eI G 4 (va_up ro K (some r)))) d made mg (il_set n K n') (il_set g K g') mk ba rs (va_up ro K (some r)) ∧ il_fr P M (il_up M1 rs (il_eI G 4 (va_up ro K (some r)))) := by
  have h1 := h.ext hx
  obtain ⟨p1, p2, p3, p4, ⟨p5, p6, p7, p8⟩, p9, p10⟩ := h1
  obtain ⟨NB, fb, b1, b2, b3⟩ := p2
  have hfr : il_fr P M (il_up M1 rs (il_eI G 4 (va_up ro K (some r)))) := fun q e hq he => il_up_keep (fun z => p8 (z ▸ hq)) (hx _ _ he)
  refine ⟨⟨il_up_keep (il_ne p1 p3 (by simp)) p1, ⟨NB, fb, il_up_keep (il_ne b1 p3 (by simp)) b1, il_up_keep (il_ne b2 p3 (by simp)) b2, b3⟩, il_up_eq _ _ _, p4, ⟨p5, p6, p7, p8⟩, fun q hq => ?_, fun k hk => ?_⟩, hfr⟩
  · obtain ⟨e, he⟩ := p9 q hq
    exact ⟨e, il_up_keep (fun z => p8 (z ▸ hq)) he⟩
  · by_cases z : k = K
    · subst z
      obtain ⟨N, f, x1, x2, -⟩ := id hr
      rw [il_set_eq, il_set_eq]
      exact ⟨r, a', st', va_up_self _ _ _, hr.up (il_ne x1 p3 (by simp)) (il_ne x2 p3 (by simp)), hn, pr, pa, hsh⟩
    · obtain ⟨h0, ra, st, r1, r2, r3⟩ := p10 k hk
      obtain ⟨N, f, x1, x2, -⟩ := id r2
      rw [il_set_ne z, il_set_ne z]
      exact ⟨h0, ra, st, by rw [va_up_ne _ _ z]; exact r1, r2.up (il_ne x1 p3 (by simp)) (il_ne x2 p3 (by simp)), r3⟩
/-- a new builder -/
theorem il_dc.anew {G : il_G} {P : Nat → Prop} {M M1 : il_M} {d made : Nat} {mg mg' : Nat → Int64} {n : Nat → Nat} {g : Nat → Nat → Int64} {mk ba rs : Nat} {ro : Nat → Option Nat} (h : il_dc G P M d made mg n g mk ba rs ro) {mk' ba' : Nat} (hx : il_ext M M1) (hb : il_bld G M1 mk' ba' 0 mg') (hm : M mk' = none) (hba : M ba' = none) : il_dc G P (il_up M1 d (il_eD mk' (nI 0) rs)) d 0 mg' n g mk' ba' rs ro ∧ il_fr P M (il_up M1 d (il_eD mk' (nI 0) rs)) := by
  obtain ⟨-, -, -, -, -, o6, o7⟩ := id h
  obtain ⟨p1, p2, p3, p4, ⟨p5, p6, p7, p8⟩, p9, p10⟩ := h.ext hx
  obtain ⟨NB, fb, b1, b2, b3⟩ := hb
  have fresh : ∀ {q : Nat}, M q = none → ¬ P q := fun hq hp => by
    obtain ⟨e, he⟩ := o6 _ hp
    rw [hq] at he
    cases he
  have hfr : il_fr P M (il_up M1 d (il_eD mk' (nI 0) rs)) := fun q e hq he => il_up_keep (fun z => p5 (z ▸ hq)) (hx _ _ he)
  refine ⟨⟨il_up_eq _ _ _, ⟨NB, fb, il_up_keep (il_ne b1 p1 (by simp)) b1, il_up_keep (il_ne b2 p1 (by simp)) b2, b3⟩, il_up_keep (il_ne p3 p1 (by simp)) p3, by omega, ⟨p5, fresh hm, fresh hba, p8⟩, fun q hq => ?_, fun k hk => ?_⟩, hfr⟩
  · obtain ⟨e, he⟩ := p9 q hq
    exact ⟨e, il_up_keep (fun z => p5 (z ▸ hq)) he⟩
  · obtain ⟨h0, ra, st, r1, r2, r3, r4, r5, -⟩ := p10 k hk
    obtain ⟨h0', ra', st', q1, q2, -⟩ := o7 k hk
    obtain ⟨N, f, x1, x2, -⟩ := id r2
    have e0 : h0' = h0 := Option.some.inj (q1.symm.trans r1)
    refine ⟨h0, ra, st, r1, r2.up (il_ne x1 p1 (by simp)) (il_ne x2 p1 (by simp)), r3, r4, r5, fun z => ?_⟩
    exfalso
    obtain ⟨N', f', y1, y2, -⟩ := q2
    subst e0
    have e1 := (hx _ _ y1).symm.trans x1
    simp only [il_eR, Option.some.injEq, Sum.inr.injEq, Prod.mk.injEq, List.cons.injEq, Value.ref.injEq, true_and] at e1
    rw [e1.1, z, hba] at y2
    cases y2
theorem il_desk.fresh {G : il_G} {P : Nat → Prop} {M : il_M} {d made : Nat} {mg : Nat → Int64} {n : Nat → Nat} {g : Nat → Nat → Int64} {mk ba rs : Nat} {ro : Nat → Option Nat} (h : il_dc G P M d made mg n g mk ba rs ro) {q : Nat} (hq : M q = none) : ¬ P q := fun hp => by
  obtain ⟨-, -, -, -, -, o6, -⟩ := h
  obtain ⟨e, he⟩ := o6 _ hp
  rw [hq] at he
  cases he
theorem il_set_self {α : Type} (f : Nat → α) (k : Nat) : il_set f k (f k) = f := by
  funext j
  by_cases z : j = k
  · subst z; exact il_set_eq
  · exact il_set_ne z
end
section
/-! CONTRACTS: FixedRowDesk (printed by wip/D-17801w/gen/m24.py) -/
set_option maxRecDepth 100000
set_option maxHeartbeats 4000000 in
set_option maxRecDepth 100000 in
/-- FixedRowDesk.of(high, low) -/
theorem met_dof {l : Launch} {G : il_G} {M : il_M} {hi lo : Int32} : il_Cl l G yX1_of cX1_of 2 0 0 0 [.int hi, .int lo] M (fun r M' => r = il_of hi lo ∧ M' = M) := by
  refine il_enter (by decide) (Nat.le_of_ble_eq_true rfl) ?_
  intro p e s m below meth cd hF hw ls hl
  obtain ⟨hx, hb, hr, hlk, hml, hown, hin, hts, hB⟩ := id hF
  have hl : lv_has ls 2 [(0, .int hi), (1, .int lo)] := hl
  have hown : s.vm.findClass RX1 = some m.cls := hown
  refine lv_iload_n hx hb dX1_of_0 rfl (lv_at hl 0 rfl) ?_
  refine lv_i2l hx hb dX1_of_1 rfl ?_
  refine lv_bipush (v := 32) hx hb dX1_of_2 (by decide) ?_
  refine lv_lshl (v := ((hi : Int32).toInt64) <<< ((32 : Int32).toInt64 &&& 63)) hx hb dX1_of_4 rfl ?_
  refine lv_iload_n hx hb dX1_of_5 rfl (lv_at hl 1 rfl) ?_
  refine lv_i2l hx hb dX1_of_6 rfl ?_
  refine lv_ldc2 hx hb hown (hts _ q284) dX1_of_7 ?_
  refine lv_land hx hb dX1_of_10 ?_
  refine lv_lor hx hb dX1_of_11 ?_
  exact il_lret (v := ((((hi : Int32).toInt64) <<< ((32 : Int32).toInt64 &&& 63)) ||| (((lo : Int32).toInt64) &&& 4294967295))) hx hb hr hlk hw (⟨il_of_desk hi lo, rfl⟩) (Nat.le_of_ble_eq_true rfl) (Nat.le_of_ble_eq_true rfl) dX1_of_12
set_option maxHeartbeats 4000000 in
set_option maxRecDepth 100000 in
/-- FixedRowDesk.length(k) -/
theorem met_dlength {l : Launch} {G : il_G} {M : il_M} {P : Nat → Prop} {d made : Nat} {mg : Nat → Int64} {n : Nat → Nat} {g : Nat → Nat → Int64} (hdesk : il_desk G P M d made mg n g) {k : Int32} : il_Ci l G yX1_length cX1_length 2 (.int) 1 0 0 [.ref d, .int k] M (fun r M' => r = nI (n (il_k k)) ∧ M' = M) := by
  refine il_enter (by decide) (Nat.le_of_ble_eq_true rfl) ?_
  intro p e s m below meth cd hF hw ls hl
  obtain ⟨hx, hb, hr, hlk, hml, hown, hin, hts, hB⟩ := id hF
  have hl : lv_has ls 2 [(0, .ref d), (1, .int k)] := hl
  have hown : s.vm.findClass RX1 = some m.cls := hown
  obtain ⟨mk, ba, rs, ro, hdc⟩ := hdesk
  obtain ⟨hd, hbl, hrs, hmd, ⟨p1, p2, p3, p4⟩, hPM, hrows⟩ := id hdc
  obtain ⟨NB, fb, hmk, hba, hleB, hNB, hgB⟩ := id hbl
  obtain ⟨h, ra, st, ho, hrow, hn, p5, p6, hsh⟩ := hrows (il_k k) (il_k_lt k)
  obtain ⟨N, f, hh, ha, hle, hN, hg⟩ := id hrow
  refine lv_aload_n hx hb dX1_length_0 rfl (lv_at hl 0 rfl) ?_
  refine il_get (C := RX1) (T := TX1) (N := 3) hx hb hts in_X1 hown hB hw hd rfl 2 (by decide) (hts _ q145) (fun _ h9 => h9) rfl dX1_length_1 ?_
  refine lv_iload_n hx hb dX1_length_4 rfl (lv_at hl 1 rfl) ?_
  refine lv_iconst (v := 3) hx hb dX1_length_5 (by decide) ?_
  refine lv_iand hx hb dX1_length_6 ?_
  refine il_ti (nI (il_k k)) (il_k_and k) ?_
  refine il_rald (i := (il_k k)) hx hb hB hw hrs (il_k_lt k) (by omega) rfl ho dX1_length_7 ?_
  refine il_ri hw (il_rV (n := 0) (h := h) (As := []) (rest := []) ⟨hx, hb, hml, hown, hts⟩ (met_length hh) (lw_V q157 q158 q159 q5 q160) (by decide +kernel) ⟨Nat.le_of_ble_eq_true rfl, Nat.le_of_ble_eq_true rfl⟩ hB hw hh rfl rfl hl.1 rfl (Nat.le_of_ble_eq_true rfl) dX1_length_8 ⟨(Nat.le_of_ble_eq_true rfl), (Nat.le_of_ble_eq_true rfl)⟩) (fun r M_ H locs hp hw => ?_)
  exact il_iret (v := r) hx hb hr hlk rfl hw hp (Nat.le_of_ble_eq_true rfl) (Nat.le_of_ble_eq_true rfl) dX1_length_11
set_option maxHeartbeats 4000000 in
set_option maxRecDepth 100000 in
/-- FixedRowDesk.X1_first -/
theorem met_dfirst {l : Launch} {G : il_G} {M : il_M} {P : Nat → Prop} {d made : Nat} {mg : Nat → Int64} {n : Nat → Nat} {g : Nat → Nat → Int64} (hdesk : il_desk G P M d made mg n g) {k hi lo : Int32} : il_Ci l G yX1_first cX1_first 4 (.int) 1 0 0 [.ref d, .int k, .int hi, .int lo] M (fun r M' => il_fst (n (il_k k)) (g (il_k k)) (il_of hi lo) r ∧ M' = M) := by
  refine il_enter (by decide) (Nat.le_of_ble_eq_true rfl) ?_
  intro p e s m below meth cd hF hw ls hl
  obtain ⟨hx, hb, hr, hlk, hml, hown, hin, hts, hB⟩ := id hF
  have hl : lv_has ls 4 [(0, .ref d), (1, .int k), (2, .int hi), (3, .int lo)] := hl
  have hown : s.vm.findClass RX1 = some m.cls := hown
  obtain ⟨mk, ba, rs, ro, hdc⟩ := hdesk
  obtain ⟨hd, hbl, hrs, hmd, ⟨p1, p2, p3, p4⟩, hPM, hrows⟩ := id hdc
  obtain ⟨NB, fb, hmk, hba, hleB, hNB, hgB⟩ := id hbl
  obtain ⟨h, ra, st, ho, hrow, hn, p5, p6, hsh⟩ := hrows (il_k k) (il_k_lt k)
  obtain ⟨N, f, hh, ha, hle, hN, hg⟩ := id hrow
  refine lv_aload_n hx hb dX1_first_0 rfl (lv_at hl 0 rfl) ?_
  refine il_get (C := RX1) (T := TX1) (N := 3) hx hb hts in_X1 hown hB hw hd rfl 2 (by decide) (hts _ q145) (fun _ h9 => h9) rfl dX1_first_1 ?_
  refine lv_iload_n hx hb dX1_first_4 rfl (lv_at hl 1 rfl) ?_
  refine lv_iconst (v := 3) hx hb dX1_first_5 (by decide) ?_
  refine lv_iand hx hb dX1_first_6 ?_
  refine il_ti (nI (il_k k)) (il_k_and k) ?_
  refine il_rald (i := (il_k k)) hx hb hB hw hrs (il_k_lt k) (by omega) rfl ho dX1_first_7 ?_
  refine lv_iload_n hx hb dX1_first_8 rfl (lv_at hl 2 rfl) ?_
  refine lv_iload_n hx hb dX1_first_9 rfl (lv_at hl 3 rfl) ?_
  refine il_rl hw (il_rS (n := 2) (As := [.int hi, .int lo]) (rest := [.ref h]) ⟨hx, hb, hml, hown, hts⟩ met_dof (lw_S q281 q282 q4 q283) (by decide +kernel) ⟨Nat.le_of_ble_eq_true rfl, Nat.le_of_ble_eq_true rfl⟩ hB hw rfl hl.1 rfl (Nat.le_of_ble_eq_true rfl) dX1_first_10 ⟨(Nat.le_of_ble_eq_true rfl), (Nat.le_of_ble_eq_true rfl)⟩) (fun r M_ H locs hp hw => ?_)
  obtain ⟨rfl, eM_⟩ := hp
  rw [eM_] at hw
  refine il_ri hw (il_rV (n := 1) (h := h) (As := [.long (il_of hi lo)]) (rest := []) ⟨hx, hb, hml, hown, hts⟩ (met_indexOf hrow) (lw_V q285 q286 q287 q5 q288) (by decide +kernel) ⟨Nat.le_of_ble_eq_true rfl, Nat.le_of_ble_eq_true rfl⟩ hB hw hh rfl rfl hl.1 rfl (Nat.le_of_ble_eq_true rfl) dX1_first_13 ⟨(Nat.le_of_ble_eq_true rfl), (Nat.le_of_ble_eq_true rfl)⟩) (fun r M_ H locs hp hw => ?_)
  exact il_iret (v := r) hx hb hr hlk rfl hw hp (Nat.le_of_ble_eq_true rfl) (Nat.le_of_ble_eq_true rfl) dX1_first_16
set_option maxHeartbeats 4000000 in
set_option maxRecDepth 100000 in
/-- FixedRowDesk.X1_last -/
theorem met_dlast {l : Launch} {G : il_G} {M : il_M} {P : Nat → Prop} {d made : Nat} {mg : Nat → Int64} {n : Nat → Nat} {g : Nat → Nat → Int64} (hdesk : il_desk G P M d made mg n g) {k hi lo : Int32} : il_Ci l G yX1_last cX1_last 4 (.int) 1 0 0 [.ref d, .int k, .int hi, .int lo] M (fun r M' => il_lst (n (il_k k)) (g (il_k k)) (il_of hi lo) r ∧ M' = M) := by
  refine il_enter (by decide) (Nat.le_of_ble_eq_true rfl) ?_
  intro p e s m below meth cd hF hw ls hl
  obtain ⟨hx, hb, hr, hlk, hml, hown, hin, hts, hB⟩ := id hF
  have hl : lv_has ls 4 [(0, .ref d), (1, .int k), (2, .int hi), (3, .int lo)] := hl
  have hown : s.vm.findClass RX1 = some m.cls := hown
  obtain ⟨mk, ba, rs, ro, hdc⟩ := hdesk
  obtain ⟨hd, hbl, hrs, hmd, ⟨p1, p2, p3, p4⟩, hPM, hrows⟩ := id hdc
  obtain ⟨NB, fb, hmk, hba, hleB, hNB, hgB⟩ := id hbl
  obtain ⟨h, ra, st, ho, hrow, hn, p5, p6, hsh⟩ := hrows (il_k k) (il_k_lt k)
  obtain ⟨N, f, hh, ha, hle, hN, hg⟩ := id hrow
  refine lv_aload_n hx hb dX1_last_0 rfl (lv_at hl 0 rfl) ?_
  refine il_get (C := RX1) (T := TX1) (N := 3) hx hb hts in_X1 hown hB hw hd rfl 2 (by decide) (hts _ q145) (fun _ h9 => h9) rfl dX1_last_1 ?_
  refine lv_iload_n hx hb dX1_last_4 rfl (lv_at hl 1 rfl) ?_
  refine lv_iconst (v := 3) hx hb dX1_last_5 (by decide) ?_
  refine lv_iand hx hb dX1_last_6 ?_
  refine il_ti (nI (il_k k)) (il_k_and k) ?_
  refine il_rald (i := (il_k k)) hx hb hB hw hrs (il_k_lt k) (by omega) rfl ho dX1_last_7 ?_
  refine lv_iload_n hx hb dX1_last_8 rfl (lv_at hl 2 rfl) ?_
  refine lv_iload_n hx hb dX1_last_9 rfl (lv_at hl 3 rfl) ?_
  refine il_rl hw (il_rS (n := 2) (As := [.int hi, .int lo]) (rest := [.ref h]) ⟨hx, hb, hml, hown, hts⟩ met_dof (lw_S q281 q282 q4 q283) (by decide +kernel) ⟨Nat.le_of_ble_eq_true rfl, Nat.le_of_ble_eq_true rfl⟩ hB hw rfl hl.1 rfl (Nat.le_of_ble_eq_true rfl) dX1_last_10 ⟨(Nat.le_of_ble_eq_true rfl), (Nat.le_of_ble_eq_true rfl)⟩) (fun r M_ H locs hp hw => ?_)
  obtain ⟨rfl, eM_⟩ := hp
  rw [eM_] at hw
  refine il_ri hw (il_rV (n := 1) (h := h) (As := [.long (il_of hi lo)]) (rest := []) ⟨hx, hb, hml, hown, hts⟩ (met_lastIndexOf hrow) (lw_V q293 q294 q295 q5 q296) (by decide +kernel) ⟨Nat.le_of_ble_eq_true rfl, Nat.le_of_ble_eq_true rfl⟩ hB hw hh rfl rfl hl.1 rfl (Nat.le_of_ble_eq_true rfl) dX1_last_13 ⟨(Nat.le_of_ble_eq_true rfl), (Nat.le_of_ble_eq_true rfl)⟩) (fun r M_ H locs hp hw => ?_)
  exact il_iret (v := r) hx hb hr hlk rfl hw hp (Nat.le_of_ble_eq_true rfl) (Nat.le_of_ble_eq_true rfl) dX1_last_16
set_option maxHeartbeats 4000000 in
set_option maxRecDepth 100000 in
/-- FixedRowDesk.X1_holds -/
theorem met_dholds {l : Launch} {G : il_G} {M : il_M} {P : Nat → Prop} {d made : Nat} {mg : Nat → Int64} {n : Nat → Nat} {g : Nat → Nat → Int64} (hdesk : il_desk G P M d made mg n g) {k hi lo : Int32} : il_Ci l G yX1_holds cX1_holds 4 (.boolean) 2 0 0 [.ref d, .int k, .int hi, .int lo] M (fun r M' => (∃ i, il_fst (n (il_k k)) (g (il_k k)) (il_of hi lo) i ∧ ((i < 0 ∧ r = 0) ∨ (¬ i < 0 ∧ r = 1))) ∧ M' = M) := by
  refine il_enter (by decide) (Nat.le_of_ble_eq_true rfl) ?_
  intro p e s m below meth cd hF hw ls hl
  obtain ⟨hx, hb, hr, hlk, hml, hown, hin, hts, hB⟩ := id hF
  have hl : lv_has ls 4 [(0, .ref d), (1, .int k), (2, .int hi), (3, .int lo)] := hl
  have hown : s.vm.findClass RX1 = some m.cls := hown
  obtain ⟨mk, ba, rs, ro, hdc⟩ := hdesk
  obtain ⟨hd, hbl, hrs, hmd, ⟨p1, p2, p3, p4⟩, hPM, hrows⟩ := id hdc
  obtain ⟨NB, fb, hmk, hba, hleB, hNB, hgB⟩ := id hbl
  obtain ⟨h, ra, st, ho, hrow, hn, p5, p6, hsh⟩ := hrows (il_k k) (il_k_lt k)
  obtain ⟨N, f, hh, ha, hle, hN, hg⟩ := id hrow
  refine lv_aload_n hx hb dX1_holds_0 rfl (lv_at hl 0 rfl) ?_
  refine il_get (C := RX1) (T := TX1) (N := 3) hx hb hts in_X1 hown hB hw hd rfl 2 (by decide) (hts _ q145) (fun _ h9 => h9) rfl dX1_holds_1 ?_
  refine lv_iload_n hx hb dX1_holds_4 rfl (lv_at hl 1 rfl) ?_
  refine lv_iconst (v := 3) hx hb dX1_holds_5 (by decide) ?_
  refine lv_iand hx hb dX1_holds_6 ?_
  refine il_ti (nI (il_k k)) (il_k_and k) ?_
  refine il_rald (i := (il_k k)) hx hb hB hw hrs (il_k_lt k) (by omega) rfl ho dX1_holds_7 ?_
  refine lv_iload_n hx hb dX1_holds_8 rfl (lv_at hl 2 rfl) ?_
  refine lv_iload_n hx hb dX1_holds_9 rfl (lv_at hl 3 rfl) ?_
  refine il_rl hw (il_rS (n := 2) (As := [.int hi, .int lo]) (rest := [.ref h]) ⟨hx, hb, hml, hown, hts⟩ met_dof (lw_S q281 q282 q4 q283) (by decide +kernel) ⟨Nat.le_of_ble_eq_true rfl, Nat.le_of_ble_eq_true rfl⟩ hB hw rfl hl.1 rfl (Nat.le_of_ble_eq_true rfl) dX1_holds_10 ⟨(Nat.le_of_ble_eq_true rfl), (Nat.le_of_ble_eq_true rfl)⟩) (fun r M_ H locs hp hw => ?_)
  obtain ⟨rfl, eM_⟩ := hp
  rw [eM_] at hw
  refine il_ri hw (il_rV (n := 1) (h := h) (As := [.long (il_of hi lo)]) (rest := []) ⟨hx, hb, hml, hown, hts⟩ (met_contains hrow) (lw_V q398 q399 q400 q5 q401) (by decide +kernel) ⟨Nat.le_of_ble_eq_true rfl, Nat.le_of_ble_eq_true rfl⟩ hB hw hh rfl rfl hl.1 rfl (Nat.le_of_ble_eq_true rfl) dX1_holds_13 ⟨(Nat.le_of_ble_eq_true rfl), (Nat.le_of_ble_eq_true rfl)⟩) (fun r M_ H locs hp hw => ?_)
  obtain ⟨⟨i, hf, hv⟩, eM_⟩ := hp
  exact il_iret (v := r) hx hb hr hlk (il_nb (hv.elim (fun z => Or.inl z.2) (fun z => Or.inr z.2))) hw (⟨⟨i, hf, hv⟩, eM_⟩) (Nat.le_of_ble_eq_true rfl) (Nat.le_of_ble_eq_true rfl) dX1_holds_16
set_option maxHeartbeats 4000000 in
set_option maxRecDepth 100000 in
/-- FixedRowDesk.hash(k) -/
theorem met_dhash {l : Launch} {G : il_G} {M : il_M} {P : Nat → Prop} {d made : Nat} {mg : Nat → Int64} {n : Nat → Nat} {g : Nat → Nat → Int64} (hdesk : il_desk G P M d made mg n g) {k : Int32} : il_Ci l G yX1_hash cX1_hash 2 (.int) 2 0 0 [.ref d, .int k] M (fun r M' => r = il_hash (g (il_k k)) (n (il_k k)) ∧ M' = M) := by
  refine il_enter (by decide) (Nat.le_of_ble_eq_true rfl) ?_
  intro p e s m below meth cd hF hw ls hl
  obtain ⟨hx, hb, hr, hlk, hml, hown, hin, hts, hB⟩ := id hF
  have hl : lv_has ls 2 [(0, .ref d), (1, .int k)] := hl
  have hown : s.vm.findClass RX1 = some m.cls := hown
  obtain ⟨mk, ba, rs, ro, hdc⟩ := hdesk
  obtain ⟨hd, hbl, hrs, hmd, ⟨p1, p2, p3, p4⟩, hPM, hrows⟩ := id hdc
  obtain ⟨NB, fb, hmk, hba, hleB, hNB, hgB⟩ := id hbl
  obtain ⟨h, ra, st, ho, hrow, hn, p5, p6, hsh⟩ := hrows (il_k k) (il_k_lt k)
  obtain ⟨N, f, hh, ha, hle, hN, hg⟩ := id hrow
  refine lv_aload_n hx hb dX1_hash_0 rfl (lv_at hl 0 rfl) ?_
  refine il_get (C := RX1) (T := TX1) (N := 3) hx hb hts in_X1 hown hB hw hd rfl 2 (by decide) (hts _ q145) (fun _ h9 => h9) rfl dX1_hash_1 ?_
  refine lv_iload_n hx hb dX1_hash_4 rfl (lv_at hl 1 rfl) ?_
  refine lv_iconst (v := 3) hx hb dX1_hash_5 (by decide) ?_
  refine lv_iand hx hb dX1_hash_6 ?_
  refine il_ti (nI (il_k k)) (il_k_and k) ?_
  refine il_rald (i := (il_k k)) hx hb hB hw hrs (il_k_lt k) (by omega) rfl ho dX1_hash_7 ?_
  refine il_ri hw (il_rV (n := 0) (h := h) (As := []) (rest := []) ⟨hx, hb, hml, hown, hts⟩ (met_hashCode hrow) (lw_V q314 q315 q316 q5 q317) (by decide +kernel) ⟨Nat.le_of_ble_eq_true rfl, Nat.le_of_ble_eq_true rfl⟩ hB hw hh rfl rfl hl.1 rfl (Nat.le_of_ble_eq_true rfl) dX1_hash_8 ⟨(Nat.le_of_ble_eq_true rfl), (Nat.le_of_ble_eq_true rfl)⟩) (fun r M_ H locs hp hw => ?_)
  exact il_iret (v := r) hx hb hr hlk rfl hw hp (Nat.le_of_ble_eq_true rfl) (Nat.le_of_ble_eq_true rfl) dX1_hash_11
set_option maxHeartbeats 4000000 in
set_option maxRecDepth 100000 in
/-- FixedRowDesk.same(j, k) -/
theorem met_dsame {l : Launch} {G : il_G} {M : il_M} {P : Nat → Prop} {d made : Nat} {mg : Nat → Int64} {n : Nat → Nat} {g : Nat → Nat → Int64} (hdesk : il_desk G P M d made mg n g) {j k : Int32} : il_Ci l G yX1_same cX1_same 3 (.boolean) 4 0 0 [.ref d, .int j, .int k] M (fun r M' => il_eqr (n (il_k j)) (g (il_k j)) (n (il_k k)) (g (il_k k)) r ∧ M' = M) := by
  refine il_enter (by decide) (Nat.le_of_ble_eq_true rfl) ?_
  intro p e s m below meth cd hF hw ls hl
  obtain ⟨hx, hb, hr, hlk, hml, hown, hin, hts, hB⟩ := id hF
  have hl : lv_has ls 3 [(0, .ref d), (1, .int j), (2, .int k)] := hl
  have hown : s.vm.findClass RX1 = some m.cls := hown
  obtain ⟨mk, ba, rs, ro, hdc⟩ := hdesk
  obtain ⟨hd, hbl, hrs, hmd, ⟨p1, p2, p3, p4⟩, hPM, hrows⟩ := id hdc
  obtain ⟨NB, fb, hmk, hba, hleB, hNB, hgB⟩ := id hbl
  obtain ⟨h1, ra1, st1, ho1, hrow1, hn1, p51, p61, hsh1⟩ := hrows (il_k j) (il_k_lt j)
  obtain ⟨N1, f1, hh1, ha1, hle1, hN1, hg1⟩ := id hrow1
  obtain ⟨h2, ra2, st2, ho2, hrow2, hn2, p52, p62, hsh2⟩ := hrows (il_k k) (il_k_lt k)
  obtain ⟨N2, f2, hh2, ha2, hle2, hN2, hg2⟩ := id hrow2
  refine lv_aload_n hx hb dX1_same_0 rfl (lv_at hl 0 rfl) ?_
  refine il_get (C := RX1) (T := TX1) (N := 3) hx hb hts in_X1 hown hB hw hd rfl 2 (by decide) (hts _ q145) (fun _ h9 => h9) rfl dX1_same_1 ?_
  refine lv_iload_n hx hb dX1_same_4 rfl (lv_at hl 1 rfl) ?_
  refine lv_iconst (v := 3) hx hb dX1_same_5 (by decide) ?_
  refine lv_iand hx hb dX1_same_6 ?_
  refine il_ti (nI (il_k j)) (il_k_and j) ?_
  refine il_rald (i := (il_k j)) hx hb hB hw hrs (il_k_lt j) (by omega) rfl ho1 dX1_same_7 ?_
  refine lv_aload_n hx hb dX1_same_8 rfl (lv_at hl 0 rfl) ?_
  refine il_get (C := RX1) (T := TX1) (N := 3) hx hb hts in_X1 hown hB hw hd rfl 2 (by decide) (hts _ q145) (fun _ h9 => h9) rfl dX1_same_9 ?_
  refine lv_iload_n hx hb dX1_same_12 rfl (lv_at hl 2 rfl) ?_
  refine lv_iconst (v := 3) hx hb dX1_same_13 (by decide) ?_
  refine lv_iand hx hb dX1_same_14 ?_
  refine il_ti (nI (il_k k)) (il_k_and k) ?_
  refine il_rald (i := (il_k k)) hx hb hB hw hrs (il_k_lt k) (by omega) rfl ho2 dX1_same_15 ?_
  refine il_ri hw (il_rV (n := 1) (h := h1) (As := [.ref h2]) (rest := []) ⟨hx, hb, hml, hown, hts⟩ (met_equals hrow1 hrow2) (lw_V q305 q306 q307 q5 q308) (by decide +kernel) ⟨Nat.le_of_ble_eq_true rfl, Nat.le_of_ble_eq_true rfl⟩ hB hw hh1 rfl rfl hl.1 rfl (Nat.le_of_ble_eq_true rfl) dX1_same_16 ⟨(Nat.le_of_ble_eq_true rfl), (Nat.le_of_ble_eq_true rfl)⟩) (fun r M_ H locs hp hw => ?_)
  exact il_iret (v := r) hx hb hr hlk (il_nb (hp.1.elim (fun z => Or.inr z.1) (fun z => Or.inl z.1))) hw hp (Nat.le_of_ble_eq_true rfl) (Nat.le_of_ble_eq_true rfl) dX1_same_19
set_option maxHeartbeats 4000000 in
set_option maxRecDepth 100000 in
/-- FixedRowDesk.get(k, at) -/
theorem met_dget {l : Launch} {G : il_G} {M : il_M} {P : Nat → Prop} {d made : Nat} {mg : Nat → Int64} {n : Nat → Nat} {g : Nat → Nat → Int64} (hdesk : il_desk G P M d made mg n g) {k x : Int32} : il_Cl l G yX1_get cX1_get 4 3 0 0 [.ref d, .int k, .int x] M (fun r M' => ((n (il_k k) = 0 ∧ r = 0) ∨ (n (il_k k) ≠ 0 ∧ r = g (il_k k) (il_m x % n (il_k k)))) ∧ M' = M) := by
  refine il_enter (by decide) (Nat.le_of_ble_eq_true rfl) ?_
  intro p e s m below meth cd hF hw ls hl
  obtain ⟨hx, hb, hr, hlk, hml, hown, hin, hts, hB⟩ := id hF
  have hl : lv_has ls 4 [(0, .ref d), (1, .int k), (2, .int x)] := hl
  have hown : s.vm.findClass RX1 = some m.cls := hown
  obtain ⟨mk, ba, rs, ro, hdc⟩ := hdesk
  obtain ⟨hd, hbl, hrs, hmd, ⟨p1, p2, p3, p4⟩, hPM, hrows⟩ := id hdc
  obtain ⟨NB, fb, hmk, hba, hleB, hNB, hgB⟩ := id hbl
  obtain ⟨h, ra, st, ho, hrow, hn, p5, p6, hsh⟩ := hrows (il_k k) (il_k_lt k)
  obtain ⟨N, f, hh, ha, hle, hN, hg⟩ := id hrow
  refine lv_aload_n hx hb dX1_get_0 rfl (lv_at hl 0 rfl) ?_
  refine il_get (C := RX1) (T := TX1) (N := 3) hx hb hts in_X1 hown hB hw hd rfl 2 (by decide) (hts _ q145) (fun _ h9 => h9) rfl dX1_get_1 ?_
  refine lv_iload_n hx hb dX1_get_4 rfl (lv_at hl 1 rfl) ?_
  refine lv_iconst (v := 3) hx hb dX1_get_5 (by decide) ?_
  refine lv_iand hx hb dX1_get_6 ?_
  refine il_ti (nI (il_k k)) (il_k_and k) ?_
  refine il_rald (i := (il_k k)) hx hb hB hw hrs (il_k_lt k) (by omega) rfl ho dX1_get_7 ?_
  refine lv_astore_n (lv' := [(3, .ref h), (0, .ref d), (1, .int k), (2, .int x)]) hx hb dX1_get_8 rfl hl (by decide) rfl (fun ls hl => ?_)
  refine lv_aload_n hx hb dX1_get_9 rfl (lv_at hl 0 rfl) ?_
  refine il_ri hw (il_rV (n := 0) (h := h) (As := []) (rest := []) ⟨hx, hb, hml, hown, hts⟩ (met_isEmpty hrow) (lw_V q262 q263 q264 q5 q265) (by decide +kernel) ⟨Nat.le_of_ble_eq_true rfl, Nat.le_of_ble_eq_true rfl⟩ hB hw hh rfl rfl hl.1 rfl (Nat.le_of_ble_eq_true rfl) dX1_get_10 ⟨(Nat.le_of_ble_eq_true rfl), (Nat.le_of_ble_eq_true rfl)⟩) (fun r0 M_ H locs hp hw => ?_)
  obtain ⟨he, eM_⟩ := hp
  rw [eM_] at hw
  refine lv_if_eq (tgt := 20) hx hb dX1_get_13 (by decide) (fun c => ?_) (fun c => ?_)
  · have hne : n (il_k k) ≠ 0 := he.elim (fun z => absurd (z.2.symm.trans c) (by decide)) (fun z => z.1)
    have hm1 := il_m_lt x
    refine lv_aload_n hx hb dX1_get_20 rfl (lv_at hl 0 rfl) ?_
    refine lv_iload_n hx hb dX1_get_21 rfl (lv_at hl 3 rfl) ?_
    refine lv_ldc hx hb hown (hts _ q234) dX1_get_22 ?_
    refine lv_iand hx hb dX1_get_24 ?_
    refine il_ti (nI (il_m x)) (il_m_and x) ?_
    refine lv_aload_n hx hb dX1_get_25 rfl (lv_at hl 0 rfl) ?_
    refine il_ri hw (il_rV (n := 0) (h := h) (As := []) (rest := [.int (nI (il_m x)), .ref h]) ⟨hx, hb, hml, hown, hts⟩ (met_length hh) (lw_V q157 q158 q159 q5 q160) (by decide +kernel) ⟨Nat.le_of_ble_eq_true rfl, Nat.le_of_ble_eq_true rfl⟩ hB hw hh rfl rfl hl.1 rfl (Nat.le_of_ble_eq_true rfl) dX1_get_26 ⟨(Nat.le_of_ble_eq_true rfl), (Nat.le_of_ble_eq_true rfl)⟩) (fun r M_ H locs hp hw => ?_)
    obtain ⟨rfl, eM_⟩ := hp
    rw [eM_] at hw
    refine lv_irem hx hb dX1_get_29 (nI_ne0 (n := (n (il_k k))) (by omega) (by omega)) ?_
    refine il_ti (nI ((il_m x) % (n (il_k k)))) (il_rem (a := (il_m x)) (d := (n (il_k k))) (by omega) (by omega) (by omega)) ?_
    refine il_rl hw (il_rV (n := 1) (h := h) (As := [.int (nI ((il_m x) % (n (il_k k))))]) (rest := []) ⟨hx, hb, hml, hown, hts⟩ (met_get hrow (Nat.mod_lt _ (by omega))) (lw_V q266 q267 q268 q5 q269) (by decide +kernel) ⟨Nat.le_of_ble_eq_true rfl, Nat.le_of_ble_eq_true rfl⟩ hB hw hh rfl rfl hl.1 rfl (Nat.le_of_ble_eq_true rfl) dX1_get_30 ⟨(Nat.le_of_ble_eq_true rfl), (Nat.le_of_ble_eq_true rfl)⟩) (fun r M_ H locs hp hw => ?_)
    obtain ⟨rfl, eM_⟩ := hp
    rw [eM_] at hw
    exact il_lret (v := (g (il_k k) (il_m x % n (il_k k)))) hx hb hr hlk hw (⟨Or.inr ⟨hne, rfl⟩, rfl⟩) (Nat.le_of_ble_eq_true rfl) (Nat.le_of_ble_eq_true rfl) dX1_get_33
  · have hne : n (il_k k) = 0 := he.elim (fun z => z.1) (fun z => absurd z.2 c)
    refine lv_lconst (v := 0) hx hb dX1_get_16 (by decide) ?_
    refine lv_goto (tgt := 33) hx hb dX1_get_17 (by decide) ?_
    exact il_lret (v := 0) hx hb hr hlk hw (⟨Or.inl ⟨hne, rfl⟩, rfl⟩) (Nat.le_of_ble_eq_true rfl) (Nat.le_of_ble_eq_true rfl) dX1_get_33
set_option maxHeartbeats 4000000 in
set_option maxRecDepth 100000 in
/-- FixedRowDesk.whole(k) -/
theorem met_dwhole {l : Launch} {G : il_G} {M : il_M} {P : Nat → Prop} {d made : Nat} {mg : Nat → Int64} {n : Nat → Nat} {g : Nat → Nat → Int64} (hdesk : il_desk G P M d made mg n g) {k : Int32} : il_Cl l G yX1_whole cX1_whole 6 4 1 200 [.ref d, .int k] M (fun r M' => r = il_sum (g (il_k k)) (n (il_k k)) ∧ il_ext M M') := by
  refine il_enter (by decide) (Nat.le_of_ble_eq_true rfl) ?_
  intro p e s m below meth cd hF hw ls hl
  obtain ⟨hx, hb, hr, hlk, hml, hown, hin, hts, hB⟩ := id hF
  have hl : lv_has ls 6 [(0, .ref d), (1, .int k)] := hl
  have hown : s.vm.findClass RX1 = some m.cls := hown
  obtain ⟨mk, ba, rs, ro, hdc⟩ := hdesk
  obtain ⟨hd, hbl, hrs, hmd, ⟨p1, p2, p3, p4⟩, hPM, hrows⟩ := id hdc
  obtain ⟨NB, fb, hmk, hba, hleB, hNB, hgB⟩ := id hbl
  obtain ⟨h, ra, st, ho, hrow, hn, p5, p6, hsh⟩ := hrows (il_k k) (il_k_lt k)
  obtain ⟨N, f, hh, ha, hle, hN, hg⟩ := id hrow
  refine lv_aload_n hx hb dX1_whole_0 rfl (lv_at hl 0 rfl) ?_
  refine il_get (C := RX1) (T := TX1) (N := 3) hx hb hts in_X1 hown hB hw hd rfl 2 (by decide) (hts _ q145) (fun _ h9 => h9) rfl dX1_whole_1 ?_
  refine lv_iload_n hx hb dX1_whole_4 rfl (lv_at hl 1 rfl) ?_
  refine lv_iconst (v := 3) hx hb dX1_whole_5 (by decide) ?_
  refine lv_iand hx hb dX1_whole_6 ?_
  refine il_ti (nI (il_k k)) (il_k_and k) ?_
  refine il_rald (i := (il_k k)) hx hb hB hw hrs (il_k_lt k) (by omega) rfl ho dX1_whole_7 ?_
  refine il_rr hw (il_rV (n := 0) (h := h) (As := []) (rest := []) ⟨hx, hb, hml, hown, hts⟩ (met_toArray hrow (by omega)) (lw_V q325 q326 q327 q5 q328) (by decide +kernel) ⟨Nat.le_of_ble_eq_true rfl, Nat.le_of_ble_eq_true rfl⟩ hB hw hh rfl rfl hl.1 rfl (Nat.le_of_ble_eq_true rfl) dX1_whole_8 ⟨(Nat.le_of_ble_eq_true rfl), (Nat.le_of_ble_eq_true rfl)⟩) (fun r1 M_ H locs hp hw => ?_)
  obtain ⟨hn1, f', eM_, hf'⟩ := hp
  rw [eM_] at hw
  have hw : il_W G s (il_up M r1 (il_eJ G (n (il_k k)) f')) H locs := hw
  have hd := il_up_keep (a := r1) (e := (il_eJ G (n (il_k k)) f')) (il_new hn1 hd) hd
  have hmk := il_up_keep (a := r1) (e := (il_eJ G (n (il_k k)) f')) (il_new hn1 hmk) hmk
  have hrs := il_up_keep (a := r1) (e := (il_eJ G (n (il_k k)) f')) (il_new hn1 hrs) hrs
  have hh := il_up_keep (a := r1) (e := (il_eJ G (n (il_k k)) f')) (il_new hn1 hh) hh
  have h1 : il_up M r1 (il_eJ G (n (il_k k)) f') r1 = some (il_eJ G (n (il_k k)) f') := il_up_eq _ _ _
  generalize eM1 : il_up M r1 (il_eJ G (n (il_k k)) f') = M1 at hw hd hmk hrs hh h1
  refine W.widen (k := 1) (n := 200) (by omega) (by omega) ?_
  refine lv_astore_n (lv' := [(2, .ref r1), (0, .ref d), (1, .int k)]) hx hb dX1_whole_11 rfl hl (by decide) rfl (fun ls hl => ?_)
  refine lv_lconst (v := 0) hx hb dX1_whole_12 (by decide) ?_
  refine lv_lstore_n (lv' := [(3, .long 0), (2, .ref r1), (0, .ref d), (1, .int k)]) hx hb dX1_whole_13 rfl hl (by decide) rfl (fun ls hl => ?_)
  refine lv_iconst (v := 0) hx hb dX1_whole_14 (by decide) ?_
  refine lv_istore (lv' := [(5, .int 0), (3, .long 0), (2, .ref r1), (0, .ref d), (1, .int k)]) hx hb dX1_whole_15 hl (by decide) rfl (fun ls hl => ?_)
  have loop : ∀ (k' : Nat) (i : Nat), (i + k' = n (il_k k)) → ∀ ls : Array Slot, lv_has ls 6 [(0, .ref d), (1, .int k), (2, .ref r1), (3, .long (il_sum (g (il_k k)) i)), (5, .int (nI i))] → W p l e (il_R 4 1 200) s m ([.ref d, .int k] : List Value).toArray below meth cd H locs 1 200 (MQ below (il_Ql G (fun r M' => r = il_sum (g (il_k k)) (n (il_k k)) ∧ il_ext M M')) ([.ref d, .int k] : List Value).toArray s 1 200 (il_A G)) (F0 m 17 ls []) := by
    intro k'
    induction k' with
    | zero =>
      intro i hik ls hl
      refine lv_iload hx hb dX1_whole_17 (lv_at hl 4 rfl) ?_
      refine lv_aload_n hx hb dX1_whole_19 rfl (lv_at hl 2 rfl) ?_
      refine il_alen hx hb hB hw h1 dX1_whole_20 ?_
      refine lv_icmp_ge (tgt := 41) hx hb dX1_whole_21 (by decide) (fun c => ?_) (fun c => False.elim (by have c : ¬ ((n (il_k k)) ≤ i) := fun z => c ((nI_leI (a := (n (il_k k))) (b := i) (by omega) (by omega)).mpr z); omega))
      have c : (n (il_k k)) ≤ i := (nI_leI (a := (n (il_k k))) (b := i) (by omega) (by omega)).mp c
      refine lv_lload_n hx hb dX1_whole_41 rfl (lv_at hl 3 rfl) ?_
      exact il_lret (v := (il_sum (g (il_k k)) i)) hx hb hr hlk hw (⟨by rw [show i = n (il_k k) by omega], by rw [← eM1]; exact il_ext.up hn1⟩) (Nat.le_of_ble_eq_true rfl) (Nat.le_of_ble_eq_true rfl) dX1_whole_42
    | succ k' ih =>
      intro i hik ls hl
      refine lv_iload hx hb dX1_whole_17 (lv_at hl 4 rfl) ?_
      refine lv_aload_n hx hb dX1_whole_19 rfl (lv_at hl 2 rfl) ?_
      refine il_alen hx hb hB hw h1 dX1_whole_20 ?_
      refine lv_icmp_ge (tgt := 41) hx hb dX1_whole_21 (by decide) (fun c => False.elim (by have c : (n (il_k k)) ≤ i := (nI_leI (a := (n (il_k k))) (b := i) (by omega) (by omega)).mp c; omega)) (fun c => ?_)
      have c : ¬ ((n (il_k k)) ≤ i) := fun z => c ((nI_leI (a := (n (il_k k))) (b := i) (by omega) (by omega)).mpr z)
      refine lv_lload_n hx hb dX1_whole_24 rfl (lv_at hl 3 rfl) ?_
      refine lv_ldc2 hx hb hown (hts _ q338) dX1_whole_25 ?_
      refine lv_lmul hx hb dX1_whole_28 ?_
      refine lv_aload_n hx hb dX1_whole_29 rfl (lv_at hl 2 rfl) ?_
      refine lv_iload hx hb dX1_whole_30 (lv_at hl 4 rfl) ?_
      refine il_lald (i := i) hx hb hB hw h1 (by omega) (by omega) rfl dX1_whole_32 ?_
      refine il_tl (g (il_k k) i) (hf' i (by omega)) ?_
      refine lv_ladd hx hb dX1_whole_33 ?_
      refine il_tl (il_sum (g (il_k k)) (i + 1)) rfl ?_
      refine lv_lstore_n (lv' := [(3, .long (il_sum (g (il_k k)) (i + 1))), (0, .ref d), (1, .int k), (2, .ref r1), (5, .int (nI i))]) hx hb dX1_whole_34 rfl hl (by decide) rfl (fun ls hl => ?_)
      refine lv_iinc (v := nI (i + 1)) (lv' := [(5, .int (nI (i + 1))), (3, .long (il_sum (g (il_k k)) (i + 1))), (0, .ref d), (1, .int k), (2, .ref r1)]) hx hb dX1_whole_35 hl (k := 4) rfl (by exact nI_1 i) (by decide) rfl (fun ls hl => ?_)
      refine lv_goto (tgt := 17) hx hb dX1_whole_38 (by decide) ?_
      exact ih (i + 1) (by omega) ls (lv_sub hl [2, 3, 4, 1, 0] rfl)
  exact loop (n (il_k k)) 0 (by omega) ls (lv_sub hl [3, 4, 2, 1, 0] rfl)
set_option maxHeartbeats 4000000 in
set_option maxRecDepth 100000 in
/-- FixedRowDesk.add(high, low) -/
theorem met_dadd {l : Launch} {G : il_G} {M : il_M} {P : Nat → Prop} {d made : Nat} {mg : Nat → Int64} {n : Nat → Nat} {g : Nat → Nat → Int64} (hdesk : il_desk G P M d made mg n g) {hi lo : Int32} : il_Ci l G yX1_add cX1_add 3 (.boolean) 5 1 200 [.ref d, .int hi, .int lo] M (fun r M' => (made = 96 ∧ r = 0 ∧ M' = M) ∨ (made < 96 ∧ r = 1 ∧ il_desk G P M' d (made + 1) (vp_updL mg made (il_of hi lo)) n g ∧ il_fr P M M')) := by
  refine il_enter (by decide) (Nat.le_of_ble_eq_true rfl) ?_
  intro p e s m below meth cd hF hw ls hl
  obtain ⟨hx, hb, hr, hlk, hml, hown, hin, hts, hB⟩ := id hF
  have hl : lv_has ls 3 [(0, .ref d), (1, .int hi), (2, .int lo)] := hl
  have hown : s.vm.findClass RX1 = some m.cls := hown
  obtain ⟨mk, ba, rs, ro, hdc⟩ := hdesk
  obtain ⟨hd, hbl, hrs, hmd, ⟨p1, p2, p3, p4⟩, hPM, hrows⟩ := id hdc
  obtain ⟨NB, fb, hmk, hba, hleB, hNB, hgB⟩ := id hbl
  refine lv_aload_n hx hb dX1_add_0 rfl (lv_at hl 0 rfl) ?_
  refine il_get (C := RX1) (T := TX1) (N := 3) hx hb hts in_X1 hown hB hw hd rfl 1 (by decide) (hts _ q144) (fun _ h9 => h9) rfl dX1_add_1 ?_
  refine lv_bipush (v := 96) hx hb dX1_add_4 (by decide) ?_
  refine lv_icmp_lt (tgt := 11) hx hb dX1_add_6 (by decide) (fun c => ?_) (fun c => ?_)
  · have c : made < 96 := (nI_ltI (a := made) (b := 96) (by omega) (by omega)).mp c
    refine lv_aload_n hx hb dX1_add_11 rfl (lv_at hl 0 rfl) ?_
    refine lv_dup hx hb dX1_add_12 rfl ?_
    refine il_get (C := RX1) (T := TX1) (N := 3) hx hb hts in_X1 hown hB hw hd rfl 1 (by decide) (hts _ q144) (fun _ h9 => h9) rfl dX1_add_13 ?_
    refine lv_iconst (v := 1) hx hb dX1_add_16 (by decide) ?_
    refine lv_iadd hx hb dX1_add_17 ?_
    refine il_ti (nI (made + 1)) (nI_1 made) ?_
    refine il_put (C := RX1) (T := TX1) (N := 3) (ty := .int) (v := .int (nI (made + 1))) hx hb hts in_X1 tyX1 tyX1_ok nmX1 hown hB hw hd rfl 1 (by decide) (hts _ q144) (fun _ h9 => h9) rfl (by decide +kernel) rfl rfl (Nat.le_of_ble_eq_true rfl) dX1_add_18 (fun H locs hw => ?_)
    have hw : il_W G s (il_up M d (.inr (0, [.ref mk, .int (nI (made + 1)), .ref rs]))) H locs := hw
    have hmk := il_up_keep (a := d) (e := (.inr (0, [.ref mk, .int (nI (made + 1)), .ref rs]))) (il_ne hmk hd (by simp)) hmk
    have hrs := il_up_keep (a := d) (e := (.inr (0, [.ref mk, .int (nI (made + 1)), .ref rs]))) (il_ne hrs hd (by simp)) hrs
    have hba := il_up_keep (a := d) (e := (.inr (0, [.ref mk, .int (nI (made + 1)), .ref rs]))) (il_ne hba hd (by simp)) hba
    have hd : il_up M d (.inr (0, [.ref mk, .int (nI (made + 1)), .ref rs])) d = some (.inr (0, [.ref mk, .int (nI (made + 1)), .ref rs])) := il_up_eq _ _ _
    generalize eM1 : il_up M d (.inr (0, [.ref mk, .int (nI (made + 1)), .ref rs])) = M1 at hw hmk hrs hba hd
    refine lv_aload_n hx hb dX1_add_21 rfl (lv_at hl 0 rfl) ?_
    refine il_get (C := RX1) (T := TX1) (N := 3) hx hb hts in_X1 hown hB hw hd rfl 0 (by decide) (hts _ q143) (fun _ h9 => h9) rfl dX1_add_22 ?_
    refine lv_iload_n hx hb dX1_add_25 rfl (lv_at hl 1 rfl) ?_
    refine lv_iload_n hx hb dX1_add_26 rfl (lv_at hl 2 rfl) ?_
    refine il_rl hw (il_rS (n := 2) (As := [.int hi, .int lo]) (rest := [.ref mk]) ⟨hx, hb, hml, hown, hts⟩ met_dof (lw_S q281 q282 q4 q283) (by decide +kernel) ⟨Nat.le_of_ble_eq_true rfl, Nat.le_of_ble_eq_true rfl⟩ hB hw rfl hl.1 rfl (Nat.le_of_ble_eq_true rfl) dX1_add_27 ⟨(Nat.le_of_ble_eq_true rfl), (Nat.le_of_ble_eq_true rfl)⟩) (fun r M_ H locs hp hw => ?_)
    obtain ⟨rfl, eM_⟩ := hp
    rw [eM_] at hw
    refine il_rr hw (il_rV (n := 1) (h := mk) (As := [.long (il_of hi lo)]) (rest := []) ⟨hx, hb, hml, hown, hts⟩ (met_badd (b := mk) (a := ba) (g := mg) ⟨NB, fb, hmk, hba, hleB, hNB, hgB⟩ (by omega)) (lw_V q362 q363 q364 q11 q365) (by decide +kernel) ⟨Nat.le_of_ble_eq_true rfl, Nat.le_of_ble_eq_true rfl⟩ hB hw hmk rfl rfl hl.1 rfl (Nat.le_of_ble_eq_true rfl) dX1_add_30 ⟨(Nat.le_of_ble_eq_true rfl), (Nat.le_of_ble_eq_true rfl)⟩) (fun r1 M2 H locs hp hw => ?_)
    obtain ⟨-, a', u1, u2, u3⟩ := hp
    rw [← eM1] at u2 u3
    obtain ⟨v1, v2⟩ := hdc.add u1 u3 u2 (by omega) (by omega)
    refine lv_pop hx hb dX1_add_33 rfl ?_
    refine lv_iconst (v := 1) hx hb dX1_add_34 (by decide) ?_
    exact il_iret (v := 1) hx hb hr hlk rfl hw (Or.inr ⟨c, rfl, ⟨mk, a', rs, ro, v1⟩, v2⟩) (Nat.le_of_ble_eq_true rfl) (Nat.le_of_ble_eq_true rfl) dX1_add_35
  · have c : ¬ (made < 96) := fun z => c ((nI_ltI (a := made) (b := 96) (by omega) (by omega)).mpr z)
    refine lv_iconst (v := 0) hx hb dX1_add_9 (by decide) ?_
    exact il_iret (v := 0) hx hb hr hlk rfl hw (Or.inl ⟨by omega, rfl, rfl⟩) (Nat.le_of_ble_eq_true rfl) (Nat.le_of_ble_eq_true rfl) dX1_add_10
set_option maxHeartbeats 4000000 in
set_option maxRecDepth 100000 in
/-- FixedRowDesk.addRow(k) -/
theorem met_daddRow {l : Launch} {G : il_G} {M : il_M} {P : Nat → Prop} {d made : Nat} {mg : Nat → Int64} {n : Nat → Nat} {g : Nat → Nat → Int64} (hdesk : il_desk G P M d made mg n g) {k : Int32} : il_Ci l G yX1_addRow cX1_addRow 3 (.boolean) 5 1 200 [.ref d, .int k] M (fun r M' => (96 < made + n (il_k k) ∧ r = 0 ∧ M' = M) ∨ (made + n (il_k k) ≤ 96 ∧ r = 1 ∧ il_desk G P M' d (made + n (il_k k)) (il_cat mg made (g (il_k k))) n g ∧ il_fr P M M')) := by
  refine il_enter (by decide) (Nat.le_of_ble_eq_true rfl) ?_
  intro p e s m below meth cd hF hw ls hl
  obtain ⟨hx, hb, hr, hlk, hml, hown, hin, hts, hB⟩ := id hF
  have hl : lv_has ls 3 [(0, .ref d), (1, .int k)] := hl
  have hown : s.vm.findClass RX1 = some m.cls := hown
  obtain ⟨mk, ba, rs, ro, hdc⟩ := hdesk
  obtain ⟨hd, hbl, hrs, hmd, ⟨p1, p2, p3, p4⟩, hPM, hrows⟩ := id hdc
  obtain ⟨NB, fb, hmk, hba, hleB, hNB, hgB⟩ := id hbl
  obtain ⟨h, ra, st, ho, hrow, hn, p5, p6, hsh⟩ := hrows (il_k k) (il_k_lt k)
  obtain ⟨N, f, hh, ha, hle, hN, hg⟩ := id hrow
  refine lv_aload_n hx hb dX1_addRow_0 rfl (lv_at hl 0 rfl) ?_
  refine il_get (C := RX1) (T := TX1) (N := 3) hx hb hts in_X1 hown hB hw hd rfl 2 (by decide) (hts _ q145) (fun _ h9 => h9) rfl dX1_addRow_1 ?_
  refine lv_iload_n hx hb dX1_addRow_4 rfl (lv_at hl 1 rfl) ?_
  refine lv_iconst (v := 3) hx hb dX1_addRow_5 (by decide) ?_
  refine lv_iand hx hb dX1_addRow_6 ?_
  refine il_ti (nI (il_k k)) (il_k_and k) ?_
  refine il_rald (i := (il_k k)) hx hb hB hw hrs (il_k_lt k) (by omega) rfl ho dX1_addRow_7 ?_
  refine il_ri hw (il_rV (n := 0) (h := h) (As := []) (rest := []) ⟨hx, hb, hml, hown, hts⟩ (met_length hh) (lw_V q157 q158 q159 q5 q160) (by decide +kernel) ⟨Nat.le_of_ble_eq_true rfl, Nat.le_of_ble_eq_true rfl⟩ hB hw hh rfl rfl hl.1 rfl (Nat.le_of_ble_eq_true rfl) dX1_addRow_8 ⟨(Nat.le_of_ble_eq_true rfl), (Nat.le_of_ble_eq_true rfl)⟩) (fun r M_ H locs hp hw => ?_)
  obtain ⟨rfl, eM_⟩ := hp
  rw [eM_] at hw
  refine lv_istore_n (lv' := [(2, .int (nI (n (il_k k)))), (0, .ref d), (1, .int k)]) hx hb dX1_addRow_11 rfl hl (by decide) rfl (fun ls hl => ?_)
  refine lv_aload_n hx hb dX1_addRow_12 rfl (lv_at hl 1 rfl) ?_
  refine il_get (C := RX1) (T := TX1) (N := 3) hx hb hts in_X1 hown hB hw hd rfl 1 (by decide) (hts _ q144) (fun _ h9 => h9) rfl dX1_addRow_13 ?_
  refine lv_iload_n hx hb dX1_addRow_16 rfl (lv_at hl 0 rfl) ?_
  refine lv_iadd hx hb dX1_addRow_17 ?_
  refine il_ti (nI (made + n (il_k k))) (nI_add _ _) ?_
  refine lv_bipush (v := 96) hx hb dX1_addRow_18 (by decide) ?_
  refine lv_icmp_le (tgt := 25) hx hb dX1_addRow_20 (by decide) (fun c => ?_) (fun c => ?_)
  · have c : (made + n (il_k k)) ≤ 96 := (nI_leI (a := (made + n (il_k k))) (b := 96) (by omega) (by omega)).mp c
    refine lv_aload_n hx hb dX1_addRow_25 rfl (lv_at hl 1 rfl) ?_
    refine lv_dup hx hb dX1_addRow_26 rfl ?_
    refine il_get (C := RX1) (T := TX1) (N := 3) hx hb hts in_X1 hown hB hw hd rfl 1 (by decide) (hts _ q144) (fun _ h9 => h9) rfl dX1_addRow_27 ?_
    refine lv_iload_n hx hb dX1_addRow_30 rfl (lv_at hl 0 rfl) ?_
    refine lv_iadd hx hb dX1_addRow_31 ?_
    refine il_ti (nI (made + n (il_k k))) (nI_add _ _) ?_
    refine il_put (C := RX1) (T := TX1) (N := 3) (ty := .int) (v := .int (nI (made + n (il_k k)))) hx hb hts in_X1 tyX1 tyX1_ok nmX1 hown hB hw hd rfl 1 (by decide) (hts _ q144) (fun _ h9 => h9) rfl (by decide +kernel) rfl rfl (Nat.le_of_ble_eq_true rfl) dX1_addRow_32 (fun H locs hw => ?_)
    have hw : il_W G s (il_up M d (.inr (0, [.ref mk, .int (nI (made + n (il_k k))), .ref rs]))) H locs := hw
    have hmk := il_up_keep (a := d) (e := (.inr (0, [.ref mk, .int (nI (made + n (il_k k))), .ref rs]))) (il_ne hmk hd (by simp)) hmk
    have hrs := il_up_keep (a := d) (e := (.inr (0, [.ref mk, .int (nI (made + n (il_k k))), .ref rs]))) (il_ne hrs hd (by simp)) hrs
    have hh := il_up_keep (a := d) (e := (.inr (0, [.ref mk, .int (nI (made + n (il_k k))), .ref rs]))) (il_ne hh hd (by simp)) hh
    have hba := il_up_keep (a := d) (e := (.inr (0, [.ref mk, .int (nI (made + n (il_k k))), .ref rs]))) (il_ne hba hd (by simp)) hba
    have ha := il_up_keep (a := d) (e := (.inr (0, [.ref mk, .int (nI (made + n (il_k k))), .ref rs]))) (il_ne ha hd (by simp)) ha
    have hd : il_up M d (.inr (0, [.ref mk, .int (nI (made + n (il_k k))), .ref rs])) d = some (.inr (0, [.ref mk, .int (nI (made + n (il_k k))), .ref rs])) := il_up_eq _ _ _
    generalize eM1 : il_up M d (.inr (0, [.ref mk, .int (nI (made + n (il_k k))), .ref rs])) = M1 at hw hmk hrs hh hba ha hd
    refine lv_aload_n hx hb dX1_addRow_35 rfl (lv_at hl 1 rfl) ?_
    refine il_get (C := RX1) (T := TX1) (N := 3) hx hb hts in_X1 hown hB hw hd rfl 0 (by decide) (hts _ q143) (fun _ h9 => h9) rfl dX1_addRow_36 ?_
    refine lv_aload_n hx hb dX1_addRow_39 rfl (lv_at hl 1 rfl) ?_
    refine il_get (C := RX1) (T := TX1) (N := 3) hx hb hts in_X1 hown hB hw hd rfl 2 (by decide) (hts _ q145) (fun _ h9 => h9) rfl dX1_addRow_40 ?_
    refine lv_iload_n hx hb dX1_addRow_43 rfl (lv_at hl 2 rfl) ?_
    refine lv_iconst (v := 3) hx hb dX1_addRow_44 (by decide) ?_
    refine lv_iand hx hb dX1_addRow_45 ?_
    refine il_ti (nI (il_k k)) (il_k_and k) ?_
    refine il_rald (i := (il_k k)) hx hb hB hw hrs (il_k_lt k) (by omega) rfl ho dX1_addRow_46 ?_
    refine il_rr hw (il_rV (n := 1) (h := mk) (As := [.ref h]) (rest := []) ⟨hx, hb, hml, hown, hts⟩ (met_baddAll (b := mk) (a := ba) (g := mg) ⟨NB, fb, hmk, hba, hleB, hNB, hgB⟩ (h := h) (ra := ra) (st := st) (k := n (il_k k)) (gr := g (il_k k)) ⟨N, f, hh, ha, hle, hN, hg⟩ (by omega)) (lw_V q161 q162 q163 q11 q164) (by decide +kernel) ⟨Nat.le_of_ble_eq_true rfl, Nat.le_of_ble_eq_true rfl⟩ hB hw hmk rfl rfl hl.1 rfl (Nat.le_of_ble_eq_true rfl) dX1_addRow_47 ⟨(Nat.le_of_ble_eq_true rfl), (Nat.le_of_ble_eq_true rfl)⟩) (fun r1 M2 H locs hp hw => ?_)
    obtain ⟨-, a', u1, u2, u3⟩ := hp
    rw [← eM1] at u2 u3
    obtain ⟨v1, v2⟩ := hdc.add u1 u3 u2 (by omega) (by omega)
    refine lv_pop hx hb dX1_addRow_50 rfl ?_
    refine lv_iconst (v := 1) hx hb dX1_addRow_51 (by decide) ?_
    exact il_iret (v := 1) hx hb hr hlk rfl hw (Or.inr ⟨c, rfl, ⟨mk, a', rs, ro, v1⟩, v2⟩) (Nat.le_of_ble_eq_true rfl) (Nat.le_of_ble_eq_true rfl) dX1_addRow_52
  · have c : ¬ ((made + n (il_k k)) ≤ 96) := fun z => c ((nI_leI (a := (made + n (il_k k))) (b := 96) (by omega) (by omega)).mpr z)
    refine lv_iconst (v := 0) hx hb dX1_addRow_23 (by decide) ?_
    exact il_iret (v := 0) hx hb hr hlk rfl hw (Or.inl ⟨by omega, rfl, rfl⟩) (Nat.le_of_ble_eq_true rfl) (Nat.le_of_ble_eq_true rfl) dX1_addRow_24
set_option maxHeartbeats 4000000 in
set_option maxRecDepth 100000 in
/-- FixedRowDesk.build(to) -/
theorem met_dbuild {l : Launch} {G : il_G} {M : il_M} {P : Nat → Prop} {d made : Nat} {mg : Nat → Int64} {n : Nat → Nat} {g : Nat → Nat → Int64} (hdesk : il_desk G P M d made mg n g) {k : Int32} : il_Ci l G yX1_build cX1_build 2 (.int) 4 2 4 [.ref d, .int k] M (fun r M' => r = nI made ∧ il_desk G P M' d made mg (il_set n (il_k k) made) (il_set g (il_k k) mg) ∧ il_fr P M M') := by
  refine il_enter (by decide) (Nat.le_of_ble_eq_true rfl) ?_
  intro p e s m below meth cd hF hw ls hl
  obtain ⟨hx, hb, hr, hlk, hml, hown, hin, hts, hB⟩ := id hF
  have hl : lv_has ls 2 [(0, .ref d), (1, .int k)] := hl
  have hown : s.vm.findClass RX1 = some m.cls := hown
  obtain ⟨mk, ba, rs, ro, hdc⟩ := hdesk
  obtain ⟨hd, hbl, hrs, hmd, ⟨p1, p2, p3, p4⟩, hPM, hrows⟩ := id hdc
  obtain ⟨NB, fb, hmk, hba, hleB, hNB, hgB⟩ := id hbl
  refine lv_aload_n hx hb dX1_build_0 rfl (lv_at hl 0 rfl) ?_
  refine il_get (C := RX1) (T := TX1) (N := 3) hx hb hts in_X1 hown hB hw hd rfl 2 (by decide) (hts _ q145) (fun _ h9 => h9) rfl dX1_build_1 ?_
  refine lv_iload_n hx hb dX1_build_4 rfl (lv_at hl 1 rfl) ?_
  refine lv_iconst (v := 3) hx hb dX1_build_5 (by decide) ?_
  refine lv_iand hx hb dX1_build_6 ?_
  refine il_ti (nI (il_k k)) (il_k_and k) ?_
  refine lv_aload_n hx hb dX1_build_7 rfl (lv_at hl 0 rfl) ?_
  refine il_get (C := RX1) (T := TX1) (N := 3) hx hb hts in_X1 hown hB hw hd rfl 0 (by decide) (hts _ q143) (fun _ h9 => h9) rfl dX1_build_8 ?_
  refine il_rr hw (il_rV (n := 0) (h := mk) (As := []) (rest := [.int (nI (il_k k)), .ref rs]) ⟨hx, hb, hml, hown, hts⟩ (met_bbuild hbl) (lw_V q219 q220 q221 q11 q222) (by decide +kernel) ⟨Nat.le_of_ble_eq_true rfl, Nat.le_of_ble_eq_true rfl⟩ hB hw hmk rfl rfl hl.1 rfl (Nat.le_of_ble_eq_true rfl) dX1_build_11 ⟨(Nat.le_of_ble_eq_true rfl), (Nat.le_of_ble_eq_true rfl)⟩) (fun r1 M1 H locs hp hw => ?_)
  obtain ⟨a', hn1, hx1, hrow1, hor⟩ := hp
  have hd := hx1 _ _ hd
  have hrs := hx1 _ _ hrs
  obtain ⟨N1, f1, hh1, ha1, hle1, hN1, hg1⟩ := id hrow1
  refine il_rast (i := (il_k k)) hx hb hB hw hrs hh1 (il_k_lt k) (by omega) rfl dX1_build_14 (fun H locs hw => ?_)
  have hw : il_W G s (il_up M1 rs (il_eI G 4 (va_up ro (il_k k) (some r1)))) H locs := hw
  have hd := il_up_keep (a := rs) (e := (il_eI G 4 (va_up ro (il_k k) (some r1)))) (il_ne hd hrs (by simp)) hd
  have hh1 := il_up_keep (a := rs) (e := (il_eI G 4 (va_up ro (il_k k) (some r1)))) (il_ne hh1 hrs (by simp)) hh1
  have hrs : il_up M1 rs (il_eI G 4 (va_up ro (il_k k) (some r1))) rs = some (il_eI G 4 (va_up ro (il_k k) (some r1))) := il_up_eq _ _ _
  generalize eM2 : il_up M1 rs (il_eI G 4 (va_up ro (il_k k) (some r1))) = M2 at hw hd hh1 hrs
  have hpa : ¬ P a' := hor.elim (fun z => z ▸ p3) (fun z => il_desk.fresh hdc z)
  have hv := hdc.setrow (K := il_k k) hx1 hrow1 hmd (il_desk.fresh hdc hn1) hpa (fun _ => by omega)
  rw [eM2] at hv
  refine lv_aload_n hx hb dX1_build_15 rfl (lv_at hl 0 rfl) ?_
  refine il_get (C := RX1) (T := TX1) (N := 3) hx hb hts in_X1 hown hB hw hd rfl 2 (by decide) (hts _ q145) (fun _ h9 => h9) rfl dX1_build_16 ?_
  refine lv_iload_n hx hb dX1_build_19 rfl (lv_at hl 1 rfl) ?_
  refine lv_iconst (v := 3) hx hb dX1_build_20 (by decide) ?_
  refine lv_iand hx hb dX1_build_21 ?_
  refine il_ti (nI (il_k k)) (il_k_and k) ?_
  refine il_rald (i := (il_k k)) hx hb hB hw hrs (il_k_lt k) (by omega) rfl (va_up_self _ _ _) dX1_build_22 ?_
  refine il_ri hw (il_rV (n := 0) (h := r1) (As := []) (rest := []) ⟨hx, hb, hml, hown, hts⟩ (met_length hh1) (lw_V q157 q158 q159 q5 q160) (by decide +kernel) ⟨Nat.le_of_ble_eq_true rfl, Nat.le_of_ble_eq_true rfl⟩ hB hw hh1 rfl rfl hl.1 rfl (Nat.le_of_ble_eq_true rfl) dX1_build_23 ⟨(Nat.le_of_ble_eq_true rfl), (Nat.le_of_ble_eq_true rfl)⟩) (fun r M_ H locs hp hw => ?_)
  obtain ⟨rfl, eM_⟩ := hp
  rw [eM_] at hw
  exact il_iret (v := (nI made)) hx hb hr hlk rfl hw (⟨rfl, ⟨mk, ba, rs, _, hv.1⟩, hv.2⟩) (Nat.le_of_ble_eq_true rfl) (Nat.le_of_ble_eq_true rfl) dX1_build_26
set_option maxHeartbeats 4000000 in
set_option maxRecDepth 100000 in
/-- FixedRowDesk.anew(room) -/
theorem met_danew {l : Launch} {G : il_G} {M : il_M} {P : Nat → Prop} {d made : Nat} {mg : Nat → Int64} {n : Nat → Nat} {g : Nat → Nat → Int64} (hdesk : il_desk G P M d made mg n g) {x : Int32} : il_Cv l G yX1_anew cX1_anew 2 3 2 50 [.ref d, .int x] M (fun M' => il_desk G P M' d 0 mg n g ∧ il_fr P M M') := by
  refine il_enter (by decide) (Nat.le_of_ble_eq_true rfl) ?_
  intro p e s m below meth cd hF hw ls hl
  obtain ⟨hx, hb, hr, hlk, hml, hown, hin, hts, hB⟩ := id hF
  have hl : lv_has ls 2 [(0, .ref d), (1, .int x)] := hl
  have hown : s.vm.findClass RX1 = some m.cls := hown
  obtain ⟨mk, ba, rs, ro, hdc⟩ := hdesk
  obtain ⟨hd, hbl, hrs, hmd, ⟨p1, p2, p3, p4⟩, hPM, hrows⟩ := id hdc
  obtain ⟨NB, fb, hmk, hba, hleB, hNB, hgB⟩ := id hbl
  obtain ⟨j, hj, ej⟩ := il_31 x
  refine lv_aload_n hx hb dX1_anew_0 rfl (lv_at hl 0 rfl) ?_
  refine lv_iload_n hx hb dX1_anew_1 rfl (lv_at hl 1 rfl) ?_
  refine lv_bipush (v := 31) hx hb dX1_anew_2 (by decide) ?_
  refine lv_iand hx hb dX1_anew_4 ?_
  refine il_ti (nI j) ej ?_
  refine il_rr hw (il_rS (n := 1) (As := [.int (nI j)]) (rest := [.ref d]) ⟨hx, hb, hml, hown, hts⟩ (met_builder (g := mg) (n := j) (by omega)) (lw_S q28 q29 q5 q30) (by decide +kernel) ⟨Nat.le_of_ble_eq_true rfl, Nat.le_of_ble_eq_true rfl⟩ hB hw rfl hl.1 rfl (Nat.le_of_ble_eq_true rfl) dX1_anew_5 ⟨(Nat.le_of_ble_eq_true rfl), (Nat.le_of_ble_eq_true rfl)⟩) (fun r1 M1 H locs hp hw => ?_)
  obtain ⟨a', hn1, hn2, hx1, hb1⟩ := hp
  have hd := hx1 _ _ hd
  have hv := hdc.anew hx1 hb1 hn1 hn2
  refine il_put (C := RX1) (T := TX1) (N := 3) (ty := .object RX4) (v := .ref r1) hx hb hts in_X1 tyX1 tyX1_ok nmX1 hown hB hw hd rfl 0 (by decide) (hts _ q143) (fun _ h9 => h9) rfl (by decide +kernel) rfl rfl (Nat.le_of_ble_eq_true rfl) dX1_anew_8 (fun H locs hw => ?_)
  have hw : il_W G s (il_up M1 d (.inr (0, [.ref r1, .int (nI made), .ref rs]))) H locs := hw
  have hd : il_up M1 d (.inr (0, [.ref r1, .int (nI made), .ref rs])) d = some (.inr (0, [.ref r1, .int (nI made), .ref rs])) := il_up_eq _ _ _
  generalize eM2 : il_up M1 d (.inr (0, [.ref r1, .int (nI made), .ref rs])) = M2 at hw hd
  refine lv_aload_n hx hb dX1_anew_11 rfl (lv_at hl 0 rfl) ?_
  refine lv_iconst (v := 0) hx hb dX1_anew_12 (by decide) ?_
  refine il_put (C := RX1) (T := TX1) (N := 3) (ty := .int) (v := .int 0) hx hb hts in_X1 tyX1 tyX1_ok nmX1 hown hB hw hd rfl 1 (by decide) (hts _ q144) (fun _ h9 => h9) rfl (by decide +kernel) rfl rfl (Nat.le_of_ble_eq_true rfl) dX1_anew_13 (fun H locs hw => ?_)
  have hw : il_W G s (il_up M2 d (.inr (0, [.ref r1, .int 0, .ref rs]))) H locs := hw
  have hd : il_up M2 d (.inr (0, [.ref r1, .int 0, .ref rs])) d = some (.inr (0, [.ref r1, .int 0, .ref rs])) := il_up_eq _ _ _
  generalize eM3 : il_up M2 d (.inr (0, [.ref r1, .int 0, .ref rs])) = M3 at hw hd
  have e3 : M3 = il_up M1 d (il_eD r1 (nI 0) rs) := by rw [← eM3, ← eM2, il_up_up]; rfl
  rw [← e3] at hv
  exact il_vret hx hb hr hlk hw (⟨⟨r1, a', rs, ro, hv.1⟩, hv.2⟩) (Nat.le_of_ble_eq_true rfl) (Nat.le_of_ble_eq_true rfl) dX1_anew_16
set_option maxHeartbeats 4000000 in
set_option maxRecDepth 100000 in
/-- FixedRowDesk.part(to, k, from, n) -/
theorem met_dpart {l : Launch} {G : il_G} {M : il_M} {P : Nat → Prop} {d made : Nat} {mg : Nat → Int64} {n : Nat → Nat} {g : Nat → Nat → Int64} (hdesk : il_desk G P M d made mg n g) {t k x y : Int32} : il_Ci l G yX1_part cX1_part 8 (.int) 4 2 4 [.ref d, .int t, .int k, .int x, .int y] M (fun r M' => r = nI (il_m y % (n (il_k k) - il_m x % (n (il_k k) + 1) + 1)) ∧ il_desk G P M' d made mg (il_set n (il_k t) (il_m y % (n (il_k k) - il_m x % (n (il_k k) + 1) + 1))) (il_set g (il_k t) (fun z => g (il_k k) (il_m x % (n (il_k k) + 1) + z))) ∧ il_fr P M M') := by
  refine il_enter (by decide) (Nat.le_of_ble_eq_true rfl) ?_
  intro p e s m below meth cd hF hw ls hl
  obtain ⟨hx, hb, hr, hlk, hml, hown, hin, hts, hB⟩ := id hF
  have hl : lv_has ls 8 [(0, .ref d), (1, .int t), (2, .int k), (3, .int x), (4, .int y)] := hl
  have hown : s.vm.findClass RX1 = some m.cls := hown
  obtain ⟨mk, ba, rs, ro, hdc⟩ := hdesk
  obtain ⟨hd, hbl, hrs, hmd, ⟨p1, p2, p3, p4⟩, hPM, hrows⟩ := id hdc
  obtain ⟨NB, fb, hmk, hba, hleB, hNB, hgB⟩ := id hbl
  obtain ⟨h, ra, st, ho, hrow, hn, p5, p6, hsh⟩ := hrows (il_k k) (il_k_lt k)
  obtain ⟨N, f, hh, ha, hle, hN, hg⟩ := id hrow
  have hm1 := il_m_lt x
  have hm2 := il_m_lt y
  obtain ⟨f0, ef⟩ : ∃ f0, f0 = il_m x % (n (il_k k) + 1) := ⟨_, rfl⟩
  obtain ⟨c0, ec⟩ : ∃ c0, c0 = il_m y % (n (il_k k) - f0 + 1) := ⟨_, rfl⟩
  have hf0 : f0 < n (il_k k) + 1 := by rw [ef]; exact Nat.mod_lt _ (by omega)
  have hc0 : c0 < n (il_k k) - f0 + 1 := by rw [ec]; exact Nat.mod_lt _ (by omega)
  rw [← ef, ← ec]
  refine lv_aload_n hx hb dX1_part_0 rfl (lv_at hl 0 rfl) ?_
  refine il_get (C := RX1) (T := TX1) (N := 3) hx hb hts in_X1 hown hB hw hd rfl 2 (by decide) (hts _ q145) (fun _ h9 => h9) rfl dX1_part_1 ?_
  refine lv_iload_n hx hb dX1_part_4 rfl (lv_at hl 2 rfl) ?_
  refine lv_iconst (v := 3) hx hb dX1_part_5 (by decide) ?_
  refine lv_iand hx hb dX1_part_6 ?_
  refine il_ti (nI (il_k k)) (il_k_and k) ?_
  refine il_rald (i := (il_k k)) hx hb hB hw hrs (il_k_lt k) (by omega) rfl ho dX1_part_7 ?_
  refine lv_astore (lv' := [(5, .ref h), (0, .ref d), (1, .int t), (2, .int k), (3, .int x), (4, .int y)]) hx hb dX1_part_8 hl (by decide) rfl (fun ls hl => ?_)
  refine lv_iload_n hx hb dX1_part_10 rfl (lv_at hl 4 rfl) ?_
  refine lv_ldc hx hb hown (hts _ q234) dX1_part_11 ?_
  refine lv_iand hx hb dX1_part_13 ?_
  refine il_ti (nI (il_m x)) (il_m_and x) ?_
  refine lv_aload hx hb dX1_part_14 (lv_at hl 0 rfl) ?_
  refine il_ri hw (il_rV (n := 0) (h := h) (As := []) (rest := [.int (nI (il_m x))]) ⟨hx, hb, hml, hown, hts⟩ (met_length hh) (lw_V q157 q158 q159 q5 q160) (by decide +kernel) ⟨Nat.le_of_ble_eq_true rfl, Nat.le_of_ble_eq_true rfl⟩ hB hw hh rfl rfl hl.1 rfl (Nat.le_of_ble_eq_true rfl) dX1_part_16 ⟨(Nat.le_of_ble_eq_true rfl), (Nat.le_of_ble_eq_true rfl)⟩) (fun r M_ H locs hp hw => ?_)
  obtain ⟨rfl, eM_⟩ := hp
  rw [eM_] at hw
  refine lv_iconst (v := 1) hx hb dX1_part_19 (by decide) ?_
  refine lv_iadd hx hb dX1_part_20 ?_
  refine il_ti (nI (n (il_k k) + 1)) (nI_1 _) ?_
  refine lv_irem hx hb dX1_part_21 (nI_ne0 (n := (n (il_k k) + 1)) (by omega) (by omega)) ?_
  refine il_ti (nI ((il_m x) % (n (il_k k) + 1))) (il_rem (a := (il_m x)) (d := (n (il_k k) + 1)) (by omega) (by omega) (by omega)) ?_
  refine il_ti (nI f0) (by rw [ef]) ?_
  refine lv_istore (lv' := [(6, .int (nI f0)), (5, .ref h), (0, .ref d), (1, .int t), (2, .int k), (3, .int x), (4, .int y)]) hx hb dX1_part_22 hl (by decide) rfl (fun ls hl => ?_)
  refine lv_iload hx hb dX1_part_24 (lv_at hl 6 rfl) ?_
  refine lv_ldc hx hb hown (hts _ q234) dX1_part_26 ?_
  refine lv_iand hx hb dX1_part_28 ?_
  refine il_ti (nI (il_m y)) (il_m_and y) ?_
  refine lv_aload hx hb dX1_part_29 (lv_at hl 1 rfl) ?_
  refine il_ri hw (il_rV (n := 0) (h := h) (As := []) (rest := [.int (nI (il_m y))]) ⟨hx, hb, hml, hown, hts⟩ (met_length hh) (lw_V q157 q158 q159 q5 q160) (by decide +kernel) ⟨Nat.le_of_ble_eq_true rfl, Nat.le_of_ble_eq_true rfl⟩ hB hw hh rfl rfl hl.1 rfl (Nat.le_of_ble_eq_true rfl) dX1_part_31 ⟨(Nat.le_of_ble_eq_true rfl), (Nat.le_of_ble_eq_true rfl)⟩) (fun r M_ H locs hp hw => ?_)
  obtain ⟨rfl, eM_⟩ := hp
  rw [eM_] at hw
  refine lv_iload hx hb dX1_part_34 (lv_at hl 0 rfl) ?_
  refine lv_isub hx hb dX1_part_36 ?_
  refine il_ti (nI (n (il_k k) - f0)) (pk_sub (by omega)) ?_
  refine lv_iconst (v := 1) hx hb dX1_part_37 (by decide) ?_
  refine lv_iadd hx hb dX1_part_38 ?_
  refine il_ti (nI (n (il_k k) - f0 + 1)) (nI_1 _) ?_
  refine lv_irem hx hb dX1_part_39 (nI_ne0 (n := (n (il_k k) - f0 + 1)) (by omega) (by omega)) ?_
  refine il_ti (nI ((il_m y) % (n (il_k k) - f0 + 1))) (il_rem (a := (il_m y)) (d := (n (il_k k) - f0 + 1)) (by omega) (by omega) (by omega)) ?_
  refine il_ti (nI c0) (by rw [ec]) ?_
  refine lv_istore (lv' := [(7, .int (nI c0)), (6, .int (nI f0)), (5, .ref h), (0, .ref d), (1, .int t), (2, .int k), (3, .int x), (4, .int y)]) hx hb dX1_part_40 hl (by decide) rfl (fun ls hl => ?_)
  refine lv_aload_n hx hb dX1_part_42 rfl (lv_at hl 3 rfl) ?_
  refine il_get (C := RX1) (T := TX1) (N := 3) hx hb hts in_X1 hown hB hw hd rfl 2 (by decide) (hts _ q145) (fun _ h9 => h9) rfl dX1_part_43 ?_
  refine lv_iload_n hx hb dX1_part_46 rfl (lv_at hl 4 rfl) ?_
  refine lv_iconst (v := 3) hx hb dX1_part_47 (by decide) ?_
  refine lv_iand hx hb dX1_part_48 ?_
  refine il_ti (nI (il_k t)) (il_k_and t) ?_
  refine lv_aload hx hb dX1_part_49 (lv_at hl 2 rfl) ?_
  refine lv_iload hx hb dX1_part_51 (lv_at hl 1 rfl) ?_
  refine lv_iload hx hb dX1_part_53 (lv_at hl 1 rfl) ?_
  refine lv_iload hx hb dX1_part_55 (lv_at hl 0 rfl) ?_
  refine lv_iadd hx hb dX1_part_57 ?_
  refine il_ti (nI (f0 + c0)) (nI_add _ _) ?_
  refine il_rr hw (il_rV (n := 2) (h := h) (As := [.int (nI f0), .int (nI (f0 + c0))]) (rest := [.int (nI (il_k t)), .ref rs]) ⟨hx, hb, hml, hown, hts⟩ (met_subArray hrow (i := f0) (j := f0 + c0) (by omega) (by omega)) (lw_V q235 q236 q237 q5 q238) (by decide +kernel) ⟨Nat.le_of_ble_eq_true rfl, Nat.le_of_ble_eq_true rfl⟩ hB hw hh rfl rfl hl.1 rfl (Nat.le_of_ble_eq_true rfl) dX1_part_58 ⟨(Nat.le_of_ble_eq_true rfl), (Nat.le_of_ble_eq_true rfl)⟩) (fun r1 M1 H locs hp hw => ?_)
  rw [show f0 + c0 - f0 = c0 by omega] at hp
  obtain ⟨a', st', hn1, hx1, hrow1, hor⟩ := hp
  have hd := hx1 _ _ hd
  have hrs := hx1 _ _ hrs
  obtain ⟨N1, f1, hh1, ha1, hle1, hN1, hg1⟩ := id hrow1
  refine il_rast (i := (il_k t)) hx hb hB hw hrs hh1 (il_k_lt t) (by omega) rfl dX1_part_61 (fun H locs hw => ?_)
  have hw : il_W G s (il_up M1 rs (il_eI G 4 (va_up ro (il_k t) (some r1)))) H locs := hw
  have hd := il_up_keep (a := rs) (e := (il_eI G 4 (va_up ro (il_k t) (some r1)))) (il_ne hd hrs (by simp)) hd
  have hh1 := il_up_keep (a := rs) (e := (il_eI G 4 (va_up ro (il_k t) (some r1)))) (il_ne hh1 hrs (by simp)) hh1
  have hrs : il_up M1 rs (il_eI G 4 (va_up ro (il_k t) (some r1))) rs = some (il_eI G 4 (va_up ro (il_k t) (some r1))) := il_up_eq _ _ _
  generalize eM2 : il_up M1 rs (il_eI G 4 (va_up ro (il_k t) (some r1))) = M2 at hw hd hh1 hrs
  have hpa : ¬ P a' := hor.elim (fun z => z.1 ▸ p6) (fun z => il_desk.fresh hdc z)
  have hsh1 : a' = ba → st' + c0 ≤ made := fun z => hor.elim (fun q => Nat.le_trans q.2 (hsh (q.1.symm.trans z))) (fun q => by rw [z, hba] at q; cases q)
  have hv := hdc.setrow (K := il_k t) hx1 hrow1 (by omega) (il_desk.fresh hdc hn1) hpa hsh1
  rw [eM2] at hv
  refine lv_iload hx hb dX1_part_62 (lv_at hl 0 rfl) ?_
  exact il_iret (v := (nI c0)) hx hb hr hlk rfl hw (⟨rfl, ⟨mk, ba, rs, _, hv.1⟩, hv.2⟩) (Nat.le_of_ble_eq_true rfl) (Nat.le_of_ble_eq_true rfl) dX1_part_64
set_option maxHeartbeats 4000000 in
set_option maxRecDepth 100000 in
/-- FixedRowDesk.trim(k) -/
theorem met_dtrim {l : Launch} {G : il_G} {M : il_M} {P : Nat → Prop} {d made : Nat} {mg : Nat → Int64} {n : Nat → Nat} {g : Nat → Nat → Int64} (hdesk : il_desk G P M d made mg n g) {k : Int32} : il_Cv l G yX1_trim cX1_trim 2 5 2 203 [.ref d, .int k] M (fun M' => il_desk G P M' d made mg n g ∧ il_fr P M M') := by
  refine il_enter (by decide) (Nat.le_of_ble_eq_true rfl) ?_
  intro p e s m below meth cd hF hw ls hl
  obtain ⟨hx, hb, hr, hlk, hml, hown, hin, hts, hB⟩ := id hF
  have hl : lv_has ls 2 [(0, .ref d), (1, .int k)] := hl
  have hown : s.vm.findClass RX1 = some m.cls := hown
  obtain ⟨mk, ba, rs, ro, hdc⟩ := hdesk
  obtain ⟨hd, hbl, hrs, hmd, ⟨p1, p2, p3, p4⟩, hPM, hrows⟩ := id hdc
  obtain ⟨NB, fb, hmk, hba, hleB, hNB, hgB⟩ := id hbl
  obtain ⟨h, ra, st, ho, hrow, hn, p5, p6, hsh⟩ := hrows (il_k k) (il_k_lt k)
  obtain ⟨N, f, hh, ha, hle, hN, hg⟩ := id hrow
  refine lv_aload_n hx hb dX1_trim_0 rfl (lv_at hl 0 rfl) ?_
  refine il_get (C := RX1) (T := TX1) (N := 3) hx hb hts in_X1 hown hB hw hd rfl 2 (by decide) (hts _ q145) (fun _ h9 => h9) rfl dX1_trim_1 ?_
  refine lv_iload_n hx hb dX1_trim_4 rfl (lv_at hl 1 rfl) ?_
  refine lv_iconst (v := 3) hx hb dX1_trim_5 (by decide) ?_
  refine lv_iand hx hb dX1_trim_6 ?_
  refine il_ti (nI (il_k k)) (il_k_and k) ?_
  refine lv_aload_n hx hb dX1_trim_7 rfl (lv_at hl 0 rfl) ?_
  refine il_get (C := RX1) (T := TX1) (N := 3) hx hb hts in_X1 hown hB hw hd rfl 2 (by decide) (hts _ q145) (fun _ h9 => h9) rfl dX1_trim_8 ?_
  refine lv_iload_n hx hb dX1_trim_11 rfl (lv_at hl 1 rfl) ?_
  refine lv_iconst (v := 3) hx hb dX1_trim_12 (by decide) ?_
  refine lv_iand hx hb dX1_trim_13 ?_
  refine il_ti (nI (il_k k)) (il_k_and k) ?_
  refine il_rald (i := (il_k k)) hx hb hB hw hrs (il_k_lt k) (by omega) rfl ho dX1_trim_14 ?_
  refine il_rr hw (il_rV (n := 0) (h := h) (As := []) (rest := [.int (nI (il_k k)), .ref rs]) ⟨hx, hb, hml, hown, hts⟩ (met_trimmed hrow (by omega)) (lw_V q379 q380 q381 q5 q382) (by decide +kernel) ⟨Nat.le_of_ble_eq_true rfl, Nat.le_of_ble_eq_true rfl⟩ hB hw hh rfl rfl hl.1 rfl (Nat.le_of_ble_eq_true rfl) dX1_trim_15 ⟨(Nat.le_of_ble_eq_true rfl), (Nat.le_of_ble_eq_true rfl)⟩) (fun r1 M1 H locs hp hw => ?_)
  obtain ⟨a', st', hx1, hrow1, hor⟩ := hp
  have hd := hx1 _ _ hd
  have hrs := hx1 _ _ hrs
  obtain ⟨N1, f1, hh1, ha1, hle1, hN1, hg1⟩ := id hrow1
  refine il_rast (i := (il_k k)) hx hb hB hw hrs hh1 (il_k_lt k) (by omega) rfl dX1_trim_18 (fun H locs hw => ?_)
  have hw : il_W G s (il_up M1 rs (il_eI G 4 (va_up ro (il_k k) (some r1)))) H locs := hw
  have hd := il_up_keep (a := rs) (e := (il_eI G 4 (va_up ro (il_k k) (some r1)))) (il_ne hd hrs (by simp)) hd
  have hh1 := il_up_keep (a := rs) (e := (il_eI G 4 (va_up ro (il_k k) (some r1)))) (il_ne hh1 hrs (by simp)) hh1
  have hrs : il_up M1 rs (il_eI G 4 (va_up ro (il_k k) (some r1))) rs = some (il_eI G 4 (va_up ro (il_k k) (some r1))) := il_up_eq _ _ _
  generalize eM2 : il_up M1 rs (il_eI G 4 (va_up ro (il_k k) (some r1))) = M2 at hw hd hh1 hrs
  have hpr : ¬ P r1 := hor.elim (fun z => z.1 ▸ p5) (fun z => il_desk.fresh hdc z.1)
  have hpa : ¬ P a' := hor.elim (fun z => z.2.1 ▸ p6) (fun z => il_desk.fresh hdc z.2)
  have hsh1 : a' = ba → st' + n (il_k k) ≤ made := fun z => hor.elim (fun q => by rw [q.2.2]; exact hsh (q.2.1.symm.trans z)) (fun q => by have q2 := q.2; rw [z, hba] at q2; cases q2)
  have hv := hdc.setrow (K := il_k k) hx1 hrow1 hn hpr hpa hsh1
  rw [eM2, il_set_self, il_set_self] at hv
  exact il_vret hx hb hr hlk hw (⟨⟨mk, ba, rs, _, hv.1⟩, hv.2⟩) (Nat.le_of_ble_eq_true rfl) (Nat.le_of_ble_eq_true rfl) dX1_trim_19
/-- the desk being made: the builder, and i rows of one number -/
def il_ini (G : il_G) (M : il_M) (d mk ba rs i : Nat) : Prop := ∃ NB fb ro, M d = some (il_eD mk (nI 0) rs) ∧ M mk = some (il_eB ba (nI 0)) ∧ M ba = some (il_eJ G NB fb) ∧ NB < 200 ∧ M rs = some (il_eI G 4 ro) ∧ ∀ k, k < i → ∃ h ra, ro k = some h ∧ il_row G M h ra 0 1 (fun _ => (nI k).toInt64) ∧ ra ≠ ba
theorem il_ini.next {G : il_G} {M : il_M} {d mk ba rs i r a' : Nat} {ro : Nat → Option Nat} (h : ∃ NB fb, M d = some (il_eD mk (nI 0) rs) ∧ M mk = some (il_eB ba (nI 0)) ∧ M ba = some (il_eJ G NB fb) ∧ NB < 200 ∧ ∀ k, k < i → ∃ h ra, ro k = some h ∧ il_row G M h ra 0 1 (fun _ => (nI k).toInt64) ∧ ra ≠ ba) (hrs : M rs = some (il_eI G 4 ro)) (hr : il_row G M r a' 0 1 (fun _ => (nI i).toInt64)) (hne : a' ≠ ba) : il_ini G (il_up M rs (il_eI G 4 (va_up ro i (some r)))) d mk ba rs (i + 1) := by
  obtain ⟨NB, fb, h1, h2, h3, h4, h5⟩ := h
  refine ⟨NB, fb, _, il_up_keep (il_ne h1 hrs (by simp)) h1, il_up_keep (il_ne h2 hrs (by simp)) h2, il_up_keep (il_ne h3 hrs (by simp)) h3, h4, il_up_eq _ _ _, fun k hk => ?_⟩
  by_cases z : k = i
  · subst z
    obtain ⟨N, f, x1, x2, -⟩ := id hr
    exact ⟨r, a', va_up_self _ _ _, hr.up (il_ne x1 hrs (by simp)) (il_ne x2 hrs (by simp)), hne⟩
  · obtain ⟨h0, ra, y1, y2, y3⟩ := h5 k (by omega)
    obtain ⟨N, f, x1, x2, -⟩ := id y2
    exact ⟨h0, ra, by rw [va_up_ne _ _ z]; exact y1, y2.up (il_ne x1 hrs (by simp)) (il_ne x2 hrs (by simp)), y3⟩
set_option maxHeartbeats 4000000 in
set_option maxRecDepth 100000 in
/-- FixedRowDesk() -/
theorem met_dinit {l : Launch} {G : il_G} {M : il_M} {d : Nat} {mg : Nat → Int64} (hd : M d = some (.inr (0, [.null, .int 0, .null]))) : il_Cv l G yX1_init cX1_init 2 4 11 70 [.ref d] M (fun M' => il_desk G (fun _ => False) M' d 0 mg (fun _ => 1) (fun k _ => (nI k).toInt64)) := by
  refine il_enter (by decide) (Nat.le_of_ble_eq_true rfl) ?_
  intro p e s m below meth cd hF hw ls hl
  obtain ⟨hx, hb, hr, hlk, hml, hown, hin, hts, hB⟩ := id hF
  have hl : lv_has ls 2 [(0, .ref d)] := hl
  have hown : s.vm.findClass RX1 = some m.cls := hown
  refine lv_aload_n hx hb dX1_init_0 rfl (lv_at hl 0 rfl) ?_
  refine W.objInit hx hb hown (hts _ q25) (hts _ q26) (hts _ q27) rfl (by rw [hml]; exact hl.1) rfl dX1_init_1 (Nat.le_of_ble_eq_true rfl) (Nat.le_of_ble_eq_true rfl) ?_
  refine W.eq (g2 := F0 m 4 ls []) rfl ?_
  refine lv_aload_n hx hb dX1_init_4 rfl (lv_at hl 0 rfl) ?_
  refine lv_iconst (v := 4) hx hb dX1_init_5 (by decide) ?_
  refine il_rr hw (il_rS (n := 1) (As := [.int 4]) (rest := [.ref d]) ⟨hx, hb, hml, hown, hts⟩ (met_builder (g := mg) (n := 4) (by omega)) (lw_S q28 q29 q5 q30) (by decide +kernel) ⟨Nat.le_of_ble_eq_true rfl, Nat.le_of_ble_eq_true rfl⟩ hB hw rfl hl.1 rfl (Nat.le_of_ble_eq_true rfl) dX1_init_6 ⟨(Nat.le_of_ble_eq_true rfl), (Nat.le_of_ble_eq_true rfl)⟩) (fun mk M1 H locs hp hw => ?_)
  obtain ⟨ba, hn1, hn2, hx1, hb1⟩ := hp
  have hd := hx1 _ _ hd
  obtain ⟨NB, fb, hmk, hba, hB3⟩ := hb1
  refine il_put (C := RX1) (T := TX1) (N := 3) (ty := .object RX4) (v := .ref mk) hx hb hts in_X1 tyX1 tyX1_ok nmX1 hown hB hw hd rfl 0 (by decide) (hts _ q143) (fun _ h9 => h9) rfl (by decide +kernel) rfl rfl (Nat.le_of_ble_eq_true rfl) dX1_init_9 (fun H locs hw => ?_)
  have hw : il_W G s (il_up M1 d (.inr (0, [.ref mk, .int 0, .null]))) H locs := hw
  have hmk := il_up_keep (a := d) (e := (.inr (0, [.ref mk, .int 0, .null]))) (il_ne hmk hd (by simp)) hmk
  have hba := il_up_keep (a := d) (e := (.inr (0, [.ref mk, .int 0, .null]))) (il_ne hba hd (by simp)) hba
  have hd : il_up M1 d (.inr (0, [.ref mk, .int 0, .null])) d = some (.inr (0, [.ref mk, .int 0, .null])) := il_up_eq _ _ _
  generalize eM2 : il_up M1 d (.inr (0, [.ref mk, .int 0, .null])) = M2 at hw hmk hba hd
  refine lv_aload_n hx hb dX1_init_12 rfl (lv_at hl 0 rfl) ?_
  refine lv_iconst (v := 4) hx hb dX1_init_13 (by decide) ?_
  refine il_newI (n := 4) hx hb hown (hts _ q117) hB hw (by omega) rfl (Nat.le_of_ble_eq_true rfl) (Nat.le_of_ble_eq_true rfl) dX1_init_14 (fun rs H locs hn_rs hw => ?_)
  have hw : il_W G s (il_up M2 rs (il_eI G 4 (fun _ => none))) H locs := hw
  have hmk := il_up_keep (a := rs) (e := (il_eI G 4 (fun _ => none))) (il_new hn_rs hmk) hmk
  have hba := il_up_keep (a := rs) (e := (il_eI G 4 (fun _ => none))) (il_new hn_rs hba) hba
  have hd := il_up_keep (a := rs) (e := (il_eI G 4 (fun _ => none))) (il_new hn_rs hd) hd
  have hrs : il_up M2 rs (il_eI G 4 (fun _ => none)) rs = some (il_eI G 4 (fun _ => none)) := il_up_eq _ _ _
  generalize eM3 : il_up M2 rs (il_eI G 4 (fun _ => none)) = M3 at hw hmk hba hd hrs
  refine il_putF (C := RX1) (T := TX1) (N := 3) (ty := .array (.object RX2)) (v := .ref rs) hx hb hts in_X1 tyX1 tyX1_ok nmX1 hown hB hw hd rfl 2 (by decide) (hts _ q145) (fun _ h9 => h9) rfl hin rfl (by decide +kernel) rfl rfl (Nat.le_of_ble_eq_true rfl) dX1_init_17 (fun H locs hw => ?_)
  have hw : il_W G s (il_up M3 d (.inr (0, [.ref mk, .int 0, .ref rs]))) H locs := hw
  have hmk := il_up_keep (a := d) (e := (.inr (0, [.ref mk, .int 0, .ref rs]))) (il_ne hmk hd (by simp)) hmk
  have hba := il_up_keep (a := d) (e := (.inr (0, [.ref mk, .int 0, .ref rs]))) (il_ne hba hd (by simp)) hba
  have hrs := il_up_keep (a := d) (e := (.inr (0, [.ref mk, .int 0, .ref rs]))) (il_ne hrs hd (by simp)) hrs
  have hd : il_up M3 d (.inr (0, [.ref mk, .int 0, .ref rs])) d = some (.inr (0, [.ref mk, .int 0, .ref rs])) := il_up_eq _ _ _
  generalize eM4 : il_up M3 d (.inr (0, [.ref mk, .int 0, .ref rs])) = M4 at hw hmk hba hrs hd
  refine W.widen (k := 3) (n := 54) (by omega) (by omega) ?_
  refine lv_iconst (v := 0) hx hb dX1_init_20 (by decide) ?_
  refine lv_istore_n (lv' := [(1, .int 0), (0, .ref d)]) hx hb dX1_init_21 rfl hl (by decide) rfl (fun ls hl => ?_)
  have hlp : il_ini G M4 d mk ba rs 0 := ⟨NB, fb, _, hd, hmk, hba, hB3.2.1, hrs, fun k hk => absurd hk (by omega)⟩
  clear hd hmk hba hrs eM4
  have loop : ∀ (k : Nat) (i : Nat), (i + k = 4) → ∀ (M4 : il_M), (il_ini G M4 d mk ba rs i) → ∀ (H : Heap) (locs : List Loc), il_W G s M4 H locs → ∀ ls : Array Slot, lv_has ls 2 [(0, .ref d), (1, .int (nI i))] → W p l e (il_R 4 11 70) s m ([.ref d] : List Value).toArray below meth cd H locs (3 + 2 * i) (54 + 4 * i) (MQ below (il_Qv G (fun M' => il_desk G (fun _ => False) M' d 0 mg (fun _ => 1) (fun k _ => (nI k).toInt64))) ([.ref d] : List Value).toArray s 11 70 (il_A G)) (F0 m 22 ls []) := by
    intro k
    induction k with
    | zero =>
      intro i hik M4 hlp H locs hw ls hl
      obtain ⟨NB, fb, ro, hd, hmk, hba, hNB, hrs, hrows⟩ := hlp
      refine lv_iload_n hx hb dX1_init_22 rfl (lv_at hl 1 rfl) ?_
      refine lv_iconst (v := 4) hx hb dX1_init_23 (by decide) ?_
      refine lv_icmp_ge (tgt := 44) hx hb dX1_init_24 (by decide) (fun c => ?_) (fun c => False.elim (by have c : ¬ (4 ≤ i) := fun z => c ((nI_leI (a := 4) (b := i) (by omega) (by omega)).mpr z); omega))
      have c : 4 ≤ i := (nI_leI (a := 4) (b := i) (by omega) (by omega)).mp c
      exact il_vret hx hb hr hlk hw (⟨mk, ba, rs, ro, hd, ⟨NB, fb, hmk, hba, Nat.zero_le _, hNB, fun j hj => absurd hj (by omega)⟩, hrs, by omega, ⟨id, id, id, id⟩, fun q hq => hq.elim, fun k hk => by obtain ⟨h, ra, h1, h2, h3⟩ := hrows k (by omega); exact ⟨h, ra, 0, h1, h2, (by show 1 ≤ 96; decide), id, id, fun z => absurd z h3⟩⟩) (by omega) (by omega) dX1_init_44
    | succ k ih =>
      intro i hik M4 hlp H locs hw ls hl
      obtain ⟨NB, fb, ro, hd, hmk, hba, hNB, hrs, hrows⟩ := hlp
      refine lv_iload_n hx hb dX1_init_22 rfl (lv_at hl 1 rfl) ?_
      refine lv_iconst (v := 4) hx hb dX1_init_23 (by decide) ?_
      refine lv_icmp_ge (tgt := 44) hx hb dX1_init_24 (by decide) (fun c => False.elim (by have c : 4 ≤ i := (nI_leI (a := 4) (b := i) (by omega) (by omega)).mp c; omega)) (fun c => ?_)
      have c : ¬ (4 ≤ i) := fun z => c ((nI_leI (a := 4) (b := i) (by omega) (by omega)).mpr z)
      refine lv_aload_n hx hb dX1_init_27 rfl (lv_at hl 0 rfl) ?_
      refine il_get (C := RX1) (T := TX1) (N := 3) hx hb hts in_X1 hown hB hw hd rfl 2 (by decide) (hts _ q145) (fun _ h9 => h9) rfl dX1_init_28 ?_
      refine lv_iload_n hx hb dX1_init_31 rfl (lv_at hl 1 rfl) ?_
      refine lv_iload_n hx hb dX1_init_32 rfl (lv_at hl 1 rfl) ?_
      refine lv_i2l hx hb dX1_init_33 rfl ?_
      refine il_rr hw (il_rS (n := 1) (As := [.long (((nI i) : Int32).toInt64)]) (rest := [.int (nI i), .ref rs]) ⟨hx, hb, hml, hown, hts⟩ met_of (lw_S q119 q120 q5 q121) (by decide +kernel) ⟨Nat.le_of_ble_eq_true rfl, Nat.le_of_ble_eq_true rfl⟩ hB hw rfl hl.1 rfl (Nat.le_of_ble_eq_true rfl) dX1_init_34 ⟨(by show 3 + 2 * i + 2 ≤ 11; omega), (by show 54 + 4 * i + 4 ≤ 70; omega)⟩) (fun r1 M5 H locs hp hw => ?_)
      obtain ⟨a', hn3, hn4, hx5, hrow5⟩ := hp
      have hd := hx5 _ _ hd
      have hrs := hx5 _ _ hrs
      obtain ⟨N5, f5, hh5, ha5, -⟩ := id hrow5
      have hd5 := hd
      have hrs5 := hrs
      refine il_rast (i := i) hx hb hB hw hrs hh5 (by omega) (by omega) rfl dX1_init_37 (fun H locs hw => ?_)
      have hw : il_W G s (il_up M5 rs (il_eI G 4 (va_up ro i (some r1)))) H locs := hw
      have hd := il_up_keep (a := rs) (e := (il_eI G 4 (va_up ro i (some r1)))) (il_ne hd hrs (by simp)) hd
      have hh5 := il_up_keep (a := rs) (e := (il_eI G 4 (va_up ro i (some r1)))) (il_ne hh5 hrs (by simp)) hh5
      have hrs : il_up M5 rs (il_eI G 4 (va_up ro i (some r1))) rs = some (il_eI G 4 (va_up ro i (some r1))) := il_up_eq _ _ _
      generalize eM6 : il_up M5 rs (il_eI G 4 (va_up ro i (some r1))) = M6 at hw hd hh5 hrs
      refine lv_iinc (v := nI (i + 1)) (lv' := [(1, .int (nI (i + 1))), (0, .ref d)]) hx hb dX1_init_38 hl (k := 1) rfl (by exact nI_1 i) (by decide) rfl (fun ls hl => ?_)
      refine lv_goto (tgt := 22) hx hb dX1_init_41 (by decide) ?_
      refine W.widen (k := (3 + 2 * (i + 1))) (n := (54 + 4 * (i + 1))) (by omega) (by omega) ?_
      exact ih (i + 1) (by omega) M6 (eM6 ▸ il_ini.next ⟨NB, fb, hd5, hx5 _ _ hmk, hx5 _ _ hba, hNB, fun k hk => by obtain ⟨h, ra, h1, h2, h3⟩ := hrows k hk; exact ⟨h, ra, h1, h2.ext hx5, h3⟩⟩ hrs5 hrow5 (fun z => by rw [z, hba] at hn4; cases hn4)) _ _ hw ls (lv_sub hl [1, 0] rfl)
  exact loop 4 0 (by omega) M4 hlp _ _ hw ls (lv_sub hl [1, 0] rfl)
end
section
/-! THE LAW's world: the desk, its own rows (an array of arrays), the numbers of the maker; P: the law's own cells -/
set_option maxRecDepth 100000
def il_lrows (G : il_G) (P : Nat → Prop) (M : il_M) (am : Nat) (lr : Nat → Option Nat) (n : Nat → Nat) (g : Nat → Nat → Int64) : Prop := ∀ k, k < 4 → ∃ q f, lr k = some q ∧ P q ∧ q ≠ am ∧ M q = some (il_eJ G (n k) f) ∧ ∀ j, j < n k → f j = g k j
/-- the law's own part; the maker has the numbers mg below t -/
def il_own (G : il_G) (P : Nat → Prop) (M : il_M) (ar am : Nat) (lr : Nat → Option Nat) (mf : Nat → Int64) (n : Nat → Nat) (g : Nat → Nat → Int64) (mg : Nat → Int64) (t : Nat) : Prop := P ar ∧ P am ∧ M ar = some (il_eL G 4 lr) ∧ il_lrows G P M am lr n g ∧ M am = some (il_eJ G 96 mf) ∧ ∀ j, j < t → mf j = mg j
/-- desk and law side by side: the desk's rows are n, g, the law's are nl, gl -/
def il_law2 (G : il_G) (P : Nat → Prop) (M : il_M) (d ar am made : Nat) (mg : Nat → Int64) (n : Nat → Nat) (g : Nat → Nat → Int64) (nl : Nat → Nat) (gl : Nat → Nat → Int64) : Prop := il_desk G P M d made mg n g ∧ ∃ lr mf, il_own G P M ar am lr mf nl gl mg made
abbrev il_law (G : il_G) (P : Nat → Prop) (M : il_M) (d ar am made : Nat) (mg : Nat → Int64) (n : Nat → Nat) (g : Nat → Nat → Int64) : Prop := il_law2 G P M d ar am made mg n g n g
theorem il_ext.law {G : il_G} {P : Nat → Prop} {M M' : il_M} {ar am : Nat} {lr : Nat → Option Nat} {mf : Nat → Int64} {n : Nat → Nat} {g : Nat → Nat → Int64} {mg : Nat → Int64} {t : Nat} (hx : il_ext M M') (h : il_own G P M ar am lr mf n g mg t) : il_own G P M' ar am lr mf n g mg t := by
  obtain ⟨h1, h2, h3, h4, h5, h6⟩ := h
  exact ⟨h1, h2, hx _ _ h3, fun k hk => by obtain ⟨q, f, r1, r2, r3, r4, r5⟩ := h4 k hk; exact ⟨q, f, r1, r2, r3, hx _ _ r4, r5⟩, hx _ _ h5, h6⟩
theorem il_law2.ext {G : il_G} {P : Nat → Prop} {M M' : il_M} {d ar am made : Nat} {mg : Nat → Int64} {n nl : Nat → Nat} {g gl : Nat → Nat → Int64} (h : il_law2 G P M d ar am made mg n g nl gl) (hx : il_ext M M') : il_law2 G P M' d ar am made mg n g nl gl := by
  obtain ⟨h1, lr, mf, h2⟩ := h
  exact ⟨h1.ext hx, lr, mf, hx.law h2⟩
theorem il_desk.made {G : il_G} {P : Nat → Prop} {M : il_M} {d made : Nat} {mg : Nat → Int64} {n : Nat → Nat} {g : Nat → Nat → Int64} (h : il_desk G P M d made mg n g) : made ≤ 96 := by
  obtain ⟨mk, ba, rs, ro, h⟩ := h
  exact h.2.2.2.1
theorem il_desk.len {G : il_G} {P : Nat → Prop} {M : il_M} {d made : Nat} {mg : Nat → Int64} {n : Nat → Nat} {g : Nat → Nat → Int64} (h : il_desk G P M d made mg n g) {k : Nat} (hk : k < 4) : n k ≤ 96 := by
  obtain ⟨mk, ba, rs, ro, h⟩ := h
  obtain ⟨h0, ra, st, -, -, h1, -⟩ := h.2.2.2.2.2.2 k hk
  exact h1
theorem il_desk.obj {G : il_G} {P : Nat → Prop} {M : il_M} {d made : Nat} {mg : Nat → Int64} {n : Nat → Nat} {g : Nat → Nat → Int64} (h : il_desk G P M d made mg n g) : ∃ mk rs, M d = some (il_eD mk (nI made) rs) := by
  obtain ⟨mk, ba, rs, ro, h⟩ := h
  exact ⟨mk, rs, h.1⟩
/-- a write at one of P's cells, a new cell: the desk stays -/
theorem il_desk.mono {G : il_G} {P P' : Nat → Prop} {M M' : il_M} {d made : Nat} {mg : Nat → Int64} {n : Nat → Nat} {g : Nat → Nat → Int64} (h : il_desk G P M d made mg n g) (hk : ∀ x e, M x = some e → ¬ P x → M' x = some e ∧ ¬ P' x) (hP : ∀ q, P' q → ∃ e, M' q = some e) : il_desk G P' M' d made mg n g := by
  obtain ⟨mk, ba, rs, ro, p1, ⟨NB, fb, b1, b2, b3⟩, p3, p4, ⟨p5, p6, p7, p8⟩, p9, p10⟩ := h
  refine ⟨mk, ba, rs, ro, (hk _ _ p1 p5).1, ⟨NB, fb, (hk _ _ b1 p6).1, (hk _ _ b2 p7).1, b3⟩, (hk _ _ p3 p8).1, p4, ⟨(hk _ _ p1 p5).2, (hk _ _ b1 p6).2, (hk _ _ b2 p7).2, (hk _ _ p3 p8).2⟩, hP, fun k hk' => ?_⟩
  obtain ⟨h0, ra, st, r1, ⟨N, f, x1, x2, x3⟩, r3, r4, r5, r6⟩ := p10 k hk'
  exact ⟨h0, ra, st, r1, ⟨N, f, (hk _ _ x1 r4).1, (hk _ _ x2 r5).1, x3⟩, r3, (hk _ _ x1 r4).2, (hk _ _ x2 r5).2, r6⟩
theorem il_desk.pm {G : il_G} {P : Nat → Prop} {M : il_M} {d made : Nat} {mg : Nat → Int64} {n : Nat → Nat} {g : Nat → Nat → Int64} (h : il_desk G P M d made mg n g) : ∀ q, P q → ∃ e, M q = some e := by
  obtain ⟨mk, ba, rs, ro, h⟩ := h
  exact h.2.2.2.2.2.1
theorem il_desk.up {G : il_G} {P : Nat → Prop} {M : il_M} {d made : Nat} {mg : Nat → Int64} {n : Nat → Nat} {g : Nat → Nat → Int64} (h : il_desk G P M d made mg n g) {x : Nat} {e : va_E} (hx : P x) : il_desk G P (il_up M x e) d made mg n g := by
  refine h.mono (fun y e' hy hp => ⟨il_up_keep (fun z => hp (z ▸ hx)) hy, hp⟩) (fun q hq => ?_)
  by_cases z : q = x
  · exact ⟨e, by rw [z]; exact il_up_eq _ _ _⟩
  · obtain ⟨e', he⟩ := h.pm q hq
    exact ⟨e', il_up_keep z he⟩
theorem il_desk.new {G : il_G} {P : Nat → Prop} {M : il_M} {d made : Nat} {mg : Nat → Int64} {n : Nat → Nat} {g : Nat → Nat → Int64} (h : il_desk G P M d made mg n g) {x : Nat} {e : va_E} (hx : M x = none) : il_desk G (fun q => P q ∨ q = x) (il_up M x e) d made mg n g := by
  refine h.mono (fun y e' hy hp => ⟨il_up_keep (il_new hx hy) hy, fun z => z.elim hp (il_new hx hy)⟩) (fun q hq => ?_)
  by_cases z : q = x
  · exact ⟨e, by rw [z]; exact il_up_eq _ _ _⟩
  · obtain ⟨e', he⟩ := h.pm q (hq.resolve_right z)
    exact ⟨e', il_up_keep z he⟩
theorem il_lrows.fr {G : il_G} {P : Nat → Prop} {M M' : il_M} {am : Nat} {lr : Nat → Option Nat} {n : Nat → Nat} {g : Nat → Nat → Int64} (h : il_lrows G P M am lr n g) (hf : il_fr P M M') : il_lrows G P M' am lr n g := fun k hk => by
  obtain ⟨q, f, h1, h2, h3, h4, h5⟩ := h k hk
  exact ⟨q, f, h1, h2, h3, hf _ _ h2 h4, h5⟩
theorem il_own.fr {G : il_G} {P : Nat → Prop} {M M' : il_M} {ar am : Nat} {lr : Nat → Option Nat} {mf : Nat → Int64} {n : Nat → Nat} {g : Nat → Nat → Int64} {mg : Nat → Int64} {t : Nat} (h : il_own G P M ar am lr mf n g mg t) (hf : il_fr P M M') : il_own G P M' ar am lr mf n g mg t := by
  obtain ⟨h1, h2, h3, h4, h5, h6⟩ := h
  exact ⟨h1, h2, hf _ _ h1 h3, h4.fr hf, hf _ _ h2 h5, h6⟩
/-- a number is laid into the maker -/
theorem il_own.put {G : il_G} {P : Nat → Prop} {M : il_M} {ar am : Nat} {lr : Nat → Option Nat} {mf : Nat → Int64} {n : Nat → Nat} {g : Nat → Nat → Int64} {mg : Nat → Int64} {t : Nat} (h : il_own G P M ar am lr mf n g mg t) {mg' : Nat → Int64} {v : Int64} (e : ∀ j, j < t → mg j = mg' j) (hv : v = mg' t) : il_own G P (il_up M am (il_eJ G 96 (vp_updL mf t v))) ar am lr (vp_updL mf t v) n g mg' (t + 1) := by
  obtain ⟨h1, h2, h3, h4, h5, h6⟩ := h
  refine ⟨h1, h2, il_up_keep (il_ne h3 h5 (by simp)) h3, fun k hk => ?_, il_up_eq _ _ _, fun j hj => ?_⟩
  · obtain ⟨q, f, r1, r2, r3, r4, r5⟩ := h4 k hk
    exact ⟨q, f, r1, r2, r3, il_up_keep r3 r4, r5⟩
  · by_cases z : j = t
    · rw [z, pk_uLs]
      exact hv
    · rw [pk_uLn z, h6 j (by omega), e j (by omega)]
theorem il_own.mg {G : il_G} {P : Nat → Prop} {M : il_M} {ar am : Nat} {lr : Nat → Option Nat} {mf : Nat → Int64} {n : Nat → Nat} {g : Nat → Nat → Int64} {mg mg' : Nat → Int64} {t t' : Nat} (h : il_own G P M ar am lr mf n g mg t) (ht : t' ≤ t) (e : ∀ j, j < t' → mg j = mg' j) : il_own G P M ar am lr mf n g mg' t' := by
  obtain ⟨h1, h2, h3, h4, h5, h6⟩ := h
  exact ⟨h1, h2, h3, h4, h5, fun j hj => by rw [h6 j (by omega), e j hj]⟩
/-- a new array, then it is a row of the law's -/
theorem il_own.row {G : il_G} {P : Nat → Prop} {M : il_M} {ar am : Nat} {lr : Nat → Option Nat} {mf : Nat → Int64} {n : Nat → Nat} {g : Nat → Nat → Int64} {mg : Nat → Int64} {t : Nat} (h : il_own G P M ar am lr mf n g mg t) {q K N : Nat} {f : Nat → Int64} {gr : Nat → Int64} (hq : M q = none) (hK : K < 4) (hf : ∀ j, j < N → f j = gr j) : il_own G (fun x => P x ∨ x = q) (il_up (il_up M q (il_eJ G N f)) ar (il_eL G 4 (va_up lr K (some q)))) ar am (va_up lr K (some q)) mf (il_set n K N) (il_set g K gr) mg t := by
  obtain ⟨h1, h2, h3, h4, h5, h6⟩ := h
  have hqa : q ≠ ar := Ne.symm (il_new hq h3)
  refine ⟨Or.inl h1, Or.inl h2, il_up_eq _ _ _, fun k hk => ?_, il_up_keep (il_ne h5 h3 (by simp)) (il_up_keep (il_new hq h5) h5), h6⟩
  by_cases z : k = K
  · subst z
    rw [il_set_eq, il_set_eq]
    exact ⟨q, f, va_up_self _ _ _, Or.inr rfl, Ne.symm (il_new hq h5), il_up_keep hqa (il_up_eq _ _ _), hf⟩
  · obtain ⟨q', f', r1, r2, r3, r4, r5⟩ := h4 k hk
    rw [il_set_ne z, il_set_ne z]
    exact ⟨q', f', by rw [va_up_ne _ _ z]; exact r1, Or.inl r2, r3, il_up_keep (il_ne r4 h3 (by simp)) (il_up_keep (il_new hq r4) r4), r5⟩
end
section
/-! CONTRACTS: the law's own small methods (printed by wip/D-17801w/gen/m26.py) -/
set_option maxRecDepth 100000
set_option maxHeartbeats 4000000 in
set_option maxRecDepth 100000 in
/-- cell(s, i) -/
theorem met_cell {l : Launch} {G : il_G} {M : il_M} {i : Nat} (hi : i < 2 ^ 31) (hn : il_n G ≤ 96) : il_Ci l G yX0_cell cX0_cell 2 (.int) 0 0 0 [.ref (il_b G), .int (nI i)] M (fun _ M' => M' = M) := by
  refine il_enter (by decide) (Nat.le_of_ble_eq_true rfl) ?_
  intro p e s m below meth cd hF hw ls hl
  obtain ⟨hx, hb, hr, hlk, hml, hown, hin, hts, hB⟩ := id hF
  have hl : lv_has ls 2 [(0, .ref (il_b G)), (1, .int (nI i))] := hl
  have hown : s.vm.findClass RX0 = some m.cls := hown
  refine lv_iload_n hx hb dX0_cell_0 rfl (lv_at hl 1 rfl) ?_
  refine lv_aload_n hx hb dX0_cell_1 rfl (lv_at hl 0 rfl) ?_
  refine il_slen hx hb hB hw dX0_cell_2 ?_
  refine lv_icmp_ge (tgt := 12) hx hb dX0_cell_3 (by decide) (fun c => ?_) (fun c => ?_)
  · have c : (il_n G) ≤ i := (nI_leI (a := (il_n G)) (b := i) (by omega) (by omega)).mp c
    refine lv_iconst (v := 0) hx hb dX0_cell_12 (by decide) ?_
    exact il_iret (v := 0) hx hb hr hlk rfl hw rfl (Nat.le_of_ble_eq_true rfl) (Nat.le_of_ble_eq_true rfl) dX0_cell_13
  · have c : ¬ ((il_n G) ≤ i) := fun z => c ((nI_leI (a := (il_n G)) (b := i) (by omega) (by omega)).mpr z)
    refine lv_aload_n hx hb dX0_cell_6 rfl (lv_at hl 0 rfl) ?_
    refine lv_iload_n hx hb dX0_cell_7 rfl (lv_at hl 1 rfl) ?_
    refine il_sld (i := i) hx hb hB hw (by omega) (by omega) rfl dX0_cell_8 ?_
    refine lv_goto (tgt := 13) hx hb dX0_cell_9 (by decide) ?_
    exact il_iret (v := (il_x G i)) hx hb hr hlk rfl hw rfl (Nat.le_of_ble_eq_true rfl) (Nat.le_of_ble_eq_true rfl) dX0_cell_13
set_option maxHeartbeats 4000000 in
set_option maxRecDepth 100000 in
/-- the law's of(high, low) -/
theorem met_lof {l : Launch} {G : il_G} {M : il_M} {hi lo : Int32} : il_Cl l G yX0_of cX0_of 2 0 0 0 [.int hi, .int lo] M (fun r M' => r = il_of hi lo ∧ M' = M) := by
  refine il_enter (by decide) (Nat.le_of_ble_eq_true rfl) ?_
  intro p e s m below meth cd hF hw ls hl
  obtain ⟨hx, hb, hr, hlk, hml, hown, hin, hts, hB⟩ := id hF
  have hl : lv_has ls 2 [(0, .int hi), (1, .int lo)] := hl
  have hown : s.vm.findClass RX0 = some m.cls := hown
  refine lv_iload_n hx hb dX0_of_0 rfl (lv_at hl 0 rfl) ?_
  refine lv_i2l hx hb dX0_of_1 rfl ?_
  refine lv_ldc2 hx hb hown (hts _ q369) dX0_of_2 ?_
  refine lv_lmul hx hb dX0_of_5 ?_
  refine lv_iload_n hx hb dX0_of_6 rfl (lv_at hl 1 rfl) ?_
  refine lv_i2l hx hb dX0_of_7 rfl ?_
  refine lv_ldc2 hx hb hown (hts _ q370) dX0_of_8 ?_
  refine lv_land hx hb dX0_of_11 ?_
  refine lv_ladd hx hb dX0_of_12 ?_
  exact il_lret (v := ((((hi : Int32).toInt64) * 4294967296) + (((lo : Int32).toInt64) &&& 4294967295))) hx hb hr hlk hw (⟨rfl, rfl⟩) (Nat.le_of_ble_eq_true rfl) (Nat.le_of_ble_eq_true rfl) dX0_of_13
set_option maxHeartbeats 4000000 in
set_option maxRecDepth 100000 in
/-- the law's part(from, at, many) -/
theorem met_lpart {l : Launch} {G : il_G} {M : il_M} {a n : Nat} {f : Nat → Int64} (ha : M a = some (il_eJ G n f)) (hn : n ≤ 96) {st k : Nat} (hk : st + k ≤ n) : il_Cr l G yX0_part cX0_part 5 (.array .long) 0 1 100 [.ref a, .int (nI st), .int (nI k)] M (fun r M' => M r = none ∧ ∃ f', M' = il_up M r (il_eJ G k f') ∧ ∀ j, j < k → f' j = f (st + j)) := by
  refine il_enter (by decide) (Nat.le_of_ble_eq_true rfl) ?_
  intro p e s m below meth cd hF hw ls hl
  obtain ⟨hx, hb, hr, hlk, hml, hown, hin, hts, hB⟩ := id hF
  have hl : lv_has ls 5 [(0, .ref a), (1, .int (nI st)), (2, .int (nI k))] := hl
  have hown : s.vm.findClass RX0 = some m.cls := hown
  have ha0 := ha
  refine lv_iload_n hx hb dX0_part_0 rfl (lv_at hl 2 rfl) ?_
  refine il_newJ (n := k) hx hb hts hB hw (by omega) rfl (Nat.le_of_ble_eq_true rfl) (by show 0 + k ≤ 100; omega) dX0_part_1 (fun q H locs hn_q hw => ?_)
  have hw : il_W G s (il_up M q (il_eJ G k (fun _ => 0))) H locs := hw
  have ha := il_up_keep (a := q) (e := (il_eJ G k (fun _ => 0))) (il_new hn_q ha) ha
  have hq : il_up M q (il_eJ G k (fun _ => 0)) q = some (il_eJ G k (fun _ => 0)) := il_up_eq _ _ _
  generalize eM1 : il_up M q (il_eJ G k (fun _ => 0)) = M1 at hw ha hq
  refine W.widen (k := 1) (n := 100) (by omega) (by omega) ?_
  refine lv_astore_n (lv' := [(3, .ref q), (0, .ref a), (1, .int (nI st)), (2, .int (nI k))]) hx hb dX0_part_3 rfl hl (by decide) rfl (fun ls hl => ?_)
  refine lv_iconst (v := 0) hx hb dX0_part_4 (by decide) ?_
  refine lv_istore (lv' := [(4, .int 0), (3, .ref q), (0, .ref a), (1, .int (nI st)), (2, .int (nI k))]) hx hb dX0_part_5 hl (by decide) rfl (fun ls hl => ?_)
  have hlp : ∃ f', M1 = il_up M q (il_eJ G k f') ∧ ∀ j, j < 0 → f' j = f (st + j) := ⟨_, eM1.symm, fun j hj => absurd hj (by omega)⟩
  have hnq := il_new hn_q ha0
  clear hq eM1
  have loop : ∀ (k' : Nat) (i : Nat), (i + k' = k) → ∀ (M1 : il_M), (∃ f', M1 = il_up M q (il_eJ G k f') ∧ ∀ j, j < i → f' j = f (st + j)) → ∀ (H : Heap) (locs : List Loc), il_W G s M1 H locs → ∀ ls : Array Slot, lv_has ls 5 [(0, .ref a), (1, .int (nI st)), (2, .int (nI k)), (3, .ref q), (4, .int (nI i))] → W p l e (il_R 0 1 100) s m ([.ref a, .int (nI st), .int (nI k)] : List Value).toArray below meth cd H locs 1 100 (MQ below (il_Qr G (fun r M' => M r = none ∧ ∃ f', M' = il_up M r (il_eJ G k f') ∧ ∀ j, j < k → f' j = f (st + j))) ([.ref a, .int (nI st), .int (nI k)] : List Value).toArray s 1 100 (il_A G)) (F0 m 7 ls []) := by
    intro k'
    induction k' with
    | zero =>
      intro i hik M1 hlp H locs hw ls hl
      obtain ⟨f', eM1, hf'⟩ := hlp
      have hq : M1 q = some (il_eJ G k f') := by rw [eM1]; exact il_up_eq _ _ _
      have ha : M1 a = some (il_eJ G n f) := by rw [eM1]; exact il_up_keep hnq ha0
      refine lv_iload hx hb dX0_part_7 (lv_at hl 4 rfl) ?_
      refine lv_iload_n hx hb dX0_part_9 rfl (lv_at hl 2 rfl) ?_
      refine lv_icmp_ge (tgt := 29) hx hb dX0_part_10 (by decide) (fun c => ?_) (fun c => False.elim (by have c : ¬ (k ≤ i) := fun z => c ((nI_leI (a := k) (b := i) (by omega) (by omega)).mpr z); omega))
      have c : k ≤ i := (nI_leI (a := k) (b := i) (by omega) (by omega)).mp c
      refine lv_aload_n hx hb dX0_part_29 rfl (lv_at hl 3 rfl) ?_
      exact il_aret (r := q) hx hb hr (Or.inr ⟨_, rfl⟩) hlk hw (⟨hn_q, f', eM1, fun j hj => hf' j (by omega)⟩) (Nat.le_of_ble_eq_true rfl) (Nat.le_of_ble_eq_true rfl) dX0_part_30
    | succ k' ih =>
      intro i hik M1 hlp H locs hw ls hl
      obtain ⟨f', eM1, hf'⟩ := hlp
      have hq : M1 q = some (il_eJ G k f') := by rw [eM1]; exact il_up_eq _ _ _
      have ha : M1 a = some (il_eJ G n f) := by rw [eM1]; exact il_up_keep hnq ha0
      refine lv_iload hx hb dX0_part_7 (lv_at hl 4 rfl) ?_
      refine lv_iload_n hx hb dX0_part_9 rfl (lv_at hl 2 rfl) ?_
      refine lv_icmp_ge (tgt := 29) hx hb dX0_part_10 (by decide) (fun c => False.elim (by have c : k ≤ i := (nI_leI (a := k) (b := i) (by omega) (by omega)).mp c; omega)) (fun c => ?_)
      have c : ¬ (k ≤ i) := fun z => c ((nI_leI (a := k) (b := i) (by omega) (by omega)).mpr z)
      refine lv_aload_n hx hb dX0_part_13 rfl (lv_at hl 3 rfl) ?_
      refine lv_iload hx hb dX0_part_14 (lv_at hl 4 rfl) ?_
      refine lv_aload_n hx hb dX0_part_16 rfl (lv_at hl 0 rfl) ?_
      refine lv_iload_n hx hb dX0_part_17 rfl (lv_at hl 1 rfl) ?_
      refine lv_iload hx hb dX0_part_18 (lv_at hl 4 rfl) ?_
      refine lv_iadd hx hb dX0_part_20 ?_
      refine il_ti (nI (st + i)) (nI_add _ _) ?_
      refine il_lald (i := (st + i)) hx hb hB hw ha (by omega) (by omega) rfl dX0_part_21 ?_
      refine il_last (i := i) hx hb hB hw hq (by omega) (by omega) rfl dX0_part_22 (fun H locs hw => ?_)
      have hw : il_W G s (il_up M1 q (il_eJ G k (vp_updL f' i (f (st + i))))) H locs := hw
      have hq : il_up M1 q (il_eJ G k (vp_updL f' i (f (st + i)))) q = some (il_eJ G k (vp_updL f' i (f (st + i)))) := il_up_eq _ _ _
      generalize eM2 : il_up M1 q (il_eJ G k (vp_updL f' i (f (st + i)))) = M2 at hw hq
      refine lv_iinc (v := nI (i + 1)) (lv' := [(4, .int (nI (i + 1))), (0, .ref a), (1, .int (nI st)), (2, .int (nI k)), (3, .ref q)]) hx hb dX0_part_23 hl (k := 4) rfl (by exact nI_1 i) (by decide) rfl (fun ls hl => ?_)
      refine lv_goto (tgt := 7) hx hb dX0_part_26 (by decide) ?_
      exact ih (i + 1) (by omega) M2 ⟨_, by rw [← eM2, eM1, il_up_up], fun j hj => by
        by_cases z : j = i
        · rw [z, pk_uLs]
        · rw [pk_uLn z]; exact hf' j (by omega)⟩ _ _ hw ls (lv_sub hl [1, 2, 3, 4, 0] rfl)
  exact loop k 0 (by omega) M1 hlp _ _ hw ls (lv_sub hl [2, 3, 4, 1, 0] rfl)
set_option maxHeartbeats 4000000 in
set_option maxRecDepth 100000 in
/-- isAlike(a, b) -/
theorem met_isAlike {l : Launch} {G : il_G} {M : il_M} {a n : Nat} {f : Nat → Int64} (ha : M a = some (il_eJ G n f)) (hn : n ≤ 96) {b n2 : Nat} {f2 : Nat → Int64} (hb2 : M b = some (il_eJ G n2 f2)) (hn2 : n2 ≤ 96) : il_Ci l G yX0_isAlike cX0_isAlike 3 (.boolean) 0 0 0 [.ref a, .ref b] M (fun r M' => il_eqr n f n2 f2 r ∧ M' = M) := by
  refine il_enter (by decide) (Nat.le_of_ble_eq_true rfl) ?_
  intro p e s m below meth cd hF hw ls hl
  obtain ⟨hx, hb, hr, hlk, hml, hown, hin, hts, hB⟩ := id hF
  have hl : lv_has ls 3 [(0, .ref a), (1, .ref b)] := hl
  have hown : s.vm.findClass RX0 = some m.cls := hown
  refine lv_iconst (v := 0) hx hb dX0_isAlike_0 (by decide) ?_
  refine lv_istore_n (lv' := [(2, .int 0), (0, .ref a), (1, .ref b)]) hx hb dX0_isAlike_1 rfl hl (by decide) rfl (fun ls hl => ?_)
  have loop : ∀ (k : Nat) (i : Nat), (i + k = n) → (∀ j, j < i → f j = f2 j) → ∀ ls : Array Slot, lv_has ls 3 [(0, .ref a), (1, .ref b), (2, .int (nI i))] → W p l e (il_R 0 0 0) s m ([.ref a, .ref b] : List Value).toArray below meth cd s.heap [] 0 0 (MQ below (il_Qi G (fun r M' => il_eqr n f n2 f2 r ∧ M' = M)) ([.ref a, .ref b] : List Value).toArray s 0 0 (il_A G)) (F0 m 2 ls []) := by
    intro k
    induction k with
    | zero =>
      intro i hik hv ls hl
      refine lv_iload_n hx hb dX0_isAlike_2 rfl (lv_at hl 2 rfl) ?_
      refine lv_aload_n hx hb dX0_isAlike_3 rfl (lv_at hl 0 rfl) ?_
      refine il_alen hx hb hB hw ha dX0_isAlike_4 ?_
      refine lv_icmp_ge (tgt := 30) hx hb dX0_isAlike_5 (by decide) (fun c => ?_) (fun c => False.elim (by have c : ¬ (n ≤ i) := fun z => c ((nI_leI (a := n) (b := i) (by omega) (by omega)).mpr z); omega))
      have c : n ≤ i := (nI_leI (a := n) (b := i) (by omega) (by omega)).mp c
      refine lv_iload_n hx hb dX0_isAlike_30 rfl (lv_at hl 2 rfl) ?_
      refine lv_aload_n hx hb dX0_isAlike_31 rfl (lv_at hl 0 rfl) ?_
      refine il_alen hx hb hB hw ha dX0_isAlike_32 ?_
      refine lv_icmp_ne (tgt := 46) hx hb dX0_isAlike_33 (by decide) (fun c2 => False.elim (by have c2 : ¬ (i = n) := fun z => c2 ((nI_eq (a := i) (b := n) (by omega) (by omega)).mpr z); omega)) (fun c2 => ?_)
      have c2 : i = n := (nI_eq (a := i) (b := n) (by omega) (by omega)).mp c2
      refine lv_iload_n hx hb dX0_isAlike_36 rfl (lv_at hl 2 rfl) ?_
      refine lv_aload_n hx hb dX0_isAlike_37 rfl (lv_at hl 1 rfl) ?_
      refine il_alen hx hb hB hw hb2 dX0_isAlike_38 ?_
      refine lv_icmp_ne (tgt := 46) hx hb dX0_isAlike_39 (by decide) (fun c3 => ?_) (fun c3 => ?_)
      · have c3 : ¬ (i = n2) := fun z => c3 ((nI_eq (a := i) (b := n2) (by omega) (by omega)).mpr z)
        refine lv_iconst (v := 0) hx hb dX0_isAlike_46 (by decide) ?_
        exact il_iret (v := 0) hx hb hr hlk rfl hw (⟨Or.inr ⟨rfl, fun z => c3 ((show i = n by omega).trans z.1)⟩, rfl⟩) (Nat.le_of_ble_eq_true rfl) (Nat.le_of_ble_eq_true rfl) dX0_isAlike_47
      · have c3 : i = n2 := (nI_eq (a := i) (b := n2) (by omega) (by omega)).mp c3
        refine lv_iconst (v := 1) hx hb dX0_isAlike_42 (by decide) ?_
        refine lv_goto (tgt := 47) hx hb dX0_isAlike_43 (by decide) ?_
        exact il_iret (v := 1) hx hb hr hlk rfl hw (⟨Or.inl ⟨rfl, by omega, fun j hj => hv j (by omega)⟩, rfl⟩) (Nat.le_of_ble_eq_true rfl) (Nat.le_of_ble_eq_true rfl) dX0_isAlike_47
    | succ k ih =>
      intro i hik hv ls hl
      refine lv_iload_n hx hb dX0_isAlike_2 rfl (lv_at hl 2 rfl) ?_
      refine lv_aload_n hx hb dX0_isAlike_3 rfl (lv_at hl 0 rfl) ?_
      refine il_alen hx hb hB hw ha dX0_isAlike_4 ?_
      refine lv_icmp_ge (tgt := 30) hx hb dX0_isAlike_5 (by decide) (fun c => False.elim (by have c : n ≤ i := (nI_leI (a := n) (b := i) (by omega) (by omega)).mp c; omega)) (fun c => ?_)
      have c : ¬ (n ≤ i) := fun z => c ((nI_leI (a := n) (b := i) (by omega) (by omega)).mpr z)
      refine lv_iload_n hx hb dX0_isAlike_8 rfl (lv_at hl 2 rfl) ?_
      refine lv_aload_n hx hb dX0_isAlike_9 rfl (lv_at hl 1 rfl) ?_
      refine il_alen hx hb hB hw hb2 dX0_isAlike_10 ?_
      refine lv_icmp_ge (tgt := 30) hx hb dX0_isAlike_11 (by decide) (fun c2 => ?_) (fun c2 => ?_)
      · have c2 : n2 ≤ i := (nI_leI (a := n2) (b := i) (by omega) (by omega)).mp c2
        refine lv_iload_n hx hb dX0_isAlike_30 rfl (lv_at hl 2 rfl) ?_
        refine lv_aload_n hx hb dX0_isAlike_31 rfl (lv_at hl 0 rfl) ?_
        refine il_alen hx hb hB hw ha dX0_isAlike_32 ?_
        refine lv_icmp_ne (tgt := 46) hx hb dX0_isAlike_33 (by decide) (fun c9 => ?_) (fun c9 => False.elim (by have c9 : i = n := (nI_eq (a := i) (b := n) (by omega) (by omega)).mp c9; omega))
        have c9 : ¬ (i = n) := fun z => c9 ((nI_eq (a := i) (b := n) (by omega) (by omega)).mpr z)
        refine lv_iconst (v := 0) hx hb dX0_isAlike_46 (by decide) ?_
        exact il_iret (v := 0) hx hb hr hlk rfl hw (⟨Or.inr ⟨rfl, fun z => by have := z.1; omega⟩, rfl⟩) (Nat.le_of_ble_eq_true rfl) (Nat.le_of_ble_eq_true rfl) dX0_isAlike_47
      · have c2 : ¬ (n2 ≤ i) := fun z => c2 ((nI_leI (a := n2) (b := i) (by omega) (by omega)).mpr z)
        refine lv_aload_n hx hb dX0_isAlike_14 rfl (lv_at hl 0 rfl) ?_
        refine lv_iload_n hx hb dX0_isAlike_15 rfl (lv_at hl 2 rfl) ?_
        refine il_lald (i := i) hx hb hB hw ha (by omega) (by omega) rfl dX0_isAlike_16 ?_
        refine lv_aload_n hx hb dX0_isAlike_17 rfl (lv_at hl 1 rfl) ?_
        refine lv_iload_n hx hb dX0_isAlike_18 rfl (lv_at hl 2 rfl) ?_
        refine il_lald (i := i) hx hb hB hw hb2 (by omega) (by omega) rfl dX0_isAlike_19 ?_
        refine W.lcmp hx hb dX0_isAlike_20 ?_
        refine lv_if_ne (tgt := 30) hx hb dX0_isAlike_21 (by decide) (fun c3 => ?_) (fun c3 => ?_)
        · refine lv_iload_n hx hb dX0_isAlike_30 rfl (lv_at hl 2 rfl) ?_
          refine lv_aload_n hx hb dX0_isAlike_31 rfl (lv_at hl 0 rfl) ?_
          refine il_alen hx hb hB hw ha dX0_isAlike_32 ?_
          refine lv_icmp_ne (tgt := 46) hx hb dX0_isAlike_33 (by decide) (fun c9 => ?_) (fun c9 => False.elim (by have c9 : i = n := (nI_eq (a := i) (b := n) (by omega) (by omega)).mp c9; omega))
          have c9 : ¬ (i = n) := fun z => c9 ((nI_eq (a := i) (b := n) (by omega) (by omega)).mpr z)
          refine lv_iconst (v := 0) hx hb dX0_isAlike_46 (by decide) ?_
          exact il_iret (v := 0) hx hb hr hlk rfl hw (⟨Or.inr ⟨rfl, fun z => c3 ((lg_cmp_eq _ _).mpr (z.2 i (by omega)))⟩, rfl⟩) (Nat.le_of_ble_eq_true rfl) (Nat.le_of_ble_eq_true rfl) dX0_isAlike_47
        · have c3 := (lg_cmp_eq _ _).mp c3
          refine lv_iinc (v := nI (i + 1)) (lv' := [(2, .int (nI (i + 1))), (0, .ref a), (1, .ref b)]) hx hb dX0_isAlike_24 hl (k := 2) rfl (by exact nI_1 i) (by decide) rfl (fun ls hl => ?_)
          refine lv_goto (tgt := 2) hx hb dX0_isAlike_27 (by decide) ?_
          exact ih (i + 1) (by omega) (lt_s hv c3) ls (lv_sub hl [1, 2, 0] rfl)
  exact loop n 0 (by omega) (fun j hj => absurd hj (by omega)) ls (lv_sub hl [1, 2, 0] rfl)
set_option maxHeartbeats 4000000 in
set_option maxRecDepth 100000 in
/-- the law's first(row, v) -/
theorem met_lfirst {l : Launch} {G : il_G} {M : il_M} {a n : Nat} {f : Nat → Int64} (ha : M a = some (il_eJ G n f)) (hn : n ≤ 96) {v : Int64} : il_Ci l G yX0_first cX0_first 4 (.int) 0 0 0 [.ref a, .long v] M (fun r M' => il_fst n f v r ∧ M' = M) := by
  refine il_enter (by decide) (Nat.le_of_ble_eq_true rfl) ?_
  intro p e s m below meth cd hF hw ls hl
  obtain ⟨hx, hb, hr, hlk, hml, hown, hin, hts, hB⟩ := id hF
  have hl : lv_has ls 4 [(0, .ref a), (1, .long v)] := hl
  have hown : s.vm.findClass RX0 = some m.cls := hown
  refine lv_iconst (v := 0) hx hb dX0_first_0 (by decide) ?_
  refine lv_istore_n (lv' := [(3, .int 0), (0, .ref a), (1, .long v)]) hx hb dX0_first_1 rfl hl (by decide) rfl (fun ls hl => ?_)
  have loop : ∀ (k : Nat) (i : Nat), (i + k = n) → (∀ j, j < i → f j ≠ v) → ∀ ls : Array Slot, lv_has ls 4 [(0, .ref a), (1, .long v), (3, .int (nI i))] → W p l e (il_R 0 0 0) s m ([.ref a, .long v] : List Value).toArray below meth cd s.heap [] 0 0 (MQ below (il_Qi G (fun r M' => il_fst n f v r ∧ M' = M)) ([.ref a, .long v] : List Value).toArray s 0 0 (il_A G)) (F0 m 2 ls []) := by
    intro k
    induction k with
    | zero =>
      intro i hik hv ls hl
      refine lv_iload_n hx hb dX0_first_2 rfl (lv_at hl 2 rfl) ?_
      refine lv_aload_n hx hb dX0_first_3 rfl (lv_at hl 0 rfl) ?_
      refine il_alen hx hb hB hw ha dX0_first_4 ?_
      refine lv_icmp_ge (tgt := 22) hx hb dX0_first_5 (by decide) (fun c => ?_) (fun c => False.elim (by have c : ¬ (n ≤ i) := fun z => c ((nI_leI (a := n) (b := i) (by omega) (by omega)).mpr z); omega))
      have c : n ≤ i := (nI_leI (a := n) (b := i) (by omega) (by omega)).mp c
      refine lv_iload_n hx hb dX0_first_22 rfl (lv_at hl 2 rfl) ?_
      refine lv_aload_n hx hb dX0_first_23 rfl (lv_at hl 0 rfl) ?_
      refine il_alen hx hb hB hw ha dX0_first_24 ?_
      refine lv_icmp_ge (tgt := 32) hx hb dX0_first_25 (by decide) (fun c2 => ?_) (fun c2 => False.elim (by have c2 : ¬ (n ≤ i) := fun z => c2 ((nI_leI (a := n) (b := i) (by omega) (by omega)).mpr z); omega))
      have c2 : n ≤ i := (nI_leI (a := n) (b := i) (by omega) (by omega)).mp c2
      refine lv_iconst (v := -1) hx hb dX0_first_32 (by decide) ?_
      exact il_iret (v := (-1)) hx hb hr hlk rfl hw (⟨Or.inr ⟨rfl, fun j hj => hv j (by omega)⟩, rfl⟩) (Nat.le_of_ble_eq_true rfl) (Nat.le_of_ble_eq_true rfl) dX0_first_33
    | succ k ih =>
      intro i hik hv ls hl
      refine lv_iload_n hx hb dX0_first_2 rfl (lv_at hl 2 rfl) ?_
      refine lv_aload_n hx hb dX0_first_3 rfl (lv_at hl 0 rfl) ?_
      refine il_alen hx hb hB hw ha dX0_first_4 ?_
      refine lv_icmp_ge (tgt := 22) hx hb dX0_first_5 (by decide) (fun c => False.elim (by have c : n ≤ i := (nI_leI (a := n) (b := i) (by omega) (by omega)).mp c; omega)) (fun c => ?_)
      have c : ¬ (n ≤ i) := fun z => c ((nI_leI (a := n) (b := i) (by omega) (by omega)).mpr z)
      refine lv_aload_n hx hb dX0_first_8 rfl (lv_at hl 0 rfl) ?_
      refine lv_iload_n hx hb dX0_first_9 rfl (lv_at hl 2 rfl) ?_
      refine il_lald (i := i) hx hb hB hw ha (by omega) (by omega) rfl dX0_first_10 ?_
      refine lv_lload_n hx hb dX0_first_11 rfl (lv_at hl 1 rfl) ?_
      refine W.lcmp hx hb dX0_first_12 ?_
      refine lv_if_eq (tgt := 22) hx hb dX0_first_13 (by decide) (fun c1 => ?_) (fun c1 => ?_)
      · have c1 := (lg_cmp_eq _ _).mp c1
        refine lv_iload_n hx hb dX0_first_22 rfl (lv_at hl 2 rfl) ?_
        refine lv_aload_n hx hb dX0_first_23 rfl (lv_at hl 0 rfl) ?_
        refine il_alen hx hb hB hw ha dX0_first_24 ?_
        refine lv_icmp_ge (tgt := 32) hx hb dX0_first_25 (by decide) (fun c2 => False.elim (by have c2 : n ≤ i := (nI_leI (a := n) (b := i) (by omega) (by omega)).mp c2; omega)) (fun c2 => ?_)
        have c2 : ¬ (n ≤ i) := fun z => c2 ((nI_leI (a := n) (b := i) (by omega) (by omega)).mpr z)
        refine lv_iload_n hx hb dX0_first_28 rfl (lv_at hl 2 rfl) ?_
        refine lv_goto (tgt := 33) hx hb dX0_first_29 (by decide) ?_
        exact il_iret (v := (nI i)) hx hb hr hlk rfl hw (⟨Or.inl ⟨i, by omega, rfl, c1, hv⟩, rfl⟩) (Nat.le_of_ble_eq_true rfl) (Nat.le_of_ble_eq_true rfl) dX0_first_33
      · have c1 : f i ≠ v := fun z => c1 ((lg_cmp_eq _ _).mpr z)
        refine lv_iinc (v := nI (i + 1)) (lv' := [(3, .int (nI (i + 1))), (0, .ref a), (1, .long v)]) hx hb dX0_first_16 hl (k := 2) rfl (by exact nI_1 i) (by decide) rfl (fun ls hl => ?_)
        refine lv_goto (tgt := 2) hx hb dX0_first_19 (by decide) ?_
        exact ih (i + 1) (by omega) (lt_s hv c1) ls (lv_sub hl [1, 2, 0] rfl)
  exact loop n 0 (by omega) (fun j hj => absurd hj (by omega)) ls (lv_sub hl [1, 2, 0] rfl)
set_option maxHeartbeats 4000000 in
set_option maxRecDepth 100000 in
/-- the law's last(row, v) -/
theorem met_llast {l : Launch} {G : il_G} {M : il_M} {a n : Nat} {f : Nat → Int64} (ha : M a = some (il_eJ G n f)) (hn : n ≤ 96) {v : Int64} : il_Ci l G yX0_last cX0_last 4 (.int) 0 0 0 [.ref a, .long v] M (fun r M' => il_lst n f v r ∧ M' = M) := by
  refine il_enter (by decide) (Nat.le_of_ble_eq_true rfl) ?_
  intro p e s m below meth cd hF hw ls hl
  obtain ⟨hx, hb, hr, hlk, hml, hown, hin, hts, hB⟩ := id hF
  have hl : lv_has ls 4 [(0, .ref a), (1, .long v)] := hl
  have hown : s.vm.findClass RX0 = some m.cls := hown
  refine lv_aload_n hx hb dX0_last_0 rfl (lv_at hl 0 rfl) ?_
  refine il_alen hx hb hB hw ha dX0_last_1 ?_
  refine lv_iconst (v := 1) hx hb dX0_last_2 (by decide) ?_
  refine lv_isub hx hb dX0_last_3 ?_
  refine lv_istore_n (lv' := [(3, .int ((nI n) - 1)), (0, .ref a), (1, .long v)]) hx hb dX0_last_4 rfl hl (by decide) rfl (fun ls hl => ?_)
  have loop : ∀ (k : Nat), (k ≤ n) → (∀ j, k ≤ j → j < n → f j ≠ v) → ∀ ls : Array Slot, lv_has ls 4 [(0, .ref a), (1, .long v), (3, .int (nI k - 1))] → W p l e (il_R 0 0 0) s m ([.ref a, .long v] : List Value).toArray below meth cd s.heap [] 0 0 (MQ below (il_Qi G (fun r M' => il_lst n f v r ∧ M' = M)) ([.ref a, .long v] : List Value).toArray s 0 0 (il_A G)) (F0 m 5 ls []) := by
    intro k
    induction k with
    | zero =>
      intro hik hv ls hl
      refine lv_iload_n hx hb dX0_last_5 rfl (lv_at hl 2 rfl) ?_
      refine lv_if_lt (tgt := 23) hx hb dX0_last_6 (by decide) (fun c => ?_) (fun c => False.elim (c (show nI 0 - 1 < 0 by decide)))
      refine lv_iload_n hx hb dX0_last_23 rfl (lv_at hl 2 rfl) ?_
      exact il_iret (v := (nI 0 - 1)) hx hb hr hlk rfl hw (⟨Or.inr ⟨by decide, fun j hj => hv j (Nat.zero_le j) hj⟩, rfl⟩) (Nat.le_of_ble_eq_true rfl) (Nat.le_of_ble_eq_true rfl) dX0_last_24
    | succ k ih =>
      intro hik hv ls hl
      have hl : lv_has ls 4 [(0, .ref a), (1, .long v), (3, .int (nI k))] := by rw [← (nI_pred k)]; exact hl
      refine lv_iload_n hx hb dX0_last_5 rfl (lv_at hl 2 rfl) ?_
      refine lv_if_lt (tgt := 23) hx hb dX0_last_6 (by decide) (fun c => False.elim (by have c : k < 0 := (nI_ltI (a := k) (b := 0) (by omega) (by omega)).mp c; omega)) (fun c => ?_)
      have c : ¬ (k < 0) := fun z => c ((nI_ltI (a := k) (b := 0) (by omega) (by omega)).mpr z)
      refine lv_aload_n hx hb dX0_last_9 rfl (lv_at hl 0 rfl) ?_
      refine lv_iload_n hx hb dX0_last_10 rfl (lv_at hl 2 rfl) ?_
      refine il_lald (i := k) hx hb hB hw ha (by omega) (by omega) rfl dX0_last_11 ?_
      refine lv_lload_n hx hb dX0_last_12 rfl (lv_at hl 1 rfl) ?_
      refine W.lcmp hx hb dX0_last_13 ?_
      refine lv_if_eq (tgt := 23) hx hb dX0_last_14 (by decide) (fun c1 => ?_) (fun c1 => ?_)
      · have c1 := (lg_cmp_eq _ _).mp c1
        refine lv_iload_n hx hb dX0_last_23 rfl (lv_at hl 2 rfl) ?_
        exact il_iret (v := (nI k)) hx hb hr hlk rfl hw (⟨Or.inl ⟨k, by omega, rfl, c1, fun j h1 h2 => hv j (by omega) h2⟩, rfl⟩) (Nat.le_of_ble_eq_true rfl) (Nat.le_of_ble_eq_true rfl) dX0_last_24
      · have c1 : f k ≠ v := fun z => c1 ((lg_cmp_eq _ _).mpr z)
        refine lv_iinc (v := nI k - 1) (lv' := [(3, .int (nI k - 1)), (0, .ref a), (1, .long v)]) hx hb dX0_last_17 hl (k := 2) rfl (by exact il_m1 k) (by decide) rfl (fun ls hl => ?_)
        refine lv_goto (tgt := 5) hx hb dX0_last_20 (by decide) ?_
        exact ih (by omega) (fun j h1 h2 => if z : j = k then z ▸ c1 else hv j (by omega) h2) ls (lv_sub hl [1, 2, 0] rfl)
  exact loop n (Nat.le_refl n) (fun j h1 h2 => absurd h1 (by omega)) ls (lv_sub hl [1, 2, 0] rfl)
set_option maxHeartbeats 4000000 in
set_option maxRecDepth 100000 in
/-- the law's hash(row) -/
theorem met_lhash {l : Launch} {G : il_G} {M : il_M} {a n : Nat} {f : Nat → Int64} (ha : M a = some (il_eJ G n f)) (hn : n ≤ 96) : il_Ci l G yX0_hash cX0_hash 3 (.int) 0 0 0 [.ref a] M (fun r M' => r = il_hash f n ∧ M' = M) := by
  refine il_enter (by decide) (Nat.le_of_ble_eq_true rfl) ?_
  intro p e s m below meth cd hF hw ls hl
  obtain ⟨hx, hb, hr, hlk, hml, hown, hin, hts, hB⟩ := id hF
  have hl : lv_has ls 3 [(0, .ref a)] := hl
  have hown : s.vm.findClass RX0 = some m.cls := hown
  refine lv_iconst (v := 1) hx hb dX0_hash_0 (by decide) ?_
  refine lv_istore_n (lv' := [(1, .int 1), (0, .ref a)]) hx hb dX0_hash_1 rfl hl (by decide) rfl (fun ls hl => ?_)
  refine lv_iconst (v := 0) hx hb dX0_hash_2 (by decide) ?_
  refine lv_istore_n (lv' := [(2, .int 0), (1, .int 1), (0, .ref a)]) hx hb dX0_hash_3 rfl hl (by decide) rfl (fun ls hl => ?_)
  have loop : ∀ (k : Nat) (i : Nat), (i + k = n) → ∀ ls : Array Slot, lv_has ls 3 [(0, .ref a), (1, .int (il_hash f i)), (2, .int (nI i))] → W p l e (il_R 0 0 0) s m ([.ref a] : List Value).toArray below meth cd s.heap [] 0 0 (MQ below (il_Qi G (fun r M' => r = il_hash f n ∧ M' = M)) ([.ref a] : List Value).toArray s 0 0 (il_A G)) (F0 m 4 ls []) := by
    intro k
    induction k with
    | zero =>
      intro i hik ls hl
      refine lv_iload_n hx hb dX0_hash_4 rfl (lv_at hl 2 rfl) ?_
      refine lv_aload_n hx hb dX0_hash_5 rfl (lv_at hl 0 rfl) ?_
      refine il_alen hx hb hB hw ha dX0_hash_6 ?_
      refine lv_icmp_ge (tgt := 33) hx hb dX0_hash_7 (by decide) (fun c => ?_) (fun c => False.elim (by have c : ¬ (n ≤ i) := fun z => c ((nI_leI (a := n) (b := i) (by omega) (by omega)).mpr z); omega))
      have c : n ≤ i := (nI_leI (a := n) (b := i) (by omega) (by omega)).mp c
      refine lv_iload_n hx hb dX0_hash_33 rfl (lv_at hl 1 rfl) ?_
      exact il_iret (v := (il_hash f i)) hx hb hr hlk rfl hw (⟨by rw [show i = n by omega], rfl⟩) (Nat.le_of_ble_eq_true rfl) (Nat.le_of_ble_eq_true rfl) dX0_hash_34
    | succ k ih =>
      intro i hik ls hl
      refine lv_iload_n hx hb dX0_hash_4 rfl (lv_at hl 2 rfl) ?_
      refine lv_aload_n hx hb dX0_hash_5 rfl (lv_at hl 0 rfl) ?_
      refine il_alen hx hb hB hw ha dX0_hash_6 ?_
      refine lv_icmp_ge (tgt := 33) hx hb dX0_hash_7 (by decide) (fun c => False.elim (by have c : n ≤ i := (nI_leI (a := n) (b := i) (by omega) (by omega)).mp c; omega)) (fun c => ?_)
      have c : ¬ (n ≤ i) := fun z => c ((nI_leI (a := n) (b := i) (by omega) (by omega)).mpr z)
      refine lv_bipush (v := 31) hx hb dX0_hash_10 (by decide) ?_
      refine lv_iload_n hx hb dX0_hash_12 rfl (lv_at hl 1 rfl) ?_
      refine lv_imul hx hb dX0_hash_13 ?_
      refine lv_aload_n hx hb dX0_hash_14 rfl (lv_at hl 0 rfl) ?_
      refine lv_iload_n hx hb dX0_hash_15 rfl (lv_at hl 2 rfl) ?_
      refine il_lald (i := i) hx hb hB hw ha (by omega) (by omega) rfl dX0_hash_16 ?_
      refine lv_aload_n hx hb dX0_hash_17 rfl (lv_at hl 0 rfl) ?_
      refine lv_iload_n hx hb dX0_hash_18 rfl (lv_at hl 2 rfl) ?_
      refine il_lald (i := i) hx hb hB hw ha (by omega) (by omega) rfl dX0_hash_19 ?_
      refine lv_bipush (v := 32) hx hb dX0_hash_20 (by decide) ?_
      refine lv_lushr (v := ((f i).toUInt64 >>> ((32 : Int32).toInt64.toUInt64 &&& Int64.toUInt64 63)).toInt64) hx hb dX0_hash_22 rfl ?_
      refine lv_lxor hx hb dX0_hash_23 ?_
      refine lv_l2i hx hb dX0_hash_24 rfl ?_
      refine lv_iadd hx hb dX0_hash_25 ?_
      refine il_ti (il_hash f (i + 1)) (by rw [Int32.mul_comm]; rfl) ?_
      refine lv_istore_n (lv' := [(1, .int (il_hash f (i + 1))), (0, .ref a), (2, .int (nI i))]) hx hb dX0_hash_26 rfl hl (by decide) rfl (fun ls hl => ?_)
      refine lv_iinc (v := nI (i + 1)) (lv' := [(2, .int (nI (i + 1))), (1, .int (il_hash f (i + 1))), (0, .ref a)]) hx hb dX0_hash_27 hl (k := 2) rfl (by exact nI_1 i) (by decide) rfl (fun ls hl => ?_)
      refine lv_goto (tgt := 4) hx hb dX0_hash_30 (by decide) ?_
      exact ih (i + 1) (by omega) ls (lv_sub hl [2, 1, 0] rfl)
  exact loop n 0 (by omega) ls (lv_sub hl [2, 1, 0] rfl)
set_option maxHeartbeats 4000000 in
set_option maxRecDepth 100000 in
/-- the law's whole(row) -/
theorem met_lwhole {l : Launch} {G : il_G} {M : il_M} {a n : Nat} {f : Nat → Int64} (ha : M a = some (il_eJ G n f)) (hn : n ≤ 96) : il_Cl l G yX0_whole cX0_whole 4 0 0 0 [.ref a] M (fun r M' => r = il_sum f n ∧ M' = M) := by
  refine il_enter (by decide) (Nat.le_of_ble_eq_true rfl) ?_
  intro p e s m below meth cd hF hw ls hl
  obtain ⟨hx, hb, hr, hlk, hml, hown, hin, hts, hB⟩ := id hF
  have hl : lv_has ls 4 [(0, .ref a)] := hl
  have hown : s.vm.findClass RX0 = some m.cls := hown
  refine lv_lconst (v := 0) hx hb dX0_whole_0 (by decide) ?_
  refine lv_lstore_n (lv' := [(1, .long 0), (0, .ref a)]) hx hb dX0_whole_1 rfl hl (by decide) rfl (fun ls hl => ?_)
  refine lv_iconst (v := 0) hx hb dX0_whole_2 (by decide) ?_
  refine lv_istore_n (lv' := [(3, .int 0), (1, .long 0), (0, .ref a)]) hx hb dX0_whole_3 rfl hl (by decide) rfl (fun ls hl => ?_)
  have loop : ∀ (k : Nat) (i : Nat), (i + k = n) → ∀ ls : Array Slot, lv_has ls 4 [(0, .ref a), (1, .long (il_sum f i)), (3, .int (nI i))] → W p l e (il_R 0 0 0) s m ([.ref a] : List Value).toArray below meth cd s.heap [] 0 0 (MQ below (il_Ql G (fun r M' => r = il_sum f n ∧ M' = M)) ([.ref a] : List Value).toArray s 0 0 (il_A G)) (F0 m 4 ls []) := by
    intro k
    induction k with
    | zero =>
      intro i hik ls hl
      refine lv_iload_n hx hb dX0_whole_4 rfl (lv_at hl 2 rfl) ?_
      refine lv_aload_n hx hb dX0_whole_5 rfl (lv_at hl 0 rfl) ?_
      refine il_alen hx hb hB hw ha dX0_whole_6 ?_
      refine lv_icmp_ge (tgt := 26) hx hb dX0_whole_7 (by decide) (fun c => ?_) (fun c => False.elim (by have c : ¬ (n ≤ i) := fun z => c ((nI_leI (a := n) (b := i) (by omega) (by omega)).mpr z); omega))
      have c : n ≤ i := (nI_leI (a := n) (b := i) (by omega) (by omega)).mp c
      refine lv_lload_n hx hb dX0_whole_26 rfl (lv_at hl 1 rfl) ?_
      exact il_lret (v := (il_sum f i)) hx hb hr hlk hw (⟨by rw [show i = n by omega], rfl⟩) (Nat.le_of_ble_eq_true rfl) (Nat.le_of_ble_eq_true rfl) dX0_whole_27
    | succ k ih =>
      intro i hik ls hl
      refine lv_iload_n hx hb dX0_whole_4 rfl (lv_at hl 2 rfl) ?_
      refine lv_aload_n hx hb dX0_whole_5 rfl (lv_at hl 0 rfl) ?_
      refine il_alen hx hb hB hw ha dX0_whole_6 ?_
      refine lv_icmp_ge (tgt := 26) hx hb dX0_whole_7 (by decide) (fun c => False.elim (by have c : n ≤ i := (nI_leI (a := n) (b := i) (by omega) (by omega)).mp c; omega)) (fun c => ?_)
      have c : ¬ (n ≤ i) := fun z => c ((nI_leI (a := n) (b := i) (by omega) (by omega)).mpr z)
      refine lv_lload_n hx hb dX0_whole_10 rfl (lv_at hl 1 rfl) ?_
      refine lv_ldc2 hx hb hown (hts _ q354) dX0_whole_11 ?_
      refine lv_lmul hx hb dX0_whole_14 ?_
      refine lv_aload_n hx hb dX0_whole_15 rfl (lv_at hl 0 rfl) ?_
      refine lv_iload_n hx hb dX0_whole_16 rfl (lv_at hl 2 rfl) ?_
      refine il_lald (i := i) hx hb hB hw ha (by omega) (by omega) rfl dX0_whole_17 ?_
      refine lv_ladd hx hb dX0_whole_18 ?_
      refine il_tl (il_sum f (i + 1)) rfl ?_
      refine lv_lstore_n (lv' := [(1, .long (il_sum f (i + 1))), (0, .ref a), (3, .int (nI i))]) hx hb dX0_whole_19 rfl hl (by decide) rfl (fun ls hl => ?_)
      refine lv_iinc (v := nI (i + 1)) (lv' := [(3, .int (nI (i + 1))), (1, .long (il_sum f (i + 1))), (0, .ref a)]) hx hb dX0_whole_20 hl (k := 2) rfl (by exact nI_1 i) (by decide) rfl (fun ls hl => ?_)
      refine lv_goto (tgt := 4) hx hb dX0_whole_23 (by decide) ?_
      exact ih (i + 1) (by omega) ls (lv_sub hl [2, 1, 0] rfl)
  exact loop n 0 (by omega) ls (lv_sub hl [2, 1, 0] rfl)
set_option maxHeartbeats 4000000 in
set_option maxRecDepth 100000 in
/-- adds(desk, maker, n, high, low) -/
theorem met_adds {l : Launch} {G : il_G} {M : il_M} {P : Nat → Prop} {d ar am made : Nat} {mg : Nat → Int64} {n : Nat → Nat} {g : Nat → Nat → Int64} {nl : Nat → Nat} {gl : Nat → Nat → Int64} (hlaw : il_law2 G P M d ar am made mg n g nl gl) {hi lo : Int32} : il_Ci l G yX0_adds cX0_adds 5 (.int) 6 1 200 [.ref d, .ref am, .int (nI made), .int hi, .int lo] M (fun r M' => ∃ made' mg', r = nI made' ∧ il_law2 G P M' d ar am made' mg' n g nl gl ∧ made ≤ made' ∧ made' ≤ made + 1 ∧ ∀ j, j < made → mg' j = mg j) := by
  refine il_enter (by decide) (Nat.le_of_ble_eq_true rfl) ?_
  intro p e s m below meth cd hF hw ls hl
  obtain ⟨hx, hb, hr, hlk, hml, hown, hin, hts, hB⟩ := id hF
  have hl : lv_has ls 5 [(0, .ref d), (1, .ref am), (2, .int (nI made)), (3, .int hi), (4, .int lo)] := hl
  have hown : s.vm.findClass RX0 = some m.cls := hown
  obtain ⟨hdesk, lr, mf, hown2⟩ := hlaw
  obtain ⟨mk, rs, hd⟩ := hdesk.obj
  have hmd := hdesk.made
  refine lv_aload_n hx hb dX0_adds_0 rfl (lv_at hl 0 rfl) ?_
  refine lv_iload_n hx hb dX0_adds_1 rfl (lv_at hl 3 rfl) ?_
  refine lv_iload hx hb dX0_adds_2 (lv_at hl 4 rfl) ?_
  refine il_ri hw (il_rV (n := 2) (h := d) (As := [.int hi, .int lo]) (rest := []) ⟨hx, hb, hml, hown, hts⟩ (met_dadd hdesk) (lw_V q358 q359 q360 q4 q361) (by decide +kernel) ⟨Nat.le_of_ble_eq_true rfl, Nat.le_of_ble_eq_true rfl⟩ hB hw hd rfl rfl hl.1 rfl (Nat.le_of_ble_eq_true rfl) dX0_adds_4 ⟨(Nat.le_of_ble_eq_true rfl), (Nat.le_of_ble_eq_true rfl)⟩) (fun r1 M1 H locs hp hw => ?_)
  rcases hp with ⟨u1, rfl, u3⟩ | ⟨u1, rfl, u3, u4⟩
  · rw [u3] at hw
    refine lv_iload_n hx hb dX0_adds_7 rfl (lv_at hl 2 rfl) ?_
    refine lv_bipush (v := 96) hx hb dX0_adds_8 (by decide) ?_
    refine lv_icmp_ge (tgt := 17) hx hb dX0_adds_10 (by decide) (fun c => ?_) (fun c => False.elim (by have c : ¬ (96 ≤ made) := fun z => c ((nI_leI (a := 96) (b := made) (by omega) (by omega)).mpr z); omega))
    have c : 96 ≤ made := (nI_leI (a := 96) (b := made) (by omega) (by omega)).mp c
    refine lv_iconst (v := 0) hx hb dX0_adds_17 (by decide) ?_
    refine lv_icmp_eq (tgt := 23) hx hb dX0_adds_18 (by decide) (fun c2 => ?_) (fun c2 => False.elim (absurd rfl c2))
    refine lv_iload_n hx hb dX0_adds_23 rfl (lv_at hl 2 rfl) ?_
    refine lv_bipush (v := 96) hx hb dX0_adds_24 (by decide) ?_
    refine lv_icmp_ne (tgt := 31) hx hb dX0_adds_26 (by decide) (fun c3 => False.elim (by have c3 : ¬ (made = 96) := fun z => c3 ((nI_eq (a := made) (b := 96) (by omega) (by omega)).mpr z); omega)) (fun c3 => ?_)
    have c3 : made = 96 := (nI_eq (a := made) (b := 96) (by omega) (by omega)).mp c3
    refine lv_iload_n hx hb dX0_adds_29 rfl (lv_at hl 2 rfl) ?_
    exact il_iret (v := (nI made)) hx hb hr hlk rfl hw (⟨made, mg, rfl, ⟨hdesk, lr, mf, hown2⟩, by omega, by omega, fun _ _ => rfl⟩) (Nat.le_of_ble_eq_true rfl) (Nat.le_of_ble_eq_true rfl) dX0_adds_30
  · have hown3 := hown2.fr u4
    have ham := hown3.2.2.2.2.1
    refine lv_iload_n hx hb dX0_adds_7 rfl (lv_at hl 2 rfl) ?_
    refine lv_bipush (v := 96) hx hb dX0_adds_8 (by decide) ?_
    refine lv_icmp_ge (tgt := 17) hx hb dX0_adds_10 (by decide) (fun c => False.elim (by have c : 96 ≤ made := (nI_leI (a := 96) (b := made) (by omega) (by omega)).mp c; omega)) (fun c => ?_)
    have c : ¬ (96 ≤ made) := fun z => c ((nI_leI (a := 96) (b := made) (by omega) (by omega)).mpr z)
    refine lv_iconst (v := 1) hx hb dX0_adds_13 (by decide) ?_
    refine lv_goto (tgt := 18) hx hb dX0_adds_14 (by decide) ?_
    refine lv_icmp_eq (tgt := 23) hx hb dX0_adds_18 (by decide) (fun c2 => ?_) (fun c2 => False.elim (absurd rfl c2))
    refine lv_iload_n hx hb dX0_adds_23 rfl (lv_at hl 2 rfl) ?_
    refine lv_bipush (v := 96) hx hb dX0_adds_24 (by decide) ?_
    refine lv_icmp_ne (tgt := 31) hx hb dX0_adds_26 (by decide) (fun c3 => ?_) (fun c3 => False.elim (by have c3 : made = 96 := (nI_eq (a := made) (b := 96) (by omega) (by omega)).mp c3; omega))
    have c3 : ¬ (made = 96) := fun z => c3 ((nI_eq (a := made) (b := 96) (by omega) (by omega)).mpr z)
    refine lv_aload_n hx hb dX0_adds_31 rfl (lv_at hl 1 rfl) ?_
    refine lv_iload_n hx hb dX0_adds_32 rfl (lv_at hl 2 rfl) ?_
    refine lv_iload_n hx hb dX0_adds_33 rfl (lv_at hl 3 rfl) ?_
    refine lv_iload hx hb dX0_adds_34 (lv_at hl 4 rfl) ?_
    refine il_rl hw (il_rS (n := 2) (As := [.int hi, .int lo]) (rest := [.int (nI made), .ref am]) ⟨hx, hb, hml, hown, hts⟩ met_lof (lw_S q366 q367 q3 q368) (by decide +kernel) ⟨Nat.le_of_ble_eq_true rfl, Nat.le_of_ble_eq_true rfl⟩ hB hw rfl hl.1 rfl (Nat.le_of_ble_eq_true rfl) dX0_adds_36 ⟨(Nat.le_of_ble_eq_true rfl), (Nat.le_of_ble_eq_true rfl)⟩) (fun r M_ H locs hp hw => ?_)
    obtain ⟨rfl, eM_⟩ := hp
    rw [eM_] at hw
    refine il_last (i := made) hx hb hB hw ham (by omega) (by omega) rfl dX0_adds_39 (fun H locs hw => ?_)
    have hw : il_W G s (il_up M1 am (il_eJ G 96 (vp_updL mf made (il_of hi lo)))) H locs := hw
    have ham : il_up M1 am (il_eJ G 96 (vp_updL mf made (il_of hi lo))) am = some (il_eJ G 96 (vp_updL mf made (il_of hi lo))) := il_up_eq _ _ _
    generalize eM2 : il_up M1 am (il_eJ G 96 (vp_updL mf made (il_of hi lo))) = M2 at hw ham
    refine lv_iload_n hx hb dX0_adds_40 rfl (lv_at hl 2 rfl) ?_
    refine lv_iconst (v := 1) hx hb dX0_adds_41 (by decide) ?_
    refine lv_iadd hx hb dX0_adds_42 ?_
    refine il_ti (nI (made + 1)) (nI_1 made) ?_
    exact il_iret (v := (nI (made + 1))) hx hb hr hlk rfl hw (⟨made + 1, vp_updL mg made (il_of hi lo), rfl, ⟨by rw [← eM2]; exact u3.up hown3.2.1, lr, _, by rw [← eM2]; exact hown3.put (fun j hj => (pk_uLn (by omega)).symm) pk_uLs.symm⟩, by omega, by omega, fun j hj => pk_uLn (by omega)⟩) (Nat.le_of_ble_eq_true rfl) (Nat.le_of_ble_eq_true rfl) dX0_adds_43
end
section
/-! CONTRACT: the law's goes (printed by wip/D-17801w/gen/m27.py) -/
set_option maxRecDepth 100000
/-- what goes answers: the number made, in the law's world again -/
abbrev il_gpost (G : il_G) (d ar am : Nat) : Int32 → il_M → Prop := fun r M' => ∃ P' made' mg' n' g', r = nI made' ∧ il_law G P' M' d ar am made' mg' n' g'
theorem il_cat_lo {g h : Nat → Int64} {n j : Nat} (hj : j < n) : g j = il_cat g n h j := by simp [il_cat, hj]
theorem il_cat_hi {g h : Nat → Int64} {n j : Nat} : il_cat g n h (n + j) = h j := by unfold il_cat; rw [if_neg (by omega), Nat.add_sub_cancel_left]
set_option maxHeartbeats 4000000 in
set_option maxRecDepth 100000 in
/-- goes: two numbers are added -/
theorem goes_0 {l : Launch} {G : il_G} {p : Program} {e : Env} {s : State} {m : MethodId} {below : List Frame} {meth : Method} {cd : Code} {M : il_M} {H : Heap} {locs : List Loc} {ls : Array Slot} {P : Nat → Prop} {d ar am made at_ : Nat} {mg : Nat → Int64} {n : Nat → Nat} {g : Nat → Nat → Int64} {xa xb xc xd xe : Int32} (hF : il_F G p s m ([.ref d, .ref ar, .ref am, .int (nI made), .ref (il_b G), .int (nI at_)] : List Value).toArray meth cd cX0_goes 22 (some .int) yX0_goes) (hw : il_W G s M H locs) (hlaw : il_law G P M d ar am made mg n g) (hl : lv_has ls 22 [(11, .int (nI made)), (10, .int xe), (9, .int xd), (8, .int xc), (7, .int xb), (6, .int xa), (0, .ref d), (1, .ref ar), (2, .ref am), (3, .int (nI made)), (4, .ref (il_b G)), (5, .int (nI at_))]) : W p l e (il_R 7 40 8000) s m ([.ref d, .ref ar, .ref am, .int (nI made), .ref (il_b G), .int (nI at_)] : List Value).toArray below meth cd H locs 0 0 (MQ below (il_Qi G (il_gpost G d ar am)) ([.ref d, .ref ar, .ref am, .int (nI made), .ref (il_b G), .int (nI at_)] : List Value).toArray s 40 8000 (il_A G)) (F0 m 108 ls []) := by
  obtain ⟨hx, hb, hr, hlk, hml, hown, hin, hts, hB⟩ := id hF
  have hown : s.vm.findClass RX0 = some m.cls := hown
  obtain ⟨hdesk, lr, mf, hown2⟩ := id hlaw
  obtain ⟨mk, rs, hd⟩ := hdesk.obj
  have hmd := hdesk.made
  obtain ⟨hPr, hPm, har, hlrows, ham, hmf⟩ := id hown2
  refine lv_aload_n hx hb dX0_goes_108 rfl (lv_at hl 6 rfl) ?_
  refine lv_aload_n hx hb dX0_goes_109 rfl (lv_at hl 8 rfl) ?_
  refine lv_iload hx hb dX0_goes_110 (lv_at hl 0 rfl) ?_
  refine lv_iload hx hb dX0_goes_112 (lv_at hl 5 rfl) ?_
  refine lv_iload hx hb dX0_goes_114 (lv_at hl 4 rfl) ?_
  refine il_ri hw (il_rS (n := 5) (As := [.ref d, .ref am, .int (nI made), .int xa, .int xb]) (rest := []) ⟨hx, hb, hml, hown, hts⟩ (met_adds hlaw) (lw_S q355 q356 q3 q357) (by decide +kernel) ⟨Nat.le_of_ble_eq_true rfl, Nat.le_of_ble_eq_true rfl⟩ hB hw rfl hl.1 rfl (Nat.le_of_ble_eq_true rfl) dX0_goes_116 ⟨(Nat.le_of_ble_eq_true rfl), (Nat.le_of_ble_eq_true rfl)⟩) (fun r1 M1 H locs hp hw => ?_)
  obtain ⟨m1, mg1, rfl, hl1, -⟩ := hp
  have hm1 := hl1.1.made
  refine lv_istore (lv' := [(11, .int (nI m1)), (10, .int xe), (9, .int xd), (8, .int xc), (7, .int xb), (6, .int xa), (0, .ref d), (1, .ref ar), (2, .ref am), (3, .int (nI made)), (4, .ref (il_b G)), (5, .int (nI at_))]) hx hb dX0_goes_119 hl (by decide) rfl (fun ls hl => ?_)
  refine lv_iload hx hb dX0_goes_121 (lv_at hl 0 rfl) ?_
  refine lv_if_ge (tgt := 130) hx hb dX0_goes_123 (by decide) (fun c => ?_) (fun c => False.elim (by have c : ¬ (0 ≤ m1) := fun z => c ((nI_leI (a := 0) (b := m1) (by omega) (by omega)).mpr z); omega))
  have c : 0 ≤ m1 := (nI_leI (a := 0) (b := m1) (by omega) (by omega)).mp c
  refine lv_aload_n hx hb dX0_goes_130 rfl (lv_at hl 6 rfl) ?_
  refine lv_aload_n hx hb dX0_goes_131 rfl (lv_at hl 8 rfl) ?_
  refine lv_iload hx hb dX0_goes_132 (lv_at hl 0 rfl) ?_
  refine lv_iload hx hb dX0_goes_134 (lv_at hl 3 rfl) ?_
  refine lv_iload hx hb dX0_goes_136 (lv_at hl 2 rfl) ?_
  refine il_ri hw (il_rS (n := 5) (As := [.ref d, .ref am, .int (nI m1), .int xc, .int xd]) (rest := []) ⟨hx, hb, hml, hown, hts⟩ (met_adds hl1) (lw_S q355 q356 q3 q357) (by decide +kernel) ⟨Nat.le_of_ble_eq_true rfl, Nat.le_of_ble_eq_true rfl⟩ hB hw rfl hl.1 rfl (Nat.le_of_ble_eq_true rfl) dX0_goes_138 ⟨(Nat.le_of_ble_eq_true rfl), (Nat.le_of_ble_eq_true rfl)⟩) (fun r2 M2 H locs hp hw => ?_)
  obtain ⟨m2, mg2, rfl, hl2, -⟩ := hp
  exact il_iret (v := (nI m2)) hx hb hr hlk rfl hw (⟨P, m2, mg2, n, g, rfl, hl2⟩) (Nat.le_of_ble_eq_true rfl) (Nat.le_of_ble_eq_true rfl) dX0_goes_141
set_option maxHeartbeats 4000000 in
set_option maxRecDepth 100000 in
/-- goes: up to 32 numbers are added -/
theorem goes_1 {l : Launch} {G : il_G} {p : Program} {e : Env} {s : State} {m : MethodId} {below : List Frame} {meth : Method} {cd : Code} {M : il_M} {H : Heap} {locs : List Loc} {ls : Array Slot} {P : Nat → Prop} {d ar am made at_ : Nat} {mg : Nat → Int64} {n : Nat → Nat} {g : Nat → Nat → Int64} {xa xb xc xd xe : Int32} (hF : il_F G p s m ([.ref d, .ref ar, .ref am, .int (nI made), .ref (il_b G), .int (nI at_)] : List Value).toArray meth cd cX0_goes 22 (some .int) yX0_goes) (hw : il_W G s M H locs) (hlaw : il_law G P M d ar am made mg n g) (hl : lv_has ls 22 [(11, .int (nI made)), (10, .int xe), (9, .int xd), (8, .int xc), (7, .int xb), (6, .int xa), (0, .ref d), (1, .ref ar), (2, .ref am), (3, .int (nI made)), (4, .ref (il_b G)), (5, .int (nI at_))]) : W p l e (il_R 7 40 8000) s m ([.ref d, .ref ar, .ref am, .int (nI made), .ref (il_b G), .int (nI at_)] : List Value).toArray below meth cd H locs 0 0 (MQ below (il_Qi G (il_gpost G d ar am)) ([.ref d, .ref ar, .ref am, .int (nI made), .ref (il_b G), .int (nI at_)] : List Value).toArray s 40 8000 (il_A G)) (F0 m 142 ls []) := by
  obtain ⟨hx, hb, hr, hlk, hml, hown, hin, hts, hB⟩ := id hF
  have hown : s.vm.findClass RX0 = some m.cls := hown
  obtain ⟨hdesk, lr, mf, hown2⟩ := id hlaw
  obtain ⟨mk, rs, hd⟩ := hdesk.obj
  have hmd := hdesk.made
  obtain ⟨hPr, hPm, har, hlrows, ham, hmf⟩ := id hown2
  obtain ⟨j, hj, ej⟩ := il_31 xe
  refine lv_iconst (v := 0) hx hb dX0_goes_142 (by decide) ?_
  refine lv_istore (lv' := [(12, .int 0), (11, .int (nI made)), (10, .int xe), (9, .int xd), (8, .int xc), (7, .int xb), (6, .int xa), (0, .ref d), (1, .ref ar), (2, .ref am), (3, .int (nI made)), (4, .ref (il_b G)), (5, .int (nI at_))]) hx hb dX0_goes_143 hl (by decide) rfl (fun ls hl => ?_)
  have loop : ∀ (k : Nat) (i : Nat) (m1 : Nat) (mg1 : Nat → Int64), (i + k = j + 1) → ∀ (M1 : il_M), (il_law G P M1 d ar am m1 mg1 n g) → ∀ (H : Heap) (locs : List Loc), il_W G s M1 H locs → ∀ ls : Array Slot, lv_has ls 22 [(0, .ref d), (2, .ref am), (6, .int xa), (7, .int xb), (8, .int xc), (9, .int xd), (10, .int xe), (11, .int (nI m1)), (12, .int (nI i))] → W p l e (il_R 7 40 8000) s m ([.ref d, .ref ar, .ref am, .int (nI made), .ref (il_b G), .int (nI at_)] : List Value).toArray below meth cd H locs (i) (200 * i) (MQ below (il_Qi G (il_gpost G d ar am)) ([.ref d, .ref ar, .ref am, .int (nI made), .ref (il_b G), .int (nI at_)] : List Value).toArray s 40 8000 (il_A G)) (F0 m 145 ls []) := by
    intro k
    induction k with
    | zero =>
      intro i m1 mg1 hik M1 hlp H locs hw ls hl
      refine lv_iload hx hb dX0_goes_145 (lv_at hl 8 rfl) ?_
      refine lv_iload hx hb dX0_goes_147 (lv_at hl 6 rfl) ?_
      refine lv_bipush (v := 31) hx hb dX0_goes_149 (by decide) ?_
      refine lv_iand hx hb dX0_goes_151 ?_
      refine il_ti (nI j) ej ?_
      refine lv_icmp_gt (tgt := 225) hx hb dX0_goes_152 (by decide) (fun c => ?_) (fun c => False.elim (by have c : ¬ (j < i) := fun z => c ((nI_ltI (a := j) (b := i) (by omega) (by omega)).mpr z); omega))
      have c : j < i := (nI_ltI (a := j) (b := i) (by omega) (by omega)).mp c
      refine lv_iload hx hb dX0_goes_225 (lv_at hl 7 rfl) ?_
      exact il_iret (v := (nI m1)) hx hb hr hlk rfl hw (⟨P, m1, mg1, n, g, rfl, hlp⟩) (by omega) (by omega) dX0_goes_227
    | succ k ih =>
      intro i m1 mg1 hik M1 hlp H locs hw ls hl
      have hm1 := hlp.1.made
      refine lv_iload hx hb dX0_goes_145 (lv_at hl 8 rfl) ?_
      refine lv_iload hx hb dX0_goes_147 (lv_at hl 6 rfl) ?_
      refine lv_bipush (v := 31) hx hb dX0_goes_149 (by decide) ?_
      refine lv_iand hx hb dX0_goes_151 ?_
      refine il_ti (nI j) ej ?_
      refine lv_icmp_gt (tgt := 225) hx hb dX0_goes_152 (by decide) (fun c => False.elim (by have c : j < i := (nI_ltI (a := j) (b := i) (by omega) (by omega)).mp c; omega)) (fun c => ?_)
      have c : ¬ (j < i) := fun z => c ((nI_ltI (a := j) (b := i) (by omega) (by omega)).mpr z)
      refine lv_iload hx hb dX0_goes_155 (lv_at hl 7 rfl) ?_
      refine lv_if_lt (tgt := 225) hx hb dX0_goes_157 (by decide) (fun c2 => False.elim (by have c2 : m1 < 0 := (nI_ltI (a := m1) (b := 0) (by omega) (by omega)).mp c2; omega)) (fun c2 => ?_)
      have c2 : ¬ (m1 < 0) := fun z => c2 ((nI_ltI (a := m1) (b := 0) (by omega) (by omega)).mpr z)
      refine lv_aload_n hx hb dX0_goes_160 rfl (lv_at hl 0 rfl) ?_
      refine lv_aload_n hx hb dX0_goes_161 rfl (lv_at hl 1 rfl) ?_
      refine lv_iload hx hb dX0_goes_162 (lv_at hl 7 rfl) ?_
      refine lv_iload hx hb dX0_goes_164 (lv_at hl 8 rfl) ?_
      refine lv_iconst (v := 3) hx hb dX0_goes_166 (by decide) ?_
      refine lv_irem hx hb dX0_goes_167 (by decide) ?_
      refine il_join (α := Int32) (fun z1 => F0 m 188 ls [.int z1, .int (nI m1), .ref am, .ref d]) (fun z1 => True) (fun z1 hz1 => ?_) (fun hk => ?_)
      · refine lv_iload hx hb dX0_goes_188 (lv_at hl 8 rfl) ?_
        refine lv_iconst (v := 3) hx hb dX0_goes_190 (by decide) ?_
        refine lv_irem hx hb dX0_goes_191 (by decide) ?_
        refine lv_iconst (v := 1) hx hb dX0_goes_192 (by decide) ?_
        refine il_join (α := Int32) (fun z2 => F0 m 214 ls [.int z2, .int z1, .int (nI m1), .ref am, .ref d]) (fun z2 => True) (fun z2 hz2 => ?_) (fun hk => ?_)
        · refine il_ri hw (il_rS (n := 5) (As := [.ref d, .ref am, .int (nI m1), .int z1, .int z2]) (rest := []) ⟨hx, hb, hml, hown, hts⟩ (met_adds hlp) (lw_S q355 q356 q3 q357) (by decide +kernel) ⟨Nat.le_of_ble_eq_true rfl, Nat.le_of_ble_eq_true rfl⟩ hB hw rfl hl.1 rfl (Nat.le_of_ble_eq_true rfl) dX0_goes_214 ⟨(by show i + 1 ≤ 40; omega), (by show 200 * i + 200 ≤ 8000; omega)⟩) (fun r1 M2 H locs hp hw => ?_)
          obtain ⟨m2, mg2, rfl, hl2, -⟩ := hp
          refine lv_istore (lv' := [(11, .int (nI m2)), (0, .ref d), (2, .ref am), (6, .int xa), (7, .int xb), (8, .int xc), (9, .int xd), (10, .int xe), (12, .int (nI i))]) hx hb dX0_goes_217 hl (by decide) rfl (fun ls hl => ?_)
          refine lv_iinc (v := nI (i + 1)) (lv' := [(12, .int (nI (i + 1))), (11, .int (nI m2)), (0, .ref d), (2, .ref am), (6, .int xa), (7, .int xb), (8, .int xc), (9, .int xd), (10, .int xe)]) hx hb dX0_goes_219 hl (k := 8) rfl (by exact nI_1 i) (by decide) rfl (fun ls hl => ?_)
          refine lv_goto (tgt := 145) hx hb dX0_goes_222 (by decide) ?_
          refine W.widen (k := (i + 1)) (n := (200 * (i + 1))) (by omega) (by omega) ?_
          exact ih (i + 1) m2 mg2 (by omega) M2 hl2 _ _ hw ls (lv_sub hl [2, 3, 4, 5, 6, 7, 8, 1, 0] rfl)
        · refine lv_icmp_ne (tgt := 207) hx hb dX0_goes_193 (by decide) (fun c3 => ?_) (fun c3 => ?_)
          · refine lv_iload hx hb dX0_goes_207 (lv_at hl 4 rfl) ?_
            refine lv_iload hx hb dX0_goes_209 (lv_at hl 8 rfl) ?_
            refine lv_ixor hx hb dX0_goes_211 ?_
            refine lv_iconst (v := 3) hx hb dX0_goes_212 (by decide) ?_
            refine lv_iand hx hb dX0_goes_213 ?_
            exact hk _ trivial
          · refine lv_iload hx hb dX0_goes_196 (lv_at hl 4 rfl) ?_
            refine lv_iload hx hb dX0_goes_198 (lv_at hl 8 rfl) ?_
            refine lv_iload hx hb dX0_goes_200 (lv_at hl 5 rfl) ?_
            refine lv_imul hx hb dX0_goes_202 ?_
            refine lv_iadd hx hb dX0_goes_203 ?_
            refine lv_goto (tgt := 214) hx hb dX0_goes_204 (by decide) ?_
            exact hk _ trivial
      · refine lv_if_ne (tgt := 182) hx hb dX0_goes_168 (by decide) (fun c3 => ?_) (fun c3 => ?_)
        · refine lv_iload hx hb dX0_goes_182 (lv_at hl 2 rfl) ?_
          refine lv_iconst (v := 1) hx hb dX0_goes_184 (by decide) ?_
          refine lv_iand hx hb dX0_goes_185 ?_
          refine lv_iconst (v := 1) hx hb dX0_goes_186 (by decide) ?_
          refine lv_isub hx hb dX0_goes_187 ?_
          exact hk _ trivial
        · refine lv_iload hx hb dX0_goes_171 (lv_at hl 2 rfl) ?_
          refine lv_iload hx hb dX0_goes_173 (lv_at hl 8 rfl) ?_
          refine lv_iload hx hb dX0_goes_175 (lv_at hl 3 rfl) ?_
          refine lv_imul hx hb dX0_goes_177 ?_
          refine lv_iadd hx hb dX0_goes_178 ?_
          refine lv_goto (tgt := 188) hx hb dX0_goes_179 (by decide) ?_
          exact hk _ trivial
  exact loop (j + 1) 0 made mg (by omega) M hlaw _ _ hw ls (lv_sub hl [7, 9, 6, 5, 4, 3, 2, 1, 0] rfl)
set_option maxHeartbeats 4000000 in
set_option maxRecDepth 100000 in
/-- goes: a row is added -/
theorem goes_2 {l : Launch} {G : il_G} {p : Program} {e : Env} {s : State} {m : MethodId} {below : List Frame} {meth : Method} {cd : Code} {M : il_M} {H : Heap} {locs : List Loc} {ls : Array Slot} {P : Nat → Prop} {d ar am made at_ : Nat} {mg : Nat → Int64} {n : Nat → Nat} {g : Nat → Nat → Int64} {xa xb xc xd xe : Int32} (hF : il_F G p s m ([.ref d, .ref ar, .ref am, .int (nI made), .ref (il_b G), .int (nI at_)] : List Value).toArray meth cd cX0_goes 22 (some .int) yX0_goes) (hw : il_W G s M H locs) (hlaw : il_law G P M d ar am made mg n g) (hl : lv_has ls 22 [(11, .int (nI made)), (10, .int xe), (9, .int xd), (8, .int xc), (7, .int xb), (6, .int xa), (0, .ref d), (1, .ref ar), (2, .ref am), (3, .int (nI made)), (4, .ref (il_b G)), (5, .int (nI at_))]) : W p l e (il_R 7 40 8000) s m ([.ref d, .ref ar, .ref am, .int (nI made), .ref (il_b G), .int (nI at_)] : List Value).toArray below meth cd H locs 0 0 (MQ below (il_Qi G (il_gpost G d ar am)) ([.ref d, .ref ar, .ref am, .int (nI made), .ref (il_b G), .int (nI at_)] : List Value).toArray s 40 8000 (il_A G)) (F0 m 228 ls []) := by
  obtain ⟨hx, hb, hr, hlk, hml, hown, hin, hts, hB⟩ := id hF
  have hown : s.vm.findClass RX0 = some m.cls := hown
  obtain ⟨hdesk, lr, mf, hown2⟩ := id hlaw
  obtain ⟨mk, rs, hd⟩ := hdesk.obj
  have hmd := hdesk.made
  obtain ⟨hPr, hPm, har, hlrows, ham, hmf⟩ := id hown2
  obtain ⟨q, f, hlr, hPq, hqa, hq, hf⟩ := hlrows (il_k xa) (il_k_lt xa)
  have hn96 := hdesk.len (il_k_lt xa)
  refine lv_aload_n hx hb dX0_goes_228 rfl (lv_at hl 7 rfl) ?_
  refine lv_iload hx hb dX0_goes_229 (lv_at hl 5 rfl) ?_
  refine lv_iconst (v := 3) hx hb dX0_goes_231 (by decide) ?_
  refine lv_iand hx hb dX0_goes_232 ?_
  refine il_ti (nI (il_k xa)) (il_k_and xa) ?_
  refine il_gald (i := (il_k xa)) hx hb hB hw har (il_k_lt xa) (by omega) rfl hlr dX0_goes_233 ?_
  refine il_alen hx hb hB hw hq dX0_goes_234 ?_
  refine lv_istore (lv' := [(12, .int (nI (n (il_k xa)))), (11, .int (nI made)), (10, .int xe), (9, .int xd), (8, .int xc), (7, .int xb), (6, .int xa), (0, .ref d), (1, .ref ar), (2, .ref am), (3, .int (nI made)), (4, .ref (il_b G)), (5, .int (nI at_))]) hx hb dX0_goes_235 hl (by decide) rfl (fun ls hl => ?_)
  refine lv_aload_n hx hb dX0_goes_237 rfl (lv_at hl 7 rfl) ?_
  refine lv_iload hx hb dX0_goes_238 (lv_at hl 6 rfl) ?_
  refine il_ri hw (il_rV (n := 1) (h := d) (As := [.int xa]) (rest := []) ⟨hx, hb, hml, hown, hts⟩ (met_daddRow hdesk (k := xa)) (lw_V q153 q154 q155 q4 q156) (by decide +kernel) ⟨Nat.le_of_ble_eq_true rfl, Nat.le_of_ble_eq_true rfl⟩ hB hw hd rfl rfl hl.1 rfl (Nat.le_of_ble_eq_true rfl) dX0_goes_240 ⟨(Nat.le_of_ble_eq_true rfl), (Nat.le_of_ble_eq_true rfl)⟩) (fun r1 M1 H locs hp hw => ?_)
  rcases hp with ⟨u1, rfl, u3⟩ | ⟨u1, rfl, u3, u4⟩
  · rw [u3] at hw
    refine lv_iload hx hb dX0_goes_243 (lv_at hl 1 rfl) ?_
    refine lv_iload hx hb dX0_goes_245 (lv_at hl 0 rfl) ?_
    refine lv_iadd hx hb dX0_goes_247 ?_
    refine il_ti (nI (made + n (il_k xa))) (nI_add _ _) ?_
    refine lv_bipush (v := 96) hx hb dX0_goes_248 (by decide) ?_
    refine lv_icmp_gt (tgt := 257) hx hb dX0_goes_250 (by decide) (fun c => ?_) (fun c => False.elim (by have c : ¬ (96 < (made + n (il_k xa))) := fun z => c ((nI_ltI (a := 96) (b := (made + n (il_k xa))) (by omega) (by omega)).mpr z); omega))
    have c : 96 < (made + n (il_k xa)) := (nI_ltI (a := 96) (b := (made + n (il_k xa))) (by omega) (by omega)).mp c
    refine lv_iconst (v := 0) hx hb dX0_goes_257 (by decide) ?_
    refine lv_icmp_eq (tgt := 263) hx hb dX0_goes_258 (by decide) (fun c2 => ?_) (fun c2 => False.elim (absurd rfl c2))
    refine lv_iload hx hb dX0_goes_263 (lv_at hl 1 rfl) ?_
    refine lv_iload hx hb dX0_goes_265 (lv_at hl 0 rfl) ?_
    refine lv_iadd hx hb dX0_goes_267 ?_
    refine il_ti (nI (made + n (il_k xa))) (nI_add _ _) ?_
    refine lv_bipush (v := 96) hx hb dX0_goes_268 (by decide) ?_
    refine lv_icmp_le (tgt := 276) hx hb dX0_goes_270 (by decide) (fun c3 => False.elim (by have c3 : (made + n (il_k xa)) ≤ 96 := (nI_leI (a := (made + n (il_k xa))) (b := 96) (by omega) (by omega)).mp c3; omega)) (fun c3 => ?_)
    have c3 : ¬ ((made + n (il_k xa)) ≤ 96) := fun z => c3 ((nI_leI (a := (made + n (il_k xa))) (b := 96) (by omega) (by omega)).mpr z)
    refine lv_iload hx hb dX0_goes_273 (lv_at hl 1 rfl) ?_
    exact il_iret (v := (nI made)) hx hb hr hlk rfl hw (⟨P, made, mg, n, g, rfl, hlaw⟩) (Nat.le_of_ble_eq_true rfl) (Nat.le_of_ble_eq_true rfl) dX0_goes_275
  · refine lv_iload hx hb dX0_goes_243 (lv_at hl 1 rfl) ?_
    refine lv_iload hx hb dX0_goes_245 (lv_at hl 0 rfl) ?_
    refine lv_iadd hx hb dX0_goes_247 ?_
    refine il_ti (nI (made + n (il_k xa))) (nI_add _ _) ?_
    refine lv_bipush (v := 96) hx hb dX0_goes_248 (by decide) ?_
    refine lv_icmp_gt (tgt := 257) hx hb dX0_goes_250 (by decide) (fun c => False.elim (by have c : 96 < (made + n (il_k xa)) := (nI_ltI (a := 96) (b := (made + n (il_k xa))) (by omega) (by omega)).mp c; omega)) (fun c => ?_)
    have c : ¬ (96 < (made + n (il_k xa))) := fun z => c ((nI_ltI (a := 96) (b := (made + n (il_k xa))) (by omega) (by omega)).mpr z)
    refine lv_iconst (v := 1) hx hb dX0_goes_253 (by decide) ?_
    refine lv_goto (tgt := 258) hx hb dX0_goes_254 (by decide) ?_
    refine lv_icmp_eq (tgt := 263) hx hb dX0_goes_258 (by decide) (fun c2 => ?_) (fun c2 => False.elim (absurd rfl c2))
    refine lv_iload hx hb dX0_goes_263 (lv_at hl 1 rfl) ?_
    refine lv_iload hx hb dX0_goes_265 (lv_at hl 0 rfl) ?_
    refine lv_iadd hx hb dX0_goes_267 ?_
    refine il_ti (nI (made + n (il_k xa))) (nI_add _ _) ?_
    refine lv_bipush (v := 96) hx hb dX0_goes_268 (by decide) ?_
    refine lv_icmp_le (tgt := 276) hx hb dX0_goes_270 (by decide) (fun c3 => ?_) (fun c3 => False.elim (by have c3 : ¬ ((made + n (il_k xa)) ≤ 96) := fun z => c3 ((nI_leI (a := (made + n (il_k xa))) (b := 96) (by omega) (by omega)).mpr z); omega))
    have c3 : (made + n (il_k xa)) ≤ 96 := (nI_leI (a := (made + n (il_k xa))) (b := 96) (by omega) (by omega)).mp c3
    refine W.widen (k := 1) (n := 200) (by omega) (by omega) ?_
    refine lv_iconst (v := 0) hx hb dX0_goes_276 (by decide) ?_
    refine lv_istore (lv' := [(13, .int 0), (12, .int (nI (n (il_k xa)))), (11, .int (nI made)), (10, .int xe), (9, .int xd), (8, .int xc), (7, .int xb), (6, .int xa), (0, .ref d), (1, .ref ar), (2, .ref am), (3, .int (nI made)), (4, .ref (il_b G)), (5, .int (nI at_))]) hx hb dX0_goes_277 hl (by decide) rfl (fun ls hl => ?_)
    have loop : ∀ (k : Nat) (i : Nat) (mf1 : Nat → Int64), (i + k = n (il_k xa)) → ∀ (M2 : il_M), (il_desk G P M2 d (made + n (il_k xa)) (il_cat mg made (g (il_k xa))) n g ∧ il_own G P M2 ar am lr mf1 n g (il_cat mg made (g (il_k xa))) (made + i)) → ∀ (H : Heap) (locs : List Loc), il_W G s M2 H locs → ∀ ls : Array Slot, lv_has ls 22 [(1, .ref ar), (2, .ref am), (6, .int xa), (11, .int (nI made)), (12, .int (nI (n (il_k xa)))), (13, .int (nI i))] → W p l e (il_R 7 40 8000) s m ([.ref d, .ref ar, .ref am, .int (nI made), .ref (il_b G), .int (nI at_)] : List Value).toArray below meth cd H locs 1 200 (MQ below (il_Qi G (il_gpost G d ar am)) ([.ref d, .ref ar, .ref am, .int (nI made), .ref (il_b G), .int (nI at_)] : List Value).toArray s 40 8000 (il_A G)) (F0 m 279 ls []) := by
      intro k
      induction k with
      | zero =>
        intro i mf1 hik M2 hlp H locs hw ls hl
        refine lv_iload hx hb dX0_goes_279 (lv_at hl 5 rfl) ?_
        refine lv_iload hx hb dX0_goes_281 (lv_at hl 4 rfl) ?_
        refine lv_icmp_ge (tgt := 308) hx hb dX0_goes_283 (by decide) (fun c => ?_) (fun c => False.elim (by have c : ¬ ((n (il_k xa)) ≤ i) := fun z => c ((nI_leI (a := (n (il_k xa))) (b := i) (by omega) (by omega)).mpr z); omega))
        have c : (n (il_k xa)) ≤ i := (nI_leI (a := (n (il_k xa))) (b := i) (by omega) (by omega)).mp c
        refine lv_iload hx hb dX0_goes_308 (lv_at hl 3 rfl) ?_
        refine lv_iload hx hb dX0_goes_310 (lv_at hl 4 rfl) ?_
        refine lv_iadd hx hb dX0_goes_312 ?_
        refine il_ti (nI (made + n (il_k xa))) (nI_add _ _) ?_
        exact il_iret (v := (nI (made + n (il_k xa)))) hx hb hr hlk rfl hw (⟨P, made + n (il_k xa), _, n, g, rfl, hlp.1, lr, mf1, by rw [show made + n (il_k xa) = made + i by omega]; exact hlp.2⟩) (Nat.le_of_ble_eq_true rfl) (Nat.le_of_ble_eq_true rfl) dX0_goes_313
      | succ k ih =>
        intro i mf1 hik M2 hlp H locs hw ls hl
        obtain ⟨hPr, hPm, har, hlrows, ham, hmf⟩ := id hlp.2
        obtain ⟨q2, f2, hlr2, hPq2, hqa2, hq2, hf2⟩ := hlrows (il_k xa) (il_k_lt xa)
        refine lv_iload hx hb dX0_goes_279 (lv_at hl 5 rfl) ?_
        refine lv_iload hx hb dX0_goes_281 (lv_at hl 4 rfl) ?_
        refine lv_icmp_ge (tgt := 308) hx hb dX0_goes_283 (by decide) (fun c => False.elim (by have c : (n (il_k xa)) ≤ i := (nI_leI (a := (n (il_k xa))) (b := i) (by omega) (by omega)).mp c; omega)) (fun c => ?_)
        have c : ¬ ((n (il_k xa)) ≤ i) := fun z => c ((nI_leI (a := (n (il_k xa))) (b := i) (by omega) (by omega)).mpr z)
        refine lv_aload_n hx hb dX0_goes_286 rfl (lv_at hl 1 rfl) ?_
        refine lv_iload hx hb dX0_goes_287 (lv_at hl 3 rfl) ?_
        refine lv_iload hx hb dX0_goes_289 (lv_at hl 5 rfl) ?_
        refine lv_iadd hx hb dX0_goes_291 ?_
        refine il_ti (nI (made + i)) (nI_add _ _) ?_
        refine lv_aload_n hx hb dX0_goes_292 rfl (lv_at hl 0 rfl) ?_
        refine lv_iload hx hb dX0_goes_293 (lv_at hl 2 rfl) ?_
        refine lv_iconst (v := 3) hx hb dX0_goes_295 (by decide) ?_
        refine lv_iand hx hb dX0_goes_296 ?_
        refine il_ti (nI (il_k xa)) (il_k_and xa) ?_
        refine il_gald (i := (il_k xa)) hx hb hB hw har (il_k_lt xa) (by omega) rfl hlr2 dX0_goes_297 ?_
        refine lv_iload hx hb dX0_goes_298 (lv_at hl 5 rfl) ?_
        refine il_lald (i := i) hx hb hB hw hq2 (by omega) (by omega) rfl dX0_goes_300 ?_
        refine il_tl (g (il_k xa) i) (hf2 i (by omega)) ?_
        refine il_last (i := (made + i)) hx hb hB hw ham (by omega) (by omega) rfl dX0_goes_301 (fun H locs hw => ?_)
        have hw : il_W G s (il_up M2 am (il_eJ G 96 (vp_updL mf1 (made + i) (g (il_k xa) i)))) H locs := hw
        have har := il_up_keep (a := am) (e := (il_eJ G 96 (vp_updL mf1 (made + i) (g (il_k xa) i)))) (il_ne har ham (by simp)) har
        have ham : il_up M2 am (il_eJ G 96 (vp_updL mf1 (made + i) (g (il_k xa) i))) am = some (il_eJ G 96 (vp_updL mf1 (made + i) (g (il_k xa) i))) := il_up_eq _ _ _
        generalize eM3 : il_up M2 am (il_eJ G 96 (vp_updL mf1 (made + i) (g (il_k xa) i))) = M3 at hw har ham
        refine lv_iinc (v := nI (i + 1)) (lv' := [(13, .int (nI (i + 1))), (1, .ref ar), (2, .ref am), (6, .int xa), (11, .int (nI made)), (12, .int (nI (n (il_k xa))))]) hx hb dX0_goes_302 hl (k := 5) rfl (by exact nI_1 i) (by decide) rfl (fun ls hl => ?_)
        refine lv_goto (tgt := 279) hx hb dX0_goes_305 (by decide) ?_
        exact ih (i + 1) _ (by omega) M3 (by rw [← eM3]; exact ⟨hlp.1.up hPm, hlp.2.put (fun _ _ => rfl) il_cat_hi.symm⟩) _ _ hw ls (lv_sub hl [1, 2, 3, 4, 5, 0] rfl)
    exact loop (n (il_k xa)) 0 mf (by omega) M1 ⟨u3, (hown2.fr u4).mg (Nat.le_refl _) (fun j hj => il_cat_lo hj)⟩ _ _ hw ls (lv_sub hl [9, 10, 7, 2, 1, 0] rfl)
set_option maxHeartbeats 4000000 in
set_option maxRecDepth 100000 in
/-- goes: a row is built -/
theorem goes_3 {l : Launch} {G : il_G} {p : Program} {e : Env} {s : State} {m : MethodId} {below : List Frame} {meth : Method} {cd : Code} {M : il_M} {H : Heap} {locs : List Loc} {ls : Array Slot} {P : Nat → Prop} {d ar am made at_ : Nat} {mg : Nat → Int64} {n : Nat → Nat} {g : Nat → Nat → Int64} {xa xb xc xd xe : Int32} (hF : il_F G p s m ([.ref d, .ref ar, .ref am, .int (nI made), .ref (il_b G), .int (nI at_)] : List Value).toArray meth cd cX0_goes 22 (some .int) yX0_goes) (hw : il_W G s M H locs) (hlaw : il_law G P M d ar am made mg n g) (hl : lv_has ls 22 [(11, .int (nI made)), (10, .int xe), (9, .int xd), (8, .int xc), (7, .int xb), (6, .int xa), (0, .ref d), (1, .ref ar), (2, .ref am), (3, .int (nI made)), (4, .ref (il_b G)), (5, .int (nI at_))]) : W p l e (il_R 7 40 8000) s m ([.ref d, .ref ar, .ref am, .int (nI made), .ref (il_b G), .int (nI at_)] : List Value).toArray below meth cd H locs 0 0 (MQ below (il_Qi G (il_gpost G d ar am)) ([.ref d, .ref ar, .ref am, .int (nI made), .ref (il_b G), .int (nI at_)] : List Value).toArray s 40 8000 (il_A G)) (F0 m 314 ls []) := by
  obtain ⟨hx, hb, hr, hlk, hml, hown, hin, hts, hB⟩ := id hF
  have hown : s.vm.findClass RX0 = some m.cls := hown
  obtain ⟨hdesk, lr, mf, hown2⟩ := id hlaw
  obtain ⟨mk, rs, hd⟩ := hdesk.obj
  have hmd := hdesk.made
  obtain ⟨hPr, hPm, har, hlrows, ham, hmf⟩ := id hown2
  refine lv_aload_n hx hb dX0_goes_314 rfl (lv_at hl 7 rfl) ?_
  refine lv_iload hx hb dX0_goes_315 (lv_at hl 5 rfl) ?_
  refine lv_iconst (v := 3) hx hb dX0_goes_317 (by decide) ?_
  refine lv_iand hx hb dX0_goes_318 ?_
  refine il_ti (nI (il_k xa)) (il_k_and xa) ?_
  refine lv_aload_n hx hb dX0_goes_319 rfl (lv_at hl 8 rfl) ?_
  refine lv_iconst (v := 0) hx hb dX0_goes_320 (by decide) ?_
  refine lv_iload hx hb dX0_goes_321 (lv_at hl 0 rfl) ?_
  refine il_rr hw (il_rS (n := 3) (As := [.ref am, .int 0, .int (nI made)]) (rest := [.int (nI (il_k xa)), .ref ar]) ⟨hx, hb, hml, hown, hts⟩ (met_lpart ham (Nat.le_refl _) (st := 0) (k := made) (by omega)) (lw_S q342 q343 q3 q344) (by decide +kernel) ⟨Nat.le_of_ble_eq_true rfl, Nat.le_of_ble_eq_true rfl⟩ hB hw rfl hl.1 rfl (Nat.le_of_ble_eq_true rfl) dX0_goes_323 ⟨(Nat.le_of_ble_eq_true rfl), (Nat.le_of_ble_eq_true rfl)⟩) (fun q1 M_ H locs hp hw => ?_)
  obtain ⟨hn1, f', eM_, hf'⟩ := hp
  rw [eM_] at hw
  have hw : il_W G s (il_up M q1 (il_eJ G made f')) H locs := hw
  have hd := il_up_keep (a := q1) (e := (il_eJ G made f')) (il_new hn1 hd) hd
  have har := il_up_keep (a := q1) (e := (il_eJ G made f')) (il_new hn1 har) har
  have ham := il_up_keep (a := q1) (e := (il_eJ G made f')) (il_new hn1 ham) ham
  have h1 : il_up M q1 (il_eJ G made f') q1 = some (il_eJ G made f') := il_up_eq _ _ _
  generalize eM1 : il_up M q1 (il_eJ G made f') = M1 at hw hd har ham h1
  have hdesk2 : il_desk G (fun x => P x ∨ x = q1) (il_up M1 ar (il_eL G 4 (va_up lr (il_k xa) (some q1)))) d made mg n g := by rw [← eM1]; exact (hdesk.new hn1).up (Or.inl hPr)
  have hown3 : il_own G (fun x => P x ∨ x = q1) (il_up M1 ar (il_eL G 4 (va_up lr (il_k xa) (some q1)))) ar am (va_up lr (il_k xa) (some q1)) mf (il_set n (il_k xa) made) (il_set g (il_k xa) (mg)) mg made := by rw [← eM1]; exact hown2.row hn1 (il_k_lt xa) (fun j hj => by rw [hf' j hj, Nat.zero_add]; exact hmf j hj)
  refine il_gast (i := (il_k xa)) hx hb hB hw har h1 (il_k_lt xa) (by omega) rfl dX0_goes_326 (fun H locs hw => ?_)
  have hw : il_W G s (il_up M1 ar (il_eL G 4 (va_up lr (il_k xa) (some q1)))) H locs := hw
  have hd := il_up_keep (a := ar) (e := (il_eL G 4 (va_up lr (il_k xa) (some q1)))) (il_ne hd har (by simp)) hd
  have ham := il_up_keep (a := ar) (e := (il_eL G 4 (va_up lr (il_k xa) (some q1)))) (il_ne ham har (by simp)) ham
  have h1 := il_up_keep (a := ar) (e := (il_eL G 4 (va_up lr (il_k xa) (some q1)))) (il_ne h1 har (by simp)) h1
  have har : il_up M1 ar (il_eL G 4 (va_up lr (il_k xa) (some q1))) ar = some (il_eL G 4 (va_up lr (il_k xa) (some q1))) := il_up_eq _ _ _
  generalize eM2 : il_up M1 ar (il_eL G 4 (va_up lr (il_k xa) (some q1))) = M2 at hw hd ham h1 har
  rw [eM2] at hdesk2 hown3
  refine lv_aload_n hx hb dX0_goes_327 rfl (lv_at hl 6 rfl) ?_
  refine lv_iload hx hb dX0_goes_328 (lv_at hl 5 rfl) ?_
  refine il_ri hw (il_rV (n := 1) (h := d) (As := [.int xa]) (rest := []) ⟨hx, hb, hml, hown, hts⟩ (met_dbuild hdesk2 (k := xa)) (lw_V q215 q216 q217 q4 q218) (by decide +kernel) ⟨Nat.le_of_ble_eq_true rfl, Nat.le_of_ble_eq_true rfl⟩ hB hw hd rfl rfl hl.1 rfl (Nat.le_of_ble_eq_true rfl) dX0_goes_330 ⟨(Nat.le_of_ble_eq_true rfl), (Nat.le_of_ble_eq_true rfl)⟩) (fun r1 M3 H locs hp hw => ?_)
  obtain ⟨rfl, u1, u2⟩ := hp
  refine lv_iload hx hb dX0_goes_333 (lv_at hl 0 rfl) ?_
  refine lv_icmp_ne (tgt := 343) hx hb dX0_goes_335 (by decide) (fun c => False.elim (by have c : ¬ (made = made) := fun z => c ((nI_eq (a := made) (b := made) (by omega) (by omega)).mpr z); omega)) (fun c => ?_)
  have c : made = made := (nI_eq (a := made) (b := made) (by omega) (by omega)).mp c
  refine lv_iload hx hb dX0_goes_338 (lv_at hl 0 rfl) ?_
  refine lv_goto (tgt := 344) hx hb dX0_goes_340 (by decide) ?_
  exact il_iret (v := (nI made)) hx hb hr hlk rfl hw (⟨_, made, mg, _, _, rfl, u1, _, mf, hown3.fr u2⟩) (Nat.le_of_ble_eq_true rfl) (Nat.le_of_ble_eq_true rfl) dX0_goes_344
set_option maxHeartbeats 4000000 in
set_option maxRecDepth 100000 in
/-- goes: a row is trimmed, or the builder made anew -/
theorem goes_4 {l : Launch} {G : il_G} {p : Program} {e : Env} {s : State} {m : MethodId} {below : List Frame} {meth : Method} {cd : Code} {M : il_M} {H : Heap} {locs : List Loc} {ls : Array Slot} {P : Nat → Prop} {d ar am made at_ : Nat} {mg : Nat → Int64} {n : Nat → Nat} {g : Nat → Nat → Int64} {xa xb xc xd xe : Int32} (hF : il_F G p s m ([.ref d, .ref ar, .ref am, .int (nI made), .ref (il_b G), .int (nI at_)] : List Value).toArray meth cd cX0_goes 22 (some .int) yX0_goes) (hw : il_W G s M H locs) (hlaw : il_law G P M d ar am made mg n g) (hl : lv_has ls 22 [(11, .int (nI made)), (10, .int xe), (9, .int xd), (8, .int xc), (7, .int xb), (6, .int xa), (0, .ref d), (1, .ref ar), (2, .ref am), (3, .int (nI made)), (4, .ref (il_b G)), (5, .int (nI at_))]) : W p l e (il_R 7 40 8000) s m ([.ref d, .ref ar, .ref am, .int (nI made), .ref (il_b G), .int (nI at_)] : List Value).toArray below meth cd H locs 0 0 (MQ below (il_Qi G (il_gpost G d ar am)) ([.ref d, .ref ar, .ref am, .int (nI made), .ref (il_b G), .int (nI at_)] : List Value).toArray s 40 8000 (il_A G)) (F0 m 345 ls []) := by
  obtain ⟨hx, hb, hr, hlk, hml, hown, hin, hts, hB⟩ := id hF
  have hown : s.vm.findClass RX0 = some m.cls := hown
  obtain ⟨hdesk, lr, mf, hown2⟩ := id hlaw
  obtain ⟨mk, rs, hd⟩ := hdesk.obj
  have hmd := hdesk.made
  obtain ⟨hPr, hPm, har, hlrows, ham, hmf⟩ := id hown2
  refine lv_iload hx hb dX0_goes_345 (lv_at hl 4 rfl) ?_
  refine lv_iconst (v := 1) hx hb dX0_goes_347 (by decide) ?_
  refine lv_iand hx hb dX0_goes_348 ?_
  refine lv_if_ne (tgt := 361) hx hb dX0_goes_349 (by decide) (fun c => ?_) (fun c => ?_)
  · refine lv_aload_n hx hb dX0_goes_361 rfl (lv_at hl 6 rfl) ?_
    refine lv_iload hx hb dX0_goes_362 (lv_at hl 5 rfl) ?_
    refine il_rv hw (il_rV (n := 1) (h := d) (As := [.int xa]) (rest := []) ⟨hx, hb, hml, hown, hts⟩ (met_danew hdesk (x := xa)) (lw_V q226 q227 q228 q4 q229) (by decide +kernel) ⟨Nat.le_of_ble_eq_true rfl, Nat.le_of_ble_eq_true rfl⟩ hB hw hd rfl rfl hl.1 rfl (Nat.le_of_ble_eq_true rfl) dX0_goes_364 ⟨(Nat.le_of_ble_eq_true rfl), (Nat.le_of_ble_eq_true rfl)⟩) (fun M1 H locs hp hw => ?_)
    refine lv_iconst (v := 0) hx hb dX0_goes_367 (by decide) ?_
    exact il_iret (v := 0) hx hb hr hlk rfl hw (⟨P, 0, mg, n, g, rfl, hp.1, lr, mf, (hown2.fr hp.2).mg (Nat.zero_le _) (fun j hj => absurd hj (by omega))⟩) (Nat.le_of_ble_eq_true rfl) (Nat.le_of_ble_eq_true rfl) dX0_goes_368
  · refine lv_aload_n hx hb dX0_goes_352 rfl (lv_at hl 6 rfl) ?_
    refine lv_iload hx hb dX0_goes_353 (lv_at hl 5 rfl) ?_
    refine il_rv hw (il_rV (n := 1) (h := d) (As := [.int xa]) (rest := []) ⟨hx, hb, hml, hown, hts⟩ (met_dtrim hdesk (k := xa)) (lw_V q375 q376 q377 q4 q378) (by decide +kernel) ⟨Nat.le_of_ble_eq_true rfl, Nat.le_of_ble_eq_true rfl⟩ hB hw hd rfl rfl hl.1 rfl (Nat.le_of_ble_eq_true rfl) dX0_goes_355 ⟨(Nat.le_of_ble_eq_true rfl), (Nat.le_of_ble_eq_true rfl)⟩) (fun M1 H locs hp hw => ?_)
    refine lv_iload hx hb dX0_goes_358 (lv_at hl 0 rfl) ?_
    exact il_iret (v := (nI made)) hx hb hr hlk rfl hw (⟨P, made, mg, n, g, rfl, hp.1, lr, mf, hown2.fr hp.2⟩) (Nat.le_of_ble_eq_true rfl) (Nat.le_of_ble_eq_true rfl) dX0_goes_360
set_option maxHeartbeats 4000000 in
set_option maxRecDepth 100000 in
/-- goes: a part of a row -/
theorem goes_5 {l : Launch} {G : il_G} {p : Program} {e : Env} {s : State} {m : MethodId} {below : List Frame} {meth : Method} {cd : Code} {M : il_M} {H : Heap} {locs : List Loc} {ls : Array Slot} {P : Nat → Prop} {d ar am made at_ : Nat} {mg : Nat → Int64} {n : Nat → Nat} {g : Nat → Nat → Int64} {xa xb xc xd xe : Int32} (hF : il_F G p s m ([.ref d, .ref ar, .ref am, .int (nI made), .ref (il_b G), .int (nI at_)] : List Value).toArray meth cd cX0_goes 22 (some .int) yX0_goes) (hw : il_W G s M H locs) (hlaw : il_law G P M d ar am made mg n g) (hl : lv_has ls 22 [(11, .int (nI made)), (10, .int xe), (9, .int xd), (8, .int xc), (7, .int xb), (6, .int xa), (0, .ref d), (1, .ref ar), (2, .ref am), (3, .int (nI made)), (4, .ref (il_b G)), (5, .int (nI at_))]) : W p l e (il_R 7 40 8000) s m ([.ref d, .ref ar, .ref am, .int (nI made), .ref (il_b G), .int (nI at_)] : List Value).toArray below meth cd H locs 0 0 (MQ below (il_Qi G (il_gpost G d ar am)) ([.ref d, .ref ar, .ref am, .int (nI made), .ref (il_b G), .int (nI at_)] : List Value).toArray s 40 8000 (il_A G)) (F0 m 369 ls []) := by
  obtain ⟨hx, hb, hr, hlk, hml, hown, hin, hts, hB⟩ := id hF
  have hown : s.vm.findClass RX0 = some m.cls := hown
  obtain ⟨hdesk, lr, mf, hown2⟩ := id hlaw
  obtain ⟨mk, rs, hd⟩ := hdesk.obj
  have hmd := hdesk.made
  obtain ⟨hPr, hPm, har, hlrows, ham, hmf⟩ := id hown2
  obtain ⟨q, f, hlr, hPq, hqa, hq, hf⟩ := hlrows (il_k xb) (il_k_lt xb)
  have hn96 := hdesk.len (il_k_lt xb)
  have hm1 := il_m_lt xc
  have hm2 := il_m_lt xd
  obtain ⟨f0, ef⟩ : ∃ f0, f0 = il_m xc % (n (il_k xb) + 1) := ⟨_, rfl⟩
  obtain ⟨c0, ec⟩ : ∃ c0, c0 = il_m xd % (n (il_k xb) - f0 + 1) := ⟨_, rfl⟩
  have hf0 : f0 < n (il_k xb) + 1 := by rw [ef]; exact Nat.mod_lt _ (by omega)
  have hc0 : c0 < n (il_k xb) - f0 + 1 := by rw [ec]; exact Nat.mod_lt _ (by omega)
  refine lv_aload_n hx hb dX0_goes_369 rfl (lv_at hl 7 rfl) ?_
  refine lv_iload hx hb dX0_goes_370 (lv_at hl 4 rfl) ?_
  refine lv_iconst (v := 3) hx hb dX0_goes_372 (by decide) ?_
  refine lv_iand hx hb dX0_goes_373 ?_
  refine il_ti (nI (il_k xb)) (il_k_and xb) ?_
  refine il_gald (i := (il_k xb)) hx hb hB hw har (il_k_lt xb) (by omega) rfl hlr dX0_goes_374 ?_
  refine lv_astore (lv' := [(13, .ref q), (11, .int (nI made)), (10, .int xe), (9, .int xd), (8, .int xc), (7, .int xb), (6, .int xa), (0, .ref d), (1, .ref ar), (2, .ref am), (3, .int (nI made)), (4, .ref (il_b G)), (5, .int (nI at_))]) hx hb dX0_goes_375 hl (by decide) rfl (fun ls hl => ?_)
  refine lv_iload hx hb dX0_goes_377 (lv_at hl 4 rfl) ?_
  refine lv_ldc hx hb hown (hts _ q374) dX0_goes_379 ?_
  refine lv_iand hx hb dX0_goes_381 ?_
  refine il_ti (nI (il_m xc)) (il_m_and xc) ?_
  refine lv_aload hx hb dX0_goes_382 (lv_at hl 0 rfl) ?_
  refine il_alen hx hb hB hw hq dX0_goes_384 ?_
  refine lv_iconst (v := 1) hx hb dX0_goes_385 (by decide) ?_
  refine lv_iadd hx hb dX0_goes_386 ?_
  refine il_ti (nI (n (il_k xb) + 1)) (nI_1 _) ?_
  refine lv_irem hx hb dX0_goes_387 (nI_ne0 (n := (n (il_k xb) + 1)) (by omega) (by omega)) ?_
  refine il_ti (nI ((il_m xc) % (n (il_k xb) + 1))) (il_rem (a := (il_m xc)) (d := (n (il_k xb) + 1)) (by omega) (by omega) (by omega)) ?_
  refine il_ti (nI f0) (by rw [ef]) ?_
  refine lv_istore (lv' := [(14, .int (nI f0)), (13, .ref q), (11, .int (nI made)), (10, .int xe), (9, .int xd), (8, .int xc), (7, .int xb), (6, .int xa), (0, .ref d), (1, .ref ar), (2, .ref am), (3, .int (nI made)), (4, .ref (il_b G)), (5, .int (nI at_))]) hx hb dX0_goes_388 hl (by decide) rfl (fun ls hl => ?_)
  refine lv_iload hx hb dX0_goes_390 (lv_at hl 4 rfl) ?_
  refine lv_ldc hx hb hown (hts _ q374) dX0_goes_392 ?_
  refine lv_iand hx hb dX0_goes_394 ?_
  refine il_ti (nI (il_m xd)) (il_m_and xd) ?_
  refine lv_aload hx hb dX0_goes_395 (lv_at hl 1 rfl) ?_
  refine il_alen hx hb hB hw hq dX0_goes_397 ?_
  refine lv_iload hx hb dX0_goes_398 (lv_at hl 0 rfl) ?_
  refine lv_isub hx hb dX0_goes_400 ?_
  refine il_ti (nI (n (il_k xb) - f0)) (pk_sub (by omega)) ?_
  refine lv_iconst (v := 1) hx hb dX0_goes_401 (by decide) ?_
  refine lv_iadd hx hb dX0_goes_402 ?_
  refine il_ti (nI (n (il_k xb) - f0 + 1)) (nI_1 _) ?_
  refine lv_irem hx hb dX0_goes_403 (nI_ne0 (n := (n (il_k xb) - f0 + 1)) (by omega) (by omega)) ?_
  refine il_ti (nI ((il_m xd) % (n (il_k xb) - f0 + 1))) (il_rem (a := (il_m xd)) (d := (n (il_k xb) - f0 + 1)) (by omega) (by omega) (by omega)) ?_
  refine il_ti (nI c0) (by rw [ec]) ?_
  refine lv_istore (lv' := [(15, .int (nI c0)), (14, .int (nI f0)), (13, .ref q), (11, .int (nI made)), (10, .int xe), (9, .int xd), (8, .int xc), (7, .int xb), (6, .int xa), (0, .ref d), (1, .ref ar), (2, .ref am), (3, .int (nI made)), (4, .ref (il_b G)), (5, .int (nI at_))]) hx hb dX0_goes_404 hl (by decide) rfl (fun ls hl => ?_)
  refine lv_aload_n hx hb dX0_goes_406 rfl (lv_at hl 10 rfl) ?_
  refine lv_iload hx hb dX0_goes_407 (lv_at hl 8 rfl) ?_
  refine lv_iconst (v := 3) hx hb dX0_goes_409 (by decide) ?_
  refine lv_iand hx hb dX0_goes_410 ?_
  refine il_ti (nI (il_k xa)) (il_k_and xa) ?_
  refine lv_aload hx hb dX0_goes_411 (lv_at hl 2 rfl) ?_
  refine lv_iload hx hb dX0_goes_413 (lv_at hl 1 rfl) ?_
  refine lv_iload hx hb dX0_goes_415 (lv_at hl 0 rfl) ?_
  refine il_rr hw (il_rS (n := 3) (As := [.ref q, .int (nI f0), .int (nI c0)]) (rest := [.int (nI (il_k xa)), .ref ar]) ⟨hx, hb, hml, hown, hts⟩ (met_lpart hq hn96 (st := f0) (k := c0) (by omega)) (lw_S q342 q343 q3 q344) (by decide +kernel) ⟨Nat.le_of_ble_eq_true rfl, Nat.le_of_ble_eq_true rfl⟩ hB hw rfl hl.1 rfl (Nat.le_of_ble_eq_true rfl) dX0_goes_417 ⟨(Nat.le_of_ble_eq_true rfl), (Nat.le_of_ble_eq_true rfl)⟩) (fun q1 M_ H locs hp hw => ?_)
  obtain ⟨hn1, f', eM_, hf'⟩ := hp
  rw [eM_] at hw
  have hw : il_W G s (il_up M q1 (il_eJ G c0 f')) H locs := hw
  have hd := il_up_keep (a := q1) (e := (il_eJ G c0 f')) (il_new hn1 hd) hd
  have har := il_up_keep (a := q1) (e := (il_eJ G c0 f')) (il_new hn1 har) har
  have ham := il_up_keep (a := q1) (e := (il_eJ G c0 f')) (il_new hn1 ham) ham
  have hq := il_up_keep (a := q1) (e := (il_eJ G c0 f')) (il_new hn1 hq) hq
  have h1 : il_up M q1 (il_eJ G c0 f') q1 = some (il_eJ G c0 f') := il_up_eq _ _ _
  generalize eM1 : il_up M q1 (il_eJ G c0 f') = M1 at hw hd har ham hq h1
  have hdesk2 : il_desk G (fun x => P x ∨ x = q1) (il_up M1 ar (il_eL G 4 (va_up lr (il_k xa) (some q1)))) d made mg n g := by rw [← eM1]; exact (hdesk.new hn1).up (Or.inl hPr)
  have hown3 : il_own G (fun x => P x ∨ x = q1) (il_up M1 ar (il_eL G 4 (va_up lr (il_k xa) (some q1)))) ar am (va_up lr (il_k xa) (some q1)) mf (il_set n (il_k xa) c0) (il_set g (il_k xa) (fun z => g (il_k xb) (f0 + z))) mg made := by rw [← eM1]; exact hown2.row hn1 (il_k_lt xa) (fun j hj => by rw [hf' j hj]; exact hf (f0 + j) (by omega))
  refine il_gast (i := (il_k xa)) hx hb hB hw har h1 (il_k_lt xa) (by omega) rfl dX0_goes_420 (fun H locs hw => ?_)
  have hw : il_W G s (il_up M1 ar (il_eL G 4 (va_up lr (il_k xa) (some q1)))) H locs := hw
  have hd := il_up_keep (a := ar) (e := (il_eL G 4 (va_up lr (il_k xa) (some q1)))) (il_ne hd har (by simp)) hd
  have ham := il_up_keep (a := ar) (e := (il_eL G 4 (va_up lr (il_k xa) (some q1)))) (il_ne ham har (by simp)) ham
  have hq := il_up_keep (a := ar) (e := (il_eL G 4 (va_up lr (il_k xa) (some q1)))) (il_ne hq har (by simp)) hq
  have h1 := il_up_keep (a := ar) (e := (il_eL G 4 (va_up lr (il_k xa) (some q1)))) (il_ne h1 har (by simp)) h1
  have har : il_up M1 ar (il_eL G 4 (va_up lr (il_k xa) (some q1))) ar = some (il_eL G 4 (va_up lr (il_k xa) (some q1))) := il_up_eq _ _ _
  generalize eM2 : il_up M1 ar (il_eL G 4 (va_up lr (il_k xa) (some q1))) = M2 at hw hd ham hq h1 har
  rw [eM2] at hdesk2 hown3
  refine lv_aload_n hx hb dX0_goes_421 rfl (lv_at hl 9 rfl) ?_
  refine lv_iload hx hb dX0_goes_422 (lv_at hl 8 rfl) ?_
  refine lv_iload hx hb dX0_goes_424 (lv_at hl 7 rfl) ?_
  refine lv_iload hx hb dX0_goes_426 (lv_at hl 6 rfl) ?_
  refine lv_iload hx hb dX0_goes_428 (lv_at hl 5 rfl) ?_
  refine il_ri hw (il_rV (n := 4) (h := d) (As := [.int xa, .int xb, .int xc, .int xd]) (rest := []) ⟨hx, hb, hml, hown, hts⟩ (met_dpart hdesk2 (t := xa) (k := xb) (x := xc) (y := xd)) (lw_V q230 q231 q232 q4 q233) (by decide +kernel) ⟨Nat.le_of_ble_eq_true rfl, Nat.le_of_ble_eq_true rfl⟩ hB hw hd rfl rfl hl.1 rfl (Nat.le_of_ble_eq_true rfl) dX0_goes_430 ⟨(Nat.le_of_ble_eq_true rfl), (Nat.le_of_ble_eq_true rfl)⟩) (fun r1 M3 H locs hp hw => ?_)
  rw [← ef, ← ec] at hp
  obtain ⟨rfl, u1, u2⟩ := hp
  refine lv_iload hx hb dX0_goes_433 (lv_at hl 0 rfl) ?_
  refine lv_icmp_ne (tgt := 443) hx hb dX0_goes_435 (by decide) (fun c => False.elim (by have c : ¬ (c0 = c0) := fun z => c ((nI_eq (a := c0) (b := c0) (by omega) (by omega)).mpr z); omega)) (fun c => ?_)
  have c : c0 = c0 := (nI_eq (a := c0) (b := c0) (by omega) (by omega)).mp c
  refine lv_iload hx hb dX0_goes_438 (lv_at hl 3 rfl) ?_
  refine lv_goto (tgt := 444) hx hb dX0_goes_440 (by decide) ?_
  exact il_iret (v := (nI made)) hx hb hr hlk rfl hw (⟨_, made, mg, _, _, rfl, u1, _, mf, hown3.fr u2⟩) (Nat.le_of_ble_eq_true rfl) (Nat.le_of_ble_eq_true rfl) dX0_goes_444
set_option maxHeartbeats 4000000 in
set_option maxRecDepth 100000 in
/-- goes: a number is asked for -/
theorem goes_6 {l : Launch} {G : il_G} {p : Program} {e : Env} {s : State} {m : MethodId} {below : List Frame} {meth : Method} {cd : Code} {M : il_M} {H : Heap} {locs : List Loc} {ls : Array Slot} {P : Nat → Prop} {d ar am made at_ : Nat} {mg : Nat → Int64} {n : Nat → Nat} {g : Nat → Nat → Int64} {xa xb xc xd xe : Int32} (hF : il_F G p s m ([.ref d, .ref ar, .ref am, .int (nI made), .ref (il_b G), .int (nI at_)] : List Value).toArray meth cd cX0_goes 22 (some .int) yX0_goes) (hw : il_W G s M H locs) (hlaw : il_law G P M d ar am made mg n g) (hl : lv_has ls 22 [(11, .int (nI made)), (10, .int xe), (9, .int xd), (8, .int xc), (7, .int xb), (6, .int xa), (0, .ref d), (1, .ref ar), (2, .ref am), (3, .int (nI made)), (4, .ref (il_b G)), (5, .int (nI at_))]) : W p l e (il_R 7 40 8000) s m ([.ref d, .ref ar, .ref am, .int (nI made), .ref (il_b G), .int (nI at_)] : List Value).toArray below meth cd H locs 0 0 (MQ below (il_Qi G (il_gpost G d ar am)) ([.ref d, .ref ar, .ref am, .int (nI made), .ref (il_b G), .int (nI at_)] : List Value).toArray s 40 8000 (il_A G)) (F0 m 445 ls []) := by
  obtain ⟨hx, hb, hr, hlk, hml, hown, hin, hts, hB⟩ := id hF
  have hown : s.vm.findClass RX0 = some m.cls := hown
  obtain ⟨hdesk, lr, mf, hown2⟩ := id hlaw
  obtain ⟨mk, rs, hd⟩ := hdesk.obj
  have hmd := hdesk.made
  obtain ⟨hPr, hPm, har, hlrows, ham, hmf⟩ := id hown2
  obtain ⟨q, f, hlr, hPq, hqa, hq, hf⟩ := hlrows (il_k xa) (il_k_lt xa)
  have hn96 := hdesk.len (il_k_lt xa)
  have hmd1 := il_m_lt xd
  refine lv_aload_n hx hb dX0_goes_445 rfl (lv_at hl 7 rfl) ?_
  refine lv_iload hx hb dX0_goes_446 (lv_at hl 5 rfl) ?_
  refine lv_iconst (v := 3) hx hb dX0_goes_448 (by decide) ?_
  refine lv_iand hx hb dX0_goes_449 ?_
  refine il_ti (nI (il_k xa)) (il_k_and xa) ?_
  refine il_gald (i := (il_k xa)) hx hb hB hw har (il_k_lt xa) (by omega) rfl hlr dX0_goes_450 ?_
  refine lv_astore (lv' := [(16, .ref q), (11, .int (nI made)), (10, .int xe), (9, .int xd), (8, .int xc), (7, .int xb), (6, .int xa), (0, .ref d), (1, .ref ar), (2, .ref am), (3, .int (nI made)), (4, .ref (il_b G)), (5, .int (nI at_))]) hx hb dX0_goes_451 hl (by decide) rfl (fun ls hl => ?_)
  refine lv_aload hx hb dX0_goes_453 (lv_at hl 0 rfl) ?_
  refine il_alen hx hb hB hw hq dX0_goes_455 ?_
  refine il_joinW (α := Int64) (G := G) (M := M) (fun z0 => F0 m 481 ls [.long z0]) (fun z0 => True) 0 0 (fun z0 H locs hz0 hw => ?_) (fun hk => ?_)
  · refine lv_lstore (lv' := [(17, .long z0), (16, .ref q), (11, .int (nI made)), (10, .int xe), (9, .int xd), (8, .int xc), (7, .int xb), (6, .int xa), (0, .ref d), (1, .ref ar), (2, .ref am), (3, .int (nI made)), (4, .ref (il_b G)), (5, .int (nI at_))]) hx hb dX0_goes_481 hl (by decide) rfl (fun ls hl => ?_)
    refine lv_iconst (v := 0) hx hb dX0_goes_483 (by decide) ?_
    refine lv_istore (lv' := [(19, .int 0), (17, .long z0), (16, .ref q), (11, .int (nI made)), (10, .int xe), (9, .int xd), (8, .int xc), (7, .int xb), (6, .int xa), (0, .ref d), (1, .ref ar), (2, .ref am), (3, .int (nI made)), (4, .ref (il_b G)), (5, .int (nI at_))]) hx hb dX0_goes_484 hl (by decide) rfl (fun ls hl => ?_)
    have loop : ∀ (k : Nat) (i : Nat) (v : Int64), (i + k = 3) → ∀ (H : Heap) (locs : List Loc), il_W G s M H locs → ∀ ls : Array Slot, lv_has ls 22 [(0, .ref d), (6, .int xa), (7, .int xb), (8, .int xc), (9, .int xd), (11, .int (nI made)), (16, .ref q), (17, .long v), (19, .int (nI i))] → W p l e (il_R 7 40 8000) s m ([.ref d, .ref ar, .ref am, .int (nI made), .ref (il_b G), .int (nI at_)] : List Value).toArray below meth cd H locs 0 0 (MQ below (il_Qi G (il_gpost G d ar am)) ([.ref d, .ref ar, .ref am, .int (nI made), .ref (il_b G), .int (nI at_)] : List Value).toArray s 40 8000 (il_A G)) (F0 m 486 ls []) := by
      intro k
      induction k with
      | zero =>
        intro i v hik H locs hw ls hl
        refine lv_iload hx hb dX0_goes_486 (lv_at hl 8 rfl) ?_
        refine lv_iconst (v := 3) hx hb dX0_goes_488 (by decide) ?_
        refine lv_icmp_ge (tgt := 638) hx hb dX0_goes_489 (by decide) (fun c => ?_) (fun c => False.elim (by have c : ¬ (3 ≤ i) := fun z => c ((nI_leI (a := 3) (b := i) (by omega) (by omega)).mpr z); omega))
        have c : 3 ≤ i := (nI_leI (a := 3) (b := i) (by omega) (by omega)).mp c
        refine lv_iload hx hb dX0_goes_638 (lv_at hl 5 rfl) ?_
        exact il_iret (v := (nI made)) hx hb hr hlk rfl hw (⟨P, made, mg, n, g, rfl, hlaw⟩) (Nat.le_of_ble_eq_true rfl) (Nat.le_of_ble_eq_true rfl) dX0_goes_640
      | succ k ih =>
        intro i v hik H locs hw ls hl
        refine lv_iload hx hb dX0_goes_486 (lv_at hl 8 rfl) ?_
        refine lv_iconst (v := 3) hx hb dX0_goes_488 (by decide) ?_
        refine lv_icmp_ge (tgt := 638) hx hb dX0_goes_489 (by decide) (fun c => False.elim (by have c : 3 ≤ i := (nI_leI (a := 3) (b := i) (by omega) (by omega)).mp c; omega)) (fun c => ?_)
        have c : ¬ (3 ≤ i) := fun z => c ((nI_leI (a := 3) (b := i) (by omega) (by omega)).mpr z)
        obtain ⟨vh, evh⟩ : ∃ z, z = (v >>> ((32 : Int32).toInt64 &&& 63)).toInt32 := ⟨_, rfl⟩
        obtain ⟨vl, evl⟩ : ∃ z, z = v.toInt32 := ⟨_, rfl⟩
        have hov : il_of vh vl = v := by rw [evh, evl]; exact il_of_parts v
        refine lv_lload hx hb dX0_goes_492 (lv_at hl 7 rfl) ?_
        refine lv_bipush (v := 32) hx hb dX0_goes_494 (by decide) ?_
        refine lv_lshr (v := v >>> ((32 : Int32).toInt64 &&& 63)) hx hb dX0_goes_496 rfl ?_
        refine lv_l2i hx hb dX0_goes_497 rfl ?_
        refine il_ti vh evh.symm ?_
        refine lv_istore (lv' := [(20, .int vh), (0, .ref d), (6, .int xa), (7, .int xb), (8, .int xc), (9, .int xd), (11, .int (nI made)), (16, .ref q), (17, .long v), (19, .int (nI i))]) hx hb dX0_goes_498 hl (by decide) rfl (fun ls hl => ?_)
        refine lv_lload hx hb dX0_goes_500 (lv_at hl 8 rfl) ?_
        refine lv_l2i hx hb dX0_goes_502 rfl ?_
        refine il_ti vl evl.symm ?_
        refine lv_istore (lv' := [(21, .int vl), (20, .int vh), (0, .ref d), (6, .int xa), (7, .int xb), (8, .int xc), (9, .int xd), (11, .int (nI made)), (16, .ref q), (17, .long v), (19, .int (nI i))]) hx hb dX0_goes_503 hl (by decide) rfl (fun ls hl => ?_)
        refine lv_aload_n hx hb dX0_goes_505 rfl (lv_at hl 2 rfl) ?_
        refine lv_iload hx hb dX0_goes_506 (lv_at hl 3 rfl) ?_
        refine lv_iload hx hb dX0_goes_508 (lv_at hl 1 rfl) ?_
        refine lv_iload hx hb dX0_goes_510 (lv_at hl 0 rfl) ?_
        refine il_ri hw (il_rV (n := 3) (h := d) (As := [.int xa, .int vh, .int vl]) (rest := []) ⟨hx, hb, hml, hown, hts⟩ (met_dfirst hdesk (k := xa)) (lw_V q277 q278 q279 q4 q280) (by decide +kernel) ⟨Nat.le_of_ble_eq_true rfl, Nat.le_of_ble_eq_true rfl⟩ hB hw hd rfl rfl hl.1 rfl (Nat.le_of_ble_eq_true rfl) dX0_goes_512 ⟨(Nat.le_of_ble_eq_true rfl), (Nat.le_of_ble_eq_true rfl)⟩) (fun r1 M_ H locs hp hw => ?_)
        obtain ⟨hf1, eM_⟩ := hp
        rw [eM_] at hw
        rw [hov] at hf1
        refine lv_aload hx hb dX0_goes_515 (lv_at hl 8 rfl) ?_
        refine lv_lload hx hb dX0_goes_517 (lv_at hl 9 rfl) ?_
        refine il_ri hw (il_rS (n := 2) (As := [.ref q, .long v]) (rest := [.int r1]) ⟨hx, hb, hml, hown, hts⟩ (met_lfirst hq hn96) (lw_S q388 q389 q3 q390) (by decide +kernel) ⟨Nat.le_of_ble_eq_true rfl, Nat.le_of_ble_eq_true rfl⟩ hB hw rfl hl.1 rfl (Nat.le_of_ble_eq_true rfl) dX0_goes_519 ⟨(Nat.le_of_ble_eq_true rfl), (Nat.le_of_ble_eq_true rfl)⟩) (fun r2 M_ H locs hp hw => ?_)
        obtain ⟨hf2, eM_⟩ := hp
        rw [eM_] at hw
        refine lv_icmp_ne (tgt := 545) hx hb dX0_goes_522 (by decide) (fun c1 => False.elim (c1 (il_fst_uniq hf1 (il_fst_congr hf hf2)))) (fun c1 => ?_)
        refine lv_aload_n hx hb dX0_goes_525 rfl (lv_at hl 2 rfl) ?_
        refine lv_iload hx hb dX0_goes_526 (lv_at hl 3 rfl) ?_
        refine lv_iload hx hb dX0_goes_528 (lv_at hl 1 rfl) ?_
        refine lv_iload hx hb dX0_goes_530 (lv_at hl 0 rfl) ?_
        refine il_ri hw (il_rV (n := 3) (h := d) (As := [.int xa, .int vh, .int vl]) (rest := []) ⟨hx, hb, hml, hown, hts⟩ (met_dlast hdesk (k := xa)) (lw_V q289 q290 q291 q4 q292) (by decide +kernel) ⟨Nat.le_of_ble_eq_true rfl, Nat.le_of_ble_eq_true rfl⟩ hB hw hd rfl rfl hl.1 rfl (Nat.le_of_ble_eq_true rfl) dX0_goes_532 ⟨(Nat.le_of_ble_eq_true rfl), (Nat.le_of_ble_eq_true rfl)⟩) (fun r3 M_ H locs hp hw => ?_)
        obtain ⟨hf3, eM_⟩ := hp
        rw [eM_] at hw
        rw [hov] at hf3
        refine lv_aload hx hb dX0_goes_535 (lv_at hl 8 rfl) ?_
        refine lv_lload hx hb dX0_goes_537 (lv_at hl 9 rfl) ?_
        refine il_ri hw (il_rS (n := 2) (As := [.ref q, .long v]) (rest := [.int r3]) ⟨hx, hb, hml, hown, hts⟩ (met_llast hq hn96) (lw_S q391 q392 q3 q393) (by decide +kernel) ⟨Nat.le_of_ble_eq_true rfl, Nat.le_of_ble_eq_true rfl⟩ hB hw rfl hl.1 rfl (Nat.le_of_ble_eq_true rfl) dX0_goes_539 ⟨(Nat.le_of_ble_eq_true rfl), (Nat.le_of_ble_eq_true rfl)⟩) (fun r4 M_ H locs hp hw => ?_)
        obtain ⟨hf4, eM_⟩ := hp
        rw [eM_] at hw
        refine lv_icmp_eq (tgt := 547) hx hb dX0_goes_542 (by decide) (fun c1 => ?_) (fun c1 => False.elim (c1 (il_lst_uniq hf3 (il_lst_congr hf hf4))))
        refine lv_aload_n hx hb dX0_goes_547 rfl (lv_at hl 2 rfl) ?_
        refine lv_iload hx hb dX0_goes_548 (lv_at hl 3 rfl) ?_
        refine lv_iload hx hb dX0_goes_550 (lv_at hl 1 rfl) ?_
        refine lv_iload hx hb dX0_goes_552 (lv_at hl 0 rfl) ?_
        refine il_ri hw (il_rV (n := 3) (h := d) (As := [.int xa, .int vh, .int vl]) (rest := []) ⟨hx, hb, hml, hown, hts⟩ (met_dholds hdesk (k := xa)) (lw_V q394 q395 q396 q4 q397) (by decide +kernel) ⟨Nat.le_of_ble_eq_true rfl, Nat.le_of_ble_eq_true rfl⟩ hB hw hd rfl rfl hl.1 rfl (Nat.le_of_ble_eq_true rfl) dX0_goes_554 ⟨(Nat.le_of_ble_eq_true rfl), (Nat.le_of_ble_eq_true rfl)⟩) (fun r5 M_ H locs hp hw => ?_)
        obtain ⟨⟨i5, hf5, hv5⟩, eM_⟩ := hp
        rw [eM_] at hw
        rw [hov] at hf5
        refine lv_aload hx hb dX0_goes_557 (lv_at hl 8 rfl) ?_
        refine lv_lload hx hb dX0_goes_559 (lv_at hl 9 rfl) ?_
        refine il_ri hw (il_rS (n := 2) (As := [.ref q, .long v]) (rest := [.int r5]) ⟨hx, hb, hml, hown, hts⟩ (met_lfirst hq hn96) (lw_S q388 q389 q3 q390) (by decide +kernel) ⟨Nat.le_of_ble_eq_true rfl, Nat.le_of_ble_eq_true rfl⟩ hB hw rfl hl.1 rfl (Nat.le_of_ble_eq_true rfl) dX0_goes_561 ⟨(Nat.le_of_ble_eq_true rfl), (Nat.le_of_ble_eq_true rfl)⟩) (fun r6 M_ H locs hp hw => ?_)
        obtain ⟨hf6, eM_⟩ := hp
        rw [eM_] at hw
        have e56 : i5 = r6 := il_fst_uniq hf5 (il_fst_congr hf hf6)
        rw [e56] at hv5
        refine il_join (α := Unit) (fun _ => F0 m 575 ls []) (fun _ => True) (fun _ _ => ?_) (fun hk => ?_)
        · refine lv_aload_n hx hb dX0_goes_575 rfl (lv_at hl 2 rfl) ?_
          refine lv_iload hx hb dX0_goes_576 (lv_at hl 3 rfl) ?_
          refine lv_iload hx hb dX0_goes_578 (lv_at hl 6 rfl) ?_
          refine il_rl hw (il_rV (n := 2) (h := d) (As := [.int xa, .int xd]) (rest := []) ⟨hx, hb, hml, hown, hts⟩ (met_dget hdesk (k := xa) (x := xd)) (lw_V q258 q259 q260 q4 q261) (by decide +kernel) ⟨Nat.le_of_ble_eq_true rfl, Nat.le_of_ble_eq_true rfl⟩ hB hw hd rfl rfl hl.1 rfl (Nat.le_of_ble_eq_true rfl) dX0_goes_580 ⟨(Nat.le_of_ble_eq_true rfl), (Nat.le_of_ble_eq_true rfl)⟩) (fun r7 M_ H locs hp hw => ?_)
          obtain ⟨hg7, eM_⟩ := hp
          rw [eM_] at hw
          refine lv_aload hx hb dX0_goes_583 (lv_at hl 8 rfl) ?_
          refine il_alen hx hb hB hw hq dX0_goes_585 ?_
          refine il_join (α := Unit) (fun _ => F0 m 611 ls []) (fun _ => True) (fun _ _ => ?_) (fun hk => ?_)
          · refine lv_iload hx hb dX0_goes_611 (lv_at hl 10 rfl) ?_
            refine il_joinW (α := Int64) (G := G) (M := M) (fun z4 => F0 m 630 ls [.long z4]) (fun z4 => True) 0 0 (fun z4 H locs hz4 hw => ?_) (fun hk => ?_)
            · refine lv_lstore (lv' := [(17, .long z4), (21, .int vl), (20, .int vh), (0, .ref d), (6, .int xa), (7, .int xb), (8, .int xc), (9, .int xd), (11, .int (nI made)), (16, .ref q), (19, .int (nI i))]) hx hb dX0_goes_630 hl (by decide) rfl (fun ls hl => ?_)
              refine lv_iinc (v := nI (i + 1)) (lv' := [(19, .int (nI (i + 1))), (17, .long z4), (21, .int vl), (20, .int vh), (0, .ref d), (6, .int xa), (7, .int xb), (8, .int xc), (9, .int xd), (11, .int (nI made)), (16, .ref q)]) hx hb dX0_goes_632 hl (k := 10) rfl (by exact nI_1 i) (by decide) rfl (fun ls hl => ?_)
              refine lv_goto (tgt := 486) hx hb dX0_goes_635 (by decide) ?_
              refine W.widen (k := 0) (n := 0) (by omega) (by omega) ?_
              exact ih (i + 1) z4 (by omega) _ _ hw ls (lv_sub hl [4, 5, 6, 7, 8, 9, 10, 1, 0] rfl)
            · refine lv_if_ne (tgt := 623) hx hb dX0_goes_613 (by decide) (fun c4 => ?_) (fun c4 => ?_)
              · refine lv_iload hx hb dX0_goes_623 (lv_at hl 4 rfl) ?_
                refine lv_iload hx hb dX0_goes_625 (lv_at hl 5 rfl) ?_
                refine il_rl hw (il_rS (n := 2) (As := [.int xb, .int xc]) (rest := []) ⟨hx, hb, hml, hown, hts⟩ met_lof (lw_S q366 q367 q3 q368) (by decide +kernel) ⟨Nat.le_of_ble_eq_true rfl, Nat.le_of_ble_eq_true rfl⟩ hB hw rfl hl.1 rfl (Nat.le_of_ble_eq_true rfl) dX0_goes_627 ⟨(Nat.le_of_ble_eq_true rfl), (Nat.le_of_ble_eq_true rfl)⟩) (fun r M_ H locs hp hw => ?_)
                obtain ⟨rfl, eM_⟩ := hp
                rw [eM_] at hw
                refine W.widen (k := 0) (n := 0) (by omega) (by omega) ?_
                exact hk _ _ _ trivial hw
              · refine lv_lload hx hb dX0_goes_616 (lv_at hl 9 rfl) ?_
                refine lv_lconst (v := 1) hx hb dX0_goes_618 (by decide) ?_
                refine lv_ladd hx hb dX0_goes_619 ?_
                refine lv_goto (tgt := 630) hx hb dX0_goes_620 (by decide) ?_
                refine W.widen (k := 0) (n := 0) (by omega) (by omega) ?_
                exact hk _ _ _ trivial hw
          · refine lv_if_ne (tgt := 593) hx hb dX0_goes_586 (by decide) (fun c2 => ?_) (fun c2 => ?_)
            · have c2 : ¬ ((n (il_k xa)) = 0) := fun z => c2 ((nI_eq (a := (n (il_k xa))) (b := 0) (by omega) (by omega)).mpr z)
              refine lv_aload hx hb dX0_goes_593 (lv_at hl 8 rfl) ?_
              refine lv_iload hx hb dX0_goes_595 (lv_at hl 6 rfl) ?_
              refine lv_ldc hx hb hown (hts _ q374) dX0_goes_597 ?_
              refine lv_iand hx hb dX0_goes_599 ?_
              refine il_ti (nI (il_m xd)) (il_m_and xd) ?_
              refine lv_aload hx hb dX0_goes_600 (lv_at hl 8 rfl) ?_
              refine il_alen hx hb hB hw hq dX0_goes_602 ?_
              refine lv_irem hx hb dX0_goes_603 (nI_ne0 (n := (n (il_k xa))) (by omega) (by omega)) ?_
              refine il_ti (nI ((il_m xd) % (n (il_k xa)))) (il_rem (a := (il_m xd)) (d := (n (il_k xa))) (by omega) (by omega) (by omega)) ?_
              refine il_lald (i := (il_m xd % n (il_k xa))) hx hb hB hw hq (Nat.mod_lt _ (by omega)) (by omega) rfl dX0_goes_604 ?_
              refine W.lcmp hx hb dX0_goes_605 ?_
              refine lv_if_eq (tgt := 611) hx hb dX0_goes_606 (by decide) (fun c3 => ?_) (fun c3 => False.elim (c3 ((lg_cmp_eq _ _).mpr (hg7.elim (fun z => absurd z.1 c2) (fun z => z.2.trans (hf _ (Nat.mod_lt _ (by omega))).symm)))))
              exact hk () trivial
            · have c2 : (n (il_k xa)) = 0 := (nI_eq (a := (n (il_k xa))) (b := 0) (by omega) (by omega)).mp c2
              refine lv_lconst (v := 0) hx hb dX0_goes_589 (by decide) ?_
              refine lv_goto (tgt := 605) hx hb dX0_goes_590 (by decide) ?_
              refine W.lcmp hx hb dX0_goes_605 ?_
              refine lv_if_eq (tgt := 611) hx hb dX0_goes_606 (by decide) (fun c3 => ?_) (fun c3 => False.elim (c3 ((lg_cmp_eq _ _).mpr (hg7.elim (fun z => z.2) (fun z => absurd c2 z.1)))))
              exact hk () trivial
        · refine lv_if_lt (tgt := 571) hx hb dX0_goes_564 (by decide) (fun c2 => ?_) (fun c2 => ?_)
          · refine lv_iconst (v := 0) hx hb dX0_goes_571 (by decide) ?_
            refine lv_icmp_ne (tgt := 609) hx hb dX0_goes_572 (by decide) (fun c3 => False.elim (c3 (hv5.elim (fun z => z.2) (fun z => absurd c2 z.1)))) (fun c3 => ?_)
            exact hk () trivial
          · refine lv_iconst (v := 1) hx hb dX0_goes_567 (by decide) ?_
            refine lv_goto (tgt := 572) hx hb dX0_goes_568 (by decide) ?_
            refine lv_icmp_ne (tgt := 609) hx hb dX0_goes_572 (by decide) (fun c3 => False.elim (c3 (hv5.elim (fun z => absurd z.1 c2) (fun z => z.2)))) (fun c3 => ?_)
            exact hk () trivial
    exact loop 3 0 _ (by omega) _ _ hw ls (lv_sub hl [9, 8, 7, 6, 5, 3, 2, 1, 0] rfl)
  · refine lv_if_ne (tgt := 469) hx hb dX0_goes_456 (by decide) (fun c => ?_) (fun c => ?_)
    · have c : ¬ ((n (il_k xa)) = 0) := fun z => c ((nI_eq (a := (n (il_k xa))) (b := 0) (by omega) (by omega)).mpr z)
      refine lv_aload hx hb dX0_goes_469 (lv_at hl 0 rfl) ?_
      refine lv_iload hx hb dX0_goes_471 (lv_at hl 3 rfl) ?_
      refine lv_ldc hx hb hown (hts _ q374) dX0_goes_473 ?_
      refine lv_iand hx hb dX0_goes_475 ?_
      refine il_ti (nI (il_m xd)) (il_m_and xd) ?_
      refine lv_aload hx hb dX0_goes_476 (lv_at hl 0 rfl) ?_
      refine il_alen hx hb hB hw hq dX0_goes_478 ?_
      refine lv_irem hx hb dX0_goes_479 (nI_ne0 (n := (n (il_k xa))) (by omega) (by omega)) ?_
      refine il_ti (nI ((il_m xd) % (n (il_k xa)))) (il_rem (a := (il_m xd)) (d := (n (il_k xa))) (by omega) (by omega) (by omega)) ?_
      refine il_lald (i := (il_m xd % n (il_k xa))) hx hb hB hw hq (Nat.mod_lt _ (by omega)) (by omega) rfl dX0_goes_480 ?_
      refine W.widen (k := 0) (n := 0) (by omega) (by omega) ?_
      exact hk _ _ _ trivial hw
    · have c : (n (il_k xa)) = 0 := (nI_eq (a := (n (il_k xa))) (b := 0) (by omega) (by omega)).mp c
      refine lv_iload hx hb dX0_goes_459 (lv_at hl 5 rfl) ?_
      refine lv_iload hx hb dX0_goes_461 (lv_at hl 4 rfl) ?_
      refine il_rl hw (il_rS (n := 2) (As := [.int xb, .int xc]) (rest := []) ⟨hx, hb, hml, hown, hts⟩ met_lof (lw_S q366 q367 q3 q368) (by decide +kernel) ⟨Nat.le_of_ble_eq_true rfl, Nat.le_of_ble_eq_true rfl⟩ hB hw rfl hl.1 rfl (Nat.le_of_ble_eq_true rfl) dX0_goes_463 ⟨(Nat.le_of_ble_eq_true rfl), (Nat.le_of_ble_eq_true rfl)⟩) (fun r M_ H locs hp hw => ?_)
      obtain ⟨rfl, eM_⟩ := hp
      rw [eM_] at hw
      refine lv_goto (tgt := 481) hx hb dX0_goes_466 (by decide) ?_
      refine W.widen (k := 0) (n := 0) (by omega) (by omega) ?_
      exact hk _ _ _ trivial hw
set_option maxHeartbeats 4000000 in
set_option maxRecDepth 100000 in
/-- one turn of the law -/
theorem met_goes {l : Launch} {G : il_G} {M : il_M} {P : Nat → Prop} {d ar am made at_ : Nat} {mg : Nat → Int64} {n : Nat → Nat} {g : Nat → Nat → Int64} (hlaw : il_law G P M d ar am made mg n g) (hat : at_ < 1000) (hn96 : il_n G ≤ 96) : il_Ci l G yX0_goes cX0_goes 22 (.int) 7 40 8000 [.ref d, .ref ar, .ref am, .int (nI made), .ref (il_b G), .int (nI at_)] M (il_gpost G d ar am) := by
  refine il_enter (by decide) (Nat.le_of_ble_eq_true rfl) ?_
  intro p e s m below meth cd hF hw ls hl
  obtain ⟨hx, hb, hr, hlk, hml, hown, hin, hts, hB⟩ := id hF
  have hl : lv_has ls 22 [(0, .ref d), (1, .ref ar), (2, .ref am), (3, .int (nI made)), (4, .ref (il_b G)), (5, .int (nI at_))] := hl
  have hown : s.vm.findClass RX0 = some m.cls := hown
  refine lv_aload hx hb dX0_goes_0 (lv_at hl 4 rfl) ?_
  refine lv_iload hx hb dX0_goes_2 (lv_at hl 5 rfl) ?_
  refine lv_iconst (v := 1) hx hb dX0_goes_4 (by decide) ?_
  refine lv_iadd hx hb dX0_goes_5 ?_
  refine il_ti (nI (at_ + 1)) (nI_add at_ 1) ?_
  refine il_ri hw (il_rS (n := 2) (As := [.ref (il_b G), .int (nI (at_ + 1))]) (rest := []) ⟨hx, hb, hml, hown, hts⟩ (met_cell (i := at_ + 1) (by omega) hn96) (lw_S q339 q340 q3 q341) (by decide +kernel) ⟨Nat.le_of_ble_eq_true rfl, Nat.le_of_ble_eq_true rfl⟩ hB hw rfl hl.1 rfl (Nat.le_of_ble_eq_true rfl) dX0_goes_6 ⟨(Nat.le_of_ble_eq_true rfl), (Nat.le_of_ble_eq_true rfl)⟩) (fun xa M_ H locs hp hw => ?_)
  rw [hp] at hw
  refine lv_istore (lv' := [(6, .int xa), (0, .ref d), (1, .ref ar), (2, .ref am), (3, .int (nI made)), (4, .ref (il_b G)), (5, .int (nI at_))]) hx hb dX0_goes_9 hl (by decide) rfl (fun ls hl => ?_)
  refine lv_aload hx hb dX0_goes_11 (lv_at hl 5 rfl) ?_
  refine lv_iload hx hb dX0_goes_13 (lv_at hl 6 rfl) ?_
  refine lv_iconst (v := 2) hx hb dX0_goes_15 (by decide) ?_
  refine lv_iadd hx hb dX0_goes_16 ?_
  refine il_ti (nI (at_ + 2)) (nI_add at_ 2) ?_
  refine il_ri hw (il_rS (n := 2) (As := [.ref (il_b G), .int (nI (at_ + 2))]) (rest := []) ⟨hx, hb, hml, hown, hts⟩ (met_cell (i := at_ + 2) (by omega) hn96) (lw_S q339 q340 q3 q341) (by decide +kernel) ⟨Nat.le_of_ble_eq_true rfl, Nat.le_of_ble_eq_true rfl⟩ hB hw rfl hl.1 rfl (Nat.le_of_ble_eq_true rfl) dX0_goes_17 ⟨(Nat.le_of_ble_eq_true rfl), (Nat.le_of_ble_eq_true rfl)⟩) (fun xb M_ H locs hp hw => ?_)
  rw [hp] at hw
  refine lv_istore (lv' := [(7, .int xb), (6, .int xa), (0, .ref d), (1, .ref ar), (2, .ref am), (3, .int (nI made)), (4, .ref (il_b G)), (5, .int (nI at_))]) hx hb dX0_goes_20 hl (by decide) rfl (fun ls hl => ?_)
  refine lv_aload hx hb dX0_goes_22 (lv_at hl 6 rfl) ?_
  refine lv_iload hx hb dX0_goes_24 (lv_at hl 7 rfl) ?_
  refine lv_iconst (v := 3) hx hb dX0_goes_26 (by decide) ?_
  refine lv_iadd hx hb dX0_goes_27 ?_
  refine il_ti (nI (at_ + 3)) (nI_add at_ 3) ?_
  refine il_ri hw (il_rS (n := 2) (As := [.ref (il_b G), .int (nI (at_ + 3))]) (rest := []) ⟨hx, hb, hml, hown, hts⟩ (met_cell (i := at_ + 3) (by omega) hn96) (lw_S q339 q340 q3 q341) (by decide +kernel) ⟨Nat.le_of_ble_eq_true rfl, Nat.le_of_ble_eq_true rfl⟩ hB hw rfl hl.1 rfl (Nat.le_of_ble_eq_true rfl) dX0_goes_28 ⟨(Nat.le_of_ble_eq_true rfl), (Nat.le_of_ble_eq_true rfl)⟩) (fun xc M_ H locs hp hw => ?_)
  rw [hp] at hw
  refine lv_istore (lv' := [(8, .int xc), (7, .int xb), (6, .int xa), (0, .ref d), (1, .ref ar), (2, .ref am), (3, .int (nI made)), (4, .ref (il_b G)), (5, .int (nI at_))]) hx hb dX0_goes_31 hl (by decide) rfl (fun ls hl => ?_)
  refine lv_aload hx hb dX0_goes_33 (lv_at hl 7 rfl) ?_
  refine lv_iload hx hb dX0_goes_35 (lv_at hl 8 rfl) ?_
  refine lv_iconst (v := 4) hx hb dX0_goes_37 (by decide) ?_
  refine lv_iadd hx hb dX0_goes_38 ?_
  refine il_ti (nI (at_ + 4)) (nI_add at_ 4) ?_
  refine il_ri hw (il_rS (n := 2) (As := [.ref (il_b G), .int (nI (at_ + 4))]) (rest := []) ⟨hx, hb, hml, hown, hts⟩ (met_cell (i := at_ + 4) (by omega) hn96) (lw_S q339 q340 q3 q341) (by decide +kernel) ⟨Nat.le_of_ble_eq_true rfl, Nat.le_of_ble_eq_true rfl⟩ hB hw rfl hl.1 rfl (Nat.le_of_ble_eq_true rfl) dX0_goes_39 ⟨(Nat.le_of_ble_eq_true rfl), (Nat.le_of_ble_eq_true rfl)⟩) (fun xd M_ H locs hp hw => ?_)
  rw [hp] at hw
  refine lv_istore (lv' := [(9, .int xd), (8, .int xc), (7, .int xb), (6, .int xa), (0, .ref d), (1, .ref ar), (2, .ref am), (3, .int (nI made)), (4, .ref (il_b G)), (5, .int (nI at_))]) hx hb dX0_goes_42 hl (by decide) rfl (fun ls hl => ?_)
  refine lv_aload hx hb dX0_goes_44 (lv_at hl 8 rfl) ?_
  refine lv_iload hx hb dX0_goes_46 (lv_at hl 9 rfl) ?_
  refine lv_iconst (v := 5) hx hb dX0_goes_48 (by decide) ?_
  refine lv_iadd hx hb dX0_goes_49 ?_
  refine il_ti (nI (at_ + 5)) (nI_add at_ 5) ?_
  refine il_ri hw (il_rS (n := 2) (As := [.ref (il_b G), .int (nI (at_ + 5))]) (rest := []) ⟨hx, hb, hml, hown, hts⟩ (met_cell (i := at_ + 5) (by omega) hn96) (lw_S q339 q340 q3 q341) (by decide +kernel) ⟨Nat.le_of_ble_eq_true rfl, Nat.le_of_ble_eq_true rfl⟩ hB hw rfl hl.1 rfl (Nat.le_of_ble_eq_true rfl) dX0_goes_50 ⟨(Nat.le_of_ble_eq_true rfl), (Nat.le_of_ble_eq_true rfl)⟩) (fun xe M_ H locs hp hw => ?_)
  rw [hp] at hw
  refine lv_istore (lv' := [(10, .int xe), (9, .int xd), (8, .int xc), (7, .int xb), (6, .int xa), (0, .ref d), (1, .ref ar), (2, .ref am), (3, .int (nI made)), (4, .ref (il_b G)), (5, .int (nI at_))]) hx hb dX0_goes_53 hl (by decide) rfl (fun ls hl => ?_)
  refine lv_iload_n hx hb dX0_goes_55 rfl (lv_at hl 8 rfl) ?_
  refine lv_istore (lv' := [(11, .int (nI made)), (10, .int xe), (9, .int xd), (8, .int xc), (7, .int xb), (6, .int xa), (0, .ref d), (1, .ref ar), (2, .ref am), (3, .int (nI made)), (4, .ref (il_b G)), (5, .int (nI at_))]) hx hb dX0_goes_56 hl (by decide) rfl (fun ls hl => ?_)
  refine lv_aload hx hb dX0_goes_58 (lv_at hl 10 rfl) ?_
  refine lv_iload hx hb dX0_goes_60 (lv_at hl 11 rfl) ?_
  refine il_ri hw (il_rS (n := 2) (As := [.ref (il_b G), .int (nI at_)]) (rest := []) ⟨hx, hb, hml, hown, hts⟩ (met_cell (i := at_) (by omega) hn96) (lw_S q339 q340 q3 q341) (by decide +kernel) ⟨Nat.le_of_ble_eq_true rfl, Nat.le_of_ble_eq_true rfl⟩ hB hw rfl hl.1 rfl (Nat.le_of_ble_eq_true rfl) dX0_goes_62 ⟨(Nat.le_of_ble_eq_true rfl), (Nat.le_of_ble_eq_true rfl)⟩) (fun xs M_ H locs hp hw => ?_)
  rw [hp] at hw
  refine lv_ldc hx hb hown (hts _ q374) dX0_goes_65 ?_
  refine lv_iand hx hb dX0_goes_67 ?_
  refine il_ti (nI (il_m xs)) (il_m_and xs) ?_
  refine lv_bipush (v := 7) hx hb dX0_goes_68 (by decide) ?_
  refine lv_irem hx hb dX0_goes_70 (nI_ne0 (n := 7) (by omega) (by omega)) ?_
  refine il_ti (nI ((il_m xs) % 7)) (il_rem (a := (il_m xs)) (d := 7) (by have := il_m_lt xs; omega) (by omega) (by omega)) ?_
  obtain ⟨v, ev⟩ : ∃ v, v = il_m xs % 7 := ⟨_, rfl⟩
  refine il_ti (nI v) (by rw [ev]) ?_
  have hv : v < 7 := by rw [ev]; exact Nat.mod_lt _ (by omega)
  refine W.widen (k := 0) (n := 0) (by omega) (by omega) ?_
  rcases (show v = 0 ∨ v = 1 ∨ v = 2 ∨ v = 3 ∨ v = 4 ∨ v = 5 ∨ v = 6 by omega) with rfl | rfl | rfl | rfl | rfl | rfl | rfl
  · refine lv_tableIn (tgt := 108) hx hb dX0_goes_71 (by decide) (by decide) rfl (by decide) ?_
    exact goes_0 hF hw hlaw hl
  · refine lv_tableIn (tgt := 142) hx hb dX0_goes_71 (by decide) (by decide) rfl (by decide) ?_
    exact goes_1 hF hw hlaw hl
  · refine lv_tableIn (tgt := 228) hx hb dX0_goes_71 (by decide) (by decide) rfl (by decide) ?_
    exact goes_2 hF hw hlaw hl
  · refine lv_tableIn (tgt := 314) hx hb dX0_goes_71 (by decide) (by decide) rfl (by decide) ?_
    exact goes_3 hF hw hlaw hl
  · refine lv_tableIn (tgt := 345) hx hb dX0_goes_71 (by decide) (by decide) rfl (by decide) ?_
    exact goes_4 hF hw hlaw hl
  · refine lv_tableIn (tgt := 369) hx hb dX0_goes_71 (by decide) (by decide) rfl (by decide) ?_
    exact goes_5 hF hw hlaw hl
  · refine lv_tableOut (tgt := 445) hx hb dX0_goes_71 (by decide) (by decide) ?_
    exact goes_6 hF hw hlaw hl
end
section
/-! THE LAW's START: what the tables and the premises give -/
set_option maxRecDepth 100000
theorem il_Kn_cl {s : State} {b0 : Addr} (ht0 : ∀ w ∈ lw_tbl, w.before #[Value.ref b0] s = true) : ∃ (dC : Nat → ClassId) (dI : Nat → Nat → Nat), ∀ (k : Nat) (q : vw_C), il_cl[k]? = some q → u_Kn s q.1 q.2.1 q.2.2 (dC k) (dI k) := by
  obtain ⟨c0_, iS0, hKn0⟩ := u_known (C := RX1) (T := TX1) (N := 3) (n := 3) ht0 (fun w h => lw_all_tbl (in_X1 w h)) (ht0 _ (lw_all_tbl q21))
  obtain ⟨c1_, iS1, hKn1⟩ := u_known (C := RX2) (T := TX2) (N := 3) (n := 3) ht0 (fun w h => lw_all_tbl (in_X2 w h)) (ht0 _ (lw_all_tbl q123))
  obtain ⟨c2_, iS2, hKn2⟩ := u_known (C := RX4) (T := TX4) (N := 2) (n := 2) ht0 (fun w h => lw_all_tbl (in_X4 w h)) (ht0 _ (lw_all_tbl q104))
  refine ⟨fun k => if k = 0 then c0_ else if k = 1 then c1_ else c2_, fun k => if k = 0 then iS0 else if k = 1 then iS1 else iS2, ?_⟩
  intro k q hq
  match k, hq with
  | 0, hq => cases hq; exact hKn0
  | 1, hq => cases hq; exact hKn1
  | 2, hq => cases hq; exact hKn2
  | k + 3, hq => simp [il_cl] at hq
theorem il_start {s : State} {b L : Nat} {xs : Nat → Int32} (ht0 : ∀ w ∈ lw_tbl, w.before #[Value.ref b] s = true) (hX : va_X b L xs s s.heap) (hbl : b < s.heap.size) (hgv : (Jvm.Cond.and given_1 narrow_1).before #[Value.ref b] s = true) : ∃ G : il_G, il_B G s ∧ il_P G (fun _ => none) s.heap ∧ il_A G = (fun q => s.heap.size ≤ q) ∧ il_b G = b ∧ il_n G = L := by
  obtain ⟨dC, dI, hKc⟩ := il_Kn_cl ht0
  obtain ⟨cJ, kJ, compJ, j1, j2, j3⟩ := Cond.arrayClass_spec (ht0 _ (lw_all_tbl q116))
  obtain ⟨compI, cI, kI, i1, -, i3, i4, i5⟩ := Cond.arrayOver_spec (ht0 _ q118)
  obtain ⟨compL, cL, kL, l1, -, l3, l4, l5⟩ := arrayOverA_spec (ht0 _ q404)
  have hs := flat_of_before _ hgv
  obtain ⟨a1, -, -, -, s1, -⟩ := Cond.exactly_spec (hs (Jvm.Cond.exactly (Jvm.Term.string "ImmutableLongArray" 7) "java/lang/String") (by decide +kernel))
  obtain ⟨a2, -, -, -, s2, -⟩ := Cond.exactly_spec (hs (Jvm.Cond.exactly (Jvm.Term.string "Preconditions" 9) "java/lang/String") (by decide +kernel))
  have eL : compL = cJ := by
    have e : (FieldType.array .long).toString = "[" ++ FieldType.long.toString := by decide +kernel
    rw [e] at l1
    exact Option.some.inj (l1.symm.trans j1)
  subst eL
  refine ⟨((dC, dI), (compL, cI, cL), (fun q => s.heap.size ≤ q), (a1, a2), (b, L, xs)), ⟨⟨⟨hKc, fun k q hq => ?_⟩, ⟨kL, l3, l4⟩, va_AO.of (ht0 _ q118), va_Nw.of rfl (ht0 _ q206), va_Nw.of rfl (ht0 _ q131), va_Nw.of rfl (ht0 _ q133), va_Nw.of rfl (ht0 _ q224), va_Nw.of rfl (ht0 _ q225), vk_R.of (ht0 _ q31) s1, vk_R.of (ht0 _ q273) s2⟩, fun q h => h, hX, hbl, fun h => Nat.not_le.mpr hbl h⟩, ⟨[], fun k q h => by simp at h, ⟨fun i j p q h => by simp at h, fun k q h => by simp at h⟩, fun a e h => by cases h⟩, rfl, rfl, rfl⟩
  match k, hq with
  | 0, hq => cases hq; exact ⟨fun n z => ⟨fun k h => (by cases h), kJ, j2, compJ, j3⟩, j1⟩
  | 1, hq => cases hq; exact ⟨fun n z => ⟨fun k h => (by cases h), kI, i3, compI, i4⟩, kI, compI, i3, i4, i1, i5⟩
  | 2, hq => cases hq; exact ⟨fun n z => ⟨fun k h => (by cases h), kL, l3, _, l4⟩, l5⟩
  | k + 3, hq => simp [il_tys] at hq
end
section
/-! THE LAW's last part (printed by wip/D-17801w/gen/m29.py) -/
set_option maxRecDepth 100000
/-- what the law's frame knows from its start to its end -/
def il_LF (G : il_G) (p : Program) (s : State) (m : MethodId) (meth : Method) (c : Code) : Prop := p.tables.exec = Jvm.exec ∧ c.code = code ∧ meth.sig.returnType = ret ∧ meth.locks = false ∧ c.maxLocals = 18 ∧ s.vm.findClass RX0 = some m.cls ∧ (∀ w ∈ lw_all, w.before #[Value.ref (il_b G)] s = true) ∧ il_B G s ∧ il_A G = (fun q => s.heap.size ≤ q) ∧ il_n G ≤ 96
theorem il_lawend {l : Launch} {G : il_G} {p : Program} {e : Env} {s : State} {m : MethodId} {below : List Frame} {meth : Method} {cd : Code} {M : il_M} {H : Heap} {locs : List Loc} {ls : Array Slot} {cells slots : Nat} (hLF : il_LF G p s m meth cd) (hw : il_W G s M H locs) (h1 : cells ≤ 1200192) (h2 : slots ≤ 5500522) : W p l e room_1 s m #[Value.ref (il_b G)] below meth cd H locs cells slots (lw_Z below #[Value.ref (il_b G)] s) (F0 m 766 ls [.int 1]) := by
  obtain ⟨hx, hb, hr, hlk, hml, hown, hts, hB, hA, hn96⟩ := hLF
  refine W.widen h1 h2 (va_forget (fun q hq => ?_) (lw_ret hx hb hr hlk dL_law_766))
  have h3 := hw.2.2.2 q hq
  rw [hA] at h3
  exact h3
theorem il_m_nI {i : Nat} (h : i < 2147483648) : il_m (nI i) = i := by
  unfold il_m
  rw [pk_tn (by omega)]
  exact Nat.mod_eq_of_lt h
theorem il_z {g : Nat → Int64} (n : Nat) : ∀ j, j < n → (fun z => g (0 + z)) j = g j := fun j _ => by
  show g (0 + j) = g j
  rw [Nat.zero_add]
set_option maxHeartbeats 4000000 in
set_option maxRecDepth 100000 in
/-- the law: the pieces are added together -/
theorem law_fin3 {l : Launch} {G : il_G} {p : Program} {e : Env} {s : State} {m : MethodId} {below : List Frame} {meth : Method} {cd : Code} {M : il_M} {H : Heap} {locs : List Loc} {ls : Array Slot} {P : Nat → Prop} {d ar am nn at0 : Nat} {mg : Nat → Int64} {n nl : Nat → Nat} {g gl : Nat → Nat → Int64} {lr : Nat → Option Nat} {mf : Nat → Int64} {x0 y0 p0 q0 : Int32} (hLF : il_LF G p s m meth cd) (hw : il_W G s M H locs) (hdesk : il_desk G P M d nn mg n g) (hown2 : il_own G P M ar am lr mf nl gl mg nn) (hat : at0 ≤ nn) (ny : n (il_k y0) = nn) (gy : g (il_k y0) = mg) (np : n (il_k p0) = at0) (gp : g (il_k p0) = fun z => mg (0 + z)) (nq : n (il_k q0) = nn - at0) (gq : g (il_k q0) = fun z => mg (at0 + z)) (hY : il_k y0 = (il_k x0 + 1) % 4) (hPk : il_k p0 = (il_k x0 + 2) % 4) (hQk : il_k q0 = (il_k x0 + 3) % 4) (hl : lv_has ls 18 [(0, .ref (il_b G)), (1, .ref d), (3, .ref am), (5, .int x0), (6, .int y0), (7, .int (nI nn)), (13, .int p0), (14, .int q0)]) : W p l e room_1 s m #[Value.ref (il_b G)] below meth cd H locs 1200 200000 (lw_Z below #[Value.ref (il_b G)] s) (F0 m 664 ls []) := by
  obtain ⟨hx, hb, hr, hlk, hml, hown, hts, hB, hA, hn96⟩ := id hLF
  have hX := il_k_lt x0
  have hnn := hdesk.made
  obtain ⟨mk, rs, hd⟩ := hdesk.obj
  have ham := hown2.2.2.2.2.1
  refine lv_aload_n hx hb dL_law_664 rfl (lv_at hl 1 rfl) ?_
  refine lv_aload_n hx hb dL_law_665 rfl (lv_at hl 0 rfl) ?_
  refine lv_bipush (v := 95) hx hb dL_law_666 (by decide) ?_
  refine il_ri hw (il_rS (n := 2) (As := [.ref (il_b G), .int 95]) (rest := [.ref d]) ⟨hx, hb, hml, hown, hts⟩ (met_cell (i := 95) (by omega) hn96) (lw_S q339 q340 q3 q341) (by decide +kernel) ⟨Nat.le_of_ble_eq_true rfl, Nat.le_of_ble_eq_true rfl⟩ hB hw rfl hl.1 rfl (Nat.le_of_ble_eq_true rfl) dL_law_668 ⟨(Nat.le_of_ble_eq_true rfl), (Nat.le_of_ble_eq_true rfl)⟩) (fun x5 M_ H locs hp hw => ?_)
  rw [hp] at hw
  refine il_rv hw (il_rV (n := 1) (h := d) (As := [.int x5]) (rest := []) ⟨hx, hb, hml, hown, hts⟩ (met_danew hdesk (x := x5)) (lw_V q226 q227 q228 q4 q229) (by decide +kernel) ⟨Nat.le_of_ble_eq_true rfl, Nat.le_of_ble_eq_true rfl⟩ hB hw hd rfl rfl hl.1 rfl (Nat.le_of_ble_eq_true rfl) dL_law_671 ⟨(Nat.le_of_ble_eq_true rfl), (Nat.le_of_ble_eq_true rfl)⟩) (fun M1 H locs hp hw => ?_)
  obtain ⟨hdesk1, hfr1⟩ := hp
  have hown1 := hown2.fr hfr1
  obtain ⟨mk1, rs1, hd1⟩ := hdesk1.obj
  refine lv_aload_n hx hb dL_law_674 rfl (lv_at hl 1 rfl) ?_
  refine lv_iload hx hb dL_law_675 (lv_at hl 6 rfl) ?_
  refine il_ri hw (il_rV (n := 1) (h := d) (As := [.int p0]) (rest := []) ⟨hx, hb, hml, hown, hts⟩ (met_daddRow hdesk1 (k := p0)) (lw_V q153 q154 q155 q4 q156) (by decide +kernel) ⟨Nat.le_of_ble_eq_true rfl, Nat.le_of_ble_eq_true rfl⟩ hB hw hd1 rfl rfl hl.1 rfl (Nat.le_of_ble_eq_true rfl) dL_law_677 ⟨(Nat.le_of_ble_eq_true rfl), (Nat.le_of_ble_eq_true rfl)⟩) (fun r2 M2 H locs hp hw => ?_)
  rw [np, gp] at hp
  rcases hp with ⟨u1, -, -⟩ | ⟨u1, rfl, hdesk2, hfr2⟩
  · exact absurd u1 (by omega)
  have hown3 := hown1.fr hfr2
  obtain ⟨mk2, rs2, hd2⟩ := hdesk2.obj
  refine lv_if_eq (tgt := 703) hx hb dL_law_680 (by decide) (fun c => False.elim (absurd c (by decide))) (fun c => ?_)
  refine lv_aload_n hx hb dL_law_683 rfl (lv_at hl 1 rfl) ?_
  refine lv_iload hx hb dL_law_684 (lv_at hl 7 rfl) ?_
  refine il_ri hw (il_rV (n := 1) (h := d) (As := [.int q0]) (rest := []) ⟨hx, hb, hml, hown, hts⟩ (met_daddRow hdesk2 (k := q0)) (lw_V q153 q154 q155 q4 q156) (by decide +kernel) ⟨Nat.le_of_ble_eq_true rfl, Nat.le_of_ble_eq_true rfl⟩ hB hw hd2 rfl rfl hl.1 rfl (Nat.le_of_ble_eq_true rfl) dL_law_686 ⟨(Nat.le_of_ble_eq_true rfl), (Nat.le_of_ble_eq_true rfl)⟩) (fun r3 M3 H locs hp hw => ?_)
  rw [nq, gq] at hp
  rcases hp with ⟨u1, -, -⟩ | ⟨u1, rfl, hdesk3, hfr3⟩
  · exact absurd u1 (by omega)
  have hown4 := hown3.fr hfr3
  obtain ⟨mk3, rs3, hd3⟩ := hdesk3.obj
  obtain ⟨mB, emB⟩ : ∃ z, z = il_cat (il_cat mg 0 (fun z => mg (0 + z))) (0 + at0) (fun z => mg (at0 + z)) := ⟨_, rfl⟩
  rw [← emB] at hdesk3
  have hB4 : ∀ j, j < nn → mB j = mg j := fun j hj => by
    rw [emB]
    unfold il_cat
    by_cases z : j < 0 + at0
    · rw [if_pos z, if_neg (Nat.not_lt_zero j), Nat.sub_zero]; exact il_z nn j hj
    · rw [if_neg z]; show mg (at0 + (j - (0 + at0))) = mg j; rw [show at0 + (j - (0 + at0)) = j by omega]
  refine lv_if_eq (tgt := 703) hx hb dL_law_689 (by decide) (fun c => False.elim (absurd c (by decide))) (fun c => ?_)
  refine lv_aload_n hx hb dL_law_692 rfl (lv_at hl 1 rfl) ?_
  refine lv_iload hx hb dL_law_693 (lv_at hl 3 rfl) ?_
  refine il_ri hw (il_rV (n := 1) (h := d) (As := [.int x0]) (rest := []) ⟨hx, hb, hml, hown, hts⟩ (met_dbuild hdesk3 (k := x0)) (lw_V q215 q216 q217 q4 q218) (by decide +kernel) ⟨Nat.le_of_ble_eq_true rfl, Nat.le_of_ble_eq_true rfl⟩ hB hw hd3 rfl rfl hl.1 rfl (Nat.le_of_ble_eq_true rfl) dL_law_695 ⟨(Nat.le_of_ble_eq_true rfl), (Nat.le_of_ble_eq_true rfl)⟩) (fun r4 M4 H locs hp hw => ?_)
  rw [show 0 + at0 + (nn - at0) = nn by omega] at hp
  obtain ⟨n5, en5⟩ : ∃ z, z = il_set n (il_k x0) nn := ⟨_, rfl⟩
  obtain ⟨g5, eg5⟩ : ∃ z, z = il_set g (il_k x0) mB := ⟨_, rfl⟩
  rw [← en5, ← eg5] at hp
  have n5x0 : n5 (il_k x0) = nn := by rw [en5, il_set_eq]
  have g5x0 : g5 (il_k x0) = mB := by rw [eg5, il_set_eq]
  have n5y : n5 (il_k y0) = nn := by rw [en5, il_set_ne (by omega)]; exact ny
  have g5y : g5 (il_k y0) = mg := by rw [eg5, il_set_ne (by omega)]; exact gy
  obtain ⟨rfl, hdesk4, hfr4⟩ := hp
  have hown5 := hown4.fr hfr4
  have ham5 := hown5.2.2.2.2.1
  have hmf5 := hown5.2.2.2.2.2
  obtain ⟨mk4, rs4, hd4⟩ := hdesk4.obj
  refine lv_iload hx hb dL_law_698 (lv_at hl 5 rfl) ?_
  refine lv_icmp_eq (tgt := 705) hx hb dL_law_700 (by decide) (fun c => ?_) (fun c => False.elim (by have c : ¬ (nn = nn) := fun z => c ((nI_eq (a := nn) (b := nn) (by omega) (by omega)).mpr z); omega))
  have c : nn = nn := (nI_eq (a := nn) (b := nn) (by omega) (by omega)).mp c
  refine lv_aload_n hx hb dL_law_705 rfl (lv_at hl 1 rfl) ?_
  refine lv_iload hx hb dL_law_706 (lv_at hl 3 rfl) ?_
  refine lv_iload hx hb dL_law_708 (lv_at hl 4 rfl) ?_
  refine il_ri hw (il_rV (n := 2) (h := d) (As := [.int x0, .int y0]) (rest := []) ⟨hx, hb, hml, hown, hts⟩ (met_dsame hdesk4 (j := x0) (k := y0)) (lw_V q301 q302 q303 q4 q304) (by decide +kernel) ⟨Nat.le_of_ble_eq_true rfl, Nat.le_of_ble_eq_true rfl⟩ hB hw hd4 rfl rfl hl.1 rfl (Nat.le_of_ble_eq_true rfl) dL_law_710 ⟨(Nat.le_of_ble_eq_true rfl), (Nat.le_of_ble_eq_true rfl)⟩) (fun r5 M_ H locs hp hw => ?_)
  rw [n5x0, g5x0, n5y, g5y] at hp
  obtain ⟨he5, eM_⟩ := hp
  rw [eM_] at hw
  have e5 : r5 = 1 := he5.elim (fun z => z.1) (fun z => absurd ⟨rfl, hB4⟩ z.2)
  refine lv_if_eq (tgt := 765) hx hb dL_law_713 (by decide) (fun c => False.elim (absurd (c.symm.trans e5) (by decide))) (fun c => ?_)
  refine lv_aload_n hx hb dL_law_716 rfl (lv_at hl 1 rfl) ?_
  refine lv_iload hx hb dL_law_717 (lv_at hl 4 rfl) ?_
  refine lv_iload hx hb dL_law_719 (lv_at hl 3 rfl) ?_
  refine il_ri hw (il_rV (n := 2) (h := d) (As := [.int y0, .int x0]) (rest := []) ⟨hx, hb, hml, hown, hts⟩ (met_dsame hdesk4 (j := y0) (k := x0)) (lw_V q301 q302 q303 q4 q304) (by decide +kernel) ⟨Nat.le_of_ble_eq_true rfl, Nat.le_of_ble_eq_true rfl⟩ hB hw hd4 rfl rfl hl.1 rfl (Nat.le_of_ble_eq_true rfl) dL_law_721 ⟨(Nat.le_of_ble_eq_true rfl), (Nat.le_of_ble_eq_true rfl)⟩) (fun r6 M_ H locs hp hw => ?_)
  rw [n5x0, g5x0, n5y, g5y] at hp
  obtain ⟨he6, eM_⟩ := hp
  rw [eM_] at hw
  have e6 : r6 = 1 := he6.elim (fun z => z.1) (fun z => absurd ⟨rfl, fun j hj => (hB4 j hj).symm⟩ z.2)
  refine lv_if_eq (tgt := 765) hx hb dL_law_724 (by decide) (fun c => False.elim (absurd (c.symm.trans e6) (by decide))) (fun c => ?_)
  refine lv_aload_n hx hb dL_law_727 rfl (lv_at hl 1 rfl) ?_
  refine lv_iload hx hb dL_law_728 (lv_at hl 3 rfl) ?_
  refine il_ri hw (il_rV (n := 1) (h := d) (As := [.int x0]) (rest := []) ⟨hx, hb, hml, hown, hts⟩ (met_dhash hdesk4 (k := x0)) (lw_V q310 q311 q312 q4 q313) (by decide +kernel) ⟨Nat.le_of_ble_eq_true rfl, Nat.le_of_ble_eq_true rfl⟩ hB hw hd4 rfl rfl hl.1 rfl (Nat.le_of_ble_eq_true rfl) dL_law_730 ⟨(Nat.le_of_ble_eq_true rfl), (Nat.le_of_ble_eq_true rfl)⟩) (fun r7 M_ H locs hp hw => ?_)
  rw [n5x0, g5x0] at hp
  obtain ⟨rfl, eM_⟩ := hp
  rw [eM_] at hw
  refine lv_aload_n hx hb dL_law_733 rfl (lv_at hl 1 rfl) ?_
  refine lv_iload hx hb dL_law_734 (lv_at hl 4 rfl) ?_
  refine il_ri hw (il_rV (n := 1) (h := d) (As := [.int y0]) (rest := [.int (il_hash mB nn)]) ⟨hx, hb, hml, hown, hts⟩ (met_dhash hdesk4 (k := y0)) (lw_V q310 q311 q312 q4 q313) (by decide +kernel) ⟨Nat.le_of_ble_eq_true rfl, Nat.le_of_ble_eq_true rfl⟩ hB hw hd4 rfl rfl hl.1 rfl (Nat.le_of_ble_eq_true rfl) dL_law_736 ⟨(Nat.le_of_ble_eq_true rfl), (Nat.le_of_ble_eq_true rfl)⟩) (fun r8 M_ H locs hp hw => ?_)
  rw [n5y, g5y] at hp
  obtain ⟨rfl, eM_⟩ := hp
  rw [eM_] at hw
  refine lv_icmp_ne (tgt := 765) hx hb dL_law_739 (by decide) (fun c => False.elim (c (il_hash_congr hB4))) (fun c => ?_)
  refine lv_aload_n hx hb dL_law_742 rfl (lv_at hl 1 rfl) ?_
  refine lv_iload hx hb dL_law_743 (lv_at hl 3 rfl) ?_
  refine il_ri hw (il_rV (n := 1) (h := d) (As := [.int x0]) (rest := []) ⟨hx, hb, hml, hown, hts⟩ (met_dhash hdesk4 (k := x0)) (lw_V q310 q311 q312 q4 q313) (by decide +kernel) ⟨Nat.le_of_ble_eq_true rfl, Nat.le_of_ble_eq_true rfl⟩ hB hw hd4 rfl rfl hl.1 rfl (Nat.le_of_ble_eq_true rfl) dL_law_745 ⟨(Nat.le_of_ble_eq_true rfl), (Nat.le_of_ble_eq_true rfl)⟩) (fun r9 M_ H locs hp hw => ?_)
  rw [n5x0, g5x0] at hp
  obtain ⟨rfl, eM_⟩ := hp
  rw [eM_] at hw
  refine lv_aload_n hx hb dL_law_748 rfl (lv_at hl 2 rfl) ?_
  refine lv_iconst (v := 0) hx hb dL_law_749 (by decide) ?_
  refine lv_iload hx hb dL_law_750 (lv_at hl 5 rfl) ?_
  refine il_rr hw (il_rS (n := 3) (As := [.ref am, .int 0, .int (nI nn)]) (rest := [.int (il_hash mB nn)]) ⟨hx, hb, hml, hown, hts⟩ (met_lpart ham5 (Nat.le_refl _) (st := 0) (k := nn) (by omega)) (lw_S q342 q343 q3 q344) (by decide +kernel) ⟨Nat.le_of_ble_eq_true rfl, Nat.le_of_ble_eq_true rfl⟩ hB hw rfl hl.1 rfl (Nat.le_of_ble_eq_true rfl) dL_law_752 ⟨(Nat.le_of_ble_eq_true rfl), (Nat.le_of_ble_eq_true rfl)⟩) (fun aq9 M_ H locs hp hw => ?_)
  obtain ⟨hn9, f9, eM_, hf9⟩ := hp
  rw [eM_] at hw
  have hw : il_W G s (il_up M4 aq9 (il_eJ G nn f9)) H locs := hw
  have hd4 := il_up_keep (a := aq9) (e := (il_eJ G nn f9)) (il_new hn9 hd4) hd4
  have ham5 := il_up_keep (a := aq9) (e := (il_eJ G nn f9)) (il_new hn9 ham5) ham5
  have hq9 : il_up M4 aq9 (il_eJ G nn f9) aq9 = some (il_eJ G nn f9) := il_up_eq _ _ _
  generalize eM9 : il_up M4 aq9 (il_eJ G nn f9) = M9 at hw hd4 ham5 hq9
  refine il_ri hw (il_rS (n := 1) (As := [.ref aq9]) (rest := [.int (il_hash mB nn)]) ⟨hx, hb, hml, hown, hts⟩ (met_lhash hq9 hnn) (lw_S q348 q349 q3 q350) (by decide +kernel) ⟨Nat.le_of_ble_eq_true rfl, Nat.le_of_ble_eq_true rfl⟩ hB hw rfl hl.1 rfl (Nat.le_of_ble_eq_true rfl) dL_law_755 ⟨(Nat.le_of_ble_eq_true rfl), (Nat.le_of_ble_eq_true rfl)⟩) (fun r10 M_ H locs hp hw => ?_)
  obtain ⟨rfl, eM_⟩ := hp
  rw [eM_] at hw
  refine lv_icmp_ne (tgt := 765) hx hb dL_law_758 (by decide) (fun c => False.elim (c ((il_hash_congr hB4).trans (il_hash_congr (fun j hj => by rw [hf9 j hj, Nat.zero_add]; exact (hmf5 j hj).symm))))) (fun c => ?_)
  refine lv_iconst (v := 1) hx hb dL_law_761 (by decide) ?_
  refine lv_goto (tgt := 766) hx hb dL_law_762 (by decide) ?_
  exact il_lawend hLF hw (Nat.le_of_ble_eq_true rfl) (Nat.le_of_ble_eq_true rfl)
set_option maxHeartbeats 4000000 in
set_option maxRecDepth 100000 in
/-- the law: the row is cut in two -/
theorem law_fin2 {l : Launch} {G : il_G} {p : Program} {e : Env} {s : State} {m : MethodId} {below : List Frame} {meth : Method} {cd : Code} {M : il_M} {H : Heap} {locs : List Loc} {ls : Array Slot} {P : Nat → Prop} {d ar am nn : Nat} {mg : Nat → Int64} {n nl : Nat → Nat} {g gl : Nat → Nat → Int64} {lr : Nat → Option Nat} {mf : Nat → Int64} {x0 y0 : Int32} (hLF : il_LF G p s m meth cd) (hw : il_W G s M H locs) (hdesk : il_desk G P M d nn mg n g) (hown2 : il_own G P M ar am lr mf nl gl mg nn) (ny : n (il_k y0) = nn) (gy : g (il_k y0) = mg) (hY : il_k y0 = (il_k x0 + 1) % 4) (hl : lv_has ls 18 [(0, .ref (il_b G)), (1, .ref d), (3, .ref am), (5, .int x0), (6, .int y0), (7, .int (nI nn))]) : W p l e room_1 s m #[Value.ref (il_b G)] below meth cd H locs 1100 190000 (lw_Z below #[Value.ref (il_b G)] s) (F0 m 436 ls []) := by
  obtain ⟨hx, hb, hr, hlk, hml, hown, hts, hB, hA, hn96⟩ := id hLF
  have hX := il_k_lt x0
  have hnn := hdesk.made
  obtain ⟨mk, rs, hd⟩ := hdesk.obj
  have ham := hown2.2.2.2.2.1
  refine lv_aload_n hx hb dL_law_436 rfl (lv_at hl 0 rfl) ?_
  refine lv_bipush (v := 93) hx hb dL_law_437 (by decide) ?_
  refine il_ri hw (il_rS (n := 2) (As := [.ref (il_b G), .int 93]) (rest := []) ⟨hx, hb, hml, hown, hts⟩ (met_cell (i := 93) (by omega) hn96) (lw_S q339 q340 q3 q341) (by decide +kernel) ⟨Nat.le_of_ble_eq_true rfl, Nat.le_of_ble_eq_true rfl⟩ hB hw rfl hl.1 rfl (Nat.le_of_ble_eq_true rfl) dL_law_439 ⟨(Nat.le_of_ble_eq_true rfl), (Nat.le_of_ble_eq_true rfl)⟩) (fun x3 M_ H locs hp hw => ?_)
  rw [hp] at hw
  have hm3 := il_m_lt x3
  refine lv_ldc hx hb hown (hts _ q374) dL_law_442 ?_
  refine lv_iand hx hb dL_law_444 ?_
  refine il_ti (nI (il_m x3)) (il_m_and x3) ?_
  refine lv_iload hx hb dL_law_445 (lv_at hl 5 rfl) ?_
  refine lv_iconst (v := 1) hx hb dL_law_447 (by decide) ?_
  refine lv_iadd hx hb dL_law_448 ?_
  refine il_ti (nI (nn + 1)) (nI_1 nn) ?_
  refine lv_irem hx hb dL_law_449 (nI_ne0 (n := (nn + 1)) (by omega) (by omega)) ?_
  refine il_ti (nI ((il_m x3) % (nn + 1))) (il_rem (a := (il_m x3)) (d := (nn + 1)) (by omega) (by omega) (by omega)) ?_
  obtain ⟨at0, eat⟩ : ∃ z, z = il_m x3 % (nn + 1) := ⟨_, rfl⟩
  have hat : at0 < nn + 1 := by rw [eat]; exact Nat.mod_lt _ (by omega)
  refine il_ti (nI at0) (by rw [eat]) ?_
  refine lv_istore (lv' := [(8, .int (nI at0)), (0, .ref (il_b G)), (1, .ref d), (3, .ref am), (5, .int x0), (6, .int y0), (7, .int (nI nn))]) hx hb dL_law_450 hl (by decide) rfl (fun ls hl => ?_)
  refine lv_iload hx hb dL_law_452 (lv_at hl 6 rfl) ?_
  refine il_joinW (α := Int64) (G := G) (M := M) (fun v => F0 m 475 ls [.long v]) (fun v => True) 1100 190000 (fun v H locs hv hw => ?_) (fun hk => ?_)
  · obtain ⟨vh, evh⟩ : ∃ z, z = (v >>> ((32 : Int32).toInt64 &&& 63)).toInt32 := ⟨_, rfl⟩
    obtain ⟨vl, evl⟩ : ∃ z, z = v.toInt32 := ⟨_, rfl⟩
    have hov : il_of vh vl = v := by rw [evh, evl]; exact il_of_parts v
    obtain ⟨p0, ep⟩ : ∃ z, z = x0 + 2 := ⟨_, rfl⟩
    obtain ⟨q0, eq0⟩ : ∃ z, z = x0 + 3 := ⟨_, rfl⟩
    have hPk : il_k p0 = (il_k x0 + 2) % 4 := by rw [ep]; exact il_k_add x0 2 (by omega)
    have hQk : il_k q0 = (il_k x0 + 3) % 4 := by rw [eq0]; exact il_k_add x0 3 (by omega)
    refine lv_lstore (lv' := [(9, .long v), (8, .int (nI at0)), (0, .ref (il_b G)), (1, .ref d), (3, .ref am), (5, .int x0), (6, .int y0), (7, .int (nI nn))]) hx hb dL_law_475 hl (by decide) rfl (fun ls hl => ?_)
    refine lv_lload hx hb dL_law_477 (lv_at hl 0 rfl) ?_
    refine lv_bipush (v := 32) hx hb dL_law_479 (by decide) ?_
    refine lv_lshr (v := v >>> ((32 : Int32).toInt64 &&& 63)) hx hb dL_law_481 rfl ?_
    refine lv_l2i hx hb dL_law_482 rfl ?_
    refine il_ti vh evh.symm ?_
    refine lv_istore (lv' := [(11, .int vh), (9, .long v), (8, .int (nI at0)), (0, .ref (il_b G)), (1, .ref d), (3, .ref am), (5, .int x0), (6, .int y0), (7, .int (nI nn))]) hx hb dL_law_483 hl (by decide) rfl (fun ls hl => ?_)
    refine lv_lload hx hb dL_law_485 (lv_at hl 1 rfl) ?_
    refine lv_l2i hx hb dL_law_487 rfl ?_
    refine il_ti vl evl.symm ?_
    refine lv_istore (lv' := [(12, .int vl), (11, .int vh), (9, .long v), (8, .int (nI at0)), (0, .ref (il_b G)), (1, .ref d), (3, .ref am), (5, .int x0), (6, .int y0), (7, .int (nI nn))]) hx hb dL_law_488 hl (by decide) rfl (fun ls hl => ?_)
    refine lv_iload hx hb dL_law_490 (lv_at hl 7 rfl) ?_
    refine lv_iconst (v := 2) hx hb dL_law_492 (by decide) ?_
    refine lv_iadd hx hb dL_law_493 ?_
    refine il_ti p0 ep.symm ?_
    refine lv_istore (lv' := [(13, .int p0), (12, .int vl), (11, .int vh), (9, .long v), (8, .int (nI at0)), (0, .ref (il_b G)), (1, .ref d), (3, .ref am), (5, .int x0), (6, .int y0), (7, .int (nI nn))]) hx hb dL_law_494 hl (by decide) rfl (fun ls hl => ?_)
    refine lv_iload hx hb dL_law_496 (lv_at hl 8 rfl) ?_
    refine lv_iconst (v := 3) hx hb dL_law_498 (by decide) ?_
    refine lv_iadd hx hb dL_law_499 ?_
    refine il_ti q0 eq0.symm ?_
    have e0 : il_m 0 = 0 := rfl
    have e1 : il_m (nI at0) = at0 := il_m_nI (by omega)
    have e2 : il_m (nI (nn - at0)) = nn - at0 := il_m_nI (by omega)
    refine lv_istore (lv' := [(14, .int q0), (13, .int p0), (12, .int vl), (11, .int vh), (9, .long v), (8, .int (nI at0)), (0, .ref (il_b G)), (1, .ref d), (3, .ref am), (5, .int x0), (6, .int y0), (7, .int (nI nn))]) hx hb dL_law_500 hl (by decide) rfl (fun ls hl => ?_)
    refine lv_aload_n hx hb dL_law_502 rfl (lv_at hl 7 rfl) ?_
    refine lv_iload hx hb dL_law_503 (lv_at hl 1 rfl) ?_
    refine lv_iload hx hb dL_law_505 (lv_at hl 10 rfl) ?_
    refine lv_iconst (v := 0) hx hb dL_law_507 (by decide) ?_
    refine lv_iload hx hb dL_law_508 (lv_at hl 5 rfl) ?_
    refine il_ri hw (il_rV (n := 4) (h := d) (As := [.int p0, .int y0, .int 0, .int (nI at0)]) (rest := []) ⟨hx, hb, hml, hown, hts⟩ (met_dpart hdesk (t := p0) (k := y0) (x := 0) (y := nI at0)) (lw_V q230 q231 q232 q4 q233) (by decide +kernel) ⟨Nat.le_of_ble_eq_true rfl, Nat.le_of_ble_eq_true rfl⟩ hB hw hd rfl rfl hl.1 rfl (Nat.le_of_ble_eq_true rfl) dL_law_510 ⟨(Nat.le_of_ble_eq_true rfl), (Nat.le_of_ble_eq_true rfl)⟩) (fun r1 M1 H locs hp hw => ?_)
    rw [ny, gy, e0, e1, Nat.zero_mod, Nat.sub_zero, Nat.mod_eq_of_lt hat] at hp
    obtain ⟨n6, en6⟩ : ∃ z, z = il_set n (il_k p0) at0 := ⟨_, rfl⟩
    obtain ⟨g6, eg6⟩ : ∃ z, z = il_set g (il_k p0) (fun z => mg (0 + z)) := ⟨_, rfl⟩
    rw [← en6, ← eg6] at hp
    have n6p0 : n6 (il_k p0) = at0 := by rw [en6, il_set_eq]
    have g6p0 : g6 (il_k p0) = fun z => mg (0 + z) := by rw [eg6, il_set_eq]
    have n6y0 : n6 (il_k y0) = nn := by rw [en6, il_set_ne (by omega)]; exact ny
    have g6y0 : g6 (il_k y0) = mg := by rw [eg6, il_set_ne (by omega)]; exact gy
    obtain ⟨rfl, hdesk1, hfr1⟩ := hp
    have hown3 := hown2.fr hfr1
    obtain ⟨mk1, rs1, hd1⟩ := hdesk1.obj
    refine lv_iload hx hb dL_law_513 (lv_at hl 5 rfl) ?_
    refine lv_icmp_ne (tgt := 541) hx hb dL_law_515 (by decide) (fun c1 => False.elim (by have c1 : ¬ (at0 = at0) := fun z => c1 ((nI_eq (a := at0) (b := at0) (by omega) (by omega)).mpr z); omega)) (fun c1 => ?_)
    have c1 : at0 = at0 := (nI_eq (a := at0) (b := at0) (by omega) (by omega)).mp c1
    refine lv_aload_n hx hb dL_law_518 rfl (lv_at hl 7 rfl) ?_
    refine lv_iload hx hb dL_law_519 (lv_at hl 0 rfl) ?_
    refine lv_iload hx hb dL_law_521 (lv_at hl 10 rfl) ?_
    refine lv_iload hx hb dL_law_523 (lv_at hl 5 rfl) ?_
    refine lv_iload hx hb dL_law_525 (lv_at hl 11 rfl) ?_
    refine lv_iload hx hb dL_law_527 (lv_at hl 5 rfl) ?_
    refine lv_isub hx hb dL_law_529 ?_
    refine il_ti (nI (nn - at0)) (pk_sub (by omega)) ?_
    refine il_ri hw (il_rV (n := 4) (h := d) (As := [.int q0, .int y0, .int (nI at0), .int (nI (nn - at0))]) (rest := []) ⟨hx, hb, hml, hown, hts⟩ (met_dpart hdesk1 (t := q0) (k := y0) (x := nI at0) (y := nI (nn - at0))) (lw_V q230 q231 q232 q4 q233) (by decide +kernel) ⟨Nat.le_of_ble_eq_true rfl, Nat.le_of_ble_eq_true rfl⟩ hB hw hd1 rfl rfl hl.1 rfl (Nat.le_of_ble_eq_true rfl) dL_law_530 ⟨(Nat.le_of_ble_eq_true rfl), (Nat.le_of_ble_eq_true rfl)⟩) (fun r2 M2 H locs hp hw => ?_)
    rw [n6y0, g6y0, e1, e2, Nat.mod_eq_of_lt hat, Nat.mod_eq_of_lt (Nat.lt_succ_self _)] at hp
    obtain ⟨n7, en7⟩ : ∃ z, z = il_set n6 (il_k q0) (nn - at0) := ⟨_, rfl⟩
    obtain ⟨g7, eg7⟩ : ∃ z, z = il_set g6 (il_k q0) (fun z => mg (at0 + z)) := ⟨_, rfl⟩
    rw [← en7, ← eg7] at hp
    have n7q0 : n7 (il_k q0) = nn - at0 := by rw [en7, il_set_eq]
    have g7q0 : g7 (il_k q0) = fun z => mg (at0 + z) := by rw [eg7, il_set_eq]
    have n7p0 : n7 (il_k p0) = at0 := by rw [en7, il_set_ne (by omega)]; exact n6p0
    have g7p0 : g7 (il_k p0) = fun z => mg (0 + z) := by rw [eg7, il_set_ne (by omega)]; exact g6p0
    have n7y0 : n7 (il_k y0) = nn := by rw [en7, il_set_ne (by omega)]; exact n6y0
    have g7y0 : g7 (il_k y0) = mg := by rw [eg7, il_set_ne (by omega)]; exact g6y0
    obtain ⟨rfl, hdesk2, hfr2⟩ := hp
    have hown4 := hown3.fr hfr2
    obtain ⟨mk2, rs2, hd2⟩ := hdesk2.obj
    refine lv_iload hx hb dL_law_533 (lv_at hl 11 rfl) ?_
    refine lv_iload hx hb dL_law_535 (lv_at hl 5 rfl) ?_
    refine lv_isub hx hb dL_law_537 ?_
    refine il_ti (nI (nn - at0)) (pk_sub (by omega)) ?_
    refine lv_icmp_eq (tgt := 543) hx hb dL_law_538 (by decide) (fun c1 => ?_) (fun c1 => False.elim (by have c1 : ¬ ((nn - at0) = (nn - at0)) := fun z => c1 ((nI_eq (a := (nn - at0)) (b := (nn - at0)) (by omega) (by omega)).mpr z); omega))
    have c1 : (nn - at0) = (nn - at0) := (nI_eq (a := (nn - at0)) (b := (nn - at0)) (by omega) (by omega)).mp c1
    refine lv_aload_n hx hb dL_law_543 rfl (lv_at hl 7 rfl) ?_
    refine lv_iload hx hb dL_law_544 (lv_at hl 1 rfl) ?_
    refine lv_iload hx hb dL_law_546 (lv_at hl 3 rfl) ?_
    refine lv_iload hx hb dL_law_548 (lv_at hl 2 rfl) ?_
    refine il_ri hw (il_rV (n := 3) (h := d) (As := [.int p0, .int vh, .int vl]) (rest := []) ⟨hx, hb, hml, hown, hts⟩ (met_dfirst hdesk2 (k := p0)) (lw_V q277 q278 q279 q4 q280) (by decide +kernel) ⟨Nat.le_of_ble_eq_true rfl, Nat.le_of_ble_eq_true rfl⟩ hB hw hd2 rfl rfl hl.1 rfl (Nat.le_of_ble_eq_true rfl) dL_law_550 ⟨(Nat.le_of_ble_eq_true rfl), (Nat.le_of_ble_eq_true rfl)⟩) (fun one M_ H locs hp hw => ?_)
    obtain ⟨hf1, eM_⟩ := hp
    rw [eM_] at hw
    rw [n7p0, g7p0, hov] at hf1
    have hf1 := il_fst_congr (il_z at0) hf1
    refine lv_istore (lv' := [(15, .int one), (14, .int q0), (13, .int p0), (12, .int vl), (11, .int vh), (9, .long v), (8, .int (nI at0)), (0, .ref (il_b G)), (1, .ref d), (3, .ref am), (5, .int x0), (6, .int y0), (7, .int (nI nn))]) hx hb dL_law_553 hl (by decide) rfl (fun ls hl => ?_)
    refine lv_aload_n hx hb dL_law_555 rfl (lv_at hl 8 rfl) ?_
    refine lv_iload hx hb dL_law_556 (lv_at hl 1 rfl) ?_
    refine lv_iload hx hb dL_law_558 (lv_at hl 4 rfl) ?_
    refine lv_iload hx hb dL_law_560 (lv_at hl 3 rfl) ?_
    refine il_ri hw (il_rV (n := 3) (h := d) (As := [.int q0, .int vh, .int vl]) (rest := []) ⟨hx, hb, hml, hown, hts⟩ (met_dfirst hdesk2 (k := q0)) (lw_V q277 q278 q279 q4 q280) (by decide +kernel) ⟨Nat.le_of_ble_eq_true rfl, Nat.le_of_ble_eq_true rfl⟩ hB hw hd2 rfl rfl hl.1 rfl (Nat.le_of_ble_eq_true rfl) dL_law_562 ⟨(Nat.le_of_ble_eq_true rfl), (Nat.le_of_ble_eq_true rfl)⟩) (fun two M_ H locs hp hw => ?_)
    obtain ⟨hf2, eM_⟩ := hp
    rw [eM_] at hw
    rw [n7q0, g7q0, hov] at hf2
    refine lv_istore (lv' := [(16, .int two), (15, .int one), (14, .int q0), (13, .int p0), (12, .int vl), (11, .int vh), (9, .long v), (8, .int (nI at0)), (0, .ref (il_b G)), (1, .ref d), (3, .ref am), (5, .int x0), (6, .int y0), (7, .int (nI nn))]) hx hb dL_law_565 hl (by decide) rfl (fun ls hl => ?_)
    refine lv_aload_n hx hb dL_law_567 rfl (lv_at hl 9 rfl) ?_
    refine lv_iload hx hb dL_law_568 (lv_at hl 12 rfl) ?_
    refine lv_iload hx hb dL_law_570 (lv_at hl 5 rfl) ?_
    refine lv_iload hx hb dL_law_572 (lv_at hl 4 rfl) ?_
    refine il_ri hw (il_rV (n := 3) (h := d) (As := [.int y0, .int vh, .int vl]) (rest := []) ⟨hx, hb, hml, hown, hts⟩ (met_dfirst hdesk2 (k := y0)) (lw_V q277 q278 q279 q4 q280) (by decide +kernel) ⟨Nat.le_of_ble_eq_true rfl, Nat.le_of_ble_eq_true rfl⟩ hB hw hd2 rfl rfl hl.1 rfl (Nat.le_of_ble_eq_true rfl) dL_law_574 ⟨(Nat.le_of_ble_eq_true rfl), (Nat.le_of_ble_eq_true rfl)⟩) (fun all M_ H locs hp hw => ?_)
    obtain ⟨hf3, eM_⟩ := hp
    rw [eM_] at hw
    rw [n7y0, g7y0, hov] at hf3
    have hcut := il_fst_cut (by omega) (by omega) hf1 hf2 hf3
    refine lv_istore (lv' := [(17, .int all), (16, .int two), (15, .int one), (14, .int q0), (13, .int p0), (12, .int vl), (11, .int vh), (9, .long v), (8, .int (nI at0)), (0, .ref (il_b G)), (1, .ref d), (3, .ref am), (5, .int x0), (6, .int y0), (7, .int (nI nn))]) hx hb dL_law_577 hl (by decide) rfl (fun ls hl => ?_)
    refine lv_iload hx hb dL_law_579 (lv_at hl 0 rfl) ?_
    refine lv_iload hx hb dL_law_581 (lv_at hl 2 rfl) ?_
    refine il_join (α := Unit) (fun _ => F0 m 610 ls []) (fun _ => True) (fun _ _ => ?_) (fun hk => ?_)
    · refine lv_aload_n hx hb dL_law_610 rfl (lv_at hl 10 rfl) ?_
      refine lv_iload hx hb dL_law_611 (lv_at hl 4 rfl) ?_
      refine lv_iload hx hb dL_law_613 (lv_at hl 6 rfl) ?_
      refine lv_iload hx hb dL_law_615 (lv_at hl 5 rfl) ?_
      refine il_ri hw (il_rV (n := 3) (h := d) (As := [.int p0, .int vh, .int vl]) (rest := []) ⟨hx, hb, hml, hown, hts⟩ (met_dlast hdesk2 (k := p0)) (lw_V q289 q290 q291 q4 q292) (by decide +kernel) ⟨Nat.le_of_ble_eq_true rfl, Nat.le_of_ble_eq_true rfl⟩ hB hw hd2 rfl rfl hl.1 rfl (Nat.le_of_ble_eq_true rfl) dL_law_617 ⟨(Nat.le_of_ble_eq_true rfl), (Nat.le_of_ble_eq_true rfl)⟩) (fun one2 M_ H locs hp hw => ?_)
      obtain ⟨hl1, eM_⟩ := hp
      rw [eM_] at hw
      rw [n7p0, g7p0, hov] at hl1
      have hl1 := il_lst_congr (il_z at0) hl1
      refine lv_istore (lv' := [(15, .int one2), (17, .int all), (16, .int two), (14, .int q0), (13, .int p0), (12, .int vl), (11, .int vh), (9, .long v), (8, .int (nI at0)), (0, .ref (il_b G)), (1, .ref d), (3, .ref am), (5, .int x0), (6, .int y0), (7, .int (nI nn))]) hx hb dL_law_620 hl (by decide) rfl (fun ls hl => ?_)
      refine lv_aload_n hx hb dL_law_622 rfl (lv_at hl 10 rfl) ?_
      refine lv_iload hx hb dL_law_623 (lv_at hl 3 rfl) ?_
      refine lv_iload hx hb dL_law_625 (lv_at hl 6 rfl) ?_
      refine lv_iload hx hb dL_law_627 (lv_at hl 5 rfl) ?_
      refine il_ri hw (il_rV (n := 3) (h := d) (As := [.int q0, .int vh, .int vl]) (rest := []) ⟨hx, hb, hml, hown, hts⟩ (met_dlast hdesk2 (k := q0)) (lw_V q289 q290 q291 q4 q292) (by decide +kernel) ⟨Nat.le_of_ble_eq_true rfl, Nat.le_of_ble_eq_true rfl⟩ hB hw hd2 rfl rfl hl.1 rfl (Nat.le_of_ble_eq_true rfl) dL_law_629 ⟨(Nat.le_of_ble_eq_true rfl), (Nat.le_of_ble_eq_true rfl)⟩) (fun two2 M_ H locs hp hw => ?_)
      obtain ⟨hl2, eM_⟩ := hp
      rw [eM_] at hw
      rw [n7q0, g7q0, hov] at hl2
      refine lv_istore (lv' := [(16, .int two2), (15, .int one2), (17, .int all), (14, .int q0), (13, .int p0), (12, .int vl), (11, .int vh), (9, .long v), (8, .int (nI at0)), (0, .ref (il_b G)), (1, .ref d), (3, .ref am), (5, .int x0), (6, .int y0), (7, .int (nI nn))]) hx hb dL_law_632 hl (by decide) rfl (fun ls hl => ?_)
      refine lv_aload_n hx hb dL_law_634 rfl (lv_at hl 10 rfl) ?_
      refine lv_iload hx hb dL_law_635 (lv_at hl 13 rfl) ?_
      refine lv_iload hx hb dL_law_637 (lv_at hl 6 rfl) ?_
      refine lv_iload hx hb dL_law_639 (lv_at hl 5 rfl) ?_
      refine il_ri hw (il_rV (n := 3) (h := d) (As := [.int y0, .int vh, .int vl]) (rest := []) ⟨hx, hb, hml, hown, hts⟩ (met_dlast hdesk2 (k := y0)) (lw_V q289 q290 q291 q4 q292) (by decide +kernel) ⟨Nat.le_of_ble_eq_true rfl, Nat.le_of_ble_eq_true rfl⟩ hB hw hd2 rfl rfl hl.1 rfl (Nat.le_of_ble_eq_true rfl) dL_law_641 ⟨(Nat.le_of_ble_eq_true rfl), (Nat.le_of_ble_eq_true rfl)⟩) (fun all2 M_ H locs hp hw => ?_)
      obtain ⟨hl3, eM_⟩ := hp
      rw [eM_] at hw
      rw [n7y0, g7y0, hov] at hl3
      have hcut2 := il_lst_cut (by omega) (by omega) hl1 hl2 hl3
      refine lv_iload hx hb dL_law_644 (lv_at hl 0 rfl) ?_
      refine il_join (α := Unit) (fun _ => F0 m 664 ls []) (fun _ => True) (fun _ _ => ?_) (fun hk => ?_)
      · refine W.widen (k := 1200) (n := 200000) (by omega) (by omega) ?_
        exact law_fin3 hLF hw hdesk2 hown4 (by omega) n7y0 g7y0 n7p0 g7p0 n7q0 g7q0 hY hPk hQk (lv_sub hl [9, 10, 11, 12, 13, 14, 4, 3] rfl)
      · refine lv_if_lt (tgt := 657) hx hb dL_law_646 (by decide) (fun c1 => ?_) (fun c1 => ?_)
        · refine lv_iload hx hb dL_law_657 (lv_at hl 1 rfl) ?_
          refine lv_icmp_eq (tgt := 664) hx hb dL_law_659 (by decide) (fun c3 => ?_) (fun c3 => False.elim (c3 (hcut2.2 c1)))
          exact hk () trivial
        · refine lv_iload hx hb dL_law_649 (lv_at hl 0 rfl) ?_
          refine lv_iload hx hb dL_law_651 (lv_at hl 8 rfl) ?_
          refine lv_iadd hx hb dL_law_653 ?_
          refine lv_goto (tgt := 659) hx hb dL_law_654 (by decide) ?_
          refine lv_icmp_eq (tgt := 664) hx hb dL_law_659 (by decide) (fun c3 => ?_) (fun c3 => False.elim (c3 (hcut2.1 c1)))
          exact hk () trivial
    · refine lv_if_lt (tgt := 591) hx hb dL_law_583 (by decide) (fun c1 => ?_) (fun c1 => ?_)
      · refine lv_iload hx hb dL_law_591 (lv_at hl 1 rfl) ?_
        refine lv_if_lt (tgt := 604) hx hb dL_law_593 (by decide) (fun c2 => ?_) (fun c2 => ?_)
        · refine lv_iconst (v := -1) hx hb dL_law_604 (by decide) ?_
          refine lv_icmp_eq (tgt := 610) hx hb dL_law_605 (by decide) (fun c3 => ?_) (fun c3 => False.elim (c3 (hcut.2.2 c1 c2)))
          exact hk () trivial
        · refine lv_iload hx hb dL_law_596 (lv_at hl 1 rfl) ?_
          refine lv_iload hx hb dL_law_598 (lv_at hl 8 rfl) ?_
          refine lv_iadd hx hb dL_law_600 ?_
          refine lv_goto (tgt := 605) hx hb dL_law_601 (by decide) ?_
          refine lv_icmp_eq (tgt := 610) hx hb dL_law_605 (by decide) (fun c3 => ?_) (fun c3 => False.elim (c3 (hcut.2.1 c1 c2)))
          exact hk () trivial
      · refine lv_iload hx hb dL_law_586 (lv_at hl 2 rfl) ?_
        refine lv_goto (tgt := 605) hx hb dL_law_588 (by decide) ?_
        refine lv_icmp_eq (tgt := 610) hx hb dL_law_605 (by decide) (fun c3 => ?_) (fun c3 => False.elim (c3 (hcut.1 c1)))
        exact hk () trivial
  · refine lv_if_ne (tgt := 461) hx hb dL_law_454 (by decide) (fun c1 => ?_) (fun c1 => ?_)
    · have c1 : ¬ (nn = 0) := fun z => c1 ((nI_eq (a := nn) (b := 0) (by omega) (by omega)).mpr z)
      refine lv_aload_n hx hb dL_law_461 rfl (lv_at hl 3 rfl) ?_
      refine lv_aload_n hx hb dL_law_462 rfl (lv_at hl 1 rfl) ?_
      refine lv_bipush (v := 94) hx hb dL_law_463 (by decide) ?_
      refine il_ri hw (il_rS (n := 2) (As := [.ref (il_b G), .int 94]) (rest := [.ref am]) ⟨hx, hb, hml, hown, hts⟩ (met_cell (i := 94) (by omega) hn96) (lw_S q339 q340 q3 q341) (by decide +kernel) ⟨Nat.le_of_ble_eq_true rfl, Nat.le_of_ble_eq_true rfl⟩ hB hw rfl hl.1 rfl (Nat.le_of_ble_eq_true rfl) dL_law_465 ⟨(Nat.le_of_ble_eq_true rfl), (Nat.le_of_ble_eq_true rfl)⟩) (fun x4 M_ H locs hp hw => ?_)
      rw [hp] at hw
      have hm4 := il_m_lt x4
      refine lv_ldc hx hb hown (hts _ q374) dL_law_468 ?_
      refine lv_iand hx hb dL_law_470 ?_
      refine il_ti (nI (il_m x4)) (il_m_and x4) ?_
      refine lv_iload hx hb dL_law_471 (lv_at hl 6 rfl) ?_
      refine lv_irem hx hb dL_law_473 (nI_ne0 (n := nn) (by omega) (by omega)) ?_
      refine il_ti (nI ((il_m x4) % nn)) (il_rem (a := (il_m x4)) (d := nn) (by omega) (by omega) (by omega)) ?_
      refine il_lald (i := (il_m x4 % nn)) hx hb hB hw ham (Nat.lt_of_lt_of_le (Nat.mod_lt _ (by omega)) hnn) (by omega) rfl dL_law_474 ?_
      refine W.widen (k := 1100) (n := 190000) (by omega) (by omega) ?_
      exact hk _ _ _ trivial hw
    · have c1 : nn = 0 := (nI_eq (a := nn) (b := 0) (by omega) (by omega)).mp c1
      refine lv_lconst (v := 0) hx hb dL_law_457 (by decide) ?_
      refine lv_goto (tgt := 475) hx hb dL_law_458 (by decide) ?_
      refine W.widen (k := 1100) (n := 190000) (by omega) (by omega) ?_
      exact hk _ _ _ trivial hw
set_option maxHeartbeats 4000000 in
set_option maxRecDepth 100000 in
/-- the law: built, added to, built again -/
theorem law_fin1 {l : Launch} {G : il_G} {p : Program} {e : Env} {s : State} {m : MethodId} {below : List Frame} {meth : Method} {cd : Code} {M : il_M} {H : Heap} {locs : List Loc} {ls : Array Slot} {P : Nat → Prop} {d ar am made : Nat} {mg : Nat → Int64} {n : Nat → Nat} {g : Nat → Nat → Int64} (hLF : il_LF G p s m meth cd) (hw : il_W G s M H locs) (hlaw : il_law G P M d ar am made mg n g) (hl : lv_has ls 18 [(0, .ref (il_b G)), (1, .ref d), (3, .ref am), (4, .int (nI made))]) : W p l e room_1 s m #[Value.ref (il_b G)] below meth cd H locs 1000 181000 (lw_Z below #[Value.ref (il_b G)] s) (F0 m 259 ls []) := by
  obtain ⟨hx, hb, hr, hlk, hml, hown, hts, hB, hA, hn96⟩ := id hLF
  obtain ⟨hdesk, lr, mf, hown2⟩ := id hlaw
  have hmd := hdesk.made
  obtain ⟨mk, rs, hd⟩ := hdesk.obj
  refine lv_aload_n hx hb dL_law_259 rfl (lv_at hl 0 rfl) ?_
  refine lv_bipush (v := 90) hx hb dL_law_260 (by decide) ?_
  refine il_ri hw (il_rS (n := 2) (As := [.ref (il_b G), .int 90]) (rest := []) ⟨hx, hb, hml, hown, hts⟩ (met_cell (i := 90) (by omega) hn96) (lw_S q339 q340 q3 q341) (by decide +kernel) ⟨Nat.le_of_ble_eq_true rfl, Nat.le_of_ble_eq_true rfl⟩ hB hw rfl hl.1 rfl (Nat.le_of_ble_eq_true rfl) dL_law_262 ⟨(Nat.le_of_ble_eq_true rfl), (Nat.le_of_ble_eq_true rfl)⟩) (fun x0 M_ H locs hp hw => ?_)
  rw [hp] at hw
  obtain ⟨y0, ey⟩ : ∃ z, z = x0 + 1 := ⟨_, rfl⟩
  have hX := il_k_lt x0
  have hY : il_k y0 = (il_k x0 + 1) % 4 := by rw [ey]; exact il_k_add x0 1 (by omega)
  refine lv_istore (lv' := [(5, .int x0), (0, .ref (il_b G)), (1, .ref d), (3, .ref am), (4, .int (nI made))]) hx hb dL_law_265 hl (by decide) rfl (fun ls hl => ?_)
  refine lv_iload hx hb dL_law_267 (lv_at hl 0 rfl) ?_
  refine lv_iconst (v := 1) hx hb dL_law_269 (by decide) ?_
  refine lv_iadd hx hb dL_law_270 ?_
  refine il_ti y0 ey.symm ?_
  refine lv_istore (lv' := [(6, .int y0), (5, .int x0), (0, .ref (il_b G)), (1, .ref d), (3, .ref am), (4, .int (nI made))]) hx hb dL_law_271 hl (by decide) rfl (fun ls hl => ?_)
  refine lv_aload_n hx hb dL_law_273 rfl (lv_at hl 3 rfl) ?_
  refine lv_iload hx hb dL_law_274 (lv_at hl 1 rfl) ?_
  refine il_ri hw (il_rV (n := 1) (h := d) (As := [.int x0]) (rest := []) ⟨hx, hb, hml, hown, hts⟩ (met_dbuild hdesk (k := x0)) (lw_V q215 q216 q217 q4 q218) (by decide +kernel) ⟨Nat.le_of_ble_eq_true rfl, Nat.le_of_ble_eq_true rfl⟩ hB hw hd rfl rfl hl.1 rfl (Nat.le_of_ble_eq_true rfl) dL_law_276 ⟨(Nat.le_of_ble_eq_true rfl), (Nat.le_of_ble_eq_true rfl)⟩) (fun r1 M1 H locs hp hw => ?_)
  obtain ⟨n1, en1⟩ : ∃ z, z = il_set n (il_k x0) made := ⟨_, rfl⟩
  obtain ⟨g1, eg1⟩ : ∃ z, z = il_set g (il_k x0) mg := ⟨_, rfl⟩
  rw [← en1, ← eg1] at hp
  have n1x0 : n1 (il_k x0) = made := by rw [en1, il_set_eq]
  have g1x0 : g1 (il_k x0) = mg := by rw [eg1, il_set_eq]
  obtain ⟨rfl, hdesk1, hfr1⟩ := hp
  have hown1 := hown2.fr hfr1
  obtain ⟨mk1, rs1, hd1⟩ := hdesk1.obj
  refine lv_iload hx hb dL_law_279 (lv_at hl 5 rfl) ?_
  refine lv_icmp_ne (tgt := 304) hx hb dL_law_281 (by decide) (fun c1 => False.elim (by have c1 : ¬ (made = made) := fun z => c1 ((nI_eq (a := made) (b := made) (by omega) (by omega)).mpr z); omega)) (fun c1 => ?_)
  have c1 : made = made := (nI_eq (a := made) (b := made) (by omega) (by omega)).mp c1
  refine lv_aload_n hx hb dL_law_284 rfl (lv_at hl 3 rfl) ?_
  refine lv_iload hx hb dL_law_285 (lv_at hl 1 rfl) ?_
  refine il_rl hw (il_rV (n := 1) (h := d) (As := [.int x0]) (rest := []) ⟨hx, hb, hml, hown, hts⟩ (met_dwhole hdesk1 (k := x0)) (lw_V q321 q322 q323 q4 q324) (by decide +kernel) ⟨Nat.le_of_ble_eq_true rfl, Nat.le_of_ble_eq_true rfl⟩ hB hw hd1 rfl rfl hl.1 rfl (Nat.le_of_ble_eq_true rfl) dL_law_287 ⟨(Nat.le_of_ble_eq_true rfl), (Nat.le_of_ble_eq_true rfl)⟩) (fun r2 M2 H locs hp hw => ?_)
  obtain ⟨er2, hx2⟩ := hp
  rw [n1x0, g1x0] at er2
  have hdesk2 := hdesk1.ext hx2
  have hown3 := hx2.law hown1
  have ham2 := hown3.2.2.2.2.1
  have hmf2 := hown3.2.2.2.2.2
  have hd1 := hx2 _ _ hd1
  refine lv_aload_n hx hb dL_law_290 rfl (lv_at hl 4 rfl) ?_
  refine lv_iconst (v := 0) hx hb dL_law_291 (by decide) ?_
  refine lv_iload hx hb dL_law_292 (lv_at hl 5 rfl) ?_
  refine il_rr hw (il_rS (n := 3) (As := [.ref am, .int 0, .int (nI made)]) (rest := [.long r2]) ⟨hx, hb, hml, hown, hts⟩ (met_lpart ham2 (Nat.le_refl _) (st := 0) (k := made) (by omega)) (lw_S q342 q343 q3 q344) (by decide +kernel) ⟨Nat.le_of_ble_eq_true rfl, Nat.le_of_ble_eq_true rfl⟩ hB hw rfl hl.1 rfl (Nat.le_of_ble_eq_true rfl) dL_law_294 ⟨(Nat.le_of_ble_eq_true rfl), (Nat.le_of_ble_eq_true rfl)⟩) (fun aq3 M_ H locs hp hw => ?_)
  obtain ⟨hn3, f3, eM_, hf3⟩ := hp
  rw [eM_] at hw
  have hw : il_W G s (il_up M2 aq3 (il_eJ G made f3)) H locs := hw
  have hd1 := il_up_keep (a := aq3) (e := (il_eJ G made f3)) (il_new hn3 hd1) hd1
  have ham2 := il_up_keep (a := aq3) (e := (il_eJ G made f3)) (il_new hn3 ham2) ham2
  have hq3 : il_up M2 aq3 (il_eJ G made f3) aq3 = some (il_eJ G made f3) := il_up_eq _ _ _
  generalize eM3 : il_up M2 aq3 (il_eJ G made f3) = M3 at hw hd1 ham2 hq3
  have hx3 : il_ext M2 M3 := by rw [← eM3]; exact il_ext.up hn3
  have hlaw3 : il_law2 G P M3 d ar am made mg n1 g1 n g := ⟨hdesk2.ext hx3, lr, mf, hx3.law hown3⟩
  refine il_rl hw (il_rS (n := 1) (As := [.ref aq3]) (rest := [.long r2]) ⟨hx, hb, hml, hown, hts⟩ (met_lwhole hq3 hmd) (lw_S q351 q352 q3 q353) (by decide +kernel) ⟨Nat.le_of_ble_eq_true rfl, Nat.le_of_ble_eq_true rfl⟩ hB hw rfl hl.1 rfl (Nat.le_of_ble_eq_true rfl) dL_law_297 ⟨(Nat.le_of_ble_eq_true rfl), (Nat.le_of_ble_eq_true rfl)⟩) (fun r3 M_ H locs hp hw => ?_)
  obtain ⟨rfl, eM_⟩ := hp
  rw [eM_] at hw
  refine W.lcmp hx hb dL_law_300 ?_
  refine lv_if_eq (tgt := 306) hx hb dL_law_301 (by decide) (fun c1 => ?_) (fun c1 => False.elim (c1 ((lg_cmp_eq _ _).mpr (er2.trans (il_sum_congr (fun j hj => by rw [hf3 j hj, Nat.zero_add]; exact (hmf2 j hj).symm))))))
  refine lv_aload_n hx hb dL_law_306 rfl (lv_at hl 3 rfl) ?_
  refine lv_aload_n hx hb dL_law_307 rfl (lv_at hl 4 rfl) ?_
  refine lv_iload hx hb dL_law_308 (lv_at hl 5 rfl) ?_
  refine lv_aload_n hx hb dL_law_310 rfl (lv_at hl 2 rfl) ?_
  refine lv_bipush (v := 91) hx hb dL_law_311 (by decide) ?_
  refine il_ri hw (il_rS (n := 2) (As := [.ref (il_b G), .int 91]) (rest := [.int (nI made), .ref am, .ref d]) ⟨hx, hb, hml, hown, hts⟩ (met_cell (i := 91) (by omega) hn96) (lw_S q339 q340 q3 q341) (by decide +kernel) ⟨Nat.le_of_ble_eq_true rfl, Nat.le_of_ble_eq_true rfl⟩ hB hw rfl hl.1 rfl (Nat.le_of_ble_eq_true rfl) dL_law_313 ⟨(Nat.le_of_ble_eq_true rfl), (Nat.le_of_ble_eq_true rfl)⟩) (fun x1 M_ H locs hp hw => ?_)
  rw [hp] at hw
  refine lv_aload_n hx hb dL_law_316 rfl (lv_at hl 2 rfl) ?_
  refine lv_bipush (v := 92) hx hb dL_law_317 (by decide) ?_
  refine il_ri hw (il_rS (n := 2) (As := [.ref (il_b G), .int 92]) (rest := [.int x1, .int (nI made), .ref am, .ref d]) ⟨hx, hb, hml, hown, hts⟩ (met_cell (i := 92) (by omega) hn96) (lw_S q339 q340 q3 q341) (by decide +kernel) ⟨Nat.le_of_ble_eq_true rfl, Nat.le_of_ble_eq_true rfl⟩ hB hw rfl hl.1 rfl (Nat.le_of_ble_eq_true rfl) dL_law_319 ⟨(Nat.le_of_ble_eq_true rfl), (Nat.le_of_ble_eq_true rfl)⟩) (fun x2 M_ H locs hp hw => ?_)
  rw [hp] at hw
  refine il_ri hw (il_rS (n := 5) (As := [.ref d, .ref am, .int (nI made), .int x1, .int x2]) (rest := []) ⟨hx, hb, hml, hown, hts⟩ (met_adds hlaw3) (lw_S q355 q356 q3 q357) (by decide +kernel) ⟨Nat.le_of_ble_eq_true rfl, Nat.le_of_ble_eq_true rfl⟩ hB hw rfl hl.1 rfl (Nat.le_of_ble_eq_true rfl) dL_law_322 ⟨(Nat.le_of_ble_eq_true rfl), (Nat.le_of_ble_eq_true rfl)⟩) (fun r4 M4 H locs hp hw => ?_)
  obtain ⟨nn, mg4, rfl, hlaw4, h41, h42, h43⟩ := hp
  obtain ⟨hdesk4, lr4, mf4, hown4⟩ := id hlaw4
  have hnn := hdesk4.made
  obtain ⟨mk4, rs4, hd4⟩ := hdesk4.obj
  refine lv_istore (lv' := [(7, .int (nI nn)), (6, .int y0), (5, .int x0), (0, .ref (il_b G)), (1, .ref d), (3, .ref am), (4, .int (nI made))]) hx hb dL_law_325 hl (by decide) rfl (fun ls hl => ?_)
  refine lv_iload hx hb dL_law_327 (lv_at hl 0 rfl) ?_
  refine lv_if_lt (tgt := 377) hx hb dL_law_329 (by decide) (fun c1 => False.elim (by have c1 : nn < 0 := (nI_ltI (a := nn) (b := 0) (by omega) (by omega)).mp c1; omega)) (fun c1 => ?_)
  have c1 : ¬ (nn < 0) := fun z => c1 ((nI_ltI (a := nn) (b := 0) (by omega) (by omega)).mpr z)
  refine lv_aload_n hx hb dL_law_332 rfl (lv_at hl 4 rfl) ?_
  refine lv_iload hx hb dL_law_333 (lv_at hl 1 rfl) ?_
  refine il_ri hw (il_rV (n := 1) (h := d) (As := [.int y0]) (rest := []) ⟨hx, hb, hml, hown, hts⟩ (met_dbuild hdesk4 (k := y0)) (lw_V q215 q216 q217 q4 q218) (by decide +kernel) ⟨Nat.le_of_ble_eq_true rfl, Nat.le_of_ble_eq_true rfl⟩ hB hw hd4 rfl rfl hl.1 rfl (Nat.le_of_ble_eq_true rfl) dL_law_335 ⟨(Nat.le_of_ble_eq_true rfl), (Nat.le_of_ble_eq_true rfl)⟩) (fun r5 M5 H locs hp hw => ?_)
  obtain ⟨n5, en5⟩ : ∃ z, z = il_set n1 (il_k y0) nn := ⟨_, rfl⟩
  obtain ⟨g5, eg5⟩ : ∃ z, z = il_set g1 (il_k y0) mg4 := ⟨_, rfl⟩
  rw [← en5, ← eg5] at hp
  have n5y0 : n5 (il_k y0) = nn := by rw [en5, il_set_eq]
  have g5y0 : g5 (il_k y0) = mg4 := by rw [eg5, il_set_eq]
  have n5x0 : n5 (il_k x0) = made := by rw [en5, il_set_ne (by omega)]; exact n1x0
  have g5x0 : g5 (il_k x0) = mg := by rw [eg5, il_set_ne (by omega)]; exact g1x0
  obtain ⟨rfl, hdesk5, hfr5⟩ := hp
  have hown5 := hown4.fr hfr5
  obtain ⟨mk5, rs5, hd5⟩ := hdesk5.obj
  have ham5 := hown5.2.2.2.2.1
  have hmf5 := hown5.2.2.2.2.2
  refine lv_iload hx hb dL_law_338 (lv_at hl 0 rfl) ?_
  refine lv_icmp_ne (tgt := 377) hx hb dL_law_340 (by decide) (fun c1 => False.elim (by have c1 : ¬ (nn = nn) := fun z => c1 ((nI_eq (a := nn) (b := nn) (by omega) (by omega)).mpr z); omega)) (fun c1 => ?_)
  have c1 : nn = nn := (nI_eq (a := nn) (b := nn) (by omega) (by omega)).mp c1
  refine lv_aload_n hx hb dL_law_343 rfl (lv_at hl 4 rfl) ?_
  refine lv_iload hx hb dL_law_344 (lv_at hl 2 rfl) ?_
  refine il_ri hw (il_rV (n := 1) (h := d) (As := [.int x0]) (rest := []) ⟨hx, hb, hml, hown, hts⟩ (met_dlength hdesk5 (k := x0)) (lw_V q297 q298 q299 q4 q300) (by decide +kernel) ⟨Nat.le_of_ble_eq_true rfl, Nat.le_of_ble_eq_true rfl⟩ hB hw hd5 rfl rfl hl.1 rfl (Nat.le_of_ble_eq_true rfl) dL_law_346 ⟨(Nat.le_of_ble_eq_true rfl), (Nat.le_of_ble_eq_true rfl)⟩) (fun r6 M_ H locs hp hw => ?_)
  rw [n5x0] at hp
  obtain ⟨rfl, eM_⟩ := hp
  rw [eM_] at hw
  refine lv_iload hx hb dL_law_349 (lv_at hl 6 rfl) ?_
  refine lv_icmp_ne (tgt := 377) hx hb dL_law_351 (by decide) (fun c1 => False.elim (by have c1 : ¬ (made = made) := fun z => c1 ((nI_eq (a := made) (b := made) (by omega) (by omega)).mpr z); omega)) (fun c1 => ?_)
  have c1 : made = made := (nI_eq (a := made) (b := made) (by omega) (by omega)).mp c1
  refine lv_aload_n hx hb dL_law_354 rfl (lv_at hl 4 rfl) ?_
  refine lv_iload hx hb dL_law_355 (lv_at hl 2 rfl) ?_
  refine lv_iload hx hb dL_law_357 (lv_at hl 1 rfl) ?_
  refine il_ri hw (il_rV (n := 2) (h := d) (As := [.int x0, .int y0]) (rest := []) ⟨hx, hb, hml, hown, hts⟩ (met_dsame hdesk5 (j := x0) (k := y0)) (lw_V q301 q302 q303 q4 q304) (by decide +kernel) ⟨Nat.le_of_ble_eq_true rfl, Nat.le_of_ble_eq_true rfl⟩ hB hw hd5 rfl rfl hl.1 rfl (Nat.le_of_ble_eq_true rfl) dL_law_359 ⟨(Nat.le_of_ble_eq_true rfl), (Nat.le_of_ble_eq_true rfl)⟩) (fun r7 M_ H locs hp hw => ?_)
  rw [n5x0, g5x0, n5y0, g5y0] at hp
  obtain ⟨he7, eM_⟩ := hp
  rw [eM_] at hw
  refine lv_iload hx hb dL_law_362 (lv_at hl 0 rfl) ?_
  refine lv_iload hx hb dL_law_364 (lv_at hl 6 rfl) ?_
  refine il_join (α := Unit) (fun _ => F0 m 379 ls []) (fun _ => True) (fun _ _ => ?_) (fun hk => ?_)
  · refine W.widen (k := 1100) (n := 190000) (by omega) (by omega) ?_
    refine lv_iconst (v := 0) hx hb dL_law_379 (by decide) ?_
    refine lv_istore (lv' := [(8, .int 0), (7, .int (nI nn)), (6, .int y0), (5, .int x0), (0, .ref (il_b G)), (1, .ref d), (3, .ref am), (4, .int (nI made))]) hx hb dL_law_380 hl (by decide) rfl (fun ls hl => ?_)
    have loop : ∀ (k : Nat) (i : Nat), (i + k = nn) → ∀ (H : Heap) (locs : List Loc), il_W G s M5 H locs → ∀ ls : Array Slot, lv_has ls 18 [(0, .ref (il_b G)), (1, .ref d), (3, .ref am), (4, .int (nI made)), (5, .int x0), (6, .int y0), (7, .int (nI nn)), (8, .int (nI i))] → W p l e room_1 s m #[Value.ref (il_b G)] below meth cd H locs 1100 190000 (lw_Z below #[Value.ref (il_b G)] s) (F0 m 382 ls []) := by
      intro k
      induction k with
      | zero =>
        intro i hik H locs hw ls hl
        refine lv_iload hx hb dL_law_382 (lv_at hl 7 rfl) ?_
        refine lv_iload hx hb dL_law_384 (lv_at hl 6 rfl) ?_
        refine lv_icmp_ge (tgt := 436) hx hb dL_law_386 (by decide) (fun c1 => ?_) (fun c1 => False.elim (by have c1 : ¬ (nn ≤ i) := fun z => c1 ((nI_leI (a := nn) (b := i) (by omega) (by omega)).mpr z); omega))
        have c1 : nn ≤ i := (nI_leI (a := nn) (b := i) (by omega) (by omega)).mp c1
        exact law_fin2 hLF hw hdesk5 hown5 n5y0 g5y0 hY (lv_sub hl [0, 1, 2, 4, 5, 6] rfl)
      | succ k ih =>
        intro i hik H locs hw ls hl
        refine lv_iload hx hb dL_law_382 (lv_at hl 7 rfl) ?_
        refine lv_iload hx hb dL_law_384 (lv_at hl 6 rfl) ?_
        refine lv_icmp_ge (tgt := 436) hx hb dL_law_386 (by decide) (fun c1 => False.elim (by have c1 : nn ≤ i := (nI_leI (a := nn) (b := i) (by omega) (by omega)).mp c1; omega)) (fun c1 => ?_)
        have c1 : ¬ (nn ≤ i) := fun z => c1 ((nI_leI (a := nn) (b := i) (by omega) (by omega)).mpr z)
        refine lv_aload_n hx hb dL_law_389 rfl (lv_at hl 1 rfl) ?_
        refine lv_iload hx hb dL_law_390 (lv_at hl 5 rfl) ?_
        refine lv_iload hx hb dL_law_392 (lv_at hl 7 rfl) ?_
        refine il_rl hw (il_rV (n := 2) (h := d) (As := [.int y0, .int (nI i)]) (rest := []) ⟨hx, hb, hml, hown, hts⟩ (met_dget hdesk5 (k := y0) (x := nI i)) (lw_V q258 q259 q260 q4 q261) (by decide +kernel) ⟨Nat.le_of_ble_eq_true rfl, Nat.le_of_ble_eq_true rfl⟩ hB hw hd5 rfl rfl hl.1 rfl (Nat.le_of_ble_eq_true rfl) dL_law_394 ⟨(Nat.le_of_ble_eq_true rfl), (Nat.le_of_ble_eq_true rfl)⟩) (fun r8 M_ H locs hp hw => ?_)
        rw [n5y0, g5y0, il_m_nI (by omega), Nat.mod_eq_of_lt (show i < nn by omega)] at hp
        obtain ⟨hg8, eM_⟩ := hp
        rw [eM_] at hw
        have er8 : r8 = mg4 i := hg8.elim (fun z => absurd z.1 (by omega)) (fun z => z.2)
        refine lv_aload_n hx hb dL_law_397 rfl (lv_at hl 2 rfl) ?_
        refine lv_iload hx hb dL_law_398 (lv_at hl 7 rfl) ?_
        refine il_lald (i := i) hx hb hB hw ham5 (by omega) (by omega) rfl dL_law_400 ?_
        refine W.lcmp hx hb dL_law_401 ?_
        refine lv_if_ne (tgt := 428) hx hb dL_law_402 (by decide) (fun c2 => False.elim (c2 ((lg_cmp_eq _ _).mpr (er8.trans (hmf5 i (by omega)).symm)))) (fun c2 => ?_)
        refine lv_iload hx hb dL_law_405 (lv_at hl 7 rfl) ?_
        refine lv_iload hx hb dL_law_407 (lv_at hl 3 rfl) ?_
        refine il_joinW (α := Unit) (G := G) (M := M5) (fun _u => F0 m 430 ls []) (fun _u => True) 1100 190000 (fun _u H locs h_u hw => ?_) (fun hk => ?_)
        · refine lv_iinc (v := nI (i + 1)) (lv' := [(8, .int (nI (i + 1))), (0, .ref (il_b G)), (1, .ref d), (3, .ref am), (4, .int (nI made)), (5, .int x0), (6, .int y0), (7, .int (nI nn))]) hx hb dL_law_430 hl (k := 7) rfl (by exact nI_1 i) (by decide) rfl (fun ls hl => ?_)
          refine lv_goto (tgt := 382) hx hb dL_law_433 (by decide) ?_
          exact ih (i + 1) (by omega) _ _ hw ls (lv_sub hl [1, 2, 3, 4, 5, 6, 7, 0] rfl)
        · refine lv_icmp_ge (tgt := 430) hx hb dL_law_409 (by decide) (fun c3 => ?_) (fun c3 => ?_)
          · have c3 : made ≤ i := (nI_leI (a := made) (b := i) (by omega) (by omega)).mp c3
            refine W.widen (k := 1100) (n := 190000) (by omega) (by omega) ?_
            exact hk () _ _ trivial hw
          · have c3 : ¬ (made ≤ i) := fun z => c3 ((nI_leI (a := made) (b := i) (by omega) (by omega)).mpr z)
            refine lv_aload_n hx hb dL_law_412 rfl (lv_at hl 1 rfl) ?_
            refine lv_iload hx hb dL_law_413 (lv_at hl 4 rfl) ?_
            refine lv_iload hx hb dL_law_415 (lv_at hl 7 rfl) ?_
            refine il_rl hw (il_rV (n := 2) (h := d) (As := [.int x0, .int (nI i)]) (rest := []) ⟨hx, hb, hml, hown, hts⟩ (met_dget hdesk5 (k := x0) (x := nI i)) (lw_V q258 q259 q260 q4 q261) (by decide +kernel) ⟨Nat.le_of_ble_eq_true rfl, Nat.le_of_ble_eq_true rfl⟩ hB hw hd5 rfl rfl hl.1 rfl (Nat.le_of_ble_eq_true rfl) dL_law_417 ⟨(Nat.le_of_ble_eq_true rfl), (Nat.le_of_ble_eq_true rfl)⟩) (fun r9 M_ H locs hp hw => ?_)
            rw [n5x0, g5x0, il_m_nI (by omega), Nat.mod_eq_of_lt (show i < made by omega)] at hp
            obtain ⟨hg9, eM_⟩ := hp
            rw [eM_] at hw
            have er9 : r9 = mg i := hg9.elim (fun z => absurd z.1 (by omega)) (fun z => z.2)
            refine lv_aload_n hx hb dL_law_420 rfl (lv_at hl 2 rfl) ?_
            refine lv_iload hx hb dL_law_421 (lv_at hl 7 rfl) ?_
            refine il_lald (i := i) hx hb hB hw ham5 (by omega) (by omega) rfl dL_law_423 ?_
            refine W.lcmp hx hb dL_law_424 ?_
            refine lv_if_eq (tgt := 430) hx hb dL_law_425 (by decide) (fun c4 => ?_) (fun c4 => False.elim (c4 ((lg_cmp_eq _ _).mpr (er9.trans ((hmf5 i (by omega)).trans (h43 i (by omega))).symm))))
            refine W.widen (k := 1100) (n := 190000) (by omega) (by omega) ?_
            exact hk () _ _ trivial hw
    exact loop nn 0 (by omega) _ _ hw ls (lv_sub hl [4, 5, 6, 7, 3, 2, 1, 0] rfl)
  · refine lv_icmp_ne (tgt := 373) hx hb dL_law_366 (by decide) (fun c1 => ?_) (fun c1 => ?_)
    · have c1 : ¬ (nn = made) := fun z => c1 ((nI_eq (a := nn) (b := made) (by omega) (by omega)).mpr z)
      refine lv_iconst (v := 0) hx hb dL_law_373 (by decide) ?_
      refine lv_icmp_eq (tgt := 379) hx hb dL_law_374 (by decide) (fun c2 => ?_) (fun c2 => False.elim (c2 (he7.elim (fun z => absurd z.2.1 (by omega)) (fun z => z.1))))
      exact hk () trivial
    · have c1 : nn = made := (nI_eq (a := nn) (b := made) (by omega) (by omega)).mp c1
      refine lv_iconst (v := 1) hx hb dL_law_369 (by decide) ?_
      refine lv_goto (tgt := 374) hx hb dL_law_370 (by decide) ?_
      refine lv_icmp_eq (tgt := 379) hx hb dL_law_374 (by decide) (fun c2 => ?_) (fun c2 => False.elim (c2 (he7.elim (fun z => z.1) (fun z => absurd ⟨by omega, fun j hj => (h43 j hj).symm⟩ z.2))))
      exact hk () trivial
end
section
/-! THE LAW: its beginning, its turns (printed by wip/D-17801w/gen/m30.py) -/
set_option maxRecDepth 100000
set_option maxHeartbeats 4000000 in
set_option maxRecDepth 100000 in
/-- the law: the checks behind a turn -/
theorem law_checks {l : Launch} {G : il_G} {p : Program} {e : Env} {s : State} {m : MethodId} {below : List Frame} {meth : Method} {cd : Code} {M : il_M} {H : Heap} {locs : List Loc} {ls : Array Slot} {P : Nat → Prop} {d ar am made t : Nat} {mg : Nat → Int64} {n : Nat → Nat} {g : Nat → Nat → Int64} (hLF : il_LF G p s m meth cd) (hw : il_W G s M H locs) (hlaw : il_law G P M d ar am made mg n g) (ht : t < 15) (kk : ∀ (M : il_M) (H : Heap) (locs : List Loc) (ls : Array Slot), il_law G P M d ar am made mg n g → il_W G s M H locs → lv_has ls 18 [(0, .ref (il_b G)), (1, .ref d), (2, .ref ar), (3, .ref am), (4, .int (nI made)), (5, .int (nI t))] → W p l e room_1 s m #[Value.ref (il_b G)] below meth cd H locs (144 + 60 * t) (9800 + 12000 * t) (lw_Z below #[Value.ref (il_b G)] s) (F0 m 253 ls [])) (hl : lv_has ls 18 [(0, .ref (il_b G)), (1, .ref d), (2, .ref ar), (3, .ref am), (4, .int (nI made)), (5, .int (nI t))]) : W p l e room_1 s m #[Value.ref (il_b G)] below meth cd H locs (140 + 60 * t) (9000 + 12000 * t) (lw_Z below #[Value.ref (il_b G)] s) (F0 m 78 ls []) := by
  obtain ⟨hx, hb, hr, hlk, hml, hown, hts, hB, hA, hn96⟩ := id hLF
  refine lv_iconst (v := 0) hx hb dL_law_78 (by decide) ?_
  refine lv_istore (lv' := [(6, .int 0), (0, .ref (il_b G)), (1, .ref d), (2, .ref ar), (3, .ref am), (4, .int (nI made)), (5, .int (nI t))]) hx hb dL_law_79 hl (by decide) rfl (fun ls hl => ?_)
  have loop : ∀ (k1 : Nat) (a : Nat), (a + k1 = 4) → ∀ (M1 : il_M), (il_law G P M1 d ar am made mg n g) → ∀ (H : Heap) (locs : List Loc), il_W G s M1 H locs → ∀ ls : Array Slot, lv_has ls 18 [(0, .ref (il_b G)), (1, .ref d), (2, .ref ar), (3, .ref am), (4, .int (nI made)), (5, .int (nI t)), (6, .int (nI a))] → W p l e room_1 s m #[Value.ref (il_b G)] below meth cd H locs (140 + 60 * t + a) (9000 + 12000 * t + 200 * a) (lw_Z below #[Value.ref (il_b G)] s) (F0 m 81 ls []) := by
    intro k1
    induction k1 with
    | zero =>
      intro a hak M1 hlp H locs hw ls hl
      refine lv_iload hx hb dL_law_81 (lv_at hl 6 rfl) ?_
      refine lv_iconst (v := 4) hx hb dL_law_83 (by decide) ?_
      refine lv_icmp_ge (tgt := 253) hx hb dL_law_84 (by decide) (fun c => ?_) (fun c => False.elim (by have c : ¬ (4 ≤ a) := fun z => c ((nI_leI (a := 4) (b := a) (by omega) (by omega)).mpr z); omega))
      have c : 4 ≤ a := (nI_leI (a := 4) (b := a) (by omega) (by omega)).mp c
      refine W.widen (k := (144 + 60 * t)) (n := (9800 + 12000 * t)) (by omega) (by omega) ?_
      exact kk M1 H locs ls hlp hw (lv_sub hl [0, 1, 2, 3, 4, 5] rfl)
    | succ k1 ih =>
      intro a hak M1 hlp H locs hw ls hl
      have ha4 : a < 4 := by omega
      obtain ⟨hdesk, lr, mf, hown2⟩ := id hlp
      obtain ⟨mk, rs, hd⟩ := hdesk.obj
      obtain ⟨hPr, hPm, har, hlrows, ham, hmf⟩ := id hown2
      obtain ⟨q, f, hlr, hPq, hqa, hq, hf⟩ := hlrows a ha4
      have hna := hdesk.len ha4
      have eka : il_k (nI a) = a := il_k_nI ha4
      refine lv_iload hx hb dL_law_81 (lv_at hl 6 rfl) ?_
      refine lv_iconst (v := 4) hx hb dL_law_83 (by decide) ?_
      refine lv_icmp_ge (tgt := 253) hx hb dL_law_84 (by decide) (fun c => False.elim (by have c : 4 ≤ a := (nI_leI (a := 4) (b := a) (by omega) (by omega)).mp c; omega)) (fun c => ?_)
      have c : ¬ (4 ≤ a) := fun z => c ((nI_leI (a := 4) (b := a) (by omega) (by omega)).mpr z)
      refine lv_aload_n hx hb dL_law_87 rfl (lv_at hl 1 rfl) ?_
      refine lv_iload hx hb dL_law_88 (lv_at hl 6 rfl) ?_
      refine il_ri hw (il_rV (n := 1) (h := d) (As := [.int (nI a)]) (rest := []) ⟨hx, hb, hml, hown, hts⟩ (met_dlength hdesk (k := nI a)) (lw_V q297 q298 q299 q4 q300) (by decide +kernel) ⟨Nat.le_of_ble_eq_true rfl, Nat.le_of_ble_eq_true rfl⟩ hB hw hd rfl rfl hl.1 rfl (Nat.le_of_ble_eq_true rfl) dL_law_90 ⟨(by show _ ≤ 1200192; omega), (by show _ ≤ 5500522; omega)⟩) (fun r1 M_ H locs hp hw => ?_)
      rw [eka] at hp
      obtain ⟨rfl, eM_⟩ := hp
      rw [eM_] at hw
      refine lv_aload_n hx hb dL_law_93 rfl (lv_at hl 2 rfl) ?_
      refine lv_iload hx hb dL_law_94 (lv_at hl 6 rfl) ?_
      refine il_gald (i := a) hx hb hB hw har ha4 (by omega) rfl hlr dL_law_96 ?_
      refine il_alen hx hb hB hw hq dL_law_97 ?_
      refine lv_icmp_ne (tgt := 134) hx hb dL_law_98 (by decide) (fun c1 => False.elim (by have c1 : ¬ ((n a) = (n a)) := fun z => c1 ((nI_eq (a := (n a)) (b := (n a)) (by omega) (by omega)).mpr z); omega)) (fun c1 => ?_)
      have c1 : (n a) = (n a) := (nI_eq (a := (n a)) (b := (n a)) (by omega) (by omega)).mp c1
      refine lv_aload_n hx hb dL_law_101 rfl (lv_at hl 1 rfl) ?_
      refine lv_iload hx hb dL_law_102 (lv_at hl 6 rfl) ?_
      refine il_ri hw (il_rV (n := 1) (h := d) (As := [.int (nI a)]) (rest := []) ⟨hx, hb, hml, hown, hts⟩ (met_dhash hdesk (k := nI a)) (lw_V q310 q311 q312 q4 q313) (by decide +kernel) ⟨Nat.le_of_ble_eq_true rfl, Nat.le_of_ble_eq_true rfl⟩ hB hw hd rfl rfl hl.1 rfl (Nat.le_of_ble_eq_true rfl) dL_law_104 ⟨(by show _ ≤ 1200192; omega), (by show _ ≤ 5500522; omega)⟩) (fun r2 M_ H locs hp hw => ?_)
      rw [eka] at hp
      obtain ⟨rfl, eM_⟩ := hp
      rw [eM_] at hw
      refine lv_aload_n hx hb dL_law_107 rfl (lv_at hl 2 rfl) ?_
      refine lv_iload hx hb dL_law_108 (lv_at hl 6 rfl) ?_
      refine il_gald (i := a) hx hb hB hw har ha4 (by omega) rfl hlr dL_law_110 ?_
      refine il_ri hw (il_rS (n := 1) (As := [.ref q]) (rest := [.int (il_hash (g a) (n a))]) ⟨hx, hb, hml, hown, hts⟩ (met_lhash hq hna) (lw_S q348 q349 q3 q350) (by decide +kernel) ⟨Nat.le_of_ble_eq_true rfl, Nat.le_of_ble_eq_true rfl⟩ hB hw rfl hl.1 rfl (Nat.le_of_ble_eq_true rfl) dL_law_111 ⟨(by show _ ≤ 1200192; omega), (by show _ ≤ 5500522; omega)⟩) (fun r3 M_ H locs hp hw => ?_)
      obtain ⟨rfl, eM_⟩ := hp
      rw [eM_] at hw
      refine lv_icmp_ne (tgt := 134) hx hb dL_law_114 (by decide) (fun c1 => False.elim (c1 (il_hash_congr (fun j hj => (hf j hj).symm)))) (fun c1 => ?_)
      refine lv_aload_n hx hb dL_law_117 rfl (lv_at hl 1 rfl) ?_
      refine lv_iload hx hb dL_law_118 (lv_at hl 6 rfl) ?_
      refine il_rl hw (il_rV (n := 1) (h := d) (As := [.int (nI a)]) (rest := []) ⟨hx, hb, hml, hown, hts⟩ (met_dwhole hdesk (k := nI a)) (lw_V q321 q322 q323 q4 q324) (by decide +kernel) ⟨Nat.le_of_ble_eq_true rfl, Nat.le_of_ble_eq_true rfl⟩ hB hw hd rfl rfl hl.1 rfl (Nat.le_of_ble_eq_true rfl) dL_law_120 ⟨(by show _ ≤ 1200192; omega), (by show _ ≤ 5500522; omega)⟩) (fun r4 M2 H locs hp hw => ?_)
      obtain ⟨er4, hx4⟩ := hp
      rw [eka] at er4
      have hlaw2 := hlp.ext hx4
      have hdesk2 := hdesk.ext hx4
      have hown3 := hx4.law hown2
      have hlrows2 := hown3.2.2.2.1
      have hd := hx4 _ _ hd
      have har := hx4 _ _ har
      have hq := hx4 _ _ hq
      refine lv_aload_n hx hb dL_law_123 rfl (lv_at hl 2 rfl) ?_
      refine lv_iload hx hb dL_law_124 (lv_at hl 6 rfl) ?_
      refine il_gald (i := a) hx hb hB hw har ha4 (by omega) rfl hlr dL_law_126 ?_
      refine il_rl hw (il_rS (n := 1) (As := [.ref q]) (rest := [.long r4]) ⟨hx, hb, hml, hown, hts⟩ (met_lwhole hq hna) (lw_S q351 q352 q3 q353) (by decide +kernel) ⟨Nat.le_of_ble_eq_true rfl, Nat.le_of_ble_eq_true rfl⟩ hB hw rfl hl.1 rfl (Nat.le_of_ble_eq_true rfl) dL_law_127 ⟨(by show _ ≤ 1200192; omega), (by show _ ≤ 5500522; omega)⟩) (fun r5 M_ H locs hp hw => ?_)
      obtain ⟨rfl, eM_⟩ := hp
      rw [eM_] at hw
      refine W.lcmp hx hb dL_law_130 ?_
      refine lv_if_eq (tgt := 136) hx hb dL_law_131 (by decide) (fun c1 => ?_) (fun c1 => False.elim (c1 ((lg_cmp_eq _ _).mpr (er4.trans (il_sum_congr (fun j hj => (hf j hj).symm))))))
      refine lv_aload_n hx hb dL_law_136 rfl (lv_at hl 2 rfl) ?_
      refine lv_iload hx hb dL_law_137 (lv_at hl 6 rfl) ?_
      refine il_gald (i := a) hx hb hB hw har ha4 (by omega) rfl hlr dL_law_139 ?_
      refine il_alen hx hb hB hw hq dL_law_140 ?_
      refine il_joinW (α := Unit) (G := G) (M := M2) (fun _u => F0 m 168 ls []) (fun _u => True) (141 + 60 * t + a) (9200 + 12000 * t + 200 * a) (fun _u H locs h_u hw => ?_) (fun hk => ?_)
      · refine lv_iconst (v := 0) hx hb dL_law_168 (by decide) ?_
        refine lv_istore (lv' := [(7, .int 0), (0, .ref (il_b G)), (1, .ref d), (2, .ref ar), (3, .ref am), (4, .int (nI made)), (5, .int (nI t)), (6, .int (nI a))]) hx hb dL_law_169 hl (by decide) rfl (fun ls hl => ?_)
        have loop1 : ∀ (k2 : Nat) (i : Nat), (i + k2 = n a) → ∀ (H : Heap) (locs : List Loc), il_W G s M2 H locs → ∀ ls : Array Slot, lv_has ls 18 [(0, .ref (il_b G)), (1, .ref d), (2, .ref ar), (3, .ref am), (4, .int (nI made)), (5, .int (nI t)), (6, .int (nI a)), (7, .int (nI i))] → W p l e room_1 s m #[Value.ref (il_b G)] below meth cd H locs (141 + 60 * t + a) (9200 + 12000 * t + 200 * a) (lw_Z below #[Value.ref (il_b G)] s) (F0 m 171 ls []) := by
          intro k2
          induction k2 with
          | zero =>
            intro i hik H locs hw ls hl
            refine lv_iload hx hb dL_law_171 (lv_at hl 7 rfl) ?_
            refine lv_aload_n hx hb dL_law_173 rfl (lv_at hl 2 rfl) ?_
            refine lv_iload hx hb dL_law_174 (lv_at hl 6 rfl) ?_
            refine il_gald (i := a) hx hb hB hw har ha4 (by omega) rfl hlr dL_law_176 ?_
            refine il_alen hx hb hB hw hq dL_law_177 ?_
            refine lv_icmp_ge (tgt := 208) hx hb dL_law_178 (by decide) (fun c1 => ?_) (fun c1 => False.elim (by have c1 : ¬ ((n a) ≤ i) := fun z => c1 ((nI_leI (a := (n a)) (b := i) (by omega) (by omega)).mpr z); omega))
            have c1 : (n a) ≤ i := (nI_leI (a := (n a)) (b := i) (by omega) (by omega)).mp c1
            refine lv_iconst (v := 0) hx hb dL_law_208 (by decide) ?_
            refine lv_istore (lv' := [(7, .int 0), (0, .ref (il_b G)), (1, .ref d), (2, .ref ar), (3, .ref am), (4, .int (nI made)), (5, .int (nI t)), (6, .int (nI a))]) hx hb dL_law_209 hl (by decide) rfl (fun ls hl => ?_)
            have loop2 : ∀ (k3 : Nat) (j : Nat), (j + k3 = 4) → ∀ (H : Heap) (locs : List Loc), il_W G s M2 H locs → ∀ ls : Array Slot, lv_has ls 18 [(0, .ref (il_b G)), (1, .ref d), (2, .ref ar), (3, .ref am), (4, .int (nI made)), (5, .int (nI t)), (6, .int (nI a)), (7, .int (nI j))] → W p l e room_1 s m #[Value.ref (il_b G)] below meth cd H locs (141 + 60 * t + a) (9200 + 12000 * t + 200 * a) (lw_Z below #[Value.ref (il_b G)] s) (F0 m 211 ls []) := by
              intro k3
              induction k3 with
              | zero =>
                intro j hjk H locs hw ls hl
                refine lv_iload hx hb dL_law_211 (lv_at hl 7 rfl) ?_
                refine lv_iconst (v := 4) hx hb dL_law_213 (by decide) ?_
                refine lv_icmp_ge (tgt := 247) hx hb dL_law_214 (by decide) (fun c1 => ?_) (fun c1 => False.elim (by have c1 : ¬ (4 ≤ j) := fun z => c1 ((nI_leI (a := 4) (b := j) (by omega) (by omega)).mpr z); omega))
                have c1 : 4 ≤ j := (nI_leI (a := 4) (b := j) (by omega) (by omega)).mp c1
                refine lv_iinc (v := nI (a + 1)) (lv' := [(6, .int (nI (a + 1))), (0, .ref (il_b G)), (1, .ref d), (2, .ref ar), (3, .ref am), (4, .int (nI made)), (5, .int (nI t)), (7, .int (nI j))]) hx hb dL_law_247 hl (k := 6) rfl (by exact nI_1 a) (by decide) rfl (fun ls hl => ?_)
                refine lv_goto (tgt := 81) hx hb dL_law_250 (by decide) ?_
                refine W.widen (k := (140 + 60 * t + (a + 1))) (n := (9000 + 12000 * t + 200 * (a + 1))) (by omega) (by omega) ?_
                exact ih (a + 1) (by omega) M2 hlaw2 _ _ hw ls (lv_sub hl [1, 2, 3, 4, 5, 6, 0] rfl)
              | succ k3 ih2 =>
                intro j hjk H locs hw ls hl
                have hj4 : j < 4 := by omega
                obtain ⟨qj, fj, hlrj, hPqj, hqaj, hqj, hfj⟩ := hlrows2 j hj4
                have hnj := hdesk2.len hj4
                have ekj : il_k (nI j) = j := il_k_nI hj4
                refine lv_iload hx hb dL_law_211 (lv_at hl 7 rfl) ?_
                refine lv_iconst (v := 4) hx hb dL_law_213 (by decide) ?_
                refine lv_icmp_ge (tgt := 247) hx hb dL_law_214 (by decide) (fun c1 => False.elim (by have c1 : 4 ≤ j := (nI_leI (a := 4) (b := j) (by omega) (by omega)).mp c1; omega)) (fun c1 => ?_)
                have c1 : ¬ (4 ≤ j) := fun z => c1 ((nI_leI (a := 4) (b := j) (by omega) (by omega)).mpr z)
                refine lv_aload_n hx hb dL_law_217 rfl (lv_at hl 1 rfl) ?_
                refine lv_iload hx hb dL_law_218 (lv_at hl 7 rfl) ?_
                refine lv_iload hx hb dL_law_220 (lv_at hl 6 rfl) ?_
                refine il_ri hw (il_rV (n := 2) (h := d) (As := [.int (nI j), .int (nI a)]) (rest := []) ⟨hx, hb, hml, hown, hts⟩ (met_dsame hdesk2 (j := nI j) (k := nI a)) (lw_V q301 q302 q303 q4 q304) (by decide +kernel) ⟨Nat.le_of_ble_eq_true rfl, Nat.le_of_ble_eq_true rfl⟩ hB hw hd rfl rfl hl.1 rfl (Nat.le_of_ble_eq_true rfl) dL_law_222 ⟨(by show _ ≤ 1200192; omega), (by show _ ≤ 5500522; omega)⟩) (fun r7 M_ H locs hp hw => ?_)
                rw [ekj, eka] at hp
                obtain ⟨he7, eM_⟩ := hp
                rw [eM_] at hw
                refine lv_aload_n hx hb dL_law_225 rfl (lv_at hl 2 rfl) ?_
                refine lv_iload hx hb dL_law_226 (lv_at hl 7 rfl) ?_
                refine il_gald (i := j) hx hb hB hw har hj4 (by omega) rfl hlrj dL_law_228 ?_
                refine lv_aload_n hx hb dL_law_229 rfl (lv_at hl 2 rfl) ?_
                refine lv_iload hx hb dL_law_230 (lv_at hl 6 rfl) ?_
                refine il_gald (i := a) hx hb hB hw har ha4 (by omega) rfl hlr dL_law_232 ?_
                refine il_ri hw (il_rS (n := 2) (As := [.ref qj, .ref q]) (rest := [.int r7]) ⟨hx, hb, hml, hown, hts⟩ (met_isAlike hqj hnj hq hna) (lw_S q345 q346 q3 q347) (by decide +kernel) ⟨Nat.le_of_ble_eq_true rfl, Nat.le_of_ble_eq_true rfl⟩ hB hw rfl hl.1 rfl (Nat.le_of_ble_eq_true rfl) dL_law_233 ⟨(by show _ ≤ 1200192; omega), (by show _ ≤ 5500522; omega)⟩) (fun r8 M_ H locs hp hw => ?_)
                obtain ⟨he8, eM_⟩ := hp
                rw [eM_] at hw
                refine lv_icmp_eq (tgt := 241) hx hb dL_law_236 (by decide) (fun c2 => ?_) (fun c2 => False.elim (c2 (il_eqr_uniq he7 (il_eqr_congr hfj hf he8))))
                refine lv_iinc (v := nI (j + 1)) (lv' := [(7, .int (nI (j + 1))), (0, .ref (il_b G)), (1, .ref d), (2, .ref ar), (3, .ref am), (4, .int (nI made)), (5, .int (nI t)), (6, .int (nI a))]) hx hb dL_law_241 hl (k := 7) rfl (by exact nI_1 j) (by decide) rfl (fun ls hl => ?_)
                refine lv_goto (tgt := 211) hx hb dL_law_244 (by decide) ?_
                exact ih2 (j + 1) (by omega) _ _ hw ls (lv_sub hl [1, 2, 3, 4, 5, 6, 7, 0] rfl)
            exact loop2 4 0 (by omega) _ _ hw ls (lv_sub hl [1, 2, 3, 4, 5, 6, 7, 0] rfl)
          | succ k2 ih1 =>
            intro i hik H locs hw ls hl
            refine lv_iload hx hb dL_law_171 (lv_at hl 7 rfl) ?_
            refine lv_aload_n hx hb dL_law_173 rfl (lv_at hl 2 rfl) ?_
            refine lv_iload hx hb dL_law_174 (lv_at hl 6 rfl) ?_
            refine il_gald (i := a) hx hb hB hw har ha4 (by omega) rfl hlr dL_law_176 ?_
            refine il_alen hx hb hB hw hq dL_law_177 ?_
            refine lv_icmp_ge (tgt := 208) hx hb dL_law_178 (by decide) (fun c1 => False.elim (by have c1 : (n a) ≤ i := (nI_leI (a := (n a)) (b := i) (by omega) (by omega)).mp c1; omega)) (fun c1 => ?_)
            have c1 : ¬ ((n a) ≤ i) := fun z => c1 ((nI_leI (a := (n a)) (b := i) (by omega) (by omega)).mpr z)
            refine lv_aload_n hx hb dL_law_181 rfl (lv_at hl 1 rfl) ?_
            refine lv_iload hx hb dL_law_182 (lv_at hl 6 rfl) ?_
            refine lv_iload hx hb dL_law_184 (lv_at hl 7 rfl) ?_
            refine il_rl hw (il_rV (n := 2) (h := d) (As := [.int (nI a), .int (nI i)]) (rest := []) ⟨hx, hb, hml, hown, hts⟩ (met_dget hdesk2 (k := nI a) (x := nI i)) (lw_V q258 q259 q260 q4 q261) (by decide +kernel) ⟨Nat.le_of_ble_eq_true rfl, Nat.le_of_ble_eq_true rfl⟩ hB hw hd rfl rfl hl.1 rfl (Nat.le_of_ble_eq_true rfl) dL_law_186 ⟨(by show _ ≤ 1200192; omega), (by show _ ≤ 5500522; omega)⟩) (fun r9 M_ H locs hp hw => ?_)
            rw [eka, il_m_nI (by omega), Nat.mod_eq_of_lt (show i < n a by omega)] at hp
            obtain ⟨hg9, eM_⟩ := hp
            rw [eM_] at hw
            have er9 : r9 = g a i := hg9.elim (fun z => absurd z.1 (by omega)) (fun z => z.2)
            refine lv_aload_n hx hb dL_law_189 rfl (lv_at hl 2 rfl) ?_
            refine lv_iload hx hb dL_law_190 (lv_at hl 6 rfl) ?_
            refine il_gald (i := a) hx hb hB hw har ha4 (by omega) rfl hlr dL_law_192 ?_
            refine lv_iload hx hb dL_law_193 (lv_at hl 7 rfl) ?_
            refine il_lald (i := i) hx hb hB hw hq (by omega) (by omega) rfl dL_law_195 ?_
            refine W.lcmp hx hb dL_law_196 ?_
            refine lv_if_eq (tgt := 202) hx hb dL_law_197 (by decide) (fun c2 => ?_) (fun c2 => False.elim (c2 ((lg_cmp_eq _ _).mpr (er9.trans (hf i (by omega)).symm))))
            refine lv_iinc (v := nI (i + 1)) (lv' := [(7, .int (nI (i + 1))), (0, .ref (il_b G)), (1, .ref d), (2, .ref ar), (3, .ref am), (4, .int (nI made)), (5, .int (nI t)), (6, .int (nI a))]) hx hb dL_law_202 hl (k := 7) rfl (by exact nI_1 i) (by decide) rfl (fun ls hl => ?_)
            refine lv_goto (tgt := 171) hx hb dL_law_205 (by decide) ?_
            exact ih1 (i + 1) (by omega) _ _ hw ls (lv_sub hl [1, 2, 3, 4, 5, 6, 7, 0] rfl)
        exact loop1 (n a) 0 (by omega) _ _ hw ls (lv_sub hl [1, 2, 3, 4, 5, 6, 7, 0] rfl)
      · refine lv_if_ne (tgt := 168) hx hb dL_law_141 (by decide) (fun c2 => ?_) (fun c2 => ?_)
        · have c2 : ¬ ((n a) = 0) := fun z => c2 ((nI_eq (a := (n a)) (b := 0) (by omega) (by omega)).mpr z)
          refine W.widen (k := (141 + 60 * t + a)) (n := (9200 + 12000 * t + 200 * a)) (by omega) (by omega) ?_
          exact hk () _ _ trivial hw
        · have c2 : (n a) = 0 := (nI_eq (a := (n a)) (b := 0) (by omega) (by omega)).mp c2
          refine lv_aload_n hx hb dL_law_144 rfl (lv_at hl 1 rfl) ?_
          refine lv_iload hx hb dL_law_145 (lv_at hl 6 rfl) ?_
          refine lv_aload_n hx hb dL_law_147 rfl (lv_at hl 0 rfl) ?_
          refine lv_bipush (v := 6) hx hb dL_law_148 (by decide) ?_
          refine lv_iload hx hb dL_law_150 (lv_at hl 5 rfl) ?_
          refine lv_imul hx hb dL_law_152 ?_
          refine il_ti (nI (6 * t)) (pk_mul 6 t) ?_
          refine lv_iconst (v := 5) hx hb dL_law_153 (by decide) ?_
          refine lv_iadd hx hb dL_law_154 ?_
          refine il_ti (nI (6 * t + 5)) (nI_add (6 * t) 5) ?_
          refine il_ri hw (il_rS (n := 2) (As := [.ref (il_b G), .int (nI (6 * t + 5))]) (rest := [.int (nI a), .ref d]) ⟨hx, hb, hml, hown, hts⟩ (met_cell (i := 6 * t + 5) (by omega) hn96) (lw_S q339 q340 q3 q341) (by decide +kernel) ⟨Nat.le_of_ble_eq_true rfl, Nat.le_of_ble_eq_true rfl⟩ hB hw rfl hl.1 rfl (Nat.le_of_ble_eq_true rfl) dL_law_155 ⟨(by show _ ≤ 1200192; omega), (by show _ ≤ 5500522; omega)⟩) (fun xz M_ H locs hp hw => ?_)
          rw [hp] at hw
          refine il_rl hw (il_rV (n := 2) (h := d) (As := [.int (nI a), .int xz]) (rest := []) ⟨hx, hb, hml, hown, hts⟩ (met_dget hdesk2 (k := nI a) (x := xz)) (lw_V q258 q259 q260 q4 q261) (by decide +kernel) ⟨Nat.le_of_ble_eq_true rfl, Nat.le_of_ble_eq_true rfl⟩ hB hw hd rfl rfl hl.1 rfl (Nat.le_of_ble_eq_true rfl) dL_law_158 ⟨(by show _ ≤ 1200192; omega), (by show _ ≤ 5500522; omega)⟩) (fun r6 M_ H locs hp hw => ?_)
          rw [eka] at hp
          obtain ⟨hg6, eM_⟩ := hp
          rw [eM_] at hw
          have er6 : r6 = 0 := hg6.elim (fun z => z.2) (fun z => absurd c2 z.1)
          refine lv_lconst (v := 0) hx hb dL_law_161 (by decide) ?_
          refine W.lcmp hx hb dL_law_162 ?_
          refine lv_if_eq (tgt := 168) hx hb dL_law_163 (by decide) (fun c3 => ?_) (fun c3 => False.elim (c3 ((lg_cmp_eq _ _).mpr er6)))
          refine W.widen (k := (141 + 60 * t + a)) (n := (9200 + 12000 * t + 200 * a)) (by omega) (by omega) ?_
          exact hk () _ _ trivial hw
  exact loop 4 0 (by omega) M hlaw _ _ hw ls (lv_sub hl [1, 2, 3, 4, 5, 6, 0] rfl)
set_option maxHeartbeats 4000000 in
set_option maxRecDepth 100000 in
/-- the law: the fifteen turns -/
theorem law_turns {l : Launch} {G : il_G} {p : Program} {e : Env} {s : State} {m : MethodId} {below : List Frame} {meth : Method} {cd : Code} {M : il_M} {H : Heap} {locs : List Loc} {ls : Array Slot} {P : Nat → Prop} {d ar am made : Nat} {mg : Nat → Int64} {n : Nat → Nat} {g : Nat → Nat → Int64} (hLF : il_LF G p s m meth cd) (hw : il_W G s M H locs) (hlaw : il_law G P M d ar am made mg n g) (hl : lv_has ls 18 [(0, .ref (il_b G)), (1, .ref d), (2, .ref ar), (3, .ref am), (4, .int (nI made)), (5, .int (nI 0))]) : W p l e room_1 s m #[Value.ref (il_b G)] below meth cd H locs (100 + 60 * 0) (1000 + 12000 * 0) (lw_Z below #[Value.ref (il_b G)] s) (F0 m 48 ls []) := by
  obtain ⟨hx, hb, hr, hlk, hml, hown, hts, hB, hA, hn96⟩ := id hLF
  have loop : ∀ (k : Nat) (t : Nat) (P : Nat → Prop) (made : Nat) (mg : Nat → Int64) (n : Nat → Nat) (g : Nat → Nat → Int64), (t + k = 15) → ∀ (M1 : il_M), (il_law G P M1 d ar am made mg n g) → ∀ (H : Heap) (locs : List Loc), il_W G s M1 H locs → ∀ ls : Array Slot, lv_has ls 18 [(0, .ref (il_b G)), (1, .ref d), (2, .ref ar), (3, .ref am), (4, .int (nI made)), (5, .int (nI t))] → W p l e room_1 s m #[Value.ref (il_b G)] below meth cd H locs (100 + 60 * t) (1000 + 12000 * t) (lw_Z below #[Value.ref (il_b G)] s) (F0 m 48 ls []) := by
    intro k
    induction k with
    | zero =>
      intro t P made mg n g htk M1 hlp H locs hw ls hl
      refine lv_iload hx hb dL_law_48 (lv_at hl 5 rfl) ?_
      refine lv_bipush (v := 15) hx hb dL_law_50 (by decide) ?_
      refine lv_icmp_ge (tgt := 259) hx hb dL_law_52 (by decide) (fun c => ?_) (fun c => False.elim (by have c : ¬ (15 ≤ t) := fun z => c ((nI_leI (a := 15) (b := t) (by omega) (by omega)).mpr z); omega))
      have c : 15 ≤ t := (nI_leI (a := 15) (b := t) (by omega) (by omega)).mp c
      refine W.widen (k := 1000) (n := 181000) (by omega) (by omega) ?_
      exact law_fin1 hLF hw hlp (lv_sub hl [0, 1, 3, 4] rfl)
    | succ k ih =>
      intro t P made mg n g htk M1 hlp H locs hw ls hl
      refine lv_iload hx hb dL_law_48 (lv_at hl 5 rfl) ?_
      refine lv_bipush (v := 15) hx hb dL_law_50 (by decide) ?_
      refine lv_icmp_ge (tgt := 259) hx hb dL_law_52 (by decide) (fun c => False.elim (by have c : 15 ≤ t := (nI_leI (a := 15) (b := t) (by omega) (by omega)).mp c; omega)) (fun c => ?_)
      have c : ¬ (15 ≤ t) := fun z => c ((nI_leI (a := 15) (b := t) (by omega) (by omega)).mpr z)
      refine lv_aload_n hx hb dL_law_55 rfl (lv_at hl 1 rfl) ?_
      refine lv_aload_n hx hb dL_law_56 rfl (lv_at hl 2 rfl) ?_
      refine lv_aload_n hx hb dL_law_57 rfl (lv_at hl 3 rfl) ?_
      refine lv_iload hx hb dL_law_58 (lv_at hl 4 rfl) ?_
      refine lv_aload_n hx hb dL_law_60 rfl (lv_at hl 0 rfl) ?_
      refine lv_bipush (v := 6) hx hb dL_law_61 (by decide) ?_
      refine lv_iload hx hb dL_law_63 (lv_at hl 5 rfl) ?_
      refine lv_imul hx hb dL_law_65 ?_
      refine il_ti (nI (6 * t)) (pk_mul 6 t) ?_
      refine il_ri hw (il_rS (n := 6) (As := [.ref d, .ref ar, .ref am, .int (nI made), .ref (il_b G), .int (nI (6 * t))]) (rest := []) ⟨hx, hb, hml, hown, hts⟩ (met_goes hlp (at_ := 6 * t) (by omega) hn96) (lw_S q371 q372 q3 q373) (by decide +kernel) ⟨Nat.le_of_ble_eq_true rfl, Nat.le_of_ble_eq_true rfl⟩ hB hw rfl hl.1 rfl (Nat.le_of_ble_eq_true rfl) dL_law_66 ⟨(by show _ ≤ 1200192; omega), (by show _ ≤ 5500522; omega)⟩) (fun r1 M2 H locs hp hw => ?_)
      obtain ⟨P1, m1, mg1, n1, g1, rfl, hl1⟩ := hp
      have hm1 := hl1.1.made
      refine lv_istore (lv' := [(4, .int (nI m1)), (0, .ref (il_b G)), (1, .ref d), (2, .ref ar), (3, .ref am), (5, .int (nI t))]) hx hb dL_law_69 hl (by decide) rfl (fun ls hl => ?_)
      refine lv_iload hx hb dL_law_71 (lv_at hl 0 rfl) ?_
      refine lv_if_ge (tgt := 78) hx hb dL_law_73 (by decide) (fun c1 => ?_) (fun c1 => False.elim (by have c1 : ¬ (0 ≤ m1) := fun z => c1 ((nI_leI (a := 0) (b := m1) (by omega) (by omega)).mpr z); omega))
      have c1 : 0 ≤ m1 := (nI_leI (a := 0) (b := m1) (by omega) (by omega)).mp c1
      refine W.widen (k := (140 + 60 * t)) (n := (9000 + 12000 * t)) (by omega) (by omega) ?_
      refine law_checks hLF hw hl1 (by omega) (fun M3 H locs ls hl3 hw hl => ?_) (lv_sub hl [1, 2, 3, 4, 0, 5] rfl)
      refine lv_iinc (v := nI (t + 1)) (lv' := [(5, .int (nI (t + 1))), (0, .ref (il_b G)), (1, .ref d), (2, .ref ar), (3, .ref am), (4, .int (nI m1))]) hx hb dL_law_253 hl (k := 5) rfl (by exact nI_1 t) (by decide) rfl (fun ls hl => ?_)
      refine lv_goto (tgt := 48) hx hb dL_law_256 (by decide) ?_
      refine W.widen (k := (100 + 60 * (t + 1))) (n := (1000 + 12000 * (t + 1))) (by omega) (by omega) ?_
      exact ih (t + 1) P1 m1 mg1 n1 g1 (by omega) M3 hl3 _ _ hw ls (lv_sub hl [1, 2, 3, 4, 5, 0] rfl)
  exact loop 15 0 P made mg n g (by omega) M hlaw _ _ hw ls (lv_sub hl [0, 1, 2, 3, 4, 5] rfl)
/-- the law's rows being made: i of one number each -/
def il_lini (G : il_G) (P : Nat → Prop) (M : il_M) (d ar i : Nat) : Prop := il_desk G P M d 0 (fun _ => 0) (fun _ => 1) (fun k _ => (nI k).toInt64) ∧ P ar ∧ ∃ lr, M ar = some (il_eL G 4 lr) ∧ ∀ k, k < i → ∃ q f, lr k = some q ∧ P q ∧ M q = some (il_eJ G 1 f) ∧ f 0 = (nI k).toInt64
theorem il_lini.next {G : il_G} {P : Nat → Prop} {M : il_M} {d ar i q : Nat} {lr : Nat → Option Nat} {f : Nat → Int64} (h1 : il_desk G P M d 0 (fun _ => 0) (fun _ => 1) (fun k _ => (nI k).toInt64)) (h2 : P ar) (h3 : M ar = some (il_eL G 4 lr)) (h4 : ∀ k, k < i → ∃ q f, lr k = some q ∧ P q ∧ M q = some (il_eJ G 1 f) ∧ f 0 = (nI k).toInt64) (hq : M q = none) (hf : f 0 = (nI i).toInt64) : il_lini G (fun x => P x ∨ x = q) (il_up (il_up M q (il_eJ G 1 f)) ar (il_eL G 4 (va_up lr i (some q)))) d ar (i + 1) := by
  have hqa : q ≠ ar := Ne.symm (il_new hq h3)
  refine ⟨(h1.new hq).up (Or.inl h2), Or.inl h2, _, il_up_eq _ _ _, fun k hk => ?_⟩
  by_cases z : k = i
  · subst z
    exact ⟨q, f, va_up_self _ _ _, Or.inr rfl, il_up_keep hqa (il_up_eq _ _ _), hf⟩
  · obtain ⟨q', f', r1, r2, r3, r4⟩ := h4 k (by omega)
    exact ⟨q', f', by rw [va_up_ne _ _ z]; exact r1, Or.inl r2, il_up_keep (il_ne r3 h3 (by simp)) (il_up_keep (il_new hq r3) r3), r4⟩
set_option maxHeartbeats 4000000 in
set_option maxRecDepth 100000 in
/-- the law: the beginning -/
theorem law_init {l : Launch} {G : il_G} {p : Program} {e : Env} {s : State} {m : MethodId} {below : List Frame} {meth : Method} {cd : Code} {M : il_M} {H : Heap} {locs : List Loc} {ls : Array Slot}  (hLF : il_LF G p s m meth cd) (hw : il_W G s M s.heap []) (hover : (Cond.arrayOver (.array .long)).before #[Value.ref (il_b G)] s = true) (hl : lv_has ls 18 [(0, .ref (il_b G))]) : W p l e room_1 s m #[Value.ref (il_b G)] below meth cd s.heap [] 0 0 (lw_Z below #[Value.ref (il_b G)] s) (F0 m 0 ls []) := by
  obtain ⟨hx, hb, hr, hlk, hml, hown, hts, hB, hA, hn96⟩ := id hLF
  refine il_newO (ci := 0) (fs := [.null, .int 0, .null]) (C := RX1) (T := TX1) (N := 3) hx hb hts in_X1 tyX1 tyX1_ok hown (hts _ q20) (hts _ q21) (hts _ q4) hB hw rfl (fun j hj => by rcases (show j = 0 ∨ j = 1 ∨ j = 2 by omega) with rfl | rfl | rfl <;> rfl) (Nat.le_of_ble_eq_true rfl) (Nat.le_of_ble_eq_true rfl) dL_law_0 (fun d H locs hn_d hw => ?_)
  have hw : il_W G s (il_up M d (.inr (0, [.null, .int 0, .null]))) H locs := hw
  have h1 : il_up M d (.inr (0, [.null, .int 0, .null])) d = some (.inr (0, [.null, .int 0, .null])) := il_up_eq _ _ _
  generalize eM1 : il_up M d (.inr (0, [.null, .int 0, .null])) = M1 at hw h1
  refine lv_dup hx hb dL_law_3 rfl ?_
  refine il_rv hw (il_rI (n := 0) (h := d) (As := []) (rest := [.ref d]) ⟨hx, hb, hml, hown, hts⟩ (met_dinit (mg := fun _ => 0) h1) (lw_meth q24) (hts _ q4) (hts _ q22) (hts _ q23) rfl (by decide +kernel) ⟨Nat.le_of_ble_eq_true rfl, Nat.le_of_ble_eq_true rfl⟩ hB hw rfl hl.1 rfl (Nat.le_of_ble_eq_true rfl) dL_law_4 ⟨(Nat.le_of_ble_eq_true rfl), (Nat.le_of_ble_eq_true rfl)⟩) (fun M2 H locs hp hw => ?_)
  have hdesk2 := hp
  refine lv_astore_n (lv' := [(1, .ref d), (0, .ref (il_b G))]) hx hb dL_law_7 rfl hl (by decide) rfl (fun ls hl => ?_)
  refine lv_iconst (v := 4) hx hb dL_law_8 (by decide) ?_
  refine il_newL (n := 4) hx hb hown (hts _ q403) hover hB hw (by omega) rfl (Nat.le_of_ble_eq_true rfl) (Nat.le_of_ble_eq_true rfl) dL_law_9 (fun ar H locs hn_ar hw => ?_)
  have hw : il_W G s (il_up M2 ar (il_eL G 4 (fun _ => none))) H locs := hw
  have har : il_up M2 ar (il_eL G 4 (fun _ => none)) ar = some (il_eL G 4 (fun _ => none)) := il_up_eq _ _ _
  generalize eM3 : il_up M2 ar (il_eL G 4 (fun _ => none)) = M3 at hw har
  have hlp : il_lini G (fun q => False ∨ q = ar) M3 d ar 0 := ⟨by rw [← eM3]; exact hdesk2.new hn_ar, Or.inr rfl, _, har, fun k hk => absurd hk (by omega)⟩
  clear har eM3
  refine W.widen (k := 13) (n := 77) (by omega) (by omega) ?_
  refine lv_astore_n (lv' := [(2, .ref ar), (1, .ref d), (0, .ref (il_b G))]) hx hb dL_law_12 rfl hl (by decide) rfl (fun ls hl => ?_)
  refine lv_iconst (v := 0) hx hb dL_law_13 (by decide) ?_
  refine lv_istore_n (lv' := [(3, .int 0), (2, .ref ar), (1, .ref d), (0, .ref (il_b G))]) hx hb dL_law_14 rfl hl (by decide) rfl (fun ls hl => ?_)
  have loop : ∀ (k : Nat) (i : Nat) (P : Nat → Prop), (i + k = 4) → ∀ (M4 : il_M), (il_lini G P M4 d ar i) → ∀ (H : Heap) (locs : List Loc), il_W G s M4 H locs → ∀ ls : Array Slot, lv_has ls 18 [(0, .ref (il_b G)), (1, .ref d), (2, .ref ar), (3, .int (nI i))] → W p l e room_1 s m #[Value.ref (il_b G)] below meth cd H locs (13 + i) (77 + i) (lw_Z below #[Value.ref (il_b G)] s) (F0 m 15 ls []) := by
    intro k
    induction k with
    | zero =>
      intro i P hik M4 hlp H locs hw ls hl
      obtain ⟨hdesk, hPa, lr, har, hlr⟩ := hlp
      refine lv_iload_n hx hb dL_law_15 rfl (lv_at hl 3 rfl) ?_
      refine lv_iconst (v := 4) hx hb dL_law_16 (by decide) ?_
      refine lv_icmp_ge (tgt := 37) hx hb dL_law_17 (by decide) (fun c => ?_) (fun c => False.elim (by have c : ¬ (4 ≤ i) := fun z => c ((nI_leI (a := 4) (b := i) (by omega) (by omega)).mpr z); omega))
      have c : 4 ≤ i := (nI_leI (a := 4) (b := i) (by omega) (by omega)).mp c
      refine lv_bipush (v := 96) hx hb dL_law_37 (by decide) ?_
      refine il_newJ (n := 96) hx hb hts hB hw (by omega) rfl (by show _ ≤ 1200192; omega) (by show _ ≤ 5500522; omega) dL_law_39 (fun am H locs hn_am hw => ?_)
      have hw : il_W G s (il_up M4 am (il_eJ G 96 (fun _ => 0))) H locs := hw
      have har := il_up_keep (a := am) (e := (il_eJ G 96 (fun _ => 0))) (il_new hn_am har) har
      have ham : il_up M4 am (il_eJ G 96 (fun _ => 0)) am = some (il_eJ G 96 (fun _ => 0)) := il_up_eq _ _ _
      generalize eM5 : il_up M4 am (il_eJ G 96 (fun _ => 0)) = M5 at hw har ham
      have hlaw : il_law G (fun q => P q ∨ q = am) M5 d ar am 0 (fun _ => 0) (fun _ => 1) (fun k _ => (nI k).toInt64) := ⟨by rw [← eM5]; exact hdesk.new hn_am, lr, fun _ => 0, Or.inl hPa, Or.inr rfl, har, fun k hk => by
          obtain ⟨q, f, r1, r2, r3, r4⟩ := hlr k (by omega)
          exact ⟨q, f, r1, Or.inl r2, il_new hn_am r3, by rw [← eM5]; exact il_up_keep (il_new hn_am r3) r3, fun j hj => by
            have hj1 : j < 1 := hj
            have hj0 : j = 0 := by omega
            rw [hj0]
            exact r4⟩, ham, fun j hj => absurd hj (by omega)⟩
      refine lv_astore_n (lv' := [(3, .ref am), (0, .ref (il_b G)), (1, .ref d), (2, .ref ar)]) hx hb dL_law_41 rfl hl (by decide) rfl (fun ls hl => ?_)
      refine lv_iconst (v := 0) hx hb dL_law_42 (by decide) ?_
      refine lv_istore (lv' := [(4, .int 0), (3, .ref am), (0, .ref (il_b G)), (1, .ref d), (2, .ref ar)]) hx hb dL_law_43 hl (by decide) rfl (fun ls hl => ?_)
      refine lv_iconst (v := 0) hx hb dL_law_45 (by decide) ?_
      refine lv_istore (lv' := [(5, .int 0), (4, .int 0), (3, .ref am), (0, .ref (il_b G)), (1, .ref d), (2, .ref ar)]) hx hb dL_law_46 hl (by decide) rfl (fun ls hl => ?_)
      refine W.widen (k := (100 + 60 * 0)) (n := (1000 + 12000 * 0)) (by omega) (by omega) ?_
      exact law_turns hLF hw hlaw (lv_sub hl [3, 4, 5, 2, 1, 0] rfl)
    | succ k ih =>
      intro i P hik M4 hlp H locs hw ls hl
      obtain ⟨hdesk, hPa, lr, har, hlr⟩ := hlp
      have har0 := har
      refine lv_iload_n hx hb dL_law_15 rfl (lv_at hl 3 rfl) ?_
      refine lv_iconst (v := 4) hx hb dL_law_16 (by decide) ?_
      refine lv_icmp_ge (tgt := 37) hx hb dL_law_17 (by decide) (fun c => False.elim (by have c : 4 ≤ i := (nI_leI (a := 4) (b := i) (by omega) (by omega)).mp c; omega)) (fun c => ?_)
      have c : ¬ (4 ≤ i) := fun z => c ((nI_leI (a := 4) (b := i) (by omega) (by omega)).mpr z)
      refine lv_aload_n hx hb dL_law_20 rfl (lv_at hl 2 rfl) ?_
      refine lv_iload_n hx hb dL_law_21 rfl (lv_at hl 3 rfl) ?_
      refine lv_iconst (v := 1) hx hb dL_law_22 (by decide) ?_
      refine il_newJ (n := 1) hx hb hts hB hw (by omega) rfl (by show _ ≤ 1200192; omega) (by show _ ≤ 5500522; omega) dL_law_23 (fun q H locs hn_q hw => ?_)
      have hw : il_W G s (il_up M4 q (il_eJ G 1 (fun _ => 0))) H locs := hw
      have har := il_up_keep (a := q) (e := (il_eJ G 1 (fun _ => 0))) (il_new hn_q har) har
      have hq : il_up M4 q (il_eJ G 1 (fun _ => 0)) q = some (il_eJ G 1 (fun _ => 0)) := il_up_eq _ _ _
      generalize eM5 : il_up M4 q (il_eJ G 1 (fun _ => 0)) = M5 at hw har hq
      refine lv_dup hx hb dL_law_25 rfl ?_
      refine lv_iconst (v := 0) hx hb dL_law_26 (by decide) ?_
      refine lv_iload_n hx hb dL_law_27 rfl (lv_at hl 3 rfl) ?_
      refine lv_i2l hx hb dL_law_28 rfl ?_
      refine il_last (i := 0) hx hb hB hw hq (by omega) (by omega) rfl dL_law_29 (fun H locs hw => ?_)
      have hw : il_W G s (il_up M5 q (il_eJ G 1 (vp_updL (fun _ => 0) 0 (((nI i) : Int32).toInt64)))) H locs := hw
      have har := il_up_keep (a := q) (e := (il_eJ G 1 (vp_updL (fun _ => 0) 0 (((nI i) : Int32).toInt64)))) (il_ne har hq (by simp)) har
      have hq : il_up M5 q (il_eJ G 1 (vp_updL (fun _ => 0) 0 (((nI i) : Int32).toInt64))) q = some (il_eJ G 1 (vp_updL (fun _ => 0) 0 (((nI i) : Int32).toInt64))) := il_up_eq _ _ _
      generalize eM6 : il_up M5 q (il_eJ G 1 (vp_updL (fun _ => 0) 0 (((nI i) : Int32).toInt64))) = M6 at hw har hq
      refine il_gast (i := i) hx hb hB hw har hq (by omega) (by omega) rfl dL_law_30 (fun H locs hw => ?_)
      have hw : il_W G s (il_up M6 ar (il_eL G 4 (va_up lr i (some q)))) H locs := hw
      have hq := il_up_keep (a := ar) (e := (il_eL G 4 (va_up lr i (some q)))) (il_ne hq har (by simp)) hq
      have har : il_up M6 ar (il_eL G 4 (va_up lr i (some q))) ar = some (il_eL G 4 (va_up lr i (some q))) := il_up_eq _ _ _
      generalize eM7 : il_up M6 ar (il_eL G 4 (va_up lr i (some q))) = M7 at hw hq har
      refine lv_iinc (v := nI (i + 1)) (lv' := [(3, .int (nI (i + 1))), (0, .ref (il_b G)), (1, .ref d), (2, .ref ar)]) hx hb dL_law_31 hl (k := 3) rfl (by exact nI_1 i) (by decide) rfl (fun ls hl => ?_)
      refine lv_goto (tgt := 15) hx hb dL_law_34 (by decide) ?_
      refine W.widen (k := (13 + (i + 1))) (n := (77 + (i + 1))) (by omega) (by omega) ?_
      exact ih (i + 1) (fun x => P x ∨ x = q) (by omega) M7 (by rw [← eM7, ← eM6, ← eM5, il_up_up]; exact il_lini.next hdesk hPa har0 hlr hn_q pk_uLs) _ _ hw ls (lv_sub hl [1, 2, 3, 0] rfl)
  exact loop 4 0 _ (by omega) M3 hlp _ _ hw ls (lv_sub hl [3, 2, 1, 0] rfl)
end
section
/-- from the entry, for every script of at most 96 ints, the law comes to its end with true -/
theorem whole_start {p : Program} {e : Env} {s : State} {m : MethodId} {below : List Frame} {meth : Method} {c : Code} (l : Launch) (hflags : l.flags = flags0) {b L : Nat} {xs : Nat → Int32} (hL : L ≤ 96) (C0 : lw_At p s m meth c b L xs) : W p l e room_1 s m #[Value.ref b] below meth c s.heap [] 0 0 (lw_Z below #[Value.ref b] s) (entryFrame m ([Value.ref b] : List Value).toArray 18) := by
  obtain ⟨hx, hb, hr, hml, hown, hts0, hX, hbl, hlk, hgv⟩ := C0
  obtain ⟨G, hB, hP, hA, rfl, rfl⟩ := il_start hts0 hX hbl hgv
  have hts : ∀ w ∈ lw_all, w.before #[Value.ref (il_b G)] s = true := fun w h => hts0 w (lw_all_tbl h)
  have hl := lv_entry ([.ref (il_b G)]) (n := 18) (Nat.le_of_ble_eq_true rfl)
  rw [lg_entry_eq]
  exact law_init (M := fun _ => none) (H := s.heap) (locs := []) ⟨hx, hb, hr, hlk, hml, hown, hts, hB, hA, hL⟩ ⟨hP, va_S.rf⟩ (hts0 _ q404) hl
set_option maxHeartbeats 4000000 in
theorem lw_walk (l : Launch) (hflags : l.flags = flags0) (b : Addr) (xs : List Int32) : MetFree l x (headSpec (Jvm.Cond.code x code maxLocals ret :: tables_1) room_1) (lw_P b xs) (fun _ _ _ _ _ => True) lw_Q := by
  refine MetFree.of_bodyS (code := code) (maxLocals := maxLocals) (ret := ret) (by decide) ?_ ?_
  · intro args s m h hn
    obtain ⟨meth, c, h1, h2, h3, h4, h5, h6, -, -⟩ := Cond.code_spec hn (atoms_spec (ws := Jvm.Cond.code x code maxLocals ret :: tables_1) h _ List.mem_cons_self)
    exact ⟨meth, c, h1, h2, h3, h4, h5, h6⟩
  · intro p e s m args below meth c s₁ B hml0 hP _
    obtain ⟨rfl, hx, hbd, hgv⟩ := hP
    obtain ⟨scr, harrAt, hlist, hof, hsmall⟩ := hx
    obtain ⟨hcb, hkn, -, -⟩ := State.arrayAt?_spec harrAt
    have hown : s.vm.findClass R_law = some m.cls := findClass_of_methodNamed B.named
    have hts0 : ∀ c ∈ (Jvm.Cond.code x code maxLocals ret :: tables_1), c.before #[Value.ref b] s = true := atoms_spec (ws := Jvm.Cond.code x code maxLocals ret :: tables_1) B.pre
    have hts : ∀ w ∈ lw_tbl, w.before #[Value.ref b] s = true := k2_hts_sels lw_privs (fun w hw => hts0 w (List.mem_cons_of_mem _ hw)) lw_privs_ok
    have hml : c.maxLocals = 18 := B.maxLocals_eq (hts0 _ List.mem_cons_self)
    have X₀ : Stand p l e room_1 s m #[Value.ref b] below meth c s₁ [] 0 0 := Stand.of_body B
    have hh0 : s₁.heap = s.heap := by rw [B.state]; rfl
    have hsz : scr.slots.size = xs.length := by rw [← Array.length_toList, hlist, List.length_map]
    have hval : ∀ j : Nat, j < xs.length → scr.slots[j]? = some (.int (xs.getD j 0)) := fun j hj => by
      rw [← Array.getElem?_toList, hlist]
      simp [hj]
    have hbl : b < s.heap.size := (Array.getElem?_eq_some_iff.mp hcb).1
    have hX : va_X b xs.length (fun j => xs.getD j 0) s s.heap := ⟨scr, hcb, hof, hkn, hsz, hval⟩
    have K : W p l e room_1 s m #[Value.ref b] below meth c s₁.heap [] 0 0 (lw_Z below #[Value.ref b] s) (entryFrame m ([Value.ref b] : List Value).toArray 18) := by
      rw [hh0]
      exact whole_start l hflags hbd ⟨B.exec, B.bytes, B.returns, hml, hown, hts, hX, hbl, B.notSynchronized, hgv⟩
    obtain ⟨t, a1, o, b1, b2, b3⟩ := K s₁ rfl X₀
    exact ⟨t, o, a1, b1, b2, b3⟩
theorem lw_pre_spec {args : Array Value} {s : State} (h : (Jvm.Cond.and given_1 narrow_1).before args s = true) (hr : rest_1_c.before args s = true) : ∃ (b : Addr) (xs : List Int32), lw_P b xs args s := by
  have hs := flat_of_before _ h
  have hq := flat_of_before _ hr
  have hc : (Cond.count 1).before args s = true := hs _ (by decide +kernel)
  have harr : (Cond.arrayOf (.arg 0) .int).before args s = true := hs _ (by decide +kernel)
  have hle : (Cond.le (.length (.arg 0)) (.int 96)).before args s = true := hs _ (by decide +kernel)
  have hlen : (Cond.isInt (.length (.arg 0))).before args s = true := hq _ (by decide +kernel)
  have hall : (Cond.all (.arg 0) (.isInt (.elem (.arg 0) (.index 0)))).before args s = true := hq _ (by decide +kernel)
  obtain ⟨b, xs, hb, hx⟩ := State.ints_of_pre rfl harr hlen hall
  have hsm : xs.length < 2 ^ 31 := hx.choose_spec.2.2.2
  have hev : (Term.length (.arg 0)).eval args s none [] s = some (.int xs.length.toInt32) := hx.length_eval hb
  have hv := Cond.le_ints hev (show (Term.int 96).eval args s none [] s = some (.int 96) from rfl)
  have hd : xs.length.toInt32 ≤ 96 := by
    simpa [Cond.before, Cond.holds, hv] using hle
  have hN : xs.length ≤ 96 := (Int32.ofNat_le_ofNat hsm (by decide)).mp (show Int32.ofNat xs.length ≤ Int32.ofNat 96 from hd)
  exact ⟨b, xs, Cond.one_arg hc (show args[0]? = some (.ref b) from hb), hx, hN, h⟩
theorem lw_comes (l : Launch) (hflags : l.flags = flags0) : Comes l x (Jvm.Cond.code x code maxLocals ret :: tables_1) room_1 (fun tb e args s => Calls_1 tb e args s ∧ rest_1 tb e args s ∧ Pre_1 tb e args s)
    (fun _ _ args s o t => lw_Q args s o t) := by
  intro p e ha hc hk s m args below hf hfit hheap happ hpre
  obtain ⟨b, xs, hP⟩ := lw_pre_spec hpre.2.2 hpre.2.1
  obtain ⟨k, o, h1, h2, h3, hQ⟩ := lw_walk l hflags b xs p e ha hc hk s m args below hf ((Spec.applies_iff_loose hf).mp happ).1 hP trivial
  exact ⟨k, o, h1, h2, h3, hQ⟩
theorem lw_frame {s t : State} {o : Outcome} {args : Array Value} (h : Framed s o t [] 1200192 5500522) :
    Framed s o t (fieldLocs frame_1_writes args s ++ arrayLocs frame_1_arrays args s ++ staticLocs frame_1_statics s) 1200192 5500522 := h
theorem lw_limb (L : Cond) (hL : ∀ (args : Array Value) (s t : State), L.after args s (.returned (some (.int 1))) t = true) :
    ArmFor flags0 classFile x code maxLocals ret World_1 tables_1 room_1 Calls_1 rest_1 Pre_1
      (fun tb e a s o t => postC L tb e a s o t ∧ Framed s o t (fieldLocs frame_1_writes a s ++ arrayLocs frame_1_arrays a s ++ staticLocs frame_1_statics s) 1200192 5500522) := by
  intro l hflags _ _ p e ha hc hk s m args below hf hfit hheap happ hpre
  obtain ⟨k, o, h1, h2, h3, rfl, hF⟩ := lw_comes l hflags p e ha hc hk s m args below hf hfit hheap happ hpre
  exact ⟨k, _, h1, h2, h3, hL args s _, lw_frame hF⟩
theorem i_vc : Claimed_1_1 ∧ Claimed_1_2 := ⟨lw_limb limb_1_1 (fun args s t => by simp [limb_1_1, Cond.after, Cond.holds, Cond.value]), lw_limb limb_1_2 (fun args s t => Cond.after_iff.mpr (by
  first | (rw [show limb_1_2 = Cond.eq .result (.int 1) from rfl, Cond.eq_ints (x := 1) (y := 1) rfl rfl]; simp; done) | (simp [limb_1_2, Cond.value, Term.eval]; done)))⟩
end
