section
-- ===== PART A: goes FIRST, ahead of the names: the tables' words, and 'selects' of the private methods out of them =====
/-- a private method of a class that the tables say can be made, by its rows of tables_1 -/
def lw_okq (q : MethodName × Nat) : Prop := (q.1.cls ≠ "java/lang/invoke/MethodHandle" ∧ q.1.cls ≠ "java/lang/invoke/VarHandle") ∧ Cond.instantiable q.1.cls q.2 ∈ tables_1 ∧ Cond.privateMethod q.1 ∈ tables_1 ∧ Cond.instanceMethod q.1 ∈ tables_1
set_option maxRecDepth 100000
theorem lw_t1 {w : Cond} (h : w ∈ tables_1_1) : w ∈ tables_1 := List.mem_append_left _ h
theorem lw_t2 {w : Cond} (h : w ∈ tables_1_2) : w ∈ tables_1 := List.mem_append_right _ h
theorem lw_p0 : lw_okq (⟨"IntArrayPriorityQueue", "ensureNonEmpty", "()V"⟩, 5) := ⟨⟨by decide +kernel, by decide +kernel⟩, lw_t1 (List.mem_of_getElem? (i := 20) rfl), lw_t1 (List.mem_of_getElem? (i := 92) rfl), lw_t1 (List.mem_of_getElem? (i := 93) rfl)⟩
theorem lw_p1 : lw_okq (⟨"java/lang/Throwable", "fillInStackTrace", "(I)Ljava/lang/Throwable;"⟩, 6) := ⟨⟨by decide +kernel, by decide +kernel⟩, lw_t1 (List.mem_of_getElem? (i := 132) rfl), lw_t1 (List.mem_of_getElem? (i := 130) rfl), lw_t1 (List.mem_of_getElem? (i := 131) rfl)⟩
theorem lw_p2 : lw_okq (⟨"IntArrayPriorityQueue", "findFirst", "()I"⟩, 5) := ⟨⟨by decide +kernel, by decide +kernel⟩, lw_t1 (List.mem_of_getElem? (i := 20) rfl), lw_t1 (List.mem_of_getElem? (i := 157) rfl), lw_t1 (List.mem_of_getElem? (i := 158) rfl)⟩
theorem lw_p3 : lw_okq (⟨"ArrayQueueDeskModel", "put", "(I)V"⟩, 2) := ⟨⟨by decide +kernel, by decide +kernel⟩, lw_t1 (List.mem_of_getElem? (i := 199) rfl), lw_t1 (List.mem_of_getElem? (i := 216) rfl), lw_t1 (List.mem_of_getElem? (i := 217) rfl)⟩
theorem lw_p4 : lw_okq (⟨"ArrayQueueDeskModel", "first", "()I"⟩, 2) := ⟨⟨by decide +kernel, by decide +kernel⟩, lw_t1 (List.mem_of_getElem? (i := 199) rfl), lw_t1 (List.mem_of_getElem? (i := 232) rfl), lw_t1 (List.mem_of_getElem? (i := 233) rfl)⟩
def lw_privs_1 : List (MethodName × Nat) := [(⟨"IntArrayPriorityQueue", "ensureNonEmpty", "()V"⟩, 5), (⟨"java/lang/Throwable", "fillInStackTrace", "(I)Ljava/lang/Throwable;"⟩, 6), (⟨"IntArrayPriorityQueue", "findFirst", "()I"⟩, 5), (⟨"ArrayQueueDeskModel", "put", "(I)V"⟩, 2), (⟨"ArrayQueueDeskModel", "first", "()I"⟩, 2)]
theorem lw_r1 : ∀ q ∈ lw_privs_1, lw_okq q := List.forall_mem_cons.mpr ⟨lw_p0, List.forall_mem_cons.mpr ⟨lw_p1, List.forall_mem_cons.mpr ⟨lw_p2, List.forall_mem_cons.mpr ⟨lw_p3, List.forall_mem_cons.mpr ⟨lw_p4, fun _ h => absurd h List.not_mem_nil⟩⟩⟩⟩⟩
def lw_privs : List (MethodName × Nat) := lw_privs_1
def lw_tbl : List Cond := k2_sels lw_privs ++ tables_1
theorem lw_privs_ok : ∀ q ∈ lw_privs, lw_okq q := lw_r1
-- ===== ONE list of words for every method: the tables' words that hold all through a run =====
def lw_all : List Cond := lw_tbl.filter goodWord
/-- a word of the tables by its place: claim/WORDS.tsv -/
theorem lw_w {w : Cond} (i : Nat) (h : lw_tbl[i]? = some w) (g : goodWord w = true) : w ∈ lw_all := List.mem_filter.mpr ⟨List.mem_of_getElem? h, g⟩
theorem lw_all_tbl {w : Cond} (h : w ∈ lw_all) : w ∈ lw_tbl := (List.mem_filter.mp h).1
theorem lw_self : GoodIn lw_all lw_all := fun w h => ⟨h, good_of_word (List.mem_filter.mp h).2⟩
/-- a class's field words, by their places -/
theorem lw_in (ws : List Cond) (ps : List Nat) (hp : ws = ps.filterMap (fun i => lw_tbl[i]?)) (hg : ws.all goodWord = true) : ∀ w ∈ ws, w ∈ lw_all := by
  intro w h
  have h1 := List.all_eq_true.mp hg w h
  rw [hp] at h
  obtain ⟨i, -, hi⟩ := List.mem_filterMap.mp h
  exact lw_w i hi h1
/-- the words of a contract for the method y with code b, L locals, answer r -/
abbrev ws_ (y : MethodName) (b : ByteArray) (L : Nat) (r : Option FieldType) : List Cond := Cond.code y b L r :: lw_all
theorem lw_meth {y : MethodName} {b : ByteArray} {L : Nat} {r : Option FieldType} (h : Cond.code y b L r ∈ lw_all) : GoodIn lw_all (ws_ y b L r) := by
  intro w hw
  rcases List.mem_cons.mp hw with e | e
  · rw [e]
    exact lw_self _ h
  · exact lw_self _ e
theorem lw_app {a c : List Cond} (ha : ∀ w ∈ a, w ∈ lw_all) (hc : GoodIn lw_all c) : GoodIn lw_all (a ++ c) := by
  intro w hw
  rcases List.mem_append.mp hw with e | e
  · exact lw_self w (ha w e)
  · exact hc w e
/-- what a call through an object asks: cwV n hts (lw_V ..) -/
theorem lw_V {own : String} {idx : Nat} {C : String} {y : MethodName} {b : ByteArray} {L : Nat} {r : Option FieldType} (h1 : Cond.methodLink own idx y ∈ lw_all) (h2 : Cond.instanceMethod y ∈ lw_all) (h3 : Cond.selects C y y ∈ lw_all) (h4 : Cond.initialized C ∈ lw_all) (h5 : Cond.code y b L r ∈ lw_all) : GoodIn lw_all (wsV own idx C y (ws_ y b L r)) := by
  refine lw_app ?_ (lw_meth h5)
  intro w hw
  simp only [List.mem_cons, List.not_mem_nil, or_false] at hw
  rcases hw with e | e | e | e
  · rw [e]; exact h1
  · rw [e]; exact h2
  · rw [e]; exact h3
  · rw [e]; exact h4
/-- what a static call asks: va_cwS n hts (lw_S ..) -/
theorem lw_S {own : String} {idx : Nat} {y : MethodName} {b : ByteArray} {L : Nat} {r : Option FieldType} (h1 : Cond.methodLink own idx y ∈ lw_all) (h2 : Cond.static y ∈ lw_all) (h3 : Cond.initialized y.cls ∈ lw_all) (h4 : Cond.code y b L r ∈ lw_all) : GoodIn lw_all (va_wsS own idx y (ws_ y b L r)) := by
  refine lw_app ?_ (lw_meth h4)
  intro w hw
  simp only [List.mem_cons, List.not_mem_nil, or_false] at hw
  rcases hw with e | e | e
  · rw [e]; exact h1
  · rw [e]; exact h2
  · rw [e]; exact h3
/-- the words of a contract for a method WITH HANDLERS (hh: its table) -/
abbrev wsW_ (y : MethodName) (b : ByteArray) (L : Nat) (r : Option FieldType) (hh : List (Nat × Nat × Nat × Nat)) : List Cond := Cond.codeWith y b L r hh :: lw_all
theorem lw_methW {y : MethodName} {b : ByteArray} {L : Nat} {r : Option FieldType} {hh : List (Nat × Nat × Nat × Nat)} (h : Cond.codeWith y b L r hh ∈ lw_all) : GoodIn lw_all (wsW_ y b L r hh) := by
  intro w hw
  rcases List.mem_cons.mp hw with e | e
  · rw [e]
    exact lw_self _ h
  · exact lw_self _ e
/-- any list of words by their places (lw_in), good -/
theorem lw_good {ws : List Cond} (h : ∀ w ∈ ws, w ∈ lw_all) : GoodIn lw_all ws := fun w hw => lw_self w (h w hw)
/-- what a call of a method with handlers asks: vx_cwVW n hts (lw_VW ..), vx_cwSW n hts (lw_SW ..) -/
theorem lw_VW {own : String} {idx : Nat} {C : String} {y : MethodName} {b : ByteArray} {L : Nat} {r : Option FieldType} {hh : List (Nat × Nat × Nat × Nat)} (h1 : Cond.methodLink own idx y ∈ lw_all) (h2 : Cond.instanceMethod y ∈ lw_all) (h3 : Cond.selects C y y ∈ lw_all) (h4 : Cond.initialized C ∈ lw_all) (h5 : Cond.codeWith y b L r hh ∈ lw_all) : GoodIn lw_all (wsV own idx C y (wsW_ y b L r hh)) := by
  refine lw_app ?_ (lw_methW h5)
  intro w hw
  simp only [List.mem_cons, List.not_mem_nil, or_false] at hw
  rcases hw with e | e | e | e
  · rw [e]; exact h1
  · rw [e]; exact h2
  · rw [e]; exact h3
  · rw [e]; exact h4
theorem lw_SW {own : String} {idx : Nat} {y : MethodName} {b : ByteArray} {L : Nat} {r : Option FieldType} {hh : List (Nat × Nat × Nat × Nat)} (h1 : Cond.methodLink own idx y ∈ lw_all) (h2 : Cond.static y ∈ lw_all) (h3 : Cond.initialized y.cls ∈ lw_all) (h4 : Cond.codeWith y b L r hh ∈ lw_all) : GoodIn lw_all (va_wsS own idx y (wsW_ y b L r hh)) := by
  refine lw_app ?_ (lw_methW h4)
  intro w hw
  simp only [List.mem_cons, List.not_mem_nil, or_false] at hw
  rcases hw with e | e | e
  · rw [e]; exact h1
  · rw [e]; exact h2
  · rw [e]; exact h3
/-- a word by its place in its run of the tables -/
theorem lw_at {r : List Cond} (hr : ∀ w ∈ r, w ∈ lw_tbl) {w : Cond} (i : Nat) (h : r[i]? = some w) : w ∈ lw_tbl := hr w (List.mem_of_getElem? h)
theorem lw_g {w : Cond} (h : w ∈ lw_tbl) (g : goodWord w = true) : w ∈ lw_all := List.mem_filter.mpr ⟨h, g⟩
theorem lw_ms : ∀ w ∈ k2_sels lw_privs, w ∈ lw_tbl := fun w h => show w ∈ k2_sels lw_privs ++ tables_1 from List.mem_append_left _ h
theorem lw_m1 : ∀ w ∈ tables_1_1, w ∈ lw_tbl := fun w h => show w ∈ k2_sels lw_privs ++ tables_1 from List.mem_append_right (k2_sels lw_privs) (show w ∈ tables_1 from List.mem_append_left _ h)
theorem lw_m2 : ∀ w ∈ tables_1_2, w ∈ lw_tbl := fun w h => show w ∈ k2_sels lw_privs ++ tables_1 from List.mem_append_right (k2_sels lw_privs) (show w ∈ tables_1 from List.mem_append_right _ h)
theorem qs0 : (Cond.selects "IntArrayPriorityQueue" ⟨"IntArrayPriorityQueue", "ensureNonEmpty", "()V"⟩ ⟨"IntArrayPriorityQueue", "ensureNonEmpty", "()V"⟩) ∈ lw_all := lw_g (lw_at lw_ms 0 rfl) rfl
theorem qs1 : (Cond.selects "java/lang/Throwable" ⟨"java/lang/Throwable", "fillInStackTrace", "(I)Ljava/lang/Throwable;"⟩ ⟨"java/lang/Throwable", "fillInStackTrace", "(I)Ljava/lang/Throwable;"⟩) ∈ lw_all := lw_g (lw_at lw_ms 1 rfl) rfl
theorem qs2 : (Cond.selects "IntArrayPriorityQueue" ⟨"IntArrayPriorityQueue", "findFirst", "()I"⟩ ⟨"IntArrayPriorityQueue", "findFirst", "()I"⟩) ∈ lw_all := lw_g (lw_at lw_ms 2 rfl) rfl
theorem qs3 : (Cond.selects "ArrayQueueDeskModel" ⟨"ArrayQueueDeskModel", "put", "(I)V"⟩ ⟨"ArrayQueueDeskModel", "put", "(I)V"⟩) ∈ lw_all := lw_g (lw_at lw_ms 3 rfl) rfl
theorem qs4 : (Cond.selects "ArrayQueueDeskModel" ⟨"ArrayQueueDeskModel", "first", "()I"⟩ ⟨"ArrayQueueDeskModel", "first", "()I"⟩) ∈ lw_all := lw_g (lw_at lw_ms 4 rfl) rfl
-- ===== end of PART A; then your names; then what follows =====
end
section
/-! DECODE ROWS BY BYTES: one lemma an opcode; a method's code is cut into short pieces once, and a row reads its own piece alone. -/
set_option maxRecDepth 100000
/-- the code has just these bytes from pc on -/
def DkAt (code : ByteArray) (pc : Nat) (bs : List UInt8) : Prop := ∀ (j : Nat) (b : UInt8), bs[j]? = some b → code.data.toList[pc + j]? = some b
/-- the piece W has the bytes bs from its place j on -/
def dkIn (W : List UInt8) (j : Nat) (bs : List UInt8) : Bool := decide ((W.drop j).take bs.length = bs)
theorem dk_seg {l W T : List UInt8} {o o2 : Nat} (h : l.drop o = W ++ T) (n : Nat) (hn : W.length = n) (ho : o + n = o2) : l.drop o2 = T := by
  subst ho
  rw [← List.drop_drop, h, List.drop_left' hn]
theorem dk_at {code : ByteArray} {W T bs : List UInt8} {o pc : Nat} (h : code.data.toList.drop o = W ++ T) (j : Nat) (hp : o + j = pc) (hw : dkIn W j bs = true) : DkAt code pc bs := by
  subst hp
  intro i b e
  have h1 := of_decide_eq_true hw
  have h2 : i < bs.length := (List.getElem?_eq_some_iff.mp e).1
  have h3 : W[j + i]? = some b := by
    rw [← h1, List.getElem?_take, if_pos h2, List.getElem?_drop] at e
    exact e
  have h4 : j + i < W.length := (List.getElem?_eq_some_iff.mp h3).1
  have h5 : (code.data.toList.drop o)[j + i]? = some b := by
    rw [h, List.getElem?_append_left h4]
    exact h3
  rw [List.getElem?_drop, ← Nat.add_assoc] at h5
  exact h5
theorem dk_u1 {A : ByteArray} {p : Nat} {b : UInt8} (h : A.data.toList[p]? = some b) : (Reader.u1 : Reader DecodeError Nat) A p = .ok (b.toNat, p + 1) := by
  obtain ⟨h1, h2⟩ := List.getElem?_eq_some_iff.mp h
  have h3 : p < A.size := by simpa using h1
  have h4 : A[p]'h3 = b := h2
  have e : (Reader.u1 : Reader DecodeError Nat) A p = (if h : p < A.size then .ok (A[p].toNat, p + 1) else .error (HasTruncated.truncated p)) := by
    show (do if h : p < A.size then do set (p + 1); Pure.pure A[p].toNat else MonadExcept.throw (HasTruncated.truncated p) : Reader DecodeError Nat) A p = _
    by_cases hi : p < A.size
    · rw [dif_pos hi, dif_pos hi]; rfl
    · rw [dif_neg hi, dif_neg hi]; rfl
  rw [e, dif_pos h3, h4]
theorem dk_bind {α β : Type} {r : Reader DecodeError α} {f : α → Reader DecodeError β} {A : ByteArray} {p s : Nat} {a : α} (h : r A p = .ok (a, s)) : (r >>= f) A p = f a A s := by
  show (do let (a, s) ← r A p; f a A s : Except DecodeError (β × Nat)) = _
  rw [h]
  rfl
theorem dk_map {α β : Type} {r : Reader DecodeError α} {g : α → β} {A : ByteArray} {p s : Nat} {a : α} (h : r A p = .ok (a, s)) : (g <$> r) A p = .ok (g a, s) := by
  show (do let (a, s) ← r A p; .ok (g a, s) : Except DecodeError (β × Nat)) = _
  rw [h]
  rfl
theorem dk_u2 {A : ByteArray} {p : Nat} {a b : UInt8} (h : A.data.toList[p]? = some a) (h2 : A.data.toList[p + 1]? = some b) : (Reader.u2 : Reader DecodeError Nat) A p = .ok (a.toNat * 256 + b.toNat, p + 2) := by
  show (Reader.u1 >>= fun hi => Reader.u1 >>= fun lo => Pure.pure (hi * 256 + lo) : Reader DecodeError Nat) A p = _
  rw [dk_bind (dk_u1 h), dk_bind (dk_u1 h2)]
  rfl
theorem dk_of {code : ByteArray} {pc n : Nat} {i : Instr} (h : Decoder.instr pc code pc = .ok (i, pc + n)) : decode code pc = .ok (i, n) := by
  have e : decode code pc = (match Decoder.instr pc code pc with | .error x => .error x | .ok (j, s) => .ok (j, s - pc)) := by
    show (do let (j, s) ← Decoder.instr pc code pc; Pure.pure (j, s - pc) : Except DecodeError (Instr × Nat)) = _
    cases Decoder.instr pc code pc <;> rfl
  rw [e, h]
  show Except.ok (i, pc + n - pc) = _
  rw [Nat.add_sub_cancel_left]
theorem dk_1 {code : ByteArray} {pc : Nat} (h : DkAt code pc [1]) : decode code pc = .ok (.aconst_null, 1) := dk_of ((dk_bind (dk_u1 (h 0 _ rfl))).trans rfl)
theorem dk_3 {code : ByteArray} {pc : Nat} (h : DkAt code pc [3]) : decode code pc = .ok (.iconst 0, 1) := dk_of ((dk_bind (dk_u1 (h 0 _ rfl))).trans rfl)
theorem dk_4 {code : ByteArray} {pc : Nat} (h : DkAt code pc [4]) : decode code pc = .ok (.iconst 1, 1) := dk_of ((dk_bind (dk_u1 (h 0 _ rfl))).trans rfl)
theorem dk_5 {code : ByteArray} {pc : Nat} (h : DkAt code pc [5]) : decode code pc = .ok (.iconst 2, 1) := dk_of ((dk_bind (dk_u1 (h 0 _ rfl))).trans rfl)
theorem dk_6 {code : ByteArray} {pc : Nat} (h : DkAt code pc [6]) : decode code pc = .ok (.iconst 3, 1) := dk_of ((dk_bind (dk_u1 (h 0 _ rfl))).trans rfl)
theorem dk_9 {code : ByteArray} {pc : Nat} (h : DkAt code pc [9]) : decode code pc = .ok (.lconst 0, 1) := dk_of ((dk_bind (dk_u1 (h 0 _ rfl))).trans rfl)
theorem dk_16 {code : ByteArray} {pc : Nat} (a : UInt8) (h : DkAt code pc [16, a]) : decode code pc = .ok (.bipush (Reader.signed 8 a.toNat), 2) := dk_of ((dk_bind (dk_u1 (h 0 _ rfl))).trans ((dk_bind (dk_map (dk_u1 (h 1 _ rfl)))).trans rfl))
theorem dk_17 {code : ByteArray} {pc : Nat} (a b : UInt8) (h : DkAt code pc [17, a, b]) : decode code pc = .ok (.sipush (Reader.signed 16 (a.toNat * 256 + b.toNat)), 3) := dk_of ((dk_bind (dk_u1 (h 0 _ rfl))).trans ((dk_bind (dk_map (dk_u2 (h 1 _ rfl) (h 2 _ rfl)))).trans rfl))
theorem dk_20 {code : ByteArray} {pc : Nat} (a b : UInt8) (h : DkAt code pc [20, a, b]) : decode code pc = .ok (.ldc2_w (a.toNat * 256 + b.toNat), 3) := dk_of ((dk_bind (dk_u1 (h 0 _ rfl))).trans ((dk_bind (dk_u2 (h 1 _ rfl) (h 2 _ rfl))).trans rfl))
theorem dk_21 {code : ByteArray} {pc : Nat} (a : UInt8) (h : DkAt code pc [21, a]) : decode code pc = .ok (.iload a.toNat, 2) := dk_of ((dk_bind (dk_u1 (h 0 _ rfl))).trans ((dk_bind (dk_u1 (h 1 _ rfl))).trans rfl))
theorem dk_25 {code : ByteArray} {pc : Nat} (a : UInt8) (h : DkAt code pc [25, a]) : decode code pc = .ok (.aload a.toNat, 2) := dk_of ((dk_bind (dk_u1 (h 0 _ rfl))).trans ((dk_bind (dk_u1 (h 1 _ rfl))).trans rfl))
theorem dk_27 {code : ByteArray} {pc : Nat} (h : DkAt code pc [27]) : decode code pc = .ok (.iload_n 1, 1) := dk_of ((dk_bind (dk_u1 (h 0 _ rfl))).trans rfl)
theorem dk_28 {code : ByteArray} {pc : Nat} (h : DkAt code pc [28]) : decode code pc = .ok (.iload_n 2, 1) := dk_of ((dk_bind (dk_u1 (h 0 _ rfl))).trans rfl)
theorem dk_29 {code : ByteArray} {pc : Nat} (h : DkAt code pc [29]) : decode code pc = .ok (.iload_n 3, 1) := dk_of ((dk_bind (dk_u1 (h 0 _ rfl))).trans rfl)
theorem dk_30 {code : ByteArray} {pc : Nat} (h : DkAt code pc [30]) : decode code pc = .ok (.lload_n 0, 1) := dk_of ((dk_bind (dk_u1 (h 0 _ rfl))).trans rfl)
theorem dk_32 {code : ByteArray} {pc : Nat} (h : DkAt code pc [32]) : decode code pc = .ok (.lload_n 2, 1) := dk_of ((dk_bind (dk_u1 (h 0 _ rfl))).trans rfl)
theorem dk_42 {code : ByteArray} {pc : Nat} (h : DkAt code pc [42]) : decode code pc = .ok (.aload_n 0, 1) := dk_of ((dk_bind (dk_u1 (h 0 _ rfl))).trans rfl)
theorem dk_43 {code : ByteArray} {pc : Nat} (h : DkAt code pc [43]) : decode code pc = .ok (.aload_n 1, 1) := dk_of ((dk_bind (dk_u1 (h 0 _ rfl))).trans rfl)
theorem dk_44 {code : ByteArray} {pc : Nat} (h : DkAt code pc [44]) : decode code pc = .ok (.aload_n 2, 1) := dk_of ((dk_bind (dk_u1 (h 0 _ rfl))).trans rfl)
theorem dk_46 {code : ByteArray} {pc : Nat} (h : DkAt code pc [46]) : decode code pc = .ok (.iaload, 1) := dk_of ((dk_bind (dk_u1 (h 0 _ rfl))).trans rfl)
theorem dk_54 {code : ByteArray} {pc : Nat} (a : UInt8) (h : DkAt code pc [54, a]) : decode code pc = .ok (.istore a.toNat, 2) := dk_of ((dk_bind (dk_u1 (h 0 _ rfl))).trans ((dk_bind (dk_u1 (h 1 _ rfl))).trans rfl))
theorem dk_58 {code : ByteArray} {pc : Nat} (a : UInt8) (h : DkAt code pc [58, a]) : decode code pc = .ok (.astore a.toNat, 2) := dk_of ((dk_bind (dk_u1 (h 0 _ rfl))).trans ((dk_bind (dk_u1 (h 1 _ rfl))).trans rfl))
theorem dk_60 {code : ByteArray} {pc : Nat} (h : DkAt code pc [60]) : decode code pc = .ok (.istore_n 1, 1) := dk_of ((dk_bind (dk_u1 (h 0 _ rfl))).trans rfl)
theorem dk_61 {code : ByteArray} {pc : Nat} (h : DkAt code pc [61]) : decode code pc = .ok (.istore_n 2, 1) := dk_of ((dk_bind (dk_u1 (h 0 _ rfl))).trans rfl)
theorem dk_62 {code : ByteArray} {pc : Nat} (h : DkAt code pc [62]) : decode code pc = .ok (.istore_n 3, 1) := dk_of ((dk_bind (dk_u1 (h 0 _ rfl))).trans rfl)
theorem dk_65 {code : ByteArray} {pc : Nat} (h : DkAt code pc [65]) : decode code pc = .ok (.lstore_n 2, 1) := dk_of ((dk_bind (dk_u1 (h 0 _ rfl))).trans rfl)
theorem dk_76 {code : ByteArray} {pc : Nat} (h : DkAt code pc [76]) : decode code pc = .ok (.astore_n 1, 1) := dk_of ((dk_bind (dk_u1 (h 0 _ rfl))).trans rfl)
theorem dk_77 {code : ByteArray} {pc : Nat} (h : DkAt code pc [77]) : decode code pc = .ok (.astore_n 2, 1) := dk_of ((dk_bind (dk_u1 (h 0 _ rfl))).trans rfl)
theorem dk_79 {code : ByteArray} {pc : Nat} (h : DkAt code pc [79]) : decode code pc = .ok (.iastore, 1) := dk_of ((dk_bind (dk_u1 (h 0 _ rfl))).trans rfl)
theorem dk_87 {code : ByteArray} {pc : Nat} (h : DkAt code pc [87]) : decode code pc = .ok (.pop, 1) := dk_of ((dk_bind (dk_u1 (h 0 _ rfl))).trans rfl)
theorem dk_89 {code : ByteArray} {pc : Nat} (h : DkAt code pc [89]) : decode code pc = .ok (.dup, 1) := dk_of ((dk_bind (dk_u1 (h 0 _ rfl))).trans rfl)
theorem dk_90 {code : ByteArray} {pc : Nat} (h : DkAt code pc [90]) : decode code pc = .ok (.dup_x1, 1) := dk_of ((dk_bind (dk_u1 (h 0 _ rfl))).trans rfl)
theorem dk_96 {code : ByteArray} {pc : Nat} (h : DkAt code pc [96]) : decode code pc = .ok (.iadd, 1) := dk_of ((dk_bind (dk_u1 (h 0 _ rfl))).trans rfl)
theorem dk_97 {code : ByteArray} {pc : Nat} (h : DkAt code pc [97]) : decode code pc = .ok (.ladd, 1) := dk_of ((dk_bind (dk_u1 (h 0 _ rfl))).trans rfl)
theorem dk_100 {code : ByteArray} {pc : Nat} (h : DkAt code pc [100]) : decode code pc = .ok (.isub, 1) := dk_of ((dk_bind (dk_u1 (h 0 _ rfl))).trans rfl)
theorem dk_104 {code : ByteArray} {pc : Nat} (h : DkAt code pc [104]) : decode code pc = .ok (.imul, 1) := dk_of ((dk_bind (dk_u1 (h 0 _ rfl))).trans rfl)
theorem dk_105 {code : ByteArray} {pc : Nat} (h : DkAt code pc [105]) : decode code pc = .ok (.lmul, 1) := dk_of ((dk_bind (dk_u1 (h 0 _ rfl))).trans rfl)
theorem dk_122 {code : ByteArray} {pc : Nat} (h : DkAt code pc [122]) : decode code pc = .ok (.ishr, 1) := dk_of ((dk_bind (dk_u1 (h 0 _ rfl))).trans rfl)
theorem dk_126 {code : ByteArray} {pc : Nat} (h : DkAt code pc [126]) : decode code pc = .ok (.iand, 1) := dk_of ((dk_bind (dk_u1 (h 0 _ rfl))).trans rfl)
theorem dk_132 {code : ByteArray} {pc : Nat} (a b : UInt8) (h : DkAt code pc [132, a, b]) : decode code pc = .ok (.iinc a.toNat (Reader.signed 8 b.toNat), 3) := dk_of ((dk_bind (dk_u1 (h 0 _ rfl))).trans ((dk_bind (dk_u1 (h 1 _ rfl))).trans ((dk_bind (dk_map (dk_u1 (h 2 _ rfl)))).trans rfl)))
theorem dk_133 {code : ByteArray} {pc : Nat} (h : DkAt code pc [133]) : decode code pc = .ok (.i2l, 1) := dk_of ((dk_bind (dk_u1 (h 0 _ rfl))).trans rfl)
theorem dk_136 {code : ByteArray} {pc : Nat} (h : DkAt code pc [136]) : decode code pc = .ok (.l2i, 1) := dk_of ((dk_bind (dk_u1 (h 0 _ rfl))).trans rfl)
theorem dk_148 {code : ByteArray} {pc : Nat} (h : DkAt code pc [148]) : decode code pc = .ok (.lcmp, 1) := dk_of ((dk_bind (dk_u1 (h 0 _ rfl))).trans rfl)
theorem dk_153 {code : ByteArray} {pc : Nat} (a b : UInt8) (h : DkAt code pc [153, a, b]) : decode code pc = .ok (.ifCond .eq (Reader.signed 16 (a.toNat * 256 + b.toNat)), 3) := dk_of ((dk_bind (dk_u1 (h 0 _ rfl))).trans ((dk_bind (dk_map (dk_u2 (h 1 _ rfl) (h 2 _ rfl)))).trans rfl))
theorem dk_154 {code : ByteArray} {pc : Nat} (a b : UInt8) (h : DkAt code pc [154, a, b]) : decode code pc = .ok (.ifCond .ne (Reader.signed 16 (a.toNat * 256 + b.toNat)), 3) := dk_of ((dk_bind (dk_u1 (h 0 _ rfl))).trans ((dk_bind (dk_map (dk_u2 (h 1 _ rfl) (h 2 _ rfl)))).trans rfl))
theorem dk_155 {code : ByteArray} {pc : Nat} (a b : UInt8) (h : DkAt code pc [155, a, b]) : decode code pc = .ok (.ifCond .lt (Reader.signed 16 (a.toNat * 256 + b.toNat)), 3) := dk_of ((dk_bind (dk_u1 (h 0 _ rfl))).trans ((dk_bind (dk_map (dk_u2 (h 1 _ rfl) (h 2 _ rfl)))).trans rfl))
theorem dk_157 {code : ByteArray} {pc : Nat} (a b : UInt8) (h : DkAt code pc [157, a, b]) : decode code pc = .ok (.ifCond .gt (Reader.signed 16 (a.toNat * 256 + b.toNat)), 3) := dk_of ((dk_bind (dk_u1 (h 0 _ rfl))).trans ((dk_bind (dk_map (dk_u2 (h 1 _ rfl) (h 2 _ rfl)))).trans rfl))
theorem dk_158 {code : ByteArray} {pc : Nat} (a b : UInt8) (h : DkAt code pc [158, a, b]) : decode code pc = .ok (.ifCond .le (Reader.signed 16 (a.toNat * 256 + b.toNat)), 3) := dk_of ((dk_bind (dk_u1 (h 0 _ rfl))).trans ((dk_bind (dk_map (dk_u2 (h 1 _ rfl) (h 2 _ rfl)))).trans rfl))
theorem dk_159 {code : ByteArray} {pc : Nat} (a b : UInt8) (h : DkAt code pc [159, a, b]) : decode code pc = .ok (.if_icmp .eq (Reader.signed 16 (a.toNat * 256 + b.toNat)), 3) := dk_of ((dk_bind (dk_u1 (h 0 _ rfl))).trans ((dk_bind (dk_map (dk_u2 (h 1 _ rfl) (h 2 _ rfl)))).trans rfl))
theorem dk_160 {code : ByteArray} {pc : Nat} (a b : UInt8) (h : DkAt code pc [160, a, b]) : decode code pc = .ok (.if_icmp .ne (Reader.signed 16 (a.toNat * 256 + b.toNat)), 3) := dk_of ((dk_bind (dk_u1 (h 0 _ rfl))).trans ((dk_bind (dk_map (dk_u2 (h 1 _ rfl) (h 2 _ rfl)))).trans rfl))
theorem dk_161 {code : ByteArray} {pc : Nat} (a b : UInt8) (h : DkAt code pc [161, a, b]) : decode code pc = .ok (.if_icmp .lt (Reader.signed 16 (a.toNat * 256 + b.toNat)), 3) := dk_of ((dk_bind (dk_u1 (h 0 _ rfl))).trans ((dk_bind (dk_map (dk_u2 (h 1 _ rfl) (h 2 _ rfl)))).trans rfl))
theorem dk_162 {code : ByteArray} {pc : Nat} (a b : UInt8) (h : DkAt code pc [162, a, b]) : decode code pc = .ok (.if_icmp .ge (Reader.signed 16 (a.toNat * 256 + b.toNat)), 3) := dk_of ((dk_bind (dk_u1 (h 0 _ rfl))).trans ((dk_bind (dk_map (dk_u2 (h 1 _ rfl) (h 2 _ rfl)))).trans rfl))
theorem dk_163 {code : ByteArray} {pc : Nat} (a b : UInt8) (h : DkAt code pc [163, a, b]) : decode code pc = .ok (.if_icmp .gt (Reader.signed 16 (a.toNat * 256 + b.toNat)), 3) := dk_of ((dk_bind (dk_u1 (h 0 _ rfl))).trans ((dk_bind (dk_map (dk_u2 (h 1 _ rfl) (h 2 _ rfl)))).trans rfl))
theorem dk_164 {code : ByteArray} {pc : Nat} (a b : UInt8) (h : DkAt code pc [164, a, b]) : decode code pc = .ok (.if_icmp .le (Reader.signed 16 (a.toNat * 256 + b.toNat)), 3) := dk_of ((dk_bind (dk_u1 (h 0 _ rfl))).trans ((dk_bind (dk_map (dk_u2 (h 1 _ rfl) (h 2 _ rfl)))).trans rfl))
theorem dk_167 {code : ByteArray} {pc : Nat} (a b : UInt8) (h : DkAt code pc [167, a, b]) : decode code pc = .ok (.goto (Reader.signed 16 (a.toNat * 256 + b.toNat)), 3) := dk_of ((dk_bind (dk_u1 (h 0 _ rfl))).trans ((dk_bind (dk_map (dk_u2 (h 1 _ rfl) (h 2 _ rfl)))).trans rfl))
theorem dk_172 {code : ByteArray} {pc : Nat} (h : DkAt code pc [172]) : decode code pc = .ok (.ireturn, 1) := dk_of ((dk_bind (dk_u1 (h 0 _ rfl))).trans rfl)
theorem dk_173 {code : ByteArray} {pc : Nat} (h : DkAt code pc [173]) : decode code pc = .ok (.lreturn, 1) := dk_of ((dk_bind (dk_u1 (h 0 _ rfl))).trans rfl)
theorem dk_176 {code : ByteArray} {pc : Nat} (h : DkAt code pc [176]) : decode code pc = .ok (.areturn, 1) := dk_of ((dk_bind (dk_u1 (h 0 _ rfl))).trans rfl)
theorem dk_177 {code : ByteArray} {pc : Nat} (h : DkAt code pc [177]) : decode code pc = .ok (.return_, 1) := dk_of ((dk_bind (dk_u1 (h 0 _ rfl))).trans rfl)
theorem dk_178 {code : ByteArray} {pc : Nat} (a b : UInt8) (h : DkAt code pc [178, a, b]) : decode code pc = .ok (.getstatic (a.toNat * 256 + b.toNat), 3) := dk_of ((dk_bind (dk_u1 (h 0 _ rfl))).trans ((dk_bind (dk_u2 (h 1 _ rfl) (h 2 _ rfl))).trans rfl))
theorem dk_180 {code : ByteArray} {pc : Nat} (a b : UInt8) (h : DkAt code pc [180, a, b]) : decode code pc = .ok (.getfield (a.toNat * 256 + b.toNat), 3) := dk_of ((dk_bind (dk_u1 (h 0 _ rfl))).trans ((dk_bind (dk_u2 (h 1 _ rfl) (h 2 _ rfl))).trans rfl))
theorem dk_181 {code : ByteArray} {pc : Nat} (a b : UInt8) (h : DkAt code pc [181, a, b]) : decode code pc = .ok (.putfield (a.toNat * 256 + b.toNat), 3) := dk_of ((dk_bind (dk_u1 (h 0 _ rfl))).trans ((dk_bind (dk_u2 (h 1 _ rfl) (h 2 _ rfl))).trans rfl))
theorem dk_182 {code : ByteArray} {pc : Nat} (a b : UInt8) (h : DkAt code pc [182, a, b]) : decode code pc = .ok (.invokevirtual (a.toNat * 256 + b.toNat), 3) := dk_of ((dk_bind (dk_u1 (h 0 _ rfl))).trans ((dk_bind (dk_u2 (h 1 _ rfl) (h 2 _ rfl))).trans rfl))
theorem dk_183 {code : ByteArray} {pc : Nat} (a b : UInt8) (h : DkAt code pc [183, a, b]) : decode code pc = .ok (.invokespecial (a.toNat * 256 + b.toNat), 3) := dk_of ((dk_bind (dk_u1 (h 0 _ rfl))).trans ((dk_bind (dk_u2 (h 1 _ rfl) (h 2 _ rfl))).trans rfl))
theorem dk_184 {code : ByteArray} {pc : Nat} (a b : UInt8) (h : DkAt code pc [184, a, b]) : decode code pc = .ok (.invokestatic (a.toNat * 256 + b.toNat), 3) := dk_of ((dk_bind (dk_u1 (h 0 _ rfl))).trans ((dk_bind (dk_u2 (h 1 _ rfl) (h 2 _ rfl))).trans rfl))
theorem dk_187 {code : ByteArray} {pc : Nat} (a b : UInt8) (h : DkAt code pc [187, a, b]) : decode code pc = .ok (.new (a.toNat * 256 + b.toNat), 3) := dk_of ((dk_bind (dk_u1 (h 0 _ rfl))).trans ((dk_bind (dk_u2 (h 1 _ rfl) (h 2 _ rfl))).trans rfl))
theorem dk_188_10 {code : ByteArray} {pc : Nat} (h : DkAt code pc [188, 10]) : decode code pc = .ok (.newarray .int, 2) := dk_of ((dk_bind (dk_u1 (h 0 _ rfl))).trans ((dk_bind (dk_u1 (h 1 _ rfl))).trans rfl))
theorem dk_190 {code : ByteArray} {pc : Nat} (h : DkAt code pc [190]) : decode code pc = .ok (.arraylength, 1) := dk_of ((dk_bind (dk_u1 (h 0 _ rfl))).trans rfl)
theorem dk_191 {code : ByteArray} {pc : Nat} (h : DkAt code pc [191]) : decode code pc = .ok (.athrow, 1) := dk_of ((dk_bind (dk_u1 (h 0 _ rfl))).trans rfl)
theorem dk_199 {code : ByteArray} {pc : Nat} (a b : UInt8) (h : DkAt code pc [199, a, b]) : decode code pc = .ok (.ifnonnull (Reader.signed 16 (a.toNat * 256 + b.toNat)), 3) := dk_of ((dk_bind (dk_u1 (h 0 _ rfl))).trans ((dk_bind (dk_map (dk_u2 (h 1 _ rfl) (h 2 _ rfl)))).trans rfl))
theorem q51 : (Jvm.Cond.arrayClass Jvm.ClassFile.FieldType.int) ∈ lw_all := lw_g (lw_at lw_m1 46 rfl) rfl
set_option maxRecDepth 100000
theorem q11 : (Jvm.Cond.initialized "java/lang/System") ∈ lw_all := lw_g (lw_at lw_m1 6 rfl) rfl
set_option maxRecDepth 100000
theorem q82 : (Jvm.Cond.static ({ cls := "java/lang/System", name := "arraycopy", desc := "(Ljava/lang/Object;ILjava/lang/Object;II)V" } : Jvm.MethodName)) ∈ lw_all := lw_g (lw_at lw_m1 77 rfl) rfl
theorem q83 : (Jvm.Cond.native ({ cls := "java/lang/System", name := "arraycopy", desc := "(Ljava/lang/Object;ILjava/lang/Object;II)V" } : Jvm.MethodName)) ∈ lw_all := lw_g (lw_at lw_m1 78 rfl) rfl
/-! java/lang/Math -/
set_option maxRecDepth 100000
def RJ0 : String := "java/lang/Math"
abbrev cJ0_min : ByteArray := prog_10_method_70_code
def yJ0_min : MethodName := ⟨RJ0, "min", "(JJ)J"⟩
def dkwJ0_min_0 : List UInt8 := [30, 32, 148, 157, 0, 7, 30, 167, 0, 4, 32, 173]
abbrev dktJ0_min_0 : List UInt8 := dkwJ0_min_0 ++ []
theorem dksJ0_min_0 : cJ0_min.data.toList.drop 0 = dktJ0_min_0 := by decide +kernel
theorem dJ0_min_0 : decode cJ0_min 0 = .ok (.lload_n 0, 1) := dk_30 (dk_at dksJ0_min_0 0 rfl rfl)
theorem dJ0_min_1 : decode cJ0_min 1 = .ok (.lload_n 2, 1) := dk_32 (dk_at dksJ0_min_0 1 rfl rfl)
theorem dJ0_min_2 : decode cJ0_min 2 = .ok (.lcmp, 1) := dk_148 (dk_at dksJ0_min_0 2 rfl rfl)
theorem dJ0_min_3 : decode cJ0_min 3 = .ok (.ifCond .gt 7, 3) := dk_157 0 7 (dk_at dksJ0_min_0 3 rfl rfl)
theorem dJ0_min_6 : decode cJ0_min 6 = .ok (.lload_n 0, 1) := dk_30 (dk_at dksJ0_min_0 6 rfl rfl)
theorem dJ0_min_7 : decode cJ0_min 7 = .ok (.goto 4, 3) := dk_167 0 4 (dk_at dksJ0_min_0 7 rfl rfl)
theorem dJ0_min_10 : decode cJ0_min 10 = .ok (.lload_n 2, 1) := dk_32 (dk_at dksJ0_min_0 10 rfl rfl)
theorem dJ0_min_11 : decode cJ0_min 11 = .ok (.lreturn, 1) := dk_173 (dk_at dksJ0_min_0 11 rfl rfl)
abbrev cJ0_max : ByteArray := prog_10_method_66_code
def yJ0_max : MethodName := ⟨RJ0, "max", "(JJ)J"⟩
def dkwJ0_max_0 : List UInt8 := [30, 32, 148, 155, 0, 7, 30, 167, 0, 4, 32, 173]
abbrev dktJ0_max_0 : List UInt8 := dkwJ0_max_0 ++ []
theorem dksJ0_max_0 : cJ0_max.data.toList.drop 0 = dktJ0_max_0 := by decide +kernel
theorem dJ0_max_0 : decode cJ0_max 0 = .ok (.lload_n 0, 1) := dk_30 (dk_at dksJ0_max_0 0 rfl rfl)
theorem dJ0_max_1 : decode cJ0_max 1 = .ok (.lload_n 2, 1) := dk_32 (dk_at dksJ0_max_0 1 rfl rfl)
theorem dJ0_max_2 : decode cJ0_max 2 = .ok (.lcmp, 1) := dk_148 (dk_at dksJ0_max_0 2 rfl rfl)
theorem dJ0_max_3 : decode cJ0_max 3 = .ok (.ifCond .lt 7, 3) := dk_155 0 7 (dk_at dksJ0_max_0 3 rfl rfl)
theorem dJ0_max_6 : decode cJ0_max 6 = .ok (.lload_n 0, 1) := dk_30 (dk_at dksJ0_max_0 6 rfl rfl)
theorem dJ0_max_7 : decode cJ0_max 7 = .ok (.goto 4, 3) := dk_167 0 4 (dk_at dksJ0_max_0 7 rfl rfl)
theorem dJ0_max_10 : decode cJ0_max 10 = .ok (.lload_n 2, 1) := dk_32 (dk_at dksJ0_max_0 10 rfl rfl)
theorem dJ0_max_11 : decode cJ0_max 11 = .ok (.lreturn, 1) := dk_173 (dk_at dksJ0_max_0 11 rfl rfl)
theorem q10 : (Jvm.Cond.initialized "java/lang/Math") ∈ lw_all := lw_g (lw_at lw_m1 5 rfl) rfl
theorem q76 : (Jvm.Cond.static ({ cls := "java/lang/Math", name := "min", desc := "(JJ)J" } : Jvm.MethodName)) ∈ lw_all := lw_g (lw_at lw_m1 71 rfl) rfl
theorem q77 : (Jvm.Cond.code ({ cls := "java/lang/Math", name := "min", desc := "(JJ)J" } : Jvm.MethodName) prog_10_method_70_code (4 : Nat) (Option.some Jvm.ClassFile.FieldType.long)) ∈ lw_all := lw_g (lw_at lw_m1 72 rfl) rfl
theorem q79 : (Jvm.Cond.static ({ cls := "java/lang/Math", name := "max", desc := "(JJ)J" } : Jvm.MethodName)) ∈ lw_all := lw_g (lw_at lw_m1 74 rfl) rfl
theorem q80 : (Jvm.Cond.code ({ cls := "java/lang/Math", name := "max", desc := "(JJ)J" } : Jvm.MethodName) prog_10_method_66_code (4 : Nat) (Option.some Jvm.ClassFile.FieldType.long)) ∈ lw_all := lw_g (lw_at lw_m1 75 rfl) rfl
/-! java/lang/Object -/
set_option maxRecDepth 100000
def RJ5 : String := "java/lang/Object"
abbrev cJ5_init : ByteArray := object_method_1_code
def yJ5_init : MethodName := ⟨RJ5, "<init>", "()V"⟩
theorem dJ5_init_0 : decode cJ5_init 0 = .ok (.return_, 1) := by decide +kernel
theorem q22 : (Jvm.Cond.instanceMethod ({ cls := "java/lang/Object", name := "<init>", desc := "()V" } : Jvm.MethodName)) ∈ lw_all := lw_g (lw_at lw_m1 17 rfl) rfl
theorem q23 : (Jvm.Cond.code ({ cls := "java/lang/Object", name := "<init>", desc := "()V" } : Jvm.MethodName) object_method_1_code (1 : Nat) (Option.none : Option Jvm.ClassFile.FieldType)) ∈ lw_all := lw_g (lw_at lw_m1 18 rfl) rfl
/-! IntArrays -/
set_option maxRecDepth 100000
def RX2 : String := "IntArrays"
abbrev cX2_grow : ByteArray := prog_5_method_1_code
def yX2_grow : MethodName := ⟨RX2, "grow", "([II)[I"⟩
def dkwX2_grow_0 : List UInt8 := [42, 27, 42, 190, 184, 0, 1, 176]
abbrev dktX2_grow_0 : List UInt8 := dkwX2_grow_0 ++ []
theorem dksX2_grow_0 : cX2_grow.data.toList.drop 0 = dktX2_grow_0 := by decide +kernel
theorem dX2_grow_0 : decode cX2_grow 0 = .ok (.aload_n 0, 1) := dk_42 (dk_at dksX2_grow_0 0 rfl rfl)
theorem dX2_grow_1 : decode cX2_grow 1 = .ok (.iload_n 1, 1) := dk_27 (dk_at dksX2_grow_0 1 rfl rfl)
theorem dX2_grow_2 : decode cX2_grow 2 = .ok (.aload_n 0, 1) := dk_42 (dk_at dksX2_grow_0 2 rfl rfl)
theorem dX2_grow_3 : decode cX2_grow 3 = .ok (.arraylength, 1) := dk_190 (dk_at dksX2_grow_0 3 rfl rfl)
theorem dX2_grow_4 : decode cX2_grow 4 = .ok (.invokestatic 1, 3) := dk_184 0 1 (dk_at dksX2_grow_0 4 rfl rfl)
theorem dX2_grow_7 : decode cX2_grow 7 = .ok (.areturn, 1) := dk_176 (dk_at dksX2_grow_0 7 rfl rfl)
abbrev cX2_grow_2 : ByteArray := prog_5_method_2_code
def yX2_grow_2 : MethodName := ⟨RX2, "grow", "([III)[I"⟩
def dkwX2_grow_2_1 : List UInt8 := [184, 0, 17, 136, 62, 29, 188, 10, 58, 4, 42, 3, 25, 4, 3, 28, 184, 0, 20, 25, 4, 176, 42, 176]
abbrev dktX2_grow_2_1 : List UInt8 := dkwX2_grow_2_1 ++ []
def dkwX2_grow_2_0 : List UInt8 := [27, 42, 190, 164, 0, 42, 42, 190, 133, 42, 190, 4, 122, 133, 97, 20, 0, 9, 184, 0, 11, 27, 133]
abbrev dktX2_grow_2_0 : List UInt8 := dkwX2_grow_2_0 ++ dktX2_grow_2_1
theorem dksX2_grow_2_0 : cX2_grow_2.data.toList.drop 0 = dktX2_grow_2_0 := by decide +kernel
theorem dksX2_grow_2_1 : cX2_grow_2.data.toList.drop 23 = dktX2_grow_2_1 := dk_seg dksX2_grow_2_0 23 rfl rfl
theorem dX2_grow_2_0 : decode cX2_grow_2 0 = .ok (.iload_n 1, 1) := dk_27 (dk_at dksX2_grow_2_0 0 rfl rfl)
theorem dX2_grow_2_1 : decode cX2_grow_2 1 = .ok (.aload_n 0, 1) := dk_42 (dk_at dksX2_grow_2_0 1 rfl rfl)
theorem dX2_grow_2_2 : decode cX2_grow_2 2 = .ok (.arraylength, 1) := dk_190 (dk_at dksX2_grow_2_0 2 rfl rfl)
theorem dX2_grow_2_3 : decode cX2_grow_2 3 = .ok (.if_icmp .le 42, 3) := dk_164 0 42 (dk_at dksX2_grow_2_0 3 rfl rfl)
theorem dX2_grow_2_6 : decode cX2_grow_2 6 = .ok (.aload_n 0, 1) := dk_42 (dk_at dksX2_grow_2_0 6 rfl rfl)
theorem dX2_grow_2_7 : decode cX2_grow_2 7 = .ok (.arraylength, 1) := dk_190 (dk_at dksX2_grow_2_0 7 rfl rfl)
theorem dX2_grow_2_8 : decode cX2_grow_2 8 = .ok (.i2l, 1) := dk_133 (dk_at dksX2_grow_2_0 8 rfl rfl)
theorem dX2_grow_2_9 : decode cX2_grow_2 9 = .ok (.aload_n 0, 1) := dk_42 (dk_at dksX2_grow_2_0 9 rfl rfl)
theorem dX2_grow_2_10 : decode cX2_grow_2 10 = .ok (.arraylength, 1) := dk_190 (dk_at dksX2_grow_2_0 10 rfl rfl)
theorem dX2_grow_2_11 : decode cX2_grow_2 11 = .ok (.iconst 1, 1) := dk_4 (dk_at dksX2_grow_2_0 11 rfl rfl)
theorem dX2_grow_2_12 : decode cX2_grow_2 12 = .ok (.ishr, 1) := dk_122 (dk_at dksX2_grow_2_0 12 rfl rfl)
theorem dX2_grow_2_13 : decode cX2_grow_2 13 = .ok (.i2l, 1) := dk_133 (dk_at dksX2_grow_2_0 13 rfl rfl)
theorem dX2_grow_2_14 : decode cX2_grow_2 14 = .ok (.ladd, 1) := dk_97 (dk_at dksX2_grow_2_0 14 rfl rfl)
theorem dX2_grow_2_15 : decode cX2_grow_2 15 = .ok (.ldc2_w 9, 3) := dk_20 0 9 (dk_at dksX2_grow_2_0 15 rfl rfl)
theorem dX2_grow_2_18 : decode cX2_grow_2 18 = .ok (.invokestatic 11, 3) := dk_184 0 11 (dk_at dksX2_grow_2_0 18 rfl rfl)
theorem dX2_grow_2_21 : decode cX2_grow_2 21 = .ok (.iload_n 1, 1) := dk_27 (dk_at dksX2_grow_2_0 21 rfl rfl)
theorem dX2_grow_2_22 : decode cX2_grow_2 22 = .ok (.i2l, 1) := dk_133 (dk_at dksX2_grow_2_0 22 rfl rfl)
theorem dX2_grow_2_23 : decode cX2_grow_2 23 = .ok (.invokestatic 17, 3) := dk_184 0 17 (dk_at dksX2_grow_2_1 0 rfl rfl)
theorem dX2_grow_2_26 : decode cX2_grow_2 26 = .ok (.l2i, 1) := dk_136 (dk_at dksX2_grow_2_1 3 rfl rfl)
theorem dX2_grow_2_27 : decode cX2_grow_2 27 = .ok (.istore_n 3, 1) := dk_62 (dk_at dksX2_grow_2_1 4 rfl rfl)
theorem dX2_grow_2_28 : decode cX2_grow_2 28 = .ok (.iload_n 3, 1) := dk_29 (dk_at dksX2_grow_2_1 5 rfl rfl)
theorem dX2_grow_2_29 : decode cX2_grow_2 29 = .ok (.newarray .int, 2) := dk_188_10 (dk_at dksX2_grow_2_1 6 rfl rfl)
theorem dX2_grow_2_31 : decode cX2_grow_2 31 = .ok (.astore 4, 2) := dk_58 4 (dk_at dksX2_grow_2_1 8 rfl rfl)
theorem dX2_grow_2_33 : decode cX2_grow_2 33 = .ok (.aload_n 0, 1) := dk_42 (dk_at dksX2_grow_2_1 10 rfl rfl)
theorem dX2_grow_2_34 : decode cX2_grow_2 34 = .ok (.iconst 0, 1) := dk_3 (dk_at dksX2_grow_2_1 11 rfl rfl)
theorem dX2_grow_2_35 : decode cX2_grow_2 35 = .ok (.aload 4, 2) := dk_25 4 (dk_at dksX2_grow_2_1 12 rfl rfl)
theorem dX2_grow_2_37 : decode cX2_grow_2 37 = .ok (.iconst 0, 1) := dk_3 (dk_at dksX2_grow_2_1 14 rfl rfl)
theorem dX2_grow_2_38 : decode cX2_grow_2 38 = .ok (.iload_n 2, 1) := dk_28 (dk_at dksX2_grow_2_1 15 rfl rfl)
theorem dX2_grow_2_39 : decode cX2_grow_2 39 = .ok (.invokestatic 20, 3) := dk_184 0 20 (dk_at dksX2_grow_2_1 16 rfl rfl)
theorem dX2_grow_2_42 : decode cX2_grow_2 42 = .ok (.aload 4, 2) := dk_25 4 (dk_at dksX2_grow_2_1 19 rfl rfl)
theorem dX2_grow_2_44 : decode cX2_grow_2 44 = .ok (.areturn, 1) := dk_176 (dk_at dksX2_grow_2_1 21 rfl rfl)
theorem dX2_grow_2_45 : decode cX2_grow_2 45 = .ok (.aload_n 0, 1) := dk_42 (dk_at dksX2_grow_2_1 22 rfl rfl)
theorem dX2_grow_2_46 : decode cX2_grow_2 46 = .ok (.areturn, 1) := dk_176 (dk_at dksX2_grow_2_1 23 rfl rfl)
abbrev cX2_trim : ByteArray := prog_5_method_3_code
def yX2_trim : MethodName := ⟨RX2, "trim", "([II)[I"⟩
def dkwX2_trim_1 : List UInt8 := [44, 3, 27, 184, 0, 20, 44, 176]
abbrev dktX2_trim_1 : List UInt8 := dkwX2_trim_1 ++ []
def dkwX2_trim_0 : List UInt8 := [27, 42, 190, 161, 0, 5, 42, 176, 27, 154, 0, 9, 178, 0, 26, 167, 0, 6, 27, 188, 10, 77, 42, 3]
abbrev dktX2_trim_0 : List UInt8 := dkwX2_trim_0 ++ dktX2_trim_1
theorem dksX2_trim_0 : cX2_trim.data.toList.drop 0 = dktX2_trim_0 := by decide +kernel
theorem dksX2_trim_1 : cX2_trim.data.toList.drop 24 = dktX2_trim_1 := dk_seg dksX2_trim_0 24 rfl rfl
theorem dX2_trim_0 : decode cX2_trim 0 = .ok (.iload_n 1, 1) := dk_27 (dk_at dksX2_trim_0 0 rfl rfl)
theorem dX2_trim_1 : decode cX2_trim 1 = .ok (.aload_n 0, 1) := dk_42 (dk_at dksX2_trim_0 1 rfl rfl)
theorem dX2_trim_2 : decode cX2_trim 2 = .ok (.arraylength, 1) := dk_190 (dk_at dksX2_trim_0 2 rfl rfl)
theorem dX2_trim_3 : decode cX2_trim 3 = .ok (.if_icmp .lt 5, 3) := dk_161 0 5 (dk_at dksX2_trim_0 3 rfl rfl)
theorem dX2_trim_6 : decode cX2_trim 6 = .ok (.aload_n 0, 1) := dk_42 (dk_at dksX2_trim_0 6 rfl rfl)
theorem dX2_trim_7 : decode cX2_trim 7 = .ok (.areturn, 1) := dk_176 (dk_at dksX2_trim_0 7 rfl rfl)
theorem dX2_trim_8 : decode cX2_trim 8 = .ok (.iload_n 1, 1) := dk_27 (dk_at dksX2_trim_0 8 rfl rfl)
theorem dX2_trim_9 : decode cX2_trim 9 = .ok (.ifCond .ne 9, 3) := dk_154 0 9 (dk_at dksX2_trim_0 9 rfl rfl)
theorem dX2_trim_12 : decode cX2_trim 12 = .ok (.getstatic 26, 3) := dk_178 0 26 (dk_at dksX2_trim_0 12 rfl rfl)
theorem dX2_trim_15 : decode cX2_trim 15 = .ok (.goto 6, 3) := dk_167 0 6 (dk_at dksX2_trim_0 15 rfl rfl)
theorem dX2_trim_18 : decode cX2_trim 18 = .ok (.iload_n 1, 1) := dk_27 (dk_at dksX2_trim_0 18 rfl rfl)
theorem dX2_trim_19 : decode cX2_trim 19 = .ok (.newarray .int, 2) := dk_188_10 (dk_at dksX2_trim_0 19 rfl rfl)
theorem dX2_trim_21 : decode cX2_trim 21 = .ok (.astore_n 2, 1) := dk_77 (dk_at dksX2_trim_0 21 rfl rfl)
theorem dX2_trim_22 : decode cX2_trim 22 = .ok (.aload_n 0, 1) := dk_42 (dk_at dksX2_trim_0 22 rfl rfl)
theorem dX2_trim_23 : decode cX2_trim 23 = .ok (.iconst 0, 1) := dk_3 (dk_at dksX2_trim_0 23 rfl rfl)
theorem dX2_trim_24 : decode cX2_trim 24 = .ok (.aload_n 2, 1) := dk_44 (dk_at dksX2_trim_1 0 rfl rfl)
theorem dX2_trim_25 : decode cX2_trim 25 = .ok (.iconst 0, 1) := dk_3 (dk_at dksX2_trim_1 1 rfl rfl)
theorem dX2_trim_26 : decode cX2_trim 26 = .ok (.iload_n 1, 1) := dk_27 (dk_at dksX2_trim_1 2 rfl rfl)
theorem dX2_trim_27 : decode cX2_trim 27 = .ok (.invokestatic 20, 3) := dk_184 0 20 (dk_at dksX2_trim_1 3 rfl rfl)
theorem dX2_trim_30 : decode cX2_trim 30 = .ok (.aload_n 2, 1) := dk_44 (dk_at dksX2_trim_1 6 rfl rfl)
theorem dX2_trim_31 : decode cX2_trim 31 = .ok (.areturn, 1) := dk_176 (dk_at dksX2_trim_1 7 rfl rfl)
theorem q8 : (Jvm.Cond.initialized "IntArrays") ∈ lw_all := lw_g (lw_at lw_m1 3 rfl) rfl
theorem q34 : (Jvm.Cond.laysStatic "IntArrays" "EMPTY_ARRAY" "[I") ∈ lw_tbl := lw_at lw_m1 29 rfl
theorem q69 : (Jvm.Cond.static ({ cls := "IntArrays", name := "grow", desc := "([II)[I" } : Jvm.MethodName)) ∈ lw_all := lw_g (lw_at lw_m1 64 rfl) rfl
theorem q70 : (Jvm.Cond.code ({ cls := "IntArrays", name := "grow", desc := "([II)[I" } : Jvm.MethodName) prog_5_method_1_code (2 : Nat) (Option.some (Jvm.ClassFile.FieldType.array Jvm.ClassFile.FieldType.int))) ∈ lw_all := lw_g (lw_at lw_m1 65 rfl) rfl
theorem q71 : (Jvm.Cond.methodLink "IntArrays" (1 : Nat) ({ cls := "IntArrays", name := "grow", desc := "([III)[I" } : Jvm.MethodName)) ∈ lw_all := lw_g (lw_at lw_m1 66 rfl) rfl
theorem q72 : (Jvm.Cond.static ({ cls := "IntArrays", name := "grow", desc := "([III)[I" } : Jvm.MethodName)) ∈ lw_all := lw_g (lw_at lw_m1 67 rfl) rfl
theorem q73 : (Jvm.Cond.code ({ cls := "IntArrays", name := "grow", desc := "([III)[I" } : Jvm.MethodName) prog_5_method_2_code (5 : Nat) (Option.some (Jvm.ClassFile.FieldType.array Jvm.ClassFile.FieldType.int))) ∈ lw_all := lw_g (lw_at lw_m1 68 rfl) rfl
theorem q74 : (Jvm.Cond.constantLong "IntArrays" (9 : Nat) (2147483639 : Int64)) ∈ lw_all := lw_g (lw_at lw_m1 69 rfl) rfl
theorem q75 : (Jvm.Cond.methodLink "IntArrays" (11 : Nat) ({ cls := "java/lang/Math", name := "min", desc := "(JJ)J" } : Jvm.MethodName)) ∈ lw_all := lw_g (lw_at lw_m1 70 rfl) rfl
theorem q78 : (Jvm.Cond.methodLink "IntArrays" (17 : Nat) ({ cls := "java/lang/Math", name := "max", desc := "(JJ)J" } : Jvm.MethodName)) ∈ lw_all := lw_g (lw_at lw_m1 73 rfl) rfl
theorem q81 : (Jvm.Cond.methodLink "IntArrays" (20 : Nat) ({ cls := "java/lang/System", name := "arraycopy", desc := "(Ljava/lang/Object;ILjava/lang/Object;II)V" } : Jvm.MethodName)) ∈ lw_all := lw_g (lw_at lw_m1 76 rfl) rfl
theorem q192 : (Jvm.Cond.static ({ cls := "IntArrays", name := "trim", desc := "([II)[I" } : Jvm.MethodName)) ∈ lw_all := lw_g (lw_at lw_m1 187 rfl) rfl
theorem q193 : (Jvm.Cond.code ({ cls := "IntArrays", name := "trim", desc := "([II)[I" } : Jvm.MethodName) prog_5_method_3_code (3 : Nat) (Option.some (Jvm.ClassFile.FieldType.array Jvm.ClassFile.FieldType.int))) ∈ lw_all := lw_g (lw_at lw_m1 188 rfl) rfl
theorem q194 : (Jvm.Cond.fieldLink "IntArrays" (26 : Nat) "IntArrays" "EMPTY_ARRAY" "[I") ∈ lw_all := lw_g (lw_at lw_m1 189 rfl) rfl
end
section
/-! IntArrayPriorityQueue -/
set_option maxRecDepth 100000
def RX1 : String := "IntArrayPriorityQueue"
def TX1 : u_T := fun k => match k with
  | 0 => ("IntArrayPriorityQueue", "array", "[I", false)
  | 1 => ("IntArrayPriorityQueue", "size", "I", false)
  | 2 => ("IntArrayPriorityQueue", "c", "LIntComparator;", false)
  | 3 => ("IntArrayPriorityQueue", "firstIndex", "I", false)
  | _ => ("IntArrayPriorityQueue", "firstIndexValid", "Z", false)
def tyX1 : Nat → FieldType := fun k => match k with
  | 0 => .array .int
  | 1 => .int
  | 2 => .object "IntComparator"
  | 3 => .int
  | _ => .boolean
abbrev wsX10 : List Cond := u_ws RX1 TX1 5
theorem nmX1 : ∀ a, a < 5 → ∀ b, b < 5 → a ≠ b → (TX1 a).2.1 ≠ (TX1 b).2.1 := by decide +kernel
theorem tyX1_ok : ∀ k, k < 5 → parseFieldDescriptor (TX1 k).2.2.1 = some (tyX1 k) := by decide +kernel
abbrev cX1_init : ByteArray := prog_4_method_2_code
def yX1_init : MethodName := ⟨RX1, "<init>", "()V"⟩
def dkwX1_init_0 : List UInt8 := [42, 3, 1, 183, 0, 22, 177]
abbrev dktX1_init_0 : List UInt8 := dkwX1_init_0 ++ []
theorem dksX1_init_0 : cX1_init.data.toList.drop 0 = dktX1_init_0 := by decide +kernel
theorem dX1_init_0 : decode cX1_init 0 = .ok (.aload_n 0, 1) := dk_42 (dk_at dksX1_init_0 0 rfl rfl)
theorem dX1_init_1 : decode cX1_init 1 = .ok (.iconst 0, 1) := dk_3 (dk_at dksX1_init_0 1 rfl rfl)
theorem dX1_init_2 : decode cX1_init 2 = .ok (.aconst_null, 1) := dk_1 (dk_at dksX1_init_0 2 rfl rfl)
theorem dX1_init_3 : decode cX1_init 3 = .ok (.invokespecial 22, 3) := dk_183 0 22 (dk_at dksX1_init_0 3 rfl rfl)
theorem dX1_init_6 : decode cX1_init 6 = .ok (.return_, 1) := dk_177 (dk_at dksX1_init_0 6 rfl rfl)
abbrev cX1_init_2 : ByteArray := prog_4_method_1_code
def yX1_init_2 : MethodName := ⟨RX1, "<init>", "(ILIntComparator;)V"⟩
def dkwX1_init_2_1 : List UInt8 := [181, 0, 18, 177]
abbrev dktX1_init_2_1 : List UInt8 := dkwX1_init_2_1 ++ []
def dkwX1_init_2_0 : List UInt8 := [42, 183, 0, 1, 42, 178, 0, 7, 181, 0, 13, 27, 158, 0, 10, 42, 27, 188, 10, 181, 0, 13, 42, 44]
abbrev dktX1_init_2_0 : List UInt8 := dkwX1_init_2_0 ++ dktX1_init_2_1
theorem dksX1_init_2_0 : cX1_init_2.data.toList.drop 0 = dktX1_init_2_0 := by decide +kernel
theorem dksX1_init_2_1 : cX1_init_2.data.toList.drop 24 = dktX1_init_2_1 := dk_seg dksX1_init_2_0 24 rfl rfl
theorem dX1_init_2_0 : decode cX1_init_2 0 = .ok (.aload_n 0, 1) := dk_42 (dk_at dksX1_init_2_0 0 rfl rfl)
theorem dX1_init_2_1 : decode cX1_init_2 1 = .ok (.invokespecial 1, 3) := dk_183 0 1 (dk_at dksX1_init_2_0 1 rfl rfl)
theorem dX1_init_2_4 : decode cX1_init_2 4 = .ok (.aload_n 0, 1) := dk_42 (dk_at dksX1_init_2_0 4 rfl rfl)
theorem dX1_init_2_5 : decode cX1_init_2 5 = .ok (.getstatic 7, 3) := dk_178 0 7 (dk_at dksX1_init_2_0 5 rfl rfl)
theorem dX1_init_2_8 : decode cX1_init_2 8 = .ok (.putfield 13, 3) := dk_181 0 13 (dk_at dksX1_init_2_0 8 rfl rfl)
theorem dX1_init_2_11 : decode cX1_init_2 11 = .ok (.iload_n 1, 1) := dk_27 (dk_at dksX1_init_2_0 11 rfl rfl)
theorem dX1_init_2_12 : decode cX1_init_2 12 = .ok (.ifCond .le 10, 3) := dk_158 0 10 (dk_at dksX1_init_2_0 12 rfl rfl)
theorem dX1_init_2_15 : decode cX1_init_2 15 = .ok (.aload_n 0, 1) := dk_42 (dk_at dksX1_init_2_0 15 rfl rfl)
theorem dX1_init_2_16 : decode cX1_init_2 16 = .ok (.iload_n 1, 1) := dk_27 (dk_at dksX1_init_2_0 16 rfl rfl)
theorem dX1_init_2_17 : decode cX1_init_2 17 = .ok (.newarray .int, 2) := dk_188_10 (dk_at dksX1_init_2_0 17 rfl rfl)
theorem dX1_init_2_19 : decode cX1_init_2 19 = .ok (.putfield 13, 3) := dk_181 0 13 (dk_at dksX1_init_2_0 19 rfl rfl)
theorem dX1_init_2_22 : decode cX1_init_2 22 = .ok (.aload_n 0, 1) := dk_42 (dk_at dksX1_init_2_0 22 rfl rfl)
theorem dX1_init_2_23 : decode cX1_init_2 23 = .ok (.aload_n 2, 1) := dk_44 (dk_at dksX1_init_2_0 23 rfl rfl)
theorem dX1_init_2_24 : decode cX1_init_2 24 = .ok (.putfield 18, 3) := dk_181 0 18 (dk_at dksX1_init_2_1 0 rfl rfl)
theorem dX1_init_2_27 : decode cX1_init_2 27 = .ok (.return_, 1) := dk_177 (dk_at dksX1_init_2_1 3 rfl rfl)
abbrev cX1_size : ByteArray := prog_4_method_8_code
def yX1_size : MethodName := ⟨RX1, "size", "()I"⟩
theorem dX1_size_0 : decode cX1_size 0 = .ok (.aload_n 0, 1) := by decide +kernel
theorem dX1_size_1 : decode cX1_size 1 = .ok (.getfield 33, 3) := by decide +kernel
theorem dX1_size_4 : decode cX1_size 4 = .ok (.ireturn, 1) := by decide +kernel
abbrev cX1_enqueue : ByteArray := prog_4_method_5_code
def yX1_enqueue : MethodName := ⟨RX1, "enqueue", "(I)V"⟩
def dkwX1_enqueue_3 : List UInt8 := [181, 0, 25, 42, 180, 0, 13, 42, 89, 180, 0, 33, 90, 4, 96, 181, 0, 33, 27, 79, 177]
abbrev dktX1_enqueue_3 : List UInt8 := dkwX1_enqueue_3 ++ []
def dkwX1_enqueue_2 : List UInt8 := [180, 0, 13, 42, 180, 0, 29, 46, 162, 0, 19, 42, 42, 180, 0, 33, 181, 0, 29, 167, 0, 8, 42, 3]
abbrev dktX1_enqueue_2 : List UInt8 := dkwX1_enqueue_2 ++ dktX1_enqueue_3
def dkwX1_enqueue_1 : List UInt8 := [184, 0, 39, 181, 0, 13, 42, 180, 0, 25, 153, 0, 34, 42, 180, 0, 18, 199, 0, 32, 27, 42]
abbrev dktX1_enqueue_1 : List UInt8 := dkwX1_enqueue_1 ++ dktX1_enqueue_2
def dkwX1_enqueue_0 : List UInt8 := [42, 180, 0, 33, 42, 180, 0, 13, 190, 160, 0, 20, 42, 42, 180, 0, 13, 42, 180, 0, 33, 4, 96]
abbrev dktX1_enqueue_0 : List UInt8 := dkwX1_enqueue_0 ++ dktX1_enqueue_1
theorem dksX1_enqueue_0 : cX1_enqueue.data.toList.drop 0 = dktX1_enqueue_0 := by decide +kernel
theorem dksX1_enqueue_1 : cX1_enqueue.data.toList.drop 23 = dktX1_enqueue_1 := dk_seg dksX1_enqueue_0 23 rfl rfl
theorem dksX1_enqueue_2 : cX1_enqueue.data.toList.drop 45 = dktX1_enqueue_2 := dk_seg dksX1_enqueue_1 22 rfl rfl
theorem dksX1_enqueue_3 : cX1_enqueue.data.toList.drop 69 = dktX1_enqueue_3 := dk_seg dksX1_enqueue_2 24 rfl rfl
theorem dX1_enqueue_0 : decode cX1_enqueue 0 = .ok (.aload_n 0, 1) := dk_42 (dk_at dksX1_enqueue_0 0 rfl rfl)
theorem dX1_enqueue_1 : decode cX1_enqueue 1 = .ok (.getfield 33, 3) := dk_180 0 33 (dk_at dksX1_enqueue_0 1 rfl rfl)
theorem dX1_enqueue_4 : decode cX1_enqueue 4 = .ok (.aload_n 0, 1) := dk_42 (dk_at dksX1_enqueue_0 4 rfl rfl)
theorem dX1_enqueue_5 : decode cX1_enqueue 5 = .ok (.getfield 13, 3) := dk_180 0 13 (dk_at dksX1_enqueue_0 5 rfl rfl)
theorem dX1_enqueue_8 : decode cX1_enqueue 8 = .ok (.arraylength, 1) := dk_190 (dk_at dksX1_enqueue_0 8 rfl rfl)
theorem dX1_enqueue_9 : decode cX1_enqueue 9 = .ok (.if_icmp .ne 20, 3) := dk_160 0 20 (dk_at dksX1_enqueue_0 9 rfl rfl)
theorem dX1_enqueue_12 : decode cX1_enqueue 12 = .ok (.aload_n 0, 1) := dk_42 (dk_at dksX1_enqueue_0 12 rfl rfl)
theorem dX1_enqueue_13 : decode cX1_enqueue 13 = .ok (.aload_n 0, 1) := dk_42 (dk_at dksX1_enqueue_0 13 rfl rfl)
theorem dX1_enqueue_14 : decode cX1_enqueue 14 = .ok (.getfield 13, 3) := dk_180 0 13 (dk_at dksX1_enqueue_0 14 rfl rfl)
theorem dX1_enqueue_17 : decode cX1_enqueue 17 = .ok (.aload_n 0, 1) := dk_42 (dk_at dksX1_enqueue_0 17 rfl rfl)
theorem dX1_enqueue_18 : decode cX1_enqueue 18 = .ok (.getfield 33, 3) := dk_180 0 33 (dk_at dksX1_enqueue_0 18 rfl rfl)
theorem dX1_enqueue_21 : decode cX1_enqueue 21 = .ok (.iconst 1, 1) := dk_4 (dk_at dksX1_enqueue_0 21 rfl rfl)
theorem dX1_enqueue_22 : decode cX1_enqueue 22 = .ok (.iadd, 1) := dk_96 (dk_at dksX1_enqueue_0 22 rfl rfl)
theorem dX1_enqueue_23 : decode cX1_enqueue 23 = .ok (.invokestatic 39, 3) := dk_184 0 39 (dk_at dksX1_enqueue_1 0 rfl rfl)
theorem dX1_enqueue_26 : decode cX1_enqueue 26 = .ok (.putfield 13, 3) := dk_181 0 13 (dk_at dksX1_enqueue_1 3 rfl rfl)
theorem dX1_enqueue_29 : decode cX1_enqueue 29 = .ok (.aload_n 0, 1) := dk_42 (dk_at dksX1_enqueue_1 6 rfl rfl)
theorem dX1_enqueue_30 : decode cX1_enqueue 30 = .ok (.getfield 25, 3) := dk_180 0 25 (dk_at dksX1_enqueue_1 7 rfl rfl)
theorem dX1_enqueue_33 : decode cX1_enqueue 33 = .ok (.ifCond .eq 34, 3) := dk_153 0 34 (dk_at dksX1_enqueue_1 10 rfl rfl)
theorem dX1_enqueue_36 : decode cX1_enqueue 36 = .ok (.aload_n 0, 1) := dk_42 (dk_at dksX1_enqueue_1 13 rfl rfl)
theorem dX1_enqueue_37 : decode cX1_enqueue 37 = .ok (.getfield 18, 3) := dk_180 0 18 (dk_at dksX1_enqueue_1 14 rfl rfl)
theorem dX1_enqueue_40 : decode cX1_enqueue 40 = .ok (.ifnonnull 32, 3) := dk_199 0 32 (dk_at dksX1_enqueue_1 17 rfl rfl)
theorem dX1_enqueue_43 : decode cX1_enqueue 43 = .ok (.iload_n 1, 1) := dk_27 (dk_at dksX1_enqueue_1 20 rfl rfl)
theorem dX1_enqueue_44 : decode cX1_enqueue 44 = .ok (.aload_n 0, 1) := dk_42 (dk_at dksX1_enqueue_1 21 rfl rfl)
theorem dX1_enqueue_45 : decode cX1_enqueue 45 = .ok (.getfield 13, 3) := dk_180 0 13 (dk_at dksX1_enqueue_2 0 rfl rfl)
theorem dX1_enqueue_48 : decode cX1_enqueue 48 = .ok (.aload_n 0, 1) := dk_42 (dk_at dksX1_enqueue_2 3 rfl rfl)
theorem dX1_enqueue_49 : decode cX1_enqueue 49 = .ok (.getfield 29, 3) := dk_180 0 29 (dk_at dksX1_enqueue_2 4 rfl rfl)
theorem dX1_enqueue_52 : decode cX1_enqueue 52 = .ok (.iaload, 1) := dk_46 (dk_at dksX1_enqueue_2 7 rfl rfl)
theorem dX1_enqueue_53 : decode cX1_enqueue 53 = .ok (.if_icmp .ge 19, 3) := dk_162 0 19 (dk_at dksX1_enqueue_2 8 rfl rfl)
theorem dX1_enqueue_56 : decode cX1_enqueue 56 = .ok (.aload_n 0, 1) := dk_42 (dk_at dksX1_enqueue_2 11 rfl rfl)
theorem dX1_enqueue_57 : decode cX1_enqueue 57 = .ok (.aload_n 0, 1) := dk_42 (dk_at dksX1_enqueue_2 12 rfl rfl)
theorem dX1_enqueue_58 : decode cX1_enqueue 58 = .ok (.getfield 33, 3) := dk_180 0 33 (dk_at dksX1_enqueue_2 13 rfl rfl)
theorem dX1_enqueue_61 : decode cX1_enqueue 61 = .ok (.putfield 29, 3) := dk_181 0 29 (dk_at dksX1_enqueue_2 16 rfl rfl)
theorem dX1_enqueue_64 : decode cX1_enqueue 64 = .ok (.goto 8, 3) := dk_167 0 8 (dk_at dksX1_enqueue_2 19 rfl rfl)
theorem dX1_enqueue_67 : decode cX1_enqueue 67 = .ok (.aload_n 0, 1) := dk_42 (dk_at dksX1_enqueue_2 22 rfl rfl)
theorem dX1_enqueue_68 : decode cX1_enqueue 68 = .ok (.iconst 0, 1) := dk_3 (dk_at dksX1_enqueue_2 23 rfl rfl)
theorem dX1_enqueue_69 : decode cX1_enqueue 69 = .ok (.putfield 25, 3) := dk_181 0 25 (dk_at dksX1_enqueue_3 0 rfl rfl)
theorem dX1_enqueue_72 : decode cX1_enqueue 72 = .ok (.aload_n 0, 1) := dk_42 (dk_at dksX1_enqueue_3 3 rfl rfl)
theorem dX1_enqueue_73 : decode cX1_enqueue 73 = .ok (.getfield 13, 3) := dk_180 0 13 (dk_at dksX1_enqueue_3 4 rfl rfl)
theorem dX1_enqueue_76 : decode cX1_enqueue 76 = .ok (.aload_n 0, 1) := dk_42 (dk_at dksX1_enqueue_3 7 rfl rfl)
theorem dX1_enqueue_77 : decode cX1_enqueue 77 = .ok (.dup, 1) := dk_89 (dk_at dksX1_enqueue_3 8 rfl rfl)
theorem dX1_enqueue_78 : decode cX1_enqueue 78 = .ok (.getfield 33, 3) := dk_180 0 33 (dk_at dksX1_enqueue_3 9 rfl rfl)
theorem dX1_enqueue_81 : decode cX1_enqueue 81 = .ok (.dup_x1, 1) := dk_90 (dk_at dksX1_enqueue_3 12 rfl rfl)
theorem dX1_enqueue_82 : decode cX1_enqueue 82 = .ok (.iconst 1, 1) := dk_4 (dk_at dksX1_enqueue_3 13 rfl rfl)
theorem dX1_enqueue_83 : decode cX1_enqueue 83 = .ok (.iadd, 1) := dk_96 (dk_at dksX1_enqueue_3 14 rfl rfl)
theorem dX1_enqueue_84 : decode cX1_enqueue 84 = .ok (.putfield 33, 3) := dk_181 0 33 (dk_at dksX1_enqueue_3 15 rfl rfl)
theorem dX1_enqueue_87 : decode cX1_enqueue 87 = .ok (.iload_n 1, 1) := dk_27 (dk_at dksX1_enqueue_3 18 rfl rfl)
theorem dX1_enqueue_88 : decode cX1_enqueue 88 = .ok (.iastore, 1) := dk_79 (dk_at dksX1_enqueue_3 19 rfl rfl)
theorem dX1_enqueue_89 : decode cX1_enqueue 89 = .ok (.return_, 1) := dk_177 (dk_at dksX1_enqueue_3 20 rfl rfl)
abbrev cX1_firstInt : ByteArray := prog_4_method_7_code
def yX1_firstInt : MethodName := ⟨RX1, "firstInt", "()I"⟩
def dkwX1_firstInt_0 : List UInt8 := [42, 182, 0, 43, 42, 180, 0, 13, 42, 182, 0, 46, 46, 172]
abbrev dktX1_firstInt_0 : List UInt8 := dkwX1_firstInt_0 ++ []
theorem dksX1_firstInt_0 : cX1_firstInt.data.toList.drop 0 = dktX1_firstInt_0 := by decide +kernel
theorem dX1_firstInt_0 : decode cX1_firstInt 0 = .ok (.aload_n 0, 1) := dk_42 (dk_at dksX1_firstInt_0 0 rfl rfl)
theorem dX1_firstInt_1 : decode cX1_firstInt 1 = .ok (.invokevirtual 43, 3) := dk_182 0 43 (dk_at dksX1_firstInt_0 1 rfl rfl)
theorem dX1_firstInt_4 : decode cX1_firstInt 4 = .ok (.aload_n 0, 1) := dk_42 (dk_at dksX1_firstInt_0 4 rfl rfl)
theorem dX1_firstInt_5 : decode cX1_firstInt 5 = .ok (.getfield 13, 3) := dk_180 0 13 (dk_at dksX1_firstInt_0 5 rfl rfl)
theorem dX1_firstInt_8 : decode cX1_firstInt 8 = .ok (.aload_n 0, 1) := dk_42 (dk_at dksX1_firstInt_0 8 rfl rfl)
theorem dX1_firstInt_9 : decode cX1_firstInt 9 = .ok (.invokevirtual 46, 3) := dk_182 0 46 (dk_at dksX1_firstInt_0 9 rfl rfl)
theorem dX1_firstInt_12 : decode cX1_firstInt 12 = .ok (.iaload, 1) := dk_46 (dk_at dksX1_firstInt_0 12 rfl rfl)
theorem dX1_firstInt_13 : decode cX1_firstInt 13 = .ok (.ireturn, 1) := dk_172 (dk_at dksX1_firstInt_0 13 rfl rfl)
abbrev cX1_ensureNonEmpty : ByteArray := prog_4_method_4_code
def yX1_ensureNonEmpty : MethodName := ⟨RX1, "ensureNonEmpty", "()V"⟩
def dkwX1_ensureNonEmpty_0 : List UInt8 := [42, 180, 0, 33, 154, 0, 11, 187, 0, 36, 89, 183, 0, 38, 191, 177]
abbrev dktX1_ensureNonEmpty_0 : List UInt8 := dkwX1_ensureNonEmpty_0 ++ []
theorem dksX1_ensureNonEmpty_0 : cX1_ensureNonEmpty.data.toList.drop 0 = dktX1_ensureNonEmpty_0 := by decide +kernel
theorem dX1_ensureNonEmpty_0 : decode cX1_ensureNonEmpty 0 = .ok (.aload_n 0, 1) := dk_42 (dk_at dksX1_ensureNonEmpty_0 0 rfl rfl)
theorem dX1_ensureNonEmpty_1 : decode cX1_ensureNonEmpty 1 = .ok (.getfield 33, 3) := dk_180 0 33 (dk_at dksX1_ensureNonEmpty_0 1 rfl rfl)
theorem dX1_ensureNonEmpty_4 : decode cX1_ensureNonEmpty 4 = .ok (.ifCond .ne 11, 3) := dk_154 0 11 (dk_at dksX1_ensureNonEmpty_0 4 rfl rfl)
theorem dX1_ensureNonEmpty_7 : decode cX1_ensureNonEmpty 7 = .ok (.new 36, 3) := dk_187 0 36 (dk_at dksX1_ensureNonEmpty_0 7 rfl rfl)
theorem dX1_ensureNonEmpty_10 : decode cX1_ensureNonEmpty 10 = .ok (.dup, 1) := dk_89 (dk_at dksX1_ensureNonEmpty_0 10 rfl rfl)
theorem dX1_ensureNonEmpty_11 : decode cX1_ensureNonEmpty 11 = .ok (.invokespecial 38, 3) := dk_183 0 38 (dk_at dksX1_ensureNonEmpty_0 11 rfl rfl)
theorem dX1_ensureNonEmpty_14 : decode cX1_ensureNonEmpty 14 = .ok (.athrow, 1) := dk_191 (dk_at dksX1_ensureNonEmpty_0 14 rfl rfl)
theorem dX1_ensureNonEmpty_15 : decode cX1_ensureNonEmpty 15 = .ok (.return_, 1) := dk_177 (dk_at dksX1_ensureNonEmpty_0 15 rfl rfl)
abbrev cX1_findFirst : ByteArray := prog_4_method_3_code
def yX1_findFirst : MethodName := ⟨RX1, "findFirst", "()I"⟩
def dkwX1_findFirst_3 : List UInt8 := [167, 255, 230, 27, 132, 1, 255, 153, 0, 6, 167, 255, 249, 42, 28, 90, 181, 0, 29, 172]
abbrev dktX1_findFirst_3 : List UInt8 := dkwX1_findFirst_3 ++ []
def dkwX1_findFirst_2 : List UInt8 := [153, 0, 35, 42, 180, 0, 13, 27, 46, 29, 162, 255, 242, 42, 180, 0, 13, 27, 89, 61, 46, 62]
abbrev dktX1_findFirst_2 : List UInt8 := dkwX1_findFirst_2 ++ dktX1_findFirst_3
def dkwX1_findFirst_1 : List UInt8 := [132, 1, 255, 27, 61, 42, 180, 0, 13, 28, 46, 62, 42, 180, 0, 18, 199, 0, 32, 27, 132, 1, 255]
abbrev dktX1_findFirst_1 : List UInt8 := dkwX1_findFirst_1 ++ dktX1_findFirst_2
def dkwX1_findFirst_0 : List UInt8 := [42, 180, 0, 25, 153, 0, 8, 42, 180, 0, 29, 172, 42, 4, 181, 0, 25, 42, 180, 0, 33, 60]
abbrev dktX1_findFirst_0 : List UInt8 := dkwX1_findFirst_0 ++ dktX1_findFirst_1
theorem dksX1_findFirst_0 : cX1_findFirst.data.toList.drop 0 = dktX1_findFirst_0 := by decide +kernel
theorem dksX1_findFirst_1 : cX1_findFirst.data.toList.drop 22 = dktX1_findFirst_1 := dk_seg dksX1_findFirst_0 22 rfl rfl
theorem dksX1_findFirst_2 : cX1_findFirst.data.toList.drop 45 = dktX1_findFirst_2 := dk_seg dksX1_findFirst_1 23 rfl rfl
theorem dksX1_findFirst_3 : cX1_findFirst.data.toList.drop 67 = dktX1_findFirst_3 := dk_seg dksX1_findFirst_2 22 rfl rfl
theorem dX1_findFirst_0 : decode cX1_findFirst 0 = .ok (.aload_n 0, 1) := dk_42 (dk_at dksX1_findFirst_0 0 rfl rfl)
theorem dX1_findFirst_1 : decode cX1_findFirst 1 = .ok (.getfield 25, 3) := dk_180 0 25 (dk_at dksX1_findFirst_0 1 rfl rfl)
theorem dX1_findFirst_4 : decode cX1_findFirst 4 = .ok (.ifCond .eq 8, 3) := dk_153 0 8 (dk_at dksX1_findFirst_0 4 rfl rfl)
theorem dX1_findFirst_7 : decode cX1_findFirst 7 = .ok (.aload_n 0, 1) := dk_42 (dk_at dksX1_findFirst_0 7 rfl rfl)
theorem dX1_findFirst_8 : decode cX1_findFirst 8 = .ok (.getfield 29, 3) := dk_180 0 29 (dk_at dksX1_findFirst_0 8 rfl rfl)
theorem dX1_findFirst_11 : decode cX1_findFirst 11 = .ok (.ireturn, 1) := dk_172 (dk_at dksX1_findFirst_0 11 rfl rfl)
theorem dX1_findFirst_12 : decode cX1_findFirst 12 = .ok (.aload_n 0, 1) := dk_42 (dk_at dksX1_findFirst_0 12 rfl rfl)
theorem dX1_findFirst_13 : decode cX1_findFirst 13 = .ok (.iconst 1, 1) := dk_4 (dk_at dksX1_findFirst_0 13 rfl rfl)
theorem dX1_findFirst_14 : decode cX1_findFirst 14 = .ok (.putfield 25, 3) := dk_181 0 25 (dk_at dksX1_findFirst_0 14 rfl rfl)
theorem dX1_findFirst_17 : decode cX1_findFirst 17 = .ok (.aload_n 0, 1) := dk_42 (dk_at dksX1_findFirst_0 17 rfl rfl)
theorem dX1_findFirst_18 : decode cX1_findFirst 18 = .ok (.getfield 33, 3) := dk_180 0 33 (dk_at dksX1_findFirst_0 18 rfl rfl)
theorem dX1_findFirst_21 : decode cX1_findFirst 21 = .ok (.istore_n 1, 1) := dk_60 (dk_at dksX1_findFirst_0 21 rfl rfl)
theorem dX1_findFirst_22 : decode cX1_findFirst 22 = .ok (.iinc 1 (-1), 3) := dk_132 1 255 (dk_at dksX1_findFirst_1 0 rfl rfl)
theorem dX1_findFirst_25 : decode cX1_findFirst 25 = .ok (.iload_n 1, 1) := dk_27 (dk_at dksX1_findFirst_1 3 rfl rfl)
theorem dX1_findFirst_26 : decode cX1_findFirst 26 = .ok (.istore_n 2, 1) := dk_61 (dk_at dksX1_findFirst_1 4 rfl rfl)
theorem dX1_findFirst_27 : decode cX1_findFirst 27 = .ok (.aload_n 0, 1) := dk_42 (dk_at dksX1_findFirst_1 5 rfl rfl)
theorem dX1_findFirst_28 : decode cX1_findFirst 28 = .ok (.getfield 13, 3) := dk_180 0 13 (dk_at dksX1_findFirst_1 6 rfl rfl)
theorem dX1_findFirst_31 : decode cX1_findFirst 31 = .ok (.iload_n 2, 1) := dk_28 (dk_at dksX1_findFirst_1 9 rfl rfl)
theorem dX1_findFirst_32 : decode cX1_findFirst 32 = .ok (.iaload, 1) := dk_46 (dk_at dksX1_findFirst_1 10 rfl rfl)
theorem dX1_findFirst_33 : decode cX1_findFirst 33 = .ok (.istore_n 3, 1) := dk_62 (dk_at dksX1_findFirst_1 11 rfl rfl)
theorem dX1_findFirst_34 : decode cX1_findFirst 34 = .ok (.aload_n 0, 1) := dk_42 (dk_at dksX1_findFirst_1 12 rfl rfl)
theorem dX1_findFirst_35 : decode cX1_findFirst 35 = .ok (.getfield 18, 3) := dk_180 0 18 (dk_at dksX1_findFirst_1 13 rfl rfl)
theorem dX1_findFirst_38 : decode cX1_findFirst 38 = .ok (.ifnonnull 32, 3) := dk_199 0 32 (dk_at dksX1_findFirst_1 16 rfl rfl)
theorem dX1_findFirst_41 : decode cX1_findFirst 41 = .ok (.iload_n 1, 1) := dk_27 (dk_at dksX1_findFirst_1 19 rfl rfl)
theorem dX1_findFirst_42 : decode cX1_findFirst 42 = .ok (.iinc 1 (-1), 3) := dk_132 1 255 (dk_at dksX1_findFirst_1 20 rfl rfl)
theorem dX1_findFirst_45 : decode cX1_findFirst 45 = .ok (.ifCond .eq 35, 3) := dk_153 0 35 (dk_at dksX1_findFirst_2 0 rfl rfl)
theorem dX1_findFirst_48 : decode cX1_findFirst 48 = .ok (.aload_n 0, 1) := dk_42 (dk_at dksX1_findFirst_2 3 rfl rfl)
theorem dX1_findFirst_49 : decode cX1_findFirst 49 = .ok (.getfield 13, 3) := dk_180 0 13 (dk_at dksX1_findFirst_2 4 rfl rfl)
theorem dX1_findFirst_52 : decode cX1_findFirst 52 = .ok (.iload_n 1, 1) := dk_27 (dk_at dksX1_findFirst_2 7 rfl rfl)
theorem dX1_findFirst_53 : decode cX1_findFirst 53 = .ok (.iaload, 1) := dk_46 (dk_at dksX1_findFirst_2 8 rfl rfl)
theorem dX1_findFirst_54 : decode cX1_findFirst 54 = .ok (.iload_n 3, 1) := dk_29 (dk_at dksX1_findFirst_2 9 rfl rfl)
theorem dX1_findFirst_55 : decode cX1_findFirst 55 = .ok (.if_icmp .ge (-14), 3) := dk_162 255 242 (dk_at dksX1_findFirst_2 10 rfl rfl)
theorem dX1_findFirst_58 : decode cX1_findFirst 58 = .ok (.aload_n 0, 1) := dk_42 (dk_at dksX1_findFirst_2 13 rfl rfl)
theorem dX1_findFirst_59 : decode cX1_findFirst 59 = .ok (.getfield 13, 3) := dk_180 0 13 (dk_at dksX1_findFirst_2 14 rfl rfl)
theorem dX1_findFirst_62 : decode cX1_findFirst 62 = .ok (.iload_n 1, 1) := dk_27 (dk_at dksX1_findFirst_2 17 rfl rfl)
theorem dX1_findFirst_63 : decode cX1_findFirst 63 = .ok (.dup, 1) := dk_89 (dk_at dksX1_findFirst_2 18 rfl rfl)
theorem dX1_findFirst_64 : decode cX1_findFirst 64 = .ok (.istore_n 2, 1) := dk_61 (dk_at dksX1_findFirst_2 19 rfl rfl)
theorem dX1_findFirst_65 : decode cX1_findFirst 65 = .ok (.iaload, 1) := dk_46 (dk_at dksX1_findFirst_2 20 rfl rfl)
theorem dX1_findFirst_66 : decode cX1_findFirst 66 = .ok (.istore_n 3, 1) := dk_62 (dk_at dksX1_findFirst_2 21 rfl rfl)
theorem dX1_findFirst_67 : decode cX1_findFirst 67 = .ok (.goto (-26), 3) := dk_167 255 230 (dk_at dksX1_findFirst_3 0 rfl rfl)
theorem dX1_findFirst_70 : decode cX1_findFirst 70 = .ok (.iload_n 1, 1) := dk_27 (dk_at dksX1_findFirst_3 3 rfl rfl)
theorem dX1_findFirst_71 : decode cX1_findFirst 71 = .ok (.iinc 1 (-1), 3) := dk_132 1 255 (dk_at dksX1_findFirst_3 4 rfl rfl)
theorem dX1_findFirst_74 : decode cX1_findFirst 74 = .ok (.ifCond .eq 6, 3) := dk_153 0 6 (dk_at dksX1_findFirst_3 7 rfl rfl)
theorem dX1_findFirst_77 : decode cX1_findFirst 77 = .ok (.goto (-7), 3) := dk_167 255 249 (dk_at dksX1_findFirst_3 10 rfl rfl)
theorem dX1_findFirst_80 : decode cX1_findFirst 80 = .ok (.aload_n 0, 1) := dk_42 (dk_at dksX1_findFirst_3 13 rfl rfl)
theorem dX1_findFirst_81 : decode cX1_findFirst 81 = .ok (.iload_n 2, 1) := dk_28 (dk_at dksX1_findFirst_3 14 rfl rfl)
theorem dX1_findFirst_82 : decode cX1_findFirst 82 = .ok (.dup_x1, 1) := dk_90 (dk_at dksX1_findFirst_3 15 rfl rfl)
theorem dX1_findFirst_83 : decode cX1_findFirst 83 = .ok (.putfield 29, 3) := dk_181 0 29 (dk_at dksX1_findFirst_3 16 rfl rfl)
theorem dX1_findFirst_86 : decode cX1_findFirst 86 = .ok (.ireturn, 1) := dk_172 (dk_at dksX1_findFirst_3 19 rfl rfl)
abbrev cX1_dequeueInt : ByteArray := prog_4_method_6_code
def yX1_dequeueInt : MethodName := ⟨RX1, "dequeueInt", "()I"⟩
def dkwX1_dequeueInt_2 : List UInt8 := [181, 0, 25, 28, 172]
abbrev dktX1_dequeueInt_2 : List UInt8 := dkwX1_dequeueInt_2 ++ []
def dkwX1_dequeueInt_1 : List UInt8 := [180, 0, 13, 27, 42, 89, 180, 0, 33, 4, 100, 90, 181, 0, 33, 27, 100, 184, 0, 50, 42, 3]
abbrev dktX1_dequeueInt_1 : List UInt8 := dkwX1_dequeueInt_1 ++ dktX1_dequeueInt_2
def dkwX1_dequeueInt_0 : List UInt8 := [42, 182, 0, 43, 42, 182, 0, 46, 60, 42, 180, 0, 13, 27, 46, 61, 42, 180, 0, 13, 27, 4, 96, 42]
abbrev dktX1_dequeueInt_0 : List UInt8 := dkwX1_dequeueInt_0 ++ dktX1_dequeueInt_1
theorem dksX1_dequeueInt_0 : cX1_dequeueInt.data.toList.drop 0 = dktX1_dequeueInt_0 := by decide +kernel
theorem dksX1_dequeueInt_1 : cX1_dequeueInt.data.toList.drop 24 = dktX1_dequeueInt_1 := dk_seg dksX1_dequeueInt_0 24 rfl rfl
theorem dksX1_dequeueInt_2 : cX1_dequeueInt.data.toList.drop 46 = dktX1_dequeueInt_2 := dk_seg dksX1_dequeueInt_1 22 rfl rfl
theorem dX1_dequeueInt_0 : decode cX1_dequeueInt 0 = .ok (.aload_n 0, 1) := dk_42 (dk_at dksX1_dequeueInt_0 0 rfl rfl)
theorem dX1_dequeueInt_1 : decode cX1_dequeueInt 1 = .ok (.invokevirtual 43, 3) := dk_182 0 43 (dk_at dksX1_dequeueInt_0 1 rfl rfl)
theorem dX1_dequeueInt_4 : decode cX1_dequeueInt 4 = .ok (.aload_n 0, 1) := dk_42 (dk_at dksX1_dequeueInt_0 4 rfl rfl)
theorem dX1_dequeueInt_5 : decode cX1_dequeueInt 5 = .ok (.invokevirtual 46, 3) := dk_182 0 46 (dk_at dksX1_dequeueInt_0 5 rfl rfl)
theorem dX1_dequeueInt_8 : decode cX1_dequeueInt 8 = .ok (.istore_n 1, 1) := dk_60 (dk_at dksX1_dequeueInt_0 8 rfl rfl)
theorem dX1_dequeueInt_9 : decode cX1_dequeueInt 9 = .ok (.aload_n 0, 1) := dk_42 (dk_at dksX1_dequeueInt_0 9 rfl rfl)
theorem dX1_dequeueInt_10 : decode cX1_dequeueInt 10 = .ok (.getfield 13, 3) := dk_180 0 13 (dk_at dksX1_dequeueInt_0 10 rfl rfl)
theorem dX1_dequeueInt_13 : decode cX1_dequeueInt 13 = .ok (.iload_n 1, 1) := dk_27 (dk_at dksX1_dequeueInt_0 13 rfl rfl)
theorem dX1_dequeueInt_14 : decode cX1_dequeueInt 14 = .ok (.iaload, 1) := dk_46 (dk_at dksX1_dequeueInt_0 14 rfl rfl)
theorem dX1_dequeueInt_15 : decode cX1_dequeueInt 15 = .ok (.istore_n 2, 1) := dk_61 (dk_at dksX1_dequeueInt_0 15 rfl rfl)
theorem dX1_dequeueInt_16 : decode cX1_dequeueInt 16 = .ok (.aload_n 0, 1) := dk_42 (dk_at dksX1_dequeueInt_0 16 rfl rfl)
theorem dX1_dequeueInt_17 : decode cX1_dequeueInt 17 = .ok (.getfield 13, 3) := dk_180 0 13 (dk_at dksX1_dequeueInt_0 17 rfl rfl)
theorem dX1_dequeueInt_20 : decode cX1_dequeueInt 20 = .ok (.iload_n 1, 1) := dk_27 (dk_at dksX1_dequeueInt_0 20 rfl rfl)
theorem dX1_dequeueInt_21 : decode cX1_dequeueInt 21 = .ok (.iconst 1, 1) := dk_4 (dk_at dksX1_dequeueInt_0 21 rfl rfl)
theorem dX1_dequeueInt_22 : decode cX1_dequeueInt 22 = .ok (.iadd, 1) := dk_96 (dk_at dksX1_dequeueInt_0 22 rfl rfl)
theorem dX1_dequeueInt_23 : decode cX1_dequeueInt 23 = .ok (.aload_n 0, 1) := dk_42 (dk_at dksX1_dequeueInt_0 23 rfl rfl)
theorem dX1_dequeueInt_24 : decode cX1_dequeueInt 24 = .ok (.getfield 13, 3) := dk_180 0 13 (dk_at dksX1_dequeueInt_1 0 rfl rfl)
theorem dX1_dequeueInt_27 : decode cX1_dequeueInt 27 = .ok (.iload_n 1, 1) := dk_27 (dk_at dksX1_dequeueInt_1 3 rfl rfl)
theorem dX1_dequeueInt_28 : decode cX1_dequeueInt 28 = .ok (.aload_n 0, 1) := dk_42 (dk_at dksX1_dequeueInt_1 4 rfl rfl)
theorem dX1_dequeueInt_29 : decode cX1_dequeueInt 29 = .ok (.dup, 1) := dk_89 (dk_at dksX1_dequeueInt_1 5 rfl rfl)
theorem dX1_dequeueInt_30 : decode cX1_dequeueInt 30 = .ok (.getfield 33, 3) := dk_180 0 33 (dk_at dksX1_dequeueInt_1 6 rfl rfl)
theorem dX1_dequeueInt_33 : decode cX1_dequeueInt 33 = .ok (.iconst 1, 1) := dk_4 (dk_at dksX1_dequeueInt_1 9 rfl rfl)
theorem dX1_dequeueInt_34 : decode cX1_dequeueInt 34 = .ok (.isub, 1) := dk_100 (dk_at dksX1_dequeueInt_1 10 rfl rfl)
theorem dX1_dequeueInt_35 : decode cX1_dequeueInt 35 = .ok (.dup_x1, 1) := dk_90 (dk_at dksX1_dequeueInt_1 11 rfl rfl)
theorem dX1_dequeueInt_36 : decode cX1_dequeueInt 36 = .ok (.putfield 33, 3) := dk_181 0 33 (dk_at dksX1_dequeueInt_1 12 rfl rfl)
theorem dX1_dequeueInt_39 : decode cX1_dequeueInt 39 = .ok (.iload_n 1, 1) := dk_27 (dk_at dksX1_dequeueInt_1 15 rfl rfl)
theorem dX1_dequeueInt_40 : decode cX1_dequeueInt 40 = .ok (.isub, 1) := dk_100 (dk_at dksX1_dequeueInt_1 16 rfl rfl)
theorem dX1_dequeueInt_41 : decode cX1_dequeueInt 41 = .ok (.invokestatic 50, 3) := dk_184 0 50 (dk_at dksX1_dequeueInt_1 17 rfl rfl)
theorem dX1_dequeueInt_44 : decode cX1_dequeueInt 44 = .ok (.aload_n 0, 1) := dk_42 (dk_at dksX1_dequeueInt_1 20 rfl rfl)
theorem dX1_dequeueInt_45 : decode cX1_dequeueInt 45 = .ok (.iconst 0, 1) := dk_3 (dk_at dksX1_dequeueInt_1 21 rfl rfl)
theorem dX1_dequeueInt_46 : decode cX1_dequeueInt 46 = .ok (.putfield 25, 3) := dk_181 0 25 (dk_at dksX1_dequeueInt_2 0 rfl rfl)
theorem dX1_dequeueInt_49 : decode cX1_dequeueInt 49 = .ok (.iload_n 2, 1) := dk_28 (dk_at dksX1_dequeueInt_2 3 rfl rfl)
theorem dX1_dequeueInt_50 : decode cX1_dequeueInt 50 = .ok (.ireturn, 1) := dk_172 (dk_at dksX1_dequeueInt_2 4 rfl rfl)
abbrev cX1_trim : ByteArray := prog_4_method_10_code
def yX1_trim : MethodName := ⟨RX1, "trim", "()V"⟩
def dkwX1_trim_0 : List UInt8 := [42, 42, 180, 0, 13, 42, 180, 0, 33, 184, 0, 56, 181, 0, 13, 177]
abbrev dktX1_trim_0 : List UInt8 := dkwX1_trim_0 ++ []
theorem dksX1_trim_0 : cX1_trim.data.toList.drop 0 = dktX1_trim_0 := by decide +kernel
theorem dX1_trim_0 : decode cX1_trim 0 = .ok (.aload_n 0, 1) := dk_42 (dk_at dksX1_trim_0 0 rfl rfl)
theorem dX1_trim_1 : decode cX1_trim 1 = .ok (.aload_n 0, 1) := dk_42 (dk_at dksX1_trim_0 1 rfl rfl)
theorem dX1_trim_2 : decode cX1_trim 2 = .ok (.getfield 13, 3) := dk_180 0 13 (dk_at dksX1_trim_0 2 rfl rfl)
theorem dX1_trim_5 : decode cX1_trim 5 = .ok (.aload_n 0, 1) := dk_42 (dk_at dksX1_trim_0 5 rfl rfl)
theorem dX1_trim_6 : decode cX1_trim 6 = .ok (.getfield 33, 3) := dk_180 0 33 (dk_at dksX1_trim_0 6 rfl rfl)
theorem dX1_trim_9 : decode cX1_trim 9 = .ok (.invokestatic 56, 3) := dk_184 0 56 (dk_at dksX1_trim_0 9 rfl rfl)
theorem dX1_trim_12 : decode cX1_trim 12 = .ok (.putfield 13, 3) := dk_181 0 13 (dk_at dksX1_trim_0 12 rfl rfl)
theorem dX1_trim_15 : decode cX1_trim 15 = .ok (.return_, 1) := dk_177 (dk_at dksX1_trim_0 15 rfl rfl)
abbrev cX1_clear : ByteArray := prog_4_method_9_code
def yX1_clear : MethodName := ⟨RX1, "clear", "()V"⟩
def dkwX1_clear_0 : List UInt8 := [42, 3, 181, 0, 33, 42, 3, 181, 0, 25, 177]
abbrev dktX1_clear_0 : List UInt8 := dkwX1_clear_0 ++ []
theorem dksX1_clear_0 : cX1_clear.data.toList.drop 0 = dktX1_clear_0 := by decide +kernel
theorem dX1_clear_0 : decode cX1_clear 0 = .ok (.aload_n 0, 1) := dk_42 (dk_at dksX1_clear_0 0 rfl rfl)
theorem dX1_clear_1 : decode cX1_clear 1 = .ok (.iconst 0, 1) := dk_3 (dk_at dksX1_clear_0 1 rfl rfl)
theorem dX1_clear_2 : decode cX1_clear 2 = .ok (.putfield 33, 3) := dk_181 0 33 (dk_at dksX1_clear_0 2 rfl rfl)
theorem dX1_clear_5 : decode cX1_clear 5 = .ok (.aload_n 0, 1) := dk_42 (dk_at dksX1_clear_0 5 rfl rfl)
theorem dX1_clear_6 : decode cX1_clear 6 = .ok (.iconst 0, 1) := dk_3 (dk_at dksX1_clear_0 6 rfl rfl)
theorem dX1_clear_7 : decode cX1_clear 7 = .ok (.putfield 25, 3) := dk_181 0 25 (dk_at dksX1_clear_0 7 rfl rfl)
theorem dX1_clear_10 : decode cX1_clear 10 = .ok (.return_, 1) := dk_177 (dk_at dksX1_clear_0 10 rfl rfl)
theorem q7 : (Jvm.Cond.initialized "IntArrayPriorityQueue") ∈ lw_all := lw_g (lw_at lw_m1 2 rfl) rfl
theorem q25 : (Jvm.Cond.instantiable "IntArrayPriorityQueue" (5 : Nat)) ∈ lw_all := lw_g (lw_at lw_m1 20 rfl) rfl
theorem q27 : (Jvm.Cond.instanceMethod ({ cls := "IntArrayPriorityQueue", name := "<init>", desc := "()V" } : Jvm.MethodName)) ∈ lw_all := lw_g (lw_at lw_m1 22 rfl) rfl
theorem q28 : (Jvm.Cond.code ({ cls := "IntArrayPriorityQueue", name := "<init>", desc := "()V" } : Jvm.MethodName) prog_4_method_2_code (1 : Nat) (Option.none : Option Jvm.ClassFile.FieldType)) ∈ lw_all := lw_g (lw_at lw_m1 23 rfl) rfl
theorem q29 : (Jvm.Cond.methodLink "IntArrayPriorityQueue" (22 : Nat) ({ cls := "IntArrayPriorityQueue", name := "<init>", desc := "(ILIntComparator;)V" } : Jvm.MethodName)) ∈ lw_all := lw_g (lw_at lw_m1 24 rfl) rfl
theorem q30 : (Jvm.Cond.instanceMethod ({ cls := "IntArrayPriorityQueue", name := "<init>", desc := "(ILIntComparator;)V" } : Jvm.MethodName)) ∈ lw_all := lw_g (lw_at lw_m1 25 rfl) rfl
theorem q31 : (Jvm.Cond.code ({ cls := "IntArrayPriorityQueue", name := "<init>", desc := "(ILIntComparator;)V" } : Jvm.MethodName) prog_4_method_1_code (3 : Nat) (Option.none : Option Jvm.ClassFile.FieldType)) ∈ lw_all := lw_g (lw_at lw_m1 26 rfl) rfl
theorem q32 : (Jvm.Cond.methodLink "IntArrayPriorityQueue" (1 : Nat) ({ cls := "java/lang/Object", name := "<init>", desc := "()V" } : Jvm.MethodName)) ∈ lw_all := lw_g (lw_at lw_m1 27 rfl) rfl
theorem q33 : (Jvm.Cond.fieldLink "IntArrayPriorityQueue" (7 : Nat) "IntArrays" "EMPTY_ARRAY" "[I") ∈ lw_all := lw_g (lw_at lw_m1 28 rfl) rfl
theorem q35 : (Jvm.Cond.fieldLink "IntArrayPriorityQueue" (13 : Nat) "IntArrayPriorityQueue" "array" "[I") ∈ lw_all := lw_g (lw_at lw_m1 30 rfl) rfl
theorem q36 : (Jvm.Cond.fieldLink "IntArrayPriorityQueue" (33 : Nat) "IntArrayPriorityQueue" "size" "I") ∈ lw_all := lw_g (lw_at lw_m1 31 rfl) rfl
theorem q37 : (Jvm.Cond.fieldLink "IntArrayPriorityQueue" (18 : Nat) "IntArrayPriorityQueue" "c" "LIntComparator;") ∈ lw_all := lw_g (lw_at lw_m1 32 rfl) rfl
theorem q38 : (Jvm.Cond.fieldLink "IntArrayPriorityQueue" (29 : Nat) "IntArrayPriorityQueue" "firstIndex" "I") ∈ lw_all := lw_g (lw_at lw_m1 33 rfl) rfl
theorem q39 : (Jvm.Cond.fieldLink "IntArrayPriorityQueue" (25 : Nat) "IntArrayPriorityQueue" "firstIndexValid" "Z") ∈ lw_all := lw_g (lw_at lw_m1 34 rfl) rfl
theorem q40 : (Jvm.Cond.lays "IntArrayPriorityQueue" "IntArrayPriorityQueue" "array" "[I") ∈ lw_all := lw_g (lw_at lw_m1 35 rfl) rfl
theorem q41 : (Jvm.Cond.soleField "IntArrayPriorityQueue" "array") ∈ lw_all := lw_g (lw_at lw_m1 36 rfl) rfl
theorem q42 : (Jvm.Cond.lays "IntArrayPriorityQueue" "IntArrayPriorityQueue" "size" "I") ∈ lw_all := lw_g (lw_at lw_m1 37 rfl) rfl
theorem q43 : (Jvm.Cond.soleField "IntArrayPriorityQueue" "size") ∈ lw_all := lw_g (lw_at lw_m1 38 rfl) rfl
theorem q44 : (Jvm.Cond.lays "IntArrayPriorityQueue" "IntArrayPriorityQueue" "c" "LIntComparator;") ∈ lw_all := lw_g (lw_at lw_m1 39 rfl) rfl
theorem q45 : (Jvm.Cond.soleField "IntArrayPriorityQueue" "c") ∈ lw_all := lw_g (lw_at lw_m1 40 rfl) rfl
theorem q46 : (Jvm.Cond.lays "IntArrayPriorityQueue" "IntArrayPriorityQueue" "firstIndex" "I") ∈ lw_all := lw_g (lw_at lw_m1 41 rfl) rfl
theorem q47 : (Jvm.Cond.soleField "IntArrayPriorityQueue" "firstIndex") ∈ lw_all := lw_g (lw_at lw_m1 42 rfl) rfl
theorem q48 : (Jvm.Cond.lays "IntArrayPriorityQueue" "IntArrayPriorityQueue" "firstIndexValid" "Z") ∈ lw_all := lw_g (lw_at lw_m1 43 rfl) rfl
theorem q49 : (Jvm.Cond.soleField "IntArrayPriorityQueue" "firstIndexValid") ∈ lw_all := lw_g (lw_at lw_m1 44 rfl) rfl
theorem q50 : (Jvm.Cond.superclass "IntArrayPriorityQueue" "java/lang/Object") ∈ lw_all := lw_g (lw_at lw_m1 45 rfl) rfl
theorem q61 : (Jvm.Cond.instanceMethod ({ cls := "IntArrayPriorityQueue", name := "size", desc := "()I" } : Jvm.MethodName)) ∈ lw_all := lw_g (lw_at lw_m1 56 rfl) rfl
theorem q62 : (Jvm.Cond.selects "IntArrayPriorityQueue" ({ cls := "IntArrayPriorityQueue", name := "size", desc := "()I" } : Jvm.MethodName) ({ cls := "IntArrayPriorityQueue", name := "size", desc := "()I" } : Jvm.MethodName)) ∈ lw_all := lw_g (lw_at lw_m1 57 rfl) rfl
theorem q63 : (Jvm.Cond.code ({ cls := "IntArrayPriorityQueue", name := "size", desc := "()I" } : Jvm.MethodName) prog_4_method_8_code (1 : Nat) (Option.some Jvm.ClassFile.FieldType.int)) ∈ lw_all := lw_g (lw_at lw_m1 58 rfl) rfl
theorem q65 : (Jvm.Cond.instanceMethod ({ cls := "IntArrayPriorityQueue", name := "enqueue", desc := "(I)V" } : Jvm.MethodName)) ∈ lw_all := lw_g (lw_at lw_m1 60 rfl) rfl
theorem q66 : (Jvm.Cond.selects "IntArrayPriorityQueue" ({ cls := "IntArrayPriorityQueue", name := "enqueue", desc := "(I)V" } : Jvm.MethodName) ({ cls := "IntArrayPriorityQueue", name := "enqueue", desc := "(I)V" } : Jvm.MethodName)) ∈ lw_all := lw_g (lw_at lw_m1 61 rfl) rfl
theorem q67 : (Jvm.Cond.code ({ cls := "IntArrayPriorityQueue", name := "enqueue", desc := "(I)V" } : Jvm.MethodName) prog_4_method_5_code (2 : Nat) (Option.none : Option Jvm.ClassFile.FieldType)) ∈ lw_all := lw_g (lw_at lw_m1 62 rfl) rfl
theorem q68 : (Jvm.Cond.methodLink "IntArrayPriorityQueue" (39 : Nat) ({ cls := "IntArrays", name := "grow", desc := "([II)[I" } : Jvm.MethodName)) ∈ lw_all := lw_g (lw_at lw_m1 63 rfl) rfl
theorem q93 : (Jvm.Cond.instanceMethod ({ cls := "IntArrayPriorityQueue", name := "firstInt", desc := "()I" } : Jvm.MethodName)) ∈ lw_all := lw_g (lw_at lw_m1 88 rfl) rfl
theorem q94 : (Jvm.Cond.selects "IntArrayPriorityQueue" ({ cls := "IntArrayPriorityQueue", name := "firstInt", desc := "()I" } : Jvm.MethodName) ({ cls := "IntArrayPriorityQueue", name := "firstInt", desc := "()I" } : Jvm.MethodName)) ∈ lw_all := lw_g (lw_at lw_m1 89 rfl) rfl
theorem q95 : (Jvm.Cond.code ({ cls := "IntArrayPriorityQueue", name := "firstInt", desc := "()I" } : Jvm.MethodName) prog_4_method_7_code (1 : Nat) (Option.some Jvm.ClassFile.FieldType.int)) ∈ lw_all := lw_g (lw_at lw_m1 90 rfl) rfl
theorem q96 : (Jvm.Cond.methodLink "IntArrayPriorityQueue" (43 : Nat) ({ cls := "IntArrayPriorityQueue", name := "ensureNonEmpty", desc := "()V" } : Jvm.MethodName)) ∈ lw_all := lw_g (lw_at lw_m1 91 rfl) rfl
theorem q97 : (Jvm.Cond.privateMethod ({ cls := "IntArrayPriorityQueue", name := "ensureNonEmpty", desc := "()V" } : Jvm.MethodName)) ∈ lw_tbl := lw_at lw_m1 92 rfl
theorem q98 : (Jvm.Cond.instanceMethod ({ cls := "IntArrayPriorityQueue", name := "ensureNonEmpty", desc := "()V" } : Jvm.MethodName)) ∈ lw_all := lw_g (lw_at lw_m1 93 rfl) rfl
theorem q99 : (Jvm.Cond.code ({ cls := "IntArrayPriorityQueue", name := "ensureNonEmpty", desc := "()V" } : Jvm.MethodName) prog_4_method_4_code (1 : Nat) (Option.none : Option Jvm.ClassFile.FieldType)) ∈ lw_all := lw_g (lw_at lw_m1 94 rfl) rfl
theorem q100 : (Jvm.Cond.classLink "IntArrayPriorityQueue" (36 : Nat) "java/util/NoSuchElementException") ∈ lw_all := lw_g (lw_at lw_m1 95 rfl) rfl
theorem q139 : (Jvm.Cond.methodLink "IntArrayPriorityQueue" (38 : Nat) ({ cls := "java/util/NoSuchElementException", name := "<init>", desc := "()V" } : Jvm.MethodName)) ∈ lw_all := lw_g (lw_at lw_m1 134 rfl) rfl
theorem q161 : (Jvm.Cond.methodLink "IntArrayPriorityQueue" (46 : Nat) ({ cls := "IntArrayPriorityQueue", name := "findFirst", desc := "()I" } : Jvm.MethodName)) ∈ lw_all := lw_g (lw_at lw_m1 156 rfl) rfl
theorem q162 : (Jvm.Cond.privateMethod ({ cls := "IntArrayPriorityQueue", name := "findFirst", desc := "()I" } : Jvm.MethodName)) ∈ lw_tbl := lw_at lw_m1 157 rfl
theorem q163 : (Jvm.Cond.instanceMethod ({ cls := "IntArrayPriorityQueue", name := "findFirst", desc := "()I" } : Jvm.MethodName)) ∈ lw_all := lw_g (lw_at lw_m1 158 rfl) rfl
theorem q164 : (Jvm.Cond.code ({ cls := "IntArrayPriorityQueue", name := "findFirst", desc := "()I" } : Jvm.MethodName) prog_4_method_3_code (4 : Nat) (Option.some Jvm.ClassFile.FieldType.int)) ∈ lw_all := lw_g (lw_at lw_m1 159 rfl) rfl
theorem q170 : (Jvm.Cond.instanceMethod ({ cls := "IntArrayPriorityQueue", name := "dequeueInt", desc := "()I" } : Jvm.MethodName)) ∈ lw_all := lw_g (lw_at lw_m1 165 rfl) rfl
theorem q171 : (Jvm.Cond.selects "IntArrayPriorityQueue" ({ cls := "IntArrayPriorityQueue", name := "dequeueInt", desc := "()I" } : Jvm.MethodName) ({ cls := "IntArrayPriorityQueue", name := "dequeueInt", desc := "()I" } : Jvm.MethodName)) ∈ lw_all := lw_g (lw_at lw_m1 166 rfl) rfl
theorem q172 : (Jvm.Cond.code ({ cls := "IntArrayPriorityQueue", name := "dequeueInt", desc := "()I" } : Jvm.MethodName) prog_4_method_6_code (3 : Nat) (Option.some Jvm.ClassFile.FieldType.int)) ∈ lw_all := lw_g (lw_at lw_m1 167 rfl) rfl
theorem q173 : (Jvm.Cond.methodLink "IntArrayPriorityQueue" (50 : Nat) ({ cls := "java/lang/System", name := "arraycopy", desc := "(Ljava/lang/Object;ILjava/lang/Object;II)V" } : Jvm.MethodName)) ∈ lw_all := lw_g (lw_at lw_m1 168 rfl) rfl
theorem q188 : (Jvm.Cond.instanceMethod ({ cls := "IntArrayPriorityQueue", name := "trim", desc := "()V" } : Jvm.MethodName)) ∈ lw_all := lw_g (lw_at lw_m1 183 rfl) rfl
theorem q189 : (Jvm.Cond.selects "IntArrayPriorityQueue" ({ cls := "IntArrayPriorityQueue", name := "trim", desc := "()V" } : Jvm.MethodName) ({ cls := "IntArrayPriorityQueue", name := "trim", desc := "()V" } : Jvm.MethodName)) ∈ lw_all := lw_g (lw_at lw_m1 184 rfl) rfl
theorem q190 : (Jvm.Cond.code ({ cls := "IntArrayPriorityQueue", name := "trim", desc := "()V" } : Jvm.MethodName) prog_4_method_10_code (1 : Nat) (Option.none : Option Jvm.ClassFile.FieldType)) ∈ lw_all := lw_g (lw_at lw_m1 185 rfl) rfl
theorem q191 : (Jvm.Cond.methodLink "IntArrayPriorityQueue" (56 : Nat) ({ cls := "IntArrays", name := "trim", desc := "([II)[I" } : Jvm.MethodName)) ∈ lw_all := lw_g (lw_at lw_m1 186 rfl) rfl
theorem q200 : (Jvm.Cond.instanceMethod ({ cls := "IntArrayPriorityQueue", name := "clear", desc := "()V" } : Jvm.MethodName)) ∈ lw_all := lw_g (lw_at lw_m1 195 rfl) rfl
theorem q201 : (Jvm.Cond.selects "IntArrayPriorityQueue" ({ cls := "IntArrayPriorityQueue", name := "clear", desc := "()V" } : Jvm.MethodName) ({ cls := "IntArrayPriorityQueue", name := "clear", desc := "()V" } : Jvm.MethodName)) ∈ lw_all := lw_g (lw_at lw_m1 196 rfl) rfl
theorem q202 : (Jvm.Cond.code ({ cls := "IntArrayPriorityQueue", name := "clear", desc := "()V" } : Jvm.MethodName) prog_4_method_9_code (1 : Nat) (Option.none : Option Jvm.ClassFile.FieldType)) ∈ lw_all := lw_g (lw_at lw_m1 197 rfl) rfl
theorem q259 : (Jvm.Cond.castable "IntArrayPriorityQueue" "java/lang/Object") ∈ lw_tbl := lw_at lw_m2 14 rfl
theorem in_X1 : ∀ w ∈ wsX10, w ∈ lw_all := lw_in wsX10 [40, 42, 44, 46, 48] (by decide +kernel) (by decide +kernel)
/-! ArrayQueueDesk -/
set_option maxRecDepth 100000
def RX0 : String := "ArrayQueueDesk"
def TX0 : u_T := fun k => match k with
  | _ => ("ArrayQueueDesk", "queue", "LIntArrayPriorityQueue;", true)
def tyX0 : Nat → FieldType := fun k => match k with
  | _ => .object "IntArrayPriorityQueue"
abbrev wsX00 : List Cond := u_ws RX0 TX0 1
theorem nmX0 : ∀ a, a < 1 → ∀ b, b < 1 → a ≠ b → (TX0 a).2.1 ≠ (TX0 b).2.1 := by decide +kernel
theorem tyX0_ok : ∀ k, k < 1 → parseFieldDescriptor (TX0 k).2.2.1 = some (tyX0 k) := by decide +kernel
abbrev cX0_init : ByteArray := prog_1_method_1_code
def yX0_init : MethodName := ⟨RX0, "<init>", "()V"⟩
def dkwX0_init_0 : List UInt8 := [42, 183, 0, 1, 42, 187, 0, 7, 89, 183, 0, 9, 181, 0, 10, 177]
abbrev dktX0_init_0 : List UInt8 := dkwX0_init_0 ++ []
theorem dksX0_init_0 : cX0_init.data.toList.drop 0 = dktX0_init_0 := by decide +kernel
theorem dX0_init_0 : decode cX0_init 0 = .ok (.aload_n 0, 1) := dk_42 (dk_at dksX0_init_0 0 rfl rfl)
theorem dX0_init_1 : decode cX0_init 1 = .ok (.invokespecial 1, 3) := dk_183 0 1 (dk_at dksX0_init_0 1 rfl rfl)
theorem dX0_init_4 : decode cX0_init 4 = .ok (.aload_n 0, 1) := dk_42 (dk_at dksX0_init_0 4 rfl rfl)
theorem dX0_init_5 : decode cX0_init 5 = .ok (.new 7, 3) := dk_187 0 7 (dk_at dksX0_init_0 5 rfl rfl)
theorem dX0_init_8 : decode cX0_init 8 = .ok (.dup, 1) := dk_89 (dk_at dksX0_init_0 8 rfl rfl)
theorem dX0_init_9 : decode cX0_init 9 = .ok (.invokespecial 9, 3) := dk_183 0 9 (dk_at dksX0_init_0 9 rfl rfl)
theorem dX0_init_12 : decode cX0_init 12 = .ok (.putfield 10, 3) := dk_181 0 10 (dk_at dksX0_init_0 12 rfl rfl)
theorem dX0_init_15 : decode cX0_init 15 = .ok (.return_, 1) := dk_177 (dk_at dksX0_init_0 15 rfl rfl)
abbrev cX0_enter : ByteArray := prog_1_method_2_code
def yX0_enter : MethodName := ⟨RX0, "enter", "(I)Z"⟩
def dkwX0_enter_1 : List UInt8 := [172]
abbrev dktX0_enter_1 : List UInt8 := dkwX0_enter_1 ++ []
def dkwX0_enter_0 : List UInt8 := [42, 180, 0, 10, 182, 0, 16, 17, 0, 200, 161, 0, 5, 3, 172, 42, 180, 0, 10, 27, 182, 0, 20, 4]
abbrev dktX0_enter_0 : List UInt8 := dkwX0_enter_0 ++ dktX0_enter_1
theorem dksX0_enter_0 : cX0_enter.data.toList.drop 0 = dktX0_enter_0 := by decide +kernel
theorem dksX0_enter_1 : cX0_enter.data.toList.drop 24 = dktX0_enter_1 := dk_seg dksX0_enter_0 24 rfl rfl
theorem dX0_enter_0 : decode cX0_enter 0 = .ok (.aload_n 0, 1) := dk_42 (dk_at dksX0_enter_0 0 rfl rfl)
theorem dX0_enter_1 : decode cX0_enter 1 = .ok (.getfield 10, 3) := dk_180 0 10 (dk_at dksX0_enter_0 1 rfl rfl)
theorem dX0_enter_4 : decode cX0_enter 4 = .ok (.invokevirtual 16, 3) := dk_182 0 16 (dk_at dksX0_enter_0 4 rfl rfl)
theorem dX0_enter_7 : decode cX0_enter 7 = .ok (.sipush 200, 3) := dk_17 0 200 (dk_at dksX0_enter_0 7 rfl rfl)
theorem dX0_enter_10 : decode cX0_enter 10 = .ok (.if_icmp .lt 5, 3) := dk_161 0 5 (dk_at dksX0_enter_0 10 rfl rfl)
theorem dX0_enter_13 : decode cX0_enter 13 = .ok (.iconst 0, 1) := dk_3 (dk_at dksX0_enter_0 13 rfl rfl)
theorem dX0_enter_14 : decode cX0_enter 14 = .ok (.ireturn, 1) := dk_172 (dk_at dksX0_enter_0 14 rfl rfl)
theorem dX0_enter_15 : decode cX0_enter 15 = .ok (.aload_n 0, 1) := dk_42 (dk_at dksX0_enter_0 15 rfl rfl)
theorem dX0_enter_16 : decode cX0_enter 16 = .ok (.getfield 10, 3) := dk_180 0 10 (dk_at dksX0_enter_0 16 rfl rfl)
theorem dX0_enter_19 : decode cX0_enter 19 = .ok (.iload_n 1, 1) := dk_27 (dk_at dksX0_enter_0 19 rfl rfl)
theorem dX0_enter_20 : decode cX0_enter 20 = .ok (.invokevirtual 20, 3) := dk_182 0 20 (dk_at dksX0_enter_0 20 rfl rfl)
theorem dX0_enter_23 : decode cX0_enter 23 = .ok (.iconst 1, 1) := dk_4 (dk_at dksX0_enter_0 23 rfl rfl)
theorem dX0_enter_24 : decode cX0_enter 24 = .ok (.ireturn, 1) := dk_172 (dk_at dksX0_enter_1 0 rfl rfl)
abbrev cX0_many : ByteArray := prog_1_method_3_code
def yX0_many : MethodName := ⟨RX0, "many", "(III)I"⟩
def dkwX0_many_2 : List UInt8 := [167, 255, 220, 21, 5, 172]
abbrev dktX0_many_2 : List UInt8 := dkwX0_many_2 ++ []
def dkwX0_many_1 : List UInt8 := [17, 0, 200, 162, 0, 22, 42, 180, 0, 10, 27, 28, 21, 5, 104, 96, 182, 0, 20, 132, 5, 1]
abbrev dktX0_many_1 : List UInt8 := dkwX0_many_1 ++ dktX0_many_2
def dkwX0_many_0 : List UInt8 := [29, 16, 15, 126, 54, 4, 3, 54, 5, 21, 5, 21, 4, 162, 0, 35, 42, 180, 0, 10, 182, 0, 16]
abbrev dktX0_many_0 : List UInt8 := dkwX0_many_0 ++ dktX0_many_1
theorem dksX0_many_0 : cX0_many.data.toList.drop 0 = dktX0_many_0 := by decide +kernel
theorem dksX0_many_1 : cX0_many.data.toList.drop 23 = dktX0_many_1 := dk_seg dksX0_many_0 23 rfl rfl
theorem dksX0_many_2 : cX0_many.data.toList.drop 45 = dktX0_many_2 := dk_seg dksX0_many_1 22 rfl rfl
theorem dX0_many_0 : decode cX0_many 0 = .ok (.iload_n 3, 1) := dk_29 (dk_at dksX0_many_0 0 rfl rfl)
theorem dX0_many_1 : decode cX0_many 1 = .ok (.bipush 15, 2) := dk_16 15 (dk_at dksX0_many_0 1 rfl rfl)
theorem dX0_many_3 : decode cX0_many 3 = .ok (.iand, 1) := dk_126 (dk_at dksX0_many_0 3 rfl rfl)
theorem dX0_many_4 : decode cX0_many 4 = .ok (.istore 4, 2) := dk_54 4 (dk_at dksX0_many_0 4 rfl rfl)
theorem dX0_many_6 : decode cX0_many 6 = .ok (.iconst 0, 1) := dk_3 (dk_at dksX0_many_0 6 rfl rfl)
theorem dX0_many_7 : decode cX0_many 7 = .ok (.istore 5, 2) := dk_54 5 (dk_at dksX0_many_0 7 rfl rfl)
theorem dX0_many_9 : decode cX0_many 9 = .ok (.iload 5, 2) := dk_21 5 (dk_at dksX0_many_0 9 rfl rfl)
theorem dX0_many_11 : decode cX0_many 11 = .ok (.iload 4, 2) := dk_21 4 (dk_at dksX0_many_0 11 rfl rfl)
theorem dX0_many_13 : decode cX0_many 13 = .ok (.if_icmp .ge 35, 3) := dk_162 0 35 (dk_at dksX0_many_0 13 rfl rfl)
theorem dX0_many_16 : decode cX0_many 16 = .ok (.aload_n 0, 1) := dk_42 (dk_at dksX0_many_0 16 rfl rfl)
theorem dX0_many_17 : decode cX0_many 17 = .ok (.getfield 10, 3) := dk_180 0 10 (dk_at dksX0_many_0 17 rfl rfl)
theorem dX0_many_20 : decode cX0_many 20 = .ok (.invokevirtual 16, 3) := dk_182 0 16 (dk_at dksX0_many_0 20 rfl rfl)
theorem dX0_many_23 : decode cX0_many 23 = .ok (.sipush 200, 3) := dk_17 0 200 (dk_at dksX0_many_1 0 rfl rfl)
theorem dX0_many_26 : decode cX0_many 26 = .ok (.if_icmp .ge 22, 3) := dk_162 0 22 (dk_at dksX0_many_1 3 rfl rfl)
theorem dX0_many_29 : decode cX0_many 29 = .ok (.aload_n 0, 1) := dk_42 (dk_at dksX0_many_1 6 rfl rfl)
theorem dX0_many_30 : decode cX0_many 30 = .ok (.getfield 10, 3) := dk_180 0 10 (dk_at dksX0_many_1 7 rfl rfl)
theorem dX0_many_33 : decode cX0_many 33 = .ok (.iload_n 1, 1) := dk_27 (dk_at dksX0_many_1 10 rfl rfl)
theorem dX0_many_34 : decode cX0_many 34 = .ok (.iload_n 2, 1) := dk_28 (dk_at dksX0_many_1 11 rfl rfl)
theorem dX0_many_35 : decode cX0_many 35 = .ok (.iload 5, 2) := dk_21 5 (dk_at dksX0_many_1 12 rfl rfl)
theorem dX0_many_37 : decode cX0_many 37 = .ok (.imul, 1) := dk_104 (dk_at dksX0_many_1 14 rfl rfl)
theorem dX0_many_38 : decode cX0_many 38 = .ok (.iadd, 1) := dk_96 (dk_at dksX0_many_1 15 rfl rfl)
theorem dX0_many_39 : decode cX0_many 39 = .ok (.invokevirtual 20, 3) := dk_182 0 20 (dk_at dksX0_many_1 16 rfl rfl)
theorem dX0_many_42 : decode cX0_many 42 = .ok (.iinc 5 1, 3) := dk_132 5 1 (dk_at dksX0_many_1 19 rfl rfl)
theorem dX0_many_45 : decode cX0_many 45 = .ok (.goto (-36), 3) := dk_167 255 220 (dk_at dksX0_many_2 0 rfl rfl)
theorem dX0_many_48 : decode cX0_many 48 = .ok (.iload 5, 2) := dk_21 5 (dk_at dksX0_many_2 3 rfl rfl)
theorem dX0_many_50 : decode cX0_many 50 = .ok (.ireturn, 1) := dk_172 (dk_at dksX0_many_2 5 rfl rfl)
abbrev cX0_least : ByteArray := prog_1_method_4_code
def yX0_least : MethodName := ⟨RX0, "least", "()I"⟩
def dkwX0_least_0 : List UInt8 := [42, 180, 0, 10, 182, 0, 16, 154, 0, 7, 3, 167, 0, 10, 42, 180, 0, 10, 182, 0, 24, 172]
abbrev dktX0_least_0 : List UInt8 := dkwX0_least_0 ++ []
theorem dksX0_least_0 : cX0_least.data.toList.drop 0 = dktX0_least_0 := by decide +kernel
theorem dX0_least_0 : decode cX0_least 0 = .ok (.aload_n 0, 1) := dk_42 (dk_at dksX0_least_0 0 rfl rfl)
theorem dX0_least_1 : decode cX0_least 1 = .ok (.getfield 10, 3) := dk_180 0 10 (dk_at dksX0_least_0 1 rfl rfl)
theorem dX0_least_4 : decode cX0_least 4 = .ok (.invokevirtual 16, 3) := dk_182 0 16 (dk_at dksX0_least_0 4 rfl rfl)
theorem dX0_least_7 : decode cX0_least 7 = .ok (.ifCond .ne 7, 3) := dk_154 0 7 (dk_at dksX0_least_0 7 rfl rfl)
theorem dX0_least_10 : decode cX0_least 10 = .ok (.iconst 0, 1) := dk_3 (dk_at dksX0_least_0 10 rfl rfl)
theorem dX0_least_11 : decode cX0_least 11 = .ok (.goto 10, 3) := dk_167 0 10 (dk_at dksX0_least_0 11 rfl rfl)
theorem dX0_least_14 : decode cX0_least 14 = .ok (.aload_n 0, 1) := dk_42 (dk_at dksX0_least_0 14 rfl rfl)
theorem dX0_least_15 : decode cX0_least 15 = .ok (.getfield 10, 3) := dk_180 0 10 (dk_at dksX0_least_0 15 rfl rfl)
theorem dX0_least_18 : decode cX0_least 18 = .ok (.invokevirtual 24, 3) := dk_182 0 24 (dk_at dksX0_least_0 18 rfl rfl)
theorem dX0_least_21 : decode cX0_least 21 = .ok (.ireturn, 1) := dk_172 (dk_at dksX0_least_0 21 rfl rfl)
abbrev cX0_take : ByteArray := prog_1_method_5_code
def yX0_take : MethodName := ⟨RX0, "take", "()I"⟩
def dkwX0_take_0 : List UInt8 := [42, 180, 0, 10, 182, 0, 16, 154, 0, 7, 3, 167, 0, 10, 42, 180, 0, 10, 182, 0, 27, 172]
abbrev dktX0_take_0 : List UInt8 := dkwX0_take_0 ++ []
theorem dksX0_take_0 : cX0_take.data.toList.drop 0 = dktX0_take_0 := by decide +kernel
theorem dX0_take_0 : decode cX0_take 0 = .ok (.aload_n 0, 1) := dk_42 (dk_at dksX0_take_0 0 rfl rfl)
theorem dX0_take_1 : decode cX0_take 1 = .ok (.getfield 10, 3) := dk_180 0 10 (dk_at dksX0_take_0 1 rfl rfl)
theorem dX0_take_4 : decode cX0_take 4 = .ok (.invokevirtual 16, 3) := dk_182 0 16 (dk_at dksX0_take_0 4 rfl rfl)
theorem dX0_take_7 : decode cX0_take 7 = .ok (.ifCond .ne 7, 3) := dk_154 0 7 (dk_at dksX0_take_0 7 rfl rfl)
theorem dX0_take_10 : decode cX0_take 10 = .ok (.iconst 0, 1) := dk_3 (dk_at dksX0_take_0 10 rfl rfl)
theorem dX0_take_11 : decode cX0_take 11 = .ok (.goto 10, 3) := dk_167 0 10 (dk_at dksX0_take_0 11 rfl rfl)
theorem dX0_take_14 : decode cX0_take 14 = .ok (.aload_n 0, 1) := dk_42 (dk_at dksX0_take_0 14 rfl rfl)
theorem dX0_take_15 : decode cX0_take 15 = .ok (.getfield 10, 3) := dk_180 0 10 (dk_at dksX0_take_0 15 rfl rfl)
theorem dX0_take_18 : decode cX0_take 18 = .ok (.invokevirtual 27, 3) := dk_182 0 27 (dk_at dksX0_take_0 18 rfl rfl)
theorem dX0_take_21 : decode cX0_take 21 = .ok (.ireturn, 1) := dk_172 (dk_at dksX0_take_0 21 rfl rfl)
abbrev cX0_takeMany : ByteArray := prog_1_method_6_code
def yX0_takeMany : MethodName := ⟨RX0, "takeMany", "(I)J"⟩
def dkwX0_takeMany_1 : List UInt8 := [20, 0, 30, 105, 42, 180, 0, 10, 182, 0, 27, 133, 97, 65, 132, 4, 255, 167, 255, 223, 32, 173]
abbrev dktX0_takeMany_1 : List UInt8 := dkwX0_takeMany_1 ++ []
def dkwX0_takeMany_0 : List UInt8 := [9, 65, 27, 16, 15, 126, 54, 4, 21, 4, 158, 0, 34, 42, 180, 0, 10, 182, 0, 16, 158, 0, 24, 32]
abbrev dktX0_takeMany_0 : List UInt8 := dkwX0_takeMany_0 ++ dktX0_takeMany_1
theorem dksX0_takeMany_0 : cX0_takeMany.data.toList.drop 0 = dktX0_takeMany_0 := by decide +kernel
theorem dksX0_takeMany_1 : cX0_takeMany.data.toList.drop 24 = dktX0_takeMany_1 := dk_seg dksX0_takeMany_0 24 rfl rfl
theorem dX0_takeMany_0 : decode cX0_takeMany 0 = .ok (.lconst 0, 1) := dk_9 (dk_at dksX0_takeMany_0 0 rfl rfl)
theorem dX0_takeMany_1 : decode cX0_takeMany 1 = .ok (.lstore_n 2, 1) := dk_65 (dk_at dksX0_takeMany_0 1 rfl rfl)
theorem dX0_takeMany_2 : decode cX0_takeMany 2 = .ok (.iload_n 1, 1) := dk_27 (dk_at dksX0_takeMany_0 2 rfl rfl)
theorem dX0_takeMany_3 : decode cX0_takeMany 3 = .ok (.bipush 15, 2) := dk_16 15 (dk_at dksX0_takeMany_0 3 rfl rfl)
theorem dX0_takeMany_5 : decode cX0_takeMany 5 = .ok (.iand, 1) := dk_126 (dk_at dksX0_takeMany_0 5 rfl rfl)
theorem dX0_takeMany_6 : decode cX0_takeMany 6 = .ok (.istore 4, 2) := dk_54 4 (dk_at dksX0_takeMany_0 6 rfl rfl)
theorem dX0_takeMany_8 : decode cX0_takeMany 8 = .ok (.iload 4, 2) := dk_21 4 (dk_at dksX0_takeMany_0 8 rfl rfl)
theorem dX0_takeMany_10 : decode cX0_takeMany 10 = .ok (.ifCond .le 34, 3) := dk_158 0 34 (dk_at dksX0_takeMany_0 10 rfl rfl)
theorem dX0_takeMany_13 : decode cX0_takeMany 13 = .ok (.aload_n 0, 1) := dk_42 (dk_at dksX0_takeMany_0 13 rfl rfl)
theorem dX0_takeMany_14 : decode cX0_takeMany 14 = .ok (.getfield 10, 3) := dk_180 0 10 (dk_at dksX0_takeMany_0 14 rfl rfl)
theorem dX0_takeMany_17 : decode cX0_takeMany 17 = .ok (.invokevirtual 16, 3) := dk_182 0 16 (dk_at dksX0_takeMany_0 17 rfl rfl)
theorem dX0_takeMany_20 : decode cX0_takeMany 20 = .ok (.ifCond .le 24, 3) := dk_158 0 24 (dk_at dksX0_takeMany_0 20 rfl rfl)
theorem dX0_takeMany_23 : decode cX0_takeMany 23 = .ok (.lload_n 2, 1) := dk_32 (dk_at dksX0_takeMany_0 23 rfl rfl)
theorem dX0_takeMany_24 : decode cX0_takeMany 24 = .ok (.ldc2_w 30, 3) := dk_20 0 30 (dk_at dksX0_takeMany_1 0 rfl rfl)
theorem dX0_takeMany_27 : decode cX0_takeMany 27 = .ok (.lmul, 1) := dk_105 (dk_at dksX0_takeMany_1 3 rfl rfl)
theorem dX0_takeMany_28 : decode cX0_takeMany 28 = .ok (.aload_n 0, 1) := dk_42 (dk_at dksX0_takeMany_1 4 rfl rfl)
theorem dX0_takeMany_29 : decode cX0_takeMany 29 = .ok (.getfield 10, 3) := dk_180 0 10 (dk_at dksX0_takeMany_1 5 rfl rfl)
theorem dX0_takeMany_32 : decode cX0_takeMany 32 = .ok (.invokevirtual 27, 3) := dk_182 0 27 (dk_at dksX0_takeMany_1 8 rfl rfl)
theorem dX0_takeMany_35 : decode cX0_takeMany 35 = .ok (.i2l, 1) := dk_133 (dk_at dksX0_takeMany_1 11 rfl rfl)
theorem dX0_takeMany_36 : decode cX0_takeMany 36 = .ok (.ladd, 1) := dk_97 (dk_at dksX0_takeMany_1 12 rfl rfl)
theorem dX0_takeMany_37 : decode cX0_takeMany 37 = .ok (.lstore_n 2, 1) := dk_65 (dk_at dksX0_takeMany_1 13 rfl rfl)
theorem dX0_takeMany_38 : decode cX0_takeMany 38 = .ok (.iinc 4 (-1), 3) := dk_132 4 255 (dk_at dksX0_takeMany_1 14 rfl rfl)
theorem dX0_takeMany_41 : decode cX0_takeMany 41 = .ok (.goto (-33), 3) := dk_167 255 223 (dk_at dksX0_takeMany_1 17 rfl rfl)
theorem dX0_takeMany_44 : decode cX0_takeMany 44 = .ok (.lload_n 2, 1) := dk_32 (dk_at dksX0_takeMany_1 20 rfl rfl)
theorem dX0_takeMany_45 : decode cX0_takeMany 45 = .ok (.lreturn, 1) := dk_173 (dk_at dksX0_takeMany_1 21 rfl rfl)
abbrev cX0_waiting : ByteArray := prog_1_method_7_code
def yX0_waiting : MethodName := ⟨RX0, "waiting", "()I"⟩
def dkwX0_waiting_0 : List UInt8 := [42, 180, 0, 10, 182, 0, 16, 172]
abbrev dktX0_waiting_0 : List UInt8 := dkwX0_waiting_0 ++ []
theorem dksX0_waiting_0 : cX0_waiting.data.toList.drop 0 = dktX0_waiting_0 := by decide +kernel
theorem dX0_waiting_0 : decode cX0_waiting 0 = .ok (.aload_n 0, 1) := dk_42 (dk_at dksX0_waiting_0 0 rfl rfl)
theorem dX0_waiting_1 : decode cX0_waiting 1 = .ok (.getfield 10, 3) := dk_180 0 10 (dk_at dksX0_waiting_0 1 rfl rfl)
theorem dX0_waiting_4 : decode cX0_waiting 4 = .ok (.invokevirtual 16, 3) := dk_182 0 16 (dk_at dksX0_waiting_0 4 rfl rfl)
theorem dX0_waiting_7 : decode cX0_waiting 7 = .ok (.ireturn, 1) := dk_172 (dk_at dksX0_waiting_0 7 rfl rfl)
abbrev cX0_shrink : ByteArray := prog_1_method_8_code
def yX0_shrink : MethodName := ⟨RX0, "shrink", "()V"⟩
def dkwX0_shrink_0 : List UInt8 := [42, 180, 0, 10, 182, 0, 32, 177]
abbrev dktX0_shrink_0 : List UInt8 := dkwX0_shrink_0 ++ []
theorem dksX0_shrink_0 : cX0_shrink.data.toList.drop 0 = dktX0_shrink_0 := by decide +kernel
theorem dX0_shrink_0 : decode cX0_shrink 0 = .ok (.aload_n 0, 1) := dk_42 (dk_at dksX0_shrink_0 0 rfl rfl)
theorem dX0_shrink_1 : decode cX0_shrink 1 = .ok (.getfield 10, 3) := dk_180 0 10 (dk_at dksX0_shrink_0 1 rfl rfl)
theorem dX0_shrink_4 : decode cX0_shrink 4 = .ok (.invokevirtual 32, 3) := dk_182 0 32 (dk_at dksX0_shrink_0 4 rfl rfl)
theorem dX0_shrink_7 : decode cX0_shrink 7 = .ok (.return_, 1) := dk_177 (dk_at dksX0_shrink_0 7 rfl rfl)
abbrev cX0_drain : ByteArray := prog_1_method_9_code
def yX0_drain : MethodName := ⟨RX0, "drain", "()V"⟩
def dkwX0_drain_0 : List UInt8 := [42, 180, 0, 10, 182, 0, 35, 177]
abbrev dktX0_drain_0 : List UInt8 := dkwX0_drain_0 ++ []
theorem dksX0_drain_0 : cX0_drain.data.toList.drop 0 = dktX0_drain_0 := by decide +kernel
theorem dX0_drain_0 : decode cX0_drain 0 = .ok (.aload_n 0, 1) := dk_42 (dk_at dksX0_drain_0 0 rfl rfl)
theorem dX0_drain_1 : decode cX0_drain 1 = .ok (.getfield 10, 3) := dk_180 0 10 (dk_at dksX0_drain_0 1 rfl rfl)
theorem dX0_drain_4 : decode cX0_drain 4 = .ok (.invokevirtual 35, 3) := dk_182 0 35 (dk_at dksX0_drain_0 4 rfl rfl)
theorem dX0_drain_7 : decode cX0_drain 7 = .ok (.return_, 1) := dk_177 (dk_at dksX0_drain_0 7 rfl rfl)
theorem q6 : (Jvm.Cond.initialized "ArrayQueueDesk") ∈ lw_all := lw_g (lw_at lw_m1 1 rfl) rfl
theorem q17 : (Jvm.Cond.instantiable "ArrayQueueDesk" (1 : Nat)) ∈ lw_all := lw_g (lw_at lw_m1 12 rfl) rfl
theorem q19 : (Jvm.Cond.instanceMethod ({ cls := "ArrayQueueDesk", name := "<init>", desc := "()V" } : Jvm.MethodName)) ∈ lw_all := lw_g (lw_at lw_m1 14 rfl) rfl
theorem q20 : (Jvm.Cond.code ({ cls := "ArrayQueueDesk", name := "<init>", desc := "()V" } : Jvm.MethodName) prog_1_method_1_code (1 : Nat) (Option.none : Option Jvm.ClassFile.FieldType)) ∈ lw_all := lw_g (lw_at lw_m1 15 rfl) rfl
theorem q21 : (Jvm.Cond.methodLink "ArrayQueueDesk" (1 : Nat) ({ cls := "java/lang/Object", name := "<init>", desc := "()V" } : Jvm.MethodName)) ∈ lw_all := lw_g (lw_at lw_m1 16 rfl) rfl
theorem q24 : (Jvm.Cond.classLink "ArrayQueueDesk" (7 : Nat) "IntArrayPriorityQueue") ∈ lw_all := lw_g (lw_at lw_m1 19 rfl) rfl
theorem q26 : (Jvm.Cond.methodLink "ArrayQueueDesk" (9 : Nat) ({ cls := "IntArrayPriorityQueue", name := "<init>", desc := "()V" } : Jvm.MethodName)) ∈ lw_all := lw_g (lw_at lw_m1 21 rfl) rfl
theorem q52 : (Jvm.Cond.fieldLink "ArrayQueueDesk" (10 : Nat) "ArrayQueueDesk" "queue" "LIntArrayPriorityQueue;") ∈ lw_all := lw_g (lw_at lw_m1 47 rfl) rfl
theorem q53 : (Jvm.Cond.laysFinal "ArrayQueueDesk" "ArrayQueueDesk" "queue" "LIntArrayPriorityQueue;") ∈ lw_all := lw_g (lw_at lw_m1 48 rfl) rfl
theorem q54 : (Jvm.Cond.soleField "ArrayQueueDesk" "queue") ∈ lw_all := lw_g (lw_at lw_m1 49 rfl) rfl
theorem q55 : (Jvm.Cond.superclass "ArrayQueueDesk" "java/lang/Object") ∈ lw_all := lw_g (lw_at lw_m1 50 rfl) rfl
theorem q57 : (Jvm.Cond.instanceMethod ({ cls := "ArrayQueueDesk", name := "enter", desc := "(I)Z" } : Jvm.MethodName)) ∈ lw_all := lw_g (lw_at lw_m1 52 rfl) rfl
theorem q58 : (Jvm.Cond.selects "ArrayQueueDesk" ({ cls := "ArrayQueueDesk", name := "enter", desc := "(I)Z" } : Jvm.MethodName) ({ cls := "ArrayQueueDesk", name := "enter", desc := "(I)Z" } : Jvm.MethodName)) ∈ lw_all := lw_g (lw_at lw_m1 53 rfl) rfl
theorem q59 : (Jvm.Cond.code ({ cls := "ArrayQueueDesk", name := "enter", desc := "(I)Z" } : Jvm.MethodName) prog_1_method_2_code (2 : Nat) (Option.some Jvm.ClassFile.FieldType.boolean)) ∈ lw_all := lw_g (lw_at lw_m1 54 rfl) rfl
theorem q60 : (Jvm.Cond.methodLink "ArrayQueueDesk" (16 : Nat) ({ cls := "IntArrayPriorityQueue", name := "size", desc := "()I" } : Jvm.MethodName)) ∈ lw_all := lw_g (lw_at lw_m1 55 rfl) rfl
theorem q64 : (Jvm.Cond.methodLink "ArrayQueueDesk" (20 : Nat) ({ cls := "IntArrayPriorityQueue", name := "enqueue", desc := "(I)V" } : Jvm.MethodName)) ∈ lw_all := lw_g (lw_at lw_m1 59 rfl) rfl
theorem q85 : (Jvm.Cond.instanceMethod ({ cls := "ArrayQueueDesk", name := "many", desc := "(III)I" } : Jvm.MethodName)) ∈ lw_all := lw_g (lw_at lw_m1 80 rfl) rfl
theorem q86 : (Jvm.Cond.selects "ArrayQueueDesk" ({ cls := "ArrayQueueDesk", name := "many", desc := "(III)I" } : Jvm.MethodName) ({ cls := "ArrayQueueDesk", name := "many", desc := "(III)I" } : Jvm.MethodName)) ∈ lw_all := lw_g (lw_at lw_m1 81 rfl) rfl
theorem q87 : (Jvm.Cond.code ({ cls := "ArrayQueueDesk", name := "many", desc := "(III)I" } : Jvm.MethodName) prog_1_method_3_code (6 : Nat) (Option.some Jvm.ClassFile.FieldType.int)) ∈ lw_all := lw_g (lw_at lw_m1 82 rfl) rfl
theorem q89 : (Jvm.Cond.instanceMethod ({ cls := "ArrayQueueDesk", name := "least", desc := "()I" } : Jvm.MethodName)) ∈ lw_all := lw_g (lw_at lw_m1 84 rfl) rfl
theorem q90 : (Jvm.Cond.selects "ArrayQueueDesk" ({ cls := "ArrayQueueDesk", name := "least", desc := "()I" } : Jvm.MethodName) ({ cls := "ArrayQueueDesk", name := "least", desc := "()I" } : Jvm.MethodName)) ∈ lw_all := lw_g (lw_at lw_m1 85 rfl) rfl
theorem q91 : (Jvm.Cond.code ({ cls := "ArrayQueueDesk", name := "least", desc := "()I" } : Jvm.MethodName) prog_1_method_4_code (1 : Nat) (Option.some Jvm.ClassFile.FieldType.int)) ∈ lw_all := lw_g (lw_at lw_m1 86 rfl) rfl
theorem q92 : (Jvm.Cond.methodLink "ArrayQueueDesk" (24 : Nat) ({ cls := "IntArrayPriorityQueue", name := "firstInt", desc := "()I" } : Jvm.MethodName)) ∈ lw_all := lw_g (lw_at lw_m1 87 rfl) rfl
theorem q166 : (Jvm.Cond.instanceMethod ({ cls := "ArrayQueueDesk", name := "take", desc := "()I" } : Jvm.MethodName)) ∈ lw_all := lw_g (lw_at lw_m1 161 rfl) rfl
theorem q167 : (Jvm.Cond.selects "ArrayQueueDesk" ({ cls := "ArrayQueueDesk", name := "take", desc := "()I" } : Jvm.MethodName) ({ cls := "ArrayQueueDesk", name := "take", desc := "()I" } : Jvm.MethodName)) ∈ lw_all := lw_g (lw_at lw_m1 162 rfl) rfl
theorem q168 : (Jvm.Cond.code ({ cls := "ArrayQueueDesk", name := "take", desc := "()I" } : Jvm.MethodName) prog_1_method_5_code (1 : Nat) (Option.some Jvm.ClassFile.FieldType.int)) ∈ lw_all := lw_g (lw_at lw_m1 163 rfl) rfl
theorem q169 : (Jvm.Cond.methodLink "ArrayQueueDesk" (27 : Nat) ({ cls := "IntArrayPriorityQueue", name := "dequeueInt", desc := "()I" } : Jvm.MethodName)) ∈ lw_all := lw_g (lw_at lw_m1 164 rfl) rfl
theorem q175 : (Jvm.Cond.instanceMethod ({ cls := "ArrayQueueDesk", name := "takeMany", desc := "(I)J" } : Jvm.MethodName)) ∈ lw_all := lw_g (lw_at lw_m1 170 rfl) rfl
theorem q176 : (Jvm.Cond.selects "ArrayQueueDesk" ({ cls := "ArrayQueueDesk", name := "takeMany", desc := "(I)J" } : Jvm.MethodName) ({ cls := "ArrayQueueDesk", name := "takeMany", desc := "(I)J" } : Jvm.MethodName)) ∈ lw_all := lw_g (lw_at lw_m1 171 rfl) rfl
theorem q177 : (Jvm.Cond.code ({ cls := "ArrayQueueDesk", name := "takeMany", desc := "(I)J" } : Jvm.MethodName) prog_1_method_6_code (5 : Nat) (Option.some Jvm.ClassFile.FieldType.long)) ∈ lw_all := lw_g (lw_at lw_m1 172 rfl) rfl
theorem q178 : (Jvm.Cond.constantLong "ArrayQueueDesk" (30 : Nat) (31 : Int64)) ∈ lw_all := lw_g (lw_at lw_m1 173 rfl) rfl
theorem q180 : (Jvm.Cond.instanceMethod ({ cls := "ArrayQueueDesk", name := "waiting", desc := "()I" } : Jvm.MethodName)) ∈ lw_all := lw_g (lw_at lw_m1 175 rfl) rfl
theorem q181 : (Jvm.Cond.selects "ArrayQueueDesk" ({ cls := "ArrayQueueDesk", name := "waiting", desc := "()I" } : Jvm.MethodName) ({ cls := "ArrayQueueDesk", name := "waiting", desc := "()I" } : Jvm.MethodName)) ∈ lw_all := lw_g (lw_at lw_m1 176 rfl) rfl
theorem q182 : (Jvm.Cond.code ({ cls := "ArrayQueueDesk", name := "waiting", desc := "()I" } : Jvm.MethodName) prog_1_method_7_code (1 : Nat) (Option.some Jvm.ClassFile.FieldType.int)) ∈ lw_all := lw_g (lw_at lw_m1 177 rfl) rfl
theorem q184 : (Jvm.Cond.instanceMethod ({ cls := "ArrayQueueDesk", name := "shrink", desc := "()V" } : Jvm.MethodName)) ∈ lw_all := lw_g (lw_at lw_m1 179 rfl) rfl
theorem q185 : (Jvm.Cond.selects "ArrayQueueDesk" ({ cls := "ArrayQueueDesk", name := "shrink", desc := "()V" } : Jvm.MethodName) ({ cls := "ArrayQueueDesk", name := "shrink", desc := "()V" } : Jvm.MethodName)) ∈ lw_all := lw_g (lw_at lw_m1 180 rfl) rfl
theorem q186 : (Jvm.Cond.code ({ cls := "ArrayQueueDesk", name := "shrink", desc := "()V" } : Jvm.MethodName) prog_1_method_8_code (1 : Nat) (Option.none : Option Jvm.ClassFile.FieldType)) ∈ lw_all := lw_g (lw_at lw_m1 181 rfl) rfl
theorem q187 : (Jvm.Cond.methodLink "ArrayQueueDesk" (32 : Nat) ({ cls := "IntArrayPriorityQueue", name := "trim", desc := "()V" } : Jvm.MethodName)) ∈ lw_all := lw_g (lw_at lw_m1 182 rfl) rfl
theorem q196 : (Jvm.Cond.instanceMethod ({ cls := "ArrayQueueDesk", name := "drain", desc := "()V" } : Jvm.MethodName)) ∈ lw_all := lw_g (lw_at lw_m1 191 rfl) rfl
theorem q197 : (Jvm.Cond.selects "ArrayQueueDesk" ({ cls := "ArrayQueueDesk", name := "drain", desc := "()V" } : Jvm.MethodName) ({ cls := "ArrayQueueDesk", name := "drain", desc := "()V" } : Jvm.MethodName)) ∈ lw_all := lw_g (lw_at lw_m1 192 rfl) rfl
theorem q198 : (Jvm.Cond.code ({ cls := "ArrayQueueDesk", name := "drain", desc := "()V" } : Jvm.MethodName) prog_1_method_9_code (1 : Nat) (Option.none : Option Jvm.ClassFile.FieldType)) ∈ lw_all := lw_g (lw_at lw_m1 193 rfl) rfl
theorem q199 : (Jvm.Cond.methodLink "ArrayQueueDesk" (35 : Nat) ({ cls := "IntArrayPriorityQueue", name := "clear", desc := "()V" } : Jvm.MethodName)) ∈ lw_all := lw_g (lw_at lw_m1 194 rfl) rfl
theorem q258 : (Jvm.Cond.castable "ArrayQueueDesk" "java/lang/Object") ∈ lw_tbl := lw_at lw_m2 13 rfl
theorem in_X0 : ∀ w ∈ wsX00, w ∈ lw_all := lw_in wsX00 [53] (by decide +kernel) (by decide +kernel)
end
section
/-! ArrayQueueDeskModel -/
set_option maxRecDepth 100000
def RX3 : String := "ArrayQueueDeskModel"
def TX3 : u_T := fun k => match k with
  | 0 => ("ArrayQueueDeskModel", "row", "[I", true)
  | _ => ("ArrayQueueDeskModel", "size", "I", false)
def tyX3 : Nat → FieldType := fun k => match k with
  | 0 => .array .int
  | _ => .int
abbrev wsX30 : List Cond := u_ws RX3 TX3 2
theorem nmX3 : ∀ a, a < 2 → ∀ b, b < 2 → a ≠ b → (TX3 a).2.1 ≠ (TX3 b).2.1 := by decide +kernel
theorem tyX3_ok : ∀ k, k < 2 → parseFieldDescriptor (TX3 k).2.2.1 = some (tyX3 k) := by decide +kernel
abbrev cX3_init : ByteArray := prog_3_method_1_code
def yX3_init : MethodName := ⟨RX3, "<init>", "()V"⟩
def dkwX3_init_0 : List UInt8 := [42, 183, 0, 1, 42, 17, 0, 200, 188, 10, 181, 0, 9, 177]
abbrev dktX3_init_0 : List UInt8 := dkwX3_init_0 ++ []
theorem dksX3_init_0 : cX3_init.data.toList.drop 0 = dktX3_init_0 := by decide +kernel
theorem dX3_init_0 : decode cX3_init 0 = .ok (.aload_n 0, 1) := dk_42 (dk_at dksX3_init_0 0 rfl rfl)
theorem dX3_init_1 : decode cX3_init 1 = .ok (.invokespecial 1, 3) := dk_183 0 1 (dk_at dksX3_init_0 1 rfl rfl)
theorem dX3_init_4 : decode cX3_init 4 = .ok (.aload_n 0, 1) := dk_42 (dk_at dksX3_init_0 4 rfl rfl)
theorem dX3_init_5 : decode cX3_init 5 = .ok (.sipush 200, 3) := dk_17 0 200 (dk_at dksX3_init_0 5 rfl rfl)
theorem dX3_init_8 : decode cX3_init 8 = .ok (.newarray .int, 2) := dk_188_10 (dk_at dksX3_init_0 8 rfl rfl)
theorem dX3_init_10 : decode cX3_init 10 = .ok (.putfield 9, 3) := dk_181 0 9 (dk_at dksX3_init_0 10 rfl rfl)
theorem dX3_init_13 : decode cX3_init 13 = .ok (.return_, 1) := dk_177 (dk_at dksX3_init_0 13 rfl rfl)
abbrev cX3_enter : ByteArray := prog_3_method_4_code
def yX3_enter : MethodName := ⟨RX3, "enter", "(I)Z"⟩
def dkwX3_enter_0 : List UInt8 := [42, 180, 0, 13, 17, 0, 200, 161, 0, 5, 3, 172, 42, 27, 182, 0, 17, 4, 172]
abbrev dktX3_enter_0 : List UInt8 := dkwX3_enter_0 ++ []
theorem dksX3_enter_0 : cX3_enter.data.toList.drop 0 = dktX3_enter_0 := by decide +kernel
theorem dX3_enter_0 : decode cX3_enter 0 = .ok (.aload_n 0, 1) := dk_42 (dk_at dksX3_enter_0 0 rfl rfl)
theorem dX3_enter_1 : decode cX3_enter 1 = .ok (.getfield 13, 3) := dk_180 0 13 (dk_at dksX3_enter_0 1 rfl rfl)
theorem dX3_enter_4 : decode cX3_enter 4 = .ok (.sipush 200, 3) := dk_17 0 200 (dk_at dksX3_enter_0 4 rfl rfl)
theorem dX3_enter_7 : decode cX3_enter 7 = .ok (.if_icmp .lt 5, 3) := dk_161 0 5 (dk_at dksX3_enter_0 7 rfl rfl)
theorem dX3_enter_10 : decode cX3_enter 10 = .ok (.iconst 0, 1) := dk_3 (dk_at dksX3_enter_0 10 rfl rfl)
theorem dX3_enter_11 : decode cX3_enter 11 = .ok (.ireturn, 1) := dk_172 (dk_at dksX3_enter_0 11 rfl rfl)
theorem dX3_enter_12 : decode cX3_enter 12 = .ok (.aload_n 0, 1) := dk_42 (dk_at dksX3_enter_0 12 rfl rfl)
theorem dX3_enter_13 : decode cX3_enter 13 = .ok (.iload_n 1, 1) := dk_27 (dk_at dksX3_enter_0 13 rfl rfl)
theorem dX3_enter_14 : decode cX3_enter 14 = .ok (.invokevirtual 17, 3) := dk_182 0 17 (dk_at dksX3_enter_0 14 rfl rfl)
theorem dX3_enter_17 : decode cX3_enter 17 = .ok (.iconst 1, 1) := dk_4 (dk_at dksX3_enter_0 17 rfl rfl)
theorem dX3_enter_18 : decode cX3_enter 18 = .ok (.ireturn, 1) := dk_172 (dk_at dksX3_enter_0 18 rfl rfl)
abbrev cX3_put : ByteArray := prog_3_method_2_code
def yX3_put : MethodName := ⟨RX3, "put", "(I)V"⟩
def dkwX3_put_2 : List UInt8 := [27, 79, 42, 89, 180, 0, 13, 4, 96, 181, 0, 13, 177]
abbrev dktX3_put_2 : List UInt8 := dkwX3_put_2 ++ []
def dkwX3_put_1 : List UInt8 := [180, 0, 9, 28, 42, 180, 0, 9, 28, 4, 100, 46, 79, 132, 2, 255, 167, 255, 223, 42, 180, 0, 9, 28]
abbrev dktX3_put_1 : List UInt8 := dkwX3_put_1 ++ dktX3_put_2
def dkwX3_put_0 : List UInt8 := [42, 180, 0, 13, 61, 28, 158, 0, 35, 42, 180, 0, 9, 28, 4, 100, 46, 27, 164, 0, 23, 42]
abbrev dktX3_put_0 : List UInt8 := dkwX3_put_0 ++ dktX3_put_1
theorem dksX3_put_0 : cX3_put.data.toList.drop 0 = dktX3_put_0 := by decide +kernel
theorem dksX3_put_1 : cX3_put.data.toList.drop 22 = dktX3_put_1 := dk_seg dksX3_put_0 22 rfl rfl
theorem dksX3_put_2 : cX3_put.data.toList.drop 46 = dktX3_put_2 := dk_seg dksX3_put_1 24 rfl rfl
theorem dX3_put_0 : decode cX3_put 0 = .ok (.aload_n 0, 1) := dk_42 (dk_at dksX3_put_0 0 rfl rfl)
theorem dX3_put_1 : decode cX3_put 1 = .ok (.getfield 13, 3) := dk_180 0 13 (dk_at dksX3_put_0 1 rfl rfl)
theorem dX3_put_4 : decode cX3_put 4 = .ok (.istore_n 2, 1) := dk_61 (dk_at dksX3_put_0 4 rfl rfl)
theorem dX3_put_5 : decode cX3_put 5 = .ok (.iload_n 2, 1) := dk_28 (dk_at dksX3_put_0 5 rfl rfl)
theorem dX3_put_6 : decode cX3_put 6 = .ok (.ifCond .le 35, 3) := dk_158 0 35 (dk_at dksX3_put_0 6 rfl rfl)
theorem dX3_put_9 : decode cX3_put 9 = .ok (.aload_n 0, 1) := dk_42 (dk_at dksX3_put_0 9 rfl rfl)
theorem dX3_put_10 : decode cX3_put 10 = .ok (.getfield 9, 3) := dk_180 0 9 (dk_at dksX3_put_0 10 rfl rfl)
theorem dX3_put_13 : decode cX3_put 13 = .ok (.iload_n 2, 1) := dk_28 (dk_at dksX3_put_0 13 rfl rfl)
theorem dX3_put_14 : decode cX3_put 14 = .ok (.iconst 1, 1) := dk_4 (dk_at dksX3_put_0 14 rfl rfl)
theorem dX3_put_15 : decode cX3_put 15 = .ok (.isub, 1) := dk_100 (dk_at dksX3_put_0 15 rfl rfl)
theorem dX3_put_16 : decode cX3_put 16 = .ok (.iaload, 1) := dk_46 (dk_at dksX3_put_0 16 rfl rfl)
theorem dX3_put_17 : decode cX3_put 17 = .ok (.iload_n 1, 1) := dk_27 (dk_at dksX3_put_0 17 rfl rfl)
theorem dX3_put_18 : decode cX3_put 18 = .ok (.if_icmp .le 23, 3) := dk_164 0 23 (dk_at dksX3_put_0 18 rfl rfl)
theorem dX3_put_21 : decode cX3_put 21 = .ok (.aload_n 0, 1) := dk_42 (dk_at dksX3_put_0 21 rfl rfl)
theorem dX3_put_22 : decode cX3_put 22 = .ok (.getfield 9, 3) := dk_180 0 9 (dk_at dksX3_put_1 0 rfl rfl)
theorem dX3_put_25 : decode cX3_put 25 = .ok (.iload_n 2, 1) := dk_28 (dk_at dksX3_put_1 3 rfl rfl)
theorem dX3_put_26 : decode cX3_put 26 = .ok (.aload_n 0, 1) := dk_42 (dk_at dksX3_put_1 4 rfl rfl)
theorem dX3_put_27 : decode cX3_put 27 = .ok (.getfield 9, 3) := dk_180 0 9 (dk_at dksX3_put_1 5 rfl rfl)
theorem dX3_put_30 : decode cX3_put 30 = .ok (.iload_n 2, 1) := dk_28 (dk_at dksX3_put_1 8 rfl rfl)
theorem dX3_put_31 : decode cX3_put 31 = .ok (.iconst 1, 1) := dk_4 (dk_at dksX3_put_1 9 rfl rfl)
theorem dX3_put_32 : decode cX3_put 32 = .ok (.isub, 1) := dk_100 (dk_at dksX3_put_1 10 rfl rfl)
theorem dX3_put_33 : decode cX3_put 33 = .ok (.iaload, 1) := dk_46 (dk_at dksX3_put_1 11 rfl rfl)
theorem dX3_put_34 : decode cX3_put 34 = .ok (.iastore, 1) := dk_79 (dk_at dksX3_put_1 12 rfl rfl)
theorem dX3_put_35 : decode cX3_put 35 = .ok (.iinc 2 (-1), 3) := dk_132 2 255 (dk_at dksX3_put_1 13 rfl rfl)
theorem dX3_put_38 : decode cX3_put 38 = .ok (.goto (-33), 3) := dk_167 255 223 (dk_at dksX3_put_1 16 rfl rfl)
theorem dX3_put_41 : decode cX3_put 41 = .ok (.aload_n 0, 1) := dk_42 (dk_at dksX3_put_1 19 rfl rfl)
theorem dX3_put_42 : decode cX3_put 42 = .ok (.getfield 9, 3) := dk_180 0 9 (dk_at dksX3_put_1 20 rfl rfl)
theorem dX3_put_45 : decode cX3_put 45 = .ok (.iload_n 2, 1) := dk_28 (dk_at dksX3_put_1 23 rfl rfl)
theorem dX3_put_46 : decode cX3_put 46 = .ok (.iload_n 1, 1) := dk_27 (dk_at dksX3_put_2 0 rfl rfl)
theorem dX3_put_47 : decode cX3_put 47 = .ok (.iastore, 1) := dk_79 (dk_at dksX3_put_2 1 rfl rfl)
theorem dX3_put_48 : decode cX3_put 48 = .ok (.aload_n 0, 1) := dk_42 (dk_at dksX3_put_2 2 rfl rfl)
theorem dX3_put_49 : decode cX3_put 49 = .ok (.dup, 1) := dk_89 (dk_at dksX3_put_2 3 rfl rfl)
theorem dX3_put_50 : decode cX3_put 50 = .ok (.getfield 13, 3) := dk_180 0 13 (dk_at dksX3_put_2 4 rfl rfl)
theorem dX3_put_53 : decode cX3_put 53 = .ok (.iconst 1, 1) := dk_4 (dk_at dksX3_put_2 7 rfl rfl)
theorem dX3_put_54 : decode cX3_put 54 = .ok (.iadd, 1) := dk_96 (dk_at dksX3_put_2 8 rfl rfl)
theorem dX3_put_55 : decode cX3_put 55 = .ok (.putfield 13, 3) := dk_181 0 13 (dk_at dksX3_put_2 9 rfl rfl)
theorem dX3_put_58 : decode cX3_put 58 = .ok (.return_, 1) := dk_177 (dk_at dksX3_put_2 12 rfl rfl)
abbrev cX3_many : ByteArray := prog_3_method_5_code
def yX3_many : MethodName := ⟨RX3, "many", "(III)I"⟩
def dkwX3_many_1 : List UInt8 := [162, 0, 19, 42, 27, 28, 21, 5, 104, 96, 182, 0, 17, 132, 5, 1, 167, 255, 226, 21, 5, 172]
abbrev dktX3_many_1 : List UInt8 := dkwX3_many_1 ++ []
def dkwX3_many_0 : List UInt8 := [29, 16, 15, 126, 54, 4, 3, 54, 5, 21, 5, 21, 4, 162, 0, 29, 42, 180, 0, 13, 17, 0, 200]
abbrev dktX3_many_0 : List UInt8 := dkwX3_many_0 ++ dktX3_many_1
theorem dksX3_many_0 : cX3_many.data.toList.drop 0 = dktX3_many_0 := by decide +kernel
theorem dksX3_many_1 : cX3_many.data.toList.drop 23 = dktX3_many_1 := dk_seg dksX3_many_0 23 rfl rfl
theorem dX3_many_0 : decode cX3_many 0 = .ok (.iload_n 3, 1) := dk_29 (dk_at dksX3_many_0 0 rfl rfl)
theorem dX3_many_1 : decode cX3_many 1 = .ok (.bipush 15, 2) := dk_16 15 (dk_at dksX3_many_0 1 rfl rfl)
theorem dX3_many_3 : decode cX3_many 3 = .ok (.iand, 1) := dk_126 (dk_at dksX3_many_0 3 rfl rfl)
theorem dX3_many_4 : decode cX3_many 4 = .ok (.istore 4, 2) := dk_54 4 (dk_at dksX3_many_0 4 rfl rfl)
theorem dX3_many_6 : decode cX3_many 6 = .ok (.iconst 0, 1) := dk_3 (dk_at dksX3_many_0 6 rfl rfl)
theorem dX3_many_7 : decode cX3_many 7 = .ok (.istore 5, 2) := dk_54 5 (dk_at dksX3_many_0 7 rfl rfl)
theorem dX3_many_9 : decode cX3_many 9 = .ok (.iload 5, 2) := dk_21 5 (dk_at dksX3_many_0 9 rfl rfl)
theorem dX3_many_11 : decode cX3_many 11 = .ok (.iload 4, 2) := dk_21 4 (dk_at dksX3_many_0 11 rfl rfl)
theorem dX3_many_13 : decode cX3_many 13 = .ok (.if_icmp .ge 29, 3) := dk_162 0 29 (dk_at dksX3_many_0 13 rfl rfl)
theorem dX3_many_16 : decode cX3_many 16 = .ok (.aload_n 0, 1) := dk_42 (dk_at dksX3_many_0 16 rfl rfl)
theorem dX3_many_17 : decode cX3_many 17 = .ok (.getfield 13, 3) := dk_180 0 13 (dk_at dksX3_many_0 17 rfl rfl)
theorem dX3_many_20 : decode cX3_many 20 = .ok (.sipush 200, 3) := dk_17 0 200 (dk_at dksX3_many_0 20 rfl rfl)
theorem dX3_many_23 : decode cX3_many 23 = .ok (.if_icmp .ge 19, 3) := dk_162 0 19 (dk_at dksX3_many_1 0 rfl rfl)
theorem dX3_many_26 : decode cX3_many 26 = .ok (.aload_n 0, 1) := dk_42 (dk_at dksX3_many_1 3 rfl rfl)
theorem dX3_many_27 : decode cX3_many 27 = .ok (.iload_n 1, 1) := dk_27 (dk_at dksX3_many_1 4 rfl rfl)
theorem dX3_many_28 : decode cX3_many 28 = .ok (.iload_n 2, 1) := dk_28 (dk_at dksX3_many_1 5 rfl rfl)
theorem dX3_many_29 : decode cX3_many 29 = .ok (.iload 5, 2) := dk_21 5 (dk_at dksX3_many_1 6 rfl rfl)
theorem dX3_many_31 : decode cX3_many 31 = .ok (.imul, 1) := dk_104 (dk_at dksX3_many_1 8 rfl rfl)
theorem dX3_many_32 : decode cX3_many 32 = .ok (.iadd, 1) := dk_96 (dk_at dksX3_many_1 9 rfl rfl)
theorem dX3_many_33 : decode cX3_many 33 = .ok (.invokevirtual 17, 3) := dk_182 0 17 (dk_at dksX3_many_1 10 rfl rfl)
theorem dX3_many_36 : decode cX3_many 36 = .ok (.iinc 5 1, 3) := dk_132 5 1 (dk_at dksX3_many_1 13 rfl rfl)
theorem dX3_many_39 : decode cX3_many 39 = .ok (.goto (-30), 3) := dk_167 255 226 (dk_at dksX3_many_1 16 rfl rfl)
theorem dX3_many_42 : decode cX3_many 42 = .ok (.iload 5, 2) := dk_21 5 (dk_at dksX3_many_1 19 rfl rfl)
theorem dX3_many_44 : decode cX3_many 44 = .ok (.ireturn, 1) := dk_172 (dk_at dksX3_many_1 21 rfl rfl)
abbrev cX3_least : ByteArray := prog_3_method_6_code
def yX3_least : MethodName := ⟨RX3, "least", "()I"⟩
def dkwX3_least_0 : List UInt8 := [42, 180, 0, 13, 154, 0, 7, 3, 167, 0, 9, 42, 180, 0, 9, 3, 46, 172]
abbrev dktX3_least_0 : List UInt8 := dkwX3_least_0 ++ []
theorem dksX3_least_0 : cX3_least.data.toList.drop 0 = dktX3_least_0 := by decide +kernel
theorem dX3_least_0 : decode cX3_least 0 = .ok (.aload_n 0, 1) := dk_42 (dk_at dksX3_least_0 0 rfl rfl)
theorem dX3_least_1 : decode cX3_least 1 = .ok (.getfield 13, 3) := dk_180 0 13 (dk_at dksX3_least_0 1 rfl rfl)
theorem dX3_least_4 : decode cX3_least 4 = .ok (.ifCond .ne 7, 3) := dk_154 0 7 (dk_at dksX3_least_0 4 rfl rfl)
theorem dX3_least_7 : decode cX3_least 7 = .ok (.iconst 0, 1) := dk_3 (dk_at dksX3_least_0 7 rfl rfl)
theorem dX3_least_8 : decode cX3_least 8 = .ok (.goto 9, 3) := dk_167 0 9 (dk_at dksX3_least_0 8 rfl rfl)
theorem dX3_least_11 : decode cX3_least 11 = .ok (.aload_n 0, 1) := dk_42 (dk_at dksX3_least_0 11 rfl rfl)
theorem dX3_least_12 : decode cX3_least 12 = .ok (.getfield 9, 3) := dk_180 0 9 (dk_at dksX3_least_0 12 rfl rfl)
theorem dX3_least_15 : decode cX3_least 15 = .ok (.iconst 0, 1) := dk_3 (dk_at dksX3_least_0 15 rfl rfl)
theorem dX3_least_16 : decode cX3_least 16 = .ok (.iaload, 1) := dk_46 (dk_at dksX3_least_0 16 rfl rfl)
theorem dX3_least_17 : decode cX3_least 17 = .ok (.ireturn, 1) := dk_172 (dk_at dksX3_least_0 17 rfl rfl)
abbrev cX3_take : ByteArray := prog_3_method_7_code
def yX3_take : MethodName := ⟨RX3, "take", "()I"⟩
def dkwX3_take_0 : List UInt8 := [42, 180, 0, 13, 154, 0, 7, 3, 167, 0, 7, 42, 182, 0, 21, 172]
abbrev dktX3_take_0 : List UInt8 := dkwX3_take_0 ++ []
theorem dksX3_take_0 : cX3_take.data.toList.drop 0 = dktX3_take_0 := by decide +kernel
theorem dX3_take_0 : decode cX3_take 0 = .ok (.aload_n 0, 1) := dk_42 (dk_at dksX3_take_0 0 rfl rfl)
theorem dX3_take_1 : decode cX3_take 1 = .ok (.getfield 13, 3) := dk_180 0 13 (dk_at dksX3_take_0 1 rfl rfl)
theorem dX3_take_4 : decode cX3_take 4 = .ok (.ifCond .ne 7, 3) := dk_154 0 7 (dk_at dksX3_take_0 4 rfl rfl)
theorem dX3_take_7 : decode cX3_take 7 = .ok (.iconst 0, 1) := dk_3 (dk_at dksX3_take_0 7 rfl rfl)
theorem dX3_take_8 : decode cX3_take 8 = .ok (.goto 7, 3) := dk_167 0 7 (dk_at dksX3_take_0 8 rfl rfl)
theorem dX3_take_11 : decode cX3_take 11 = .ok (.aload_n 0, 1) := dk_42 (dk_at dksX3_take_0 11 rfl rfl)
theorem dX3_take_12 : decode cX3_take 12 = .ok (.invokevirtual 21, 3) := dk_182 0 21 (dk_at dksX3_take_0 12 rfl rfl)
theorem dX3_take_15 : decode cX3_take 15 = .ok (.ireturn, 1) := dk_172 (dk_at dksX3_take_0 15 rfl rfl)
abbrev cX3_first : ByteArray := prog_3_method_3_code
def yX3_first : MethodName := ⟨RX3, "first", "()I"⟩
def dkwX3_first_2 : List UInt8 := [172]
abbrev dktX3_first_2 : List UInt8 := dkwX3_first_2 ++ []
def dkwX3_first_1 : List UInt8 := [42, 180, 0, 9, 28, 46, 79, 132, 2, 1, 167, 255, 231, 42, 89, 180, 0, 13, 4, 100, 181, 0, 13, 27]
abbrev dktX3_first_1 : List UInt8 := dkwX3_first_1 ++ dktX3_first_2
def dkwX3_first_0 : List UInt8 := [42, 180, 0, 9, 3, 46, 60, 4, 61, 28, 42, 180, 0, 13, 162, 0, 23, 42, 180, 0, 9, 28, 4, 100]
abbrev dktX3_first_0 : List UInt8 := dkwX3_first_0 ++ dktX3_first_1
theorem dksX3_first_0 : cX3_first.data.toList.drop 0 = dktX3_first_0 := by decide +kernel
theorem dksX3_first_1 : cX3_first.data.toList.drop 24 = dktX3_first_1 := dk_seg dksX3_first_0 24 rfl rfl
theorem dksX3_first_2 : cX3_first.data.toList.drop 48 = dktX3_first_2 := dk_seg dksX3_first_1 24 rfl rfl
theorem dX3_first_0 : decode cX3_first 0 = .ok (.aload_n 0, 1) := dk_42 (dk_at dksX3_first_0 0 rfl rfl)
theorem dX3_first_1 : decode cX3_first 1 = .ok (.getfield 9, 3) := dk_180 0 9 (dk_at dksX3_first_0 1 rfl rfl)
theorem dX3_first_4 : decode cX3_first 4 = .ok (.iconst 0, 1) := dk_3 (dk_at dksX3_first_0 4 rfl rfl)
theorem dX3_first_5 : decode cX3_first 5 = .ok (.iaload, 1) := dk_46 (dk_at dksX3_first_0 5 rfl rfl)
theorem dX3_first_6 : decode cX3_first 6 = .ok (.istore_n 1, 1) := dk_60 (dk_at dksX3_first_0 6 rfl rfl)
theorem dX3_first_7 : decode cX3_first 7 = .ok (.iconst 1, 1) := dk_4 (dk_at dksX3_first_0 7 rfl rfl)
theorem dX3_first_8 : decode cX3_first 8 = .ok (.istore_n 2, 1) := dk_61 (dk_at dksX3_first_0 8 rfl rfl)
theorem dX3_first_9 : decode cX3_first 9 = .ok (.iload_n 2, 1) := dk_28 (dk_at dksX3_first_0 9 rfl rfl)
theorem dX3_first_10 : decode cX3_first 10 = .ok (.aload_n 0, 1) := dk_42 (dk_at dksX3_first_0 10 rfl rfl)
theorem dX3_first_11 : decode cX3_first 11 = .ok (.getfield 13, 3) := dk_180 0 13 (dk_at dksX3_first_0 11 rfl rfl)
theorem dX3_first_14 : decode cX3_first 14 = .ok (.if_icmp .ge 23, 3) := dk_162 0 23 (dk_at dksX3_first_0 14 rfl rfl)
theorem dX3_first_17 : decode cX3_first 17 = .ok (.aload_n 0, 1) := dk_42 (dk_at dksX3_first_0 17 rfl rfl)
theorem dX3_first_18 : decode cX3_first 18 = .ok (.getfield 9, 3) := dk_180 0 9 (dk_at dksX3_first_0 18 rfl rfl)
theorem dX3_first_21 : decode cX3_first 21 = .ok (.iload_n 2, 1) := dk_28 (dk_at dksX3_first_0 21 rfl rfl)
theorem dX3_first_22 : decode cX3_first 22 = .ok (.iconst 1, 1) := dk_4 (dk_at dksX3_first_0 22 rfl rfl)
theorem dX3_first_23 : decode cX3_first 23 = .ok (.isub, 1) := dk_100 (dk_at dksX3_first_0 23 rfl rfl)
theorem dX3_first_24 : decode cX3_first 24 = .ok (.aload_n 0, 1) := dk_42 (dk_at dksX3_first_1 0 rfl rfl)
theorem dX3_first_25 : decode cX3_first 25 = .ok (.getfield 9, 3) := dk_180 0 9 (dk_at dksX3_first_1 1 rfl rfl)
theorem dX3_first_28 : decode cX3_first 28 = .ok (.iload_n 2, 1) := dk_28 (dk_at dksX3_first_1 4 rfl rfl)
theorem dX3_first_29 : decode cX3_first 29 = .ok (.iaload, 1) := dk_46 (dk_at dksX3_first_1 5 rfl rfl)
theorem dX3_first_30 : decode cX3_first 30 = .ok (.iastore, 1) := dk_79 (dk_at dksX3_first_1 6 rfl rfl)
theorem dX3_first_31 : decode cX3_first 31 = .ok (.iinc 2 1, 3) := dk_132 2 1 (dk_at dksX3_first_1 7 rfl rfl)
theorem dX3_first_34 : decode cX3_first 34 = .ok (.goto (-25), 3) := dk_167 255 231 (dk_at dksX3_first_1 10 rfl rfl)
theorem dX3_first_37 : decode cX3_first 37 = .ok (.aload_n 0, 1) := dk_42 (dk_at dksX3_first_1 13 rfl rfl)
theorem dX3_first_38 : decode cX3_first 38 = .ok (.dup, 1) := dk_89 (dk_at dksX3_first_1 14 rfl rfl)
theorem dX3_first_39 : decode cX3_first 39 = .ok (.getfield 13, 3) := dk_180 0 13 (dk_at dksX3_first_1 15 rfl rfl)
theorem dX3_first_42 : decode cX3_first 42 = .ok (.iconst 1, 1) := dk_4 (dk_at dksX3_first_1 18 rfl rfl)
theorem dX3_first_43 : decode cX3_first 43 = .ok (.isub, 1) := dk_100 (dk_at dksX3_first_1 19 rfl rfl)
theorem dX3_first_44 : decode cX3_first 44 = .ok (.putfield 13, 3) := dk_181 0 13 (dk_at dksX3_first_1 20 rfl rfl)
theorem dX3_first_47 : decode cX3_first 47 = .ok (.iload_n 1, 1) := dk_27 (dk_at dksX3_first_1 23 rfl rfl)
theorem dX3_first_48 : decode cX3_first 48 = .ok (.ireturn, 1) := dk_172 (dk_at dksX3_first_2 0 rfl rfl)
abbrev cX3_takeMany : ByteArray := prog_3_method_8_code
def yX3_takeMany : MethodName := ⟨RX3, "takeMany", "(I)J"⟩
def dkwX3_takeMany_1 : List UInt8 := [105, 42, 182, 0, 21, 133, 97, 65, 132, 4, 255, 167, 255, 229, 32, 173]
abbrev dktX3_takeMany_1 : List UInt8 := dkwX3_takeMany_1 ++ []
def dkwX3_takeMany_0 : List UInt8 := [9, 65, 27, 16, 15, 126, 54, 4, 21, 4, 158, 0, 28, 42, 180, 0, 13, 158, 0, 21, 32, 20, 0, 25]
abbrev dktX3_takeMany_0 : List UInt8 := dkwX3_takeMany_0 ++ dktX3_takeMany_1
theorem dksX3_takeMany_0 : cX3_takeMany.data.toList.drop 0 = dktX3_takeMany_0 := by decide +kernel
theorem dksX3_takeMany_1 : cX3_takeMany.data.toList.drop 24 = dktX3_takeMany_1 := dk_seg dksX3_takeMany_0 24 rfl rfl
theorem dX3_takeMany_0 : decode cX3_takeMany 0 = .ok (.lconst 0, 1) := dk_9 (dk_at dksX3_takeMany_0 0 rfl rfl)
theorem dX3_takeMany_1 : decode cX3_takeMany 1 = .ok (.lstore_n 2, 1) := dk_65 (dk_at dksX3_takeMany_0 1 rfl rfl)
theorem dX3_takeMany_2 : decode cX3_takeMany 2 = .ok (.iload_n 1, 1) := dk_27 (dk_at dksX3_takeMany_0 2 rfl rfl)
theorem dX3_takeMany_3 : decode cX3_takeMany 3 = .ok (.bipush 15, 2) := dk_16 15 (dk_at dksX3_takeMany_0 3 rfl rfl)
theorem dX3_takeMany_5 : decode cX3_takeMany 5 = .ok (.iand, 1) := dk_126 (dk_at dksX3_takeMany_0 5 rfl rfl)
theorem dX3_takeMany_6 : decode cX3_takeMany 6 = .ok (.istore 4, 2) := dk_54 4 (dk_at dksX3_takeMany_0 6 rfl rfl)
theorem dX3_takeMany_8 : decode cX3_takeMany 8 = .ok (.iload 4, 2) := dk_21 4 (dk_at dksX3_takeMany_0 8 rfl rfl)
theorem dX3_takeMany_10 : decode cX3_takeMany 10 = .ok (.ifCond .le 28, 3) := dk_158 0 28 (dk_at dksX3_takeMany_0 10 rfl rfl)
theorem dX3_takeMany_13 : decode cX3_takeMany 13 = .ok (.aload_n 0, 1) := dk_42 (dk_at dksX3_takeMany_0 13 rfl rfl)
theorem dX3_takeMany_14 : decode cX3_takeMany 14 = .ok (.getfield 13, 3) := dk_180 0 13 (dk_at dksX3_takeMany_0 14 rfl rfl)
theorem dX3_takeMany_17 : decode cX3_takeMany 17 = .ok (.ifCond .le 21, 3) := dk_158 0 21 (dk_at dksX3_takeMany_0 17 rfl rfl)
theorem dX3_takeMany_20 : decode cX3_takeMany 20 = .ok (.lload_n 2, 1) := dk_32 (dk_at dksX3_takeMany_0 20 rfl rfl)
theorem dX3_takeMany_21 : decode cX3_takeMany 21 = .ok (.ldc2_w 25, 3) := dk_20 0 25 (dk_at dksX3_takeMany_0 21 rfl rfl)
theorem dX3_takeMany_24 : decode cX3_takeMany 24 = .ok (.lmul, 1) := dk_105 (dk_at dksX3_takeMany_1 0 rfl rfl)
theorem dX3_takeMany_25 : decode cX3_takeMany 25 = .ok (.aload_n 0, 1) := dk_42 (dk_at dksX3_takeMany_1 1 rfl rfl)
theorem dX3_takeMany_26 : decode cX3_takeMany 26 = .ok (.invokevirtual 21, 3) := dk_182 0 21 (dk_at dksX3_takeMany_1 2 rfl rfl)
theorem dX3_takeMany_29 : decode cX3_takeMany 29 = .ok (.i2l, 1) := dk_133 (dk_at dksX3_takeMany_1 5 rfl rfl)
theorem dX3_takeMany_30 : decode cX3_takeMany 30 = .ok (.ladd, 1) := dk_97 (dk_at dksX3_takeMany_1 6 rfl rfl)
theorem dX3_takeMany_31 : decode cX3_takeMany 31 = .ok (.lstore_n 2, 1) := dk_65 (dk_at dksX3_takeMany_1 7 rfl rfl)
theorem dX3_takeMany_32 : decode cX3_takeMany 32 = .ok (.iinc 4 (-1), 3) := dk_132 4 255 (dk_at dksX3_takeMany_1 8 rfl rfl)
theorem dX3_takeMany_35 : decode cX3_takeMany 35 = .ok (.goto (-27), 3) := dk_167 255 229 (dk_at dksX3_takeMany_1 11 rfl rfl)
theorem dX3_takeMany_38 : decode cX3_takeMany 38 = .ok (.lload_n 2, 1) := dk_32 (dk_at dksX3_takeMany_1 14 rfl rfl)
theorem dX3_takeMany_39 : decode cX3_takeMany 39 = .ok (.lreturn, 1) := dk_173 (dk_at dksX3_takeMany_1 15 rfl rfl)
abbrev cX3_waiting : ByteArray := prog_3_method_9_code
def yX3_waiting : MethodName := ⟨RX3, "waiting", "()I"⟩
theorem dX3_waiting_0 : decode cX3_waiting 0 = .ok (.aload_n 0, 1) := by decide +kernel
theorem dX3_waiting_1 : decode cX3_waiting 1 = .ok (.getfield 13, 3) := by decide +kernel
theorem dX3_waiting_4 : decode cX3_waiting 4 = .ok (.ireturn, 1) := by decide +kernel
abbrev cX3_shrink : ByteArray := prog_3_method_10_code
def yX3_shrink : MethodName := ⟨RX3, "shrink", "()V"⟩
theorem dX3_shrink_0 : decode cX3_shrink 0 = .ok (.return_, 1) := by decide +kernel
abbrev cX3_drain : ByteArray := prog_3_method_11_code
def yX3_drain : MethodName := ⟨RX3, "drain", "()V"⟩
def dkwX3_drain_0 : List UInt8 := [42, 3, 181, 0, 13, 177]
abbrev dktX3_drain_0 : List UInt8 := dkwX3_drain_0 ++ []
theorem dksX3_drain_0 : cX3_drain.data.toList.drop 0 = dktX3_drain_0 := by decide +kernel
theorem dX3_drain_0 : decode cX3_drain 0 = .ok (.aload_n 0, 1) := dk_42 (dk_at dksX3_drain_0 0 rfl rfl)
theorem dX3_drain_1 : decode cX3_drain 1 = .ok (.iconst 0, 1) := dk_3 (dk_at dksX3_drain_0 1 rfl rfl)
theorem dX3_drain_2 : decode cX3_drain 2 = .ok (.putfield 13, 3) := dk_181 0 13 (dk_at dksX3_drain_0 2 rfl rfl)
theorem dX3_drain_5 : decode cX3_drain 5 = .ok (.return_, 1) := dk_177 (dk_at dksX3_drain_0 5 rfl rfl)
theorem q9 : (Jvm.Cond.initialized "ArrayQueueDeskModel") ∈ lw_all := lw_g (lw_at lw_m1 4 rfl) rfl
theorem q204 : (Jvm.Cond.instantiable "ArrayQueueDeskModel" (2 : Nat)) ∈ lw_all := lw_g (lw_at lw_m1 199 rfl) rfl
theorem q206 : (Jvm.Cond.instanceMethod ({ cls := "ArrayQueueDeskModel", name := "<init>", desc := "()V" } : Jvm.MethodName)) ∈ lw_all := lw_g (lw_at lw_m1 201 rfl) rfl
theorem q207 : (Jvm.Cond.code ({ cls := "ArrayQueueDeskModel", name := "<init>", desc := "()V" } : Jvm.MethodName) prog_3_method_1_code (1 : Nat) (Option.none : Option Jvm.ClassFile.FieldType)) ∈ lw_all := lw_g (lw_at lw_m1 202 rfl) rfl
theorem q208 : (Jvm.Cond.methodLink "ArrayQueueDeskModel" (1 : Nat) ({ cls := "java/lang/Object", name := "<init>", desc := "()V" } : Jvm.MethodName)) ∈ lw_all := lw_g (lw_at lw_m1 203 rfl) rfl
theorem q209 : (Jvm.Cond.fieldLink "ArrayQueueDeskModel" (9 : Nat) "ArrayQueueDeskModel" "row" "[I") ∈ lw_all := lw_g (lw_at lw_m1 204 rfl) rfl
theorem q210 : (Jvm.Cond.fieldLink "ArrayQueueDeskModel" (13 : Nat) "ArrayQueueDeskModel" "size" "I") ∈ lw_all := lw_g (lw_at lw_m1 205 rfl) rfl
theorem q211 : (Jvm.Cond.laysFinal "ArrayQueueDeskModel" "ArrayQueueDeskModel" "row" "[I") ∈ lw_all := lw_g (lw_at lw_m1 206 rfl) rfl
theorem q212 : (Jvm.Cond.soleField "ArrayQueueDeskModel" "row") ∈ lw_all := lw_g (lw_at lw_m1 207 rfl) rfl
theorem q213 : (Jvm.Cond.lays "ArrayQueueDeskModel" "ArrayQueueDeskModel" "size" "I") ∈ lw_all := lw_g (lw_at lw_m1 208 rfl) rfl
theorem q214 : (Jvm.Cond.soleField "ArrayQueueDeskModel" "size") ∈ lw_all := lw_g (lw_at lw_m1 209 rfl) rfl
theorem q215 : (Jvm.Cond.superclass "ArrayQueueDeskModel" "java/lang/Object") ∈ lw_all := lw_g (lw_at lw_m1 210 rfl) rfl
theorem q217 : (Jvm.Cond.instanceMethod ({ cls := "ArrayQueueDeskModel", name := "enter", desc := "(I)Z" } : Jvm.MethodName)) ∈ lw_all := lw_g (lw_at lw_m1 212 rfl) rfl
theorem q218 : (Jvm.Cond.selects "ArrayQueueDeskModel" ({ cls := "ArrayQueueDeskModel", name := "enter", desc := "(I)Z" } : Jvm.MethodName) ({ cls := "ArrayQueueDeskModel", name := "enter", desc := "(I)Z" } : Jvm.MethodName)) ∈ lw_all := lw_g (lw_at lw_m1 213 rfl) rfl
theorem q219 : (Jvm.Cond.code ({ cls := "ArrayQueueDeskModel", name := "enter", desc := "(I)Z" } : Jvm.MethodName) prog_3_method_4_code (2 : Nat) (Option.some Jvm.ClassFile.FieldType.boolean)) ∈ lw_all := lw_g (lw_at lw_m1 214 rfl) rfl
theorem q220 : (Jvm.Cond.methodLink "ArrayQueueDeskModel" (17 : Nat) ({ cls := "ArrayQueueDeskModel", name := "put", desc := "(I)V" } : Jvm.MethodName)) ∈ lw_all := lw_g (lw_at lw_m1 215 rfl) rfl
theorem q221 : (Jvm.Cond.privateMethod ({ cls := "ArrayQueueDeskModel", name := "put", desc := "(I)V" } : Jvm.MethodName)) ∈ lw_tbl := lw_at lw_m1 216 rfl
theorem q222 : (Jvm.Cond.instanceMethod ({ cls := "ArrayQueueDeskModel", name := "put", desc := "(I)V" } : Jvm.MethodName)) ∈ lw_all := lw_g (lw_at lw_m1 217 rfl) rfl
theorem q223 : (Jvm.Cond.code ({ cls := "ArrayQueueDeskModel", name := "put", desc := "(I)V" } : Jvm.MethodName) prog_3_method_2_code (3 : Nat) (Option.none : Option Jvm.ClassFile.FieldType)) ∈ lw_all := lw_g (lw_at lw_m1 218 rfl) rfl
theorem q225 : (Jvm.Cond.instanceMethod ({ cls := "ArrayQueueDeskModel", name := "many", desc := "(III)I" } : Jvm.MethodName)) ∈ lw_all := lw_g (lw_at lw_m1 220 rfl) rfl
theorem q226 : (Jvm.Cond.selects "ArrayQueueDeskModel" ({ cls := "ArrayQueueDeskModel", name := "many", desc := "(III)I" } : Jvm.MethodName) ({ cls := "ArrayQueueDeskModel", name := "many", desc := "(III)I" } : Jvm.MethodName)) ∈ lw_all := lw_g (lw_at lw_m1 221 rfl) rfl
theorem q227 : (Jvm.Cond.code ({ cls := "ArrayQueueDeskModel", name := "many", desc := "(III)I" } : Jvm.MethodName) prog_3_method_5_code (6 : Nat) (Option.some Jvm.ClassFile.FieldType.int)) ∈ lw_all := lw_g (lw_at lw_m1 222 rfl) rfl
theorem q229 : (Jvm.Cond.instanceMethod ({ cls := "ArrayQueueDeskModel", name := "least", desc := "()I" } : Jvm.MethodName)) ∈ lw_all := lw_g (lw_at lw_m1 224 rfl) rfl
theorem q230 : (Jvm.Cond.selects "ArrayQueueDeskModel" ({ cls := "ArrayQueueDeskModel", name := "least", desc := "()I" } : Jvm.MethodName) ({ cls := "ArrayQueueDeskModel", name := "least", desc := "()I" } : Jvm.MethodName)) ∈ lw_all := lw_g (lw_at lw_m1 225 rfl) rfl
theorem q231 : (Jvm.Cond.code ({ cls := "ArrayQueueDeskModel", name := "least", desc := "()I" } : Jvm.MethodName) prog_3_method_6_code (1 : Nat) (Option.some Jvm.ClassFile.FieldType.int)) ∈ lw_all := lw_g (lw_at lw_m1 226 rfl) rfl
theorem q233 : (Jvm.Cond.instanceMethod ({ cls := "ArrayQueueDeskModel", name := "take", desc := "()I" } : Jvm.MethodName)) ∈ lw_all := lw_g (lw_at lw_m1 228 rfl) rfl
theorem q234 : (Jvm.Cond.selects "ArrayQueueDeskModel" ({ cls := "ArrayQueueDeskModel", name := "take", desc := "()I" } : Jvm.MethodName) ({ cls := "ArrayQueueDeskModel", name := "take", desc := "()I" } : Jvm.MethodName)) ∈ lw_all := lw_g (lw_at lw_m1 229 rfl) rfl
theorem q235 : (Jvm.Cond.code ({ cls := "ArrayQueueDeskModel", name := "take", desc := "()I" } : Jvm.MethodName) prog_3_method_7_code (1 : Nat) (Option.some Jvm.ClassFile.FieldType.int)) ∈ lw_all := lw_g (lw_at lw_m1 230 rfl) rfl
theorem q236 : (Jvm.Cond.methodLink "ArrayQueueDeskModel" (21 : Nat) ({ cls := "ArrayQueueDeskModel", name := "first", desc := "()I" } : Jvm.MethodName)) ∈ lw_all := lw_g (lw_at lw_m1 231 rfl) rfl
theorem q237 : (Jvm.Cond.privateMethod ({ cls := "ArrayQueueDeskModel", name := "first", desc := "()I" } : Jvm.MethodName)) ∈ lw_tbl := lw_at lw_m1 232 rfl
theorem q238 : (Jvm.Cond.instanceMethod ({ cls := "ArrayQueueDeskModel", name := "first", desc := "()I" } : Jvm.MethodName)) ∈ lw_all := lw_g (lw_at lw_m1 233 rfl) rfl
theorem q239 : (Jvm.Cond.code ({ cls := "ArrayQueueDeskModel", name := "first", desc := "()I" } : Jvm.MethodName) prog_3_method_3_code (3 : Nat) (Option.some Jvm.ClassFile.FieldType.int)) ∈ lw_all := lw_g (lw_at lw_m1 234 rfl) rfl
theorem q241 : (Jvm.Cond.instanceMethod ({ cls := "ArrayQueueDeskModel", name := "takeMany", desc := "(I)J" } : Jvm.MethodName)) ∈ lw_all := lw_g (lw_at lw_m1 236 rfl) rfl
theorem q242 : (Jvm.Cond.selects "ArrayQueueDeskModel" ({ cls := "ArrayQueueDeskModel", name := "takeMany", desc := "(I)J" } : Jvm.MethodName) ({ cls := "ArrayQueueDeskModel", name := "takeMany", desc := "(I)J" } : Jvm.MethodName)) ∈ lw_all := lw_g (lw_at lw_m1 237 rfl) rfl
theorem q243 : (Jvm.Cond.code ({ cls := "ArrayQueueDeskModel", name := "takeMany", desc := "(I)J" } : Jvm.MethodName) prog_3_method_8_code (5 : Nat) (Option.some Jvm.ClassFile.FieldType.long)) ∈ lw_all := lw_g (lw_at lw_m1 238 rfl) rfl
theorem q244 : (Jvm.Cond.constantLong "ArrayQueueDeskModel" (25 : Nat) (31 : Int64)) ∈ lw_all := lw_g (lw_at lw_m1 239 rfl) rfl
theorem q246 : (Jvm.Cond.instanceMethod ({ cls := "ArrayQueueDeskModel", name := "waiting", desc := "()I" } : Jvm.MethodName)) ∈ lw_all := lw_g (lw_at lw_m2 1 rfl) rfl
theorem q247 : (Jvm.Cond.selects "ArrayQueueDeskModel" ({ cls := "ArrayQueueDeskModel", name := "waiting", desc := "()I" } : Jvm.MethodName) ({ cls := "ArrayQueueDeskModel", name := "waiting", desc := "()I" } : Jvm.MethodName)) ∈ lw_all := lw_g (lw_at lw_m2 2 rfl) rfl
theorem q248 : (Jvm.Cond.code ({ cls := "ArrayQueueDeskModel", name := "waiting", desc := "()I" } : Jvm.MethodName) prog_3_method_9_code (1 : Nat) (Option.some Jvm.ClassFile.FieldType.int)) ∈ lw_all := lw_g (lw_at lw_m2 3 rfl) rfl
theorem q250 : (Jvm.Cond.instanceMethod ({ cls := "ArrayQueueDeskModel", name := "shrink", desc := "()V" } : Jvm.MethodName)) ∈ lw_all := lw_g (lw_at lw_m2 5 rfl) rfl
theorem q251 : (Jvm.Cond.selects "ArrayQueueDeskModel" ({ cls := "ArrayQueueDeskModel", name := "shrink", desc := "()V" } : Jvm.MethodName) ({ cls := "ArrayQueueDeskModel", name := "shrink", desc := "()V" } : Jvm.MethodName)) ∈ lw_all := lw_g (lw_at lw_m2 6 rfl) rfl
theorem q252 : (Jvm.Cond.code ({ cls := "ArrayQueueDeskModel", name := "shrink", desc := "()V" } : Jvm.MethodName) prog_3_method_10_code (1 : Nat) (Option.none : Option Jvm.ClassFile.FieldType)) ∈ lw_all := lw_g (lw_at lw_m2 7 rfl) rfl
theorem q254 : (Jvm.Cond.instanceMethod ({ cls := "ArrayQueueDeskModel", name := "drain", desc := "()V" } : Jvm.MethodName)) ∈ lw_all := lw_g (lw_at lw_m2 9 rfl) rfl
theorem q255 : (Jvm.Cond.selects "ArrayQueueDeskModel" ({ cls := "ArrayQueueDeskModel", name := "drain", desc := "()V" } : Jvm.MethodName) ({ cls := "ArrayQueueDeskModel", name := "drain", desc := "()V" } : Jvm.MethodName)) ∈ lw_all := lw_g (lw_at lw_m2 10 rfl) rfl
theorem q256 : (Jvm.Cond.code ({ cls := "ArrayQueueDeskModel", name := "drain", desc := "()V" } : Jvm.MethodName) prog_3_method_11_code (1 : Nat) (Option.none : Option Jvm.ClassFile.FieldType)) ∈ lw_all := lw_g (lw_at lw_m2 11 rfl) rfl
theorem q260 : (Jvm.Cond.castable "ArrayQueueDeskModel" "java/lang/Object") ∈ lw_tbl := lw_at lw_m2 15 rfl
theorem in_X3 : ∀ w ∈ wsX30, w ∈ lw_all := lw_in wsX30 [211, 213] (by decide +kernel) (by decide +kernel)
theorem q5 : (Jvm.Cond.initialized "ArrayQueueDeskLaw") ∈ lw_all := lw_g (lw_at lw_m1 0 rfl) rfl
set_option maxRecDepth 100000
theorem q16 : (Jvm.Cond.classLink "ArrayQueueDeskLaw" (7 : Nat) "ArrayQueueDesk") ∈ lw_all := lw_g (lw_at lw_m1 11 rfl) rfl
theorem q18 : (Jvm.Cond.methodLink "ArrayQueueDeskLaw" (9 : Nat) ({ cls := "ArrayQueueDesk", name := "<init>", desc := "()V" } : Jvm.MethodName)) ∈ lw_all := lw_g (lw_at lw_m1 13 rfl) rfl
theorem q56 : (Jvm.Cond.methodLink "ArrayQueueDeskLaw" (13 : Nat) ({ cls := "ArrayQueueDesk", name := "enter", desc := "(I)Z" } : Jvm.MethodName)) ∈ lw_all := lw_g (lw_at lw_m1 51 rfl) rfl
theorem q84 : (Jvm.Cond.methodLink "ArrayQueueDeskLaw" (18 : Nat) ({ cls := "ArrayQueueDesk", name := "many", desc := "(III)I" } : Jvm.MethodName)) ∈ lw_all := lw_g (lw_at lw_m1 79 rfl) rfl
theorem q88 : (Jvm.Cond.methodLink "ArrayQueueDeskLaw" (23 : Nat) ({ cls := "ArrayQueueDesk", name := "least", desc := "()I" } : Jvm.MethodName)) ∈ lw_all := lw_g (lw_at lw_m1 83 rfl) rfl
theorem q165 : (Jvm.Cond.methodLink "ArrayQueueDeskLaw" (28 : Nat) ({ cls := "ArrayQueueDesk", name := "take", desc := "()I" } : Jvm.MethodName)) ∈ lw_all := lw_g (lw_at lw_m1 160 rfl) rfl
theorem q174 : (Jvm.Cond.methodLink "ArrayQueueDeskLaw" (32 : Nat) ({ cls := "ArrayQueueDesk", name := "takeMany", desc := "(I)J" } : Jvm.MethodName)) ∈ lw_all := lw_g (lw_at lw_m1 169 rfl) rfl
theorem q179 : (Jvm.Cond.methodLink "ArrayQueueDeskLaw" (37 : Nat) ({ cls := "ArrayQueueDesk", name := "waiting", desc := "()I" } : Jvm.MethodName)) ∈ lw_all := lw_g (lw_at lw_m1 174 rfl) rfl
theorem q183 : (Jvm.Cond.methodLink "ArrayQueueDeskLaw" (41 : Nat) ({ cls := "ArrayQueueDesk", name := "shrink", desc := "()V" } : Jvm.MethodName)) ∈ lw_all := lw_g (lw_at lw_m1 178 rfl) rfl
theorem q195 : (Jvm.Cond.methodLink "ArrayQueueDeskLaw" (45 : Nat) ({ cls := "ArrayQueueDesk", name := "drain", desc := "()V" } : Jvm.MethodName)) ∈ lw_all := lw_g (lw_at lw_m1 190 rfl) rfl
theorem q203 : (Jvm.Cond.classLink "ArrayQueueDeskLaw" (10 : Nat) "ArrayQueueDeskModel") ∈ lw_all := lw_g (lw_at lw_m1 198 rfl) rfl
theorem q205 : (Jvm.Cond.methodLink "ArrayQueueDeskLaw" (12 : Nat) ({ cls := "ArrayQueueDeskModel", name := "<init>", desc := "()V" } : Jvm.MethodName)) ∈ lw_all := lw_g (lw_at lw_m1 200 rfl) rfl
theorem q216 : (Jvm.Cond.methodLink "ArrayQueueDeskLaw" (17 : Nat) ({ cls := "ArrayQueueDeskModel", name := "enter", desc := "(I)Z" } : Jvm.MethodName)) ∈ lw_all := lw_g (lw_at lw_m1 211 rfl) rfl
theorem q224 : (Jvm.Cond.methodLink "ArrayQueueDeskLaw" (22 : Nat) ({ cls := "ArrayQueueDeskModel", name := "many", desc := "(III)I" } : Jvm.MethodName)) ∈ lw_all := lw_g (lw_at lw_m1 219 rfl) rfl
theorem q228 : (Jvm.Cond.methodLink "ArrayQueueDeskLaw" (27 : Nat) ({ cls := "ArrayQueueDeskModel", name := "least", desc := "()I" } : Jvm.MethodName)) ∈ lw_all := lw_g (lw_at lw_m1 223 rfl) rfl
theorem q232 : (Jvm.Cond.methodLink "ArrayQueueDeskLaw" (31 : Nat) ({ cls := "ArrayQueueDeskModel", name := "take", desc := "()I" } : Jvm.MethodName)) ∈ lw_all := lw_g (lw_at lw_m1 227 rfl) rfl
theorem q240 : (Jvm.Cond.methodLink "ArrayQueueDeskLaw" (36 : Nat) ({ cls := "ArrayQueueDeskModel", name := "takeMany", desc := "(I)J" } : Jvm.MethodName)) ∈ lw_all := lw_g (lw_at lw_m1 235 rfl) rfl
theorem q245 : (Jvm.Cond.methodLink "ArrayQueueDeskLaw" (40 : Nat) ({ cls := "ArrayQueueDeskModel", name := "waiting", desc := "()I" } : Jvm.MethodName)) ∈ lw_all := lw_g (lw_at lw_m2 0 rfl) rfl
theorem q249 : (Jvm.Cond.methodLink "ArrayQueueDeskLaw" (44 : Nat) ({ cls := "ArrayQueueDeskModel", name := "shrink", desc := "()V" } : Jvm.MethodName)) ∈ lw_all := lw_g (lw_at lw_m2 4 rfl) rfl
theorem q253 : (Jvm.Cond.methodLink "ArrayQueueDeskLaw" (48 : Nat) ({ cls := "ArrayQueueDeskModel", name := "drain", desc := "()V" } : Jvm.MethodName)) ∈ lw_all := lw_g (lw_at lw_m2 8 rfl) rfl
/-! the law's own entry -/
set_option maxRecDepth 100000
abbrev cL_law : ByteArray := code
def dkwL_law_9 : List UInt8 := [182, 0, 45, 44, 182, 0, 48, 167, 0, 3, 132, 3, 6, 167, 255, 40, 4, 172]
abbrev dktL_law_9 : List UInt8 := dkwL_law_9 ++ []
def dkwL_law_8 : List UInt8 := [182, 0, 37, 44, 182, 0, 40, 159, 0, 27, 3, 172, 43, 182, 0, 41, 44, 182, 0, 44, 167, 0, 14, 43]
abbrev dktL_law_8 : List UInt8 := dkwL_law_8 ++ dktL_law_9
def dkwL_law_7 : List UInt8 := [4, 96, 46, 182, 0, 32, 44, 42, 29, 4, 96, 46, 182, 0, 36, 148, 153, 0, 40, 3, 172, 43]
abbrev dktL_law_7 : List UInt8 := dkwL_law_7 ++ dktL_law_8
def dkwL_law_6 : List UInt8 := [182, 0, 27, 159, 0, 77, 3, 172, 43, 182, 0, 28, 44, 182, 0, 31, 159, 0, 64, 3, 172, 43, 42, 29]
abbrev dktL_law_6 : List UInt8 := dkwL_law_6 ++ dktL_law_7
def dkwL_law_5 : List UInt8 := [42, 29, 5, 96, 46, 42, 29, 6, 96, 46, 182, 0, 22, 159, 0, 90, 3, 172, 43, 182, 0, 23, 44]
abbrev dktL_law_5 : List UInt8 := dkwL_law_5 ++ dktL_law_6
def dkwL_law_4 : List UInt8 := [42, 29, 4, 96, 46, 42, 29, 5, 96, 46, 42, 29, 6, 96, 46, 182, 0, 18, 44, 42, 29, 4, 96, 46]
abbrev dktL_law_4 : List UInt8 := dkwL_law_4 ++ dktL_law_5
def dkwL_law_3 : List UInt8 := [43, 42, 29, 4, 96, 46, 182, 0, 13, 44, 42, 29, 4, 96, 46, 182, 0, 17, 159, 0, 133, 3, 172, 43]
abbrev dktL_law_3 : List UInt8 := dkwL_law_3 ++ dktL_law_4
def dkwL_law_2 : List UInt8 := [170, 0, 0, 0, 0, 0, 198, 0, 0, 0, 0, 0, 0, 0, 7, 0, 0, 0, 47, 0, 0, 0, 70, 0, 0, 0, 113, 0, 0, 0, 126, 0, 0, 0, 139, 0, 0, 0, 163, 0, 0, 0, 176, 0, 0, 0, 187]
abbrev dktL_law_2 : List UInt8 := dkwL_law_2 ++ dktL_law_3
def dkwL_law_1 : List UInt8 := [163, 0, 213, 42, 29, 46, 16, 7, 126]
abbrev dktL_law_1 : List UInt8 := dkwL_law_1 ++ dktL_law_2
def dkwL_law_0 : List UInt8 := [187, 0, 7, 89, 183, 0, 9, 76, 187, 0, 10, 89, 183, 0, 12, 77, 3, 62, 29, 42, 190, 16, 6, 100]
abbrev dktL_law_0 : List UInt8 := dkwL_law_0 ++ dktL_law_1
theorem dksL_law_0 : cL_law.data.toList.drop 0 = dktL_law_0 := by decide +kernel
theorem dksL_law_1 : cL_law.data.toList.drop 24 = dktL_law_1 := dk_seg dksL_law_0 24 rfl rfl
theorem dksL_law_2 : cL_law.data.toList.drop 33 = dktL_law_2 := dk_seg dksL_law_1 9 rfl rfl
theorem dksL_law_3 : cL_law.data.toList.drop 80 = dktL_law_3 := dk_seg dksL_law_2 47 rfl rfl
theorem dksL_law_4 : cL_law.data.toList.drop 104 = dktL_law_4 := dk_seg dksL_law_3 24 rfl rfl
theorem dksL_law_5 : cL_law.data.toList.drop 128 = dktL_law_5 := dk_seg dksL_law_4 24 rfl rfl
theorem dksL_law_6 : cL_law.data.toList.drop 151 = dktL_law_6 := dk_seg dksL_law_5 23 rfl rfl
theorem dksL_law_7 : cL_law.data.toList.drop 175 = dktL_law_7 := dk_seg dksL_law_6 24 rfl rfl
theorem dksL_law_8 : cL_law.data.toList.drop 197 = dktL_law_8 := dk_seg dksL_law_7 22 rfl rfl
theorem dksL_law_9 : cL_law.data.toList.drop 221 = dktL_law_9 := dk_seg dksL_law_8 24 rfl rfl
theorem dL_law_0 : decode cL_law 0 = .ok (.new 7, 3) := dk_187 0 7 (dk_at dksL_law_0 0 rfl rfl)
theorem dL_law_3 : decode cL_law 3 = .ok (.dup, 1) := dk_89 (dk_at dksL_law_0 3 rfl rfl)
theorem dL_law_4 : decode cL_law 4 = .ok (.invokespecial 9, 3) := dk_183 0 9 (dk_at dksL_law_0 4 rfl rfl)
theorem dL_law_7 : decode cL_law 7 = .ok (.astore_n 1, 1) := dk_76 (dk_at dksL_law_0 7 rfl rfl)
theorem dL_law_8 : decode cL_law 8 = .ok (.new 10, 3) := dk_187 0 10 (dk_at dksL_law_0 8 rfl rfl)
theorem dL_law_11 : decode cL_law 11 = .ok (.dup, 1) := dk_89 (dk_at dksL_law_0 11 rfl rfl)
theorem dL_law_12 : decode cL_law 12 = .ok (.invokespecial 12, 3) := dk_183 0 12 (dk_at dksL_law_0 12 rfl rfl)
theorem dL_law_15 : decode cL_law 15 = .ok (.astore_n 2, 1) := dk_77 (dk_at dksL_law_0 15 rfl rfl)
theorem dL_law_16 : decode cL_law 16 = .ok (.iconst 0, 1) := dk_3 (dk_at dksL_law_0 16 rfl rfl)
theorem dL_law_17 : decode cL_law 17 = .ok (.istore_n 3, 1) := dk_62 (dk_at dksL_law_0 17 rfl rfl)
theorem dL_law_18 : decode cL_law 18 = .ok (.iload_n 3, 1) := dk_29 (dk_at dksL_law_0 18 rfl rfl)
theorem dL_law_19 : decode cL_law 19 = .ok (.aload_n 0, 1) := dk_42 (dk_at dksL_law_0 19 rfl rfl)
theorem dL_law_20 : decode cL_law 20 = .ok (.arraylength, 1) := dk_190 (dk_at dksL_law_0 20 rfl rfl)
theorem dL_law_21 : decode cL_law 21 = .ok (.bipush 6, 2) := dk_16 6 (dk_at dksL_law_0 21 rfl rfl)
theorem dL_law_23 : decode cL_law 23 = .ok (.isub, 1) := dk_100 (dk_at dksL_law_0 23 rfl rfl)
theorem dL_law_24 : decode cL_law 24 = .ok (.if_icmp .gt 213, 3) := dk_163 0 213 (dk_at dksL_law_1 0 rfl rfl)
theorem dL_law_27 : decode cL_law 27 = .ok (.aload_n 0, 1) := dk_42 (dk_at dksL_law_1 3 rfl rfl)
theorem dL_law_28 : decode cL_law 28 = .ok (.iload_n 3, 1) := dk_29 (dk_at dksL_law_1 4 rfl rfl)
theorem dL_law_29 : decode cL_law 29 = .ok (.iaload, 1) := dk_46 (dk_at dksL_law_1 5 rfl rfl)
theorem dL_law_30 : decode cL_law 30 = .ok (.bipush 7, 2) := dk_16 7 (dk_at dksL_law_1 6 rfl rfl)
theorem dL_law_32 : decode cL_law 32 = .ok (.iand, 1) := dk_126 (dk_at dksL_law_1 8 rfl rfl)
theorem dL_law_33 : decode cL_law 33 = .ok (.tableswitch 198 0 7 #[47, 70, 113, 126, 139, 163, 176, 187], 47) := by decide +kernel
theorem dL_law_80 : decode cL_law 80 = .ok (.aload_n 1, 1) := dk_43 (dk_at dksL_law_3 0 rfl rfl)
theorem dL_law_81 : decode cL_law 81 = .ok (.aload_n 0, 1) := dk_42 (dk_at dksL_law_3 1 rfl rfl)
theorem dL_law_82 : decode cL_law 82 = .ok (.iload_n 3, 1) := dk_29 (dk_at dksL_law_3 2 rfl rfl)
theorem dL_law_83 : decode cL_law 83 = .ok (.iconst 1, 1) := dk_4 (dk_at dksL_law_3 3 rfl rfl)
theorem dL_law_84 : decode cL_law 84 = .ok (.iadd, 1) := dk_96 (dk_at dksL_law_3 4 rfl rfl)
theorem dL_law_85 : decode cL_law 85 = .ok (.iaload, 1) := dk_46 (dk_at dksL_law_3 5 rfl rfl)
theorem dL_law_86 : decode cL_law 86 = .ok (.invokevirtual 13, 3) := dk_182 0 13 (dk_at dksL_law_3 6 rfl rfl)
theorem dL_law_89 : decode cL_law 89 = .ok (.aload_n 2, 1) := dk_44 (dk_at dksL_law_3 9 rfl rfl)
theorem dL_law_90 : decode cL_law 90 = .ok (.aload_n 0, 1) := dk_42 (dk_at dksL_law_3 10 rfl rfl)
theorem dL_law_91 : decode cL_law 91 = .ok (.iload_n 3, 1) := dk_29 (dk_at dksL_law_3 11 rfl rfl)
theorem dL_law_92 : decode cL_law 92 = .ok (.iconst 1, 1) := dk_4 (dk_at dksL_law_3 12 rfl rfl)
theorem dL_law_93 : decode cL_law 93 = .ok (.iadd, 1) := dk_96 (dk_at dksL_law_3 13 rfl rfl)
theorem dL_law_94 : decode cL_law 94 = .ok (.iaload, 1) := dk_46 (dk_at dksL_law_3 14 rfl rfl)
theorem dL_law_95 : decode cL_law 95 = .ok (.invokevirtual 17, 3) := dk_182 0 17 (dk_at dksL_law_3 15 rfl rfl)
theorem dL_law_98 : decode cL_law 98 = .ok (.if_icmp .eq 133, 3) := dk_159 0 133 (dk_at dksL_law_3 18 rfl rfl)
theorem dL_law_101 : decode cL_law 101 = .ok (.iconst 0, 1) := dk_3 (dk_at dksL_law_3 21 rfl rfl)
theorem dL_law_102 : decode cL_law 102 = .ok (.ireturn, 1) := dk_172 (dk_at dksL_law_3 22 rfl rfl)
theorem dL_law_103 : decode cL_law 103 = .ok (.aload_n 1, 1) := dk_43 (dk_at dksL_law_3 23 rfl rfl)
theorem dL_law_104 : decode cL_law 104 = .ok (.aload_n 0, 1) := dk_42 (dk_at dksL_law_4 0 rfl rfl)
theorem dL_law_105 : decode cL_law 105 = .ok (.iload_n 3, 1) := dk_29 (dk_at dksL_law_4 1 rfl rfl)
theorem dL_law_106 : decode cL_law 106 = .ok (.iconst 1, 1) := dk_4 (dk_at dksL_law_4 2 rfl rfl)
theorem dL_law_107 : decode cL_law 107 = .ok (.iadd, 1) := dk_96 (dk_at dksL_law_4 3 rfl rfl)
theorem dL_law_108 : decode cL_law 108 = .ok (.iaload, 1) := dk_46 (dk_at dksL_law_4 4 rfl rfl)
theorem dL_law_109 : decode cL_law 109 = .ok (.aload_n 0, 1) := dk_42 (dk_at dksL_law_4 5 rfl rfl)
theorem dL_law_110 : decode cL_law 110 = .ok (.iload_n 3, 1) := dk_29 (dk_at dksL_law_4 6 rfl rfl)
theorem dL_law_111 : decode cL_law 111 = .ok (.iconst 2, 1) := dk_5 (dk_at dksL_law_4 7 rfl rfl)
theorem dL_law_112 : decode cL_law 112 = .ok (.iadd, 1) := dk_96 (dk_at dksL_law_4 8 rfl rfl)
theorem dL_law_113 : decode cL_law 113 = .ok (.iaload, 1) := dk_46 (dk_at dksL_law_4 9 rfl rfl)
theorem dL_law_114 : decode cL_law 114 = .ok (.aload_n 0, 1) := dk_42 (dk_at dksL_law_4 10 rfl rfl)
theorem dL_law_115 : decode cL_law 115 = .ok (.iload_n 3, 1) := dk_29 (dk_at dksL_law_4 11 rfl rfl)
theorem dL_law_116 : decode cL_law 116 = .ok (.iconst 3, 1) := dk_6 (dk_at dksL_law_4 12 rfl rfl)
theorem dL_law_117 : decode cL_law 117 = .ok (.iadd, 1) := dk_96 (dk_at dksL_law_4 13 rfl rfl)
theorem dL_law_118 : decode cL_law 118 = .ok (.iaload, 1) := dk_46 (dk_at dksL_law_4 14 rfl rfl)
theorem dL_law_119 : decode cL_law 119 = .ok (.invokevirtual 18, 3) := dk_182 0 18 (dk_at dksL_law_4 15 rfl rfl)
theorem dL_law_122 : decode cL_law 122 = .ok (.aload_n 2, 1) := dk_44 (dk_at dksL_law_4 18 rfl rfl)
theorem dL_law_123 : decode cL_law 123 = .ok (.aload_n 0, 1) := dk_42 (dk_at dksL_law_4 19 rfl rfl)
theorem dL_law_124 : decode cL_law 124 = .ok (.iload_n 3, 1) := dk_29 (dk_at dksL_law_4 20 rfl rfl)
theorem dL_law_125 : decode cL_law 125 = .ok (.iconst 1, 1) := dk_4 (dk_at dksL_law_4 21 rfl rfl)
theorem dL_law_126 : decode cL_law 126 = .ok (.iadd, 1) := dk_96 (dk_at dksL_law_4 22 rfl rfl)
theorem dL_law_127 : decode cL_law 127 = .ok (.iaload, 1) := dk_46 (dk_at dksL_law_4 23 rfl rfl)
theorem dL_law_128 : decode cL_law 128 = .ok (.aload_n 0, 1) := dk_42 (dk_at dksL_law_5 0 rfl rfl)
theorem dL_law_129 : decode cL_law 129 = .ok (.iload_n 3, 1) := dk_29 (dk_at dksL_law_5 1 rfl rfl)
theorem dL_law_130 : decode cL_law 130 = .ok (.iconst 2, 1) := dk_5 (dk_at dksL_law_5 2 rfl rfl)
theorem dL_law_131 : decode cL_law 131 = .ok (.iadd, 1) := dk_96 (dk_at dksL_law_5 3 rfl rfl)
theorem dL_law_132 : decode cL_law 132 = .ok (.iaload, 1) := dk_46 (dk_at dksL_law_5 4 rfl rfl)
theorem dL_law_133 : decode cL_law 133 = .ok (.aload_n 0, 1) := dk_42 (dk_at dksL_law_5 5 rfl rfl)
theorem dL_law_134 : decode cL_law 134 = .ok (.iload_n 3, 1) := dk_29 (dk_at dksL_law_5 6 rfl rfl)
theorem dL_law_135 : decode cL_law 135 = .ok (.iconst 3, 1) := dk_6 (dk_at dksL_law_5 7 rfl rfl)
theorem dL_law_136 : decode cL_law 136 = .ok (.iadd, 1) := dk_96 (dk_at dksL_law_5 8 rfl rfl)
theorem dL_law_137 : decode cL_law 137 = .ok (.iaload, 1) := dk_46 (dk_at dksL_law_5 9 rfl rfl)
theorem dL_law_138 : decode cL_law 138 = .ok (.invokevirtual 22, 3) := dk_182 0 22 (dk_at dksL_law_5 10 rfl rfl)
theorem dL_law_141 : decode cL_law 141 = .ok (.if_icmp .eq 90, 3) := dk_159 0 90 (dk_at dksL_law_5 13 rfl rfl)
theorem dL_law_144 : decode cL_law 144 = .ok (.iconst 0, 1) := dk_3 (dk_at dksL_law_5 16 rfl rfl)
theorem dL_law_145 : decode cL_law 145 = .ok (.ireturn, 1) := dk_172 (dk_at dksL_law_5 17 rfl rfl)
theorem dL_law_146 : decode cL_law 146 = .ok (.aload_n 1, 1) := dk_43 (dk_at dksL_law_5 18 rfl rfl)
theorem dL_law_147 : decode cL_law 147 = .ok (.invokevirtual 23, 3) := dk_182 0 23 (dk_at dksL_law_5 19 rfl rfl)
theorem dL_law_150 : decode cL_law 150 = .ok (.aload_n 2, 1) := dk_44 (dk_at dksL_law_5 22 rfl rfl)
theorem dL_law_151 : decode cL_law 151 = .ok (.invokevirtual 27, 3) := dk_182 0 27 (dk_at dksL_law_6 0 rfl rfl)
theorem dL_law_154 : decode cL_law 154 = .ok (.if_icmp .eq 77, 3) := dk_159 0 77 (dk_at dksL_law_6 3 rfl rfl)
theorem dL_law_157 : decode cL_law 157 = .ok (.iconst 0, 1) := dk_3 (dk_at dksL_law_6 6 rfl rfl)
theorem dL_law_158 : decode cL_law 158 = .ok (.ireturn, 1) := dk_172 (dk_at dksL_law_6 7 rfl rfl)
theorem dL_law_159 : decode cL_law 159 = .ok (.aload_n 1, 1) := dk_43 (dk_at dksL_law_6 8 rfl rfl)
theorem dL_law_160 : decode cL_law 160 = .ok (.invokevirtual 28, 3) := dk_182 0 28 (dk_at dksL_law_6 9 rfl rfl)
theorem dL_law_163 : decode cL_law 163 = .ok (.aload_n 2, 1) := dk_44 (dk_at dksL_law_6 12 rfl rfl)
theorem dL_law_164 : decode cL_law 164 = .ok (.invokevirtual 31, 3) := dk_182 0 31 (dk_at dksL_law_6 13 rfl rfl)
theorem dL_law_167 : decode cL_law 167 = .ok (.if_icmp .eq 64, 3) := dk_159 0 64 (dk_at dksL_law_6 16 rfl rfl)
theorem dL_law_170 : decode cL_law 170 = .ok (.iconst 0, 1) := dk_3 (dk_at dksL_law_6 19 rfl rfl)
theorem dL_law_171 : decode cL_law 171 = .ok (.ireturn, 1) := dk_172 (dk_at dksL_law_6 20 rfl rfl)
theorem dL_law_172 : decode cL_law 172 = .ok (.aload_n 1, 1) := dk_43 (dk_at dksL_law_6 21 rfl rfl)
theorem dL_law_173 : decode cL_law 173 = .ok (.aload_n 0, 1) := dk_42 (dk_at dksL_law_6 22 rfl rfl)
theorem dL_law_174 : decode cL_law 174 = .ok (.iload_n 3, 1) := dk_29 (dk_at dksL_law_6 23 rfl rfl)
theorem dL_law_175 : decode cL_law 175 = .ok (.iconst 1, 1) := dk_4 (dk_at dksL_law_7 0 rfl rfl)
theorem dL_law_176 : decode cL_law 176 = .ok (.iadd, 1) := dk_96 (dk_at dksL_law_7 1 rfl rfl)
theorem dL_law_177 : decode cL_law 177 = .ok (.iaload, 1) := dk_46 (dk_at dksL_law_7 2 rfl rfl)
theorem dL_law_178 : decode cL_law 178 = .ok (.invokevirtual 32, 3) := dk_182 0 32 (dk_at dksL_law_7 3 rfl rfl)
theorem dL_law_181 : decode cL_law 181 = .ok (.aload_n 2, 1) := dk_44 (dk_at dksL_law_7 6 rfl rfl)
theorem dL_law_182 : decode cL_law 182 = .ok (.aload_n 0, 1) := dk_42 (dk_at dksL_law_7 7 rfl rfl)
theorem dL_law_183 : decode cL_law 183 = .ok (.iload_n 3, 1) := dk_29 (dk_at dksL_law_7 8 rfl rfl)
theorem dL_law_184 : decode cL_law 184 = .ok (.iconst 1, 1) := dk_4 (dk_at dksL_law_7 9 rfl rfl)
theorem dL_law_185 : decode cL_law 185 = .ok (.iadd, 1) := dk_96 (dk_at dksL_law_7 10 rfl rfl)
theorem dL_law_186 : decode cL_law 186 = .ok (.iaload, 1) := dk_46 (dk_at dksL_law_7 11 rfl rfl)
theorem dL_law_187 : decode cL_law 187 = .ok (.invokevirtual 36, 3) := dk_182 0 36 (dk_at dksL_law_7 12 rfl rfl)
theorem dL_law_190 : decode cL_law 190 = .ok (.lcmp, 1) := dk_148 (dk_at dksL_law_7 15 rfl rfl)
theorem dL_law_191 : decode cL_law 191 = .ok (.ifCond .eq 40, 3) := dk_153 0 40 (dk_at dksL_law_7 16 rfl rfl)
theorem dL_law_194 : decode cL_law 194 = .ok (.iconst 0, 1) := dk_3 (dk_at dksL_law_7 19 rfl rfl)
theorem dL_law_195 : decode cL_law 195 = .ok (.ireturn, 1) := dk_172 (dk_at dksL_law_7 20 rfl rfl)
theorem dL_law_196 : decode cL_law 196 = .ok (.aload_n 1, 1) := dk_43 (dk_at dksL_law_7 21 rfl rfl)
theorem dL_law_197 : decode cL_law 197 = .ok (.invokevirtual 37, 3) := dk_182 0 37 (dk_at dksL_law_8 0 rfl rfl)
theorem dL_law_200 : decode cL_law 200 = .ok (.aload_n 2, 1) := dk_44 (dk_at dksL_law_8 3 rfl rfl)
theorem dL_law_201 : decode cL_law 201 = .ok (.invokevirtual 40, 3) := dk_182 0 40 (dk_at dksL_law_8 4 rfl rfl)
theorem dL_law_204 : decode cL_law 204 = .ok (.if_icmp .eq 27, 3) := dk_159 0 27 (dk_at dksL_law_8 7 rfl rfl)
theorem dL_law_207 : decode cL_law 207 = .ok (.iconst 0, 1) := dk_3 (dk_at dksL_law_8 10 rfl rfl)
theorem dL_law_208 : decode cL_law 208 = .ok (.ireturn, 1) := dk_172 (dk_at dksL_law_8 11 rfl rfl)
theorem dL_law_209 : decode cL_law 209 = .ok (.aload_n 1, 1) := dk_43 (dk_at dksL_law_8 12 rfl rfl)
theorem dL_law_210 : decode cL_law 210 = .ok (.invokevirtual 41, 3) := dk_182 0 41 (dk_at dksL_law_8 13 rfl rfl)
theorem dL_law_213 : decode cL_law 213 = .ok (.aload_n 2, 1) := dk_44 (dk_at dksL_law_8 16 rfl rfl)
theorem dL_law_214 : decode cL_law 214 = .ok (.invokevirtual 44, 3) := dk_182 0 44 (dk_at dksL_law_8 17 rfl rfl)
theorem dL_law_217 : decode cL_law 217 = .ok (.goto 14, 3) := dk_167 0 14 (dk_at dksL_law_8 20 rfl rfl)
theorem dL_law_220 : decode cL_law 220 = .ok (.aload_n 1, 1) := dk_43 (dk_at dksL_law_8 23 rfl rfl)
theorem dL_law_221 : decode cL_law 221 = .ok (.invokevirtual 45, 3) := dk_182 0 45 (dk_at dksL_law_9 0 rfl rfl)
theorem dL_law_224 : decode cL_law 224 = .ok (.aload_n 2, 1) := dk_44 (dk_at dksL_law_9 3 rfl rfl)
theorem dL_law_225 : decode cL_law 225 = .ok (.invokevirtual 48, 3) := dk_182 0 48 (dk_at dksL_law_9 4 rfl rfl)
theorem dL_law_228 : decode cL_law 228 = .ok (.goto 3, 3) := dk_167 0 3 (dk_at dksL_law_9 7 rfl rfl)
theorem dL_law_231 : decode cL_law 231 = .ok (.iinc 3 6, 3) := dk_132 3 6 (dk_at dksL_law_9 10 rfl rfl)
theorem dL_law_234 : decode cL_law 234 = .ok (.goto (-216), 3) := dk_167 255 40 (dk_at dksL_law_9 13 rfl rfl)
theorem dL_law_237 : decode cL_law 237 = .ok (.iconst 1, 1) := dk_4 (dk_at dksL_law_9 16 rfl rfl)
theorem dL_law_238 : decode cL_law 238 = .ok (.ireturn, 1) := dk_172 (dk_at dksL_law_9 17 rfl rfl)
end
section
/-! THE PLAIN LAW: a queue by position against a sorted row, over lists of ints; no program in sight -/
theorem aq_as {a b : Int32} (h1 : a ≤ b) (h2 : b ≤ a) : a = b := by
  rw [Int32.le_iff_toInt_le] at h1 h2
  exact Int32.toInt_inj.mp (by omega)
theorem aq_tr {a b c : Int32} (h1 : a ≤ b) (h2 : b ≤ c) : a ≤ c := by
  rw [Int32.le_iff_toInt_le] at h1 h2 ⊢
  omega
theorem aq_rf (a : Int32) : a ≤ a := by
  rw [Int32.le_iff_toInt_le]
  omega
theorem aq_tot {a b : Int32} (h : ¬ a ≤ b) : b ≤ a := by
  rw [Int32.le_iff_toInt_le] at h ⊢
  omega
theorem aq_ltle {a b : Int32} (h : a < b) : a ≤ b := by
  rw [Int32.lt_iff_toInt_lt] at h
  rw [Int32.le_iff_toInt_le]
  omega
theorem aq_nlt {a b : Int32} (h : ¬ a < b) : b ≤ a := by
  rw [Int32.lt_iff_toInt_lt] at h
  rw [Int32.le_iff_toInt_le]
  omega
theorem aq_nle {a b : Int32} (h : ¬ a ≤ b) : b < a := by
  rw [Int32.le_iff_toInt_le] at h
  rw [Int32.lt_iff_toInt_lt]
  omega
/-- the first z values of an array -/
def aq_L (f : Nat → Int32) (z : Nat) : List Int32 := (List.range z).map f
theorem aq_L_0 (f : Nat → Int32) : aq_L f 0 = [] := rfl
theorem aq_L_succ (f : Nat → Int32) (z : Nat) : aq_L f (z + 1) = aq_L f z ++ [f z] := by
  simp [aq_L, List.range_succ]
theorem aq_L_congr {f g : Nat → Int32} {z : Nat} (h : ∀ j, j < z → g j = f j) : aq_L g z = aq_L f z :=
  List.map_congr_left (fun j hj => h j (List.mem_range.mp hj))
theorem aq_L_mem {f : Nat → Int32} {z : Nat} {v : Int32} : v ∈ aq_L f z ↔ ∃ j, j < z ∧ f j = v := by
  simp [aq_L]
theorem aq_L_len (f : Nat → Int32) (z : Nat) : (aq_L f z).length = z := by
  simp [aq_L]
/-- a place taken out: what stands behind it moves down by one -/
theorem aq_del : ∀ (z k : Nat) (f g : Nat → Int32), k ≤ z → (∀ j, j < k → j < z → g j = f j) → (∀ j, k ≤ j → j < z → g j = f (j + 1)) → (aq_L f (z + 1)).Perm (f k :: aq_L g z)
  | 0, k, f, g, hk, _, _ => by
    have : k = 0 := by omega
    subst this
    exact List.Perm.refl _
  | z + 1, k, f, g, hk, h1, h2 => by
    by_cases hz : k = z + 1
    · subst hz
      rw [aq_L_succ f (z + 1), aq_L_congr (f := f) (g := g) (fun j hj => h1 j hj hj)]
      exact List.perm_append_singleton _ _
    · have ih := aq_del z k f g (by omega) (fun j a b => h1 j a (by omega)) (fun j a b => h2 j a (by omega))
      rw [aq_L_succ f (z + 1), aq_L_succ g z, h2 z (by omega) (by omega)]
      exact ih.append_right [f (z + 1)]
/-- the least of a list -/
def aq_min : List Int32 → Int32
  | [] => 0
  | [x] => x
  | x :: y :: L => if x ≤ aq_min (y :: L) then x else aq_min (y :: L)
theorem aq_min_mem : ∀ (L : List Int32), L ≠ [] → aq_min L ∈ L
  | [], h => absurd rfl h
  | [x], _ => by simp [aq_min]
  | x :: y :: L, _ => by
    have ih := aq_min_mem (y :: L) (by simp)
    unfold aq_min
    by_cases h : x ≤ aq_min (y :: L)
    · rw [if_pos h]
      exact List.mem_cons_self
    · rw [if_neg h]
      exact List.mem_cons_of_mem _ ih
theorem aq_min_le : ∀ (L : List Int32) (v : Int32), v ∈ L → aq_min L ≤ v
  | [], _, h => by cases h
  | [x], v, h => by
    have : v = x := by simpa using h
    subst this
    exact aq_rf _
  | x :: y :: L, v, h => by
    have ih := aq_min_le (y :: L)
    unfold aq_min
    by_cases hx : x ≤ aq_min (y :: L)
    · rw [if_pos hx]
      rcases List.mem_cons.mp h with e | e
      · rw [e]
        exact aq_rf _
      · exact aq_tr hx (ih v e)
    · rw [if_neg hx]
      rcases List.mem_cons.mp h with e | e
      · rw [e]
        exact aq_tot hx
      · exact ih v e
theorem aq_min_eq {L : List Int32} {r : Int32} (h : r ∈ L) (hm : ∀ v ∈ L, r ≤ v) : aq_min L = r :=
  aq_as (aq_min_le L r h) (hm _ (aq_min_mem L (fun e => by rw [e] at h; cases h)))
theorem aq_min_of {L : List Int32} {f : Nat → Int32} {z k : Nat} (hL : L.Perm (aq_L f z)) (hk : k < z) (hm : ∀ j, j < z → f k ≤ f j) : aq_min L = f k := by
  refine aq_min_eq (hL.mem_iff.mpr (aq_L_mem.mpr ⟨k, hk, rfl⟩)) (fun v hv => ?_)
  obtain ⟨j, hj, e⟩ := aq_L_mem.mp (hL.mem_iff.mp hv)
  rw [← e]
  exact hm j hj
theorem aq_erase {L : List Int32} {f g : Nat → Int32} {z k : Nat} (hL : L.Perm (aq_L f (z + 1))) (hk : k ≤ z) (h1 : ∀ j, j < k → j < z → g j = f j) (h2 : ∀ j, k ≤ j → j < z → g j = f (j + 1)) : (L.erase (f k)).Perm (aq_L g z) := by
  have h := (hL.trans (aq_del z k f g hk h1 h2)).erase (f k)
  rw [List.erase_cons_head] at h
  exact h
/-- the queue: an array of n places, of which the first z hold L; the least's place is known where fv is 1 -/
def aq_Q (L : List Int32) (n : Nat) (f : Nat → Int32) (z : Nat) (fi fv : Int32) : Prop :=
  z ≤ n ∧ n ≤ 300 ∧ z ≤ 200 ∧ L.Perm (aq_L f z) ∧ (fv = 0 ∨ (fv = 1 ∧ ∃ k, k < z ∧ fi = nI k ∧ ∀ j, j < z → f k ≤ f j))
theorem aq_Q.len {L : List Int32} {n : Nat} {f : Nat → Int32} {z : Nat} {fi fv : Int32} (h : aq_Q L n f z fi fv) : L.length = z := by
  rw [h.2.2.2.1.length_eq, aq_L_len]
theorem aq_Q_nil (n : Nat) (f : Nat → Int32) (fi : Int32) (hn : n ≤ 300) : aq_Q [] n f 0 fi 0 := ⟨Nat.zero_le _, hn, Nat.zero_le _, List.Perm.refl _, Or.inl rfl⟩
/-- another array with the same first values -/
theorem aq_Q.to {L : List Int32} {n n' : Nat} {f f' : Nat → Int32} {z : Nat} {fi fv : Int32} (h : aq_Q L n f z fi fv) (hn : z ≤ n') (hn' : n' ≤ 300) (hf : ∀ j, j < z → f' j = f j) : aq_Q L n' f' z fi fv := by
  obtain ⟨h1, h2, h3, h4, h5⟩ := h
  refine ⟨hn, hn', h3, by rw [aq_L_congr hf]; exact h4, ?_⟩
  rcases h5 with h5 | ⟨h5, k, h6, h7, h8⟩
  · exact Or.inl h5
  · exact Or.inr ⟨h5, k, h6, h7, fun j hj => by rw [hf k h6, hf j hj]; exact h8 j hj⟩
theorem aq_add_perm {L : List Int32} {f : Nat → Int32} {z : Nat} {x : Int32} (h : L.Perm (aq_L f z)) : (x :: L).Perm (aq_L (upd f z x) (z + 1)) := by
  rw [aq_L_succ, aq_L_congr (f := f) (g := upd f z x) (fun j hj => pk_un (by omega)), pk_us]
  exact (h.cons x).trans (List.perm_append_singleton _ _).symm
/-- one more, the least's place not known -/
theorem aq_Q.add0 {L : List Int32} {n : Nat} {f : Nat → Int32} {z : Nat} {fi fv fi' : Int32} {x : Int32} (h : aq_Q L n f z fi fv) (hz : z < n) (hz2 : z < 200) : aq_Q (x :: L) n (upd f z x) (z + 1) fi' 0 :=
  ⟨hz, h.2.1, hz2, aq_add_perm h.2.2.2.1, Or.inl rfl⟩
/-- one more, the least's place known: it stays -/
theorem aq_Q.addK {L : List Int32} {n : Nat} {f : Nat → Int32} {z k : Nat} {fi fv : Int32} {x : Int32} (h : aq_Q L n f z fi fv) (hz : z < n) (hz2 : z < 200) (hk : k < z) (hm : ∀ j, j < z → f k ≤ f j) (hx : f k ≤ x) : aq_Q (x :: L) n (upd f z x) (z + 1) (nI k) 1 := by
  refine ⟨hz, h.2.1, hz2, aq_add_perm h.2.2.2.1, Or.inr ⟨rfl, k, by omega, rfl, fun j hj => ?_⟩⟩
  rw [pk_un (show k ≠ z by omega)]
  by_cases e : j = z
  · rw [e, pk_us]
    exact hx
  · rw [pk_un e]
    exact hm j (by omega)
/-- one more, and it is the least -/
theorem aq_Q.addN {L : List Int32} {n : Nat} {f : Nat → Int32} {z k : Nat} {fi fv : Int32} {x : Int32} (h : aq_Q L n f z fi fv) (hz : z < n) (hz2 : z < 200) (hm : ∀ j, j < z → f k ≤ f j) (hx : x < f k) : aq_Q (x :: L) n (upd f z x) (z + 1) (nI z) 1 := by
  refine ⟨hz, h.2.1, hz2, aq_add_perm h.2.2.2.1, Or.inr ⟨rfl, z, by omega, rfl, fun j hj => ?_⟩⟩
  rw [pk_us]
  by_cases e : j = z
  · rw [e, pk_us]
    exact aq_rf _
  · rw [pk_un e]
    exact aq_tr (aq_ltle hx) (hm j (by omega))
/-- the least goes: what stands behind its place moves down -/
theorem aq_Q.del {L : List Int32} {n : Nat} {f : Nat → Int32} {z k : Nat} {fi fv fi' : Int32} (h : aq_Q L n f (z + 1) fi fv) (hk : k < z + 1) (hm : ∀ j, j < z + 1 → f k ≤ f j) : aq_Q (L.erase (aq_min L)) n (va_cpy f f (k + 1) k (z - k)) z fi' 0 := by
  obtain ⟨h1, h2, h3, h4, -⟩ := h
  refine ⟨by omega, h2, by omega, ?_, Or.inl rfl⟩
  rw [aq_min_of h4 hk hm]
  refine aq_erase h4 (by omega) (fun j a b => ?_) (fun j a b => ?_)
  · exact pk_cpy_out (Or.inl a)
  · rw [pk_cpy_in a (by omega)]
    congr 1
    omega
theorem aq_Q.found {L : List Int32} {n : Nat} {f : Nat → Int32} {z k : Nat} {fi fv : Int32} (h : aq_Q L n f z fi fv) (hk : k < z) (hm : ∀ j, j < z → f k ≤ f j) : aq_Q L n f z (nI k) 1 :=
  ⟨h.1, h.2.1, h.2.2.1, h.2.2.2.1, Or.inr ⟨rfl, k, hk, rfl, hm⟩⟩
theorem aq_Q.least {L : List Int32} {n : Nat} {f : Nat → Int32} {z k : Nat} {fi fv : Int32} (h : aq_Q L n f z fi fv) (hk : k < z) (hm : ∀ j, j < z → f k ≤ f j) : f k = aq_min L :=
  (aq_min_of h.2.2.2.1 hk hm).symm
/-- the reference: an ascending row -/
def aq_M (L : List Int32) (g : Nat → Int32) (z : Nat) : Prop := z ≤ 200 ∧ L.Perm (aq_L g z) ∧ ∀ i j, i ≤ j → j < z → g i ≤ g j
theorem aq_M.len {L : List Int32} {g : Nat → Int32} {z : Nat} (h : aq_M L g z) : L.length = z := by
  rw [h.2.1.length_eq, aq_L_len]
theorem aq_M_nil (g : Nat → Int32) : aq_M [] g 0 := ⟨Nat.zero_le _, List.Perm.refl _, fun i j _ h => absurd h (Nat.not_lt_zero _)⟩
theorem aq_M.least {L : List Int32} {g : Nat → Int32} {z : Nat} (h : aq_M L g z) (hz : 0 < z) : g 0 = aq_min L :=
  (aq_min_of h.2.1 hz (fun j hj => h.2.2 0 j (Nat.zero_le _) hj)).symm
/-- put's loop: the places k .. z hold what stood one below -/
def aq_Pt (g g' : Nat → Int32) (z k : Nat) (v : Int32) : Prop := k ≤ z ∧ (∀ j, j < k → g' j = g j) ∧ (∀ j, k ≤ j → j < z → g' (j + 1) = g j) ∧ ∀ j, k ≤ j → j < z → v ≤ g j
theorem aq_Pt_0 (g : Nat → Int32) (z : Nat) (v : Int32) : aq_Pt g g z z v := ⟨Nat.le_refl _, fun _ _ => rfl, fun j a b => absurd b (by omega), fun j a b => absurd b (by omega)⟩
theorem aq_Pt.step {g g' : Nat → Int32} {z k : Nat} {v : Int32} (h : aq_Pt g g' z (k + 1) v) (hv : v < g' k) : aq_Pt g (upd g' (k + 1) (g' k)) z k v := by
  obtain ⟨h1, h2, h3, h4⟩ := h
  refine ⟨by omega, fun j hj => ?_, fun j a b => ?_, fun j a b => ?_⟩
  · rw [pk_un (by omega)]
    exact h2 j (by omega)
  · by_cases e : j = k
    · rw [e, pk_us]
      exact h2 k (by omega)
    · rw [pk_un (by omega)]
      exact h3 j (by omega) b
  · by_cases e : j = k
    · rw [e, ← h2 k (by omega)]
      exact aq_ltle hv
    · exact h4 j (by omega) b
theorem aq_M.put {L : List Int32} {g g' : Nat → Int32} {z k : Nat} {v : Int32} (h : aq_M L g z) (hz : z < 200) (hp : aq_Pt g g' z k v) (hk : ∀ i, k = i + 1 → g' i ≤ v) : aq_M (v :: L) (upd g' k v) (z + 1) := by
  obtain ⟨h1, h2, h3⟩ := h
  obtain ⟨p1, p2, p3, p4⟩ := hp
  have lo : ∀ j, j < k → upd g' k v j = g j := fun j hj => by rw [pk_un (by omega)]; exact p2 j hj
  have hi : ∀ j, k ≤ j → j < z → upd g' k v (j + 1) = g j := fun j a b => by rw [pk_un (by omega)]; exact p3 j a b
  have at' : upd g' k v k = v := pk_us
  refine ⟨hz, ?_, fun i j hij hj => ?_⟩
  · have hd := aq_del z k (upd g' k v) g p1 (fun j a _ => (lo j a).symm) (fun j a b => (hi j a b).symm)
    rw [at'] at hd
    exact (h2.cons v).trans hd.symm
  · by_cases i1 : i < k
    · rw [lo i i1]
      by_cases j1 : j < k
      · rw [lo j j1]
        exact h3 i j hij (by omega)
      · by_cases j2 : j = k
        · rw [j2, at']
          obtain ⟨k', rfl⟩ : ∃ k', k = k' + 1 := ⟨k - 1, by omega⟩
          have h5 := hk k' rfl
          rw [p2 k' (by omega)] at h5
          exact aq_tr (h3 i k' (by omega) (by omega)) h5
        · obtain ⟨j', rfl⟩ : ∃ j', j = j' + 1 := ⟨j - 1, by omega⟩
          rw [hi j' (by omega) (by omega)]
          exact h3 i j' (by omega) (by omega)
    · by_cases i2 : i = k
      · rw [i2, at']
        by_cases j2 : j = k
        · rw [j2, at']
          exact aq_rf _
        · obtain ⟨j', rfl⟩ : ∃ j', j = j' + 1 := ⟨j - 1, by omega⟩
          rw [hi j' (by omega) (by omega)]
          exact p4 j' (by omega) (by omega)
      · obtain ⟨i', rfl⟩ : ∃ i', i = i' + 1 := ⟨i - 1, by omega⟩
        obtain ⟨j', rfl⟩ : ∃ j', j = j' + 1 := ⟨j - 1, by omega⟩
        rw [hi i' (by omega) (by omega), hi j' (by omega) (by omega)]
        exact h3 i' j' (by omega) (by omega)
/-- first's loop: the places below k - 1 hold what stood one above -/
def aq_Ft (g g' : Nat → Int32) (k : Nat) : Prop := (∀ j, j + 1 < k → g' j = g (j + 1)) ∧ ∀ j, k ≤ j + 1 → g' j = g j
theorem aq_Ft_1 (g : Nat → Int32) : aq_Ft g g 1 := ⟨fun j h => absurd h (by omega), fun _ _ => rfl⟩
theorem aq_Ft.step {g g' : Nat → Int32} {k : Nat} (h : aq_Ft g g' (k + 1)) : aq_Ft g (upd g' k (g' (k + 1))) (k + 2) := by
  obtain ⟨h1, h2⟩ := h
  refine ⟨fun j hj => ?_, fun j hj => ?_⟩
  · by_cases e : j = k
    · rw [e, pk_us]
      exact h2 (k + 1) (by omega)
    · rw [pk_un e]
      exact h1 j (by omega)
  · rw [pk_un (by omega)]
    exact h2 j (by omega)
theorem aq_M.first {L : List Int32} {g g' : Nat → Int32} {z : Nat} (h : aq_M L g (z + 1)) (hf : aq_Ft g g' (z + 1)) : aq_M (L.erase (aq_min L)) g' z := by
  have e0 : g 0 = aq_min L := h.least (by omega)
  obtain ⟨h1, h2, h3⟩ := h
  obtain ⟨f1, -⟩ := hf
  refine ⟨by omega, ?_, fun i j hij hj => ?_⟩
  · rw [← e0]
    exact aq_erase h2 (Nat.zero_le _) (fun j a _ => absurd a (by omega)) (fun j _ b => f1 j (by omega))
  · rw [f1 i (by omega), f1 j (by omega)]
    exact h3 (i + 1) (j + 1) (by omega) (by omega)
/-- many: c more are wanted, k are in -/
def aq_many (fr st : Int32) : Nat → Nat → List Int32 → Nat × List Int32
  | 0, k, L => (k, L)
  | c + 1, k, L => if L.length < 200 then aq_many fr st c (k + 1) ((fr + st * nI k) :: L) else (k, L)
theorem aq_many_0 (fr st : Int32) (k : Nat) (L : List Int32) : aq_many fr st 0 k L = (k, L) := rfl
theorem aq_many_full (fr st : Int32) (c k : Nat) (L : List Int32) (h : ¬ L.length < 200) : aq_many fr st c k L = (k, L) := by
  cases c with
  | zero => rfl
  | succ c => rw [aq_many, if_neg h]
theorem aq_many_s (fr st : Int32) (c k : Nat) (L : List Int32) (h : L.length < 200) : aq_many fr st (c + 1) k L = aq_many fr st c (k + 1) ((fr + st * nI k) :: L) := by
  rw [aq_many, if_pos h]
/-- takeMany -/
def aq_tk : Nat → Int64 → List Int32 → Int64 × List Int32
  | 0, z, L => (z, L)
  | c + 1, z, L => if L.length = 0 then (z, L) else aq_tk c (z * 31 + (aq_min L).toInt64) (L.erase (aq_min L))
theorem aq_tk_0 (z : Int64) (L : List Int32) : aq_tk 0 z L = (z, L) := rfl
theorem aq_tk_e (c : Nat) (z : Int64) (L : List Int32) (h : L.length = 0) : aq_tk c z L = (z, L) := by
  cases c with
  | zero => rfl
  | succ c => rw [aq_tk, if_pos h]
theorem aq_tk_s (c : Nat) (z : Int64) (L : List Int32) (h : ¬ L.length = 0) : aq_tk (c + 1) z L = aq_tk c (z * 31 + (aq_min L).toInt64) (L.erase (aq_min L)) := by
  rw [aq_tk, if_neg h]
/-- n & 15 -/
def aq_c (x : Int32) : Nat := (x &&& 15).toNatClampNeg
theorem aq_and15 (x : Int32) : aq_c x < 16 ∧ x &&& 15 = nI (aq_c x) := by
  obtain ⟨j, hj, e⟩ := pk_andE x (m := 15) 4 (by decide)
  have hc : aq_c x = j := by
    unfold aq_c
    rw [e]
    exact nI_clamp (by omega)
  rw [hc]
  exact ⟨by omega, e⟩
/-- what the growth of a full array of n places comes to -/
def aq_cap (n : Nat) : Nat := if n + 1 < n + n / 2 then n + n / 2 else n + 1
theorem aq_cap_ok {n : Nat} (h : n < 200) : n + 1 ≤ aq_cap n ∧ aq_cap n ≤ 300 := by
  unfold aq_cap
  by_cases h1 : n + 1 < n + n / 2
  · rw [if_pos h1]
    omega
  · rw [if_neg h1]
    omega
theorem aq_cap_L {n : Nat} (h : n < 200) : (if lN (n + 1) < lN (n + n / 2) then lN (n + n / 2) else lN (n + 1)) = lN (aq_cap n) := by
  unfold aq_cap
  by_cases h1 : n + 1 < n + n / 2
  · rw [if_pos h1, if_pos ((lN_lt (by omega) (by omega)).mpr h1)]
  · rw [if_neg h1, if_neg (fun q => h1 ((lN_lt (by omega) (by omega)).mp q))]
theorem aq_cap_M {n : Nat} (h : n < 200) : (if (2147483639 : Int64) < lN (n + n / 2) then (2147483639 : Int64) else lN (n + n / 2)) = lN (n + n / 2) := by
  rw [if_neg]
  intro q
  have e : (2147483639 : Int64) = lN 2147483639 := rfl
  rw [e] at q
  have := (lN_lt (by decide) (by omega)).mp q
  omega
theorem aq_half {n : Nat} (h : n < 300) : nI n >>> ((1 : Int32) &&& 31) = nI (n / 2) := pk_shrN (by omega) _ 1 (by decide)
end
section
/-! rows of our own over the kit; the classes; the pictures -/
section AQR
variable {p : Program} {l : Launch} {e : Env} {R : Room} {s : State} {m : MethodId} {args : Array Value} {below : List Frame} {meth : Method} {c : Code} {H : Heap} {locs : List Loc} {cells slots : Nat} {Q : State → Prop}
variable {pc : Nat} {ls : Array Slot} {rest : List Value}
theorem aq_asi {x : Int32} (y : Int32) (h : x = y) (k : W p l e R s m args below meth c H locs cells slots Q (F0 m pc ls (.int y :: rest))) : W p l e R s m args below meth c H locs cells slots Q (F0 m pc ls (.int x :: rest)) := by
  rw [h]
  exact k
theorem aq_asl {x : Int64} (y : Int64) (h : x = y) (k : W p l e R s m args below meth c H locs cells slots Q (F0 m pc ls (.long y :: rest))) : W p l e R s m args below meth c H locs cells slots Q (F0 m pc ls (.long x :: rest)) := by
  rw [h]
  exact k
/-- an old cell without slots is as it was, whatever was done -/
theorem aq_e0 {g : JFrame} {e0 : Nat} {ce : Cell} (h0 : s.heap[e0]? = some ce) (hz : ce.slots.size = 0) (kk : H[e0]? = some ce → W p l e R s m args below meth c H locs cells slots Q g) : W p l e R s m args below meth c H locs cells slots Q g := by
  intro T hT X
  obtain ⟨c', h1, h2, h3, -⟩ := X.same.2.2.2.2.2 e0 ce h0
  have h4 : c'.slots = ce.slots := Array.ext h3 (fun i a b => absurd b (by omega))
  rw [h4] at h2
  have h5 : c' = ce := h2
  refine kk ?_ T hT X
  rw [← hT, ← h5]
  exact h1
/-- writes at such a cell are none -/
theorem aq_forget {g : JFrame} {e0 : Nat} {ce : Cell} (h0 : s.heap[e0]? = some ce) (hz : ce.slots.size = 0) (hf : ∀ q ∈ locs, q.base = e0 ∨ s.heap.size ≤ q.base) (kk : W p l e R s m args below meth c H [] cells slots Q g) : W p l e R s m args below meth c H locs cells slots Q g := by
  intro T hT X
  refine kk T hT { X with same := ⟨X.same.1, X.same.2.1, X.same.2.2.1, X.same.2.2.2.1, X.same.2.2.2.2.1, fun a ca ha => ?_⟩ }
  obtain ⟨c', h1, h2, h3, h4⟩ := X.same.2.2.2.2.2 a ca ha
  refine ⟨c', h1, h2, h3, fun i _ => ?_⟩
  by_cases hm : (⟨a, i⟩ : Loc) ∈ locs
  · rcases hf _ hm with q | q
    · have q : a = e0 := q
      rw [q, h0] at ha
      cases ha
      rw [Array.getElem?_eq_none (by omega), Array.getElem?_eq_none (by omega)]
    · have hl := (Array.getElem?_eq_some_iff.mp ha).1
      have q : s.heap.size ≤ a := q
      omega
  · exact h4 i hm
end AQR
/-- the arrays of ints have one class -/
theorem aq_same {D : va_G} {cl : List vw_C} {U : State} {dA cA : ClassId} (h : va_K D cl [(dA, .int), (cA, .int)] U) : cA = dA := by
  have h1 : U.vm.findClass ("[" ++ (FieldType.int).toString) = some dA := (h.2 0 _ rfl).2
  have h2 : U.vm.findClass ("[" ++ (FieldType.int).toString) = some cA := (h.2 1 _ rfl).2
  exact Option.some.inj (h2.symm.trans h1)
theorem aq_dec {z : Nat} (h : 0 < z) : nI z + Int32.ofInt (-1) = nI (z - 1) := by
  rw [show Int32.ofInt (-1) = (-1 : Int32) from by decide]
  exact sb_m1 h
theorem aq_decS (z : Nat) : nI (z + 1) + Int32.ofInt (-1) = nI z := aq_dec (Nat.succ_pos z)
theorem aq_incS (z : Nat) : nI z + Int32.ofInt 1 = nI (z + 1) := nI_1 z
/-- the classes whose objects the worlds hold -/
abbrev vwCl : List vw_C := [(RX0, TX0, 1), (RX1, TX1, 5), (RX3, TX3, 2)]
theorem aq_classes {s0 : State} {b0 : Addr} (ht0 : ∀ w ∈ lw_tbl, w.before #[Value.ref b0] s0 = true) : ∃ (dC : Nat → ClassId) (dI : Nat → Nat → Nat), ∀ (k : Nat) (q : vw_C), vwCl[k]? = some q → u_Kn s0 q.1 q.2.1 q.2.2 (dC k) (dI k) := by
  obtain ⟨c0_, iS0, hKn0⟩ := u_known (C := RX0) (T := TX0) (N := 1) (n := 1) ht0 (fun w h => lw_all_tbl (in_X0 w h)) (ht0 _ (lw_all_tbl q17))
  obtain ⟨c1_, iS1, hKn1⟩ := u_known (C := RX1) (T := TX1) (N := 5) (n := 5) ht0 (fun w h => lw_all_tbl (in_X1 w h)) (ht0 _ (lw_all_tbl q25))
  obtain ⟨c2_, iS2, hKn2⟩ := u_known (C := RX3) (T := TX3) (N := 2) (n := 2) ht0 (fun w h => lw_all_tbl (in_X3 w h)) (ht0 _ (lw_all_tbl q204))
  refine ⟨fun k => if k = 0 then c0_ else if k = 1 then c1_ else c2_, fun k => if k = 0 then iS0 else if k = 1 then iS1 else iS2, ?_⟩
  intro k q hq
  match k, hq with
  | 0, hq => cases hq; exact hKn0
  | 1, hq => cases hq; exact hKn1
  | 2, hq => cases hq; exact hKn2
  | k + 3, hq => simp [vwCl] at hq
/-- a queue at h that holds L -/
abbrev aq_BQ (dC : Nat → ClassId) (dI : Nat → Nat → Nat) (dA : ClassId) (A : Nat → Prop) (h : Nat) (L : List Int32) (t : State) : Prop :=
  ∃ (a n : Nat) (f : Nat → Int32) (z : Nat) (fi fv : Int32), aq_Q L n f z fi fv ∧ va_P (dC, dI) vwCl [(h, .inr (1, [.ref a, .int (nI z), .null, .int fi, .int fv])), (a, .inl (dA, n, .inl f))] t.heap ∧ va_K (dC, dI) vwCl [(dA, .int)] t ∧ va_D A [(h, .inr (1, [.ref a, .int (nI z), .null, .int fi, .int fv])), (a, .inl (dA, n, .inl f))]
/-- a desk at x with its queue at h that holds L -/
abbrev aq_BD (dC : Nat → ClassId) (dI : Nat → Nat → Nat) (dA : ClassId) (A : Nat → Prop) (x h : Nat) (L : List Int32) (t : State) : Prop :=
  ∃ (a n : Nat) (f : Nat → Int32) (z : Nat) (fi fv : Int32), aq_Q L n f z fi fv ∧ va_P (dC, dI) vwCl [(x, .inr (0, [.ref h])), (h, .inr (1, [.ref a, .int (nI z), .null, .int fi, .int fv])), (a, .inl (dA, n, .inl f))] t.heap ∧ va_K (dC, dI) vwCl [(dA, .int)] t ∧ va_D A [(x, .inr (0, [.ref h])), (h, .inr (1, [.ref a, .int (nI z), .null, .int fi, .int fv])), (a, .inl (dA, n, .inl f))]
/-- a reference at o with its row at r that holds L -/
abbrev aq_BM (dC : Nat → ClassId) (dI : Nat → Nat → Nat) (dA : ClassId) (A : Nat → Prop) (o r : Nat) (L : List Int32) (t : State) : Prop :=
  ∃ (g : Nat → Int32) (z : Nat), aq_M L g z ∧ va_P (dC, dI) vwCl [(o, .inr (2, [.ref r, .int (nI z)])), (r, .inl (dA, 200, .inl g))] t.heap ∧ va_K (dC, dI) vwCl [(dA, .int)] t ∧ va_D A [(o, .inr (2, [.ref r, .int (nI z)])), (r, .inl (dA, 200, .inl g))]
end
section
/-! THE CLAIM OUT OF ONE WALK OF THE LAW'S BODY. Your part is whole_start (and what it stands on); all else here is the same for every law, but numbers. -/
def R_law : String := "ArrayQueueDeskLaw"
def lw_P (b : Addr) (xs : List Int32) (args : Array Value) (s : State) : Prop := args = #[.ref b] ∧ s.IntsAt b xs ∧ xs.length ≤ 288 ∧ (Jvm.Cond.and given_1 narrow_1).before args s = true
def lw_Q (_ : Array Value) (s : State) (o : Outcome) (t : State) : Prop := o = .returned (some (.int 1)) ∧ Framed s o t [] 1200096 5501386
def lw_Z (below : List Frame) (a : Array Value) (s : State) : State → Prop := fun t => ∃ o, t.status = .running ∧ Ended t below o ∧ lw_Q a s o t
/-- the law's own end, with 1 on the stack, nothing written that was there before, its room as the claim has it -/
theorem lw_ret {p : Program} {l : Launch} {e : Env} {s : State} {m : MethodId} {below : List Frame} {meth : Method} {c : Code} {b : Nat} (hx : p.tables.exec = Jvm.exec) (hb : c.code = code) (hr : meth.sig.returnType = ret) (hlocks : meth.locks = false) {pc : Nat} {H : Heap} {ls : Array Slot} (hdg : decode code pc = .ok (.ireturn, 1)) : W p l e room_1 s m #[Value.ref b] below meth c H [] 1200096 5501386 (lw_Z below #[Value.ref b] s) (F0 m pc ls [.int 1]) := by
  intro T hT X
  obtain ⟨fs, hret, hrun, hended, hW, hframe⟩ := X.leave (v := some (.int 1)) (hlocks := hlocks) (fun h => by rw [hr] at h; cases h)
  have hmeth' : T.vm.method? m = some meth := X.method'
  refine ⟨T.setFrames fs, ?_, .returned (some (.int 1)), hrun, hended, rfl, ⟨_, rfl⟩, hW, hframe⟩
  jvm_step X.here [X.here.top, hx, hb, hdg, hmeth', hr, ret, narrow_b1]
  (try refine ⟨rfl, ?_⟩); (try refine ⟨rfl, ?_⟩)
  first | (intro acts; rw [hret _ acts rfl rfl rfl]) | rw [hret _ _ rfl rfl rfl]
  exact Steps.refl _
/-- what holds at the law's entry: the machine, the code, the tables' words (any of lw_tbl by 'hts w (by decide +kernel)'), the script of L ints xs at the cell b, what the Statement gives of the start (any of its parts by flat_of_before) -/
def lw_At (p : Program) (s : State) (m : MethodId) (meth : Method) (c : Code) (b L : Nat) (xs : Nat → Int32) : Prop :=
  p.tables.exec = Jvm.exec ∧ c.code = code ∧ meth.sig.returnType = ret ∧ c.maxLocals = 4 ∧ s.vm.findClass R_law = some m.cls ∧ (∀ w ∈ lw_tbl, w.before #[Value.ref b] s = true) ∧ va_X b L xs s s.heap ∧ b < s.heap.size ∧ meth.locks = false ∧ (Jvm.Cond.and given_1 narrow_1).before #[Value.ref b] s = true
end
section
/-! MODULE IntArrays: grow (twice), trim (twice) -/
set_option maxHeartbeats 4000000 in
set_option maxRecDepth 100000 in
/-- grow of a full array of n places: a new one of aq_cap n, the first n as they were -/
theorem met_grow3 (l : Launch) (dC : Nat → ClassId) (dI : Nat → Nat → Nat) (dA : ClassId) (a sz n : Nat) (f : Nat → Int32) (hn : n < 200) : Met l yX2_grow_2 (ws_ yX2_grow_2 cX2_grow_2 5 (some (.array .int))) ({ frames := 1, cells := 1, slots := 300, locals := 60 } : Room) (va_Pc [.ref a, .int (nI (n + 1)), .int (nI n)] (fun U => U.heap.size = sz ∧ va_P (dC, dI) vwCl [(a, .inl (dA, n, .inl f))] U.heap ∧ va_K (dC, dI) vwCl [(dA, .int)] U ∧ va_D (fun _ => True) [(a, .inl (dA, n, .inl f))])) (va_Qr (fun (g : Nat → Int32) => ∀ j, j < n → g j = f j) (fun (g : Nat → Int32) (q : Nat) t => va_P (dC, dI) vwCl [(q, .inl (dA, aq_cap n, .inl g))] t.heap ∧ va_K (dC, dI) vwCl [(dA, .int)] t ∧ va_D (va_A [(a, .inl (dA, n, .inl f))] sz) [(q, .inl (dA, aq_cap n, .inl g))]) (va_A [(a, .inl (dA, n, .inl f))] sz)) 1 300 (va_A [(a, .inl (dA, n, .inl f))] sz) := by
  refine Met.ofW (cc := cX2_grow_2) (maxL := 5) (ret := (some (.array .int))) (by decide) rfl ?_
  intro p e s m args below meth c s₁ B hml hv
  obtain ⟨rfl, hsz, hP, hK, hD0⟩ := hv
  have hx := B.exec
  have hb := B.bytes
  have hr := B.returns
  have hts := atoms_spec (ws := ws_ yX2_grow_2 cX2_grow_2 5 (some (.array .int))) B.pre
  have hts : ∀ w ∈ lw_all, w.before _ s = true := fun w h => hts w (List.mem_cons_of_mem _ h)
  have hown : s.vm.findClass RX2 = some m.cls := findClass_of_methodNamed B.named
  have hlocks := B.notSynchronized
  subst hsz
  have hD := hD0.self (sz := s.heap.size)
  generalize hAe : va_A [(a, .inl (dA, n, .inl f))] s.heap.size = A at hD ⊢
  have hA : ∀ q : Nat, s.heap.size ≤ q → A q := fun q h => by rw [← hAe]; exact Or.inr h
  have hS : va_S A s.heap s.heap [] := va_S.rf
  have hP : va_P (dC, dI) vwCl [(a, .inl (dA, n, .inl f))] s.heap := hP
  have hl := lv_entry ([.ref a, .int (nI (n + 1)), .int (nI n)]) (n := 5) (Nat.le_of_ble_eq_true rfl)
  rw [lg_entry_eq]
  generalize (lg_sl ([.ref a, .int (nI (n + 1)), .int (nI n)]) ++ List.replicate (5 - (lg_sl ([.ref a, .int (nI (n + 1)), .int (nI n)])).length) Slot.unset).toArray = ls at hl ⊢
  have hl : lv_has ls 5 [(0, .ref a), (1, .int (nI (n + 1))), (2, .int (nI n))] := hl
  have hc1 := (aq_cap_ok hn).1
  have hc2 := (aq_cap_ok hn).2
  refine lv_iload_n hx hb dX2_grow_2_0 rfl (lv_at hl 1 rfl) ?_
  refine lv_aload_n hx hb dX2_grow_2_1 rfl (lv_at hl 0 rfl) ?_
  refine va_alen (v := nI n) hx hb hK hP 0 0 rfl rfl rfl dX2_grow_2_2 ?_
  refine lv_icmp_le (tgt := 45) hx hb dX2_grow_2_3 (by decide) (fun hn9 => absurd hn9 (nI_ge (by omega) (by omega))) (fun _ => ?_)
  refine lv_aload_n hx hb dX2_grow_2_6 rfl (lv_at hl 0 rfl) ?_
  refine va_alen (v := nI n) hx hb hK hP 0 0 rfl rfl rfl dX2_grow_2_7 ?_
  refine lv_i2l hx hb dX2_grow_2_8 (v := lN n) (nI_l (by omega)) ?_
  refine lv_aload_n hx hb dX2_grow_2_9 rfl (lv_at hl 0 rfl) ?_
  refine va_alen (v := nI n) hx hb hK hP 0 0 rfl rfl rfl dX2_grow_2_10 ?_
  refine lv_iconst (v := 1) hx hb dX2_grow_2_11 (by decide) ?_
  refine lv_ishr hx hb dX2_grow_2_12 ?_
  refine aq_asi (y := nI (n / 2)) (aq_half (by omega)) ?_
  refine lv_i2l hx hb dX2_grow_2_13 (v := lN (n / 2)) (nI_l (by omega)) ?_
  refine lv_ladd hx hb dX2_grow_2_14 ?_
  refine aq_asl (y := lN (n + n / 2)) (lN_add _ _) ?_
  refine lv_ldc2 hx hb hown (hts _ q74) dX2_grow_2_15 ?_
  refine va_mmin_long hx hb (hml.trans hl.1.symm) hown (hts _ q75) (hts _ q76) (hts _ q10) (hts _ q77) (Nat.le_of_ble_eq_true rfl) (Nat.le_of_ble_eq_true rfl) (Nat.zero_le _) (Nat.zero_le _) dX2_grow_2_18 ?_
  refine aq_asl (y := lN (n + n / 2)) (aq_cap_M hn) ?_
  refine lv_iload_n hx hb dX2_grow_2_21 rfl (lv_at hl 1 rfl) ?_
  refine lv_i2l hx hb dX2_grow_2_22 (v := lN (n + 1)) (nI_l (by omega)) ?_
  refine va_mmax_long hx hb (hml.trans hl.1.symm) hown (hts _ q78) (hts _ q79) (hts _ q10) (hts _ q80) (Nat.le_of_ble_eq_true rfl) (Nat.le_of_ble_eq_true rfl) (Nat.zero_le _) (Nat.zero_le _) dX2_grow_2_23 ?_
  refine aq_asl (y := lN (aq_cap n)) (aq_cap_L hn) ?_
  refine lv_l2i hx hb dX2_grow_2_26 (v := nI (aq_cap n)) (lN_i _) ?_
  refine lv_istore_n (lv' := [(3, .int (nI (aq_cap n))), (0, .ref a), (1, .int (nI (n + 1))), (2, .int (nI n))]) hx hb dX2_grow_2_27 rfl hl (by decide) rfl (fun ls hl => ?_)
  refine lv_iload_n hx hb dX2_grow_2_28 rfl (lv_at hl 0 rfl) ?_
  refine va_newa hx hb (atype := .int) (hts _ q51) (ty := .int) rfl hK hP hD hS hA (N' := aq_cap n) (a0 := (aq_cap n, .inl (fun _ => 0))) (fun _ => rfl) (nI_pos (by omega)) (nI_clamp (by omega)) (by show aq_cap n * 4 ≤ 536870912; omega) (Nat.le_of_ble_eq_true rfl) (by show 0 + aq_cap n ≤ 300; omega) dX2_grow_2_29 (fun q_1 cA H hK2 hP hD hS => ?_)
  have eA := aq_same hK2
  rw [eA] at hP hD
  have hP : va_P (dC, dI) vwCl [(a, .inl (dA, n, .inl f)), (q_1, .inl (dA, (aq_cap n), .inl (fun _ => 0)))] H := hP
  have hD : va_D A [(a, .inl (dA, n, .inl f)), (q_1, .inl (dA, (aq_cap n), .inl (fun _ => 0)))] := hD
  refine lv_astore (lv' := [(4, .ref q_1), (3, .int (nI (aq_cap n))), (0, .ref a), (1, .int (nI (n + 1))), (2, .int (nI n))]) hx hb dX2_grow_2_31 hl (by decide) rfl (fun ls hl => ?_)
  refine lv_aload_n hx hb dX2_grow_2_33 rfl (lv_at hl 2 rfl) ?_
  refine lv_iconst (v := 0) hx hb dX2_grow_2_34 (by decide) ?_
  refine lv_aload hx hb dX2_grow_2_35 (lv_at hl 0 rfl) ?_
  refine lv_iconst (v := 0) hx hb dX2_grow_2_37 (by decide) ?_
  refine lv_iload_n hx hb dX2_grow_2_38 rfl (lv_at hl 4 rfl) ?_
  refine va_copyi hx hb (hml.trans hl.1.symm) hown (hts _ q81) (hts _ q83) (hts _ q82) (hts _ q11) hK hP hD hS 0 1 0 0 rfl rfl rfl rfl rfl (sp := 0) (dp := 0) (n := nI n) (by decide) (by decide) (nI_pos (by omega)) (by rw [nI_clamp (by omega), sb_cl0]; omega) (by rw [nI_clamp (by omega), sb_cl0]; omega) (fun _ _ => rfl) (Nat.le_of_ble_eq_true rfl) (by decide +kernel) dX2_grow_2_39 (fun H locs hP hD hS => ?_)
  rw [nI_clamp (show n < 2 ^ 31 by omega), sb_cl0] at hP hD
  have hP : va_P (dC, dI) vwCl [(a, .inl (dA, n, .inl f)), (q_1, .inl (dA, (aq_cap n), .inl (va_cpy f (fun _ => 0) 0 0 n)))] H := hP
  have hD : va_D A [(a, .inl (dA, n, .inl f)), (q_1, .inl (dA, (aq_cap n), .inl (va_cpy f (fun _ => 0) 0 0 n)))] := hD
  refine lv_aload hx hb dX2_grow_2_42 (lv_at hl 0 rfl) ?_
  have hP9 := hP.sub (ws' := [(q_1, .inl (dA, (aq_cap n), .inl (va_cpy f (fun _ => 0) 0 0 n)))]) [1] rfl
  have hD9 := hD.sub (ws' := [(q_1, .inl (dA, (aq_cap n), .inl (va_cpy f (fun _ => 0) 0 0 n)))]) [1] (by decide) rfl
  have hK9 := hK.sub (tys' := [(dA, .int)]) [0] rfl
  refine W.widen (k := 1) (n := 300) (by omega) (by omega) ?_
  exact W.aret (v := .ref q_1) hx hb hr (Or.inr ⟨_, rfl⟩) (Or.inr ⟨_, rfl⟩) (fun t ht hW => ⟨⟨va_cpy f (fun _ => 0) 0 0 n, q_1, rfl, fun j hj => sb_cpy0 hj, by rw [ht]; exact hP9, va_K.moved hW.alike hK9, hD9⟩, hS.F ht⟩) hS.2.2 dX2_grow_2_44

set_option maxHeartbeats 4000000 in
set_option maxRecDepth 100000 in
/-- grow of a full array of n places: a new one of aq_cap n, the first n as they were -/
theorem met_grow2 (l : Launch) (dC : Nat → ClassId) (dI : Nat → Nat → Nat) (dA : ClassId) (a sz n : Nat) (f : Nat → Int32) (hn : n < 200) : Met l yX2_grow (ws_ yX2_grow cX2_grow 2 (some (.array .int))) ({ frames := 2, cells := 1, slots := 300, locals := 100 } : Room) (va_Pc [.ref a, .int (nI (n + 1))] (fun U => U.heap.size = sz ∧ va_P (dC, dI) vwCl [(a, .inl (dA, n, .inl f))] U.heap ∧ va_K (dC, dI) vwCl [(dA, .int)] U ∧ va_D (fun _ => True) [(a, .inl (dA, n, .inl f))])) (va_Qr (fun (g : Nat → Int32) => ∀ j, j < n → g j = f j) (fun (g : Nat → Int32) (q : Nat) t => va_P (dC, dI) vwCl [(q, .inl (dA, aq_cap n, .inl g))] t.heap ∧ va_K (dC, dI) vwCl [(dA, .int)] t ∧ va_D (va_A [(a, .inl (dA, n, .inl f))] sz) [(q, .inl (dA, aq_cap n, .inl g))]) (va_A [(a, .inl (dA, n, .inl f))] sz)) 1 300 (va_A [(a, .inl (dA, n, .inl f))] sz) := by
  refine Met.ofW (cc := cX2_grow) (maxL := 2) (ret := (some (.array .int))) (by decide) rfl ?_
  intro p e s m args below meth c s₁ B hml hv
  obtain ⟨rfl, hsz, hP, hK, hD0⟩ := hv
  have hx := B.exec
  have hb := B.bytes
  have hr := B.returns
  have hts := atoms_spec (ws := ws_ yX2_grow cX2_grow 2 (some (.array .int))) B.pre
  have hts : ∀ w ∈ lw_all, w.before _ s = true := fun w h => hts w (List.mem_cons_of_mem _ h)
  have hown : s.vm.findClass RX2 = some m.cls := findClass_of_methodNamed B.named
  have hlocks := B.notSynchronized
  subst hsz
  have hD := hD0.self (sz := s.heap.size)
  generalize hAe : va_A [(a, .inl (dA, n, .inl f))] s.heap.size = A at hD ⊢
  have hA : ∀ q : Nat, s.heap.size ≤ q → A q := fun q h => by rw [← hAe]; exact Or.inr h
  have hS : va_S A s.heap s.heap [] := va_S.rf
  have hP : va_P (dC, dI) vwCl [(a, .inl (dA, n, .inl f))] s.heap := hP
  have hl := lv_entry ([.ref a, .int (nI (n + 1))]) (n := 2) (Nat.le_of_ble_eq_true rfl)
  rw [lg_entry_eq]
  generalize (lg_sl ([.ref a, .int (nI (n + 1))]) ++ List.replicate (2 - (lg_sl ([.ref a, .int (nI (n + 1))])).length) Slot.unset).toArray = ls at hl ⊢
  have hl : lv_has ls 2 [(0, .ref a), (1, .int (nI (n + 1)))] := hl
  have hc2 := (aq_cap_ok hn).2
  refine lv_aload_n hx hb dX2_grow_0 rfl (lv_at hl 0 rfl) ?_
  refine lv_iload_n hx hb dX2_grow_1 rfl (lv_at hl 1 rfl) ?_
  refine lv_aload_n hx hb dX2_grow_2 rfl (lv_at hl 0 rfl) ?_
  refine va_alen (v := nI n) hx hb hK hP 0 0 rfl rfl rfl dX2_grow_3 ?_
  have hPc := hP.sub (ws' := [(a, .inl (dA, n, .inl f))]) [0] rfl
  have hDc := hD.sub (ws' := [(a, .inl (dA, n, .inl f))]) [0] (by decide) rfl
  have hKc := hK.sub (tys' := [(dA, .int)]) [0] rfl
  have hFc := va_free (wc := [(a, .inl (dA, n, .inl f))]) hD hS hA [0] rfl
  refine va_callr (va_runS (As := [.ref a, .int (nI (n + 1)), .int (nI n)]) (rest := []) ⟨hx, hb, hml, hown, hts⟩ (met_grow3 l dC dI dA a s.heap.size n f hn) (va_cwS 3 hts (lw_S q71 q72 q8 q73) rfl rfl rfl (by decide +kernel) ⟨Nat.le_of_ble_eq_true rfl, Nat.le_of_ble_eq_true rfl⟩) ⟨fun a U g mk q => by obtain ⟨q0, q1, qP, qK, qD⟩ := q; exact ⟨q0, q1, qP, va_K.moved (u := U) (U := U.calling g mk a) (Vm.Alike.refl U.vm) qK, qD⟩, fun U hU hW => ⟨rfl, by rw [hU], by rw [hU]; exact hPc, va_K.moved hW.alike hKc, hDc.weaken (fun _ _ _ _ => trivial)⟩⟩ rfl rfl hl.1 rfl (lv_room (Nat.le_of_ble_eq_true rfl)) dX2_grow_4 ⟨Nat.le_of_ble_eq_true rfl, Nat.le_of_ble_eq_true rfl⟩) hS (fun q _ h => hFc q h) hFc (fun g r_1 t H locs ht hvm hw hB hz1 hk1 hS => ?_)
  obtain ⟨hP1, hK1, hD1⟩ := hB
  rw [ht] at hP1
  obtain ⟨hP, hD⟩ := va_join (wr := []) (w1 := [(r_1, .inl (dA, (aq_cap n), .inl g))]) hP hD [0] [] rfl rfl (by decide) (by decide) hk1 hFc hP1 hD1
  have hP : va_P (dC, dI) vwCl [(r_1, .inl (dA, (aq_cap n), .inl g))] H := hP
  have hD : va_D A [(r_1, .inl (dA, (aq_cap n), .inl g))] := hD
  have hP9 := hP.sub (ws' := [(r_1, .inl (dA, (aq_cap n), .inl g))]) [0] rfl
  have hD9 := hD.sub (ws' := [(r_1, .inl (dA, (aq_cap n), .inl g))]) [0] (by decide) rfl
  have hK9 := hK.sub (tys' := [(dA, .int)]) [0] rfl
  refine W.widen (k := 1) (n := 300) (Nat.le_of_ble_eq_true rfl) (Nat.le_of_ble_eq_true rfl) ?_
  exact W.aret (v := .ref r_1) hx hb hr (Or.inr ⟨_, rfl⟩) (Or.inr ⟨_, rfl⟩) (fun t ht hW => ⟨⟨g, r_1, rfl, hw, by rw [ht]; exact hP9, va_K.moved hW.alike hK9, hD9⟩, hS.F ht⟩) hS.2.2 dX2_grow_7

set_option maxHeartbeats 4000000 in
set_option maxRecDepth 100000 in
/-- trim of an array that is no longer than asked: it is the answer -/
theorem met_trim_1 (l : Launch) (dC : Nat → ClassId) (dI : Nat → Nat → Nat) (dA : ClassId) (a sz n z : Nat) (f : Nat → Int32) (hz : n ≤ z) (hz2 : z ≤ 300) : Met l yX2_trim (ws_ yX2_trim cX2_trim 3 (some (.array .int))) ({ frames := 1, cells := 1, slots := 300, locals := 60 } : Room) (va_Pc [.ref a, .int (nI z)] (fun U => U.heap.size = sz ∧ va_P (dC, dI) vwCl [(a, .inl (dA, n, .inl f))] U.heap ∧ va_K (dC, dI) vwCl [(dA, .int)] U ∧ va_D (fun _ => True) [(a, .inl (dA, n, .inl f))])) (va_Qr (fun _ : Unit => True) (fun _ (q : Nat) t => va_P (dC, dI) vwCl [(q, .inl (dA, n, .inl f))] t.heap ∧ va_K (dC, dI) vwCl [(dA, .int)] t ∧ va_D (va_A [(a, .inl (dA, n, .inl f))] sz) [(q, .inl (dA, n, .inl f))]) (va_A [(a, .inl (dA, n, .inl f))] sz)) 1 300 (va_A [(a, .inl (dA, n, .inl f))] sz) := by
  refine Met.ofW (cc := cX2_trim) (maxL := 3) (ret := (some (.array .int))) (by decide) rfl ?_
  intro p e s m args below meth c s₁ B hml hv
  obtain ⟨rfl, hsz, hP, hK, hD0⟩ := hv
  have hx := B.exec
  have hb := B.bytes
  have hr := B.returns
  have hts := atoms_spec (ws := ws_ yX2_trim cX2_trim 3 (some (.array .int))) B.pre
  have hts : ∀ w ∈ lw_all, w.before _ s = true := fun w h => hts w (List.mem_cons_of_mem _ h)
  have hown : s.vm.findClass RX2 = some m.cls := findClass_of_methodNamed B.named
  have hlocks := B.notSynchronized
  subst hsz
  have hD := hD0.self (sz := s.heap.size)
  generalize hAe : va_A [(a, .inl (dA, n, .inl f))] s.heap.size = A at hD ⊢
  have hA : ∀ q : Nat, s.heap.size ≤ q → A q := fun q h => by rw [← hAe]; exact Or.inr h
  have hS : va_S A s.heap s.heap [] := va_S.rf
  have hP : va_P (dC, dI) vwCl [(a, .inl (dA, n, .inl f))] s.heap := hP
  have hl := lv_entry ([.ref a, .int (nI z)]) (n := 3) (Nat.le_of_ble_eq_true rfl)
  rw [lg_entry_eq]
  generalize (lg_sl ([.ref a, .int (nI z)]) ++ List.replicate (3 - (lg_sl ([.ref a, .int (nI z)])).length) Slot.unset).toArray = ls at hl ⊢
  have hl : lv_has ls 3 [(0, .ref a), (1, .int (nI z))] := hl
  refine lv_iload_n hx hb dX2_trim_0 rfl (lv_at hl 1 rfl) ?_
  refine lv_aload_n hx hb dX2_trim_1 rfl (lv_at hl 0 rfl) ?_
  refine va_alen (v := nI n) hx hb hK hP 0 0 rfl rfl rfl dX2_trim_2 ?_
  refine lv_icmp_lt (tgt := 8) hx hb dX2_trim_3 (by decide) (fun hn9 => absurd hn9 (nI_nlt (by omega) (by omega))) (fun _ => ?_)
  refine lv_aload_n hx hb dX2_trim_6 rfl (lv_at hl 0 rfl) ?_
  have hP9 := hP.sub (ws' := [(a, .inl (dA, n, .inl f))]) [0] rfl
  have hD9 := hD.sub (ws' := [(a, .inl (dA, n, .inl f))]) [0] (by decide) rfl
  have hK9 := hK.sub (tys' := [(dA, .int)]) [0] rfl
  refine W.widen (k := 1) (n := 300) (by omega) (by omega) ?_
  exact W.aret (v := .ref a) hx hb hr (Or.inr ⟨_, rfl⟩) (Or.inr ⟨_, rfl⟩) (fun t ht hW => ⟨⟨(), a, rfl, trivial, by rw [ht]; exact hP9, va_K.moved hW.alike hK9, hD9⟩, hS.F ht⟩) hS.2.2 dX2_trim_7

set_option maxHeartbeats 4000000 in
set_option maxRecDepth 100000 in
/-- trim of a longer array: EMPTY_ARRAY for 0, else a new one -/
theorem met_trim_2 (l : Launch) (dC : Nat → ClassId) (dI : Nat → Nat → Nat) (dA : ClassId) (a e0 sz n z : Nat) (f fe : Nat → Int32) (hz : z < n) (hn : n ≤ 300) : Met l yX2_trim (ws_ yX2_trim cX2_trim 3 (some (.array .int))) ({ frames := 1, cells := 1, slots := 300, locals := 60 } : Room) (va_Pc [.ref a, .int (nI z)] (fun U => U.heap.size = sz ∧ va_P (dC, dI) vwCl [(a, .inl (dA, n, .inl f)), (e0, .inl (dA, 0, .inl fe))] U.heap ∧ va_K (dC, dI) vwCl [(dA, .int)] U ∧ va_D (fun _ => True) [(a, .inl (dA, n, .inl f)), (e0, .inl (dA, 0, .inl fe))] ∧ va_Z "IntArrays" "EMPTY_ARRAY" "[I" (.ref e0) (va_A [(a, .inl (dA, n, .inl f)), (e0, .inl (dA, 0, .inl fe))] sz) U U.heap)) (va_Qr (fun (g : Nat → Int32) => ∀ j, j < z → g j = f j) (fun (g : Nat → Int32) (q : Nat) t => va_P (dC, dI) vwCl [(q, .inl (dA, z, .inl g))] t.heap ∧ va_K (dC, dI) vwCl [(dA, .int)] t ∧ va_D (va_A [(a, .inl (dA, n, .inl f)), (e0, .inl (dA, 0, .inl fe))] sz) [(q, .inl (dA, z, .inl g))]) (va_A [(a, .inl (dA, n, .inl f)), (e0, .inl (dA, 0, .inl fe))] sz)) 1 300 (va_A [(a, .inl (dA, n, .inl f)), (e0, .inl (dA, 0, .inl fe))] sz) := by
  refine Met.ofW (cc := cX2_trim) (maxL := 3) (ret := (some (.array .int))) (by decide) rfl ?_
  intro p e s m args below meth c s₁ B hml hv
  obtain ⟨rfl, hsz, hP, hK, hD0, hZ⟩ := hv
  have hx := B.exec
  have hb := B.bytes
  have hr := B.returns
  have hts := atoms_spec (ws := ws_ yX2_trim cX2_trim 3 (some (.array .int))) B.pre
  have hts : ∀ w ∈ lw_all, w.before _ s = true := fun w h => hts w (List.mem_cons_of_mem _ h)
  have hown : s.vm.findClass RX2 = some m.cls := findClass_of_methodNamed B.named
  have hlocks := B.notSynchronized
  subst hsz
  have hD := hD0.self (sz := s.heap.size)
  generalize hAe : va_A [(a, .inl (dA, n, .inl f)), (e0, .inl (dA, 0, .inl fe))] s.heap.size = A at hD hZ ⊢
  have hA : ∀ q : Nat, s.heap.size ≤ q → A q := fun q h => by rw [← hAe]; exact Or.inr h
  have hS : va_S A s.heap s.heap [] := va_S.rf
  have hP : va_P (dC, dI) vwCl [(a, .inl (dA, n, .inl f)), (e0, .inl (dA, 0, .inl fe))] s.heap := hP
  have hl := lv_entry ([.ref a, .int (nI z)]) (n := 3) (Nat.le_of_ble_eq_true rfl)
  rw [lg_entry_eq]
  generalize (lg_sl ([.ref a, .int (nI z)]) ++ List.replicate (3 - (lg_sl ([.ref a, .int (nI z)])).length) Slot.unset).toArray = ls at hl ⊢
  have hl : lv_has ls 3 [(0, .ref a), (1, .int (nI z))] := hl
  refine lv_iload_n hx hb dX2_trim_0 rfl (lv_at hl 1 rfl) ?_
  refine lv_aload_n hx hb dX2_trim_1 rfl (lv_at hl 0 rfl) ?_
  refine va_alen (v := nI n) hx hb hK hP 0 0 rfl rfl rfl dX2_trim_2 ?_
  refine lv_icmp_lt (tgt := 8) hx hb dX2_trim_3 (by decide) (fun _ => ?_) (fun hn9 => absurd (nI_lt (by omega) (by omega)) hn9)
  refine lv_iload_n hx hb dX2_trim_8 rfl (lv_at hl 1 rfl) ?_
  rcases Nat.eq_zero_or_pos z with hz0 | hz0
  · subst hz0
    refine lv_if_ne (tgt := 18) hx hb dX2_trim_9 (by decide) (fun hn9 => absurd hn9 (fun q9 => q9 nI_0)) (fun _ => ?_)
    refine va_gets hx hb hZ hS hown (hts _ q194) (fun _ h9 => h9) dX2_trim_12 ?_
    refine lv_goto (tgt := 21) hx hb dX2_trim_15 (by decide) ?_
    refine lv_astore_n (lv' := [(2, .ref e0), (0, .ref a), (1, .int (nI 0))]) hx hb dX2_trim_21 rfl hl (by decide) rfl (fun ls hl => ?_)
    refine lv_aload_n hx hb dX2_trim_22 rfl (lv_at hl 1 rfl) ?_
    refine lv_iconst (v := 0) hx hb dX2_trim_23 (by decide) ?_
    refine lv_aload_n hx hb dX2_trim_24 rfl (lv_at hl 0 rfl) ?_
    refine lv_iconst (v := 0) hx hb dX2_trim_25 (by decide) ?_
    refine lv_iload_n hx hb dX2_trim_26 rfl (lv_at hl 2 rfl) ?_
    refine va_copyi hx hb (hml.trans hl.1.symm) hown (hts _ q81) (hts _ q83) (hts _ q82) (hts _ q11) hK hP hD hS 0 1 0 0 rfl rfl rfl rfl rfl (sp := 0) (dp := 0) (n := nI 0) (by decide) (by decide) (nI_pos (by omega)) (by rw [nI_clamp (by omega), sb_cl0]; omega) (by rw [nI_clamp (by omega), sb_cl0]; omega) (fun _ _ => rfl) (Nat.le_of_ble_eq_true rfl) (by decide +kernel) dX2_trim_27 (fun H locs hP hD hS => ?_)
    rw [nI_clamp (show 0 < 2 ^ 31 by omega), sb_cl0] at hP hD
    have hP : va_P (dC, dI) vwCl [(a, .inl (dA, n, .inl f)), (e0, .inl (dA, 0, .inl (va_cpy f fe 0 0 0)))] H := hP
    have hD : va_D A [(a, .inl (dA, n, .inl f)), (e0, .inl (dA, 0, .inl (va_cpy f fe 0 0 0)))] := hD
    refine lv_aload_n hx hb dX2_trim_30 rfl (lv_at hl 0 rfl) ?_
    have hP9 := hP.sub (ws' := [(e0, .inl (dA, 0, .inl (va_cpy f fe 0 0 0)))]) [1] rfl
    have hD9 := hD.sub (ws' := [(e0, .inl (dA, 0, .inl (va_cpy f fe 0 0 0)))]) [1] (by decide) rfl
    have hK9 := hK.sub (tys' := [(dA, .int)]) [0] rfl
    refine W.widen (k := 1) (n := 300) (by omega) (by omega) ?_
    exact W.aret (v := .ref e0) hx hb hr (Or.inr ⟨_, rfl⟩) (Or.inr ⟨_, rfl⟩) (fun t ht hW => ⟨⟨va_cpy f fe 0 0 0, e0, rfl, fun j hj => absurd hj (Nat.not_lt_zero _), by rw [ht]; exact hP9, va_K.moved hW.alike hK9, hD9⟩, hS.F ht⟩) hS.2.2 dX2_trim_31
  · refine lv_if_ne (tgt := 18) hx hb dX2_trim_9 (by decide) (fun _ => ?_) (fun hn9 => absurd hn9 (nI_ne0 hz0 (by omega)))
    refine lv_iload_n hx hb dX2_trim_18 rfl (lv_at hl 1 rfl) ?_
    refine va_newa hx hb (atype := .int) (hts _ q51) (ty := .int) rfl hK hP hD hS hA (N' := z) (a0 := (z, .inl (fun _ => 0))) (fun _ => rfl) (nI_pos (by omega)) (nI_clamp (by omega)) (by show z * 4 ≤ 536870912; omega) (Nat.le_of_ble_eq_true rfl) (by show 0 + z ≤ 300; omega) dX2_trim_19 (fun q_1 cA H hK2 hP hD hS => ?_)
    have eA := aq_same hK2
    rw [eA] at hP hD
    have hP : va_P (dC, dI) vwCl [(a, .inl (dA, n, .inl f)), (e0, .inl (dA, 0, .inl fe)), (q_1, .inl (dA, z, .inl (fun _ => 0)))] H := hP
    have hD : va_D A [(a, .inl (dA, n, .inl f)), (e0, .inl (dA, 0, .inl fe)), (q_1, .inl (dA, z, .inl (fun _ => 0)))] := hD
    refine lv_astore_n (lv' := [(2, .ref q_1), (0, .ref a), (1, .int (nI z))]) hx hb dX2_trim_21 rfl hl (by decide) rfl (fun ls hl => ?_)
    refine lv_aload_n hx hb dX2_trim_22 rfl (lv_at hl 1 rfl) ?_
    refine lv_iconst (v := 0) hx hb dX2_trim_23 (by decide) ?_
    refine lv_aload_n hx hb dX2_trim_24 rfl (lv_at hl 0 rfl) ?_
    refine lv_iconst (v := 0) hx hb dX2_trim_25 (by decide) ?_
    refine lv_iload_n hx hb dX2_trim_26 rfl (lv_at hl 2 rfl) ?_
    refine va_copyi hx hb (hml.trans hl.1.symm) hown (hts _ q81) (hts _ q83) (hts _ q82) (hts _ q11) hK hP hD hS 0 2 0 0 rfl rfl rfl rfl rfl (sp := 0) (dp := 0) (n := nI z) (by decide) (by decide) (nI_pos (by omega)) (by rw [nI_clamp (by omega), sb_cl0]; omega) (by rw [nI_clamp (by omega), sb_cl0]; omega) (fun _ _ => rfl) (Nat.le_of_ble_eq_true rfl) (by decide +kernel) dX2_trim_27 (fun H locs hP hD hS => ?_)
    rw [nI_clamp (show z < 2 ^ 31 by omega), sb_cl0] at hP hD
    have hP : va_P (dC, dI) vwCl [(a, .inl (dA, n, .inl f)), (e0, .inl (dA, 0, .inl fe)), (q_1, .inl (dA, z, .inl (va_cpy f (fun _ => 0) 0 0 z)))] H := hP
    have hD : va_D A [(a, .inl (dA, n, .inl f)), (e0, .inl (dA, 0, .inl fe)), (q_1, .inl (dA, z, .inl (va_cpy f (fun _ => 0) 0 0 z)))] := hD
    refine lv_aload_n hx hb dX2_trim_30 rfl (lv_at hl 0 rfl) ?_
    have hP9 := hP.sub (ws' := [(q_1, .inl (dA, z, .inl (va_cpy f (fun _ => 0) 0 0 z)))]) [2] rfl
    have hD9 := hD.sub (ws' := [(q_1, .inl (dA, z, .inl (va_cpy f (fun _ => 0) 0 0 z)))]) [2] (by decide) rfl
    have hK9 := hK.sub (tys' := [(dA, .int)]) [0] rfl
    refine W.widen (k := 1) (n := 300) (by omega) (by omega) ?_
    exact W.aret (v := .ref q_1) hx hb hr (Or.inr ⟨_, rfl⟩) (Or.inr ⟨_, rfl⟩) (fun t ht hW => ⟨⟨va_cpy f (fun _ => 0) 0 0 z, q_1, rfl, fun j hj => sb_cpy0 hj, by rw [ht]; exact hP9, va_K.moved hW.alike hK9, hD9⟩, hS.F ht⟩) hS.2.2 dX2_trim_31
end
section
/-! MODULE IntArrayPriorityQueue -/
set_option maxHeartbeats 4000000 in
set_option maxRecDepth 100000 in
/-- IntArrayPriorityQueue(0, null): the array is EMPTY_ARRAY -/
theorem met_qinit2 (l : Launch) (dC : Nat → ClassId) (dI : Nat → Nat → Nat) (dA : ClassId) (h e0 sz : Nat) : Met l yX1_init_2 (ws_ yX1_init_2 cX1_init_2 3 none) ({ frames := 1, cells := 0, slots := 0, locals := 20 } : Room) (va_Pc [.ref h, .int 0, .null] (fun U => U.heap.size = sz ∧ va_P (dC, dI) vwCl [(h, .inr (1, [.null, .int 0, .null, .int 0, .int 0]))] U.heap ∧ va_K (dC, dI) vwCl [(dA, .int)] U ∧ va_D (fun _ => True) [(h, .inr (1, [.null, .int 0, .null, .int 0, .int 0]))] ∧ va_Z "IntArrays" "EMPTY_ARRAY" "[I" (.ref e0) (va_A [(h, .inr (1, [.null, .int 0, .null, .int 0, .int 0]))] sz) U U.heap)) (va_Qv (fun _ : Unit => True) (fun (_ : Unit) t => va_P (dC, dI) vwCl [(h, .inr (1, [.ref e0, .int 0, .null, .int 0, .int 0]))] t.heap ∧ va_K (dC, dI) vwCl [(dA, .int)] t ∧ va_D (va_A [(h, .inr (1, [.null, .int 0, .null, .int 0, .int 0]))] sz) [(h, .inr (1, [.ref e0, .int 0, .null, .int 0, .int 0]))]) (va_A [(h, .inr (1, [.null, .int 0, .null, .int 0, .int 0]))] sz)) 0 0 (va_A [(h, .inr (1, [.null, .int 0, .null, .int 0, .int 0]))] sz) := by
  refine Met.ofW (cc := cX1_init_2) (maxL := 3) (ret := none) (by decide) rfl ?_
  intro p e s m args below meth c s₁ B hml hv
  obtain ⟨rfl, hsz, hP, hK, hD0, hZ⟩ := hv
  have hx := B.exec
  have hb := B.bytes
  have hr := B.returns
  have hts := atoms_spec (ws := ws_ yX1_init_2 cX1_init_2 3 none) B.pre
  have hts : ∀ w ∈ lw_all, w.before _ s = true := fun w h => hts w (List.mem_cons_of_mem _ h)
  have hown : s.vm.findClass RX1 = some m.cls := findClass_of_methodNamed B.named
  have hlocks := B.notSynchronized
  have hin : meth.name = "<init>" := (name_of_methodNamed B.named B.method).1
  subst hsz
  have hD := hD0.self (sz := s.heap.size)
  generalize hAe : va_A [(h, .inr (1, [.null, .int 0, .null, .int 0, .int 0]))] s.heap.size = A at hD hZ ⊢
  have hA : ∀ q : Nat, s.heap.size ≤ q → A q := fun q h => by rw [← hAe]; exact Or.inr h
  have hS : va_S A s.heap s.heap [] := va_S.rf
  have hP : va_P (dC, dI) vwCl [(h, .inr (1, [.null, .int 0, .null, .int 0, .int 0]))] s.heap := hP
  have hl := lv_entry ([.ref h, .int 0, .null]) (n := 3) (Nat.le_of_ble_eq_true rfl)
  rw [lg_entry_eq]
  generalize (lg_sl ([.ref h, .int 0, .null]) ++ List.replicate (3 - (lg_sl ([.ref h, .int 0, .null])).length) Slot.unset).toArray = ls at hl ⊢
  have hl : lv_has ls 3 [(0, .ref h), (1, .int 0), (2, .null)] := hl
  refine lv_aload_n hx hb dX1_init_2_0 rfl (lv_at hl 0 rfl) ?_
  refine W.objInit hx hb hown (hts _ q32) (hts _ q22) (hts _ q23) rfl (by rw [hml]; exact hl.1) rfl dX1_init_2_1 (Nat.le_of_ble_eq_true rfl) (Nat.le_of_ble_eq_true rfl) ?_
  refine W.eq (g2 := F0 m 4 ls []) rfl ?_
  refine lv_aload_n hx hb dX1_init_2_4 rfl (lv_at hl 0 rfl) ?_
  refine va_gets hx hb hZ hS hown (hts _ q33) (fun _ h9 => h9) dX1_init_2_5 ?_
  refine va_put (D := (dC, dI)) (ci := 1) (v := .ref e0) (ty := .array .int) (C := RX1) (T := TX1) (N := 5) hx hb hts in_X1 tyX1 tyX1_ok nmX1 hown hK hP hD hS 0 rfl rfl 0 (by decide) (hts _ q35) (fun _ h9 => h9) rfl (by decide +kernel) rfl rfl (Nat.le_of_ble_eq_true rfl) dX1_init_2_8 (fun H locs hP hD hS => ?_)
  have hP : va_P (dC, dI) vwCl [(h, .inr (1, [.ref e0, .int 0, .null, .int 0, .int 0]))] H := hP
  have hD : va_D A [(h, .inr (1, [.ref e0, .int 0, .null, .int 0, .int 0]))] := hD
  refine lv_iload_n hx hb dX1_init_2_11 rfl (lv_at hl 1 rfl) ?_
  refine lv_if_le (tgt := 22) hx hb dX1_init_2_12 (by decide) (fun _ => ?_) (fun hn9 => absurd (show (0 : Int32) ≤ 0 by decide) hn9)
  refine lv_aload_n hx hb dX1_init_2_22 rfl (lv_at hl 0 rfl) ?_
  refine lv_aload_nN hx hb dX1_init_2_23 rfl (lv_at hl 2 rfl) ?_
  refine va_put (D := (dC, dI)) (ci := 1) (v := .null) (ty := .object "IntComparator") (C := RX1) (T := TX1) (N := 5) hx hb hts in_X1 tyX1 tyX1_ok nmX1 hown hK hP hD hS 0 rfl rfl 2 (by decide) (hts _ q37) (fun _ h9 => h9) rfl (by decide +kernel) rfl rfl (Nat.le_of_ble_eq_true rfl) dX1_init_2_24 (fun H locs hP hD hS => ?_)
  have hP : va_P (dC, dI) vwCl [(h, .inr (1, [.ref e0, .int 0, .null, .int 0, .int 0]))] H := hP
  have hD : va_D A [(h, .inr (1, [.ref e0, .int 0, .null, .int 0, .int 0]))] := hD
  have hP9 := hP.sub (ws' := [(h, .inr (1, [.ref e0, .int 0, .null, .int 0, .int 0]))]) [0] rfl
  have hD9 := hD.sub (ws' := [(h, .inr (1, [.ref e0, .int 0, .null, .int 0, .int 0]))]) [0] (by decide) rfl
  have hK9 := hK.sub (tys' := [(dA, .int)]) [0] rfl
  exact W.vret hx hb hr (fun t ht hW => ⟨⟨(), rfl, trivial, by rw [ht]; exact hP9, va_K.moved hW.alike hK9, hD9⟩, hS.F ht⟩) hS.2.2 dX1_init_2_27

set_option maxHeartbeats 4000000 in
set_option maxRecDepth 100000 in
/-- IntArrayPriorityQueue() -/
theorem met_qinit (l : Launch) (dC : Nat → ClassId) (dI : Nat → Nat → Nat) (dA : ClassId) (h e0 sz : Nat) : Met l yX1_init (ws_ yX1_init cX1_init 1 none) ({ frames := 2, cells := 0, slots := 0, locals := 60 } : Room) (va_Pc [.ref h] (fun U => U.heap.size = sz ∧ va_P (dC, dI) vwCl [(h, .inr (1, [.null, .int 0, .null, .int 0, .int 0]))] U.heap ∧ va_K (dC, dI) vwCl [(dA, .int)] U ∧ va_D (fun _ => True) [(h, .inr (1, [.null, .int 0, .null, .int 0, .int 0]))] ∧ va_Z "IntArrays" "EMPTY_ARRAY" "[I" (.ref e0) (va_A [(h, .inr (1, [.null, .int 0, .null, .int 0, .int 0]))] sz) U U.heap)) (va_Qv (fun _ : Unit => True) (fun (_ : Unit) t => va_P (dC, dI) vwCl [(h, .inr (1, [.ref e0, .int 0, .null, .int 0, .int 0]))] t.heap ∧ va_K (dC, dI) vwCl [(dA, .int)] t ∧ va_D (va_A [(h, .inr (1, [.null, .int 0, .null, .int 0, .int 0]))] sz) [(h, .inr (1, [.ref e0, .int 0, .null, .int 0, .int 0]))]) (va_A [(h, .inr (1, [.null, .int 0, .null, .int 0, .int 0]))] sz)) 0 0 (va_A [(h, .inr (1, [.null, .int 0, .null, .int 0, .int 0]))] sz) := by
  refine Met.ofW (cc := cX1_init) (maxL := 1) (ret := none) (by decide) rfl ?_
  intro p e s m args below meth c s₁ B hml hv
  obtain ⟨rfl, hsz, hP, hK, hD0, hZ⟩ := hv
  have hx := B.exec
  have hb := B.bytes
  have hr := B.returns
  have hts := atoms_spec (ws := ws_ yX1_init cX1_init 1 none) B.pre
  have hts : ∀ w ∈ lw_all, w.before _ s = true := fun w h => hts w (List.mem_cons_of_mem _ h)
  have hown : s.vm.findClass RX1 = some m.cls := findClass_of_methodNamed B.named
  have hlocks := B.notSynchronized
  have hin : meth.name = "<init>" := (name_of_methodNamed B.named B.method).1
  subst hsz
  have hD := hD0.self (sz := s.heap.size)
  generalize hAe : va_A [(h, .inr (1, [.null, .int 0, .null, .int 0, .int 0]))] s.heap.size = A at hD hZ ⊢
  have hA : ∀ q : Nat, s.heap.size ≤ q → A q := fun q h => by rw [← hAe]; exact Or.inr h
  have hS : va_S A s.heap s.heap [] := va_S.rf
  have hP : va_P (dC, dI) vwCl [(h, .inr (1, [.null, .int 0, .null, .int 0, .int 0]))] s.heap := hP
  have hl := lv_entry ([.ref h]) (n := 1) (Nat.le_of_ble_eq_true rfl)
  rw [lg_entry_eq]
  generalize (lg_sl ([.ref h]) ++ List.replicate (1 - (lg_sl ([.ref h])).length) Slot.unset).toArray = ls at hl ⊢
  have hl : lv_has ls 1 [(0, .ref h)] := hl
  refine lv_aload_n hx hb dX1_init_0 rfl (lv_at hl 0 rfl) ?_
  refine lv_iconst (v := 0) hx hb dX1_init_1 (by decide) ?_
  refine lv_null hx hb dX1_init_2 ?_
  have hPc := hP.sub (ws' := [(h, .inr (1, [.null, .int 0, .null, .int 0, .int 0]))]) [0] rfl
  have hDc := hD.sub (ws' := [(h, .inr (1, [.null, .int 0, .null, .int 0, .int 0]))]) [0] (by decide) rfl
  have hKc := hK.sub (tys' := [(dA, .int)]) [0] rfl
  have hFc := va_free (wc := [(h, .inr (1, [.null, .int 0, .null, .int 0, .int 0]))]) hD hS hA [0] rfl
  refine va_callv (va_runI (As := [.int 0, .null]) (rest := []) ⟨hx, hb, hml, hown, hts⟩ (met_qinit2 l dC dI dA h e0 s.heap.size) (cwI 2 hts (lw_meth q31) rfl rfl rfl (hts _ q7) (hts _ q29) (hts _ q30) rfl (by decide +kernel) ⟨Nat.le_of_ble_eq_true rfl, Nat.le_of_ble_eq_true rfl⟩) ⟨fun a U g mk q => by obtain ⟨q0, q1, qP, qK, qD, qZ⟩ := q; exact ⟨q0, q1, qP, va_K.moved (u := U) (U := U.calling g mk a) (Vm.Alike.refl U.vm) qK, qD, va_Z.moved (u := U) (U := U.calling g mk a) (Vm.Alike.refl U.vm) qZ⟩, fun U hU hW => ⟨rfl, by rw [hU], by rw [hU]; exact hPc, va_K.moved hW.alike hKc, hDc.weaken (fun _ _ _ _ => trivial), by rw [hU]; exact va_Z.moved hW.alike ((hZ.kept hS.2.1).narrow hFc)⟩⟩ rfl rfl hl.1 rfl (lv_room (Nat.le_of_ble_eq_true rfl)) dX1_init_3 ⟨Nat.le_of_ble_eq_true rfl, Nat.le_of_ble_eq_true rfl⟩) hS (fun q _ h => hFc q h) hFc (fun _u t H locs ht hvm hw hB hz1 hk1 hS => ?_)
  obtain ⟨hP1, hK1, hD1⟩ := hB
  rw [ht] at hP1
  obtain ⟨hP, hD⟩ := va_join (wr := []) (w1 := [(h, .inr (1, [.ref e0, .int 0, .null, .int 0, .int 0]))]) hP hD [0] [] rfl rfl (by decide) (by decide) hk1 hFc hP1 hD1
  have hP : va_P (dC, dI) vwCl [(h, .inr (1, [.ref e0, .int 0, .null, .int 0, .int 0]))] H := hP
  have hD : va_D A [(h, .inr (1, [.ref e0, .int 0, .null, .int 0, .int 0]))] := hD
  have hP9 := hP.sub (ws' := [(h, .inr (1, [.ref e0, .int 0, .null, .int 0, .int 0]))]) [0] rfl
  have hD9 := hD.sub (ws' := [(h, .inr (1, [.ref e0, .int 0, .null, .int 0, .int 0]))]) [0] (by decide) rfl
  have hK9 := hK.sub (tys' := [(dA, .int)]) [0] rfl
  exact W.vret hx hb hr (fun t ht hW => ⟨⟨(), rfl, trivial, by rw [ht]; exact hP9, va_K.moved hW.alike hK9, hD9⟩, hS.F ht⟩) hS.2.2 dX1_init_6

set_option maxHeartbeats 4000000 in
set_option maxRecDepth 100000 in
/-- size() -/
theorem met_qsize (l : Launch) (dC : Nat → ClassId) (dI : Nat → Nat → Nat) (dA : ClassId) (h a sz : Nat) (w fi fv : Int32) : Met l yX1_size (ws_ yX1_size cX1_size 1 (some .int)) ({ frames := 0, cells := 0, slots := 0, locals := 0 } : Room) (va_Pc [.ref h] (fun U => U.heap.size = sz ∧ va_P (dC, dI) vwCl [(h, .inr (1, [.ref a, .int w, .null, .int fi, .int fv]))] U.heap ∧ va_K (dC, dI) vwCl [(dA, .int)] U ∧ va_D (fun _ => True) [(h, .inr (1, [.ref a, .int w, .null, .int fi, .int fv]))])) (va_Qi (fun (r : Int32) (_ : Unit) => r = w) (fun (_ : Unit) t => va_P (dC, dI) vwCl [(h, .inr (1, [.ref a, .int w, .null, .int fi, .int fv]))] t.heap ∧ va_K (dC, dI) vwCl [(dA, .int)] t ∧ va_D (va_A [(h, .inr (1, [.ref a, .int w, .null, .int fi, .int fv]))] sz) [(h, .inr (1, [.ref a, .int w, .null, .int fi, .int fv]))]) (va_A [(h, .inr (1, [.ref a, .int w, .null, .int fi, .int fv]))] sz)) 0 0 (va_A [(h, .inr (1, [.ref a, .int w, .null, .int fi, .int fv]))] sz) := by
  refine Met.ofW (cc := cX1_size) (maxL := 1) (ret := (some .int)) (by decide) rfl ?_
  intro p e s m args below meth c s₁ B hml hv
  obtain ⟨rfl, hsz, hP, hK, hD0⟩ := hv
  have hx := B.exec
  have hb := B.bytes
  have hr := B.returns
  have hts := atoms_spec (ws := ws_ yX1_size cX1_size 1 (some .int)) B.pre
  have hts : ∀ w ∈ lw_all, w.before _ s = true := fun w h => hts w (List.mem_cons_of_mem _ h)
  have hown : s.vm.findClass RX1 = some m.cls := findClass_of_methodNamed B.named
  have hlocks := B.notSynchronized
  subst hsz
  have hD := hD0.self (sz := s.heap.size)
  generalize hAe : va_A [(h, .inr (1, [.ref a, .int w, .null, .int fi, .int fv]))] s.heap.size = A at hD ⊢
  have hA : ∀ q : Nat, s.heap.size ≤ q → A q := fun q h => by rw [← hAe]; exact Or.inr h
  have hS : va_S A s.heap s.heap [] := va_S.rf
  have hP : va_P (dC, dI) vwCl [(h, .inr (1, [.ref a, .int w, .null, .int fi, .int fv]))] s.heap := hP
  have hl := lv_entry ([.ref h]) (n := 1) (Nat.le_of_ble_eq_true rfl)
  rw [lg_entry_eq]
  generalize (lg_sl ([.ref h]) ++ List.replicate (1 - (lg_sl ([.ref h])).length) Slot.unset).toArray = ls at hl ⊢
  have hl : lv_has ls 1 [(0, .ref h)] := hl
  refine lv_aload_n hx hb dX1_size_0 rfl (lv_at hl 0 rfl) ?_
  refine va_get (D := (dC, dI)) (ci := 1) (v := .int w) (C := RX1) (T := TX1) (N := 5) hx hb hts in_X1 hown hK hP 0 rfl rfl 1 (by decide) (hts _ q36) (fun _ h9 => h9) rfl dX1_size_1 ?_
  have hP9 := hP.sub (ws' := [(h, .inr (1, [.ref a, .int w, .null, .int fi, .int fv]))]) [0] rfl
  have hD9 := hD.sub (ws' := [(h, .inr (1, [.ref a, .int w, .null, .int fi, .int fv]))]) [0] (by decide) rfl
  have hK9 := hK.sub (tys' := [(dA, .int)]) [0] rfl
  exact W.iret (v := w) hx hb hr (fun t ht hW => ⟨⟨w, (), rfl, rfl, by rw [ht]; exact hP9, va_K.moved hW.alike hK9, hD9⟩, hS.F ht⟩) hS.2.2 dX1_size_4

set_option maxHeartbeats 4000000 in
set_option maxRecDepth 100000 in
/-- clear() -/
theorem met_qclear (l : Launch) (dC : Nat → ClassId) (dI : Nat → Nat → Nat) (dA : ClassId) (h a sz : Nat) (w fi fv : Int32) : Met l yX1_clear (ws_ yX1_clear cX1_clear 1 none) ({ frames := 0, cells := 0, slots := 0, locals := 0 } : Room) (va_Pc [.ref h] (fun U => U.heap.size = sz ∧ va_P (dC, dI) vwCl [(h, .inr (1, [.ref a, .int w, .null, .int fi, .int fv]))] U.heap ∧ va_K (dC, dI) vwCl [(dA, .int)] U ∧ va_D (fun _ => True) [(h, .inr (1, [.ref a, .int w, .null, .int fi, .int fv]))])) (va_Qv (fun _ : Unit => True) (fun (_ : Unit) t => va_P (dC, dI) vwCl [(h, .inr (1, [.ref a, .int 0, .null, .int fi, .int 0]))] t.heap ∧ va_K (dC, dI) vwCl [(dA, .int)] t ∧ va_D (va_A [(h, .inr (1, [.ref a, .int w, .null, .int fi, .int fv]))] sz) [(h, .inr (1, [.ref a, .int 0, .null, .int fi, .int 0]))]) (va_A [(h, .inr (1, [.ref a, .int w, .null, .int fi, .int fv]))] sz)) 0 0 (va_A [(h, .inr (1, [.ref a, .int w, .null, .int fi, .int fv]))] sz) := by
  refine Met.ofW (cc := cX1_clear) (maxL := 1) (ret := none) (by decide) rfl ?_
  intro p e s m args below meth c s₁ B hml hv
  obtain ⟨rfl, hsz, hP, hK, hD0⟩ := hv
  have hx := B.exec
  have hb := B.bytes
  have hr := B.returns
  have hts := atoms_spec (ws := ws_ yX1_clear cX1_clear 1 none) B.pre
  have hts : ∀ w ∈ lw_all, w.before _ s = true := fun w h => hts w (List.mem_cons_of_mem _ h)
  have hown : s.vm.findClass RX1 = some m.cls := findClass_of_methodNamed B.named
  have hlocks := B.notSynchronized
  subst hsz
  have hD := hD0.self (sz := s.heap.size)
  generalize hAe : va_A [(h, .inr (1, [.ref a, .int w, .null, .int fi, .int fv]))] s.heap.size = A at hD ⊢
  have hA : ∀ q : Nat, s.heap.size ≤ q → A q := fun q h => by rw [← hAe]; exact Or.inr h
  have hS : va_S A s.heap s.heap [] := va_S.rf
  have hP : va_P (dC, dI) vwCl [(h, .inr (1, [.ref a, .int w, .null, .int fi, .int fv]))] s.heap := hP
  have hl := lv_entry ([.ref h]) (n := 1) (Nat.le_of_ble_eq_true rfl)
  rw [lg_entry_eq]
  generalize (lg_sl ([.ref h]) ++ List.replicate (1 - (lg_sl ([.ref h])).length) Slot.unset).toArray = ls at hl ⊢
  have hl : lv_has ls 1 [(0, .ref h)] := hl
  refine lv_aload_n hx hb dX1_clear_0 rfl (lv_at hl 0 rfl) ?_
  refine lv_iconst (v := 0) hx hb dX1_clear_1 (by decide) ?_
  refine va_put (D := (dC, dI)) (ci := 1) (v := .int 0) (ty := .int) (C := RX1) (T := TX1) (N := 5) hx hb hts in_X1 tyX1 tyX1_ok nmX1 hown hK hP hD hS 0 rfl rfl 1 (by decide) (hts _ q36) (fun _ h9 => h9) rfl (by decide +kernel) rfl rfl (Nat.le_of_ble_eq_true rfl) dX1_clear_2 (fun H locs hP hD hS => ?_)
  have hP : va_P (dC, dI) vwCl [(h, .inr (1, [.ref a, .int 0, .null, .int fi, .int fv]))] H := hP
  have hD : va_D A [(h, .inr (1, [.ref a, .int 0, .null, .int fi, .int fv]))] := hD
  refine lv_aload_n hx hb dX1_clear_5 rfl (lv_at hl 0 rfl) ?_
  refine lv_iconst (v := 0) hx hb dX1_clear_6 (by decide) ?_
  refine va_put (D := (dC, dI)) (ci := 1) (v := .int 0) (ty := .boolean) (C := RX1) (T := TX1) (N := 5) hx hb hts in_X1 tyX1 tyX1_ok nmX1 hown hK hP hD hS 0 rfl rfl 4 (by decide) (hts _ q39) (fun _ h9 => h9) rfl (by decide +kernel) rfl rfl (Nat.le_of_ble_eq_true rfl) dX1_clear_7 (fun H locs hP hD hS => ?_)
  have hP : va_P (dC, dI) vwCl [(h, .inr (1, [.ref a, .int 0, .null, .int fi, .int 0]))] H := hP
  have hD : va_D A [(h, .inr (1, [.ref a, .int 0, .null, .int fi, .int 0]))] := hD
  have hP9 := hP.sub (ws' := [(h, .inr (1, [.ref a, .int 0, .null, .int fi, .int 0]))]) [0] rfl
  have hD9 := hD.sub (ws' := [(h, .inr (1, [.ref a, .int 0, .null, .int fi, .int 0]))]) [0] (by decide) rfl
  have hK9 := hK.sub (tys' := [(dA, .int)]) [0] rfl
  exact W.vret hx hb hr (fun t ht hW => ⟨⟨(), rfl, trivial, by rw [ht]; exact hP9, va_K.moved hW.alike hK9, hD9⟩, hS.F ht⟩) hS.2.2 dX1_clear_10

set_option maxHeartbeats 4000000 in
set_option maxRecDepth 100000 in
/-- ensureNonEmpty(): nothing is thrown where something is in -/
theorem met_qensure (l : Launch) (dC : Nat → ClassId) (dI : Nat → Nat → Nat) (dA : ClassId) (h a sz : Nat) (w fi fv : Int32) (hw0 : ¬ w = 0) : Met l yX1_ensureNonEmpty (ws_ yX1_ensureNonEmpty cX1_ensureNonEmpty 1 none) ({ frames := 0, cells := 0, slots := 0, locals := 0 } : Room) (va_Pc [.ref h] (fun U => U.heap.size = sz ∧ va_P (dC, dI) vwCl [(h, .inr (1, [.ref a, .int w, .null, .int fi, .int fv]))] U.heap ∧ va_K (dC, dI) vwCl [(dA, .int)] U ∧ va_D (fun _ => True) [(h, .inr (1, [.ref a, .int w, .null, .int fi, .int fv]))])) (va_Qv (fun _ : Unit => True) (fun (_ : Unit) t => va_P (dC, dI) vwCl [(h, .inr (1, [.ref a, .int w, .null, .int fi, .int fv]))] t.heap ∧ va_K (dC, dI) vwCl [(dA, .int)] t ∧ va_D (va_A [(h, .inr (1, [.ref a, .int w, .null, .int fi, .int fv]))] sz) [(h, .inr (1, [.ref a, .int w, .null, .int fi, .int fv]))]) (va_A [(h, .inr (1, [.ref a, .int w, .null, .int fi, .int fv]))] sz)) 0 0 (va_A [(h, .inr (1, [.ref a, .int w, .null, .int fi, .int fv]))] sz) := by
  refine Met.ofW (cc := cX1_ensureNonEmpty) (maxL := 1) (ret := none) (by decide) rfl ?_
  intro p e s m args below meth c s₁ B hml hv
  obtain ⟨rfl, hsz, hP, hK, hD0⟩ := hv
  have hx := B.exec
  have hb := B.bytes
  have hr := B.returns
  have hts := atoms_spec (ws := ws_ yX1_ensureNonEmpty cX1_ensureNonEmpty 1 none) B.pre
  have hts : ∀ w ∈ lw_all, w.before _ s = true := fun w h => hts w (List.mem_cons_of_mem _ h)
  have hown : s.vm.findClass RX1 = some m.cls := findClass_of_methodNamed B.named
  have hlocks := B.notSynchronized
  subst hsz
  have hD := hD0.self (sz := s.heap.size)
  generalize hAe : va_A [(h, .inr (1, [.ref a, .int w, .null, .int fi, .int fv]))] s.heap.size = A at hD ⊢
  have hA : ∀ q : Nat, s.heap.size ≤ q → A q := fun q h => by rw [← hAe]; exact Or.inr h
  have hS : va_S A s.heap s.heap [] := va_S.rf
  have hP : va_P (dC, dI) vwCl [(h, .inr (1, [.ref a, .int w, .null, .int fi, .int fv]))] s.heap := hP
  have hl := lv_entry ([.ref h]) (n := 1) (Nat.le_of_ble_eq_true rfl)
  rw [lg_entry_eq]
  generalize (lg_sl ([.ref h]) ++ List.replicate (1 - (lg_sl ([.ref h])).length) Slot.unset).toArray = ls at hl ⊢
  have hl : lv_has ls 1 [(0, .ref h)] := hl
  refine lv_aload_n hx hb dX1_ensureNonEmpty_0 rfl (lv_at hl 0 rfl) ?_
  refine va_get (D := (dC, dI)) (ci := 1) (v := .int w) (C := RX1) (T := TX1) (N := 5) hx hb hts in_X1 hown hK hP 0 rfl rfl 1 (by decide) (hts _ q36) (fun _ h9 => h9) rfl dX1_ensureNonEmpty_1 ?_
  refine lv_if_ne (tgt := 15) hx hb dX1_ensureNonEmpty_4 (by decide) (fun _ => ?_) (fun hn9 => absurd hn9 (hw0))
  have hP9 := hP.sub (ws' := [(h, .inr (1, [.ref a, .int w, .null, .int fi, .int fv]))]) [0] rfl
  have hD9 := hD.sub (ws' := [(h, .inr (1, [.ref a, .int w, .null, .int fi, .int fv]))]) [0] (by decide) rfl
  have hK9 := hK.sub (tys' := [(dA, .int)]) [0] rfl
  exact W.vret hx hb hr (fun t ht hW => ⟨⟨(), rfl, trivial, by rw [ht]; exact hP9, va_K.moved hW.alike hK9, hD9⟩, hS.F ht⟩) hS.2.2 dX1_ensureNonEmpty_15

set_option maxHeartbeats 4000000 in
set_option maxRecDepth 100000 in
/-- findFirst's loop, from its head with i places left to look at -/
theorem lp_findFirst {p : Program} {l : Launch} {e : Env} {R : Room} {s : State} {m : MethodId} {args : Array Value} {below : List Frame} {meth : Method} {c : Code} {cells slots : Nat} {Q : State → Prop} {dC : Nat → ClassId} {dI : Nat → Nat → Nat} {dA : ClassId} {A : Nat → Prop} {H0 : Heap} {H : Heap} {locs : List Loc} {h a n z : Nat} {f : Nat → Int32} {fi fv : Int32} (hx : p.tables.exec = Jvm.exec) (hb : c.code = cX1_findFirst) (hml : c.maxLocals = 4) (hown : s.vm.findClass RX1 = some m.cls) (hts : ∀ w ∈ lw_all, w.before args s = true) (hK : va_K (dC, dI) vwCl [(dA, .int)] s) (hA : ∀ q : Nat, H0.size ≤ q → A q) (hP : va_P (dC, dI) vwCl [(h, .inr (1, [.ref a, .int (nI z), .null, .int fi, .int fv])), (a, .inl (dA, n, .inl f))] H) (hzn : z ≤ n) (hn : n ≤ 300) (k9 : ∀ (k : Nat) (ls : Array Slot), k < z → (∀ j, j < z → f k ≤ f j) → lv_has ls 4 [(0, .ref h), (2, .int (nI k))] → W p l e R s m args below meth c H locs cells slots Q (F0 m 80 ls [])) : ∀ (i k : Nat) (ls : Array Slot), i ≤ z → k < z → (∀ j, i ≤ j → j < z → f k ≤ f j) → lv_has ls 4 [(0, .ref h), (1, .int (nI i)), (2, .int (nI k)), (3, .int (f k))] → W p l e R s m args below meth c H locs cells slots Q (F0 m 41 ls []) := by
  intro i
  induction i with
  | zero =>
    intro k ls hi hk hm hl
    refine lv_iload_n hx hb dX1_findFirst_41 rfl (lv_at hl 1 rfl) ?_
    refine lv_iinc (v := (nI 0 + Int32.ofInt (-1))) (lv' := [(1, .int (nI 0 + Int32.ofInt (-1))), (0, .ref h), (2, .int (nI k)), (3, .int (f k))]) hx hb dX1_findFirst_42 hl (k := 1) rfl (rfl) (by decide) rfl (fun ls hl => ?_)
    refine lv_if_eq (tgt := 80) hx hb dX1_findFirst_45 (by decide) (fun _ => ?_) (fun hn9 => absurd (nI_0) hn9)
    exact k9 k ls hk (fun j hj => hm j (Nat.zero_le _) hj) (lv_sub hl [1, 2] rfl)
  | succ i ih =>
    intro k ls hi hk hm hl
    refine lv_iload_n hx hb dX1_findFirst_41 rfl (lv_at hl 1 rfl) ?_
    refine lv_iinc (v := nI i) (lv' := [(1, .int (nI i)), (0, .ref h), (2, .int (nI k)), (3, .int (f k))]) hx hb dX1_findFirst_42 hl (k := 1) rfl (aq_decS i) (by decide) rfl (fun ls hl => ?_)
    refine lv_if_eq (tgt := 80) hx hb dX1_findFirst_45 (by decide) (fun hn9 => absurd hn9 (nI_ne0 (Nat.succ_pos i) (by omega))) (fun _ => ?_)
    refine lv_aload_n hx hb dX1_findFirst_48 rfl (lv_at hl 1 rfl) ?_
    refine va_get (D := (dC, dI)) (ci := 1) (v := .ref a) (C := RX1) (T := TX1) (N := 5) hx hb hts in_X1 hown hK hP 0 rfl rfl 0 (by decide) (hts _ q35) (fun _ h9 => h9) rfl dX1_findFirst_49 ?_
    refine lv_iload_n hx hb dX1_findFirst_52 rfl (lv_at hl 0 rfl) ?_
    refine va_iald hx hb hK hP 1 0 rfl rfl (i := nI i) (vp_in_nI (by omega) (by omega)) dX1_findFirst_53 ?_
    refine aq_asi (y := f i) (by rw [nI_clamp (by omega)]) ?_
    refine lv_iload_n hx hb dX1_findFirst_54 rfl (lv_at hl 3 rfl) ?_
    refine lv_icmp_ge (tgt := 41) hx hb dX1_findFirst_55 (by decide) (fun hc => ?_) (fun hc => ?_)
    · exact ih k ls (by omega) hk (fun j p q => by
        by_cases e9 : j = i
        · rw [e9]
          exact hc
        · exact hm j (by omega) q) (lv_sub hl [1, 0, 2, 3] rfl)
    · refine lv_aload_n hx hb dX1_findFirst_58 rfl (lv_at hl 1 rfl) ?_
      refine va_get (D := (dC, dI)) (ci := 1) (v := .ref a) (C := RX1) (T := TX1) (N := 5) hx hb hts in_X1 hown hK hP 0 rfl rfl 0 (by decide) (hts _ q35) (fun _ h9 => h9) rfl dX1_findFirst_59 ?_
      refine lv_iload_n hx hb dX1_findFirst_62 rfl (lv_at hl 0 rfl) ?_
      refine lv_dup hx hb dX1_findFirst_63 rfl ?_
      refine lv_istore_n (lv' := [(2, .int (nI i)), (1, .int (nI i)), (0, .ref h), (3, .int (f k))]) hx hb dX1_findFirst_64 rfl hl (by decide) rfl (fun ls hl => ?_)
      refine va_iald hx hb hK hP 1 0 rfl rfl (i := nI i) (vp_in_nI (by omega) (by omega)) dX1_findFirst_65 ?_
      refine aq_asi (y := f i) (by rw [nI_clamp (by omega)]) ?_
      refine lv_istore_n (lv' := [(3, .int (f i)), (2, .int (nI i)), (1, .int (nI i)), (0, .ref h)]) hx hb dX1_findFirst_66 rfl hl (by decide) rfl (fun ls hl => ?_)
      refine lv_goto (tgt := 41) hx hb dX1_findFirst_67 (by decide) ?_
      exact ih i ls (by omega) (by omega) (fun j p q => by
        by_cases e9 : j = i
        · rw [e9]
          exact aq_rf _
        · exact aq_tr (aq_tot hc) (hm j (by omega) q)) (lv_sub hl [3, 2, 1, 0] rfl)

set_option maxHeartbeats 4000000 in
set_option maxRecDepth 100000 in
/-- findFirst(): the least's place; it is kept -/
theorem met_qfind (l : Launch) (dC : Nat → ClassId) (dI : Nat → Nat → Nat) (dA : ClassId) (h a sz n z : Nat) (f : Nat → Int32) (fi fv : Int32) (hz : 0 < z) (hzn : z ≤ n) (hn : n ≤ 300) (hv9 : fv = 0 ∨ (fv = 1 ∧ ∃ k, k < z ∧ fi = nI k ∧ ∀ j, j < z → f k ≤ f j)) : Met l yX1_findFirst (ws_ yX1_findFirst cX1_findFirst 4 (some .int)) ({ frames := 0, cells := 0, slots := 0, locals := 0 } : Room) (va_Pc [.ref h] (fun U => U.heap.size = sz ∧ va_P (dC, dI) vwCl [(h, .inr (1, [.ref a, .int (nI z), .null, .int fi, .int fv])), (a, .inl (dA, n, .inl f))] U.heap ∧ va_K (dC, dI) vwCl [(dA, .int)] U ∧ va_D (fun _ => True) [(h, .inr (1, [.ref a, .int (nI z), .null, .int fi, .int fv])), (a, .inl (dA, n, .inl f))])) (va_Qi (fun (r : Int32) (k : Nat) => r = nI k ∧ k < z ∧ ∀ j, j < z → f k ≤ f j) (fun (k : Nat) t => va_P (dC, dI) vwCl [(h, .inr (1, [.ref a, .int (nI z), .null, .int (nI k), .int 1])), (a, .inl (dA, n, .inl f))] t.heap ∧ va_K (dC, dI) vwCl [(dA, .int)] t ∧ va_D (va_A [(h, .inr (1, [.ref a, .int (nI z), .null, .int fi, .int fv])), (a, .inl (dA, n, .inl f))] sz) [(h, .inr (1, [.ref a, .int (nI z), .null, .int (nI k), .int 1])), (a, .inl (dA, n, .inl f))]) (va_A [(h, .inr (1, [.ref a, .int (nI z), .null, .int fi, .int fv])), (a, .inl (dA, n, .inl f))] sz)) 0 0 (va_A [(h, .inr (1, [.ref a, .int (nI z), .null, .int fi, .int fv])), (a, .inl (dA, n, .inl f))] sz) := by
  refine Met.ofW (cc := cX1_findFirst) (maxL := 4) (ret := (some .int)) (by decide) rfl ?_
  intro p e s m args below meth c s₁ B hml hv
  obtain ⟨rfl, hsz, hP, hK, hD0⟩ := hv
  have hx := B.exec
  have hb := B.bytes
  have hr := B.returns
  have hts := atoms_spec (ws := ws_ yX1_findFirst cX1_findFirst 4 (some .int)) B.pre
  have hts : ∀ w ∈ lw_all, w.before _ s = true := fun w h => hts w (List.mem_cons_of_mem _ h)
  have hown : s.vm.findClass RX1 = some m.cls := findClass_of_methodNamed B.named
  have hlocks := B.notSynchronized
  subst hsz
  have hD := hD0.self (sz := s.heap.size)
  generalize hAe : va_A [(h, .inr (1, [.ref a, .int (nI z), .null, .int fi, .int fv])), (a, .inl (dA, n, .inl f))] s.heap.size = A at hD ⊢
  have hA : ∀ q : Nat, s.heap.size ≤ q → A q := fun q h => by rw [← hAe]; exact Or.inr h
  have hS : va_S A s.heap s.heap [] := va_S.rf
  have hP : va_P (dC, dI) vwCl [(h, .inr (1, [.ref a, .int (nI z), .null, .int fi, .int fv])), (a, .inl (dA, n, .inl f))] s.heap := hP
  have hl := lv_entry ([.ref h]) (n := 4) (Nat.le_of_ble_eq_true rfl)
  rw [lg_entry_eq]
  generalize (lg_sl ([.ref h]) ++ List.replicate (4 - (lg_sl ([.ref h])).length) Slot.unset).toArray = ls at hl ⊢
  have hl : lv_has ls 4 [(0, .ref h)] := hl
  rcases hv9 with hv9 | ⟨hv9, k, hk, hfi, hm⟩
  · subst hv9
    refine lv_aload_n hx hb dX1_findFirst_0 rfl (lv_at hl 0 rfl) ?_
    refine va_get (D := (dC, dI)) (ci := 1) (v := .int 0) (C := RX1) (T := TX1) (N := 5) hx hb hts in_X1 hown hK hP 0 rfl rfl 4 (by decide) (hts _ q39) (fun _ h9 => h9) rfl dX1_findFirst_1 ?_
    refine lv_if_eq (tgt := 12) hx hb dX1_findFirst_4 (by decide) (fun _ => ?_) (fun hn9 => absurd (rfl) hn9)
    refine lv_aload_n hx hb dX1_findFirst_12 rfl (lv_at hl 0 rfl) ?_
    refine lv_iconst (v := 1) hx hb dX1_findFirst_13 (by decide) ?_
    refine va_put (D := (dC, dI)) (ci := 1) (v := .int 1) (ty := .boolean) (C := RX1) (T := TX1) (N := 5) hx hb hts in_X1 tyX1 tyX1_ok nmX1 hown hK hP hD hS 0 rfl rfl 4 (by decide) (hts _ q39) (fun _ h9 => h9) rfl (by decide +kernel) rfl rfl (Nat.le_of_ble_eq_true rfl) dX1_findFirst_14 (fun H locs hP hD hS => ?_)
    have hP : va_P (dC, dI) vwCl [(h, .inr (1, [.ref a, .int (nI z), .null, .int fi, .int 1])), (a, .inl (dA, n, .inl f))] H := hP
    have hD : va_D A [(h, .inr (1, [.ref a, .int (nI z), .null, .int fi, .int 1])), (a, .inl (dA, n, .inl f))] := hD
    refine lv_aload_n hx hb dX1_findFirst_17 rfl (lv_at hl 0 rfl) ?_
    refine va_get (D := (dC, dI)) (ci := 1) (v := .int (nI z)) (C := RX1) (T := TX1) (N := 5) hx hb hts in_X1 hown hK hP 0 rfl rfl 1 (by decide) (hts _ q36) (fun _ h9 => h9) rfl dX1_findFirst_18 ?_
    refine lv_istore_n (lv' := [(1, .int (nI z)), (0, .ref h)]) hx hb dX1_findFirst_21 rfl hl (by decide) rfl (fun ls hl => ?_)
    refine lv_iinc (v := nI (z - 1)) (lv' := [(1, .int (nI (z - 1))), (0, .ref h)]) hx hb dX1_findFirst_22 hl (k := 0) rfl (aq_dec hz) (by decide) rfl (fun ls hl => ?_)
    refine lv_iload_n hx hb dX1_findFirst_25 rfl (lv_at hl 0 rfl) ?_
    refine lv_istore_n (lv' := [(2, .int (nI (z - 1))), (1, .int (nI (z - 1))), (0, .ref h)]) hx hb dX1_findFirst_26 rfl hl (by decide) rfl (fun ls hl => ?_)
    refine lv_aload_n hx hb dX1_findFirst_27 rfl (lv_at hl 2 rfl) ?_
    refine va_get (D := (dC, dI)) (ci := 1) (v := .ref a) (C := RX1) (T := TX1) (N := 5) hx hb hts in_X1 hown hK hP 0 rfl rfl 0 (by decide) (hts _ q35) (fun _ h9 => h9) rfl dX1_findFirst_28 ?_
    refine lv_iload_n hx hb dX1_findFirst_31 rfl (lv_at hl 0 rfl) ?_
    refine va_iald hx hb hK hP 1 0 rfl rfl (i := nI (z - 1)) (vp_in_nI (by omega) (by omega)) dX1_findFirst_32 ?_
    refine aq_asi (y := f (z - 1)) (by rw [nI_clamp (by omega)]) ?_
    refine lv_istore_n (lv' := [(3, .int (f (z - 1))), (2, .int (nI (z - 1))), (1, .int (nI (z - 1))), (0, .ref h)]) hx hb dX1_findFirst_33 rfl hl (by decide) rfl (fun ls hl => ?_)
    refine lv_aload_n hx hb dX1_findFirst_34 rfl (lv_at hl 3 rfl) ?_
    refine va_get (D := (dC, dI)) (ci := 1) (v := .null) (C := RX1) (T := TX1) (N := 5) hx hb hts in_X1 hown hK hP 0 rfl rfl 2 (by decide) (hts _ q37) (fun _ h9 => h9) rfl dX1_findFirst_35 ?_
    refine lv_ifnonnullN hx hb dX1_findFirst_38 ?_
    have hl : lv_has ls 4 [(0, .ref h), (1, .int (nI (z - 1))), (2, .int (nI (z - 1))), (3, .int (f (z - 1)))] := lv_sub hl [3, 2, 1, 0] rfl
    refine lp_findFirst hx hb hml hown hts hK hA hP hzn hn (fun k ls hk hm hl => ?_) (z - 1) (z - 1) ls (by omega) (by omega) (fun j p q => by rw [show j = z - 1 by omega]; exact aq_rf _) hl
    refine lv_aload_n hx hb dX1_findFirst_80 rfl (lv_at hl 0 rfl) ?_
    refine lv_iload_n hx hb dX1_findFirst_81 rfl (lv_at hl 1 rfl) ?_
    refine lv_dup_x1 hx hb dX1_findFirst_82 rfl rfl ?_
    refine va_put (D := (dC, dI)) (ci := 1) (v := .int (nI k)) (ty := .int) (C := RX1) (T := TX1) (N := 5) hx hb hts in_X1 tyX1 tyX1_ok nmX1 hown hK hP hD hS 0 rfl rfl 3 (by decide) (hts _ q38) (fun _ h9 => h9) rfl (by decide +kernel) rfl rfl (Nat.le_of_ble_eq_true rfl) dX1_findFirst_83 (fun H locs hP hD hS => ?_)
    have hP : va_P (dC, dI) vwCl [(h, .inr (1, [.ref a, .int (nI z), .null, .int (nI k), .int 1])), (a, .inl (dA, n, .inl f))] H := hP
    have hD : va_D A [(h, .inr (1, [.ref a, .int (nI z), .null, .int (nI k), .int 1])), (a, .inl (dA, n, .inl f))] := hD
    have hP9 := hP.sub (ws' := [(h, .inr (1, [.ref a, .int (nI z), .null, .int (nI k), .int 1])), (a, .inl (dA, n, .inl f))]) [0, 1] rfl
    have hD9 := hD.sub (ws' := [(h, .inr (1, [.ref a, .int (nI z), .null, .int (nI k), .int 1])), (a, .inl (dA, n, .inl f))]) [0, 1] (by decide) rfl
    have hK9 := hK.sub (tys' := [(dA, .int)]) [0] rfl
    exact W.iret (v := nI k) hx hb hr (fun t ht hW => ⟨⟨nI k, k, rfl, ⟨rfl, hk, hm⟩, by rw [ht]; exact hP9, va_K.moved hW.alike hK9, hD9⟩, hS.F ht⟩) hS.2.2 dX1_findFirst_86
  · subst hv9
    subst hfi
    refine lv_aload_n hx hb dX1_findFirst_0 rfl (lv_at hl 0 rfl) ?_
    refine va_get (D := (dC, dI)) (ci := 1) (v := .int 1) (C := RX1) (T := TX1) (N := 5) hx hb hts in_X1 hown hK hP 0 rfl rfl 4 (by decide) (hts _ q39) (fun _ h9 => h9) rfl dX1_findFirst_1 ?_
    refine lv_if_eq (tgt := 12) hx hb dX1_findFirst_4 (by decide) (fun hn9 => absurd hn9 (show ¬ (1 : Int32) = 0 by decide)) (fun _ => ?_)
    refine lv_aload_n hx hb dX1_findFirst_7 rfl (lv_at hl 0 rfl) ?_
    refine va_get (D := (dC, dI)) (ci := 1) (v := .int (nI k)) (C := RX1) (T := TX1) (N := 5) hx hb hts in_X1 hown hK hP 0 rfl rfl 3 (by decide) (hts _ q38) (fun _ h9 => h9) rfl dX1_findFirst_8 ?_
    have hP9 := hP.sub (ws' := [(h, .inr (1, [.ref a, .int (nI z), .null, .int (nI k), .int 1])), (a, .inl (dA, n, .inl f))]) [0, 1] rfl
    have hD9 := hD.sub (ws' := [(h, .inr (1, [.ref a, .int (nI z), .null, .int (nI k), .int 1])), (a, .inl (dA, n, .inl f))]) [0, 1] (by decide) rfl
    have hK9 := hK.sub (tys' := [(dA, .int)]) [0] rfl
    exact W.iret (v := (nI k)) hx hb hr (fun t ht hW => ⟨⟨(nI k), k, rfl, ⟨rfl, hk, hm⟩, by rw [ht]; exact hP9, va_K.moved hW.alike hK9, hD9⟩, hS.F ht⟩) hS.2.2 dX1_findFirst_11

set_option maxHeartbeats 4000000 in
set_option maxRecDepth 100000 in
/-- dequeueInt(): the least goes -/
theorem met_qdeq (l : Launch) (dC : Nat → ClassId) (dI : Nat → Nat → Nat) (dA : ClassId) (h a sz n z : Nat) (f : Nat → Int32) (fi fv : Int32) (L : List Int32) (hq : aq_Q L n f (z + 1) fi fv) : Met l yX1_dequeueInt (ws_ yX1_dequeueInt cX1_dequeueInt 3 (some .int)) ({ frames := 2, cells := 0, slots := 0, locals := 60 } : Room) (va_Pc [.ref h] (fun U => U.heap.size = sz ∧ va_P (dC, dI) vwCl [(h, .inr (1, [.ref a, .int (nI (z + 1)), .null, .int fi, .int fv])), (a, .inl (dA, n, .inl f))] U.heap ∧ va_K (dC, dI) vwCl [(dA, .int)] U ∧ va_D (fun _ => True) [(h, .inr (1, [.ref a, .int (nI (z + 1)), .null, .int fi, .int fv])), (a, .inl (dA, n, .inl f))])) (va_Qi (fun (r : Int32) (_ : Unit) => r = aq_min L) (fun (_ : Unit) t => aq_BQ dC dI dA (va_A [(h, .inr (1, [.ref a, .int (nI (z + 1)), .null, .int fi, .int fv])), (a, .inl (dA, n, .inl f))] sz) h (L.erase (aq_min L)) t) (va_A [(h, .inr (1, [.ref a, .int (nI (z + 1)), .null, .int fi, .int fv])), (a, .inl (dA, n, .inl f))] sz)) 0 0 (va_A [(h, .inr (1, [.ref a, .int (nI (z + 1)), .null, .int fi, .int fv])), (a, .inl (dA, n, .inl f))] sz) := by
  refine Met.ofW (cc := cX1_dequeueInt) (maxL := 3) (ret := (some .int)) (by decide) rfl ?_
  intro p e s m args below meth c s₁ B hml hv
  obtain ⟨rfl, hsz, hP, hK, hD0⟩ := hv
  have hx := B.exec
  have hb := B.bytes
  have hr := B.returns
  have hts := atoms_spec (ws := ws_ yX1_dequeueInt cX1_dequeueInt 3 (some .int)) B.pre
  have hts : ∀ w ∈ lw_all, w.before _ s = true := fun w h => hts w (List.mem_cons_of_mem _ h)
  have hown : s.vm.findClass RX1 = some m.cls := findClass_of_methodNamed B.named
  have hlocks := B.notSynchronized
  subst hsz
  have hD := hD0.self (sz := s.heap.size)
  generalize hAe : va_A [(h, .inr (1, [.ref a, .int (nI (z + 1)), .null, .int fi, .int fv])), (a, .inl (dA, n, .inl f))] s.heap.size = A at hD ⊢
  have hA : ∀ q : Nat, s.heap.size ≤ q → A q := fun q h => by rw [← hAe]; exact Or.inr h
  have hS : va_S A s.heap s.heap [] := va_S.rf
  have hP : va_P (dC, dI) vwCl [(h, .inr (1, [.ref a, .int (nI (z + 1)), .null, .int fi, .int fv])), (a, .inl (dA, n, .inl f))] s.heap := hP
  have hl := lv_entry ([.ref h]) (n := 3) (Nat.le_of_ble_eq_true rfl)
  rw [lg_entry_eq]
  generalize (lg_sl ([.ref h]) ++ List.replicate (3 - (lg_sl ([.ref h])).length) Slot.unset).toArray = ls at hl ⊢
  have hl : lv_has ls 3 [(0, .ref h)] := hl
  have hq1 := hq.1
  have hq2 := hq.2.1
  have hq3 := hq.2.2.1
  refine lv_aload_n hx hb dX1_dequeueInt_0 rfl (lv_at hl 0 rfl) ?_
  have hPc := hP.sub (ws' := [(h, .inr (1, [.ref a, .int (nI (z + 1)), .null, .int fi, .int fv]))]) [0] rfl
  have hDc := hD.sub (ws' := [(h, .inr (1, [.ref a, .int (nI (z + 1)), .null, .int fi, .int fv]))]) [0] (by decide) rfl
  have hKc := hK.sub (tys' := [(dA, .int)]) [0] rfl
  have hFc := va_free (wc := [(h, .inr (1, [.ref a, .int (nI (z + 1)), .null, .int fi, .int fv]))]) hD hS hA [0] rfl
  refine va_callv (va_runV (As := []) (rest := []) ⟨hx, hb, hml, hown, hts⟩ (met_qensure l dC dI dA h a s.heap.size (nI (z + 1)) fi fv (nI_ne0 (Nat.succ_pos z) (by omega))) (cwV 0 hts (lw_V q96 q98 qs0 q7 q99) rfl rfl rfl (by decide +kernel) ⟨Nat.le_of_ble_eq_true rfl, Nat.le_of_ble_eq_true rfl⟩) ⟨fun a U g mk q => by obtain ⟨q0, q1, qP, qK, qD⟩ := q; exact ⟨q0, q1, qP, va_K.moved (u := U) (U := U.calling g mk a) (Vm.Alike.refl U.vm) qK, qD⟩, va_recv hKc hPc (ci := 1) (q0 := 0) rfl rfl, fun U hU hW => ⟨rfl, by rw [hU], by rw [hU]; exact hPc, va_K.moved hW.alike hKc, hDc.weaken (fun _ _ _ _ => trivial)⟩⟩ rfl rfl hl.1 rfl (lv_room (Nat.le_of_ble_eq_true rfl)) dX1_dequeueInt_1 ⟨Nat.le_of_ble_eq_true rfl, Nat.le_of_ble_eq_true rfl⟩) hS (fun q _ h => hFc q h) hFc (fun _u t H locs ht hvm hw hB hz1 hk1 hS => ?_)
  obtain ⟨hP1, hK1, hD1⟩ := hB
  rw [ht] at hP1
  obtain ⟨hP, hD⟩ := va_join (wr := [(a, .inl (dA, n, .inl f))]) (w1 := [(h, .inr (1, [.ref a, .int (nI (z + 1)), .null, .int fi, .int fv]))]) hP hD [0] [1] rfl rfl (by decide) (by decide) hk1 hFc hP1 hD1
  have hP : va_P (dC, dI) vwCl [(h, .inr (1, [.ref a, .int (nI (z + 1)), .null, .int fi, .int fv])), (a, .inl (dA, n, .inl f))] H := hP.sub [1, 0] rfl
  have hD : va_D A [(h, .inr (1, [.ref a, .int (nI (z + 1)), .null, .int fi, .int fv])), (a, .inl (dA, n, .inl f))] := hD.sub [1, 0] (by decide) rfl
  refine lv_aload_n hx hb dX1_dequeueInt_4 rfl (lv_at hl 0 rfl) ?_
  have hPc := hP.sub (ws' := [(h, .inr (1, [.ref a, .int (nI (z + 1)), .null, .int fi, .int fv])), (a, .inl (dA, n, .inl f))]) [0, 1] rfl
  have hDc := hD.sub (ws' := [(h, .inr (1, [.ref a, .int (nI (z + 1)), .null, .int fi, .int fv])), (a, .inl (dA, n, .inl f))]) [0, 1] (by decide) rfl
  have hKc := hK.sub (tys' := [(dA, .int)]) [0] rfl
  have hFc := va_free (wc := [(h, .inr (1, [.ref a, .int (nI (z + 1)), .null, .int fi, .int fv])), (a, .inl (dA, n, .inl f))]) hD hS hA [0, 1] rfl
  refine va_calli (va_runV (As := []) (rest := []) ⟨hx, hb, hml, hown, hts⟩ (met_qfind l dC dI dA h a H.size n (z + 1) f fi fv (Nat.succ_pos z) hq1 hq2 hq.2.2.2.2) (cwV 0 hts (lw_V q161 q163 qs2 q7 q164) rfl rfl rfl (by decide +kernel) ⟨Nat.le_of_ble_eq_true rfl, Nat.le_of_ble_eq_true rfl⟩) ⟨fun a U g mk q => by obtain ⟨q0, q1, qP, qK, qD⟩ := q; exact ⟨q0, q1, qP, va_K.moved (u := U) (U := U.calling g mk a) (Vm.Alike.refl U.vm) qK, qD⟩, va_recv hKc hPc (ci := 1) (q0 := 0) rfl rfl, fun U hU hW => ⟨rfl, by rw [hU], by rw [hU]; exact hPc, va_K.moved hW.alike hKc, hDc.weaken (fun _ _ _ _ => trivial)⟩⟩ rfl rfl hl.1 rfl (lv_room (Nat.le_of_ble_eq_true rfl)) dX1_dequeueInt_5 ⟨Nat.le_of_ble_eq_true rfl, Nat.le_of_ble_eq_true rfl⟩) hS (fun q _ h => hFc q h) hFc (fun r_2 k t H locs ht hvm hw hB hz1 hk1 hS => ?_)
  obtain ⟨hP1, hK1, hD1⟩ := hB
  rw [ht] at hP1
  obtain ⟨hP, hD⟩ := va_join (wr := []) (w1 := [(h, .inr (1, [.ref a, .int (nI (z + 1)), .null, .int (nI k), .int 1])), (a, .inl (dA, n, .inl f))]) hP hD [0, 1] [] rfl rfl (by decide) (by decide) hk1 hFc hP1 hD1
  have hP : va_P (dC, dI) vwCl [(h, .inr (1, [.ref a, .int (nI (z + 1)), .null, .int (nI k), .int 1])), (a, .inl (dA, n, .inl f))] H := hP
  have hD : va_D A [(h, .inr (1, [.ref a, .int (nI (z + 1)), .null, .int (nI k), .int 1])), (a, .inl (dA, n, .inl f))] := hD
  obtain ⟨er, hk, hm⟩ := hw
  refine aq_asi (y := nI k) (er) ?_
  refine lv_istore_n (lv' := [(1, .int (nI k)), (0, .ref h)]) hx hb dX1_dequeueInt_8 rfl hl (by decide) rfl (fun ls hl => ?_)
  refine lv_aload_n hx hb dX1_dequeueInt_9 rfl (lv_at hl 1 rfl) ?_
  refine va_get (D := (dC, dI)) (ci := 1) (v := .ref a) (C := RX1) (T := TX1) (N := 5) hx hb hts in_X1 hown hK hP 0 rfl rfl 0 (by decide) (hts _ q35) (fun _ h9 => h9) rfl dX1_dequeueInt_10 ?_
  refine lv_iload_n hx hb dX1_dequeueInt_13 rfl (lv_at hl 0 rfl) ?_
  refine va_iald hx hb hK hP 1 0 rfl rfl (i := nI k) (vp_in_nI (by omega) (by omega)) dX1_dequeueInt_14 ?_
  refine aq_asi (y := f k) (by rw [nI_clamp (by omega)]) ?_
  refine lv_istore_n (lv' := [(2, .int (f k)), (1, .int (nI k)), (0, .ref h)]) hx hb dX1_dequeueInt_15 rfl hl (by decide) rfl (fun ls hl => ?_)
  refine lv_aload_n hx hb dX1_dequeueInt_16 rfl (lv_at hl 2 rfl) ?_
  refine va_get (D := (dC, dI)) (ci := 1) (v := .ref a) (C := RX1) (T := TX1) (N := 5) hx hb hts in_X1 hown hK hP 0 rfl rfl 0 (by decide) (hts _ q35) (fun _ h9 => h9) rfl dX1_dequeueInt_17 ?_
  refine lv_iload_n hx hb dX1_dequeueInt_20 rfl (lv_at hl 1 rfl) ?_
  refine lv_iconst (v := 1) hx hb dX1_dequeueInt_21 (by decide) ?_
  refine lv_iadd hx hb dX1_dequeueInt_22 ?_
  refine aq_asi (y := nI (k + 1)) (nI_1 k) ?_
  refine lv_aload_n hx hb dX1_dequeueInt_23 rfl (lv_at hl 2 rfl) ?_
  refine va_get (D := (dC, dI)) (ci := 1) (v := .ref a) (C := RX1) (T := TX1) (N := 5) hx hb hts in_X1 hown hK hP 0 rfl rfl 0 (by decide) (hts _ q35) (fun _ h9 => h9) rfl dX1_dequeueInt_24 ?_
  refine lv_iload_n hx hb dX1_dequeueInt_27 rfl (lv_at hl 1 rfl) ?_
  refine lv_aload_n hx hb dX1_dequeueInt_28 rfl (lv_at hl 2 rfl) ?_
  refine lv_dup hx hb dX1_dequeueInt_29 rfl ?_
  refine va_get (D := (dC, dI)) (ci := 1) (v := .int (nI (z + 1))) (C := RX1) (T := TX1) (N := 5) hx hb hts in_X1 hown hK hP 0 rfl rfl 1 (by decide) (hts _ q36) (fun _ h9 => h9) rfl dX1_dequeueInt_30 ?_
  refine lv_iconst (v := 1) hx hb dX1_dequeueInt_33 (by decide) ?_
  refine lv_isub hx hb dX1_dequeueInt_34 ?_
  refine aq_asi (y := nI z) (nI_pred z) ?_
  refine lv_dup_x1 hx hb dX1_dequeueInt_35 rfl rfl ?_
  refine va_put (D := (dC, dI)) (ci := 1) (v := .int (nI z)) (ty := .int) (C := RX1) (T := TX1) (N := 5) hx hb hts in_X1 tyX1 tyX1_ok nmX1 hown hK hP hD hS 0 rfl rfl 1 (by decide) (hts _ q36) (fun _ h9 => h9) rfl (by decide +kernel) rfl rfl (Nat.le_of_ble_eq_true rfl) dX1_dequeueInt_36 (fun H locs hP hD hS => ?_)
  have hP : va_P (dC, dI) vwCl [(h, .inr (1, [.ref a, .int (nI z), .null, .int (nI k), .int 1])), (a, .inl (dA, n, .inl f))] H := hP
  have hD : va_D A [(h, .inr (1, [.ref a, .int (nI z), .null, .int (nI k), .int 1])), (a, .inl (dA, n, .inl f))] := hD
  refine lv_iload_n hx hb dX1_dequeueInt_39 rfl (lv_at hl 1 rfl) ?_
  refine lv_isub hx hb dX1_dequeueInt_40 ?_
  refine aq_asi (y := nI (z - k)) (pk_sub (by omega)) ?_
  refine va_copyi hx hb (hml.trans hl.1.symm) hown (hts _ q173) (hts _ q83) (hts _ q82) (hts _ q11) hK hP hD hS 1 1 0 0 rfl rfl rfl rfl rfl (sp := nI (k + 1)) (dp := nI k) (n := nI (z - k)) (nI_pos (by omega)) (nI_pos (by omega)) (nI_pos (by omega)) (by rw [nI_clamp (by omega), nI_clamp (by omega)]; omega) (by rw [nI_clamp (by omega), nI_clamp (by omega)]; omega) (fun _ _ => rfl) (Nat.le_of_ble_eq_true rfl) (by decide +kernel) dX1_dequeueInt_41 (fun H locs hP hD hS => ?_)
  rw [nI_clamp (show k + 1 < 2 ^ 31 by omega), nI_clamp (show k < 2 ^ 31 by omega), nI_clamp (show z - k < 2 ^ 31 by omega)] at hP hD
  have hP : va_P (dC, dI) vwCl [(h, .inr (1, [.ref a, .int (nI z), .null, .int (nI k), .int 1])), (a, .inl (dA, n, .inl (va_cpy f f (k + 1) k (z - k))))] H := hP
  have hD : va_D A [(h, .inr (1, [.ref a, .int (nI z), .null, .int (nI k), .int 1])), (a, .inl (dA, n, .inl (va_cpy f f (k + 1) k (z - k))))] := hD
  refine lv_aload_n hx hb dX1_dequeueInt_44 rfl (lv_at hl 2 rfl) ?_
  refine lv_iconst (v := 0) hx hb dX1_dequeueInt_45 (by decide) ?_
  refine va_put (D := (dC, dI)) (ci := 1) (v := .int 0) (ty := .boolean) (C := RX1) (T := TX1) (N := 5) hx hb hts in_X1 tyX1 tyX1_ok nmX1 hown hK hP hD hS 0 rfl rfl 4 (by decide) (hts _ q39) (fun _ h9 => h9) rfl (by decide +kernel) rfl rfl (Nat.le_of_ble_eq_true rfl) dX1_dequeueInt_46 (fun H locs hP hD hS => ?_)
  have hP : va_P (dC, dI) vwCl [(h, .inr (1, [.ref a, .int (nI z), .null, .int (nI k), .int 0])), (a, .inl (dA, n, .inl (va_cpy f f (k + 1) k (z - k))))] H := hP
  have hD : va_D A [(h, .inr (1, [.ref a, .int (nI z), .null, .int (nI k), .int 0])), (a, .inl (dA, n, .inl (va_cpy f f (k + 1) k (z - k))))] := hD
  refine lv_iload_n hx hb dX1_dequeueInt_49 rfl (lv_at hl 0 rfl) ?_
  have hP9 := hP.sub (ws' := [(h, .inr (1, [.ref a, .int (nI z), .null, .int (nI k), .int 0])), (a, .inl (dA, n, .inl (va_cpy f f (k + 1) k (z - k))))]) [0, 1] rfl
  have hD9 := hD.sub (ws' := [(h, .inr (1, [.ref a, .int (nI z), .null, .int (nI k), .int 0])), (a, .inl (dA, n, .inl (va_cpy f f (k + 1) k (z - k))))]) [0, 1] (by decide) rfl
  have hK9 := hK.sub (tys' := [(dA, .int)]) [0] rfl
  exact W.iret (v := f k) hx hb hr (fun t ht hW => ⟨⟨f k, (), rfl, hq.least hk hm, ⟨a, n, va_cpy f f (k + 1) k (z - k), z, nI k, 0, hq.del hk hm, by rw [ht]; exact hP9, va_K.moved hW.alike hK9, hD9⟩⟩, hS.F ht⟩) hS.2.2 dX1_dequeueInt_50

set_option maxHeartbeats 4000000 in
set_option maxRecDepth 100000 in
/-- firstInt(): the least -/
theorem met_qfirst (l : Launch) (dC : Nat → ClassId) (dI : Nat → Nat → Nat) (dA : ClassId) (h a sz n z : Nat) (f : Nat → Int32) (fi fv : Int32) (L : List Int32) (hz : 0 < z) (hq : aq_Q L n f z fi fv) : Met l yX1_firstInt (ws_ yX1_firstInt cX1_firstInt 1 (some .int)) ({ frames := 2, cells := 0, slots := 0, locals := 60 } : Room) (va_Pc [.ref h] (fun U => U.heap.size = sz ∧ va_P (dC, dI) vwCl [(h, .inr (1, [.ref a, .int (nI z), .null, .int fi, .int fv])), (a, .inl (dA, n, .inl f))] U.heap ∧ va_K (dC, dI) vwCl [(dA, .int)] U ∧ va_D (fun _ => True) [(h, .inr (1, [.ref a, .int (nI z), .null, .int fi, .int fv])), (a, .inl (dA, n, .inl f))])) (va_Qi (fun (r : Int32) (_ : Unit) => r = aq_min L) (fun (_ : Unit) t => aq_BQ dC dI dA (va_A [(h, .inr (1, [.ref a, .int (nI z), .null, .int fi, .int fv])), (a, .inl (dA, n, .inl f))] sz) h L t) (va_A [(h, .inr (1, [.ref a, .int (nI z), .null, .int fi, .int fv])), (a, .inl (dA, n, .inl f))] sz)) 0 0 (va_A [(h, .inr (1, [.ref a, .int (nI z), .null, .int fi, .int fv])), (a, .inl (dA, n, .inl f))] sz) := by
  refine Met.ofW (cc := cX1_firstInt) (maxL := 1) (ret := (some .int)) (by decide) rfl ?_
  intro p e s m args below meth c s₁ B hml hv
  obtain ⟨rfl, hsz, hP, hK, hD0⟩ := hv
  have hx := B.exec
  have hb := B.bytes
  have hr := B.returns
  have hts := atoms_spec (ws := ws_ yX1_firstInt cX1_firstInt 1 (some .int)) B.pre
  have hts : ∀ w ∈ lw_all, w.before _ s = true := fun w h => hts w (List.mem_cons_of_mem _ h)
  have hown : s.vm.findClass RX1 = some m.cls := findClass_of_methodNamed B.named
  have hlocks := B.notSynchronized
  subst hsz
  have hD := hD0.self (sz := s.heap.size)
  generalize hAe : va_A [(h, .inr (1, [.ref a, .int (nI z), .null, .int fi, .int fv])), (a, .inl (dA, n, .inl f))] s.heap.size = A at hD ⊢
  have hA : ∀ q : Nat, s.heap.size ≤ q → A q := fun q h => by rw [← hAe]; exact Or.inr h
  have hS : va_S A s.heap s.heap [] := va_S.rf
  have hP : va_P (dC, dI) vwCl [(h, .inr (1, [.ref a, .int (nI z), .null, .int fi, .int fv])), (a, .inl (dA, n, .inl f))] s.heap := hP
  have hl := lv_entry ([.ref h]) (n := 1) (Nat.le_of_ble_eq_true rfl)
  rw [lg_entry_eq]
  generalize (lg_sl ([.ref h]) ++ List.replicate (1 - (lg_sl ([.ref h])).length) Slot.unset).toArray = ls at hl ⊢
  have hl : lv_has ls 1 [(0, .ref h)] := hl
  have hq1 := hq.1
  have hq2 := hq.2.1
  have hq3 := hq.2.2.1
  refine lv_aload_n hx hb dX1_firstInt_0 rfl (lv_at hl 0 rfl) ?_
  have hPc := hP.sub (ws' := [(h, .inr (1, [.ref a, .int (nI z), .null, .int fi, .int fv]))]) [0] rfl
  have hDc := hD.sub (ws' := [(h, .inr (1, [.ref a, .int (nI z), .null, .int fi, .int fv]))]) [0] (by decide) rfl
  have hKc := hK.sub (tys' := [(dA, .int)]) [0] rfl
  have hFc := va_free (wc := [(h, .inr (1, [.ref a, .int (nI z), .null, .int fi, .int fv]))]) hD hS hA [0] rfl
  refine va_callv (va_runV (As := []) (rest := []) ⟨hx, hb, hml, hown, hts⟩ (met_qensure l dC dI dA h a s.heap.size (nI z) fi fv (nI_ne0 hz (by omega))) (cwV 0 hts (lw_V q96 q98 qs0 q7 q99) rfl rfl rfl (by decide +kernel) ⟨Nat.le_of_ble_eq_true rfl, Nat.le_of_ble_eq_true rfl⟩) ⟨fun a U g mk q => by obtain ⟨q0, q1, qP, qK, qD⟩ := q; exact ⟨q0, q1, qP, va_K.moved (u := U) (U := U.calling g mk a) (Vm.Alike.refl U.vm) qK, qD⟩, va_recv hKc hPc (ci := 1) (q0 := 0) rfl rfl, fun U hU hW => ⟨rfl, by rw [hU], by rw [hU]; exact hPc, va_K.moved hW.alike hKc, hDc.weaken (fun _ _ _ _ => trivial)⟩⟩ rfl rfl hl.1 rfl (lv_room (Nat.le_of_ble_eq_true rfl)) dX1_firstInt_1 ⟨Nat.le_of_ble_eq_true rfl, Nat.le_of_ble_eq_true rfl⟩) hS (fun q _ h => hFc q h) hFc (fun _u t H locs ht hvm hw hB hz1 hk1 hS => ?_)
  obtain ⟨hP1, hK1, hD1⟩ := hB
  rw [ht] at hP1
  obtain ⟨hP, hD⟩ := va_join (wr := [(a, .inl (dA, n, .inl f))]) (w1 := [(h, .inr (1, [.ref a, .int (nI z), .null, .int fi, .int fv]))]) hP hD [0] [1] rfl rfl (by decide) (by decide) hk1 hFc hP1 hD1
  have hP : va_P (dC, dI) vwCl [(h, .inr (1, [.ref a, .int (nI z), .null, .int fi, .int fv])), (a, .inl (dA, n, .inl f))] H := hP.sub [1, 0] rfl
  have hD : va_D A [(h, .inr (1, [.ref a, .int (nI z), .null, .int fi, .int fv])), (a, .inl (dA, n, .inl f))] := hD.sub [1, 0] (by decide) rfl
  refine lv_aload_n hx hb dX1_firstInt_4 rfl (lv_at hl 0 rfl) ?_
  refine va_get (D := (dC, dI)) (ci := 1) (v := .ref a) (C := RX1) (T := TX1) (N := 5) hx hb hts in_X1 hown hK hP 0 rfl rfl 0 (by decide) (hts _ q35) (fun _ h9 => h9) rfl dX1_firstInt_5 ?_
  refine lv_aload_n hx hb dX1_firstInt_8 rfl (lv_at hl 0 rfl) ?_
  have hPc := hP.sub (ws' := [(h, .inr (1, [.ref a, .int (nI z), .null, .int fi, .int fv])), (a, .inl (dA, n, .inl f))]) [0, 1] rfl
  have hDc := hD.sub (ws' := [(h, .inr (1, [.ref a, .int (nI z), .null, .int fi, .int fv])), (a, .inl (dA, n, .inl f))]) [0, 1] (by decide) rfl
  have hKc := hK.sub (tys' := [(dA, .int)]) [0] rfl
  have hFc := va_free (wc := [(h, .inr (1, [.ref a, .int (nI z), .null, .int fi, .int fv])), (a, .inl (dA, n, .inl f))]) hD hS hA [0, 1] rfl
  refine va_calli (va_runV (As := []) (rest := [.ref a]) ⟨hx, hb, hml, hown, hts⟩ (met_qfind l dC dI dA h a H.size n z f fi fv hz hq1 hq2 hq.2.2.2.2) (cwV 0 hts (lw_V q161 q163 qs2 q7 q164) rfl rfl rfl (by decide +kernel) ⟨Nat.le_of_ble_eq_true rfl, Nat.le_of_ble_eq_true rfl⟩) ⟨fun a U g mk q => by obtain ⟨q0, q1, qP, qK, qD⟩ := q; exact ⟨q0, q1, qP, va_K.moved (u := U) (U := U.calling g mk a) (Vm.Alike.refl U.vm) qK, qD⟩, va_recv hKc hPc (ci := 1) (q0 := 0) rfl rfl, fun U hU hW => ⟨rfl, by rw [hU], by rw [hU]; exact hPc, va_K.moved hW.alike hKc, hDc.weaken (fun _ _ _ _ => trivial)⟩⟩ rfl rfl hl.1 rfl (lv_room (Nat.le_of_ble_eq_true rfl)) dX1_firstInt_9 ⟨Nat.le_of_ble_eq_true rfl, Nat.le_of_ble_eq_true rfl⟩) hS (fun q _ h => hFc q h) hFc (fun r_2 k t H locs ht hvm hw hB hz1 hk1 hS => ?_)
  obtain ⟨hP1, hK1, hD1⟩ := hB
  rw [ht] at hP1
  obtain ⟨hP, hD⟩ := va_join (wr := []) (w1 := [(h, .inr (1, [.ref a, .int (nI z), .null, .int (nI k), .int 1])), (a, .inl (dA, n, .inl f))]) hP hD [0, 1] [] rfl rfl (by decide) (by decide) hk1 hFc hP1 hD1
  have hP : va_P (dC, dI) vwCl [(h, .inr (1, [.ref a, .int (nI z), .null, .int (nI k), .int 1])), (a, .inl (dA, n, .inl f))] H := hP
  have hD : va_D A [(h, .inr (1, [.ref a, .int (nI z), .null, .int (nI k), .int 1])), (a, .inl (dA, n, .inl f))] := hD
  obtain ⟨er, hk, hm⟩ := hw
  refine aq_asi (y := nI k) (er) ?_
  refine va_iald hx hb hK hP 1 0 rfl rfl (i := nI k) (vp_in_nI (by omega) (by omega)) dX1_firstInt_12 ?_
  refine aq_asi (y := f k) (by rw [nI_clamp (by omega)]) ?_
  have hP9 := hP.sub (ws' := [(h, .inr (1, [.ref a, .int (nI z), .null, .int (nI k), .int 1])), (a, .inl (dA, n, .inl f))]) [0, 1] rfl
  have hD9 := hD.sub (ws' := [(h, .inr (1, [.ref a, .int (nI z), .null, .int (nI k), .int 1])), (a, .inl (dA, n, .inl f))]) [0, 1] (by decide) rfl
  have hK9 := hK.sub (tys' := [(dA, .int)]) [0] rfl
  exact W.iret (v := f k) hx hb hr (fun t ht hW => ⟨⟨f k, (), rfl, hq.least hk hm, ⟨a, n, f, z, nI k, 1, hq.found hk hm, by rw [ht]; exact hP9, va_K.moved hW.alike hK9, hD9⟩⟩, hS.F ht⟩) hS.2.2 dX1_firstInt_13

set_option maxHeartbeats 4000000 in
set_option maxRecDepth 100000 in
/-- enqueue from 72 on: the value is laid in -/
theorem tl_enqueue2 {p : Program} {l : Launch} {e : Env} {R : Room} {s : State} {m : MethodId} {args : Array Value} {below : List Frame} {meth : Method} {c : Code} {cells slots : Nat} {Q : State → Prop} {dC : Nat → ClassId} {dI : Nat → Nat → Nat} {dA : ClassId} {A : Nat → Prop} {H0 : Heap} {h a n z : Nat} {f : Nat → Int32} {fi fv x : Int32} (hx : p.tables.exec = Jvm.exec) (hb : c.code = cX1_enqueue) (hml : c.maxLocals = 2) (hown : s.vm.findClass RX1 = some m.cls) (hts : ∀ w ∈ lw_all, w.before args s = true) (hK : va_K (dC, dI) vwCl [(dA, .int)] s) (hA : ∀ q : Nat, H0.size ≤ q → A q) (hzn : z < n) (hn : n ≤ 300) (k9 : ∀ (H : Heap) (locs : List Loc) (ls : Array Slot), va_P (dC, dI) vwCl [(h, .inr (1, [.ref a, .int (nI (z + 1)), .null, .int fi, .int fv])), (a, .inl (dA, n, .inl (upd f z x)))] H → va_D A [(h, .inr (1, [.ref a, .int (nI (z + 1)), .null, .int fi, .int fv])), (a, .inl (dA, n, .inl (upd f z x)))] → va_S A H0 H locs → W p l e R s m args below meth c H locs cells slots Q (F0 m 89 ls [])) : ∀ (H : Heap) (locs : List Loc) (ls : Array Slot), va_P (dC, dI) vwCl [(h, .inr (1, [.ref a, .int (nI z), .null, .int fi, .int fv])), (a, .inl (dA, n, .inl f))] H → va_D A [(h, .inr (1, [.ref a, .int (nI z), .null, .int fi, .int fv])), (a, .inl (dA, n, .inl f))] → va_S A H0 H locs → lv_has ls 2 [(0, .ref h), (1, .int x)] → W p l e R s m args below meth c H locs cells slots Q (F0 m 72 ls []) := by
  intro H locs ls hP hD hS hl
  refine lv_aload_n hx hb dX1_enqueue_72 rfl (lv_at hl 0 rfl) ?_
  refine va_get (D := (dC, dI)) (ci := 1) (v := .ref a) (C := RX1) (T := TX1) (N := 5) hx hb hts in_X1 hown hK hP 0 rfl rfl 0 (by decide) (hts _ q35) (fun _ h9 => h9) rfl dX1_enqueue_73 ?_
  refine lv_aload_n hx hb dX1_enqueue_76 rfl (lv_at hl 0 rfl) ?_
  refine lv_dup hx hb dX1_enqueue_77 rfl ?_
  refine va_get (D := (dC, dI)) (ci := 1) (v := .int (nI z)) (C := RX1) (T := TX1) (N := 5) hx hb hts in_X1 hown hK hP 0 rfl rfl 1 (by decide) (hts _ q36) (fun _ h9 => h9) rfl dX1_enqueue_78 ?_
  refine lv_dup_x1 hx hb dX1_enqueue_81 rfl rfl ?_
  refine lv_iconst (v := 1) hx hb dX1_enqueue_82 (by decide) ?_
  refine lv_iadd hx hb dX1_enqueue_83 ?_
  refine aq_asi (y := nI (z + 1)) (nI_1 z) ?_
  refine va_put (D := (dC, dI)) (ci := 1) (v := .int (nI (z + 1))) (ty := .int) (C := RX1) (T := TX1) (N := 5) hx hb hts in_X1 tyX1 tyX1_ok nmX1 hown hK hP hD hS 0 rfl rfl 1 (by decide) (hts _ q36) (fun _ h9 => h9) rfl (by decide +kernel) rfl rfl (Nat.le_of_ble_eq_true rfl) dX1_enqueue_84 (fun H locs hP hD hS => ?_)
  have hP : va_P (dC, dI) vwCl [(h, .inr (1, [.ref a, .int (nI (z + 1)), .null, .int fi, .int fv])), (a, .inl (dA, n, .inl f))] H := hP
  have hD : va_D A [(h, .inr (1, [.ref a, .int (nI (z + 1)), .null, .int fi, .int fv])), (a, .inl (dA, n, .inl f))] := hD
  refine lv_iload_n hx hb dX1_enqueue_87 rfl (lv_at hl 1 rfl) ?_
  refine va_iast hx hb hK hP hD hS 1 0 rfl rfl (i := nI z) (vp_in_nI (by omega) (by omega)) dX1_enqueue_88 (fun H locs hP hD hS => ?_)
  rw [nI_clamp (show z < 2 ^ 31 by omega)] at hP hD
  have hP : va_P (dC, dI) vwCl [(h, .inr (1, [.ref a, .int (nI (z + 1)), .null, .int fi, .int fv])), (a, .inl (dA, n, .inl (upd f z x)))] H := hP
  have hD : va_D A [(h, .inr (1, [.ref a, .int (nI (z + 1)), .null, .int fi, .int fv])), (a, .inl (dA, n, .inl (upd f z x)))] := hD
  exact k9 H locs ls hP hD hS

set_option maxHeartbeats 4000000 in
set_option maxRecDepth 100000 in
/-- enqueue from 29 on, where there is room -/
theorem tl_enqueue {p : Program} {l : Launch} {e : Env} {R : Room} {s : State} {m : MethodId} {args : Array Value} {below : List Frame} {meth : Method} {c : Code} {cells slots : Nat} {Q : State → Prop} {dC : Nat → ClassId} {dI : Nat → Nat → Nat} {dA : ClassId} {A : Nat → Prop} {H0 : Heap} {h a n z : Nat} {f : Nat → Int32} {fi fv x : Int32} {L : List Int32} (hx : p.tables.exec = Jvm.exec) (hb : c.code = cX1_enqueue) (hml : c.maxLocals = 2) (hown : s.vm.findClass RX1 = some m.cls) (hts : ∀ w ∈ lw_all, w.before args s = true) (hK : va_K (dC, dI) vwCl [(dA, .int)] s) (hA : ∀ q : Nat, H0.size ≤ q → A q) (hzn : z < n) (hz : z < 200) (hq : aq_Q L n f z fi fv) (k9 : ∀ (fi' fv' : Int32) (H : Heap) (locs : List Loc) (ls : Array Slot), aq_Q (x :: L) n (upd f z x) (z + 1) fi' fv' → va_P (dC, dI) vwCl [(h, .inr (1, [.ref a, .int (nI (z + 1)), .null, .int fi', .int fv'])), (a, .inl (dA, n, .inl (upd f z x)))] H → va_D A [(h, .inr (1, [.ref a, .int (nI (z + 1)), .null, .int fi', .int fv'])), (a, .inl (dA, n, .inl (upd f z x)))] → va_S A H0 H locs → W p l e R s m args below meth c H locs cells slots Q (F0 m 89 ls [])) : ∀ (H : Heap) (locs : List Loc) (ls : Array Slot), va_P (dC, dI) vwCl [(h, .inr (1, [.ref a, .int (nI z), .null, .int fi, .int fv])), (a, .inl (dA, n, .inl f))] H → va_D A [(h, .inr (1, [.ref a, .int (nI z), .null, .int fi, .int fv])), (a, .inl (dA, n, .inl f))] → va_S A H0 H locs → lv_has ls 2 [(0, .ref h), (1, .int x)] → W p l e R s m args below meth c H locs cells slots Q (F0 m 29 ls []) := by
  intro H locs ls hP hD hS hl
  have hq1 := hq.1
  have hq2 := hq.2.1
  have hq3 := hq.2.2.1
  have hv9 := hq.2.2.2.2
  rcases hv9 with hv9 | ⟨hv9, k, hk, hfi, hm⟩
  · subst hv9
    refine lv_aload_n hx hb dX1_enqueue_29 rfl (lv_at hl 0 rfl) ?_
    refine va_get (D := (dC, dI)) (ci := 1) (v := .int 0) (C := RX1) (T := TX1) (N := 5) hx hb hts in_X1 hown hK hP 0 rfl rfl 4 (by decide) (hts _ q39) (fun _ h9 => h9) rfl dX1_enqueue_30 ?_
    refine lv_if_eq (tgt := 67) hx hb dX1_enqueue_33 (by decide) (fun _ => ?_) (fun hn9 => absurd (rfl) hn9)
    refine lv_aload_n hx hb dX1_enqueue_67 rfl (lv_at hl 0 rfl) ?_
    refine lv_iconst (v := 0) hx hb dX1_enqueue_68 (by decide) ?_
    refine va_put (D := (dC, dI)) (ci := 1) (v := .int 0) (ty := .boolean) (C := RX1) (T := TX1) (N := 5) hx hb hts in_X1 tyX1 tyX1_ok nmX1 hown hK hP hD hS 0 rfl rfl 4 (by decide) (hts _ q39) (fun _ h9 => h9) rfl (by decide +kernel) rfl rfl (Nat.le_of_ble_eq_true rfl) dX1_enqueue_69 (fun H locs hP hD hS => ?_)
    have hP : va_P (dC, dI) vwCl [(h, .inr (1, [.ref a, .int (nI z), .null, .int fi, .int 0])), (a, .inl (dA, n, .inl f))] H := hP
    have hD : va_D A [(h, .inr (1, [.ref a, .int (nI z), .null, .int fi, .int 0])), (a, .inl (dA, n, .inl f))] := hD
    exact tl_enqueue2 hx hb hml hown hts hK hA hzn hq2 (fun H locs ls hP hD hS => k9 _ _ H locs ls (hq.add0 hzn hz) hP hD hS) H locs ls hP hD hS hl
  · subst hv9
    subst hfi
    refine lv_aload_n hx hb dX1_enqueue_29 rfl (lv_at hl 0 rfl) ?_
    refine va_get (D := (dC, dI)) (ci := 1) (v := .int 1) (C := RX1) (T := TX1) (N := 5) hx hb hts in_X1 hown hK hP 0 rfl rfl 4 (by decide) (hts _ q39) (fun _ h9 => h9) rfl dX1_enqueue_30 ?_
    refine lv_if_eq (tgt := 67) hx hb dX1_enqueue_33 (by decide) (fun hn9 => absurd hn9 (show ¬ (1 : Int32) = 0 by decide)) (fun _ => ?_)
    refine lv_aload_n hx hb dX1_enqueue_36 rfl (lv_at hl 0 rfl) ?_
    refine va_get (D := (dC, dI)) (ci := 1) (v := .null) (C := RX1) (T := TX1) (N := 5) hx hb hts in_X1 hown hK hP 0 rfl rfl 2 (by decide) (hts _ q37) (fun _ h9 => h9) rfl dX1_enqueue_37 ?_
    refine lv_ifnonnullN hx hb dX1_enqueue_40 ?_
    refine lv_iload_n hx hb dX1_enqueue_43 rfl (lv_at hl 1 rfl) ?_
    refine lv_aload_n hx hb dX1_enqueue_44 rfl (lv_at hl 0 rfl) ?_
    refine va_get (D := (dC, dI)) (ci := 1) (v := .ref a) (C := RX1) (T := TX1) (N := 5) hx hb hts in_X1 hown hK hP 0 rfl rfl 0 (by decide) (hts _ q35) (fun _ h9 => h9) rfl dX1_enqueue_45 ?_
    refine lv_aload_n hx hb dX1_enqueue_48 rfl (lv_at hl 0 rfl) ?_
    refine va_get (D := (dC, dI)) (ci := 1) (v := .int (nI k)) (C := RX1) (T := TX1) (N := 5) hx hb hts in_X1 hown hK hP 0 rfl rfl 3 (by decide) (hts _ q38) (fun _ h9 => h9) rfl dX1_enqueue_49 ?_
    refine va_iald hx hb hK hP 1 0 rfl rfl (i := nI k) (vp_in_nI (by omega) (by omega)) dX1_enqueue_52 ?_
    refine aq_asi (y := f k) (by rw [nI_clamp (by omega)]) ?_
    refine lv_icmp_ge (tgt := 72) hx hb dX1_enqueue_53 (by decide) (fun hc => ?_) (fun hc => ?_)
    · exact tl_enqueue2 hx hb hml hown hts hK hA hzn hq2 (fun H locs ls hP hD hS => k9 _ _ H locs ls (hq.addK hzn hz hk hm hc) hP hD hS) H locs ls hP hD hS hl
    · refine lv_aload_n hx hb dX1_enqueue_56 rfl (lv_at hl 0 rfl) ?_
      refine lv_aload_n hx hb dX1_enqueue_57 rfl (lv_at hl 0 rfl) ?_
      refine va_get (D := (dC, dI)) (ci := 1) (v := .int (nI z)) (C := RX1) (T := TX1) (N := 5) hx hb hts in_X1 hown hK hP 0 rfl rfl 1 (by decide) (hts _ q36) (fun _ h9 => h9) rfl dX1_enqueue_58 ?_
      refine va_put (D := (dC, dI)) (ci := 1) (v := .int (nI z)) (ty := .int) (C := RX1) (T := TX1) (N := 5) hx hb hts in_X1 tyX1 tyX1_ok nmX1 hown hK hP hD hS 0 rfl rfl 3 (by decide) (hts _ q38) (fun _ h9 => h9) rfl (by decide +kernel) rfl rfl (Nat.le_of_ble_eq_true rfl) dX1_enqueue_61 (fun H locs hP hD hS => ?_)
      have hP : va_P (dC, dI) vwCl [(h, .inr (1, [.ref a, .int (nI z), .null, .int (nI z), .int 1])), (a, .inl (dA, n, .inl f))] H := hP
      have hD : va_D A [(h, .inr (1, [.ref a, .int (nI z), .null, .int (nI z), .int 1])), (a, .inl (dA, n, .inl f))] := hD
      refine lv_goto (tgt := 72) hx hb dX1_enqueue_64 (by decide) ?_
      exact tl_enqueue2 hx hb hml hown hts hK hA hzn hq2 (fun H locs ls hP hD hS => k9 _ _ H locs ls (hq.addN hzn hz hm (aq_nle hc)) hP hD hS) H locs ls hP hD hS hl

set_option maxHeartbeats 4000000 in
set_option maxRecDepth 100000 in
/-- enqueue(x) -/
theorem met_qenq (l : Launch) (dC : Nat → ClassId) (dI : Nat → Nat → Nat) (dA : ClassId) (h a sz n z : Nat) (f : Nat → Int32) (fi fv : Int32) (L : List Int32) (x : Int32) (hz : z < 200) (hq : aq_Q L n f z fi fv) : Met l yX1_enqueue (ws_ yX1_enqueue cX1_enqueue 2 none) ({ frames := 3, cells := 1, slots := 300, locals := 140 } : Room) (va_Pc [.ref h, .int x] (fun U => U.heap.size = sz ∧ va_P (dC, dI) vwCl [(h, .inr (1, [.ref a, .int (nI z), .null, .int fi, .int fv])), (a, .inl (dA, n, .inl f))] U.heap ∧ va_K (dC, dI) vwCl [(dA, .int)] U ∧ va_D (fun _ => True) [(h, .inr (1, [.ref a, .int (nI z), .null, .int fi, .int fv])), (a, .inl (dA, n, .inl f))])) (va_Qv (fun _ : Unit => True) (fun (_ : Unit) t => aq_BQ dC dI dA (va_A [(h, .inr (1, [.ref a, .int (nI z), .null, .int fi, .int fv])), (a, .inl (dA, n, .inl f))] sz) h (x :: L) t) (va_A [(h, .inr (1, [.ref a, .int (nI z), .null, .int fi, .int fv])), (a, .inl (dA, n, .inl f))] sz)) 1 300 (va_A [(h, .inr (1, [.ref a, .int (nI z), .null, .int fi, .int fv])), (a, .inl (dA, n, .inl f))] sz) := by
  refine Met.ofW (cc := cX1_enqueue) (maxL := 2) (ret := none) (by decide) rfl ?_
  intro p e s m args below meth c s₁ B hml hv
  obtain ⟨rfl, hsz, hP, hK, hD0⟩ := hv
  have hx := B.exec
  have hb := B.bytes
  have hr := B.returns
  have hts := atoms_spec (ws := ws_ yX1_enqueue cX1_enqueue 2 none) B.pre
  have hts : ∀ w ∈ lw_all, w.before _ s = true := fun w h => hts w (List.mem_cons_of_mem _ h)
  have hown : s.vm.findClass RX1 = some m.cls := findClass_of_methodNamed B.named
  have hlocks := B.notSynchronized
  subst hsz
  have hD := hD0.self (sz := s.heap.size)
  generalize hAe : va_A [(h, .inr (1, [.ref a, .int (nI z), .null, .int fi, .int fv])), (a, .inl (dA, n, .inl f))] s.heap.size = A at hD ⊢
  have hA : ∀ q : Nat, s.heap.size ≤ q → A q := fun q h => by rw [← hAe]; exact Or.inr h
  have hS : va_S A s.heap s.heap [] := va_S.rf
  have hP : va_P (dC, dI) vwCl [(h, .inr (1, [.ref a, .int (nI z), .null, .int fi, .int fv])), (a, .inl (dA, n, .inl f))] s.heap := hP
  have hl := lv_entry ([.ref h, .int x]) (n := 2) (Nat.le_of_ble_eq_true rfl)
  rw [lg_entry_eq]
  generalize (lg_sl ([.ref h, .int x]) ++ List.replicate (2 - (lg_sl ([.ref h, .int x])).length) Slot.unset).toArray = ls at hl ⊢
  have hl : lv_has ls 2 [(0, .ref h), (1, .int x)] := hl
  have hq1 := hq.1
  have hq2 := hq.2.1
  have hq3 := hq.2.2.1
  refine lv_aload_n hx hb dX1_enqueue_0 rfl (lv_at hl 0 rfl) ?_
  refine va_get (D := (dC, dI)) (ci := 1) (v := .int (nI z)) (C := RX1) (T := TX1) (N := 5) hx hb hts in_X1 hown hK hP 0 rfl rfl 1 (by decide) (hts _ q36) (fun _ h9 => h9) rfl dX1_enqueue_1 ?_
  refine lv_aload_n hx hb dX1_enqueue_4 rfl (lv_at hl 0 rfl) ?_
  refine va_get (D := (dC, dI)) (ci := 1) (v := .ref a) (C := RX1) (T := TX1) (N := 5) hx hb hts in_X1 hown hK hP 0 rfl rfl 0 (by decide) (hts _ q35) (fun _ h9 => h9) rfl dX1_enqueue_5 ?_
  refine va_alen (v := nI n) hx hb hK hP 1 0 rfl rfl rfl dX1_enqueue_8 ?_
  by_cases hzn : z = n
  · subst hzn
    refine lv_icmp_ne (tgt := 29) hx hb dX1_enqueue_9 (by decide) (fun hn9 => absurd hn9 (fun q9 => q9 rfl)) (fun _ => ?_)
    refine lv_aload_n hx hb dX1_enqueue_12 rfl (lv_at hl 0 rfl) ?_
    refine lv_aload_n hx hb dX1_enqueue_13 rfl (lv_at hl 0 rfl) ?_
    refine va_get (D := (dC, dI)) (ci := 1) (v := .ref a) (C := RX1) (T := TX1) (N := 5) hx hb hts in_X1 hown hK hP 0 rfl rfl 0 (by decide) (hts _ q35) (fun _ h9 => h9) rfl dX1_enqueue_14 ?_
    refine lv_aload_n hx hb dX1_enqueue_17 rfl (lv_at hl 0 rfl) ?_
    refine va_get (D := (dC, dI)) (ci := 1) (v := .int (nI z)) (C := RX1) (T := TX1) (N := 5) hx hb hts in_X1 hown hK hP 0 rfl rfl 1 (by decide) (hts _ q36) (fun _ h9 => h9) rfl dX1_enqueue_18 ?_
    refine lv_iconst (v := 1) hx hb dX1_enqueue_21 (by decide) ?_
    refine lv_iadd hx hb dX1_enqueue_22 ?_
    refine aq_asi (y := nI (z + 1)) (nI_1 z) ?_
    have hPc := hP.sub (ws' := [(a, .inl (dA, z, .inl f))]) [1] rfl
    have hDc := hD.sub (ws' := [(a, .inl (dA, z, .inl f))]) [1] (by decide) rfl
    have hKc := hK.sub (tys' := [(dA, .int)]) [0] rfl
    have hFc := va_free (wc := [(a, .inl (dA, z, .inl f))]) hD hS hA [1] rfl
    refine va_callr (va_runS (As := [.ref a, .int (nI (z + 1))]) (rest := [.ref h]) ⟨hx, hb, hml, hown, hts⟩ (met_grow2 l dC dI dA a s.heap.size z f hz) (va_cwS 2 hts (lw_S q68 q69 q8 q70) rfl rfl rfl (by decide +kernel) ⟨Nat.le_of_ble_eq_true rfl, Nat.le_of_ble_eq_true rfl⟩) ⟨fun a U g mk q => by obtain ⟨q0, q1, qP, qK, qD⟩ := q; exact ⟨q0, q1, qP, va_K.moved (u := U) (U := U.calling g mk a) (Vm.Alike.refl U.vm) qK, qD⟩, fun U hU hW => ⟨rfl, by rw [hU], by rw [hU]; exact hPc, va_K.moved hW.alike hKc, hDc.weaken (fun _ _ _ _ => trivial)⟩⟩ rfl rfl hl.1 rfl (lv_room (Nat.le_of_ble_eq_true rfl)) dX1_enqueue_23 ⟨Nat.le_of_ble_eq_true rfl, Nat.le_of_ble_eq_true rfl⟩) hS (fun q _ h => hFc q h) hFc (fun g q_1 t H locs ht hvm hw hB hz1 hk1 hS => ?_)
    obtain ⟨hP1, hK1, hD1⟩ := hB
    rw [ht] at hP1
    obtain ⟨hP, hD⟩ := va_join (wr := [(h, .inr (1, [.ref a, .int (nI z), .null, .int fi, .int fv]))]) (w1 := [(q_1, .inl (dA, (aq_cap z), .inl g))]) hP hD [1] [0] rfl rfl (by decide) (by decide) hk1 hFc hP1 hD1
    have hP : va_P (dC, dI) vwCl [(h, .inr (1, [.ref a, .int (nI z), .null, .int fi, .int fv])), (q_1, .inl (dA, (aq_cap z), .inl g))] H := hP
    have hD : va_D A [(h, .inr (1, [.ref a, .int (nI z), .null, .int fi, .int fv])), (q_1, .inl (dA, (aq_cap z), .inl g))] := hD
    refine va_put (D := (dC, dI)) (ci := 1) (v := .ref q_1) (ty := .array .int) (C := RX1) (T := TX1) (N := 5) hx hb hts in_X1 tyX1 tyX1_ok nmX1 hown hK hP hD hS 0 rfl rfl 0 (by decide) (hts _ q35) (fun _ h9 => h9) rfl (by decide +kernel) rfl rfl (Nat.le_of_ble_eq_true rfl) dX1_enqueue_26 (fun H locs hP hD hS => ?_)
    have hP : va_P (dC, dI) vwCl [(h, .inr (1, [.ref q_1, .int (nI z), .null, .int fi, .int fv])), (q_1, .inl (dA, (aq_cap z), .inl g))] H := hP
    have hD : va_D A [(h, .inr (1, [.ref q_1, .int (nI z), .null, .int fi, .int fv])), (q_1, .inl (dA, (aq_cap z), .inl g))] := hD
    have hc1 := (aq_cap_ok hz).1
    have hc2 := (aq_cap_ok hz).2
    refine W.widen (k := 1) (n := 300) (by omega) (by omega) ?_
    refine tl_enqueue hx hb hml hown hts hK hA (show z < aq_cap z by omega) hz (hq.to (by omega) hc2 hw) (fun fi9 fv9 H locs ls hq9 hP hD hS => ?_) H locs ls hP hD hS hl
    have hP9 := hP.sub (ws' := [(h, .inr (1, [.ref q_1, .int (nI (z + 1)), .null, .int fi9, .int fv9])), (q_1, .inl (dA, (aq_cap z), .inl (upd g z x)))]) [0, 1] rfl
    have hD9 := hD.sub (ws' := [(h, .inr (1, [.ref q_1, .int (nI (z + 1)), .null, .int fi9, .int fv9])), (q_1, .inl (dA, (aq_cap z), .inl (upd g z x)))]) [0, 1] (by decide) rfl
    have hK9 := hK.sub (tys' := [(dA, .int)]) [0] rfl
    exact W.vret hx hb hr (fun t ht hW => ⟨⟨(), rfl, trivial, ⟨q_1, aq_cap z, upd g z x, z + 1, fi9, fv9, hq9, by rw [ht]; exact hP9, va_K.moved hW.alike hK9, hD9⟩⟩, hS.F ht⟩) hS.2.2 dX1_enqueue_89
  · refine lv_icmp_ne (tgt := 29) hx hb dX1_enqueue_9 (by decide) (fun _ => ?_) (fun hn9 => absurd hn9 (fun q9 => hzn ((nI_eq (by omega) (by omega)).mp q9)))
    refine W.widen (k := 1) (n := 300) (by omega) (by omega) ?_
    refine tl_enqueue hx hb hml hown hts hK hA (show z < n by omega) hz hq (fun fi9 fv9 H locs ls hq9 hP hD hS => ?_) _ _ ls hP hD hS hl
    have hP9 := hP.sub (ws' := [(h, .inr (1, [.ref a, .int (nI (z + 1)), .null, .int fi9, .int fv9])), (a, .inl (dA, n, .inl (upd f z x)))]) [0, 1] rfl
    have hD9 := hD.sub (ws' := [(h, .inr (1, [.ref a, .int (nI (z + 1)), .null, .int fi9, .int fv9])), (a, .inl (dA, n, .inl (upd f z x)))]) [0, 1] (by decide) rfl
    have hK9 := hK.sub (tys' := [(dA, .int)]) [0] rfl
    exact W.vret hx hb hr (fun t ht hW => ⟨⟨(), rfl, trivial, ⟨a, n, upd f z x, z + 1, fi9, fv9, hq9, by rw [ht]; exact hP9, va_K.moved hW.alike hK9, hD9⟩⟩, hS.F ht⟩) hS.2.2 dX1_enqueue_89

set_option maxHeartbeats 4000000 in
set_option maxRecDepth 100000 in
/-- trim() of a full array -/
theorem met_qtrim_1 (l : Launch) (dC : Nat → ClassId) (dI : Nat → Nat → Nat) (dA : ClassId) (h a sz n z : Nat) (f : Nat → Int32) (fi fv : Int32) (L : List Int32) (hz : n ≤ z) (hq : aq_Q L n f z fi fv) : Met l yX1_trim (ws_ yX1_trim cX1_trim 1 none) ({ frames := 2, cells := 1, slots := 300, locals := 100 } : Room) (va_Pc [.ref h] (fun U => U.heap.size = sz ∧ va_P (dC, dI) vwCl [(h, .inr (1, [.ref a, .int (nI z), .null, .int fi, .int fv])), (a, .inl (dA, n, .inl f))] U.heap ∧ va_K (dC, dI) vwCl [(dA, .int)] U ∧ va_D (fun _ => True) [(h, .inr (1, [.ref a, .int (nI z), .null, .int fi, .int fv])), (a, .inl (dA, n, .inl f))])) (va_Qv (fun _ : Unit => True) (fun (_ : Unit) t => aq_BQ dC dI dA (va_A [(h, .inr (1, [.ref a, .int (nI z), .null, .int fi, .int fv])), (a, .inl (dA, n, .inl f))] sz) h L t) (va_A [(h, .inr (1, [.ref a, .int (nI z), .null, .int fi, .int fv])), (a, .inl (dA, n, .inl f))] sz)) 1 300 (va_A [(h, .inr (1, [.ref a, .int (nI z), .null, .int fi, .int fv])), (a, .inl (dA, n, .inl f))] sz) := by
  refine Met.ofW (cc := cX1_trim) (maxL := 1) (ret := none) (by decide) rfl ?_
  intro p e s m args below meth c s₁ B hml hv
  obtain ⟨rfl, hsz, hP, hK, hD0⟩ := hv
  have hx := B.exec
  have hb := B.bytes
  have hr := B.returns
  have hts := atoms_spec (ws := ws_ yX1_trim cX1_trim 1 none) B.pre
  have hts : ∀ w ∈ lw_all, w.before _ s = true := fun w h => hts w (List.mem_cons_of_mem _ h)
  have hown : s.vm.findClass RX1 = some m.cls := findClass_of_methodNamed B.named
  have hlocks := B.notSynchronized
  subst hsz
  have hD := hD0.self (sz := s.heap.size)
  generalize hAe : va_A [(h, .inr (1, [.ref a, .int (nI z), .null, .int fi, .int fv])), (a, .inl (dA, n, .inl f))] s.heap.size = A at hD ⊢
  have hA : ∀ q : Nat, s.heap.size ≤ q → A q := fun q h => by rw [← hAe]; exact Or.inr h
  have hS : va_S A s.heap s.heap [] := va_S.rf
  have hP : va_P (dC, dI) vwCl [(h, .inr (1, [.ref a, .int (nI z), .null, .int fi, .int fv])), (a, .inl (dA, n, .inl f))] s.heap := hP
  have hl := lv_entry ([.ref h]) (n := 1) (Nat.le_of_ble_eq_true rfl)
  rw [lg_entry_eq]
  generalize (lg_sl ([.ref h]) ++ List.replicate (1 - (lg_sl ([.ref h])).length) Slot.unset).toArray = ls at hl ⊢
  have hl : lv_has ls 1 [(0, .ref h)] := hl
  have hq1 := hq.1
  have hq2 := hq.2.1
  have hq3 := hq.2.2.1
  refine lv_aload_n hx hb dX1_trim_0 rfl (lv_at hl 0 rfl) ?_
  refine lv_aload_n hx hb dX1_trim_1 rfl (lv_at hl 0 rfl) ?_
  refine va_get (D := (dC, dI)) (ci := 1) (v := .ref a) (C := RX1) (T := TX1) (N := 5) hx hb hts in_X1 hown hK hP 0 rfl rfl 0 (by decide) (hts _ q35) (fun _ h9 => h9) rfl dX1_trim_2 ?_
  refine lv_aload_n hx hb dX1_trim_5 rfl (lv_at hl 0 rfl) ?_
  refine va_get (D := (dC, dI)) (ci := 1) (v := .int (nI z)) (C := RX1) (T := TX1) (N := 5) hx hb hts in_X1 hown hK hP 0 rfl rfl 1 (by decide) (hts _ q36) (fun _ h9 => h9) rfl dX1_trim_6 ?_
  have hPc := hP.sub (ws' := [(a, .inl (dA, n, .inl f))]) [1] rfl
  have hDc := hD.sub (ws' := [(a, .inl (dA, n, .inl f))]) [1] (by decide) rfl
  have hKc := hK.sub (tys' := [(dA, .int)]) [0] rfl
  have hFc := va_free (wc := [(a, .inl (dA, n, .inl f))]) hD hS hA [1] rfl
  refine va_callr (va_runS (As := [.ref a, .int (nI z)]) (rest := [.ref h]) ⟨hx, hb, hml, hown, hts⟩ (met_trim_1 l dC dI dA a s.heap.size n z f hz (by omega)) (va_cwS 2 hts (lw_S q191 q192 q8 q193) rfl rfl rfl (by decide +kernel) ⟨Nat.le_of_ble_eq_true rfl, Nat.le_of_ble_eq_true rfl⟩) ⟨fun a U g mk q => by obtain ⟨q0, q1, qP, qK, qD⟩ := q; exact ⟨q0, q1, qP, va_K.moved (u := U) (U := U.calling g mk a) (Vm.Alike.refl U.vm) qK, qD⟩, fun U hU hW => ⟨rfl, by rw [hU], by rw [hU]; exact hPc, va_K.moved hW.alike hKc, hDc.weaken (fun _ _ _ _ => trivial)⟩⟩ rfl rfl hl.1 rfl (lv_room (Nat.le_of_ble_eq_true rfl)) dX1_trim_9 ⟨Nat.le_of_ble_eq_true rfl, Nat.le_of_ble_eq_true rfl⟩) hS (fun q _ h => hFc q h) hFc (fun _u q_1 t H locs ht hvm hw hB hz1 hk1 hS => ?_)
  obtain ⟨hP1, hK1, hD1⟩ := hB
  rw [ht] at hP1
  obtain ⟨hP, hD⟩ := va_join (wr := [(h, .inr (1, [.ref a, .int (nI z), .null, .int fi, .int fv]))]) (w1 := [(q_1, .inl (dA, n, .inl f))]) hP hD [1] [0] rfl rfl (by decide) (by decide) hk1 hFc hP1 hD1
  have hP : va_P (dC, dI) vwCl [(h, .inr (1, [.ref a, .int (nI z), .null, .int fi, .int fv])), (q_1, .inl (dA, n, .inl f))] H := hP
  have hD : va_D A [(h, .inr (1, [.ref a, .int (nI z), .null, .int fi, .int fv])), (q_1, .inl (dA, n, .inl f))] := hD
  refine va_put (D := (dC, dI)) (ci := 1) (v := .ref q_1) (ty := .array .int) (C := RX1) (T := TX1) (N := 5) hx hb hts in_X1 tyX1 tyX1_ok nmX1 hown hK hP hD hS 0 rfl rfl 0 (by decide) (hts _ q35) (fun _ h9 => h9) rfl (by decide +kernel) rfl rfl (Nat.le_of_ble_eq_true rfl) dX1_trim_12 (fun H locs hP hD hS => ?_)
  have hP : va_P (dC, dI) vwCl [(h, .inr (1, [.ref q_1, .int (nI z), .null, .int fi, .int fv])), (q_1, .inl (dA, n, .inl f))] H := hP
  have hD : va_D A [(h, .inr (1, [.ref q_1, .int (nI z), .null, .int fi, .int fv])), (q_1, .inl (dA, n, .inl f))] := hD
  have hP9 := hP.sub (ws' := [(h, .inr (1, [.ref q_1, .int (nI z), .null, .int fi, .int fv])), (q_1, .inl (dA, n, .inl f))]) [0, 1] rfl
  have hD9 := hD.sub (ws' := [(h, .inr (1, [.ref q_1, .int (nI z), .null, .int fi, .int fv])), (q_1, .inl (dA, n, .inl f))]) [0, 1] (by decide) rfl
  have hK9 := hK.sub (tys' := [(dA, .int)]) [0] rfl
  refine W.widen (k := 1) (n := 300) (Nat.le_of_ble_eq_true rfl) (Nat.le_of_ble_eq_true rfl) ?_
  exact W.vret hx hb hr (fun t ht hW => ⟨⟨(), rfl, trivial, ⟨q_1, n, f, z, fi, fv, hq, by rw [ht]; exact hP9, va_K.moved hW.alike hK9, hD9⟩⟩, hS.F ht⟩) hS.2.2 dX1_trim_15

set_option maxHeartbeats 4000000 in
set_option maxRecDepth 100000 in
/-- trim() of a longer array -/
theorem met_qtrim_2 (l : Launch) (dC : Nat → ClassId) (dI : Nat → Nat → Nat) (dA : ClassId) (h a e0 sz n z : Nat) (f fe : Nat → Int32) (fi fv : Int32) (L : List Int32) (hz : z < n) (hq : aq_Q L n f z fi fv) : Met l yX1_trim (ws_ yX1_trim cX1_trim 1 none) ({ frames := 2, cells := 1, slots := 300, locals := 100 } : Room) (va_Pc [.ref h] (fun U => U.heap.size = sz ∧ va_P (dC, dI) vwCl [(h, .inr (1, [.ref a, .int (nI z), .null, .int fi, .int fv])), (a, .inl (dA, n, .inl f)), (e0, .inl (dA, 0, .inl fe))] U.heap ∧ va_K (dC, dI) vwCl [(dA, .int)] U ∧ va_D (fun _ => True) [(h, .inr (1, [.ref a, .int (nI z), .null, .int fi, .int fv])), (a, .inl (dA, n, .inl f)), (e0, .inl (dA, 0, .inl fe))] ∧ va_Z "IntArrays" "EMPTY_ARRAY" "[I" (.ref e0) (va_A [(h, .inr (1, [.ref a, .int (nI z), .null, .int fi, .int fv])), (a, .inl (dA, n, .inl f)), (e0, .inl (dA, 0, .inl fe))] sz) U U.heap)) (va_Qv (fun _ : Unit => True) (fun (_ : Unit) t => aq_BQ dC dI dA (va_A [(h, .inr (1, [.ref a, .int (nI z), .null, .int fi, .int fv])), (a, .inl (dA, n, .inl f)), (e0, .inl (dA, 0, .inl fe))] sz) h L t) (va_A [(h, .inr (1, [.ref a, .int (nI z), .null, .int fi, .int fv])), (a, .inl (dA, n, .inl f)), (e0, .inl (dA, 0, .inl fe))] sz)) 1 300 (va_A [(h, .inr (1, [.ref a, .int (nI z), .null, .int fi, .int fv])), (a, .inl (dA, n, .inl f)), (e0, .inl (dA, 0, .inl fe))] sz) := by
  refine Met.ofW (cc := cX1_trim) (maxL := 1) (ret := none) (by decide) rfl ?_
  intro p e s m args below meth c s₁ B hml hv
  obtain ⟨rfl, hsz, hP, hK, hD0, hZ⟩ := hv
  have hx := B.exec
  have hb := B.bytes
  have hr := B.returns
  have hts := atoms_spec (ws := ws_ yX1_trim cX1_trim 1 none) B.pre
  have hts : ∀ w ∈ lw_all, w.before _ s = true := fun w h => hts w (List.mem_cons_of_mem _ h)
  have hown : s.vm.findClass RX1 = some m.cls := findClass_of_methodNamed B.named
  have hlocks := B.notSynchronized
  subst hsz
  have hD := hD0.self (sz := s.heap.size)
  generalize hAe : va_A [(h, .inr (1, [.ref a, .int (nI z), .null, .int fi, .int fv])), (a, .inl (dA, n, .inl f)), (e0, .inl (dA, 0, .inl fe))] s.heap.size = A at hD hZ ⊢
  have hA : ∀ q : Nat, s.heap.size ≤ q → A q := fun q h => by rw [← hAe]; exact Or.inr h
  have hS : va_S A s.heap s.heap [] := va_S.rf
  have hP : va_P (dC, dI) vwCl [(h, .inr (1, [.ref a, .int (nI z), .null, .int fi, .int fv])), (a, .inl (dA, n, .inl f)), (e0, .inl (dA, 0, .inl fe))] s.heap := hP
  have hl := lv_entry ([.ref h]) (n := 1) (Nat.le_of_ble_eq_true rfl)
  rw [lg_entry_eq]
  generalize (lg_sl ([.ref h]) ++ List.replicate (1 - (lg_sl ([.ref h])).length) Slot.unset).toArray = ls at hl ⊢
  have hl : lv_has ls 1 [(0, .ref h)] := hl
  have hq1 := hq.1
  have hq2 := hq.2.1
  have hq3 := hq.2.2.1
  refine lv_aload_n hx hb dX1_trim_0 rfl (lv_at hl 0 rfl) ?_
  refine lv_aload_n hx hb dX1_trim_1 rfl (lv_at hl 0 rfl) ?_
  refine va_get (D := (dC, dI)) (ci := 1) (v := .ref a) (C := RX1) (T := TX1) (N := 5) hx hb hts in_X1 hown hK hP 0 rfl rfl 0 (by decide) (hts _ q35) (fun _ h9 => h9) rfl dX1_trim_2 ?_
  refine lv_aload_n hx hb dX1_trim_5 rfl (lv_at hl 0 rfl) ?_
  refine va_get (D := (dC, dI)) (ci := 1) (v := .int (nI z)) (C := RX1) (T := TX1) (N := 5) hx hb hts in_X1 hown hK hP 0 rfl rfl 1 (by decide) (hts _ q36) (fun _ h9 => h9) rfl dX1_trim_6 ?_
  have hPc := hP.sub (ws' := [(a, .inl (dA, n, .inl f)), (e0, .inl (dA, 0, .inl fe))]) [1, 2] rfl
  have hDc := hD.sub (ws' := [(a, .inl (dA, n, .inl f)), (e0, .inl (dA, 0, .inl fe))]) [1, 2] (by decide) rfl
  have hKc := hK.sub (tys' := [(dA, .int)]) [0] rfl
  have hFc := va_free (wc := [(a, .inl (dA, n, .inl f)), (e0, .inl (dA, 0, .inl fe))]) hD hS hA [1, 2] rfl
  refine va_callr (va_runS (As := [.ref a, .int (nI z)]) (rest := [.ref h]) ⟨hx, hb, hml, hown, hts⟩ (met_trim_2 l dC dI dA a e0 s.heap.size n z f fe hz hq2) (va_cwS 2 hts (lw_S q191 q192 q8 q193) rfl rfl rfl (by decide +kernel) ⟨Nat.le_of_ble_eq_true rfl, Nat.le_of_ble_eq_true rfl⟩) ⟨fun a U g mk q => by obtain ⟨q0, q1, qP, qK, qD, qZ⟩ := q; exact ⟨q0, q1, qP, va_K.moved (u := U) (U := U.calling g mk a) (Vm.Alike.refl U.vm) qK, qD, va_Z.moved (u := U) (U := U.calling g mk a) (Vm.Alike.refl U.vm) qZ⟩, fun U hU hW => ⟨rfl, by rw [hU], by rw [hU]; exact hPc, va_K.moved hW.alike hKc, hDc.weaken (fun _ _ _ _ => trivial), by rw [hU]; exact va_Z.moved hW.alike ((hZ.kept hS.2.1).narrow hFc)⟩⟩ rfl rfl hl.1 rfl (lv_room (Nat.le_of_ble_eq_true rfl)) dX1_trim_9 ⟨Nat.le_of_ble_eq_true rfl, Nat.le_of_ble_eq_true rfl⟩) hS (fun q _ h => hFc q h) hFc (fun g q_1 t H locs ht hvm hw hB hz1 hk1 hS => ?_)
  obtain ⟨hP1, hK1, hD1⟩ := hB
  rw [ht] at hP1
  obtain ⟨hP, hD⟩ := va_join (wr := [(h, .inr (1, [.ref a, .int (nI z), .null, .int fi, .int fv]))]) (w1 := [(q_1, .inl (dA, z, .inl g))]) hP hD [1, 2] [0] rfl rfl (by decide) (by decide) hk1 hFc hP1 hD1
  have hP : va_P (dC, dI) vwCl [(h, .inr (1, [.ref a, .int (nI z), .null, .int fi, .int fv])), (q_1, .inl (dA, z, .inl g))] H := hP
  have hD : va_D A [(h, .inr (1, [.ref a, .int (nI z), .null, .int fi, .int fv])), (q_1, .inl (dA, z, .inl g))] := hD
  refine va_put (D := (dC, dI)) (ci := 1) (v := .ref q_1) (ty := .array .int) (C := RX1) (T := TX1) (N := 5) hx hb hts in_X1 tyX1 tyX1_ok nmX1 hown hK hP hD hS 0 rfl rfl 0 (by decide) (hts _ q35) (fun _ h9 => h9) rfl (by decide +kernel) rfl rfl (Nat.le_of_ble_eq_true rfl) dX1_trim_12 (fun H locs hP hD hS => ?_)
  have hP : va_P (dC, dI) vwCl [(h, .inr (1, [.ref q_1, .int (nI z), .null, .int fi, .int fv])), (q_1, .inl (dA, z, .inl g))] H := hP
  have hD : va_D A [(h, .inr (1, [.ref q_1, .int (nI z), .null, .int fi, .int fv])), (q_1, .inl (dA, z, .inl g))] := hD
  have hP9 := hP.sub (ws' := [(h, .inr (1, [.ref q_1, .int (nI z), .null, .int fi, .int fv])), (q_1, .inl (dA, z, .inl g))]) [0, 1] rfl
  have hD9 := hD.sub (ws' := [(h, .inr (1, [.ref q_1, .int (nI z), .null, .int fi, .int fv])), (q_1, .inl (dA, z, .inl g))]) [0, 1] (by decide) rfl
  have hK9 := hK.sub (tys' := [(dA, .int)]) [0] rfl
  refine W.widen (k := 1) (n := 300) (Nat.le_of_ble_eq_true rfl) (Nat.le_of_ble_eq_true rfl) ?_
  exact W.vret hx hb hr (fun t ht hW => ⟨⟨(), rfl, trivial, ⟨q_1, z, g, z, fi, fv, hq.to (Nat.le_refl _) (by omega) hw, by rw [ht]; exact hP9, va_K.moved hW.alike hK9, hD9⟩⟩, hS.F ht⟩) hS.2.2 dX1_trim_15
end
section
/-! MODULE ArrayQueueDeskModel -/
set_option maxHeartbeats 4000000 in
set_option maxRecDepth 100000 in
/-- ArrayQueueDeskModel() -/
theorem met_minit (l : Launch) (dC : Nat → ClassId) (dI : Nat → Nat → Nat) (dA : ClassId) (o sz : Nat) : Met l yX3_init (ws_ yX3_init cX3_init 1 none) ({ frames := 1, cells := 1, slots := 200, locals := 20 } : Room) (va_Pc [.ref o] (fun U => U.heap.size = sz ∧ va_P (dC, dI) vwCl [(o, .inr (2, [.null, .int 0]))] U.heap ∧ va_K (dC, dI) vwCl [(dA, .int)] U ∧ va_D (fun _ => True) [(o, .inr (2, [.null, .int 0]))])) (va_Qv (fun _ : Unit => True) (fun (_ : Unit) t => ∃ (r : Nat) (g : Nat → Int32), va_P (dC, dI) vwCl [(o, .inr (2, [.ref r, .int 0])), (r, .inl (dA, 200, .inl g))] t.heap ∧ va_K (dC, dI) vwCl [(dA, .int)] t ∧ va_D (va_A [(o, .inr (2, [.null, .int 0]))] sz) [(o, .inr (2, [.ref r, .int 0])), (r, .inl (dA, 200, .inl g))]) (va_A [(o, .inr (2, [.null, .int 0]))] sz)) 1 200 (va_A [(o, .inr (2, [.null, .int 0]))] sz) := by
  refine Met.ofW (cc := cX3_init) (maxL := 1) (ret := none) (by decide) rfl ?_
  intro p e s m args below meth c s₁ B hml hv
  obtain ⟨rfl, hsz, hP, hK, hD0⟩ := hv
  have hx := B.exec
  have hb := B.bytes
  have hr := B.returns
  have hts := atoms_spec (ws := ws_ yX3_init cX3_init 1 none) B.pre
  have hts : ∀ w ∈ lw_all, w.before _ s = true := fun w h => hts w (List.mem_cons_of_mem _ h)
  have hown : s.vm.findClass RX3 = some m.cls := findClass_of_methodNamed B.named
  have hlocks := B.notSynchronized
  have hin : meth.name = "<init>" := (name_of_methodNamed B.named B.method).1
  subst hsz
  have hD := hD0.self (sz := s.heap.size)
  generalize hAe : va_A [(o, .inr (2, [.null, .int 0]))] s.heap.size = A at hD ⊢
  have hA : ∀ q : Nat, s.heap.size ≤ q → A q := fun q h => by rw [← hAe]; exact Or.inr h
  have hS : va_S A s.heap s.heap [] := va_S.rf
  have hP : va_P (dC, dI) vwCl [(o, .inr (2, [.null, .int 0]))] s.heap := hP
  have hl := lv_entry ([.ref o]) (n := 1) (Nat.le_of_ble_eq_true rfl)
  rw [lg_entry_eq]
  generalize (lg_sl ([.ref o]) ++ List.replicate (1 - (lg_sl ([.ref o])).length) Slot.unset).toArray = ls at hl ⊢
  have hl : lv_has ls 1 [(0, .ref o)] := hl
  refine lv_aload_n hx hb dX3_init_0 rfl (lv_at hl 0 rfl) ?_
  refine W.objInit hx hb hown (hts _ q208) (hts _ q22) (hts _ q23) rfl (by rw [hml]; exact hl.1) rfl dX3_init_1 (Nat.le_of_ble_eq_true rfl) (Nat.le_of_ble_eq_true rfl) ?_
  refine W.eq (g2 := F0 m 4 ls []) rfl ?_
  refine lv_aload_n hx hb dX3_init_4 rfl (lv_at hl 0 rfl) ?_
  refine lv_sipush (v := 200) hx hb dX3_init_5 (by decide) ?_
  refine va_newa hx hb (atype := .int) (hts _ q51) (ty := .int) rfl hK hP hD hS hA (N' := 200) (a0 := (200, .inl (fun _ => 0))) (fun _ => rfl) (by decide) (by decide) (Nat.le_of_ble_eq_true rfl) (Nat.le_of_ble_eq_true rfl) (Nat.le_of_ble_eq_true rfl) dX3_init_8 (fun q_1 cA H hK2 hP hD hS => ?_)
  have eA := aq_same hK2
  rw [eA] at hP hD
  have hP : va_P (dC, dI) vwCl [(o, .inr (2, [.null, .int 0])), (q_1, .inl (dA, 200, .inl (fun _ => 0)))] H := hP
  have hD : va_D A [(o, .inr (2, [.null, .int 0])), (q_1, .inl (dA, 200, .inl (fun _ => 0)))] := hD
  refine va_putF (D := (dC, dI)) (ci := 2) (v := .ref q_1) (ty := .array .int) (C := RX3) (T := TX3) (N := 2) hx hb hts in_X3 tyX3 tyX3_ok nmX3 hown hK hP hD hS 0 rfl rfl 0 (by decide) (hts _ q209) (fun _ h9 => h9) rfl hin rfl (by decide +kernel) rfl rfl (Nat.le_of_ble_eq_true rfl) dX3_init_10 (fun H locs hP hD hS => ?_)
  have hP : va_P (dC, dI) vwCl [(o, .inr (2, [.ref q_1, .int 0])), (q_1, .inl (dA, 200, .inl (fun _ => 0)))] H := hP
  have hD : va_D A [(o, .inr (2, [.ref q_1, .int 0])), (q_1, .inl (dA, 200, .inl (fun _ => 0)))] := hD
  have hP9 := hP.sub (ws' := [(o, .inr (2, [.ref q_1, .int 0])), (q_1, .inl (dA, 200, .inl (fun _ => 0)))]) [0, 1] rfl
  have hD9 := hD.sub (ws' := [(o, .inr (2, [.ref q_1, .int 0])), (q_1, .inl (dA, 200, .inl (fun _ => 0)))]) [0, 1] (by decide) rfl
  have hK9 := hK.sub (tys' := [(dA, .int)]) [0] rfl
  refine W.widen (k := 1) (n := 200) (Nat.le_of_ble_eq_true rfl) (Nat.le_of_ble_eq_true rfl) ?_
  exact W.vret hx hb hr (fun t ht hW => ⟨⟨(), rfl, trivial, ⟨q_1, fun _ => 0, by rw [ht]; exact hP9, va_K.moved hW.alike hK9, hD9⟩⟩, hS.F ht⟩) hS.2.2 dX3_init_13

set_option maxHeartbeats 4000000 in
set_option maxRecDepth 100000 in
/-- put's loop -/
theorem lp_put {p : Program} {l : Launch} {e : Env} {R : Room} {s : State} {m : MethodId} {args : Array Value} {below : List Frame} {meth : Method} {c : Code} {cells slots : Nat} {Q : State → Prop} {dC : Nat → ClassId} {dI : Nat → Nat → Nat} {dA : ClassId} {A : Nat → Prop} {H0 : Heap} {o r z : Nat} {g : Nat → Int32} {v : Int32} (hx : p.tables.exec = Jvm.exec) (hb : c.code = cX3_put) (hml : c.maxLocals = 3) (hown : s.vm.findClass RX3 = some m.cls) (hts : ∀ w ∈ lw_all, w.before args s = true) (hK : va_K (dC, dI) vwCl [(dA, .int)] s) (hA : ∀ q : Nat, H0.size ≤ q → A q) (hz : z < 200) (k9 : ∀ (k : Nat) (g' : Nat → Int32) (H : Heap) (locs : List Loc) (ls : Array Slot), aq_Pt g g' z k v → (∀ i, k = i + 1 → g' i ≤ v) → va_P (dC, dI) vwCl [(o, .inr (2, [.ref r, .int (nI z)])), (r, .inl (dA, 200, .inl g'))] H → va_D A [(o, .inr (2, [.ref r, .int (nI z)])), (r, .inl (dA, 200, .inl g'))] → va_S A H0 H locs → lv_has ls 3 [(0, .ref o), (1, .int v), (2, .int (nI k))] → W p l e R s m args below meth c H locs cells slots Q (F0 m 41 ls [])) : ∀ (k : Nat) (g' : Nat → Int32) (H : Heap) (locs : List Loc) (ls : Array Slot), aq_Pt g g' z k v → va_P (dC, dI) vwCl [(o, .inr (2, [.ref r, .int (nI z)])), (r, .inl (dA, 200, .inl g'))] H → va_D A [(o, .inr (2, [.ref r, .int (nI z)])), (r, .inl (dA, 200, .inl g'))] → va_S A H0 H locs → lv_has ls 3 [(0, .ref o), (1, .int v), (2, .int (nI k))] → W p l e R s m args below meth c H locs cells slots Q (F0 m 5 ls []) := by
  intro k
  induction k with
  | zero =>
    intro g' H locs ls hp hP hD hS hl
    refine lv_iload_n hx hb dX3_put_5 rfl (lv_at hl 2 rfl) ?_
    refine lv_if_le (tgt := 41) hx hb dX3_put_6 (by decide) (fun _ => ?_) (fun hn9 => absurd (show nI 0 ≤ 0 by decide) hn9)
    exact k9 0 g' H locs ls hp (fun i q => absurd q (by omega)) hP hD hS hl
  | succ k ih =>
    intro g' H locs ls hp hP hD hS hl
    have hp1 := hp.1
    refine lv_iload_n hx hb dX3_put_5 rfl (lv_at hl 2 rfl) ?_
    refine lv_if_le (tgt := 41) hx hb dX3_put_6 (by decide) (fun hn9 => absurd hn9 (nI_nle (Nat.succ_pos k) (by omega))) (fun _ => ?_)
    refine lv_aload_n hx hb dX3_put_9 rfl (lv_at hl 0 rfl) ?_
    refine va_get (D := (dC, dI)) (ci := 2) (v := .ref r) (C := RX3) (T := TX3) (N := 2) hx hb hts in_X3 hown hK hP 0 rfl rfl 0 (by decide) (hts _ q209) (fun _ h9 => h9) rfl dX3_put_10 ?_
    refine lv_iload_n hx hb dX3_put_13 rfl (lv_at hl 2 rfl) ?_
    refine lv_iconst (v := 1) hx hb dX3_put_14 (by decide) ?_
    refine lv_isub hx hb dX3_put_15 ?_
    refine aq_asi (y := nI k) (nI_pred k) ?_
    refine va_iald hx hb hK hP 1 0 rfl rfl (i := nI k) (vp_in_nI (by omega) (by omega)) dX3_put_16 ?_
    refine aq_asi (y := g' k) (by rw [nI_clamp (by omega)]) ?_
    refine lv_iload_n hx hb dX3_put_17 rfl (lv_at hl 1 rfl) ?_
    refine lv_icmp_le (tgt := 41) hx hb dX3_put_18 (by decide) (fun hc => ?_) (fun hc => ?_)
    · refine k9 (k + 1) g' H locs ls hp (fun i q => ?_) hP hD hS hl
      have q9 : i = k := by omega
      rw [q9]
      exact hc
    · refine lv_aload_n hx hb dX3_put_21 rfl (lv_at hl 0 rfl) ?_
      refine va_get (D := (dC, dI)) (ci := 2) (v := .ref r) (C := RX3) (T := TX3) (N := 2) hx hb hts in_X3 hown hK hP 0 rfl rfl 0 (by decide) (hts _ q209) (fun _ h9 => h9) rfl dX3_put_22 ?_
      refine lv_iload_n hx hb dX3_put_25 rfl (lv_at hl 2 rfl) ?_
      refine lv_aload_n hx hb dX3_put_26 rfl (lv_at hl 0 rfl) ?_
      refine va_get (D := (dC, dI)) (ci := 2) (v := .ref r) (C := RX3) (T := TX3) (N := 2) hx hb hts in_X3 hown hK hP 0 rfl rfl 0 (by decide) (hts _ q209) (fun _ h9 => h9) rfl dX3_put_27 ?_
      refine lv_iload_n hx hb dX3_put_30 rfl (lv_at hl 2 rfl) ?_
      refine lv_iconst (v := 1) hx hb dX3_put_31 (by decide) ?_
      refine lv_isub hx hb dX3_put_32 ?_
      refine aq_asi (y := nI k) (nI_pred k) ?_
      refine va_iald hx hb hK hP 1 0 rfl rfl (i := nI k) (vp_in_nI (by omega) (by omega)) dX3_put_33 ?_
      refine aq_asi (y := g' k) (by rw [nI_clamp (by omega)]) ?_
      refine va_iast hx hb hK hP hD hS 1 0 rfl rfl (i := nI (k + 1)) (vp_in_nI (by omega) (by omega)) dX3_put_34 (fun H locs hP hD hS => ?_)
      rw [nI_clamp (show (k + 1) < 2 ^ 31 by omega)] at hP hD
      have hP : va_P (dC, dI) vwCl [(o, .inr (2, [.ref r, .int (nI z)])), (r, .inl (dA, 200, .inl (upd g' (k + 1) (g' k))))] H := hP
      have hD : va_D A [(o, .inr (2, [.ref r, .int (nI z)])), (r, .inl (dA, 200, .inl (upd g' (k + 1) (g' k))))] := hD
      refine lv_iinc (v := nI k) (lv' := [(2, .int (nI k)), (0, .ref o), (1, .int v)]) hx hb dX3_put_35 hl (k := 2) rfl (aq_decS k) (by decide) rfl (fun ls hl => ?_)
      refine lv_goto (tgt := 5) hx hb dX3_put_38 (by decide) ?_
      exact ih (upd g' (k + 1) (g' k)) H locs ls (hp.step (aq_nle hc)) hP hD hS (lv_sub hl [1, 2, 0] rfl)

set_option maxHeartbeats 4000000 in
set_option maxRecDepth 100000 in
/-- put(v) -/
theorem met_mput (l : Launch) (dC : Nat → ClassId) (dI : Nat → Nat → Nat) (dA : ClassId) (o r sz z : Nat) (g : Nat → Int32) (L : List Int32) (v : Int32) (hz : z < 200) (hM : aq_M L g z) : Met l yX3_put (ws_ yX3_put cX3_put 3 none) ({ frames := 0, cells := 0, slots := 0, locals := 0 } : Room) (va_Pc [.ref o, .int v] (fun U => U.heap.size = sz ∧ va_P (dC, dI) vwCl [(o, .inr (2, [.ref r, .int (nI z)])), (r, .inl (dA, 200, .inl g))] U.heap ∧ va_K (dC, dI) vwCl [(dA, .int)] U ∧ va_D (fun _ => True) [(o, .inr (2, [.ref r, .int (nI z)])), (r, .inl (dA, 200, .inl g))])) (va_Qv (fun _ : Unit => True) (fun (_ : Unit) t => aq_BM dC dI dA (va_A [(o, .inr (2, [.ref r, .int (nI z)])), (r, .inl (dA, 200, .inl g))] sz) o r (v :: L) t) (va_A [(o, .inr (2, [.ref r, .int (nI z)])), (r, .inl (dA, 200, .inl g))] sz)) 0 0 (va_A [(o, .inr (2, [.ref r, .int (nI z)])), (r, .inl (dA, 200, .inl g))] sz) := by
  refine Met.ofW (cc := cX3_put) (maxL := 3) (ret := none) (by decide) rfl ?_
  intro p e s m args below meth c s₁ B hml hv
  obtain ⟨rfl, hsz, hP, hK, hD0⟩ := hv
  have hx := B.exec
  have hb := B.bytes
  have hr := B.returns
  have hts := atoms_spec (ws := ws_ yX3_put cX3_put 3 none) B.pre
  have hts : ∀ w ∈ lw_all, w.before _ s = true := fun w h => hts w (List.mem_cons_of_mem _ h)
  have hown : s.vm.findClass RX3 = some m.cls := findClass_of_methodNamed B.named
  have hlocks := B.notSynchronized
  subst hsz
  have hD := hD0.self (sz := s.heap.size)
  generalize hAe : va_A [(o, .inr (2, [.ref r, .int (nI z)])), (r, .inl (dA, 200, .inl g))] s.heap.size = A at hD ⊢
  have hA : ∀ q : Nat, s.heap.size ≤ q → A q := fun q h => by rw [← hAe]; exact Or.inr h
  have hS : va_S A s.heap s.heap [] := va_S.rf
  have hP : va_P (dC, dI) vwCl [(o, .inr (2, [.ref r, .int (nI z)])), (r, .inl (dA, 200, .inl g))] s.heap := hP
  have hl := lv_entry ([.ref o, .int v]) (n := 3) (Nat.le_of_ble_eq_true rfl)
  rw [lg_entry_eq]
  generalize (lg_sl ([.ref o, .int v]) ++ List.replicate (3 - (lg_sl ([.ref o, .int v])).length) Slot.unset).toArray = ls at hl ⊢
  have hl : lv_has ls 3 [(0, .ref o), (1, .int v)] := hl
  refine lv_aload_n hx hb dX3_put_0 rfl (lv_at hl 0 rfl) ?_
  refine va_get (D := (dC, dI)) (ci := 2) (v := .int (nI z)) (C := RX3) (T := TX3) (N := 2) hx hb hts in_X3 hown hK hP 0 rfl rfl 1 (by decide) (hts _ q210) (fun _ h9 => h9) rfl dX3_put_1 ?_
  refine lv_istore_n (lv' := [(2, .int (nI z)), (0, .ref o), (1, .int v)]) hx hb dX3_put_4 rfl hl (by decide) rfl (fun ls hl => ?_)
  have hl : lv_has ls 3 [(0, .ref o), (1, .int v), (2, .int (nI z))] := lv_sub hl [1, 2, 0] rfl
  refine lp_put hx hb hml hown hts hK hA hz (fun k g' H locs ls hp hk hP hD hS hl => ?_) z g _ _ ls (aq_Pt_0 g z v) hP hD hS hl
  have hp1 := hp.1
  refine lv_aload_n hx hb dX3_put_41 rfl (lv_at hl 0 rfl) ?_
  refine va_get (D := (dC, dI)) (ci := 2) (v := .ref r) (C := RX3) (T := TX3) (N := 2) hx hb hts in_X3 hown hK hP 0 rfl rfl 0 (by decide) (hts _ q209) (fun _ h9 => h9) rfl dX3_put_42 ?_
  refine lv_iload_n hx hb dX3_put_45 rfl (lv_at hl 2 rfl) ?_
  refine lv_iload_n hx hb dX3_put_46 rfl (lv_at hl 1 rfl) ?_
  refine va_iast hx hb hK hP hD hS 1 0 rfl rfl (i := nI k) (vp_in_nI (by omega) (by omega)) dX3_put_47 (fun H locs hP hD hS => ?_)
  rw [nI_clamp (show k < 2 ^ 31 by omega)] at hP hD
  have hP : va_P (dC, dI) vwCl [(o, .inr (2, [.ref r, .int (nI z)])), (r, .inl (dA, 200, .inl (upd g' k v)))] H := hP
  have hD : va_D A [(o, .inr (2, [.ref r, .int (nI z)])), (r, .inl (dA, 200, .inl (upd g' k v)))] := hD
  refine lv_aload_n hx hb dX3_put_48 rfl (lv_at hl 0 rfl) ?_
  refine lv_dup hx hb dX3_put_49 rfl ?_
  refine va_get (D := (dC, dI)) (ci := 2) (v := .int (nI z)) (C := RX3) (T := TX3) (N := 2) hx hb hts in_X3 hown hK hP 0 rfl rfl 1 (by decide) (hts _ q210) (fun _ h9 => h9) rfl dX3_put_50 ?_
  refine lv_iconst (v := 1) hx hb dX3_put_53 (by decide) ?_
  refine lv_iadd hx hb dX3_put_54 ?_
  refine aq_asi (y := nI (z + 1)) (nI_1 z) ?_
  refine va_put (D := (dC, dI)) (ci := 2) (v := .int (nI (z + 1))) (ty := .int) (C := RX3) (T := TX3) (N := 2) hx hb hts in_X3 tyX3 tyX3_ok nmX3 hown hK hP hD hS 0 rfl rfl 1 (by decide) (hts _ q210) (fun _ h9 => h9) rfl (by decide +kernel) rfl rfl (Nat.le_of_ble_eq_true rfl) dX3_put_55 (fun H locs hP hD hS => ?_)
  have hP : va_P (dC, dI) vwCl [(o, .inr (2, [.ref r, .int (nI (z + 1))])), (r, .inl (dA, 200, .inl (upd g' k v)))] H := hP
  have hD : va_D A [(o, .inr (2, [.ref r, .int (nI (z + 1))])), (r, .inl (dA, 200, .inl (upd g' k v)))] := hD
  have hP9 := hP.sub (ws' := [(o, .inr (2, [.ref r, .int (nI (z + 1))])), (r, .inl (dA, 200, .inl (upd g' k v)))]) [0, 1] rfl
  have hD9 := hD.sub (ws' := [(o, .inr (2, [.ref r, .int (nI (z + 1))])), (r, .inl (dA, 200, .inl (upd g' k v)))]) [0, 1] (by decide) rfl
  have hK9 := hK.sub (tys' := [(dA, .int)]) [0] rfl
  exact W.vret hx hb hr (fun t ht hW => ⟨⟨(), rfl, trivial, ⟨upd g' k v, z + 1, hM.put hz hp hk, by rw [ht]; exact hP9, va_K.moved hW.alike hK9, hD9⟩⟩, hS.F ht⟩) hS.2.2 dX3_put_58

set_option maxHeartbeats 4000000 in
set_option maxRecDepth 100000 in
/-- first's loop -/
theorem lp_first {p : Program} {l : Launch} {e : Env} {R : Room} {s : State} {m : MethodId} {args : Array Value} {below : List Frame} {meth : Method} {c : Code} {cells slots : Nat} {Q : State → Prop} {dC : Nat → ClassId} {dI : Nat → Nat → Nat} {dA : ClassId} {A : Nat → Prop} {H0 : Heap} {o r z : Nat} {g : Nat → Int32} {v : Int32} (hx : p.tables.exec = Jvm.exec) (hb : c.code = cX3_first) (hml : c.maxLocals = 3) (hown : s.vm.findClass RX3 = some m.cls) (hts : ∀ w ∈ lw_all, w.before args s = true) (hK : va_K (dC, dI) vwCl [(dA, .int)] s) (hA : ∀ q : Nat, H0.size ≤ q → A q) (hz : z < 200) (k9 : ∀ (g' : Nat → Int32) (H : Heap) (locs : List Loc) (ls : Array Slot), aq_Ft g g' (z + 1) → va_P (dC, dI) vwCl [(o, .inr (2, [.ref r, .int (nI (z + 1))])), (r, .inl (dA, 200, .inl g'))] H → va_D A [(o, .inr (2, [.ref r, .int (nI (z + 1))])), (r, .inl (dA, 200, .inl g'))] → va_S A H0 H locs → lv_has ls 3 [(0, .ref o), (1, .int v)] → W p l e R s m args below meth c H locs cells slots Q (F0 m 37 ls [])) : ∀ (d k : Nat) (g' : Nat → Int32) (H : Heap) (locs : List Loc) (ls : Array Slot), k + d = z → aq_Ft g g' (k + 1) → va_P (dC, dI) vwCl [(o, .inr (2, [.ref r, .int (nI (z + 1))])), (r, .inl (dA, 200, .inl g'))] H → va_D A [(o, .inr (2, [.ref r, .int (nI (z + 1))])), (r, .inl (dA, 200, .inl g'))] → va_S A H0 H locs → lv_has ls 3 [(0, .ref o), (1, .int v), (2, .int (nI (k + 1)))] → W p l e R s m args below meth c H locs cells slots Q (F0 m 9 ls []) := by
  intro d
  induction d with
  | zero =>
    intro k g' H locs ls hkd hf hP hD hS hl
    refine lv_iload_n hx hb dX3_first_9 rfl (lv_at hl 2 rfl) ?_
    refine lv_aload_n hx hb dX3_first_10 rfl (lv_at hl 0 rfl) ?_
    refine va_get (D := (dC, dI)) (ci := 2) (v := .int (nI (z + 1))) (C := RX3) (T := TX3) (N := 2) hx hb hts in_X3 hown hK hP 0 rfl rfl 1 (by decide) (hts _ q210) (fun _ h9 => h9) rfl dX3_first_11 ?_
    refine lv_icmp_ge (tgt := 37) hx hb dX3_first_14 (by decide) (fun _ => ?_) (fun hn9 => absurd (nI_le (by omega) (by omega)) hn9)
    have q9 : k = z := by omega
    rw [q9] at hf
    exact k9 g' H locs ls hf hP hD hS (lv_sub hl [0, 1] rfl)
  | succ d ih =>
    intro k g' H locs ls hkd hf hP hD hS hl
    refine lv_iload_n hx hb dX3_first_9 rfl (lv_at hl 2 rfl) ?_
    refine lv_aload_n hx hb dX3_first_10 rfl (lv_at hl 0 rfl) ?_
    refine va_get (D := (dC, dI)) (ci := 2) (v := .int (nI (z + 1))) (C := RX3) (T := TX3) (N := 2) hx hb hts in_X3 hown hK hP 0 rfl rfl 1 (by decide) (hts _ q210) (fun _ h9 => h9) rfl dX3_first_11 ?_
    refine lv_icmp_ge (tgt := 37) hx hb dX3_first_14 (by decide) (fun hn9 => absurd hn9 (nI_ge (by omega) (by omega))) (fun _ => ?_)
    refine lv_aload_n hx hb dX3_first_17 rfl (lv_at hl 0 rfl) ?_
    refine va_get (D := (dC, dI)) (ci := 2) (v := .ref r) (C := RX3) (T := TX3) (N := 2) hx hb hts in_X3 hown hK hP 0 rfl rfl 0 (by decide) (hts _ q209) (fun _ h9 => h9) rfl dX3_first_18 ?_
    refine lv_iload_n hx hb dX3_first_21 rfl (lv_at hl 2 rfl) ?_
    refine lv_iconst (v := 1) hx hb dX3_first_22 (by decide) ?_
    refine lv_isub hx hb dX3_first_23 ?_
    refine aq_asi (y := nI k) (nI_pred k) ?_
    refine lv_aload_n hx hb dX3_first_24 rfl (lv_at hl 0 rfl) ?_
    refine va_get (D := (dC, dI)) (ci := 2) (v := .ref r) (C := RX3) (T := TX3) (N := 2) hx hb hts in_X3 hown hK hP 0 rfl rfl 0 (by decide) (hts _ q209) (fun _ h9 => h9) rfl dX3_first_25 ?_
    refine lv_iload_n hx hb dX3_first_28 rfl (lv_at hl 2 rfl) ?_
    refine va_iald hx hb hK hP 1 0 rfl rfl (i := nI (k + 1)) (vp_in_nI (by omega) (by omega)) dX3_first_29 ?_
    refine aq_asi (y := g' (k + 1)) (by rw [nI_clamp (by omega)]) ?_
    refine va_iast hx hb hK hP hD hS 1 0 rfl rfl (i := nI k) (vp_in_nI (by omega) (by omega)) dX3_first_30 (fun H locs hP hD hS => ?_)
    rw [nI_clamp (show k < 2 ^ 31 by omega)] at hP hD
    have hP : va_P (dC, dI) vwCl [(o, .inr (2, [.ref r, .int (nI (z + 1))])), (r, .inl (dA, 200, .inl (upd g' k (g' (k + 1)))))] H := hP
    have hD : va_D A [(o, .inr (2, [.ref r, .int (nI (z + 1))])), (r, .inl (dA, 200, .inl (upd g' k (g' (k + 1)))))] := hD
    refine lv_iinc (v := nI (k + 1 + 1)) (lv' := [(2, .int (nI (k + 1 + 1))), (0, .ref o), (1, .int v)]) hx hb dX3_first_31 hl (k := 2) rfl (aq_incS (k + 1)) (by decide) rfl (fun ls hl => ?_)
    refine lv_goto (tgt := 9) hx hb dX3_first_34 (by decide) ?_
    exact ih (k + 1) (upd g' k (g' (k + 1))) H locs ls (by omega) hf.step hP hD hS (lv_sub hl [1, 2, 0] rfl)

set_option maxHeartbeats 4000000 in
set_option maxRecDepth 100000 in
/-- first() -/
theorem met_mfirst (l : Launch) (dC : Nat → ClassId) (dI : Nat → Nat → Nat) (dA : ClassId) (o r sz z : Nat) (g : Nat → Int32) (L : List Int32) (hM : aq_M L g (z + 1)) : Met l yX3_first (ws_ yX3_first cX3_first 3 (some .int)) ({ frames := 0, cells := 0, slots := 0, locals := 0 } : Room) (va_Pc [.ref o] (fun U => U.heap.size = sz ∧ va_P (dC, dI) vwCl [(o, .inr (2, [.ref r, .int (nI (z + 1))])), (r, .inl (dA, 200, .inl g))] U.heap ∧ va_K (dC, dI) vwCl [(dA, .int)] U ∧ va_D (fun _ => True) [(o, .inr (2, [.ref r, .int (nI (z + 1))])), (r, .inl (dA, 200, .inl g))])) (va_Qi (fun (x : Int32) (_ : Unit) => x = aq_min L) (fun (_ : Unit) t => aq_BM dC dI dA (va_A [(o, .inr (2, [.ref r, .int (nI (z + 1))])), (r, .inl (dA, 200, .inl g))] sz) o r (L.erase (aq_min L)) t) (va_A [(o, .inr (2, [.ref r, .int (nI (z + 1))])), (r, .inl (dA, 200, .inl g))] sz)) 0 0 (va_A [(o, .inr (2, [.ref r, .int (nI (z + 1))])), (r, .inl (dA, 200, .inl g))] sz) := by
  refine Met.ofW (cc := cX3_first) (maxL := 3) (ret := (some .int)) (by decide) rfl ?_
  intro p e s m args below meth c s₁ B hml hv
  obtain ⟨rfl, hsz, hP, hK, hD0⟩ := hv
  have hx := B.exec
  have hb := B.bytes
  have hr := B.returns
  have hts := atoms_spec (ws := ws_ yX3_first cX3_first 3 (some .int)) B.pre
  have hts : ∀ w ∈ lw_all, w.before _ s = true := fun w h => hts w (List.mem_cons_of_mem _ h)
  have hown : s.vm.findClass RX3 = some m.cls := findClass_of_methodNamed B.named
  have hlocks := B.notSynchronized
  subst hsz
  have hD := hD0.self (sz := s.heap.size)
  generalize hAe : va_A [(o, .inr (2, [.ref r, .int (nI (z + 1))])), (r, .inl (dA, 200, .inl g))] s.heap.size = A at hD ⊢
  have hA : ∀ q : Nat, s.heap.size ≤ q → A q := fun q h => by rw [← hAe]; exact Or.inr h
  have hS : va_S A s.heap s.heap [] := va_S.rf
  have hP : va_P (dC, dI) vwCl [(o, .inr (2, [.ref r, .int (nI (z + 1))])), (r, .inl (dA, 200, .inl g))] s.heap := hP
  have hl := lv_entry ([.ref o]) (n := 3) (Nat.le_of_ble_eq_true rfl)
  rw [lg_entry_eq]
  generalize (lg_sl ([.ref o]) ++ List.replicate (3 - (lg_sl ([.ref o])).length) Slot.unset).toArray = ls at hl ⊢
  have hl : lv_has ls 3 [(0, .ref o)] := hl
  have hz := hM.1
  refine lv_aload_n hx hb dX3_first_0 rfl (lv_at hl 0 rfl) ?_
  refine va_get (D := (dC, dI)) (ci := 2) (v := .ref r) (C := RX3) (T := TX3) (N := 2) hx hb hts in_X3 hown hK hP 0 rfl rfl 0 (by decide) (hts _ q209) (fun _ h9 => h9) rfl dX3_first_1 ?_
  refine lv_iconst (v := 0) hx hb dX3_first_4 (by decide) ?_
  refine va_iald hx hb hK hP 1 0 rfl rfl (i := nI 0) (vp_in_nI (by omega) (by omega)) dX3_first_5 ?_
  refine aq_asi (y := g 0) (by rw [nI_clamp (by omega)]) ?_
  refine lv_istore_n (lv' := [(1, .int (g 0)), (0, .ref o)]) hx hb dX3_first_6 rfl hl (by decide) rfl (fun ls hl => ?_)
  refine lv_iconst (v := 1) hx hb dX3_first_7 (by decide) ?_
  refine aq_asi (y := nI (0 + 1)) (rfl) ?_
  refine lv_istore_n (lv' := [(2, .int (nI (0 + 1))), (1, .int (g 0)), (0, .ref o)]) hx hb dX3_first_8 rfl hl (by decide) rfl (fun ls hl => ?_)
  have hl : lv_has ls 3 [(0, .ref o), (1, .int (g 0)), (2, .int (nI (0 + 1)))] := lv_sub hl [2, 1, 0] rfl
  refine lp_first hx hb hml hown hts hK hA (show z < 200 by omega) (fun g' H locs ls hf hP hD hS hl => ?_) z 0 g _ _ ls (Nat.zero_add z) (aq_Ft_1 g) hP hD hS hl
  refine lv_aload_n hx hb dX3_first_37 rfl (lv_at hl 0 rfl) ?_
  refine lv_dup hx hb dX3_first_38 rfl ?_
  refine va_get (D := (dC, dI)) (ci := 2) (v := .int (nI (z + 1))) (C := RX3) (T := TX3) (N := 2) hx hb hts in_X3 hown hK hP 0 rfl rfl 1 (by decide) (hts _ q210) (fun _ h9 => h9) rfl dX3_first_39 ?_
  refine lv_iconst (v := 1) hx hb dX3_first_42 (by decide) ?_
  refine lv_isub hx hb dX3_first_43 ?_
  refine aq_asi (y := nI z) (nI_pred z) ?_
  refine va_put (D := (dC, dI)) (ci := 2) (v := .int (nI z)) (ty := .int) (C := RX3) (T := TX3) (N := 2) hx hb hts in_X3 tyX3 tyX3_ok nmX3 hown hK hP hD hS 0 rfl rfl 1 (by decide) (hts _ q210) (fun _ h9 => h9) rfl (by decide +kernel) rfl rfl (Nat.le_of_ble_eq_true rfl) dX3_first_44 (fun H locs hP hD hS => ?_)
  have hP : va_P (dC, dI) vwCl [(o, .inr (2, [.ref r, .int (nI z)])), (r, .inl (dA, 200, .inl g'))] H := hP
  have hD : va_D A [(o, .inr (2, [.ref r, .int (nI z)])), (r, .inl (dA, 200, .inl g'))] := hD
  refine lv_iload_n hx hb dX3_first_47 rfl (lv_at hl 1 rfl) ?_
  have hP9 := hP.sub (ws' := [(o, .inr (2, [.ref r, .int (nI z)])), (r, .inl (dA, 200, .inl g'))]) [0, 1] rfl
  have hD9 := hD.sub (ws' := [(o, .inr (2, [.ref r, .int (nI z)])), (r, .inl (dA, 200, .inl g'))]) [0, 1] (by decide) rfl
  have hK9 := hK.sub (tys' := [(dA, .int)]) [0] rfl
  exact W.iret (v := g 0) hx hb hr (fun t ht hW => ⟨⟨g 0, (), rfl, hM.least (Nat.succ_pos z), ⟨g', z, hM.first hf, by rw [ht]; exact hP9, va_K.moved hW.alike hK9, hD9⟩⟩, hS.F ht⟩) hS.2.2 dX3_first_48

set_option maxHeartbeats 4000000 in
set_option maxRecDepth 100000 in
/-- enter(v) -/
theorem met_menter (l : Launch) (dC : Nat → ClassId) (dI : Nat → Nat → Nat) (dA : ClassId) (o r sz z : Nat) (g : Nat → Int32) (L : List Int32) (v : Int32) (hM : aq_M L g z) : Met l yX3_enter (ws_ yX3_enter cX3_enter 2 (some .boolean)) ({ frames := 1, cells := 0, slots := 0, locals := 60 } : Room) (va_Pc [.ref o, .int v] (fun U => U.heap.size = sz ∧ va_P (dC, dI) vwCl [(o, .inr (2, [.ref r, .int (nI z)])), (r, .inl (dA, 200, .inl g))] U.heap ∧ va_K (dC, dI) vwCl [(dA, .int)] U ∧ va_D (fun _ => True) [(o, .inr (2, [.ref r, .int (nI z)])), (r, .inl (dA, 200, .inl g))])) (va_Qi (fun (x : Int32) (_ : Unit) => x = if L.length < 200 then 1 else 0) (fun (_ : Unit) t => aq_BM dC dI dA (va_A [(o, .inr (2, [.ref r, .int (nI z)])), (r, .inl (dA, 200, .inl g))] sz) o r (if L.length < 200 then v :: L else L) t) (va_A [(o, .inr (2, [.ref r, .int (nI z)])), (r, .inl (dA, 200, .inl g))] sz)) 0 0 (va_A [(o, .inr (2, [.ref r, .int (nI z)])), (r, .inl (dA, 200, .inl g))] sz) := by
  refine Met.ofW (cc := cX3_enter) (maxL := 2) (ret := (some .boolean)) (by decide) rfl ?_
  intro p e s m args below meth c s₁ B hml hv
  obtain ⟨rfl, hsz, hP, hK, hD0⟩ := hv
  have hx := B.exec
  have hb := B.bytes
  have hr := B.returns
  have hts := atoms_spec (ws := ws_ yX3_enter cX3_enter 2 (some .boolean)) B.pre
  have hts : ∀ w ∈ lw_all, w.before _ s = true := fun w h => hts w (List.mem_cons_of_mem _ h)
  have hown : s.vm.findClass RX3 = some m.cls := findClass_of_methodNamed B.named
  have hlocks := B.notSynchronized
  subst hsz
  have hD := hD0.self (sz := s.heap.size)
  generalize hAe : va_A [(o, .inr (2, [.ref r, .int (nI z)])), (r, .inl (dA, 200, .inl g))] s.heap.size = A at hD ⊢
  have hA : ∀ q : Nat, s.heap.size ≤ q → A q := fun q h => by rw [← hAe]; exact Or.inr h
  have hS : va_S A s.heap s.heap [] := va_S.rf
  have hP : va_P (dC, dI) vwCl [(o, .inr (2, [.ref r, .int (nI z)])), (r, .inl (dA, 200, .inl g))] s.heap := hP
  have hl := lv_entry ([.ref o, .int v]) (n := 2) (Nat.le_of_ble_eq_true rfl)
  rw [lg_entry_eq]
  generalize (lg_sl ([.ref o, .int v]) ++ List.replicate (2 - (lg_sl ([.ref o, .int v])).length) Slot.unset).toArray = ls at hl ⊢
  have hl : lv_has ls 2 [(0, .ref o), (1, .int v)] := hl
  have hlen : L.length = z := hM.len
  have hz := hM.1
  refine lv_aload_n hx hb dX3_enter_0 rfl (lv_at hl 0 rfl) ?_
  refine va_get (D := (dC, dI)) (ci := 2) (v := .int (nI z)) (C := RX3) (T := TX3) (N := 2) hx hb hts in_X3 hown hK hP 0 rfl rfl 1 (by decide) (hts _ q210) (fun _ h9 => h9) rfl dX3_enter_1 ?_
  refine lv_sipush (v := 200) hx hb dX3_enter_4 (by decide) ?_
  by_cases hz2 : z < 200
  · refine lv_icmp_lt (tgt := 12) hx hb dX3_enter_7 (by decide) (fun _ => ?_) (fun hn9 => absurd (show nI z < nI 200 from nI_lt hz2 (by omega)) hn9)
    refine lv_aload_n hx hb dX3_enter_12 rfl (lv_at hl 0 rfl) ?_
    refine lv_iload_n hx hb dX3_enter_13 rfl (lv_at hl 1 rfl) ?_
    have hPc := hP.sub (ws' := [(o, .inr (2, [.ref r, .int (nI z)])), (r, .inl (dA, 200, .inl g))]) [0, 1] rfl
    have hDc := hD.sub (ws' := [(o, .inr (2, [.ref r, .int (nI z)])), (r, .inl (dA, 200, .inl g))]) [0, 1] (by decide) rfl
    have hKc := hK.sub (tys' := [(dA, .int)]) [0] rfl
    have hFc := va_free (wc := [(o, .inr (2, [.ref r, .int (nI z)])), (r, .inl (dA, 200, .inl g))]) hD hS hA [0, 1] rfl
    refine va_callv (va_runV (As := [.int v]) (rest := []) ⟨hx, hb, hml, hown, hts⟩ (met_mput l dC dI dA o r s.heap.size z g L v hz2 hM) (cwV 1 hts (lw_V q220 q222 qs3 q9 q223) rfl rfl rfl (by decide +kernel) ⟨Nat.le_of_ble_eq_true rfl, Nat.le_of_ble_eq_true rfl⟩) ⟨fun a U g mk q => by obtain ⟨q0, q1, qP, qK, qD⟩ := q; exact ⟨q0, q1, qP, va_K.moved (u := U) (U := U.calling g mk a) (Vm.Alike.refl U.vm) qK, qD⟩, va_recv hKc hPc (ci := 2) (q0 := 0) rfl rfl, fun U hU hW => ⟨rfl, by rw [hU], by rw [hU]; exact hPc, va_K.moved hW.alike hKc, hDc.weaken (fun _ _ _ _ => trivial)⟩⟩ rfl rfl hl.1 rfl (lv_room (Nat.le_of_ble_eq_true rfl)) dX3_enter_14 ⟨Nat.le_of_ble_eq_true rfl, Nat.le_of_ble_eq_true rfl⟩) hS (fun q _ h => hFc q h) hFc (fun _u t H locs ht hvm hw hB hz1 hk1 hS => ?_)
    obtain ⟨g2, z2, hM2, hP1, hK1, hD1⟩ := hB
    rw [ht] at hP1
    obtain ⟨hP, hD⟩ := va_join (wr := []) (w1 := [(o, .inr (2, [.ref r, .int (nI z2)])), (r, .inl (dA, 200, .inl g2))]) hP hD [0, 1] [] rfl rfl (by decide) (by decide) hk1 hFc hP1 hD1
    have hP : va_P (dC, dI) vwCl [(o, .inr (2, [.ref r, .int (nI z2)])), (r, .inl (dA, 200, .inl g2))] H := hP
    have hD : va_D A [(o, .inr (2, [.ref r, .int (nI z2)])), (r, .inl (dA, 200, .inl g2))] := hD
    refine lv_iconst (v := 1) hx hb dX3_enter_17 (by decide) ?_
    have hP9 := hP.sub (ws' := [(o, .inr (2, [.ref r, .int (nI z2)])), (r, .inl (dA, 200, .inl g2))]) [0, 1] rfl
    have hD9 := hD.sub (ws' := [(o, .inr (2, [.ref r, .int (nI z2)])), (r, .inl (dA, 200, .inl g2))]) [0, 1] (by decide) rfl
    have hK9 := hK.sub (tys' := [(dA, .int)]) [0] rfl
    exact W.zret (v := 1) hx hb hr rfl (fun t ht hW => ⟨⟨1, (), rfl, by rw [if_pos (by omega)], by rw [if_pos (by omega)]; exact ⟨g2, z2, hM2, by rw [ht]; exact hP9, va_K.moved hW.alike hK9, hD9⟩⟩, hS.F ht⟩) hS.2.2 dX3_enter_18
  · refine lv_icmp_lt (tgt := 12) hx hb dX3_enter_7 (by decide) (fun hn9 => absurd hn9 (show ¬ nI z < nI 200 from nI_nlt (by omega) (by omega))) (fun _ => ?_)
    refine lv_iconst (v := 0) hx hb dX3_enter_10 (by decide) ?_
    have hP9 := hP.sub (ws' := [(o, .inr (2, [.ref r, .int (nI z)])), (r, .inl (dA, 200, .inl g))]) [0, 1] rfl
    have hD9 := hD.sub (ws' := [(o, .inr (2, [.ref r, .int (nI z)])), (r, .inl (dA, 200, .inl g))]) [0, 1] (by decide) rfl
    have hK9 := hK.sub (tys' := [(dA, .int)]) [0] rfl
    exact W.zret (v := 0) hx hb hr rfl (fun t ht hW => ⟨⟨0, (), rfl, by rw [if_neg (by omega)], by rw [if_neg (by omega)]; exact ⟨g, z, hM, by rw [ht]; exact hP9, va_K.moved hW.alike hK9, hD9⟩⟩, hS.F ht⟩) hS.2.2 dX3_enter_11

set_option maxHeartbeats 4000000 in
set_option maxRecDepth 100000 in
/-- many's loop: k are in, d are wanted -/
theorem lp_mmany {p : Program} {l : Launch} {e : Env} {R : Room} {s : State} {m : MethodId} {args : Array Value} {below : List Frame} {meth : Method} {c : Code} {cells slots : Nat} {Q : State → Prop} {dC : Nat → ClassId} {dI : Nat → Nat → Nat} {dA : ClassId} {A : Nat → Prop} {H0 : Heap} {o r : Nat} {fr st : Int32} (hx : p.tables.exec = Jvm.exec) (hb : c.code = cX3_many) (hml : c.maxLocals = 6) (hown : s.vm.findClass RX3 = some m.cls) (hts : ∀ w ∈ lw_all, w.before args s = true) (hK : va_K (dC, dI) vwCl [(dA, .int)] s) (hA : ∀ q : Nat, H0.size ≤ q → A q) (hRf : 1 ≤ R.frames) (hRl : 60 ≤ R.locals) (hRc : cells ≤ R.cells) (hRs : slots ≤ R.slots) : ∀ (d k : Nat) (L : List Int32) (z : Nat) (g : Nat → Int32) (H : Heap) (locs : List Loc) (ls : Array Slot), k + d < 16 → aq_M L g z → va_P (dC, dI) vwCl [(o, .inr (2, [.ref r, .int (nI z)])), (r, .inl (dA, 200, .inl g))] H → va_D A [(o, .inr (2, [.ref r, .int (nI z)])), (r, .inl (dA, 200, .inl g))] → va_S A H0 H locs → lv_has ls 6 [(0, .ref o), (1, .int fr), (2, .int st), (4, .int (nI (k + d))), (5, .int (nI k))] → (∀ (z' : Nat) (g' : Nat → Int32) (H : Heap) (locs : List Loc) (ls : Array Slot), aq_M (aq_many fr st d k L).2 g' z' → va_P (dC, dI) vwCl [(o, .inr (2, [.ref r, .int (nI z')])), (r, .inl (dA, 200, .inl g'))] H → va_D A [(o, .inr (2, [.ref r, .int (nI z')])), (r, .inl (dA, 200, .inl g'))] → va_S A H0 H locs → lv_has ls 6 [(5, .int (nI (aq_many fr st d k L).1))] → W p l e R s m args below meth c H locs cells slots Q (F0 m 42 ls [])) → W p l e R s m args below meth c H locs cells slots Q (F0 m 9 ls []) := by
  intro d
  induction d with
  | zero =>
    intro k L z g H locs ls hkd hM hP hD hS hl k9
    refine lv_iload hx hb dX3_many_9 (lv_at hl 4 rfl) ?_
    refine lv_iload hx hb dX3_many_11 (lv_at hl 3 rfl) ?_
    refine lv_icmp_ge (tgt := 42) hx hb dX3_many_13 (by decide) (fun _ => ?_) (fun hn9 => absurd (nI_le (by omega) (by omega)) hn9)
    exact k9 z g H locs ls hM hP hD hS (lv_sub hl [4] rfl)
  | succ d ih =>
    intro k L z g H locs ls hkd hM hP hD hS hl k9
    have hlen : L.length = z := hM.len
    have hz := hM.1
    refine lv_iload hx hb dX3_many_9 (lv_at hl 4 rfl) ?_
    refine lv_iload hx hb dX3_many_11 (lv_at hl 3 rfl) ?_
    refine lv_icmp_ge (tgt := 42) hx hb dX3_many_13 (by decide) (fun hn9 => absurd hn9 (nI_ge (by omega) (by omega))) (fun _ => ?_)
    refine lv_aload_n hx hb dX3_many_16 rfl (lv_at hl 0 rfl) ?_
    refine va_get (D := (dC, dI)) (ci := 2) (v := .int (nI z)) (C := RX3) (T := TX3) (N := 2) hx hb hts in_X3 hown hK hP 0 rfl rfl 1 (by decide) (hts _ q210) (fun _ h9 => h9) rfl dX3_many_17 ?_
    refine lv_sipush (v := 200) hx hb dX3_many_20 (by decide) ?_
    by_cases hz2 : z < 200
    · refine lv_icmp_ge (tgt := 42) hx hb dX3_many_23 (by decide) (fun hn9 => absurd hn9 (show ¬ nI 200 ≤ nI z from nI_ge hz2 (by omega))) (fun _ => ?_)
      rw [aq_many_s fr st d k L (by omega)] at k9
      refine lv_aload_n hx hb dX3_many_26 rfl (lv_at hl 0 rfl) ?_
      refine lv_iload_n hx hb dX3_many_27 rfl (lv_at hl 1 rfl) ?_
      refine lv_iload_n hx hb dX3_many_28 rfl (lv_at hl 2 rfl) ?_
      refine lv_iload hx hb dX3_many_29 (lv_at hl 4 rfl) ?_
      refine lv_imul hx hb dX3_many_31 ?_
      refine lv_iadd hx hb dX3_many_32 ?_
      have hPc := hP.sub (ws' := [(o, .inr (2, [.ref r, .int (nI z)])), (r, .inl (dA, 200, .inl g))]) [0, 1] rfl
      have hDc := hD.sub (ws' := [(o, .inr (2, [.ref r, .int (nI z)])), (r, .inl (dA, 200, .inl g))]) [0, 1] (by decide) rfl
      have hKc := hK.sub (tys' := [(dA, .int)]) [0] rfl
      have hFc := va_free (wc := [(o, .inr (2, [.ref r, .int (nI z)])), (r, .inl (dA, 200, .inl g))]) hD hS hA [0, 1] rfl
      refine va_callv (va_runV (As := [.int (fr + (st * (nI k)))]) (rest := []) ⟨hx, hb, hml, hown, hts⟩ (met_mput l dC dI dA o r H.size z g L (fr + st * nI k) hz2 hM) (cwV 1 hts (lw_V q220 q222 qs3 q9 q223) rfl rfl rfl (by decide +kernel) ⟨Nat.le_trans (Nat.le_of_ble_eq_true rfl) hRf, Nat.le_trans (Nat.le_of_ble_eq_true rfl) hRl⟩) ⟨fun a U g mk q => by obtain ⟨q0, q1, qP, qK, qD⟩ := q; exact ⟨q0, q1, qP, va_K.moved (u := U) (U := U.calling g mk a) (Vm.Alike.refl U.vm) qK, qD⟩, va_recv hKc hPc (ci := 2) (q0 := 0) rfl rfl, fun U hU hW => ⟨rfl, by rw [hU], by rw [hU]; exact hPc, va_K.moved hW.alike hKc, hDc.weaken (fun _ _ _ _ => trivial)⟩⟩ rfl rfl hl.1 rfl (lv_room (Nat.le_of_ble_eq_true rfl)) dX3_many_33 ⟨hRc, hRs⟩) hS (fun q _ h => hFc q h) hFc (fun _u t H locs ht hvm hw hB hz1 hk1 hS => ?_)
      obtain ⟨g2, z2, hM2, hP1, hK1, hD1⟩ := hB
      rw [ht] at hP1
      obtain ⟨hP, hD⟩ := va_join (wr := []) (w1 := [(o, .inr (2, [.ref r, .int (nI z2)])), (r, .inl (dA, 200, .inl g2))]) hP hD [0, 1] [] rfl rfl (by decide) (by decide) hk1 hFc hP1 hD1
      have hP : va_P (dC, dI) vwCl [(o, .inr (2, [.ref r, .int (nI z2)])), (r, .inl (dA, 200, .inl g2))] H := hP
      have hD : va_D A [(o, .inr (2, [.ref r, .int (nI z2)])), (r, .inl (dA, 200, .inl g2))] := hD
      refine lv_iinc (v := nI (k + 1)) (lv' := [(5, .int (nI (k + 1))), (0, .ref o), (1, .int fr), (2, .int st), (4, .int (nI (k + (d + 1))))]) hx hb dX3_many_36 hl (k := 4) rfl (aq_incS k) (by decide) rfl (fun ls hl => ?_)
      refine lv_goto (tgt := 9) hx hb dX3_many_39 (by decide) ?_
      exact ih (k + 1) ((fr + st * nI k) :: L) z2 g2 H locs ls (by omega) hM2 hP hD hS (by rw [show k + 1 + d = k + (d + 1) by omega]; exact lv_sub hl [1, 2, 3, 4, 0] rfl) k9
    · refine lv_icmp_ge (tgt := 42) hx hb dX3_many_23 (by decide) (fun _ => ?_) (fun hn9 => absurd (show nI 200 ≤ nI z from nI_le (by omega) (by omega)) hn9)
      rw [aq_many_full fr st (d + 1) k L (by omega)] at k9
      exact k9 z g H locs ls hM hP hD hS (lv_sub hl [4] rfl)

set_option maxHeartbeats 4000000 in
set_option maxRecDepth 100000 in
/-- many(from, step, n) -/
theorem met_mmany (l : Launch) (dC : Nat → ClassId) (dI : Nat → Nat → Nat) (dA : ClassId) (o r sz z : Nat) (g : Nat → Int32) (L : List Int32) (fr st nn : Int32) (hM : aq_M L g z) : Met l yX3_many (ws_ yX3_many cX3_many 6 (some .int)) ({ frames := 1, cells := 0, slots := 0, locals := 60 } : Room) (va_Pc [.ref o, .int fr, .int st, .int nn] (fun U => U.heap.size = sz ∧ va_P (dC, dI) vwCl [(o, .inr (2, [.ref r, .int (nI z)])), (r, .inl (dA, 200, .inl g))] U.heap ∧ va_K (dC, dI) vwCl [(dA, .int)] U ∧ va_D (fun _ => True) [(o, .inr (2, [.ref r, .int (nI z)])), (r, .inl (dA, 200, .inl g))])) (va_Qi (fun (x : Int32) (_ : Unit) => x = nI (aq_many fr st (aq_c nn) 0 L).1) (fun (_ : Unit) t => aq_BM dC dI dA (va_A [(o, .inr (2, [.ref r, .int (nI z)])), (r, .inl (dA, 200, .inl g))] sz) o r (aq_many fr st (aq_c nn) 0 L).2 t) (va_A [(o, .inr (2, [.ref r, .int (nI z)])), (r, .inl (dA, 200, .inl g))] sz)) 0 0 (va_A [(o, .inr (2, [.ref r, .int (nI z)])), (r, .inl (dA, 200, .inl g))] sz) := by
  refine Met.ofW (cc := cX3_many) (maxL := 6) (ret := (some .int)) (by decide) rfl ?_
  intro p e s m args below meth c s₁ B hml hv
  obtain ⟨rfl, hsz, hP, hK, hD0⟩ := hv
  have hx := B.exec
  have hb := B.bytes
  have hr := B.returns
  have hts := atoms_spec (ws := ws_ yX3_many cX3_many 6 (some .int)) B.pre
  have hts : ∀ w ∈ lw_all, w.before _ s = true := fun w h => hts w (List.mem_cons_of_mem _ h)
  have hown : s.vm.findClass RX3 = some m.cls := findClass_of_methodNamed B.named
  have hlocks := B.notSynchronized
  subst hsz
  have hD := hD0.self (sz := s.heap.size)
  generalize hAe : va_A [(o, .inr (2, [.ref r, .int (nI z)])), (r, .inl (dA, 200, .inl g))] s.heap.size = A at hD ⊢
  have hA : ∀ q : Nat, s.heap.size ≤ q → A q := fun q h => by rw [← hAe]; exact Or.inr h
  have hS : va_S A s.heap s.heap [] := va_S.rf
  have hP : va_P (dC, dI) vwCl [(o, .inr (2, [.ref r, .int (nI z)])), (r, .inl (dA, 200, .inl g))] s.heap := hP
  have hl := lv_entry ([.ref o, .int fr, .int st, .int nn]) (n := 6) (Nat.le_of_ble_eq_true rfl)
  rw [lg_entry_eq]
  generalize (lg_sl ([.ref o, .int fr, .int st, .int nn]) ++ List.replicate (6 - (lg_sl ([.ref o, .int fr, .int st, .int nn])).length) Slot.unset).toArray = ls at hl ⊢
  have hl : lv_has ls 6 [(0, .ref o), (1, .int fr), (2, .int st), (3, .int nn)] := hl
  have hc := aq_and15 nn
  refine lv_iload_n hx hb dX3_many_0 rfl (lv_at hl 3 rfl) ?_
  refine lv_bipush (v := 15) hx hb dX3_many_1 (by decide) ?_
  refine lv_iand hx hb dX3_many_3 ?_
  refine aq_asi (y := nI (aq_c nn)) (hc.2) ?_
  refine lv_istore (lv' := [(4, .int (nI (aq_c nn))), (0, .ref o), (1, .int fr), (2, .int st), (3, .int nn)]) hx hb dX3_many_4 hl (by decide) rfl (fun ls hl => ?_)
  refine lv_iconst (v := 0) hx hb dX3_many_6 (by decide) ?_
  refine aq_asi (y := nI 0) (rfl) ?_
  refine lv_istore (lv' := [(5, .int (nI 0)), (4, .int (nI (aq_c nn))), (0, .ref o), (1, .int fr), (2, .int st), (3, .int nn)]) hx hb dX3_many_7 hl (by decide) rfl (fun ls hl => ?_)
  refine lp_mmany hx hb hml hown hts hK hA (Nat.le_refl _) (Nat.le_refl _) (Nat.zero_le _) (Nat.zero_le _) (aq_c nn) 0 L z g _ _ ls (by omega) hM hP hD hS (by rw [Nat.zero_add]; exact lv_sub hl [2, 3, 4, 1, 0] rfl) (fun z' g' H locs ls hM' hP hD hS hl => ?_)
  refine lv_iload hx hb dX3_many_42 (lv_at hl 0 rfl) ?_
  have hP9 := hP.sub (ws' := [(o, .inr (2, [.ref r, .int (nI z')])), (r, .inl (dA, 200, .inl g'))]) [0, 1] rfl
  have hD9 := hD.sub (ws' := [(o, .inr (2, [.ref r, .int (nI z')])), (r, .inl (dA, 200, .inl g'))]) [0, 1] (by decide) rfl
  have hK9 := hK.sub (tys' := [(dA, .int)]) [0] rfl
  exact W.iret (v := nI (aq_many fr st (aq_c nn) 0 L).1) hx hb hr (fun t ht hW => ⟨⟨nI (aq_many fr st (aq_c nn) 0 L).1, (), rfl, rfl, ⟨g', z', hM', by rw [ht]; exact hP9, va_K.moved hW.alike hK9, hD9⟩⟩, hS.F ht⟩) hS.2.2 dX3_many_44

set_option maxHeartbeats 4000000 in
set_option maxRecDepth 100000 in
/-- least() -/
theorem met_mleast (l : Launch) (dC : Nat → ClassId) (dI : Nat → Nat → Nat) (dA : ClassId) (o r sz z : Nat) (g : Nat → Int32) (L : List Int32) (hM : aq_M L g z) : Met l yX3_least (ws_ yX3_least cX3_least 1 (some .int)) ({ frames := 0, cells := 0, slots := 0, locals := 0 } : Room) (va_Pc [.ref o] (fun U => U.heap.size = sz ∧ va_P (dC, dI) vwCl [(o, .inr (2, [.ref r, .int (nI z)])), (r, .inl (dA, 200, .inl g))] U.heap ∧ va_K (dC, dI) vwCl [(dA, .int)] U ∧ va_D (fun _ => True) [(o, .inr (2, [.ref r, .int (nI z)])), (r, .inl (dA, 200, .inl g))])) (va_Qi (fun (x : Int32) (_ : Unit) => x = if L.length = 0 then 0 else aq_min L) (fun (_ : Unit) t => aq_BM dC dI dA (va_A [(o, .inr (2, [.ref r, .int (nI z)])), (r, .inl (dA, 200, .inl g))] sz) o r L t) (va_A [(o, .inr (2, [.ref r, .int (nI z)])), (r, .inl (dA, 200, .inl g))] sz)) 0 0 (va_A [(o, .inr (2, [.ref r, .int (nI z)])), (r, .inl (dA, 200, .inl g))] sz) := by
  refine Met.ofW (cc := cX3_least) (maxL := 1) (ret := (some .int)) (by decide) rfl ?_
  intro p e s m args below meth c s₁ B hml hv
  obtain ⟨rfl, hsz, hP, hK, hD0⟩ := hv
  have hx := B.exec
  have hb := B.bytes
  have hr := B.returns
  have hts := atoms_spec (ws := ws_ yX3_least cX3_least 1 (some .int)) B.pre
  have hts : ∀ w ∈ lw_all, w.before _ s = true := fun w h => hts w (List.mem_cons_of_mem _ h)
  have hown : s.vm.findClass RX3 = some m.cls := findClass_of_methodNamed B.named
  have hlocks := B.notSynchronized
  subst hsz
  have hD := hD0.self (sz := s.heap.size)
  generalize hAe : va_A [(o, .inr (2, [.ref r, .int (nI z)])), (r, .inl (dA, 200, .inl g))] s.heap.size = A at hD ⊢
  have hA : ∀ q : Nat, s.heap.size ≤ q → A q := fun q h => by rw [← hAe]; exact Or.inr h
  have hS : va_S A s.heap s.heap [] := va_S.rf
  have hP : va_P (dC, dI) vwCl [(o, .inr (2, [.ref r, .int (nI z)])), (r, .inl (dA, 200, .inl g))] s.heap := hP
  have hl := lv_entry ([.ref o]) (n := 1) (Nat.le_of_ble_eq_true rfl)
  rw [lg_entry_eq]
  generalize (lg_sl ([.ref o]) ++ List.replicate (1 - (lg_sl ([.ref o])).length) Slot.unset).toArray = ls at hl ⊢
  have hl : lv_has ls 1 [(0, .ref o)] := hl
  have hlen : L.length = z := hM.len
  have hz := hM.1
  refine lv_aload_n hx hb dX3_least_0 rfl (lv_at hl 0 rfl) ?_
  refine va_get (D := (dC, dI)) (ci := 2) (v := .int (nI z)) (C := RX3) (T := TX3) (N := 2) hx hb hts in_X3 hown hK hP 0 rfl rfl 1 (by decide) (hts _ q210) (fun _ h9 => h9) rfl dX3_least_1 ?_
  rcases Nat.eq_zero_or_pos z with hz0 | hz0
  · refine lv_if_ne (tgt := 11) hx hb dX3_least_4 (by decide) (fun hn9 => absurd hn9 (fun q9 => q9 (by rw [hz0]; exact nI_0))) (fun _ => ?_)
    refine lv_iconst (v := 0) hx hb dX3_least_7 (by decide) ?_
    refine lv_goto (tgt := 17) hx hb dX3_least_8 (by decide) ?_
    have hP9 := hP.sub (ws' := [(o, .inr (2, [.ref r, .int (nI z)])), (r, .inl (dA, 200, .inl g))]) [0, 1] rfl
    have hD9 := hD.sub (ws' := [(o, .inr (2, [.ref r, .int (nI z)])), (r, .inl (dA, 200, .inl g))]) [0, 1] (by decide) rfl
    have hK9 := hK.sub (tys' := [(dA, .int)]) [0] rfl
    exact W.iret (v := 0) hx hb hr (fun t ht hW => ⟨⟨0, (), rfl, by rw [if_pos (by omega)], ⟨g, z, hM, by rw [ht]; exact hP9, va_K.moved hW.alike hK9, hD9⟩⟩, hS.F ht⟩) hS.2.2 dX3_least_17
  · refine lv_if_ne (tgt := 11) hx hb dX3_least_4 (by decide) (fun _ => ?_) (fun hn9 => absurd hn9 (nI_ne0 hz0 (by omega)))
    refine lv_aload_n hx hb dX3_least_11 rfl (lv_at hl 0 rfl) ?_
    refine va_get (D := (dC, dI)) (ci := 2) (v := .ref r) (C := RX3) (T := TX3) (N := 2) hx hb hts in_X3 hown hK hP 0 rfl rfl 0 (by decide) (hts _ q209) (fun _ h9 => h9) rfl dX3_least_12 ?_
    refine lv_iconst (v := 0) hx hb dX3_least_15 (by decide) ?_
    refine va_iald hx hb hK hP 1 0 rfl rfl (i := nI 0) (vp_in_nI (by omega) (by omega)) dX3_least_16 ?_
    refine aq_asi (y := g 0) (by rw [nI_clamp (by omega)]) ?_
    have hP9 := hP.sub (ws' := [(o, .inr (2, [.ref r, .int (nI z)])), (r, .inl (dA, 200, .inl g))]) [0, 1] rfl
    have hD9 := hD.sub (ws' := [(o, .inr (2, [.ref r, .int (nI z)])), (r, .inl (dA, 200, .inl g))]) [0, 1] (by decide) rfl
    have hK9 := hK.sub (tys' := [(dA, .int)]) [0] rfl
    exact W.iret (v := g 0) hx hb hr (fun t ht hW => ⟨⟨g 0, (), rfl, by rw [if_neg (by omega)]; exact hM.least hz0, ⟨g, z, hM, by rw [ht]; exact hP9, va_K.moved hW.alike hK9, hD9⟩⟩, hS.F ht⟩) hS.2.2 dX3_least_17

set_option maxHeartbeats 4000000 in
set_option maxRecDepth 100000 in
/-- take() -/
theorem met_mtake (l : Launch) (dC : Nat → ClassId) (dI : Nat → Nat → Nat) (dA : ClassId) (o r sz z : Nat) (g : Nat → Int32) (L : List Int32) (hM : aq_M L g z) : Met l yX3_take (ws_ yX3_take cX3_take 1 (some .int)) ({ frames := 1, cells := 0, slots := 0, locals := 60 } : Room) (va_Pc [.ref o] (fun U => U.heap.size = sz ∧ va_P (dC, dI) vwCl [(o, .inr (2, [.ref r, .int (nI z)])), (r, .inl (dA, 200, .inl g))] U.heap ∧ va_K (dC, dI) vwCl [(dA, .int)] U ∧ va_D (fun _ => True) [(o, .inr (2, [.ref r, .int (nI z)])), (r, .inl (dA, 200, .inl g))])) (va_Qi (fun (x : Int32) (_ : Unit) => x = if L.length = 0 then 0 else aq_min L) (fun (_ : Unit) t => aq_BM dC dI dA (va_A [(o, .inr (2, [.ref r, .int (nI z)])), (r, .inl (dA, 200, .inl g))] sz) o r (L.erase (aq_min L)) t) (va_A [(o, .inr (2, [.ref r, .int (nI z)])), (r, .inl (dA, 200, .inl g))] sz)) 0 0 (va_A [(o, .inr (2, [.ref r, .int (nI z)])), (r, .inl (dA, 200, .inl g))] sz) := by
  refine Met.ofW (cc := cX3_take) (maxL := 1) (ret := (some .int)) (by decide) rfl ?_
  intro p e s m args below meth c s₁ B hml hv
  obtain ⟨rfl, hsz, hP, hK, hD0⟩ := hv
  have hx := B.exec
  have hb := B.bytes
  have hr := B.returns
  have hts := atoms_spec (ws := ws_ yX3_take cX3_take 1 (some .int)) B.pre
  have hts : ∀ w ∈ lw_all, w.before _ s = true := fun w h => hts w (List.mem_cons_of_mem _ h)
  have hown : s.vm.findClass RX3 = some m.cls := findClass_of_methodNamed B.named
  have hlocks := B.notSynchronized
  subst hsz
  have hD := hD0.self (sz := s.heap.size)
  generalize hAe : va_A [(o, .inr (2, [.ref r, .int (nI z)])), (r, .inl (dA, 200, .inl g))] s.heap.size = A at hD ⊢
  have hA : ∀ q : Nat, s.heap.size ≤ q → A q := fun q h => by rw [← hAe]; exact Or.inr h
  have hS : va_S A s.heap s.heap [] := va_S.rf
  have hP : va_P (dC, dI) vwCl [(o, .inr (2, [.ref r, .int (nI z)])), (r, .inl (dA, 200, .inl g))] s.heap := hP
  have hl := lv_entry ([.ref o]) (n := 1) (Nat.le_of_ble_eq_true rfl)
  rw [lg_entry_eq]
  generalize (lg_sl ([.ref o]) ++ List.replicate (1 - (lg_sl ([.ref o])).length) Slot.unset).toArray = ls at hl ⊢
  have hl : lv_has ls 1 [(0, .ref o)] := hl
  have hlen : L.length = z := hM.len
  have hz := hM.1
  refine lv_aload_n hx hb dX3_take_0 rfl (lv_at hl 0 rfl) ?_
  refine va_get (D := (dC, dI)) (ci := 2) (v := .int (nI z)) (C := RX3) (T := TX3) (N := 2) hx hb hts in_X3 hown hK hP 0 rfl rfl 1 (by decide) (hts _ q210) (fun _ h9 => h9) rfl dX3_take_1 ?_
  rcases Nat.eq_zero_or_pos z with hz0 | hz0
  · refine lv_if_ne (tgt := 11) hx hb dX3_take_4 (by decide) (fun hn9 => absurd hn9 (fun q9 => q9 (by rw [hz0]; exact nI_0))) (fun _ => ?_)
    refine lv_iconst (v := 0) hx hb dX3_take_7 (by decide) ?_
    refine lv_goto (tgt := 15) hx hb dX3_take_8 (by decide) ?_
    have hnil : L = [] := List.eq_nil_of_length_eq_zero (by omega)
    have hP9 := hP.sub (ws' := [(o, .inr (2, [.ref r, .int (nI z)])), (r, .inl (dA, 200, .inl g))]) [0, 1] rfl
    have hD9 := hD.sub (ws' := [(o, .inr (2, [.ref r, .int (nI z)])), (r, .inl (dA, 200, .inl g))]) [0, 1] (by decide) rfl
    have hK9 := hK.sub (tys' := [(dA, .int)]) [0] rfl
    exact W.iret (v := 0) hx hb hr (fun t ht hW => ⟨⟨0, (), rfl, by rw [if_pos (by omega)], ⟨g, z, by rw [hnil] at hM ⊢; exact hM, by rw [ht]; exact hP9, va_K.moved hW.alike hK9, hD9⟩⟩, hS.F ht⟩) hS.2.2 dX3_take_15
  · obtain ⟨z1, rfl⟩ : ∃ z1, z = z1 + 1 := ⟨z - 1, by omega⟩
    refine lv_if_ne (tgt := 11) hx hb dX3_take_4 (by decide) (fun _ => ?_) (fun hn9 => absurd hn9 (nI_ne0 hz0 (by omega)))
    refine lv_aload_n hx hb dX3_take_11 rfl (lv_at hl 0 rfl) ?_
    have hPc := hP.sub (ws' := [(o, .inr (2, [.ref r, .int (nI (z1 + 1))])), (r, .inl (dA, 200, .inl g))]) [0, 1] rfl
    have hDc := hD.sub (ws' := [(o, .inr (2, [.ref r, .int (nI (z1 + 1))])), (r, .inl (dA, 200, .inl g))]) [0, 1] (by decide) rfl
    have hKc := hK.sub (tys' := [(dA, .int)]) [0] rfl
    have hFc := va_free (wc := [(o, .inr (2, [.ref r, .int (nI (z1 + 1))])), (r, .inl (dA, 200, .inl g))]) hD hS hA [0, 1] rfl
    refine va_calli (va_runV (As := []) (rest := []) ⟨hx, hb, hml, hown, hts⟩ (met_mfirst l dC dI dA o r s.heap.size z1 g L hM) (cwV 0 hts (lw_V q236 q238 qs4 q9 q239) rfl rfl rfl (by decide +kernel) ⟨Nat.le_of_ble_eq_true rfl, Nat.le_of_ble_eq_true rfl⟩) ⟨fun a U g mk q => by obtain ⟨q0, q1, qP, qK, qD⟩ := q; exact ⟨q0, q1, qP, va_K.moved (u := U) (U := U.calling g mk a) (Vm.Alike.refl U.vm) qK, qD⟩, va_recv hKc hPc (ci := 2) (q0 := 0) rfl rfl, fun U hU hW => ⟨rfl, by rw [hU], by rw [hU]; exact hPc, va_K.moved hW.alike hKc, hDc.weaken (fun _ _ _ _ => trivial)⟩⟩ rfl rfl hl.1 rfl (lv_room (Nat.le_of_ble_eq_true rfl)) dX3_take_12 ⟨Nat.le_of_ble_eq_true rfl, Nat.le_of_ble_eq_true rfl⟩) hS (fun q _ h => hFc q h) hFc (fun r_1 _u t H locs ht hvm hw hB hz1 hk1 hS => ?_)
    obtain ⟨g2, z2, hM2, hP1, hK1, hD1⟩ := hB
    rw [ht] at hP1
    obtain ⟨hP, hD⟩ := va_join (wr := []) (w1 := [(o, .inr (2, [.ref r, .int (nI z2)])), (r, .inl (dA, 200, .inl g2))]) hP hD [0, 1] [] rfl rfl (by decide) (by decide) hk1 hFc hP1 hD1
    have hP : va_P (dC, dI) vwCl [(o, .inr (2, [.ref r, .int (nI z2)])), (r, .inl (dA, 200, .inl g2))] H := hP
    have hD : va_D A [(o, .inr (2, [.ref r, .int (nI z2)])), (r, .inl (dA, 200, .inl g2))] := hD
    have hP9 := hP.sub (ws' := [(o, .inr (2, [.ref r, .int (nI z2)])), (r, .inl (dA, 200, .inl g2))]) [0, 1] rfl
    have hD9 := hD.sub (ws' := [(o, .inr (2, [.ref r, .int (nI z2)])), (r, .inl (dA, 200, .inl g2))]) [0, 1] (by decide) rfl
    have hK9 := hK.sub (tys' := [(dA, .int)]) [0] rfl
    exact W.iret (v := r_1) hx hb hr (fun t ht hW => ⟨⟨r_1, (), rfl, by rw [if_neg (by omega)]; exact hw, ⟨g2, z2, hM2, by rw [ht]; exact hP9, va_K.moved hW.alike hK9, hD9⟩⟩, hS.F ht⟩) hS.2.2 dX3_take_15

set_option maxHeartbeats 4000000 in
set_option maxRecDepth 100000 in
/-- takeMany's loop: d are wanted -/
theorem lp_mtk {p : Program} {l : Launch} {e : Env} {R : Room} {s : State} {m : MethodId} {args : Array Value} {below : List Frame} {meth : Method} {c : Code} {cells slots : Nat} {Q : State → Prop} {dC : Nat → ClassId} {dI : Nat → Nat → Nat} {dA : ClassId} {A : Nat → Prop} {H0 : Heap} {o r : Nat} (hx : p.tables.exec = Jvm.exec) (hb : c.code = cX3_takeMany) (hml : c.maxLocals = 5) (hown : s.vm.findClass RX3 = some m.cls) (hts : ∀ w ∈ lw_all, w.before args s = true) (hK : va_K (dC, dI) vwCl [(dA, .int)] s) (hA : ∀ q : Nat, H0.size ≤ q → A q) (hRf : 1 ≤ R.frames) (hRl : 60 ≤ R.locals) (hRc : cells ≤ R.cells) (hRs : slots ≤ R.slots) : ∀ (d : Nat) (y : Int64) (L : List Int32) (z : Nat) (g : Nat → Int32) (H : Heap) (locs : List Loc) (ls : Array Slot), d < 16 → aq_M L g z → va_P (dC, dI) vwCl [(o, .inr (2, [.ref r, .int (nI z)])), (r, .inl (dA, 200, .inl g))] H → va_D A [(o, .inr (2, [.ref r, .int (nI z)])), (r, .inl (dA, 200, .inl g))] → va_S A H0 H locs → lv_has ls 5 [(0, .ref o), (2, .long y), (4, .int (nI d))] → (∀ (z' : Nat) (g' : Nat → Int32) (H : Heap) (locs : List Loc) (ls : Array Slot), aq_M (aq_tk d y L).2 g' z' → va_P (dC, dI) vwCl [(o, .inr (2, [.ref r, .int (nI z')])), (r, .inl (dA, 200, .inl g'))] H → va_D A [(o, .inr (2, [.ref r, .int (nI z')])), (r, .inl (dA, 200, .inl g'))] → va_S A H0 H locs → lv_has ls 5 [(2, .long (aq_tk d y L).1)] → W p l e R s m args below meth c H locs cells slots Q (F0 m 38 ls [])) → W p l e R s m args below meth c H locs cells slots Q (F0 m 8 ls []) := by
  intro d
  induction d with
  | zero =>
    intro y L z g H locs ls hd hM hP hD hS hl k9
    refine lv_iload hx hb dX3_takeMany_8 (lv_at hl 2 rfl) ?_
    refine lv_if_le (tgt := 38) hx hb dX3_takeMany_10 (by decide) (fun _ => ?_) (fun hn9 => absurd (show nI 0 ≤ 0 by decide) hn9)
    exact k9 z g H locs ls hM hP hD hS (lv_sub hl [1] rfl)
  | succ d ih =>
    intro y L z g H locs ls hd hM hP hD hS hl k9
    have hlen : L.length = z := hM.len
    have hz := hM.1
    refine lv_iload hx hb dX3_takeMany_8 (lv_at hl 2 rfl) ?_
    refine lv_if_le (tgt := 38) hx hb dX3_takeMany_10 (by decide) (fun hn9 => absurd hn9 (nI_nle (Nat.succ_pos d) (by omega))) (fun _ => ?_)
    refine lv_aload_n hx hb dX3_takeMany_13 rfl (lv_at hl 0 rfl) ?_
    refine va_get (D := (dC, dI)) (ci := 2) (v := .int (nI z)) (C := RX3) (T := TX3) (N := 2) hx hb hts in_X3 hown hK hP 0 rfl rfl 1 (by decide) (hts _ q210) (fun _ h9 => h9) rfl dX3_takeMany_14 ?_
    rcases Nat.eq_zero_or_pos z with hz0 | hz0
    · refine lv_if_le (tgt := 38) hx hb dX3_takeMany_17 (by decide) (fun _ => ?_) (fun hn9 => absurd (by rw [hz0]; decide) hn9)
      rw [aq_tk_e (d + 1) y L (by omega)] at k9
      exact k9 z g H locs ls hM hP hD hS (lv_sub hl [1] rfl)
    · obtain ⟨z1, rfl⟩ : ∃ z1, z = z1 + 1 := ⟨z - 1, by omega⟩
      refine lv_if_le (tgt := 38) hx hb dX3_takeMany_17 (by decide) (fun hn9 => absurd hn9 (nI_nle hz0 (by omega))) (fun _ => ?_)
      rw [aq_tk_s d y L (by omega)] at k9
      refine lv_lload_n hx hb dX3_takeMany_20 rfl (lv_at hl 1 rfl) ?_
      refine lv_ldc2 hx hb hown (hts _ q244) dX3_takeMany_21 ?_
      refine lv_lmul hx hb dX3_takeMany_24 ?_
      refine lv_aload_n hx hb dX3_takeMany_25 rfl (lv_at hl 0 rfl) ?_
      have hPc := hP.sub (ws' := [(o, .inr (2, [.ref r, .int (nI (z1 + 1))])), (r, .inl (dA, 200, .inl g))]) [0, 1] rfl
      have hDc := hD.sub (ws' := [(o, .inr (2, [.ref r, .int (nI (z1 + 1))])), (r, .inl (dA, 200, .inl g))]) [0, 1] (by decide) rfl
      have hKc := hK.sub (tys' := [(dA, .int)]) [0] rfl
      have hFc := va_free (wc := [(o, .inr (2, [.ref r, .int (nI (z1 + 1))])), (r, .inl (dA, 200, .inl g))]) hD hS hA [0, 1] rfl
      refine va_calli (va_runV (As := []) (rest := [.long (y * 31)]) ⟨hx, hb, hml, hown, hts⟩ (met_mfirst l dC dI dA o r H.size z1 g L hM) (cwV 0 hts (lw_V q236 q238 qs4 q9 q239) rfl rfl rfl (by decide +kernel) ⟨Nat.le_trans (Nat.le_of_ble_eq_true rfl) hRf, Nat.le_trans (Nat.le_of_ble_eq_true rfl) hRl⟩) ⟨fun a U g mk q => by obtain ⟨q0, q1, qP, qK, qD⟩ := q; exact ⟨q0, q1, qP, va_K.moved (u := U) (U := U.calling g mk a) (Vm.Alike.refl U.vm) qK, qD⟩, va_recv hKc hPc (ci := 2) (q0 := 0) rfl rfl, fun U hU hW => ⟨rfl, by rw [hU], by rw [hU]; exact hPc, va_K.moved hW.alike hKc, hDc.weaken (fun _ _ _ _ => trivial)⟩⟩ rfl rfl hl.1 rfl (lv_room (Nat.le_of_ble_eq_true rfl)) dX3_takeMany_26 ⟨hRc, hRs⟩) hS (fun q _ h => hFc q h) hFc (fun r_1 _u t H locs ht hvm hw hB hz1 hk1 hS => ?_)
      obtain ⟨g2, z2, hM2, hP1, hK1, hD1⟩ := hB
      rw [ht] at hP1
      obtain ⟨hP, hD⟩ := va_join (wr := []) (w1 := [(o, .inr (2, [.ref r, .int (nI z2)])), (r, .inl (dA, 200, .inl g2))]) hP hD [0, 1] [] rfl rfl (by decide) (by decide) hk1 hFc hP1 hD1
      have hP : va_P (dC, dI) vwCl [(o, .inr (2, [.ref r, .int (nI z2)])), (r, .inl (dA, 200, .inl g2))] H := hP
      have hD : va_D A [(o, .inr (2, [.ref r, .int (nI z2)])), (r, .inl (dA, 200, .inl g2))] := hD
      refine lv_i2l hx hb dX3_takeMany_29 (v := (aq_min L).toInt64) (by rw [hw]) ?_
      refine lv_ladd hx hb dX3_takeMany_30 ?_
      refine lv_lstore_n (lv' := [(2, .long ((y * 31) + ((aq_min L).toInt64))), (0, .ref o), (4, .int (nI (d + 1)))]) hx hb dX3_takeMany_31 rfl hl (by decide) rfl (fun ls hl => ?_)
      refine lv_iinc (v := nI d) (lv' := [(4, .int (nI d)), (2, .long ((y * 31) + ((aq_min L).toInt64))), (0, .ref o)]) hx hb dX3_takeMany_32 hl (k := 2) rfl (aq_decS d) (by decide) rfl (fun ls hl => ?_)
      refine lv_goto (tgt := 8) hx hb dX3_takeMany_35 (by decide) ?_
      exact ih _ _ z2 g2 H locs ls (by omega) hM2 hP hD hS (lv_sub hl [2, 1, 0] rfl) k9

set_option maxHeartbeats 4000000 in
set_option maxRecDepth 100000 in
/-- takeMany(n) -/
theorem met_mtk (l : Launch) (dC : Nat → ClassId) (dI : Nat → Nat → Nat) (dA : ClassId) (o r sz z : Nat) (g : Nat → Int32) (L : List Int32) (nn : Int32) (hM : aq_M L g z) : Met l yX3_takeMany (ws_ yX3_takeMany cX3_takeMany 5 (some .long)) ({ frames := 1, cells := 0, slots := 0, locals := 60 } : Room) (va_Pc [.ref o, .int nn] (fun U => U.heap.size = sz ∧ va_P (dC, dI) vwCl [(o, .inr (2, [.ref r, .int (nI z)])), (r, .inl (dA, 200, .inl g))] U.heap ∧ va_K (dC, dI) vwCl [(dA, .int)] U ∧ va_D (fun _ => True) [(o, .inr (2, [.ref r, .int (nI z)])), (r, .inl (dA, 200, .inl g))])) (va_Ql (fun (x : Int64) (_ : Unit) => x = (aq_tk (aq_c nn) 0 L).1) (fun (_ : Unit) t => aq_BM dC dI dA (va_A [(o, .inr (2, [.ref r, .int (nI z)])), (r, .inl (dA, 200, .inl g))] sz) o r (aq_tk (aq_c nn) 0 L).2 t) (va_A [(o, .inr (2, [.ref r, .int (nI z)])), (r, .inl (dA, 200, .inl g))] sz)) 0 0 (va_A [(o, .inr (2, [.ref r, .int (nI z)])), (r, .inl (dA, 200, .inl g))] sz) := by
  refine Met.ofW (cc := cX3_takeMany) (maxL := 5) (ret := (some .long)) (by decide) rfl ?_
  intro p e s m args below meth c s₁ B hml hv
  obtain ⟨rfl, hsz, hP, hK, hD0⟩ := hv
  have hx := B.exec
  have hb := B.bytes
  have hr := B.returns
  have hts := atoms_spec (ws := ws_ yX3_takeMany cX3_takeMany 5 (some .long)) B.pre
  have hts : ∀ w ∈ lw_all, w.before _ s = true := fun w h => hts w (List.mem_cons_of_mem _ h)
  have hown : s.vm.findClass RX3 = some m.cls := findClass_of_methodNamed B.named
  have hlocks := B.notSynchronized
  subst hsz
  have hD := hD0.self (sz := s.heap.size)
  generalize hAe : va_A [(o, .inr (2, [.ref r, .int (nI z)])), (r, .inl (dA, 200, .inl g))] s.heap.size = A at hD ⊢
  have hA : ∀ q : Nat, s.heap.size ≤ q → A q := fun q h => by rw [← hAe]; exact Or.inr h
  have hS : va_S A s.heap s.heap [] := va_S.rf
  have hP : va_P (dC, dI) vwCl [(o, .inr (2, [.ref r, .int (nI z)])), (r, .inl (dA, 200, .inl g))] s.heap := hP
  have hl := lv_entry ([.ref o, .int nn]) (n := 5) (Nat.le_of_ble_eq_true rfl)
  rw [lg_entry_eq]
  generalize (lg_sl ([.ref o, .int nn]) ++ List.replicate (5 - (lg_sl ([.ref o, .int nn])).length) Slot.unset).toArray = ls at hl ⊢
  have hl : lv_has ls 5 [(0, .ref o), (1, .int nn)] := hl
  have hc := aq_and15 nn
  refine lv_lconst (v := 0) hx hb dX3_takeMany_0 (by decide) ?_
  refine lv_lstore_n (lv' := [(2, .long 0), (0, .ref o), (1, .int nn)]) hx hb dX3_takeMany_1 rfl hl (by decide) rfl (fun ls hl => ?_)
  refine lv_iload_n hx hb dX3_takeMany_2 rfl (lv_at hl 2 rfl) ?_
  refine lv_bipush (v := 15) hx hb dX3_takeMany_3 (by decide) ?_
  refine lv_iand hx hb dX3_takeMany_5 ?_
  refine aq_asi (y := nI (aq_c nn)) (hc.2) ?_
  refine lv_istore (lv' := [(4, .int (nI (aq_c nn))), (2, .long 0), (0, .ref o), (1, .int nn)]) hx hb dX3_takeMany_6 hl (by decide) rfl (fun ls hl => ?_)
  refine lp_mtk hx hb hml hown hts hK hA (Nat.le_refl _) (Nat.le_refl _) (Nat.zero_le _) (Nat.zero_le _) (aq_c nn) 0 L z g _ _ ls (by omega) hM hP hD hS (lv_sub hl [2, 1, 0] rfl) (fun z' g' H locs ls hM' hP hD hS hl => ?_)
  refine lv_lload_n hx hb dX3_takeMany_38 rfl (lv_at hl 0 rfl) ?_
  have hP9 := hP.sub (ws' := [(o, .inr (2, [.ref r, .int (nI z')])), (r, .inl (dA, 200, .inl g'))]) [0, 1] rfl
  have hD9 := hD.sub (ws' := [(o, .inr (2, [.ref r, .int (nI z')])), (r, .inl (dA, 200, .inl g'))]) [0, 1] (by decide) rfl
  have hK9 := hK.sub (tys' := [(dA, .int)]) [0] rfl
  exact W.lret (v := (aq_tk (aq_c nn) 0 L).1) hx hb hr (fun t ht hW => ⟨⟨(aq_tk (aq_c nn) 0 L).1, (), rfl, rfl, ⟨g', z', hM', by rw [ht]; exact hP9, va_K.moved hW.alike hK9, hD9⟩⟩, hS.F ht⟩) hS.2.2 dX3_takeMany_39

set_option maxHeartbeats 4000000 in
set_option maxRecDepth 100000 in
/-- waiting() -/
theorem met_mwait (l : Launch) (dC : Nat → ClassId) (dI : Nat → Nat → Nat) (dA : ClassId) (o r sz z : Nat) (g : Nat → Int32) (L : List Int32) (hM : aq_M L g z) : Met l yX3_waiting (ws_ yX3_waiting cX3_waiting 1 (some .int)) ({ frames := 0, cells := 0, slots := 0, locals := 0 } : Room) (va_Pc [.ref o] (fun U => U.heap.size = sz ∧ va_P (dC, dI) vwCl [(o, .inr (2, [.ref r, .int (nI z)])), (r, .inl (dA, 200, .inl g))] U.heap ∧ va_K (dC, dI) vwCl [(dA, .int)] U ∧ va_D (fun _ => True) [(o, .inr (2, [.ref r, .int (nI z)])), (r, .inl (dA, 200, .inl g))])) (va_Qi (fun (x : Int32) (_ : Unit) => x = nI L.length) (fun (_ : Unit) t => aq_BM dC dI dA (va_A [(o, .inr (2, [.ref r, .int (nI z)])), (r, .inl (dA, 200, .inl g))] sz) o r L t) (va_A [(o, .inr (2, [.ref r, .int (nI z)])), (r, .inl (dA, 200, .inl g))] sz)) 0 0 (va_A [(o, .inr (2, [.ref r, .int (nI z)])), (r, .inl (dA, 200, .inl g))] sz) := by
  refine Met.ofW (cc := cX3_waiting) (maxL := 1) (ret := (some .int)) (by decide) rfl ?_
  intro p e s m args below meth c s₁ B hml hv
  obtain ⟨rfl, hsz, hP, hK, hD0⟩ := hv
  have hx := B.exec
  have hb := B.bytes
  have hr := B.returns
  have hts := atoms_spec (ws := ws_ yX3_waiting cX3_waiting 1 (some .int)) B.pre
  have hts : ∀ w ∈ lw_all, w.before _ s = true := fun w h => hts w (List.mem_cons_of_mem _ h)
  have hown : s.vm.findClass RX3 = some m.cls := findClass_of_methodNamed B.named
  have hlocks := B.notSynchronized
  subst hsz
  have hD := hD0.self (sz := s.heap.size)
  generalize hAe : va_A [(o, .inr (2, [.ref r, .int (nI z)])), (r, .inl (dA, 200, .inl g))] s.heap.size = A at hD ⊢
  have hA : ∀ q : Nat, s.heap.size ≤ q → A q := fun q h => by rw [← hAe]; exact Or.inr h
  have hS : va_S A s.heap s.heap [] := va_S.rf
  have hP : va_P (dC, dI) vwCl [(o, .inr (2, [.ref r, .int (nI z)])), (r, .inl (dA, 200, .inl g))] s.heap := hP
  have hl := lv_entry ([.ref o]) (n := 1) (Nat.le_of_ble_eq_true rfl)
  rw [lg_entry_eq]
  generalize (lg_sl ([.ref o]) ++ List.replicate (1 - (lg_sl ([.ref o])).length) Slot.unset).toArray = ls at hl ⊢
  have hl : lv_has ls 1 [(0, .ref o)] := hl
  refine lv_aload_n hx hb dX3_waiting_0 rfl (lv_at hl 0 rfl) ?_
  refine va_get (D := (dC, dI)) (ci := 2) (v := .int (nI z)) (C := RX3) (T := TX3) (N := 2) hx hb hts in_X3 hown hK hP 0 rfl rfl 1 (by decide) (hts _ q210) (fun _ h9 => h9) rfl dX3_waiting_1 ?_
  have hP9 := hP.sub (ws' := [(o, .inr (2, [.ref r, .int (nI z)])), (r, .inl (dA, 200, .inl g))]) [0, 1] rfl
  have hD9 := hD.sub (ws' := [(o, .inr (2, [.ref r, .int (nI z)])), (r, .inl (dA, 200, .inl g))]) [0, 1] (by decide) rfl
  have hK9 := hK.sub (tys' := [(dA, .int)]) [0] rfl
  exact W.iret (v := nI z) hx hb hr (fun t ht hW => ⟨⟨nI z, (), rfl, by rw [hM.len], ⟨g, z, hM, by rw [ht]; exact hP9, va_K.moved hW.alike hK9, hD9⟩⟩, hS.F ht⟩) hS.2.2 dX3_waiting_4

set_option maxHeartbeats 4000000 in
set_option maxRecDepth 100000 in
/-- shrink() -/
theorem met_mshrink (l : Launch) (dC : Nat → ClassId) (dI : Nat → Nat → Nat) (dA : ClassId) (o r sz z : Nat) (g : Nat → Int32) (L : List Int32) (hM : aq_M L g z) : Met l yX3_shrink (ws_ yX3_shrink cX3_shrink 1 none) ({ frames := 0, cells := 0, slots := 0, locals := 0 } : Room) (va_Pc [.ref o] (fun U => U.heap.size = sz ∧ va_P (dC, dI) vwCl [(o, .inr (2, [.ref r, .int (nI z)])), (r, .inl (dA, 200, .inl g))] U.heap ∧ va_K (dC, dI) vwCl [(dA, .int)] U ∧ va_D (fun _ => True) [(o, .inr (2, [.ref r, .int (nI z)])), (r, .inl (dA, 200, .inl g))])) (va_Qv (fun _ : Unit => True) (fun (_ : Unit) t => aq_BM dC dI dA (va_A [(o, .inr (2, [.ref r, .int (nI z)])), (r, .inl (dA, 200, .inl g))] sz) o r L t) (va_A [(o, .inr (2, [.ref r, .int (nI z)])), (r, .inl (dA, 200, .inl g))] sz)) 0 0 (va_A [(o, .inr (2, [.ref r, .int (nI z)])), (r, .inl (dA, 200, .inl g))] sz) := by
  refine Met.ofW (cc := cX3_shrink) (maxL := 1) (ret := none) (by decide) rfl ?_
  intro p e s m args below meth c s₁ B hml hv
  obtain ⟨rfl, hsz, hP, hK, hD0⟩ := hv
  have hx := B.exec
  have hb := B.bytes
  have hr := B.returns
  have hts := atoms_spec (ws := ws_ yX3_shrink cX3_shrink 1 none) B.pre
  have hts : ∀ w ∈ lw_all, w.before _ s = true := fun w h => hts w (List.mem_cons_of_mem _ h)
  have hown : s.vm.findClass RX3 = some m.cls := findClass_of_methodNamed B.named
  have hlocks := B.notSynchronized
  subst hsz
  have hD := hD0.self (sz := s.heap.size)
  generalize hAe : va_A [(o, .inr (2, [.ref r, .int (nI z)])), (r, .inl (dA, 200, .inl g))] s.heap.size = A at hD ⊢
  have hA : ∀ q : Nat, s.heap.size ≤ q → A q := fun q h => by rw [← hAe]; exact Or.inr h
  have hS : va_S A s.heap s.heap [] := va_S.rf
  have hP : va_P (dC, dI) vwCl [(o, .inr (2, [.ref r, .int (nI z)])), (r, .inl (dA, 200, .inl g))] s.heap := hP
  have hl := lv_entry ([.ref o]) (n := 1) (Nat.le_of_ble_eq_true rfl)
  rw [lg_entry_eq]
  generalize (lg_sl ([.ref o]) ++ List.replicate (1 - (lg_sl ([.ref o])).length) Slot.unset).toArray = ls at hl ⊢
  have hl : lv_has ls 1 [(0, .ref o)] := hl
  have hP9 := hP.sub (ws' := [(o, .inr (2, [.ref r, .int (nI z)])), (r, .inl (dA, 200, .inl g))]) [0, 1] rfl
  have hD9 := hD.sub (ws' := [(o, .inr (2, [.ref r, .int (nI z)])), (r, .inl (dA, 200, .inl g))]) [0, 1] (by decide) rfl
  have hK9 := hK.sub (tys' := [(dA, .int)]) [0] rfl
  exact W.vret hx hb hr (fun t ht hW => ⟨⟨(), rfl, trivial, ⟨g, z, hM, by rw [ht]; exact hP9, va_K.moved hW.alike hK9, hD9⟩⟩, hS.F ht⟩) hS.2.2 dX3_shrink_0

set_option maxHeartbeats 4000000 in
set_option maxRecDepth 100000 in
/-- drain() -/
theorem met_mdrain (l : Launch) (dC : Nat → ClassId) (dI : Nat → Nat → Nat) (dA : ClassId) (o r sz z : Nat) (g : Nat → Int32) (L : List Int32) (hM : aq_M L g z) : Met l yX3_drain (ws_ yX3_drain cX3_drain 1 none) ({ frames := 0, cells := 0, slots := 0, locals := 0 } : Room) (va_Pc [.ref o] (fun U => U.heap.size = sz ∧ va_P (dC, dI) vwCl [(o, .inr (2, [.ref r, .int (nI z)])), (r, .inl (dA, 200, .inl g))] U.heap ∧ va_K (dC, dI) vwCl [(dA, .int)] U ∧ va_D (fun _ => True) [(o, .inr (2, [.ref r, .int (nI z)])), (r, .inl (dA, 200, .inl g))])) (va_Qv (fun _ : Unit => True) (fun (_ : Unit) t => aq_BM dC dI dA (va_A [(o, .inr (2, [.ref r, .int (nI z)])), (r, .inl (dA, 200, .inl g))] sz) o r [] t) (va_A [(o, .inr (2, [.ref r, .int (nI z)])), (r, .inl (dA, 200, .inl g))] sz)) 0 0 (va_A [(o, .inr (2, [.ref r, .int (nI z)])), (r, .inl (dA, 200, .inl g))] sz) := by
  refine Met.ofW (cc := cX3_drain) (maxL := 1) (ret := none) (by decide) rfl ?_
  intro p e s m args below meth c s₁ B hml hv
  obtain ⟨rfl, hsz, hP, hK, hD0⟩ := hv
  have hx := B.exec
  have hb := B.bytes
  have hr := B.returns
  have hts := atoms_spec (ws := ws_ yX3_drain cX3_drain 1 none) B.pre
  have hts : ∀ w ∈ lw_all, w.before _ s = true := fun w h => hts w (List.mem_cons_of_mem _ h)
  have hown : s.vm.findClass RX3 = some m.cls := findClass_of_methodNamed B.named
  have hlocks := B.notSynchronized
  subst hsz
  have hD := hD0.self (sz := s.heap.size)
  generalize hAe : va_A [(o, .inr (2, [.ref r, .int (nI z)])), (r, .inl (dA, 200, .inl g))] s.heap.size = A at hD ⊢
  have hA : ∀ q : Nat, s.heap.size ≤ q → A q := fun q h => by rw [← hAe]; exact Or.inr h
  have hS : va_S A s.heap s.heap [] := va_S.rf
  have hP : va_P (dC, dI) vwCl [(o, .inr (2, [.ref r, .int (nI z)])), (r, .inl (dA, 200, .inl g))] s.heap := hP
  have hl := lv_entry ([.ref o]) (n := 1) (Nat.le_of_ble_eq_true rfl)
  rw [lg_entry_eq]
  generalize (lg_sl ([.ref o]) ++ List.replicate (1 - (lg_sl ([.ref o])).length) Slot.unset).toArray = ls at hl ⊢
  have hl : lv_has ls 1 [(0, .ref o)] := hl
  refine lv_aload_n hx hb dX3_drain_0 rfl (lv_at hl 0 rfl) ?_
  refine lv_iconst (v := 0) hx hb dX3_drain_1 (by decide) ?_
  refine aq_asi (y := nI 0) (rfl) ?_
  refine va_put (D := (dC, dI)) (ci := 2) (v := .int (nI 0)) (ty := .int) (C := RX3) (T := TX3) (N := 2) hx hb hts in_X3 tyX3 tyX3_ok nmX3 hown hK hP hD hS 0 rfl rfl 1 (by decide) (hts _ q210) (fun _ h9 => h9) rfl (by decide +kernel) rfl rfl (Nat.le_of_ble_eq_true rfl) dX3_drain_2 (fun H locs hP hD hS => ?_)
  have hP : va_P (dC, dI) vwCl [(o, .inr (2, [.ref r, .int (nI 0)])), (r, .inl (dA, 200, .inl g))] H := hP
  have hD : va_D A [(o, .inr (2, [.ref r, .int (nI 0)])), (r, .inl (dA, 200, .inl g))] := hD
  have hP9 := hP.sub (ws' := [(o, .inr (2, [.ref r, .int (nI 0)])), (r, .inl (dA, 200, .inl g))]) [0, 1] rfl
  have hD9 := hD.sub (ws' := [(o, .inr (2, [.ref r, .int (nI 0)])), (r, .inl (dA, 200, .inl g))]) [0, 1] (by decide) rfl
  have hK9 := hK.sub (tys' := [(dA, .int)]) [0] rfl
  exact W.vret hx hb hr (fun t ht hW => ⟨⟨(), rfl, trivial, ⟨g, 0, aq_M_nil g, by rw [ht]; exact hP9, va_K.moved hW.alike hK9, hD9⟩⟩, hS.F ht⟩) hS.2.2 dX3_drain_5
end
section
/-! MODULE ArrayQueueDesk -/
set_option maxHeartbeats 4000000 in
set_option maxRecDepth 100000 in
/-- ArrayQueueDesk() -/
theorem met_dinit (l : Launch) (dC : Nat → ClassId) (dI : Nat → Nat → Nat) (dA : ClassId) (x e0 sz : Nat) : Met l yX0_init (ws_ yX0_init cX0_init 1 none) ({ frames := 3, cells := 1, slots := 5, locals := 100 } : Room) (va_Pc [.ref x] (fun U => U.heap.size = sz ∧ va_P (dC, dI) vwCl [(x, .inr (0, [.null]))] U.heap ∧ va_K (dC, dI) vwCl [(dA, .int)] U ∧ va_D (fun _ => True) [(x, .inr (0, [.null]))] ∧ va_Z "IntArrays" "EMPTY_ARRAY" "[I" (.ref e0) (va_A [(x, .inr (0, [.null]))] sz) U U.heap)) (va_Qv (fun _ : Unit => True) (fun (_ : Unit) t => ∃ (h : Nat), va_P (dC, dI) vwCl [(x, .inr (0, [.ref h])), (h, .inr (1, [.ref e0, .int 0, .null, .int 0, .int 0]))] t.heap ∧ va_K (dC, dI) vwCl [(dA, .int)] t ∧ va_D (va_A [(x, .inr (0, [.null]))] sz) [(x, .inr (0, [.ref h])), (h, .inr (1, [.ref e0, .int 0, .null, .int 0, .int 0]))]) (va_A [(x, .inr (0, [.null]))] sz)) 1 5 (va_A [(x, .inr (0, [.null]))] sz) := by
  refine Met.ofW (cc := cX0_init) (maxL := 1) (ret := none) (by decide) rfl ?_
  intro p e s m args below meth c s₁ B hml hv
  obtain ⟨rfl, hsz, hP, hK, hD0, hZ⟩ := hv
  have hx := B.exec
  have hb := B.bytes
  have hr := B.returns
  have hts := atoms_spec (ws := ws_ yX0_init cX0_init 1 none) B.pre
  have hts : ∀ w ∈ lw_all, w.before _ s = true := fun w h => hts w (List.mem_cons_of_mem _ h)
  have hown : s.vm.findClass RX0 = some m.cls := findClass_of_methodNamed B.named
  have hlocks := B.notSynchronized
  have hin : meth.name = "<init>" := (name_of_methodNamed B.named B.method).1
  subst hsz
  have hD := hD0.self (sz := s.heap.size)
  generalize hAe : va_A [(x, .inr (0, [.null]))] s.heap.size = A at hD hZ ⊢
  have hA : ∀ q : Nat, s.heap.size ≤ q → A q := fun q h => by rw [← hAe]; exact Or.inr h
  have hS : va_S A s.heap s.heap [] := va_S.rf
  have hP : va_P (dC, dI) vwCl [(x, .inr (0, [.null]))] s.heap := hP
  have hl := lv_entry ([.ref x]) (n := 1) (Nat.le_of_ble_eq_true rfl)
  rw [lg_entry_eq]
  generalize (lg_sl ([.ref x]) ++ List.replicate (1 - (lg_sl ([.ref x])).length) Slot.unset).toArray = ls at hl ⊢
  have hl : lv_has ls 1 [(0, .ref x)] := hl
  refine lv_aload_n hx hb dX0_init_0 rfl (lv_at hl 0 rfl) ?_
  refine W.objInit hx hb hown (hts _ q21) (hts _ q22) (hts _ q23) rfl (by rw [hml]; exact hl.1) rfl dX0_init_1 (Nat.le_of_ble_eq_true rfl) (Nat.le_of_ble_eq_true rfl) ?_
  refine W.eq (g2 := F0 m 4 ls []) rfl ?_
  refine lv_aload_n hx hb dX0_init_4 rfl (lv_at hl 0 rfl) ?_
  refine va_new (ci := 1) (fs := [.null, .int 0, .null, .int 0, .int 0]) (C := RX1) (T := TX1) (N := 5) hx hb hts in_X1 tyX1 tyX1_ok hown (hts _ q24) (hts _ q25) (hts _ q7) hK hP hD hS hA rfl (fun j hj => by rcases (show j = 0 ∨ j = 1 ∨ j = 2 ∨ j = 3 ∨ j = 4 by omega) with rfl | rfl | rfl | rfl | rfl <;> rfl) (Nat.le_of_ble_eq_true rfl) (Nat.le_of_ble_eq_true rfl) dX0_init_5 (fun h_1 H hP hD hS => ?_)
  have hP : va_P (dC, dI) vwCl [(x, .inr (0, [.null])), (h_1, .inr (1, [.null, .int 0, .null, .int 0, .int 0]))] H := hP
  have hD : va_D A [(x, .inr (0, [.null])), (h_1, .inr (1, [.null, .int 0, .null, .int 0, .int 0]))] := hD
  refine lv_dup hx hb dX0_init_8 rfl ?_
  have hPc := hP.sub (ws' := [(h_1, .inr (1, [.null, .int 0, .null, .int 0, .int 0]))]) [1] rfl
  have hDc := hD.sub (ws' := [(h_1, .inr (1, [.null, .int 0, .null, .int 0, .int 0]))]) [1] (by decide) rfl
  have hKc := hK.sub (tys' := [(dA, .int)]) [0] rfl
  have hFc := va_free (wc := [(h_1, .inr (1, [.null, .int 0, .null, .int 0, .int 0]))]) hD hS hA [1] rfl
  refine va_callv (va_runI (As := []) (rest := [.ref h_1, .ref x]) ⟨hx, hb, hml, hown, hts⟩ (met_qinit l dC dI dA h_1 e0 H.size) (cwI 0 hts (lw_meth q28) rfl rfl rfl (hts _ q7) (hts _ q26) (hts _ q27) rfl (by decide +kernel) ⟨Nat.le_of_ble_eq_true rfl, Nat.le_of_ble_eq_true rfl⟩) ⟨fun a U g mk q => by obtain ⟨q0, q1, qP, qK, qD, qZ⟩ := q; exact ⟨q0, q1, qP, va_K.moved (u := U) (U := U.calling g mk a) (Vm.Alike.refl U.vm) qK, qD, va_Z.moved (u := U) (U := U.calling g mk a) (Vm.Alike.refl U.vm) qZ⟩, fun U hU hW => ⟨rfl, by rw [hU], by rw [hU]; exact hPc, va_K.moved hW.alike hKc, hDc.weaken (fun _ _ _ _ => trivial), by rw [hU]; exact va_Z.moved hW.alike ((hZ.kept hS.2.1).narrow hFc)⟩⟩ rfl rfl hl.1 rfl (lv_room (Nat.le_of_ble_eq_true rfl)) dX0_init_9 ⟨Nat.le_of_ble_eq_true rfl, Nat.le_of_ble_eq_true rfl⟩) hS (fun q _ h => hFc q h) hFc (fun _u t H locs ht hvm hw hB hz1 hk1 hS => ?_)
  obtain ⟨hP1, hK1, hD1⟩ := hB
  rw [ht] at hP1
  obtain ⟨hP, hD⟩ := va_join (wr := [(x, .inr (0, [.null]))]) (w1 := [(h_1, .inr (1, [.ref e0, .int 0, .null, .int 0, .int 0]))]) hP hD [1] [0] rfl rfl (by decide) (by decide) hk1 hFc hP1 hD1
  have hP : va_P (dC, dI) vwCl [(x, .inr (0, [.null])), (h_1, .inr (1, [.ref e0, .int 0, .null, .int 0, .int 0]))] H := hP
  have hD : va_D A [(x, .inr (0, [.null])), (h_1, .inr (1, [.ref e0, .int 0, .null, .int 0, .int 0]))] := hD
  refine va_putF (D := (dC, dI)) (ci := 0) (v := .ref h_1) (ty := .object "IntArrayPriorityQueue") (C := RX0) (T := TX0) (N := 1) hx hb hts in_X0 tyX0 tyX0_ok nmX0 hown hK hP hD hS 0 rfl rfl 0 (by decide) (hts _ q52) (fun _ h9 => h9) rfl hin rfl (by decide +kernel) rfl rfl (Nat.le_of_ble_eq_true rfl) dX0_init_12 (fun H locs hP hD hS => ?_)
  have hP : va_P (dC, dI) vwCl [(x, .inr (0, [.ref h_1])), (h_1, .inr (1, [.ref e0, .int 0, .null, .int 0, .int 0]))] H := hP
  have hD : va_D A [(x, .inr (0, [.ref h_1])), (h_1, .inr (1, [.ref e0, .int 0, .null, .int 0, .int 0]))] := hD
  have hP9 := hP.sub (ws' := [(x, .inr (0, [.ref h_1])), (h_1, .inr (1, [.ref e0, .int 0, .null, .int 0, .int 0]))]) [0, 1] rfl
  have hD9 := hD.sub (ws' := [(x, .inr (0, [.ref h_1])), (h_1, .inr (1, [.ref e0, .int 0, .null, .int 0, .int 0]))]) [0, 1] (by decide) rfl
  have hK9 := hK.sub (tys' := [(dA, .int)]) [0] rfl
  refine W.widen (k := 1) (n := 5) (Nat.le_of_ble_eq_true rfl) (Nat.le_of_ble_eq_true rfl) ?_
  exact W.vret hx hb hr (fun t ht hW => ⟨⟨(), rfl, trivial, ⟨h_1, by rw [ht]; exact hP9, va_K.moved hW.alike hK9, hD9⟩⟩, hS.F ht⟩) hS.2.2 dX0_init_15

set_option maxHeartbeats 4000000 in
set_option maxRecDepth 100000 in
/-- enter(v) -/
theorem met_denter (l : Launch) (dC : Nat → ClassId) (dI : Nat → Nat → Nat) (dA : ClassId) (x h a sz n z : Nat) (f : Nat → Int32) (fi fv : Int32) (L : List Int32) (v : Int32) (hq : aq_Q L n f z fi fv) : Met l yX0_enter (ws_ yX0_enter cX0_enter 2 (some .boolean)) ({ frames := 4, cells := 1, slots := 300, locals := 180 } : Room) (va_Pc [.ref x, .int v] (fun U => U.heap.size = sz ∧ va_P (dC, dI) vwCl [(x, .inr (0, [.ref h])), (h, .inr (1, [.ref a, .int (nI z), .null, .int fi, .int fv])), (a, .inl (dA, n, .inl f))] U.heap ∧ va_K (dC, dI) vwCl [(dA, .int)] U ∧ va_D (fun _ => True) [(x, .inr (0, [.ref h])), (h, .inr (1, [.ref a, .int (nI z), .null, .int fi, .int fv])), (a, .inl (dA, n, .inl f))])) (va_Qi (fun (y : Int32) (_ : Unit) => y = if L.length < 200 then 1 else 0) (fun (_ : Unit) t => aq_BD dC dI dA (va_A [(x, .inr (0, [.ref h])), (h, .inr (1, [.ref a, .int (nI z), .null, .int fi, .int fv])), (a, .inl (dA, n, .inl f))] sz) x h (if L.length < 200 then v :: L else L) t) (va_A [(x, .inr (0, [.ref h])), (h, .inr (1, [.ref a, .int (nI z), .null, .int fi, .int fv])), (a, .inl (dA, n, .inl f))] sz)) 1 300 (va_A [(x, .inr (0, [.ref h])), (h, .inr (1, [.ref a, .int (nI z), .null, .int fi, .int fv])), (a, .inl (dA, n, .inl f))] sz) := by
  refine Met.ofW (cc := cX0_enter) (maxL := 2) (ret := (some .boolean)) (by decide) rfl ?_
  intro p e s m args below meth c s₁ B hml hv
  obtain ⟨rfl, hsz, hP, hK, hD0⟩ := hv
  have hx := B.exec
  have hb := B.bytes
  have hr := B.returns
  have hts := atoms_spec (ws := ws_ yX0_enter cX0_enter 2 (some .boolean)) B.pre
  have hts : ∀ w ∈ lw_all, w.before _ s = true := fun w h => hts w (List.mem_cons_of_mem _ h)
  have hown : s.vm.findClass RX0 = some m.cls := findClass_of_methodNamed B.named
  have hlocks := B.notSynchronized
  subst hsz
  have hD := hD0.self (sz := s.heap.size)
  generalize hAe : va_A [(x, .inr (0, [.ref h])), (h, .inr (1, [.ref a, .int (nI z), .null, .int fi, .int fv])), (a, .inl (dA, n, .inl f))] s.heap.size = A at hD ⊢
  have hA : ∀ q : Nat, s.heap.size ≤ q → A q := fun q h => by rw [← hAe]; exact Or.inr h
  have hS : va_S A s.heap s.heap [] := va_S.rf
  have hP : va_P (dC, dI) vwCl [(x, .inr (0, [.ref h])), (h, .inr (1, [.ref a, .int (nI z), .null, .int fi, .int fv])), (a, .inl (dA, n, .inl f))] s.heap := hP
  have hl := lv_entry ([.ref x, .int v]) (n := 2) (Nat.le_of_ble_eq_true rfl)
  rw [lg_entry_eq]
  generalize (lg_sl ([.ref x, .int v]) ++ List.replicate (2 - (lg_sl ([.ref x, .int v])).length) Slot.unset).toArray = ls at hl ⊢
  have hl : lv_has ls 2 [(0, .ref x), (1, .int v)] := hl
  have hq1 := hq.1
  have hq2 := hq.2.1
  have hq3 := hq.2.2.1
  have hlen : L.length = z := hq.len
  refine lv_aload_n hx hb dX0_enter_0 rfl (lv_at hl 0 rfl) ?_
  refine va_get (D := (dC, dI)) (ci := 0) (v := .ref h) (C := RX0) (T := TX0) (N := 1) hx hb hts in_X0 hown hK hP 0 rfl rfl 0 (by decide) (hts _ q52) (fun _ h9 => h9) rfl dX0_enter_1 ?_
  have hPc := hP.sub (ws' := [(h, .inr (1, [.ref a, .int (nI z), .null, .int fi, .int fv]))]) [1] rfl
  have hDc := hD.sub (ws' := [(h, .inr (1, [.ref a, .int (nI z), .null, .int fi, .int fv]))]) [1] (by decide) rfl
  have hKc := hK.sub (tys' := [(dA, .int)]) [0] rfl
  have hFc := va_free (wc := [(h, .inr (1, [.ref a, .int (nI z), .null, .int fi, .int fv]))]) hD hS hA [1] rfl
  refine va_calli (va_runV (As := []) (rest := []) ⟨hx, hb, hml, hown, hts⟩ (met_qsize l dC dI dA h a s.heap.size (nI z) fi fv) (cwV 0 hts (lw_V q60 q61 q62 q7 q63) rfl rfl rfl (by decide +kernel) ⟨Nat.le_of_ble_eq_true rfl, Nat.le_of_ble_eq_true rfl⟩) ⟨fun a U g mk q => by obtain ⟨q0, q1, qP, qK, qD⟩ := q; exact ⟨q0, q1, qP, va_K.moved (u := U) (U := U.calling g mk a) (Vm.Alike.refl U.vm) qK, qD⟩, va_recv hKc hPc (ci := 1) (q0 := 0) rfl rfl, fun U hU hW => ⟨rfl, by rw [hU], by rw [hU]; exact hPc, va_K.moved hW.alike hKc, hDc.weaken (fun _ _ _ _ => trivial)⟩⟩ rfl rfl hl.1 rfl (lv_room (Nat.le_of_ble_eq_true rfl)) dX0_enter_4 ⟨Nat.le_of_ble_eq_true rfl, Nat.le_of_ble_eq_true rfl⟩) hS (fun q _ h => hFc q h) hFc (fun r_1 _u t H locs ht hvm hw hB hz1 hk1 hS => ?_)
  obtain ⟨hP1, hK1, hD1⟩ := hB
  rw [ht] at hP1
  obtain ⟨hP, hD⟩ := va_join (wr := [(x, .inr (0, [.ref h])), (a, .inl (dA, n, .inl f))]) (w1 := [(h, .inr (1, [.ref a, .int (nI z), .null, .int fi, .int fv]))]) hP hD [1] [0, 2] rfl rfl (by decide) (by decide) hk1 hFc hP1 hD1
  have hP : va_P (dC, dI) vwCl [(x, .inr (0, [.ref h])), (h, .inr (1, [.ref a, .int (nI z), .null, .int fi, .int fv])), (a, .inl (dA, n, .inl f))] H := hP.sub [0, 2, 1] rfl
  have hD : va_D A [(x, .inr (0, [.ref h])), (h, .inr (1, [.ref a, .int (nI z), .null, .int fi, .int fv])), (a, .inl (dA, n, .inl f))] := hD.sub [0, 2, 1] (by decide) rfl
  refine aq_asi (y := nI z) (hw) ?_
  refine lv_sipush (v := 200) hx hb dX0_enter_7 (by decide) ?_
  by_cases hz2 : z < 200
  · refine lv_icmp_lt (tgt := 15) hx hb dX0_enter_10 (by decide) (fun _ => ?_) (fun hn9 => absurd (show nI z < nI 200 from nI_lt hz2 (by omega)) hn9)
    refine lv_aload_n hx hb dX0_enter_15 rfl (lv_at hl 0 rfl) ?_
    refine va_get (D := (dC, dI)) (ci := 0) (v := .ref h) (C := RX0) (T := TX0) (N := 1) hx hb hts in_X0 hown hK hP 0 rfl rfl 0 (by decide) (hts _ q52) (fun _ h9 => h9) rfl dX0_enter_16 ?_
    refine lv_iload_n hx hb dX0_enter_19 rfl (lv_at hl 1 rfl) ?_
    have hPc := hP.sub (ws' := [(h, .inr (1, [.ref a, .int (nI z), .null, .int fi, .int fv])), (a, .inl (dA, n, .inl f))]) [1, 2] rfl
    have hDc := hD.sub (ws' := [(h, .inr (1, [.ref a, .int (nI z), .null, .int fi, .int fv])), (a, .inl (dA, n, .inl f))]) [1, 2] (by decide) rfl
    have hKc := hK.sub (tys' := [(dA, .int)]) [0] rfl
    have hFc := va_free (wc := [(h, .inr (1, [.ref a, .int (nI z), .null, .int fi, .int fv])), (a, .inl (dA, n, .inl f))]) hD hS hA [1, 2] rfl
    refine va_callv (va_runV (As := [.int v]) (rest := []) ⟨hx, hb, hml, hown, hts⟩ (met_qenq l dC dI dA h a H.size n z f fi fv L v hz2 hq) (cwV 1 hts (lw_V q64 q65 q66 q7 q67) rfl rfl rfl (by decide +kernel) ⟨Nat.le_of_ble_eq_true rfl, Nat.le_of_ble_eq_true rfl⟩) ⟨fun a U g mk q => by obtain ⟨q0, q1, qP, qK, qD⟩ := q; exact ⟨q0, q1, qP, va_K.moved (u := U) (U := U.calling g mk a) (Vm.Alike.refl U.vm) qK, qD⟩, va_recv hKc hPc (ci := 1) (q0 := 0) rfl rfl, fun U hU hW => ⟨rfl, by rw [hU], by rw [hU]; exact hPc, va_K.moved hW.alike hKc, hDc.weaken (fun _ _ _ _ => trivial)⟩⟩ rfl rfl hl.1 rfl (lv_room (Nat.le_of_ble_eq_true rfl)) dX0_enter_20 ⟨Nat.le_of_ble_eq_true rfl, Nat.le_of_ble_eq_true rfl⟩) hS (fun q _ h => hFc q h) hFc (fun _u t H locs ht hvm hw hB hz1 hk1 hS => ?_)
    obtain ⟨a2, n2, f2, z2, fi2, fv2, hq2_, hP1, hK1, hD1⟩ := hB
    rw [ht] at hP1
    obtain ⟨hP, hD⟩ := va_join (wr := [(x, .inr (0, [.ref h]))]) (w1 := [(h, .inr (1, [.ref a2, .int (nI z2), .null, .int fi2, .int fv2])), (a2, .inl (dA, n2, .inl f2))]) hP hD [1, 2] [0] rfl rfl (by decide) (by decide) hk1 hFc hP1 hD1
    have hP : va_P (dC, dI) vwCl [(x, .inr (0, [.ref h])), (h, .inr (1, [.ref a2, .int (nI z2), .null, .int fi2, .int fv2])), (a2, .inl (dA, n2, .inl f2))] H := hP
    have hD : va_D A [(x, .inr (0, [.ref h])), (h, .inr (1, [.ref a2, .int (nI z2), .null, .int fi2, .int fv2])), (a2, .inl (dA, n2, .inl f2))] := hD
    refine lv_iconst (v := 1) hx hb dX0_enter_23 (by decide) ?_
    have hP9 := hP.sub (ws' := [(x, .inr (0, [.ref h])), (h, .inr (1, [.ref a2, .int (nI z2), .null, .int fi2, .int fv2])), (a2, .inl (dA, n2, .inl f2))]) [0, 1, 2] rfl
    have hD9 := hD.sub (ws' := [(x, .inr (0, [.ref h])), (h, .inr (1, [.ref a2, .int (nI z2), .null, .int fi2, .int fv2])), (a2, .inl (dA, n2, .inl f2))]) [0, 1, 2] (by decide) rfl
    have hK9 := hK.sub (tys' := [(dA, .int)]) [0] rfl
    refine W.widen (k := 1) (n := 300) (Nat.le_of_ble_eq_true rfl) (Nat.le_of_ble_eq_true rfl) ?_
    exact W.zret (v := 1) hx hb hr rfl (fun t ht hW => ⟨⟨1, (), rfl, by rw [if_pos (by omega)], by rw [if_pos (by omega)]; exact ⟨a2, n2, f2, z2, fi2, fv2, hq2_, by rw [ht]; exact hP9, va_K.moved hW.alike hK9, hD9⟩⟩, hS.F ht⟩) hS.2.2 dX0_enter_24
  · refine lv_icmp_lt (tgt := 15) hx hb dX0_enter_10 (by decide) (fun hn9 => absurd hn9 (show ¬ nI z < nI 200 from nI_nlt (by omega) (by omega))) (fun _ => ?_)
    refine lv_iconst (v := 0) hx hb dX0_enter_13 (by decide) ?_
    have hP9 := hP.sub (ws' := [(x, .inr (0, [.ref h])), (h, .inr (1, [.ref a, .int (nI z), .null, .int fi, .int fv])), (a, .inl (dA, n, .inl f))]) [0, 1, 2] rfl
    have hD9 := hD.sub (ws' := [(x, .inr (0, [.ref h])), (h, .inr (1, [.ref a, .int (nI z), .null, .int fi, .int fv])), (a, .inl (dA, n, .inl f))]) [0, 1, 2] (by decide) rfl
    have hK9 := hK.sub (tys' := [(dA, .int)]) [0] rfl
    refine W.widen (k := 1) (n := 300) (Nat.le_of_ble_eq_true rfl) (Nat.le_of_ble_eq_true rfl) ?_
    exact W.zret (v := 0) hx hb hr rfl (fun t ht hW => ⟨⟨0, (), rfl, by rw [if_neg (by omega)], by rw [if_neg (by omega)]; exact ⟨a, n, f, z, fi, fv, hq, by rw [ht]; exact hP9, va_K.moved hW.alike hK9, hD9⟩⟩, hS.F ht⟩) hS.2.2 dX0_enter_14

set_option maxHeartbeats 4000000 in
set_option maxRecDepth 100000 in
/-- many's loop: k are in, d are wanted -/
theorem lp_dmany {p : Program} {l : Launch} {e : Env} {R : Room} {s : State} {m : MethodId} {args : Array Value} {below : List Frame} {meth : Method} {c : Code} {Q : State → Prop} {dC : Nat → ClassId} {dI : Nat → Nat → Nat} {dA : ClassId} {A : Nat → Prop} {H0 : Heap} {x h : Nat} {fr st : Int32} (hx : p.tables.exec = Jvm.exec) (hb : c.code = cX0_many) (hml : c.maxLocals = 6) (hown : s.vm.findClass RX0 = some m.cls) (hts : ∀ w ∈ lw_all, w.before args s = true) (hK : va_K (dC, dI) vwCl [(dA, .int)] s) (hA : ∀ q : Nat, H0.size ≤ q → A q) (hRf : 4 ≤ R.frames) (hRl : 180 ≤ R.locals) (hRc : 15 ≤ R.cells) (hRs : 4500 ≤ R.slots) : ∀ (d k : Nat) (L : List Int32) (a n : Nat) (f : Nat → Int32) (z : Nat) (fi fv : Int32) (H : Heap) (locs : List Loc) (ls : Array Slot), k + d < 16 → aq_Q L n f z fi fv → va_P (dC, dI) vwCl [(x, .inr (0, [.ref h])), (h, .inr (1, [.ref a, .int (nI z), .null, .int fi, .int fv])), (a, .inl (dA, n, .inl f))] H → va_D A [(x, .inr (0, [.ref h])), (h, .inr (1, [.ref a, .int (nI z), .null, .int fi, .int fv])), (a, .inl (dA, n, .inl f))] → va_S A H0 H locs → lv_has ls 6 [(0, .ref x), (1, .int fr), (2, .int st), (4, .int (nI (k + d))), (5, .int (nI k))] → (∀ (a' n' : Nat) (f' : Nat → Int32) (z' : Nat) (fi' fv' : Int32) (H : Heap) (locs : List Loc) (ls : Array Slot), aq_Q (aq_many fr st d k L).2 n' f' z' fi' fv' → va_P (dC, dI) vwCl [(x, .inr (0, [.ref h])), (h, .inr (1, [.ref a', .int (nI z'), .null, .int fi', .int fv'])), (a', .inl (dA, n', .inl f'))] H → va_D A [(x, .inr (0, [.ref h])), (h, .inr (1, [.ref a', .int (nI z'), .null, .int fi', .int fv'])), (a', .inl (dA, n', .inl f'))] → va_S A H0 H locs → lv_has ls 6 [(5, .int (nI (aq_many fr st d k L).1))] → W p l e R s m args below meth c H locs 15 4500 Q (F0 m 48 ls [])) → W p l e R s m args below meth c H locs k (300 * k) Q (F0 m 9 ls []) := by
  intro d
  induction d with
  | zero =>
    intro k L a n f z fi fv H locs ls hkd hq hP hD hS hl k9
    refine lv_iload hx hb dX0_many_9 (lv_at hl 4 rfl) ?_
    refine lv_iload hx hb dX0_many_11 (lv_at hl 3 rfl) ?_
    refine lv_icmp_ge (tgt := 48) hx hb dX0_many_13 (by decide) (fun _ => ?_) (fun hn9 => absurd (nI_le (by omega) (by omega)) hn9)
    refine W.widen (k := 15) (n := 4500) (by omega) (by omega) ?_
    exact k9 a n f z fi fv H locs ls hq hP hD hS (lv_sub hl [4] rfl)
  | succ d ih =>
    intro k L a n f z fi fv H locs ls hkd hq hP hD hS hl k9
    have hq1 := hq.1
    have hq2 := hq.2.1
    have hq3 := hq.2.2.1
    have hlen : L.length = z := hq.len
    refine lv_iload hx hb dX0_many_9 (lv_at hl 4 rfl) ?_
    refine lv_iload hx hb dX0_many_11 (lv_at hl 3 rfl) ?_
    refine lv_icmp_ge (tgt := 48) hx hb dX0_many_13 (by decide) (fun hn9 => absurd hn9 (nI_ge (by omega) (by omega))) (fun _ => ?_)
    refine lv_aload_n hx hb dX0_many_16 rfl (lv_at hl 0 rfl) ?_
    refine va_get (D := (dC, dI)) (ci := 0) (v := .ref h) (C := RX0) (T := TX0) (N := 1) hx hb hts in_X0 hown hK hP 0 rfl rfl 0 (by decide) (hts _ q52) (fun _ h9 => h9) rfl dX0_many_17 ?_
    have hPc := hP.sub (ws' := [(h, .inr (1, [.ref a, .int (nI z), .null, .int fi, .int fv]))]) [1] rfl
    have hDc := hD.sub (ws' := [(h, .inr (1, [.ref a, .int (nI z), .null, .int fi, .int fv]))]) [1] (by decide) rfl
    have hKc := hK.sub (tys' := [(dA, .int)]) [0] rfl
    have hFc := va_free (wc := [(h, .inr (1, [.ref a, .int (nI z), .null, .int fi, .int fv]))]) hD hS hA [1] rfl
    refine va_calli (va_runV (As := []) (rest := []) ⟨hx, hb, hml, hown, hts⟩ (met_qsize l dC dI dA h a H.size (nI z) fi fv) (cwV 0 hts (lw_V q60 q61 q62 q7 q63) rfl rfl rfl (by decide +kernel) ⟨Nat.le_trans (Nat.le_of_ble_eq_true rfl) hRf, Nat.le_trans (Nat.le_of_ble_eq_true rfl) hRl⟩) ⟨fun a U g mk q => by obtain ⟨q0, q1, qP, qK, qD⟩ := q; exact ⟨q0, q1, qP, va_K.moved (u := U) (U := U.calling g mk a) (Vm.Alike.refl U.vm) qK, qD⟩, va_recv hKc hPc (ci := 1) (q0 := 0) rfl rfl, fun U hU hW => ⟨rfl, by rw [hU], by rw [hU]; exact hPc, va_K.moved hW.alike hKc, hDc.weaken (fun _ _ _ _ => trivial)⟩⟩ rfl rfl hl.1 rfl (lv_room (Nat.le_of_ble_eq_true rfl)) dX0_many_20 ⟨by omega, by omega⟩) hS (fun q _ h => hFc q h) hFc (fun r_1 _u t H locs ht hvm hw hB hz1 hk1 hS => ?_)
    obtain ⟨hP1, hK1, hD1⟩ := hB
    rw [ht] at hP1
    obtain ⟨hP, hD⟩ := va_join (wr := [(x, .inr (0, [.ref h])), (a, .inl (dA, n, .inl f))]) (w1 := [(h, .inr (1, [.ref a, .int (nI z), .null, .int fi, .int fv]))]) hP hD [1] [0, 2] rfl rfl (by decide) (by decide) hk1 hFc hP1 hD1
    have hP : va_P (dC, dI) vwCl [(x, .inr (0, [.ref h])), (h, .inr (1, [.ref a, .int (nI z), .null, .int fi, .int fv])), (a, .inl (dA, n, .inl f))] H := hP.sub [0, 2, 1] rfl
    have hD : va_D A [(x, .inr (0, [.ref h])), (h, .inr (1, [.ref a, .int (nI z), .null, .int fi, .int fv])), (a, .inl (dA, n, .inl f))] := hD.sub [0, 2, 1] (by decide) rfl
    refine aq_asi (y := nI z) (hw) ?_
    refine lv_sipush (v := 200) hx hb dX0_many_23 (by decide) ?_
    by_cases hz2 : z < 200
    · refine lv_icmp_ge (tgt := 48) hx hb dX0_many_26 (by decide) (fun hn9 => absurd hn9 (show ¬ nI 200 ≤ nI z from nI_ge hz2 (by omega))) (fun _ => ?_)
      rw [aq_many_s fr st d k L (by omega)] at k9
      refine lv_aload_n hx hb dX0_many_29 rfl (lv_at hl 0 rfl) ?_
      refine va_get (D := (dC, dI)) (ci := 0) (v := .ref h) (C := RX0) (T := TX0) (N := 1) hx hb hts in_X0 hown hK hP 0 rfl rfl 0 (by decide) (hts _ q52) (fun _ h9 => h9) rfl dX0_many_30 ?_
      refine lv_iload_n hx hb dX0_many_33 rfl (lv_at hl 1 rfl) ?_
      refine lv_iload_n hx hb dX0_many_34 rfl (lv_at hl 2 rfl) ?_
      refine lv_iload hx hb dX0_many_35 (lv_at hl 4 rfl) ?_
      refine lv_imul hx hb dX0_many_37 ?_
      refine lv_iadd hx hb dX0_many_38 ?_
      have hPc := hP.sub (ws' := [(h, .inr (1, [.ref a, .int (nI z), .null, .int fi, .int fv])), (a, .inl (dA, n, .inl f))]) [1, 2] rfl
      have hDc := hD.sub (ws' := [(h, .inr (1, [.ref a, .int (nI z), .null, .int fi, .int fv])), (a, .inl (dA, n, .inl f))]) [1, 2] (by decide) rfl
      have hKc := hK.sub (tys' := [(dA, .int)]) [0] rfl
      have hFc := va_free (wc := [(h, .inr (1, [.ref a, .int (nI z), .null, .int fi, .int fv])), (a, .inl (dA, n, .inl f))]) hD hS hA [1, 2] rfl
      refine va_callv (va_runV (As := [.int (fr + (st * (nI k)))]) (rest := []) ⟨hx, hb, hml, hown, hts⟩ (met_qenq l dC dI dA h a H.size n z f fi fv L (fr + st * nI k) hz2 hq) (cwV 1 hts (lw_V q64 q65 q66 q7 q67) rfl rfl rfl (by decide +kernel) ⟨Nat.le_trans (Nat.le_of_ble_eq_true rfl) hRf, Nat.le_trans (Nat.le_of_ble_eq_true rfl) hRl⟩) ⟨fun a U g mk q => by obtain ⟨q0, q1, qP, qK, qD⟩ := q; exact ⟨q0, q1, qP, va_K.moved (u := U) (U := U.calling g mk a) (Vm.Alike.refl U.vm) qK, qD⟩, va_recv hKc hPc (ci := 1) (q0 := 0) rfl rfl, fun U hU hW => ⟨rfl, by rw [hU], by rw [hU]; exact hPc, va_K.moved hW.alike hKc, hDc.weaken (fun _ _ _ _ => trivial)⟩⟩ rfl rfl hl.1 rfl (lv_room (Nat.le_of_ble_eq_true rfl)) dX0_many_39 ⟨by omega, by omega⟩) hS (fun q _ h => hFc q h) hFc (fun _u t H locs ht hvm hw hB hz1 hk1 hS => ?_)
      obtain ⟨a2, n2, f2, z2, fi2, fv2, hq2_, hP1, hK1, hD1⟩ := hB
      rw [ht] at hP1
      obtain ⟨hP, hD⟩ := va_join (wr := [(x, .inr (0, [.ref h]))]) (w1 := [(h, .inr (1, [.ref a2, .int (nI z2), .null, .int fi2, .int fv2])), (a2, .inl (dA, n2, .inl f2))]) hP hD [1, 2] [0] rfl rfl (by decide) (by decide) hk1 hFc hP1 hD1
      have hP : va_P (dC, dI) vwCl [(x, .inr (0, [.ref h])), (h, .inr (1, [.ref a2, .int (nI z2), .null, .int fi2, .int fv2])), (a2, .inl (dA, n2, .inl f2))] H := hP
      have hD : va_D A [(x, .inr (0, [.ref h])), (h, .inr (1, [.ref a2, .int (nI z2), .null, .int fi2, .int fv2])), (a2, .inl (dA, n2, .inl f2))] := hD
      refine lv_iinc (v := nI (k + 1)) (lv' := [(5, .int (nI (k + 1))), (0, .ref x), (1, .int fr), (2, .int st), (4, .int (nI (k + (d + 1))))]) hx hb dX0_many_42 hl (k := 4) rfl (aq_incS k) (by decide) rfl (fun ls hl => ?_)
      refine lv_goto (tgt := 9) hx hb dX0_many_45 (by decide) ?_
      refine W.widen (k := k + 1) (n := 300 * (k + 1)) (by omega) (by omega) ?_
      exact ih (k + 1) ((fr + st * nI k) :: L) a2 n2 f2 z2 fi2 fv2 H locs ls (by omega) hq2_ hP hD hS (by rw [show k + 1 + d = k + (d + 1) by omega]; exact lv_sub hl [1, 2, 3, 4, 0] rfl) k9
    · refine lv_icmp_ge (tgt := 48) hx hb dX0_many_26 (by decide) (fun _ => ?_) (fun hn9 => absurd (show nI 200 ≤ nI z from nI_le (by omega) (by omega)) hn9)
      rw [aq_many_full fr st (d + 1) k L (by omega)] at k9
      refine W.widen (k := 15) (n := 4500) (by omega) (by omega) ?_
      exact k9 a n f z fi fv H locs ls hq hP hD hS (lv_sub hl [4] rfl)

set_option maxHeartbeats 4000000 in
set_option maxRecDepth 100000 in
/-- many(from, step, n) -/
theorem met_dmany (l : Launch) (dC : Nat → ClassId) (dI : Nat → Nat → Nat) (dA : ClassId) (x h a sz n z : Nat) (f : Nat → Int32) (fi fv : Int32) (L : List Int32) (fr st nn : Int32) (hq : aq_Q L n f z fi fv) : Met l yX0_many (ws_ yX0_many cX0_many 6 (some .int)) ({ frames := 4, cells := 15, slots := 4500, locals := 180 } : Room) (va_Pc [.ref x, .int fr, .int st, .int nn] (fun U => U.heap.size = sz ∧ va_P (dC, dI) vwCl [(x, .inr (0, [.ref h])), (h, .inr (1, [.ref a, .int (nI z), .null, .int fi, .int fv])), (a, .inl (dA, n, .inl f))] U.heap ∧ va_K (dC, dI) vwCl [(dA, .int)] U ∧ va_D (fun _ => True) [(x, .inr (0, [.ref h])), (h, .inr (1, [.ref a, .int (nI z), .null, .int fi, .int fv])), (a, .inl (dA, n, .inl f))])) (va_Qi (fun (y : Int32) (_ : Unit) => y = nI (aq_many fr st (aq_c nn) 0 L).1) (fun (_ : Unit) t => aq_BD dC dI dA (va_A [(x, .inr (0, [.ref h])), (h, .inr (1, [.ref a, .int (nI z), .null, .int fi, .int fv])), (a, .inl (dA, n, .inl f))] sz) x h (aq_many fr st (aq_c nn) 0 L).2 t) (va_A [(x, .inr (0, [.ref h])), (h, .inr (1, [.ref a, .int (nI z), .null, .int fi, .int fv])), (a, .inl (dA, n, .inl f))] sz)) 15 4500 (va_A [(x, .inr (0, [.ref h])), (h, .inr (1, [.ref a, .int (nI z), .null, .int fi, .int fv])), (a, .inl (dA, n, .inl f))] sz) := by
  refine Met.ofW (cc := cX0_many) (maxL := 6) (ret := (some .int)) (by decide) rfl ?_
  intro p e s m args below meth c s₁ B hml hv
  obtain ⟨rfl, hsz, hP, hK, hD0⟩ := hv
  have hx := B.exec
  have hb := B.bytes
  have hr := B.returns
  have hts := atoms_spec (ws := ws_ yX0_many cX0_many 6 (some .int)) B.pre
  have hts : ∀ w ∈ lw_all, w.before _ s = true := fun w h => hts w (List.mem_cons_of_mem _ h)
  have hown : s.vm.findClass RX0 = some m.cls := findClass_of_methodNamed B.named
  have hlocks := B.notSynchronized
  subst hsz
  have hD := hD0.self (sz := s.heap.size)
  generalize hAe : va_A [(x, .inr (0, [.ref h])), (h, .inr (1, [.ref a, .int (nI z), .null, .int fi, .int fv])), (a, .inl (dA, n, .inl f))] s.heap.size = A at hD ⊢
  have hA : ∀ q : Nat, s.heap.size ≤ q → A q := fun q h => by rw [← hAe]; exact Or.inr h
  have hS : va_S A s.heap s.heap [] := va_S.rf
  have hP : va_P (dC, dI) vwCl [(x, .inr (0, [.ref h])), (h, .inr (1, [.ref a, .int (nI z), .null, .int fi, .int fv])), (a, .inl (dA, n, .inl f))] s.heap := hP
  have hl := lv_entry ([.ref x, .int fr, .int st, .int nn]) (n := 6) (Nat.le_of_ble_eq_true rfl)
  rw [lg_entry_eq]
  generalize (lg_sl ([.ref x, .int fr, .int st, .int nn]) ++ List.replicate (6 - (lg_sl ([.ref x, .int fr, .int st, .int nn])).length) Slot.unset).toArray = ls at hl ⊢
  have hl : lv_has ls 6 [(0, .ref x), (1, .int fr), (2, .int st), (3, .int nn)] := hl
  have hc := aq_and15 nn
  refine lv_iload_n hx hb dX0_many_0 rfl (lv_at hl 3 rfl) ?_
  refine lv_bipush (v := 15) hx hb dX0_many_1 (by decide) ?_
  refine lv_iand hx hb dX0_many_3 ?_
  refine aq_asi (y := nI (aq_c nn)) (hc.2) ?_
  refine lv_istore (lv' := [(4, .int (nI (aq_c nn))), (0, .ref x), (1, .int fr), (2, .int st), (3, .int nn)]) hx hb dX0_many_4 hl (by decide) rfl (fun ls hl => ?_)
  refine lv_iconst (v := 0) hx hb dX0_many_6 (by decide) ?_
  refine aq_asi (y := nI 0) (rfl) ?_
  refine lv_istore (lv' := [(5, .int (nI 0)), (4, .int (nI (aq_c nn))), (0, .ref x), (1, .int fr), (2, .int st), (3, .int nn)]) hx hb dX0_many_7 hl (by decide) rfl (fun ls hl => ?_)
  refine W.widen (k := 0) (n := 300 * 0) (Nat.le_refl _) (Nat.zero_le _) ?_
  refine lp_dmany hx hb hml hown hts hK hA (Nat.le_refl _) (Nat.le_refl _) (Nat.le_refl _) (Nat.le_refl _) (aq_c nn) 0 L a n f z fi fv _ _ ls (by omega) hq hP hD hS (by rw [Nat.zero_add]; exact lv_sub hl [2, 3, 4, 1, 0] rfl) (fun a' n' f' z' fi' fv' H locs ls hq' hP hD hS hl => ?_)
  refine lv_iload hx hb dX0_many_48 (lv_at hl 0 rfl) ?_
  have hP9 := hP.sub (ws' := [(x, .inr (0, [.ref h])), (h, .inr (1, [.ref a', .int (nI z'), .null, .int fi', .int fv'])), (a', .inl (dA, n', .inl f'))]) [0, 1, 2] rfl
  have hD9 := hD.sub (ws' := [(x, .inr (0, [.ref h])), (h, .inr (1, [.ref a', .int (nI z'), .null, .int fi', .int fv'])), (a', .inl (dA, n', .inl f'))]) [0, 1, 2] (by decide) rfl
  have hK9 := hK.sub (tys' := [(dA, .int)]) [0] rfl
  exact W.iret (v := nI (aq_many fr st (aq_c nn) 0 L).1) hx hb hr (fun t ht hW => ⟨⟨nI (aq_many fr st (aq_c nn) 0 L).1, (), rfl, rfl, ⟨a', n', f', z', fi', fv', hq', by rw [ht]; exact hP9, va_K.moved hW.alike hK9, hD9⟩⟩, hS.F ht⟩) hS.2.2 dX0_many_50

set_option maxHeartbeats 4000000 in
set_option maxRecDepth 100000 in
/-- least() -/
theorem met_dleast (l : Launch) (dC : Nat → ClassId) (dI : Nat → Nat → Nat) (dA : ClassId) (x h a sz n z : Nat) (f : Nat → Int32) (fi fv : Int32) (L : List Int32) (hq : aq_Q L n f z fi fv) : Met l yX0_least (ws_ yX0_least cX0_least 1 (some .int)) ({ frames := 3, cells := 0, slots := 0, locals := 120 } : Room) (va_Pc [.ref x] (fun U => U.heap.size = sz ∧ va_P (dC, dI) vwCl [(x, .inr (0, [.ref h])), (h, .inr (1, [.ref a, .int (nI z), .null, .int fi, .int fv])), (a, .inl (dA, n, .inl f))] U.heap ∧ va_K (dC, dI) vwCl [(dA, .int)] U ∧ va_D (fun _ => True) [(x, .inr (0, [.ref h])), (h, .inr (1, [.ref a, .int (nI z), .null, .int fi, .int fv])), (a, .inl (dA, n, .inl f))])) (va_Qi (fun (y : Int32) (_ : Unit) => y = if L.length = 0 then 0 else aq_min L) (fun (_ : Unit) t => aq_BD dC dI dA (va_A [(x, .inr (0, [.ref h])), (h, .inr (1, [.ref a, .int (nI z), .null, .int fi, .int fv])), (a, .inl (dA, n, .inl f))] sz) x h L t) (va_A [(x, .inr (0, [.ref h])), (h, .inr (1, [.ref a, .int (nI z), .null, .int fi, .int fv])), (a, .inl (dA, n, .inl f))] sz)) 0 0 (va_A [(x, .inr (0, [.ref h])), (h, .inr (1, [.ref a, .int (nI z), .null, .int fi, .int fv])), (a, .inl (dA, n, .inl f))] sz) := by
  refine Met.ofW (cc := cX0_least) (maxL := 1) (ret := (some .int)) (by decide) rfl ?_
  intro p e s m args below meth c s₁ B hml hv
  obtain ⟨rfl, hsz, hP, hK, hD0⟩ := hv
  have hx := B.exec
  have hb := B.bytes
  have hr := B.returns
  have hts := atoms_spec (ws := ws_ yX0_least cX0_least 1 (some .int)) B.pre
  have hts : ∀ w ∈ lw_all, w.before _ s = true := fun w h => hts w (List.mem_cons_of_mem _ h)
  have hown : s.vm.findClass RX0 = some m.cls := findClass_of_methodNamed B.named
  have hlocks := B.notSynchronized
  subst hsz
  have hD := hD0.self (sz := s.heap.size)
  generalize hAe : va_A [(x, .inr (0, [.ref h])), (h, .inr (1, [.ref a, .int (nI z), .null, .int fi, .int fv])), (a, .inl (dA, n, .inl f))] s.heap.size = A at hD ⊢
  have hA : ∀ q : Nat, s.heap.size ≤ q → A q := fun q h => by rw [← hAe]; exact Or.inr h
  have hS : va_S A s.heap s.heap [] := va_S.rf
  have hP : va_P (dC, dI) vwCl [(x, .inr (0, [.ref h])), (h, .inr (1, [.ref a, .int (nI z), .null, .int fi, .int fv])), (a, .inl (dA, n, .inl f))] s.heap := hP
  have hl := lv_entry ([.ref x]) (n := 1) (Nat.le_of_ble_eq_true rfl)
  rw [lg_entry_eq]
  generalize (lg_sl ([.ref x]) ++ List.replicate (1 - (lg_sl ([.ref x])).length) Slot.unset).toArray = ls at hl ⊢
  have hl : lv_has ls 1 [(0, .ref x)] := hl
  have hq1 := hq.1
  have hq2 := hq.2.1
  have hq3 := hq.2.2.1
  have hlen : L.length = z := hq.len
  refine lv_aload_n hx hb dX0_least_0 rfl (lv_at hl 0 rfl) ?_
  refine va_get (D := (dC, dI)) (ci := 0) (v := .ref h) (C := RX0) (T := TX0) (N := 1) hx hb hts in_X0 hown hK hP 0 rfl rfl 0 (by decide) (hts _ q52) (fun _ h9 => h9) rfl dX0_least_1 ?_
  have hPc := hP.sub (ws' := [(h, .inr (1, [.ref a, .int (nI z), .null, .int fi, .int fv]))]) [1] rfl
  have hDc := hD.sub (ws' := [(h, .inr (1, [.ref a, .int (nI z), .null, .int fi, .int fv]))]) [1] (by decide) rfl
  have hKc := hK.sub (tys' := [(dA, .int)]) [0] rfl
  have hFc := va_free (wc := [(h, .inr (1, [.ref a, .int (nI z), .null, .int fi, .int fv]))]) hD hS hA [1] rfl
  refine va_calli (va_runV (As := []) (rest := []) ⟨hx, hb, hml, hown, hts⟩ (met_qsize l dC dI dA h a s.heap.size (nI z) fi fv) (cwV 0 hts (lw_V q60 q61 q62 q7 q63) rfl rfl rfl (by decide +kernel) ⟨Nat.le_of_ble_eq_true rfl, Nat.le_of_ble_eq_true rfl⟩) ⟨fun a U g mk q => by obtain ⟨q0, q1, qP, qK, qD⟩ := q; exact ⟨q0, q1, qP, va_K.moved (u := U) (U := U.calling g mk a) (Vm.Alike.refl U.vm) qK, qD⟩, va_recv hKc hPc (ci := 1) (q0 := 0) rfl rfl, fun U hU hW => ⟨rfl, by rw [hU], by rw [hU]; exact hPc, va_K.moved hW.alike hKc, hDc.weaken (fun _ _ _ _ => trivial)⟩⟩ rfl rfl hl.1 rfl (lv_room (Nat.le_of_ble_eq_true rfl)) dX0_least_4 ⟨Nat.le_of_ble_eq_true rfl, Nat.le_of_ble_eq_true rfl⟩) hS (fun q _ h => hFc q h) hFc (fun r_1 _u t H locs ht hvm hw hB hz1 hk1 hS => ?_)
  obtain ⟨hP1, hK1, hD1⟩ := hB
  rw [ht] at hP1
  obtain ⟨hP, hD⟩ := va_join (wr := [(x, .inr (0, [.ref h])), (a, .inl (dA, n, .inl f))]) (w1 := [(h, .inr (1, [.ref a, .int (nI z), .null, .int fi, .int fv]))]) hP hD [1] [0, 2] rfl rfl (by decide) (by decide) hk1 hFc hP1 hD1
  have hP : va_P (dC, dI) vwCl [(x, .inr (0, [.ref h])), (h, .inr (1, [.ref a, .int (nI z), .null, .int fi, .int fv])), (a, .inl (dA, n, .inl f))] H := hP.sub [0, 2, 1] rfl
  have hD : va_D A [(x, .inr (0, [.ref h])), (h, .inr (1, [.ref a, .int (nI z), .null, .int fi, .int fv])), (a, .inl (dA, n, .inl f))] := hD.sub [0, 2, 1] (by decide) rfl
  refine aq_asi (y := nI z) (hw) ?_
  rcases Nat.eq_zero_or_pos z with hz0 | hz0
  · refine lv_if_ne (tgt := 14) hx hb dX0_least_7 (by decide) (fun hn9 => absurd hn9 (fun q9 => q9 (by rw [hz0]; exact nI_0))) (fun _ => ?_)
    refine lv_iconst (v := 0) hx hb dX0_least_10 (by decide) ?_
    refine lv_goto (tgt := 21) hx hb dX0_least_11 (by decide) ?_
    have hP9 := hP.sub (ws' := [(x, .inr (0, [.ref h])), (h, .inr (1, [.ref a, .int (nI z), .null, .int fi, .int fv])), (a, .inl (dA, n, .inl f))]) [0, 1, 2] rfl
    have hD9 := hD.sub (ws' := [(x, .inr (0, [.ref h])), (h, .inr (1, [.ref a, .int (nI z), .null, .int fi, .int fv])), (a, .inl (dA, n, .inl f))]) [0, 1, 2] (by decide) rfl
    have hK9 := hK.sub (tys' := [(dA, .int)]) [0] rfl
    exact W.iret (v := 0) hx hb hr (fun t ht hW => ⟨⟨0, (), rfl, by rw [if_pos (by omega)], ⟨a, n, f, z, fi, fv, hq, by rw [ht]; exact hP9, va_K.moved hW.alike hK9, hD9⟩⟩, hS.F ht⟩) hS.2.2 dX0_least_21
  · refine lv_if_ne (tgt := 14) hx hb dX0_least_7 (by decide) (fun _ => ?_) (fun hn9 => absurd hn9 (nI_ne0 hz0 (by omega)))
    refine lv_aload_n hx hb dX0_least_14 rfl (lv_at hl 0 rfl) ?_
    refine va_get (D := (dC, dI)) (ci := 0) (v := .ref h) (C := RX0) (T := TX0) (N := 1) hx hb hts in_X0 hown hK hP 0 rfl rfl 0 (by decide) (hts _ q52) (fun _ h9 => h9) rfl dX0_least_15 ?_
    have hPc := hP.sub (ws' := [(h, .inr (1, [.ref a, .int (nI z), .null, .int fi, .int fv])), (a, .inl (dA, n, .inl f))]) [1, 2] rfl
    have hDc := hD.sub (ws' := [(h, .inr (1, [.ref a, .int (nI z), .null, .int fi, .int fv])), (a, .inl (dA, n, .inl f))]) [1, 2] (by decide) rfl
    have hKc := hK.sub (tys' := [(dA, .int)]) [0] rfl
    have hFc := va_free (wc := [(h, .inr (1, [.ref a, .int (nI z), .null, .int fi, .int fv])), (a, .inl (dA, n, .inl f))]) hD hS hA [1, 2] rfl
    refine va_calli (va_runV (As := []) (rest := []) ⟨hx, hb, hml, hown, hts⟩ (met_qfirst l dC dI dA h a H.size n z f fi fv L hz0 hq) (cwV 0 hts (lw_V q92 q93 q94 q7 q95) rfl rfl rfl (by decide +kernel) ⟨Nat.le_of_ble_eq_true rfl, Nat.le_of_ble_eq_true rfl⟩) ⟨fun a U g mk q => by obtain ⟨q0, q1, qP, qK, qD⟩ := q; exact ⟨q0, q1, qP, va_K.moved (u := U) (U := U.calling g mk a) (Vm.Alike.refl U.vm) qK, qD⟩, va_recv hKc hPc (ci := 1) (q0 := 0) rfl rfl, fun U hU hW => ⟨rfl, by rw [hU], by rw [hU]; exact hPc, va_K.moved hW.alike hKc, hDc.weaken (fun _ _ _ _ => trivial)⟩⟩ rfl rfl hl.1 rfl (lv_room (Nat.le_of_ble_eq_true rfl)) dX0_least_18 ⟨Nat.le_of_ble_eq_true rfl, Nat.le_of_ble_eq_true rfl⟩) hS (fun q _ h => hFc q h) hFc (fun r_2 _u t H locs ht hvm hw hB hz1 hk1 hS => ?_)
    obtain ⟨a2, n2, f2, z2, fi2, fv2, hq2_, hP1, hK1, hD1⟩ := hB
    rw [ht] at hP1
    obtain ⟨hP, hD⟩ := va_join (wr := [(x, .inr (0, [.ref h]))]) (w1 := [(h, .inr (1, [.ref a2, .int (nI z2), .null, .int fi2, .int fv2])), (a2, .inl (dA, n2, .inl f2))]) hP hD [1, 2] [0] rfl rfl (by decide) (by decide) hk1 hFc hP1 hD1
    have hP : va_P (dC, dI) vwCl [(x, .inr (0, [.ref h])), (h, .inr (1, [.ref a2, .int (nI z2), .null, .int fi2, .int fv2])), (a2, .inl (dA, n2, .inl f2))] H := hP
    have hD : va_D A [(x, .inr (0, [.ref h])), (h, .inr (1, [.ref a2, .int (nI z2), .null, .int fi2, .int fv2])), (a2, .inl (dA, n2, .inl f2))] := hD
    have hP9 := hP.sub (ws' := [(x, .inr (0, [.ref h])), (h, .inr (1, [.ref a2, .int (nI z2), .null, .int fi2, .int fv2])), (a2, .inl (dA, n2, .inl f2))]) [0, 1, 2] rfl
    have hD9 := hD.sub (ws' := [(x, .inr (0, [.ref h])), (h, .inr (1, [.ref a2, .int (nI z2), .null, .int fi2, .int fv2])), (a2, .inl (dA, n2, .inl f2))]) [0, 1, 2] (by decide) rfl
    have hK9 := hK.sub (tys' := [(dA, .int)]) [0] rfl
    exact W.iret (v := r_2) hx hb hr (fun t ht hW => ⟨⟨r_2, (), rfl, by rw [if_neg (by omega)]; exact hw, ⟨a2, n2, f2, z2, fi2, fv2, hq2_, by rw [ht]; exact hP9, va_K.moved hW.alike hK9, hD9⟩⟩, hS.F ht⟩) hS.2.2 dX0_least_21

set_option maxHeartbeats 4000000 in
set_option maxRecDepth 100000 in
/-- take() -/
theorem met_dtake (l : Launch) (dC : Nat → ClassId) (dI : Nat → Nat → Nat) (dA : ClassId) (x h a sz n z : Nat) (f : Nat → Int32) (fi fv : Int32) (L : List Int32) (hq : aq_Q L n f z fi fv) : Met l yX0_take (ws_ yX0_take cX0_take 1 (some .int)) ({ frames := 3, cells := 0, slots := 0, locals := 120 } : Room) (va_Pc [.ref x] (fun U => U.heap.size = sz ∧ va_P (dC, dI) vwCl [(x, .inr (0, [.ref h])), (h, .inr (1, [.ref a, .int (nI z), .null, .int fi, .int fv])), (a, .inl (dA, n, .inl f))] U.heap ∧ va_K (dC, dI) vwCl [(dA, .int)] U ∧ va_D (fun _ => True) [(x, .inr (0, [.ref h])), (h, .inr (1, [.ref a, .int (nI z), .null, .int fi, .int fv])), (a, .inl (dA, n, .inl f))])) (va_Qi (fun (y : Int32) (_ : Unit) => y = if L.length = 0 then 0 else aq_min L) (fun (_ : Unit) t => aq_BD dC dI dA (va_A [(x, .inr (0, [.ref h])), (h, .inr (1, [.ref a, .int (nI z), .null, .int fi, .int fv])), (a, .inl (dA, n, .inl f))] sz) x h (L.erase (aq_min L)) t) (va_A [(x, .inr (0, [.ref h])), (h, .inr (1, [.ref a, .int (nI z), .null, .int fi, .int fv])), (a, .inl (dA, n, .inl f))] sz)) 0 0 (va_A [(x, .inr (0, [.ref h])), (h, .inr (1, [.ref a, .int (nI z), .null, .int fi, .int fv])), (a, .inl (dA, n, .inl f))] sz) := by
  refine Met.ofW (cc := cX0_take) (maxL := 1) (ret := (some .int)) (by decide) rfl ?_
  intro p e s m args below meth c s₁ B hml hv
  obtain ⟨rfl, hsz, hP, hK, hD0⟩ := hv
  have hx := B.exec
  have hb := B.bytes
  have hr := B.returns
  have hts := atoms_spec (ws := ws_ yX0_take cX0_take 1 (some .int)) B.pre
  have hts : ∀ w ∈ lw_all, w.before _ s = true := fun w h => hts w (List.mem_cons_of_mem _ h)
  have hown : s.vm.findClass RX0 = some m.cls := findClass_of_methodNamed B.named
  have hlocks := B.notSynchronized
  subst hsz
  have hD := hD0.self (sz := s.heap.size)
  generalize hAe : va_A [(x, .inr (0, [.ref h])), (h, .inr (1, [.ref a, .int (nI z), .null, .int fi, .int fv])), (a, .inl (dA, n, .inl f))] s.heap.size = A at hD ⊢
  have hA : ∀ q : Nat, s.heap.size ≤ q → A q := fun q h => by rw [← hAe]; exact Or.inr h
  have hS : va_S A s.heap s.heap [] := va_S.rf
  have hP : va_P (dC, dI) vwCl [(x, .inr (0, [.ref h])), (h, .inr (1, [.ref a, .int (nI z), .null, .int fi, .int fv])), (a, .inl (dA, n, .inl f))] s.heap := hP
  have hl := lv_entry ([.ref x]) (n := 1) (Nat.le_of_ble_eq_true rfl)
  rw [lg_entry_eq]
  generalize (lg_sl ([.ref x]) ++ List.replicate (1 - (lg_sl ([.ref x])).length) Slot.unset).toArray = ls at hl ⊢
  have hl : lv_has ls 1 [(0, .ref x)] := hl
  have hq1 := hq.1
  have hq2 := hq.2.1
  have hq3 := hq.2.2.1
  have hlen : L.length = z := hq.len
  refine lv_aload_n hx hb dX0_take_0 rfl (lv_at hl 0 rfl) ?_
  refine va_get (D := (dC, dI)) (ci := 0) (v := .ref h) (C := RX0) (T := TX0) (N := 1) hx hb hts in_X0 hown hK hP 0 rfl rfl 0 (by decide) (hts _ q52) (fun _ h9 => h9) rfl dX0_take_1 ?_
  have hPc := hP.sub (ws' := [(h, .inr (1, [.ref a, .int (nI z), .null, .int fi, .int fv]))]) [1] rfl
  have hDc := hD.sub (ws' := [(h, .inr (1, [.ref a, .int (nI z), .null, .int fi, .int fv]))]) [1] (by decide) rfl
  have hKc := hK.sub (tys' := [(dA, .int)]) [0] rfl
  have hFc := va_free (wc := [(h, .inr (1, [.ref a, .int (nI z), .null, .int fi, .int fv]))]) hD hS hA [1] rfl
  refine va_calli (va_runV (As := []) (rest := []) ⟨hx, hb, hml, hown, hts⟩ (met_qsize l dC dI dA h a s.heap.size (nI z) fi fv) (cwV 0 hts (lw_V q60 q61 q62 q7 q63) rfl rfl rfl (by decide +kernel) ⟨Nat.le_of_ble_eq_true rfl, Nat.le_of_ble_eq_true rfl⟩) ⟨fun a U g mk q => by obtain ⟨q0, q1, qP, qK, qD⟩ := q; exact ⟨q0, q1, qP, va_K.moved (u := U) (U := U.calling g mk a) (Vm.Alike.refl U.vm) qK, qD⟩, va_recv hKc hPc (ci := 1) (q0 := 0) rfl rfl, fun U hU hW => ⟨rfl, by rw [hU], by rw [hU]; exact hPc, va_K.moved hW.alike hKc, hDc.weaken (fun _ _ _ _ => trivial)⟩⟩ rfl rfl hl.1 rfl (lv_room (Nat.le_of_ble_eq_true rfl)) dX0_take_4 ⟨Nat.le_of_ble_eq_true rfl, Nat.le_of_ble_eq_true rfl⟩) hS (fun q _ h => hFc q h) hFc (fun r_1 _u t H locs ht hvm hw hB hz1 hk1 hS => ?_)
  obtain ⟨hP1, hK1, hD1⟩ := hB
  rw [ht] at hP1
  obtain ⟨hP, hD⟩ := va_join (wr := [(x, .inr (0, [.ref h])), (a, .inl (dA, n, .inl f))]) (w1 := [(h, .inr (1, [.ref a, .int (nI z), .null, .int fi, .int fv]))]) hP hD [1] [0, 2] rfl rfl (by decide) (by decide) hk1 hFc hP1 hD1
  have hP : va_P (dC, dI) vwCl [(x, .inr (0, [.ref h])), (h, .inr (1, [.ref a, .int (nI z), .null, .int fi, .int fv])), (a, .inl (dA, n, .inl f))] H := hP.sub [0, 2, 1] rfl
  have hD : va_D A [(x, .inr (0, [.ref h])), (h, .inr (1, [.ref a, .int (nI z), .null, .int fi, .int fv])), (a, .inl (dA, n, .inl f))] := hD.sub [0, 2, 1] (by decide) rfl
  refine aq_asi (y := nI z) (hw) ?_
  rcases Nat.eq_zero_or_pos z with hz0 | hz0
  · refine lv_if_ne (tgt := 14) hx hb dX0_take_7 (by decide) (fun hn9 => absurd hn9 (fun q9 => q9 (by rw [hz0]; exact nI_0))) (fun _ => ?_)
    refine lv_iconst (v := 0) hx hb dX0_take_10 (by decide) ?_
    refine lv_goto (tgt := 21) hx hb dX0_take_11 (by decide) ?_
    have hnil : L = [] := List.eq_nil_of_length_eq_zero (by omega)
    have hP9 := hP.sub (ws' := [(x, .inr (0, [.ref h])), (h, .inr (1, [.ref a, .int (nI z), .null, .int fi, .int fv])), (a, .inl (dA, n, .inl f))]) [0, 1, 2] rfl
    have hD9 := hD.sub (ws' := [(x, .inr (0, [.ref h])), (h, .inr (1, [.ref a, .int (nI z), .null, .int fi, .int fv])), (a, .inl (dA, n, .inl f))]) [0, 1, 2] (by decide) rfl
    have hK9 := hK.sub (tys' := [(dA, .int)]) [0] rfl
    exact W.iret (v := 0) hx hb hr (fun t ht hW => ⟨⟨0, (), rfl, by rw [if_pos (by omega)], ⟨a, n, f, z, fi, fv, by rw [hnil] at hq ⊢; exact hq, by rw [ht]; exact hP9, va_K.moved hW.alike hK9, hD9⟩⟩, hS.F ht⟩) hS.2.2 dX0_take_21
  · obtain ⟨z1, rfl⟩ : ∃ z1, z = z1 + 1 := ⟨z - 1, by omega⟩
    refine lv_if_ne (tgt := 14) hx hb dX0_take_7 (by decide) (fun _ => ?_) (fun hn9 => absurd hn9 (nI_ne0 hz0 (by omega)))
    refine lv_aload_n hx hb dX0_take_14 rfl (lv_at hl 0 rfl) ?_
    refine va_get (D := (dC, dI)) (ci := 0) (v := .ref h) (C := RX0) (T := TX0) (N := 1) hx hb hts in_X0 hown hK hP 0 rfl rfl 0 (by decide) (hts _ q52) (fun _ h9 => h9) rfl dX0_take_15 ?_
    have hPc := hP.sub (ws' := [(h, .inr (1, [.ref a, .int (nI (z1 + 1)), .null, .int fi, .int fv])), (a, .inl (dA, n, .inl f))]) [1, 2] rfl
    have hDc := hD.sub (ws' := [(h, .inr (1, [.ref a, .int (nI (z1 + 1)), .null, .int fi, .int fv])), (a, .inl (dA, n, .inl f))]) [1, 2] (by decide) rfl
    have hKc := hK.sub (tys' := [(dA, .int)]) [0] rfl
    have hFc := va_free (wc := [(h, .inr (1, [.ref a, .int (nI (z1 + 1)), .null, .int fi, .int fv])), (a, .inl (dA, n, .inl f))]) hD hS hA [1, 2] rfl
    refine va_calli (va_runV (As := []) (rest := []) ⟨hx, hb, hml, hown, hts⟩ (met_qdeq l dC dI dA h a H.size n z1 f fi fv L hq) (cwV 0 hts (lw_V q169 q170 q171 q7 q172) rfl rfl rfl (by decide +kernel) ⟨Nat.le_of_ble_eq_true rfl, Nat.le_of_ble_eq_true rfl⟩) ⟨fun a U g mk q => by obtain ⟨q0, q1, qP, qK, qD⟩ := q; exact ⟨q0, q1, qP, va_K.moved (u := U) (U := U.calling g mk a) (Vm.Alike.refl U.vm) qK, qD⟩, va_recv hKc hPc (ci := 1) (q0 := 0) rfl rfl, fun U hU hW => ⟨rfl, by rw [hU], by rw [hU]; exact hPc, va_K.moved hW.alike hKc, hDc.weaken (fun _ _ _ _ => trivial)⟩⟩ rfl rfl hl.1 rfl (lv_room (Nat.le_of_ble_eq_true rfl)) dX0_take_18 ⟨Nat.le_of_ble_eq_true rfl, Nat.le_of_ble_eq_true rfl⟩) hS (fun q _ h => hFc q h) hFc (fun r_2 _u t H locs ht hvm hw hB hz1 hk1 hS => ?_)
    obtain ⟨a2, n2, f2, z2, fi2, fv2, hq2_, hP1, hK1, hD1⟩ := hB
    rw [ht] at hP1
    obtain ⟨hP, hD⟩ := va_join (wr := [(x, .inr (0, [.ref h]))]) (w1 := [(h, .inr (1, [.ref a2, .int (nI z2), .null, .int fi2, .int fv2])), (a2, .inl (dA, n2, .inl f2))]) hP hD [1, 2] [0] rfl rfl (by decide) (by decide) hk1 hFc hP1 hD1
    have hP : va_P (dC, dI) vwCl [(x, .inr (0, [.ref h])), (h, .inr (1, [.ref a2, .int (nI z2), .null, .int fi2, .int fv2])), (a2, .inl (dA, n2, .inl f2))] H := hP
    have hD : va_D A [(x, .inr (0, [.ref h])), (h, .inr (1, [.ref a2, .int (nI z2), .null, .int fi2, .int fv2])), (a2, .inl (dA, n2, .inl f2))] := hD
    have hP9 := hP.sub (ws' := [(x, .inr (0, [.ref h])), (h, .inr (1, [.ref a2, .int (nI z2), .null, .int fi2, .int fv2])), (a2, .inl (dA, n2, .inl f2))]) [0, 1, 2] rfl
    have hD9 := hD.sub (ws' := [(x, .inr (0, [.ref h])), (h, .inr (1, [.ref a2, .int (nI z2), .null, .int fi2, .int fv2])), (a2, .inl (dA, n2, .inl f2))]) [0, 1, 2] (by decide) rfl
    have hK9 := hK.sub (tys' := [(dA, .int)]) [0] rfl
    exact W.iret (v := r_2) hx hb hr (fun t ht hW => ⟨⟨r_2, (), rfl, by rw [if_neg (by omega)]; exact hw, ⟨a2, n2, f2, z2, fi2, fv2, hq2_, by rw [ht]; exact hP9, va_K.moved hW.alike hK9, hD9⟩⟩, hS.F ht⟩) hS.2.2 dX0_take_21

set_option maxHeartbeats 4000000 in
set_option maxRecDepth 100000 in
/-- takeMany's loop: d are wanted -/
theorem lp_dtk {p : Program} {l : Launch} {e : Env} {R : Room} {s : State} {m : MethodId} {args : Array Value} {below : List Frame} {meth : Method} {c : Code} {cells slots : Nat} {Q : State → Prop} {dC : Nat → ClassId} {dI : Nat → Nat → Nat} {dA : ClassId} {A : Nat → Prop} {H0 : Heap} {x h : Nat} (hx : p.tables.exec = Jvm.exec) (hb : c.code = cX0_takeMany) (hml : c.maxLocals = 5) (hown : s.vm.findClass RX0 = some m.cls) (hts : ∀ w ∈ lw_all, w.before args s = true) (hK : va_K (dC, dI) vwCl [(dA, .int)] s) (hA : ∀ q : Nat, H0.size ≤ q → A q) (hRf : 3 ≤ R.frames) (hRl : 120 ≤ R.locals) (hRc : cells ≤ R.cells) (hRs : slots ≤ R.slots) : ∀ (d : Nat) (y : Int64) (L : List Int32) (a n : Nat) (f : Nat → Int32) (z : Nat) (fi fv : Int32) (H : Heap) (locs : List Loc) (ls : Array Slot), d < 16 → aq_Q L n f z fi fv → va_P (dC, dI) vwCl [(x, .inr (0, [.ref h])), (h, .inr (1, [.ref a, .int (nI z), .null, .int fi, .int fv])), (a, .inl (dA, n, .inl f))] H → va_D A [(x, .inr (0, [.ref h])), (h, .inr (1, [.ref a, .int (nI z), .null, .int fi, .int fv])), (a, .inl (dA, n, .inl f))] → va_S A H0 H locs → lv_has ls 5 [(0, .ref x), (2, .long y), (4, .int (nI d))] → (∀ (a' n' : Nat) (f' : Nat → Int32) (z' : Nat) (fi' fv' : Int32) (H : Heap) (locs : List Loc) (ls : Array Slot), aq_Q (aq_tk d y L).2 n' f' z' fi' fv' → va_P (dC, dI) vwCl [(x, .inr (0, [.ref h])), (h, .inr (1, [.ref a', .int (nI z'), .null, .int fi', .int fv'])), (a', .inl (dA, n', .inl f'))] H → va_D A [(x, .inr (0, [.ref h])), (h, .inr (1, [.ref a', .int (nI z'), .null, .int fi', .int fv'])), (a', .inl (dA, n', .inl f'))] → va_S A H0 H locs → lv_has ls 5 [(2, .long (aq_tk d y L).1)] → W p l e R s m args below meth c H locs cells slots Q (F0 m 44 ls [])) → W p l e R s m args below meth c H locs cells slots Q (F0 m 8 ls []) := by
  intro d
  induction d with
  | zero =>
    intro y L a n f z fi fv H locs ls hd hq hP hD hS hl k9
    refine lv_iload hx hb dX0_takeMany_8 (lv_at hl 2 rfl) ?_
    refine lv_if_le (tgt := 44) hx hb dX0_takeMany_10 (by decide) (fun _ => ?_) (fun hn9 => absurd (show nI 0 ≤ 0 by decide) hn9)
    exact k9 a n f z fi fv H locs ls hq hP hD hS (lv_sub hl [1] rfl)
  | succ d ih =>
    intro y L a n f z fi fv H locs ls hd hq hP hD hS hl k9
    have hq1 := hq.1
    have hq2 := hq.2.1
    have hq3 := hq.2.2.1
    have hlen : L.length = z := hq.len
    refine lv_iload hx hb dX0_takeMany_8 (lv_at hl 2 rfl) ?_
    refine lv_if_le (tgt := 44) hx hb dX0_takeMany_10 (by decide) (fun hn9 => absurd hn9 (nI_nle (Nat.succ_pos d) (by omega))) (fun _ => ?_)
    refine lv_aload_n hx hb dX0_takeMany_13 rfl (lv_at hl 0 rfl) ?_
    refine va_get (D := (dC, dI)) (ci := 0) (v := .ref h) (C := RX0) (T := TX0) (N := 1) hx hb hts in_X0 hown hK hP 0 rfl rfl 0 (by decide) (hts _ q52) (fun _ h9 => h9) rfl dX0_takeMany_14 ?_
    have hPc := hP.sub (ws' := [(h, .inr (1, [.ref a, .int (nI z), .null, .int fi, .int fv]))]) [1] rfl
    have hDc := hD.sub (ws' := [(h, .inr (1, [.ref a, .int (nI z), .null, .int fi, .int fv]))]) [1] (by decide) rfl
    have hKc := hK.sub (tys' := [(dA, .int)]) [0] rfl
    have hFc := va_free (wc := [(h, .inr (1, [.ref a, .int (nI z), .null, .int fi, .int fv]))]) hD hS hA [1] rfl
    refine va_calli (va_runV (As := []) (rest := []) ⟨hx, hb, hml, hown, hts⟩ (met_qsize l dC dI dA h a H.size (nI z) fi fv) (cwV 0 hts (lw_V q60 q61 q62 q7 q63) rfl rfl rfl (by decide +kernel) ⟨Nat.le_trans (Nat.le_of_ble_eq_true rfl) hRf, Nat.le_trans (Nat.le_of_ble_eq_true rfl) hRl⟩) ⟨fun a U g mk q => by obtain ⟨q0, q1, qP, qK, qD⟩ := q; exact ⟨q0, q1, qP, va_K.moved (u := U) (U := U.calling g mk a) (Vm.Alike.refl U.vm) qK, qD⟩, va_recv hKc hPc (ci := 1) (q0 := 0) rfl rfl, fun U hU hW => ⟨rfl, by rw [hU], by rw [hU]; exact hPc, va_K.moved hW.alike hKc, hDc.weaken (fun _ _ _ _ => trivial)⟩⟩ rfl rfl hl.1 rfl (lv_room (Nat.le_of_ble_eq_true rfl)) dX0_takeMany_17 ⟨hRc, hRs⟩) hS (fun q _ h => hFc q h) hFc (fun r_1 _u t H locs ht hvm hw hB hz1 hk1 hS => ?_)
    obtain ⟨hP1, hK1, hD1⟩ := hB
    rw [ht] at hP1
    obtain ⟨hP, hD⟩ := va_join (wr := [(x, .inr (0, [.ref h])), (a, .inl (dA, n, .inl f))]) (w1 := [(h, .inr (1, [.ref a, .int (nI z), .null, .int fi, .int fv]))]) hP hD [1] [0, 2] rfl rfl (by decide) (by decide) hk1 hFc hP1 hD1
    have hP : va_P (dC, dI) vwCl [(x, .inr (0, [.ref h])), (h, .inr (1, [.ref a, .int (nI z), .null, .int fi, .int fv])), (a, .inl (dA, n, .inl f))] H := hP.sub [0, 2, 1] rfl
    have hD : va_D A [(x, .inr (0, [.ref h])), (h, .inr (1, [.ref a, .int (nI z), .null, .int fi, .int fv])), (a, .inl (dA, n, .inl f))] := hD.sub [0, 2, 1] (by decide) rfl
    refine aq_asi (y := nI z) (hw) ?_
    rcases Nat.eq_zero_or_pos z with hz0 | hz0
    · refine lv_if_le (tgt := 44) hx hb dX0_takeMany_20 (by decide) (fun _ => ?_) (fun hn9 => absurd (by rw [hz0]; decide) hn9)
      rw [aq_tk_e (d + 1) y L (by omega)] at k9
      exact k9 a n f z fi fv H locs ls hq hP hD hS (lv_sub hl [1] rfl)
    · obtain ⟨z1, rfl⟩ : ∃ z1, z = z1 + 1 := ⟨z - 1, by omega⟩
      refine lv_if_le (tgt := 44) hx hb dX0_takeMany_20 (by decide) (fun hn9 => absurd hn9 (nI_nle hz0 (by omega))) (fun _ => ?_)
      rw [aq_tk_s d y L (by omega)] at k9
      refine lv_lload_n hx hb dX0_takeMany_23 rfl (lv_at hl 1 rfl) ?_
      refine lv_ldc2 hx hb hown (hts _ q178) dX0_takeMany_24 ?_
      refine lv_lmul hx hb dX0_takeMany_27 ?_
      refine lv_aload_n hx hb dX0_takeMany_28 rfl (lv_at hl 0 rfl) ?_
      refine va_get (D := (dC, dI)) (ci := 0) (v := .ref h) (C := RX0) (T := TX0) (N := 1) hx hb hts in_X0 hown hK hP 0 rfl rfl 0 (by decide) (hts _ q52) (fun _ h9 => h9) rfl dX0_takeMany_29 ?_
      have hPc := hP.sub (ws' := [(h, .inr (1, [.ref a, .int (nI (z1 + 1)), .null, .int fi, .int fv])), (a, .inl (dA, n, .inl f))]) [1, 2] rfl
      have hDc := hD.sub (ws' := [(h, .inr (1, [.ref a, .int (nI (z1 + 1)), .null, .int fi, .int fv])), (a, .inl (dA, n, .inl f))]) [1, 2] (by decide) rfl
      have hKc := hK.sub (tys' := [(dA, .int)]) [0] rfl
      have hFc := va_free (wc := [(h, .inr (1, [.ref a, .int (nI (z1 + 1)), .null, .int fi, .int fv])), (a, .inl (dA, n, .inl f))]) hD hS hA [1, 2] rfl
      refine va_calli (va_runV (As := []) (rest := [.long (y * 31)]) ⟨hx, hb, hml, hown, hts⟩ (met_qdeq l dC dI dA h a H.size n z1 f fi fv L hq) (cwV 0 hts (lw_V q169 q170 q171 q7 q172) rfl rfl rfl (by decide +kernel) ⟨Nat.le_trans (Nat.le_of_ble_eq_true rfl) hRf, Nat.le_trans (Nat.le_of_ble_eq_true rfl) hRl⟩) ⟨fun a U g mk q => by obtain ⟨q0, q1, qP, qK, qD⟩ := q; exact ⟨q0, q1, qP, va_K.moved (u := U) (U := U.calling g mk a) (Vm.Alike.refl U.vm) qK, qD⟩, va_recv hKc hPc (ci := 1) (q0 := 0) rfl rfl, fun U hU hW => ⟨rfl, by rw [hU], by rw [hU]; exact hPc, va_K.moved hW.alike hKc, hDc.weaken (fun _ _ _ _ => trivial)⟩⟩ rfl rfl hl.1 rfl (lv_room (Nat.le_of_ble_eq_true rfl)) dX0_takeMany_32 ⟨hRc, hRs⟩) hS (fun q _ h => hFc q h) hFc (fun r_2 _u t H locs ht hvm hw hB hz1 hk1 hS => ?_)
      obtain ⟨a2, n2, f2, z2, fi2, fv2, hq2_, hP1, hK1, hD1⟩ := hB
      rw [ht] at hP1
      obtain ⟨hP, hD⟩ := va_join (wr := [(x, .inr (0, [.ref h]))]) (w1 := [(h, .inr (1, [.ref a2, .int (nI z2), .null, .int fi2, .int fv2])), (a2, .inl (dA, n2, .inl f2))]) hP hD [1, 2] [0] rfl rfl (by decide) (by decide) hk1 hFc hP1 hD1
      have hP : va_P (dC, dI) vwCl [(x, .inr (0, [.ref h])), (h, .inr (1, [.ref a2, .int (nI z2), .null, .int fi2, .int fv2])), (a2, .inl (dA, n2, .inl f2))] H := hP
      have hD : va_D A [(x, .inr (0, [.ref h])), (h, .inr (1, [.ref a2, .int (nI z2), .null, .int fi2, .int fv2])), (a2, .inl (dA, n2, .inl f2))] := hD
      refine lv_i2l hx hb dX0_takeMany_35 (v := (aq_min L).toInt64) (by rw [hw]) ?_
      refine lv_ladd hx hb dX0_takeMany_36 ?_
      refine lv_lstore_n (lv' := [(2, .long ((y * 31) + ((aq_min L).toInt64))), (0, .ref x), (4, .int (nI (d + 1)))]) hx hb dX0_takeMany_37 rfl hl (by decide) rfl (fun ls hl => ?_)
      refine lv_iinc (v := nI d) (lv' := [(4, .int (nI d)), (2, .long ((y * 31) + ((aq_min L).toInt64))), (0, .ref x)]) hx hb dX0_takeMany_38 hl (k := 2) rfl (aq_decS d) (by decide) rfl (fun ls hl => ?_)
      refine lv_goto (tgt := 8) hx hb dX0_takeMany_41 (by decide) ?_
      exact ih _ _ a2 n2 f2 z2 fi2 fv2 H locs ls (by omega) hq2_ hP hD hS (lv_sub hl [2, 1, 0] rfl) k9

set_option maxHeartbeats 4000000 in
set_option maxRecDepth 100000 in
/-- takeMany(n) -/
theorem met_dtk (l : Launch) (dC : Nat → ClassId) (dI : Nat → Nat → Nat) (dA : ClassId) (x h a sz n z : Nat) (f : Nat → Int32) (fi fv : Int32) (L : List Int32) (nn : Int32) (hq : aq_Q L n f z fi fv) : Met l yX0_takeMany (ws_ yX0_takeMany cX0_takeMany 5 (some .long)) ({ frames := 3, cells := 0, slots := 0, locals := 120 } : Room) (va_Pc [.ref x, .int nn] (fun U => U.heap.size = sz ∧ va_P (dC, dI) vwCl [(x, .inr (0, [.ref h])), (h, .inr (1, [.ref a, .int (nI z), .null, .int fi, .int fv])), (a, .inl (dA, n, .inl f))] U.heap ∧ va_K (dC, dI) vwCl [(dA, .int)] U ∧ va_D (fun _ => True) [(x, .inr (0, [.ref h])), (h, .inr (1, [.ref a, .int (nI z), .null, .int fi, .int fv])), (a, .inl (dA, n, .inl f))])) (va_Ql (fun (y : Int64) (_ : Unit) => y = (aq_tk (aq_c nn) 0 L).1) (fun (_ : Unit) t => aq_BD dC dI dA (va_A [(x, .inr (0, [.ref h])), (h, .inr (1, [.ref a, .int (nI z), .null, .int fi, .int fv])), (a, .inl (dA, n, .inl f))] sz) x h (aq_tk (aq_c nn) 0 L).2 t) (va_A [(x, .inr (0, [.ref h])), (h, .inr (1, [.ref a, .int (nI z), .null, .int fi, .int fv])), (a, .inl (dA, n, .inl f))] sz)) 0 0 (va_A [(x, .inr (0, [.ref h])), (h, .inr (1, [.ref a, .int (nI z), .null, .int fi, .int fv])), (a, .inl (dA, n, .inl f))] sz) := by
  refine Met.ofW (cc := cX0_takeMany) (maxL := 5) (ret := (some .long)) (by decide) rfl ?_
  intro p e s m args below meth c s₁ B hml hv
  obtain ⟨rfl, hsz, hP, hK, hD0⟩ := hv
  have hx := B.exec
  have hb := B.bytes
  have hr := B.returns
  have hts := atoms_spec (ws := ws_ yX0_takeMany cX0_takeMany 5 (some .long)) B.pre
  have hts : ∀ w ∈ lw_all, w.before _ s = true := fun w h => hts w (List.mem_cons_of_mem _ h)
  have hown : s.vm.findClass RX0 = some m.cls := findClass_of_methodNamed B.named
  have hlocks := B.notSynchronized
  subst hsz
  have hD := hD0.self (sz := s.heap.size)
  generalize hAe : va_A [(x, .inr (0, [.ref h])), (h, .inr (1, [.ref a, .int (nI z), .null, .int fi, .int fv])), (a, .inl (dA, n, .inl f))] s.heap.size = A at hD ⊢
  have hA : ∀ q : Nat, s.heap.size ≤ q → A q := fun q h => by rw [← hAe]; exact Or.inr h
  have hS : va_S A s.heap s.heap [] := va_S.rf
  have hP : va_P (dC, dI) vwCl [(x, .inr (0, [.ref h])), (h, .inr (1, [.ref a, .int (nI z), .null, .int fi, .int fv])), (a, .inl (dA, n, .inl f))] s.heap := hP
  have hl := lv_entry ([.ref x, .int nn]) (n := 5) (Nat.le_of_ble_eq_true rfl)
  rw [lg_entry_eq]
  generalize (lg_sl ([.ref x, .int nn]) ++ List.replicate (5 - (lg_sl ([.ref x, .int nn])).length) Slot.unset).toArray = ls at hl ⊢
  have hl : lv_has ls 5 [(0, .ref x), (1, .int nn)] := hl
  have hc := aq_and15 nn
  refine lv_lconst (v := 0) hx hb dX0_takeMany_0 (by decide) ?_
  refine lv_lstore_n (lv' := [(2, .long 0), (0, .ref x), (1, .int nn)]) hx hb dX0_takeMany_1 rfl hl (by decide) rfl (fun ls hl => ?_)
  refine lv_iload_n hx hb dX0_takeMany_2 rfl (lv_at hl 2 rfl) ?_
  refine lv_bipush (v := 15) hx hb dX0_takeMany_3 (by decide) ?_
  refine lv_iand hx hb dX0_takeMany_5 ?_
  refine aq_asi (y := nI (aq_c nn)) (hc.2) ?_
  refine lv_istore (lv' := [(4, .int (nI (aq_c nn))), (2, .long 0), (0, .ref x), (1, .int nn)]) hx hb dX0_takeMany_6 hl (by decide) rfl (fun ls hl => ?_)
  refine lp_dtk hx hb hml hown hts hK hA (Nat.le_refl _) (Nat.le_refl _) (Nat.zero_le _) (Nat.zero_le _) (aq_c nn) 0 L a n f z fi fv _ _ ls (by omega) hq hP hD hS (lv_sub hl [2, 1, 0] rfl) (fun a' n' f' z' fi' fv' H locs ls hq' hP hD hS hl => ?_)
  refine lv_lload_n hx hb dX0_takeMany_44 rfl (lv_at hl 0 rfl) ?_
  have hP9 := hP.sub (ws' := [(x, .inr (0, [.ref h])), (h, .inr (1, [.ref a', .int (nI z'), .null, .int fi', .int fv'])), (a', .inl (dA, n', .inl f'))]) [0, 1, 2] rfl
  have hD9 := hD.sub (ws' := [(x, .inr (0, [.ref h])), (h, .inr (1, [.ref a', .int (nI z'), .null, .int fi', .int fv'])), (a', .inl (dA, n', .inl f'))]) [0, 1, 2] (by decide) rfl
  have hK9 := hK.sub (tys' := [(dA, .int)]) [0] rfl
  exact W.lret (v := (aq_tk (aq_c nn) 0 L).1) hx hb hr (fun t ht hW => ⟨⟨(aq_tk (aq_c nn) 0 L).1, (), rfl, rfl, ⟨a', n', f', z', fi', fv', hq', by rw [ht]; exact hP9, va_K.moved hW.alike hK9, hD9⟩⟩, hS.F ht⟩) hS.2.2 dX0_takeMany_45

set_option maxHeartbeats 4000000 in
set_option maxRecDepth 100000 in
/-- waiting() -/
theorem met_dwait (l : Launch) (dC : Nat → ClassId) (dI : Nat → Nat → Nat) (dA : ClassId) (x h a sz n z : Nat) (f : Nat → Int32) (fi fv : Int32) (L : List Int32) (hq : aq_Q L n f z fi fv) : Met l yX0_waiting (ws_ yX0_waiting cX0_waiting 1 (some .int)) ({ frames := 1, cells := 0, slots := 0, locals := 60 } : Room) (va_Pc [.ref x] (fun U => U.heap.size = sz ∧ va_P (dC, dI) vwCl [(x, .inr (0, [.ref h])), (h, .inr (1, [.ref a, .int (nI z), .null, .int fi, .int fv])), (a, .inl (dA, n, .inl f))] U.heap ∧ va_K (dC, dI) vwCl [(dA, .int)] U ∧ va_D (fun _ => True) [(x, .inr (0, [.ref h])), (h, .inr (1, [.ref a, .int (nI z), .null, .int fi, .int fv])), (a, .inl (dA, n, .inl f))])) (va_Qi (fun (y : Int32) (_ : Unit) => y = nI L.length) (fun (_ : Unit) t => aq_BD dC dI dA (va_A [(x, .inr (0, [.ref h])), (h, .inr (1, [.ref a, .int (nI z), .null, .int fi, .int fv])), (a, .inl (dA, n, .inl f))] sz) x h L t) (va_A [(x, .inr (0, [.ref h])), (h, .inr (1, [.ref a, .int (nI z), .null, .int fi, .int fv])), (a, .inl (dA, n, .inl f))] sz)) 0 0 (va_A [(x, .inr (0, [.ref h])), (h, .inr (1, [.ref a, .int (nI z), .null, .int fi, .int fv])), (a, .inl (dA, n, .inl f))] sz) := by
  refine Met.ofW (cc := cX0_waiting) (maxL := 1) (ret := (some .int)) (by decide) rfl ?_
  intro p e s m args below meth c s₁ B hml hv
  obtain ⟨rfl, hsz, hP, hK, hD0⟩ := hv
  have hx := B.exec
  have hb := B.bytes
  have hr := B.returns
  have hts := atoms_spec (ws := ws_ yX0_waiting cX0_waiting 1 (some .int)) B.pre
  have hts : ∀ w ∈ lw_all, w.before _ s = true := fun w h => hts w (List.mem_cons_of_mem _ h)
  have hown : s.vm.findClass RX0 = some m.cls := findClass_of_methodNamed B.named
  have hlocks := B.notSynchronized
  subst hsz
  have hD := hD0.self (sz := s.heap.size)
  generalize hAe : va_A [(x, .inr (0, [.ref h])), (h, .inr (1, [.ref a, .int (nI z), .null, .int fi, .int fv])), (a, .inl (dA, n, .inl f))] s.heap.size = A at hD ⊢
  have hA : ∀ q : Nat, s.heap.size ≤ q → A q := fun q h => by rw [← hAe]; exact Or.inr h
  have hS : va_S A s.heap s.heap [] := va_S.rf
  have hP : va_P (dC, dI) vwCl [(x, .inr (0, [.ref h])), (h, .inr (1, [.ref a, .int (nI z), .null, .int fi, .int fv])), (a, .inl (dA, n, .inl f))] s.heap := hP
  have hl := lv_entry ([.ref x]) (n := 1) (Nat.le_of_ble_eq_true rfl)
  rw [lg_entry_eq]
  generalize (lg_sl ([.ref x]) ++ List.replicate (1 - (lg_sl ([.ref x])).length) Slot.unset).toArray = ls at hl ⊢
  have hl : lv_has ls 1 [(0, .ref x)] := hl
  refine lv_aload_n hx hb dX0_waiting_0 rfl (lv_at hl 0 rfl) ?_
  refine va_get (D := (dC, dI)) (ci := 0) (v := .ref h) (C := RX0) (T := TX0) (N := 1) hx hb hts in_X0 hown hK hP 0 rfl rfl 0 (by decide) (hts _ q52) (fun _ h9 => h9) rfl dX0_waiting_1 ?_
  have hPc := hP.sub (ws' := [(h, .inr (1, [.ref a, .int (nI z), .null, .int fi, .int fv]))]) [1] rfl
  have hDc := hD.sub (ws' := [(h, .inr (1, [.ref a, .int (nI z), .null, .int fi, .int fv]))]) [1] (by decide) rfl
  have hKc := hK.sub (tys' := [(dA, .int)]) [0] rfl
  have hFc := va_free (wc := [(h, .inr (1, [.ref a, .int (nI z), .null, .int fi, .int fv]))]) hD hS hA [1] rfl
  refine va_calli (va_runV (As := []) (rest := []) ⟨hx, hb, hml, hown, hts⟩ (met_qsize l dC dI dA h a s.heap.size (nI z) fi fv) (cwV 0 hts (lw_V q60 q61 q62 q7 q63) rfl rfl rfl (by decide +kernel) ⟨Nat.le_of_ble_eq_true rfl, Nat.le_of_ble_eq_true rfl⟩) ⟨fun a U g mk q => by obtain ⟨q0, q1, qP, qK, qD⟩ := q; exact ⟨q0, q1, qP, va_K.moved (u := U) (U := U.calling g mk a) (Vm.Alike.refl U.vm) qK, qD⟩, va_recv hKc hPc (ci := 1) (q0 := 0) rfl rfl, fun U hU hW => ⟨rfl, by rw [hU], by rw [hU]; exact hPc, va_K.moved hW.alike hKc, hDc.weaken (fun _ _ _ _ => trivial)⟩⟩ rfl rfl hl.1 rfl (lv_room (Nat.le_of_ble_eq_true rfl)) dX0_waiting_4 ⟨Nat.le_of_ble_eq_true rfl, Nat.le_of_ble_eq_true rfl⟩) hS (fun q _ h => hFc q h) hFc (fun r_1 _u t H locs ht hvm hw hB hz1 hk1 hS => ?_)
  obtain ⟨hP1, hK1, hD1⟩ := hB
  rw [ht] at hP1
  obtain ⟨hP, hD⟩ := va_join (wr := [(x, .inr (0, [.ref h])), (a, .inl (dA, n, .inl f))]) (w1 := [(h, .inr (1, [.ref a, .int (nI z), .null, .int fi, .int fv]))]) hP hD [1] [0, 2] rfl rfl (by decide) (by decide) hk1 hFc hP1 hD1
  have hP : va_P (dC, dI) vwCl [(x, .inr (0, [.ref h])), (h, .inr (1, [.ref a, .int (nI z), .null, .int fi, .int fv])), (a, .inl (dA, n, .inl f))] H := hP.sub [0, 2, 1] rfl
  have hD : va_D A [(x, .inr (0, [.ref h])), (h, .inr (1, [.ref a, .int (nI z), .null, .int fi, .int fv])), (a, .inl (dA, n, .inl f))] := hD.sub [0, 2, 1] (by decide) rfl
  refine aq_asi (y := nI z) (hw) ?_
  have hP9 := hP.sub (ws' := [(x, .inr (0, [.ref h])), (h, .inr (1, [.ref a, .int (nI z), .null, .int fi, .int fv])), (a, .inl (dA, n, .inl f))]) [0, 1, 2] rfl
  have hD9 := hD.sub (ws' := [(x, .inr (0, [.ref h])), (h, .inr (1, [.ref a, .int (nI z), .null, .int fi, .int fv])), (a, .inl (dA, n, .inl f))]) [0, 1, 2] (by decide) rfl
  have hK9 := hK.sub (tys' := [(dA, .int)]) [0] rfl
  exact W.iret (v := nI z) hx hb hr (fun t ht hW => ⟨⟨nI z, (), rfl, by rw [hq.len], ⟨a, n, f, z, fi, fv, hq, by rw [ht]; exact hP9, va_K.moved hW.alike hK9, hD9⟩⟩, hS.F ht⟩) hS.2.2 dX0_waiting_7

set_option maxHeartbeats 4000000 in
set_option maxRecDepth 100000 in
/-- shrink() of a full array -/
theorem met_dshrink_1 (l : Launch) (dC : Nat → ClassId) (dI : Nat → Nat → Nat) (dA : ClassId) (x h a sz n z : Nat) (f : Nat → Int32) (fi fv : Int32) (L : List Int32) (hz : n ≤ z) (hq : aq_Q L n f z fi fv) : Met l yX0_shrink (ws_ yX0_shrink cX0_shrink 1 none) ({ frames := 3, cells := 1, slots := 300, locals := 140 } : Room) (va_Pc [.ref x] (fun U => U.heap.size = sz ∧ va_P (dC, dI) vwCl [(x, .inr (0, [.ref h])), (h, .inr (1, [.ref a, .int (nI z), .null, .int fi, .int fv])), (a, .inl (dA, n, .inl f))] U.heap ∧ va_K (dC, dI) vwCl [(dA, .int)] U ∧ va_D (fun _ => True) [(x, .inr (0, [.ref h])), (h, .inr (1, [.ref a, .int (nI z), .null, .int fi, .int fv])), (a, .inl (dA, n, .inl f))])) (va_Qv (fun _ : Unit => True) (fun (_ : Unit) t => aq_BD dC dI dA (va_A [(x, .inr (0, [.ref h])), (h, .inr (1, [.ref a, .int (nI z), .null, .int fi, .int fv])), (a, .inl (dA, n, .inl f))] sz) x h L t) (va_A [(x, .inr (0, [.ref h])), (h, .inr (1, [.ref a, .int (nI z), .null, .int fi, .int fv])), (a, .inl (dA, n, .inl f))] sz)) 1 300 (va_A [(x, .inr (0, [.ref h])), (h, .inr (1, [.ref a, .int (nI z), .null, .int fi, .int fv])), (a, .inl (dA, n, .inl f))] sz) := by
  refine Met.ofW (cc := cX0_shrink) (maxL := 1) (ret := none) (by decide) rfl ?_
  intro p e s m args below meth c s₁ B hml hv
  obtain ⟨rfl, hsz, hP, hK, hD0⟩ := hv
  have hx := B.exec
  have hb := B.bytes
  have hr := B.returns
  have hts := atoms_spec (ws := ws_ yX0_shrink cX0_shrink 1 none) B.pre
  have hts : ∀ w ∈ lw_all, w.before _ s = true := fun w h => hts w (List.mem_cons_of_mem _ h)
  have hown : s.vm.findClass RX0 = some m.cls := findClass_of_methodNamed B.named
  have hlocks := B.notSynchronized
  subst hsz
  have hD := hD0.self (sz := s.heap.size)
  generalize hAe : va_A [(x, .inr (0, [.ref h])), (h, .inr (1, [.ref a, .int (nI z), .null, .int fi, .int fv])), (a, .inl (dA, n, .inl f))] s.heap.size = A at hD ⊢
  have hA : ∀ q : Nat, s.heap.size ≤ q → A q := fun q h => by rw [← hAe]; exact Or.inr h
  have hS : va_S A s.heap s.heap [] := va_S.rf
  have hP : va_P (dC, dI) vwCl [(x, .inr (0, [.ref h])), (h, .inr (1, [.ref a, .int (nI z), .null, .int fi, .int fv])), (a, .inl (dA, n, .inl f))] s.heap := hP
  have hl := lv_entry ([.ref x]) (n := 1) (Nat.le_of_ble_eq_true rfl)
  rw [lg_entry_eq]
  generalize (lg_sl ([.ref x]) ++ List.replicate (1 - (lg_sl ([.ref x])).length) Slot.unset).toArray = ls at hl ⊢
  have hl : lv_has ls 1 [(0, .ref x)] := hl
  refine lv_aload_n hx hb dX0_shrink_0 rfl (lv_at hl 0 rfl) ?_
  refine va_get (D := (dC, dI)) (ci := 0) (v := .ref h) (C := RX0) (T := TX0) (N := 1) hx hb hts in_X0 hown hK hP 0 rfl rfl 0 (by decide) (hts _ q52) (fun _ h9 => h9) rfl dX0_shrink_1 ?_
  have hPc := hP.sub (ws' := [(h, .inr (1, [.ref a, .int (nI z), .null, .int fi, .int fv])), (a, .inl (dA, n, .inl f))]) [1, 2] rfl
  have hDc := hD.sub (ws' := [(h, .inr (1, [.ref a, .int (nI z), .null, .int fi, .int fv])), (a, .inl (dA, n, .inl f))]) [1, 2] (by decide) rfl
  have hKc := hK.sub (tys' := [(dA, .int)]) [0] rfl
  have hFc := va_free (wc := [(h, .inr (1, [.ref a, .int (nI z), .null, .int fi, .int fv])), (a, .inl (dA, n, .inl f))]) hD hS hA [1, 2] rfl
  refine va_callv (va_runV (As := []) (rest := []) ⟨hx, hb, hml, hown, hts⟩ (met_qtrim_1 l dC dI dA h a s.heap.size n z f fi fv L hz hq) (cwV 0 hts (lw_V q187 q188 q189 q7 q190) rfl rfl rfl (by decide +kernel) ⟨Nat.le_of_ble_eq_true rfl, Nat.le_of_ble_eq_true rfl⟩) ⟨fun a U g mk q => by obtain ⟨q0, q1, qP, qK, qD⟩ := q; exact ⟨q0, q1, qP, va_K.moved (u := U) (U := U.calling g mk a) (Vm.Alike.refl U.vm) qK, qD⟩, va_recv hKc hPc (ci := 1) (q0 := 0) rfl rfl, fun U hU hW => ⟨rfl, by rw [hU], by rw [hU]; exact hPc, va_K.moved hW.alike hKc, hDc.weaken (fun _ _ _ _ => trivial)⟩⟩ rfl rfl hl.1 rfl (lv_room (Nat.le_of_ble_eq_true rfl)) dX0_shrink_4 ⟨Nat.le_of_ble_eq_true rfl, Nat.le_of_ble_eq_true rfl⟩) hS (fun q _ h => hFc q h) hFc (fun _u t H locs ht hvm hw hB hz1 hk1 hS => ?_)
  obtain ⟨a2, n2, f2, z2, fi2, fv2, hq2_, hP1, hK1, hD1⟩ := hB
  rw [ht] at hP1
  obtain ⟨hP, hD⟩ := va_join (wr := [(x, .inr (0, [.ref h]))]) (w1 := [(h, .inr (1, [.ref a2, .int (nI z2), .null, .int fi2, .int fv2])), (a2, .inl (dA, n2, .inl f2))]) hP hD [1, 2] [0] rfl rfl (by decide) (by decide) hk1 hFc hP1 hD1
  have hP : va_P (dC, dI) vwCl [(x, .inr (0, [.ref h])), (h, .inr (1, [.ref a2, .int (nI z2), .null, .int fi2, .int fv2])), (a2, .inl (dA, n2, .inl f2))] H := hP
  have hD : va_D A [(x, .inr (0, [.ref h])), (h, .inr (1, [.ref a2, .int (nI z2), .null, .int fi2, .int fv2])), (a2, .inl (dA, n2, .inl f2))] := hD
  have hP9 := hP.sub (ws' := [(x, .inr (0, [.ref h])), (h, .inr (1, [.ref a2, .int (nI z2), .null, .int fi2, .int fv2])), (a2, .inl (dA, n2, .inl f2))]) [0, 1, 2] rfl
  have hD9 := hD.sub (ws' := [(x, .inr (0, [.ref h])), (h, .inr (1, [.ref a2, .int (nI z2), .null, .int fi2, .int fv2])), (a2, .inl (dA, n2, .inl f2))]) [0, 1, 2] (by decide) rfl
  have hK9 := hK.sub (tys' := [(dA, .int)]) [0] rfl
  refine W.widen (k := 1) (n := 300) (Nat.le_of_ble_eq_true rfl) (Nat.le_of_ble_eq_true rfl) ?_
  exact W.vret hx hb hr (fun t ht hW => ⟨⟨(), rfl, trivial, ⟨a2, n2, f2, z2, fi2, fv2, hq2_, by rw [ht]; exact hP9, va_K.moved hW.alike hK9, hD9⟩⟩, hS.F ht⟩) hS.2.2 dX0_shrink_7

set_option maxHeartbeats 4000000 in
set_option maxRecDepth 100000 in
/-- shrink() of a longer array -/
theorem met_dshrink_2 (l : Launch) (dC : Nat → ClassId) (dI : Nat → Nat → Nat) (dA : ClassId) (x h a e0 sz n z : Nat) (f fe : Nat → Int32) (fi fv : Int32) (L : List Int32) (hz : z < n) (hq : aq_Q L n f z fi fv) : Met l yX0_shrink (ws_ yX0_shrink cX0_shrink 1 none) ({ frames := 3, cells := 1, slots := 300, locals := 140 } : Room) (va_Pc [.ref x] (fun U => U.heap.size = sz ∧ va_P (dC, dI) vwCl [(x, .inr (0, [.ref h])), (h, .inr (1, [.ref a, .int (nI z), .null, .int fi, .int fv])), (a, .inl (dA, n, .inl f)), (e0, .inl (dA, 0, .inl fe))] U.heap ∧ va_K (dC, dI) vwCl [(dA, .int)] U ∧ va_D (fun _ => True) [(x, .inr (0, [.ref h])), (h, .inr (1, [.ref a, .int (nI z), .null, .int fi, .int fv])), (a, .inl (dA, n, .inl f)), (e0, .inl (dA, 0, .inl fe))] ∧ va_Z "IntArrays" "EMPTY_ARRAY" "[I" (.ref e0) (va_A [(x, .inr (0, [.ref h])), (h, .inr (1, [.ref a, .int (nI z), .null, .int fi, .int fv])), (a, .inl (dA, n, .inl f)), (e0, .inl (dA, 0, .inl fe))] sz) U U.heap)) (va_Qv (fun _ : Unit => True) (fun (_ : Unit) t => aq_BD dC dI dA (va_A [(x, .inr (0, [.ref h])), (h, .inr (1, [.ref a, .int (nI z), .null, .int fi, .int fv])), (a, .inl (dA, n, .inl f)), (e0, .inl (dA, 0, .inl fe))] sz) x h L t) (va_A [(x, .inr (0, [.ref h])), (h, .inr (1, [.ref a, .int (nI z), .null, .int fi, .int fv])), (a, .inl (dA, n, .inl f)), (e0, .inl (dA, 0, .inl fe))] sz)) 1 300 (va_A [(x, .inr (0, [.ref h])), (h, .inr (1, [.ref a, .int (nI z), .null, .int fi, .int fv])), (a, .inl (dA, n, .inl f)), (e0, .inl (dA, 0, .inl fe))] sz) := by
  refine Met.ofW (cc := cX0_shrink) (maxL := 1) (ret := none) (by decide) rfl ?_
  intro p e s m args below meth c s₁ B hml hv
  obtain ⟨rfl, hsz, hP, hK, hD0, hZ⟩ := hv
  have hx := B.exec
  have hb := B.bytes
  have hr := B.returns
  have hts := atoms_spec (ws := ws_ yX0_shrink cX0_shrink 1 none) B.pre
  have hts : ∀ w ∈ lw_all, w.before _ s = true := fun w h => hts w (List.mem_cons_of_mem _ h)
  have hown : s.vm.findClass RX0 = some m.cls := findClass_of_methodNamed B.named
  have hlocks := B.notSynchronized
  subst hsz
  have hD := hD0.self (sz := s.heap.size)
  generalize hAe : va_A [(x, .inr (0, [.ref h])), (h, .inr (1, [.ref a, .int (nI z), .null, .int fi, .int fv])), (a, .inl (dA, n, .inl f)), (e0, .inl (dA, 0, .inl fe))] s.heap.size = A at hD hZ ⊢
  have hA : ∀ q : Nat, s.heap.size ≤ q → A q := fun q h => by rw [← hAe]; exact Or.inr h
  have hS : va_S A s.heap s.heap [] := va_S.rf
  have hP : va_P (dC, dI) vwCl [(x, .inr (0, [.ref h])), (h, .inr (1, [.ref a, .int (nI z), .null, .int fi, .int fv])), (a, .inl (dA, n, .inl f)), (e0, .inl (dA, 0, .inl fe))] s.heap := hP
  have hl := lv_entry ([.ref x]) (n := 1) (Nat.le_of_ble_eq_true rfl)
  rw [lg_entry_eq]
  generalize (lg_sl ([.ref x]) ++ List.replicate (1 - (lg_sl ([.ref x])).length) Slot.unset).toArray = ls at hl ⊢
  have hl : lv_has ls 1 [(0, .ref x)] := hl
  refine lv_aload_n hx hb dX0_shrink_0 rfl (lv_at hl 0 rfl) ?_
  refine va_get (D := (dC, dI)) (ci := 0) (v := .ref h) (C := RX0) (T := TX0) (N := 1) hx hb hts in_X0 hown hK hP 0 rfl rfl 0 (by decide) (hts _ q52) (fun _ h9 => h9) rfl dX0_shrink_1 ?_
  have hPc := hP.sub (ws' := [(h, .inr (1, [.ref a, .int (nI z), .null, .int fi, .int fv])), (a, .inl (dA, n, .inl f)), (e0, .inl (dA, 0, .inl fe))]) [1, 2, 3] rfl
  have hDc := hD.sub (ws' := [(h, .inr (1, [.ref a, .int (nI z), .null, .int fi, .int fv])), (a, .inl (dA, n, .inl f)), (e0, .inl (dA, 0, .inl fe))]) [1, 2, 3] (by decide) rfl
  have hKc := hK.sub (tys' := [(dA, .int)]) [0] rfl
  have hFc := va_free (wc := [(h, .inr (1, [.ref a, .int (nI z), .null, .int fi, .int fv])), (a, .inl (dA, n, .inl f)), (e0, .inl (dA, 0, .inl fe))]) hD hS hA [1, 2, 3] rfl
  refine va_callv (va_runV (As := []) (rest := []) ⟨hx, hb, hml, hown, hts⟩ (met_qtrim_2 l dC dI dA h a e0 s.heap.size n z f fe fi fv L hz hq) (cwV 0 hts (lw_V q187 q188 q189 q7 q190) rfl rfl rfl (by decide +kernel) ⟨Nat.le_of_ble_eq_true rfl, Nat.le_of_ble_eq_true rfl⟩) ⟨fun a U g mk q => by obtain ⟨q0, q1, qP, qK, qD, qZ⟩ := q; exact ⟨q0, q1, qP, va_K.moved (u := U) (U := U.calling g mk a) (Vm.Alike.refl U.vm) qK, qD, va_Z.moved (u := U) (U := U.calling g mk a) (Vm.Alike.refl U.vm) qZ⟩, va_recv hKc hPc (ci := 1) (q0 := 0) rfl rfl, fun U hU hW => ⟨rfl, by rw [hU], by rw [hU]; exact hPc, va_K.moved hW.alike hKc, hDc.weaken (fun _ _ _ _ => trivial), by rw [hU]; exact va_Z.moved hW.alike ((hZ.kept hS.2.1).narrow hFc)⟩⟩ rfl rfl hl.1 rfl (lv_room (Nat.le_of_ble_eq_true rfl)) dX0_shrink_4 ⟨Nat.le_of_ble_eq_true rfl, Nat.le_of_ble_eq_true rfl⟩) hS (fun q _ h => hFc q h) hFc (fun _u t H locs ht hvm hw hB hz1 hk1 hS => ?_)
  obtain ⟨a2, n2, f2, z2, fi2, fv2, hq2_, hP1, hK1, hD1⟩ := hB
  rw [ht] at hP1
  obtain ⟨hP, hD⟩ := va_join (wr := [(x, .inr (0, [.ref h]))]) (w1 := [(h, .inr (1, [.ref a2, .int (nI z2), .null, .int fi2, .int fv2])), (a2, .inl (dA, n2, .inl f2))]) hP hD [1, 2, 3] [0] rfl rfl (by decide) (by decide) hk1 hFc hP1 hD1
  have hP : va_P (dC, dI) vwCl [(x, .inr (0, [.ref h])), (h, .inr (1, [.ref a2, .int (nI z2), .null, .int fi2, .int fv2])), (a2, .inl (dA, n2, .inl f2))] H := hP
  have hD : va_D A [(x, .inr (0, [.ref h])), (h, .inr (1, [.ref a2, .int (nI z2), .null, .int fi2, .int fv2])), (a2, .inl (dA, n2, .inl f2))] := hD
  have hP9 := hP.sub (ws' := [(x, .inr (0, [.ref h])), (h, .inr (1, [.ref a2, .int (nI z2), .null, .int fi2, .int fv2])), (a2, .inl (dA, n2, .inl f2))]) [0, 1, 2] rfl
  have hD9 := hD.sub (ws' := [(x, .inr (0, [.ref h])), (h, .inr (1, [.ref a2, .int (nI z2), .null, .int fi2, .int fv2])), (a2, .inl (dA, n2, .inl f2))]) [0, 1, 2] (by decide) rfl
  have hK9 := hK.sub (tys' := [(dA, .int)]) [0] rfl
  refine W.widen (k := 1) (n := 300) (Nat.le_of_ble_eq_true rfl) (Nat.le_of_ble_eq_true rfl) ?_
  exact W.vret hx hb hr (fun t ht hW => ⟨⟨(), rfl, trivial, ⟨a2, n2, f2, z2, fi2, fv2, hq2_, by rw [ht]; exact hP9, va_K.moved hW.alike hK9, hD9⟩⟩, hS.F ht⟩) hS.2.2 dX0_shrink_7

set_option maxHeartbeats 4000000 in
set_option maxRecDepth 100000 in
/-- drain() -/
theorem met_ddrain (l : Launch) (dC : Nat → ClassId) (dI : Nat → Nat → Nat) (dA : ClassId) (x h a sz n z : Nat) (f : Nat → Int32) (fi fv : Int32) (L : List Int32) (hq : aq_Q L n f z fi fv) : Met l yX0_drain (ws_ yX0_drain cX0_drain 1 none) ({ frames := 1, cells := 0, slots := 0, locals := 60 } : Room) (va_Pc [.ref x] (fun U => U.heap.size = sz ∧ va_P (dC, dI) vwCl [(x, .inr (0, [.ref h])), (h, .inr (1, [.ref a, .int (nI z), .null, .int fi, .int fv])), (a, .inl (dA, n, .inl f))] U.heap ∧ va_K (dC, dI) vwCl [(dA, .int)] U ∧ va_D (fun _ => True) [(x, .inr (0, [.ref h])), (h, .inr (1, [.ref a, .int (nI z), .null, .int fi, .int fv])), (a, .inl (dA, n, .inl f))])) (va_Qv (fun _ : Unit => True) (fun (_ : Unit) t => aq_BD dC dI dA (va_A [(x, .inr (0, [.ref h])), (h, .inr (1, [.ref a, .int (nI z), .null, .int fi, .int fv])), (a, .inl (dA, n, .inl f))] sz) x h [] t) (va_A [(x, .inr (0, [.ref h])), (h, .inr (1, [.ref a, .int (nI z), .null, .int fi, .int fv])), (a, .inl (dA, n, .inl f))] sz)) 0 0 (va_A [(x, .inr (0, [.ref h])), (h, .inr (1, [.ref a, .int (nI z), .null, .int fi, .int fv])), (a, .inl (dA, n, .inl f))] sz) := by
  refine Met.ofW (cc := cX0_drain) (maxL := 1) (ret := none) (by decide) rfl ?_
  intro p e s m args below meth c s₁ B hml hv
  obtain ⟨rfl, hsz, hP, hK, hD0⟩ := hv
  have hx := B.exec
  have hb := B.bytes
  have hr := B.returns
  have hts := atoms_spec (ws := ws_ yX0_drain cX0_drain 1 none) B.pre
  have hts : ∀ w ∈ lw_all, w.before _ s = true := fun w h => hts w (List.mem_cons_of_mem _ h)
  have hown : s.vm.findClass RX0 = some m.cls := findClass_of_methodNamed B.named
  have hlocks := B.notSynchronized
  subst hsz
  have hD := hD0.self (sz := s.heap.size)
  generalize hAe : va_A [(x, .inr (0, [.ref h])), (h, .inr (1, [.ref a, .int (nI z), .null, .int fi, .int fv])), (a, .inl (dA, n, .inl f))] s.heap.size = A at hD ⊢
  have hA : ∀ q : Nat, s.heap.size ≤ q → A q := fun q h => by rw [← hAe]; exact Or.inr h
  have hS : va_S A s.heap s.heap [] := va_S.rf
  have hP : va_P (dC, dI) vwCl [(x, .inr (0, [.ref h])), (h, .inr (1, [.ref a, .int (nI z), .null, .int fi, .int fv])), (a, .inl (dA, n, .inl f))] s.heap := hP
  have hl := lv_entry ([.ref x]) (n := 1) (Nat.le_of_ble_eq_true rfl)
  rw [lg_entry_eq]
  generalize (lg_sl ([.ref x]) ++ List.replicate (1 - (lg_sl ([.ref x])).length) Slot.unset).toArray = ls at hl ⊢
  have hl : lv_has ls 1 [(0, .ref x)] := hl
  refine lv_aload_n hx hb dX0_drain_0 rfl (lv_at hl 0 rfl) ?_
  refine va_get (D := (dC, dI)) (ci := 0) (v := .ref h) (C := RX0) (T := TX0) (N := 1) hx hb hts in_X0 hown hK hP 0 rfl rfl 0 (by decide) (hts _ q52) (fun _ h9 => h9) rfl dX0_drain_1 ?_
  have hPc := hP.sub (ws' := [(h, .inr (1, [.ref a, .int (nI z), .null, .int fi, .int fv]))]) [1] rfl
  have hDc := hD.sub (ws' := [(h, .inr (1, [.ref a, .int (nI z), .null, .int fi, .int fv]))]) [1] (by decide) rfl
  have hKc := hK.sub (tys' := [(dA, .int)]) [0] rfl
  have hFc := va_free (wc := [(h, .inr (1, [.ref a, .int (nI z), .null, .int fi, .int fv]))]) hD hS hA [1] rfl
  refine va_callv (va_runV (As := []) (rest := []) ⟨hx, hb, hml, hown, hts⟩ (met_qclear l dC dI dA h a s.heap.size (nI z) fi fv) (cwV 0 hts (lw_V q199 q200 q201 q7 q202) rfl rfl rfl (by decide +kernel) ⟨Nat.le_of_ble_eq_true rfl, Nat.le_of_ble_eq_true rfl⟩) ⟨fun a U g mk q => by obtain ⟨q0, q1, qP, qK, qD⟩ := q; exact ⟨q0, q1, qP, va_K.moved (u := U) (U := U.calling g mk a) (Vm.Alike.refl U.vm) qK, qD⟩, va_recv hKc hPc (ci := 1) (q0 := 0) rfl rfl, fun U hU hW => ⟨rfl, by rw [hU], by rw [hU]; exact hPc, va_K.moved hW.alike hKc, hDc.weaken (fun _ _ _ _ => trivial)⟩⟩ rfl rfl hl.1 rfl (lv_room (Nat.le_of_ble_eq_true rfl)) dX0_drain_4 ⟨Nat.le_of_ble_eq_true rfl, Nat.le_of_ble_eq_true rfl⟩) hS (fun q _ h => hFc q h) hFc (fun _u t H locs ht hvm hw hB hz1 hk1 hS => ?_)
  obtain ⟨hP1, hK1, hD1⟩ := hB
  rw [ht] at hP1
  obtain ⟨hP, hD⟩ := va_join (wr := [(x, .inr (0, [.ref h])), (a, .inl (dA, n, .inl f))]) (w1 := [(h, .inr (1, [.ref a, .int 0, .null, .int fi, .int 0]))]) hP hD [1] [0, 2] rfl rfl (by decide) (by decide) hk1 hFc hP1 hD1
  have hP : va_P (dC, dI) vwCl [(x, .inr (0, [.ref h])), (h, .inr (1, [.ref a, .int 0, .null, .int fi, .int 0])), (a, .inl (dA, n, .inl f))] H := hP.sub [0, 2, 1] rfl
  have hD : va_D A [(x, .inr (0, [.ref h])), (h, .inr (1, [.ref a, .int 0, .null, .int fi, .int 0])), (a, .inl (dA, n, .inl f))] := hD.sub [0, 2, 1] (by decide) rfl
  have hP9 := hP.sub (ws' := [(x, .inr (0, [.ref h])), (h, .inr (1, [.ref a, .int 0, .null, .int fi, .int 0])), (a, .inl (dA, n, .inl f))]) [0, 1, 2] rfl
  have hD9 := hD.sub (ws' := [(x, .inr (0, [.ref h])), (h, .inr (1, [.ref a, .int 0, .null, .int fi, .int 0])), (a, .inl (dA, n, .inl f))]) [0, 1, 2] (by decide) rfl
  have hK9 := hK.sub (tys' := [(dA, .int)]) [0] rfl
  exact W.vret hx hb hr (fun t ht hW => ⟨⟨(), rfl, trivial, ⟨a, n, f, 0, fi, 0, aq_Q_nil n f fi hq.2.1, by rw [ht]; exact hP9, va_K.moved hW.alike hK9, hD9⟩⟩, hS.F ht⟩) hS.2.2 dX0_drain_7
end
section
/-! what the Statement gives of the start, and small worlds -/
theorem aq_one {D : va_G} {cl : List vw_C} {a : Nat} {x : ClassId × vp_A} {H : Heap} (h : H[a]? = some (vp_cell x.1 x.2)) : va_P D cl [(a, .inl x)] H := by
  intro k q hk
  match k, hk with
  | 0, hk => cases hk; exact h
  | k + 1, hk => simp at hk
theorem aq_oneD {A : Nat → Prop} {a : Nat} {e : va_E} (h : A a) : va_D A [(a, e)] := by
  refine ⟨fun i j p q hi hj _ => ?_, fun k q hk => ?_⟩
  · have h1 : i < 1 := (List.getElem?_eq_some_iff.mp hi).1
    have h2 : j < 1 := (List.getElem?_eq_some_iff.mp hj).1
    omega
  · match k, hk with
    | 0, hk => cases hk; exact h
    | k + 1, hk => simp at hk
/-- one more cell beside a world that hasn't it -/
theorem aq_addE {D : va_G} {cl : List vw_C} {A : Nat → Prop} {ws : va_W} {a : Nat} {x : ClassId × vp_A} {H : Heap} (hP : va_P D cl ws H) (hD : va_D A ws) (h : H[a]? = some (vp_cell x.1 x.2)) (hA : A a) (hne : ∀ q ∈ ws, q.1 ≠ a) : va_P D cl (ws ++ [(a, .inl x)]) H ∧ va_D A (ws ++ [(a, .inl x)]) := by
  refine ⟨hP.app (aq_one h), hD.app (aq_oneD hA) (fun i j p q hi hj => ?_)⟩
  have h1 := hne p (List.mem_of_getElem? hi)
  have h2 : q = (a, .inl x) := by
    have := List.mem_of_getElem? hj
    simpa using this
  rw [h2]
  exact h1
/-- a length that is told is that of a small array -/
theorem aq_small {args : Array Value} {s : State} {t : Term} {v : Value} {a : Addr} {cell : Cell} (hv : (Term.length t).eval args s none [] s = some v) (ht : t.eval args s none [] s = some (.ref a)) (hat : s.arrayAt? a = some cell) : cell.slots.size < 2147483648 := by
  simp only [Term.eval, ht, hat, Option.bind_eq_bind, Option.bind_some] at hv
  by_cases hlt : cell.slots.size < 2147483648
  · exact hlt
  · simp [hlt] at hv
theorem aq_start {s : State} {b : Nat} (hgv : (Jvm.Cond.and given_1 narrow_1).before #[Value.ref b] s = true) : ∃ (e0 : Nat) (dA : ClassId), (Term.static "IntArrays" "EMPTY_ARRAY" "[I").eval #[Value.ref b] s none [] s = some (.ref e0) ∧ s.heap[e0]? = some (vp_cell dA (0, .inl (fun _ => 0))) ∧ ArrOfT s dA .int ∧ s.vm.findClass ("[" ++ (FieldType.int).toString) = some dA ∧ b ≠ e0 := by
  have hs := flat_of_before _ hgv
  have hE1 : (Cond.arrayOf (.static "IntArrays" "EMPTY_ARRAY" "[I") .int).before #[Value.ref b] s = true := hs _ (by decide +kernel)
  have hE2 : (Cond.untouched (.static "IntArrays" "EMPTY_ARRAY" "[I")).before #[Value.ref b] s = true := hs _ (by decide +kernel)
  have hE3 : (Cond.eq (.length (.static "IntArrays" "EMPTY_ARRAY" "[I")) (.int 0)).before #[Value.ref b] s = true := hs _ (by decide +kernel)
  have hE4 : (Cond.not (Cond.eq (.arg 0) (.static "IntArrays" "EMPTY_ARRAY" "[I"))).before #[Value.ref b] s = true := hs _ (by decide +kernel)
  have hE5 : (Cond.exactly (.static "IntArrays" "EMPTY_ARRAY" "[I") "[I").before #[Value.ref b] s = true := hs _ (by decide +kernel)
  obtain ⟨e0, cell, hev, hcell, hmon, hhash, hvm⟩ := Cond.untouched_spec hE2
  obtain ⟨e1, c1, cell1, k1, hev1, hc1, hcell1, -, -, hcls, -⟩ := Cond.exactly_spec hE5
  have q1 : e1 = e0 := by
    have := hev1.symm.trans hev
    cases this
    rfl
  subst q1
  have q2 : cell1 = cell := Option.some.inj (hcell1.symm.trans hcell)
  subst q2
  obtain ⟨⟨ho1, k, hk, comp, hkind⟩, -⟩ := Cond.arrayOf_spec hE1 hev hcell
  have hsz : cell1.slots.size = 0 := by
    have hv := va_eqt hE3
    obtain ⟨a, cell2, ht, hat, hval⟩ := Term.length_spec hv
    have q3 : a = e1 := by
      have := ht.symm.trans hev
      cases this
      rfl
    subst q3
    have q4 : cell2 = cell1 := Option.some.inj ((State.arrayAt?_spec hat).1.symm.trans hcell)
    subst q4
    have hlt := aq_small hv ht hat
    have h5 : nI cell2.slots.size = nI 0 := (Value.int.inj hval).symm
    exact (nI_eq (by omega) (by omega)).mp h5
  have hcellv : cell1 = vp_cell c1 (0, .inl (fun _ => 0)) := by
    obtain ⟨cc1, sl, mo, ha, vv⟩ := cell1
    have h6 : sl = #[] := Array.eq_empty_of_size_eq_zero hsz
    have h7 : cc1 = c1 := hcls
    have h8 : mo = {} := hmon
    have h9 : ha = none := hhash
    have h10 : vv = .none := hvm
    rw [h6, h7, h8, h9, h10]
    simp [vp_cell, arrV]
  refine ⟨e1, c1, hev, by rw [hcell, hcellv], fun n z => ⟨fun k h => (by cases h), k, ?_, comp, hkind⟩, ?_, ?_⟩
  · rw [← hcls]
    exact hk
  · rw [show ("[" ++ (FieldType.int).toString) = "[I" from by decide]
    exact hc1
  · intro q
    subst q
    have he : (Term.arg 0).eval #[Value.ref b] s none [] s = some (.ref b) := rfl
    simp [Cond.before, Cond.holds, Cond.value, hev, he] at hE4
theorem aq_startZ {s : State} {b e0 : Nat} {dA : ClassId} {f : Nat → Int32} (hts0 : ∀ w ∈ lw_tbl, w.before #[Value.ref b] s = true) (hev : (Term.static "IntArrays" "EMPTY_ARRAY" "[I").eval #[Value.ref b] s none [] s = some (.ref e0)) (hE : s.heap[e0]? = some (vp_cell dA (0, .inl f))) : va_Z "IntArrays" "EMPTY_ARRAY" "[I" (.ref e0) (fun q => q = e0 ∨ s.heap.size ≤ q) s s.heap := by
  obtain ⟨cf, kf, fi, fd, a, cell, h1, h2, h3, h4, h5, h6, h7, h8⟩ := va_Zof (A := fun q => s.heap.size ≤ q) (hts0 _ q34) (hts0 _ (lw_all_tbl q8)) hev (fun a h => Nat.not_le.mpr h)
  refine ⟨cf, kf, fi, fd, a, cell, h1, h2, h3, h4, h5, h6, h7, fun q => ?_⟩
  rcases q with q | q
  · rw [q, hE] at h5
    cases h5
    cases h6
  · exact h8 q
theorem aq_cond {L k : Nat} (hL : L ≤ 288) (hk : k ≤ 300) : nI L - 6 < nI (6 * k) ↔ L < 6 * k + 6 := by
  rw [show (6 : Int32) = nI 6 from rfl, Int32.lt_iff_toInt_lt, pk_sub_toInt (by omega) (by omega), nI_toInt (by omega)]
  omega
theorem aq_inc6 (k : Nat) : nI (6 * k) + Int32.ofInt 6 = nI (6 * (k + 1)) := by
  rw [show Int32.ofInt 6 = nI 6 from rfl, nI_add]
  rfl
theorem aq_cmp (z : Int64) : lg_cmp z z = 0 := by
  have h : ¬ z < z := by
    rw [Int64.lt_iff_toInt_lt]
    omega
  simp [lg_cmp, h]
end
section
/-! THE LAW: its loop, and its body from the entry -/
set_option maxHeartbeats 4000000 in
set_option maxRecDepth 100000 in
/-- the law's loop at its head, with k calls made: both sides hold Lq -/
theorem law_loop {p : Program} {l : Launch} {e : Env} {s : State} {m : MethodId} {below : List Frame} {meth : Method} {c : Code} {dC : Nat → ClassId} {dI : Nat → Nat → Nat} {dA : ClassId} {A : Nat → Prop} {b L : Nat} {xs : Nat → Int32} {e0 x h o r : Nat} (hx : p.tables.exec = Jvm.exec) (hb : c.code = cL_law) (hr : meth.sig.returnType = ret) (hlocks : meth.locks = false) (hml : c.maxLocals = 4) (hown : s.vm.findClass R_law = some m.cls) (hts : ∀ w ∈ lw_all, w.before #[Value.ref b] s = true) (hK : va_K (dC, dI) vwCl [(dA, .int)] s) (hA : ∀ q : Nat, s.heap.size ≤ q → A q) (hAe : ∀ q : Nat, A q → q = e0 ∨ s.heap.size ≤ q) (heA : A e0) (hX : va_X b L xs s s.heap) (hbl : b < s.heap.size) (hbA : ¬ A b) (hZ : va_Z "IntArrays" "EMPTY_ARRAY" "[I" (.ref e0) A s s.heap) (he0 : s.heap[e0]? = some (vp_cell dA (0, .inl (fun _ => 0)))) (hL : L ≤ 288) (hex : x ≠ e0) (heh : h ≠ e0) (heo : o ≠ e0) (her : r ≠ e0) : ∀ (d k : Nat) (Lq : List Int32) (a n : Nat) (f : Nat → Int32) (z : Nat) (fi fv : Int32) (g : Nat → Int32) (zm : Nat) (H : Heap) (locs : List Loc) (ls : Array Slot), L ≤ 6 * k + 6 * d + 5 → 6 * k ≤ L → aq_Q Lq n f z fi fv → aq_M Lq g zm → va_P (dC, dI) vwCl [(x, .inr (0, [.ref h])), (h, .inr (1, [.ref a, .int (nI z), .null, .int fi, .int fv])), (a, .inl (dA, n, .inl f)), (o, .inr (2, [.ref r, .int (nI zm)])), (r, .inl (dA, 200, .inl g))] H → va_D A [(x, .inr (0, [.ref h])), (h, .inr (1, [.ref a, .int (nI z), .null, .int fi, .int fv])), (a, .inl (dA, n, .inl f)), (o, .inr (2, [.ref r, .int (nI zm)])), (r, .inl (dA, 200, .inl g))] → va_S A s.heap H locs → lv_has ls 4 [(0, .ref b), (1, .ref x), (2, .ref o), (3, .int (nI (6 * k)))] → W p l e room_1 s m #[Value.ref b] below meth c H locs (4 + 15 * k) (208 + 4500 * k) (lw_Z below #[Value.ref b] s) (F0 m 18 ls []) := by
  intro d
  induction d with
  | zero =>
    intro k Lq a n f z fi fv g zm H locs ls hd hk hq hM hP hD hS hl
    refine lv_iload_n hx hb dL_law_18 rfl (lv_at hl 3 rfl) ?_
    refine lv_aload_n hx hb dL_law_19 rfl (lv_at hl 0 rfl) ?_
    refine va_slen hx hb hX hbl hbA hS dL_law_20 ?_
    refine lv_bipush (v := 6) hx hb dL_law_21 (by decide) ?_
    refine lv_isub hx hb dL_law_23 ?_
    refine lv_icmp_gt (tgt := 237) hx hb dL_law_24 (by decide) (fun _ => ?_) (fun hn9 => absurd ((aq_cond hL (by omega)).mpr (by omega)) hn9)
    refine lv_iconst (v := 1) hx hb dL_law_237 (by decide) ?_
    refine aq_forget he0 (by rw [vp_cell_i, arrV_size]) (fun q hq9 => hAe _ (hS.2.2 q hq9)) ?_
    refine W.widen (k := 1200096) (n := 5501386) (by omega) (by omega) ?_
    exact lw_ret hx hb hr hlocks dL_law_238
  | succ d ih =>
    intro k Lq a n f z fi fv g zm H locs ls hd hk hq hM hP hD hS hl
    refine lv_iload_n hx hb dL_law_18 rfl (lv_at hl 3 rfl) ?_
    refine lv_aload_n hx hb dL_law_19 rfl (lv_at hl 0 rfl) ?_
    refine va_slen hx hb hX hbl hbA hS dL_law_20 ?_
    refine lv_bipush (v := 6) hx hb dL_law_21 (by decide) ?_
    refine lv_isub hx hb dL_law_23 ?_
    refine lv_icmp_gt (tgt := 237) hx hb dL_law_24 (by decide) (fun hc9 => ?_) (fun hc9 => ?_)
    · refine lv_iconst (v := 1) hx hb dL_law_237 (by decide) ?_
      refine aq_forget he0 (by rw [vp_cell_i, arrV_size]) (fun q hq9 => hAe _ (hS.2.2 q hq9)) ?_
      refine W.widen (k := 1200096) (n := 5501386) (by omega) (by omega) ?_
      exact lw_ret hx hb hr hlocks dL_law_238
    · have hk6 : 6 * k + 6 ≤ L := Nat.not_lt.mp (fun q9 => hc9 ((aq_cond hL (by omega)).mpr q9))
      have next : ∀ (Lq : List Int32) (a n : Nat) (f : Nat → Int32) (z : Nat) (fi fv : Int32) (g : Nat → Int32) (zm : Nat) (cl sl : Nat) (H : Heap) (locs : List Loc) (ls : Array Slot), cl ≤ 4 + 15 * (k + 1) → sl ≤ 208 + 4500 * (k + 1) → aq_Q Lq n f z fi fv → aq_M Lq g zm → va_P (dC, dI) vwCl [(x, .inr (0, [.ref h])), (h, .inr (1, [.ref a, .int (nI z), .null, .int fi, .int fv])), (a, .inl (dA, n, .inl f)), (o, .inr (2, [.ref r, .int (nI zm)])), (r, .inl (dA, 200, .inl g))] H → va_D A [(x, .inr (0, [.ref h])), (h, .inr (1, [.ref a, .int (nI z), .null, .int fi, .int fv])), (a, .inl (dA, n, .inl f)), (o, .inr (2, [.ref r, .int (nI zm)])), (r, .inl (dA, 200, .inl g))] → va_S A s.heap H locs → lv_has ls 4 [(0, .ref b), (1, .ref x), (2, .ref o), (3, .int (nI (6 * k)))] → W p l e room_1 s m #[Value.ref b] below meth c H locs (cl) (sl) (lw_Z below #[Value.ref b] s) (F0 m 231 ls []) := by
        intro Lq a n f z fi fv g zm cl sl H locs ls hcl hsl hq hM hP hD hS hl
        refine lv_iinc (v := nI (6 * (k + 1))) (lv' := [(3, .int (nI (6 * (k + 1)))), (0, .ref b), (1, .ref x), (2, .ref o)]) hx hb dL_law_231 hl (k := 3) rfl (aq_inc6 k) (by decide) rfl (fun ls hl => ?_)
        refine lv_goto (tgt := 18) hx hb dL_law_234 (by decide) ?_
        refine W.widen (k := 4 + 15 * (k + 1)) (n := 208 + 4500 * (k + 1)) hcl hsl ?_
        exact ih (k + 1) Lq a n f z fi fv g zm H locs ls (by omega) (by omega) hq hM hP hD hS (lv_sub hl [1, 2, 3, 0] rfl)
      refine lv_aload_n hx hb dL_law_27 rfl (lv_at hl 0 rfl) ?_
      refine lv_iload_n hx hb dL_law_28 rfl (lv_at hl 3 rfl) ?_
      refine va_sld hx hb hX hbl hbA hS (i := nI (6 * k)) (vp_in_nI (by omega) (by omega)) dL_law_29 ?_
      refine aq_asi (y := xs (6 * k)) (by rw [nI_clamp (by omega)]) ?_
      refine lv_bipush (v := 7) hx hb dL_law_30 (by decide) ?_
      refine lv_iand hx hb dL_law_32 ?_
      obtain ⟨j, hj, ej⟩ := pk_andE (xs (6 * k)) (m := 7) 3 (by decide)
      refine aq_asi (y := nI j) (ej) ?_
      have hj : j = 0 ∨ j = 1 ∨ j = 2 ∨ j = 3 ∨ j = 4 ∨ j = 5 ∨ j = 6 ∨ j = 7 := by omega
      rcases hj with rfl | rfl | rfl | rfl | rfl | rfl | rfl | rfl
      · refine lv_tableIn (x := nI 0) (off := 47) (tgt := 80) hx hb dL_law_33 (by decide) (by decide) (by decide) (by decide) ?_
        refine lv_aload_n hx hb dL_law_80 rfl (lv_at hl 1 rfl) ?_
        refine lv_aload_n hx hb dL_law_81 rfl (lv_at hl 0 rfl) ?_
        refine lv_iload_n hx hb dL_law_82 rfl (lv_at hl 3 rfl) ?_
        refine lv_iconst (v := 1) hx hb dL_law_83 (by decide) ?_
        refine lv_iadd hx hb dL_law_84 ?_
        refine aq_asi (y := nI (6 * k + 1)) (nI_add (6 * k) 1) ?_
        refine va_sld hx hb hX hbl hbA hS (i := nI (6 * k + 1)) (vp_in_nI (by omega) (by omega)) dL_law_85 ?_
        refine aq_asi (y := xs (6 * k + 1)) (by rw [nI_clamp (by omega)]) ?_
        have hPc := hP.sub (ws' := [(x, .inr (0, [.ref h])), (h, .inr (1, [.ref a, .int (nI z), .null, .int fi, .int fv])), (a, .inl (dA, n, .inl f))]) [0, 1, 2] rfl
        have hDc := hD.sub (ws' := [(x, .inr (0, [.ref h])), (h, .inr (1, [.ref a, .int (nI z), .null, .int fi, .int fv])), (a, .inl (dA, n, .inl f))]) [0, 1, 2] (by decide) rfl
        have hKc := hK.sub (tys' := [(dA, .int)]) [0] rfl
        have hFc := va_free (wc := [(x, .inr (0, [.ref h])), (h, .inr (1, [.ref a, .int (nI z), .null, .int fi, .int fv])), (a, .inl (dA, n, .inl f))]) hD hS hA [0, 1, 2] rfl
        refine va_calli (va_runV (As := [.int (xs (6 * k + 1))]) (rest := []) ⟨hx, hb, hml, hown, hts⟩ (met_denter l dC dI dA x h a H.size n z f fi fv Lq (xs (6 * k + 1)) hq) (cwV 1 hts (lw_V q56 q57 q58 q6 q59) rfl rfl rfl (by decide +kernel) ⟨Nat.le_of_ble_eq_true rfl, Nat.le_of_ble_eq_true rfl⟩) ⟨fun a U g mk q => by obtain ⟨q0, q1, qP, qK, qD⟩ := q; exact ⟨q0, q1, qP, va_K.moved (u := U) (U := U.calling g mk a) (Vm.Alike.refl U.vm) qK, qD⟩, va_recv hKc hPc (ci := 0) (q0 := 0) rfl rfl, fun U hU hW => ⟨rfl, by rw [hU], by rw [hU]; exact hPc, va_K.moved hW.alike hKc, hDc.weaken (fun _ _ _ _ => trivial)⟩⟩ rfl rfl hl.1 rfl (lv_room (Nat.le_of_ble_eq_true rfl)) dL_law_86 ⟨by show _ ≤ 1200096; omega, by show _ ≤ 5501386; omega⟩) hS (fun q _ h => hFc q h) hFc (fun r_1 _u t H locs ht hvm hw1 hB hz1 hk1 hS => ?_)
        obtain ⟨a2, n2, f2, z2, fi2, fv2, hq2, hP1, hK1, hD1⟩ := hB
        rw [ht] at hP1
        obtain ⟨hP, hD⟩ := va_join (wr := [(o, .inr (2, [.ref r, .int (nI zm)])), (r, .inl (dA, 200, .inl g))]) (w1 := [(x, .inr (0, [.ref h])), (h, .inr (1, [.ref a2, .int (nI z2), .null, .int fi2, .int fv2])), (a2, .inl (dA, n2, .inl f2))]) hP hD [0, 1, 2] [3, 4] rfl rfl (by decide) (by decide) hk1 hFc hP1 hD1
        have hP : va_P (dC, dI) vwCl [(x, .inr (0, [.ref h])), (h, .inr (1, [.ref a2, .int (nI z2), .null, .int fi2, .int fv2])), (a2, .inl (dA, n2, .inl f2)), (o, .inr (2, [.ref r, .int (nI zm)])), (r, .inl (dA, 200, .inl g))] H := hP.sub [2, 3, 4, 0, 1] rfl
        have hD : va_D A [(x, .inr (0, [.ref h])), (h, .inr (1, [.ref a2, .int (nI z2), .null, .int fi2, .int fv2])), (a2, .inl (dA, n2, .inl f2)), (o, .inr (2, [.ref r, .int (nI zm)])), (r, .inl (dA, 200, .inl g))] := hD.sub [2, 3, 4, 0, 1] (by decide) rfl
        refine lv_aload_n hx hb dL_law_89 rfl (lv_at hl 2 rfl) ?_
        refine lv_aload_n hx hb dL_law_90 rfl (lv_at hl 0 rfl) ?_
        refine lv_iload_n hx hb dL_law_91 rfl (lv_at hl 3 rfl) ?_
        refine lv_iconst (v := 1) hx hb dL_law_92 (by decide) ?_
        refine lv_iadd hx hb dL_law_93 ?_
        refine aq_asi (y := nI (6 * k + 1)) (nI_add (6 * k) 1) ?_
        refine va_sld hx hb hX hbl hbA hS (i := nI (6 * k + 1)) (vp_in_nI (by omega) (by omega)) dL_law_94 ?_
        refine aq_asi (y := xs (6 * k + 1)) (by rw [nI_clamp (by omega)]) ?_
        have hPc := hP.sub (ws' := [(o, .inr (2, [.ref r, .int (nI zm)])), (r, .inl (dA, 200, .inl g))]) [3, 4] rfl
        have hDc := hD.sub (ws' := [(o, .inr (2, [.ref r, .int (nI zm)])), (r, .inl (dA, 200, .inl g))]) [3, 4] (by decide) rfl
        have hKc := hK.sub (tys' := [(dA, .int)]) [0] rfl
        have hFc := va_free (wc := [(o, .inr (2, [.ref r, .int (nI zm)])), (r, .inl (dA, 200, .inl g))]) hD hS hA [3, 4] rfl
        refine va_calli (va_runV (As := [.int (xs (6 * k + 1))]) (rest := [.int r_1]) ⟨hx, hb, hml, hown, hts⟩ (met_menter l dC dI dA o r H.size zm g Lq (xs (6 * k + 1)) hM) (cwV 1 hts (lw_V q216 q217 q218 q9 q219) rfl rfl rfl (by decide +kernel) ⟨Nat.le_of_ble_eq_true rfl, Nat.le_of_ble_eq_true rfl⟩) ⟨fun a U g mk q => by obtain ⟨q0, q1, qP, qK, qD⟩ := q; exact ⟨q0, q1, qP, va_K.moved (u := U) (U := U.calling g mk a) (Vm.Alike.refl U.vm) qK, qD⟩, va_recv hKc hPc (ci := 2) (q0 := 0) rfl rfl, fun U hU hW => ⟨rfl, by rw [hU], by rw [hU]; exact hPc, va_K.moved hW.alike hKc, hDc.weaken (fun _ _ _ _ => trivial)⟩⟩ rfl rfl hl.1 rfl (lv_room (Nat.le_of_ble_eq_true rfl)) dL_law_95 ⟨by show _ ≤ 1200096; omega, by show _ ≤ 5501386; omega⟩) hS (fun q _ h => hFc q h) hFc (fun r_2 _u t H locs ht hvm hw2 hB hz1 hk1 hS => ?_)
        obtain ⟨g2, zm2, hM2, hP1, hK1, hD1⟩ := hB
        rw [ht] at hP1
        obtain ⟨hP, hD⟩ := va_join (wr := [(x, .inr (0, [.ref h])), (h, .inr (1, [.ref a2, .int (nI z2), .null, .int fi2, .int fv2])), (a2, .inl (dA, n2, .inl f2))]) (w1 := [(o, .inr (2, [.ref r, .int (nI zm2)])), (r, .inl (dA, 200, .inl g2))]) hP hD [3, 4] [0, 1, 2] rfl rfl (by decide) (by decide) hk1 hFc hP1 hD1
        have hP : va_P (dC, dI) vwCl [(x, .inr (0, [.ref h])), (h, .inr (1, [.ref a2, .int (nI z2), .null, .int fi2, .int fv2])), (a2, .inl (dA, n2, .inl f2)), (o, .inr (2, [.ref r, .int (nI zm2)])), (r, .inl (dA, 200, .inl g2))] H := hP
        have hD : va_D A [(x, .inr (0, [.ref h])), (h, .inr (1, [.ref a2, .int (nI z2), .null, .int fi2, .int fv2])), (a2, .inl (dA, n2, .inl f2)), (o, .inr (2, [.ref r, .int (nI zm2)])), (r, .inl (dA, 200, .inl g2))] := hD
        refine lv_icmp_eq (tgt := 231) hx hb dL_law_98 (by decide) (fun _ => ?_) (fun hn9 => absurd (hw1.trans hw2.symm) hn9)
        exact next (if Lq.length < 200 then xs (6 * k + 1) :: Lq else Lq) a2 n2 f2 z2 fi2 fv2 g2 zm2 _ _ H locs ls (by omega) (by omega) hq2 hM2 hP hD hS hl
      · refine lv_tableIn (x := nI 1) (off := 70) (tgt := 103) hx hb dL_law_33 (by decide) (by decide) (by decide) (by decide) ?_
        refine lv_aload_n hx hb dL_law_103 rfl (lv_at hl 1 rfl) ?_
        refine lv_aload_n hx hb dL_law_104 rfl (lv_at hl 0 rfl) ?_
        refine lv_iload_n hx hb dL_law_105 rfl (lv_at hl 3 rfl) ?_
        refine lv_iconst (v := 1) hx hb dL_law_106 (by decide) ?_
        refine lv_iadd hx hb dL_law_107 ?_
        refine aq_asi (y := nI (6 * k + 1)) (nI_add (6 * k) 1) ?_
        refine va_sld hx hb hX hbl hbA hS (i := nI (6 * k + 1)) (vp_in_nI (by omega) (by omega)) dL_law_108 ?_
        refine aq_asi (y := xs (6 * k + 1)) (by rw [nI_clamp (by omega)]) ?_
        refine lv_aload_n hx hb dL_law_109 rfl (lv_at hl 0 rfl) ?_
        refine lv_iload_n hx hb dL_law_110 rfl (lv_at hl 3 rfl) ?_
        refine lv_iconst (v := 2) hx hb dL_law_111 (by decide) ?_
        refine lv_iadd hx hb dL_law_112 ?_
        refine aq_asi (y := nI (6 * k + 2)) (nI_add (6 * k) 2) ?_
        refine va_sld hx hb hX hbl hbA hS (i := nI (6 * k + 2)) (vp_in_nI (by omega) (by omega)) dL_law_113 ?_
        refine aq_asi (y := xs (6 * k + 2)) (by rw [nI_clamp (by omega)]) ?_
        refine lv_aload_n hx hb dL_law_114 rfl (lv_at hl 0 rfl) ?_
        refine lv_iload_n hx hb dL_law_115 rfl (lv_at hl 3 rfl) ?_
        refine lv_iconst (v := 3) hx hb dL_law_116 (by decide) ?_
        refine lv_iadd hx hb dL_law_117 ?_
        refine aq_asi (y := nI (6 * k + 3)) (nI_add (6 * k) 3) ?_
        refine va_sld hx hb hX hbl hbA hS (i := nI (6 * k + 3)) (vp_in_nI (by omega) (by omega)) dL_law_118 ?_
        refine aq_asi (y := xs (6 * k + 3)) (by rw [nI_clamp (by omega)]) ?_
        have hPc := hP.sub (ws' := [(x, .inr (0, [.ref h])), (h, .inr (1, [.ref a, .int (nI z), .null, .int fi, .int fv])), (a, .inl (dA, n, .inl f))]) [0, 1, 2] rfl
        have hDc := hD.sub (ws' := [(x, .inr (0, [.ref h])), (h, .inr (1, [.ref a, .int (nI z), .null, .int fi, .int fv])), (a, .inl (dA, n, .inl f))]) [0, 1, 2] (by decide) rfl
        have hKc := hK.sub (tys' := [(dA, .int)]) [0] rfl
        have hFc := va_free (wc := [(x, .inr (0, [.ref h])), (h, .inr (1, [.ref a, .int (nI z), .null, .int fi, .int fv])), (a, .inl (dA, n, .inl f))]) hD hS hA [0, 1, 2] rfl
        refine va_calli (va_runV (As := [.int (xs (6 * k + 1)), .int (xs (6 * k + 2)), .int (xs (6 * k + 3))]) (rest := []) ⟨hx, hb, hml, hown, hts⟩ (met_dmany l dC dI dA x h a H.size n z f fi fv Lq (xs (6 * k + 1)) (xs (6 * k + 2)) (xs (6 * k + 3)) hq) (cwV 3 hts (lw_V q84 q85 q86 q6 q87) rfl rfl rfl (by decide +kernel) ⟨Nat.le_of_ble_eq_true rfl, Nat.le_of_ble_eq_true rfl⟩) ⟨fun a U g mk q => by obtain ⟨q0, q1, qP, qK, qD⟩ := q; exact ⟨q0, q1, qP, va_K.moved (u := U) (U := U.calling g mk a) (Vm.Alike.refl U.vm) qK, qD⟩, va_recv hKc hPc (ci := 0) (q0 := 0) rfl rfl, fun U hU hW => ⟨rfl, by rw [hU], by rw [hU]; exact hPc, va_K.moved hW.alike hKc, hDc.weaken (fun _ _ _ _ => trivial)⟩⟩ rfl rfl hl.1 rfl (lv_room (Nat.le_of_ble_eq_true rfl)) dL_law_119 ⟨by show _ ≤ 1200096; omega, by show _ ≤ 5501386; omega⟩) hS (fun q _ h => hFc q h) hFc (fun r_3 _u t H locs ht hvm hw1 hB hz1 hk1 hS => ?_)
        obtain ⟨a2, n2, f2, z2, fi2, fv2, hq2, hP1, hK1, hD1⟩ := hB
        rw [ht] at hP1
        obtain ⟨hP, hD⟩ := va_join (wr := [(o, .inr (2, [.ref r, .int (nI zm)])), (r, .inl (dA, 200, .inl g))]) (w1 := [(x, .inr (0, [.ref h])), (h, .inr (1, [.ref a2, .int (nI z2), .null, .int fi2, .int fv2])), (a2, .inl (dA, n2, .inl f2))]) hP hD [0, 1, 2] [3, 4] rfl rfl (by decide) (by decide) hk1 hFc hP1 hD1
        have hP : va_P (dC, dI) vwCl [(x, .inr (0, [.ref h])), (h, .inr (1, [.ref a2, .int (nI z2), .null, .int fi2, .int fv2])), (a2, .inl (dA, n2, .inl f2)), (o, .inr (2, [.ref r, .int (nI zm)])), (r, .inl (dA, 200, .inl g))] H := hP.sub [2, 3, 4, 0, 1] rfl
        have hD : va_D A [(x, .inr (0, [.ref h])), (h, .inr (1, [.ref a2, .int (nI z2), .null, .int fi2, .int fv2])), (a2, .inl (dA, n2, .inl f2)), (o, .inr (2, [.ref r, .int (nI zm)])), (r, .inl (dA, 200, .inl g))] := hD.sub [2, 3, 4, 0, 1] (by decide) rfl
        refine lv_aload_n hx hb dL_law_122 rfl (lv_at hl 2 rfl) ?_
        refine lv_aload_n hx hb dL_law_123 rfl (lv_at hl 0 rfl) ?_
        refine lv_iload_n hx hb dL_law_124 rfl (lv_at hl 3 rfl) ?_
        refine lv_iconst (v := 1) hx hb dL_law_125 (by decide) ?_
        refine lv_iadd hx hb dL_law_126 ?_
        refine aq_asi (y := nI (6 * k + 1)) (nI_add (6 * k) 1) ?_
        refine va_sld hx hb hX hbl hbA hS (i := nI (6 * k + 1)) (vp_in_nI (by omega) (by omega)) dL_law_127 ?_
        refine aq_asi (y := xs (6 * k + 1)) (by rw [nI_clamp (by omega)]) ?_
        refine lv_aload_n hx hb dL_law_128 rfl (lv_at hl 0 rfl) ?_
        refine lv_iload_n hx hb dL_law_129 rfl (lv_at hl 3 rfl) ?_
        refine lv_iconst (v := 2) hx hb dL_law_130 (by decide) ?_
        refine lv_iadd hx hb dL_law_131 ?_
        refine aq_asi (y := nI (6 * k + 2)) (nI_add (6 * k) 2) ?_
        refine va_sld hx hb hX hbl hbA hS (i := nI (6 * k + 2)) (vp_in_nI (by omega) (by omega)) dL_law_132 ?_
        refine aq_asi (y := xs (6 * k + 2)) (by rw [nI_clamp (by omega)]) ?_
        refine lv_aload_n hx hb dL_law_133 rfl (lv_at hl 0 rfl) ?_
        refine lv_iload_n hx hb dL_law_134 rfl (lv_at hl 3 rfl) ?_
        refine lv_iconst (v := 3) hx hb dL_law_135 (by decide) ?_
        refine lv_iadd hx hb dL_law_136 ?_
        refine aq_asi (y := nI (6 * k + 3)) (nI_add (6 * k) 3) ?_
        refine va_sld hx hb hX hbl hbA hS (i := nI (6 * k + 3)) (vp_in_nI (by omega) (by omega)) dL_law_137 ?_
        refine aq_asi (y := xs (6 * k + 3)) (by rw [nI_clamp (by omega)]) ?_
        have hPc := hP.sub (ws' := [(o, .inr (2, [.ref r, .int (nI zm)])), (r, .inl (dA, 200, .inl g))]) [3, 4] rfl
        have hDc := hD.sub (ws' := [(o, .inr (2, [.ref r, .int (nI zm)])), (r, .inl (dA, 200, .inl g))]) [3, 4] (by decide) rfl
        have hKc := hK.sub (tys' := [(dA, .int)]) [0] rfl
        have hFc := va_free (wc := [(o, .inr (2, [.ref r, .int (nI zm)])), (r, .inl (dA, 200, .inl g))]) hD hS hA [3, 4] rfl
        refine va_calli (va_runV (As := [.int (xs (6 * k + 1)), .int (xs (6 * k + 2)), .int (xs (6 * k + 3))]) (rest := [.int r_3]) ⟨hx, hb, hml, hown, hts⟩ (met_mmany l dC dI dA o r H.size zm g Lq (xs (6 * k + 1)) (xs (6 * k + 2)) (xs (6 * k + 3)) hM) (cwV 3 hts (lw_V q224 q225 q226 q9 q227) rfl rfl rfl (by decide +kernel) ⟨Nat.le_of_ble_eq_true rfl, Nat.le_of_ble_eq_true rfl⟩) ⟨fun a U g mk q => by obtain ⟨q0, q1, qP, qK, qD⟩ := q; exact ⟨q0, q1, qP, va_K.moved (u := U) (U := U.calling g mk a) (Vm.Alike.refl U.vm) qK, qD⟩, va_recv hKc hPc (ci := 2) (q0 := 0) rfl rfl, fun U hU hW => ⟨rfl, by rw [hU], by rw [hU]; exact hPc, va_K.moved hW.alike hKc, hDc.weaken (fun _ _ _ _ => trivial)⟩⟩ rfl rfl hl.1 rfl (lv_room (Nat.le_of_ble_eq_true rfl)) dL_law_138 ⟨by show _ ≤ 1200096; omega, by show _ ≤ 5501386; omega⟩) hS (fun q _ h => hFc q h) hFc (fun r_4 _u t H locs ht hvm hw2 hB hz1 hk1 hS => ?_)
        obtain ⟨g2, zm2, hM2, hP1, hK1, hD1⟩ := hB
        rw [ht] at hP1
        obtain ⟨hP, hD⟩ := va_join (wr := [(x, .inr (0, [.ref h])), (h, .inr (1, [.ref a2, .int (nI z2), .null, .int fi2, .int fv2])), (a2, .inl (dA, n2, .inl f2))]) (w1 := [(o, .inr (2, [.ref r, .int (nI zm2)])), (r, .inl (dA, 200, .inl g2))]) hP hD [3, 4] [0, 1, 2] rfl rfl (by decide) (by decide) hk1 hFc hP1 hD1
        have hP : va_P (dC, dI) vwCl [(x, .inr (0, [.ref h])), (h, .inr (1, [.ref a2, .int (nI z2), .null, .int fi2, .int fv2])), (a2, .inl (dA, n2, .inl f2)), (o, .inr (2, [.ref r, .int (nI zm2)])), (r, .inl (dA, 200, .inl g2))] H := hP
        have hD : va_D A [(x, .inr (0, [.ref h])), (h, .inr (1, [.ref a2, .int (nI z2), .null, .int fi2, .int fv2])), (a2, .inl (dA, n2, .inl f2)), (o, .inr (2, [.ref r, .int (nI zm2)])), (r, .inl (dA, 200, .inl g2))] := hD
        refine lv_icmp_eq (tgt := 231) hx hb dL_law_141 (by decide) (fun _ => ?_) (fun hn9 => absurd (hw1.trans hw2.symm) hn9)
        exact next ((aq_many (xs (6 * k + 1)) (xs (6 * k + 2)) (aq_c (xs (6 * k + 3))) 0 Lq).2) a2 n2 f2 z2 fi2 fv2 g2 zm2 _ _ H locs ls (by omega) (by omega) hq2 hM2 hP hD hS hl
      · refine lv_tableIn (x := nI 2) (off := 113) (tgt := 146) hx hb dL_law_33 (by decide) (by decide) (by decide) (by decide) ?_
        refine lv_aload_n hx hb dL_law_146 rfl (lv_at hl 1 rfl) ?_
        have hPc := hP.sub (ws' := [(x, .inr (0, [.ref h])), (h, .inr (1, [.ref a, .int (nI z), .null, .int fi, .int fv])), (a, .inl (dA, n, .inl f))]) [0, 1, 2] rfl
        have hDc := hD.sub (ws' := [(x, .inr (0, [.ref h])), (h, .inr (1, [.ref a, .int (nI z), .null, .int fi, .int fv])), (a, .inl (dA, n, .inl f))]) [0, 1, 2] (by decide) rfl
        have hKc := hK.sub (tys' := [(dA, .int)]) [0] rfl
        have hFc := va_free (wc := [(x, .inr (0, [.ref h])), (h, .inr (1, [.ref a, .int (nI z), .null, .int fi, .int fv])), (a, .inl (dA, n, .inl f))]) hD hS hA [0, 1, 2] rfl
        refine va_calli (va_runV (As := []) (rest := []) ⟨hx, hb, hml, hown, hts⟩ (met_dleast l dC dI dA x h a H.size n z f fi fv Lq  hq) (cwV 0 hts (lw_V q88 q89 q90 q6 q91) rfl rfl rfl (by decide +kernel) ⟨Nat.le_of_ble_eq_true rfl, Nat.le_of_ble_eq_true rfl⟩) ⟨fun a U g mk q => by obtain ⟨q0, q1, qP, qK, qD⟩ := q; exact ⟨q0, q1, qP, va_K.moved (u := U) (U := U.calling g mk a) (Vm.Alike.refl U.vm) qK, qD⟩, va_recv hKc hPc (ci := 0) (q0 := 0) rfl rfl, fun U hU hW => ⟨rfl, by rw [hU], by rw [hU]; exact hPc, va_K.moved hW.alike hKc, hDc.weaken (fun _ _ _ _ => trivial)⟩⟩ rfl rfl hl.1 rfl (lv_room (Nat.le_of_ble_eq_true rfl)) dL_law_147 ⟨by show _ ≤ 1200096; omega, by show _ ≤ 5501386; omega⟩) hS (fun q _ h => hFc q h) hFc (fun r_5 _u t H locs ht hvm hw1 hB hz1 hk1 hS => ?_)
        obtain ⟨a2, n2, f2, z2, fi2, fv2, hq2, hP1, hK1, hD1⟩ := hB
        rw [ht] at hP1
        obtain ⟨hP, hD⟩ := va_join (wr := [(o, .inr (2, [.ref r, .int (nI zm)])), (r, .inl (dA, 200, .inl g))]) (w1 := [(x, .inr (0, [.ref h])), (h, .inr (1, [.ref a2, .int (nI z2), .null, .int fi2, .int fv2])), (a2, .inl (dA, n2, .inl f2))]) hP hD [0, 1, 2] [3, 4] rfl rfl (by decide) (by decide) hk1 hFc hP1 hD1
        have hP : va_P (dC, dI) vwCl [(x, .inr (0, [.ref h])), (h, .inr (1, [.ref a2, .int (nI z2), .null, .int fi2, .int fv2])), (a2, .inl (dA, n2, .inl f2)), (o, .inr (2, [.ref r, .int (nI zm)])), (r, .inl (dA, 200, .inl g))] H := hP.sub [2, 3, 4, 0, 1] rfl
        have hD : va_D A [(x, .inr (0, [.ref h])), (h, .inr (1, [.ref a2, .int (nI z2), .null, .int fi2, .int fv2])), (a2, .inl (dA, n2, .inl f2)), (o, .inr (2, [.ref r, .int (nI zm)])), (r, .inl (dA, 200, .inl g))] := hD.sub [2, 3, 4, 0, 1] (by decide) rfl
        refine lv_aload_n hx hb dL_law_150 rfl (lv_at hl 2 rfl) ?_
        have hPc := hP.sub (ws' := [(o, .inr (2, [.ref r, .int (nI zm)])), (r, .inl (dA, 200, .inl g))]) [3, 4] rfl
        have hDc := hD.sub (ws' := [(o, .inr (2, [.ref r, .int (nI zm)])), (r, .inl (dA, 200, .inl g))]) [3, 4] (by decide) rfl
        have hKc := hK.sub (tys' := [(dA, .int)]) [0] rfl
        have hFc := va_free (wc := [(o, .inr (2, [.ref r, .int (nI zm)])), (r, .inl (dA, 200, .inl g))]) hD hS hA [3, 4] rfl
        refine va_calli (va_runV (As := []) (rest := [.int r_5]) ⟨hx, hb, hml, hown, hts⟩ (met_mleast l dC dI dA o r H.size zm g Lq  hM) (cwV 0 hts (lw_V q228 q229 q230 q9 q231) rfl rfl rfl (by decide +kernel) ⟨Nat.le_of_ble_eq_true rfl, Nat.le_of_ble_eq_true rfl⟩) ⟨fun a U g mk q => by obtain ⟨q0, q1, qP, qK, qD⟩ := q; exact ⟨q0, q1, qP, va_K.moved (u := U) (U := U.calling g mk a) (Vm.Alike.refl U.vm) qK, qD⟩, va_recv hKc hPc (ci := 2) (q0 := 0) rfl rfl, fun U hU hW => ⟨rfl, by rw [hU], by rw [hU]; exact hPc, va_K.moved hW.alike hKc, hDc.weaken (fun _ _ _ _ => trivial)⟩⟩ rfl rfl hl.1 rfl (lv_room (Nat.le_of_ble_eq_true rfl)) dL_law_151 ⟨by show _ ≤ 1200096; omega, by show _ ≤ 5501386; omega⟩) hS (fun q _ h => hFc q h) hFc (fun r_6 _u t H locs ht hvm hw2 hB hz1 hk1 hS => ?_)
        obtain ⟨g2, zm2, hM2, hP1, hK1, hD1⟩ := hB
        rw [ht] at hP1
        obtain ⟨hP, hD⟩ := va_join (wr := [(x, .inr (0, [.ref h])), (h, .inr (1, [.ref a2, .int (nI z2), .null, .int fi2, .int fv2])), (a2, .inl (dA, n2, .inl f2))]) (w1 := [(o, .inr (2, [.ref r, .int (nI zm2)])), (r, .inl (dA, 200, .inl g2))]) hP hD [3, 4] [0, 1, 2] rfl rfl (by decide) (by decide) hk1 hFc hP1 hD1
        have hP : va_P (dC, dI) vwCl [(x, .inr (0, [.ref h])), (h, .inr (1, [.ref a2, .int (nI z2), .null, .int fi2, .int fv2])), (a2, .inl (dA, n2, .inl f2)), (o, .inr (2, [.ref r, .int (nI zm2)])), (r, .inl (dA, 200, .inl g2))] H := hP
        have hD : va_D A [(x, .inr (0, [.ref h])), (h, .inr (1, [.ref a2, .int (nI z2), .null, .int fi2, .int fv2])), (a2, .inl (dA, n2, .inl f2)), (o, .inr (2, [.ref r, .int (nI zm2)])), (r, .inl (dA, 200, .inl g2))] := hD
        refine lv_icmp_eq (tgt := 231) hx hb dL_law_154 (by decide) (fun _ => ?_) (fun hn9 => absurd (hw1.trans hw2.symm) hn9)
        exact next Lq a2 n2 f2 z2 fi2 fv2 g2 zm2 _ _ H locs ls (by omega) (by omega) hq2 hM2 hP hD hS hl
      · refine lv_tableIn (x := nI 3) (off := 126) (tgt := 159) hx hb dL_law_33 (by decide) (by decide) (by decide) (by decide) ?_
        refine lv_aload_n hx hb dL_law_159 rfl (lv_at hl 1 rfl) ?_
        have hPc := hP.sub (ws' := [(x, .inr (0, [.ref h])), (h, .inr (1, [.ref a, .int (nI z), .null, .int fi, .int fv])), (a, .inl (dA, n, .inl f))]) [0, 1, 2] rfl
        have hDc := hD.sub (ws' := [(x, .inr (0, [.ref h])), (h, .inr (1, [.ref a, .int (nI z), .null, .int fi, .int fv])), (a, .inl (dA, n, .inl f))]) [0, 1, 2] (by decide) rfl
        have hKc := hK.sub (tys' := [(dA, .int)]) [0] rfl
        have hFc := va_free (wc := [(x, .inr (0, [.ref h])), (h, .inr (1, [.ref a, .int (nI z), .null, .int fi, .int fv])), (a, .inl (dA, n, .inl f))]) hD hS hA [0, 1, 2] rfl
        refine va_calli (va_runV (As := []) (rest := []) ⟨hx, hb, hml, hown, hts⟩ (met_dtake l dC dI dA x h a H.size n z f fi fv Lq  hq) (cwV 0 hts (lw_V q165 q166 q167 q6 q168) rfl rfl rfl (by decide +kernel) ⟨Nat.le_of_ble_eq_true rfl, Nat.le_of_ble_eq_true rfl⟩) ⟨fun a U g mk q => by obtain ⟨q0, q1, qP, qK, qD⟩ := q; exact ⟨q0, q1, qP, va_K.moved (u := U) (U := U.calling g mk a) (Vm.Alike.refl U.vm) qK, qD⟩, va_recv hKc hPc (ci := 0) (q0 := 0) rfl rfl, fun U hU hW => ⟨rfl, by rw [hU], by rw [hU]; exact hPc, va_K.moved hW.alike hKc, hDc.weaken (fun _ _ _ _ => trivial)⟩⟩ rfl rfl hl.1 rfl (lv_room (Nat.le_of_ble_eq_true rfl)) dL_law_160 ⟨by show _ ≤ 1200096; omega, by show _ ≤ 5501386; omega⟩) hS (fun q _ h => hFc q h) hFc (fun r_7 _u t H locs ht hvm hw1 hB hz1 hk1 hS => ?_)
        obtain ⟨a2, n2, f2, z2, fi2, fv2, hq2, hP1, hK1, hD1⟩ := hB
        rw [ht] at hP1
        obtain ⟨hP, hD⟩ := va_join (wr := [(o, .inr (2, [.ref r, .int (nI zm)])), (r, .inl (dA, 200, .inl g))]) (w1 := [(x, .inr (0, [.ref h])), (h, .inr (1, [.ref a2, .int (nI z2), .null, .int fi2, .int fv2])), (a2, .inl (dA, n2, .inl f2))]) hP hD [0, 1, 2] [3, 4] rfl rfl (by decide) (by decide) hk1 hFc hP1 hD1
        have hP : va_P (dC, dI) vwCl [(x, .inr (0, [.ref h])), (h, .inr (1, [.ref a2, .int (nI z2), .null, .int fi2, .int fv2])), (a2, .inl (dA, n2, .inl f2)), (o, .inr (2, [.ref r, .int (nI zm)])), (r, .inl (dA, 200, .inl g))] H := hP.sub [2, 3, 4, 0, 1] rfl
        have hD : va_D A [(x, .inr (0, [.ref h])), (h, .inr (1, [.ref a2, .int (nI z2), .null, .int fi2, .int fv2])), (a2, .inl (dA, n2, .inl f2)), (o, .inr (2, [.ref r, .int (nI zm)])), (r, .inl (dA, 200, .inl g))] := hD.sub [2, 3, 4, 0, 1] (by decide) rfl
        refine lv_aload_n hx hb dL_law_163 rfl (lv_at hl 2 rfl) ?_
        have hPc := hP.sub (ws' := [(o, .inr (2, [.ref r, .int (nI zm)])), (r, .inl (dA, 200, .inl g))]) [3, 4] rfl
        have hDc := hD.sub (ws' := [(o, .inr (2, [.ref r, .int (nI zm)])), (r, .inl (dA, 200, .inl g))]) [3, 4] (by decide) rfl
        have hKc := hK.sub (tys' := [(dA, .int)]) [0] rfl
        have hFc := va_free (wc := [(o, .inr (2, [.ref r, .int (nI zm)])), (r, .inl (dA, 200, .inl g))]) hD hS hA [3, 4] rfl
        refine va_calli (va_runV (As := []) (rest := [.int r_7]) ⟨hx, hb, hml, hown, hts⟩ (met_mtake l dC dI dA o r H.size zm g Lq  hM) (cwV 0 hts (lw_V q232 q233 q234 q9 q235) rfl rfl rfl (by decide +kernel) ⟨Nat.le_of_ble_eq_true rfl, Nat.le_of_ble_eq_true rfl⟩) ⟨fun a U g mk q => by obtain ⟨q0, q1, qP, qK, qD⟩ := q; exact ⟨q0, q1, qP, va_K.moved (u := U) (U := U.calling g mk a) (Vm.Alike.refl U.vm) qK, qD⟩, va_recv hKc hPc (ci := 2) (q0 := 0) rfl rfl, fun U hU hW => ⟨rfl, by rw [hU], by rw [hU]; exact hPc, va_K.moved hW.alike hKc, hDc.weaken (fun _ _ _ _ => trivial)⟩⟩ rfl rfl hl.1 rfl (lv_room (Nat.le_of_ble_eq_true rfl)) dL_law_164 ⟨by show _ ≤ 1200096; omega, by show _ ≤ 5501386; omega⟩) hS (fun q _ h => hFc q h) hFc (fun r_8 _u t H locs ht hvm hw2 hB hz1 hk1 hS => ?_)
        obtain ⟨g2, zm2, hM2, hP1, hK1, hD1⟩ := hB
        rw [ht] at hP1
        obtain ⟨hP, hD⟩ := va_join (wr := [(x, .inr (0, [.ref h])), (h, .inr (1, [.ref a2, .int (nI z2), .null, .int fi2, .int fv2])), (a2, .inl (dA, n2, .inl f2))]) (w1 := [(o, .inr (2, [.ref r, .int (nI zm2)])), (r, .inl (dA, 200, .inl g2))]) hP hD [3, 4] [0, 1, 2] rfl rfl (by decide) (by decide) hk1 hFc hP1 hD1
        have hP : va_P (dC, dI) vwCl [(x, .inr (0, [.ref h])), (h, .inr (1, [.ref a2, .int (nI z2), .null, .int fi2, .int fv2])), (a2, .inl (dA, n2, .inl f2)), (o, .inr (2, [.ref r, .int (nI zm2)])), (r, .inl (dA, 200, .inl g2))] H := hP
        have hD : va_D A [(x, .inr (0, [.ref h])), (h, .inr (1, [.ref a2, .int (nI z2), .null, .int fi2, .int fv2])), (a2, .inl (dA, n2, .inl f2)), (o, .inr (2, [.ref r, .int (nI zm2)])), (r, .inl (dA, 200, .inl g2))] := hD
        refine lv_icmp_eq (tgt := 231) hx hb dL_law_167 (by decide) (fun _ => ?_) (fun hn9 => absurd (hw1.trans hw2.symm) hn9)
        exact next (Lq.erase (aq_min Lq)) a2 n2 f2 z2 fi2 fv2 g2 zm2 _ _ H locs ls (by omega) (by omega) hq2 hM2 hP hD hS hl
      · refine lv_tableIn (x := nI 4) (off := 139) (tgt := 172) hx hb dL_law_33 (by decide) (by decide) (by decide) (by decide) ?_
        refine lv_aload_n hx hb dL_law_172 rfl (lv_at hl 1 rfl) ?_
        refine lv_aload_n hx hb dL_law_173 rfl (lv_at hl 0 rfl) ?_
        refine lv_iload_n hx hb dL_law_174 rfl (lv_at hl 3 rfl) ?_
        refine lv_iconst (v := 1) hx hb dL_law_175 (by decide) ?_
        refine lv_iadd hx hb dL_law_176 ?_
        refine aq_asi (y := nI (6 * k + 1)) (nI_add (6 * k) 1) ?_
        refine va_sld hx hb hX hbl hbA hS (i := nI (6 * k + 1)) (vp_in_nI (by omega) (by omega)) dL_law_177 ?_
        refine aq_asi (y := xs (6 * k + 1)) (by rw [nI_clamp (by omega)]) ?_
        have hPc := hP.sub (ws' := [(x, .inr (0, [.ref h])), (h, .inr (1, [.ref a, .int (nI z), .null, .int fi, .int fv])), (a, .inl (dA, n, .inl f))]) [0, 1, 2] rfl
        have hDc := hD.sub (ws' := [(x, .inr (0, [.ref h])), (h, .inr (1, [.ref a, .int (nI z), .null, .int fi, .int fv])), (a, .inl (dA, n, .inl f))]) [0, 1, 2] (by decide) rfl
        have hKc := hK.sub (tys' := [(dA, .int)]) [0] rfl
        have hFc := va_free (wc := [(x, .inr (0, [.ref h])), (h, .inr (1, [.ref a, .int (nI z), .null, .int fi, .int fv])), (a, .inl (dA, n, .inl f))]) hD hS hA [0, 1, 2] rfl
        refine va_calll (va_runV (As := [.int (xs (6 * k + 1))]) (rest := []) ⟨hx, hb, hml, hown, hts⟩ (met_dtk l dC dI dA x h a H.size n z f fi fv Lq (xs (6 * k + 1)) hq) (cwV 1 hts (lw_V q174 q175 q176 q6 q177) rfl rfl rfl (by decide +kernel) ⟨Nat.le_of_ble_eq_true rfl, Nat.le_of_ble_eq_true rfl⟩) ⟨fun a U g mk q => by obtain ⟨q0, q1, qP, qK, qD⟩ := q; exact ⟨q0, q1, qP, va_K.moved (u := U) (U := U.calling g mk a) (Vm.Alike.refl U.vm) qK, qD⟩, va_recv hKc hPc (ci := 0) (q0 := 0) rfl rfl, fun U hU hW => ⟨rfl, by rw [hU], by rw [hU]; exact hPc, va_K.moved hW.alike hKc, hDc.weaken (fun _ _ _ _ => trivial)⟩⟩ rfl rfl hl.1 rfl (lv_room (Nat.le_of_ble_eq_true rfl)) dL_law_178 ⟨by show _ ≤ 1200096; omega, by show _ ≤ 5501386; omega⟩) hS (fun q _ h => hFc q h) hFc (fun r_9 _u t H locs ht hvm hw1 hB hz1 hk1 hS => ?_)
        obtain ⟨a2, n2, f2, z2, fi2, fv2, hq2, hP1, hK1, hD1⟩ := hB
        rw [ht] at hP1
        obtain ⟨hP, hD⟩ := va_join (wr := [(o, .inr (2, [.ref r, .int (nI zm)])), (r, .inl (dA, 200, .inl g))]) (w1 := [(x, .inr (0, [.ref h])), (h, .inr (1, [.ref a2, .int (nI z2), .null, .int fi2, .int fv2])), (a2, .inl (dA, n2, .inl f2))]) hP hD [0, 1, 2] [3, 4] rfl rfl (by decide) (by decide) hk1 hFc hP1 hD1
        have hP : va_P (dC, dI) vwCl [(x, .inr (0, [.ref h])), (h, .inr (1, [.ref a2, .int (nI z2), .null, .int fi2, .int fv2])), (a2, .inl (dA, n2, .inl f2)), (o, .inr (2, [.ref r, .int (nI zm)])), (r, .inl (dA, 200, .inl g))] H := hP.sub [2, 3, 4, 0, 1] rfl
        have hD : va_D A [(x, .inr (0, [.ref h])), (h, .inr (1, [.ref a2, .int (nI z2), .null, .int fi2, .int fv2])), (a2, .inl (dA, n2, .inl f2)), (o, .inr (2, [.ref r, .int (nI zm)])), (r, .inl (dA, 200, .inl g))] := hD.sub [2, 3, 4, 0, 1] (by decide) rfl
        refine lv_aload_n hx hb dL_law_181 rfl (lv_at hl 2 rfl) ?_
        refine lv_aload_n hx hb dL_law_182 rfl (lv_at hl 0 rfl) ?_
        refine lv_iload_n hx hb dL_law_183 rfl (lv_at hl 3 rfl) ?_
        refine lv_iconst (v := 1) hx hb dL_law_184 (by decide) ?_
        refine lv_iadd hx hb dL_law_185 ?_
        refine aq_asi (y := nI (6 * k + 1)) (nI_add (6 * k) 1) ?_
        refine va_sld hx hb hX hbl hbA hS (i := nI (6 * k + 1)) (vp_in_nI (by omega) (by omega)) dL_law_186 ?_
        refine aq_asi (y := xs (6 * k + 1)) (by rw [nI_clamp (by omega)]) ?_
        have hPc := hP.sub (ws' := [(o, .inr (2, [.ref r, .int (nI zm)])), (r, .inl (dA, 200, .inl g))]) [3, 4] rfl
        have hDc := hD.sub (ws' := [(o, .inr (2, [.ref r, .int (nI zm)])), (r, .inl (dA, 200, .inl g))]) [3, 4] (by decide) rfl
        have hKc := hK.sub (tys' := [(dA, .int)]) [0] rfl
        have hFc := va_free (wc := [(o, .inr (2, [.ref r, .int (nI zm)])), (r, .inl (dA, 200, .inl g))]) hD hS hA [3, 4] rfl
        refine va_calll (va_runV (As := [.int (xs (6 * k + 1))]) (rest := [.long r_9]) ⟨hx, hb, hml, hown, hts⟩ (met_mtk l dC dI dA o r H.size zm g Lq (xs (6 * k + 1)) hM) (cwV 1 hts (lw_V q240 q241 q242 q9 q243) rfl rfl rfl (by decide +kernel) ⟨Nat.le_of_ble_eq_true rfl, Nat.le_of_ble_eq_true rfl⟩) ⟨fun a U g mk q => by obtain ⟨q0, q1, qP, qK, qD⟩ := q; exact ⟨q0, q1, qP, va_K.moved (u := U) (U := U.calling g mk a) (Vm.Alike.refl U.vm) qK, qD⟩, va_recv hKc hPc (ci := 2) (q0 := 0) rfl rfl, fun U hU hW => ⟨rfl, by rw [hU], by rw [hU]; exact hPc, va_K.moved hW.alike hKc, hDc.weaken (fun _ _ _ _ => trivial)⟩⟩ rfl rfl hl.1 rfl (lv_room (Nat.le_of_ble_eq_true rfl)) dL_law_187 ⟨by show _ ≤ 1200096; omega, by show _ ≤ 5501386; omega⟩) hS (fun q _ h => hFc q h) hFc (fun r_10 _u t H locs ht hvm hw2 hB hz1 hk1 hS => ?_)
        obtain ⟨g2, zm2, hM2, hP1, hK1, hD1⟩ := hB
        rw [ht] at hP1
        obtain ⟨hP, hD⟩ := va_join (wr := [(x, .inr (0, [.ref h])), (h, .inr (1, [.ref a2, .int (nI z2), .null, .int fi2, .int fv2])), (a2, .inl (dA, n2, .inl f2))]) (w1 := [(o, .inr (2, [.ref r, .int (nI zm2)])), (r, .inl (dA, 200, .inl g2))]) hP hD [3, 4] [0, 1, 2] rfl rfl (by decide) (by decide) hk1 hFc hP1 hD1
        have hP : va_P (dC, dI) vwCl [(x, .inr (0, [.ref h])), (h, .inr (1, [.ref a2, .int (nI z2), .null, .int fi2, .int fv2])), (a2, .inl (dA, n2, .inl f2)), (o, .inr (2, [.ref r, .int (nI zm2)])), (r, .inl (dA, 200, .inl g2))] H := hP
        have hD : va_D A [(x, .inr (0, [.ref h])), (h, .inr (1, [.ref a2, .int (nI z2), .null, .int fi2, .int fv2])), (a2, .inl (dA, n2, .inl f2)), (o, .inr (2, [.ref r, .int (nI zm2)])), (r, .inl (dA, 200, .inl g2))] := hD
        refine W.lcmp hx hb dL_law_190 ?_
        refine aq_asi (y := 0) (by rw [hw1, hw2]; exact aq_cmp _) ?_
        refine lv_if_eq (tgt := 231) hx hb dL_law_191 (by decide) (fun _ => ?_) (fun hn9 => absurd (rfl) hn9)
        exact next ((aq_tk (aq_c (xs (6 * k + 1))) 0 Lq).2) a2 n2 f2 z2 fi2 fv2 g2 zm2 _ _ H locs ls (by omega) (by omega) hq2 hM2 hP hD hS hl
      · refine lv_tableIn (x := nI 5) (off := 163) (tgt := 196) hx hb dL_law_33 (by decide) (by decide) (by decide) (by decide) ?_
        refine lv_aload_n hx hb dL_law_196 rfl (lv_at hl 1 rfl) ?_
        have hPc := hP.sub (ws' := [(x, .inr (0, [.ref h])), (h, .inr (1, [.ref a, .int (nI z), .null, .int fi, .int fv])), (a, .inl (dA, n, .inl f))]) [0, 1, 2] rfl
        have hDc := hD.sub (ws' := [(x, .inr (0, [.ref h])), (h, .inr (1, [.ref a, .int (nI z), .null, .int fi, .int fv])), (a, .inl (dA, n, .inl f))]) [0, 1, 2] (by decide) rfl
        have hKc := hK.sub (tys' := [(dA, .int)]) [0] rfl
        have hFc := va_free (wc := [(x, .inr (0, [.ref h])), (h, .inr (1, [.ref a, .int (nI z), .null, .int fi, .int fv])), (a, .inl (dA, n, .inl f))]) hD hS hA [0, 1, 2] rfl
        refine va_calli (va_runV (As := []) (rest := []) ⟨hx, hb, hml, hown, hts⟩ (met_dwait l dC dI dA x h a H.size n z f fi fv Lq  hq) (cwV 0 hts (lw_V q179 q180 q181 q6 q182) rfl rfl rfl (by decide +kernel) ⟨Nat.le_of_ble_eq_true rfl, Nat.le_of_ble_eq_true rfl⟩) ⟨fun a U g mk q => by obtain ⟨q0, q1, qP, qK, qD⟩ := q; exact ⟨q0, q1, qP, va_K.moved (u := U) (U := U.calling g mk a) (Vm.Alike.refl U.vm) qK, qD⟩, va_recv hKc hPc (ci := 0) (q0 := 0) rfl rfl, fun U hU hW => ⟨rfl, by rw [hU], by rw [hU]; exact hPc, va_K.moved hW.alike hKc, hDc.weaken (fun _ _ _ _ => trivial)⟩⟩ rfl rfl hl.1 rfl (lv_room (Nat.le_of_ble_eq_true rfl)) dL_law_197 ⟨by show _ ≤ 1200096; omega, by show _ ≤ 5501386; omega⟩) hS (fun q _ h => hFc q h) hFc (fun r_11 _u t H locs ht hvm hw1 hB hz1 hk1 hS => ?_)
        obtain ⟨a2, n2, f2, z2, fi2, fv2, hq2, hP1, hK1, hD1⟩ := hB
        rw [ht] at hP1
        obtain ⟨hP, hD⟩ := va_join (wr := [(o, .inr (2, [.ref r, .int (nI zm)])), (r, .inl (dA, 200, .inl g))]) (w1 := [(x, .inr (0, [.ref h])), (h, .inr (1, [.ref a2, .int (nI z2), .null, .int fi2, .int fv2])), (a2, .inl (dA, n2, .inl f2))]) hP hD [0, 1, 2] [3, 4] rfl rfl (by decide) (by decide) hk1 hFc hP1 hD1
        have hP : va_P (dC, dI) vwCl [(x, .inr (0, [.ref h])), (h, .inr (1, [.ref a2, .int (nI z2), .null, .int fi2, .int fv2])), (a2, .inl (dA, n2, .inl f2)), (o, .inr (2, [.ref r, .int (nI zm)])), (r, .inl (dA, 200, .inl g))] H := hP.sub [2, 3, 4, 0, 1] rfl
        have hD : va_D A [(x, .inr (0, [.ref h])), (h, .inr (1, [.ref a2, .int (nI z2), .null, .int fi2, .int fv2])), (a2, .inl (dA, n2, .inl f2)), (o, .inr (2, [.ref r, .int (nI zm)])), (r, .inl (dA, 200, .inl g))] := hD.sub [2, 3, 4, 0, 1] (by decide) rfl
        refine lv_aload_n hx hb dL_law_200 rfl (lv_at hl 2 rfl) ?_
        have hPc := hP.sub (ws' := [(o, .inr (2, [.ref r, .int (nI zm)])), (r, .inl (dA, 200, .inl g))]) [3, 4] rfl
        have hDc := hD.sub (ws' := [(o, .inr (2, [.ref r, .int (nI zm)])), (r, .inl (dA, 200, .inl g))]) [3, 4] (by decide) rfl
        have hKc := hK.sub (tys' := [(dA, .int)]) [0] rfl
        have hFc := va_free (wc := [(o, .inr (2, [.ref r, .int (nI zm)])), (r, .inl (dA, 200, .inl g))]) hD hS hA [3, 4] rfl
        refine va_calli (va_runV (As := []) (rest := [.int r_11]) ⟨hx, hb, hml, hown, hts⟩ (met_mwait l dC dI dA o r H.size zm g Lq  hM) (cwV 0 hts (lw_V q245 q246 q247 q9 q248) rfl rfl rfl (by decide +kernel) ⟨Nat.le_of_ble_eq_true rfl, Nat.le_of_ble_eq_true rfl⟩) ⟨fun a U g mk q => by obtain ⟨q0, q1, qP, qK, qD⟩ := q; exact ⟨q0, q1, qP, va_K.moved (u := U) (U := U.calling g mk a) (Vm.Alike.refl U.vm) qK, qD⟩, va_recv hKc hPc (ci := 2) (q0 := 0) rfl rfl, fun U hU hW => ⟨rfl, by rw [hU], by rw [hU]; exact hPc, va_K.moved hW.alike hKc, hDc.weaken (fun _ _ _ _ => trivial)⟩⟩ rfl rfl hl.1 rfl (lv_room (Nat.le_of_ble_eq_true rfl)) dL_law_201 ⟨by show _ ≤ 1200096; omega, by show _ ≤ 5501386; omega⟩) hS (fun q _ h => hFc q h) hFc (fun r_12 _u t H locs ht hvm hw2 hB hz1 hk1 hS => ?_)
        obtain ⟨g2, zm2, hM2, hP1, hK1, hD1⟩ := hB
        rw [ht] at hP1
        obtain ⟨hP, hD⟩ := va_join (wr := [(x, .inr (0, [.ref h])), (h, .inr (1, [.ref a2, .int (nI z2), .null, .int fi2, .int fv2])), (a2, .inl (dA, n2, .inl f2))]) (w1 := [(o, .inr (2, [.ref r, .int (nI zm2)])), (r, .inl (dA, 200, .inl g2))]) hP hD [3, 4] [0, 1, 2] rfl rfl (by decide) (by decide) hk1 hFc hP1 hD1
        have hP : va_P (dC, dI) vwCl [(x, .inr (0, [.ref h])), (h, .inr (1, [.ref a2, .int (nI z2), .null, .int fi2, .int fv2])), (a2, .inl (dA, n2, .inl f2)), (o, .inr (2, [.ref r, .int (nI zm2)])), (r, .inl (dA, 200, .inl g2))] H := hP
        have hD : va_D A [(x, .inr (0, [.ref h])), (h, .inr (1, [.ref a2, .int (nI z2), .null, .int fi2, .int fv2])), (a2, .inl (dA, n2, .inl f2)), (o, .inr (2, [.ref r, .int (nI zm2)])), (r, .inl (dA, 200, .inl g2))] := hD
        refine lv_icmp_eq (tgt := 231) hx hb dL_law_204 (by decide) (fun _ => ?_) (fun hn9 => absurd (hw1.trans hw2.symm) hn9)
        exact next Lq a2 n2 f2 z2 fi2 fv2 g2 zm2 _ _ H locs ls (by omega) (by omega) hq2 hM2 hP hD hS hl
      · refine lv_tableIn (x := nI 6) (off := 176) (tgt := 209) hx hb dL_law_33 (by decide) (by decide) (by decide) (by decide) ?_
        refine lv_aload_n hx hb dL_law_209 rfl (lv_at hl 1 rfl) ?_
        by_cases hzn : n ≤ z
        · have hPc := hP.sub (ws' := [(x, .inr (0, [.ref h])), (h, .inr (1, [.ref a, .int (nI z), .null, .int fi, .int fv])), (a, .inl (dA, n, .inl f))]) [0, 1, 2] rfl
          have hDc := hD.sub (ws' := [(x, .inr (0, [.ref h])), (h, .inr (1, [.ref a, .int (nI z), .null, .int fi, .int fv])), (a, .inl (dA, n, .inl f))]) [0, 1, 2] (by decide) rfl
          have hKc := hK.sub (tys' := [(dA, .int)]) [0] rfl
          have hFc := va_free (wc := [(x, .inr (0, [.ref h])), (h, .inr (1, [.ref a, .int (nI z), .null, .int fi, .int fv])), (a, .inl (dA, n, .inl f))]) hD hS hA [0, 1, 2] rfl
          refine va_callv (va_runV (As := []) (rest := []) ⟨hx, hb, hml, hown, hts⟩ (met_dshrink_1 l dC dI dA x h a H.size n z f fi fv Lq hzn hq) (cwV 0 hts (lw_V q183 q184 q185 q6 q186) rfl rfl rfl (by decide +kernel) ⟨Nat.le_of_ble_eq_true rfl, Nat.le_of_ble_eq_true rfl⟩) ⟨fun a U g mk q => by obtain ⟨q0, q1, qP, qK, qD⟩ := q; exact ⟨q0, q1, qP, va_K.moved (u := U) (U := U.calling g mk a) (Vm.Alike.refl U.vm) qK, qD⟩, va_recv hKc hPc (ci := 0) (q0 := 0) rfl rfl, fun U hU hW => ⟨rfl, by rw [hU], by rw [hU]; exact hPc, va_K.moved hW.alike hKc, hDc.weaken (fun _ _ _ _ => trivial)⟩⟩ rfl rfl hl.1 rfl (lv_room (Nat.le_of_ble_eq_true rfl)) dL_law_210 ⟨by show _ ≤ 1200096; omega, by show _ ≤ 5501386; omega⟩) hS (fun q _ h => hFc q h) hFc (fun _u t H locs ht hvm hw1 hB hz1 hk1 hS => ?_)
          obtain ⟨a2, n2, f2, z2, fi2, fv2, hq2, hP1, hK1, hD1⟩ := hB
          rw [ht] at hP1
          obtain ⟨hP, hD⟩ := va_join (wr := [(o, .inr (2, [.ref r, .int (nI zm)])), (r, .inl (dA, 200, .inl g))]) (w1 := [(x, .inr (0, [.ref h])), (h, .inr (1, [.ref a2, .int (nI z2), .null, .int fi2, .int fv2])), (a2, .inl (dA, n2, .inl f2))]) hP hD [0, 1, 2] [3, 4] rfl rfl (by decide) (by decide) hk1 hFc hP1 hD1
          have hP : va_P (dC, dI) vwCl [(x, .inr (0, [.ref h])), (h, .inr (1, [.ref a2, .int (nI z2), .null, .int fi2, .int fv2])), (a2, .inl (dA, n2, .inl f2)), (o, .inr (2, [.ref r, .int (nI zm)])), (r, .inl (dA, 200, .inl g))] H := hP.sub [2, 3, 4, 0, 1] rfl
          have hD : va_D A [(x, .inr (0, [.ref h])), (h, .inr (1, [.ref a2, .int (nI z2), .null, .int fi2, .int fv2])), (a2, .inl (dA, n2, .inl f2)), (o, .inr (2, [.ref r, .int (nI zm)])), (r, .inl (dA, 200, .inl g))] := hD.sub [2, 3, 4, 0, 1] (by decide) rfl
          refine lv_aload_n hx hb dL_law_213 rfl (lv_at hl 2 rfl) ?_
          have hPc := hP.sub (ws' := [(o, .inr (2, [.ref r, .int (nI zm)])), (r, .inl (dA, 200, .inl g))]) [3, 4] rfl
          have hDc := hD.sub (ws' := [(o, .inr (2, [.ref r, .int (nI zm)])), (r, .inl (dA, 200, .inl g))]) [3, 4] (by decide) rfl
          have hKc := hK.sub (tys' := [(dA, .int)]) [0] rfl
          have hFc := va_free (wc := [(o, .inr (2, [.ref r, .int (nI zm)])), (r, .inl (dA, 200, .inl g))]) hD hS hA [3, 4] rfl
          refine va_callv (va_runV (As := []) (rest := []) ⟨hx, hb, hml, hown, hts⟩ (met_mshrink l dC dI dA o r H.size zm g Lq hM) (cwV 0 hts (lw_V q249 q250 q251 q9 q252) rfl rfl rfl (by decide +kernel) ⟨Nat.le_of_ble_eq_true rfl, Nat.le_of_ble_eq_true rfl⟩) ⟨fun a U g mk q => by obtain ⟨q0, q1, qP, qK, qD⟩ := q; exact ⟨q0, q1, qP, va_K.moved (u := U) (U := U.calling g mk a) (Vm.Alike.refl U.vm) qK, qD⟩, va_recv hKc hPc (ci := 2) (q0 := 0) rfl rfl, fun U hU hW => ⟨rfl, by rw [hU], by rw [hU]; exact hPc, va_K.moved hW.alike hKc, hDc.weaken (fun _ _ _ _ => trivial)⟩⟩ rfl rfl hl.1 rfl (lv_room (Nat.le_of_ble_eq_true rfl)) dL_law_214 ⟨by show _ ≤ 1200096; omega, by show _ ≤ 5501386; omega⟩) hS (fun q _ h => hFc q h) hFc (fun _u t H locs ht hvm hw2 hB hz1 hk1 hS => ?_)
          obtain ⟨g2, zm2, hM2, hP1, hK1, hD1⟩ := hB
          rw [ht] at hP1
          obtain ⟨hP, hD⟩ := va_join (wr := [(x, .inr (0, [.ref h])), (h, .inr (1, [.ref a2, .int (nI z2), .null, .int fi2, .int fv2])), (a2, .inl (dA, n2, .inl f2))]) (w1 := [(o, .inr (2, [.ref r, .int (nI zm2)])), (r, .inl (dA, 200, .inl g2))]) hP hD [3, 4] [0, 1, 2] rfl rfl (by decide) (by decide) hk1 hFc hP1 hD1
          have hP : va_P (dC, dI) vwCl [(x, .inr (0, [.ref h])), (h, .inr (1, [.ref a2, .int (nI z2), .null, .int fi2, .int fv2])), (a2, .inl (dA, n2, .inl f2)), (o, .inr (2, [.ref r, .int (nI zm2)])), (r, .inl (dA, 200, .inl g2))] H := hP
          have hD : va_D A [(x, .inr (0, [.ref h])), (h, .inr (1, [.ref a2, .int (nI z2), .null, .int fi2, .int fv2])), (a2, .inl (dA, n2, .inl f2)), (o, .inr (2, [.ref r, .int (nI zm2)])), (r, .inl (dA, 200, .inl g2))] := hD
          refine lv_goto (tgt := 231) hx hb dL_law_217 (by decide) ?_
          exact next Lq a2 n2 f2 z2 fi2 fv2 g2 zm2 _ _ H locs ls (by omega) (by omega) hq2 hM2 hP hD hS hl
        · refine aq_e0 he0 (by rw [vp_cell_i, arrV_size]) (fun hE => ?_)
          have hae : a ≠ e0 := by
            intro q9
            have h1 : H[a]? = some (vp_cell dA (n, .inl f)) := hP 2 _ rfl
            rw [q9, hE] at h1
            have h2 := congrArg (fun z : Cell => z.slots.size) (Option.some.inj h1)
            have h3 : (vp_cell dA (0, .inl (fun _ => 0))).slots.size = (vp_cell dA (n, .inl f)).slots.size := h2
            rw [vp_cell_i, vp_cell_i, arrV_size, arrV_size] at h3
            omega
          obtain ⟨hP, hD⟩ := aq_addE (x := (dA, 0, .inl (fun _ => 0))) hP hD hE heA (fun q hq9 => by
            simp only [List.mem_cons, List.not_mem_nil, or_false] at hq9
            rcases hq9 with q9 | q9 | q9 | q9 | q9 <;> rw [q9]
            · exact hex
            · exact heh
            · exact hae
            · exact heo
            · exact her)
          have hP : va_P (dC, dI) vwCl [(x, .inr (0, [.ref h])), (h, .inr (1, [.ref a, .int (nI z), .null, .int fi, .int fv])), (a, .inl (dA, n, .inl f)), (o, .inr (2, [.ref r, .int (nI zm)])), (r, .inl (dA, 200, .inl g)), (e0, .inl (dA, 0, .inl (fun _ => 0)))] H := hP
          have hD : va_D A [(x, .inr (0, [.ref h])), (h, .inr (1, [.ref a, .int (nI z), .null, .int fi, .int fv])), (a, .inl (dA, n, .inl f)), (o, .inr (2, [.ref r, .int (nI zm)])), (r, .inl (dA, 200, .inl g)), (e0, .inl (dA, 0, .inl (fun _ => 0)))] := hD
          have hPc := hP.sub (ws' := [(x, .inr (0, [.ref h])), (h, .inr (1, [.ref a, .int (nI z), .null, .int fi, .int fv])), (a, .inl (dA, n, .inl f)), (e0, .inl (dA, 0, .inl (fun _ => 0)))]) [0, 1, 2, 5] rfl
          have hDc := hD.sub (ws' := [(x, .inr (0, [.ref h])), (h, .inr (1, [.ref a, .int (nI z), .null, .int fi, .int fv])), (a, .inl (dA, n, .inl f)), (e0, .inl (dA, 0, .inl (fun _ => 0)))]) [0, 1, 2, 5] (by decide) rfl
          have hKc := hK.sub (tys' := [(dA, .int)]) [0] rfl
          have hFc := va_free (wc := [(x, .inr (0, [.ref h])), (h, .inr (1, [.ref a, .int (nI z), .null, .int fi, .int fv])), (a, .inl (dA, n, .inl f)), (e0, .inl (dA, 0, .inl (fun _ => 0)))]) hD hS hA [0, 1, 2, 5] rfl
          refine va_callv (va_runV (As := []) (rest := []) ⟨hx, hb, hml, hown, hts⟩ (met_dshrink_2 l dC dI dA x h a e0 H.size n z f (fun _ => 0) fi fv Lq (by omega) hq) (cwV 0 hts (lw_V q183 q184 q185 q6 q186) rfl rfl rfl (by decide +kernel) ⟨Nat.le_of_ble_eq_true rfl, Nat.le_of_ble_eq_true rfl⟩) ⟨fun a U g mk q => by obtain ⟨q0, q1, qP, qK, qD, qZ⟩ := q; exact ⟨q0, q1, qP, va_K.moved (u := U) (U := U.calling g mk a) (Vm.Alike.refl U.vm) qK, qD, va_Z.moved (u := U) (U := U.calling g mk a) (Vm.Alike.refl U.vm) qZ⟩, va_recv hKc hPc (ci := 0) (q0 := 0) rfl rfl, fun U hU hW => ⟨rfl, by rw [hU], by rw [hU]; exact hPc, va_K.moved hW.alike hKc, hDc.weaken (fun _ _ _ _ => trivial), by rw [hU]; exact va_Z.moved hW.alike ((hZ.kept hS.2.1).narrow hFc)⟩⟩ rfl rfl hl.1 rfl (lv_room (Nat.le_of_ble_eq_true rfl)) dL_law_210 ⟨by show _ ≤ 1200096; omega, by show _ ≤ 5501386; omega⟩) hS (fun q _ h => hFc q h) hFc (fun _u t H locs ht hvm hw1 hB hz1 hk1 hS => ?_)
          obtain ⟨a2, n2, f2, z2, fi2, fv2, hq2, hP1, hK1, hD1⟩ := hB
          rw [ht] at hP1
          obtain ⟨hP, hD⟩ := va_join (wr := [(o, .inr (2, [.ref r, .int (nI zm)])), (r, .inl (dA, 200, .inl g))]) (w1 := [(x, .inr (0, [.ref h])), (h, .inr (1, [.ref a2, .int (nI z2), .null, .int fi2, .int fv2])), (a2, .inl (dA, n2, .inl f2))]) hP hD [0, 1, 2, 5] [3, 4] rfl rfl (by decide) (by decide) hk1 hFc hP1 hD1
          have hP : va_P (dC, dI) vwCl [(x, .inr (0, [.ref h])), (h, .inr (1, [.ref a2, .int (nI z2), .null, .int fi2, .int fv2])), (a2, .inl (dA, n2, .inl f2)), (o, .inr (2, [.ref r, .int (nI zm)])), (r, .inl (dA, 200, .inl g))] H := hP.sub [2, 3, 4, 0, 1] rfl
          have hD : va_D A [(x, .inr (0, [.ref h])), (h, .inr (1, [.ref a2, .int (nI z2), .null, .int fi2, .int fv2])), (a2, .inl (dA, n2, .inl f2)), (o, .inr (2, [.ref r, .int (nI zm)])), (r, .inl (dA, 200, .inl g))] := hD.sub [2, 3, 4, 0, 1] (by decide) rfl
          refine lv_aload_n hx hb dL_law_213 rfl (lv_at hl 2 rfl) ?_
          have hPc := hP.sub (ws' := [(o, .inr (2, [.ref r, .int (nI zm)])), (r, .inl (dA, 200, .inl g))]) [3, 4] rfl
          have hDc := hD.sub (ws' := [(o, .inr (2, [.ref r, .int (nI zm)])), (r, .inl (dA, 200, .inl g))]) [3, 4] (by decide) rfl
          have hKc := hK.sub (tys' := [(dA, .int)]) [0] rfl
          have hFc := va_free (wc := [(o, .inr (2, [.ref r, .int (nI zm)])), (r, .inl (dA, 200, .inl g))]) hD hS hA [3, 4] rfl
          refine va_callv (va_runV (As := []) (rest := []) ⟨hx, hb, hml, hown, hts⟩ (met_mshrink l dC dI dA o r H.size zm g Lq hM) (cwV 0 hts (lw_V q249 q250 q251 q9 q252) rfl rfl rfl (by decide +kernel) ⟨Nat.le_of_ble_eq_true rfl, Nat.le_of_ble_eq_true rfl⟩) ⟨fun a U g mk q => by obtain ⟨q0, q1, qP, qK, qD⟩ := q; exact ⟨q0, q1, qP, va_K.moved (u := U) (U := U.calling g mk a) (Vm.Alike.refl U.vm) qK, qD⟩, va_recv hKc hPc (ci := 2) (q0 := 0) rfl rfl, fun U hU hW => ⟨rfl, by rw [hU], by rw [hU]; exact hPc, va_K.moved hW.alike hKc, hDc.weaken (fun _ _ _ _ => trivial)⟩⟩ rfl rfl hl.1 rfl (lv_room (Nat.le_of_ble_eq_true rfl)) dL_law_214 ⟨by show _ ≤ 1200096; omega, by show _ ≤ 5501386; omega⟩) hS (fun q _ h => hFc q h) hFc (fun _u t H locs ht hvm hw2 hB hz1 hk1 hS => ?_)
          obtain ⟨g2, zm2, hM2, hP1, hK1, hD1⟩ := hB
          rw [ht] at hP1
          obtain ⟨hP, hD⟩ := va_join (wr := [(x, .inr (0, [.ref h])), (h, .inr (1, [.ref a2, .int (nI z2), .null, .int fi2, .int fv2])), (a2, .inl (dA, n2, .inl f2))]) (w1 := [(o, .inr (2, [.ref r, .int (nI zm2)])), (r, .inl (dA, 200, .inl g2))]) hP hD [3, 4] [0, 1, 2] rfl rfl (by decide) (by decide) hk1 hFc hP1 hD1
          have hP : va_P (dC, dI) vwCl [(x, .inr (0, [.ref h])), (h, .inr (1, [.ref a2, .int (nI z2), .null, .int fi2, .int fv2])), (a2, .inl (dA, n2, .inl f2)), (o, .inr (2, [.ref r, .int (nI zm2)])), (r, .inl (dA, 200, .inl g2))] H := hP
          have hD : va_D A [(x, .inr (0, [.ref h])), (h, .inr (1, [.ref a2, .int (nI z2), .null, .int fi2, .int fv2])), (a2, .inl (dA, n2, .inl f2)), (o, .inr (2, [.ref r, .int (nI zm2)])), (r, .inl (dA, 200, .inl g2))] := hD
          refine lv_goto (tgt := 231) hx hb dL_law_217 (by decide) ?_
          exact next Lq a2 n2 f2 z2 fi2 fv2 g2 zm2 _ _ H locs ls (by omega) (by omega) hq2 hM2 hP hD hS hl
      · refine lv_tableIn (x := nI 7) (off := 187) (tgt := 220) hx hb dL_law_33 (by decide) (by decide) (by decide) (by decide) ?_
        refine lv_aload_n hx hb dL_law_220 rfl (lv_at hl 1 rfl) ?_
        have hPc := hP.sub (ws' := [(x, .inr (0, [.ref h])), (h, .inr (1, [.ref a, .int (nI z), .null, .int fi, .int fv])), (a, .inl (dA, n, .inl f))]) [0, 1, 2] rfl
        have hDc := hD.sub (ws' := [(x, .inr (0, [.ref h])), (h, .inr (1, [.ref a, .int (nI z), .null, .int fi, .int fv])), (a, .inl (dA, n, .inl f))]) [0, 1, 2] (by decide) rfl
        have hKc := hK.sub (tys' := [(dA, .int)]) [0] rfl
        have hFc := va_free (wc := [(x, .inr (0, [.ref h])), (h, .inr (1, [.ref a, .int (nI z), .null, .int fi, .int fv])), (a, .inl (dA, n, .inl f))]) hD hS hA [0, 1, 2] rfl
        refine va_callv (va_runV (As := []) (rest := []) ⟨hx, hb, hml, hown, hts⟩ (met_ddrain l dC dI dA x h a H.size n z f fi fv Lq hq) (cwV 0 hts (lw_V q195 q196 q197 q6 q198) rfl rfl rfl (by decide +kernel) ⟨Nat.le_of_ble_eq_true rfl, Nat.le_of_ble_eq_true rfl⟩) ⟨fun a U g mk q => by obtain ⟨q0, q1, qP, qK, qD⟩ := q; exact ⟨q0, q1, qP, va_K.moved (u := U) (U := U.calling g mk a) (Vm.Alike.refl U.vm) qK, qD⟩, va_recv hKc hPc (ci := 0) (q0 := 0) rfl rfl, fun U hU hW => ⟨rfl, by rw [hU], by rw [hU]; exact hPc, va_K.moved hW.alike hKc, hDc.weaken (fun _ _ _ _ => trivial)⟩⟩ rfl rfl hl.1 rfl (lv_room (Nat.le_of_ble_eq_true rfl)) dL_law_221 ⟨by show _ ≤ 1200096; omega, by show _ ≤ 5501386; omega⟩) hS (fun q _ h => hFc q h) hFc (fun _u t H locs ht hvm hw1 hB hz1 hk1 hS => ?_)
        obtain ⟨a2, n2, f2, z2, fi2, fv2, hq2, hP1, hK1, hD1⟩ := hB
        rw [ht] at hP1
        obtain ⟨hP, hD⟩ := va_join (wr := [(o, .inr (2, [.ref r, .int (nI zm)])), (r, .inl (dA, 200, .inl g))]) (w1 := [(x, .inr (0, [.ref h])), (h, .inr (1, [.ref a2, .int (nI z2), .null, .int fi2, .int fv2])), (a2, .inl (dA, n2, .inl f2))]) hP hD [0, 1, 2] [3, 4] rfl rfl (by decide) (by decide) hk1 hFc hP1 hD1
        have hP : va_P (dC, dI) vwCl [(x, .inr (0, [.ref h])), (h, .inr (1, [.ref a2, .int (nI z2), .null, .int fi2, .int fv2])), (a2, .inl (dA, n2, .inl f2)), (o, .inr (2, [.ref r, .int (nI zm)])), (r, .inl (dA, 200, .inl g))] H := hP.sub [2, 3, 4, 0, 1] rfl
        have hD : va_D A [(x, .inr (0, [.ref h])), (h, .inr (1, [.ref a2, .int (nI z2), .null, .int fi2, .int fv2])), (a2, .inl (dA, n2, .inl f2)), (o, .inr (2, [.ref r, .int (nI zm)])), (r, .inl (dA, 200, .inl g))] := hD.sub [2, 3, 4, 0, 1] (by decide) rfl
        refine lv_aload_n hx hb dL_law_224 rfl (lv_at hl 2 rfl) ?_
        have hPc := hP.sub (ws' := [(o, .inr (2, [.ref r, .int (nI zm)])), (r, .inl (dA, 200, .inl g))]) [3, 4] rfl
        have hDc := hD.sub (ws' := [(o, .inr (2, [.ref r, .int (nI zm)])), (r, .inl (dA, 200, .inl g))]) [3, 4] (by decide) rfl
        have hKc := hK.sub (tys' := [(dA, .int)]) [0] rfl
        have hFc := va_free (wc := [(o, .inr (2, [.ref r, .int (nI zm)])), (r, .inl (dA, 200, .inl g))]) hD hS hA [3, 4] rfl
        refine va_callv (va_runV (As := []) (rest := []) ⟨hx, hb, hml, hown, hts⟩ (met_mdrain l dC dI dA o r H.size zm g Lq hM) (cwV 0 hts (lw_V q253 q254 q255 q9 q256) rfl rfl rfl (by decide +kernel) ⟨Nat.le_of_ble_eq_true rfl, Nat.le_of_ble_eq_true rfl⟩) ⟨fun a U g mk q => by obtain ⟨q0, q1, qP, qK, qD⟩ := q; exact ⟨q0, q1, qP, va_K.moved (u := U) (U := U.calling g mk a) (Vm.Alike.refl U.vm) qK, qD⟩, va_recv hKc hPc (ci := 2) (q0 := 0) rfl rfl, fun U hU hW => ⟨rfl, by rw [hU], by rw [hU]; exact hPc, va_K.moved hW.alike hKc, hDc.weaken (fun _ _ _ _ => trivial)⟩⟩ rfl rfl hl.1 rfl (lv_room (Nat.le_of_ble_eq_true rfl)) dL_law_225 ⟨by show _ ≤ 1200096; omega, by show _ ≤ 5501386; omega⟩) hS (fun q _ h => hFc q h) hFc (fun _u t H locs ht hvm hw2 hB hz1 hk1 hS => ?_)
        obtain ⟨g2, zm2, hM2, hP1, hK1, hD1⟩ := hB
        rw [ht] at hP1
        obtain ⟨hP, hD⟩ := va_join (wr := [(x, .inr (0, [.ref h])), (h, .inr (1, [.ref a2, .int (nI z2), .null, .int fi2, .int fv2])), (a2, .inl (dA, n2, .inl f2))]) (w1 := [(o, .inr (2, [.ref r, .int (nI zm2)])), (r, .inl (dA, 200, .inl g2))]) hP hD [3, 4] [0, 1, 2] rfl rfl (by decide) (by decide) hk1 hFc hP1 hD1
        have hP : va_P (dC, dI) vwCl [(x, .inr (0, [.ref h])), (h, .inr (1, [.ref a2, .int (nI z2), .null, .int fi2, .int fv2])), (a2, .inl (dA, n2, .inl f2)), (o, .inr (2, [.ref r, .int (nI zm2)])), (r, .inl (dA, 200, .inl g2))] H := hP
        have hD : va_D A [(x, .inr (0, [.ref h])), (h, .inr (1, [.ref a2, .int (nI z2), .null, .int fi2, .int fv2])), (a2, .inl (dA, n2, .inl f2)), (o, .inr (2, [.ref r, .int (nI zm2)])), (r, .inl (dA, 200, .inl g2))] := hD
        refine lv_goto (tgt := 231) hx hb dL_law_228 (by decide) ?_
        exact next ([] : List Int32) a2 n2 f2 z2 fi2 fv2 g2 zm2 _ _ H locs ls (by omega) (by omega) hq2 hM2 hP hD hS hl

set_option maxHeartbeats 4000000 in
set_option maxRecDepth 100000 in
/-- YOUR PART: from the entry, for every script of at most 288 ints, the law comes to its end with true ('hflags': the launch's flags, for a law that throws: no stack traces) -/
theorem whole_start {p : Program} {e : Env} {s : State} {m : MethodId} {below : List Frame} {meth : Method} {c : Code} (l : Launch) (hflags : l.flags = flags0) {b L : Nat} {xs : Nat → Int32} (hL : L ≤ 288) (C0 : lw_At p s m meth c b L xs) : W p l e room_1 s m #[Value.ref b] below meth c s.heap [] 0 0 (lw_Z below #[Value.ref b] s) (entryFrame m ([Value.ref b] : List Value).toArray 4) := by
  obtain ⟨hx, hb, hr, hml, hown, hts0, hX, hbl, hlocks, hgv⟩ := C0
  have hts : ∀ w ∈ lw_all, w.before #[Value.ref b] s = true := fun w h => hts0 w (lw_all_tbl h)
  obtain ⟨e0, dA, hev, he0, hArr, hNm, hbe⟩ := aq_start hgv
  have hZ := aq_startZ hts0 hev he0
  obtain ⟨dC, dI, hKc⟩ := aq_classes hts0
  obtain ⟨A, hAd⟩ : ∃ A : Nat → Prop, A = fun q => q = e0 ∨ s.heap.size ≤ q := ⟨_, rfl⟩
  rw [← hAd] at hZ
  have hA : ∀ q : Nat, s.heap.size ≤ q → A q := fun q h => by rw [hAd]; exact Or.inr h
  have heA : A e0 := by rw [hAd]; exact Or.inl rfl
  have hAe : ∀ q : Nat, A q → q = e0 ∨ s.heap.size ≤ q := fun q h => by rw [hAd] at h; exact h
  have hbA : ¬ A b := fun h => by
    rcases hAe b h with q | q
    · exact hbe q
    · omega
  have hS : va_S A s.heap s.heap [] := va_S.rf
  have hK : va_K (dC, dI) vwCl [(dA, .int)] s := ⟨hKc, fun k q hk => by
    match k, hk with
    | 0, hk => cases hk; exact ⟨hArr, hNm⟩
    | k + 1, hk => simp at hk⟩
  have hP : va_P (dC, dI) vwCl [(e0, .inl (dA, 0, .inl (fun _ => 0)))] s.heap := aq_one he0
  have hD : va_D A [(e0, .inl (dA, 0, .inl (fun _ => 0)))] := aq_oneD heA
  have hl := lv_entry ([.ref b]) (n := 4) (Nat.le_of_ble_eq_true rfl)
  rw [lg_entry_eq]
  generalize (lg_sl ([.ref b]) ++ List.replicate (4 - (lg_sl ([.ref b])).length) Slot.unset).toArray = ls at hl ⊢
  have hl : lv_has ls 4 [(0, .ref b)] := hl
  refine va_new (ci := 0) (fs := [.null]) (C := RX0) (T := TX0) (N := 1) hx hb hts in_X0 tyX0 tyX0_ok hown (hts _ q16) (hts _ q17) (hts _ q6) hK hP hD hS hA rfl (fun j hj => by rcases (show j = 0 by omega) with rfl <;> rfl) (Nat.le_of_ble_eq_true rfl) (Nat.le_of_ble_eq_true rfl) dL_law_0 (fun x H hP hD hS => ?_)
  have hP : va_P (dC, dI) vwCl [(e0, .inl (dA, 0, .inl (fun _ => 0))), (x, .inr (0, [.null]))] H := hP
  have hD : va_D A [(e0, .inl (dA, 0, .inl (fun _ => 0))), (x, .inr (0, [.null]))] := hD
  refine lv_dup hx hb dL_law_3 rfl ?_
  have hPc := hP.sub (ws' := [(x, .inr (0, [.null]))]) [1] rfl
  have hDc := hD.sub (ws' := [(x, .inr (0, [.null]))]) [1] (by decide) rfl
  have hKc := hK.sub (tys' := [(dA, .int)]) [0] rfl
  have hFc := va_free (wc := [(x, .inr (0, [.null]))]) hD hS hA [1] rfl
  refine va_callv (va_runI (As := []) (rest := [.ref x]) ⟨hx, hb, hml, hown, hts⟩ (met_dinit l dC dI dA x e0 H.size) (cwI 0 hts (lw_meth q20) rfl rfl rfl (hts _ q6) (hts _ q18) (hts _ q19) rfl (by decide +kernel) ⟨Nat.le_of_ble_eq_true rfl, Nat.le_of_ble_eq_true rfl⟩) ⟨fun a U g mk q => by obtain ⟨q0, q1, qP, qK, qD, qZ⟩ := q; exact ⟨q0, q1, qP, va_K.moved (u := U) (U := U.calling g mk a) (Vm.Alike.refl U.vm) qK, qD, va_Z.moved (u := U) (U := U.calling g mk a) (Vm.Alike.refl U.vm) qZ⟩, fun U hU hW => ⟨rfl, by rw [hU], by rw [hU]; exact hPc, va_K.moved hW.alike hKc, hDc.weaken (fun _ _ _ _ => trivial), by rw [hU]; exact va_Z.moved hW.alike ((hZ.kept hS.2.1).narrow hFc)⟩⟩ rfl rfl hl.1 rfl (lv_room (Nat.le_of_ble_eq_true rfl)) dL_law_4 ⟨Nat.le_of_ble_eq_true rfl, Nat.le_of_ble_eq_true rfl⟩) hS (fun q _ h => hFc q h) hFc (fun _u t H locs ht hvm hw hB hz1 hk1 hS => ?_)
  obtain ⟨h, hP1, hK1, hD1⟩ := hB
  rw [ht] at hP1
  obtain ⟨hP, hD⟩ := va_join (wr := [(e0, .inl (dA, 0, .inl (fun _ => 0)))]) (w1 := [(x, .inr (0, [.ref h])), (h, .inr (1, [.ref e0, .int 0, .null, .int 0, .int 0]))]) hP hD [1] [0] rfl rfl (by decide) (by decide) hk1 hFc hP1 hD1
  have hP : va_P (dC, dI) vwCl [(e0, .inl (dA, 0, .inl (fun _ => 0))), (x, .inr (0, [.ref h])), (h, .inr (1, [.ref e0, .int 0, .null, .int 0, .int 0]))] H := hP
  have hD : va_D A [(e0, .inl (dA, 0, .inl (fun _ => 0))), (x, .inr (0, [.ref h])), (h, .inr (1, [.ref e0, .int 0, .null, .int 0, .int 0]))] := hD
  refine lv_astore_n (lv' := [(1, .ref x), (0, .ref b)]) hx hb dL_law_7 rfl hl (by decide) rfl (fun ls hl => ?_)
  refine va_new (ci := 2) (fs := [.null, .int 0]) (C := RX3) (T := TX3) (N := 2) hx hb hts in_X3 tyX3 tyX3_ok hown (hts _ q203) (hts _ q204) (hts _ q9) hK hP hD hS hA rfl (fun j hj => by rcases (show j = 0 ∨ j = 1 by omega) with rfl | rfl <;> rfl) (Nat.le_of_ble_eq_true rfl) (Nat.le_of_ble_eq_true rfl) dL_law_8 (fun o H hP hD hS => ?_)
  have hP : va_P (dC, dI) vwCl [(e0, .inl (dA, 0, .inl (fun _ => 0))), (x, .inr (0, [.ref h])), (h, .inr (1, [.ref e0, .int 0, .null, .int 0, .int 0])), (o, .inr (2, [.null, .int 0]))] H := hP
  have hD : va_D A [(e0, .inl (dA, 0, .inl (fun _ => 0))), (x, .inr (0, [.ref h])), (h, .inr (1, [.ref e0, .int 0, .null, .int 0, .int 0])), (o, .inr (2, [.null, .int 0]))] := hD
  refine lv_dup hx hb dL_law_11 rfl ?_
  have hPc := hP.sub (ws' := [(o, .inr (2, [.null, .int 0]))]) [3] rfl
  have hDc := hD.sub (ws' := [(o, .inr (2, [.null, .int 0]))]) [3] (by decide) rfl
  have hKc := hK.sub (tys' := [(dA, .int)]) [0] rfl
  have hFc := va_free (wc := [(o, .inr (2, [.null, .int 0]))]) hD hS hA [3] rfl
  refine va_callv (va_runI (As := []) (rest := [.ref o]) ⟨hx, hb, hml, hown, hts⟩ (met_minit l dC dI dA o H.size) (cwI 0 hts (lw_meth q207) rfl rfl rfl (hts _ q9) (hts _ q205) (hts _ q206) rfl (by decide +kernel) ⟨Nat.le_of_ble_eq_true rfl, Nat.le_of_ble_eq_true rfl⟩) ⟨fun a U g mk q => by obtain ⟨q0, q1, qP, qK, qD⟩ := q; exact ⟨q0, q1, qP, va_K.moved (u := U) (U := U.calling g mk a) (Vm.Alike.refl U.vm) qK, qD⟩, fun U hU hW => ⟨rfl, by rw [hU], by rw [hU]; exact hPc, va_K.moved hW.alike hKc, hDc.weaken (fun _ _ _ _ => trivial)⟩⟩ rfl rfl hl.1 rfl (lv_room (Nat.le_of_ble_eq_true rfl)) dL_law_12 ⟨Nat.le_of_ble_eq_true rfl, Nat.le_of_ble_eq_true rfl⟩) hS (fun q _ h => hFc q h) hFc (fun _u t H locs ht hvm hw hB hz1 hk1 hS => ?_)
  obtain ⟨r, g, hP1, hK1, hD1⟩ := hB
  rw [ht] at hP1
  obtain ⟨hP, hD⟩ := va_join (wr := [(e0, .inl (dA, 0, .inl (fun _ => 0))), (x, .inr (0, [.ref h])), (h, .inr (1, [.ref e0, .int 0, .null, .int 0, .int 0]))]) (w1 := [(o, .inr (2, [.ref r, .int 0])), (r, .inl (dA, 200, .inl g))]) hP hD [3] [0, 1, 2] rfl rfl (by decide) (by decide) hk1 hFc hP1 hD1
  have hP : va_P (dC, dI) vwCl [(e0, .inl (dA, 0, .inl (fun _ => 0))), (x, .inr (0, [.ref h])), (h, .inr (1, [.ref e0, .int 0, .null, .int 0, .int 0])), (o, .inr (2, [.ref r, .int 0])), (r, .inl (dA, 200, .inl g))] H := hP
  have hD : va_D A [(e0, .inl (dA, 0, .inl (fun _ => 0))), (x, .inr (0, [.ref h])), (h, .inr (1, [.ref e0, .int 0, .null, .int 0, .int 0])), (o, .inr (2, [.ref r, .int 0])), (r, .inl (dA, 200, .inl g))] := hD
  refine lv_astore_n (lv' := [(2, .ref o), (1, .ref x), (0, .ref b)]) hx hb dL_law_15 rfl hl (by decide) rfl (fun ls hl => ?_)
  refine lv_iconst (v := 0) hx hb dL_law_16 (by decide) ?_
  refine aq_asi (y := nI (6 * 0)) (rfl) ?_
  refine lv_istore_n (lv' := [(3, .int (nI (6 * 0))), (2, .ref o), (1, .ref x), (0, .ref b)]) hx hb dL_law_17 rfl hl (by decide) rfl (fun ls hl => ?_)
  have hex : x ≠ e0 := fun q => absurd (hD.1 1 0 _ _ rfl rfl q) (by decide)
  have heh : h ≠ e0 := fun q => absurd (hD.1 2 0 _ _ rfl rfl q) (by decide)
  have heo : o ≠ e0 := fun q => absurd (hD.1 3 0 _ _ rfl rfl q) (by decide)
  have her : r ≠ e0 := fun q => absurd (hD.1 4 0 _ _ rfl rfl q) (by decide)
  refine W.widen (k := 4 + 15 * 0) (n := 208 + 4500 * 0) (by omega) (by omega) ?_
  exact law_loop hx hb hr hlocks hml hown hts hK hA hAe heA hX hbl hbA hZ he0 hL hex heh heo her 48 0 [] e0 0 (fun _ => 0) 0 0 0 g 0 _ _ ls (by omega) (by omega) (aq_Q_nil 0 _ 0 (by omega)) (aq_M_nil g) (hP.sub [1, 2, 0, 3, 4] rfl) (hD.sub [1, 2, 0, 3, 4] (by decide) rfl) hS (lv_sub hl [3, 2, 1, 0] rfl)
end
section
set_option maxHeartbeats 4000000 in
theorem lw_walk (l : Launch) (hflags : l.flags = flags0) (b : Addr) (xs : List Int32) : MetFree l x (headSpec (Jvm.Cond.code x code maxLocals ret :: tables_1) room_1) (lw_P b xs) (fun _ _ _ _ _ => True) lw_Q := by
  refine MetFree.of_bodyS (code := code) (maxLocals := maxLocals) (ret := ret) (by decide) ?_ ?_
  · intro args s m h hn
    obtain ⟨meth, c, h1, h2, h3, h4, h5, h6, -, -⟩ := Cond.code_spec hn (atoms_spec (ws := Jvm.Cond.code x code maxLocals ret :: tables_1) h _ List.mem_cons_self)
    exact ⟨meth, c, h1, h2, h3, h4, h5, h6⟩
  · intro p e s m args below meth c s₁ B hml0 hP _
    obtain ⟨rfl, hx, hbd, hgv⟩ := hP
    obtain ⟨scr, harrAt, hlist, hof, hsmall⟩ := hx
    obtain ⟨hcb, hkn, -, -⟩ := State.arrayAt?_spec harrAt
    have hown : s.vm.findClass R_law = some m.cls := findClass_of_methodNamed B.named
    have hts0 : ∀ c ∈ (Jvm.Cond.code x code maxLocals ret :: tables_1), c.before #[Value.ref b] s = true := atoms_spec (ws := Jvm.Cond.code x code maxLocals ret :: tables_1) B.pre
    have hts : ∀ w ∈ lw_tbl, w.before #[Value.ref b] s = true := k2_hts_sels lw_privs (fun w hw => hts0 w (List.mem_cons_of_mem _ hw)) lw_privs_ok
    have hml : c.maxLocals = 4 := B.maxLocals_eq (hts0 _ List.mem_cons_self)
    have X₀ : Stand p l e room_1 s m #[Value.ref b] below meth c s₁ [] 0 0 := Stand.of_body B
    have hh0 : s₁.heap = s.heap := by rw [B.state]; rfl
    have hsz : scr.slots.size = xs.length := by rw [← Array.length_toList, hlist, List.length_map]
    have hval : ∀ j : Nat, j < xs.length → scr.slots[j]? = some (.int (xs.getD j 0)) := fun j hj => by
      rw [← Array.getElem?_toList, hlist]
      simp [hj]
    have hbl : b < s.heap.size := (Array.getElem?_eq_some_iff.mp hcb).1
    have hX : va_X b xs.length (fun j => xs.getD j 0) s s.heap := ⟨scr, hcb, hof, hkn, hsz, hval⟩
    have K : W p l e room_1 s m #[Value.ref b] below meth c s₁.heap [] 0 0 (lw_Z below #[Value.ref b] s) (entryFrame m ([Value.ref b] : List Value).toArray 4) := by
      rw [hh0]
      exact whole_start l hflags hbd ⟨B.exec, B.bytes, B.returns, hml, hown, hts, hX, hbl, B.notSynchronized, hgv⟩
    obtain ⟨t, a1, o, b1, b2, b3⟩ := K s₁ rfl X₀
    exact ⟨t, o, a1, b1, b2, b3⟩
theorem lw_pre_spec {args : Array Value} {s : State} (h : (Jvm.Cond.and given_1 narrow_1).before args s = true) (hr : rest_1_c.before args s = true) : ∃ (b : Addr) (xs : List Int32), lw_P b xs args s := by
  have hs := flat_of_before _ h
  have hq := flat_of_before _ hr
  have hc : (Cond.count 1).before args s = true := hs _ (by decide +kernel)
  have harr : (Cond.arrayOf (.arg 0) .int).before args s = true := hs _ (by decide +kernel)
  have hle : (Cond.le (.length (.arg 0)) (.int 288)).before args s = true := hs _ (by decide +kernel)
  have hlen : (Cond.isInt (.length (.arg 0))).before args s = true := hq _ (by decide +kernel)
  have hall : (Cond.all (.arg 0) (.isInt (.elem (.arg 0) (.index 0)))).before args s = true := hq _ (by decide +kernel)
  obtain ⟨b, xs, hb, hx⟩ := State.ints_of_pre rfl harr hlen hall
  have hsm : xs.length < 2 ^ 31 := hx.choose_spec.2.2.2
  have hev : (Term.length (.arg 0)).eval args s none [] s = some (.int xs.length.toInt32) := hx.length_eval hb
  have hv := Cond.le_ints hev (show (Term.int 288).eval args s none [] s = some (.int 288) from rfl)
  have hd : xs.length.toInt32 ≤ 288 := by
    simpa [Cond.before, Cond.holds, hv] using hle
  have hN : xs.length ≤ 288 := (Int32.ofNat_le_ofNat hsm (by decide)).mp (show Int32.ofNat xs.length ≤ Int32.ofNat 288 from hd)
  exact ⟨b, xs, Cond.one_arg hc (show args[0]? = some (.ref b) from hb), hx, hN, h⟩
theorem lw_comes (l : Launch) (hflags : l.flags = flags0) : Comes l x (Jvm.Cond.code x code maxLocals ret :: tables_1) room_1 (fun tb e args s => Calls_1 tb e args s ∧ rest_1 tb e args s ∧ Pre_1 tb e args s)
    (fun _ _ args s o t => lw_Q args s o t) := by
  intro p e ha hc hk s m args below hf hfit hheap happ hpre
  obtain ⟨b, xs, hP⟩ := lw_pre_spec hpre.2.2 hpre.2.1
  obtain ⟨k, o, h1, h2, h3, hQ⟩ := lw_walk l hflags b xs p e ha hc hk s m args below hf ((Spec.applies_iff_loose hf).mp happ).1 hP trivial
  exact ⟨k, o, h1, h2, h3, hQ⟩
theorem lw_frame {s t : State} {o : Outcome} {args : Array Value} (h : Framed s o t [] 1200096 5501386) :
    Framed s o t (fieldLocs frame_1_writes args s ++ arrayLocs frame_1_arrays args s ++ staticLocs frame_1_statics s) 1200096 5501386 := h
theorem lw_limb (L : Cond) (hL : ∀ (args : Array Value) (s t : State), L.after args s (.returned (some (.int 1))) t = true) :
    ArmFor flags0 classFile x code maxLocals ret World_1 tables_1 room_1 Calls_1 rest_1 Pre_1
      (fun tb e a s o t => postC L tb e a s o t ∧ Framed s o t (fieldLocs frame_1_writes a s ++ arrayLocs frame_1_arrays a s ++ staticLocs frame_1_statics s) 1200096 5501386) := by
  intro l hflags _ _ p e ha hc hk s m args below hf hfit hheap happ hpre
  obtain ⟨k, o, h1, h2, h3, rfl, hF⟩ := lw_comes l hflags p e ha hc hk s m args below hf hfit hheap happ hpre
  exact ⟨k, _, h1, h2, h3, hL args s _, lw_frame hF⟩
theorem i_vc : Claimed_1_1 ∧ Claimed_1_2 := ⟨lw_limb limb_1_1 (fun args s t => by simp [limb_1_1, Cond.after, Cond.holds, Cond.value]), lw_limb limb_1_2 (fun args s t => Cond.after_iff.mpr (by
  first | (rw [show limb_1_2 = Cond.eq .result (.int 1) from rfl, Cond.eq_ints (x := 1) (y := 1) rfl rfl]; simp; done) | (simp [limb_1_2, Cond.value, Term.eval]; done)))⟩
end
