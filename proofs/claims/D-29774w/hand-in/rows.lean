section
-- ===== PART A: goes FIRST, ahead of the names: the tables' words, and 'selects' of the private methods out of them =====
/-- a private method of a class that the tables say can be made, by its rows of tables_1 -/
def lw_okq (q : MethodName × Nat) : Prop := (q.1.cls ≠ "java/lang/invoke/MethodHandle" ∧ q.1.cls ≠ "java/lang/invoke/VarHandle") ∧ Cond.instantiable q.1.cls q.2 ∈ tables_1 ∧ Cond.privateMethod q.1 ∈ tables_1 ∧ Cond.instanceMethod q.1 ∈ tables_1
set_option maxRecDepth 100000
theorem lw_t1 {w : Cond} (h : w ∈ tables_1_1) : w ∈ tables_1 := List.mem_append_left _ h
theorem lw_t2 {w : Cond} (h : w ∈ tables_1_2) : w ∈ tables_1 := List.mem_append_right _ h
theorem lw_p0 : lw_okq (⟨"NoekeonDesk", "run", "(ZI)V"⟩, 3) := ⟨⟨by decide +kernel, by decide +kernel⟩, lw_t1 (List.mem_of_getElem? (i := 23) rfl), lw_t1 (List.mem_of_getElem? (i := 21) rfl), lw_t1 (List.mem_of_getElem? (i := 22) rfl)⟩
theorem lw_p1 : lw_okq (⟨"java/lang/Throwable", "fillInStackTrace", "(I)Ljava/lang/Throwable;"⟩, 6) := ⟨⟨by decide +kernel, by decide +kernel⟩, lw_t1 (List.mem_of_getElem? (i := 118) rfl), lw_t1 (List.mem_of_getElem? (i := 116) rfl), lw_t1 (List.mem_of_getElem? (i := 117) rfl)⟩
theorem lw_p2 : lw_okq (⟨"NoekeonEngine", "encryptBlock", "([BI[BI)I"⟩, 3) := ⟨⟨by decide +kernel, by decide +kernel⟩, lw_t1 (List.mem_of_getElem? (i := 29) rfl), lw_t1 (List.mem_of_getElem? (i := 225) rfl), lw_t1 (List.mem_of_getElem? (i := 226) rfl)⟩
theorem lw_p3 : lw_okq (⟨"NoekeonEngine", "decryptBlock", "([BI[BI)I"⟩, 3) := ⟨⟨by decide +kernel, by decide +kernel⟩, lw_t1 (List.mem_of_getElem? (i := 29) rfl), lw_t1 (List.mem_of_getElem? (i := 235) rfl), lw_t1 (List.mem_of_getElem? (i := 236) rfl)⟩
def lw_privs_1 : List (MethodName × Nat) := [(⟨"NoekeonDesk", "run", "(ZI)V"⟩, 3), (⟨"java/lang/Throwable", "fillInStackTrace", "(I)Ljava/lang/Throwable;"⟩, 6), (⟨"NoekeonEngine", "encryptBlock", "([BI[BI)I"⟩, 3), (⟨"NoekeonEngine", "decryptBlock", "([BI[BI)I"⟩, 3)]
theorem lw_r1 : ∀ q ∈ lw_privs_1, lw_okq q := List.forall_mem_cons.mpr ⟨lw_p0, List.forall_mem_cons.mpr ⟨lw_p1, List.forall_mem_cons.mpr ⟨lw_p2, List.forall_mem_cons.mpr ⟨lw_p3, fun _ h => absurd h List.not_mem_nil⟩⟩⟩⟩
def lw_privs : List (MethodName × Nat) := lw_privs_1
def lw_tbl : List Cond := k2_sels lw_privs ++ tables_1
theorem lw_privs_ok : ∀ q ∈ lw_privs, lw_okq q := lw_r1
-- ===== ONE list of words for every method: the tables' words that hold all through a run =====
def lw_all : List Cond := lw_tbl.filter goodWord
/-- a word of the tables by its place: claim/WORDS.tsv -/
theorem lw_w {w : Cond} (i : Nat) (h : lw_tbl[i]? = some w) (g : goodWord w = true) : w ∈ lw_all := List.mem_filter.mpr ⟨List.mem_of_getElem? h, g⟩
theorem lw_all_tbl {w : Cond} (h : w ∈ lw_all) : w ∈ lw_tbl := (List.mem_filter.mp h).1
theorem lw_self : GoodIn lw_all lw_all := fun w h => ⟨h, good_of_word (List.mem_filter.mp h).2⟩
/-- a class's field words, by their places -/
theorem lw_in (ws : List Cond) (ps : List Nat) (hp : ws = ps.filterMap (fun i => lw_tbl[i]?)) (hg : ws.all goodWord = true) : ∀ w ∈ ws, w ∈ lw_all := by
  intro w h
  have h1 := List.all_eq_true.mp hg w h
  rw [hp] at h
  obtain ⟨i, -, hi⟩ := List.mem_filterMap.mp h
  exact lw_w i hi h1
/-- the words of a contract for the method y with code b, L locals, answer r -/
abbrev ws_ (y : MethodName) (b : ByteArray) (L : Nat) (r : Option FieldType) : List Cond := Cond.code y b L r :: lw_all
theorem lw_meth {y : MethodName} {b : ByteArray} {L : Nat} {r : Option FieldType} (h : Cond.code y b L r ∈ lw_all) : GoodIn lw_all (ws_ y b L r) := by
  intro w hw
  rcases List.mem_cons.mp hw with e | e
  · rw [e]
    exact lw_self _ h
  · exact lw_self _ e
theorem lw_app {a c : List Cond} (ha : ∀ w ∈ a, w ∈ lw_all) (hc : GoodIn lw_all c) : GoodIn lw_all (a ++ c) := by
  intro w hw
  rcases List.mem_append.mp hw with e | e
  · exact lw_self w (ha w e)
  · exact hc w e
/-- what a call through an object asks: cwV n hts (lw_V ..) -/
theorem lw_V {own : String} {idx : Nat} {C : String} {y : MethodName} {b : ByteArray} {L : Nat} {r : Option FieldType} (h1 : Cond.methodLink own idx y ∈ lw_all) (h2 : Cond.instanceMethod y ∈ lw_all) (h3 : Cond.selects C y y ∈ lw_all) (h4 : Cond.initialized C ∈ lw_all) (h5 : Cond.code y b L r ∈ lw_all) : GoodIn lw_all (wsV own idx C y (ws_ y b L r)) := by
  refine lw_app ?_ (lw_meth h5)
  intro w hw
  simp only [List.mem_cons, List.not_mem_nil, or_false] at hw
  rcases hw with e | e | e | e
  · rw [e]; exact h1
  · rw [e]; exact h2
  · rw [e]; exact h3
  · rw [e]; exact h4
/-- what a static call asks: va_cwS n hts (lw_S ..) -/
theorem lw_S {own : String} {idx : Nat} {y : MethodName} {b : ByteArray} {L : Nat} {r : Option FieldType} (h1 : Cond.methodLink own idx y ∈ lw_all) (h2 : Cond.static y ∈ lw_all) (h3 : Cond.initialized y.cls ∈ lw_all) (h4 : Cond.code y b L r ∈ lw_all) : GoodIn lw_all (va_wsS own idx y (ws_ y b L r)) := by
  refine lw_app ?_ (lw_meth h4)
  intro w hw
  simp only [List.mem_cons, List.not_mem_nil, or_false] at hw
  rcases hw with e | e | e
  · rw [e]; exact h1
  · rw [e]; exact h2
  · rw [e]; exact h3
/-- the words of a contract for a method WITH HANDLERS (hh: its table) -/
abbrev wsW_ (y : MethodName) (b : ByteArray) (L : Nat) (r : Option FieldType) (hh : List (Nat × Nat × Nat × Nat)) : List Cond := Cond.codeWith y b L r hh :: lw_all
theorem lw_methW {y : MethodName} {b : ByteArray} {L : Nat} {r : Option FieldType} {hh : List (Nat × Nat × Nat × Nat)} (h : Cond.codeWith y b L r hh ∈ lw_all) : GoodIn lw_all (wsW_ y b L r hh) := by
  intro w hw
  rcases List.mem_cons.mp hw with e | e
  · rw [e]
    exact lw_self _ h
  · exact lw_self _ e
/-- any list of words by their places (lw_in), good -/
theorem lw_good {ws : List Cond} (h : ∀ w ∈ ws, w ∈ lw_all) : GoodIn lw_all ws := fun w hw => lw_self w (h w hw)
/-- what a call of a method with handlers asks: vx_cwVW n hts (lw_VW ..), vx_cwSW n hts (lw_SW ..) -/
theorem lw_VW {own : String} {idx : Nat} {C : String} {y : MethodName} {b : ByteArray} {L : Nat} {r : Option FieldType} {hh : List (Nat × Nat × Nat × Nat)} (h1 : Cond.methodLink own idx y ∈ lw_all) (h2 : Cond.instanceMethod y ∈ lw_all) (h3 : Cond.selects C y y ∈ lw_all) (h4 : Cond.initialized C ∈ lw_all) (h5 : Cond.codeWith y b L r hh ∈ lw_all) : GoodIn lw_all (wsV own idx C y (wsW_ y b L r hh)) := by
  refine lw_app ?_ (lw_methW h5)
  intro w hw
  simp only [List.mem_cons, List.not_mem_nil, or_false] at hw
  rcases hw with e | e | e | e
  · rw [e]; exact h1
  · rw [e]; exact h2
  · rw [e]; exact h3
  · rw [e]; exact h4
theorem lw_SW {own : String} {idx : Nat} {y : MethodName} {b : ByteArray} {L : Nat} {r : Option FieldType} {hh : List (Nat × Nat × Nat × Nat)} (h1 : Cond.methodLink own idx y ∈ lw_all) (h2 : Cond.static y ∈ lw_all) (h3 : Cond.initialized y.cls ∈ lw_all) (h4 : Cond.codeWith y b L r hh ∈ lw_all) : GoodIn lw_all (va_wsS own idx y (wsW_ y b L r hh)) := by
  refine lw_app ?_ (lw_methW h4)
  intro w hw
  simp only [List.mem_cons, List.not_mem_nil, or_false] at hw
  rcases hw with e | e | e
  · rw [e]; exact h1
  · rw [e]; exact h2
  · rw [e]; exact h3
/-- a word by its place in its run of the tables -/
theorem lw_at {r : List Cond} (hr : ∀ w ∈ r, w ∈ lw_tbl) {w : Cond} (i : Nat) (h : r[i]? = some w) : w ∈ lw_tbl := hr w (List.mem_of_getElem? h)
theorem lw_g {w : Cond} (h : w ∈ lw_tbl) (g : goodWord w = true) : w ∈ lw_all := List.mem_filter.mpr ⟨h, g⟩
theorem lw_ms : ∀ w ∈ k2_sels lw_privs, w ∈ lw_tbl := fun w h => show w ∈ k2_sels lw_privs ++ tables_1 from List.mem_append_left _ h
theorem lw_m1 : ∀ w ∈ tables_1_1, w ∈ lw_tbl := fun w h => show w ∈ k2_sels lw_privs ++ tables_1 from List.mem_append_right (k2_sels lw_privs) (show w ∈ tables_1 from List.mem_append_left _ h)
theorem lw_m2 : ∀ w ∈ tables_1_2, w ∈ lw_tbl := fun w h => show w ∈ k2_sels lw_privs ++ tables_1 from List.mem_append_right (k2_sels lw_privs) (show w ∈ tables_1 from List.mem_append_right _ h)
theorem qs0 : (Cond.selects "NoekeonDesk" ⟨"NoekeonDesk", "run", "(ZI)V"⟩ ⟨"NoekeonDesk", "run", "(ZI)V"⟩) ∈ lw_all := lw_g (lw_at lw_ms 0 rfl) rfl
theorem qs1 : (Cond.selects "java/lang/Throwable" ⟨"java/lang/Throwable", "fillInStackTrace", "(I)Ljava/lang/Throwable;"⟩ ⟨"java/lang/Throwable", "fillInStackTrace", "(I)Ljava/lang/Throwable;"⟩) ∈ lw_all := lw_g (lw_at lw_ms 1 rfl) rfl
theorem qs2 : (Cond.selects "NoekeonEngine" ⟨"NoekeonEngine", "encryptBlock", "([BI[BI)I"⟩ ⟨"NoekeonEngine", "encryptBlock", "([BI[BI)I"⟩) ∈ lw_all := lw_g (lw_at lw_ms 2 rfl) rfl
theorem qs3 : (Cond.selects "NoekeonEngine" ⟨"NoekeonEngine", "decryptBlock", "([BI[BI)I"⟩ ⟨"NoekeonEngine", "decryptBlock", "([BI[BI)I"⟩) ∈ lw_all := lw_g (lw_at lw_ms 3 rfl) rfl
-- ===== end of PART A; then your names; then what follows =====
end
section
/-! DECODE ROWS BY BYTES: one lemma an opcode; a method's code is cut into short pieces once, and a row reads its own piece alone. -/
set_option maxRecDepth 100000
/-- the code has just these bytes from pc on -/
def DkAt (code : ByteArray) (pc : Nat) (bs : List UInt8) : Prop := ∀ (j : Nat) (b : UInt8), bs[j]? = some b → code.data.toList[pc + j]? = some b
/-- the piece W has the bytes bs from its place j on -/
def dkIn (W : List UInt8) (j : Nat) (bs : List UInt8) : Bool := decide ((W.drop j).take bs.length = bs)
theorem dk_seg {l W T : List UInt8} {o o2 : Nat} (h : l.drop o = W ++ T) (n : Nat) (hn : W.length = n) (ho : o + n = o2) : l.drop o2 = T := by
  subst ho
  rw [← List.drop_drop, h, List.drop_left' hn]
theorem dk_at {code : ByteArray} {W T bs : List UInt8} {o pc : Nat} (h : code.data.toList.drop o = W ++ T) (j : Nat) (hp : o + j = pc) (hw : dkIn W j bs = true) : DkAt code pc bs := by
  subst hp
  intro i b e
  have h1 := of_decide_eq_true hw
  have h2 : i < bs.length := (List.getElem?_eq_some_iff.mp e).1
  have h3 : W[j + i]? = some b := by
    rw [← h1, List.getElem?_take, if_pos h2, List.getElem?_drop] at e
    exact e
  have h4 : j + i < W.length := (List.getElem?_eq_some_iff.mp h3).1
  have h5 : (code.data.toList.drop o)[j + i]? = some b := by
    rw [h, List.getElem?_append_left h4]
    exact h3
  rw [List.getElem?_drop, ← Nat.add_assoc] at h5
  exact h5
theorem dk_u1 {A : ByteArray} {p : Nat} {b : UInt8} (h : A.data.toList[p]? = some b) : (Reader.u1 : Reader DecodeError Nat) A p = .ok (b.toNat, p + 1) := by
  obtain ⟨h1, h2⟩ := List.getElem?_eq_some_iff.mp h
  have h3 : p < A.size := by simpa using h1
  have h4 : A[p]'h3 = b := h2
  have e : (Reader.u1 : Reader DecodeError Nat) A p = (if h : p < A.size then .ok (A[p].toNat, p + 1) else .error (HasTruncated.truncated p)) := by
    show (do if h : p < A.size then do set (p + 1); Pure.pure A[p].toNat else MonadExcept.throw (HasTruncated.truncated p) : Reader DecodeError Nat) A p = _
    by_cases hi : p < A.size
    · rw [dif_pos hi, dif_pos hi]; rfl
    · rw [dif_neg hi, dif_neg hi]; rfl
  rw [e, dif_pos h3, h4]
theorem dk_bind {α β : Type} {r : Reader DecodeError α} {f : α → Reader DecodeError β} {A : ByteArray} {p s : Nat} {a : α} (h : r A p = .ok (a, s)) : (r >>= f) A p = f a A s := by
  show (do let (a, s) ← r A p; f a A s : Except DecodeError (β × Nat)) = _
  rw [h]
  rfl
theorem dk_map {α β : Type} {r : Reader DecodeError α} {g : α → β} {A : ByteArray} {p s : Nat} {a : α} (h : r A p = .ok (a, s)) : (g <$> r) A p = .ok (g a, s) := by
  show (do let (a, s) ← r A p; .ok (g a, s) : Except DecodeError (β × Nat)) = _
  rw [h]
  rfl
theorem dk_u2 {A : ByteArray} {p : Nat} {a b : UInt8} (h : A.data.toList[p]? = some a) (h2 : A.data.toList[p + 1]? = some b) : (Reader.u2 : Reader DecodeError Nat) A p = .ok (a.toNat * 256 + b.toNat, p + 2) := by
  show (Reader.u1 >>= fun hi => Reader.u1 >>= fun lo => Pure.pure (hi * 256 + lo) : Reader DecodeError Nat) A p = _
  rw [dk_bind (dk_u1 h), dk_bind (dk_u1 h2)]
  rfl
theorem dk_of {code : ByteArray} {pc n : Nat} {i : Instr} (h : Decoder.instr pc code pc = .ok (i, pc + n)) : decode code pc = .ok (i, n) := by
  have e : decode code pc = (match Decoder.instr pc code pc with | .error x => .error x | .ok (j, s) => .ok (j, s - pc)) := by
    show (do let (j, s) ← Decoder.instr pc code pc; Pure.pure (j, s - pc) : Except DecodeError (Instr × Nat)) = _
    cases Decoder.instr pc code pc <;> rfl
  rw [e, h]
  show Except.ok (i, pc + n - pc) = _
  rw [Nat.add_sub_cancel_left]
theorem dk_2 {code : ByteArray} {pc : Nat} (h : DkAt code pc [2]) : decode code pc = .ok (.iconst (-1), 1) := dk_of ((dk_bind (dk_u1 (h 0 _ rfl))).trans rfl)
theorem dk_3 {code : ByteArray} {pc : Nat} (h : DkAt code pc [3]) : decode code pc = .ok (.iconst 0, 1) := dk_of ((dk_bind (dk_u1 (h 0 _ rfl))).trans rfl)
theorem dk_4 {code : ByteArray} {pc : Nat} (h : DkAt code pc [4]) : decode code pc = .ok (.iconst 1, 1) := dk_of ((dk_bind (dk_u1 (h 0 _ rfl))).trans rfl)
theorem dk_5 {code : ByteArray} {pc : Nat} (h : DkAt code pc [5]) : decode code pc = .ok (.iconst 2, 1) := dk_of ((dk_bind (dk_u1 (h 0 _ rfl))).trans rfl)
theorem dk_6 {code : ByteArray} {pc : Nat} (h : DkAt code pc [6]) : decode code pc = .ok (.iconst 3, 1) := dk_of ((dk_bind (dk_u1 (h 0 _ rfl))).trans rfl)
theorem dk_7 {code : ByteArray} {pc : Nat} (h : DkAt code pc [7]) : decode code pc = .ok (.iconst 4, 1) := dk_of ((dk_bind (dk_u1 (h 0 _ rfl))).trans rfl)
theorem dk_8 {code : ByteArray} {pc : Nat} (h : DkAt code pc [8]) : decode code pc = .ok (.iconst 5, 1) := dk_of ((dk_bind (dk_u1 (h 0 _ rfl))).trans rfl)
theorem dk_16 {code : ByteArray} {pc : Nat} (a : UInt8) (h : DkAt code pc [16, a]) : decode code pc = .ok (.bipush (Reader.signed 8 a.toNat), 2) := dk_of ((dk_bind (dk_u1 (h 0 _ rfl))).trans ((dk_bind (dk_map (dk_u1 (h 1 _ rfl)))).trans rfl))
theorem dk_17 {code : ByteArray} {pc : Nat} (a b : UInt8) (h : DkAt code pc [17, a, b]) : decode code pc = .ok (.sipush (Reader.signed 16 (a.toNat * 256 + b.toNat)), 3) := dk_of ((dk_bind (dk_u1 (h 0 _ rfl))).trans ((dk_bind (dk_map (dk_u2 (h 1 _ rfl) (h 2 _ rfl)))).trans rfl))
theorem dk_18 {code : ByteArray} {pc : Nat} (a : UInt8) (h : DkAt code pc [18, a]) : decode code pc = .ok (.ldc a.toNat, 2) := dk_of ((dk_bind (dk_u1 (h 0 _ rfl))).trans ((dk_bind (dk_u1 (h 1 _ rfl))).trans rfl))
theorem dk_21 {code : ByteArray} {pc : Nat} (a : UInt8) (h : DkAt code pc [21, a]) : decode code pc = .ok (.iload a.toNat, 2) := dk_of ((dk_bind (dk_u1 (h 0 _ rfl))).trans ((dk_bind (dk_u1 (h 1 _ rfl))).trans rfl))
theorem dk_25 {code : ByteArray} {pc : Nat} (a : UInt8) (h : DkAt code pc [25, a]) : decode code pc = .ok (.aload a.toNat, 2) := dk_of ((dk_bind (dk_u1 (h 0 _ rfl))).trans ((dk_bind (dk_u1 (h 1 _ rfl))).trans rfl))
theorem dk_26 {code : ByteArray} {pc : Nat} (h : DkAt code pc [26]) : decode code pc = .ok (.iload_n 0, 1) := dk_of ((dk_bind (dk_u1 (h 0 _ rfl))).trans rfl)
theorem dk_27 {code : ByteArray} {pc : Nat} (h : DkAt code pc [27]) : decode code pc = .ok (.iload_n 1, 1) := dk_of ((dk_bind (dk_u1 (h 0 _ rfl))).trans rfl)
theorem dk_28 {code : ByteArray} {pc : Nat} (h : DkAt code pc [28]) : decode code pc = .ok (.iload_n 2, 1) := dk_of ((dk_bind (dk_u1 (h 0 _ rfl))).trans rfl)
theorem dk_29 {code : ByteArray} {pc : Nat} (h : DkAt code pc [29]) : decode code pc = .ok (.iload_n 3, 1) := dk_of ((dk_bind (dk_u1 (h 0 _ rfl))).trans rfl)
theorem dk_42 {code : ByteArray} {pc : Nat} (h : DkAt code pc [42]) : decode code pc = .ok (.aload_n 0, 1) := dk_of ((dk_bind (dk_u1 (h 0 _ rfl))).trans rfl)
theorem dk_43 {code : ByteArray} {pc : Nat} (h : DkAt code pc [43]) : decode code pc = .ok (.aload_n 1, 1) := dk_of ((dk_bind (dk_u1 (h 0 _ rfl))).trans rfl)
theorem dk_44 {code : ByteArray} {pc : Nat} (h : DkAt code pc [44]) : decode code pc = .ok (.aload_n 2, 1) := dk_of ((dk_bind (dk_u1 (h 0 _ rfl))).trans rfl)
theorem dk_45 {code : ByteArray} {pc : Nat} (h : DkAt code pc [45]) : decode code pc = .ok (.aload_n 3, 1) := dk_of ((dk_bind (dk_u1 (h 0 _ rfl))).trans rfl)
theorem dk_46 {code : ByteArray} {pc : Nat} (h : DkAt code pc [46]) : decode code pc = .ok (.iaload, 1) := dk_of ((dk_bind (dk_u1 (h 0 _ rfl))).trans rfl)
theorem dk_51 {code : ByteArray} {pc : Nat} (h : DkAt code pc [51]) : decode code pc = .ok (.baload, 1) := dk_of ((dk_bind (dk_u1 (h 0 _ rfl))).trans rfl)
theorem dk_54 {code : ByteArray} {pc : Nat} (a : UInt8) (h : DkAt code pc [54, a]) : decode code pc = .ok (.istore a.toNat, 2) := dk_of ((dk_bind (dk_u1 (h 0 _ rfl))).trans ((dk_bind (dk_u1 (h 1 _ rfl))).trans rfl))
theorem dk_58 {code : ByteArray} {pc : Nat} (a : UInt8) (h : DkAt code pc [58, a]) : decode code pc = .ok (.astore a.toNat, 2) := dk_of ((dk_bind (dk_u1 (h 0 _ rfl))).trans ((dk_bind (dk_u1 (h 1 _ rfl))).trans rfl))
theorem dk_60 {code : ByteArray} {pc : Nat} (h : DkAt code pc [60]) : decode code pc = .ok (.istore_n 1, 1) := dk_of ((dk_bind (dk_u1 (h 0 _ rfl))).trans rfl)
theorem dk_61 {code : ByteArray} {pc : Nat} (h : DkAt code pc [61]) : decode code pc = .ok (.istore_n 2, 1) := dk_of ((dk_bind (dk_u1 (h 0 _ rfl))).trans rfl)
theorem dk_62 {code : ByteArray} {pc : Nat} (h : DkAt code pc [62]) : decode code pc = .ok (.istore_n 3, 1) := dk_of ((dk_bind (dk_u1 (h 0 _ rfl))).trans rfl)
theorem dk_75 {code : ByteArray} {pc : Nat} (h : DkAt code pc [75]) : decode code pc = .ok (.astore_n 0, 1) := dk_of ((dk_bind (dk_u1 (h 0 _ rfl))).trans rfl)
theorem dk_76 {code : ByteArray} {pc : Nat} (h : DkAt code pc [76]) : decode code pc = .ok (.astore_n 1, 1) := dk_of ((dk_bind (dk_u1 (h 0 _ rfl))).trans rfl)
theorem dk_77 {code : ByteArray} {pc : Nat} (h : DkAt code pc [77]) : decode code pc = .ok (.astore_n 2, 1) := dk_of ((dk_bind (dk_u1 (h 0 _ rfl))).trans rfl)
theorem dk_78 {code : ByteArray} {pc : Nat} (h : DkAt code pc [78]) : decode code pc = .ok (.astore_n 3, 1) := dk_of ((dk_bind (dk_u1 (h 0 _ rfl))).trans rfl)
theorem dk_79 {code : ByteArray} {pc : Nat} (h : DkAt code pc [79]) : decode code pc = .ok (.iastore, 1) := dk_of ((dk_bind (dk_u1 (h 0 _ rfl))).trans rfl)
theorem dk_84 {code : ByteArray} {pc : Nat} (h : DkAt code pc [84]) : decode code pc = .ok (.bastore, 1) := dk_of ((dk_bind (dk_u1 (h 0 _ rfl))).trans rfl)
theorem dk_87 {code : ByteArray} {pc : Nat} (h : DkAt code pc [87]) : decode code pc = .ok (.pop, 1) := dk_of ((dk_bind (dk_u1 (h 0 _ rfl))).trans rfl)
theorem dk_89 {code : ByteArray} {pc : Nat} (h : DkAt code pc [89]) : decode code pc = .ok (.dup, 1) := dk_of ((dk_bind (dk_u1 (h 0 _ rfl))).trans rfl)
theorem dk_96 {code : ByteArray} {pc : Nat} (h : DkAt code pc [96]) : decode code pc = .ok (.iadd, 1) := dk_of ((dk_bind (dk_u1 (h 0 _ rfl))).trans rfl)
theorem dk_100 {code : ByteArray} {pc : Nat} (h : DkAt code pc [100]) : decode code pc = .ok (.isub, 1) := dk_of ((dk_bind (dk_u1 (h 0 _ rfl))).trans rfl)
theorem dk_104 {code : ByteArray} {pc : Nat} (h : DkAt code pc [104]) : decode code pc = .ok (.imul, 1) := dk_of ((dk_bind (dk_u1 (h 0 _ rfl))).trans rfl)
theorem dk_108 {code : ByteArray} {pc : Nat} (h : DkAt code pc [108]) : decode code pc = .ok (.idiv, 1) := dk_of ((dk_bind (dk_u1 (h 0 _ rfl))).trans rfl)
theorem dk_112 {code : ByteArray} {pc : Nat} (h : DkAt code pc [112]) : decode code pc = .ok (.irem, 1) := dk_of ((dk_bind (dk_u1 (h 0 _ rfl))).trans rfl)
theorem dk_116 {code : ByteArray} {pc : Nat} (h : DkAt code pc [116]) : decode code pc = .ok (.ineg, 1) := dk_of ((dk_bind (dk_u1 (h 0 _ rfl))).trans rfl)
theorem dk_120 {code : ByteArray} {pc : Nat} (h : DkAt code pc [120]) : decode code pc = .ok (.ishl, 1) := dk_of ((dk_bind (dk_u1 (h 0 _ rfl))).trans rfl)
theorem dk_122 {code : ByteArray} {pc : Nat} (h : DkAt code pc [122]) : decode code pc = .ok (.ishr, 1) := dk_of ((dk_bind (dk_u1 (h 0 _ rfl))).trans rfl)
theorem dk_124 {code : ByteArray} {pc : Nat} (h : DkAt code pc [124]) : decode code pc = .ok (.iushr, 1) := dk_of ((dk_bind (dk_u1 (h 0 _ rfl))).trans rfl)
theorem dk_126 {code : ByteArray} {pc : Nat} (h : DkAt code pc [126]) : decode code pc = .ok (.iand, 1) := dk_of ((dk_bind (dk_u1 (h 0 _ rfl))).trans rfl)
theorem dk_128 {code : ByteArray} {pc : Nat} (h : DkAt code pc [128]) : decode code pc = .ok (.ior, 1) := dk_of ((dk_bind (dk_u1 (h 0 _ rfl))).trans rfl)
theorem dk_130 {code : ByteArray} {pc : Nat} (h : DkAt code pc [130]) : decode code pc = .ok (.ixor, 1) := dk_of ((dk_bind (dk_u1 (h 0 _ rfl))).trans rfl)
theorem dk_132 {code : ByteArray} {pc : Nat} (a b : UInt8) (h : DkAt code pc [132, a, b]) : decode code pc = .ok (.iinc a.toNat (Reader.signed 8 b.toNat), 3) := dk_of ((dk_bind (dk_u1 (h 0 _ rfl))).trans ((dk_bind (dk_u1 (h 1 _ rfl))).trans ((dk_bind (dk_map (dk_u1 (h 2 _ rfl)))).trans rfl)))
theorem dk_145 {code : ByteArray} {pc : Nat} (h : DkAt code pc [145]) : decode code pc = .ok (.i2b, 1) := dk_of ((dk_bind (dk_u1 (h 0 _ rfl))).trans rfl)
theorem dk_153 {code : ByteArray} {pc : Nat} (a b : UInt8) (h : DkAt code pc [153, a, b]) : decode code pc = .ok (.ifCond .eq (Reader.signed 16 (a.toNat * 256 + b.toNat)), 3) := dk_of ((dk_bind (dk_u1 (h 0 _ rfl))).trans ((dk_bind (dk_map (dk_u2 (h 1 _ rfl) (h 2 _ rfl)))).trans rfl))
theorem dk_154 {code : ByteArray} {pc : Nat} (a b : UInt8) (h : DkAt code pc [154, a, b]) : decode code pc = .ok (.ifCond .ne (Reader.signed 16 (a.toNat * 256 + b.toNat)), 3) := dk_of ((dk_bind (dk_u1 (h 0 _ rfl))).trans ((dk_bind (dk_map (dk_u2 (h 1 _ rfl) (h 2 _ rfl)))).trans rfl))
theorem dk_156 {code : ByteArray} {pc : Nat} (a b : UInt8) (h : DkAt code pc [156, a, b]) : decode code pc = .ok (.ifCond .ge (Reader.signed 16 (a.toNat * 256 + b.toNat)), 3) := dk_of ((dk_bind (dk_u1 (h 0 _ rfl))).trans ((dk_bind (dk_map (dk_u2 (h 1 _ rfl) (h 2 _ rfl)))).trans rfl))
theorem dk_159 {code : ByteArray} {pc : Nat} (a b : UInt8) (h : DkAt code pc [159, a, b]) : decode code pc = .ok (.if_icmp .eq (Reader.signed 16 (a.toNat * 256 + b.toNat)), 3) := dk_of ((dk_bind (dk_u1 (h 0 _ rfl))).trans ((dk_bind (dk_map (dk_u2 (h 1 _ rfl) (h 2 _ rfl)))).trans rfl))
theorem dk_162 {code : ByteArray} {pc : Nat} (a b : UInt8) (h : DkAt code pc [162, a, b]) : decode code pc = .ok (.if_icmp .ge (Reader.signed 16 (a.toNat * 256 + b.toNat)), 3) := dk_of ((dk_bind (dk_u1 (h 0 _ rfl))).trans ((dk_bind (dk_map (dk_u2 (h 1 _ rfl) (h 2 _ rfl)))).trans rfl))
theorem dk_164 {code : ByteArray} {pc : Nat} (a b : UInt8) (h : DkAt code pc [164, a, b]) : decode code pc = .ok (.if_icmp .le (Reader.signed 16 (a.toNat * 256 + b.toNat)), 3) := dk_of ((dk_bind (dk_u1 (h 0 _ rfl))).trans ((dk_bind (dk_map (dk_u2 (h 1 _ rfl) (h 2 _ rfl)))).trans rfl))
theorem dk_167 {code : ByteArray} {pc : Nat} (a b : UInt8) (h : DkAt code pc [167, a, b]) : decode code pc = .ok (.goto (Reader.signed 16 (a.toNat * 256 + b.toNat)), 3) := dk_of ((dk_bind (dk_u1 (h 0 _ rfl))).trans ((dk_bind (dk_map (dk_u2 (h 1 _ rfl) (h 2 _ rfl)))).trans rfl))
theorem dk_172 {code : ByteArray} {pc : Nat} (h : DkAt code pc [172]) : decode code pc = .ok (.ireturn, 1) := dk_of ((dk_bind (dk_u1 (h 0 _ rfl))).trans rfl)
theorem dk_176 {code : ByteArray} {pc : Nat} (h : DkAt code pc [176]) : decode code pc = .ok (.areturn, 1) := dk_of ((dk_bind (dk_u1 (h 0 _ rfl))).trans rfl)
theorem dk_177 {code : ByteArray} {pc : Nat} (h : DkAt code pc [177]) : decode code pc = .ok (.return_, 1) := dk_of ((dk_bind (dk_u1 (h 0 _ rfl))).trans rfl)
theorem dk_178 {code : ByteArray} {pc : Nat} (a b : UInt8) (h : DkAt code pc [178, a, b]) : decode code pc = .ok (.getstatic (a.toNat * 256 + b.toNat), 3) := dk_of ((dk_bind (dk_u1 (h 0 _ rfl))).trans ((dk_bind (dk_u2 (h 1 _ rfl) (h 2 _ rfl))).trans rfl))
theorem dk_180 {code : ByteArray} {pc : Nat} (a b : UInt8) (h : DkAt code pc [180, a, b]) : decode code pc = .ok (.getfield (a.toNat * 256 + b.toNat), 3) := dk_of ((dk_bind (dk_u1 (h 0 _ rfl))).trans ((dk_bind (dk_u2 (h 1 _ rfl) (h 2 _ rfl))).trans rfl))
theorem dk_181 {code : ByteArray} {pc : Nat} (a b : UInt8) (h : DkAt code pc [181, a, b]) : decode code pc = .ok (.putfield (a.toNat * 256 + b.toNat), 3) := dk_of ((dk_bind (dk_u1 (h 0 _ rfl))).trans ((dk_bind (dk_u2 (h 1 _ rfl) (h 2 _ rfl))).trans rfl))
theorem dk_182 {code : ByteArray} {pc : Nat} (a b : UInt8) (h : DkAt code pc [182, a, b]) : decode code pc = .ok (.invokevirtual (a.toNat * 256 + b.toNat), 3) := dk_of ((dk_bind (dk_u1 (h 0 _ rfl))).trans ((dk_bind (dk_u2 (h 1 _ rfl) (h 2 _ rfl))).trans rfl))
theorem dk_183 {code : ByteArray} {pc : Nat} (a b : UInt8) (h : DkAt code pc [183, a, b]) : decode code pc = .ok (.invokespecial (a.toNat * 256 + b.toNat), 3) := dk_of ((dk_bind (dk_u1 (h 0 _ rfl))).trans ((dk_bind (dk_u2 (h 1 _ rfl) (h 2 _ rfl))).trans rfl))
theorem dk_184 {code : ByteArray} {pc : Nat} (a b : UInt8) (h : DkAt code pc [184, a, b]) : decode code pc = .ok (.invokestatic (a.toNat * 256 + b.toNat), 3) := dk_of ((dk_bind (dk_u1 (h 0 _ rfl))).trans ((dk_bind (dk_u2 (h 1 _ rfl) (h 2 _ rfl))).trans rfl))
theorem dk_187 {code : ByteArray} {pc : Nat} (a b : UInt8) (h : DkAt code pc [187, a, b]) : decode code pc = .ok (.new (a.toNat * 256 + b.toNat), 3) := dk_of ((dk_bind (dk_u1 (h 0 _ rfl))).trans ((dk_bind (dk_u2 (h 1 _ rfl) (h 2 _ rfl))).trans rfl))
theorem dk_188_8 {code : ByteArray} {pc : Nat} (h : DkAt code pc [188, 8]) : decode code pc = .ok (.newarray .byte, 2) := dk_of ((dk_bind (dk_u1 (h 0 _ rfl))).trans ((dk_bind (dk_u1 (h 1 _ rfl))).trans rfl))
theorem dk_188_10 {code : ByteArray} {pc : Nat} (h : DkAt code pc [188, 10]) : decode code pc = .ok (.newarray .int, 2) := dk_of ((dk_bind (dk_u1 (h 0 _ rfl))).trans ((dk_bind (dk_u1 (h 1 _ rfl))).trans rfl))
theorem dk_190 {code : ByteArray} {pc : Nat} (h : DkAt code pc [190]) : decode code pc = .ok (.arraylength, 1) := dk_of ((dk_bind (dk_u1 (h 0 _ rfl))).trans rfl)
theorem dk_191 {code : ByteArray} {pc : Nat} (h : DkAt code pc [191]) : decode code pc = .ok (.athrow, 1) := dk_of ((dk_bind (dk_u1 (h 0 _ rfl))).trans rfl)
theorem dk_192 {code : ByteArray} {pc : Nat} (a b : UInt8) (h : DkAt code pc [192, a, b]) : decode code pc = .ok (.checkcast (a.toNat * 256 + b.toNat), 3) := dk_of ((dk_bind (dk_u1 (h 0 _ rfl))).trans ((dk_bind (dk_u2 (h 1 _ rfl) (h 2 _ rfl))).trans rfl))
theorem dk_193 {code : ByteArray} {pc : Nat} (a b : UInt8) (h : DkAt code pc [193, a, b]) : decode code pc = .ok (.instanceof (a.toNat * 256 + b.toNat), 3) := dk_of ((dk_bind (dk_u1 (h 0 _ rfl))).trans ((dk_bind (dk_u2 (h 1 _ rfl) (h 2 _ rfl))).trans rfl))
theorem q50 : (Jvm.Cond.arrayClass Jvm.ClassFile.FieldType.byte) ∈ lw_all := lw_g (lw_at lw_m1 46 rfl) rfl
set_option maxRecDepth 100000
theorem q51 : (Jvm.Cond.arrayClass Jvm.ClassFile.FieldType.int) ∈ lw_all := lw_g (lw_at lw_m1 47 rfl) rfl
theorem q73 : (Jvm.Cond.interfaceMethod "BlockCipher" "BlockCipher" "init" "(ZLCipherParameters;)V") ∈ lw_tbl := lw_at lw_m1 69 rfl
set_option maxRecDepth 100000
theorem q74 : (Jvm.Cond.declares ({ cls := "BlockCipher", name := "init", desc := "(ZLCipherParameters;)V" } : Jvm.MethodName)) ∈ lw_tbl := lw_at lw_m1 70 rfl
theorem q169 : (Jvm.Cond.interfaceMethod "BlockCipher" "BlockCipher" "processBlock" "([BI[BI)I") ∈ lw_tbl := lw_at lw_m1 165 rfl
theorem q170 : (Jvm.Cond.declares ({ cls := "BlockCipher", name := "processBlock", desc := "([BI[BI)I" } : Jvm.MethodName)) ∈ lw_tbl := lw_at lw_m1 166 rfl
theorem q8 : (Jvm.Cond.initialized "java/lang/System") ∈ lw_all := lw_g (lw_at lw_m1 4 rfl) rfl
set_option maxRecDepth 100000
theorem q69 : (Jvm.Cond.static ({ cls := "java/lang/System", name := "arraycopy", desc := "(Ljava/lang/Object;ILjava/lang/Object;II)V" } : Jvm.MethodName)) ∈ lw_all := lw_g (lw_at lw_m1 65 rfl) rfl
theorem q70 : (Jvm.Cond.native ({ cls := "java/lang/System", name := "arraycopy", desc := "(Ljava/lang/Object;ILjava/lang/Object;II)V" } : Jvm.MethodName)) ∈ lw_all := lw_g (lw_at lw_m1 66 rfl) rfl
/-! java/lang/Object -/
set_option maxRecDepth 100000
def RJ6 : String := "java/lang/Object"
abbrev cJ6_init : ByteArray := object_method_1_code
def yJ6_init : MethodName := ⟨RJ6, "<init>", "()V"⟩
theorem dJ6_init_0 : decode cJ6_init 0 = .ok (.return_, 1) := by decide +kernel
theorem q38 : (Jvm.Cond.instanceMethod ({ cls := "java/lang/Object", name := "<init>", desc := "()V" } : Jvm.MethodName)) ∈ lw_all := lw_g (lw_at lw_m1 34 rfl) rfl
theorem q39 : (Jvm.Cond.code ({ cls := "java/lang/Object", name := "<init>", desc := "()V" } : Jvm.MethodName) object_method_1_code (1 : Nat) (Option.none : Option Jvm.ClassFile.FieldType)) ∈ lw_all := lw_g (lw_at lw_m1 35 rfl) rfl
/-! java/lang/Integer -/
set_option maxRecDepth 100000
def RJ4 : String := "java/lang/Integer"
abbrev cJ4_rotateLeft : ByteArray := prog_15_method_50_code
def yJ4_rotateLeft : MethodName := ⟨RJ4, "rotateLeft", "(II)I"⟩
def dkwJ4_rotateLeft_0 : List UInt8 := [26, 27, 120, 26, 27, 116, 124, 128, 172]
abbrev dktJ4_rotateLeft_0 : List UInt8 := dkwJ4_rotateLeft_0 ++ []
theorem dksJ4_rotateLeft_0 : cJ4_rotateLeft.data.toList.drop 0 = dktJ4_rotateLeft_0 := by decide +kernel
theorem dJ4_rotateLeft_0 : decode cJ4_rotateLeft 0 = .ok (.iload_n 0, 1) := dk_26 (dk_at dksJ4_rotateLeft_0 0 rfl rfl)
theorem dJ4_rotateLeft_1 : decode cJ4_rotateLeft 1 = .ok (.iload_n 1, 1) := dk_27 (dk_at dksJ4_rotateLeft_0 1 rfl rfl)
theorem dJ4_rotateLeft_2 : decode cJ4_rotateLeft 2 = .ok (.ishl, 1) := dk_120 (dk_at dksJ4_rotateLeft_0 2 rfl rfl)
theorem dJ4_rotateLeft_3 : decode cJ4_rotateLeft 3 = .ok (.iload_n 0, 1) := dk_26 (dk_at dksJ4_rotateLeft_0 3 rfl rfl)
theorem dJ4_rotateLeft_4 : decode cJ4_rotateLeft 4 = .ok (.iload_n 1, 1) := dk_27 (dk_at dksJ4_rotateLeft_0 4 rfl rfl)
theorem dJ4_rotateLeft_5 : decode cJ4_rotateLeft 5 = .ok (.ineg, 1) := dk_116 (dk_at dksJ4_rotateLeft_0 5 rfl rfl)
theorem dJ4_rotateLeft_6 : decode cJ4_rotateLeft 6 = .ok (.iushr, 1) := dk_124 (dk_at dksJ4_rotateLeft_0 6 rfl rfl)
theorem dJ4_rotateLeft_7 : decode cJ4_rotateLeft 7 = .ok (.ior, 1) := dk_128 (dk_at dksJ4_rotateLeft_0 7 rfl rfl)
theorem dJ4_rotateLeft_8 : decode cJ4_rotateLeft 8 = .ok (.ireturn, 1) := dk_172 (dk_at dksJ4_rotateLeft_0 8 rfl rfl)
theorem q15 : (Jvm.Cond.initialized "java/lang/Integer") ∈ lw_all := lw_g (lw_at lw_m1 11 rfl) rfl
theorem q165 : (Jvm.Cond.static ({ cls := "java/lang/Integer", name := "rotateLeft", desc := "(II)I" } : Jvm.MethodName)) ∈ lw_all := lw_g (lw_at lw_m1 161 rfl) rfl
theorem q166 : (Jvm.Cond.code ({ cls := "java/lang/Integer", name := "rotateLeft", desc := "(II)I" } : Jvm.MethodName) prog_15_method_50_code (2 : Nat) (Option.some Jvm.ClassFile.FieldType.int)) ∈ lw_all := lw_g (lw_at lw_m1 162 rfl) rfl
/-! Integers -/
set_option maxRecDepth 100000
def RX5 : String := "Integers"
abbrev cX5_rotateLeft : ByteArray := prog_4_method_2_code
def yX5_rotateLeft : MethodName := ⟨RX5, "rotateLeft", "(II)I"⟩
def dkwX5_rotateLeft_0 : List UInt8 := [26, 27, 184, 0, 7, 172]
abbrev dktX5_rotateLeft_0 : List UInt8 := dkwX5_rotateLeft_0 ++ []
theorem dksX5_rotateLeft_0 : cX5_rotateLeft.data.toList.drop 0 = dktX5_rotateLeft_0 := by decide +kernel
theorem dX5_rotateLeft_0 : decode cX5_rotateLeft 0 = .ok (.iload_n 0, 1) := dk_26 (dk_at dksX5_rotateLeft_0 0 rfl rfl)
theorem dX5_rotateLeft_1 : decode cX5_rotateLeft 1 = .ok (.iload_n 1, 1) := dk_27 (dk_at dksX5_rotateLeft_0 1 rfl rfl)
theorem dX5_rotateLeft_2 : decode cX5_rotateLeft 2 = .ok (.invokestatic 7, 3) := dk_184 0 7 (dk_at dksX5_rotateLeft_0 2 rfl rfl)
theorem dX5_rotateLeft_5 : decode cX5_rotateLeft 5 = .ok (.ireturn, 1) := dk_172 (dk_at dksX5_rotateLeft_0 5 rfl rfl)
theorem q14 : (Jvm.Cond.initialized "Integers") ∈ lw_all := lw_g (lw_at lw_m1 10 rfl) rfl
theorem q162 : (Jvm.Cond.static ({ cls := "Integers", name := "rotateLeft", desc := "(II)I" } : Jvm.MethodName)) ∈ lw_all := lw_g (lw_at lw_m1 158 rfl) rfl
theorem q163 : (Jvm.Cond.code ({ cls := "Integers", name := "rotateLeft", desc := "(II)I" } : Jvm.MethodName) prog_4_method_2_code (2 : Nat) (Option.some Jvm.ClassFile.FieldType.int)) ∈ lw_all := lw_g (lw_at lw_m1 159 rfl) rfl
theorem q164 : (Jvm.Cond.methodLink "Integers" (7 : Nat) ({ cls := "java/lang/Integer", name := "rotateLeft", desc := "(II)I" } : Jvm.MethodName)) ∈ lw_all := lw_g (lw_at lw_m1 160 rfl) rfl
/-! Pack -/
set_option maxRecDepth 100000
def RX4 : String := "Pack"
abbrev cX4_bigEndianToInt : ByteArray := prog_10_method_3_code
def yX4_bigEndianToInt : MethodName := ⟨RX4, "bigEndianToInt", "([BI[III)V"⟩
def dkwX4_bigEndianToInt_1 : List UInt8 := [132, 5, 1, 167, 255, 232, 177]
abbrev dktX4_bigEndianToInt_1 : List UInt8 := dkwX4_bigEndianToInt_1 ++ []
def dkwX4_bigEndianToInt_0 : List UInt8 := [3, 54, 5, 21, 5, 21, 4, 162, 0, 23, 44, 29, 21, 5, 96, 42, 27, 184, 0, 7, 79, 132, 1, 4]
abbrev dktX4_bigEndianToInt_0 : List UInt8 := dkwX4_bigEndianToInt_0 ++ dktX4_bigEndianToInt_1
theorem dksX4_bigEndianToInt_0 : cX4_bigEndianToInt.data.toList.drop 0 = dktX4_bigEndianToInt_0 := by decide +kernel
theorem dksX4_bigEndianToInt_1 : cX4_bigEndianToInt.data.toList.drop 24 = dktX4_bigEndianToInt_1 := dk_seg dksX4_bigEndianToInt_0 24 rfl rfl
theorem dX4_bigEndianToInt_0 : decode cX4_bigEndianToInt 0 = .ok (.iconst 0, 1) := dk_3 (dk_at dksX4_bigEndianToInt_0 0 rfl rfl)
theorem dX4_bigEndianToInt_1 : decode cX4_bigEndianToInt 1 = .ok (.istore 5, 2) := dk_54 5 (dk_at dksX4_bigEndianToInt_0 1 rfl rfl)
theorem dX4_bigEndianToInt_3 : decode cX4_bigEndianToInt 3 = .ok (.iload 5, 2) := dk_21 5 (dk_at dksX4_bigEndianToInt_0 3 rfl rfl)
theorem dX4_bigEndianToInt_5 : decode cX4_bigEndianToInt 5 = .ok (.iload 4, 2) := dk_21 4 (dk_at dksX4_bigEndianToInt_0 5 rfl rfl)
theorem dX4_bigEndianToInt_7 : decode cX4_bigEndianToInt 7 = .ok (.if_icmp .ge 23, 3) := dk_162 0 23 (dk_at dksX4_bigEndianToInt_0 7 rfl rfl)
theorem dX4_bigEndianToInt_10 : decode cX4_bigEndianToInt 10 = .ok (.aload_n 2, 1) := dk_44 (dk_at dksX4_bigEndianToInt_0 10 rfl rfl)
theorem dX4_bigEndianToInt_11 : decode cX4_bigEndianToInt 11 = .ok (.iload_n 3, 1) := dk_29 (dk_at dksX4_bigEndianToInt_0 11 rfl rfl)
theorem dX4_bigEndianToInt_12 : decode cX4_bigEndianToInt 12 = .ok (.iload 5, 2) := dk_21 5 (dk_at dksX4_bigEndianToInt_0 12 rfl rfl)
theorem dX4_bigEndianToInt_14 : decode cX4_bigEndianToInt 14 = .ok (.iadd, 1) := dk_96 (dk_at dksX4_bigEndianToInt_0 14 rfl rfl)
theorem dX4_bigEndianToInt_15 : decode cX4_bigEndianToInt 15 = .ok (.aload_n 0, 1) := dk_42 (dk_at dksX4_bigEndianToInt_0 15 rfl rfl)
theorem dX4_bigEndianToInt_16 : decode cX4_bigEndianToInt 16 = .ok (.iload_n 1, 1) := dk_27 (dk_at dksX4_bigEndianToInt_0 16 rfl rfl)
theorem dX4_bigEndianToInt_17 : decode cX4_bigEndianToInt 17 = .ok (.invokestatic 7, 3) := dk_184 0 7 (dk_at dksX4_bigEndianToInt_0 17 rfl rfl)
theorem dX4_bigEndianToInt_20 : decode cX4_bigEndianToInt 20 = .ok (.iastore, 1) := dk_79 (dk_at dksX4_bigEndianToInt_0 20 rfl rfl)
theorem dX4_bigEndianToInt_21 : decode cX4_bigEndianToInt 21 = .ok (.iinc 1 4, 3) := dk_132 1 4 (dk_at dksX4_bigEndianToInt_0 21 rfl rfl)
theorem dX4_bigEndianToInt_24 : decode cX4_bigEndianToInt 24 = .ok (.iinc 5 1, 3) := dk_132 5 1 (dk_at dksX4_bigEndianToInt_1 0 rfl rfl)
theorem dX4_bigEndianToInt_27 : decode cX4_bigEndianToInt 27 = .ok (.goto (-24), 3) := dk_167 255 232 (dk_at dksX4_bigEndianToInt_1 3 rfl rfl)
theorem dX4_bigEndianToInt_30 : decode cX4_bigEndianToInt 30 = .ok (.return_, 1) := dk_177 (dk_at dksX4_bigEndianToInt_1 6 rfl rfl)
abbrev cX4_bigEndianToInt_2 : ByteArray := prog_10_method_2_code
def yX4_bigEndianToInt_2 : MethodName := ⟨RX4, "bigEndianToInt", "([BI)I"⟩
def dkwX4_bigEndianToInt_2_2 : List UInt8 := [17, 0, 255, 126, 128, 61, 28, 172]
abbrev dktX4_bigEndianToInt_2_2 : List UInt8 := dkwX4_bigEndianToInt_2_2 ++ []
def dkwX4_bigEndianToInt_2_1 : List UInt8 := [42, 132, 1, 1, 27, 51, 17, 0, 255, 126, 16, 8, 120, 128, 61, 28, 42, 132, 1, 1, 27, 51]
abbrev dktX4_bigEndianToInt_2_1 : List UInt8 := dkwX4_bigEndianToInt_2_1 ++ dktX4_bigEndianToInt_2_2
def dkwX4_bigEndianToInt_2_0 : List UInt8 := [42, 27, 51, 16, 24, 120, 61, 28, 42, 132, 1, 1, 27, 51, 17, 0, 255, 126, 16, 16, 120, 128, 61, 28]
abbrev dktX4_bigEndianToInt_2_0 : List UInt8 := dkwX4_bigEndianToInt_2_0 ++ dktX4_bigEndianToInt_2_1
theorem dksX4_bigEndianToInt_2_0 : cX4_bigEndianToInt_2.data.toList.drop 0 = dktX4_bigEndianToInt_2_0 := by decide +kernel
theorem dksX4_bigEndianToInt_2_1 : cX4_bigEndianToInt_2.data.toList.drop 24 = dktX4_bigEndianToInt_2_1 := dk_seg dksX4_bigEndianToInt_2_0 24 rfl rfl
theorem dksX4_bigEndianToInt_2_2 : cX4_bigEndianToInt_2.data.toList.drop 46 = dktX4_bigEndianToInt_2_2 := dk_seg dksX4_bigEndianToInt_2_1 22 rfl rfl
theorem dX4_bigEndianToInt_2_0 : decode cX4_bigEndianToInt_2 0 = .ok (.aload_n 0, 1) := dk_42 (dk_at dksX4_bigEndianToInt_2_0 0 rfl rfl)
theorem dX4_bigEndianToInt_2_1 : decode cX4_bigEndianToInt_2 1 = .ok (.iload_n 1, 1) := dk_27 (dk_at dksX4_bigEndianToInt_2_0 1 rfl rfl)
theorem dX4_bigEndianToInt_2_2 : decode cX4_bigEndianToInt_2 2 = .ok (.baload, 1) := dk_51 (dk_at dksX4_bigEndianToInt_2_0 2 rfl rfl)
theorem dX4_bigEndianToInt_2_3 : decode cX4_bigEndianToInt_2 3 = .ok (.bipush 24, 2) := dk_16 24 (dk_at dksX4_bigEndianToInt_2_0 3 rfl rfl)
theorem dX4_bigEndianToInt_2_5 : decode cX4_bigEndianToInt_2 5 = .ok (.ishl, 1) := dk_120 (dk_at dksX4_bigEndianToInt_2_0 5 rfl rfl)
theorem dX4_bigEndianToInt_2_6 : decode cX4_bigEndianToInt_2 6 = .ok (.istore_n 2, 1) := dk_61 (dk_at dksX4_bigEndianToInt_2_0 6 rfl rfl)
theorem dX4_bigEndianToInt_2_7 : decode cX4_bigEndianToInt_2 7 = .ok (.iload_n 2, 1) := dk_28 (dk_at dksX4_bigEndianToInt_2_0 7 rfl rfl)
theorem dX4_bigEndianToInt_2_8 : decode cX4_bigEndianToInt_2 8 = .ok (.aload_n 0, 1) := dk_42 (dk_at dksX4_bigEndianToInt_2_0 8 rfl rfl)
theorem dX4_bigEndianToInt_2_9 : decode cX4_bigEndianToInt_2 9 = .ok (.iinc 1 1, 3) := dk_132 1 1 (dk_at dksX4_bigEndianToInt_2_0 9 rfl rfl)
theorem dX4_bigEndianToInt_2_12 : decode cX4_bigEndianToInt_2 12 = .ok (.iload_n 1, 1) := dk_27 (dk_at dksX4_bigEndianToInt_2_0 12 rfl rfl)
theorem dX4_bigEndianToInt_2_13 : decode cX4_bigEndianToInt_2 13 = .ok (.baload, 1) := dk_51 (dk_at dksX4_bigEndianToInt_2_0 13 rfl rfl)
theorem dX4_bigEndianToInt_2_14 : decode cX4_bigEndianToInt_2 14 = .ok (.sipush 255, 3) := dk_17 0 255 (dk_at dksX4_bigEndianToInt_2_0 14 rfl rfl)
theorem dX4_bigEndianToInt_2_17 : decode cX4_bigEndianToInt_2 17 = .ok (.iand, 1) := dk_126 (dk_at dksX4_bigEndianToInt_2_0 17 rfl rfl)
theorem dX4_bigEndianToInt_2_18 : decode cX4_bigEndianToInt_2 18 = .ok (.bipush 16, 2) := dk_16 16 (dk_at dksX4_bigEndianToInt_2_0 18 rfl rfl)
theorem dX4_bigEndianToInt_2_20 : decode cX4_bigEndianToInt_2 20 = .ok (.ishl, 1) := dk_120 (dk_at dksX4_bigEndianToInt_2_0 20 rfl rfl)
theorem dX4_bigEndianToInt_2_21 : decode cX4_bigEndianToInt_2 21 = .ok (.ior, 1) := dk_128 (dk_at dksX4_bigEndianToInt_2_0 21 rfl rfl)
theorem dX4_bigEndianToInt_2_22 : decode cX4_bigEndianToInt_2 22 = .ok (.istore_n 2, 1) := dk_61 (dk_at dksX4_bigEndianToInt_2_0 22 rfl rfl)
theorem dX4_bigEndianToInt_2_23 : decode cX4_bigEndianToInt_2 23 = .ok (.iload_n 2, 1) := dk_28 (dk_at dksX4_bigEndianToInt_2_0 23 rfl rfl)
theorem dX4_bigEndianToInt_2_24 : decode cX4_bigEndianToInt_2 24 = .ok (.aload_n 0, 1) := dk_42 (dk_at dksX4_bigEndianToInt_2_1 0 rfl rfl)
theorem dX4_bigEndianToInt_2_25 : decode cX4_bigEndianToInt_2 25 = .ok (.iinc 1 1, 3) := dk_132 1 1 (dk_at dksX4_bigEndianToInt_2_1 1 rfl rfl)
theorem dX4_bigEndianToInt_2_28 : decode cX4_bigEndianToInt_2 28 = .ok (.iload_n 1, 1) := dk_27 (dk_at dksX4_bigEndianToInt_2_1 4 rfl rfl)
theorem dX4_bigEndianToInt_2_29 : decode cX4_bigEndianToInt_2 29 = .ok (.baload, 1) := dk_51 (dk_at dksX4_bigEndianToInt_2_1 5 rfl rfl)
theorem dX4_bigEndianToInt_2_30 : decode cX4_bigEndianToInt_2 30 = .ok (.sipush 255, 3) := dk_17 0 255 (dk_at dksX4_bigEndianToInt_2_1 6 rfl rfl)
theorem dX4_bigEndianToInt_2_33 : decode cX4_bigEndianToInt_2 33 = .ok (.iand, 1) := dk_126 (dk_at dksX4_bigEndianToInt_2_1 9 rfl rfl)
theorem dX4_bigEndianToInt_2_34 : decode cX4_bigEndianToInt_2 34 = .ok (.bipush 8, 2) := dk_16 8 (dk_at dksX4_bigEndianToInt_2_1 10 rfl rfl)
theorem dX4_bigEndianToInt_2_36 : decode cX4_bigEndianToInt_2 36 = .ok (.ishl, 1) := dk_120 (dk_at dksX4_bigEndianToInt_2_1 12 rfl rfl)
theorem dX4_bigEndianToInt_2_37 : decode cX4_bigEndianToInt_2 37 = .ok (.ior, 1) := dk_128 (dk_at dksX4_bigEndianToInt_2_1 13 rfl rfl)
theorem dX4_bigEndianToInt_2_38 : decode cX4_bigEndianToInt_2 38 = .ok (.istore_n 2, 1) := dk_61 (dk_at dksX4_bigEndianToInt_2_1 14 rfl rfl)
theorem dX4_bigEndianToInt_2_39 : decode cX4_bigEndianToInt_2 39 = .ok (.iload_n 2, 1) := dk_28 (dk_at dksX4_bigEndianToInt_2_1 15 rfl rfl)
theorem dX4_bigEndianToInt_2_40 : decode cX4_bigEndianToInt_2 40 = .ok (.aload_n 0, 1) := dk_42 (dk_at dksX4_bigEndianToInt_2_1 16 rfl rfl)
theorem dX4_bigEndianToInt_2_41 : decode cX4_bigEndianToInt_2 41 = .ok (.iinc 1 1, 3) := dk_132 1 1 (dk_at dksX4_bigEndianToInt_2_1 17 rfl rfl)
theorem dX4_bigEndianToInt_2_44 : decode cX4_bigEndianToInt_2 44 = .ok (.iload_n 1, 1) := dk_27 (dk_at dksX4_bigEndianToInt_2_1 20 rfl rfl)
theorem dX4_bigEndianToInt_2_45 : decode cX4_bigEndianToInt_2 45 = .ok (.baload, 1) := dk_51 (dk_at dksX4_bigEndianToInt_2_1 21 rfl rfl)
theorem dX4_bigEndianToInt_2_46 : decode cX4_bigEndianToInt_2 46 = .ok (.sipush 255, 3) := dk_17 0 255 (dk_at dksX4_bigEndianToInt_2_2 0 rfl rfl)
theorem dX4_bigEndianToInt_2_49 : decode cX4_bigEndianToInt_2 49 = .ok (.iand, 1) := dk_126 (dk_at dksX4_bigEndianToInt_2_2 3 rfl rfl)
theorem dX4_bigEndianToInt_2_50 : decode cX4_bigEndianToInt_2 50 = .ok (.ior, 1) := dk_128 (dk_at dksX4_bigEndianToInt_2_2 4 rfl rfl)
theorem dX4_bigEndianToInt_2_51 : decode cX4_bigEndianToInt_2 51 = .ok (.istore_n 2, 1) := dk_61 (dk_at dksX4_bigEndianToInt_2_2 5 rfl rfl)
theorem dX4_bigEndianToInt_2_52 : decode cX4_bigEndianToInt_2 52 = .ok (.iload_n 2, 1) := dk_28 (dk_at dksX4_bigEndianToInt_2_2 6 rfl rfl)
theorem dX4_bigEndianToInt_2_53 : decode cX4_bigEndianToInt_2 53 = .ok (.ireturn, 1) := dk_172 (dk_at dksX4_bigEndianToInt_2_2 7 rfl rfl)
abbrev cX4_intToBigEndian : ByteArray := prog_10_method_4_code
def yX4_intToBigEndian : MethodName := ⟨RX4, "intToBigEndian", "(I[BI)V"⟩
def dkwX4_intToBigEndian_1 : List UInt8 := [26, 16, 8, 124, 145, 84, 43, 132, 2, 1, 28, 26, 145, 84, 177]
abbrev dktX4_intToBigEndian_1 : List UInt8 := dkwX4_intToBigEndian_1 ++ []
def dkwX4_intToBigEndian_0 : List UInt8 := [43, 28, 26, 16, 24, 124, 145, 84, 43, 132, 2, 1, 28, 26, 16, 16, 124, 145, 84, 43, 132, 2, 1, 28]
abbrev dktX4_intToBigEndian_0 : List UInt8 := dkwX4_intToBigEndian_0 ++ dktX4_intToBigEndian_1
theorem dksX4_intToBigEndian_0 : cX4_intToBigEndian.data.toList.drop 0 = dktX4_intToBigEndian_0 := by decide +kernel
theorem dksX4_intToBigEndian_1 : cX4_intToBigEndian.data.toList.drop 24 = dktX4_intToBigEndian_1 := dk_seg dksX4_intToBigEndian_0 24 rfl rfl
theorem dX4_intToBigEndian_0 : decode cX4_intToBigEndian 0 = .ok (.aload_n 1, 1) := dk_43 (dk_at dksX4_intToBigEndian_0 0 rfl rfl)
theorem dX4_intToBigEndian_1 : decode cX4_intToBigEndian 1 = .ok (.iload_n 2, 1) := dk_28 (dk_at dksX4_intToBigEndian_0 1 rfl rfl)
theorem dX4_intToBigEndian_2 : decode cX4_intToBigEndian 2 = .ok (.iload_n 0, 1) := dk_26 (dk_at dksX4_intToBigEndian_0 2 rfl rfl)
theorem dX4_intToBigEndian_3 : decode cX4_intToBigEndian 3 = .ok (.bipush 24, 2) := dk_16 24 (dk_at dksX4_intToBigEndian_0 3 rfl rfl)
theorem dX4_intToBigEndian_5 : decode cX4_intToBigEndian 5 = .ok (.iushr, 1) := dk_124 (dk_at dksX4_intToBigEndian_0 5 rfl rfl)
theorem dX4_intToBigEndian_6 : decode cX4_intToBigEndian 6 = .ok (.i2b, 1) := dk_145 (dk_at dksX4_intToBigEndian_0 6 rfl rfl)
theorem dX4_intToBigEndian_7 : decode cX4_intToBigEndian 7 = .ok (.bastore, 1) := dk_84 (dk_at dksX4_intToBigEndian_0 7 rfl rfl)
theorem dX4_intToBigEndian_8 : decode cX4_intToBigEndian 8 = .ok (.aload_n 1, 1) := dk_43 (dk_at dksX4_intToBigEndian_0 8 rfl rfl)
theorem dX4_intToBigEndian_9 : decode cX4_intToBigEndian 9 = .ok (.iinc 2 1, 3) := dk_132 2 1 (dk_at dksX4_intToBigEndian_0 9 rfl rfl)
theorem dX4_intToBigEndian_12 : decode cX4_intToBigEndian 12 = .ok (.iload_n 2, 1) := dk_28 (dk_at dksX4_intToBigEndian_0 12 rfl rfl)
theorem dX4_intToBigEndian_13 : decode cX4_intToBigEndian 13 = .ok (.iload_n 0, 1) := dk_26 (dk_at dksX4_intToBigEndian_0 13 rfl rfl)
theorem dX4_intToBigEndian_14 : decode cX4_intToBigEndian 14 = .ok (.bipush 16, 2) := dk_16 16 (dk_at dksX4_intToBigEndian_0 14 rfl rfl)
theorem dX4_intToBigEndian_16 : decode cX4_intToBigEndian 16 = .ok (.iushr, 1) := dk_124 (dk_at dksX4_intToBigEndian_0 16 rfl rfl)
theorem dX4_intToBigEndian_17 : decode cX4_intToBigEndian 17 = .ok (.i2b, 1) := dk_145 (dk_at dksX4_intToBigEndian_0 17 rfl rfl)
theorem dX4_intToBigEndian_18 : decode cX4_intToBigEndian 18 = .ok (.bastore, 1) := dk_84 (dk_at dksX4_intToBigEndian_0 18 rfl rfl)
theorem dX4_intToBigEndian_19 : decode cX4_intToBigEndian 19 = .ok (.aload_n 1, 1) := dk_43 (dk_at dksX4_intToBigEndian_0 19 rfl rfl)
theorem dX4_intToBigEndian_20 : decode cX4_intToBigEndian 20 = .ok (.iinc 2 1, 3) := dk_132 2 1 (dk_at dksX4_intToBigEndian_0 20 rfl rfl)
theorem dX4_intToBigEndian_23 : decode cX4_intToBigEndian 23 = .ok (.iload_n 2, 1) := dk_28 (dk_at dksX4_intToBigEndian_0 23 rfl rfl)
theorem dX4_intToBigEndian_24 : decode cX4_intToBigEndian 24 = .ok (.iload_n 0, 1) := dk_26 (dk_at dksX4_intToBigEndian_1 0 rfl rfl)
theorem dX4_intToBigEndian_25 : decode cX4_intToBigEndian 25 = .ok (.bipush 8, 2) := dk_16 8 (dk_at dksX4_intToBigEndian_1 1 rfl rfl)
theorem dX4_intToBigEndian_27 : decode cX4_intToBigEndian 27 = .ok (.iushr, 1) := dk_124 (dk_at dksX4_intToBigEndian_1 3 rfl rfl)
theorem dX4_intToBigEndian_28 : decode cX4_intToBigEndian 28 = .ok (.i2b, 1) := dk_145 (dk_at dksX4_intToBigEndian_1 4 rfl rfl)
theorem dX4_intToBigEndian_29 : decode cX4_intToBigEndian 29 = .ok (.bastore, 1) := dk_84 (dk_at dksX4_intToBigEndian_1 5 rfl rfl)
theorem dX4_intToBigEndian_30 : decode cX4_intToBigEndian 30 = .ok (.aload_n 1, 1) := dk_43 (dk_at dksX4_intToBigEndian_1 6 rfl rfl)
theorem dX4_intToBigEndian_31 : decode cX4_intToBigEndian 31 = .ok (.iinc 2 1, 3) := dk_132 2 1 (dk_at dksX4_intToBigEndian_1 7 rfl rfl)
theorem dX4_intToBigEndian_34 : decode cX4_intToBigEndian 34 = .ok (.iload_n 2, 1) := dk_28 (dk_at dksX4_intToBigEndian_1 10 rfl rfl)
theorem dX4_intToBigEndian_35 : decode cX4_intToBigEndian 35 = .ok (.iload_n 0, 1) := dk_26 (dk_at dksX4_intToBigEndian_1 11 rfl rfl)
theorem dX4_intToBigEndian_36 : decode cX4_intToBigEndian 36 = .ok (.i2b, 1) := dk_145 (dk_at dksX4_intToBigEndian_1 12 rfl rfl)
theorem dX4_intToBigEndian_37 : decode cX4_intToBigEndian 37 = .ok (.bastore, 1) := dk_84 (dk_at dksX4_intToBigEndian_1 13 rfl rfl)
theorem dX4_intToBigEndian_38 : decode cX4_intToBigEndian 38 = .ok (.return_, 1) := dk_177 (dk_at dksX4_intToBigEndian_1 14 rfl rfl)
theorem q13 : (Jvm.Cond.initialized "Pack") ∈ lw_all := lw_g (lw_at lw_m1 9 rfl) rfl
theorem q156 : (Jvm.Cond.static ({ cls := "Pack", name := "bigEndianToInt", desc := "([BI[III)V" } : Jvm.MethodName)) ∈ lw_all := lw_g (lw_at lw_m1 152 rfl) rfl
theorem q157 : (Jvm.Cond.code ({ cls := "Pack", name := "bigEndianToInt", desc := "([BI[III)V" } : Jvm.MethodName) prog_10_method_3_code (6 : Nat) (Option.none : Option Jvm.ClassFile.FieldType)) ∈ lw_all := lw_g (lw_at lw_m1 153 rfl) rfl
theorem q158 : (Jvm.Cond.methodLink "Pack" (7 : Nat) ({ cls := "Pack", name := "bigEndianToInt", desc := "([BI)I" } : Jvm.MethodName)) ∈ lw_all := lw_g (lw_at lw_m1 154 rfl) rfl
theorem q159 : (Jvm.Cond.static ({ cls := "Pack", name := "bigEndianToInt", desc := "([BI)I" } : Jvm.MethodName)) ∈ lw_all := lw_g (lw_at lw_m1 155 rfl) rfl
theorem q160 : (Jvm.Cond.code ({ cls := "Pack", name := "bigEndianToInt", desc := "([BI)I" } : Jvm.MethodName) prog_10_method_2_code (3 : Nat) (Option.some Jvm.ClassFile.FieldType.int)) ∈ lw_all := lw_g (lw_at lw_m1 156 rfl) rfl
theorem q236 : (Jvm.Cond.static ({ cls := "Pack", name := "intToBigEndian", desc := "(I[BI)V" } : Jvm.MethodName)) ∈ lw_all := lw_g (lw_at lw_m1 232 rfl) rfl
theorem q237 : (Jvm.Cond.code ({ cls := "Pack", name := "intToBigEndian", desc := "(I[BI)V" } : Jvm.MethodName) prog_10_method_4_code (3 : Nat) (Option.none : Option Jvm.ClassFile.FieldType)) ∈ lw_all := lw_g (lw_at lw_m1 233 rfl) rfl
/-! KeyParameter -/
set_option maxRecDepth 100000
def RX3 : String := "KeyParameter"
def TX3 : u_T := fun k => match k with
  | _ => ("KeyParameter", "key", "[B", false)
def tyX3 : Nat → FieldType := fun k => match k with
  | _ => .array .byte
abbrev wsX30 : List Cond := u_ws RX3 TX3 1
theorem nmX3 : ∀ a, a < 1 → ∀ b, b < 1 → a ≠ b → (TX3 a).2.1 ≠ (TX3 b).2.1 := by decide +kernel
theorem tyX3_ok : ∀ k, k < 1 → parseFieldDescriptor (TX3 k).2.2.1 = some (tyX3 k) := by decide +kernel
abbrev cX3_init : ByteArray := prog_5_method_1_code
def yX3_init : MethodName := ⟨RX3, "<init>", "([B)V"⟩
def dkwX3_init_0 : List UInt8 := [42, 43, 3, 43, 190, 183, 0, 1, 177]
abbrev dktX3_init_0 : List UInt8 := dkwX3_init_0 ++ []
theorem dksX3_init_0 : cX3_init.data.toList.drop 0 = dktX3_init_0 := by decide +kernel
theorem dX3_init_0 : decode cX3_init 0 = .ok (.aload_n 0, 1) := dk_42 (dk_at dksX3_init_0 0 rfl rfl)
theorem dX3_init_1 : decode cX3_init 1 = .ok (.aload_n 1, 1) := dk_43 (dk_at dksX3_init_0 1 rfl rfl)
theorem dX3_init_2 : decode cX3_init 2 = .ok (.iconst 0, 1) := dk_3 (dk_at dksX3_init_0 2 rfl rfl)
theorem dX3_init_3 : decode cX3_init 3 = .ok (.aload_n 1, 1) := dk_43 (dk_at dksX3_init_0 3 rfl rfl)
theorem dX3_init_4 : decode cX3_init 4 = .ok (.arraylength, 1) := dk_190 (dk_at dksX3_init_0 4 rfl rfl)
theorem dX3_init_5 : decode cX3_init 5 = .ok (.invokespecial 1, 3) := dk_183 0 1 (dk_at dksX3_init_0 5 rfl rfl)
theorem dX3_init_8 : decode cX3_init 8 = .ok (.return_, 1) := dk_177 (dk_at dksX3_init_0 8 rfl rfl)
abbrev cX3_init_2 : ByteArray := prog_5_method_2_code
def yX3_init_2 : MethodName := ⟨RX3, "<init>", "([BII)V"⟩
def dkwX3_init_2_0 : List UInt8 := [42, 29, 183, 0, 7, 43, 28, 42, 180, 0, 10, 3, 29, 184, 0, 14, 177]
abbrev dktX3_init_2_0 : List UInt8 := dkwX3_init_2_0 ++ []
theorem dksX3_init_2_0 : cX3_init_2.data.toList.drop 0 = dktX3_init_2_0 := by decide +kernel
theorem dX3_init_2_0 : decode cX3_init_2 0 = .ok (.aload_n 0, 1) := dk_42 (dk_at dksX3_init_2_0 0 rfl rfl)
theorem dX3_init_2_1 : decode cX3_init_2 1 = .ok (.iload_n 3, 1) := dk_29 (dk_at dksX3_init_2_0 1 rfl rfl)
theorem dX3_init_2_2 : decode cX3_init_2 2 = .ok (.invokespecial 7, 3) := dk_183 0 7 (dk_at dksX3_init_2_0 2 rfl rfl)
theorem dX3_init_2_5 : decode cX3_init_2 5 = .ok (.aload_n 1, 1) := dk_43 (dk_at dksX3_init_2_0 5 rfl rfl)
theorem dX3_init_2_6 : decode cX3_init_2 6 = .ok (.iload_n 2, 1) := dk_28 (dk_at dksX3_init_2_0 6 rfl rfl)
theorem dX3_init_2_7 : decode cX3_init_2 7 = .ok (.aload_n 0, 1) := dk_42 (dk_at dksX3_init_2_0 7 rfl rfl)
theorem dX3_init_2_8 : decode cX3_init_2 8 = .ok (.getfield 10, 3) := dk_180 0 10 (dk_at dksX3_init_2_0 8 rfl rfl)
theorem dX3_init_2_11 : decode cX3_init_2 11 = .ok (.iconst 0, 1) := dk_3 (dk_at dksX3_init_2_0 11 rfl rfl)
theorem dX3_init_2_12 : decode cX3_init_2 12 = .ok (.iload_n 3, 1) := dk_29 (dk_at dksX3_init_2_0 12 rfl rfl)
theorem dX3_init_2_13 : decode cX3_init_2 13 = .ok (.invokestatic 14, 3) := dk_184 0 14 (dk_at dksX3_init_2_0 13 rfl rfl)
theorem dX3_init_2_16 : decode cX3_init_2 16 = .ok (.return_, 1) := dk_177 (dk_at dksX3_init_2_0 16 rfl rfl)
abbrev cX3_init_3 : ByteArray := prog_5_method_3_code
def yX3_init_3 : MethodName := ⟨RX3, "<init>", "(I)V"⟩
def dkwX3_init_3_0 : List UInt8 := [42, 183, 0, 20, 42, 27, 188, 8, 181, 0, 10, 177]
abbrev dktX3_init_3_0 : List UInt8 := dkwX3_init_3_0 ++ []
theorem dksX3_init_3_0 : cX3_init_3.data.toList.drop 0 = dktX3_init_3_0 := by decide +kernel
theorem dX3_init_3_0 : decode cX3_init_3 0 = .ok (.aload_n 0, 1) := dk_42 (dk_at dksX3_init_3_0 0 rfl rfl)
theorem dX3_init_3_1 : decode cX3_init_3 1 = .ok (.invokespecial 20, 3) := dk_183 0 20 (dk_at dksX3_init_3_0 1 rfl rfl)
theorem dX3_init_3_4 : decode cX3_init_3 4 = .ok (.aload_n 0, 1) := dk_42 (dk_at dksX3_init_3_0 4 rfl rfl)
theorem dX3_init_3_5 : decode cX3_init_3 5 = .ok (.iload_n 1, 1) := dk_27 (dk_at dksX3_init_3_0 5 rfl rfl)
theorem dX3_init_3_6 : decode cX3_init_3 6 = .ok (.newarray .byte, 2) := dk_188_8 (dk_at dksX3_init_3_0 6 rfl rfl)
theorem dX3_init_3_8 : decode cX3_init_3 8 = .ok (.putfield 10, 3) := dk_181 0 10 (dk_at dksX3_init_3_0 8 rfl rfl)
theorem dX3_init_3_11 : decode cX3_init_3 11 = .ok (.return_, 1) := dk_177 (dk_at dksX3_init_3_0 11 rfl rfl)
abbrev cX3_getKey : ByteArray := prog_5_method_4_code
def yX3_getKey : MethodName := ⟨RX3, "getKey", "()[B"⟩
theorem dX3_getKey_0 : decode cX3_getKey 0 = .ok (.aload_n 0, 1) := by decide +kernel
theorem dX3_getKey_1 : decode cX3_getKey 1 = .ok (.getfield 10, 3) := by decide +kernel
theorem dX3_getKey_4 : decode cX3_getKey 4 = .ok (.areturn, 1) := by decide +kernel
theorem q7 : (Jvm.Cond.initialized "KeyParameter") ∈ lw_all := lw_g (lw_at lw_m1 3 rfl) rfl
theorem q53 : (Jvm.Cond.instantiable "KeyParameter" (1 : Nat)) ∈ lw_all := lw_g (lw_at lw_m1 49 rfl) rfl
theorem q55 : (Jvm.Cond.instanceMethod ({ cls := "KeyParameter", name := "<init>", desc := "([B)V" } : Jvm.MethodName)) ∈ lw_all := lw_g (lw_at lw_m1 51 rfl) rfl
theorem q56 : (Jvm.Cond.code ({ cls := "KeyParameter", name := "<init>", desc := "([B)V" } : Jvm.MethodName) prog_5_method_1_code (2 : Nat) (Option.none : Option Jvm.ClassFile.FieldType)) ∈ lw_all := lw_g (lw_at lw_m1 52 rfl) rfl
theorem q57 : (Jvm.Cond.methodLink "KeyParameter" (1 : Nat) ({ cls := "KeyParameter", name := "<init>", desc := "([BII)V" } : Jvm.MethodName)) ∈ lw_all := lw_g (lw_at lw_m1 53 rfl) rfl
theorem q58 : (Jvm.Cond.instanceMethod ({ cls := "KeyParameter", name := "<init>", desc := "([BII)V" } : Jvm.MethodName)) ∈ lw_all := lw_g (lw_at lw_m1 54 rfl) rfl
theorem q59 : (Jvm.Cond.code ({ cls := "KeyParameter", name := "<init>", desc := "([BII)V" } : Jvm.MethodName) prog_5_method_2_code (4 : Nat) (Option.none : Option Jvm.ClassFile.FieldType)) ∈ lw_all := lw_g (lw_at lw_m1 55 rfl) rfl
theorem q60 : (Jvm.Cond.methodLink "KeyParameter" (7 : Nat) ({ cls := "KeyParameter", name := "<init>", desc := "(I)V" } : Jvm.MethodName)) ∈ lw_all := lw_g (lw_at lw_m1 56 rfl) rfl
theorem q61 : (Jvm.Cond.instanceMethod ({ cls := "KeyParameter", name := "<init>", desc := "(I)V" } : Jvm.MethodName)) ∈ lw_all := lw_g (lw_at lw_m1 57 rfl) rfl
theorem q62 : (Jvm.Cond.code ({ cls := "KeyParameter", name := "<init>", desc := "(I)V" } : Jvm.MethodName) prog_5_method_3_code (2 : Nat) (Option.none : Option Jvm.ClassFile.FieldType)) ∈ lw_all := lw_g (lw_at lw_m1 58 rfl) rfl
theorem q63 : (Jvm.Cond.methodLink "KeyParameter" (20 : Nat) ({ cls := "java/lang/Object", name := "<init>", desc := "()V" } : Jvm.MethodName)) ∈ lw_all := lw_g (lw_at lw_m1 59 rfl) rfl
theorem q64 : (Jvm.Cond.fieldLink "KeyParameter" (10 : Nat) "KeyParameter" "key" "[B") ∈ lw_all := lw_g (lw_at lw_m1 60 rfl) rfl
theorem q65 : (Jvm.Cond.lays "KeyParameter" "KeyParameter" "key" "[B") ∈ lw_all := lw_g (lw_at lw_m1 61 rfl) rfl
theorem q66 : (Jvm.Cond.soleField "KeyParameter" "key") ∈ lw_all := lw_g (lw_at lw_m1 62 rfl) rfl
theorem q67 : (Jvm.Cond.superclass "KeyParameter" "java/lang/Object") ∈ lw_all := lw_g (lw_at lw_m1 63 rfl) rfl
theorem q68 : (Jvm.Cond.methodLink "KeyParameter" (14 : Nat) ({ cls := "java/lang/System", name := "arraycopy", desc := "(Ljava/lang/Object;ILjava/lang/Object;II)V" } : Jvm.MethodName)) ∈ lw_all := lw_g (lw_at lw_m1 64 rfl) rfl
theorem q151 : (Jvm.Cond.instanceMethod ({ cls := "KeyParameter", name := "getKey", desc := "()[B" } : Jvm.MethodName)) ∈ lw_all := lw_g (lw_at lw_m1 147 rfl) rfl
theorem q152 : (Jvm.Cond.selects "KeyParameter" ({ cls := "KeyParameter", name := "getKey", desc := "()[B" } : Jvm.MethodName) ({ cls := "KeyParameter", name := "getKey", desc := "()[B" } : Jvm.MethodName)) ∈ lw_all := lw_g (lw_at lw_m1 148 rfl) rfl
theorem q153 : (Jvm.Cond.code ({ cls := "KeyParameter", name := "getKey", desc := "()[B" } : Jvm.MethodName) prog_5_method_4_code (1 : Nat) (Option.some (Jvm.ClassFile.FieldType.array Jvm.ClassFile.FieldType.byte))) ∈ lw_all := lw_g (lw_at lw_m1 149 rfl) rfl
theorem in_X3 : ∀ w ∈ wsX30, w ∈ lw_all := lw_in wsX30 [65] (by decide +kernel) (by decide +kernel)
/-! NoekeonEngine -/
set_option maxRecDepth 100000
def RX2 : String := "NoekeonEngine"
def TX2 : u_T := fun k => match k with
  | 0 => ("NoekeonEngine", "k", "[I", true)
  | 1 => ("NoekeonEngine", "_initialised", "Z", false)
  | _ => ("NoekeonEngine", "_forEncryption", "Z", false)
def tyX2 : Nat → FieldType := fun k => match k with
  | 0 => .array .int
  | 1 => .boolean
  | _ => .boolean
abbrev wsX20 : List Cond := u_ws RX2 TX2 3
theorem nmX2 : ∀ a, a < 3 → ∀ b, b < 3 → a ≠ b → (TX2 a).2.1 ≠ (TX2 b).2.1 := by decide +kernel
theorem tyX2_ok : ∀ k, k < 3 → parseFieldDescriptor (TX2 k).2.2.1 = some (tyX2 k) := by decide +kernel
abbrev cX2_init : ByteArray := prog_8_method_1_code
def yX2_init : MethodName := ⟨RX2, "<init>", "()V"⟩
def dkwX2_init_0 : List UInt8 := [42, 183, 0, 1, 42, 7, 188, 10, 181, 0, 7, 42, 3, 181, 0, 13, 177]
abbrev dktX2_init_0 : List UInt8 := dkwX2_init_0 ++ []
theorem dksX2_init_0 : cX2_init.data.toList.drop 0 = dktX2_init_0 := by decide +kernel
theorem dX2_init_0 : decode cX2_init 0 = .ok (.aload_n 0, 1) := dk_42 (dk_at dksX2_init_0 0 rfl rfl)
theorem dX2_init_1 : decode cX2_init 1 = .ok (.invokespecial 1, 3) := dk_183 0 1 (dk_at dksX2_init_0 1 rfl rfl)
theorem dX2_init_4 : decode cX2_init 4 = .ok (.aload_n 0, 1) := dk_42 (dk_at dksX2_init_0 4 rfl rfl)
theorem dX2_init_5 : decode cX2_init 5 = .ok (.iconst 4, 1) := dk_7 (dk_at dksX2_init_0 5 rfl rfl)
theorem dX2_init_6 : decode cX2_init 6 = .ok (.newarray .int, 2) := dk_188_10 (dk_at dksX2_init_0 6 rfl rfl)
theorem dX2_init_8 : decode cX2_init 8 = .ok (.putfield 7, 3) := dk_181 0 7 (dk_at dksX2_init_0 8 rfl rfl)
theorem dX2_init_11 : decode cX2_init 11 = .ok (.aload_n 0, 1) := dk_42 (dk_at dksX2_init_0 11 rfl rfl)
theorem dX2_init_12 : decode cX2_init 12 = .ok (.iconst 0, 1) := dk_3 (dk_at dksX2_init_0 12 rfl rfl)
theorem dX2_init_13 : decode cX2_init 13 = .ok (.putfield 13, 3) := dk_181 0 13 (dk_at dksX2_init_0 13 rfl rfl)
theorem dX2_init_16 : decode cX2_init 16 = .ok (.return_, 1) := dk_177 (dk_at dksX2_init_0 16 rfl rfl)
abbrev cX2_init_2 : ByteArray := prog_8_method_2_code
def yX2_init_2 : MethodName := ⟨RX2, "init", "(ZLCipherParameters;)V"⟩
def dkwX2_init_2_9 : List UInt8 := [181, 0, 44, 42, 4, 181, 0, 13, 177]
abbrev dktX2_init_2_9 : List UInt8 := dkwX2_init_2_9 ++ []
def dkwX2_init_2_8 : List UInt8 := [4, 21, 6, 79, 42, 180, 0, 7, 5, 21, 7, 79, 42, 180, 0, 7, 6, 21, 8, 79, 42, 27]
abbrev dktX2_init_2_8 : List UInt8 := dkwX2_init_2_8 ++ dktX2_init_2_9
def dkwX2_init_2_7 : List UInt8 := [21, 10, 130, 54, 7, 21, 8, 21, 9, 130, 54, 8, 42, 180, 0, 7, 3, 21, 5, 79, 42, 180, 0, 7]
abbrev dktX2_init_2_7 : List UInt8 := dkwX2_init_2_7 ++ dktX2_init_2_8
def dkwX2_init_2_6 : List UInt8 := [184, 0, 38, 130, 130, 54, 10, 21, 5, 21, 10, 130, 54, 5, 21, 6, 21, 9, 130, 54, 6, 21, 7]
abbrev dktX2_init_2_6 : List UInt8 := dkwX2_init_2_6 ++ dktX2_init_2_7
def dkwX2_init_2_5 : List UInt8 := [130, 54, 9, 21, 6, 21, 8, 130, 54, 10, 21, 10, 21, 10, 16, 8, 184, 0, 38, 21, 10, 16, 24]
abbrev dktX2_init_2_5 : List UInt8 := dkwX2_init_2_5 ++ dktX2_init_2_6
def dkwX2_init_2_4 : List UInt8 := [21, 5, 21, 7, 130, 54, 9, 21, 9, 21, 9, 16, 8, 184, 0, 38, 21, 9, 16, 24, 184, 0, 38, 130]
abbrev dktX2_init_2_4 : List UInt8 := dkwX2_init_2_4 ++ dktX2_init_2_5
def dkwX2_init_2_3 : List UInt8 := [42, 180, 0, 7, 4, 46, 54, 6, 42, 180, 0, 7, 5, 46, 54, 7, 42, 180, 0, 7, 6, 46, 54, 8]
abbrev dktX2_init_2_3 : List UInt8 := dkwX2_init_2_3 ++ dktX2_init_2_4
def dkwX2_init_2_2 : List UInt8 := [25, 4, 3, 42, 180, 0, 7, 3, 7, 184, 0, 32, 27, 154, 0, 149, 42, 180, 0, 7, 3, 46, 54, 5]
abbrev dktX2_init_2_2 : List UInt8 := dkwX2_init_2_2 ++ dktX2_init_2_3
def dkwX2_init_2_1 : List UInt8 := [182, 0, 26, 58, 4, 25, 4, 190, 16, 16, 159, 0, 13, 187, 0, 19, 89, 18, 30, 183, 0, 23, 191]
abbrev dktX2_init_2_1 : List UInt8 := dkwX2_init_2_1 ++ dktX2_init_2_2
def dkwX2_init_2_0 : List UInt8 := [44, 193, 0, 17, 154, 0, 13, 187, 0, 19, 89, 18, 21, 183, 0, 23, 191, 44, 192, 0, 17, 78, 45]
abbrev dktX2_init_2_0 : List UInt8 := dkwX2_init_2_0 ++ dktX2_init_2_1
theorem dksX2_init_2_0 : cX2_init_2.data.toList.drop 0 = dktX2_init_2_0 := by decide +kernel
theorem dksX2_init_2_1 : cX2_init_2.data.toList.drop 23 = dktX2_init_2_1 := dk_seg dksX2_init_2_0 23 rfl rfl
theorem dksX2_init_2_2 : cX2_init_2.data.toList.drop 46 = dktX2_init_2_2 := dk_seg dksX2_init_2_1 23 rfl rfl
theorem dksX2_init_2_3 : cX2_init_2.data.toList.drop 70 = dktX2_init_2_3 := dk_seg dksX2_init_2_2 24 rfl rfl
theorem dksX2_init_2_4 : cX2_init_2.data.toList.drop 94 = dktX2_init_2_4 := dk_seg dksX2_init_2_3 24 rfl rfl
theorem dksX2_init_2_5 : cX2_init_2.data.toList.drop 118 = dktX2_init_2_5 := dk_seg dksX2_init_2_4 24 rfl rfl
theorem dksX2_init_2_6 : cX2_init_2.data.toList.drop 141 = dktX2_init_2_6 := dk_seg dksX2_init_2_5 23 rfl rfl
theorem dksX2_init_2_7 : cX2_init_2.data.toList.drop 164 = dktX2_init_2_7 := dk_seg dksX2_init_2_6 23 rfl rfl
theorem dksX2_init_2_8 : cX2_init_2.data.toList.drop 188 = dktX2_init_2_8 := dk_seg dksX2_init_2_7 24 rfl rfl
theorem dksX2_init_2_9 : cX2_init_2.data.toList.drop 210 = dktX2_init_2_9 := dk_seg dksX2_init_2_8 22 rfl rfl
theorem dX2_init_2_0 : decode cX2_init_2 0 = .ok (.aload_n 2, 1) := dk_44 (dk_at dksX2_init_2_0 0 rfl rfl)
theorem dX2_init_2_1 : decode cX2_init_2 1 = .ok (.instanceof 17, 3) := dk_193 0 17 (dk_at dksX2_init_2_0 1 rfl rfl)
theorem dX2_init_2_4 : decode cX2_init_2 4 = .ok (.ifCond .ne 13, 3) := dk_154 0 13 (dk_at dksX2_init_2_0 4 rfl rfl)
theorem dX2_init_2_7 : decode cX2_init_2 7 = .ok (.new 19, 3) := dk_187 0 19 (dk_at dksX2_init_2_0 7 rfl rfl)
theorem dX2_init_2_10 : decode cX2_init_2 10 = .ok (.dup, 1) := dk_89 (dk_at dksX2_init_2_0 10 rfl rfl)
theorem dX2_init_2_11 : decode cX2_init_2 11 = .ok (.ldc 21, 2) := dk_18 21 (dk_at dksX2_init_2_0 11 rfl rfl)
theorem dX2_init_2_13 : decode cX2_init_2 13 = .ok (.invokespecial 23, 3) := dk_183 0 23 (dk_at dksX2_init_2_0 13 rfl rfl)
theorem dX2_init_2_16 : decode cX2_init_2 16 = .ok (.athrow, 1) := dk_191 (dk_at dksX2_init_2_0 16 rfl rfl)
theorem dX2_init_2_17 : decode cX2_init_2 17 = .ok (.aload_n 2, 1) := dk_44 (dk_at dksX2_init_2_0 17 rfl rfl)
theorem dX2_init_2_18 : decode cX2_init_2 18 = .ok (.checkcast 17, 3) := dk_192 0 17 (dk_at dksX2_init_2_0 18 rfl rfl)
theorem dX2_init_2_21 : decode cX2_init_2 21 = .ok (.astore_n 3, 1) := dk_78 (dk_at dksX2_init_2_0 21 rfl rfl)
theorem dX2_init_2_22 : decode cX2_init_2 22 = .ok (.aload_n 3, 1) := dk_45 (dk_at dksX2_init_2_0 22 rfl rfl)
theorem dX2_init_2_23 : decode cX2_init_2 23 = .ok (.invokevirtual 26, 3) := dk_182 0 26 (dk_at dksX2_init_2_1 0 rfl rfl)
theorem dX2_init_2_26 : decode cX2_init_2 26 = .ok (.astore 4, 2) := dk_58 4 (dk_at dksX2_init_2_1 3 rfl rfl)
theorem dX2_init_2_28 : decode cX2_init_2 28 = .ok (.aload 4, 2) := dk_25 4 (dk_at dksX2_init_2_1 5 rfl rfl)
theorem dX2_init_2_30 : decode cX2_init_2 30 = .ok (.arraylength, 1) := dk_190 (dk_at dksX2_init_2_1 7 rfl rfl)
theorem dX2_init_2_31 : decode cX2_init_2 31 = .ok (.bipush 16, 2) := dk_16 16 (dk_at dksX2_init_2_1 8 rfl rfl)
theorem dX2_init_2_33 : decode cX2_init_2 33 = .ok (.if_icmp .eq 13, 3) := dk_159 0 13 (dk_at dksX2_init_2_1 10 rfl rfl)
theorem dX2_init_2_36 : decode cX2_init_2 36 = .ok (.new 19, 3) := dk_187 0 19 (dk_at dksX2_init_2_1 13 rfl rfl)
theorem dX2_init_2_39 : decode cX2_init_2 39 = .ok (.dup, 1) := dk_89 (dk_at dksX2_init_2_1 16 rfl rfl)
theorem dX2_init_2_40 : decode cX2_init_2 40 = .ok (.ldc 30, 2) := dk_18 30 (dk_at dksX2_init_2_1 17 rfl rfl)
theorem dX2_init_2_42 : decode cX2_init_2 42 = .ok (.invokespecial 23, 3) := dk_183 0 23 (dk_at dksX2_init_2_1 19 rfl rfl)
theorem dX2_init_2_45 : decode cX2_init_2 45 = .ok (.athrow, 1) := dk_191 (dk_at dksX2_init_2_1 22 rfl rfl)
theorem dX2_init_2_46 : decode cX2_init_2 46 = .ok (.aload 4, 2) := dk_25 4 (dk_at dksX2_init_2_2 0 rfl rfl)
theorem dX2_init_2_48 : decode cX2_init_2 48 = .ok (.iconst 0, 1) := dk_3 (dk_at dksX2_init_2_2 2 rfl rfl)
theorem dX2_init_2_49 : decode cX2_init_2 49 = .ok (.aload_n 0, 1) := dk_42 (dk_at dksX2_init_2_2 3 rfl rfl)
theorem dX2_init_2_50 : decode cX2_init_2 50 = .ok (.getfield 7, 3) := dk_180 0 7 (dk_at dksX2_init_2_2 4 rfl rfl)
theorem dX2_init_2_53 : decode cX2_init_2 53 = .ok (.iconst 0, 1) := dk_3 (dk_at dksX2_init_2_2 7 rfl rfl)
theorem dX2_init_2_54 : decode cX2_init_2 54 = .ok (.iconst 4, 1) := dk_7 (dk_at dksX2_init_2_2 8 rfl rfl)
theorem dX2_init_2_55 : decode cX2_init_2 55 = .ok (.invokestatic 32, 3) := dk_184 0 32 (dk_at dksX2_init_2_2 9 rfl rfl)
theorem dX2_init_2_58 : decode cX2_init_2 58 = .ok (.iload_n 1, 1) := dk_27 (dk_at dksX2_init_2_2 12 rfl rfl)
theorem dX2_init_2_59 : decode cX2_init_2 59 = .ok (.ifCond .ne 149, 3) := dk_154 0 149 (dk_at dksX2_init_2_2 13 rfl rfl)
theorem dX2_init_2_62 : decode cX2_init_2 62 = .ok (.aload_n 0, 1) := dk_42 (dk_at dksX2_init_2_2 16 rfl rfl)
theorem dX2_init_2_63 : decode cX2_init_2 63 = .ok (.getfield 7, 3) := dk_180 0 7 (dk_at dksX2_init_2_2 17 rfl rfl)
theorem dX2_init_2_66 : decode cX2_init_2 66 = .ok (.iconst 0, 1) := dk_3 (dk_at dksX2_init_2_2 20 rfl rfl)
theorem dX2_init_2_67 : decode cX2_init_2 67 = .ok (.iaload, 1) := dk_46 (dk_at dksX2_init_2_2 21 rfl rfl)
theorem dX2_init_2_68 : decode cX2_init_2 68 = .ok (.istore 5, 2) := dk_54 5 (dk_at dksX2_init_2_2 22 rfl rfl)
theorem dX2_init_2_70 : decode cX2_init_2 70 = .ok (.aload_n 0, 1) := dk_42 (dk_at dksX2_init_2_3 0 rfl rfl)
theorem dX2_init_2_71 : decode cX2_init_2 71 = .ok (.getfield 7, 3) := dk_180 0 7 (dk_at dksX2_init_2_3 1 rfl rfl)
theorem dX2_init_2_74 : decode cX2_init_2 74 = .ok (.iconst 1, 1) := dk_4 (dk_at dksX2_init_2_3 4 rfl rfl)
theorem dX2_init_2_75 : decode cX2_init_2 75 = .ok (.iaload, 1) := dk_46 (dk_at dksX2_init_2_3 5 rfl rfl)
theorem dX2_init_2_76 : decode cX2_init_2 76 = .ok (.istore 6, 2) := dk_54 6 (dk_at dksX2_init_2_3 6 rfl rfl)
theorem dX2_init_2_78 : decode cX2_init_2 78 = .ok (.aload_n 0, 1) := dk_42 (dk_at dksX2_init_2_3 8 rfl rfl)
theorem dX2_init_2_79 : decode cX2_init_2 79 = .ok (.getfield 7, 3) := dk_180 0 7 (dk_at dksX2_init_2_3 9 rfl rfl)
theorem dX2_init_2_82 : decode cX2_init_2 82 = .ok (.iconst 2, 1) := dk_5 (dk_at dksX2_init_2_3 12 rfl rfl)
theorem dX2_init_2_83 : decode cX2_init_2 83 = .ok (.iaload, 1) := dk_46 (dk_at dksX2_init_2_3 13 rfl rfl)
theorem dX2_init_2_84 : decode cX2_init_2 84 = .ok (.istore 7, 2) := dk_54 7 (dk_at dksX2_init_2_3 14 rfl rfl)
theorem dX2_init_2_86 : decode cX2_init_2 86 = .ok (.aload_n 0, 1) := dk_42 (dk_at dksX2_init_2_3 16 rfl rfl)
theorem dX2_init_2_87 : decode cX2_init_2 87 = .ok (.getfield 7, 3) := dk_180 0 7 (dk_at dksX2_init_2_3 17 rfl rfl)
theorem dX2_init_2_90 : decode cX2_init_2 90 = .ok (.iconst 3, 1) := dk_6 (dk_at dksX2_init_2_3 20 rfl rfl)
theorem dX2_init_2_91 : decode cX2_init_2 91 = .ok (.iaload, 1) := dk_46 (dk_at dksX2_init_2_3 21 rfl rfl)
theorem dX2_init_2_92 : decode cX2_init_2 92 = .ok (.istore 8, 2) := dk_54 8 (dk_at dksX2_init_2_3 22 rfl rfl)
theorem dX2_init_2_94 : decode cX2_init_2 94 = .ok (.iload 5, 2) := dk_21 5 (dk_at dksX2_init_2_4 0 rfl rfl)
theorem dX2_init_2_96 : decode cX2_init_2 96 = .ok (.iload 7, 2) := dk_21 7 (dk_at dksX2_init_2_4 2 rfl rfl)
theorem dX2_init_2_98 : decode cX2_init_2 98 = .ok (.ixor, 1) := dk_130 (dk_at dksX2_init_2_4 4 rfl rfl)
theorem dX2_init_2_99 : decode cX2_init_2 99 = .ok (.istore 9, 2) := dk_54 9 (dk_at dksX2_init_2_4 5 rfl rfl)
theorem dX2_init_2_101 : decode cX2_init_2 101 = .ok (.iload 9, 2) := dk_21 9 (dk_at dksX2_init_2_4 7 rfl rfl)
theorem dX2_init_2_103 : decode cX2_init_2 103 = .ok (.iload 9, 2) := dk_21 9 (dk_at dksX2_init_2_4 9 rfl rfl)
theorem dX2_init_2_105 : decode cX2_init_2 105 = .ok (.bipush 8, 2) := dk_16 8 (dk_at dksX2_init_2_4 11 rfl rfl)
theorem dX2_init_2_107 : decode cX2_init_2 107 = .ok (.invokestatic 38, 3) := dk_184 0 38 (dk_at dksX2_init_2_4 13 rfl rfl)
theorem dX2_init_2_110 : decode cX2_init_2 110 = .ok (.iload 9, 2) := dk_21 9 (dk_at dksX2_init_2_4 16 rfl rfl)
theorem dX2_init_2_112 : decode cX2_init_2 112 = .ok (.bipush 24, 2) := dk_16 24 (dk_at dksX2_init_2_4 18 rfl rfl)
theorem dX2_init_2_114 : decode cX2_init_2 114 = .ok (.invokestatic 38, 3) := dk_184 0 38 (dk_at dksX2_init_2_4 20 rfl rfl)
theorem dX2_init_2_117 : decode cX2_init_2 117 = .ok (.ixor, 1) := dk_130 (dk_at dksX2_init_2_4 23 rfl rfl)
theorem dX2_init_2_118 : decode cX2_init_2 118 = .ok (.ixor, 1) := dk_130 (dk_at dksX2_init_2_5 0 rfl rfl)
theorem dX2_init_2_119 : decode cX2_init_2 119 = .ok (.istore 9, 2) := dk_54 9 (dk_at dksX2_init_2_5 1 rfl rfl)
theorem dX2_init_2_121 : decode cX2_init_2 121 = .ok (.iload 6, 2) := dk_21 6 (dk_at dksX2_init_2_5 3 rfl rfl)
theorem dX2_init_2_123 : decode cX2_init_2 123 = .ok (.iload 8, 2) := dk_21 8 (dk_at dksX2_init_2_5 5 rfl rfl)
theorem dX2_init_2_125 : decode cX2_init_2 125 = .ok (.ixor, 1) := dk_130 (dk_at dksX2_init_2_5 7 rfl rfl)
theorem dX2_init_2_126 : decode cX2_init_2 126 = .ok (.istore 10, 2) := dk_54 10 (dk_at dksX2_init_2_5 8 rfl rfl)
theorem dX2_init_2_128 : decode cX2_init_2 128 = .ok (.iload 10, 2) := dk_21 10 (dk_at dksX2_init_2_5 10 rfl rfl)
theorem dX2_init_2_130 : decode cX2_init_2 130 = .ok (.iload 10, 2) := dk_21 10 (dk_at dksX2_init_2_5 12 rfl rfl)
theorem dX2_init_2_132 : decode cX2_init_2 132 = .ok (.bipush 8, 2) := dk_16 8 (dk_at dksX2_init_2_5 14 rfl rfl)
theorem dX2_init_2_134 : decode cX2_init_2 134 = .ok (.invokestatic 38, 3) := dk_184 0 38 (dk_at dksX2_init_2_5 16 rfl rfl)
theorem dX2_init_2_137 : decode cX2_init_2 137 = .ok (.iload 10, 2) := dk_21 10 (dk_at dksX2_init_2_5 19 rfl rfl)
theorem dX2_init_2_139 : decode cX2_init_2 139 = .ok (.bipush 24, 2) := dk_16 24 (dk_at dksX2_init_2_5 21 rfl rfl)
theorem dX2_init_2_141 : decode cX2_init_2 141 = .ok (.invokestatic 38, 3) := dk_184 0 38 (dk_at dksX2_init_2_6 0 rfl rfl)
theorem dX2_init_2_144 : decode cX2_init_2 144 = .ok (.ixor, 1) := dk_130 (dk_at dksX2_init_2_6 3 rfl rfl)
theorem dX2_init_2_145 : decode cX2_init_2 145 = .ok (.ixor, 1) := dk_130 (dk_at dksX2_init_2_6 4 rfl rfl)
theorem dX2_init_2_146 : decode cX2_init_2 146 = .ok (.istore 10, 2) := dk_54 10 (dk_at dksX2_init_2_6 5 rfl rfl)
theorem dX2_init_2_148 : decode cX2_init_2 148 = .ok (.iload 5, 2) := dk_21 5 (dk_at dksX2_init_2_6 7 rfl rfl)
theorem dX2_init_2_150 : decode cX2_init_2 150 = .ok (.iload 10, 2) := dk_21 10 (dk_at dksX2_init_2_6 9 rfl rfl)
theorem dX2_init_2_152 : decode cX2_init_2 152 = .ok (.ixor, 1) := dk_130 (dk_at dksX2_init_2_6 11 rfl rfl)
theorem dX2_init_2_153 : decode cX2_init_2 153 = .ok (.istore 5, 2) := dk_54 5 (dk_at dksX2_init_2_6 12 rfl rfl)
theorem dX2_init_2_155 : decode cX2_init_2 155 = .ok (.iload 6, 2) := dk_21 6 (dk_at dksX2_init_2_6 14 rfl rfl)
theorem dX2_init_2_157 : decode cX2_init_2 157 = .ok (.iload 9, 2) := dk_21 9 (dk_at dksX2_init_2_6 16 rfl rfl)
theorem dX2_init_2_159 : decode cX2_init_2 159 = .ok (.ixor, 1) := dk_130 (dk_at dksX2_init_2_6 18 rfl rfl)
theorem dX2_init_2_160 : decode cX2_init_2 160 = .ok (.istore 6, 2) := dk_54 6 (dk_at dksX2_init_2_6 19 rfl rfl)
theorem dX2_init_2_162 : decode cX2_init_2 162 = .ok (.iload 7, 2) := dk_21 7 (dk_at dksX2_init_2_6 21 rfl rfl)
theorem dX2_init_2_164 : decode cX2_init_2 164 = .ok (.iload 10, 2) := dk_21 10 (dk_at dksX2_init_2_7 0 rfl rfl)
theorem dX2_init_2_166 : decode cX2_init_2 166 = .ok (.ixor, 1) := dk_130 (dk_at dksX2_init_2_7 2 rfl rfl)
theorem dX2_init_2_167 : decode cX2_init_2 167 = .ok (.istore 7, 2) := dk_54 7 (dk_at dksX2_init_2_7 3 rfl rfl)
theorem dX2_init_2_169 : decode cX2_init_2 169 = .ok (.iload 8, 2) := dk_21 8 (dk_at dksX2_init_2_7 5 rfl rfl)
theorem dX2_init_2_171 : decode cX2_init_2 171 = .ok (.iload 9, 2) := dk_21 9 (dk_at dksX2_init_2_7 7 rfl rfl)
theorem dX2_init_2_173 : decode cX2_init_2 173 = .ok (.ixor, 1) := dk_130 (dk_at dksX2_init_2_7 9 rfl rfl)
theorem dX2_init_2_174 : decode cX2_init_2 174 = .ok (.istore 8, 2) := dk_54 8 (dk_at dksX2_init_2_7 10 rfl rfl)
theorem dX2_init_2_176 : decode cX2_init_2 176 = .ok (.aload_n 0, 1) := dk_42 (dk_at dksX2_init_2_7 12 rfl rfl)
theorem dX2_init_2_177 : decode cX2_init_2 177 = .ok (.getfield 7, 3) := dk_180 0 7 (dk_at dksX2_init_2_7 13 rfl rfl)
theorem dX2_init_2_180 : decode cX2_init_2 180 = .ok (.iconst 0, 1) := dk_3 (dk_at dksX2_init_2_7 16 rfl rfl)
theorem dX2_init_2_181 : decode cX2_init_2 181 = .ok (.iload 5, 2) := dk_21 5 (dk_at dksX2_init_2_7 17 rfl rfl)
theorem dX2_init_2_183 : decode cX2_init_2 183 = .ok (.iastore, 1) := dk_79 (dk_at dksX2_init_2_7 19 rfl rfl)
theorem dX2_init_2_184 : decode cX2_init_2 184 = .ok (.aload_n 0, 1) := dk_42 (dk_at dksX2_init_2_7 20 rfl rfl)
theorem dX2_init_2_185 : decode cX2_init_2 185 = .ok (.getfield 7, 3) := dk_180 0 7 (dk_at dksX2_init_2_7 21 rfl rfl)
theorem dX2_init_2_188 : decode cX2_init_2 188 = .ok (.iconst 1, 1) := dk_4 (dk_at dksX2_init_2_8 0 rfl rfl)
theorem dX2_init_2_189 : decode cX2_init_2 189 = .ok (.iload 6, 2) := dk_21 6 (dk_at dksX2_init_2_8 1 rfl rfl)
theorem dX2_init_2_191 : decode cX2_init_2 191 = .ok (.iastore, 1) := dk_79 (dk_at dksX2_init_2_8 3 rfl rfl)
theorem dX2_init_2_192 : decode cX2_init_2 192 = .ok (.aload_n 0, 1) := dk_42 (dk_at dksX2_init_2_8 4 rfl rfl)
theorem dX2_init_2_193 : decode cX2_init_2 193 = .ok (.getfield 7, 3) := dk_180 0 7 (dk_at dksX2_init_2_8 5 rfl rfl)
theorem dX2_init_2_196 : decode cX2_init_2 196 = .ok (.iconst 2, 1) := dk_5 (dk_at dksX2_init_2_8 8 rfl rfl)
theorem dX2_init_2_197 : decode cX2_init_2 197 = .ok (.iload 7, 2) := dk_21 7 (dk_at dksX2_init_2_8 9 rfl rfl)
theorem dX2_init_2_199 : decode cX2_init_2 199 = .ok (.iastore, 1) := dk_79 (dk_at dksX2_init_2_8 11 rfl rfl)
theorem dX2_init_2_200 : decode cX2_init_2 200 = .ok (.aload_n 0, 1) := dk_42 (dk_at dksX2_init_2_8 12 rfl rfl)
theorem dX2_init_2_201 : decode cX2_init_2 201 = .ok (.getfield 7, 3) := dk_180 0 7 (dk_at dksX2_init_2_8 13 rfl rfl)
theorem dX2_init_2_204 : decode cX2_init_2 204 = .ok (.iconst 3, 1) := dk_6 (dk_at dksX2_init_2_8 16 rfl rfl)
theorem dX2_init_2_205 : decode cX2_init_2 205 = .ok (.iload 8, 2) := dk_21 8 (dk_at dksX2_init_2_8 17 rfl rfl)
theorem dX2_init_2_207 : decode cX2_init_2 207 = .ok (.iastore, 1) := dk_79 (dk_at dksX2_init_2_8 19 rfl rfl)
theorem dX2_init_2_208 : decode cX2_init_2 208 = .ok (.aload_n 0, 1) := dk_42 (dk_at dksX2_init_2_8 20 rfl rfl)
theorem dX2_init_2_209 : decode cX2_init_2 209 = .ok (.iload_n 1, 1) := dk_27 (dk_at dksX2_init_2_8 21 rfl rfl)
theorem dX2_init_2_210 : decode cX2_init_2 210 = .ok (.putfield 44, 3) := dk_181 0 44 (dk_at dksX2_init_2_9 0 rfl rfl)
theorem dX2_init_2_213 : decode cX2_init_2 213 = .ok (.aload_n 0, 1) := dk_42 (dk_at dksX2_init_2_9 3 rfl rfl)
theorem dX2_init_2_214 : decode cX2_init_2 214 = .ok (.iconst 1, 1) := dk_4 (dk_at dksX2_init_2_9 4 rfl rfl)
theorem dX2_init_2_215 : decode cX2_init_2 215 = .ok (.putfield 13, 3) := dk_181 0 13 (dk_at dksX2_init_2_9 5 rfl rfl)
theorem dX2_init_2_218 : decode cX2_init_2 218 = .ok (.return_, 1) := dk_177 (dk_at dksX2_init_2_9 8 rfl rfl)
abbrev cX2_processBlock : ByteArray := prog_8_method_3_code
def yX2_processBlock : MethodName := ⟨RX2, "processBlock", "([BI[BI)I"⟩
def dkwX2_processBlock_3 : List UInt8 := [182, 0, 60, 167, 0, 12, 42, 43, 28, 45, 21, 4, 182, 0, 64, 172]
abbrev dktX2_processBlock_3 : List UInt8 := dkwX2_processBlock_3 ++ []
def dkwX2_processBlock_2 : List UInt8 := [187, 0, 55, 89, 18, 57, 183, 0, 59, 191, 42, 180, 0, 44, 153, 0, 15, 42, 43, 28, 45, 21, 4]
abbrev dktX2_processBlock_2 : List UInt8 := dkwX2_processBlock_2 ++ dktX2_processBlock_3
def dkwX2_processBlock_1 : List UInt8 := [164, 0, 13, 187, 0, 50, 89, 18, 52, 183, 0, 54, 191, 21, 4, 45, 190, 16, 16, 100, 164, 0, 13]
abbrev dktX2_processBlock_1 : List UInt8 := dkwX2_processBlock_1 ++ dktX2_processBlock_2
def dkwX2_processBlock_0 : List UInt8 := [42, 180, 0, 13, 154, 0, 13, 187, 0, 47, 89, 18, 21, 183, 0, 49, 191, 28, 43, 190, 16, 16, 100]
abbrev dktX2_processBlock_0 : List UInt8 := dkwX2_processBlock_0 ++ dktX2_processBlock_1
theorem dksX2_processBlock_0 : cX2_processBlock.data.toList.drop 0 = dktX2_processBlock_0 := by decide +kernel
theorem dksX2_processBlock_1 : cX2_processBlock.data.toList.drop 23 = dktX2_processBlock_1 := dk_seg dksX2_processBlock_0 23 rfl rfl
theorem dksX2_processBlock_2 : cX2_processBlock.data.toList.drop 46 = dktX2_processBlock_2 := dk_seg dksX2_processBlock_1 23 rfl rfl
theorem dksX2_processBlock_3 : cX2_processBlock.data.toList.drop 69 = dktX2_processBlock_3 := dk_seg dksX2_processBlock_2 23 rfl rfl
theorem dX2_processBlock_0 : decode cX2_processBlock 0 = .ok (.aload_n 0, 1) := dk_42 (dk_at dksX2_processBlock_0 0 rfl rfl)
theorem dX2_processBlock_1 : decode cX2_processBlock 1 = .ok (.getfield 13, 3) := dk_180 0 13 (dk_at dksX2_processBlock_0 1 rfl rfl)
theorem dX2_processBlock_4 : decode cX2_processBlock 4 = .ok (.ifCond .ne 13, 3) := dk_154 0 13 (dk_at dksX2_processBlock_0 4 rfl rfl)
theorem dX2_processBlock_7 : decode cX2_processBlock 7 = .ok (.new 47, 3) := dk_187 0 47 (dk_at dksX2_processBlock_0 7 rfl rfl)
theorem dX2_processBlock_10 : decode cX2_processBlock 10 = .ok (.dup, 1) := dk_89 (dk_at dksX2_processBlock_0 10 rfl rfl)
theorem dX2_processBlock_11 : decode cX2_processBlock 11 = .ok (.ldc 21, 2) := dk_18 21 (dk_at dksX2_processBlock_0 11 rfl rfl)
theorem dX2_processBlock_13 : decode cX2_processBlock 13 = .ok (.invokespecial 49, 3) := dk_183 0 49 (dk_at dksX2_processBlock_0 13 rfl rfl)
theorem dX2_processBlock_16 : decode cX2_processBlock 16 = .ok (.athrow, 1) := dk_191 (dk_at dksX2_processBlock_0 16 rfl rfl)
theorem dX2_processBlock_17 : decode cX2_processBlock 17 = .ok (.iload_n 2, 1) := dk_28 (dk_at dksX2_processBlock_0 17 rfl rfl)
theorem dX2_processBlock_18 : decode cX2_processBlock 18 = .ok (.aload_n 1, 1) := dk_43 (dk_at dksX2_processBlock_0 18 rfl rfl)
theorem dX2_processBlock_19 : decode cX2_processBlock 19 = .ok (.arraylength, 1) := dk_190 (dk_at dksX2_processBlock_0 19 rfl rfl)
theorem dX2_processBlock_20 : decode cX2_processBlock 20 = .ok (.bipush 16, 2) := dk_16 16 (dk_at dksX2_processBlock_0 20 rfl rfl)
theorem dX2_processBlock_22 : decode cX2_processBlock 22 = .ok (.isub, 1) := dk_100 (dk_at dksX2_processBlock_0 22 rfl rfl)
theorem dX2_processBlock_23 : decode cX2_processBlock 23 = .ok (.if_icmp .le 13, 3) := dk_164 0 13 (dk_at dksX2_processBlock_1 0 rfl rfl)
theorem dX2_processBlock_26 : decode cX2_processBlock 26 = .ok (.new 50, 3) := dk_187 0 50 (dk_at dksX2_processBlock_1 3 rfl rfl)
theorem dX2_processBlock_29 : decode cX2_processBlock 29 = .ok (.dup, 1) := dk_89 (dk_at dksX2_processBlock_1 6 rfl rfl)
theorem dX2_processBlock_30 : decode cX2_processBlock 30 = .ok (.ldc 52, 2) := dk_18 52 (dk_at dksX2_processBlock_1 7 rfl rfl)
theorem dX2_processBlock_32 : decode cX2_processBlock 32 = .ok (.invokespecial 54, 3) := dk_183 0 54 (dk_at dksX2_processBlock_1 9 rfl rfl)
theorem dX2_processBlock_35 : decode cX2_processBlock 35 = .ok (.athrow, 1) := dk_191 (dk_at dksX2_processBlock_1 12 rfl rfl)
theorem dX2_processBlock_36 : decode cX2_processBlock 36 = .ok (.iload 4, 2) := dk_21 4 (dk_at dksX2_processBlock_1 13 rfl rfl)
theorem dX2_processBlock_38 : decode cX2_processBlock 38 = .ok (.aload_n 3, 1) := dk_45 (dk_at dksX2_processBlock_1 15 rfl rfl)
theorem dX2_processBlock_39 : decode cX2_processBlock 39 = .ok (.arraylength, 1) := dk_190 (dk_at dksX2_processBlock_1 16 rfl rfl)
theorem dX2_processBlock_40 : decode cX2_processBlock 40 = .ok (.bipush 16, 2) := dk_16 16 (dk_at dksX2_processBlock_1 17 rfl rfl)
theorem dX2_processBlock_42 : decode cX2_processBlock 42 = .ok (.isub, 1) := dk_100 (dk_at dksX2_processBlock_1 19 rfl rfl)
theorem dX2_processBlock_43 : decode cX2_processBlock 43 = .ok (.if_icmp .le 13, 3) := dk_164 0 13 (dk_at dksX2_processBlock_1 20 rfl rfl)
theorem dX2_processBlock_46 : decode cX2_processBlock 46 = .ok (.new 55, 3) := dk_187 0 55 (dk_at dksX2_processBlock_2 0 rfl rfl)
theorem dX2_processBlock_49 : decode cX2_processBlock 49 = .ok (.dup, 1) := dk_89 (dk_at dksX2_processBlock_2 3 rfl rfl)
theorem dX2_processBlock_50 : decode cX2_processBlock 50 = .ok (.ldc 57, 2) := dk_18 57 (dk_at dksX2_processBlock_2 4 rfl rfl)
theorem dX2_processBlock_52 : decode cX2_processBlock 52 = .ok (.invokespecial 59, 3) := dk_183 0 59 (dk_at dksX2_processBlock_2 6 rfl rfl)
theorem dX2_processBlock_55 : decode cX2_processBlock 55 = .ok (.athrow, 1) := dk_191 (dk_at dksX2_processBlock_2 9 rfl rfl)
theorem dX2_processBlock_56 : decode cX2_processBlock 56 = .ok (.aload_n 0, 1) := dk_42 (dk_at dksX2_processBlock_2 10 rfl rfl)
theorem dX2_processBlock_57 : decode cX2_processBlock 57 = .ok (.getfield 44, 3) := dk_180 0 44 (dk_at dksX2_processBlock_2 11 rfl rfl)
theorem dX2_processBlock_60 : decode cX2_processBlock 60 = .ok (.ifCond .eq 15, 3) := dk_153 0 15 (dk_at dksX2_processBlock_2 14 rfl rfl)
theorem dX2_processBlock_63 : decode cX2_processBlock 63 = .ok (.aload_n 0, 1) := dk_42 (dk_at dksX2_processBlock_2 17 rfl rfl)
theorem dX2_processBlock_64 : decode cX2_processBlock 64 = .ok (.aload_n 1, 1) := dk_43 (dk_at dksX2_processBlock_2 18 rfl rfl)
theorem dX2_processBlock_65 : decode cX2_processBlock 65 = .ok (.iload_n 2, 1) := dk_28 (dk_at dksX2_processBlock_2 19 rfl rfl)
theorem dX2_processBlock_66 : decode cX2_processBlock 66 = .ok (.aload_n 3, 1) := dk_45 (dk_at dksX2_processBlock_2 20 rfl rfl)
theorem dX2_processBlock_67 : decode cX2_processBlock 67 = .ok (.iload 4, 2) := dk_21 4 (dk_at dksX2_processBlock_2 21 rfl rfl)
theorem dX2_processBlock_69 : decode cX2_processBlock 69 = .ok (.invokevirtual 60, 3) := dk_182 0 60 (dk_at dksX2_processBlock_3 0 rfl rfl)
theorem dX2_processBlock_72 : decode cX2_processBlock 72 = .ok (.goto 12, 3) := dk_167 0 12 (dk_at dksX2_processBlock_3 3 rfl rfl)
theorem dX2_processBlock_75 : decode cX2_processBlock 75 = .ok (.aload_n 0, 1) := dk_42 (dk_at dksX2_processBlock_3 6 rfl rfl)
theorem dX2_processBlock_76 : decode cX2_processBlock 76 = .ok (.aload_n 1, 1) := dk_43 (dk_at dksX2_processBlock_3 7 rfl rfl)
theorem dX2_processBlock_77 : decode cX2_processBlock 77 = .ok (.iload_n 2, 1) := dk_28 (dk_at dksX2_processBlock_3 8 rfl rfl)
theorem dX2_processBlock_78 : decode cX2_processBlock 78 = .ok (.aload_n 3, 1) := dk_45 (dk_at dksX2_processBlock_3 9 rfl rfl)
theorem dX2_processBlock_79 : decode cX2_processBlock 79 = .ok (.iload 4, 2) := dk_21 4 (dk_at dksX2_processBlock_3 10 rfl rfl)
theorem dX2_processBlock_81 : decode cX2_processBlock 81 = .ok (.invokevirtual 64, 3) := dk_182 0 64 (dk_at dksX2_processBlock_3 12 rfl rfl)
theorem dX2_processBlock_84 : decode cX2_processBlock 84 = .ok (.ireturn, 1) := dk_172 (dk_at dksX2_processBlock_3 15 rfl rfl)
abbrev cX2_encryptBlock : ByteArray := prog_8_method_4_code
def yX2_encryptBlock : MethodName := ⟨RX2, "encryptBlock", "([BI[BI)I"⟩
def dkwX2_encryptBlock_15 : List UInt8 := [21, 8, 45, 21, 4, 16, 12, 96, 184, 0, 74, 16, 16, 172]
abbrev dktX2_encryptBlock_15 : List UInt8 := dkwX2_encryptBlock_15 ++ []
def dkwX2_encryptBlock_14 : List UInt8 := [184, 0, 74, 21, 6, 45, 21, 4, 7, 96, 184, 0, 74, 21, 7, 45, 21, 4, 16, 8, 96, 184, 0, 74]
abbrev dktX2_encryptBlock_14 : List UInt8 := dkwX2_encryptBlock_14 ++ dktX2_encryptBlock_15
def dkwX2_encryptBlock_13 : List UInt8 := [16, 27, 184, 0, 38, 54, 7, 21, 8, 16, 30, 184, 0, 38, 54, 8, 167, 255, 6, 21, 5, 45, 21, 4]
abbrev dktX2_encryptBlock_13 : List UInt8 := dkwX2_encryptBlock_13 ++ dktX2_encryptBlock_14
def dkwX2_encryptBlock_12 : List UInt8 := [54, 6, 21, 14, 21, 7, 21, 6, 126, 130, 54, 5, 21, 6, 16, 31, 184, 0, 38, 54, 6, 21, 7]
abbrev dktX2_encryptBlock_12 : List UInt8 := dkwX2_encryptBlock_12 ++ dktX2_encryptBlock_13
def dkwX2_encryptBlock_11 : List UInt8 := [21, 14, 21, 6, 2, 130, 130, 21, 7, 130, 21, 8, 130, 54, 7, 21, 6, 21, 8, 21, 7, 128, 130]
abbrev dktX2_encryptBlock_11 : List UInt8 := dkwX2_encryptBlock_11 ++ dktX2_encryptBlock_12
def dkwX2_encryptBlock_10 : List UInt8 := [54, 14, 21, 6, 21, 8, 21, 7, 128, 130, 54, 6, 21, 5, 21, 7, 21, 6, 2, 130, 126, 130, 54, 8]
abbrev dktX2_encryptBlock_10 : List UInt8 := dkwX2_encryptBlock_10 ++ dktX2_encryptBlock_11
def dkwX2_encryptBlock_9 : List UInt8 := [184, 0, 38, 54, 6, 21, 7, 8, 184, 0, 38, 54, 7, 21, 8, 5, 184, 0, 38, 54, 8, 21, 8]
abbrev dktX2_encryptBlock_9 : List UInt8 := dkwX2_encryptBlock_9 ++ dktX2_encryptBlock_10
def dkwX2_encryptBlock_8 : List UInt8 := [21, 8, 21, 14, 130, 54, 8, 132, 13, 1, 21, 13, 16, 16, 164, 0, 6, 167, 0, 118, 21, 6, 4]
abbrev dktX2_encryptBlock_8 : List UInt8 := dkwX2_encryptBlock_8 ++ dktX2_encryptBlock_9
def dkwX2_encryptBlock_7 : List UInt8 := [130, 54, 15, 21, 5, 21, 15, 130, 54, 5, 21, 6, 21, 14, 130, 54, 6, 21, 7, 21, 15, 130, 54, 7]
abbrev dktX2_encryptBlock_7 : List UInt8 := dkwX2_encryptBlock_7 ++ dktX2_encryptBlock_8
def dkwX2_encryptBlock_6 : List UInt8 := [21, 6, 21, 8, 130, 54, 15, 21, 15, 21, 15, 16, 8, 184, 0, 38, 21, 15, 16, 24, 184, 0, 38, 130]
abbrev dktX2_encryptBlock_6 : List UInt8 := dkwX2_encryptBlock_6 ++ dktX2_encryptBlock_7
def dkwX2_encryptBlock_5 : List UInt8 := [54, 5, 21, 6, 21, 10, 130, 54, 6, 21, 7, 21, 11, 130, 54, 7, 21, 8, 21, 12, 130, 54, 8]
abbrev dktX2_encryptBlock_5 : List UInt8 := dkwX2_encryptBlock_5 ++ dktX2_encryptBlock_6
def dkwX2_encryptBlock_4 : List UInt8 := [21, 14, 16, 8, 184, 0, 38, 21, 14, 16, 24, 184, 0, 38, 130, 130, 54, 14, 21, 5, 21, 9, 130]
abbrev dktX2_encryptBlock_4 : List UInt8 := dkwX2_encryptBlock_4 ++ dktX2_encryptBlock_5
def dkwX2_encryptBlock_3 : List UInt8 := [21, 5, 178, 0, 70, 21, 13, 51, 17, 0, 255, 126, 130, 54, 5, 21, 5, 21, 7, 130, 54, 14, 21, 14]
abbrev dktX2_encryptBlock_3 : List UInt8 := dkwX2_encryptBlock_3 ++ dktX2_encryptBlock_4
def dkwX2_encryptBlock_2 : List UInt8 := [4, 46, 54, 10, 42, 180, 0, 7, 5, 46, 54, 11, 42, 180, 0, 7, 6, 46, 54, 12, 3, 54, 13]
abbrev dktX2_encryptBlock_2 : List UInt8 := dkwX2_encryptBlock_2 ++ dktX2_encryptBlock_3
def dkwX2_encryptBlock_1 : List UInt8 := [54, 7, 43, 28, 16, 12, 96, 184, 0, 67, 54, 8, 42, 180, 0, 7, 3, 46, 54, 9, 42, 180, 0, 7]
abbrev dktX2_encryptBlock_1 : List UInt8 := dkwX2_encryptBlock_1 ++ dktX2_encryptBlock_2
def dkwX2_encryptBlock_0 : List UInt8 := [43, 28, 184, 0, 67, 54, 5, 43, 28, 7, 96, 184, 0, 67, 54, 6, 43, 28, 16, 8, 96, 184, 0, 67]
abbrev dktX2_encryptBlock_0 : List UInt8 := dkwX2_encryptBlock_0 ++ dktX2_encryptBlock_1
theorem dksX2_encryptBlock_0 : cX2_encryptBlock.data.toList.drop 0 = dktX2_encryptBlock_0 := by decide +kernel
theorem dksX2_encryptBlock_1 : cX2_encryptBlock.data.toList.drop 24 = dktX2_encryptBlock_1 := dk_seg dksX2_encryptBlock_0 24 rfl rfl
theorem dksX2_encryptBlock_2 : cX2_encryptBlock.data.toList.drop 48 = dktX2_encryptBlock_2 := dk_seg dksX2_encryptBlock_1 24 rfl rfl
theorem dksX2_encryptBlock_3 : cX2_encryptBlock.data.toList.drop 71 = dktX2_encryptBlock_3 := dk_seg dksX2_encryptBlock_2 23 rfl rfl
theorem dksX2_encryptBlock_4 : cX2_encryptBlock.data.toList.drop 95 = dktX2_encryptBlock_4 := dk_seg dksX2_encryptBlock_3 24 rfl rfl
theorem dksX2_encryptBlock_5 : cX2_encryptBlock.data.toList.drop 118 = dktX2_encryptBlock_5 := dk_seg dksX2_encryptBlock_4 23 rfl rfl
theorem dksX2_encryptBlock_6 : cX2_encryptBlock.data.toList.drop 141 = dktX2_encryptBlock_6 := dk_seg dksX2_encryptBlock_5 23 rfl rfl
theorem dksX2_encryptBlock_7 : cX2_encryptBlock.data.toList.drop 165 = dktX2_encryptBlock_7 := dk_seg dksX2_encryptBlock_6 24 rfl rfl
theorem dksX2_encryptBlock_8 : cX2_encryptBlock.data.toList.drop 189 = dktX2_encryptBlock_8 := dk_seg dksX2_encryptBlock_7 24 rfl rfl
theorem dksX2_encryptBlock_9 : cX2_encryptBlock.data.toList.drop 212 = dktX2_encryptBlock_9 := dk_seg dksX2_encryptBlock_8 23 rfl rfl
theorem dksX2_encryptBlock_10 : cX2_encryptBlock.data.toList.drop 235 = dktX2_encryptBlock_10 := dk_seg dksX2_encryptBlock_9 23 rfl rfl
theorem dksX2_encryptBlock_11 : cX2_encryptBlock.data.toList.drop 259 = dktX2_encryptBlock_11 := dk_seg dksX2_encryptBlock_10 24 rfl rfl
theorem dksX2_encryptBlock_12 : cX2_encryptBlock.data.toList.drop 282 = dktX2_encryptBlock_12 := dk_seg dksX2_encryptBlock_11 23 rfl rfl
theorem dksX2_encryptBlock_13 : cX2_encryptBlock.data.toList.drop 305 = dktX2_encryptBlock_13 := dk_seg dksX2_encryptBlock_12 23 rfl rfl
theorem dksX2_encryptBlock_14 : cX2_encryptBlock.data.toList.drop 329 = dktX2_encryptBlock_14 := dk_seg dksX2_encryptBlock_13 24 rfl rfl
theorem dksX2_encryptBlock_15 : cX2_encryptBlock.data.toList.drop 353 = dktX2_encryptBlock_15 := dk_seg dksX2_encryptBlock_14 24 rfl rfl
theorem dX2_encryptBlock_0 : decode cX2_encryptBlock 0 = .ok (.aload_n 1, 1) := dk_43 (dk_at dksX2_encryptBlock_0 0 rfl rfl)
theorem dX2_encryptBlock_1 : decode cX2_encryptBlock 1 = .ok (.iload_n 2, 1) := dk_28 (dk_at dksX2_encryptBlock_0 1 rfl rfl)
theorem dX2_encryptBlock_2 : decode cX2_encryptBlock 2 = .ok (.invokestatic 67, 3) := dk_184 0 67 (dk_at dksX2_encryptBlock_0 2 rfl rfl)
theorem dX2_encryptBlock_5 : decode cX2_encryptBlock 5 = .ok (.istore 5, 2) := dk_54 5 (dk_at dksX2_encryptBlock_0 5 rfl rfl)
theorem dX2_encryptBlock_7 : decode cX2_encryptBlock 7 = .ok (.aload_n 1, 1) := dk_43 (dk_at dksX2_encryptBlock_0 7 rfl rfl)
theorem dX2_encryptBlock_8 : decode cX2_encryptBlock 8 = .ok (.iload_n 2, 1) := dk_28 (dk_at dksX2_encryptBlock_0 8 rfl rfl)
theorem dX2_encryptBlock_9 : decode cX2_encryptBlock 9 = .ok (.iconst 4, 1) := dk_7 (dk_at dksX2_encryptBlock_0 9 rfl rfl)
theorem dX2_encryptBlock_10 : decode cX2_encryptBlock 10 = .ok (.iadd, 1) := dk_96 (dk_at dksX2_encryptBlock_0 10 rfl rfl)
theorem dX2_encryptBlock_11 : decode cX2_encryptBlock 11 = .ok (.invokestatic 67, 3) := dk_184 0 67 (dk_at dksX2_encryptBlock_0 11 rfl rfl)
theorem dX2_encryptBlock_14 : decode cX2_encryptBlock 14 = .ok (.istore 6, 2) := dk_54 6 (dk_at dksX2_encryptBlock_0 14 rfl rfl)
theorem dX2_encryptBlock_16 : decode cX2_encryptBlock 16 = .ok (.aload_n 1, 1) := dk_43 (dk_at dksX2_encryptBlock_0 16 rfl rfl)
theorem dX2_encryptBlock_17 : decode cX2_encryptBlock 17 = .ok (.iload_n 2, 1) := dk_28 (dk_at dksX2_encryptBlock_0 17 rfl rfl)
theorem dX2_encryptBlock_18 : decode cX2_encryptBlock 18 = .ok (.bipush 8, 2) := dk_16 8 (dk_at dksX2_encryptBlock_0 18 rfl rfl)
theorem dX2_encryptBlock_20 : decode cX2_encryptBlock 20 = .ok (.iadd, 1) := dk_96 (dk_at dksX2_encryptBlock_0 20 rfl rfl)
theorem dX2_encryptBlock_21 : decode cX2_encryptBlock 21 = .ok (.invokestatic 67, 3) := dk_184 0 67 (dk_at dksX2_encryptBlock_0 21 rfl rfl)
theorem dX2_encryptBlock_24 : decode cX2_encryptBlock 24 = .ok (.istore 7, 2) := dk_54 7 (dk_at dksX2_encryptBlock_1 0 rfl rfl)
theorem dX2_encryptBlock_26 : decode cX2_encryptBlock 26 = .ok (.aload_n 1, 1) := dk_43 (dk_at dksX2_encryptBlock_1 2 rfl rfl)
theorem dX2_encryptBlock_27 : decode cX2_encryptBlock 27 = .ok (.iload_n 2, 1) := dk_28 (dk_at dksX2_encryptBlock_1 3 rfl rfl)
theorem dX2_encryptBlock_28 : decode cX2_encryptBlock 28 = .ok (.bipush 12, 2) := dk_16 12 (dk_at dksX2_encryptBlock_1 4 rfl rfl)
theorem dX2_encryptBlock_30 : decode cX2_encryptBlock 30 = .ok (.iadd, 1) := dk_96 (dk_at dksX2_encryptBlock_1 6 rfl rfl)
theorem dX2_encryptBlock_31 : decode cX2_encryptBlock 31 = .ok (.invokestatic 67, 3) := dk_184 0 67 (dk_at dksX2_encryptBlock_1 7 rfl rfl)
theorem dX2_encryptBlock_34 : decode cX2_encryptBlock 34 = .ok (.istore 8, 2) := dk_54 8 (dk_at dksX2_encryptBlock_1 10 rfl rfl)
theorem dX2_encryptBlock_36 : decode cX2_encryptBlock 36 = .ok (.aload_n 0, 1) := dk_42 (dk_at dksX2_encryptBlock_1 12 rfl rfl)
theorem dX2_encryptBlock_37 : decode cX2_encryptBlock 37 = .ok (.getfield 7, 3) := dk_180 0 7 (dk_at dksX2_encryptBlock_1 13 rfl rfl)
theorem dX2_encryptBlock_40 : decode cX2_encryptBlock 40 = .ok (.iconst 0, 1) := dk_3 (dk_at dksX2_encryptBlock_1 16 rfl rfl)
theorem dX2_encryptBlock_41 : decode cX2_encryptBlock 41 = .ok (.iaload, 1) := dk_46 (dk_at dksX2_encryptBlock_1 17 rfl rfl)
theorem dX2_encryptBlock_42 : decode cX2_encryptBlock 42 = .ok (.istore 9, 2) := dk_54 9 (dk_at dksX2_encryptBlock_1 18 rfl rfl)
theorem dX2_encryptBlock_44 : decode cX2_encryptBlock 44 = .ok (.aload_n 0, 1) := dk_42 (dk_at dksX2_encryptBlock_1 20 rfl rfl)
theorem dX2_encryptBlock_45 : decode cX2_encryptBlock 45 = .ok (.getfield 7, 3) := dk_180 0 7 (dk_at dksX2_encryptBlock_1 21 rfl rfl)
theorem dX2_encryptBlock_48 : decode cX2_encryptBlock 48 = .ok (.iconst 1, 1) := dk_4 (dk_at dksX2_encryptBlock_2 0 rfl rfl)
theorem dX2_encryptBlock_49 : decode cX2_encryptBlock 49 = .ok (.iaload, 1) := dk_46 (dk_at dksX2_encryptBlock_2 1 rfl rfl)
theorem dX2_encryptBlock_50 : decode cX2_encryptBlock 50 = .ok (.istore 10, 2) := dk_54 10 (dk_at dksX2_encryptBlock_2 2 rfl rfl)
theorem dX2_encryptBlock_52 : decode cX2_encryptBlock 52 = .ok (.aload_n 0, 1) := dk_42 (dk_at dksX2_encryptBlock_2 4 rfl rfl)
theorem dX2_encryptBlock_53 : decode cX2_encryptBlock 53 = .ok (.getfield 7, 3) := dk_180 0 7 (dk_at dksX2_encryptBlock_2 5 rfl rfl)
theorem dX2_encryptBlock_56 : decode cX2_encryptBlock 56 = .ok (.iconst 2, 1) := dk_5 (dk_at dksX2_encryptBlock_2 8 rfl rfl)
theorem dX2_encryptBlock_57 : decode cX2_encryptBlock 57 = .ok (.iaload, 1) := dk_46 (dk_at dksX2_encryptBlock_2 9 rfl rfl)
theorem dX2_encryptBlock_58 : decode cX2_encryptBlock 58 = .ok (.istore 11, 2) := dk_54 11 (dk_at dksX2_encryptBlock_2 10 rfl rfl)
theorem dX2_encryptBlock_60 : decode cX2_encryptBlock 60 = .ok (.aload_n 0, 1) := dk_42 (dk_at dksX2_encryptBlock_2 12 rfl rfl)
theorem dX2_encryptBlock_61 : decode cX2_encryptBlock 61 = .ok (.getfield 7, 3) := dk_180 0 7 (dk_at dksX2_encryptBlock_2 13 rfl rfl)
theorem dX2_encryptBlock_64 : decode cX2_encryptBlock 64 = .ok (.iconst 3, 1) := dk_6 (dk_at dksX2_encryptBlock_2 16 rfl rfl)
theorem dX2_encryptBlock_65 : decode cX2_encryptBlock 65 = .ok (.iaload, 1) := dk_46 (dk_at dksX2_encryptBlock_2 17 rfl rfl)
theorem dX2_encryptBlock_66 : decode cX2_encryptBlock 66 = .ok (.istore 12, 2) := dk_54 12 (dk_at dksX2_encryptBlock_2 18 rfl rfl)
theorem dX2_encryptBlock_68 : decode cX2_encryptBlock 68 = .ok (.iconst 0, 1) := dk_3 (dk_at dksX2_encryptBlock_2 20 rfl rfl)
theorem dX2_encryptBlock_69 : decode cX2_encryptBlock 69 = .ok (.istore 13, 2) := dk_54 13 (dk_at dksX2_encryptBlock_2 21 rfl rfl)
theorem dX2_encryptBlock_71 : decode cX2_encryptBlock 71 = .ok (.iload 5, 2) := dk_21 5 (dk_at dksX2_encryptBlock_3 0 rfl rfl)
theorem dX2_encryptBlock_73 : decode cX2_encryptBlock 73 = .ok (.getstatic 70, 3) := dk_178 0 70 (dk_at dksX2_encryptBlock_3 2 rfl rfl)
theorem dX2_encryptBlock_76 : decode cX2_encryptBlock 76 = .ok (.iload 13, 2) := dk_21 13 (dk_at dksX2_encryptBlock_3 5 rfl rfl)
theorem dX2_encryptBlock_78 : decode cX2_encryptBlock 78 = .ok (.baload, 1) := dk_51 (dk_at dksX2_encryptBlock_3 7 rfl rfl)
theorem dX2_encryptBlock_79 : decode cX2_encryptBlock 79 = .ok (.sipush 255, 3) := dk_17 0 255 (dk_at dksX2_encryptBlock_3 8 rfl rfl)
theorem dX2_encryptBlock_82 : decode cX2_encryptBlock 82 = .ok (.iand, 1) := dk_126 (dk_at dksX2_encryptBlock_3 11 rfl rfl)
theorem dX2_encryptBlock_83 : decode cX2_encryptBlock 83 = .ok (.ixor, 1) := dk_130 (dk_at dksX2_encryptBlock_3 12 rfl rfl)
theorem dX2_encryptBlock_84 : decode cX2_encryptBlock 84 = .ok (.istore 5, 2) := dk_54 5 (dk_at dksX2_encryptBlock_3 13 rfl rfl)
theorem dX2_encryptBlock_86 : decode cX2_encryptBlock 86 = .ok (.iload 5, 2) := dk_21 5 (dk_at dksX2_encryptBlock_3 15 rfl rfl)
theorem dX2_encryptBlock_88 : decode cX2_encryptBlock 88 = .ok (.iload 7, 2) := dk_21 7 (dk_at dksX2_encryptBlock_3 17 rfl rfl)
theorem dX2_encryptBlock_90 : decode cX2_encryptBlock 90 = .ok (.ixor, 1) := dk_130 (dk_at dksX2_encryptBlock_3 19 rfl rfl)
theorem dX2_encryptBlock_91 : decode cX2_encryptBlock 91 = .ok (.istore 14, 2) := dk_54 14 (dk_at dksX2_encryptBlock_3 20 rfl rfl)
theorem dX2_encryptBlock_93 : decode cX2_encryptBlock 93 = .ok (.iload 14, 2) := dk_21 14 (dk_at dksX2_encryptBlock_3 22 rfl rfl)
theorem dX2_encryptBlock_95 : decode cX2_encryptBlock 95 = .ok (.iload 14, 2) := dk_21 14 (dk_at dksX2_encryptBlock_4 0 rfl rfl)
theorem dX2_encryptBlock_97 : decode cX2_encryptBlock 97 = .ok (.bipush 8, 2) := dk_16 8 (dk_at dksX2_encryptBlock_4 2 rfl rfl)
theorem dX2_encryptBlock_99 : decode cX2_encryptBlock 99 = .ok (.invokestatic 38, 3) := dk_184 0 38 (dk_at dksX2_encryptBlock_4 4 rfl rfl)
theorem dX2_encryptBlock_102 : decode cX2_encryptBlock 102 = .ok (.iload 14, 2) := dk_21 14 (dk_at dksX2_encryptBlock_4 7 rfl rfl)
theorem dX2_encryptBlock_104 : decode cX2_encryptBlock 104 = .ok (.bipush 24, 2) := dk_16 24 (dk_at dksX2_encryptBlock_4 9 rfl rfl)
theorem dX2_encryptBlock_106 : decode cX2_encryptBlock 106 = .ok (.invokestatic 38, 3) := dk_184 0 38 (dk_at dksX2_encryptBlock_4 11 rfl rfl)
theorem dX2_encryptBlock_109 : decode cX2_encryptBlock 109 = .ok (.ixor, 1) := dk_130 (dk_at dksX2_encryptBlock_4 14 rfl rfl)
theorem dX2_encryptBlock_110 : decode cX2_encryptBlock 110 = .ok (.ixor, 1) := dk_130 (dk_at dksX2_encryptBlock_4 15 rfl rfl)
theorem dX2_encryptBlock_111 : decode cX2_encryptBlock 111 = .ok (.istore 14, 2) := dk_54 14 (dk_at dksX2_encryptBlock_4 16 rfl rfl)
theorem dX2_encryptBlock_113 : decode cX2_encryptBlock 113 = .ok (.iload 5, 2) := dk_21 5 (dk_at dksX2_encryptBlock_4 18 rfl rfl)
theorem dX2_encryptBlock_115 : decode cX2_encryptBlock 115 = .ok (.iload 9, 2) := dk_21 9 (dk_at dksX2_encryptBlock_4 20 rfl rfl)
theorem dX2_encryptBlock_117 : decode cX2_encryptBlock 117 = .ok (.ixor, 1) := dk_130 (dk_at dksX2_encryptBlock_4 22 rfl rfl)
theorem dX2_encryptBlock_118 : decode cX2_encryptBlock 118 = .ok (.istore 5, 2) := dk_54 5 (dk_at dksX2_encryptBlock_5 0 rfl rfl)
theorem dX2_encryptBlock_120 : decode cX2_encryptBlock 120 = .ok (.iload 6, 2) := dk_21 6 (dk_at dksX2_encryptBlock_5 2 rfl rfl)
theorem dX2_encryptBlock_122 : decode cX2_encryptBlock 122 = .ok (.iload 10, 2) := dk_21 10 (dk_at dksX2_encryptBlock_5 4 rfl rfl)
theorem dX2_encryptBlock_124 : decode cX2_encryptBlock 124 = .ok (.ixor, 1) := dk_130 (dk_at dksX2_encryptBlock_5 6 rfl rfl)
theorem dX2_encryptBlock_125 : decode cX2_encryptBlock 125 = .ok (.istore 6, 2) := dk_54 6 (dk_at dksX2_encryptBlock_5 7 rfl rfl)
theorem dX2_encryptBlock_127 : decode cX2_encryptBlock 127 = .ok (.iload 7, 2) := dk_21 7 (dk_at dksX2_encryptBlock_5 9 rfl rfl)
theorem dX2_encryptBlock_129 : decode cX2_encryptBlock 129 = .ok (.iload 11, 2) := dk_21 11 (dk_at dksX2_encryptBlock_5 11 rfl rfl)
theorem dX2_encryptBlock_131 : decode cX2_encryptBlock 131 = .ok (.ixor, 1) := dk_130 (dk_at dksX2_encryptBlock_5 13 rfl rfl)
theorem dX2_encryptBlock_132 : decode cX2_encryptBlock 132 = .ok (.istore 7, 2) := dk_54 7 (dk_at dksX2_encryptBlock_5 14 rfl rfl)
theorem dX2_encryptBlock_134 : decode cX2_encryptBlock 134 = .ok (.iload 8, 2) := dk_21 8 (dk_at dksX2_encryptBlock_5 16 rfl rfl)
theorem dX2_encryptBlock_136 : decode cX2_encryptBlock 136 = .ok (.iload 12, 2) := dk_21 12 (dk_at dksX2_encryptBlock_5 18 rfl rfl)
theorem dX2_encryptBlock_138 : decode cX2_encryptBlock 138 = .ok (.ixor, 1) := dk_130 (dk_at dksX2_encryptBlock_5 20 rfl rfl)
theorem dX2_encryptBlock_139 : decode cX2_encryptBlock 139 = .ok (.istore 8, 2) := dk_54 8 (dk_at dksX2_encryptBlock_5 21 rfl rfl)
theorem dX2_encryptBlock_141 : decode cX2_encryptBlock 141 = .ok (.iload 6, 2) := dk_21 6 (dk_at dksX2_encryptBlock_6 0 rfl rfl)
theorem dX2_encryptBlock_143 : decode cX2_encryptBlock 143 = .ok (.iload 8, 2) := dk_21 8 (dk_at dksX2_encryptBlock_6 2 rfl rfl)
theorem dX2_encryptBlock_145 : decode cX2_encryptBlock 145 = .ok (.ixor, 1) := dk_130 (dk_at dksX2_encryptBlock_6 4 rfl rfl)
theorem dX2_encryptBlock_146 : decode cX2_encryptBlock 146 = .ok (.istore 15, 2) := dk_54 15 (dk_at dksX2_encryptBlock_6 5 rfl rfl)
theorem dX2_encryptBlock_148 : decode cX2_encryptBlock 148 = .ok (.iload 15, 2) := dk_21 15 (dk_at dksX2_encryptBlock_6 7 rfl rfl)
theorem dX2_encryptBlock_150 : decode cX2_encryptBlock 150 = .ok (.iload 15, 2) := dk_21 15 (dk_at dksX2_encryptBlock_6 9 rfl rfl)
theorem dX2_encryptBlock_152 : decode cX2_encryptBlock 152 = .ok (.bipush 8, 2) := dk_16 8 (dk_at dksX2_encryptBlock_6 11 rfl rfl)
theorem dX2_encryptBlock_154 : decode cX2_encryptBlock 154 = .ok (.invokestatic 38, 3) := dk_184 0 38 (dk_at dksX2_encryptBlock_6 13 rfl rfl)
theorem dX2_encryptBlock_157 : decode cX2_encryptBlock 157 = .ok (.iload 15, 2) := dk_21 15 (dk_at dksX2_encryptBlock_6 16 rfl rfl)
theorem dX2_encryptBlock_159 : decode cX2_encryptBlock 159 = .ok (.bipush 24, 2) := dk_16 24 (dk_at dksX2_encryptBlock_6 18 rfl rfl)
theorem dX2_encryptBlock_161 : decode cX2_encryptBlock 161 = .ok (.invokestatic 38, 3) := dk_184 0 38 (dk_at dksX2_encryptBlock_6 20 rfl rfl)
theorem dX2_encryptBlock_164 : decode cX2_encryptBlock 164 = .ok (.ixor, 1) := dk_130 (dk_at dksX2_encryptBlock_6 23 rfl rfl)
theorem dX2_encryptBlock_165 : decode cX2_encryptBlock 165 = .ok (.ixor, 1) := dk_130 (dk_at dksX2_encryptBlock_7 0 rfl rfl)
theorem dX2_encryptBlock_166 : decode cX2_encryptBlock 166 = .ok (.istore 15, 2) := dk_54 15 (dk_at dksX2_encryptBlock_7 1 rfl rfl)
theorem dX2_encryptBlock_168 : decode cX2_encryptBlock 168 = .ok (.iload 5, 2) := dk_21 5 (dk_at dksX2_encryptBlock_7 3 rfl rfl)
theorem dX2_encryptBlock_170 : decode cX2_encryptBlock 170 = .ok (.iload 15, 2) := dk_21 15 (dk_at dksX2_encryptBlock_7 5 rfl rfl)
theorem dX2_encryptBlock_172 : decode cX2_encryptBlock 172 = .ok (.ixor, 1) := dk_130 (dk_at dksX2_encryptBlock_7 7 rfl rfl)
theorem dX2_encryptBlock_173 : decode cX2_encryptBlock 173 = .ok (.istore 5, 2) := dk_54 5 (dk_at dksX2_encryptBlock_7 8 rfl rfl)
theorem dX2_encryptBlock_175 : decode cX2_encryptBlock 175 = .ok (.iload 6, 2) := dk_21 6 (dk_at dksX2_encryptBlock_7 10 rfl rfl)
theorem dX2_encryptBlock_177 : decode cX2_encryptBlock 177 = .ok (.iload 14, 2) := dk_21 14 (dk_at dksX2_encryptBlock_7 12 rfl rfl)
theorem dX2_encryptBlock_179 : decode cX2_encryptBlock 179 = .ok (.ixor, 1) := dk_130 (dk_at dksX2_encryptBlock_7 14 rfl rfl)
theorem dX2_encryptBlock_180 : decode cX2_encryptBlock 180 = .ok (.istore 6, 2) := dk_54 6 (dk_at dksX2_encryptBlock_7 15 rfl rfl)
theorem dX2_encryptBlock_182 : decode cX2_encryptBlock 182 = .ok (.iload 7, 2) := dk_21 7 (dk_at dksX2_encryptBlock_7 17 rfl rfl)
theorem dX2_encryptBlock_184 : decode cX2_encryptBlock 184 = .ok (.iload 15, 2) := dk_21 15 (dk_at dksX2_encryptBlock_7 19 rfl rfl)
theorem dX2_encryptBlock_186 : decode cX2_encryptBlock 186 = .ok (.ixor, 1) := dk_130 (dk_at dksX2_encryptBlock_7 21 rfl rfl)
theorem dX2_encryptBlock_187 : decode cX2_encryptBlock 187 = .ok (.istore 7, 2) := dk_54 7 (dk_at dksX2_encryptBlock_7 22 rfl rfl)
theorem dX2_encryptBlock_189 : decode cX2_encryptBlock 189 = .ok (.iload 8, 2) := dk_21 8 (dk_at dksX2_encryptBlock_8 0 rfl rfl)
theorem dX2_encryptBlock_191 : decode cX2_encryptBlock 191 = .ok (.iload 14, 2) := dk_21 14 (dk_at dksX2_encryptBlock_8 2 rfl rfl)
theorem dX2_encryptBlock_193 : decode cX2_encryptBlock 193 = .ok (.ixor, 1) := dk_130 (dk_at dksX2_encryptBlock_8 4 rfl rfl)
theorem dX2_encryptBlock_194 : decode cX2_encryptBlock 194 = .ok (.istore 8, 2) := dk_54 8 (dk_at dksX2_encryptBlock_8 5 rfl rfl)
theorem dX2_encryptBlock_196 : decode cX2_encryptBlock 196 = .ok (.iinc 13 1, 3) := dk_132 13 1 (dk_at dksX2_encryptBlock_8 7 rfl rfl)
theorem dX2_encryptBlock_199 : decode cX2_encryptBlock 199 = .ok (.iload 13, 2) := dk_21 13 (dk_at dksX2_encryptBlock_8 10 rfl rfl)
theorem dX2_encryptBlock_201 : decode cX2_encryptBlock 201 = .ok (.bipush 16, 2) := dk_16 16 (dk_at dksX2_encryptBlock_8 12 rfl rfl)
theorem dX2_encryptBlock_203 : decode cX2_encryptBlock 203 = .ok (.if_icmp .le 6, 3) := dk_164 0 6 (dk_at dksX2_encryptBlock_8 14 rfl rfl)
theorem dX2_encryptBlock_206 : decode cX2_encryptBlock 206 = .ok (.goto 118, 3) := dk_167 0 118 (dk_at dksX2_encryptBlock_8 17 rfl rfl)
theorem dX2_encryptBlock_209 : decode cX2_encryptBlock 209 = .ok (.iload 6, 2) := dk_21 6 (dk_at dksX2_encryptBlock_8 20 rfl rfl)
theorem dX2_encryptBlock_211 : decode cX2_encryptBlock 211 = .ok (.iconst 1, 1) := dk_4 (dk_at dksX2_encryptBlock_8 22 rfl rfl)
theorem dX2_encryptBlock_212 : decode cX2_encryptBlock 212 = .ok (.invokestatic 38, 3) := dk_184 0 38 (dk_at dksX2_encryptBlock_9 0 rfl rfl)
theorem dX2_encryptBlock_215 : decode cX2_encryptBlock 215 = .ok (.istore 6, 2) := dk_54 6 (dk_at dksX2_encryptBlock_9 3 rfl rfl)
theorem dX2_encryptBlock_217 : decode cX2_encryptBlock 217 = .ok (.iload 7, 2) := dk_21 7 (dk_at dksX2_encryptBlock_9 5 rfl rfl)
theorem dX2_encryptBlock_219 : decode cX2_encryptBlock 219 = .ok (.iconst 5, 1) := dk_8 (dk_at dksX2_encryptBlock_9 7 rfl rfl)
theorem dX2_encryptBlock_220 : decode cX2_encryptBlock 220 = .ok (.invokestatic 38, 3) := dk_184 0 38 (dk_at dksX2_encryptBlock_9 8 rfl rfl)
theorem dX2_encryptBlock_223 : decode cX2_encryptBlock 223 = .ok (.istore 7, 2) := dk_54 7 (dk_at dksX2_encryptBlock_9 11 rfl rfl)
theorem dX2_encryptBlock_225 : decode cX2_encryptBlock 225 = .ok (.iload 8, 2) := dk_21 8 (dk_at dksX2_encryptBlock_9 13 rfl rfl)
theorem dX2_encryptBlock_227 : decode cX2_encryptBlock 227 = .ok (.iconst 2, 1) := dk_5 (dk_at dksX2_encryptBlock_9 15 rfl rfl)
theorem dX2_encryptBlock_228 : decode cX2_encryptBlock 228 = .ok (.invokestatic 38, 3) := dk_184 0 38 (dk_at dksX2_encryptBlock_9 16 rfl rfl)
theorem dX2_encryptBlock_231 : decode cX2_encryptBlock 231 = .ok (.istore 8, 2) := dk_54 8 (dk_at dksX2_encryptBlock_9 19 rfl rfl)
theorem dX2_encryptBlock_233 : decode cX2_encryptBlock 233 = .ok (.iload 8, 2) := dk_21 8 (dk_at dksX2_encryptBlock_9 21 rfl rfl)
theorem dX2_encryptBlock_235 : decode cX2_encryptBlock 235 = .ok (.istore 14, 2) := dk_54 14 (dk_at dksX2_encryptBlock_10 0 rfl rfl)
theorem dX2_encryptBlock_237 : decode cX2_encryptBlock 237 = .ok (.iload 6, 2) := dk_21 6 (dk_at dksX2_encryptBlock_10 2 rfl rfl)
theorem dX2_encryptBlock_239 : decode cX2_encryptBlock 239 = .ok (.iload 8, 2) := dk_21 8 (dk_at dksX2_encryptBlock_10 4 rfl rfl)
theorem dX2_encryptBlock_241 : decode cX2_encryptBlock 241 = .ok (.iload 7, 2) := dk_21 7 (dk_at dksX2_encryptBlock_10 6 rfl rfl)
theorem dX2_encryptBlock_243 : decode cX2_encryptBlock 243 = .ok (.ior, 1) := dk_128 (dk_at dksX2_encryptBlock_10 8 rfl rfl)
theorem dX2_encryptBlock_244 : decode cX2_encryptBlock 244 = .ok (.ixor, 1) := dk_130 (dk_at dksX2_encryptBlock_10 9 rfl rfl)
theorem dX2_encryptBlock_245 : decode cX2_encryptBlock 245 = .ok (.istore 6, 2) := dk_54 6 (dk_at dksX2_encryptBlock_10 10 rfl rfl)
theorem dX2_encryptBlock_247 : decode cX2_encryptBlock 247 = .ok (.iload 5, 2) := dk_21 5 (dk_at dksX2_encryptBlock_10 12 rfl rfl)
theorem dX2_encryptBlock_249 : decode cX2_encryptBlock 249 = .ok (.iload 7, 2) := dk_21 7 (dk_at dksX2_encryptBlock_10 14 rfl rfl)
theorem dX2_encryptBlock_251 : decode cX2_encryptBlock 251 = .ok (.iload 6, 2) := dk_21 6 (dk_at dksX2_encryptBlock_10 16 rfl rfl)
theorem dX2_encryptBlock_253 : decode cX2_encryptBlock 253 = .ok (.iconst (-1), 1) := dk_2 (dk_at dksX2_encryptBlock_10 18 rfl rfl)
theorem dX2_encryptBlock_254 : decode cX2_encryptBlock 254 = .ok (.ixor, 1) := dk_130 (dk_at dksX2_encryptBlock_10 19 rfl rfl)
theorem dX2_encryptBlock_255 : decode cX2_encryptBlock 255 = .ok (.iand, 1) := dk_126 (dk_at dksX2_encryptBlock_10 20 rfl rfl)
theorem dX2_encryptBlock_256 : decode cX2_encryptBlock 256 = .ok (.ixor, 1) := dk_130 (dk_at dksX2_encryptBlock_10 21 rfl rfl)
theorem dX2_encryptBlock_257 : decode cX2_encryptBlock 257 = .ok (.istore 8, 2) := dk_54 8 (dk_at dksX2_encryptBlock_10 22 rfl rfl)
theorem dX2_encryptBlock_259 : decode cX2_encryptBlock 259 = .ok (.iload 14, 2) := dk_21 14 (dk_at dksX2_encryptBlock_11 0 rfl rfl)
theorem dX2_encryptBlock_261 : decode cX2_encryptBlock 261 = .ok (.iload 6, 2) := dk_21 6 (dk_at dksX2_encryptBlock_11 2 rfl rfl)
theorem dX2_encryptBlock_263 : decode cX2_encryptBlock 263 = .ok (.iconst (-1), 1) := dk_2 (dk_at dksX2_encryptBlock_11 4 rfl rfl)
theorem dX2_encryptBlock_264 : decode cX2_encryptBlock 264 = .ok (.ixor, 1) := dk_130 (dk_at dksX2_encryptBlock_11 5 rfl rfl)
theorem dX2_encryptBlock_265 : decode cX2_encryptBlock 265 = .ok (.ixor, 1) := dk_130 (dk_at dksX2_encryptBlock_11 6 rfl rfl)
theorem dX2_encryptBlock_266 : decode cX2_encryptBlock 266 = .ok (.iload 7, 2) := dk_21 7 (dk_at dksX2_encryptBlock_11 7 rfl rfl)
theorem dX2_encryptBlock_268 : decode cX2_encryptBlock 268 = .ok (.ixor, 1) := dk_130 (dk_at dksX2_encryptBlock_11 9 rfl rfl)
theorem dX2_encryptBlock_269 : decode cX2_encryptBlock 269 = .ok (.iload 8, 2) := dk_21 8 (dk_at dksX2_encryptBlock_11 10 rfl rfl)
theorem dX2_encryptBlock_271 : decode cX2_encryptBlock 271 = .ok (.ixor, 1) := dk_130 (dk_at dksX2_encryptBlock_11 12 rfl rfl)
theorem dX2_encryptBlock_272 : decode cX2_encryptBlock 272 = .ok (.istore 7, 2) := dk_54 7 (dk_at dksX2_encryptBlock_11 13 rfl rfl)
theorem dX2_encryptBlock_274 : decode cX2_encryptBlock 274 = .ok (.iload 6, 2) := dk_21 6 (dk_at dksX2_encryptBlock_11 15 rfl rfl)
theorem dX2_encryptBlock_276 : decode cX2_encryptBlock 276 = .ok (.iload 8, 2) := dk_21 8 (dk_at dksX2_encryptBlock_11 17 rfl rfl)
theorem dX2_encryptBlock_278 : decode cX2_encryptBlock 278 = .ok (.iload 7, 2) := dk_21 7 (dk_at dksX2_encryptBlock_11 19 rfl rfl)
theorem dX2_encryptBlock_280 : decode cX2_encryptBlock 280 = .ok (.ior, 1) := dk_128 (dk_at dksX2_encryptBlock_11 21 rfl rfl)
theorem dX2_encryptBlock_281 : decode cX2_encryptBlock 281 = .ok (.ixor, 1) := dk_130 (dk_at dksX2_encryptBlock_11 22 rfl rfl)
theorem dX2_encryptBlock_282 : decode cX2_encryptBlock 282 = .ok (.istore 6, 2) := dk_54 6 (dk_at dksX2_encryptBlock_12 0 rfl rfl)
theorem dX2_encryptBlock_284 : decode cX2_encryptBlock 284 = .ok (.iload 14, 2) := dk_21 14 (dk_at dksX2_encryptBlock_12 2 rfl rfl)
theorem dX2_encryptBlock_286 : decode cX2_encryptBlock 286 = .ok (.iload 7, 2) := dk_21 7 (dk_at dksX2_encryptBlock_12 4 rfl rfl)
theorem dX2_encryptBlock_288 : decode cX2_encryptBlock 288 = .ok (.iload 6, 2) := dk_21 6 (dk_at dksX2_encryptBlock_12 6 rfl rfl)
theorem dX2_encryptBlock_290 : decode cX2_encryptBlock 290 = .ok (.iand, 1) := dk_126 (dk_at dksX2_encryptBlock_12 8 rfl rfl)
theorem dX2_encryptBlock_291 : decode cX2_encryptBlock 291 = .ok (.ixor, 1) := dk_130 (dk_at dksX2_encryptBlock_12 9 rfl rfl)
theorem dX2_encryptBlock_292 : decode cX2_encryptBlock 292 = .ok (.istore 5, 2) := dk_54 5 (dk_at dksX2_encryptBlock_12 10 rfl rfl)
theorem dX2_encryptBlock_294 : decode cX2_encryptBlock 294 = .ok (.iload 6, 2) := dk_21 6 (dk_at dksX2_encryptBlock_12 12 rfl rfl)
theorem dX2_encryptBlock_296 : decode cX2_encryptBlock 296 = .ok (.bipush 31, 2) := dk_16 31 (dk_at dksX2_encryptBlock_12 14 rfl rfl)
theorem dX2_encryptBlock_298 : decode cX2_encryptBlock 298 = .ok (.invokestatic 38, 3) := dk_184 0 38 (dk_at dksX2_encryptBlock_12 16 rfl rfl)
theorem dX2_encryptBlock_301 : decode cX2_encryptBlock 301 = .ok (.istore 6, 2) := dk_54 6 (dk_at dksX2_encryptBlock_12 19 rfl rfl)
theorem dX2_encryptBlock_303 : decode cX2_encryptBlock 303 = .ok (.iload 7, 2) := dk_21 7 (dk_at dksX2_encryptBlock_12 21 rfl rfl)
theorem dX2_encryptBlock_305 : decode cX2_encryptBlock 305 = .ok (.bipush 27, 2) := dk_16 27 (dk_at dksX2_encryptBlock_13 0 rfl rfl)
theorem dX2_encryptBlock_307 : decode cX2_encryptBlock 307 = .ok (.invokestatic 38, 3) := dk_184 0 38 (dk_at dksX2_encryptBlock_13 2 rfl rfl)
theorem dX2_encryptBlock_310 : decode cX2_encryptBlock 310 = .ok (.istore 7, 2) := dk_54 7 (dk_at dksX2_encryptBlock_13 5 rfl rfl)
theorem dX2_encryptBlock_312 : decode cX2_encryptBlock 312 = .ok (.iload 8, 2) := dk_21 8 (dk_at dksX2_encryptBlock_13 7 rfl rfl)
theorem dX2_encryptBlock_314 : decode cX2_encryptBlock 314 = .ok (.bipush 30, 2) := dk_16 30 (dk_at dksX2_encryptBlock_13 9 rfl rfl)
theorem dX2_encryptBlock_316 : decode cX2_encryptBlock 316 = .ok (.invokestatic 38, 3) := dk_184 0 38 (dk_at dksX2_encryptBlock_13 11 rfl rfl)
theorem dX2_encryptBlock_319 : decode cX2_encryptBlock 319 = .ok (.istore 8, 2) := dk_54 8 (dk_at dksX2_encryptBlock_13 14 rfl rfl)
theorem dX2_encryptBlock_321 : decode cX2_encryptBlock 321 = .ok (.goto (-250), 3) := dk_167 255 6 (dk_at dksX2_encryptBlock_13 16 rfl rfl)
theorem dX2_encryptBlock_324 : decode cX2_encryptBlock 324 = .ok (.iload 5, 2) := dk_21 5 (dk_at dksX2_encryptBlock_13 19 rfl rfl)
theorem dX2_encryptBlock_326 : decode cX2_encryptBlock 326 = .ok (.aload_n 3, 1) := dk_45 (dk_at dksX2_encryptBlock_13 21 rfl rfl)
theorem dX2_encryptBlock_327 : decode cX2_encryptBlock 327 = .ok (.iload 4, 2) := dk_21 4 (dk_at dksX2_encryptBlock_13 22 rfl rfl)
theorem dX2_encryptBlock_329 : decode cX2_encryptBlock 329 = .ok (.invokestatic 74, 3) := dk_184 0 74 (dk_at dksX2_encryptBlock_14 0 rfl rfl)
theorem dX2_encryptBlock_332 : decode cX2_encryptBlock 332 = .ok (.iload 6, 2) := dk_21 6 (dk_at dksX2_encryptBlock_14 3 rfl rfl)
theorem dX2_encryptBlock_334 : decode cX2_encryptBlock 334 = .ok (.aload_n 3, 1) := dk_45 (dk_at dksX2_encryptBlock_14 5 rfl rfl)
theorem dX2_encryptBlock_335 : decode cX2_encryptBlock 335 = .ok (.iload 4, 2) := dk_21 4 (dk_at dksX2_encryptBlock_14 6 rfl rfl)
theorem dX2_encryptBlock_337 : decode cX2_encryptBlock 337 = .ok (.iconst 4, 1) := dk_7 (dk_at dksX2_encryptBlock_14 8 rfl rfl)
theorem dX2_encryptBlock_338 : decode cX2_encryptBlock 338 = .ok (.iadd, 1) := dk_96 (dk_at dksX2_encryptBlock_14 9 rfl rfl)
theorem dX2_encryptBlock_339 : decode cX2_encryptBlock 339 = .ok (.invokestatic 74, 3) := dk_184 0 74 (dk_at dksX2_encryptBlock_14 10 rfl rfl)
theorem dX2_encryptBlock_342 : decode cX2_encryptBlock 342 = .ok (.iload 7, 2) := dk_21 7 (dk_at dksX2_encryptBlock_14 13 rfl rfl)
theorem dX2_encryptBlock_344 : decode cX2_encryptBlock 344 = .ok (.aload_n 3, 1) := dk_45 (dk_at dksX2_encryptBlock_14 15 rfl rfl)
theorem dX2_encryptBlock_345 : decode cX2_encryptBlock 345 = .ok (.iload 4, 2) := dk_21 4 (dk_at dksX2_encryptBlock_14 16 rfl rfl)
theorem dX2_encryptBlock_347 : decode cX2_encryptBlock 347 = .ok (.bipush 8, 2) := dk_16 8 (dk_at dksX2_encryptBlock_14 18 rfl rfl)
theorem dX2_encryptBlock_349 : decode cX2_encryptBlock 349 = .ok (.iadd, 1) := dk_96 (dk_at dksX2_encryptBlock_14 20 rfl rfl)
theorem dX2_encryptBlock_350 : decode cX2_encryptBlock 350 = .ok (.invokestatic 74, 3) := dk_184 0 74 (dk_at dksX2_encryptBlock_14 21 rfl rfl)
theorem dX2_encryptBlock_353 : decode cX2_encryptBlock 353 = .ok (.iload 8, 2) := dk_21 8 (dk_at dksX2_encryptBlock_15 0 rfl rfl)
theorem dX2_encryptBlock_355 : decode cX2_encryptBlock 355 = .ok (.aload_n 3, 1) := dk_45 (dk_at dksX2_encryptBlock_15 2 rfl rfl)
theorem dX2_encryptBlock_356 : decode cX2_encryptBlock 356 = .ok (.iload 4, 2) := dk_21 4 (dk_at dksX2_encryptBlock_15 3 rfl rfl)
theorem dX2_encryptBlock_358 : decode cX2_encryptBlock 358 = .ok (.bipush 12, 2) := dk_16 12 (dk_at dksX2_encryptBlock_15 5 rfl rfl)
theorem dX2_encryptBlock_360 : decode cX2_encryptBlock 360 = .ok (.iadd, 1) := dk_96 (dk_at dksX2_encryptBlock_15 7 rfl rfl)
theorem dX2_encryptBlock_361 : decode cX2_encryptBlock 361 = .ok (.invokestatic 74, 3) := dk_184 0 74 (dk_at dksX2_encryptBlock_15 8 rfl rfl)
theorem dX2_encryptBlock_364 : decode cX2_encryptBlock 364 = .ok (.bipush 16, 2) := dk_16 16 (dk_at dksX2_encryptBlock_15 11 rfl rfl)
theorem dX2_encryptBlock_366 : decode cX2_encryptBlock 366 = .ok (.ireturn, 1) := dk_172 (dk_at dksX2_encryptBlock_15 13 rfl rfl)
abbrev cX2_decryptBlock : ByteArray := prog_8_method_5_code
def yX2_decryptBlock : MethodName := ⟨RX2, "decryptBlock", "([BI[BI)I"⟩
def dkwX2_decryptBlock_15 : List UInt8 := [16, 12, 96, 184, 0, 74, 16, 16, 172]
abbrev dktX2_decryptBlock_15 : List UInt8 := dkwX2_decryptBlock_15 ++ []
def dkwX2_decryptBlock_14 : List UInt8 := [45, 21, 4, 7, 96, 184, 0, 74, 21, 7, 45, 21, 4, 16, 8, 96, 184, 0, 74, 21, 8, 45, 21, 4]
abbrev dktX2_decryptBlock_14 : List UInt8 := dkwX2_decryptBlock_14 ++ dktX2_decryptBlock_15
def dkwX2_decryptBlock_13 : List UInt8 := [54, 7, 21, 8, 16, 30, 184, 0, 38, 54, 8, 167, 255, 8, 21, 5, 45, 21, 4, 184, 0, 74, 21, 6]
abbrev dktX2_decryptBlock_13 : List UInt8 := dkwX2_decryptBlock_13 ++ dktX2_decryptBlock_14
def dkwX2_decryptBlock_12 : List UInt8 := [21, 7, 21, 6, 126, 130, 54, 5, 21, 6, 16, 31, 184, 0, 38, 54, 6, 21, 7, 16, 27, 184, 0, 38]
abbrev dktX2_decryptBlock_12 : List UInt8 := dkwX2_decryptBlock_12 ++ dktX2_decryptBlock_13
def dkwX2_decryptBlock_11 : List UInt8 := [2, 130, 130, 21, 7, 130, 21, 8, 130, 54, 7, 21, 6, 21, 8, 21, 7, 128, 130, 54, 6, 21, 14]
abbrev dktX2_decryptBlock_11 : List UInt8 := dkwX2_decryptBlock_11 ++ dktX2_decryptBlock_12
def dkwX2_decryptBlock_10 : List UInt8 := [21, 8, 21, 7, 128, 130, 54, 6, 21, 5, 21, 7, 21, 6, 2, 130, 126, 130, 54, 8, 21, 14, 21, 6]
abbrev dktX2_decryptBlock_10 : List UInt8 := dkwX2_decryptBlock_10 ++ dktX2_decryptBlock_11
def dkwX2_decryptBlock_9 : List UInt8 := [54, 6, 21, 7, 8, 184, 0, 38, 54, 7, 21, 8, 5, 184, 0, 38, 54, 8, 21, 8, 54, 14, 21, 6]
abbrev dktX2_decryptBlock_9 : List UInt8 := dkwX2_decryptBlock_9 ++ dktX2_decryptBlock_10
def dkwX2_decryptBlock_8 : List UInt8 := [17, 0, 255, 126, 130, 54, 5, 132, 13, 255, 21, 13, 156, 0, 6, 167, 0, 118, 21, 6, 4, 184, 0, 38]
abbrev dktX2_decryptBlock_8 : List UInt8 := dkwX2_decryptBlock_8 ++ dktX2_decryptBlock_9
def dkwX2_decryptBlock_7 : List UInt8 := [54, 6, 21, 7, 21, 15, 130, 54, 7, 21, 8, 21, 14, 130, 54, 8, 21, 5, 178, 0, 70, 21, 13, 51]
abbrev dktX2_decryptBlock_7 : List UInt8 := dkwX2_decryptBlock_7 ++ dktX2_decryptBlock_8
def dkwX2_decryptBlock_6 : List UInt8 := [21, 15, 16, 24, 184, 0, 38, 130, 130, 54, 15, 21, 5, 21, 15, 130, 54, 5, 21, 6, 21, 14, 130]
abbrev dktX2_decryptBlock_6 : List UInt8 := dkwX2_decryptBlock_6 ++ dktX2_decryptBlock_7
def dkwX2_decryptBlock_5 : List UInt8 := [21, 8, 21, 12, 130, 54, 8, 21, 6, 21, 8, 130, 54, 15, 21, 15, 21, 15, 16, 8, 184, 0, 38]
abbrev dktX2_decryptBlock_5 : List UInt8 := dkwX2_decryptBlock_5 ++ dktX2_decryptBlock_6
def dkwX2_decryptBlock_4 : List UInt8 := [130, 54, 14, 21, 5, 21, 9, 130, 54, 5, 21, 6, 21, 10, 130, 54, 6, 21, 7, 21, 11, 130, 54, 7]
abbrev dktX2_decryptBlock_4 : List UInt8 := dkwX2_decryptBlock_4 ++ dktX2_decryptBlock_5
def dkwX2_decryptBlock_3 : List UInt8 := [21, 5, 21, 7, 130, 54, 14, 21, 14, 21, 14, 16, 8, 184, 0, 38, 21, 14, 16, 24, 184, 0, 38, 130]
abbrev dktX2_decryptBlock_3 : List UInt8 := dkwX2_decryptBlock_3 ++ dktX2_decryptBlock_4
def dkwX2_decryptBlock_2 : List UInt8 := [4, 46, 54, 10, 42, 180, 0, 7, 5, 46, 54, 11, 42, 180, 0, 7, 6, 46, 54, 12, 16, 16, 54, 13]
abbrev dktX2_decryptBlock_2 : List UInt8 := dkwX2_decryptBlock_2 ++ dktX2_decryptBlock_3
def dkwX2_decryptBlock_1 : List UInt8 := [54, 7, 43, 28, 16, 12, 96, 184, 0, 67, 54, 8, 42, 180, 0, 7, 3, 46, 54, 9, 42, 180, 0, 7]
abbrev dktX2_decryptBlock_1 : List UInt8 := dkwX2_decryptBlock_1 ++ dktX2_decryptBlock_2
def dkwX2_decryptBlock_0 : List UInt8 := [43, 28, 184, 0, 67, 54, 5, 43, 28, 7, 96, 184, 0, 67, 54, 6, 43, 28, 16, 8, 96, 184, 0, 67]
abbrev dktX2_decryptBlock_0 : List UInt8 := dkwX2_decryptBlock_0 ++ dktX2_decryptBlock_1
theorem dksX2_decryptBlock_0 : cX2_decryptBlock.data.toList.drop 0 = dktX2_decryptBlock_0 := by decide +kernel
theorem dksX2_decryptBlock_1 : cX2_decryptBlock.data.toList.drop 24 = dktX2_decryptBlock_1 := dk_seg dksX2_decryptBlock_0 24 rfl rfl
theorem dksX2_decryptBlock_2 : cX2_decryptBlock.data.toList.drop 48 = dktX2_decryptBlock_2 := dk_seg dksX2_decryptBlock_1 24 rfl rfl
theorem dksX2_decryptBlock_3 : cX2_decryptBlock.data.toList.drop 72 = dktX2_decryptBlock_3 := dk_seg dksX2_decryptBlock_2 24 rfl rfl
theorem dksX2_decryptBlock_4 : cX2_decryptBlock.data.toList.drop 96 = dktX2_decryptBlock_4 := dk_seg dksX2_decryptBlock_3 24 rfl rfl
theorem dksX2_decryptBlock_5 : cX2_decryptBlock.data.toList.drop 120 = dktX2_decryptBlock_5 := dk_seg dksX2_decryptBlock_4 24 rfl rfl
theorem dksX2_decryptBlock_6 : cX2_decryptBlock.data.toList.drop 143 = dktX2_decryptBlock_6 := dk_seg dksX2_decryptBlock_5 23 rfl rfl
theorem dksX2_decryptBlock_7 : cX2_decryptBlock.data.toList.drop 166 = dktX2_decryptBlock_7 := dk_seg dksX2_decryptBlock_6 23 rfl rfl
theorem dksX2_decryptBlock_8 : cX2_decryptBlock.data.toList.drop 190 = dktX2_decryptBlock_8 := dk_seg dksX2_decryptBlock_7 24 rfl rfl
theorem dksX2_decryptBlock_9 : cX2_decryptBlock.data.toList.drop 214 = dktX2_decryptBlock_9 := dk_seg dksX2_decryptBlock_8 24 rfl rfl
theorem dksX2_decryptBlock_10 : cX2_decryptBlock.data.toList.drop 238 = dktX2_decryptBlock_10 := dk_seg dksX2_decryptBlock_9 24 rfl rfl
theorem dksX2_decryptBlock_11 : cX2_decryptBlock.data.toList.drop 262 = dktX2_decryptBlock_11 := dk_seg dksX2_decryptBlock_10 24 rfl rfl
theorem dksX2_decryptBlock_12 : cX2_decryptBlock.data.toList.drop 285 = dktX2_decryptBlock_12 := dk_seg dksX2_decryptBlock_11 23 rfl rfl
theorem dksX2_decryptBlock_13 : cX2_decryptBlock.data.toList.drop 309 = dktX2_decryptBlock_13 := dk_seg dksX2_decryptBlock_12 24 rfl rfl
theorem dksX2_decryptBlock_14 : cX2_decryptBlock.data.toList.drop 333 = dktX2_decryptBlock_14 := dk_seg dksX2_decryptBlock_13 24 rfl rfl
theorem dksX2_decryptBlock_15 : cX2_decryptBlock.data.toList.drop 357 = dktX2_decryptBlock_15 := dk_seg dksX2_decryptBlock_14 24 rfl rfl
theorem dX2_decryptBlock_0 : decode cX2_decryptBlock 0 = .ok (.aload_n 1, 1) := dk_43 (dk_at dksX2_decryptBlock_0 0 rfl rfl)
theorem dX2_decryptBlock_1 : decode cX2_decryptBlock 1 = .ok (.iload_n 2, 1) := dk_28 (dk_at dksX2_decryptBlock_0 1 rfl rfl)
theorem dX2_decryptBlock_2 : decode cX2_decryptBlock 2 = .ok (.invokestatic 67, 3) := dk_184 0 67 (dk_at dksX2_decryptBlock_0 2 rfl rfl)
theorem dX2_decryptBlock_5 : decode cX2_decryptBlock 5 = .ok (.istore 5, 2) := dk_54 5 (dk_at dksX2_decryptBlock_0 5 rfl rfl)
theorem dX2_decryptBlock_7 : decode cX2_decryptBlock 7 = .ok (.aload_n 1, 1) := dk_43 (dk_at dksX2_decryptBlock_0 7 rfl rfl)
theorem dX2_decryptBlock_8 : decode cX2_decryptBlock 8 = .ok (.iload_n 2, 1) := dk_28 (dk_at dksX2_decryptBlock_0 8 rfl rfl)
theorem dX2_decryptBlock_9 : decode cX2_decryptBlock 9 = .ok (.iconst 4, 1) := dk_7 (dk_at dksX2_decryptBlock_0 9 rfl rfl)
theorem dX2_decryptBlock_10 : decode cX2_decryptBlock 10 = .ok (.iadd, 1) := dk_96 (dk_at dksX2_decryptBlock_0 10 rfl rfl)
theorem dX2_decryptBlock_11 : decode cX2_decryptBlock 11 = .ok (.invokestatic 67, 3) := dk_184 0 67 (dk_at dksX2_decryptBlock_0 11 rfl rfl)
theorem dX2_decryptBlock_14 : decode cX2_decryptBlock 14 = .ok (.istore 6, 2) := dk_54 6 (dk_at dksX2_decryptBlock_0 14 rfl rfl)
theorem dX2_decryptBlock_16 : decode cX2_decryptBlock 16 = .ok (.aload_n 1, 1) := dk_43 (dk_at dksX2_decryptBlock_0 16 rfl rfl)
theorem dX2_decryptBlock_17 : decode cX2_decryptBlock 17 = .ok (.iload_n 2, 1) := dk_28 (dk_at dksX2_decryptBlock_0 17 rfl rfl)
theorem dX2_decryptBlock_18 : decode cX2_decryptBlock 18 = .ok (.bipush 8, 2) := dk_16 8 (dk_at dksX2_decryptBlock_0 18 rfl rfl)
theorem dX2_decryptBlock_20 : decode cX2_decryptBlock 20 = .ok (.iadd, 1) := dk_96 (dk_at dksX2_decryptBlock_0 20 rfl rfl)
theorem dX2_decryptBlock_21 : decode cX2_decryptBlock 21 = .ok (.invokestatic 67, 3) := dk_184 0 67 (dk_at dksX2_decryptBlock_0 21 rfl rfl)
theorem dX2_decryptBlock_24 : decode cX2_decryptBlock 24 = .ok (.istore 7, 2) := dk_54 7 (dk_at dksX2_decryptBlock_1 0 rfl rfl)
theorem dX2_decryptBlock_26 : decode cX2_decryptBlock 26 = .ok (.aload_n 1, 1) := dk_43 (dk_at dksX2_decryptBlock_1 2 rfl rfl)
theorem dX2_decryptBlock_27 : decode cX2_decryptBlock 27 = .ok (.iload_n 2, 1) := dk_28 (dk_at dksX2_decryptBlock_1 3 rfl rfl)
theorem dX2_decryptBlock_28 : decode cX2_decryptBlock 28 = .ok (.bipush 12, 2) := dk_16 12 (dk_at dksX2_decryptBlock_1 4 rfl rfl)
theorem dX2_decryptBlock_30 : decode cX2_decryptBlock 30 = .ok (.iadd, 1) := dk_96 (dk_at dksX2_decryptBlock_1 6 rfl rfl)
theorem dX2_decryptBlock_31 : decode cX2_decryptBlock 31 = .ok (.invokestatic 67, 3) := dk_184 0 67 (dk_at dksX2_decryptBlock_1 7 rfl rfl)
theorem dX2_decryptBlock_34 : decode cX2_decryptBlock 34 = .ok (.istore 8, 2) := dk_54 8 (dk_at dksX2_decryptBlock_1 10 rfl rfl)
theorem dX2_decryptBlock_36 : decode cX2_decryptBlock 36 = .ok (.aload_n 0, 1) := dk_42 (dk_at dksX2_decryptBlock_1 12 rfl rfl)
theorem dX2_decryptBlock_37 : decode cX2_decryptBlock 37 = .ok (.getfield 7, 3) := dk_180 0 7 (dk_at dksX2_decryptBlock_1 13 rfl rfl)
theorem dX2_decryptBlock_40 : decode cX2_decryptBlock 40 = .ok (.iconst 0, 1) := dk_3 (dk_at dksX2_decryptBlock_1 16 rfl rfl)
theorem dX2_decryptBlock_41 : decode cX2_decryptBlock 41 = .ok (.iaload, 1) := dk_46 (dk_at dksX2_decryptBlock_1 17 rfl rfl)
theorem dX2_decryptBlock_42 : decode cX2_decryptBlock 42 = .ok (.istore 9, 2) := dk_54 9 (dk_at dksX2_decryptBlock_1 18 rfl rfl)
theorem dX2_decryptBlock_44 : decode cX2_decryptBlock 44 = .ok (.aload_n 0, 1) := dk_42 (dk_at dksX2_decryptBlock_1 20 rfl rfl)
theorem dX2_decryptBlock_45 : decode cX2_decryptBlock 45 = .ok (.getfield 7, 3) := dk_180 0 7 (dk_at dksX2_decryptBlock_1 21 rfl rfl)
theorem dX2_decryptBlock_48 : decode cX2_decryptBlock 48 = .ok (.iconst 1, 1) := dk_4 (dk_at dksX2_decryptBlock_2 0 rfl rfl)
theorem dX2_decryptBlock_49 : decode cX2_decryptBlock 49 = .ok (.iaload, 1) := dk_46 (dk_at dksX2_decryptBlock_2 1 rfl rfl)
theorem dX2_decryptBlock_50 : decode cX2_decryptBlock 50 = .ok (.istore 10, 2) := dk_54 10 (dk_at dksX2_decryptBlock_2 2 rfl rfl)
theorem dX2_decryptBlock_52 : decode cX2_decryptBlock 52 = .ok (.aload_n 0, 1) := dk_42 (dk_at dksX2_decryptBlock_2 4 rfl rfl)
theorem dX2_decryptBlock_53 : decode cX2_decryptBlock 53 = .ok (.getfield 7, 3) := dk_180 0 7 (dk_at dksX2_decryptBlock_2 5 rfl rfl)
theorem dX2_decryptBlock_56 : decode cX2_decryptBlock 56 = .ok (.iconst 2, 1) := dk_5 (dk_at dksX2_decryptBlock_2 8 rfl rfl)
theorem dX2_decryptBlock_57 : decode cX2_decryptBlock 57 = .ok (.iaload, 1) := dk_46 (dk_at dksX2_decryptBlock_2 9 rfl rfl)
theorem dX2_decryptBlock_58 : decode cX2_decryptBlock 58 = .ok (.istore 11, 2) := dk_54 11 (dk_at dksX2_decryptBlock_2 10 rfl rfl)
theorem dX2_decryptBlock_60 : decode cX2_decryptBlock 60 = .ok (.aload_n 0, 1) := dk_42 (dk_at dksX2_decryptBlock_2 12 rfl rfl)
theorem dX2_decryptBlock_61 : decode cX2_decryptBlock 61 = .ok (.getfield 7, 3) := dk_180 0 7 (dk_at dksX2_decryptBlock_2 13 rfl rfl)
theorem dX2_decryptBlock_64 : decode cX2_decryptBlock 64 = .ok (.iconst 3, 1) := dk_6 (dk_at dksX2_decryptBlock_2 16 rfl rfl)
theorem dX2_decryptBlock_65 : decode cX2_decryptBlock 65 = .ok (.iaload, 1) := dk_46 (dk_at dksX2_decryptBlock_2 17 rfl rfl)
theorem dX2_decryptBlock_66 : decode cX2_decryptBlock 66 = .ok (.istore 12, 2) := dk_54 12 (dk_at dksX2_decryptBlock_2 18 rfl rfl)
theorem dX2_decryptBlock_68 : decode cX2_decryptBlock 68 = .ok (.bipush 16, 2) := dk_16 16 (dk_at dksX2_decryptBlock_2 20 rfl rfl)
theorem dX2_decryptBlock_70 : decode cX2_decryptBlock 70 = .ok (.istore 13, 2) := dk_54 13 (dk_at dksX2_decryptBlock_2 22 rfl rfl)
theorem dX2_decryptBlock_72 : decode cX2_decryptBlock 72 = .ok (.iload 5, 2) := dk_21 5 (dk_at dksX2_decryptBlock_3 0 rfl rfl)
theorem dX2_decryptBlock_74 : decode cX2_decryptBlock 74 = .ok (.iload 7, 2) := dk_21 7 (dk_at dksX2_decryptBlock_3 2 rfl rfl)
theorem dX2_decryptBlock_76 : decode cX2_decryptBlock 76 = .ok (.ixor, 1) := dk_130 (dk_at dksX2_decryptBlock_3 4 rfl rfl)
theorem dX2_decryptBlock_77 : decode cX2_decryptBlock 77 = .ok (.istore 14, 2) := dk_54 14 (dk_at dksX2_decryptBlock_3 5 rfl rfl)
theorem dX2_decryptBlock_79 : decode cX2_decryptBlock 79 = .ok (.iload 14, 2) := dk_21 14 (dk_at dksX2_decryptBlock_3 7 rfl rfl)
theorem dX2_decryptBlock_81 : decode cX2_decryptBlock 81 = .ok (.iload 14, 2) := dk_21 14 (dk_at dksX2_decryptBlock_3 9 rfl rfl)
theorem dX2_decryptBlock_83 : decode cX2_decryptBlock 83 = .ok (.bipush 8, 2) := dk_16 8 (dk_at dksX2_decryptBlock_3 11 rfl rfl)
theorem dX2_decryptBlock_85 : decode cX2_decryptBlock 85 = .ok (.invokestatic 38, 3) := dk_184 0 38 (dk_at dksX2_decryptBlock_3 13 rfl rfl)
theorem dX2_decryptBlock_88 : decode cX2_decryptBlock 88 = .ok (.iload 14, 2) := dk_21 14 (dk_at dksX2_decryptBlock_3 16 rfl rfl)
theorem dX2_decryptBlock_90 : decode cX2_decryptBlock 90 = .ok (.bipush 24, 2) := dk_16 24 (dk_at dksX2_decryptBlock_3 18 rfl rfl)
theorem dX2_decryptBlock_92 : decode cX2_decryptBlock 92 = .ok (.invokestatic 38, 3) := dk_184 0 38 (dk_at dksX2_decryptBlock_3 20 rfl rfl)
theorem dX2_decryptBlock_95 : decode cX2_decryptBlock 95 = .ok (.ixor, 1) := dk_130 (dk_at dksX2_decryptBlock_3 23 rfl rfl)
theorem dX2_decryptBlock_96 : decode cX2_decryptBlock 96 = .ok (.ixor, 1) := dk_130 (dk_at dksX2_decryptBlock_4 0 rfl rfl)
theorem dX2_decryptBlock_97 : decode cX2_decryptBlock 97 = .ok (.istore 14, 2) := dk_54 14 (dk_at dksX2_decryptBlock_4 1 rfl rfl)
theorem dX2_decryptBlock_99 : decode cX2_decryptBlock 99 = .ok (.iload 5, 2) := dk_21 5 (dk_at dksX2_decryptBlock_4 3 rfl rfl)
theorem dX2_decryptBlock_101 : decode cX2_decryptBlock 101 = .ok (.iload 9, 2) := dk_21 9 (dk_at dksX2_decryptBlock_4 5 rfl rfl)
theorem dX2_decryptBlock_103 : decode cX2_decryptBlock 103 = .ok (.ixor, 1) := dk_130 (dk_at dksX2_decryptBlock_4 7 rfl rfl)
theorem dX2_decryptBlock_104 : decode cX2_decryptBlock 104 = .ok (.istore 5, 2) := dk_54 5 (dk_at dksX2_decryptBlock_4 8 rfl rfl)
theorem dX2_decryptBlock_106 : decode cX2_decryptBlock 106 = .ok (.iload 6, 2) := dk_21 6 (dk_at dksX2_decryptBlock_4 10 rfl rfl)
theorem dX2_decryptBlock_108 : decode cX2_decryptBlock 108 = .ok (.iload 10, 2) := dk_21 10 (dk_at dksX2_decryptBlock_4 12 rfl rfl)
theorem dX2_decryptBlock_110 : decode cX2_decryptBlock 110 = .ok (.ixor, 1) := dk_130 (dk_at dksX2_decryptBlock_4 14 rfl rfl)
theorem dX2_decryptBlock_111 : decode cX2_decryptBlock 111 = .ok (.istore 6, 2) := dk_54 6 (dk_at dksX2_decryptBlock_4 15 rfl rfl)
theorem dX2_decryptBlock_113 : decode cX2_decryptBlock 113 = .ok (.iload 7, 2) := dk_21 7 (dk_at dksX2_decryptBlock_4 17 rfl rfl)
theorem dX2_decryptBlock_115 : decode cX2_decryptBlock 115 = .ok (.iload 11, 2) := dk_21 11 (dk_at dksX2_decryptBlock_4 19 rfl rfl)
theorem dX2_decryptBlock_117 : decode cX2_decryptBlock 117 = .ok (.ixor, 1) := dk_130 (dk_at dksX2_decryptBlock_4 21 rfl rfl)
theorem dX2_decryptBlock_118 : decode cX2_decryptBlock 118 = .ok (.istore 7, 2) := dk_54 7 (dk_at dksX2_decryptBlock_4 22 rfl rfl)
theorem dX2_decryptBlock_120 : decode cX2_decryptBlock 120 = .ok (.iload 8, 2) := dk_21 8 (dk_at dksX2_decryptBlock_5 0 rfl rfl)
theorem dX2_decryptBlock_122 : decode cX2_decryptBlock 122 = .ok (.iload 12, 2) := dk_21 12 (dk_at dksX2_decryptBlock_5 2 rfl rfl)
theorem dX2_decryptBlock_124 : decode cX2_decryptBlock 124 = .ok (.ixor, 1) := dk_130 (dk_at dksX2_decryptBlock_5 4 rfl rfl)
theorem dX2_decryptBlock_125 : decode cX2_decryptBlock 125 = .ok (.istore 8, 2) := dk_54 8 (dk_at dksX2_decryptBlock_5 5 rfl rfl)
theorem dX2_decryptBlock_127 : decode cX2_decryptBlock 127 = .ok (.iload 6, 2) := dk_21 6 (dk_at dksX2_decryptBlock_5 7 rfl rfl)
theorem dX2_decryptBlock_129 : decode cX2_decryptBlock 129 = .ok (.iload 8, 2) := dk_21 8 (dk_at dksX2_decryptBlock_5 9 rfl rfl)
theorem dX2_decryptBlock_131 : decode cX2_decryptBlock 131 = .ok (.ixor, 1) := dk_130 (dk_at dksX2_decryptBlock_5 11 rfl rfl)
theorem dX2_decryptBlock_132 : decode cX2_decryptBlock 132 = .ok (.istore 15, 2) := dk_54 15 (dk_at dksX2_decryptBlock_5 12 rfl rfl)
theorem dX2_decryptBlock_134 : decode cX2_decryptBlock 134 = .ok (.iload 15, 2) := dk_21 15 (dk_at dksX2_decryptBlock_5 14 rfl rfl)
theorem dX2_decryptBlock_136 : decode cX2_decryptBlock 136 = .ok (.iload 15, 2) := dk_21 15 (dk_at dksX2_decryptBlock_5 16 rfl rfl)
theorem dX2_decryptBlock_138 : decode cX2_decryptBlock 138 = .ok (.bipush 8, 2) := dk_16 8 (dk_at dksX2_decryptBlock_5 18 rfl rfl)
theorem dX2_decryptBlock_140 : decode cX2_decryptBlock 140 = .ok (.invokestatic 38, 3) := dk_184 0 38 (dk_at dksX2_decryptBlock_5 20 rfl rfl)
theorem dX2_decryptBlock_143 : decode cX2_decryptBlock 143 = .ok (.iload 15, 2) := dk_21 15 (dk_at dksX2_decryptBlock_6 0 rfl rfl)
theorem dX2_decryptBlock_145 : decode cX2_decryptBlock 145 = .ok (.bipush 24, 2) := dk_16 24 (dk_at dksX2_decryptBlock_6 2 rfl rfl)
theorem dX2_decryptBlock_147 : decode cX2_decryptBlock 147 = .ok (.invokestatic 38, 3) := dk_184 0 38 (dk_at dksX2_decryptBlock_6 4 rfl rfl)
theorem dX2_decryptBlock_150 : decode cX2_decryptBlock 150 = .ok (.ixor, 1) := dk_130 (dk_at dksX2_decryptBlock_6 7 rfl rfl)
theorem dX2_decryptBlock_151 : decode cX2_decryptBlock 151 = .ok (.ixor, 1) := dk_130 (dk_at dksX2_decryptBlock_6 8 rfl rfl)
theorem dX2_decryptBlock_152 : decode cX2_decryptBlock 152 = .ok (.istore 15, 2) := dk_54 15 (dk_at dksX2_decryptBlock_6 9 rfl rfl)
theorem dX2_decryptBlock_154 : decode cX2_decryptBlock 154 = .ok (.iload 5, 2) := dk_21 5 (dk_at dksX2_decryptBlock_6 11 rfl rfl)
theorem dX2_decryptBlock_156 : decode cX2_decryptBlock 156 = .ok (.iload 15, 2) := dk_21 15 (dk_at dksX2_decryptBlock_6 13 rfl rfl)
theorem dX2_decryptBlock_158 : decode cX2_decryptBlock 158 = .ok (.ixor, 1) := dk_130 (dk_at dksX2_decryptBlock_6 15 rfl rfl)
theorem dX2_decryptBlock_159 : decode cX2_decryptBlock 159 = .ok (.istore 5, 2) := dk_54 5 (dk_at dksX2_decryptBlock_6 16 rfl rfl)
theorem dX2_decryptBlock_161 : decode cX2_decryptBlock 161 = .ok (.iload 6, 2) := dk_21 6 (dk_at dksX2_decryptBlock_6 18 rfl rfl)
theorem dX2_decryptBlock_163 : decode cX2_decryptBlock 163 = .ok (.iload 14, 2) := dk_21 14 (dk_at dksX2_decryptBlock_6 20 rfl rfl)
theorem dX2_decryptBlock_165 : decode cX2_decryptBlock 165 = .ok (.ixor, 1) := dk_130 (dk_at dksX2_decryptBlock_6 22 rfl rfl)
theorem dX2_decryptBlock_166 : decode cX2_decryptBlock 166 = .ok (.istore 6, 2) := dk_54 6 (dk_at dksX2_decryptBlock_7 0 rfl rfl)
theorem dX2_decryptBlock_168 : decode cX2_decryptBlock 168 = .ok (.iload 7, 2) := dk_21 7 (dk_at dksX2_decryptBlock_7 2 rfl rfl)
theorem dX2_decryptBlock_170 : decode cX2_decryptBlock 170 = .ok (.iload 15, 2) := dk_21 15 (dk_at dksX2_decryptBlock_7 4 rfl rfl)
theorem dX2_decryptBlock_172 : decode cX2_decryptBlock 172 = .ok (.ixor, 1) := dk_130 (dk_at dksX2_decryptBlock_7 6 rfl rfl)
theorem dX2_decryptBlock_173 : decode cX2_decryptBlock 173 = .ok (.istore 7, 2) := dk_54 7 (dk_at dksX2_decryptBlock_7 7 rfl rfl)
theorem dX2_decryptBlock_175 : decode cX2_decryptBlock 175 = .ok (.iload 8, 2) := dk_21 8 (dk_at dksX2_decryptBlock_7 9 rfl rfl)
theorem dX2_decryptBlock_177 : decode cX2_decryptBlock 177 = .ok (.iload 14, 2) := dk_21 14 (dk_at dksX2_decryptBlock_7 11 rfl rfl)
theorem dX2_decryptBlock_179 : decode cX2_decryptBlock 179 = .ok (.ixor, 1) := dk_130 (dk_at dksX2_decryptBlock_7 13 rfl rfl)
theorem dX2_decryptBlock_180 : decode cX2_decryptBlock 180 = .ok (.istore 8, 2) := dk_54 8 (dk_at dksX2_decryptBlock_7 14 rfl rfl)
theorem dX2_decryptBlock_182 : decode cX2_decryptBlock 182 = .ok (.iload 5, 2) := dk_21 5 (dk_at dksX2_decryptBlock_7 16 rfl rfl)
theorem dX2_decryptBlock_184 : decode cX2_decryptBlock 184 = .ok (.getstatic 70, 3) := dk_178 0 70 (dk_at dksX2_decryptBlock_7 18 rfl rfl)
theorem dX2_decryptBlock_187 : decode cX2_decryptBlock 187 = .ok (.iload 13, 2) := dk_21 13 (dk_at dksX2_decryptBlock_7 21 rfl rfl)
theorem dX2_decryptBlock_189 : decode cX2_decryptBlock 189 = .ok (.baload, 1) := dk_51 (dk_at dksX2_decryptBlock_7 23 rfl rfl)
theorem dX2_decryptBlock_190 : decode cX2_decryptBlock 190 = .ok (.sipush 255, 3) := dk_17 0 255 (dk_at dksX2_decryptBlock_8 0 rfl rfl)
theorem dX2_decryptBlock_193 : decode cX2_decryptBlock 193 = .ok (.iand, 1) := dk_126 (dk_at dksX2_decryptBlock_8 3 rfl rfl)
theorem dX2_decryptBlock_194 : decode cX2_decryptBlock 194 = .ok (.ixor, 1) := dk_130 (dk_at dksX2_decryptBlock_8 4 rfl rfl)
theorem dX2_decryptBlock_195 : decode cX2_decryptBlock 195 = .ok (.istore 5, 2) := dk_54 5 (dk_at dksX2_decryptBlock_8 5 rfl rfl)
theorem dX2_decryptBlock_197 : decode cX2_decryptBlock 197 = .ok (.iinc 13 (-1), 3) := dk_132 13 255 (dk_at dksX2_decryptBlock_8 7 rfl rfl)
theorem dX2_decryptBlock_200 : decode cX2_decryptBlock 200 = .ok (.iload 13, 2) := dk_21 13 (dk_at dksX2_decryptBlock_8 10 rfl rfl)
theorem dX2_decryptBlock_202 : decode cX2_decryptBlock 202 = .ok (.ifCond .ge 6, 3) := dk_156 0 6 (dk_at dksX2_decryptBlock_8 12 rfl rfl)
theorem dX2_decryptBlock_205 : decode cX2_decryptBlock 205 = .ok (.goto 118, 3) := dk_167 0 118 (dk_at dksX2_decryptBlock_8 15 rfl rfl)
theorem dX2_decryptBlock_208 : decode cX2_decryptBlock 208 = .ok (.iload 6, 2) := dk_21 6 (dk_at dksX2_decryptBlock_8 18 rfl rfl)
theorem dX2_decryptBlock_210 : decode cX2_decryptBlock 210 = .ok (.iconst 1, 1) := dk_4 (dk_at dksX2_decryptBlock_8 20 rfl rfl)
theorem dX2_decryptBlock_211 : decode cX2_decryptBlock 211 = .ok (.invokestatic 38, 3) := dk_184 0 38 (dk_at dksX2_decryptBlock_8 21 rfl rfl)
theorem dX2_decryptBlock_214 : decode cX2_decryptBlock 214 = .ok (.istore 6, 2) := dk_54 6 (dk_at dksX2_decryptBlock_9 0 rfl rfl)
theorem dX2_decryptBlock_216 : decode cX2_decryptBlock 216 = .ok (.iload 7, 2) := dk_21 7 (dk_at dksX2_decryptBlock_9 2 rfl rfl)
theorem dX2_decryptBlock_218 : decode cX2_decryptBlock 218 = .ok (.iconst 5, 1) := dk_8 (dk_at dksX2_decryptBlock_9 4 rfl rfl)
theorem dX2_decryptBlock_219 : decode cX2_decryptBlock 219 = .ok (.invokestatic 38, 3) := dk_184 0 38 (dk_at dksX2_decryptBlock_9 5 rfl rfl)
theorem dX2_decryptBlock_222 : decode cX2_decryptBlock 222 = .ok (.istore 7, 2) := dk_54 7 (dk_at dksX2_decryptBlock_9 8 rfl rfl)
theorem dX2_decryptBlock_224 : decode cX2_decryptBlock 224 = .ok (.iload 8, 2) := dk_21 8 (dk_at dksX2_decryptBlock_9 10 rfl rfl)
theorem dX2_decryptBlock_226 : decode cX2_decryptBlock 226 = .ok (.iconst 2, 1) := dk_5 (dk_at dksX2_decryptBlock_9 12 rfl rfl)
theorem dX2_decryptBlock_227 : decode cX2_decryptBlock 227 = .ok (.invokestatic 38, 3) := dk_184 0 38 (dk_at dksX2_decryptBlock_9 13 rfl rfl)
theorem dX2_decryptBlock_230 : decode cX2_decryptBlock 230 = .ok (.istore 8, 2) := dk_54 8 (dk_at dksX2_decryptBlock_9 16 rfl rfl)
theorem dX2_decryptBlock_232 : decode cX2_decryptBlock 232 = .ok (.iload 8, 2) := dk_21 8 (dk_at dksX2_decryptBlock_9 18 rfl rfl)
theorem dX2_decryptBlock_234 : decode cX2_decryptBlock 234 = .ok (.istore 14, 2) := dk_54 14 (dk_at dksX2_decryptBlock_9 20 rfl rfl)
theorem dX2_decryptBlock_236 : decode cX2_decryptBlock 236 = .ok (.iload 6, 2) := dk_21 6 (dk_at dksX2_decryptBlock_9 22 rfl rfl)
theorem dX2_decryptBlock_238 : decode cX2_decryptBlock 238 = .ok (.iload 8, 2) := dk_21 8 (dk_at dksX2_decryptBlock_10 0 rfl rfl)
theorem dX2_decryptBlock_240 : decode cX2_decryptBlock 240 = .ok (.iload 7, 2) := dk_21 7 (dk_at dksX2_decryptBlock_10 2 rfl rfl)
theorem dX2_decryptBlock_242 : decode cX2_decryptBlock 242 = .ok (.ior, 1) := dk_128 (dk_at dksX2_decryptBlock_10 4 rfl rfl)
theorem dX2_decryptBlock_243 : decode cX2_decryptBlock 243 = .ok (.ixor, 1) := dk_130 (dk_at dksX2_decryptBlock_10 5 rfl rfl)
theorem dX2_decryptBlock_244 : decode cX2_decryptBlock 244 = .ok (.istore 6, 2) := dk_54 6 (dk_at dksX2_decryptBlock_10 6 rfl rfl)
theorem dX2_decryptBlock_246 : decode cX2_decryptBlock 246 = .ok (.iload 5, 2) := dk_21 5 (dk_at dksX2_decryptBlock_10 8 rfl rfl)
theorem dX2_decryptBlock_248 : decode cX2_decryptBlock 248 = .ok (.iload 7, 2) := dk_21 7 (dk_at dksX2_decryptBlock_10 10 rfl rfl)
theorem dX2_decryptBlock_250 : decode cX2_decryptBlock 250 = .ok (.iload 6, 2) := dk_21 6 (dk_at dksX2_decryptBlock_10 12 rfl rfl)
theorem dX2_decryptBlock_252 : decode cX2_decryptBlock 252 = .ok (.iconst (-1), 1) := dk_2 (dk_at dksX2_decryptBlock_10 14 rfl rfl)
theorem dX2_decryptBlock_253 : decode cX2_decryptBlock 253 = .ok (.ixor, 1) := dk_130 (dk_at dksX2_decryptBlock_10 15 rfl rfl)
theorem dX2_decryptBlock_254 : decode cX2_decryptBlock 254 = .ok (.iand, 1) := dk_126 (dk_at dksX2_decryptBlock_10 16 rfl rfl)
theorem dX2_decryptBlock_255 : decode cX2_decryptBlock 255 = .ok (.ixor, 1) := dk_130 (dk_at dksX2_decryptBlock_10 17 rfl rfl)
theorem dX2_decryptBlock_256 : decode cX2_decryptBlock 256 = .ok (.istore 8, 2) := dk_54 8 (dk_at dksX2_decryptBlock_10 18 rfl rfl)
theorem dX2_decryptBlock_258 : decode cX2_decryptBlock 258 = .ok (.iload 14, 2) := dk_21 14 (dk_at dksX2_decryptBlock_10 20 rfl rfl)
theorem dX2_decryptBlock_260 : decode cX2_decryptBlock 260 = .ok (.iload 6, 2) := dk_21 6 (dk_at dksX2_decryptBlock_10 22 rfl rfl)
theorem dX2_decryptBlock_262 : decode cX2_decryptBlock 262 = .ok (.iconst (-1), 1) := dk_2 (dk_at dksX2_decryptBlock_11 0 rfl rfl)
theorem dX2_decryptBlock_263 : decode cX2_decryptBlock 263 = .ok (.ixor, 1) := dk_130 (dk_at dksX2_decryptBlock_11 1 rfl rfl)
theorem dX2_decryptBlock_264 : decode cX2_decryptBlock 264 = .ok (.ixor, 1) := dk_130 (dk_at dksX2_decryptBlock_11 2 rfl rfl)
theorem dX2_decryptBlock_265 : decode cX2_decryptBlock 265 = .ok (.iload 7, 2) := dk_21 7 (dk_at dksX2_decryptBlock_11 3 rfl rfl)
theorem dX2_decryptBlock_267 : decode cX2_decryptBlock 267 = .ok (.ixor, 1) := dk_130 (dk_at dksX2_decryptBlock_11 5 rfl rfl)
theorem dX2_decryptBlock_268 : decode cX2_decryptBlock 268 = .ok (.iload 8, 2) := dk_21 8 (dk_at dksX2_decryptBlock_11 6 rfl rfl)
theorem dX2_decryptBlock_270 : decode cX2_decryptBlock 270 = .ok (.ixor, 1) := dk_130 (dk_at dksX2_decryptBlock_11 8 rfl rfl)
theorem dX2_decryptBlock_271 : decode cX2_decryptBlock 271 = .ok (.istore 7, 2) := dk_54 7 (dk_at dksX2_decryptBlock_11 9 rfl rfl)
theorem dX2_decryptBlock_273 : decode cX2_decryptBlock 273 = .ok (.iload 6, 2) := dk_21 6 (dk_at dksX2_decryptBlock_11 11 rfl rfl)
theorem dX2_decryptBlock_275 : decode cX2_decryptBlock 275 = .ok (.iload 8, 2) := dk_21 8 (dk_at dksX2_decryptBlock_11 13 rfl rfl)
theorem dX2_decryptBlock_277 : decode cX2_decryptBlock 277 = .ok (.iload 7, 2) := dk_21 7 (dk_at dksX2_decryptBlock_11 15 rfl rfl)
theorem dX2_decryptBlock_279 : decode cX2_decryptBlock 279 = .ok (.ior, 1) := dk_128 (dk_at dksX2_decryptBlock_11 17 rfl rfl)
theorem dX2_decryptBlock_280 : decode cX2_decryptBlock 280 = .ok (.ixor, 1) := dk_130 (dk_at dksX2_decryptBlock_11 18 rfl rfl)
theorem dX2_decryptBlock_281 : decode cX2_decryptBlock 281 = .ok (.istore 6, 2) := dk_54 6 (dk_at dksX2_decryptBlock_11 19 rfl rfl)
theorem dX2_decryptBlock_283 : decode cX2_decryptBlock 283 = .ok (.iload 14, 2) := dk_21 14 (dk_at dksX2_decryptBlock_11 21 rfl rfl)
theorem dX2_decryptBlock_285 : decode cX2_decryptBlock 285 = .ok (.iload 7, 2) := dk_21 7 (dk_at dksX2_decryptBlock_12 0 rfl rfl)
theorem dX2_decryptBlock_287 : decode cX2_decryptBlock 287 = .ok (.iload 6, 2) := dk_21 6 (dk_at dksX2_decryptBlock_12 2 rfl rfl)
theorem dX2_decryptBlock_289 : decode cX2_decryptBlock 289 = .ok (.iand, 1) := dk_126 (dk_at dksX2_decryptBlock_12 4 rfl rfl)
theorem dX2_decryptBlock_290 : decode cX2_decryptBlock 290 = .ok (.ixor, 1) := dk_130 (dk_at dksX2_decryptBlock_12 5 rfl rfl)
theorem dX2_decryptBlock_291 : decode cX2_decryptBlock 291 = .ok (.istore 5, 2) := dk_54 5 (dk_at dksX2_decryptBlock_12 6 rfl rfl)
theorem dX2_decryptBlock_293 : decode cX2_decryptBlock 293 = .ok (.iload 6, 2) := dk_21 6 (dk_at dksX2_decryptBlock_12 8 rfl rfl)
theorem dX2_decryptBlock_295 : decode cX2_decryptBlock 295 = .ok (.bipush 31, 2) := dk_16 31 (dk_at dksX2_decryptBlock_12 10 rfl rfl)
theorem dX2_decryptBlock_297 : decode cX2_decryptBlock 297 = .ok (.invokestatic 38, 3) := dk_184 0 38 (dk_at dksX2_decryptBlock_12 12 rfl rfl)
theorem dX2_decryptBlock_300 : decode cX2_decryptBlock 300 = .ok (.istore 6, 2) := dk_54 6 (dk_at dksX2_decryptBlock_12 15 rfl rfl)
theorem dX2_decryptBlock_302 : decode cX2_decryptBlock 302 = .ok (.iload 7, 2) := dk_21 7 (dk_at dksX2_decryptBlock_12 17 rfl rfl)
theorem dX2_decryptBlock_304 : decode cX2_decryptBlock 304 = .ok (.bipush 27, 2) := dk_16 27 (dk_at dksX2_decryptBlock_12 19 rfl rfl)
theorem dX2_decryptBlock_306 : decode cX2_decryptBlock 306 = .ok (.invokestatic 38, 3) := dk_184 0 38 (dk_at dksX2_decryptBlock_12 21 rfl rfl)
theorem dX2_decryptBlock_309 : decode cX2_decryptBlock 309 = .ok (.istore 7, 2) := dk_54 7 (dk_at dksX2_decryptBlock_13 0 rfl rfl)
theorem dX2_decryptBlock_311 : decode cX2_decryptBlock 311 = .ok (.iload 8, 2) := dk_21 8 (dk_at dksX2_decryptBlock_13 2 rfl rfl)
theorem dX2_decryptBlock_313 : decode cX2_decryptBlock 313 = .ok (.bipush 30, 2) := dk_16 30 (dk_at dksX2_decryptBlock_13 4 rfl rfl)
theorem dX2_decryptBlock_315 : decode cX2_decryptBlock 315 = .ok (.invokestatic 38, 3) := dk_184 0 38 (dk_at dksX2_decryptBlock_13 6 rfl rfl)
theorem dX2_decryptBlock_318 : decode cX2_decryptBlock 318 = .ok (.istore 8, 2) := dk_54 8 (dk_at dksX2_decryptBlock_13 9 rfl rfl)
theorem dX2_decryptBlock_320 : decode cX2_decryptBlock 320 = .ok (.goto (-248), 3) := dk_167 255 8 (dk_at dksX2_decryptBlock_13 11 rfl rfl)
theorem dX2_decryptBlock_323 : decode cX2_decryptBlock 323 = .ok (.iload 5, 2) := dk_21 5 (dk_at dksX2_decryptBlock_13 14 rfl rfl)
theorem dX2_decryptBlock_325 : decode cX2_decryptBlock 325 = .ok (.aload_n 3, 1) := dk_45 (dk_at dksX2_decryptBlock_13 16 rfl rfl)
theorem dX2_decryptBlock_326 : decode cX2_decryptBlock 326 = .ok (.iload 4, 2) := dk_21 4 (dk_at dksX2_decryptBlock_13 17 rfl rfl)
theorem dX2_decryptBlock_328 : decode cX2_decryptBlock 328 = .ok (.invokestatic 74, 3) := dk_184 0 74 (dk_at dksX2_decryptBlock_13 19 rfl rfl)
theorem dX2_decryptBlock_331 : decode cX2_decryptBlock 331 = .ok (.iload 6, 2) := dk_21 6 (dk_at dksX2_decryptBlock_13 22 rfl rfl)
theorem dX2_decryptBlock_333 : decode cX2_decryptBlock 333 = .ok (.aload_n 3, 1) := dk_45 (dk_at dksX2_decryptBlock_14 0 rfl rfl)
theorem dX2_decryptBlock_334 : decode cX2_decryptBlock 334 = .ok (.iload 4, 2) := dk_21 4 (dk_at dksX2_decryptBlock_14 1 rfl rfl)
theorem dX2_decryptBlock_336 : decode cX2_decryptBlock 336 = .ok (.iconst 4, 1) := dk_7 (dk_at dksX2_decryptBlock_14 3 rfl rfl)
theorem dX2_decryptBlock_337 : decode cX2_decryptBlock 337 = .ok (.iadd, 1) := dk_96 (dk_at dksX2_decryptBlock_14 4 rfl rfl)
theorem dX2_decryptBlock_338 : decode cX2_decryptBlock 338 = .ok (.invokestatic 74, 3) := dk_184 0 74 (dk_at dksX2_decryptBlock_14 5 rfl rfl)
theorem dX2_decryptBlock_341 : decode cX2_decryptBlock 341 = .ok (.iload 7, 2) := dk_21 7 (dk_at dksX2_decryptBlock_14 8 rfl rfl)
theorem dX2_decryptBlock_343 : decode cX2_decryptBlock 343 = .ok (.aload_n 3, 1) := dk_45 (dk_at dksX2_decryptBlock_14 10 rfl rfl)
theorem dX2_decryptBlock_344 : decode cX2_decryptBlock 344 = .ok (.iload 4, 2) := dk_21 4 (dk_at dksX2_decryptBlock_14 11 rfl rfl)
theorem dX2_decryptBlock_346 : decode cX2_decryptBlock 346 = .ok (.bipush 8, 2) := dk_16 8 (dk_at dksX2_decryptBlock_14 13 rfl rfl)
theorem dX2_decryptBlock_348 : decode cX2_decryptBlock 348 = .ok (.iadd, 1) := dk_96 (dk_at dksX2_decryptBlock_14 15 rfl rfl)
theorem dX2_decryptBlock_349 : decode cX2_decryptBlock 349 = .ok (.invokestatic 74, 3) := dk_184 0 74 (dk_at dksX2_decryptBlock_14 16 rfl rfl)
theorem dX2_decryptBlock_352 : decode cX2_decryptBlock 352 = .ok (.iload 8, 2) := dk_21 8 (dk_at dksX2_decryptBlock_14 19 rfl rfl)
theorem dX2_decryptBlock_354 : decode cX2_decryptBlock 354 = .ok (.aload_n 3, 1) := dk_45 (dk_at dksX2_decryptBlock_14 21 rfl rfl)
theorem dX2_decryptBlock_355 : decode cX2_decryptBlock 355 = .ok (.iload 4, 2) := dk_21 4 (dk_at dksX2_decryptBlock_14 22 rfl rfl)
theorem dX2_decryptBlock_357 : decode cX2_decryptBlock 357 = .ok (.bipush 12, 2) := dk_16 12 (dk_at dksX2_decryptBlock_15 0 rfl rfl)
theorem dX2_decryptBlock_359 : decode cX2_decryptBlock 359 = .ok (.iadd, 1) := dk_96 (dk_at dksX2_decryptBlock_15 2 rfl rfl)
theorem dX2_decryptBlock_360 : decode cX2_decryptBlock 360 = .ok (.invokestatic 74, 3) := dk_184 0 74 (dk_at dksX2_decryptBlock_15 3 rfl rfl)
theorem dX2_decryptBlock_363 : decode cX2_decryptBlock 363 = .ok (.bipush 16, 2) := dk_16 16 (dk_at dksX2_decryptBlock_15 6 rfl rfl)
theorem dX2_decryptBlock_365 : decode cX2_decryptBlock 365 = .ok (.ireturn, 1) := dk_172 (dk_at dksX2_decryptBlock_15 8 rfl rfl)
theorem q6 : (Jvm.Cond.initialized "NoekeonEngine") ∈ lw_all := lw_g (lw_at lw_m1 2 rfl) rfl
theorem q33 : (Jvm.Cond.instantiable "NoekeonEngine" (3 : Nat)) ∈ lw_all := lw_g (lw_at lw_m1 29 rfl) rfl
theorem q35 : (Jvm.Cond.instanceMethod ({ cls := "NoekeonEngine", name := "<init>", desc := "()V" } : Jvm.MethodName)) ∈ lw_all := lw_g (lw_at lw_m1 31 rfl) rfl
theorem q36 : (Jvm.Cond.code ({ cls := "NoekeonEngine", name := "<init>", desc := "()V" } : Jvm.MethodName) prog_8_method_1_code (1 : Nat) (Option.none : Option Jvm.ClassFile.FieldType)) ∈ lw_all := lw_g (lw_at lw_m1 32 rfl) rfl
theorem q37 : (Jvm.Cond.methodLink "NoekeonEngine" (1 : Nat) ({ cls := "java/lang/Object", name := "<init>", desc := "()V" } : Jvm.MethodName)) ∈ lw_all := lw_g (lw_at lw_m1 33 rfl) rfl
theorem q40 : (Jvm.Cond.fieldLink "NoekeonEngine" (7 : Nat) "NoekeonEngine" "k" "[I") ∈ lw_all := lw_g (lw_at lw_m1 36 rfl) rfl
theorem q41 : (Jvm.Cond.fieldLink "NoekeonEngine" (13 : Nat) "NoekeonEngine" "_initialised" "Z") ∈ lw_all := lw_g (lw_at lw_m1 37 rfl) rfl
theorem q42 : (Jvm.Cond.fieldLink "NoekeonEngine" (44 : Nat) "NoekeonEngine" "_forEncryption" "Z") ∈ lw_all := lw_g (lw_at lw_m1 38 rfl) rfl
theorem q43 : (Jvm.Cond.laysFinal "NoekeonEngine" "NoekeonEngine" "k" "[I") ∈ lw_all := lw_g (lw_at lw_m1 39 rfl) rfl
theorem q44 : (Jvm.Cond.soleField "NoekeonEngine" "k") ∈ lw_all := lw_g (lw_at lw_m1 40 rfl) rfl
theorem q45 : (Jvm.Cond.lays "NoekeonEngine" "NoekeonEngine" "_initialised" "Z") ∈ lw_all := lw_g (lw_at lw_m1 41 rfl) rfl
theorem q46 : (Jvm.Cond.soleField "NoekeonEngine" "_initialised") ∈ lw_all := lw_g (lw_at lw_m1 42 rfl) rfl
theorem q47 : (Jvm.Cond.lays "NoekeonEngine" "NoekeonEngine" "_forEncryption" "Z") ∈ lw_all := lw_g (lw_at lw_m1 43 rfl) rfl
theorem q48 : (Jvm.Cond.soleField "NoekeonEngine" "_forEncryption") ∈ lw_all := lw_g (lw_at lw_m1 44 rfl) rfl
theorem q49 : (Jvm.Cond.superclass "NoekeonEngine" "java/lang/Object") ∈ lw_all := lw_g (lw_at lw_m1 45 rfl) rfl
theorem q75 : (Jvm.Cond.castable "NoekeonEngine" "BlockCipher") ∈ lw_tbl := lw_at lw_m1 71 rfl
theorem q76 : (Jvm.Cond.selects "NoekeonEngine" ({ cls := "BlockCipher", name := "init", desc := "(ZLCipherParameters;)V" } : Jvm.MethodName) ({ cls := "NoekeonEngine", name := "init", desc := "(ZLCipherParameters;)V" } : Jvm.MethodName)) ∈ lw_all := lw_g (lw_at lw_m1 72 rfl) rfl
theorem q77 : (Jvm.Cond.unhidden "NoekeonEngine" "init" "(ZLCipherParameters;)V") ∈ lw_tbl := lw_at lw_m1 73 rfl
theorem q78 : (Jvm.Cond.instanceMethod ({ cls := "NoekeonEngine", name := "init", desc := "(ZLCipherParameters;)V" } : Jvm.MethodName)) ∈ lw_all := lw_g (lw_at lw_m1 74 rfl) rfl
theorem q79 : (Jvm.Cond.publicMethod ({ cls := "NoekeonEngine", name := "init", desc := "(ZLCipherParameters;)V" } : Jvm.MethodName)) ∈ lw_tbl := lw_at lw_m1 75 rfl
theorem q80 : (Jvm.Cond.code ({ cls := "NoekeonEngine", name := "init", desc := "(ZLCipherParameters;)V" } : Jvm.MethodName) prog_8_method_2_code (11 : Nat) (Option.none : Option Jvm.ClassFile.FieldType)) ∈ lw_all := lw_g (lw_at lw_m1 76 rfl) rfl
theorem q81 : (Jvm.Cond.classLink "NoekeonEngine" (17 : Nat) "KeyParameter") ∈ lw_all := lw_g (lw_at lw_m1 77 rfl) rfl
theorem q82 : (Jvm.Cond.classLink "NoekeonEngine" (19 : Nat) "java/lang/IllegalArgumentException") ∈ lw_all := lw_g (lw_at lw_m1 78 rfl) rfl
theorem q124 : (Jvm.Cond.stringRef "NoekeonEngine" (21 : Nat) "left out") ∈ lw_tbl := lw_at lw_m1 120 rfl
theorem q125 : (Jvm.Cond.methodLink "NoekeonEngine" (23 : Nat) ({ cls := "java/lang/IllegalArgumentException", name := "<init>", desc := "(Ljava/lang/String;)V" } : Jvm.MethodName)) ∈ lw_all := lw_g (lw_at lw_m1 121 rfl) rfl
theorem q150 : (Jvm.Cond.methodLink "NoekeonEngine" (26 : Nat) ({ cls := "KeyParameter", name := "getKey", desc := "()[B" } : Jvm.MethodName)) ∈ lw_all := lw_g (lw_at lw_m1 146 rfl) rfl
theorem q154 : (Jvm.Cond.stringRef "NoekeonEngine" (30 : Nat) "Key length not 128 bits.") ∈ lw_tbl := lw_at lw_m1 150 rfl
theorem q155 : (Jvm.Cond.methodLink "NoekeonEngine" (32 : Nat) ({ cls := "Pack", name := "bigEndianToInt", desc := "([BI[III)V" } : Jvm.MethodName)) ∈ lw_all := lw_g (lw_at lw_m1 151 rfl) rfl
theorem q161 : (Jvm.Cond.methodLink "NoekeonEngine" (38 : Nat) ({ cls := "Integers", name := "rotateLeft", desc := "(II)I" } : Jvm.MethodName)) ∈ lw_all := lw_g (lw_at lw_m1 157 rfl) rfl
theorem q171 : (Jvm.Cond.selects "NoekeonEngine" ({ cls := "BlockCipher", name := "processBlock", desc := "([BI[BI)I" } : Jvm.MethodName) ({ cls := "NoekeonEngine", name := "processBlock", desc := "([BI[BI)I" } : Jvm.MethodName)) ∈ lw_all := lw_g (lw_at lw_m1 167 rfl) rfl
theorem q172 : (Jvm.Cond.unhidden "NoekeonEngine" "processBlock" "([BI[BI)I") ∈ lw_tbl := lw_at lw_m1 168 rfl
theorem q173 : (Jvm.Cond.instanceMethod ({ cls := "NoekeonEngine", name := "processBlock", desc := "([BI[BI)I" } : Jvm.MethodName)) ∈ lw_all := lw_g (lw_at lw_m1 169 rfl) rfl
theorem q174 : (Jvm.Cond.publicMethod ({ cls := "NoekeonEngine", name := "processBlock", desc := "([BI[BI)I" } : Jvm.MethodName)) ∈ lw_tbl := lw_at lw_m1 170 rfl
theorem q175 : (Jvm.Cond.code ({ cls := "NoekeonEngine", name := "processBlock", desc := "([BI[BI)I" } : Jvm.MethodName) prog_8_method_3_code (5 : Nat) (Option.some Jvm.ClassFile.FieldType.int)) ∈ lw_all := lw_g (lw_at lw_m1 171 rfl) rfl
theorem q176 : (Jvm.Cond.classLink "NoekeonEngine" (47 : Nat) "java/lang/IllegalStateException") ∈ lw_all := lw_g (lw_at lw_m1 172 rfl) rfl
theorem q185 : (Jvm.Cond.methodLink "NoekeonEngine" (49 : Nat) ({ cls := "java/lang/IllegalStateException", name := "<init>", desc := "(Ljava/lang/String;)V" } : Jvm.MethodName)) ∈ lw_all := lw_g (lw_at lw_m1 181 rfl) rfl
theorem q191 : (Jvm.Cond.classLink "NoekeonEngine" (50 : Nat) "DataLengthException") ∈ lw_all := lw_g (lw_at lw_m1 187 rfl) rfl
theorem q201 : (Jvm.Cond.stringRef "NoekeonEngine" (52 : Nat) "input buffer too short") ∈ lw_tbl := lw_at lw_m1 197 rfl
theorem q202 : (Jvm.Cond.methodLink "NoekeonEngine" (54 : Nat) ({ cls := "DataLengthException", name := "<init>", desc := "(Ljava/lang/String;)V" } : Jvm.MethodName)) ∈ lw_all := lw_g (lw_at lw_m1 198 rfl) rfl
theorem q211 : (Jvm.Cond.classLink "NoekeonEngine" (55 : Nat) "OutputLengthException") ∈ lw_all := lw_g (lw_at lw_m1 207 rfl) rfl
theorem q221 : (Jvm.Cond.stringRef "NoekeonEngine" (57 : Nat) "output buffer too short") ∈ lw_tbl := lw_at lw_m1 217 rfl
theorem q222 : (Jvm.Cond.methodLink "NoekeonEngine" (59 : Nat) ({ cls := "OutputLengthException", name := "<init>", desc := "(Ljava/lang/String;)V" } : Jvm.MethodName)) ∈ lw_all := lw_g (lw_at lw_m1 218 rfl) rfl
theorem q228 : (Jvm.Cond.methodLink "NoekeonEngine" (60 : Nat) ({ cls := "NoekeonEngine", name := "encryptBlock", desc := "([BI[BI)I" } : Jvm.MethodName)) ∈ lw_all := lw_g (lw_at lw_m1 224 rfl) rfl
theorem q229 : (Jvm.Cond.privateMethod ({ cls := "NoekeonEngine", name := "encryptBlock", desc := "([BI[BI)I" } : Jvm.MethodName)) ∈ lw_tbl := lw_at lw_m1 225 rfl
theorem q230 : (Jvm.Cond.instanceMethod ({ cls := "NoekeonEngine", name := "encryptBlock", desc := "([BI[BI)I" } : Jvm.MethodName)) ∈ lw_all := lw_g (lw_at lw_m1 226 rfl) rfl
theorem q231 : (Jvm.Cond.code ({ cls := "NoekeonEngine", name := "encryptBlock", desc := "([BI[BI)I" } : Jvm.MethodName) prog_8_method_4_code (16 : Nat) (Option.some Jvm.ClassFile.FieldType.int)) ∈ lw_all := lw_g (lw_at lw_m1 227 rfl) rfl
theorem q232 : (Jvm.Cond.methodLink "NoekeonEngine" (67 : Nat) ({ cls := "Pack", name := "bigEndianToInt", desc := "([BI)I" } : Jvm.MethodName)) ∈ lw_all := lw_g (lw_at lw_m1 228 rfl) rfl
theorem q233 : (Jvm.Cond.fieldLink "NoekeonEngine" (70 : Nat) "NoekeonEngine" "roundConstants" "[B") ∈ lw_all := lw_g (lw_at lw_m1 229 rfl) rfl
theorem q234 : (Jvm.Cond.laysStatic "NoekeonEngine" "roundConstants" "[B") ∈ lw_tbl := lw_at lw_m1 230 rfl
theorem q235 : (Jvm.Cond.methodLink "NoekeonEngine" (74 : Nat) ({ cls := "Pack", name := "intToBigEndian", desc := "(I[BI)V" } : Jvm.MethodName)) ∈ lw_all := lw_g (lw_at lw_m1 231 rfl) rfl
theorem q238 : (Jvm.Cond.methodLink "NoekeonEngine" (64 : Nat) ({ cls := "NoekeonEngine", name := "decryptBlock", desc := "([BI[BI)I" } : Jvm.MethodName)) ∈ lw_all := lw_g (lw_at lw_m1 234 rfl) rfl
theorem q239 : (Jvm.Cond.privateMethod ({ cls := "NoekeonEngine", name := "decryptBlock", desc := "([BI[BI)I" } : Jvm.MethodName)) ∈ lw_tbl := lw_at lw_m1 235 rfl
theorem q240 : (Jvm.Cond.instanceMethod ({ cls := "NoekeonEngine", name := "decryptBlock", desc := "([BI[BI)I" } : Jvm.MethodName)) ∈ lw_all := lw_g (lw_at lw_m1 236 rfl) rfl
theorem q241 : (Jvm.Cond.code ({ cls := "NoekeonEngine", name := "decryptBlock", desc := "([BI[BI)I" } : Jvm.MethodName) prog_8_method_5_code (16 : Nat) (Option.some Jvm.ClassFile.FieldType.int)) ∈ lw_all := lw_g (lw_at lw_m1 237 rfl) rfl
theorem in_X2 : ∀ w ∈ wsX20, w ∈ lw_all := lw_in wsX20 [43, 45, 47] (by decide +kernel) (by decide +kernel)
/-! NoekeonDesk -/
set_option maxRecDepth 100000
def RX1 : String := "NoekeonDesk"
def TX1 : u_T := fun k => match k with
  | 0 => ("NoekeonDesk", "key", "[B", true)
  | 1 => ("NoekeonDesk", "block", "[B", true)
  | _ => ("NoekeonDesk", "out", "[B", true)
def tyX1 : Nat → FieldType := fun k => match k with
  | 0 => .array .byte
  | 1 => .array .byte
  | _ => .array .byte
abbrev wsX10 : List Cond := u_ws RX1 TX1 3
theorem nmX1 : ∀ a, a < 3 → ∀ b, b < 3 → a ≠ b → (TX1 a).2.1 ≠ (TX1 b).2.1 := by decide +kernel
theorem tyX1_ok : ∀ k, k < 3 → parseFieldDescriptor (TX1 k).2.2.1 = some (tyX1 k) := by decide +kernel
abbrev cX1_lock : ByteArray := prog_6_method_7_code
def yX1_lock : MethodName := ⟨RX1, "lock", "(I)V"⟩
def dkwX1_lock_0 : List UInt8 := [42, 4, 27, 182, 0, 45, 177]
abbrev dktX1_lock_0 : List UInt8 := dkwX1_lock_0 ++ []
theorem dksX1_lock_0 : cX1_lock.data.toList.drop 0 = dktX1_lock_0 := by decide +kernel
theorem dX1_lock_0 : decode cX1_lock 0 = .ok (.aload_n 0, 1) := dk_42 (dk_at dksX1_lock_0 0 rfl rfl)
theorem dX1_lock_1 : decode cX1_lock 1 = .ok (.iconst 1, 1) := dk_4 (dk_at dksX1_lock_0 1 rfl rfl)
theorem dX1_lock_2 : decode cX1_lock 2 = .ok (.iload_n 1, 1) := dk_27 (dk_at dksX1_lock_0 2 rfl rfl)
theorem dX1_lock_3 : decode cX1_lock 3 = .ok (.invokevirtual 45, 3) := dk_182 0 45 (dk_at dksX1_lock_0 3 rfl rfl)
theorem dX1_lock_6 : decode cX1_lock 6 = .ok (.return_, 1) := dk_177 (dk_at dksX1_lock_0 6 rfl rfl)
abbrev cX1_run : ByteArray := prog_6_method_5_code
def yX1_run : MethodName := ⟨RX1, "run", "(ZI)V"⟩
def dkwX1_run_3 : List UInt8 := [180, 0, 13, 3, 42, 180, 0, 16, 3, 185, 0, 41, 5, 0, 87, 177]
abbrev dktX1_run_3 : List UInt8 := dkwX1_run_3 ++ []
def dkwX1_run_2 : List UInt8 := [58, 5, 25, 5, 27, 187, 0, 30, 89, 25, 4, 183, 0, 32, 185, 0, 35, 3, 0, 25, 5, 42]
abbrev dktX1_run_2 : List UInt8 := dkwX1_run_2 ++ dktX1_run_3
def dkwX1_run_1 : List UInt8 := [21, 5, 42, 180, 0, 7, 21, 5, 51, 84, 132, 5, 1, 167, 255, 235, 187, 0, 27, 89, 183, 0, 29]
abbrev dktX1_run_1 : List UInt8 := dkwX1_run_1 ++ dktX1_run_2
def dkwX1_run_0 : List UInt8 := [28, 6, 126, 184, 0, 23, 62, 29, 188, 8, 58, 4, 3, 54, 5, 21, 5, 29, 162, 0, 21, 25, 4]
abbrev dktX1_run_0 : List UInt8 := dkwX1_run_0 ++ dktX1_run_1
theorem dksX1_run_0 : cX1_run.data.toList.drop 0 = dktX1_run_0 := by decide +kernel
theorem dksX1_run_1 : cX1_run.data.toList.drop 23 = dktX1_run_1 := dk_seg dksX1_run_0 23 rfl rfl
theorem dksX1_run_2 : cX1_run.data.toList.drop 46 = dktX1_run_2 := dk_seg dksX1_run_1 23 rfl rfl
theorem dksX1_run_3 : cX1_run.data.toList.drop 68 = dktX1_run_3 := dk_seg dksX1_run_2 22 rfl rfl
theorem dX1_run_0 : decode cX1_run 0 = .ok (.iload_n 2, 1) := dk_28 (dk_at dksX1_run_0 0 rfl rfl)
theorem dX1_run_1 : decode cX1_run 1 = .ok (.iconst 3, 1) := dk_6 (dk_at dksX1_run_0 1 rfl rfl)
theorem dX1_run_2 : decode cX1_run 2 = .ok (.iand, 1) := dk_126 (dk_at dksX1_run_0 2 rfl rfl)
theorem dX1_run_3 : decode cX1_run 3 = .ok (.invokestatic 23, 3) := dk_184 0 23 (dk_at dksX1_run_0 3 rfl rfl)
theorem dX1_run_6 : decode cX1_run 6 = .ok (.istore_n 3, 1) := dk_62 (dk_at dksX1_run_0 6 rfl rfl)
theorem dX1_run_7 : decode cX1_run 7 = .ok (.iload_n 3, 1) := dk_29 (dk_at dksX1_run_0 7 rfl rfl)
theorem dX1_run_8 : decode cX1_run 8 = .ok (.newarray .byte, 2) := dk_188_8 (dk_at dksX1_run_0 8 rfl rfl)
theorem dX1_run_10 : decode cX1_run 10 = .ok (.astore 4, 2) := dk_58 4 (dk_at dksX1_run_0 10 rfl rfl)
theorem dX1_run_12 : decode cX1_run 12 = .ok (.iconst 0, 1) := dk_3 (dk_at dksX1_run_0 12 rfl rfl)
theorem dX1_run_13 : decode cX1_run 13 = .ok (.istore 5, 2) := dk_54 5 (dk_at dksX1_run_0 13 rfl rfl)
theorem dX1_run_15 : decode cX1_run 15 = .ok (.iload 5, 2) := dk_21 5 (dk_at dksX1_run_0 15 rfl rfl)
theorem dX1_run_17 : decode cX1_run 17 = .ok (.iload_n 3, 1) := dk_29 (dk_at dksX1_run_0 17 rfl rfl)
theorem dX1_run_18 : decode cX1_run 18 = .ok (.if_icmp .ge 21, 3) := dk_162 0 21 (dk_at dksX1_run_0 18 rfl rfl)
theorem dX1_run_21 : decode cX1_run 21 = .ok (.aload 4, 2) := dk_25 4 (dk_at dksX1_run_0 21 rfl rfl)
theorem dX1_run_23 : decode cX1_run 23 = .ok (.iload 5, 2) := dk_21 5 (dk_at dksX1_run_1 0 rfl rfl)
theorem dX1_run_25 : decode cX1_run 25 = .ok (.aload_n 0, 1) := dk_42 (dk_at dksX1_run_1 2 rfl rfl)
theorem dX1_run_26 : decode cX1_run 26 = .ok (.getfield 7, 3) := dk_180 0 7 (dk_at dksX1_run_1 3 rfl rfl)
theorem dX1_run_29 : decode cX1_run 29 = .ok (.iload 5, 2) := dk_21 5 (dk_at dksX1_run_1 6 rfl rfl)
theorem dX1_run_31 : decode cX1_run 31 = .ok (.baload, 1) := dk_51 (dk_at dksX1_run_1 8 rfl rfl)
theorem dX1_run_32 : decode cX1_run 32 = .ok (.bastore, 1) := dk_84 (dk_at dksX1_run_1 9 rfl rfl)
theorem dX1_run_33 : decode cX1_run 33 = .ok (.iinc 5 1, 3) := dk_132 5 1 (dk_at dksX1_run_1 10 rfl rfl)
theorem dX1_run_36 : decode cX1_run 36 = .ok (.goto (-21), 3) := dk_167 255 235 (dk_at dksX1_run_1 13 rfl rfl)
theorem dX1_run_39 : decode cX1_run 39 = .ok (.new 27, 3) := dk_187 0 27 (dk_at dksX1_run_1 16 rfl rfl)
theorem dX1_run_42 : decode cX1_run 42 = .ok (.dup, 1) := dk_89 (dk_at dksX1_run_1 19 rfl rfl)
theorem dX1_run_43 : decode cX1_run 43 = .ok (.invokespecial 29, 3) := dk_183 0 29 (dk_at dksX1_run_1 20 rfl rfl)
theorem dX1_run_46 : decode cX1_run 46 = .ok (.astore 5, 2) := dk_58 5 (dk_at dksX1_run_2 0 rfl rfl)
theorem dX1_run_48 : decode cX1_run 48 = .ok (.aload 5, 2) := dk_25 5 (dk_at dksX1_run_2 2 rfl rfl)
theorem dX1_run_50 : decode cX1_run 50 = .ok (.iload_n 1, 1) := dk_27 (dk_at dksX1_run_2 4 rfl rfl)
theorem dX1_run_51 : decode cX1_run 51 = .ok (.new 30, 3) := dk_187 0 30 (dk_at dksX1_run_2 5 rfl rfl)
theorem dX1_run_54 : decode cX1_run 54 = .ok (.dup, 1) := dk_89 (dk_at dksX1_run_2 8 rfl rfl)
theorem dX1_run_55 : decode cX1_run 55 = .ok (.aload 4, 2) := dk_25 4 (dk_at dksX1_run_2 9 rfl rfl)
theorem dX1_run_57 : decode cX1_run 57 = .ok (.invokespecial 32, 3) := dk_183 0 32 (dk_at dksX1_run_2 11 rfl rfl)
theorem dX1_run_60 : decode cX1_run 60 = .ok (.invokeinterface 35 3, 5) := by decide +kernel
theorem dX1_run_65 : decode cX1_run 65 = .ok (.aload 5, 2) := dk_25 5 (dk_at dksX1_run_2 19 rfl rfl)
theorem dX1_run_67 : decode cX1_run 67 = .ok (.aload_n 0, 1) := dk_42 (dk_at dksX1_run_2 21 rfl rfl)
theorem dX1_run_68 : decode cX1_run 68 = .ok (.getfield 13, 3) := dk_180 0 13 (dk_at dksX1_run_3 0 rfl rfl)
theorem dX1_run_71 : decode cX1_run 71 = .ok (.iconst 0, 1) := dk_3 (dk_at dksX1_run_3 3 rfl rfl)
theorem dX1_run_72 : decode cX1_run 72 = .ok (.aload_n 0, 1) := dk_42 (dk_at dksX1_run_3 4 rfl rfl)
theorem dX1_run_73 : decode cX1_run 73 = .ok (.getfield 16, 3) := dk_180 0 16 (dk_at dksX1_run_3 5 rfl rfl)
theorem dX1_run_76 : decode cX1_run 76 = .ok (.iconst 0, 1) := dk_3 (dk_at dksX1_run_3 8 rfl rfl)
theorem dX1_run_77 : decode cX1_run 77 = .ok (.invokeinterface 41 5, 5) := by decide +kernel
theorem dX1_run_82 : decode cX1_run 82 = .ok (.pop, 1) := dk_87 (dk_at dksX1_run_3 14 rfl rfl)
theorem dX1_run_83 : decode cX1_run 83 = .ok (.return_, 1) := dk_177 (dk_at dksX1_run_3 15 rfl rfl)
abbrev cX1_size : ByteArray := prog_6_method_6_code
def yX1_size : MethodName := ⟨RX1, "size", "(I)I"⟩
theorem dX1_size_0 : decode cX1_size 0 = .ok (.bipush 16, 2) := by decide +kernel
theorem dX1_size_2 : decode cX1_size 2 = .ok (.ireturn, 1) := by decide +kernel
abbrev cX1_open : ByteArray := prog_6_method_8_code
def yX1_open : MethodName := ⟨RX1, "open", "(I)V"⟩
def dkwX1_open_0 : List UInt8 := [42, 3, 27, 182, 0, 45, 177]
abbrev dktX1_open_0 : List UInt8 := dkwX1_open_0 ++ []
theorem dksX1_open_0 : cX1_open.data.toList.drop 0 = dktX1_open_0 := by decide +kernel
theorem dX1_open_0 : decode cX1_open 0 = .ok (.aload_n 0, 1) := dk_42 (dk_at dksX1_open_0 0 rfl rfl)
theorem dX1_open_1 : decode cX1_open 1 = .ok (.iconst 0, 1) := dk_3 (dk_at dksX1_open_0 1 rfl rfl)
theorem dX1_open_2 : decode cX1_open 2 = .ok (.iload_n 1, 1) := dk_27 (dk_at dksX1_open_0 2 rfl rfl)
theorem dX1_open_3 : decode cX1_open 3 = .ok (.invokevirtual 45, 3) := dk_182 0 45 (dk_at dksX1_open_0 3 rfl rfl)
theorem dX1_open_6 : decode cX1_open 6 = .ok (.return_, 1) := dk_177 (dk_at dksX1_open_0 6 rfl rfl)
abbrev cX1_again : ByteArray := prog_6_method_9_code
def yX1_again : MethodName := ⟨RX1, "again", "()V"⟩
def dkwX1_again_1 : List UInt8 := [167, 255, 235, 177]
abbrev dktX1_again_1 : List UInt8 := dkwX1_again_1 ++ []
def dkwX1_again_0 : List UInt8 := [3, 60, 27, 16, 16, 162, 0, 21, 42, 180, 0, 13, 27, 42, 180, 0, 16, 27, 51, 84, 132, 1, 1]
abbrev dktX1_again_0 : List UInt8 := dkwX1_again_0 ++ dktX1_again_1
theorem dksX1_again_0 : cX1_again.data.toList.drop 0 = dktX1_again_0 := by decide +kernel
theorem dksX1_again_1 : cX1_again.data.toList.drop 23 = dktX1_again_1 := dk_seg dksX1_again_0 23 rfl rfl
theorem dX1_again_0 : decode cX1_again 0 = .ok (.iconst 0, 1) := dk_3 (dk_at dksX1_again_0 0 rfl rfl)
theorem dX1_again_1 : decode cX1_again 1 = .ok (.istore_n 1, 1) := dk_60 (dk_at dksX1_again_0 1 rfl rfl)
theorem dX1_again_2 : decode cX1_again 2 = .ok (.iload_n 1, 1) := dk_27 (dk_at dksX1_again_0 2 rfl rfl)
theorem dX1_again_3 : decode cX1_again 3 = .ok (.bipush 16, 2) := dk_16 16 (dk_at dksX1_again_0 3 rfl rfl)
theorem dX1_again_5 : decode cX1_again 5 = .ok (.if_icmp .ge 21, 3) := dk_162 0 21 (dk_at dksX1_again_0 5 rfl rfl)
theorem dX1_again_8 : decode cX1_again 8 = .ok (.aload_n 0, 1) := dk_42 (dk_at dksX1_again_0 8 rfl rfl)
theorem dX1_again_9 : decode cX1_again 9 = .ok (.getfield 13, 3) := dk_180 0 13 (dk_at dksX1_again_0 9 rfl rfl)
theorem dX1_again_12 : decode cX1_again 12 = .ok (.iload_n 1, 1) := dk_27 (dk_at dksX1_again_0 12 rfl rfl)
theorem dX1_again_13 : decode cX1_again 13 = .ok (.aload_n 0, 1) := dk_42 (dk_at dksX1_again_0 13 rfl rfl)
theorem dX1_again_14 : decode cX1_again 14 = .ok (.getfield 16, 3) := dk_180 0 16 (dk_at dksX1_again_0 14 rfl rfl)
theorem dX1_again_17 : decode cX1_again 17 = .ok (.iload_n 1, 1) := dk_27 (dk_at dksX1_again_0 17 rfl rfl)
theorem dX1_again_18 : decode cX1_again 18 = .ok (.baload, 1) := dk_51 (dk_at dksX1_again_0 18 rfl rfl)
theorem dX1_again_19 : decode cX1_again 19 = .ok (.bastore, 1) := dk_84 (dk_at dksX1_again_0 19 rfl rfl)
theorem dX1_again_20 : decode cX1_again 20 = .ok (.iinc 1 1, 3) := dk_132 1 1 (dk_at dksX1_again_0 20 rfl rfl)
theorem dX1_again_23 : decode cX1_again 23 = .ok (.goto (-21), 3) := dk_167 255 235 (dk_at dksX1_again_1 0 rfl rfl)
theorem dX1_again_26 : decode cX1_again 26 = .ok (.return_, 1) := dk_177 (dk_at dksX1_again_1 3 rfl rfl)
abbrev cX1_init : ByteArray := prog_6_method_1_code
def yX1_init : MethodName := ⟨RX1, "<init>", "()V"⟩
def dkwX1_init_1 : List UInt8 := [188, 8, 181, 0, 16, 177]
abbrev dktX1_init_1 : List UInt8 := dkwX1_init_1 ++ []
def dkwX1_init_0 : List UInt8 := [42, 183, 0, 1, 42, 16, 32, 188, 8, 181, 0, 7, 42, 16, 16, 188, 8, 181, 0, 13, 42, 16, 16]
abbrev dktX1_init_0 : List UInt8 := dkwX1_init_0 ++ dktX1_init_1
theorem dksX1_init_0 : cX1_init.data.toList.drop 0 = dktX1_init_0 := by decide +kernel
theorem dksX1_init_1 : cX1_init.data.toList.drop 23 = dktX1_init_1 := dk_seg dksX1_init_0 23 rfl rfl
theorem dX1_init_0 : decode cX1_init 0 = .ok (.aload_n 0, 1) := dk_42 (dk_at dksX1_init_0 0 rfl rfl)
theorem dX1_init_1 : decode cX1_init 1 = .ok (.invokespecial 1, 3) := dk_183 0 1 (dk_at dksX1_init_0 1 rfl rfl)
theorem dX1_init_4 : decode cX1_init 4 = .ok (.aload_n 0, 1) := dk_42 (dk_at dksX1_init_0 4 rfl rfl)
theorem dX1_init_5 : decode cX1_init 5 = .ok (.bipush 32, 2) := dk_16 32 (dk_at dksX1_init_0 5 rfl rfl)
theorem dX1_init_7 : decode cX1_init 7 = .ok (.newarray .byte, 2) := dk_188_8 (dk_at dksX1_init_0 7 rfl rfl)
theorem dX1_init_9 : decode cX1_init 9 = .ok (.putfield 7, 3) := dk_181 0 7 (dk_at dksX1_init_0 9 rfl rfl)
theorem dX1_init_12 : decode cX1_init 12 = .ok (.aload_n 0, 1) := dk_42 (dk_at dksX1_init_0 12 rfl rfl)
theorem dX1_init_13 : decode cX1_init 13 = .ok (.bipush 16, 2) := dk_16 16 (dk_at dksX1_init_0 13 rfl rfl)
theorem dX1_init_15 : decode cX1_init 15 = .ok (.newarray .byte, 2) := dk_188_8 (dk_at dksX1_init_0 15 rfl rfl)
theorem dX1_init_17 : decode cX1_init 17 = .ok (.putfield 13, 3) := dk_181 0 13 (dk_at dksX1_init_0 17 rfl rfl)
theorem dX1_init_20 : decode cX1_init 20 = .ok (.aload_n 0, 1) := dk_42 (dk_at dksX1_init_0 20 rfl rfl)
theorem dX1_init_21 : decode cX1_init 21 = .ok (.bipush 16, 2) := dk_16 16 (dk_at dksX1_init_0 21 rfl rfl)
theorem dX1_init_23 : decode cX1_init 23 = .ok (.newarray .byte, 2) := dk_188_8 (dk_at dksX1_init_1 0 rfl rfl)
theorem dX1_init_25 : decode cX1_init 25 = .ok (.putfield 16, 3) := dk_181 0 16 (dk_at dksX1_init_1 2 rfl rfl)
theorem dX1_init_28 : decode cX1_init 28 = .ok (.return_, 1) := dk_177 (dk_at dksX1_init_1 5 rfl rfl)
abbrev cX1_key : ByteArray := prog_6_method_3_code
def yX1_key : MethodName := ⟨RX1, "key", "(IIIII)V"⟩
def dkwX1_key_2 : List UInt8 := [21, 6, 16, 12, 96, 21, 5, 184, 0, 19, 177]
abbrev dktX1_key_2 : List UInt8 := dkwX1_key_2 ++ []
def dkwX1_key_1 : List UInt8 := [96, 29, 184, 0, 19, 42, 180, 0, 7, 21, 6, 16, 8, 96, 21, 4, 184, 0, 19, 42, 180, 0, 7]
abbrev dktX1_key_1 : List UInt8 := dkwX1_key_1 ++ dktX1_key_2
def dkwX1_key_0 : List UInt8 := [27, 4, 126, 7, 120, 54, 6, 42, 180, 0, 7, 21, 6, 28, 184, 0, 19, 42, 180, 0, 7, 21, 6, 7]
abbrev dktX1_key_0 : List UInt8 := dkwX1_key_0 ++ dktX1_key_1
theorem dksX1_key_0 : cX1_key.data.toList.drop 0 = dktX1_key_0 := by decide +kernel
theorem dksX1_key_1 : cX1_key.data.toList.drop 24 = dktX1_key_1 := dk_seg dksX1_key_0 24 rfl rfl
theorem dksX1_key_2 : cX1_key.data.toList.drop 47 = dktX1_key_2 := dk_seg dksX1_key_1 23 rfl rfl
theorem dX1_key_0 : decode cX1_key 0 = .ok (.iload_n 1, 1) := dk_27 (dk_at dksX1_key_0 0 rfl rfl)
theorem dX1_key_1 : decode cX1_key 1 = .ok (.iconst 1, 1) := dk_4 (dk_at dksX1_key_0 1 rfl rfl)
theorem dX1_key_2 : decode cX1_key 2 = .ok (.iand, 1) := dk_126 (dk_at dksX1_key_0 2 rfl rfl)
theorem dX1_key_3 : decode cX1_key 3 = .ok (.iconst 4, 1) := dk_7 (dk_at dksX1_key_0 3 rfl rfl)
theorem dX1_key_4 : decode cX1_key 4 = .ok (.ishl, 1) := dk_120 (dk_at dksX1_key_0 4 rfl rfl)
theorem dX1_key_5 : decode cX1_key 5 = .ok (.istore 6, 2) := dk_54 6 (dk_at dksX1_key_0 5 rfl rfl)
theorem dX1_key_7 : decode cX1_key 7 = .ok (.aload_n 0, 1) := dk_42 (dk_at dksX1_key_0 7 rfl rfl)
theorem dX1_key_8 : decode cX1_key 8 = .ok (.getfield 7, 3) := dk_180 0 7 (dk_at dksX1_key_0 8 rfl rfl)
theorem dX1_key_11 : decode cX1_key 11 = .ok (.iload 6, 2) := dk_21 6 (dk_at dksX1_key_0 11 rfl rfl)
theorem dX1_key_13 : decode cX1_key 13 = .ok (.iload_n 2, 1) := dk_28 (dk_at dksX1_key_0 13 rfl rfl)
theorem dX1_key_14 : decode cX1_key 14 = .ok (.invokestatic 19, 3) := dk_184 0 19 (dk_at dksX1_key_0 14 rfl rfl)
theorem dX1_key_17 : decode cX1_key 17 = .ok (.aload_n 0, 1) := dk_42 (dk_at dksX1_key_0 17 rfl rfl)
theorem dX1_key_18 : decode cX1_key 18 = .ok (.getfield 7, 3) := dk_180 0 7 (dk_at dksX1_key_0 18 rfl rfl)
theorem dX1_key_21 : decode cX1_key 21 = .ok (.iload 6, 2) := dk_21 6 (dk_at dksX1_key_0 21 rfl rfl)
theorem dX1_key_23 : decode cX1_key 23 = .ok (.iconst 4, 1) := dk_7 (dk_at dksX1_key_0 23 rfl rfl)
theorem dX1_key_24 : decode cX1_key 24 = .ok (.iadd, 1) := dk_96 (dk_at dksX1_key_1 0 rfl rfl)
theorem dX1_key_25 : decode cX1_key 25 = .ok (.iload_n 3, 1) := dk_29 (dk_at dksX1_key_1 1 rfl rfl)
theorem dX1_key_26 : decode cX1_key 26 = .ok (.invokestatic 19, 3) := dk_184 0 19 (dk_at dksX1_key_1 2 rfl rfl)
theorem dX1_key_29 : decode cX1_key 29 = .ok (.aload_n 0, 1) := dk_42 (dk_at dksX1_key_1 5 rfl rfl)
theorem dX1_key_30 : decode cX1_key 30 = .ok (.getfield 7, 3) := dk_180 0 7 (dk_at dksX1_key_1 6 rfl rfl)
theorem dX1_key_33 : decode cX1_key 33 = .ok (.iload 6, 2) := dk_21 6 (dk_at dksX1_key_1 9 rfl rfl)
theorem dX1_key_35 : decode cX1_key 35 = .ok (.bipush 8, 2) := dk_16 8 (dk_at dksX1_key_1 11 rfl rfl)
theorem dX1_key_37 : decode cX1_key 37 = .ok (.iadd, 1) := dk_96 (dk_at dksX1_key_1 13 rfl rfl)
theorem dX1_key_38 : decode cX1_key 38 = .ok (.iload 4, 2) := dk_21 4 (dk_at dksX1_key_1 14 rfl rfl)
theorem dX1_key_40 : decode cX1_key 40 = .ok (.invokestatic 19, 3) := dk_184 0 19 (dk_at dksX1_key_1 16 rfl rfl)
theorem dX1_key_43 : decode cX1_key 43 = .ok (.aload_n 0, 1) := dk_42 (dk_at dksX1_key_1 19 rfl rfl)
theorem dX1_key_44 : decode cX1_key 44 = .ok (.getfield 7, 3) := dk_180 0 7 (dk_at dksX1_key_1 20 rfl rfl)
theorem dX1_key_47 : decode cX1_key 47 = .ok (.iload 6, 2) := dk_21 6 (dk_at dksX1_key_2 0 rfl rfl)
theorem dX1_key_49 : decode cX1_key 49 = .ok (.bipush 12, 2) := dk_16 12 (dk_at dksX1_key_2 2 rfl rfl)
theorem dX1_key_51 : decode cX1_key 51 = .ok (.iadd, 1) := dk_96 (dk_at dksX1_key_2 4 rfl rfl)
theorem dX1_key_52 : decode cX1_key 52 = .ok (.iload 5, 2) := dk_21 5 (dk_at dksX1_key_2 5 rfl rfl)
theorem dX1_key_54 : decode cX1_key 54 = .ok (.invokestatic 19, 3) := dk_184 0 19 (dk_at dksX1_key_2 7 rfl rfl)
theorem dX1_key_57 : decode cX1_key 57 = .ok (.return_, 1) := dk_177 (dk_at dksX1_key_2 10 rfl rfl)
abbrev cX1_word : ByteArray := prog_6_method_2_code
def yX1_word : MethodName := ⟨RX1, "word", "([BII)V"⟩
def dkwX1_word_1 : List UInt8 := [16, 8, 122, 145, 84, 42, 27, 6, 96, 28, 145, 84, 177]
abbrev dktX1_word_1 : List UInt8 := dkwX1_word_1 ++ []
def dkwX1_word_0 : List UInt8 := [42, 27, 28, 16, 24, 122, 145, 84, 42, 27, 4, 96, 28, 16, 16, 122, 145, 84, 42, 27, 5, 96, 28]
abbrev dktX1_word_0 : List UInt8 := dkwX1_word_0 ++ dktX1_word_1
theorem dksX1_word_0 : cX1_word.data.toList.drop 0 = dktX1_word_0 := by decide +kernel
theorem dksX1_word_1 : cX1_word.data.toList.drop 23 = dktX1_word_1 := dk_seg dksX1_word_0 23 rfl rfl
theorem dX1_word_0 : decode cX1_word 0 = .ok (.aload_n 0, 1) := dk_42 (dk_at dksX1_word_0 0 rfl rfl)
theorem dX1_word_1 : decode cX1_word 1 = .ok (.iload_n 1, 1) := dk_27 (dk_at dksX1_word_0 1 rfl rfl)
theorem dX1_word_2 : decode cX1_word 2 = .ok (.iload_n 2, 1) := dk_28 (dk_at dksX1_word_0 2 rfl rfl)
theorem dX1_word_3 : decode cX1_word 3 = .ok (.bipush 24, 2) := dk_16 24 (dk_at dksX1_word_0 3 rfl rfl)
theorem dX1_word_5 : decode cX1_word 5 = .ok (.ishr, 1) := dk_122 (dk_at dksX1_word_0 5 rfl rfl)
theorem dX1_word_6 : decode cX1_word 6 = .ok (.i2b, 1) := dk_145 (dk_at dksX1_word_0 6 rfl rfl)
theorem dX1_word_7 : decode cX1_word 7 = .ok (.bastore, 1) := dk_84 (dk_at dksX1_word_0 7 rfl rfl)
theorem dX1_word_8 : decode cX1_word 8 = .ok (.aload_n 0, 1) := dk_42 (dk_at dksX1_word_0 8 rfl rfl)
theorem dX1_word_9 : decode cX1_word 9 = .ok (.iload_n 1, 1) := dk_27 (dk_at dksX1_word_0 9 rfl rfl)
theorem dX1_word_10 : decode cX1_word 10 = .ok (.iconst 1, 1) := dk_4 (dk_at dksX1_word_0 10 rfl rfl)
theorem dX1_word_11 : decode cX1_word 11 = .ok (.iadd, 1) := dk_96 (dk_at dksX1_word_0 11 rfl rfl)
theorem dX1_word_12 : decode cX1_word 12 = .ok (.iload_n 2, 1) := dk_28 (dk_at dksX1_word_0 12 rfl rfl)
theorem dX1_word_13 : decode cX1_word 13 = .ok (.bipush 16, 2) := dk_16 16 (dk_at dksX1_word_0 13 rfl rfl)
theorem dX1_word_15 : decode cX1_word 15 = .ok (.ishr, 1) := dk_122 (dk_at dksX1_word_0 15 rfl rfl)
theorem dX1_word_16 : decode cX1_word 16 = .ok (.i2b, 1) := dk_145 (dk_at dksX1_word_0 16 rfl rfl)
theorem dX1_word_17 : decode cX1_word 17 = .ok (.bastore, 1) := dk_84 (dk_at dksX1_word_0 17 rfl rfl)
theorem dX1_word_18 : decode cX1_word 18 = .ok (.aload_n 0, 1) := dk_42 (dk_at dksX1_word_0 18 rfl rfl)
theorem dX1_word_19 : decode cX1_word 19 = .ok (.iload_n 1, 1) := dk_27 (dk_at dksX1_word_0 19 rfl rfl)
theorem dX1_word_20 : decode cX1_word 20 = .ok (.iconst 2, 1) := dk_5 (dk_at dksX1_word_0 20 rfl rfl)
theorem dX1_word_21 : decode cX1_word 21 = .ok (.iadd, 1) := dk_96 (dk_at dksX1_word_0 21 rfl rfl)
theorem dX1_word_22 : decode cX1_word 22 = .ok (.iload_n 2, 1) := dk_28 (dk_at dksX1_word_0 22 rfl rfl)
theorem dX1_word_23 : decode cX1_word 23 = .ok (.bipush 8, 2) := dk_16 8 (dk_at dksX1_word_1 0 rfl rfl)
theorem dX1_word_25 : decode cX1_word 25 = .ok (.ishr, 1) := dk_122 (dk_at dksX1_word_1 2 rfl rfl)
theorem dX1_word_26 : decode cX1_word 26 = .ok (.i2b, 1) := dk_145 (dk_at dksX1_word_1 3 rfl rfl)
theorem dX1_word_27 : decode cX1_word 27 = .ok (.bastore, 1) := dk_84 (dk_at dksX1_word_1 4 rfl rfl)
theorem dX1_word_28 : decode cX1_word 28 = .ok (.aload_n 0, 1) := dk_42 (dk_at dksX1_word_1 5 rfl rfl)
theorem dX1_word_29 : decode cX1_word 29 = .ok (.iload_n 1, 1) := dk_27 (dk_at dksX1_word_1 6 rfl rfl)
theorem dX1_word_30 : decode cX1_word 30 = .ok (.iconst 3, 1) := dk_6 (dk_at dksX1_word_1 7 rfl rfl)
theorem dX1_word_31 : decode cX1_word 31 = .ok (.iadd, 1) := dk_96 (dk_at dksX1_word_1 8 rfl rfl)
theorem dX1_word_32 : decode cX1_word 32 = .ok (.iload_n 2, 1) := dk_28 (dk_at dksX1_word_1 9 rfl rfl)
theorem dX1_word_33 : decode cX1_word 33 = .ok (.i2b, 1) := dk_145 (dk_at dksX1_word_1 10 rfl rfl)
theorem dX1_word_34 : decode cX1_word 34 = .ok (.bastore, 1) := dk_84 (dk_at dksX1_word_1 11 rfl rfl)
theorem dX1_word_35 : decode cX1_word 35 = .ok (.return_, 1) := dk_177 (dk_at dksX1_word_1 12 rfl rfl)
abbrev cX1_block : ByteArray := prog_6_method_4_code
def yX1_block : MethodName := ⟨RX1, "block", "(IIII)V"⟩
def dkwX1_block_1 : List UInt8 := [29, 184, 0, 19, 42, 180, 0, 13, 16, 12, 21, 4, 184, 0, 19, 177]
abbrev dktX1_block_1 : List UInt8 := dkwX1_block_1 ++ []
def dkwX1_block_0 : List UInt8 := [42, 180, 0, 13, 3, 27, 184, 0, 19, 42, 180, 0, 13, 7, 28, 184, 0, 19, 42, 180, 0, 13, 16, 8]
abbrev dktX1_block_0 : List UInt8 := dkwX1_block_0 ++ dktX1_block_1
theorem dksX1_block_0 : cX1_block.data.toList.drop 0 = dktX1_block_0 := by decide +kernel
theorem dksX1_block_1 : cX1_block.data.toList.drop 24 = dktX1_block_1 := dk_seg dksX1_block_0 24 rfl rfl
theorem dX1_block_0 : decode cX1_block 0 = .ok (.aload_n 0, 1) := dk_42 (dk_at dksX1_block_0 0 rfl rfl)
theorem dX1_block_1 : decode cX1_block 1 = .ok (.getfield 13, 3) := dk_180 0 13 (dk_at dksX1_block_0 1 rfl rfl)
theorem dX1_block_4 : decode cX1_block 4 = .ok (.iconst 0, 1) := dk_3 (dk_at dksX1_block_0 4 rfl rfl)
theorem dX1_block_5 : decode cX1_block 5 = .ok (.iload_n 1, 1) := dk_27 (dk_at dksX1_block_0 5 rfl rfl)
theorem dX1_block_6 : decode cX1_block 6 = .ok (.invokestatic 19, 3) := dk_184 0 19 (dk_at dksX1_block_0 6 rfl rfl)
theorem dX1_block_9 : decode cX1_block 9 = .ok (.aload_n 0, 1) := dk_42 (dk_at dksX1_block_0 9 rfl rfl)
theorem dX1_block_10 : decode cX1_block 10 = .ok (.getfield 13, 3) := dk_180 0 13 (dk_at dksX1_block_0 10 rfl rfl)
theorem dX1_block_13 : decode cX1_block 13 = .ok (.iconst 4, 1) := dk_7 (dk_at dksX1_block_0 13 rfl rfl)
theorem dX1_block_14 : decode cX1_block 14 = .ok (.iload_n 2, 1) := dk_28 (dk_at dksX1_block_0 14 rfl rfl)
theorem dX1_block_15 : decode cX1_block 15 = .ok (.invokestatic 19, 3) := dk_184 0 19 (dk_at dksX1_block_0 15 rfl rfl)
theorem dX1_block_18 : decode cX1_block 18 = .ok (.aload_n 0, 1) := dk_42 (dk_at dksX1_block_0 18 rfl rfl)
theorem dX1_block_19 : decode cX1_block 19 = .ok (.getfield 13, 3) := dk_180 0 13 (dk_at dksX1_block_0 19 rfl rfl)
theorem dX1_block_22 : decode cX1_block 22 = .ok (.bipush 8, 2) := dk_16 8 (dk_at dksX1_block_0 22 rfl rfl)
theorem dX1_block_24 : decode cX1_block 24 = .ok (.iload_n 3, 1) := dk_29 (dk_at dksX1_block_1 0 rfl rfl)
theorem dX1_block_25 : decode cX1_block 25 = .ok (.invokestatic 19, 3) := dk_184 0 19 (dk_at dksX1_block_1 1 rfl rfl)
theorem dX1_block_28 : decode cX1_block 28 = .ok (.aload_n 0, 1) := dk_42 (dk_at dksX1_block_1 4 rfl rfl)
theorem dX1_block_29 : decode cX1_block 29 = .ok (.getfield 13, 3) := dk_180 0 13 (dk_at dksX1_block_1 5 rfl rfl)
theorem dX1_block_32 : decode cX1_block 32 = .ok (.bipush 12, 2) := dk_16 12 (dk_at dksX1_block_1 8 rfl rfl)
theorem dX1_block_34 : decode cX1_block 34 = .ok (.iload 4, 2) := dk_21 4 (dk_at dksX1_block_1 10 rfl rfl)
theorem dX1_block_36 : decode cX1_block 36 = .ok (.invokestatic 19, 3) := dk_184 0 19 (dk_at dksX1_block_1 12 rfl rfl)
theorem dX1_block_39 : decode cX1_block 39 = .ok (.return_, 1) := dk_177 (dk_at dksX1_block_1 15 rfl rfl)
abbrev cX1_out : ByteArray := prog_6_method_10_code
def yX1_out : MethodName := ⟨RX1, "out", "(I)I"⟩
def dkwX1_out_0 : List UInt8 := [42, 180, 0, 16, 27, 16, 15, 126, 51, 17, 0, 255, 126, 172]
abbrev dktX1_out_0 : List UInt8 := dkwX1_out_0 ++ []
theorem dksX1_out_0 : cX1_out.data.toList.drop 0 = dktX1_out_0 := by decide +kernel
theorem dX1_out_0 : decode cX1_out 0 = .ok (.aload_n 0, 1) := dk_42 (dk_at dksX1_out_0 0 rfl rfl)
theorem dX1_out_1 : decode cX1_out 1 = .ok (.getfield 16, 3) := dk_180 0 16 (dk_at dksX1_out_0 1 rfl rfl)
theorem dX1_out_4 : decode cX1_out 4 = .ok (.iload_n 1, 1) := dk_27 (dk_at dksX1_out_0 4 rfl rfl)
theorem dX1_out_5 : decode cX1_out 5 = .ok (.bipush 15, 2) := dk_16 15 (dk_at dksX1_out_0 5 rfl rfl)
theorem dX1_out_7 : decode cX1_out 7 = .ok (.iand, 1) := dk_126 (dk_at dksX1_out_0 7 rfl rfl)
theorem dX1_out_8 : decode cX1_out 8 = .ok (.baload, 1) := dk_51 (dk_at dksX1_out_0 8 rfl rfl)
theorem dX1_out_9 : decode cX1_out 9 = .ok (.sipush 255, 3) := dk_17 0 255 (dk_at dksX1_out_0 9 rfl rfl)
theorem dX1_out_12 : decode cX1_out 12 = .ok (.iand, 1) := dk_126 (dk_at dksX1_out_0 12 rfl rfl)
theorem dX1_out_13 : decode cX1_out 13 = .ok (.ireturn, 1) := dk_172 (dk_at dksX1_out_0 13 rfl rfl)
theorem q5 : (Jvm.Cond.initialized "NoekeonDesk") ∈ lw_all := lw_g (lw_at lw_m1 1 rfl) rfl
theorem q21 : (Jvm.Cond.instanceMethod ({ cls := "NoekeonDesk", name := "lock", desc := "(I)V" } : Jvm.MethodName)) ∈ lw_all := lw_g (lw_at lw_m1 17 rfl) rfl
theorem q22 : (Jvm.Cond.selects "NoekeonDesk" ({ cls := "NoekeonDesk", name := "lock", desc := "(I)V" } : Jvm.MethodName) ({ cls := "NoekeonDesk", name := "lock", desc := "(I)V" } : Jvm.MethodName)) ∈ lw_all := lw_g (lw_at lw_m1 18 rfl) rfl
theorem q23 : (Jvm.Cond.code ({ cls := "NoekeonDesk", name := "lock", desc := "(I)V" } : Jvm.MethodName) prog_6_method_7_code (2 : Nat) (Option.none : Option Jvm.ClassFile.FieldType)) ∈ lw_all := lw_g (lw_at lw_m1 19 rfl) rfl
theorem q24 : (Jvm.Cond.methodLink "NoekeonDesk" (45 : Nat) ({ cls := "NoekeonDesk", name := "run", desc := "(ZI)V" } : Jvm.MethodName)) ∈ lw_all := lw_g (lw_at lw_m1 20 rfl) rfl
theorem q25 : (Jvm.Cond.privateMethod ({ cls := "NoekeonDesk", name := "run", desc := "(ZI)V" } : Jvm.MethodName)) ∈ lw_tbl := lw_at lw_m1 21 rfl
theorem q26 : (Jvm.Cond.instanceMethod ({ cls := "NoekeonDesk", name := "run", desc := "(ZI)V" } : Jvm.MethodName)) ∈ lw_all := lw_g (lw_at lw_m1 22 rfl) rfl
theorem q27 : (Jvm.Cond.instantiable "NoekeonDesk" (3 : Nat)) ∈ lw_all := lw_g (lw_at lw_m1 23 rfl) rfl
theorem q28 : (Jvm.Cond.code ({ cls := "NoekeonDesk", name := "run", desc := "(ZI)V" } : Jvm.MethodName) prog_6_method_5_code (6 : Nat) (Option.none : Option Jvm.ClassFile.FieldType)) ∈ lw_all := lw_g (lw_at lw_m1 24 rfl) rfl
theorem q29 : (Jvm.Cond.methodLink "NoekeonDesk" (23 : Nat) ({ cls := "NoekeonDesk", name := "size", desc := "(I)I" } : Jvm.MethodName)) ∈ lw_all := lw_g (lw_at lw_m1 25 rfl) rfl
theorem q30 : (Jvm.Cond.static ({ cls := "NoekeonDesk", name := "size", desc := "(I)I" } : Jvm.MethodName)) ∈ lw_all := lw_g (lw_at lw_m1 26 rfl) rfl
theorem q31 : (Jvm.Cond.code ({ cls := "NoekeonDesk", name := "size", desc := "(I)I" } : Jvm.MethodName) prog_6_method_6_code (1 : Nat) (Option.some Jvm.ClassFile.FieldType.int)) ∈ lw_all := lw_g (lw_at lw_m1 27 rfl) rfl
theorem q32 : (Jvm.Cond.classLink "NoekeonDesk" (27 : Nat) "NoekeonEngine") ∈ lw_all := lw_g (lw_at lw_m1 28 rfl) rfl
theorem q34 : (Jvm.Cond.methodLink "NoekeonDesk" (29 : Nat) ({ cls := "NoekeonEngine", name := "<init>", desc := "()V" } : Jvm.MethodName)) ∈ lw_all := lw_g (lw_at lw_m1 30 rfl) rfl
theorem q52 : (Jvm.Cond.classLink "NoekeonDesk" (30 : Nat) "KeyParameter") ∈ lw_all := lw_g (lw_at lw_m1 48 rfl) rfl
theorem q54 : (Jvm.Cond.methodLink "NoekeonDesk" (32 : Nat) ({ cls := "KeyParameter", name := "<init>", desc := "([B)V" } : Jvm.MethodName)) ∈ lw_all := lw_g (lw_at lw_m1 50 rfl) rfl
theorem q71 : (Jvm.Cond.interfaceEntry "NoekeonDesk" (35 : Nat)) ∈ lw_tbl := lw_at lw_m1 67 rfl
theorem q72 : (Jvm.Cond.methodLink "NoekeonDesk" (35 : Nat) ({ cls := "BlockCipher", name := "init", desc := "(ZLCipherParameters;)V" } : Jvm.MethodName)) ∈ lw_all := lw_g (lw_at lw_m1 68 rfl) rfl
theorem q167 : (Jvm.Cond.interfaceEntry "NoekeonDesk" (41 : Nat)) ∈ lw_tbl := lw_at lw_m1 163 rfl
theorem q168 : (Jvm.Cond.methodLink "NoekeonDesk" (41 : Nat) ({ cls := "BlockCipher", name := "processBlock", desc := "([BI[BI)I" } : Jvm.MethodName)) ∈ lw_all := lw_g (lw_at lw_m1 164 rfl) rfl
theorem q243 : (Jvm.Cond.instanceMethod ({ cls := "NoekeonDesk", name := "open", desc := "(I)V" } : Jvm.MethodName)) ∈ lw_all := lw_g (lw_at lw_m1 239 rfl) rfl
theorem q244 : (Jvm.Cond.selects "NoekeonDesk" ({ cls := "NoekeonDesk", name := "open", desc := "(I)V" } : Jvm.MethodName) ({ cls := "NoekeonDesk", name := "open", desc := "(I)V" } : Jvm.MethodName)) ∈ lw_all := lw_g (lw_at lw_m2 0 rfl) rfl
theorem q245 : (Jvm.Cond.code ({ cls := "NoekeonDesk", name := "open", desc := "(I)V" } : Jvm.MethodName) prog_6_method_8_code (2 : Nat) (Option.none : Option Jvm.ClassFile.FieldType)) ∈ lw_all := lw_g (lw_at lw_m2 1 rfl) rfl
theorem q247 : (Jvm.Cond.instanceMethod ({ cls := "NoekeonDesk", name := "again", desc := "()V" } : Jvm.MethodName)) ∈ lw_all := lw_g (lw_at lw_m2 3 rfl) rfl
theorem q248 : (Jvm.Cond.selects "NoekeonDesk" ({ cls := "NoekeonDesk", name := "again", desc := "()V" } : Jvm.MethodName) ({ cls := "NoekeonDesk", name := "again", desc := "()V" } : Jvm.MethodName)) ∈ lw_all := lw_g (lw_at lw_m2 4 rfl) rfl
theorem q249 : (Jvm.Cond.code ({ cls := "NoekeonDesk", name := "again", desc := "()V" } : Jvm.MethodName) prog_6_method_9_code (2 : Nat) (Option.none : Option Jvm.ClassFile.FieldType)) ∈ lw_all := lw_g (lw_at lw_m2 5 rfl) rfl
theorem q255 : (Jvm.Cond.instanceMethod ({ cls := "NoekeonDesk", name := "<init>", desc := "()V" } : Jvm.MethodName)) ∈ lw_all := lw_g (lw_at lw_m2 11 rfl) rfl
theorem q256 : (Jvm.Cond.code ({ cls := "NoekeonDesk", name := "<init>", desc := "()V" } : Jvm.MethodName) prog_6_method_1_code (1 : Nat) (Option.none : Option Jvm.ClassFile.FieldType)) ∈ lw_all := lw_g (lw_at lw_m2 12 rfl) rfl
theorem q257 : (Jvm.Cond.methodLink "NoekeonDesk" (1 : Nat) ({ cls := "java/lang/Object", name := "<init>", desc := "()V" } : Jvm.MethodName)) ∈ lw_all := lw_g (lw_at lw_m2 13 rfl) rfl
theorem q258 : (Jvm.Cond.fieldLink "NoekeonDesk" (7 : Nat) "NoekeonDesk" "key" "[B") ∈ lw_all := lw_g (lw_at lw_m2 14 rfl) rfl
theorem q259 : (Jvm.Cond.fieldLink "NoekeonDesk" (13 : Nat) "NoekeonDesk" "block" "[B") ∈ lw_all := lw_g (lw_at lw_m2 15 rfl) rfl
theorem q260 : (Jvm.Cond.fieldLink "NoekeonDesk" (16 : Nat) "NoekeonDesk" "out" "[B") ∈ lw_all := lw_g (lw_at lw_m2 16 rfl) rfl
theorem q261 : (Jvm.Cond.laysFinal "NoekeonDesk" "NoekeonDesk" "key" "[B") ∈ lw_all := lw_g (lw_at lw_m2 17 rfl) rfl
theorem q262 : (Jvm.Cond.soleField "NoekeonDesk" "key") ∈ lw_all := lw_g (lw_at lw_m2 18 rfl) rfl
theorem q263 : (Jvm.Cond.laysFinal "NoekeonDesk" "NoekeonDesk" "block" "[B") ∈ lw_all := lw_g (lw_at lw_m2 19 rfl) rfl
theorem q264 : (Jvm.Cond.soleField "NoekeonDesk" "block") ∈ lw_all := lw_g (lw_at lw_m2 20 rfl) rfl
theorem q265 : (Jvm.Cond.laysFinal "NoekeonDesk" "NoekeonDesk" "out" "[B") ∈ lw_all := lw_g (lw_at lw_m2 21 rfl) rfl
theorem q266 : (Jvm.Cond.soleField "NoekeonDesk" "out") ∈ lw_all := lw_g (lw_at lw_m2 22 rfl) rfl
theorem q267 : (Jvm.Cond.superclass "NoekeonDesk" "java/lang/Object") ∈ lw_all := lw_g (lw_at lw_m2 23 rfl) rfl
theorem q272 : (Jvm.Cond.instanceMethod ({ cls := "NoekeonDesk", name := "key", desc := "(IIIII)V" } : Jvm.MethodName)) ∈ lw_all := lw_g (lw_at lw_m2 28 rfl) rfl
theorem q273 : (Jvm.Cond.selects "NoekeonDesk" ({ cls := "NoekeonDesk", name := "key", desc := "(IIIII)V" } : Jvm.MethodName) ({ cls := "NoekeonDesk", name := "key", desc := "(IIIII)V" } : Jvm.MethodName)) ∈ lw_all := lw_g (lw_at lw_m2 29 rfl) rfl
theorem q274 : (Jvm.Cond.code ({ cls := "NoekeonDesk", name := "key", desc := "(IIIII)V" } : Jvm.MethodName) prog_6_method_3_code (7 : Nat) (Option.none : Option Jvm.ClassFile.FieldType)) ∈ lw_all := lw_g (lw_at lw_m2 30 rfl) rfl
theorem q275 : (Jvm.Cond.methodLink "NoekeonDesk" (19 : Nat) ({ cls := "NoekeonDesk", name := "word", desc := "([BII)V" } : Jvm.MethodName)) ∈ lw_all := lw_g (lw_at lw_m2 31 rfl) rfl
theorem q276 : (Jvm.Cond.static ({ cls := "NoekeonDesk", name := "word", desc := "([BII)V" } : Jvm.MethodName)) ∈ lw_all := lw_g (lw_at lw_m2 32 rfl) rfl
theorem q277 : (Jvm.Cond.code ({ cls := "NoekeonDesk", name := "word", desc := "([BII)V" } : Jvm.MethodName) prog_6_method_2_code (3 : Nat) (Option.none : Option Jvm.ClassFile.FieldType)) ∈ lw_all := lw_g (lw_at lw_m2 33 rfl) rfl
theorem q279 : (Jvm.Cond.instanceMethod ({ cls := "NoekeonDesk", name := "block", desc := "(IIII)V" } : Jvm.MethodName)) ∈ lw_all := lw_g (lw_at lw_m2 35 rfl) rfl
theorem q280 : (Jvm.Cond.selects "NoekeonDesk" ({ cls := "NoekeonDesk", name := "block", desc := "(IIII)V" } : Jvm.MethodName) ({ cls := "NoekeonDesk", name := "block", desc := "(IIII)V" } : Jvm.MethodName)) ∈ lw_all := lw_g (lw_at lw_m2 36 rfl) rfl
theorem q281 : (Jvm.Cond.code ({ cls := "NoekeonDesk", name := "block", desc := "(IIII)V" } : Jvm.MethodName) prog_6_method_4_code (5 : Nat) (Option.none : Option Jvm.ClassFile.FieldType)) ∈ lw_all := lw_g (lw_at lw_m2 37 rfl) rfl
theorem q286 : (Jvm.Cond.instanceMethod ({ cls := "NoekeonDesk", name := "out", desc := "(I)I" } : Jvm.MethodName)) ∈ lw_all := lw_g (lw_at lw_m2 42 rfl) rfl
theorem q287 : (Jvm.Cond.selects "NoekeonDesk" ({ cls := "NoekeonDesk", name := "out", desc := "(I)I" } : Jvm.MethodName) ({ cls := "NoekeonDesk", name := "out", desc := "(I)I" } : Jvm.MethodName)) ∈ lw_all := lw_g (lw_at lw_m2 43 rfl) rfl
theorem q288 : (Jvm.Cond.code ({ cls := "NoekeonDesk", name := "out", desc := "(I)I" } : Jvm.MethodName) prog_6_method_10_code (2 : Nat) (Option.some Jvm.ClassFile.FieldType.int)) ∈ lw_all := lw_g (lw_at lw_m2 44 rfl) rfl
theorem in_X1 : ∀ w ∈ wsX10, w ∈ lw_all := lw_in wsX10 [261, 263, 265] (by decide +kernel) (by decide +kernel)
/-! NoekeonDeskLaw -/
set_option maxRecDepth 100000
def RX0 : String := "NoekeonDeskLaw"
abbrev cX0_with : ByteArray := method_3_code
def yX0_with : MethodName := ⟨RX0, "with", "([I)LNoekeonDesk;"⟩
def dkwX0_with_3 : List UInt8 := [184, 0, 10, 42, 16, 10, 184, 0, 10, 42, 16, 11, 184, 0, 10, 182, 0, 20, 43, 176]
abbrev dktX0_with_3 : List UInt8 := dkwX0_with_3 ++ []
def dkwX0_with_2 : List UInt8 := [16, 6, 184, 0, 10, 42, 16, 7, 184, 0, 10, 182, 0, 16, 43, 42, 16, 8, 184, 0, 10, 42, 16, 9]
abbrev dktX0_with_2 : List UInt8 := dkwX0_with_2 ++ dktX0_with_3
def dkwX0_with_1 : List UInt8 := [184, 0, 10, 42, 6, 184, 0, 10, 182, 0, 16, 43, 4, 42, 7, 184, 0, 10, 42, 8, 184, 0, 10, 42]
abbrev dktX0_with_1 : List UInt8 := dkwX0_with_1 ++ dktX0_with_2
def dkwX0_with_0 : List UInt8 := [187, 0, 7, 89, 183, 0, 9, 76, 43, 3, 42, 3, 184, 0, 10, 42, 4, 184, 0, 10, 42, 5]
abbrev dktX0_with_0 : List UInt8 := dkwX0_with_0 ++ dktX0_with_1
theorem dksX0_with_0 : cX0_with.data.toList.drop 0 = dktX0_with_0 := by decide +kernel
theorem dksX0_with_1 : cX0_with.data.toList.drop 22 = dktX0_with_1 := dk_seg dksX0_with_0 22 rfl rfl
theorem dksX0_with_2 : cX0_with.data.toList.drop 46 = dktX0_with_2 := dk_seg dksX0_with_1 24 rfl rfl
theorem dksX0_with_3 : cX0_with.data.toList.drop 70 = dktX0_with_3 := dk_seg dksX0_with_2 24 rfl rfl
theorem dX0_with_0 : decode cX0_with 0 = .ok (.new 7, 3) := dk_187 0 7 (dk_at dksX0_with_0 0 rfl rfl)
theorem dX0_with_3 : decode cX0_with 3 = .ok (.dup, 1) := dk_89 (dk_at dksX0_with_0 3 rfl rfl)
theorem dX0_with_4 : decode cX0_with 4 = .ok (.invokespecial 9, 3) := dk_183 0 9 (dk_at dksX0_with_0 4 rfl rfl)
theorem dX0_with_7 : decode cX0_with 7 = .ok (.astore_n 1, 1) := dk_76 (dk_at dksX0_with_0 7 rfl rfl)
theorem dX0_with_8 : decode cX0_with 8 = .ok (.aload_n 1, 1) := dk_43 (dk_at dksX0_with_0 8 rfl rfl)
theorem dX0_with_9 : decode cX0_with 9 = .ok (.iconst 0, 1) := dk_3 (dk_at dksX0_with_0 9 rfl rfl)
theorem dX0_with_10 : decode cX0_with 10 = .ok (.aload_n 0, 1) := dk_42 (dk_at dksX0_with_0 10 rfl rfl)
theorem dX0_with_11 : decode cX0_with 11 = .ok (.iconst 0, 1) := dk_3 (dk_at dksX0_with_0 11 rfl rfl)
theorem dX0_with_12 : decode cX0_with 12 = .ok (.invokestatic 10, 3) := dk_184 0 10 (dk_at dksX0_with_0 12 rfl rfl)
theorem dX0_with_15 : decode cX0_with 15 = .ok (.aload_n 0, 1) := dk_42 (dk_at dksX0_with_0 15 rfl rfl)
theorem dX0_with_16 : decode cX0_with 16 = .ok (.iconst 1, 1) := dk_4 (dk_at dksX0_with_0 16 rfl rfl)
theorem dX0_with_17 : decode cX0_with 17 = .ok (.invokestatic 10, 3) := dk_184 0 10 (dk_at dksX0_with_0 17 rfl rfl)
theorem dX0_with_20 : decode cX0_with 20 = .ok (.aload_n 0, 1) := dk_42 (dk_at dksX0_with_0 20 rfl rfl)
theorem dX0_with_21 : decode cX0_with 21 = .ok (.iconst 2, 1) := dk_5 (dk_at dksX0_with_0 21 rfl rfl)
theorem dX0_with_22 : decode cX0_with 22 = .ok (.invokestatic 10, 3) := dk_184 0 10 (dk_at dksX0_with_1 0 rfl rfl)
theorem dX0_with_25 : decode cX0_with 25 = .ok (.aload_n 0, 1) := dk_42 (dk_at dksX0_with_1 3 rfl rfl)
theorem dX0_with_26 : decode cX0_with 26 = .ok (.iconst 3, 1) := dk_6 (dk_at dksX0_with_1 4 rfl rfl)
theorem dX0_with_27 : decode cX0_with 27 = .ok (.invokestatic 10, 3) := dk_184 0 10 (dk_at dksX0_with_1 5 rfl rfl)
theorem dX0_with_30 : decode cX0_with 30 = .ok (.invokevirtual 16, 3) := dk_182 0 16 (dk_at dksX0_with_1 8 rfl rfl)
theorem dX0_with_33 : decode cX0_with 33 = .ok (.aload_n 1, 1) := dk_43 (dk_at dksX0_with_1 11 rfl rfl)
theorem dX0_with_34 : decode cX0_with 34 = .ok (.iconst 1, 1) := dk_4 (dk_at dksX0_with_1 12 rfl rfl)
theorem dX0_with_35 : decode cX0_with 35 = .ok (.aload_n 0, 1) := dk_42 (dk_at dksX0_with_1 13 rfl rfl)
theorem dX0_with_36 : decode cX0_with 36 = .ok (.iconst 4, 1) := dk_7 (dk_at dksX0_with_1 14 rfl rfl)
theorem dX0_with_37 : decode cX0_with 37 = .ok (.invokestatic 10, 3) := dk_184 0 10 (dk_at dksX0_with_1 15 rfl rfl)
theorem dX0_with_40 : decode cX0_with 40 = .ok (.aload_n 0, 1) := dk_42 (dk_at dksX0_with_1 18 rfl rfl)
theorem dX0_with_41 : decode cX0_with 41 = .ok (.iconst 5, 1) := dk_8 (dk_at dksX0_with_1 19 rfl rfl)
theorem dX0_with_42 : decode cX0_with 42 = .ok (.invokestatic 10, 3) := dk_184 0 10 (dk_at dksX0_with_1 20 rfl rfl)
theorem dX0_with_45 : decode cX0_with 45 = .ok (.aload_n 0, 1) := dk_42 (dk_at dksX0_with_1 23 rfl rfl)
theorem dX0_with_46 : decode cX0_with 46 = .ok (.bipush 6, 2) := dk_16 6 (dk_at dksX0_with_2 0 rfl rfl)
theorem dX0_with_48 : decode cX0_with 48 = .ok (.invokestatic 10, 3) := dk_184 0 10 (dk_at dksX0_with_2 2 rfl rfl)
theorem dX0_with_51 : decode cX0_with 51 = .ok (.aload_n 0, 1) := dk_42 (dk_at dksX0_with_2 5 rfl rfl)
theorem dX0_with_52 : decode cX0_with 52 = .ok (.bipush 7, 2) := dk_16 7 (dk_at dksX0_with_2 6 rfl rfl)
theorem dX0_with_54 : decode cX0_with 54 = .ok (.invokestatic 10, 3) := dk_184 0 10 (dk_at dksX0_with_2 8 rfl rfl)
theorem dX0_with_57 : decode cX0_with 57 = .ok (.invokevirtual 16, 3) := dk_182 0 16 (dk_at dksX0_with_2 11 rfl rfl)
theorem dX0_with_60 : decode cX0_with 60 = .ok (.aload_n 1, 1) := dk_43 (dk_at dksX0_with_2 14 rfl rfl)
theorem dX0_with_61 : decode cX0_with 61 = .ok (.aload_n 0, 1) := dk_42 (dk_at dksX0_with_2 15 rfl rfl)
theorem dX0_with_62 : decode cX0_with 62 = .ok (.bipush 8, 2) := dk_16 8 (dk_at dksX0_with_2 16 rfl rfl)
theorem dX0_with_64 : decode cX0_with 64 = .ok (.invokestatic 10, 3) := dk_184 0 10 (dk_at dksX0_with_2 18 rfl rfl)
theorem dX0_with_67 : decode cX0_with 67 = .ok (.aload_n 0, 1) := dk_42 (dk_at dksX0_with_2 21 rfl rfl)
theorem dX0_with_68 : decode cX0_with 68 = .ok (.bipush 9, 2) := dk_16 9 (dk_at dksX0_with_2 22 rfl rfl)
theorem dX0_with_70 : decode cX0_with 70 = .ok (.invokestatic 10, 3) := dk_184 0 10 (dk_at dksX0_with_3 0 rfl rfl)
theorem dX0_with_73 : decode cX0_with 73 = .ok (.aload_n 0, 1) := dk_42 (dk_at dksX0_with_3 3 rfl rfl)
theorem dX0_with_74 : decode cX0_with 74 = .ok (.bipush 10, 2) := dk_16 10 (dk_at dksX0_with_3 4 rfl rfl)
theorem dX0_with_76 : decode cX0_with 76 = .ok (.invokestatic 10, 3) := dk_184 0 10 (dk_at dksX0_with_3 6 rfl rfl)
theorem dX0_with_79 : decode cX0_with 79 = .ok (.aload_n 0, 1) := dk_42 (dk_at dksX0_with_3 9 rfl rfl)
theorem dX0_with_80 : decode cX0_with 80 = .ok (.bipush 11, 2) := dk_16 11 (dk_at dksX0_with_3 10 rfl rfl)
theorem dX0_with_82 : decode cX0_with 82 = .ok (.invokestatic 10, 3) := dk_184 0 10 (dk_at dksX0_with_3 12 rfl rfl)
theorem dX0_with_85 : decode cX0_with 85 = .ok (.invokevirtual 20, 3) := dk_182 0 20 (dk_at dksX0_with_3 15 rfl rfl)
theorem dX0_with_88 : decode cX0_with 88 = .ok (.aload_n 1, 1) := dk_43 (dk_at dksX0_with_3 18 rfl rfl)
theorem dX0_with_89 : decode cX0_with 89 = .ok (.areturn, 1) := dk_176 (dk_at dksX0_with_3 19 rfl rfl)
abbrev cX0_cell : ByteArray := method_2_code
def yX0_cell : MethodName := ⟨RX0, "cell", "([II)I"⟩
def dkwX0_cell_0 : List UInt8 := [27, 42, 190, 162, 0, 9, 42, 27, 46, 167, 0, 4, 3, 172]
abbrev dktX0_cell_0 : List UInt8 := dkwX0_cell_0 ++ []
theorem dksX0_cell_0 : cX0_cell.data.toList.drop 0 = dktX0_cell_0 := by decide +kernel
theorem dX0_cell_0 : decode cX0_cell 0 = .ok (.iload_n 1, 1) := dk_27 (dk_at dksX0_cell_0 0 rfl rfl)
theorem dX0_cell_1 : decode cX0_cell 1 = .ok (.aload_n 0, 1) := dk_42 (dk_at dksX0_cell_0 1 rfl rfl)
theorem dX0_cell_2 : decode cX0_cell 2 = .ok (.arraylength, 1) := dk_190 (dk_at dksX0_cell_0 2 rfl rfl)
theorem dX0_cell_3 : decode cX0_cell 3 = .ok (.if_icmp .ge 9, 3) := dk_162 0 9 (dk_at dksX0_cell_0 3 rfl rfl)
theorem dX0_cell_6 : decode cX0_cell 6 = .ok (.aload_n 0, 1) := dk_42 (dk_at dksX0_cell_0 6 rfl rfl)
theorem dX0_cell_7 : decode cX0_cell 7 = .ok (.iload_n 1, 1) := dk_27 (dk_at dksX0_cell_0 7 rfl rfl)
theorem dX0_cell_8 : decode cX0_cell 8 = .ok (.iaload, 1) := dk_46 (dk_at dksX0_cell_0 8 rfl rfl)
theorem dX0_cell_9 : decode cX0_cell 9 = .ok (.goto 4, 3) := dk_167 0 4 (dk_at dksX0_cell_0 9 rfl rfl)
theorem dX0_cell_12 : decode cX0_cell 12 = .ok (.iconst 0, 1) := dk_3 (dk_at dksX0_cell_0 12 rfl rfl)
theorem dX0_cell_13 : decode cX0_cell 13 = .ok (.ireturn, 1) := dk_172 (dk_at dksX0_cell_0 13 rfl rfl)
abbrev cX0_same : ByteArray := method_4_code
def yX0_same : MethodName := ⟨RX0, "same", "(LNoekeonDesk;[I)Z"⟩
def dkwX0_same_2 : List UInt8 := [167, 255, 213, 4, 172]
abbrev dktX0_same_2 : List UInt8 := dkwX0_same_2 ++ []
def dkwX0_same_1 : List UInt8 := [16, 24, 16, 8, 28, 7, 112, 104, 100, 124, 17, 0, 255, 126, 159, 0, 5, 3, 172, 132, 2, 1]
abbrev dktX0_same_1 : List UInt8 := dkwX0_same_1 ++ dktX0_same_2
def dkwX0_same_0 : List UInt8 := [3, 61, 28, 16, 16, 162, 0, 43, 42, 28, 182, 0, 24, 43, 16, 8, 28, 7, 108, 96, 184, 0, 10]
abbrev dktX0_same_0 : List UInt8 := dkwX0_same_0 ++ dktX0_same_1
theorem dksX0_same_0 : cX0_same.data.toList.drop 0 = dktX0_same_0 := by decide +kernel
theorem dksX0_same_1 : cX0_same.data.toList.drop 23 = dktX0_same_1 := dk_seg dksX0_same_0 23 rfl rfl
theorem dksX0_same_2 : cX0_same.data.toList.drop 45 = dktX0_same_2 := dk_seg dksX0_same_1 22 rfl rfl
theorem dX0_same_0 : decode cX0_same 0 = .ok (.iconst 0, 1) := dk_3 (dk_at dksX0_same_0 0 rfl rfl)
theorem dX0_same_1 : decode cX0_same 1 = .ok (.istore_n 2, 1) := dk_61 (dk_at dksX0_same_0 1 rfl rfl)
theorem dX0_same_2 : decode cX0_same 2 = .ok (.iload_n 2, 1) := dk_28 (dk_at dksX0_same_0 2 rfl rfl)
theorem dX0_same_3 : decode cX0_same 3 = .ok (.bipush 16, 2) := dk_16 16 (dk_at dksX0_same_0 3 rfl rfl)
theorem dX0_same_5 : decode cX0_same 5 = .ok (.if_icmp .ge 43, 3) := dk_162 0 43 (dk_at dksX0_same_0 5 rfl rfl)
theorem dX0_same_8 : decode cX0_same 8 = .ok (.aload_n 0, 1) := dk_42 (dk_at dksX0_same_0 8 rfl rfl)
theorem dX0_same_9 : decode cX0_same 9 = .ok (.iload_n 2, 1) := dk_28 (dk_at dksX0_same_0 9 rfl rfl)
theorem dX0_same_10 : decode cX0_same 10 = .ok (.invokevirtual 24, 3) := dk_182 0 24 (dk_at dksX0_same_0 10 rfl rfl)
theorem dX0_same_13 : decode cX0_same 13 = .ok (.aload_n 1, 1) := dk_43 (dk_at dksX0_same_0 13 rfl rfl)
theorem dX0_same_14 : decode cX0_same 14 = .ok (.bipush 8, 2) := dk_16 8 (dk_at dksX0_same_0 14 rfl rfl)
theorem dX0_same_16 : decode cX0_same 16 = .ok (.iload_n 2, 1) := dk_28 (dk_at dksX0_same_0 16 rfl rfl)
theorem dX0_same_17 : decode cX0_same 17 = .ok (.iconst 4, 1) := dk_7 (dk_at dksX0_same_0 17 rfl rfl)
theorem dX0_same_18 : decode cX0_same 18 = .ok (.idiv, 1) := dk_108 (dk_at dksX0_same_0 18 rfl rfl)
theorem dX0_same_19 : decode cX0_same 19 = .ok (.iadd, 1) := dk_96 (dk_at dksX0_same_0 19 rfl rfl)
theorem dX0_same_20 : decode cX0_same 20 = .ok (.invokestatic 10, 3) := dk_184 0 10 (dk_at dksX0_same_0 20 rfl rfl)
theorem dX0_same_23 : decode cX0_same 23 = .ok (.bipush 24, 2) := dk_16 24 (dk_at dksX0_same_1 0 rfl rfl)
theorem dX0_same_25 : decode cX0_same 25 = .ok (.bipush 8, 2) := dk_16 8 (dk_at dksX0_same_1 2 rfl rfl)
theorem dX0_same_27 : decode cX0_same 27 = .ok (.iload_n 2, 1) := dk_28 (dk_at dksX0_same_1 4 rfl rfl)
theorem dX0_same_28 : decode cX0_same 28 = .ok (.iconst 4, 1) := dk_7 (dk_at dksX0_same_1 5 rfl rfl)
theorem dX0_same_29 : decode cX0_same 29 = .ok (.irem, 1) := dk_112 (dk_at dksX0_same_1 6 rfl rfl)
theorem dX0_same_30 : decode cX0_same 30 = .ok (.imul, 1) := dk_104 (dk_at dksX0_same_1 7 rfl rfl)
theorem dX0_same_31 : decode cX0_same 31 = .ok (.isub, 1) := dk_100 (dk_at dksX0_same_1 8 rfl rfl)
theorem dX0_same_32 : decode cX0_same 32 = .ok (.iushr, 1) := dk_124 (dk_at dksX0_same_1 9 rfl rfl)
theorem dX0_same_33 : decode cX0_same 33 = .ok (.sipush 255, 3) := dk_17 0 255 (dk_at dksX0_same_1 10 rfl rfl)
theorem dX0_same_36 : decode cX0_same 36 = .ok (.iand, 1) := dk_126 (dk_at dksX0_same_1 13 rfl rfl)
theorem dX0_same_37 : decode cX0_same 37 = .ok (.if_icmp .eq 5, 3) := dk_159 0 5 (dk_at dksX0_same_1 14 rfl rfl)
theorem dX0_same_40 : decode cX0_same 40 = .ok (.iconst 0, 1) := dk_3 (dk_at dksX0_same_1 17 rfl rfl)
theorem dX0_same_41 : decode cX0_same 41 = .ok (.ireturn, 1) := dk_172 (dk_at dksX0_same_1 18 rfl rfl)
theorem dX0_same_42 : decode cX0_same 42 = .ok (.iinc 2 1, 3) := dk_132 2 1 (dk_at dksX0_same_1 19 rfl rfl)
theorem dX0_same_45 : decode cX0_same 45 = .ok (.goto (-43), 3) := dk_167 255 213 (dk_at dksX0_same_2 0 rfl rfl)
theorem dX0_same_48 : decode cX0_same 48 = .ok (.iconst 1, 1) := dk_4 (dk_at dksX0_same_2 3 rfl rfl)
theorem dX0_same_49 : decode cX0_same 49 = .ok (.ireturn, 1) := dk_172 (dk_at dksX0_same_2 4 rfl rfl)
abbrev cX0_known : ByteArray := method_5_code
def yX0_known : MethodName := ⟨RX0, "known", "()Z"⟩
def dkwX0_known_22 : List UInt8 := [132, 6, 1, 167, 255, 229, 4, 172]
abbrev dktX0_known_22 : List UInt8 := dkwX0_known_22 ++ []
def dkwX0_known_21 : List UInt8 := [21, 6, 16, 16, 162, 0, 26, 25, 4, 21, 6, 182, 0, 24, 25, 5, 21, 6, 46, 159, 0, 5, 3, 172]
abbrev dktX0_known_21 : List UInt8 := dkwX0_known_21 ++ dktX0_known_22
def dkwX0_known_20 : List UInt8 := [89, 16, 13, 16, 71, 79, 89, 16, 14, 16, 83, 79, 89, 16, 15, 16, 44, 79, 58, 5, 3, 54, 6]
abbrev dktX0_known_20 : List UInt8 := dkwX0_known_20 ++ dktX0_known_21
def dkwX0_known_19 : List UInt8 := [16, 9, 16, 55, 79, 89, 16, 10, 16, 34, 79, 89, 16, 11, 16, 51, 79, 89, 16, 12, 17, 0, 188, 79]
abbrev dktX0_known_19 : List UInt8 := dkwX0_known_19 ++ dktX0_known_20
def dkwX0_known_18 : List UInt8 := [16, 117, 79, 89, 16, 6, 16, 102, 79, 89, 16, 7, 16, 15, 79, 89, 16, 8, 17, 0, 252, 79, 89]
abbrev dktX0_known_18 : List UInt8 := dkwX0_known_18 ++ dktX0_known_19
def dkwX0_known_17 : List UInt8 := [17, 0, 246, 79, 89, 5, 17, 0, 135, 79, 89, 6, 17, 0, 224, 79, 89, 7, 16, 123, 79, 89, 8]
abbrev dktX0_known_17 : List UInt8 := dkwX0_known_17 ++ dktX0_known_18
def dkwX0_known_16 : List UInt8 := [18, 39, 182, 0, 20, 25, 4, 3, 182, 0, 28, 16, 16, 188, 10, 89, 3, 17, 0, 226, 79, 89, 4]
abbrev dktX0_known_16 : List UInt8 := dkwX0_known_16 ++ dktX0_known_17
def dkwX0_known_15 : List UInt8 := [18, 35, 182, 0, 16, 25, 4, 4, 3, 3, 3, 3, 182, 0, 16, 25, 4, 18, 36, 18, 37, 18, 38]
abbrev dktX0_known_15 : List UInt8 := dkwX0_known_15 ++ dktX0_known_16
def dkwX0_known_14 : List UInt8 := [132, 4, 1, 167, 255, 231, 187, 0, 7, 89, 183, 0, 9, 58, 4, 25, 4, 3, 18, 32, 18, 33, 18, 34]
abbrev dktX0_known_14 : List UInt8 := dkwX0_known_14 ++ dktX0_known_15
def dkwX0_known_13 : List UInt8 := [21, 4, 16, 16, 162, 0, 24, 44, 21, 4, 182, 0, 24, 45, 21, 4, 46, 159, 0, 5, 3, 172]
abbrev dktX0_known_13 : List UInt8 := dkwX0_known_13 ++ dktX0_known_14
def dkwX0_known_12 : List UInt8 := [89, 16, 13, 16, 19, 79, 89, 16, 14, 16, 73, 79, 89, 16, 15, 17, 0, 178, 79, 78, 3, 54, 4]
abbrev dktX0_known_12 : List UInt8 := dkwX0_known_12 ++ dktX0_known_13
def dkwX0_known_11 : List UInt8 := [89, 16, 9, 16, 38, 79, 89, 16, 10, 16, 17, 79, 89, 16, 11, 16, 63, 79, 89, 16, 12, 16, 29, 79]
abbrev dktX0_known_11 : List UInt8 := dkwX0_known_11 ++ dktX0_known_12
def dkwX0_known_10 : List UInt8 := [17, 0, 199, 79, 89, 16, 6, 17, 0, 208, 79, 89, 16, 7, 17, 0, 146, 79, 89, 16, 8, 16, 79, 79]
abbrev dktX0_known_10 : List UInt8 := dkwX0_known_10 ++ dktX0_known_11
def dkwX0_known_9 : List UInt8 := [79, 89, 4, 16, 120, 79, 89, 5, 16, 66, 79, 89, 6, 16, 27, 79, 89, 7, 17, 0, 135, 79, 89, 8]
abbrev dktX0_known_9 : List UInt8 := dkwX0_known_9 ++ dktX0_known_10
def dkwX0_known_8 : List UInt8 := [182, 0, 16, 44, 2, 2, 2, 2, 182, 0, 20, 44, 3, 182, 0, 28, 16, 16, 188, 10, 89, 3, 16, 42]
abbrev dktX0_known_8 : List UInt8 := dkwX0_known_8 ++ dktX0_known_9
def dkwX0_known_7 : List UInt8 := [187, 0, 7, 89, 183, 0, 9, 77, 44, 3, 2, 2, 2, 2, 182, 0, 16, 44, 4, 3, 3, 3, 3]
abbrev dktX0_known_7 : List UInt8 := dkwX0_known_7 ++ dktX0_known_8
def dkwX0_known_6 : List UInt8 := [16, 16, 162, 0, 22, 42, 28, 182, 0, 24, 43, 28, 46, 159, 0, 5, 3, 172, 132, 2, 1, 167, 255, 234]
abbrev dktX0_known_6 : List UInt8 := dkwX0_known_6 ++ dktX0_known_7
def dkwX0_known_5 : List UInt8 := [79, 89, 16, 13, 16, 61, 79, 89, 16, 14, 16, 45, 79, 89, 16, 15, 17, 0, 252, 79, 76, 3, 61, 28]
abbrev dktX0_known_5 : List UInt8 := dkwX0_known_5 ++ dktX0_known_6
def dkwX0_known_4 : List UInt8 := [79, 89, 16, 9, 17, 0, 183, 79, 89, 16, 10, 4, 79, 89, 16, 11, 16, 72, 79, 89, 16, 12, 16, 80]
abbrev dktX0_known_4 : List UInt8 := dkwX0_known_4 ++ dktX0_known_5
def dkwX0_known_3 : List UInt8 := [89, 8, 17, 0, 158, 79, 89, 16, 6, 16, 41, 79, 89, 16, 7, 17, 0, 250, 79, 89, 16, 8, 16, 36]
abbrev dktX0_known_3 : List UInt8 := dkwX0_known_3 ++ dktX0_known_4
def dkwX0_known_2 : List UInt8 := [17, 0, 177, 79, 89, 4, 16, 101, 79, 89, 5, 16, 104, 79, 89, 6, 16, 81, 79, 89, 7, 16, 105, 79]
abbrev dktX0_known_2 : List UInt8 := dkwX0_known_2 ++ dktX0_known_3
def dkwX0_known_1 : List UInt8 := [182, 0, 16, 42, 3, 3, 3, 3, 182, 0, 20, 42, 3, 182, 0, 28, 16, 16, 188, 10, 89, 3]
abbrev dktX0_known_1 : List UInt8 := dkwX0_known_1 ++ dktX0_known_2
def dkwX0_known_0 : List UInt8 := [187, 0, 7, 89, 183, 0, 9, 75, 42, 3, 3, 3, 3, 3, 182, 0, 16, 42, 4, 3, 3, 3, 3]
abbrev dktX0_known_0 : List UInt8 := dkwX0_known_0 ++ dktX0_known_1
theorem dksX0_known_0 : cX0_known.data.toList.drop 0 = dktX0_known_0 := by decide +kernel
theorem dksX0_known_1 : cX0_known.data.toList.drop 23 = dktX0_known_1 := dk_seg dksX0_known_0 23 rfl rfl
theorem dksX0_known_2 : cX0_known.data.toList.drop 45 = dktX0_known_2 := dk_seg dksX0_known_1 22 rfl rfl
theorem dksX0_known_3 : cX0_known.data.toList.drop 69 = dktX0_known_3 := dk_seg dksX0_known_2 24 rfl rfl
theorem dksX0_known_4 : cX0_known.data.toList.drop 93 = dktX0_known_4 := dk_seg dksX0_known_3 24 rfl rfl
theorem dksX0_known_5 : cX0_known.data.toList.drop 117 = dktX0_known_5 := dk_seg dksX0_known_4 24 rfl rfl
theorem dksX0_known_6 : cX0_known.data.toList.drop 141 = dktX0_known_6 := dk_seg dksX0_known_5 24 rfl rfl
theorem dksX0_known_7 : cX0_known.data.toList.drop 165 = dktX0_known_7 := dk_seg dksX0_known_6 24 rfl rfl
theorem dksX0_known_8 : cX0_known.data.toList.drop 188 = dktX0_known_8 := dk_seg dksX0_known_7 23 rfl rfl
theorem dksX0_known_9 : cX0_known.data.toList.drop 212 = dktX0_known_9 := dk_seg dksX0_known_8 24 rfl rfl
theorem dksX0_known_10 : cX0_known.data.toList.drop 236 = dktX0_known_10 := dk_seg dksX0_known_9 24 rfl rfl
theorem dksX0_known_11 : cX0_known.data.toList.drop 260 = dktX0_known_11 := dk_seg dksX0_known_10 24 rfl rfl
theorem dksX0_known_12 : cX0_known.data.toList.drop 284 = dktX0_known_12 := dk_seg dksX0_known_11 24 rfl rfl
theorem dksX0_known_13 : cX0_known.data.toList.drop 307 = dktX0_known_13 := dk_seg dksX0_known_12 23 rfl rfl
theorem dksX0_known_14 : cX0_known.data.toList.drop 329 = dktX0_known_14 := dk_seg dksX0_known_13 22 rfl rfl
theorem dksX0_known_15 : cX0_known.data.toList.drop 353 = dktX0_known_15 := dk_seg dksX0_known_14 24 rfl rfl
theorem dksX0_known_16 : cX0_known.data.toList.drop 376 = dktX0_known_16 := dk_seg dksX0_known_15 23 rfl rfl
theorem dksX0_known_17 : cX0_known.data.toList.drop 399 = dktX0_known_17 := dk_seg dksX0_known_16 23 rfl rfl
theorem dksX0_known_18 : cX0_known.data.toList.drop 422 = dktX0_known_18 := dk_seg dksX0_known_17 23 rfl rfl
theorem dksX0_known_19 : cX0_known.data.toList.drop 445 = dktX0_known_19 := dk_seg dksX0_known_18 23 rfl rfl
theorem dksX0_known_20 : cX0_known.data.toList.drop 469 = dktX0_known_20 := dk_seg dksX0_known_19 24 rfl rfl
theorem dksX0_known_21 : cX0_known.data.toList.drop 492 = dktX0_known_21 := dk_seg dksX0_known_20 23 rfl rfl
theorem dksX0_known_22 : cX0_known.data.toList.drop 516 = dktX0_known_22 := dk_seg dksX0_known_21 24 rfl rfl
theorem dX0_known_0 : decode cX0_known 0 = .ok (.new 7, 3) := dk_187 0 7 (dk_at dksX0_known_0 0 rfl rfl)
theorem dX0_known_3 : decode cX0_known 3 = .ok (.dup, 1) := dk_89 (dk_at dksX0_known_0 3 rfl rfl)
theorem dX0_known_4 : decode cX0_known 4 = .ok (.invokespecial 9, 3) := dk_183 0 9 (dk_at dksX0_known_0 4 rfl rfl)
theorem dX0_known_7 : decode cX0_known 7 = .ok (.astore_n 0, 1) := dk_75 (dk_at dksX0_known_0 7 rfl rfl)
theorem dX0_known_8 : decode cX0_known 8 = .ok (.aload_n 0, 1) := dk_42 (dk_at dksX0_known_0 8 rfl rfl)
theorem dX0_known_9 : decode cX0_known 9 = .ok (.iconst 0, 1) := dk_3 (dk_at dksX0_known_0 9 rfl rfl)
theorem dX0_known_10 : decode cX0_known 10 = .ok (.iconst 0, 1) := dk_3 (dk_at dksX0_known_0 10 rfl rfl)
theorem dX0_known_11 : decode cX0_known 11 = .ok (.iconst 0, 1) := dk_3 (dk_at dksX0_known_0 11 rfl rfl)
theorem dX0_known_12 : decode cX0_known 12 = .ok (.iconst 0, 1) := dk_3 (dk_at dksX0_known_0 12 rfl rfl)
theorem dX0_known_13 : decode cX0_known 13 = .ok (.iconst 0, 1) := dk_3 (dk_at dksX0_known_0 13 rfl rfl)
theorem dX0_known_14 : decode cX0_known 14 = .ok (.invokevirtual 16, 3) := dk_182 0 16 (dk_at dksX0_known_0 14 rfl rfl)
theorem dX0_known_17 : decode cX0_known 17 = .ok (.aload_n 0, 1) := dk_42 (dk_at dksX0_known_0 17 rfl rfl)
theorem dX0_known_18 : decode cX0_known 18 = .ok (.iconst 1, 1) := dk_4 (dk_at dksX0_known_0 18 rfl rfl)
theorem dX0_known_19 : decode cX0_known 19 = .ok (.iconst 0, 1) := dk_3 (dk_at dksX0_known_0 19 rfl rfl)
theorem dX0_known_20 : decode cX0_known 20 = .ok (.iconst 0, 1) := dk_3 (dk_at dksX0_known_0 20 rfl rfl)
theorem dX0_known_21 : decode cX0_known 21 = .ok (.iconst 0, 1) := dk_3 (dk_at dksX0_known_0 21 rfl rfl)
theorem dX0_known_22 : decode cX0_known 22 = .ok (.iconst 0, 1) := dk_3 (dk_at dksX0_known_0 22 rfl rfl)
theorem dX0_known_23 : decode cX0_known 23 = .ok (.invokevirtual 16, 3) := dk_182 0 16 (dk_at dksX0_known_1 0 rfl rfl)
theorem dX0_known_26 : decode cX0_known 26 = .ok (.aload_n 0, 1) := dk_42 (dk_at dksX0_known_1 3 rfl rfl)
theorem dX0_known_27 : decode cX0_known 27 = .ok (.iconst 0, 1) := dk_3 (dk_at dksX0_known_1 4 rfl rfl)
theorem dX0_known_28 : decode cX0_known 28 = .ok (.iconst 0, 1) := dk_3 (dk_at dksX0_known_1 5 rfl rfl)
theorem dX0_known_29 : decode cX0_known 29 = .ok (.iconst 0, 1) := dk_3 (dk_at dksX0_known_1 6 rfl rfl)
theorem dX0_known_30 : decode cX0_known 30 = .ok (.iconst 0, 1) := dk_3 (dk_at dksX0_known_1 7 rfl rfl)
theorem dX0_known_31 : decode cX0_known 31 = .ok (.invokevirtual 20, 3) := dk_182 0 20 (dk_at dksX0_known_1 8 rfl rfl)
theorem dX0_known_34 : decode cX0_known 34 = .ok (.aload_n 0, 1) := dk_42 (dk_at dksX0_known_1 11 rfl rfl)
theorem dX0_known_35 : decode cX0_known 35 = .ok (.iconst 0, 1) := dk_3 (dk_at dksX0_known_1 12 rfl rfl)
theorem dX0_known_36 : decode cX0_known 36 = .ok (.invokevirtual 28, 3) := dk_182 0 28 (dk_at dksX0_known_1 13 rfl rfl)
theorem dX0_known_39 : decode cX0_known 39 = .ok (.bipush 16, 2) := dk_16 16 (dk_at dksX0_known_1 16 rfl rfl)
theorem dX0_known_41 : decode cX0_known 41 = .ok (.newarray .int, 2) := dk_188_10 (dk_at dksX0_known_1 18 rfl rfl)
theorem dX0_known_43 : decode cX0_known 43 = .ok (.dup, 1) := dk_89 (dk_at dksX0_known_1 20 rfl rfl)
theorem dX0_known_44 : decode cX0_known 44 = .ok (.iconst 0, 1) := dk_3 (dk_at dksX0_known_1 21 rfl rfl)
theorem dX0_known_45 : decode cX0_known 45 = .ok (.sipush 177, 3) := dk_17 0 177 (dk_at dksX0_known_2 0 rfl rfl)
theorem dX0_known_48 : decode cX0_known 48 = .ok (.iastore, 1) := dk_79 (dk_at dksX0_known_2 3 rfl rfl)
theorem dX0_known_49 : decode cX0_known 49 = .ok (.dup, 1) := dk_89 (dk_at dksX0_known_2 4 rfl rfl)
theorem dX0_known_50 : decode cX0_known 50 = .ok (.iconst 1, 1) := dk_4 (dk_at dksX0_known_2 5 rfl rfl)
theorem dX0_known_51 : decode cX0_known 51 = .ok (.bipush 101, 2) := dk_16 101 (dk_at dksX0_known_2 6 rfl rfl)
theorem dX0_known_53 : decode cX0_known 53 = .ok (.iastore, 1) := dk_79 (dk_at dksX0_known_2 8 rfl rfl)
theorem dX0_known_54 : decode cX0_known 54 = .ok (.dup, 1) := dk_89 (dk_at dksX0_known_2 9 rfl rfl)
theorem dX0_known_55 : decode cX0_known 55 = .ok (.iconst 2, 1) := dk_5 (dk_at dksX0_known_2 10 rfl rfl)
theorem dX0_known_56 : decode cX0_known 56 = .ok (.bipush 104, 2) := dk_16 104 (dk_at dksX0_known_2 11 rfl rfl)
theorem dX0_known_58 : decode cX0_known 58 = .ok (.iastore, 1) := dk_79 (dk_at dksX0_known_2 13 rfl rfl)
theorem dX0_known_59 : decode cX0_known 59 = .ok (.dup, 1) := dk_89 (dk_at dksX0_known_2 14 rfl rfl)
theorem dX0_known_60 : decode cX0_known 60 = .ok (.iconst 3, 1) := dk_6 (dk_at dksX0_known_2 15 rfl rfl)
theorem dX0_known_61 : decode cX0_known 61 = .ok (.bipush 81, 2) := dk_16 81 (dk_at dksX0_known_2 16 rfl rfl)
theorem dX0_known_63 : decode cX0_known 63 = .ok (.iastore, 1) := dk_79 (dk_at dksX0_known_2 18 rfl rfl)
theorem dX0_known_64 : decode cX0_known 64 = .ok (.dup, 1) := dk_89 (dk_at dksX0_known_2 19 rfl rfl)
theorem dX0_known_65 : decode cX0_known 65 = .ok (.iconst 4, 1) := dk_7 (dk_at dksX0_known_2 20 rfl rfl)
theorem dX0_known_66 : decode cX0_known 66 = .ok (.bipush 105, 2) := dk_16 105 (dk_at dksX0_known_2 21 rfl rfl)
theorem dX0_known_68 : decode cX0_known 68 = .ok (.iastore, 1) := dk_79 (dk_at dksX0_known_2 23 rfl rfl)
theorem dX0_known_69 : decode cX0_known 69 = .ok (.dup, 1) := dk_89 (dk_at dksX0_known_3 0 rfl rfl)
theorem dX0_known_70 : decode cX0_known 70 = .ok (.iconst 5, 1) := dk_8 (dk_at dksX0_known_3 1 rfl rfl)
theorem dX0_known_71 : decode cX0_known 71 = .ok (.sipush 158, 3) := dk_17 0 158 (dk_at dksX0_known_3 2 rfl rfl)
theorem dX0_known_74 : decode cX0_known 74 = .ok (.iastore, 1) := dk_79 (dk_at dksX0_known_3 5 rfl rfl)
theorem dX0_known_75 : decode cX0_known 75 = .ok (.dup, 1) := dk_89 (dk_at dksX0_known_3 6 rfl rfl)
theorem dX0_known_76 : decode cX0_known 76 = .ok (.bipush 6, 2) := dk_16 6 (dk_at dksX0_known_3 7 rfl rfl)
theorem dX0_known_78 : decode cX0_known 78 = .ok (.bipush 41, 2) := dk_16 41 (dk_at dksX0_known_3 9 rfl rfl)
theorem dX0_known_80 : decode cX0_known 80 = .ok (.iastore, 1) := dk_79 (dk_at dksX0_known_3 11 rfl rfl)
theorem dX0_known_81 : decode cX0_known 81 = .ok (.dup, 1) := dk_89 (dk_at dksX0_known_3 12 rfl rfl)
theorem dX0_known_82 : decode cX0_known 82 = .ok (.bipush 7, 2) := dk_16 7 (dk_at dksX0_known_3 13 rfl rfl)
theorem dX0_known_84 : decode cX0_known 84 = .ok (.sipush 250, 3) := dk_17 0 250 (dk_at dksX0_known_3 15 rfl rfl)
theorem dX0_known_87 : decode cX0_known 87 = .ok (.iastore, 1) := dk_79 (dk_at dksX0_known_3 18 rfl rfl)
theorem dX0_known_88 : decode cX0_known 88 = .ok (.dup, 1) := dk_89 (dk_at dksX0_known_3 19 rfl rfl)
theorem dX0_known_89 : decode cX0_known 89 = .ok (.bipush 8, 2) := dk_16 8 (dk_at dksX0_known_3 20 rfl rfl)
theorem dX0_known_91 : decode cX0_known 91 = .ok (.bipush 36, 2) := dk_16 36 (dk_at dksX0_known_3 22 rfl rfl)
theorem dX0_known_93 : decode cX0_known 93 = .ok (.iastore, 1) := dk_79 (dk_at dksX0_known_4 0 rfl rfl)
theorem dX0_known_94 : decode cX0_known 94 = .ok (.dup, 1) := dk_89 (dk_at dksX0_known_4 1 rfl rfl)
theorem dX0_known_95 : decode cX0_known 95 = .ok (.bipush 9, 2) := dk_16 9 (dk_at dksX0_known_4 2 rfl rfl)
theorem dX0_known_97 : decode cX0_known 97 = .ok (.sipush 183, 3) := dk_17 0 183 (dk_at dksX0_known_4 4 rfl rfl)
theorem dX0_known_100 : decode cX0_known 100 = .ok (.iastore, 1) := dk_79 (dk_at dksX0_known_4 7 rfl rfl)
theorem dX0_known_101 : decode cX0_known 101 = .ok (.dup, 1) := dk_89 (dk_at dksX0_known_4 8 rfl rfl)
theorem dX0_known_102 : decode cX0_known 102 = .ok (.bipush 10, 2) := dk_16 10 (dk_at dksX0_known_4 9 rfl rfl)
theorem dX0_known_104 : decode cX0_known 104 = .ok (.iconst 1, 1) := dk_4 (dk_at dksX0_known_4 11 rfl rfl)
theorem dX0_known_105 : decode cX0_known 105 = .ok (.iastore, 1) := dk_79 (dk_at dksX0_known_4 12 rfl rfl)
theorem dX0_known_106 : decode cX0_known 106 = .ok (.dup, 1) := dk_89 (dk_at dksX0_known_4 13 rfl rfl)
theorem dX0_known_107 : decode cX0_known 107 = .ok (.bipush 11, 2) := dk_16 11 (dk_at dksX0_known_4 14 rfl rfl)
theorem dX0_known_109 : decode cX0_known 109 = .ok (.bipush 72, 2) := dk_16 72 (dk_at dksX0_known_4 16 rfl rfl)
theorem dX0_known_111 : decode cX0_known 111 = .ok (.iastore, 1) := dk_79 (dk_at dksX0_known_4 18 rfl rfl)
theorem dX0_known_112 : decode cX0_known 112 = .ok (.dup, 1) := dk_89 (dk_at dksX0_known_4 19 rfl rfl)
theorem dX0_known_113 : decode cX0_known 113 = .ok (.bipush 12, 2) := dk_16 12 (dk_at dksX0_known_4 20 rfl rfl)
theorem dX0_known_115 : decode cX0_known 115 = .ok (.bipush 80, 2) := dk_16 80 (dk_at dksX0_known_4 22 rfl rfl)
theorem dX0_known_117 : decode cX0_known 117 = .ok (.iastore, 1) := dk_79 (dk_at dksX0_known_5 0 rfl rfl)
theorem dX0_known_118 : decode cX0_known 118 = .ok (.dup, 1) := dk_89 (dk_at dksX0_known_5 1 rfl rfl)
theorem dX0_known_119 : decode cX0_known 119 = .ok (.bipush 13, 2) := dk_16 13 (dk_at dksX0_known_5 2 rfl rfl)
theorem dX0_known_121 : decode cX0_known 121 = .ok (.bipush 61, 2) := dk_16 61 (dk_at dksX0_known_5 4 rfl rfl)
theorem dX0_known_123 : decode cX0_known 123 = .ok (.iastore, 1) := dk_79 (dk_at dksX0_known_5 6 rfl rfl)
theorem dX0_known_124 : decode cX0_known 124 = .ok (.dup, 1) := dk_89 (dk_at dksX0_known_5 7 rfl rfl)
theorem dX0_known_125 : decode cX0_known 125 = .ok (.bipush 14, 2) := dk_16 14 (dk_at dksX0_known_5 8 rfl rfl)
theorem dX0_known_127 : decode cX0_known 127 = .ok (.bipush 45, 2) := dk_16 45 (dk_at dksX0_known_5 10 rfl rfl)
theorem dX0_known_129 : decode cX0_known 129 = .ok (.iastore, 1) := dk_79 (dk_at dksX0_known_5 12 rfl rfl)
theorem dX0_known_130 : decode cX0_known 130 = .ok (.dup, 1) := dk_89 (dk_at dksX0_known_5 13 rfl rfl)
theorem dX0_known_131 : decode cX0_known 131 = .ok (.bipush 15, 2) := dk_16 15 (dk_at dksX0_known_5 14 rfl rfl)
theorem dX0_known_133 : decode cX0_known 133 = .ok (.sipush 252, 3) := dk_17 0 252 (dk_at dksX0_known_5 16 rfl rfl)
theorem dX0_known_136 : decode cX0_known 136 = .ok (.iastore, 1) := dk_79 (dk_at dksX0_known_5 19 rfl rfl)
theorem dX0_known_137 : decode cX0_known 137 = .ok (.astore_n 1, 1) := dk_76 (dk_at dksX0_known_5 20 rfl rfl)
theorem dX0_known_138 : decode cX0_known 138 = .ok (.iconst 0, 1) := dk_3 (dk_at dksX0_known_5 21 rfl rfl)
theorem dX0_known_139 : decode cX0_known 139 = .ok (.istore_n 2, 1) := dk_61 (dk_at dksX0_known_5 22 rfl rfl)
theorem dX0_known_140 : decode cX0_known 140 = .ok (.iload_n 2, 1) := dk_28 (dk_at dksX0_known_5 23 rfl rfl)
theorem dX0_known_141 : decode cX0_known 141 = .ok (.bipush 16, 2) := dk_16 16 (dk_at dksX0_known_6 0 rfl rfl)
theorem dX0_known_143 : decode cX0_known 143 = .ok (.if_icmp .ge 22, 3) := dk_162 0 22 (dk_at dksX0_known_6 2 rfl rfl)
theorem dX0_known_146 : decode cX0_known 146 = .ok (.aload_n 0, 1) := dk_42 (dk_at dksX0_known_6 5 rfl rfl)
theorem dX0_known_147 : decode cX0_known 147 = .ok (.iload_n 2, 1) := dk_28 (dk_at dksX0_known_6 6 rfl rfl)
theorem dX0_known_148 : decode cX0_known 148 = .ok (.invokevirtual 24, 3) := dk_182 0 24 (dk_at dksX0_known_6 7 rfl rfl)
theorem dX0_known_151 : decode cX0_known 151 = .ok (.aload_n 1, 1) := dk_43 (dk_at dksX0_known_6 10 rfl rfl)
theorem dX0_known_152 : decode cX0_known 152 = .ok (.iload_n 2, 1) := dk_28 (dk_at dksX0_known_6 11 rfl rfl)
theorem dX0_known_153 : decode cX0_known 153 = .ok (.iaload, 1) := dk_46 (dk_at dksX0_known_6 12 rfl rfl)
theorem dX0_known_154 : decode cX0_known 154 = .ok (.if_icmp .eq 5, 3) := dk_159 0 5 (dk_at dksX0_known_6 13 rfl rfl)
theorem dX0_known_157 : decode cX0_known 157 = .ok (.iconst 0, 1) := dk_3 (dk_at dksX0_known_6 16 rfl rfl)
theorem dX0_known_158 : decode cX0_known 158 = .ok (.ireturn, 1) := dk_172 (dk_at dksX0_known_6 17 rfl rfl)
theorem dX0_known_159 : decode cX0_known 159 = .ok (.iinc 2 1, 3) := dk_132 2 1 (dk_at dksX0_known_6 18 rfl rfl)
theorem dX0_known_162 : decode cX0_known 162 = .ok (.goto (-22), 3) := dk_167 255 234 (dk_at dksX0_known_6 21 rfl rfl)
theorem dX0_known_165 : decode cX0_known 165 = .ok (.new 7, 3) := dk_187 0 7 (dk_at dksX0_known_7 0 rfl rfl)
theorem dX0_known_168 : decode cX0_known 168 = .ok (.dup, 1) := dk_89 (dk_at dksX0_known_7 3 rfl rfl)
theorem dX0_known_169 : decode cX0_known 169 = .ok (.invokespecial 9, 3) := dk_183 0 9 (dk_at dksX0_known_7 4 rfl rfl)
theorem dX0_known_172 : decode cX0_known 172 = .ok (.astore_n 2, 1) := dk_77 (dk_at dksX0_known_7 7 rfl rfl)
theorem dX0_known_173 : decode cX0_known 173 = .ok (.aload_n 2, 1) := dk_44 (dk_at dksX0_known_7 8 rfl rfl)
theorem dX0_known_174 : decode cX0_known 174 = .ok (.iconst 0, 1) := dk_3 (dk_at dksX0_known_7 9 rfl rfl)
theorem dX0_known_175 : decode cX0_known 175 = .ok (.iconst (-1), 1) := dk_2 (dk_at dksX0_known_7 10 rfl rfl)
theorem dX0_known_176 : decode cX0_known 176 = .ok (.iconst (-1), 1) := dk_2 (dk_at dksX0_known_7 11 rfl rfl)
theorem dX0_known_177 : decode cX0_known 177 = .ok (.iconst (-1), 1) := dk_2 (dk_at dksX0_known_7 12 rfl rfl)
theorem dX0_known_178 : decode cX0_known 178 = .ok (.iconst (-1), 1) := dk_2 (dk_at dksX0_known_7 13 rfl rfl)
theorem dX0_known_179 : decode cX0_known 179 = .ok (.invokevirtual 16, 3) := dk_182 0 16 (dk_at dksX0_known_7 14 rfl rfl)
theorem dX0_known_182 : decode cX0_known 182 = .ok (.aload_n 2, 1) := dk_44 (dk_at dksX0_known_7 17 rfl rfl)
theorem dX0_known_183 : decode cX0_known 183 = .ok (.iconst 1, 1) := dk_4 (dk_at dksX0_known_7 18 rfl rfl)
theorem dX0_known_184 : decode cX0_known 184 = .ok (.iconst 0, 1) := dk_3 (dk_at dksX0_known_7 19 rfl rfl)
theorem dX0_known_185 : decode cX0_known 185 = .ok (.iconst 0, 1) := dk_3 (dk_at dksX0_known_7 20 rfl rfl)
theorem dX0_known_186 : decode cX0_known 186 = .ok (.iconst 0, 1) := dk_3 (dk_at dksX0_known_7 21 rfl rfl)
theorem dX0_known_187 : decode cX0_known 187 = .ok (.iconst 0, 1) := dk_3 (dk_at dksX0_known_7 22 rfl rfl)
theorem dX0_known_188 : decode cX0_known 188 = .ok (.invokevirtual 16, 3) := dk_182 0 16 (dk_at dksX0_known_8 0 rfl rfl)
theorem dX0_known_191 : decode cX0_known 191 = .ok (.aload_n 2, 1) := dk_44 (dk_at dksX0_known_8 3 rfl rfl)
theorem dX0_known_192 : decode cX0_known 192 = .ok (.iconst (-1), 1) := dk_2 (dk_at dksX0_known_8 4 rfl rfl)
theorem dX0_known_193 : decode cX0_known 193 = .ok (.iconst (-1), 1) := dk_2 (dk_at dksX0_known_8 5 rfl rfl)
theorem dX0_known_194 : decode cX0_known 194 = .ok (.iconst (-1), 1) := dk_2 (dk_at dksX0_known_8 6 rfl rfl)
theorem dX0_known_195 : decode cX0_known 195 = .ok (.iconst (-1), 1) := dk_2 (dk_at dksX0_known_8 7 rfl rfl)
theorem dX0_known_196 : decode cX0_known 196 = .ok (.invokevirtual 20, 3) := dk_182 0 20 (dk_at dksX0_known_8 8 rfl rfl)
theorem dX0_known_199 : decode cX0_known 199 = .ok (.aload_n 2, 1) := dk_44 (dk_at dksX0_known_8 11 rfl rfl)
theorem dX0_known_200 : decode cX0_known 200 = .ok (.iconst 0, 1) := dk_3 (dk_at dksX0_known_8 12 rfl rfl)
theorem dX0_known_201 : decode cX0_known 201 = .ok (.invokevirtual 28, 3) := dk_182 0 28 (dk_at dksX0_known_8 13 rfl rfl)
theorem dX0_known_204 : decode cX0_known 204 = .ok (.bipush 16, 2) := dk_16 16 (dk_at dksX0_known_8 16 rfl rfl)
theorem dX0_known_206 : decode cX0_known 206 = .ok (.newarray .int, 2) := dk_188_10 (dk_at dksX0_known_8 18 rfl rfl)
theorem dX0_known_208 : decode cX0_known 208 = .ok (.dup, 1) := dk_89 (dk_at dksX0_known_8 20 rfl rfl)
theorem dX0_known_209 : decode cX0_known 209 = .ok (.iconst 0, 1) := dk_3 (dk_at dksX0_known_8 21 rfl rfl)
theorem dX0_known_210 : decode cX0_known 210 = .ok (.bipush 42, 2) := dk_16 42 (dk_at dksX0_known_8 22 rfl rfl)
theorem dX0_known_212 : decode cX0_known 212 = .ok (.iastore, 1) := dk_79 (dk_at dksX0_known_9 0 rfl rfl)
theorem dX0_known_213 : decode cX0_known 213 = .ok (.dup, 1) := dk_89 (dk_at dksX0_known_9 1 rfl rfl)
theorem dX0_known_214 : decode cX0_known 214 = .ok (.iconst 1, 1) := dk_4 (dk_at dksX0_known_9 2 rfl rfl)
theorem dX0_known_215 : decode cX0_known 215 = .ok (.bipush 120, 2) := dk_16 120 (dk_at dksX0_known_9 3 rfl rfl)
theorem dX0_known_217 : decode cX0_known 217 = .ok (.iastore, 1) := dk_79 (dk_at dksX0_known_9 5 rfl rfl)
theorem dX0_known_218 : decode cX0_known 218 = .ok (.dup, 1) := dk_89 (dk_at dksX0_known_9 6 rfl rfl)
theorem dX0_known_219 : decode cX0_known 219 = .ok (.iconst 2, 1) := dk_5 (dk_at dksX0_known_9 7 rfl rfl)
theorem dX0_known_220 : decode cX0_known 220 = .ok (.bipush 66, 2) := dk_16 66 (dk_at dksX0_known_9 8 rfl rfl)
theorem dX0_known_222 : decode cX0_known 222 = .ok (.iastore, 1) := dk_79 (dk_at dksX0_known_9 10 rfl rfl)
theorem dX0_known_223 : decode cX0_known 223 = .ok (.dup, 1) := dk_89 (dk_at dksX0_known_9 11 rfl rfl)
theorem dX0_known_224 : decode cX0_known 224 = .ok (.iconst 3, 1) := dk_6 (dk_at dksX0_known_9 12 rfl rfl)
theorem dX0_known_225 : decode cX0_known 225 = .ok (.bipush 27, 2) := dk_16 27 (dk_at dksX0_known_9 13 rfl rfl)
theorem dX0_known_227 : decode cX0_known 227 = .ok (.iastore, 1) := dk_79 (dk_at dksX0_known_9 15 rfl rfl)
theorem dX0_known_228 : decode cX0_known 228 = .ok (.dup, 1) := dk_89 (dk_at dksX0_known_9 16 rfl rfl)
theorem dX0_known_229 : decode cX0_known 229 = .ok (.iconst 4, 1) := dk_7 (dk_at dksX0_known_9 17 rfl rfl)
theorem dX0_known_230 : decode cX0_known 230 = .ok (.sipush 135, 3) := dk_17 0 135 (dk_at dksX0_known_9 18 rfl rfl)
theorem dX0_known_233 : decode cX0_known 233 = .ok (.iastore, 1) := dk_79 (dk_at dksX0_known_9 21 rfl rfl)
theorem dX0_known_234 : decode cX0_known 234 = .ok (.dup, 1) := dk_89 (dk_at dksX0_known_9 22 rfl rfl)
theorem dX0_known_235 : decode cX0_known 235 = .ok (.iconst 5, 1) := dk_8 (dk_at dksX0_known_9 23 rfl rfl)
theorem dX0_known_236 : decode cX0_known 236 = .ok (.sipush 199, 3) := dk_17 0 199 (dk_at dksX0_known_10 0 rfl rfl)
theorem dX0_known_239 : decode cX0_known 239 = .ok (.iastore, 1) := dk_79 (dk_at dksX0_known_10 3 rfl rfl)
theorem dX0_known_240 : decode cX0_known 240 = .ok (.dup, 1) := dk_89 (dk_at dksX0_known_10 4 rfl rfl)
theorem dX0_known_241 : decode cX0_known 241 = .ok (.bipush 6, 2) := dk_16 6 (dk_at dksX0_known_10 5 rfl rfl)
theorem dX0_known_243 : decode cX0_known 243 = .ok (.sipush 208, 3) := dk_17 0 208 (dk_at dksX0_known_10 7 rfl rfl)
theorem dX0_known_246 : decode cX0_known 246 = .ok (.iastore, 1) := dk_79 (dk_at dksX0_known_10 10 rfl rfl)
theorem dX0_known_247 : decode cX0_known 247 = .ok (.dup, 1) := dk_89 (dk_at dksX0_known_10 11 rfl rfl)
theorem dX0_known_248 : decode cX0_known 248 = .ok (.bipush 7, 2) := dk_16 7 (dk_at dksX0_known_10 12 rfl rfl)
theorem dX0_known_250 : decode cX0_known 250 = .ok (.sipush 146, 3) := dk_17 0 146 (dk_at dksX0_known_10 14 rfl rfl)
theorem dX0_known_253 : decode cX0_known 253 = .ok (.iastore, 1) := dk_79 (dk_at dksX0_known_10 17 rfl rfl)
theorem dX0_known_254 : decode cX0_known 254 = .ok (.dup, 1) := dk_89 (dk_at dksX0_known_10 18 rfl rfl)
theorem dX0_known_255 : decode cX0_known 255 = .ok (.bipush 8, 2) := dk_16 8 (dk_at dksX0_known_10 19 rfl rfl)
theorem dX0_known_257 : decode cX0_known 257 = .ok (.bipush 79, 2) := dk_16 79 (dk_at dksX0_known_10 21 rfl rfl)
theorem dX0_known_259 : decode cX0_known 259 = .ok (.iastore, 1) := dk_79 (dk_at dksX0_known_10 23 rfl rfl)
theorem dX0_known_260 : decode cX0_known 260 = .ok (.dup, 1) := dk_89 (dk_at dksX0_known_11 0 rfl rfl)
theorem dX0_known_261 : decode cX0_known 261 = .ok (.bipush 9, 2) := dk_16 9 (dk_at dksX0_known_11 1 rfl rfl)
theorem dX0_known_263 : decode cX0_known 263 = .ok (.bipush 38, 2) := dk_16 38 (dk_at dksX0_known_11 3 rfl rfl)
theorem dX0_known_265 : decode cX0_known 265 = .ok (.iastore, 1) := dk_79 (dk_at dksX0_known_11 5 rfl rfl)
theorem dX0_known_266 : decode cX0_known 266 = .ok (.dup, 1) := dk_89 (dk_at dksX0_known_11 6 rfl rfl)
theorem dX0_known_267 : decode cX0_known 267 = .ok (.bipush 10, 2) := dk_16 10 (dk_at dksX0_known_11 7 rfl rfl)
theorem dX0_known_269 : decode cX0_known 269 = .ok (.bipush 17, 2) := dk_16 17 (dk_at dksX0_known_11 9 rfl rfl)
theorem dX0_known_271 : decode cX0_known 271 = .ok (.iastore, 1) := dk_79 (dk_at dksX0_known_11 11 rfl rfl)
theorem dX0_known_272 : decode cX0_known 272 = .ok (.dup, 1) := dk_89 (dk_at dksX0_known_11 12 rfl rfl)
theorem dX0_known_273 : decode cX0_known 273 = .ok (.bipush 11, 2) := dk_16 11 (dk_at dksX0_known_11 13 rfl rfl)
theorem dX0_known_275 : decode cX0_known 275 = .ok (.bipush 63, 2) := dk_16 63 (dk_at dksX0_known_11 15 rfl rfl)
theorem dX0_known_277 : decode cX0_known 277 = .ok (.iastore, 1) := dk_79 (dk_at dksX0_known_11 17 rfl rfl)
theorem dX0_known_278 : decode cX0_known 278 = .ok (.dup, 1) := dk_89 (dk_at dksX0_known_11 18 rfl rfl)
theorem dX0_known_279 : decode cX0_known 279 = .ok (.bipush 12, 2) := dk_16 12 (dk_at dksX0_known_11 19 rfl rfl)
theorem dX0_known_281 : decode cX0_known 281 = .ok (.bipush 29, 2) := dk_16 29 (dk_at dksX0_known_11 21 rfl rfl)
theorem dX0_known_283 : decode cX0_known 283 = .ok (.iastore, 1) := dk_79 (dk_at dksX0_known_11 23 rfl rfl)
theorem dX0_known_284 : decode cX0_known 284 = .ok (.dup, 1) := dk_89 (dk_at dksX0_known_12 0 rfl rfl)
theorem dX0_known_285 : decode cX0_known 285 = .ok (.bipush 13, 2) := dk_16 13 (dk_at dksX0_known_12 1 rfl rfl)
theorem dX0_known_287 : decode cX0_known 287 = .ok (.bipush 19, 2) := dk_16 19 (dk_at dksX0_known_12 3 rfl rfl)
theorem dX0_known_289 : decode cX0_known 289 = .ok (.iastore, 1) := dk_79 (dk_at dksX0_known_12 5 rfl rfl)
theorem dX0_known_290 : decode cX0_known 290 = .ok (.dup, 1) := dk_89 (dk_at dksX0_known_12 6 rfl rfl)
theorem dX0_known_291 : decode cX0_known 291 = .ok (.bipush 14, 2) := dk_16 14 (dk_at dksX0_known_12 7 rfl rfl)
theorem dX0_known_293 : decode cX0_known 293 = .ok (.bipush 73, 2) := dk_16 73 (dk_at dksX0_known_12 9 rfl rfl)
theorem dX0_known_295 : decode cX0_known 295 = .ok (.iastore, 1) := dk_79 (dk_at dksX0_known_12 11 rfl rfl)
theorem dX0_known_296 : decode cX0_known 296 = .ok (.dup, 1) := dk_89 (dk_at dksX0_known_12 12 rfl rfl)
theorem dX0_known_297 : decode cX0_known 297 = .ok (.bipush 15, 2) := dk_16 15 (dk_at dksX0_known_12 13 rfl rfl)
theorem dX0_known_299 : decode cX0_known 299 = .ok (.sipush 178, 3) := dk_17 0 178 (dk_at dksX0_known_12 15 rfl rfl)
theorem dX0_known_302 : decode cX0_known 302 = .ok (.iastore, 1) := dk_79 (dk_at dksX0_known_12 18 rfl rfl)
theorem dX0_known_303 : decode cX0_known 303 = .ok (.astore_n 3, 1) := dk_78 (dk_at dksX0_known_12 19 rfl rfl)
theorem dX0_known_304 : decode cX0_known 304 = .ok (.iconst 0, 1) := dk_3 (dk_at dksX0_known_12 20 rfl rfl)
theorem dX0_known_305 : decode cX0_known 305 = .ok (.istore 4, 2) := dk_54 4 (dk_at dksX0_known_12 21 rfl rfl)
theorem dX0_known_307 : decode cX0_known 307 = .ok (.iload 4, 2) := dk_21 4 (dk_at dksX0_known_13 0 rfl rfl)
theorem dX0_known_309 : decode cX0_known 309 = .ok (.bipush 16, 2) := dk_16 16 (dk_at dksX0_known_13 2 rfl rfl)
theorem dX0_known_311 : decode cX0_known 311 = .ok (.if_icmp .ge 24, 3) := dk_162 0 24 (dk_at dksX0_known_13 4 rfl rfl)
theorem dX0_known_314 : decode cX0_known 314 = .ok (.aload_n 2, 1) := dk_44 (dk_at dksX0_known_13 7 rfl rfl)
theorem dX0_known_315 : decode cX0_known 315 = .ok (.iload 4, 2) := dk_21 4 (dk_at dksX0_known_13 8 rfl rfl)
theorem dX0_known_317 : decode cX0_known 317 = .ok (.invokevirtual 24, 3) := dk_182 0 24 (dk_at dksX0_known_13 10 rfl rfl)
theorem dX0_known_320 : decode cX0_known 320 = .ok (.aload_n 3, 1) := dk_45 (dk_at dksX0_known_13 13 rfl rfl)
theorem dX0_known_321 : decode cX0_known 321 = .ok (.iload 4, 2) := dk_21 4 (dk_at dksX0_known_13 14 rfl rfl)
theorem dX0_known_323 : decode cX0_known 323 = .ok (.iaload, 1) := dk_46 (dk_at dksX0_known_13 16 rfl rfl)
theorem dX0_known_324 : decode cX0_known 324 = .ok (.if_icmp .eq 5, 3) := dk_159 0 5 (dk_at dksX0_known_13 17 rfl rfl)
theorem dX0_known_327 : decode cX0_known 327 = .ok (.iconst 0, 1) := dk_3 (dk_at dksX0_known_13 20 rfl rfl)
theorem dX0_known_328 : decode cX0_known 328 = .ok (.ireturn, 1) := dk_172 (dk_at dksX0_known_13 21 rfl rfl)
theorem dX0_known_329 : decode cX0_known 329 = .ok (.iinc 4 1, 3) := dk_132 4 1 (dk_at dksX0_known_14 0 rfl rfl)
theorem dX0_known_332 : decode cX0_known 332 = .ok (.goto (-25), 3) := dk_167 255 231 (dk_at dksX0_known_14 3 rfl rfl)
theorem dX0_known_335 : decode cX0_known 335 = .ok (.new 7, 3) := dk_187 0 7 (dk_at dksX0_known_14 6 rfl rfl)
theorem dX0_known_338 : decode cX0_known 338 = .ok (.dup, 1) := dk_89 (dk_at dksX0_known_14 9 rfl rfl)
theorem dX0_known_339 : decode cX0_known 339 = .ok (.invokespecial 9, 3) := dk_183 0 9 (dk_at dksX0_known_14 10 rfl rfl)
theorem dX0_known_342 : decode cX0_known 342 = .ok (.astore 4, 2) := dk_58 4 (dk_at dksX0_known_14 13 rfl rfl)
theorem dX0_known_344 : decode cX0_known 344 = .ok (.aload 4, 2) := dk_25 4 (dk_at dksX0_known_14 15 rfl rfl)
theorem dX0_known_346 : decode cX0_known 346 = .ok (.iconst 0, 1) := dk_3 (dk_at dksX0_known_14 17 rfl rfl)
theorem dX0_known_347 : decode cX0_known 347 = .ok (.ldc 32, 2) := dk_18 32 (dk_at dksX0_known_14 18 rfl rfl)
theorem dX0_known_349 : decode cX0_known 349 = .ok (.ldc 33, 2) := dk_18 33 (dk_at dksX0_known_14 20 rfl rfl)
theorem dX0_known_351 : decode cX0_known 351 = .ok (.ldc 34, 2) := dk_18 34 (dk_at dksX0_known_14 22 rfl rfl)
theorem dX0_known_353 : decode cX0_known 353 = .ok (.ldc 35, 2) := dk_18 35 (dk_at dksX0_known_15 0 rfl rfl)
theorem dX0_known_355 : decode cX0_known 355 = .ok (.invokevirtual 16, 3) := dk_182 0 16 (dk_at dksX0_known_15 2 rfl rfl)
theorem dX0_known_358 : decode cX0_known 358 = .ok (.aload 4, 2) := dk_25 4 (dk_at dksX0_known_15 5 rfl rfl)
theorem dX0_known_360 : decode cX0_known 360 = .ok (.iconst 1, 1) := dk_4 (dk_at dksX0_known_15 7 rfl rfl)
theorem dX0_known_361 : decode cX0_known 361 = .ok (.iconst 0, 1) := dk_3 (dk_at dksX0_known_15 8 rfl rfl)
theorem dX0_known_362 : decode cX0_known 362 = .ok (.iconst 0, 1) := dk_3 (dk_at dksX0_known_15 9 rfl rfl)
theorem dX0_known_363 : decode cX0_known 363 = .ok (.iconst 0, 1) := dk_3 (dk_at dksX0_known_15 10 rfl rfl)
theorem dX0_known_364 : decode cX0_known 364 = .ok (.iconst 0, 1) := dk_3 (dk_at dksX0_known_15 11 rfl rfl)
theorem dX0_known_365 : decode cX0_known 365 = .ok (.invokevirtual 16, 3) := dk_182 0 16 (dk_at dksX0_known_15 12 rfl rfl)
theorem dX0_known_368 : decode cX0_known 368 = .ok (.aload 4, 2) := dk_25 4 (dk_at dksX0_known_15 15 rfl rfl)
theorem dX0_known_370 : decode cX0_known 370 = .ok (.ldc 36, 2) := dk_18 36 (dk_at dksX0_known_15 17 rfl rfl)
theorem dX0_known_372 : decode cX0_known 372 = .ok (.ldc 37, 2) := dk_18 37 (dk_at dksX0_known_15 19 rfl rfl)
theorem dX0_known_374 : decode cX0_known 374 = .ok (.ldc 38, 2) := dk_18 38 (dk_at dksX0_known_15 21 rfl rfl)
theorem dX0_known_376 : decode cX0_known 376 = .ok (.ldc 39, 2) := dk_18 39 (dk_at dksX0_known_16 0 rfl rfl)
theorem dX0_known_378 : decode cX0_known 378 = .ok (.invokevirtual 20, 3) := dk_182 0 20 (dk_at dksX0_known_16 2 rfl rfl)
theorem dX0_known_381 : decode cX0_known 381 = .ok (.aload 4, 2) := dk_25 4 (dk_at dksX0_known_16 5 rfl rfl)
theorem dX0_known_383 : decode cX0_known 383 = .ok (.iconst 0, 1) := dk_3 (dk_at dksX0_known_16 7 rfl rfl)
theorem dX0_known_384 : decode cX0_known 384 = .ok (.invokevirtual 28, 3) := dk_182 0 28 (dk_at dksX0_known_16 8 rfl rfl)
theorem dX0_known_387 : decode cX0_known 387 = .ok (.bipush 16, 2) := dk_16 16 (dk_at dksX0_known_16 11 rfl rfl)
theorem dX0_known_389 : decode cX0_known 389 = .ok (.newarray .int, 2) := dk_188_10 (dk_at dksX0_known_16 13 rfl rfl)
theorem dX0_known_391 : decode cX0_known 391 = .ok (.dup, 1) := dk_89 (dk_at dksX0_known_16 15 rfl rfl)
theorem dX0_known_392 : decode cX0_known 392 = .ok (.iconst 0, 1) := dk_3 (dk_at dksX0_known_16 16 rfl rfl)
theorem dX0_known_393 : decode cX0_known 393 = .ok (.sipush 226, 3) := dk_17 0 226 (dk_at dksX0_known_16 17 rfl rfl)
theorem dX0_known_396 : decode cX0_known 396 = .ok (.iastore, 1) := dk_79 (dk_at dksX0_known_16 20 rfl rfl)
theorem dX0_known_397 : decode cX0_known 397 = .ok (.dup, 1) := dk_89 (dk_at dksX0_known_16 21 rfl rfl)
theorem dX0_known_398 : decode cX0_known 398 = .ok (.iconst 1, 1) := dk_4 (dk_at dksX0_known_16 22 rfl rfl)
theorem dX0_known_399 : decode cX0_known 399 = .ok (.sipush 246, 3) := dk_17 0 246 (dk_at dksX0_known_17 0 rfl rfl)
theorem dX0_known_402 : decode cX0_known 402 = .ok (.iastore, 1) := dk_79 (dk_at dksX0_known_17 3 rfl rfl)
theorem dX0_known_403 : decode cX0_known 403 = .ok (.dup, 1) := dk_89 (dk_at dksX0_known_17 4 rfl rfl)
theorem dX0_known_404 : decode cX0_known 404 = .ok (.iconst 2, 1) := dk_5 (dk_at dksX0_known_17 5 rfl rfl)
theorem dX0_known_405 : decode cX0_known 405 = .ok (.sipush 135, 3) := dk_17 0 135 (dk_at dksX0_known_17 6 rfl rfl)
theorem dX0_known_408 : decode cX0_known 408 = .ok (.iastore, 1) := dk_79 (dk_at dksX0_known_17 9 rfl rfl)
theorem dX0_known_409 : decode cX0_known 409 = .ok (.dup, 1) := dk_89 (dk_at dksX0_known_17 10 rfl rfl)
theorem dX0_known_410 : decode cX0_known 410 = .ok (.iconst 3, 1) := dk_6 (dk_at dksX0_known_17 11 rfl rfl)
theorem dX0_known_411 : decode cX0_known 411 = .ok (.sipush 224, 3) := dk_17 0 224 (dk_at dksX0_known_17 12 rfl rfl)
theorem dX0_known_414 : decode cX0_known 414 = .ok (.iastore, 1) := dk_79 (dk_at dksX0_known_17 15 rfl rfl)
theorem dX0_known_415 : decode cX0_known 415 = .ok (.dup, 1) := dk_89 (dk_at dksX0_known_17 16 rfl rfl)
theorem dX0_known_416 : decode cX0_known 416 = .ok (.iconst 4, 1) := dk_7 (dk_at dksX0_known_17 17 rfl rfl)
theorem dX0_known_417 : decode cX0_known 417 = .ok (.bipush 123, 2) := dk_16 123 (dk_at dksX0_known_17 18 rfl rfl)
theorem dX0_known_419 : decode cX0_known 419 = .ok (.iastore, 1) := dk_79 (dk_at dksX0_known_17 20 rfl rfl)
theorem dX0_known_420 : decode cX0_known 420 = .ok (.dup, 1) := dk_89 (dk_at dksX0_known_17 21 rfl rfl)
theorem dX0_known_421 : decode cX0_known 421 = .ok (.iconst 5, 1) := dk_8 (dk_at dksX0_known_17 22 rfl rfl)
theorem dX0_known_422 : decode cX0_known 422 = .ok (.bipush 117, 2) := dk_16 117 (dk_at dksX0_known_18 0 rfl rfl)
theorem dX0_known_424 : decode cX0_known 424 = .ok (.iastore, 1) := dk_79 (dk_at dksX0_known_18 2 rfl rfl)
theorem dX0_known_425 : decode cX0_known 425 = .ok (.dup, 1) := dk_89 (dk_at dksX0_known_18 3 rfl rfl)
theorem dX0_known_426 : decode cX0_known 426 = .ok (.bipush 6, 2) := dk_16 6 (dk_at dksX0_known_18 4 rfl rfl)
theorem dX0_known_428 : decode cX0_known 428 = .ok (.bipush 102, 2) := dk_16 102 (dk_at dksX0_known_18 6 rfl rfl)
theorem dX0_known_430 : decode cX0_known 430 = .ok (.iastore, 1) := dk_79 (dk_at dksX0_known_18 8 rfl rfl)
theorem dX0_known_431 : decode cX0_known 431 = .ok (.dup, 1) := dk_89 (dk_at dksX0_known_18 9 rfl rfl)
theorem dX0_known_432 : decode cX0_known 432 = .ok (.bipush 7, 2) := dk_16 7 (dk_at dksX0_known_18 10 rfl rfl)
theorem dX0_known_434 : decode cX0_known 434 = .ok (.bipush 15, 2) := dk_16 15 (dk_at dksX0_known_18 12 rfl rfl)
theorem dX0_known_436 : decode cX0_known 436 = .ok (.iastore, 1) := dk_79 (dk_at dksX0_known_18 14 rfl rfl)
theorem dX0_known_437 : decode cX0_known 437 = .ok (.dup, 1) := dk_89 (dk_at dksX0_known_18 15 rfl rfl)
theorem dX0_known_438 : decode cX0_known 438 = .ok (.bipush 8, 2) := dk_16 8 (dk_at dksX0_known_18 16 rfl rfl)
theorem dX0_known_440 : decode cX0_known 440 = .ok (.sipush 252, 3) := dk_17 0 252 (dk_at dksX0_known_18 18 rfl rfl)
theorem dX0_known_443 : decode cX0_known 443 = .ok (.iastore, 1) := dk_79 (dk_at dksX0_known_18 21 rfl rfl)
theorem dX0_known_444 : decode cX0_known 444 = .ok (.dup, 1) := dk_89 (dk_at dksX0_known_18 22 rfl rfl)
theorem dX0_known_445 : decode cX0_known 445 = .ok (.bipush 9, 2) := dk_16 9 (dk_at dksX0_known_19 0 rfl rfl)
theorem dX0_known_447 : decode cX0_known 447 = .ok (.bipush 55, 2) := dk_16 55 (dk_at dksX0_known_19 2 rfl rfl)
theorem dX0_known_449 : decode cX0_known 449 = .ok (.iastore, 1) := dk_79 (dk_at dksX0_known_19 4 rfl rfl)
theorem dX0_known_450 : decode cX0_known 450 = .ok (.dup, 1) := dk_89 (dk_at dksX0_known_19 5 rfl rfl)
theorem dX0_known_451 : decode cX0_known 451 = .ok (.bipush 10, 2) := dk_16 10 (dk_at dksX0_known_19 6 rfl rfl)
theorem dX0_known_453 : decode cX0_known 453 = .ok (.bipush 34, 2) := dk_16 34 (dk_at dksX0_known_19 8 rfl rfl)
theorem dX0_known_455 : decode cX0_known 455 = .ok (.iastore, 1) := dk_79 (dk_at dksX0_known_19 10 rfl rfl)
theorem dX0_known_456 : decode cX0_known 456 = .ok (.dup, 1) := dk_89 (dk_at dksX0_known_19 11 rfl rfl)
theorem dX0_known_457 : decode cX0_known 457 = .ok (.bipush 11, 2) := dk_16 11 (dk_at dksX0_known_19 12 rfl rfl)
theorem dX0_known_459 : decode cX0_known 459 = .ok (.bipush 51, 2) := dk_16 51 (dk_at dksX0_known_19 14 rfl rfl)
theorem dX0_known_461 : decode cX0_known 461 = .ok (.iastore, 1) := dk_79 (dk_at dksX0_known_19 16 rfl rfl)
theorem dX0_known_462 : decode cX0_known 462 = .ok (.dup, 1) := dk_89 (dk_at dksX0_known_19 17 rfl rfl)
theorem dX0_known_463 : decode cX0_known 463 = .ok (.bipush 12, 2) := dk_16 12 (dk_at dksX0_known_19 18 rfl rfl)
theorem dX0_known_465 : decode cX0_known 465 = .ok (.sipush 188, 3) := dk_17 0 188 (dk_at dksX0_known_19 20 rfl rfl)
theorem dX0_known_468 : decode cX0_known 468 = .ok (.iastore, 1) := dk_79 (dk_at dksX0_known_19 23 rfl rfl)
theorem dX0_known_469 : decode cX0_known 469 = .ok (.dup, 1) := dk_89 (dk_at dksX0_known_20 0 rfl rfl)
theorem dX0_known_470 : decode cX0_known 470 = .ok (.bipush 13, 2) := dk_16 13 (dk_at dksX0_known_20 1 rfl rfl)
theorem dX0_known_472 : decode cX0_known 472 = .ok (.bipush 71, 2) := dk_16 71 (dk_at dksX0_known_20 3 rfl rfl)
theorem dX0_known_474 : decode cX0_known 474 = .ok (.iastore, 1) := dk_79 (dk_at dksX0_known_20 5 rfl rfl)
theorem dX0_known_475 : decode cX0_known 475 = .ok (.dup, 1) := dk_89 (dk_at dksX0_known_20 6 rfl rfl)
theorem dX0_known_476 : decode cX0_known 476 = .ok (.bipush 14, 2) := dk_16 14 (dk_at dksX0_known_20 7 rfl rfl)
theorem dX0_known_478 : decode cX0_known 478 = .ok (.bipush 83, 2) := dk_16 83 (dk_at dksX0_known_20 9 rfl rfl)
theorem dX0_known_480 : decode cX0_known 480 = .ok (.iastore, 1) := dk_79 (dk_at dksX0_known_20 11 rfl rfl)
theorem dX0_known_481 : decode cX0_known 481 = .ok (.dup, 1) := dk_89 (dk_at dksX0_known_20 12 rfl rfl)
theorem dX0_known_482 : decode cX0_known 482 = .ok (.bipush 15, 2) := dk_16 15 (dk_at dksX0_known_20 13 rfl rfl)
theorem dX0_known_484 : decode cX0_known 484 = .ok (.bipush 44, 2) := dk_16 44 (dk_at dksX0_known_20 15 rfl rfl)
theorem dX0_known_486 : decode cX0_known 486 = .ok (.iastore, 1) := dk_79 (dk_at dksX0_known_20 17 rfl rfl)
theorem dX0_known_487 : decode cX0_known 487 = .ok (.astore 5, 2) := dk_58 5 (dk_at dksX0_known_20 18 rfl rfl)
theorem dX0_known_489 : decode cX0_known 489 = .ok (.iconst 0, 1) := dk_3 (dk_at dksX0_known_20 20 rfl rfl)
theorem dX0_known_490 : decode cX0_known 490 = .ok (.istore 6, 2) := dk_54 6 (dk_at dksX0_known_20 21 rfl rfl)
theorem dX0_known_492 : decode cX0_known 492 = .ok (.iload 6, 2) := dk_21 6 (dk_at dksX0_known_21 0 rfl rfl)
theorem dX0_known_494 : decode cX0_known 494 = .ok (.bipush 16, 2) := dk_16 16 (dk_at dksX0_known_21 2 rfl rfl)
theorem dX0_known_496 : decode cX0_known 496 = .ok (.if_icmp .ge 26, 3) := dk_162 0 26 (dk_at dksX0_known_21 4 rfl rfl)
theorem dX0_known_499 : decode cX0_known 499 = .ok (.aload 4, 2) := dk_25 4 (dk_at dksX0_known_21 7 rfl rfl)
theorem dX0_known_501 : decode cX0_known 501 = .ok (.iload 6, 2) := dk_21 6 (dk_at dksX0_known_21 9 rfl rfl)
theorem dX0_known_503 : decode cX0_known 503 = .ok (.invokevirtual 24, 3) := dk_182 0 24 (dk_at dksX0_known_21 11 rfl rfl)
theorem dX0_known_506 : decode cX0_known 506 = .ok (.aload 5, 2) := dk_25 5 (dk_at dksX0_known_21 14 rfl rfl)
theorem dX0_known_508 : decode cX0_known 508 = .ok (.iload 6, 2) := dk_21 6 (dk_at dksX0_known_21 16 rfl rfl)
theorem dX0_known_510 : decode cX0_known 510 = .ok (.iaload, 1) := dk_46 (dk_at dksX0_known_21 18 rfl rfl)
theorem dX0_known_511 : decode cX0_known 511 = .ok (.if_icmp .eq 5, 3) := dk_159 0 5 (dk_at dksX0_known_21 19 rfl rfl)
theorem dX0_known_514 : decode cX0_known 514 = .ok (.iconst 0, 1) := dk_3 (dk_at dksX0_known_21 22 rfl rfl)
theorem dX0_known_515 : decode cX0_known 515 = .ok (.ireturn, 1) := dk_172 (dk_at dksX0_known_21 23 rfl rfl)
theorem dX0_known_516 : decode cX0_known 516 = .ok (.iinc 6 1, 3) := dk_132 6 1 (dk_at dksX0_known_22 0 rfl rfl)
theorem dX0_known_519 : decode cX0_known 519 = .ok (.goto (-27), 3) := dk_167 255 229 (dk_at dksX0_known_22 3 rfl rfl)
theorem dX0_known_522 : decode cX0_known 522 = .ok (.iconst 1, 1) := dk_4 (dk_at dksX0_known_22 6 rfl rfl)
theorem dX0_known_523 : decode cX0_known 523 = .ok (.ireturn, 1) := dk_172 (dk_at dksX0_known_22 7 rfl rfl)
theorem q4 : (Jvm.Cond.initialized "NoekeonDeskLaw") ∈ lw_all := lw_g (lw_at lw_m1 0 rfl) rfl
theorem q20 : (Jvm.Cond.methodLink "NoekeonDeskLaw" (28 : Nat) ({ cls := "NoekeonDesk", name := "lock", desc := "(I)V" } : Jvm.MethodName)) ∈ lw_all := lw_g (lw_at lw_m1 16 rfl) rfl
theorem q242 : (Jvm.Cond.methodLink "NoekeonDeskLaw" (48 : Nat) ({ cls := "NoekeonDesk", name := "open", desc := "(I)V" } : Jvm.MethodName)) ∈ lw_all := lw_g (lw_at lw_m1 238 rfl) rfl
theorem q246 : (Jvm.Cond.methodLink "NoekeonDeskLaw" (51 : Nat) ({ cls := "NoekeonDesk", name := "again", desc := "()V" } : Jvm.MethodName)) ∈ lw_all := lw_g (lw_at lw_m2 2 rfl) rfl
theorem q250 : (Jvm.Cond.methodLink "NoekeonDeskLaw" (44 : Nat) ({ cls := "NoekeonDeskLaw", name := "with", desc := "([I)LNoekeonDesk;" } : Jvm.MethodName)) ∈ lw_all := lw_g (lw_at lw_m2 6 rfl) rfl
theorem q251 : (Jvm.Cond.static ({ cls := "NoekeonDeskLaw", name := "with", desc := "([I)LNoekeonDesk;" } : Jvm.MethodName)) ∈ lw_all := lw_g (lw_at lw_m2 7 rfl) rfl
theorem q252 : (Jvm.Cond.code ({ cls := "NoekeonDeskLaw", name := "with", desc := "([I)LNoekeonDesk;" } : Jvm.MethodName) method_3_code (2 : Nat) (Option.some (Jvm.ClassFile.FieldType.object "NoekeonDesk"))) ∈ lw_all := lw_g (lw_at lw_m2 8 rfl) rfl
theorem q253 : (Jvm.Cond.classLink "NoekeonDeskLaw" (7 : Nat) "NoekeonDesk") ∈ lw_all := lw_g (lw_at lw_m2 9 rfl) rfl
theorem q254 : (Jvm.Cond.methodLink "NoekeonDeskLaw" (9 : Nat) ({ cls := "NoekeonDesk", name := "<init>", desc := "()V" } : Jvm.MethodName)) ∈ lw_all := lw_g (lw_at lw_m2 10 rfl) rfl
theorem q268 : (Jvm.Cond.methodLink "NoekeonDeskLaw" (10 : Nat) ({ cls := "NoekeonDeskLaw", name := "cell", desc := "([II)I" } : Jvm.MethodName)) ∈ lw_all := lw_g (lw_at lw_m2 24 rfl) rfl
theorem q269 : (Jvm.Cond.static ({ cls := "NoekeonDeskLaw", name := "cell", desc := "([II)I" } : Jvm.MethodName)) ∈ lw_all := lw_g (lw_at lw_m2 25 rfl) rfl
theorem q270 : (Jvm.Cond.code ({ cls := "NoekeonDeskLaw", name := "cell", desc := "([II)I" } : Jvm.MethodName) method_2_code (2 : Nat) (Option.some Jvm.ClassFile.FieldType.int)) ∈ lw_all := lw_g (lw_at lw_m2 26 rfl) rfl
theorem q271 : (Jvm.Cond.methodLink "NoekeonDeskLaw" (16 : Nat) ({ cls := "NoekeonDesk", name := "key", desc := "(IIIII)V" } : Jvm.MethodName)) ∈ lw_all := lw_g (lw_at lw_m2 27 rfl) rfl
theorem q278 : (Jvm.Cond.methodLink "NoekeonDeskLaw" (20 : Nat) ({ cls := "NoekeonDesk", name := "block", desc := "(IIII)V" } : Jvm.MethodName)) ∈ lw_all := lw_g (lw_at lw_m2 34 rfl) rfl
theorem q282 : (Jvm.Cond.methodLink "NoekeonDeskLaw" (54 : Nat) ({ cls := "NoekeonDeskLaw", name := "same", desc := "(LNoekeonDesk;[I)Z" } : Jvm.MethodName)) ∈ lw_all := lw_g (lw_at lw_m2 38 rfl) rfl
theorem q283 : (Jvm.Cond.static ({ cls := "NoekeonDeskLaw", name := "same", desc := "(LNoekeonDesk;[I)Z" } : Jvm.MethodName)) ∈ lw_all := lw_g (lw_at lw_m2 39 rfl) rfl
theorem q284 : (Jvm.Cond.code ({ cls := "NoekeonDeskLaw", name := "same", desc := "(LNoekeonDesk;[I)Z" } : Jvm.MethodName) method_4_code (3 : Nat) (Option.some Jvm.ClassFile.FieldType.boolean)) ∈ lw_all := lw_g (lw_at lw_m2 40 rfl) rfl
theorem q285 : (Jvm.Cond.methodLink "NoekeonDeskLaw" (24 : Nat) ({ cls := "NoekeonDesk", name := "out", desc := "(I)I" } : Jvm.MethodName)) ∈ lw_all := lw_g (lw_at lw_m2 41 rfl) rfl
theorem q289 : (Jvm.Cond.methodLink "NoekeonDeskLaw" (40 : Nat) ({ cls := "NoekeonDeskLaw", name := "known", desc := "()Z" } : Jvm.MethodName)) ∈ lw_all := lw_g (lw_at lw_m2 45 rfl) rfl
theorem q290 : (Jvm.Cond.static ({ cls := "NoekeonDeskLaw", name := "known", desc := "()Z" } : Jvm.MethodName)) ∈ lw_all := lw_g (lw_at lw_m2 46 rfl) rfl
theorem q291 : (Jvm.Cond.code ({ cls := "NoekeonDeskLaw", name := "known", desc := "()Z" } : Jvm.MethodName) method_5_code (7 : Nat) (Option.some Jvm.ClassFile.FieldType.boolean)) ∈ lw_all := lw_g (lw_at lw_m2 47 rfl) rfl
theorem q292 : (Jvm.Cond.constant "NoekeonDeskLaw" (32 : Nat) (-1318754223 : Int32)) ∈ lw_all := lw_g (lw_at lw_m2 48 rfl) rfl
theorem q293 : (Jvm.Cond.constant "NoekeonDeskLaw" (33 : Nat) (1771973114 : Int32)) ∈ lw_all := lw_g (lw_at lw_m2 49 rfl) rfl
theorem q294 : (Jvm.Cond.constant "NoekeonDeskLaw" (34 : Nat) (615973192 : Int32)) ∈ lw_all := lw_g (lw_at lw_m2 50 rfl) rfl
theorem q295 : (Jvm.Cond.constant "NoekeonDeskLaw" (35 : Nat) (1346186748 : Int32)) ∈ lw_all := lw_g (lw_at lw_m2 51 rfl) rfl
theorem q296 : (Jvm.Cond.constant "NoekeonDeskLaw" (36 : Nat) (712524315 : Int32)) ∈ lw_all := lw_g (lw_at lw_m2 52 rfl) rfl
theorem q297 : (Jvm.Cond.constant "NoekeonDeskLaw" (37 : Nat) (-2016948078 : Int32)) ∈ lw_all := lw_g (lw_at lw_m2 53 rfl) rfl
theorem q298 : (Jvm.Cond.constant "NoekeonDeskLaw" (38 : Nat) (1327894847 : Int32)) ∈ lw_all := lw_g (lw_at lw_m2 54 rfl) rfl
theorem q299 : (Jvm.Cond.constant "NoekeonDeskLaw" (39 : Nat) (487803314 : Int32)) ∈ lw_all := lw_g (lw_at lw_m2 55 rfl) rfl
/-! the law's own entry -/
set_option maxRecDepth 100000
abbrev cL_law : ByteArray := code
def dkwL_law_4 : List UInt8 := [25, 7, 42, 184, 0, 54, 154, 0, 5, 3, 172, 132, 4, 1, 167, 255, 171, 4, 172]
abbrev dktL_law_4 : List UInt8 := dkwL_law_4 ++ []
def dkwL_law_3 : List UInt8 := [182, 0, 48, 25, 7, 182, 0, 51, 25, 7, 21, 5, 182, 0, 28, 25, 6, 42, 184, 0, 54, 153, 0, 12]
abbrev dktL_law_3 : List UInt8 := dkwL_law_3 ++ dktL_law_4
def dkwL_law_2 : List UInt8 := [25, 6, 21, 5, 182, 0, 28, 25, 7, 21, 5, 182, 0, 48, 25, 6, 182, 0, 51, 25, 6, 21, 5]
abbrev dktL_law_2 : List UInt8 := dkwL_law_2 ++ dktL_law_3
def dkwL_law_1 : List UInt8 := [21, 4, 29, 162, 0, 85, 44, 21, 4, 46, 54, 5, 42, 184, 0, 44, 58, 6, 42, 184, 0, 44, 58, 7]
abbrev dktL_law_1 : List UInt8 := dkwL_law_1 ++ dktL_law_2
def dkwL_law_0 : List UInt8 := [184, 0, 40, 154, 0, 5, 3, 172, 4, 188, 10, 89, 3, 3, 79, 76, 43, 77, 44, 190, 62, 3, 54, 4]
abbrev dktL_law_0 : List UInt8 := dkwL_law_0 ++ dktL_law_1
theorem dksL_law_0 : cL_law.data.toList.drop 0 = dktL_law_0 := by decide +kernel
theorem dksL_law_1 : cL_law.data.toList.drop 24 = dktL_law_1 := dk_seg dksL_law_0 24 rfl rfl
theorem dksL_law_2 : cL_law.data.toList.drop 48 = dktL_law_2 := dk_seg dksL_law_1 24 rfl rfl
theorem dksL_law_3 : cL_law.data.toList.drop 71 = dktL_law_3 := dk_seg dksL_law_2 23 rfl rfl
theorem dksL_law_4 : cL_law.data.toList.drop 95 = dktL_law_4 := dk_seg dksL_law_3 24 rfl rfl
theorem dL_law_0 : decode cL_law 0 = .ok (.invokestatic 40, 3) := dk_184 0 40 (dk_at dksL_law_0 0 rfl rfl)
theorem dL_law_3 : decode cL_law 3 = .ok (.ifCond .ne 5, 3) := dk_154 0 5 (dk_at dksL_law_0 3 rfl rfl)
theorem dL_law_6 : decode cL_law 6 = .ok (.iconst 0, 1) := dk_3 (dk_at dksL_law_0 6 rfl rfl)
theorem dL_law_7 : decode cL_law 7 = .ok (.ireturn, 1) := dk_172 (dk_at dksL_law_0 7 rfl rfl)
theorem dL_law_8 : decode cL_law 8 = .ok (.iconst 1, 1) := dk_4 (dk_at dksL_law_0 8 rfl rfl)
theorem dL_law_9 : decode cL_law 9 = .ok (.newarray .int, 2) := dk_188_10 (dk_at dksL_law_0 9 rfl rfl)
theorem dL_law_11 : decode cL_law 11 = .ok (.dup, 1) := dk_89 (dk_at dksL_law_0 11 rfl rfl)
theorem dL_law_12 : decode cL_law 12 = .ok (.iconst 0, 1) := dk_3 (dk_at dksL_law_0 12 rfl rfl)
theorem dL_law_13 : decode cL_law 13 = .ok (.iconst 0, 1) := dk_3 (dk_at dksL_law_0 13 rfl rfl)
theorem dL_law_14 : decode cL_law 14 = .ok (.iastore, 1) := dk_79 (dk_at dksL_law_0 14 rfl rfl)
theorem dL_law_15 : decode cL_law 15 = .ok (.astore_n 1, 1) := dk_76 (dk_at dksL_law_0 15 rfl rfl)
theorem dL_law_16 : decode cL_law 16 = .ok (.aload_n 1, 1) := dk_43 (dk_at dksL_law_0 16 rfl rfl)
theorem dL_law_17 : decode cL_law 17 = .ok (.astore_n 2, 1) := dk_77 (dk_at dksL_law_0 17 rfl rfl)
theorem dL_law_18 : decode cL_law 18 = .ok (.aload_n 2, 1) := dk_44 (dk_at dksL_law_0 18 rfl rfl)
theorem dL_law_19 : decode cL_law 19 = .ok (.arraylength, 1) := dk_190 (dk_at dksL_law_0 19 rfl rfl)
theorem dL_law_20 : decode cL_law 20 = .ok (.istore_n 3, 1) := dk_62 (dk_at dksL_law_0 20 rfl rfl)
theorem dL_law_21 : decode cL_law 21 = .ok (.iconst 0, 1) := dk_3 (dk_at dksL_law_0 21 rfl rfl)
theorem dL_law_22 : decode cL_law 22 = .ok (.istore 4, 2) := dk_54 4 (dk_at dksL_law_0 22 rfl rfl)
theorem dL_law_24 : decode cL_law 24 = .ok (.iload 4, 2) := dk_21 4 (dk_at dksL_law_1 0 rfl rfl)
theorem dL_law_26 : decode cL_law 26 = .ok (.iload_n 3, 1) := dk_29 (dk_at dksL_law_1 2 rfl rfl)
theorem dL_law_27 : decode cL_law 27 = .ok (.if_icmp .ge 85, 3) := dk_162 0 85 (dk_at dksL_law_1 3 rfl rfl)
theorem dL_law_30 : decode cL_law 30 = .ok (.aload_n 2, 1) := dk_44 (dk_at dksL_law_1 6 rfl rfl)
theorem dL_law_31 : decode cL_law 31 = .ok (.iload 4, 2) := dk_21 4 (dk_at dksL_law_1 7 rfl rfl)
theorem dL_law_33 : decode cL_law 33 = .ok (.iaload, 1) := dk_46 (dk_at dksL_law_1 9 rfl rfl)
theorem dL_law_34 : decode cL_law 34 = .ok (.istore 5, 2) := dk_54 5 (dk_at dksL_law_1 10 rfl rfl)
theorem dL_law_36 : decode cL_law 36 = .ok (.aload_n 0, 1) := dk_42 (dk_at dksL_law_1 12 rfl rfl)
theorem dL_law_37 : decode cL_law 37 = .ok (.invokestatic 44, 3) := dk_184 0 44 (dk_at dksL_law_1 13 rfl rfl)
theorem dL_law_40 : decode cL_law 40 = .ok (.astore 6, 2) := dk_58 6 (dk_at dksL_law_1 16 rfl rfl)
theorem dL_law_42 : decode cL_law 42 = .ok (.aload_n 0, 1) := dk_42 (dk_at dksL_law_1 18 rfl rfl)
theorem dL_law_43 : decode cL_law 43 = .ok (.invokestatic 44, 3) := dk_184 0 44 (dk_at dksL_law_1 19 rfl rfl)
theorem dL_law_46 : decode cL_law 46 = .ok (.astore 7, 2) := dk_58 7 (dk_at dksL_law_1 22 rfl rfl)
theorem dL_law_48 : decode cL_law 48 = .ok (.aload 6, 2) := dk_25 6 (dk_at dksL_law_2 0 rfl rfl)
theorem dL_law_50 : decode cL_law 50 = .ok (.iload 5, 2) := dk_21 5 (dk_at dksL_law_2 2 rfl rfl)
theorem dL_law_52 : decode cL_law 52 = .ok (.invokevirtual 28, 3) := dk_182 0 28 (dk_at dksL_law_2 4 rfl rfl)
theorem dL_law_55 : decode cL_law 55 = .ok (.aload 7, 2) := dk_25 7 (dk_at dksL_law_2 7 rfl rfl)
theorem dL_law_57 : decode cL_law 57 = .ok (.iload 5, 2) := dk_21 5 (dk_at dksL_law_2 9 rfl rfl)
theorem dL_law_59 : decode cL_law 59 = .ok (.invokevirtual 48, 3) := dk_182 0 48 (dk_at dksL_law_2 11 rfl rfl)
theorem dL_law_62 : decode cL_law 62 = .ok (.aload 6, 2) := dk_25 6 (dk_at dksL_law_2 14 rfl rfl)
theorem dL_law_64 : decode cL_law 64 = .ok (.invokevirtual 51, 3) := dk_182 0 51 (dk_at dksL_law_2 16 rfl rfl)
theorem dL_law_67 : decode cL_law 67 = .ok (.aload 6, 2) := dk_25 6 (dk_at dksL_law_2 19 rfl rfl)
theorem dL_law_69 : decode cL_law 69 = .ok (.iload 5, 2) := dk_21 5 (dk_at dksL_law_2 21 rfl rfl)
theorem dL_law_71 : decode cL_law 71 = .ok (.invokevirtual 48, 3) := dk_182 0 48 (dk_at dksL_law_3 0 rfl rfl)
theorem dL_law_74 : decode cL_law 74 = .ok (.aload 7, 2) := dk_25 7 (dk_at dksL_law_3 3 rfl rfl)
theorem dL_law_76 : decode cL_law 76 = .ok (.invokevirtual 51, 3) := dk_182 0 51 (dk_at dksL_law_3 5 rfl rfl)
theorem dL_law_79 : decode cL_law 79 = .ok (.aload 7, 2) := dk_25 7 (dk_at dksL_law_3 8 rfl rfl)
theorem dL_law_81 : decode cL_law 81 = .ok (.iload 5, 2) := dk_21 5 (dk_at dksL_law_3 10 rfl rfl)
theorem dL_law_83 : decode cL_law 83 = .ok (.invokevirtual 28, 3) := dk_182 0 28 (dk_at dksL_law_3 12 rfl rfl)
theorem dL_law_86 : decode cL_law 86 = .ok (.aload 6, 2) := dk_25 6 (dk_at dksL_law_3 15 rfl rfl)
theorem dL_law_88 : decode cL_law 88 = .ok (.aload_n 0, 1) := dk_42 (dk_at dksL_law_3 17 rfl rfl)
theorem dL_law_89 : decode cL_law 89 = .ok (.invokestatic 54, 3) := dk_184 0 54 (dk_at dksL_law_3 18 rfl rfl)
theorem dL_law_92 : decode cL_law 92 = .ok (.ifCond .eq 12, 3) := dk_153 0 12 (dk_at dksL_law_3 21 rfl rfl)
theorem dL_law_95 : decode cL_law 95 = .ok (.aload 7, 2) := dk_25 7 (dk_at dksL_law_4 0 rfl rfl)
theorem dL_law_97 : decode cL_law 97 = .ok (.aload_n 0, 1) := dk_42 (dk_at dksL_law_4 2 rfl rfl)
theorem dL_law_98 : decode cL_law 98 = .ok (.invokestatic 54, 3) := dk_184 0 54 (dk_at dksL_law_4 3 rfl rfl)
theorem dL_law_101 : decode cL_law 101 = .ok (.ifCond .ne 5, 3) := dk_154 0 5 (dk_at dksL_law_4 6 rfl rfl)
theorem dL_law_104 : decode cL_law 104 = .ok (.iconst 0, 1) := dk_3 (dk_at dksL_law_4 9 rfl rfl)
theorem dL_law_105 : decode cL_law 105 = .ok (.ireturn, 1) := dk_172 (dk_at dksL_law_4 10 rfl rfl)
theorem dL_law_106 : decode cL_law 106 = .ok (.iinc 4 1, 3) := dk_132 4 1 (dk_at dksL_law_4 11 rfl rfl)
theorem dL_law_109 : decode cL_law 109 = .ok (.goto (-85), 3) := dk_167 255 171 (dk_at dksL_law_4 14 rfl rfl)
theorem dL_law_112 : decode cL_law 112 = .ok (.iconst 1, 1) := dk_4 (dk_at dksL_law_4 17 rfl rfl)
theorem dL_law_113 : decode cL_law 113 = .ok (.ireturn, 1) := dk_172 (dk_at dksL_law_4 18 rfl rfl)
end
section
/-! BITS of Int32 (a family of the kit's laws, pasted) -/
def bt (x : Int32) (i : Nat) : Bool := x.toBitVec.getLsbD i
theorem b_ext {x y : Int32} (h : ∀ i, i < 32 → bt x i = bt y i) : x = y := Int32.toBitVec_inj.mp (BitVec.eq_of_getLsbD_eq (fun i hi => h i hi))
theorem b_or (x y : Int32) (i : Nat) : bt (x ||| y) i = (bt x i || bt y i) := by unfold bt; rw [Int32.toBitVec_or, BitVec.getLsbD_or]
theorem b_and (x y : Int32) (i : Nat) : bt (x &&& y) i = (bt x i && bt y i) := by unfold bt; rw [Int32.toBitVec_and, BitVec.getLsbD_and]
theorem b_xor (x y : Int32) (i : Nat) : bt (x ^^^ y) i = (bt x i ^^ bt y i) := by unfold bt; rw [Int32.toBitVec_xor, BitVec.getLsbD_xor]
theorem b_big {x : Int32} {i : Nat} (h : 32 ≤ i) : bt x i = false := BitVec.getLsbD_of_ge _ _ h
theorem b_255 (i : Nat) : bt 255 i = decide (i < 8) := by
  rcases Nat.lt_or_ge i 32 with h | h
  · exact (by decide +kernel : ∀ i, i < 32 → bt 255 i = decide (i < 8)) i h
  · rw [b_big h, decide_eq_false (by omega)]
theorem b_65535 (i : Nat) : bt 65535 i = decide (i < 16) := by
  rcases Nat.lt_or_ge i 32 with h | h
  · exact (by decide +kernel : ∀ i, i < 32 → bt 65535 i = decide (i < 16)) i h
  · rw [b_big h, decide_eq_false (by omega)]
theorem b_m1 : ∀ i, i < 32 → bt (-1) i = true := by decide +kernel
theorem b_0 (i : Nat) : bt 0 i = false := BitVec.getLsbD_zero
theorem s_l : ∀ n, n < 32 → ((nI n &&& 31).toBitVec.smod 32).toNat = n := by decide +kernel
theorem s_u : ∀ n, n < 32 → (((nI n).toUInt32 &&& Int32.toUInt32 31).toBitVec % 32).toNat = n := by decide +kernel
theorem b_shl (n : Nat) (hn : n < 32) (x : Int32) {i : Nat} (hi : i < 32) : bt (x <<< (nI n &&& 31)) i = (decide (n ≤ i) && bt x (i - n)) := by
  unfold bt
  rw [Int32.toBitVec_shiftLeft]
  show (x.toBitVec <<< ((nI n &&& 31).toBitVec.smod 32).toNat).getLsbD i = _
  rw [s_l n hn, BitVec.getLsbD_shiftLeft]
  rcases Nat.lt_or_ge i n with h | h
  · simp [h, Nat.not_le.mpr h]
  · simp [hi, h, Nat.not_lt.mpr h]
theorem b_ushr (n : Nat) (hn : n < 32) (x : Int32) (i : Nat) : bt ((x.toUInt32 >>> ((nI n).toUInt32 &&& Int32.toUInt32 31)).toInt32) i = bt x (n + i) := by
  show (x.toUInt32 >>> ((nI n).toUInt32 &&& Int32.toUInt32 31)).toBitVec.getLsbD i = x.toUInt32.toBitVec.getLsbD (n + i)
  rw [UInt32.toBitVec_shiftRight]
  show (x.toUInt32.toBitVec >>> (((nI n).toUInt32 &&& Int32.toUInt32 31).toBitVec % 32).toNat).getLsbD i = _
  rw [s_u n hn, BitVec.getLsbD_ushiftRight]
theorem b_sshr (n : Nat) (hn : n < 32) (x : Int32) {i : Nat} (hi : i < 32) : bt (x >>> (nI n &&& 31)) i = if n + i < 32 then bt x (n + i) else bt x 31 := by
  unfold bt
  rw [Int32.toBitVec_shiftRight]
  show (x.toBitVec.sshiftRight ((nI n &&& 31).toBitVec.smod 32).toNat).getLsbD i = _
  rw [s_l n hn, BitVec.getLsbD_sshiftRight, BitVec.msb_eq_getLsbD_last]
  simp [hi]
theorem b_shl8 (x : Int32) {i : Nat} (hi : i < 32) : bt (x <<< ((8 : Int32) &&& 31)) i = (decide (8 ≤ i) && bt x (i - 8)) := b_shl 8 (by omega) x hi
theorem b_shl16 (x : Int32) {i : Nat} (hi : i < 32) : bt (x <<< ((16 : Int32) &&& 31)) i = (decide (16 ≤ i) && bt x (i - 16)) := b_shl 16 (by omega) x hi
theorem b_shl24 (x : Int32) {i : Nat} (hi : i < 32) : bt (x <<< ((24 : Int32) &&& 31)) i = (decide (24 ≤ i) && bt x (i - 24)) := b_shl 24 (by omega) x hi
theorem b_sshr8 (x : Int32) {i : Nat} (hi : i < 32) : bt (x >>> ((8 : Int32) &&& 31)) i = if 8 + i < 32 then bt x (8 + i) else bt x 31 := b_sshr 8 (by omega) x hi
/-! ===== words of the walk ===== -/
def nk_rotl (x d : Int32) : Int32 := (x <<< (d &&& 31)) ||| (x.toUInt32 >>> ((-d).toUInt32 &&& Int32.toUInt32 31)).toInt32
def nk_ushr (x y : Int32) : Int32 := (x.toUInt32 >>> (y.toUInt32 &&& Int32.toUInt32 31)).toInt32
def nk_tb (x : Int32) : Int32 := x.toInt8.toInt32
def nk_wd (f : Nat → Int32) (o : Nat) : Int32 := (((f o <<< ((24 : Int32) &&& 31)) ||| ((f (o + 1) &&& 255) <<< ((16 : Int32) &&& 31))) ||| ((f (o + 2) &&& 255) <<< ((8 : Int32) &&& 31))) ||| (f (o + 3) &&& 255)
abbrev S4 : Type := Int32 × Int32 × Int32 × Int32
def nk_wds (f : Nat → Int32) : S4 := (nk_wd f 0, nk_wd f 4, nk_wd f 8, nk_wd f 12)
def nk_rcb (j : Nat) : Int32 := ([-128, 27, 54, 108, -40, -85, 77, -102, 47, 94, -68, 99, -58, -105, 53, 106, -44] : List Int32).getD j 0
def nk_phi (x : Int32) : Int32 := x ^^^ (nk_rotl x 8 ^^^ nk_rotl x 24)
def nk_theta (k a : S4) : S4 :=
  ((a.1 ^^^ k.1) ^^^ nk_phi ((a.2.1 ^^^ k.2.1) ^^^ (a.2.2.2 ^^^ k.2.2.2)),
   (a.2.1 ^^^ k.2.1) ^^^ nk_phi (a.1 ^^^ a.2.2.1),
   (a.2.2.1 ^^^ k.2.2.1) ^^^ nk_phi ((a.2.1 ^^^ k.2.1) ^^^ (a.2.2.2 ^^^ k.2.2.2)),
   (a.2.2.2 ^^^ k.2.2.2) ^^^ nk_phi (a.1 ^^^ a.2.2.1))
def nk_xrc (r : Nat) (a : S4) : S4 := (a.1 ^^^ (nk_rcb r &&& 255), a.2)
def nk_pi1 (a : S4) : S4 := (a.1, nk_rotl a.2.1 1, nk_rotl a.2.2.1 5, nk_rotl a.2.2.2 2)
def nk_pi2 (a : S4) : S4 := (a.1, nk_rotl a.2.1 31, nk_rotl a.2.2.1 27, nk_rotl a.2.2.2 30)
def nk_g1 (b : S4) : Int32 := b.2.1 ^^^ (b.2.2.2 ||| b.2.2.1)
def nk_g3 (b : S4) : Int32 := b.1 ^^^ (b.2.2.1 &&& (nk_g1 b ^^^ (-1)))
def nk_g2 (b : S4) : Int32 := ((b.2.2.2 ^^^ (nk_g1 b ^^^ (-1))) ^^^ b.2.2.1) ^^^ nk_g3 b
def nk_h1 (b : S4) : Int32 := nk_g1 b ^^^ (nk_g3 b ||| nk_g2 b)
def nk_h0 (b : S4) : Int32 := b.2.2.2 ^^^ (nk_g2 b &&& nk_h1 b)
def nk_gam (b : S4) : S4 := (nk_h0 b, nk_h1 b, nk_g2 b, nk_g3 b)
def nk_mid (a : S4) : S4 := nk_pi2 (nk_gam (nk_pi1 a))
def nk_keyD (k : S4) : S4 := (k.1 ^^^ nk_phi (k.2.1 ^^^ k.2.2.2), k.2.1 ^^^ nk_phi (k.1 ^^^ k.2.2.1), k.2.2.1 ^^^ nk_phi (k.2.1 ^^^ k.2.2.2), k.2.2.2 ^^^ nk_phi (k.1 ^^^ k.2.2.1))
/-- the state at the head of the loop, behind n rounds of locking -/
def nk_eF (k : S4) : Nat → S4 → S4
  | 0, a => a
  | n + 1, a => nk_mid (nk_theta k (nk_xrc n (nk_eF k n a)))
def nk_enc (k a : S4) : S4 := nk_theta k (nk_xrc 16 (nk_eF k 16 a))
/-- the state at the head of the loop, behind n rounds of opening -/
def nk_dF (k : S4) : Nat → S4 → S4
  | 0, a => a
  | n + 1, a => nk_mid (nk_xrc (16 - n) (nk_theta k (nk_dF k n a)))
def nk_dec (k a : S4) : S4 := nk_xrc 0 (nk_theta k (nk_dF k 16 a))
theorem eF_s (k : S4) (n : Nat) (a : S4) : nk_eF k (n + 1) a = nk_mid (nk_theta k (nk_xrc n (nk_eF k n a))) := rfl
theorem dF_s (k : S4) (n : Nat) (a : S4) : nk_dF k (n + 1) a = nk_mid (nk_xrc (16 - n) (nk_theta k (nk_dF k n a))) := rfl
/-! ===== rotations by bits ===== -/
theorem b_neg : ∀ n, n < 32 → 0 < n → ((-(nI n)).toUInt32 &&& Int32.toUInt32 31) = ((nI (32 - n)).toUInt32 &&& Int32.toUInt32 31) := by decide +kernel
theorem b_rot (n : Nat) (h0 : 0 < n) (hn : n < 32) (x : Int32) {i : Nat} (hi : i < 32) : bt (nk_rotl x (nI n)) i = bt x ((i + (32 - n)) % 32) := by
  unfold nk_rotl
  rw [b_or, b_shl n hn x hi, b_neg n hn h0, b_ushr (32 - n) (by omega) x i]
  rcases Nat.lt_or_ge i n with h | h
  · rw [decide_eq_false (by omega), Bool.false_and, Bool.false_or]
    congr 1
    omega
  · rw [decide_eq_true h, Bool.true_and, b_big (i := 32 - n + i) (by omega), Bool.or_false]
    congr 1
    omega
theorem rot_xor (n : Nat) (h0 : 0 < n) (hn : n < 32) (x y : Int32) : nk_rotl (x ^^^ y) (nI n) = nk_rotl x (nI n) ^^^ nk_rotl y (nI n) := by
  apply b_ext
  intro i hi
  rw [b_xor, b_rot n h0 hn _ hi, b_rot n h0 hn _ hi, b_rot n h0 hn _ hi, b_xor]
theorem rot_rot (m n : Nat) (h0 : 0 < m) (hn0 : 0 < n) (hmn : m + n = 32) (x : Int32) : nk_rotl (nk_rotl x (nI m)) (nI n) = x := by
  apply b_ext
  intro i hi
  rw [b_rot n hn0 (by omega) _ hi, b_rot m h0 (by omega) _ (Nat.mod_lt _ (by omega))]
  congr 1
  omega
theorem r8_x (x y : Int32) : nk_rotl (x ^^^ y) 8 = nk_rotl x 8 ^^^ nk_rotl y 8 := rot_xor 8 (by omega) (by omega) x y
theorem r24_x (x y : Int32) : nk_rotl (x ^^^ y) 24 = nk_rotl x 24 ^^^ nk_rotl y 24 := rot_xor 24 (by omega) (by omega) x y
theorem r1_31 (x : Int32) : nk_rotl (nk_rotl x 1) 31 = x := rot_rot 1 31 (by omega) (by omega) (by omega) x
theorem r31_1 (x : Int32) : nk_rotl (nk_rotl x 31) 1 = x := rot_rot 31 1 (by omega) (by omega) (by omega) x
theorem r5_27 (x : Int32) : nk_rotl (nk_rotl x 5) 27 = x := rot_rot 5 27 (by omega) (by omega) (by omega) x
theorem r27_5 (x : Int32) : nk_rotl (nk_rotl x 27) 5 = x := rot_rot 27 5 (by omega) (by omega) (by omega) x
theorem r2_30 (x : Int32) : nk_rotl (nk_rotl x 2) 30 = x := rot_rot 2 30 (by omega) (by omega) (by omega) x
theorem r30_2 (x : Int32) : nk_rotl (nk_rotl x 30) 2 = x := rot_rot 30 2 (by omega) (by omega) (by omega) x
theorem x_4 (a b c d e f : Int32) : (a ^^^ b) ^^^ ((c ^^^ d) ^^^ (e ^^^ f)) = (a ^^^ (c ^^^ e)) ^^^ (b ^^^ (d ^^^ f)) := by
  apply b_ext
  intro i _
  simp only [b_xor]
  cases bt a i <;> cases bt b i <;> cases bt c i <;> cases bt d i <;> cases bt e i <;> cases bt f i <;> rfl
theorem phi_x (x y : Int32) : nk_phi (x ^^^ y) = nk_phi x ^^^ nk_phi y := by
  unfold nk_phi
  rw [r8_x, r24_x, x_4]
theorem y_1 (a k t u b l : Int32) : ((a ^^^ k ^^^ t) ^^^ (k ^^^ u)) ^^^ ((b ^^^ l ^^^ t) ^^^ (l ^^^ u)) = a ^^^ b := by
  apply b_ext
  intro i _
  simp only [b_xor]
  cases bt a i <;> cases bt k i <;> cases bt t i <;> cases bt u i <;> cases bt b i <;> cases bt l i <;> rfl
theorem y_2 (a k b l : Int32) : (a ^^^ k) ^^^ (b ^^^ l) = (a ^^^ b) ^^^ (k ^^^ l) := by
  apply b_ext
  intro i _
  simp only [b_xor]
  cases bt a i <;> cases bt k i <;> cases bt b i <;> cases bt l i <;> rfl
theorem y_3 (a k p q : Int32) : (a ^^^ k ^^^ (p ^^^ q)) ^^^ (k ^^^ q) ^^^ p = a := by
  apply b_ext
  intro i _
  simp only [b_xor]
  cases bt a i <;> cases bt k i <;> cases bt p i <;> cases bt q i <;> rfl
theorem y_4 (a k t b l : Int32) : (a ^^^ k ^^^ t) ^^^ (b ^^^ l ^^^ t) = (a ^^^ b) ^^^ (k ^^^ l) := by
  apply b_ext
  intro i _
  simp only [b_xor]
  cases bt a i <;> cases bt k i <;> cases bt t i <;> cases bt b i <;> cases bt l i <;> rfl
theorem y_5 (a k p q : Int32) : (a ^^^ k ^^^ p) ^^^ (k ^^^ q) ^^^ (p ^^^ q) = a := by
  apply b_ext
  intro i _
  simp only [b_xor]
  cases bt a i <;> cases bt k i <;> cases bt p i <;> cases bt q i <;> rfl
theorem y_6 (a k u b l : Int32) : ((a ^^^ (k ^^^ u)) ^^^ (b ^^^ (l ^^^ u))) = (a ^^^ b) ^^^ (k ^^^ l) := by
  apply b_ext
  intro i _
  simp only [b_xor]
  cases bt a i <;> cases bt k i <;> cases bt u i <;> cases bt b i <;> cases bt l i <;> rfl
theorem y_7 (a k t u b l : Int32) : ((a ^^^ (k ^^^ u)) ^^^ t ^^^ k) ^^^ ((b ^^^ (l ^^^ u)) ^^^ t ^^^ l) = a ^^^ b := by
  apply b_ext
  intro i _
  simp only [b_xor]
  cases bt a i <;> cases bt k i <;> cases bt t i <;> cases bt u i <;> cases bt b i <;> cases bt l i <;> rfl
theorem y_8 (a k p q : Int32) : ((a ^^^ (k ^^^ q)) ^^^ (p ^^^ q)) ^^^ k ^^^ p = a := by
  apply b_ext
  intro i _
  simp only [b_xor]
  cases bt a i <;> cases bt k i <;> cases bt p i <;> cases bt q i <;> rfl
theorem y_9 (a k p q : Int32) : ((a ^^^ (k ^^^ q)) ^^^ p) ^^^ k ^^^ (p ^^^ q) = a := by
  apply b_ext
  intro i _
  simp only [b_xor]
  cases bt a i <;> cases bt k i <;> cases bt p i <;> cases bt q i <;> rfl
theorem y_10 (a k v t b l : Int32) : ((a ^^^ (k ^^^ v)) ^^^ t) ^^^ ((b ^^^ (l ^^^ v)) ^^^ t) = (a ^^^ b) ^^^ (k ^^^ l) := by
  apply b_ext
  intro i _
  simp only [b_xor]
  cases bt a i <;> cases bt k i <;> cases bt v i <;> cases bt t i <;> cases bt b i <;> cases bt l i <;> rfl
theorem s4_ext {a0 a1 a2 a3 b0 b1 b2 b3 : Int32} (e0 : a0 = b0) (e1 : a1 = b1) (e2 : a2 = b2) (e3 : a3 = b3) : ((a0, a1, a2, a3) : S4) = (b0, b1, b2, b3) := by
  rw [e0, e1, e2, e3]
theorem th_1 (k a : S4) : nk_theta (nk_keyD k) (nk_theta k a) = a := by
  obtain ⟨k0, k1, k2, k3⟩ := k
  obtain ⟨a0, a1, a2, a3⟩ := a
  simp only [nk_theta, nk_keyD]
  refine s4_ext ?_ ?_ ?_ ?_
  · rw [y_1, y_2 a1 k1 a3 k3, phi_x (a1 ^^^ a3), y_3]
  · rw [y_4, phi_x (a0 ^^^ a2), y_5]
  · rw [y_1, y_2 a1 k1 a3 k3, phi_x (a1 ^^^ a3), y_3]
  · rw [y_4, phi_x (a0 ^^^ a2), y_5]
theorem th_2 (k a : S4) : nk_theta k (nk_theta (nk_keyD k) a) = a := by
  obtain ⟨k0, k1, k2, k3⟩ := k
  obtain ⟨a0, a1, a2, a3⟩ := a
  simp only [nk_theta, nk_keyD]
  refine s4_ext ?_ ?_ ?_ ?_
  · rw [y_7, y_6, phi_x (a1 ^^^ a3), y_8]
  · rw [y_10, phi_x (a0 ^^^ a2), y_9]
  · rw [y_7, y_6, phi_x (a1 ^^^ a3), y_8]
  · rw [y_10, phi_x (a0 ^^^ a2), y_9]
theorem xx (a b : Int32) : a ^^^ b ^^^ b = a := by
  apply b_ext
  intro i _
  simp only [b_xor]
  cases bt a i <;> cases bt b i <;> rfl
theorem xrc_2 (r : Nat) (a : S4) : nk_xrc r (nk_xrc r a) = a := by
  obtain ⟨a0, a1, a2, a3⟩ := a
  show ((a0 ^^^ (nk_rcb r &&& 255) ^^^ (nk_rcb r &&& 255), a1, a2, a3) : S4) = _
  rw [xx]
theorem gam_2 (b : S4) : nk_gam (nk_gam b) = b := by
  obtain ⟨b0, b1, b2, b3⟩ := b
  refine s4_ext ?_ ?_ ?_ ?_ <;>
  · apply b_ext
    intro i hi
    simp only [nk_gam, nk_h0, nk_h1, nk_g1, nk_g2, nk_g3, b_xor, b_or, b_and, b_m1 i hi]
    cases bt b0 i <;> cases bt b1 i <;> cases bt b2 i <;> cases bt b3 i <;> rfl
theorem pi_12 (a : S4) : nk_pi1 (nk_pi2 a) = a := by
  obtain ⟨a0, a1, a2, a3⟩ := a
  simp only [nk_pi1, nk_pi2, r31_1, r27_5, r30_2]
theorem pi_21 (a : S4) : nk_pi2 (nk_pi1 a) = a := by
  obtain ⟨a0, a1, a2, a3⟩ := a
  simp only [nk_pi1, nk_pi2, r1_31, r5_27, r2_30]
theorem mid_2 (a : S4) : nk_mid (nk_mid a) = a := by
  unfold nk_mid
  rw [pi_12, gam_2, pi_21]
/-! ===== opening undoes locking, and locking opening ===== -/
theorem d_e (k a : S4) : ∀ j, j ≤ 16 → nk_dF (nk_keyD k) j (nk_enc k a) = nk_theta k (nk_xrc (16 - j) (nk_eF k (16 - j) a)) := by
  intro j
  induction j with
  | zero => intro _; rfl
  | succ j ih =>
    intro h
    rw [dF_s, ih (by omega), th_1, xrc_2, show 16 - j = (16 - (j + 1)) + 1 by omega, eF_s, mid_2]
theorem dec_enc (k a : S4) : nk_dec (nk_keyD k) (nk_enc k a) = a := by
  unfold nk_dec
  rw [d_e k a 16 (Nat.le_refl _), th_1, xrc_2]
  rfl
theorem e_d (k b : S4) : ∀ j, j ≤ 16 → nk_eF k j (nk_dec (nk_keyD k) b) = nk_xrc j (nk_theta (nk_keyD k) (nk_dF (nk_keyD k) (16 - j) b)) := by
  intro j
  induction j with
  | zero => intro _; rfl
  | succ j ih =>
    intro h
    rw [eF_s, ih (by omega), xrc_2, th_2, show 16 - j = (16 - (j + 1)) + 1 by omega, dF_s, mid_2, show 16 - (16 - (j + 1)) = j + 1 by omega]
theorem enc_dec (k b : S4) : nk_enc k (nk_dec (nk_keyD k) b) = b := by
  unfold nk_enc
  rw [e_d k b 16 (Nat.le_refl _), xrc_2, th_2]
  rfl
/-! ===== words and bytes ===== -/
theorem b_tb (x : Int32) {i : Nat} (hi : i < 8) : bt (nk_tb x) i = bt x i := by
  show (BitVec.signExtend 32 (BitVec.signExtend 8 x.toBitVec)).getLsbD i = _
  rw [BitVec.getLsbD_signExtend, BitVec.getLsbD_signExtend]
  simp [show i < 32 by omega, hi]
  rfl
theorem b_and255 (x : Int32) (i : Nat) : bt (x &&& 255) i = (bt x i && decide (i < 8)) := by rw [b_and, b_255]
theorem b_wd (f : Nat → Int32) (o : Nat) {i : Nat} (hi : i < 32) : bt (nk_wd f o) i = if 24 ≤ i then bt (f o) (i - 24) else if 16 ≤ i then bt (f (o + 1)) (i - 16) else if 8 ≤ i then bt (f (o + 2)) (i - 8) else bt (f (o + 3)) i := by
  unfold nk_wd
  rw [b_or, b_or, b_or, b_shl24 _ hi, b_shl16 _ hi, b_shl8 _ hi, b_and255, b_and255, b_and255]
  rcases Nat.lt_or_ge i 24 with h | h
  · rw [if_neg (by omega), decide_eq_false (p := 24 ≤ i) (by omega)]
    rcases Nat.lt_or_ge i 16 with h2 | h2
    · rw [if_neg (by omega), decide_eq_false (p := 16 ≤ i) (by omega)]
      rcases Nat.lt_or_ge i 8 with h3 | h3
      · rw [if_neg (by omega), decide_eq_false (p := 8 ≤ i) (by omega), decide_eq_true (p := i < 8) h3]
        simp
      · rw [if_pos h3, decide_eq_true (p := 8 ≤ i) h3, decide_eq_true (p := i - 8 < 8) (by omega), decide_eq_false (p := i < 8) (by omega)]
        simp
    · rw [if_pos h2, decide_eq_true (p := 16 ≤ i) h2, decide_eq_true (p := i - 16 < 8) (by omega), decide_eq_true (p := 8 ≤ i) (by omega), decide_eq_false (p := i - 8 < 8) (by omega), decide_eq_false (p := i < 8) (by omega)]
      simp
  · rw [if_pos h, decide_eq_true (p := 24 ≤ i) h, decide_eq_true (p := 16 ≤ i) (by omega), decide_eq_false (p := i - 16 < 8) (by omega), decide_eq_true (p := 8 ≤ i) (by omega), decide_eq_false (p := i - 8 < 8) (by omega), decide_eq_false (p := i < 8) (by omega)]
    simp
theorem wd_congr {f u : Nat → Int32} {o : Nat} (h : ∀ j, o ≤ j → j < o + 4 → u j = f j) : nk_wd u o = nk_wd f o := by
  unfold nk_wd
  rw [h o (by omega) (by omega), h (o + 1) (by omega) (by omega), h (o + 2) (by omega) (by omega), h (o + 3) (by omega) (by omega)]
theorem wds_congr {f u : Nat → Int32} (h : ∀ j, j < 16 → u j = f j) : nk_wds u = nk_wds f := by
  unfold nk_wds
  rw [wd_congr (o := 0) (fun j _ h2 => h j (by omega)), wd_congr (o := 4) (fun j _ h2 => h j (by omega)), wd_congr (o := 8) (fun j _ h2 => h j (by omega)), wd_congr (o := 12) (fun j _ h2 => h j (by omega))]
theorem wd_tb (f u : Nat → Int32) (o : Nat) (h : ∀ j, o ≤ j → j < o + 4 → u j = nk_tb (f j)) : nk_wd u o = nk_wd f o := by
  apply b_ext
  intro i hi
  rw [b_wd u o hi, b_wd f o hi, h o (by omega) (by omega), h (o + 1) (by omega) (by omega), h (o + 2) (by omega) (by omega), h (o + 3) (by omega) (by omega)]
  by_cases h1 : 24 ≤ i
  · simp only [if_pos h1]
    exact b_tb _ (by omega)
  · simp only [if_neg h1]
    by_cases h2 : 16 ≤ i
    · simp only [if_pos h2]
      exact b_tb _ (by omega)
    · simp only [if_neg h2]
      by_cases h3 : 8 ≤ i
      · simp only [if_pos h3]
        exact b_tb _ (by omega)
      · simp only [if_neg h3]
        exact b_tb _ (by omega)
theorem wds_tb (f u : Nat → Int32) (h : ∀ j, j < 16 → u j = nk_tb (f j)) : nk_wds u = nk_wds f := by
  unfold nk_wds
  rw [wd_tb f u 0 (fun j _ h2 => h j (by omega)), wd_tb f u 4 (fun j _ h2 => h j (by omega)), wd_tb f u 8 (fun j _ h2 => h j (by omega)), wd_tb f u 12 (fun j _ h2 => h j (by omega))]
theorem b_ushr8 (x : Int32) (i : Nat) : bt (nk_ushr x 8) i = bt x (8 + i) := b_ushr 8 (by omega) x i
theorem b_ushr16 (x : Int32) (i : Nat) : bt (nk_ushr x 16) i = bt x (16 + i) := b_ushr 16 (by omega) x i
theorem b_ushr24 (x : Int32) (i : Nat) : bt (nk_ushr x 24) i = bt x (24 + i) := b_ushr 24 (by omega) x i
theorem b_sh8 (x : Int32) {i : Nat} (hi : i < 8) : bt (x >>> ((8 : Int32) &&& 31)) i = bt x (8 + i) := (b_sshr 8 (by omega) x (by omega)).trans (if_pos (by omega))
theorem b_sh16 (x : Int32) {i : Nat} (hi : i < 8) : bt (x >>> ((16 : Int32) &&& 31)) i = bt x (16 + i) := (b_sshr 16 (by omega) x (by omega)).trans (if_pos (by omega))
theorem b_sh24 (x : Int32) {i : Nat} (hi : i < 8) : bt (x >>> ((24 : Int32) &&& 31)) i = bt x (24 + i) := (b_sshr 24 (by omega) x (by omega)).trans (if_pos (by omega))
/-- nk_four bytes whose low eight bits are those of w -/
theorem wd_of (u : Nat → Int32) (o : Nat) (w : Int32) (h0 : ∀ i, i < 8 → bt (u o) i = bt w (24 + i)) (h1 : ∀ i, i < 8 → bt (u (o + 1)) i = bt w (16 + i)) (h2 : ∀ i, i < 8 → bt (u (o + 2)) i = bt w (8 + i)) (h3 : ∀ i, i < 8 → bt (u (o + 3)) i = bt w i) : nk_wd u o = w := by
  apply b_ext
  intro i hi
  rw [b_wd u o hi]
  rcases Nat.lt_or_ge i 24 with g1 | g1
  · rw [if_neg (by omega)]
    rcases Nat.lt_or_ge i 16 with g2 | g2
    · rw [if_neg (by omega)]
      rcases Nat.lt_or_ge i 8 with g3 | g3
      · rw [if_neg (by omega), h3 _ g3]
      · rw [if_pos g3, h2 _ (by omega), show 8 + (i - 8) = i by omega]
    · rw [if_pos g2, h1 _ (by omega), show 16 + (i - 16) = i by omega]
  · rw [if_pos g1, h0 _ (by omega), show 24 + (i - 24) = i by omega]
/-- nk_four writes of a word's bytes -/
def wr4 (f : Nat → Int32) (k : Nat) (b0 b1 b2 b3 : Int32) : Nat → Int32 := upd (upd (upd (upd f k b0) (k + 1) b1) (k + 2) b2) (k + 3) b3
theorem wr4_0 (f : Nat → Int32) (k : Nat) (b0 b1 b2 b3 : Int32) : wr4 f k b0 b1 b2 b3 k = b0 := by
  simp [wr4, upd]
theorem wr4_1 (f : Nat → Int32) (k : Nat) (b0 b1 b2 b3 : Int32) : wr4 f k b0 b1 b2 b3 (k + 1) = b1 := by
  simp [wr4, upd]
theorem wr4_2 (f : Nat → Int32) (k : Nat) (b0 b1 b2 b3 : Int32) : wr4 f k b0 b1 b2 b3 (k + 2) = b2 := by
  simp [wr4, upd]
theorem wr4_3 (f : Nat → Int32) (k : Nat) (b0 b1 b2 b3 : Int32) : wr4 f k b0 b1 b2 b3 (k + 3) = b3 := by
  simp [wr4, upd]
theorem wr4_n (f : Nat → Int32) (k : Nat) (b0 b1 b2 b3 : Int32) (j : Nat) (h : j < k ∨ k + 4 ≤ j) : wr4 f k b0 b1 b2 b3 j = f j := by
  unfold wr4 upd
  rw [if_neg (by omega), if_neg (by omega), if_neg (by omega), if_neg (by omega)]
theorem wd_wru (f : Nat → Int32) (k : Nat) (w : Int32) : nk_wd (wr4 f k (vp_nar .byte (nk_tb (nk_ushr w 24))) (vp_nar .byte (nk_tb (nk_ushr w 16))) (vp_nar .byte (nk_tb (nk_ushr w 8))) (vp_nar .byte (nk_tb w))) k = w := by
  apply wd_of
  · intro i hi
    rw [wr4_0]
    show bt (nk_tb (nk_tb (nk_ushr w 24))) i = _
    rw [b_tb _ hi, b_tb _ hi, b_ushr24]
  · intro i hi
    rw [wr4_1]
    show bt (nk_tb (nk_tb (nk_ushr w 16))) i = _
    rw [b_tb _ hi, b_tb _ hi, b_ushr16]
  · intro i hi
    rw [wr4_2]
    show bt (nk_tb (nk_tb (nk_ushr w 8))) i = _
    rw [b_tb _ hi, b_tb _ hi, b_ushr8]
  · intro i hi
    rw [wr4_3]
    show bt (nk_tb (nk_tb w)) i = _
    rw [b_tb _ hi, b_tb _ hi]
theorem wd_wrs (f : Nat → Int32) (k : Nat) (w : Int32) : nk_wd (wr4 f k (vp_nar .byte (nk_tb (w >>> ((24 : Int32) &&& 31)))) (vp_nar .byte (nk_tb (w >>> ((16 : Int32) &&& 31)))) (vp_nar .byte (nk_tb (w >>> ((8 : Int32) &&& 31)))) (vp_nar .byte (nk_tb w))) k = w := by
  apply wd_of
  · intro i hi
    rw [wr4_0]
    show bt (nk_tb (nk_tb (w >>> ((24 : Int32) &&& 31)))) i = _
    rw [b_tb _ hi, b_tb _ hi, b_sh24 _ hi]
  · intro i hi
    rw [wr4_1]
    show bt (nk_tb (nk_tb (w >>> ((16 : Int32) &&& 31)))) i = _
    rw [b_tb _ hi, b_tb _ hi, b_sh16 _ hi]
  · intro i hi
    rw [wr4_2]
    show bt (nk_tb (nk_tb (w >>> ((8 : Int32) &&& 31)))) i = _
    rw [b_tb _ hi, b_tb _ hi, b_sh8 _ hi]
  · intro i hi
    rw [wr4_3]
    show bt (nk_tb (nk_tb w)) i = _
    rw [b_tb _ hi, b_tb _ hi]
/-- nk_four words written one behind another, any order of the frames -/
def nk_frm (u f : Nat → Int32) (k : Nat) : Prop := ∀ j, (j < k ∨ k + 4 ≤ j) → u j = f j
theorem frm_wd {u f : Nat → Int32} {k o : Nat} (h : nk_frm u f k) (ho : o + 4 ≤ k ∨ k + 4 ≤ o) : nk_wd u o = nk_wd f o := wd_congr (fun j h1 h2 => h j (by omega))
theorem nk_four {f u1 u2 u3 u4 : Nat → Int32} {k : Nat} {a b c d : Int32} (e1 : nk_wd u1 k = a) (f1 : nk_frm u1 f k) (e2 : nk_wd u2 (k + 4) = b) (f2 : nk_frm u2 u1 (k + 4)) (e3 : nk_wd u3 (k + 8) = c) (f3 : nk_frm u3 u2 (k + 8)) (e4 : nk_wd u4 (k + 12) = d) (f4 : nk_frm u4 u3 (k + 12)) : (nk_wd u4 k = a ∧ nk_wd u4 (k + 4) = b ∧ nk_wd u4 (k + 8) = c ∧ nk_wd u4 (k + 12) = d) ∧ ∀ j, (j < k ∨ k + 16 ≤ j) → u4 j = f j := by
  refine ⟨⟨?_, ?_, ?_, e4⟩, fun j h => ?_⟩
  · rw [frm_wd f4 (by omega), frm_wd f3 (by omega), frm_wd f2 (by omega), e1]
  · rw [frm_wd f4 (by omega), frm_wd f3 (by omega), e2]
  · rw [frm_wd f4 (by omega), e3]
  · rw [f4 j (by omega), f3 j (by omega), f2 j (by omega), f1 j (by omega)]
/-! ===== a word's bytes, as the law reads them ===== -/
def nk_gt (a : S4) (q : Nat) : Int32 := match q with
  | 0 => a.1
  | 1 => a.2.1
  | 2 => a.2.2.1
  | _ => a.2.2.2
theorem gt_wds (f : Nat → Int32) : ∀ q, q < 4 → nk_gt (nk_wds f) q = nk_wd f (4 * q)
  | 0, _ => rfl
  | 1, _ => rfl
  | 2, _ => rfl
  | 3, _ => rfl
  | q + 4, h => absurd h (by omega)
theorem b_ushrN (n : Nat) (hn : n < 32) (x : Int32) (i : Nat) : bt (nk_ushr x (nI n)) i = bt x (n + i) := b_ushr n hn x i
theorem byte_wd (f : Nat → Int32) (o r : Nat) (hr : r < 4) : nk_ushr (nk_wd f o) (nI (24 - 8 * r)) &&& 255 = f (o + r) &&& 255 := by
  apply b_ext
  intro i hi
  rw [b_and255, b_and255]
  rcases Nat.lt_or_ge i 8 with h8 | h8
  · rw [b_ushrN _ (by omega), b_wd f o (by omega)]
    rcases (show r = 0 ∨ r = 1 ∨ r = 2 ∨ r = 3 by omega) with rfl | rfl | rfl | rfl
    · rw [if_pos (by omega), show 24 - 8 * 0 + i - 24 = i by omega]
      rfl
    · rw [if_neg (by omega), if_pos (by omega), show 24 - 8 * 1 + i - 16 = i by omega]
    · rw [if_neg (by omega), if_neg (by omega), if_pos (by omega), show 24 - 8 * 2 + i - 8 = i by omega]
    · rw [if_neg (by omega), if_neg (by omega), if_neg (by omega), show 24 - 8 * 3 + i = i by omega]
  · rw [decide_eq_false (by omega), Bool.and_false, Bool.and_false]
theorem byte_of (f : Nat → Int32) (j : Nat) (hj : j < 16) : f j &&& 255 = nk_ushr (nk_gt (nk_wds f) (j / 4)) (nI (24 - 8 * (j % 4))) &&& 255 := by
  rw [gt_wds f (j / 4) (by omega), byte_wd f _ (j % 4) (by omega), show 4 * (j / 4) + j % 4 = j by omega]
/-! ===== the published answers, a row a round ===== -/
def kk0 : S4 := (0, 0, 0, 0)
def kb0 : S4 := (0, 0, 0, 0)
theorem kv0_0 : nk_eF kk0 0 kb0 = (0, 0, 0, 0) := rfl
theorem kv0_1 : nk_eF kk0 1 kb0 = (-65922, -65794, -134219789, 32) := by
  rw [eF_s, kv0_0]
  decide +kernel
theorem kv0_2 : nk_eF kk0 2 kb0 = (2114353740, 1107181659, -1729089028, -2013181938) := by
  rw [eF_s, kv0_1]
  decide +kernel
theorem kv0_3 : nk_eF kk0 3 kb0 = (1885809685, -173575352, 686587855, -853627077) := by
  rw [eF_s, kv0_2]
  decide +kernel
theorem kv0_4 : nk_eF kk0 4 kb0 = (-1409956591, -2067275377, 1526560447, 1619887225) := by
  rw [eF_s, kv0_3]
  decide +kernel
theorem kv0_5 : nk_eF kk0 5 kb0 = (-1408932095, 194818559, -1193347567, -1119121041) := by
  rw [eF_s, kv0_4]
  decide +kernel
theorem kv0_6 : nk_eF kk0 6 kb0 = (584703319, -749851096, -2106098704, 464584715) := by
  rw [eF_s, kv0_5]
  decide +kernel
theorem kv0_7 : nk_eF kk0 7 kb0 = (-651705833, 1990503652, -784625059, -557823017) := by
  rw [eF_s, kv0_6]
  decide +kernel
theorem kv0_8 : nk_eF kk0 8 kb0 = (1513332014, 955540267, -1779327153, 428018876) := by
  rw [eF_s, kv0_7]
  decide +kernel
theorem kv0_9 : nk_eF kk0 9 kb0 = (1747987629, 57143976, -128970457, 42074150) := by
  rw [eF_s, kv0_8]
  decide +kernel
theorem kv0_10 : nk_eF kk0 10 kb0 = (-109444483, -1238748248, 261516796, 312323491) := by
  rw [eF_s, kv0_9]
  decide +kernel
theorem kv0_11 : nk_eF kk0 11 kb0 = (-553100276, -2058080984, -1225919320, 821530172) := by
  rw [eF_s, kv0_10]
  decide +kernel
theorem kv0_12 : nk_eF kk0 12 kb0 = (1666102448, -956212436, -571637906, 1433359118) := by
  rw [eF_s, kv0_11]
  decide +kernel
theorem kv0_13 : nk_eF kk0 13 kb0 = (1111789373, 760874328, -1809364963, -1356388205) := by
  rw [eF_s, kv0_12]
  decide +kernel
theorem kv0_14 : nk_eF kk0 14 kb0 = (-1455036109, -1912029446, 1860815935, -1709076866) := by
  rw [eF_s, kv0_13]
  decide +kernel
theorem kv0_15 : nk_eF kk0 15 kb0 = (-1414141227, 1432652073, 1450827182, 707795257) := by
  rw [eF_s, kv0_14]
  decide +kernel
theorem kv0_16 : nk_eF kk0 16 kb0 = (771475902, 934316831, -1205231501, 236162841) := by
  rw [eF_s, kv0_15]
  decide +kernel
theorem kv0 : nk_enc kk0 kb0 = (-1318754223, 1771973114, 615973192, 1346186748) := by
  unfold nk_enc
  rw [kv0_16]
  decide +kernel
def ko0 (j : Nat) : Int32 := ([177, 101, 104, 81, 105, 158, 41, 250, 36, 183, 1, 72, 80, 61, 45, 252] : List Int32).getD j 0
theorem kt0 : ∀ j, j < 16 → nk_ushr (nk_gt (-1318754223, 1771973114, 615973192, 1346186748) (j / 4)) (nI (24 - 8 * (j % 4))) &&& 255 = ko0 j := by decide +kernel
theorem ka0 (f : Nat → Int32) (h : nk_wds f = nk_enc kk0 kb0) (j : Nat) (hj : j < 16) : f j &&& 255 = ko0 j := by
  rw [byte_of f j hj, h, kv0]
  exact kt0 j hj
def kk1 : S4 := (-1, -1, -1, -1)
def kb1 : S4 := (-1, -1, -1, -1)
theorem kv1_0 : nk_eF kk1 0 kb1 = (-1, -1, -1, -1) := rfl
theorem kv1_1 : nk_eF kk1 1 kb1 = (-65922, -65794, -134219789, 32) := by
  rw [eF_s, kv1_0]
  decide +kernel
theorem kv1_2 : nk_eF kk1 2 kb1 = (-1577221976, -1862266156, -48249812, 2021601627) := by
  rw [eF_s, kv1_1]
  decide +kernel
theorem kv1_3 : nk_eF kk1 3 kb1 = (971528762, 1577425795, -928572010, -2114998391) := by
  rw [eF_s, kv1_2]
  decide +kernel
theorem kv1_4 : nk_eF kk1 4 kb1 = (65545891, -1556109441, 495875637, 2093221970) := by
  rw [eF_s, kv1_3]
  decide +kernel
theorem kv1_5 : nk_eF kk1 5 kb1 = (7290550, 1781655954, -1762301852, 1748183094) := by
  rw [eF_s, kv1_4]
  decide +kernel
theorem kv1_6 : nk_eF kk1 6 kb1 = (-1896314550, -1034636074, -613959546, 916351043) := by
  rw [eF_s, kv1_5]
  decide +kernel
theorem kv1_7 : nk_eF kk1 7 kb1 = (642394870, 504817612, -1853909411, 1303994229) := by
  rw [eF_s, kv1_6]
  decide +kernel
theorem kv1_8 : nk_eF kk1 8 kb1 = (591930088, 324477085, 1731546929, 1864257264) := by
  rw [eF_s, kv1_7]
  decide +kernel
theorem kv1_9 : nk_eF kk1 9 kb1 = (2048216249, 1273559550, -781831937, -508219041) := by
  rw [eF_s, kv1_8]
  decide +kernel
theorem kv1_10 : nk_eF kk1 10 kb1 = (985359399, 545616094, -559118116, -186324491) := by
  rw [eF_s, kv1_9]
  decide +kernel
theorem kv1_11 : nk_eF kk1 11 kb1 = (-1399604842, 2051591022, 449080013, -1486220763) := by
  rw [eF_s, kv1_10]
  decide +kernel
theorem kv1_12 : nk_eF kk1 12 kb1 = (110446494, -1402601243, 68276477, 1905442291) := by
  rw [eF_s, kv1_11]
  decide +kernel
theorem kv1_13 : nk_eF kk1 13 kb1 = (904089762, -1064808278, -689791929, 1375713648) := by
  rw [eF_s, kv1_12]
  decide +kernel
theorem kv1_14 : nk_eF kk1 14 kb1 = (-1448486964, -1467409318, 933951422, 1023734490) := by
  rw [eF_s, kv1_13]
  decide +kernel
theorem kv1_15 : nk_eF kk1 15 kb1 = (1897768256, 1208980250, -1714020129, 2007855997) := by
  rw [eF_s, kv1_14]
  decide +kernel
theorem kv1_16 : nk_eF kk1 16 kb1 = (-1152331757, 1733297791, -569474077, -41640097) := by
  rw [eF_s, kv1_15]
  decide +kernel
theorem kv1 : nk_enc kk1 kb1 = (712524315, -2016948078, 1327894847, 487803314) := by
  unfold nk_enc
  rw [kv1_16]
  decide +kernel
def ko1 (j : Nat) : Int32 := ([42, 120, 66, 27, 135, 199, 208, 146, 79, 38, 17, 63, 29, 19, 73, 178] : List Int32).getD j 0
theorem kt1 : ∀ j, j < 16 → nk_ushr (nk_gt (712524315, -2016948078, 1327894847, 487803314) (j / 4)) (nI (24 - 8 * (j % 4))) &&& 255 = ko1 j := by decide +kernel
theorem ka1 (f : Nat → Int32) (h : nk_wds f = nk_enc kk1 kb1) (j : Nat) (hj : j < 16) : f j &&& 255 = ko1 j := by
  rw [byte_of f j hj, h, kv1]
  exact kt1 j hj
def kk2 : S4 := (-1318754223, 1771973114, 615973192, 1346186748)
def kb2 : S4 := (712524315, -2016948078, 1327894847, 487803314)
theorem kv2_0 : nk_eF kk2 0 kb2 = (712524315, -2016948078, 1327894847, 487803314) := rfl
theorem kv2_1 : nk_eF kk2 1 kb2 = (261822251, -480792386, -755072542, -1831495224) := by
  rw [eF_s, kv2_0]
  decide +kernel
theorem kv2_2 : nk_eF kk2 2 kb2 = (2048220815, -291004836, -272040879, 1502430387) := by
  rw [eF_s, kv2_1]
  decide +kernel
theorem kv2_3 : nk_eF kk2 3 kb2 = (-1604584694, -407226124, -508968902, 1212838420) := by
  rw [eF_s, kv2_2]
  decide +kernel
theorem kv2_4 : nk_eF kk2 4 kb2 = (-571558085, 1896468136, 1895148789, 2083330054) := by
  rw [eF_s, kv2_3]
  decide +kernel
theorem kv2_5 : nk_eF kk2 5 kb2 = (177507595, -1666144712, 2109931911, 1172473895) := by
  rw [eF_s, kv2_4]
  decide +kernel
theorem kv2_6 : nk_eF kk2 6 kb2 = (1221417052, -1887338972, 68143591, -1531799222) := by
  rw [eF_s, kv2_5]
  decide +kernel
theorem kv2_7 : nk_eF kk2 7 kb2 = (-1438362058, 1312976416, -1496205158, 49435588) := by
  rw [eF_s, kv2_6]
  decide +kernel
theorem kv2_8 : nk_eF kk2 8 kb2 = (-425604190, -1407154450, -1917351759, -409060204) := by
  rw [eF_s, kv2_7]
  decide +kernel
theorem kv2_9 : nk_eF kk2 9 kb2 = (-84614157, -1613706867, 117856821, 1392868635) := by
  rw [eF_s, kv2_8]
  decide +kernel
theorem kv2_10 : nk_eF kk2 10 kb2 = (912140526, -156101877, 61303588, -700924405) := by
  rw [eF_s, kv2_9]
  decide +kernel
theorem kv2_11 : nk_eF kk2 11 kb2 = (-164807842, -2040090911, 1369551413, -332803075) := by
  rw [eF_s, kv2_10]
  decide +kernel
theorem kv2_12 : nk_eF kk2 12 kb2 = (2136730278, -1932487843, -1002564101, -1096616167) := by
  rw [eF_s, kv2_11]
  decide +kernel
theorem kv2_13 : nk_eF kk2 13 kb2 = (-1350889749, -1996738271, -277084336, 1437991126) := by
  rw [eF_s, kv2_12]
  decide +kernel
theorem kv2_14 : nk_eF kk2 14 kb2 = (-1076577104, -1905962266, 2101226508, 2107214722) := by
  rw [eF_s, kv2_13]
  decide +kernel
theorem kv2_15 : nk_eF kk2 15 kb2 = (846220886, 58953198, 9801446, 1551764777) := by
  rw [eF_s, kv2_14]
  decide +kernel
theorem kv2_16 : nk_eF kk2 16 kb2 = (-2058105932, 1086282360, 239077290, -1104254115) := by
  rw [eF_s, kv2_15]
  decide +kernel
theorem kv2 : nk_enc kk2 kb2 = (-487159840, 2071291407, -63495629, -1136176340) := by
  unfold nk_enc
  rw [kv2_16]
  decide +kernel
def ko2 (j : Nat) : Int32 := ([226, 246, 135, 224, 123, 117, 102, 15, 252, 55, 34, 51, 188, 71, 83, 44] : List Int32).getD j 0
theorem kt2 : ∀ j, j < 16 → nk_ushr (nk_gt (-487159840, 2071291407, -63495629, -1136176340) (j / 4)) (nI (24 - 8 * (j % 4))) &&& 255 = ko2 j := by decide +kernel
theorem ka2 (f : Nat → Int32) (h : nk_wds f = nk_enc kk2 kb2) (j : Nat) (hj : j < 16) : f j &&& 255 = ko2 j := by
  rw [byte_of f j hj, h, kv2]
  exact kt2 j hj
end
section
/-! CONTRACTS' SHAPES: classes 0: NoekeonDesk, 1: NoekeonEngine, 2: KeyParameter; arrays of bytes are of class cb, of ints cI -/
abbrev vwCl : List vw_C := [(RX1, TX1, 3), (RX2, TX2, 3), (RX3, TX3, 1)]
theorem kb_eq {G : va_G} {cb cI cA : ClassId} {s : State} (h : va_K G vwCl ([(cb, .byte), (cI, .int)] ++ [(cA, .byte)]) s) : cb = cA := by
  have h0 : s.vm.findClass ("[" ++ FieldType.byte.toString) = some cb := (h.2 0 _ rfl).2
  have h2 : s.vm.findClass ("[" ++ FieldType.byte.toString) = some cA := (h.2 2 _ rfl).2
  exact Option.some.inj (h0.symm.trans h2)
theorem ki_eq {G : va_G} {cb cI cA : ClassId} {s : State} (h : va_K G vwCl ([(cb, .byte), (cI, .int)] ++ [(cA, .int)]) s) : cI = cA := by
  have h0 : s.vm.findClass ("[" ++ FieldType.int.toString) = some cI := (h.2 1 _ rfl).2
  have h2 : s.vm.findClass ("[" ++ FieldType.int.toString) = some cA := (h.2 2 _ rfl).2
  exact Option.some.inj (h0.symm.trans h2)
def tru : State → Prop := fun _ => True
/-- what a method carries beside its cells: it may not look at the frames -/
def nk_EB (E : State → Prop) : Prop := ∀ (a : Array Value) (U : State) (g : JFrame) (mk : MethodId), E U → E (U.calling g mk a)
def pcR (av : List Value) (G : va_G) (cb cI : ClassId) (ws : va_W) (E : State → Prop) : Array Value → State → Prop := va_Pc av (fun U => va_P G vwCl ws U.heap ∧ va_K G vwCl [(cb, .byte), (cI, .int)] U ∧ E U)
def pcW (av : List Value) (G : va_G) (cb cI : ClassId) (ws : va_W) (sz : Nat) (E : State → Prop) : Array Value → State → Prop := va_Pc av (fun U => U.heap.size = sz ∧ va_P G vwCl ws U.heap ∧ va_K G vwCl [(cb, .byte), (cI, .int)] U ∧ va_D (fun _ => True) ws ∧ E U)
def qcV {S : Type} (post : S → Prop) (G : va_G) (w1 : S → va_W) (A : Nat → Prop) : Array Value → State → Outcome → State → Prop := va_Qv post (fun u t => va_P G vwCl (w1 u) t.heap ∧ va_D A (w1 u)) A
def qcI {S : Type} (post : Int32 → S → Prop) (G : va_G) (w1 : S → va_W) (A : Nat → Prop) : Array Value → State → Outcome → State → Prop := va_Qi post (fun u t => va_P G vwCl (w1 u) t.heap ∧ va_D A (w1 u)) A
def qcR {S : Type} (post : S → Prop) (G : va_G) (w1 : S → Nat → va_W) (A : Nat → Prop) : Array Value → State → Outcome → State → Prop := va_Qr post (fun u a t => va_P G vwCl (w1 u a) t.heap ∧ va_D A (w1 u a)) A
theorem pcR_blind {av : List Value} {G : va_G} {cb cI : ClassId} {ws : va_W} {E : State → Prop} (hE : nk_EB E) : FrameBlind (pcR av G cb cI ws E) := by
  intro a U g mk q
  obtain ⟨q0, qP, qK, qE⟩ := q
  exact ⟨q0, qP, va_K.moved (u := U) (U := U.calling g mk a) (Vm.Alike.refl U.vm) qK, hE a U g mk qE⟩
theorem pcW_blind {av : List Value} {G : va_G} {cb cI : ClassId} {ws : va_W} {sz : Nat} {E : State → Prop} (hE : nk_EB E) : FrameBlind (pcW av G cb cI ws sz E) := by
  intro a U g mk q
  obtain ⟨q0, q1, qP, qK, qD, qE⟩ := q
  exact ⟨q0, q1, qP, va_K.moved (u := U) (U := U.calling g mk a) (Vm.Alike.refl U.vm) qK, qD, hE a U g mk qE⟩
theorem tru_in {H : Heap} {s : State} : nk_EB tru ∧ ∀ U : State, U.heap = H → s.WarmedH U.vm → tru U := ⟨fun _ _ _ _ _ => trivial, fun _ _ _ => trivial⟩
theorem preR_S {av : List Value} {G : va_G} {cb cI : ClassId} {wc : va_W} {E : State → Prop} {s : State} {H : Heap} (hP : va_P G vwCl wc H) (hK : va_K G vwCl [(cb, .byte), (cI, .int)] s) (hE : nk_EB E ∧ ∀ U : State, U.heap = H → s.WarmedH U.vm → E U) : PreS s H (pcR av G cb cI wc E) av :=
  ⟨pcR_blind hE.1, fun U hU hW => ⟨rfl, by rw [hU]; exact hP, va_K.moved hW.alike hK, hE.2 U hU hW⟩⟩
theorem preR_V {ci q0 a : Nat} {C : String} {T : u_T} {N : Nat} {fs As : List Value} {G : va_G} {cb cI : ClassId} {wc : va_W} {E : State → Prop} {s : State} {H : Heap} (hP : va_P G vwCl wc H) (hK : va_K G vwCl [(cb, .byte), (cI, .int)] s) (hE : nk_EB E ∧ ∀ U : State, U.heap = H → s.WarmedH U.vm → E U) (hc : vwCl[ci]? = some (C, T, N)) (he : wc[q0]? = some (a, .inr (ci, fs))) : PreV s H C a (pcR (.ref a :: As) G cb cI wc E) As :=
  ⟨pcR_blind hE.1, va_recv hK hP hc he, fun U hU hW => ⟨rfl, by rw [hU]; exact hP, va_K.moved hW.alike hK, hE.2 U hU hW⟩⟩
theorem preW_S {av : List Value} {G : va_G} {cb cI : ClassId} {wc : va_W} {A : Nat → Prop} {F : State → Prop} {s : State} {H : Heap} (hP : va_P G vwCl wc H) (hK : va_K G vwCl [(cb, .byte), (cI, .int)] s) (hD : va_D A wc) (hE : nk_EB F ∧ ∀ U : State, U.heap = H → s.WarmedH U.vm → F U) : PreS s H (pcW av G cb cI wc H.size F) av :=
  ⟨pcW_blind hE.1, fun U hU hW => ⟨rfl, by rw [hU], by rw [hU]; exact hP, va_K.moved hW.alike hK, hD.weaken (fun _ _ _ _ => trivial), hE.2 U hU hW⟩⟩
theorem preW_V {ci q0 a : Nat} {C : String} {T : u_T} {N : Nat} {fs As : List Value} {G : va_G} {cb cI : ClassId} {wc : va_W} {A : Nat → Prop} {F : State → Prop} {s : State} {H : Heap} (hP : va_P G vwCl wc H) (hK : va_K G vwCl [(cb, .byte), (cI, .int)] s) (hD : va_D A wc) (hE : nk_EB F ∧ ∀ U : State, U.heap = H → s.WarmedH U.vm → F U) (hc : vwCl[ci]? = some (C, T, N)) (he : wc[q0]? = some (a, .inr (ci, fs))) : PreV s H C a (pcW (.ref a :: As) G cb cI wc H.size F) As :=
  ⟨pcW_blind hE.1, va_recv hK hP hc he, fun U hU hW => ⟨rfl, by rw [hU], by rw [hU]; exact hP, va_K.moved hW.alike hK, hD.weaken (fun _ _ _ _ => trivial), hE.2 U hU hW⟩⟩
/-- what a call through an interface asks -/
theorem lw_F {own : String} {idx : Nat} {C : String} {x y : MethodName} {b : ByteArray} {L : Nat} {r : Option FieldType} (h1 : Cond.methodLink own idx x ∈ lw_all) (h2 : Cond.selects C x y ∈ lw_all) (h3 : Cond.instanceMethod y ∈ lw_all) (h4 : Cond.initialized y.cls ∈ lw_all) (h5 : Cond.code y b L r ∈ lw_all) : GoodIn lw_all (va_wsF own idx C x y (ws_ y b L r)) := by
  refine lw_app ?_ (lw_meth h5)
  intro w hw
  simp only [List.mem_cons, List.not_mem_nil, or_false] at hw
  rcases hw with e | e | e | e
  · rw [e]; exact h1
  · rw [e]; exact h2
  · rw [e]; exact h3
  · rw [e]; exact h4
section NKC
variable {p : Program} {l : Launch} {e : Env} {R : Room} {s : State} {m : MethodId} {args : Array Value} {below : List Frame} {meth : Method} {c : Code} {H : Heap} {locs : List Loc} {cells slots : Nat} {Q : State → Prop}
variable {pc : Nat} {ls : Array Slot} {rest st0 : List Value} {a : Array Value} {A : Nat → Prop} {H0 : Heap} {mc ms : Nat} {G : va_G} {ws wc wr : va_W}
theorem call_v {S : Type} {post : S → Prop} {w1 : S → va_W} (hr : va_Run p l e R s m args below meth c H locs cells slots mc ms (F0 m pc ls st0) rest (qcV post G w1 (va_A wc H.size) a) (va_A wc H.size)) (hP : va_P G vwCl ws H) (hD : va_D A ws) (hS : va_S A H0 H locs) (hF : ∀ q, va_A wc H.size q → A q) (isC isR : List Nat) (hC : isC.map (fun i => ws[i]?) = wc.map some) (hR : isR.map (fun i => ws[i]?) = wr.map some) (hn : va_nd isR = true) (hdis : ∀ i ∈ isR, i ∉ isC)
    (kk : ∀ (u : S) (H1 : Heap) (locs1 : List Loc), post u → va_P G vwCl (wr ++ w1 u) H1 → va_D A (wr ++ w1 u) → va_S A H0 H1 locs1 → W p l e R s m args below meth c H1 locs1 (cells + mc) (slots + ms) Q (F0 m (pc + 3) ls rest)) : W p l e R s m args below meth c H locs cells slots Q (F0 m pc ls st0) := by
  refine va_callv hr hS (fun q _ h => hF q h) hF (fun u t H1 locs1 ht hvm hw hB hz hk hS1 => ?_)
  obtain ⟨hP1, hD1⟩ := hB
  rw [ht] at hP1
  obtain ⟨hP2, hD2⟩ := va_join hP hD isC isR hC hR hn hdis hk hF hP1 hD1
  exact kk u H1 locs1 hw hP2 hD2 hS1
theorem call_i {S : Type} {post : Int32 → S → Prop} {w1 : S → va_W} (hr : va_Run p l e R s m args below meth c H locs cells slots mc ms (F0 m pc ls st0) rest (qcI post G w1 (va_A wc H.size) a) (va_A wc H.size)) (hP : va_P G vwCl ws H) (hD : va_D A ws) (hS : va_S A H0 H locs) (hF : ∀ q, va_A wc H.size q → A q) (isC isR : List Nat) (hC : isC.map (fun i => ws[i]?) = wc.map some) (hR : isR.map (fun i => ws[i]?) = wr.map some) (hn : va_nd isR = true) (hdis : ∀ i ∈ isR, i ∉ isC)
    (kk : ∀ (r : Int32) (u : S) (H1 : Heap) (locs1 : List Loc), post r u → va_P G vwCl (wr ++ w1 u) H1 → va_D A (wr ++ w1 u) → va_S A H0 H1 locs1 → W p l e R s m args below meth c H1 locs1 (cells + mc) (slots + ms) Q (F0 m (pc + 3) ls (.int r :: rest))) : W p l e R s m args below meth c H locs cells slots Q (F0 m pc ls st0) := by
  refine va_calli hr hS (fun q _ h => hF q h) hF (fun r u t H1 locs1 ht hvm hw hB hz hk hS1 => ?_)
  obtain ⟨hP1, hD1⟩ := hB
  rw [ht] at hP1
  obtain ⟨hP2, hD2⟩ := va_join hP hD isC isR hC hR hn hdis hk hF hP1 hD1
  exact kk r u H1 locs1 hw hP2 hD2 hS1
theorem call_r {S : Type} {post : S → Prop} {w1 : S → Nat → va_W} (hr : va_Run p l e R s m args below meth c H locs cells slots mc ms (F0 m pc ls st0) rest (qcR post G w1 (va_A wc H.size) a) (va_A wc H.size)) (hP : va_P G vwCl ws H) (hD : va_D A ws) (hS : va_S A H0 H locs) (hF : ∀ q, va_A wc H.size q → A q) (isC isR : List Nat) (hC : isC.map (fun i => ws[i]?) = wc.map some) (hR : isR.map (fun i => ws[i]?) = wr.map some) (hn : va_nd isR = true) (hdis : ∀ i ∈ isR, i ∉ isC)
    (kk : ∀ (ra : Nat) (u : S) (H1 : Heap) (locs1 : List Loc), post u → va_P G vwCl (wr ++ w1 u ra) H1 → va_D A (wr ++ w1 u ra) → va_S A H0 H1 locs1 → W p l e R s m args below meth c H1 locs1 (cells + mc) (slots + ms) Q (F0 m (pc + 3) ls (.ref ra :: rest))) : W p l e R s m args below meth c H locs cells slots Q (F0 m pc ls st0) := by
  refine va_callr hr hS (fun q _ h => hF q h) hF (fun u ra t H1 locs1 ht hvm hw hB hz hk hS1 => ?_)
  obtain ⟨hP1, hD1⟩ := hB
  rw [ht] at hP1
  obtain ⟨hP2, hD2⟩ := va_join hP hD isC isR hC hR hn hdis hk hF hP1 hD1
  exact kk ra u H1 locs1 hw hP2 hD2 hS1
theorem callF_v {S : Type} {post : S → Prop} {w1 : S → va_W} (hr : va_Run5 p l e R s m args below meth c H locs cells slots mc ms (F0 m pc ls st0) rest (qcV post G w1 (va_A wc H.size) a) (va_A wc H.size)) (hP : va_P G vwCl ws H) (hD : va_D A ws) (hS : va_S A H0 H locs) (hF : ∀ q, va_A wc H.size q → A q) (isC isR : List Nat) (hC : isC.map (fun i => ws[i]?) = wc.map some) (hR : isR.map (fun i => ws[i]?) = wr.map some) (hn : va_nd isR = true) (hdis : ∀ i ∈ isR, i ∉ isC)
    (kk : ∀ (u : S) (H1 : Heap) (locs1 : List Loc), post u → va_P G vwCl (wr ++ w1 u) H1 → va_D A (wr ++ w1 u) → va_S A H0 H1 locs1 → W p l e R s m args below meth c H1 locs1 (cells + mc) (slots + ms) Q (F0 m (pc + 5) ls rest)) : W p l e R s m args below meth c H locs cells slots Q (F0 m pc ls st0) := by
  refine va_callFv hr hS (fun q _ h => hF q h) hF (fun u t H1 locs1 ht hvm hw hB hz hk hS1 => ?_)
  obtain ⟨hP1, hD1⟩ := hB
  rw [ht] at hP1
  obtain ⟨hP2, hD2⟩ := va_join hP hD isC isR hC hR hn hdis hk hF hP1 hD1
  exact kk u H1 locs1 hw hP2 hD2 hS1
theorem callF_i {S : Type} {post : Int32 → S → Prop} {w1 : S → va_W} (hr : va_Run5 p l e R s m args below meth c H locs cells slots mc ms (F0 m pc ls st0) rest (qcI post G w1 (va_A wc H.size) a) (va_A wc H.size)) (hP : va_P G vwCl ws H) (hD : va_D A ws) (hS : va_S A H0 H locs) (hF : ∀ q, va_A wc H.size q → A q) (isC isR : List Nat) (hC : isC.map (fun i => ws[i]?) = wc.map some) (hR : isR.map (fun i => ws[i]?) = wr.map some) (hn : va_nd isR = true) (hdis : ∀ i ∈ isR, i ∉ isC)
    (kk : ∀ (r : Int32) (u : S) (H1 : Heap) (locs1 : List Loc), post r u → va_P G vwCl (wr ++ w1 u) H1 → va_D A (wr ++ w1 u) → va_S A H0 H1 locs1 → W p l e R s m args below meth c H1 locs1 (cells + mc) (slots + ms) Q (F0 m (pc + 5) ls (.int r :: rest))) : W p l e R s m args below meth c H locs cells slots Q (F0 m pc ls st0) := by
  refine va_callFi hr hS (fun q _ h => hF q h) hF (fun r u t H1 locs1 ht hvm hw hB hz hk hS1 => ?_)
  obtain ⟨hP1, hD1⟩ := hB
  rw [ht] at hP1
  obtain ⟨hP2, hD2⟩ := va_join hP hD isC isR hC hR hn hdis hk hF hP1 hD1
  exact kk r u H1 locs1 hw hP2 hD2 hS1
end NKC
/-! ===== the static table, and what the calls through the interface ask: carried all the way down ===== -/
def nk_zt (t : Nat) (A : Nat → Prop) (U : State) (H : Heap) : Prop := va_Z "NoekeonEngine" "roundConstants" "[B" (.ref t) A U H ∧ va_T .byte t 17 (fun j => .int (nk_rcb j)) A U H
def yB_init : MethodName := ⟨"BlockCipher", "init", "(ZLCipherParameters;)V"⟩
def yB_proc : MethodName := ⟨"BlockCipher", "processBlock", "([BI[BI)I"⟩
def nk_ctx (t : Nat) (A : Nat → Prop) (U : State) (H : Heap) : Prop := nk_zt t A U H ∧ va_Fw "NoekeonEngine" yB_init yX2_init_2 U ∧ va_Fw "NoekeonEngine" yB_proc yX2_processBlock U
theorem ctx_EB (t : Nat) (A : Nat → Prop) : nk_EB (fun U => nk_ctx t A U U.heap) := by
  intro a U g mk h
  obtain ⟨⟨h1, h2⟩, h3, h4⟩ := h
  have hvm : U.vm.Alike (U.calling g mk a).vm := Vm.Alike.refl U.vm
  exact ⟨⟨va_Z.moved hvm h1, va_T.moved hvm h2⟩, va_Fw.moved (by decide) hvm h3, va_Fw.moved (by decide) hvm h4⟩
theorem ctx_in {t : Nat} {A B : Nat → Prop} {s : State} {H : Heap} {locs : List Loc} (hc : nk_ctx t A s s.heap) (hS : va_S A s.heap H locs) (hF : ∀ q, B q → A q) : nk_EB (fun U => nk_ctx t B U U.heap) ∧ ∀ U : State, U.heap = H → s.WarmedH U.vm → (fun U => nk_ctx t B U U.heap) U := by
  refine ⟨ctx_EB t B, fun U hU hW => ?_⟩
  obtain ⟨⟨h1, h2⟩, h3, h4⟩ := hc
  show nk_ctx t B U U.heap
  rw [hU]
  exact ⟨⟨va_Z.moved hW.alike ((h1.kept hS.2.1).narrow hF), va_T.moved hW.alike ((h2.kept hS.2.1).narrow hF)⟩, va_Fw.moved (by decide) hW.alike h3, va_Fw.moved (by decide) hW.alike h4⟩
/-! ===== the script ===== -/
def nk_X (b L : Nat) (xs : Nat → Int32) (U : State) (H : Heap) : Prop := va_X b L xs U H ∧ b < H.size ∧ L < 2 ^ 31
theorem X_EB (b L : Nat) (xs : Nat → Int32) : nk_EB (fun U => nk_X b L xs U U.heap) := by
  intro a U g mk h
  have hvm : U.vm.Alike (U.calling g mk a).vm := Vm.Alike.refl U.vm
  exact ⟨va_X.moved hvm h.1, h.2⟩
theorem X_in {b L : Nat} {xs : Nat → Int32} {A : Nat → Prop} {s : State} {H : Heap} {locs : List Loc} (hX : nk_X b L xs s s.heap) (hbA : ¬ A b) (hS : va_S A s.heap H locs) : nk_EB (fun U => nk_X b L xs U U.heap) ∧ ∀ U : State, U.heap = H → s.WarmedH U.vm → (fun U => nk_X b L xs U U.heap) U := by
  refine ⟨X_EB b L xs, fun U hU hW => ?_⟩
  show nk_X b L xs U U.heap
  rw [hU]
  exact ⟨va_X.moved hW.alike (hX.1.kept (hS.2.1 b hX.2.1 hbA)), Nat.lt_of_lt_of_le hX.2.1 hS.1, hX.2.2⟩
/-! ===== places written as numbers ===== -/
theorem in_0_1 : vp_in 0 1 := by unfold vp_in; decide
theorem in_0_4 : vp_in 0 4 := by unfold vp_in; decide
theorem in_1_4 : vp_in 1 4 := by unfold vp_in; decide
theorem in_2_4 : vp_in 2 4 := by unfold vp_in; decide
theorem in_3_4 : vp_in 3 4 := by unfold vp_in; decide
theorem in_0_16 : vp_in 0 16 := by unfold vp_in; decide
theorem in_1_16 : vp_in 1 16 := by unfold vp_in; decide
theorem in_2_16 : vp_in 2 16 := by unfold vp_in; decide
theorem in_3_16 : vp_in 3 16 := by unfold vp_in; decide
theorem in_4_16 : vp_in 4 16 := by unfold vp_in; decide
theorem in_5_16 : vp_in 5 16 := by unfold vp_in; decide
theorem in_6_16 : vp_in 6 16 := by unfold vp_in; decide
theorem in_7_16 : vp_in 7 16 := by unfold vp_in; decide
theorem in_8_16 : vp_in 8 16 := by unfold vp_in; decide
theorem in_9_16 : vp_in 9 16 := by unfold vp_in; decide
theorem in_10_16 : vp_in 10 16 := by unfold vp_in; decide
theorem in_11_16 : vp_in 11 16 := by unfold vp_in; decide
theorem in_12_16 : vp_in 12 16 := by unfold vp_in; decide
theorem in_13_16 : vp_in 13 16 := by unfold vp_in; decide
theorem in_14_16 : vp_in 14 16 := by unfold vp_in; decide
theorem in_15_16 : vp_in 15 16 := by unfold vp_in; decide
theorem cl_0 : (0 : Int32).toNatClampNeg = 0 := by decide
theorem cl_1 : (1 : Int32).toNatClampNeg = 1 := by decide
theorem cl_2 : (2 : Int32).toNatClampNeg = 2 := by decide
theorem cl_3 : (3 : Int32).toNatClampNeg = 3 := by decide
theorem cl_4 : (4 : Int32).toNatClampNeg = 4 := by decide
theorem cl_5 : (5 : Int32).toNatClampNeg = 5 := by decide
theorem cl_6 : (6 : Int32).toNatClampNeg = 6 := by decide
theorem cl_7 : (7 : Int32).toNatClampNeg = 7 := by decide
theorem cl_8 : (8 : Int32).toNatClampNeg = 8 := by decide
theorem cl_9 : (9 : Int32).toNatClampNeg = 9 := by decide
theorem cl_10 : (10 : Int32).toNatClampNeg = 10 := by decide
theorem cl_11 : (11 : Int32).toNatClampNeg = 11 := by decide
theorem cl_12 : (12 : Int32).toNatClampNeg = 12 := by decide
theorem cl_13 : (13 : Int32).toNatClampNeg = 13 := by decide
theorem cl_14 : (14 : Int32).toNatClampNeg = 14 := by decide
theorem cl_15 : (15 : Int32).toNatClampNeg = 15 := by decide
theorem cl_16 : (16 : Int32).toNatClampNeg = 16 := by decide
theorem oI_1 : Int32.ofInt 1 = nI 1 := by decide
theorem oI_4 : Int32.ofInt 4 = nI 4 := by decide
theorem nI_i1 (k : Nat) : nI k + Int32.ofInt 1 = nI (k + 1) := by rw [oI_1]; exact nI_add k 1
theorem nI_i4 (k : Nat) : nI k + Int32.ofInt 4 = nI (k + 4) := by rw [oI_4]; exact nI_add k 4
theorem cpy16 (f g : Nat → Int32) : ∀ j, j < 16 → va_cpy f g (0 : Int32).toNatClampNeg (0 : Int32).toNatClampNeg (16 : Int32).toNatClampNeg j = f j := by
  intro j hj
  rw [cl_0, cl_16, pk_cpy_in (Nat.zero_le j) (by omega), Nat.zero_add, Nat.sub_zero]
theorem nI_m1 (k : Nat) : nI (k + 1) + Int32.ofInt (-1) = nI k := pk_m1 k
end
section
abbrev wsJ4_rotateLeft : List Cond := ws_ yJ4_rotateLeft cJ4_rotateLeft 2 (some .int)
abbrev wsX5_rotateLeft : List Cond := ws_ yX5_rotateLeft cX5_rotateLeft 2 (some .int)
abbrev wsX4_bigEndianToInt_2 : List Cond := ws_ yX4_bigEndianToInt_2 cX4_bigEndianToInt_2 3 (some .int)
abbrev wsX4_bigEndianToInt : List Cond := ws_ yX4_bigEndianToInt cX4_bigEndianToInt 6 none
abbrev wsX4_intToBigEndian : List Cond := ws_ yX4_intToBigEndian cX4_intToBigEndian 3 none
abbrev wsX3_init_3 : List Cond := ws_ yX3_init_3 cX3_init_3 2 none
abbrev wsX3_init_2 : List Cond := ws_ yX3_init_2 cX3_init_2 4 none
abbrev wsX3_init : List Cond := ws_ yX3_init cX3_init 2 none
abbrev wsX3_getKey : List Cond := ws_ yX3_getKey cX3_getKey 1 (some (.array .byte))
set_option maxHeartbeats 4000000 in
set_option maxRecDepth 100000 in
theorem metJ4_rotateLeft (l : Launch) (x d : Int32) : Met l yJ4_rotateLeft wsJ4_rotateLeft ({ frames := 0, cells := 0, slots := 0, locals := 0 }) (va_Pc [.int x, .int d] tru) (vp_Si (fun r => r = nk_rotl x d)) 0 0 (fun _ => False) := by
  refine Met.ofW (cc := cJ4_rotateLeft) (maxL := 2) (ret := (some .int)) (by decide) rfl ?_
  intro p e s m args below meth c s₁ B hml hv
  obtain ⟨rfl, -⟩ := hv
  have hx := B.exec
  have hb := B.bytes
  have hr := B.returns
  have hts := atoms_spec (ws := wsJ4_rotateLeft) B.pre
  have hts : ∀ w ∈ lw_all, w.before _ s = true := fun w h => hts w (List.mem_cons_of_mem _ h)
  have hown : s.vm.findClass RJ4 = some m.cls := findClass_of_methodNamed B.named
  have hlocks := B.notSynchronized
  have hl := lv_entry ([.int x, .int d]) (n := 2) (Nat.le_of_ble_eq_true rfl)
  rw [lg_entry_eq]
  generalize (lg_sl ([.int x, .int d]) ++ List.replicate (2 - (lg_sl ([.int x, .int d])).length) Slot.unset).toArray = ls at hl ⊢
  have hl : lv_has ls 2 [(0, .int x), (1, .int d)] := hl
  refine lv_iload_n hx hb dJ4_rotateLeft_0 rfl (lv_at hl 0 rfl) ?_
  refine lv_iload_n hx hb dJ4_rotateLeft_1 rfl (lv_at hl 1 rfl) ?_
  refine lv_ishl hx hb dJ4_rotateLeft_2 ?_
  refine lv_iload_n hx hb dJ4_rotateLeft_3 rfl (lv_at hl 0 rfl) ?_
  refine lv_iload_n hx hb dJ4_rotateLeft_4 rfl (lv_at hl 1 rfl) ?_
  refine lv_ineg hx hb dJ4_rotateLeft_5 ?_
  refine lv_iushr (v := (nk_ushr x (-d))) hx hb dJ4_rotateLeft_6 rfl ?_
  refine lv_ior hx hb dJ4_rotateLeft_7 ?_
  exact W.iret (v := ((x <<< (d &&& 31)) ||| (nk_ushr x (-d)))) hx hb hr (fun t ht hW => ⟨_, rfl, rfl, ht⟩) (fun _ h => by cases h) dJ4_rotateLeft_8
set_option maxHeartbeats 4000000 in
set_option maxRecDepth 100000 in
theorem metX5_rotateLeft (l : Launch) (x d : Int32) : Met l yX5_rotateLeft wsX5_rotateLeft ({ frames := 1, cells := 0, slots := 0, locals := 21 }) (va_Pc [.int x, .int d] tru) (vp_Si (fun r => r = nk_rotl x d)) 0 0 (fun _ => False) := by
  refine Met.ofW (cc := cX5_rotateLeft) (maxL := 2) (ret := (some .int)) (by decide) rfl ?_
  intro p e s m args below meth c s₁ B hml hv
  obtain ⟨rfl, -⟩ := hv
  have hx := B.exec
  have hb := B.bytes
  have hr := B.returns
  have hts := atoms_spec (ws := wsX5_rotateLeft) B.pre
  have hts : ∀ w ∈ lw_all, w.before _ s = true := fun w h => hts w (List.mem_cons_of_mem _ h)
  have hown : s.vm.findClass RX5 = some m.cls := findClass_of_methodNamed B.named
  have hlocks := B.notSynchronized
  have hl := lv_entry ([.int x, .int d]) (n := 2) (Nat.le_of_ble_eq_true rfl)
  rw [lg_entry_eq]
  generalize (lg_sl ([.int x, .int d]) ++ List.replicate (2 - (lg_sl ([.int x, .int d])).length) Slot.unset).toArray = ls at hl ⊢
  have hl : lv_has ls 2 [(0, .int x), (1, .int d)] := hl
  refine lv_iload_n hx hb dX5_rotateLeft_0 rfl (lv_at hl 0 rfl) ?_
  refine lv_iload_n hx hb dX5_rotateLeft_1 rfl (lv_at hl 1 rfl) ?_
  refine vp_callSi (W.runS (As := [.int x, .int d]) (rest := []) ⟨hx, hb, hml, hown, hts⟩ (metJ4_rotateLeft l x d) (va_cwS 2 hts (lw_S q164 q165 q15 q166) rfl rfl rfl (by decide +kernel) ⟨Nat.le_of_ble_eq_true rfl, Nat.le_of_ble_eq_true rfl⟩) ⟨fun a U g mk q => q, fun U hU hW => ⟨rfl, trivial⟩⟩ rfl rfl hl.1 rfl (lv_room (Nat.le_of_ble_eq_true rfl)) dX5_rotateLeft_2 ⟨Nat.le_of_ble_eq_true rfl, Nat.le_of_ble_eq_true rfl⟩) (fun r_1 er_1 => ?_)
  exact W.iret (v := r_1) hx hb hr (fun t ht hW => ⟨_, rfl, er_1, ht⟩) (fun _ h => by cases h) dX5_rotateLeft_5
set_option maxHeartbeats 4000000 in
set_option maxRecDepth 100000 in
theorem metX4_bigEndianToInt_2 (l : Launch) (G : va_G) (cb cI : ClassId) (b n : Nat) (f : Nat → Int32) (x : Int32) (k : Nat) (ek : x = nI k) (hk : k + 4 ≤ n) (hn : n < 2 ^ 31) : Met l yX4_bigEndianToInt_2 wsX4_bigEndianToInt_2 ({ frames := 0, cells := 0, slots := 0, locals := 0 }) (pcR [.ref b, .int x] G cb cI [(b, .inl (cb, n, .inl f))] tru) (vp_Si (fun r => r = nk_wd f k)) 0 0 (fun _ => False) := by
  refine Met.ofW (cc := cX4_bigEndianToInt_2) (maxL := 3) (ret := (some .int)) (by decide) rfl ?_
  intro p e s m args below meth c s₁ B hml hv
  obtain ⟨rfl, hP, hK, hE⟩ := hv
  have hx := B.exec
  have hb := B.bytes
  have hr := B.returns
  have hts := atoms_spec (ws := wsX4_bigEndianToInt_2) B.pre
  have hts : ∀ w ∈ lw_all, w.before _ s = true := fun w h => hts w (List.mem_cons_of_mem _ h)
  have hown : s.vm.findClass RX4 = some m.cls := findClass_of_methodNamed B.named
  have hlocks := B.notSynchronized
  have hl := lv_entry ([.ref b, .int x]) (n := 3) (Nat.le_of_ble_eq_true rfl)
  rw [lg_entry_eq]
  generalize (lg_sl ([.ref b, .int x]) ++ List.replicate (3 - (lg_sl ([.ref b, .int x])).length) Slot.unset).toArray = ls at hl ⊢
  have hl : lv_has ls 3 [(0, .ref b), (1, .int x)] := hl
  refine lv_aload_n hx hb dX4_bigEndianToInt_2_0 rfl (lv_at hl 0 rfl) ?_
  refine lv_iload_n hx hb dX4_bigEndianToInt_2_1 rfl (lv_at hl 1 rfl) ?_
  refine va_bald hx hb hK hP 0 0 rfl rfl (by rw [ek]; exact vp_in_nI (by omega) hn) dX4_bigEndianToInt_2_2 ?_
  refine lv_topi (fun z_1 ez_1 => ?_)
  have f0 : z_1 = f (k + 0) := by rw [ez_1, ek, nI_clamp (by omega)]; rfl
  refine lv_bipush (v := 24) hx hb dX4_bigEndianToInt_2_3 (by decide) ?_
  refine lv_ishl hx hb dX4_bigEndianToInt_2_5 ?_
  refine lv_topi (fun x2_2 ex2_2 => ?_)
  refine lv_istore_n (lv' := [(2, .int x2_2), (0, .ref b), (1, .int x)]) hx hb dX4_bigEndianToInt_2_6 rfl hl (by decide) rfl (fun ls hl => ?_)
  refine lv_iload_n hx hb dX4_bigEndianToInt_2_7 rfl (lv_at hl 0 rfl) ?_
  refine lv_aload_n hx hb dX4_bigEndianToInt_2_8 rfl (lv_at hl 1 rfl) ?_
  obtain ⟨x1_3, ex1_3⟩ : ∃ y : Int32, y = x + Int32.ofInt 1 := ⟨_, rfl⟩
  refine lv_iinc (v := x1_3) (lv' := [(1, .int x1_3), (2, .int x2_2), (0, .ref b)]) hx hb dX4_bigEndianToInt_2_9 hl (k := 2) rfl ex1_3.symm (by decide) rfl (fun ls hl => ?_)
  have i1 : x1_3 = nI (k + 1) := by rw [ex1_3, ek, nI_i1]
  refine lv_iload_n hx hb dX4_bigEndianToInt_2_12 rfl (lv_at hl 0 rfl) ?_
  refine va_bald hx hb hK hP 0 0 rfl rfl (by rw [i1]; exact vp_in_nI (by omega) hn) dX4_bigEndianToInt_2_13 ?_
  refine lv_topi (fun z_4 ez_4 => ?_)
  have f1 : z_4 = f (k + 1) := by rw [ez_4, i1, nI_clamp (by omega)]
  refine lv_sipush (v := 255) hx hb dX4_bigEndianToInt_2_14 (by decide) ?_
  refine lv_iand hx hb dX4_bigEndianToInt_2_17 ?_
  refine lv_bipush (v := 16) hx hb dX4_bigEndianToInt_2_18 (by decide) ?_
  refine lv_ishl hx hb dX4_bigEndianToInt_2_20 ?_
  refine lv_ior hx hb dX4_bigEndianToInt_2_21 ?_
  refine lv_topi (fun x2_5 ex2_5 => ?_)
  refine lv_istore_n (lv' := [(2, .int x2_5), (1, .int x1_3), (0, .ref b)]) hx hb dX4_bigEndianToInt_2_22 rfl hl (by decide) rfl (fun ls hl => ?_)
  refine lv_iload_n hx hb dX4_bigEndianToInt_2_23 rfl (lv_at hl 0 rfl) ?_
  refine lv_aload_n hx hb dX4_bigEndianToInt_2_24 rfl (lv_at hl 2 rfl) ?_
  obtain ⟨x1_6, ex1_6⟩ : ∃ y : Int32, y = x1_3 + Int32.ofInt 1 := ⟨_, rfl⟩
  refine lv_iinc (v := x1_6) (lv' := [(1, .int x1_6), (2, .int x2_5), (0, .ref b)]) hx hb dX4_bigEndianToInt_2_25 hl (k := 1) rfl ex1_6.symm (by decide) rfl (fun ls hl => ?_)
  have i2 : x1_6 = nI (k + 2) := by rw [ex1_6, i1, nI_i1]
  refine lv_iload_n hx hb dX4_bigEndianToInt_2_28 rfl (lv_at hl 0 rfl) ?_
  refine va_bald hx hb hK hP 0 0 rfl rfl (by rw [i2]; exact vp_in_nI (by omega) hn) dX4_bigEndianToInt_2_29 ?_
  refine lv_topi (fun z_7 ez_7 => ?_)
  have f2 : z_7 = f (k + 2) := by rw [ez_7, i2, nI_clamp (by omega)]
  refine lv_sipush (v := 255) hx hb dX4_bigEndianToInt_2_30 (by decide) ?_
  refine lv_iand hx hb dX4_bigEndianToInt_2_33 ?_
  refine lv_bipush (v := 8) hx hb dX4_bigEndianToInt_2_34 (by decide) ?_
  refine lv_ishl hx hb dX4_bigEndianToInt_2_36 ?_
  refine lv_ior hx hb dX4_bigEndianToInt_2_37 ?_
  refine lv_topi (fun x2_8 ex2_8 => ?_)
  refine lv_istore_n (lv' := [(2, .int x2_8), (1, .int x1_6), (0, .ref b)]) hx hb dX4_bigEndianToInt_2_38 rfl hl (by decide) rfl (fun ls hl => ?_)
  refine lv_iload_n hx hb dX4_bigEndianToInt_2_39 rfl (lv_at hl 0 rfl) ?_
  refine lv_aload_n hx hb dX4_bigEndianToInt_2_40 rfl (lv_at hl 2 rfl) ?_
  obtain ⟨x1_9, ex1_9⟩ : ∃ y : Int32, y = x1_6 + Int32.ofInt 1 := ⟨_, rfl⟩
  refine lv_iinc (v := x1_9) (lv' := [(1, .int x1_9), (2, .int x2_8), (0, .ref b)]) hx hb dX4_bigEndianToInt_2_41 hl (k := 1) rfl ex1_9.symm (by decide) rfl (fun ls hl => ?_)
  have i3 : x1_9 = nI (k + 3) := by rw [ex1_9, i2, nI_i1]
  refine lv_iload_n hx hb dX4_bigEndianToInt_2_44 rfl (lv_at hl 0 rfl) ?_
  refine va_bald hx hb hK hP 0 0 rfl rfl (by rw [i3]; exact vp_in_nI (by omega) hn) dX4_bigEndianToInt_2_45 ?_
  refine lv_topi (fun z_10 ez_10 => ?_)
  have f3 : z_10 = f (k + 3) := by rw [ez_10, i3, nI_clamp (by omega)]
  refine lv_sipush (v := 255) hx hb dX4_bigEndianToInt_2_46 (by decide) ?_
  refine lv_iand hx hb dX4_bigEndianToInt_2_49 ?_
  refine lv_ior hx hb dX4_bigEndianToInt_2_50 ?_
  refine lv_topi (fun x2_11 ex2_11 => ?_)
  refine lv_istore_n (lv' := [(2, .int x2_11), (1, .int x1_9), (0, .ref b)]) hx hb dX4_bigEndianToInt_2_51 rfl hl (by decide) rfl (fun ls hl => ?_)
  refine lv_iload_n hx hb dX4_bigEndianToInt_2_52 rfl (lv_at hl 0 rfl) ?_
  have er : x2_11 = nk_wd f k := by
    rw [ex2_11, ex2_8, ex2_5, ex2_2, f0, f1, f2, f3]
    rfl
  exact W.iret (v := x2_11) hx hb hr (fun t ht hW => ⟨_, rfl, er, ht⟩) (fun _ h => by cases h) dX4_bigEndianToInt_2_53
set_option maxHeartbeats 4000000 in
set_option maxRecDepth 100000 in
theorem metX4_intToBigEndian (l : Launch) (G : va_G) (cb cI : ClassId) (b n : Nat) (f : Nat → Int32) (v x : Int32) (k : Nat) (ek : x = nI k) (hk : k + 4 ≤ n) (hn : n < 2 ^ 31) (sz : Nat) : Met l yX4_intToBigEndian wsX4_intToBigEndian ({ frames := 0, cells := 0, slots := 0, locals := 0 }) (pcW [.int v, .ref b, .int x] G cb cI [(b, .inl (cb, n, .inl f))] sz tru) (qcV (fun u : Nat → Int32 => nk_wd u k = v ∧ nk_frm u f k) G (fun u => [(b, .inl (cb, n, .inl u))]) (va_A [(b, .inl (cb, n, .inl f))] sz)) 0 0 (va_A [(b, .inl (cb, n, .inl f))] sz) := by
  refine Met.ofW (cc := cX4_intToBigEndian) (maxL := 3) (ret := none) (by decide) rfl ?_
  intro p e s m args below meth c s₁ B hml hv
  obtain ⟨rfl, hsz, hP, hK, hD0, hE⟩ := hv
  have hx := B.exec
  have hb := B.bytes
  have hr := B.returns
  have hts := atoms_spec (ws := wsX4_intToBigEndian) B.pre
  have hts : ∀ w ∈ lw_all, w.before _ s = true := fun w h => hts w (List.mem_cons_of_mem _ h)
  have hown : s.vm.findClass RX4 = some m.cls := findClass_of_methodNamed B.named
  have hlocks := B.notSynchronized
  subst hsz
  have hD := hD0.self (sz := s.heap.size)
  generalize hAe : va_A [(b, .inl (cb, n, .inl f))] s.heap.size = A at hD ⊢
  have hA : ∀ q : Nat, s.heap.size ≤ q → A q := fun q h => by rw [← hAe]; exact Or.inr h
  have hS : va_S A s.heap s.heap [] := va_S.rf
  have hP : va_P G vwCl [(b, .inl (cb, n, .inl f))] s.heap := hP
  have hl := lv_entry ([.int v, .ref b, .int x]) (n := 3) (Nat.le_of_ble_eq_true rfl)
  rw [lg_entry_eq]
  generalize (lg_sl ([.int v, .ref b, .int x]) ++ List.replicate (3 - (lg_sl ([.int v, .ref b, .int x])).length) Slot.unset).toArray = ls at hl ⊢
  have hl : lv_has ls 3 [(0, .int v), (1, .ref b), (2, .int x)] := hl
  refine lv_aload_n hx hb dX4_intToBigEndian_0 rfl (lv_at hl 1 rfl) ?_
  refine lv_iload_n hx hb dX4_intToBigEndian_1 rfl (lv_at hl 2 rfl) ?_
  refine lv_iload_n hx hb dX4_intToBigEndian_2 rfl (lv_at hl 0 rfl) ?_
  refine lv_bipush (v := 24) hx hb dX4_intToBigEndian_3 (by decide) ?_
  refine lv_iushr (v := (nk_ushr v 24)) hx hb dX4_intToBigEndian_5 rfl ?_
  refine lv_i2b (v := (nk_tb (nk_ushr v 24))) hx hb dX4_intToBigEndian_6 rfl ?_
  have c0 : x.toNatClampNeg = k + 0 := by rw [ek, nI_clamp (by omega)]; rfl
  have c0 : x.toNatClampNeg = k := c0
  refine va_bast hx hb hK hP hD hS 0 0 rfl rfl (by rw [ek]; exact vp_in_nI (by omega) hn) dX4_intToBigEndian_7 (fun H locs hP hD hS => ?_)
  rw [c0] at hP hD
  have hP : va_P G vwCl [(b, .inl (cb, n, .inl (upd f (k) (vp_nar .byte (nk_tb (nk_ushr v 24))))))] H := hP
  have hD : va_D A [(b, .inl (cb, n, .inl (upd f (k) (vp_nar .byte (nk_tb (nk_ushr v 24))))))] := hD
  refine lv_aload_n hx hb dX4_intToBigEndian_8 rfl (lv_at hl 1 rfl) ?_
  obtain ⟨x2_1, ex2_1⟩ : ∃ y : Int32, y = x + Int32.ofInt 1 := ⟨_, rfl⟩
  refine lv_iinc (v := x2_1) (lv' := [(2, .int x2_1), (0, .int v), (1, .ref b)]) hx hb dX4_intToBigEndian_9 hl (k := 2) rfl ex2_1.symm (by decide) rfl (fun ls hl => ?_)
  have i1 : x2_1 = nI (k + 1) := by rw [ex2_1, ek, nI_i1]
  refine lv_iload_n hx hb dX4_intToBigEndian_12 rfl (lv_at hl 0 rfl) ?_
  refine lv_iload_n hx hb dX4_intToBigEndian_13 rfl (lv_at hl 1 rfl) ?_
  refine lv_bipush (v := 16) hx hb dX4_intToBigEndian_14 (by decide) ?_
  refine lv_iushr (v := (nk_ushr v 16)) hx hb dX4_intToBigEndian_16 rfl ?_
  refine lv_i2b (v := (nk_tb (nk_ushr v 16))) hx hb dX4_intToBigEndian_17 rfl ?_
  have c1 : x2_1.toNatClampNeg = k + 1 := by rw [i1, nI_clamp (by omega)]
  refine va_bast hx hb hK hP hD hS 0 0 rfl rfl (by rw [i1]; exact vp_in_nI (by omega) hn) dX4_intToBigEndian_18 (fun H locs hP hD hS => ?_)
  rw [c1] at hP hD
  have hP : va_P G vwCl [(b, .inl (cb, n, .inl (upd (upd f (k) (vp_nar .byte (nk_tb (nk_ushr v 24)))) (k + 1) (vp_nar .byte (nk_tb (nk_ushr v 16))))))] H := hP
  have hD : va_D A [(b, .inl (cb, n, .inl (upd (upd f (k) (vp_nar .byte (nk_tb (nk_ushr v 24)))) (k + 1) (vp_nar .byte (nk_tb (nk_ushr v 16))))))] := hD
  refine lv_aload_n hx hb dX4_intToBigEndian_19 rfl (lv_at hl 2 rfl) ?_
  obtain ⟨x2_2, ex2_2⟩ : ∃ y : Int32, y = x2_1 + Int32.ofInt 1 := ⟨_, rfl⟩
  refine lv_iinc (v := x2_2) (lv' := [(2, .int x2_2), (0, .int v), (1, .ref b)]) hx hb dX4_intToBigEndian_20 hl (k := 0) rfl ex2_2.symm (by decide) rfl (fun ls hl => ?_)
  have i2 : x2_2 = nI (k + 2) := by rw [ex2_2, i1, nI_i1]
  refine lv_iload_n hx hb dX4_intToBigEndian_23 rfl (lv_at hl 0 rfl) ?_
  refine lv_iload_n hx hb dX4_intToBigEndian_24 rfl (lv_at hl 1 rfl) ?_
  refine lv_bipush (v := 8) hx hb dX4_intToBigEndian_25 (by decide) ?_
  refine lv_iushr (v := (nk_ushr v 8)) hx hb dX4_intToBigEndian_27 rfl ?_
  refine lv_i2b (v := (nk_tb (nk_ushr v 8))) hx hb dX4_intToBigEndian_28 rfl ?_
  have c2 : x2_2.toNatClampNeg = k + 2 := by rw [i2, nI_clamp (by omega)]
  refine va_bast hx hb hK hP hD hS 0 0 rfl rfl (by rw [i2]; exact vp_in_nI (by omega) hn) dX4_intToBigEndian_29 (fun H locs hP hD hS => ?_)
  rw [c2] at hP hD
  have hP : va_P G vwCl [(b, .inl (cb, n, .inl (upd (upd (upd f (k) (vp_nar .byte (nk_tb (nk_ushr v 24)))) (k + 1) (vp_nar .byte (nk_tb (nk_ushr v 16)))) (k + 2) (vp_nar .byte (nk_tb (nk_ushr v 8))))))] H := hP
  have hD : va_D A [(b, .inl (cb, n, .inl (upd (upd (upd f (k) (vp_nar .byte (nk_tb (nk_ushr v 24)))) (k + 1) (vp_nar .byte (nk_tb (nk_ushr v 16)))) (k + 2) (vp_nar .byte (nk_tb (nk_ushr v 8))))))] := hD
  refine lv_aload_n hx hb dX4_intToBigEndian_30 rfl (lv_at hl 2 rfl) ?_
  obtain ⟨x2_3, ex2_3⟩ : ∃ y : Int32, y = x2_2 + Int32.ofInt 1 := ⟨_, rfl⟩
  refine lv_iinc (v := x2_3) (lv' := [(2, .int x2_3), (0, .int v), (1, .ref b)]) hx hb dX4_intToBigEndian_31 hl (k := 0) rfl ex2_3.symm (by decide) rfl (fun ls hl => ?_)
  have i3 : x2_3 = nI (k + 3) := by rw [ex2_3, i2, nI_i1]
  refine lv_iload_n hx hb dX4_intToBigEndian_34 rfl (lv_at hl 0 rfl) ?_
  refine lv_iload_n hx hb dX4_intToBigEndian_35 rfl (lv_at hl 1 rfl) ?_
  refine lv_i2b (v := (nk_tb v)) hx hb dX4_intToBigEndian_36 rfl ?_
  have c3 : x2_3.toNatClampNeg = k + 3 := by rw [i3, nI_clamp (by omega)]
  refine va_bast hx hb hK hP hD hS 0 0 rfl rfl (by rw [i3]; exact vp_in_nI (by omega) hn) dX4_intToBigEndian_37 (fun H locs hP hD hS => ?_)
  rw [c3] at hP hD
  have hP : va_P G vwCl [(b, .inl (cb, n, .inl (upd (upd (upd (upd f (k) (vp_nar .byte (nk_tb (nk_ushr v 24)))) (k + 1) (vp_nar .byte (nk_tb (nk_ushr v 16)))) (k + 2) (vp_nar .byte (nk_tb (nk_ushr v 8)))) (k + 3) (vp_nar .byte (nk_tb v)))))] H := hP
  have hD : va_D A [(b, .inl (cb, n, .inl (upd (upd (upd (upd f (k) (vp_nar .byte (nk_tb (nk_ushr v 24)))) (k + 1) (vp_nar .byte (nk_tb (nk_ushr v 16)))) (k + 2) (vp_nar .byte (nk_tb (nk_ushr v 8)))) (k + 3) (vp_nar .byte (nk_tb v)))))] := hD
  have hw : (upd (upd (upd (upd f (k) (vp_nar .byte (nk_tb (nk_ushr v 24)))) (k + 1) (vp_nar .byte (nk_tb (nk_ushr v 16)))) (k + 2) (vp_nar .byte (nk_tb (nk_ushr v 8)))) (k + 3) (vp_nar .byte (nk_tb v))) = wr4 f k (vp_nar .byte (nk_tb (nk_ushr v 24))) (vp_nar .byte (nk_tb (nk_ushr v 16))) (vp_nar .byte (nk_tb (nk_ushr v 8))) (vp_nar .byte (nk_tb v)) := rfl
  rw [hw] at hP hD
  exact W.vret hx hb hr (fun t ht hW => ⟨⟨_, rfl, ⟨wd_wru f k v, fun j h => wr4_n f k _ _ _ _ j h⟩, by rw [ht]; exact hP, hD⟩, hS.F ht⟩) hS.2.2 dX4_intToBigEndian_38
set_option maxHeartbeats 4000000 in
set_option maxRecDepth 100000 in
/-- the loop at its head: i words read -/
theorem loopX4_bigEndianToInt {p : Program} {l : Launch} {e : Env} {s : State} {m : MethodId} {below : List Frame} {meth : Method} {c : Code} {G : va_G} {cb cI : ClassId} {A : Nat → Prop} {b q : Nat} {f : Nat → Int32} {sarg : Array Value} (hx : p.tables.exec = Jvm.exec) (hb : c.code = cX4_bigEndianToInt) (hr : meth.sig.returnType = none) (hlocks : meth.locks = false) (hml : c.maxLocals = 6) (hown : s.vm.findClass RX4 = some m.cls) (hts : ∀ w ∈ lw_all, w.before sarg s = true) (hA : ∀ q : Nat, s.heap.size ≤ q → A q) (hK : va_K G vwCl [(cb, .byte), (cI, .int)] s) :
    ∀ (n i : Nat) (x1 x5 : Int32) (h : Nat → Int32), i ≤ 4 → 5 ≤ i + n → x1 = nI (4 * i) → x5 = nI i → (∀ j, j < i → h j = nk_wd f (4 * j)) → ∀ (H : Heap) (locs : List Loc), va_P G vwCl [(b, .inl (cb, 16, .inl f)), (q, .inl (cI, 4, .inl h))] H → va_D A [(b, .inl (cb, 16, .inl f)), (q, .inl (cI, 4, .inl h))] → va_S A s.heap H locs → ∀ (ls : Array Slot), lv_has ls 6 [(0, .ref b), (1, .int x1), (2, .ref q), (3, .int 0), (4, .int 4), (5, .int x5)] → W p l e (headSpec wsX4_bigEndianToInt ({ frames := 1, cells := 0, slots := 0, locals := 22 })).room s m sarg below meth c H locs 0 0 (MQ below (qcV (fun u : Nat → Int32 => ∀ j, j < 4 → u j = nk_wd f (4 * j)) G (fun u => [(b, .inl (cb, 16, .inl f)), (q, .inl (cI, 4, .inl u))]) A) sarg s 0 0 A) (F0 m 3 ls []) := by
  intro n
  induction n with
  | zero =>
    intro i x1 x5 h h1 h2
    exact absurd h2 (by omega)
  | succ n ih =>
    intro i x1 x5 h hi hin e1 e5 hh H locs hP hD hS ls hl
    refine lv_iload hx hb dX4_bigEndianToInt_3 (lv_at hl 5 rfl) ?_
    refine lv_iload hx hb dX4_bigEndianToInt_5 (lv_at hl 4 rfl) ?_
    refine lv_icmp_ge (tgt := 30) hx hb dX4_bigEndianToInt_7 (by decide) (fun c9 => ?_) (fun c9 => ?_)
    · have h4 : i = 4 := by
        rcases Nat.lt_or_ge i 4 with z | z
        · exact absurd (show nI 4 ≤ nI i by rw [← e5]; exact c9) (nI_ge z (by omega))
        · omega
      subst h4
      exact W.vret hx hb hr (fun t ht hW => ⟨⟨h, rfl, hh, by rw [ht]; exact hP, hD⟩, hS.F ht⟩) hS.2.2 dX4_bigEndianToInt_30
    · have hlt : i < 4 := by
        rcases Nat.lt_or_ge i 4 with z | z
        · exact z
        · exact absurd (show nI 4 ≤ x5 by rw [e5]; exact nI_le z (by omega)) c9
      refine lv_aload_n hx hb dX4_bigEndianToInt_10 rfl (lv_at hl 2 rfl) ?_
      refine lv_iload_n hx hb dX4_bigEndianToInt_11 rfl (lv_at hl 3 rfl) ?_
      refine lv_iload hx hb dX4_bigEndianToInt_12 (lv_at hl 5 rfl) ?_
      refine lv_iadd hx hb dX4_bigEndianToInt_14 ?_
      refine lv_aload_n hx hb dX4_bigEndianToInt_15 rfl (lv_at hl 0 rfl) ?_
      refine lv_iload_n hx hb dX4_bigEndianToInt_16 rfl (lv_at hl 1 rfl) ?_
      have hPc := hP.sub (ws' := [(b, .inl (cb, 16, .inl f))]) [0] rfl
      refine vp_callSi (W.runS (As := [.ref b, .int x1]) (rest := [.int (0 + x5), .ref q]) ⟨hx, hb, hml, hown, hts⟩ (metX4_bigEndianToInt_2 l G cb cI b 16 f x1 (4 * i) e1 (by omega) (by omega)) (va_cwS 2 hts (lw_S q158 q159 q13 q160) rfl rfl rfl (by decide +kernel) ⟨Nat.le_of_ble_eq_true rfl, Nat.le_of_ble_eq_true rfl⟩) (preR_S hPc hK tru_in) rfl rfl hl.1 rfl (lv_room (Nat.le_of_ble_eq_true rfl)) dX4_bigEndianToInt_17 ⟨Nat.le_of_ble_eq_true rfl, Nat.le_of_ble_eq_true rfl⟩) (fun r_1 er_1 => ?_)
      have i3 : (0 : Int32) + x5 = nI i := by rw [e5]; exact (nI_add 0 i).trans (by rw [Nat.zero_add])
      have c3 : ((0 : Int32) + x5).toNatClampNeg = i := by rw [i3, nI_clamp (by omega)]
      refine va_iast hx hb hK hP hD hS 1 1 rfl rfl (by rw [i3]; exact vp_in_nI hlt (by omega)) dX4_bigEndianToInt_20 (fun H locs hP hD hS => ?_)
      rw [c3] at hP hD
      have hP : va_P G vwCl [(b, .inl (cb, 16, .inl f)), (q, .inl (cI, 4, .inl (upd h (i) r_1)))] H := hP
      have hD : va_D A [(b, .inl (cb, 16, .inl f)), (q, .inl (cI, 4, .inl (upd h (i) r_1)))] := hD
      obtain ⟨x1_2, ex1_2⟩ : ∃ y : Int32, y = x1 + Int32.ofInt 4 := ⟨_, rfl⟩
      refine lv_iinc (v := x1_2) (lv' := [(1, .int x1_2), (0, .ref b), (2, .ref q), (3, .int 0), (4, .int 4), (5, .int x5)]) hx hb dX4_bigEndianToInt_21 hl (k := 1) rfl ex1_2.symm (by decide) rfl (fun ls hl => ?_)
      obtain ⟨x5_3, ex5_3⟩ : ∃ y : Int32, y = x5 + Int32.ofInt 1 := ⟨_, rfl⟩
      refine lv_iinc (v := x5_3) (lv' := [(5, .int x5_3), (1, .int x1_2), (0, .ref b), (2, .ref q), (3, .int 0), (4, .int 4)]) hx hb dX4_bigEndianToInt_24 hl (k := 5) rfl ex5_3.symm (by decide) rfl (fun ls hl => ?_)
      refine lv_goto (tgt := 3) hx hb dX4_bigEndianToInt_27 (by decide) ?_
      exact ih (i + 1) x1_2 x5_3 (upd h (i) r_1) hlt (by omega) (by rw [ex1_2, e1, nI_i4, show 4 * (i + 1) = 4 * i + 4 by omega]) (by rw [ex5_3, e5, nI_i1]) (fun j hj => by
        by_cases z : j = i
        · subst z; simp only [upd, if_true]; exact er_1
        · simp only [upd, if_neg z]; exact hh j (by omega)) _ _ hP hD hS ls (lv_sub hl [2, 1, 3, 4, 5, 0] rfl)
set_option maxHeartbeats 4000000 in
set_option maxRecDepth 100000 in
theorem metX4_bigEndianToInt (l : Launch) (G : va_G) (cb cI : ClassId) (b q : Nat) (f h : Nat → Int32) (sz : Nat) : Met l yX4_bigEndianToInt wsX4_bigEndianToInt ({ frames := 1, cells := 0, slots := 0, locals := 22 }) (pcW [.ref b, .int 0, .ref q, .int 0, .int 4] G cb cI [(b, .inl (cb, 16, .inl f)), (q, .inl (cI, 4, .inl h))] sz tru) (qcV (fun u : Nat → Int32 => ∀ j, j < 4 → u j = nk_wd f (4 * j)) G (fun u => [(b, .inl (cb, 16, .inl f)), (q, .inl (cI, 4, .inl u))]) (va_A [(b, .inl (cb, 16, .inl f)), (q, .inl (cI, 4, .inl h))] sz)) 0 0 (va_A [(b, .inl (cb, 16, .inl f)), (q, .inl (cI, 4, .inl h))] sz) := by
  refine Met.ofW (cc := cX4_bigEndianToInt) (maxL := 6) (ret := none) (by decide) rfl ?_
  intro p e s m args below meth c s₁ B hml hv
  obtain ⟨rfl, hsz, hP, hK, hD0, hE⟩ := hv
  have hx := B.exec
  have hb := B.bytes
  have hr := B.returns
  have hts := atoms_spec (ws := wsX4_bigEndianToInt) B.pre
  have hts : ∀ w ∈ lw_all, w.before _ s = true := fun w h => hts w (List.mem_cons_of_mem _ h)
  have hown : s.vm.findClass RX4 = some m.cls := findClass_of_methodNamed B.named
  have hlocks := B.notSynchronized
  subst hsz
  have hD := hD0.self (sz := s.heap.size)
  generalize hAe : va_A [(b, .inl (cb, 16, .inl f)), (q, .inl (cI, 4, .inl h))] s.heap.size = A at hD ⊢
  have hA : ∀ q : Nat, s.heap.size ≤ q → A q := fun q h => by rw [← hAe]; exact Or.inr h
  have hS : va_S A s.heap s.heap [] := va_S.rf
  have hP : va_P G vwCl [(b, .inl (cb, 16, .inl f)), (q, .inl (cI, 4, .inl h))] s.heap := hP
  have hl := lv_entry ([.ref b, .int 0, .ref q, .int 0, .int 4]) (n := 6) (Nat.le_of_ble_eq_true rfl)
  rw [lg_entry_eq]
  generalize (lg_sl ([.ref b, .int 0, .ref q, .int 0, .int 4]) ++ List.replicate (6 - (lg_sl ([.ref b, .int 0, .ref q, .int 0, .int 4])).length) Slot.unset).toArray = ls at hl ⊢
  have hl : lv_has ls 6 [(0, .ref b), (1, .int 0), (2, .ref q), (3, .int 0), (4, .int 4)] := hl
  refine lv_iconst (v := 0) hx hb dX4_bigEndianToInt_0 (by decide) ?_
  refine lv_istore (lv' := [(5, .int 0), (0, .ref b), (1, .int 0), (2, .ref q), (3, .int 0), (4, .int 4)]) hx hb dX4_bigEndianToInt_1 hl (by decide) rfl (fun ls hl => ?_)
  exact loopX4_bigEndianToInt hx hb hr hlocks hml hown hts hA hK 5 0 0 0 h (by omega) (by omega) rfl rfl (fun j hj => absurd hj (by omega)) _ _ hP hD hS ls (lv_sub hl [1, 2, 3, 4, 5, 0] rfl)
set_option maxHeartbeats 4000000 in
set_option maxRecDepth 100000 in
theorem metX3_init_3 (l : Launch) (G : va_G) (cb cI : ClassId) (kp : Nat) (sz : Nat) : Met l yX3_init_3 wsX3_init_3 ({ frames := 1, cells := 1, slots := 16, locals := 12 }) (pcW [.ref kp, .int 16] G cb cI [(kp, .inr (2, [.null]))] sz tru) (qcV (fun _ : Nat => True) G (fun u => [(kp, .inr (2, [.ref u])), (u, .inl (cb, 16, .inl (fun _ => 0)))]) (va_A [(kp, .inr (2, [.null]))] sz)) 1 16 (va_A [(kp, .inr (2, [.null]))] sz) := by
  refine Met.ofW (cc := cX3_init_3) (maxL := 2) (ret := none) (by decide) rfl ?_
  intro p e s m args below meth c s₁ B hml hv
  obtain ⟨rfl, hsz, hP, hK, hD0, hE⟩ := hv
  have hx := B.exec
  have hb := B.bytes
  have hr := B.returns
  have hts := atoms_spec (ws := wsX3_init_3) B.pre
  have hts : ∀ w ∈ lw_all, w.before _ s = true := fun w h => hts w (List.mem_cons_of_mem _ h)
  have hown : s.vm.findClass RX3 = some m.cls := findClass_of_methodNamed B.named
  have hlocks := B.notSynchronized
  have hin : meth.name = "<init>" := (name_of_methodNamed B.named B.method).1
  subst hsz
  have hD := hD0.self (sz := s.heap.size)
  generalize hAe : va_A [(kp, .inr (2, [.null]))] s.heap.size = A at hD ⊢
  have hA : ∀ q : Nat, s.heap.size ≤ q → A q := fun q h => by rw [← hAe]; exact Or.inr h
  have hS : va_S A s.heap s.heap [] := va_S.rf
  have hP : va_P G vwCl [(kp, .inr (2, [.null]))] s.heap := hP
  have hl := lv_entry ([.ref kp, .int 16]) (n := 2) (Nat.le_of_ble_eq_true rfl)
  rw [lg_entry_eq]
  generalize (lg_sl ([.ref kp, .int 16]) ++ List.replicate (2 - (lg_sl ([.ref kp, .int 16])).length) Slot.unset).toArray = ls at hl ⊢
  have hl : lv_has ls 2 [(0, .ref kp), (1, .int 16)] := hl
  refine lv_aload_n hx hb dX3_init_3_0 rfl (lv_at hl 0 rfl) ?_
  refine W.objInit hx hb hown (hts _ q63) (hts _ q38) (hts _ q39) rfl (by rw [hml]; exact hl.1) rfl dX3_init_3_1 (Nat.le_of_ble_eq_true rfl) (Nat.le_of_ble_eq_true rfl) ?_
  refine W.eq (g2 := F0 m 4 ls []) rfl ?_
  refine lv_aload_n hx hb dX3_init_3_4 rfl (lv_at hl 0 rfl) ?_
  refine lv_iload_n hx hb dX3_init_3_5 rfl (lv_at hl 1 rfl) ?_
  refine va_newa (atype := .byte) (ty := .byte) (a0 := (16, .inl (fun _ => 0))) (N' := 16) hx hb (hts _ q50) rfl hK hP hD hS hA (fun _ => rfl) (by decide) (by decide) (Nat.le_of_ble_eq_true rfl) (Nat.le_of_ble_eq_true rfl) (Nat.le_of_ble_eq_true rfl) dX3_init_3_6 (fun qa_1 cA H hK hP hD hS => ?_)
  have hcA : cb = cA := kb_eq hK
  subst hcA
  have hK := hK.sub (tys' := [(cb, .byte), (cI, .int)]) [0, 1] rfl
  have hP : va_P G vwCl [(kp, .inr (2, [.null])), (qa_1, .inl (cb, 16, .inl (fun _ => 0)))] H := hP
  have hD : va_D A [(kp, .inr (2, [.null])), (qa_1, .inl (cb, 16, .inl (fun _ => 0)))] := hD
  refine W.widen (k := 1) (n := 16) (by omega) (by omega) ?_
  refine va_put (D := G) (ci := 2) (v := .ref qa_1) (ty := .array .byte) (C := RX3) (T := TX3) (N := 1) hx hb hts in_X3 tyX3 tyX3_ok nmX3 hown hK hP hD hS 0 rfl rfl 0 (by decide) (hts _ q64) (fun _ h9 => h9) rfl (by decide +kernel) rfl rfl (Nat.le_of_ble_eq_true rfl) dX3_init_3_8 (fun H locs hP hD hS => ?_)
  have hP : va_P G vwCl [(kp, .inr (2, [.ref qa_1])), (qa_1, .inl (cb, 16, .inl (fun _ => 0)))] H := hP
  have hD : va_D A [(kp, .inr (2, [.ref qa_1])), (qa_1, .inl (cb, 16, .inl (fun _ => 0)))] := hD
  exact W.vret hx hb hr (fun t ht hW => ⟨⟨qa_1, rfl, trivial, by rw [ht]; exact hP, hD⟩, hS.F ht⟩) hS.2.2 dX3_init_3_11
set_option maxHeartbeats 4000000 in
set_option maxRecDepth 100000 in
theorem metX3_init_2 (l : Launch) (G : va_G) (cb cI : ClassId) (kp b : Nat) (f : Nat → Int32) (hf : ∀ j, j < 16 → fits .byte (.int (f j)) = true) (sz : Nat) : Met l yX3_init_2 wsX3_init_2 ({ frames := 2, cells := 1, slots := 16, locals := 33 }) (pcW [.ref kp, .ref b, .int 0, .int 16] G cb cI [(kp, .inr (2, [.null])), (b, .inl (cb, 16, .inl f))] sz tru) (qcV (fun u : Nat × (Nat → Int32) => ∀ j, j < 16 → u.2 j = f j) G (fun u => [(kp, .inr (2, [.ref u.1])), (u.1, .inl (cb, 16, .inl u.2)), (b, .inl (cb, 16, .inl f))]) (va_A [(kp, .inr (2, [.null])), (b, .inl (cb, 16, .inl f))] sz)) 1 16 (va_A [(kp, .inr (2, [.null])), (b, .inl (cb, 16, .inl f))] sz) := by
  refine Met.ofW (cc := cX3_init_2) (maxL := 4) (ret := none) (by decide) rfl ?_
  intro p e s m args below meth c s₁ B hml hv
  obtain ⟨rfl, hsz, hP, hK, hD0, hE⟩ := hv
  have hx := B.exec
  have hb := B.bytes
  have hr := B.returns
  have hts := atoms_spec (ws := wsX3_init_2) B.pre
  have hts : ∀ w ∈ lw_all, w.before _ s = true := fun w h => hts w (List.mem_cons_of_mem _ h)
  have hown : s.vm.findClass RX3 = some m.cls := findClass_of_methodNamed B.named
  have hlocks := B.notSynchronized
  have hin : meth.name = "<init>" := (name_of_methodNamed B.named B.method).1
  subst hsz
  have hD := hD0.self (sz := s.heap.size)
  generalize hAe : va_A [(kp, .inr (2, [.null])), (b, .inl (cb, 16, .inl f))] s.heap.size = A at hD ⊢
  have hA : ∀ q : Nat, s.heap.size ≤ q → A q := fun q h => by rw [← hAe]; exact Or.inr h
  have hS : va_S A s.heap s.heap [] := va_S.rf
  have hP : va_P G vwCl [(kp, .inr (2, [.null])), (b, .inl (cb, 16, .inl f))] s.heap := hP
  have hl := lv_entry ([.ref kp, .ref b, .int 0, .int 16]) (n := 4) (Nat.le_of_ble_eq_true rfl)
  rw [lg_entry_eq]
  generalize (lg_sl ([.ref kp, .ref b, .int 0, .int 16]) ++ List.replicate (4 - (lg_sl ([.ref kp, .ref b, .int 0, .int 16])).length) Slot.unset).toArray = ls at hl ⊢
  have hl : lv_has ls 4 [(0, .ref kp), (1, .ref b), (2, .int 0), (3, .int 16)] := hl
  refine lv_aload_n hx hb dX3_init_2_0 rfl (lv_at hl 0 rfl) ?_
  refine lv_iload_n hx hb dX3_init_2_1 rfl (lv_at hl 3 rfl) ?_
  have hPc := hP.sub (ws' := [(kp, .inr (2, [.null]))]) [0] rfl
  have hDc := hD.sub (ws' := [(kp, .inr (2, [.null]))]) [0] (by decide) rfl
  have hFc := va_free (wc := [(kp, .inr (2, [.null]))]) hD hS hA [0] rfl
  refine call_v (va_runI (As := [.int 16]) (rest := []) ⟨hx, hb, hml, hown, hts⟩ (metX3_init_3 l G cb cI kp _) (cwI 1 hts (lw_meth q62) rfl rfl rfl (hts _ q7) (hts _ q60) (hts _ q61) rfl (by decide +kernel) ⟨Nat.le_of_ble_eq_true rfl, Nat.le_of_ble_eq_true rfl⟩) (preW_S hPc hK hDc (tru_in)) rfl rfl hl.1 rfl (lv_room (Nat.le_of_ble_eq_true rfl)) dX3_init_2_2 ⟨Nat.le_of_ble_eq_true rfl, Nat.le_of_ble_eq_true rfl⟩) hP hD hS hFc [0] [1] (wr := [(b, .inl (cb, 16, .inl f))]) rfl rfl (by decide) (by decide) (fun u_1 H locs huu_1 hP hD hS => ?_)
  have hP : va_P G vwCl [(b, .inl (cb, 16, .inl f)), (kp, .inr (2, [.ref u_1])), (u_1, .inl (cb, 16, .inl (fun _ => 0)))] H := hP
  have hD : va_D A [(b, .inl (cb, 16, .inl f)), (kp, .inr (2, [.ref u_1])), (u_1, .inl (cb, 16, .inl (fun _ => 0)))] := hD
  refine W.widen (k := 1) (n := 16) (by omega) (by omega) ?_
  refine lv_aload_n hx hb dX3_init_2_5 rfl (lv_at hl 1 rfl) ?_
  refine lv_iload_n hx hb dX3_init_2_6 rfl (lv_at hl 2 rfl) ?_
  refine lv_aload_n hx hb dX3_init_2_7 rfl (lv_at hl 0 rfl) ?_
  refine va_get (D := G) (ci := 2) (v := .ref u_1) (C := RX3) (T := TX3) (N := 1) hx hb hts in_X3 hown hK hP 1 rfl rfl 0 (by decide) (hts _ q64) (fun _ h9 => h9) rfl dX3_init_2_8 ?_
  refine lv_iconst (v := 0) hx hb dX3_init_2_11 (by decide) ?_
  refine lv_iload_n hx hb dX3_init_2_12 rfl (lv_at hl 3 rfl) ?_
  refine va_copyi hx hb (hml.trans hl.1.symm) hown (hts _ q68) (hts _ q70) (hts _ q69) (hts _ q8) hK hP hD hS 0 2 0 0 (ty := .byte) rfl rfl rfl rfl rfl (by decide) (by decide) (by decide) (by decide) (by decide) (fun i hi => by rw [show (0 : Int32).toNatClampNeg + i = i from Nat.zero_add i]; exact hf i hi) (Nat.le_of_ble_eq_true rfl) (Nat.le_of_ble_eq_true rfl) dX3_init_2_13 (fun H locs hP hD hS => ?_)
  have hP : va_P G vwCl [(b, .inl (cb, 16, .inl f)), (kp, .inr (2, [.ref u_1])), (u_1, .inl (cb, 16, .inl (va_cpy f (fun _ => 0) (0 : Int32).toNatClampNeg (0 : Int32).toNatClampNeg (16 : Int32).toNatClampNeg)))] H := hP
  have hD : va_D A [(b, .inl (cb, 16, .inl f)), (kp, .inr (2, [.ref u_1])), (u_1, .inl (cb, 16, .inl (va_cpy f (fun _ => 0) (0 : Int32).toNatClampNeg (0 : Int32).toNatClampNeg (16 : Int32).toNatClampNeg)))] := hD
  have hP := hP.sub (ws' := [(kp, .inr (2, [.ref u_1])), (u_1, .inl (cb, 16, .inl (va_cpy f (fun _ => 0) (0 : Int32).toNatClampNeg (0 : Int32).toNatClampNeg (16 : Int32).toNatClampNeg))), (b, .inl (cb, 16, .inl f))]) [1, 2, 0] rfl
  have hD := hD.sub (ws' := [(kp, .inr (2, [.ref u_1])), (u_1, .inl (cb, 16, .inl (va_cpy f (fun _ => 0) (0 : Int32).toNatClampNeg (0 : Int32).toNatClampNeg (16 : Int32).toNatClampNeg))), (b, .inl (cb, 16, .inl f))]) [1, 2, 0] (by decide) rfl
  exact W.vret hx hb hr (fun t ht hW => ⟨⟨(u_1, (va_cpy f (fun _ => 0) (0 : Int32).toNatClampNeg (0 : Int32).toNatClampNeg (16 : Int32).toNatClampNeg)), rfl, cpy16 f _, by rw [ht]; exact hP, hD⟩, hS.F ht⟩) hS.2.2 dX3_init_2_16
set_option maxHeartbeats 4000000 in
set_option maxRecDepth 100000 in
theorem metX3_init (l : Launch) (G : va_G) (cb cI : ClassId) (kp b : Nat) (f : Nat → Int32) (hf : ∀ j, j < 16 → fits .byte (.int (f j)) = true) (sz : Nat) : Met l yX3_init wsX3_init ({ frames := 3, cells := 1, slots := 16, locals := 56 }) (pcW [.ref kp, .ref b] G cb cI [(kp, .inr (2, [.null])), (b, .inl (cb, 16, .inl f))] sz tru) (qcV (fun u : Nat × (Nat → Int32) => ∀ j, j < 16 → u.2 j = f j) G (fun u => [(kp, .inr (2, [.ref u.1])), (u.1, .inl (cb, 16, .inl u.2)), (b, .inl (cb, 16, .inl f))]) (va_A [(kp, .inr (2, [.null])), (b, .inl (cb, 16, .inl f))] sz)) 1 16 (va_A [(kp, .inr (2, [.null])), (b, .inl (cb, 16, .inl f))] sz) := by
  refine Met.ofW (cc := cX3_init) (maxL := 2) (ret := none) (by decide) rfl ?_
  intro p e s m args below meth c s₁ B hml hv
  obtain ⟨rfl, hsz, hP, hK, hD0, hE⟩ := hv
  have hx := B.exec
  have hb := B.bytes
  have hr := B.returns
  have hts := atoms_spec (ws := wsX3_init) B.pre
  have hts : ∀ w ∈ lw_all, w.before _ s = true := fun w h => hts w (List.mem_cons_of_mem _ h)
  have hown : s.vm.findClass RX3 = some m.cls := findClass_of_methodNamed B.named
  have hlocks := B.notSynchronized
  have hin : meth.name = "<init>" := (name_of_methodNamed B.named B.method).1
  subst hsz
  have hD := hD0.self (sz := s.heap.size)
  generalize hAe : va_A [(kp, .inr (2, [.null])), (b, .inl (cb, 16, .inl f))] s.heap.size = A at hD ⊢
  have hA : ∀ q : Nat, s.heap.size ≤ q → A q := fun q h => by rw [← hAe]; exact Or.inr h
  have hS : va_S A s.heap s.heap [] := va_S.rf
  have hP : va_P G vwCl [(kp, .inr (2, [.null])), (b, .inl (cb, 16, .inl f))] s.heap := hP
  have hl := lv_entry ([.ref kp, .ref b]) (n := 2) (Nat.le_of_ble_eq_true rfl)
  rw [lg_entry_eq]
  generalize (lg_sl ([.ref kp, .ref b]) ++ List.replicate (2 - (lg_sl ([.ref kp, .ref b])).length) Slot.unset).toArray = ls at hl ⊢
  have hl : lv_has ls 2 [(0, .ref kp), (1, .ref b)] := hl
  refine lv_aload_n hx hb dX3_init_0 rfl (lv_at hl 0 rfl) ?_
  refine lv_aload_n hx hb dX3_init_1 rfl (lv_at hl 1 rfl) ?_
  refine lv_iconst (v := 0) hx hb dX3_init_2 (by decide) ?_
  refine lv_aload_n hx hb dX3_init_3 rfl (lv_at hl 1 rfl) ?_
  refine va_alen (v := 16) hx hb hK hP 1 0 rfl rfl (by first | rfl | decide) dX3_init_4 ?_
  have hPc := hP.sub (ws' := [(kp, .inr (2, [.null])), (b, .inl (cb, 16, .inl f))]) [0, 1] rfl
  have hDc := hD.sub (ws' := [(kp, .inr (2, [.null])), (b, .inl (cb, 16, .inl f))]) [0, 1] (by decide) rfl
  have hFc := va_free (wc := [(kp, .inr (2, [.null])), (b, .inl (cb, 16, .inl f))]) hD hS hA [0, 1] rfl
  refine call_v (va_runI (As := [.ref b, .int 0, .int 16]) (rest := []) ⟨hx, hb, hml, hown, hts⟩ (metX3_init_2 l G cb cI kp b f hf _) (cwI 3 hts (lw_meth q59) rfl rfl rfl (hts _ q7) (hts _ q57) (hts _ q58) rfl (by decide +kernel) ⟨Nat.le_of_ble_eq_true rfl, Nat.le_of_ble_eq_true rfl⟩) (preW_S hPc hK hDc (tru_in)) rfl rfl hl.1 rfl (lv_room (Nat.le_of_ble_eq_true rfl)) dX3_init_5 ⟨Nat.le_of_ble_eq_true rfl, Nat.le_of_ble_eq_true rfl⟩) hP hD hS hFc [0, 1] [] (wr := []) rfl rfl (by decide) (by decide) (fun u_1 H locs huu_1 hP hD hS => ?_)
  have hP : va_P G vwCl [(kp, .inr (2, [.ref u_1.1])), (u_1.1, .inl (cb, 16, .inl u_1.2)), (b, .inl (cb, 16, .inl f))] H := hP
  have hD : va_D A [(kp, .inr (2, [.ref u_1.1])), (u_1.1, .inl (cb, 16, .inl u_1.2)), (b, .inl (cb, 16, .inl f))] := hD
  refine W.widen (k := 1) (n := 16) (by omega) (by omega) ?_
  exact W.vret hx hb hr (fun t ht hW => ⟨⟨u_1, rfl, huu_1, by rw [ht]; exact hP, hD⟩, hS.F ht⟩) hS.2.2 dX3_init_8
set_option maxHeartbeats 4000000 in
set_option maxRecDepth 100000 in
theorem metX3_getKey (l : Launch) (G : va_G) (cb cI : ClassId) (kp q : Nat) : Met l yX3_getKey wsX3_getKey ({ frames := 0, cells := 0, slots := 0, locals := 0 }) (pcR [.ref kp] G cb cI [(kp, .inr (2, [.ref q]))] tru) (va_Sr (fun _ => True) (fun _ => .ref q)) 0 0 (fun _ => False) := by
  refine Met.ofW (cc := cX3_getKey) (maxL := 1) (ret := (some (.array .byte))) (by decide) rfl ?_
  intro p e s m args below meth c s₁ B hml hv
  obtain ⟨rfl, hP, hK, hE⟩ := hv
  have hx := B.exec
  have hb := B.bytes
  have hr := B.returns
  have hts := atoms_spec (ws := wsX3_getKey) B.pre
  have hts : ∀ w ∈ lw_all, w.before _ s = true := fun w h => hts w (List.mem_cons_of_mem _ h)
  have hown : s.vm.findClass RX3 = some m.cls := findClass_of_methodNamed B.named
  have hlocks := B.notSynchronized
  have hl := lv_entry ([.ref kp]) (n := 1) (Nat.le_of_ble_eq_true rfl)
  rw [lg_entry_eq]
  generalize (lg_sl ([.ref kp]) ++ List.replicate (1 - (lg_sl ([.ref kp])).length) Slot.unset).toArray = ls at hl ⊢
  have hl : lv_has ls 1 [(0, .ref kp)] := hl
  refine lv_aload_n hx hb dX3_getKey_0 rfl (lv_at hl 0 rfl) ?_
  refine va_get (D := G) (ci := 2) (v := .ref q) (C := RX3) (T := TX3) (N := 1) hx hb hts in_X3 hown hK hP 0 rfl rfl 0 (by decide) (hts _ q64) (fun _ h9 => h9) rfl dX3_getKey_1 ?_
  exact W.aret (v := .ref q) hx hb hr (Or.inr ⟨_, rfl⟩) (Or.inr ⟨_, rfl⟩) (fun t ht hW => ⟨0, rfl, trivial, ht⟩) (fun _ h => by cases h) dX3_getKey_4
end
section
abbrev wsX2_encryptBlock : List Cond := ws_ yX2_encryptBlock cX2_encryptBlock 16 (some .int)
abbrev wsX2_decryptBlock : List Cond := ws_ yX2_decryptBlock cX2_decryptBlock 16 (some .int)
abbrev wsX2_processBlock : List Cond := ws_ yX2_processBlock cX2_processBlock 5 (some .int)
abbrev wsX2_init : List Cond := ws_ yX2_init cX2_init 1 none
abbrev wsX2_init_2 : List Cond := ws_ yX2_init_2 cX2_init_2 11 none
set_option maxHeartbeats 4000000 in
set_option maxRecDepth 100000 in
/-- the loop, at its head: r rounds are done -/
theorem loopX2_encryptBlock {p : Program} {l : Launch} {e : Env} {R : Room} {s : State} {m : MethodId} {below : List Frame} {meth : Method} {c : Code} {sarg : Array Value} {H : Heap} {locs : List Loc} {cells slots : Nat} {Q : State → Prop} {t : Nat} {A : Nat → Prop} {eo ib ob : Nat} {k0 k1 k2 k3 : Int32} {a0 : S4} (hx : p.tables.exec = Jvm.exec) (hb : c.code = cX2_encryptBlock) (hml : c.maxLocals = 16) (hown : s.vm.findClass RX2 = some m.cls) (hts : ∀ w ∈ lw_all, w.before sarg s = true) (hS : va_S A s.heap H locs) (hE : nk_ctx t A s s.heap) (hR1 : 2 ≤ R.frames) (hR2 : 42 ≤ R.locals) (hR3 : cells ≤ R.cells) (hR4 : slots ≤ R.slots)
    (kk : ∀ (x5 x6 x7 x8 x13 : Int32) (ls : Array Slot), (x5, x6, x7, x8) = nk_enc (k0, k1, k2, k3) a0 → lv_has ls 16 [(0, .ref eo), (1, .ref ib), (2, .int 0), (3, .ref ob), (4, .int 0), (5, .int x5), (6, .int x6), (7, .int x7), (8, .int x8), (9, .int k0), (10, .int k1), (11, .int k2), (12, .int k3), (13, .int x13)] → W p l e R s m sarg below meth c H locs cells slots Q (F0 m 324 ls [])) :
    ∀ (n r : Nat) (x5 x6 x7 x8 x13 : Int32), r ≤ 16 → 17 ≤ r + n → x13 = nI r → (x5, x6, x7, x8) = nk_eF (k0, k1, k2, k3) r a0 → ∀ (ls : Array Slot), lv_has ls 16 [(0, .ref eo), (1, .ref ib), (2, .int 0), (3, .ref ob), (4, .int 0), (5, .int x5), (6, .int x6), (7, .int x7), (8, .int x8), (9, .int k0), (10, .int k1), (11, .int k2), (12, .int k3), (13, .int x13)] → W p l e R s m sarg below meth c H locs cells slots Q (F0 m 71 ls []) := by
  intro n
  induction n with
  | zero =>
    intro r x5 x6 x7 x8 x13 h1 h2
    exact absurd h2 (by omega)
  | succ n ih =>
    intro r x5 x6 x7 x8 x13 hr hn e13 hst ls hl
    refine lv_iload hx hb dX2_encryptBlock_71 (lv_at hl 5 rfl) ?_
    refine va_gets (v := .ref t) hx hb hE.1.1 hS hown (hts _ q233) (fun _ h9 => h9) dX2_encryptBlock_73 ?_
    refine lv_iload hx hb dX2_encryptBlock_76 (lv_at hl 13 rfl) ?_
    refine va_tb (v := .int (nk_rcb r)) hx hb hE.1.2 hS (by rw [e13]; exact vp_in_nI (by omega) (by omega)) (show Value.int (nk_rcb x13.toNatClampNeg) = .int (nk_rcb r) by rw [e13, nI_clamp (by omega)]) dX2_encryptBlock_78 ?_
    refine lv_sipush (v := 255) hx hb dX2_encryptBlock_79 (by decide) ?_
    refine lv_iand hx hb dX2_encryptBlock_82 ?_
    refine lv_ixor hx hb dX2_encryptBlock_83 ?_
    refine lv_topi (fun x5_1 ex5_1 => ?_)
    refine lv_istore (lv' := [(5, .int x5_1), (0, .ref eo), (1, .ref ib), (2, .int 0), (3, .ref ob), (4, .int 0), (6, .int x6), (7, .int x7), (8, .int x8), (9, .int k0), (10, .int k1), (11, .int k2), (12, .int k3), (13, .int x13)]) hx hb dX2_encryptBlock_84 hl (by decide) rfl (fun ls hl => ?_)
    refine lv_iload hx hb dX2_encryptBlock_86 (lv_at hl 0 rfl) ?_
    refine lv_iload hx hb dX2_encryptBlock_88 (lv_at hl 7 rfl) ?_
    refine lv_ixor hx hb dX2_encryptBlock_90 ?_
    refine lv_topi (fun x14_2 ex14_2 => ?_)
    refine lv_istore (lv' := [(14, .int x14_2), (5, .int x5_1), (0, .ref eo), (1, .ref ib), (2, .int 0), (3, .ref ob), (4, .int 0), (6, .int x6), (7, .int x7), (8, .int x8), (9, .int k0), (10, .int k1), (11, .int k2), (12, .int k3), (13, .int x13)]) hx hb dX2_encryptBlock_91 hl (by decide) rfl (fun ls hl => ?_)
    refine lv_iload hx hb dX2_encryptBlock_93 (lv_at hl 0 rfl) ?_
    refine lv_iload hx hb dX2_encryptBlock_95 (lv_at hl 0 rfl) ?_
    refine lv_bipush (v := 8) hx hb dX2_encryptBlock_97 (by decide) ?_
    refine vp_callSi (W.runS (As := [.int x14_2, .int 8]) (rest := [.int x14_2]) ⟨hx, hb, hml, hown, hts⟩ (metX5_rotateLeft l x14_2 8) (va_cwS 2 hts (lw_S q161 q162 q14 q163) rfl rfl rfl (by decide +kernel) ⟨hR1, hR2⟩) ⟨fun a U g mk q => q, fun U hU hW => ⟨rfl, trivial⟩⟩ rfl rfl hl.1 rfl (lv_room (Nat.le_of_ble_eq_true rfl)) dX2_encryptBlock_99 ⟨hR3, hR4⟩) (fun r_3 er_3 => ?_)
    refine lv_iload hx hb dX2_encryptBlock_102 (lv_at hl 0 rfl) ?_
    refine lv_bipush (v := 24) hx hb dX2_encryptBlock_104 (by decide) ?_
    refine vp_callSi (W.runS (As := [.int x14_2, .int 24]) (rest := [.int r_3, .int x14_2]) ⟨hx, hb, hml, hown, hts⟩ (metX5_rotateLeft l x14_2 24) (va_cwS 2 hts (lw_S q161 q162 q14 q163) rfl rfl rfl (by decide +kernel) ⟨hR1, hR2⟩) ⟨fun a U g mk q => q, fun U hU hW => ⟨rfl, trivial⟩⟩ rfl rfl hl.1 rfl (lv_room (Nat.le_of_ble_eq_true rfl)) dX2_encryptBlock_106 ⟨hR3, hR4⟩) (fun r_4 er_4 => ?_)
    refine lv_ixor hx hb dX2_encryptBlock_109 ?_
    refine lv_ixor hx hb dX2_encryptBlock_110 ?_
    refine lv_topi (fun x14_5 ex14_5 => ?_)
    refine lv_istore (lv' := [(14, .int x14_5), (5, .int x5_1), (0, .ref eo), (1, .ref ib), (2, .int 0), (3, .ref ob), (4, .int 0), (6, .int x6), (7, .int x7), (8, .int x8), (9, .int k0), (10, .int k1), (11, .int k2), (12, .int k3), (13, .int x13)]) hx hb dX2_encryptBlock_111 hl (by decide) rfl (fun ls hl => ?_)
    refine lv_iload hx hb dX2_encryptBlock_113 (lv_at hl 1 rfl) ?_
    refine lv_iload hx hb dX2_encryptBlock_115 (lv_at hl 10 rfl) ?_
    refine lv_ixor hx hb dX2_encryptBlock_117 ?_
    refine lv_topi (fun x5_6 ex5_6 => ?_)
    refine lv_istore (lv' := [(5, .int x5_6), (14, .int x14_5), (0, .ref eo), (1, .ref ib), (2, .int 0), (3, .ref ob), (4, .int 0), (6, .int x6), (7, .int x7), (8, .int x8), (9, .int k0), (10, .int k1), (11, .int k2), (12, .int k3), (13, .int x13)]) hx hb dX2_encryptBlock_118 hl (by decide) rfl (fun ls hl => ?_)
    refine lv_iload hx hb dX2_encryptBlock_120 (lv_at hl 7 rfl) ?_
    refine lv_iload hx hb dX2_encryptBlock_122 (lv_at hl 11 rfl) ?_
    refine lv_ixor hx hb dX2_encryptBlock_124 ?_
    refine lv_topi (fun x6_7 ex6_7 => ?_)
    refine lv_istore (lv' := [(6, .int x6_7), (5, .int x5_6), (14, .int x14_5), (0, .ref eo), (1, .ref ib), (2, .int 0), (3, .ref ob), (4, .int 0), (7, .int x7), (8, .int x8), (9, .int k0), (10, .int k1), (11, .int k2), (12, .int k3), (13, .int x13)]) hx hb dX2_encryptBlock_125 hl (by decide) rfl (fun ls hl => ?_)
    refine lv_iload hx hb dX2_encryptBlock_127 (lv_at hl 8 rfl) ?_
    refine lv_iload hx hb dX2_encryptBlock_129 (lv_at hl 12 rfl) ?_
    refine lv_ixor hx hb dX2_encryptBlock_131 ?_
    refine lv_topi (fun x7_8 ex7_8 => ?_)
    refine lv_istore (lv' := [(7, .int x7_8), (6, .int x6_7), (5, .int x5_6), (14, .int x14_5), (0, .ref eo), (1, .ref ib), (2, .int 0), (3, .ref ob), (4, .int 0), (8, .int x8), (9, .int k0), (10, .int k1), (11, .int k2), (12, .int k3), (13, .int x13)]) hx hb dX2_encryptBlock_132 hl (by decide) rfl (fun ls hl => ?_)
    refine lv_iload hx hb dX2_encryptBlock_134 (lv_at hl 9 rfl) ?_
    refine lv_iload hx hb dX2_encryptBlock_136 (lv_at hl 13 rfl) ?_
    refine lv_ixor hx hb dX2_encryptBlock_138 ?_
    refine lv_topi (fun x8_9 ex8_9 => ?_)
    refine lv_istore (lv' := [(8, .int x8_9), (7, .int x7_8), (6, .int x6_7), (5, .int x5_6), (14, .int x14_5), (0, .ref eo), (1, .ref ib), (2, .int 0), (3, .ref ob), (4, .int 0), (9, .int k0), (10, .int k1), (11, .int k2), (12, .int k3), (13, .int x13)]) hx hb dX2_encryptBlock_139 hl (by decide) rfl (fun ls hl => ?_)
    refine lv_iload hx hb dX2_encryptBlock_141 (lv_at hl 2 rfl) ?_
    refine lv_iload hx hb dX2_encryptBlock_143 (lv_at hl 0 rfl) ?_
    refine lv_ixor hx hb dX2_encryptBlock_145 ?_
    refine lv_topi (fun x15_10 ex15_10 => ?_)
    refine lv_istore (lv' := [(15, .int x15_10), (8, .int x8_9), (7, .int x7_8), (6, .int x6_7), (5, .int x5_6), (14, .int x14_5), (0, .ref eo), (1, .ref ib), (2, .int 0), (3, .ref ob), (4, .int 0), (9, .int k0), (10, .int k1), (11, .int k2), (12, .int k3), (13, .int x13)]) hx hb dX2_encryptBlock_146 hl (by decide) rfl (fun ls hl => ?_)
    refine lv_iload hx hb dX2_encryptBlock_148 (lv_at hl 0 rfl) ?_
    refine lv_iload hx hb dX2_encryptBlock_150 (lv_at hl 0 rfl) ?_
    refine lv_bipush (v := 8) hx hb dX2_encryptBlock_152 (by decide) ?_
    refine vp_callSi (W.runS (As := [.int x15_10, .int 8]) (rest := [.int x15_10]) ⟨hx, hb, hml, hown, hts⟩ (metX5_rotateLeft l x15_10 8) (va_cwS 2 hts (lw_S q161 q162 q14 q163) rfl rfl rfl (by decide +kernel) ⟨hR1, hR2⟩) ⟨fun a U g mk q => q, fun U hU hW => ⟨rfl, trivial⟩⟩ rfl rfl hl.1 rfl (lv_room (Nat.le_of_ble_eq_true rfl)) dX2_encryptBlock_154 ⟨hR3, hR4⟩) (fun r_11 er_11 => ?_)
    refine lv_iload hx hb dX2_encryptBlock_157 (lv_at hl 0 rfl) ?_
    refine lv_bipush (v := 24) hx hb dX2_encryptBlock_159 (by decide) ?_
    refine vp_callSi (W.runS (As := [.int x15_10, .int 24]) (rest := [.int r_11, .int x15_10]) ⟨hx, hb, hml, hown, hts⟩ (metX5_rotateLeft l x15_10 24) (va_cwS 2 hts (lw_S q161 q162 q14 q163) rfl rfl rfl (by decide +kernel) ⟨hR1, hR2⟩) ⟨fun a U g mk q => q, fun U hU hW => ⟨rfl, trivial⟩⟩ rfl rfl hl.1 rfl (lv_room (Nat.le_of_ble_eq_true rfl)) dX2_encryptBlock_161 ⟨hR3, hR4⟩) (fun r_12 er_12 => ?_)
    refine lv_ixor hx hb dX2_encryptBlock_164 ?_
    refine lv_ixor hx hb dX2_encryptBlock_165 ?_
    refine lv_topi (fun x15_13 ex15_13 => ?_)
    refine lv_istore (lv' := [(15, .int x15_13), (8, .int x8_9), (7, .int x7_8), (6, .int x6_7), (5, .int x5_6), (14, .int x14_5), (0, .ref eo), (1, .ref ib), (2, .int 0), (3, .ref ob), (4, .int 0), (9, .int k0), (10, .int k1), (11, .int k2), (12, .int k3), (13, .int x13)]) hx hb dX2_encryptBlock_166 hl (by decide) rfl (fun ls hl => ?_)
    refine lv_iload hx hb dX2_encryptBlock_168 (lv_at hl 4 rfl) ?_
    refine lv_iload hx hb dX2_encryptBlock_170 (lv_at hl 0 rfl) ?_
    refine lv_ixor hx hb dX2_encryptBlock_172 ?_
    refine lv_topi (fun x5_14 ex5_14 => ?_)
    refine lv_istore (lv' := [(5, .int x5_14), (15, .int x15_13), (8, .int x8_9), (7, .int x7_8), (6, .int x6_7), (14, .int x14_5), (0, .ref eo), (1, .ref ib), (2, .int 0), (3, .ref ob), (4, .int 0), (9, .int k0), (10, .int k1), (11, .int k2), (12, .int k3), (13, .int x13)]) hx hb dX2_encryptBlock_173 hl (by decide) rfl (fun ls hl => ?_)
    refine lv_iload hx hb dX2_encryptBlock_175 (lv_at hl 4 rfl) ?_
    refine lv_iload hx hb dX2_encryptBlock_177 (lv_at hl 5 rfl) ?_
    refine lv_ixor hx hb dX2_encryptBlock_179 ?_
    refine lv_topi (fun x6_15 ex6_15 => ?_)
    refine lv_istore (lv' := [(6, .int x6_15), (5, .int x5_14), (15, .int x15_13), (8, .int x8_9), (7, .int x7_8), (14, .int x14_5), (0, .ref eo), (1, .ref ib), (2, .int 0), (3, .ref ob), (4, .int 0), (9, .int k0), (10, .int k1), (11, .int k2), (12, .int k3), (13, .int x13)]) hx hb dX2_encryptBlock_180 hl (by decide) rfl (fun ls hl => ?_)
    refine lv_iload hx hb dX2_encryptBlock_182 (lv_at hl 4 rfl) ?_
    refine lv_iload hx hb dX2_encryptBlock_184 (lv_at hl 2 rfl) ?_
    refine lv_ixor hx hb dX2_encryptBlock_186 ?_
    refine lv_topi (fun x7_16 ex7_16 => ?_)
    refine lv_istore (lv' := [(7, .int x7_16), (6, .int x6_15), (5, .int x5_14), (15, .int x15_13), (8, .int x8_9), (14, .int x14_5), (0, .ref eo), (1, .ref ib), (2, .int 0), (3, .ref ob), (4, .int 0), (9, .int k0), (10, .int k1), (11, .int k2), (12, .int k3), (13, .int x13)]) hx hb dX2_encryptBlock_187 hl (by decide) rfl (fun ls hl => ?_)
    refine lv_iload hx hb dX2_encryptBlock_189 (lv_at hl 4 rfl) ?_
    refine lv_iload hx hb dX2_encryptBlock_191 (lv_at hl 5 rfl) ?_
    refine lv_ixor hx hb dX2_encryptBlock_193 ?_
    refine lv_topi (fun x8_17 ex8_17 => ?_)
    refine lv_istore (lv' := [(8, .int x8_17), (7, .int x7_16), (6, .int x6_15), (5, .int x5_14), (15, .int x15_13), (14, .int x14_5), (0, .ref eo), (1, .ref ib), (2, .int 0), (3, .ref ob), (4, .int 0), (9, .int k0), (10, .int k1), (11, .int k2), (12, .int k3), (13, .int x13)]) hx hb dX2_encryptBlock_194 hl (by decide) rfl (fun ls hl => ?_)
    have hth : (x5_14, x6_15, x7_16, x8_17) = nk_theta (k0, k1, k2, k3) (nk_xrc r (x5, x6, x7, x8)) := by
      subst ex5_1 ex14_2 er_3 er_4 ex14_5 ex5_6 ex6_7 ex7_8 ex8_9 ex15_10 er_11 er_12 ex15_13 ex5_14 ex6_15 ex7_16 ex8_17
      rfl
    obtain ⟨x13_18, ex13_18⟩ : ∃ y : Int32, y = x13 + Int32.ofInt 1 := ⟨_, rfl⟩
    refine lv_iinc (v := x13_18) (lv' := [(13, .int x13_18), (8, .int x8_17), (7, .int x7_16), (6, .int x6_15), (5, .int x5_14), (15, .int x15_13), (14, .int x14_5), (0, .ref eo), (1, .ref ib), (2, .int 0), (3, .ref ob), (4, .int 0), (9, .int k0), (10, .int k1), (11, .int k2), (12, .int k3)]) hx hb dX2_encryptBlock_196 hl (k := 15) rfl ex13_18.symm (by decide) rfl (fun ls hl => ?_)
    have f13 : x13_18 = nI (r + 1) := by rw [ex13_18, e13, nI_i1]
    refine lv_iload hx hb dX2_encryptBlock_199 (lv_at hl 0 rfl) ?_
    refine lv_bipush (v := 16) hx hb dX2_encryptBlock_201 (by decide) ?_
    refine lv_icmp_le (tgt := 209) hx hb dX2_encryptBlock_203 (by decide) (fun c9 => ?_) (fun c9 => ?_)
    · have hlt : r < 16 := by
        rcases Nat.lt_or_ge r 16 with z | z
        · exact z
        · exact absurd (show nI (r + 1) ≤ nI 16 by rw [← f13]; exact c9) (nI_ge (by omega) (by omega))
      refine lv_iload hx hb dX2_encryptBlock_209 (lv_at hl 3 rfl) ?_
      refine lv_iconst (v := 1) hx hb dX2_encryptBlock_211 (by decide) ?_
      refine vp_callSi (W.runS (As := [.int x6_15, .int 1]) (rest := []) ⟨hx, hb, hml, hown, hts⟩ (metX5_rotateLeft l x6_15 1) (va_cwS 2 hts (lw_S q161 q162 q14 q163) rfl rfl rfl (by decide +kernel) ⟨hR1, hR2⟩) ⟨fun a U g mk q => q, fun U hU hW => ⟨rfl, trivial⟩⟩ rfl rfl hl.1 rfl (lv_room (Nat.le_of_ble_eq_true rfl)) dX2_encryptBlock_212 ⟨hR3, hR4⟩) (fun r_19 er_19 => ?_)
      refine lv_istore (lv' := [(6, .int r_19), (13, .int x13_18), (8, .int x8_17), (7, .int x7_16), (5, .int x5_14), (15, .int x15_13), (14, .int x14_5), (0, .ref eo), (1, .ref ib), (2, .int 0), (3, .ref ob), (4, .int 0), (9, .int k0), (10, .int k1), (11, .int k2), (12, .int k3)]) hx hb dX2_encryptBlock_215 hl (by decide) rfl (fun ls hl => ?_)
      refine lv_iload hx hb dX2_encryptBlock_217 (lv_at hl 3 rfl) ?_
      refine lv_iconst (v := 5) hx hb dX2_encryptBlock_219 (by decide) ?_
      refine vp_callSi (W.runS (As := [.int x7_16, .int 5]) (rest := []) ⟨hx, hb, hml, hown, hts⟩ (metX5_rotateLeft l x7_16 5) (va_cwS 2 hts (lw_S q161 q162 q14 q163) rfl rfl rfl (by decide +kernel) ⟨hR1, hR2⟩) ⟨fun a U g mk q => q, fun U hU hW => ⟨rfl, trivial⟩⟩ rfl rfl hl.1 rfl (lv_room (Nat.le_of_ble_eq_true rfl)) dX2_encryptBlock_220 ⟨hR3, hR4⟩) (fun r_20 er_20 => ?_)
      refine lv_istore (lv' := [(7, .int r_20), (6, .int r_19), (13, .int x13_18), (8, .int x8_17), (5, .int x5_14), (15, .int x15_13), (14, .int x14_5), (0, .ref eo), (1, .ref ib), (2, .int 0), (3, .ref ob), (4, .int 0), (9, .int k0), (10, .int k1), (11, .int k2), (12, .int k3)]) hx hb dX2_encryptBlock_223 hl (by decide) rfl (fun ls hl => ?_)
      refine lv_iload hx hb dX2_encryptBlock_225 (lv_at hl 3 rfl) ?_
      refine lv_iconst (v := 2) hx hb dX2_encryptBlock_227 (by decide) ?_
      refine vp_callSi (W.runS (As := [.int x8_17, .int 2]) (rest := []) ⟨hx, hb, hml, hown, hts⟩ (metX5_rotateLeft l x8_17 2) (va_cwS 2 hts (lw_S q161 q162 q14 q163) rfl rfl rfl (by decide +kernel) ⟨hR1, hR2⟩) ⟨fun a U g mk q => q, fun U hU hW => ⟨rfl, trivial⟩⟩ rfl rfl hl.1 rfl (lv_room (Nat.le_of_ble_eq_true rfl)) dX2_encryptBlock_228 ⟨hR3, hR4⟩) (fun r_21 er_21 => ?_)
      refine lv_istore (lv' := [(8, .int r_21), (7, .int r_20), (6, .int r_19), (13, .int x13_18), (5, .int x5_14), (15, .int x15_13), (14, .int x14_5), (0, .ref eo), (1, .ref ib), (2, .int 0), (3, .ref ob), (4, .int 0), (9, .int k0), (10, .int k1), (11, .int k2), (12, .int k3)]) hx hb dX2_encryptBlock_231 hl (by decide) rfl (fun ls hl => ?_)
      refine lv_iload hx hb dX2_encryptBlock_233 (lv_at hl 0 rfl) ?_
      refine lv_istore (lv' := [(14, .int r_21), (8, .int r_21), (7, .int r_20), (6, .int r_19), (13, .int x13_18), (5, .int x5_14), (15, .int x15_13), (0, .ref eo), (1, .ref ib), (2, .int 0), (3, .ref ob), (4, .int 0), (9, .int k0), (10, .int k1), (11, .int k2), (12, .int k3)]) hx hb dX2_encryptBlock_235 hl (by decide) rfl (fun ls hl => ?_)
      refine lv_iload hx hb dX2_encryptBlock_237 (lv_at hl 3 rfl) ?_
      refine lv_iload hx hb dX2_encryptBlock_239 (lv_at hl 1 rfl) ?_
      refine lv_iload hx hb dX2_encryptBlock_241 (lv_at hl 2 rfl) ?_
      refine lv_ior hx hb dX2_encryptBlock_243 ?_
      refine lv_ixor hx hb dX2_encryptBlock_244 ?_
      refine lv_topi (fun x6_22 ex6_22 => ?_)
      refine lv_istore (lv' := [(6, .int x6_22), (14, .int r_21), (8, .int r_21), (7, .int r_20), (13, .int x13_18), (5, .int x5_14), (15, .int x15_13), (0, .ref eo), (1, .ref ib), (2, .int 0), (3, .ref ob), (4, .int 0), (9, .int k0), (10, .int k1), (11, .int k2), (12, .int k3)]) hx hb dX2_encryptBlock_245 hl (by decide) rfl (fun ls hl => ?_)
      refine lv_iload hx hb dX2_encryptBlock_247 (lv_at hl 5 rfl) ?_
      refine lv_iload hx hb dX2_encryptBlock_249 (lv_at hl 3 rfl) ?_
      refine lv_iload hx hb dX2_encryptBlock_251 (lv_at hl 0 rfl) ?_
      refine lv_iconst (v := (-1)) hx hb dX2_encryptBlock_253 (by decide) ?_
      refine lv_ixor hx hb dX2_encryptBlock_254 ?_
      refine lv_iand hx hb dX2_encryptBlock_255 ?_
      refine lv_ixor hx hb dX2_encryptBlock_256 ?_
      refine lv_topi (fun x8_23 ex8_23 => ?_)
      refine lv_istore (lv' := [(8, .int x8_23), (6, .int x6_22), (14, .int r_21), (7, .int r_20), (13, .int x13_18), (5, .int x5_14), (15, .int x15_13), (0, .ref eo), (1, .ref ib), (2, .int 0), (3, .ref ob), (4, .int 0), (9, .int k0), (10, .int k1), (11, .int k2), (12, .int k3)]) hx hb dX2_encryptBlock_257 hl (by decide) rfl (fun ls hl => ?_)
      refine lv_iload hx hb dX2_encryptBlock_259 (lv_at hl 2 rfl) ?_
      refine lv_iload hx hb dX2_encryptBlock_261 (lv_at hl 1 rfl) ?_
      refine lv_iconst (v := (-1)) hx hb dX2_encryptBlock_263 (by decide) ?_
      refine lv_ixor hx hb dX2_encryptBlock_264 ?_
      refine lv_ixor hx hb dX2_encryptBlock_265 ?_
      refine lv_iload hx hb dX2_encryptBlock_266 (lv_at hl 3 rfl) ?_
      refine lv_ixor hx hb dX2_encryptBlock_268 ?_
      refine lv_iload hx hb dX2_encryptBlock_269 (lv_at hl 0 rfl) ?_
      refine lv_ixor hx hb dX2_encryptBlock_271 ?_
      refine lv_topi (fun x7_24 ex7_24 => ?_)
      refine lv_istore (lv' := [(7, .int x7_24), (8, .int x8_23), (6, .int x6_22), (14, .int r_21), (13, .int x13_18), (5, .int x5_14), (15, .int x15_13), (0, .ref eo), (1, .ref ib), (2, .int 0), (3, .ref ob), (4, .int 0), (9, .int k0), (10, .int k1), (11, .int k2), (12, .int k3)]) hx hb dX2_encryptBlock_272 hl (by decide) rfl (fun ls hl => ?_)
      refine lv_iload hx hb dX2_encryptBlock_274 (lv_at hl 2 rfl) ?_
      refine lv_iload hx hb dX2_encryptBlock_276 (lv_at hl 1 rfl) ?_
      refine lv_iload hx hb dX2_encryptBlock_278 (lv_at hl 0 rfl) ?_
      refine lv_ior hx hb dX2_encryptBlock_280 ?_
      refine lv_ixor hx hb dX2_encryptBlock_281 ?_
      refine lv_topi (fun x6_25 ex6_25 => ?_)
      refine lv_istore (lv' := [(6, .int x6_25), (7, .int x7_24), (8, .int x8_23), (14, .int r_21), (13, .int x13_18), (5, .int x5_14), (15, .int x15_13), (0, .ref eo), (1, .ref ib), (2, .int 0), (3, .ref ob), (4, .int 0), (9, .int k0), (10, .int k1), (11, .int k2), (12, .int k3)]) hx hb dX2_encryptBlock_282 hl (by decide) rfl (fun ls hl => ?_)
      refine lv_iload hx hb dX2_encryptBlock_284 (lv_at hl 3 rfl) ?_
      refine lv_iload hx hb dX2_encryptBlock_286 (lv_at hl 1 rfl) ?_
      refine lv_iload hx hb dX2_encryptBlock_288 (lv_at hl 0 rfl) ?_
      refine lv_iand hx hb dX2_encryptBlock_290 ?_
      refine lv_ixor hx hb dX2_encryptBlock_291 ?_
      refine lv_topi (fun x5_26 ex5_26 => ?_)
      refine lv_istore (lv' := [(5, .int x5_26), (6, .int x6_25), (7, .int x7_24), (8, .int x8_23), (14, .int r_21), (13, .int x13_18), (15, .int x15_13), (0, .ref eo), (1, .ref ib), (2, .int 0), (3, .ref ob), (4, .int 0), (9, .int k0), (10, .int k1), (11, .int k2), (12, .int k3)]) hx hb dX2_encryptBlock_292 hl (by decide) rfl (fun ls hl => ?_)
      refine lv_iload hx hb dX2_encryptBlock_294 (lv_at hl 1 rfl) ?_
      refine lv_bipush (v := 31) hx hb dX2_encryptBlock_296 (by decide) ?_
      refine vp_callSi (W.runS (As := [.int x6_25, .int 31]) (rest := []) ⟨hx, hb, hml, hown, hts⟩ (metX5_rotateLeft l x6_25 31) (va_cwS 2 hts (lw_S q161 q162 q14 q163) rfl rfl rfl (by decide +kernel) ⟨hR1, hR2⟩) ⟨fun a U g mk q => q, fun U hU hW => ⟨rfl, trivial⟩⟩ rfl rfl hl.1 rfl (lv_room (Nat.le_of_ble_eq_true rfl)) dX2_encryptBlock_298 ⟨hR3, hR4⟩) (fun r_27 er_27 => ?_)
      refine lv_istore (lv' := [(6, .int r_27), (5, .int x5_26), (7, .int x7_24), (8, .int x8_23), (14, .int r_21), (13, .int x13_18), (15, .int x15_13), (0, .ref eo), (1, .ref ib), (2, .int 0), (3, .ref ob), (4, .int 0), (9, .int k0), (10, .int k1), (11, .int k2), (12, .int k3)]) hx hb dX2_encryptBlock_301 hl (by decide) rfl (fun ls hl => ?_)
      refine lv_iload hx hb dX2_encryptBlock_303 (lv_at hl 2 rfl) ?_
      refine lv_bipush (v := 27) hx hb dX2_encryptBlock_305 (by decide) ?_
      refine vp_callSi (W.runS (As := [.int x7_24, .int 27]) (rest := []) ⟨hx, hb, hml, hown, hts⟩ (metX5_rotateLeft l x7_24 27) (va_cwS 2 hts (lw_S q161 q162 q14 q163) rfl rfl rfl (by decide +kernel) ⟨hR1, hR2⟩) ⟨fun a U g mk q => q, fun U hU hW => ⟨rfl, trivial⟩⟩ rfl rfl hl.1 rfl (lv_room (Nat.le_of_ble_eq_true rfl)) dX2_encryptBlock_307 ⟨hR3, hR4⟩) (fun r_28 er_28 => ?_)
      refine lv_istore (lv' := [(7, .int r_28), (6, .int r_27), (5, .int x5_26), (8, .int x8_23), (14, .int r_21), (13, .int x13_18), (15, .int x15_13), (0, .ref eo), (1, .ref ib), (2, .int 0), (3, .ref ob), (4, .int 0), (9, .int k0), (10, .int k1), (11, .int k2), (12, .int k3)]) hx hb dX2_encryptBlock_310 hl (by decide) rfl (fun ls hl => ?_)
      refine lv_iload hx hb dX2_encryptBlock_312 (lv_at hl 3 rfl) ?_
      refine lv_bipush (v := 30) hx hb dX2_encryptBlock_314 (by decide) ?_
      refine vp_callSi (W.runS (As := [.int x8_23, .int 30]) (rest := []) ⟨hx, hb, hml, hown, hts⟩ (metX5_rotateLeft l x8_23 30) (va_cwS 2 hts (lw_S q161 q162 q14 q163) rfl rfl rfl (by decide +kernel) ⟨hR1, hR2⟩) ⟨fun a U g mk q => q, fun U hU hW => ⟨rfl, trivial⟩⟩ rfl rfl hl.1 rfl (lv_room (Nat.le_of_ble_eq_true rfl)) dX2_encryptBlock_316 ⟨hR3, hR4⟩) (fun r_29 er_29 => ?_)
      refine lv_istore (lv' := [(8, .int r_29), (7, .int r_28), (6, .int r_27), (5, .int x5_26), (14, .int r_21), (13, .int x13_18), (15, .int x15_13), (0, .ref eo), (1, .ref ib), (2, .int 0), (3, .ref ob), (4, .int 0), (9, .int k0), (10, .int k1), (11, .int k2), (12, .int k3)]) hx hb dX2_encryptBlock_319 hl (by decide) rfl (fun ls hl => ?_)
      have hm : (x5_26, r_27, r_28, r_29) = nk_mid (x5_14, x6_15, x7_16, x8_17) := by
        subst er_19 er_20 er_21 ex6_22 ex8_23 ex7_24 ex6_25 ex5_26 er_27 er_28 er_29
        rfl
      refine lv_goto (tgt := 71) hx hb dX2_encryptBlock_321 (by decide) ?_
      exact ih (r + 1) x5_26 r_27 r_28 r_29 x13_18 (by omega) (by omega) f13 (by rw [eF_s, ← hst, ← hth]; exact hm) ls (lv_sub hl [7, 8, 9, 10, 11, 3, 2, 1, 0, 12, 13, 14, 15, 5] rfl)
    · have h16 : r = 16 := by
        rcases Nat.lt_or_ge r 16 with z | z
        · exact absurd (show x13_18 ≤ nI 16 by rw [f13]; exact nI_le (by omega) (by omega)) c9
        · omega
      refine lv_goto (tgt := 324) hx hb dX2_encryptBlock_206 (by decide) ?_
      subst h16
      exact kk x5_14 x6_15 x7_16 x8_17 x13_18 ls (by unfold nk_enc; rw [← hst]; exact hth) (lv_sub hl [7, 8, 9, 10, 11, 4, 3, 2, 1, 12, 13, 14, 15, 0] rfl)
set_option maxHeartbeats 4000000 in
set_option maxRecDepth 100000 in
theorem metX2_encryptBlock (l : Launch) (G : va_G) (cb cI : ClassId) (t eo kq ib ob : Nat) (g f h : Nat → Int32) (sz : Nat) : Met l yX2_encryptBlock wsX2_encryptBlock ({ frames := 2, cells := 0, slots := 0, locals := 42 }) (pcW [.ref eo, .ref ib, .int 0, .ref ob, .int 0] G cb cI [(eo, .inr (1, [.ref kq, .int 1, .int 1])), (kq, .inl (cI, 4, .inl g)), (ib, .inl (cb, 16, .inl f)), (ob, .inl (cb, 16, .inl h))] sz (fun U => nk_ctx t (va_A [(eo, .inr (1, [.ref kq, .int 1, .int 1])), (kq, .inl (cI, 4, .inl g)), (ib, .inl (cb, 16, .inl f)), (ob, .inl (cb, 16, .inl h))] sz) U U.heap)) (qcI (fun (r : Int32) (u : Nat → Int32) => r = 16 ∧ nk_wds u = nk_enc (g 0, g 1, g 2, g 3) (nk_wds f)) G (fun u => [(eo, .inr (1, [.ref kq, .int 1, .int 1])), (kq, .inl (cI, 4, .inl g)), (ib, .inl (cb, 16, .inl f)), (ob, .inl (cb, 16, .inl u))]) (va_A [(eo, .inr (1, [.ref kq, .int 1, .int 1])), (kq, .inl (cI, 4, .inl g)), (ib, .inl (cb, 16, .inl f)), (ob, .inl (cb, 16, .inl h))] sz)) 0 0 (va_A [(eo, .inr (1, [.ref kq, .int 1, .int 1])), (kq, .inl (cI, 4, .inl g)), (ib, .inl (cb, 16, .inl f)), (ob, .inl (cb, 16, .inl h))] sz) := by
  refine Met.ofW (cc := cX2_encryptBlock) (maxL := 16) (ret := (some .int)) (by decide) rfl ?_
  intro p e s m args below meth c s₁ B hml hv
  obtain ⟨rfl, hsz, hP, hK, hD0, hE⟩ := hv
  have hx := B.exec
  have hb := B.bytes
  have hr := B.returns
  have hts := atoms_spec (ws := wsX2_encryptBlock) B.pre
  have hts : ∀ w ∈ lw_all, w.before _ s = true := fun w h => hts w (List.mem_cons_of_mem _ h)
  have hown : s.vm.findClass RX2 = some m.cls := findClass_of_methodNamed B.named
  have hlocks := B.notSynchronized
  subst hsz
  have hD := hD0.self (sz := s.heap.size)
  generalize hAe : va_A [(eo, .inr (1, [.ref kq, .int 1, .int 1])), (kq, .inl (cI, 4, .inl g)), (ib, .inl (cb, 16, .inl f)), (ob, .inl (cb, 16, .inl h))] s.heap.size = A at hD hE ⊢
  have hE : nk_ctx t A s s.heap := hE
  have hA : ∀ q : Nat, s.heap.size ≤ q → A q := fun q h => by rw [← hAe]; exact Or.inr h
  have hS : va_S A s.heap s.heap [] := va_S.rf
  have hP : va_P G vwCl [(eo, .inr (1, [.ref kq, .int 1, .int 1])), (kq, .inl (cI, 4, .inl g)), (ib, .inl (cb, 16, .inl f)), (ob, .inl (cb, 16, .inl h))] s.heap := hP
  have hl := lv_entry ([.ref eo, .ref ib, .int 0, .ref ob, .int 0]) (n := 16) (Nat.le_of_ble_eq_true rfl)
  rw [lg_entry_eq]
  generalize (lg_sl ([.ref eo, .ref ib, .int 0, .ref ob, .int 0]) ++ List.replicate (16 - (lg_sl ([.ref eo, .ref ib, .int 0, .ref ob, .int 0])).length) Slot.unset).toArray = ls at hl ⊢
  have hl : lv_has ls 16 [(0, .ref eo), (1, .ref ib), (2, .int 0), (3, .ref ob), (4, .int 0)] := hl
  refine lv_aload_n hx hb dX2_encryptBlock_0 rfl (lv_at hl 1 rfl) ?_
  refine lv_iload_n hx hb dX2_encryptBlock_1 rfl (lv_at hl 2 rfl) ?_
  have hPc := hP.sub (ws' := [(ib, .inl (cb, 16, .inl f))]) [2] rfl
  refine vp_callSi (W.runS (As := [.ref ib, .int 0]) (rest := []) ⟨hx, hb, hml, hown, hts⟩ (metX4_bigEndianToInt_2 l G cb cI ib 16 f 0 0 nI_0.symm (by omega) (by omega)) (va_cwS 2 hts (lw_S q232 q159 q13 q160) rfl rfl rfl (by decide +kernel) ⟨Nat.le_of_ble_eq_true rfl, Nat.le_of_ble_eq_true rfl⟩) (preR_S hPc hK tru_in) rfl rfl hl.1 rfl (lv_room (Nat.le_of_ble_eq_true rfl)) dX2_encryptBlock_2 ⟨Nat.le_of_ble_eq_true rfl, Nat.le_of_ble_eq_true rfl⟩) (fun r_1 er_1 => ?_)
  refine lv_istore (lv' := [(5, .int r_1), (0, .ref eo), (1, .ref ib), (2, .int 0), (3, .ref ob), (4, .int 0)]) hx hb dX2_encryptBlock_5 hl (by decide) rfl (fun ls hl => ?_)
  refine lv_aload_n hx hb dX2_encryptBlock_7 rfl (lv_at hl 2 rfl) ?_
  refine lv_iload_n hx hb dX2_encryptBlock_8 rfl (lv_at hl 3 rfl) ?_
  refine lv_iconst (v := 4) hx hb dX2_encryptBlock_9 (by decide) ?_
  refine lv_iadd hx hb dX2_encryptBlock_10 ?_
  have hPc := hP.sub (ws' := [(ib, .inl (cb, 16, .inl f))]) [2] rfl
  refine vp_callSi (W.runS (As := [.ref ib, .int (0 + 4)]) (rest := []) ⟨hx, hb, hml, hown, hts⟩ (metX4_bigEndianToInt_2 l G cb cI ib 16 f (0 + 4) 4 (by decide) (by omega) (by omega)) (va_cwS 2 hts (lw_S q232 q159 q13 q160) rfl rfl rfl (by decide +kernel) ⟨Nat.le_of_ble_eq_true rfl, Nat.le_of_ble_eq_true rfl⟩) (preR_S hPc hK tru_in) rfl rfl hl.1 rfl (lv_room (Nat.le_of_ble_eq_true rfl)) dX2_encryptBlock_11 ⟨Nat.le_of_ble_eq_true rfl, Nat.le_of_ble_eq_true rfl⟩) (fun r_2 er_2 => ?_)
  refine lv_istore (lv' := [(6, .int r_2), (5, .int r_1), (0, .ref eo), (1, .ref ib), (2, .int 0), (3, .ref ob), (4, .int 0)]) hx hb dX2_encryptBlock_14 hl (by decide) rfl (fun ls hl => ?_)
  refine lv_aload_n hx hb dX2_encryptBlock_16 rfl (lv_at hl 3 rfl) ?_
  refine lv_iload_n hx hb dX2_encryptBlock_17 rfl (lv_at hl 4 rfl) ?_
  refine lv_bipush (v := 8) hx hb dX2_encryptBlock_18 (by decide) ?_
  refine lv_iadd hx hb dX2_encryptBlock_20 ?_
  have hPc := hP.sub (ws' := [(ib, .inl (cb, 16, .inl f))]) [2] rfl
  refine vp_callSi (W.runS (As := [.ref ib, .int (0 + 8)]) (rest := []) ⟨hx, hb, hml, hown, hts⟩ (metX4_bigEndianToInt_2 l G cb cI ib 16 f (0 + 8) 8 (by decide) (by omega) (by omega)) (va_cwS 2 hts (lw_S q232 q159 q13 q160) rfl rfl rfl (by decide +kernel) ⟨Nat.le_of_ble_eq_true rfl, Nat.le_of_ble_eq_true rfl⟩) (preR_S hPc hK tru_in) rfl rfl hl.1 rfl (lv_room (Nat.le_of_ble_eq_true rfl)) dX2_encryptBlock_21 ⟨Nat.le_of_ble_eq_true rfl, Nat.le_of_ble_eq_true rfl⟩) (fun r_3 er_3 => ?_)
  refine lv_istore (lv' := [(7, .int r_3), (6, .int r_2), (5, .int r_1), (0, .ref eo), (1, .ref ib), (2, .int 0), (3, .ref ob), (4, .int 0)]) hx hb dX2_encryptBlock_24 hl (by decide) rfl (fun ls hl => ?_)
  refine lv_aload_n hx hb dX2_encryptBlock_26 rfl (lv_at hl 4 rfl) ?_
  refine lv_iload_n hx hb dX2_encryptBlock_27 rfl (lv_at hl 5 rfl) ?_
  refine lv_bipush (v := 12) hx hb dX2_encryptBlock_28 (by decide) ?_
  refine lv_iadd hx hb dX2_encryptBlock_30 ?_
  have hPc := hP.sub (ws' := [(ib, .inl (cb, 16, .inl f))]) [2] rfl
  refine vp_callSi (W.runS (As := [.ref ib, .int (0 + 12)]) (rest := []) ⟨hx, hb, hml, hown, hts⟩ (metX4_bigEndianToInt_2 l G cb cI ib 16 f (0 + 12) 12 (by decide) (by omega) (by omega)) (va_cwS 2 hts (lw_S q232 q159 q13 q160) rfl rfl rfl (by decide +kernel) ⟨Nat.le_of_ble_eq_true rfl, Nat.le_of_ble_eq_true rfl⟩) (preR_S hPc hK tru_in) rfl rfl hl.1 rfl (lv_room (Nat.le_of_ble_eq_true rfl)) dX2_encryptBlock_31 ⟨Nat.le_of_ble_eq_true rfl, Nat.le_of_ble_eq_true rfl⟩) (fun r_4 er_4 => ?_)
  refine lv_istore (lv' := [(8, .int r_4), (7, .int r_3), (6, .int r_2), (5, .int r_1), (0, .ref eo), (1, .ref ib), (2, .int 0), (3, .ref ob), (4, .int 0)]) hx hb dX2_encryptBlock_34 hl (by decide) rfl (fun ls hl => ?_)
  refine lv_aload_n hx hb dX2_encryptBlock_36 rfl (lv_at hl 4 rfl) ?_
  refine va_get (D := G) (ci := 1) (v := .ref kq) (C := RX2) (T := TX2) (N := 3) hx hb hts in_X2 hown hK hP 0 rfl rfl 0 (by decide) (hts _ q40) (fun _ h9 => h9) rfl dX2_encryptBlock_37 ?_
  refine lv_iconst (v := 0) hx hb dX2_encryptBlock_40 (by decide) ?_
  refine va_iald hx hb hK hP 1 1 rfl rfl in_0_4 dX2_encryptBlock_41 ?_
  refine lv_topi (fun z_5 ez_5 => ?_)
  obtain rfl : z_5 = g 0 := by rw [ez_5, cl_0]
  refine lv_istore (lv' := [(9, .int (g 0)), (8, .int r_4), (7, .int r_3), (6, .int r_2), (5, .int r_1), (0, .ref eo), (1, .ref ib), (2, .int 0), (3, .ref ob), (4, .int 0)]) hx hb dX2_encryptBlock_42 hl (by decide) rfl (fun ls hl => ?_)
  refine lv_aload_n hx hb dX2_encryptBlock_44 rfl (lv_at hl 5 rfl) ?_
  refine va_get (D := G) (ci := 1) (v := .ref kq) (C := RX2) (T := TX2) (N := 3) hx hb hts in_X2 hown hK hP 0 rfl rfl 0 (by decide) (hts _ q40) (fun _ h9 => h9) rfl dX2_encryptBlock_45 ?_
  refine lv_iconst (v := 1) hx hb dX2_encryptBlock_48 (by decide) ?_
  refine va_iald hx hb hK hP 1 1 rfl rfl in_1_4 dX2_encryptBlock_49 ?_
  refine lv_topi (fun z_6 ez_6 => ?_)
  obtain rfl : z_6 = g 1 := by rw [ez_6, cl_1]
  refine lv_istore (lv' := [(10, .int (g 1)), (9, .int (g 0)), (8, .int r_4), (7, .int r_3), (6, .int r_2), (5, .int r_1), (0, .ref eo), (1, .ref ib), (2, .int 0), (3, .ref ob), (4, .int 0)]) hx hb dX2_encryptBlock_50 hl (by decide) rfl (fun ls hl => ?_)
  refine lv_aload_n hx hb dX2_encryptBlock_52 rfl (lv_at hl 6 rfl) ?_
  refine va_get (D := G) (ci := 1) (v := .ref kq) (C := RX2) (T := TX2) (N := 3) hx hb hts in_X2 hown hK hP 0 rfl rfl 0 (by decide) (hts _ q40) (fun _ h9 => h9) rfl dX2_encryptBlock_53 ?_
  refine lv_iconst (v := 2) hx hb dX2_encryptBlock_56 (by decide) ?_
  refine va_iald hx hb hK hP 1 1 rfl rfl in_2_4 dX2_encryptBlock_57 ?_
  refine lv_topi (fun z_7 ez_7 => ?_)
  obtain rfl : z_7 = g 2 := by rw [ez_7, cl_2]
  refine lv_istore (lv' := [(11, .int (g 2)), (10, .int (g 1)), (9, .int (g 0)), (8, .int r_4), (7, .int r_3), (6, .int r_2), (5, .int r_1), (0, .ref eo), (1, .ref ib), (2, .int 0), (3, .ref ob), (4, .int 0)]) hx hb dX2_encryptBlock_58 hl (by decide) rfl (fun ls hl => ?_)
  refine lv_aload_n hx hb dX2_encryptBlock_60 rfl (lv_at hl 7 rfl) ?_
  refine va_get (D := G) (ci := 1) (v := .ref kq) (C := RX2) (T := TX2) (N := 3) hx hb hts in_X2 hown hK hP 0 rfl rfl 0 (by decide) (hts _ q40) (fun _ h9 => h9) rfl dX2_encryptBlock_61 ?_
  refine lv_iconst (v := 3) hx hb dX2_encryptBlock_64 (by decide) ?_
  refine va_iald hx hb hK hP 1 1 rfl rfl in_3_4 dX2_encryptBlock_65 ?_
  refine lv_topi (fun z_8 ez_8 => ?_)
  obtain rfl : z_8 = g 3 := by rw [ez_8, cl_3]
  refine lv_istore (lv' := [(12, .int (g 3)), (11, .int (g 2)), (10, .int (g 1)), (9, .int (g 0)), (8, .int r_4), (7, .int r_3), (6, .int r_2), (5, .int r_1), (0, .ref eo), (1, .ref ib), (2, .int 0), (3, .ref ob), (4, .int 0)]) hx hb dX2_encryptBlock_66 hl (by decide) rfl (fun ls hl => ?_)
  refine lv_iconst (v := 0) hx hb dX2_encryptBlock_68 (by decide) ?_
  refine lv_istore (lv' := [(13, .int 0), (12, .int (g 3)), (11, .int (g 2)), (10, .int (g 1)), (9, .int (g 0)), (8, .int r_4), (7, .int r_3), (6, .int r_2), (5, .int r_1), (0, .ref eo), (1, .ref ib), (2, .int 0), (3, .ref ob), (4, .int 0)]) hx hb dX2_encryptBlock_69 hl (by decide) rfl (fun ls hl => ?_)
  refine loopX2_encryptBlock (t := t) (a0 := nk_wds f) hx hb hml hown hts hS hE (Nat.le_of_ble_eq_true rfl) (Nat.le_of_ble_eq_true rfl) (Nat.le_of_ble_eq_true rfl) (Nat.le_of_ble_eq_true rfl) (fun x5 x6 x7 x8 x13 ls hst hl => ?_) 17 0 r_1 r_2 r_3 r_4 0 (by omega) (by omega) nI_0.symm (by rw [er_1, er_2, er_3, er_4]; rfl) ls (lv_sub hl [9, 10, 11, 12, 13, 8, 7, 6, 5, 4, 3, 2, 1, 0] rfl)
  refine lv_iload hx hb dX2_encryptBlock_324 (lv_at hl 5 rfl) ?_
  refine lv_aload_n hx hb dX2_encryptBlock_326 rfl (lv_at hl 3 rfl) ?_
  refine lv_iload hx hb dX2_encryptBlock_327 (lv_at hl 4 rfl) ?_
  have hPc := hP.sub (ws' := [(ob, .inl (cb, 16, .inl h))]) [3] rfl
  have hDc := hD.sub (ws' := [(ob, .inl (cb, 16, .inl h))]) [3] (by decide) rfl
  have hFc := va_free (wc := [(ob, .inl (cb, 16, .inl h))]) hD hS hA [3] rfl
  refine call_v (va_runS (As := [.int x5, .ref ob, .int 0]) (rest := []) ⟨hx, hb, hml, hown, hts⟩ (metX4_intToBigEndian l G cb cI ob 16 h x5 0 0 nI_0.symm (by omega) (by omega) _) (va_cwS 3 hts (lw_S q235 q236 q13 q237) rfl rfl rfl (by decide +kernel) ⟨Nat.le_of_ble_eq_true rfl, Nat.le_of_ble_eq_true rfl⟩) (preW_S hPc hK hDc (tru_in)) rfl rfl hl.1 rfl (lv_room (Nat.le_of_ble_eq_true rfl)) dX2_encryptBlock_329 ⟨Nat.le_of_ble_eq_true rfl, Nat.le_of_ble_eq_true rfl⟩) hP hD hS hFc [3] [0, 1, 2] (wr := [(eo, .inr (1, [.ref kq, .int 1, .int 1])), (kq, .inl (cI, 4, .inl g)), (ib, .inl (cb, 16, .inl f))]) rfl rfl (by decide) (by decide) (fun u_9 H locs huu_9 hP hD hS => ?_)
  have hP : va_P G vwCl [(eo, .inr (1, [.ref kq, .int 1, .int 1])), (kq, .inl (cI, 4, .inl g)), (ib, .inl (cb, 16, .inl f)), (ob, .inl (cb, 16, .inl u_9))] H := hP
  have hD : va_D A [(eo, .inr (1, [.ref kq, .int 1, .int 1])), (kq, .inl (cI, 4, .inl g)), (ib, .inl (cb, 16, .inl f)), (ob, .inl (cb, 16, .inl u_9))] := hD
  refine W.widen (k := 0) (n := 0) (by omega) (by omega) ?_
  refine lv_iload hx hb dX2_encryptBlock_332 (lv_at hl 6 rfl) ?_
  refine lv_aload_n hx hb dX2_encryptBlock_334 rfl (lv_at hl 3 rfl) ?_
  refine lv_iload hx hb dX2_encryptBlock_335 (lv_at hl 4 rfl) ?_
  refine lv_iconst (v := 4) hx hb dX2_encryptBlock_337 (by decide) ?_
  refine lv_iadd hx hb dX2_encryptBlock_338 ?_
  have hPc := hP.sub (ws' := [(ob, .inl (cb, 16, .inl u_9))]) [3] rfl
  have hDc := hD.sub (ws' := [(ob, .inl (cb, 16, .inl u_9))]) [3] (by decide) rfl
  have hFc := va_free (wc := [(ob, .inl (cb, 16, .inl u_9))]) hD hS hA [3] rfl
  refine call_v (va_runS (As := [.int x6, .ref ob, .int (0 + 4)]) (rest := []) ⟨hx, hb, hml, hown, hts⟩ (metX4_intToBigEndian l G cb cI ob 16 u_9 x6 (0 + 4) 4 (by decide) (by omega) (by omega) _) (va_cwS 3 hts (lw_S q235 q236 q13 q237) rfl rfl rfl (by decide +kernel) ⟨Nat.le_of_ble_eq_true rfl, Nat.le_of_ble_eq_true rfl⟩) (preW_S hPc hK hDc (tru_in)) rfl rfl hl.1 rfl (lv_room (Nat.le_of_ble_eq_true rfl)) dX2_encryptBlock_339 ⟨Nat.le_of_ble_eq_true rfl, Nat.le_of_ble_eq_true rfl⟩) hP hD hS hFc [3] [0, 1, 2] (wr := [(eo, .inr (1, [.ref kq, .int 1, .int 1])), (kq, .inl (cI, 4, .inl g)), (ib, .inl (cb, 16, .inl f))]) rfl rfl (by decide) (by decide) (fun u_10 H locs huu_10 hP hD hS => ?_)
  have hP : va_P G vwCl [(eo, .inr (1, [.ref kq, .int 1, .int 1])), (kq, .inl (cI, 4, .inl g)), (ib, .inl (cb, 16, .inl f)), (ob, .inl (cb, 16, .inl u_10))] H := hP
  have hD : va_D A [(eo, .inr (1, [.ref kq, .int 1, .int 1])), (kq, .inl (cI, 4, .inl g)), (ib, .inl (cb, 16, .inl f)), (ob, .inl (cb, 16, .inl u_10))] := hD
  refine W.widen (k := 0) (n := 0) (by omega) (by omega) ?_
  refine lv_iload hx hb dX2_encryptBlock_342 (lv_at hl 7 rfl) ?_
  refine lv_aload_n hx hb dX2_encryptBlock_344 rfl (lv_at hl 3 rfl) ?_
  refine lv_iload hx hb dX2_encryptBlock_345 (lv_at hl 4 rfl) ?_
  refine lv_bipush (v := 8) hx hb dX2_encryptBlock_347 (by decide) ?_
  refine lv_iadd hx hb dX2_encryptBlock_349 ?_
  have hPc := hP.sub (ws' := [(ob, .inl (cb, 16, .inl u_10))]) [3] rfl
  have hDc := hD.sub (ws' := [(ob, .inl (cb, 16, .inl u_10))]) [3] (by decide) rfl
  have hFc := va_free (wc := [(ob, .inl (cb, 16, .inl u_10))]) hD hS hA [3] rfl
  refine call_v (va_runS (As := [.int x7, .ref ob, .int (0 + 8)]) (rest := []) ⟨hx, hb, hml, hown, hts⟩ (metX4_intToBigEndian l G cb cI ob 16 u_10 x7 (0 + 8) 8 (by decide) (by omega) (by omega) _) (va_cwS 3 hts (lw_S q235 q236 q13 q237) rfl rfl rfl (by decide +kernel) ⟨Nat.le_of_ble_eq_true rfl, Nat.le_of_ble_eq_true rfl⟩) (preW_S hPc hK hDc (tru_in)) rfl rfl hl.1 rfl (lv_room (Nat.le_of_ble_eq_true rfl)) dX2_encryptBlock_350 ⟨Nat.le_of_ble_eq_true rfl, Nat.le_of_ble_eq_true rfl⟩) hP hD hS hFc [3] [0, 1, 2] (wr := [(eo, .inr (1, [.ref kq, .int 1, .int 1])), (kq, .inl (cI, 4, .inl g)), (ib, .inl (cb, 16, .inl f))]) rfl rfl (by decide) (by decide) (fun u_11 H locs huu_11 hP hD hS => ?_)
  have hP : va_P G vwCl [(eo, .inr (1, [.ref kq, .int 1, .int 1])), (kq, .inl (cI, 4, .inl g)), (ib, .inl (cb, 16, .inl f)), (ob, .inl (cb, 16, .inl u_11))] H := hP
  have hD : va_D A [(eo, .inr (1, [.ref kq, .int 1, .int 1])), (kq, .inl (cI, 4, .inl g)), (ib, .inl (cb, 16, .inl f)), (ob, .inl (cb, 16, .inl u_11))] := hD
  refine W.widen (k := 0) (n := 0) (by omega) (by omega) ?_
  refine lv_iload hx hb dX2_encryptBlock_353 (lv_at hl 8 rfl) ?_
  refine lv_aload_n hx hb dX2_encryptBlock_355 rfl (lv_at hl 3 rfl) ?_
  refine lv_iload hx hb dX2_encryptBlock_356 (lv_at hl 4 rfl) ?_
  refine lv_bipush (v := 12) hx hb dX2_encryptBlock_358 (by decide) ?_
  refine lv_iadd hx hb dX2_encryptBlock_360 ?_
  have hPc := hP.sub (ws' := [(ob, .inl (cb, 16, .inl u_11))]) [3] rfl
  have hDc := hD.sub (ws' := [(ob, .inl (cb, 16, .inl u_11))]) [3] (by decide) rfl
  have hFc := va_free (wc := [(ob, .inl (cb, 16, .inl u_11))]) hD hS hA [3] rfl
  refine call_v (va_runS (As := [.int x8, .ref ob, .int (0 + 12)]) (rest := []) ⟨hx, hb, hml, hown, hts⟩ (metX4_intToBigEndian l G cb cI ob 16 u_11 x8 (0 + 12) 12 (by decide) (by omega) (by omega) _) (va_cwS 3 hts (lw_S q235 q236 q13 q237) rfl rfl rfl (by decide +kernel) ⟨Nat.le_of_ble_eq_true rfl, Nat.le_of_ble_eq_true rfl⟩) (preW_S hPc hK hDc (tru_in)) rfl rfl hl.1 rfl (lv_room (Nat.le_of_ble_eq_true rfl)) dX2_encryptBlock_361 ⟨Nat.le_of_ble_eq_true rfl, Nat.le_of_ble_eq_true rfl⟩) hP hD hS hFc [3] [0, 1, 2] (wr := [(eo, .inr (1, [.ref kq, .int 1, .int 1])), (kq, .inl (cI, 4, .inl g)), (ib, .inl (cb, 16, .inl f))]) rfl rfl (by decide) (by decide) (fun u_12 H locs huu_12 hP hD hS => ?_)
  have hP : va_P G vwCl [(eo, .inr (1, [.ref kq, .int 1, .int 1])), (kq, .inl (cI, 4, .inl g)), (ib, .inl (cb, 16, .inl f)), (ob, .inl (cb, 16, .inl u_12))] H := hP
  have hD : va_D A [(eo, .inr (1, [.ref kq, .int 1, .int 1])), (kq, .inl (cI, 4, .inl g)), (ib, .inl (cb, 16, .inl f)), (ob, .inl (cb, 16, .inl u_12))] := hD
  refine W.widen (k := 0) (n := 0) (by omega) (by omega) ?_
  refine lv_bipush (v := 16) hx hb dX2_encryptBlock_364 (by decide) ?_
  have h4 := nk_four (k := 0) huu_9.1 huu_9.2 huu_10.1 huu_10.2 huu_11.1 huu_11.2 huu_12.1 huu_12.2
  have hw : nk_wds u_12 = nk_enc (g 0, g 1, g 2, g 3) (nk_wds f) := by
    rw [← hst]
    exact s4_ext h4.1.1 h4.1.2.1 h4.1.2.2.1 h4.1.2.2.2
  exact W.iret (v := 16) hx hb hr (fun t9 ht hW => ⟨⟨16, u_12, rfl, ⟨rfl, hw⟩, by rw [ht]; exact hP, hD⟩, hS.F ht⟩) hS.2.2 dX2_encryptBlock_366
set_option maxHeartbeats 4000000 in
set_option maxRecDepth 100000 in
/-- the loop, at its head: r rounds are to come -/
theorem loopX2_decryptBlock {p : Program} {l : Launch} {e : Env} {R : Room} {s : State} {m : MethodId} {below : List Frame} {meth : Method} {c : Code} {sarg : Array Value} {H : Heap} {locs : List Loc} {cells slots : Nat} {Q : State → Prop} {t : Nat} {A : Nat → Prop} {eo ib ob : Nat} {k0 k1 k2 k3 : Int32} {a0 : S4} (hx : p.tables.exec = Jvm.exec) (hb : c.code = cX2_decryptBlock) (hml : c.maxLocals = 16) (hown : s.vm.findClass RX2 = some m.cls) (hts : ∀ w ∈ lw_all, w.before sarg s = true) (hS : va_S A s.heap H locs) (hE : nk_ctx t A s s.heap) (hR1 : 2 ≤ R.frames) (hR2 : 42 ≤ R.locals) (hR3 : cells ≤ R.cells) (hR4 : slots ≤ R.slots)
    (kk : ∀ (x5 x6 x7 x8 x13 : Int32) (ls : Array Slot), (x5, x6, x7, x8) = nk_dec (k0, k1, k2, k3) a0 → lv_has ls 16 [(0, .ref eo), (1, .ref ib), (2, .int 0), (3, .ref ob), (4, .int 0), (5, .int x5), (6, .int x6), (7, .int x7), (8, .int x8), (9, .int k0), (10, .int k1), (11, .int k2), (12, .int k3), (13, .int x13)] → W p l e R s m sarg below meth c H locs cells slots Q (F0 m 323 ls [])) :
    ∀ (n r : Nat) (x5 x6 x7 x8 x13 : Int32), r ≤ 16 → r + 1 ≤ n → x13 = nI r → (x5, x6, x7, x8) = nk_dF (k0, k1, k2, k3) (16 - r) a0 → ∀ (ls : Array Slot), lv_has ls 16 [(0, .ref eo), (1, .ref ib), (2, .int 0), (3, .ref ob), (4, .int 0), (5, .int x5), (6, .int x6), (7, .int x7), (8, .int x8), (9, .int k0), (10, .int k1), (11, .int k2), (12, .int k3), (13, .int x13)] → W p l e R s m sarg below meth c H locs cells slots Q (F0 m 72 ls []) := by
  intro n
  induction n with
  | zero =>
    intro r x5 x6 x7 x8 x13 h1 h2
    exact absurd h2 (by omega)
  | succ n ih =>
    intro r x5 x6 x7 x8 x13 hr hn e13 hst ls hl
    refine lv_iload hx hb dX2_decryptBlock_72 (lv_at hl 5 rfl) ?_
    refine lv_iload hx hb dX2_decryptBlock_74 (lv_at hl 7 rfl) ?_
    refine lv_ixor hx hb dX2_decryptBlock_76 ?_
    refine lv_topi (fun x14_1 ex14_1 => ?_)
    refine lv_istore (lv' := [(14, .int x14_1), (0, .ref eo), (1, .ref ib), (2, .int 0), (3, .ref ob), (4, .int 0), (5, .int x5), (6, .int x6), (7, .int x7), (8, .int x8), (9, .int k0), (10, .int k1), (11, .int k2), (12, .int k3), (13, .int x13)]) hx hb dX2_decryptBlock_77 hl (by decide) rfl (fun ls hl => ?_)
    refine lv_iload hx hb dX2_decryptBlock_79 (lv_at hl 0 rfl) ?_
    refine lv_iload hx hb dX2_decryptBlock_81 (lv_at hl 0 rfl) ?_
    refine lv_bipush (v := 8) hx hb dX2_decryptBlock_83 (by decide) ?_
    refine vp_callSi (W.runS (As := [.int x14_1, .int 8]) (rest := [.int x14_1]) ⟨hx, hb, hml, hown, hts⟩ (metX5_rotateLeft l x14_1 8) (va_cwS 2 hts (lw_S q161 q162 q14 q163) rfl rfl rfl (by decide +kernel) ⟨hR1, hR2⟩) ⟨fun a U g mk q => q, fun U hU hW => ⟨rfl, trivial⟩⟩ rfl rfl hl.1 rfl (lv_room (Nat.le_of_ble_eq_true rfl)) dX2_decryptBlock_85 ⟨hR3, hR4⟩) (fun r_2 er_2 => ?_)
    refine lv_iload hx hb dX2_decryptBlock_88 (lv_at hl 0 rfl) ?_
    refine lv_bipush (v := 24) hx hb dX2_decryptBlock_90 (by decide) ?_
    refine vp_callSi (W.runS (As := [.int x14_1, .int 24]) (rest := [.int r_2, .int x14_1]) ⟨hx, hb, hml, hown, hts⟩ (metX5_rotateLeft l x14_1 24) (va_cwS 2 hts (lw_S q161 q162 q14 q163) rfl rfl rfl (by decide +kernel) ⟨hR1, hR2⟩) ⟨fun a U g mk q => q, fun U hU hW => ⟨rfl, trivial⟩⟩ rfl rfl hl.1 rfl (lv_room (Nat.le_of_ble_eq_true rfl)) dX2_decryptBlock_92 ⟨hR3, hR4⟩) (fun r_3 er_3 => ?_)
    refine lv_ixor hx hb dX2_decryptBlock_95 ?_
    refine lv_ixor hx hb dX2_decryptBlock_96 ?_
    refine lv_topi (fun x14_4 ex14_4 => ?_)
    refine lv_istore (lv' := [(14, .int x14_4), (0, .ref eo), (1, .ref ib), (2, .int 0), (3, .ref ob), (4, .int 0), (5, .int x5), (6, .int x6), (7, .int x7), (8, .int x8), (9, .int k0), (10, .int k1), (11, .int k2), (12, .int k3), (13, .int x13)]) hx hb dX2_decryptBlock_97 hl (by decide) rfl (fun ls hl => ?_)
    refine lv_iload hx hb dX2_decryptBlock_99 (lv_at hl 6 rfl) ?_
    refine lv_iload hx hb dX2_decryptBlock_101 (lv_at hl 10 rfl) ?_
    refine lv_ixor hx hb dX2_decryptBlock_103 ?_
    refine lv_topi (fun x5_5 ex5_5 => ?_)
    refine lv_istore (lv' := [(5, .int x5_5), (14, .int x14_4), (0, .ref eo), (1, .ref ib), (2, .int 0), (3, .ref ob), (4, .int 0), (6, .int x6), (7, .int x7), (8, .int x8), (9, .int k0), (10, .int k1), (11, .int k2), (12, .int k3), (13, .int x13)]) hx hb dX2_decryptBlock_104 hl (by decide) rfl (fun ls hl => ?_)
    refine lv_iload hx hb dX2_decryptBlock_106 (lv_at hl 7 rfl) ?_
    refine lv_iload hx hb dX2_decryptBlock_108 (lv_at hl 11 rfl) ?_
    refine lv_ixor hx hb dX2_decryptBlock_110 ?_
    refine lv_topi (fun x6_6 ex6_6 => ?_)
    refine lv_istore (lv' := [(6, .int x6_6), (5, .int x5_5), (14, .int x14_4), (0, .ref eo), (1, .ref ib), (2, .int 0), (3, .ref ob), (4, .int 0), (7, .int x7), (8, .int x8), (9, .int k0), (10, .int k1), (11, .int k2), (12, .int k3), (13, .int x13)]) hx hb dX2_decryptBlock_111 hl (by decide) rfl (fun ls hl => ?_)
    refine lv_iload hx hb dX2_decryptBlock_113 (lv_at hl 8 rfl) ?_
    refine lv_iload hx hb dX2_decryptBlock_115 (lv_at hl 12 rfl) ?_
    refine lv_ixor hx hb dX2_decryptBlock_117 ?_
    refine lv_topi (fun x7_7 ex7_7 => ?_)
    refine lv_istore (lv' := [(7, .int x7_7), (6, .int x6_6), (5, .int x5_5), (14, .int x14_4), (0, .ref eo), (1, .ref ib), (2, .int 0), (3, .ref ob), (4, .int 0), (8, .int x8), (9, .int k0), (10, .int k1), (11, .int k2), (12, .int k3), (13, .int x13)]) hx hb dX2_decryptBlock_118 hl (by decide) rfl (fun ls hl => ?_)
    refine lv_iload hx hb dX2_decryptBlock_120 (lv_at hl 9 rfl) ?_
    refine lv_iload hx hb dX2_decryptBlock_122 (lv_at hl 13 rfl) ?_
    refine lv_ixor hx hb dX2_decryptBlock_124 ?_
    refine lv_topi (fun x8_8 ex8_8 => ?_)
    refine lv_istore (lv' := [(8, .int x8_8), (7, .int x7_7), (6, .int x6_6), (5, .int x5_5), (14, .int x14_4), (0, .ref eo), (1, .ref ib), (2, .int 0), (3, .ref ob), (4, .int 0), (9, .int k0), (10, .int k1), (11, .int k2), (12, .int k3), (13, .int x13)]) hx hb dX2_decryptBlock_125 hl (by decide) rfl (fun ls hl => ?_)
    refine lv_iload hx hb dX2_decryptBlock_127 (lv_at hl 2 rfl) ?_
    refine lv_iload hx hb dX2_decryptBlock_129 (lv_at hl 0 rfl) ?_
    refine lv_ixor hx hb dX2_decryptBlock_131 ?_
    refine lv_topi (fun x15_9 ex15_9 => ?_)
    refine lv_istore (lv' := [(15, .int x15_9), (8, .int x8_8), (7, .int x7_7), (6, .int x6_6), (5, .int x5_5), (14, .int x14_4), (0, .ref eo), (1, .ref ib), (2, .int 0), (3, .ref ob), (4, .int 0), (9, .int k0), (10, .int k1), (11, .int k2), (12, .int k3), (13, .int x13)]) hx hb dX2_decryptBlock_132 hl (by decide) rfl (fun ls hl => ?_)
    refine lv_iload hx hb dX2_decryptBlock_134 (lv_at hl 0 rfl) ?_
    refine lv_iload hx hb dX2_decryptBlock_136 (lv_at hl 0 rfl) ?_
    refine lv_bipush (v := 8) hx hb dX2_decryptBlock_138 (by decide) ?_
    refine vp_callSi (W.runS (As := [.int x15_9, .int 8]) (rest := [.int x15_9]) ⟨hx, hb, hml, hown, hts⟩ (metX5_rotateLeft l x15_9 8) (va_cwS 2 hts (lw_S q161 q162 q14 q163) rfl rfl rfl (by decide +kernel) ⟨hR1, hR2⟩) ⟨fun a U g mk q => q, fun U hU hW => ⟨rfl, trivial⟩⟩ rfl rfl hl.1 rfl (lv_room (Nat.le_of_ble_eq_true rfl)) dX2_decryptBlock_140 ⟨hR3, hR4⟩) (fun r_10 er_10 => ?_)
    refine lv_iload hx hb dX2_decryptBlock_143 (lv_at hl 0 rfl) ?_
    refine lv_bipush (v := 24) hx hb dX2_decryptBlock_145 (by decide) ?_
    refine vp_callSi (W.runS (As := [.int x15_9, .int 24]) (rest := [.int r_10, .int x15_9]) ⟨hx, hb, hml, hown, hts⟩ (metX5_rotateLeft l x15_9 24) (va_cwS 2 hts (lw_S q161 q162 q14 q163) rfl rfl rfl (by decide +kernel) ⟨hR1, hR2⟩) ⟨fun a U g mk q => q, fun U hU hW => ⟨rfl, trivial⟩⟩ rfl rfl hl.1 rfl (lv_room (Nat.le_of_ble_eq_true rfl)) dX2_decryptBlock_147 ⟨hR3, hR4⟩) (fun r_11 er_11 => ?_)
    refine lv_ixor hx hb dX2_decryptBlock_150 ?_
    refine lv_ixor hx hb dX2_decryptBlock_151 ?_
    refine lv_topi (fun x15_12 ex15_12 => ?_)
    refine lv_istore (lv' := [(15, .int x15_12), (8, .int x8_8), (7, .int x7_7), (6, .int x6_6), (5, .int x5_5), (14, .int x14_4), (0, .ref eo), (1, .ref ib), (2, .int 0), (3, .ref ob), (4, .int 0), (9, .int k0), (10, .int k1), (11, .int k2), (12, .int k3), (13, .int x13)]) hx hb dX2_decryptBlock_152 hl (by decide) rfl (fun ls hl => ?_)
    refine lv_iload hx hb dX2_decryptBlock_154 (lv_at hl 4 rfl) ?_
    refine lv_iload hx hb dX2_decryptBlock_156 (lv_at hl 0 rfl) ?_
    refine lv_ixor hx hb dX2_decryptBlock_158 ?_
    refine lv_topi (fun x5_13 ex5_13 => ?_)
    refine lv_istore (lv' := [(5, .int x5_13), (15, .int x15_12), (8, .int x8_8), (7, .int x7_7), (6, .int x6_6), (14, .int x14_4), (0, .ref eo), (1, .ref ib), (2, .int 0), (3, .ref ob), (4, .int 0), (9, .int k0), (10, .int k1), (11, .int k2), (12, .int k3), (13, .int x13)]) hx hb dX2_decryptBlock_159 hl (by decide) rfl (fun ls hl => ?_)
    refine lv_iload hx hb dX2_decryptBlock_161 (lv_at hl 4 rfl) ?_
    refine lv_iload hx hb dX2_decryptBlock_163 (lv_at hl 5 rfl) ?_
    refine lv_ixor hx hb dX2_decryptBlock_165 ?_
    refine lv_topi (fun x6_14 ex6_14 => ?_)
    refine lv_istore (lv' := [(6, .int x6_14), (5, .int x5_13), (15, .int x15_12), (8, .int x8_8), (7, .int x7_7), (14, .int x14_4), (0, .ref eo), (1, .ref ib), (2, .int 0), (3, .ref ob), (4, .int 0), (9, .int k0), (10, .int k1), (11, .int k2), (12, .int k3), (13, .int x13)]) hx hb dX2_decryptBlock_166 hl (by decide) rfl (fun ls hl => ?_)
    refine lv_iload hx hb dX2_decryptBlock_168 (lv_at hl 4 rfl) ?_
    refine lv_iload hx hb dX2_decryptBlock_170 (lv_at hl 2 rfl) ?_
    refine lv_ixor hx hb dX2_decryptBlock_172 ?_
    refine lv_topi (fun x7_15 ex7_15 => ?_)
    refine lv_istore (lv' := [(7, .int x7_15), (6, .int x6_14), (5, .int x5_13), (15, .int x15_12), (8, .int x8_8), (14, .int x14_4), (0, .ref eo), (1, .ref ib), (2, .int 0), (3, .ref ob), (4, .int 0), (9, .int k0), (10, .int k1), (11, .int k2), (12, .int k3), (13, .int x13)]) hx hb dX2_decryptBlock_173 hl (by decide) rfl (fun ls hl => ?_)
    refine lv_iload hx hb dX2_decryptBlock_175 (lv_at hl 4 rfl) ?_
    refine lv_iload hx hb dX2_decryptBlock_177 (lv_at hl 5 rfl) ?_
    refine lv_ixor hx hb dX2_decryptBlock_179 ?_
    refine lv_topi (fun x8_16 ex8_16 => ?_)
    refine lv_istore (lv' := [(8, .int x8_16), (7, .int x7_15), (6, .int x6_14), (5, .int x5_13), (15, .int x15_12), (14, .int x14_4), (0, .ref eo), (1, .ref ib), (2, .int 0), (3, .ref ob), (4, .int 0), (9, .int k0), (10, .int k1), (11, .int k2), (12, .int k3), (13, .int x13)]) hx hb dX2_decryptBlock_180 hl (by decide) rfl (fun ls hl => ?_)
    refine lv_iload hx hb dX2_decryptBlock_182 (lv_at hl 3 rfl) ?_
    refine va_gets (v := .ref t) hx hb hE.1.1 hS hown (hts _ q233) (fun _ h9 => h9) dX2_decryptBlock_184 ?_
    refine lv_iload hx hb dX2_decryptBlock_187 (lv_at hl 15 rfl) ?_
    refine va_tb (v := .int (nk_rcb r)) hx hb hE.1.2 hS (by rw [e13]; exact vp_in_nI (by omega) (by omega)) (show Value.int (nk_rcb x13.toNatClampNeg) = .int (nk_rcb r) by rw [e13, nI_clamp (by omega)]) dX2_decryptBlock_189 ?_
    refine lv_sipush (v := 255) hx hb dX2_decryptBlock_190 (by decide) ?_
    refine lv_iand hx hb dX2_decryptBlock_193 ?_
    refine lv_ixor hx hb dX2_decryptBlock_194 ?_
    refine lv_topi (fun x5_17 ex5_17 => ?_)
    refine lv_istore (lv' := [(5, .int x5_17), (8, .int x8_16), (7, .int x7_15), (6, .int x6_14), (15, .int x15_12), (14, .int x14_4), (0, .ref eo), (1, .ref ib), (2, .int 0), (3, .ref ob), (4, .int 0), (9, .int k0), (10, .int k1), (11, .int k2), (12, .int k3), (13, .int x13)]) hx hb dX2_decryptBlock_195 hl (by decide) rfl (fun ls hl => ?_)
    have hth : (x5_17, x6_14, x7_15, x8_16) = nk_xrc r (nk_theta (k0, k1, k2, k3) (x5, x6, x7, x8)) := by
      subst ex14_1 er_2 er_3 ex14_4 ex5_5 ex6_6 ex7_7 ex8_8 ex15_9 er_10 er_11 ex15_12 ex5_13 ex6_14 ex7_15 ex8_16 ex5_17
      rfl
    obtain ⟨x13_18, ex13_18⟩ : ∃ y : Int32, y = x13 + Int32.ofInt (-1) := ⟨_, rfl⟩
    refine lv_iinc (v := x13_18) (lv' := [(13, .int x13_18), (5, .int x5_17), (8, .int x8_16), (7, .int x7_15), (6, .int x6_14), (15, .int x15_12), (14, .int x14_4), (0, .ref eo), (1, .ref ib), (2, .int 0), (3, .ref ob), (4, .int 0), (9, .int k0), (10, .int k1), (11, .int k2), (12, .int k3)]) hx hb dX2_decryptBlock_197 hl (k := 15) rfl ex13_18.symm (by decide) rfl (fun ls hl => ?_)
    refine lv_iload hx hb dX2_decryptBlock_200 (lv_at hl 0 rfl) ?_
    refine lv_if_ge (tgt := 208) hx hb dX2_decryptBlock_202 (by decide) (fun c9 => ?_) (fun c9 => ?_)
    · have hlt : 0 < r := by
        rcases Nat.eq_zero_or_pos r with z | z
        · subst z
          exact absurd c9 (by rw [ex13_18, e13]; decide)
        · exact z
      obtain ⟨r0, hr0⟩ : ∃ r0, r = r0 + 1 := ⟨r - 1, by omega⟩
      subst hr0
      have f13 : x13_18 = nI r0 := by rw [ex13_18, e13, nI_m1]
      refine lv_iload hx hb dX2_decryptBlock_208 (lv_at hl 4 rfl) ?_
      refine lv_iconst (v := 1) hx hb dX2_decryptBlock_210 (by decide) ?_
      refine vp_callSi (W.runS (As := [.int x6_14, .int 1]) (rest := []) ⟨hx, hb, hml, hown, hts⟩ (metX5_rotateLeft l x6_14 1) (va_cwS 2 hts (lw_S q161 q162 q14 q163) rfl rfl rfl (by decide +kernel) ⟨hR1, hR2⟩) ⟨fun a U g mk q => q, fun U hU hW => ⟨rfl, trivial⟩⟩ rfl rfl hl.1 rfl (lv_room (Nat.le_of_ble_eq_true rfl)) dX2_decryptBlock_211 ⟨hR3, hR4⟩) (fun r_19 er_19 => ?_)
      refine lv_istore (lv' := [(6, .int r_19), (13, .int x13_18), (5, .int x5_17), (8, .int x8_16), (7, .int x7_15), (15, .int x15_12), (14, .int x14_4), (0, .ref eo), (1, .ref ib), (2, .int 0), (3, .ref ob), (4, .int 0), (9, .int k0), (10, .int k1), (11, .int k2), (12, .int k3)]) hx hb dX2_decryptBlock_214 hl (by decide) rfl (fun ls hl => ?_)
      refine lv_iload hx hb dX2_decryptBlock_216 (lv_at hl 4 rfl) ?_
      refine lv_iconst (v := 5) hx hb dX2_decryptBlock_218 (by decide) ?_
      refine vp_callSi (W.runS (As := [.int x7_15, .int 5]) (rest := []) ⟨hx, hb, hml, hown, hts⟩ (metX5_rotateLeft l x7_15 5) (va_cwS 2 hts (lw_S q161 q162 q14 q163) rfl rfl rfl (by decide +kernel) ⟨hR1, hR2⟩) ⟨fun a U g mk q => q, fun U hU hW => ⟨rfl, trivial⟩⟩ rfl rfl hl.1 rfl (lv_room (Nat.le_of_ble_eq_true rfl)) dX2_decryptBlock_219 ⟨hR3, hR4⟩) (fun r_20 er_20 => ?_)
      refine lv_istore (lv' := [(7, .int r_20), (6, .int r_19), (13, .int x13_18), (5, .int x5_17), (8, .int x8_16), (15, .int x15_12), (14, .int x14_4), (0, .ref eo), (1, .ref ib), (2, .int 0), (3, .ref ob), (4, .int 0), (9, .int k0), (10, .int k1), (11, .int k2), (12, .int k3)]) hx hb dX2_decryptBlock_222 hl (by decide) rfl (fun ls hl => ?_)
      refine lv_iload hx hb dX2_decryptBlock_224 (lv_at hl 4 rfl) ?_
      refine lv_iconst (v := 2) hx hb dX2_decryptBlock_226 (by decide) ?_
      refine vp_callSi (W.runS (As := [.int x8_16, .int 2]) (rest := []) ⟨hx, hb, hml, hown, hts⟩ (metX5_rotateLeft l x8_16 2) (va_cwS 2 hts (lw_S q161 q162 q14 q163) rfl rfl rfl (by decide +kernel) ⟨hR1, hR2⟩) ⟨fun a U g mk q => q, fun U hU hW => ⟨rfl, trivial⟩⟩ rfl rfl hl.1 rfl (lv_room (Nat.le_of_ble_eq_true rfl)) dX2_decryptBlock_227 ⟨hR3, hR4⟩) (fun r_21 er_21 => ?_)
      refine lv_istore (lv' := [(8, .int r_21), (7, .int r_20), (6, .int r_19), (13, .int x13_18), (5, .int x5_17), (15, .int x15_12), (14, .int x14_4), (0, .ref eo), (1, .ref ib), (2, .int 0), (3, .ref ob), (4, .int 0), (9, .int k0), (10, .int k1), (11, .int k2), (12, .int k3)]) hx hb dX2_decryptBlock_230 hl (by decide) rfl (fun ls hl => ?_)
      refine lv_iload hx hb dX2_decryptBlock_232 (lv_at hl 0 rfl) ?_
      refine lv_istore (lv' := [(14, .int r_21), (8, .int r_21), (7, .int r_20), (6, .int r_19), (13, .int x13_18), (5, .int x5_17), (15, .int x15_12), (0, .ref eo), (1, .ref ib), (2, .int 0), (3, .ref ob), (4, .int 0), (9, .int k0), (10, .int k1), (11, .int k2), (12, .int k3)]) hx hb dX2_decryptBlock_234 hl (by decide) rfl (fun ls hl => ?_)
      refine lv_iload hx hb dX2_decryptBlock_236 (lv_at hl 3 rfl) ?_
      refine lv_iload hx hb dX2_decryptBlock_238 (lv_at hl 1 rfl) ?_
      refine lv_iload hx hb dX2_decryptBlock_240 (lv_at hl 2 rfl) ?_
      refine lv_ior hx hb dX2_decryptBlock_242 ?_
      refine lv_ixor hx hb dX2_decryptBlock_243 ?_
      refine lv_topi (fun x6_22 ex6_22 => ?_)
      refine lv_istore (lv' := [(6, .int x6_22), (14, .int r_21), (8, .int r_21), (7, .int r_20), (13, .int x13_18), (5, .int x5_17), (15, .int x15_12), (0, .ref eo), (1, .ref ib), (2, .int 0), (3, .ref ob), (4, .int 0), (9, .int k0), (10, .int k1), (11, .int k2), (12, .int k3)]) hx hb dX2_decryptBlock_244 hl (by decide) rfl (fun ls hl => ?_)
      refine lv_iload hx hb dX2_decryptBlock_246 (lv_at hl 5 rfl) ?_
      refine lv_iload hx hb dX2_decryptBlock_248 (lv_at hl 3 rfl) ?_
      refine lv_iload hx hb dX2_decryptBlock_250 (lv_at hl 0 rfl) ?_
      refine lv_iconst (v := (-1)) hx hb dX2_decryptBlock_252 (by decide) ?_
      refine lv_ixor hx hb dX2_decryptBlock_253 ?_
      refine lv_iand hx hb dX2_decryptBlock_254 ?_
      refine lv_ixor hx hb dX2_decryptBlock_255 ?_
      refine lv_topi (fun x8_23 ex8_23 => ?_)
      refine lv_istore (lv' := [(8, .int x8_23), (6, .int x6_22), (14, .int r_21), (7, .int r_20), (13, .int x13_18), (5, .int x5_17), (15, .int x15_12), (0, .ref eo), (1, .ref ib), (2, .int 0), (3, .ref ob), (4, .int 0), (9, .int k0), (10, .int k1), (11, .int k2), (12, .int k3)]) hx hb dX2_decryptBlock_256 hl (by decide) rfl (fun ls hl => ?_)
      refine lv_iload hx hb dX2_decryptBlock_258 (lv_at hl 2 rfl) ?_
      refine lv_iload hx hb dX2_decryptBlock_260 (lv_at hl 1 rfl) ?_
      refine lv_iconst (v := (-1)) hx hb dX2_decryptBlock_262 (by decide) ?_
      refine lv_ixor hx hb dX2_decryptBlock_263 ?_
      refine lv_ixor hx hb dX2_decryptBlock_264 ?_
      refine lv_iload hx hb dX2_decryptBlock_265 (lv_at hl 3 rfl) ?_
      refine lv_ixor hx hb dX2_decryptBlock_267 ?_
      refine lv_iload hx hb dX2_decryptBlock_268 (lv_at hl 0 rfl) ?_
      refine lv_ixor hx hb dX2_decryptBlock_270 ?_
      refine lv_topi (fun x7_24 ex7_24 => ?_)
      refine lv_istore (lv' := [(7, .int x7_24), (8, .int x8_23), (6, .int x6_22), (14, .int r_21), (13, .int x13_18), (5, .int x5_17), (15, .int x15_12), (0, .ref eo), (1, .ref ib), (2, .int 0), (3, .ref ob), (4, .int 0), (9, .int k0), (10, .int k1), (11, .int k2), (12, .int k3)]) hx hb dX2_decryptBlock_271 hl (by decide) rfl (fun ls hl => ?_)
      refine lv_iload hx hb dX2_decryptBlock_273 (lv_at hl 2 rfl) ?_
      refine lv_iload hx hb dX2_decryptBlock_275 (lv_at hl 1 rfl) ?_
      refine lv_iload hx hb dX2_decryptBlock_277 (lv_at hl 0 rfl) ?_
      refine lv_ior hx hb dX2_decryptBlock_279 ?_
      refine lv_ixor hx hb dX2_decryptBlock_280 ?_
      refine lv_topi (fun x6_25 ex6_25 => ?_)
      refine lv_istore (lv' := [(6, .int x6_25), (7, .int x7_24), (8, .int x8_23), (14, .int r_21), (13, .int x13_18), (5, .int x5_17), (15, .int x15_12), (0, .ref eo), (1, .ref ib), (2, .int 0), (3, .ref ob), (4, .int 0), (9, .int k0), (10, .int k1), (11, .int k2), (12, .int k3)]) hx hb dX2_decryptBlock_281 hl (by decide) rfl (fun ls hl => ?_)
      refine lv_iload hx hb dX2_decryptBlock_283 (lv_at hl 3 rfl) ?_
      refine lv_iload hx hb dX2_decryptBlock_285 (lv_at hl 1 rfl) ?_
      refine lv_iload hx hb dX2_decryptBlock_287 (lv_at hl 0 rfl) ?_
      refine lv_iand hx hb dX2_decryptBlock_289 ?_
      refine lv_ixor hx hb dX2_decryptBlock_290 ?_
      refine lv_topi (fun x5_26 ex5_26 => ?_)
      refine lv_istore (lv' := [(5, .int x5_26), (6, .int x6_25), (7, .int x7_24), (8, .int x8_23), (14, .int r_21), (13, .int x13_18), (15, .int x15_12), (0, .ref eo), (1, .ref ib), (2, .int 0), (3, .ref ob), (4, .int 0), (9, .int k0), (10, .int k1), (11, .int k2), (12, .int k3)]) hx hb dX2_decryptBlock_291 hl (by decide) rfl (fun ls hl => ?_)
      refine lv_iload hx hb dX2_decryptBlock_293 (lv_at hl 1 rfl) ?_
      refine lv_bipush (v := 31) hx hb dX2_decryptBlock_295 (by decide) ?_
      refine vp_callSi (W.runS (As := [.int x6_25, .int 31]) (rest := []) ⟨hx, hb, hml, hown, hts⟩ (metX5_rotateLeft l x6_25 31) (va_cwS 2 hts (lw_S q161 q162 q14 q163) rfl rfl rfl (by decide +kernel) ⟨hR1, hR2⟩) ⟨fun a U g mk q => q, fun U hU hW => ⟨rfl, trivial⟩⟩ rfl rfl hl.1 rfl (lv_room (Nat.le_of_ble_eq_true rfl)) dX2_decryptBlock_297 ⟨hR3, hR4⟩) (fun r_27 er_27 => ?_)
      refine lv_istore (lv' := [(6, .int r_27), (5, .int x5_26), (7, .int x7_24), (8, .int x8_23), (14, .int r_21), (13, .int x13_18), (15, .int x15_12), (0, .ref eo), (1, .ref ib), (2, .int 0), (3, .ref ob), (4, .int 0), (9, .int k0), (10, .int k1), (11, .int k2), (12, .int k3)]) hx hb dX2_decryptBlock_300 hl (by decide) rfl (fun ls hl => ?_)
      refine lv_iload hx hb dX2_decryptBlock_302 (lv_at hl 2 rfl) ?_
      refine lv_bipush (v := 27) hx hb dX2_decryptBlock_304 (by decide) ?_
      refine vp_callSi (W.runS (As := [.int x7_24, .int 27]) (rest := []) ⟨hx, hb, hml, hown, hts⟩ (metX5_rotateLeft l x7_24 27) (va_cwS 2 hts (lw_S q161 q162 q14 q163) rfl rfl rfl (by decide +kernel) ⟨hR1, hR2⟩) ⟨fun a U g mk q => q, fun U hU hW => ⟨rfl, trivial⟩⟩ rfl rfl hl.1 rfl (lv_room (Nat.le_of_ble_eq_true rfl)) dX2_decryptBlock_306 ⟨hR3, hR4⟩) (fun r_28 er_28 => ?_)
      refine lv_istore (lv' := [(7, .int r_28), (6, .int r_27), (5, .int x5_26), (8, .int x8_23), (14, .int r_21), (13, .int x13_18), (15, .int x15_12), (0, .ref eo), (1, .ref ib), (2, .int 0), (3, .ref ob), (4, .int 0), (9, .int k0), (10, .int k1), (11, .int k2), (12, .int k3)]) hx hb dX2_decryptBlock_309 hl (by decide) rfl (fun ls hl => ?_)
      refine lv_iload hx hb dX2_decryptBlock_311 (lv_at hl 3 rfl) ?_
      refine lv_bipush (v := 30) hx hb dX2_decryptBlock_313 (by decide) ?_
      refine vp_callSi (W.runS (As := [.int x8_23, .int 30]) (rest := []) ⟨hx, hb, hml, hown, hts⟩ (metX5_rotateLeft l x8_23 30) (va_cwS 2 hts (lw_S q161 q162 q14 q163) rfl rfl rfl (by decide +kernel) ⟨hR1, hR2⟩) ⟨fun a U g mk q => q, fun U hU hW => ⟨rfl, trivial⟩⟩ rfl rfl hl.1 rfl (lv_room (Nat.le_of_ble_eq_true rfl)) dX2_decryptBlock_315 ⟨hR3, hR4⟩) (fun r_29 er_29 => ?_)
      refine lv_istore (lv' := [(8, .int r_29), (7, .int r_28), (6, .int r_27), (5, .int x5_26), (14, .int r_21), (13, .int x13_18), (15, .int x15_12), (0, .ref eo), (1, .ref ib), (2, .int 0), (3, .ref ob), (4, .int 0), (9, .int k0), (10, .int k1), (11, .int k2), (12, .int k3)]) hx hb dX2_decryptBlock_318 hl (by decide) rfl (fun ls hl => ?_)
      have hm : (x5_26, r_27, r_28, r_29) = nk_mid (x5_17, x6_14, x7_15, x8_16) := by
        subst er_19 er_20 er_21 ex6_22 ex8_23 ex7_24 ex6_25 ex5_26 er_27 er_28 er_29
        rfl
      refine lv_goto (tgt := 72) hx hb dX2_decryptBlock_320 (by decide) ?_
      exact ih r0 x5_26 r_27 r_28 r_29 x13_18 (by omega) (by omega) f13 (by rw [show 16 - r0 = (16 - (r0 + 1)) + 1 by omega, dF_s, ← hst, show 16 - (16 - (r0 + 1)) = r0 + 1 by omega, ← hth]; exact hm) ls (lv_sub hl [7, 8, 9, 10, 11, 3, 2, 1, 0, 12, 13, 14, 15, 5] rfl)
    · have h0 : r = 0 := by
        rcases Nat.eq_zero_or_pos r with z | z
        · exact z
        · obtain ⟨r0, hr0⟩ : ∃ r0, r = r0 + 1 := ⟨r - 1, by omega⟩
          subst hr0
          exact absurd (show 0 ≤ x13_18 by rw [ex13_18, e13, nI_m1]; exact nI_pos' (by omega)) c9
      refine lv_goto (tgt := 323) hx hb dX2_decryptBlock_205 (by decide) ?_
      subst h0
      exact kk x5_17 x6_14 x7_15 x8_16 x13_18 ls (by unfold nk_dec; rw [← hst]; exact hth) (lv_sub hl [7, 8, 9, 10, 11, 1, 4, 3, 2, 12, 13, 14, 15, 0] rfl)
set_option maxHeartbeats 4000000 in
set_option maxRecDepth 100000 in
theorem metX2_decryptBlock (l : Launch) (G : va_G) (cb cI : ClassId) (t eo kq ib ob : Nat) (g f h : Nat → Int32) (sz : Nat) : Met l yX2_decryptBlock wsX2_decryptBlock ({ frames := 2, cells := 0, slots := 0, locals := 42 }) (pcW [.ref eo, .ref ib, .int 0, .ref ob, .int 0] G cb cI [(eo, .inr (1, [.ref kq, .int 1, .int 0])), (kq, .inl (cI, 4, .inl g)), (ib, .inl (cb, 16, .inl f)), (ob, .inl (cb, 16, .inl h))] sz (fun U => nk_ctx t (va_A [(eo, .inr (1, [.ref kq, .int 1, .int 0])), (kq, .inl (cI, 4, .inl g)), (ib, .inl (cb, 16, .inl f)), (ob, .inl (cb, 16, .inl h))] sz) U U.heap)) (qcI (fun (r : Int32) (u : Nat → Int32) => r = 16 ∧ nk_wds u = nk_dec (g 0, g 1, g 2, g 3) (nk_wds f)) G (fun u => [(eo, .inr (1, [.ref kq, .int 1, .int 0])), (kq, .inl (cI, 4, .inl g)), (ib, .inl (cb, 16, .inl f)), (ob, .inl (cb, 16, .inl u))]) (va_A [(eo, .inr (1, [.ref kq, .int 1, .int 0])), (kq, .inl (cI, 4, .inl g)), (ib, .inl (cb, 16, .inl f)), (ob, .inl (cb, 16, .inl h))] sz)) 0 0 (va_A [(eo, .inr (1, [.ref kq, .int 1, .int 0])), (kq, .inl (cI, 4, .inl g)), (ib, .inl (cb, 16, .inl f)), (ob, .inl (cb, 16, .inl h))] sz) := by
  refine Met.ofW (cc := cX2_decryptBlock) (maxL := 16) (ret := (some .int)) (by decide) rfl ?_
  intro p e s m args below meth c s₁ B hml hv
  obtain ⟨rfl, hsz, hP, hK, hD0, hE⟩ := hv
  have hx := B.exec
  have hb := B.bytes
  have hr := B.returns
  have hts := atoms_spec (ws := wsX2_decryptBlock) B.pre
  have hts : ∀ w ∈ lw_all, w.before _ s = true := fun w h => hts w (List.mem_cons_of_mem _ h)
  have hown : s.vm.findClass RX2 = some m.cls := findClass_of_methodNamed B.named
  have hlocks := B.notSynchronized
  subst hsz
  have hD := hD0.self (sz := s.heap.size)
  generalize hAe : va_A [(eo, .inr (1, [.ref kq, .int 1, .int 0])), (kq, .inl (cI, 4, .inl g)), (ib, .inl (cb, 16, .inl f)), (ob, .inl (cb, 16, .inl h))] s.heap.size = A at hD hE ⊢
  have hE : nk_ctx t A s s.heap := hE
  have hA : ∀ q : Nat, s.heap.size ≤ q → A q := fun q h => by rw [← hAe]; exact Or.inr h
  have hS : va_S A s.heap s.heap [] := va_S.rf
  have hP : va_P G vwCl [(eo, .inr (1, [.ref kq, .int 1, .int 0])), (kq, .inl (cI, 4, .inl g)), (ib, .inl (cb, 16, .inl f)), (ob, .inl (cb, 16, .inl h))] s.heap := hP
  have hl := lv_entry ([.ref eo, .ref ib, .int 0, .ref ob, .int 0]) (n := 16) (Nat.le_of_ble_eq_true rfl)
  rw [lg_entry_eq]
  generalize (lg_sl ([.ref eo, .ref ib, .int 0, .ref ob, .int 0]) ++ List.replicate (16 - (lg_sl ([.ref eo, .ref ib, .int 0, .ref ob, .int 0])).length) Slot.unset).toArray = ls at hl ⊢
  have hl : lv_has ls 16 [(0, .ref eo), (1, .ref ib), (2, .int 0), (3, .ref ob), (4, .int 0)] := hl
  refine lv_aload_n hx hb dX2_decryptBlock_0 rfl (lv_at hl 1 rfl) ?_
  refine lv_iload_n hx hb dX2_decryptBlock_1 rfl (lv_at hl 2 rfl) ?_
  have hPc := hP.sub (ws' := [(ib, .inl (cb, 16, .inl f))]) [2] rfl
  refine vp_callSi (W.runS (As := [.ref ib, .int 0]) (rest := []) ⟨hx, hb, hml, hown, hts⟩ (metX4_bigEndianToInt_2 l G cb cI ib 16 f 0 0 nI_0.symm (by omega) (by omega)) (va_cwS 2 hts (lw_S q232 q159 q13 q160) rfl rfl rfl (by decide +kernel) ⟨Nat.le_of_ble_eq_true rfl, Nat.le_of_ble_eq_true rfl⟩) (preR_S hPc hK tru_in) rfl rfl hl.1 rfl (lv_room (Nat.le_of_ble_eq_true rfl)) dX2_decryptBlock_2 ⟨Nat.le_of_ble_eq_true rfl, Nat.le_of_ble_eq_true rfl⟩) (fun r_1 er_1 => ?_)
  refine lv_istore (lv' := [(5, .int r_1), (0, .ref eo), (1, .ref ib), (2, .int 0), (3, .ref ob), (4, .int 0)]) hx hb dX2_decryptBlock_5 hl (by decide) rfl (fun ls hl => ?_)
  refine lv_aload_n hx hb dX2_decryptBlock_7 rfl (lv_at hl 2 rfl) ?_
  refine lv_iload_n hx hb dX2_decryptBlock_8 rfl (lv_at hl 3 rfl) ?_
  refine lv_iconst (v := 4) hx hb dX2_decryptBlock_9 (by decide) ?_
  refine lv_iadd hx hb dX2_decryptBlock_10 ?_
  have hPc := hP.sub (ws' := [(ib, .inl (cb, 16, .inl f))]) [2] rfl
  refine vp_callSi (W.runS (As := [.ref ib, .int (0 + 4)]) (rest := []) ⟨hx, hb, hml, hown, hts⟩ (metX4_bigEndianToInt_2 l G cb cI ib 16 f (0 + 4) 4 (by decide) (by omega) (by omega)) (va_cwS 2 hts (lw_S q232 q159 q13 q160) rfl rfl rfl (by decide +kernel) ⟨Nat.le_of_ble_eq_true rfl, Nat.le_of_ble_eq_true rfl⟩) (preR_S hPc hK tru_in) rfl rfl hl.1 rfl (lv_room (Nat.le_of_ble_eq_true rfl)) dX2_decryptBlock_11 ⟨Nat.le_of_ble_eq_true rfl, Nat.le_of_ble_eq_true rfl⟩) (fun r_2 er_2 => ?_)
  refine lv_istore (lv' := [(6, .int r_2), (5, .int r_1), (0, .ref eo), (1, .ref ib), (2, .int 0), (3, .ref ob), (4, .int 0)]) hx hb dX2_decryptBlock_14 hl (by decide) rfl (fun ls hl => ?_)
  refine lv_aload_n hx hb dX2_decryptBlock_16 rfl (lv_at hl 3 rfl) ?_
  refine lv_iload_n hx hb dX2_decryptBlock_17 rfl (lv_at hl 4 rfl) ?_
  refine lv_bipush (v := 8) hx hb dX2_decryptBlock_18 (by decide) ?_
  refine lv_iadd hx hb dX2_decryptBlock_20 ?_
  have hPc := hP.sub (ws' := [(ib, .inl (cb, 16, .inl f))]) [2] rfl
  refine vp_callSi (W.runS (As := [.ref ib, .int (0 + 8)]) (rest := []) ⟨hx, hb, hml, hown, hts⟩ (metX4_bigEndianToInt_2 l G cb cI ib 16 f (0 + 8) 8 (by decide) (by omega) (by omega)) (va_cwS 2 hts (lw_S q232 q159 q13 q160) rfl rfl rfl (by decide +kernel) ⟨Nat.le_of_ble_eq_true rfl, Nat.le_of_ble_eq_true rfl⟩) (preR_S hPc hK tru_in) rfl rfl hl.1 rfl (lv_room (Nat.le_of_ble_eq_true rfl)) dX2_decryptBlock_21 ⟨Nat.le_of_ble_eq_true rfl, Nat.le_of_ble_eq_true rfl⟩) (fun r_3 er_3 => ?_)
  refine lv_istore (lv' := [(7, .int r_3), (6, .int r_2), (5, .int r_1), (0, .ref eo), (1, .ref ib), (2, .int 0), (3, .ref ob), (4, .int 0)]) hx hb dX2_decryptBlock_24 hl (by decide) rfl (fun ls hl => ?_)
  refine lv_aload_n hx hb dX2_decryptBlock_26 rfl (lv_at hl 4 rfl) ?_
  refine lv_iload_n hx hb dX2_decryptBlock_27 rfl (lv_at hl 5 rfl) ?_
  refine lv_bipush (v := 12) hx hb dX2_decryptBlock_28 (by decide) ?_
  refine lv_iadd hx hb dX2_decryptBlock_30 ?_
  have hPc := hP.sub (ws' := [(ib, .inl (cb, 16, .inl f))]) [2] rfl
  refine vp_callSi (W.runS (As := [.ref ib, .int (0 + 12)]) (rest := []) ⟨hx, hb, hml, hown, hts⟩ (metX4_bigEndianToInt_2 l G cb cI ib 16 f (0 + 12) 12 (by decide) (by omega) (by omega)) (va_cwS 2 hts (lw_S q232 q159 q13 q160) rfl rfl rfl (by decide +kernel) ⟨Nat.le_of_ble_eq_true rfl, Nat.le_of_ble_eq_true rfl⟩) (preR_S hPc hK tru_in) rfl rfl hl.1 rfl (lv_room (Nat.le_of_ble_eq_true rfl)) dX2_decryptBlock_31 ⟨Nat.le_of_ble_eq_true rfl, Nat.le_of_ble_eq_true rfl⟩) (fun r_4 er_4 => ?_)
  refine lv_istore (lv' := [(8, .int r_4), (7, .int r_3), (6, .int r_2), (5, .int r_1), (0, .ref eo), (1, .ref ib), (2, .int 0), (3, .ref ob), (4, .int 0)]) hx hb dX2_decryptBlock_34 hl (by decide) rfl (fun ls hl => ?_)
  refine lv_aload_n hx hb dX2_decryptBlock_36 rfl (lv_at hl 4 rfl) ?_
  refine va_get (D := G) (ci := 1) (v := .ref kq) (C := RX2) (T := TX2) (N := 3) hx hb hts in_X2 hown hK hP 0 rfl rfl 0 (by decide) (hts _ q40) (fun _ h9 => h9) rfl dX2_decryptBlock_37 ?_
  refine lv_iconst (v := 0) hx hb dX2_decryptBlock_40 (by decide) ?_
  refine va_iald hx hb hK hP 1 1 rfl rfl in_0_4 dX2_decryptBlock_41 ?_
  refine lv_topi (fun z_5 ez_5 => ?_)
  obtain rfl : z_5 = g 0 := by rw [ez_5, cl_0]
  refine lv_istore (lv' := [(9, .int (g 0)), (8, .int r_4), (7, .int r_3), (6, .int r_2), (5, .int r_1), (0, .ref eo), (1, .ref ib), (2, .int 0), (3, .ref ob), (4, .int 0)]) hx hb dX2_decryptBlock_42 hl (by decide) rfl (fun ls hl => ?_)
  refine lv_aload_n hx hb dX2_decryptBlock_44 rfl (lv_at hl 5 rfl) ?_
  refine va_get (D := G) (ci := 1) (v := .ref kq) (C := RX2) (T := TX2) (N := 3) hx hb hts in_X2 hown hK hP 0 rfl rfl 0 (by decide) (hts _ q40) (fun _ h9 => h9) rfl dX2_decryptBlock_45 ?_
  refine lv_iconst (v := 1) hx hb dX2_decryptBlock_48 (by decide) ?_
  refine va_iald hx hb hK hP 1 1 rfl rfl in_1_4 dX2_decryptBlock_49 ?_
  refine lv_topi (fun z_6 ez_6 => ?_)
  obtain rfl : z_6 = g 1 := by rw [ez_6, cl_1]
  refine lv_istore (lv' := [(10, .int (g 1)), (9, .int (g 0)), (8, .int r_4), (7, .int r_3), (6, .int r_2), (5, .int r_1), (0, .ref eo), (1, .ref ib), (2, .int 0), (3, .ref ob), (4, .int 0)]) hx hb dX2_decryptBlock_50 hl (by decide) rfl (fun ls hl => ?_)
  refine lv_aload_n hx hb dX2_decryptBlock_52 rfl (lv_at hl 6 rfl) ?_
  refine va_get (D := G) (ci := 1) (v := .ref kq) (C := RX2) (T := TX2) (N := 3) hx hb hts in_X2 hown hK hP 0 rfl rfl 0 (by decide) (hts _ q40) (fun _ h9 => h9) rfl dX2_decryptBlock_53 ?_
  refine lv_iconst (v := 2) hx hb dX2_decryptBlock_56 (by decide) ?_
  refine va_iald hx hb hK hP 1 1 rfl rfl in_2_4 dX2_decryptBlock_57 ?_
  refine lv_topi (fun z_7 ez_7 => ?_)
  obtain rfl : z_7 = g 2 := by rw [ez_7, cl_2]
  refine lv_istore (lv' := [(11, .int (g 2)), (10, .int (g 1)), (9, .int (g 0)), (8, .int r_4), (7, .int r_3), (6, .int r_2), (5, .int r_1), (0, .ref eo), (1, .ref ib), (2, .int 0), (3, .ref ob), (4, .int 0)]) hx hb dX2_decryptBlock_58 hl (by decide) rfl (fun ls hl => ?_)
  refine lv_aload_n hx hb dX2_decryptBlock_60 rfl (lv_at hl 7 rfl) ?_
  refine va_get (D := G) (ci := 1) (v := .ref kq) (C := RX2) (T := TX2) (N := 3) hx hb hts in_X2 hown hK hP 0 rfl rfl 0 (by decide) (hts _ q40) (fun _ h9 => h9) rfl dX2_decryptBlock_61 ?_
  refine lv_iconst (v := 3) hx hb dX2_decryptBlock_64 (by decide) ?_
  refine va_iald hx hb hK hP 1 1 rfl rfl in_3_4 dX2_decryptBlock_65 ?_
  refine lv_topi (fun z_8 ez_8 => ?_)
  obtain rfl : z_8 = g 3 := by rw [ez_8, cl_3]
  refine lv_istore (lv' := [(12, .int (g 3)), (11, .int (g 2)), (10, .int (g 1)), (9, .int (g 0)), (8, .int r_4), (7, .int r_3), (6, .int r_2), (5, .int r_1), (0, .ref eo), (1, .ref ib), (2, .int 0), (3, .ref ob), (4, .int 0)]) hx hb dX2_decryptBlock_66 hl (by decide) rfl (fun ls hl => ?_)
  refine lv_bipush (v := 16) hx hb dX2_decryptBlock_68 (by decide) ?_
  refine lv_istore (lv' := [(13, .int 16), (12, .int (g 3)), (11, .int (g 2)), (10, .int (g 1)), (9, .int (g 0)), (8, .int r_4), (7, .int r_3), (6, .int r_2), (5, .int r_1), (0, .ref eo), (1, .ref ib), (2, .int 0), (3, .ref ob), (4, .int 0)]) hx hb dX2_decryptBlock_70 hl (by decide) rfl (fun ls hl => ?_)
  refine loopX2_decryptBlock (t := t) (a0 := nk_wds f) hx hb hml hown hts hS hE (Nat.le_of_ble_eq_true rfl) (Nat.le_of_ble_eq_true rfl) (Nat.le_of_ble_eq_true rfl) (Nat.le_of_ble_eq_true rfl) (fun x5 x6 x7 x8 x13 ls hst hl => ?_) 17 16 r_1 r_2 r_3 r_4 16 (by omega) (by omega) (by decide) (by rw [er_1, er_2, er_3, er_4]; rfl) ls (lv_sub hl [9, 10, 11, 12, 13, 8, 7, 6, 5, 4, 3, 2, 1, 0] rfl)
  refine lv_iload hx hb dX2_decryptBlock_323 (lv_at hl 5 rfl) ?_
  refine lv_aload_n hx hb dX2_decryptBlock_325 rfl (lv_at hl 3 rfl) ?_
  refine lv_iload hx hb dX2_decryptBlock_326 (lv_at hl 4 rfl) ?_
  have hPc := hP.sub (ws' := [(ob, .inl (cb, 16, .inl h))]) [3] rfl
  have hDc := hD.sub (ws' := [(ob, .inl (cb, 16, .inl h))]) [3] (by decide) rfl
  have hFc := va_free (wc := [(ob, .inl (cb, 16, .inl h))]) hD hS hA [3] rfl
  refine call_v (va_runS (As := [.int x5, .ref ob, .int 0]) (rest := []) ⟨hx, hb, hml, hown, hts⟩ (metX4_intToBigEndian l G cb cI ob 16 h x5 0 0 nI_0.symm (by omega) (by omega) _) (va_cwS 3 hts (lw_S q235 q236 q13 q237) rfl rfl rfl (by decide +kernel) ⟨Nat.le_of_ble_eq_true rfl, Nat.le_of_ble_eq_true rfl⟩) (preW_S hPc hK hDc (tru_in)) rfl rfl hl.1 rfl (lv_room (Nat.le_of_ble_eq_true rfl)) dX2_decryptBlock_328 ⟨Nat.le_of_ble_eq_true rfl, Nat.le_of_ble_eq_true rfl⟩) hP hD hS hFc [3] [0, 1, 2] (wr := [(eo, .inr (1, [.ref kq, .int 1, .int 0])), (kq, .inl (cI, 4, .inl g)), (ib, .inl (cb, 16, .inl f))]) rfl rfl (by decide) (by decide) (fun u_9 H locs huu_9 hP hD hS => ?_)
  have hP : va_P G vwCl [(eo, .inr (1, [.ref kq, .int 1, .int 0])), (kq, .inl (cI, 4, .inl g)), (ib, .inl (cb, 16, .inl f)), (ob, .inl (cb, 16, .inl u_9))] H := hP
  have hD : va_D A [(eo, .inr (1, [.ref kq, .int 1, .int 0])), (kq, .inl (cI, 4, .inl g)), (ib, .inl (cb, 16, .inl f)), (ob, .inl (cb, 16, .inl u_9))] := hD
  refine W.widen (k := 0) (n := 0) (by omega) (by omega) ?_
  refine lv_iload hx hb dX2_decryptBlock_331 (lv_at hl 6 rfl) ?_
  refine lv_aload_n hx hb dX2_decryptBlock_333 rfl (lv_at hl 3 rfl) ?_
  refine lv_iload hx hb dX2_decryptBlock_334 (lv_at hl 4 rfl) ?_
  refine lv_iconst (v := 4) hx hb dX2_decryptBlock_336 (by decide) ?_
  refine lv_iadd hx hb dX2_decryptBlock_337 ?_
  have hPc := hP.sub (ws' := [(ob, .inl (cb, 16, .inl u_9))]) [3] rfl
  have hDc := hD.sub (ws' := [(ob, .inl (cb, 16, .inl u_9))]) [3] (by decide) rfl
  have hFc := va_free (wc := [(ob, .inl (cb, 16, .inl u_9))]) hD hS hA [3] rfl
  refine call_v (va_runS (As := [.int x6, .ref ob, .int (0 + 4)]) (rest := []) ⟨hx, hb, hml, hown, hts⟩ (metX4_intToBigEndian l G cb cI ob 16 u_9 x6 (0 + 4) 4 (by decide) (by omega) (by omega) _) (va_cwS 3 hts (lw_S q235 q236 q13 q237) rfl rfl rfl (by decide +kernel) ⟨Nat.le_of_ble_eq_true rfl, Nat.le_of_ble_eq_true rfl⟩) (preW_S hPc hK hDc (tru_in)) rfl rfl hl.1 rfl (lv_room (Nat.le_of_ble_eq_true rfl)) dX2_decryptBlock_338 ⟨Nat.le_of_ble_eq_true rfl, Nat.le_of_ble_eq_true rfl⟩) hP hD hS hFc [3] [0, 1, 2] (wr := [(eo, .inr (1, [.ref kq, .int 1, .int 0])), (kq, .inl (cI, 4, .inl g)), (ib, .inl (cb, 16, .inl f))]) rfl rfl (by decide) (by decide) (fun u_10 H locs huu_10 hP hD hS => ?_)
  have hP : va_P G vwCl [(eo, .inr (1, [.ref kq, .int 1, .int 0])), (kq, .inl (cI, 4, .inl g)), (ib, .inl (cb, 16, .inl f)), (ob, .inl (cb, 16, .inl u_10))] H := hP
  have hD : va_D A [(eo, .inr (1, [.ref kq, .int 1, .int 0])), (kq, .inl (cI, 4, .inl g)), (ib, .inl (cb, 16, .inl f)), (ob, .inl (cb, 16, .inl u_10))] := hD
  refine W.widen (k := 0) (n := 0) (by omega) (by omega) ?_
  refine lv_iload hx hb dX2_decryptBlock_341 (lv_at hl 7 rfl) ?_
  refine lv_aload_n hx hb dX2_decryptBlock_343 rfl (lv_at hl 3 rfl) ?_
  refine lv_iload hx hb dX2_decryptBlock_344 (lv_at hl 4 rfl) ?_
  refine lv_bipush (v := 8) hx hb dX2_decryptBlock_346 (by decide) ?_
  refine lv_iadd hx hb dX2_decryptBlock_348 ?_
  have hPc := hP.sub (ws' := [(ob, .inl (cb, 16, .inl u_10))]) [3] rfl
  have hDc := hD.sub (ws' := [(ob, .inl (cb, 16, .inl u_10))]) [3] (by decide) rfl
  have hFc := va_free (wc := [(ob, .inl (cb, 16, .inl u_10))]) hD hS hA [3] rfl
  refine call_v (va_runS (As := [.int x7, .ref ob, .int (0 + 8)]) (rest := []) ⟨hx, hb, hml, hown, hts⟩ (metX4_intToBigEndian l G cb cI ob 16 u_10 x7 (0 + 8) 8 (by decide) (by omega) (by omega) _) (va_cwS 3 hts (lw_S q235 q236 q13 q237) rfl rfl rfl (by decide +kernel) ⟨Nat.le_of_ble_eq_true rfl, Nat.le_of_ble_eq_true rfl⟩) (preW_S hPc hK hDc (tru_in)) rfl rfl hl.1 rfl (lv_room (Nat.le_of_ble_eq_true rfl)) dX2_decryptBlock_349 ⟨Nat.le_of_ble_eq_true rfl, Nat.le_of_ble_eq_true rfl⟩) hP hD hS hFc [3] [0, 1, 2] (wr := [(eo, .inr (1, [.ref kq, .int 1, .int 0])), (kq, .inl (cI, 4, .inl g)), (ib, .inl (cb, 16, .inl f))]) rfl rfl (by decide) (by decide) (fun u_11 H locs huu_11 hP hD hS => ?_)
  have hP : va_P G vwCl [(eo, .inr (1, [.ref kq, .int 1, .int 0])), (kq, .inl (cI, 4, .inl g)), (ib, .inl (cb, 16, .inl f)), (ob, .inl (cb, 16, .inl u_11))] H := hP
  have hD : va_D A [(eo, .inr (1, [.ref kq, .int 1, .int 0])), (kq, .inl (cI, 4, .inl g)), (ib, .inl (cb, 16, .inl f)), (ob, .inl (cb, 16, .inl u_11))] := hD
  refine W.widen (k := 0) (n := 0) (by omega) (by omega) ?_
  refine lv_iload hx hb dX2_decryptBlock_352 (lv_at hl 8 rfl) ?_
  refine lv_aload_n hx hb dX2_decryptBlock_354 rfl (lv_at hl 3 rfl) ?_
  refine lv_iload hx hb dX2_decryptBlock_355 (lv_at hl 4 rfl) ?_
  refine lv_bipush (v := 12) hx hb dX2_decryptBlock_357 (by decide) ?_
  refine lv_iadd hx hb dX2_decryptBlock_359 ?_
  have hPc := hP.sub (ws' := [(ob, .inl (cb, 16, .inl u_11))]) [3] rfl
  have hDc := hD.sub (ws' := [(ob, .inl (cb, 16, .inl u_11))]) [3] (by decide) rfl
  have hFc := va_free (wc := [(ob, .inl (cb, 16, .inl u_11))]) hD hS hA [3] rfl
  refine call_v (va_runS (As := [.int x8, .ref ob, .int (0 + 12)]) (rest := []) ⟨hx, hb, hml, hown, hts⟩ (metX4_intToBigEndian l G cb cI ob 16 u_11 x8 (0 + 12) 12 (by decide) (by omega) (by omega) _) (va_cwS 3 hts (lw_S q235 q236 q13 q237) rfl rfl rfl (by decide +kernel) ⟨Nat.le_of_ble_eq_true rfl, Nat.le_of_ble_eq_true rfl⟩) (preW_S hPc hK hDc (tru_in)) rfl rfl hl.1 rfl (lv_room (Nat.le_of_ble_eq_true rfl)) dX2_decryptBlock_360 ⟨Nat.le_of_ble_eq_true rfl, Nat.le_of_ble_eq_true rfl⟩) hP hD hS hFc [3] [0, 1, 2] (wr := [(eo, .inr (1, [.ref kq, .int 1, .int 0])), (kq, .inl (cI, 4, .inl g)), (ib, .inl (cb, 16, .inl f))]) rfl rfl (by decide) (by decide) (fun u_12 H locs huu_12 hP hD hS => ?_)
  have hP : va_P G vwCl [(eo, .inr (1, [.ref kq, .int 1, .int 0])), (kq, .inl (cI, 4, .inl g)), (ib, .inl (cb, 16, .inl f)), (ob, .inl (cb, 16, .inl u_12))] H := hP
  have hD : va_D A [(eo, .inr (1, [.ref kq, .int 1, .int 0])), (kq, .inl (cI, 4, .inl g)), (ib, .inl (cb, 16, .inl f)), (ob, .inl (cb, 16, .inl u_12))] := hD
  refine W.widen (k := 0) (n := 0) (by omega) (by omega) ?_
  refine lv_bipush (v := 16) hx hb dX2_decryptBlock_363 (by decide) ?_
  have h4 := nk_four (k := 0) huu_9.1 huu_9.2 huu_10.1 huu_10.2 huu_11.1 huu_11.2 huu_12.1 huu_12.2
  have hw : nk_wds u_12 = nk_dec (g 0, g 1, g 2, g 3) (nk_wds f) := by
    rw [← hst]
    exact s4_ext h4.1.1 h4.1.2.1 h4.1.2.2.1 h4.1.2.2.2
  exact W.iret (v := 16) hx hb hr (fun t9 ht hW => ⟨⟨16, u_12, rfl, ⟨rfl, hw⟩, by rw [ht]; exact hP, hD⟩, hS.F ht⟩) hS.2.2 dX2_decryptBlock_365
end
section
set_option maxHeartbeats 4000000 in
set_option maxRecDepth 100000 in
theorem metX2_init (l : Launch) (G : va_G) (cb cI : ClassId) (eo : Nat) (sz : Nat) : Met l yX2_init wsX2_init ({ frames := 1, cells := 1, slots := 4, locals := 12 }) (pcW [.ref eo] G cb cI [(eo, .inr (1, [.null, .int 0, .int 0]))] sz tru) (qcV (fun _ : Nat => True) G (fun u => [(eo, .inr (1, [.ref u, .int 0, .int 0])), (u, .inl (cI, 4, .inl (fun _ => 0)))]) (va_A [(eo, .inr (1, [.null, .int 0, .int 0]))] sz)) 1 4 (va_A [(eo, .inr (1, [.null, .int 0, .int 0]))] sz) := by
  refine Met.ofW (cc := cX2_init) (maxL := 1) (ret := none) (by decide) rfl ?_
  intro p e s m args below meth c s₁ B hml hv
  obtain ⟨rfl, hsz, hP, hK, hD0, hE⟩ := hv
  have hx := B.exec
  have hb := B.bytes
  have hr := B.returns
  have hts := atoms_spec (ws := wsX2_init) B.pre
  have hts : ∀ w ∈ lw_all, w.before _ s = true := fun w h => hts w (List.mem_cons_of_mem _ h)
  have hown : s.vm.findClass RX2 = some m.cls := findClass_of_methodNamed B.named
  have hlocks := B.notSynchronized
  have hin : meth.name = "<init>" := (name_of_methodNamed B.named B.method).1
  subst hsz
  have hD := hD0.self (sz := s.heap.size)
  generalize hAe : va_A [(eo, .inr (1, [.null, .int 0, .int 0]))] s.heap.size = A at hD ⊢
  have hA : ∀ q : Nat, s.heap.size ≤ q → A q := fun q h => by rw [← hAe]; exact Or.inr h
  have hS : va_S A s.heap s.heap [] := va_S.rf
  have hP : va_P G vwCl [(eo, .inr (1, [.null, .int 0, .int 0]))] s.heap := hP
  have hl := lv_entry ([.ref eo]) (n := 1) (Nat.le_of_ble_eq_true rfl)
  rw [lg_entry_eq]
  generalize (lg_sl ([.ref eo]) ++ List.replicate (1 - (lg_sl ([.ref eo])).length) Slot.unset).toArray = ls at hl ⊢
  have hl : lv_has ls 1 [(0, .ref eo)] := hl
  refine lv_aload_n hx hb dX2_init_0 rfl (lv_at hl 0 rfl) ?_
  refine W.objInit hx hb hown (hts _ q37) (hts _ q38) (hts _ q39) rfl (by rw [hml]; exact hl.1) rfl dX2_init_1 (Nat.le_of_ble_eq_true rfl) (Nat.le_of_ble_eq_true rfl) ?_
  refine W.eq (g2 := F0 m 4 ls []) rfl ?_
  refine lv_aload_n hx hb dX2_init_4 rfl (lv_at hl 0 rfl) ?_
  refine lv_iconst (v := 4) hx hb dX2_init_5 (by decide) ?_
  refine va_newa (atype := .int) (ty := .int) (a0 := (4, .inl (fun _ => 0))) (N' := 4) hx hb (hts _ q51) rfl hK hP hD hS hA (fun _ => rfl) (by decide) (by decide) (Nat.le_of_ble_eq_true rfl) (Nat.le_of_ble_eq_true rfl) (Nat.le_of_ble_eq_true rfl) dX2_init_6 (fun qa_1 cA H hK hP hD hS => ?_)
  have hcA : cI = cA := ki_eq hK
  subst hcA
  have hK := hK.sub (tys' := [(cb, .byte), (cI, .int)]) [0, 1] rfl
  have hP : va_P G vwCl [(eo, .inr (1, [.null, .int 0, .int 0])), (qa_1, .inl (cI, 4, .inl (fun _ => 0)))] H := hP
  have hD : va_D A [(eo, .inr (1, [.null, .int 0, .int 0])), (qa_1, .inl (cI, 4, .inl (fun _ => 0)))] := hD
  refine W.widen (k := 1) (n := 4) (by omega) (by omega) ?_
  refine va_putF (D := G) (ci := 1) (v := .ref qa_1) (ty := .array .int) (C := RX2) (T := TX2) (N := 3) hx hb hts in_X2 tyX2 tyX2_ok nmX2 hown hK hP hD hS 0 rfl rfl 0 (by decide) (hts _ q40) (fun _ h9 => h9) rfl hin rfl (by decide +kernel) rfl rfl (Nat.le_of_ble_eq_true rfl) dX2_init_8 (fun H locs hP hD hS => ?_)
  have hP : va_P G vwCl [(eo, .inr (1, [.ref qa_1, .int 0, .int 0])), (qa_1, .inl (cI, 4, .inl (fun _ => 0)))] H := hP
  have hD : va_D A [(eo, .inr (1, [.ref qa_1, .int 0, .int 0])), (qa_1, .inl (cI, 4, .inl (fun _ => 0)))] := hD
  refine lv_aload_n hx hb dX2_init_11 rfl (lv_at hl 0 rfl) ?_
  refine lv_iconst (v := 0) hx hb dX2_init_12 (by decide) ?_
  refine va_put (D := G) (ci := 1) (v := .int 0) (ty := .boolean) (C := RX2) (T := TX2) (N := 3) hx hb hts in_X2 tyX2 tyX2_ok nmX2 hown hK hP hD hS 0 rfl rfl 1 (by decide) (hts _ q41) (fun _ h9 => h9) rfl (by decide +kernel) rfl rfl (Nat.le_of_ble_eq_true rfl) dX2_init_13 (fun H locs hP hD hS => ?_)
  have hP : va_P G vwCl [(eo, .inr (1, [.ref qa_1, .int 0, .int 0])), (qa_1, .inl (cI, 4, .inl (fun _ => 0)))] H := hP
  have hD : va_D A [(eo, .inr (1, [.ref qa_1, .int 0, .int 0])), (qa_1, .inl (cI, 4, .inl (fun _ => 0)))] := hD
  exact W.vret hx hb hr (fun t ht hW => ⟨⟨qa_1, rfl, trivial, by rw [ht]; exact hP, hD⟩, hS.F ht⟩) hS.2.2 dX2_init_16
set_option maxHeartbeats 4000000 in
set_option maxRecDepth 100000 in
theorem metX2_init_2_1 (l : Launch) (G : va_G) (cb cI : ClassId) (eo kq kp q : Nat) (g f : Nat → Int32) (sz : Nat) : Met l yX2_init_2 wsX2_init_2 ({ frames := 2, cells := 0, slots := 0, locals := 47 }) (pcW [.ref eo, .int 1, .ref kp] G cb cI [(eo, .inr (1, [.ref kq, .int 0, .int 0])), (kq, .inl (cI, 4, .inl g)), (kp, .inr (2, [.ref q])), (q, .inl (cb, 16, .inl f))] sz tru) (qcV (fun u : Nat → Int32 => (u 0, u 1, u 2, u 3) = nk_wds f) G (fun u => [(kp, .inr (2, [.ref q])), (q, .inl (cb, 16, .inl f)), (eo, .inr (1, [.ref kq, .int 1, .int 1])), (kq, .inl (cI, 4, .inl u))]) (va_A [(eo, .inr (1, [.ref kq, .int 0, .int 0])), (kq, .inl (cI, 4, .inl g)), (kp, .inr (2, [.ref q])), (q, .inl (cb, 16, .inl f))] sz)) 0 0 (va_A [(eo, .inr (1, [.ref kq, .int 0, .int 0])), (kq, .inl (cI, 4, .inl g)), (kp, .inr (2, [.ref q])), (q, .inl (cb, 16, .inl f))] sz) := by
  refine Met.ofW (cc := cX2_init_2) (maxL := 11) (ret := none) (by decide) rfl ?_
  intro p e s m args below meth c s₁ B hml hv
  obtain ⟨rfl, hsz, hP, hK, hD0, hE⟩ := hv
  have hx := B.exec
  have hb := B.bytes
  have hr := B.returns
  have hts := atoms_spec (ws := wsX2_init_2) B.pre
  have hts : ∀ w ∈ lw_all, w.before _ s = true := fun w h => hts w (List.mem_cons_of_mem _ h)
  have hown : s.vm.findClass RX2 = some m.cls := findClass_of_methodNamed B.named
  have hlocks := B.notSynchronized
  subst hsz
  have hD := hD0.self (sz := s.heap.size)
  generalize hAe : va_A [(eo, .inr (1, [.ref kq, .int 0, .int 0])), (kq, .inl (cI, 4, .inl g)), (kp, .inr (2, [.ref q])), (q, .inl (cb, 16, .inl f))] s.heap.size = A at hD ⊢
  have hA : ∀ q : Nat, s.heap.size ≤ q → A q := fun q h => by rw [← hAe]; exact Or.inr h
  have hS : va_S A s.heap s.heap [] := va_S.rf
  have hP : va_P G vwCl [(eo, .inr (1, [.ref kq, .int 0, .int 0])), (kq, .inl (cI, 4, .inl g)), (kp, .inr (2, [.ref q])), (q, .inl (cb, 16, .inl f))] s.heap := hP
  have hl := lv_entry ([.ref eo, .int 1, .ref kp]) (n := 11) (Nat.le_of_ble_eq_true rfl)
  rw [lg_entry_eq]
  generalize (lg_sl ([.ref eo, .int 1, .ref kp]) ++ List.replicate (11 - (lg_sl ([.ref eo, .int 1, .ref kp])).length) Slot.unset).toArray = ls at hl ⊢
  have hl : lv_has ls 11 [(0, .ref eo), (1, .int 1), (2, .ref kp)] := hl
  refine lv_aload_n hx hb dX2_init_2_0 rfl (lv_at hl 2 rfl) ?_
  refine va_instS hx hb hown (hts _ q81) (hK.1 2 _ rfl).2 (va_recv hK hP (ci := 2) (q0 := 2) rfl rfl) dX2_init_2_1 ?_
  refine lv_if_ne (tgt := 17) hx hb dX2_init_2_4 (by decide) (fun c9 => ?_) (fun c9 => absurd c9 (by decide))
  refine lv_aload_n hx hb dX2_init_2_17 rfl (lv_at hl 2 rfl) ?_
  refine va_castS hx hb hown (hts _ q81) (hK.1 2 _ rfl).2 (va_recv hK hP (ci := 2) (q0 := 2) rfl rfl) dX2_init_2_18 ?_
  refine lv_astore_n (lv' := [(3, .ref kp), (0, .ref eo), (1, .int 1), (2, .ref kp)]) hx hb dX2_init_2_21 rfl hl (by decide) rfl (fun ls hl => ?_)
  refine lv_aload_n hx hb dX2_init_2_22 rfl (lv_at hl 0 rfl) ?_
  have hPc := hP.sub (ws' := [(kp, .inr (2, [.ref q]))]) [2] rfl
  refine va_csr (W.runV (As := []) (rest := []) ⟨hx, hb, hml, hown, hts⟩ (metX3_getKey l G cb cI kp q) (cwV 0 hts (lw_V q150 q151 q152 q7 q153) rfl rfl rfl (by decide +kernel) ⟨Nat.le_of_ble_eq_true rfl, Nat.le_of_ble_eq_true rfl⟩) (preR_V (ci := 2) (q0 := 0) hPc hK tru_in rfl rfl) rfl rfl hl.1 rfl (lv_room (Nat.le_of_ble_eq_true rfl)) dX2_init_2_23 ⟨Nat.le_of_ble_eq_true rfl, Nat.le_of_ble_eq_true rfl⟩) (fun k9 _ => ?_)
  refine W.eq (g2 := F0 m 26 ls [.ref q]) rfl ?_
  refine lv_astore (lv' := [(4, .ref q), (3, .ref kp), (0, .ref eo), (1, .int 1), (2, .ref kp)]) hx hb dX2_init_2_26 hl (by decide) rfl (fun ls hl => ?_)
  refine lv_aload hx hb dX2_init_2_28 (lv_at hl 0 rfl) ?_
  refine va_alen (v := 16) hx hb hK hP 3 0 rfl rfl (by first | rfl | decide) dX2_init_2_30 ?_
  refine lv_bipush (v := 16) hx hb dX2_init_2_31 (by decide) ?_
  refine lv_icmp_eq (tgt := 46) hx hb dX2_init_2_33 (by decide) (fun c9 => ?_) (fun c9 => absurd rfl c9)
  refine lv_aload hx hb dX2_init_2_46 (lv_at hl 0 rfl) ?_
  refine lv_iconst (v := 0) hx hb dX2_init_2_48 (by decide) ?_
  refine lv_aload_n hx hb dX2_init_2_49 rfl (lv_at hl 2 rfl) ?_
  refine va_get (D := G) (ci := 1) (v := .ref kq) (C := RX2) (T := TX2) (N := 3) hx hb hts in_X2 hown hK hP 0 rfl rfl 0 (by decide) (hts _ q40) (fun _ h9 => h9) rfl dX2_init_2_50 ?_
  refine lv_iconst (v := 0) hx hb dX2_init_2_53 (by decide) ?_
  refine lv_iconst (v := 4) hx hb dX2_init_2_54 (by decide) ?_
  have hPc := hP.sub (ws' := [(q, .inl (cb, 16, .inl f)), (kq, .inl (cI, 4, .inl g))]) [3, 1] rfl
  have hDc := hD.sub (ws' := [(q, .inl (cb, 16, .inl f)), (kq, .inl (cI, 4, .inl g))]) [3, 1] (by decide) rfl
  have hFc := va_free (wc := [(q, .inl (cb, 16, .inl f)), (kq, .inl (cI, 4, .inl g))]) hD hS hA [3, 1] rfl
  refine call_v (va_runS (As := [.ref q, .int 0, .ref kq, .int 0, .int 4]) (rest := []) ⟨hx, hb, hml, hown, hts⟩ (metX4_bigEndianToInt l G cb cI q kq f g _) (va_cwS 5 hts (lw_S q155 q156 q13 q157) rfl rfl rfl (by decide +kernel) ⟨Nat.le_of_ble_eq_true rfl, Nat.le_of_ble_eq_true rfl⟩) (preW_S hPc hK hDc (tru_in)) rfl rfl hl.1 rfl (lv_room (Nat.le_of_ble_eq_true rfl)) dX2_init_2_55 ⟨Nat.le_of_ble_eq_true rfl, Nat.le_of_ble_eq_true rfl⟩) hP hD hS hFc [3, 1] [0, 2] (wr := [(eo, .inr (1, [.ref kq, .int 0, .int 0])), (kp, .inr (2, [.ref q]))]) rfl rfl (by decide) (by decide) (fun u_1 H locs huu_1 hP hD hS => ?_)
  have hP : va_P G vwCl [(eo, .inr (1, [.ref kq, .int 0, .int 0])), (kp, .inr (2, [.ref q])), (q, .inl (cb, 16, .inl f)), (kq, .inl (cI, 4, .inl u_1))] H := hP
  have hD : va_D A [(eo, .inr (1, [.ref kq, .int 0, .int 0])), (kp, .inr (2, [.ref q])), (q, .inl (cb, 16, .inl f)), (kq, .inl (cI, 4, .inl u_1))] := hD
  refine W.widen (k := 0) (n := 0) (by omega) (by omega) ?_
  have hu : (u_1 0, u_1 1, u_1 2, u_1 3) = nk_wds f := s4_ext (huu_1 0 (by omega)) (huu_1 1 (by omega)) (huu_1 2 (by omega)) (huu_1 3 (by omega))
  refine lv_iload_n hx hb dX2_init_2_58 rfl (lv_at hl 3 rfl) ?_
  refine lv_if_ne (tgt := 208) hx hb dX2_init_2_59 (by decide) (fun c9 => ?_) (fun c9 => absurd c9 (by decide))
  refine lv_aload_n hx hb dX2_init_2_208 rfl (lv_at hl 2 rfl) ?_
  refine lv_iload_n hx hb dX2_init_2_209 rfl (lv_at hl 3 rfl) ?_
  refine va_put (D := G) (ci := 1) (v := .int 1) (ty := .boolean) (C := RX2) (T := TX2) (N := 3) hx hb hts in_X2 tyX2 tyX2_ok nmX2 hown hK hP hD hS 0 rfl rfl 2 (by decide) (hts _ q42) (fun _ h9 => h9) rfl (by decide +kernel) rfl rfl (Nat.le_of_ble_eq_true rfl) dX2_init_2_210 (fun H locs hP hD hS => ?_)
  have hP : va_P G vwCl [(eo, .inr (1, [.ref kq, .int 0, .int 1])), (kp, .inr (2, [.ref q])), (q, .inl (cb, 16, .inl f)), (kq, .inl (cI, 4, .inl u_1))] H := hP
  have hD : va_D A [(eo, .inr (1, [.ref kq, .int 0, .int 1])), (kp, .inr (2, [.ref q])), (q, .inl (cb, 16, .inl f)), (kq, .inl (cI, 4, .inl u_1))] := hD
  refine lv_aload_n hx hb dX2_init_2_213 rfl (lv_at hl 2 rfl) ?_
  refine lv_iconst (v := 1) hx hb dX2_init_2_214 (by decide) ?_
  refine va_put (D := G) (ci := 1) (v := .int 1) (ty := .boolean) (C := RX2) (T := TX2) (N := 3) hx hb hts in_X2 tyX2 tyX2_ok nmX2 hown hK hP hD hS 0 rfl rfl 1 (by decide) (hts _ q41) (fun _ h9 => h9) rfl (by decide +kernel) rfl rfl (Nat.le_of_ble_eq_true rfl) dX2_init_2_215 (fun H locs hP hD hS => ?_)
  have hP : va_P G vwCl [(eo, .inr (1, [.ref kq, .int 1, .int 1])), (kp, .inr (2, [.ref q])), (q, .inl (cb, 16, .inl f)), (kq, .inl (cI, 4, .inl u_1))] H := hP
  have hD : va_D A [(eo, .inr (1, [.ref kq, .int 1, .int 1])), (kp, .inr (2, [.ref q])), (q, .inl (cb, 16, .inl f)), (kq, .inl (cI, 4, .inl u_1))] := hD
  have hP := hP.sub (ws' := [(kp, .inr (2, [.ref q])), (q, .inl (cb, 16, .inl f)), (eo, .inr (1, [.ref kq, .int 1, .int 1])), (kq, .inl (cI, 4, .inl u_1))]) [1, 2, 0, 3] rfl
  have hD := hD.sub (ws' := [(kp, .inr (2, [.ref q])), (q, .inl (cb, 16, .inl f)), (eo, .inr (1, [.ref kq, .int 1, .int 1])), (kq, .inl (cI, 4, .inl u_1))]) [1, 2, 0, 3] (by decide) rfl
  exact W.vret hx hb hr (fun t ht hW => ⟨⟨u_1, rfl, hu, by rw [ht]; exact hP, hD⟩, hS.F ht⟩) hS.2.2 dX2_init_2_218
set_option maxHeartbeats 4000000 in
set_option maxRecDepth 100000 in
theorem metX2_init_2_0 (l : Launch) (G : va_G) (cb cI : ClassId) (eo kq kp q : Nat) (g f : Nat → Int32) (sz : Nat) : Met l yX2_init_2 wsX2_init_2 ({ frames := 2, cells := 0, slots := 0, locals := 47 }) (pcW [.ref eo, .int 0, .ref kp] G cb cI [(eo, .inr (1, [.ref kq, .int 0, .int 0])), (kq, .inl (cI, 4, .inl g)), (kp, .inr (2, [.ref q])), (q, .inl (cb, 16, .inl f))] sz tru) (qcV (fun u : Nat → Int32 => (u 0, u 1, u 2, u 3) = nk_keyD (nk_wds f)) G (fun u => [(kp, .inr (2, [.ref q])), (q, .inl (cb, 16, .inl f)), (eo, .inr (1, [.ref kq, .int 1, .int 0])), (kq, .inl (cI, 4, .inl u))]) (va_A [(eo, .inr (1, [.ref kq, .int 0, .int 0])), (kq, .inl (cI, 4, .inl g)), (kp, .inr (2, [.ref q])), (q, .inl (cb, 16, .inl f))] sz)) 0 0 (va_A [(eo, .inr (1, [.ref kq, .int 0, .int 0])), (kq, .inl (cI, 4, .inl g)), (kp, .inr (2, [.ref q])), (q, .inl (cb, 16, .inl f))] sz) := by
  refine Met.ofW (cc := cX2_init_2) (maxL := 11) (ret := none) (by decide) rfl ?_
  intro p e s m args below meth c s₁ B hml hv
  obtain ⟨rfl, hsz, hP, hK, hD0, hE⟩ := hv
  have hx := B.exec
  have hb := B.bytes
  have hr := B.returns
  have hts := atoms_spec (ws := wsX2_init_2) B.pre
  have hts : ∀ w ∈ lw_all, w.before _ s = true := fun w h => hts w (List.mem_cons_of_mem _ h)
  have hown : s.vm.findClass RX2 = some m.cls := findClass_of_methodNamed B.named
  have hlocks := B.notSynchronized
  subst hsz
  have hD := hD0.self (sz := s.heap.size)
  generalize hAe : va_A [(eo, .inr (1, [.ref kq, .int 0, .int 0])), (kq, .inl (cI, 4, .inl g)), (kp, .inr (2, [.ref q])), (q, .inl (cb, 16, .inl f))] s.heap.size = A at hD ⊢
  have hA : ∀ q : Nat, s.heap.size ≤ q → A q := fun q h => by rw [← hAe]; exact Or.inr h
  have hS : va_S A s.heap s.heap [] := va_S.rf
  have hP : va_P G vwCl [(eo, .inr (1, [.ref kq, .int 0, .int 0])), (kq, .inl (cI, 4, .inl g)), (kp, .inr (2, [.ref q])), (q, .inl (cb, 16, .inl f))] s.heap := hP
  have hl := lv_entry ([.ref eo, .int 0, .ref kp]) (n := 11) (Nat.le_of_ble_eq_true rfl)
  rw [lg_entry_eq]
  generalize (lg_sl ([.ref eo, .int 0, .ref kp]) ++ List.replicate (11 - (lg_sl ([.ref eo, .int 0, .ref kp])).length) Slot.unset).toArray = ls at hl ⊢
  have hl : lv_has ls 11 [(0, .ref eo), (1, .int 0), (2, .ref kp)] := hl
  refine lv_aload_n hx hb dX2_init_2_0 rfl (lv_at hl 2 rfl) ?_
  refine va_instS hx hb hown (hts _ q81) (hK.1 2 _ rfl).2 (va_recv hK hP (ci := 2) (q0 := 2) rfl rfl) dX2_init_2_1 ?_
  refine lv_if_ne (tgt := 17) hx hb dX2_init_2_4 (by decide) (fun c9 => ?_) (fun c9 => absurd c9 (by decide))
  refine lv_aload_n hx hb dX2_init_2_17 rfl (lv_at hl 2 rfl) ?_
  refine va_castS hx hb hown (hts _ q81) (hK.1 2 _ rfl).2 (va_recv hK hP (ci := 2) (q0 := 2) rfl rfl) dX2_init_2_18 ?_
  refine lv_astore_n (lv' := [(3, .ref kp), (0, .ref eo), (1, .int 0), (2, .ref kp)]) hx hb dX2_init_2_21 rfl hl (by decide) rfl (fun ls hl => ?_)
  refine lv_aload_n hx hb dX2_init_2_22 rfl (lv_at hl 0 rfl) ?_
  have hPc := hP.sub (ws' := [(kp, .inr (2, [.ref q]))]) [2] rfl
  refine va_csr (W.runV (As := []) (rest := []) ⟨hx, hb, hml, hown, hts⟩ (metX3_getKey l G cb cI kp q) (cwV 0 hts (lw_V q150 q151 q152 q7 q153) rfl rfl rfl (by decide +kernel) ⟨Nat.le_of_ble_eq_true rfl, Nat.le_of_ble_eq_true rfl⟩) (preR_V (ci := 2) (q0 := 0) hPc hK tru_in rfl rfl) rfl rfl hl.1 rfl (lv_room (Nat.le_of_ble_eq_true rfl)) dX2_init_2_23 ⟨Nat.le_of_ble_eq_true rfl, Nat.le_of_ble_eq_true rfl⟩) (fun k9 _ => ?_)
  refine W.eq (g2 := F0 m 26 ls [.ref q]) rfl ?_
  refine lv_astore (lv' := [(4, .ref q), (3, .ref kp), (0, .ref eo), (1, .int 0), (2, .ref kp)]) hx hb dX2_init_2_26 hl (by decide) rfl (fun ls hl => ?_)
  refine lv_aload hx hb dX2_init_2_28 (lv_at hl 0 rfl) ?_
  refine va_alen (v := 16) hx hb hK hP 3 0 rfl rfl (by first | rfl | decide) dX2_init_2_30 ?_
  refine lv_bipush (v := 16) hx hb dX2_init_2_31 (by decide) ?_
  refine lv_icmp_eq (tgt := 46) hx hb dX2_init_2_33 (by decide) (fun c9 => ?_) (fun c9 => absurd rfl c9)
  refine lv_aload hx hb dX2_init_2_46 (lv_at hl 0 rfl) ?_
  refine lv_iconst (v := 0) hx hb dX2_init_2_48 (by decide) ?_
  refine lv_aload_n hx hb dX2_init_2_49 rfl (lv_at hl 2 rfl) ?_
  refine va_get (D := G) (ci := 1) (v := .ref kq) (C := RX2) (T := TX2) (N := 3) hx hb hts in_X2 hown hK hP 0 rfl rfl 0 (by decide) (hts _ q40) (fun _ h9 => h9) rfl dX2_init_2_50 ?_
  refine lv_iconst (v := 0) hx hb dX2_init_2_53 (by decide) ?_
  refine lv_iconst (v := 4) hx hb dX2_init_2_54 (by decide) ?_
  have hPc := hP.sub (ws' := [(q, .inl (cb, 16, .inl f)), (kq, .inl (cI, 4, .inl g))]) [3, 1] rfl
  have hDc := hD.sub (ws' := [(q, .inl (cb, 16, .inl f)), (kq, .inl (cI, 4, .inl g))]) [3, 1] (by decide) rfl
  have hFc := va_free (wc := [(q, .inl (cb, 16, .inl f)), (kq, .inl (cI, 4, .inl g))]) hD hS hA [3, 1] rfl
  refine call_v (va_runS (As := [.ref q, .int 0, .ref kq, .int 0, .int 4]) (rest := []) ⟨hx, hb, hml, hown, hts⟩ (metX4_bigEndianToInt l G cb cI q kq f g _) (va_cwS 5 hts (lw_S q155 q156 q13 q157) rfl rfl rfl (by decide +kernel) ⟨Nat.le_of_ble_eq_true rfl, Nat.le_of_ble_eq_true rfl⟩) (preW_S hPc hK hDc (tru_in)) rfl rfl hl.1 rfl (lv_room (Nat.le_of_ble_eq_true rfl)) dX2_init_2_55 ⟨Nat.le_of_ble_eq_true rfl, Nat.le_of_ble_eq_true rfl⟩) hP hD hS hFc [3, 1] [0, 2] (wr := [(eo, .inr (1, [.ref kq, .int 0, .int 0])), (kp, .inr (2, [.ref q]))]) rfl rfl (by decide) (by decide) (fun u_1 H locs huu_1 hP hD hS => ?_)
  have hP : va_P G vwCl [(eo, .inr (1, [.ref kq, .int 0, .int 0])), (kp, .inr (2, [.ref q])), (q, .inl (cb, 16, .inl f)), (kq, .inl (cI, 4, .inl u_1))] H := hP
  have hD : va_D A [(eo, .inr (1, [.ref kq, .int 0, .int 0])), (kp, .inr (2, [.ref q])), (q, .inl (cb, 16, .inl f)), (kq, .inl (cI, 4, .inl u_1))] := hD
  refine W.widen (k := 0) (n := 0) (by omega) (by omega) ?_
  have hu : (u_1 0, u_1 1, u_1 2, u_1 3) = nk_wds f := s4_ext (huu_1 0 (by omega)) (huu_1 1 (by omega)) (huu_1 2 (by omega)) (huu_1 3 (by omega))
  refine lv_iload_n hx hb dX2_init_2_58 rfl (lv_at hl 3 rfl) ?_
  refine lv_if_ne (tgt := 208) hx hb dX2_init_2_59 (by decide) (fun c9 => absurd rfl c9) (fun c9 => ?_)
  refine lv_aload_n hx hb dX2_init_2_62 rfl (lv_at hl 2 rfl) ?_
  refine va_get (D := G) (ci := 1) (v := .ref kq) (C := RX2) (T := TX2) (N := 3) hx hb hts in_X2 hown hK hP 0 rfl rfl 0 (by decide) (hts _ q40) (fun _ h9 => h9) rfl dX2_init_2_63 ?_
  refine lv_iconst (v := 0) hx hb dX2_init_2_66 (by decide) ?_
  refine va_iald hx hb hK hP 3 1 rfl rfl in_0_4 dX2_init_2_67 ?_
  refine lv_topi (fun z_2 ez_2 => ?_)
  obtain rfl : z_2 = u_1 0 := by rw [ez_2, cl_0]
  refine lv_istore (lv' := [(5, .int (u_1 0)), (4, .ref q), (3, .ref kp), (0, .ref eo), (1, .int 0), (2, .ref kp)]) hx hb dX2_init_2_68 hl (by decide) rfl (fun ls hl => ?_)
  refine lv_aload_n hx hb dX2_init_2_70 rfl (lv_at hl 3 rfl) ?_
  refine va_get (D := G) (ci := 1) (v := .ref kq) (C := RX2) (T := TX2) (N := 3) hx hb hts in_X2 hown hK hP 0 rfl rfl 0 (by decide) (hts _ q40) (fun _ h9 => h9) rfl dX2_init_2_71 ?_
  refine lv_iconst (v := 1) hx hb dX2_init_2_74 (by decide) ?_
  refine va_iald hx hb hK hP 3 1 rfl rfl in_1_4 dX2_init_2_75 ?_
  refine lv_topi (fun z_3 ez_3 => ?_)
  obtain rfl : z_3 = u_1 1 := by rw [ez_3, cl_1]
  refine lv_istore (lv' := [(6, .int (u_1 1)), (5, .int (u_1 0)), (4, .ref q), (3, .ref kp), (0, .ref eo), (1, .int 0), (2, .ref kp)]) hx hb dX2_init_2_76 hl (by decide) rfl (fun ls hl => ?_)
  refine lv_aload_n hx hb dX2_init_2_78 rfl (lv_at hl 4 rfl) ?_
  refine va_get (D := G) (ci := 1) (v := .ref kq) (C := RX2) (T := TX2) (N := 3) hx hb hts in_X2 hown hK hP 0 rfl rfl 0 (by decide) (hts _ q40) (fun _ h9 => h9) rfl dX2_init_2_79 ?_
  refine lv_iconst (v := 2) hx hb dX2_init_2_82 (by decide) ?_
  refine va_iald hx hb hK hP 3 1 rfl rfl in_2_4 dX2_init_2_83 ?_
  refine lv_topi (fun z_4 ez_4 => ?_)
  obtain rfl : z_4 = u_1 2 := by rw [ez_4, cl_2]
  refine lv_istore (lv' := [(7, .int (u_1 2)), (6, .int (u_1 1)), (5, .int (u_1 0)), (4, .ref q), (3, .ref kp), (0, .ref eo), (1, .int 0), (2, .ref kp)]) hx hb dX2_init_2_84 hl (by decide) rfl (fun ls hl => ?_)
  refine lv_aload_n hx hb dX2_init_2_86 rfl (lv_at hl 5 rfl) ?_
  refine va_get (D := G) (ci := 1) (v := .ref kq) (C := RX2) (T := TX2) (N := 3) hx hb hts in_X2 hown hK hP 0 rfl rfl 0 (by decide) (hts _ q40) (fun _ h9 => h9) rfl dX2_init_2_87 ?_
  refine lv_iconst (v := 3) hx hb dX2_init_2_90 (by decide) ?_
  refine va_iald hx hb hK hP 3 1 rfl rfl in_3_4 dX2_init_2_91 ?_
  refine lv_topi (fun z_5 ez_5 => ?_)
  obtain rfl : z_5 = u_1 3 := by rw [ez_5, cl_3]
  refine lv_istore (lv' := [(8, .int (u_1 3)), (7, .int (u_1 2)), (6, .int (u_1 1)), (5, .int (u_1 0)), (4, .ref q), (3, .ref kp), (0, .ref eo), (1, .int 0), (2, .ref kp)]) hx hb dX2_init_2_92 hl (by decide) rfl (fun ls hl => ?_)
  refine lv_iload hx hb dX2_init_2_94 (lv_at hl 3 rfl) ?_
  refine lv_iload hx hb dX2_init_2_96 (lv_at hl 1 rfl) ?_
  refine lv_ixor hx hb dX2_init_2_98 ?_
  refine lv_topi (fun x9_6 ex9_6 => ?_)
  refine lv_istore (lv' := [(9, .int x9_6), (8, .int (u_1 3)), (7, .int (u_1 2)), (6, .int (u_1 1)), (5, .int (u_1 0)), (4, .ref q), (3, .ref kp), (0, .ref eo), (1, .int 0), (2, .ref kp)]) hx hb dX2_init_2_99 hl (by decide) rfl (fun ls hl => ?_)
  refine lv_iload hx hb dX2_init_2_101 (lv_at hl 0 rfl) ?_
  refine lv_iload hx hb dX2_init_2_103 (lv_at hl 0 rfl) ?_
  refine lv_bipush (v := 8) hx hb dX2_init_2_105 (by decide) ?_
  refine vp_callSi (W.runS (As := [.int x9_6, .int 8]) (rest := [.int x9_6]) ⟨hx, hb, hml, hown, hts⟩ (metX5_rotateLeft l x9_6 8) (va_cwS 2 hts (lw_S q161 q162 q14 q163) rfl rfl rfl (by decide +kernel) ⟨Nat.le_of_ble_eq_true rfl, Nat.le_of_ble_eq_true rfl⟩) ⟨fun a U g mk q => q, fun U hU hW => ⟨rfl, trivial⟩⟩ rfl rfl hl.1 rfl (lv_room (Nat.le_of_ble_eq_true rfl)) dX2_init_2_107 ⟨Nat.le_of_ble_eq_true rfl, Nat.le_of_ble_eq_true rfl⟩) (fun r_7 er_7 => ?_)
  refine lv_iload hx hb dX2_init_2_110 (lv_at hl 0 rfl) ?_
  refine lv_bipush (v := 24) hx hb dX2_init_2_112 (by decide) ?_
  refine vp_callSi (W.runS (As := [.int x9_6, .int 24]) (rest := [.int r_7, .int x9_6]) ⟨hx, hb, hml, hown, hts⟩ (metX5_rotateLeft l x9_6 24) (va_cwS 2 hts (lw_S q161 q162 q14 q163) rfl rfl rfl (by decide +kernel) ⟨Nat.le_of_ble_eq_true rfl, Nat.le_of_ble_eq_true rfl⟩) ⟨fun a U g mk q => q, fun U hU hW => ⟨rfl, trivial⟩⟩ rfl rfl hl.1 rfl (lv_room (Nat.le_of_ble_eq_true rfl)) dX2_init_2_114 ⟨Nat.le_of_ble_eq_true rfl, Nat.le_of_ble_eq_true rfl⟩) (fun r_8 er_8 => ?_)
  refine lv_ixor hx hb dX2_init_2_117 ?_
  refine lv_ixor hx hb dX2_init_2_118 ?_
  refine lv_topi (fun x9_9 ex9_9 => ?_)
  refine lv_istore (lv' := [(9, .int x9_9), (8, .int (u_1 3)), (7, .int (u_1 2)), (6, .int (u_1 1)), (5, .int (u_1 0)), (4, .ref q), (3, .ref kp), (0, .ref eo), (1, .int 0), (2, .ref kp)]) hx hb dX2_init_2_119 hl (by decide) rfl (fun ls hl => ?_)
  refine lv_iload hx hb dX2_init_2_121 (lv_at hl 3 rfl) ?_
  refine lv_iload hx hb dX2_init_2_123 (lv_at hl 1 rfl) ?_
  refine lv_ixor hx hb dX2_init_2_125 ?_
  refine lv_topi (fun x10_10 ex10_10 => ?_)
  refine lv_istore (lv' := [(10, .int x10_10), (9, .int x9_9), (8, .int (u_1 3)), (7, .int (u_1 2)), (6, .int (u_1 1)), (5, .int (u_1 0)), (4, .ref q), (3, .ref kp), (0, .ref eo), (1, .int 0), (2, .ref kp)]) hx hb dX2_init_2_126 hl (by decide) rfl (fun ls hl => ?_)
  refine lv_iload hx hb dX2_init_2_128 (lv_at hl 0 rfl) ?_
  refine lv_iload hx hb dX2_init_2_130 (lv_at hl 0 rfl) ?_
  refine lv_bipush (v := 8) hx hb dX2_init_2_132 (by decide) ?_
  refine vp_callSi (W.runS (As := [.int x10_10, .int 8]) (rest := [.int x10_10]) ⟨hx, hb, hml, hown, hts⟩ (metX5_rotateLeft l x10_10 8) (va_cwS 2 hts (lw_S q161 q162 q14 q163) rfl rfl rfl (by decide +kernel) ⟨Nat.le_of_ble_eq_true rfl, Nat.le_of_ble_eq_true rfl⟩) ⟨fun a U g mk q => q, fun U hU hW => ⟨rfl, trivial⟩⟩ rfl rfl hl.1 rfl (lv_room (Nat.le_of_ble_eq_true rfl)) dX2_init_2_134 ⟨Nat.le_of_ble_eq_true rfl, Nat.le_of_ble_eq_true rfl⟩) (fun r_11 er_11 => ?_)
  refine lv_iload hx hb dX2_init_2_137 (lv_at hl 0 rfl) ?_
  refine lv_bipush (v := 24) hx hb dX2_init_2_139 (by decide) ?_
  refine vp_callSi (W.runS (As := [.int x10_10, .int 24]) (rest := [.int r_11, .int x10_10]) ⟨hx, hb, hml, hown, hts⟩ (metX5_rotateLeft l x10_10 24) (va_cwS 2 hts (lw_S q161 q162 q14 q163) rfl rfl rfl (by decide +kernel) ⟨Nat.le_of_ble_eq_true rfl, Nat.le_of_ble_eq_true rfl⟩) ⟨fun a U g mk q => q, fun U hU hW => ⟨rfl, trivial⟩⟩ rfl rfl hl.1 rfl (lv_room (Nat.le_of_ble_eq_true rfl)) dX2_init_2_141 ⟨Nat.le_of_ble_eq_true rfl, Nat.le_of_ble_eq_true rfl⟩) (fun r_12 er_12 => ?_)
  refine lv_ixor hx hb dX2_init_2_144 ?_
  refine lv_ixor hx hb dX2_init_2_145 ?_
  refine lv_topi (fun x10_13 ex10_13 => ?_)
  refine lv_istore (lv' := [(10, .int x10_13), (9, .int x9_9), (8, .int (u_1 3)), (7, .int (u_1 2)), (6, .int (u_1 1)), (5, .int (u_1 0)), (4, .ref q), (3, .ref kp), (0, .ref eo), (1, .int 0), (2, .ref kp)]) hx hb dX2_init_2_146 hl (by decide) rfl (fun ls hl => ?_)
  refine lv_iload hx hb dX2_init_2_148 (lv_at hl 5 rfl) ?_
  refine lv_iload hx hb dX2_init_2_150 (lv_at hl 0 rfl) ?_
  refine lv_ixor hx hb dX2_init_2_152 ?_
  refine lv_topi (fun x5_14 ex5_14 => ?_)
  refine lv_istore (lv' := [(5, .int x5_14), (10, .int x10_13), (9, .int x9_9), (8, .int (u_1 3)), (7, .int (u_1 2)), (6, .int (u_1 1)), (4, .ref q), (3, .ref kp), (0, .ref eo), (1, .int 0), (2, .ref kp)]) hx hb dX2_init_2_153 hl (by decide) rfl (fun ls hl => ?_)
  refine lv_iload hx hb dX2_init_2_155 (lv_at hl 5 rfl) ?_
  refine lv_iload hx hb dX2_init_2_157 (lv_at hl 2 rfl) ?_
  refine lv_ixor hx hb dX2_init_2_159 ?_
  refine lv_topi (fun x6_15 ex6_15 => ?_)
  refine lv_istore (lv' := [(6, .int x6_15), (5, .int x5_14), (10, .int x10_13), (9, .int x9_9), (8, .int (u_1 3)), (7, .int (u_1 2)), (4, .ref q), (3, .ref kp), (0, .ref eo), (1, .int 0), (2, .ref kp)]) hx hb dX2_init_2_160 hl (by decide) rfl (fun ls hl => ?_)
  refine lv_iload hx hb dX2_init_2_162 (lv_at hl 5 rfl) ?_
  refine lv_iload hx hb dX2_init_2_164 (lv_at hl 2 rfl) ?_
  refine lv_ixor hx hb dX2_init_2_166 ?_
  refine lv_topi (fun x7_16 ex7_16 => ?_)
  refine lv_istore (lv' := [(7, .int x7_16), (6, .int x6_15), (5, .int x5_14), (10, .int x10_13), (9, .int x9_9), (8, .int (u_1 3)), (4, .ref q), (3, .ref kp), (0, .ref eo), (1, .int 0), (2, .ref kp)]) hx hb dX2_init_2_167 hl (by decide) rfl (fun ls hl => ?_)
  refine lv_iload hx hb dX2_init_2_169 (lv_at hl 5 rfl) ?_
  refine lv_iload hx hb dX2_init_2_171 (lv_at hl 4 rfl) ?_
  refine lv_ixor hx hb dX2_init_2_173 ?_
  refine lv_topi (fun x8_17 ex8_17 => ?_)
  refine lv_istore (lv' := [(8, .int x8_17), (7, .int x7_16), (6, .int x6_15), (5, .int x5_14), (10, .int x10_13), (9, .int x9_9), (4, .ref q), (3, .ref kp), (0, .ref eo), (1, .int 0), (2, .ref kp)]) hx hb dX2_init_2_174 hl (by decide) rfl (fun ls hl => ?_)
  refine lv_aload_n hx hb dX2_init_2_176 rfl (lv_at hl 8 rfl) ?_
  refine va_get (D := G) (ci := 1) (v := .ref kq) (C := RX2) (T := TX2) (N := 3) hx hb hts in_X2 hown hK hP 0 rfl rfl 0 (by decide) (hts _ q40) (fun _ h9 => h9) rfl dX2_init_2_177 ?_
  refine lv_iconst (v := 0) hx hb dX2_init_2_180 (by decide) ?_
  refine lv_iload hx hb dX2_init_2_181 (lv_at hl 3 rfl) ?_
  refine va_iast hx hb hK hP hD hS 3 1 rfl rfl in_0_4 dX2_init_2_183 (fun H locs hP hD hS => ?_)
  rw [cl_0] at hP hD
  have hP : va_P G vwCl [(eo, .inr (1, [.ref kq, .int 0, .int 0])), (kp, .inr (2, [.ref q])), (q, .inl (cb, 16, .inl f)), (kq, .inl (cI, 4, .inl (upd u_1 (0) x5_14)))] H := hP
  have hD : va_D A [(eo, .inr (1, [.ref kq, .int 0, .int 0])), (kp, .inr (2, [.ref q])), (q, .inl (cb, 16, .inl f)), (kq, .inl (cI, 4, .inl (upd u_1 (0) x5_14)))] := hD
  refine lv_aload_n hx hb dX2_init_2_184 rfl (lv_at hl 8 rfl) ?_
  refine va_get (D := G) (ci := 1) (v := .ref kq) (C := RX2) (T := TX2) (N := 3) hx hb hts in_X2 hown hK hP 0 rfl rfl 0 (by decide) (hts _ q40) (fun _ h9 => h9) rfl dX2_init_2_185 ?_
  refine lv_iconst (v := 1) hx hb dX2_init_2_188 (by decide) ?_
  refine lv_iload hx hb dX2_init_2_189 (lv_at hl 2 rfl) ?_
  refine va_iast hx hb hK hP hD hS 3 1 rfl rfl in_1_4 dX2_init_2_191 (fun H locs hP hD hS => ?_)
  rw [cl_1] at hP hD
  have hP : va_P G vwCl [(eo, .inr (1, [.ref kq, .int 0, .int 0])), (kp, .inr (2, [.ref q])), (q, .inl (cb, 16, .inl f)), (kq, .inl (cI, 4, .inl (upd (upd u_1 (0) x5_14) (1) x6_15)))] H := hP
  have hD : va_D A [(eo, .inr (1, [.ref kq, .int 0, .int 0])), (kp, .inr (2, [.ref q])), (q, .inl (cb, 16, .inl f)), (kq, .inl (cI, 4, .inl (upd (upd u_1 (0) x5_14) (1) x6_15)))] := hD
  refine lv_aload_n hx hb dX2_init_2_192 rfl (lv_at hl 8 rfl) ?_
  refine va_get (D := G) (ci := 1) (v := .ref kq) (C := RX2) (T := TX2) (N := 3) hx hb hts in_X2 hown hK hP 0 rfl rfl 0 (by decide) (hts _ q40) (fun _ h9 => h9) rfl dX2_init_2_193 ?_
  refine lv_iconst (v := 2) hx hb dX2_init_2_196 (by decide) ?_
  refine lv_iload hx hb dX2_init_2_197 (lv_at hl 1 rfl) ?_
  refine va_iast hx hb hK hP hD hS 3 1 rfl rfl in_2_4 dX2_init_2_199 (fun H locs hP hD hS => ?_)
  rw [cl_2] at hP hD
  have hP : va_P G vwCl [(eo, .inr (1, [.ref kq, .int 0, .int 0])), (kp, .inr (2, [.ref q])), (q, .inl (cb, 16, .inl f)), (kq, .inl (cI, 4, .inl (upd (upd (upd u_1 (0) x5_14) (1) x6_15) (2) x7_16)))] H := hP
  have hD : va_D A [(eo, .inr (1, [.ref kq, .int 0, .int 0])), (kp, .inr (2, [.ref q])), (q, .inl (cb, 16, .inl f)), (kq, .inl (cI, 4, .inl (upd (upd (upd u_1 (0) x5_14) (1) x6_15) (2) x7_16)))] := hD
  refine lv_aload_n hx hb dX2_init_2_200 rfl (lv_at hl 8 rfl) ?_
  refine va_get (D := G) (ci := 1) (v := .ref kq) (C := RX2) (T := TX2) (N := 3) hx hb hts in_X2 hown hK hP 0 rfl rfl 0 (by decide) (hts _ q40) (fun _ h9 => h9) rfl dX2_init_2_201 ?_
  refine lv_iconst (v := 3) hx hb dX2_init_2_204 (by decide) ?_
  refine lv_iload hx hb dX2_init_2_205 (lv_at hl 0 rfl) ?_
  refine va_iast hx hb hK hP hD hS 3 1 rfl rfl in_3_4 dX2_init_2_207 (fun H locs hP hD hS => ?_)
  rw [cl_3] at hP hD
  have hP : va_P G vwCl [(eo, .inr (1, [.ref kq, .int 0, .int 0])), (kp, .inr (2, [.ref q])), (q, .inl (cb, 16, .inl f)), (kq, .inl (cI, 4, .inl (upd (upd (upd (upd u_1 (0) x5_14) (1) x6_15) (2) x7_16) (3) x8_17)))] H := hP
  have hD : va_D A [(eo, .inr (1, [.ref kq, .int 0, .int 0])), (kp, .inr (2, [.ref q])), (q, .inl (cb, 16, .inl f)), (kq, .inl (cI, 4, .inl (upd (upd (upd (upd u_1 (0) x5_14) (1) x6_15) (2) x7_16) (3) x8_17)))] := hD
  have hkd : (x5_14, x6_15, x7_16, x8_17) = nk_keyD (u_1 0, u_1 1, u_1 2, u_1 3) := by
    subst ex9_6 er_7 er_8 ex9_9 ex10_10 er_11 er_12 ex10_13 ex5_14 ex6_15 ex7_16 ex8_17
    rfl
  obtain ⟨v9, hv9⟩ : ∃ v9, v9 = (upd (upd (upd (upd u_1 (0) x5_14) (1) x6_15) (2) x7_16) (3) x8_17) := ⟨_, rfl⟩
  rw [← hv9] at hP hD
  have hP : va_P G vwCl [(eo, .inr (1, [.ref kq, .int 0, .int 0])), (kp, .inr (2, [.ref q])), (q, .inl (cb, 16, .inl f)), (kq, .inl (cI, 4, .inl v9))] H := hP
  have hD : va_D A [(eo, .inr (1, [.ref kq, .int 0, .int 0])), (kp, .inr (2, [.ref q])), (q, .inl (cb, 16, .inl f)), (kq, .inl (cI, 4, .inl v9))] := hD
  have hkv : (v9 0, v9 1, v9 2, v9 3) = nk_keyD (nk_wds f) := by
    rw [← hu, ← hkd, hv9]
    rfl
  refine lv_aload_n hx hb dX2_init_2_208 rfl (lv_at hl 8 rfl) ?_
  refine lv_iload_n hx hb dX2_init_2_209 rfl (lv_at hl 9 rfl) ?_
  refine va_put (D := G) (ci := 1) (v := .int 0) (ty := .boolean) (C := RX2) (T := TX2) (N := 3) hx hb hts in_X2 tyX2 tyX2_ok nmX2 hown hK hP hD hS 0 rfl rfl 2 (by decide) (hts _ q42) (fun _ h9 => h9) rfl (by decide +kernel) rfl rfl (Nat.le_of_ble_eq_true rfl) dX2_init_2_210 (fun H locs hP hD hS => ?_)
  have hP : va_P G vwCl [(eo, .inr (1, [.ref kq, .int 0, .int 0])), (kp, .inr (2, [.ref q])), (q, .inl (cb, 16, .inl f)), (kq, .inl (cI, 4, .inl v9))] H := hP
  have hD : va_D A [(eo, .inr (1, [.ref kq, .int 0, .int 0])), (kp, .inr (2, [.ref q])), (q, .inl (cb, 16, .inl f)), (kq, .inl (cI, 4, .inl v9))] := hD
  refine lv_aload_n hx hb dX2_init_2_213 rfl (lv_at hl 8 rfl) ?_
  refine lv_iconst (v := 1) hx hb dX2_init_2_214 (by decide) ?_
  refine va_put (D := G) (ci := 1) (v := .int 1) (ty := .boolean) (C := RX2) (T := TX2) (N := 3) hx hb hts in_X2 tyX2 tyX2_ok nmX2 hown hK hP hD hS 0 rfl rfl 1 (by decide) (hts _ q41) (fun _ h9 => h9) rfl (by decide +kernel) rfl rfl (Nat.le_of_ble_eq_true rfl) dX2_init_2_215 (fun H locs hP hD hS => ?_)
  have hP : va_P G vwCl [(eo, .inr (1, [.ref kq, .int 1, .int 0])), (kp, .inr (2, [.ref q])), (q, .inl (cb, 16, .inl f)), (kq, .inl (cI, 4, .inl v9))] H := hP
  have hD : va_D A [(eo, .inr (1, [.ref kq, .int 1, .int 0])), (kp, .inr (2, [.ref q])), (q, .inl (cb, 16, .inl f)), (kq, .inl (cI, 4, .inl v9))] := hD
  have hP := hP.sub (ws' := [(kp, .inr (2, [.ref q])), (q, .inl (cb, 16, .inl f)), (eo, .inr (1, [.ref kq, .int 1, .int 0])), (kq, .inl (cI, 4, .inl v9))]) [1, 2, 0, 3] rfl
  have hD := hD.sub (ws' := [(kp, .inr (2, [.ref q])), (q, .inl (cb, 16, .inl f)), (eo, .inr (1, [.ref kq, .int 1, .int 0])), (kq, .inl (cI, 4, .inl v9))]) [1, 2, 0, 3] (by decide) rfl
  exact W.vret hx hb hr (fun t ht hW => ⟨⟨v9, rfl, hkv, by rw [ht]; exact hP, hD⟩, hS.F ht⟩) hS.2.2 dX2_init_2_218
set_option maxHeartbeats 4000000 in
set_option maxRecDepth 100000 in
theorem metX2_processBlock_1 (l : Launch) (G : va_G) (cb cI : ClassId) (t eo kq ib ob : Nat) (g f h : Nat → Int32) (sz : Nat) : Met l yX2_processBlock wsX2_processBlock ({ frames := 3, cells := 0, slots := 0, locals := 77 }) (pcW [.ref eo, .ref ib, .int 0, .ref ob, .int 0] G cb cI [(eo, .inr (1, [.ref kq, .int 1, .int 1])), (kq, .inl (cI, 4, .inl g)), (ib, .inl (cb, 16, .inl f)), (ob, .inl (cb, 16, .inl h))] sz (fun U => nk_ctx t (va_A [(eo, .inr (1, [.ref kq, .int 1, .int 1])), (kq, .inl (cI, 4, .inl g)), (ib, .inl (cb, 16, .inl f)), (ob, .inl (cb, 16, .inl h))] sz) U U.heap)) (qcI (fun (r : Int32) (u : Nat → Int32) => r = 16 ∧ nk_wds u = nk_enc (g 0, g 1, g 2, g 3) (nk_wds f)) G (fun u => [(eo, .inr (1, [.ref kq, .int 1, .int 1])), (kq, .inl (cI, 4, .inl g)), (ib, .inl (cb, 16, .inl f)), (ob, .inl (cb, 16, .inl u))]) (va_A [(eo, .inr (1, [.ref kq, .int 1, .int 1])), (kq, .inl (cI, 4, .inl g)), (ib, .inl (cb, 16, .inl f)), (ob, .inl (cb, 16, .inl h))] sz)) 0 0 (va_A [(eo, .inr (1, [.ref kq, .int 1, .int 1])), (kq, .inl (cI, 4, .inl g)), (ib, .inl (cb, 16, .inl f)), (ob, .inl (cb, 16, .inl h))] sz) := by
  refine Met.ofW (cc := cX2_processBlock) (maxL := 5) (ret := (some .int)) (by decide) rfl ?_
  intro p e s m args below meth c s₁ B hml hv
  obtain ⟨rfl, hsz, hP, hK, hD0, hE⟩ := hv
  have hx := B.exec
  have hb := B.bytes
  have hr := B.returns
  have hts := atoms_spec (ws := wsX2_processBlock) B.pre
  have hts : ∀ w ∈ lw_all, w.before _ s = true := fun w h => hts w (List.mem_cons_of_mem _ h)
  have hown : s.vm.findClass RX2 = some m.cls := findClass_of_methodNamed B.named
  have hlocks := B.notSynchronized
  subst hsz
  have hD := hD0.self (sz := s.heap.size)
  generalize hAe : va_A [(eo, .inr (1, [.ref kq, .int 1, .int 1])), (kq, .inl (cI, 4, .inl g)), (ib, .inl (cb, 16, .inl f)), (ob, .inl (cb, 16, .inl h))] s.heap.size = A at hD hE ⊢
  have hE : nk_ctx t A s s.heap := hE
  have hA : ∀ q : Nat, s.heap.size ≤ q → A q := fun q h => by rw [← hAe]; exact Or.inr h
  have hS : va_S A s.heap s.heap [] := va_S.rf
  have hP : va_P G vwCl [(eo, .inr (1, [.ref kq, .int 1, .int 1])), (kq, .inl (cI, 4, .inl g)), (ib, .inl (cb, 16, .inl f)), (ob, .inl (cb, 16, .inl h))] s.heap := hP
  have hl := lv_entry ([.ref eo, .ref ib, .int 0, .ref ob, .int 0]) (n := 5) (Nat.le_of_ble_eq_true rfl)
  rw [lg_entry_eq]
  generalize (lg_sl ([.ref eo, .ref ib, .int 0, .ref ob, .int 0]) ++ List.replicate (5 - (lg_sl ([.ref eo, .ref ib, .int 0, .ref ob, .int 0])).length) Slot.unset).toArray = ls at hl ⊢
  have hl : lv_has ls 5 [(0, .ref eo), (1, .ref ib), (2, .int 0), (3, .ref ob), (4, .int 0)] := hl
  refine lv_aload_n hx hb dX2_processBlock_0 rfl (lv_at hl 0 rfl) ?_
  refine va_get (D := G) (ci := 1) (v := .int 1) (C := RX2) (T := TX2) (N := 3) hx hb hts in_X2 hown hK hP 0 rfl rfl 1 (by decide) (hts _ q41) (fun _ h9 => h9) rfl dX2_processBlock_1 ?_
  refine lv_if_ne (tgt := 17) hx hb dX2_processBlock_4 (by decide) (fun c9 => ?_) (fun c9 => absurd c9 (by decide))
  refine lv_iload_n hx hb dX2_processBlock_17 rfl (lv_at hl 2 rfl) ?_
  refine lv_aload_n hx hb dX2_processBlock_18 rfl (lv_at hl 1 rfl) ?_
  refine va_alen (v := 16) hx hb hK hP 2 0 rfl rfl (by first | rfl | decide) dX2_processBlock_19 ?_
  refine lv_bipush (v := 16) hx hb dX2_processBlock_20 (by decide) ?_
  refine lv_isub hx hb dX2_processBlock_22 ?_
  refine lv_icmp_le (tgt := 36) hx hb dX2_processBlock_23 (by decide) (fun c9 => ?_) (fun c9 => absurd (by decide) c9)
  refine lv_iload hx hb dX2_processBlock_36 (lv_at hl 4 rfl) ?_
  refine lv_aload_n hx hb dX2_processBlock_38 rfl (lv_at hl 3 rfl) ?_
  refine va_alen (v := 16) hx hb hK hP 3 0 rfl rfl (by first | rfl | decide) dX2_processBlock_39 ?_
  refine lv_bipush (v := 16) hx hb dX2_processBlock_40 (by decide) ?_
  refine lv_isub hx hb dX2_processBlock_42 ?_
  refine lv_icmp_le (tgt := 56) hx hb dX2_processBlock_43 (by decide) (fun c9 => ?_) (fun c9 => absurd (by decide) c9)
  refine lv_aload_n hx hb dX2_processBlock_56 rfl (lv_at hl 0 rfl) ?_
  refine va_get (D := G) (ci := 1) (v := .int 1) (C := RX2) (T := TX2) (N := 3) hx hb hts in_X2 hown hK hP 0 rfl rfl 2 (by decide) (hts _ q42) (fun _ h9 => h9) rfl dX2_processBlock_57 ?_
  refine lv_if_eq (tgt := 75) hx hb dX2_processBlock_60 (by decide) (fun c9 => absurd c9 (by decide)) (fun c9 => ?_)
  refine lv_aload_n hx hb dX2_processBlock_63 rfl (lv_at hl 0 rfl) ?_
  refine lv_aload_n hx hb dX2_processBlock_64 rfl (lv_at hl 1 rfl) ?_
  refine lv_iload_n hx hb dX2_processBlock_65 rfl (lv_at hl 2 rfl) ?_
  refine lv_aload_n hx hb dX2_processBlock_66 rfl (lv_at hl 3 rfl) ?_
  refine lv_iload hx hb dX2_processBlock_67 (lv_at hl 4 rfl) ?_
  have hPc := hP.sub (ws' := [(eo, .inr (1, [.ref kq, .int 1, .int 1])), (kq, .inl (cI, 4, .inl g)), (ib, .inl (cb, 16, .inl f)), (ob, .inl (cb, 16, .inl h))]) [0, 1, 2, 3] rfl
  have hDc := hD.sub (ws' := [(eo, .inr (1, [.ref kq, .int 1, .int 1])), (kq, .inl (cI, 4, .inl g)), (ib, .inl (cb, 16, .inl f)), (ob, .inl (cb, 16, .inl h))]) [0, 1, 2, 3] (by decide) rfl
  have hFc := va_free (wc := [(eo, .inr (1, [.ref kq, .int 1, .int 1])), (kq, .inl (cI, 4, .inl g)), (ib, .inl (cb, 16, .inl f)), (ob, .inl (cb, 16, .inl h))]) hD hS hA [0, 1, 2, 3] rfl
  refine call_i (va_runV (As := [.ref ib, .int 0, .ref ob, .int 0]) (rest := []) ⟨hx, hb, hml, hown, hts⟩ (metX2_encryptBlock l G cb cI t eo kq ib ob g f h _) (cwV 4 hts (lw_V q228 q230 qs2 q6 q231) rfl rfl rfl (by decide +kernel) ⟨Nat.le_of_ble_eq_true rfl, Nat.le_of_ble_eq_true rfl⟩) (preW_V (ci := 1) (q0 := 0) hPc hK hDc (ctx_in hE hS hFc) rfl rfl) rfl rfl hl.1 rfl (lv_room (Nat.le_of_ble_eq_true rfl)) dX2_processBlock_69 ⟨Nat.le_of_ble_eq_true rfl, Nat.le_of_ble_eq_true rfl⟩) hP hD hS hFc [0, 1, 2, 3] [] (wr := []) rfl rfl (by decide) (by decide) (fun r_1 u_2 H locs huu_2 hP hD hS => ?_)
  have hP : va_P G vwCl [(eo, .inr (1, [.ref kq, .int 1, .int 1])), (kq, .inl (cI, 4, .inl g)), (ib, .inl (cb, 16, .inl f)), (ob, .inl (cb, 16, .inl u_2))] H := hP
  have hD : va_D A [(eo, .inr (1, [.ref kq, .int 1, .int 1])), (kq, .inl (cI, 4, .inl g)), (ib, .inl (cb, 16, .inl f)), (ob, .inl (cb, 16, .inl u_2))] := hD
  refine W.widen (k := 0) (n := 0) (by omega) (by omega) ?_
  refine lv_goto (tgt := 84) hx hb dX2_processBlock_72 (by decide) ?_
  exact W.iret (v := r_1) hx hb hr (fun t9 ht hW => ⟨⟨r_1, u_2, rfl, huu_2, by rw [ht]; exact hP, hD⟩, hS.F ht⟩) hS.2.2 dX2_processBlock_84
set_option maxHeartbeats 4000000 in
set_option maxRecDepth 100000 in
theorem metX2_processBlock_0 (l : Launch) (G : va_G) (cb cI : ClassId) (t eo kq ib ob : Nat) (g f h : Nat → Int32) (sz : Nat) : Met l yX2_processBlock wsX2_processBlock ({ frames := 3, cells := 0, slots := 0, locals := 77 }) (pcW [.ref eo, .ref ib, .int 0, .ref ob, .int 0] G cb cI [(eo, .inr (1, [.ref kq, .int 1, .int 0])), (kq, .inl (cI, 4, .inl g)), (ib, .inl (cb, 16, .inl f)), (ob, .inl (cb, 16, .inl h))] sz (fun U => nk_ctx t (va_A [(eo, .inr (1, [.ref kq, .int 1, .int 0])), (kq, .inl (cI, 4, .inl g)), (ib, .inl (cb, 16, .inl f)), (ob, .inl (cb, 16, .inl h))] sz) U U.heap)) (qcI (fun (r : Int32) (u : Nat → Int32) => r = 16 ∧ nk_wds u = nk_dec (g 0, g 1, g 2, g 3) (nk_wds f)) G (fun u => [(eo, .inr (1, [.ref kq, .int 1, .int 0])), (kq, .inl (cI, 4, .inl g)), (ib, .inl (cb, 16, .inl f)), (ob, .inl (cb, 16, .inl u))]) (va_A [(eo, .inr (1, [.ref kq, .int 1, .int 0])), (kq, .inl (cI, 4, .inl g)), (ib, .inl (cb, 16, .inl f)), (ob, .inl (cb, 16, .inl h))] sz)) 0 0 (va_A [(eo, .inr (1, [.ref kq, .int 1, .int 0])), (kq, .inl (cI, 4, .inl g)), (ib, .inl (cb, 16, .inl f)), (ob, .inl (cb, 16, .inl h))] sz) := by
  refine Met.ofW (cc := cX2_processBlock) (maxL := 5) (ret := (some .int)) (by decide) rfl ?_
  intro p e s m args below meth c s₁ B hml hv
  obtain ⟨rfl, hsz, hP, hK, hD0, hE⟩ := hv
  have hx := B.exec
  have hb := B.bytes
  have hr := B.returns
  have hts := atoms_spec (ws := wsX2_processBlock) B.pre
  have hts : ∀ w ∈ lw_all, w.before _ s = true := fun w h => hts w (List.mem_cons_of_mem _ h)
  have hown : s.vm.findClass RX2 = some m.cls := findClass_of_methodNamed B.named
  have hlocks := B.notSynchronized
  subst hsz
  have hD := hD0.self (sz := s.heap.size)
  generalize hAe : va_A [(eo, .inr (1, [.ref kq, .int 1, .int 0])), (kq, .inl (cI, 4, .inl g)), (ib, .inl (cb, 16, .inl f)), (ob, .inl (cb, 16, .inl h))] s.heap.size = A at hD hE ⊢
  have hE : nk_ctx t A s s.heap := hE
  have hA : ∀ q : Nat, s.heap.size ≤ q → A q := fun q h => by rw [← hAe]; exact Or.inr h
  have hS : va_S A s.heap s.heap [] := va_S.rf
  have hP : va_P G vwCl [(eo, .inr (1, [.ref kq, .int 1, .int 0])), (kq, .inl (cI, 4, .inl g)), (ib, .inl (cb, 16, .inl f)), (ob, .inl (cb, 16, .inl h))] s.heap := hP
  have hl := lv_entry ([.ref eo, .ref ib, .int 0, .ref ob, .int 0]) (n := 5) (Nat.le_of_ble_eq_true rfl)
  rw [lg_entry_eq]
  generalize (lg_sl ([.ref eo, .ref ib, .int 0, .ref ob, .int 0]) ++ List.replicate (5 - (lg_sl ([.ref eo, .ref ib, .int 0, .ref ob, .int 0])).length) Slot.unset).toArray = ls at hl ⊢
  have hl : lv_has ls 5 [(0, .ref eo), (1, .ref ib), (2, .int 0), (3, .ref ob), (4, .int 0)] := hl
  refine lv_aload_n hx hb dX2_processBlock_0 rfl (lv_at hl 0 rfl) ?_
  refine va_get (D := G) (ci := 1) (v := .int 1) (C := RX2) (T := TX2) (N := 3) hx hb hts in_X2 hown hK hP 0 rfl rfl 1 (by decide) (hts _ q41) (fun _ h9 => h9) rfl dX2_processBlock_1 ?_
  refine lv_if_ne (tgt := 17) hx hb dX2_processBlock_4 (by decide) (fun c9 => ?_) (fun c9 => absurd c9 (by decide))
  refine lv_iload_n hx hb dX2_processBlock_17 rfl (lv_at hl 2 rfl) ?_
  refine lv_aload_n hx hb dX2_processBlock_18 rfl (lv_at hl 1 rfl) ?_
  refine va_alen (v := 16) hx hb hK hP 2 0 rfl rfl (by first | rfl | decide) dX2_processBlock_19 ?_
  refine lv_bipush (v := 16) hx hb dX2_processBlock_20 (by decide) ?_
  refine lv_isub hx hb dX2_processBlock_22 ?_
  refine lv_icmp_le (tgt := 36) hx hb dX2_processBlock_23 (by decide) (fun c9 => ?_) (fun c9 => absurd (by decide) c9)
  refine lv_iload hx hb dX2_processBlock_36 (lv_at hl 4 rfl) ?_
  refine lv_aload_n hx hb dX2_processBlock_38 rfl (lv_at hl 3 rfl) ?_
  refine va_alen (v := 16) hx hb hK hP 3 0 rfl rfl (by first | rfl | decide) dX2_processBlock_39 ?_
  refine lv_bipush (v := 16) hx hb dX2_processBlock_40 (by decide) ?_
  refine lv_isub hx hb dX2_processBlock_42 ?_
  refine lv_icmp_le (tgt := 56) hx hb dX2_processBlock_43 (by decide) (fun c9 => ?_) (fun c9 => absurd (by decide) c9)
  refine lv_aload_n hx hb dX2_processBlock_56 rfl (lv_at hl 0 rfl) ?_
  refine va_get (D := G) (ci := 1) (v := .int 0) (C := RX2) (T := TX2) (N := 3) hx hb hts in_X2 hown hK hP 0 rfl rfl 2 (by decide) (hts _ q42) (fun _ h9 => h9) rfl dX2_processBlock_57 ?_
  refine lv_if_eq (tgt := 75) hx hb dX2_processBlock_60 (by decide) (fun c9 => ?_) (fun c9 => absurd rfl c9)
  refine lv_aload_n hx hb dX2_processBlock_75 rfl (lv_at hl 0 rfl) ?_
  refine lv_aload_n hx hb dX2_processBlock_76 rfl (lv_at hl 1 rfl) ?_
  refine lv_iload_n hx hb dX2_processBlock_77 rfl (lv_at hl 2 rfl) ?_
  refine lv_aload_n hx hb dX2_processBlock_78 rfl (lv_at hl 3 rfl) ?_
  refine lv_iload hx hb dX2_processBlock_79 (lv_at hl 4 rfl) ?_
  have hPc := hP.sub (ws' := [(eo, .inr (1, [.ref kq, .int 1, .int 0])), (kq, .inl (cI, 4, .inl g)), (ib, .inl (cb, 16, .inl f)), (ob, .inl (cb, 16, .inl h))]) [0, 1, 2, 3] rfl
  have hDc := hD.sub (ws' := [(eo, .inr (1, [.ref kq, .int 1, .int 0])), (kq, .inl (cI, 4, .inl g)), (ib, .inl (cb, 16, .inl f)), (ob, .inl (cb, 16, .inl h))]) [0, 1, 2, 3] (by decide) rfl
  have hFc := va_free (wc := [(eo, .inr (1, [.ref kq, .int 1, .int 0])), (kq, .inl (cI, 4, .inl g)), (ib, .inl (cb, 16, .inl f)), (ob, .inl (cb, 16, .inl h))]) hD hS hA [0, 1, 2, 3] rfl
  refine call_i (va_runV (As := [.ref ib, .int 0, .ref ob, .int 0]) (rest := []) ⟨hx, hb, hml, hown, hts⟩ (metX2_decryptBlock l G cb cI t eo kq ib ob g f h _) (cwV 4 hts (lw_V q238 q240 qs3 q6 q241) rfl rfl rfl (by decide +kernel) ⟨Nat.le_of_ble_eq_true rfl, Nat.le_of_ble_eq_true rfl⟩) (preW_V (ci := 1) (q0 := 0) hPc hK hDc (ctx_in hE hS hFc) rfl rfl) rfl rfl hl.1 rfl (lv_room (Nat.le_of_ble_eq_true rfl)) dX2_processBlock_81 ⟨Nat.le_of_ble_eq_true rfl, Nat.le_of_ble_eq_true rfl⟩) hP hD hS hFc [0, 1, 2, 3] [] (wr := []) rfl rfl (by decide) (by decide) (fun r_1 u_2 H locs huu_2 hP hD hS => ?_)
  have hP : va_P G vwCl [(eo, .inr (1, [.ref kq, .int 1, .int 0])), (kq, .inl (cI, 4, .inl g)), (ib, .inl (cb, 16, .inl f)), (ob, .inl (cb, 16, .inl u_2))] H := hP
  have hD : va_D A [(eo, .inr (1, [.ref kq, .int 1, .int 0])), (kq, .inl (cI, 4, .inl g)), (ib, .inl (cb, 16, .inl f)), (ob, .inl (cb, 16, .inl u_2))] := hD
  refine W.widen (k := 0) (n := 0) (by omega) (by omega) ?_
  exact W.iret (v := r_1) hx hb hr (fun t9 ht hW => ⟨⟨r_1, u_2, rfl, huu_2, by rw [ht]; exact hP, hD⟩, hS.F ht⟩) hS.2.2 dX2_processBlock_84
end
section
abbrev wsX1_init : List Cond := ws_ yX1_init cX1_init 1 none
abbrev wsX1_word : List Cond := ws_ yX1_word cX1_word 3 none
abbrev wsX1_size : List Cond := ws_ yX1_size cX1_size 1 (some .int)
abbrev wsX1_key : List Cond := ws_ yX1_key cX1_key 7 none
abbrev wsX1_block : List Cond := ws_ yX1_block cX1_block 5 none
abbrev wsX1_run : List Cond := ws_ yX1_run cX1_run 6 none
abbrev wsX1_lock : List Cond := ws_ yX1_lock cX1_lock 2 none
abbrev wsX1_open : List Cond := ws_ yX1_open cX1_open 2 none
abbrev wsX1_again : List Cond := ws_ yX1_again cX1_again 2 none
abbrev wsX1_out : List Cond := ws_ yX1_out cX1_out 2 (some .int)
set_option maxHeartbeats 4000000 in
set_option maxRecDepth 100000 in
theorem metX1_init (l : Launch) (G : va_G) (cb cI : ClassId) (oo : Nat) (sz : Nat) : Met l yX1_init wsX1_init ({ frames := 1, cells := 3, slots := 64, locals := 12 }) (pcW [.ref oo] G cb cI [(oo, .inr (0, [.null, .null, .null]))] sz tru) (qcV (fun _ : Nat × Nat × Nat => True) G (fun u => [(oo, .inr (0, [.ref u.1, .ref u.2.1, .ref u.2.2])), (u.1, .inl (cb, 32, .inl (fun _ => 0))), (u.2.1, .inl (cb, 16, .inl (fun _ => 0))), (u.2.2, .inl (cb, 16, .inl (fun _ => 0)))]) (va_A [(oo, .inr (0, [.null, .null, .null]))] sz)) 3 64 (va_A [(oo, .inr (0, [.null, .null, .null]))] sz) := by
  refine Met.ofW (cc := cX1_init) (maxL := 1) (ret := none) (by decide) rfl ?_
  intro p e s m args below meth c s₁ B hml hv
  obtain ⟨rfl, hsz, hP, hK, hD0, hE⟩ := hv
  have hx := B.exec
  have hb := B.bytes
  have hr := B.returns
  have hts := atoms_spec (ws := wsX1_init) B.pre
  have hts : ∀ w ∈ lw_all, w.before _ s = true := fun w h => hts w (List.mem_cons_of_mem _ h)
  have hown : s.vm.findClass RX1 = some m.cls := findClass_of_methodNamed B.named
  have hlocks := B.notSynchronized
  have hin : meth.name = "<init>" := (name_of_methodNamed B.named B.method).1
  subst hsz
  have hD := hD0.self (sz := s.heap.size)
  generalize hAe : va_A [(oo, .inr (0, [.null, .null, .null]))] s.heap.size = A at hD ⊢
  have hA : ∀ q : Nat, s.heap.size ≤ q → A q := fun q h => by rw [← hAe]; exact Or.inr h
  have hS : va_S A s.heap s.heap [] := va_S.rf
  have hP : va_P G vwCl [(oo, .inr (0, [.null, .null, .null]))] s.heap := hP
  have hl := lv_entry ([.ref oo]) (n := 1) (Nat.le_of_ble_eq_true rfl)
  rw [lg_entry_eq]
  generalize (lg_sl ([.ref oo]) ++ List.replicate (1 - (lg_sl ([.ref oo])).length) Slot.unset).toArray = ls at hl ⊢
  have hl : lv_has ls 1 [(0, .ref oo)] := hl
  refine lv_aload_n hx hb dX1_init_0 rfl (lv_at hl 0 rfl) ?_
  refine W.objInit hx hb hown (hts _ q257) (hts _ q38) (hts _ q39) rfl (by rw [hml]; exact hl.1) rfl dX1_init_1 (Nat.le_of_ble_eq_true rfl) (Nat.le_of_ble_eq_true rfl) ?_
  refine W.eq (g2 := F0 m 4 ls []) rfl ?_
  refine lv_aload_n hx hb dX1_init_4 rfl (lv_at hl 0 rfl) ?_
  refine lv_bipush (v := 32) hx hb dX1_init_5 (by decide) ?_
  refine va_newa (atype := .byte) (ty := .byte) (a0 := (32, .inl (fun _ => 0))) (N' := 32) hx hb (hts _ q50) rfl hK hP hD hS hA (fun _ => rfl) (by decide) (by decide) (Nat.le_of_ble_eq_true rfl) (Nat.le_of_ble_eq_true rfl) (Nat.le_of_ble_eq_true rfl) dX1_init_7 (fun qa_1 cA H hK hP hD hS => ?_)
  have hcA : cb = cA := kb_eq hK
  subst hcA
  have hK := hK.sub (tys' := [(cb, .byte), (cI, .int)]) [0, 1] rfl
  have hP : va_P G vwCl [(oo, .inr (0, [.null, .null, .null])), (qa_1, .inl (cb, 32, .inl (fun _ => 0)))] H := hP
  have hD : va_D A [(oo, .inr (0, [.null, .null, .null])), (qa_1, .inl (cb, 32, .inl (fun _ => 0)))] := hD
  refine W.widen (k := 1) (n := 32) (by omega) (by omega) ?_
  refine va_putF (D := G) (ci := 0) (v := .ref qa_1) (ty := .array .byte) (C := RX1) (T := TX1) (N := 3) hx hb hts in_X1 tyX1 tyX1_ok nmX1 hown hK hP hD hS 0 rfl rfl 0 (by decide) (hts _ q258) (fun _ h9 => h9) rfl hin rfl (by decide +kernel) rfl rfl (Nat.le_of_ble_eq_true rfl) dX1_init_9 (fun H locs hP hD hS => ?_)
  have hP : va_P G vwCl [(oo, .inr (0, [.ref qa_1, .null, .null])), (qa_1, .inl (cb, 32, .inl (fun _ => 0)))] H := hP
  have hD : va_D A [(oo, .inr (0, [.ref qa_1, .null, .null])), (qa_1, .inl (cb, 32, .inl (fun _ => 0)))] := hD
  refine lv_aload_n hx hb dX1_init_12 rfl (lv_at hl 0 rfl) ?_
  refine lv_bipush (v := 16) hx hb dX1_init_13 (by decide) ?_
  refine va_newa (atype := .byte) (ty := .byte) (a0 := (16, .inl (fun _ => 0))) (N' := 16) hx hb (hts _ q50) rfl hK hP hD hS hA (fun _ => rfl) (by decide) (by decide) (Nat.le_of_ble_eq_true rfl) (Nat.le_of_ble_eq_true rfl) (Nat.le_of_ble_eq_true rfl) dX1_init_15 (fun qa_2 cA H hK hP hD hS => ?_)
  have hcA : cb = cA := kb_eq hK
  subst hcA
  have hK := hK.sub (tys' := [(cb, .byte), (cI, .int)]) [0, 1] rfl
  have hP : va_P G vwCl [(oo, .inr (0, [.ref qa_1, .null, .null])), (qa_1, .inl (cb, 32, .inl (fun _ => 0))), (qa_2, .inl (cb, 16, .inl (fun _ => 0)))] H := hP
  have hD : va_D A [(oo, .inr (0, [.ref qa_1, .null, .null])), (qa_1, .inl (cb, 32, .inl (fun _ => 0))), (qa_2, .inl (cb, 16, .inl (fun _ => 0)))] := hD
  refine W.widen (k := 2) (n := 48) (by omega) (by omega) ?_
  refine va_putF (D := G) (ci := 0) (v := .ref qa_2) (ty := .array .byte) (C := RX1) (T := TX1) (N := 3) hx hb hts in_X1 tyX1 tyX1_ok nmX1 hown hK hP hD hS 0 rfl rfl 1 (by decide) (hts _ q259) (fun _ h9 => h9) rfl hin rfl (by decide +kernel) rfl rfl (Nat.le_of_ble_eq_true rfl) dX1_init_17 (fun H locs hP hD hS => ?_)
  have hP : va_P G vwCl [(oo, .inr (0, [.ref qa_1, .ref qa_2, .null])), (qa_1, .inl (cb, 32, .inl (fun _ => 0))), (qa_2, .inl (cb, 16, .inl (fun _ => 0)))] H := hP
  have hD : va_D A [(oo, .inr (0, [.ref qa_1, .ref qa_2, .null])), (qa_1, .inl (cb, 32, .inl (fun _ => 0))), (qa_2, .inl (cb, 16, .inl (fun _ => 0)))] := hD
  refine lv_aload_n hx hb dX1_init_20 rfl (lv_at hl 0 rfl) ?_
  refine lv_bipush (v := 16) hx hb dX1_init_21 (by decide) ?_
  refine va_newa (atype := .byte) (ty := .byte) (a0 := (16, .inl (fun _ => 0))) (N' := 16) hx hb (hts _ q50) rfl hK hP hD hS hA (fun _ => rfl) (by decide) (by decide) (Nat.le_of_ble_eq_true rfl) (Nat.le_of_ble_eq_true rfl) (Nat.le_of_ble_eq_true rfl) dX1_init_23 (fun qa_3 cA H hK hP hD hS => ?_)
  have hcA : cb = cA := kb_eq hK
  subst hcA
  have hK := hK.sub (tys' := [(cb, .byte), (cI, .int)]) [0, 1] rfl
  have hP : va_P G vwCl [(oo, .inr (0, [.ref qa_1, .ref qa_2, .null])), (qa_1, .inl (cb, 32, .inl (fun _ => 0))), (qa_2, .inl (cb, 16, .inl (fun _ => 0))), (qa_3, .inl (cb, 16, .inl (fun _ => 0)))] H := hP
  have hD : va_D A [(oo, .inr (0, [.ref qa_1, .ref qa_2, .null])), (qa_1, .inl (cb, 32, .inl (fun _ => 0))), (qa_2, .inl (cb, 16, .inl (fun _ => 0))), (qa_3, .inl (cb, 16, .inl (fun _ => 0)))] := hD
  refine W.widen (k := 3) (n := 64) (by omega) (by omega) ?_
  refine va_putF (D := G) (ci := 0) (v := .ref qa_3) (ty := .array .byte) (C := RX1) (T := TX1) (N := 3) hx hb hts in_X1 tyX1 tyX1_ok nmX1 hown hK hP hD hS 0 rfl rfl 2 (by decide) (hts _ q260) (fun _ h9 => h9) rfl hin rfl (by decide +kernel) rfl rfl (Nat.le_of_ble_eq_true rfl) dX1_init_25 (fun H locs hP hD hS => ?_)
  have hP : va_P G vwCl [(oo, .inr (0, [.ref qa_1, .ref qa_2, .ref qa_3])), (qa_1, .inl (cb, 32, .inl (fun _ => 0))), (qa_2, .inl (cb, 16, .inl (fun _ => 0))), (qa_3, .inl (cb, 16, .inl (fun _ => 0)))] H := hP
  have hD : va_D A [(oo, .inr (0, [.ref qa_1, .ref qa_2, .ref qa_3])), (qa_1, .inl (cb, 32, .inl (fun _ => 0))), (qa_2, .inl (cb, 16, .inl (fun _ => 0))), (qa_3, .inl (cb, 16, .inl (fun _ => 0)))] := hD
  exact W.vret hx hb hr (fun t ht hW => ⟨⟨(qa_1, qa_2, qa_3), rfl, trivial, by rw [ht]; exact hP, hD⟩, hS.F ht⟩) hS.2.2 dX1_init_28
set_option maxHeartbeats 4000000 in
set_option maxRecDepth 100000 in
theorem metX1_word (l : Launch) (G : va_G) (cb cI : ClassId) (b n : Nat) (f : Nat → Int32) (x v : Int32) (k : Nat) (ek : x = nI k) (hk : k + 4 ≤ n) (hn : n < 2 ^ 31) (sz : Nat) : Met l yX1_word wsX1_word ({ frames := 0, cells := 0, slots := 0, locals := 0 }) (pcW [.ref b, .int x, .int v] G cb cI [(b, .inl (cb, n, .inl f))] sz tru) (qcV (fun u : Nat → Int32 => nk_wd u k = v ∧ nk_frm u f k) G (fun u => [(b, .inl (cb, n, .inl u))]) (va_A [(b, .inl (cb, n, .inl f))] sz)) 0 0 (va_A [(b, .inl (cb, n, .inl f))] sz) := by
  refine Met.ofW (cc := cX1_word) (maxL := 3) (ret := none) (by decide) rfl ?_
  intro p e s m args below meth c s₁ B hml hv
  obtain ⟨rfl, hsz, hP, hK, hD0, hE⟩ := hv
  have hx := B.exec
  have hb := B.bytes
  have hr := B.returns
  have hts := atoms_spec (ws := wsX1_word) B.pre
  have hts : ∀ w ∈ lw_all, w.before _ s = true := fun w h => hts w (List.mem_cons_of_mem _ h)
  have hown : s.vm.findClass RX1 = some m.cls := findClass_of_methodNamed B.named
  have hlocks := B.notSynchronized
  subst hsz
  have hD := hD0.self (sz := s.heap.size)
  generalize hAe : va_A [(b, .inl (cb, n, .inl f))] s.heap.size = A at hD ⊢
  have hA : ∀ q : Nat, s.heap.size ≤ q → A q := fun q h => by rw [← hAe]; exact Or.inr h
  have hS : va_S A s.heap s.heap [] := va_S.rf
  have hP : va_P G vwCl [(b, .inl (cb, n, .inl f))] s.heap := hP
  have hl := lv_entry ([.ref b, .int x, .int v]) (n := 3) (Nat.le_of_ble_eq_true rfl)
  rw [lg_entry_eq]
  generalize (lg_sl ([.ref b, .int x, .int v]) ++ List.replicate (3 - (lg_sl ([.ref b, .int x, .int v])).length) Slot.unset).toArray = ls at hl ⊢
  have hl : lv_has ls 3 [(0, .ref b), (1, .int x), (2, .int v)] := hl
  have c0 : x.toNatClampNeg = k := by rw [ek, nI_clamp (by omega)]
  have i1 : x + 1 = nI (k + 1) := by rw [ek]; exact nI_add k 1
  have c1 : (x + 1).toNatClampNeg = k + 1 := by rw [i1, nI_clamp (by omega)]
  have i2 : x + 2 = nI (k + 2) := by rw [ek]; exact nI_add k 2
  have c2 : (x + 2).toNatClampNeg = k + 2 := by rw [i2, nI_clamp (by omega)]
  have i3 : x + 3 = nI (k + 3) := by rw [ek]; exact nI_add k 3
  have c3 : (x + 3).toNatClampNeg = k + 3 := by rw [i3, nI_clamp (by omega)]
  refine lv_aload_n hx hb dX1_word_0 rfl (lv_at hl 0 rfl) ?_
  refine lv_iload_n hx hb dX1_word_1 rfl (lv_at hl 1 rfl) ?_
  refine lv_iload_n hx hb dX1_word_2 rfl (lv_at hl 2 rfl) ?_
  refine lv_bipush (v := 24) hx hb dX1_word_3 (by decide) ?_
  refine lv_ishr hx hb dX1_word_5 ?_
  refine lv_i2b (v := (nk_tb (v >>> (24 &&& 31)))) hx hb dX1_word_6 rfl ?_
  refine va_bast hx hb hK hP hD hS 0 0 rfl rfl (by rw [ek]; exact vp_in_nI (by omega) hn) dX1_word_7 (fun H locs hP hD hS => ?_)
  rw [c0] at hP hD
  have hP : va_P G vwCl [(b, .inl (cb, n, .inl (upd f (k) (vp_nar .byte (nk_tb (v >>> (24 &&& 31)))))))] H := hP
  have hD : va_D A [(b, .inl (cb, n, .inl (upd f (k) (vp_nar .byte (nk_tb (v >>> (24 &&& 31)))))))] := hD
  refine lv_aload_n hx hb dX1_word_8 rfl (lv_at hl 0 rfl) ?_
  refine lv_iload_n hx hb dX1_word_9 rfl (lv_at hl 1 rfl) ?_
  refine lv_iconst (v := 1) hx hb dX1_word_10 (by decide) ?_
  refine lv_iadd hx hb dX1_word_11 ?_
  refine lv_iload_n hx hb dX1_word_12 rfl (lv_at hl 2 rfl) ?_
  refine lv_bipush (v := 16) hx hb dX1_word_13 (by decide) ?_
  refine lv_ishr hx hb dX1_word_15 ?_
  refine lv_i2b (v := (nk_tb (v >>> (16 &&& 31)))) hx hb dX1_word_16 rfl ?_
  refine va_bast hx hb hK hP hD hS 0 0 rfl rfl (by rw [i1]; exact vp_in_nI (by omega) hn) dX1_word_17 (fun H locs hP hD hS => ?_)
  rw [c1] at hP hD
  have hP : va_P G vwCl [(b, .inl (cb, n, .inl (upd (upd f (k) (vp_nar .byte (nk_tb (v >>> (24 &&& 31))))) (k + 1) (vp_nar .byte (nk_tb (v >>> (16 &&& 31)))))))] H := hP
  have hD : va_D A [(b, .inl (cb, n, .inl (upd (upd f (k) (vp_nar .byte (nk_tb (v >>> (24 &&& 31))))) (k + 1) (vp_nar .byte (nk_tb (v >>> (16 &&& 31)))))))] := hD
  refine lv_aload_n hx hb dX1_word_18 rfl (lv_at hl 0 rfl) ?_
  refine lv_iload_n hx hb dX1_word_19 rfl (lv_at hl 1 rfl) ?_
  refine lv_iconst (v := 2) hx hb dX1_word_20 (by decide) ?_
  refine lv_iadd hx hb dX1_word_21 ?_
  refine lv_iload_n hx hb dX1_word_22 rfl (lv_at hl 2 rfl) ?_
  refine lv_bipush (v := 8) hx hb dX1_word_23 (by decide) ?_
  refine lv_ishr hx hb dX1_word_25 ?_
  refine lv_i2b (v := (nk_tb (v >>> (8 &&& 31)))) hx hb dX1_word_26 rfl ?_
  refine va_bast hx hb hK hP hD hS 0 0 rfl rfl (by rw [i2]; exact vp_in_nI (by omega) hn) dX1_word_27 (fun H locs hP hD hS => ?_)
  rw [c2] at hP hD
  have hP : va_P G vwCl [(b, .inl (cb, n, .inl (upd (upd (upd f (k) (vp_nar .byte (nk_tb (v >>> (24 &&& 31))))) (k + 1) (vp_nar .byte (nk_tb (v >>> (16 &&& 31))))) (k + 2) (vp_nar .byte (nk_tb (v >>> (8 &&& 31)))))))] H := hP
  have hD : va_D A [(b, .inl (cb, n, .inl (upd (upd (upd f (k) (vp_nar .byte (nk_tb (v >>> (24 &&& 31))))) (k + 1) (vp_nar .byte (nk_tb (v >>> (16 &&& 31))))) (k + 2) (vp_nar .byte (nk_tb (v >>> (8 &&& 31)))))))] := hD
  refine lv_aload_n hx hb dX1_word_28 rfl (lv_at hl 0 rfl) ?_
  refine lv_iload_n hx hb dX1_word_29 rfl (lv_at hl 1 rfl) ?_
  refine lv_iconst (v := 3) hx hb dX1_word_30 (by decide) ?_
  refine lv_iadd hx hb dX1_word_31 ?_
  refine lv_iload_n hx hb dX1_word_32 rfl (lv_at hl 2 rfl) ?_
  refine lv_i2b (v := (nk_tb v)) hx hb dX1_word_33 rfl ?_
  refine va_bast hx hb hK hP hD hS 0 0 rfl rfl (by rw [i3]; exact vp_in_nI (by omega) hn) dX1_word_34 (fun H locs hP hD hS => ?_)
  rw [c3] at hP hD
  have hP : va_P G vwCl [(b, .inl (cb, n, .inl (upd (upd (upd (upd f (k) (vp_nar .byte (nk_tb (v >>> (24 &&& 31))))) (k + 1) (vp_nar .byte (nk_tb (v >>> (16 &&& 31))))) (k + 2) (vp_nar .byte (nk_tb (v >>> (8 &&& 31))))) (k + 3) (vp_nar .byte (nk_tb v)))))] H := hP
  have hD : va_D A [(b, .inl (cb, n, .inl (upd (upd (upd (upd f (k) (vp_nar .byte (nk_tb (v >>> (24 &&& 31))))) (k + 1) (vp_nar .byte (nk_tb (v >>> (16 &&& 31))))) (k + 2) (vp_nar .byte (nk_tb (v >>> (8 &&& 31))))) (k + 3) (vp_nar .byte (nk_tb v)))))] := hD
  have hw : (upd (upd (upd (upd f (k) (vp_nar .byte (nk_tb (v >>> (24 &&& 31))))) (k + 1) (vp_nar .byte (nk_tb (v >>> (16 &&& 31))))) (k + 2) (vp_nar .byte (nk_tb (v >>> (8 &&& 31))))) (k + 3) (vp_nar .byte (nk_tb v))) = wr4 f k (vp_nar .byte (nk_tb (v >>> ((24 : Int32) &&& 31)))) (vp_nar .byte (nk_tb (v >>> ((16 : Int32) &&& 31)))) (vp_nar .byte (nk_tb (v >>> ((8 : Int32) &&& 31)))) (vp_nar .byte (nk_tb v)) := rfl
  rw [hw] at hP hD
  exact W.vret hx hb hr (fun t ht hW => ⟨⟨_, rfl, ⟨wd_wrs f k v, fun j h => wr4_n f k _ _ _ _ j h⟩, by rw [ht]; exact hP, hD⟩, hS.F ht⟩) hS.2.2 dX1_word_35
set_option maxHeartbeats 4000000 in
set_option maxRecDepth 100000 in
theorem metX1_size (l : Launch) (x : Int32) : Met l yX1_size wsX1_size ({ frames := 0, cells := 0, slots := 0, locals := 0 }) (va_Pc [.int x] tru) (vp_Si (fun r => r = 16)) 0 0 (fun _ => False) := by
  refine Met.ofW (cc := cX1_size) (maxL := 1) (ret := (some .int)) (by decide) rfl ?_
  intro p e s m args below meth c s₁ B hml hv
  obtain ⟨rfl, -⟩ := hv
  have hx := B.exec
  have hb := B.bytes
  have hr := B.returns
  have hts := atoms_spec (ws := wsX1_size) B.pre
  have hts : ∀ w ∈ lw_all, w.before _ s = true := fun w h => hts w (List.mem_cons_of_mem _ h)
  have hown : s.vm.findClass RX1 = some m.cls := findClass_of_methodNamed B.named
  have hlocks := B.notSynchronized
  have hl := lv_entry ([.int x]) (n := 1) (Nat.le_of_ble_eq_true rfl)
  rw [lg_entry_eq]
  generalize (lg_sl ([.int x]) ++ List.replicate (1 - (lg_sl ([.int x])).length) Slot.unset).toArray = ls at hl ⊢
  have hl : lv_has ls 1 [(0, .int x)] := hl
  refine lv_bipush (v := 16) hx hb dX1_size_0 (by decide) ?_
  exact W.iret (v := 16) hx hb hr (fun t ht hW => ⟨_, rfl, rfl, ht⟩) (fun _ h => by cases h) dX1_size_2
set_option maxHeartbeats 4000000 in
set_option maxRecDepth 100000 in
theorem metX1_key_0 (l : Launch) (G : va_G) (cb cI : ClassId) (oo kq bq uq : Nat) (f : Nat → Int32) (a b c1 d : Int32) (sz : Nat) : Met l yX1_key wsX1_key ({ frames := 1, cells := 0, slots := 0, locals := 22 }) (pcW [.ref oo, .int 0, .int a, .int b, .int c1, .int d] G cb cI [(oo, .inr (0, [.ref kq, .ref bq, .ref uq])), (kq, .inl (cb, 32, .inl f))] sz tru) (qcV (fun u : Nat → Int32 => nk_wds u = (a, b, c1, d)) G (fun u => [(oo, .inr (0, [.ref kq, .ref bq, .ref uq])), (kq, .inl (cb, 32, .inl u))]) (va_A [(oo, .inr (0, [.ref kq, .ref bq, .ref uq])), (kq, .inl (cb, 32, .inl f))] sz)) 0 0 (va_A [(oo, .inr (0, [.ref kq, .ref bq, .ref uq])), (kq, .inl (cb, 32, .inl f))] sz) := by
  refine Met.ofW (cc := cX1_key) (maxL := 7) (ret := none) (by decide) rfl ?_
  intro p e s m args below meth c s₁ B hml hv
  obtain ⟨rfl, hsz, hP, hK, hD0, hE⟩ := hv
  have hx := B.exec
  have hb := B.bytes
  have hr := B.returns
  have hts := atoms_spec (ws := wsX1_key) B.pre
  have hts : ∀ w ∈ lw_all, w.before _ s = true := fun w h => hts w (List.mem_cons_of_mem _ h)
  have hown : s.vm.findClass RX1 = some m.cls := findClass_of_methodNamed B.named
  have hlocks := B.notSynchronized
  subst hsz
  have hD := hD0.self (sz := s.heap.size)
  generalize hAe : va_A [(oo, .inr (0, [.ref kq, .ref bq, .ref uq])), (kq, .inl (cb, 32, .inl f))] s.heap.size = A at hD ⊢
  have hA : ∀ q : Nat, s.heap.size ≤ q → A q := fun q h => by rw [← hAe]; exact Or.inr h
  have hS : va_S A s.heap s.heap [] := va_S.rf
  have hP : va_P G vwCl [(oo, .inr (0, [.ref kq, .ref bq, .ref uq])), (kq, .inl (cb, 32, .inl f))] s.heap := hP
  have hl := lv_entry ([.ref oo, .int 0, .int a, .int b, .int c1, .int d]) (n := 7) (Nat.le_of_ble_eq_true rfl)
  rw [lg_entry_eq]
  generalize (lg_sl ([.ref oo, .int 0, .int a, .int b, .int c1, .int d]) ++ List.replicate (7 - (lg_sl ([.ref oo, .int 0, .int a, .int b, .int c1, .int d])).length) Slot.unset).toArray = ls at hl ⊢
  have hl : lv_has ls 7 [(0, .ref oo), (1, .int 0), (2, .int a), (3, .int b), (4, .int c1), (5, .int d)] := hl
  refine lv_iload_n hx hb dX1_key_0 rfl (lv_at hl 1 rfl) ?_
  refine lv_iconst (v := 1) hx hb dX1_key_1 (by decide) ?_
  refine lv_iand hx hb dX1_key_2 ?_
  refine lv_iconst (v := 4) hx hb dX1_key_3 (by decide) ?_
  refine lv_ishl hx hb dX1_key_4 ?_
  refine lv_topi (fun x6_1 ex6_1 => ?_)
  refine lv_istore (lv' := [(6, .int x6_1), (0, .ref oo), (1, .int 0), (2, .int a), (3, .int b), (4, .int c1), (5, .int d)]) hx hb dX1_key_5 hl (by decide) rfl (fun ls hl => ?_)
  have e6 : x6_1 = nI 0 := by rw [ex6_1]; decide
  refine lv_aload_n hx hb dX1_key_7 rfl (lv_at hl 1 rfl) ?_
  refine va_get (D := G) (ci := 0) (v := .ref kq) (C := RX1) (T := TX1) (N := 3) hx hb hts in_X1 hown hK hP 0 rfl rfl 0 (by decide) (hts _ q258) (fun _ h9 => h9) rfl dX1_key_8 ?_
  refine lv_iload hx hb dX1_key_11 (lv_at hl 0 rfl) ?_
  refine lv_iload_n hx hb dX1_key_13 rfl (lv_at hl 3 rfl) ?_
  have hPc := hP.sub (ws' := [(kq, .inl (cb, 32, .inl f))]) [1] rfl
  have hDc := hD.sub (ws' := [(kq, .inl (cb, 32, .inl f))]) [1] (by decide) rfl
  have hFc := va_free (wc := [(kq, .inl (cb, 32, .inl f))]) hD hS hA [1] rfl
  refine call_v (va_runS (As := [.ref kq, .int x6_1, .int a]) (rest := []) ⟨hx, hb, hml, hown, hts⟩ (metX1_word l G cb cI kq 32 f x6_1 a 0 e6 (by omega) (by omega) _) (va_cwS 3 hts (lw_S q275 q276 q5 q277) rfl rfl rfl (by decide +kernel) ⟨Nat.le_of_ble_eq_true rfl, Nat.le_of_ble_eq_true rfl⟩) (preW_S hPc hK hDc (tru_in)) rfl rfl hl.1 rfl (lv_room (Nat.le_of_ble_eq_true rfl)) dX1_key_14 ⟨Nat.le_of_ble_eq_true rfl, Nat.le_of_ble_eq_true rfl⟩) hP hD hS hFc [1] [0] (wr := [(oo, .inr (0, [.ref kq, .ref bq, .ref uq]))]) rfl rfl (by decide) (by decide) (fun u_2 H locs huu_2 hP hD hS => ?_)
  have hP : va_P G vwCl [(oo, .inr (0, [.ref kq, .ref bq, .ref uq])), (kq, .inl (cb, 32, .inl u_2))] H := hP
  have hD : va_D A [(oo, .inr (0, [.ref kq, .ref bq, .ref uq])), (kq, .inl (cb, 32, .inl u_2))] := hD
  refine W.widen (k := 0) (n := 0) (by omega) (by omega) ?_
  refine lv_aload_n hx hb dX1_key_17 rfl (lv_at hl 1 rfl) ?_
  refine va_get (D := G) (ci := 0) (v := .ref kq) (C := RX1) (T := TX1) (N := 3) hx hb hts in_X1 hown hK hP 0 rfl rfl 0 (by decide) (hts _ q258) (fun _ h9 => h9) rfl dX1_key_18 ?_
  refine lv_iload hx hb dX1_key_21 (lv_at hl 0 rfl) ?_
  refine lv_iconst (v := 4) hx hb dX1_key_23 (by decide) ?_
  refine lv_iadd hx hb dX1_key_24 ?_
  refine lv_iload_n hx hb dX1_key_25 rfl (lv_at hl 4 rfl) ?_
  have hPc := hP.sub (ws' := [(kq, .inl (cb, 32, .inl u_2))]) [1] rfl
  have hDc := hD.sub (ws' := [(kq, .inl (cb, 32, .inl u_2))]) [1] (by decide) rfl
  have hFc := va_free (wc := [(kq, .inl (cb, 32, .inl u_2))]) hD hS hA [1] rfl
  refine call_v (va_runS (As := [.ref kq, .int (x6_1 + 4), .int b]) (rest := []) ⟨hx, hb, hml, hown, hts⟩ (metX1_word l G cb cI kq 32 u_2 (x6_1 + 4) b 4 (by rw [e6]; exact nI_add 0 4) (by omega) (by omega) _) (va_cwS 3 hts (lw_S q275 q276 q5 q277) rfl rfl rfl (by decide +kernel) ⟨Nat.le_of_ble_eq_true rfl, Nat.le_of_ble_eq_true rfl⟩) (preW_S hPc hK hDc (tru_in)) rfl rfl hl.1 rfl (lv_room (Nat.le_of_ble_eq_true rfl)) dX1_key_26 ⟨Nat.le_of_ble_eq_true rfl, Nat.le_of_ble_eq_true rfl⟩) hP hD hS hFc [1] [0] (wr := [(oo, .inr (0, [.ref kq, .ref bq, .ref uq]))]) rfl rfl (by decide) (by decide) (fun u_3 H locs huu_3 hP hD hS => ?_)
  have hP : va_P G vwCl [(oo, .inr (0, [.ref kq, .ref bq, .ref uq])), (kq, .inl (cb, 32, .inl u_3))] H := hP
  have hD : va_D A [(oo, .inr (0, [.ref kq, .ref bq, .ref uq])), (kq, .inl (cb, 32, .inl u_3))] := hD
  refine W.widen (k := 0) (n := 0) (by omega) (by omega) ?_
  refine lv_aload_n hx hb dX1_key_29 rfl (lv_at hl 1 rfl) ?_
  refine va_get (D := G) (ci := 0) (v := .ref kq) (C := RX1) (T := TX1) (N := 3) hx hb hts in_X1 hown hK hP 0 rfl rfl 0 (by decide) (hts _ q258) (fun _ h9 => h9) rfl dX1_key_30 ?_
  refine lv_iload hx hb dX1_key_33 (lv_at hl 0 rfl) ?_
  refine lv_bipush (v := 8) hx hb dX1_key_35 (by decide) ?_
  refine lv_iadd hx hb dX1_key_37 ?_
  refine lv_iload hx hb dX1_key_38 (lv_at hl 5 rfl) ?_
  have hPc := hP.sub (ws' := [(kq, .inl (cb, 32, .inl u_3))]) [1] rfl
  have hDc := hD.sub (ws' := [(kq, .inl (cb, 32, .inl u_3))]) [1] (by decide) rfl
  have hFc := va_free (wc := [(kq, .inl (cb, 32, .inl u_3))]) hD hS hA [1] rfl
  refine call_v (va_runS (As := [.ref kq, .int (x6_1 + 8), .int c1]) (rest := []) ⟨hx, hb, hml, hown, hts⟩ (metX1_word l G cb cI kq 32 u_3 (x6_1 + 8) c1 8 (by rw [e6]; exact nI_add 0 8) (by omega) (by omega) _) (va_cwS 3 hts (lw_S q275 q276 q5 q277) rfl rfl rfl (by decide +kernel) ⟨Nat.le_of_ble_eq_true rfl, Nat.le_of_ble_eq_true rfl⟩) (preW_S hPc hK hDc (tru_in)) rfl rfl hl.1 rfl (lv_room (Nat.le_of_ble_eq_true rfl)) dX1_key_40 ⟨Nat.le_of_ble_eq_true rfl, Nat.le_of_ble_eq_true rfl⟩) hP hD hS hFc [1] [0] (wr := [(oo, .inr (0, [.ref kq, .ref bq, .ref uq]))]) rfl rfl (by decide) (by decide) (fun u_4 H locs huu_4 hP hD hS => ?_)
  have hP : va_P G vwCl [(oo, .inr (0, [.ref kq, .ref bq, .ref uq])), (kq, .inl (cb, 32, .inl u_4))] H := hP
  have hD : va_D A [(oo, .inr (0, [.ref kq, .ref bq, .ref uq])), (kq, .inl (cb, 32, .inl u_4))] := hD
  refine W.widen (k := 0) (n := 0) (by omega) (by omega) ?_
  refine lv_aload_n hx hb dX1_key_43 rfl (lv_at hl 1 rfl) ?_
  refine va_get (D := G) (ci := 0) (v := .ref kq) (C := RX1) (T := TX1) (N := 3) hx hb hts in_X1 hown hK hP 0 rfl rfl 0 (by decide) (hts _ q258) (fun _ h9 => h9) rfl dX1_key_44 ?_
  refine lv_iload hx hb dX1_key_47 (lv_at hl 0 rfl) ?_
  refine lv_bipush (v := 12) hx hb dX1_key_49 (by decide) ?_
  refine lv_iadd hx hb dX1_key_51 ?_
  refine lv_iload hx hb dX1_key_52 (lv_at hl 6 rfl) ?_
  have hPc := hP.sub (ws' := [(kq, .inl (cb, 32, .inl u_4))]) [1] rfl
  have hDc := hD.sub (ws' := [(kq, .inl (cb, 32, .inl u_4))]) [1] (by decide) rfl
  have hFc := va_free (wc := [(kq, .inl (cb, 32, .inl u_4))]) hD hS hA [1] rfl
  refine call_v (va_runS (As := [.ref kq, .int (x6_1 + 12), .int d]) (rest := []) ⟨hx, hb, hml, hown, hts⟩ (metX1_word l G cb cI kq 32 u_4 (x6_1 + 12) d 12 (by rw [e6]; exact nI_add 0 12) (by omega) (by omega) _) (va_cwS 3 hts (lw_S q275 q276 q5 q277) rfl rfl rfl (by decide +kernel) ⟨Nat.le_of_ble_eq_true rfl, Nat.le_of_ble_eq_true rfl⟩) (preW_S hPc hK hDc (tru_in)) rfl rfl hl.1 rfl (lv_room (Nat.le_of_ble_eq_true rfl)) dX1_key_54 ⟨Nat.le_of_ble_eq_true rfl, Nat.le_of_ble_eq_true rfl⟩) hP hD hS hFc [1] [0] (wr := [(oo, .inr (0, [.ref kq, .ref bq, .ref uq]))]) rfl rfl (by decide) (by decide) (fun u_5 H locs huu_5 hP hD hS => ?_)
  have hP : va_P G vwCl [(oo, .inr (0, [.ref kq, .ref bq, .ref uq])), (kq, .inl (cb, 32, .inl u_5))] H := hP
  have hD : va_D A [(oo, .inr (0, [.ref kq, .ref bq, .ref uq])), (kq, .inl (cb, 32, .inl u_5))] := hD
  refine W.widen (k := 0) (n := 0) (by omega) (by omega) ?_
  have h4 := nk_four (k := 0) huu_2.1 huu_2.2 huu_3.1 huu_3.2 huu_4.1 huu_4.2 huu_5.1 huu_5.2
  exact W.vret hx hb hr (fun t ht hW => ⟨⟨u_5, rfl, s4_ext h4.1.1 h4.1.2.1 h4.1.2.2.1 h4.1.2.2.2, by rw [ht]; exact hP, hD⟩, hS.F ht⟩) hS.2.2 dX1_key_57
set_option maxHeartbeats 4000000 in
set_option maxRecDepth 100000 in
theorem metX1_key_1 (l : Launch) (G : va_G) (cb cI : ClassId) (oo kq bq uq : Nat) (f : Nat → Int32) (a b c1 d : Int32) (sz : Nat) : Met l yX1_key wsX1_key ({ frames := 1, cells := 0, slots := 0, locals := 22 }) (pcW [.ref oo, .int 1, .int a, .int b, .int c1, .int d] G cb cI [(oo, .inr (0, [.ref kq, .ref bq, .ref uq])), (kq, .inl (cb, 32, .inl f))] sz tru) (qcV (fun u : Nat → Int32 => nk_wds u = nk_wds f) G (fun u => [(oo, .inr (0, [.ref kq, .ref bq, .ref uq])), (kq, .inl (cb, 32, .inl u))]) (va_A [(oo, .inr (0, [.ref kq, .ref bq, .ref uq])), (kq, .inl (cb, 32, .inl f))] sz)) 0 0 (va_A [(oo, .inr (0, [.ref kq, .ref bq, .ref uq])), (kq, .inl (cb, 32, .inl f))] sz) := by
  refine Met.ofW (cc := cX1_key) (maxL := 7) (ret := none) (by decide) rfl ?_
  intro p e s m args below meth c s₁ B hml hv
  obtain ⟨rfl, hsz, hP, hK, hD0, hE⟩ := hv
  have hx := B.exec
  have hb := B.bytes
  have hr := B.returns
  have hts := atoms_spec (ws := wsX1_key) B.pre
  have hts : ∀ w ∈ lw_all, w.before _ s = true := fun w h => hts w (List.mem_cons_of_mem _ h)
  have hown : s.vm.findClass RX1 = some m.cls := findClass_of_methodNamed B.named
  have hlocks := B.notSynchronized
  subst hsz
  have hD := hD0.self (sz := s.heap.size)
  generalize hAe : va_A [(oo, .inr (0, [.ref kq, .ref bq, .ref uq])), (kq, .inl (cb, 32, .inl f))] s.heap.size = A at hD ⊢
  have hA : ∀ q : Nat, s.heap.size ≤ q → A q := fun q h => by rw [← hAe]; exact Or.inr h
  have hS : va_S A s.heap s.heap [] := va_S.rf
  have hP : va_P G vwCl [(oo, .inr (0, [.ref kq, .ref bq, .ref uq])), (kq, .inl (cb, 32, .inl f))] s.heap := hP
  have hl := lv_entry ([.ref oo, .int 1, .int a, .int b, .int c1, .int d]) (n := 7) (Nat.le_of_ble_eq_true rfl)
  rw [lg_entry_eq]
  generalize (lg_sl ([.ref oo, .int 1, .int a, .int b, .int c1, .int d]) ++ List.replicate (7 - (lg_sl ([.ref oo, .int 1, .int a, .int b, .int c1, .int d])).length) Slot.unset).toArray = ls at hl ⊢
  have hl : lv_has ls 7 [(0, .ref oo), (1, .int 1), (2, .int a), (3, .int b), (4, .int c1), (5, .int d)] := hl
  refine lv_iload_n hx hb dX1_key_0 rfl (lv_at hl 1 rfl) ?_
  refine lv_iconst (v := 1) hx hb dX1_key_1 (by decide) ?_
  refine lv_iand hx hb dX1_key_2 ?_
  refine lv_iconst (v := 4) hx hb dX1_key_3 (by decide) ?_
  refine lv_ishl hx hb dX1_key_4 ?_
  refine lv_topi (fun x6_1 ex6_1 => ?_)
  refine lv_istore (lv' := [(6, .int x6_1), (0, .ref oo), (1, .int 1), (2, .int a), (3, .int b), (4, .int c1), (5, .int d)]) hx hb dX1_key_5 hl (by decide) rfl (fun ls hl => ?_)
  have e6 : x6_1 = nI 16 := by rw [ex6_1]; decide
  refine lv_aload_n hx hb dX1_key_7 rfl (lv_at hl 1 rfl) ?_
  refine va_get (D := G) (ci := 0) (v := .ref kq) (C := RX1) (T := TX1) (N := 3) hx hb hts in_X1 hown hK hP 0 rfl rfl 0 (by decide) (hts _ q258) (fun _ h9 => h9) rfl dX1_key_8 ?_
  refine lv_iload hx hb dX1_key_11 (lv_at hl 0 rfl) ?_
  refine lv_iload_n hx hb dX1_key_13 rfl (lv_at hl 3 rfl) ?_
  have hPc := hP.sub (ws' := [(kq, .inl (cb, 32, .inl f))]) [1] rfl
  have hDc := hD.sub (ws' := [(kq, .inl (cb, 32, .inl f))]) [1] (by decide) rfl
  have hFc := va_free (wc := [(kq, .inl (cb, 32, .inl f))]) hD hS hA [1] rfl
  refine call_v (va_runS (As := [.ref kq, .int x6_1, .int a]) (rest := []) ⟨hx, hb, hml, hown, hts⟩ (metX1_word l G cb cI kq 32 f x6_1 a 16 e6 (by omega) (by omega) _) (va_cwS 3 hts (lw_S q275 q276 q5 q277) rfl rfl rfl (by decide +kernel) ⟨Nat.le_of_ble_eq_true rfl, Nat.le_of_ble_eq_true rfl⟩) (preW_S hPc hK hDc (tru_in)) rfl rfl hl.1 rfl (lv_room (Nat.le_of_ble_eq_true rfl)) dX1_key_14 ⟨Nat.le_of_ble_eq_true rfl, Nat.le_of_ble_eq_true rfl⟩) hP hD hS hFc [1] [0] (wr := [(oo, .inr (0, [.ref kq, .ref bq, .ref uq]))]) rfl rfl (by decide) (by decide) (fun u_2 H locs huu_2 hP hD hS => ?_)
  have hP : va_P G vwCl [(oo, .inr (0, [.ref kq, .ref bq, .ref uq])), (kq, .inl (cb, 32, .inl u_2))] H := hP
  have hD : va_D A [(oo, .inr (0, [.ref kq, .ref bq, .ref uq])), (kq, .inl (cb, 32, .inl u_2))] := hD
  refine W.widen (k := 0) (n := 0) (by omega) (by omega) ?_
  refine lv_aload_n hx hb dX1_key_17 rfl (lv_at hl 1 rfl) ?_
  refine va_get (D := G) (ci := 0) (v := .ref kq) (C := RX1) (T := TX1) (N := 3) hx hb hts in_X1 hown hK hP 0 rfl rfl 0 (by decide) (hts _ q258) (fun _ h9 => h9) rfl dX1_key_18 ?_
  refine lv_iload hx hb dX1_key_21 (lv_at hl 0 rfl) ?_
  refine lv_iconst (v := 4) hx hb dX1_key_23 (by decide) ?_
  refine lv_iadd hx hb dX1_key_24 ?_
  refine lv_iload_n hx hb dX1_key_25 rfl (lv_at hl 4 rfl) ?_
  have hPc := hP.sub (ws' := [(kq, .inl (cb, 32, .inl u_2))]) [1] rfl
  have hDc := hD.sub (ws' := [(kq, .inl (cb, 32, .inl u_2))]) [1] (by decide) rfl
  have hFc := va_free (wc := [(kq, .inl (cb, 32, .inl u_2))]) hD hS hA [1] rfl
  refine call_v (va_runS (As := [.ref kq, .int (x6_1 + 4), .int b]) (rest := []) ⟨hx, hb, hml, hown, hts⟩ (metX1_word l G cb cI kq 32 u_2 (x6_1 + 4) b 20 (by rw [e6]; exact nI_add 16 4) (by omega) (by omega) _) (va_cwS 3 hts (lw_S q275 q276 q5 q277) rfl rfl rfl (by decide +kernel) ⟨Nat.le_of_ble_eq_true rfl, Nat.le_of_ble_eq_true rfl⟩) (preW_S hPc hK hDc (tru_in)) rfl rfl hl.1 rfl (lv_room (Nat.le_of_ble_eq_true rfl)) dX1_key_26 ⟨Nat.le_of_ble_eq_true rfl, Nat.le_of_ble_eq_true rfl⟩) hP hD hS hFc [1] [0] (wr := [(oo, .inr (0, [.ref kq, .ref bq, .ref uq]))]) rfl rfl (by decide) (by decide) (fun u_3 H locs huu_3 hP hD hS => ?_)
  have hP : va_P G vwCl [(oo, .inr (0, [.ref kq, .ref bq, .ref uq])), (kq, .inl (cb, 32, .inl u_3))] H := hP
  have hD : va_D A [(oo, .inr (0, [.ref kq, .ref bq, .ref uq])), (kq, .inl (cb, 32, .inl u_3))] := hD
  refine W.widen (k := 0) (n := 0) (by omega) (by omega) ?_
  refine lv_aload_n hx hb dX1_key_29 rfl (lv_at hl 1 rfl) ?_
  refine va_get (D := G) (ci := 0) (v := .ref kq) (C := RX1) (T := TX1) (N := 3) hx hb hts in_X1 hown hK hP 0 rfl rfl 0 (by decide) (hts _ q258) (fun _ h9 => h9) rfl dX1_key_30 ?_
  refine lv_iload hx hb dX1_key_33 (lv_at hl 0 rfl) ?_
  refine lv_bipush (v := 8) hx hb dX1_key_35 (by decide) ?_
  refine lv_iadd hx hb dX1_key_37 ?_
  refine lv_iload hx hb dX1_key_38 (lv_at hl 5 rfl) ?_
  have hPc := hP.sub (ws' := [(kq, .inl (cb, 32, .inl u_3))]) [1] rfl
  have hDc := hD.sub (ws' := [(kq, .inl (cb, 32, .inl u_3))]) [1] (by decide) rfl
  have hFc := va_free (wc := [(kq, .inl (cb, 32, .inl u_3))]) hD hS hA [1] rfl
  refine call_v (va_runS (As := [.ref kq, .int (x6_1 + 8), .int c1]) (rest := []) ⟨hx, hb, hml, hown, hts⟩ (metX1_word l G cb cI kq 32 u_3 (x6_1 + 8) c1 24 (by rw [e6]; exact nI_add 16 8) (by omega) (by omega) _) (va_cwS 3 hts (lw_S q275 q276 q5 q277) rfl rfl rfl (by decide +kernel) ⟨Nat.le_of_ble_eq_true rfl, Nat.le_of_ble_eq_true rfl⟩) (preW_S hPc hK hDc (tru_in)) rfl rfl hl.1 rfl (lv_room (Nat.le_of_ble_eq_true rfl)) dX1_key_40 ⟨Nat.le_of_ble_eq_true rfl, Nat.le_of_ble_eq_true rfl⟩) hP hD hS hFc [1] [0] (wr := [(oo, .inr (0, [.ref kq, .ref bq, .ref uq]))]) rfl rfl (by decide) (by decide) (fun u_4 H locs huu_4 hP hD hS => ?_)
  have hP : va_P G vwCl [(oo, .inr (0, [.ref kq, .ref bq, .ref uq])), (kq, .inl (cb, 32, .inl u_4))] H := hP
  have hD : va_D A [(oo, .inr (0, [.ref kq, .ref bq, .ref uq])), (kq, .inl (cb, 32, .inl u_4))] := hD
  refine W.widen (k := 0) (n := 0) (by omega) (by omega) ?_
  refine lv_aload_n hx hb dX1_key_43 rfl (lv_at hl 1 rfl) ?_
  refine va_get (D := G) (ci := 0) (v := .ref kq) (C := RX1) (T := TX1) (N := 3) hx hb hts in_X1 hown hK hP 0 rfl rfl 0 (by decide) (hts _ q258) (fun _ h9 => h9) rfl dX1_key_44 ?_
  refine lv_iload hx hb dX1_key_47 (lv_at hl 0 rfl) ?_
  refine lv_bipush (v := 12) hx hb dX1_key_49 (by decide) ?_
  refine lv_iadd hx hb dX1_key_51 ?_
  refine lv_iload hx hb dX1_key_52 (lv_at hl 6 rfl) ?_
  have hPc := hP.sub (ws' := [(kq, .inl (cb, 32, .inl u_4))]) [1] rfl
  have hDc := hD.sub (ws' := [(kq, .inl (cb, 32, .inl u_4))]) [1] (by decide) rfl
  have hFc := va_free (wc := [(kq, .inl (cb, 32, .inl u_4))]) hD hS hA [1] rfl
  refine call_v (va_runS (As := [.ref kq, .int (x6_1 + 12), .int d]) (rest := []) ⟨hx, hb, hml, hown, hts⟩ (metX1_word l G cb cI kq 32 u_4 (x6_1 + 12) d 28 (by rw [e6]; exact nI_add 16 12) (by omega) (by omega) _) (va_cwS 3 hts (lw_S q275 q276 q5 q277) rfl rfl rfl (by decide +kernel) ⟨Nat.le_of_ble_eq_true rfl, Nat.le_of_ble_eq_true rfl⟩) (preW_S hPc hK hDc (tru_in)) rfl rfl hl.1 rfl (lv_room (Nat.le_of_ble_eq_true rfl)) dX1_key_54 ⟨Nat.le_of_ble_eq_true rfl, Nat.le_of_ble_eq_true rfl⟩) hP hD hS hFc [1] [0] (wr := [(oo, .inr (0, [.ref kq, .ref bq, .ref uq]))]) rfl rfl (by decide) (by decide) (fun u_5 H locs huu_5 hP hD hS => ?_)
  have hP : va_P G vwCl [(oo, .inr (0, [.ref kq, .ref bq, .ref uq])), (kq, .inl (cb, 32, .inl u_5))] H := hP
  have hD : va_D A [(oo, .inr (0, [.ref kq, .ref bq, .ref uq])), (kq, .inl (cb, 32, .inl u_5))] := hD
  refine W.widen (k := 0) (n := 0) (by omega) (by omega) ?_
  have h4 := nk_four (k := 16) huu_2.1 huu_2.2 huu_3.1 huu_3.2 huu_4.1 huu_4.2 huu_5.1 huu_5.2
  exact W.vret hx hb hr (fun t ht hW => ⟨⟨u_5, rfl, wds_congr (fun j hj => h4.2 j (Or.inl hj)), by rw [ht]; exact hP, hD⟩, hS.F ht⟩) hS.2.2 dX1_key_57
set_option maxHeartbeats 4000000 in
set_option maxRecDepth 100000 in
theorem metX1_block (l : Launch) (G : va_G) (cb cI : ClassId) (oo kq bq uq : Nat) (f : Nat → Int32) (a b c1 d : Int32) (sz : Nat) : Met l yX1_block wsX1_block ({ frames := 1, cells := 0, slots := 0, locals := 22 }) (pcW [.ref oo, .int a, .int b, .int c1, .int d] G cb cI [(oo, .inr (0, [.ref kq, .ref bq, .ref uq])), (bq, .inl (cb, 16, .inl f))] sz tru) (qcV (fun u : Nat → Int32 => nk_wds u = (a, b, c1, d)) G (fun u => [(oo, .inr (0, [.ref kq, .ref bq, .ref uq])), (bq, .inl (cb, 16, .inl u))]) (va_A [(oo, .inr (0, [.ref kq, .ref bq, .ref uq])), (bq, .inl (cb, 16, .inl f))] sz)) 0 0 (va_A [(oo, .inr (0, [.ref kq, .ref bq, .ref uq])), (bq, .inl (cb, 16, .inl f))] sz) := by
  refine Met.ofW (cc := cX1_block) (maxL := 5) (ret := none) (by decide) rfl ?_
  intro p e s m args below meth c s₁ B hml hv
  obtain ⟨rfl, hsz, hP, hK, hD0, hE⟩ := hv
  have hx := B.exec
  have hb := B.bytes
  have hr := B.returns
  have hts := atoms_spec (ws := wsX1_block) B.pre
  have hts : ∀ w ∈ lw_all, w.before _ s = true := fun w h => hts w (List.mem_cons_of_mem _ h)
  have hown : s.vm.findClass RX1 = some m.cls := findClass_of_methodNamed B.named
  have hlocks := B.notSynchronized
  subst hsz
  have hD := hD0.self (sz := s.heap.size)
  generalize hAe : va_A [(oo, .inr (0, [.ref kq, .ref bq, .ref uq])), (bq, .inl (cb, 16, .inl f))] s.heap.size = A at hD ⊢
  have hA : ∀ q : Nat, s.heap.size ≤ q → A q := fun q h => by rw [← hAe]; exact Or.inr h
  have hS : va_S A s.heap s.heap [] := va_S.rf
  have hP : va_P G vwCl [(oo, .inr (0, [.ref kq, .ref bq, .ref uq])), (bq, .inl (cb, 16, .inl f))] s.heap := hP
  have hl := lv_entry ([.ref oo, .int a, .int b, .int c1, .int d]) (n := 5) (Nat.le_of_ble_eq_true rfl)
  rw [lg_entry_eq]
  generalize (lg_sl ([.ref oo, .int a, .int b, .int c1, .int d]) ++ List.replicate (5 - (lg_sl ([.ref oo, .int a, .int b, .int c1, .int d])).length) Slot.unset).toArray = ls at hl ⊢
  have hl : lv_has ls 5 [(0, .ref oo), (1, .int a), (2, .int b), (3, .int c1), (4, .int d)] := hl
  refine lv_aload_n hx hb dX1_block_0 rfl (lv_at hl 0 rfl) ?_
  refine va_get (D := G) (ci := 0) (v := .ref bq) (C := RX1) (T := TX1) (N := 3) hx hb hts in_X1 hown hK hP 0 rfl rfl 1 (by decide) (hts _ q259) (fun _ h9 => h9) rfl dX1_block_1 ?_
  refine lv_iconst (v := 0) hx hb dX1_block_4 (by decide) ?_
  refine lv_iload_n hx hb dX1_block_5 rfl (lv_at hl 1 rfl) ?_
  have hPc := hP.sub (ws' := [(bq, .inl (cb, 16, .inl f))]) [1] rfl
  have hDc := hD.sub (ws' := [(bq, .inl (cb, 16, .inl f))]) [1] (by decide) rfl
  have hFc := va_free (wc := [(bq, .inl (cb, 16, .inl f))]) hD hS hA [1] rfl
  refine call_v (va_runS (As := [.ref bq, .int 0, .int a]) (rest := []) ⟨hx, hb, hml, hown, hts⟩ (metX1_word l G cb cI bq 16 f 0 a 0 nI_0.symm (by omega) (by omega) _) (va_cwS 3 hts (lw_S q275 q276 q5 q277) rfl rfl rfl (by decide +kernel) ⟨Nat.le_of_ble_eq_true rfl, Nat.le_of_ble_eq_true rfl⟩) (preW_S hPc hK hDc (tru_in)) rfl rfl hl.1 rfl (lv_room (Nat.le_of_ble_eq_true rfl)) dX1_block_6 ⟨Nat.le_of_ble_eq_true rfl, Nat.le_of_ble_eq_true rfl⟩) hP hD hS hFc [1] [0] (wr := [(oo, .inr (0, [.ref kq, .ref bq, .ref uq]))]) rfl rfl (by decide) (by decide) (fun u_1 H locs huu_1 hP hD hS => ?_)
  have hP : va_P G vwCl [(oo, .inr (0, [.ref kq, .ref bq, .ref uq])), (bq, .inl (cb, 16, .inl u_1))] H := hP
  have hD : va_D A [(oo, .inr (0, [.ref kq, .ref bq, .ref uq])), (bq, .inl (cb, 16, .inl u_1))] := hD
  refine W.widen (k := 0) (n := 0) (by omega) (by omega) ?_
  refine lv_aload_n hx hb dX1_block_9 rfl (lv_at hl 0 rfl) ?_
  refine va_get (D := G) (ci := 0) (v := .ref bq) (C := RX1) (T := TX1) (N := 3) hx hb hts in_X1 hown hK hP 0 rfl rfl 1 (by decide) (hts _ q259) (fun _ h9 => h9) rfl dX1_block_10 ?_
  refine lv_iconst (v := 4) hx hb dX1_block_13 (by decide) ?_
  refine lv_iload_n hx hb dX1_block_14 rfl (lv_at hl 2 rfl) ?_
  have hPc := hP.sub (ws' := [(bq, .inl (cb, 16, .inl u_1))]) [1] rfl
  have hDc := hD.sub (ws' := [(bq, .inl (cb, 16, .inl u_1))]) [1] (by decide) rfl
  have hFc := va_free (wc := [(bq, .inl (cb, 16, .inl u_1))]) hD hS hA [1] rfl
  refine call_v (va_runS (As := [.ref bq, .int 4, .int b]) (rest := []) ⟨hx, hb, hml, hown, hts⟩ (metX1_word l G cb cI bq 16 u_1 4 b 4 (by decide) (by omega) (by omega) _) (va_cwS 3 hts (lw_S q275 q276 q5 q277) rfl rfl rfl (by decide +kernel) ⟨Nat.le_of_ble_eq_true rfl, Nat.le_of_ble_eq_true rfl⟩) (preW_S hPc hK hDc (tru_in)) rfl rfl hl.1 rfl (lv_room (Nat.le_of_ble_eq_true rfl)) dX1_block_15 ⟨Nat.le_of_ble_eq_true rfl, Nat.le_of_ble_eq_true rfl⟩) hP hD hS hFc [1] [0] (wr := [(oo, .inr (0, [.ref kq, .ref bq, .ref uq]))]) rfl rfl (by decide) (by decide) (fun u_2 H locs huu_2 hP hD hS => ?_)
  have hP : va_P G vwCl [(oo, .inr (0, [.ref kq, .ref bq, .ref uq])), (bq, .inl (cb, 16, .inl u_2))] H := hP
  have hD : va_D A [(oo, .inr (0, [.ref kq, .ref bq, .ref uq])), (bq, .inl (cb, 16, .inl u_2))] := hD
  refine W.widen (k := 0) (n := 0) (by omega) (by omega) ?_
  refine lv_aload_n hx hb dX1_block_18 rfl (lv_at hl 0 rfl) ?_
  refine va_get (D := G) (ci := 0) (v := .ref bq) (C := RX1) (T := TX1) (N := 3) hx hb hts in_X1 hown hK hP 0 rfl rfl 1 (by decide) (hts _ q259) (fun _ h9 => h9) rfl dX1_block_19 ?_
  refine lv_bipush (v := 8) hx hb dX1_block_22 (by decide) ?_
  refine lv_iload_n hx hb dX1_block_24 rfl (lv_at hl 3 rfl) ?_
  have hPc := hP.sub (ws' := [(bq, .inl (cb, 16, .inl u_2))]) [1] rfl
  have hDc := hD.sub (ws' := [(bq, .inl (cb, 16, .inl u_2))]) [1] (by decide) rfl
  have hFc := va_free (wc := [(bq, .inl (cb, 16, .inl u_2))]) hD hS hA [1] rfl
  refine call_v (va_runS (As := [.ref bq, .int 8, .int c1]) (rest := []) ⟨hx, hb, hml, hown, hts⟩ (metX1_word l G cb cI bq 16 u_2 8 c1 8 (by decide) (by omega) (by omega) _) (va_cwS 3 hts (lw_S q275 q276 q5 q277) rfl rfl rfl (by decide +kernel) ⟨Nat.le_of_ble_eq_true rfl, Nat.le_of_ble_eq_true rfl⟩) (preW_S hPc hK hDc (tru_in)) rfl rfl hl.1 rfl (lv_room (Nat.le_of_ble_eq_true rfl)) dX1_block_25 ⟨Nat.le_of_ble_eq_true rfl, Nat.le_of_ble_eq_true rfl⟩) hP hD hS hFc [1] [0] (wr := [(oo, .inr (0, [.ref kq, .ref bq, .ref uq]))]) rfl rfl (by decide) (by decide) (fun u_3 H locs huu_3 hP hD hS => ?_)
  have hP : va_P G vwCl [(oo, .inr (0, [.ref kq, .ref bq, .ref uq])), (bq, .inl (cb, 16, .inl u_3))] H := hP
  have hD : va_D A [(oo, .inr (0, [.ref kq, .ref bq, .ref uq])), (bq, .inl (cb, 16, .inl u_3))] := hD
  refine W.widen (k := 0) (n := 0) (by omega) (by omega) ?_
  refine lv_aload_n hx hb dX1_block_28 rfl (lv_at hl 0 rfl) ?_
  refine va_get (D := G) (ci := 0) (v := .ref bq) (C := RX1) (T := TX1) (N := 3) hx hb hts in_X1 hown hK hP 0 rfl rfl 1 (by decide) (hts _ q259) (fun _ h9 => h9) rfl dX1_block_29 ?_
  refine lv_bipush (v := 12) hx hb dX1_block_32 (by decide) ?_
  refine lv_iload hx hb dX1_block_34 (lv_at hl 4 rfl) ?_
  have hPc := hP.sub (ws' := [(bq, .inl (cb, 16, .inl u_3))]) [1] rfl
  have hDc := hD.sub (ws' := [(bq, .inl (cb, 16, .inl u_3))]) [1] (by decide) rfl
  have hFc := va_free (wc := [(bq, .inl (cb, 16, .inl u_3))]) hD hS hA [1] rfl
  refine call_v (va_runS (As := [.ref bq, .int 12, .int d]) (rest := []) ⟨hx, hb, hml, hown, hts⟩ (metX1_word l G cb cI bq 16 u_3 12 d 12 (by decide) (by omega) (by omega) _) (va_cwS 3 hts (lw_S q275 q276 q5 q277) rfl rfl rfl (by decide +kernel) ⟨Nat.le_of_ble_eq_true rfl, Nat.le_of_ble_eq_true rfl⟩) (preW_S hPc hK hDc (tru_in)) rfl rfl hl.1 rfl (lv_room (Nat.le_of_ble_eq_true rfl)) dX1_block_36 ⟨Nat.le_of_ble_eq_true rfl, Nat.le_of_ble_eq_true rfl⟩) hP hD hS hFc [1] [0] (wr := [(oo, .inr (0, [.ref kq, .ref bq, .ref uq]))]) rfl rfl (by decide) (by decide) (fun u_4 H locs huu_4 hP hD hS => ?_)
  have hP : va_P G vwCl [(oo, .inr (0, [.ref kq, .ref bq, .ref uq])), (bq, .inl (cb, 16, .inl u_4))] H := hP
  have hD : va_D A [(oo, .inr (0, [.ref kq, .ref bq, .ref uq])), (bq, .inl (cb, 16, .inl u_4))] := hD
  refine W.widen (k := 0) (n := 0) (by omega) (by omega) ?_
  have h4 := nk_four (k := 0) huu_1.1 huu_1.2 huu_2.1 huu_2.2 huu_3.1 huu_3.2 huu_4.1 huu_4.2
  exact W.vret hx hb hr (fun t ht hW => ⟨⟨u_4, rfl, s4_ext h4.1.1 h4.1.2.1 h4.1.2.2.1 h4.1.2.2.2, by rw [ht]; exact hP, hD⟩, hS.F ht⟩) hS.2.2 dX1_block_39
theorem and15 : ∀ k, k < 16 → nI k &&& 15 = nI k := by decide +kernel
set_option maxHeartbeats 4000000 in
set_option maxRecDepth 100000 in
theorem metX1_out (l : Launch) (G : va_G) (cb cI : ClassId) (oo kq bq uq : Nat) (fo : Nat → Int32) (x : Int32) (k : Nat) (ek : x = nI k) (hk : k < 16) : Met l yX1_out wsX1_out ({ frames := 0, cells := 0, slots := 0, locals := 0 }) (pcR [.ref oo, .int x] G cb cI [(oo, .inr (0, [.ref kq, .ref bq, .ref uq])), (uq, .inl (cb, 16, .inl fo))] tru) (vp_Si (fun r => r = fo k &&& 255)) 0 0 (fun _ => False) := by
  refine Met.ofW (cc := cX1_out) (maxL := 2) (ret := (some .int)) (by decide) rfl ?_
  intro p e s m args below meth c s₁ B hml hv
  obtain ⟨rfl, hP, hK, hE⟩ := hv
  have hx := B.exec
  have hb := B.bytes
  have hr := B.returns
  have hts := atoms_spec (ws := wsX1_out) B.pre
  have hts : ∀ w ∈ lw_all, w.before _ s = true := fun w h => hts w (List.mem_cons_of_mem _ h)
  have hown : s.vm.findClass RX1 = some m.cls := findClass_of_methodNamed B.named
  have hlocks := B.notSynchronized
  have hl := lv_entry ([.ref oo, .int x]) (n := 2) (Nat.le_of_ble_eq_true rfl)
  rw [lg_entry_eq]
  generalize (lg_sl ([.ref oo, .int x]) ++ List.replicate (2 - (lg_sl ([.ref oo, .int x])).length) Slot.unset).toArray = ls at hl ⊢
  have hl : lv_has ls 2 [(0, .ref oo), (1, .int x)] := hl
  refine lv_aload_n hx hb dX1_out_0 rfl (lv_at hl 0 rfl) ?_
  refine va_get (D := G) (ci := 0) (v := .ref uq) (C := RX1) (T := TX1) (N := 3) hx hb hts in_X1 hown hK hP 0 rfl rfl 2 (by decide) (hts _ q260) (fun _ h9 => h9) rfl dX1_out_1 ?_
  refine lv_iload_n hx hb dX1_out_4 rfl (lv_at hl 1 rfl) ?_
  refine lv_bipush (v := 15) hx hb dX1_out_5 (by decide) ?_
  refine lv_iand hx hb dX1_out_7 ?_
  have e15 : x &&& 15 = nI k := by rw [ek]; exact and15 k hk
  refine va_bald hx hb hK hP 1 0 rfl rfl (by rw [e15]; exact vp_in_nI hk (by omega)) dX1_out_8 ?_
  refine lv_topi (fun z_1 ez_1 => ?_)
  obtain rfl : z_1 = fo k := by rw [ez_1, e15, nI_clamp (by omega)]
  refine lv_sipush (v := 255) hx hb dX1_out_9 (by decide) ?_
  refine lv_iand hx hb dX1_out_12 ?_
  exact W.iret (v := fo k &&& 255) hx hb hr (fun t ht hW => ⟨_, rfl, rfl, ht⟩) (fun _ h => by cases h) dX1_out_13
set_option maxHeartbeats 4000000 in
set_option maxRecDepth 100000 in
theorem loopX1_again {p : Program} {l : Launch} {e : Env} {s : State} {m : MethodId} {below : List Frame} {meth : Method} {c : Code} {sarg : Array Value} {G : va_G} {cb cI : ClassId} {A : Nat → Prop} {oo kq bq uq : Nat} {fo : Nat → Int32} (hx : p.tables.exec = Jvm.exec) (hb : c.code = cX1_again) (hr : meth.sig.returnType = none) (hlocks : meth.locks = false) (hml : c.maxLocals = 2) (hown : s.vm.findClass RX1 = some m.cls) (hts : ∀ w ∈ lw_all, w.before sarg s = true) (hK : va_K G vwCl [(cb, .byte), (cI, .int)] s) :
    ∀ (n i : Nat) (x1 : Int32) (h : Nat → Int32), i ≤ 16 → 17 ≤ i + n → x1 = nI i → (∀ j, j < i → h j = nk_tb (fo j)) → ∀ (H : Heap) (locs : List Loc), va_P G vwCl [(oo, .inr (0, [.ref kq, .ref bq, .ref uq])), (bq, .inl (cb, 16, .inl h)), (uq, .inl (cb, 16, .inl fo))] H → va_D A [(oo, .inr (0, [.ref kq, .ref bq, .ref uq])), (bq, .inl (cb, 16, .inl h)), (uq, .inl (cb, 16, .inl fo))] → va_S A s.heap H locs → ∀ (ls : Array Slot), lv_has ls 2 [(0, .ref oo), (1, .int x1)] → W p l e (headSpec wsX1_again ({ frames := 0, cells := 0, slots := 0, locals := 0 })).room s m sarg below meth c H locs 0 0 (MQ below (qcV (fun u : Nat → Int32 => nk_wds u = nk_wds fo) G (fun u => [(oo, .inr (0, [.ref kq, .ref bq, .ref uq])), (bq, .inl (cb, 16, .inl u)), (uq, .inl (cb, 16, .inl fo))]) A) sarg s 0 0 A) (F0 m 2 ls []) := by
  intro n
  induction n with
  | zero =>
    intro i x1 h h1 h2
    exact absurd h2 (by omega)
  | succ n ih =>
    intro i x1 h hi hin e1 hh H locs hP hD hS ls hl
    refine lv_iload_n hx hb dX1_again_2 rfl (lv_at hl 1 rfl) ?_
    refine lv_bipush (v := 16) hx hb dX1_again_3 (by decide) ?_
    refine lv_icmp_ge (tgt := 26) hx hb dX1_again_5 (by decide) (fun c9 => ?_) (fun c9 => ?_)
    · have h16 : i = 16 := by
        rcases Nat.lt_or_ge i 16 with z | z
        · exact absurd (show nI 16 ≤ nI i by rw [← e1]; exact c9) (nI_ge z (by omega))
        · omega
      subst h16
      exact W.vret hx hb hr (fun t ht hW => ⟨⟨h, rfl, wds_tb fo h hh, by rw [ht]; exact hP, hD⟩, hS.F ht⟩) hS.2.2 dX1_again_26
    · have hlt : i < 16 := by
        rcases Nat.lt_or_ge i 16 with z | z
        · exact z
        · exact absurd (show nI 16 ≤ x1 by rw [e1]; exact nI_le z (by omega)) c9
      have c1 : x1.toNatClampNeg = i := by rw [e1, nI_clamp (by omega)]
      refine lv_aload_n hx hb dX1_again_8 rfl (lv_at hl 0 rfl) ?_
      refine va_get (D := G) (ci := 0) (v := .ref bq) (C := RX1) (T := TX1) (N := 3) hx hb hts in_X1 hown hK hP 0 rfl rfl 1 (by decide) (hts _ q259) (fun _ h9 => h9) rfl dX1_again_9 ?_
      refine lv_iload_n hx hb dX1_again_12 rfl (lv_at hl 1 rfl) ?_
      refine lv_aload_n hx hb dX1_again_13 rfl (lv_at hl 0 rfl) ?_
      refine va_get (D := G) (ci := 0) (v := .ref uq) (C := RX1) (T := TX1) (N := 3) hx hb hts in_X1 hown hK hP 0 rfl rfl 2 (by decide) (hts _ q260) (fun _ h9 => h9) rfl dX1_again_14 ?_
      refine lv_iload_n hx hb dX1_again_17 rfl (lv_at hl 1 rfl) ?_
      refine va_bald hx hb hK hP 2 0 rfl rfl (by rw [e1]; exact vp_in_nI hlt (by omega)) dX1_again_18 ?_
      refine lv_topi (fun z_1 ez_1 => ?_)
      obtain rfl : z_1 = fo i := by rw [ez_1, c1]
      refine va_bast hx hb hK hP hD hS 1 0 rfl rfl (by rw [e1]; exact vp_in_nI hlt (by omega)) dX1_again_19 (fun H locs hP hD hS => ?_)
      rw [c1] at hP hD
      have hP : va_P G vwCl [(oo, .inr (0, [.ref kq, .ref bq, .ref uq])), (bq, .inl (cb, 16, .inl (upd h (i) (vp_nar .byte (fo i))))), (uq, .inl (cb, 16, .inl fo))] H := hP
      have hD : va_D A [(oo, .inr (0, [.ref kq, .ref bq, .ref uq])), (bq, .inl (cb, 16, .inl (upd h (i) (vp_nar .byte (fo i))))), (uq, .inl (cb, 16, .inl fo))] := hD
      obtain ⟨x1_2, ex1_2⟩ : ∃ y : Int32, y = x1 + Int32.ofInt 1 := ⟨_, rfl⟩
      refine lv_iinc (v := x1_2) (lv' := [(1, .int x1_2), (0, .ref oo)]) hx hb dX1_again_20 hl (k := 1) rfl ex1_2.symm (by decide) rfl (fun ls hl => ?_)
      refine lv_goto (tgt := 2) hx hb dX1_again_23 (by decide) ?_
      exact ih (i + 1) x1_2 (upd h (i) (vp_nar .byte (fo i))) hlt (by omega) (by rw [ex1_2, e1, nI_i1]) (fun j hj => by
        by_cases z : j = i
        · subst z; simp only [upd, if_true]; rfl
        · simp only [upd, if_neg z]; exact hh j (by omega)) _ _ hP hD hS ls (lv_sub hl [1, 0] rfl)
set_option maxHeartbeats 4000000 in
set_option maxRecDepth 100000 in
theorem metX1_again (l : Launch) (G : va_G) (cb cI : ClassId) (oo kq bq uq : Nat) (h fo : Nat → Int32) (sz : Nat) : Met l yX1_again wsX1_again ({ frames := 0, cells := 0, slots := 0, locals := 0 }) (pcW [.ref oo] G cb cI [(oo, .inr (0, [.ref kq, .ref bq, .ref uq])), (bq, .inl (cb, 16, .inl h)), (uq, .inl (cb, 16, .inl fo))] sz tru) (qcV (fun u : Nat → Int32 => nk_wds u = nk_wds fo) G (fun u => [(oo, .inr (0, [.ref kq, .ref bq, .ref uq])), (bq, .inl (cb, 16, .inl u)), (uq, .inl (cb, 16, .inl fo))]) (va_A [(oo, .inr (0, [.ref kq, .ref bq, .ref uq])), (bq, .inl (cb, 16, .inl h)), (uq, .inl (cb, 16, .inl fo))] sz)) 0 0 (va_A [(oo, .inr (0, [.ref kq, .ref bq, .ref uq])), (bq, .inl (cb, 16, .inl h)), (uq, .inl (cb, 16, .inl fo))] sz) := by
  refine Met.ofW (cc := cX1_again) (maxL := 2) (ret := none) (by decide) rfl ?_
  intro p e s m args below meth c s₁ B hml hv
  obtain ⟨rfl, hsz, hP, hK, hD0, hE⟩ := hv
  have hx := B.exec
  have hb := B.bytes
  have hr := B.returns
  have hts := atoms_spec (ws := wsX1_again) B.pre
  have hts : ∀ w ∈ lw_all, w.before _ s = true := fun w h => hts w (List.mem_cons_of_mem _ h)
  have hown : s.vm.findClass RX1 = some m.cls := findClass_of_methodNamed B.named
  have hlocks := B.notSynchronized
  subst hsz
  have hD := hD0.self (sz := s.heap.size)
  generalize hAe : va_A [(oo, .inr (0, [.ref kq, .ref bq, .ref uq])), (bq, .inl (cb, 16, .inl h)), (uq, .inl (cb, 16, .inl fo))] s.heap.size = A at hD ⊢
  have hA : ∀ q : Nat, s.heap.size ≤ q → A q := fun q h => by rw [← hAe]; exact Or.inr h
  have hS : va_S A s.heap s.heap [] := va_S.rf
  have hP : va_P G vwCl [(oo, .inr (0, [.ref kq, .ref bq, .ref uq])), (bq, .inl (cb, 16, .inl h)), (uq, .inl (cb, 16, .inl fo))] s.heap := hP
  have hl := lv_entry ([.ref oo]) (n := 2) (Nat.le_of_ble_eq_true rfl)
  rw [lg_entry_eq]
  generalize (lg_sl ([.ref oo]) ++ List.replicate (2 - (lg_sl ([.ref oo])).length) Slot.unset).toArray = ls at hl ⊢
  have hl : lv_has ls 2 [(0, .ref oo)] := hl
  refine lv_iconst (v := 0) hx hb dX1_again_0 (by decide) ?_
  refine lv_istore_n (lv' := [(1, .int 0), (0, .ref oo)]) hx hb dX1_again_1 rfl hl (by decide) rfl (fun ls hl => ?_)
  exact loopX1_again hx hb hr hlocks hml hown hts hK 17 0 0 h (by omega) (by omega) nI_0.symm (fun j hj => absurd hj (by omega)) _ _ hP hD hS ls (lv_sub hl [1, 0] rfl)
set_option maxHeartbeats 4000000 in
set_option maxRecDepth 100000 in
theorem loopX1_run {p : Program} {l : Launch} {e : Env} {R : Room} {s : State} {m : MethodId} {below : List Frame} {meth : Method} {c : Code} {sarg : Array Value} {cells slots : Nat} {Q : State → Prop} {G : va_G} {cb cI : ClassId} {A : Nat → Prop} {oo kq bq uq ka : Nat} {fk fb fo : Nat → Int32} {fe x : Int32} (hx : p.tables.exec = Jvm.exec) (hb : c.code = cX1_run) (hml : c.maxLocals = 6) (hown : s.vm.findClass RX1 = some m.cls) (hts : ∀ w ∈ lw_all, w.before sarg s = true) (hK : va_K G vwCl [(cb, .byte), (cI, .int)] s)
    (kk : ∀ (x5 : Int32) (h : Nat → Int32) (H : Heap) (locs : List Loc) (ls : Array Slot), (∀ j, j < 16 → h j = nk_tb (fk j)) → va_P G vwCl [(oo, .inr (0, [.ref kq, .ref bq, .ref uq])), (kq, .inl (cb, 32, .inl fk)), (bq, .inl (cb, 16, .inl fb)), (uq, .inl (cb, 16, .inl fo)), (ka, .inl (cb, 16, .inl h))] H → va_D A [(oo, .inr (0, [.ref kq, .ref bq, .ref uq])), (kq, .inl (cb, 32, .inl fk)), (bq, .inl (cb, 16, .inl fb)), (uq, .inl (cb, 16, .inl fo)), (ka, .inl (cb, 16, .inl h))] → va_S A s.heap H locs → lv_has ls 6 [(0, .ref oo), (1, .int fe), (2, .int x), (3, .int 16), (4, .ref ka), (5, .int x5)] → W p l e R s m sarg below meth c H locs cells slots Q (F0 m 39 ls [])) :
    ∀ (n i : Nat) (x5 : Int32) (h : Nat → Int32), i ≤ 16 → 17 ≤ i + n → x5 = nI i → (∀ j, j < i → h j = nk_tb (fk j)) → ∀ (H : Heap) (locs : List Loc), va_P G vwCl [(oo, .inr (0, [.ref kq, .ref bq, .ref uq])), (kq, .inl (cb, 32, .inl fk)), (bq, .inl (cb, 16, .inl fb)), (uq, .inl (cb, 16, .inl fo)), (ka, .inl (cb, 16, .inl h))] H → va_D A [(oo, .inr (0, [.ref kq, .ref bq, .ref uq])), (kq, .inl (cb, 32, .inl fk)), (bq, .inl (cb, 16, .inl fb)), (uq, .inl (cb, 16, .inl fo)), (ka, .inl (cb, 16, .inl h))] → va_S A s.heap H locs → ∀ (ls : Array Slot), lv_has ls 6 [(0, .ref oo), (1, .int fe), (2, .int x), (3, .int 16), (4, .ref ka), (5, .int x5)] → W p l e R s m sarg below meth c H locs cells slots Q (F0 m 15 ls []) := by
  intro n
  induction n with
  | zero =>
    intro i x5 h h1 h2
    exact absurd h2 (by omega)
  | succ n ih =>
    intro i x5 h hi hin e5 hh H locs hP hD hS ls hl
    refine lv_iload hx hb dX1_run_15 (lv_at hl 5 rfl) ?_
    refine lv_iload_n hx hb dX1_run_17 rfl (lv_at hl 3 rfl) ?_
    refine lv_icmp_ge (tgt := 39) hx hb dX1_run_18 (by decide) (fun c9 => ?_) (fun c9 => ?_)
    · have h16 : i = 16 := by
        rcases Nat.lt_or_ge i 16 with z | z
        · exact absurd (show nI 16 ≤ nI i by rw [← e5]; exact c9) (nI_ge z (by omega))
        · omega
      subst h16
      exact kk x5 h H locs ls hh hP hD hS hl
    · have hlt : i < 16 := by
        rcases Nat.lt_or_ge i 16 with z | z
        · exact z
        · exact absurd (show nI 16 ≤ x5 by rw [e5]; exact nI_le z (by omega)) c9
      have c1 : x5.toNatClampNeg = i := by rw [e5, nI_clamp (by omega)]
      refine lv_aload hx hb dX1_run_21 (lv_at hl 4 rfl) ?_
      refine lv_iload hx hb dX1_run_23 (lv_at hl 5 rfl) ?_
      refine lv_aload_n hx hb dX1_run_25 rfl (lv_at hl 0 rfl) ?_
      refine va_get (D := G) (ci := 0) (v := .ref kq) (C := RX1) (T := TX1) (N := 3) hx hb hts in_X1 hown hK hP 0 rfl rfl 0 (by decide) (hts _ q258) (fun _ h9 => h9) rfl dX1_run_26 ?_
      refine lv_iload hx hb dX1_run_29 (lv_at hl 5 rfl) ?_
      refine va_bald hx hb hK hP 1 0 rfl rfl (by rw [e5]; exact vp_in_nI (by omega) (by omega)) dX1_run_31 ?_
      refine lv_topi (fun z_1 ez_1 => ?_)
      obtain rfl : z_1 = fk i := by rw [ez_1, c1]
      refine va_bast hx hb hK hP hD hS 4 0 rfl rfl (by rw [e5]; exact vp_in_nI hlt (by omega)) dX1_run_32 (fun H locs hP hD hS => ?_)
      rw [c1] at hP hD
      have hP : va_P G vwCl [(oo, .inr (0, [.ref kq, .ref bq, .ref uq])), (kq, .inl (cb, 32, .inl fk)), (bq, .inl (cb, 16, .inl fb)), (uq, .inl (cb, 16, .inl fo)), (ka, .inl (cb, 16, .inl (upd h (i) (vp_nar .byte (fk i)))))] H := hP
      have hD : va_D A [(oo, .inr (0, [.ref kq, .ref bq, .ref uq])), (kq, .inl (cb, 32, .inl fk)), (bq, .inl (cb, 16, .inl fb)), (uq, .inl (cb, 16, .inl fo)), (ka, .inl (cb, 16, .inl (upd h (i) (vp_nar .byte (fk i)))))] := hD
      obtain ⟨x5_2, ex5_2⟩ : ∃ y : Int32, y = x5 + Int32.ofInt 1 := ⟨_, rfl⟩
      refine lv_iinc (v := x5_2) (lv' := [(5, .int x5_2), (0, .ref oo), (1, .int fe), (2, .int x), (3, .int 16), (4, .ref ka)]) hx hb dX1_run_33 hl (k := 5) rfl ex5_2.symm (by decide) rfl (fun ls hl => ?_)
      refine lv_goto (tgt := 15) hx hb dX1_run_36 (by decide) ?_
      exact ih (i + 1) x5_2 (upd h (i) (vp_nar .byte (fk i))) hlt (by omega) (by rw [ex5_2, e5, nI_i1]) (fun j hj => by
        by_cases z : j = i
        · subst z; simp only [upd, if_true]; rfl
        · simp only [upd, if_neg z]; exact hh j (by omega)) _ _ hP hD hS ls (lv_sub hl [1, 2, 3, 4, 5, 0] rfl)
set_option maxHeartbeats 4000000 in
set_option maxRecDepth 100000 in
theorem metX1_run_1 (l : Launch) (G : va_G) (cb cI : ClassId) (t oo kq bq uq : Nat) (fk fb fo : Nat → Int32) (x : Int32) (sz : Nat) : Met l yX1_run wsX1_run ({ frames := 4, cells := 5, slots := 40, locals := 101 }) (pcW [.ref oo, .int 1, .int x] G cb cI [(oo, .inr (0, [.ref kq, .ref bq, .ref uq])), (kq, .inl (cb, 32, .inl fk)), (bq, .inl (cb, 16, .inl fb)), (uq, .inl (cb, 16, .inl fo))] sz (fun U => nk_ctx t (va_A [(oo, .inr (0, [.ref kq, .ref bq, .ref uq])), (kq, .inl (cb, 32, .inl fk)), (bq, .inl (cb, 16, .inl fb)), (uq, .inl (cb, 16, .inl fo))] sz) U U.heap)) (qcV (fun u : Nat → Int32 => nk_wds u = nk_enc (nk_wds fk) (nk_wds fb)) G (fun u => [(oo, .inr (0, [.ref kq, .ref bq, .ref uq])), (kq, .inl (cb, 32, .inl fk)), (bq, .inl (cb, 16, .inl fb)), (uq, .inl (cb, 16, .inl u))]) (va_A [(oo, .inr (0, [.ref kq, .ref bq, .ref uq])), (kq, .inl (cb, 32, .inl fk)), (bq, .inl (cb, 16, .inl fb)), (uq, .inl (cb, 16, .inl fo))] sz)) 5 40 (va_A [(oo, .inr (0, [.ref kq, .ref bq, .ref uq])), (kq, .inl (cb, 32, .inl fk)), (bq, .inl (cb, 16, .inl fb)), (uq, .inl (cb, 16, .inl fo))] sz) := by
  refine Met.ofW (cc := cX1_run) (maxL := 6) (ret := none) (by decide) rfl ?_
  intro p e s m args below meth c s₁ B hml hv
  obtain ⟨rfl, hsz, hP, hK, hD0, hE⟩ := hv
  have hx := B.exec
  have hb := B.bytes
  have hr := B.returns
  have hts := atoms_spec (ws := wsX1_run) B.pre
  have hts : ∀ w ∈ lw_all, w.before _ s = true := fun w h => hts w (List.mem_cons_of_mem _ h)
  have hown : s.vm.findClass RX1 = some m.cls := findClass_of_methodNamed B.named
  have hlocks := B.notSynchronized
  subst hsz
  have hD := hD0.self (sz := s.heap.size)
  generalize hAe : va_A [(oo, .inr (0, [.ref kq, .ref bq, .ref uq])), (kq, .inl (cb, 32, .inl fk)), (bq, .inl (cb, 16, .inl fb)), (uq, .inl (cb, 16, .inl fo))] s.heap.size = A at hD hE ⊢
  have hE : nk_ctx t A s s.heap := hE
  have hA : ∀ q : Nat, s.heap.size ≤ q → A q := fun q h => by rw [← hAe]; exact Or.inr h
  have hS : va_S A s.heap s.heap [] := va_S.rf
  have hP : va_P G vwCl [(oo, .inr (0, [.ref kq, .ref bq, .ref uq])), (kq, .inl (cb, 32, .inl fk)), (bq, .inl (cb, 16, .inl fb)), (uq, .inl (cb, 16, .inl fo))] s.heap := hP
  have hl := lv_entry ([.ref oo, .int 1, .int x]) (n := 6) (Nat.le_of_ble_eq_true rfl)
  rw [lg_entry_eq]
  generalize (lg_sl ([.ref oo, .int 1, .int x]) ++ List.replicate (6 - (lg_sl ([.ref oo, .int 1, .int x])).length) Slot.unset).toArray = ls at hl ⊢
  have hl : lv_has ls 6 [(0, .ref oo), (1, .int 1), (2, .int x)] := hl
  refine lv_iload_n hx hb dX1_run_0 rfl (lv_at hl 2 rfl) ?_
  refine lv_iconst (v := 3) hx hb dX1_run_1 (by decide) ?_
  refine lv_iand hx hb dX1_run_2 ?_
  refine vp_callSi (W.runS (As := [.int (x &&& 3)]) (rest := []) ⟨hx, hb, hml, hown, hts⟩ (metX1_size l (x &&& 3)) (va_cwS 1 hts (lw_S q29 q30 q5 q31) rfl rfl rfl (by decide +kernel) ⟨Nat.le_of_ble_eq_true rfl, Nat.le_of_ble_eq_true rfl⟩) ⟨fun a U g mk q => q, fun U hU hW => ⟨rfl, trivial⟩⟩ rfl rfl hl.1 rfl (lv_room (Nat.le_of_ble_eq_true rfl)) dX1_run_3 ⟨Nat.le_of_ble_eq_true rfl, Nat.le_of_ble_eq_true rfl⟩) (fun r_1 er_1 => ?_)
  subst er_1
  refine lv_istore_n (lv' := [(3, .int 16), (0, .ref oo), (1, .int 1), (2, .int x)]) hx hb dX1_run_6 rfl hl (by decide) rfl (fun ls hl => ?_)
  refine lv_iload_n hx hb dX1_run_7 rfl (lv_at hl 0 rfl) ?_
  refine va_newa (atype := .byte) (ty := .byte) (a0 := (16, .inl (fun _ => 0))) (N' := 16) hx hb (hts _ q50) rfl hK hP hD hS hA (fun _ => rfl) (by decide) (by decide) (Nat.le_of_ble_eq_true rfl) (Nat.le_of_ble_eq_true rfl) (Nat.le_of_ble_eq_true rfl) dX1_run_8 (fun qa_2 cA H hK hP hD hS => ?_)
  have hcA : cb = cA := kb_eq hK
  subst hcA
  have hK := hK.sub (tys' := [(cb, .byte), (cI, .int)]) [0, 1] rfl
  have hP : va_P G vwCl [(oo, .inr (0, [.ref kq, .ref bq, .ref uq])), (kq, .inl (cb, 32, .inl fk)), (bq, .inl (cb, 16, .inl fb)), (uq, .inl (cb, 16, .inl fo)), (qa_2, .inl (cb, 16, .inl (fun _ => 0)))] H := hP
  have hD : va_D A [(oo, .inr (0, [.ref kq, .ref bq, .ref uq])), (kq, .inl (cb, 32, .inl fk)), (bq, .inl (cb, 16, .inl fb)), (uq, .inl (cb, 16, .inl fo)), (qa_2, .inl (cb, 16, .inl (fun _ => 0)))] := hD
  refine W.widen (k := 1) (n := 16) (by omega) (by omega) ?_
  refine lv_astore (lv' := [(4, .ref qa_2), (3, .int 16), (0, .ref oo), (1, .int 1), (2, .int x)]) hx hb dX1_run_10 hl (by decide) rfl (fun ls hl => ?_)
  refine lv_iconst (v := 0) hx hb dX1_run_12 (by decide) ?_
  refine lv_istore (lv' := [(5, .int 0), (4, .ref qa_2), (3, .int 16), (0, .ref oo), (1, .int 1), (2, .int x)]) hx hb dX1_run_13 hl (by decide) rfl (fun ls hl => ?_)
  refine loopX1_run hx hb hml hown hts hK (fun x5 h H locs ls hk hP hD hS hl => ?_) 17 0 0 (fun _ => 0) (by omega) (by omega) nI_0.symm (fun j hj => absurd hj (by omega)) _ _ hP hD hS ls (lv_sub hl [3, 4, 5, 2, 1, 0] rfl)
  have hfit : ∀ j, j < 16 → fits .byte (.int (h j)) = true := fun j hj => by rw [hk j hj]; exact pk_fb (fk j)
  refine va_new (ci := 1) (fs := [.null, .int 0, .int 0]) (C := RX2) (T := TX2) (N := 3) hx hb hts in_X2 tyX2 tyX2_ok hown (hts _ q32) (hts _ q33) (hts _ q6) hK hP hD hS hA rfl (fun j hj => by rcases (show j = 0 ∨ j = 1 ∨ j = 2 by omega) with rfl | rfl | rfl <;> rfl) (Nat.le_of_ble_eq_true rfl) (Nat.le_of_ble_eq_true rfl) dX1_run_39 (fun eo_3 H hP hD hS => ?_)
  have hP : va_P G vwCl [(oo, .inr (0, [.ref kq, .ref bq, .ref uq])), (kq, .inl (cb, 32, .inl fk)), (bq, .inl (cb, 16, .inl fb)), (uq, .inl (cb, 16, .inl fo)), (qa_2, .inl (cb, 16, .inl h)), (eo_3, .inr (1, [.null, .int 0, .int 0]))] H := hP
  have hD : va_D A [(oo, .inr (0, [.ref kq, .ref bq, .ref uq])), (kq, .inl (cb, 32, .inl fk)), (bq, .inl (cb, 16, .inl fb)), (uq, .inl (cb, 16, .inl fo)), (qa_2, .inl (cb, 16, .inl h)), (eo_3, .inr (1, [.null, .int 0, .int 0]))] := hD
  refine W.widen (k := 2) (n := 19) (by omega) (by omega) ?_
  refine lv_dup hx hb dX1_run_42 rfl ?_
  have hPc := hP.sub (ws' := [(eo_3, .inr (1, [.null, .int 0, .int 0]))]) [5] rfl
  have hDc := hD.sub (ws' := [(eo_3, .inr (1, [.null, .int 0, .int 0]))]) [5] (by decide) rfl
  have hFc := va_free (wc := [(eo_3, .inr (1, [.null, .int 0, .int 0]))]) hD hS hA [5] rfl
  refine call_v (va_runI (As := []) (rest := [.ref eo_3]) ⟨hx, hb, hml, hown, hts⟩ (metX2_init l G cb cI eo_3 _) (cwI 0 hts (lw_meth q36) rfl rfl rfl (hts _ q6) (hts _ q34) (hts _ q35) rfl (by decide +kernel) ⟨Nat.le_of_ble_eq_true rfl, Nat.le_of_ble_eq_true rfl⟩) (preW_S hPc hK hDc (tru_in)) rfl rfl hl.1 rfl (lv_room (Nat.le_of_ble_eq_true rfl)) dX1_run_43 ⟨Nat.le_of_ble_eq_true rfl, Nat.le_of_ble_eq_true rfl⟩) hP hD hS hFc [5] [0, 1, 2, 3, 4] (wr := [(oo, .inr (0, [.ref kq, .ref bq, .ref uq])), (kq, .inl (cb, 32, .inl fk)), (bq, .inl (cb, 16, .inl fb)), (uq, .inl (cb, 16, .inl fo)), (qa_2, .inl (cb, 16, .inl h))]) rfl rfl (by decide) (by decide) (fun kk_4 H locs hukk_4 hP hD hS => ?_)
  have hP : va_P G vwCl [(oo, .inr (0, [.ref kq, .ref bq, .ref uq])), (kq, .inl (cb, 32, .inl fk)), (bq, .inl (cb, 16, .inl fb)), (uq, .inl (cb, 16, .inl fo)), (qa_2, .inl (cb, 16, .inl h)), (eo_3, .inr (1, [.ref kk_4, .int 0, .int 0])), (kk_4, .inl (cI, 4, .inl (fun _ => 0)))] H := hP
  have hD : va_D A [(oo, .inr (0, [.ref kq, .ref bq, .ref uq])), (kq, .inl (cb, 32, .inl fk)), (bq, .inl (cb, 16, .inl fb)), (uq, .inl (cb, 16, .inl fo)), (qa_2, .inl (cb, 16, .inl h)), (eo_3, .inr (1, [.ref kk_4, .int 0, .int 0])), (kk_4, .inl (cI, 4, .inl (fun _ => 0)))] := hD
  refine W.widen (k := 3) (n := 23) (by omega) (by omega) ?_
  refine lv_astore (lv' := [(5, .ref eo_3), (0, .ref oo), (1, .int 1), (2, .int x), (3, .int 16), (4, .ref qa_2)]) hx hb dX1_run_46 hl (by decide) rfl (fun ls hl => ?_)
  refine lv_aload hx hb dX1_run_48 (lv_at hl 0 rfl) ?_
  refine lv_iload_n hx hb dX1_run_50 rfl (lv_at hl 2 rfl) ?_
  refine va_new (ci := 2) (fs := [.null]) (C := RX3) (T := TX3) (N := 1) hx hb hts in_X3 tyX3 tyX3_ok hown (hts _ q52) (hts _ q53) (hts _ q7) hK hP hD hS hA rfl (fun j hj => by rcases (show j = 0 by omega) with rfl <;> rfl) (Nat.le_of_ble_eq_true rfl) (Nat.le_of_ble_eq_true rfl) dX1_run_51 (fun kp_5 H hP hD hS => ?_)
  have hP : va_P G vwCl [(oo, .inr (0, [.ref kq, .ref bq, .ref uq])), (kq, .inl (cb, 32, .inl fk)), (bq, .inl (cb, 16, .inl fb)), (uq, .inl (cb, 16, .inl fo)), (qa_2, .inl (cb, 16, .inl h)), (eo_3, .inr (1, [.ref kk_4, .int 0, .int 0])), (kk_4, .inl (cI, 4, .inl (fun _ => 0))), (kp_5, .inr (2, [.null]))] H := hP
  have hD : va_D A [(oo, .inr (0, [.ref kq, .ref bq, .ref uq])), (kq, .inl (cb, 32, .inl fk)), (bq, .inl (cb, 16, .inl fb)), (uq, .inl (cb, 16, .inl fo)), (qa_2, .inl (cb, 16, .inl h)), (eo_3, .inr (1, [.ref kk_4, .int 0, .int 0])), (kk_4, .inl (cI, 4, .inl (fun _ => 0))), (kp_5, .inr (2, [.null]))] := hD
  refine W.widen (k := 4) (n := 24) (by omega) (by omega) ?_
  refine lv_dup hx hb dX1_run_54 rfl ?_
  refine lv_aload hx hb dX1_run_55 (lv_at hl 5 rfl) ?_
  have hPc := hP.sub (ws' := [(kp_5, .inr (2, [.null])), (qa_2, .inl (cb, 16, .inl h))]) [7, 4] rfl
  have hDc := hD.sub (ws' := [(kp_5, .inr (2, [.null])), (qa_2, .inl (cb, 16, .inl h))]) [7, 4] (by decide) rfl
  have hFc := va_free (wc := [(kp_5, .inr (2, [.null])), (qa_2, .inl (cb, 16, .inl h))]) hD hS hA [7, 4] rfl
  refine call_v (va_runI (As := [.ref qa_2]) (rest := [.ref kp_5, .int 1, .ref eo_3]) ⟨hx, hb, hml, hown, hts⟩ (metX3_init l G cb cI kp_5 qa_2 h hfit _) (cwI 1 hts (lw_meth q56) rfl rfl rfl (hts _ q7) (hts _ q54) (hts _ q55) rfl (by decide +kernel) ⟨Nat.le_of_ble_eq_true rfl, Nat.le_of_ble_eq_true rfl⟩) (preW_S hPc hK hDc (tru_in)) rfl rfl hl.1 rfl (lv_room (Nat.le_of_ble_eq_true rfl)) dX1_run_57 ⟨Nat.le_of_ble_eq_true rfl, Nat.le_of_ble_eq_true rfl⟩) hP hD hS hFc [7, 4] [0, 1, 2, 3, 5, 6] (wr := [(oo, .inr (0, [.ref kq, .ref bq, .ref uq])), (kq, .inl (cb, 32, .inl fk)), (bq, .inl (cb, 16, .inl fb)), (uq, .inl (cb, 16, .inl fo)), (eo_3, .inr (1, [.ref kk_4, .int 0, .int 0])), (kk_4, .inl (cI, 4, .inl (fun _ => 0)))]) rfl rfl (by decide) (by decide) (fun v_6 H locs huv_6 hP hD hS => ?_)
  have hP : va_P G vwCl [(oo, .inr (0, [.ref kq, .ref bq, .ref uq])), (kq, .inl (cb, 32, .inl fk)), (bq, .inl (cb, 16, .inl fb)), (uq, .inl (cb, 16, .inl fo)), (eo_3, .inr (1, [.ref kk_4, .int 0, .int 0])), (kk_4, .inl (cI, 4, .inl (fun _ => 0))), (kp_5, .inr (2, [.ref v_6.1])), (v_6.1, .inl (cb, 16, .inl v_6.2)), (qa_2, .inl (cb, 16, .inl h))] H := hP
  have hD : va_D A [(oo, .inr (0, [.ref kq, .ref bq, .ref uq])), (kq, .inl (cb, 32, .inl fk)), (bq, .inl (cb, 16, .inl fb)), (uq, .inl (cb, 16, .inl fo)), (eo_3, .inr (1, [.ref kk_4, .int 0, .int 0])), (kk_4, .inl (cI, 4, .inl (fun _ => 0))), (kp_5, .inr (2, [.ref v_6.1])), (v_6.1, .inl (cb, 16, .inl v_6.2)), (qa_2, .inl (cb, 16, .inl h))] := hD
  refine W.widen (k := 5) (n := 40) (by omega) (by omega) ?_
  have hPc := hP.sub (ws' := [(eo_3, .inr (1, [.ref kk_4, .int 0, .int 0])), (kk_4, .inl (cI, 4, .inl (fun _ => 0))), (kp_5, .inr (2, [.ref v_6.1])), (v_6.1, .inl (cb, 16, .inl v_6.2))]) [4, 5, 6, 7] rfl
  have hDc := hD.sub (ws' := [(eo_3, .inr (1, [.ref kk_4, .int 0, .int 0])), (kk_4, .inl (cI, 4, .inl (fun _ => 0))), (kp_5, .inr (2, [.ref v_6.1])), (v_6.1, .inl (cb, 16, .inl v_6.2))]) [4, 5, 6, 7] (by decide) rfl
  have hFc := va_free (wc := [(eo_3, .inr (1, [.ref kk_4, .int 0, .int 0])), (kk_4, .inl (cI, 4, .inl (fun _ => 0))), (kp_5, .inr (2, [.ref v_6.1])), (v_6.1, .inl (cb, 16, .inl v_6.2))]) hD hS hA [4, 5, 6, 7] rfl
  refine callF_v (va_runF (As := [.int 1, .ref kp_5]) (rest := []) (hK.1 1 _ rfl).2 ⟨hx, hb, hml, hown, hts⟩ (metX2_init_2_1 l G cb cI eo_3 kk_4 kp_5 v_6.1 (fun _ => 0) v_6.2 _) (va_cwF 2 hts (lw_F q72 q76 q78 q6 q80) rfl rfl rfl hE.2.1 (by decide +kernel) ⟨Nat.le_of_ble_eq_true rfl, Nat.le_of_ble_eq_true rfl⟩) (preW_V (ci := 1) (q0 := 0) hPc hK hDc (tru_in) rfl rfl) rfl rfl hl.1 rfl (lv_room (Nat.le_of_ble_eq_true rfl)) dX1_run_60 ⟨Nat.le_of_ble_eq_true rfl, Nat.le_of_ble_eq_true rfl⟩) hP hD hS hFc [4, 5, 6, 7] [0, 1, 2, 3, 8] (wr := [(oo, .inr (0, [.ref kq, .ref bq, .ref uq])), (kq, .inl (cb, 32, .inl fk)), (bq, .inl (cb, 16, .inl fb)), (uq, .inl (cb, 16, .inl fo)), (qa_2, .inl (cb, 16, .inl h))]) rfl rfl (by decide) (by decide) (fun z_7 H locs huz_7 hP hD hS => ?_)
  have hP : va_P G vwCl [(oo, .inr (0, [.ref kq, .ref bq, .ref uq])), (kq, .inl (cb, 32, .inl fk)), (bq, .inl (cb, 16, .inl fb)), (uq, .inl (cb, 16, .inl fo)), (qa_2, .inl (cb, 16, .inl h)), (kp_5, .inr (2, [.ref v_6.1])), (v_6.1, .inl (cb, 16, .inl v_6.2)), (eo_3, .inr (1, [.ref kk_4, .int 1, .int 1])), (kk_4, .inl (cI, 4, .inl z_7))] H := hP
  have hD : va_D A [(oo, .inr (0, [.ref kq, .ref bq, .ref uq])), (kq, .inl (cb, 32, .inl fk)), (bq, .inl (cb, 16, .inl fb)), (uq, .inl (cb, 16, .inl fo)), (qa_2, .inl (cb, 16, .inl h)), (kp_5, .inr (2, [.ref v_6.1])), (v_6.1, .inl (cb, 16, .inl v_6.2)), (eo_3, .inr (1, [.ref kk_4, .int 1, .int 1])), (kk_4, .inl (cI, 4, .inl z_7))] := hD
  refine W.widen (k := 5) (n := 40) (by omega) (by omega) ?_
  refine lv_aload hx hb dX1_run_65 (lv_at hl 0 rfl) ?_
  refine lv_aload_n hx hb dX1_run_67 rfl (lv_at hl 1 rfl) ?_
  refine va_get (D := G) (ci := 0) (v := .ref bq) (C := RX1) (T := TX1) (N := 3) hx hb hts in_X1 hown hK hP 0 rfl rfl 1 (by decide) (hts _ q259) (fun _ h9 => h9) rfl dX1_run_68 ?_
  refine lv_iconst (v := 0) hx hb dX1_run_71 (by decide) ?_
  refine lv_aload_n hx hb dX1_run_72 rfl (lv_at hl 1 rfl) ?_
  refine va_get (D := G) (ci := 0) (v := .ref uq) (C := RX1) (T := TX1) (N := 3) hx hb hts in_X1 hown hK hP 0 rfl rfl 2 (by decide) (hts _ q260) (fun _ h9 => h9) rfl dX1_run_73 ?_
  refine lv_iconst (v := 0) hx hb dX1_run_76 (by decide) ?_
  have hPc := hP.sub (ws' := [(eo_3, .inr (1, [.ref kk_4, .int 1, .int 1])), (kk_4, .inl (cI, 4, .inl z_7)), (bq, .inl (cb, 16, .inl fb)), (uq, .inl (cb, 16, .inl fo))]) [7, 8, 2, 3] rfl
  have hDc := hD.sub (ws' := [(eo_3, .inr (1, [.ref kk_4, .int 1, .int 1])), (kk_4, .inl (cI, 4, .inl z_7)), (bq, .inl (cb, 16, .inl fb)), (uq, .inl (cb, 16, .inl fo))]) [7, 8, 2, 3] (by decide) rfl
  have hFc := va_free (wc := [(eo_3, .inr (1, [.ref kk_4, .int 1, .int 1])), (kk_4, .inl (cI, 4, .inl z_7)), (bq, .inl (cb, 16, .inl fb)), (uq, .inl (cb, 16, .inl fo))]) hD hS hA [7, 8, 2, 3] rfl
  refine callF_i (va_runF (As := [.ref bq, .int 0, .ref uq, .int 0]) (rest := []) (hK.1 1 _ rfl).2 ⟨hx, hb, hml, hown, hts⟩ (metX2_processBlock_1 l G cb cI t eo_3 kk_4 bq uq z_7 fb fo _) (va_cwF 4 hts (lw_F q168 q171 q173 q6 q175) rfl rfl rfl hE.2.2 (by decide +kernel) ⟨Nat.le_of_ble_eq_true rfl, Nat.le_of_ble_eq_true rfl⟩) (preW_V (ci := 1) (q0 := 0) hPc hK hDc (ctx_in hE hS hFc) rfl rfl) rfl rfl hl.1 rfl (lv_room (Nat.le_of_ble_eq_true rfl)) dX1_run_77 ⟨Nat.le_of_ble_eq_true rfl, Nat.le_of_ble_eq_true rfl⟩) hP hD hS hFc [7, 8, 2, 3] [0, 1, 4, 5, 6] (wr := [(oo, .inr (0, [.ref kq, .ref bq, .ref uq])), (kq, .inl (cb, 32, .inl fk)), (qa_2, .inl (cb, 16, .inl h)), (kp_5, .inr (2, [.ref v_6.1])), (v_6.1, .inl (cb, 16, .inl v_6.2))]) rfl rfl (by decide) (by decide) (fun r_8 y_9 H locs huy_9 hP hD hS => ?_)
  have hP : va_P G vwCl [(oo, .inr (0, [.ref kq, .ref bq, .ref uq])), (kq, .inl (cb, 32, .inl fk)), (qa_2, .inl (cb, 16, .inl h)), (kp_5, .inr (2, [.ref v_6.1])), (v_6.1, .inl (cb, 16, .inl v_6.2)), (eo_3, .inr (1, [.ref kk_4, .int 1, .int 1])), (kk_4, .inl (cI, 4, .inl z_7)), (bq, .inl (cb, 16, .inl fb)), (uq, .inl (cb, 16, .inl y_9))] H := hP
  have hD : va_D A [(oo, .inr (0, [.ref kq, .ref bq, .ref uq])), (kq, .inl (cb, 32, .inl fk)), (qa_2, .inl (cb, 16, .inl h)), (kp_5, .inr (2, [.ref v_6.1])), (v_6.1, .inl (cb, 16, .inl v_6.2)), (eo_3, .inr (1, [.ref kk_4, .int 1, .int 1])), (kk_4, .inl (cI, 4, .inl z_7)), (bq, .inl (cb, 16, .inl fb)), (uq, .inl (cb, 16, .inl y_9))] := hD
  refine W.widen (k := 5) (n := 40) (by omega) (by omega) ?_
  refine lv_pop hx hb dX1_run_82 rfl ?_
  have hP := hP.sub (ws' := [(oo, .inr (0, [.ref kq, .ref bq, .ref uq])), (kq, .inl (cb, 32, .inl fk)), (bq, .inl (cb, 16, .inl fb)), (uq, .inl (cb, 16, .inl y_9))]) [0, 1, 7, 8] rfl
  have hD := hD.sub (ws' := [(oo, .inr (0, [.ref kq, .ref bq, .ref uq])), (kq, .inl (cb, 32, .inl fk)), (bq, .inl (cb, 16, .inl fb)), (uq, .inl (cb, 16, .inl y_9))]) [0, 1, 7, 8] (by decide) rfl
  have hkw : nk_wds v_6.2 = nk_wds fk := (wds_congr huv_6).trans (wds_tb fk h hk)
  have hfin : nk_wds y_9 = nk_enc (nk_wds fk) (nk_wds fb) := by rw [huy_9.2, huz_7, hkw]
  exact W.vret hx hb hr (fun t9 ht hW => ⟨⟨y_9, rfl, hfin, by rw [ht]; exact hP, hD⟩, hS.F ht⟩) hS.2.2 dX1_run_83
set_option maxHeartbeats 4000000 in
set_option maxRecDepth 100000 in
theorem metX1_run_0 (l : Launch) (G : va_G) (cb cI : ClassId) (t oo kq bq uq : Nat) (fk fb fo : Nat → Int32) (x : Int32) (sz : Nat) : Met l yX1_run wsX1_run ({ frames := 4, cells := 5, slots := 40, locals := 101 }) (pcW [.ref oo, .int 0, .int x] G cb cI [(oo, .inr (0, [.ref kq, .ref bq, .ref uq])), (kq, .inl (cb, 32, .inl fk)), (bq, .inl (cb, 16, .inl fb)), (uq, .inl (cb, 16, .inl fo))] sz (fun U => nk_ctx t (va_A [(oo, .inr (0, [.ref kq, .ref bq, .ref uq])), (kq, .inl (cb, 32, .inl fk)), (bq, .inl (cb, 16, .inl fb)), (uq, .inl (cb, 16, .inl fo))] sz) U U.heap)) (qcV (fun u : Nat → Int32 => nk_wds u = nk_dec (nk_keyD (nk_wds fk)) (nk_wds fb)) G (fun u => [(oo, .inr (0, [.ref kq, .ref bq, .ref uq])), (kq, .inl (cb, 32, .inl fk)), (bq, .inl (cb, 16, .inl fb)), (uq, .inl (cb, 16, .inl u))]) (va_A [(oo, .inr (0, [.ref kq, .ref bq, .ref uq])), (kq, .inl (cb, 32, .inl fk)), (bq, .inl (cb, 16, .inl fb)), (uq, .inl (cb, 16, .inl fo))] sz)) 5 40 (va_A [(oo, .inr (0, [.ref kq, .ref bq, .ref uq])), (kq, .inl (cb, 32, .inl fk)), (bq, .inl (cb, 16, .inl fb)), (uq, .inl (cb, 16, .inl fo))] sz) := by
  refine Met.ofW (cc := cX1_run) (maxL := 6) (ret := none) (by decide) rfl ?_
  intro p e s m args below meth c s₁ B hml hv
  obtain ⟨rfl, hsz, hP, hK, hD0, hE⟩ := hv
  have hx := B.exec
  have hb := B.bytes
  have hr := B.returns
  have hts := atoms_spec (ws := wsX1_run) B.pre
  have hts : ∀ w ∈ lw_all, w.before _ s = true := fun w h => hts w (List.mem_cons_of_mem _ h)
  have hown : s.vm.findClass RX1 = some m.cls := findClass_of_methodNamed B.named
  have hlocks := B.notSynchronized
  subst hsz
  have hD := hD0.self (sz := s.heap.size)
  generalize hAe : va_A [(oo, .inr (0, [.ref kq, .ref bq, .ref uq])), (kq, .inl (cb, 32, .inl fk)), (bq, .inl (cb, 16, .inl fb)), (uq, .inl (cb, 16, .inl fo))] s.heap.size = A at hD hE ⊢
  have hE : nk_ctx t A s s.heap := hE
  have hA : ∀ q : Nat, s.heap.size ≤ q → A q := fun q h => by rw [← hAe]; exact Or.inr h
  have hS : va_S A s.heap s.heap [] := va_S.rf
  have hP : va_P G vwCl [(oo, .inr (0, [.ref kq, .ref bq, .ref uq])), (kq, .inl (cb, 32, .inl fk)), (bq, .inl (cb, 16, .inl fb)), (uq, .inl (cb, 16, .inl fo))] s.heap := hP
  have hl := lv_entry ([.ref oo, .int 0, .int x]) (n := 6) (Nat.le_of_ble_eq_true rfl)
  rw [lg_entry_eq]
  generalize (lg_sl ([.ref oo, .int 0, .int x]) ++ List.replicate (6 - (lg_sl ([.ref oo, .int 0, .int x])).length) Slot.unset).toArray = ls at hl ⊢
  have hl : lv_has ls 6 [(0, .ref oo), (1, .int 0), (2, .int x)] := hl
  refine lv_iload_n hx hb dX1_run_0 rfl (lv_at hl 2 rfl) ?_
  refine lv_iconst (v := 3) hx hb dX1_run_1 (by decide) ?_
  refine lv_iand hx hb dX1_run_2 ?_
  refine vp_callSi (W.runS (As := [.int (x &&& 3)]) (rest := []) ⟨hx, hb, hml, hown, hts⟩ (metX1_size l (x &&& 3)) (va_cwS 1 hts (lw_S q29 q30 q5 q31) rfl rfl rfl (by decide +kernel) ⟨Nat.le_of_ble_eq_true rfl, Nat.le_of_ble_eq_true rfl⟩) ⟨fun a U g mk q => q, fun U hU hW => ⟨rfl, trivial⟩⟩ rfl rfl hl.1 rfl (lv_room (Nat.le_of_ble_eq_true rfl)) dX1_run_3 ⟨Nat.le_of_ble_eq_true rfl, Nat.le_of_ble_eq_true rfl⟩) (fun r_1 er_1 => ?_)
  subst er_1
  refine lv_istore_n (lv' := [(3, .int 16), (0, .ref oo), (1, .int 0), (2, .int x)]) hx hb dX1_run_6 rfl hl (by decide) rfl (fun ls hl => ?_)
  refine lv_iload_n hx hb dX1_run_7 rfl (lv_at hl 0 rfl) ?_
  refine va_newa (atype := .byte) (ty := .byte) (a0 := (16, .inl (fun _ => 0))) (N' := 16) hx hb (hts _ q50) rfl hK hP hD hS hA (fun _ => rfl) (by decide) (by decide) (Nat.le_of_ble_eq_true rfl) (Nat.le_of_ble_eq_true rfl) (Nat.le_of_ble_eq_true rfl) dX1_run_8 (fun qa_2 cA H hK hP hD hS => ?_)
  have hcA : cb = cA := kb_eq hK
  subst hcA
  have hK := hK.sub (tys' := [(cb, .byte), (cI, .int)]) [0, 1] rfl
  have hP : va_P G vwCl [(oo, .inr (0, [.ref kq, .ref bq, .ref uq])), (kq, .inl (cb, 32, .inl fk)), (bq, .inl (cb, 16, .inl fb)), (uq, .inl (cb, 16, .inl fo)), (qa_2, .inl (cb, 16, .inl (fun _ => 0)))] H := hP
  have hD : va_D A [(oo, .inr (0, [.ref kq, .ref bq, .ref uq])), (kq, .inl (cb, 32, .inl fk)), (bq, .inl (cb, 16, .inl fb)), (uq, .inl (cb, 16, .inl fo)), (qa_2, .inl (cb, 16, .inl (fun _ => 0)))] := hD
  refine W.widen (k := 1) (n := 16) (by omega) (by omega) ?_
  refine lv_astore (lv' := [(4, .ref qa_2), (3, .int 16), (0, .ref oo), (1, .int 0), (2, .int x)]) hx hb dX1_run_10 hl (by decide) rfl (fun ls hl => ?_)
  refine lv_iconst (v := 0) hx hb dX1_run_12 (by decide) ?_
  refine lv_istore (lv' := [(5, .int 0), (4, .ref qa_2), (3, .int 16), (0, .ref oo), (1, .int 0), (2, .int x)]) hx hb dX1_run_13 hl (by decide) rfl (fun ls hl => ?_)
  refine loopX1_run hx hb hml hown hts hK (fun x5 h H locs ls hk hP hD hS hl => ?_) 17 0 0 (fun _ => 0) (by omega) (by omega) nI_0.symm (fun j hj => absurd hj (by omega)) _ _ hP hD hS ls (lv_sub hl [3, 4, 5, 2, 1, 0] rfl)
  have hfit : ∀ j, j < 16 → fits .byte (.int (h j)) = true := fun j hj => by rw [hk j hj]; exact pk_fb (fk j)
  refine va_new (ci := 1) (fs := [.null, .int 0, .int 0]) (C := RX2) (T := TX2) (N := 3) hx hb hts in_X2 tyX2 tyX2_ok hown (hts _ q32) (hts _ q33) (hts _ q6) hK hP hD hS hA rfl (fun j hj => by rcases (show j = 0 ∨ j = 1 ∨ j = 2 by omega) with rfl | rfl | rfl <;> rfl) (Nat.le_of_ble_eq_true rfl) (Nat.le_of_ble_eq_true rfl) dX1_run_39 (fun eo_3 H hP hD hS => ?_)
  have hP : va_P G vwCl [(oo, .inr (0, [.ref kq, .ref bq, .ref uq])), (kq, .inl (cb, 32, .inl fk)), (bq, .inl (cb, 16, .inl fb)), (uq, .inl (cb, 16, .inl fo)), (qa_2, .inl (cb, 16, .inl h)), (eo_3, .inr (1, [.null, .int 0, .int 0]))] H := hP
  have hD : va_D A [(oo, .inr (0, [.ref kq, .ref bq, .ref uq])), (kq, .inl (cb, 32, .inl fk)), (bq, .inl (cb, 16, .inl fb)), (uq, .inl (cb, 16, .inl fo)), (qa_2, .inl (cb, 16, .inl h)), (eo_3, .inr (1, [.null, .int 0, .int 0]))] := hD
  refine W.widen (k := 2) (n := 19) (by omega) (by omega) ?_
  refine lv_dup hx hb dX1_run_42 rfl ?_
  have hPc := hP.sub (ws' := [(eo_3, .inr (1, [.null, .int 0, .int 0]))]) [5] rfl
  have hDc := hD.sub (ws' := [(eo_3, .inr (1, [.null, .int 0, .int 0]))]) [5] (by decide) rfl
  have hFc := va_free (wc := [(eo_3, .inr (1, [.null, .int 0, .int 0]))]) hD hS hA [5] rfl
  refine call_v (va_runI (As := []) (rest := [.ref eo_3]) ⟨hx, hb, hml, hown, hts⟩ (metX2_init l G cb cI eo_3 _) (cwI 0 hts (lw_meth q36) rfl rfl rfl (hts _ q6) (hts _ q34) (hts _ q35) rfl (by decide +kernel) ⟨Nat.le_of_ble_eq_true rfl, Nat.le_of_ble_eq_true rfl⟩) (preW_S hPc hK hDc (tru_in)) rfl rfl hl.1 rfl (lv_room (Nat.le_of_ble_eq_true rfl)) dX1_run_43 ⟨Nat.le_of_ble_eq_true rfl, Nat.le_of_ble_eq_true rfl⟩) hP hD hS hFc [5] [0, 1, 2, 3, 4] (wr := [(oo, .inr (0, [.ref kq, .ref bq, .ref uq])), (kq, .inl (cb, 32, .inl fk)), (bq, .inl (cb, 16, .inl fb)), (uq, .inl (cb, 16, .inl fo)), (qa_2, .inl (cb, 16, .inl h))]) rfl rfl (by decide) (by decide) (fun kk_4 H locs hukk_4 hP hD hS => ?_)
  have hP : va_P G vwCl [(oo, .inr (0, [.ref kq, .ref bq, .ref uq])), (kq, .inl (cb, 32, .inl fk)), (bq, .inl (cb, 16, .inl fb)), (uq, .inl (cb, 16, .inl fo)), (qa_2, .inl (cb, 16, .inl h)), (eo_3, .inr (1, [.ref kk_4, .int 0, .int 0])), (kk_4, .inl (cI, 4, .inl (fun _ => 0)))] H := hP
  have hD : va_D A [(oo, .inr (0, [.ref kq, .ref bq, .ref uq])), (kq, .inl (cb, 32, .inl fk)), (bq, .inl (cb, 16, .inl fb)), (uq, .inl (cb, 16, .inl fo)), (qa_2, .inl (cb, 16, .inl h)), (eo_3, .inr (1, [.ref kk_4, .int 0, .int 0])), (kk_4, .inl (cI, 4, .inl (fun _ => 0)))] := hD
  refine W.widen (k := 3) (n := 23) (by omega) (by omega) ?_
  refine lv_astore (lv' := [(5, .ref eo_3), (0, .ref oo), (1, .int 0), (2, .int x), (3, .int 16), (4, .ref qa_2)]) hx hb dX1_run_46 hl (by decide) rfl (fun ls hl => ?_)
  refine lv_aload hx hb dX1_run_48 (lv_at hl 0 rfl) ?_
  refine lv_iload_n hx hb dX1_run_50 rfl (lv_at hl 2 rfl) ?_
  refine va_new (ci := 2) (fs := [.null]) (C := RX3) (T := TX3) (N := 1) hx hb hts in_X3 tyX3 tyX3_ok hown (hts _ q52) (hts _ q53) (hts _ q7) hK hP hD hS hA rfl (fun j hj => by rcases (show j = 0 by omega) with rfl <;> rfl) (Nat.le_of_ble_eq_true rfl) (Nat.le_of_ble_eq_true rfl) dX1_run_51 (fun kp_5 H hP hD hS => ?_)
  have hP : va_P G vwCl [(oo, .inr (0, [.ref kq, .ref bq, .ref uq])), (kq, .inl (cb, 32, .inl fk)), (bq, .inl (cb, 16, .inl fb)), (uq, .inl (cb, 16, .inl fo)), (qa_2, .inl (cb, 16, .inl h)), (eo_3, .inr (1, [.ref kk_4, .int 0, .int 0])), (kk_4, .inl (cI, 4, .inl (fun _ => 0))), (kp_5, .inr (2, [.null]))] H := hP
  have hD : va_D A [(oo, .inr (0, [.ref kq, .ref bq, .ref uq])), (kq, .inl (cb, 32, .inl fk)), (bq, .inl (cb, 16, .inl fb)), (uq, .inl (cb, 16, .inl fo)), (qa_2, .inl (cb, 16, .inl h)), (eo_3, .inr (1, [.ref kk_4, .int 0, .int 0])), (kk_4, .inl (cI, 4, .inl (fun _ => 0))), (kp_5, .inr (2, [.null]))] := hD
  refine W.widen (k := 4) (n := 24) (by omega) (by omega) ?_
  refine lv_dup hx hb dX1_run_54 rfl ?_
  refine lv_aload hx hb dX1_run_55 (lv_at hl 5 rfl) ?_
  have hPc := hP.sub (ws' := [(kp_5, .inr (2, [.null])), (qa_2, .inl (cb, 16, .inl h))]) [7, 4] rfl
  have hDc := hD.sub (ws' := [(kp_5, .inr (2, [.null])), (qa_2, .inl (cb, 16, .inl h))]) [7, 4] (by decide) rfl
  have hFc := va_free (wc := [(kp_5, .inr (2, [.null])), (qa_2, .inl (cb, 16, .inl h))]) hD hS hA [7, 4] rfl
  refine call_v (va_runI (As := [.ref qa_2]) (rest := [.ref kp_5, .int 0, .ref eo_3]) ⟨hx, hb, hml, hown, hts⟩ (metX3_init l G cb cI kp_5 qa_2 h hfit _) (cwI 1 hts (lw_meth q56) rfl rfl rfl (hts _ q7) (hts _ q54) (hts _ q55) rfl (by decide +kernel) ⟨Nat.le_of_ble_eq_true rfl, Nat.le_of_ble_eq_true rfl⟩) (preW_S hPc hK hDc (tru_in)) rfl rfl hl.1 rfl (lv_room (Nat.le_of_ble_eq_true rfl)) dX1_run_57 ⟨Nat.le_of_ble_eq_true rfl, Nat.le_of_ble_eq_true rfl⟩) hP hD hS hFc [7, 4] [0, 1, 2, 3, 5, 6] (wr := [(oo, .inr (0, [.ref kq, .ref bq, .ref uq])), (kq, .inl (cb, 32, .inl fk)), (bq, .inl (cb, 16, .inl fb)), (uq, .inl (cb, 16, .inl fo)), (eo_3, .inr (1, [.ref kk_4, .int 0, .int 0])), (kk_4, .inl (cI, 4, .inl (fun _ => 0)))]) rfl rfl (by decide) (by decide) (fun v_6 H locs huv_6 hP hD hS => ?_)
  have hP : va_P G vwCl [(oo, .inr (0, [.ref kq, .ref bq, .ref uq])), (kq, .inl (cb, 32, .inl fk)), (bq, .inl (cb, 16, .inl fb)), (uq, .inl (cb, 16, .inl fo)), (eo_3, .inr (1, [.ref kk_4, .int 0, .int 0])), (kk_4, .inl (cI, 4, .inl (fun _ => 0))), (kp_5, .inr (2, [.ref v_6.1])), (v_6.1, .inl (cb, 16, .inl v_6.2)), (qa_2, .inl (cb, 16, .inl h))] H := hP
  have hD : va_D A [(oo, .inr (0, [.ref kq, .ref bq, .ref uq])), (kq, .inl (cb, 32, .inl fk)), (bq, .inl (cb, 16, .inl fb)), (uq, .inl (cb, 16, .inl fo)), (eo_3, .inr (1, [.ref kk_4, .int 0, .int 0])), (kk_4, .inl (cI, 4, .inl (fun _ => 0))), (kp_5, .inr (2, [.ref v_6.1])), (v_6.1, .inl (cb, 16, .inl v_6.2)), (qa_2, .inl (cb, 16, .inl h))] := hD
  refine W.widen (k := 5) (n := 40) (by omega) (by omega) ?_
  have hPc := hP.sub (ws' := [(eo_3, .inr (1, [.ref kk_4, .int 0, .int 0])), (kk_4, .inl (cI, 4, .inl (fun _ => 0))), (kp_5, .inr (2, [.ref v_6.1])), (v_6.1, .inl (cb, 16, .inl v_6.2))]) [4, 5, 6, 7] rfl
  have hDc := hD.sub (ws' := [(eo_3, .inr (1, [.ref kk_4, .int 0, .int 0])), (kk_4, .inl (cI, 4, .inl (fun _ => 0))), (kp_5, .inr (2, [.ref v_6.1])), (v_6.1, .inl (cb, 16, .inl v_6.2))]) [4, 5, 6, 7] (by decide) rfl
  have hFc := va_free (wc := [(eo_3, .inr (1, [.ref kk_4, .int 0, .int 0])), (kk_4, .inl (cI, 4, .inl (fun _ => 0))), (kp_5, .inr (2, [.ref v_6.1])), (v_6.1, .inl (cb, 16, .inl v_6.2))]) hD hS hA [4, 5, 6, 7] rfl
  refine callF_v (va_runF (As := [.int 0, .ref kp_5]) (rest := []) (hK.1 1 _ rfl).2 ⟨hx, hb, hml, hown, hts⟩ (metX2_init_2_0 l G cb cI eo_3 kk_4 kp_5 v_6.1 (fun _ => 0) v_6.2 _) (va_cwF 2 hts (lw_F q72 q76 q78 q6 q80) rfl rfl rfl hE.2.1 (by decide +kernel) ⟨Nat.le_of_ble_eq_true rfl, Nat.le_of_ble_eq_true rfl⟩) (preW_V (ci := 1) (q0 := 0) hPc hK hDc (tru_in) rfl rfl) rfl rfl hl.1 rfl (lv_room (Nat.le_of_ble_eq_true rfl)) dX1_run_60 ⟨Nat.le_of_ble_eq_true rfl, Nat.le_of_ble_eq_true rfl⟩) hP hD hS hFc [4, 5, 6, 7] [0, 1, 2, 3, 8] (wr := [(oo, .inr (0, [.ref kq, .ref bq, .ref uq])), (kq, .inl (cb, 32, .inl fk)), (bq, .inl (cb, 16, .inl fb)), (uq, .inl (cb, 16, .inl fo)), (qa_2, .inl (cb, 16, .inl h))]) rfl rfl (by decide) (by decide) (fun z_7 H locs huz_7 hP hD hS => ?_)
  have hP : va_P G vwCl [(oo, .inr (0, [.ref kq, .ref bq, .ref uq])), (kq, .inl (cb, 32, .inl fk)), (bq, .inl (cb, 16, .inl fb)), (uq, .inl (cb, 16, .inl fo)), (qa_2, .inl (cb, 16, .inl h)), (kp_5, .inr (2, [.ref v_6.1])), (v_6.1, .inl (cb, 16, .inl v_6.2)), (eo_3, .inr (1, [.ref kk_4, .int 1, .int 0])), (kk_4, .inl (cI, 4, .inl z_7))] H := hP
  have hD : va_D A [(oo, .inr (0, [.ref kq, .ref bq, .ref uq])), (kq, .inl (cb, 32, .inl fk)), (bq, .inl (cb, 16, .inl fb)), (uq, .inl (cb, 16, .inl fo)), (qa_2, .inl (cb, 16, .inl h)), (kp_5, .inr (2, [.ref v_6.1])), (v_6.1, .inl (cb, 16, .inl v_6.2)), (eo_3, .inr (1, [.ref kk_4, .int 1, .int 0])), (kk_4, .inl (cI, 4, .inl z_7))] := hD
  refine W.widen (k := 5) (n := 40) (by omega) (by omega) ?_
  refine lv_aload hx hb dX1_run_65 (lv_at hl 0 rfl) ?_
  refine lv_aload_n hx hb dX1_run_67 rfl (lv_at hl 1 rfl) ?_
  refine va_get (D := G) (ci := 0) (v := .ref bq) (C := RX1) (T := TX1) (N := 3) hx hb hts in_X1 hown hK hP 0 rfl rfl 1 (by decide) (hts _ q259) (fun _ h9 => h9) rfl dX1_run_68 ?_
  refine lv_iconst (v := 0) hx hb dX1_run_71 (by decide) ?_
  refine lv_aload_n hx hb dX1_run_72 rfl (lv_at hl 1 rfl) ?_
  refine va_get (D := G) (ci := 0) (v := .ref uq) (C := RX1) (T := TX1) (N := 3) hx hb hts in_X1 hown hK hP 0 rfl rfl 2 (by decide) (hts _ q260) (fun _ h9 => h9) rfl dX1_run_73 ?_
  refine lv_iconst (v := 0) hx hb dX1_run_76 (by decide) ?_
  have hPc := hP.sub (ws' := [(eo_3, .inr (1, [.ref kk_4, .int 1, .int 0])), (kk_4, .inl (cI, 4, .inl z_7)), (bq, .inl (cb, 16, .inl fb)), (uq, .inl (cb, 16, .inl fo))]) [7, 8, 2, 3] rfl
  have hDc := hD.sub (ws' := [(eo_3, .inr (1, [.ref kk_4, .int 1, .int 0])), (kk_4, .inl (cI, 4, .inl z_7)), (bq, .inl (cb, 16, .inl fb)), (uq, .inl (cb, 16, .inl fo))]) [7, 8, 2, 3] (by decide) rfl
  have hFc := va_free (wc := [(eo_3, .inr (1, [.ref kk_4, .int 1, .int 0])), (kk_4, .inl (cI, 4, .inl z_7)), (bq, .inl (cb, 16, .inl fb)), (uq, .inl (cb, 16, .inl fo))]) hD hS hA [7, 8, 2, 3] rfl
  refine callF_i (va_runF (As := [.ref bq, .int 0, .ref uq, .int 0]) (rest := []) (hK.1 1 _ rfl).2 ⟨hx, hb, hml, hown, hts⟩ (metX2_processBlock_0 l G cb cI t eo_3 kk_4 bq uq z_7 fb fo _) (va_cwF 4 hts (lw_F q168 q171 q173 q6 q175) rfl rfl rfl hE.2.2 (by decide +kernel) ⟨Nat.le_of_ble_eq_true rfl, Nat.le_of_ble_eq_true rfl⟩) (preW_V (ci := 1) (q0 := 0) hPc hK hDc (ctx_in hE hS hFc) rfl rfl) rfl rfl hl.1 rfl (lv_room (Nat.le_of_ble_eq_true rfl)) dX1_run_77 ⟨Nat.le_of_ble_eq_true rfl, Nat.le_of_ble_eq_true rfl⟩) hP hD hS hFc [7, 8, 2, 3] [0, 1, 4, 5, 6] (wr := [(oo, .inr (0, [.ref kq, .ref bq, .ref uq])), (kq, .inl (cb, 32, .inl fk)), (qa_2, .inl (cb, 16, .inl h)), (kp_5, .inr (2, [.ref v_6.1])), (v_6.1, .inl (cb, 16, .inl v_6.2))]) rfl rfl (by decide) (by decide) (fun r_8 y_9 H locs huy_9 hP hD hS => ?_)
  have hP : va_P G vwCl [(oo, .inr (0, [.ref kq, .ref bq, .ref uq])), (kq, .inl (cb, 32, .inl fk)), (qa_2, .inl (cb, 16, .inl h)), (kp_5, .inr (2, [.ref v_6.1])), (v_6.1, .inl (cb, 16, .inl v_6.2)), (eo_3, .inr (1, [.ref kk_4, .int 1, .int 0])), (kk_4, .inl (cI, 4, .inl z_7)), (bq, .inl (cb, 16, .inl fb)), (uq, .inl (cb, 16, .inl y_9))] H := hP
  have hD : va_D A [(oo, .inr (0, [.ref kq, .ref bq, .ref uq])), (kq, .inl (cb, 32, .inl fk)), (qa_2, .inl (cb, 16, .inl h)), (kp_5, .inr (2, [.ref v_6.1])), (v_6.1, .inl (cb, 16, .inl v_6.2)), (eo_3, .inr (1, [.ref kk_4, .int 1, .int 0])), (kk_4, .inl (cI, 4, .inl z_7)), (bq, .inl (cb, 16, .inl fb)), (uq, .inl (cb, 16, .inl y_9))] := hD
  refine W.widen (k := 5) (n := 40) (by omega) (by omega) ?_
  refine lv_pop hx hb dX1_run_82 rfl ?_
  have hP := hP.sub (ws' := [(oo, .inr (0, [.ref kq, .ref bq, .ref uq])), (kq, .inl (cb, 32, .inl fk)), (bq, .inl (cb, 16, .inl fb)), (uq, .inl (cb, 16, .inl y_9))]) [0, 1, 7, 8] rfl
  have hD := hD.sub (ws' := [(oo, .inr (0, [.ref kq, .ref bq, .ref uq])), (kq, .inl (cb, 32, .inl fk)), (bq, .inl (cb, 16, .inl fb)), (uq, .inl (cb, 16, .inl y_9))]) [0, 1, 7, 8] (by decide) rfl
  have hkw : nk_wds v_6.2 = nk_wds fk := (wds_congr huv_6).trans (wds_tb fk h hk)
  have hfin : nk_wds y_9 = nk_dec (nk_keyD (nk_wds fk)) (nk_wds fb) := by rw [huy_9.2, huz_7, hkw]
  exact W.vret hx hb hr (fun t9 ht hW => ⟨⟨y_9, rfl, hfin, by rw [ht]; exact hP, hD⟩, hS.F ht⟩) hS.2.2 dX1_run_83
set_option maxHeartbeats 4000000 in
set_option maxRecDepth 100000 in
theorem metX1_lock (l : Launch) (G : va_G) (cb cI : ClassId) (t oo kq bq uq : Nat) (fk fb fo : Nat → Int32) (x : Int32) (sz : Nat) : Met l yX1_lock wsX1_lock ({ frames := 5, cells := 5, slots := 40, locals := 126 }) (pcW [.ref oo, .int x] G cb cI [(oo, .inr (0, [.ref kq, .ref bq, .ref uq])), (kq, .inl (cb, 32, .inl fk)), (bq, .inl (cb, 16, .inl fb)), (uq, .inl (cb, 16, .inl fo))] sz (fun U => nk_ctx t (va_A [(oo, .inr (0, [.ref kq, .ref bq, .ref uq])), (kq, .inl (cb, 32, .inl fk)), (bq, .inl (cb, 16, .inl fb)), (uq, .inl (cb, 16, .inl fo))] sz) U U.heap)) (qcV (fun u : Nat → Int32 => nk_wds u = nk_enc (nk_wds fk) (nk_wds fb)) G (fun u => [(oo, .inr (0, [.ref kq, .ref bq, .ref uq])), (kq, .inl (cb, 32, .inl fk)), (bq, .inl (cb, 16, .inl fb)), (uq, .inl (cb, 16, .inl u))]) (va_A [(oo, .inr (0, [.ref kq, .ref bq, .ref uq])), (kq, .inl (cb, 32, .inl fk)), (bq, .inl (cb, 16, .inl fb)), (uq, .inl (cb, 16, .inl fo))] sz)) 5 40 (va_A [(oo, .inr (0, [.ref kq, .ref bq, .ref uq])), (kq, .inl (cb, 32, .inl fk)), (bq, .inl (cb, 16, .inl fb)), (uq, .inl (cb, 16, .inl fo))] sz) := by
  refine Met.ofW (cc := cX1_lock) (maxL := 2) (ret := none) (by decide) rfl ?_
  intro p e s m args below meth c s₁ B hml hv
  obtain ⟨rfl, hsz, hP, hK, hD0, hE⟩ := hv
  have hx := B.exec
  have hb := B.bytes
  have hr := B.returns
  have hts := atoms_spec (ws := wsX1_lock) B.pre
  have hts : ∀ w ∈ lw_all, w.before _ s = true := fun w h => hts w (List.mem_cons_of_mem _ h)
  have hown : s.vm.findClass RX1 = some m.cls := findClass_of_methodNamed B.named
  have hlocks := B.notSynchronized
  subst hsz
  have hD := hD0.self (sz := s.heap.size)
  generalize hAe : va_A [(oo, .inr (0, [.ref kq, .ref bq, .ref uq])), (kq, .inl (cb, 32, .inl fk)), (bq, .inl (cb, 16, .inl fb)), (uq, .inl (cb, 16, .inl fo))] s.heap.size = A at hD hE ⊢
  have hE : nk_ctx t A s s.heap := hE
  have hA : ∀ q : Nat, s.heap.size ≤ q → A q := fun q h => by rw [← hAe]; exact Or.inr h
  have hS : va_S A s.heap s.heap [] := va_S.rf
  have hP : va_P G vwCl [(oo, .inr (0, [.ref kq, .ref bq, .ref uq])), (kq, .inl (cb, 32, .inl fk)), (bq, .inl (cb, 16, .inl fb)), (uq, .inl (cb, 16, .inl fo))] s.heap := hP
  have hl := lv_entry ([.ref oo, .int x]) (n := 2) (Nat.le_of_ble_eq_true rfl)
  rw [lg_entry_eq]
  generalize (lg_sl ([.ref oo, .int x]) ++ List.replicate (2 - (lg_sl ([.ref oo, .int x])).length) Slot.unset).toArray = ls at hl ⊢
  have hl : lv_has ls 2 [(0, .ref oo), (1, .int x)] := hl
  refine lv_aload_n hx hb dX1_lock_0 rfl (lv_at hl 0 rfl) ?_
  refine lv_iconst (v := 1) hx hb dX1_lock_1 (by decide) ?_
  refine lv_iload_n hx hb dX1_lock_2 rfl (lv_at hl 1 rfl) ?_
  have hPc := hP.sub (ws' := [(oo, .inr (0, [.ref kq, .ref bq, .ref uq])), (kq, .inl (cb, 32, .inl fk)), (bq, .inl (cb, 16, .inl fb)), (uq, .inl (cb, 16, .inl fo))]) [0, 1, 2, 3] rfl
  have hDc := hD.sub (ws' := [(oo, .inr (0, [.ref kq, .ref bq, .ref uq])), (kq, .inl (cb, 32, .inl fk)), (bq, .inl (cb, 16, .inl fb)), (uq, .inl (cb, 16, .inl fo))]) [0, 1, 2, 3] (by decide) rfl
  have hFc := va_free (wc := [(oo, .inr (0, [.ref kq, .ref bq, .ref uq])), (kq, .inl (cb, 32, .inl fk)), (bq, .inl (cb, 16, .inl fb)), (uq, .inl (cb, 16, .inl fo))]) hD hS hA [0, 1, 2, 3] rfl
  refine call_v (va_runV (As := [.int 1, .int x]) (rest := []) ⟨hx, hb, hml, hown, hts⟩ (metX1_run_1 l G cb cI t oo kq bq uq fk fb fo x _) (cwV 2 hts (lw_V q24 q26 qs0 q5 q28) rfl rfl rfl (by decide +kernel) ⟨Nat.le_of_ble_eq_true rfl, Nat.le_of_ble_eq_true rfl⟩) (preW_V (ci := 0) (q0 := 0) hPc hK hDc (ctx_in hE hS hFc) rfl rfl) rfl rfl hl.1 rfl (lv_room (Nat.le_of_ble_eq_true rfl)) dX1_lock_3 ⟨Nat.le_of_ble_eq_true rfl, Nat.le_of_ble_eq_true rfl⟩) hP hD hS hFc [0, 1, 2, 3] [] (wr := []) rfl rfl (by decide) (by decide) (fun u_1 H locs huu_1 hP hD hS => ?_)
  have hP : va_P G vwCl [(oo, .inr (0, [.ref kq, .ref bq, .ref uq])), (kq, .inl (cb, 32, .inl fk)), (bq, .inl (cb, 16, .inl fb)), (uq, .inl (cb, 16, .inl u_1))] H := hP
  have hD : va_D A [(oo, .inr (0, [.ref kq, .ref bq, .ref uq])), (kq, .inl (cb, 32, .inl fk)), (bq, .inl (cb, 16, .inl fb)), (uq, .inl (cb, 16, .inl u_1))] := hD
  refine W.widen (k := 5) (n := 40) (by omega) (by omega) ?_
  exact W.vret hx hb hr (fun t9 ht hW => ⟨⟨u_1, rfl, huu_1, by rw [ht]; exact hP, hD⟩, hS.F ht⟩) hS.2.2 dX1_lock_6
set_option maxHeartbeats 4000000 in
set_option maxRecDepth 100000 in
theorem metX1_open (l : Launch) (G : va_G) (cb cI : ClassId) (t oo kq bq uq : Nat) (fk fb fo : Nat → Int32) (x : Int32) (sz : Nat) : Met l yX1_open wsX1_open ({ frames := 5, cells := 5, slots := 40, locals := 126 }) (pcW [.ref oo, .int x] G cb cI [(oo, .inr (0, [.ref kq, .ref bq, .ref uq])), (kq, .inl (cb, 32, .inl fk)), (bq, .inl (cb, 16, .inl fb)), (uq, .inl (cb, 16, .inl fo))] sz (fun U => nk_ctx t (va_A [(oo, .inr (0, [.ref kq, .ref bq, .ref uq])), (kq, .inl (cb, 32, .inl fk)), (bq, .inl (cb, 16, .inl fb)), (uq, .inl (cb, 16, .inl fo))] sz) U U.heap)) (qcV (fun u : Nat → Int32 => nk_wds u = nk_dec (nk_keyD (nk_wds fk)) (nk_wds fb)) G (fun u => [(oo, .inr (0, [.ref kq, .ref bq, .ref uq])), (kq, .inl (cb, 32, .inl fk)), (bq, .inl (cb, 16, .inl fb)), (uq, .inl (cb, 16, .inl u))]) (va_A [(oo, .inr (0, [.ref kq, .ref bq, .ref uq])), (kq, .inl (cb, 32, .inl fk)), (bq, .inl (cb, 16, .inl fb)), (uq, .inl (cb, 16, .inl fo))] sz)) 5 40 (va_A [(oo, .inr (0, [.ref kq, .ref bq, .ref uq])), (kq, .inl (cb, 32, .inl fk)), (bq, .inl (cb, 16, .inl fb)), (uq, .inl (cb, 16, .inl fo))] sz) := by
  refine Met.ofW (cc := cX1_open) (maxL := 2) (ret := none) (by decide) rfl ?_
  intro p e s m args below meth c s₁ B hml hv
  obtain ⟨rfl, hsz, hP, hK, hD0, hE⟩ := hv
  have hx := B.exec
  have hb := B.bytes
  have hr := B.returns
  have hts := atoms_spec (ws := wsX1_open) B.pre
  have hts : ∀ w ∈ lw_all, w.before _ s = true := fun w h => hts w (List.mem_cons_of_mem _ h)
  have hown : s.vm.findClass RX1 = some m.cls := findClass_of_methodNamed B.named
  have hlocks := B.notSynchronized
  subst hsz
  have hD := hD0.self (sz := s.heap.size)
  generalize hAe : va_A [(oo, .inr (0, [.ref kq, .ref bq, .ref uq])), (kq, .inl (cb, 32, .inl fk)), (bq, .inl (cb, 16, .inl fb)), (uq, .inl (cb, 16, .inl fo))] s.heap.size = A at hD hE ⊢
  have hE : nk_ctx t A s s.heap := hE
  have hA : ∀ q : Nat, s.heap.size ≤ q → A q := fun q h => by rw [← hAe]; exact Or.inr h
  have hS : va_S A s.heap s.heap [] := va_S.rf
  have hP : va_P G vwCl [(oo, .inr (0, [.ref kq, .ref bq, .ref uq])), (kq, .inl (cb, 32, .inl fk)), (bq, .inl (cb, 16, .inl fb)), (uq, .inl (cb, 16, .inl fo))] s.heap := hP
  have hl := lv_entry ([.ref oo, .int x]) (n := 2) (Nat.le_of_ble_eq_true rfl)
  rw [lg_entry_eq]
  generalize (lg_sl ([.ref oo, .int x]) ++ List.replicate (2 - (lg_sl ([.ref oo, .int x])).length) Slot.unset).toArray = ls at hl ⊢
  have hl : lv_has ls 2 [(0, .ref oo), (1, .int x)] := hl
  refine lv_aload_n hx hb dX1_open_0 rfl (lv_at hl 0 rfl) ?_
  refine lv_iconst (v := 0) hx hb dX1_open_1 (by decide) ?_
  refine lv_iload_n hx hb dX1_open_2 rfl (lv_at hl 1 rfl) ?_
  have hPc := hP.sub (ws' := [(oo, .inr (0, [.ref kq, .ref bq, .ref uq])), (kq, .inl (cb, 32, .inl fk)), (bq, .inl (cb, 16, .inl fb)), (uq, .inl (cb, 16, .inl fo))]) [0, 1, 2, 3] rfl
  have hDc := hD.sub (ws' := [(oo, .inr (0, [.ref kq, .ref bq, .ref uq])), (kq, .inl (cb, 32, .inl fk)), (bq, .inl (cb, 16, .inl fb)), (uq, .inl (cb, 16, .inl fo))]) [0, 1, 2, 3] (by decide) rfl
  have hFc := va_free (wc := [(oo, .inr (0, [.ref kq, .ref bq, .ref uq])), (kq, .inl (cb, 32, .inl fk)), (bq, .inl (cb, 16, .inl fb)), (uq, .inl (cb, 16, .inl fo))]) hD hS hA [0, 1, 2, 3] rfl
  refine call_v (va_runV (As := [.int 0, .int x]) (rest := []) ⟨hx, hb, hml, hown, hts⟩ (metX1_run_0 l G cb cI t oo kq bq uq fk fb fo x _) (cwV 2 hts (lw_V q24 q26 qs0 q5 q28) rfl rfl rfl (by decide +kernel) ⟨Nat.le_of_ble_eq_true rfl, Nat.le_of_ble_eq_true rfl⟩) (preW_V (ci := 0) (q0 := 0) hPc hK hDc (ctx_in hE hS hFc) rfl rfl) rfl rfl hl.1 rfl (lv_room (Nat.le_of_ble_eq_true rfl)) dX1_open_3 ⟨Nat.le_of_ble_eq_true rfl, Nat.le_of_ble_eq_true rfl⟩) hP hD hS hFc [0, 1, 2, 3] [] (wr := []) rfl rfl (by decide) (by decide) (fun u_1 H locs huu_1 hP hD hS => ?_)
  have hP : va_P G vwCl [(oo, .inr (0, [.ref kq, .ref bq, .ref uq])), (kq, .inl (cb, 32, .inl fk)), (bq, .inl (cb, 16, .inl fb)), (uq, .inl (cb, 16, .inl u_1))] H := hP
  have hD : va_D A [(oo, .inr (0, [.ref kq, .ref bq, .ref uq])), (kq, .inl (cb, 32, .inl fk)), (bq, .inl (cb, 16, .inl fb)), (uq, .inl (cb, 16, .inl u_1))] := hD
  refine W.widen (k := 5) (n := 40) (by omega) (by omega) ?_
  exact W.vret hx hb hr (fun t9 ht hW => ⟨⟨u_1, rfl, huu_1, by rw [ht]; exact hP, hD⟩, hS.F ht⟩) hS.2.2 dX1_open_6
end
section
abbrev wsX0_cell : List Cond := ws_ yX0_cell cX0_cell 2 (some .int)
abbrev wsX0_with : List Cond := ws_ yX0_with cX0_with 2 (some (.object "NoekeonDesk"))
abbrev wsX0_same : List Cond := ws_ yX0_same cX0_same 3 (some .boolean)
abbrev wsX0_known : List Cond := ws_ yX0_known cX0_known 7 (some .boolean)
def nk_cell (L : Nat) (xs : Nat → Int32) (k : Nat) : Int32 := if k < L then xs k else 0
set_option maxHeartbeats 4000000 in
set_option maxRecDepth 100000 in
theorem metX0_cell (l : Launch) (G : va_G) (cb cI : ClassId) (b0 L : Nat) (xs : Nat → Int32) (x : Int32) (k : Nat) (ek : x = nI k) (hk : k < 2 ^ 31) : Met l yX0_cell wsX0_cell ({ frames := 0, cells := 0, slots := 0, locals := 0 }) (pcR [.ref b0, .int x] G cb cI [] (fun U => nk_X b0 L xs U U.heap)) (vp_Si (fun r => r = nk_cell L xs k)) 0 0 (fun _ => False) := by
  refine Met.ofW (cc := cX0_cell) (maxL := 2) (ret := (some .int)) (by decide) rfl ?_
  intro p e s m args below meth c s₁ B hml hv
  obtain ⟨rfl, hP, hK, hE⟩ := hv
  have hx := B.exec
  have hb := B.bytes
  have hr := B.returns
  have hts := atoms_spec (ws := wsX0_cell) B.pre
  have hts : ∀ w ∈ lw_all, w.before _ s = true := fun w h => hts w (List.mem_cons_of_mem _ h)
  have hown : s.vm.findClass RX0 = some m.cls := findClass_of_methodNamed B.named
  have hlocks := B.notSynchronized
  have hl := lv_entry ([.ref b0, .int x]) (n := 2) (Nat.le_of_ble_eq_true rfl)
  rw [lg_entry_eq]
  generalize (lg_sl ([.ref b0, .int x]) ++ List.replicate (2 - (lg_sl ([.ref b0, .int x])).length) Slot.unset).toArray = ls at hl ⊢
  have hl : lv_has ls 2 [(0, .ref b0), (1, .int x)] := hl
  obtain ⟨hX, hbl, hL⟩ : nk_X b0 L xs s s.heap := hE
  have hS : va_S (fun _ => False) s.heap s.heap [] := va_S.rf
  refine lv_iload_n hx hb dX0_cell_0 rfl (lv_at hl 1 rfl) ?_
  refine lv_aload_n hx hb dX0_cell_1 rfl (lv_at hl 0 rfl) ?_
  refine va_slen hx hb hX hbl id hS dX0_cell_2 ?_
  refine lv_icmp_ge (tgt := 12) hx hb dX0_cell_3 (by decide) (fun c9 => ?_) (fun c9 => ?_)
  · have hge : ¬ k < L := fun z => nI_ge z hL (show nI L ≤ nI k by rw [← ek]; exact c9)
    refine lv_iconst (v := 0) hx hb dX0_cell_12 (by decide) ?_
    exact W.iret (v := 0) hx hb hr (fun t ht hW => ⟨_, rfl, (if_neg hge).symm, ht⟩) (fun _ h => by cases h) dX0_cell_13
  · have hlt : k < L := by
      rcases Nat.lt_or_ge k L with z | z
      · exact z
      · exact absurd (show nI L ≤ x by rw [ek]; exact nI_le z hk) c9
    refine lv_aload_n hx hb dX0_cell_6 rfl (lv_at hl 0 rfl) ?_
    refine lv_iload_n hx hb dX0_cell_7 rfl (lv_at hl 1 rfl) ?_
    refine va_sld hx hb hX hbl id hS (by rw [ek]; exact vp_in_nI hlt hL) dX0_cell_8 ?_
    refine lv_topi (fun z_1 ez_1 => ?_)
    have f9 : z_1 = nk_cell L xs k := by rw [ez_1, ek, nI_clamp hk]; exact (if_pos hlt).symm
    refine lv_goto (tgt := 13) hx hb dX0_cell_9 (by decide) ?_
    exact W.iret (v := z_1) hx hb hr (fun t ht hW => ⟨_, rfl, f9, ht⟩) (fun _ h => by cases h) dX0_cell_13
set_option maxHeartbeats 4000000 in
set_option maxRecDepth 100000 in
theorem metX0_with (l : Launch) (G : va_G) (cb cI : ClassId) (b0 L : Nat) (xs : Nat → Int32) (sz : Nat) : Met l yX0_with wsX0_with ({ frames := 2, cells := 4, slots := 67, locals := 48 }) (pcW [.ref b0] G cb cI [] sz (fun U => nk_X b0 L xs U U.heap)) (qcR (fun u : (Nat × Nat × Nat) × (Nat → Int32) × (Nat → Int32) × (Nat → Int32) => nk_wds u.2.1 = (nk_cell L xs 0, nk_cell L xs 1, nk_cell L xs 2, nk_cell L xs 3) ∧ nk_wds u.2.2.1 = (nk_cell L xs 8, nk_cell L xs 9, nk_cell L xs 10, nk_cell L xs 11)) G (fun u a => [(a, .inr (0, [.ref u.1.1, .ref u.1.2.1, .ref u.1.2.2])), (u.1.1, .inl (cb, 32, .inl u.2.1)), (u.1.2.1, .inl (cb, 16, .inl u.2.2.1)), (u.1.2.2, .inl (cb, 16, .inl u.2.2.2))]) (va_A [] sz)) 4 67 (va_A [] sz) := by
  refine Met.ofW (cc := cX0_with) (maxL := 2) (ret := (some (.object "NoekeonDesk"))) (by decide) rfl ?_
  intro p e s m args below meth c s₁ B hml hv
  obtain ⟨rfl, hsz, hP, hK, hD0, hE⟩ := hv
  have hx := B.exec
  have hb := B.bytes
  have hr := B.returns
  have hts := atoms_spec (ws := wsX0_with) B.pre
  have hts : ∀ w ∈ lw_all, w.before _ s = true := fun w h => hts w (List.mem_cons_of_mem _ h)
  have hown : s.vm.findClass RX0 = some m.cls := findClass_of_methodNamed B.named
  have hlocks := B.notSynchronized
  subst hsz
  have hD := hD0.self (sz := s.heap.size)
  generalize hAe : va_A [] s.heap.size = A at hD ⊢
  have hE : nk_X b0 L xs s s.heap := hE
  have hA : ∀ q : Nat, s.heap.size ≤ q → A q := fun q h => by rw [← hAe]; exact Or.inr h
  have hS : va_S A s.heap s.heap [] := va_S.rf
  have hP : va_P G vwCl [] s.heap := hP
  have hl := lv_entry ([.ref b0]) (n := 2) (Nat.le_of_ble_eq_true rfl)
  rw [lg_entry_eq]
  generalize (lg_sl ([.ref b0]) ++ List.replicate (2 - (lg_sl ([.ref b0])).length) Slot.unset).toArray = ls at hl ⊢
  have hl : lv_has ls 2 [(0, .ref b0)] := hl
  have hbA : ¬ A b0 := by
    rw [← hAe]
    intro z
    rcases z with ⟨k9, e9, h9⟩ | h9
    · simp at h9
    · exact absurd hE.2.1 (by omega)
  refine va_new (ci := 0) (fs := [.null, .null, .null]) (C := RX1) (T := TX1) (N := 3) hx hb hts in_X1 tyX1 tyX1_ok hown (hts _ q253) (hts _ q27) (hts _ q5) hK hP hD hS hA rfl (fun j hj => by rcases (show j = 0 ∨ j = 1 ∨ j = 2 by omega) with rfl | rfl | rfl <;> rfl) (Nat.le_of_ble_eq_true rfl) (Nat.le_of_ble_eq_true rfl) dX0_with_0 (fun oo_1 H hP hD hS => ?_)
  have hP : va_P G vwCl [(oo_1, .inr (0, [.null, .null, .null]))] H := hP
  have hD : va_D A [(oo_1, .inr (0, [.null, .null, .null]))] := hD
  refine W.widen (k := 1) (n := 3) (by omega) (by omega) ?_
  refine lv_dup hx hb dX0_with_3 rfl ?_
  have hPc := hP.sub (ws' := [(oo_1, .inr (0, [.null, .null, .null]))]) [0] rfl
  have hDc := hD.sub (ws' := [(oo_1, .inr (0, [.null, .null, .null]))]) [0] (by decide) rfl
  have hFc := va_free (wc := [(oo_1, .inr (0, [.null, .null, .null]))]) hD hS hA [0] rfl
  refine call_v (va_runI (As := []) (rest := [.ref oo_1]) ⟨hx, hb, hml, hown, hts⟩ (metX1_init l G cb cI oo_1 _) (cwI 0 hts (lw_meth q256) rfl rfl rfl (hts _ q5) (hts _ q254) (hts _ q255) rfl (by decide +kernel) ⟨Nat.le_of_ble_eq_true rfl, Nat.le_of_ble_eq_true rfl⟩) (preW_S hPc hK hDc (tru_in)) rfl rfl hl.1 rfl (lv_room (Nat.le_of_ble_eq_true rfl)) dX0_with_4 ⟨Nat.le_of_ble_eq_true rfl, Nat.le_of_ble_eq_true rfl⟩) hP hD hS hFc [0] [] (wr := []) rfl rfl (by decide) (by decide) (fun ad_2 H locs huad_2 hP hD hS => ?_)
  have hP : va_P G vwCl [(oo_1, .inr (0, [.ref ad_2.1, .ref ad_2.2.1, .ref ad_2.2.2])), (ad_2.1, .inl (cb, 32, .inl (fun _ => 0))), (ad_2.2.1, .inl (cb, 16, .inl (fun _ => 0))), (ad_2.2.2, .inl (cb, 16, .inl (fun _ => 0)))] H := hP
  have hD : va_D A [(oo_1, .inr (0, [.ref ad_2.1, .ref ad_2.2.1, .ref ad_2.2.2])), (ad_2.1, .inl (cb, 32, .inl (fun _ => 0))), (ad_2.2.1, .inl (cb, 16, .inl (fun _ => 0))), (ad_2.2.2, .inl (cb, 16, .inl (fun _ => 0)))] := hD
  refine W.widen (k := 4) (n := 67) (by omega) (by omega) ?_
  refine lv_astore_n (lv' := [(1, .ref oo_1), (0, .ref b0)]) hx hb dX0_with_7 rfl hl (by decide) rfl (fun ls hl => ?_)
  refine lv_aload_n hx hb dX0_with_8 rfl (lv_at hl 0 rfl) ?_
  refine lv_iconst (v := 0) hx hb dX0_with_9 (by decide) ?_
  refine lv_aload_n hx hb dX0_with_10 rfl (lv_at hl 1 rfl) ?_
  refine lv_iconst (v := 0) hx hb dX0_with_11 (by decide) ?_
  have hPz := hP.sub (ws' := []) [] rfl
  refine vp_callSi (W.runS (As := [.ref b0, .int 0]) (rest := [.int 0, .ref oo_1]) ⟨hx, hb, hml, hown, hts⟩ (metX0_cell l G cb cI b0 L xs 0 0 (by decide) (by omega)) (va_cwS 2 hts (lw_S q268 q269 q4 q270) rfl rfl rfl (by decide +kernel) ⟨Nat.le_of_ble_eq_true rfl, Nat.le_of_ble_eq_true rfl⟩) (preR_S hPz hK (X_in hE hbA hS)) rfl rfl hl.1 rfl (lv_room (Nat.le_of_ble_eq_true rfl)) dX0_with_12 ⟨Nat.le_of_ble_eq_true rfl, Nat.le_of_ble_eq_true rfl⟩) (fun r_3 er_3 => ?_)
  refine lv_aload_n hx hb dX0_with_15 rfl (lv_at hl 1 rfl) ?_
  refine lv_iconst (v := 1) hx hb dX0_with_16 (by decide) ?_
  have hPz := hP.sub (ws' := []) [] rfl
  refine vp_callSi (W.runS (As := [.ref b0, .int 1]) (rest := [.int r_3, .int 0, .ref oo_1]) ⟨hx, hb, hml, hown, hts⟩ (metX0_cell l G cb cI b0 L xs 1 1 (by decide) (by omega)) (va_cwS 2 hts (lw_S q268 q269 q4 q270) rfl rfl rfl (by decide +kernel) ⟨Nat.le_of_ble_eq_true rfl, Nat.le_of_ble_eq_true rfl⟩) (preR_S hPz hK (X_in hE hbA hS)) rfl rfl hl.1 rfl (lv_room (Nat.le_of_ble_eq_true rfl)) dX0_with_17 ⟨Nat.le_of_ble_eq_true rfl, Nat.le_of_ble_eq_true rfl⟩) (fun r_4 er_4 => ?_)
  refine lv_aload_n hx hb dX0_with_20 rfl (lv_at hl 1 rfl) ?_
  refine lv_iconst (v := 2) hx hb dX0_with_21 (by decide) ?_
  have hPz := hP.sub (ws' := []) [] rfl
  refine vp_callSi (W.runS (As := [.ref b0, .int 2]) (rest := [.int r_4, .int r_3, .int 0, .ref oo_1]) ⟨hx, hb, hml, hown, hts⟩ (metX0_cell l G cb cI b0 L xs 2 2 (by decide) (by omega)) (va_cwS 2 hts (lw_S q268 q269 q4 q270) rfl rfl rfl (by decide +kernel) ⟨Nat.le_of_ble_eq_true rfl, Nat.le_of_ble_eq_true rfl⟩) (preR_S hPz hK (X_in hE hbA hS)) rfl rfl hl.1 rfl (lv_room (Nat.le_of_ble_eq_true rfl)) dX0_with_22 ⟨Nat.le_of_ble_eq_true rfl, Nat.le_of_ble_eq_true rfl⟩) (fun r_5 er_5 => ?_)
  refine lv_aload_n hx hb dX0_with_25 rfl (lv_at hl 1 rfl) ?_
  refine lv_iconst (v := 3) hx hb dX0_with_26 (by decide) ?_
  have hPz := hP.sub (ws' := []) [] rfl
  refine vp_callSi (W.runS (As := [.ref b0, .int 3]) (rest := [.int r_5, .int r_4, .int r_3, .int 0, .ref oo_1]) ⟨hx, hb, hml, hown, hts⟩ (metX0_cell l G cb cI b0 L xs 3 3 (by decide) (by omega)) (va_cwS 2 hts (lw_S q268 q269 q4 q270) rfl rfl rfl (by decide +kernel) ⟨Nat.le_of_ble_eq_true rfl, Nat.le_of_ble_eq_true rfl⟩) (preR_S hPz hK (X_in hE hbA hS)) rfl rfl hl.1 rfl (lv_room (Nat.le_of_ble_eq_true rfl)) dX0_with_27 ⟨Nat.le_of_ble_eq_true rfl, Nat.le_of_ble_eq_true rfl⟩) (fun r_6 er_6 => ?_)
  have hPc := hP.sub (ws' := [(oo_1, .inr (0, [.ref ad_2.1, .ref ad_2.2.1, .ref ad_2.2.2])), (ad_2.1, .inl (cb, 32, .inl (fun _ => 0)))]) [0, 1] rfl
  have hDc := hD.sub (ws' := [(oo_1, .inr (0, [.ref ad_2.1, .ref ad_2.2.1, .ref ad_2.2.2])), (ad_2.1, .inl (cb, 32, .inl (fun _ => 0)))]) [0, 1] (by decide) rfl
  have hFc := va_free (wc := [(oo_1, .inr (0, [.ref ad_2.1, .ref ad_2.2.1, .ref ad_2.2.2])), (ad_2.1, .inl (cb, 32, .inl (fun _ => 0)))]) hD hS hA [0, 1] rfl
  refine call_v (va_runV (As := [.int 0, .int r_3, .int r_4, .int r_5, .int r_6]) (rest := []) ⟨hx, hb, hml, hown, hts⟩ (metX1_key_0 l G cb cI oo_1 ad_2.1 ad_2.2.1 ad_2.2.2 (fun _ => 0) r_3 r_4 r_5 r_6 _) (cwV 5 hts (lw_V q271 q272 q273 q5 q274) rfl rfl rfl (by decide +kernel) ⟨Nat.le_of_ble_eq_true rfl, Nat.le_of_ble_eq_true rfl⟩) (preW_V (ci := 0) (q0 := 0) hPc hK hDc (tru_in) rfl rfl) rfl rfl hl.1 rfl (lv_room (Nat.le_of_ble_eq_true rfl)) dX0_with_30 ⟨Nat.le_of_ble_eq_true rfl, Nat.le_of_ble_eq_true rfl⟩) hP hD hS hFc [0, 1] [2, 3] (wr := [(ad_2.2.1, .inl (cb, 16, .inl (fun _ => 0))), (ad_2.2.2, .inl (cb, 16, .inl (fun _ => 0)))]) rfl rfl (by decide) (by decide) (fun fk_7 H locs hufk_7 hP hD hS => ?_)
  have hP : va_P G vwCl [(ad_2.2.1, .inl (cb, 16, .inl (fun _ => 0))), (ad_2.2.2, .inl (cb, 16, .inl (fun _ => 0))), (oo_1, .inr (0, [.ref ad_2.1, .ref ad_2.2.1, .ref ad_2.2.2])), (ad_2.1, .inl (cb, 32, .inl fk_7))] H := hP
  have hD : va_D A [(ad_2.2.1, .inl (cb, 16, .inl (fun _ => 0))), (ad_2.2.2, .inl (cb, 16, .inl (fun _ => 0))), (oo_1, .inr (0, [.ref ad_2.1, .ref ad_2.2.1, .ref ad_2.2.2])), (ad_2.1, .inl (cb, 32, .inl fk_7))] := hD
  refine W.widen (k := 4) (n := 67) (by omega) (by omega) ?_
  refine lv_aload_n hx hb dX0_with_33 rfl (lv_at hl 0 rfl) ?_
  refine lv_iconst (v := 1) hx hb dX0_with_34 (by decide) ?_
  refine lv_aload_n hx hb dX0_with_35 rfl (lv_at hl 1 rfl) ?_
  refine lv_iconst (v := 4) hx hb dX0_with_36 (by decide) ?_
  have hPz := hP.sub (ws' := []) [] rfl
  refine vp_callSi (W.runS (As := [.ref b0, .int 4]) (rest := [.int 1, .ref oo_1]) ⟨hx, hb, hml, hown, hts⟩ (metX0_cell l G cb cI b0 L xs 4 4 (by decide) (by omega)) (va_cwS 2 hts (lw_S q268 q269 q4 q270) rfl rfl rfl (by decide +kernel) ⟨Nat.le_of_ble_eq_true rfl, Nat.le_of_ble_eq_true rfl⟩) (preR_S hPz hK (X_in hE hbA hS)) rfl rfl hl.1 rfl (lv_room (Nat.le_of_ble_eq_true rfl)) dX0_with_37 ⟨Nat.le_of_ble_eq_true rfl, Nat.le_of_ble_eq_true rfl⟩) (fun r_8 er_8 => ?_)
  refine lv_aload_n hx hb dX0_with_40 rfl (lv_at hl 1 rfl) ?_
  refine lv_iconst (v := 5) hx hb dX0_with_41 (by decide) ?_
  have hPz := hP.sub (ws' := []) [] rfl
  refine vp_callSi (W.runS (As := [.ref b0, .int 5]) (rest := [.int r_8, .int 1, .ref oo_1]) ⟨hx, hb, hml, hown, hts⟩ (metX0_cell l G cb cI b0 L xs 5 5 (by decide) (by omega)) (va_cwS 2 hts (lw_S q268 q269 q4 q270) rfl rfl rfl (by decide +kernel) ⟨Nat.le_of_ble_eq_true rfl, Nat.le_of_ble_eq_true rfl⟩) (preR_S hPz hK (X_in hE hbA hS)) rfl rfl hl.1 rfl (lv_room (Nat.le_of_ble_eq_true rfl)) dX0_with_42 ⟨Nat.le_of_ble_eq_true rfl, Nat.le_of_ble_eq_true rfl⟩) (fun r_9 er_9 => ?_)
  refine lv_aload_n hx hb dX0_with_45 rfl (lv_at hl 1 rfl) ?_
  refine lv_bipush (v := 6) hx hb dX0_with_46 (by decide) ?_
  have hPz := hP.sub (ws' := []) [] rfl
  refine vp_callSi (W.runS (As := [.ref b0, .int 6]) (rest := [.int r_9, .int r_8, .int 1, .ref oo_1]) ⟨hx, hb, hml, hown, hts⟩ (metX0_cell l G cb cI b0 L xs 6 6 (by decide) (by omega)) (va_cwS 2 hts (lw_S q268 q269 q4 q270) rfl rfl rfl (by decide +kernel) ⟨Nat.le_of_ble_eq_true rfl, Nat.le_of_ble_eq_true rfl⟩) (preR_S hPz hK (X_in hE hbA hS)) rfl rfl hl.1 rfl (lv_room (Nat.le_of_ble_eq_true rfl)) dX0_with_48 ⟨Nat.le_of_ble_eq_true rfl, Nat.le_of_ble_eq_true rfl⟩) (fun r_10 er_10 => ?_)
  refine lv_aload_n hx hb dX0_with_51 rfl (lv_at hl 1 rfl) ?_
  refine lv_bipush (v := 7) hx hb dX0_with_52 (by decide) ?_
  have hPz := hP.sub (ws' := []) [] rfl
  refine vp_callSi (W.runS (As := [.ref b0, .int 7]) (rest := [.int r_10, .int r_9, .int r_8, .int 1, .ref oo_1]) ⟨hx, hb, hml, hown, hts⟩ (metX0_cell l G cb cI b0 L xs 7 7 (by decide) (by omega)) (va_cwS 2 hts (lw_S q268 q269 q4 q270) rfl rfl rfl (by decide +kernel) ⟨Nat.le_of_ble_eq_true rfl, Nat.le_of_ble_eq_true rfl⟩) (preR_S hPz hK (X_in hE hbA hS)) rfl rfl hl.1 rfl (lv_room (Nat.le_of_ble_eq_true rfl)) dX0_with_54 ⟨Nat.le_of_ble_eq_true rfl, Nat.le_of_ble_eq_true rfl⟩) (fun r_11 er_11 => ?_)
  have hPc := hP.sub (ws' := [(oo_1, .inr (0, [.ref ad_2.1, .ref ad_2.2.1, .ref ad_2.2.2])), (ad_2.1, .inl (cb, 32, .inl fk_7))]) [2, 3] rfl
  have hDc := hD.sub (ws' := [(oo_1, .inr (0, [.ref ad_2.1, .ref ad_2.2.1, .ref ad_2.2.2])), (ad_2.1, .inl (cb, 32, .inl fk_7))]) [2, 3] (by decide) rfl
  have hFc := va_free (wc := [(oo_1, .inr (0, [.ref ad_2.1, .ref ad_2.2.1, .ref ad_2.2.2])), (ad_2.1, .inl (cb, 32, .inl fk_7))]) hD hS hA [2, 3] rfl
  refine call_v (va_runV (As := [.int 1, .int r_8, .int r_9, .int r_10, .int r_11]) (rest := []) ⟨hx, hb, hml, hown, hts⟩ (metX1_key_1 l G cb cI oo_1 ad_2.1 ad_2.2.1 ad_2.2.2 fk_7 r_8 r_9 r_10 r_11 _) (cwV 5 hts (lw_V q271 q272 q273 q5 q274) rfl rfl rfl (by decide +kernel) ⟨Nat.le_of_ble_eq_true rfl, Nat.le_of_ble_eq_true rfl⟩) (preW_V (ci := 0) (q0 := 0) hPc hK hDc (tru_in) rfl rfl) rfl rfl hl.1 rfl (lv_room (Nat.le_of_ble_eq_true rfl)) dX0_with_57 ⟨Nat.le_of_ble_eq_true rfl, Nat.le_of_ble_eq_true rfl⟩) hP hD hS hFc [2, 3] [0, 1] (wr := [(ad_2.2.1, .inl (cb, 16, .inl (fun _ => 0))), (ad_2.2.2, .inl (cb, 16, .inl (fun _ => 0)))]) rfl rfl (by decide) (by decide) (fun fk_12 H locs hufk_12 hP hD hS => ?_)
  have hP : va_P G vwCl [(ad_2.2.1, .inl (cb, 16, .inl (fun _ => 0))), (ad_2.2.2, .inl (cb, 16, .inl (fun _ => 0))), (oo_1, .inr (0, [.ref ad_2.1, .ref ad_2.2.1, .ref ad_2.2.2])), (ad_2.1, .inl (cb, 32, .inl fk_12))] H := hP
  have hD : va_D A [(ad_2.2.1, .inl (cb, 16, .inl (fun _ => 0))), (ad_2.2.2, .inl (cb, 16, .inl (fun _ => 0))), (oo_1, .inr (0, [.ref ad_2.1, .ref ad_2.2.1, .ref ad_2.2.2])), (ad_2.1, .inl (cb, 32, .inl fk_12))] := hD
  refine W.widen (k := 4) (n := 67) (by omega) (by omega) ?_
  refine lv_aload_n hx hb dX0_with_60 rfl (lv_at hl 0 rfl) ?_
  refine lv_aload_n hx hb dX0_with_61 rfl (lv_at hl 1 rfl) ?_
  refine lv_bipush (v := 8) hx hb dX0_with_62 (by decide) ?_
  have hPz := hP.sub (ws' := []) [] rfl
  refine vp_callSi (W.runS (As := [.ref b0, .int 8]) (rest := [.ref oo_1]) ⟨hx, hb, hml, hown, hts⟩ (metX0_cell l G cb cI b0 L xs 8 8 (by decide) (by omega)) (va_cwS 2 hts (lw_S q268 q269 q4 q270) rfl rfl rfl (by decide +kernel) ⟨Nat.le_of_ble_eq_true rfl, Nat.le_of_ble_eq_true rfl⟩) (preR_S hPz hK (X_in hE hbA hS)) rfl rfl hl.1 rfl (lv_room (Nat.le_of_ble_eq_true rfl)) dX0_with_64 ⟨Nat.le_of_ble_eq_true rfl, Nat.le_of_ble_eq_true rfl⟩) (fun r_13 er_13 => ?_)
  refine lv_aload_n hx hb dX0_with_67 rfl (lv_at hl 1 rfl) ?_
  refine lv_bipush (v := 9) hx hb dX0_with_68 (by decide) ?_
  have hPz := hP.sub (ws' := []) [] rfl
  refine vp_callSi (W.runS (As := [.ref b0, .int 9]) (rest := [.int r_13, .ref oo_1]) ⟨hx, hb, hml, hown, hts⟩ (metX0_cell l G cb cI b0 L xs 9 9 (by decide) (by omega)) (va_cwS 2 hts (lw_S q268 q269 q4 q270) rfl rfl rfl (by decide +kernel) ⟨Nat.le_of_ble_eq_true rfl, Nat.le_of_ble_eq_true rfl⟩) (preR_S hPz hK (X_in hE hbA hS)) rfl rfl hl.1 rfl (lv_room (Nat.le_of_ble_eq_true rfl)) dX0_with_70 ⟨Nat.le_of_ble_eq_true rfl, Nat.le_of_ble_eq_true rfl⟩) (fun r_14 er_14 => ?_)
  refine lv_aload_n hx hb dX0_with_73 rfl (lv_at hl 1 rfl) ?_
  refine lv_bipush (v := 10) hx hb dX0_with_74 (by decide) ?_
  have hPz := hP.sub (ws' := []) [] rfl
  refine vp_callSi (W.runS (As := [.ref b0, .int 10]) (rest := [.int r_14, .int r_13, .ref oo_1]) ⟨hx, hb, hml, hown, hts⟩ (metX0_cell l G cb cI b0 L xs 10 10 (by decide) (by omega)) (va_cwS 2 hts (lw_S q268 q269 q4 q270) rfl rfl rfl (by decide +kernel) ⟨Nat.le_of_ble_eq_true rfl, Nat.le_of_ble_eq_true rfl⟩) (preR_S hPz hK (X_in hE hbA hS)) rfl rfl hl.1 rfl (lv_room (Nat.le_of_ble_eq_true rfl)) dX0_with_76 ⟨Nat.le_of_ble_eq_true rfl, Nat.le_of_ble_eq_true rfl⟩) (fun r_15 er_15 => ?_)
  refine lv_aload_n hx hb dX0_with_79 rfl (lv_at hl 1 rfl) ?_
  refine lv_bipush (v := 11) hx hb dX0_with_80 (by decide) ?_
  have hPz := hP.sub (ws' := []) [] rfl
  refine vp_callSi (W.runS (As := [.ref b0, .int 11]) (rest := [.int r_15, .int r_14, .int r_13, .ref oo_1]) ⟨hx, hb, hml, hown, hts⟩ (metX0_cell l G cb cI b0 L xs 11 11 (by decide) (by omega)) (va_cwS 2 hts (lw_S q268 q269 q4 q270) rfl rfl rfl (by decide +kernel) ⟨Nat.le_of_ble_eq_true rfl, Nat.le_of_ble_eq_true rfl⟩) (preR_S hPz hK (X_in hE hbA hS)) rfl rfl hl.1 rfl (lv_room (Nat.le_of_ble_eq_true rfl)) dX0_with_82 ⟨Nat.le_of_ble_eq_true rfl, Nat.le_of_ble_eq_true rfl⟩) (fun r_16 er_16 => ?_)
  have hPc := hP.sub (ws' := [(oo_1, .inr (0, [.ref ad_2.1, .ref ad_2.2.1, .ref ad_2.2.2])), (ad_2.2.1, .inl (cb, 16, .inl (fun _ => 0)))]) [2, 0] rfl
  have hDc := hD.sub (ws' := [(oo_1, .inr (0, [.ref ad_2.1, .ref ad_2.2.1, .ref ad_2.2.2])), (ad_2.2.1, .inl (cb, 16, .inl (fun _ => 0)))]) [2, 0] (by decide) rfl
  have hFc := va_free (wc := [(oo_1, .inr (0, [.ref ad_2.1, .ref ad_2.2.1, .ref ad_2.2.2])), (ad_2.2.1, .inl (cb, 16, .inl (fun _ => 0)))]) hD hS hA [2, 0] rfl
  refine call_v (va_runV (As := [.int r_13, .int r_14, .int r_15, .int r_16]) (rest := []) ⟨hx, hb, hml, hown, hts⟩ (metX1_block l G cb cI oo_1 ad_2.1 ad_2.2.1 ad_2.2.2 (fun _ => 0) r_13 r_14 r_15 r_16 _) (cwV 4 hts (lw_V q278 q279 q280 q5 q281) rfl rfl rfl (by decide +kernel) ⟨Nat.le_of_ble_eq_true rfl, Nat.le_of_ble_eq_true rfl⟩) (preW_V (ci := 0) (q0 := 0) hPc hK hDc (tru_in) rfl rfl) rfl rfl hl.1 rfl (lv_room (Nat.le_of_ble_eq_true rfl)) dX0_with_85 ⟨Nat.le_of_ble_eq_true rfl, Nat.le_of_ble_eq_true rfl⟩) hP hD hS hFc [2, 0] [1, 3] (wr := [(ad_2.2.2, .inl (cb, 16, .inl (fun _ => 0))), (ad_2.1, .inl (cb, 32, .inl fk_12))]) rfl rfl (by decide) (by decide) (fun fb_17 H locs hufb_17 hP hD hS => ?_)
  have hP : va_P G vwCl [(ad_2.2.2, .inl (cb, 16, .inl (fun _ => 0))), (ad_2.1, .inl (cb, 32, .inl fk_12)), (oo_1, .inr (0, [.ref ad_2.1, .ref ad_2.2.1, .ref ad_2.2.2])), (ad_2.2.1, .inl (cb, 16, .inl fb_17))] H := hP
  have hD : va_D A [(ad_2.2.2, .inl (cb, 16, .inl (fun _ => 0))), (ad_2.1, .inl (cb, 32, .inl fk_12)), (oo_1, .inr (0, [.ref ad_2.1, .ref ad_2.2.1, .ref ad_2.2.2])), (ad_2.2.1, .inl (cb, 16, .inl fb_17))] := hD
  refine W.widen (k := 4) (n := 67) (by omega) (by omega) ?_
  refine lv_aload_n hx hb dX0_with_88 rfl (lv_at hl 0 rfl) ?_
  have hP := hP.sub (ws' := [(oo_1, .inr (0, [.ref ad_2.1, .ref ad_2.2.1, .ref ad_2.2.2])), (ad_2.1, .inl (cb, 32, .inl fk_12)), (ad_2.2.1, .inl (cb, 16, .inl fb_17)), (ad_2.2.2, .inl (cb, 16, .inl (fun _ => 0)))]) [2, 1, 3, 0] rfl
  have hD := hD.sub (ws' := [(oo_1, .inr (0, [.ref ad_2.1, .ref ad_2.2.1, .ref ad_2.2.2])), (ad_2.1, .inl (cb, 32, .inl fk_12)), (ad_2.2.1, .inl (cb, 16, .inl fb_17)), (ad_2.2.2, .inl (cb, 16, .inl (fun _ => 0)))]) [2, 1, 3, 0] (by decide) rfl
  have h1 : nk_wds fk_12 = (nk_cell L xs 0, nk_cell L xs 1, nk_cell L xs 2, nk_cell L xs 3) := by rw [hufk_12, hufk_7, er_3, er_4, er_5, er_6]
  have h2 : nk_wds fb_17 = (nk_cell L xs 8, nk_cell L xs 9, nk_cell L xs 10, nk_cell L xs 11) := by rw [hufb_17, er_13, er_14, er_15, er_16]
  exact W.aret (v := .ref oo_1) hx hb hr (Or.inl ⟨_, rfl⟩) (Or.inr ⟨_, rfl⟩) (fun t ht hW => ⟨⟨((ad_2.1, ad_2.2.1, ad_2.2.2), fk_12, fb_17, fun _ => 0), oo_1, rfl, ⟨h1, h2⟩, by rw [ht]; exact hP, hD⟩, hS.F ht⟩) hS.2.2 dX0_with_89
theorem sm_c : ∀ i, i < 16 → (8 : Int32) + nI i / 4 = nI (8 + i / 4) := by decide +kernel
theorem sm_s : ∀ i, i < 16 → (24 : Int32) - 8 * (nI i - nI i / 4 * 4) = nI (24 - 8 * (i % 4)) := by decide +kernel
theorem gt_4 (f : Nat → Int32) (q : Nat) (a b c d : Int32) (h : nk_wds f = (a, b, c, d)) : nk_gt (nk_wds f) q = nk_gt (a, b, c, d) q := by rw [h]
theorem gt_cell (L : Nat) (xs : Nat → Int32) : ∀ q, q < 4 → nk_gt (nk_cell L xs 8, nk_cell L xs 9, nk_cell L xs 10, nk_cell L xs 11) q = nk_cell L xs (8 + q)
  | 0, _ => rfl
  | 1, _ => rfl
  | 2, _ => rfl
  | 3, _ => rfl
  | q + 4, h => absurd h (by omega)
set_option maxHeartbeats 4000000 in
set_option maxRecDepth 100000 in
theorem loopX0_same {p : Program} {l : Launch} {e : Env} {s : State} {m : MethodId} {below : List Frame} {meth : Method} {c : Code} {sarg : Array Value} {G : va_G} {cb cI : ClassId} {oo kq bq uq b0 L : Nat} {xs fo : Nat → Int32} (hfo : nk_wds fo = (nk_cell L xs 8, nk_cell L xs 9, nk_cell L xs 10, nk_cell L xs 11)) (hx : p.tables.exec = Jvm.exec) (hb : c.code = cX0_same) (hr : meth.sig.returnType = some .boolean) (hlocks : meth.locks = false) (hml : c.maxLocals = 3) (hown : s.vm.findClass RX0 = some m.cls) (hts : ∀ w ∈ lw_all, w.before sarg s = true) (hK : va_K G vwCl [(cb, .byte), (cI, .int)] s) (hE : nk_X b0 L xs s s.heap) (hP : va_P G vwCl [(oo, .inr (0, [.ref kq, .ref bq, .ref uq])), (uq, .inl (cb, 16, .inl fo))] s.heap) :
    ∀ (n i : Nat) (x2 : Int32), i ≤ 16 → 17 ≤ i + n → x2 = nI i → ∀ (ls : Array Slot), lv_has ls 3 [(0, .ref oo), (1, .ref b0), (2, .int x2)] → W p l e (headSpec wsX0_same ({ frames := 1, cells := 0, slots := 0, locals := 21 })).room s m sarg below meth c s.heap [] 0 0 (MQ below (vp_Si (fun r => r = 1)) sarg s 0 0 (fun _ => False)) (F0 m 2 ls []) := by
  have hS : va_S (fun _ => False) s.heap s.heap [] := va_S.rf
  have hbA : ¬ (fun _ : Nat => False) b0 := id
  intro n
  induction n with
  | zero =>
    intro i x2 h1 h2
    exact absurd h2 (by omega)
  | succ n ih =>
    intro i x2 hi hin e2 ls hl
    refine lv_iload_n hx hb dX0_same_2 rfl (lv_at hl 2 rfl) ?_
    refine lv_bipush (v := 16) hx hb dX0_same_3 (by decide) ?_
    refine lv_icmp_ge (tgt := 48) hx hb dX0_same_5 (by decide) (fun c9 => ?_) (fun c9 => ?_)
    · have h16 : i = 16 := by
        rcases Nat.lt_or_ge i 16 with z | z
        · exact absurd (show nI 16 ≤ nI i by rw [← e2]; exact c9) (nI_ge z (by omega))
        · omega
      subst h16
      refine lv_iconst (v := 1) hx hb dX0_same_48 (by decide) ?_
      exact W.zret (v := 1) hx hb hr rfl (fun t ht hW => ⟨_, rfl, rfl, ht⟩) (fun _ h => by cases h) dX0_same_49
    · have hlt : i < 16 := by
        rcases Nat.lt_or_ge i 16 with z | z
        · exact z
        · exact absurd (show nI 16 ≤ x2 by rw [e2]; exact nI_le z (by omega)) c9
      refine lv_aload_n hx hb dX0_same_8 rfl (lv_at hl 0 rfl) ?_
      refine lv_iload_n hx hb dX0_same_9 rfl (lv_at hl 2 rfl) ?_
      have hPc := hP.sub (ws' := [(oo, .inr (0, [.ref kq, .ref bq, .ref uq])), (uq, .inl (cb, 16, .inl fo))]) [0, 1] rfl
      refine vp_callSi (W.runV (As := [.int x2]) (rest := []) ⟨hx, hb, hml, hown, hts⟩ (metX1_out l G cb cI oo kq bq uq fo x2 i e2 hlt) (cwV 1 hts (lw_V q285 q286 q287 q5 q288) rfl rfl rfl (by decide +kernel) ⟨Nat.le_of_ble_eq_true rfl, Nat.le_of_ble_eq_true rfl⟩) (preR_V (ci := 0) (q0 := 0) hPc hK tru_in rfl rfl) rfl rfl hl.1 rfl (lv_room (Nat.le_of_ble_eq_true rfl)) dX0_same_10 ⟨Nat.le_of_ble_eq_true rfl, Nat.le_of_ble_eq_true rfl⟩) (fun r_1 er_1 => ?_)
      refine lv_aload_n hx hb dX0_same_13 rfl (lv_at hl 1 rfl) ?_
      refine lv_bipush (v := 8) hx hb dX0_same_14 (by decide) ?_
      refine lv_iload_n hx hb dX0_same_16 rfl (lv_at hl 2 rfl) ?_
      refine lv_iconst (v := 4) hx hb dX0_same_17 (by decide) ?_
      refine lv_idiv hx hb dX0_same_18 (by decide) ?_
      refine lv_iadd hx hb dX0_same_19 ?_
      have hPz := hP.sub (ws' := []) [] rfl
      refine vp_callSi (W.runS (As := [.ref b0, .int (8 + (x2 / 4))]) (rest := [.int r_1]) ⟨hx, hb, hml, hown, hts⟩ (metX0_cell l G cb cI b0 L xs (8 + (x2 / 4)) (8 + i / 4) (by rw [e2]; exact sm_c i hlt) (by omega)) (va_cwS 2 hts (lw_S q268 q269 q4 q270) rfl rfl rfl (by decide +kernel) ⟨Nat.le_of_ble_eq_true rfl, Nat.le_of_ble_eq_true rfl⟩) (preR_S hPz hK (X_in hE hbA hS)) rfl rfl hl.1 rfl (lv_room (Nat.le_of_ble_eq_true rfl)) dX0_same_20 ⟨Nat.le_of_ble_eq_true rfl, Nat.le_of_ble_eq_true rfl⟩) (fun r_2 er_2 => ?_)
      refine lv_bipush (v := 24) hx hb dX0_same_23 (by decide) ?_
      refine lv_bipush (v := 8) hx hb dX0_same_25 (by decide) ?_
      refine lv_iload_n hx hb dX0_same_27 rfl (lv_at hl 2 rfl) ?_
      refine lv_iconst (v := 4) hx hb dX0_same_28 (by decide) ?_
      refine lv_irem hx hb dX0_same_29 (by decide) ?_
      refine lv_imul hx hb dX0_same_30 ?_
      refine lv_isub hx hb dX0_same_31 ?_
      refine lv_iushr (v := (nk_ushr r_2 (24 - (8 * (x2 - x2 / 4 * 4))))) hx hb dX0_same_32 rfl ?_
      refine lv_sipush (v := 255) hx hb dX0_same_33 (by decide) ?_
      refine lv_iand hx hb dX0_same_36 ?_
      have heq : r_1 = ((nk_ushr r_2 (24 - (8 * (x2 - x2 / 4 * 4)))) &&& 255) := by
        rw [er_1, er_2, e2, sm_s i hlt, byte_of fo i hlt, gt_4 fo (i / 4) _ _ _ _ hfo, gt_cell L xs (i / 4) (by omega)]
      refine lv_icmp_eq (tgt := 42) hx hb dX0_same_37 (by decide) (fun c9 => ?_) (fun c9 => absurd heq c9)
      obtain ⟨x2_3, ex2_3⟩ : ∃ y : Int32, y = x2 + Int32.ofInt 1 := ⟨_, rfl⟩
      refine lv_iinc (v := x2_3) (lv' := [(2, .int x2_3), (0, .ref oo), (1, .ref b0)]) hx hb dX0_same_42 hl (k := 2) rfl ex2_3.symm (by decide) rfl (fun ls hl => ?_)
      refine lv_goto (tgt := 2) hx hb dX0_same_45 (by decide) ?_
      exact ih (i + 1) x2_3 hlt (by omega) (by rw [ex2_3, e2, nI_i1]) ls (lv_sub hl [1, 2, 0] rfl)
set_option maxHeartbeats 4000000 in
set_option maxRecDepth 100000 in
theorem metX0_same (l : Launch) (G : va_G) (cb cI : ClassId) (oo kq bq uq b0 L : Nat) (xs fo : Nat → Int32) (hfo : nk_wds fo = (nk_cell L xs 8, nk_cell L xs 9, nk_cell L xs 10, nk_cell L xs 11)) : Met l yX0_same wsX0_same ({ frames := 1, cells := 0, slots := 0, locals := 21 }) (pcR [.ref oo, .ref b0] G cb cI [(oo, .inr (0, [.ref kq, .ref bq, .ref uq])), (uq, .inl (cb, 16, .inl fo))] (fun U => nk_X b0 L xs U U.heap)) (vp_Si (fun r => r = 1)) 0 0 (fun _ => False) := by
  refine Met.ofW (cc := cX0_same) (maxL := 3) (ret := (some .boolean)) (by decide) rfl ?_
  intro p e s m args below meth c s₁ B hml hv
  obtain ⟨rfl, hP, hK, hE⟩ := hv
  have hx := B.exec
  have hb := B.bytes
  have hr := B.returns
  have hts := atoms_spec (ws := wsX0_same) B.pre
  have hts : ∀ w ∈ lw_all, w.before _ s = true := fun w h => hts w (List.mem_cons_of_mem _ h)
  have hown : s.vm.findClass RX0 = some m.cls := findClass_of_methodNamed B.named
  have hlocks := B.notSynchronized
  have hl := lv_entry ([.ref oo, .ref b0]) (n := 3) (Nat.le_of_ble_eq_true rfl)
  rw [lg_entry_eq]
  generalize (lg_sl ([.ref oo, .ref b0]) ++ List.replicate (3 - (lg_sl ([.ref oo, .ref b0])).length) Slot.unset).toArray = ls at hl ⊢
  have hl : lv_has ls 3 [(0, .ref oo), (1, .ref b0)] := hl
  refine lv_iconst (v := 0) hx hb dX0_same_0 (by decide) ?_
  refine lv_istore_n (lv' := [(2, .int 0), (0, .ref oo), (1, .ref b0)]) hx hb dX0_same_1 rfl hl (by decide) rfl (fun ls hl => ?_)
  exact loopX0_same hfo hx hb hr hlocks hml hown hts hK hE hP 17 0 0 (by omega) (by omega) nI_0.symm ls (lv_sub hl [1, 2, 0] rfl)
end
section
theorem tab0 : ∀ j, j < 16 → (upd (upd (upd (upd (upd (upd (upd (upd (upd (upd (upd (upd (upd (upd (upd (upd (fun _ => 0) (0) 177) (1) 101) (2) 104) (3) 81) (4) 105) (5) 158) (6) 41) (7) 250) (8) 36) (9) 183) (10) 1) (11) 72) (12) 80) (13) 61) (14) 45) (15) 252) j = ko0 j := by
  intro j hj
  rcases (show j = 0 ∨ j = 1 ∨ j = 2 ∨ j = 3 ∨ j = 4 ∨ j = 5 ∨ j = 6 ∨ j = 7 ∨ j = 8 ∨ j = 9 ∨ j = 10 ∨ j = 11 ∨ j = 12 ∨ j = 13 ∨ j = 14 ∨ j = 15 by omega) with rfl | rfl | rfl | rfl | rfl | rfl | rfl | rfl | rfl | rfl | rfl | rfl | rfl | rfl | rfl | rfl <;> rfl
theorem tab1 : ∀ j, j < 16 → (upd (upd (upd (upd (upd (upd (upd (upd (upd (upd (upd (upd (upd (upd (upd (upd (fun _ => 0) (0) 42) (1) 120) (2) 66) (3) 27) (4) 135) (5) 199) (6) 208) (7) 146) (8) 79) (9) 38) (10) 17) (11) 63) (12) 29) (13) 19) (14) 73) (15) 178) j = ko1 j := by
  intro j hj
  rcases (show j = 0 ∨ j = 1 ∨ j = 2 ∨ j = 3 ∨ j = 4 ∨ j = 5 ∨ j = 6 ∨ j = 7 ∨ j = 8 ∨ j = 9 ∨ j = 10 ∨ j = 11 ∨ j = 12 ∨ j = 13 ∨ j = 14 ∨ j = 15 by omega) with rfl | rfl | rfl | rfl | rfl | rfl | rfl | rfl | rfl | rfl | rfl | rfl | rfl | rfl | rfl | rfl <;> rfl
theorem tab2 : ∀ j, j < 16 → (upd (upd (upd (upd (upd (upd (upd (upd (upd (upd (upd (upd (upd (upd (upd (upd (fun _ => 0) (0) 226) (1) 246) (2) 135) (3) 224) (4) 123) (5) 117) (6) 102) (7) 15) (8) 252) (9) 55) (10) 34) (11) 51) (12) 188) (13) 71) (14) 83) (15) 44) j = ko2 j := by
  intro j hj
  rcases (show j = 0 ∨ j = 1 ∨ j = 2 ∨ j = 3 ∨ j = 4 ∨ j = 5 ∨ j = 6 ∨ j = 7 ∨ j = 8 ∨ j = 9 ∨ j = 10 ∨ j = 11 ∨ j = 12 ∨ j = 13 ∨ j = 14 ∨ j = 15 by omega) with rfl | rfl | rfl | rfl | rfl | rfl | rfl | rfl | rfl | rfl | rfl | rfl | rfl | rfl | rfl | rfl <;> rfl
set_option maxHeartbeats 4000000 in
set_option maxRecDepth 100000 in
theorem loopX0_known_0 {p : Program} {l : Launch} {e : Env} {R : Room} {s : State} {m : MethodId} {below : List Frame} {meth : Method} {c : Code} {sarg : Array Value} {H : Heap} {locs : List Loc} {cells slots : Nat} {Q : State → Prop} {G : va_G} {cb cI : ClassId} {oo kq bq uq tq : Nat} {fo tf : Nat → Int32} (hf : ∀ j, j < 16 → fo j &&& 255 = tf j) (hx : p.tables.exec = Jvm.exec) (hb : c.code = cX0_known) (hml : c.maxLocals = 7) (hown : s.vm.findClass RX0 = some m.cls) (hts : ∀ w ∈ lw_all, w.before sarg s = true) (hK : va_K G vwCl [(cb, .byte), (cI, .int)] s) (hP : va_P G vwCl [(oo, .inr (0, [.ref kq, .ref bq, .ref uq])), (uq, .inl (cb, 16, .inl fo)), (tq, .inl (cI, 16, .inl tf))] H) (hR1 : 1 ≤ R.frames) (hR2 : 21 ≤ R.locals) (hR3 : cells ≤ R.cells) (hR4 : slots ≤ R.slots)
    (kk : ∀ (ls : Array Slot), lv_has ls 7 [] → W p l e R s m sarg below meth c H locs cells slots Q (F0 m 165 ls [])) :
    ∀ (n i : Nat) (xc : Int32), i ≤ 16 → 17 ≤ i + n → xc = nI i → ∀ (ls : Array Slot), lv_has ls 7 [(0, .ref oo), (1, .ref tq), (2, .int xc)] → W p l e R s m sarg below meth c H locs cells slots Q (F0 m 140 ls []) := by
  intro n
  induction n with
  | zero =>
    intro i xc h1 h2
    exact absurd h2 (by omega)
  | succ n ih =>
    intro i xc hi hin e2 ls hl
    refine lv_iload_n hx hb dX0_known_140 rfl (lv_at hl 2 rfl) ?_
    refine lv_bipush (v := 16) hx hb dX0_known_141 (by decide) ?_
    refine lv_icmp_ge (tgt := 165) hx hb dX0_known_143 (by decide) (fun c9 => ?_) (fun c9 => ?_)
    · have h16 : i = 16 := by
        rcases Nat.lt_or_ge i 16 with z | z
        · exact absurd (show nI 16 ≤ nI i by rw [← e2]; exact c9) (nI_ge z (by omega))
        · omega
      subst h16
      exact kk ls (lv_sub hl [] rfl)
    · have hlt : i < 16 := by
        rcases Nat.lt_or_ge i 16 with z | z
        · exact z
        · exact absurd (show nI 16 ≤ xc by rw [e2]; exact nI_le z (by omega)) c9
      refine lv_aload_n hx hb dX0_known_146 rfl (lv_at hl 0 rfl) ?_
      refine lv_iload_n hx hb dX0_known_147 rfl (lv_at hl 2 rfl) ?_
      have hPc := hP.sub (ws' := [(oo, .inr (0, [.ref kq, .ref bq, .ref uq])), (uq, .inl (cb, 16, .inl fo))]) [0, 1] rfl
      refine vp_callSi (W.runV (As := [.int xc]) (rest := []) ⟨hx, hb, hml, hown, hts⟩ (metX1_out l G cb cI oo kq bq uq fo xc i e2 hlt) (cwV 1 hts (lw_V q285 q286 q287 q5 q288) rfl rfl rfl (by decide +kernel) ⟨hR1, hR2⟩) (preR_V (ci := 0) (q0 := 0) hPc hK tru_in rfl rfl) rfl rfl hl.1 rfl (lv_room (Nat.le_of_ble_eq_true rfl)) dX0_known_148 ⟨hR3, hR4⟩) (fun r_1 er_1 => ?_)
      refine lv_aload_n hx hb dX0_known_151 rfl (lv_at hl 1 rfl) ?_
      refine lv_iload_n hx hb dX0_known_152 rfl (lv_at hl 2 rfl) ?_
      refine va_iald hx hb hK hP 2 1 rfl rfl (by rw [e2]; exact vp_in_nI hlt (by omega)) dX0_known_153 ?_
      refine lv_topi (fun z_2 ez_2 => ?_)
      have heq : r_1 = z_2 := by rw [er_1, hf i hlt, ez_2, e2, nI_clamp (by omega)]
      refine lv_icmp_eq (tgt := 159) hx hb dX0_known_154 (by decide) (fun c9 => ?_) (fun c9 => absurd heq c9)
      obtain ⟨x2_3, ex2_3⟩ : ∃ y : Int32, y = xc + Int32.ofInt 1 := ⟨_, rfl⟩
      refine lv_iinc (v := x2_3) (lv' := [(2, .int x2_3), (0, .ref oo), (1, .ref tq)]) hx hb dX0_known_159 hl (k := 2) rfl ex2_3.symm (by decide) rfl (fun ls hl => ?_)
      refine lv_goto (tgt := 140) hx hb dX0_known_162 (by decide) ?_
      exact ih (i + 1) x2_3 hlt (by omega) (by rw [ex2_3, e2, nI_i1]) ls (lv_sub hl [1, 2, 0] rfl)
set_option maxHeartbeats 4000000 in
set_option maxRecDepth 100000 in
theorem loopX0_known_1 {p : Program} {l : Launch} {e : Env} {R : Room} {s : State} {m : MethodId} {below : List Frame} {meth : Method} {c : Code} {sarg : Array Value} {H : Heap} {locs : List Loc} {cells slots : Nat} {Q : State → Prop} {G : va_G} {cb cI : ClassId} {oo kq bq uq tq : Nat} {fo tf : Nat → Int32} (hf : ∀ j, j < 16 → fo j &&& 255 = tf j) (hx : p.tables.exec = Jvm.exec) (hb : c.code = cX0_known) (hml : c.maxLocals = 7) (hown : s.vm.findClass RX0 = some m.cls) (hts : ∀ w ∈ lw_all, w.before sarg s = true) (hK : va_K G vwCl [(cb, .byte), (cI, .int)] s) (hP : va_P G vwCl [(oo, .inr (0, [.ref kq, .ref bq, .ref uq])), (uq, .inl (cb, 16, .inl fo)), (tq, .inl (cI, 16, .inl tf))] H) (hR1 : 1 ≤ R.frames) (hR2 : 21 ≤ R.locals) (hR3 : cells ≤ R.cells) (hR4 : slots ≤ R.slots)
    (kk : ∀ (ls : Array Slot), lv_has ls 7 [] → W p l e R s m sarg below meth c H locs cells slots Q (F0 m 335 ls [])) :
    ∀ (n i : Nat) (xc : Int32), i ≤ 16 → 17 ≤ i + n → xc = nI i → ∀ (ls : Array Slot), lv_has ls 7 [(2, .ref oo), (3, .ref tq), (4, .int xc)] → W p l e R s m sarg below meth c H locs cells slots Q (F0 m 307 ls []) := by
  intro n
  induction n with
  | zero =>
    intro i xc h1 h2
    exact absurd h2 (by omega)
  | succ n ih =>
    intro i xc hi hin e2 ls hl
    refine lv_iload hx hb dX0_known_307 (lv_at hl 2 rfl) ?_
    refine lv_bipush (v := 16) hx hb dX0_known_309 (by decide) ?_
    refine lv_icmp_ge (tgt := 335) hx hb dX0_known_311 (by decide) (fun c9 => ?_) (fun c9 => ?_)
    · have h16 : i = 16 := by
        rcases Nat.lt_or_ge i 16 with z | z
        · exact absurd (show nI 16 ≤ nI i by rw [← e2]; exact c9) (nI_ge z (by omega))
        · omega
      subst h16
      exact kk ls (lv_sub hl [] rfl)
    · have hlt : i < 16 := by
        rcases Nat.lt_or_ge i 16 with z | z
        · exact z
        · exact absurd (show nI 16 ≤ xc by rw [e2]; exact nI_le z (by omega)) c9
      refine lv_aload_n hx hb dX0_known_314 rfl (lv_at hl 0 rfl) ?_
      refine lv_iload hx hb dX0_known_315 (lv_at hl 2 rfl) ?_
      have hPc := hP.sub (ws' := [(oo, .inr (0, [.ref kq, .ref bq, .ref uq])), (uq, .inl (cb, 16, .inl fo))]) [0, 1] rfl
      refine vp_callSi (W.runV (As := [.int xc]) (rest := []) ⟨hx, hb, hml, hown, hts⟩ (metX1_out l G cb cI oo kq bq uq fo xc i e2 hlt) (cwV 1 hts (lw_V q285 q286 q287 q5 q288) rfl rfl rfl (by decide +kernel) ⟨hR1, hR2⟩) (preR_V (ci := 0) (q0 := 0) hPc hK tru_in rfl rfl) rfl rfl hl.1 rfl (lv_room (Nat.le_of_ble_eq_true rfl)) dX0_known_317 ⟨hR3, hR4⟩) (fun r_1 er_1 => ?_)
      refine lv_aload_n hx hb dX0_known_320 rfl (lv_at hl 1 rfl) ?_
      refine lv_iload hx hb dX0_known_321 (lv_at hl 2 rfl) ?_
      refine va_iald hx hb hK hP 2 1 rfl rfl (by rw [e2]; exact vp_in_nI hlt (by omega)) dX0_known_323 ?_
      refine lv_topi (fun z_2 ez_2 => ?_)
      have heq : r_1 = z_2 := by rw [er_1, hf i hlt, ez_2, e2, nI_clamp (by omega)]
      refine lv_icmp_eq (tgt := 329) hx hb dX0_known_324 (by decide) (fun c9 => ?_) (fun c9 => absurd heq c9)
      obtain ⟨x4_3, ex4_3⟩ : ∃ y : Int32, y = xc + Int32.ofInt 1 := ⟨_, rfl⟩
      refine lv_iinc (v := x4_3) (lv' := [(4, .int x4_3), (2, .ref oo), (3, .ref tq)]) hx hb dX0_known_329 hl (k := 2) rfl ex4_3.symm (by decide) rfl (fun ls hl => ?_)
      refine lv_goto (tgt := 307) hx hb dX0_known_332 (by decide) ?_
      exact ih (i + 1) x4_3 hlt (by omega) (by rw [ex4_3, e2, nI_i1]) ls (lv_sub hl [1, 2, 0] rfl)
set_option maxHeartbeats 4000000 in
set_option maxRecDepth 100000 in
theorem loopX0_known_2 {p : Program} {l : Launch} {e : Env} {R : Room} {s : State} {m : MethodId} {below : List Frame} {meth : Method} {c : Code} {sarg : Array Value} {H : Heap} {locs : List Loc} {cells slots : Nat} {Q : State → Prop} {G : va_G} {cb cI : ClassId} {oo kq bq uq tq : Nat} {fo tf : Nat → Int32} (hf : ∀ j, j < 16 → fo j &&& 255 = tf j) (hx : p.tables.exec = Jvm.exec) (hb : c.code = cX0_known) (hml : c.maxLocals = 7) (hown : s.vm.findClass RX0 = some m.cls) (hts : ∀ w ∈ lw_all, w.before sarg s = true) (hK : va_K G vwCl [(cb, .byte), (cI, .int)] s) (hP : va_P G vwCl [(oo, .inr (0, [.ref kq, .ref bq, .ref uq])), (uq, .inl (cb, 16, .inl fo)), (tq, .inl (cI, 16, .inl tf))] H) (hR1 : 1 ≤ R.frames) (hR2 : 21 ≤ R.locals) (hR3 : cells ≤ R.cells) (hR4 : slots ≤ R.slots)
    (kk : ∀ (ls : Array Slot), lv_has ls 7 [] → W p l e R s m sarg below meth c H locs cells slots Q (F0 m 522 ls [])) :
    ∀ (n i : Nat) (xc : Int32), i ≤ 16 → 17 ≤ i + n → xc = nI i → ∀ (ls : Array Slot), lv_has ls 7 [(4, .ref oo), (5, .ref tq), (6, .int xc)] → W p l e R s m sarg below meth c H locs cells slots Q (F0 m 492 ls []) := by
  intro n
  induction n with
  | zero =>
    intro i xc h1 h2
    exact absurd h2 (by omega)
  | succ n ih =>
    intro i xc hi hin e2 ls hl
    refine lv_iload hx hb dX0_known_492 (lv_at hl 2 rfl) ?_
    refine lv_bipush (v := 16) hx hb dX0_known_494 (by decide) ?_
    refine lv_icmp_ge (tgt := 522) hx hb dX0_known_496 (by decide) (fun c9 => ?_) (fun c9 => ?_)
    · have h16 : i = 16 := by
        rcases Nat.lt_or_ge i 16 with z | z
        · exact absurd (show nI 16 ≤ nI i by rw [← e2]; exact c9) (nI_ge z (by omega))
        · omega
      subst h16
      exact kk ls (lv_sub hl [] rfl)
    · have hlt : i < 16 := by
        rcases Nat.lt_or_ge i 16 with z | z
        · exact z
        · exact absurd (show nI 16 ≤ xc by rw [e2]; exact nI_le z (by omega)) c9
      refine lv_aload hx hb dX0_known_499 (lv_at hl 0 rfl) ?_
      refine lv_iload hx hb dX0_known_501 (lv_at hl 2 rfl) ?_
      have hPc := hP.sub (ws' := [(oo, .inr (0, [.ref kq, .ref bq, .ref uq])), (uq, .inl (cb, 16, .inl fo))]) [0, 1] rfl
      refine vp_callSi (W.runV (As := [.int xc]) (rest := []) ⟨hx, hb, hml, hown, hts⟩ (metX1_out l G cb cI oo kq bq uq fo xc i e2 hlt) (cwV 1 hts (lw_V q285 q286 q287 q5 q288) rfl rfl rfl (by decide +kernel) ⟨hR1, hR2⟩) (preR_V (ci := 0) (q0 := 0) hPc hK tru_in rfl rfl) rfl rfl hl.1 rfl (lv_room (Nat.le_of_ble_eq_true rfl)) dX0_known_503 ⟨hR3, hR4⟩) (fun r_1 er_1 => ?_)
      refine lv_aload hx hb dX0_known_506 (lv_at hl 1 rfl) ?_
      refine lv_iload hx hb dX0_known_508 (lv_at hl 2 rfl) ?_
      refine va_iald hx hb hK hP 2 1 rfl rfl (by rw [e2]; exact vp_in_nI hlt (by omega)) dX0_known_510 ?_
      refine lv_topi (fun z_2 ez_2 => ?_)
      have heq : r_1 = z_2 := by rw [er_1, hf i hlt, ez_2, e2, nI_clamp (by omega)]
      refine lv_icmp_eq (tgt := 516) hx hb dX0_known_511 (by decide) (fun c9 => ?_) (fun c9 => absurd heq c9)
      obtain ⟨x6_3, ex6_3⟩ : ∃ y : Int32, y = xc + Int32.ofInt 1 := ⟨_, rfl⟩
      refine lv_iinc (v := x6_3) (lv' := [(6, .int x6_3), (4, .ref oo), (5, .ref tq)]) hx hb dX0_known_516 hl (k := 2) rfl ex6_3.symm (by decide) rfl (fun ls hl => ?_)
      refine lv_goto (tgt := 492) hx hb dX0_known_519 (by decide) ?_
      exact ih (i + 1) x6_3 hlt (by omega) (by rw [ex6_3, e2, nI_i1]) ls (lv_sub hl [1, 2, 0] rfl)
set_option maxHeartbeats 4000000 in
set_option maxRecDepth 100000 in
theorem metX0_known (l : Launch) (G : va_G) (cb cI : ClassId) (t : Nat) (sz : Nat) : Met l yX0_known wsX0_known ({ frames := 6, cells := 30, slots := 369, locals := 147 }) (pcW [] G cb cI [] sz (fun U => nk_ctx t (va_A [] sz) U U.heap)) (qcI (fun (r : Int32) (_ : Unit) => r = 1) G (fun _ => []) (va_A [] sz)) 30 369 (va_A [] sz) := by
  refine Met.ofW (cc := cX0_known) (maxL := 7) (ret := (some .boolean)) (by decide) rfl ?_
  intro p e s m args below meth c s₁ B hml hv
  obtain ⟨rfl, hsz, hP, hK, hD0, hE⟩ := hv
  have hx := B.exec
  have hb := B.bytes
  have hr := B.returns
  have hts := atoms_spec (ws := wsX0_known) B.pre
  have hts : ∀ w ∈ lw_all, w.before _ s = true := fun w h => hts w (List.mem_cons_of_mem _ h)
  have hown : s.vm.findClass RX0 = some m.cls := findClass_of_methodNamed B.named
  have hlocks := B.notSynchronized
  subst hsz
  have hD := hD0.self (sz := s.heap.size)
  generalize hAe : va_A [] s.heap.size = A at hD hE ⊢
  have hE : nk_ctx t A s s.heap := hE
  have hA : ∀ q : Nat, s.heap.size ≤ q → A q := fun q h => by rw [← hAe]; exact Or.inr h
  have hS : va_S A s.heap s.heap [] := va_S.rf
  have hP : va_P G vwCl [] s.heap := hP
  have hl := lv_entry ([]) (n := 7) (Nat.le_of_ble_eq_true rfl)
  rw [lg_entry_eq]
  generalize (lg_sl ([]) ++ List.replicate (7 - (lg_sl ([])).length) Slot.unset).toArray = ls at hl ⊢
  have hl : lv_has ls 7 [] := hl
  refine va_new (ci := 0) (fs := [.null, .null, .null]) (C := RX1) (T := TX1) (N := 3) hx hb hts in_X1 tyX1 tyX1_ok hown (hts _ q253) (hts _ q27) (hts _ q5) hK hP hD hS hA rfl (fun j hj => by rcases (show j = 0 ∨ j = 1 ∨ j = 2 by omega) with rfl | rfl | rfl <;> rfl) (Nat.le_of_ble_eq_true rfl) (Nat.le_of_ble_eq_true rfl) dX0_known_0 (fun oo_1 H hP hD hS => ?_)
  have hP : va_P G vwCl [(oo_1, .inr (0, [.null, .null, .null]))] H := hP
  have hD : va_D A [(oo_1, .inr (0, [.null, .null, .null]))] := hD
  refine W.widen (k := 1) (n := 3) (by omega) (by omega) ?_
  refine lv_dup hx hb dX0_known_3 rfl ?_
  have hPc := hP.sub (ws' := [(oo_1, .inr (0, [.null, .null, .null]))]) [0] rfl
  have hDc := hD.sub (ws' := [(oo_1, .inr (0, [.null, .null, .null]))]) [0] (by decide) rfl
  have hFc := va_free (wc := [(oo_1, .inr (0, [.null, .null, .null]))]) hD hS hA [0] rfl
  refine call_v (va_runI (As := []) (rest := [.ref oo_1]) ⟨hx, hb, hml, hown, hts⟩ (metX1_init l G cb cI oo_1 _) (cwI 0 hts (lw_meth q256) rfl rfl rfl (hts _ q5) (hts _ q254) (hts _ q255) rfl (by decide +kernel) ⟨Nat.le_of_ble_eq_true rfl, Nat.le_of_ble_eq_true rfl⟩) (preW_S hPc hK hDc (tru_in)) rfl rfl hl.1 rfl (lv_room (Nat.le_of_ble_eq_true rfl)) dX0_known_4 ⟨Nat.le_of_ble_eq_true rfl, Nat.le_of_ble_eq_true rfl⟩) hP hD hS hFc [0] [] (wr := []) rfl rfl (by decide) (by decide) (fun ad_2 H locs huad_2 hP hD hS => ?_)
  have hP : va_P G vwCl [(oo_1, .inr (0, [.ref ad_2.1, .ref ad_2.2.1, .ref ad_2.2.2])), (ad_2.1, .inl (cb, 32, .inl (fun _ => 0))), (ad_2.2.1, .inl (cb, 16, .inl (fun _ => 0))), (ad_2.2.2, .inl (cb, 16, .inl (fun _ => 0)))] H := hP
  have hD : va_D A [(oo_1, .inr (0, [.ref ad_2.1, .ref ad_2.2.1, .ref ad_2.2.2])), (ad_2.1, .inl (cb, 32, .inl (fun _ => 0))), (ad_2.2.1, .inl (cb, 16, .inl (fun _ => 0))), (ad_2.2.2, .inl (cb, 16, .inl (fun _ => 0)))] := hD
  refine W.widen (k := 4) (n := 67) (by omega) (by omega) ?_
  refine lv_astore_n (lv' := [(0, .ref oo_1)]) hx hb dX0_known_7 rfl hl (by decide) rfl (fun ls hl => ?_)
  refine lv_aload_n hx hb dX0_known_8 rfl (lv_at hl 0 rfl) ?_
  refine lv_iconst (v := 0) hx hb dX0_known_9 (by decide) ?_
  refine lv_iconst (v := 0) hx hb dX0_known_10 (by decide) ?_
  refine lv_iconst (v := 0) hx hb dX0_known_11 (by decide) ?_
  refine lv_iconst (v := 0) hx hb dX0_known_12 (by decide) ?_
  refine lv_iconst (v := 0) hx hb dX0_known_13 (by decide) ?_
  have hPc := hP.sub (ws' := [(oo_1, .inr (0, [.ref ad_2.1, .ref ad_2.2.1, .ref ad_2.2.2])), (ad_2.1, .inl (cb, 32, .inl (fun _ => 0)))]) [0, 1] rfl
  have hDc := hD.sub (ws' := [(oo_1, .inr (0, [.ref ad_2.1, .ref ad_2.2.1, .ref ad_2.2.2])), (ad_2.1, .inl (cb, 32, .inl (fun _ => 0)))]) [0, 1] (by decide) rfl
  have hFc := va_free (wc := [(oo_1, .inr (0, [.ref ad_2.1, .ref ad_2.2.1, .ref ad_2.2.2])), (ad_2.1, .inl (cb, 32, .inl (fun _ => 0)))]) hD hS hA [0, 1] rfl
  refine call_v (va_runV (As := [.int 0, .int 0, .int 0, .int 0, .int 0]) (rest := []) ⟨hx, hb, hml, hown, hts⟩ (metX1_key_0 l G cb cI oo_1 ad_2.1 ad_2.2.1 ad_2.2.2 (fun _ => 0) 0 0 0 0 _) (cwV 5 hts (lw_V q271 q272 q273 q5 q274) rfl rfl rfl (by decide +kernel) ⟨Nat.le_of_ble_eq_true rfl, Nat.le_of_ble_eq_true rfl⟩) (preW_V (ci := 0) (q0 := 0) hPc hK hDc (tru_in) rfl rfl) rfl rfl hl.1 rfl (lv_room (Nat.le_of_ble_eq_true rfl)) dX0_known_14 ⟨Nat.le_of_ble_eq_true rfl, Nat.le_of_ble_eq_true rfl⟩) hP hD hS hFc [0, 1] [2, 3] (wr := [(ad_2.2.1, .inl (cb, 16, .inl (fun _ => 0))), (ad_2.2.2, .inl (cb, 16, .inl (fun _ => 0)))]) rfl rfl (by decide) (by decide) (fun fk_3 H locs hufk_3 hP hD hS => ?_)
  have hP : va_P G vwCl [(ad_2.2.1, .inl (cb, 16, .inl (fun _ => 0))), (ad_2.2.2, .inl (cb, 16, .inl (fun _ => 0))), (oo_1, .inr (0, [.ref ad_2.1, .ref ad_2.2.1, .ref ad_2.2.2])), (ad_2.1, .inl (cb, 32, .inl fk_3))] H := hP
  have hD : va_D A [(ad_2.2.1, .inl (cb, 16, .inl (fun _ => 0))), (ad_2.2.2, .inl (cb, 16, .inl (fun _ => 0))), (oo_1, .inr (0, [.ref ad_2.1, .ref ad_2.2.1, .ref ad_2.2.2])), (ad_2.1, .inl (cb, 32, .inl fk_3))] := hD
  refine W.widen (k := 4) (n := 67) (by omega) (by omega) ?_
  refine lv_aload_n hx hb dX0_known_17 rfl (lv_at hl 0 rfl) ?_
  refine lv_iconst (v := 1) hx hb dX0_known_18 (by decide) ?_
  refine lv_iconst (v := 0) hx hb dX0_known_19 (by decide) ?_
  refine lv_iconst (v := 0) hx hb dX0_known_20 (by decide) ?_
  refine lv_iconst (v := 0) hx hb dX0_known_21 (by decide) ?_
  refine lv_iconst (v := 0) hx hb dX0_known_22 (by decide) ?_
  have hPc := hP.sub (ws' := [(oo_1, .inr (0, [.ref ad_2.1, .ref ad_2.2.1, .ref ad_2.2.2])), (ad_2.1, .inl (cb, 32, .inl fk_3))]) [2, 3] rfl
  have hDc := hD.sub (ws' := [(oo_1, .inr (0, [.ref ad_2.1, .ref ad_2.2.1, .ref ad_2.2.2])), (ad_2.1, .inl (cb, 32, .inl fk_3))]) [2, 3] (by decide) rfl
  have hFc := va_free (wc := [(oo_1, .inr (0, [.ref ad_2.1, .ref ad_2.2.1, .ref ad_2.2.2])), (ad_2.1, .inl (cb, 32, .inl fk_3))]) hD hS hA [2, 3] rfl
  refine call_v (va_runV (As := [.int 1, .int 0, .int 0, .int 0, .int 0]) (rest := []) ⟨hx, hb, hml, hown, hts⟩ (metX1_key_1 l G cb cI oo_1 ad_2.1 ad_2.2.1 ad_2.2.2 fk_3 0 0 0 0 _) (cwV 5 hts (lw_V q271 q272 q273 q5 q274) rfl rfl rfl (by decide +kernel) ⟨Nat.le_of_ble_eq_true rfl, Nat.le_of_ble_eq_true rfl⟩) (preW_V (ci := 0) (q0 := 0) hPc hK hDc (tru_in) rfl rfl) rfl rfl hl.1 rfl (lv_room (Nat.le_of_ble_eq_true rfl)) dX0_known_23 ⟨Nat.le_of_ble_eq_true rfl, Nat.le_of_ble_eq_true rfl⟩) hP hD hS hFc [2, 3] [0, 1] (wr := [(ad_2.2.1, .inl (cb, 16, .inl (fun _ => 0))), (ad_2.2.2, .inl (cb, 16, .inl (fun _ => 0)))]) rfl rfl (by decide) (by decide) (fun fk_4 H locs hufk_4 hP hD hS => ?_)
  have hP : va_P G vwCl [(ad_2.2.1, .inl (cb, 16, .inl (fun _ => 0))), (ad_2.2.2, .inl (cb, 16, .inl (fun _ => 0))), (oo_1, .inr (0, [.ref ad_2.1, .ref ad_2.2.1, .ref ad_2.2.2])), (ad_2.1, .inl (cb, 32, .inl fk_4))] H := hP
  have hD : va_D A [(ad_2.2.1, .inl (cb, 16, .inl (fun _ => 0))), (ad_2.2.2, .inl (cb, 16, .inl (fun _ => 0))), (oo_1, .inr (0, [.ref ad_2.1, .ref ad_2.2.1, .ref ad_2.2.2])), (ad_2.1, .inl (cb, 32, .inl fk_4))] := hD
  refine W.widen (k := 4) (n := 67) (by omega) (by omega) ?_
  refine lv_aload_n hx hb dX0_known_26 rfl (lv_at hl 0 rfl) ?_
  refine lv_iconst (v := 0) hx hb dX0_known_27 (by decide) ?_
  refine lv_iconst (v := 0) hx hb dX0_known_28 (by decide) ?_
  refine lv_iconst (v := 0) hx hb dX0_known_29 (by decide) ?_
  refine lv_iconst (v := 0) hx hb dX0_known_30 (by decide) ?_
  have hPc := hP.sub (ws' := [(oo_1, .inr (0, [.ref ad_2.1, .ref ad_2.2.1, .ref ad_2.2.2])), (ad_2.2.1, .inl (cb, 16, .inl (fun _ => 0)))]) [2, 0] rfl
  have hDc := hD.sub (ws' := [(oo_1, .inr (0, [.ref ad_2.1, .ref ad_2.2.1, .ref ad_2.2.2])), (ad_2.2.1, .inl (cb, 16, .inl (fun _ => 0)))]) [2, 0] (by decide) rfl
  have hFc := va_free (wc := [(oo_1, .inr (0, [.ref ad_2.1, .ref ad_2.2.1, .ref ad_2.2.2])), (ad_2.2.1, .inl (cb, 16, .inl (fun _ => 0)))]) hD hS hA [2, 0] rfl
  refine call_v (va_runV (As := [.int 0, .int 0, .int 0, .int 0]) (rest := []) ⟨hx, hb, hml, hown, hts⟩ (metX1_block l G cb cI oo_1 ad_2.1 ad_2.2.1 ad_2.2.2 (fun _ => 0) 0 0 0 0 _) (cwV 4 hts (lw_V q278 q279 q280 q5 q281) rfl rfl rfl (by decide +kernel) ⟨Nat.le_of_ble_eq_true rfl, Nat.le_of_ble_eq_true rfl⟩) (preW_V (ci := 0) (q0 := 0) hPc hK hDc (tru_in) rfl rfl) rfl rfl hl.1 rfl (lv_room (Nat.le_of_ble_eq_true rfl)) dX0_known_31 ⟨Nat.le_of_ble_eq_true rfl, Nat.le_of_ble_eq_true rfl⟩) hP hD hS hFc [2, 0] [1, 3] (wr := [(ad_2.2.2, .inl (cb, 16, .inl (fun _ => 0))), (ad_2.1, .inl (cb, 32, .inl fk_4))]) rfl rfl (by decide) (by decide) (fun fb_5 H locs hufb_5 hP hD hS => ?_)
  have hP : va_P G vwCl [(ad_2.2.2, .inl (cb, 16, .inl (fun _ => 0))), (ad_2.1, .inl (cb, 32, .inl fk_4)), (oo_1, .inr (0, [.ref ad_2.1, .ref ad_2.2.1, .ref ad_2.2.2])), (ad_2.2.1, .inl (cb, 16, .inl fb_5))] H := hP
  have hD : va_D A [(ad_2.2.2, .inl (cb, 16, .inl (fun _ => 0))), (ad_2.1, .inl (cb, 32, .inl fk_4)), (oo_1, .inr (0, [.ref ad_2.1, .ref ad_2.2.1, .ref ad_2.2.2])), (ad_2.2.1, .inl (cb, 16, .inl fb_5))] := hD
  refine W.widen (k := 4) (n := 67) (by omega) (by omega) ?_
  refine lv_aload_n hx hb dX0_known_34 rfl (lv_at hl 0 rfl) ?_
  refine lv_iconst (v := 0) hx hb dX0_known_35 (by decide) ?_
  have hPc := hP.sub (ws' := [(oo_1, .inr (0, [.ref ad_2.1, .ref ad_2.2.1, .ref ad_2.2.2])), (ad_2.1, .inl (cb, 32, .inl fk_4)), (ad_2.2.1, .inl (cb, 16, .inl fb_5)), (ad_2.2.2, .inl (cb, 16, .inl (fun _ => 0)))]) [2, 1, 3, 0] rfl
  have hDc := hD.sub (ws' := [(oo_1, .inr (0, [.ref ad_2.1, .ref ad_2.2.1, .ref ad_2.2.2])), (ad_2.1, .inl (cb, 32, .inl fk_4)), (ad_2.2.1, .inl (cb, 16, .inl fb_5)), (ad_2.2.2, .inl (cb, 16, .inl (fun _ => 0)))]) [2, 1, 3, 0] (by decide) rfl
  have hFc := va_free (wc := [(oo_1, .inr (0, [.ref ad_2.1, .ref ad_2.2.1, .ref ad_2.2.2])), (ad_2.1, .inl (cb, 32, .inl fk_4)), (ad_2.2.1, .inl (cb, 16, .inl fb_5)), (ad_2.2.2, .inl (cb, 16, .inl (fun _ => 0)))]) hD hS hA [2, 1, 3, 0] rfl
  refine call_v (va_runV (As := [.int 0]) (rest := []) ⟨hx, hb, hml, hown, hts⟩ (metX1_lock l G cb cI t oo_1 ad_2.1 ad_2.2.1 ad_2.2.2 fk_4 fb_5 (fun _ => 0) 0 _) (cwV 1 hts (lw_V q20 q21 q22 q5 q23) rfl rfl rfl (by decide +kernel) ⟨Nat.le_of_ble_eq_true rfl, Nat.le_of_ble_eq_true rfl⟩) (preW_V (ci := 0) (q0 := 0) hPc hK hDc (ctx_in hE hS hFc) rfl rfl) rfl rfl hl.1 rfl (lv_room (Nat.le_of_ble_eq_true rfl)) dX0_known_36 ⟨Nat.le_of_ble_eq_true rfl, Nat.le_of_ble_eq_true rfl⟩) hP hD hS hFc [2, 1, 3, 0] [] (wr := []) rfl rfl (by decide) (by decide) (fun fo_6 H locs hufo_6 hP hD hS => ?_)
  have hP : va_P G vwCl [(oo_1, .inr (0, [.ref ad_2.1, .ref ad_2.2.1, .ref ad_2.2.2])), (ad_2.1, .inl (cb, 32, .inl fk_4)), (ad_2.2.1, .inl (cb, 16, .inl fb_5)), (ad_2.2.2, .inl (cb, 16, .inl fo_6))] H := hP
  have hD : va_D A [(oo_1, .inr (0, [.ref ad_2.1, .ref ad_2.2.1, .ref ad_2.2.2])), (ad_2.1, .inl (cb, 32, .inl fk_4)), (ad_2.2.1, .inl (cb, 16, .inl fb_5)), (ad_2.2.2, .inl (cb, 16, .inl fo_6))] := hD
  refine W.widen (k := 9) (n := 107) (by omega) (by omega) ?_
  refine lv_bipush (v := 16) hx hb dX0_known_39 (by decide) ?_
  refine va_newa (atype := .int) (ty := .int) (a0 := (16, .inl (fun _ => 0))) (N' := 16) hx hb (hts _ q51) rfl hK hP hD hS hA (fun _ => rfl) (by decide) (by decide) (Nat.le_of_ble_eq_true rfl) (Nat.le_of_ble_eq_true rfl) (Nat.le_of_ble_eq_true rfl) dX0_known_41 (fun qa_7 cA H hK hP hD hS => ?_)
  have hcA : cI = cA := ki_eq hK
  subst hcA
  have hK := hK.sub (tys' := [(cb, .byte), (cI, .int)]) [0, 1] rfl
  have hP : va_P G vwCl [(oo_1, .inr (0, [.ref ad_2.1, .ref ad_2.2.1, .ref ad_2.2.2])), (ad_2.1, .inl (cb, 32, .inl fk_4)), (ad_2.2.1, .inl (cb, 16, .inl fb_5)), (ad_2.2.2, .inl (cb, 16, .inl fo_6)), (qa_7, .inl (cI, 16, .inl (fun _ => 0)))] H := hP
  have hD : va_D A [(oo_1, .inr (0, [.ref ad_2.1, .ref ad_2.2.1, .ref ad_2.2.2])), (ad_2.1, .inl (cb, 32, .inl fk_4)), (ad_2.2.1, .inl (cb, 16, .inl fb_5)), (ad_2.2.2, .inl (cb, 16, .inl fo_6)), (qa_7, .inl (cI, 16, .inl (fun _ => 0)))] := hD
  refine W.widen (k := 10) (n := 123) (by omega) (by omega) ?_
  refine lv_dup hx hb dX0_known_43 rfl ?_
  refine lv_iconst (v := 0) hx hb dX0_known_44 (by decide) ?_
  refine lv_sipush (v := 177) hx hb dX0_known_45 (by decide) ?_
  refine va_iast hx hb hK hP hD hS 4 1 rfl rfl in_0_16 dX0_known_48 (fun H locs hP hD hS => ?_)
  rw [cl_0] at hP hD
  have hP : va_P G vwCl [(oo_1, .inr (0, [.ref ad_2.1, .ref ad_2.2.1, .ref ad_2.2.2])), (ad_2.1, .inl (cb, 32, .inl fk_4)), (ad_2.2.1, .inl (cb, 16, .inl fb_5)), (ad_2.2.2, .inl (cb, 16, .inl fo_6)), (qa_7, .inl (cI, 16, .inl (upd (fun _ => 0) (0) 177)))] H := hP
  have hD : va_D A [(oo_1, .inr (0, [.ref ad_2.1, .ref ad_2.2.1, .ref ad_2.2.2])), (ad_2.1, .inl (cb, 32, .inl fk_4)), (ad_2.2.1, .inl (cb, 16, .inl fb_5)), (ad_2.2.2, .inl (cb, 16, .inl fo_6)), (qa_7, .inl (cI, 16, .inl (upd (fun _ => 0) (0) 177)))] := hD
  refine lv_dup hx hb dX0_known_49 rfl ?_
  refine lv_iconst (v := 1) hx hb dX0_known_50 (by decide) ?_
  refine lv_bipush (v := 101) hx hb dX0_known_51 (by decide) ?_
  refine va_iast hx hb hK hP hD hS 4 1 rfl rfl in_1_16 dX0_known_53 (fun H locs hP hD hS => ?_)
  rw [cl_1] at hP hD
  have hP : va_P G vwCl [(oo_1, .inr (0, [.ref ad_2.1, .ref ad_2.2.1, .ref ad_2.2.2])), (ad_2.1, .inl (cb, 32, .inl fk_4)), (ad_2.2.1, .inl (cb, 16, .inl fb_5)), (ad_2.2.2, .inl (cb, 16, .inl fo_6)), (qa_7, .inl (cI, 16, .inl (upd (upd (fun _ => 0) (0) 177) (1) 101)))] H := hP
  have hD : va_D A [(oo_1, .inr (0, [.ref ad_2.1, .ref ad_2.2.1, .ref ad_2.2.2])), (ad_2.1, .inl (cb, 32, .inl fk_4)), (ad_2.2.1, .inl (cb, 16, .inl fb_5)), (ad_2.2.2, .inl (cb, 16, .inl fo_6)), (qa_7, .inl (cI, 16, .inl (upd (upd (fun _ => 0) (0) 177) (1) 101)))] := hD
  refine lv_dup hx hb dX0_known_54 rfl ?_
  refine lv_iconst (v := 2) hx hb dX0_known_55 (by decide) ?_
  refine lv_bipush (v := 104) hx hb dX0_known_56 (by decide) ?_
  refine va_iast hx hb hK hP hD hS 4 1 rfl rfl in_2_16 dX0_known_58 (fun H locs hP hD hS => ?_)
  rw [cl_2] at hP hD
  have hP : va_P G vwCl [(oo_1, .inr (0, [.ref ad_2.1, .ref ad_2.2.1, .ref ad_2.2.2])), (ad_2.1, .inl (cb, 32, .inl fk_4)), (ad_2.2.1, .inl (cb, 16, .inl fb_5)), (ad_2.2.2, .inl (cb, 16, .inl fo_6)), (qa_7, .inl (cI, 16, .inl (upd (upd (upd (fun _ => 0) (0) 177) (1) 101) (2) 104)))] H := hP
  have hD : va_D A [(oo_1, .inr (0, [.ref ad_2.1, .ref ad_2.2.1, .ref ad_2.2.2])), (ad_2.1, .inl (cb, 32, .inl fk_4)), (ad_2.2.1, .inl (cb, 16, .inl fb_5)), (ad_2.2.2, .inl (cb, 16, .inl fo_6)), (qa_7, .inl (cI, 16, .inl (upd (upd (upd (fun _ => 0) (0) 177) (1) 101) (2) 104)))] := hD
  refine lv_dup hx hb dX0_known_59 rfl ?_
  refine lv_iconst (v := 3) hx hb dX0_known_60 (by decide) ?_
  refine lv_bipush (v := 81) hx hb dX0_known_61 (by decide) ?_
  refine va_iast hx hb hK hP hD hS 4 1 rfl rfl in_3_16 dX0_known_63 (fun H locs hP hD hS => ?_)
  rw [cl_3] at hP hD
  have hP : va_P G vwCl [(oo_1, .inr (0, [.ref ad_2.1, .ref ad_2.2.1, .ref ad_2.2.2])), (ad_2.1, .inl (cb, 32, .inl fk_4)), (ad_2.2.1, .inl (cb, 16, .inl fb_5)), (ad_2.2.2, .inl (cb, 16, .inl fo_6)), (qa_7, .inl (cI, 16, .inl (upd (upd (upd (upd (fun _ => 0) (0) 177) (1) 101) (2) 104) (3) 81)))] H := hP
  have hD : va_D A [(oo_1, .inr (0, [.ref ad_2.1, .ref ad_2.2.1, .ref ad_2.2.2])), (ad_2.1, .inl (cb, 32, .inl fk_4)), (ad_2.2.1, .inl (cb, 16, .inl fb_5)), (ad_2.2.2, .inl (cb, 16, .inl fo_6)), (qa_7, .inl (cI, 16, .inl (upd (upd (upd (upd (fun _ => 0) (0) 177) (1) 101) (2) 104) (3) 81)))] := hD
  refine lv_dup hx hb dX0_known_64 rfl ?_
  refine lv_iconst (v := 4) hx hb dX0_known_65 (by decide) ?_
  refine lv_bipush (v := 105) hx hb dX0_known_66 (by decide) ?_
  refine va_iast hx hb hK hP hD hS 4 1 rfl rfl in_4_16 dX0_known_68 (fun H locs hP hD hS => ?_)
  rw [cl_4] at hP hD
  have hP : va_P G vwCl [(oo_1, .inr (0, [.ref ad_2.1, .ref ad_2.2.1, .ref ad_2.2.2])), (ad_2.1, .inl (cb, 32, .inl fk_4)), (ad_2.2.1, .inl (cb, 16, .inl fb_5)), (ad_2.2.2, .inl (cb, 16, .inl fo_6)), (qa_7, .inl (cI, 16, .inl (upd (upd (upd (upd (upd (fun _ => 0) (0) 177) (1) 101) (2) 104) (3) 81) (4) 105)))] H := hP
  have hD : va_D A [(oo_1, .inr (0, [.ref ad_2.1, .ref ad_2.2.1, .ref ad_2.2.2])), (ad_2.1, .inl (cb, 32, .inl fk_4)), (ad_2.2.1, .inl (cb, 16, .inl fb_5)), (ad_2.2.2, .inl (cb, 16, .inl fo_6)), (qa_7, .inl (cI, 16, .inl (upd (upd (upd (upd (upd (fun _ => 0) (0) 177) (1) 101) (2) 104) (3) 81) (4) 105)))] := hD
  refine lv_dup hx hb dX0_known_69 rfl ?_
  refine lv_iconst (v := 5) hx hb dX0_known_70 (by decide) ?_
  refine lv_sipush (v := 158) hx hb dX0_known_71 (by decide) ?_
  refine va_iast hx hb hK hP hD hS 4 1 rfl rfl in_5_16 dX0_known_74 (fun H locs hP hD hS => ?_)
  rw [cl_5] at hP hD
  have hP : va_P G vwCl [(oo_1, .inr (0, [.ref ad_2.1, .ref ad_2.2.1, .ref ad_2.2.2])), (ad_2.1, .inl (cb, 32, .inl fk_4)), (ad_2.2.1, .inl (cb, 16, .inl fb_5)), (ad_2.2.2, .inl (cb, 16, .inl fo_6)), (qa_7, .inl (cI, 16, .inl (upd (upd (upd (upd (upd (upd (fun _ => 0) (0) 177) (1) 101) (2) 104) (3) 81) (4) 105) (5) 158)))] H := hP
  have hD : va_D A [(oo_1, .inr (0, [.ref ad_2.1, .ref ad_2.2.1, .ref ad_2.2.2])), (ad_2.1, .inl (cb, 32, .inl fk_4)), (ad_2.2.1, .inl (cb, 16, .inl fb_5)), (ad_2.2.2, .inl (cb, 16, .inl fo_6)), (qa_7, .inl (cI, 16, .inl (upd (upd (upd (upd (upd (upd (fun _ => 0) (0) 177) (1) 101) (2) 104) (3) 81) (4) 105) (5) 158)))] := hD
  refine lv_dup hx hb dX0_known_75 rfl ?_
  refine lv_bipush (v := 6) hx hb dX0_known_76 (by decide) ?_
  refine lv_bipush (v := 41) hx hb dX0_known_78 (by decide) ?_
  refine va_iast hx hb hK hP hD hS 4 1 rfl rfl in_6_16 dX0_known_80 (fun H locs hP hD hS => ?_)
  rw [cl_6] at hP hD
  have hP : va_P G vwCl [(oo_1, .inr (0, [.ref ad_2.1, .ref ad_2.2.1, .ref ad_2.2.2])), (ad_2.1, .inl (cb, 32, .inl fk_4)), (ad_2.2.1, .inl (cb, 16, .inl fb_5)), (ad_2.2.2, .inl (cb, 16, .inl fo_6)), (qa_7, .inl (cI, 16, .inl (upd (upd (upd (upd (upd (upd (upd (fun _ => 0) (0) 177) (1) 101) (2) 104) (3) 81) (4) 105) (5) 158) (6) 41)))] H := hP
  have hD : va_D A [(oo_1, .inr (0, [.ref ad_2.1, .ref ad_2.2.1, .ref ad_2.2.2])), (ad_2.1, .inl (cb, 32, .inl fk_4)), (ad_2.2.1, .inl (cb, 16, .inl fb_5)), (ad_2.2.2, .inl (cb, 16, .inl fo_6)), (qa_7, .inl (cI, 16, .inl (upd (upd (upd (upd (upd (upd (upd (fun _ => 0) (0) 177) (1) 101) (2) 104) (3) 81) (4) 105) (5) 158) (6) 41)))] := hD
  refine lv_dup hx hb dX0_known_81 rfl ?_
  refine lv_bipush (v := 7) hx hb dX0_known_82 (by decide) ?_
  refine lv_sipush (v := 250) hx hb dX0_known_84 (by decide) ?_
  refine va_iast hx hb hK hP hD hS 4 1 rfl rfl in_7_16 dX0_known_87 (fun H locs hP hD hS => ?_)
  rw [cl_7] at hP hD
  have hP : va_P G vwCl [(oo_1, .inr (0, [.ref ad_2.1, .ref ad_2.2.1, .ref ad_2.2.2])), (ad_2.1, .inl (cb, 32, .inl fk_4)), (ad_2.2.1, .inl (cb, 16, .inl fb_5)), (ad_2.2.2, .inl (cb, 16, .inl fo_6)), (qa_7, .inl (cI, 16, .inl (upd (upd (upd (upd (upd (upd (upd (upd (fun _ => 0) (0) 177) (1) 101) (2) 104) (3) 81) (4) 105) (5) 158) (6) 41) (7) 250)))] H := hP
  have hD : va_D A [(oo_1, .inr (0, [.ref ad_2.1, .ref ad_2.2.1, .ref ad_2.2.2])), (ad_2.1, .inl (cb, 32, .inl fk_4)), (ad_2.2.1, .inl (cb, 16, .inl fb_5)), (ad_2.2.2, .inl (cb, 16, .inl fo_6)), (qa_7, .inl (cI, 16, .inl (upd (upd (upd (upd (upd (upd (upd (upd (fun _ => 0) (0) 177) (1) 101) (2) 104) (3) 81) (4) 105) (5) 158) (6) 41) (7) 250)))] := hD
  refine lv_dup hx hb dX0_known_88 rfl ?_
  refine lv_bipush (v := 8) hx hb dX0_known_89 (by decide) ?_
  refine lv_bipush (v := 36) hx hb dX0_known_91 (by decide) ?_
  refine va_iast hx hb hK hP hD hS 4 1 rfl rfl in_8_16 dX0_known_93 (fun H locs hP hD hS => ?_)
  rw [cl_8] at hP hD
  have hP : va_P G vwCl [(oo_1, .inr (0, [.ref ad_2.1, .ref ad_2.2.1, .ref ad_2.2.2])), (ad_2.1, .inl (cb, 32, .inl fk_4)), (ad_2.2.1, .inl (cb, 16, .inl fb_5)), (ad_2.2.2, .inl (cb, 16, .inl fo_6)), (qa_7, .inl (cI, 16, .inl (upd (upd (upd (upd (upd (upd (upd (upd (upd (fun _ => 0) (0) 177) (1) 101) (2) 104) (3) 81) (4) 105) (5) 158) (6) 41) (7) 250) (8) 36)))] H := hP
  have hD : va_D A [(oo_1, .inr (0, [.ref ad_2.1, .ref ad_2.2.1, .ref ad_2.2.2])), (ad_2.1, .inl (cb, 32, .inl fk_4)), (ad_2.2.1, .inl (cb, 16, .inl fb_5)), (ad_2.2.2, .inl (cb, 16, .inl fo_6)), (qa_7, .inl (cI, 16, .inl (upd (upd (upd (upd (upd (upd (upd (upd (upd (fun _ => 0) (0) 177) (1) 101) (2) 104) (3) 81) (4) 105) (5) 158) (6) 41) (7) 250) (8) 36)))] := hD
  refine lv_dup hx hb dX0_known_94 rfl ?_
  refine lv_bipush (v := 9) hx hb dX0_known_95 (by decide) ?_
  refine lv_sipush (v := 183) hx hb dX0_known_97 (by decide) ?_
  refine va_iast hx hb hK hP hD hS 4 1 rfl rfl in_9_16 dX0_known_100 (fun H locs hP hD hS => ?_)
  rw [cl_9] at hP hD
  have hP : va_P G vwCl [(oo_1, .inr (0, [.ref ad_2.1, .ref ad_2.2.1, .ref ad_2.2.2])), (ad_2.1, .inl (cb, 32, .inl fk_4)), (ad_2.2.1, .inl (cb, 16, .inl fb_5)), (ad_2.2.2, .inl (cb, 16, .inl fo_6)), (qa_7, .inl (cI, 16, .inl (upd (upd (upd (upd (upd (upd (upd (upd (upd (upd (fun _ => 0) (0) 177) (1) 101) (2) 104) (3) 81) (4) 105) (5) 158) (6) 41) (7) 250) (8) 36) (9) 183)))] H := hP
  have hD : va_D A [(oo_1, .inr (0, [.ref ad_2.1, .ref ad_2.2.1, .ref ad_2.2.2])), (ad_2.1, .inl (cb, 32, .inl fk_4)), (ad_2.2.1, .inl (cb, 16, .inl fb_5)), (ad_2.2.2, .inl (cb, 16, .inl fo_6)), (qa_7, .inl (cI, 16, .inl (upd (upd (upd (upd (upd (upd (upd (upd (upd (upd (fun _ => 0) (0) 177) (1) 101) (2) 104) (3) 81) (4) 105) (5) 158) (6) 41) (7) 250) (8) 36) (9) 183)))] := hD
  refine lv_dup hx hb dX0_known_101 rfl ?_
  refine lv_bipush (v := 10) hx hb dX0_known_102 (by decide) ?_
  refine lv_iconst (v := 1) hx hb dX0_known_104 (by decide) ?_
  refine va_iast hx hb hK hP hD hS 4 1 rfl rfl in_10_16 dX0_known_105 (fun H locs hP hD hS => ?_)
  rw [cl_10] at hP hD
  have hP : va_P G vwCl [(oo_1, .inr (0, [.ref ad_2.1, .ref ad_2.2.1, .ref ad_2.2.2])), (ad_2.1, .inl (cb, 32, .inl fk_4)), (ad_2.2.1, .inl (cb, 16, .inl fb_5)), (ad_2.2.2, .inl (cb, 16, .inl fo_6)), (qa_7, .inl (cI, 16, .inl (upd (upd (upd (upd (upd (upd (upd (upd (upd (upd (upd (fun _ => 0) (0) 177) (1) 101) (2) 104) (3) 81) (4) 105) (5) 158) (6) 41) (7) 250) (8) 36) (9) 183) (10) 1)))] H := hP
  have hD : va_D A [(oo_1, .inr (0, [.ref ad_2.1, .ref ad_2.2.1, .ref ad_2.2.2])), (ad_2.1, .inl (cb, 32, .inl fk_4)), (ad_2.2.1, .inl (cb, 16, .inl fb_5)), (ad_2.2.2, .inl (cb, 16, .inl fo_6)), (qa_7, .inl (cI, 16, .inl (upd (upd (upd (upd (upd (upd (upd (upd (upd (upd (upd (fun _ => 0) (0) 177) (1) 101) (2) 104) (3) 81) (4) 105) (5) 158) (6) 41) (7) 250) (8) 36) (9) 183) (10) 1)))] := hD
  refine lv_dup hx hb dX0_known_106 rfl ?_
  refine lv_bipush (v := 11) hx hb dX0_known_107 (by decide) ?_
  refine lv_bipush (v := 72) hx hb dX0_known_109 (by decide) ?_
  refine va_iast hx hb hK hP hD hS 4 1 rfl rfl in_11_16 dX0_known_111 (fun H locs hP hD hS => ?_)
  rw [cl_11] at hP hD
  have hP : va_P G vwCl [(oo_1, .inr (0, [.ref ad_2.1, .ref ad_2.2.1, .ref ad_2.2.2])), (ad_2.1, .inl (cb, 32, .inl fk_4)), (ad_2.2.1, .inl (cb, 16, .inl fb_5)), (ad_2.2.2, .inl (cb, 16, .inl fo_6)), (qa_7, .inl (cI, 16, .inl (upd (upd (upd (upd (upd (upd (upd (upd (upd (upd (upd (upd (fun _ => 0) (0) 177) (1) 101) (2) 104) (3) 81) (4) 105) (5) 158) (6) 41) (7) 250) (8) 36) (9) 183) (10) 1) (11) 72)))] H := hP
  have hD : va_D A [(oo_1, .inr (0, [.ref ad_2.1, .ref ad_2.2.1, .ref ad_2.2.2])), (ad_2.1, .inl (cb, 32, .inl fk_4)), (ad_2.2.1, .inl (cb, 16, .inl fb_5)), (ad_2.2.2, .inl (cb, 16, .inl fo_6)), (qa_7, .inl (cI, 16, .inl (upd (upd (upd (upd (upd (upd (upd (upd (upd (upd (upd (upd (fun _ => 0) (0) 177) (1) 101) (2) 104) (3) 81) (4) 105) (5) 158) (6) 41) (7) 250) (8) 36) (9) 183) (10) 1) (11) 72)))] := hD
  refine lv_dup hx hb dX0_known_112 rfl ?_
  refine lv_bipush (v := 12) hx hb dX0_known_113 (by decide) ?_
  refine lv_bipush (v := 80) hx hb dX0_known_115 (by decide) ?_
  refine va_iast hx hb hK hP hD hS 4 1 rfl rfl in_12_16 dX0_known_117 (fun H locs hP hD hS => ?_)
  rw [cl_12] at hP hD
  have hP : va_P G vwCl [(oo_1, .inr (0, [.ref ad_2.1, .ref ad_2.2.1, .ref ad_2.2.2])), (ad_2.1, .inl (cb, 32, .inl fk_4)), (ad_2.2.1, .inl (cb, 16, .inl fb_5)), (ad_2.2.2, .inl (cb, 16, .inl fo_6)), (qa_7, .inl (cI, 16, .inl (upd (upd (upd (upd (upd (upd (upd (upd (upd (upd (upd (upd (upd (fun _ => 0) (0) 177) (1) 101) (2) 104) (3) 81) (4) 105) (5) 158) (6) 41) (7) 250) (8) 36) (9) 183) (10) 1) (11) 72) (12) 80)))] H := hP
  have hD : va_D A [(oo_1, .inr (0, [.ref ad_2.1, .ref ad_2.2.1, .ref ad_2.2.2])), (ad_2.1, .inl (cb, 32, .inl fk_4)), (ad_2.2.1, .inl (cb, 16, .inl fb_5)), (ad_2.2.2, .inl (cb, 16, .inl fo_6)), (qa_7, .inl (cI, 16, .inl (upd (upd (upd (upd (upd (upd (upd (upd (upd (upd (upd (upd (upd (fun _ => 0) (0) 177) (1) 101) (2) 104) (3) 81) (4) 105) (5) 158) (6) 41) (7) 250) (8) 36) (9) 183) (10) 1) (11) 72) (12) 80)))] := hD
  refine lv_dup hx hb dX0_known_118 rfl ?_
  refine lv_bipush (v := 13) hx hb dX0_known_119 (by decide) ?_
  refine lv_bipush (v := 61) hx hb dX0_known_121 (by decide) ?_
  refine va_iast hx hb hK hP hD hS 4 1 rfl rfl in_13_16 dX0_known_123 (fun H locs hP hD hS => ?_)
  rw [cl_13] at hP hD
  have hP : va_P G vwCl [(oo_1, .inr (0, [.ref ad_2.1, .ref ad_2.2.1, .ref ad_2.2.2])), (ad_2.1, .inl (cb, 32, .inl fk_4)), (ad_2.2.1, .inl (cb, 16, .inl fb_5)), (ad_2.2.2, .inl (cb, 16, .inl fo_6)), (qa_7, .inl (cI, 16, .inl (upd (upd (upd (upd (upd (upd (upd (upd (upd (upd (upd (upd (upd (upd (fun _ => 0) (0) 177) (1) 101) (2) 104) (3) 81) (4) 105) (5) 158) (6) 41) (7) 250) (8) 36) (9) 183) (10) 1) (11) 72) (12) 80) (13) 61)))] H := hP
  have hD : va_D A [(oo_1, .inr (0, [.ref ad_2.1, .ref ad_2.2.1, .ref ad_2.2.2])), (ad_2.1, .inl (cb, 32, .inl fk_4)), (ad_2.2.1, .inl (cb, 16, .inl fb_5)), (ad_2.2.2, .inl (cb, 16, .inl fo_6)), (qa_7, .inl (cI, 16, .inl (upd (upd (upd (upd (upd (upd (upd (upd (upd (upd (upd (upd (upd (upd (fun _ => 0) (0) 177) (1) 101) (2) 104) (3) 81) (4) 105) (5) 158) (6) 41) (7) 250) (8) 36) (9) 183) (10) 1) (11) 72) (12) 80) (13) 61)))] := hD
  refine lv_dup hx hb dX0_known_124 rfl ?_
  refine lv_bipush (v := 14) hx hb dX0_known_125 (by decide) ?_
  refine lv_bipush (v := 45) hx hb dX0_known_127 (by decide) ?_
  refine va_iast hx hb hK hP hD hS 4 1 rfl rfl in_14_16 dX0_known_129 (fun H locs hP hD hS => ?_)
  rw [cl_14] at hP hD
  have hP : va_P G vwCl [(oo_1, .inr (0, [.ref ad_2.1, .ref ad_2.2.1, .ref ad_2.2.2])), (ad_2.1, .inl (cb, 32, .inl fk_4)), (ad_2.2.1, .inl (cb, 16, .inl fb_5)), (ad_2.2.2, .inl (cb, 16, .inl fo_6)), (qa_7, .inl (cI, 16, .inl (upd (upd (upd (upd (upd (upd (upd (upd (upd (upd (upd (upd (upd (upd (upd (fun _ => 0) (0) 177) (1) 101) (2) 104) (3) 81) (4) 105) (5) 158) (6) 41) (7) 250) (8) 36) (9) 183) (10) 1) (11) 72) (12) 80) (13) 61) (14) 45)))] H := hP
  have hD : va_D A [(oo_1, .inr (0, [.ref ad_2.1, .ref ad_2.2.1, .ref ad_2.2.2])), (ad_2.1, .inl (cb, 32, .inl fk_4)), (ad_2.2.1, .inl (cb, 16, .inl fb_5)), (ad_2.2.2, .inl (cb, 16, .inl fo_6)), (qa_7, .inl (cI, 16, .inl (upd (upd (upd (upd (upd (upd (upd (upd (upd (upd (upd (upd (upd (upd (upd (fun _ => 0) (0) 177) (1) 101) (2) 104) (3) 81) (4) 105) (5) 158) (6) 41) (7) 250) (8) 36) (9) 183) (10) 1) (11) 72) (12) 80) (13) 61) (14) 45)))] := hD
  refine lv_dup hx hb dX0_known_130 rfl ?_
  refine lv_bipush (v := 15) hx hb dX0_known_131 (by decide) ?_
  refine lv_sipush (v := 252) hx hb dX0_known_133 (by decide) ?_
  refine va_iast hx hb hK hP hD hS 4 1 rfl rfl in_15_16 dX0_known_136 (fun H locs hP hD hS => ?_)
  rw [cl_15] at hP hD
  have hP : va_P G vwCl [(oo_1, .inr (0, [.ref ad_2.1, .ref ad_2.2.1, .ref ad_2.2.2])), (ad_2.1, .inl (cb, 32, .inl fk_4)), (ad_2.2.1, .inl (cb, 16, .inl fb_5)), (ad_2.2.2, .inl (cb, 16, .inl fo_6)), (qa_7, .inl (cI, 16, .inl (upd (upd (upd (upd (upd (upd (upd (upd (upd (upd (upd (upd (upd (upd (upd (upd (fun _ => 0) (0) 177) (1) 101) (2) 104) (3) 81) (4) 105) (5) 158) (6) 41) (7) 250) (8) 36) (9) 183) (10) 1) (11) 72) (12) 80) (13) 61) (14) 45) (15) 252)))] H := hP
  have hD : va_D A [(oo_1, .inr (0, [.ref ad_2.1, .ref ad_2.2.1, .ref ad_2.2.2])), (ad_2.1, .inl (cb, 32, .inl fk_4)), (ad_2.2.1, .inl (cb, 16, .inl fb_5)), (ad_2.2.2, .inl (cb, 16, .inl fo_6)), (qa_7, .inl (cI, 16, .inl (upd (upd (upd (upd (upd (upd (upd (upd (upd (upd (upd (upd (upd (upd (upd (upd (fun _ => 0) (0) 177) (1) 101) (2) 104) (3) 81) (4) 105) (5) 158) (6) 41) (7) 250) (8) 36) (9) 183) (10) 1) (11) 72) (12) 80) (13) 61) (14) 45) (15) 252)))] := hD
  refine lv_astore_n (lv' := [(1, .ref qa_7), (0, .ref oo_1)]) hx hb dX0_known_137 rfl hl (by decide) rfl (fun ls hl => ?_)
  refine lv_iconst (v := 0) hx hb dX0_known_138 (by decide) ?_
  refine lv_istore_n (lv' := [(2, .int 0), (1, .ref qa_7), (0, .ref oo_1)]) hx hb dX0_known_139 rfl hl (by decide) rfl (fun ls hl => ?_)
  have hf0 : ∀ j, j < 16 → fo_6 j &&& 255 = (upd (upd (upd (upd (upd (upd (upd (upd (upd (upd (upd (upd (upd (upd (upd (upd (fun _ => 0) (0) 177) (1) 101) (2) 104) (3) 81) (4) 105) (5) 158) (6) 41) (7) 250) (8) 36) (9) 183) (10) 1) (11) 72) (12) 80) (13) 61) (14) 45) (15) 252) j := by
    intro j hj
    rw [tab0 j hj]
    exact ka0 fo_6 (by rw [hufo_6, hufk_4, hufk_3, hufb_5]; rfl) j hj
  have hPl := hP.sub (ws' := [(oo_1, .inr (0, [.ref ad_2.1, .ref ad_2.2.1, .ref ad_2.2.2])), (ad_2.2.2, .inl (cb, 16, .inl fo_6)), (qa_7, .inl (cI, 16, .inl (upd (upd (upd (upd (upd (upd (upd (upd (upd (upd (upd (upd (upd (upd (upd (upd (fun _ => 0) (0) 177) (1) 101) (2) 104) (3) 81) (4) 105) (5) 158) (6) 41) (7) 250) (8) 36) (9) 183) (10) 1) (11) 72) (12) 80) (13) 61) (14) 45) (15) 252)))]) [0, 3, 4] rfl
  refine loopX0_known_0 hf0 hx hb hml hown hts hK hPl (Nat.le_of_ble_eq_true rfl) (Nat.le_of_ble_eq_true rfl) (Nat.le_of_ble_eq_true rfl) (Nat.le_of_ble_eq_true rfl) (fun ls hl => ?_) 17 0 0 (by omega) (by omega) nI_0.symm ls (lv_sub hl [2, 1, 0] rfl)
  have hP := hP.sub (ws' := []) [] rfl
  have hD := hD.sub (ws' := []) [] rfl rfl
  refine va_new (ci := 0) (fs := [.null, .null, .null]) (C := RX1) (T := TX1) (N := 3) hx hb hts in_X1 tyX1 tyX1_ok hown (hts _ q253) (hts _ q27) (hts _ q5) hK hP hD hS hA rfl (fun j hj => by rcases (show j = 0 ∨ j = 1 ∨ j = 2 by omega) with rfl | rfl | rfl <;> rfl) (Nat.le_of_ble_eq_true rfl) (Nat.le_of_ble_eq_true rfl) dX0_known_165 (fun oo_8 H hP hD hS => ?_)
  have hP : va_P G vwCl [(oo_8, .inr (0, [.null, .null, .null]))] H := hP
  have hD : va_D A [(oo_8, .inr (0, [.null, .null, .null]))] := hD
  refine W.widen (k := 11) (n := 126) (by omega) (by omega) ?_
  refine lv_dup hx hb dX0_known_168 rfl ?_
  have hPc := hP.sub (ws' := [(oo_8, .inr (0, [.null, .null, .null]))]) [0] rfl
  have hDc := hD.sub (ws' := [(oo_8, .inr (0, [.null, .null, .null]))]) [0] (by decide) rfl
  have hFc := va_free (wc := [(oo_8, .inr (0, [.null, .null, .null]))]) hD hS hA [0] rfl
  refine call_v (va_runI (As := []) (rest := [.ref oo_8]) ⟨hx, hb, hml, hown, hts⟩ (metX1_init l G cb cI oo_8 _) (cwI 0 hts (lw_meth q256) rfl rfl rfl (hts _ q5) (hts _ q254) (hts _ q255) rfl (by decide +kernel) ⟨Nat.le_of_ble_eq_true rfl, Nat.le_of_ble_eq_true rfl⟩) (preW_S hPc hK hDc (tru_in)) rfl rfl hl.1 rfl (lv_room (Nat.le_of_ble_eq_true rfl)) dX0_known_169 ⟨Nat.le_of_ble_eq_true rfl, Nat.le_of_ble_eq_true rfl⟩) hP hD hS hFc [0] [] (wr := []) rfl rfl (by decide) (by decide) (fun ad_9 H locs huad_9 hP hD hS => ?_)
  have hP : va_P G vwCl [(oo_8, .inr (0, [.ref ad_9.1, .ref ad_9.2.1, .ref ad_9.2.2])), (ad_9.1, .inl (cb, 32, .inl (fun _ => 0))), (ad_9.2.1, .inl (cb, 16, .inl (fun _ => 0))), (ad_9.2.2, .inl (cb, 16, .inl (fun _ => 0)))] H := hP
  have hD : va_D A [(oo_8, .inr (0, [.ref ad_9.1, .ref ad_9.2.1, .ref ad_9.2.2])), (ad_9.1, .inl (cb, 32, .inl (fun _ => 0))), (ad_9.2.1, .inl (cb, 16, .inl (fun _ => 0))), (ad_9.2.2, .inl (cb, 16, .inl (fun _ => 0)))] := hD
  refine W.widen (k := 14) (n := 190) (by omega) (by omega) ?_
  refine lv_astore_n (lv' := [(2, .ref oo_8)]) hx hb dX0_known_172 rfl hl (by decide) rfl (fun ls hl => ?_)
  refine lv_aload_n hx hb dX0_known_173 rfl (lv_at hl 0 rfl) ?_
  refine lv_iconst (v := 0) hx hb dX0_known_174 (by decide) ?_
  refine lv_iconst (v := (-1)) hx hb dX0_known_175 (by decide) ?_
  refine lv_iconst (v := (-1)) hx hb dX0_known_176 (by decide) ?_
  refine lv_iconst (v := (-1)) hx hb dX0_known_177 (by decide) ?_
  refine lv_iconst (v := (-1)) hx hb dX0_known_178 (by decide) ?_
  have hPc := hP.sub (ws' := [(oo_8, .inr (0, [.ref ad_9.1, .ref ad_9.2.1, .ref ad_9.2.2])), (ad_9.1, .inl (cb, 32, .inl (fun _ => 0)))]) [0, 1] rfl
  have hDc := hD.sub (ws' := [(oo_8, .inr (0, [.ref ad_9.1, .ref ad_9.2.1, .ref ad_9.2.2])), (ad_9.1, .inl (cb, 32, .inl (fun _ => 0)))]) [0, 1] (by decide) rfl
  have hFc := va_free (wc := [(oo_8, .inr (0, [.ref ad_9.1, .ref ad_9.2.1, .ref ad_9.2.2])), (ad_9.1, .inl (cb, 32, .inl (fun _ => 0)))]) hD hS hA [0, 1] rfl
  refine call_v (va_runV (As := [.int 0, .int (-1), .int (-1), .int (-1), .int (-1)]) (rest := []) ⟨hx, hb, hml, hown, hts⟩ (metX1_key_0 l G cb cI oo_8 ad_9.1 ad_9.2.1 ad_9.2.2 (fun _ => 0) (-1) (-1) (-1) (-1) _) (cwV 5 hts (lw_V q271 q272 q273 q5 q274) rfl rfl rfl (by decide +kernel) ⟨Nat.le_of_ble_eq_true rfl, Nat.le_of_ble_eq_true rfl⟩) (preW_V (ci := 0) (q0 := 0) hPc hK hDc (tru_in) rfl rfl) rfl rfl hl.1 rfl (lv_room (Nat.le_of_ble_eq_true rfl)) dX0_known_179 ⟨Nat.le_of_ble_eq_true rfl, Nat.le_of_ble_eq_true rfl⟩) hP hD hS hFc [0, 1] [2, 3] (wr := [(ad_9.2.1, .inl (cb, 16, .inl (fun _ => 0))), (ad_9.2.2, .inl (cb, 16, .inl (fun _ => 0)))]) rfl rfl (by decide) (by decide) (fun fk_10 H locs hufk_10 hP hD hS => ?_)
  have hP : va_P G vwCl [(ad_9.2.1, .inl (cb, 16, .inl (fun _ => 0))), (ad_9.2.2, .inl (cb, 16, .inl (fun _ => 0))), (oo_8, .inr (0, [.ref ad_9.1, .ref ad_9.2.1, .ref ad_9.2.2])), (ad_9.1, .inl (cb, 32, .inl fk_10))] H := hP
  have hD : va_D A [(ad_9.2.1, .inl (cb, 16, .inl (fun _ => 0))), (ad_9.2.2, .inl (cb, 16, .inl (fun _ => 0))), (oo_8, .inr (0, [.ref ad_9.1, .ref ad_9.2.1, .ref ad_9.2.2])), (ad_9.1, .inl (cb, 32, .inl fk_10))] := hD
  refine W.widen (k := 14) (n := 190) (by omega) (by omega) ?_
  refine lv_aload_n hx hb dX0_known_182 rfl (lv_at hl 0 rfl) ?_
  refine lv_iconst (v := 1) hx hb dX0_known_183 (by decide) ?_
  refine lv_iconst (v := 0) hx hb dX0_known_184 (by decide) ?_
  refine lv_iconst (v := 0) hx hb dX0_known_185 (by decide) ?_
  refine lv_iconst (v := 0) hx hb dX0_known_186 (by decide) ?_
  refine lv_iconst (v := 0) hx hb dX0_known_187 (by decide) ?_
  have hPc := hP.sub (ws' := [(oo_8, .inr (0, [.ref ad_9.1, .ref ad_9.2.1, .ref ad_9.2.2])), (ad_9.1, .inl (cb, 32, .inl fk_10))]) [2, 3] rfl
  have hDc := hD.sub (ws' := [(oo_8, .inr (0, [.ref ad_9.1, .ref ad_9.2.1, .ref ad_9.2.2])), (ad_9.1, .inl (cb, 32, .inl fk_10))]) [2, 3] (by decide) rfl
  have hFc := va_free (wc := [(oo_8, .inr (0, [.ref ad_9.1, .ref ad_9.2.1, .ref ad_9.2.2])), (ad_9.1, .inl (cb, 32, .inl fk_10))]) hD hS hA [2, 3] rfl
  refine call_v (va_runV (As := [.int 1, .int 0, .int 0, .int 0, .int 0]) (rest := []) ⟨hx, hb, hml, hown, hts⟩ (metX1_key_1 l G cb cI oo_8 ad_9.1 ad_9.2.1 ad_9.2.2 fk_10 0 0 0 0 _) (cwV 5 hts (lw_V q271 q272 q273 q5 q274) rfl rfl rfl (by decide +kernel) ⟨Nat.le_of_ble_eq_true rfl, Nat.le_of_ble_eq_true rfl⟩) (preW_V (ci := 0) (q0 := 0) hPc hK hDc (tru_in) rfl rfl) rfl rfl hl.1 rfl (lv_room (Nat.le_of_ble_eq_true rfl)) dX0_known_188 ⟨Nat.le_of_ble_eq_true rfl, Nat.le_of_ble_eq_true rfl⟩) hP hD hS hFc [2, 3] [0, 1] (wr := [(ad_9.2.1, .inl (cb, 16, .inl (fun _ => 0))), (ad_9.2.2, .inl (cb, 16, .inl (fun _ => 0)))]) rfl rfl (by decide) (by decide) (fun fk_11 H locs hufk_11 hP hD hS => ?_)
  have hP : va_P G vwCl [(ad_9.2.1, .inl (cb, 16, .inl (fun _ => 0))), (ad_9.2.2, .inl (cb, 16, .inl (fun _ => 0))), (oo_8, .inr (0, [.ref ad_9.1, .ref ad_9.2.1, .ref ad_9.2.2])), (ad_9.1, .inl (cb, 32, .inl fk_11))] H := hP
  have hD : va_D A [(ad_9.2.1, .inl (cb, 16, .inl (fun _ => 0))), (ad_9.2.2, .inl (cb, 16, .inl (fun _ => 0))), (oo_8, .inr (0, [.ref ad_9.1, .ref ad_9.2.1, .ref ad_9.2.2])), (ad_9.1, .inl (cb, 32, .inl fk_11))] := hD
  refine W.widen (k := 14) (n := 190) (by omega) (by omega) ?_
  refine lv_aload_n hx hb dX0_known_191 rfl (lv_at hl 0 rfl) ?_
  refine lv_iconst (v := (-1)) hx hb dX0_known_192 (by decide) ?_
  refine lv_iconst (v := (-1)) hx hb dX0_known_193 (by decide) ?_
  refine lv_iconst (v := (-1)) hx hb dX0_known_194 (by decide) ?_
  refine lv_iconst (v := (-1)) hx hb dX0_known_195 (by decide) ?_
  have hPc := hP.sub (ws' := [(oo_8, .inr (0, [.ref ad_9.1, .ref ad_9.2.1, .ref ad_9.2.2])), (ad_9.2.1, .inl (cb, 16, .inl (fun _ => 0)))]) [2, 0] rfl
  have hDc := hD.sub (ws' := [(oo_8, .inr (0, [.ref ad_9.1, .ref ad_9.2.1, .ref ad_9.2.2])), (ad_9.2.1, .inl (cb, 16, .inl (fun _ => 0)))]) [2, 0] (by decide) rfl
  have hFc := va_free (wc := [(oo_8, .inr (0, [.ref ad_9.1, .ref ad_9.2.1, .ref ad_9.2.2])), (ad_9.2.1, .inl (cb, 16, .inl (fun _ => 0)))]) hD hS hA [2, 0] rfl
  refine call_v (va_runV (As := [.int (-1), .int (-1), .int (-1), .int (-1)]) (rest := []) ⟨hx, hb, hml, hown, hts⟩ (metX1_block l G cb cI oo_8 ad_9.1 ad_9.2.1 ad_9.2.2 (fun _ => 0) (-1) (-1) (-1) (-1) _) (cwV 4 hts (lw_V q278 q279 q280 q5 q281) rfl rfl rfl (by decide +kernel) ⟨Nat.le_of_ble_eq_true rfl, Nat.le_of_ble_eq_true rfl⟩) (preW_V (ci := 0) (q0 := 0) hPc hK hDc (tru_in) rfl rfl) rfl rfl hl.1 rfl (lv_room (Nat.le_of_ble_eq_true rfl)) dX0_known_196 ⟨Nat.le_of_ble_eq_true rfl, Nat.le_of_ble_eq_true rfl⟩) hP hD hS hFc [2, 0] [1, 3] (wr := [(ad_9.2.2, .inl (cb, 16, .inl (fun _ => 0))), (ad_9.1, .inl (cb, 32, .inl fk_11))]) rfl rfl (by decide) (by decide) (fun fb_12 H locs hufb_12 hP hD hS => ?_)
  have hP : va_P G vwCl [(ad_9.2.2, .inl (cb, 16, .inl (fun _ => 0))), (ad_9.1, .inl (cb, 32, .inl fk_11)), (oo_8, .inr (0, [.ref ad_9.1, .ref ad_9.2.1, .ref ad_9.2.2])), (ad_9.2.1, .inl (cb, 16, .inl fb_12))] H := hP
  have hD : va_D A [(ad_9.2.2, .inl (cb, 16, .inl (fun _ => 0))), (ad_9.1, .inl (cb, 32, .inl fk_11)), (oo_8, .inr (0, [.ref ad_9.1, .ref ad_9.2.1, .ref ad_9.2.2])), (ad_9.2.1, .inl (cb, 16, .inl fb_12))] := hD
  refine W.widen (k := 14) (n := 190) (by omega) (by omega) ?_
  refine lv_aload_n hx hb dX0_known_199 rfl (lv_at hl 0 rfl) ?_
  refine lv_iconst (v := 0) hx hb dX0_known_200 (by decide) ?_
  have hPc := hP.sub (ws' := [(oo_8, .inr (0, [.ref ad_9.1, .ref ad_9.2.1, .ref ad_9.2.2])), (ad_9.1, .inl (cb, 32, .inl fk_11)), (ad_9.2.1, .inl (cb, 16, .inl fb_12)), (ad_9.2.2, .inl (cb, 16, .inl (fun _ => 0)))]) [2, 1, 3, 0] rfl
  have hDc := hD.sub (ws' := [(oo_8, .inr (0, [.ref ad_9.1, .ref ad_9.2.1, .ref ad_9.2.2])), (ad_9.1, .inl (cb, 32, .inl fk_11)), (ad_9.2.1, .inl (cb, 16, .inl fb_12)), (ad_9.2.2, .inl (cb, 16, .inl (fun _ => 0)))]) [2, 1, 3, 0] (by decide) rfl
  have hFc := va_free (wc := [(oo_8, .inr (0, [.ref ad_9.1, .ref ad_9.2.1, .ref ad_9.2.2])), (ad_9.1, .inl (cb, 32, .inl fk_11)), (ad_9.2.1, .inl (cb, 16, .inl fb_12)), (ad_9.2.2, .inl (cb, 16, .inl (fun _ => 0)))]) hD hS hA [2, 1, 3, 0] rfl
  refine call_v (va_runV (As := [.int 0]) (rest := []) ⟨hx, hb, hml, hown, hts⟩ (metX1_lock l G cb cI t oo_8 ad_9.1 ad_9.2.1 ad_9.2.2 fk_11 fb_12 (fun _ => 0) 0 _) (cwV 1 hts (lw_V q20 q21 q22 q5 q23) rfl rfl rfl (by decide +kernel) ⟨Nat.le_of_ble_eq_true rfl, Nat.le_of_ble_eq_true rfl⟩) (preW_V (ci := 0) (q0 := 0) hPc hK hDc (ctx_in hE hS hFc) rfl rfl) rfl rfl hl.1 rfl (lv_room (Nat.le_of_ble_eq_true rfl)) dX0_known_201 ⟨Nat.le_of_ble_eq_true rfl, Nat.le_of_ble_eq_true rfl⟩) hP hD hS hFc [2, 1, 3, 0] [] (wr := []) rfl rfl (by decide) (by decide) (fun fo_13 H locs hufo_13 hP hD hS => ?_)
  have hP : va_P G vwCl [(oo_8, .inr (0, [.ref ad_9.1, .ref ad_9.2.1, .ref ad_9.2.2])), (ad_9.1, .inl (cb, 32, .inl fk_11)), (ad_9.2.1, .inl (cb, 16, .inl fb_12)), (ad_9.2.2, .inl (cb, 16, .inl fo_13))] H := hP
  have hD : va_D A [(oo_8, .inr (0, [.ref ad_9.1, .ref ad_9.2.1, .ref ad_9.2.2])), (ad_9.1, .inl (cb, 32, .inl fk_11)), (ad_9.2.1, .inl (cb, 16, .inl fb_12)), (ad_9.2.2, .inl (cb, 16, .inl fo_13))] := hD
  refine W.widen (k := 19) (n := 230) (by omega) (by omega) ?_
  refine lv_bipush (v := 16) hx hb dX0_known_204 (by decide) ?_
  refine va_newa (atype := .int) (ty := .int) (a0 := (16, .inl (fun _ => 0))) (N' := 16) hx hb (hts _ q51) rfl hK hP hD hS hA (fun _ => rfl) (by decide) (by decide) (Nat.le_of_ble_eq_true rfl) (Nat.le_of_ble_eq_true rfl) (Nat.le_of_ble_eq_true rfl) dX0_known_206 (fun qa_14 cA H hK hP hD hS => ?_)
  have hcA : cI = cA := ki_eq hK
  subst hcA
  have hK := hK.sub (tys' := [(cb, .byte), (cI, .int)]) [0, 1] rfl
  have hP : va_P G vwCl [(oo_8, .inr (0, [.ref ad_9.1, .ref ad_9.2.1, .ref ad_9.2.2])), (ad_9.1, .inl (cb, 32, .inl fk_11)), (ad_9.2.1, .inl (cb, 16, .inl fb_12)), (ad_9.2.2, .inl (cb, 16, .inl fo_13)), (qa_14, .inl (cI, 16, .inl (fun _ => 0)))] H := hP
  have hD : va_D A [(oo_8, .inr (0, [.ref ad_9.1, .ref ad_9.2.1, .ref ad_9.2.2])), (ad_9.1, .inl (cb, 32, .inl fk_11)), (ad_9.2.1, .inl (cb, 16, .inl fb_12)), (ad_9.2.2, .inl (cb, 16, .inl fo_13)), (qa_14, .inl (cI, 16, .inl (fun _ => 0)))] := hD
  refine W.widen (k := 20) (n := 246) (by omega) (by omega) ?_
  refine lv_dup hx hb dX0_known_208 rfl ?_
  refine lv_iconst (v := 0) hx hb dX0_known_209 (by decide) ?_
  refine lv_bipush (v := 42) hx hb dX0_known_210 (by decide) ?_
  refine va_iast hx hb hK hP hD hS 4 1 rfl rfl in_0_16 dX0_known_212 (fun H locs hP hD hS => ?_)
  rw [cl_0] at hP hD
  have hP : va_P G vwCl [(oo_8, .inr (0, [.ref ad_9.1, .ref ad_9.2.1, .ref ad_9.2.2])), (ad_9.1, .inl (cb, 32, .inl fk_11)), (ad_9.2.1, .inl (cb, 16, .inl fb_12)), (ad_9.2.2, .inl (cb, 16, .inl fo_13)), (qa_14, .inl (cI, 16, .inl (upd (fun _ => 0) (0) 42)))] H := hP
  have hD : va_D A [(oo_8, .inr (0, [.ref ad_9.1, .ref ad_9.2.1, .ref ad_9.2.2])), (ad_9.1, .inl (cb, 32, .inl fk_11)), (ad_9.2.1, .inl (cb, 16, .inl fb_12)), (ad_9.2.2, .inl (cb, 16, .inl fo_13)), (qa_14, .inl (cI, 16, .inl (upd (fun _ => 0) (0) 42)))] := hD
  refine lv_dup hx hb dX0_known_213 rfl ?_
  refine lv_iconst (v := 1) hx hb dX0_known_214 (by decide) ?_
  refine lv_bipush (v := 120) hx hb dX0_known_215 (by decide) ?_
  refine va_iast hx hb hK hP hD hS 4 1 rfl rfl in_1_16 dX0_known_217 (fun H locs hP hD hS => ?_)
  rw [cl_1] at hP hD
  have hP : va_P G vwCl [(oo_8, .inr (0, [.ref ad_9.1, .ref ad_9.2.1, .ref ad_9.2.2])), (ad_9.1, .inl (cb, 32, .inl fk_11)), (ad_9.2.1, .inl (cb, 16, .inl fb_12)), (ad_9.2.2, .inl (cb, 16, .inl fo_13)), (qa_14, .inl (cI, 16, .inl (upd (upd (fun _ => 0) (0) 42) (1) 120)))] H := hP
  have hD : va_D A [(oo_8, .inr (0, [.ref ad_9.1, .ref ad_9.2.1, .ref ad_9.2.2])), (ad_9.1, .inl (cb, 32, .inl fk_11)), (ad_9.2.1, .inl (cb, 16, .inl fb_12)), (ad_9.2.2, .inl (cb, 16, .inl fo_13)), (qa_14, .inl (cI, 16, .inl (upd (upd (fun _ => 0) (0) 42) (1) 120)))] := hD
  refine lv_dup hx hb dX0_known_218 rfl ?_
  refine lv_iconst (v := 2) hx hb dX0_known_219 (by decide) ?_
  refine lv_bipush (v := 66) hx hb dX0_known_220 (by decide) ?_
  refine va_iast hx hb hK hP hD hS 4 1 rfl rfl in_2_16 dX0_known_222 (fun H locs hP hD hS => ?_)
  rw [cl_2] at hP hD
  have hP : va_P G vwCl [(oo_8, .inr (0, [.ref ad_9.1, .ref ad_9.2.1, .ref ad_9.2.2])), (ad_9.1, .inl (cb, 32, .inl fk_11)), (ad_9.2.1, .inl (cb, 16, .inl fb_12)), (ad_9.2.2, .inl (cb, 16, .inl fo_13)), (qa_14, .inl (cI, 16, .inl (upd (upd (upd (fun _ => 0) (0) 42) (1) 120) (2) 66)))] H := hP
  have hD : va_D A [(oo_8, .inr (0, [.ref ad_9.1, .ref ad_9.2.1, .ref ad_9.2.2])), (ad_9.1, .inl (cb, 32, .inl fk_11)), (ad_9.2.1, .inl (cb, 16, .inl fb_12)), (ad_9.2.2, .inl (cb, 16, .inl fo_13)), (qa_14, .inl (cI, 16, .inl (upd (upd (upd (fun _ => 0) (0) 42) (1) 120) (2) 66)))] := hD
  refine lv_dup hx hb dX0_known_223 rfl ?_
  refine lv_iconst (v := 3) hx hb dX0_known_224 (by decide) ?_
  refine lv_bipush (v := 27) hx hb dX0_known_225 (by decide) ?_
  refine va_iast hx hb hK hP hD hS 4 1 rfl rfl in_3_16 dX0_known_227 (fun H locs hP hD hS => ?_)
  rw [cl_3] at hP hD
  have hP : va_P G vwCl [(oo_8, .inr (0, [.ref ad_9.1, .ref ad_9.2.1, .ref ad_9.2.2])), (ad_9.1, .inl (cb, 32, .inl fk_11)), (ad_9.2.1, .inl (cb, 16, .inl fb_12)), (ad_9.2.2, .inl (cb, 16, .inl fo_13)), (qa_14, .inl (cI, 16, .inl (upd (upd (upd (upd (fun _ => 0) (0) 42) (1) 120) (2) 66) (3) 27)))] H := hP
  have hD : va_D A [(oo_8, .inr (0, [.ref ad_9.1, .ref ad_9.2.1, .ref ad_9.2.2])), (ad_9.1, .inl (cb, 32, .inl fk_11)), (ad_9.2.1, .inl (cb, 16, .inl fb_12)), (ad_9.2.2, .inl (cb, 16, .inl fo_13)), (qa_14, .inl (cI, 16, .inl (upd (upd (upd (upd (fun _ => 0) (0) 42) (1) 120) (2) 66) (3) 27)))] := hD
  refine lv_dup hx hb dX0_known_228 rfl ?_
  refine lv_iconst (v := 4) hx hb dX0_known_229 (by decide) ?_
  refine lv_sipush (v := 135) hx hb dX0_known_230 (by decide) ?_
  refine va_iast hx hb hK hP hD hS 4 1 rfl rfl in_4_16 dX0_known_233 (fun H locs hP hD hS => ?_)
  rw [cl_4] at hP hD
  have hP : va_P G vwCl [(oo_8, .inr (0, [.ref ad_9.1, .ref ad_9.2.1, .ref ad_9.2.2])), (ad_9.1, .inl (cb, 32, .inl fk_11)), (ad_9.2.1, .inl (cb, 16, .inl fb_12)), (ad_9.2.2, .inl (cb, 16, .inl fo_13)), (qa_14, .inl (cI, 16, .inl (upd (upd (upd (upd (upd (fun _ => 0) (0) 42) (1) 120) (2) 66) (3) 27) (4) 135)))] H := hP
  have hD : va_D A [(oo_8, .inr (0, [.ref ad_9.1, .ref ad_9.2.1, .ref ad_9.2.2])), (ad_9.1, .inl (cb, 32, .inl fk_11)), (ad_9.2.1, .inl (cb, 16, .inl fb_12)), (ad_9.2.2, .inl (cb, 16, .inl fo_13)), (qa_14, .inl (cI, 16, .inl (upd (upd (upd (upd (upd (fun _ => 0) (0) 42) (1) 120) (2) 66) (3) 27) (4) 135)))] := hD
  refine lv_dup hx hb dX0_known_234 rfl ?_
  refine lv_iconst (v := 5) hx hb dX0_known_235 (by decide) ?_
  refine lv_sipush (v := 199) hx hb dX0_known_236 (by decide) ?_
  refine va_iast hx hb hK hP hD hS 4 1 rfl rfl in_5_16 dX0_known_239 (fun H locs hP hD hS => ?_)
  rw [cl_5] at hP hD
  have hP : va_P G vwCl [(oo_8, .inr (0, [.ref ad_9.1, .ref ad_9.2.1, .ref ad_9.2.2])), (ad_9.1, .inl (cb, 32, .inl fk_11)), (ad_9.2.1, .inl (cb, 16, .inl fb_12)), (ad_9.2.2, .inl (cb, 16, .inl fo_13)), (qa_14, .inl (cI, 16, .inl (upd (upd (upd (upd (upd (upd (fun _ => 0) (0) 42) (1) 120) (2) 66) (3) 27) (4) 135) (5) 199)))] H := hP
  have hD : va_D A [(oo_8, .inr (0, [.ref ad_9.1, .ref ad_9.2.1, .ref ad_9.2.2])), (ad_9.1, .inl (cb, 32, .inl fk_11)), (ad_9.2.1, .inl (cb, 16, .inl fb_12)), (ad_9.2.2, .inl (cb, 16, .inl fo_13)), (qa_14, .inl (cI, 16, .inl (upd (upd (upd (upd (upd (upd (fun _ => 0) (0) 42) (1) 120) (2) 66) (3) 27) (4) 135) (5) 199)))] := hD
  refine lv_dup hx hb dX0_known_240 rfl ?_
  refine lv_bipush (v := 6) hx hb dX0_known_241 (by decide) ?_
  refine lv_sipush (v := 208) hx hb dX0_known_243 (by decide) ?_
  refine va_iast hx hb hK hP hD hS 4 1 rfl rfl in_6_16 dX0_known_246 (fun H locs hP hD hS => ?_)
  rw [cl_6] at hP hD
  have hP : va_P G vwCl [(oo_8, .inr (0, [.ref ad_9.1, .ref ad_9.2.1, .ref ad_9.2.2])), (ad_9.1, .inl (cb, 32, .inl fk_11)), (ad_9.2.1, .inl (cb, 16, .inl fb_12)), (ad_9.2.2, .inl (cb, 16, .inl fo_13)), (qa_14, .inl (cI, 16, .inl (upd (upd (upd (upd (upd (upd (upd (fun _ => 0) (0) 42) (1) 120) (2) 66) (3) 27) (4) 135) (5) 199) (6) 208)))] H := hP
  have hD : va_D A [(oo_8, .inr (0, [.ref ad_9.1, .ref ad_9.2.1, .ref ad_9.2.2])), (ad_9.1, .inl (cb, 32, .inl fk_11)), (ad_9.2.1, .inl (cb, 16, .inl fb_12)), (ad_9.2.2, .inl (cb, 16, .inl fo_13)), (qa_14, .inl (cI, 16, .inl (upd (upd (upd (upd (upd (upd (upd (fun _ => 0) (0) 42) (1) 120) (2) 66) (3) 27) (4) 135) (5) 199) (6) 208)))] := hD
  refine lv_dup hx hb dX0_known_247 rfl ?_
  refine lv_bipush (v := 7) hx hb dX0_known_248 (by decide) ?_
  refine lv_sipush (v := 146) hx hb dX0_known_250 (by decide) ?_
  refine va_iast hx hb hK hP hD hS 4 1 rfl rfl in_7_16 dX0_known_253 (fun H locs hP hD hS => ?_)
  rw [cl_7] at hP hD
  have hP : va_P G vwCl [(oo_8, .inr (0, [.ref ad_9.1, .ref ad_9.2.1, .ref ad_9.2.2])), (ad_9.1, .inl (cb, 32, .inl fk_11)), (ad_9.2.1, .inl (cb, 16, .inl fb_12)), (ad_9.2.2, .inl (cb, 16, .inl fo_13)), (qa_14, .inl (cI, 16, .inl (upd (upd (upd (upd (upd (upd (upd (upd (fun _ => 0) (0) 42) (1) 120) (2) 66) (3) 27) (4) 135) (5) 199) (6) 208) (7) 146)))] H := hP
  have hD : va_D A [(oo_8, .inr (0, [.ref ad_9.1, .ref ad_9.2.1, .ref ad_9.2.2])), (ad_9.1, .inl (cb, 32, .inl fk_11)), (ad_9.2.1, .inl (cb, 16, .inl fb_12)), (ad_9.2.2, .inl (cb, 16, .inl fo_13)), (qa_14, .inl (cI, 16, .inl (upd (upd (upd (upd (upd (upd (upd (upd (fun _ => 0) (0) 42) (1) 120) (2) 66) (3) 27) (4) 135) (5) 199) (6) 208) (7) 146)))] := hD
  refine lv_dup hx hb dX0_known_254 rfl ?_
  refine lv_bipush (v := 8) hx hb dX0_known_255 (by decide) ?_
  refine lv_bipush (v := 79) hx hb dX0_known_257 (by decide) ?_
  refine va_iast hx hb hK hP hD hS 4 1 rfl rfl in_8_16 dX0_known_259 (fun H locs hP hD hS => ?_)
  rw [cl_8] at hP hD
  have hP : va_P G vwCl [(oo_8, .inr (0, [.ref ad_9.1, .ref ad_9.2.1, .ref ad_9.2.2])), (ad_9.1, .inl (cb, 32, .inl fk_11)), (ad_9.2.1, .inl (cb, 16, .inl fb_12)), (ad_9.2.2, .inl (cb, 16, .inl fo_13)), (qa_14, .inl (cI, 16, .inl (upd (upd (upd (upd (upd (upd (upd (upd (upd (fun _ => 0) (0) 42) (1) 120) (2) 66) (3) 27) (4) 135) (5) 199) (6) 208) (7) 146) (8) 79)))] H := hP
  have hD : va_D A [(oo_8, .inr (0, [.ref ad_9.1, .ref ad_9.2.1, .ref ad_9.2.2])), (ad_9.1, .inl (cb, 32, .inl fk_11)), (ad_9.2.1, .inl (cb, 16, .inl fb_12)), (ad_9.2.2, .inl (cb, 16, .inl fo_13)), (qa_14, .inl (cI, 16, .inl (upd (upd (upd (upd (upd (upd (upd (upd (upd (fun _ => 0) (0) 42) (1) 120) (2) 66) (3) 27) (4) 135) (5) 199) (6) 208) (7) 146) (8) 79)))] := hD
  refine lv_dup hx hb dX0_known_260 rfl ?_
  refine lv_bipush (v := 9) hx hb dX0_known_261 (by decide) ?_
  refine lv_bipush (v := 38) hx hb dX0_known_263 (by decide) ?_
  refine va_iast hx hb hK hP hD hS 4 1 rfl rfl in_9_16 dX0_known_265 (fun H locs hP hD hS => ?_)
  rw [cl_9] at hP hD
  have hP : va_P G vwCl [(oo_8, .inr (0, [.ref ad_9.1, .ref ad_9.2.1, .ref ad_9.2.2])), (ad_9.1, .inl (cb, 32, .inl fk_11)), (ad_9.2.1, .inl (cb, 16, .inl fb_12)), (ad_9.2.2, .inl (cb, 16, .inl fo_13)), (qa_14, .inl (cI, 16, .inl (upd (upd (upd (upd (upd (upd (upd (upd (upd (upd (fun _ => 0) (0) 42) (1) 120) (2) 66) (3) 27) (4) 135) (5) 199) (6) 208) (7) 146) (8) 79) (9) 38)))] H := hP
  have hD : va_D A [(oo_8, .inr (0, [.ref ad_9.1, .ref ad_9.2.1, .ref ad_9.2.2])), (ad_9.1, .inl (cb, 32, .inl fk_11)), (ad_9.2.1, .inl (cb, 16, .inl fb_12)), (ad_9.2.2, .inl (cb, 16, .inl fo_13)), (qa_14, .inl (cI, 16, .inl (upd (upd (upd (upd (upd (upd (upd (upd (upd (upd (fun _ => 0) (0) 42) (1) 120) (2) 66) (3) 27) (4) 135) (5) 199) (6) 208) (7) 146) (8) 79) (9) 38)))] := hD
  refine lv_dup hx hb dX0_known_266 rfl ?_
  refine lv_bipush (v := 10) hx hb dX0_known_267 (by decide) ?_
  refine lv_bipush (v := 17) hx hb dX0_known_269 (by decide) ?_
  refine va_iast hx hb hK hP hD hS 4 1 rfl rfl in_10_16 dX0_known_271 (fun H locs hP hD hS => ?_)
  rw [cl_10] at hP hD
  have hP : va_P G vwCl [(oo_8, .inr (0, [.ref ad_9.1, .ref ad_9.2.1, .ref ad_9.2.2])), (ad_9.1, .inl (cb, 32, .inl fk_11)), (ad_9.2.1, .inl (cb, 16, .inl fb_12)), (ad_9.2.2, .inl (cb, 16, .inl fo_13)), (qa_14, .inl (cI, 16, .inl (upd (upd (upd (upd (upd (upd (upd (upd (upd (upd (upd (fun _ => 0) (0) 42) (1) 120) (2) 66) (3) 27) (4) 135) (5) 199) (6) 208) (7) 146) (8) 79) (9) 38) (10) 17)))] H := hP
  have hD : va_D A [(oo_8, .inr (0, [.ref ad_9.1, .ref ad_9.2.1, .ref ad_9.2.2])), (ad_9.1, .inl (cb, 32, .inl fk_11)), (ad_9.2.1, .inl (cb, 16, .inl fb_12)), (ad_9.2.2, .inl (cb, 16, .inl fo_13)), (qa_14, .inl (cI, 16, .inl (upd (upd (upd (upd (upd (upd (upd (upd (upd (upd (upd (fun _ => 0) (0) 42) (1) 120) (2) 66) (3) 27) (4) 135) (5) 199) (6) 208) (7) 146) (8) 79) (9) 38) (10) 17)))] := hD
  refine lv_dup hx hb dX0_known_272 rfl ?_
  refine lv_bipush (v := 11) hx hb dX0_known_273 (by decide) ?_
  refine lv_bipush (v := 63) hx hb dX0_known_275 (by decide) ?_
  refine va_iast hx hb hK hP hD hS 4 1 rfl rfl in_11_16 dX0_known_277 (fun H locs hP hD hS => ?_)
  rw [cl_11] at hP hD
  have hP : va_P G vwCl [(oo_8, .inr (0, [.ref ad_9.1, .ref ad_9.2.1, .ref ad_9.2.2])), (ad_9.1, .inl (cb, 32, .inl fk_11)), (ad_9.2.1, .inl (cb, 16, .inl fb_12)), (ad_9.2.2, .inl (cb, 16, .inl fo_13)), (qa_14, .inl (cI, 16, .inl (upd (upd (upd (upd (upd (upd (upd (upd (upd (upd (upd (upd (fun _ => 0) (0) 42) (1) 120) (2) 66) (3) 27) (4) 135) (5) 199) (6) 208) (7) 146) (8) 79) (9) 38) (10) 17) (11) 63)))] H := hP
  have hD : va_D A [(oo_8, .inr (0, [.ref ad_9.1, .ref ad_9.2.1, .ref ad_9.2.2])), (ad_9.1, .inl (cb, 32, .inl fk_11)), (ad_9.2.1, .inl (cb, 16, .inl fb_12)), (ad_9.2.2, .inl (cb, 16, .inl fo_13)), (qa_14, .inl (cI, 16, .inl (upd (upd (upd (upd (upd (upd (upd (upd (upd (upd (upd (upd (fun _ => 0) (0) 42) (1) 120) (2) 66) (3) 27) (4) 135) (5) 199) (6) 208) (7) 146) (8) 79) (9) 38) (10) 17) (11) 63)))] := hD
  refine lv_dup hx hb dX0_known_278 rfl ?_
  refine lv_bipush (v := 12) hx hb dX0_known_279 (by decide) ?_
  refine lv_bipush (v := 29) hx hb dX0_known_281 (by decide) ?_
  refine va_iast hx hb hK hP hD hS 4 1 rfl rfl in_12_16 dX0_known_283 (fun H locs hP hD hS => ?_)
  rw [cl_12] at hP hD
  have hP : va_P G vwCl [(oo_8, .inr (0, [.ref ad_9.1, .ref ad_9.2.1, .ref ad_9.2.2])), (ad_9.1, .inl (cb, 32, .inl fk_11)), (ad_9.2.1, .inl (cb, 16, .inl fb_12)), (ad_9.2.2, .inl (cb, 16, .inl fo_13)), (qa_14, .inl (cI, 16, .inl (upd (upd (upd (upd (upd (upd (upd (upd (upd (upd (upd (upd (upd (fun _ => 0) (0) 42) (1) 120) (2) 66) (3) 27) (4) 135) (5) 199) (6) 208) (7) 146) (8) 79) (9) 38) (10) 17) (11) 63) (12) 29)))] H := hP
  have hD : va_D A [(oo_8, .inr (0, [.ref ad_9.1, .ref ad_9.2.1, .ref ad_9.2.2])), (ad_9.1, .inl (cb, 32, .inl fk_11)), (ad_9.2.1, .inl (cb, 16, .inl fb_12)), (ad_9.2.2, .inl (cb, 16, .inl fo_13)), (qa_14, .inl (cI, 16, .inl (upd (upd (upd (upd (upd (upd (upd (upd (upd (upd (upd (upd (upd (fun _ => 0) (0) 42) (1) 120) (2) 66) (3) 27) (4) 135) (5) 199) (6) 208) (7) 146) (8) 79) (9) 38) (10) 17) (11) 63) (12) 29)))] := hD
  refine lv_dup hx hb dX0_known_284 rfl ?_
  refine lv_bipush (v := 13) hx hb dX0_known_285 (by decide) ?_
  refine lv_bipush (v := 19) hx hb dX0_known_287 (by decide) ?_
  refine va_iast hx hb hK hP hD hS 4 1 rfl rfl in_13_16 dX0_known_289 (fun H locs hP hD hS => ?_)
  rw [cl_13] at hP hD
  have hP : va_P G vwCl [(oo_8, .inr (0, [.ref ad_9.1, .ref ad_9.2.1, .ref ad_9.2.2])), (ad_9.1, .inl (cb, 32, .inl fk_11)), (ad_9.2.1, .inl (cb, 16, .inl fb_12)), (ad_9.2.2, .inl (cb, 16, .inl fo_13)), (qa_14, .inl (cI, 16, .inl (upd (upd (upd (upd (upd (upd (upd (upd (upd (upd (upd (upd (upd (upd (fun _ => 0) (0) 42) (1) 120) (2) 66) (3) 27) (4) 135) (5) 199) (6) 208) (7) 146) (8) 79) (9) 38) (10) 17) (11) 63) (12) 29) (13) 19)))] H := hP
  have hD : va_D A [(oo_8, .inr (0, [.ref ad_9.1, .ref ad_9.2.1, .ref ad_9.2.2])), (ad_9.1, .inl (cb, 32, .inl fk_11)), (ad_9.2.1, .inl (cb, 16, .inl fb_12)), (ad_9.2.2, .inl (cb, 16, .inl fo_13)), (qa_14, .inl (cI, 16, .inl (upd (upd (upd (upd (upd (upd (upd (upd (upd (upd (upd (upd (upd (upd (fun _ => 0) (0) 42) (1) 120) (2) 66) (3) 27) (4) 135) (5) 199) (6) 208) (7) 146) (8) 79) (9) 38) (10) 17) (11) 63) (12) 29) (13) 19)))] := hD
  refine lv_dup hx hb dX0_known_290 rfl ?_
  refine lv_bipush (v := 14) hx hb dX0_known_291 (by decide) ?_
  refine lv_bipush (v := 73) hx hb dX0_known_293 (by decide) ?_
  refine va_iast hx hb hK hP hD hS 4 1 rfl rfl in_14_16 dX0_known_295 (fun H locs hP hD hS => ?_)
  rw [cl_14] at hP hD
  have hP : va_P G vwCl [(oo_8, .inr (0, [.ref ad_9.1, .ref ad_9.2.1, .ref ad_9.2.2])), (ad_9.1, .inl (cb, 32, .inl fk_11)), (ad_9.2.1, .inl (cb, 16, .inl fb_12)), (ad_9.2.2, .inl (cb, 16, .inl fo_13)), (qa_14, .inl (cI, 16, .inl (upd (upd (upd (upd (upd (upd (upd (upd (upd (upd (upd (upd (upd (upd (upd (fun _ => 0) (0) 42) (1) 120) (2) 66) (3) 27) (4) 135) (5) 199) (6) 208) (7) 146) (8) 79) (9) 38) (10) 17) (11) 63) (12) 29) (13) 19) (14) 73)))] H := hP
  have hD : va_D A [(oo_8, .inr (0, [.ref ad_9.1, .ref ad_9.2.1, .ref ad_9.2.2])), (ad_9.1, .inl (cb, 32, .inl fk_11)), (ad_9.2.1, .inl (cb, 16, .inl fb_12)), (ad_9.2.2, .inl (cb, 16, .inl fo_13)), (qa_14, .inl (cI, 16, .inl (upd (upd (upd (upd (upd (upd (upd (upd (upd (upd (upd (upd (upd (upd (upd (fun _ => 0) (0) 42) (1) 120) (2) 66) (3) 27) (4) 135) (5) 199) (6) 208) (7) 146) (8) 79) (9) 38) (10) 17) (11) 63) (12) 29) (13) 19) (14) 73)))] := hD
  refine lv_dup hx hb dX0_known_296 rfl ?_
  refine lv_bipush (v := 15) hx hb dX0_known_297 (by decide) ?_
  refine lv_sipush (v := 178) hx hb dX0_known_299 (by decide) ?_
  refine va_iast hx hb hK hP hD hS 4 1 rfl rfl in_15_16 dX0_known_302 (fun H locs hP hD hS => ?_)
  rw [cl_15] at hP hD
  have hP : va_P G vwCl [(oo_8, .inr (0, [.ref ad_9.1, .ref ad_9.2.1, .ref ad_9.2.2])), (ad_9.1, .inl (cb, 32, .inl fk_11)), (ad_9.2.1, .inl (cb, 16, .inl fb_12)), (ad_9.2.2, .inl (cb, 16, .inl fo_13)), (qa_14, .inl (cI, 16, .inl (upd (upd (upd (upd (upd (upd (upd (upd (upd (upd (upd (upd (upd (upd (upd (upd (fun _ => 0) (0) 42) (1) 120) (2) 66) (3) 27) (4) 135) (5) 199) (6) 208) (7) 146) (8) 79) (9) 38) (10) 17) (11) 63) (12) 29) (13) 19) (14) 73) (15) 178)))] H := hP
  have hD : va_D A [(oo_8, .inr (0, [.ref ad_9.1, .ref ad_9.2.1, .ref ad_9.2.2])), (ad_9.1, .inl (cb, 32, .inl fk_11)), (ad_9.2.1, .inl (cb, 16, .inl fb_12)), (ad_9.2.2, .inl (cb, 16, .inl fo_13)), (qa_14, .inl (cI, 16, .inl (upd (upd (upd (upd (upd (upd (upd (upd (upd (upd (upd (upd (upd (upd (upd (upd (fun _ => 0) (0) 42) (1) 120) (2) 66) (3) 27) (4) 135) (5) 199) (6) 208) (7) 146) (8) 79) (9) 38) (10) 17) (11) 63) (12) 29) (13) 19) (14) 73) (15) 178)))] := hD
  refine lv_astore_n (lv' := [(3, .ref qa_14), (2, .ref oo_8)]) hx hb dX0_known_303 rfl hl (by decide) rfl (fun ls hl => ?_)
  refine lv_iconst (v := 0) hx hb dX0_known_304 (by decide) ?_
  refine lv_istore (lv' := [(4, .int 0), (3, .ref qa_14), (2, .ref oo_8)]) hx hb dX0_known_305 hl (by decide) rfl (fun ls hl => ?_)
  have hf1 : ∀ j, j < 16 → fo_13 j &&& 255 = (upd (upd (upd (upd (upd (upd (upd (upd (upd (upd (upd (upd (upd (upd (upd (upd (fun _ => 0) (0) 42) (1) 120) (2) 66) (3) 27) (4) 135) (5) 199) (6) 208) (7) 146) (8) 79) (9) 38) (10) 17) (11) 63) (12) 29) (13) 19) (14) 73) (15) 178) j := by
    intro j hj
    rw [tab1 j hj]
    exact ka1 fo_13 (by rw [hufo_13, hufk_11, hufk_10, hufb_12]; rfl) j hj
  have hPl := hP.sub (ws' := [(oo_8, .inr (0, [.ref ad_9.1, .ref ad_9.2.1, .ref ad_9.2.2])), (ad_9.2.2, .inl (cb, 16, .inl fo_13)), (qa_14, .inl (cI, 16, .inl (upd (upd (upd (upd (upd (upd (upd (upd (upd (upd (upd (upd (upd (upd (upd (upd (fun _ => 0) (0) 42) (1) 120) (2) 66) (3) 27) (4) 135) (5) 199) (6) 208) (7) 146) (8) 79) (9) 38) (10) 17) (11) 63) (12) 29) (13) 19) (14) 73) (15) 178)))]) [0, 3, 4] rfl
  refine loopX0_known_1 hf1 hx hb hml hown hts hK hPl (Nat.le_of_ble_eq_true rfl) (Nat.le_of_ble_eq_true rfl) (Nat.le_of_ble_eq_true rfl) (Nat.le_of_ble_eq_true rfl) (fun ls hl => ?_) 17 0 0 (by omega) (by omega) nI_0.symm ls (lv_sub hl [2, 1, 0] rfl)
  have hP := hP.sub (ws' := []) [] rfl
  have hD := hD.sub (ws' := []) [] rfl rfl
  refine va_new (ci := 0) (fs := [.null, .null, .null]) (C := RX1) (T := TX1) (N := 3) hx hb hts in_X1 tyX1 tyX1_ok hown (hts _ q253) (hts _ q27) (hts _ q5) hK hP hD hS hA rfl (fun j hj => by rcases (show j = 0 ∨ j = 1 ∨ j = 2 by omega) with rfl | rfl | rfl <;> rfl) (Nat.le_of_ble_eq_true rfl) (Nat.le_of_ble_eq_true rfl) dX0_known_335 (fun oo_15 H hP hD hS => ?_)
  have hP : va_P G vwCl [(oo_15, .inr (0, [.null, .null, .null]))] H := hP
  have hD : va_D A [(oo_15, .inr (0, [.null, .null, .null]))] := hD
  refine W.widen (k := 21) (n := 249) (by omega) (by omega) ?_
  refine lv_dup hx hb dX0_known_338 rfl ?_
  have hPc := hP.sub (ws' := [(oo_15, .inr (0, [.null, .null, .null]))]) [0] rfl
  have hDc := hD.sub (ws' := [(oo_15, .inr (0, [.null, .null, .null]))]) [0] (by decide) rfl
  have hFc := va_free (wc := [(oo_15, .inr (0, [.null, .null, .null]))]) hD hS hA [0] rfl
  refine call_v (va_runI (As := []) (rest := [.ref oo_15]) ⟨hx, hb, hml, hown, hts⟩ (metX1_init l G cb cI oo_15 _) (cwI 0 hts (lw_meth q256) rfl rfl rfl (hts _ q5) (hts _ q254) (hts _ q255) rfl (by decide +kernel) ⟨Nat.le_of_ble_eq_true rfl, Nat.le_of_ble_eq_true rfl⟩) (preW_S hPc hK hDc (tru_in)) rfl rfl hl.1 rfl (lv_room (Nat.le_of_ble_eq_true rfl)) dX0_known_339 ⟨Nat.le_of_ble_eq_true rfl, Nat.le_of_ble_eq_true rfl⟩) hP hD hS hFc [0] [] (wr := []) rfl rfl (by decide) (by decide) (fun ad_16 H locs huad_16 hP hD hS => ?_)
  have hP : va_P G vwCl [(oo_15, .inr (0, [.ref ad_16.1, .ref ad_16.2.1, .ref ad_16.2.2])), (ad_16.1, .inl (cb, 32, .inl (fun _ => 0))), (ad_16.2.1, .inl (cb, 16, .inl (fun _ => 0))), (ad_16.2.2, .inl (cb, 16, .inl (fun _ => 0)))] H := hP
  have hD : va_D A [(oo_15, .inr (0, [.ref ad_16.1, .ref ad_16.2.1, .ref ad_16.2.2])), (ad_16.1, .inl (cb, 32, .inl (fun _ => 0))), (ad_16.2.1, .inl (cb, 16, .inl (fun _ => 0))), (ad_16.2.2, .inl (cb, 16, .inl (fun _ => 0)))] := hD
  refine W.widen (k := 24) (n := 313) (by omega) (by omega) ?_
  refine lv_astore (lv' := [(4, .ref oo_15)]) hx hb dX0_known_342 hl (by decide) rfl (fun ls hl => ?_)
  refine lv_aload hx hb dX0_known_344 (lv_at hl 0 rfl) ?_
  refine lv_iconst (v := 0) hx hb dX0_known_346 (by decide) ?_
  refine lv_ldc (v := (-1318754223)) hx hb hown (hts _ q292) dX0_known_347 ?_
  refine lv_ldc (v := 1771973114) hx hb hown (hts _ q293) dX0_known_349 ?_
  refine lv_ldc (v := 615973192) hx hb hown (hts _ q294) dX0_known_351 ?_
  refine lv_ldc (v := 1346186748) hx hb hown (hts _ q295) dX0_known_353 ?_
  have hPc := hP.sub (ws' := [(oo_15, .inr (0, [.ref ad_16.1, .ref ad_16.2.1, .ref ad_16.2.2])), (ad_16.1, .inl (cb, 32, .inl (fun _ => 0)))]) [0, 1] rfl
  have hDc := hD.sub (ws' := [(oo_15, .inr (0, [.ref ad_16.1, .ref ad_16.2.1, .ref ad_16.2.2])), (ad_16.1, .inl (cb, 32, .inl (fun _ => 0)))]) [0, 1] (by decide) rfl
  have hFc := va_free (wc := [(oo_15, .inr (0, [.ref ad_16.1, .ref ad_16.2.1, .ref ad_16.2.2])), (ad_16.1, .inl (cb, 32, .inl (fun _ => 0)))]) hD hS hA [0, 1] rfl
  refine call_v (va_runV (As := [.int 0, .int (-1318754223), .int 1771973114, .int 615973192, .int 1346186748]) (rest := []) ⟨hx, hb, hml, hown, hts⟩ (metX1_key_0 l G cb cI oo_15 ad_16.1 ad_16.2.1 ad_16.2.2 (fun _ => 0) (-1318754223) 1771973114 615973192 1346186748 _) (cwV 5 hts (lw_V q271 q272 q273 q5 q274) rfl rfl rfl (by decide +kernel) ⟨Nat.le_of_ble_eq_true rfl, Nat.le_of_ble_eq_true rfl⟩) (preW_V (ci := 0) (q0 := 0) hPc hK hDc (tru_in) rfl rfl) rfl rfl hl.1 rfl (lv_room (Nat.le_of_ble_eq_true rfl)) dX0_known_355 ⟨Nat.le_of_ble_eq_true rfl, Nat.le_of_ble_eq_true rfl⟩) hP hD hS hFc [0, 1] [2, 3] (wr := [(ad_16.2.1, .inl (cb, 16, .inl (fun _ => 0))), (ad_16.2.2, .inl (cb, 16, .inl (fun _ => 0)))]) rfl rfl (by decide) (by decide) (fun fk_17 H locs hufk_17 hP hD hS => ?_)
  have hP : va_P G vwCl [(ad_16.2.1, .inl (cb, 16, .inl (fun _ => 0))), (ad_16.2.2, .inl (cb, 16, .inl (fun _ => 0))), (oo_15, .inr (0, [.ref ad_16.1, .ref ad_16.2.1, .ref ad_16.2.2])), (ad_16.1, .inl (cb, 32, .inl fk_17))] H := hP
  have hD : va_D A [(ad_16.2.1, .inl (cb, 16, .inl (fun _ => 0))), (ad_16.2.2, .inl (cb, 16, .inl (fun _ => 0))), (oo_15, .inr (0, [.ref ad_16.1, .ref ad_16.2.1, .ref ad_16.2.2])), (ad_16.1, .inl (cb, 32, .inl fk_17))] := hD
  refine W.widen (k := 24) (n := 313) (by omega) (by omega) ?_
  refine lv_aload hx hb dX0_known_358 (lv_at hl 0 rfl) ?_
  refine lv_iconst (v := 1) hx hb dX0_known_360 (by decide) ?_
  refine lv_iconst (v := 0) hx hb dX0_known_361 (by decide) ?_
  refine lv_iconst (v := 0) hx hb dX0_known_362 (by decide) ?_
  refine lv_iconst (v := 0) hx hb dX0_known_363 (by decide) ?_
  refine lv_iconst (v := 0) hx hb dX0_known_364 (by decide) ?_
  have hPc := hP.sub (ws' := [(oo_15, .inr (0, [.ref ad_16.1, .ref ad_16.2.1, .ref ad_16.2.2])), (ad_16.1, .inl (cb, 32, .inl fk_17))]) [2, 3] rfl
  have hDc := hD.sub (ws' := [(oo_15, .inr (0, [.ref ad_16.1, .ref ad_16.2.1, .ref ad_16.2.2])), (ad_16.1, .inl (cb, 32, .inl fk_17))]) [2, 3] (by decide) rfl
  have hFc := va_free (wc := [(oo_15, .inr (0, [.ref ad_16.1, .ref ad_16.2.1, .ref ad_16.2.2])), (ad_16.1, .inl (cb, 32, .inl fk_17))]) hD hS hA [2, 3] rfl
  refine call_v (va_runV (As := [.int 1, .int 0, .int 0, .int 0, .int 0]) (rest := []) ⟨hx, hb, hml, hown, hts⟩ (metX1_key_1 l G cb cI oo_15 ad_16.1 ad_16.2.1 ad_16.2.2 fk_17 0 0 0 0 _) (cwV 5 hts (lw_V q271 q272 q273 q5 q274) rfl rfl rfl (by decide +kernel) ⟨Nat.le_of_ble_eq_true rfl, Nat.le_of_ble_eq_true rfl⟩) (preW_V (ci := 0) (q0 := 0) hPc hK hDc (tru_in) rfl rfl) rfl rfl hl.1 rfl (lv_room (Nat.le_of_ble_eq_true rfl)) dX0_known_365 ⟨Nat.le_of_ble_eq_true rfl, Nat.le_of_ble_eq_true rfl⟩) hP hD hS hFc [2, 3] [0, 1] (wr := [(ad_16.2.1, .inl (cb, 16, .inl (fun _ => 0))), (ad_16.2.2, .inl (cb, 16, .inl (fun _ => 0)))]) rfl rfl (by decide) (by decide) (fun fk_18 H locs hufk_18 hP hD hS => ?_)
  have hP : va_P G vwCl [(ad_16.2.1, .inl (cb, 16, .inl (fun _ => 0))), (ad_16.2.2, .inl (cb, 16, .inl (fun _ => 0))), (oo_15, .inr (0, [.ref ad_16.1, .ref ad_16.2.1, .ref ad_16.2.2])), (ad_16.1, .inl (cb, 32, .inl fk_18))] H := hP
  have hD : va_D A [(ad_16.2.1, .inl (cb, 16, .inl (fun _ => 0))), (ad_16.2.2, .inl (cb, 16, .inl (fun _ => 0))), (oo_15, .inr (0, [.ref ad_16.1, .ref ad_16.2.1, .ref ad_16.2.2])), (ad_16.1, .inl (cb, 32, .inl fk_18))] := hD
  refine W.widen (k := 24) (n := 313) (by omega) (by omega) ?_
  refine lv_aload hx hb dX0_known_368 (lv_at hl 0 rfl) ?_
  refine lv_ldc (v := 712524315) hx hb hown (hts _ q296) dX0_known_370 ?_
  refine lv_ldc (v := (-2016948078)) hx hb hown (hts _ q297) dX0_known_372 ?_
  refine lv_ldc (v := 1327894847) hx hb hown (hts _ q298) dX0_known_374 ?_
  refine lv_ldc (v := 487803314) hx hb hown (hts _ q299) dX0_known_376 ?_
  have hPc := hP.sub (ws' := [(oo_15, .inr (0, [.ref ad_16.1, .ref ad_16.2.1, .ref ad_16.2.2])), (ad_16.2.1, .inl (cb, 16, .inl (fun _ => 0)))]) [2, 0] rfl
  have hDc := hD.sub (ws' := [(oo_15, .inr (0, [.ref ad_16.1, .ref ad_16.2.1, .ref ad_16.2.2])), (ad_16.2.1, .inl (cb, 16, .inl (fun _ => 0)))]) [2, 0] (by decide) rfl
  have hFc := va_free (wc := [(oo_15, .inr (0, [.ref ad_16.1, .ref ad_16.2.1, .ref ad_16.2.2])), (ad_16.2.1, .inl (cb, 16, .inl (fun _ => 0)))]) hD hS hA [2, 0] rfl
  refine call_v (va_runV (As := [.int 712524315, .int (-2016948078), .int 1327894847, .int 487803314]) (rest := []) ⟨hx, hb, hml, hown, hts⟩ (metX1_block l G cb cI oo_15 ad_16.1 ad_16.2.1 ad_16.2.2 (fun _ => 0) 712524315 (-2016948078) 1327894847 487803314 _) (cwV 4 hts (lw_V q278 q279 q280 q5 q281) rfl rfl rfl (by decide +kernel) ⟨Nat.le_of_ble_eq_true rfl, Nat.le_of_ble_eq_true rfl⟩) (preW_V (ci := 0) (q0 := 0) hPc hK hDc (tru_in) rfl rfl) rfl rfl hl.1 rfl (lv_room (Nat.le_of_ble_eq_true rfl)) dX0_known_378 ⟨Nat.le_of_ble_eq_true rfl, Nat.le_of_ble_eq_true rfl⟩) hP hD hS hFc [2, 0] [1, 3] (wr := [(ad_16.2.2, .inl (cb, 16, .inl (fun _ => 0))), (ad_16.1, .inl (cb, 32, .inl fk_18))]) rfl rfl (by decide) (by decide) (fun fb_19 H locs hufb_19 hP hD hS => ?_)
  have hP : va_P G vwCl [(ad_16.2.2, .inl (cb, 16, .inl (fun _ => 0))), (ad_16.1, .inl (cb, 32, .inl fk_18)), (oo_15, .inr (0, [.ref ad_16.1, .ref ad_16.2.1, .ref ad_16.2.2])), (ad_16.2.1, .inl (cb, 16, .inl fb_19))] H := hP
  have hD : va_D A [(ad_16.2.2, .inl (cb, 16, .inl (fun _ => 0))), (ad_16.1, .inl (cb, 32, .inl fk_18)), (oo_15, .inr (0, [.ref ad_16.1, .ref ad_16.2.1, .ref ad_16.2.2])), (ad_16.2.1, .inl (cb, 16, .inl fb_19))] := hD
  refine W.widen (k := 24) (n := 313) (by omega) (by omega) ?_
  refine lv_aload hx hb dX0_known_381 (lv_at hl 0 rfl) ?_
  refine lv_iconst (v := 0) hx hb dX0_known_383 (by decide) ?_
  have hPc := hP.sub (ws' := [(oo_15, .inr (0, [.ref ad_16.1, .ref ad_16.2.1, .ref ad_16.2.2])), (ad_16.1, .inl (cb, 32, .inl fk_18)), (ad_16.2.1, .inl (cb, 16, .inl fb_19)), (ad_16.2.2, .inl (cb, 16, .inl (fun _ => 0)))]) [2, 1, 3, 0] rfl
  have hDc := hD.sub (ws' := [(oo_15, .inr (0, [.ref ad_16.1, .ref ad_16.2.1, .ref ad_16.2.2])), (ad_16.1, .inl (cb, 32, .inl fk_18)), (ad_16.2.1, .inl (cb, 16, .inl fb_19)), (ad_16.2.2, .inl (cb, 16, .inl (fun _ => 0)))]) [2, 1, 3, 0] (by decide) rfl
  have hFc := va_free (wc := [(oo_15, .inr (0, [.ref ad_16.1, .ref ad_16.2.1, .ref ad_16.2.2])), (ad_16.1, .inl (cb, 32, .inl fk_18)), (ad_16.2.1, .inl (cb, 16, .inl fb_19)), (ad_16.2.2, .inl (cb, 16, .inl (fun _ => 0)))]) hD hS hA [2, 1, 3, 0] rfl
  refine call_v (va_runV (As := [.int 0]) (rest := []) ⟨hx, hb, hml, hown, hts⟩ (metX1_lock l G cb cI t oo_15 ad_16.1 ad_16.2.1 ad_16.2.2 fk_18 fb_19 (fun _ => 0) 0 _) (cwV 1 hts (lw_V q20 q21 q22 q5 q23) rfl rfl rfl (by decide +kernel) ⟨Nat.le_of_ble_eq_true rfl, Nat.le_of_ble_eq_true rfl⟩) (preW_V (ci := 0) (q0 := 0) hPc hK hDc (ctx_in hE hS hFc) rfl rfl) rfl rfl hl.1 rfl (lv_room (Nat.le_of_ble_eq_true rfl)) dX0_known_384 ⟨Nat.le_of_ble_eq_true rfl, Nat.le_of_ble_eq_true rfl⟩) hP hD hS hFc [2, 1, 3, 0] [] (wr := []) rfl rfl (by decide) (by decide) (fun fo_20 H locs hufo_20 hP hD hS => ?_)
  have hP : va_P G vwCl [(oo_15, .inr (0, [.ref ad_16.1, .ref ad_16.2.1, .ref ad_16.2.2])), (ad_16.1, .inl (cb, 32, .inl fk_18)), (ad_16.2.1, .inl (cb, 16, .inl fb_19)), (ad_16.2.2, .inl (cb, 16, .inl fo_20))] H := hP
  have hD : va_D A [(oo_15, .inr (0, [.ref ad_16.1, .ref ad_16.2.1, .ref ad_16.2.2])), (ad_16.1, .inl (cb, 32, .inl fk_18)), (ad_16.2.1, .inl (cb, 16, .inl fb_19)), (ad_16.2.2, .inl (cb, 16, .inl fo_20))] := hD
  refine W.widen (k := 29) (n := 353) (by omega) (by omega) ?_
  refine lv_bipush (v := 16) hx hb dX0_known_387 (by decide) ?_
  refine va_newa (atype := .int) (ty := .int) (a0 := (16, .inl (fun _ => 0))) (N' := 16) hx hb (hts _ q51) rfl hK hP hD hS hA (fun _ => rfl) (by decide) (by decide) (Nat.le_of_ble_eq_true rfl) (Nat.le_of_ble_eq_true rfl) (Nat.le_of_ble_eq_true rfl) dX0_known_389 (fun qa_21 cA H hK hP hD hS => ?_)
  have hcA : cI = cA := ki_eq hK
  subst hcA
  have hK := hK.sub (tys' := [(cb, .byte), (cI, .int)]) [0, 1] rfl
  have hP : va_P G vwCl [(oo_15, .inr (0, [.ref ad_16.1, .ref ad_16.2.1, .ref ad_16.2.2])), (ad_16.1, .inl (cb, 32, .inl fk_18)), (ad_16.2.1, .inl (cb, 16, .inl fb_19)), (ad_16.2.2, .inl (cb, 16, .inl fo_20)), (qa_21, .inl (cI, 16, .inl (fun _ => 0)))] H := hP
  have hD : va_D A [(oo_15, .inr (0, [.ref ad_16.1, .ref ad_16.2.1, .ref ad_16.2.2])), (ad_16.1, .inl (cb, 32, .inl fk_18)), (ad_16.2.1, .inl (cb, 16, .inl fb_19)), (ad_16.2.2, .inl (cb, 16, .inl fo_20)), (qa_21, .inl (cI, 16, .inl (fun _ => 0)))] := hD
  refine W.widen (k := 30) (n := 369) (by omega) (by omega) ?_
  refine lv_dup hx hb dX0_known_391 rfl ?_
  refine lv_iconst (v := 0) hx hb dX0_known_392 (by decide) ?_
  refine lv_sipush (v := 226) hx hb dX0_known_393 (by decide) ?_
  refine va_iast hx hb hK hP hD hS 4 1 rfl rfl in_0_16 dX0_known_396 (fun H locs hP hD hS => ?_)
  rw [cl_0] at hP hD
  have hP : va_P G vwCl [(oo_15, .inr (0, [.ref ad_16.1, .ref ad_16.2.1, .ref ad_16.2.2])), (ad_16.1, .inl (cb, 32, .inl fk_18)), (ad_16.2.1, .inl (cb, 16, .inl fb_19)), (ad_16.2.2, .inl (cb, 16, .inl fo_20)), (qa_21, .inl (cI, 16, .inl (upd (fun _ => 0) (0) 226)))] H := hP
  have hD : va_D A [(oo_15, .inr (0, [.ref ad_16.1, .ref ad_16.2.1, .ref ad_16.2.2])), (ad_16.1, .inl (cb, 32, .inl fk_18)), (ad_16.2.1, .inl (cb, 16, .inl fb_19)), (ad_16.2.2, .inl (cb, 16, .inl fo_20)), (qa_21, .inl (cI, 16, .inl (upd (fun _ => 0) (0) 226)))] := hD
  refine lv_dup hx hb dX0_known_397 rfl ?_
  refine lv_iconst (v := 1) hx hb dX0_known_398 (by decide) ?_
  refine lv_sipush (v := 246) hx hb dX0_known_399 (by decide) ?_
  refine va_iast hx hb hK hP hD hS 4 1 rfl rfl in_1_16 dX0_known_402 (fun H locs hP hD hS => ?_)
  rw [cl_1] at hP hD
  have hP : va_P G vwCl [(oo_15, .inr (0, [.ref ad_16.1, .ref ad_16.2.1, .ref ad_16.2.2])), (ad_16.1, .inl (cb, 32, .inl fk_18)), (ad_16.2.1, .inl (cb, 16, .inl fb_19)), (ad_16.2.2, .inl (cb, 16, .inl fo_20)), (qa_21, .inl (cI, 16, .inl (upd (upd (fun _ => 0) (0) 226) (1) 246)))] H := hP
  have hD : va_D A [(oo_15, .inr (0, [.ref ad_16.1, .ref ad_16.2.1, .ref ad_16.2.2])), (ad_16.1, .inl (cb, 32, .inl fk_18)), (ad_16.2.1, .inl (cb, 16, .inl fb_19)), (ad_16.2.2, .inl (cb, 16, .inl fo_20)), (qa_21, .inl (cI, 16, .inl (upd (upd (fun _ => 0) (0) 226) (1) 246)))] := hD
  refine lv_dup hx hb dX0_known_403 rfl ?_
  refine lv_iconst (v := 2) hx hb dX0_known_404 (by decide) ?_
  refine lv_sipush (v := 135) hx hb dX0_known_405 (by decide) ?_
  refine va_iast hx hb hK hP hD hS 4 1 rfl rfl in_2_16 dX0_known_408 (fun H locs hP hD hS => ?_)
  rw [cl_2] at hP hD
  have hP : va_P G vwCl [(oo_15, .inr (0, [.ref ad_16.1, .ref ad_16.2.1, .ref ad_16.2.2])), (ad_16.1, .inl (cb, 32, .inl fk_18)), (ad_16.2.1, .inl (cb, 16, .inl fb_19)), (ad_16.2.2, .inl (cb, 16, .inl fo_20)), (qa_21, .inl (cI, 16, .inl (upd (upd (upd (fun _ => 0) (0) 226) (1) 246) (2) 135)))] H := hP
  have hD : va_D A [(oo_15, .inr (0, [.ref ad_16.1, .ref ad_16.2.1, .ref ad_16.2.2])), (ad_16.1, .inl (cb, 32, .inl fk_18)), (ad_16.2.1, .inl (cb, 16, .inl fb_19)), (ad_16.2.2, .inl (cb, 16, .inl fo_20)), (qa_21, .inl (cI, 16, .inl (upd (upd (upd (fun _ => 0) (0) 226) (1) 246) (2) 135)))] := hD
  refine lv_dup hx hb dX0_known_409 rfl ?_
  refine lv_iconst (v := 3) hx hb dX0_known_410 (by decide) ?_
  refine lv_sipush (v := 224) hx hb dX0_known_411 (by decide) ?_
  refine va_iast hx hb hK hP hD hS 4 1 rfl rfl in_3_16 dX0_known_414 (fun H locs hP hD hS => ?_)
  rw [cl_3] at hP hD
  have hP : va_P G vwCl [(oo_15, .inr (0, [.ref ad_16.1, .ref ad_16.2.1, .ref ad_16.2.2])), (ad_16.1, .inl (cb, 32, .inl fk_18)), (ad_16.2.1, .inl (cb, 16, .inl fb_19)), (ad_16.2.2, .inl (cb, 16, .inl fo_20)), (qa_21, .inl (cI, 16, .inl (upd (upd (upd (upd (fun _ => 0) (0) 226) (1) 246) (2) 135) (3) 224)))] H := hP
  have hD : va_D A [(oo_15, .inr (0, [.ref ad_16.1, .ref ad_16.2.1, .ref ad_16.2.2])), (ad_16.1, .inl (cb, 32, .inl fk_18)), (ad_16.2.1, .inl (cb, 16, .inl fb_19)), (ad_16.2.2, .inl (cb, 16, .inl fo_20)), (qa_21, .inl (cI, 16, .inl (upd (upd (upd (upd (fun _ => 0) (0) 226) (1) 246) (2) 135) (3) 224)))] := hD
  refine lv_dup hx hb dX0_known_415 rfl ?_
  refine lv_iconst (v := 4) hx hb dX0_known_416 (by decide) ?_
  refine lv_bipush (v := 123) hx hb dX0_known_417 (by decide) ?_
  refine va_iast hx hb hK hP hD hS 4 1 rfl rfl in_4_16 dX0_known_419 (fun H locs hP hD hS => ?_)
  rw [cl_4] at hP hD
  have hP : va_P G vwCl [(oo_15, .inr (0, [.ref ad_16.1, .ref ad_16.2.1, .ref ad_16.2.2])), (ad_16.1, .inl (cb, 32, .inl fk_18)), (ad_16.2.1, .inl (cb, 16, .inl fb_19)), (ad_16.2.2, .inl (cb, 16, .inl fo_20)), (qa_21, .inl (cI, 16, .inl (upd (upd (upd (upd (upd (fun _ => 0) (0) 226) (1) 246) (2) 135) (3) 224) (4) 123)))] H := hP
  have hD : va_D A [(oo_15, .inr (0, [.ref ad_16.1, .ref ad_16.2.1, .ref ad_16.2.2])), (ad_16.1, .inl (cb, 32, .inl fk_18)), (ad_16.2.1, .inl (cb, 16, .inl fb_19)), (ad_16.2.2, .inl (cb, 16, .inl fo_20)), (qa_21, .inl (cI, 16, .inl (upd (upd (upd (upd (upd (fun _ => 0) (0) 226) (1) 246) (2) 135) (3) 224) (4) 123)))] := hD
  refine lv_dup hx hb dX0_known_420 rfl ?_
  refine lv_iconst (v := 5) hx hb dX0_known_421 (by decide) ?_
  refine lv_bipush (v := 117) hx hb dX0_known_422 (by decide) ?_
  refine va_iast hx hb hK hP hD hS 4 1 rfl rfl in_5_16 dX0_known_424 (fun H locs hP hD hS => ?_)
  rw [cl_5] at hP hD
  have hP : va_P G vwCl [(oo_15, .inr (0, [.ref ad_16.1, .ref ad_16.2.1, .ref ad_16.2.2])), (ad_16.1, .inl (cb, 32, .inl fk_18)), (ad_16.2.1, .inl (cb, 16, .inl fb_19)), (ad_16.2.2, .inl (cb, 16, .inl fo_20)), (qa_21, .inl (cI, 16, .inl (upd (upd (upd (upd (upd (upd (fun _ => 0) (0) 226) (1) 246) (2) 135) (3) 224) (4) 123) (5) 117)))] H := hP
  have hD : va_D A [(oo_15, .inr (0, [.ref ad_16.1, .ref ad_16.2.1, .ref ad_16.2.2])), (ad_16.1, .inl (cb, 32, .inl fk_18)), (ad_16.2.1, .inl (cb, 16, .inl fb_19)), (ad_16.2.2, .inl (cb, 16, .inl fo_20)), (qa_21, .inl (cI, 16, .inl (upd (upd (upd (upd (upd (upd (fun _ => 0) (0) 226) (1) 246) (2) 135) (3) 224) (4) 123) (5) 117)))] := hD
  refine lv_dup hx hb dX0_known_425 rfl ?_
  refine lv_bipush (v := 6) hx hb dX0_known_426 (by decide) ?_
  refine lv_bipush (v := 102) hx hb dX0_known_428 (by decide) ?_
  refine va_iast hx hb hK hP hD hS 4 1 rfl rfl in_6_16 dX0_known_430 (fun H locs hP hD hS => ?_)
  rw [cl_6] at hP hD
  have hP : va_P G vwCl [(oo_15, .inr (0, [.ref ad_16.1, .ref ad_16.2.1, .ref ad_16.2.2])), (ad_16.1, .inl (cb, 32, .inl fk_18)), (ad_16.2.1, .inl (cb, 16, .inl fb_19)), (ad_16.2.2, .inl (cb, 16, .inl fo_20)), (qa_21, .inl (cI, 16, .inl (upd (upd (upd (upd (upd (upd (upd (fun _ => 0) (0) 226) (1) 246) (2) 135) (3) 224) (4) 123) (5) 117) (6) 102)))] H := hP
  have hD : va_D A [(oo_15, .inr (0, [.ref ad_16.1, .ref ad_16.2.1, .ref ad_16.2.2])), (ad_16.1, .inl (cb, 32, .inl fk_18)), (ad_16.2.1, .inl (cb, 16, .inl fb_19)), (ad_16.2.2, .inl (cb, 16, .inl fo_20)), (qa_21, .inl (cI, 16, .inl (upd (upd (upd (upd (upd (upd (upd (fun _ => 0) (0) 226) (1) 246) (2) 135) (3) 224) (4) 123) (5) 117) (6) 102)))] := hD
  refine lv_dup hx hb dX0_known_431 rfl ?_
  refine lv_bipush (v := 7) hx hb dX0_known_432 (by decide) ?_
  refine lv_bipush (v := 15) hx hb dX0_known_434 (by decide) ?_
  refine va_iast hx hb hK hP hD hS 4 1 rfl rfl in_7_16 dX0_known_436 (fun H locs hP hD hS => ?_)
  rw [cl_7] at hP hD
  have hP : va_P G vwCl [(oo_15, .inr (0, [.ref ad_16.1, .ref ad_16.2.1, .ref ad_16.2.2])), (ad_16.1, .inl (cb, 32, .inl fk_18)), (ad_16.2.1, .inl (cb, 16, .inl fb_19)), (ad_16.2.2, .inl (cb, 16, .inl fo_20)), (qa_21, .inl (cI, 16, .inl (upd (upd (upd (upd (upd (upd (upd (upd (fun _ => 0) (0) 226) (1) 246) (2) 135) (3) 224) (4) 123) (5) 117) (6) 102) (7) 15)))] H := hP
  have hD : va_D A [(oo_15, .inr (0, [.ref ad_16.1, .ref ad_16.2.1, .ref ad_16.2.2])), (ad_16.1, .inl (cb, 32, .inl fk_18)), (ad_16.2.1, .inl (cb, 16, .inl fb_19)), (ad_16.2.2, .inl (cb, 16, .inl fo_20)), (qa_21, .inl (cI, 16, .inl (upd (upd (upd (upd (upd (upd (upd (upd (fun _ => 0) (0) 226) (1) 246) (2) 135) (3) 224) (4) 123) (5) 117) (6) 102) (7) 15)))] := hD
  refine lv_dup hx hb dX0_known_437 rfl ?_
  refine lv_bipush (v := 8) hx hb dX0_known_438 (by decide) ?_
  refine lv_sipush (v := 252) hx hb dX0_known_440 (by decide) ?_
  refine va_iast hx hb hK hP hD hS 4 1 rfl rfl in_8_16 dX0_known_443 (fun H locs hP hD hS => ?_)
  rw [cl_8] at hP hD
  have hP : va_P G vwCl [(oo_15, .inr (0, [.ref ad_16.1, .ref ad_16.2.1, .ref ad_16.2.2])), (ad_16.1, .inl (cb, 32, .inl fk_18)), (ad_16.2.1, .inl (cb, 16, .inl fb_19)), (ad_16.2.2, .inl (cb, 16, .inl fo_20)), (qa_21, .inl (cI, 16, .inl (upd (upd (upd (upd (upd (upd (upd (upd (upd (fun _ => 0) (0) 226) (1) 246) (2) 135) (3) 224) (4) 123) (5) 117) (6) 102) (7) 15) (8) 252)))] H := hP
  have hD : va_D A [(oo_15, .inr (0, [.ref ad_16.1, .ref ad_16.2.1, .ref ad_16.2.2])), (ad_16.1, .inl (cb, 32, .inl fk_18)), (ad_16.2.1, .inl (cb, 16, .inl fb_19)), (ad_16.2.2, .inl (cb, 16, .inl fo_20)), (qa_21, .inl (cI, 16, .inl (upd (upd (upd (upd (upd (upd (upd (upd (upd (fun _ => 0) (0) 226) (1) 246) (2) 135) (3) 224) (4) 123) (5) 117) (6) 102) (7) 15) (8) 252)))] := hD
  refine lv_dup hx hb dX0_known_444 rfl ?_
  refine lv_bipush (v := 9) hx hb dX0_known_445 (by decide) ?_
  refine lv_bipush (v := 55) hx hb dX0_known_447 (by decide) ?_
  refine va_iast hx hb hK hP hD hS 4 1 rfl rfl in_9_16 dX0_known_449 (fun H locs hP hD hS => ?_)
  rw [cl_9] at hP hD
  have hP : va_P G vwCl [(oo_15, .inr (0, [.ref ad_16.1, .ref ad_16.2.1, .ref ad_16.2.2])), (ad_16.1, .inl (cb, 32, .inl fk_18)), (ad_16.2.1, .inl (cb, 16, .inl fb_19)), (ad_16.2.2, .inl (cb, 16, .inl fo_20)), (qa_21, .inl (cI, 16, .inl (upd (upd (upd (upd (upd (upd (upd (upd (upd (upd (fun _ => 0) (0) 226) (1) 246) (2) 135) (3) 224) (4) 123) (5) 117) (6) 102) (7) 15) (8) 252) (9) 55)))] H := hP
  have hD : va_D A [(oo_15, .inr (0, [.ref ad_16.1, .ref ad_16.2.1, .ref ad_16.2.2])), (ad_16.1, .inl (cb, 32, .inl fk_18)), (ad_16.2.1, .inl (cb, 16, .inl fb_19)), (ad_16.2.2, .inl (cb, 16, .inl fo_20)), (qa_21, .inl (cI, 16, .inl (upd (upd (upd (upd (upd (upd (upd (upd (upd (upd (fun _ => 0) (0) 226) (1) 246) (2) 135) (3) 224) (4) 123) (5) 117) (6) 102) (7) 15) (8) 252) (9) 55)))] := hD
  refine lv_dup hx hb dX0_known_450 rfl ?_
  refine lv_bipush (v := 10) hx hb dX0_known_451 (by decide) ?_
  refine lv_bipush (v := 34) hx hb dX0_known_453 (by decide) ?_
  refine va_iast hx hb hK hP hD hS 4 1 rfl rfl in_10_16 dX0_known_455 (fun H locs hP hD hS => ?_)
  rw [cl_10] at hP hD
  have hP : va_P G vwCl [(oo_15, .inr (0, [.ref ad_16.1, .ref ad_16.2.1, .ref ad_16.2.2])), (ad_16.1, .inl (cb, 32, .inl fk_18)), (ad_16.2.1, .inl (cb, 16, .inl fb_19)), (ad_16.2.2, .inl (cb, 16, .inl fo_20)), (qa_21, .inl (cI, 16, .inl (upd (upd (upd (upd (upd (upd (upd (upd (upd (upd (upd (fun _ => 0) (0) 226) (1) 246) (2) 135) (3) 224) (4) 123) (5) 117) (6) 102) (7) 15) (8) 252) (9) 55) (10) 34)))] H := hP
  have hD : va_D A [(oo_15, .inr (0, [.ref ad_16.1, .ref ad_16.2.1, .ref ad_16.2.2])), (ad_16.1, .inl (cb, 32, .inl fk_18)), (ad_16.2.1, .inl (cb, 16, .inl fb_19)), (ad_16.2.2, .inl (cb, 16, .inl fo_20)), (qa_21, .inl (cI, 16, .inl (upd (upd (upd (upd (upd (upd (upd (upd (upd (upd (upd (fun _ => 0) (0) 226) (1) 246) (2) 135) (3) 224) (4) 123) (5) 117) (6) 102) (7) 15) (8) 252) (9) 55) (10) 34)))] := hD
  refine lv_dup hx hb dX0_known_456 rfl ?_
  refine lv_bipush (v := 11) hx hb dX0_known_457 (by decide) ?_
  refine lv_bipush (v := 51) hx hb dX0_known_459 (by decide) ?_
  refine va_iast hx hb hK hP hD hS 4 1 rfl rfl in_11_16 dX0_known_461 (fun H locs hP hD hS => ?_)
  rw [cl_11] at hP hD
  have hP : va_P G vwCl [(oo_15, .inr (0, [.ref ad_16.1, .ref ad_16.2.1, .ref ad_16.2.2])), (ad_16.1, .inl (cb, 32, .inl fk_18)), (ad_16.2.1, .inl (cb, 16, .inl fb_19)), (ad_16.2.2, .inl (cb, 16, .inl fo_20)), (qa_21, .inl (cI, 16, .inl (upd (upd (upd (upd (upd (upd (upd (upd (upd (upd (upd (upd (fun _ => 0) (0) 226) (1) 246) (2) 135) (3) 224) (4) 123) (5) 117) (6) 102) (7) 15) (8) 252) (9) 55) (10) 34) (11) 51)))] H := hP
  have hD : va_D A [(oo_15, .inr (0, [.ref ad_16.1, .ref ad_16.2.1, .ref ad_16.2.2])), (ad_16.1, .inl (cb, 32, .inl fk_18)), (ad_16.2.1, .inl (cb, 16, .inl fb_19)), (ad_16.2.2, .inl (cb, 16, .inl fo_20)), (qa_21, .inl (cI, 16, .inl (upd (upd (upd (upd (upd (upd (upd (upd (upd (upd (upd (upd (fun _ => 0) (0) 226) (1) 246) (2) 135) (3) 224) (4) 123) (5) 117) (6) 102) (7) 15) (8) 252) (9) 55) (10) 34) (11) 51)))] := hD
  refine lv_dup hx hb dX0_known_462 rfl ?_
  refine lv_bipush (v := 12) hx hb dX0_known_463 (by decide) ?_
  refine lv_sipush (v := 188) hx hb dX0_known_465 (by decide) ?_
  refine va_iast hx hb hK hP hD hS 4 1 rfl rfl in_12_16 dX0_known_468 (fun H locs hP hD hS => ?_)
  rw [cl_12] at hP hD
  have hP : va_P G vwCl [(oo_15, .inr (0, [.ref ad_16.1, .ref ad_16.2.1, .ref ad_16.2.2])), (ad_16.1, .inl (cb, 32, .inl fk_18)), (ad_16.2.1, .inl (cb, 16, .inl fb_19)), (ad_16.2.2, .inl (cb, 16, .inl fo_20)), (qa_21, .inl (cI, 16, .inl (upd (upd (upd (upd (upd (upd (upd (upd (upd (upd (upd (upd (upd (fun _ => 0) (0) 226) (1) 246) (2) 135) (3) 224) (4) 123) (5) 117) (6) 102) (7) 15) (8) 252) (9) 55) (10) 34) (11) 51) (12) 188)))] H := hP
  have hD : va_D A [(oo_15, .inr (0, [.ref ad_16.1, .ref ad_16.2.1, .ref ad_16.2.2])), (ad_16.1, .inl (cb, 32, .inl fk_18)), (ad_16.2.1, .inl (cb, 16, .inl fb_19)), (ad_16.2.2, .inl (cb, 16, .inl fo_20)), (qa_21, .inl (cI, 16, .inl (upd (upd (upd (upd (upd (upd (upd (upd (upd (upd (upd (upd (upd (fun _ => 0) (0) 226) (1) 246) (2) 135) (3) 224) (4) 123) (5) 117) (6) 102) (7) 15) (8) 252) (9) 55) (10) 34) (11) 51) (12) 188)))] := hD
  refine lv_dup hx hb dX0_known_469 rfl ?_
  refine lv_bipush (v := 13) hx hb dX0_known_470 (by decide) ?_
  refine lv_bipush (v := 71) hx hb dX0_known_472 (by decide) ?_
  refine va_iast hx hb hK hP hD hS 4 1 rfl rfl in_13_16 dX0_known_474 (fun H locs hP hD hS => ?_)
  rw [cl_13] at hP hD
  have hP : va_P G vwCl [(oo_15, .inr (0, [.ref ad_16.1, .ref ad_16.2.1, .ref ad_16.2.2])), (ad_16.1, .inl (cb, 32, .inl fk_18)), (ad_16.2.1, .inl (cb, 16, .inl fb_19)), (ad_16.2.2, .inl (cb, 16, .inl fo_20)), (qa_21, .inl (cI, 16, .inl (upd (upd (upd (upd (upd (upd (upd (upd (upd (upd (upd (upd (upd (upd (fun _ => 0) (0) 226) (1) 246) (2) 135) (3) 224) (4) 123) (5) 117) (6) 102) (7) 15) (8) 252) (9) 55) (10) 34) (11) 51) (12) 188) (13) 71)))] H := hP
  have hD : va_D A [(oo_15, .inr (0, [.ref ad_16.1, .ref ad_16.2.1, .ref ad_16.2.2])), (ad_16.1, .inl (cb, 32, .inl fk_18)), (ad_16.2.1, .inl (cb, 16, .inl fb_19)), (ad_16.2.2, .inl (cb, 16, .inl fo_20)), (qa_21, .inl (cI, 16, .inl (upd (upd (upd (upd (upd (upd (upd (upd (upd (upd (upd (upd (upd (upd (fun _ => 0) (0) 226) (1) 246) (2) 135) (3) 224) (4) 123) (5) 117) (6) 102) (7) 15) (8) 252) (9) 55) (10) 34) (11) 51) (12) 188) (13) 71)))] := hD
  refine lv_dup hx hb dX0_known_475 rfl ?_
  refine lv_bipush (v := 14) hx hb dX0_known_476 (by decide) ?_
  refine lv_bipush (v := 83) hx hb dX0_known_478 (by decide) ?_
  refine va_iast hx hb hK hP hD hS 4 1 rfl rfl in_14_16 dX0_known_480 (fun H locs hP hD hS => ?_)
  rw [cl_14] at hP hD
  have hP : va_P G vwCl [(oo_15, .inr (0, [.ref ad_16.1, .ref ad_16.2.1, .ref ad_16.2.2])), (ad_16.1, .inl (cb, 32, .inl fk_18)), (ad_16.2.1, .inl (cb, 16, .inl fb_19)), (ad_16.2.2, .inl (cb, 16, .inl fo_20)), (qa_21, .inl (cI, 16, .inl (upd (upd (upd (upd (upd (upd (upd (upd (upd (upd (upd (upd (upd (upd (upd (fun _ => 0) (0) 226) (1) 246) (2) 135) (3) 224) (4) 123) (5) 117) (6) 102) (7) 15) (8) 252) (9) 55) (10) 34) (11) 51) (12) 188) (13) 71) (14) 83)))] H := hP
  have hD : va_D A [(oo_15, .inr (0, [.ref ad_16.1, .ref ad_16.2.1, .ref ad_16.2.2])), (ad_16.1, .inl (cb, 32, .inl fk_18)), (ad_16.2.1, .inl (cb, 16, .inl fb_19)), (ad_16.2.2, .inl (cb, 16, .inl fo_20)), (qa_21, .inl (cI, 16, .inl (upd (upd (upd (upd (upd (upd (upd (upd (upd (upd (upd (upd (upd (upd (upd (fun _ => 0) (0) 226) (1) 246) (2) 135) (3) 224) (4) 123) (5) 117) (6) 102) (7) 15) (8) 252) (9) 55) (10) 34) (11) 51) (12) 188) (13) 71) (14) 83)))] := hD
  refine lv_dup hx hb dX0_known_481 rfl ?_
  refine lv_bipush (v := 15) hx hb dX0_known_482 (by decide) ?_
  refine lv_bipush (v := 44) hx hb dX0_known_484 (by decide) ?_
  refine va_iast hx hb hK hP hD hS 4 1 rfl rfl in_15_16 dX0_known_486 (fun H locs hP hD hS => ?_)
  rw [cl_15] at hP hD
  have hP : va_P G vwCl [(oo_15, .inr (0, [.ref ad_16.1, .ref ad_16.2.1, .ref ad_16.2.2])), (ad_16.1, .inl (cb, 32, .inl fk_18)), (ad_16.2.1, .inl (cb, 16, .inl fb_19)), (ad_16.2.2, .inl (cb, 16, .inl fo_20)), (qa_21, .inl (cI, 16, .inl (upd (upd (upd (upd (upd (upd (upd (upd (upd (upd (upd (upd (upd (upd (upd (upd (fun _ => 0) (0) 226) (1) 246) (2) 135) (3) 224) (4) 123) (5) 117) (6) 102) (7) 15) (8) 252) (9) 55) (10) 34) (11) 51) (12) 188) (13) 71) (14) 83) (15) 44)))] H := hP
  have hD : va_D A [(oo_15, .inr (0, [.ref ad_16.1, .ref ad_16.2.1, .ref ad_16.2.2])), (ad_16.1, .inl (cb, 32, .inl fk_18)), (ad_16.2.1, .inl (cb, 16, .inl fb_19)), (ad_16.2.2, .inl (cb, 16, .inl fo_20)), (qa_21, .inl (cI, 16, .inl (upd (upd (upd (upd (upd (upd (upd (upd (upd (upd (upd (upd (upd (upd (upd (upd (fun _ => 0) (0) 226) (1) 246) (2) 135) (3) 224) (4) 123) (5) 117) (6) 102) (7) 15) (8) 252) (9) 55) (10) 34) (11) 51) (12) 188) (13) 71) (14) 83) (15) 44)))] := hD
  refine lv_astore (lv' := [(5, .ref qa_21), (4, .ref oo_15)]) hx hb dX0_known_487 hl (by decide) rfl (fun ls hl => ?_)
  refine lv_iconst (v := 0) hx hb dX0_known_489 (by decide) ?_
  refine lv_istore (lv' := [(6, .int 0), (5, .ref qa_21), (4, .ref oo_15)]) hx hb dX0_known_490 hl (by decide) rfl (fun ls hl => ?_)
  have hf2 : ∀ j, j < 16 → fo_20 j &&& 255 = (upd (upd (upd (upd (upd (upd (upd (upd (upd (upd (upd (upd (upd (upd (upd (upd (fun _ => 0) (0) 226) (1) 246) (2) 135) (3) 224) (4) 123) (5) 117) (6) 102) (7) 15) (8) 252) (9) 55) (10) 34) (11) 51) (12) 188) (13) 71) (14) 83) (15) 44) j := by
    intro j hj
    rw [tab2 j hj]
    exact ka2 fo_20 (by rw [hufo_20, hufk_18, hufk_17, hufb_19]; rfl) j hj
  have hPl := hP.sub (ws' := [(oo_15, .inr (0, [.ref ad_16.1, .ref ad_16.2.1, .ref ad_16.2.2])), (ad_16.2.2, .inl (cb, 16, .inl fo_20)), (qa_21, .inl (cI, 16, .inl (upd (upd (upd (upd (upd (upd (upd (upd (upd (upd (upd (upd (upd (upd (upd (upd (fun _ => 0) (0) 226) (1) 246) (2) 135) (3) 224) (4) 123) (5) 117) (6) 102) (7) 15) (8) 252) (9) 55) (10) 34) (11) 51) (12) 188) (13) 71) (14) 83) (15) 44)))]) [0, 3, 4] rfl
  refine loopX0_known_2 hf2 hx hb hml hown hts hK hPl (Nat.le_of_ble_eq_true rfl) (Nat.le_of_ble_eq_true rfl) (Nat.le_of_ble_eq_true rfl) (Nat.le_of_ble_eq_true rfl) (fun ls hl => ?_) 17 0 0 (by omega) (by omega) nI_0.symm ls (lv_sub hl [2, 1, 0] rfl)
  have hP := hP.sub (ws' := []) [] rfl
  have hD := hD.sub (ws' := []) [] rfl rfl
  refine lv_iconst (v := 1) hx hb dX0_known_522 (by decide) ?_
  exact W.zret (v := 1) hx hb hr rfl (fun t9 ht hW => ⟨⟨1, (), rfl, rfl, by rw [ht]; exact hP, hD⟩, hS.F ht⟩) hS.2.2 dX0_known_523
end
section
/-! THE CLAIM OUT OF ONE WALK OF THE LAW'S BODY. Your part is whole_start (and what it stands on); all else here is the same for every law, but numbers. -/
def R_law : String := "NoekeonDeskLaw"
def lw_P (b : Addr) (xs : List Int32) (args : Array Value) (s : State) : Prop := args = #[.ref b] ∧ s.IntsAt b xs ∧ xs.length ≤ 12 ∧ (Jvm.Cond.and given_1 narrow_1).before args s = true
def lw_Q (_ : Array Value) (s : State) (o : Outcome) (t : State) : Prop := o = .returned (some (.int 1)) ∧ Framed s o t [] 613047 7262963
def lw_Z (below : List Frame) (a : Array Value) (s : State) : State → Prop := fun t => ∃ o, t.status = .running ∧ Ended t below o ∧ lw_Q a s o t
/-- the law's own end, with 1 on the stack, nothing written that was there before, its room as the claim has it -/
theorem lw_ret {p : Program} {l : Launch} {e : Env} {s : State} {m : MethodId} {below : List Frame} {meth : Method} {c : Code} {b : Nat} (hx : p.tables.exec = Jvm.exec) (hb : c.code = code) (hr : meth.sig.returnType = ret) (hlocks : meth.locks = false) {pc : Nat} {H : Heap} {ls : Array Slot} (hdg : decode code pc = .ok (.ireturn, 1)) : W p l e room_1 s m #[Value.ref b] below meth c H [] 613047 7262963 (lw_Z below #[Value.ref b] s) (F0 m pc ls [.int 1]) := by
  intro T hT X
  obtain ⟨fs, hret, hrun, hended, hW, hframe⟩ := X.leave (v := some (.int 1)) (hlocks := hlocks) (fun h => by rw [hr] at h; cases h)
  have hmeth' : T.vm.method? m = some meth := X.method'
  refine ⟨T.setFrames fs, ?_, .returned (some (.int 1)), hrun, hended, rfl, ⟨_, rfl⟩, hW, hframe⟩
  jvm_step X.here [X.here.top, hx, hb, hdg, hmeth', hr, ret, narrow_b1]
  (try refine ⟨rfl, ?_⟩); (try refine ⟨rfl, ?_⟩)
  first | (intro acts; rw [hret _ acts rfl rfl rfl]) | rw [hret _ _ rfl rfl rfl]
  exact Steps.refl _
/-- what holds at the law's entry: the machine, the code, the tables' words (any of lw_tbl by 'hts w (by decide +kernel)'), the script of L ints xs at the cell b, what the Statement gives of the start (any of its parts by flat_of_before) -/
def lw_At (p : Program) (s : State) (m : MethodId) (meth : Method) (c : Code) (b L : Nat) (xs : Nat → Int32) : Prop :=
  p.tables.exec = Jvm.exec ∧ c.code = code ∧ meth.sig.returnType = ret ∧ c.maxLocals = 8 ∧ s.vm.findClass R_law = some m.cls ∧ (∀ w ∈ lw_tbl, w.before #[Value.ref b] s = true) ∧ va_X b L xs s s.heap ∧ b < s.heap.size ∧ meth.locks = false ∧ (Jvm.Cond.and given_1 narrow_1).before #[Value.ref b] s = true
/-- the class of an array, out of the tables -/
theorem arr_known_b {args : Array Value} {s : State} (h : (Cond.arrayClass .byte).before args s = true) : ∃ cA : ClassId, ArrOfT s cA .byte ∧ va_RA s cA .byte := by
  obtain ⟨cA, kA, comp, h1, h2, h3⟩ := Cond.arrayClass_spec h
  exact ⟨cA, fun n z => ⟨fun k h => (by cases h), kA, h2, comp, h3⟩, h1⟩
theorem arr_known_i {args : Array Value} {s : State} (h : (Cond.arrayClass .int).before args s = true) : ∃ cA : ClassId, ArrOfT s cA .int ∧ va_RA s cA .int := by
  obtain ⟨cA, kA, comp, h1, h2, h3⟩ := Cond.arrayClass_spec h
  exact ⟨cA, fun n z => ⟨fun k h => (by cases h), kA, h2, comp, h3⟩, h1⟩
/-- the static table, out of what the Statement gives -/
theorem zt_known {s : State} {b : Nat} {A : Nat → Prop} (hts : ∀ w ∈ lw_tbl, w.before #[Value.ref b] s = true) (hgv : (Jvm.Cond.and given_1 narrow_1).before #[Value.ref b] s = true) (hA : ∀ a : Nat, a < s.heap.size → ¬ A a) : ∃ t : Nat, nk_zt t A s s.heap := by
  have hf := flat_of_before _ hgv
  have harr : (Cond.arrayOf (.static "NoekeonEngine" "roundConstants" "[B") .byte).before #[Value.ref b] s = true := hf _ (by decide +kernel)
  have hlen : (Cond.eq (.length (.static "NoekeonEngine" "roundConstants" "[B")) (.int 17)).before #[Value.ref b] s = true := hf _ (by decide +kernel)
  have hel : ∀ j : Nat, j < 17 → (Term.elem (.static "NoekeonEngine" "roundConstants" "[B") (.int (Int32.ofNat j))).eval #[Value.ref b] s none [] s = some (.int (nk_rcb j)) := by
    have key : ∀ j : Nat, j < 17 → (Cond.eq (.elem (.static "NoekeonEngine" "roundConstants" "[B") (.int (Int32.ofNat j))) (.int (nk_rcb j))) ∈ flatC (Jvm.Cond.and given_1 narrow_1) := by decide +kernel
    exact fun j hj => va_eqt (hf _ (key j hj))
  obtain ⟨t, ht, hT⟩ := va_Tof (N := 17) (f := fun j => .int (nk_rcb j)) (by decide) harr (va_eqt hlen) hel hA
  exact ⟨t, va_Zref (hts _ q234) (hts _ (lw_all_tbl q6)) ht hA, hT⟩
set_option maxHeartbeats 4000000 in
set_option maxRecDepth 100000 in
theorem whole_start {p : Program} {e : Env} {s : State} {m : MethodId} {below : List Frame} {meth : Method} {c : Code} (l : Launch) (hflags : l.flags = flags0) {b L : Nat} {xs : Nat → Int32} (hL : L ≤ 12) (C0 : lw_At p s m meth c b L xs) : W p l e room_1 s m #[Value.ref b] below meth c s.heap [] 0 0 (lw_Z below #[Value.ref b] s) (entryFrame m ([Value.ref b] : List Value).toArray 8) := by
  obtain ⟨hx, hb, hr, hml, hown, hts0, hX, hbl, hlocks, hgv⟩ := C0
  have hts : ∀ w ∈ lw_all, w.before #[Value.ref b] s = true := fun w h => hts0 w (lw_all_tbl h)
  have hown : s.vm.findClass RX0 = some m.cls := hown
  obtain ⟨A, hAe⟩ : ∃ A : Nat → Prop, A = fun q => s.heap.size ≤ q := ⟨_, rfl⟩
  have hA : ∀ q : Nat, s.heap.size ≤ q → A q := fun q h => by rw [hAe]; exact h
  have hA2 : ∀ q : Nat, A q → s.heap.size ≤ q := fun q h => by rw [hAe] at h; exact h
  have hAn : ∀ a : Nat, a < s.heap.size → ¬ A a := fun a h z => absurd (hA2 a z) (by omega)
  have hbA : ¬ A b := hAn b hbl
  obtain ⟨t, hzt⟩ := zt_known (A := A) hts0 hgv hAn
  have hE : nk_ctx t A s s.heap := ⟨hzt, va_Fw.of (hts0 _ q74) (hts0 _ q73) (hts0 _ q79) (hts0 _ q77) (hts0 _ q75), va_Fw.of (hts0 _ q170) (hts0 _ q169) (hts0 _ q174) (hts0 _ q172) (hts0 _ q75)⟩
  have hEX : nk_X b L xs s s.heap := ⟨hX, hbl, by omega⟩
  obtain ⟨c0, i0, hk0⟩ := u_known (C := RX1) (T := TX1) (N := 3) (n := 3) hts in_X1 (hts _ q27)
  obtain ⟨c1, i1, hk1⟩ := u_known (C := RX2) (T := TX2) (N := 3) (n := 3) hts in_X2 (hts _ q33)
  obtain ⟨c2, i2, hk2⟩ := u_known (C := RX3) (T := TX3) (N := 1) (n := 1) hts in_X3 (hts _ q53)
  obtain ⟨cb, hcb1, hcb2⟩ := arr_known_b (hts _ q50)
  obtain ⟨cI, hcI1, hcI2⟩ := arr_known_i (hts _ q51)
  obtain ⟨G, hK⟩ : ∃ G : va_G, va_K G vwCl [(cb, .byte), (cI, .int)] s := by
    refine ⟨(fun k => if k = 0 then c0 else if k = 1 then c1 else c2, fun k => if k = 0 then i0 else if k = 1 then i1 else i2), ?_, ?_⟩
    · intro k q hq
      match k, hq with
      | 0, hq => cases hq; exact hk0
      | 1, hq => cases hq; exact hk1
      | 2, hq => cases hq; exact hk2
      | k + 3, hq => simp [vwCl] at hq
    · intro k q hq
      match k, hq with
      | 0, hq => cases hq; exact ⟨hcb1, hcb2⟩
      | 1, hq => cases hq; exact ⟨hcI1, hcI2⟩
      | k + 2, hq => simp at hq
  have hS : va_S A s.heap s.heap [] := va_S.rf
  have hP : va_P G vwCl [] s.heap := fun k q h => by simp at h
  have hD : va_D A [] := ⟨fun i j p q h => by simp at h, fun k q h => by simp at h⟩
  have hl := lv_entry ([.ref b]) (n := 8) (Nat.le_of_ble_eq_true rfl)
  rw [lg_entry_eq]
  generalize (lg_sl ([.ref b]) ++ List.replicate (8 - (lg_sl ([.ref b])).length) Slot.unset).toArray = ls at hl ⊢
  have hl : lv_has ls 8 [(0, .ref b)] := hl
  have hPc := hP.sub (ws' := []) [] rfl
  have hDc := hD.sub (ws' := []) [] (by decide) rfl
  have hFc := va_free (wc := []) hD hS hA [] rfl
  refine call_i (va_runS (As := []) (rest := []) ⟨hx, hb, hml, hown, hts⟩ (metX0_known l G cb cI t _) (va_cwS 0 hts (lw_S q289 q290 q4 q291) rfl rfl rfl (by decide +kernel) ⟨Nat.le_of_ble_eq_true rfl, Nat.le_of_ble_eq_true rfl⟩) (preW_S hPc hK hDc (ctx_in hE hS hFc)) rfl rfl hl.1 rfl (lv_room (Nat.le_of_ble_eq_true rfl)) dL_law_0 ⟨Nat.le_of_ble_eq_true rfl, Nat.le_of_ble_eq_true rfl⟩) hP hD hS hFc [] [] (wr := []) rfl rfl (by decide) (by decide) (fun r_1 u_2 H locs huu_2 hP hD hS => ?_)
  have hP : va_P G vwCl [] H := hP
  have hD : va_D A [] := hD
  refine W.widen (k := 30) (n := 369) (by omega) (by omega) ?_
  have huu_2 : r_1 = 1 := huu_2
  subst huu_2
  refine lv_if_ne (tgt := 8) hx hb dL_law_3 (by decide) (fun c9 => ?_) (fun c9 => absurd c9 (by decide))
  refine lv_iconst (v := 1) hx hb dL_law_8 (by decide) ?_
  refine va_newa (atype := .int) (ty := .int) (a0 := (1, .inl (fun _ => 0))) (N' := 1) hx hb (hts _ q51) rfl hK hP hD hS hA (fun _ => rfl) (by decide) (by decide) (Nat.le_of_ble_eq_true rfl) (Nat.le_of_ble_eq_true rfl) (Nat.le_of_ble_eq_true rfl) dL_law_9 (fun qa_3 cA H hK hP hD hS => ?_)
  have hcA : cI = cA := ki_eq hK
  subst hcA
  have hK := hK.sub (tys' := [(cb, .byte), (cI, .int)]) [0, 1] rfl
  have hP : va_P G vwCl [(qa_3, .inl (cI, 1, .inl (fun _ => 0)))] H := hP
  have hD : va_D A [(qa_3, .inl (cI, 1, .inl (fun _ => 0)))] := hD
  refine W.widen (k := 31) (n := 370) (by omega) (by omega) ?_
  refine lv_dup hx hb dL_law_11 rfl ?_
  refine lv_iconst (v := 0) hx hb dL_law_12 (by decide) ?_
  refine lv_iconst (v := 0) hx hb dL_law_13 (by decide) ?_
  refine va_iast hx hb hK hP hD hS 0 1 rfl rfl in_0_1 dL_law_14 (fun H locs hP hD hS => ?_)
  rw [cl_0] at hP hD
  have hP : va_P G vwCl [(qa_3, .inl (cI, 1, .inl (upd (fun _ => 0) (0) 0)))] H := hP
  have hD : va_D A [(qa_3, .inl (cI, 1, .inl (upd (fun _ => 0) (0) 0)))] := hD
  refine lv_astore_n (lv' := [(1, .ref qa_3), (0, .ref b)]) hx hb dL_law_15 rfl hl (by decide) rfl (fun ls hl => ?_)
  refine lv_aload_n hx hb dL_law_16 rfl (lv_at hl 0 rfl) ?_
  refine lv_astore_n (lv' := [(2, .ref qa_3), (1, .ref qa_3), (0, .ref b)]) hx hb dL_law_17 rfl hl (by decide) rfl (fun ls hl => ?_)
  refine lv_aload_n hx hb dL_law_18 rfl (lv_at hl 0 rfl) ?_
  refine va_alen (v := 1) hx hb hK hP 0 1 rfl rfl (by first | rfl | decide) dL_law_19 ?_
  refine lv_istore_n (lv' := [(3, .int 1), (2, .ref qa_3), (1, .ref qa_3), (0, .ref b)]) hx hb dL_law_20 rfl hl (by decide) rfl (fun ls hl => ?_)
  refine lv_iconst (v := 0) hx hb dL_law_21 (by decide) ?_
  refine lv_istore (lv' := [(4, .int 0), (3, .int 1), (2, .ref qa_3), (1, .ref qa_3), (0, .ref b)]) hx hb dL_law_22 hl (by decide) rfl (fun ls hl => ?_)
  refine lv_iload hx hb dL_law_24 (lv_at hl 0 rfl) ?_
  refine lv_iload_n hx hb dL_law_26 rfl (lv_at hl 1 rfl) ?_
  refine lv_icmp_ge (tgt := 112) hx hb dL_law_27 (by decide) (fun c9 => absurd c9 (by decide)) (fun c9 => ?_)
  refine lv_aload_n hx hb dL_law_30 rfl (lv_at hl 2 rfl) ?_
  refine lv_iload hx hb dL_law_31 (lv_at hl 0 rfl) ?_
  refine va_iald hx hb hK hP 0 1 rfl rfl in_0_1 dL_law_33 ?_
  refine lv_topi (fun z_4 ez_4 => ?_)
  obtain rfl : z_4 = (upd (fun _ => 0) (0) 0) 0 := by rw [ez_4, cl_0]
  refine lv_topi (fun x5_5 ex5_5 => ?_)
  refine lv_istore (lv' := [(5, .int x5_5), (4, .int 0), (3, .int 1), (2, .ref qa_3), (1, .ref qa_3), (0, .ref b)]) hx hb dL_law_34 hl (by decide) rfl (fun ls hl => ?_)
  refine lv_aload_n hx hb dL_law_36 rfl (lv_at hl 5 rfl) ?_
  have hPc := hP.sub (ws' := []) [] rfl
  have hDc := hD.sub (ws' := []) [] (by decide) rfl
  have hFc := va_free (wc := []) hD hS hA [] rfl
  refine call_r (va_runS (As := [.ref b]) (rest := []) ⟨hx, hb, hml, hown, hts⟩ (metX0_with l G cb cI b L xs _) (va_cwS 1 hts (lw_S q250 q251 q4 q252) rfl rfl rfl (by decide +kernel) ⟨Nat.le_of_ble_eq_true rfl, Nat.le_of_ble_eq_true rfl⟩) (preW_S hPc hK hDc (X_in hEX hbA hS)) rfl rfl hl.1 rfl (lv_room (Nat.le_of_ble_eq_true rfl)) dL_law_37 ⟨Nat.le_of_ble_eq_true rfl, Nat.le_of_ble_eq_true rfl⟩) hP hD hS hFc [] [0] (wr := [(qa_3, .inl (cI, 1, .inl (upd (fun _ => 0) (0) 0)))]) rfl rfl (by decide) (by decide) (fun r_6 wx_7 H locs huwx_7 hP hD hS => ?_)
  have hP : va_P G vwCl [(qa_3, .inl (cI, 1, .inl (upd (fun _ => 0) (0) 0))), (r_6, .inr (0, [.ref wx_7.1.1, .ref wx_7.1.2.1, .ref wx_7.1.2.2])), (wx_7.1.1, .inl (cb, 32, .inl wx_7.2.1)), (wx_7.1.2.1, .inl (cb, 16, .inl wx_7.2.2.1)), (wx_7.1.2.2, .inl (cb, 16, .inl wx_7.2.2.2))] H := hP
  have hD : va_D A [(qa_3, .inl (cI, 1, .inl (upd (fun _ => 0) (0) 0))), (r_6, .inr (0, [.ref wx_7.1.1, .ref wx_7.1.2.1, .ref wx_7.1.2.2])), (wx_7.1.1, .inl (cb, 32, .inl wx_7.2.1)), (wx_7.1.2.1, .inl (cb, 16, .inl wx_7.2.2.1)), (wx_7.1.2.2, .inl (cb, 16, .inl wx_7.2.2.2))] := hD
  refine W.widen (k := 35) (n := 437) (by omega) (by omega) ?_
  refine lv_astore (lv' := [(6, .ref r_6), (5, .int x5_5), (4, .int 0), (3, .int 1), (2, .ref qa_3), (1, .ref qa_3), (0, .ref b)]) hx hb dL_law_40 hl (by decide) rfl (fun ls hl => ?_)
  refine lv_aload_n hx hb dL_law_42 rfl (lv_at hl 6 rfl) ?_
  have hPc := hP.sub (ws' := []) [] rfl
  have hDc := hD.sub (ws' := []) [] (by decide) rfl
  have hFc := va_free (wc := []) hD hS hA [] rfl
  refine call_r (va_runS (As := [.ref b]) (rest := []) ⟨hx, hb, hml, hown, hts⟩ (metX0_with l G cb cI b L xs _) (va_cwS 1 hts (lw_S q250 q251 q4 q252) rfl rfl rfl (by decide +kernel) ⟨Nat.le_of_ble_eq_true rfl, Nat.le_of_ble_eq_true rfl⟩) (preW_S hPc hK hDc (X_in hEX hbA hS)) rfl rfl hl.1 rfl (lv_room (Nat.le_of_ble_eq_true rfl)) dL_law_43 ⟨Nat.le_of_ble_eq_true rfl, Nat.le_of_ble_eq_true rfl⟩) hP hD hS hFc [] [0, 1, 2, 3, 4] (wr := [(qa_3, .inl (cI, 1, .inl (upd (fun _ => 0) (0) 0))), (r_6, .inr (0, [.ref wx_7.1.1, .ref wx_7.1.2.1, .ref wx_7.1.2.2])), (wx_7.1.1, .inl (cb, 32, .inl wx_7.2.1)), (wx_7.1.2.1, .inl (cb, 16, .inl wx_7.2.2.1)), (wx_7.1.2.2, .inl (cb, 16, .inl wx_7.2.2.2))]) rfl rfl (by decide) (by decide) (fun r_8 wy_9 H locs huwy_9 hP hD hS => ?_)
  have hP : va_P G vwCl [(qa_3, .inl (cI, 1, .inl (upd (fun _ => 0) (0) 0))), (r_6, .inr (0, [.ref wx_7.1.1, .ref wx_7.1.2.1, .ref wx_7.1.2.2])), (wx_7.1.1, .inl (cb, 32, .inl wx_7.2.1)), (wx_7.1.2.1, .inl (cb, 16, .inl wx_7.2.2.1)), (wx_7.1.2.2, .inl (cb, 16, .inl wx_7.2.2.2)), (r_8, .inr (0, [.ref wy_9.1.1, .ref wy_9.1.2.1, .ref wy_9.1.2.2])), (wy_9.1.1, .inl (cb, 32, .inl wy_9.2.1)), (wy_9.1.2.1, .inl (cb, 16, .inl wy_9.2.2.1)), (wy_9.1.2.2, .inl (cb, 16, .inl wy_9.2.2.2))] H := hP
  have hD : va_D A [(qa_3, .inl (cI, 1, .inl (upd (fun _ => 0) (0) 0))), (r_6, .inr (0, [.ref wx_7.1.1, .ref wx_7.1.2.1, .ref wx_7.1.2.2])), (wx_7.1.1, .inl (cb, 32, .inl wx_7.2.1)), (wx_7.1.2.1, .inl (cb, 16, .inl wx_7.2.2.1)), (wx_7.1.2.2, .inl (cb, 16, .inl wx_7.2.2.2)), (r_8, .inr (0, [.ref wy_9.1.1, .ref wy_9.1.2.1, .ref wy_9.1.2.2])), (wy_9.1.1, .inl (cb, 32, .inl wy_9.2.1)), (wy_9.1.2.1, .inl (cb, 16, .inl wy_9.2.2.1)), (wy_9.1.2.2, .inl (cb, 16, .inl wy_9.2.2.2))] := hD
  refine W.widen (k := 39) (n := 504) (by omega) (by omega) ?_
  refine lv_astore (lv' := [(7, .ref r_8), (6, .ref r_6), (5, .int x5_5), (4, .int 0), (3, .int 1), (2, .ref qa_3), (1, .ref qa_3), (0, .ref b)]) hx hb dL_law_46 hl (by decide) rfl (fun ls hl => ?_)
  refine lv_aload hx hb dL_law_48 (lv_at hl 1 rfl) ?_
  refine lv_iload hx hb dL_law_50 (lv_at hl 2 rfl) ?_
  have hPc := hP.sub (ws' := [(r_6, .inr (0, [.ref wx_7.1.1, .ref wx_7.1.2.1, .ref wx_7.1.2.2])), (wx_7.1.1, .inl (cb, 32, .inl wx_7.2.1)), (wx_7.1.2.1, .inl (cb, 16, .inl wx_7.2.2.1)), (wx_7.1.2.2, .inl (cb, 16, .inl wx_7.2.2.2))]) [1, 2, 3, 4] rfl
  have hDc := hD.sub (ws' := [(r_6, .inr (0, [.ref wx_7.1.1, .ref wx_7.1.2.1, .ref wx_7.1.2.2])), (wx_7.1.1, .inl (cb, 32, .inl wx_7.2.1)), (wx_7.1.2.1, .inl (cb, 16, .inl wx_7.2.2.1)), (wx_7.1.2.2, .inl (cb, 16, .inl wx_7.2.2.2))]) [1, 2, 3, 4] (by decide) rfl
  have hFc := va_free (wc := [(r_6, .inr (0, [.ref wx_7.1.1, .ref wx_7.1.2.1, .ref wx_7.1.2.2])), (wx_7.1.1, .inl (cb, 32, .inl wx_7.2.1)), (wx_7.1.2.1, .inl (cb, 16, .inl wx_7.2.2.1)), (wx_7.1.2.2, .inl (cb, 16, .inl wx_7.2.2.2))]) hD hS hA [1, 2, 3, 4] rfl
  refine call_v (va_runV (As := [.int x5_5]) (rest := []) ⟨hx, hb, hml, hown, hts⟩ (metX1_lock l G cb cI t r_6 wx_7.1.1 wx_7.1.2.1 wx_7.1.2.2 (wx_7.2.1) (wx_7.2.2.1) (wx_7.2.2.2) x5_5 _) (cwV 1 hts (lw_V q20 q21 q22 q5 q23) rfl rfl rfl (by decide +kernel) ⟨Nat.le_of_ble_eq_true rfl, Nat.le_of_ble_eq_true rfl⟩) (preW_V (ci := 0) (q0 := 0) hPc hK hDc (ctx_in hE hS hFc) rfl rfl) rfl rfl hl.1 rfl (lv_room (Nat.le_of_ble_eq_true rfl)) dL_law_52 ⟨Nat.le_of_ble_eq_true rfl, Nat.le_of_ble_eq_true rfl⟩) hP hD hS hFc [1, 2, 3, 4] [0, 5, 6, 7, 8] (wr := [(qa_3, .inl (cI, 1, .inl (upd (fun _ => 0) (0) 0))), (r_8, .inr (0, [.ref wy_9.1.1, .ref wy_9.1.2.1, .ref wy_9.1.2.2])), (wy_9.1.1, .inl (cb, 32, .inl wy_9.2.1)), (wy_9.1.2.1, .inl (cb, 16, .inl wy_9.2.2.1)), (wy_9.1.2.2, .inl (cb, 16, .inl wy_9.2.2.2))]) rfl rfl (by decide) (by decide) (fun fo_10 H locs hufo_10 hP hD hS => ?_)
  have hP : va_P G vwCl [(qa_3, .inl (cI, 1, .inl (upd (fun _ => 0) (0) 0))), (r_8, .inr (0, [.ref wy_9.1.1, .ref wy_9.1.2.1, .ref wy_9.1.2.2])), (wy_9.1.1, .inl (cb, 32, .inl wy_9.2.1)), (wy_9.1.2.1, .inl (cb, 16, .inl wy_9.2.2.1)), (wy_9.1.2.2, .inl (cb, 16, .inl wy_9.2.2.2)), (r_6, .inr (0, [.ref wx_7.1.1, .ref wx_7.1.2.1, .ref wx_7.1.2.2])), (wx_7.1.1, .inl (cb, 32, .inl wx_7.2.1)), (wx_7.1.2.1, .inl (cb, 16, .inl wx_7.2.2.1)), (wx_7.1.2.2, .inl (cb, 16, .inl fo_10))] H := hP
  have hD : va_D A [(qa_3, .inl (cI, 1, .inl (upd (fun _ => 0) (0) 0))), (r_8, .inr (0, [.ref wy_9.1.1, .ref wy_9.1.2.1, .ref wy_9.1.2.2])), (wy_9.1.1, .inl (cb, 32, .inl wy_9.2.1)), (wy_9.1.2.1, .inl (cb, 16, .inl wy_9.2.2.1)), (wy_9.1.2.2, .inl (cb, 16, .inl wy_9.2.2.2)), (r_6, .inr (0, [.ref wx_7.1.1, .ref wx_7.1.2.1, .ref wx_7.1.2.2])), (wx_7.1.1, .inl (cb, 32, .inl wx_7.2.1)), (wx_7.1.2.1, .inl (cb, 16, .inl wx_7.2.2.1)), (wx_7.1.2.2, .inl (cb, 16, .inl fo_10))] := hD
  refine W.widen (k := 44) (n := 544) (by omega) (by omega) ?_
  refine lv_aload hx hb dL_law_55 (lv_at hl 0 rfl) ?_
  refine lv_iload hx hb dL_law_57 (lv_at hl 2 rfl) ?_
  have hPc := hP.sub (ws' := [(r_8, .inr (0, [.ref wy_9.1.1, .ref wy_9.1.2.1, .ref wy_9.1.2.2])), (wy_9.1.1, .inl (cb, 32, .inl wy_9.2.1)), (wy_9.1.2.1, .inl (cb, 16, .inl wy_9.2.2.1)), (wy_9.1.2.2, .inl (cb, 16, .inl wy_9.2.2.2))]) [1, 2, 3, 4] rfl
  have hDc := hD.sub (ws' := [(r_8, .inr (0, [.ref wy_9.1.1, .ref wy_9.1.2.1, .ref wy_9.1.2.2])), (wy_9.1.1, .inl (cb, 32, .inl wy_9.2.1)), (wy_9.1.2.1, .inl (cb, 16, .inl wy_9.2.2.1)), (wy_9.1.2.2, .inl (cb, 16, .inl wy_9.2.2.2))]) [1, 2, 3, 4] (by decide) rfl
  have hFc := va_free (wc := [(r_8, .inr (0, [.ref wy_9.1.1, .ref wy_9.1.2.1, .ref wy_9.1.2.2])), (wy_9.1.1, .inl (cb, 32, .inl wy_9.2.1)), (wy_9.1.2.1, .inl (cb, 16, .inl wy_9.2.2.1)), (wy_9.1.2.2, .inl (cb, 16, .inl wy_9.2.2.2))]) hD hS hA [1, 2, 3, 4] rfl
  refine call_v (va_runV (As := [.int x5_5]) (rest := []) ⟨hx, hb, hml, hown, hts⟩ (metX1_open l G cb cI t r_8 wy_9.1.1 wy_9.1.2.1 wy_9.1.2.2 (wy_9.2.1) (wy_9.2.2.1) (wy_9.2.2.2) x5_5 _) (cwV 1 hts (lw_V q242 q243 q244 q5 q245) rfl rfl rfl (by decide +kernel) ⟨Nat.le_of_ble_eq_true rfl, Nat.le_of_ble_eq_true rfl⟩) (preW_V (ci := 0) (q0 := 0) hPc hK hDc (ctx_in hE hS hFc) rfl rfl) rfl rfl hl.1 rfl (lv_room (Nat.le_of_ble_eq_true rfl)) dL_law_59 ⟨Nat.le_of_ble_eq_true rfl, Nat.le_of_ble_eq_true rfl⟩) hP hD hS hFc [1, 2, 3, 4] [0, 5, 6, 7, 8] (wr := [(qa_3, .inl (cI, 1, .inl (upd (fun _ => 0) (0) 0))), (r_6, .inr (0, [.ref wx_7.1.1, .ref wx_7.1.2.1, .ref wx_7.1.2.2])), (wx_7.1.1, .inl (cb, 32, .inl wx_7.2.1)), (wx_7.1.2.1, .inl (cb, 16, .inl wx_7.2.2.1)), (wx_7.1.2.2, .inl (cb, 16, .inl fo_10))]) rfl rfl (by decide) (by decide) (fun fo_11 H locs hufo_11 hP hD hS => ?_)
  have hP : va_P G vwCl [(qa_3, .inl (cI, 1, .inl (upd (fun _ => 0) (0) 0))), (r_6, .inr (0, [.ref wx_7.1.1, .ref wx_7.1.2.1, .ref wx_7.1.2.2])), (wx_7.1.1, .inl (cb, 32, .inl wx_7.2.1)), (wx_7.1.2.1, .inl (cb, 16, .inl wx_7.2.2.1)), (wx_7.1.2.2, .inl (cb, 16, .inl fo_10)), (r_8, .inr (0, [.ref wy_9.1.1, .ref wy_9.1.2.1, .ref wy_9.1.2.2])), (wy_9.1.1, .inl (cb, 32, .inl wy_9.2.1)), (wy_9.1.2.1, .inl (cb, 16, .inl wy_9.2.2.1)), (wy_9.1.2.2, .inl (cb, 16, .inl fo_11))] H := hP
  have hD : va_D A [(qa_3, .inl (cI, 1, .inl (upd (fun _ => 0) (0) 0))), (r_6, .inr (0, [.ref wx_7.1.1, .ref wx_7.1.2.1, .ref wx_7.1.2.2])), (wx_7.1.1, .inl (cb, 32, .inl wx_7.2.1)), (wx_7.1.2.1, .inl (cb, 16, .inl wx_7.2.2.1)), (wx_7.1.2.2, .inl (cb, 16, .inl fo_10)), (r_8, .inr (0, [.ref wy_9.1.1, .ref wy_9.1.2.1, .ref wy_9.1.2.2])), (wy_9.1.1, .inl (cb, 32, .inl wy_9.2.1)), (wy_9.1.2.1, .inl (cb, 16, .inl wy_9.2.2.1)), (wy_9.1.2.2, .inl (cb, 16, .inl fo_11))] := hD
  refine W.widen (k := 49) (n := 584) (by omega) (by omega) ?_
  refine lv_aload hx hb dL_law_62 (lv_at hl 1 rfl) ?_
  have hPc := hP.sub (ws' := [(r_6, .inr (0, [.ref wx_7.1.1, .ref wx_7.1.2.1, .ref wx_7.1.2.2])), (wx_7.1.2.1, .inl (cb, 16, .inl wx_7.2.2.1)), (wx_7.1.2.2, .inl (cb, 16, .inl fo_10))]) [1, 3, 4] rfl
  have hDc := hD.sub (ws' := [(r_6, .inr (0, [.ref wx_7.1.1, .ref wx_7.1.2.1, .ref wx_7.1.2.2])), (wx_7.1.2.1, .inl (cb, 16, .inl wx_7.2.2.1)), (wx_7.1.2.2, .inl (cb, 16, .inl fo_10))]) [1, 3, 4] (by decide) rfl
  have hFc := va_free (wc := [(r_6, .inr (0, [.ref wx_7.1.1, .ref wx_7.1.2.1, .ref wx_7.1.2.2])), (wx_7.1.2.1, .inl (cb, 16, .inl wx_7.2.2.1)), (wx_7.1.2.2, .inl (cb, 16, .inl fo_10))]) hD hS hA [1, 3, 4] rfl
  refine call_v (va_runV (As := []) (rest := []) ⟨hx, hb, hml, hown, hts⟩ (metX1_again l G cb cI r_6 wx_7.1.1 wx_7.1.2.1 wx_7.1.2.2 (wx_7.2.2.1) fo_10 _) (cwV 0 hts (lw_V q246 q247 q248 q5 q249) rfl rfl rfl (by decide +kernel) ⟨Nat.le_of_ble_eq_true rfl, Nat.le_of_ble_eq_true rfl⟩) (preW_V (ci := 0) (q0 := 0) hPc hK hDc (tru_in) rfl rfl) rfl rfl hl.1 rfl (lv_room (Nat.le_of_ble_eq_true rfl)) dL_law_64 ⟨Nat.le_of_ble_eq_true rfl, Nat.le_of_ble_eq_true rfl⟩) hP hD hS hFc [1, 3, 4] [0, 2, 5, 6, 7, 8] (wr := [(qa_3, .inl (cI, 1, .inl (upd (fun _ => 0) (0) 0))), (wx_7.1.1, .inl (cb, 32, .inl wx_7.2.1)), (r_8, .inr (0, [.ref wy_9.1.1, .ref wy_9.1.2.1, .ref wy_9.1.2.2])), (wy_9.1.1, .inl (cb, 32, .inl wy_9.2.1)), (wy_9.1.2.1, .inl (cb, 16, .inl wy_9.2.2.1)), (wy_9.1.2.2, .inl (cb, 16, .inl fo_11))]) rfl rfl (by decide) (by decide) (fun fb_12 H locs hufb_12 hP hD hS => ?_)
  have hP : va_P G vwCl [(qa_3, .inl (cI, 1, .inl (upd (fun _ => 0) (0) 0))), (wx_7.1.1, .inl (cb, 32, .inl wx_7.2.1)), (r_8, .inr (0, [.ref wy_9.1.1, .ref wy_9.1.2.1, .ref wy_9.1.2.2])), (wy_9.1.1, .inl (cb, 32, .inl wy_9.2.1)), (wy_9.1.2.1, .inl (cb, 16, .inl wy_9.2.2.1)), (wy_9.1.2.2, .inl (cb, 16, .inl fo_11)), (r_6, .inr (0, [.ref wx_7.1.1, .ref wx_7.1.2.1, .ref wx_7.1.2.2])), (wx_7.1.2.1, .inl (cb, 16, .inl fb_12)), (wx_7.1.2.2, .inl (cb, 16, .inl fo_10))] H := hP
  have hD : va_D A [(qa_3, .inl (cI, 1, .inl (upd (fun _ => 0) (0) 0))), (wx_7.1.1, .inl (cb, 32, .inl wx_7.2.1)), (r_8, .inr (0, [.ref wy_9.1.1, .ref wy_9.1.2.1, .ref wy_9.1.2.2])), (wy_9.1.1, .inl (cb, 32, .inl wy_9.2.1)), (wy_9.1.2.1, .inl (cb, 16, .inl wy_9.2.2.1)), (wy_9.1.2.2, .inl (cb, 16, .inl fo_11)), (r_6, .inr (0, [.ref wx_7.1.1, .ref wx_7.1.2.1, .ref wx_7.1.2.2])), (wx_7.1.2.1, .inl (cb, 16, .inl fb_12)), (wx_7.1.2.2, .inl (cb, 16, .inl fo_10))] := hD
  refine W.widen (k := 49) (n := 584) (by omega) (by omega) ?_
  refine lv_aload hx hb dL_law_67 (lv_at hl 1 rfl) ?_
  refine lv_iload hx hb dL_law_69 (lv_at hl 2 rfl) ?_
  have hPc := hP.sub (ws' := [(r_6, .inr (0, [.ref wx_7.1.1, .ref wx_7.1.2.1, .ref wx_7.1.2.2])), (wx_7.1.1, .inl (cb, 32, .inl wx_7.2.1)), (wx_7.1.2.1, .inl (cb, 16, .inl fb_12)), (wx_7.1.2.2, .inl (cb, 16, .inl fo_10))]) [6, 1, 7, 8] rfl
  have hDc := hD.sub (ws' := [(r_6, .inr (0, [.ref wx_7.1.1, .ref wx_7.1.2.1, .ref wx_7.1.2.2])), (wx_7.1.1, .inl (cb, 32, .inl wx_7.2.1)), (wx_7.1.2.1, .inl (cb, 16, .inl fb_12)), (wx_7.1.2.2, .inl (cb, 16, .inl fo_10))]) [6, 1, 7, 8] (by decide) rfl
  have hFc := va_free (wc := [(r_6, .inr (0, [.ref wx_7.1.1, .ref wx_7.1.2.1, .ref wx_7.1.2.2])), (wx_7.1.1, .inl (cb, 32, .inl wx_7.2.1)), (wx_7.1.2.1, .inl (cb, 16, .inl fb_12)), (wx_7.1.2.2, .inl (cb, 16, .inl fo_10))]) hD hS hA [6, 1, 7, 8] rfl
  refine call_v (va_runV (As := [.int x5_5]) (rest := []) ⟨hx, hb, hml, hown, hts⟩ (metX1_open l G cb cI t r_6 wx_7.1.1 wx_7.1.2.1 wx_7.1.2.2 (wx_7.2.1) fb_12 fo_10 x5_5 _) (cwV 1 hts (lw_V q242 q243 q244 q5 q245) rfl rfl rfl (by decide +kernel) ⟨Nat.le_of_ble_eq_true rfl, Nat.le_of_ble_eq_true rfl⟩) (preW_V (ci := 0) (q0 := 0) hPc hK hDc (ctx_in hE hS hFc) rfl rfl) rfl rfl hl.1 rfl (lv_room (Nat.le_of_ble_eq_true rfl)) dL_law_71 ⟨Nat.le_of_ble_eq_true rfl, Nat.le_of_ble_eq_true rfl⟩) hP hD hS hFc [6, 1, 7, 8] [0, 2, 3, 4, 5] (wr := [(qa_3, .inl (cI, 1, .inl (upd (fun _ => 0) (0) 0))), (r_8, .inr (0, [.ref wy_9.1.1, .ref wy_9.1.2.1, .ref wy_9.1.2.2])), (wy_9.1.1, .inl (cb, 32, .inl wy_9.2.1)), (wy_9.1.2.1, .inl (cb, 16, .inl wy_9.2.2.1)), (wy_9.1.2.2, .inl (cb, 16, .inl fo_11))]) rfl rfl (by decide) (by decide) (fun fo_13 H locs hufo_13 hP hD hS => ?_)
  have hP : va_P G vwCl [(qa_3, .inl (cI, 1, .inl (upd (fun _ => 0) (0) 0))), (r_8, .inr (0, [.ref wy_9.1.1, .ref wy_9.1.2.1, .ref wy_9.1.2.2])), (wy_9.1.1, .inl (cb, 32, .inl wy_9.2.1)), (wy_9.1.2.1, .inl (cb, 16, .inl wy_9.2.2.1)), (wy_9.1.2.2, .inl (cb, 16, .inl fo_11)), (r_6, .inr (0, [.ref wx_7.1.1, .ref wx_7.1.2.1, .ref wx_7.1.2.2])), (wx_7.1.1, .inl (cb, 32, .inl wx_7.2.1)), (wx_7.1.2.1, .inl (cb, 16, .inl fb_12)), (wx_7.1.2.2, .inl (cb, 16, .inl fo_13))] H := hP
  have hD : va_D A [(qa_3, .inl (cI, 1, .inl (upd (fun _ => 0) (0) 0))), (r_8, .inr (0, [.ref wy_9.1.1, .ref wy_9.1.2.1, .ref wy_9.1.2.2])), (wy_9.1.1, .inl (cb, 32, .inl wy_9.2.1)), (wy_9.1.2.1, .inl (cb, 16, .inl wy_9.2.2.1)), (wy_9.1.2.2, .inl (cb, 16, .inl fo_11)), (r_6, .inr (0, [.ref wx_7.1.1, .ref wx_7.1.2.1, .ref wx_7.1.2.2])), (wx_7.1.1, .inl (cb, 32, .inl wx_7.2.1)), (wx_7.1.2.1, .inl (cb, 16, .inl fb_12)), (wx_7.1.2.2, .inl (cb, 16, .inl fo_13))] := hD
  refine W.widen (k := 54) (n := 624) (by omega) (by omega) ?_
  refine lv_aload hx hb dL_law_74 (lv_at hl 0 rfl) ?_
  have hPc := hP.sub (ws' := [(r_8, .inr (0, [.ref wy_9.1.1, .ref wy_9.1.2.1, .ref wy_9.1.2.2])), (wy_9.1.2.1, .inl (cb, 16, .inl wy_9.2.2.1)), (wy_9.1.2.2, .inl (cb, 16, .inl fo_11))]) [1, 3, 4] rfl
  have hDc := hD.sub (ws' := [(r_8, .inr (0, [.ref wy_9.1.1, .ref wy_9.1.2.1, .ref wy_9.1.2.2])), (wy_9.1.2.1, .inl (cb, 16, .inl wy_9.2.2.1)), (wy_9.1.2.2, .inl (cb, 16, .inl fo_11))]) [1, 3, 4] (by decide) rfl
  have hFc := va_free (wc := [(r_8, .inr (0, [.ref wy_9.1.1, .ref wy_9.1.2.1, .ref wy_9.1.2.2])), (wy_9.1.2.1, .inl (cb, 16, .inl wy_9.2.2.1)), (wy_9.1.2.2, .inl (cb, 16, .inl fo_11))]) hD hS hA [1, 3, 4] rfl
  refine call_v (va_runV (As := []) (rest := []) ⟨hx, hb, hml, hown, hts⟩ (metX1_again l G cb cI r_8 wy_9.1.1 wy_9.1.2.1 wy_9.1.2.2 (wy_9.2.2.1) fo_11 _) (cwV 0 hts (lw_V q246 q247 q248 q5 q249) rfl rfl rfl (by decide +kernel) ⟨Nat.le_of_ble_eq_true rfl, Nat.le_of_ble_eq_true rfl⟩) (preW_V (ci := 0) (q0 := 0) hPc hK hDc (tru_in) rfl rfl) rfl rfl hl.1 rfl (lv_room (Nat.le_of_ble_eq_true rfl)) dL_law_76 ⟨Nat.le_of_ble_eq_true rfl, Nat.le_of_ble_eq_true rfl⟩) hP hD hS hFc [1, 3, 4] [0, 2, 5, 6, 7, 8] (wr := [(qa_3, .inl (cI, 1, .inl (upd (fun _ => 0) (0) 0))), (wy_9.1.1, .inl (cb, 32, .inl wy_9.2.1)), (r_6, .inr (0, [.ref wx_7.1.1, .ref wx_7.1.2.1, .ref wx_7.1.2.2])), (wx_7.1.1, .inl (cb, 32, .inl wx_7.2.1)), (wx_7.1.2.1, .inl (cb, 16, .inl fb_12)), (wx_7.1.2.2, .inl (cb, 16, .inl fo_13))]) rfl rfl (by decide) (by decide) (fun fb_14 H locs hufb_14 hP hD hS => ?_)
  have hP : va_P G vwCl [(qa_3, .inl (cI, 1, .inl (upd (fun _ => 0) (0) 0))), (wy_9.1.1, .inl (cb, 32, .inl wy_9.2.1)), (r_6, .inr (0, [.ref wx_7.1.1, .ref wx_7.1.2.1, .ref wx_7.1.2.2])), (wx_7.1.1, .inl (cb, 32, .inl wx_7.2.1)), (wx_7.1.2.1, .inl (cb, 16, .inl fb_12)), (wx_7.1.2.2, .inl (cb, 16, .inl fo_13)), (r_8, .inr (0, [.ref wy_9.1.1, .ref wy_9.1.2.1, .ref wy_9.1.2.2])), (wy_9.1.2.1, .inl (cb, 16, .inl fb_14)), (wy_9.1.2.2, .inl (cb, 16, .inl fo_11))] H := hP
  have hD : va_D A [(qa_3, .inl (cI, 1, .inl (upd (fun _ => 0) (0) 0))), (wy_9.1.1, .inl (cb, 32, .inl wy_9.2.1)), (r_6, .inr (0, [.ref wx_7.1.1, .ref wx_7.1.2.1, .ref wx_7.1.2.2])), (wx_7.1.1, .inl (cb, 32, .inl wx_7.2.1)), (wx_7.1.2.1, .inl (cb, 16, .inl fb_12)), (wx_7.1.2.2, .inl (cb, 16, .inl fo_13)), (r_8, .inr (0, [.ref wy_9.1.1, .ref wy_9.1.2.1, .ref wy_9.1.2.2])), (wy_9.1.2.1, .inl (cb, 16, .inl fb_14)), (wy_9.1.2.2, .inl (cb, 16, .inl fo_11))] := hD
  refine W.widen (k := 54) (n := 624) (by omega) (by omega) ?_
  refine lv_aload hx hb dL_law_79 (lv_at hl 0 rfl) ?_
  refine lv_iload hx hb dL_law_81 (lv_at hl 2 rfl) ?_
  have hPc := hP.sub (ws' := [(r_8, .inr (0, [.ref wy_9.1.1, .ref wy_9.1.2.1, .ref wy_9.1.2.2])), (wy_9.1.1, .inl (cb, 32, .inl wy_9.2.1)), (wy_9.1.2.1, .inl (cb, 16, .inl fb_14)), (wy_9.1.2.2, .inl (cb, 16, .inl fo_11))]) [6, 1, 7, 8] rfl
  have hDc := hD.sub (ws' := [(r_8, .inr (0, [.ref wy_9.1.1, .ref wy_9.1.2.1, .ref wy_9.1.2.2])), (wy_9.1.1, .inl (cb, 32, .inl wy_9.2.1)), (wy_9.1.2.1, .inl (cb, 16, .inl fb_14)), (wy_9.1.2.2, .inl (cb, 16, .inl fo_11))]) [6, 1, 7, 8] (by decide) rfl
  have hFc := va_free (wc := [(r_8, .inr (0, [.ref wy_9.1.1, .ref wy_9.1.2.1, .ref wy_9.1.2.2])), (wy_9.1.1, .inl (cb, 32, .inl wy_9.2.1)), (wy_9.1.2.1, .inl (cb, 16, .inl fb_14)), (wy_9.1.2.2, .inl (cb, 16, .inl fo_11))]) hD hS hA [6, 1, 7, 8] rfl
  refine call_v (va_runV (As := [.int x5_5]) (rest := []) ⟨hx, hb, hml, hown, hts⟩ (metX1_lock l G cb cI t r_8 wy_9.1.1 wy_9.1.2.1 wy_9.1.2.2 (wy_9.2.1) fb_14 fo_11 x5_5 _) (cwV 1 hts (lw_V q20 q21 q22 q5 q23) rfl rfl rfl (by decide +kernel) ⟨Nat.le_of_ble_eq_true rfl, Nat.le_of_ble_eq_true rfl⟩) (preW_V (ci := 0) (q0 := 0) hPc hK hDc (ctx_in hE hS hFc) rfl rfl) rfl rfl hl.1 rfl (lv_room (Nat.le_of_ble_eq_true rfl)) dL_law_83 ⟨Nat.le_of_ble_eq_true rfl, Nat.le_of_ble_eq_true rfl⟩) hP hD hS hFc [6, 1, 7, 8] [0, 2, 3, 4, 5] (wr := [(qa_3, .inl (cI, 1, .inl (upd (fun _ => 0) (0) 0))), (r_6, .inr (0, [.ref wx_7.1.1, .ref wx_7.1.2.1, .ref wx_7.1.2.2])), (wx_7.1.1, .inl (cb, 32, .inl wx_7.2.1)), (wx_7.1.2.1, .inl (cb, 16, .inl fb_12)), (wx_7.1.2.2, .inl (cb, 16, .inl fo_13))]) rfl rfl (by decide) (by decide) (fun fo_15 H locs hufo_15 hP hD hS => ?_)
  have hP : va_P G vwCl [(qa_3, .inl (cI, 1, .inl (upd (fun _ => 0) (0) 0))), (r_6, .inr (0, [.ref wx_7.1.1, .ref wx_7.1.2.1, .ref wx_7.1.2.2])), (wx_7.1.1, .inl (cb, 32, .inl wx_7.2.1)), (wx_7.1.2.1, .inl (cb, 16, .inl fb_12)), (wx_7.1.2.2, .inl (cb, 16, .inl fo_13)), (r_8, .inr (0, [.ref wy_9.1.1, .ref wy_9.1.2.1, .ref wy_9.1.2.2])), (wy_9.1.1, .inl (cb, 32, .inl wy_9.2.1)), (wy_9.1.2.1, .inl (cb, 16, .inl fb_14)), (wy_9.1.2.2, .inl (cb, 16, .inl fo_15))] H := hP
  have hD : va_D A [(qa_3, .inl (cI, 1, .inl (upd (fun _ => 0) (0) 0))), (r_6, .inr (0, [.ref wx_7.1.1, .ref wx_7.1.2.1, .ref wx_7.1.2.2])), (wx_7.1.1, .inl (cb, 32, .inl wx_7.2.1)), (wx_7.1.2.1, .inl (cb, 16, .inl fb_12)), (wx_7.1.2.2, .inl (cb, 16, .inl fo_13)), (r_8, .inr (0, [.ref wy_9.1.1, .ref wy_9.1.2.1, .ref wy_9.1.2.2])), (wy_9.1.1, .inl (cb, 32, .inl wy_9.2.1)), (wy_9.1.2.1, .inl (cb, 16, .inl fb_14)), (wy_9.1.2.2, .inl (cb, 16, .inl fo_15))] := hD
  refine W.widen (k := 59) (n := 664) (by omega) (by omega) ?_
  have hxo : nk_wds fo_13 = (nk_cell L xs 8, nk_cell L xs 9, nk_cell L xs 10, nk_cell L xs 11) := by rw [hufo_13, hufb_12, hufo_10, dec_enc]; exact huwx_7.2
  have hyo : nk_wds fo_15 = (nk_cell L xs 8, nk_cell L xs 9, nk_cell L xs 10, nk_cell L xs 11) := by rw [hufo_15, hufb_14, hufo_11, enc_dec]; exact huwy_9.2
  refine lv_aload hx hb dL_law_86 (lv_at hl 1 rfl) ?_
  refine lv_aload_n hx hb dL_law_88 rfl (lv_at hl 7 rfl) ?_
  have hPc := hP.sub (ws' := [(r_6, .inr (0, [.ref wx_7.1.1, .ref wx_7.1.2.1, .ref wx_7.1.2.2])), (wx_7.1.2.2, .inl (cb, 16, .inl fo_13))]) [1, 4] rfl
  refine vp_callSi (W.runS (As := [.ref r_6, .ref b]) (rest := []) ⟨hx, hb, hml, hown, hts⟩ (metX0_same l G cb cI r_6 wx_7.1.1 wx_7.1.2.1 wx_7.1.2.2 b L xs fo_13 hxo) (va_cwS 2 hts (lw_S q282 q283 q4 q284) rfl rfl rfl (by decide +kernel) ⟨Nat.le_of_ble_eq_true rfl, Nat.le_of_ble_eq_true rfl⟩) (preR_S hPc hK (X_in hEX hbA hS)) rfl rfl hl.1 rfl (lv_room (Nat.le_of_ble_eq_true rfl)) dL_law_89 ⟨Nat.le_of_ble_eq_true rfl, Nat.le_of_ble_eq_true rfl⟩) (fun r_16 er_16 => ?_)
  subst er_16
  refine lv_if_eq (tgt := 104) hx hb dL_law_92 (by decide) (fun c9 => absurd c9 (by decide)) (fun c9 => ?_)
  refine lv_aload hx hb dL_law_95 (lv_at hl 0 rfl) ?_
  refine lv_aload_n hx hb dL_law_97 rfl (lv_at hl 7 rfl) ?_
  have hPc := hP.sub (ws' := [(r_8, .inr (0, [.ref wy_9.1.1, .ref wy_9.1.2.1, .ref wy_9.1.2.2])), (wy_9.1.2.2, .inl (cb, 16, .inl fo_15))]) [5, 8] rfl
  refine vp_callSi (W.runS (As := [.ref r_8, .ref b]) (rest := []) ⟨hx, hb, hml, hown, hts⟩ (metX0_same l G cb cI r_8 wy_9.1.1 wy_9.1.2.1 wy_9.1.2.2 b L xs fo_15 hyo) (va_cwS 2 hts (lw_S q282 q283 q4 q284) rfl rfl rfl (by decide +kernel) ⟨Nat.le_of_ble_eq_true rfl, Nat.le_of_ble_eq_true rfl⟩) (preR_S hPc hK (X_in hEX hbA hS)) rfl rfl hl.1 rfl (lv_room (Nat.le_of_ble_eq_true rfl)) dL_law_98 ⟨Nat.le_of_ble_eq_true rfl, Nat.le_of_ble_eq_true rfl⟩) (fun r_17 er_17 => ?_)
  subst er_17
  refine lv_if_ne (tgt := 106) hx hb dL_law_101 (by decide) (fun c9 => ?_) (fun c9 => absurd c9 (by decide))
  obtain ⟨x4_18, ex4_18⟩ : ∃ y : Int32, y = 0 + Int32.ofInt 1 := ⟨_, rfl⟩
  refine lv_iinc (v := x4_18) (lv' := [(4, .int x4_18), (7, .ref r_8), (6, .ref r_6), (5, .int x5_5), (3, .int 1), (2, .ref qa_3), (1, .ref qa_3), (0, .ref b)]) hx hb dL_law_106 hl (k := 3) rfl ex4_18.symm (by decide) rfl (fun ls hl => ?_)
  refine lv_goto (tgt := 24) hx hb dL_law_109 (by decide) ?_
  refine lv_iload hx hb dL_law_24 (lv_at hl 0 rfl) ?_
  refine lv_iload_n hx hb dL_law_26 rfl (lv_at hl 4 rfl) ?_
  refine lv_icmp_ge (tgt := 112) hx hb dL_law_27 (by decide) (fun c9 => ?_) (fun c9 => absurd (by rw [ex4_18]; decide) c9)
  refine lv_iconst (v := 1) hx hb dL_law_112 (by decide) ?_
  refine va_forget (fun q hq => hA2 _ (hS.2.2 q hq)) ?_
  refine W.widen (k := 613047) (n := 7262963) (Nat.le_of_ble_eq_true rfl) (Nat.le_of_ble_eq_true rfl) ?_
  exact lw_ret hx hb hr hlocks dL_law_113
set_option maxHeartbeats 4000000 in
theorem lw_walk (l : Launch) (hflags : l.flags = flags0) (b : Addr) (xs : List Int32) : MetFree l x (headSpec (Jvm.Cond.code x code maxLocals ret :: tables_1) room_1) (lw_P b xs) (fun _ _ _ _ _ => True) lw_Q := by
  refine MetFree.of_bodyS (code := code) (maxLocals := maxLocals) (ret := ret) (by decide) ?_ ?_
  · intro args s m h hn
    obtain ⟨meth, c, h1, h2, h3, h4, h5, h6, -, -⟩ := Cond.code_spec hn (atoms_spec (ws := Jvm.Cond.code x code maxLocals ret :: tables_1) h _ List.mem_cons_self)
    exact ⟨meth, c, h1, h2, h3, h4, h5, h6⟩
  · intro p e s m args below meth c s₁ B hml0 hP _
    obtain ⟨rfl, hx, hbd, hgv⟩ := hP
    obtain ⟨scr, harrAt, hlist, hof, hsmall⟩ := hx
    obtain ⟨hcb, hkn, -, -⟩ := State.arrayAt?_spec harrAt
    have hown : s.vm.findClass R_law = some m.cls := findClass_of_methodNamed B.named
    have hts0 : ∀ c ∈ (Jvm.Cond.code x code maxLocals ret :: tables_1), c.before #[Value.ref b] s = true := atoms_spec (ws := Jvm.Cond.code x code maxLocals ret :: tables_1) B.pre
    have hts : ∀ w ∈ lw_tbl, w.before #[Value.ref b] s = true := k2_hts_sels lw_privs (fun w hw => hts0 w (List.mem_cons_of_mem _ hw)) lw_privs_ok
    have hml : c.maxLocals = 8 := B.maxLocals_eq (hts0 _ List.mem_cons_self)
    have X₀ : Stand p l e room_1 s m #[Value.ref b] below meth c s₁ [] 0 0 := Stand.of_body B
    have hh0 : s₁.heap = s.heap := by rw [B.state]; rfl
    have hsz : scr.slots.size = xs.length := by rw [← Array.length_toList, hlist, List.length_map]
    have hval : ∀ j : Nat, j < xs.length → scr.slots[j]? = some (.int (xs.getD j 0)) := fun j hj => by
      rw [← Array.getElem?_toList, hlist]
      simp [hj]
    have hbl : b < s.heap.size := (Array.getElem?_eq_some_iff.mp hcb).1
    have hX : va_X b xs.length (fun j => xs.getD j 0) s s.heap := ⟨scr, hcb, hof, hkn, hsz, hval⟩
    have K : W p l e room_1 s m #[Value.ref b] below meth c s₁.heap [] 0 0 (lw_Z below #[Value.ref b] s) (entryFrame m ([Value.ref b] : List Value).toArray 8) := by
      rw [hh0]
      exact whole_start l hflags hbd ⟨B.exec, B.bytes, B.returns, hml, hown, hts, hX, hbl, B.notSynchronized, hgv⟩
    obtain ⟨t, a1, o, b1, b2, b3⟩ := K s₁ rfl X₀
    exact ⟨t, o, a1, b1, b2, b3⟩
theorem lw_pre_spec {args : Array Value} {s : State} (h : (Jvm.Cond.and given_1 narrow_1).before args s = true) (hr : rest_1_c.before args s = true) : ∃ (b : Addr) (xs : List Int32), lw_P b xs args s := by
  have hs := flat_of_before _ h
  have hq := flat_of_before _ hr
  have hc : (Cond.count 1).before args s = true := hs _ (by decide +kernel)
  have harr : (Cond.arrayOf (.arg 0) .int).before args s = true := hs _ (by decide +kernel)
  have hle : (Cond.le (.length (.arg 0)) (.int 12)).before args s = true := hs _ (by decide +kernel)
  have hlen : (Cond.isInt (.length (.arg 0))).before args s = true := hq _ (by decide +kernel)
  have hall : (Cond.all (.arg 0) (.isInt (.elem (.arg 0) (.index 0)))).before args s = true := hq _ (by decide +kernel)
  obtain ⟨b, xs, hb, hx⟩ := State.ints_of_pre rfl harr hlen hall
  have hsm : xs.length < 2 ^ 31 := hx.choose_spec.2.2.2
  have hev : (Term.length (.arg 0)).eval args s none [] s = some (.int xs.length.toInt32) := hx.length_eval hb
  have hv := Cond.le_ints hev (show (Term.int 12).eval args s none [] s = some (.int 12) from rfl)
  have hd : xs.length.toInt32 ≤ 12 := by
    simpa [Cond.before, Cond.holds, hv] using hle
  have hN : xs.length ≤ 12 := (Int32.ofNat_le_ofNat hsm (by decide)).mp (show Int32.ofNat xs.length ≤ Int32.ofNat 12 from hd)
  exact ⟨b, xs, Cond.one_arg hc (show args[0]? = some (.ref b) from hb), hx, hN, h⟩
theorem lw_comes (l : Launch) (hflags : l.flags = flags0) : Comes l x (Jvm.Cond.code x code maxLocals ret :: tables_1) room_1 (fun tb e args s => Calls_1 tb e args s ∧ rest_1 tb e args s ∧ Pre_1 tb e args s)
    (fun _ _ args s o t => lw_Q args s o t) := by
  intro p e ha hc hk s m args below hf hfit hheap happ hpre
  obtain ⟨b, xs, hP⟩ := lw_pre_spec hpre.2.2 hpre.2.1
  obtain ⟨k, o, h1, h2, h3, hQ⟩ := lw_walk l hflags b xs p e ha hc hk s m args below hf ((Spec.applies_iff_loose hf).mp happ).1 hP trivial
  exact ⟨k, o, h1, h2, h3, hQ⟩
theorem lw_frame {s t : State} {o : Outcome} {args : Array Value} (h : Framed s o t [] 613047 7262963) :
    Framed s o t (fieldLocs frame_1_writes args s ++ arrayLocs frame_1_arrays args s ++ staticLocs frame_1_statics s) 613047 7262963 := h
theorem lw_limb (L : Cond) (hL : ∀ (args : Array Value) (s t : State), L.after args s (.returned (some (.int 1))) t = true) :
    ArmFor flags0 classFile x code maxLocals ret World_1 tables_1 room_1 Calls_1 rest_1 Pre_1
      (fun tb e a s o t => postC L tb e a s o t ∧ Framed s o t (fieldLocs frame_1_writes a s ++ arrayLocs frame_1_arrays a s ++ staticLocs frame_1_statics s) 613047 7262963) := by
  intro l hflags _ _ p e ha hc hk s m args below hf hfit hheap happ hpre
  obtain ⟨k, o, h1, h2, h3, rfl, hF⟩ := lw_comes l hflags p e ha hc hk s m args below hf hfit hheap happ hpre
  exact ⟨k, _, h1, h2, h3, hL args s _, lw_frame hF⟩
theorem i_vc : Claimed_1_1 ∧ Claimed_1_2 := ⟨lw_limb limb_1_1 (fun args s t => by simp [limb_1_1, Cond.after, Cond.holds, Cond.value]), lw_limb limb_1_2 (fun args s t => Cond.after_iff.mpr (by
  first | (rw [show limb_1_2 = Cond.eq .result (.int 1) from rfl, Cond.eq_ints (x := 1) (y := 1) rfl rfl]; simp; done) | (simp [limb_1_2, Cond.value, Term.eval]; done)))⟩
end
