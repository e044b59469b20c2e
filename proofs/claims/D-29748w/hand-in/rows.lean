section
-- ===== PART A: goes FIRST, ahead of the names: the tables' words, and 'selects' of the private methods out of them =====
/-- a private method of a class that the tables say can be made, by its rows of tables_1 -/
def lw_okq (q : MethodName × Nat) : Prop := (q.1.cls ≠ "java/lang/invoke/MethodHandle" ∧ q.1.cls ≠ "java/lang/invoke/VarHandle") ∧ Cond.instantiable q.1.cls q.2 ∈ tables_1 ∧ Cond.privateMethod q.1 ∈ tables_1 ∧ Cond.instanceMethod q.1 ∈ tables_1
set_option maxRecDepth 100000
theorem lw_t1 {w : Cond} (h : w ∈ tables_1_1) : w ∈ tables_1 := List.mem_append_left _ h
theorem lw_t2 {w : Cond} (h : w ∈ tables_1_2) : w ∈ tables_1 := List.mem_append_right _ h
theorem lw_p0 : lw_okq (⟨"HcDesk", "from", "(I)I"⟩, 8) := ⟨⟨by decide +kernel, by decide +kernel⟩, lw_t1 (List.mem_of_getElem? (i := 21) rfl), lw_t1 (List.mem_of_getElem? (i := 19) rfl), lw_t1 (List.mem_of_getElem? (i := 20) rfl)⟩
theorem lw_p1 : lw_okq (⟨"HcDesk", "count", "(II)I"⟩, 8) := ⟨⟨by decide +kernel, by decide +kernel⟩, lw_t1 (List.mem_of_getElem? (i := 21) rfl), lw_t1 (List.mem_of_getElem? (i := 25) rfl), lw_t1 (List.mem_of_getElem? (i := 26) rfl)⟩
theorem lw_p2 : lw_okq (⟨"java/lang/Throwable", "fillInStackTrace", "(I)Ljava/lang/Throwable;"⟩, 6) := ⟨⟨by decide +kernel, by decide +kernel⟩, lw_t1 (List.mem_of_getElem? (i := 74) rfl), lw_t1 (List.mem_of_getElem? (i := 72) rfl), lw_t1 (List.mem_of_getElem? (i := 73) rfl)⟩
theorem lw_p3 : lw_okq (⟨"HC128Engine", "getByte", "()B"⟩, 8) := ⟨⟨by decide +kernel, by decide +kernel⟩, lw_t1 (List.mem_of_getElem? (i := 143) rfl), lw_t1 (List.mem_of_getElem? (i := 141) rfl), lw_t1 (List.mem_of_getElem? (i := 142) rfl)⟩
theorem lw_p4 : lw_okq (⟨"HC128Engine", "step", "()I"⟩, 8) := ⟨⟨by decide +kernel, by decide +kernel⟩, lw_t1 (List.mem_of_getElem? (i := 143) rfl), lw_t1 (List.mem_of_getElem? (i := 146) rfl), lw_t1 (List.mem_of_getElem? (i := 147) rfl)⟩
theorem lw_p5 : lw_okq (⟨"HC128Engine", "g1", "(III)I"⟩, 8) := ⟨⟨by decide +kernel, by decide +kernel⟩, lw_t1 (List.mem_of_getElem? (i := 143) rfl), lw_t1 (List.mem_of_getElem? (i := 156) rfl), lw_t1 (List.mem_of_getElem? (i := 157) rfl)⟩
theorem lw_p6 : lw_okq (⟨"HC128Engine", "h1", "(I)I"⟩, 8) := ⟨⟨by decide +kernel, by decide +kernel⟩, lw_t1 (List.mem_of_getElem? (i := 143) rfl), lw_t1 (List.mem_of_getElem? (i := 163) rfl), lw_t1 (List.mem_of_getElem? (i := 164) rfl)⟩
theorem lw_p7 : lw_okq (⟨"HC128Engine", "g2", "(III)I"⟩, 8) := ⟨⟨by decide +kernel, by decide +kernel⟩, lw_t1 (List.mem_of_getElem? (i := 143) rfl), lw_t1 (List.mem_of_getElem? (i := 167) rfl), lw_t1 (List.mem_of_getElem? (i := 168) rfl)⟩
theorem lw_p8 : lw_okq (⟨"HC128Engine", "h2", "(I)I"⟩, 8) := ⟨⟨by decide +kernel, by decide +kernel⟩, lw_t1 (List.mem_of_getElem? (i := 143) rfl), lw_t1 (List.mem_of_getElem? (i := 174) rfl), lw_t1 (List.mem_of_getElem? (i := 175) rfl)⟩
theorem lw_p9 : lw_okq (⟨"HC128Engine", "init", "()V"⟩, 8) := ⟨⟨by decide +kernel, by decide +kernel⟩, lw_t1 (List.mem_of_getElem? (i := 143) rfl), lw_t1 (List.mem_of_getElem? (i := 197) rfl), lw_t1 (List.mem_of_getElem? (i := 198) rfl)⟩
def lw_privs_1 : List (MethodName × Nat) := [(⟨"HcDesk", "from", "(I)I"⟩, 8), (⟨"HcDesk", "count", "(II)I"⟩, 8), (⟨"java/lang/Throwable", "fillInStackTrace", "(I)Ljava/lang/Throwable;"⟩, 6), (⟨"HC128Engine", "getByte", "()B"⟩, 8), (⟨"HC128Engine", "step", "()I"⟩, 8), (⟨"HC128Engine", "g1", "(III)I"⟩, 8), (⟨"HC128Engine", "h1", "(I)I"⟩, 8), (⟨"HC128Engine", "g2", "(III)I"⟩, 8), (⟨"HC128Engine", "h2", "(I)I"⟩, 8), (⟨"HC128Engine", "init", "()V"⟩, 8)]
theorem lw_r1 : ∀ q ∈ lw_privs_1, lw_okq q := List.forall_mem_cons.mpr ⟨lw_p0, List.forall_mem_cons.mpr ⟨lw_p1, List.forall_mem_cons.mpr ⟨lw_p2, List.forall_mem_cons.mpr ⟨lw_p3, List.forall_mem_cons.mpr ⟨lw_p4, List.forall_mem_cons.mpr ⟨lw_p5, List.forall_mem_cons.mpr ⟨lw_p6, List.forall_mem_cons.mpr ⟨lw_p7, List.forall_mem_cons.mpr ⟨lw_p8, List.forall_mem_cons.mpr ⟨lw_p9, fun _ h => absurd h List.not_mem_nil⟩⟩⟩⟩⟩⟩⟩⟩⟩⟩
def lw_privs : List (MethodName × Nat) := lw_privs_1
def lw_tbl : List Cond := k2_sels lw_privs ++ tables_1
theorem lw_privs_ok : ∀ q ∈ lw_privs, lw_okq q := lw_r1
-- ===== ONE list of words for every method: the tables' words that hold all through a run =====
def lw_all : List Cond := lw_tbl.filter goodWord
/-- a word of the tables by its place: claim/WORDS.tsv -/
theorem lw_w {w : Cond} (i : Nat) (h : lw_tbl[i]? = some w) (g : goodWord w = true) : w ∈ lw_all := List.mem_filter.mpr ⟨List.mem_of_getElem? h, g⟩
theorem lw_all_tbl {w : Cond} (h : w ∈ lw_all) : w ∈ lw_tbl := (List.mem_filter.mp h).1
theorem lw_self : GoodIn lw_all lw_all := fun w h => ⟨h, good_of_word (List.mem_filter.mp h).2⟩
/-- a class's field words, by their places -/
theorem lw_in (ws : List Cond) (ps : List Nat) (hp : ws = ps.filterMap (fun i => lw_tbl[i]?)) (hg : ws.all goodWord = true) : ∀ w ∈ ws, w ∈ lw_all := by
  intro w h
  have h1 := List.all_eq_true.mp hg w h
  rw [hp] at h
  obtain ⟨i, -, hi⟩ := List.mem_filterMap.mp h
  exact lw_w i hi h1
/-- the words of a contract for the method y with code b, L locals, answer r -/
abbrev ws_ (y : MethodName) (b : ByteArray) (L : Nat) (r : Option FieldType) : List Cond := Cond.code y b L r :: lw_all
theorem lw_meth {y : MethodName} {b : ByteArray} {L : Nat} {r : Option FieldType} (h : Cond.code y b L r ∈ lw_all) : GoodIn lw_all (ws_ y b L r) := by
  intro w hw
  rcases List.mem_cons.mp hw with e | e
  · rw [e]
    exact lw_self _ h
  · exact lw_self _ e
theorem lw_app {a c : List Cond} (ha : ∀ w ∈ a, w ∈ lw_all) (hc : GoodIn lw_all c) : GoodIn lw_all (a ++ c) := by
  intro w hw
  rcases List.mem_append.mp hw with e | e
  · exact lw_self w (ha w e)
  · exact hc w e
/-- what a call through an object asks: cwV n hts (lw_V ..) -/
theorem lw_V {own : String} {idx : Nat} {C : String} {y : MethodName} {b : ByteArray} {L : Nat} {r : Option FieldType} (h1 : Cond.methodLink own idx y ∈ lw_all) (h2 : Cond.instanceMethod y ∈ lw_all) (h3 : Cond.selects C y y ∈ lw_all) (h4 : Cond.initialized C ∈ lw_all) (h5 : Cond.code y b L r ∈ lw_all) : GoodIn lw_all (wsV own idx C y (ws_ y b L r)) := by
  refine lw_app ?_ (lw_meth h5)
  intro w hw
  simp only [List.mem_cons, List.not_mem_nil, or_false] at hw
  rcases hw with e | e | e | e
  · rw [e]; exact h1
  · rw [e]; exact h2
  · rw [e]; exact h3
  · rw [e]; exact h4
/-- what a static call asks: va_cwS n hts (lw_S ..) -/
theorem lw_S {own : String} {idx : Nat} {y : MethodName} {b : ByteArray} {L : Nat} {r : Option FieldType} (h1 : Cond.methodLink own idx y ∈ lw_all) (h2 : Cond.static y ∈ lw_all) (h3 : Cond.initialized y.cls ∈ lw_all) (h4 : Cond.code y b L r ∈ lw_all) : GoodIn lw_all (va_wsS own idx y (ws_ y b L r)) := by
  refine lw_app ?_ (lw_meth h4)
  intro w hw
  simp only [List.mem_cons, List.not_mem_nil, or_false] at hw
  rcases hw with e | e | e
  · rw [e]; exact h1
  · rw [e]; exact h2
  · rw [e]; exact h3
/-- the words of a contract for a method WITH HANDLERS (hh: its table) -/
abbrev wsW_ (y : MethodName) (b : ByteArray) (L : Nat) (r : Option FieldType) (hh : List (Nat × Nat × Nat × Nat)) : List Cond := Cond.codeWith y b L r hh :: lw_all
theorem lw_methW {y : MethodName} {b : ByteArray} {L : Nat} {r : Option FieldType} {hh : List (Nat × Nat × Nat × Nat)} (h : Cond.codeWith y b L r hh ∈ lw_all) : GoodIn lw_all (wsW_ y b L r hh) := by
  intro w hw
  rcases List.mem_cons.mp hw with e | e
  · rw [e]
    exact lw_self _ h
  · exact lw_self _ e
/-- any list of words by their places (lw_in), good -/
theorem lw_good {ws : List Cond} (h : ∀ w ∈ ws, w ∈ lw_all) : GoodIn lw_all ws := fun w hw => lw_self w (h w hw)
/-- what a call of a method with handlers asks: vx_cwVW n hts (lw_VW ..), vx_cwSW n hts (lw_SW ..) -/
theorem lw_VW {own : String} {idx : Nat} {C : String} {y : MethodName} {b : ByteArray} {L : Nat} {r : Option FieldType} {hh : List (Nat × Nat × Nat × Nat)} (h1 : Cond.methodLink own idx y ∈ lw_all) (h2 : Cond.instanceMethod y ∈ lw_all) (h3 : Cond.selects C y y ∈ lw_all) (h4 : Cond.initialized C ∈ lw_all) (h5 : Cond.codeWith y b L r hh ∈ lw_all) : GoodIn lw_all (wsV own idx C y (wsW_ y b L r hh)) := by
  refine lw_app ?_ (lw_methW h5)
  intro w hw
  simp only [List.mem_cons, List.not_mem_nil, or_false] at hw
  rcases hw with e | e | e | e
  · rw [e]; exact h1
  · rw [e]; exact h2
  · rw [e]; exact h3
  · rw [e]; exact h4
theorem lw_SW {own : String} {idx : Nat} {y : MethodName} {b : ByteArray} {L : Nat} {r : Option FieldType} {hh : List (Nat × Nat × Nat × Nat)} (h1 : Cond.methodLink own idx y ∈ lw_all) (h2 : Cond.static y ∈ lw_all) (h3 : Cond.initialized y.cls ∈ lw_all) (h4 : Cond.codeWith y b L r hh ∈ lw_all) : GoodIn lw_all (va_wsS own idx y (wsW_ y b L r hh)) := by
  refine lw_app ?_ (lw_methW h4)
  intro w hw
  simp only [List.mem_cons, List.not_mem_nil, or_false] at hw
  rcases hw with e | e | e
  · rw [e]; exact h1
  · rw [e]; exact h2
  · rw [e]; exact h3
/-- a word by its place in its run of the tables -/
theorem lw_at {r : List Cond} (hr : ∀ w ∈ r, w ∈ lw_tbl) {w : Cond} (i : Nat) (h : r[i]? = some w) : w ∈ lw_tbl := hr w (List.mem_of_getElem? h)
theorem lw_g {w : Cond} (h : w ∈ lw_tbl) (g : goodWord w = true) : w ∈ lw_all := List.mem_filter.mpr ⟨h, g⟩
theorem lw_ms : ∀ w ∈ k2_sels lw_privs, w ∈ lw_tbl := fun w h => show w ∈ k2_sels lw_privs ++ tables_1 from List.mem_append_left _ h
theorem lw_m1 : ∀ w ∈ tables_1_1, w ∈ lw_tbl := fun w h => show w ∈ k2_sels lw_privs ++ tables_1 from List.mem_append_right (k2_sels lw_privs) (show w ∈ tables_1 from List.mem_append_left _ h)
theorem lw_m2 : ∀ w ∈ tables_1_2, w ∈ lw_tbl := fun w h => show w ∈ k2_sels lw_privs ++ tables_1 from List.mem_append_right (k2_sels lw_privs) (show w ∈ tables_1 from List.mem_append_right _ h)
theorem qs0 : (Cond.selects "HcDesk" ⟨"HcDesk", "from", "(I)I"⟩ ⟨"HcDesk", "from", "(I)I"⟩) ∈ lw_all := lw_g (lw_at lw_ms 0 rfl) rfl
theorem qs1 : (Cond.selects "HcDesk" ⟨"HcDesk", "count", "(II)I"⟩ ⟨"HcDesk", "count", "(II)I"⟩) ∈ lw_all := lw_g (lw_at lw_ms 1 rfl) rfl
theorem qs2 : (Cond.selects "java/lang/Throwable" ⟨"java/lang/Throwable", "fillInStackTrace", "(I)Ljava/lang/Throwable;"⟩ ⟨"java/lang/Throwable", "fillInStackTrace", "(I)Ljava/lang/Throwable;"⟩) ∈ lw_all := lw_g (lw_at lw_ms 2 rfl) rfl
theorem qs3 : (Cond.selects "HC128Engine" ⟨"HC128Engine", "getByte", "()B"⟩ ⟨"HC128Engine", "getByte", "()B"⟩) ∈ lw_all := lw_g (lw_at lw_ms 3 rfl) rfl
theorem qs4 : (Cond.selects "HC128Engine" ⟨"HC128Engine", "step", "()I"⟩ ⟨"HC128Engine", "step", "()I"⟩) ∈ lw_all := lw_g (lw_at lw_ms 4 rfl) rfl
theorem qs5 : (Cond.selects "HC128Engine" ⟨"HC128Engine", "g1", "(III)I"⟩ ⟨"HC128Engine", "g1", "(III)I"⟩) ∈ lw_all := lw_g (lw_at lw_ms 5 rfl) rfl
theorem qs6 : (Cond.selects "HC128Engine" ⟨"HC128Engine", "h1", "(I)I"⟩ ⟨"HC128Engine", "h1", "(I)I"⟩) ∈ lw_all := lw_g (lw_at lw_ms 6 rfl) rfl
theorem qs7 : (Cond.selects "HC128Engine" ⟨"HC128Engine", "g2", "(III)I"⟩ ⟨"HC128Engine", "g2", "(III)I"⟩) ∈ lw_all := lw_g (lw_at lw_ms 7 rfl) rfl
theorem qs8 : (Cond.selects "HC128Engine" ⟨"HC128Engine", "h2", "(I)I"⟩ ⟨"HC128Engine", "h2", "(I)I"⟩) ∈ lw_all := lw_g (lw_at lw_ms 8 rfl) rfl
theorem qs9 : (Cond.selects "HC128Engine" ⟨"HC128Engine", "init", "()V"⟩ ⟨"HC128Engine", "init", "()V"⟩) ∈ lw_all := lw_g (lw_at lw_ms 9 rfl) rfl
end
section
/-! DECODE ROWS BY BYTES: one lemma an opcode; a method's code is cut into short pieces once, and a row reads its own piece alone. -/
set_option maxRecDepth 100000
/-- the code has just these bytes from pc on -/
def DkAt (code : ByteArray) (pc : Nat) (bs : List UInt8) : Prop := ∀ (j : Nat) (b : UInt8), bs[j]? = some b → code.data.toList[pc + j]? = some b
/-- the piece W has the bytes bs from its place j on -/
def dkIn (W : List UInt8) (j : Nat) (bs : List UInt8) : Bool := decide ((W.drop j).take bs.length = bs)
theorem dk_seg {l W T : List UInt8} {o o2 : Nat} (h : l.drop o = W ++ T) (n : Nat) (hn : W.length = n) (ho : o + n = o2) : l.drop o2 = T := by
  subst ho
  rw [← List.drop_drop, h, List.drop_left' hn]
theorem dk_at {code : ByteArray} {W T bs : List UInt8} {o pc : Nat} (h : code.data.toList.drop o = W ++ T) (j : Nat) (hp : o + j = pc) (hw : dkIn W j bs = true) : DkAt code pc bs := by
  subst hp
  intro i b e
  have h1 := of_decide_eq_true hw
  have h2 : i < bs.length := (List.getElem?_eq_some_iff.mp e).1
  have h3 : W[j + i]? = some b := by
    rw [← h1, List.getElem?_take, if_pos h2, List.getElem?_drop] at e
    exact e
  have h4 : j + i < W.length := (List.getElem?_eq_some_iff.mp h3).1
  have h5 : (code.data.toList.drop o)[j + i]? = some b := by
    rw [h, List.getElem?_append_left h4]
    exact h3
  rw [List.getElem?_drop, ← Nat.add_assoc] at h5
  exact h5
theorem dk_u1 {A : ByteArray} {p : Nat} {b : UInt8} (h : A.data.toList[p]? = some b) : (Reader.u1 : Reader DecodeError Nat) A p = .ok (b.toNat, p + 1) := by
  obtain ⟨h1, h2⟩ := List.getElem?_eq_some_iff.mp h
  have h3 : p < A.size := by simpa using h1
  have h4 : A[p]'h3 = b := h2
  have e : (Reader.u1 : Reader DecodeError Nat) A p = (if h : p < A.size then .ok (A[p].toNat, p + 1) else .error (HasTruncated.truncated p)) := by
    show (do if h : p < A.size then do set (p + 1); Pure.pure A[p].toNat else MonadExcept.throw (HasTruncated.truncated p) : Reader DecodeError Nat) A p = _
    by_cases hi : p < A.size
    · rw [dif_pos hi, dif_pos hi]; rfl
    · rw [dif_neg hi, dif_neg hi]; rfl
  rw [e, dif_pos h3, h4]
theorem dk_bind {α β : Type} {r : Reader DecodeError α} {f : α → Reader DecodeError β} {A : ByteArray} {p s : Nat} {a : α} (h : r A p = .ok (a, s)) : (r >>= f) A p = f a A s := by
  show (do let (a, s) ← r A p; f a A s : Except DecodeError (β × Nat)) = _
  rw [h]
  rfl
theorem dk_map {α β : Type} {r : Reader DecodeError α} {g : α → β} {A : ByteArray} {p s : Nat} {a : α} (h : r A p = .ok (a, s)) : (g <$> r) A p = .ok (g a, s) := by
  show (do let (a, s) ← r A p; .ok (g a, s) : Except DecodeError (β × Nat)) = _
  rw [h]
  rfl
theorem dk_u2 {A : ByteArray} {p : Nat} {a b : UInt8} (h : A.data.toList[p]? = some a) (h2 : A.data.toList[p + 1]? = some b) : (Reader.u2 : Reader DecodeError Nat) A p = .ok (a.toNat * 256 + b.toNat, p + 2) := by
  show (Reader.u1 >>= fun hi => Reader.u1 >>= fun lo => Pure.pure (hi * 256 + lo) : Reader DecodeError Nat) A p = _
  rw [dk_bind (dk_u1 h), dk_bind (dk_u1 h2)]
  rfl
theorem dk_of {code : ByteArray} {pc n : Nat} {i : Instr} (h : Decoder.instr pc code pc = .ok (i, pc + n)) : decode code pc = .ok (i, n) := by
  have e : decode code pc = (match Decoder.instr pc code pc with | .error x => .error x | .ok (j, s) => .ok (j, s - pc)) := by
    show (do let (j, s) ← Decoder.instr pc code pc; Pure.pure (j, s - pc) : Except DecodeError (Instr × Nat)) = _
    cases Decoder.instr pc code pc <;> rfl
  rw [e, h]
  show Except.ok (i, pc + n - pc) = _
  rw [Nat.add_sub_cancel_left]
theorem dk_2 {code : ByteArray} {pc : Nat} (h : DkAt code pc [2]) : decode code pc = .ok (.iconst (-1), 1) := dk_of ((dk_bind (dk_u1 (h 0 _ rfl))).trans rfl)
theorem dk_3 {code : ByteArray} {pc : Nat} (h : DkAt code pc [3]) : decode code pc = .ok (.iconst 0, 1) := dk_of ((dk_bind (dk_u1 (h 0 _ rfl))).trans rfl)
theorem dk_4 {code : ByteArray} {pc : Nat} (h : DkAt code pc [4]) : decode code pc = .ok (.iconst 1, 1) := dk_of ((dk_bind (dk_u1 (h 0 _ rfl))).trans rfl)
theorem dk_5 {code : ByteArray} {pc : Nat} (h : DkAt code pc [5]) : decode code pc = .ok (.iconst 2, 1) := dk_of ((dk_bind (dk_u1 (h 0 _ rfl))).trans rfl)
theorem dk_6 {code : ByteArray} {pc : Nat} (h : DkAt code pc [6]) : decode code pc = .ok (.iconst 3, 1) := dk_of ((dk_bind (dk_u1 (h 0 _ rfl))).trans rfl)
theorem dk_7 {code : ByteArray} {pc : Nat} (h : DkAt code pc [7]) : decode code pc = .ok (.iconst 4, 1) := dk_of ((dk_bind (dk_u1 (h 0 _ rfl))).trans rfl)
theorem dk_8 {code : ByteArray} {pc : Nat} (h : DkAt code pc [8]) : decode code pc = .ok (.iconst 5, 1) := dk_of ((dk_bind (dk_u1 (h 0 _ rfl))).trans rfl)
theorem dk_16 {code : ByteArray} {pc : Nat} (a : UInt8) (h : DkAt code pc [16, a]) : decode code pc = .ok (.bipush (Reader.signed 8 a.toNat), 2) := dk_of ((dk_bind (dk_u1 (h 0 _ rfl))).trans ((dk_bind (dk_map (dk_u1 (h 1 _ rfl)))).trans rfl))
theorem dk_17 {code : ByteArray} {pc : Nat} (a b : UInt8) (h : DkAt code pc [17, a, b]) : decode code pc = .ok (.sipush (Reader.signed 16 (a.toNat * 256 + b.toNat)), 3) := dk_of ((dk_bind (dk_u1 (h 0 _ rfl))).trans ((dk_bind (dk_map (dk_u2 (h 1 _ rfl) (h 2 _ rfl)))).trans rfl))
theorem dk_18 {code : ByteArray} {pc : Nat} (a : UInt8) (h : DkAt code pc [18, a]) : decode code pc = .ok (.ldc a.toNat, 2) := dk_of ((dk_bind (dk_u1 (h 0 _ rfl))).trans ((dk_bind (dk_u1 (h 1 _ rfl))).trans rfl))
theorem dk_21 {code : ByteArray} {pc : Nat} (a : UInt8) (h : DkAt code pc [21, a]) : decode code pc = .ok (.iload a.toNat, 2) := dk_of ((dk_bind (dk_u1 (h 0 _ rfl))).trans ((dk_bind (dk_u1 (h 1 _ rfl))).trans rfl))
theorem dk_25 {code : ByteArray} {pc : Nat} (a : UInt8) (h : DkAt code pc [25, a]) : decode code pc = .ok (.aload a.toNat, 2) := dk_of ((dk_bind (dk_u1 (h 0 _ rfl))).trans ((dk_bind (dk_u1 (h 1 _ rfl))).trans rfl))
theorem dk_26 {code : ByteArray} {pc : Nat} (h : DkAt code pc [26]) : decode code pc = .ok (.iload_n 0, 1) := dk_of ((dk_bind (dk_u1 (h 0 _ rfl))).trans rfl)
theorem dk_27 {code : ByteArray} {pc : Nat} (h : DkAt code pc [27]) : decode code pc = .ok (.iload_n 1, 1) := dk_of ((dk_bind (dk_u1 (h 0 _ rfl))).trans rfl)
theorem dk_28 {code : ByteArray} {pc : Nat} (h : DkAt code pc [28]) : decode code pc = .ok (.iload_n 2, 1) := dk_of ((dk_bind (dk_u1 (h 0 _ rfl))).trans rfl)
theorem dk_29 {code : ByteArray} {pc : Nat} (h : DkAt code pc [29]) : decode code pc = .ok (.iload_n 3, 1) := dk_of ((dk_bind (dk_u1 (h 0 _ rfl))).trans rfl)
theorem dk_42 {code : ByteArray} {pc : Nat} (h : DkAt code pc [42]) : decode code pc = .ok (.aload_n 0, 1) := dk_of ((dk_bind (dk_u1 (h 0 _ rfl))).trans rfl)
theorem dk_43 {code : ByteArray} {pc : Nat} (h : DkAt code pc [43]) : decode code pc = .ok (.aload_n 1, 1) := dk_of ((dk_bind (dk_u1 (h 0 _ rfl))).trans rfl)
theorem dk_44 {code : ByteArray} {pc : Nat} (h : DkAt code pc [44]) : decode code pc = .ok (.aload_n 2, 1) := dk_of ((dk_bind (dk_u1 (h 0 _ rfl))).trans rfl)
theorem dk_45 {code : ByteArray} {pc : Nat} (h : DkAt code pc [45]) : decode code pc = .ok (.aload_n 3, 1) := dk_of ((dk_bind (dk_u1 (h 0 _ rfl))).trans rfl)
theorem dk_46 {code : ByteArray} {pc : Nat} (h : DkAt code pc [46]) : decode code pc = .ok (.iaload, 1) := dk_of ((dk_bind (dk_u1 (h 0 _ rfl))).trans rfl)
theorem dk_51 {code : ByteArray} {pc : Nat} (h : DkAt code pc [51]) : decode code pc = .ok (.baload, 1) := dk_of ((dk_bind (dk_u1 (h 0 _ rfl))).trans rfl)
theorem dk_54 {code : ByteArray} {pc : Nat} (a : UInt8) (h : DkAt code pc [54, a]) : decode code pc = .ok (.istore a.toNat, 2) := dk_of ((dk_bind (dk_u1 (h 0 _ rfl))).trans ((dk_bind (dk_u1 (h 1 _ rfl))).trans rfl))
theorem dk_58 {code : ByteArray} {pc : Nat} (a : UInt8) (h : DkAt code pc [58, a]) : decode code pc = .ok (.astore a.toNat, 2) := dk_of ((dk_bind (dk_u1 (h 0 _ rfl))).trans ((dk_bind (dk_u1 (h 1 _ rfl))).trans rfl))
theorem dk_60 {code : ByteArray} {pc : Nat} (h : DkAt code pc [60]) : decode code pc = .ok (.istore_n 1, 1) := dk_of ((dk_bind (dk_u1 (h 0 _ rfl))).trans rfl)
theorem dk_61 {code : ByteArray} {pc : Nat} (h : DkAt code pc [61]) : decode code pc = .ok (.istore_n 2, 1) := dk_of ((dk_bind (dk_u1 (h 0 _ rfl))).trans rfl)
theorem dk_62 {code : ByteArray} {pc : Nat} (h : DkAt code pc [62]) : decode code pc = .ok (.istore_n 3, 1) := dk_of ((dk_bind (dk_u1 (h 0 _ rfl))).trans rfl)
theorem dk_75 {code : ByteArray} {pc : Nat} (h : DkAt code pc [75]) : decode code pc = .ok (.astore_n 0, 1) := dk_of ((dk_bind (dk_u1 (h 0 _ rfl))).trans rfl)
theorem dk_76 {code : ByteArray} {pc : Nat} (h : DkAt code pc [76]) : decode code pc = .ok (.astore_n 1, 1) := dk_of ((dk_bind (dk_u1 (h 0 _ rfl))).trans rfl)
theorem dk_77 {code : ByteArray} {pc : Nat} (h : DkAt code pc [77]) : decode code pc = .ok (.astore_n 2, 1) := dk_of ((dk_bind (dk_u1 (h 0 _ rfl))).trans rfl)
theorem dk_78 {code : ByteArray} {pc : Nat} (h : DkAt code pc [78]) : decode code pc = .ok (.astore_n 3, 1) := dk_of ((dk_bind (dk_u1 (h 0 _ rfl))).trans rfl)
theorem dk_79 {code : ByteArray} {pc : Nat} (h : DkAt code pc [79]) : decode code pc = .ok (.iastore, 1) := dk_of ((dk_bind (dk_u1 (h 0 _ rfl))).trans rfl)
theorem dk_84 {code : ByteArray} {pc : Nat} (h : DkAt code pc [84]) : decode code pc = .ok (.bastore, 1) := dk_of ((dk_bind (dk_u1 (h 0 _ rfl))).trans rfl)
theorem dk_87 {code : ByteArray} {pc : Nat} (h : DkAt code pc [87]) : decode code pc = .ok (.pop, 1) := dk_of ((dk_bind (dk_u1 (h 0 _ rfl))).trans rfl)
theorem dk_89 {code : ByteArray} {pc : Nat} (h : DkAt code pc [89]) : decode code pc = .ok (.dup, 1) := dk_of ((dk_bind (dk_u1 (h 0 _ rfl))).trans rfl)
theorem dk_92 {code : ByteArray} {pc : Nat} (h : DkAt code pc [92]) : decode code pc = .ok (.dup2, 1) := dk_of ((dk_bind (dk_u1 (h 0 _ rfl))).trans rfl)
theorem dk_96 {code : ByteArray} {pc : Nat} (h : DkAt code pc [96]) : decode code pc = .ok (.iadd, 1) := dk_of ((dk_bind (dk_u1 (h 0 _ rfl))).trans rfl)
theorem dk_100 {code : ByteArray} {pc : Nat} (h : DkAt code pc [100]) : decode code pc = .ok (.isub, 1) := dk_of ((dk_bind (dk_u1 (h 0 _ rfl))).trans rfl)
theorem dk_104 {code : ByteArray} {pc : Nat} (h : DkAt code pc [104]) : decode code pc = .ok (.imul, 1) := dk_of ((dk_bind (dk_u1 (h 0 _ rfl))).trans rfl)
theorem dk_108 {code : ByteArray} {pc : Nat} (h : DkAt code pc [108]) : decode code pc = .ok (.idiv, 1) := dk_of ((dk_bind (dk_u1 (h 0 _ rfl))).trans rfl)
theorem dk_112 {code : ByteArray} {pc : Nat} (h : DkAt code pc [112]) : decode code pc = .ok (.irem, 1) := dk_of ((dk_bind (dk_u1 (h 0 _ rfl))).trans rfl)
theorem dk_116 {code : ByteArray} {pc : Nat} (h : DkAt code pc [116]) : decode code pc = .ok (.ineg, 1) := dk_of ((dk_bind (dk_u1 (h 0 _ rfl))).trans rfl)
theorem dk_120 {code : ByteArray} {pc : Nat} (h : DkAt code pc [120]) : decode code pc = .ok (.ishl, 1) := dk_of ((dk_bind (dk_u1 (h 0 _ rfl))).trans rfl)
theorem dk_122 {code : ByteArray} {pc : Nat} (h : DkAt code pc [122]) : decode code pc = .ok (.ishr, 1) := dk_of ((dk_bind (dk_u1 (h 0 _ rfl))).trans rfl)
theorem dk_124 {code : ByteArray} {pc : Nat} (h : DkAt code pc [124]) : decode code pc = .ok (.iushr, 1) := dk_of ((dk_bind (dk_u1 (h 0 _ rfl))).trans rfl)
theorem dk_126 {code : ByteArray} {pc : Nat} (h : DkAt code pc [126]) : decode code pc = .ok (.iand, 1) := dk_of ((dk_bind (dk_u1 (h 0 _ rfl))).trans rfl)
theorem dk_128 {code : ByteArray} {pc : Nat} (h : DkAt code pc [128]) : decode code pc = .ok (.ior, 1) := dk_of ((dk_bind (dk_u1 (h 0 _ rfl))).trans rfl)
theorem dk_130 {code : ByteArray} {pc : Nat} (h : DkAt code pc [130]) : decode code pc = .ok (.ixor, 1) := dk_of ((dk_bind (dk_u1 (h 0 _ rfl))).trans rfl)
theorem dk_132 {code : ByteArray} {pc : Nat} (a b : UInt8) (h : DkAt code pc [132, a, b]) : decode code pc = .ok (.iinc a.toNat (Reader.signed 8 b.toNat), 3) := dk_of ((dk_bind (dk_u1 (h 0 _ rfl))).trans ((dk_bind (dk_u1 (h 1 _ rfl))).trans ((dk_bind (dk_map (dk_u1 (h 2 _ rfl)))).trans rfl)))
theorem dk_145 {code : ByteArray} {pc : Nat} (h : DkAt code pc [145]) : decode code pc = .ok (.i2b, 1) := dk_of ((dk_bind (dk_u1 (h 0 _ rfl))).trans rfl)
theorem dk_153 {code : ByteArray} {pc : Nat} (a b : UInt8) (h : DkAt code pc [153, a, b]) : decode code pc = .ok (.ifCond .eq (Reader.signed 16 (a.toNat * 256 + b.toNat)), 3) := dk_of ((dk_bind (dk_u1 (h 0 _ rfl))).trans ((dk_bind (dk_map (dk_u2 (h 1 _ rfl) (h 2 _ rfl)))).trans rfl))
theorem dk_154 {code : ByteArray} {pc : Nat} (a b : UInt8) (h : DkAt code pc [154, a, b]) : decode code pc = .ok (.ifCond .ne (Reader.signed 16 (a.toNat * 256 + b.toNat)), 3) := dk_of ((dk_bind (dk_u1 (h 0 _ rfl))).trans ((dk_bind (dk_map (dk_u2 (h 1 _ rfl) (h 2 _ rfl)))).trans rfl))
theorem dk_159 {code : ByteArray} {pc : Nat} (a b : UInt8) (h : DkAt code pc [159, a, b]) : decode code pc = .ok (.if_icmp .eq (Reader.signed 16 (a.toNat * 256 + b.toNat)), 3) := dk_of ((dk_bind (dk_u1 (h 0 _ rfl))).trans ((dk_bind (dk_map (dk_u2 (h 1 _ rfl) (h 2 _ rfl)))).trans rfl))
theorem dk_160 {code : ByteArray} {pc : Nat} (a b : UInt8) (h : DkAt code pc [160, a, b]) : decode code pc = .ok (.if_icmp .ne (Reader.signed 16 (a.toNat * 256 + b.toNat)), 3) := dk_of ((dk_bind (dk_u1 (h 0 _ rfl))).trans ((dk_bind (dk_map (dk_u2 (h 1 _ rfl) (h 2 _ rfl)))).trans rfl))
theorem dk_161 {code : ByteArray} {pc : Nat} (a b : UInt8) (h : DkAt code pc [161, a, b]) : decode code pc = .ok (.if_icmp .lt (Reader.signed 16 (a.toNat * 256 + b.toNat)), 3) := dk_of ((dk_bind (dk_u1 (h 0 _ rfl))).trans ((dk_bind (dk_map (dk_u2 (h 1 _ rfl) (h 2 _ rfl)))).trans rfl))
theorem dk_162 {code : ByteArray} {pc : Nat} (a b : UInt8) (h : DkAt code pc [162, a, b]) : decode code pc = .ok (.if_icmp .ge (Reader.signed 16 (a.toNat * 256 + b.toNat)), 3) := dk_of ((dk_bind (dk_u1 (h 0 _ rfl))).trans ((dk_bind (dk_map (dk_u2 (h 1 _ rfl) (h 2 _ rfl)))).trans rfl))
theorem dk_164 {code : ByteArray} {pc : Nat} (a b : UInt8) (h : DkAt code pc [164, a, b]) : decode code pc = .ok (.if_icmp .le (Reader.signed 16 (a.toNat * 256 + b.toNat)), 3) := dk_of ((dk_bind (dk_u1 (h 0 _ rfl))).trans ((dk_bind (dk_map (dk_u2 (h 1 _ rfl) (h 2 _ rfl)))).trans rfl))
theorem dk_167 {code : ByteArray} {pc : Nat} (a b : UInt8) (h : DkAt code pc [167, a, b]) : decode code pc = .ok (.goto (Reader.signed 16 (a.toNat * 256 + b.toNat)), 3) := dk_of ((dk_bind (dk_u1 (h 0 _ rfl))).trans ((dk_bind (dk_map (dk_u2 (h 1 _ rfl) (h 2 _ rfl)))).trans rfl))
theorem dk_172 {code : ByteArray} {pc : Nat} (h : DkAt code pc [172]) : decode code pc = .ok (.ireturn, 1) := dk_of ((dk_bind (dk_u1 (h 0 _ rfl))).trans rfl)
theorem dk_176 {code : ByteArray} {pc : Nat} (h : DkAt code pc [176]) : decode code pc = .ok (.areturn, 1) := dk_of ((dk_bind (dk_u1 (h 0 _ rfl))).trans rfl)
theorem dk_177 {code : ByteArray} {pc : Nat} (h : DkAt code pc [177]) : decode code pc = .ok (.return_, 1) := dk_of ((dk_bind (dk_u1 (h 0 _ rfl))).trans rfl)
theorem dk_178 {code : ByteArray} {pc : Nat} (a b : UInt8) (h : DkAt code pc [178, a, b]) : decode code pc = .ok (.getstatic (a.toNat * 256 + b.toNat), 3) := dk_of ((dk_bind (dk_u1 (h 0 _ rfl))).trans ((dk_bind (dk_u2 (h 1 _ rfl) (h 2 _ rfl))).trans rfl))
theorem dk_180 {code : ByteArray} {pc : Nat} (a b : UInt8) (h : DkAt code pc [180, a, b]) : decode code pc = .ok (.getfield (a.toNat * 256 + b.toNat), 3) := dk_of ((dk_bind (dk_u1 (h 0 _ rfl))).trans ((dk_bind (dk_u2 (h 1 _ rfl) (h 2 _ rfl))).trans rfl))
theorem dk_181 {code : ByteArray} {pc : Nat} (a b : UInt8) (h : DkAt code pc [181, a, b]) : decode code pc = .ok (.putfield (a.toNat * 256 + b.toNat), 3) := dk_of ((dk_bind (dk_u1 (h 0 _ rfl))).trans ((dk_bind (dk_u2 (h 1 _ rfl) (h 2 _ rfl))).trans rfl))
theorem dk_182 {code : ByteArray} {pc : Nat} (a b : UInt8) (h : DkAt code pc [182, a, b]) : decode code pc = .ok (.invokevirtual (a.toNat * 256 + b.toNat), 3) := dk_of ((dk_bind (dk_u1 (h 0 _ rfl))).trans ((dk_bind (dk_u2 (h 1 _ rfl) (h 2 _ rfl))).trans rfl))
theorem dk_183 {code : ByteArray} {pc : Nat} (a b : UInt8) (h : DkAt code pc [183, a, b]) : decode code pc = .ok (.invokespecial (a.toNat * 256 + b.toNat), 3) := dk_of ((dk_bind (dk_u1 (h 0 _ rfl))).trans ((dk_bind (dk_u2 (h 1 _ rfl) (h 2 _ rfl))).trans rfl))
theorem dk_184 {code : ByteArray} {pc : Nat} (a b : UInt8) (h : DkAt code pc [184, a, b]) : decode code pc = .ok (.invokestatic (a.toNat * 256 + b.toNat), 3) := dk_of ((dk_bind (dk_u1 (h 0 _ rfl))).trans ((dk_bind (dk_u2 (h 1 _ rfl) (h 2 _ rfl))).trans rfl))
theorem dk_187 {code : ByteArray} {pc : Nat} (a b : UInt8) (h : DkAt code pc [187, a, b]) : decode code pc = .ok (.new (a.toNat * 256 + b.toNat), 3) := dk_of ((dk_bind (dk_u1 (h 0 _ rfl))).trans ((dk_bind (dk_u2 (h 1 _ rfl) (h 2 _ rfl))).trans rfl))
theorem dk_188_8 {code : ByteArray} {pc : Nat} (h : DkAt code pc [188, 8]) : decode code pc = .ok (.newarray .byte, 2) := dk_of ((dk_bind (dk_u1 (h 0 _ rfl))).trans ((dk_bind (dk_u1 (h 1 _ rfl))).trans rfl))
theorem dk_188_10 {code : ByteArray} {pc : Nat} (h : DkAt code pc [188, 10]) : decode code pc = .ok (.newarray .int, 2) := dk_of ((dk_bind (dk_u1 (h 0 _ rfl))).trans ((dk_bind (dk_u1 (h 1 _ rfl))).trans rfl))
theorem dk_190 {code : ByteArray} {pc : Nat} (h : DkAt code pc [190]) : decode code pc = .ok (.arraylength, 1) := dk_of ((dk_bind (dk_u1 (h 0 _ rfl))).trans rfl)
theorem dk_191 {code : ByteArray} {pc : Nat} (h : DkAt code pc [191]) : decode code pc = .ok (.athrow, 1) := dk_of ((dk_bind (dk_u1 (h 0 _ rfl))).trans rfl)
theorem dk_192 {code : ByteArray} {pc : Nat} (a b : UInt8) (h : DkAt code pc [192, a, b]) : decode code pc = .ok (.checkcast (a.toNat * 256 + b.toNat), 3) := dk_of ((dk_bind (dk_u1 (h 0 _ rfl))).trans ((dk_bind (dk_u2 (h 1 _ rfl) (h 2 _ rfl))).trans rfl))
theorem dk_193 {code : ByteArray} {pc : Nat} (a b : UInt8) (h : DkAt code pc [193, a, b]) : decode code pc = .ok (.instanceof (a.toNat * 256 + b.toNat), 3) := dk_of ((dk_bind (dk_u1 (h 0 _ rfl))).trans ((dk_bind (dk_u2 (h 1 _ rfl) (h 2 _ rfl))).trans rfl))
/-! java/lang/Object -/
set_option maxRecDepth 100000
def RJ5 : String := "java/lang/Object"
abbrev cJ5_init : ByteArray := object_method_1_code
def yJ5_init : MethodName := ⟨RJ5, "<init>", "()V"⟩
theorem dJ5_init_0 : decode cJ5_init 0 = .ok (.return_, 1) := by decide +kernel
theorem q68 : (Jvm.Cond.instanceMethod ({ cls := "java/lang/Object", name := "<init>", desc := "()V" } : Jvm.MethodName)) ∈ lw_all := lw_g (lw_at lw_m1 58 rfl) rfl
theorem q69 : (Jvm.Cond.code ({ cls := "java/lang/Object", name := "<init>", desc := "()V" } : Jvm.MethodName) object_method_1_code (1 : Nat) (Option.none : Option Jvm.ClassFile.FieldType)) ∈ lw_all := lw_g (lw_at lw_m1 59 rfl) rfl
theorem q15 : (Jvm.Cond.initialized "java/lang/System") ∈ lw_all := lw_g (lw_at lw_m1 5 rfl) rfl
set_option maxRecDepth 100000
theorem q228 : (Jvm.Cond.static ({ cls := "java/lang/System", name := "arraycopy", desc := "(Ljava/lang/Object;ILjava/lang/Object;II)V" } : Jvm.MethodName)) ∈ lw_all := lw_g (lw_at lw_m1 218 rfl) rfl
theorem q229 : (Jvm.Cond.native ({ cls := "java/lang/System", name := "arraycopy", desc := "(Ljava/lang/Object;ILjava/lang/Object;II)V" } : Jvm.MethodName)) ∈ lw_all := lw_g (lw_at lw_m1 219 rfl) rfl
theorem q112 : (Jvm.Cond.arrayClass Jvm.ClassFile.FieldType.byte) ∈ lw_all := lw_g (lw_at lw_m1 102 rfl) rfl
set_option maxRecDepth 100000
theorem q236 : (Jvm.Cond.arrayClass Jvm.ClassFile.FieldType.int) ∈ lw_all := lw_g (lw_at lw_m1 226 rfl) rfl
/-! KeyParameter -/
set_option maxRecDepth 100000
def RX4 : String := "KeyParameter"
def TX4 : u_T := fun k => match k with
  | _ => ("KeyParameter", "key", "[B", false)
def tyX4 : Nat → FieldType := fun k => match k with
  | _ => .array .byte
abbrev wsX40 : List Cond := u_ws RX4 TX4 1
theorem nmX4 : ∀ a, a < 1 → ∀ b, b < 1 → a ≠ b → (TX4 a).2.1 ≠ (TX4 b).2.1 := by decide +kernel
theorem tyX4_ok : ∀ k, k < 1 → parseFieldDescriptor (TX4 k).2.2.1 = some (tyX4 k) := by decide +kernel
abbrev cX4_init : ByteArray := prog_6_method_1_code
def yX4_init : MethodName := ⟨RX4, "<init>", "([B)V"⟩
def dkwX4_init_0 : List UInt8 := [42, 43, 3, 43, 190, 183, 0, 1, 177]
abbrev dktX4_init_0 : List UInt8 := dkwX4_init_0 ++ []
theorem dksX4_init_0 : cX4_init.data.toList.drop 0 = dktX4_init_0 := by decide +kernel
theorem dX4_init_0 : decode cX4_init 0 = .ok (.aload_n 0, 1) := dk_42 (dk_at dksX4_init_0 0 rfl rfl)
theorem dX4_init_1 : decode cX4_init 1 = .ok (.aload_n 1, 1) := dk_43 (dk_at dksX4_init_0 1 rfl rfl)
theorem dX4_init_2 : decode cX4_init 2 = .ok (.iconst 0, 1) := dk_3 (dk_at dksX4_init_0 2 rfl rfl)
theorem dX4_init_3 : decode cX4_init 3 = .ok (.aload_n 1, 1) := dk_43 (dk_at dksX4_init_0 3 rfl rfl)
theorem dX4_init_4 : decode cX4_init 4 = .ok (.arraylength, 1) := dk_190 (dk_at dksX4_init_0 4 rfl rfl)
theorem dX4_init_5 : decode cX4_init 5 = .ok (.invokespecial 1, 3) := dk_183 0 1 (dk_at dksX4_init_0 5 rfl rfl)
theorem dX4_init_8 : decode cX4_init 8 = .ok (.return_, 1) := dk_177 (dk_at dksX4_init_0 8 rfl rfl)
abbrev cX4_init_2 : ByteArray := prog_6_method_2_code
def yX4_init_2 : MethodName := ⟨RX4, "<init>", "([BII)V"⟩
def dkwX4_init_2_0 : List UInt8 := [42, 29, 183, 0, 7, 43, 28, 42, 180, 0, 10, 3, 29, 184, 0, 14, 177]
abbrev dktX4_init_2_0 : List UInt8 := dkwX4_init_2_0 ++ []
theorem dksX4_init_2_0 : cX4_init_2.data.toList.drop 0 = dktX4_init_2_0 := by decide +kernel
theorem dX4_init_2_0 : decode cX4_init_2 0 = .ok (.aload_n 0, 1) := dk_42 (dk_at dksX4_init_2_0 0 rfl rfl)
theorem dX4_init_2_1 : decode cX4_init_2 1 = .ok (.iload_n 3, 1) := dk_29 (dk_at dksX4_init_2_0 1 rfl rfl)
theorem dX4_init_2_2 : decode cX4_init_2 2 = .ok (.invokespecial 7, 3) := dk_183 0 7 (dk_at dksX4_init_2_0 2 rfl rfl)
theorem dX4_init_2_5 : decode cX4_init_2 5 = .ok (.aload_n 1, 1) := dk_43 (dk_at dksX4_init_2_0 5 rfl rfl)
theorem dX4_init_2_6 : decode cX4_init_2 6 = .ok (.iload_n 2, 1) := dk_28 (dk_at dksX4_init_2_0 6 rfl rfl)
theorem dX4_init_2_7 : decode cX4_init_2 7 = .ok (.aload_n 0, 1) := dk_42 (dk_at dksX4_init_2_0 7 rfl rfl)
theorem dX4_init_2_8 : decode cX4_init_2 8 = .ok (.getfield 10, 3) := dk_180 0 10 (dk_at dksX4_init_2_0 8 rfl rfl)
theorem dX4_init_2_11 : decode cX4_init_2 11 = .ok (.iconst 0, 1) := dk_3 (dk_at dksX4_init_2_0 11 rfl rfl)
theorem dX4_init_2_12 : decode cX4_init_2 12 = .ok (.iload_n 3, 1) := dk_29 (dk_at dksX4_init_2_0 12 rfl rfl)
theorem dX4_init_2_13 : decode cX4_init_2 13 = .ok (.invokestatic 14, 3) := dk_184 0 14 (dk_at dksX4_init_2_0 13 rfl rfl)
theorem dX4_init_2_16 : decode cX4_init_2 16 = .ok (.return_, 1) := dk_177 (dk_at dksX4_init_2_0 16 rfl rfl)
abbrev cX4_init_3 : ByteArray := prog_6_method_3_code
def yX4_init_3 : MethodName := ⟨RX4, "<init>", "(I)V"⟩
def dkwX4_init_3_0 : List UInt8 := [42, 183, 0, 20, 42, 27, 188, 8, 181, 0, 10, 177]
abbrev dktX4_init_3_0 : List UInt8 := dkwX4_init_3_0 ++ []
theorem dksX4_init_3_0 : cX4_init_3.data.toList.drop 0 = dktX4_init_3_0 := by decide +kernel
theorem dX4_init_3_0 : decode cX4_init_3 0 = .ok (.aload_n 0, 1) := dk_42 (dk_at dksX4_init_3_0 0 rfl rfl)
theorem dX4_init_3_1 : decode cX4_init_3 1 = .ok (.invokespecial 20, 3) := dk_183 0 20 (dk_at dksX4_init_3_0 1 rfl rfl)
theorem dX4_init_3_4 : decode cX4_init_3 4 = .ok (.aload_n 0, 1) := dk_42 (dk_at dksX4_init_3_0 4 rfl rfl)
theorem dX4_init_3_5 : decode cX4_init_3 5 = .ok (.iload_n 1, 1) := dk_27 (dk_at dksX4_init_3_0 5 rfl rfl)
theorem dX4_init_3_6 : decode cX4_init_3 6 = .ok (.newarray .byte, 2) := dk_188_8 (dk_at dksX4_init_3_0 6 rfl rfl)
theorem dX4_init_3_8 : decode cX4_init_3 8 = .ok (.putfield 10, 3) := dk_181 0 10 (dk_at dksX4_init_3_0 8 rfl rfl)
theorem dX4_init_3_11 : decode cX4_init_3 11 = .ok (.return_, 1) := dk_177 (dk_at dksX4_init_3_0 11 rfl rfl)
abbrev cX4_getKey : ByteArray := prog_6_method_4_code
def yX4_getKey : MethodName := ⟨RX4, "getKey", "()[B"⟩
theorem dX4_getKey_0 : decode cX4_getKey 0 = .ok (.aload_n 0, 1) := by decide +kernel
theorem dX4_getKey_1 : decode cX4_getKey 1 = .ok (.getfield 10, 3) := by decide +kernel
theorem dX4_getKey_4 : decode cX4_getKey 4 = .ok (.areturn, 1) := by decide +kernel
theorem q14 : (Jvm.Cond.initialized "KeyParameter") ∈ lw_all := lw_g (lw_at lw_m1 4 rfl) rfl
theorem q333 : (Jvm.Cond.instantiable "KeyParameter" (1 : Nat)) ∈ lw_all := lw_g (lw_at lw_m2 83 rfl) rfl
theorem q335 : (Jvm.Cond.instanceMethod ({ cls := "KeyParameter", name := "<init>", desc := "([B)V" } : Jvm.MethodName)) ∈ lw_all := lw_g (lw_at lw_m2 85 rfl) rfl
theorem q336 : (Jvm.Cond.code ({ cls := "KeyParameter", name := "<init>", desc := "([B)V" } : Jvm.MethodName) prog_6_method_1_code (2 : Nat) (Option.none : Option Jvm.ClassFile.FieldType)) ∈ lw_all := lw_g (lw_at lw_m2 86 rfl) rfl
theorem q337 : (Jvm.Cond.methodLink "KeyParameter" (1 : Nat) ({ cls := "KeyParameter", name := "<init>", desc := "([BII)V" } : Jvm.MethodName)) ∈ lw_all := lw_g (lw_at lw_m2 87 rfl) rfl
theorem q338 : (Jvm.Cond.instanceMethod ({ cls := "KeyParameter", name := "<init>", desc := "([BII)V" } : Jvm.MethodName)) ∈ lw_all := lw_g (lw_at lw_m2 88 rfl) rfl
theorem q339 : (Jvm.Cond.code ({ cls := "KeyParameter", name := "<init>", desc := "([BII)V" } : Jvm.MethodName) prog_6_method_2_code (4 : Nat) (Option.none : Option Jvm.ClassFile.FieldType)) ∈ lw_all := lw_g (lw_at lw_m2 89 rfl) rfl
theorem q340 : (Jvm.Cond.methodLink "KeyParameter" (7 : Nat) ({ cls := "KeyParameter", name := "<init>", desc := "(I)V" } : Jvm.MethodName)) ∈ lw_all := lw_g (lw_at lw_m2 90 rfl) rfl
theorem q341 : (Jvm.Cond.instanceMethod ({ cls := "KeyParameter", name := "<init>", desc := "(I)V" } : Jvm.MethodName)) ∈ lw_all := lw_g (lw_at lw_m2 91 rfl) rfl
theorem q342 : (Jvm.Cond.code ({ cls := "KeyParameter", name := "<init>", desc := "(I)V" } : Jvm.MethodName) prog_6_method_3_code (2 : Nat) (Option.none : Option Jvm.ClassFile.FieldType)) ∈ lw_all := lw_g (lw_at lw_m2 92 rfl) rfl
theorem q343 : (Jvm.Cond.methodLink "KeyParameter" (20 : Nat) ({ cls := "java/lang/Object", name := "<init>", desc := "()V" } : Jvm.MethodName)) ∈ lw_all := lw_g (lw_at lw_m2 93 rfl) rfl
theorem q344 : (Jvm.Cond.fieldLink "KeyParameter" (10 : Nat) "KeyParameter" "key" "[B") ∈ lw_all := lw_g (lw_at lw_m2 94 rfl) rfl
theorem q345 : (Jvm.Cond.lays "KeyParameter" "KeyParameter" "key" "[B") ∈ lw_all := lw_g (lw_at lw_m2 95 rfl) rfl
theorem q346 : (Jvm.Cond.soleField "KeyParameter" "key") ∈ lw_all := lw_g (lw_at lw_m2 96 rfl) rfl
theorem q347 : (Jvm.Cond.superclass "KeyParameter" "java/lang/Object") ∈ lw_all := lw_g (lw_at lw_m2 97 rfl) rfl
theorem q348 : (Jvm.Cond.methodLink "KeyParameter" (14 : Nat) ({ cls := "java/lang/System", name := "arraycopy", desc := "(Ljava/lang/Object;ILjava/lang/Object;II)V" } : Jvm.MethodName)) ∈ lw_all := lw_g (lw_at lw_m2 98 rfl) rfl
theorem q380 : (Jvm.Cond.instanceMethod ({ cls := "KeyParameter", name := "getKey", desc := "()[B" } : Jvm.MethodName)) ∈ lw_all := lw_g (lw_at lw_m2 130 rfl) rfl
theorem q381 : (Jvm.Cond.selects "KeyParameter" ({ cls := "KeyParameter", name := "getKey", desc := "()[B" } : Jvm.MethodName) ({ cls := "KeyParameter", name := "getKey", desc := "()[B" } : Jvm.MethodName)) ∈ lw_all := lw_g (lw_at lw_m2 131 rfl) rfl
theorem q382 : (Jvm.Cond.code ({ cls := "KeyParameter", name := "getKey", desc := "()[B" } : Jvm.MethodName) prog_6_method_4_code (1 : Nat) (Option.some (Jvm.ClassFile.FieldType.array Jvm.ClassFile.FieldType.byte))) ∈ lw_all := lw_g (lw_at lw_m2 132 rfl) rfl
theorem in_X4 : ∀ w ∈ wsX40, w ∈ lw_all := lw_in wsX40 [345] (by decide +kernel) (by decide +kernel)
/-! ParametersWithIV -/
set_option maxRecDepth 100000
def RX3 : String := "ParametersWithIV"
def TX3 : u_T := fun k => match k with
  | 0 => ("ParametersWithIV", "iv", "[B", false)
  | _ => ("ParametersWithIV", "parameters", "LCipherParameters;", false)
def tyX3 : Nat → FieldType := fun k => match k with
  | 0 => .array .byte
  | _ => .object "CipherParameters"
abbrev wsX30 : List Cond := u_ws RX3 TX3 2
theorem nmX3 : ∀ a, a < 2 → ∀ b, b < 2 → a ≠ b → (TX3 a).2.1 ≠ (TX3 b).2.1 := by decide +kernel
theorem tyX3_ok : ∀ k, k < 2 → parseFieldDescriptor (TX3 k).2.2.1 = some (tyX3 k) := by decide +kernel
abbrev cX3_init : ByteArray := prog_8_method_1_code
def yX3_init : MethodName := ⟨RX3, "<init>", "(LCipherParameters;[B)V"⟩
def dkwX3_init_0 : List UInt8 := [42, 43, 44, 3, 44, 190, 183, 0, 1, 177]
abbrev dktX3_init_0 : List UInt8 := dkwX3_init_0 ++ []
theorem dksX3_init_0 : cX3_init.data.toList.drop 0 = dktX3_init_0 := by decide +kernel
theorem dX3_init_0 : decode cX3_init 0 = .ok (.aload_n 0, 1) := dk_42 (dk_at dksX3_init_0 0 rfl rfl)
theorem dX3_init_1 : decode cX3_init 1 = .ok (.aload_n 1, 1) := dk_43 (dk_at dksX3_init_0 1 rfl rfl)
theorem dX3_init_2 : decode cX3_init 2 = .ok (.aload_n 2, 1) := dk_44 (dk_at dksX3_init_0 2 rfl rfl)
theorem dX3_init_3 : decode cX3_init 3 = .ok (.iconst 0, 1) := dk_3 (dk_at dksX3_init_0 3 rfl rfl)
theorem dX3_init_4 : decode cX3_init 4 = .ok (.aload_n 2, 1) := dk_44 (dk_at dksX3_init_0 4 rfl rfl)
theorem dX3_init_5 : decode cX3_init 5 = .ok (.arraylength, 1) := dk_190 (dk_at dksX3_init_0 5 rfl rfl)
theorem dX3_init_6 : decode cX3_init 6 = .ok (.invokespecial 1, 3) := dk_183 0 1 (dk_at dksX3_init_0 6 rfl rfl)
theorem dX3_init_9 : decode cX3_init 9 = .ok (.return_, 1) := dk_177 (dk_at dksX3_init_0 9 rfl rfl)
abbrev cX3_init_2 : ByteArray := prog_8_method_2_code
def yX3_init_2 : MethodName := ⟨RX3, "<init>", "(LCipherParameters;[BII)V"⟩
def dkwX3_init_2_1 : List UInt8 := [21, 4, 184, 0, 20, 177]
abbrev dktX3_init_2_1 : List UInt8 := dkwX3_init_2_1 ++ []
def dkwX3_init_2_0 : List UInt8 := [42, 183, 0, 7, 42, 21, 4, 188, 8, 181, 0, 12, 42, 43, 181, 0, 16, 44, 29, 42, 180, 0, 12, 3]
abbrev dktX3_init_2_0 : List UInt8 := dkwX3_init_2_0 ++ dktX3_init_2_1
theorem dksX3_init_2_0 : cX3_init_2.data.toList.drop 0 = dktX3_init_2_0 := by decide +kernel
theorem dksX3_init_2_1 : cX3_init_2.data.toList.drop 24 = dktX3_init_2_1 := dk_seg dksX3_init_2_0 24 rfl rfl
theorem dX3_init_2_0 : decode cX3_init_2 0 = .ok (.aload_n 0, 1) := dk_42 (dk_at dksX3_init_2_0 0 rfl rfl)
theorem dX3_init_2_1 : decode cX3_init_2 1 = .ok (.invokespecial 7, 3) := dk_183 0 7 (dk_at dksX3_init_2_0 1 rfl rfl)
theorem dX3_init_2_4 : decode cX3_init_2 4 = .ok (.aload_n 0, 1) := dk_42 (dk_at dksX3_init_2_0 4 rfl rfl)
theorem dX3_init_2_5 : decode cX3_init_2 5 = .ok (.iload 4, 2) := dk_21 4 (dk_at dksX3_init_2_0 5 rfl rfl)
theorem dX3_init_2_7 : decode cX3_init_2 7 = .ok (.newarray .byte, 2) := dk_188_8 (dk_at dksX3_init_2_0 7 rfl rfl)
theorem dX3_init_2_9 : decode cX3_init_2 9 = .ok (.putfield 12, 3) := dk_181 0 12 (dk_at dksX3_init_2_0 9 rfl rfl)
theorem dX3_init_2_12 : decode cX3_init_2 12 = .ok (.aload_n 0, 1) := dk_42 (dk_at dksX3_init_2_0 12 rfl rfl)
theorem dX3_init_2_13 : decode cX3_init_2 13 = .ok (.aload_n 1, 1) := dk_43 (dk_at dksX3_init_2_0 13 rfl rfl)
theorem dX3_init_2_14 : decode cX3_init_2 14 = .ok (.putfield 16, 3) := dk_181 0 16 (dk_at dksX3_init_2_0 14 rfl rfl)
theorem dX3_init_2_17 : decode cX3_init_2 17 = .ok (.aload_n 2, 1) := dk_44 (dk_at dksX3_init_2_0 17 rfl rfl)
theorem dX3_init_2_18 : decode cX3_init_2 18 = .ok (.iload_n 3, 1) := dk_29 (dk_at dksX3_init_2_0 18 rfl rfl)
theorem dX3_init_2_19 : decode cX3_init_2 19 = .ok (.aload_n 0, 1) := dk_42 (dk_at dksX3_init_2_0 19 rfl rfl)
theorem dX3_init_2_20 : decode cX3_init_2 20 = .ok (.getfield 12, 3) := dk_180 0 12 (dk_at dksX3_init_2_0 20 rfl rfl)
theorem dX3_init_2_23 : decode cX3_init_2 23 = .ok (.iconst 0, 1) := dk_3 (dk_at dksX3_init_2_0 23 rfl rfl)
theorem dX3_init_2_24 : decode cX3_init_2 24 = .ok (.iload 4, 2) := dk_21 4 (dk_at dksX3_init_2_1 0 rfl rfl)
theorem dX3_init_2_26 : decode cX3_init_2 26 = .ok (.invokestatic 20, 3) := dk_184 0 20 (dk_at dksX3_init_2_1 2 rfl rfl)
theorem dX3_init_2_29 : decode cX3_init_2 29 = .ok (.return_, 1) := dk_177 (dk_at dksX3_init_2_1 5 rfl rfl)
abbrev cX3_getIV : ByteArray := prog_8_method_3_code
def yX3_getIV : MethodName := ⟨RX3, "getIV", "()[B"⟩
theorem dX3_getIV_0 : decode cX3_getIV 0 = .ok (.aload_n 0, 1) := by decide +kernel
theorem dX3_getIV_1 : decode cX3_getIV 1 = .ok (.getfield 12, 3) := by decide +kernel
theorem dX3_getIV_4 : decode cX3_getIV 4 = .ok (.areturn, 1) := by decide +kernel
abbrev cX3_getParameters : ByteArray := prog_8_method_4_code
def yX3_getParameters : MethodName := ⟨RX3, "getParameters", "()LCipherParameters;"⟩
theorem dX3_getParameters_0 : decode cX3_getParameters 0 = .ok (.aload_n 0, 1) := by decide +kernel
theorem dX3_getParameters_1 : decode cX3_getParameters 1 = .ok (.getfield 16, 3) := by decide +kernel
theorem dX3_getParameters_4 : decode cX3_getParameters 4 = .ok (.areturn, 1) := by decide +kernel
theorem q13 : (Jvm.Cond.initialized "ParametersWithIV") ∈ lw_all := lw_g (lw_at lw_m1 3 rfl) rfl
theorem q331 : (Jvm.Cond.instantiable "ParametersWithIV" (2 : Nat)) ∈ lw_all := lw_g (lw_at lw_m2 81 rfl) rfl
theorem q350 : (Jvm.Cond.instanceMethod ({ cls := "ParametersWithIV", name := "<init>", desc := "(LCipherParameters;[B)V" } : Jvm.MethodName)) ∈ lw_all := lw_g (lw_at lw_m2 100 rfl) rfl
theorem q351 : (Jvm.Cond.code ({ cls := "ParametersWithIV", name := "<init>", desc := "(LCipherParameters;[B)V" } : Jvm.MethodName) prog_8_method_1_code (3 : Nat) (Option.none : Option Jvm.ClassFile.FieldType)) ∈ lw_all := lw_g (lw_at lw_m2 101 rfl) rfl
theorem q352 : (Jvm.Cond.methodLink "ParametersWithIV" (1 : Nat) ({ cls := "ParametersWithIV", name := "<init>", desc := "(LCipherParameters;[BII)V" } : Jvm.MethodName)) ∈ lw_all := lw_g (lw_at lw_m2 102 rfl) rfl
theorem q353 : (Jvm.Cond.instanceMethod ({ cls := "ParametersWithIV", name := "<init>", desc := "(LCipherParameters;[BII)V" } : Jvm.MethodName)) ∈ lw_all := lw_g (lw_at lw_m2 103 rfl) rfl
theorem q354 : (Jvm.Cond.code ({ cls := "ParametersWithIV", name := "<init>", desc := "(LCipherParameters;[BII)V" } : Jvm.MethodName) prog_8_method_2_code (5 : Nat) (Option.none : Option Jvm.ClassFile.FieldType)) ∈ lw_all := lw_g (lw_at lw_m2 104 rfl) rfl
theorem q355 : (Jvm.Cond.methodLink "ParametersWithIV" (7 : Nat) ({ cls := "java/lang/Object", name := "<init>", desc := "()V" } : Jvm.MethodName)) ∈ lw_all := lw_g (lw_at lw_m2 105 rfl) rfl
theorem q356 : (Jvm.Cond.methodLink "ParametersWithIV" (20 : Nat) ({ cls := "java/lang/System", name := "arraycopy", desc := "(Ljava/lang/Object;ILjava/lang/Object;II)V" } : Jvm.MethodName)) ∈ lw_all := lw_g (lw_at lw_m2 106 rfl) rfl
theorem q357 : (Jvm.Cond.fieldLink "ParametersWithIV" (12 : Nat) "ParametersWithIV" "iv" "[B") ∈ lw_all := lw_g (lw_at lw_m2 107 rfl) rfl
theorem q358 : (Jvm.Cond.fieldLink "ParametersWithIV" (16 : Nat) "ParametersWithIV" "parameters" "LCipherParameters;") ∈ lw_all := lw_g (lw_at lw_m2 108 rfl) rfl
theorem q359 : (Jvm.Cond.lays "ParametersWithIV" "ParametersWithIV" "iv" "[B") ∈ lw_all := lw_g (lw_at lw_m2 109 rfl) rfl
theorem q360 : (Jvm.Cond.soleField "ParametersWithIV" "iv") ∈ lw_all := lw_g (lw_at lw_m2 110 rfl) rfl
theorem q361 : (Jvm.Cond.lays "ParametersWithIV" "ParametersWithIV" "parameters" "LCipherParameters;") ∈ lw_all := lw_g (lw_at lw_m2 111 rfl) rfl
theorem q362 : (Jvm.Cond.soleField "ParametersWithIV" "parameters") ∈ lw_all := lw_g (lw_at lw_m2 112 rfl) rfl
theorem q363 : (Jvm.Cond.superclass "ParametersWithIV" "java/lang/Object") ∈ lw_all := lw_g (lw_at lw_m2 113 rfl) rfl
theorem q370 : (Jvm.Cond.instanceMethod ({ cls := "ParametersWithIV", name := "getIV", desc := "()[B" } : Jvm.MethodName)) ∈ lw_all := lw_g (lw_at lw_m2 120 rfl) rfl
theorem q371 : (Jvm.Cond.selects "ParametersWithIV" ({ cls := "ParametersWithIV", name := "getIV", desc := "()[B" } : Jvm.MethodName) ({ cls := "ParametersWithIV", name := "getIV", desc := "()[B" } : Jvm.MethodName)) ∈ lw_all := lw_g (lw_at lw_m2 121 rfl) rfl
theorem q372 : (Jvm.Cond.code ({ cls := "ParametersWithIV", name := "getIV", desc := "()[B" } : Jvm.MethodName) prog_8_method_3_code (1 : Nat) (Option.some (Jvm.ClassFile.FieldType.array Jvm.ClassFile.FieldType.byte))) ∈ lw_all := lw_g (lw_at lw_m2 122 rfl) rfl
theorem q374 : (Jvm.Cond.instanceMethod ({ cls := "ParametersWithIV", name := "getParameters", desc := "()LCipherParameters;" } : Jvm.MethodName)) ∈ lw_all := lw_g (lw_at lw_m2 124 rfl) rfl
theorem q375 : (Jvm.Cond.selects "ParametersWithIV" ({ cls := "ParametersWithIV", name := "getParameters", desc := "()LCipherParameters;" } : Jvm.MethodName) ({ cls := "ParametersWithIV", name := "getParameters", desc := "()LCipherParameters;" } : Jvm.MethodName)) ∈ lw_all := lw_g (lw_at lw_m2 125 rfl) rfl
theorem q376 : (Jvm.Cond.code ({ cls := "ParametersWithIV", name := "getParameters", desc := "()LCipherParameters;" } : Jvm.MethodName) prog_8_method_4_code (1 : Nat) (Option.some (Jvm.ClassFile.FieldType.object "CipherParameters"))) ∈ lw_all := lw_g (lw_at lw_m2 126 rfl) rfl
theorem in_X3 : ∀ w ∈ wsX30, w ∈ lw_all := lw_in wsX30 [359, 361] (by decide +kernel) (by decide +kernel)
end
section
/-! HC128Engine -/
set_option maxRecDepth 100000
def RX2 : String := "HC128Engine"
def TX2 : u_T := fun k => match k with
  | 0 => ("HC128Engine", "p", "[I", false)
  | 1 => ("HC128Engine", "q", "[I", false)
  | 2 => ("HC128Engine", "cnt", "I", false)
  | 3 => ("HC128Engine", "key", "[B", false)
  | 4 => ("HC128Engine", "iv", "[B", false)
  | 5 => ("HC128Engine", "initialised", "Z", false)
  | 6 => ("HC128Engine", "buf", "[B", false)
  | _ => ("HC128Engine", "idx", "I", false)
def tyX2 : Nat → FieldType := fun k => match k with
  | 0 => .array .int
  | 1 => .array .int
  | 2 => .int
  | 3 => .array .byte
  | 4 => .array .byte
  | 5 => .boolean
  | 6 => .array .byte
  | _ => .int
abbrev wsX20 : List Cond := u_ws RX2 TX2 8
theorem nmX2 : ∀ a, a < 8 → ∀ b, b < 8 → a ≠ b → (TX2 a).2.1 ≠ (TX2 b).2.1 := by decide +kernel
theorem tyX2_ok : ∀ k, k < 8 → parseFieldDescriptor (TX2 k).2.2.1 = some (tyX2 k) := by decide +kernel
abbrev cX2_processBytes : ByteArray := prog_3_method_17_code
def yX2_processBytes : MethodName := ⟨RX2, "processBytes", "([BII[BI)I"⟩
def dkwX2_processBytes_3 : List UInt8 := [21, 6, 96, 43, 28, 21, 6, 96, 51, 42, 182, 0, 127, 130, 145, 84, 132, 6, 1, 167, 255, 227, 29, 172]
abbrev dktX2_processBytes_3 : List UInt8 := dkwX2_processBytes_3 ++ []
def dkwX2_processBytes_2 : List UInt8 := [187, 0, 122, 89, 18, 124, 183, 0, 126, 191, 3, 54, 6, 21, 6, 29, 162, 0, 29, 25, 4, 21, 5]
abbrev dktX2_processBytes_2 : List UInt8 := dkwX2_processBytes_2 ++ dktX2_processBytes_3
def dkwX2_processBytes_1 : List UInt8 := [164, 0, 13, 187, 0, 117, 89, 18, 119, 183, 0, 121, 191, 21, 5, 29, 96, 25, 4, 190, 164, 0, 13]
abbrev dktX2_processBytes_1 : List UInt8 := dkwX2_processBytes_1 ++ dktX2_processBytes_2
def dkwX2_processBytes_0 : List UInt8 := [42, 180, 0, 110, 154, 0, 13, 187, 0, 114, 89, 18, 108, 183, 0, 116, 191, 28, 29, 96, 43, 190]
abbrev dktX2_processBytes_0 : List UInt8 := dkwX2_processBytes_0 ++ dktX2_processBytes_1
theorem dksX2_processBytes_0 : cX2_processBytes.data.toList.drop 0 = dktX2_processBytes_0 := by decide +kernel
theorem dksX2_processBytes_1 : cX2_processBytes.data.toList.drop 22 = dktX2_processBytes_1 := dk_seg dksX2_processBytes_0 22 rfl rfl
theorem dksX2_processBytes_2 : cX2_processBytes.data.toList.drop 45 = dktX2_processBytes_2 := dk_seg dksX2_processBytes_1 23 rfl rfl
theorem dksX2_processBytes_3 : cX2_processBytes.data.toList.drop 68 = dktX2_processBytes_3 := dk_seg dksX2_processBytes_2 23 rfl rfl
theorem dX2_processBytes_0 : decode cX2_processBytes 0 = .ok (.aload_n 0, 1) := dk_42 (dk_at dksX2_processBytes_0 0 rfl rfl)
theorem dX2_processBytes_1 : decode cX2_processBytes 1 = .ok (.getfield 110, 3) := dk_180 0 110 (dk_at dksX2_processBytes_0 1 rfl rfl)
theorem dX2_processBytes_4 : decode cX2_processBytes 4 = .ok (.ifCond .ne 13, 3) := dk_154 0 13 (dk_at dksX2_processBytes_0 4 rfl rfl)
theorem dX2_processBytes_7 : decode cX2_processBytes 7 = .ok (.new 114, 3) := dk_187 0 114 (dk_at dksX2_processBytes_0 7 rfl rfl)
theorem dX2_processBytes_10 : decode cX2_processBytes 10 = .ok (.dup, 1) := dk_89 (dk_at dksX2_processBytes_0 10 rfl rfl)
theorem dX2_processBytes_11 : decode cX2_processBytes 11 = .ok (.ldc 108, 2) := dk_18 108 (dk_at dksX2_processBytes_0 11 rfl rfl)
theorem dX2_processBytes_13 : decode cX2_processBytes 13 = .ok (.invokespecial 116, 3) := dk_183 0 116 (dk_at dksX2_processBytes_0 13 rfl rfl)
theorem dX2_processBytes_16 : decode cX2_processBytes 16 = .ok (.athrow, 1) := dk_191 (dk_at dksX2_processBytes_0 16 rfl rfl)
theorem dX2_processBytes_17 : decode cX2_processBytes 17 = .ok (.iload_n 2, 1) := dk_28 (dk_at dksX2_processBytes_0 17 rfl rfl)
theorem dX2_processBytes_18 : decode cX2_processBytes 18 = .ok (.iload_n 3, 1) := dk_29 (dk_at dksX2_processBytes_0 18 rfl rfl)
theorem dX2_processBytes_19 : decode cX2_processBytes 19 = .ok (.iadd, 1) := dk_96 (dk_at dksX2_processBytes_0 19 rfl rfl)
theorem dX2_processBytes_20 : decode cX2_processBytes 20 = .ok (.aload_n 1, 1) := dk_43 (dk_at dksX2_processBytes_0 20 rfl rfl)
theorem dX2_processBytes_21 : decode cX2_processBytes 21 = .ok (.arraylength, 1) := dk_190 (dk_at dksX2_processBytes_0 21 rfl rfl)
theorem dX2_processBytes_22 : decode cX2_processBytes 22 = .ok (.if_icmp .le 13, 3) := dk_164 0 13 (dk_at dksX2_processBytes_1 0 rfl rfl)
theorem dX2_processBytes_25 : decode cX2_processBytes 25 = .ok (.new 117, 3) := dk_187 0 117 (dk_at dksX2_processBytes_1 3 rfl rfl)
theorem dX2_processBytes_28 : decode cX2_processBytes 28 = .ok (.dup, 1) := dk_89 (dk_at dksX2_processBytes_1 6 rfl rfl)
theorem dX2_processBytes_29 : decode cX2_processBytes 29 = .ok (.ldc 119, 2) := dk_18 119 (dk_at dksX2_processBytes_1 7 rfl rfl)
theorem dX2_processBytes_31 : decode cX2_processBytes 31 = .ok (.invokespecial 121, 3) := dk_183 0 121 (dk_at dksX2_processBytes_1 9 rfl rfl)
theorem dX2_processBytes_34 : decode cX2_processBytes 34 = .ok (.athrow, 1) := dk_191 (dk_at dksX2_processBytes_1 12 rfl rfl)
theorem dX2_processBytes_35 : decode cX2_processBytes 35 = .ok (.iload 5, 2) := dk_21 5 (dk_at dksX2_processBytes_1 13 rfl rfl)
theorem dX2_processBytes_37 : decode cX2_processBytes 37 = .ok (.iload_n 3, 1) := dk_29 (dk_at dksX2_processBytes_1 15 rfl rfl)
theorem dX2_processBytes_38 : decode cX2_processBytes 38 = .ok (.iadd, 1) := dk_96 (dk_at dksX2_processBytes_1 16 rfl rfl)
theorem dX2_processBytes_39 : decode cX2_processBytes 39 = .ok (.aload 4, 2) := dk_25 4 (dk_at dksX2_processBytes_1 17 rfl rfl)
theorem dX2_processBytes_41 : decode cX2_processBytes 41 = .ok (.arraylength, 1) := dk_190 (dk_at dksX2_processBytes_1 19 rfl rfl)
theorem dX2_processBytes_42 : decode cX2_processBytes 42 = .ok (.if_icmp .le 13, 3) := dk_164 0 13 (dk_at dksX2_processBytes_1 20 rfl rfl)
theorem dX2_processBytes_45 : decode cX2_processBytes 45 = .ok (.new 122, 3) := dk_187 0 122 (dk_at dksX2_processBytes_2 0 rfl rfl)
theorem dX2_processBytes_48 : decode cX2_processBytes 48 = .ok (.dup, 1) := dk_89 (dk_at dksX2_processBytes_2 3 rfl rfl)
theorem dX2_processBytes_49 : decode cX2_processBytes 49 = .ok (.ldc 124, 2) := dk_18 124 (dk_at dksX2_processBytes_2 4 rfl rfl)
theorem dX2_processBytes_51 : decode cX2_processBytes 51 = .ok (.invokespecial 126, 3) := dk_183 0 126 (dk_at dksX2_processBytes_2 6 rfl rfl)
theorem dX2_processBytes_54 : decode cX2_processBytes 54 = .ok (.athrow, 1) := dk_191 (dk_at dksX2_processBytes_2 9 rfl rfl)
theorem dX2_processBytes_55 : decode cX2_processBytes 55 = .ok (.iconst 0, 1) := dk_3 (dk_at dksX2_processBytes_2 10 rfl rfl)
theorem dX2_processBytes_56 : decode cX2_processBytes 56 = .ok (.istore 6, 2) := dk_54 6 (dk_at dksX2_processBytes_2 11 rfl rfl)
theorem dX2_processBytes_58 : decode cX2_processBytes 58 = .ok (.iload 6, 2) := dk_21 6 (dk_at dksX2_processBytes_2 13 rfl rfl)
theorem dX2_processBytes_60 : decode cX2_processBytes 60 = .ok (.iload_n 3, 1) := dk_29 (dk_at dksX2_processBytes_2 15 rfl rfl)
theorem dX2_processBytes_61 : decode cX2_processBytes 61 = .ok (.if_icmp .ge 29, 3) := dk_162 0 29 (dk_at dksX2_processBytes_2 16 rfl rfl)
theorem dX2_processBytes_64 : decode cX2_processBytes 64 = .ok (.aload 4, 2) := dk_25 4 (dk_at dksX2_processBytes_2 19 rfl rfl)
theorem dX2_processBytes_66 : decode cX2_processBytes 66 = .ok (.iload 5, 2) := dk_21 5 (dk_at dksX2_processBytes_2 21 rfl rfl)
theorem dX2_processBytes_68 : decode cX2_processBytes 68 = .ok (.iload 6, 2) := dk_21 6 (dk_at dksX2_processBytes_3 0 rfl rfl)
theorem dX2_processBytes_70 : decode cX2_processBytes 70 = .ok (.iadd, 1) := dk_96 (dk_at dksX2_processBytes_3 2 rfl rfl)
theorem dX2_processBytes_71 : decode cX2_processBytes 71 = .ok (.aload_n 1, 1) := dk_43 (dk_at dksX2_processBytes_3 3 rfl rfl)
theorem dX2_processBytes_72 : decode cX2_processBytes 72 = .ok (.iload_n 2, 1) := dk_28 (dk_at dksX2_processBytes_3 4 rfl rfl)
theorem dX2_processBytes_73 : decode cX2_processBytes 73 = .ok (.iload 6, 2) := dk_21 6 (dk_at dksX2_processBytes_3 5 rfl rfl)
theorem dX2_processBytes_75 : decode cX2_processBytes 75 = .ok (.iadd, 1) := dk_96 (dk_at dksX2_processBytes_3 7 rfl rfl)
theorem dX2_processBytes_76 : decode cX2_processBytes 76 = .ok (.baload, 1) := dk_51 (dk_at dksX2_processBytes_3 8 rfl rfl)
theorem dX2_processBytes_77 : decode cX2_processBytes 77 = .ok (.aload_n 0, 1) := dk_42 (dk_at dksX2_processBytes_3 9 rfl rfl)
theorem dX2_processBytes_78 : decode cX2_processBytes 78 = .ok (.invokevirtual 127, 3) := dk_182 0 127 (dk_at dksX2_processBytes_3 10 rfl rfl)
theorem dX2_processBytes_81 : decode cX2_processBytes 81 = .ok (.ixor, 1) := dk_130 (dk_at dksX2_processBytes_3 13 rfl rfl)
theorem dX2_processBytes_82 : decode cX2_processBytes 82 = .ok (.i2b, 1) := dk_145 (dk_at dksX2_processBytes_3 14 rfl rfl)
theorem dX2_processBytes_83 : decode cX2_processBytes 83 = .ok (.bastore, 1) := dk_84 (dk_at dksX2_processBytes_3 15 rfl rfl)
theorem dX2_processBytes_84 : decode cX2_processBytes 84 = .ok (.iinc 6 1, 3) := dk_132 6 1 (dk_at dksX2_processBytes_3 16 rfl rfl)
theorem dX2_processBytes_87 : decode cX2_processBytes 87 = .ok (.goto (-29), 3) := dk_167 255 227 (dk_at dksX2_processBytes_3 19 rfl rfl)
theorem dX2_processBytes_90 : decode cX2_processBytes 90 = .ok (.iload_n 3, 1) := dk_29 (dk_at dksX2_processBytes_3 22 rfl rfl)
theorem dX2_processBytes_91 : decode cX2_processBytes 91 = .ok (.ireturn, 1) := dk_172 (dk_at dksX2_processBytes_3 23 rfl rfl)
abbrev cX2_getByte : ByteArray := prog_3_method_16_code
def yX2_getByte : MethodName := ⟨RX2, "getByte", "()B"⟩
def dkwX2_getByte_4 : List UInt8 := [126, 181, 0, 24, 27, 172]
abbrev dktX2_getByte_4 : List UInt8 := dkwX2_getByte_4 ++ []
def dkwX2_getByte_3 : List UInt8 := [17, 0, 255, 126, 145, 84, 42, 180, 0, 20, 42, 180, 0, 24, 51, 60, 42, 42, 180, 0, 24, 4, 96, 6]
abbrev dktX2_getByte_3 : List UInt8 := dkwX2_getByte_3 ++ dktX2_getByte_4
def dkwX2_getByte_2 : List UInt8 := [180, 0, 20, 5, 27, 17, 0, 255, 126, 145, 84, 27, 16, 8, 122, 60, 42, 180, 0, 20, 6, 27]
abbrev dktX2_getByte_2 : List UInt8 := dkwX2_getByte_2 ++ dktX2_getByte_3
def dkwX2_getByte_1 : List UInt8 := [27, 16, 8, 122, 60, 42, 180, 0, 20, 4, 27, 17, 0, 255, 126, 145, 84, 27, 16, 8, 122, 60, 42]
abbrev dktX2_getByte_1 : List UInt8 := dkwX2_getByte_1 ++ dktX2_getByte_2
def dkwX2_getByte_0 : List UInt8 := [42, 180, 0, 24, 154, 0, 71, 42, 182, 0, 84, 60, 42, 180, 0, 20, 3, 27, 17, 0, 255, 126, 145, 84]
abbrev dktX2_getByte_0 : List UInt8 := dkwX2_getByte_0 ++ dktX2_getByte_1
theorem dksX2_getByte_0 : cX2_getByte.data.toList.drop 0 = dktX2_getByte_0 := by decide +kernel
theorem dksX2_getByte_1 : cX2_getByte.data.toList.drop 24 = dktX2_getByte_1 := dk_seg dksX2_getByte_0 24 rfl rfl
theorem dksX2_getByte_2 : cX2_getByte.data.toList.drop 47 = dktX2_getByte_2 := dk_seg dksX2_getByte_1 23 rfl rfl
theorem dksX2_getByte_3 : cX2_getByte.data.toList.drop 69 = dktX2_getByte_3 := dk_seg dksX2_getByte_2 22 rfl rfl
theorem dksX2_getByte_4 : cX2_getByte.data.toList.drop 93 = dktX2_getByte_4 := dk_seg dksX2_getByte_3 24 rfl rfl
theorem dX2_getByte_0 : decode cX2_getByte 0 = .ok (.aload_n 0, 1) := dk_42 (dk_at dksX2_getByte_0 0 rfl rfl)
theorem dX2_getByte_1 : decode cX2_getByte 1 = .ok (.getfield 24, 3) := dk_180 0 24 (dk_at dksX2_getByte_0 1 rfl rfl)
theorem dX2_getByte_4 : decode cX2_getByte 4 = .ok (.ifCond .ne 71, 3) := dk_154 0 71 (dk_at dksX2_getByte_0 4 rfl rfl)
theorem dX2_getByte_7 : decode cX2_getByte 7 = .ok (.aload_n 0, 1) := dk_42 (dk_at dksX2_getByte_0 7 rfl rfl)
theorem dX2_getByte_8 : decode cX2_getByte 8 = .ok (.invokevirtual 84, 3) := dk_182 0 84 (dk_at dksX2_getByte_0 8 rfl rfl)
theorem dX2_getByte_11 : decode cX2_getByte 11 = .ok (.istore_n 1, 1) := dk_60 (dk_at dksX2_getByte_0 11 rfl rfl)
theorem dX2_getByte_12 : decode cX2_getByte 12 = .ok (.aload_n 0, 1) := dk_42 (dk_at dksX2_getByte_0 12 rfl rfl)
theorem dX2_getByte_13 : decode cX2_getByte 13 = .ok (.getfield 20, 3) := dk_180 0 20 (dk_at dksX2_getByte_0 13 rfl rfl)
theorem dX2_getByte_16 : decode cX2_getByte 16 = .ok (.iconst 0, 1) := dk_3 (dk_at dksX2_getByte_0 16 rfl rfl)
theorem dX2_getByte_17 : decode cX2_getByte 17 = .ok (.iload_n 1, 1) := dk_27 (dk_at dksX2_getByte_0 17 rfl rfl)
theorem dX2_getByte_18 : decode cX2_getByte 18 = .ok (.sipush 255, 3) := dk_17 0 255 (dk_at dksX2_getByte_0 18 rfl rfl)
theorem dX2_getByte_21 : decode cX2_getByte 21 = .ok (.iand, 1) := dk_126 (dk_at dksX2_getByte_0 21 rfl rfl)
theorem dX2_getByte_22 : decode cX2_getByte 22 = .ok (.i2b, 1) := dk_145 (dk_at dksX2_getByte_0 22 rfl rfl)
theorem dX2_getByte_23 : decode cX2_getByte 23 = .ok (.bastore, 1) := dk_84 (dk_at dksX2_getByte_0 23 rfl rfl)
theorem dX2_getByte_24 : decode cX2_getByte 24 = .ok (.iload_n 1, 1) := dk_27 (dk_at dksX2_getByte_1 0 rfl rfl)
theorem dX2_getByte_25 : decode cX2_getByte 25 = .ok (.bipush 8, 2) := dk_16 8 (dk_at dksX2_getByte_1 1 rfl rfl)
theorem dX2_getByte_27 : decode cX2_getByte 27 = .ok (.ishr, 1) := dk_122 (dk_at dksX2_getByte_1 3 rfl rfl)
theorem dX2_getByte_28 : decode cX2_getByte 28 = .ok (.istore_n 1, 1) := dk_60 (dk_at dksX2_getByte_1 4 rfl rfl)
theorem dX2_getByte_29 : decode cX2_getByte 29 = .ok (.aload_n 0, 1) := dk_42 (dk_at dksX2_getByte_1 5 rfl rfl)
theorem dX2_getByte_30 : decode cX2_getByte 30 = .ok (.getfield 20, 3) := dk_180 0 20 (dk_at dksX2_getByte_1 6 rfl rfl)
theorem dX2_getByte_33 : decode cX2_getByte 33 = .ok (.iconst 1, 1) := dk_4 (dk_at dksX2_getByte_1 9 rfl rfl)
theorem dX2_getByte_34 : decode cX2_getByte 34 = .ok (.iload_n 1, 1) := dk_27 (dk_at dksX2_getByte_1 10 rfl rfl)
theorem dX2_getByte_35 : decode cX2_getByte 35 = .ok (.sipush 255, 3) := dk_17 0 255 (dk_at dksX2_getByte_1 11 rfl rfl)
theorem dX2_getByte_38 : decode cX2_getByte 38 = .ok (.iand, 1) := dk_126 (dk_at dksX2_getByte_1 14 rfl rfl)
theorem dX2_getByte_39 : decode cX2_getByte 39 = .ok (.i2b, 1) := dk_145 (dk_at dksX2_getByte_1 15 rfl rfl)
theorem dX2_getByte_40 : decode cX2_getByte 40 = .ok (.bastore, 1) := dk_84 (dk_at dksX2_getByte_1 16 rfl rfl)
theorem dX2_getByte_41 : decode cX2_getByte 41 = .ok (.iload_n 1, 1) := dk_27 (dk_at dksX2_getByte_1 17 rfl rfl)
theorem dX2_getByte_42 : decode cX2_getByte 42 = .ok (.bipush 8, 2) := dk_16 8 (dk_at dksX2_getByte_1 18 rfl rfl)
theorem dX2_getByte_44 : decode cX2_getByte 44 = .ok (.ishr, 1) := dk_122 (dk_at dksX2_getByte_1 20 rfl rfl)
theorem dX2_getByte_45 : decode cX2_getByte 45 = .ok (.istore_n 1, 1) := dk_60 (dk_at dksX2_getByte_1 21 rfl rfl)
theorem dX2_getByte_46 : decode cX2_getByte 46 = .ok (.aload_n 0, 1) := dk_42 (dk_at dksX2_getByte_1 22 rfl rfl)
theorem dX2_getByte_47 : decode cX2_getByte 47 = .ok (.getfield 20, 3) := dk_180 0 20 (dk_at dksX2_getByte_2 0 rfl rfl)
theorem dX2_getByte_50 : decode cX2_getByte 50 = .ok (.iconst 2, 1) := dk_5 (dk_at dksX2_getByte_2 3 rfl rfl)
theorem dX2_getByte_51 : decode cX2_getByte 51 = .ok (.iload_n 1, 1) := dk_27 (dk_at dksX2_getByte_2 4 rfl rfl)
theorem dX2_getByte_52 : decode cX2_getByte 52 = .ok (.sipush 255, 3) := dk_17 0 255 (dk_at dksX2_getByte_2 5 rfl rfl)
theorem dX2_getByte_55 : decode cX2_getByte 55 = .ok (.iand, 1) := dk_126 (dk_at dksX2_getByte_2 8 rfl rfl)
theorem dX2_getByte_56 : decode cX2_getByte 56 = .ok (.i2b, 1) := dk_145 (dk_at dksX2_getByte_2 9 rfl rfl)
theorem dX2_getByte_57 : decode cX2_getByte 57 = .ok (.bastore, 1) := dk_84 (dk_at dksX2_getByte_2 10 rfl rfl)
theorem dX2_getByte_58 : decode cX2_getByte 58 = .ok (.iload_n 1, 1) := dk_27 (dk_at dksX2_getByte_2 11 rfl rfl)
theorem dX2_getByte_59 : decode cX2_getByte 59 = .ok (.bipush 8, 2) := dk_16 8 (dk_at dksX2_getByte_2 12 rfl rfl)
theorem dX2_getByte_61 : decode cX2_getByte 61 = .ok (.ishr, 1) := dk_122 (dk_at dksX2_getByte_2 14 rfl rfl)
theorem dX2_getByte_62 : decode cX2_getByte 62 = .ok (.istore_n 1, 1) := dk_60 (dk_at dksX2_getByte_2 15 rfl rfl)
theorem dX2_getByte_63 : decode cX2_getByte 63 = .ok (.aload_n 0, 1) := dk_42 (dk_at dksX2_getByte_2 16 rfl rfl)
theorem dX2_getByte_64 : decode cX2_getByte 64 = .ok (.getfield 20, 3) := dk_180 0 20 (dk_at dksX2_getByte_2 17 rfl rfl)
theorem dX2_getByte_67 : decode cX2_getByte 67 = .ok (.iconst 3, 1) := dk_6 (dk_at dksX2_getByte_2 20 rfl rfl)
theorem dX2_getByte_68 : decode cX2_getByte 68 = .ok (.iload_n 1, 1) := dk_27 (dk_at dksX2_getByte_2 21 rfl rfl)
theorem dX2_getByte_69 : decode cX2_getByte 69 = .ok (.sipush 255, 3) := dk_17 0 255 (dk_at dksX2_getByte_3 0 rfl rfl)
theorem dX2_getByte_72 : decode cX2_getByte 72 = .ok (.iand, 1) := dk_126 (dk_at dksX2_getByte_3 3 rfl rfl)
theorem dX2_getByte_73 : decode cX2_getByte 73 = .ok (.i2b, 1) := dk_145 (dk_at dksX2_getByte_3 4 rfl rfl)
theorem dX2_getByte_74 : decode cX2_getByte 74 = .ok (.bastore, 1) := dk_84 (dk_at dksX2_getByte_3 5 rfl rfl)
theorem dX2_getByte_75 : decode cX2_getByte 75 = .ok (.aload_n 0, 1) := dk_42 (dk_at dksX2_getByte_3 6 rfl rfl)
theorem dX2_getByte_76 : decode cX2_getByte 76 = .ok (.getfield 20, 3) := dk_180 0 20 (dk_at dksX2_getByte_3 7 rfl rfl)
theorem dX2_getByte_79 : decode cX2_getByte 79 = .ok (.aload_n 0, 1) := dk_42 (dk_at dksX2_getByte_3 10 rfl rfl)
theorem dX2_getByte_80 : decode cX2_getByte 80 = .ok (.getfield 24, 3) := dk_180 0 24 (dk_at dksX2_getByte_3 11 rfl rfl)
theorem dX2_getByte_83 : decode cX2_getByte 83 = .ok (.baload, 1) := dk_51 (dk_at dksX2_getByte_3 14 rfl rfl)
theorem dX2_getByte_84 : decode cX2_getByte 84 = .ok (.istore_n 1, 1) := dk_60 (dk_at dksX2_getByte_3 15 rfl rfl)
theorem dX2_getByte_85 : decode cX2_getByte 85 = .ok (.aload_n 0, 1) := dk_42 (dk_at dksX2_getByte_3 16 rfl rfl)
theorem dX2_getByte_86 : decode cX2_getByte 86 = .ok (.aload_n 0, 1) := dk_42 (dk_at dksX2_getByte_3 17 rfl rfl)
theorem dX2_getByte_87 : decode cX2_getByte 87 = .ok (.getfield 24, 3) := dk_180 0 24 (dk_at dksX2_getByte_3 18 rfl rfl)
theorem dX2_getByte_90 : decode cX2_getByte 90 = .ok (.iconst 1, 1) := dk_4 (dk_at dksX2_getByte_3 21 rfl rfl)
theorem dX2_getByte_91 : decode cX2_getByte 91 = .ok (.iadd, 1) := dk_96 (dk_at dksX2_getByte_3 22 rfl rfl)
theorem dX2_getByte_92 : decode cX2_getByte 92 = .ok (.iconst 3, 1) := dk_6 (dk_at dksX2_getByte_3 23 rfl rfl)
theorem dX2_getByte_93 : decode cX2_getByte 93 = .ok (.iand, 1) := dk_126 (dk_at dksX2_getByte_4 0 rfl rfl)
theorem dX2_getByte_94 : decode cX2_getByte 94 = .ok (.putfield 24, 3) := dk_181 0 24 (dk_at dksX2_getByte_4 1 rfl rfl)
theorem dX2_getByte_97 : decode cX2_getByte 97 = .ok (.iload_n 1, 1) := dk_27 (dk_at dksX2_getByte_4 4 rfl rfl)
theorem dX2_getByte_98 : decode cX2_getByte 98 = .ok (.ireturn, 1) := dk_172 (dk_at dksX2_getByte_4 5 rfl rfl)
abbrev cX2_step : ByteArray := prog_3_method_13_code
def yX2_step : MethodName := ⟨RX2, "step", "()I"⟩
def dkwX2_step_7 : List UInt8 := [184, 0, 54, 181, 0, 16, 28, 172]
abbrev dktX2_step_7 : List UInt8 := dkwX2_step_7 ++ []
def dkwX2_step_6 : List UInt8 := [184, 0, 38, 46, 182, 0, 51, 42, 180, 0, 13, 27, 46, 130, 61, 42, 42, 180, 0, 16, 4, 96]
abbrev dktX2_step_6 : List UInt8 := dkwX2_step_6 ++ dktX2_step_7
def dkwX2_step_5 : List UInt8 := [180, 0, 13, 27, 17, 1, 255, 184, 0, 38, 46, 182, 0, 48, 96, 79, 42, 42, 180, 0, 13, 27, 16, 12]
abbrev dktX2_step_5 : List UInt8 := dkwX2_step_5 ++ dktX2_step_6
def dkwX2_step_4 : List UInt8 := [46, 42, 42, 180, 0, 13, 27, 6, 184, 0, 38, 46, 42, 180, 0, 13, 27, 16, 10, 184, 0, 38, 46, 42]
abbrev dktX2_step_4 : List UInt8 := dkwX2_step_4 ++ dktX2_step_5
def dkwX2_step_3 : List UInt8 := [184, 0, 38, 46, 182, 0, 45, 42, 180, 0, 7, 27, 46, 130, 61, 167, 0, 72, 42, 180, 0, 13, 27, 92]
abbrev dktX2_step_3 : List UInt8 := dkwX2_step_3 ++ dktX2_step_4
def dkwX2_step_2 : List UInt8 := [180, 0, 7, 27, 17, 1, 255, 184, 0, 38, 46, 182, 0, 41, 96, 79, 42, 42, 180, 0, 7, 27, 16, 12]
abbrev dktX2_step_2 : List UInt8 := dkwX2_step_2 ++ dktX2_step_3
def dkwX2_step_1 : List UInt8 := [46, 42, 42, 180, 0, 7, 27, 6, 184, 0, 38, 46, 42, 180, 0, 7, 27, 16, 10, 184, 0, 38, 46, 42]
abbrev dktX2_step_1 : List UInt8 := dkwX2_step_1 ++ dktX2_step_2
def dkwX2_step_0 : List UInt8 := [42, 180, 0, 16, 184, 0, 34, 60, 42, 180, 0, 16, 17, 2, 0, 162, 0, 75, 42, 180, 0, 7, 27, 92]
abbrev dktX2_step_0 : List UInt8 := dkwX2_step_0 ++ dktX2_step_1
theorem dksX2_step_0 : cX2_step.data.toList.drop 0 = dktX2_step_0 := by decide +kernel
theorem dksX2_step_1 : cX2_step.data.toList.drop 24 = dktX2_step_1 := dk_seg dksX2_step_0 24 rfl rfl
theorem dksX2_step_2 : cX2_step.data.toList.drop 48 = dktX2_step_2 := dk_seg dksX2_step_1 24 rfl rfl
theorem dksX2_step_3 : cX2_step.data.toList.drop 72 = dktX2_step_3 := dk_seg dksX2_step_2 24 rfl rfl
theorem dksX2_step_4 : cX2_step.data.toList.drop 96 = dktX2_step_4 := dk_seg dksX2_step_3 24 rfl rfl
theorem dksX2_step_5 : cX2_step.data.toList.drop 120 = dktX2_step_5 := dk_seg dksX2_step_4 24 rfl rfl
theorem dksX2_step_6 : cX2_step.data.toList.drop 144 = dktX2_step_6 := dk_seg dksX2_step_5 24 rfl rfl
theorem dksX2_step_7 : cX2_step.data.toList.drop 166 = dktX2_step_7 := dk_seg dksX2_step_6 22 rfl rfl
theorem dX2_step_0 : decode cX2_step 0 = .ok (.aload_n 0, 1) := dk_42 (dk_at dksX2_step_0 0 rfl rfl)
theorem dX2_step_1 : decode cX2_step 1 = .ok (.getfield 16, 3) := dk_180 0 16 (dk_at dksX2_step_0 1 rfl rfl)
theorem dX2_step_4 : decode cX2_step 4 = .ok (.invokestatic 34, 3) := dk_184 0 34 (dk_at dksX2_step_0 4 rfl rfl)
theorem dX2_step_7 : decode cX2_step 7 = .ok (.istore_n 1, 1) := dk_60 (dk_at dksX2_step_0 7 rfl rfl)
theorem dX2_step_8 : decode cX2_step 8 = .ok (.aload_n 0, 1) := dk_42 (dk_at dksX2_step_0 8 rfl rfl)
theorem dX2_step_9 : decode cX2_step 9 = .ok (.getfield 16, 3) := dk_180 0 16 (dk_at dksX2_step_0 9 rfl rfl)
theorem dX2_step_12 : decode cX2_step 12 = .ok (.sipush 512, 3) := dk_17 2 0 (dk_at dksX2_step_0 12 rfl rfl)
theorem dX2_step_15 : decode cX2_step 15 = .ok (.if_icmp .ge 75, 3) := dk_162 0 75 (dk_at dksX2_step_0 15 rfl rfl)
theorem dX2_step_18 : decode cX2_step 18 = .ok (.aload_n 0, 1) := dk_42 (dk_at dksX2_step_0 18 rfl rfl)
theorem dX2_step_19 : decode cX2_step 19 = .ok (.getfield 7, 3) := dk_180 0 7 (dk_at dksX2_step_0 19 rfl rfl)
theorem dX2_step_22 : decode cX2_step 22 = .ok (.iload_n 1, 1) := dk_27 (dk_at dksX2_step_0 22 rfl rfl)
theorem dX2_step_23 : decode cX2_step 23 = .ok (.dup2, 1) := dk_92 (dk_at dksX2_step_0 23 rfl rfl)
theorem dX2_step_24 : decode cX2_step 24 = .ok (.iaload, 1) := dk_46 (dk_at dksX2_step_1 0 rfl rfl)
theorem dX2_step_25 : decode cX2_step 25 = .ok (.aload_n 0, 1) := dk_42 (dk_at dksX2_step_1 1 rfl rfl)
theorem dX2_step_26 : decode cX2_step 26 = .ok (.aload_n 0, 1) := dk_42 (dk_at dksX2_step_1 2 rfl rfl)
theorem dX2_step_27 : decode cX2_step 27 = .ok (.getfield 7, 3) := dk_180 0 7 (dk_at dksX2_step_1 3 rfl rfl)
theorem dX2_step_30 : decode cX2_step 30 = .ok (.iload_n 1, 1) := dk_27 (dk_at dksX2_step_1 6 rfl rfl)
theorem dX2_step_31 : decode cX2_step 31 = .ok (.iconst 3, 1) := dk_6 (dk_at dksX2_step_1 7 rfl rfl)
theorem dX2_step_32 : decode cX2_step 32 = .ok (.invokestatic 38, 3) := dk_184 0 38 (dk_at dksX2_step_1 8 rfl rfl)
theorem dX2_step_35 : decode cX2_step 35 = .ok (.iaload, 1) := dk_46 (dk_at dksX2_step_1 11 rfl rfl)
theorem dX2_step_36 : decode cX2_step 36 = .ok (.aload_n 0, 1) := dk_42 (dk_at dksX2_step_1 12 rfl rfl)
theorem dX2_step_37 : decode cX2_step 37 = .ok (.getfield 7, 3) := dk_180 0 7 (dk_at dksX2_step_1 13 rfl rfl)
theorem dX2_step_40 : decode cX2_step 40 = .ok (.iload_n 1, 1) := dk_27 (dk_at dksX2_step_1 16 rfl rfl)
theorem dX2_step_41 : decode cX2_step 41 = .ok (.bipush 10, 2) := dk_16 10 (dk_at dksX2_step_1 17 rfl rfl)
theorem dX2_step_43 : decode cX2_step 43 = .ok (.invokestatic 38, 3) := dk_184 0 38 (dk_at dksX2_step_1 19 rfl rfl)
theorem dX2_step_46 : decode cX2_step 46 = .ok (.iaload, 1) := dk_46 (dk_at dksX2_step_1 22 rfl rfl)
theorem dX2_step_47 : decode cX2_step 47 = .ok (.aload_n 0, 1) := dk_42 (dk_at dksX2_step_1 23 rfl rfl)
theorem dX2_step_48 : decode cX2_step 48 = .ok (.getfield 7, 3) := dk_180 0 7 (dk_at dksX2_step_2 0 rfl rfl)
theorem dX2_step_51 : decode cX2_step 51 = .ok (.iload_n 1, 1) := dk_27 (dk_at dksX2_step_2 3 rfl rfl)
theorem dX2_step_52 : decode cX2_step 52 = .ok (.sipush 511, 3) := dk_17 1 255 (dk_at dksX2_step_2 4 rfl rfl)
theorem dX2_step_55 : decode cX2_step 55 = .ok (.invokestatic 38, 3) := dk_184 0 38 (dk_at dksX2_step_2 7 rfl rfl)
theorem dX2_step_58 : decode cX2_step 58 = .ok (.iaload, 1) := dk_46 (dk_at dksX2_step_2 10 rfl rfl)
theorem dX2_step_59 : decode cX2_step 59 = .ok (.invokevirtual 41, 3) := dk_182 0 41 (dk_at dksX2_step_2 11 rfl rfl)
theorem dX2_step_62 : decode cX2_step 62 = .ok (.iadd, 1) := dk_96 (dk_at dksX2_step_2 14 rfl rfl)
theorem dX2_step_63 : decode cX2_step 63 = .ok (.iastore, 1) := dk_79 (dk_at dksX2_step_2 15 rfl rfl)
theorem dX2_step_64 : decode cX2_step 64 = .ok (.aload_n 0, 1) := dk_42 (dk_at dksX2_step_2 16 rfl rfl)
theorem dX2_step_65 : decode cX2_step 65 = .ok (.aload_n 0, 1) := dk_42 (dk_at dksX2_step_2 17 rfl rfl)
theorem dX2_step_66 : decode cX2_step 66 = .ok (.getfield 7, 3) := dk_180 0 7 (dk_at dksX2_step_2 18 rfl rfl)
theorem dX2_step_69 : decode cX2_step 69 = .ok (.iload_n 1, 1) := dk_27 (dk_at dksX2_step_2 21 rfl rfl)
theorem dX2_step_70 : decode cX2_step 70 = .ok (.bipush 12, 2) := dk_16 12 (dk_at dksX2_step_2 22 rfl rfl)
theorem dX2_step_72 : decode cX2_step 72 = .ok (.invokestatic 38, 3) := dk_184 0 38 (dk_at dksX2_step_3 0 rfl rfl)
theorem dX2_step_75 : decode cX2_step 75 = .ok (.iaload, 1) := dk_46 (dk_at dksX2_step_3 3 rfl rfl)
theorem dX2_step_76 : decode cX2_step 76 = .ok (.invokevirtual 45, 3) := dk_182 0 45 (dk_at dksX2_step_3 4 rfl rfl)
theorem dX2_step_79 : decode cX2_step 79 = .ok (.aload_n 0, 1) := dk_42 (dk_at dksX2_step_3 7 rfl rfl)
theorem dX2_step_80 : decode cX2_step 80 = .ok (.getfield 7, 3) := dk_180 0 7 (dk_at dksX2_step_3 8 rfl rfl)
theorem dX2_step_83 : decode cX2_step 83 = .ok (.iload_n 1, 1) := dk_27 (dk_at dksX2_step_3 11 rfl rfl)
theorem dX2_step_84 : decode cX2_step 84 = .ok (.iaload, 1) := dk_46 (dk_at dksX2_step_3 12 rfl rfl)
theorem dX2_step_85 : decode cX2_step 85 = .ok (.ixor, 1) := dk_130 (dk_at dksX2_step_3 13 rfl rfl)
theorem dX2_step_86 : decode cX2_step 86 = .ok (.istore_n 2, 1) := dk_61 (dk_at dksX2_step_3 14 rfl rfl)
theorem dX2_step_87 : decode cX2_step 87 = .ok (.goto 72, 3) := dk_167 0 72 (dk_at dksX2_step_3 15 rfl rfl)
theorem dX2_step_90 : decode cX2_step 90 = .ok (.aload_n 0, 1) := dk_42 (dk_at dksX2_step_3 18 rfl rfl)
theorem dX2_step_91 : decode cX2_step 91 = .ok (.getfield 13, 3) := dk_180 0 13 (dk_at dksX2_step_3 19 rfl rfl)
theorem dX2_step_94 : decode cX2_step 94 = .ok (.iload_n 1, 1) := dk_27 (dk_at dksX2_step_3 22 rfl rfl)
theorem dX2_step_95 : decode cX2_step 95 = .ok (.dup2, 1) := dk_92 (dk_at dksX2_step_3 23 rfl rfl)
theorem dX2_step_96 : decode cX2_step 96 = .ok (.iaload, 1) := dk_46 (dk_at dksX2_step_4 0 rfl rfl)
theorem dX2_step_97 : decode cX2_step 97 = .ok (.aload_n 0, 1) := dk_42 (dk_at dksX2_step_4 1 rfl rfl)
theorem dX2_step_98 : decode cX2_step 98 = .ok (.aload_n 0, 1) := dk_42 (dk_at dksX2_step_4 2 rfl rfl)
theorem dX2_step_99 : decode cX2_step 99 = .ok (.getfield 13, 3) := dk_180 0 13 (dk_at dksX2_step_4 3 rfl rfl)
theorem dX2_step_102 : decode cX2_step 102 = .ok (.iload_n 1, 1) := dk_27 (dk_at dksX2_step_4 6 rfl rfl)
theorem dX2_step_103 : decode cX2_step 103 = .ok (.iconst 3, 1) := dk_6 (dk_at dksX2_step_4 7 rfl rfl)
theorem dX2_step_104 : decode cX2_step 104 = .ok (.invokestatic 38, 3) := dk_184 0 38 (dk_at dksX2_step_4 8 rfl rfl)
theorem dX2_step_107 : decode cX2_step 107 = .ok (.iaload, 1) := dk_46 (dk_at dksX2_step_4 11 rfl rfl)
theorem dX2_step_108 : decode cX2_step 108 = .ok (.aload_n 0, 1) := dk_42 (dk_at dksX2_step_4 12 rfl rfl)
theorem dX2_step_109 : decode cX2_step 109 = .ok (.getfield 13, 3) := dk_180 0 13 (dk_at dksX2_step_4 13 rfl rfl)
theorem dX2_step_112 : decode cX2_step 112 = .ok (.iload_n 1, 1) := dk_27 (dk_at dksX2_step_4 16 rfl rfl)
theorem dX2_step_113 : decode cX2_step 113 = .ok (.bipush 10, 2) := dk_16 10 (dk_at dksX2_step_4 17 rfl rfl)
theorem dX2_step_115 : decode cX2_step 115 = .ok (.invokestatic 38, 3) := dk_184 0 38 (dk_at dksX2_step_4 19 rfl rfl)
theorem dX2_step_118 : decode cX2_step 118 = .ok (.iaload, 1) := dk_46 (dk_at dksX2_step_4 22 rfl rfl)
theorem dX2_step_119 : decode cX2_step 119 = .ok (.aload_n 0, 1) := dk_42 (dk_at dksX2_step_4 23 rfl rfl)
theorem dX2_step_120 : decode cX2_step 120 = .ok (.getfield 13, 3) := dk_180 0 13 (dk_at dksX2_step_5 0 rfl rfl)
theorem dX2_step_123 : decode cX2_step 123 = .ok (.iload_n 1, 1) := dk_27 (dk_at dksX2_step_5 3 rfl rfl)
theorem dX2_step_124 : decode cX2_step 124 = .ok (.sipush 511, 3) := dk_17 1 255 (dk_at dksX2_step_5 4 rfl rfl)
theorem dX2_step_127 : decode cX2_step 127 = .ok (.invokestatic 38, 3) := dk_184 0 38 (dk_at dksX2_step_5 7 rfl rfl)
theorem dX2_step_130 : decode cX2_step 130 = .ok (.iaload, 1) := dk_46 (dk_at dksX2_step_5 10 rfl rfl)
theorem dX2_step_131 : decode cX2_step 131 = .ok (.invokevirtual 48, 3) := dk_182 0 48 (dk_at dksX2_step_5 11 rfl rfl)
theorem dX2_step_134 : decode cX2_step 134 = .ok (.iadd, 1) := dk_96 (dk_at dksX2_step_5 14 rfl rfl)
theorem dX2_step_135 : decode cX2_step 135 = .ok (.iastore, 1) := dk_79 (dk_at dksX2_step_5 15 rfl rfl)
theorem dX2_step_136 : decode cX2_step 136 = .ok (.aload_n 0, 1) := dk_42 (dk_at dksX2_step_5 16 rfl rfl)
theorem dX2_step_137 : decode cX2_step 137 = .ok (.aload_n 0, 1) := dk_42 (dk_at dksX2_step_5 17 rfl rfl)
theorem dX2_step_138 : decode cX2_step 138 = .ok (.getfield 13, 3) := dk_180 0 13 (dk_at dksX2_step_5 18 rfl rfl)
theorem dX2_step_141 : decode cX2_step 141 = .ok (.iload_n 1, 1) := dk_27 (dk_at dksX2_step_5 21 rfl rfl)
theorem dX2_step_142 : decode cX2_step 142 = .ok (.bipush 12, 2) := dk_16 12 (dk_at dksX2_step_5 22 rfl rfl)
theorem dX2_step_144 : decode cX2_step 144 = .ok (.invokestatic 38, 3) := dk_184 0 38 (dk_at dksX2_step_6 0 rfl rfl)
theorem dX2_step_147 : decode cX2_step 147 = .ok (.iaload, 1) := dk_46 (dk_at dksX2_step_6 3 rfl rfl)
theorem dX2_step_148 : decode cX2_step 148 = .ok (.invokevirtual 51, 3) := dk_182 0 51 (dk_at dksX2_step_6 4 rfl rfl)
theorem dX2_step_151 : decode cX2_step 151 = .ok (.aload_n 0, 1) := dk_42 (dk_at dksX2_step_6 7 rfl rfl)
theorem dX2_step_152 : decode cX2_step 152 = .ok (.getfield 13, 3) := dk_180 0 13 (dk_at dksX2_step_6 8 rfl rfl)
theorem dX2_step_155 : decode cX2_step 155 = .ok (.iload_n 1, 1) := dk_27 (dk_at dksX2_step_6 11 rfl rfl)
theorem dX2_step_156 : decode cX2_step 156 = .ok (.iaload, 1) := dk_46 (dk_at dksX2_step_6 12 rfl rfl)
theorem dX2_step_157 : decode cX2_step 157 = .ok (.ixor, 1) := dk_130 (dk_at dksX2_step_6 13 rfl rfl)
theorem dX2_step_158 : decode cX2_step 158 = .ok (.istore_n 2, 1) := dk_61 (dk_at dksX2_step_6 14 rfl rfl)
theorem dX2_step_159 : decode cX2_step 159 = .ok (.aload_n 0, 1) := dk_42 (dk_at dksX2_step_6 15 rfl rfl)
theorem dX2_step_160 : decode cX2_step 160 = .ok (.aload_n 0, 1) := dk_42 (dk_at dksX2_step_6 16 rfl rfl)
theorem dX2_step_161 : decode cX2_step 161 = .ok (.getfield 16, 3) := dk_180 0 16 (dk_at dksX2_step_6 17 rfl rfl)
theorem dX2_step_164 : decode cX2_step 164 = .ok (.iconst 1, 1) := dk_4 (dk_at dksX2_step_6 20 rfl rfl)
theorem dX2_step_165 : decode cX2_step 165 = .ok (.iadd, 1) := dk_96 (dk_at dksX2_step_6 21 rfl rfl)
theorem dX2_step_166 : decode cX2_step 166 = .ok (.invokestatic 54, 3) := dk_184 0 54 (dk_at dksX2_step_7 0 rfl rfl)
theorem dX2_step_169 : decode cX2_step 169 = .ok (.putfield 16, 3) := dk_181 0 16 (dk_at dksX2_step_7 3 rfl rfl)
theorem dX2_step_172 : decode cX2_step 172 = .ok (.iload_n 2, 1) := dk_28 (dk_at dksX2_step_7 6 rfl rfl)
theorem dX2_step_173 : decode cX2_step 173 = .ok (.ireturn, 1) := dk_172 (dk_at dksX2_step_7 7 rfl rfl)
abbrev cX2_mod512 : ByteArray := prog_3_method_11_code
def yX2_mod512 : MethodName := ⟨RX2, "mod512", "(I)I"⟩
def dkwX2_mod512_0 : List UInt8 := [26, 17, 1, 255, 126, 172]
abbrev dktX2_mod512_0 : List UInt8 := dkwX2_mod512_0 ++ []
theorem dksX2_mod512_0 : cX2_mod512.data.toList.drop 0 = dktX2_mod512_0 := by decide +kernel
theorem dX2_mod512_0 : decode cX2_mod512 0 = .ok (.iload_n 0, 1) := dk_26 (dk_at dksX2_mod512_0 0 rfl rfl)
theorem dX2_mod512_1 : decode cX2_mod512 1 = .ok (.sipush 511, 3) := dk_17 1 255 (dk_at dksX2_mod512_0 1 rfl rfl)
theorem dX2_mod512_4 : decode cX2_mod512 4 = .ok (.iand, 1) := dk_126 (dk_at dksX2_mod512_0 4 rfl rfl)
theorem dX2_mod512_5 : decode cX2_mod512 5 = .ok (.ireturn, 1) := dk_172 (dk_at dksX2_mod512_0 5 rfl rfl)
abbrev cX2_dim : ByteArray := prog_3_method_12_code
def yX2_dim : MethodName := ⟨RX2, "dim", "(II)I"⟩
def dkwX2_dim_0 : List UInt8 := [26, 27, 100, 184, 0, 34, 172]
abbrev dktX2_dim_0 : List UInt8 := dkwX2_dim_0 ++ []
theorem dksX2_dim_0 : cX2_dim.data.toList.drop 0 = dktX2_dim_0 := by decide +kernel
theorem dX2_dim_0 : decode cX2_dim 0 = .ok (.iload_n 0, 1) := dk_26 (dk_at dksX2_dim_0 0 rfl rfl)
theorem dX2_dim_1 : decode cX2_dim 1 = .ok (.iload_n 1, 1) := dk_27 (dk_at dksX2_dim_0 1 rfl rfl)
theorem dX2_dim_2 : decode cX2_dim 2 = .ok (.isub, 1) := dk_100 (dk_at dksX2_dim_0 2 rfl rfl)
theorem dX2_dim_3 : decode cX2_dim 3 = .ok (.invokestatic 34, 3) := dk_184 0 34 (dk_at dksX2_dim_0 3 rfl rfl)
theorem dX2_dim_6 : decode cX2_dim 6 = .ok (.ireturn, 1) := dk_172 (dk_at dksX2_dim_0 6 rfl rfl)
abbrev cX2_g1 : ByteArray := prog_3_method_4_code
def yX2_g1 : MethodName := ⟨RX2, "g1", "(III)I"⟩
def dkwX2_g1_0 : List UInt8 := [27, 16, 10, 184, 0, 27, 29, 16, 23, 184, 0, 27, 130, 28, 16, 8, 184, 0, 27, 96, 172]
abbrev dktX2_g1_0 : List UInt8 := dkwX2_g1_0 ++ []
theorem dksX2_g1_0 : cX2_g1.data.toList.drop 0 = dktX2_g1_0 := by decide +kernel
theorem dX2_g1_0 : decode cX2_g1 0 = .ok (.iload_n 1, 1) := dk_27 (dk_at dksX2_g1_0 0 rfl rfl)
theorem dX2_g1_1 : decode cX2_g1 1 = .ok (.bipush 10, 2) := dk_16 10 (dk_at dksX2_g1_0 1 rfl rfl)
theorem dX2_g1_3 : decode cX2_g1 3 = .ok (.invokestatic 27, 3) := dk_184 0 27 (dk_at dksX2_g1_0 3 rfl rfl)
theorem dX2_g1_6 : decode cX2_g1 6 = .ok (.iload_n 3, 1) := dk_29 (dk_at dksX2_g1_0 6 rfl rfl)
theorem dX2_g1_7 : decode cX2_g1 7 = .ok (.bipush 23, 2) := dk_16 23 (dk_at dksX2_g1_0 7 rfl rfl)
theorem dX2_g1_9 : decode cX2_g1 9 = .ok (.invokestatic 27, 3) := dk_184 0 27 (dk_at dksX2_g1_0 9 rfl rfl)
theorem dX2_g1_12 : decode cX2_g1 12 = .ok (.ixor, 1) := dk_130 (dk_at dksX2_g1_0 12 rfl rfl)
theorem dX2_g1_13 : decode cX2_g1 13 = .ok (.iload_n 2, 1) := dk_28 (dk_at dksX2_g1_0 13 rfl rfl)
theorem dX2_g1_14 : decode cX2_g1 14 = .ok (.bipush 8, 2) := dk_16 8 (dk_at dksX2_g1_0 14 rfl rfl)
theorem dX2_g1_16 : decode cX2_g1 16 = .ok (.invokestatic 27, 3) := dk_184 0 27 (dk_at dksX2_g1_0 16 rfl rfl)
theorem dX2_g1_19 : decode cX2_g1 19 = .ok (.iadd, 1) := dk_96 (dk_at dksX2_g1_0 19 rfl rfl)
theorem dX2_g1_20 : decode cX2_g1 20 = .ok (.ireturn, 1) := dk_172 (dk_at dksX2_g1_0 20 rfl rfl)
abbrev cX2_rotateRight : ByteArray := prog_3_method_7_code
def yX2_rotateRight : MethodName := ⟨RX2, "rotateRight", "(II)I"⟩
def dkwX2_rotateRight_0 : List UInt8 := [26, 27, 124, 26, 27, 116, 120, 128, 172]
abbrev dktX2_rotateRight_0 : List UInt8 := dkwX2_rotateRight_0 ++ []
theorem dksX2_rotateRight_0 : cX2_rotateRight.data.toList.drop 0 = dktX2_rotateRight_0 := by decide +kernel
theorem dX2_rotateRight_0 : decode cX2_rotateRight 0 = .ok (.iload_n 0, 1) := dk_26 (dk_at dksX2_rotateRight_0 0 rfl rfl)
theorem dX2_rotateRight_1 : decode cX2_rotateRight 1 = .ok (.iload_n 1, 1) := dk_27 (dk_at dksX2_rotateRight_0 1 rfl rfl)
theorem dX2_rotateRight_2 : decode cX2_rotateRight 2 = .ok (.iushr, 1) := dk_124 (dk_at dksX2_rotateRight_0 2 rfl rfl)
theorem dX2_rotateRight_3 : decode cX2_rotateRight 3 = .ok (.iload_n 0, 1) := dk_26 (dk_at dksX2_rotateRight_0 3 rfl rfl)
theorem dX2_rotateRight_4 : decode cX2_rotateRight 4 = .ok (.iload_n 1, 1) := dk_27 (dk_at dksX2_rotateRight_0 4 rfl rfl)
theorem dX2_rotateRight_5 : decode cX2_rotateRight 5 = .ok (.ineg, 1) := dk_116 (dk_at dksX2_rotateRight_0 5 rfl rfl)
theorem dX2_rotateRight_6 : decode cX2_rotateRight 6 = .ok (.ishl, 1) := dk_120 (dk_at dksX2_rotateRight_0 6 rfl rfl)
theorem dX2_rotateRight_7 : decode cX2_rotateRight 7 = .ok (.ior, 1) := dk_128 (dk_at dksX2_rotateRight_0 7 rfl rfl)
theorem dX2_rotateRight_8 : decode cX2_rotateRight 8 = .ok (.ireturn, 1) := dk_172 (dk_at dksX2_rotateRight_0 8 rfl rfl)
abbrev cX2_h1 : ByteArray := prog_3_method_8_code
def yX2_h1 : MethodName := ⟨RX2, "h1", "(I)I"⟩
def dkwX2_h1_1 : List UInt8 := [17, 1, 0, 96, 46, 96, 172]
abbrev dktX2_h1_1 : List UInt8 := dkwX2_h1_1 ++ []
def dkwX2_h1_0 : List UInt8 := [42, 180, 0, 13, 27, 17, 0, 255, 126, 46, 42, 180, 0, 13, 27, 16, 16, 122, 17, 0, 255, 126]
abbrev dktX2_h1_0 : List UInt8 := dkwX2_h1_0 ++ dktX2_h1_1
theorem dksX2_h1_0 : cX2_h1.data.toList.drop 0 = dktX2_h1_0 := by decide +kernel
theorem dksX2_h1_1 : cX2_h1.data.toList.drop 22 = dktX2_h1_1 := dk_seg dksX2_h1_0 22 rfl rfl
theorem dX2_h1_0 : decode cX2_h1 0 = .ok (.aload_n 0, 1) := dk_42 (dk_at dksX2_h1_0 0 rfl rfl)
theorem dX2_h1_1 : decode cX2_h1 1 = .ok (.getfield 13, 3) := dk_180 0 13 (dk_at dksX2_h1_0 1 rfl rfl)
theorem dX2_h1_4 : decode cX2_h1 4 = .ok (.iload_n 1, 1) := dk_27 (dk_at dksX2_h1_0 4 rfl rfl)
theorem dX2_h1_5 : decode cX2_h1 5 = .ok (.sipush 255, 3) := dk_17 0 255 (dk_at dksX2_h1_0 5 rfl rfl)
theorem dX2_h1_8 : decode cX2_h1 8 = .ok (.iand, 1) := dk_126 (dk_at dksX2_h1_0 8 rfl rfl)
theorem dX2_h1_9 : decode cX2_h1 9 = .ok (.iaload, 1) := dk_46 (dk_at dksX2_h1_0 9 rfl rfl)
theorem dX2_h1_10 : decode cX2_h1 10 = .ok (.aload_n 0, 1) := dk_42 (dk_at dksX2_h1_0 10 rfl rfl)
theorem dX2_h1_11 : decode cX2_h1 11 = .ok (.getfield 13, 3) := dk_180 0 13 (dk_at dksX2_h1_0 11 rfl rfl)
theorem dX2_h1_14 : decode cX2_h1 14 = .ok (.iload_n 1, 1) := dk_27 (dk_at dksX2_h1_0 14 rfl rfl)
theorem dX2_h1_15 : decode cX2_h1 15 = .ok (.bipush 16, 2) := dk_16 16 (dk_at dksX2_h1_0 15 rfl rfl)
theorem dX2_h1_17 : decode cX2_h1 17 = .ok (.ishr, 1) := dk_122 (dk_at dksX2_h1_0 17 rfl rfl)
theorem dX2_h1_18 : decode cX2_h1 18 = .ok (.sipush 255, 3) := dk_17 0 255 (dk_at dksX2_h1_0 18 rfl rfl)
theorem dX2_h1_21 : decode cX2_h1 21 = .ok (.iand, 1) := dk_126 (dk_at dksX2_h1_0 21 rfl rfl)
theorem dX2_h1_22 : decode cX2_h1 22 = .ok (.sipush 256, 3) := dk_17 1 0 (dk_at dksX2_h1_1 0 rfl rfl)
theorem dX2_h1_25 : decode cX2_h1 25 = .ok (.iadd, 1) := dk_96 (dk_at dksX2_h1_1 3 rfl rfl)
theorem dX2_h1_26 : decode cX2_h1 26 = .ok (.iaload, 1) := dk_46 (dk_at dksX2_h1_1 4 rfl rfl)
theorem dX2_h1_27 : decode cX2_h1 27 = .ok (.iadd, 1) := dk_96 (dk_at dksX2_h1_1 5 rfl rfl)
theorem dX2_h1_28 : decode cX2_h1 28 = .ok (.ireturn, 1) := dk_172 (dk_at dksX2_h1_1 6 rfl rfl)
abbrev cX2_g2 : ByteArray := prog_3_method_5_code
def yX2_g2 : MethodName := ⟨RX2, "g2", "(III)I"⟩
def dkwX2_g2_0 : List UInt8 := [27, 16, 10, 184, 0, 31, 29, 16, 23, 184, 0, 31, 130, 28, 16, 8, 184, 0, 31, 96, 172]
abbrev dktX2_g2_0 : List UInt8 := dkwX2_g2_0 ++ []
theorem dksX2_g2_0 : cX2_g2.data.toList.drop 0 = dktX2_g2_0 := by decide +kernel
theorem dX2_g2_0 : decode cX2_g2 0 = .ok (.iload_n 1, 1) := dk_27 (dk_at dksX2_g2_0 0 rfl rfl)
theorem dX2_g2_1 : decode cX2_g2 1 = .ok (.bipush 10, 2) := dk_16 10 (dk_at dksX2_g2_0 1 rfl rfl)
theorem dX2_g2_3 : decode cX2_g2 3 = .ok (.invokestatic 31, 3) := dk_184 0 31 (dk_at dksX2_g2_0 3 rfl rfl)
theorem dX2_g2_6 : decode cX2_g2 6 = .ok (.iload_n 3, 1) := dk_29 (dk_at dksX2_g2_0 6 rfl rfl)
theorem dX2_g2_7 : decode cX2_g2 7 = .ok (.bipush 23, 2) := dk_16 23 (dk_at dksX2_g2_0 7 rfl rfl)
theorem dX2_g2_9 : decode cX2_g2 9 = .ok (.invokestatic 31, 3) := dk_184 0 31 (dk_at dksX2_g2_0 9 rfl rfl)
theorem dX2_g2_12 : decode cX2_g2 12 = .ok (.ixor, 1) := dk_130 (dk_at dksX2_g2_0 12 rfl rfl)
theorem dX2_g2_13 : decode cX2_g2 13 = .ok (.iload_n 2, 1) := dk_28 (dk_at dksX2_g2_0 13 rfl rfl)
theorem dX2_g2_14 : decode cX2_g2 14 = .ok (.bipush 8, 2) := dk_16 8 (dk_at dksX2_g2_0 14 rfl rfl)
theorem dX2_g2_16 : decode cX2_g2 16 = .ok (.invokestatic 31, 3) := dk_184 0 31 (dk_at dksX2_g2_0 16 rfl rfl)
theorem dX2_g2_19 : decode cX2_g2 19 = .ok (.iadd, 1) := dk_96 (dk_at dksX2_g2_0 19 rfl rfl)
theorem dX2_g2_20 : decode cX2_g2 20 = .ok (.ireturn, 1) := dk_172 (dk_at dksX2_g2_0 20 rfl rfl)
abbrev cX2_rotateLeft : ByteArray := prog_3_method_6_code
def yX2_rotateLeft : MethodName := ⟨RX2, "rotateLeft", "(II)I"⟩
def dkwX2_rotateLeft_0 : List UInt8 := [26, 27, 120, 26, 27, 116, 124, 128, 172]
abbrev dktX2_rotateLeft_0 : List UInt8 := dkwX2_rotateLeft_0 ++ []
theorem dksX2_rotateLeft_0 : cX2_rotateLeft.data.toList.drop 0 = dktX2_rotateLeft_0 := by decide +kernel
theorem dX2_rotateLeft_0 : decode cX2_rotateLeft 0 = .ok (.iload_n 0, 1) := dk_26 (dk_at dksX2_rotateLeft_0 0 rfl rfl)
theorem dX2_rotateLeft_1 : decode cX2_rotateLeft 1 = .ok (.iload_n 1, 1) := dk_27 (dk_at dksX2_rotateLeft_0 1 rfl rfl)
theorem dX2_rotateLeft_2 : decode cX2_rotateLeft 2 = .ok (.ishl, 1) := dk_120 (dk_at dksX2_rotateLeft_0 2 rfl rfl)
theorem dX2_rotateLeft_3 : decode cX2_rotateLeft 3 = .ok (.iload_n 0, 1) := dk_26 (dk_at dksX2_rotateLeft_0 3 rfl rfl)
theorem dX2_rotateLeft_4 : decode cX2_rotateLeft 4 = .ok (.iload_n 1, 1) := dk_27 (dk_at dksX2_rotateLeft_0 4 rfl rfl)
theorem dX2_rotateLeft_5 : decode cX2_rotateLeft 5 = .ok (.ineg, 1) := dk_116 (dk_at dksX2_rotateLeft_0 5 rfl rfl)
theorem dX2_rotateLeft_6 : decode cX2_rotateLeft 6 = .ok (.iushr, 1) := dk_124 (dk_at dksX2_rotateLeft_0 6 rfl rfl)
theorem dX2_rotateLeft_7 : decode cX2_rotateLeft 7 = .ok (.ior, 1) := dk_128 (dk_at dksX2_rotateLeft_0 7 rfl rfl)
theorem dX2_rotateLeft_8 : decode cX2_rotateLeft 8 = .ok (.ireturn, 1) := dk_172 (dk_at dksX2_rotateLeft_0 8 rfl rfl)
abbrev cX2_h2 : ByteArray := prog_3_method_9_code
def yX2_h2 : MethodName := ⟨RX2, "h2", "(I)I"⟩
def dkwX2_h2_1 : List UInt8 := [17, 1, 0, 96, 46, 96, 172]
abbrev dktX2_h2_1 : List UInt8 := dkwX2_h2_1 ++ []
def dkwX2_h2_0 : List UInt8 := [42, 180, 0, 7, 27, 17, 0, 255, 126, 46, 42, 180, 0, 7, 27, 16, 16, 122, 17, 0, 255, 126]
abbrev dktX2_h2_0 : List UInt8 := dkwX2_h2_0 ++ dktX2_h2_1
theorem dksX2_h2_0 : cX2_h2.data.toList.drop 0 = dktX2_h2_0 := by decide +kernel
theorem dksX2_h2_1 : cX2_h2.data.toList.drop 22 = dktX2_h2_1 := dk_seg dksX2_h2_0 22 rfl rfl
theorem dX2_h2_0 : decode cX2_h2 0 = .ok (.aload_n 0, 1) := dk_42 (dk_at dksX2_h2_0 0 rfl rfl)
theorem dX2_h2_1 : decode cX2_h2 1 = .ok (.getfield 7, 3) := dk_180 0 7 (dk_at dksX2_h2_0 1 rfl rfl)
theorem dX2_h2_4 : decode cX2_h2 4 = .ok (.iload_n 1, 1) := dk_27 (dk_at dksX2_h2_0 4 rfl rfl)
theorem dX2_h2_5 : decode cX2_h2 5 = .ok (.sipush 255, 3) := dk_17 0 255 (dk_at dksX2_h2_0 5 rfl rfl)
theorem dX2_h2_8 : decode cX2_h2 8 = .ok (.iand, 1) := dk_126 (dk_at dksX2_h2_0 8 rfl rfl)
theorem dX2_h2_9 : decode cX2_h2 9 = .ok (.iaload, 1) := dk_46 (dk_at dksX2_h2_0 9 rfl rfl)
theorem dX2_h2_10 : decode cX2_h2 10 = .ok (.aload_n 0, 1) := dk_42 (dk_at dksX2_h2_0 10 rfl rfl)
theorem dX2_h2_11 : decode cX2_h2 11 = .ok (.getfield 7, 3) := dk_180 0 7 (dk_at dksX2_h2_0 11 rfl rfl)
theorem dX2_h2_14 : decode cX2_h2 14 = .ok (.iload_n 1, 1) := dk_27 (dk_at dksX2_h2_0 14 rfl rfl)
theorem dX2_h2_15 : decode cX2_h2 15 = .ok (.bipush 16, 2) := dk_16 16 (dk_at dksX2_h2_0 15 rfl rfl)
theorem dX2_h2_17 : decode cX2_h2 17 = .ok (.ishr, 1) := dk_122 (dk_at dksX2_h2_0 17 rfl rfl)
theorem dX2_h2_18 : decode cX2_h2 18 = .ok (.sipush 255, 3) := dk_17 0 255 (dk_at dksX2_h2_0 18 rfl rfl)
theorem dX2_h2_21 : decode cX2_h2 21 = .ok (.iand, 1) := dk_126 (dk_at dksX2_h2_0 21 rfl rfl)
theorem dX2_h2_22 : decode cX2_h2 22 = .ok (.sipush 256, 3) := dk_17 1 0 (dk_at dksX2_h2_1 0 rfl rfl)
theorem dX2_h2_25 : decode cX2_h2 25 = .ok (.iadd, 1) := dk_96 (dk_at dksX2_h2_1 3 rfl rfl)
theorem dX2_h2_26 : decode cX2_h2 26 = .ok (.iaload, 1) := dk_46 (dk_at dksX2_h2_1 4 rfl rfl)
theorem dX2_h2_27 : decode cX2_h2 27 = .ok (.iadd, 1) := dk_96 (dk_at dksX2_h2_1 5 rfl rfl)
theorem dX2_h2_28 : decode cX2_h2 28 = .ok (.ireturn, 1) := dk_172 (dk_at dksX2_h2_1 6 rfl rfl)
abbrev cX2_mod1024 : ByteArray := prog_3_method_10_code
def yX2_mod1024 : MethodName := ⟨RX2, "mod1024", "(I)I"⟩
def dkwX2_mod1024_0 : List UInt8 := [26, 17, 3, 255, 126, 172]
abbrev dktX2_mod1024_0 : List UInt8 := dkwX2_mod1024_0 ++ []
theorem dksX2_mod1024_0 : cX2_mod1024.data.toList.drop 0 = dktX2_mod1024_0 := by decide +kernel
theorem dX2_mod1024_0 : decode cX2_mod1024 0 = .ok (.iload_n 0, 1) := dk_26 (dk_at dksX2_mod1024_0 0 rfl rfl)
theorem dX2_mod1024_1 : decode cX2_mod1024 1 = .ok (.sipush 1023, 3) := dk_17 3 255 (dk_at dksX2_mod1024_0 1 rfl rfl)
theorem dX2_mod1024_4 : decode cX2_mod1024 4 = .ok (.iand, 1) := dk_126 (dk_at dksX2_mod1024_0 4 rfl rfl)
theorem dX2_mod1024_5 : decode cX2_mod1024 5 = .ok (.ireturn, 1) := dk_172 (dk_at dksX2_mod1024_0 5 rfl rfl)
abbrev cX2_returnByte : ByteArray := prog_3_method_19_code
def yX2_returnByte : MethodName := ⟨RX2, "returnByte", "(B)B"⟩
def dkwX2_returnByte_0 : List UInt8 := [27, 42, 182, 0, 127, 130, 145, 172]
abbrev dktX2_returnByte_0 : List UInt8 := dkwX2_returnByte_0 ++ []
theorem dksX2_returnByte_0 : cX2_returnByte.data.toList.drop 0 = dktX2_returnByte_0 := by decide +kernel
theorem dX2_returnByte_0 : decode cX2_returnByte 0 = .ok (.iload_n 1, 1) := dk_27 (dk_at dksX2_returnByte_0 0 rfl rfl)
theorem dX2_returnByte_1 : decode cX2_returnByte 1 = .ok (.aload_n 0, 1) := dk_42 (dk_at dksX2_returnByte_0 1 rfl rfl)
theorem dX2_returnByte_2 : decode cX2_returnByte 2 = .ok (.invokevirtual 127, 3) := dk_182 0 127 (dk_at dksX2_returnByte_0 2 rfl rfl)
theorem dX2_returnByte_5 : decode cX2_returnByte 5 = .ok (.ixor, 1) := dk_130 (dk_at dksX2_returnByte_0 5 rfl rfl)
theorem dX2_returnByte_6 : decode cX2_returnByte 6 = .ok (.i2b, 1) := dk_145 (dk_at dksX2_returnByte_0 6 rfl rfl)
theorem dX2_returnByte_7 : decode cX2_returnByte 7 = .ok (.ireturn, 1) := dk_172 (dk_at dksX2_returnByte_0 7 rfl rfl)
abbrev cX2_reset : ByteArray := prog_3_method_18_code
def yX2_reset : MethodName := ⟨RX2, "reset", "()V"⟩
theorem dX2_reset_0 : decode cX2_reset 0 = .ok (.aload_n 0, 1) := by decide +kernel
theorem dX2_reset_1 : decode cX2_reset 1 = .ok (.invokevirtual 105, 3) := by decide +kernel
theorem dX2_reset_4 : decode cX2_reset 4 = .ok (.return_, 1) := by decide +kernel
abbrev cX2_init : ByteArray := prog_3_method_14_code
def yX2_init : MethodName := ⟨RX2, "init", "()V"⟩
def dkwX2_init_12 : List UInt8 := [42, 180, 0, 13, 28, 42, 182, 0, 84, 79, 132, 2, 1, 167, 255, 236, 42, 3, 181, 0, 16, 177]
abbrev dktX2_init_12 : List UInt8 := dkwX2_init_12 ++ []
def dkwX2_init_11 : List UInt8 := [180, 0, 7, 28, 42, 182, 0, 84, 79, 132, 2, 1, 167, 255, 236, 3, 61, 28, 17, 2, 0, 162, 0, 19]
abbrev dktX2_init_11 : List UInt8 := dkwX2_init_11 ++ dktX2_init_12
def dkwX2_init_10 : List UInt8 := [17, 3, 0, 42, 180, 0, 13, 3, 17, 2, 0, 184, 0, 72, 3, 61, 28, 17, 2, 0, 162, 0, 19, 42]
abbrev dktX2_init_10 : List UInt8 := dkwX2_init_10 ++ dktX2_init_11
def dkwX2_init_9 : List UInt8 := [132, 2, 1, 167, 255, 209, 43, 17, 1, 0, 42, 180, 0, 7, 3, 17, 2, 0, 184, 0, 72, 43]
abbrev dktX2_init_9 : List UInt8 := dkwX2_init_9 ++ dktX2_init_10
def dkwX2_init_8 : List UInt8 := [100, 46, 96, 43, 28, 16, 15, 100, 46, 184, 0, 81, 96, 43, 28, 16, 16, 100, 46, 96, 28, 96, 79]
abbrev dktX2_init_8 : List UInt8 := dkwX2_init_8 ++ dktX2_init_9
def dkwX2_init_7 : List UInt8 := [16, 16, 61, 28, 17, 5, 0, 162, 0, 46, 43, 28, 43, 28, 5, 100, 46, 184, 0, 78, 43, 28, 16, 7]
abbrev dktX2_init_7 : List UInt8 := dkwX2_init_7 ++ dktX2_init_8
def dkwX2_init_6 : List UInt8 := [28, 6, 126, 104, 120, 128, 79, 132, 2, 1, 167, 255, 210, 43, 16, 8, 43, 16, 12, 7, 184, 0, 72]
abbrev dktX2_init_6 : List UInt8 := dkwX2_init_6 ++ dktX2_init_7
def dkwX2_init_5 : List UInt8 := [162, 0, 37, 43, 28, 5, 122, 16, 8, 96, 92, 46, 42, 180, 0, 67, 28, 51, 17, 0, 255, 126, 16, 8]
abbrev dktX2_init_5 : List UInt8 := dkwX2_init_5 ++ dktX2_init_6
def dkwX2_init_4 : List UInt8 := [43, 3, 43, 7, 7, 184, 0, 72, 3, 61, 28, 42, 180, 0, 67, 190, 162, 0, 43, 28, 16, 16]
abbrev dktX2_init_4 : List UInt8 := dkwX2_init_4 ++ dktX2_init_5
def dkwX2_init_3 : List UInt8 := [180, 0, 57, 28, 51, 17, 0, 255, 126, 16, 8, 28, 6, 126, 104, 120, 128, 79, 132, 2, 1, 167, 255, 222]
abbrev dktX2_init_3 : List UInt8 := dkwX2_init_3 ++ dktX2_init_4
def dkwX2_init_2 : List UInt8 := [181, 0, 16, 17, 5, 0, 188, 10, 76, 3, 61, 28, 16, 16, 162, 0, 34, 43, 28, 5, 122, 92, 46, 42]
abbrev dktX2_init_2 : List UInt8 := dkwX2_init_2 ++ dktX2_init_3
def dkwX2_init_1 : List UInt8 := [190, 16, 16, 159, 0, 13, 187, 0, 60, 89, 18, 70, 183, 0, 64, 191, 42, 3, 181, 0, 24, 42, 3]
abbrev dktX2_init_1 : List UInt8 := dkwX2_init_1 ++ dktX2_init_2
def dkwX2_init_0 : List UInt8 := [42, 180, 0, 57, 190, 16, 16, 159, 0, 13, 187, 0, 60, 89, 18, 62, 183, 0, 64, 191, 42, 180, 0, 67]
abbrev dktX2_init_0 : List UInt8 := dkwX2_init_0 ++ dktX2_init_1
theorem dksX2_init_0 : cX2_init.data.toList.drop 0 = dktX2_init_0 := by decide +kernel
theorem dksX2_init_1 : cX2_init.data.toList.drop 24 = dktX2_init_1 := dk_seg dksX2_init_0 24 rfl rfl
theorem dksX2_init_2 : cX2_init.data.toList.drop 47 = dktX2_init_2 := dk_seg dksX2_init_1 23 rfl rfl
theorem dksX2_init_3 : cX2_init.data.toList.drop 71 = dktX2_init_3 := dk_seg dksX2_init_2 24 rfl rfl
theorem dksX2_init_4 : cX2_init.data.toList.drop 95 = dktX2_init_4 := dk_seg dksX2_init_3 24 rfl rfl
theorem dksX2_init_5 : cX2_init.data.toList.drop 117 = dktX2_init_5 := dk_seg dksX2_init_4 22 rfl rfl
theorem dksX2_init_6 : cX2_init.data.toList.drop 141 = dktX2_init_6 := dk_seg dksX2_init_5 24 rfl rfl
theorem dksX2_init_7 : cX2_init.data.toList.drop 164 = dktX2_init_7 := dk_seg dksX2_init_6 23 rfl rfl
theorem dksX2_init_8 : cX2_init.data.toList.drop 188 = dktX2_init_8 := dk_seg dksX2_init_7 24 rfl rfl
theorem dksX2_init_9 : cX2_init.data.toList.drop 211 = dktX2_init_9 := dk_seg dksX2_init_8 23 rfl rfl
theorem dksX2_init_10 : cX2_init.data.toList.drop 233 = dktX2_init_10 := dk_seg dksX2_init_9 22 rfl rfl
theorem dksX2_init_11 : cX2_init.data.toList.drop 257 = dktX2_init_11 := dk_seg dksX2_init_10 24 rfl rfl
theorem dksX2_init_12 : cX2_init.data.toList.drop 281 = dktX2_init_12 := dk_seg dksX2_init_11 24 rfl rfl
theorem dX2_init_0 : decode cX2_init 0 = .ok (.aload_n 0, 1) := dk_42 (dk_at dksX2_init_0 0 rfl rfl)
theorem dX2_init_1 : decode cX2_init 1 = .ok (.getfield 57, 3) := dk_180 0 57 (dk_at dksX2_init_0 1 rfl rfl)
theorem dX2_init_4 : decode cX2_init 4 = .ok (.arraylength, 1) := dk_190 (dk_at dksX2_init_0 4 rfl rfl)
theorem dX2_init_5 : decode cX2_init 5 = .ok (.bipush 16, 2) := dk_16 16 (dk_at dksX2_init_0 5 rfl rfl)
theorem dX2_init_7 : decode cX2_init 7 = .ok (.if_icmp .eq 13, 3) := dk_159 0 13 (dk_at dksX2_init_0 7 rfl rfl)
theorem dX2_init_10 : decode cX2_init 10 = .ok (.new 60, 3) := dk_187 0 60 (dk_at dksX2_init_0 10 rfl rfl)
theorem dX2_init_13 : decode cX2_init 13 = .ok (.dup, 1) := dk_89 (dk_at dksX2_init_0 13 rfl rfl)
theorem dX2_init_14 : decode cX2_init 14 = .ok (.ldc 62, 2) := dk_18 62 (dk_at dksX2_init_0 14 rfl rfl)
theorem dX2_init_16 : decode cX2_init 16 = .ok (.invokespecial 64, 3) := dk_183 0 64 (dk_at dksX2_init_0 16 rfl rfl)
theorem dX2_init_19 : decode cX2_init 19 = .ok (.athrow, 1) := dk_191 (dk_at dksX2_init_0 19 rfl rfl)
theorem dX2_init_20 : decode cX2_init 20 = .ok (.aload_n 0, 1) := dk_42 (dk_at dksX2_init_0 20 rfl rfl)
theorem dX2_init_21 : decode cX2_init 21 = .ok (.getfield 67, 3) := dk_180 0 67 (dk_at dksX2_init_0 21 rfl rfl)
theorem dX2_init_24 : decode cX2_init 24 = .ok (.arraylength, 1) := dk_190 (dk_at dksX2_init_1 0 rfl rfl)
theorem dX2_init_25 : decode cX2_init 25 = .ok (.bipush 16, 2) := dk_16 16 (dk_at dksX2_init_1 1 rfl rfl)
theorem dX2_init_27 : decode cX2_init 27 = .ok (.if_icmp .eq 13, 3) := dk_159 0 13 (dk_at dksX2_init_1 3 rfl rfl)
theorem dX2_init_30 : decode cX2_init 30 = .ok (.new 60, 3) := dk_187 0 60 (dk_at dksX2_init_1 6 rfl rfl)
theorem dX2_init_33 : decode cX2_init 33 = .ok (.dup, 1) := dk_89 (dk_at dksX2_init_1 9 rfl rfl)
theorem dX2_init_34 : decode cX2_init 34 = .ok (.ldc 70, 2) := dk_18 70 (dk_at dksX2_init_1 10 rfl rfl)
theorem dX2_init_36 : decode cX2_init 36 = .ok (.invokespecial 64, 3) := dk_183 0 64 (dk_at dksX2_init_1 12 rfl rfl)
theorem dX2_init_39 : decode cX2_init 39 = .ok (.athrow, 1) := dk_191 (dk_at dksX2_init_1 15 rfl rfl)
theorem dX2_init_40 : decode cX2_init 40 = .ok (.aload_n 0, 1) := dk_42 (dk_at dksX2_init_1 16 rfl rfl)
theorem dX2_init_41 : decode cX2_init 41 = .ok (.iconst 0, 1) := dk_3 (dk_at dksX2_init_1 17 rfl rfl)
theorem dX2_init_42 : decode cX2_init 42 = .ok (.putfield 24, 3) := dk_181 0 24 (dk_at dksX2_init_1 18 rfl rfl)
theorem dX2_init_45 : decode cX2_init 45 = .ok (.aload_n 0, 1) := dk_42 (dk_at dksX2_init_1 21 rfl rfl)
theorem dX2_init_46 : decode cX2_init 46 = .ok (.iconst 0, 1) := dk_3 (dk_at dksX2_init_1 22 rfl rfl)
theorem dX2_init_47 : decode cX2_init 47 = .ok (.putfield 16, 3) := dk_181 0 16 (dk_at dksX2_init_2 0 rfl rfl)
theorem dX2_init_50 : decode cX2_init 50 = .ok (.sipush 1280, 3) := dk_17 5 0 (dk_at dksX2_init_2 3 rfl rfl)
theorem dX2_init_53 : decode cX2_init 53 = .ok (.newarray .int, 2) := dk_188_10 (dk_at dksX2_init_2 6 rfl rfl)
theorem dX2_init_55 : decode cX2_init 55 = .ok (.astore_n 1, 1) := dk_76 (dk_at dksX2_init_2 8 rfl rfl)
theorem dX2_init_56 : decode cX2_init 56 = .ok (.iconst 0, 1) := dk_3 (dk_at dksX2_init_2 9 rfl rfl)
theorem dX2_init_57 : decode cX2_init 57 = .ok (.istore_n 2, 1) := dk_61 (dk_at dksX2_init_2 10 rfl rfl)
theorem dX2_init_58 : decode cX2_init 58 = .ok (.iload_n 2, 1) := dk_28 (dk_at dksX2_init_2 11 rfl rfl)
theorem dX2_init_59 : decode cX2_init 59 = .ok (.bipush 16, 2) := dk_16 16 (dk_at dksX2_init_2 12 rfl rfl)
theorem dX2_init_61 : decode cX2_init 61 = .ok (.if_icmp .ge 34, 3) := dk_162 0 34 (dk_at dksX2_init_2 14 rfl rfl)
theorem dX2_init_64 : decode cX2_init 64 = .ok (.aload_n 1, 1) := dk_43 (dk_at dksX2_init_2 17 rfl rfl)
theorem dX2_init_65 : decode cX2_init 65 = .ok (.iload_n 2, 1) := dk_28 (dk_at dksX2_init_2 18 rfl rfl)
theorem dX2_init_66 : decode cX2_init 66 = .ok (.iconst 2, 1) := dk_5 (dk_at dksX2_init_2 19 rfl rfl)
theorem dX2_init_67 : decode cX2_init 67 = .ok (.ishr, 1) := dk_122 (dk_at dksX2_init_2 20 rfl rfl)
theorem dX2_init_68 : decode cX2_init 68 = .ok (.dup2, 1) := dk_92 (dk_at dksX2_init_2 21 rfl rfl)
theorem dX2_init_69 : decode cX2_init 69 = .ok (.iaload, 1) := dk_46 (dk_at dksX2_init_2 22 rfl rfl)
theorem dX2_init_70 : decode cX2_init 70 = .ok (.aload_n 0, 1) := dk_42 (dk_at dksX2_init_2 23 rfl rfl)
theorem dX2_init_71 : decode cX2_init 71 = .ok (.getfield 57, 3) := dk_180 0 57 (dk_at dksX2_init_3 0 rfl rfl)
theorem dX2_init_74 : decode cX2_init 74 = .ok (.iload_n 2, 1) := dk_28 (dk_at dksX2_init_3 3 rfl rfl)
theorem dX2_init_75 : decode cX2_init 75 = .ok (.baload, 1) := dk_51 (dk_at dksX2_init_3 4 rfl rfl)
theorem dX2_init_76 : decode cX2_init 76 = .ok (.sipush 255, 3) := dk_17 0 255 (dk_at dksX2_init_3 5 rfl rfl)
theorem dX2_init_79 : decode cX2_init 79 = .ok (.iand, 1) := dk_126 (dk_at dksX2_init_3 8 rfl rfl)
theorem dX2_init_80 : decode cX2_init 80 = .ok (.bipush 8, 2) := dk_16 8 (dk_at dksX2_init_3 9 rfl rfl)
theorem dX2_init_82 : decode cX2_init 82 = .ok (.iload_n 2, 1) := dk_28 (dk_at dksX2_init_3 11 rfl rfl)
theorem dX2_init_83 : decode cX2_init 83 = .ok (.iconst 3, 1) := dk_6 (dk_at dksX2_init_3 12 rfl rfl)
theorem dX2_init_84 : decode cX2_init 84 = .ok (.iand, 1) := dk_126 (dk_at dksX2_init_3 13 rfl rfl)
theorem dX2_init_85 : decode cX2_init 85 = .ok (.imul, 1) := dk_104 (dk_at dksX2_init_3 14 rfl rfl)
theorem dX2_init_86 : decode cX2_init 86 = .ok (.ishl, 1) := dk_120 (dk_at dksX2_init_3 15 rfl rfl)
theorem dX2_init_87 : decode cX2_init 87 = .ok (.ior, 1) := dk_128 (dk_at dksX2_init_3 16 rfl rfl)
theorem dX2_init_88 : decode cX2_init 88 = .ok (.iastore, 1) := dk_79 (dk_at dksX2_init_3 17 rfl rfl)
theorem dX2_init_89 : decode cX2_init 89 = .ok (.iinc 2 1, 3) := dk_132 2 1 (dk_at dksX2_init_3 18 rfl rfl)
theorem dX2_init_92 : decode cX2_init 92 = .ok (.goto (-34), 3) := dk_167 255 222 (dk_at dksX2_init_3 21 rfl rfl)
theorem dX2_init_95 : decode cX2_init 95 = .ok (.aload_n 1, 1) := dk_43 (dk_at dksX2_init_4 0 rfl rfl)
theorem dX2_init_96 : decode cX2_init 96 = .ok (.iconst 0, 1) := dk_3 (dk_at dksX2_init_4 1 rfl rfl)
theorem dX2_init_97 : decode cX2_init 97 = .ok (.aload_n 1, 1) := dk_43 (dk_at dksX2_init_4 2 rfl rfl)
theorem dX2_init_98 : decode cX2_init 98 = .ok (.iconst 4, 1) := dk_7 (dk_at dksX2_init_4 3 rfl rfl)
theorem dX2_init_99 : decode cX2_init 99 = .ok (.iconst 4, 1) := dk_7 (dk_at dksX2_init_4 4 rfl rfl)
theorem dX2_init_100 : decode cX2_init 100 = .ok (.invokestatic 72, 3) := dk_184 0 72 (dk_at dksX2_init_4 5 rfl rfl)
theorem dX2_init_103 : decode cX2_init 103 = .ok (.iconst 0, 1) := dk_3 (dk_at dksX2_init_4 8 rfl rfl)
theorem dX2_init_104 : decode cX2_init 104 = .ok (.istore_n 2, 1) := dk_61 (dk_at dksX2_init_4 9 rfl rfl)
theorem dX2_init_105 : decode cX2_init 105 = .ok (.iload_n 2, 1) := dk_28 (dk_at dksX2_init_4 10 rfl rfl)
theorem dX2_init_106 : decode cX2_init 106 = .ok (.aload_n 0, 1) := dk_42 (dk_at dksX2_init_4 11 rfl rfl)
theorem dX2_init_107 : decode cX2_init 107 = .ok (.getfield 67, 3) := dk_180 0 67 (dk_at dksX2_init_4 12 rfl rfl)
theorem dX2_init_110 : decode cX2_init 110 = .ok (.arraylength, 1) := dk_190 (dk_at dksX2_init_4 15 rfl rfl)
theorem dX2_init_111 : decode cX2_init 111 = .ok (.if_icmp .ge 43, 3) := dk_162 0 43 (dk_at dksX2_init_4 16 rfl rfl)
theorem dX2_init_114 : decode cX2_init 114 = .ok (.iload_n 2, 1) := dk_28 (dk_at dksX2_init_4 19 rfl rfl)
theorem dX2_init_115 : decode cX2_init 115 = .ok (.bipush 16, 2) := dk_16 16 (dk_at dksX2_init_4 20 rfl rfl)
theorem dX2_init_117 : decode cX2_init 117 = .ok (.if_icmp .ge 37, 3) := dk_162 0 37 (dk_at dksX2_init_5 0 rfl rfl)
theorem dX2_init_120 : decode cX2_init 120 = .ok (.aload_n 1, 1) := dk_43 (dk_at dksX2_init_5 3 rfl rfl)
theorem dX2_init_121 : decode cX2_init 121 = .ok (.iload_n 2, 1) := dk_28 (dk_at dksX2_init_5 4 rfl rfl)
theorem dX2_init_122 : decode cX2_init 122 = .ok (.iconst 2, 1) := dk_5 (dk_at dksX2_init_5 5 rfl rfl)
theorem dX2_init_123 : decode cX2_init 123 = .ok (.ishr, 1) := dk_122 (dk_at dksX2_init_5 6 rfl rfl)
theorem dX2_init_124 : decode cX2_init 124 = .ok (.bipush 8, 2) := dk_16 8 (dk_at dksX2_init_5 7 rfl rfl)
theorem dX2_init_126 : decode cX2_init 126 = .ok (.iadd, 1) := dk_96 (dk_at dksX2_init_5 9 rfl rfl)
theorem dX2_init_127 : decode cX2_init 127 = .ok (.dup2, 1) := dk_92 (dk_at dksX2_init_5 10 rfl rfl)
theorem dX2_init_128 : decode cX2_init 128 = .ok (.iaload, 1) := dk_46 (dk_at dksX2_init_5 11 rfl rfl)
theorem dX2_init_129 : decode cX2_init 129 = .ok (.aload_n 0, 1) := dk_42 (dk_at dksX2_init_5 12 rfl rfl)
theorem dX2_init_130 : decode cX2_init 130 = .ok (.getfield 67, 3) := dk_180 0 67 (dk_at dksX2_init_5 13 rfl rfl)
theorem dX2_init_133 : decode cX2_init 133 = .ok (.iload_n 2, 1) := dk_28 (dk_at dksX2_init_5 16 rfl rfl)
theorem dX2_init_134 : decode cX2_init 134 = .ok (.baload, 1) := dk_51 (dk_at dksX2_init_5 17 rfl rfl)
theorem dX2_init_135 : decode cX2_init 135 = .ok (.sipush 255, 3) := dk_17 0 255 (dk_at dksX2_init_5 18 rfl rfl)
theorem dX2_init_138 : decode cX2_init 138 = .ok (.iand, 1) := dk_126 (dk_at dksX2_init_5 21 rfl rfl)
theorem dX2_init_139 : decode cX2_init 139 = .ok (.bipush 8, 2) := dk_16 8 (dk_at dksX2_init_5 22 rfl rfl)
theorem dX2_init_141 : decode cX2_init 141 = .ok (.iload_n 2, 1) := dk_28 (dk_at dksX2_init_6 0 rfl rfl)
theorem dX2_init_142 : decode cX2_init 142 = .ok (.iconst 3, 1) := dk_6 (dk_at dksX2_init_6 1 rfl rfl)
theorem dX2_init_143 : decode cX2_init 143 = .ok (.iand, 1) := dk_126 (dk_at dksX2_init_6 2 rfl rfl)
theorem dX2_init_144 : decode cX2_init 144 = .ok (.imul, 1) := dk_104 (dk_at dksX2_init_6 3 rfl rfl)
theorem dX2_init_145 : decode cX2_init 145 = .ok (.ishl, 1) := dk_120 (dk_at dksX2_init_6 4 rfl rfl)
theorem dX2_init_146 : decode cX2_init 146 = .ok (.ior, 1) := dk_128 (dk_at dksX2_init_6 5 rfl rfl)
theorem dX2_init_147 : decode cX2_init 147 = .ok (.iastore, 1) := dk_79 (dk_at dksX2_init_6 6 rfl rfl)
theorem dX2_init_148 : decode cX2_init 148 = .ok (.iinc 2 1, 3) := dk_132 2 1 (dk_at dksX2_init_6 7 rfl rfl)
theorem dX2_init_151 : decode cX2_init 151 = .ok (.goto (-46), 3) := dk_167 255 210 (dk_at dksX2_init_6 10 rfl rfl)
theorem dX2_init_154 : decode cX2_init 154 = .ok (.aload_n 1, 1) := dk_43 (dk_at dksX2_init_6 13 rfl rfl)
theorem dX2_init_155 : decode cX2_init 155 = .ok (.bipush 8, 2) := dk_16 8 (dk_at dksX2_init_6 14 rfl rfl)
theorem dX2_init_157 : decode cX2_init 157 = .ok (.aload_n 1, 1) := dk_43 (dk_at dksX2_init_6 16 rfl rfl)
theorem dX2_init_158 : decode cX2_init 158 = .ok (.bipush 12, 2) := dk_16 12 (dk_at dksX2_init_6 17 rfl rfl)
theorem dX2_init_160 : decode cX2_init 160 = .ok (.iconst 4, 1) := dk_7 (dk_at dksX2_init_6 19 rfl rfl)
theorem dX2_init_161 : decode cX2_init 161 = .ok (.invokestatic 72, 3) := dk_184 0 72 (dk_at dksX2_init_6 20 rfl rfl)
theorem dX2_init_164 : decode cX2_init 164 = .ok (.bipush 16, 2) := dk_16 16 (dk_at dksX2_init_7 0 rfl rfl)
theorem dX2_init_166 : decode cX2_init 166 = .ok (.istore_n 2, 1) := dk_61 (dk_at dksX2_init_7 2 rfl rfl)
theorem dX2_init_167 : decode cX2_init 167 = .ok (.iload_n 2, 1) := dk_28 (dk_at dksX2_init_7 3 rfl rfl)
theorem dX2_init_168 : decode cX2_init 168 = .ok (.sipush 1280, 3) := dk_17 5 0 (dk_at dksX2_init_7 4 rfl rfl)
theorem dX2_init_171 : decode cX2_init 171 = .ok (.if_icmp .ge 46, 3) := dk_162 0 46 (dk_at dksX2_init_7 7 rfl rfl)
theorem dX2_init_174 : decode cX2_init 174 = .ok (.aload_n 1, 1) := dk_43 (dk_at dksX2_init_7 10 rfl rfl)
theorem dX2_init_175 : decode cX2_init 175 = .ok (.iload_n 2, 1) := dk_28 (dk_at dksX2_init_7 11 rfl rfl)
theorem dX2_init_176 : decode cX2_init 176 = .ok (.aload_n 1, 1) := dk_43 (dk_at dksX2_init_7 12 rfl rfl)
theorem dX2_init_177 : decode cX2_init 177 = .ok (.iload_n 2, 1) := dk_28 (dk_at dksX2_init_7 13 rfl rfl)
theorem dX2_init_178 : decode cX2_init 178 = .ok (.iconst 2, 1) := dk_5 (dk_at dksX2_init_7 14 rfl rfl)
theorem dX2_init_179 : decode cX2_init 179 = .ok (.isub, 1) := dk_100 (dk_at dksX2_init_7 15 rfl rfl)
theorem dX2_init_180 : decode cX2_init 180 = .ok (.iaload, 1) := dk_46 (dk_at dksX2_init_7 16 rfl rfl)
theorem dX2_init_181 : decode cX2_init 181 = .ok (.invokestatic 78, 3) := dk_184 0 78 (dk_at dksX2_init_7 17 rfl rfl)
theorem dX2_init_184 : decode cX2_init 184 = .ok (.aload_n 1, 1) := dk_43 (dk_at dksX2_init_7 20 rfl rfl)
theorem dX2_init_185 : decode cX2_init 185 = .ok (.iload_n 2, 1) := dk_28 (dk_at dksX2_init_7 21 rfl rfl)
theorem dX2_init_186 : decode cX2_init 186 = .ok (.bipush 7, 2) := dk_16 7 (dk_at dksX2_init_7 22 rfl rfl)
theorem dX2_init_188 : decode cX2_init 188 = .ok (.isub, 1) := dk_100 (dk_at dksX2_init_8 0 rfl rfl)
theorem dX2_init_189 : decode cX2_init 189 = .ok (.iaload, 1) := dk_46 (dk_at dksX2_init_8 1 rfl rfl)
theorem dX2_init_190 : decode cX2_init 190 = .ok (.iadd, 1) := dk_96 (dk_at dksX2_init_8 2 rfl rfl)
theorem dX2_init_191 : decode cX2_init 191 = .ok (.aload_n 1, 1) := dk_43 (dk_at dksX2_init_8 3 rfl rfl)
theorem dX2_init_192 : decode cX2_init 192 = .ok (.iload_n 2, 1) := dk_28 (dk_at dksX2_init_8 4 rfl rfl)
theorem dX2_init_193 : decode cX2_init 193 = .ok (.bipush 15, 2) := dk_16 15 (dk_at dksX2_init_8 5 rfl rfl)
theorem dX2_init_195 : decode cX2_init 195 = .ok (.isub, 1) := dk_100 (dk_at dksX2_init_8 7 rfl rfl)
theorem dX2_init_196 : decode cX2_init 196 = .ok (.iaload, 1) := dk_46 (dk_at dksX2_init_8 8 rfl rfl)
theorem dX2_init_197 : decode cX2_init 197 = .ok (.invokestatic 81, 3) := dk_184 0 81 (dk_at dksX2_init_8 9 rfl rfl)
theorem dX2_init_200 : decode cX2_init 200 = .ok (.iadd, 1) := dk_96 (dk_at dksX2_init_8 12 rfl rfl)
theorem dX2_init_201 : decode cX2_init 201 = .ok (.aload_n 1, 1) := dk_43 (dk_at dksX2_init_8 13 rfl rfl)
theorem dX2_init_202 : decode cX2_init 202 = .ok (.iload_n 2, 1) := dk_28 (dk_at dksX2_init_8 14 rfl rfl)
theorem dX2_init_203 : decode cX2_init 203 = .ok (.bipush 16, 2) := dk_16 16 (dk_at dksX2_init_8 15 rfl rfl)
theorem dX2_init_205 : decode cX2_init 205 = .ok (.isub, 1) := dk_100 (dk_at dksX2_init_8 17 rfl rfl)
theorem dX2_init_206 : decode cX2_init 206 = .ok (.iaload, 1) := dk_46 (dk_at dksX2_init_8 18 rfl rfl)
theorem dX2_init_207 : decode cX2_init 207 = .ok (.iadd, 1) := dk_96 (dk_at dksX2_init_8 19 rfl rfl)
theorem dX2_init_208 : decode cX2_init 208 = .ok (.iload_n 2, 1) := dk_28 (dk_at dksX2_init_8 20 rfl rfl)
theorem dX2_init_209 : decode cX2_init 209 = .ok (.iadd, 1) := dk_96 (dk_at dksX2_init_8 21 rfl rfl)
theorem dX2_init_210 : decode cX2_init 210 = .ok (.iastore, 1) := dk_79 (dk_at dksX2_init_8 22 rfl rfl)
theorem dX2_init_211 : decode cX2_init 211 = .ok (.iinc 2 1, 3) := dk_132 2 1 (dk_at dksX2_init_9 0 rfl rfl)
theorem dX2_init_214 : decode cX2_init 214 = .ok (.goto (-47), 3) := dk_167 255 209 (dk_at dksX2_init_9 3 rfl rfl)
theorem dX2_init_217 : decode cX2_init 217 = .ok (.aload_n 1, 1) := dk_43 (dk_at dksX2_init_9 6 rfl rfl)
theorem dX2_init_218 : decode cX2_init 218 = .ok (.sipush 256, 3) := dk_17 1 0 (dk_at dksX2_init_9 7 rfl rfl)
theorem dX2_init_221 : decode cX2_init 221 = .ok (.aload_n 0, 1) := dk_42 (dk_at dksX2_init_9 10 rfl rfl)
theorem dX2_init_222 : decode cX2_init 222 = .ok (.getfield 7, 3) := dk_180 0 7 (dk_at dksX2_init_9 11 rfl rfl)
theorem dX2_init_225 : decode cX2_init 225 = .ok (.iconst 0, 1) := dk_3 (dk_at dksX2_init_9 14 rfl rfl)
theorem dX2_init_226 : decode cX2_init 226 = .ok (.sipush 512, 3) := dk_17 2 0 (dk_at dksX2_init_9 15 rfl rfl)
theorem dX2_init_229 : decode cX2_init 229 = .ok (.invokestatic 72, 3) := dk_184 0 72 (dk_at dksX2_init_9 18 rfl rfl)
theorem dX2_init_232 : decode cX2_init 232 = .ok (.aload_n 1, 1) := dk_43 (dk_at dksX2_init_9 21 rfl rfl)
theorem dX2_init_233 : decode cX2_init 233 = .ok (.sipush 768, 3) := dk_17 3 0 (dk_at dksX2_init_10 0 rfl rfl)
theorem dX2_init_236 : decode cX2_init 236 = .ok (.aload_n 0, 1) := dk_42 (dk_at dksX2_init_10 3 rfl rfl)
theorem dX2_init_237 : decode cX2_init 237 = .ok (.getfield 13, 3) := dk_180 0 13 (dk_at dksX2_init_10 4 rfl rfl)
theorem dX2_init_240 : decode cX2_init 240 = .ok (.iconst 0, 1) := dk_3 (dk_at dksX2_init_10 7 rfl rfl)
theorem dX2_init_241 : decode cX2_init 241 = .ok (.sipush 512, 3) := dk_17 2 0 (dk_at dksX2_init_10 8 rfl rfl)
theorem dX2_init_244 : decode cX2_init 244 = .ok (.invokestatic 72, 3) := dk_184 0 72 (dk_at dksX2_init_10 11 rfl rfl)
theorem dX2_init_247 : decode cX2_init 247 = .ok (.iconst 0, 1) := dk_3 (dk_at dksX2_init_10 14 rfl rfl)
theorem dX2_init_248 : decode cX2_init 248 = .ok (.istore_n 2, 1) := dk_61 (dk_at dksX2_init_10 15 rfl rfl)
theorem dX2_init_249 : decode cX2_init 249 = .ok (.iload_n 2, 1) := dk_28 (dk_at dksX2_init_10 16 rfl rfl)
theorem dX2_init_250 : decode cX2_init 250 = .ok (.sipush 512, 3) := dk_17 2 0 (dk_at dksX2_init_10 17 rfl rfl)
theorem dX2_init_253 : decode cX2_init 253 = .ok (.if_icmp .ge 19, 3) := dk_162 0 19 (dk_at dksX2_init_10 20 rfl rfl)
theorem dX2_init_256 : decode cX2_init 256 = .ok (.aload_n 0, 1) := dk_42 (dk_at dksX2_init_10 23 rfl rfl)
theorem dX2_init_257 : decode cX2_init 257 = .ok (.getfield 7, 3) := dk_180 0 7 (dk_at dksX2_init_11 0 rfl rfl)
theorem dX2_init_260 : decode cX2_init 260 = .ok (.iload_n 2, 1) := dk_28 (dk_at dksX2_init_11 3 rfl rfl)
theorem dX2_init_261 : decode cX2_init 261 = .ok (.aload_n 0, 1) := dk_42 (dk_at dksX2_init_11 4 rfl rfl)
theorem dX2_init_262 : decode cX2_init 262 = .ok (.invokevirtual 84, 3) := dk_182 0 84 (dk_at dksX2_init_11 5 rfl rfl)
theorem dX2_init_265 : decode cX2_init 265 = .ok (.iastore, 1) := dk_79 (dk_at dksX2_init_11 8 rfl rfl)
theorem dX2_init_266 : decode cX2_init 266 = .ok (.iinc 2 1, 3) := dk_132 2 1 (dk_at dksX2_init_11 9 rfl rfl)
theorem dX2_init_269 : decode cX2_init 269 = .ok (.goto (-20), 3) := dk_167 255 236 (dk_at dksX2_init_11 12 rfl rfl)
theorem dX2_init_272 : decode cX2_init 272 = .ok (.iconst 0, 1) := dk_3 (dk_at dksX2_init_11 15 rfl rfl)
theorem dX2_init_273 : decode cX2_init 273 = .ok (.istore_n 2, 1) := dk_61 (dk_at dksX2_init_11 16 rfl rfl)
theorem dX2_init_274 : decode cX2_init 274 = .ok (.iload_n 2, 1) := dk_28 (dk_at dksX2_init_11 17 rfl rfl)
theorem dX2_init_275 : decode cX2_init 275 = .ok (.sipush 512, 3) := dk_17 2 0 (dk_at dksX2_init_11 18 rfl rfl)
theorem dX2_init_278 : decode cX2_init 278 = .ok (.if_icmp .ge 19, 3) := dk_162 0 19 (dk_at dksX2_init_11 21 rfl rfl)
theorem dX2_init_281 : decode cX2_init 281 = .ok (.aload_n 0, 1) := dk_42 (dk_at dksX2_init_12 0 rfl rfl)
theorem dX2_init_282 : decode cX2_init 282 = .ok (.getfield 13, 3) := dk_180 0 13 (dk_at dksX2_init_12 1 rfl rfl)
theorem dX2_init_285 : decode cX2_init 285 = .ok (.iload_n 2, 1) := dk_28 (dk_at dksX2_init_12 4 rfl rfl)
theorem dX2_init_286 : decode cX2_init 286 = .ok (.aload_n 0, 1) := dk_42 (dk_at dksX2_init_12 5 rfl rfl)
theorem dX2_init_287 : decode cX2_init 287 = .ok (.invokevirtual 84, 3) := dk_182 0 84 (dk_at dksX2_init_12 6 rfl rfl)
theorem dX2_init_290 : decode cX2_init 290 = .ok (.iastore, 1) := dk_79 (dk_at dksX2_init_12 9 rfl rfl)
theorem dX2_init_291 : decode cX2_init 291 = .ok (.iinc 2 1, 3) := dk_132 2 1 (dk_at dksX2_init_12 10 rfl rfl)
theorem dX2_init_294 : decode cX2_init 294 = .ok (.goto (-20), 3) := dk_167 255 236 (dk_at dksX2_init_12 13 rfl rfl)
theorem dX2_init_297 : decode cX2_init 297 = .ok (.aload_n 0, 1) := dk_42 (dk_at dksX2_init_12 16 rfl rfl)
theorem dX2_init_298 : decode cX2_init 298 = .ok (.iconst 0, 1) := dk_3 (dk_at dksX2_init_12 17 rfl rfl)
theorem dX2_init_299 : decode cX2_init 299 = .ok (.putfield 16, 3) := dk_181 0 16 (dk_at dksX2_init_12 18 rfl rfl)
theorem dX2_init_302 : decode cX2_init 302 = .ok (.return_, 1) := dk_177 (dk_at dksX2_init_12 21 rfl rfl)
abbrev cX2_f2 : ByteArray := prog_3_method_3_code
def yX2_f2 : MethodName := ⟨RX2, "f2", "(I)I"⟩
def dkwX2_f2_0 : List UInt8 := [26, 16, 17, 184, 0, 27, 26, 16, 19, 184, 0, 27, 130, 26, 16, 10, 124, 130, 172]
abbrev dktX2_f2_0 : List UInt8 := dkwX2_f2_0 ++ []
theorem dksX2_f2_0 : cX2_f2.data.toList.drop 0 = dktX2_f2_0 := by decide +kernel
theorem dX2_f2_0 : decode cX2_f2 0 = .ok (.iload_n 0, 1) := dk_26 (dk_at dksX2_f2_0 0 rfl rfl)
theorem dX2_f2_1 : decode cX2_f2 1 = .ok (.bipush 17, 2) := dk_16 17 (dk_at dksX2_f2_0 1 rfl rfl)
theorem dX2_f2_3 : decode cX2_f2 3 = .ok (.invokestatic 27, 3) := dk_184 0 27 (dk_at dksX2_f2_0 3 rfl rfl)
theorem dX2_f2_6 : decode cX2_f2 6 = .ok (.iload_n 0, 1) := dk_26 (dk_at dksX2_f2_0 6 rfl rfl)
theorem dX2_f2_7 : decode cX2_f2 7 = .ok (.bipush 19, 2) := dk_16 19 (dk_at dksX2_f2_0 7 rfl rfl)
theorem dX2_f2_9 : decode cX2_f2 9 = .ok (.invokestatic 27, 3) := dk_184 0 27 (dk_at dksX2_f2_0 9 rfl rfl)
theorem dX2_f2_12 : decode cX2_f2 12 = .ok (.ixor, 1) := dk_130 (dk_at dksX2_f2_0 12 rfl rfl)
theorem dX2_f2_13 : decode cX2_f2 13 = .ok (.iload_n 0, 1) := dk_26 (dk_at dksX2_f2_0 13 rfl rfl)
theorem dX2_f2_14 : decode cX2_f2 14 = .ok (.bipush 10, 2) := dk_16 10 (dk_at dksX2_f2_0 14 rfl rfl)
theorem dX2_f2_16 : decode cX2_f2 16 = .ok (.iushr, 1) := dk_124 (dk_at dksX2_f2_0 16 rfl rfl)
theorem dX2_f2_17 : decode cX2_f2 17 = .ok (.ixor, 1) := dk_130 (dk_at dksX2_f2_0 17 rfl rfl)
theorem dX2_f2_18 : decode cX2_f2 18 = .ok (.ireturn, 1) := dk_172 (dk_at dksX2_f2_0 18 rfl rfl)
abbrev cX2_f1 : ByteArray := prog_3_method_2_code
def yX2_f1 : MethodName := ⟨RX2, "f1", "(I)I"⟩
def dkwX2_f1_0 : List UInt8 := [26, 16, 7, 184, 0, 27, 26, 16, 18, 184, 0, 27, 130, 26, 6, 124, 130, 172]
abbrev dktX2_f1_0 : List UInt8 := dkwX2_f1_0 ++ []
theorem dksX2_f1_0 : cX2_f1.data.toList.drop 0 = dktX2_f1_0 := by decide +kernel
theorem dX2_f1_0 : decode cX2_f1 0 = .ok (.iload_n 0, 1) := dk_26 (dk_at dksX2_f1_0 0 rfl rfl)
theorem dX2_f1_1 : decode cX2_f1 1 = .ok (.bipush 7, 2) := dk_16 7 (dk_at dksX2_f1_0 1 rfl rfl)
theorem dX2_f1_3 : decode cX2_f1 3 = .ok (.invokestatic 27, 3) := dk_184 0 27 (dk_at dksX2_f1_0 3 rfl rfl)
theorem dX2_f1_6 : decode cX2_f1 6 = .ok (.iload_n 0, 1) := dk_26 (dk_at dksX2_f1_0 6 rfl rfl)
theorem dX2_f1_7 : decode cX2_f1 7 = .ok (.bipush 18, 2) := dk_16 18 (dk_at dksX2_f1_0 7 rfl rfl)
theorem dX2_f1_9 : decode cX2_f1 9 = .ok (.invokestatic 27, 3) := dk_184 0 27 (dk_at dksX2_f1_0 9 rfl rfl)
theorem dX2_f1_12 : decode cX2_f1 12 = .ok (.ixor, 1) := dk_130 (dk_at dksX2_f1_0 12 rfl rfl)
theorem dX2_f1_13 : decode cX2_f1 13 = .ok (.iload_n 0, 1) := dk_26 (dk_at dksX2_f1_0 13 rfl rfl)
theorem dX2_f1_14 : decode cX2_f1 14 = .ok (.iconst 3, 1) := dk_6 (dk_at dksX2_f1_0 14 rfl rfl)
theorem dX2_f1_15 : decode cX2_f1 15 = .ok (.iushr, 1) := dk_124 (dk_at dksX2_f1_0 15 rfl rfl)
theorem dX2_f1_16 : decode cX2_f1 16 = .ok (.ixor, 1) := dk_130 (dk_at dksX2_f1_0 16 rfl rfl)
theorem dX2_f1_17 : decode cX2_f1 17 = .ok (.ireturn, 1) := dk_172 (dk_at dksX2_f1_0 17 rfl rfl)
abbrev cX2_init_2 : ByteArray := prog_3_method_1_code
def yX2_init_2 : MethodName := ⟨RX2, "<init>", "()V"⟩
def dkwX2_init_2_1 : List UInt8 := [181, 0, 16, 42, 7, 188, 8, 181, 0, 20, 42, 3, 181, 0, 24, 177]
abbrev dktX2_init_2_1 : List UInt8 := dkwX2_init_2_1 ++ []
def dkwX2_init_2_0 : List UInt8 := [42, 183, 0, 1, 42, 17, 2, 0, 188, 10, 181, 0, 7, 42, 17, 2, 0, 188, 10, 181, 0, 13, 42, 3]
abbrev dktX2_init_2_0 : List UInt8 := dkwX2_init_2_0 ++ dktX2_init_2_1
theorem dksX2_init_2_0 : cX2_init_2.data.toList.drop 0 = dktX2_init_2_0 := by decide +kernel
theorem dksX2_init_2_1 : cX2_init_2.data.toList.drop 24 = dktX2_init_2_1 := dk_seg dksX2_init_2_0 24 rfl rfl
theorem dX2_init_2_0 : decode cX2_init_2 0 = .ok (.aload_n 0, 1) := dk_42 (dk_at dksX2_init_2_0 0 rfl rfl)
theorem dX2_init_2_1 : decode cX2_init_2 1 = .ok (.invokespecial 1, 3) := dk_183 0 1 (dk_at dksX2_init_2_0 1 rfl rfl)
theorem dX2_init_2_4 : decode cX2_init_2 4 = .ok (.aload_n 0, 1) := dk_42 (dk_at dksX2_init_2_0 4 rfl rfl)
theorem dX2_init_2_5 : decode cX2_init_2 5 = .ok (.sipush 512, 3) := dk_17 2 0 (dk_at dksX2_init_2_0 5 rfl rfl)
theorem dX2_init_2_8 : decode cX2_init_2 8 = .ok (.newarray .int, 2) := dk_188_10 (dk_at dksX2_init_2_0 8 rfl rfl)
theorem dX2_init_2_10 : decode cX2_init_2 10 = .ok (.putfield 7, 3) := dk_181 0 7 (dk_at dksX2_init_2_0 10 rfl rfl)
theorem dX2_init_2_13 : decode cX2_init_2 13 = .ok (.aload_n 0, 1) := dk_42 (dk_at dksX2_init_2_0 13 rfl rfl)
theorem dX2_init_2_14 : decode cX2_init_2 14 = .ok (.sipush 512, 3) := dk_17 2 0 (dk_at dksX2_init_2_0 14 rfl rfl)
theorem dX2_init_2_17 : decode cX2_init_2 17 = .ok (.newarray .int, 2) := dk_188_10 (dk_at dksX2_init_2_0 17 rfl rfl)
theorem dX2_init_2_19 : decode cX2_init_2 19 = .ok (.putfield 13, 3) := dk_181 0 13 (dk_at dksX2_init_2_0 19 rfl rfl)
theorem dX2_init_2_22 : decode cX2_init_2 22 = .ok (.aload_n 0, 1) := dk_42 (dk_at dksX2_init_2_0 22 rfl rfl)
theorem dX2_init_2_23 : decode cX2_init_2 23 = .ok (.iconst 0, 1) := dk_3 (dk_at dksX2_init_2_0 23 rfl rfl)
theorem dX2_init_2_24 : decode cX2_init_2 24 = .ok (.putfield 16, 3) := dk_181 0 16 (dk_at dksX2_init_2_1 0 rfl rfl)
theorem dX2_init_2_27 : decode cX2_init_2 27 = .ok (.aload_n 0, 1) := dk_42 (dk_at dksX2_init_2_1 3 rfl rfl)
theorem dX2_init_2_28 : decode cX2_init_2 28 = .ok (.iconst 4, 1) := dk_7 (dk_at dksX2_init_2_1 4 rfl rfl)
theorem dX2_init_2_29 : decode cX2_init_2 29 = .ok (.newarray .byte, 2) := dk_188_8 (dk_at dksX2_init_2_1 5 rfl rfl)
theorem dX2_init_2_31 : decode cX2_init_2 31 = .ok (.putfield 20, 3) := dk_181 0 20 (dk_at dksX2_init_2_1 7 rfl rfl)
theorem dX2_init_2_34 : decode cX2_init_2 34 = .ok (.aload_n 0, 1) := dk_42 (dk_at dksX2_init_2_1 10 rfl rfl)
theorem dX2_init_2_35 : decode cX2_init_2 35 = .ok (.iconst 0, 1) := dk_3 (dk_at dksX2_init_2_1 11 rfl rfl)
theorem dX2_init_2_36 : decode cX2_init_2 36 = .ok (.putfield 24, 3) := dk_181 0 24 (dk_at dksX2_init_2_1 12 rfl rfl)
theorem dX2_init_2_39 : decode cX2_init_2 39 = .ok (.return_, 1) := dk_177 (dk_at dksX2_init_2_1 15 rfl rfl)
abbrev cX2_init_3 : ByteArray := prog_3_method_15_code
def yX2_init_3 : MethodName := ⟨RX2, "init", "(ZLCipherParameters;)V"⟩
def dkwX2_init_3_3 : List UInt8 := [183, 0, 64, 191, 42, 4, 181, 0, 110, 177]
abbrev dktX2_init_3_3 : List UInt8 := dkwX2_init_3_3 ++ []
def dkwX2_init_3_2 : List UInt8 := [42, 45, 192, 0, 100, 182, 0, 102, 181, 0, 57, 42, 182, 0, 105, 167, 0, 13, 187, 0, 60, 89, 18, 108]
abbrev dktX2_init_3_2 : List UInt8 := dkwX2_init_3_2 ++ dktX2_init_3_3
def dkwX2_init_3_1 : List UInt8 := [182, 0, 94, 78, 167, 0, 13, 187, 0, 60, 89, 18, 98, 183, 0, 64, 191, 45, 193, 0, 100, 153, 0, 21]
abbrev dktX2_init_3_1 : List UInt8 := dkwX2_init_3_1 ++ dktX2_init_3_2
def dkwX2_init_3_0 : List UInt8 := [44, 193, 0, 88, 153, 0, 25, 42, 44, 192, 0, 88, 182, 0, 90, 181, 0, 67, 44, 192, 0, 88]
abbrev dktX2_init_3_0 : List UInt8 := dkwX2_init_3_0 ++ dktX2_init_3_1
theorem dksX2_init_3_0 : cX2_init_3.data.toList.drop 0 = dktX2_init_3_0 := by decide +kernel
theorem dksX2_init_3_1 : cX2_init_3.data.toList.drop 22 = dktX2_init_3_1 := dk_seg dksX2_init_3_0 22 rfl rfl
theorem dksX2_init_3_2 : cX2_init_3.data.toList.drop 46 = dktX2_init_3_2 := dk_seg dksX2_init_3_1 24 rfl rfl
theorem dksX2_init_3_3 : cX2_init_3.data.toList.drop 70 = dktX2_init_3_3 := dk_seg dksX2_init_3_2 24 rfl rfl
theorem dX2_init_3_0 : decode cX2_init_3 0 = .ok (.aload_n 2, 1) := dk_44 (dk_at dksX2_init_3_0 0 rfl rfl)
theorem dX2_init_3_1 : decode cX2_init_3 1 = .ok (.instanceof 88, 3) := dk_193 0 88 (dk_at dksX2_init_3_0 1 rfl rfl)
theorem dX2_init_3_4 : decode cX2_init_3 4 = .ok (.ifCond .eq 25, 3) := dk_153 0 25 (dk_at dksX2_init_3_0 4 rfl rfl)
theorem dX2_init_3_7 : decode cX2_init_3 7 = .ok (.aload_n 0, 1) := dk_42 (dk_at dksX2_init_3_0 7 rfl rfl)
theorem dX2_init_3_8 : decode cX2_init_3 8 = .ok (.aload_n 2, 1) := dk_44 (dk_at dksX2_init_3_0 8 rfl rfl)
theorem dX2_init_3_9 : decode cX2_init_3 9 = .ok (.checkcast 88, 3) := dk_192 0 88 (dk_at dksX2_init_3_0 9 rfl rfl)
theorem dX2_init_3_12 : decode cX2_init_3 12 = .ok (.invokevirtual 90, 3) := dk_182 0 90 (dk_at dksX2_init_3_0 12 rfl rfl)
theorem dX2_init_3_15 : decode cX2_init_3 15 = .ok (.putfield 67, 3) := dk_181 0 67 (dk_at dksX2_init_3_0 15 rfl rfl)
theorem dX2_init_3_18 : decode cX2_init_3 18 = .ok (.aload_n 2, 1) := dk_44 (dk_at dksX2_init_3_0 18 rfl rfl)
theorem dX2_init_3_19 : decode cX2_init_3 19 = .ok (.checkcast 88, 3) := dk_192 0 88 (dk_at dksX2_init_3_0 19 rfl rfl)
theorem dX2_init_3_22 : decode cX2_init_3 22 = .ok (.invokevirtual 94, 3) := dk_182 0 94 (dk_at dksX2_init_3_1 0 rfl rfl)
theorem dX2_init_3_25 : decode cX2_init_3 25 = .ok (.astore_n 3, 1) := dk_78 (dk_at dksX2_init_3_1 3 rfl rfl)
theorem dX2_init_3_26 : decode cX2_init_3 26 = .ok (.goto 13, 3) := dk_167 0 13 (dk_at dksX2_init_3_1 4 rfl rfl)
theorem dX2_init_3_29 : decode cX2_init_3 29 = .ok (.new 60, 3) := dk_187 0 60 (dk_at dksX2_init_3_1 7 rfl rfl)
theorem dX2_init_3_32 : decode cX2_init_3 32 = .ok (.dup, 1) := dk_89 (dk_at dksX2_init_3_1 10 rfl rfl)
theorem dX2_init_3_33 : decode cX2_init_3 33 = .ok (.ldc 98, 2) := dk_18 98 (dk_at dksX2_init_3_1 11 rfl rfl)
theorem dX2_init_3_35 : decode cX2_init_3 35 = .ok (.invokespecial 64, 3) := dk_183 0 64 (dk_at dksX2_init_3_1 13 rfl rfl)
theorem dX2_init_3_38 : decode cX2_init_3 38 = .ok (.athrow, 1) := dk_191 (dk_at dksX2_init_3_1 16 rfl rfl)
theorem dX2_init_3_39 : decode cX2_init_3 39 = .ok (.aload_n 3, 1) := dk_45 (dk_at dksX2_init_3_1 17 rfl rfl)
theorem dX2_init_3_40 : decode cX2_init_3 40 = .ok (.instanceof 100, 3) := dk_193 0 100 (dk_at dksX2_init_3_1 18 rfl rfl)
theorem dX2_init_3_43 : decode cX2_init_3 43 = .ok (.ifCond .eq 21, 3) := dk_153 0 21 (dk_at dksX2_init_3_1 21 rfl rfl)
theorem dX2_init_3_46 : decode cX2_init_3 46 = .ok (.aload_n 0, 1) := dk_42 (dk_at dksX2_init_3_2 0 rfl rfl)
theorem dX2_init_3_47 : decode cX2_init_3 47 = .ok (.aload_n 3, 1) := dk_45 (dk_at dksX2_init_3_2 1 rfl rfl)
theorem dX2_init_3_48 : decode cX2_init_3 48 = .ok (.checkcast 100, 3) := dk_192 0 100 (dk_at dksX2_init_3_2 2 rfl rfl)
theorem dX2_init_3_51 : decode cX2_init_3 51 = .ok (.invokevirtual 102, 3) := dk_182 0 102 (dk_at dksX2_init_3_2 5 rfl rfl)
theorem dX2_init_3_54 : decode cX2_init_3 54 = .ok (.putfield 57, 3) := dk_181 0 57 (dk_at dksX2_init_3_2 8 rfl rfl)
theorem dX2_init_3_57 : decode cX2_init_3 57 = .ok (.aload_n 0, 1) := dk_42 (dk_at dksX2_init_3_2 11 rfl rfl)
theorem dX2_init_3_58 : decode cX2_init_3 58 = .ok (.invokevirtual 105, 3) := dk_182 0 105 (dk_at dksX2_init_3_2 12 rfl rfl)
theorem dX2_init_3_61 : decode cX2_init_3 61 = .ok (.goto 13, 3) := dk_167 0 13 (dk_at dksX2_init_3_2 15 rfl rfl)
theorem dX2_init_3_64 : decode cX2_init_3 64 = .ok (.new 60, 3) := dk_187 0 60 (dk_at dksX2_init_3_2 18 rfl rfl)
theorem dX2_init_3_67 : decode cX2_init_3 67 = .ok (.dup, 1) := dk_89 (dk_at dksX2_init_3_2 21 rfl rfl)
theorem dX2_init_3_68 : decode cX2_init_3 68 = .ok (.ldc 108, 2) := dk_18 108 (dk_at dksX2_init_3_2 22 rfl rfl)
theorem dX2_init_3_70 : decode cX2_init_3 70 = .ok (.invokespecial 64, 3) := dk_183 0 64 (dk_at dksX2_init_3_3 0 rfl rfl)
theorem dX2_init_3_73 : decode cX2_init_3 73 = .ok (.athrow, 1) := dk_191 (dk_at dksX2_init_3_3 3 rfl rfl)
theorem dX2_init_3_74 : decode cX2_init_3 74 = .ok (.aload_n 0, 1) := dk_42 (dk_at dksX2_init_3_3 4 rfl rfl)
theorem dX2_init_3_75 : decode cX2_init_3 75 = .ok (.iconst 1, 1) := dk_4 (dk_at dksX2_init_3_3 5 rfl rfl)
theorem dX2_init_3_76 : decode cX2_init_3 76 = .ok (.putfield 110, 3) := dk_181 0 110 (dk_at dksX2_init_3_3 6 rfl rfl)
theorem dX2_init_3_79 : decode cX2_init_3 79 = .ok (.return_, 1) := dk_177 (dk_at dksX2_init_3_3 9 rfl rfl)
theorem q12 : (Jvm.Cond.initialized "HC128Engine") ∈ lw_all := lw_g (lw_at lw_m1 2 rfl) rfl
theorem q39 : (Jvm.Cond.instanceMethod ({ cls := "HC128Engine", name := "processBytes", desc := "([BII[BI)I" } : Jvm.MethodName)) ∈ lw_all := lw_g (lw_at lw_m1 29 rfl) rfl
theorem q40 : (Jvm.Cond.selects "HC128Engine" ({ cls := "HC128Engine", name := "processBytes", desc := "([BII[BI)I" } : Jvm.MethodName) ({ cls := "HC128Engine", name := "processBytes", desc := "([BII[BI)I" } : Jvm.MethodName)) ∈ lw_all := lw_g (lw_at lw_m1 30 rfl) rfl
theorem q41 : (Jvm.Cond.code ({ cls := "HC128Engine", name := "processBytes", desc := "([BII[BI)I" } : Jvm.MethodName) prog_3_method_17_code (7 : Nat) (Option.some Jvm.ClassFile.FieldType.int)) ∈ lw_all := lw_g (lw_at lw_m1 31 rfl) rfl
theorem q42 : (Jvm.Cond.classLink "HC128Engine" (114 : Nat) "java/lang/IllegalStateException") ∈ lw_all := lw_g (lw_at lw_m1 32 rfl) rfl
theorem q86 : (Jvm.Cond.stringRef "HC128Engine" (108 : Nat) "left out") ∈ lw_tbl := lw_at lw_m1 76 rfl
theorem q87 : (Jvm.Cond.methodLink "HC128Engine" (116 : Nat) ({ cls := "java/lang/IllegalStateException", name := "<init>", desc := "(Ljava/lang/String;)V" } : Jvm.MethodName)) ∈ lw_all := lw_g (lw_at lw_m1 77 rfl) rfl
theorem q113 : (Jvm.Cond.classLink "HC128Engine" (117 : Nat) "DataLengthException") ∈ lw_all := lw_g (lw_at lw_m1 103 rfl) rfl
theorem q123 : (Jvm.Cond.stringRef "HC128Engine" (119 : Nat) "input buffer too short") ∈ lw_tbl := lw_at lw_m1 113 rfl
theorem q124 : (Jvm.Cond.methodLink "HC128Engine" (121 : Nat) ({ cls := "DataLengthException", name := "<init>", desc := "(Ljava/lang/String;)V" } : Jvm.MethodName)) ∈ lw_all := lw_g (lw_at lw_m1 114 rfl) rfl
theorem q133 : (Jvm.Cond.classLink "HC128Engine" (122 : Nat) "OutputLengthException") ∈ lw_all := lw_g (lw_at lw_m1 123 rfl) rfl
theorem q143 : (Jvm.Cond.stringRef "HC128Engine" (124 : Nat) "output buffer too short") ∈ lw_tbl := lw_at lw_m1 133 rfl
theorem q144 : (Jvm.Cond.methodLink "HC128Engine" (126 : Nat) ({ cls := "OutputLengthException", name := "<init>", desc := "(Ljava/lang/String;)V" } : Jvm.MethodName)) ∈ lw_all := lw_g (lw_at lw_m1 134 rfl) rfl
theorem q150 : (Jvm.Cond.methodLink "HC128Engine" (127 : Nat) ({ cls := "HC128Engine", name := "getByte", desc := "()B" } : Jvm.MethodName)) ∈ lw_all := lw_g (lw_at lw_m1 140 rfl) rfl
theorem q151 : (Jvm.Cond.privateMethod ({ cls := "HC128Engine", name := "getByte", desc := "()B" } : Jvm.MethodName)) ∈ lw_tbl := lw_at lw_m1 141 rfl
theorem q152 : (Jvm.Cond.instanceMethod ({ cls := "HC128Engine", name := "getByte", desc := "()B" } : Jvm.MethodName)) ∈ lw_all := lw_g (lw_at lw_m1 142 rfl) rfl
theorem q153 : (Jvm.Cond.instantiable "HC128Engine" (8 : Nat)) ∈ lw_all := lw_g (lw_at lw_m1 143 rfl) rfl
theorem q154 : (Jvm.Cond.code ({ cls := "HC128Engine", name := "getByte", desc := "()B" } : Jvm.MethodName) prog_3_method_16_code (2 : Nat) (Option.some Jvm.ClassFile.FieldType.byte)) ∈ lw_all := lw_g (lw_at lw_m1 144 rfl) rfl
theorem q155 : (Jvm.Cond.methodLink "HC128Engine" (84 : Nat) ({ cls := "HC128Engine", name := "step", desc := "()I" } : Jvm.MethodName)) ∈ lw_all := lw_g (lw_at lw_m1 145 rfl) rfl
theorem q156 : (Jvm.Cond.privateMethod ({ cls := "HC128Engine", name := "step", desc := "()I" } : Jvm.MethodName)) ∈ lw_tbl := lw_at lw_m1 146 rfl
theorem q157 : (Jvm.Cond.instanceMethod ({ cls := "HC128Engine", name := "step", desc := "()I" } : Jvm.MethodName)) ∈ lw_all := lw_g (lw_at lw_m1 147 rfl) rfl
theorem q158 : (Jvm.Cond.code ({ cls := "HC128Engine", name := "step", desc := "()I" } : Jvm.MethodName) prog_3_method_13_code (3 : Nat) (Option.some Jvm.ClassFile.FieldType.int)) ∈ lw_all := lw_g (lw_at lw_m1 148 rfl) rfl
theorem q159 : (Jvm.Cond.methodLink "HC128Engine" (34 : Nat) ({ cls := "HC128Engine", name := "mod512", desc := "(I)I" } : Jvm.MethodName)) ∈ lw_all := lw_g (lw_at lw_m1 149 rfl) rfl
theorem q160 : (Jvm.Cond.static ({ cls := "HC128Engine", name := "mod512", desc := "(I)I" } : Jvm.MethodName)) ∈ lw_all := lw_g (lw_at lw_m1 150 rfl) rfl
theorem q161 : (Jvm.Cond.code ({ cls := "HC128Engine", name := "mod512", desc := "(I)I" } : Jvm.MethodName) prog_3_method_11_code (1 : Nat) (Option.some Jvm.ClassFile.FieldType.int)) ∈ lw_all := lw_g (lw_at lw_m1 151 rfl) rfl
theorem q162 : (Jvm.Cond.methodLink "HC128Engine" (38 : Nat) ({ cls := "HC128Engine", name := "dim", desc := "(II)I" } : Jvm.MethodName)) ∈ lw_all := lw_g (lw_at lw_m1 152 rfl) rfl
theorem q163 : (Jvm.Cond.static ({ cls := "HC128Engine", name := "dim", desc := "(II)I" } : Jvm.MethodName)) ∈ lw_all := lw_g (lw_at lw_m1 153 rfl) rfl
theorem q164 : (Jvm.Cond.code ({ cls := "HC128Engine", name := "dim", desc := "(II)I" } : Jvm.MethodName) prog_3_method_12_code (2 : Nat) (Option.some Jvm.ClassFile.FieldType.int)) ∈ lw_all := lw_g (lw_at lw_m1 154 rfl) rfl
theorem q165 : (Jvm.Cond.methodLink "HC128Engine" (41 : Nat) ({ cls := "HC128Engine", name := "g1", desc := "(III)I" } : Jvm.MethodName)) ∈ lw_all := lw_g (lw_at lw_m1 155 rfl) rfl
theorem q166 : (Jvm.Cond.privateMethod ({ cls := "HC128Engine", name := "g1", desc := "(III)I" } : Jvm.MethodName)) ∈ lw_tbl := lw_at lw_m1 156 rfl
theorem q167 : (Jvm.Cond.instanceMethod ({ cls := "HC128Engine", name := "g1", desc := "(III)I" } : Jvm.MethodName)) ∈ lw_all := lw_g (lw_at lw_m1 157 rfl) rfl
theorem q168 : (Jvm.Cond.code ({ cls := "HC128Engine", name := "g1", desc := "(III)I" } : Jvm.MethodName) prog_3_method_4_code (4 : Nat) (Option.some Jvm.ClassFile.FieldType.int)) ∈ lw_all := lw_g (lw_at lw_m1 158 rfl) rfl
theorem q169 : (Jvm.Cond.methodLink "HC128Engine" (27 : Nat) ({ cls := "HC128Engine", name := "rotateRight", desc := "(II)I" } : Jvm.MethodName)) ∈ lw_all := lw_g (lw_at lw_m1 159 rfl) rfl
theorem q170 : (Jvm.Cond.static ({ cls := "HC128Engine", name := "rotateRight", desc := "(II)I" } : Jvm.MethodName)) ∈ lw_all := lw_g (lw_at lw_m1 160 rfl) rfl
theorem q171 : (Jvm.Cond.code ({ cls := "HC128Engine", name := "rotateRight", desc := "(II)I" } : Jvm.MethodName) prog_3_method_7_code (2 : Nat) (Option.some Jvm.ClassFile.FieldType.int)) ∈ lw_all := lw_g (lw_at lw_m1 161 rfl) rfl
theorem q172 : (Jvm.Cond.methodLink "HC128Engine" (45 : Nat) ({ cls := "HC128Engine", name := "h1", desc := "(I)I" } : Jvm.MethodName)) ∈ lw_all := lw_g (lw_at lw_m1 162 rfl) rfl
theorem q173 : (Jvm.Cond.privateMethod ({ cls := "HC128Engine", name := "h1", desc := "(I)I" } : Jvm.MethodName)) ∈ lw_tbl := lw_at lw_m1 163 rfl
theorem q174 : (Jvm.Cond.instanceMethod ({ cls := "HC128Engine", name := "h1", desc := "(I)I" } : Jvm.MethodName)) ∈ lw_all := lw_g (lw_at lw_m1 164 rfl) rfl
theorem q175 : (Jvm.Cond.code ({ cls := "HC128Engine", name := "h1", desc := "(I)I" } : Jvm.MethodName) prog_3_method_8_code (2 : Nat) (Option.some Jvm.ClassFile.FieldType.int)) ∈ lw_all := lw_g (lw_at lw_m1 165 rfl) rfl
theorem q176 : (Jvm.Cond.methodLink "HC128Engine" (48 : Nat) ({ cls := "HC128Engine", name := "g2", desc := "(III)I" } : Jvm.MethodName)) ∈ lw_all := lw_g (lw_at lw_m1 166 rfl) rfl
theorem q177 : (Jvm.Cond.privateMethod ({ cls := "HC128Engine", name := "g2", desc := "(III)I" } : Jvm.MethodName)) ∈ lw_tbl := lw_at lw_m1 167 rfl
theorem q178 : (Jvm.Cond.instanceMethod ({ cls := "HC128Engine", name := "g2", desc := "(III)I" } : Jvm.MethodName)) ∈ lw_all := lw_g (lw_at lw_m1 168 rfl) rfl
theorem q179 : (Jvm.Cond.code ({ cls := "HC128Engine", name := "g2", desc := "(III)I" } : Jvm.MethodName) prog_3_method_5_code (4 : Nat) (Option.some Jvm.ClassFile.FieldType.int)) ∈ lw_all := lw_g (lw_at lw_m1 169 rfl) rfl
theorem q180 : (Jvm.Cond.methodLink "HC128Engine" (31 : Nat) ({ cls := "HC128Engine", name := "rotateLeft", desc := "(II)I" } : Jvm.MethodName)) ∈ lw_all := lw_g (lw_at lw_m1 170 rfl) rfl
theorem q181 : (Jvm.Cond.static ({ cls := "HC128Engine", name := "rotateLeft", desc := "(II)I" } : Jvm.MethodName)) ∈ lw_all := lw_g (lw_at lw_m1 171 rfl) rfl
theorem q182 : (Jvm.Cond.code ({ cls := "HC128Engine", name := "rotateLeft", desc := "(II)I" } : Jvm.MethodName) prog_3_method_6_code (2 : Nat) (Option.some Jvm.ClassFile.FieldType.int)) ∈ lw_all := lw_g (lw_at lw_m1 172 rfl) rfl
theorem q183 : (Jvm.Cond.methodLink "HC128Engine" (51 : Nat) ({ cls := "HC128Engine", name := "h2", desc := "(I)I" } : Jvm.MethodName)) ∈ lw_all := lw_g (lw_at lw_m1 173 rfl) rfl
theorem q184 : (Jvm.Cond.privateMethod ({ cls := "HC128Engine", name := "h2", desc := "(I)I" } : Jvm.MethodName)) ∈ lw_tbl := lw_at lw_m1 174 rfl
theorem q185 : (Jvm.Cond.instanceMethod ({ cls := "HC128Engine", name := "h2", desc := "(I)I" } : Jvm.MethodName)) ∈ lw_all := lw_g (lw_at lw_m1 175 rfl) rfl
theorem q186 : (Jvm.Cond.code ({ cls := "HC128Engine", name := "h2", desc := "(I)I" } : Jvm.MethodName) prog_3_method_9_code (2 : Nat) (Option.some Jvm.ClassFile.FieldType.int)) ∈ lw_all := lw_g (lw_at lw_m1 176 rfl) rfl
theorem q187 : (Jvm.Cond.methodLink "HC128Engine" (54 : Nat) ({ cls := "HC128Engine", name := "mod1024", desc := "(I)I" } : Jvm.MethodName)) ∈ lw_all := lw_g (lw_at lw_m1 177 rfl) rfl
theorem q188 : (Jvm.Cond.static ({ cls := "HC128Engine", name := "mod1024", desc := "(I)I" } : Jvm.MethodName)) ∈ lw_all := lw_g (lw_at lw_m1 178 rfl) rfl
theorem q189 : (Jvm.Cond.code ({ cls := "HC128Engine", name := "mod1024", desc := "(I)I" } : Jvm.MethodName) prog_3_method_10_code (1 : Nat) (Option.some Jvm.ClassFile.FieldType.int)) ∈ lw_all := lw_g (lw_at lw_m1 179 rfl) rfl
theorem q195 : (Jvm.Cond.instanceMethod ({ cls := "HC128Engine", name := "returnByte", desc := "(B)B" } : Jvm.MethodName)) ∈ lw_all := lw_g (lw_at lw_m1 185 rfl) rfl
theorem q196 : (Jvm.Cond.selects "HC128Engine" ({ cls := "HC128Engine", name := "returnByte", desc := "(B)B" } : Jvm.MethodName) ({ cls := "HC128Engine", name := "returnByte", desc := "(B)B" } : Jvm.MethodName)) ∈ lw_all := lw_g (lw_at lw_m1 186 rfl) rfl
theorem q197 : (Jvm.Cond.code ({ cls := "HC128Engine", name := "returnByte", desc := "(B)B" } : Jvm.MethodName) prog_3_method_19_code (2 : Nat) (Option.some Jvm.ClassFile.FieldType.byte)) ∈ lw_all := lw_g (lw_at lw_m1 187 rfl) rfl
theorem q203 : (Jvm.Cond.instanceMethod ({ cls := "HC128Engine", name := "reset", desc := "()V" } : Jvm.MethodName)) ∈ lw_all := lw_g (lw_at lw_m1 193 rfl) rfl
theorem q204 : (Jvm.Cond.selects "HC128Engine" ({ cls := "HC128Engine", name := "reset", desc := "()V" } : Jvm.MethodName) ({ cls := "HC128Engine", name := "reset", desc := "()V" } : Jvm.MethodName)) ∈ lw_all := lw_g (lw_at lw_m1 194 rfl) rfl
theorem q205 : (Jvm.Cond.code ({ cls := "HC128Engine", name := "reset", desc := "()V" } : Jvm.MethodName) prog_3_method_18_code (1 : Nat) (Option.none : Option Jvm.ClassFile.FieldType)) ∈ lw_all := lw_g (lw_at lw_m1 195 rfl) rfl
theorem q206 : (Jvm.Cond.methodLink "HC128Engine" (105 : Nat) ({ cls := "HC128Engine", name := "init", desc := "()V" } : Jvm.MethodName)) ∈ lw_all := lw_g (lw_at lw_m1 196 rfl) rfl
theorem q207 : (Jvm.Cond.privateMethod ({ cls := "HC128Engine", name := "init", desc := "()V" } : Jvm.MethodName)) ∈ lw_tbl := lw_at lw_m1 197 rfl
theorem q208 : (Jvm.Cond.instanceMethod ({ cls := "HC128Engine", name := "init", desc := "()V" } : Jvm.MethodName)) ∈ lw_all := lw_g (lw_at lw_m1 198 rfl) rfl
theorem q209 : (Jvm.Cond.code ({ cls := "HC128Engine", name := "init", desc := "()V" } : Jvm.MethodName) prog_3_method_14_code (3 : Nat) (Option.none : Option Jvm.ClassFile.FieldType)) ∈ lw_all := lw_g (lw_at lw_m1 199 rfl) rfl
theorem q210 : (Jvm.Cond.classLink "HC128Engine" (60 : Nat) "java/lang/IllegalArgumentException") ∈ lw_all := lw_g (lw_at lw_m1 200 rfl) rfl
theorem q219 : (Jvm.Cond.stringRef "HC128Engine" (62 : Nat) "The key must be 128 bits long") ∈ lw_tbl := lw_at lw_m1 209 rfl
theorem q220 : (Jvm.Cond.methodLink "HC128Engine" (64 : Nat) ({ cls := "java/lang/IllegalArgumentException", name := "<init>", desc := "(Ljava/lang/String;)V" } : Jvm.MethodName)) ∈ lw_all := lw_g (lw_at lw_m1 210 rfl) rfl
theorem q226 : (Jvm.Cond.stringRef "HC128Engine" (70 : Nat) "The IV must be 128 bits long") ∈ lw_tbl := lw_at lw_m1 216 rfl
theorem q227 : (Jvm.Cond.methodLink "HC128Engine" (72 : Nat) ({ cls := "java/lang/System", name := "arraycopy", desc := "(Ljava/lang/Object;ILjava/lang/Object;II)V" } : Jvm.MethodName)) ∈ lw_all := lw_g (lw_at lw_m1 217 rfl) rfl
theorem q230 : (Jvm.Cond.methodLink "HC128Engine" (78 : Nat) ({ cls := "HC128Engine", name := "f2", desc := "(I)I" } : Jvm.MethodName)) ∈ lw_all := lw_g (lw_at lw_m1 220 rfl) rfl
theorem q231 : (Jvm.Cond.static ({ cls := "HC128Engine", name := "f2", desc := "(I)I" } : Jvm.MethodName)) ∈ lw_all := lw_g (lw_at lw_m1 221 rfl) rfl
theorem q232 : (Jvm.Cond.code ({ cls := "HC128Engine", name := "f2", desc := "(I)I" } : Jvm.MethodName) prog_3_method_3_code (1 : Nat) (Option.some Jvm.ClassFile.FieldType.int)) ∈ lw_all := lw_g (lw_at lw_m1 222 rfl) rfl
theorem q233 : (Jvm.Cond.methodLink "HC128Engine" (81 : Nat) ({ cls := "HC128Engine", name := "f1", desc := "(I)I" } : Jvm.MethodName)) ∈ lw_all := lw_g (lw_at lw_m1 223 rfl) rfl
theorem q234 : (Jvm.Cond.static ({ cls := "HC128Engine", name := "f1", desc := "(I)I" } : Jvm.MethodName)) ∈ lw_all := lw_g (lw_at lw_m1 224 rfl) rfl
theorem q235 : (Jvm.Cond.code ({ cls := "HC128Engine", name := "f1", desc := "(I)I" } : Jvm.MethodName) prog_3_method_2_code (1 : Nat) (Option.some Jvm.ClassFile.FieldType.int)) ∈ lw_all := lw_g (lw_at lw_m1 225 rfl) rfl
theorem q254 : (Jvm.Cond.instanceMethod ({ cls := "HC128Engine", name := "<init>", desc := "()V" } : Jvm.MethodName)) ∈ lw_all := lw_g (lw_at lw_m2 4 rfl) rfl
theorem q255 : (Jvm.Cond.code ({ cls := "HC128Engine", name := "<init>", desc := "()V" } : Jvm.MethodName) prog_3_method_1_code (1 : Nat) (Option.none : Option Jvm.ClassFile.FieldType)) ∈ lw_all := lw_g (lw_at lw_m2 5 rfl) rfl
theorem q256 : (Jvm.Cond.methodLink "HC128Engine" (1 : Nat) ({ cls := "java/lang/Object", name := "<init>", desc := "()V" } : Jvm.MethodName)) ∈ lw_all := lw_g (lw_at lw_m2 6 rfl) rfl
theorem q257 : (Jvm.Cond.fieldLink "HC128Engine" (7 : Nat) "HC128Engine" "p" "[I") ∈ lw_all := lw_g (lw_at lw_m2 7 rfl) rfl
theorem q258 : (Jvm.Cond.fieldLink "HC128Engine" (13 : Nat) "HC128Engine" "q" "[I") ∈ lw_all := lw_g (lw_at lw_m2 8 rfl) rfl
theorem q259 : (Jvm.Cond.fieldLink "HC128Engine" (16 : Nat) "HC128Engine" "cnt" "I") ∈ lw_all := lw_g (lw_at lw_m2 9 rfl) rfl
theorem q260 : (Jvm.Cond.fieldLink "HC128Engine" (57 : Nat) "HC128Engine" "key" "[B") ∈ lw_all := lw_g (lw_at lw_m2 10 rfl) rfl
theorem q261 : (Jvm.Cond.fieldLink "HC128Engine" (67 : Nat) "HC128Engine" "iv" "[B") ∈ lw_all := lw_g (lw_at lw_m2 11 rfl) rfl
theorem q262 : (Jvm.Cond.fieldLink "HC128Engine" (110 : Nat) "HC128Engine" "initialised" "Z") ∈ lw_all := lw_g (lw_at lw_m2 12 rfl) rfl
theorem q263 : (Jvm.Cond.fieldLink "HC128Engine" (20 : Nat) "HC128Engine" "buf" "[B") ∈ lw_all := lw_g (lw_at lw_m2 13 rfl) rfl
theorem q264 : (Jvm.Cond.fieldLink "HC128Engine" (24 : Nat) "HC128Engine" "idx" "I") ∈ lw_all := lw_g (lw_at lw_m2 14 rfl) rfl
theorem q265 : (Jvm.Cond.lays "HC128Engine" "HC128Engine" "p" "[I") ∈ lw_all := lw_g (lw_at lw_m2 15 rfl) rfl
theorem q266 : (Jvm.Cond.soleField "HC128Engine" "p") ∈ lw_all := lw_g (lw_at lw_m2 16 rfl) rfl
theorem q267 : (Jvm.Cond.lays "HC128Engine" "HC128Engine" "q" "[I") ∈ lw_all := lw_g (lw_at lw_m2 17 rfl) rfl
theorem q268 : (Jvm.Cond.soleField "HC128Engine" "q") ∈ lw_all := lw_g (lw_at lw_m2 18 rfl) rfl
theorem q269 : (Jvm.Cond.lays "HC128Engine" "HC128Engine" "cnt" "I") ∈ lw_all := lw_g (lw_at lw_m2 19 rfl) rfl
theorem q270 : (Jvm.Cond.soleField "HC128Engine" "cnt") ∈ lw_all := lw_g (lw_at lw_m2 20 rfl) rfl
theorem q271 : (Jvm.Cond.lays "HC128Engine" "HC128Engine" "key" "[B") ∈ lw_all := lw_g (lw_at lw_m2 21 rfl) rfl
theorem q272 : (Jvm.Cond.soleField "HC128Engine" "key") ∈ lw_all := lw_g (lw_at lw_m2 22 rfl) rfl
theorem q273 : (Jvm.Cond.lays "HC128Engine" "HC128Engine" "iv" "[B") ∈ lw_all := lw_g (lw_at lw_m2 23 rfl) rfl
theorem q274 : (Jvm.Cond.soleField "HC128Engine" "iv") ∈ lw_all := lw_g (lw_at lw_m2 24 rfl) rfl
theorem q275 : (Jvm.Cond.lays "HC128Engine" "HC128Engine" "initialised" "Z") ∈ lw_all := lw_g (lw_at lw_m2 25 rfl) rfl
theorem q276 : (Jvm.Cond.soleField "HC128Engine" "initialised") ∈ lw_all := lw_g (lw_at lw_m2 26 rfl) rfl
theorem q277 : (Jvm.Cond.lays "HC128Engine" "HC128Engine" "buf" "[B") ∈ lw_all := lw_g (lw_at lw_m2 27 rfl) rfl
theorem q278 : (Jvm.Cond.soleField "HC128Engine" "buf") ∈ lw_all := lw_g (lw_at lw_m2 28 rfl) rfl
theorem q279 : (Jvm.Cond.lays "HC128Engine" "HC128Engine" "idx" "I") ∈ lw_all := lw_g (lw_at lw_m2 29 rfl) rfl
theorem q280 : (Jvm.Cond.soleField "HC128Engine" "idx") ∈ lw_all := lw_g (lw_at lw_m2 30 rfl) rfl
theorem q281 : (Jvm.Cond.superclass "HC128Engine" "java/lang/Object") ∈ lw_all := lw_g (lw_at lw_m2 31 rfl) rfl
theorem q365 : (Jvm.Cond.instanceMethod ({ cls := "HC128Engine", name := "init", desc := "(ZLCipherParameters;)V" } : Jvm.MethodName)) ∈ lw_all := lw_g (lw_at lw_m2 115 rfl) rfl
theorem q366 : (Jvm.Cond.selects "HC128Engine" ({ cls := "HC128Engine", name := "init", desc := "(ZLCipherParameters;)V" } : Jvm.MethodName) ({ cls := "HC128Engine", name := "init", desc := "(ZLCipherParameters;)V" } : Jvm.MethodName)) ∈ lw_all := lw_g (lw_at lw_m2 116 rfl) rfl
theorem q367 : (Jvm.Cond.code ({ cls := "HC128Engine", name := "init", desc := "(ZLCipherParameters;)V" } : Jvm.MethodName) prog_3_method_15_code (4 : Nat) (Option.none : Option Jvm.ClassFile.FieldType)) ∈ lw_all := lw_g (lw_at lw_m2 117 rfl) rfl
theorem q368 : (Jvm.Cond.classLink "HC128Engine" (88 : Nat) "ParametersWithIV") ∈ lw_all := lw_g (lw_at lw_m2 118 rfl) rfl
theorem q369 : (Jvm.Cond.methodLink "HC128Engine" (90 : Nat) ({ cls := "ParametersWithIV", name := "getIV", desc := "()[B" } : Jvm.MethodName)) ∈ lw_all := lw_g (lw_at lw_m2 119 rfl) rfl
theorem q373 : (Jvm.Cond.methodLink "HC128Engine" (94 : Nat) ({ cls := "ParametersWithIV", name := "getParameters", desc := "()LCipherParameters;" } : Jvm.MethodName)) ∈ lw_all := lw_g (lw_at lw_m2 123 rfl) rfl
theorem q377 : (Jvm.Cond.stringRef "HC128Engine" (98 : Nat) "no IV passed") ∈ lw_tbl := lw_at lw_m2 127 rfl
theorem q378 : (Jvm.Cond.classLink "HC128Engine" (100 : Nat) "KeyParameter") ∈ lw_all := lw_g (lw_at lw_m2 128 rfl) rfl
theorem q379 : (Jvm.Cond.methodLink "HC128Engine" (102 : Nat) ({ cls := "KeyParameter", name := "getKey", desc := "()[B" } : Jvm.MethodName)) ∈ lw_all := lw_g (lw_at lw_m2 129 rfl) rfl
theorem in_X2 : ∀ w ∈ wsX20, w ∈ lw_all := lw_in wsX20 [265, 267, 269, 271, 273, 275, 277, 279] (by decide +kernel) (by decide +kernel)
end
section
/-! HcDesk -/
set_option maxRecDepth 100000
def RX1 : String := "HcDesk"
def TX1 : u_T := fun k => match k with
  | 0 => ("HcDesk", "run", "LHC128Engine;", false)
  | 1 => ("HcDesk", "set", "Z", false)
  | 2 => ("HcDesk", "given", "I", false)
  | 3 => ("HcDesk", "key", "[B", true)
  | 4 => ("HcDesk", "nonce", "[B", true)
  | 5 => ("HcDesk", "text", "[B", true)
  | 6 => ("HcDesk", "size", "I", false)
  | _ => ("HcDesk", "out", "[B", false)
def tyX1 : Nat → FieldType := fun k => match k with
  | 0 => .object "HC128Engine"
  | 1 => .boolean
  | 2 => .int
  | 3 => .array .byte
  | 4 => .array .byte
  | 5 => .array .byte
  | 6 => .int
  | _ => .array .byte
abbrev wsX10 : List Cond := u_ws RX1 TX1 8
theorem nmX1 : ∀ a, a < 8 → ∀ b, b < 8 → a ≠ b → (TX1 a).2.1 ≠ (TX1 b).2.1 := by decide +kernel
theorem tyX1_ok : ∀ k, k < 8 → parseFieldDescriptor (TX1 k).2.2.1 = some (tyX1 k) := by decide +kernel
abbrev cX1_run : ByteArray := prog_4_method_10_code
def yX1_run : MethodName := ⟨RX1, "run", "(II)I"⟩
def dkwX1_run_3 : List UInt8 := [182, 0, 67, 87, 42, 25, 5, 181, 0, 26, 21, 4, 172]
abbrev dktX1_run_3 : List UInt8 := dkwX1_run_3 ++ []
def dkwX1_run_2 : List UInt8 := [181, 0, 60, 21, 4, 188, 8, 58, 5, 42, 180, 0, 10, 42, 180, 0, 23, 29, 21, 4, 25, 5, 3]
abbrev dktX1_run_2 : List UInt8 := dkwX1_run_2 ++ dktX1_run_3
def dkwX1_run_1 : List UInt8 := [180, 0, 60, 21, 4, 96, 17, 4, 0, 164, 0, 6, 16, 254, 172, 42, 89, 180, 0, 60, 21, 4, 96]
abbrev dktX1_run_1 : List UInt8 := dkwX1_run_1 ++ dktX1_run_2
def dkwX1_run_0 : List UInt8 := [42, 180, 0, 56, 154, 0, 5, 2, 172, 42, 27, 182, 0, 37, 62, 42, 29, 28, 182, 0, 63, 54, 4, 42]
abbrev dktX1_run_0 : List UInt8 := dkwX1_run_0 ++ dktX1_run_1
theorem dksX1_run_0 : cX1_run.data.toList.drop 0 = dktX1_run_0 := by decide +kernel
theorem dksX1_run_1 : cX1_run.data.toList.drop 24 = dktX1_run_1 := dk_seg dksX1_run_0 24 rfl rfl
theorem dksX1_run_2 : cX1_run.data.toList.drop 47 = dktX1_run_2 := dk_seg dksX1_run_1 23 rfl rfl
theorem dksX1_run_3 : cX1_run.data.toList.drop 70 = dktX1_run_3 := dk_seg dksX1_run_2 23 rfl rfl
theorem dX1_run_0 : decode cX1_run 0 = .ok (.aload_n 0, 1) := dk_42 (dk_at dksX1_run_0 0 rfl rfl)
theorem dX1_run_1 : decode cX1_run 1 = .ok (.getfield 56, 3) := dk_180 0 56 (dk_at dksX1_run_0 1 rfl rfl)
theorem dX1_run_4 : decode cX1_run 4 = .ok (.ifCond .ne 5, 3) := dk_154 0 5 (dk_at dksX1_run_0 4 rfl rfl)
theorem dX1_run_7 : decode cX1_run 7 = .ok (.iconst (-1), 1) := dk_2 (dk_at dksX1_run_0 7 rfl rfl)
theorem dX1_run_8 : decode cX1_run 8 = .ok (.ireturn, 1) := dk_172 (dk_at dksX1_run_0 8 rfl rfl)
theorem dX1_run_9 : decode cX1_run 9 = .ok (.aload_n 0, 1) := dk_42 (dk_at dksX1_run_0 9 rfl rfl)
theorem dX1_run_10 : decode cX1_run 10 = .ok (.iload_n 1, 1) := dk_27 (dk_at dksX1_run_0 10 rfl rfl)
theorem dX1_run_11 : decode cX1_run 11 = .ok (.invokevirtual 37, 3) := dk_182 0 37 (dk_at dksX1_run_0 11 rfl rfl)
theorem dX1_run_14 : decode cX1_run 14 = .ok (.istore_n 3, 1) := dk_62 (dk_at dksX1_run_0 14 rfl rfl)
theorem dX1_run_15 : decode cX1_run 15 = .ok (.aload_n 0, 1) := dk_42 (dk_at dksX1_run_0 15 rfl rfl)
theorem dX1_run_16 : decode cX1_run 16 = .ok (.iload_n 3, 1) := dk_29 (dk_at dksX1_run_0 16 rfl rfl)
theorem dX1_run_17 : decode cX1_run 17 = .ok (.iload_n 2, 1) := dk_28 (dk_at dksX1_run_0 17 rfl rfl)
theorem dX1_run_18 : decode cX1_run 18 = .ok (.invokevirtual 63, 3) := dk_182 0 63 (dk_at dksX1_run_0 18 rfl rfl)
theorem dX1_run_21 : decode cX1_run 21 = .ok (.istore 4, 2) := dk_54 4 (dk_at dksX1_run_0 21 rfl rfl)
theorem dX1_run_23 : decode cX1_run 23 = .ok (.aload_n 0, 1) := dk_42 (dk_at dksX1_run_0 23 rfl rfl)
theorem dX1_run_24 : decode cX1_run 24 = .ok (.getfield 60, 3) := dk_180 0 60 (dk_at dksX1_run_1 0 rfl rfl)
theorem dX1_run_27 : decode cX1_run 27 = .ok (.iload 4, 2) := dk_21 4 (dk_at dksX1_run_1 3 rfl rfl)
theorem dX1_run_29 : decode cX1_run 29 = .ok (.iadd, 1) := dk_96 (dk_at dksX1_run_1 5 rfl rfl)
theorem dX1_run_30 : decode cX1_run 30 = .ok (.sipush 1024, 3) := dk_17 4 0 (dk_at dksX1_run_1 6 rfl rfl)
theorem dX1_run_33 : decode cX1_run 33 = .ok (.if_icmp .le 6, 3) := dk_164 0 6 (dk_at dksX1_run_1 9 rfl rfl)
theorem dX1_run_36 : decode cX1_run 36 = .ok (.bipush (-2), 2) := dk_16 254 (dk_at dksX1_run_1 12 rfl rfl)
theorem dX1_run_38 : decode cX1_run 38 = .ok (.ireturn, 1) := dk_172 (dk_at dksX1_run_1 14 rfl rfl)
theorem dX1_run_39 : decode cX1_run 39 = .ok (.aload_n 0, 1) := dk_42 (dk_at dksX1_run_1 15 rfl rfl)
theorem dX1_run_40 : decode cX1_run 40 = .ok (.dup, 1) := dk_89 (dk_at dksX1_run_1 16 rfl rfl)
theorem dX1_run_41 : decode cX1_run 41 = .ok (.getfield 60, 3) := dk_180 0 60 (dk_at dksX1_run_1 17 rfl rfl)
theorem dX1_run_44 : decode cX1_run 44 = .ok (.iload 4, 2) := dk_21 4 (dk_at dksX1_run_1 20 rfl rfl)
theorem dX1_run_46 : decode cX1_run 46 = .ok (.iadd, 1) := dk_96 (dk_at dksX1_run_1 22 rfl rfl)
theorem dX1_run_47 : decode cX1_run 47 = .ok (.putfield 60, 3) := dk_181 0 60 (dk_at dksX1_run_2 0 rfl rfl)
theorem dX1_run_50 : decode cX1_run 50 = .ok (.iload 4, 2) := dk_21 4 (dk_at dksX1_run_2 3 rfl rfl)
theorem dX1_run_52 : decode cX1_run 52 = .ok (.newarray .byte, 2) := dk_188_8 (dk_at dksX1_run_2 5 rfl rfl)
theorem dX1_run_54 : decode cX1_run 54 = .ok (.astore 5, 2) := dk_58 5 (dk_at dksX1_run_2 7 rfl rfl)
theorem dX1_run_56 : decode cX1_run 56 = .ok (.aload_n 0, 1) := dk_42 (dk_at dksX1_run_2 9 rfl rfl)
theorem dX1_run_57 : decode cX1_run 57 = .ok (.getfield 10, 3) := dk_180 0 10 (dk_at dksX1_run_2 10 rfl rfl)
theorem dX1_run_60 : decode cX1_run 60 = .ok (.aload_n 0, 1) := dk_42 (dk_at dksX1_run_2 13 rfl rfl)
theorem dX1_run_61 : decode cX1_run 61 = .ok (.getfield 23, 3) := dk_180 0 23 (dk_at dksX1_run_2 14 rfl rfl)
theorem dX1_run_64 : decode cX1_run 64 = .ok (.iload_n 3, 1) := dk_29 (dk_at dksX1_run_2 17 rfl rfl)
theorem dX1_run_65 : decode cX1_run 65 = .ok (.iload 4, 2) := dk_21 4 (dk_at dksX1_run_2 18 rfl rfl)
theorem dX1_run_67 : decode cX1_run 67 = .ok (.aload 5, 2) := dk_25 5 (dk_at dksX1_run_2 20 rfl rfl)
theorem dX1_run_69 : decode cX1_run 69 = .ok (.iconst 0, 1) := dk_3 (dk_at dksX1_run_2 22 rfl rfl)
theorem dX1_run_70 : decode cX1_run 70 = .ok (.invokevirtual 67, 3) := dk_182 0 67 (dk_at dksX1_run_3 0 rfl rfl)
theorem dX1_run_73 : decode cX1_run 73 = .ok (.pop, 1) := dk_87 (dk_at dksX1_run_3 3 rfl rfl)
theorem dX1_run_74 : decode cX1_run 74 = .ok (.aload_n 0, 1) := dk_42 (dk_at dksX1_run_3 4 rfl rfl)
theorem dX1_run_75 : decode cX1_run 75 = .ok (.aload 5, 2) := dk_25 5 (dk_at dksX1_run_3 5 rfl rfl)
theorem dX1_run_77 : decode cX1_run 77 = .ok (.putfield 26, 3) := dk_181 0 26 (dk_at dksX1_run_3 7 rfl rfl)
theorem dX1_run_80 : decode cX1_run 80 = .ok (.iload 4, 2) := dk_21 4 (dk_at dksX1_run_3 10 rfl rfl)
theorem dX1_run_82 : decode cX1_run 82 = .ok (.ireturn, 1) := dk_172 (dk_at dksX1_run_3 12 rfl rfl)
abbrev cX1_from : ByteArray := prog_4_method_5_code
def yX1_from : MethodName := ⟨RX1, "from", "(I)I"⟩
def dkwX1_from_0 : List UInt8 := [27, 18, 41, 126, 42, 180, 0, 29, 4, 96, 112, 172]
abbrev dktX1_from_0 : List UInt8 := dkwX1_from_0 ++ []
theorem dksX1_from_0 : cX1_from.data.toList.drop 0 = dktX1_from_0 := by decide +kernel
theorem dX1_from_0 : decode cX1_from 0 = .ok (.iload_n 1, 1) := dk_27 (dk_at dksX1_from_0 0 rfl rfl)
theorem dX1_from_1 : decode cX1_from 1 = .ok (.ldc 41, 2) := dk_18 41 (dk_at dksX1_from_0 1 rfl rfl)
theorem dX1_from_3 : decode cX1_from 3 = .ok (.iand, 1) := dk_126 (dk_at dksX1_from_0 3 rfl rfl)
theorem dX1_from_4 : decode cX1_from 4 = .ok (.aload_n 0, 1) := dk_42 (dk_at dksX1_from_0 4 rfl rfl)
theorem dX1_from_5 : decode cX1_from 5 = .ok (.getfield 29, 3) := dk_180 0 29 (dk_at dksX1_from_0 5 rfl rfl)
theorem dX1_from_8 : decode cX1_from 8 = .ok (.iconst 1, 1) := dk_4 (dk_at dksX1_from_0 8 rfl rfl)
theorem dX1_from_9 : decode cX1_from 9 = .ok (.iadd, 1) := dk_96 (dk_at dksX1_from_0 9 rfl rfl)
theorem dX1_from_10 : decode cX1_from 10 = .ok (.irem, 1) := dk_112 (dk_at dksX1_from_0 10 rfl rfl)
theorem dX1_from_11 : decode cX1_from 11 = .ok (.ireturn, 1) := dk_172 (dk_at dksX1_from_0 11 rfl rfl)
abbrev cX1_count : ByteArray := prog_4_method_6_code
def yX1_count : MethodName := ⟨RX1, "count", "(II)I"⟩
def dkwX1_count_0 : List UInt8 := [28, 18, 41, 126, 42, 180, 0, 29, 27, 100, 4, 96, 112, 172]
abbrev dktX1_count_0 : List UInt8 := dkwX1_count_0 ++ []
theorem dksX1_count_0 : cX1_count.data.toList.drop 0 = dktX1_count_0 := by decide +kernel
theorem dX1_count_0 : decode cX1_count 0 = .ok (.iload_n 2, 1) := dk_28 (dk_at dksX1_count_0 0 rfl rfl)
theorem dX1_count_1 : decode cX1_count 1 = .ok (.ldc 41, 2) := dk_18 41 (dk_at dksX1_count_0 1 rfl rfl)
theorem dX1_count_3 : decode cX1_count 3 = .ok (.iand, 1) := dk_126 (dk_at dksX1_count_0 3 rfl rfl)
theorem dX1_count_4 : decode cX1_count 4 = .ok (.aload_n 0, 1) := dk_42 (dk_at dksX1_count_0 4 rfl rfl)
theorem dX1_count_5 : decode cX1_count 5 = .ok (.getfield 29, 3) := dk_180 0 29 (dk_at dksX1_count_0 5 rfl rfl)
theorem dX1_count_8 : decode cX1_count 8 = .ok (.iload_n 1, 1) := dk_27 (dk_at dksX1_count_0 8 rfl rfl)
theorem dX1_count_9 : decode cX1_count 9 = .ok (.isub, 1) := dk_100 (dk_at dksX1_count_0 9 rfl rfl)
theorem dX1_count_10 : decode cX1_count 10 = .ok (.iconst 1, 1) := dk_4 (dk_at dksX1_count_0 10 rfl rfl)
theorem dX1_count_11 : decode cX1_count 11 = .ok (.iadd, 1) := dk_96 (dk_at dksX1_count_0 11 rfl rfl)
theorem dX1_count_12 : decode cX1_count 12 = .ok (.irem, 1) := dk_112 (dk_at dksX1_count_0 12 rfl rfl)
theorem dX1_count_13 : decode cX1_count 13 = .ok (.ireturn, 1) := dk_172 (dk_at dksX1_count_0 13 rfl rfl)
abbrev cX1_one : ByteArray := prog_4_method_11_code
def yX1_one : MethodName := ⟨RX1, "one", "(I)I"⟩
def dkwX1_one_1 : List UInt8 := [180, 0, 60, 4, 96, 181, 0, 60, 42, 180, 0, 10, 27, 145, 182, 0, 71, 17, 0, 255, 126, 172]
abbrev dktX1_one_1 : List UInt8 := dkwX1_one_1 ++ []
def dkwX1_one_0 : List UInt8 := [42, 180, 0, 56, 154, 0, 5, 2, 172, 42, 180, 0, 60, 17, 4, 0, 161, 0, 6, 16, 254, 172, 42, 89]
abbrev dktX1_one_0 : List UInt8 := dkwX1_one_0 ++ dktX1_one_1
theorem dksX1_one_0 : cX1_one.data.toList.drop 0 = dktX1_one_0 := by decide +kernel
theorem dksX1_one_1 : cX1_one.data.toList.drop 24 = dktX1_one_1 := dk_seg dksX1_one_0 24 rfl rfl
theorem dX1_one_0 : decode cX1_one 0 = .ok (.aload_n 0, 1) := dk_42 (dk_at dksX1_one_0 0 rfl rfl)
theorem dX1_one_1 : decode cX1_one 1 = .ok (.getfield 56, 3) := dk_180 0 56 (dk_at dksX1_one_0 1 rfl rfl)
theorem dX1_one_4 : decode cX1_one 4 = .ok (.ifCond .ne 5, 3) := dk_154 0 5 (dk_at dksX1_one_0 4 rfl rfl)
theorem dX1_one_7 : decode cX1_one 7 = .ok (.iconst (-1), 1) := dk_2 (dk_at dksX1_one_0 7 rfl rfl)
theorem dX1_one_8 : decode cX1_one 8 = .ok (.ireturn, 1) := dk_172 (dk_at dksX1_one_0 8 rfl rfl)
theorem dX1_one_9 : decode cX1_one 9 = .ok (.aload_n 0, 1) := dk_42 (dk_at dksX1_one_0 9 rfl rfl)
theorem dX1_one_10 : decode cX1_one 10 = .ok (.getfield 60, 3) := dk_180 0 60 (dk_at dksX1_one_0 10 rfl rfl)
theorem dX1_one_13 : decode cX1_one 13 = .ok (.sipush 1024, 3) := dk_17 4 0 (dk_at dksX1_one_0 13 rfl rfl)
theorem dX1_one_16 : decode cX1_one 16 = .ok (.if_icmp .lt 6, 3) := dk_161 0 6 (dk_at dksX1_one_0 16 rfl rfl)
theorem dX1_one_19 : decode cX1_one 19 = .ok (.bipush (-2), 2) := dk_16 254 (dk_at dksX1_one_0 19 rfl rfl)
theorem dX1_one_21 : decode cX1_one 21 = .ok (.ireturn, 1) := dk_172 (dk_at dksX1_one_0 21 rfl rfl)
theorem dX1_one_22 : decode cX1_one 22 = .ok (.aload_n 0, 1) := dk_42 (dk_at dksX1_one_0 22 rfl rfl)
theorem dX1_one_23 : decode cX1_one 23 = .ok (.dup, 1) := dk_89 (dk_at dksX1_one_0 23 rfl rfl)
theorem dX1_one_24 : decode cX1_one 24 = .ok (.getfield 60, 3) := dk_180 0 60 (dk_at dksX1_one_1 0 rfl rfl)
theorem dX1_one_27 : decode cX1_one 27 = .ok (.iconst 1, 1) := dk_4 (dk_at dksX1_one_1 3 rfl rfl)
theorem dX1_one_28 : decode cX1_one 28 = .ok (.iadd, 1) := dk_96 (dk_at dksX1_one_1 4 rfl rfl)
theorem dX1_one_29 : decode cX1_one 29 = .ok (.putfield 60, 3) := dk_181 0 60 (dk_at dksX1_one_1 5 rfl rfl)
theorem dX1_one_32 : decode cX1_one 32 = .ok (.aload_n 0, 1) := dk_42 (dk_at dksX1_one_1 8 rfl rfl)
theorem dX1_one_33 : decode cX1_one 33 = .ok (.getfield 10, 3) := dk_180 0 10 (dk_at dksX1_one_1 9 rfl rfl)
theorem dX1_one_36 : decode cX1_one 36 = .ok (.iload_n 1, 1) := dk_27 (dk_at dksX1_one_1 12 rfl rfl)
theorem dX1_one_37 : decode cX1_one 37 = .ok (.i2b, 1) := dk_145 (dk_at dksX1_one_1 13 rfl rfl)
theorem dX1_one_38 : decode cX1_one 38 = .ok (.invokevirtual 71, 3) := dk_182 0 71 (dk_at dksX1_one_1 14 rfl rfl)
theorem dX1_one_41 : decode cX1_one 41 = .ok (.sipush 255, 3) := dk_17 0 255 (dk_at dksX1_one_1 17 rfl rfl)
theorem dX1_one_44 : decode cX1_one 44 = .ok (.iand, 1) := dk_126 (dk_at dksX1_one_1 20 rfl rfl)
theorem dX1_one_45 : decode cX1_one 45 = .ok (.ireturn, 1) := dk_172 (dk_at dksX1_one_1 21 rfl rfl)
abbrev cX1_again : ByteArray := prog_4_method_12_code
def yX1_again : MethodName := ⟨RX1, "again", "()V"⟩
def dkwX1_again_0 : List UInt8 := [42, 180, 0, 56, 153, 0, 15, 42, 180, 0, 10, 182, 0, 75, 42, 3, 181, 0, 60, 177]
abbrev dktX1_again_0 : List UInt8 := dkwX1_again_0 ++ []
theorem dksX1_again_0 : cX1_again.data.toList.drop 0 = dktX1_again_0 := by decide +kernel
theorem dX1_again_0 : decode cX1_again 0 = .ok (.aload_n 0, 1) := dk_42 (dk_at dksX1_again_0 0 rfl rfl)
theorem dX1_again_1 : decode cX1_again 1 = .ok (.getfield 56, 3) := dk_180 0 56 (dk_at dksX1_again_0 1 rfl rfl)
theorem dX1_again_4 : decode cX1_again 4 = .ok (.ifCond .eq 15, 3) := dk_153 0 15 (dk_at dksX1_again_0 4 rfl rfl)
theorem dX1_again_7 : decode cX1_again 7 = .ok (.aload_n 0, 1) := dk_42 (dk_at dksX1_again_0 7 rfl rfl)
theorem dX1_again_8 : decode cX1_again 8 = .ok (.getfield 10, 3) := dk_180 0 10 (dk_at dksX1_again_0 8 rfl rfl)
theorem dX1_again_11 : decode cX1_again 11 = .ok (.invokevirtual 75, 3) := dk_182 0 75 (dk_at dksX1_again_0 11 rfl rfl)
theorem dX1_again_14 : decode cX1_again 14 = .ok (.aload_n 0, 1) := dk_42 (dk_at dksX1_again_0 14 rfl rfl)
theorem dX1_again_15 : decode cX1_again 15 = .ok (.iconst 0, 1) := dk_3 (dk_at dksX1_again_0 15 rfl rfl)
theorem dX1_again_16 : decode cX1_again 16 = .ok (.putfield 60, 3) := dk_181 0 60 (dk_at dksX1_again_0 16 rfl rfl)
theorem dX1_again_19 : decode cX1_again 19 = .ok (.return_, 1) := dk_177 (dk_at dksX1_again_0 19 rfl rfl)
abbrev cX1_out : ByteArray := prog_4_method_13_code
def yX1_out : MethodName := ⟨RX1, "out", "(I)I"⟩
def dkwX1_out_1 : List UInt8 := [190, 112, 51, 17, 0, 255, 126, 172]
abbrev dktX1_out_1 : List UInt8 := dkwX1_out_1 ++ []
def dkwX1_out_0 : List UInt8 := [42, 180, 0, 26, 190, 154, 0, 7, 2, 167, 0, 22, 42, 180, 0, 26, 27, 18, 41, 126, 42, 180, 0, 26]
abbrev dktX1_out_0 : List UInt8 := dkwX1_out_0 ++ dktX1_out_1
theorem dksX1_out_0 : cX1_out.data.toList.drop 0 = dktX1_out_0 := by decide +kernel
theorem dksX1_out_1 : cX1_out.data.toList.drop 24 = dktX1_out_1 := dk_seg dksX1_out_0 24 rfl rfl
theorem dX1_out_0 : decode cX1_out 0 = .ok (.aload_n 0, 1) := dk_42 (dk_at dksX1_out_0 0 rfl rfl)
theorem dX1_out_1 : decode cX1_out 1 = .ok (.getfield 26, 3) := dk_180 0 26 (dk_at dksX1_out_0 1 rfl rfl)
theorem dX1_out_4 : decode cX1_out 4 = .ok (.arraylength, 1) := dk_190 (dk_at dksX1_out_0 4 rfl rfl)
theorem dX1_out_5 : decode cX1_out 5 = .ok (.ifCond .ne 7, 3) := dk_154 0 7 (dk_at dksX1_out_0 5 rfl rfl)
theorem dX1_out_8 : decode cX1_out 8 = .ok (.iconst (-1), 1) := dk_2 (dk_at dksX1_out_0 8 rfl rfl)
theorem dX1_out_9 : decode cX1_out 9 = .ok (.goto 22, 3) := dk_167 0 22 (dk_at dksX1_out_0 9 rfl rfl)
theorem dX1_out_12 : decode cX1_out 12 = .ok (.aload_n 0, 1) := dk_42 (dk_at dksX1_out_0 12 rfl rfl)
theorem dX1_out_13 : decode cX1_out 13 = .ok (.getfield 26, 3) := dk_180 0 26 (dk_at dksX1_out_0 13 rfl rfl)
theorem dX1_out_16 : decode cX1_out 16 = .ok (.iload_n 1, 1) := dk_27 (dk_at dksX1_out_0 16 rfl rfl)
theorem dX1_out_17 : decode cX1_out 17 = .ok (.ldc 41, 2) := dk_18 41 (dk_at dksX1_out_0 17 rfl rfl)
theorem dX1_out_19 : decode cX1_out 19 = .ok (.iand, 1) := dk_126 (dk_at dksX1_out_0 19 rfl rfl)
theorem dX1_out_20 : decode cX1_out 20 = .ok (.aload_n 0, 1) := dk_42 (dk_at dksX1_out_0 20 rfl rfl)
theorem dX1_out_21 : decode cX1_out 21 = .ok (.getfield 26, 3) := dk_180 0 26 (dk_at dksX1_out_0 21 rfl rfl)
theorem dX1_out_24 : decode cX1_out 24 = .ok (.arraylength, 1) := dk_190 (dk_at dksX1_out_1 0 rfl rfl)
theorem dX1_out_25 : decode cX1_out 25 = .ok (.irem, 1) := dk_112 (dk_at dksX1_out_1 1 rfl rfl)
theorem dX1_out_26 : decode cX1_out 26 = .ok (.baload, 1) := dk_51 (dk_at dksX1_out_1 2 rfl rfl)
theorem dX1_out_27 : decode cX1_out 27 = .ok (.sipush 255, 3) := dk_17 0 255 (dk_at dksX1_out_1 3 rfl rfl)
theorem dX1_out_30 : decode cX1_out 30 = .ok (.iand, 1) := dk_126 (dk_at dksX1_out_1 6 rfl rfl)
theorem dX1_out_31 : decode cX1_out 31 = .ok (.ireturn, 1) := dk_172 (dk_at dksX1_out_1 7 rfl rfl)
abbrev cX1_init : ByteArray := prog_4_method_1_code
def yX1_init : MethodName := ⟨RX1, "<init>", "()V"⟩
def dkwX1_init_1 : List UInt8 := [16, 32, 188, 8, 181, 0, 20, 42, 17, 1, 0, 188, 8, 181, 0, 23, 42, 3, 188, 8, 181, 0, 26, 177]
abbrev dktX1_init_1 : List UInt8 := dkwX1_init_1 ++ []
def dkwX1_init_0 : List UInt8 := [42, 183, 0, 1, 42, 187, 0, 7, 89, 183, 0, 9, 181, 0, 10, 42, 16, 32, 188, 8, 181, 0, 16, 42]
abbrev dktX1_init_0 : List UInt8 := dkwX1_init_0 ++ dktX1_init_1
theorem dksX1_init_0 : cX1_init.data.toList.drop 0 = dktX1_init_0 := by decide +kernel
theorem dksX1_init_1 : cX1_init.data.toList.drop 24 = dktX1_init_1 := dk_seg dksX1_init_0 24 rfl rfl
theorem dX1_init_0 : decode cX1_init 0 = .ok (.aload_n 0, 1) := dk_42 (dk_at dksX1_init_0 0 rfl rfl)
theorem dX1_init_1 : decode cX1_init 1 = .ok (.invokespecial 1, 3) := dk_183 0 1 (dk_at dksX1_init_0 1 rfl rfl)
theorem dX1_init_4 : decode cX1_init 4 = .ok (.aload_n 0, 1) := dk_42 (dk_at dksX1_init_0 4 rfl rfl)
theorem dX1_init_5 : decode cX1_init 5 = .ok (.new 7, 3) := dk_187 0 7 (dk_at dksX1_init_0 5 rfl rfl)
theorem dX1_init_8 : decode cX1_init 8 = .ok (.dup, 1) := dk_89 (dk_at dksX1_init_0 8 rfl rfl)
theorem dX1_init_9 : decode cX1_init 9 = .ok (.invokespecial 9, 3) := dk_183 0 9 (dk_at dksX1_init_0 9 rfl rfl)
theorem dX1_init_12 : decode cX1_init 12 = .ok (.putfield 10, 3) := dk_181 0 10 (dk_at dksX1_init_0 12 rfl rfl)
theorem dX1_init_15 : decode cX1_init 15 = .ok (.aload_n 0, 1) := dk_42 (dk_at dksX1_init_0 15 rfl rfl)
theorem dX1_init_16 : decode cX1_init 16 = .ok (.bipush 32, 2) := dk_16 32 (dk_at dksX1_init_0 16 rfl rfl)
theorem dX1_init_18 : decode cX1_init 18 = .ok (.newarray .byte, 2) := dk_188_8 (dk_at dksX1_init_0 18 rfl rfl)
theorem dX1_init_20 : decode cX1_init 20 = .ok (.putfield 16, 3) := dk_181 0 16 (dk_at dksX1_init_0 20 rfl rfl)
theorem dX1_init_23 : decode cX1_init 23 = .ok (.aload_n 0, 1) := dk_42 (dk_at dksX1_init_0 23 rfl rfl)
theorem dX1_init_24 : decode cX1_init 24 = .ok (.bipush 32, 2) := dk_16 32 (dk_at dksX1_init_1 0 rfl rfl)
theorem dX1_init_26 : decode cX1_init 26 = .ok (.newarray .byte, 2) := dk_188_8 (dk_at dksX1_init_1 2 rfl rfl)
theorem dX1_init_28 : decode cX1_init 28 = .ok (.putfield 20, 3) := dk_181 0 20 (dk_at dksX1_init_1 4 rfl rfl)
theorem dX1_init_31 : decode cX1_init 31 = .ok (.aload_n 0, 1) := dk_42 (dk_at dksX1_init_1 7 rfl rfl)
theorem dX1_init_32 : decode cX1_init 32 = .ok (.sipush 256, 3) := dk_17 1 0 (dk_at dksX1_init_1 8 rfl rfl)
theorem dX1_init_35 : decode cX1_init 35 = .ok (.newarray .byte, 2) := dk_188_8 (dk_at dksX1_init_1 11 rfl rfl)
theorem dX1_init_37 : decode cX1_init 37 = .ok (.putfield 23, 3) := dk_181 0 23 (dk_at dksX1_init_1 13 rfl rfl)
theorem dX1_init_40 : decode cX1_init 40 = .ok (.aload_n 0, 1) := dk_42 (dk_at dksX1_init_1 16 rfl rfl)
theorem dX1_init_41 : decode cX1_init 41 = .ok (.iconst 0, 1) := dk_3 (dk_at dksX1_init_1 17 rfl rfl)
theorem dX1_init_42 : decode cX1_init 42 = .ok (.newarray .byte, 2) := dk_188_8 (dk_at dksX1_init_1 18 rfl rfl)
theorem dX1_init_44 : decode cX1_init 44 = .ok (.putfield 26, 3) := dk_181 0 26 (dk_at dksX1_init_1 20 rfl rfl)
theorem dX1_init_47 : decode cX1_init 47 = .ok (.return_, 1) := dk_177 (dk_at dksX1_init_1 23 rfl rfl)
abbrev cX1_put : ByteArray := prog_4_method_2_code
def yX1_put : MethodName := ⟨RX1, "put", "(IIII)Z"⟩
def dkwX1_put_3 : List UInt8 := [96, 21, 4, 184, 0, 33, 42, 89, 180, 0, 29, 16, 16, 96, 181, 0, 29, 4, 172]
abbrev dktX1_put_3 : List UInt8 := dkwX1_put_3 ++ []
def dkwX1_put_2 : List UInt8 := [180, 0, 23, 42, 180, 0, 29, 16, 8, 96, 29, 184, 0, 33, 42, 180, 0, 23, 42, 180, 0, 29, 16, 12]
abbrev dktX1_put_2 : List UInt8 := dkwX1_put_2 ++ dktX1_put_3
def dkwX1_put_1 : List UInt8 := [180, 0, 29, 27, 184, 0, 33, 42, 180, 0, 23, 42, 180, 0, 29, 7, 96, 28, 184, 0, 33, 42]
abbrev dktX1_put_1 : List UInt8 := dkwX1_put_1 ++ dktX1_put_2
def dkwX1_put_0 : List UInt8 := [42, 180, 0, 29, 42, 180, 0, 23, 190, 16, 16, 100, 164, 0, 5, 3, 172, 42, 180, 0, 23, 42]
abbrev dktX1_put_0 : List UInt8 := dkwX1_put_0 ++ dktX1_put_1
theorem dksX1_put_0 : cX1_put.data.toList.drop 0 = dktX1_put_0 := by decide +kernel
theorem dksX1_put_1 : cX1_put.data.toList.drop 22 = dktX1_put_1 := dk_seg dksX1_put_0 22 rfl rfl
theorem dksX1_put_2 : cX1_put.data.toList.drop 44 = dktX1_put_2 := dk_seg dksX1_put_1 22 rfl rfl
theorem dksX1_put_3 : cX1_put.data.toList.drop 68 = dktX1_put_3 := dk_seg dksX1_put_2 24 rfl rfl
theorem dX1_put_0 : decode cX1_put 0 = .ok (.aload_n 0, 1) := dk_42 (dk_at dksX1_put_0 0 rfl rfl)
theorem dX1_put_1 : decode cX1_put 1 = .ok (.getfield 29, 3) := dk_180 0 29 (dk_at dksX1_put_0 1 rfl rfl)
theorem dX1_put_4 : decode cX1_put 4 = .ok (.aload_n 0, 1) := dk_42 (dk_at dksX1_put_0 4 rfl rfl)
theorem dX1_put_5 : decode cX1_put 5 = .ok (.getfield 23, 3) := dk_180 0 23 (dk_at dksX1_put_0 5 rfl rfl)
theorem dX1_put_8 : decode cX1_put 8 = .ok (.arraylength, 1) := dk_190 (dk_at dksX1_put_0 8 rfl rfl)
theorem dX1_put_9 : decode cX1_put 9 = .ok (.bipush 16, 2) := dk_16 16 (dk_at dksX1_put_0 9 rfl rfl)
theorem dX1_put_11 : decode cX1_put 11 = .ok (.isub, 1) := dk_100 (dk_at dksX1_put_0 11 rfl rfl)
theorem dX1_put_12 : decode cX1_put 12 = .ok (.if_icmp .le 5, 3) := dk_164 0 5 (dk_at dksX1_put_0 12 rfl rfl)
theorem dX1_put_15 : decode cX1_put 15 = .ok (.iconst 0, 1) := dk_3 (dk_at dksX1_put_0 15 rfl rfl)
theorem dX1_put_16 : decode cX1_put 16 = .ok (.ireturn, 1) := dk_172 (dk_at dksX1_put_0 16 rfl rfl)
theorem dX1_put_17 : decode cX1_put 17 = .ok (.aload_n 0, 1) := dk_42 (dk_at dksX1_put_0 17 rfl rfl)
theorem dX1_put_18 : decode cX1_put 18 = .ok (.getfield 23, 3) := dk_180 0 23 (dk_at dksX1_put_0 18 rfl rfl)
theorem dX1_put_21 : decode cX1_put 21 = .ok (.aload_n 0, 1) := dk_42 (dk_at dksX1_put_0 21 rfl rfl)
theorem dX1_put_22 : decode cX1_put 22 = .ok (.getfield 29, 3) := dk_180 0 29 (dk_at dksX1_put_1 0 rfl rfl)
theorem dX1_put_25 : decode cX1_put 25 = .ok (.iload_n 1, 1) := dk_27 (dk_at dksX1_put_1 3 rfl rfl)
theorem dX1_put_26 : decode cX1_put 26 = .ok (.invokestatic 33, 3) := dk_184 0 33 (dk_at dksX1_put_1 4 rfl rfl)
theorem dX1_put_29 : decode cX1_put 29 = .ok (.aload_n 0, 1) := dk_42 (dk_at dksX1_put_1 7 rfl rfl)
theorem dX1_put_30 : decode cX1_put 30 = .ok (.getfield 23, 3) := dk_180 0 23 (dk_at dksX1_put_1 8 rfl rfl)
theorem dX1_put_33 : decode cX1_put 33 = .ok (.aload_n 0, 1) := dk_42 (dk_at dksX1_put_1 11 rfl rfl)
theorem dX1_put_34 : decode cX1_put 34 = .ok (.getfield 29, 3) := dk_180 0 29 (dk_at dksX1_put_1 12 rfl rfl)
theorem dX1_put_37 : decode cX1_put 37 = .ok (.iconst 4, 1) := dk_7 (dk_at dksX1_put_1 15 rfl rfl)
theorem dX1_put_38 : decode cX1_put 38 = .ok (.iadd, 1) := dk_96 (dk_at dksX1_put_1 16 rfl rfl)
theorem dX1_put_39 : decode cX1_put 39 = .ok (.iload_n 2, 1) := dk_28 (dk_at dksX1_put_1 17 rfl rfl)
theorem dX1_put_40 : decode cX1_put 40 = .ok (.invokestatic 33, 3) := dk_184 0 33 (dk_at dksX1_put_1 18 rfl rfl)
theorem dX1_put_43 : decode cX1_put 43 = .ok (.aload_n 0, 1) := dk_42 (dk_at dksX1_put_1 21 rfl rfl)
theorem dX1_put_44 : decode cX1_put 44 = .ok (.getfield 23, 3) := dk_180 0 23 (dk_at dksX1_put_2 0 rfl rfl)
theorem dX1_put_47 : decode cX1_put 47 = .ok (.aload_n 0, 1) := dk_42 (dk_at dksX1_put_2 3 rfl rfl)
theorem dX1_put_48 : decode cX1_put 48 = .ok (.getfield 29, 3) := dk_180 0 29 (dk_at dksX1_put_2 4 rfl rfl)
theorem dX1_put_51 : decode cX1_put 51 = .ok (.bipush 8, 2) := dk_16 8 (dk_at dksX1_put_2 7 rfl rfl)
theorem dX1_put_53 : decode cX1_put 53 = .ok (.iadd, 1) := dk_96 (dk_at dksX1_put_2 9 rfl rfl)
theorem dX1_put_54 : decode cX1_put 54 = .ok (.iload_n 3, 1) := dk_29 (dk_at dksX1_put_2 10 rfl rfl)
theorem dX1_put_55 : decode cX1_put 55 = .ok (.invokestatic 33, 3) := dk_184 0 33 (dk_at dksX1_put_2 11 rfl rfl)
theorem dX1_put_58 : decode cX1_put 58 = .ok (.aload_n 0, 1) := dk_42 (dk_at dksX1_put_2 14 rfl rfl)
theorem dX1_put_59 : decode cX1_put 59 = .ok (.getfield 23, 3) := dk_180 0 23 (dk_at dksX1_put_2 15 rfl rfl)
theorem dX1_put_62 : decode cX1_put 62 = .ok (.aload_n 0, 1) := dk_42 (dk_at dksX1_put_2 18 rfl rfl)
theorem dX1_put_63 : decode cX1_put 63 = .ok (.getfield 29, 3) := dk_180 0 29 (dk_at dksX1_put_2 19 rfl rfl)
theorem dX1_put_66 : decode cX1_put 66 = .ok (.bipush 12, 2) := dk_16 12 (dk_at dksX1_put_2 22 rfl rfl)
theorem dX1_put_68 : decode cX1_put 68 = .ok (.iadd, 1) := dk_96 (dk_at dksX1_put_3 0 rfl rfl)
theorem dX1_put_69 : decode cX1_put 69 = .ok (.iload 4, 2) := dk_21 4 (dk_at dksX1_put_3 1 rfl rfl)
theorem dX1_put_71 : decode cX1_put 71 = .ok (.invokestatic 33, 3) := dk_184 0 33 (dk_at dksX1_put_3 3 rfl rfl)
theorem dX1_put_74 : decode cX1_put 74 = .ok (.aload_n 0, 1) := dk_42 (dk_at dksX1_put_3 6 rfl rfl)
theorem dX1_put_75 : decode cX1_put 75 = .ok (.dup, 1) := dk_89 (dk_at dksX1_put_3 7 rfl rfl)
theorem dX1_put_76 : decode cX1_put 76 = .ok (.getfield 29, 3) := dk_180 0 29 (dk_at dksX1_put_3 8 rfl rfl)
theorem dX1_put_79 : decode cX1_put 79 = .ok (.bipush 16, 2) := dk_16 16 (dk_at dksX1_put_3 11 rfl rfl)
theorem dX1_put_81 : decode cX1_put 81 = .ok (.iadd, 1) := dk_96 (dk_at dksX1_put_3 13 rfl rfl)
theorem dX1_put_82 : decode cX1_put 82 = .ok (.putfield 29, 3) := dk_181 0 29 (dk_at dksX1_put_3 14 rfl rfl)
theorem dX1_put_85 : decode cX1_put 85 = .ok (.iconst 1, 1) := dk_4 (dk_at dksX1_put_3 17 rfl rfl)
theorem dX1_put_86 : decode cX1_put 86 = .ok (.ireturn, 1) := dk_172 (dk_at dksX1_put_3 18 rfl rfl)
abbrev cX1_word : ByteArray := prog_4_method_3_code
def yX1_word : MethodName := ⟨RX1, "word", "([BII)V"⟩
def dkwX1_word_1 : List UInt8 := [16, 8, 122, 145, 84, 42, 27, 6, 96, 28, 145, 84, 177]
abbrev dktX1_word_1 : List UInt8 := dkwX1_word_1 ++ []
def dkwX1_word_0 : List UInt8 := [42, 27, 28, 16, 24, 122, 145, 84, 42, 27, 4, 96, 28, 16, 16, 122, 145, 84, 42, 27, 5, 96, 28]
abbrev dktX1_word_0 : List UInt8 := dkwX1_word_0 ++ dktX1_word_1
theorem dksX1_word_0 : cX1_word.data.toList.drop 0 = dktX1_word_0 := by decide +kernel
theorem dksX1_word_1 : cX1_word.data.toList.drop 23 = dktX1_word_1 := dk_seg dksX1_word_0 23 rfl rfl
theorem dX1_word_0 : decode cX1_word 0 = .ok (.aload_n 0, 1) := dk_42 (dk_at dksX1_word_0 0 rfl rfl)
theorem dX1_word_1 : decode cX1_word 1 = .ok (.iload_n 1, 1) := dk_27 (dk_at dksX1_word_0 1 rfl rfl)
theorem dX1_word_2 : decode cX1_word 2 = .ok (.iload_n 2, 1) := dk_28 (dk_at dksX1_word_0 2 rfl rfl)
theorem dX1_word_3 : decode cX1_word 3 = .ok (.bipush 24, 2) := dk_16 24 (dk_at dksX1_word_0 3 rfl rfl)
theorem dX1_word_5 : decode cX1_word 5 = .ok (.ishr, 1) := dk_122 (dk_at dksX1_word_0 5 rfl rfl)
theorem dX1_word_6 : decode cX1_word 6 = .ok (.i2b, 1) := dk_145 (dk_at dksX1_word_0 6 rfl rfl)
theorem dX1_word_7 : decode cX1_word 7 = .ok (.bastore, 1) := dk_84 (dk_at dksX1_word_0 7 rfl rfl)
theorem dX1_word_8 : decode cX1_word 8 = .ok (.aload_n 0, 1) := dk_42 (dk_at dksX1_word_0 8 rfl rfl)
theorem dX1_word_9 : decode cX1_word 9 = .ok (.iload_n 1, 1) := dk_27 (dk_at dksX1_word_0 9 rfl rfl)
theorem dX1_word_10 : decode cX1_word 10 = .ok (.iconst 1, 1) := dk_4 (dk_at dksX1_word_0 10 rfl rfl)
theorem dX1_word_11 : decode cX1_word 11 = .ok (.iadd, 1) := dk_96 (dk_at dksX1_word_0 11 rfl rfl)
theorem dX1_word_12 : decode cX1_word 12 = .ok (.iload_n 2, 1) := dk_28 (dk_at dksX1_word_0 12 rfl rfl)
theorem dX1_word_13 : decode cX1_word 13 = .ok (.bipush 16, 2) := dk_16 16 (dk_at dksX1_word_0 13 rfl rfl)
theorem dX1_word_15 : decode cX1_word 15 = .ok (.ishr, 1) := dk_122 (dk_at dksX1_word_0 15 rfl rfl)
theorem dX1_word_16 : decode cX1_word 16 = .ok (.i2b, 1) := dk_145 (dk_at dksX1_word_0 16 rfl rfl)
theorem dX1_word_17 : decode cX1_word 17 = .ok (.bastore, 1) := dk_84 (dk_at dksX1_word_0 17 rfl rfl)
theorem dX1_word_18 : decode cX1_word 18 = .ok (.aload_n 0, 1) := dk_42 (dk_at dksX1_word_0 18 rfl rfl)
theorem dX1_word_19 : decode cX1_word 19 = .ok (.iload_n 1, 1) := dk_27 (dk_at dksX1_word_0 19 rfl rfl)
theorem dX1_word_20 : decode cX1_word 20 = .ok (.iconst 2, 1) := dk_5 (dk_at dksX1_word_0 20 rfl rfl)
theorem dX1_word_21 : decode cX1_word 21 = .ok (.iadd, 1) := dk_96 (dk_at dksX1_word_0 21 rfl rfl)
theorem dX1_word_22 : decode cX1_word 22 = .ok (.iload_n 2, 1) := dk_28 (dk_at dksX1_word_0 22 rfl rfl)
theorem dX1_word_23 : decode cX1_word 23 = .ok (.bipush 8, 2) := dk_16 8 (dk_at dksX1_word_1 0 rfl rfl)
theorem dX1_word_25 : decode cX1_word 25 = .ok (.ishr, 1) := dk_122 (dk_at dksX1_word_1 2 rfl rfl)
theorem dX1_word_26 : decode cX1_word 26 = .ok (.i2b, 1) := dk_145 (dk_at dksX1_word_1 3 rfl rfl)
theorem dX1_word_27 : decode cX1_word 27 = .ok (.bastore, 1) := dk_84 (dk_at dksX1_word_1 4 rfl rfl)
theorem dX1_word_28 : decode cX1_word 28 = .ok (.aload_n 0, 1) := dk_42 (dk_at dksX1_word_1 5 rfl rfl)
theorem dX1_word_29 : decode cX1_word 29 = .ok (.iload_n 1, 1) := dk_27 (dk_at dksX1_word_1 6 rfl rfl)
theorem dX1_word_30 : decode cX1_word 30 = .ok (.iconst 3, 1) := dk_6 (dk_at dksX1_word_1 7 rfl rfl)
theorem dX1_word_31 : decode cX1_word 31 = .ok (.iadd, 1) := dk_96 (dk_at dksX1_word_1 8 rfl rfl)
theorem dX1_word_32 : decode cX1_word 32 = .ok (.iload_n 2, 1) := dk_28 (dk_at dksX1_word_1 9 rfl rfl)
theorem dX1_word_33 : decode cX1_word 33 = .ok (.i2b, 1) := dk_145 (dk_at dksX1_word_1 10 rfl rfl)
theorem dX1_word_34 : decode cX1_word 34 = .ok (.bastore, 1) := dk_84 (dk_at dksX1_word_1 11 rfl rfl)
theorem dX1_word_35 : decode cX1_word 35 = .ok (.return_, 1) := dk_177 (dk_at dksX1_word_1 12 rfl rfl)
abbrev cX1_trim : ByteArray := prog_4_method_4_code
def yX1_trim : MethodName := ⟨RX1, "trim", "(I)V"⟩
def dkwX1_trim_0 : List UInt8 := [42, 42, 27, 182, 0, 37, 181, 0, 29, 177]
abbrev dktX1_trim_0 : List UInt8 := dkwX1_trim_0 ++ []
theorem dksX1_trim_0 : cX1_trim.data.toList.drop 0 = dktX1_trim_0 := by decide +kernel
theorem dX1_trim_0 : decode cX1_trim 0 = .ok (.aload_n 0, 1) := dk_42 (dk_at dksX1_trim_0 0 rfl rfl)
theorem dX1_trim_1 : decode cX1_trim 1 = .ok (.aload_n 0, 1) := dk_42 (dk_at dksX1_trim_0 1 rfl rfl)
theorem dX1_trim_2 : decode cX1_trim 2 = .ok (.iload_n 1, 1) := dk_27 (dk_at dksX1_trim_0 2 rfl rfl)
theorem dX1_trim_3 : decode cX1_trim 3 = .ok (.invokevirtual 37, 3) := dk_182 0 37 (dk_at dksX1_trim_0 3 rfl rfl)
theorem dX1_trim_6 : decode cX1_trim 6 = .ok (.putfield 29, 3) := dk_181 0 29 (dk_at dksX1_trim_0 6 rfl rfl)
theorem dX1_trim_9 : decode cX1_trim 9 = .ok (.return_, 1) := dk_177 (dk_at dksX1_trim_0 9 rfl rfl)
abbrev cX1_key : ByteArray := prog_4_method_7_code
def yX1_key : MethodName := ⟨RX1, "key", "(IIIII)V"⟩
def dkwX1_key_2 : List UInt8 := [21, 6, 16, 12, 96, 21, 5, 184, 0, 33, 177]
abbrev dktX1_key_2 : List UInt8 := dkwX1_key_2 ++ []
def dkwX1_key_1 : List UInt8 := [96, 29, 184, 0, 33, 42, 180, 0, 16, 21, 6, 16, 8, 96, 21, 4, 184, 0, 33, 42, 180, 0, 16]
abbrev dktX1_key_1 : List UInt8 := dkwX1_key_1 ++ dktX1_key_2
def dkwX1_key_0 : List UInt8 := [27, 4, 126, 7, 120, 54, 6, 42, 180, 0, 16, 21, 6, 28, 184, 0, 33, 42, 180, 0, 16, 21, 6, 7]
abbrev dktX1_key_0 : List UInt8 := dkwX1_key_0 ++ dktX1_key_1
theorem dksX1_key_0 : cX1_key.data.toList.drop 0 = dktX1_key_0 := by decide +kernel
theorem dksX1_key_1 : cX1_key.data.toList.drop 24 = dktX1_key_1 := dk_seg dksX1_key_0 24 rfl rfl
theorem dksX1_key_2 : cX1_key.data.toList.drop 47 = dktX1_key_2 := dk_seg dksX1_key_1 23 rfl rfl
theorem dX1_key_0 : decode cX1_key 0 = .ok (.iload_n 1, 1) := dk_27 (dk_at dksX1_key_0 0 rfl rfl)
theorem dX1_key_1 : decode cX1_key 1 = .ok (.iconst 1, 1) := dk_4 (dk_at dksX1_key_0 1 rfl rfl)
theorem dX1_key_2 : decode cX1_key 2 = .ok (.iand, 1) := dk_126 (dk_at dksX1_key_0 2 rfl rfl)
theorem dX1_key_3 : decode cX1_key 3 = .ok (.iconst 4, 1) := dk_7 (dk_at dksX1_key_0 3 rfl rfl)
theorem dX1_key_4 : decode cX1_key 4 = .ok (.ishl, 1) := dk_120 (dk_at dksX1_key_0 4 rfl rfl)
theorem dX1_key_5 : decode cX1_key 5 = .ok (.istore 6, 2) := dk_54 6 (dk_at dksX1_key_0 5 rfl rfl)
theorem dX1_key_7 : decode cX1_key 7 = .ok (.aload_n 0, 1) := dk_42 (dk_at dksX1_key_0 7 rfl rfl)
theorem dX1_key_8 : decode cX1_key 8 = .ok (.getfield 16, 3) := dk_180 0 16 (dk_at dksX1_key_0 8 rfl rfl)
theorem dX1_key_11 : decode cX1_key 11 = .ok (.iload 6, 2) := dk_21 6 (dk_at dksX1_key_0 11 rfl rfl)
theorem dX1_key_13 : decode cX1_key 13 = .ok (.iload_n 2, 1) := dk_28 (dk_at dksX1_key_0 13 rfl rfl)
theorem dX1_key_14 : decode cX1_key 14 = .ok (.invokestatic 33, 3) := dk_184 0 33 (dk_at dksX1_key_0 14 rfl rfl)
theorem dX1_key_17 : decode cX1_key 17 = .ok (.aload_n 0, 1) := dk_42 (dk_at dksX1_key_0 17 rfl rfl)
theorem dX1_key_18 : decode cX1_key 18 = .ok (.getfield 16, 3) := dk_180 0 16 (dk_at dksX1_key_0 18 rfl rfl)
theorem dX1_key_21 : decode cX1_key 21 = .ok (.iload 6, 2) := dk_21 6 (dk_at dksX1_key_0 21 rfl rfl)
theorem dX1_key_23 : decode cX1_key 23 = .ok (.iconst 4, 1) := dk_7 (dk_at dksX1_key_0 23 rfl rfl)
theorem dX1_key_24 : decode cX1_key 24 = .ok (.iadd, 1) := dk_96 (dk_at dksX1_key_1 0 rfl rfl)
theorem dX1_key_25 : decode cX1_key 25 = .ok (.iload_n 3, 1) := dk_29 (dk_at dksX1_key_1 1 rfl rfl)
theorem dX1_key_26 : decode cX1_key 26 = .ok (.invokestatic 33, 3) := dk_184 0 33 (dk_at dksX1_key_1 2 rfl rfl)
theorem dX1_key_29 : decode cX1_key 29 = .ok (.aload_n 0, 1) := dk_42 (dk_at dksX1_key_1 5 rfl rfl)
theorem dX1_key_30 : decode cX1_key 30 = .ok (.getfield 16, 3) := dk_180 0 16 (dk_at dksX1_key_1 6 rfl rfl)
theorem dX1_key_33 : decode cX1_key 33 = .ok (.iload 6, 2) := dk_21 6 (dk_at dksX1_key_1 9 rfl rfl)
theorem dX1_key_35 : decode cX1_key 35 = .ok (.bipush 8, 2) := dk_16 8 (dk_at dksX1_key_1 11 rfl rfl)
theorem dX1_key_37 : decode cX1_key 37 = .ok (.iadd, 1) := dk_96 (dk_at dksX1_key_1 13 rfl rfl)
theorem dX1_key_38 : decode cX1_key 38 = .ok (.iload 4, 2) := dk_21 4 (dk_at dksX1_key_1 14 rfl rfl)
theorem dX1_key_40 : decode cX1_key 40 = .ok (.invokestatic 33, 3) := dk_184 0 33 (dk_at dksX1_key_1 16 rfl rfl)
theorem dX1_key_43 : decode cX1_key 43 = .ok (.aload_n 0, 1) := dk_42 (dk_at dksX1_key_1 19 rfl rfl)
theorem dX1_key_44 : decode cX1_key 44 = .ok (.getfield 16, 3) := dk_180 0 16 (dk_at dksX1_key_1 20 rfl rfl)
theorem dX1_key_47 : decode cX1_key 47 = .ok (.iload 6, 2) := dk_21 6 (dk_at dksX1_key_2 0 rfl rfl)
theorem dX1_key_49 : decode cX1_key 49 = .ok (.bipush 12, 2) := dk_16 12 (dk_at dksX1_key_2 2 rfl rfl)
theorem dX1_key_51 : decode cX1_key 51 = .ok (.iadd, 1) := dk_96 (dk_at dksX1_key_2 4 rfl rfl)
theorem dX1_key_52 : decode cX1_key 52 = .ok (.iload 5, 2) := dk_21 5 (dk_at dksX1_key_2 5 rfl rfl)
theorem dX1_key_54 : decode cX1_key 54 = .ok (.invokestatic 33, 3) := dk_184 0 33 (dk_at dksX1_key_2 7 rfl rfl)
theorem dX1_key_57 : decode cX1_key 57 = .ok (.return_, 1) := dk_177 (dk_at dksX1_key_2 10 rfl rfl)
abbrev cX1_nonce : ByteArray := prog_4_method_8_code
def yX1_nonce : MethodName := ⟨RX1, "nonce", "(IIIII)V"⟩
def dkwX1_nonce_2 : List UInt8 := [21, 6, 16, 12, 96, 21, 5, 184, 0, 33, 177]
abbrev dktX1_nonce_2 : List UInt8 := dkwX1_nonce_2 ++ []
def dkwX1_nonce_1 : List UInt8 := [96, 29, 184, 0, 33, 42, 180, 0, 20, 21, 6, 16, 8, 96, 21, 4, 184, 0, 33, 42, 180, 0, 20]
abbrev dktX1_nonce_1 : List UInt8 := dkwX1_nonce_1 ++ dktX1_nonce_2
def dkwX1_nonce_0 : List UInt8 := [27, 4, 126, 7, 120, 54, 6, 42, 180, 0, 20, 21, 6, 28, 184, 0, 33, 42, 180, 0, 20, 21, 6, 7]
abbrev dktX1_nonce_0 : List UInt8 := dkwX1_nonce_0 ++ dktX1_nonce_1
theorem dksX1_nonce_0 : cX1_nonce.data.toList.drop 0 = dktX1_nonce_0 := by decide +kernel
theorem dksX1_nonce_1 : cX1_nonce.data.toList.drop 24 = dktX1_nonce_1 := dk_seg dksX1_nonce_0 24 rfl rfl
theorem dksX1_nonce_2 : cX1_nonce.data.toList.drop 47 = dktX1_nonce_2 := dk_seg dksX1_nonce_1 23 rfl rfl
theorem dX1_nonce_0 : decode cX1_nonce 0 = .ok (.iload_n 1, 1) := dk_27 (dk_at dksX1_nonce_0 0 rfl rfl)
theorem dX1_nonce_1 : decode cX1_nonce 1 = .ok (.iconst 1, 1) := dk_4 (dk_at dksX1_nonce_0 1 rfl rfl)
theorem dX1_nonce_2 : decode cX1_nonce 2 = .ok (.iand, 1) := dk_126 (dk_at dksX1_nonce_0 2 rfl rfl)
theorem dX1_nonce_3 : decode cX1_nonce 3 = .ok (.iconst 4, 1) := dk_7 (dk_at dksX1_nonce_0 3 rfl rfl)
theorem dX1_nonce_4 : decode cX1_nonce 4 = .ok (.ishl, 1) := dk_120 (dk_at dksX1_nonce_0 4 rfl rfl)
theorem dX1_nonce_5 : decode cX1_nonce 5 = .ok (.istore 6, 2) := dk_54 6 (dk_at dksX1_nonce_0 5 rfl rfl)
theorem dX1_nonce_7 : decode cX1_nonce 7 = .ok (.aload_n 0, 1) := dk_42 (dk_at dksX1_nonce_0 7 rfl rfl)
theorem dX1_nonce_8 : decode cX1_nonce 8 = .ok (.getfield 20, 3) := dk_180 0 20 (dk_at dksX1_nonce_0 8 rfl rfl)
theorem dX1_nonce_11 : decode cX1_nonce 11 = .ok (.iload 6, 2) := dk_21 6 (dk_at dksX1_nonce_0 11 rfl rfl)
theorem dX1_nonce_13 : decode cX1_nonce 13 = .ok (.iload_n 2, 1) := dk_28 (dk_at dksX1_nonce_0 13 rfl rfl)
theorem dX1_nonce_14 : decode cX1_nonce 14 = .ok (.invokestatic 33, 3) := dk_184 0 33 (dk_at dksX1_nonce_0 14 rfl rfl)
theorem dX1_nonce_17 : decode cX1_nonce 17 = .ok (.aload_n 0, 1) := dk_42 (dk_at dksX1_nonce_0 17 rfl rfl)
theorem dX1_nonce_18 : decode cX1_nonce 18 = .ok (.getfield 20, 3) := dk_180 0 20 (dk_at dksX1_nonce_0 18 rfl rfl)
theorem dX1_nonce_21 : decode cX1_nonce 21 = .ok (.iload 6, 2) := dk_21 6 (dk_at dksX1_nonce_0 21 rfl rfl)
theorem dX1_nonce_23 : decode cX1_nonce 23 = .ok (.iconst 4, 1) := dk_7 (dk_at dksX1_nonce_0 23 rfl rfl)
theorem dX1_nonce_24 : decode cX1_nonce 24 = .ok (.iadd, 1) := dk_96 (dk_at dksX1_nonce_1 0 rfl rfl)
theorem dX1_nonce_25 : decode cX1_nonce 25 = .ok (.iload_n 3, 1) := dk_29 (dk_at dksX1_nonce_1 1 rfl rfl)
theorem dX1_nonce_26 : decode cX1_nonce 26 = .ok (.invokestatic 33, 3) := dk_184 0 33 (dk_at dksX1_nonce_1 2 rfl rfl)
theorem dX1_nonce_29 : decode cX1_nonce 29 = .ok (.aload_n 0, 1) := dk_42 (dk_at dksX1_nonce_1 5 rfl rfl)
theorem dX1_nonce_30 : decode cX1_nonce 30 = .ok (.getfield 20, 3) := dk_180 0 20 (dk_at dksX1_nonce_1 6 rfl rfl)
theorem dX1_nonce_33 : decode cX1_nonce 33 = .ok (.iload 6, 2) := dk_21 6 (dk_at dksX1_nonce_1 9 rfl rfl)
theorem dX1_nonce_35 : decode cX1_nonce 35 = .ok (.bipush 8, 2) := dk_16 8 (dk_at dksX1_nonce_1 11 rfl rfl)
theorem dX1_nonce_37 : decode cX1_nonce 37 = .ok (.iadd, 1) := dk_96 (dk_at dksX1_nonce_1 13 rfl rfl)
theorem dX1_nonce_38 : decode cX1_nonce 38 = .ok (.iload 4, 2) := dk_21 4 (dk_at dksX1_nonce_1 14 rfl rfl)
theorem dX1_nonce_40 : decode cX1_nonce 40 = .ok (.invokestatic 33, 3) := dk_184 0 33 (dk_at dksX1_nonce_1 16 rfl rfl)
theorem dX1_nonce_43 : decode cX1_nonce 43 = .ok (.aload_n 0, 1) := dk_42 (dk_at dksX1_nonce_1 19 rfl rfl)
theorem dX1_nonce_44 : decode cX1_nonce 44 = .ok (.getfield 20, 3) := dk_180 0 20 (dk_at dksX1_nonce_1 20 rfl rfl)
theorem dX1_nonce_47 : decode cX1_nonce 47 = .ok (.iload 6, 2) := dk_21 6 (dk_at dksX1_nonce_2 0 rfl rfl)
theorem dX1_nonce_49 : decode cX1_nonce 49 = .ok (.bipush 12, 2) := dk_16 12 (dk_at dksX1_nonce_2 2 rfl rfl)
theorem dX1_nonce_51 : decode cX1_nonce 51 = .ok (.iadd, 1) := dk_96 (dk_at dksX1_nonce_2 4 rfl rfl)
theorem dX1_nonce_52 : decode cX1_nonce 52 = .ok (.iload 5, 2) := dk_21 5 (dk_at dksX1_nonce_2 5 rfl rfl)
theorem dX1_nonce_54 : decode cX1_nonce 54 = .ok (.invokestatic 33, 3) := dk_184 0 33 (dk_at dksX1_nonce_2 7 rfl rfl)
theorem dX1_nonce_57 : decode cX1_nonce 57 = .ok (.return_, 1) := dk_177 (dk_at dksX1_nonce_2 10 rfl rfl)
abbrev cX1_begin : ByteArray := prog_4_method_9_code
def yX1_begin : MethodName := ⟨RX1, "begin", "(I)V"⟩
def dkwX1_begin_4 : List UInt8 := [4, 25, 4, 182, 0, 52, 42, 4, 181, 0, 56, 42, 3, 181, 0, 60, 177]
abbrev dktX1_begin_4 : List UInt8 := dkwX1_begin_4 ++ []
def dkwX1_begin_3 : List UInt8 := [183, 0, 46, 45, 183, 0, 49, 58, 4, 42, 187, 0, 7, 89, 183, 0, 9, 181, 0, 10, 42, 180, 0, 10]
abbrev dktX1_begin_3 : List UInt8 := dkwX1_begin_3 ++ dktX1_begin_4
def dkwX1_begin_2 : List UInt8 := [42, 180, 0, 20, 21, 4, 51, 84, 132, 4, 1, 167, 255, 235, 187, 0, 42, 89, 187, 0, 44, 89, 44]
abbrev dktX1_begin_2 : List UInt8 := dkwX1_begin_2 ++ dktX1_begin_3
def dkwX1_begin_1 : List UInt8 := [132, 3, 1, 167, 255, 238, 16, 16, 188, 8, 78, 3, 54, 4, 21, 4, 16, 16, 162, 0, 20, 45, 21, 4]
abbrev dktX1_begin_1 : List UInt8 := dkwX1_begin_1 ++ dktX1_begin_2
def dkwX1_begin_0 : List UInt8 := [16, 16, 188, 8, 77, 3, 62, 29, 44, 190, 162, 0, 18, 44, 29, 42, 180, 0, 16, 29, 51, 84]
abbrev dktX1_begin_0 : List UInt8 := dkwX1_begin_0 ++ dktX1_begin_1
theorem dksX1_begin_0 : cX1_begin.data.toList.drop 0 = dktX1_begin_0 := by decide +kernel
theorem dksX1_begin_1 : cX1_begin.data.toList.drop 22 = dktX1_begin_1 := dk_seg dksX1_begin_0 22 rfl rfl
theorem dksX1_begin_2 : cX1_begin.data.toList.drop 46 = dktX1_begin_2 := dk_seg dksX1_begin_1 24 rfl rfl
theorem dksX1_begin_3 : cX1_begin.data.toList.drop 69 = dktX1_begin_3 := dk_seg dksX1_begin_2 23 rfl rfl
theorem dksX1_begin_4 : cX1_begin.data.toList.drop 93 = dktX1_begin_4 := dk_seg dksX1_begin_3 24 rfl rfl
theorem dX1_begin_0 : decode cX1_begin 0 = .ok (.bipush 16, 2) := dk_16 16 (dk_at dksX1_begin_0 0 rfl rfl)
theorem dX1_begin_2 : decode cX1_begin 2 = .ok (.newarray .byte, 2) := dk_188_8 (dk_at dksX1_begin_0 2 rfl rfl)
theorem dX1_begin_4 : decode cX1_begin 4 = .ok (.astore_n 2, 1) := dk_77 (dk_at dksX1_begin_0 4 rfl rfl)
theorem dX1_begin_5 : decode cX1_begin 5 = .ok (.iconst 0, 1) := dk_3 (dk_at dksX1_begin_0 5 rfl rfl)
theorem dX1_begin_6 : decode cX1_begin 6 = .ok (.istore_n 3, 1) := dk_62 (dk_at dksX1_begin_0 6 rfl rfl)
theorem dX1_begin_7 : decode cX1_begin 7 = .ok (.iload_n 3, 1) := dk_29 (dk_at dksX1_begin_0 7 rfl rfl)
theorem dX1_begin_8 : decode cX1_begin 8 = .ok (.aload_n 2, 1) := dk_44 (dk_at dksX1_begin_0 8 rfl rfl)
theorem dX1_begin_9 : decode cX1_begin 9 = .ok (.arraylength, 1) := dk_190 (dk_at dksX1_begin_0 9 rfl rfl)
theorem dX1_begin_10 : decode cX1_begin 10 = .ok (.if_icmp .ge 18, 3) := dk_162 0 18 (dk_at dksX1_begin_0 10 rfl rfl)
theorem dX1_begin_13 : decode cX1_begin 13 = .ok (.aload_n 2, 1) := dk_44 (dk_at dksX1_begin_0 13 rfl rfl)
theorem dX1_begin_14 : decode cX1_begin 14 = .ok (.iload_n 3, 1) := dk_29 (dk_at dksX1_begin_0 14 rfl rfl)
theorem dX1_begin_15 : decode cX1_begin 15 = .ok (.aload_n 0, 1) := dk_42 (dk_at dksX1_begin_0 15 rfl rfl)
theorem dX1_begin_16 : decode cX1_begin 16 = .ok (.getfield 16, 3) := dk_180 0 16 (dk_at dksX1_begin_0 16 rfl rfl)
theorem dX1_begin_19 : decode cX1_begin 19 = .ok (.iload_n 3, 1) := dk_29 (dk_at dksX1_begin_0 19 rfl rfl)
theorem dX1_begin_20 : decode cX1_begin 20 = .ok (.baload, 1) := dk_51 (dk_at dksX1_begin_0 20 rfl rfl)
theorem dX1_begin_21 : decode cX1_begin 21 = .ok (.bastore, 1) := dk_84 (dk_at dksX1_begin_0 21 rfl rfl)
theorem dX1_begin_22 : decode cX1_begin 22 = .ok (.iinc 3 1, 3) := dk_132 3 1 (dk_at dksX1_begin_1 0 rfl rfl)
theorem dX1_begin_25 : decode cX1_begin 25 = .ok (.goto (-18), 3) := dk_167 255 238 (dk_at dksX1_begin_1 3 rfl rfl)
theorem dX1_begin_28 : decode cX1_begin 28 = .ok (.bipush 16, 2) := dk_16 16 (dk_at dksX1_begin_1 6 rfl rfl)
theorem dX1_begin_30 : decode cX1_begin 30 = .ok (.newarray .byte, 2) := dk_188_8 (dk_at dksX1_begin_1 8 rfl rfl)
theorem dX1_begin_32 : decode cX1_begin 32 = .ok (.astore_n 3, 1) := dk_78 (dk_at dksX1_begin_1 10 rfl rfl)
theorem dX1_begin_33 : decode cX1_begin 33 = .ok (.iconst 0, 1) := dk_3 (dk_at dksX1_begin_1 11 rfl rfl)
theorem dX1_begin_34 : decode cX1_begin 34 = .ok (.istore 4, 2) := dk_54 4 (dk_at dksX1_begin_1 12 rfl rfl)
theorem dX1_begin_36 : decode cX1_begin 36 = .ok (.iload 4, 2) := dk_21 4 (dk_at dksX1_begin_1 14 rfl rfl)
theorem dX1_begin_38 : decode cX1_begin 38 = .ok (.bipush 16, 2) := dk_16 16 (dk_at dksX1_begin_1 16 rfl rfl)
theorem dX1_begin_40 : decode cX1_begin 40 = .ok (.if_icmp .ge 20, 3) := dk_162 0 20 (dk_at dksX1_begin_1 18 rfl rfl)
theorem dX1_begin_43 : decode cX1_begin 43 = .ok (.aload_n 3, 1) := dk_45 (dk_at dksX1_begin_1 21 rfl rfl)
theorem dX1_begin_44 : decode cX1_begin 44 = .ok (.iload 4, 2) := dk_21 4 (dk_at dksX1_begin_1 22 rfl rfl)
theorem dX1_begin_46 : decode cX1_begin 46 = .ok (.aload_n 0, 1) := dk_42 (dk_at dksX1_begin_2 0 rfl rfl)
theorem dX1_begin_47 : decode cX1_begin 47 = .ok (.getfield 20, 3) := dk_180 0 20 (dk_at dksX1_begin_2 1 rfl rfl)
theorem dX1_begin_50 : decode cX1_begin 50 = .ok (.iload 4, 2) := dk_21 4 (dk_at dksX1_begin_2 4 rfl rfl)
theorem dX1_begin_52 : decode cX1_begin 52 = .ok (.baload, 1) := dk_51 (dk_at dksX1_begin_2 6 rfl rfl)
theorem dX1_begin_53 : decode cX1_begin 53 = .ok (.bastore, 1) := dk_84 (dk_at dksX1_begin_2 7 rfl rfl)
theorem dX1_begin_54 : decode cX1_begin 54 = .ok (.iinc 4 1, 3) := dk_132 4 1 (dk_at dksX1_begin_2 8 rfl rfl)
theorem dX1_begin_57 : decode cX1_begin 57 = .ok (.goto (-21), 3) := dk_167 255 235 (dk_at dksX1_begin_2 11 rfl rfl)
theorem dX1_begin_60 : decode cX1_begin 60 = .ok (.new 42, 3) := dk_187 0 42 (dk_at dksX1_begin_2 14 rfl rfl)
theorem dX1_begin_63 : decode cX1_begin 63 = .ok (.dup, 1) := dk_89 (dk_at dksX1_begin_2 17 rfl rfl)
theorem dX1_begin_64 : decode cX1_begin 64 = .ok (.new 44, 3) := dk_187 0 44 (dk_at dksX1_begin_2 18 rfl rfl)
theorem dX1_begin_67 : decode cX1_begin 67 = .ok (.dup, 1) := dk_89 (dk_at dksX1_begin_2 21 rfl rfl)
theorem dX1_begin_68 : decode cX1_begin 68 = .ok (.aload_n 2, 1) := dk_44 (dk_at dksX1_begin_2 22 rfl rfl)
theorem dX1_begin_69 : decode cX1_begin 69 = .ok (.invokespecial 46, 3) := dk_183 0 46 (dk_at dksX1_begin_3 0 rfl rfl)
theorem dX1_begin_72 : decode cX1_begin 72 = .ok (.aload_n 3, 1) := dk_45 (dk_at dksX1_begin_3 3 rfl rfl)
theorem dX1_begin_73 : decode cX1_begin 73 = .ok (.invokespecial 49, 3) := dk_183 0 49 (dk_at dksX1_begin_3 4 rfl rfl)
theorem dX1_begin_76 : decode cX1_begin 76 = .ok (.astore 4, 2) := dk_58 4 (dk_at dksX1_begin_3 7 rfl rfl)
theorem dX1_begin_78 : decode cX1_begin 78 = .ok (.aload_n 0, 1) := dk_42 (dk_at dksX1_begin_3 9 rfl rfl)
theorem dX1_begin_79 : decode cX1_begin 79 = .ok (.new 7, 3) := dk_187 0 7 (dk_at dksX1_begin_3 10 rfl rfl)
theorem dX1_begin_82 : decode cX1_begin 82 = .ok (.dup, 1) := dk_89 (dk_at dksX1_begin_3 13 rfl rfl)
theorem dX1_begin_83 : decode cX1_begin 83 = .ok (.invokespecial 9, 3) := dk_183 0 9 (dk_at dksX1_begin_3 14 rfl rfl)
theorem dX1_begin_86 : decode cX1_begin 86 = .ok (.putfield 10, 3) := dk_181 0 10 (dk_at dksX1_begin_3 17 rfl rfl)
theorem dX1_begin_89 : decode cX1_begin 89 = .ok (.aload_n 0, 1) := dk_42 (dk_at dksX1_begin_3 20 rfl rfl)
theorem dX1_begin_90 : decode cX1_begin 90 = .ok (.getfield 10, 3) := dk_180 0 10 (dk_at dksX1_begin_3 21 rfl rfl)
theorem dX1_begin_93 : decode cX1_begin 93 = .ok (.iconst 1, 1) := dk_4 (dk_at dksX1_begin_4 0 rfl rfl)
theorem dX1_begin_94 : decode cX1_begin 94 = .ok (.aload 4, 2) := dk_25 4 (dk_at dksX1_begin_4 1 rfl rfl)
theorem dX1_begin_96 : decode cX1_begin 96 = .ok (.invokevirtual 52, 3) := dk_182 0 52 (dk_at dksX1_begin_4 3 rfl rfl)
theorem dX1_begin_99 : decode cX1_begin 99 = .ok (.aload_n 0, 1) := dk_42 (dk_at dksX1_begin_4 6 rfl rfl)
theorem dX1_begin_100 : decode cX1_begin 100 = .ok (.iconst 1, 1) := dk_4 (dk_at dksX1_begin_4 7 rfl rfl)
theorem dX1_begin_101 : decode cX1_begin 101 = .ok (.putfield 56, 3) := dk_181 0 56 (dk_at dksX1_begin_4 8 rfl rfl)
theorem dX1_begin_104 : decode cX1_begin 104 = .ok (.aload_n 0, 1) := dk_42 (dk_at dksX1_begin_4 11 rfl rfl)
theorem dX1_begin_105 : decode cX1_begin 105 = .ok (.iconst 0, 1) := dk_3 (dk_at dksX1_begin_4 12 rfl rfl)
theorem dX1_begin_106 : decode cX1_begin 106 = .ok (.putfield 60, 3) := dk_181 0 60 (dk_at dksX1_begin_4 13 rfl rfl)
theorem dX1_begin_109 : decode cX1_begin 109 = .ok (.return_, 1) := dk_177 (dk_at dksX1_begin_4 16 rfl rfl)
theorem q11 : (Jvm.Cond.initialized "HcDesk") ∈ lw_all := lw_g (lw_at lw_m1 1 rfl) rfl
theorem q25 : (Jvm.Cond.instanceMethod ({ cls := "HcDesk", name := "run", desc := "(II)I" } : Jvm.MethodName)) ∈ lw_all := lw_g (lw_at lw_m1 15 rfl) rfl
theorem q26 : (Jvm.Cond.selects "HcDesk" ({ cls := "HcDesk", name := "run", desc := "(II)I" } : Jvm.MethodName) ({ cls := "HcDesk", name := "run", desc := "(II)I" } : Jvm.MethodName)) ∈ lw_all := lw_g (lw_at lw_m1 16 rfl) rfl
theorem q27 : (Jvm.Cond.code ({ cls := "HcDesk", name := "run", desc := "(II)I" } : Jvm.MethodName) prog_4_method_10_code (6 : Nat) (Option.some Jvm.ClassFile.FieldType.int)) ∈ lw_all := lw_g (lw_at lw_m1 17 rfl) rfl
theorem q28 : (Jvm.Cond.methodLink "HcDesk" (37 : Nat) ({ cls := "HcDesk", name := "from", desc := "(I)I" } : Jvm.MethodName)) ∈ lw_all := lw_g (lw_at lw_m1 18 rfl) rfl
theorem q29 : (Jvm.Cond.privateMethod ({ cls := "HcDesk", name := "from", desc := "(I)I" } : Jvm.MethodName)) ∈ lw_tbl := lw_at lw_m1 19 rfl
theorem q30 : (Jvm.Cond.instanceMethod ({ cls := "HcDesk", name := "from", desc := "(I)I" } : Jvm.MethodName)) ∈ lw_all := lw_g (lw_at lw_m1 20 rfl) rfl
theorem q31 : (Jvm.Cond.instantiable "HcDesk" (8 : Nat)) ∈ lw_all := lw_g (lw_at lw_m1 21 rfl) rfl
theorem q32 : (Jvm.Cond.code ({ cls := "HcDesk", name := "from", desc := "(I)I" } : Jvm.MethodName) prog_4_method_5_code (2 : Nat) (Option.some Jvm.ClassFile.FieldType.int)) ∈ lw_all := lw_g (lw_at lw_m1 22 rfl) rfl
theorem q33 : (Jvm.Cond.constant "HcDesk" (41 : Nat) (2147483647 : Int32)) ∈ lw_all := lw_g (lw_at lw_m1 23 rfl) rfl
theorem q34 : (Jvm.Cond.methodLink "HcDesk" (63 : Nat) ({ cls := "HcDesk", name := "count", desc := "(II)I" } : Jvm.MethodName)) ∈ lw_all := lw_g (lw_at lw_m1 24 rfl) rfl
theorem q35 : (Jvm.Cond.privateMethod ({ cls := "HcDesk", name := "count", desc := "(II)I" } : Jvm.MethodName)) ∈ lw_tbl := lw_at lw_m1 25 rfl
theorem q36 : (Jvm.Cond.instanceMethod ({ cls := "HcDesk", name := "count", desc := "(II)I" } : Jvm.MethodName)) ∈ lw_all := lw_g (lw_at lw_m1 26 rfl) rfl
theorem q37 : (Jvm.Cond.code ({ cls := "HcDesk", name := "count", desc := "(II)I" } : Jvm.MethodName) prog_4_method_6_code (3 : Nat) (Option.some Jvm.ClassFile.FieldType.int)) ∈ lw_all := lw_g (lw_at lw_m1 27 rfl) rfl
theorem q38 : (Jvm.Cond.methodLink "HcDesk" (67 : Nat) ({ cls := "HC128Engine", name := "processBytes", desc := "([BII[BI)I" } : Jvm.MethodName)) ∈ lw_all := lw_g (lw_at lw_m1 28 rfl) rfl
theorem q191 : (Jvm.Cond.instanceMethod ({ cls := "HcDesk", name := "one", desc := "(I)I" } : Jvm.MethodName)) ∈ lw_all := lw_g (lw_at lw_m1 181 rfl) rfl
theorem q192 : (Jvm.Cond.selects "HcDesk" ({ cls := "HcDesk", name := "one", desc := "(I)I" } : Jvm.MethodName) ({ cls := "HcDesk", name := "one", desc := "(I)I" } : Jvm.MethodName)) ∈ lw_all := lw_g (lw_at lw_m1 182 rfl) rfl
theorem q193 : (Jvm.Cond.code ({ cls := "HcDesk", name := "one", desc := "(I)I" } : Jvm.MethodName) prog_4_method_11_code (2 : Nat) (Option.some Jvm.ClassFile.FieldType.int)) ∈ lw_all := lw_g (lw_at lw_m1 183 rfl) rfl
theorem q194 : (Jvm.Cond.methodLink "HcDesk" (71 : Nat) ({ cls := "HC128Engine", name := "returnByte", desc := "(B)B" } : Jvm.MethodName)) ∈ lw_all := lw_g (lw_at lw_m1 184 rfl) rfl
theorem q199 : (Jvm.Cond.instanceMethod ({ cls := "HcDesk", name := "again", desc := "()V" } : Jvm.MethodName)) ∈ lw_all := lw_g (lw_at lw_m1 189 rfl) rfl
theorem q200 : (Jvm.Cond.selects "HcDesk" ({ cls := "HcDesk", name := "again", desc := "()V" } : Jvm.MethodName) ({ cls := "HcDesk", name := "again", desc := "()V" } : Jvm.MethodName)) ∈ lw_all := lw_g (lw_at lw_m1 190 rfl) rfl
theorem q201 : (Jvm.Cond.code ({ cls := "HcDesk", name := "again", desc := "()V" } : Jvm.MethodName) prog_4_method_12_code (1 : Nat) (Option.none : Option Jvm.ClassFile.FieldType)) ∈ lw_all := lw_g (lw_at lw_m1 191 rfl) rfl
theorem q202 : (Jvm.Cond.methodLink "HcDesk" (75 : Nat) ({ cls := "HC128Engine", name := "reset", desc := "()V" } : Jvm.MethodName)) ∈ lw_all := lw_g (lw_at lw_m1 192 rfl) rfl
theorem q238 : (Jvm.Cond.instanceMethod ({ cls := "HcDesk", name := "out", desc := "(I)I" } : Jvm.MethodName)) ∈ lw_all := lw_g (lw_at lw_m1 228 rfl) rfl
theorem q239 : (Jvm.Cond.selects "HcDesk" ({ cls := "HcDesk", name := "out", desc := "(I)I" } : Jvm.MethodName) ({ cls := "HcDesk", name := "out", desc := "(I)I" } : Jvm.MethodName)) ∈ lw_all := lw_g (lw_at lw_m1 229 rfl) rfl
theorem q240 : (Jvm.Cond.code ({ cls := "HcDesk", name := "out", desc := "(I)I" } : Jvm.MethodName) prog_4_method_13_code (2 : Nat) (Option.some Jvm.ClassFile.FieldType.int)) ∈ lw_all := lw_g (lw_at lw_m1 230 rfl) rfl
theorem q249 : (Jvm.Cond.instanceMethod ({ cls := "HcDesk", name := "<init>", desc := "()V" } : Jvm.MethodName)) ∈ lw_all := lw_g (lw_at lw_m1 239 rfl) rfl
theorem q250 : (Jvm.Cond.code ({ cls := "HcDesk", name := "<init>", desc := "()V" } : Jvm.MethodName) prog_4_method_1_code (1 : Nat) (Option.none : Option Jvm.ClassFile.FieldType)) ∈ lw_all := lw_g (lw_at lw_m2 0 rfl) rfl
theorem q251 : (Jvm.Cond.methodLink "HcDesk" (1 : Nat) ({ cls := "java/lang/Object", name := "<init>", desc := "()V" } : Jvm.MethodName)) ∈ lw_all := lw_g (lw_at lw_m2 1 rfl) rfl
theorem q252 : (Jvm.Cond.classLink "HcDesk" (7 : Nat) "HC128Engine") ∈ lw_all := lw_g (lw_at lw_m2 2 rfl) rfl
theorem q253 : (Jvm.Cond.methodLink "HcDesk" (9 : Nat) ({ cls := "HC128Engine", name := "<init>", desc := "()V" } : Jvm.MethodName)) ∈ lw_all := lw_g (lw_at lw_m2 3 rfl) rfl
theorem q282 : (Jvm.Cond.fieldLink "HcDesk" (10 : Nat) "HcDesk" "run" "LHC128Engine;") ∈ lw_all := lw_g (lw_at lw_m2 32 rfl) rfl
theorem q283 : (Jvm.Cond.fieldLink "HcDesk" (56 : Nat) "HcDesk" "set" "Z") ∈ lw_all := lw_g (lw_at lw_m2 33 rfl) rfl
theorem q284 : (Jvm.Cond.fieldLink "HcDesk" (60 : Nat) "HcDesk" "given" "I") ∈ lw_all := lw_g (lw_at lw_m2 34 rfl) rfl
theorem q285 : (Jvm.Cond.fieldLink "HcDesk" (16 : Nat) "HcDesk" "key" "[B") ∈ lw_all := lw_g (lw_at lw_m2 35 rfl) rfl
theorem q286 : (Jvm.Cond.fieldLink "HcDesk" (20 : Nat) "HcDesk" "nonce" "[B") ∈ lw_all := lw_g (lw_at lw_m2 36 rfl) rfl
theorem q287 : (Jvm.Cond.fieldLink "HcDesk" (23 : Nat) "HcDesk" "text" "[B") ∈ lw_all := lw_g (lw_at lw_m2 37 rfl) rfl
theorem q288 : (Jvm.Cond.fieldLink "HcDesk" (29 : Nat) "HcDesk" "size" "I") ∈ lw_all := lw_g (lw_at lw_m2 38 rfl) rfl
theorem q289 : (Jvm.Cond.fieldLink "HcDesk" (26 : Nat) "HcDesk" "out" "[B") ∈ lw_all := lw_g (lw_at lw_m2 39 rfl) rfl
theorem q290 : (Jvm.Cond.lays "HcDesk" "HcDesk" "run" "LHC128Engine;") ∈ lw_all := lw_g (lw_at lw_m2 40 rfl) rfl
theorem q291 : (Jvm.Cond.soleField "HcDesk" "run") ∈ lw_all := lw_g (lw_at lw_m2 41 rfl) rfl
theorem q292 : (Jvm.Cond.lays "HcDesk" "HcDesk" "set" "Z") ∈ lw_all := lw_g (lw_at lw_m2 42 rfl) rfl
theorem q293 : (Jvm.Cond.soleField "HcDesk" "set") ∈ lw_all := lw_g (lw_at lw_m2 43 rfl) rfl
theorem q294 : (Jvm.Cond.lays "HcDesk" "HcDesk" "given" "I") ∈ lw_all := lw_g (lw_at lw_m2 44 rfl) rfl
theorem q295 : (Jvm.Cond.soleField "HcDesk" "given") ∈ lw_all := lw_g (lw_at lw_m2 45 rfl) rfl
theorem q296 : (Jvm.Cond.laysFinal "HcDesk" "HcDesk" "key" "[B") ∈ lw_all := lw_g (lw_at lw_m2 46 rfl) rfl
theorem q297 : (Jvm.Cond.soleField "HcDesk" "key") ∈ lw_all := lw_g (lw_at lw_m2 47 rfl) rfl
theorem q298 : (Jvm.Cond.laysFinal "HcDesk" "HcDesk" "nonce" "[B") ∈ lw_all := lw_g (lw_at lw_m2 48 rfl) rfl
theorem q299 : (Jvm.Cond.soleField "HcDesk" "nonce") ∈ lw_all := lw_g (lw_at lw_m2 49 rfl) rfl
theorem q300 : (Jvm.Cond.laysFinal "HcDesk" "HcDesk" "text" "[B") ∈ lw_all := lw_g (lw_at lw_m2 50 rfl) rfl
theorem q301 : (Jvm.Cond.soleField "HcDesk" "text") ∈ lw_all := lw_g (lw_at lw_m2 51 rfl) rfl
theorem q302 : (Jvm.Cond.lays "HcDesk" "HcDesk" "size" "I") ∈ lw_all := lw_g (lw_at lw_m2 52 rfl) rfl
theorem q303 : (Jvm.Cond.soleField "HcDesk" "size") ∈ lw_all := lw_g (lw_at lw_m2 53 rfl) rfl
theorem q304 : (Jvm.Cond.lays "HcDesk" "HcDesk" "out" "[B") ∈ lw_all := lw_g (lw_at lw_m2 54 rfl) rfl
theorem q305 : (Jvm.Cond.soleField "HcDesk" "out") ∈ lw_all := lw_g (lw_at lw_m2 55 rfl) rfl
theorem q306 : (Jvm.Cond.superclass "HcDesk" "java/lang/Object") ∈ lw_all := lw_g (lw_at lw_m2 56 rfl) rfl
theorem q308 : (Jvm.Cond.instanceMethod ({ cls := "HcDesk", name := "put", desc := "(IIII)Z" } : Jvm.MethodName)) ∈ lw_all := lw_g (lw_at lw_m2 58 rfl) rfl
theorem q309 : (Jvm.Cond.selects "HcDesk" ({ cls := "HcDesk", name := "put", desc := "(IIII)Z" } : Jvm.MethodName) ({ cls := "HcDesk", name := "put", desc := "(IIII)Z" } : Jvm.MethodName)) ∈ lw_all := lw_g (lw_at lw_m2 59 rfl) rfl
theorem q310 : (Jvm.Cond.code ({ cls := "HcDesk", name := "put", desc := "(IIII)Z" } : Jvm.MethodName) prog_4_method_2_code (5 : Nat) (Option.some Jvm.ClassFile.FieldType.boolean)) ∈ lw_all := lw_g (lw_at lw_m2 60 rfl) rfl
theorem q311 : (Jvm.Cond.methodLink "HcDesk" (33 : Nat) ({ cls := "HcDesk", name := "word", desc := "([BII)V" } : Jvm.MethodName)) ∈ lw_all := lw_g (lw_at lw_m2 61 rfl) rfl
theorem q312 : (Jvm.Cond.static ({ cls := "HcDesk", name := "word", desc := "([BII)V" } : Jvm.MethodName)) ∈ lw_all := lw_g (lw_at lw_m2 62 rfl) rfl
theorem q313 : (Jvm.Cond.code ({ cls := "HcDesk", name := "word", desc := "([BII)V" } : Jvm.MethodName) prog_4_method_3_code (3 : Nat) (Option.none : Option Jvm.ClassFile.FieldType)) ∈ lw_all := lw_g (lw_at lw_m2 63 rfl) rfl
theorem q315 : (Jvm.Cond.instanceMethod ({ cls := "HcDesk", name := "trim", desc := "(I)V" } : Jvm.MethodName)) ∈ lw_all := lw_g (lw_at lw_m2 65 rfl) rfl
theorem q316 : (Jvm.Cond.selects "HcDesk" ({ cls := "HcDesk", name := "trim", desc := "(I)V" } : Jvm.MethodName) ({ cls := "HcDesk", name := "trim", desc := "(I)V" } : Jvm.MethodName)) ∈ lw_all := lw_g (lw_at lw_m2 66 rfl) rfl
theorem q317 : (Jvm.Cond.code ({ cls := "HcDesk", name := "trim", desc := "(I)V" } : Jvm.MethodName) prog_4_method_4_code (2 : Nat) (Option.none : Option Jvm.ClassFile.FieldType)) ∈ lw_all := lw_g (lw_at lw_m2 67 rfl) rfl
theorem q319 : (Jvm.Cond.instanceMethod ({ cls := "HcDesk", name := "key", desc := "(IIIII)V" } : Jvm.MethodName)) ∈ lw_all := lw_g (lw_at lw_m2 69 rfl) rfl
theorem q320 : (Jvm.Cond.selects "HcDesk" ({ cls := "HcDesk", name := "key", desc := "(IIIII)V" } : Jvm.MethodName) ({ cls := "HcDesk", name := "key", desc := "(IIIII)V" } : Jvm.MethodName)) ∈ lw_all := lw_g (lw_at lw_m2 70 rfl) rfl
theorem q321 : (Jvm.Cond.code ({ cls := "HcDesk", name := "key", desc := "(IIIII)V" } : Jvm.MethodName) prog_4_method_7_code (7 : Nat) (Option.none : Option Jvm.ClassFile.FieldType)) ∈ lw_all := lw_g (lw_at lw_m2 71 rfl) rfl
theorem q323 : (Jvm.Cond.instanceMethod ({ cls := "HcDesk", name := "nonce", desc := "(IIIII)V" } : Jvm.MethodName)) ∈ lw_all := lw_g (lw_at lw_m2 73 rfl) rfl
theorem q324 : (Jvm.Cond.selects "HcDesk" ({ cls := "HcDesk", name := "nonce", desc := "(IIIII)V" } : Jvm.MethodName) ({ cls := "HcDesk", name := "nonce", desc := "(IIIII)V" } : Jvm.MethodName)) ∈ lw_all := lw_g (lw_at lw_m2 74 rfl) rfl
theorem q325 : (Jvm.Cond.code ({ cls := "HcDesk", name := "nonce", desc := "(IIIII)V" } : Jvm.MethodName) prog_4_method_8_code (7 : Nat) (Option.none : Option Jvm.ClassFile.FieldType)) ∈ lw_all := lw_g (lw_at lw_m2 75 rfl) rfl
theorem q327 : (Jvm.Cond.instanceMethod ({ cls := "HcDesk", name := "begin", desc := "(I)V" } : Jvm.MethodName)) ∈ lw_all := lw_g (lw_at lw_m2 77 rfl) rfl
theorem q328 : (Jvm.Cond.selects "HcDesk" ({ cls := "HcDesk", name := "begin", desc := "(I)V" } : Jvm.MethodName) ({ cls := "HcDesk", name := "begin", desc := "(I)V" } : Jvm.MethodName)) ∈ lw_all := lw_g (lw_at lw_m2 78 rfl) rfl
theorem q329 : (Jvm.Cond.code ({ cls := "HcDesk", name := "begin", desc := "(I)V" } : Jvm.MethodName) prog_4_method_9_code (5 : Nat) (Option.none : Option Jvm.ClassFile.FieldType)) ∈ lw_all := lw_g (lw_at lw_m2 79 rfl) rfl
theorem q330 : (Jvm.Cond.classLink "HcDesk" (42 : Nat) "ParametersWithIV") ∈ lw_all := lw_g (lw_at lw_m2 80 rfl) rfl
theorem q332 : (Jvm.Cond.classLink "HcDesk" (44 : Nat) "KeyParameter") ∈ lw_all := lw_g (lw_at lw_m2 82 rfl) rfl
theorem q334 : (Jvm.Cond.methodLink "HcDesk" (46 : Nat) ({ cls := "KeyParameter", name := "<init>", desc := "([B)V" } : Jvm.MethodName)) ∈ lw_all := lw_g (lw_at lw_m2 84 rfl) rfl
theorem q349 : (Jvm.Cond.methodLink "HcDesk" (49 : Nat) ({ cls := "ParametersWithIV", name := "<init>", desc := "(LCipherParameters;[B)V" } : Jvm.MethodName)) ∈ lw_all := lw_g (lw_at lw_m2 99 rfl) rfl
theorem q364 : (Jvm.Cond.methodLink "HcDesk" (52 : Nat) ({ cls := "HC128Engine", name := "init", desc := "(ZLCipherParameters;)V" } : Jvm.MethodName)) ∈ lw_all := lw_g (lw_at lw_m2 114 rfl) rfl
theorem in_X1 : ∀ w ∈ wsX10, w ∈ lw_all := lw_in wsX10 [290, 292, 294, 296, 298, 300, 302, 304] (by decide +kernel) (by decide +kernel)
end
section
/-! HcDeskLaw -/
set_option maxRecDepth 100000
def RX0 : String := "HcDeskLaw"
abbrev cX0_cell : ByteArray := method_2_code
def yX0_cell : MethodName := ⟨RX0, "cell", "([II)I"⟩
def dkwX0_cell_0 : List UInt8 := [27, 42, 190, 162, 0, 9, 42, 27, 46, 167, 0, 4, 3, 172]
abbrev dktX0_cell_0 : List UInt8 := dkwX0_cell_0 ++ []
theorem dksX0_cell_0 : cX0_cell.data.toList.drop 0 = dktX0_cell_0 := by decide +kernel
theorem dX0_cell_0 : decode cX0_cell 0 = .ok (.iload_n 1, 1) := dk_27 (dk_at dksX0_cell_0 0 rfl rfl)
theorem dX0_cell_1 : decode cX0_cell 1 = .ok (.aload_n 0, 1) := dk_42 (dk_at dksX0_cell_0 1 rfl rfl)
theorem dX0_cell_2 : decode cX0_cell 2 = .ok (.arraylength, 1) := dk_190 (dk_at dksX0_cell_0 2 rfl rfl)
theorem dX0_cell_3 : decode cX0_cell 3 = .ok (.if_icmp .ge 9, 3) := dk_162 0 9 (dk_at dksX0_cell_0 3 rfl rfl)
theorem dX0_cell_6 : decode cX0_cell 6 = .ok (.aload_n 0, 1) := dk_42 (dk_at dksX0_cell_0 6 rfl rfl)
theorem dX0_cell_7 : decode cX0_cell 7 = .ok (.iload_n 1, 1) := dk_27 (dk_at dksX0_cell_0 7 rfl rfl)
theorem dX0_cell_8 : decode cX0_cell 8 = .ok (.iaload, 1) := dk_46 (dk_at dksX0_cell_0 8 rfl rfl)
theorem dX0_cell_9 : decode cX0_cell 9 = .ok (.goto 4, 3) := dk_167 0 4 (dk_at dksX0_cell_0 9 rfl rfl)
theorem dX0_cell_12 : decode cX0_cell 12 = .ok (.iconst 0, 1) := dk_3 (dk_at dksX0_cell_0 12 rfl rfl)
theorem dX0_cell_13 : decode cX0_cell 13 = .ok (.ireturn, 1) := dk_172 (dk_at dksX0_cell_0 13 rfl rfl)
abbrev cX0_made : ByteArray := method_3_code
def yX0_made : MethodName := ⟨RX0, "made", "([I)LHcDesk;"⟩
def dkwX0_made_7 : List UInt8 := [16, 55, 184, 0, 10, 182, 0, 28, 43, 42, 16, 12, 184, 0, 10, 182, 0, 31, 43, 176]
abbrev dktX0_made_7 : List UInt8 := dkwX0_made_7 ++ []
def dkwX0_made_6 : List UInt8 := [182, 0, 28, 43, 4, 42, 16, 52, 184, 0, 10, 42, 16, 53, 184, 0, 10, 42, 16, 54, 184, 0, 10, 42]
abbrev dktX0_made_6 : List UInt8 := dkwX0_made_6 ++ dktX0_made_7
def dkwX0_made_5 : List UInt8 := [16, 8, 184, 0, 10, 42, 16, 9, 184, 0, 10, 42, 16, 10, 184, 0, 10, 42, 16, 11, 184, 0, 10]
abbrev dktX0_made_5 : List UInt8 := dkwX0_made_5 ++ dktX0_made_6
def dkwX0_made_4 : List UInt8 := [42, 8, 184, 0, 10, 42, 16, 6, 184, 0, 10, 42, 16, 7, 184, 0, 10, 182, 0, 24, 43, 3, 42]
abbrev dktX0_made_4 : List UInt8 := dkwX0_made_4 ++ dktX0_made_5
def dkwX0_made_3 : List UInt8 := [4, 184, 0, 10, 42, 5, 184, 0, 10, 42, 6, 184, 0, 10, 182, 0, 24, 43, 4, 42, 7, 184, 0, 10]
abbrev dktX0_made_3 : List UInt8 := dkwX0_made_3 ++ dktX0_made_4
def dkwX0_made_2 : List UInt8 := [132, 2, 4, 167, 255, 216, 43, 42, 16, 13, 184, 0, 10, 182, 0, 20, 43, 3, 42, 3, 184, 0, 10, 42]
abbrev dktX0_made_2 : List UInt8 := dkwX0_made_2 ++ dktX0_made_3
def dkwX0_made_1 : List UInt8 := [28, 4, 96, 184, 0, 10, 42, 28, 5, 96, 184, 0, 10, 42, 28, 6, 96, 184, 0, 10, 182, 0, 16, 87]
abbrev dktX0_made_1 : List UInt8 := dkwX0_made_1 ++ dktX0_made_2
def dkwX0_made_0 : List UInt8 := [187, 0, 7, 89, 183, 0, 9, 76, 16, 20, 61, 28, 16, 52, 162, 0, 40, 43, 42, 28, 184, 0, 10, 42]
abbrev dktX0_made_0 : List UInt8 := dkwX0_made_0 ++ dktX0_made_1
theorem dksX0_made_0 : cX0_made.data.toList.drop 0 = dktX0_made_0 := by decide +kernel
theorem dksX0_made_1 : cX0_made.data.toList.drop 24 = dktX0_made_1 := dk_seg dksX0_made_0 24 rfl rfl
theorem dksX0_made_2 : cX0_made.data.toList.drop 48 = dktX0_made_2 := dk_seg dksX0_made_1 24 rfl rfl
theorem dksX0_made_3 : cX0_made.data.toList.drop 72 = dktX0_made_3 := dk_seg dksX0_made_2 24 rfl rfl
theorem dksX0_made_4 : cX0_made.data.toList.drop 96 = dktX0_made_4 := dk_seg dksX0_made_3 24 rfl rfl
theorem dksX0_made_5 : cX0_made.data.toList.drop 119 = dktX0_made_5 := dk_seg dksX0_made_4 23 rfl rfl
theorem dksX0_made_6 : cX0_made.data.toList.drop 142 = dktX0_made_6 := dk_seg dksX0_made_5 23 rfl rfl
theorem dksX0_made_7 : cX0_made.data.toList.drop 166 = dktX0_made_7 := dk_seg dksX0_made_6 24 rfl rfl
theorem dX0_made_0 : decode cX0_made 0 = .ok (.new 7, 3) := dk_187 0 7 (dk_at dksX0_made_0 0 rfl rfl)
theorem dX0_made_3 : decode cX0_made 3 = .ok (.dup, 1) := dk_89 (dk_at dksX0_made_0 3 rfl rfl)
theorem dX0_made_4 : decode cX0_made 4 = .ok (.invokespecial 9, 3) := dk_183 0 9 (dk_at dksX0_made_0 4 rfl rfl)
theorem dX0_made_7 : decode cX0_made 7 = .ok (.astore_n 1, 1) := dk_76 (dk_at dksX0_made_0 7 rfl rfl)
theorem dX0_made_8 : decode cX0_made 8 = .ok (.bipush 20, 2) := dk_16 20 (dk_at dksX0_made_0 8 rfl rfl)
theorem dX0_made_10 : decode cX0_made 10 = .ok (.istore_n 2, 1) := dk_61 (dk_at dksX0_made_0 10 rfl rfl)
theorem dX0_made_11 : decode cX0_made 11 = .ok (.iload_n 2, 1) := dk_28 (dk_at dksX0_made_0 11 rfl rfl)
theorem dX0_made_12 : decode cX0_made 12 = .ok (.bipush 52, 2) := dk_16 52 (dk_at dksX0_made_0 12 rfl rfl)
theorem dX0_made_14 : decode cX0_made 14 = .ok (.if_icmp .ge 40, 3) := dk_162 0 40 (dk_at dksX0_made_0 14 rfl rfl)
theorem dX0_made_17 : decode cX0_made 17 = .ok (.aload_n 1, 1) := dk_43 (dk_at dksX0_made_0 17 rfl rfl)
theorem dX0_made_18 : decode cX0_made 18 = .ok (.aload_n 0, 1) := dk_42 (dk_at dksX0_made_0 18 rfl rfl)
theorem dX0_made_19 : decode cX0_made 19 = .ok (.iload_n 2, 1) := dk_28 (dk_at dksX0_made_0 19 rfl rfl)
theorem dX0_made_20 : decode cX0_made 20 = .ok (.invokestatic 10, 3) := dk_184 0 10 (dk_at dksX0_made_0 20 rfl rfl)
theorem dX0_made_23 : decode cX0_made 23 = .ok (.aload_n 0, 1) := dk_42 (dk_at dksX0_made_0 23 rfl rfl)
theorem dX0_made_24 : decode cX0_made 24 = .ok (.iload_n 2, 1) := dk_28 (dk_at dksX0_made_1 0 rfl rfl)
theorem dX0_made_25 : decode cX0_made 25 = .ok (.iconst 1, 1) := dk_4 (dk_at dksX0_made_1 1 rfl rfl)
theorem dX0_made_26 : decode cX0_made 26 = .ok (.iadd, 1) := dk_96 (dk_at dksX0_made_1 2 rfl rfl)
theorem dX0_made_27 : decode cX0_made 27 = .ok (.invokestatic 10, 3) := dk_184 0 10 (dk_at dksX0_made_1 3 rfl rfl)
theorem dX0_made_30 : decode cX0_made 30 = .ok (.aload_n 0, 1) := dk_42 (dk_at dksX0_made_1 6 rfl rfl)
theorem dX0_made_31 : decode cX0_made 31 = .ok (.iload_n 2, 1) := dk_28 (dk_at dksX0_made_1 7 rfl rfl)
theorem dX0_made_32 : decode cX0_made 32 = .ok (.iconst 2, 1) := dk_5 (dk_at dksX0_made_1 8 rfl rfl)
theorem dX0_made_33 : decode cX0_made 33 = .ok (.iadd, 1) := dk_96 (dk_at dksX0_made_1 9 rfl rfl)
theorem dX0_made_34 : decode cX0_made 34 = .ok (.invokestatic 10, 3) := dk_184 0 10 (dk_at dksX0_made_1 10 rfl rfl)
theorem dX0_made_37 : decode cX0_made 37 = .ok (.aload_n 0, 1) := dk_42 (dk_at dksX0_made_1 13 rfl rfl)
theorem dX0_made_38 : decode cX0_made 38 = .ok (.iload_n 2, 1) := dk_28 (dk_at dksX0_made_1 14 rfl rfl)
theorem dX0_made_39 : decode cX0_made 39 = .ok (.iconst 3, 1) := dk_6 (dk_at dksX0_made_1 15 rfl rfl)
theorem dX0_made_40 : decode cX0_made 40 = .ok (.iadd, 1) := dk_96 (dk_at dksX0_made_1 16 rfl rfl)
theorem dX0_made_41 : decode cX0_made 41 = .ok (.invokestatic 10, 3) := dk_184 0 10 (dk_at dksX0_made_1 17 rfl rfl)
theorem dX0_made_44 : decode cX0_made 44 = .ok (.invokevirtual 16, 3) := dk_182 0 16 (dk_at dksX0_made_1 20 rfl rfl)
theorem dX0_made_47 : decode cX0_made 47 = .ok (.pop, 1) := dk_87 (dk_at dksX0_made_1 23 rfl rfl)
theorem dX0_made_48 : decode cX0_made 48 = .ok (.iinc 2 4, 3) := dk_132 2 4 (dk_at dksX0_made_2 0 rfl rfl)
theorem dX0_made_51 : decode cX0_made 51 = .ok (.goto (-40), 3) := dk_167 255 216 (dk_at dksX0_made_2 3 rfl rfl)
theorem dX0_made_54 : decode cX0_made 54 = .ok (.aload_n 1, 1) := dk_43 (dk_at dksX0_made_2 6 rfl rfl)
theorem dX0_made_55 : decode cX0_made 55 = .ok (.aload_n 0, 1) := dk_42 (dk_at dksX0_made_2 7 rfl rfl)
theorem dX0_made_56 : decode cX0_made 56 = .ok (.bipush 13, 2) := dk_16 13 (dk_at dksX0_made_2 8 rfl rfl)
theorem dX0_made_58 : decode cX0_made 58 = .ok (.invokestatic 10, 3) := dk_184 0 10 (dk_at dksX0_made_2 10 rfl rfl)
theorem dX0_made_61 : decode cX0_made 61 = .ok (.invokevirtual 20, 3) := dk_182 0 20 (dk_at dksX0_made_2 13 rfl rfl)
theorem dX0_made_64 : decode cX0_made 64 = .ok (.aload_n 1, 1) := dk_43 (dk_at dksX0_made_2 16 rfl rfl)
theorem dX0_made_65 : decode cX0_made 65 = .ok (.iconst 0, 1) := dk_3 (dk_at dksX0_made_2 17 rfl rfl)
theorem dX0_made_66 : decode cX0_made 66 = .ok (.aload_n 0, 1) := dk_42 (dk_at dksX0_made_2 18 rfl rfl)
theorem dX0_made_67 : decode cX0_made 67 = .ok (.iconst 0, 1) := dk_3 (dk_at dksX0_made_2 19 rfl rfl)
theorem dX0_made_68 : decode cX0_made 68 = .ok (.invokestatic 10, 3) := dk_184 0 10 (dk_at dksX0_made_2 20 rfl rfl)
theorem dX0_made_71 : decode cX0_made 71 = .ok (.aload_n 0, 1) := dk_42 (dk_at dksX0_made_2 23 rfl rfl)
theorem dX0_made_72 : decode cX0_made 72 = .ok (.iconst 1, 1) := dk_4 (dk_at dksX0_made_3 0 rfl rfl)
theorem dX0_made_73 : decode cX0_made 73 = .ok (.invokestatic 10, 3) := dk_184 0 10 (dk_at dksX0_made_3 1 rfl rfl)
theorem dX0_made_76 : decode cX0_made 76 = .ok (.aload_n 0, 1) := dk_42 (dk_at dksX0_made_3 4 rfl rfl)
theorem dX0_made_77 : decode cX0_made 77 = .ok (.iconst 2, 1) := dk_5 (dk_at dksX0_made_3 5 rfl rfl)
theorem dX0_made_78 : decode cX0_made 78 = .ok (.invokestatic 10, 3) := dk_184 0 10 (dk_at dksX0_made_3 6 rfl rfl)
theorem dX0_made_81 : decode cX0_made 81 = .ok (.aload_n 0, 1) := dk_42 (dk_at dksX0_made_3 9 rfl rfl)
theorem dX0_made_82 : decode cX0_made 82 = .ok (.iconst 3, 1) := dk_6 (dk_at dksX0_made_3 10 rfl rfl)
theorem dX0_made_83 : decode cX0_made 83 = .ok (.invokestatic 10, 3) := dk_184 0 10 (dk_at dksX0_made_3 11 rfl rfl)
theorem dX0_made_86 : decode cX0_made 86 = .ok (.invokevirtual 24, 3) := dk_182 0 24 (dk_at dksX0_made_3 14 rfl rfl)
theorem dX0_made_89 : decode cX0_made 89 = .ok (.aload_n 1, 1) := dk_43 (dk_at dksX0_made_3 17 rfl rfl)
theorem dX0_made_90 : decode cX0_made 90 = .ok (.iconst 1, 1) := dk_4 (dk_at dksX0_made_3 18 rfl rfl)
theorem dX0_made_91 : decode cX0_made 91 = .ok (.aload_n 0, 1) := dk_42 (dk_at dksX0_made_3 19 rfl rfl)
theorem dX0_made_92 : decode cX0_made 92 = .ok (.iconst 4, 1) := dk_7 (dk_at dksX0_made_3 20 rfl rfl)
theorem dX0_made_93 : decode cX0_made 93 = .ok (.invokestatic 10, 3) := dk_184 0 10 (dk_at dksX0_made_3 21 rfl rfl)
theorem dX0_made_96 : decode cX0_made 96 = .ok (.aload_n 0, 1) := dk_42 (dk_at dksX0_made_4 0 rfl rfl)
theorem dX0_made_97 : decode cX0_made 97 = .ok (.iconst 5, 1) := dk_8 (dk_at dksX0_made_4 1 rfl rfl)
theorem dX0_made_98 : decode cX0_made 98 = .ok (.invokestatic 10, 3) := dk_184 0 10 (dk_at dksX0_made_4 2 rfl rfl)
theorem dX0_made_101 : decode cX0_made 101 = .ok (.aload_n 0, 1) := dk_42 (dk_at dksX0_made_4 5 rfl rfl)
theorem dX0_made_102 : decode cX0_made 102 = .ok (.bipush 6, 2) := dk_16 6 (dk_at dksX0_made_4 6 rfl rfl)
theorem dX0_made_104 : decode cX0_made 104 = .ok (.invokestatic 10, 3) := dk_184 0 10 (dk_at dksX0_made_4 8 rfl rfl)
theorem dX0_made_107 : decode cX0_made 107 = .ok (.aload_n 0, 1) := dk_42 (dk_at dksX0_made_4 11 rfl rfl)
theorem dX0_made_108 : decode cX0_made 108 = .ok (.bipush 7, 2) := dk_16 7 (dk_at dksX0_made_4 12 rfl rfl)
theorem dX0_made_110 : decode cX0_made 110 = .ok (.invokestatic 10, 3) := dk_184 0 10 (dk_at dksX0_made_4 14 rfl rfl)
theorem dX0_made_113 : decode cX0_made 113 = .ok (.invokevirtual 24, 3) := dk_182 0 24 (dk_at dksX0_made_4 17 rfl rfl)
theorem dX0_made_116 : decode cX0_made 116 = .ok (.aload_n 1, 1) := dk_43 (dk_at dksX0_made_4 20 rfl rfl)
theorem dX0_made_117 : decode cX0_made 117 = .ok (.iconst 0, 1) := dk_3 (dk_at dksX0_made_4 21 rfl rfl)
theorem dX0_made_118 : decode cX0_made 118 = .ok (.aload_n 0, 1) := dk_42 (dk_at dksX0_made_4 22 rfl rfl)
theorem dX0_made_119 : decode cX0_made 119 = .ok (.bipush 8, 2) := dk_16 8 (dk_at dksX0_made_5 0 rfl rfl)
theorem dX0_made_121 : decode cX0_made 121 = .ok (.invokestatic 10, 3) := dk_184 0 10 (dk_at dksX0_made_5 2 rfl rfl)
theorem dX0_made_124 : decode cX0_made 124 = .ok (.aload_n 0, 1) := dk_42 (dk_at dksX0_made_5 5 rfl rfl)
theorem dX0_made_125 : decode cX0_made 125 = .ok (.bipush 9, 2) := dk_16 9 (dk_at dksX0_made_5 6 rfl rfl)
theorem dX0_made_127 : decode cX0_made 127 = .ok (.invokestatic 10, 3) := dk_184 0 10 (dk_at dksX0_made_5 8 rfl rfl)
theorem dX0_made_130 : decode cX0_made 130 = .ok (.aload_n 0, 1) := dk_42 (dk_at dksX0_made_5 11 rfl rfl)
theorem dX0_made_131 : decode cX0_made 131 = .ok (.bipush 10, 2) := dk_16 10 (dk_at dksX0_made_5 12 rfl rfl)
theorem dX0_made_133 : decode cX0_made 133 = .ok (.invokestatic 10, 3) := dk_184 0 10 (dk_at dksX0_made_5 14 rfl rfl)
theorem dX0_made_136 : decode cX0_made 136 = .ok (.aload_n 0, 1) := dk_42 (dk_at dksX0_made_5 17 rfl rfl)
theorem dX0_made_137 : decode cX0_made 137 = .ok (.bipush 11, 2) := dk_16 11 (dk_at dksX0_made_5 18 rfl rfl)
theorem dX0_made_139 : decode cX0_made 139 = .ok (.invokestatic 10, 3) := dk_184 0 10 (dk_at dksX0_made_5 20 rfl rfl)
theorem dX0_made_142 : decode cX0_made 142 = .ok (.invokevirtual 28, 3) := dk_182 0 28 (dk_at dksX0_made_6 0 rfl rfl)
theorem dX0_made_145 : decode cX0_made 145 = .ok (.aload_n 1, 1) := dk_43 (dk_at dksX0_made_6 3 rfl rfl)
theorem dX0_made_146 : decode cX0_made 146 = .ok (.iconst 1, 1) := dk_4 (dk_at dksX0_made_6 4 rfl rfl)
theorem dX0_made_147 : decode cX0_made 147 = .ok (.aload_n 0, 1) := dk_42 (dk_at dksX0_made_6 5 rfl rfl)
theorem dX0_made_148 : decode cX0_made 148 = .ok (.bipush 52, 2) := dk_16 52 (dk_at dksX0_made_6 6 rfl rfl)
theorem dX0_made_150 : decode cX0_made 150 = .ok (.invokestatic 10, 3) := dk_184 0 10 (dk_at dksX0_made_6 8 rfl rfl)
theorem dX0_made_153 : decode cX0_made 153 = .ok (.aload_n 0, 1) := dk_42 (dk_at dksX0_made_6 11 rfl rfl)
theorem dX0_made_154 : decode cX0_made 154 = .ok (.bipush 53, 2) := dk_16 53 (dk_at dksX0_made_6 12 rfl rfl)
theorem dX0_made_156 : decode cX0_made 156 = .ok (.invokestatic 10, 3) := dk_184 0 10 (dk_at dksX0_made_6 14 rfl rfl)
theorem dX0_made_159 : decode cX0_made 159 = .ok (.aload_n 0, 1) := dk_42 (dk_at dksX0_made_6 17 rfl rfl)
theorem dX0_made_160 : decode cX0_made 160 = .ok (.bipush 54, 2) := dk_16 54 (dk_at dksX0_made_6 18 rfl rfl)
theorem dX0_made_162 : decode cX0_made 162 = .ok (.invokestatic 10, 3) := dk_184 0 10 (dk_at dksX0_made_6 20 rfl rfl)
theorem dX0_made_165 : decode cX0_made 165 = .ok (.aload_n 0, 1) := dk_42 (dk_at dksX0_made_6 23 rfl rfl)
theorem dX0_made_166 : decode cX0_made 166 = .ok (.bipush 55, 2) := dk_16 55 (dk_at dksX0_made_7 0 rfl rfl)
theorem dX0_made_168 : decode cX0_made 168 = .ok (.invokestatic 10, 3) := dk_184 0 10 (dk_at dksX0_made_7 2 rfl rfl)
theorem dX0_made_171 : decode cX0_made 171 = .ok (.invokevirtual 28, 3) := dk_182 0 28 (dk_at dksX0_made_7 5 rfl rfl)
theorem dX0_made_174 : decode cX0_made 174 = .ok (.aload_n 1, 1) := dk_43 (dk_at dksX0_made_7 8 rfl rfl)
theorem dX0_made_175 : decode cX0_made 175 = .ok (.aload_n 0, 1) := dk_42 (dk_at dksX0_made_7 9 rfl rfl)
theorem dX0_made_176 : decode cX0_made 176 = .ok (.bipush 12, 2) := dk_16 12 (dk_at dksX0_made_7 10 rfl rfl)
theorem dX0_made_178 : decode cX0_made 178 = .ok (.invokestatic 10, 3) := dk_184 0 10 (dk_at dksX0_made_7 12 rfl rfl)
theorem dX0_made_181 : decode cX0_made 181 = .ok (.invokevirtual 31, 3) := dk_182 0 31 (dk_at dksX0_made_7 15 rfl rfl)
theorem dX0_made_184 : decode cX0_made 184 = .ok (.aload_n 1, 1) := dk_43 (dk_at dksX0_made_7 18 rfl rfl)
theorem dX0_made_185 : decode cX0_made 185 = .ok (.areturn, 1) := dk_176 (dk_at dksX0_made_7 19 rfl rfl)
abbrev cX0_known : ByteArray := method_4_code
def yX0_known : MethodName := ⟨RX0, "known", "()Z"⟩
def dkwX0_known_8 : List UInt8 := [182, 0, 38, 43, 28, 46, 159, 0, 5, 3, 172, 132, 2, 1, 167, 255, 234, 4, 172]
abbrev dktX0_known_8 : List UInt8 := dkwX0_known_8 ++ []
def dkwX0_known_7 : List UInt8 := [16, 14, 16, 99, 79, 89, 16, 15, 17, 0, 170, 79, 76, 3, 61, 28, 16, 16, 162, 0, 22, 42, 28]
abbrev dktX0_known_7 : List UInt8 := dkwX0_known_7 ++ dktX0_known_8
def dkwX0_known_6 : List UInt8 := [16, 47, 79, 89, 16, 11, 17, 0, 251, 79, 89, 16, 12, 16, 14, 79, 89, 16, 13, 17, 0, 175, 79, 89]
abbrev dktX0_known_6 : List UInt8 := dkwX0_known_6 ++ dktX0_known_7
def dkwX0_known_5 : List UInt8 := [79, 89, 16, 7, 16, 59, 79, 89, 16, 8, 16, 127, 79, 89, 16, 9, 17, 0, 215, 79, 89, 16, 10]
abbrev dktX0_known_5 : List UInt8 := dkwX0_known_5 ++ dktX0_known_6
def dkwX0_known_4 : List UInt8 := [16, 21, 79, 89, 6, 16, 115, 79, 89, 7, 17, 0, 160, 79, 89, 8, 6, 79, 89, 16, 6, 17, 0, 253]
abbrev dktX0_known_4 : List UInt8 := dkwX0_known_4 ++ dktX0_known_5
def dkwX0_known_3 : List UInt8 := [3, 16, 16, 182, 0, 34, 87, 16, 16, 188, 10, 89, 3, 17, 0, 130, 79, 89, 4, 3, 79, 89, 5]
abbrev dktX0_known_3 : List UInt8 := dkwX0_known_3 ++ dktX0_known_4
def dkwX0_known_2 : List UInt8 := [42, 3, 3, 3, 3, 3, 182, 0, 28, 42, 4, 3, 3, 3, 3, 182, 0, 28, 42, 3, 182, 0, 31, 42]
abbrev dktX0_known_2 : List UInt8 := dkwX0_known_2 ++ dktX0_known_3
def dkwX0_known_1 : List UInt8 := [132, 1, 1, 167, 255, 239, 42, 3, 3, 3, 3, 3, 182, 0, 24, 42, 4, 3, 3, 3, 3, 182, 0, 24]
abbrev dktX0_known_1 : List UInt8 := dkwX0_known_1 ++ dktX0_known_2
def dkwX0_known_0 : List UInt8 := [187, 0, 7, 89, 183, 0, 9, 75, 3, 60, 27, 5, 162, 0, 18, 42, 3, 3, 3, 3, 182, 0, 16, 87]
abbrev dktX0_known_0 : List UInt8 := dkwX0_known_0 ++ dktX0_known_1
theorem dksX0_known_0 : cX0_known.data.toList.drop 0 = dktX0_known_0 := by decide +kernel
theorem dksX0_known_1 : cX0_known.data.toList.drop 24 = dktX0_known_1 := dk_seg dksX0_known_0 24 rfl rfl
theorem dksX0_known_2 : cX0_known.data.toList.drop 48 = dktX0_known_2 := dk_seg dksX0_known_1 24 rfl rfl
theorem dksX0_known_3 : cX0_known.data.toList.drop 72 = dktX0_known_3 := dk_seg dksX0_known_2 24 rfl rfl
theorem dksX0_known_4 : cX0_known.data.toList.drop 95 = dktX0_known_4 := dk_seg dksX0_known_3 23 rfl rfl
theorem dksX0_known_5 : cX0_known.data.toList.drop 119 = dktX0_known_5 := dk_seg dksX0_known_4 24 rfl rfl
theorem dksX0_known_6 : cX0_known.data.toList.drop 142 = dktX0_known_6 := dk_seg dksX0_known_5 23 rfl rfl
theorem dksX0_known_7 : cX0_known.data.toList.drop 166 = dktX0_known_7 := dk_seg dksX0_known_6 24 rfl rfl
theorem dksX0_known_8 : cX0_known.data.toList.drop 189 = dktX0_known_8 := dk_seg dksX0_known_7 23 rfl rfl
theorem dX0_known_0 : decode cX0_known 0 = .ok (.new 7, 3) := dk_187 0 7 (dk_at dksX0_known_0 0 rfl rfl)
theorem dX0_known_3 : decode cX0_known 3 = .ok (.dup, 1) := dk_89 (dk_at dksX0_known_0 3 rfl rfl)
theorem dX0_known_4 : decode cX0_known 4 = .ok (.invokespecial 9, 3) := dk_183 0 9 (dk_at dksX0_known_0 4 rfl rfl)
theorem dX0_known_7 : decode cX0_known 7 = .ok (.astore_n 0, 1) := dk_75 (dk_at dksX0_known_0 7 rfl rfl)
theorem dX0_known_8 : decode cX0_known 8 = .ok (.iconst 0, 1) := dk_3 (dk_at dksX0_known_0 8 rfl rfl)
theorem dX0_known_9 : decode cX0_known 9 = .ok (.istore_n 1, 1) := dk_60 (dk_at dksX0_known_0 9 rfl rfl)
theorem dX0_known_10 : decode cX0_known 10 = .ok (.iload_n 1, 1) := dk_27 (dk_at dksX0_known_0 10 rfl rfl)
theorem dX0_known_11 : decode cX0_known 11 = .ok (.iconst 2, 1) := dk_5 (dk_at dksX0_known_0 11 rfl rfl)
theorem dX0_known_12 : decode cX0_known 12 = .ok (.if_icmp .ge 18, 3) := dk_162 0 18 (dk_at dksX0_known_0 12 rfl rfl)
theorem dX0_known_15 : decode cX0_known 15 = .ok (.aload_n 0, 1) := dk_42 (dk_at dksX0_known_0 15 rfl rfl)
theorem dX0_known_16 : decode cX0_known 16 = .ok (.iconst 0, 1) := dk_3 (dk_at dksX0_known_0 16 rfl rfl)
theorem dX0_known_17 : decode cX0_known 17 = .ok (.iconst 0, 1) := dk_3 (dk_at dksX0_known_0 17 rfl rfl)
theorem dX0_known_18 : decode cX0_known 18 = .ok (.iconst 0, 1) := dk_3 (dk_at dksX0_known_0 18 rfl rfl)
theorem dX0_known_19 : decode cX0_known 19 = .ok (.iconst 0, 1) := dk_3 (dk_at dksX0_known_0 19 rfl rfl)
theorem dX0_known_20 : decode cX0_known 20 = .ok (.invokevirtual 16, 3) := dk_182 0 16 (dk_at dksX0_known_0 20 rfl rfl)
theorem dX0_known_23 : decode cX0_known 23 = .ok (.pop, 1) := dk_87 (dk_at dksX0_known_0 23 rfl rfl)
theorem dX0_known_24 : decode cX0_known 24 = .ok (.iinc 1 1, 3) := dk_132 1 1 (dk_at dksX0_known_1 0 rfl rfl)
theorem dX0_known_27 : decode cX0_known 27 = .ok (.goto (-17), 3) := dk_167 255 239 (dk_at dksX0_known_1 3 rfl rfl)
theorem dX0_known_30 : decode cX0_known 30 = .ok (.aload_n 0, 1) := dk_42 (dk_at dksX0_known_1 6 rfl rfl)
theorem dX0_known_31 : decode cX0_known 31 = .ok (.iconst 0, 1) := dk_3 (dk_at dksX0_known_1 7 rfl rfl)
theorem dX0_known_32 : decode cX0_known 32 = .ok (.iconst 0, 1) := dk_3 (dk_at dksX0_known_1 8 rfl rfl)
theorem dX0_known_33 : decode cX0_known 33 = .ok (.iconst 0, 1) := dk_3 (dk_at dksX0_known_1 9 rfl rfl)
theorem dX0_known_34 : decode cX0_known 34 = .ok (.iconst 0, 1) := dk_3 (dk_at dksX0_known_1 10 rfl rfl)
theorem dX0_known_35 : decode cX0_known 35 = .ok (.iconst 0, 1) := dk_3 (dk_at dksX0_known_1 11 rfl rfl)
theorem dX0_known_36 : decode cX0_known 36 = .ok (.invokevirtual 24, 3) := dk_182 0 24 (dk_at dksX0_known_1 12 rfl rfl)
theorem dX0_known_39 : decode cX0_known 39 = .ok (.aload_n 0, 1) := dk_42 (dk_at dksX0_known_1 15 rfl rfl)
theorem dX0_known_40 : decode cX0_known 40 = .ok (.iconst 1, 1) := dk_4 (dk_at dksX0_known_1 16 rfl rfl)
theorem dX0_known_41 : decode cX0_known 41 = .ok (.iconst 0, 1) := dk_3 (dk_at dksX0_known_1 17 rfl rfl)
theorem dX0_known_42 : decode cX0_known 42 = .ok (.iconst 0, 1) := dk_3 (dk_at dksX0_known_1 18 rfl rfl)
theorem dX0_known_43 : decode cX0_known 43 = .ok (.iconst 0, 1) := dk_3 (dk_at dksX0_known_1 19 rfl rfl)
theorem dX0_known_44 : decode cX0_known 44 = .ok (.iconst 0, 1) := dk_3 (dk_at dksX0_known_1 20 rfl rfl)
theorem dX0_known_45 : decode cX0_known 45 = .ok (.invokevirtual 24, 3) := dk_182 0 24 (dk_at dksX0_known_1 21 rfl rfl)
theorem dX0_known_48 : decode cX0_known 48 = .ok (.aload_n 0, 1) := dk_42 (dk_at dksX0_known_2 0 rfl rfl)
theorem dX0_known_49 : decode cX0_known 49 = .ok (.iconst 0, 1) := dk_3 (dk_at dksX0_known_2 1 rfl rfl)
theorem dX0_known_50 : decode cX0_known 50 = .ok (.iconst 0, 1) := dk_3 (dk_at dksX0_known_2 2 rfl rfl)
theorem dX0_known_51 : decode cX0_known 51 = .ok (.iconst 0, 1) := dk_3 (dk_at dksX0_known_2 3 rfl rfl)
theorem dX0_known_52 : decode cX0_known 52 = .ok (.iconst 0, 1) := dk_3 (dk_at dksX0_known_2 4 rfl rfl)
theorem dX0_known_53 : decode cX0_known 53 = .ok (.iconst 0, 1) := dk_3 (dk_at dksX0_known_2 5 rfl rfl)
theorem dX0_known_54 : decode cX0_known 54 = .ok (.invokevirtual 28, 3) := dk_182 0 28 (dk_at dksX0_known_2 6 rfl rfl)
theorem dX0_known_57 : decode cX0_known 57 = .ok (.aload_n 0, 1) := dk_42 (dk_at dksX0_known_2 9 rfl rfl)
theorem dX0_known_58 : decode cX0_known 58 = .ok (.iconst 1, 1) := dk_4 (dk_at dksX0_known_2 10 rfl rfl)
theorem dX0_known_59 : decode cX0_known 59 = .ok (.iconst 0, 1) := dk_3 (dk_at dksX0_known_2 11 rfl rfl)
theorem dX0_known_60 : decode cX0_known 60 = .ok (.iconst 0, 1) := dk_3 (dk_at dksX0_known_2 12 rfl rfl)
theorem dX0_known_61 : decode cX0_known 61 = .ok (.iconst 0, 1) := dk_3 (dk_at dksX0_known_2 13 rfl rfl)
theorem dX0_known_62 : decode cX0_known 62 = .ok (.iconst 0, 1) := dk_3 (dk_at dksX0_known_2 14 rfl rfl)
theorem dX0_known_63 : decode cX0_known 63 = .ok (.invokevirtual 28, 3) := dk_182 0 28 (dk_at dksX0_known_2 15 rfl rfl)
theorem dX0_known_66 : decode cX0_known 66 = .ok (.aload_n 0, 1) := dk_42 (dk_at dksX0_known_2 18 rfl rfl)
theorem dX0_known_67 : decode cX0_known 67 = .ok (.iconst 0, 1) := dk_3 (dk_at dksX0_known_2 19 rfl rfl)
theorem dX0_known_68 : decode cX0_known 68 = .ok (.invokevirtual 31, 3) := dk_182 0 31 (dk_at dksX0_known_2 20 rfl rfl)
theorem dX0_known_71 : decode cX0_known 71 = .ok (.aload_n 0, 1) := dk_42 (dk_at dksX0_known_2 23 rfl rfl)
theorem dX0_known_72 : decode cX0_known 72 = .ok (.iconst 0, 1) := dk_3 (dk_at dksX0_known_3 0 rfl rfl)
theorem dX0_known_73 : decode cX0_known 73 = .ok (.bipush 16, 2) := dk_16 16 (dk_at dksX0_known_3 1 rfl rfl)
theorem dX0_known_75 : decode cX0_known 75 = .ok (.invokevirtual 34, 3) := dk_182 0 34 (dk_at dksX0_known_3 3 rfl rfl)
theorem dX0_known_78 : decode cX0_known 78 = .ok (.pop, 1) := dk_87 (dk_at dksX0_known_3 6 rfl rfl)
theorem dX0_known_79 : decode cX0_known 79 = .ok (.bipush 16, 2) := dk_16 16 (dk_at dksX0_known_3 7 rfl rfl)
theorem dX0_known_81 : decode cX0_known 81 = .ok (.newarray .int, 2) := dk_188_10 (dk_at dksX0_known_3 9 rfl rfl)
theorem dX0_known_83 : decode cX0_known 83 = .ok (.dup, 1) := dk_89 (dk_at dksX0_known_3 11 rfl rfl)
theorem dX0_known_84 : decode cX0_known 84 = .ok (.iconst 0, 1) := dk_3 (dk_at dksX0_known_3 12 rfl rfl)
theorem dX0_known_85 : decode cX0_known 85 = .ok (.sipush 130, 3) := dk_17 0 130 (dk_at dksX0_known_3 13 rfl rfl)
theorem dX0_known_88 : decode cX0_known 88 = .ok (.iastore, 1) := dk_79 (dk_at dksX0_known_3 16 rfl rfl)
theorem dX0_known_89 : decode cX0_known 89 = .ok (.dup, 1) := dk_89 (dk_at dksX0_known_3 17 rfl rfl)
theorem dX0_known_90 : decode cX0_known 90 = .ok (.iconst 1, 1) := dk_4 (dk_at dksX0_known_3 18 rfl rfl)
theorem dX0_known_91 : decode cX0_known 91 = .ok (.iconst 0, 1) := dk_3 (dk_at dksX0_known_3 19 rfl rfl)
theorem dX0_known_92 : decode cX0_known 92 = .ok (.iastore, 1) := dk_79 (dk_at dksX0_known_3 20 rfl rfl)
theorem dX0_known_93 : decode cX0_known 93 = .ok (.dup, 1) := dk_89 (dk_at dksX0_known_3 21 rfl rfl)
theorem dX0_known_94 : decode cX0_known 94 = .ok (.iconst 2, 1) := dk_5 (dk_at dksX0_known_3 22 rfl rfl)
theorem dX0_known_95 : decode cX0_known 95 = .ok (.bipush 21, 2) := dk_16 21 (dk_at dksX0_known_4 0 rfl rfl)
theorem dX0_known_97 : decode cX0_known 97 = .ok (.iastore, 1) := dk_79 (dk_at dksX0_known_4 2 rfl rfl)
theorem dX0_known_98 : decode cX0_known 98 = .ok (.dup, 1) := dk_89 (dk_at dksX0_known_4 3 rfl rfl)
theorem dX0_known_99 : decode cX0_known 99 = .ok (.iconst 3, 1) := dk_6 (dk_at dksX0_known_4 4 rfl rfl)
theorem dX0_known_100 : decode cX0_known 100 = .ok (.bipush 115, 2) := dk_16 115 (dk_at dksX0_known_4 5 rfl rfl)
theorem dX0_known_102 : decode cX0_known 102 = .ok (.iastore, 1) := dk_79 (dk_at dksX0_known_4 7 rfl rfl)
theorem dX0_known_103 : decode cX0_known 103 = .ok (.dup, 1) := dk_89 (dk_at dksX0_known_4 8 rfl rfl)
theorem dX0_known_104 : decode cX0_known 104 = .ok (.iconst 4, 1) := dk_7 (dk_at dksX0_known_4 9 rfl rfl)
theorem dX0_known_105 : decode cX0_known 105 = .ok (.sipush 160, 3) := dk_17 0 160 (dk_at dksX0_known_4 10 rfl rfl)
theorem dX0_known_108 : decode cX0_known 108 = .ok (.iastore, 1) := dk_79 (dk_at dksX0_known_4 13 rfl rfl)
theorem dX0_known_109 : decode cX0_known 109 = .ok (.dup, 1) := dk_89 (dk_at dksX0_known_4 14 rfl rfl)
theorem dX0_known_110 : decode cX0_known 110 = .ok (.iconst 5, 1) := dk_8 (dk_at dksX0_known_4 15 rfl rfl)
theorem dX0_known_111 : decode cX0_known 111 = .ok (.iconst 3, 1) := dk_6 (dk_at dksX0_known_4 16 rfl rfl)
theorem dX0_known_112 : decode cX0_known 112 = .ok (.iastore, 1) := dk_79 (dk_at dksX0_known_4 17 rfl rfl)
theorem dX0_known_113 : decode cX0_known 113 = .ok (.dup, 1) := dk_89 (dk_at dksX0_known_4 18 rfl rfl)
theorem dX0_known_114 : decode cX0_known 114 = .ok (.bipush 6, 2) := dk_16 6 (dk_at dksX0_known_4 19 rfl rfl)
theorem dX0_known_116 : decode cX0_known 116 = .ok (.sipush 253, 3) := dk_17 0 253 (dk_at dksX0_known_4 21 rfl rfl)
theorem dX0_known_119 : decode cX0_known 119 = .ok (.iastore, 1) := dk_79 (dk_at dksX0_known_5 0 rfl rfl)
theorem dX0_known_120 : decode cX0_known 120 = .ok (.dup, 1) := dk_89 (dk_at dksX0_known_5 1 rfl rfl)
theorem dX0_known_121 : decode cX0_known 121 = .ok (.bipush 7, 2) := dk_16 7 (dk_at dksX0_known_5 2 rfl rfl)
theorem dX0_known_123 : decode cX0_known 123 = .ok (.bipush 59, 2) := dk_16 59 (dk_at dksX0_known_5 4 rfl rfl)
theorem dX0_known_125 : decode cX0_known 125 = .ok (.iastore, 1) := dk_79 (dk_at dksX0_known_5 6 rfl rfl)
theorem dX0_known_126 : decode cX0_known 126 = .ok (.dup, 1) := dk_89 (dk_at dksX0_known_5 7 rfl rfl)
theorem dX0_known_127 : decode cX0_known 127 = .ok (.bipush 8, 2) := dk_16 8 (dk_at dksX0_known_5 8 rfl rfl)
theorem dX0_known_129 : decode cX0_known 129 = .ok (.bipush 127, 2) := dk_16 127 (dk_at dksX0_known_5 10 rfl rfl)
theorem dX0_known_131 : decode cX0_known 131 = .ok (.iastore, 1) := dk_79 (dk_at dksX0_known_5 12 rfl rfl)
theorem dX0_known_132 : decode cX0_known 132 = .ok (.dup, 1) := dk_89 (dk_at dksX0_known_5 13 rfl rfl)
theorem dX0_known_133 : decode cX0_known 133 = .ok (.bipush 9, 2) := dk_16 9 (dk_at dksX0_known_5 14 rfl rfl)
theorem dX0_known_135 : decode cX0_known 135 = .ok (.sipush 215, 3) := dk_17 0 215 (dk_at dksX0_known_5 16 rfl rfl)
theorem dX0_known_138 : decode cX0_known 138 = .ok (.iastore, 1) := dk_79 (dk_at dksX0_known_5 19 rfl rfl)
theorem dX0_known_139 : decode cX0_known 139 = .ok (.dup, 1) := dk_89 (dk_at dksX0_known_5 20 rfl rfl)
theorem dX0_known_140 : decode cX0_known 140 = .ok (.bipush 10, 2) := dk_16 10 (dk_at dksX0_known_5 21 rfl rfl)
theorem dX0_known_142 : decode cX0_known 142 = .ok (.bipush 47, 2) := dk_16 47 (dk_at dksX0_known_6 0 rfl rfl)
theorem dX0_known_144 : decode cX0_known 144 = .ok (.iastore, 1) := dk_79 (dk_at dksX0_known_6 2 rfl rfl)
theorem dX0_known_145 : decode cX0_known 145 = .ok (.dup, 1) := dk_89 (dk_at dksX0_known_6 3 rfl rfl)
theorem dX0_known_146 : decode cX0_known 146 = .ok (.bipush 11, 2) := dk_16 11 (dk_at dksX0_known_6 4 rfl rfl)
theorem dX0_known_148 : decode cX0_known 148 = .ok (.sipush 251, 3) := dk_17 0 251 (dk_at dksX0_known_6 6 rfl rfl)
theorem dX0_known_151 : decode cX0_known 151 = .ok (.iastore, 1) := dk_79 (dk_at dksX0_known_6 9 rfl rfl)
theorem dX0_known_152 : decode cX0_known 152 = .ok (.dup, 1) := dk_89 (dk_at dksX0_known_6 10 rfl rfl)
theorem dX0_known_153 : decode cX0_known 153 = .ok (.bipush 12, 2) := dk_16 12 (dk_at dksX0_known_6 11 rfl rfl)
theorem dX0_known_155 : decode cX0_known 155 = .ok (.bipush 14, 2) := dk_16 14 (dk_at dksX0_known_6 13 rfl rfl)
theorem dX0_known_157 : decode cX0_known 157 = .ok (.iastore, 1) := dk_79 (dk_at dksX0_known_6 15 rfl rfl)
theorem dX0_known_158 : decode cX0_known 158 = .ok (.dup, 1) := dk_89 (dk_at dksX0_known_6 16 rfl rfl)
theorem dX0_known_159 : decode cX0_known 159 = .ok (.bipush 13, 2) := dk_16 13 (dk_at dksX0_known_6 17 rfl rfl)
theorem dX0_known_161 : decode cX0_known 161 = .ok (.sipush 175, 3) := dk_17 0 175 (dk_at dksX0_known_6 19 rfl rfl)
theorem dX0_known_164 : decode cX0_known 164 = .ok (.iastore, 1) := dk_79 (dk_at dksX0_known_6 22 rfl rfl)
theorem dX0_known_165 : decode cX0_known 165 = .ok (.dup, 1) := dk_89 (dk_at dksX0_known_6 23 rfl rfl)
theorem dX0_known_166 : decode cX0_known 166 = .ok (.bipush 14, 2) := dk_16 14 (dk_at dksX0_known_7 0 rfl rfl)
theorem dX0_known_168 : decode cX0_known 168 = .ok (.bipush 99, 2) := dk_16 99 (dk_at dksX0_known_7 2 rfl rfl)
theorem dX0_known_170 : decode cX0_known 170 = .ok (.iastore, 1) := dk_79 (dk_at dksX0_known_7 4 rfl rfl)
theorem dX0_known_171 : decode cX0_known 171 = .ok (.dup, 1) := dk_89 (dk_at dksX0_known_7 5 rfl rfl)
theorem dX0_known_172 : decode cX0_known 172 = .ok (.bipush 15, 2) := dk_16 15 (dk_at dksX0_known_7 6 rfl rfl)
theorem dX0_known_174 : decode cX0_known 174 = .ok (.sipush 170, 3) := dk_17 0 170 (dk_at dksX0_known_7 8 rfl rfl)
theorem dX0_known_177 : decode cX0_known 177 = .ok (.iastore, 1) := dk_79 (dk_at dksX0_known_7 11 rfl rfl)
theorem dX0_known_178 : decode cX0_known 178 = .ok (.astore_n 1, 1) := dk_76 (dk_at dksX0_known_7 12 rfl rfl)
theorem dX0_known_179 : decode cX0_known 179 = .ok (.iconst 0, 1) := dk_3 (dk_at dksX0_known_7 13 rfl rfl)
theorem dX0_known_180 : decode cX0_known 180 = .ok (.istore_n 2, 1) := dk_61 (dk_at dksX0_known_7 14 rfl rfl)
theorem dX0_known_181 : decode cX0_known 181 = .ok (.iload_n 2, 1) := dk_28 (dk_at dksX0_known_7 15 rfl rfl)
theorem dX0_known_182 : decode cX0_known 182 = .ok (.bipush 16, 2) := dk_16 16 (dk_at dksX0_known_7 16 rfl rfl)
theorem dX0_known_184 : decode cX0_known 184 = .ok (.if_icmp .ge 22, 3) := dk_162 0 22 (dk_at dksX0_known_7 18 rfl rfl)
theorem dX0_known_187 : decode cX0_known 187 = .ok (.aload_n 0, 1) := dk_42 (dk_at dksX0_known_7 21 rfl rfl)
theorem dX0_known_188 : decode cX0_known 188 = .ok (.iload_n 2, 1) := dk_28 (dk_at dksX0_known_7 22 rfl rfl)
theorem dX0_known_189 : decode cX0_known 189 = .ok (.invokevirtual 38, 3) := dk_182 0 38 (dk_at dksX0_known_8 0 rfl rfl)
theorem dX0_known_192 : decode cX0_known 192 = .ok (.aload_n 1, 1) := dk_43 (dk_at dksX0_known_8 3 rfl rfl)
theorem dX0_known_193 : decode cX0_known 193 = .ok (.iload_n 2, 1) := dk_28 (dk_at dksX0_known_8 4 rfl rfl)
theorem dX0_known_194 : decode cX0_known 194 = .ok (.iaload, 1) := dk_46 (dk_at dksX0_known_8 5 rfl rfl)
theorem dX0_known_195 : decode cX0_known 195 = .ok (.if_icmp .eq 5, 3) := dk_159 0 5 (dk_at dksX0_known_8 6 rfl rfl)
theorem dX0_known_198 : decode cX0_known 198 = .ok (.iconst 0, 1) := dk_3 (dk_at dksX0_known_8 9 rfl rfl)
theorem dX0_known_199 : decode cX0_known 199 = .ok (.ireturn, 1) := dk_172 (dk_at dksX0_known_8 10 rfl rfl)
theorem dX0_known_200 : decode cX0_known 200 = .ok (.iinc 2 1, 3) := dk_132 2 1 (dk_at dksX0_known_8 11 rfl rfl)
theorem dX0_known_203 : decode cX0_known 203 = .ok (.goto (-22), 3) := dk_167 255 234 (dk_at dksX0_known_8 14 rfl rfl)
theorem dX0_known_206 : decode cX0_known 206 = .ok (.iconst 1, 1) := dk_4 (dk_at dksX0_known_8 17 rfl rfl)
theorem dX0_known_207 : decode cX0_known 207 = .ok (.ireturn, 1) := dk_172 (dk_at dksX0_known_8 18 rfl rfl)
theorem q10 : (Jvm.Cond.initialized "HcDeskLaw") ∈ lw_all := lw_g (lw_at lw_m1 0 rfl) rfl
theorem q24 : (Jvm.Cond.methodLink "HcDeskLaw" (34 : Nat) ({ cls := "HcDesk", name := "run", desc := "(II)I" } : Jvm.MethodName)) ∈ lw_all := lw_g (lw_at lw_m1 14 rfl) rfl
theorem q190 : (Jvm.Cond.methodLink "HcDeskLaw" (51 : Nat) ({ cls := "HcDesk", name := "one", desc := "(I)I" } : Jvm.MethodName)) ∈ lw_all := lw_g (lw_at lw_m1 180 rfl) rfl
theorem q198 : (Jvm.Cond.methodLink "HcDeskLaw" (54 : Nat) ({ cls := "HcDesk", name := "again", desc := "()V" } : Jvm.MethodName)) ∈ lw_all := lw_g (lw_at lw_m1 188 rfl) rfl
theorem q237 : (Jvm.Cond.methodLink "HcDeskLaw" (38 : Nat) ({ cls := "HcDesk", name := "out", desc := "(I)I" } : Jvm.MethodName)) ∈ lw_all := lw_g (lw_at lw_m1 227 rfl) rfl
theorem q241 : (Jvm.Cond.methodLink "HcDeskLaw" (10 : Nat) ({ cls := "HcDeskLaw", name := "cell", desc := "([II)I" } : Jvm.MethodName)) ∈ lw_all := lw_g (lw_at lw_m1 231 rfl) rfl
theorem q242 : (Jvm.Cond.static ({ cls := "HcDeskLaw", name := "cell", desc := "([II)I" } : Jvm.MethodName)) ∈ lw_all := lw_g (lw_at lw_m1 232 rfl) rfl
theorem q243 : (Jvm.Cond.code ({ cls := "HcDeskLaw", name := "cell", desc := "([II)I" } : Jvm.MethodName) method_2_code (2 : Nat) (Option.some Jvm.ClassFile.FieldType.int)) ∈ lw_all := lw_g (lw_at lw_m1 233 rfl) rfl
theorem q244 : (Jvm.Cond.methodLink "HcDeskLaw" (46 : Nat) ({ cls := "HcDeskLaw", name := "made", desc := "([I)LHcDesk;" } : Jvm.MethodName)) ∈ lw_all := lw_g (lw_at lw_m1 234 rfl) rfl
theorem q245 : (Jvm.Cond.static ({ cls := "HcDeskLaw", name := "made", desc := "([I)LHcDesk;" } : Jvm.MethodName)) ∈ lw_all := lw_g (lw_at lw_m1 235 rfl) rfl
theorem q246 : (Jvm.Cond.code ({ cls := "HcDeskLaw", name := "made", desc := "([I)LHcDesk;" } : Jvm.MethodName) method_3_code (3 : Nat) (Option.some (Jvm.ClassFile.FieldType.object "HcDesk"))) ∈ lw_all := lw_g (lw_at lw_m1 236 rfl) rfl
theorem q247 : (Jvm.Cond.classLink "HcDeskLaw" (7 : Nat) "HcDesk") ∈ lw_all := lw_g (lw_at lw_m1 237 rfl) rfl
theorem q248 : (Jvm.Cond.methodLink "HcDeskLaw" (9 : Nat) ({ cls := "HcDesk", name := "<init>", desc := "()V" } : Jvm.MethodName)) ∈ lw_all := lw_g (lw_at lw_m1 238 rfl) rfl
theorem q307 : (Jvm.Cond.methodLink "HcDeskLaw" (16 : Nat) ({ cls := "HcDesk", name := "put", desc := "(IIII)Z" } : Jvm.MethodName)) ∈ lw_all := lw_g (lw_at lw_m2 57 rfl) rfl
theorem q314 : (Jvm.Cond.methodLink "HcDeskLaw" (20 : Nat) ({ cls := "HcDesk", name := "trim", desc := "(I)V" } : Jvm.MethodName)) ∈ lw_all := lw_g (lw_at lw_m2 64 rfl) rfl
theorem q318 : (Jvm.Cond.methodLink "HcDeskLaw" (24 : Nat) ({ cls := "HcDesk", name := "key", desc := "(IIIII)V" } : Jvm.MethodName)) ∈ lw_all := lw_g (lw_at lw_m2 68 rfl) rfl
theorem q322 : (Jvm.Cond.methodLink "HcDeskLaw" (28 : Nat) ({ cls := "HcDesk", name := "nonce", desc := "(IIIII)V" } : Jvm.MethodName)) ∈ lw_all := lw_g (lw_at lw_m2 72 rfl) rfl
theorem q326 : (Jvm.Cond.methodLink "HcDeskLaw" (31 : Nat) ({ cls := "HcDesk", name := "begin", desc := "(I)V" } : Jvm.MethodName)) ∈ lw_all := lw_g (lw_at lw_m2 76 rfl) rfl
theorem q383 : (Jvm.Cond.methodLink "HcDeskLaw" (42 : Nat) ({ cls := "HcDeskLaw", name := "known", desc := "()Z" } : Jvm.MethodName)) ∈ lw_all := lw_g (lw_at lw_m2 133 rfl) rfl
theorem q384 : (Jvm.Cond.static ({ cls := "HcDeskLaw", name := "known", desc := "()Z" } : Jvm.MethodName)) ∈ lw_all := lw_g (lw_at lw_m2 134 rfl) rfl
theorem q385 : (Jvm.Cond.code ({ cls := "HcDeskLaw", name := "known", desc := "()Z" } : Jvm.MethodName) method_4_code (3 : Nat) (Option.some Jvm.ClassFile.FieldType.boolean)) ∈ lw_all := lw_g (lw_at lw_m2 135 rfl) rfl
theorem q386 : (Jvm.Cond.constant "HcDeskLaw" (50 : Nat) (2147483647 : Int32)) ∈ lw_all := lw_g (lw_at lw_m2 136 rfl) rfl
/-! the law's own entry -/
set_option maxRecDepth 100000
abbrev cL_law : ByteArray := code
def dkwL_law_13 : List UInt8 := [167, 255, 205, 4, 172]
abbrev dktL_law_13 : List UInt8 := dkwL_law_13 ++ []
def dkwL_law_12 : List UInt8 := [16, 24, 16, 8, 21, 7, 7, 112, 104, 100, 124, 17, 0, 255, 126, 159, 0, 5, 3, 172, 132, 7, 1]
abbrev dktL_law_12 : List UInt8 := dkwL_law_12 ++ dktL_law_13
def dkwL_law_11 : List UInt8 := [162, 0, 50, 45, 43, 21, 7, 182, 0, 38, 182, 0, 51, 42, 16, 20, 21, 7, 7, 108, 96, 184, 0, 10]
abbrev dktL_law_11 : List UInt8 := dkwL_law_11 ++ dktL_law_12
def dkwL_law_10 : List UInt8 := [159, 0, 5, 3, 172, 132, 7, 1, 167, 255, 185, 45, 182, 0, 54, 3, 54, 7, 21, 7, 21, 5]
abbrev dktL_law_10 : List UInt8 := dkwL_law_10 ++ dktL_law_11
def dkwL_law_9 : List UInt8 := [54, 9, 21, 9, 43, 21, 7, 182, 0, 38, 160, 0, 15, 25, 4, 21, 9, 182, 0, 51, 21, 8]
abbrev dktL_law_9 : List UInt8 := dkwL_law_9 ++ dktL_law_10
def dkwL_law_8 : List UInt8 := [16, 24, 16, 8, 21, 7, 7, 112, 104, 100, 124, 17, 0, 255, 126, 54, 8, 45, 21, 8, 182, 0, 51]
abbrev dktL_law_8 : List UInt8 := dkwL_law_8 ++ dktL_law_9
def dkwL_law_7 : List UInt8 := [167, 255, 154, 3, 54, 7, 21, 7, 21, 5, 162, 0, 70, 42, 16, 20, 21, 7, 7, 108, 96, 184, 0, 10]
abbrev dktL_law_7 : List UInt8 := dkwL_law_7 ++ dktL_law_8
def dkwL_law_6 : List UInt8 := [182, 0, 38, 159, 0, 5, 3, 172, 132, 9, 1, 167, 255, 226, 21, 6, 21, 8, 96, 54, 6, 132, 7, 1]
abbrev dktL_law_6 : List UInt8 := dkwL_law_6 ++ dktL_law_7
def dkwL_law_5 : List UInt8 := [172, 3, 54, 9, 21, 9, 21, 8, 162, 0, 29, 44, 21, 9, 182, 0, 38, 43, 21, 6, 21, 9, 96]
abbrev dktL_law_5 : List UInt8 := dkwL_law_5 ++ dktL_law_6
def dkwL_law_4 : List UInt8 := [21, 5, 21, 6, 100, 4, 96, 112, 54, 8, 44, 21, 6, 21, 8, 182, 0, 34, 21, 8, 159, 0, 5, 3]
abbrev dktL_law_4 : List UInt8 := dkwL_law_4 ++ dktL_law_5
def dkwL_law_3 : List UInt8 := [21, 7, 16, 18, 160, 0, 11, 21, 5, 21, 6, 100, 167, 0, 20, 42, 21, 7, 184, 0, 10, 18, 50, 126]
abbrev dktL_law_3 : List UInt8 := dkwL_law_3 ++ dktL_law_4
def dkwL_law_2 : List UInt8 := [182, 0, 34, 21, 5, 159, 0, 5, 3, 172, 3, 54, 6, 16, 14, 54, 7, 21, 7, 16, 19, 162, 0, 101]
abbrev dktL_law_2 : List UInt8 := dkwL_law_2 ++ dktL_law_3
def dkwL_law_1 : List UInt8 := [184, 0, 46, 58, 4, 42, 16, 13, 184, 0, 10, 18, 50, 126, 17, 0, 129, 112, 54, 5, 43, 3, 21, 5]
abbrev dktL_law_1 : List UInt8 := dkwL_law_1 ++ dktL_law_2
def dkwL_law_0 : List UInt8 := [184, 0, 42, 154, 0, 5, 3, 172, 42, 184, 0, 46, 76, 42, 184, 0, 46, 77, 42, 184, 0, 46, 78, 42]
abbrev dktL_law_0 : List UInt8 := dkwL_law_0 ++ dktL_law_1
theorem dksL_law_0 : cL_law.data.toList.drop 0 = dktL_law_0 := by decide +kernel
theorem dksL_law_1 : cL_law.data.toList.drop 24 = dktL_law_1 := dk_seg dksL_law_0 24 rfl rfl
theorem dksL_law_2 : cL_law.data.toList.drop 48 = dktL_law_2 := dk_seg dksL_law_1 24 rfl rfl
theorem dksL_law_3 : cL_law.data.toList.drop 72 = dktL_law_3 := dk_seg dksL_law_2 24 rfl rfl
theorem dksL_law_4 : cL_law.data.toList.drop 96 = dktL_law_4 := dk_seg dksL_law_3 24 rfl rfl
theorem dksL_law_5 : cL_law.data.toList.drop 120 = dktL_law_5 := dk_seg dksL_law_4 24 rfl rfl
theorem dksL_law_6 : cL_law.data.toList.drop 143 = dktL_law_6 := dk_seg dksL_law_5 23 rfl rfl
theorem dksL_law_7 : cL_law.data.toList.drop 167 = dktL_law_7 := dk_seg dksL_law_6 24 rfl rfl
theorem dksL_law_8 : cL_law.data.toList.drop 191 = dktL_law_8 := dk_seg dksL_law_7 24 rfl rfl
theorem dksL_law_9 : cL_law.data.toList.drop 214 = dktL_law_9 := dk_seg dksL_law_8 23 rfl rfl
theorem dksL_law_10 : cL_law.data.toList.drop 236 = dktL_law_10 := dk_seg dksL_law_9 22 rfl rfl
theorem dksL_law_11 : cL_law.data.toList.drop 258 = dktL_law_11 := dk_seg dksL_law_10 22 rfl rfl
theorem dksL_law_12 : cL_law.data.toList.drop 282 = dktL_law_12 := dk_seg dksL_law_11 24 rfl rfl
theorem dksL_law_13 : cL_law.data.toList.drop 305 = dktL_law_13 := dk_seg dksL_law_12 23 rfl rfl
theorem dL_law_0 : decode cL_law 0 = .ok (.invokestatic 42, 3) := dk_184 0 42 (dk_at dksL_law_0 0 rfl rfl)
theorem dL_law_3 : decode cL_law 3 = .ok (.ifCond .ne 5, 3) := dk_154 0 5 (dk_at dksL_law_0 3 rfl rfl)
theorem dL_law_6 : decode cL_law 6 = .ok (.iconst 0, 1) := dk_3 (dk_at dksL_law_0 6 rfl rfl)
theorem dL_law_7 : decode cL_law 7 = .ok (.ireturn, 1) := dk_172 (dk_at dksL_law_0 7 rfl rfl)
theorem dL_law_8 : decode cL_law 8 = .ok (.aload_n 0, 1) := dk_42 (dk_at dksL_law_0 8 rfl rfl)
theorem dL_law_9 : decode cL_law 9 = .ok (.invokestatic 46, 3) := dk_184 0 46 (dk_at dksL_law_0 9 rfl rfl)
theorem dL_law_12 : decode cL_law 12 = .ok (.astore_n 1, 1) := dk_76 (dk_at dksL_law_0 12 rfl rfl)
theorem dL_law_13 : decode cL_law 13 = .ok (.aload_n 0, 1) := dk_42 (dk_at dksL_law_0 13 rfl rfl)
theorem dL_law_14 : decode cL_law 14 = .ok (.invokestatic 46, 3) := dk_184 0 46 (dk_at dksL_law_0 14 rfl rfl)
theorem dL_law_17 : decode cL_law 17 = .ok (.astore_n 2, 1) := dk_77 (dk_at dksL_law_0 17 rfl rfl)
theorem dL_law_18 : decode cL_law 18 = .ok (.aload_n 0, 1) := dk_42 (dk_at dksL_law_0 18 rfl rfl)
theorem dL_law_19 : decode cL_law 19 = .ok (.invokestatic 46, 3) := dk_184 0 46 (dk_at dksL_law_0 19 rfl rfl)
theorem dL_law_22 : decode cL_law 22 = .ok (.astore_n 3, 1) := dk_78 (dk_at dksL_law_0 22 rfl rfl)
theorem dL_law_23 : decode cL_law 23 = .ok (.aload_n 0, 1) := dk_42 (dk_at dksL_law_0 23 rfl rfl)
theorem dL_law_24 : decode cL_law 24 = .ok (.invokestatic 46, 3) := dk_184 0 46 (dk_at dksL_law_1 0 rfl rfl)
theorem dL_law_27 : decode cL_law 27 = .ok (.astore 4, 2) := dk_58 4 (dk_at dksL_law_1 3 rfl rfl)
theorem dL_law_29 : decode cL_law 29 = .ok (.aload_n 0, 1) := dk_42 (dk_at dksL_law_1 5 rfl rfl)
theorem dL_law_30 : decode cL_law 30 = .ok (.bipush 13, 2) := dk_16 13 (dk_at dksL_law_1 6 rfl rfl)
theorem dL_law_32 : decode cL_law 32 = .ok (.invokestatic 10, 3) := dk_184 0 10 (dk_at dksL_law_1 8 rfl rfl)
theorem dL_law_35 : decode cL_law 35 = .ok (.ldc 50, 2) := dk_18 50 (dk_at dksL_law_1 11 rfl rfl)
theorem dL_law_37 : decode cL_law 37 = .ok (.iand, 1) := dk_126 (dk_at dksL_law_1 13 rfl rfl)
theorem dL_law_38 : decode cL_law 38 = .ok (.sipush 129, 3) := dk_17 0 129 (dk_at dksL_law_1 14 rfl rfl)
theorem dL_law_41 : decode cL_law 41 = .ok (.irem, 1) := dk_112 (dk_at dksL_law_1 17 rfl rfl)
theorem dL_law_42 : decode cL_law 42 = .ok (.istore 5, 2) := dk_54 5 (dk_at dksL_law_1 18 rfl rfl)
theorem dL_law_44 : decode cL_law 44 = .ok (.aload_n 1, 1) := dk_43 (dk_at dksL_law_1 20 rfl rfl)
theorem dL_law_45 : decode cL_law 45 = .ok (.iconst 0, 1) := dk_3 (dk_at dksL_law_1 21 rfl rfl)
theorem dL_law_46 : decode cL_law 46 = .ok (.iload 5, 2) := dk_21 5 (dk_at dksL_law_1 22 rfl rfl)
theorem dL_law_48 : decode cL_law 48 = .ok (.invokevirtual 34, 3) := dk_182 0 34 (dk_at dksL_law_2 0 rfl rfl)
theorem dL_law_51 : decode cL_law 51 = .ok (.iload 5, 2) := dk_21 5 (dk_at dksL_law_2 3 rfl rfl)
theorem dL_law_53 : decode cL_law 53 = .ok (.if_icmp .eq 5, 3) := dk_159 0 5 (dk_at dksL_law_2 5 rfl rfl)
theorem dL_law_56 : decode cL_law 56 = .ok (.iconst 0, 1) := dk_3 (dk_at dksL_law_2 8 rfl rfl)
theorem dL_law_57 : decode cL_law 57 = .ok (.ireturn, 1) := dk_172 (dk_at dksL_law_2 9 rfl rfl)
theorem dL_law_58 : decode cL_law 58 = .ok (.iconst 0, 1) := dk_3 (dk_at dksL_law_2 10 rfl rfl)
theorem dL_law_59 : decode cL_law 59 = .ok (.istore 6, 2) := dk_54 6 (dk_at dksL_law_2 11 rfl rfl)
theorem dL_law_61 : decode cL_law 61 = .ok (.bipush 14, 2) := dk_16 14 (dk_at dksL_law_2 13 rfl rfl)
theorem dL_law_63 : decode cL_law 63 = .ok (.istore 7, 2) := dk_54 7 (dk_at dksL_law_2 15 rfl rfl)
theorem dL_law_65 : decode cL_law 65 = .ok (.iload 7, 2) := dk_21 7 (dk_at dksL_law_2 17 rfl rfl)
theorem dL_law_67 : decode cL_law 67 = .ok (.bipush 19, 2) := dk_16 19 (dk_at dksL_law_2 19 rfl rfl)
theorem dL_law_69 : decode cL_law 69 = .ok (.if_icmp .ge 101, 3) := dk_162 0 101 (dk_at dksL_law_2 21 rfl rfl)
theorem dL_law_72 : decode cL_law 72 = .ok (.iload 7, 2) := dk_21 7 (dk_at dksL_law_3 0 rfl rfl)
theorem dL_law_74 : decode cL_law 74 = .ok (.bipush 18, 2) := dk_16 18 (dk_at dksL_law_3 2 rfl rfl)
theorem dL_law_76 : decode cL_law 76 = .ok (.if_icmp .ne 11, 3) := dk_160 0 11 (dk_at dksL_law_3 4 rfl rfl)
theorem dL_law_79 : decode cL_law 79 = .ok (.iload 5, 2) := dk_21 5 (dk_at dksL_law_3 7 rfl rfl)
theorem dL_law_81 : decode cL_law 81 = .ok (.iload 6, 2) := dk_21 6 (dk_at dksL_law_3 9 rfl rfl)
theorem dL_law_83 : decode cL_law 83 = .ok (.isub, 1) := dk_100 (dk_at dksL_law_3 11 rfl rfl)
theorem dL_law_84 : decode cL_law 84 = .ok (.goto 20, 3) := dk_167 0 20 (dk_at dksL_law_3 12 rfl rfl)
theorem dL_law_87 : decode cL_law 87 = .ok (.aload_n 0, 1) := dk_42 (dk_at dksL_law_3 15 rfl rfl)
theorem dL_law_88 : decode cL_law 88 = .ok (.iload 7, 2) := dk_21 7 (dk_at dksL_law_3 16 rfl rfl)
theorem dL_law_90 : decode cL_law 90 = .ok (.invokestatic 10, 3) := dk_184 0 10 (dk_at dksL_law_3 18 rfl rfl)
theorem dL_law_93 : decode cL_law 93 = .ok (.ldc 50, 2) := dk_18 50 (dk_at dksL_law_3 21 rfl rfl)
theorem dL_law_95 : decode cL_law 95 = .ok (.iand, 1) := dk_126 (dk_at dksL_law_3 23 rfl rfl)
theorem dL_law_96 : decode cL_law 96 = .ok (.iload 5, 2) := dk_21 5 (dk_at dksL_law_4 0 rfl rfl)
theorem dL_law_98 : decode cL_law 98 = .ok (.iload 6, 2) := dk_21 6 (dk_at dksL_law_4 2 rfl rfl)
theorem dL_law_100 : decode cL_law 100 = .ok (.isub, 1) := dk_100 (dk_at dksL_law_4 4 rfl rfl)
theorem dL_law_101 : decode cL_law 101 = .ok (.iconst 1, 1) := dk_4 (dk_at dksL_law_4 5 rfl rfl)
theorem dL_law_102 : decode cL_law 102 = .ok (.iadd, 1) := dk_96 (dk_at dksL_law_4 6 rfl rfl)
theorem dL_law_103 : decode cL_law 103 = .ok (.irem, 1) := dk_112 (dk_at dksL_law_4 7 rfl rfl)
theorem dL_law_104 : decode cL_law 104 = .ok (.istore 8, 2) := dk_54 8 (dk_at dksL_law_4 8 rfl rfl)
theorem dL_law_106 : decode cL_law 106 = .ok (.aload_n 2, 1) := dk_44 (dk_at dksL_law_4 10 rfl rfl)
theorem dL_law_107 : decode cL_law 107 = .ok (.iload 6, 2) := dk_21 6 (dk_at dksL_law_4 11 rfl rfl)
theorem dL_law_109 : decode cL_law 109 = .ok (.iload 8, 2) := dk_21 8 (dk_at dksL_law_4 13 rfl rfl)
theorem dL_law_111 : decode cL_law 111 = .ok (.invokevirtual 34, 3) := dk_182 0 34 (dk_at dksL_law_4 15 rfl rfl)
theorem dL_law_114 : decode cL_law 114 = .ok (.iload 8, 2) := dk_21 8 (dk_at dksL_law_4 18 rfl rfl)
theorem dL_law_116 : decode cL_law 116 = .ok (.if_icmp .eq 5, 3) := dk_159 0 5 (dk_at dksL_law_4 20 rfl rfl)
theorem dL_law_119 : decode cL_law 119 = .ok (.iconst 0, 1) := dk_3 (dk_at dksL_law_4 23 rfl rfl)
theorem dL_law_120 : decode cL_law 120 = .ok (.ireturn, 1) := dk_172 (dk_at dksL_law_5 0 rfl rfl)
theorem dL_law_121 : decode cL_law 121 = .ok (.iconst 0, 1) := dk_3 (dk_at dksL_law_5 1 rfl rfl)
theorem dL_law_122 : decode cL_law 122 = .ok (.istore 9, 2) := dk_54 9 (dk_at dksL_law_5 2 rfl rfl)
theorem dL_law_124 : decode cL_law 124 = .ok (.iload 9, 2) := dk_21 9 (dk_at dksL_law_5 4 rfl rfl)
theorem dL_law_126 : decode cL_law 126 = .ok (.iload 8, 2) := dk_21 8 (dk_at dksL_law_5 6 rfl rfl)
theorem dL_law_128 : decode cL_law 128 = .ok (.if_icmp .ge 29, 3) := dk_162 0 29 (dk_at dksL_law_5 8 rfl rfl)
theorem dL_law_131 : decode cL_law 131 = .ok (.aload_n 2, 1) := dk_44 (dk_at dksL_law_5 11 rfl rfl)
theorem dL_law_132 : decode cL_law 132 = .ok (.iload 9, 2) := dk_21 9 (dk_at dksL_law_5 12 rfl rfl)
theorem dL_law_134 : decode cL_law 134 = .ok (.invokevirtual 38, 3) := dk_182 0 38 (dk_at dksL_law_5 14 rfl rfl)
theorem dL_law_137 : decode cL_law 137 = .ok (.aload_n 1, 1) := dk_43 (dk_at dksL_law_5 17 rfl rfl)
theorem dL_law_138 : decode cL_law 138 = .ok (.iload 6, 2) := dk_21 6 (dk_at dksL_law_5 18 rfl rfl)
theorem dL_law_140 : decode cL_law 140 = .ok (.iload 9, 2) := dk_21 9 (dk_at dksL_law_5 20 rfl rfl)
theorem dL_law_142 : decode cL_law 142 = .ok (.iadd, 1) := dk_96 (dk_at dksL_law_5 22 rfl rfl)
theorem dL_law_143 : decode cL_law 143 = .ok (.invokevirtual 38, 3) := dk_182 0 38 (dk_at dksL_law_6 0 rfl rfl)
theorem dL_law_146 : decode cL_law 146 = .ok (.if_icmp .eq 5, 3) := dk_159 0 5 (dk_at dksL_law_6 3 rfl rfl)
theorem dL_law_149 : decode cL_law 149 = .ok (.iconst 0, 1) := dk_3 (dk_at dksL_law_6 6 rfl rfl)
theorem dL_law_150 : decode cL_law 150 = .ok (.ireturn, 1) := dk_172 (dk_at dksL_law_6 7 rfl rfl)
theorem dL_law_151 : decode cL_law 151 = .ok (.iinc 9 1, 3) := dk_132 9 1 (dk_at dksL_law_6 8 rfl rfl)
theorem dL_law_154 : decode cL_law 154 = .ok (.goto (-30), 3) := dk_167 255 226 (dk_at dksL_law_6 11 rfl rfl)
theorem dL_law_157 : decode cL_law 157 = .ok (.iload 6, 2) := dk_21 6 (dk_at dksL_law_6 14 rfl rfl)
theorem dL_law_159 : decode cL_law 159 = .ok (.iload 8, 2) := dk_21 8 (dk_at dksL_law_6 16 rfl rfl)
theorem dL_law_161 : decode cL_law 161 = .ok (.iadd, 1) := dk_96 (dk_at dksL_law_6 18 rfl rfl)
theorem dL_law_162 : decode cL_law 162 = .ok (.istore 6, 2) := dk_54 6 (dk_at dksL_law_6 19 rfl rfl)
theorem dL_law_164 : decode cL_law 164 = .ok (.iinc 7 1, 3) := dk_132 7 1 (dk_at dksL_law_6 21 rfl rfl)
theorem dL_law_167 : decode cL_law 167 = .ok (.goto (-102), 3) := dk_167 255 154 (dk_at dksL_law_7 0 rfl rfl)
theorem dL_law_170 : decode cL_law 170 = .ok (.iconst 0, 1) := dk_3 (dk_at dksL_law_7 3 rfl rfl)
theorem dL_law_171 : decode cL_law 171 = .ok (.istore 7, 2) := dk_54 7 (dk_at dksL_law_7 4 rfl rfl)
theorem dL_law_173 : decode cL_law 173 = .ok (.iload 7, 2) := dk_21 7 (dk_at dksL_law_7 6 rfl rfl)
theorem dL_law_175 : decode cL_law 175 = .ok (.iload 5, 2) := dk_21 5 (dk_at dksL_law_7 8 rfl rfl)
theorem dL_law_177 : decode cL_law 177 = .ok (.if_icmp .ge 70, 3) := dk_162 0 70 (dk_at dksL_law_7 10 rfl rfl)
theorem dL_law_180 : decode cL_law 180 = .ok (.aload_n 0, 1) := dk_42 (dk_at dksL_law_7 13 rfl rfl)
theorem dL_law_181 : decode cL_law 181 = .ok (.bipush 20, 2) := dk_16 20 (dk_at dksL_law_7 14 rfl rfl)
theorem dL_law_183 : decode cL_law 183 = .ok (.iload 7, 2) := dk_21 7 (dk_at dksL_law_7 16 rfl rfl)
theorem dL_law_185 : decode cL_law 185 = .ok (.iconst 4, 1) := dk_7 (dk_at dksL_law_7 18 rfl rfl)
theorem dL_law_186 : decode cL_law 186 = .ok (.idiv, 1) := dk_108 (dk_at dksL_law_7 19 rfl rfl)
theorem dL_law_187 : decode cL_law 187 = .ok (.iadd, 1) := dk_96 (dk_at dksL_law_7 20 rfl rfl)
theorem dL_law_188 : decode cL_law 188 = .ok (.invokestatic 10, 3) := dk_184 0 10 (dk_at dksL_law_7 21 rfl rfl)
theorem dL_law_191 : decode cL_law 191 = .ok (.bipush 24, 2) := dk_16 24 (dk_at dksL_law_8 0 rfl rfl)
theorem dL_law_193 : decode cL_law 193 = .ok (.bipush 8, 2) := dk_16 8 (dk_at dksL_law_8 2 rfl rfl)
theorem dL_law_195 : decode cL_law 195 = .ok (.iload 7, 2) := dk_21 7 (dk_at dksL_law_8 4 rfl rfl)
theorem dL_law_197 : decode cL_law 197 = .ok (.iconst 4, 1) := dk_7 (dk_at dksL_law_8 6 rfl rfl)
theorem dL_law_198 : decode cL_law 198 = .ok (.irem, 1) := dk_112 (dk_at dksL_law_8 7 rfl rfl)
theorem dL_law_199 : decode cL_law 199 = .ok (.imul, 1) := dk_104 (dk_at dksL_law_8 8 rfl rfl)
theorem dL_law_200 : decode cL_law 200 = .ok (.isub, 1) := dk_100 (dk_at dksL_law_8 9 rfl rfl)
theorem dL_law_201 : decode cL_law 201 = .ok (.iushr, 1) := dk_124 (dk_at dksL_law_8 10 rfl rfl)
theorem dL_law_202 : decode cL_law 202 = .ok (.sipush 255, 3) := dk_17 0 255 (dk_at dksL_law_8 11 rfl rfl)
theorem dL_law_205 : decode cL_law 205 = .ok (.iand, 1) := dk_126 (dk_at dksL_law_8 14 rfl rfl)
theorem dL_law_206 : decode cL_law 206 = .ok (.istore 8, 2) := dk_54 8 (dk_at dksL_law_8 15 rfl rfl)
theorem dL_law_208 : decode cL_law 208 = .ok (.aload_n 3, 1) := dk_45 (dk_at dksL_law_8 17 rfl rfl)
theorem dL_law_209 : decode cL_law 209 = .ok (.iload 8, 2) := dk_21 8 (dk_at dksL_law_8 18 rfl rfl)
theorem dL_law_211 : decode cL_law 211 = .ok (.invokevirtual 51, 3) := dk_182 0 51 (dk_at dksL_law_8 20 rfl rfl)
theorem dL_law_214 : decode cL_law 214 = .ok (.istore 9, 2) := dk_54 9 (dk_at dksL_law_9 0 rfl rfl)
theorem dL_law_216 : decode cL_law 216 = .ok (.iload 9, 2) := dk_21 9 (dk_at dksL_law_9 2 rfl rfl)
theorem dL_law_218 : decode cL_law 218 = .ok (.aload_n 1, 1) := dk_43 (dk_at dksL_law_9 4 rfl rfl)
theorem dL_law_219 : decode cL_law 219 = .ok (.iload 7, 2) := dk_21 7 (dk_at dksL_law_9 5 rfl rfl)
theorem dL_law_221 : decode cL_law 221 = .ok (.invokevirtual 38, 3) := dk_182 0 38 (dk_at dksL_law_9 7 rfl rfl)
theorem dL_law_224 : decode cL_law 224 = .ok (.if_icmp .ne 15, 3) := dk_160 0 15 (dk_at dksL_law_9 10 rfl rfl)
theorem dL_law_227 : decode cL_law 227 = .ok (.aload 4, 2) := dk_25 4 (dk_at dksL_law_9 13 rfl rfl)
theorem dL_law_229 : decode cL_law 229 = .ok (.iload 9, 2) := dk_21 9 (dk_at dksL_law_9 15 rfl rfl)
theorem dL_law_231 : decode cL_law 231 = .ok (.invokevirtual 51, 3) := dk_182 0 51 (dk_at dksL_law_9 17 rfl rfl)
theorem dL_law_234 : decode cL_law 234 = .ok (.iload 8, 2) := dk_21 8 (dk_at dksL_law_9 20 rfl rfl)
theorem dL_law_236 : decode cL_law 236 = .ok (.if_icmp .eq 5, 3) := dk_159 0 5 (dk_at dksL_law_10 0 rfl rfl)
theorem dL_law_239 : decode cL_law 239 = .ok (.iconst 0, 1) := dk_3 (dk_at dksL_law_10 3 rfl rfl)
theorem dL_law_240 : decode cL_law 240 = .ok (.ireturn, 1) := dk_172 (dk_at dksL_law_10 4 rfl rfl)
theorem dL_law_241 : decode cL_law 241 = .ok (.iinc 7 1, 3) := dk_132 7 1 (dk_at dksL_law_10 5 rfl rfl)
theorem dL_law_244 : decode cL_law 244 = .ok (.goto (-71), 3) := dk_167 255 185 (dk_at dksL_law_10 8 rfl rfl)
theorem dL_law_247 : decode cL_law 247 = .ok (.aload_n 3, 1) := dk_45 (dk_at dksL_law_10 11 rfl rfl)
theorem dL_law_248 : decode cL_law 248 = .ok (.invokevirtual 54, 3) := dk_182 0 54 (dk_at dksL_law_10 12 rfl rfl)
theorem dL_law_251 : decode cL_law 251 = .ok (.iconst 0, 1) := dk_3 (dk_at dksL_law_10 15 rfl rfl)
theorem dL_law_252 : decode cL_law 252 = .ok (.istore 7, 2) := dk_54 7 (dk_at dksL_law_10 16 rfl rfl)
theorem dL_law_254 : decode cL_law 254 = .ok (.iload 7, 2) := dk_21 7 (dk_at dksL_law_10 18 rfl rfl)
theorem dL_law_256 : decode cL_law 256 = .ok (.iload 5, 2) := dk_21 5 (dk_at dksL_law_10 20 rfl rfl)
theorem dL_law_258 : decode cL_law 258 = .ok (.if_icmp .ge 50, 3) := dk_162 0 50 (dk_at dksL_law_11 0 rfl rfl)
theorem dL_law_261 : decode cL_law 261 = .ok (.aload_n 3, 1) := dk_45 (dk_at dksL_law_11 3 rfl rfl)
theorem dL_law_262 : decode cL_law 262 = .ok (.aload_n 1, 1) := dk_43 (dk_at dksL_law_11 4 rfl rfl)
theorem dL_law_263 : decode cL_law 263 = .ok (.iload 7, 2) := dk_21 7 (dk_at dksL_law_11 5 rfl rfl)
theorem dL_law_265 : decode cL_law 265 = .ok (.invokevirtual 38, 3) := dk_182 0 38 (dk_at dksL_law_11 7 rfl rfl)
theorem dL_law_268 : decode cL_law 268 = .ok (.invokevirtual 51, 3) := dk_182 0 51 (dk_at dksL_law_11 10 rfl rfl)
theorem dL_law_271 : decode cL_law 271 = .ok (.aload_n 0, 1) := dk_42 (dk_at dksL_law_11 13 rfl rfl)
theorem dL_law_272 : decode cL_law 272 = .ok (.bipush 20, 2) := dk_16 20 (dk_at dksL_law_11 14 rfl rfl)
theorem dL_law_274 : decode cL_law 274 = .ok (.iload 7, 2) := dk_21 7 (dk_at dksL_law_11 16 rfl rfl)
theorem dL_law_276 : decode cL_law 276 = .ok (.iconst 4, 1) := dk_7 (dk_at dksL_law_11 18 rfl rfl)
theorem dL_law_277 : decode cL_law 277 = .ok (.idiv, 1) := dk_108 (dk_at dksL_law_11 19 rfl rfl)
theorem dL_law_278 : decode cL_law 278 = .ok (.iadd, 1) := dk_96 (dk_at dksL_law_11 20 rfl rfl)
theorem dL_law_279 : decode cL_law 279 = .ok (.invokestatic 10, 3) := dk_184 0 10 (dk_at dksL_law_11 21 rfl rfl)
theorem dL_law_282 : decode cL_law 282 = .ok (.bipush 24, 2) := dk_16 24 (dk_at dksL_law_12 0 rfl rfl)
theorem dL_law_284 : decode cL_law 284 = .ok (.bipush 8, 2) := dk_16 8 (dk_at dksL_law_12 2 rfl rfl)
theorem dL_law_286 : decode cL_law 286 = .ok (.iload 7, 2) := dk_21 7 (dk_at dksL_law_12 4 rfl rfl)
theorem dL_law_288 : decode cL_law 288 = .ok (.iconst 4, 1) := dk_7 (dk_at dksL_law_12 6 rfl rfl)
theorem dL_law_289 : decode cL_law 289 = .ok (.irem, 1) := dk_112 (dk_at dksL_law_12 7 rfl rfl)
theorem dL_law_290 : decode cL_law 290 = .ok (.imul, 1) := dk_104 (dk_at dksL_law_12 8 rfl rfl)
theorem dL_law_291 : decode cL_law 291 = .ok (.isub, 1) := dk_100 (dk_at dksL_law_12 9 rfl rfl)
theorem dL_law_292 : decode cL_law 292 = .ok (.iushr, 1) := dk_124 (dk_at dksL_law_12 10 rfl rfl)
theorem dL_law_293 : decode cL_law 293 = .ok (.sipush 255, 3) := dk_17 0 255 (dk_at dksL_law_12 11 rfl rfl)
theorem dL_law_296 : decode cL_law 296 = .ok (.iand, 1) := dk_126 (dk_at dksL_law_12 14 rfl rfl)
theorem dL_law_297 : decode cL_law 297 = .ok (.if_icmp .eq 5, 3) := dk_159 0 5 (dk_at dksL_law_12 15 rfl rfl)
theorem dL_law_300 : decode cL_law 300 = .ok (.iconst 0, 1) := dk_3 (dk_at dksL_law_12 18 rfl rfl)
theorem dL_law_301 : decode cL_law 301 = .ok (.ireturn, 1) := dk_172 (dk_at dksL_law_12 19 rfl rfl)
theorem dL_law_302 : decode cL_law 302 = .ok (.iinc 7 1, 3) := dk_132 7 1 (dk_at dksL_law_12 20 rfl rfl)
theorem dL_law_305 : decode cL_law 305 = .ok (.goto (-51), 3) := dk_167 255 205 (dk_at dksL_law_13 0 rfl rfl)
theorem dL_law_308 : decode cL_law 308 = .ok (.iconst 1, 1) := dk_4 (dk_at dksL_law_13 3 rfl rfl)
theorem dL_law_309 : decode cL_law 309 = .ok (.ireturn, 1) := dk_172 (dk_at dksL_law_13 4 rfl rfl)
end
section
/-! OUR OWN GENERAL ROWS: worlds of this claim, kinds of contracts (HcO reads alone, HcI answers an int, HcV nothing, HcR a cell), a method's start, its end, its call: one row each -/
set_option maxRecDepth 100000
abbrev vwCl : List vw_C := [(RX1, TX1, 8), (RX2, TX2, 8), (RX3, TX3, 2), (RX4, TX4, 1)]
/-- the array classes stand behind the four classes: 4 is int[], 5 is byte[] -/
abbrev hcT (D : va_G) : List (ClassId × FieldType) := [(D.1 4, .int), (D.1 5, .byte)]
abbrev hcIa (D : va_G) (a n : Nat) (f : Nat → Int32) : Nat × va_E := (a, .inl (D.1 4, n, .inl f))
abbrev hcBa (D : va_G) (a n : Nat) (f : Nat → Int32) : Nat × va_E := (a, .inl (D.1 5, n, .inl f))
abbrev hcOb (a ci : Nat) (fs : List Value) : Nat × va_E := (a, .inr (ci, fs))
/-- what else a method's start says: nothing, or where the script lies -/
def hcNo : State → Prop := fun _ => True
def hcXs (b L : Nat) (xs : Nat → Int32) : State → Prop := fun U => va_X b L xs U U.heap ∧ b < U.heap.size
def hcBl (E : State → Prop) : Prop := ∀ (U : State) (g : JFrame) (mk : MethodId) (a : Array Value), E U → E (U.calling g mk a)
theorem hcBl_no : hcBl hcNo := fun _ _ _ _ h => h
theorem hcBl_xs (b L : Nat) (xs : Nat → Int32) : hcBl (hcXs b L xs) := fun U g mk a h => ⟨va_X.moved (u := U) (U := U.calling g mk a) (Vm.Alike.refl U.vm) h.1, h.2⟩
def hcPre (D : va_G) (E : State → Prop) (av : List Value) (w : va_W) (sz : Nat) : Array Value → State → Prop := va_Pc av (fun U => U.heap.size = sz ∧ va_P D vwCl w U.heap ∧ va_K D vwCl (hcT D) U ∧ va_D (fun _ => True) w ∧ E U)
theorem hcPre_blind {D : va_G} {E : State → Prop} {av : List Value} {w : va_W} {sz : Nat} (hE : hcBl E) : FrameBlind (hcPre D E av w sz) := fun a U g mk q => by
  obtain ⟨q0, q1, qP, qK, qD, qE⟩ := q
  exact ⟨q0, q1, qP, va_K.moved (u := U) (U := U.calling g mk a) (Vm.Alike.refl U.vm) qK, qD, hE U g mk a qE⟩
def hcWA {S : Type} (D : va_G) (A : Nat → Prop) (w1 : S → va_W) : S → State → Prop := fun u t => va_P D vwCl (w1 u) t.heap ∧ va_D A (w1 u)
def hcWR {S : Type} (D : va_G) (A : Nat → Prop) (w1 : S → va_W) (ad : S → Nat) : S → Nat → State → Prop := fun u a t => a = ad u ∧ va_P D vwCl (w1 u) t.heap ∧ va_D A (w1 u)
def hcQo (v : Value) : Array Value → State → Outcome → State → Prop := fun _ st oc t => oc = .returned (some v) ∧ t.heap = st.heap
abbrev hcRm (fr lo mc ms : Nat) : Room := { frames := fr, cells := mc, slots := ms, locals := lo }
abbrev HcO (l : Launch) (y : MethodName) (cd : ByteArray) (L : Nat) (ty : FieldType) (fr lo : Nat) (D : va_G) (E : State → Prop) (av : List Value) (w : va_W) (v : Value) : Prop :=
  ∀ sz : Nat, Met l y (ws_ y cd L (some ty)) (hcRm fr lo 0 0) (hcPre D E av w sz) (hcQo v) 0 0 (fun _ => False)
abbrev HcI (l : Launch) (y : MethodName) (cd : ByteArray) (L : Nat) (ty : FieldType) (fr lo mc ms : Nat) (D : va_G) (E : State → Prop) (av : List Value) (w : va_W) {S : Type} (post : Int32 → S → Prop) (w1 : S → va_W) : Prop :=
  ∀ sz : Nat, Met l y (ws_ y cd L (some ty)) (hcRm fr lo mc ms) (hcPre D E av w sz) (va_Qi post (hcWA D (va_A w sz) w1) (va_A w sz)) mc ms (va_A w sz)
abbrev HcV (l : Launch) (y : MethodName) (cd : ByteArray) (L : Nat) (fr lo mc ms : Nat) (D : va_G) (E : State → Prop) (av : List Value) (w : va_W) {S : Type} (post : S → Prop) (w1 : S → va_W) : Prop :=
  ∀ sz : Nat, Met l y (ws_ y cd L none) (hcRm fr lo mc ms) (hcPre D E av w sz) (va_Qv post (hcWA D (va_A w sz) w1) (va_A w sz)) mc ms (va_A w sz)
abbrev HcR (l : Launch) (y : MethodName) (cd : ByteArray) (L : Nat) (ty : FieldType) (fr lo mc ms : Nat) (D : va_G) (E : State → Prop) (av : List Value) (w : va_W) {S : Type} (post : S → Prop) (w1 : S → va_W) (ad : S → Nat) : Prop :=
  ∀ sz : Nat, Met l y (ws_ y cd L (some ty)) (hcRm fr lo mc ms) (hcPre D E av w sz) (va_Qr post (hcWR D (va_A w sz) w1 ad) (va_A w sz)) mc ms (va_A w sz)
/-- a method's start -/
theorem hc_in {l : Launch} {y : MethodName} {cc : ByteArray} {maxL fr lo mc ms sz : Nat} {ret : Option FieldType} {D : va_G} {E : State → Prop} {av : List Value} {w : va_W} {Qc : Array Value → State → Outcome → State → Prop} {free : Addr → Prop}
    (hy : plainName y.cls = true) (hav : (lg_sl av).length ≤ maxL)
    (body : ∀ (p : Program) (e : Env) (s : State) (m : MethodId) (args : Array Value) (below : List Frame) (meth : Method) (c : Code) (ls : Array Slot), s.heap.size = sz → p.tables.exec = Jvm.exec → c.code = cc → meth.sig.returnType = ret → meth.locks = false → c.maxLocals = maxL → s.vm.findClass y.cls = some m.cls → (∀ w ∈ lw_all, w.before args s = true) → meth.name = y.name → va_P D vwCl w s.heap → va_K D vwCl (hcT D) s → va_D (va_A w sz) w → E s → (∀ q : Nat, s.heap.size ≤ q → va_A w sz q) → lv_has ls maxL (lv_args 0 av) →
      W p l e (hcRm fr lo mc ms) s m args below meth c s.heap [] 0 0 (MQ below Qc args s mc ms free) (F0 m 0 ls [])) :
    Met l y (ws_ y cc maxL ret) (hcRm fr lo mc ms) (hcPre D E av w sz) Qc mc ms free := by
  refine Met.ofW (cc := cc) (maxL := maxL) (ret := ret) hy rfl ?_
  intro p e s m args below meth c s₁ B hml hv
  obtain ⟨rfl, hsz, hP, hK, hD0, hE⟩ := hv
  have hts := atoms_spec (ws := ws_ y cc maxL ret) B.pre
  have hts : ∀ w ∈ lw_all, w.before _ s = true := fun w h => hts w (List.mem_cons_of_mem _ h)
  have hl := lv_entry av hav
  rw [lg_entry_eq]
  exact body p e s m _ below meth c _ hsz B.exec B.bytes B.returns B.notSynchronized hml (findClass_of_methodNamed B.named) hts (name_of_methodNamed B.named B.method).1 hP hK hD0.self hE (fun q h => Or.inr (by rw [← hsz]; exact h)) hl
theorem hc_psub {D : va_G} {cl : List vw_C} {ws w : va_W} {H : Heap} (h : va_P D cl ws H) (is : List Nat) (hs : is.map (fun i => ws[i]?) = w.map some) : va_P D cl w H := by
  intro k q hk
  have h1 : (is.map (fun i => ws[i]?))[k]? = some (some q) := by rw [hs, List.getElem?_map, hk]; rfl
  rw [List.getElem?_map] at h1
  cases hi : is[k]? with
  | none => rw [hi] at h1; cases h1
  | some i => rw [hi] at h1; exact h i q (Option.some.inj h1)
/-- an array's contents under another name, alike below its length -/
theorem hc_cell {cA : ClassId} {n : Nat} {f g : Nat → Int32} (h : ∀ j, j < n → f j = g j) : vp_cell cA (n, .inl f) = vp_cell cA (n, .inl g) := by
  rw [vp_cell_i, vp_cell_i]
  unfold arrV
  congr 1
  apply Array.ext
  · simp
  · intro j h1 h2
    have hj : j < n := by simpa using h1
    simp [h j hj]
theorem hc_re {D : va_G} {cl : List vw_C} {ws : va_W} {H : Heap} (hP : va_P D cl ws H) (k : Nat) {a n : Nat} {cA : ClassId} {f : Nat → Int32} (g : Nat → Int32) (hk : ws[k]? = some (a, .inl (cA, n, .inl f))) (h : ∀ j, j < n → f j = g j) : va_P D cl (ws.set k (a, .inl (cA, n, .inl g))) H := by
  have hl := (List.getElem?_eq_some_iff.mp hk).1
  intro i q hi
  by_cases hik : i = k
  · subst hik
    rw [List.getElem?_set_self hl] at hi
    cases hi
    show H[a]? = some (vp_cell cA (n, .inl g))
    rw [← hc_cell h]
    exact hP i _ hk
  · rw [List.getElem?_set_ne (Ne.symm hik)] at hi
    exact hP i q hi
theorem hc_reD {A : Nat → Prop} {ws : va_W} (hD : va_D A ws) (k : Nat) {a n : Nat} {cA : ClassId} {f : Nat → Int32} (g : Nat → Int32) (hk : ws[k]? = some (a, .inl (cA, n, .inl f))) : va_D A (ws.set k (a, .inl (cA, n, .inl g))) := hD.set hk
theorem hc_xs_of {b L : Nat} {xs : Nat → Int32} {s : State} {A : Nat → Prop} {H : Heap} {locs : List Loc} (hX : va_X b L xs s s.heap) (hb : b < s.heap.size) (hnA : ¬ A b) (hS : va_S A s.heap H locs) : ∀ U : State, U.heap = H → s.WarmedH U.vm → hcXs b L xs U := fun U hU hW => by
  subst hU
  exact ⟨(hX.moved hW.alike).kept (hS.2.1 b hb hnA), Nat.lt_of_lt_of_le hb hS.1⟩
theorem hc_no (H : Heap) (s : State) : ∀ U : State, U.heap = H → s.WarmedH U.vm → hcNo U := fun _ _ _ => trivial
section HC
variable {p : Program} {l : Launch} {e : Env} {R : Room} {s : State} {m : MethodId} {args : Array Value} {below : List Frame} {meth : Method} {c : Code} {H H0 : Heap} {locs : List Loc} {cells slots : Nat} {Q : State → Prop}
variable {cc : ByteArray} {pc : Nat} {ls : Array Slot} {rest st0 : List Value} {D : va_G} {A : Nat → Prop} {ws w wr : va_W}
theorem hc_top {x y : Int32} (h : x = y) (k : W p l e R s m args below meth c H locs cells slots Q (F0 m pc ls (.int y :: rest))) : W p l e R s m args below meth c H locs cells slots Q (F0 m pc ls (.int x :: rest)) := h ▸ k
theorem hc_top2 {v : Value} {x y : Int32} (h : x = y) (k : W p l e R s m args below meth c H locs cells slots Q (F0 m pc ls (v :: .int y :: rest))) : W p l e R s m args below meth c H locs cells slots Q (F0 m pc ls (v :: .int x :: rest)) := h ▸ k
theorem hc_pc {pc' : Nat} (h : pc = pc') (k : W p l e R s m args below meth c H locs cells slots Q (F0 m pc' ls st0)) : W p l e R s m args below meth c H locs cells slots Q (F0 m pc ls st0) := h ▸ k
/-! ends -/
theorem hc_oret {v : Int32} {ty : FieldType} {fr : Addr → Prop} (hexec : p.tables.exec = Jvm.exec) (hb : c.code = cc) (hr : meth.sig.returnType = some ty) (hlk : meth.locks = false) (hn : narrow ty (.int v) = .int v) (hdg : decode cc pc = .ok (.ireturn, 1)) :
    W p l e R s m args below meth c s.heap [] 0 0 (MQ below (hcQo (.int v)) args s 0 0 fr) (F0 m pc ls [.int v]) :=
  W.zret hexec hb hr hn (fun t ht _ => ⟨rfl, ht⟩) (fun q h => by cases h) hdg hlk
theorem hc_oretA {a : Nat} {ty : FieldType} {fr : Addr → Prop} (hexec : p.tables.exec = Jvm.exec) (hb : c.code = cc) (hr : meth.sig.returnType = some ty) (hlk : meth.locks = false) (hrt : (∃ n, ty = .object n) ∨ ∃ t, ty = .array t) (hdg : decode cc pc = .ok (.areturn, 1)) :
    W p l e R s m args below meth c s.heap [] 0 0 (MQ below (hcQo (.ref a)) args s 0 0 fr) (F0 m pc ls [.ref a]) :=
  W.aret hexec hb hr hrt (Or.inr ⟨_, rfl⟩) (fun t ht _ => ⟨rfl, ht⟩) (fun q h => by cases h) hdg hlk
theorem hc_iret {S : Type} {post : Int32 → S → Prop} {w1 : S → va_W} {v : Int32} {ty : FieldType} {mc ms : Nat} (u : S) (hexec : p.tables.exec = Jvm.exec) (hb : c.code = cc) (hr : meth.sig.returnType = some ty) (hlk : meth.locks = false) (hn : narrow ty (.int v) = .int v) (hpost : post v u) (hP : va_P D vwCl ws H) (hD : va_D A ws) (is : List Nat) (hnd : va_nd is = true) (hs : is.map (fun i => ws[i]?) = (w1 u).map some) (hS : va_S A s.heap H locs) (h1 : cells ≤ mc) (h2 : slots ≤ ms) (hdg : decode cc pc = .ok (.ireturn, 1)) :
    W p l e R s m args below meth c H locs cells slots (MQ below (va_Qi post (hcWA D A w1) A) args s mc ms A) (F0 m pc ls [.int v]) := by
  refine W.widen h1 h2 ?_
  exact W.zret hexec hb hr hn (fun t ht _ => ⟨⟨v, u, rfl, hpost, by rw [ht]; exact hc_psub hP is hs, hD.sub is hnd hs⟩, hS.F ht⟩) hS.2.2 hdg hlk
theorem hc_vret {S : Type} {post : S → Prop} {w1 : S → va_W} {mc ms : Nat} (u : S) (hexec : p.tables.exec = Jvm.exec) (hb : c.code = cc) (hr : meth.sig.returnType = none) (hlk : meth.locks = false) (hpost : post u) (hP : va_P D vwCl ws H) (hD : va_D A ws) (is : List Nat) (hnd : va_nd is = true) (hs : is.map (fun i => ws[i]?) = (w1 u).map some) (hS : va_S A s.heap H locs) (h1 : cells ≤ mc) (h2 : slots ≤ ms) (hdg : decode cc pc = .ok (.return_, 1)) :
    W p l e R s m args below meth c H locs cells slots (MQ below (va_Qv post (hcWA D A w1) A) args s mc ms A) (F0 m pc ls []) := by
  refine W.widen h1 h2 ?_
  exact W.vret hexec hb hr (fun t ht _ => ⟨⟨u, rfl, hpost, by rw [ht]; exact hc_psub hP is hs, hD.sub is hnd hs⟩, hS.F ht⟩) hS.2.2 hdg hlk
theorem hc_rret {S : Type} {post : S → Prop} {w1 : S → va_W} {ad : S → Nat} {a : Nat} {ty : FieldType} {mc ms : Nat} (u : S) (hexec : p.tables.exec = Jvm.exec) (hb : c.code = cc) (hr : meth.sig.returnType = some ty) (hlk : meth.locks = false) (hrt : (∃ n, ty = .object n) ∨ ∃ t, ty = .array t) (ha : a = ad u) (hpost : post u) (hP : va_P D vwCl ws H) (hD : va_D A ws) (is : List Nat) (hnd : va_nd is = true) (hs : is.map (fun i => ws[i]?) = (w1 u).map some) (hS : va_S A s.heap H locs) (h1 : cells ≤ mc) (h2 : slots ≤ ms) (hdg : decode cc pc = .ok (.areturn, 1)) :
    W p l e R s m args below meth c H locs cells slots (MQ below (va_Qr post (hcWR D A w1 ad) A) args s mc ms A) (F0 m pc ls [.ref a]) := by
  refine W.widen h1 h2 ?_
  exact W.aret hexec hb hr hrt (Or.inr ⟨_, rfl⟩) (fun t ht _ => ⟨⟨u, a, rfl, hpost, ha, by rw [ht]; exact hc_psub hP is hs, hD.sub is hnd hs⟩, hS.F ht⟩) hS.2.2 hdg hlk
/-! calls of methods that read alone: the heap stays as it is -/
theorem hc_oRun {a : Array Value} {v : Value} (hr : va_Run p l e R s m args below meth c H locs cells slots 0 0 (F0 m pc ls st0) rest (hcQo v a) (fun _ => False)) (kk : W p l e R s m args below meth c H locs cells slots Q (F0 m (pc + 3) ls (v :: rest))) : W p l e R s m args below meth c H locs cells slots Q (F0 m pc ls st0) := by
  intro T hT X
  obtain ⟨v', st₀, t, T', L, h0, X', hL, e1, e2, ⟨hv, hh⟩, st⟩ := hr T hT X
  cases hv
  obtain ⟨t2, a1, b1⟩ := kk T' (by rw [e1, hh, h0]) (Stand.forget X' (fun q h => (hL q h).elim))
  exact ⟨t2, st t2 a1, b1⟩
variable {y : MethodName} {bytes : ByteArray} {maxL nL n index fr lo mc ms : Nat} {ty : FieldType} {E : State → Prop} {own C : String} {b : Addr} {As : List Value} {v : Value}
theorem hc_pre (hE2 : ∀ U : State, U.heap = H → s.WarmedH U.vm → E U) (hK : va_K D vwCl (hcT D) s) (hP : va_P D vwCl ws H) (hD : va_D A ws) (isC : List Nat) (hnC : va_nd isC = true) (hC : isC.map (fun i => ws[i]?) = w.map some) {av : List Value} : ∀ U : State, U.heap = H → s.WarmedH U.vm → hcPre D E av w H.size av.toArray U := fun U hU hW => by
  have h1 := hE2 U hU hW
  subst hU
  exact ⟨rfl, rfl, hc_psub hP isC hC, va_K.moved hW.alike hK, (hD.sub isC hnC hC).weaken (fun _ _ _ _ => trivial), h1⟩
theorem hc_oV (hM : HcO l y bytes maxL ty fr lo D E (.ref b :: As) w v) (S : CallFix p m c cc nL s args lw_all own) (cw : CallW R s args own C index y bytes maxL (some ty) (ws_ y bytes maxL (some ty)) (hcRm fr lo 0 0) 0 0 n) (hE : hcBl E) (hE2 : ∀ U : State, U.heap = H → s.WarmedH U.vm → E U) (hK : va_K D vwCl (hcT D) s) (hP : va_P D vwCl ws H) (hD : va_D A ws) (isC : List Nat) (hnC : va_nd isC = true) (hC : isC.map (fun i => ws[i]?) = w.map some) (q0 : Nat) {ci : Nat} {q : vw_C} {fs : List Value} (hc : vwCl[ci]? = some q) (hq : q.1 = C) (he : ws[q0]? = some (b, .inr (ci, fs)))
    (hn : As.length = n) (hsize : ls.size = nL) (hst : st0 = As.reverse ++ .ref b :: rest) (hrest : (rest.map fun v => v.category).sum ≤ 8) (hdg : decode cc pc = .ok (.invokevirtual index, 3)) (hf : cells ≤ R.cells ∧ slots ≤ R.slots)
    (kk : W p l e R s m args below meth c H locs cells slots Q (F0 m (pc + 3) ls (v :: rest))) : W p l e R s m args below meth c H locs cells slots Q (F0 m pc ls st0) := by
  subst hq
  exact hc_oRun (va_runV S (hM H.size) cw ⟨hcPre_blind hE, va_recv hK hP hc he, hc_pre hE2 hK hP hD isC hnC hC⟩ rfl hn hsize hst (lv_room hrest) hdg hf) kk
theorem hc_oS (hM : HcO l y bytes maxL ty fr lo D E As w v) (S : CallFix p m c cc nL s args lw_all own) (cw : CallB R s args own index y bytes maxL (some ty) (ws_ y bytes maxL (some ty)) (hcRm fr lo 0 0) 0 0 n ∧ (Cond.static y).before args s = true) (hE : hcBl E) (hE2 : ∀ U : State, U.heap = H → s.WarmedH U.vm → E U) (hK : va_K D vwCl (hcT D) s) (hP : va_P D vwCl ws H) (hD : va_D A ws) (isC : List Nat) (hnC : va_nd isC = true) (hC : isC.map (fun i => ws[i]?) = w.map some)
    (hn : As.length = n) (hsize : ls.size = nL) (hst : st0 = As.reverse ++ rest) (hrest : (rest.map fun v => v.category).sum ≤ 8) (hdg : decode cc pc = .ok (.invokestatic index, 3)) (hf : cells ≤ R.cells ∧ slots ≤ R.slots)
    (kk : W p l e R s m args below meth c H locs cells slots Q (F0 m (pc + 3) ls (v :: rest))) : W p l e R s m args below meth c H locs cells slots Q (F0 m pc ls st0) :=
  hc_oRun (va_runS S (hM H.size) cw ⟨hcPre_blind hE, hc_pre hE2 hK hP hD isC hnC hC⟩ rfl hn hsize hst (lv_room hrest) hdg hf) kk
/-! calls of methods that write or make cells -/
variable {S : Type} {w1 : S → va_W}
theorem hc_join {H1 : Heap} {u : S} {t : State} (hP : va_P D vwCl ws H) (hD : va_D A ws) (hS : va_S A H0 H locs) (hA : ∀ q : Nat, H0.size ≤ q → A q) (isC isR : List Nat) (hC : isC.map (fun i => ws[i]?) = w.map some) (hR : isR.map (fun i => ws[i]?) = wr.map some) (hnR : va_nd isR = true) (hdis : ∀ i ∈ isR, i ∉ isC) (ht : t.heap = H1) (hB : hcWA D (va_A w H.size) w1 u t) (hk : ∀ q : Nat, q < H.size → ¬ va_A w H.size q → H1[q]? = H[q]?) : va_P D vwCl (wr ++ w1 u) H1 ∧ va_D A (wr ++ w1 u) := by
  subst ht
  exact va_join hP hD isC isR hC hR hnR hdis hk (va_free hD hS hA isC hC) hB.1 hB.2
theorem hc_iRun {post : Int32 → S → Prop} {a : Array Value} (hr : va_Run p l e R s m args below meth c H locs cells slots mc ms (F0 m pc ls st0) rest (va_Qi post (hcWA D (va_A w H.size) w1) (va_A w H.size) a) (va_A w H.size)) (hP : va_P D vwCl ws H) (hD : va_D A ws) (hS : va_S A H0 H locs) (hA : ∀ q : Nat, H0.size ≤ q → A q) (isC isR : List Nat) (hC : isC.map (fun i => ws[i]?) = w.map some) (hR : isR.map (fun i => ws[i]?) = wr.map some) (hnR : va_nd isR = true) (hdis : ∀ i ∈ isR, i ∉ isC)
    (kk : ∀ (r : Int32) (u : S) (H1 : Heap) (locs1 : List Loc), post r u → va_P D vwCl (wr ++ w1 u) H1 → va_D A (wr ++ w1 u) → va_S A H0 H1 locs1 → W p l e R s m args below meth c H1 locs1 (cells + mc) (slots + ms) Q (F0 m (pc + 3) ls (.int r :: rest))) : W p l e R s m args below meth c H locs cells slots Q (F0 m pc ls st0) := by
  have hF := va_free hD hS hA isC hC
  refine va_calli hr hS (fun q _ h => hF q h) hF (fun r u t H1 locs1 ht hvm hw hB hz hk hS1 => ?_)
  obtain ⟨hP1, hD1⟩ := hc_join hP hD hS hA isC isR hC hR hnR hdis ht hB hk
  exact kk r u H1 locs1 hw hP1 hD1 hS1
theorem hc_vRun {post : S → Prop} {a : Array Value} (hr : va_Run p l e R s m args below meth c H locs cells slots mc ms (F0 m pc ls st0) rest (va_Qv post (hcWA D (va_A w H.size) w1) (va_A w H.size) a) (va_A w H.size)) (hP : va_P D vwCl ws H) (hD : va_D A ws) (hS : va_S A H0 H locs) (hA : ∀ q : Nat, H0.size ≤ q → A q) (isC isR : List Nat) (hC : isC.map (fun i => ws[i]?) = w.map some) (hR : isR.map (fun i => ws[i]?) = wr.map some) (hnR : va_nd isR = true) (hdis : ∀ i ∈ isR, i ∉ isC)
    (kk : ∀ (u : S) (H1 : Heap) (locs1 : List Loc), post u → va_P D vwCl (wr ++ w1 u) H1 → va_D A (wr ++ w1 u) → va_S A H0 H1 locs1 → W p l e R s m args below meth c H1 locs1 (cells + mc) (slots + ms) Q (F0 m (pc + 3) ls rest)) : W p l e R s m args below meth c H locs cells slots Q (F0 m pc ls st0) := by
  have hF := va_free hD hS hA isC hC
  refine va_callv hr hS (fun q _ h => hF q h) hF (fun u t H1 locs1 ht hvm hw hB hz hk hS1 => ?_)
  obtain ⟨hP1, hD1⟩ := hc_join hP hD hS hA isC isR hC hR hnR hdis ht hB hk
  exact kk u H1 locs1 hw hP1 hD1 hS1
theorem hc_rRun {post : S → Prop} {ad : S → Nat} {a : Array Value} (hr : va_Run p l e R s m args below meth c H locs cells slots mc ms (F0 m pc ls st0) rest (va_Qr post (hcWR D (va_A w H.size) w1 ad) (va_A w H.size) a) (va_A w H.size)) (hP : va_P D vwCl ws H) (hD : va_D A ws) (hS : va_S A H0 H locs) (hA : ∀ q : Nat, H0.size ≤ q → A q) (isC isR : List Nat) (hC : isC.map (fun i => ws[i]?) = w.map some) (hR : isR.map (fun i => ws[i]?) = wr.map some) (hnR : va_nd isR = true) (hdis : ∀ i ∈ isR, i ∉ isC)
    (kk : ∀ (u : S) (H1 : Heap) (locs1 : List Loc), post u → va_P D vwCl (wr ++ w1 u) H1 → va_D A (wr ++ w1 u) → va_S A H0 H1 locs1 → W p l e R s m args below meth c H1 locs1 (cells + mc) (slots + ms) Q (F0 m (pc + 3) ls (.ref (ad u) :: rest))) : W p l e R s m args below meth c H locs cells slots Q (F0 m pc ls st0) := by
  have hF := va_free hD hS hA isC hC
  refine va_callr hr hS (fun q _ h => hF q h) hF (fun u ra t H1 locs1 ht hvm hw hB hz hk hS1 => ?_)
  obtain ⟨hP1, hD1⟩ := hc_join hP hD hS hA isC isR hC hR hnR hdis ht hB.2 hk
  rw [hB.1]
  exact kk u H1 locs1 hw hP1 hD1 hS1
theorem hc_iV {post : Int32 → S → Prop} (hM : HcI l y bytes maxL ty fr lo mc ms D E (.ref b :: As) w post w1) (F : CallFix p m c cc nL s args lw_all own) (cw : CallW R s args own C index y bytes maxL (some ty) (ws_ y bytes maxL (some ty)) (hcRm fr lo mc ms) mc ms n) (hE : hcBl E) (hE2 : ∀ U : State, U.heap = H → s.WarmedH U.vm → E U) (hK : va_K D vwCl (hcT D) s) (hP : va_P D vwCl ws H) (hD : va_D A ws) (hS : va_S A H0 H locs) (hA : ∀ q : Nat, H0.size ≤ q → A q) (isC isR : List Nat) (hnC : va_nd isC = true) (hC : isC.map (fun i => ws[i]?) = w.map some) (hR : isR.map (fun i => ws[i]?) = wr.map some) (hnR : va_nd isR = true) (hdis : ∀ i ∈ isR, i ∉ isC) (q0 : Nat) {ci : Nat} {q : vw_C} {fs : List Value} (hc : vwCl[ci]? = some q) (hq : q.1 = C) (he : ws[q0]? = some (b, .inr (ci, fs)))
    (hn : As.length = n) (hsize : ls.size = nL) (hst : st0 = As.reverse ++ .ref b :: rest) (hrest : (rest.map fun v => v.category).sum ≤ 8) (hdg : decode cc pc = .ok (.invokevirtual index, 3)) (hf : cells + mc ≤ R.cells ∧ slots + ms ≤ R.slots)
    (kk : ∀ (r : Int32) (u : S) (H1 : Heap) (locs1 : List Loc), post r u → va_P D vwCl (wr ++ w1 u) H1 → va_D A (wr ++ w1 u) → va_S A H0 H1 locs1 → W p l e R s m args below meth c H1 locs1 (cells + mc) (slots + ms) Q (F0 m (pc + 3) ls (.int r :: rest))) : W p l e R s m args below meth c H locs cells slots Q (F0 m pc ls st0) := by
  subst hq
  exact hc_iRun (va_runV F (hM H.size) cw ⟨hcPre_blind hE, va_recv hK hP hc he, hc_pre hE2 hK hP hD isC hnC hC⟩ rfl hn hsize hst (lv_room hrest) hdg hf) hP hD hS hA isC isR hC hR hnR hdis kk
theorem hc_vV {post : S → Prop} (hM : HcV l y bytes maxL fr lo mc ms D E (.ref b :: As) w post w1) (F : CallFix p m c cc nL s args lw_all own) (cw : CallW R s args own C index y bytes maxL none (ws_ y bytes maxL none) (hcRm fr lo mc ms) mc ms n) (hE : hcBl E) (hE2 : ∀ U : State, U.heap = H → s.WarmedH U.vm → E U) (hK : va_K D vwCl (hcT D) s) (hP : va_P D vwCl ws H) (hD : va_D A ws) (hS : va_S A H0 H locs) (hA : ∀ q : Nat, H0.size ≤ q → A q) (isC isR : List Nat) (hnC : va_nd isC = true) (hC : isC.map (fun i => ws[i]?) = w.map some) (hR : isR.map (fun i => ws[i]?) = wr.map some) (hnR : va_nd isR = true) (hdis : ∀ i ∈ isR, i ∉ isC) (q0 : Nat) {ci : Nat} {q : vw_C} {fs : List Value} (hc : vwCl[ci]? = some q) (hq : q.1 = C) (he : ws[q0]? = some (b, .inr (ci, fs)))
    (hn : As.length = n) (hsize : ls.size = nL) (hst : st0 = As.reverse ++ .ref b :: rest) (hrest : (rest.map fun v => v.category).sum ≤ 8) (hdg : decode cc pc = .ok (.invokevirtual index, 3)) (hf : cells + mc ≤ R.cells ∧ slots + ms ≤ R.slots)
    (kk : ∀ (u : S) (H1 : Heap) (locs1 : List Loc), post u → va_P D vwCl (wr ++ w1 u) H1 → va_D A (wr ++ w1 u) → va_S A H0 H1 locs1 → W p l e R s m args below meth c H1 locs1 (cells + mc) (slots + ms) Q (F0 m (pc + 3) ls rest)) : W p l e R s m args below meth c H locs cells slots Q (F0 m pc ls st0) := by
  subst hq
  exact hc_vRun (va_runV F (hM H.size) cw ⟨hcPre_blind hE, va_recv hK hP hc he, hc_pre hE2 hK hP hD isC hnC hC⟩ rfl hn hsize hst (lv_room hrest) hdg hf) hP hD hS hA isC isR hC hR hnR hdis kk
theorem hc_vI {post : S → Prop} (hM : HcV l y bytes maxL fr lo mc ms D E (.ref b :: As) w post w1) (F : CallFix p m c cc nL s args lw_all own) (cw : CallB R s args own index y bytes maxL none (ws_ y bytes maxL none) (hcRm fr lo mc ms) mc ms n ∧ y.name = "<init>" ∧ (Cond.instanceMethod y).before args s = true) (hE : hcBl E) (hE2 : ∀ U : State, U.heap = H → s.WarmedH U.vm → E U) (hK : va_K D vwCl (hcT D) s) (hP : va_P D vwCl ws H) (hD : va_D A ws) (hS : va_S A H0 H locs) (hA : ∀ q : Nat, H0.size ≤ q → A q) (isC isR : List Nat) (hnC : va_nd isC = true) (hC : isC.map (fun i => ws[i]?) = w.map some) (hR : isR.map (fun i => ws[i]?) = wr.map some) (hnR : va_nd isR = true) (hdis : ∀ i ∈ isR, i ∉ isC)
    (hn : As.length = n) (hsize : ls.size = nL) (hst : st0 = As.reverse ++ .ref b :: rest) (hrest : (rest.map fun v => v.category).sum ≤ 8) (hdg : decode cc pc = .ok (.invokespecial index, 3)) (hf : cells + mc ≤ R.cells ∧ slots + ms ≤ R.slots)
    (kk : ∀ (u : S) (H1 : Heap) (locs1 : List Loc), post u → va_P D vwCl (wr ++ w1 u) H1 → va_D A (wr ++ w1 u) → va_S A H0 H1 locs1 → W p l e R s m args below meth c H1 locs1 (cells + mc) (slots + ms) Q (F0 m (pc + 3) ls rest)) : W p l e R s m args below meth c H locs cells slots Q (F0 m pc ls st0) :=
  hc_vRun (va_runI F (hM H.size) cw ⟨hcPre_blind hE, hc_pre hE2 hK hP hD isC hnC hC⟩ rfl hn hsize hst (lv_room hrest) hdg hf) hP hD hS hA isC isR hC hR hnR hdis kk
theorem hc_vS {post : S → Prop} (hM : HcV l y bytes maxL fr lo mc ms D E As w post w1) (F : CallFix p m c cc nL s args lw_all own) (cw : CallB R s args own index y bytes maxL none (ws_ y bytes maxL none) (hcRm fr lo mc ms) mc ms n ∧ (Cond.static y).before args s = true) (hE : hcBl E) (hE2 : ∀ U : State, U.heap = H → s.WarmedH U.vm → E U) (hK : va_K D vwCl (hcT D) s) (hP : va_P D vwCl ws H) (hD : va_D A ws) (hS : va_S A H0 H locs) (hA : ∀ q : Nat, H0.size ≤ q → A q) (isC isR : List Nat) (hnC : va_nd isC = true) (hC : isC.map (fun i => ws[i]?) = w.map some) (hR : isR.map (fun i => ws[i]?) = wr.map some) (hnR : va_nd isR = true) (hdis : ∀ i ∈ isR, i ∉ isC)
    (hn : As.length = n) (hsize : ls.size = nL) (hst : st0 = As.reverse ++ rest) (hrest : (rest.map fun v => v.category).sum ≤ 8) (hdg : decode cc pc = .ok (.invokestatic index, 3)) (hf : cells + mc ≤ R.cells ∧ slots + ms ≤ R.slots)
    (kk : ∀ (u : S) (H1 : Heap) (locs1 : List Loc), post u → va_P D vwCl (wr ++ w1 u) H1 → va_D A (wr ++ w1 u) → va_S A H0 H1 locs1 → W p l e R s m args below meth c H1 locs1 (cells + mc) (slots + ms) Q (F0 m (pc + 3) ls rest)) : W p l e R s m args below meth c H locs cells slots Q (F0 m pc ls st0) :=
  hc_vRun (va_runS F (hM H.size) cw ⟨hcPre_blind hE, hc_pre hE2 hK hP hD isC hnC hC⟩ rfl hn hsize hst (lv_room hrest) hdg hf) hP hD hS hA isC isR hC hR hnR hdis kk
theorem hc_iS {post : Int32 → S → Prop} (hM : HcI l y bytes maxL ty fr lo mc ms D E As w post w1) (F : CallFix p m c cc nL s args lw_all own) (cw : CallB R s args own index y bytes maxL (some ty) (ws_ y bytes maxL (some ty)) (hcRm fr lo mc ms) mc ms n ∧ (Cond.static y).before args s = true) (hE : hcBl E) (hE2 : ∀ U : State, U.heap = H → s.WarmedH U.vm → E U) (hK : va_K D vwCl (hcT D) s) (hP : va_P D vwCl ws H) (hD : va_D A ws) (hS : va_S A H0 H locs) (hA : ∀ q : Nat, H0.size ≤ q → A q) (isC isR : List Nat) (hnC : va_nd isC = true) (hC : isC.map (fun i => ws[i]?) = w.map some) (hR : isR.map (fun i => ws[i]?) = wr.map some) (hnR : va_nd isR = true) (hdis : ∀ i ∈ isR, i ∉ isC)
    (hn : As.length = n) (hsize : ls.size = nL) (hst : st0 = As.reverse ++ rest) (hrest : (rest.map fun v => v.category).sum ≤ 8) (hdg : decode cc pc = .ok (.invokestatic index, 3)) (hf : cells + mc ≤ R.cells ∧ slots + ms ≤ R.slots)
    (kk : ∀ (r : Int32) (u : S) (H1 : Heap) (locs1 : List Loc), post r u → va_P D vwCl (wr ++ w1 u) H1 → va_D A (wr ++ w1 u) → va_S A H0 H1 locs1 → W p l e R s m args below meth c H1 locs1 (cells + mc) (slots + ms) Q (F0 m (pc + 3) ls (.int r :: rest))) : W p l e R s m args below meth c H locs cells slots Q (F0 m pc ls st0) :=
  hc_iRun (va_runS F (hM H.size) cw ⟨hcPre_blind hE, hc_pre hE2 hK hP hD isC hnC hC⟩ rfl hn hsize hst (lv_room hrest) hdg hf) hP hD hS hA isC isR hC hR hnR hdis kk
theorem hc_rS {post : S → Prop} {ad : S → Nat} (hM : HcR l y bytes maxL ty fr lo mc ms D E As w post w1 ad) (F : CallFix p m c cc nL s args lw_all own) (cw : CallB R s args own index y bytes maxL (some ty) (ws_ y bytes maxL (some ty)) (hcRm fr lo mc ms) mc ms n ∧ (Cond.static y).before args s = true) (hE : hcBl E) (hE2 : ∀ U : State, U.heap = H → s.WarmedH U.vm → E U) (hK : va_K D vwCl (hcT D) s) (hP : va_P D vwCl ws H) (hD : va_D A ws) (hS : va_S A H0 H locs) (hA : ∀ q : Nat, H0.size ≤ q → A q) (isC isR : List Nat) (hnC : va_nd isC = true) (hC : isC.map (fun i => ws[i]?) = w.map some) (hR : isR.map (fun i => ws[i]?) = wr.map some) (hnR : va_nd isR = true) (hdis : ∀ i ∈ isR, i ∉ isC)
    (hn : As.length = n) (hsize : ls.size = nL) (hst : st0 = As.reverse ++ rest) (hrest : (rest.map fun v => v.category).sum ≤ 8) (hdg : decode cc pc = .ok (.invokestatic index, 3)) (hf : cells + mc ≤ R.cells ∧ slots + ms ≤ R.slots)
    (kk : ∀ (u : S) (H1 : Heap) (locs1 : List Loc), post u → va_P D vwCl (wr ++ w1 u) H1 → va_D A (wr ++ w1 u) → va_S A H0 H1 locs1 → W p l e R s m args below meth c H1 locs1 (cells + mc) (slots + ms) Q (F0 m (pc + 3) ls (.ref (ad u) :: rest))) : W p l e R s m args below meth c H locs cells slots Q (F0 m pc ls st0) :=
  hc_rRun (va_runS F (hM H.size) cw ⟨hcPre_blind hE, hc_pre hE2 hK hP hD isC hnC hC⟩ rfl hn hsize hst (lv_room hrest) hdg hf) hP hD hS hA isC isR hC hR hnR hdis kk
/-- newarray, over array classes that are known already -/
theorem hc_newa (hexec : p.tables.exec = Jvm.exec) (hb : c.code = cc) (atype : ArrayType) {ty' : FieldType} (hty : newarray.typeOf atype = ty') (harr : (Cond.arrayClass ty').before args s = true) (hK : va_K D vwCl (hcT D) s) (hP : va_P D vwCl ws H) (hD : va_D A ws) (hS : va_S A H0 H locs) (hA : ∀ q, H0.size ≤ q → A q)
    (t0 : Nat) {cA : ClassId} (ht : (hcT D)[t0]? = some (cA, ty')) (hpr : ∀ C : String, ty' ≠ .object C)
    {n' : Int32} (N' : Nat) {f0 : Nat → Int32} (ha : ∀ cA : ClassId, vp_cell cA (N', .inl f0) = arrV cA N' (fun _ => defaultValue ty')) (hn : ¬ n' < 0) (hN : n'.toNatClampNeg = N') (hbytes : N' * componentBytes ty' ≤ 536870912) (hcells : cells + 1 ≤ R.cells) (hslots : slots + N' ≤ R.slots) (hdg : decode cc pc = .ok (.newarray atype, 2))
    (kk : ∀ (q : Nat) (H1 : Heap), va_P D vwCl (ws ++ [(q, .inl (cA, N', .inl f0))]) H1 → va_D A (ws ++ [(q, .inl (cA, N', .inl f0))]) → va_S A H0 H1 locs →
      W p l e R s m args below meth c H1 locs (cells + 1) (slots + N') Q (F0 m (pc + 2) ls (.ref q :: rest))) : W p l e R s m args below meth c H locs cells slots Q (F0 m pc ls (.int n' :: rest)) := by
  subst hty
  refine va_newa (atype := atype) hexec hb harr rfl hK hP hD hS hA ha hn hN hbytes hcells hslots hdg fun q cB H1 hK1 hP1 hD1 hS1 => ?_
  have h1 := (hK1.2 2 (cB, newarray.typeOf atype) rfl).2
  have h2 := (hK.2 t0 _ ht).2
  have hx : cB = cA := by
    cases hT : newarray.typeOf atype with
    | object C => exact absurd hT (hpr C)
    | _ =>
      rw [hT] at h1 h2
      exact Option.some.inj (h1.symm.trans h2)
  subst hx
  exact kk q H1 hP1 hD1 hS1
end HC
end
section
/-! THE CIPHER AS A PURE VALUE: what the walks say the methods compute, and rows on numbers -/
set_option maxRecDepth 100000
def hcRr (x n : Int32) : Int32 := (x.toUInt32 >>> (n.toUInt32 &&& Int32.toUInt32 31)).toInt32 ||| (x <<< ((-n) &&& 31))
def hcRl (x n : Int32) : Int32 := (x <<< (n &&& 31)) ||| (x.toUInt32 >>> ((-n).toUInt32 &&& Int32.toUInt32 31)).toInt32
def hcF1 (x : Int32) : Int32 := (hcRr x 7 ^^^ hcRr x 18) ^^^ (x.toUInt32 >>> ((3 : Int32).toUInt32 &&& Int32.toUInt32 31)).toInt32
def hcF2 (x : Int32) : Int32 := (hcRr x 17 ^^^ hcRr x 19) ^^^ (x.toUInt32 >>> ((10 : Int32).toUInt32 &&& Int32.toUInt32 31)).toInt32
def hcG1 (x y z : Int32) : Int32 := (hcRr x 10 ^^^ hcRr z 23) + hcRr y 8
def hcG2 (x y z : Int32) : Int32 := (hcRl x 10 ^^^ hcRl z 23) + hcRl y 8
def hcH (f : Nat → Int32) (x : Int32) : Int32 := f (x &&& 255).toNatClampNeg + f (((x >>> ((16 : Int32) &&& 31)) &&& 255) + 256).toNatClampNeg
/-- the table after one step at place j -/
def hcU (g : Int32 → Int32 → Int32 → Int32) (P : Nat → Int32) (j : Nat) : Nat → Int32 := upd P j (P j + g (P ((j + 509) % 512)) (P ((j + 502) % 512)) (P ((j + 1) % 512)))
def hcR (g : Int32 → Int32 → Int32 → Int32) (P Q : Nat → Int32) (j : Nat) : Int32 := hcH Q (hcU g P j ((j + 500) % 512)) ^^^ hcU g P j j
/-- both tables and the counter -/
abbrev hcS : Type := (Nat → Int32) × (Nat → Int32) × Nat
def hcNx (s : hcS) : hcS := if s.2.2 < 512 then (hcU hcG1 s.1 s.2.2, s.2.1, (s.2.2 + 1) % 1024) else (s.1, hcU hcG2 s.2.1 (s.2.2 - 512), (s.2.2 + 1) % 1024)
def hcOw (s : hcS) : Int32 := if s.2.2 < 512 then hcR hcG1 s.1 s.2.1 s.2.2 else hcR hcG2 s.2.1 s.1 (s.2.2 - 512)
theorem hcNx_c (s : hcS) : (hcNx s).2.2 = (s.2.2 + 1) % 1024 := by unfold hcNx; split <;> rfl
theorem hcNx_lt (s : hcS) : (hcNx s).2.2 < 1024 := by rw [hcNx_c]; exact Nat.mod_lt _ (by decide)
def hcW1 (K : Nat → Int32) (o : Nat) (f : Nat → Int32) : Nat → Nat → Int32
  | 0 => f
  | n + 1 => upd (hcW1 K o f n) (n / 4 + o) (hcW1 K o f n (n / 4 + o) ||| ((K n &&& 255) <<< ((8 * (nI n &&& 3)) &&& 31)))
def hcW2 (f : Nat → Int32) : Nat → Nat → Int32
  | 0 => f
  | n + 1 => upd (hcW2 f n) (n + 16) (hcF2 (hcW2 f n (n + 14)) + hcW2 f n (n + 9) + hcF1 (hcW2 f n (n + 1)) + hcW2 f n n + nI (n + 16))
def hcWa (K : Nat → Int32) : Nat → Int32 := va_cpy (hcW1 K 0 (fun _ => 0) 16) (hcW1 K 0 (fun _ => 0) 16) 0 4 4
def hcWb (K V : Nat → Int32) : Nat → Int32 := va_cpy (hcW1 V 8 (hcWa K) 16) (hcW1 V 8 (hcWa K) 16) 8 12 4
def hcWf (K V : Nat → Int32) : Nat → Int32 := hcW2 (hcWb K V) 1264
/-- the first filling, then the second -/
def hcFp (f : Nat → Int32) : Nat → hcS
  | 0 => (fun k => f (256 + k), fun k => f (768 + k), 0)
  | n + 1 => (upd (hcNx (hcFp f n)).1 n (hcOw (hcFp f n)), (hcNx (hcFp f n)).2.1, (hcNx (hcFp f n)).2.2)
def hcFq (s : hcS) : Nat → hcS
  | 0 => s
  | n + 1 => ((hcNx (hcFq s n)).1, upd (hcNx (hcFq s n)).2.1 n (hcOw (hcFq s n)), (hcNx (hcFq s n)).2.2)
def hcFf (K V : Nat → Int32) : hcS := hcFq (hcFp (hcWf K V) 512) 512
def hcI0 (K V : Nat → Int32) : hcS := ((hcFf K V).1, (hcFf K V).2.1, 0)
/-- a run of the cipher's states from its beginning on -/
def hcSeq (K V : Nat → Int32) (σ : Nat → hcS) : Prop := σ 0 = hcI0 K V ∧ ∀ i, σ (i + 1) = hcNx (σ i)
def hcSt (K V : Nat → Int32) : Nat → hcS
  | 0 => hcI0 K V
  | n + 1 => hcNx (hcSt K V n)
theorem hcSeq_ex (K V : Nat → Int32) : ∃ σ, hcSeq K V σ := ⟨hcSt K V, rfl, fun _ => rfl⟩
theorem hcSeq_lt {K V : Nat → Int32} {σ : Nat → hcS} (h : hcSeq K V σ) (i : Nat) : (σ i).2.2 < 1024 := by
  cases i with
  | zero => rw [h.1]; exact Nat.zero_lt_succ _
  | succ i => rw [h.2]; exact hcNx_lt _
theorem hcFp_c (f : Nat → Int32) : ∀ n, n ≤ 512 → (hcFp f n).2.2 = n
  | 0, _ => rfl
  | n + 1, h => by
    show (hcNx (hcFp f n)).2.2 = n + 1
    rw [hcNx_c, hcFp_c f n (by omega)]
    omega
theorem hcFq_lt (s : hcS) (h : s.2.2 < 1024) : ∀ n, (hcFq s n).2.2 < 1024
  | 0 => h
  | n + 1 => hcNx_lt _
def hcSh (z : Int32) : Nat → Int32
  | 0 => z
  | n + 1 => hcSh z n >>> ((8 : Int32) &&& 31)
def hcBy (z : Int32) (i : Nat) : Int32 := (hcSh z i &&& 255).toInt8.toInt32
def hcKs (σ : Nat → hcS) (n : Nat) : Int32 := hcBy (hcOw (σ (n / 4))) (n % 4)
/-- the four bytes in hand are those of the word that is being given out -/
def hcOk (σ : Nat → hcS) (n : Nat) (B : Nat → Int32) : Prop := ¬ n % 4 = 0 → ∀ i, i < 4 → B i = hcBy (hcOw (σ (n / 4))) i
/-- a word written byte by byte -/
def hcWd (f : Nat → Int32) (a : Nat) (x : Int32) : Nat → Int32 := upd (upd (upd (upd f a (x >>> ((24 : Int32) &&& 31)).toInt8.toInt32) (a + 1) (x >>> ((16 : Int32) &&& 31)).toInt8.toInt32) (a + 2) (x >>> ((8 : Int32) &&& 31)).toInt8.toInt32) (a + 3) x.toInt8.toInt32
def hcW4 (f : Nat → Int32) (a : Nat) (x y z u : Int32) : Nat → Int32 := hcWd (hcWd (hcWd (hcWd f a x) (a + 4) y) (a + 8) z) (a + 12) u
theorem hcWd_fit {f : Nat → Int32} (h : sb_Fit f) (a : Nat) (x : Int32) : sb_Fit (hcWd f a x) := sb_fitU (sb_fitU (sb_fitU (sb_fitU h (pk_fb _)) (pk_fb _)) (pk_fb _)) (pk_fb _)
theorem hcW4_fit {f : Nat → Int32} (h : sb_Fit f) (a : Nat) (x y z u : Int32) : sb_Fit (hcW4 f a x y z u) := hcWd_fit (hcWd_fit (hcWd_fit (hcWd_fit h _ _) _ _) _ _) _ _
/-- a script's int without its sign -/
def hcM (x : Int32) : Nat := x.toBitVec.toNat % 2147483648
theorem hcM_and (x : Int32) : x &&& 2147483647 = nI (hcM x) := pk_and x (m := 2147483647) 31 (by decide)
theorem hcM_lt (x : Int32) : hcM x < 2147483648 := Nat.mod_lt _ (by decide)
theorem hcM_nI {n : Nat} (h : n < 2147483648) : hcM (nI n) = n := by
  unfold hcM
  rw [pk_tn (by omega)]
  exact Nat.mod_eq_of_lt h
theorem hc_dim {j y : Nat} (hj : j < 512) (hy : y ≤ 512) : (nI j - nI y) &&& 511 = nI ((j + (512 - y)) % 512) := by
  rw [pk_and (nI j - nI y) (m := 511) 9 (by decide)]
  congr 1
  rw [Int32.toBitVec_sub, BitVec.toNat_sub, pk_tn (by omega), pk_tn (by omega)]
  omega
theorem hc_m512 {c : Nat} (h : c < 1024) : nI c &&& 511 = nI (c % 512) := pk_andN (by omega) (m := 511) 9 (by decide)
theorem hc_m1024 {c : Nat} (h : c < 1024) : (nI c + 1) &&& 1023 = nI ((c + 1) % 1024) := by
  rw [nI_1]
  exact pk_andN (by omega) (m := 1023) 10 (by decide)
theorem hc_and3 {c : Nat} (h : c < 1024) : (nI c + 1) &&& 3 = nI ((c + 1) % 4) := by
  rw [nI_1]
  exact pk_andN (by omega) (m := 3) 2 (by decide)
theorem hc_h1 (x : Int32) : vp_in (x &&& 255) 512 := by
  obtain ⟨j, hj, e⟩ := pk_andE x (m := 255) 8 (by decide)
  rw [e]
  exact vp_in_nI (by omega) (by decide)
theorem hc_h2 (x : Int32) : vp_in ((x &&& 255) + 256) 512 := by
  obtain ⟨j, hj, e⟩ := pk_andE x (m := 255) 8 (by decide)
  rw [e, show (256 : Int32) = nI 256 from rfl, nI_add]
  exact vp_in_nI (by omega) (by decide)
theorem hc_cl {n : Nat} (h : n < 2147483648) : (nI n).toNatClampNeg = n := nI_clamp h
/-- v % (nI d) for a script's int v without its sign -/
theorem hc_rem {a d : Nat} (ha : a < 2147483648) (h0 : 0 < d) (hd : d < 2147483648) : nI a - nI a / nI d * nI d = nI (a % d) := pk_rem ha h0 hd
theorem hc_ne0 {n : Nat} (h0 : 0 < n) (h : n < 2147483648) : ¬ nI n = 0 := nI_ne0 h0 h
theorem hc_upd_s {f : Nat → Int32} {k : Nat} {x : Int32} : upd f k x k = x := pk_us
theorem hc_narb (z : Int32) : vp_nar .byte z.toInt8.toInt32 = z.toInt8.toInt32 := pk_vb z
end
section
/-! arrays at a place that is a number; a stretch copied -/
section HR
variable {p : Program} {l : Launch} {e : Env} {R : Room} {s : State} {m : MethodId} {args : Array Value} {below : List Frame} {meth : Method} {c : Code} {H H0 : Heap} {locs : List Loc} {cells slots : Nat} {Q : State → Prop}
variable {cc : ByteArray} {pc : Nat} {ls : Array Slot} {rest : List Value} {D : va_G} {cl : List vw_C} {A : Nat → Prop} {a : Nat} {tys : List (ClassId × FieldType)} {ws : va_W}
theorem hc_iald {k : Nat} (hexec : p.tables.exec = Jvm.exec) (hb : c.code = cc) (hK : va_K D cl tys s) (hP : va_P D cl ws H) (q0 t0 : Nat) {cA : ClassId} {n : Nat} {f : Nat → Int32} (ha : ws[q0]? = some (a, .inl (cA, n, .inl f))) (ht : tys[t0]? = some (cA, .int)) (hk : k < n) (hn : n < 2147483648) (hdg : decode cc pc = .ok (.iaload, 1))
    (kk : W p l e R s m args below meth c H locs cells slots Q (F0 m (pc + 1) ls (.int (f k) :: rest))) : W p l e R s m args below meth c H locs cells slots Q (F0 m pc ls (.int (nI k) :: .ref a :: rest)) := by
  refine va_iald hexec hb hK hP q0 t0 ha ht (vp_in_nI hk (by omega)) hdg ?_
  rw [nI_clamp (show k < 2 ^ 31 by omega)]
  exact kk
theorem hc_bald {k : Nat} (hexec : p.tables.exec = Jvm.exec) (hb : c.code = cc) (hK : va_K D cl tys s) (hP : va_P D cl ws H) (q0 t0 : Nat) {cA : ClassId} {n : Nat} {f : Nat → Int32} (ha : ws[q0]? = some (a, .inl (cA, n, .inl f))) (ht : tys[t0]? = some (cA, .byte)) (hk : k < n) (hn : n < 2147483648) (hdg : decode cc pc = .ok (.baload, 1))
    (kk : W p l e R s m args below meth c H locs cells slots Q (F0 m (pc + 1) ls (.int (f k) :: rest))) : W p l e R s m args below meth c H locs cells slots Q (F0 m pc ls (.int (nI k) :: .ref a :: rest)) := by
  refine va_bald hexec hb hK hP q0 t0 ha ht (vp_in_nI hk (by omega)) hdg ?_
  rw [nI_clamp (show k < 2 ^ 31 by omega)]
  exact kk
theorem hc_iast {k : Nat} (hexec : p.tables.exec = Jvm.exec) (hb : c.code = cc) (hK : va_K D cl tys s) (hP : va_P D cl ws H) (hD : va_D A ws) (hS : va_S A H0 H locs) (q0 t0 : Nat) {cA : ClassId} {n : Nat} {f : Nat → Int32} (ha : ws[q0]? = some (a, .inl (cA, n, .inl f))) (ht : tys[t0]? = some (cA, .int)) {x : Int32} (hk : k < n) (hn : n < 2147483648) (hdg : decode cc pc = .ok (.iastore, 1))
    (kk : ∀ (H1 : Heap) (locs1 : List Loc), va_P D cl (ws.set q0 (a, .inl (cA, n, .inl (upd f k x)))) H1 → va_D A (ws.set q0 (a, .inl (cA, n, .inl (upd f k x)))) → va_S A H0 H1 locs1 → W p l e R s m args below meth c H1 locs1 cells slots Q (F0 m (pc + 1) ls rest)) : W p l e R s m args below meth c H locs cells slots Q (F0 m pc ls (.int x :: .int (nI k) :: .ref a :: rest)) := by
  refine va_iast hexec hb hK hP hD hS q0 t0 ha ht (vp_in_nI hk (by omega)) hdg ?_
  rw [nI_clamp (show k < 2 ^ 31 by omega)]
  exact kk
theorem hc_bast {k : Nat} (hexec : p.tables.exec = Jvm.exec) (hb : c.code = cc) (hK : va_K D cl tys s) (hP : va_P D cl ws H) (hD : va_D A ws) (hS : va_S A H0 H locs) (q0 t0 : Nat) {cA : ClassId} {n : Nat} {f : Nat → Int32} (ha : ws[q0]? = some (a, .inl (cA, n, .inl f))) (ht : tys[t0]? = some (cA, .byte)) {x : Int32} (hk : k < n) (hn : n < 2147483648) (hx : vp_nar .byte x = x) (hdg : decode cc pc = .ok (.bastore, 1))
    (kk : ∀ (H1 : Heap) (locs1 : List Loc), va_P D cl (ws.set q0 (a, .inl (cA, n, .inl (upd f k x)))) H1 → va_D A (ws.set q0 (a, .inl (cA, n, .inl (upd f k x)))) → va_S A H0 H1 locs1 → W p l e R s m args below meth c H1 locs1 cells slots Q (F0 m (pc + 1) ls rest)) : W p l e R s m args below meth c H locs cells slots Q (F0 m pc ls (.int x :: .int (nI k) :: .ref a :: rest)) := by
  refine va_bast hexec hb hK hP hD hS q0 t0 ha ht (vp_in_nI hk (by omega)) hdg ?_
  rw [nI_clamp (show k < 2 ^ 31 by omega), hx]
  exact kk
theorem hc_copy (sp dp n : Nat) (hexec : p.tables.exec = Jvm.exec) (hb : c.code = cc) (hml : c.maxLocals = ls.size) {own : String} {index : Nat} (hown : s.vm.findClass own = some m.cls) (hlink : (Cond.methodLink own index arraycopyName).before args s = true) (hnat : (Cond.native arraycopyName).before args s = true) (hstat : (Cond.static arraycopyName).before args s = true) (hini : (Cond.initialized "java/lang/System").before args s = true)
    (hK : va_K D cl tys s) (hP : va_P D cl ws H) (hD : va_D A ws) (hS : va_S A H0 H locs) (q0 q1 t0 t1 : Nat) {a0 : Nat} {c0 c1 : ClassId} {n0 n1 : Nat} {f g : Nat → Int32} {ty : FieldType} (ha0 : ws[q0]? = some (a0, .inl (c0, n0, .inl f))) (ha1 : ws[q1]? = some (a, .inl (c1, n1, .inl g))) (ht0 : tys[t0]? = some (c0, ty)) (ht1 : tys[t1]? = some (c1, ty)) (hprim : refKind ty = false)
    (h1 : sp < 2147483648) (h2 : dp < 2147483648) (h3 : n < 2147483648) (h4 : sp + n ≤ n0) (h5 : dp + n ≤ n1) (hfit : ∀ i, i < n → fits ty (.int (f (sp + i))) = true)
    (hframes : 1 ≤ R.frames) (hlocals : (rest.map fun v => v.category).sum + (nativeFrameWords "java/lang/System" "arraycopy" 5 + 11) ≤ R.locals) (hdg : decode cc pc = .ok (.invokestatic index, 3))
    (kk : ∀ (H1 : Heap) (locs1 : List Loc), va_P D cl (ws.set q1 (a, .inl (c1, n1, .inl (va_cpy f g sp dp n)))) H1 → va_D A (ws.set q1 (a, .inl (c1, n1, .inl (va_cpy f g sp dp n)))) → va_S A H0 H1 locs1 → W p l e R s m args below meth c H1 locs1 cells slots Q (F0 m (pc + 3) ls rest)) : W p l e R s m args below meth c H locs cells slots Q (F0 m pc ls (.int (nI n) :: .int (nI dp) :: .ref a :: .int (nI sp) :: .ref a0 :: rest)) := by
  refine va_copyi hexec hb hml hown hlink hnat hstat hini hK hP hD hS q0 q1 t0 t1 ha0 ha1 ht0 ht1 hprim (nI_pos h1) (nI_pos h2) (nI_pos h3) ?_ ?_ ?_ hframes hlocals hdg ?_
  · rw [nI_clamp h1, nI_clamp h3]; exact h4
  · rw [nI_clamp h2, nI_clamp h3]; exact h5
  · intro i hi
    rw [nI_clamp h3] at hi
    rw [nI_clamp h1]
    exact hfit i hi
  · rw [nI_clamp h1, nI_clamp h2, nI_clamp h3]
    exact kk
theorem hc_fitn {x : Int32} (h : fits .byte (.int x) = true) : vp_nar .byte x = x := by
  rw [vp_nar_byte]
  have h1 : (decide ((-128 : Int32) ≤ x) && decide (x ≤ 127)) = true := h
  rw [Bool.and_eq_true, decide_eq_true_eq, decide_eq_true_eq, Int32.le_iff_toInt_le, Int32.le_iff_toInt_le] at h1
  have h2 : (-128 : Int32).toInt = -128 := rfl
  have h3 : (127 : Int32).toInt = 127 := rfl
  rw [h2, h3] at h1
  apply Int32.toInt_inj.mp
  rw [Int8.toInt_toInt32, Int32.toInt_toInt8]
  exact Int.bmod_eq_of_le (by omega) (by omega)
end HR
/-- the start of a method of each kind: A is what it may change -/
theorem hc_inO {l : Launch} {y : MethodName} {cc : ByteArray} {maxL fr lo : Nat} {ty : FieldType} {D : va_G} {E : State → Prop} {av : List Value} {w : va_W} {v : Value} (hy : plainName y.cls = true) (hav : (lg_sl av).length ≤ maxL)
    (body : ∀ (p : Program) (e : Env) (s : State) (m : MethodId) (args : Array Value) (below : List Frame) (meth : Method) (c : Code) (ls : Array Slot) (A : Nat → Prop), p.tables.exec = Jvm.exec → c.code = cc → meth.sig.returnType = some ty → meth.locks = false → c.maxLocals = maxL → s.vm.findClass y.cls = some m.cls → (∀ w ∈ lw_all, w.before args s = true) → meth.name = y.name → va_P D vwCl w s.heap → va_K D vwCl (hcT D) s → va_D A w → E s → (∀ q : Nat, s.heap.size ≤ q → A q) → (∀ q : Nat, A q → (∃ x ∈ w, x.1 = q) ∨ s.heap.size ≤ q) → lv_has ls maxL (lv_args 0 av) →
      W p l e (hcRm fr lo 0 0) s m args below meth c s.heap [] 0 0 (MQ below (hcQo v) args s 0 0 (fun _ => False)) (F0 m 0 ls [])) :
    HcO l y cc maxL ty fr lo D E av w v := fun sz => hc_in hy hav fun p e s m args below meth c ls hsz hx hb hr hlk hml hown hts hnm hP hK hD hE hA hl => body p e s m args below meth c ls (va_A w sz) hx hb hr hlk hml hown hts hnm hP hK hD hE hA (fun q hq => by
      subst hsz
      rcases hq with ⟨k, x, hk⟩ | h
      · exact Or.inl ⟨_, List.mem_of_getElem? hk, rfl⟩
      · exact Or.inr h) hl
theorem hc_inI {l : Launch} {y : MethodName} {cc : ByteArray} {maxL fr lo mc ms : Nat} {ty : FieldType} {D : va_G} {E : State → Prop} {av : List Value} {w : va_W} {S : Type} {post : Int32 → S → Prop} {w1 : S → va_W} (hy : plainName y.cls = true) (hav : (lg_sl av).length ≤ maxL)
    (body : ∀ (p : Program) (e : Env) (s : State) (m : MethodId) (args : Array Value) (below : List Frame) (meth : Method) (c : Code) (ls : Array Slot) (A : Nat → Prop), p.tables.exec = Jvm.exec → c.code = cc → meth.sig.returnType = some ty → meth.locks = false → c.maxLocals = maxL → s.vm.findClass y.cls = some m.cls → (∀ w ∈ lw_all, w.before args s = true) → meth.name = y.name → va_P D vwCl w s.heap → va_K D vwCl (hcT D) s → va_D A w → E s → (∀ q : Nat, s.heap.size ≤ q → A q) → (∀ q : Nat, A q → (∃ x ∈ w, x.1 = q) ∨ s.heap.size ≤ q) → va_S A s.heap s.heap [] → lv_has ls maxL (lv_args 0 av) →
      W p l e (hcRm fr lo mc ms) s m args below meth c s.heap [] 0 0 (MQ below (va_Qi post (hcWA D A w1) A) args s mc ms A) (F0 m 0 ls [])) :
    HcI l y cc maxL ty fr lo mc ms D E av w post w1 := fun sz => hc_in hy hav fun p e s m args below meth c ls hsz hx hb hr hlk hml hown hts hnm hP hK hD hE hA hl => body p e s m args below meth c ls (va_A w sz) hx hb hr hlk hml hown hts hnm hP hK hD hE hA (fun q hq => by
      subst hsz
      rcases hq with ⟨k, x, hk⟩ | h
      · exact Or.inl ⟨_, List.mem_of_getElem? hk, rfl⟩
      · exact Or.inr h) va_S.rf hl
theorem hc_inV {l : Launch} {y : MethodName} {cc : ByteArray} {maxL fr lo mc ms : Nat} {D : va_G} {E : State → Prop} {av : List Value} {w : va_W} {S : Type} {post : S → Prop} {w1 : S → va_W} (hy : plainName y.cls = true) (hav : (lg_sl av).length ≤ maxL)
    (body : ∀ (p : Program) (e : Env) (s : State) (m : MethodId) (args : Array Value) (below : List Frame) (meth : Method) (c : Code) (ls : Array Slot) (A : Nat → Prop), p.tables.exec = Jvm.exec → c.code = cc → meth.sig.returnType = none → meth.locks = false → c.maxLocals = maxL → s.vm.findClass y.cls = some m.cls → (∀ w ∈ lw_all, w.before args s = true) → meth.name = y.name → va_P D vwCl w s.heap → va_K D vwCl (hcT D) s → va_D A w → E s → (∀ q : Nat, s.heap.size ≤ q → A q) → (∀ q : Nat, A q → (∃ x ∈ w, x.1 = q) ∨ s.heap.size ≤ q) → va_S A s.heap s.heap [] → lv_has ls maxL (lv_args 0 av) →
      W p l e (hcRm fr lo mc ms) s m args below meth c s.heap [] 0 0 (MQ below (va_Qv post (hcWA D A w1) A) args s mc ms A) (F0 m 0 ls [])) :
    HcV l y cc maxL fr lo mc ms D E av w post w1 := fun sz => hc_in hy hav fun p e s m args below meth c ls hsz hx hb hr hlk hml hown hts hnm hP hK hD hE hA hl => body p e s m args below meth c ls (va_A w sz) hx hb hr hlk hml hown hts hnm hP hK hD hE hA (fun q hq => by
      subst hsz
      rcases hq with ⟨k, x, hk⟩ | h
      · exact Or.inl ⟨_, List.mem_of_getElem? hk, rfl⟩
      · exact Or.inr h) va_S.rf hl
theorem hc_inR {l : Launch} {y : MethodName} {cc : ByteArray} {maxL fr lo mc ms : Nat} {ty : FieldType} {D : va_G} {E : State → Prop} {av : List Value} {w : va_W} {S : Type} {post : S → Prop} {w1 : S → va_W} {ad : S → Nat} (hy : plainName y.cls = true) (hav : (lg_sl av).length ≤ maxL)
    (body : ∀ (p : Program) (e : Env) (s : State) (m : MethodId) (args : Array Value) (below : List Frame) (meth : Method) (c : Code) (ls : Array Slot) (A : Nat → Prop), p.tables.exec = Jvm.exec → c.code = cc → meth.sig.returnType = some ty → meth.locks = false → c.maxLocals = maxL → s.vm.findClass y.cls = some m.cls → (∀ w ∈ lw_all, w.before args s = true) → meth.name = y.name → va_P D vwCl w s.heap → va_K D vwCl (hcT D) s → va_D A w → E s → (∀ q : Nat, s.heap.size ≤ q → A q) → (∀ q : Nat, A q → (∃ x ∈ w, x.1 = q) ∨ s.heap.size ≤ q) → va_S A s.heap s.heap [] → lv_has ls maxL (lv_args 0 av) →
      W p l e (hcRm fr lo mc ms) s m args below meth c s.heap [] 0 0 (MQ below (va_Qr post (hcWR D A w1 ad) A) args s mc ms A) (F0 m 0 ls [])) :
    HcR l y cc maxL ty fr lo mc ms D E av w post w1 ad := fun sz => hc_in hy hav fun p e s m args below meth c ls hsz hx hb hr hlk hml hown hts hnm hP hK hD hE hA hl => body p e s m args below meth c ls (va_A w sz) hx hb hr hlk hml hown hts hnm hP hK hD hE hA (fun q hq => by
      subst hsz
      rcases hq with ⟨k, x, hk⟩ | h
      · exact Or.inl ⟨_, List.mem_of_getElem? hk, rfl⟩
      · exact Or.inr h) va_S.rf hl
end
section
/-! KeyParameter, ParametersWithIV -/
set_option maxHeartbeats 4000000 in
set_option maxRecDepth 100000 in
/-- KeyParameter(int): an array of 16 bytes comes -/
theorem met_K1 (l : Launch) (D : va_G) (h : Nat) : HcV l yX4_init_3 cX4_init_3 2 1 12 1 16 D hcNo [.ref h, .int 16] [hcOb h 3 [.null]] (fun _ : Nat => True) (fun q => [hcOb h 3 [.ref q], hcBa D q 16 (fun _ => 0)]) := by
  refine hc_inV (by decide) (Nat.le_of_ble_eq_true rfl) ?_
  intro p e s m args below meth c ls A hx hb hr hlk hml hown hts hnm hP hK hD hE hA hAn hS hl
  have hown : s.vm.findClass RX4 = some m.cls := hown
  have hl : lv_has ls 2 [(0, .ref h), (1, .int 16)] := hl
  have hP : va_P D vwCl [hcOb h 3 [.null]] s.heap := hP
  have hD : va_D A [hcOb h 3 [.null]] := hD
  refine lv_aload_n hx hb dX4_init_3_0 rfl (lv_at hl 0 rfl) ?_
  refine W.objInit hx hb hown (hts _ q343) (hts _ q68) (hts _ q69) rfl (by rw [hml]; exact hl.1) rfl dX4_init_3_1 (Nat.le_of_ble_eq_true rfl) (Nat.le_of_ble_eq_true rfl) ?_
  refine W.eq (g2 := F0 m 4 ls []) rfl ?_
  refine lv_aload_n hx hb dX4_init_3_4 rfl (lv_at hl 0 rfl) ?_
  refine lv_iload_n hx hb dX4_init_3_5 rfl (lv_at hl 1 rfl) ?_
  refine hc_newa hx hb .byte rfl (hts _ q112) hK hP hD hS hA 1 rfl (fun C h => by cases h) 16 (f0 := fun _ => 0) (fun _ => rfl) (by decide) (by decide) (by decide) (Nat.le_of_ble_eq_true rfl) (Nat.le_of_ble_eq_true rfl) dX4_init_3_6 (fun q H hP hD hS => ?_)
  have hP : va_P D vwCl [hcOb h 3 [.null], hcBa D q 16 (fun _ => 0)] H := hP
  have hD : va_D A [hcOb h 3 [.null], hcBa D q 16 (fun _ => 0)] := hD
  refine va_put (D := D) (ci := 3) (v := .ref q) (ty := .array .byte) (C := RX4) (T := TX4) (N := 1) hx hb hts in_X4 tyX4 tyX4_ok nmX4 hown hK hP hD hS 0 rfl rfl 0 (by decide) (hts _ q344) (fun _ h9 => h9) rfl (by decide +kernel) rfl rfl (Nat.le_of_ble_eq_true rfl) dX4_init_3_8 (fun H locs hP hD hS => ?_)
  have hP : va_P D vwCl [hcOb h 3 [.ref q], hcBa D q 16 (fun _ => 0)] H := hP
  have hD : va_D A [hcOb h 3 [.ref q], hcBa D q 16 (fun _ => 0)] := hD
  exact hc_vret (q) hx hb hr hlk (trivial) hP hD [0, 1] (by decide) rfl hS (Nat.le_of_ble_eq_true rfl) (Nat.le_of_ble_eq_true rfl) dX4_init_3_11
set_option maxHeartbeats 4000000 in
set_option maxRecDepth 100000 in
/-- KeyParameter(byte[], 0, 16): a copy of the key -/
theorem met_K2 (l : Launch) (D : va_G) (h hk : Nat) (K : Nat → Int32) (hf : sb_Fit K) : HcV l yX4_init_2 cX4_init_2 4 2 33 1 16 D hcNo [.ref h, .ref hk, .int 0, .int (nI 16)] [hcOb h 3 [.null], hcBa D hk 16 K] (fun _ : Nat => True) (fun q => [hcOb h 3 [.ref q], hcBa D q 16 K, hcBa D hk 16 K]) := by
  refine hc_inV (by decide) (Nat.le_of_ble_eq_true rfl) ?_
  intro p e s m args below meth c ls A hx hb hr hlk hml hown hts hnm hP hK hD hE hA hAn hS hl
  have hown : s.vm.findClass RX4 = some m.cls := hown
  have hl : lv_has ls 4 [(0, .ref h), (1, .ref hk), (2, .int 0), (3, .int (nI 16))] := hl
  have hP : va_P D vwCl [hcOb h 3 [.null], hcBa D hk 16 K] s.heap := hP
  have hD : va_D A [hcOb h 3 [.null], hcBa D hk 16 K] := hD
  refine lv_aload_n hx hb dX4_init_2_0 rfl (lv_at hl 0 rfl) ?_
  refine lv_iload_n hx hb dX4_init_2_1 rfl (lv_at hl 3 rfl) ?_
  refine hc_vI (wr := [hcBa D hk 16 K]) (met_K1 l D h) ⟨hx, hb, hml, hown, hts⟩ (cwI 1 hts (lw_meth q342) rfl rfl rfl (hts _ q14) (hts _ q340) (hts _ q341) rfl (by decide +kernel) ⟨Nat.le_of_ble_eq_true rfl, Nat.le_of_ble_eq_true rfl⟩) hcBl_no (hc_no _ _) hK hP hD hS hA [0] [1] (by decide) rfl rfl (by decide) (by decide) rfl hl.1 rfl (Nat.le_of_ble_eq_true rfl) dX4_init_2_2 ⟨Nat.le_of_ble_eq_true rfl, Nat.le_of_ble_eq_true rfl⟩ (fun q H locs hw hP hD hS => ?_)
  have hP : va_P D vwCl [hcBa D hk 16 K, hcOb h 3 [.ref q], hcBa D q 16 (fun _ => 0)] H := hP
  have hD : va_D A [hcBa D hk 16 K, hcOb h 3 [.ref q], hcBa D q 16 (fun _ => 0)] := hD
  have hP : va_P D vwCl [hcOb h 3 [.ref q], hcBa D q 16 (fun _ => 0), hcBa D hk 16 K] H := hc_psub hP [1, 2, 0] rfl
  have hD : va_D A [hcOb h 3 [.ref q], hcBa D q 16 (fun _ => 0), hcBa D hk 16 K] := hD.sub [1, 2, 0] (by decide) rfl
  refine lv_aload_n hx hb dX4_init_2_5 rfl (lv_at hl 1 rfl) ?_
  refine lv_iload_n hx hb dX4_init_2_6 rfl (lv_at hl 2 rfl) ?_
  refine lv_aload_n hx hb dX4_init_2_7 rfl (lv_at hl 0 rfl) ?_
  refine va_get (D := D) (ci := 3) (C := RX4) (T := TX4) (N := 1) hx hb hts in_X4 hown hK hP 0 rfl rfl 0 (by decide) (hts _ q344) (fun _ h9 => h9) rfl dX4_init_2_8 ?_
  refine lv_iconst (v := 0) hx hb dX4_init_2_11 (by decide) ?_
  refine lv_iload_n hx hb dX4_init_2_12 rfl (lv_at hl 3 rfl) ?_
  refine hc_copy 0 0 16 hx hb (by rw [hml]; exact hl.1.symm) hown (hts _ q348) (hts _ q229) (hts _ q228) (hts _ q15) hK hP hD hS 2 1 1 1 rfl rfl rfl rfl rfl (by decide) (by decide) (by decide) (by decide) (by decide) (fun i _ => hf _) (Nat.le_of_ble_eq_true rfl) (Nat.le_of_ble_eq_true rfl) dX4_init_2_13 (fun H locs hP hD hS => ?_)
  have hP : va_P D vwCl [hcOb h 3 [.ref q], hcBa D q 16 (va_cpy K (fun _ => 0) 0 0 16), hcBa D hk 16 K] H := hP
  have hD : va_D A [hcOb h 3 [.ref q], hcBa D q 16 (va_cpy K (fun _ => 0) 0 0 16), hcBa D hk 16 K] := hD
  have hD := hc_reD hD 1 (K) rfl
  have hP := hc_re hP 1 (K) rfl (fun j hj => sb_cpy0 hj)
  have hP : va_P D vwCl [hcOb h 3 [.ref q], hcBa D q 16 K, hcBa D hk 16 K] H := hP
  have hD : va_D A [hcOb h 3 [.ref q], hcBa D q 16 K, hcBa D hk 16 K] := hD
  exact hc_vret (q) hx hb hr hlk (trivial) hP hD [0, 1, 2] (by decide) rfl hS (Nat.le_of_ble_eq_true rfl) (Nat.le_of_ble_eq_true rfl) dX4_init_2_16
set_option maxHeartbeats 4000000 in
set_option maxRecDepth 100000 in
/-- KeyParameter(byte[]) -/
theorem met_K3 (l : Launch) (D : va_G) (h hk : Nat) (K : Nat → Int32) (hf : sb_Fit K) : HcV l yX4_init cX4_init 2 3 56 1 16 D hcNo [.ref h, .ref hk] [hcOb h 3 [.null], hcBa D hk 16 K] (fun _ : Nat => True) (fun q => [hcOb h 3 [.ref q], hcBa D q 16 K, hcBa D hk 16 K]) := by
  refine hc_inV (by decide) (Nat.le_of_ble_eq_true rfl) ?_
  intro p e s m args below meth c ls A hx hb hr hlk hml hown hts hnm hP hK hD hE hA hAn hS hl
  have hown : s.vm.findClass RX4 = some m.cls := hown
  have hl : lv_has ls 2 [(0, .ref h), (1, .ref hk)] := hl
  have hP : va_P D vwCl [hcOb h 3 [.null], hcBa D hk 16 K] s.heap := hP
  have hD : va_D A [hcOb h 3 [.null], hcBa D hk 16 K] := hD
  refine lv_aload_n hx hb dX4_init_0 rfl (lv_at hl 0 rfl) ?_
  refine lv_aload_n hx hb dX4_init_1 rfl (lv_at hl 1 rfl) ?_
  refine lv_iconst (v := 0) hx hb dX4_init_2 (by decide) ?_
  refine lv_aload_n hx hb dX4_init_3 rfl (lv_at hl 1 rfl) ?_
  refine va_alen (v := nI 16) hx hb hK hP 1 1 rfl rfl rfl dX4_init_4 ?_
  refine hc_vI (wr := []) (met_K2 l D h hk K hf) ⟨hx, hb, hml, hown, hts⟩ (cwI 3 hts (lw_meth q339) rfl rfl rfl (hts _ q14) (hts _ q337) (hts _ q338) rfl (by decide +kernel) ⟨Nat.le_of_ble_eq_true rfl, Nat.le_of_ble_eq_true rfl⟩) hcBl_no (hc_no _ _) hK hP hD hS hA [0, 1] [] (by decide) rfl rfl (by decide) (by decide) rfl hl.1 rfl (Nat.le_of_ble_eq_true rfl) dX4_init_5 ⟨Nat.le_of_ble_eq_true rfl, Nat.le_of_ble_eq_true rfl⟩ (fun q H locs hw hP hD hS => ?_)
  have hP : va_P D vwCl [hcOb h 3 [.ref q], hcBa D q 16 K, hcBa D hk 16 K] H := hP
  have hD : va_D A [hcOb h 3 [.ref q], hcBa D q 16 K, hcBa D hk 16 K] := hD
  exact hc_vret (q) hx hb hr hlk (trivial) hP hD [0, 1, 2] (by decide) rfl hS (Nat.le_of_ble_eq_true rfl) (Nat.le_of_ble_eq_true rfl) dX4_init_8
set_option maxHeartbeats 4000000 in
set_option maxRecDepth 100000 in
/-- KeyParameter.getKey() -/
theorem met_K4 (l : Launch) (D : va_G) (h hk : Nat) : HcO l yX4_getKey cX4_getKey 1 (.array .byte) 0 0 D hcNo [.ref h] [hcOb h 3 [.ref hk]] (.ref hk) := by
  refine hc_inO (by decide) (Nat.le_of_ble_eq_true rfl) ?_
  intro p e s m args below meth c ls A hx hb hr hlk hml hown hts hnm hP hK hD hE hA hAn hl
  have hown : s.vm.findClass RX4 = some m.cls := hown
  have hl : lv_has ls 1 [(0, .ref h)] := hl
  have hP : va_P D vwCl [hcOb h 3 [.ref hk]] s.heap := hP
  have hD : va_D A [hcOb h 3 [.ref hk]] := hD
  refine lv_aload_n hx hb dX4_getKey_0 rfl (lv_at hl 0 rfl) ?_
  refine va_get (D := D) (ci := 3) (C := RX4) (T := TX4) (N := 1) hx hb hts in_X4 hown hK hP 0 rfl rfl 0 (by decide) (hts _ q344) (fun _ h9 => h9) rfl dX4_getKey_1 ?_
  exact hc_oretA hx hb hr hlk (Or.inr ⟨_, rfl⟩) dX4_getKey_4
set_option maxHeartbeats 4000000 in
set_option maxRecDepth 100000 in
/-- ParametersWithIV(.., byte[], 0, 16): a copy of the number used once -/
theorem met_V1 (l : Launch) (D : va_G) (h hkp hv : Nat) (V : Nat → Int32) (hf : sb_Fit V) : HcV l yX3_init_2 cX3_init_2 5 1 18 1 16 D hcNo [.ref h, .ref hkp, .ref hv, .int 0, .int (nI 16)] [hcOb h 2 [.null, .null], hcBa D hv 16 V] (fun _ : Nat => True) (fun q => [hcOb h 2 [.ref q, .ref hkp], hcBa D q 16 V, hcBa D hv 16 V]) := by
  refine hc_inV (by decide) (Nat.le_of_ble_eq_true rfl) ?_
  intro p e s m args below meth c ls A hx hb hr hlk hml hown hts hnm hP hK hD hE hA hAn hS hl
  have hown : s.vm.findClass RX3 = some m.cls := hown
  have hl : lv_has ls 5 [(0, .ref h), (1, .ref hkp), (2, .ref hv), (3, .int 0), (4, .int (nI 16))] := hl
  have hP : va_P D vwCl [hcOb h 2 [.null, .null], hcBa D hv 16 V] s.heap := hP
  have hD : va_D A [hcOb h 2 [.null, .null], hcBa D hv 16 V] := hD
  refine lv_aload_n hx hb dX3_init_2_0 rfl (lv_at hl 0 rfl) ?_
  refine W.objInit hx hb hown (hts _ q355) (hts _ q68) (hts _ q69) rfl (by rw [hml]; exact hl.1) rfl dX3_init_2_1 (Nat.le_of_ble_eq_true rfl) (Nat.le_of_ble_eq_true rfl) ?_
  refine W.eq (g2 := F0 m 4 ls []) rfl ?_
  refine lv_aload_n hx hb dX3_init_2_4 rfl (lv_at hl 0 rfl) ?_
  refine lv_iload hx hb dX3_init_2_5 (lv_at hl 4 rfl) ?_
  refine hc_newa hx hb .byte rfl (hts _ q112) hK hP hD hS hA 1 rfl (fun C h => by cases h) 16 (f0 := fun _ => 0) (fun _ => rfl) (by decide) (by decide) (by decide) (Nat.le_of_ble_eq_true rfl) (Nat.le_of_ble_eq_true rfl) dX3_init_2_7 (fun q H hP hD hS => ?_)
  have hP : va_P D vwCl [hcOb h 2 [.null, .null], hcBa D hv 16 V, hcBa D q 16 (fun _ => 0)] H := hP
  have hD : va_D A [hcOb h 2 [.null, .null], hcBa D hv 16 V, hcBa D q 16 (fun _ => 0)] := hD
  refine va_put (D := D) (ci := 2) (v := .ref q) (ty := .array .byte) (C := RX3) (T := TX3) (N := 2) hx hb hts in_X3 tyX3 tyX3_ok nmX3 hown hK hP hD hS 0 rfl rfl 0 (by decide) (hts _ q357) (fun _ h9 => h9) rfl (by decide +kernel) rfl rfl (Nat.le_of_ble_eq_true rfl) dX3_init_2_9 (fun H locs hP hD hS => ?_)
  have hP : va_P D vwCl [hcOb h 2 [.ref q, .null], hcBa D hv 16 V, hcBa D q 16 (fun _ => 0)] H := hP
  have hD : va_D A [hcOb h 2 [.ref q, .null], hcBa D hv 16 V, hcBa D q 16 (fun _ => 0)] := hD
  refine lv_aload_n hx hb dX3_init_2_12 rfl (lv_at hl 0 rfl) ?_
  refine lv_aload_n hx hb dX3_init_2_13 rfl (lv_at hl 1 rfl) ?_
  refine va_put (D := D) (ci := 2) (v := .ref hkp) (ty := .object "CipherParameters") (C := RX3) (T := TX3) (N := 2) hx hb hts in_X3 tyX3 tyX3_ok nmX3 hown hK hP hD hS 0 rfl rfl 1 (by decide) (hts _ q358) (fun _ h9 => h9) rfl (by decide +kernel) rfl rfl (Nat.le_of_ble_eq_true rfl) dX3_init_2_14 (fun H locs hP hD hS => ?_)
  have hP : va_P D vwCl [hcOb h 2 [.ref q, .ref hkp], hcBa D hv 16 V, hcBa D q 16 (fun _ => 0)] H := hP
  have hD : va_D A [hcOb h 2 [.ref q, .ref hkp], hcBa D hv 16 V, hcBa D q 16 (fun _ => 0)] := hD
  refine lv_aload_n hx hb dX3_init_2_17 rfl (lv_at hl 2 rfl) ?_
  refine lv_iload_n hx hb dX3_init_2_18 rfl (lv_at hl 3 rfl) ?_
  refine lv_aload_n hx hb dX3_init_2_19 rfl (lv_at hl 0 rfl) ?_
  refine va_get (D := D) (ci := 2) (C := RX3) (T := TX3) (N := 2) hx hb hts in_X3 hown hK hP 0 rfl rfl 0 (by decide) (hts _ q357) (fun _ h9 => h9) rfl dX3_init_2_20 ?_
  refine lv_iconst (v := 0) hx hb dX3_init_2_23 (by decide) ?_
  refine lv_iload hx hb dX3_init_2_24 (lv_at hl 4 rfl) ?_
  refine hc_copy 0 0 16 hx hb (by rw [hml]; exact hl.1.symm) hown (hts _ q356) (hts _ q229) (hts _ q228) (hts _ q15) hK hP hD hS 1 2 1 1 rfl rfl rfl rfl rfl (by decide) (by decide) (by decide) (by decide) (by decide) (fun i _ => hf _) (Nat.le_of_ble_eq_true rfl) (Nat.le_of_ble_eq_true rfl) dX3_init_2_26 (fun H locs hP hD hS => ?_)
  have hP : va_P D vwCl [hcOb h 2 [.ref q, .ref hkp], hcBa D hv 16 V, hcBa D q 16 (va_cpy V (fun _ => 0) 0 0 16)] H := hP
  have hD : va_D A [hcOb h 2 [.ref q, .ref hkp], hcBa D hv 16 V, hcBa D q 16 (va_cpy V (fun _ => 0) 0 0 16)] := hD
  have hD := hc_reD hD 2 (V) rfl
  have hP := hc_re hP 2 (V) rfl (fun j hj => sb_cpy0 hj)
  have hP : va_P D vwCl [hcOb h 2 [.ref q, .ref hkp], hcBa D hv 16 V, hcBa D q 16 V] H := hP
  have hD : va_D A [hcOb h 2 [.ref q, .ref hkp], hcBa D hv 16 V, hcBa D q 16 V] := hD
  exact hc_vret (q) hx hb hr hlk (trivial) hP hD [0, 2, 1] (by decide) rfl hS (Nat.le_of_ble_eq_true rfl) (Nat.le_of_ble_eq_true rfl) dX3_init_2_29
set_option maxHeartbeats 4000000 in
set_option maxRecDepth 100000 in
/-- ParametersWithIV(.., byte[]) -/
theorem met_V2 (l : Launch) (D : va_G) (h hkp hv : Nat) (V : Nat → Int32) (hf : sb_Fit V) : HcV l yX3_init cX3_init 3 2 42 1 16 D hcNo [.ref h, .ref hkp, .ref hv] [hcOb h 2 [.null, .null], hcBa D hv 16 V] (fun _ : Nat => True) (fun q => [hcOb h 2 [.ref q, .ref hkp], hcBa D q 16 V, hcBa D hv 16 V]) := by
  refine hc_inV (by decide) (Nat.le_of_ble_eq_true rfl) ?_
  intro p e s m args below meth c ls A hx hb hr hlk hml hown hts hnm hP hK hD hE hA hAn hS hl
  have hown : s.vm.findClass RX3 = some m.cls := hown
  have hl : lv_has ls 3 [(0, .ref h), (1, .ref hkp), (2, .ref hv)] := hl
  have hP : va_P D vwCl [hcOb h 2 [.null, .null], hcBa D hv 16 V] s.heap := hP
  have hD : va_D A [hcOb h 2 [.null, .null], hcBa D hv 16 V] := hD
  refine lv_aload_n hx hb dX3_init_0 rfl (lv_at hl 0 rfl) ?_
  refine lv_aload_n hx hb dX3_init_1 rfl (lv_at hl 1 rfl) ?_
  refine lv_aload_n hx hb dX3_init_2 rfl (lv_at hl 2 rfl) ?_
  refine lv_iconst (v := 0) hx hb dX3_init_3 (by decide) ?_
  refine lv_aload_n hx hb dX3_init_4 rfl (lv_at hl 2 rfl) ?_
  refine va_alen (v := nI 16) hx hb hK hP 1 1 rfl rfl rfl dX3_init_5 ?_
  refine hc_vI (wr := []) (met_V1 l D h hkp hv V hf) ⟨hx, hb, hml, hown, hts⟩ (cwI 4 hts (lw_meth q354) rfl rfl rfl (hts _ q13) (hts _ q352) (hts _ q353) rfl (by decide +kernel) ⟨Nat.le_of_ble_eq_true rfl, Nat.le_of_ble_eq_true rfl⟩) hcBl_no (hc_no _ _) hK hP hD hS hA [0, 1] [] (by decide) rfl rfl (by decide) (by decide) rfl hl.1 rfl (Nat.le_of_ble_eq_true rfl) dX3_init_6 ⟨Nat.le_of_ble_eq_true rfl, Nat.le_of_ble_eq_true rfl⟩ (fun q H locs hw hP hD hS => ?_)
  have hP : va_P D vwCl [hcOb h 2 [.ref q, .ref hkp], hcBa D q 16 V, hcBa D hv 16 V] H := hP
  have hD : va_D A [hcOb h 2 [.ref q, .ref hkp], hcBa D q 16 V, hcBa D hv 16 V] := hD
  exact hc_vret (q) hx hb hr hlk (trivial) hP hD [0, 1, 2] (by decide) rfl hS (Nat.le_of_ble_eq_true rfl) (Nat.le_of_ble_eq_true rfl) dX3_init_9
set_option maxHeartbeats 4000000 in
set_option maxRecDepth 100000 in
/-- ParametersWithIV.getIV() -/
theorem met_V3 (l : Launch) (D : va_G) (h hkp hv : Nat) : HcO l yX3_getIV cX3_getIV 1 (.array .byte) 0 0 D hcNo [.ref h] [hcOb h 2 [.ref hv, .ref hkp]] (.ref hv) := by
  refine hc_inO (by decide) (Nat.le_of_ble_eq_true rfl) ?_
  intro p e s m args below meth c ls A hx hb hr hlk hml hown hts hnm hP hK hD hE hA hAn hl
  have hown : s.vm.findClass RX3 = some m.cls := hown
  have hl : lv_has ls 1 [(0, .ref h)] := hl
  have hP : va_P D vwCl [hcOb h 2 [.ref hv, .ref hkp]] s.heap := hP
  have hD : va_D A [hcOb h 2 [.ref hv, .ref hkp]] := hD
  refine lv_aload_n hx hb dX3_getIV_0 rfl (lv_at hl 0 rfl) ?_
  refine va_get (D := D) (ci := 2) (C := RX3) (T := TX3) (N := 2) hx hb hts in_X3 hown hK hP 0 rfl rfl 0 (by decide) (hts _ q357) (fun _ h9 => h9) rfl dX3_getIV_1 ?_
  exact hc_oretA hx hb hr hlk (Or.inr ⟨_, rfl⟩) dX3_getIV_4
set_option maxHeartbeats 4000000 in
set_option maxRecDepth 100000 in
/-- ParametersWithIV.getParameters() -/
theorem met_V4 (l : Launch) (D : va_G) (h hkp hv : Nat) : HcO l yX3_getParameters cX3_getParameters 1 (.object "CipherParameters") 0 0 D hcNo [.ref h] [hcOb h 2 [.ref hv, .ref hkp]] (.ref hkp) := by
  refine hc_inO (by decide) (Nat.le_of_ble_eq_true rfl) ?_
  intro p e s m args below meth c ls A hx hb hr hlk hml hown hts hnm hP hK hD hE hA hAn hl
  have hown : s.vm.findClass RX3 = some m.cls := hown
  have hl : lv_has ls 1 [(0, .ref h)] := hl
  have hP : va_P D vwCl [hcOb h 2 [.ref hv, .ref hkp]] s.heap := hP
  have hD : va_D A [hcOb h 2 [.ref hv, .ref hkp]] := hD
  refine lv_aload_n hx hb dX3_getParameters_0 rfl (lv_at hl 0 rfl) ?_
  refine va_get (D := D) (ci := 2) (C := RX3) (T := TX3) (N := 2) hx hb hts in_X3 hown hK hP 0 rfl rfl 1 (by decide) (hts _ q358) (fun _ h9 => h9) rfl dX3_getParameters_1 ?_
  exact hc_oretA hx hb hr hlk (Or.inl ⟨_, rfl⟩) dX3_getParameters_4
end
section
/-! HC128Engine: the small ones, and step() -/
set_option maxHeartbeats 4000000 in
set_option maxRecDepth 100000 in
/-- rotateRight -/
theorem met_rotR (l : Launch) (D : va_G) (x n : Int32) : HcO l yX2_rotateRight cX2_rotateRight 2 (.int) 0 0 D hcNo [.int x, .int n] [] (.int (hcRr x n)) := by
  refine hc_inO (by decide) (Nat.le_of_ble_eq_true rfl) ?_
  intro p e s m args below meth c ls A hx hb hr hlk hml hown hts hnm hP hK hD hE hA hAn hl
  have hown : s.vm.findClass RX2 = some m.cls := hown
  have hl : lv_has ls 2 [(0, .int x), (1, .int n)] := hl
  refine lv_iload_n hx hb dX2_rotateRight_0 rfl (lv_at hl 0 rfl) ?_
  refine lv_iload_n hx hb dX2_rotateRight_1 rfl (lv_at hl 1 rfl) ?_
  refine lv_iushr hx hb dX2_rotateRight_2 rfl ?_
  refine lv_iload_n hx hb dX2_rotateRight_3 rfl (lv_at hl 0 rfl) ?_
  refine lv_iload_n hx hb dX2_rotateRight_4 rfl (lv_at hl 1 rfl) ?_
  refine lv_ineg hx hb dX2_rotateRight_5 ?_
  refine lv_ishl hx hb dX2_rotateRight_6 ?_
  refine lv_ior hx hb dX2_rotateRight_7 ?_
  refine hc_top (y := hcRr x n) (rfl) ?_
  exact hc_oret hx hb hr hlk rfl dX2_rotateRight_8
set_option maxHeartbeats 4000000 in
set_option maxRecDepth 100000 in
/-- rotateLeft -/
theorem met_rotL (l : Launch) (D : va_G) (x n : Int32) : HcO l yX2_rotateLeft cX2_rotateLeft 2 (.int) 0 0 D hcNo [.int x, .int n] [] (.int (hcRl x n)) := by
  refine hc_inO (by decide) (Nat.le_of_ble_eq_true rfl) ?_
  intro p e s m args below meth c ls A hx hb hr hlk hml hown hts hnm hP hK hD hE hA hAn hl
  have hown : s.vm.findClass RX2 = some m.cls := hown
  have hl : lv_has ls 2 [(0, .int x), (1, .int n)] := hl
  refine lv_iload_n hx hb dX2_rotateLeft_0 rfl (lv_at hl 0 rfl) ?_
  refine lv_iload_n hx hb dX2_rotateLeft_1 rfl (lv_at hl 1 rfl) ?_
  refine lv_ishl hx hb dX2_rotateLeft_2 ?_
  refine lv_iload_n hx hb dX2_rotateLeft_3 rfl (lv_at hl 0 rfl) ?_
  refine lv_iload_n hx hb dX2_rotateLeft_4 rfl (lv_at hl 1 rfl) ?_
  refine lv_ineg hx hb dX2_rotateLeft_5 ?_
  refine lv_iushr hx hb dX2_rotateLeft_6 rfl ?_
  refine lv_ior hx hb dX2_rotateLeft_7 ?_
  refine hc_top (y := hcRl x n) (rfl) ?_
  exact hc_oret hx hb hr hlk rfl dX2_rotateLeft_8
set_option maxHeartbeats 4000000 in
set_option maxRecDepth 100000 in
/-- f1 -/
theorem met_f1 (l : Launch) (D : va_G) (x : Int32) : HcO l yX2_f1 cX2_f1 1 (.int) 1 21 D hcNo [.int x] [] (.int (hcF1 x)) := by
  refine hc_inO (by decide) (Nat.le_of_ble_eq_true rfl) ?_
  intro p e s m args below meth c ls A hx hb hr hlk hml hown hts hnm hP hK hD hE hA hAn hl
  have hown : s.vm.findClass RX2 = some m.cls := hown
  have hl : lv_has ls 1 [(0, .int x)] := hl
  refine lv_iload_n hx hb dX2_f1_0 rfl (lv_at hl 0 rfl) ?_
  refine lv_bipush (v := 7) hx hb dX2_f1_1 (by decide) ?_
  refine hc_oS (met_rotR l D x 7) ⟨hx, hb, hml, hown, hts⟩ (va_cwS 2 hts (lw_S q169 q170 q12 q171) rfl rfl rfl (by decide +kernel) ⟨Nat.le_of_ble_eq_true rfl, Nat.le_of_ble_eq_true rfl⟩) hcBl_no (hc_no _ _) hK hP hD [] (by decide) rfl rfl hl.1 rfl (Nat.le_of_ble_eq_true rfl) dX2_f1_3 ⟨Nat.le_of_ble_eq_true rfl, Nat.le_of_ble_eq_true rfl⟩ ?_
  refine lv_iload_n hx hb dX2_f1_6 rfl (lv_at hl 0 rfl) ?_
  refine lv_bipush (v := 18) hx hb dX2_f1_7 (by decide) ?_
  refine hc_oS (met_rotR l D x 18) ⟨hx, hb, hml, hown, hts⟩ (va_cwS 2 hts (lw_S q169 q170 q12 q171) rfl rfl rfl (by decide +kernel) ⟨Nat.le_of_ble_eq_true rfl, Nat.le_of_ble_eq_true rfl⟩) hcBl_no (hc_no _ _) hK hP hD [] (by decide) rfl rfl hl.1 rfl (Nat.le_of_ble_eq_true rfl) dX2_f1_9 ⟨Nat.le_of_ble_eq_true rfl, Nat.le_of_ble_eq_true rfl⟩ ?_
  refine lv_ixor hx hb dX2_f1_12 ?_
  refine lv_iload_n hx hb dX2_f1_13 rfl (lv_at hl 0 rfl) ?_
  refine lv_iconst (v := 3) hx hb dX2_f1_14 (by decide) ?_
  refine lv_iushr hx hb dX2_f1_15 rfl ?_
  refine lv_ixor hx hb dX2_f1_16 ?_
  refine hc_top (y := hcF1 x) (rfl) ?_
  exact hc_oret hx hb hr hlk rfl dX2_f1_17
set_option maxHeartbeats 4000000 in
set_option maxRecDepth 100000 in
/-- f2 -/
theorem met_f2 (l : Launch) (D : va_G) (x : Int32) : HcO l yX2_f2 cX2_f2 1 (.int) 1 21 D hcNo [.int x] [] (.int (hcF2 x)) := by
  refine hc_inO (by decide) (Nat.le_of_ble_eq_true rfl) ?_
  intro p e s m args below meth c ls A hx hb hr hlk hml hown hts hnm hP hK hD hE hA hAn hl
  have hown : s.vm.findClass RX2 = some m.cls := hown
  have hl : lv_has ls 1 [(0, .int x)] := hl
  refine lv_iload_n hx hb dX2_f2_0 rfl (lv_at hl 0 rfl) ?_
  refine lv_bipush (v := 17) hx hb dX2_f2_1 (by decide) ?_
  refine hc_oS (met_rotR l D x 17) ⟨hx, hb, hml, hown, hts⟩ (va_cwS 2 hts (lw_S q169 q170 q12 q171) rfl rfl rfl (by decide +kernel) ⟨Nat.le_of_ble_eq_true rfl, Nat.le_of_ble_eq_true rfl⟩) hcBl_no (hc_no _ _) hK hP hD [] (by decide) rfl rfl hl.1 rfl (Nat.le_of_ble_eq_true rfl) dX2_f2_3 ⟨Nat.le_of_ble_eq_true rfl, Nat.le_of_ble_eq_true rfl⟩ ?_
  refine lv_iload_n hx hb dX2_f2_6 rfl (lv_at hl 0 rfl) ?_
  refine lv_bipush (v := 19) hx hb dX2_f2_7 (by decide) ?_
  refine hc_oS (met_rotR l D x 19) ⟨hx, hb, hml, hown, hts⟩ (va_cwS 2 hts (lw_S q169 q170 q12 q171) rfl rfl rfl (by decide +kernel) ⟨Nat.le_of_ble_eq_true rfl, Nat.le_of_ble_eq_true rfl⟩) hcBl_no (hc_no _ _) hK hP hD [] (by decide) rfl rfl hl.1 rfl (Nat.le_of_ble_eq_true rfl) dX2_f2_9 ⟨Nat.le_of_ble_eq_true rfl, Nat.le_of_ble_eq_true rfl⟩ ?_
  refine lv_ixor hx hb dX2_f2_12 ?_
  refine lv_iload_n hx hb dX2_f2_13 rfl (lv_at hl 0 rfl) ?_
  refine lv_bipush (v := 10) hx hb dX2_f2_14 (by decide) ?_
  refine lv_iushr hx hb dX2_f2_16 rfl ?_
  refine lv_ixor hx hb dX2_f2_17 ?_
  refine hc_top (y := hcF2 x) (rfl) ?_
  exact hc_oret hx hb hr hlk rfl dX2_f2_18
set_option maxHeartbeats 4000000 in
set_option maxRecDepth 100000 in
/-- g1 -/
theorem met_g1 (l : Launch) (D : va_G) (h : Nat) (x y z : Int32) : HcO l yX2_g1 cX2_g1 4 (.int) 1 21 D hcNo [.ref h, .int x, .int y, .int z] [] (.int (hcG1 x y z)) := by
  refine hc_inO (by decide) (Nat.le_of_ble_eq_true rfl) ?_
  intro p e s m args below meth c ls A hx hb hr hlk hml hown hts hnm hP hK hD hE hA hAn hl
  have hown : s.vm.findClass RX2 = some m.cls := hown
  have hl : lv_has ls 4 [(0, .ref h), (1, .int x), (2, .int y), (3, .int z)] := hl
  refine lv_iload_n hx hb dX2_g1_0 rfl (lv_at hl 1 rfl) ?_
  refine lv_bipush (v := 10) hx hb dX2_g1_1 (by decide) ?_
  refine hc_oS (met_rotR l D x 10) ⟨hx, hb, hml, hown, hts⟩ (va_cwS 2 hts (lw_S q169 q170 q12 q171) rfl rfl rfl (by decide +kernel) ⟨Nat.le_of_ble_eq_true rfl, Nat.le_of_ble_eq_true rfl⟩) hcBl_no (hc_no _ _) hK hP hD [] (by decide) rfl rfl hl.1 rfl (Nat.le_of_ble_eq_true rfl) dX2_g1_3 ⟨Nat.le_of_ble_eq_true rfl, Nat.le_of_ble_eq_true rfl⟩ ?_
  refine lv_iload_n hx hb dX2_g1_6 rfl (lv_at hl 3 rfl) ?_
  refine lv_bipush (v := 23) hx hb dX2_g1_7 (by decide) ?_
  refine hc_oS (met_rotR l D z 23) ⟨hx, hb, hml, hown, hts⟩ (va_cwS 2 hts (lw_S q169 q170 q12 q171) rfl rfl rfl (by decide +kernel) ⟨Nat.le_of_ble_eq_true rfl, Nat.le_of_ble_eq_true rfl⟩) hcBl_no (hc_no _ _) hK hP hD [] (by decide) rfl rfl hl.1 rfl (Nat.le_of_ble_eq_true rfl) dX2_g1_9 ⟨Nat.le_of_ble_eq_true rfl, Nat.le_of_ble_eq_true rfl⟩ ?_
  refine lv_ixor hx hb dX2_g1_12 ?_
  refine lv_iload_n hx hb dX2_g1_13 rfl (lv_at hl 2 rfl) ?_
  refine lv_bipush (v := 8) hx hb dX2_g1_14 (by decide) ?_
  refine hc_oS (met_rotR l D y 8) ⟨hx, hb, hml, hown, hts⟩ (va_cwS 2 hts (lw_S q169 q170 q12 q171) rfl rfl rfl (by decide +kernel) ⟨Nat.le_of_ble_eq_true rfl, Nat.le_of_ble_eq_true rfl⟩) hcBl_no (hc_no _ _) hK hP hD [] (by decide) rfl rfl hl.1 rfl (Nat.le_of_ble_eq_true rfl) dX2_g1_16 ⟨Nat.le_of_ble_eq_true rfl, Nat.le_of_ble_eq_true rfl⟩ ?_
  refine lv_iadd hx hb dX2_g1_19 ?_
  refine hc_top (y := hcG1 x y z) (rfl) ?_
  exact hc_oret hx hb hr hlk rfl dX2_g1_20
set_option maxHeartbeats 4000000 in
set_option maxRecDepth 100000 in
/-- g2 -/
theorem met_g2 (l : Launch) (D : va_G) (h : Nat) (x y z : Int32) : HcO l yX2_g2 cX2_g2 4 (.int) 1 21 D hcNo [.ref h, .int x, .int y, .int z] [] (.int (hcG2 x y z)) := by
  refine hc_inO (by decide) (Nat.le_of_ble_eq_true rfl) ?_
  intro p e s m args below meth c ls A hx hb hr hlk hml hown hts hnm hP hK hD hE hA hAn hl
  have hown : s.vm.findClass RX2 = some m.cls := hown
  have hl : lv_has ls 4 [(0, .ref h), (1, .int x), (2, .int y), (3, .int z)] := hl
  refine lv_iload_n hx hb dX2_g2_0 rfl (lv_at hl 1 rfl) ?_
  refine lv_bipush (v := 10) hx hb dX2_g2_1 (by decide) ?_
  refine hc_oS (met_rotL l D x 10) ⟨hx, hb, hml, hown, hts⟩ (va_cwS 2 hts (lw_S q180 q181 q12 q182) rfl rfl rfl (by decide +kernel) ⟨Nat.le_of_ble_eq_true rfl, Nat.le_of_ble_eq_true rfl⟩) hcBl_no (hc_no _ _) hK hP hD [] (by decide) rfl rfl hl.1 rfl (Nat.le_of_ble_eq_true rfl) dX2_g2_3 ⟨Nat.le_of_ble_eq_true rfl, Nat.le_of_ble_eq_true rfl⟩ ?_
  refine lv_iload_n hx hb dX2_g2_6 rfl (lv_at hl 3 rfl) ?_
  refine lv_bipush (v := 23) hx hb dX2_g2_7 (by decide) ?_
  refine hc_oS (met_rotL l D z 23) ⟨hx, hb, hml, hown, hts⟩ (va_cwS 2 hts (lw_S q180 q181 q12 q182) rfl rfl rfl (by decide +kernel) ⟨Nat.le_of_ble_eq_true rfl, Nat.le_of_ble_eq_true rfl⟩) hcBl_no (hc_no _ _) hK hP hD [] (by decide) rfl rfl hl.1 rfl (Nat.le_of_ble_eq_true rfl) dX2_g2_9 ⟨Nat.le_of_ble_eq_true rfl, Nat.le_of_ble_eq_true rfl⟩ ?_
  refine lv_ixor hx hb dX2_g2_12 ?_
  refine lv_iload_n hx hb dX2_g2_13 rfl (lv_at hl 2 rfl) ?_
  refine lv_bipush (v := 8) hx hb dX2_g2_14 (by decide) ?_
  refine hc_oS (met_rotL l D y 8) ⟨hx, hb, hml, hown, hts⟩ (va_cwS 2 hts (lw_S q180 q181 q12 q182) rfl rfl rfl (by decide +kernel) ⟨Nat.le_of_ble_eq_true rfl, Nat.le_of_ble_eq_true rfl⟩) hcBl_no (hc_no _ _) hK hP hD [] (by decide) rfl rfl hl.1 rfl (Nat.le_of_ble_eq_true rfl) dX2_g2_16 ⟨Nat.le_of_ble_eq_true rfl, Nat.le_of_ble_eq_true rfl⟩ ?_
  refine lv_iadd hx hb dX2_g2_19 ?_
  refine hc_top (y := hcG2 x y z) (rfl) ?_
  exact hc_oret hx hb hr hlk rfl dX2_g2_20
set_option maxHeartbeats 4000000 in
set_option maxRecDepth 100000 in
/-- mod1024 -/
theorem met_mod1024 (l : Launch) (D : va_G) (x : Int32) : HcO l yX2_mod1024 cX2_mod1024 1 (.int) 0 0 D hcNo [.int x] [] (.int (x &&& 1023)) := by
  refine hc_inO (by decide) (Nat.le_of_ble_eq_true rfl) ?_
  intro p e s m args below meth c ls A hx hb hr hlk hml hown hts hnm hP hK hD hE hA hAn hl
  have hown : s.vm.findClass RX2 = some m.cls := hown
  have hl : lv_has ls 1 [(0, .int x)] := hl
  refine lv_iload_n hx hb dX2_mod1024_0 rfl (lv_at hl 0 rfl) ?_
  refine lv_sipush (v := 1023) hx hb dX2_mod1024_1 (by decide) ?_
  refine lv_iand hx hb dX2_mod1024_4 ?_
  exact hc_oret hx hb hr hlk rfl dX2_mod1024_5
set_option maxHeartbeats 4000000 in
set_option maxRecDepth 100000 in
/-- mod512 -/
theorem met_mod512 (l : Launch) (D : va_G) (x : Int32) : HcO l yX2_mod512 cX2_mod512 1 (.int) 0 0 D hcNo [.int x] [] (.int (x &&& 511)) := by
  refine hc_inO (by decide) (Nat.le_of_ble_eq_true rfl) ?_
  intro p e s m args below meth c ls A hx hb hr hlk hml hown hts hnm hP hK hD hE hA hAn hl
  have hown : s.vm.findClass RX2 = some m.cls := hown
  have hl : lv_has ls 1 [(0, .int x)] := hl
  refine lv_iload_n hx hb dX2_mod512_0 rfl (lv_at hl 0 rfl) ?_
  refine lv_sipush (v := 511) hx hb dX2_mod512_1 (by decide) ?_
  refine lv_iand hx hb dX2_mod512_4 ?_
  exact hc_oret hx hb hr hlk rfl dX2_mod512_5
set_option maxHeartbeats 4000000 in
set_option maxRecDepth 100000 in
/-- dim -/
theorem met_dim (l : Launch) (D : va_G) (x y : Int32) : HcO l yX2_dim cX2_dim 2 (.int) 1 20 D hcNo [.int x, .int y] [] (.int ((x - y) &&& 511)) := by
  refine hc_inO (by decide) (Nat.le_of_ble_eq_true rfl) ?_
  intro p e s m args below meth c ls A hx hb hr hlk hml hown hts hnm hP hK hD hE hA hAn hl
  have hown : s.vm.findClass RX2 = some m.cls := hown
  have hl : lv_has ls 2 [(0, .int x), (1, .int y)] := hl
  refine lv_iload_n hx hb dX2_dim_0 rfl (lv_at hl 0 rfl) ?_
  refine lv_iload_n hx hb dX2_dim_1 rfl (lv_at hl 1 rfl) ?_
  refine lv_isub hx hb dX2_dim_2 ?_
  refine hc_oS (met_mod512 l D (x - y)) ⟨hx, hb, hml, hown, hts⟩ (va_cwS 1 hts (lw_S q159 q160 q12 q161) rfl rfl rfl (by decide +kernel) ⟨Nat.le_of_ble_eq_true rfl, Nat.le_of_ble_eq_true rfl⟩) hcBl_no (hc_no _ _) hK hP hD [] (by decide) rfl rfl hl.1 rfl (Nat.le_of_ble_eq_true rfl) dX2_dim_3 ⟨Nat.le_of_ble_eq_true rfl, Nat.le_of_ble_eq_true rfl⟩ ?_
  exact hc_oret hx hb hr hlk rfl dX2_dim_6
set_option maxHeartbeats 4000000 in
set_option maxRecDepth 100000 in
/-- h1 of a word -/
theorem met_h1 (l : Launch) (D : va_G) (h ht : Nat) (pv cv kv vv iv bv xv : Value) (T : Nat → Int32) (x : Int32) : HcO l yX2_h1 cX2_h1 2 (.int) 0 0 D hcNo [.ref h, .int x] [hcOb h 1 [pv, .ref ht, cv, kv, vv, iv, bv, xv], hcIa D ht 512 T] (.int (hcH T x)) := by
  refine hc_inO (by decide) (Nat.le_of_ble_eq_true rfl) ?_
  intro p e s m args below meth c ls A hx hb hr hlk hml hown hts hnm hP hK hD hE hA hAn hl
  have hown : s.vm.findClass RX2 = some m.cls := hown
  have hl : lv_has ls 2 [(0, .ref h), (1, .int x)] := hl
  have hP : va_P D vwCl [hcOb h 1 [pv, .ref ht, cv, kv, vv, iv, bv, xv], hcIa D ht 512 T] s.heap := hP
  have hD : va_D A [hcOb h 1 [pv, .ref ht, cv, kv, vv, iv, bv, xv], hcIa D ht 512 T] := hD
  refine lv_aload_n hx hb dX2_h1_0 rfl (lv_at hl 0 rfl) ?_
  refine va_get (D := D) (ci := 1) (C := RX2) (T := TX2) (N := 8) hx hb hts in_X2 hown hK hP 0 rfl rfl 1 (by decide) (hts _ q258) (fun _ h9 => h9) rfl dX2_h1_1 ?_
  refine lv_iload_n hx hb dX2_h1_4 rfl (lv_at hl 1 rfl) ?_
  refine lv_sipush (v := 255) hx hb dX2_h1_5 (by decide) ?_
  refine lv_iand hx hb dX2_h1_8 ?_
  refine va_iald hx hb hK hP 1 0 rfl rfl (hc_h1 _) dX2_h1_9 ?_
  refine lv_aload_n hx hb dX2_h1_10 rfl (lv_at hl 0 rfl) ?_
  refine va_get (D := D) (ci := 1) (C := RX2) (T := TX2) (N := 8) hx hb hts in_X2 hown hK hP 0 rfl rfl 1 (by decide) (hts _ q258) (fun _ h9 => h9) rfl dX2_h1_11 ?_
  refine lv_iload_n hx hb dX2_h1_14 rfl (lv_at hl 1 rfl) ?_
  refine lv_bipush (v := 16) hx hb dX2_h1_15 (by decide) ?_
  refine lv_ishr hx hb dX2_h1_17 ?_
  refine lv_sipush (v := 255) hx hb dX2_h1_18 (by decide) ?_
  refine lv_iand hx hb dX2_h1_21 ?_
  refine lv_sipush (v := 256) hx hb dX2_h1_22 (by decide) ?_
  refine lv_iadd hx hb dX2_h1_25 ?_
  refine va_iald hx hb hK hP 1 0 rfl rfl (hc_h2 _) dX2_h1_26 ?_
  refine lv_iadd hx hb dX2_h1_27 ?_
  refine hc_top (y := hcH T x) (rfl) ?_
  exact hc_oret hx hb hr hlk rfl dX2_h1_28
set_option maxHeartbeats 4000000 in
set_option maxRecDepth 100000 in
/-- h2 of a word -/
theorem met_h2 (l : Launch) (D : va_G) (h ht : Nat) (qv cv kv vv iv bv xv : Value) (T : Nat → Int32) (x : Int32) : HcO l yX2_h2 cX2_h2 2 (.int) 0 0 D hcNo [.ref h, .int x] [hcOb h 1 [.ref ht, qv, cv, kv, vv, iv, bv, xv], hcIa D ht 512 T] (.int (hcH T x)) := by
  refine hc_inO (by decide) (Nat.le_of_ble_eq_true rfl) ?_
  intro p e s m args below meth c ls A hx hb hr hlk hml hown hts hnm hP hK hD hE hA hAn hl
  have hown : s.vm.findClass RX2 = some m.cls := hown
  have hl : lv_has ls 2 [(0, .ref h), (1, .int x)] := hl
  have hP : va_P D vwCl [hcOb h 1 [.ref ht, qv, cv, kv, vv, iv, bv, xv], hcIa D ht 512 T] s.heap := hP
  have hD : va_D A [hcOb h 1 [.ref ht, qv, cv, kv, vv, iv, bv, xv], hcIa D ht 512 T] := hD
  refine lv_aload_n hx hb dX2_h2_0 rfl (lv_at hl 0 rfl) ?_
  refine va_get (D := D) (ci := 1) (C := RX2) (T := TX2) (N := 8) hx hb hts in_X2 hown hK hP 0 rfl rfl 0 (by decide) (hts _ q257) (fun _ h9 => h9) rfl dX2_h2_1 ?_
  refine lv_iload_n hx hb dX2_h2_4 rfl (lv_at hl 1 rfl) ?_
  refine lv_sipush (v := 255) hx hb dX2_h2_5 (by decide) ?_
  refine lv_iand hx hb dX2_h2_8 ?_
  refine va_iald hx hb hK hP 1 0 rfl rfl (hc_h1 _) dX2_h2_9 ?_
  refine lv_aload_n hx hb dX2_h2_10 rfl (lv_at hl 0 rfl) ?_
  refine va_get (D := D) (ci := 1) (C := RX2) (T := TX2) (N := 8) hx hb hts in_X2 hown hK hP 0 rfl rfl 0 (by decide) (hts _ q257) (fun _ h9 => h9) rfl dX2_h2_11 ?_
  refine lv_iload_n hx hb dX2_h2_14 rfl (lv_at hl 1 rfl) ?_
  refine lv_bipush (v := 16) hx hb dX2_h2_15 (by decide) ?_
  refine lv_ishr hx hb dX2_h2_17 ?_
  refine lv_sipush (v := 255) hx hb dX2_h2_18 (by decide) ?_
  refine lv_iand hx hb dX2_h2_21 ?_
  refine lv_sipush (v := 256) hx hb dX2_h2_22 (by decide) ?_
  refine lv_iadd hx hb dX2_h2_25 ?_
  refine va_iald hx hb hK hP 1 0 rfl rfl (hc_h2 _) dX2_h2_26 ?_
  refine lv_iadd hx hb dX2_h2_27 ?_
  refine hc_top (y := hcH T x) (rfl) ?_
  exact hc_oret hx hb hr hlk rfl dX2_h2_28
set_option maxHeartbeats 16000000 in
set_option maxRecDepth 100000 in
/-- step() -/
theorem met_step0 (l : Launch) (D : va_G) (h hp hq : Nat) (kv vv iv bv xv : Value) (P Q : Nat → Int32) (cn : Nat) (hc : cn < 1024) : HcI l yX2_step cX2_step 3 (.int) 2 44 0 0 D hcNo [.ref h] [hcOb h 1 [.ref hp, .ref hq, .int (nI cn), kv, vv, iv, bv, xv], hcIa D hp 512 P, hcIa D hq 512 Q] (fun (r : Int32) (_ : Unit) => r = hcOw (P, Q, cn)) (fun _ => [hcOb h 1 [.ref hp, .ref hq, .int (nI ((hcNx (P, Q, cn)).2.2)), kv, vv, iv, bv, xv], hcIa D hp 512 (hcNx (P, Q, cn)).1, hcIa D hq 512 (hcNx (P, Q, cn)).2.1]) := by
  refine hc_inI (by decide) (Nat.le_of_ble_eq_true rfl) ?_
  intro p e s m args below meth c ls A hx hb hr hlk hml hown hts hnm hP hK hD hE hA hAn hS hl
  have hown : s.vm.findClass RX2 = some m.cls := hown
  have hl : lv_has ls 3 [(0, .ref h)] := hl
  have hP : va_P D vwCl [hcOb h 1 [.ref hp, .ref hq, .int (nI cn), kv, vv, iv, bv, xv], hcIa D hp 512 P, hcIa D hq 512 Q] s.heap := hP
  have hD : va_D A [hcOb h 1 [.ref hp, .ref hq, .int (nI cn), kv, vv, iv, bv, xv], hcIa D hp 512 P, hcIa D hq 512 Q] := hD
  refine lv_aload_n hx hb dX2_step_0 rfl (lv_at hl 0 rfl) ?_
  refine va_get (D := D) (ci := 1) (C := RX2) (T := TX2) (N := 8) hx hb hts in_X2 hown hK hP 0 rfl rfl 2 (by decide) (hts _ q259) (fun _ h9 => h9) rfl dX2_step_1 ?_
  refine hc_oS (met_mod512 l D (nI cn)) ⟨hx, hb, hml, hown, hts⟩ (va_cwS 1 hts (lw_S q159 q160 q12 q161) rfl rfl rfl (by decide +kernel) ⟨Nat.le_of_ble_eq_true rfl, Nat.le_of_ble_eq_true rfl⟩) hcBl_no (hc_no _ _) hK hP hD [] (by decide) rfl rfl hl.1 rfl (Nat.le_of_ble_eq_true rfl) dX2_step_4 ⟨Nat.le_of_ble_eq_true rfl, Nat.le_of_ble_eq_true rfl⟩ ?_
  refine hc_top (y := nI (cn % 512)) (hc_m512 hc) ?_
  refine lv_istore_n (lv' := [(1, .int (nI (cn % 512))), (0, .ref h)]) hx hb dX2_step_7 rfl hl (by decide) rfl (fun ls hl => ?_)
  refine lv_aload_n hx hb dX2_step_8 rfl (lv_at hl 1 rfl) ?_
  refine va_get (D := D) (ci := 1) (C := RX2) (T := TX2) (N := 8) hx hb hts in_X2 hown hK hP 0 rfl rfl 2 (by decide) (hts _ q259) (fun _ h9 => h9) rfl dX2_step_9 ?_
  refine lv_sipush (v := 512) hx hb dX2_step_12 (by decide) ?_
  refine lv_icmp_ge (tgt := 90) hx hb dX2_step_15 (by decide) (fun hc5 => ?_) (fun hc5 => ?_)
  · skip
    have h5 : 512 ≤ cn := (nI_leI (a := 512) (b := cn) (by omega) (by omega)).mp hc5
    have e5 : cn % 512 = cn - 512 := by omega
    have eo : hcOw (P, Q, cn) = hcR hcG2 Q P (cn - 512) := if_neg (Nat.not_lt.mpr h5)
    have en : hcNx (P, Q, cn) = (P, hcU hcG2 Q (cn - 512), (cn + 1) % 1024) := if_neg (Nat.not_lt.mpr h5)
    have hj : (cn - 512) < 512 := by omega
    rw [eo, en]
    rw [e5] at hl
    have hl : lv_has ls 3 [(1, .int (nI ((cn - 512)))), (0, .ref h)] := hl
    refine lv_aload_n hx hb dX2_step_90 rfl (lv_at hl 1 rfl) ?_
    refine va_get (D := D) (ci := 1) (C := RX2) (T := TX2) (N := 8) hx hb hts in_X2 hown hK hP 0 rfl rfl 1 (by decide) (hts _ q258) (fun _ h9 => h9) rfl dX2_step_91 ?_
    refine lv_iload_n hx hb dX2_step_94 rfl (lv_at hl 0 rfl) ?_
    refine lv_dup2_11 hx hb dX2_step_95 rfl rfl ?_
    refine hc_iald (k := (cn - 512)) hx hb hK hP 2 0 rfl rfl (hj) (by decide) dX2_step_96 ?_
    refine lv_aload_n hx hb dX2_step_97 rfl (lv_at hl 1 rfl) ?_
    refine lv_aload_n hx hb dX2_step_98 rfl (lv_at hl 1 rfl) ?_
    refine va_get (D := D) (ci := 1) (C := RX2) (T := TX2) (N := 8) hx hb hts in_X2 hown hK hP 0 rfl rfl 1 (by decide) (hts _ q258) (fun _ h9 => h9) rfl dX2_step_99 ?_
    refine lv_iload_n hx hb dX2_step_102 rfl (lv_at hl 0 rfl) ?_
    refine lv_iconst (v := 3) hx hb dX2_step_103 (by decide) ?_
    refine hc_oS (met_dim l D (nI (cn - 512)) 3) ⟨hx, hb, hml, hown, hts⟩ (va_cwS 2 hts (lw_S q162 q163 q12 q164) rfl rfl rfl (by decide +kernel) ⟨Nat.le_of_ble_eq_true rfl, Nat.le_of_ble_eq_true rfl⟩) hcBl_no (hc_no _ _) hK hP hD [] (by decide) rfl rfl hl.1 rfl (Nat.le_of_ble_eq_true rfl) dX2_step_104 ⟨Nat.le_of_ble_eq_true rfl, Nat.le_of_ble_eq_true rfl⟩ ?_
    refine hc_top (y := nI (((cn - 512) + 509) % 512)) (hc_dim (y := 3) hj (by decide)) ?_
    refine hc_iald (k := (((cn - 512) + 509) % 512)) hx hb hK hP 2 0 rfl rfl (Nat.mod_lt _ (by decide)) (by decide) dX2_step_107 ?_
    refine lv_aload_n hx hb dX2_step_108 rfl (lv_at hl 1 rfl) ?_
    refine va_get (D := D) (ci := 1) (C := RX2) (T := TX2) (N := 8) hx hb hts in_X2 hown hK hP 0 rfl rfl 1 (by decide) (hts _ q258) (fun _ h9 => h9) rfl dX2_step_109 ?_
    refine lv_iload_n hx hb dX2_step_112 rfl (lv_at hl 0 rfl) ?_
    refine lv_bipush (v := 10) hx hb dX2_step_113 (by decide) ?_
    refine hc_oS (met_dim l D (nI (cn - 512)) 10) ⟨hx, hb, hml, hown, hts⟩ (va_cwS 2 hts (lw_S q162 q163 q12 q164) rfl rfl rfl (by decide +kernel) ⟨Nat.le_of_ble_eq_true rfl, Nat.le_of_ble_eq_true rfl⟩) hcBl_no (hc_no _ _) hK hP hD [] (by decide) rfl rfl hl.1 rfl (Nat.le_of_ble_eq_true rfl) dX2_step_115 ⟨Nat.le_of_ble_eq_true rfl, Nat.le_of_ble_eq_true rfl⟩ ?_
    refine hc_top (y := nI (((cn - 512) + 502) % 512)) (hc_dim (y := 10) hj (by decide)) ?_
    refine hc_iald (k := (((cn - 512) + 502) % 512)) hx hb hK hP 2 0 rfl rfl (Nat.mod_lt _ (by decide)) (by decide) dX2_step_118 ?_
    refine lv_aload_n hx hb dX2_step_119 rfl (lv_at hl 1 rfl) ?_
    refine va_get (D := D) (ci := 1) (C := RX2) (T := TX2) (N := 8) hx hb hts in_X2 hown hK hP 0 rfl rfl 1 (by decide) (hts _ q258) (fun _ h9 => h9) rfl dX2_step_120 ?_
    refine lv_iload_n hx hb dX2_step_123 rfl (lv_at hl 0 rfl) ?_
    refine lv_sipush (v := 511) hx hb dX2_step_124 (by decide) ?_
    refine hc_oS (met_dim l D (nI (cn - 512)) 511) ⟨hx, hb, hml, hown, hts⟩ (va_cwS 2 hts (lw_S q162 q163 q12 q164) rfl rfl rfl (by decide +kernel) ⟨Nat.le_of_ble_eq_true rfl, Nat.le_of_ble_eq_true rfl⟩) hcBl_no (hc_no _ _) hK hP hD [] (by decide) rfl rfl hl.1 rfl (Nat.le_of_ble_eq_true rfl) dX2_step_127 ⟨Nat.le_of_ble_eq_true rfl, Nat.le_of_ble_eq_true rfl⟩ ?_
    refine hc_top (y := nI (((cn - 512) + 1) % 512)) (hc_dim (y := 511) hj (by decide)) ?_
    refine hc_iald (k := (((cn - 512) + 1) % 512)) hx hb hK hP 2 0 rfl rfl (Nat.mod_lt _ (by decide)) (by decide) dX2_step_130 ?_
    refine hc_oV (met_g2 l D h (Q (((cn - 512) + 509) % 512)) (Q (((cn - 512) + 502) % 512)) (Q (((cn - 512) + 1) % 512))) ⟨hx, hb, hml, hown, hts⟩ (cwV 3 hts (lw_V q176 q178 qs7 q12 q179) rfl rfl rfl (by decide +kernel) ⟨Nat.le_of_ble_eq_true rfl, Nat.le_of_ble_eq_true rfl⟩) hcBl_no (hc_no _ _) hK hP hD [] (by decide) rfl 0 (ci := 1) rfl rfl rfl rfl hl.1 rfl (Nat.le_of_ble_eq_true rfl) dX2_step_131 ⟨Nat.le_of_ble_eq_true rfl, Nat.le_of_ble_eq_true rfl⟩ ?_
    refine lv_iadd hx hb dX2_step_134 ?_
    refine hc_iast (k := (cn - 512)) hx hb hK hP hD hS 2 0 rfl rfl (hj) (by decide) dX2_step_135 (fun H locs hP hD hS => ?_)
    have hP : va_P D vwCl [hcOb h 1 [.ref hp, .ref hq, .int (nI cn), kv, vv, iv, bv, xv], hcIa D hp 512 P, hcIa D hq 512 (upd Q (cn - 512) ((Q (cn - 512)) + (hcG2 (Q (((cn - 512) + 509) % 512)) (Q (((cn - 512) + 502) % 512)) (Q (((cn - 512) + 1) % 512)))))] H := hP
    have hD : va_D A [hcOb h 1 [.ref hp, .ref hq, .int (nI cn), kv, vv, iv, bv, xv], hcIa D hp 512 P, hcIa D hq 512 (upd Q (cn - 512) ((Q (cn - 512)) + (hcG2 (Q (((cn - 512) + 509) % 512)) (Q (((cn - 512) + 502) % 512)) (Q (((cn - 512) + 1) % 512)))))] := hD
    have hP : va_P D vwCl [hcOb h 1 [.ref hp, .ref hq, .int (nI cn), kv, vv, iv, bv, xv], hcIa D hp 512 P, hcIa D hq 512 (hcU hcG2 Q (cn - 512))] H := hP
    have hD : va_D A [hcOb h 1 [.ref hp, .ref hq, .int (nI cn), kv, vv, iv, bv, xv], hcIa D hp 512 P, hcIa D hq 512 (hcU hcG2 Q (cn - 512))] := hD
    refine lv_aload_n hx hb dX2_step_136 rfl (lv_at hl 1 rfl) ?_
    refine lv_aload_n hx hb dX2_step_137 rfl (lv_at hl 1 rfl) ?_
    refine va_get (D := D) (ci := 1) (C := RX2) (T := TX2) (N := 8) hx hb hts in_X2 hown hK hP 0 rfl rfl 1 (by decide) (hts _ q258) (fun _ h9 => h9) rfl dX2_step_138 ?_
    refine lv_iload_n hx hb dX2_step_141 rfl (lv_at hl 0 rfl) ?_
    refine lv_bipush (v := 12) hx hb dX2_step_142 (by decide) ?_
    refine hc_oS (met_dim l D (nI (cn - 512)) 12) ⟨hx, hb, hml, hown, hts⟩ (va_cwS 2 hts (lw_S q162 q163 q12 q164) rfl rfl rfl (by decide +kernel) ⟨Nat.le_of_ble_eq_true rfl, Nat.le_of_ble_eq_true rfl⟩) hcBl_no (hc_no _ _) hK hP hD [] (by decide) rfl rfl hl.1 rfl (Nat.le_of_ble_eq_true rfl) dX2_step_144 ⟨Nat.le_of_ble_eq_true rfl, Nat.le_of_ble_eq_true rfl⟩ ?_
    refine hc_top (y := nI (((cn - 512) + 500) % 512)) (hc_dim (y := 12) hj (by decide)) ?_
    refine hc_iald (k := (((cn - 512) + 500) % 512)) hx hb hK hP 2 0 rfl rfl (Nat.mod_lt _ (by decide)) (by decide) dX2_step_147 ?_
    refine hc_oV (met_h2 l D h hp (.ref hq) (.int (nI cn)) kv vv iv bv xv P ((hcU hcG2 Q (cn - 512)) (((cn - 512) + 500) % 512))) ⟨hx, hb, hml, hown, hts⟩ (cwV 1 hts (lw_V q183 q185 qs8 q12 q186) rfl rfl rfl (by decide +kernel) ⟨Nat.le_of_ble_eq_true rfl, Nat.le_of_ble_eq_true rfl⟩) hcBl_no (hc_no _ _) hK hP hD [0, 1] (by decide) rfl 0 (ci := 1) rfl rfl rfl rfl hl.1 rfl (Nat.le_of_ble_eq_true rfl) dX2_step_148 ⟨Nat.le_of_ble_eq_true rfl, Nat.le_of_ble_eq_true rfl⟩ ?_
    refine lv_aload_n hx hb dX2_step_151 rfl (lv_at hl 1 rfl) ?_
    refine va_get (D := D) (ci := 1) (C := RX2) (T := TX2) (N := 8) hx hb hts in_X2 hown hK hP 0 rfl rfl 1 (by decide) (hts _ q258) (fun _ h9 => h9) rfl dX2_step_152 ?_
    refine lv_iload_n hx hb dX2_step_155 rfl (lv_at hl 0 rfl) ?_
    refine hc_iald (k := (cn - 512)) hx hb hK hP 2 0 rfl rfl (hj) (by decide) dX2_step_156 ?_
    refine lv_ixor hx hb dX2_step_157 ?_
    refine hc_top (y := hcR hcG2 Q P (cn - 512)) (rfl) ?_
    refine lv_istore_n (lv' := [(2, .int (hcR hcG2 Q P (cn - 512))), (1, .int (nI ((cn - 512)))), (0, .ref h)]) hx hb dX2_step_158 rfl hl (by decide) rfl (fun ls hl => ?_)
    refine lv_aload_n hx hb dX2_step_159 rfl (lv_at hl 2 rfl) ?_
    refine lv_aload_n hx hb dX2_step_160 rfl (lv_at hl 2 rfl) ?_
    refine va_get (D := D) (ci := 1) (C := RX2) (T := TX2) (N := 8) hx hb hts in_X2 hown hK hP 0 rfl rfl 2 (by decide) (hts _ q259) (fun _ h9 => h9) rfl dX2_step_161 ?_
    refine lv_iconst (v := 1) hx hb dX2_step_164 (by decide) ?_
    refine lv_iadd hx hb dX2_step_165 ?_
    refine hc_oS (met_mod1024 l D (nI cn + 1)) ⟨hx, hb, hml, hown, hts⟩ (va_cwS 1 hts (lw_S q187 q188 q12 q189) rfl rfl rfl (by decide +kernel) ⟨Nat.le_of_ble_eq_true rfl, Nat.le_of_ble_eq_true rfl⟩) hcBl_no (hc_no _ _) hK hP hD [] (by decide) rfl rfl hl.1 rfl (Nat.le_of_ble_eq_true rfl) dX2_step_166 ⟨Nat.le_of_ble_eq_true rfl, Nat.le_of_ble_eq_true rfl⟩ ?_
    refine hc_top (y := nI ((cn + 1) % 1024)) (hc_m1024 hc) ?_
    refine va_put (D := D) (ci := 1) (v := .int (nI ((cn + 1) % 1024))) (ty := .int) (C := RX2) (T := TX2) (N := 8) hx hb hts in_X2 tyX2 tyX2_ok nmX2 hown hK hP hD hS 0 rfl rfl 2 (by decide) (hts _ q259) (fun _ h9 => h9) rfl (by decide +kernel) rfl rfl (Nat.le_of_ble_eq_true rfl) dX2_step_169 (fun H locs hP hD hS => ?_)
    have hP : va_P D vwCl [hcOb h 1 [.ref hp, .ref hq, .int (nI ((cn + 1) % 1024)), kv, vv, iv, bv, xv], hcIa D hp 512 P, hcIa D hq 512 (hcU hcG2 Q (cn - 512))] H := hP
    have hD : va_D A [hcOb h 1 [.ref hp, .ref hq, .int (nI ((cn + 1) % 1024)), kv, vv, iv, bv, xv], hcIa D hp 512 P, hcIa D hq 512 (hcU hcG2 Q (cn - 512))] := hD
    refine lv_iload_n hx hb dX2_step_172 rfl (lv_at hl 0 rfl) ?_
    exact hc_iret (()) hx hb hr hlk (rfl) (rfl) hP hD [0, 1, 2] (by decide) rfl hS (Nat.le_of_ble_eq_true rfl) (Nat.le_of_ble_eq_true rfl) dX2_step_173
  · skip
    have h5 : cn < 512 := Nat.lt_of_not_le (fun z => hc5 (nI_le z (by omega)))
    have e5 : cn % 512 = cn := by omega
    have eo : hcOw (P, Q, cn) = hcR hcG1 P Q cn := if_pos h5
    have en : hcNx (P, Q, cn) = (hcU hcG1 P cn, Q, (cn + 1) % 1024) := if_pos h5
    have hj : cn < 512 := by omega
    rw [eo, en]
    rw [e5] at hl
    have hl : lv_has ls 3 [(1, .int (nI (cn))), (0, .ref h)] := hl
    refine lv_aload_n hx hb dX2_step_18 rfl (lv_at hl 1 rfl) ?_
    refine va_get (D := D) (ci := 1) (C := RX2) (T := TX2) (N := 8) hx hb hts in_X2 hown hK hP 0 rfl rfl 0 (by decide) (hts _ q257) (fun _ h9 => h9) rfl dX2_step_19 ?_
    refine lv_iload_n hx hb dX2_step_22 rfl (lv_at hl 0 rfl) ?_
    refine lv_dup2_11 hx hb dX2_step_23 rfl rfl ?_
    refine hc_iald (k := cn) hx hb hK hP 1 0 rfl rfl (hj) (by decide) dX2_step_24 ?_
    refine lv_aload_n hx hb dX2_step_25 rfl (lv_at hl 1 rfl) ?_
    refine lv_aload_n hx hb dX2_step_26 rfl (lv_at hl 1 rfl) ?_
    refine va_get (D := D) (ci := 1) (C := RX2) (T := TX2) (N := 8) hx hb hts in_X2 hown hK hP 0 rfl rfl 0 (by decide) (hts _ q257) (fun _ h9 => h9) rfl dX2_step_27 ?_
    refine lv_iload_n hx hb dX2_step_30 rfl (lv_at hl 0 rfl) ?_
    refine lv_iconst (v := 3) hx hb dX2_step_31 (by decide) ?_
    refine hc_oS (met_dim l D (nI cn) 3) ⟨hx, hb, hml, hown, hts⟩ (va_cwS 2 hts (lw_S q162 q163 q12 q164) rfl rfl rfl (by decide +kernel) ⟨Nat.le_of_ble_eq_true rfl, Nat.le_of_ble_eq_true rfl⟩) hcBl_no (hc_no _ _) hK hP hD [] (by decide) rfl rfl hl.1 rfl (Nat.le_of_ble_eq_true rfl) dX2_step_32 ⟨Nat.le_of_ble_eq_true rfl, Nat.le_of_ble_eq_true rfl⟩ ?_
    refine hc_top (y := nI ((cn + 509) % 512)) (hc_dim (y := 3) hj (by decide)) ?_
    refine hc_iald (k := ((cn + 509) % 512)) hx hb hK hP 1 0 rfl rfl (Nat.mod_lt _ (by decide)) (by decide) dX2_step_35 ?_
    refine lv_aload_n hx hb dX2_step_36 rfl (lv_at hl 1 rfl) ?_
    refine va_get (D := D) (ci := 1) (C := RX2) (T := TX2) (N := 8) hx hb hts in_X2 hown hK hP 0 rfl rfl 0 (by decide) (hts _ q257) (fun _ h9 => h9) rfl dX2_step_37 ?_
    refine lv_iload_n hx hb dX2_step_40 rfl (lv_at hl 0 rfl) ?_
    refine lv_bipush (v := 10) hx hb dX2_step_41 (by decide) ?_
    refine hc_oS (met_dim l D (nI cn) 10) ⟨hx, hb, hml, hown, hts⟩ (va_cwS 2 hts (lw_S q162 q163 q12 q164) rfl rfl rfl (by decide +kernel) ⟨Nat.le_of_ble_eq_true rfl, Nat.le_of_ble_eq_true rfl⟩) hcBl_no (hc_no _ _) hK hP hD [] (by decide) rfl rfl hl.1 rfl (Nat.le_of_ble_eq_true rfl) dX2_step_43 ⟨Nat.le_of_ble_eq_true rfl, Nat.le_of_ble_eq_true rfl⟩ ?_
    refine hc_top (y := nI ((cn + 502) % 512)) (hc_dim (y := 10) hj (by decide)) ?_
    refine hc_iald (k := ((cn + 502) % 512)) hx hb hK hP 1 0 rfl rfl (Nat.mod_lt _ (by decide)) (by decide) dX2_step_46 ?_
    refine lv_aload_n hx hb dX2_step_47 rfl (lv_at hl 1 rfl) ?_
    refine va_get (D := D) (ci := 1) (C := RX2) (T := TX2) (N := 8) hx hb hts in_X2 hown hK hP 0 rfl rfl 0 (by decide) (hts _ q257) (fun _ h9 => h9) rfl dX2_step_48 ?_
    refine lv_iload_n hx hb dX2_step_51 rfl (lv_at hl 0 rfl) ?_
    refine lv_sipush (v := 511) hx hb dX2_step_52 (by decide) ?_
    refine hc_oS (met_dim l D (nI cn) 511) ⟨hx, hb, hml, hown, hts⟩ (va_cwS 2 hts (lw_S q162 q163 q12 q164) rfl rfl rfl (by decide +kernel) ⟨Nat.le_of_ble_eq_true rfl, Nat.le_of_ble_eq_true rfl⟩) hcBl_no (hc_no _ _) hK hP hD [] (by decide) rfl rfl hl.1 rfl (Nat.le_of_ble_eq_true rfl) dX2_step_55 ⟨Nat.le_of_ble_eq_true rfl, Nat.le_of_ble_eq_true rfl⟩ ?_
    refine hc_top (y := nI ((cn + 1) % 512)) (hc_dim (y := 511) hj (by decide)) ?_
    refine hc_iald (k := ((cn + 1) % 512)) hx hb hK hP 1 0 rfl rfl (Nat.mod_lt _ (by decide)) (by decide) dX2_step_58 ?_
    refine hc_oV (met_g1 l D h (P ((cn + 509) % 512)) (P ((cn + 502) % 512)) (P ((cn + 1) % 512))) ⟨hx, hb, hml, hown, hts⟩ (cwV 3 hts (lw_V q165 q167 qs5 q12 q168) rfl rfl rfl (by decide +kernel) ⟨Nat.le_of_ble_eq_true rfl, Nat.le_of_ble_eq_true rfl⟩) hcBl_no (hc_no _ _) hK hP hD [] (by decide) rfl 0 (ci := 1) rfl rfl rfl rfl hl.1 rfl (Nat.le_of_ble_eq_true rfl) dX2_step_59 ⟨Nat.le_of_ble_eq_true rfl, Nat.le_of_ble_eq_true rfl⟩ ?_
    refine lv_iadd hx hb dX2_step_62 ?_
    refine hc_iast (k := cn) hx hb hK hP hD hS 1 0 rfl rfl (hj) (by decide) dX2_step_63 (fun H locs hP hD hS => ?_)
    have hP : va_P D vwCl [hcOb h 1 [.ref hp, .ref hq, .int (nI cn), kv, vv, iv, bv, xv], hcIa D hp 512 (upd P cn ((P cn) + (hcG1 (P ((cn + 509) % 512)) (P ((cn + 502) % 512)) (P ((cn + 1) % 512))))), hcIa D hq 512 Q] H := hP
    have hD : va_D A [hcOb h 1 [.ref hp, .ref hq, .int (nI cn), kv, vv, iv, bv, xv], hcIa D hp 512 (upd P cn ((P cn) + (hcG1 (P ((cn + 509) % 512)) (P ((cn + 502) % 512)) (P ((cn + 1) % 512))))), hcIa D hq 512 Q] := hD
    have hP : va_P D vwCl [hcOb h 1 [.ref hp, .ref hq, .int (nI cn), kv, vv, iv, bv, xv], hcIa D hp 512 (hcU hcG1 P cn), hcIa D hq 512 Q] H := hP
    have hD : va_D A [hcOb h 1 [.ref hp, .ref hq, .int (nI cn), kv, vv, iv, bv, xv], hcIa D hp 512 (hcU hcG1 P cn), hcIa D hq 512 Q] := hD
    refine lv_aload_n hx hb dX2_step_64 rfl (lv_at hl 1 rfl) ?_
    refine lv_aload_n hx hb dX2_step_65 rfl (lv_at hl 1 rfl) ?_
    refine va_get (D := D) (ci := 1) (C := RX2) (T := TX2) (N := 8) hx hb hts in_X2 hown hK hP 0 rfl rfl 0 (by decide) (hts _ q257) (fun _ h9 => h9) rfl dX2_step_66 ?_
    refine lv_iload_n hx hb dX2_step_69 rfl (lv_at hl 0 rfl) ?_
    refine lv_bipush (v := 12) hx hb dX2_step_70 (by decide) ?_
    refine hc_oS (met_dim l D (nI cn) 12) ⟨hx, hb, hml, hown, hts⟩ (va_cwS 2 hts (lw_S q162 q163 q12 q164) rfl rfl rfl (by decide +kernel) ⟨Nat.le_of_ble_eq_true rfl, Nat.le_of_ble_eq_true rfl⟩) hcBl_no (hc_no _ _) hK hP hD [] (by decide) rfl rfl hl.1 rfl (Nat.le_of_ble_eq_true rfl) dX2_step_72 ⟨Nat.le_of_ble_eq_true rfl, Nat.le_of_ble_eq_true rfl⟩ ?_
    refine hc_top (y := nI ((cn + 500) % 512)) (hc_dim (y := 12) hj (by decide)) ?_
    refine hc_iald (k := ((cn + 500) % 512)) hx hb hK hP 1 0 rfl rfl (Nat.mod_lt _ (by decide)) (by decide) dX2_step_75 ?_
    refine hc_oV (met_h1 l D h hq (.ref hp) (.int (nI cn)) kv vv iv bv xv Q ((hcU hcG1 P cn) ((cn + 500) % 512))) ⟨hx, hb, hml, hown, hts⟩ (cwV 1 hts (lw_V q172 q174 qs6 q12 q175) rfl rfl rfl (by decide +kernel) ⟨Nat.le_of_ble_eq_true rfl, Nat.le_of_ble_eq_true rfl⟩) hcBl_no (hc_no _ _) hK hP hD [0, 2] (by decide) rfl 0 (ci := 1) rfl rfl rfl rfl hl.1 rfl (Nat.le_of_ble_eq_true rfl) dX2_step_76 ⟨Nat.le_of_ble_eq_true rfl, Nat.le_of_ble_eq_true rfl⟩ ?_
    refine lv_aload_n hx hb dX2_step_79 rfl (lv_at hl 1 rfl) ?_
    refine va_get (D := D) (ci := 1) (C := RX2) (T := TX2) (N := 8) hx hb hts in_X2 hown hK hP 0 rfl rfl 0 (by decide) (hts _ q257) (fun _ h9 => h9) rfl dX2_step_80 ?_
    refine lv_iload_n hx hb dX2_step_83 rfl (lv_at hl 0 rfl) ?_
    refine hc_iald (k := cn) hx hb hK hP 1 0 rfl rfl (hj) (by decide) dX2_step_84 ?_
    refine lv_ixor hx hb dX2_step_85 ?_
    refine hc_top (y := hcR hcG1 P Q cn) (rfl) ?_
    refine lv_istore_n (lv' := [(2, .int (hcR hcG1 P Q cn)), (1, .int (nI (cn))), (0, .ref h)]) hx hb dX2_step_86 rfl hl (by decide) rfl (fun ls hl => ?_)
    refine lv_goto (tgt := 159) hx hb dX2_step_87 (by decide) ?_
    refine lv_aload_n hx hb dX2_step_159 rfl (lv_at hl 2 rfl) ?_
    refine lv_aload_n hx hb dX2_step_160 rfl (lv_at hl 2 rfl) ?_
    refine va_get (D := D) (ci := 1) (C := RX2) (T := TX2) (N := 8) hx hb hts in_X2 hown hK hP 0 rfl rfl 2 (by decide) (hts _ q259) (fun _ h9 => h9) rfl dX2_step_161 ?_
    refine lv_iconst (v := 1) hx hb dX2_step_164 (by decide) ?_
    refine lv_iadd hx hb dX2_step_165 ?_
    refine hc_oS (met_mod1024 l D (nI cn + 1)) ⟨hx, hb, hml, hown, hts⟩ (va_cwS 1 hts (lw_S q187 q188 q12 q189) rfl rfl rfl (by decide +kernel) ⟨Nat.le_of_ble_eq_true rfl, Nat.le_of_ble_eq_true rfl⟩) hcBl_no (hc_no _ _) hK hP hD [] (by decide) rfl rfl hl.1 rfl (Nat.le_of_ble_eq_true rfl) dX2_step_166 ⟨Nat.le_of_ble_eq_true rfl, Nat.le_of_ble_eq_true rfl⟩ ?_
    refine hc_top (y := nI ((cn + 1) % 1024)) (hc_m1024 hc) ?_
    refine va_put (D := D) (ci := 1) (v := .int (nI ((cn + 1) % 1024))) (ty := .int) (C := RX2) (T := TX2) (N := 8) hx hb hts in_X2 tyX2 tyX2_ok nmX2 hown hK hP hD hS 0 rfl rfl 2 (by decide) (hts _ q259) (fun _ h9 => h9) rfl (by decide +kernel) rfl rfl (Nat.le_of_ble_eq_true rfl) dX2_step_169 (fun H locs hP hD hS => ?_)
    have hP : va_P D vwCl [hcOb h 1 [.ref hp, .ref hq, .int (nI ((cn + 1) % 1024)), kv, vv, iv, bv, xv], hcIa D hp 512 (hcU hcG1 P cn), hcIa D hq 512 Q] H := hP
    have hD : va_D A [hcOb h 1 [.ref hp, .ref hq, .int (nI ((cn + 1) % 1024)), kv, vv, iv, bv, xv], hcIa D hp 512 (hcU hcG1 P cn), hcIa D hq 512 Q] := hD
    refine lv_iload_n hx hb dX2_step_172 rfl (lv_at hl 0 rfl) ?_
    exact hc_iret (()) hx hb hr hlk (rfl) (rfl) hP hD [0, 1, 2] (by decide) rfl hS (Nat.le_of_ble_eq_true rfl) (Nat.le_of_ble_eq_true rfl) dX2_step_173
/-- step(), on the cipher's state as one value -/
theorem met_step (l : Launch) (D : va_G) (h hp hq : Nat) (kv vv iv bv xv : Value) (st : hcS) (hc : st.2.2 < 1024) : HcI l yX2_step cX2_step 3 (.int) 2 44 0 0 D hcNo [.ref h] [hcOb h 1 [.ref hp, .ref hq, .int (nI st.2.2), kv, vv, iv, bv, xv], hcIa D hp 512 st.1, hcIa D hq 512 st.2.1] (fun (r : Int32) (_ : Unit) => r = hcOw st) (fun _ => [hcOb h 1 [.ref hp, .ref hq, .int (nI ((hcNx st).2.2)), kv, vv, iv, bv, xv], hcIa D hp 512 (hcNx st).1, hcIa D hq 512 (hcNx st).2.1]) := met_step0 l D h hp hq kv vv iv bv xv st.1 st.2.1 st.2.2 hc
end
section
/-! HC128Engine.init() -/
theorem hc_subE {a b c : Nat} (h : c + b = a) : nI a - nI b = nI c := by
  subst h
  rw [pk_sub (Nat.le_add_left b c), Nat.add_sub_cancel]
theorem hcI0_e {K V : Nat → Int32} {s : hcS} (h : hcFf K V = s) : hcI0 K V = (s.1, s.2.1, 0) := by
  unfold hcI0
  rw [h]
set_option maxHeartbeats 16000000 in
set_option maxRecDepth 100000 in
/-- init(): the tables from key and number used once -/
theorem met_init (l : Launch) (D : va_G) (h hp hq hk hv : Nat) (ini bv : Value) (c0 x0 : Int32) (P0 Q0 K V : Nat → Int32) (s0 : hcS) (hs0 : s0 = hcI0 K V) : HcV l yX2_init cX2_init 3 3 66 1 1280 D hcNo [.ref h] [hcOb h 1 [.ref hp, .ref hq, .int c0, .ref hk, .ref hv, ini, bv, .int x0], hcIa D hp 512 P0, hcIa D hq 512 Q0, hcBa D hk 16 K, hcBa D hv 16 V] (fun _ : Unit => True) (fun _ => [hcOb h 1 [.ref hp, .ref hq, .int 0, .ref hk, .ref hv, ini, bv, .int 0], hcIa D hp 512 s0.1, hcIa D hq 512 s0.2.1, hcBa D hk 16 K, hcBa D hv 16 V]) := by
  refine hc_inV (by decide) (Nat.le_of_ble_eq_true rfl) ?_
  intro p e s m args below meth c ls A hx hb hr hlk hml hown hts hnm hP hK hD hE hA hAn hS hl
  have hown : s.vm.findClass RX2 = some m.cls := hown
  have hl : lv_has ls 3 [(0, .ref h)] := hl
  have hP : va_P D vwCl [hcOb h 1 [.ref hp, .ref hq, .int c0, .ref hk, .ref hv, ini, bv, .int x0], hcIa D hp 512 P0, hcIa D hq 512 Q0, hcBa D hk 16 K, hcBa D hv 16 V] s.heap := hP
  have hD : va_D A [hcOb h 1 [.ref hp, .ref hq, .int c0, .ref hk, .ref hv, ini, bv, .int x0], hcIa D hp 512 P0, hcIa D hq 512 Q0, hcBa D hk 16 K, hcBa D hv 16 V] := hD
  refine lv_aload_n hx hb dX2_init_0 rfl (lv_at hl 0 rfl) ?_
  refine va_get (D := D) (ci := 1) (C := RX2) (T := TX2) (N := 8) hx hb hts in_X2 hown hK hP 0 rfl rfl 3 (by decide) (hts _ q260) (fun _ h9 => h9) rfl dX2_init_1 ?_
  refine va_alen (v := nI 16) hx hb hK hP 3 1 rfl rfl rfl dX2_init_4 ?_
  refine lv_bipush (v := 16) hx hb dX2_init_5 (by decide) ?_
  refine lv_icmp_eq (tgt := 20) hx hb dX2_init_7 (by decide) (fun _ => ?_) (fun hc => absurd (rfl) hc)
  refine lv_aload_n hx hb dX2_init_20 rfl (lv_at hl 0 rfl) ?_
  refine va_get (D := D) (ci := 1) (C := RX2) (T := TX2) (N := 8) hx hb hts in_X2 hown hK hP 0 rfl rfl 4 (by decide) (hts _ q261) (fun _ h9 => h9) rfl dX2_init_21 ?_
  refine va_alen (v := nI 16) hx hb hK hP 4 1 rfl rfl rfl dX2_init_24 ?_
  refine lv_bipush (v := 16) hx hb dX2_init_25 (by decide) ?_
  refine lv_icmp_eq (tgt := 40) hx hb dX2_init_27 (by decide) (fun _ => ?_) (fun hc => absurd (rfl) hc)
  refine lv_aload_n hx hb dX2_init_40 rfl (lv_at hl 0 rfl) ?_
  refine lv_iconst (v := 0) hx hb dX2_init_41 (by decide) ?_
  refine va_put (D := D) (ci := 1) (v := .int 0) (ty := .int) (C := RX2) (T := TX2) (N := 8) hx hb hts in_X2 tyX2 tyX2_ok nmX2 hown hK hP hD hS 0 rfl rfl 7 (by decide) (hts _ q264) (fun _ h9 => h9) rfl (by decide +kernel) rfl rfl (Nat.le_of_ble_eq_true rfl) dX2_init_42 (fun H locs hP hD hS => ?_)
  have hP : va_P D vwCl [hcOb h 1 [.ref hp, .ref hq, .int c0, .ref hk, .ref hv, ini, bv, .int 0], hcIa D hp 512 P0, hcIa D hq 512 Q0, hcBa D hk 16 K, hcBa D hv 16 V] H := hP
  have hD : va_D A [hcOb h 1 [.ref hp, .ref hq, .int c0, .ref hk, .ref hv, ini, bv, .int 0], hcIa D hp 512 P0, hcIa D hq 512 Q0, hcBa D hk 16 K, hcBa D hv 16 V] := hD
  refine lv_aload_n hx hb dX2_init_45 rfl (lv_at hl 0 rfl) ?_
  refine lv_iconst (v := 0) hx hb dX2_init_46 (by decide) ?_
  refine va_put (D := D) (ci := 1) (v := .int 0) (ty := .int) (C := RX2) (T := TX2) (N := 8) hx hb hts in_X2 tyX2 tyX2_ok nmX2 hown hK hP hD hS 0 rfl rfl 2 (by decide) (hts _ q259) (fun _ h9 => h9) rfl (by decide +kernel) rfl rfl (Nat.le_of_ble_eq_true rfl) dX2_init_47 (fun H locs hP hD hS => ?_)
  have hP : va_P D vwCl [hcOb h 1 [.ref hp, .ref hq, .int 0, .ref hk, .ref hv, ini, bv, .int 0], hcIa D hp 512 P0, hcIa D hq 512 Q0, hcBa D hk 16 K, hcBa D hv 16 V] H := hP
  have hD : va_D A [hcOb h 1 [.ref hp, .ref hq, .int 0, .ref hk, .ref hv, ini, bv, .int 0], hcIa D hp 512 P0, hcIa D hq 512 Q0, hcBa D hk 16 K, hcBa D hv 16 V] := hD
  refine lv_sipush (v := 1280) hx hb dX2_init_50 (by decide) ?_
  refine hc_newa hx hb .int rfl (hts _ q236) hK hP hD hS hA 0 rfl (fun C h => by cases h) 1280 (f0 := fun _ => 0) (fun _ => rfl) (by decide) (by decide) (by decide) (Nat.le_of_ble_eq_true rfl) (Nat.le_of_ble_eq_true rfl) dX2_init_53 (fun aw H hP hD hS => ?_)
  have hP : va_P D vwCl [hcOb h 1 [.ref hp, .ref hq, .int 0, .ref hk, .ref hv, ini, bv, .int 0], hcIa D hp 512 P0, hcIa D hq 512 Q0, hcBa D hk 16 K, hcBa D hv 16 V, hcIa D aw 1280 (fun _ => 0)] H := hP
  have hD : va_D A [hcOb h 1 [.ref hp, .ref hq, .int 0, .ref hk, .ref hv, ini, bv, .int 0], hcIa D hp 512 P0, hcIa D hq 512 Q0, hcBa D hk 16 K, hcBa D hv 16 V, hcIa D aw 1280 (fun _ => 0)] := hD
  refine W.widen (k := 1) (n := 1280) (by decide) (by decide) ?_
  refine lv_astore_n (lv' := [(1, .ref aw), (0, .ref h)]) hx hb dX2_init_55 rfl hl (by decide) rfl (fun ls hl => ?_)
  refine lv_iconst (v := 0) hx hb dX2_init_56 (by decide) ?_
  refine lv_istore_n (lv' := [(2, .int 0), (1, .ref aw), (0, .ref h)]) hx hb dX2_init_57 rfl hl (by decide) rfl (fun ls hl => ?_)
  have L1 : ∀ (Qx : State → Prop) (d i : Nat) (H : Heap) (locs : List Loc) (ls : Array Slot), i + d = 16 → va_P D vwCl [hcOb h 1 [.ref hp, .ref hq, .int 0, .ref hk, .ref hv, ini, bv, .int 0], hcIa D hp 512 P0, hcIa D hq 512 Q0, hcBa D hk 16 K, hcBa D hv 16 V, hcIa D aw 1280 (hcW1 K 0 (fun _ => 0) i)] H → va_D A [hcOb h 1 [.ref hp, .ref hq, .int 0, .ref hk, .ref hv, ini, bv, .int 0], hcIa D hp 512 P0, hcIa D hq 512 Q0, hcBa D hk 16 K, hcBa D hv 16 V, hcIa D aw 1280 (hcW1 K 0 (fun _ => 0) i)] → va_S A s.heap H locs → lv_has ls 3 [(2, .int (nI i)), (1, .ref aw), (0, .ref h)] → (∀ (H : Heap) (locs : List Loc) (ls : Array Slot), va_P D vwCl [hcOb h 1 [.ref hp, .ref hq, .int 0, .ref hk, .ref hv, ini, bv, .int 0], hcIa D hp 512 P0, hcIa D hq 512 Q0, hcBa D hk 16 K, hcBa D hv 16 V, hcIa D aw 1280 (hcW1 K 0 (fun _ => 0) 16)] H → va_D A [hcOb h 1 [.ref hp, .ref hq, .int 0, .ref hk, .ref hv, ini, bv, .int 0], hcIa D hp 512 P0, hcIa D hq 512 Q0, hcBa D hk 16 K, hcBa D hv 16 V, hcIa D aw 1280 (hcW1 K 0 (fun _ => 0) 16)] → va_S A s.heap H locs → lv_has ls 3 [(2, .int (nI 16)), (1, .ref aw), (0, .ref h)] → W p l e (hcRm 3 66 1 1280) s m args below meth c H locs 1 1280 Qx (F0 m 95 ls [])) → W p l e (hcRm 3 66 1 1280) s m args below meth c H locs 1 1280 Qx (F0 m 58 ls []) := by
    intro Qx d
    induction d with
    | zero =>
      intro i H locs ls hi hP hD hS hl kx
      obtain rfl : i = 16 := by omega
      refine lv_iload_n hx hb dX2_init_58 rfl (lv_at hl 0 rfl) ?_
      refine lv_bipush (v := 16) hx hb dX2_init_59 (by decide) ?_
      refine lv_icmp_ge (tgt := 95) hx hb dX2_init_61 (by decide) (fun _ => ?_) (fun hc => absurd (nI_le (a := 16) (b := 16) (Nat.le_refl _) (by omega)) hc)
      exact kx H locs ls hP hD hS hl
    | succ d ih =>
      intro i H locs ls hi hP hD hS hl kx
      have hlt : i < 16 := by omega
      refine lv_iload_n hx hb dX2_init_58 rfl (lv_at hl 0 rfl) ?_
      refine lv_bipush (v := 16) hx hb dX2_init_59 (by decide) ?_
      refine lv_icmp_ge (tgt := 95) hx hb dX2_init_61 (by decide) (fun hc => absurd hc (nI_ge (a := i) (b := 16) hlt (by omega))) (fun _ => ?_)
      refine lv_aload_n hx hb dX2_init_64 rfl (lv_at hl 1 rfl) ?_
      refine lv_iload_n hx hb dX2_init_65 rfl (lv_at hl 0 rfl) ?_
      refine lv_iconst (v := 2) hx hb dX2_init_66 (by decide) ?_
      refine lv_ishr hx hb dX2_init_67 ?_
      refine hc_top (y := nI (i / 4)) (pk_shrN (by omega) ((2 : Int32) &&& 31) 2 (by decide)) ?_
      refine lv_dup2_11 hx hb dX2_init_68 rfl rfl ?_
      refine hc_iald (k := (i / 4)) hx hb hK hP 5 0 rfl rfl (by omega) (by decide) dX2_init_69 ?_
      refine lv_aload_n hx hb dX2_init_70 rfl (lv_at hl 2 rfl) ?_
      refine va_get (D := D) (ci := 1) (C := RX2) (T := TX2) (N := 8) hx hb hts in_X2 hown hK hP 0 rfl rfl 3 (by decide) (hts _ q260) (fun _ h9 => h9) rfl dX2_init_71 ?_
      refine lv_iload_n hx hb dX2_init_74 rfl (lv_at hl 0 rfl) ?_
      refine hc_bald (k := i) hx hb hK hP 3 1 rfl rfl (hlt) (by decide) dX2_init_75 ?_
      refine lv_sipush (v := 255) hx hb dX2_init_76 (by decide) ?_
      refine lv_iand hx hb dX2_init_79 ?_
      refine lv_bipush (v := 8) hx hb dX2_init_80 (by decide) ?_
      refine lv_iload_n hx hb dX2_init_82 rfl (lv_at hl 0 rfl) ?_
      refine lv_iconst (v := 3) hx hb dX2_init_83 (by decide) ?_
      refine lv_iand hx hb dX2_init_84 ?_
      refine lv_imul hx hb dX2_init_85 ?_
      refine lv_ishl hx hb dX2_init_86 ?_
      refine lv_ior hx hb dX2_init_87 ?_
      refine hc_iast (k := (i / 4)) hx hb hK hP hD hS 5 0 rfl rfl (by omega) (by decide) dX2_init_88 (fun H locs hP hD hS => ?_)
      have hP : va_P D vwCl [hcOb h 1 [.ref hp, .ref hq, .int 0, .ref hk, .ref hv, ini, bv, .int 0], hcIa D hp 512 P0, hcIa D hq 512 Q0, hcBa D hk 16 K, hcBa D hv 16 V, hcIa D aw 1280 (upd (hcW1 K 0 (fun _ => 0) i) (i / 4) (((hcW1 K 0 (fun _ => 0) i) (i / 4)) ||| (((K i) &&& 255) <<< ((8 * ((nI i) &&& 3)) &&& 31))))] H := hP
      have hD : va_D A [hcOb h 1 [.ref hp, .ref hq, .int 0, .ref hk, .ref hv, ini, bv, .int 0], hcIa D hp 512 P0, hcIa D hq 512 Q0, hcBa D hk 16 K, hcBa D hv 16 V, hcIa D aw 1280 (upd (hcW1 K 0 (fun _ => 0) i) (i / 4) (((hcW1 K 0 (fun _ => 0) i) (i / 4)) ||| (((K i) &&& 255) <<< ((8 * ((nI i) &&& 3)) &&& 31))))] := hD
      have hP : va_P D vwCl [hcOb h 1 [.ref hp, .ref hq, .int 0, .ref hk, .ref hv, ini, bv, .int 0], hcIa D hp 512 P0, hcIa D hq 512 Q0, hcBa D hk 16 K, hcBa D hv 16 V, hcIa D aw 1280 (hcW1 K 0 (fun _ => 0) (i + 1))] H := hP
      have hD : va_D A [hcOb h 1 [.ref hp, .ref hq, .int 0, .ref hk, .ref hv, ini, bv, .int 0], hcIa D hp 512 P0, hcIa D hq 512 Q0, hcBa D hk 16 K, hcBa D hv 16 V, hcIa D aw 1280 (hcW1 K 0 (fun _ => 0) (i + 1))] := hD
      refine lv_iinc (v := nI (i + 1)) (lv' := [(2, .int (nI (i + 1))), (1, .ref aw), (0, .ref h)]) hx hb dX2_init_89 hl (k := 0) rfl (nI_1 i) (by decide) rfl (fun ls hl => ?_)
      refine lv_goto (tgt := 58) hx hb dX2_init_92 (by decide) ?_
      exact ih (i + 1) H locs ls (by omega) hP hD hS hl kx
  refine L1 _ 16 0 _ _ _ rfl hP hD hS hl ?_
  clear L1 hP hD hS hl
  intro H locs ls hP hD hS hl
  refine lv_aload_n hx hb dX2_init_95 rfl (lv_at hl 1 rfl) ?_
  refine lv_iconst (v := 0) hx hb dX2_init_96 (by decide) ?_
  refine lv_aload_n hx hb dX2_init_97 rfl (lv_at hl 1 rfl) ?_
  refine lv_iconst (v := 4) hx hb dX2_init_98 (by decide) ?_
  refine lv_iconst (v := 4) hx hb dX2_init_99 (by decide) ?_
  refine hc_copy 0 4 4 hx hb (by rw [hml]; exact hl.1.symm) hown (hts _ q227) (hts _ q229) (hts _ q228) (hts _ q15) hK hP hD hS 5 5 0 0 rfl rfl rfl rfl rfl (by decide) (by decide) (by decide) (by decide) (by decide) (fun _ _ => rfl) (Nat.le_of_ble_eq_true rfl) (Nat.le_of_ble_eq_true rfl) dX2_init_100 (fun H locs hP hD hS => ?_)
  have hP : va_P D vwCl [hcOb h 1 [.ref hp, .ref hq, .int 0, .ref hk, .ref hv, ini, bv, .int 0], hcIa D hp 512 P0, hcIa D hq 512 Q0, hcBa D hk 16 K, hcBa D hv 16 V, hcIa D aw 1280 (va_cpy (hcW1 K 0 (fun _ => 0) 16) (hcW1 K 0 (fun _ => 0) 16) 0 4 4)] H := hP
  have hD : va_D A [hcOb h 1 [.ref hp, .ref hq, .int 0, .ref hk, .ref hv, ini, bv, .int 0], hcIa D hp 512 P0, hcIa D hq 512 Q0, hcBa D hk 16 K, hcBa D hv 16 V, hcIa D aw 1280 (va_cpy (hcW1 K 0 (fun _ => 0) 16) (hcW1 K 0 (fun _ => 0) 16) 0 4 4)] := hD
  have hP : va_P D vwCl [hcOb h 1 [.ref hp, .ref hq, .int 0, .ref hk, .ref hv, ini, bv, .int 0], hcIa D hp 512 P0, hcIa D hq 512 Q0, hcBa D hk 16 K, hcBa D hv 16 V, hcIa D aw 1280 (hcWa K)] H := hP
  have hD : va_D A [hcOb h 1 [.ref hp, .ref hq, .int 0, .ref hk, .ref hv, ini, bv, .int 0], hcIa D hp 512 P0, hcIa D hq 512 Q0, hcBa D hk 16 K, hcBa D hv 16 V, hcIa D aw 1280 (hcWa K)] := hD
  refine lv_iconst (v := 0) hx hb dX2_init_103 (by decide) ?_
  refine lv_istore_n (lv' := [(2, .int 0), (1, .ref aw), (0, .ref h)]) hx hb dX2_init_104 rfl hl (by decide) rfl (fun ls hl => ?_)
  have L2 : ∀ (Qx : State → Prop) (d i : Nat) (H : Heap) (locs : List Loc) (ls : Array Slot), i + d = 16 → va_P D vwCl [hcOb h 1 [.ref hp, .ref hq, .int 0, .ref hk, .ref hv, ini, bv, .int 0], hcIa D hp 512 P0, hcIa D hq 512 Q0, hcBa D hk 16 K, hcBa D hv 16 V, hcIa D aw 1280 (hcW1 V 8 (hcWa K) i)] H → va_D A [hcOb h 1 [.ref hp, .ref hq, .int 0, .ref hk, .ref hv, ini, bv, .int 0], hcIa D hp 512 P0, hcIa D hq 512 Q0, hcBa D hk 16 K, hcBa D hv 16 V, hcIa D aw 1280 (hcW1 V 8 (hcWa K) i)] → va_S A s.heap H locs → lv_has ls 3 [(2, .int (nI i)), (1, .ref aw), (0, .ref h)] → (∀ (H : Heap) (locs : List Loc) (ls : Array Slot), va_P D vwCl [hcOb h 1 [.ref hp, .ref hq, .int 0, .ref hk, .ref hv, ini, bv, .int 0], hcIa D hp 512 P0, hcIa D hq 512 Q0, hcBa D hk 16 K, hcBa D hv 16 V, hcIa D aw 1280 (hcW1 V 8 (hcWa K) 16)] H → va_D A [hcOb h 1 [.ref hp, .ref hq, .int 0, .ref hk, .ref hv, ini, bv, .int 0], hcIa D hp 512 P0, hcIa D hq 512 Q0, hcBa D hk 16 K, hcBa D hv 16 V, hcIa D aw 1280 (hcW1 V 8 (hcWa K) 16)] → va_S A s.heap H locs → lv_has ls 3 [(2, .int (nI 16)), (1, .ref aw), (0, .ref h)] → W p l e (hcRm 3 66 1 1280) s m args below meth c H locs 1 1280 Qx (F0 m 154 ls [])) → W p l e (hcRm 3 66 1 1280) s m args below meth c H locs 1 1280 Qx (F0 m 105 ls []) := by
    intro Qx d
    induction d with
    | zero =>
      intro i H locs ls hi hP hD hS hl kx
      obtain rfl : i = 16 := by omega
      refine lv_iload_n hx hb dX2_init_105 rfl (lv_at hl 0 rfl) ?_
      refine lv_aload_n hx hb dX2_init_106 rfl (lv_at hl 2 rfl) ?_
      refine va_get (D := D) (ci := 1) (C := RX2) (T := TX2) (N := 8) hx hb hts in_X2 hown hK hP 0 rfl rfl 4 (by decide) (hts _ q261) (fun _ h9 => h9) rfl dX2_init_107 ?_
      refine va_alen (v := nI 16) hx hb hK hP 4 1 rfl rfl rfl dX2_init_110 ?_
      refine lv_icmp_ge (tgt := 154) hx hb dX2_init_111 (by decide) (fun _ => ?_) (fun hc => absurd (nI_le (a := 16) (b := 16) (Nat.le_refl _) (by omega)) hc)
      exact kx H locs ls hP hD hS hl
    | succ d ih =>
      intro i H locs ls hi hP hD hS hl kx
      have hlt : i < 16 := by omega
      refine lv_iload_n hx hb dX2_init_105 rfl (lv_at hl 0 rfl) ?_
      refine lv_aload_n hx hb dX2_init_106 rfl (lv_at hl 2 rfl) ?_
      refine va_get (D := D) (ci := 1) (C := RX2) (T := TX2) (N := 8) hx hb hts in_X2 hown hK hP 0 rfl rfl 4 (by decide) (hts _ q261) (fun _ h9 => h9) rfl dX2_init_107 ?_
      refine va_alen (v := nI 16) hx hb hK hP 4 1 rfl rfl rfl dX2_init_110 ?_
      refine lv_icmp_ge (tgt := 154) hx hb dX2_init_111 (by decide) (fun hc => absurd hc (nI_ge (a := i) (b := 16) hlt (by omega))) (fun _ => ?_)
      refine lv_iload_n hx hb dX2_init_114 rfl (lv_at hl 0 rfl) ?_
      refine lv_bipush (v := 16) hx hb dX2_init_115 (by decide) ?_
      refine lv_icmp_ge (tgt := 154) hx hb dX2_init_117 (by decide) (fun hc => absurd hc (nI_ge (a := i) (b := 16) hlt (by omega))) (fun _ => ?_)
      refine lv_aload_n hx hb dX2_init_120 rfl (lv_at hl 1 rfl) ?_
      refine lv_iload_n hx hb dX2_init_121 rfl (lv_at hl 0 rfl) ?_
      refine lv_iconst (v := 2) hx hb dX2_init_122 (by decide) ?_
      refine lv_ishr hx hb dX2_init_123 ?_
      refine hc_top (y := nI (i / 4)) (pk_shrN (by omega) ((2 : Int32) &&& 31) 2 (by decide)) ?_
      refine lv_bipush (v := 8) hx hb dX2_init_124 (by decide) ?_
      refine lv_iadd hx hb dX2_init_126 ?_
      refine hc_top (y := nI (i / 4 + 8)) (nI_add _ 8) ?_
      refine lv_dup2_11 hx hb dX2_init_127 rfl rfl ?_
      refine hc_iald (k := (i / 4 + 8)) hx hb hK hP 5 0 rfl rfl (by omega) (by decide) dX2_init_128 ?_
      refine lv_aload_n hx hb dX2_init_129 rfl (lv_at hl 2 rfl) ?_
      refine va_get (D := D) (ci := 1) (C := RX2) (T := TX2) (N := 8) hx hb hts in_X2 hown hK hP 0 rfl rfl 4 (by decide) (hts _ q261) (fun _ h9 => h9) rfl dX2_init_130 ?_
      refine lv_iload_n hx hb dX2_init_133 rfl (lv_at hl 0 rfl) ?_
      refine hc_bald (k := i) hx hb hK hP 4 1 rfl rfl (hlt) (by decide) dX2_init_134 ?_
      refine lv_sipush (v := 255) hx hb dX2_init_135 (by decide) ?_
      refine lv_iand hx hb dX2_init_138 ?_
      refine lv_bipush (v := 8) hx hb dX2_init_139 (by decide) ?_
      refine lv_iload_n hx hb dX2_init_141 rfl (lv_at hl 0 rfl) ?_
      refine lv_iconst (v := 3) hx hb dX2_init_142 (by decide) ?_
      refine lv_iand hx hb dX2_init_143 ?_
      refine lv_imul hx hb dX2_init_144 ?_
      refine lv_ishl hx hb dX2_init_145 ?_
      refine lv_ior hx hb dX2_init_146 ?_
      refine hc_iast (k := (i / 4 + 8)) hx hb hK hP hD hS 5 0 rfl rfl (by omega) (by decide) dX2_init_147 (fun H locs hP hD hS => ?_)
      have hP : va_P D vwCl [hcOb h 1 [.ref hp, .ref hq, .int 0, .ref hk, .ref hv, ini, bv, .int 0], hcIa D hp 512 P0, hcIa D hq 512 Q0, hcBa D hk 16 K, hcBa D hv 16 V, hcIa D aw 1280 (upd (hcW1 V 8 (hcWa K) i) (i / 4 + 8) (((hcW1 V 8 (hcWa K) i) (i / 4 + 8)) ||| (((V i) &&& 255) <<< ((8 * ((nI i) &&& 3)) &&& 31))))] H := hP
      have hD : va_D A [hcOb h 1 [.ref hp, .ref hq, .int 0, .ref hk, .ref hv, ini, bv, .int 0], hcIa D hp 512 P0, hcIa D hq 512 Q0, hcBa D hk 16 K, hcBa D hv 16 V, hcIa D aw 1280 (upd (hcW1 V 8 (hcWa K) i) (i / 4 + 8) (((hcW1 V 8 (hcWa K) i) (i / 4 + 8)) ||| (((V i) &&& 255) <<< ((8 * ((nI i) &&& 3)) &&& 31))))] := hD
      have hP : va_P D vwCl [hcOb h 1 [.ref hp, .ref hq, .int 0, .ref hk, .ref hv, ini, bv, .int 0], hcIa D hp 512 P0, hcIa D hq 512 Q0, hcBa D hk 16 K, hcBa D hv 16 V, hcIa D aw 1280 (hcW1 V 8 (hcWa K) (i + 1))] H := hP
      have hD : va_D A [hcOb h 1 [.ref hp, .ref hq, .int 0, .ref hk, .ref hv, ini, bv, .int 0], hcIa D hp 512 P0, hcIa D hq 512 Q0, hcBa D hk 16 K, hcBa D hv 16 V, hcIa D aw 1280 (hcW1 V 8 (hcWa K) (i + 1))] := hD
      refine lv_iinc (v := nI (i + 1)) (lv' := [(2, .int (nI (i + 1))), (1, .ref aw), (0, .ref h)]) hx hb dX2_init_148 hl (k := 0) rfl (nI_1 i) (by decide) rfl (fun ls hl => ?_)
      refine lv_goto (tgt := 105) hx hb dX2_init_151 (by decide) ?_
      exact ih (i + 1) H locs ls (by omega) hP hD hS hl kx
  refine L2 _ 16 0 _ _ _ rfl hP hD hS hl ?_
  clear L2 hP hD hS hl
  intro H locs ls hP hD hS hl
  refine lv_aload_n hx hb dX2_init_154 rfl (lv_at hl 1 rfl) ?_
  refine lv_bipush (v := 8) hx hb dX2_init_155 (by decide) ?_
  refine lv_aload_n hx hb dX2_init_157 rfl (lv_at hl 1 rfl) ?_
  refine lv_bipush (v := 12) hx hb dX2_init_158 (by decide) ?_
  refine lv_iconst (v := 4) hx hb dX2_init_160 (by decide) ?_
  refine hc_copy 8 12 4 hx hb (by rw [hml]; exact hl.1.symm) hown (hts _ q227) (hts _ q229) (hts _ q228) (hts _ q15) hK hP hD hS 5 5 0 0 rfl rfl rfl rfl rfl (by decide) (by decide) (by decide) (by decide) (by decide) (fun _ _ => rfl) (Nat.le_of_ble_eq_true rfl) (Nat.le_of_ble_eq_true rfl) dX2_init_161 (fun H locs hP hD hS => ?_)
  have hP : va_P D vwCl [hcOb h 1 [.ref hp, .ref hq, .int 0, .ref hk, .ref hv, ini, bv, .int 0], hcIa D hp 512 P0, hcIa D hq 512 Q0, hcBa D hk 16 K, hcBa D hv 16 V, hcIa D aw 1280 (va_cpy (hcW1 V 8 (hcWa K) 16) (hcW1 V 8 (hcWa K) 16) 8 12 4)] H := hP
  have hD : va_D A [hcOb h 1 [.ref hp, .ref hq, .int 0, .ref hk, .ref hv, ini, bv, .int 0], hcIa D hp 512 P0, hcIa D hq 512 Q0, hcBa D hk 16 K, hcBa D hv 16 V, hcIa D aw 1280 (va_cpy (hcW1 V 8 (hcWa K) 16) (hcW1 V 8 (hcWa K) 16) 8 12 4)] := hD
  have hP : va_P D vwCl [hcOb h 1 [.ref hp, .ref hq, .int 0, .ref hk, .ref hv, ini, bv, .int 0], hcIa D hp 512 P0, hcIa D hq 512 Q0, hcBa D hk 16 K, hcBa D hv 16 V, hcIa D aw 1280 (hcWb K V)] H := hP
  have hD : va_D A [hcOb h 1 [.ref hp, .ref hq, .int 0, .ref hk, .ref hv, ini, bv, .int 0], hcIa D hp 512 P0, hcIa D hq 512 Q0, hcBa D hk 16 K, hcBa D hv 16 V, hcIa D aw 1280 (hcWb K V)] := hD
  refine lv_bipush (v := 16) hx hb dX2_init_164 (by decide) ?_
  refine lv_istore_n (lv' := [(2, .int 16), (1, .ref aw), (0, .ref h)]) hx hb dX2_init_166 rfl hl (by decide) rfl (fun ls hl => ?_)
  have L3 : ∀ (Qx : State → Prop) (d j : Nat) (H : Heap) (locs : List Loc) (ls : Array Slot), j + d = 1264 → va_P D vwCl [hcOb h 1 [.ref hp, .ref hq, .int 0, .ref hk, .ref hv, ini, bv, .int 0], hcIa D hp 512 P0, hcIa D hq 512 Q0, hcBa D hk 16 K, hcBa D hv 16 V, hcIa D aw 1280 (hcW2 (hcWb K V) j)] H → va_D A [hcOb h 1 [.ref hp, .ref hq, .int 0, .ref hk, .ref hv, ini, bv, .int 0], hcIa D hp 512 P0, hcIa D hq 512 Q0, hcBa D hk 16 K, hcBa D hv 16 V, hcIa D aw 1280 (hcW2 (hcWb K V) j)] → va_S A s.heap H locs → lv_has ls 3 [(2, .int (nI (j + 16))), (1, .ref aw), (0, .ref h)] → (∀ (H : Heap) (locs : List Loc) (ls : Array Slot), va_P D vwCl [hcOb h 1 [.ref hp, .ref hq, .int 0, .ref hk, .ref hv, ini, bv, .int 0], hcIa D hp 512 P0, hcIa D hq 512 Q0, hcBa D hk 16 K, hcBa D hv 16 V, hcIa D aw 1280 (hcW2 (hcWb K V) 1264)] H → va_D A [hcOb h 1 [.ref hp, .ref hq, .int 0, .ref hk, .ref hv, ini, bv, .int 0], hcIa D hp 512 P0, hcIa D hq 512 Q0, hcBa D hk 16 K, hcBa D hv 16 V, hcIa D aw 1280 (hcW2 (hcWb K V) 1264)] → va_S A s.heap H locs → lv_has ls 3 [(2, .int (nI (1264 + 16))), (1, .ref aw), (0, .ref h)] → W p l e (hcRm 3 66 1 1280) s m args below meth c H locs 1 1280 Qx (F0 m 217 ls [])) → W p l e (hcRm 3 66 1 1280) s m args below meth c H locs 1 1280 Qx (F0 m 167 ls []) := by
    intro Qx d
    induction d with
    | zero =>
      intro j H locs ls hi hP hD hS hl kx
      obtain rfl : j = 1264 := by omega
      refine lv_iload_n hx hb dX2_init_167 rfl (lv_at hl 0 rfl) ?_
      refine lv_sipush (v := 1280) hx hb dX2_init_168 (by decide) ?_
      refine lv_icmp_ge (tgt := 217) hx hb dX2_init_171 (by decide) (fun _ => ?_) (fun hc => absurd (nI_le (a := 1280) (b := 1280) (Nat.le_refl _) (by omega)) hc)
      exact kx H locs ls hP hD hS hl
    | succ d ih =>
      intro j H locs ls hi hP hD hS hl kx
      have hlt : j < 1264 := by omega
      refine lv_iload_n hx hb dX2_init_167 rfl (lv_at hl 0 rfl) ?_
      refine lv_sipush (v := 1280) hx hb dX2_init_168 (by decide) ?_
      refine lv_icmp_ge (tgt := 217) hx hb dX2_init_171 (by decide) (fun hc => absurd hc (nI_ge (a := j + 16) (b := 1280) (by omega) (by omega))) (fun _ => ?_)
      refine lv_aload_n hx hb dX2_init_174 rfl (lv_at hl 1 rfl) ?_
      refine lv_iload_n hx hb dX2_init_175 rfl (lv_at hl 0 rfl) ?_
      refine lv_aload_n hx hb dX2_init_176 rfl (lv_at hl 1 rfl) ?_
      refine lv_iload_n hx hb dX2_init_177 rfl (lv_at hl 0 rfl) ?_
      refine lv_iconst (v := 2) hx hb dX2_init_178 (by decide) ?_
      refine lv_isub hx hb dX2_init_179 ?_
      refine hc_top (y := nI (j + 14)) (hc_subE rfl) ?_
      refine hc_iald (k := (j + 14)) hx hb hK hP 5 0 rfl rfl (by omega) (by decide) dX2_init_180 ?_
      refine hc_oS (met_f2 l D ((hcW2 (hcWb K V) j) (j + 14))) ⟨hx, hb, hml, hown, hts⟩ (va_cwS 1 hts (lw_S q230 q231 q12 q232) rfl rfl rfl (by decide +kernel) ⟨Nat.le_of_ble_eq_true rfl, Nat.le_of_ble_eq_true rfl⟩) hcBl_no (hc_no _ _) hK hP hD [] (by decide) rfl rfl hl.1 rfl (Nat.le_of_ble_eq_true rfl) dX2_init_181 ⟨Nat.le_of_ble_eq_true rfl, Nat.le_of_ble_eq_true rfl⟩ ?_
      refine lv_aload_n hx hb dX2_init_184 rfl (lv_at hl 1 rfl) ?_
      refine lv_iload_n hx hb dX2_init_185 rfl (lv_at hl 0 rfl) ?_
      refine lv_bipush (v := 7) hx hb dX2_init_186 (by decide) ?_
      refine lv_isub hx hb dX2_init_188 ?_
      refine hc_top (y := nI (j + 9)) (hc_subE rfl) ?_
      refine hc_iald (k := (j + 9)) hx hb hK hP 5 0 rfl rfl (by omega) (by decide) dX2_init_189 ?_
      refine lv_iadd hx hb dX2_init_190 ?_
      refine lv_aload_n hx hb dX2_init_191 rfl (lv_at hl 1 rfl) ?_
      refine lv_iload_n hx hb dX2_init_192 rfl (lv_at hl 0 rfl) ?_
      refine lv_bipush (v := 15) hx hb dX2_init_193 (by decide) ?_
      refine lv_isub hx hb dX2_init_195 ?_
      refine hc_top (y := nI (j + 1)) (hc_subE rfl) ?_
      refine hc_iald (k := (j + 1)) hx hb hK hP 5 0 rfl rfl (by omega) (by decide) dX2_init_196 ?_
      refine hc_oS (met_f1 l D ((hcW2 (hcWb K V) j) (j + 1))) ⟨hx, hb, hml, hown, hts⟩ (va_cwS 1 hts (lw_S q233 q234 q12 q235) rfl rfl rfl (by decide +kernel) ⟨Nat.le_of_ble_eq_true rfl, Nat.le_of_ble_eq_true rfl⟩) hcBl_no (hc_no _ _) hK hP hD [] (by decide) rfl rfl hl.1 rfl (Nat.le_of_ble_eq_true rfl) dX2_init_197 ⟨Nat.le_of_ble_eq_true rfl, Nat.le_of_ble_eq_true rfl⟩ ?_
      refine lv_iadd hx hb dX2_init_200 ?_
      refine lv_aload_n hx hb dX2_init_201 rfl (lv_at hl 1 rfl) ?_
      refine lv_iload_n hx hb dX2_init_202 rfl (lv_at hl 0 rfl) ?_
      refine lv_bipush (v := 16) hx hb dX2_init_203 (by decide) ?_
      refine lv_isub hx hb dX2_init_205 ?_
      refine hc_top (y := nI j) (hc_subE rfl) ?_
      refine hc_iald (k := j) hx hb hK hP 5 0 rfl rfl (by omega) (by decide) dX2_init_206 ?_
      refine lv_iadd hx hb dX2_init_207 ?_
      refine lv_iload_n hx hb dX2_init_208 rfl (lv_at hl 0 rfl) ?_
      refine lv_iadd hx hb dX2_init_209 ?_
      refine hc_iast (k := (j + 16)) hx hb hK hP hD hS 5 0 rfl rfl (by omega) (by decide) dX2_init_210 (fun H locs hP hD hS => ?_)
      have hP : va_P D vwCl [hcOb h 1 [.ref hp, .ref hq, .int 0, .ref hk, .ref hv, ini, bv, .int 0], hcIa D hp 512 P0, hcIa D hq 512 Q0, hcBa D hk 16 K, hcBa D hv 16 V, hcIa D aw 1280 (upd (hcW2 (hcWb K V) j) (j + 16) (((((hcF2 ((hcW2 (hcWb K V) j) (j + 14))) + ((hcW2 (hcWb K V) j) (j + 9))) + (hcF1 ((hcW2 (hcWb K V) j) (j + 1)))) + ((hcW2 (hcWb K V) j) j)) + (nI (j + 16))))] H := hP
      have hD : va_D A [hcOb h 1 [.ref hp, .ref hq, .int 0, .ref hk, .ref hv, ini, bv, .int 0], hcIa D hp 512 P0, hcIa D hq 512 Q0, hcBa D hk 16 K, hcBa D hv 16 V, hcIa D aw 1280 (upd (hcW2 (hcWb K V) j) (j + 16) (((((hcF2 ((hcW2 (hcWb K V) j) (j + 14))) + ((hcW2 (hcWb K V) j) (j + 9))) + (hcF1 ((hcW2 (hcWb K V) j) (j + 1)))) + ((hcW2 (hcWb K V) j) j)) + (nI (j + 16))))] := hD
      have hP : va_P D vwCl [hcOb h 1 [.ref hp, .ref hq, .int 0, .ref hk, .ref hv, ini, bv, .int 0], hcIa D hp 512 P0, hcIa D hq 512 Q0, hcBa D hk 16 K, hcBa D hv 16 V, hcIa D aw 1280 (hcW2 (hcWb K V) (j + 1))] H := hP
      have hD : va_D A [hcOb h 1 [.ref hp, .ref hq, .int 0, .ref hk, .ref hv, ini, bv, .int 0], hcIa D hp 512 P0, hcIa D hq 512 Q0, hcBa D hk 16 K, hcBa D hv 16 V, hcIa D aw 1280 (hcW2 (hcWb K V) (j + 1))] := hD
      refine lv_iinc (v := nI (j + 1 + 16)) (lv' := [(2, .int (nI (j + 1 + 16))), (1, .ref aw), (0, .ref h)]) hx hb dX2_init_211 hl (k := 0) rfl ((nI_1 (j + 16)).trans (congrArg nI (by omega))) (by decide) rfl (fun ls hl => ?_)
      refine lv_goto (tgt := 167) hx hb dX2_init_214 (by decide) ?_
      exact ih (j + 1) H locs ls (by omega) hP hD hS hl kx
  refine L3 _ 1264 0 _ _ _ rfl hP hD hS hl ?_
  clear L3 hP hD hS hl
  intro H locs ls hP hD hS hl
  generalize hWf : hcW2 (hcWb K V) 1264 = Wf at hP hD
  have hP : va_P D vwCl [hcOb h 1 [.ref hp, .ref hq, .int 0, .ref hk, .ref hv, ini, bv, .int 0], hcIa D hp 512 P0, hcIa D hq 512 Q0, hcBa D hk 16 K, hcBa D hv 16 V, hcIa D aw 1280 Wf] H := hP
  have hD : va_D A [hcOb h 1 [.ref hp, .ref hq, .int 0, .ref hk, .ref hv, ini, bv, .int 0], hcIa D hp 512 P0, hcIa D hq 512 Q0, hcBa D hk 16 K, hcBa D hv 16 V, hcIa D aw 1280 Wf] := hD
  refine lv_aload_n hx hb dX2_init_217 rfl (lv_at hl 1 rfl) ?_
  refine lv_sipush (v := 256) hx hb dX2_init_218 (by decide) ?_
  refine lv_aload_n hx hb dX2_init_221 rfl (lv_at hl 2 rfl) ?_
  refine va_get (D := D) (ci := 1) (C := RX2) (T := TX2) (N := 8) hx hb hts in_X2 hown hK hP 0 rfl rfl 0 (by decide) (hts _ q257) (fun _ h9 => h9) rfl dX2_init_222 ?_
  refine lv_iconst (v := 0) hx hb dX2_init_225 (by decide) ?_
  refine lv_sipush (v := 512) hx hb dX2_init_226 (by decide) ?_
  refine hc_copy 256 0 512 hx hb (by rw [hml]; exact hl.1.symm) hown (hts _ q227) (hts _ q229) (hts _ q228) (hts _ q15) hK hP hD hS 5 1 0 0 rfl rfl rfl rfl rfl (by decide) (by decide) (by decide) (by decide) (by decide) (fun _ _ => rfl) (Nat.le_of_ble_eq_true rfl) (Nat.le_of_ble_eq_true rfl) dX2_init_229 (fun H locs hP hD hS => ?_)
  have hP : va_P D vwCl [hcOb h 1 [.ref hp, .ref hq, .int 0, .ref hk, .ref hv, ini, bv, .int 0], hcIa D hp 512 (va_cpy Wf P0 256 0 512), hcIa D hq 512 Q0, hcBa D hk 16 K, hcBa D hv 16 V, hcIa D aw 1280 Wf] H := hP
  have hD : va_D A [hcOb h 1 [.ref hp, .ref hq, .int 0, .ref hk, .ref hv, ini, bv, .int 0], hcIa D hp 512 (va_cpy Wf P0 256 0 512), hcIa D hq 512 Q0, hcBa D hk 16 K, hcBa D hv 16 V, hcIa D aw 1280 Wf] := hD
  have hD := hc_reD hD 1 (fun k => Wf (256 + k)) rfl
  have hP := hc_re hP 1 (fun k => Wf (256 + k)) rfl (fun j hj => pk_cpy_in (Nat.zero_le _) (by omega))
  have hP : va_P D vwCl [hcOb h 1 [.ref hp, .ref hq, .int 0, .ref hk, .ref hv, ini, bv, .int 0], hcIa D hp 512 (fun k => Wf (256 + k)), hcIa D hq 512 Q0, hcBa D hk 16 K, hcBa D hv 16 V, hcIa D aw 1280 Wf] H := hP
  have hD : va_D A [hcOb h 1 [.ref hp, .ref hq, .int 0, .ref hk, .ref hv, ini, bv, .int 0], hcIa D hp 512 (fun k => Wf (256 + k)), hcIa D hq 512 Q0, hcBa D hk 16 K, hcBa D hv 16 V, hcIa D aw 1280 Wf] := hD
  refine lv_aload_n hx hb dX2_init_232 rfl (lv_at hl 1 rfl) ?_
  refine lv_sipush (v := 768) hx hb dX2_init_233 (by decide) ?_
  refine lv_aload_n hx hb dX2_init_236 rfl (lv_at hl 2 rfl) ?_
  refine va_get (D := D) (ci := 1) (C := RX2) (T := TX2) (N := 8) hx hb hts in_X2 hown hK hP 0 rfl rfl 1 (by decide) (hts _ q258) (fun _ h9 => h9) rfl dX2_init_237 ?_
  refine lv_iconst (v := 0) hx hb dX2_init_240 (by decide) ?_
  refine lv_sipush (v := 512) hx hb dX2_init_241 (by decide) ?_
  refine hc_copy 768 0 512 hx hb (by rw [hml]; exact hl.1.symm) hown (hts _ q227) (hts _ q229) (hts _ q228) (hts _ q15) hK hP hD hS 5 2 0 0 rfl rfl rfl rfl rfl (by decide) (by decide) (by decide) (by decide) (by decide) (fun _ _ => rfl) (Nat.le_of_ble_eq_true rfl) (Nat.le_of_ble_eq_true rfl) dX2_init_244 (fun H locs hP hD hS => ?_)
  have hP : va_P D vwCl [hcOb h 1 [.ref hp, .ref hq, .int 0, .ref hk, .ref hv, ini, bv, .int 0], hcIa D hp 512 (fun k => Wf (256 + k)), hcIa D hq 512 (va_cpy Wf Q0 768 0 512), hcBa D hk 16 K, hcBa D hv 16 V, hcIa D aw 1280 Wf] H := hP
  have hD : va_D A [hcOb h 1 [.ref hp, .ref hq, .int 0, .ref hk, .ref hv, ini, bv, .int 0], hcIa D hp 512 (fun k => Wf (256 + k)), hcIa D hq 512 (va_cpy Wf Q0 768 0 512), hcBa D hk 16 K, hcBa D hv 16 V, hcIa D aw 1280 Wf] := hD
  have hD := hc_reD hD 2 (fun k => Wf (768 + k)) rfl
  have hP := hc_re hP 2 (fun k => Wf (768 + k)) rfl (fun j hj => pk_cpy_in (Nat.zero_le _) (by omega))
  have hP : va_P D vwCl [hcOb h 1 [.ref hp, .ref hq, .int 0, .ref hk, .ref hv, ini, bv, .int 0], hcIa D hp 512 (fun k => Wf (256 + k)), hcIa D hq 512 (fun k => Wf (768 + k)), hcBa D hk 16 K, hcBa D hv 16 V, hcIa D aw 1280 Wf] H := hP
  have hD : va_D A [hcOb h 1 [.ref hp, .ref hq, .int 0, .ref hk, .ref hv, ini, bv, .int 0], hcIa D hp 512 (fun k => Wf (256 + k)), hcIa D hq 512 (fun k => Wf (768 + k)), hcBa D hk 16 K, hcBa D hv 16 V, hcIa D aw 1280 Wf] := hD
  refine lv_iconst (v := 0) hx hb dX2_init_247 (by decide) ?_
  refine lv_istore_n (lv' := [(2, .int 0), (1, .ref aw), (0, .ref h)]) hx hb dX2_init_248 rfl hl (by decide) rfl (fun ls hl => ?_)
  have L4 : ∀ (Qx : State → Prop) (d i : Nat) (st : hcS) (H : Heap) (locs : List Loc) (ls : Array Slot), i + d = 512 → st = hcFp Wf i → va_P D vwCl [hcOb h 1 [.ref hp, .ref hq, .int (nI st.2.2), .ref hk, .ref hv, ini, bv, .int 0], hcIa D hp 512 st.1, hcIa D hq 512 st.2.1, hcBa D hk 16 K, hcBa D hv 16 V, hcIa D aw 1280 Wf] H → va_D A [hcOb h 1 [.ref hp, .ref hq, .int (nI st.2.2), .ref hk, .ref hv, ini, bv, .int 0], hcIa D hp 512 st.1, hcIa D hq 512 st.2.1, hcBa D hk 16 K, hcBa D hv 16 V, hcIa D aw 1280 Wf] → va_S A s.heap H locs → lv_has ls 3 [(2, .int (nI i)), (1, .ref aw), (0, .ref h)] → (∀ (st : hcS) (H : Heap) (locs : List Loc) (ls : Array Slot), st = hcFp Wf 512 → va_P D vwCl [hcOb h 1 [.ref hp, .ref hq, .int (nI st.2.2), .ref hk, .ref hv, ini, bv, .int 0], hcIa D hp 512 st.1, hcIa D hq 512 st.2.1, hcBa D hk 16 K, hcBa D hv 16 V, hcIa D aw 1280 Wf] H → va_D A [hcOb h 1 [.ref hp, .ref hq, .int (nI st.2.2), .ref hk, .ref hv, ini, bv, .int 0], hcIa D hp 512 st.1, hcIa D hq 512 st.2.1, hcBa D hk 16 K, hcBa D hv 16 V, hcIa D aw 1280 Wf] → va_S A s.heap H locs → lv_has ls 3 [(2, .int (nI 512)), (1, .ref aw), (0, .ref h)] → W p l e (hcRm 3 66 1 1280) s m args below meth c H locs 1 1280 Qx (F0 m 272 ls [])) → W p l e (hcRm 3 66 1 1280) s m args below meth c H locs 1 1280 Qx (F0 m 249 ls []) := by
    intro Qx d
    induction d with
    | zero =>
      intro i st H locs ls hi hst hP hD hS hl kx
      obtain rfl : i = 512 := by omega
      refine lv_iload_n hx hb dX2_init_249 rfl (lv_at hl 0 rfl) ?_
      refine lv_sipush (v := 512) hx hb dX2_init_250 (by decide) ?_
      refine lv_icmp_ge (tgt := 272) hx hb dX2_init_253 (by decide) (fun _ => ?_) (fun hc => absurd (nI_le (a := 512) (b := 512) (Nat.le_refl _) (by omega)) hc)
      exact kx st H locs ls hst hP hD hS hl
    | succ d ih =>
      intro i st H locs ls hi hst hP hD hS hl kx
      have hlt : i < 512 := by omega
      refine lv_iload_n hx hb dX2_init_249 rfl (lv_at hl 0 rfl) ?_
      refine lv_sipush (v := 512) hx hb dX2_init_250 (by decide) ?_
      refine lv_icmp_ge (tgt := 272) hx hb dX2_init_253 (by decide) (fun hc => absurd hc (nI_ge (a := i) (b := 512) hlt (by omega))) (fun _ => ?_)
      refine lv_aload_n hx hb dX2_init_256 rfl (lv_at hl 2 rfl) ?_
      refine va_get (D := D) (ci := 1) (C := RX2) (T := TX2) (N := 8) hx hb hts in_X2 hown hK hP 0 rfl rfl 0 (by decide) (hts _ q257) (fun _ h9 => h9) rfl dX2_init_257 ?_
      refine lv_iload_n hx hb dX2_init_260 rfl (lv_at hl 0 rfl) ?_
      refine lv_aload_n hx hb dX2_init_261 rfl (lv_at hl 2 rfl) ?_
      have hc := show st.2.2 < 1024 by rw [hst, hcFp_c _ _ (by omega)]; omega
      refine hc_iV (wr := [hcBa D hk 16 K, hcBa D hv 16 V, hcIa D aw 1280 Wf]) (met_step l D h hp hq (.ref hk) (.ref hv) ini bv (.int 0) st hc) ⟨hx, hb, hml, hown, hts⟩ (cwV 0 hts (lw_V q155 q157 qs4 q12 q158) rfl rfl rfl (by decide +kernel) ⟨Nat.le_of_ble_eq_true rfl, Nat.le_of_ble_eq_true rfl⟩) hcBl_no (hc_no _ _) hK hP hD hS hA [0, 1, 2] [3, 4, 5] (by decide) rfl rfl (by decide) (by decide) 0 (ci := 1) rfl rfl rfl rfl hl.1 rfl (Nat.le_of_ble_eq_true rfl) dX2_init_262 ⟨Nat.le_of_ble_eq_true rfl, Nat.le_of_ble_eq_true rfl⟩ (fun r _ H locs hw hP hD hS => ?_)
      have hP : va_P D vwCl [hcBa D hk 16 K, hcBa D hv 16 V, hcIa D aw 1280 Wf, hcOb h 1 [.ref hp, .ref hq, .int (nI (hcNx st).2.2), .ref hk, .ref hv, ini, bv, .int 0], hcIa D hp 512 (hcNx st).1, hcIa D hq 512 (hcNx st).2.1] H := hP
      have hD : va_D A [hcBa D hk 16 K, hcBa D hv 16 V, hcIa D aw 1280 Wf, hcOb h 1 [.ref hp, .ref hq, .int (nI (hcNx st).2.2), .ref hk, .ref hv, ini, bv, .int 0], hcIa D hp 512 (hcNx st).1, hcIa D hq 512 (hcNx st).2.1] := hD
      have hP : va_P D vwCl [hcOb h 1 [.ref hp, .ref hq, .int (nI (hcNx st).2.2), .ref hk, .ref hv, ini, bv, .int 0], hcIa D hp 512 (hcNx st).1, hcIa D hq 512 (hcNx st).2.1, hcBa D hk 16 K, hcBa D hv 16 V, hcIa D aw 1280 Wf] H := hc_psub hP [3, 4, 5, 0, 1, 2] rfl
      have hD : va_D A [hcOb h 1 [.ref hp, .ref hq, .int (nI (hcNx st).2.2), .ref hk, .ref hv, ini, bv, .int 0], hcIa D hp 512 (hcNx st).1, hcIa D hq 512 (hcNx st).2.1, hcBa D hk 16 K, hcBa D hv 16 V, hcIa D aw 1280 Wf] := hD.sub [3, 4, 5, 0, 1, 2] (by decide) rfl
      subst hw
      refine hc_iast (k := i) hx hb hK hP hD hS 1 0 rfl rfl (hlt) (by decide) dX2_init_265 (fun H locs hP hD hS => ?_)
      have hP : va_P D vwCl [hcOb h 1 [.ref hp, .ref hq, .int (nI (hcNx st).2.2), .ref hk, .ref hv, ini, bv, .int 0], hcIa D hp 512 (upd ((hcNx st).1) i (hcOw st)), hcIa D hq 512 (hcNx st).2.1, hcBa D hk 16 K, hcBa D hv 16 V, hcIa D aw 1280 Wf] H := hP
      have hD : va_D A [hcOb h 1 [.ref hp, .ref hq, .int (nI (hcNx st).2.2), .ref hk, .ref hv, ini, bv, .int 0], hcIa D hp 512 (upd ((hcNx st).1) i (hcOw st)), hcIa D hq 512 (hcNx st).2.1, hcBa D hk 16 K, hcBa D hv 16 V, hcIa D aw 1280 Wf] := hD
      refine lv_iinc (v := nI (i + 1)) (lv' := [(2, .int (nI (i + 1))), (1, .ref aw), (0, .ref h)]) hx hb dX2_init_266 hl (k := 0) rfl (nI_1 i) (by decide) rfl (fun ls hl => ?_)
      refine lv_goto (tgt := 249) hx hb dX2_init_269 (by decide) ?_
      exact ih (i + 1) (upd (hcNx st).1 i (hcOw st), (hcNx st).2.1, (hcNx st).2.2) H locs ls (by omega) (by rw [hst]; rfl) hP hD hS hl kx
  refine L4 _ 512 0 (hcFp Wf 0) _ _ _ rfl rfl hP hD hS hl ?_
  clear L4 hP hD hS hl
  intro st4 H locs ls hst4 hP hD hS hl
  refine lv_iconst (v := 0) hx hb dX2_init_272 (by decide) ?_
  refine lv_istore_n (lv' := [(2, .int 0), (1, .ref aw), (0, .ref h)]) hx hb dX2_init_273 rfl hl (by decide) rfl (fun ls hl => ?_)
  have hst4c : st4.2.2 < 1024 := by rw [hst4, hcFp_c _ _ (by omega)]; omega
  have L5 : ∀ (Qx : State → Prop) (d i : Nat) (st : hcS) (H : Heap) (locs : List Loc) (ls : Array Slot), i + d = 512 → st = hcFq st4 i → va_P D vwCl [hcOb h 1 [.ref hp, .ref hq, .int (nI st.2.2), .ref hk, .ref hv, ini, bv, .int 0], hcIa D hp 512 st.1, hcIa D hq 512 st.2.1, hcBa D hk 16 K, hcBa D hv 16 V, hcIa D aw 1280 Wf] H → va_D A [hcOb h 1 [.ref hp, .ref hq, .int (nI st.2.2), .ref hk, .ref hv, ini, bv, .int 0], hcIa D hp 512 st.1, hcIa D hq 512 st.2.1, hcBa D hk 16 K, hcBa D hv 16 V, hcIa D aw 1280 Wf] → va_S A s.heap H locs → lv_has ls 3 [(2, .int (nI i)), (1, .ref aw), (0, .ref h)] → (∀ (st : hcS) (H : Heap) (locs : List Loc) (ls : Array Slot), st = hcFq st4 512 → va_P D vwCl [hcOb h 1 [.ref hp, .ref hq, .int (nI st.2.2), .ref hk, .ref hv, ini, bv, .int 0], hcIa D hp 512 st.1, hcIa D hq 512 st.2.1, hcBa D hk 16 K, hcBa D hv 16 V, hcIa D aw 1280 Wf] H → va_D A [hcOb h 1 [.ref hp, .ref hq, .int (nI st.2.2), .ref hk, .ref hv, ini, bv, .int 0], hcIa D hp 512 st.1, hcIa D hq 512 st.2.1, hcBa D hk 16 K, hcBa D hv 16 V, hcIa D aw 1280 Wf] → va_S A s.heap H locs → lv_has ls 3 [(2, .int (nI 512)), (1, .ref aw), (0, .ref h)] → W p l e (hcRm 3 66 1 1280) s m args below meth c H locs 1 1280 Qx (F0 m 297 ls [])) → W p l e (hcRm 3 66 1 1280) s m args below meth c H locs 1 1280 Qx (F0 m 274 ls []) := by
    intro Qx d
    induction d with
    | zero =>
      intro i st H locs ls hi hst hP hD hS hl kx
      obtain rfl : i = 512 := by omega
      refine lv_iload_n hx hb dX2_init_274 rfl (lv_at hl 0 rfl) ?_
      refine lv_sipush (v := 512) hx hb dX2_init_275 (by decide) ?_
      refine lv_icmp_ge (tgt := 297) hx hb dX2_init_278 (by decide) (fun _ => ?_) (fun hc => absurd (nI_le (a := 512) (b := 512) (Nat.le_refl _) (by omega)) hc)
      exact kx st H locs ls hst hP hD hS hl
    | succ d ih =>
      intro i st H locs ls hi hst hP hD hS hl kx
      have hlt : i < 512 := by omega
      refine lv_iload_n hx hb dX2_init_274 rfl (lv_at hl 0 rfl) ?_
      refine lv_sipush (v := 512) hx hb dX2_init_275 (by decide) ?_
      refine lv_icmp_ge (tgt := 297) hx hb dX2_init_278 (by decide) (fun hc => absurd hc (nI_ge (a := i) (b := 512) hlt (by omega))) (fun _ => ?_)
      refine lv_aload_n hx hb dX2_init_281 rfl (lv_at hl 2 rfl) ?_
      refine va_get (D := D) (ci := 1) (C := RX2) (T := TX2) (N := 8) hx hb hts in_X2 hown hK hP 0 rfl rfl 1 (by decide) (hts _ q258) (fun _ h9 => h9) rfl dX2_init_282 ?_
      refine lv_iload_n hx hb dX2_init_285 rfl (lv_at hl 0 rfl) ?_
      refine lv_aload_n hx hb dX2_init_286 rfl (lv_at hl 2 rfl) ?_
      have hc := show st.2.2 < 1024 by rw [hst]; exact hcFq_lt _ hst4c _
      refine hc_iV (wr := [hcBa D hk 16 K, hcBa D hv 16 V, hcIa D aw 1280 Wf]) (met_step l D h hp hq (.ref hk) (.ref hv) ini bv (.int 0) st hc) ⟨hx, hb, hml, hown, hts⟩ (cwV 0 hts (lw_V q155 q157 qs4 q12 q158) rfl rfl rfl (by decide +kernel) ⟨Nat.le_of_ble_eq_true rfl, Nat.le_of_ble_eq_true rfl⟩) hcBl_no (hc_no _ _) hK hP hD hS hA [0, 1, 2] [3, 4, 5] (by decide) rfl rfl (by decide) (by decide) 0 (ci := 1) rfl rfl rfl rfl hl.1 rfl (Nat.le_of_ble_eq_true rfl) dX2_init_287 ⟨Nat.le_of_ble_eq_true rfl, Nat.le_of_ble_eq_true rfl⟩ (fun r _ H locs hw hP hD hS => ?_)
      have hP : va_P D vwCl [hcBa D hk 16 K, hcBa D hv 16 V, hcIa D aw 1280 Wf, hcOb h 1 [.ref hp, .ref hq, .int (nI (hcNx st).2.2), .ref hk, .ref hv, ini, bv, .int 0], hcIa D hp 512 (hcNx st).1, hcIa D hq 512 (hcNx st).2.1] H := hP
      have hD : va_D A [hcBa D hk 16 K, hcBa D hv 16 V, hcIa D aw 1280 Wf, hcOb h 1 [.ref hp, .ref hq, .int (nI (hcNx st).2.2), .ref hk, .ref hv, ini, bv, .int 0], hcIa D hp 512 (hcNx st).1, hcIa D hq 512 (hcNx st).2.1] := hD
      have hP : va_P D vwCl [hcOb h 1 [.ref hp, .ref hq, .int (nI (hcNx st).2.2), .ref hk, .ref hv, ini, bv, .int 0], hcIa D hp 512 (hcNx st).1, hcIa D hq 512 (hcNx st).2.1, hcBa D hk 16 K, hcBa D hv 16 V, hcIa D aw 1280 Wf] H := hc_psub hP [3, 4, 5, 0, 1, 2] rfl
      have hD : va_D A [hcOb h 1 [.ref hp, .ref hq, .int (nI (hcNx st).2.2), .ref hk, .ref hv, ini, bv, .int 0], hcIa D hp 512 (hcNx st).1, hcIa D hq 512 (hcNx st).2.1, hcBa D hk 16 K, hcBa D hv 16 V, hcIa D aw 1280 Wf] := hD.sub [3, 4, 5, 0, 1, 2] (by decide) rfl
      subst hw
      refine hc_iast (k := i) hx hb hK hP hD hS 2 0 rfl rfl (hlt) (by decide) dX2_init_290 (fun H locs hP hD hS => ?_)
      have hP : va_P D vwCl [hcOb h 1 [.ref hp, .ref hq, .int (nI (hcNx st).2.2), .ref hk, .ref hv, ini, bv, .int 0], hcIa D hp 512 (hcNx st).1, hcIa D hq 512 (upd ((hcNx st).2.1) i (hcOw st)), hcBa D hk 16 K, hcBa D hv 16 V, hcIa D aw 1280 Wf] H := hP
      have hD : va_D A [hcOb h 1 [.ref hp, .ref hq, .int (nI (hcNx st).2.2), .ref hk, .ref hv, ini, bv, .int 0], hcIa D hp 512 (hcNx st).1, hcIa D hq 512 (upd ((hcNx st).2.1) i (hcOw st)), hcBa D hk 16 K, hcBa D hv 16 V, hcIa D aw 1280 Wf] := hD
      refine lv_iinc (v := nI (i + 1)) (lv' := [(2, .int (nI (i + 1))), (1, .ref aw), (0, .ref h)]) hx hb dX2_init_291 hl (k := 0) rfl (nI_1 i) (by decide) rfl (fun ls hl => ?_)
      refine lv_goto (tgt := 274) hx hb dX2_init_294 (by decide) ?_
      exact ih (i + 1) ((hcNx st).1, upd (hcNx st).2.1 i (hcOw st), (hcNx st).2.2) H locs ls (by omega) (by rw [hst]; rfl) hP hD hS hl kx
  refine L5 _ 512 0 st4 _ _ _ rfl rfl hP hD hS hl ?_
  clear L5 hP hD hS hl
  intro st5 H locs ls hst5 hP hD hS hl
  refine lv_aload_n hx hb dX2_init_297 rfl (lv_at hl 2 rfl) ?_
  refine lv_iconst (v := 0) hx hb dX2_init_298 (by decide) ?_
  refine va_put (D := D) (ci := 1) (v := .int 0) (ty := .int) (C := RX2) (T := TX2) (N := 8) hx hb hts in_X2 tyX2 tyX2_ok nmX2 hown hK hP hD hS 0 rfl rfl 2 (by decide) (hts _ q259) (fun _ h9 => h9) rfl (by decide +kernel) rfl rfl (Nat.le_of_ble_eq_true rfl) dX2_init_299 (fun H locs hP hD hS => ?_)
  have hP : va_P D vwCl [hcOb h 1 [.ref hp, .ref hq, .int 0, .ref hk, .ref hv, ini, bv, .int 0], hcIa D hp 512 st5.1, hcIa D hq 512 st5.2.1, hcBa D hk 16 K, hcBa D hv 16 V, hcIa D aw 1280 Wf] H := hP
  have hD : va_D A [hcOb h 1 [.ref hp, .ref hq, .int 0, .ref hk, .ref hv, ini, bv, .int 0], hcIa D hp 512 st5.1, hcIa D hq 512 st5.2.1, hcBa D hk 16 K, hcBa D hv 16 V, hcIa D aw 1280 Wf] := hD
  have e5 : hcFf K V = st5 := by rw [hst5, hst4, ← hWf]; rfl
  have e0 : s0 = (st5.1, st5.2.1, 0) := hs0.trans (hcI0_e e5)
  have e1 : st5.1 = s0.1 := by rw [e0]
  have e2 : st5.2.1 = s0.2.1 := by rw [e0]
  rw [e1, e2] at hP hD
  exact hc_vret (()) hx hb hr hlk (trivial) hP hD [0, 1, 2, 3, 4] (by decide) rfl hS (Nat.le_of_ble_eq_true rfl) (Nat.le_of_ble_eq_true rfl) dX2_init_302
end
section
/-! HC128Engine: what its callers see -/
theorem hcKs_nar (σ : Nat → hcS) (n : Nat) : narrow .byte (.int (hcKs σ n)) = .int (hcKs σ n) := pk_nb _
theorem hcKs_fit (σ : Nat → hcS) (n : Nat) : fits .byte (.int (hcKs σ n)) = true := pk_fb _
/-- the four bytes of a word, put into the buffer one by one -/
theorem hc_buf (B : Nat → Int32) (z : Int32) : ∀ j, j < 4 → upd (upd (upd (upd B 0 (hcBy z 0)) 1 (hcBy z 1)) 2 (hcBy z 2)) 3 (hcBy z 3) j = hcBy z j := by
  intro j hj
  rcases (show j = 0 ∨ j = 1 ∨ j = 2 ∨ j = 3 by omega) with rfl | rfl | rfl | rfl <;> rfl
def hcXo (σ : Nat → hcS) (T : Nat → Int32) (f n : Nat) (j : Nat) : Int32 := (T (f + j) ^^^ hcKs σ (n + j)).toInt8.toInt32
set_option maxHeartbeats 4000000 in
set_option maxRecDepth 100000 in
/-- reset() -/
theorem met_reset (l : Launch) (D : va_G) (h hp hq hk hv : Nat) (ini bv : Value) (c0 x0 : Int32) (P0 Q0 K V : Nat → Int32) (s0 : hcS) (hs0 : s0 = hcI0 K V) : HcV l yX2_reset cX2_reset 1 4 88 1 1280 D hcNo [.ref h] [hcOb h 1 [.ref hp, .ref hq, .int c0, .ref hk, .ref hv, ini, bv, .int x0], hcIa D hp 512 P0, hcIa D hq 512 Q0, hcBa D hk 16 K, hcBa D hv 16 V] (fun _ : Unit => True) (fun _ => [hcOb h 1 [.ref hp, .ref hq, .int 0, .ref hk, .ref hv, ini, bv, .int 0], hcIa D hp 512 s0.1, hcIa D hq 512 s0.2.1, hcBa D hk 16 K, hcBa D hv 16 V]) := by
  refine hc_inV (by decide) (Nat.le_of_ble_eq_true rfl) ?_
  intro p e s m args below meth c ls A hx hb hr hlk hml hown hts hnm hP hK hD hE hA hAn hS hl
  have hown : s.vm.findClass RX2 = some m.cls := hown
  have hl : lv_has ls 1 [(0, .ref h)] := hl
  have hP : va_P D vwCl [hcOb h 1 [.ref hp, .ref hq, .int c0, .ref hk, .ref hv, ini, bv, .int x0], hcIa D hp 512 P0, hcIa D hq 512 Q0, hcBa D hk 16 K, hcBa D hv 16 V] s.heap := hP
  have hD : va_D A [hcOb h 1 [.ref hp, .ref hq, .int c0, .ref hk, .ref hv, ini, bv, .int x0], hcIa D hp 512 P0, hcIa D hq 512 Q0, hcBa D hk 16 K, hcBa D hv 16 V] := hD
  refine lv_aload_n hx hb dX2_reset_0 rfl (lv_at hl 0 rfl) ?_
  refine hc_vV (wr := []) (met_init l D h hp hq hk hv ini bv c0 x0 P0 Q0 K V s0 hs0) ⟨hx, hb, hml, hown, hts⟩ (cwV 0 hts (lw_V q206 q208 qs9 q12 q209) rfl rfl rfl (by decide +kernel) ⟨Nat.le_of_ble_eq_true rfl, Nat.le_of_ble_eq_true rfl⟩) hcBl_no (hc_no _ _) hK hP hD hS hA [0, 1, 2, 3, 4] [] (by decide) rfl rfl (by decide) (by decide) 0 (ci := 1) rfl rfl rfl rfl hl.1 rfl (Nat.le_of_ble_eq_true rfl) dX2_reset_1 ⟨Nat.le_of_ble_eq_true rfl, Nat.le_of_ble_eq_true rfl⟩ (fun _ H locs hw hP hD hS => ?_)
  have hP : va_P D vwCl [hcOb h 1 [.ref hp, .ref hq, .int 0, .ref hk, .ref hv, ini, bv, .int 0], hcIa D hp 512 s0.1, hcIa D hq 512 s0.2.1, hcBa D hk 16 K, hcBa D hv 16 V] H := hP
  have hD : va_D A [hcOb h 1 [.ref hp, .ref hq, .int 0, .ref hk, .ref hv, ini, bv, .int 0], hcIa D hp 512 s0.1, hcIa D hq 512 s0.2.1, hcBa D hk 16 K, hcBa D hv 16 V] := hD
  exact hc_vret (()) hx hb hr hlk (trivial) hP hD [0, 1, 2, 3, 4] (by decide) rfl hS (Nat.le_of_ble_eq_true rfl) (Nat.le_of_ble_eq_true rfl) dX2_reset_4
set_option maxHeartbeats 4000000 in
set_option maxRecDepth 100000 in
/-- init(boolean, CipherParameters), of a ParametersWithIV over a KeyParameter -/
theorem met_initP (l : Launch) (D : va_G) (h hp hq aw ak hk hv : Nat) (bv kv vv : Value) (c0 x0 : Int32) (P0 Q0 K V : Nat → Int32) (s0 : hcS) (hs0 : s0 = hcI0 K V) : HcV l yX2_init_3 cX2_init_3 4 4 88 1 1280 D hcNo [.ref h, .int 1, .ref aw] [hcOb h 1 [.ref hp, .ref hq, .int c0, kv, vv, .int 0, bv, .int x0], hcIa D hp 512 P0, hcIa D hq 512 Q0, hcOb aw 2 [.ref hv, .ref ak], hcOb ak 3 [.ref hk], hcBa D hk 16 K, hcBa D hv 16 V] (fun _ : Unit => True) (fun _ => [hcOb h 1 [.ref hp, .ref hq, .int 0, .ref hk, .ref hv, .int 1, bv, .int 0], hcIa D hp 512 s0.1, hcIa D hq 512 s0.2.1, hcBa D hk 16 K, hcBa D hv 16 V]) := by
  refine hc_inV (by decide) (Nat.le_of_ble_eq_true rfl) ?_
  intro p e s m args below meth c ls A hx hb hr hlk hml hown hts hnm hP hK hD hE hA hAn hS hl
  have hown : s.vm.findClass RX2 = some m.cls := hown
  have hl : lv_has ls 4 [(0, .ref h), (1, .int 1), (2, .ref aw)] := hl
  have hP : va_P D vwCl [hcOb h 1 [.ref hp, .ref hq, .int c0, kv, vv, .int 0, bv, .int x0], hcIa D hp 512 P0, hcIa D hq 512 Q0, hcOb aw 2 [.ref hv, .ref ak], hcOb ak 3 [.ref hk], hcBa D hk 16 K, hcBa D hv 16 V] s.heap := hP
  have hD : va_D A [hcOb h 1 [.ref hp, .ref hq, .int c0, kv, vv, .int 0, bv, .int x0], hcIa D hp 512 P0, hcIa D hq 512 Q0, hcOb aw 2 [.ref hv, .ref ak], hcOb ak 3 [.ref hk], hcBa D hk 16 K, hcBa D hv 16 V] := hD
  refine lv_aload_n hx hb dX2_init_3_0 rfl (lv_at hl 2 rfl) ?_
  refine va_instS (nm := RX3) hx hb hown (hts _ q368) (hK.1 2 _ rfl).2 (va_recv hK hP (ci := 2) (q0 := 3) rfl rfl) dX2_init_3_1 ?_
  refine lv_if_eq (tgt := 29) hx hb dX2_init_3_4 (by decide) (fun hc => absurd hc (by decide)) (fun _ => ?_)
  refine lv_aload_n hx hb dX2_init_3_7 rfl (lv_at hl 0 rfl) ?_
  refine lv_aload_n hx hb dX2_init_3_8 rfl (lv_at hl 2 rfl) ?_
  refine va_castS (nm := RX3) hx hb hown (hts _ q368) (hK.1 2 _ rfl).2 (va_recv hK hP (ci := 2) (q0 := 3) rfl rfl) dX2_init_3_9 ?_
  refine hc_oV (met_V3 l D aw ak hv) ⟨hx, hb, hml, hown, hts⟩ (cwV 0 hts (lw_V q369 q370 q371 q13 q372) rfl rfl rfl (by decide +kernel) ⟨Nat.le_of_ble_eq_true rfl, Nat.le_of_ble_eq_true rfl⟩) hcBl_no (hc_no _ _) hK hP hD [3] (by decide) rfl 3 (ci := 2) rfl rfl rfl rfl hl.1 rfl (Nat.le_of_ble_eq_true rfl) dX2_init_3_12 ⟨Nat.le_of_ble_eq_true rfl, Nat.le_of_ble_eq_true rfl⟩ ?_
  refine va_put (D := D) (ci := 1) (v := .ref hv) (ty := .array .byte) (C := RX2) (T := TX2) (N := 8) hx hb hts in_X2 tyX2 tyX2_ok nmX2 hown hK hP hD hS 0 rfl rfl 4 (by decide) (hts _ q261) (fun _ h9 => h9) rfl (by decide +kernel) rfl rfl (Nat.le_of_ble_eq_true rfl) dX2_init_3_15 (fun H locs hP hD hS => ?_)
  have hP : va_P D vwCl [hcOb h 1 [.ref hp, .ref hq, .int c0, kv, .ref hv, .int 0, bv, .int x0], hcIa D hp 512 P0, hcIa D hq 512 Q0, hcOb aw 2 [.ref hv, .ref ak], hcOb ak 3 [.ref hk], hcBa D hk 16 K, hcBa D hv 16 V] H := hP
  have hD : va_D A [hcOb h 1 [.ref hp, .ref hq, .int c0, kv, .ref hv, .int 0, bv, .int x0], hcIa D hp 512 P0, hcIa D hq 512 Q0, hcOb aw 2 [.ref hv, .ref ak], hcOb ak 3 [.ref hk], hcBa D hk 16 K, hcBa D hv 16 V] := hD
  refine lv_aload_n hx hb dX2_init_3_18 rfl (lv_at hl 2 rfl) ?_
  refine va_castS (nm := RX3) hx hb hown (hts _ q368) (hK.1 2 _ rfl).2 (va_recv hK hP (ci := 2) (q0 := 3) rfl rfl) dX2_init_3_19 ?_
  refine hc_oV (met_V4 l D aw ak hv) ⟨hx, hb, hml, hown, hts⟩ (cwV 0 hts (lw_V q373 q374 q375 q13 q376) rfl rfl rfl (by decide +kernel) ⟨Nat.le_of_ble_eq_true rfl, Nat.le_of_ble_eq_true rfl⟩) hcBl_no (hc_no _ _) hK hP hD [3] (by decide) rfl 3 (ci := 2) rfl rfl rfl rfl hl.1 rfl (Nat.le_of_ble_eq_true rfl) dX2_init_3_22 ⟨Nat.le_of_ble_eq_true rfl, Nat.le_of_ble_eq_true rfl⟩ ?_
  refine lv_astore_n (lv' := [(3, .ref ak), (0, .ref h), (1, .int 1), (2, .ref aw)]) hx hb dX2_init_3_25 rfl hl (by decide) rfl (fun ls hl => ?_)
  refine lv_goto (tgt := 39) hx hb dX2_init_3_26 (by decide) ?_
  refine lv_aload_n hx hb dX2_init_3_39 rfl (lv_at hl 0 rfl) ?_
  refine va_instS (nm := RX4) hx hb hown (hts _ q378) (hK.1 3 _ rfl).2 (va_recv hK hP (ci := 3) (q0 := 4) rfl rfl) dX2_init_3_40 ?_
  refine lv_if_eq (tgt := 64) hx hb dX2_init_3_43 (by decide) (fun hc => absurd hc (by decide)) (fun _ => ?_)
  refine lv_aload_n hx hb dX2_init_3_46 rfl (lv_at hl 1 rfl) ?_
  refine lv_aload_n hx hb dX2_init_3_47 rfl (lv_at hl 0 rfl) ?_
  refine va_castS (nm := RX4) hx hb hown (hts _ q378) (hK.1 3 _ rfl).2 (va_recv hK hP (ci := 3) (q0 := 4) rfl rfl) dX2_init_3_48 ?_
  refine hc_oV (met_K4 l D ak hk) ⟨hx, hb, hml, hown, hts⟩ (cwV 0 hts (lw_V q379 q380 q381 q14 q382) rfl rfl rfl (by decide +kernel) ⟨Nat.le_of_ble_eq_true rfl, Nat.le_of_ble_eq_true rfl⟩) hcBl_no (hc_no _ _) hK hP hD [4] (by decide) rfl 4 (ci := 3) rfl rfl rfl rfl hl.1 rfl (Nat.le_of_ble_eq_true rfl) dX2_init_3_51 ⟨Nat.le_of_ble_eq_true rfl, Nat.le_of_ble_eq_true rfl⟩ ?_
  refine va_put (D := D) (ci := 1) (v := .ref hk) (ty := .array .byte) (C := RX2) (T := TX2) (N := 8) hx hb hts in_X2 tyX2 tyX2_ok nmX2 hown hK hP hD hS 0 rfl rfl 3 (by decide) (hts _ q260) (fun _ h9 => h9) rfl (by decide +kernel) rfl rfl (Nat.le_of_ble_eq_true rfl) dX2_init_3_54 (fun H locs hP hD hS => ?_)
  have hP : va_P D vwCl [hcOb h 1 [.ref hp, .ref hq, .int c0, .ref hk, .ref hv, .int 0, bv, .int x0], hcIa D hp 512 P0, hcIa D hq 512 Q0, hcOb aw 2 [.ref hv, .ref ak], hcOb ak 3 [.ref hk], hcBa D hk 16 K, hcBa D hv 16 V] H := hP
  have hD : va_D A [hcOb h 1 [.ref hp, .ref hq, .int c0, .ref hk, .ref hv, .int 0, bv, .int x0], hcIa D hp 512 P0, hcIa D hq 512 Q0, hcOb aw 2 [.ref hv, .ref ak], hcOb ak 3 [.ref hk], hcBa D hk 16 K, hcBa D hv 16 V] := hD
  refine lv_aload_n hx hb dX2_init_3_57 rfl (lv_at hl 1 rfl) ?_
  refine hc_vV (wr := [hcOb aw 2 [.ref hv, .ref ak], hcOb ak 3 [.ref hk]]) (met_init l D h hp hq hk hv (.int 0) bv c0 x0 P0 Q0 K V s0 hs0) ⟨hx, hb, hml, hown, hts⟩ (cwV 0 hts (lw_V q206 q208 qs9 q12 q209) rfl rfl rfl (by decide +kernel) ⟨Nat.le_of_ble_eq_true rfl, Nat.le_of_ble_eq_true rfl⟩) hcBl_no (hc_no _ _) hK hP hD hS hA [0, 1, 2, 5, 6] [3, 4] (by decide) rfl rfl (by decide) (by decide) 0 (ci := 1) rfl rfl rfl rfl hl.1 rfl (Nat.le_of_ble_eq_true rfl) dX2_init_3_58 ⟨Nat.le_of_ble_eq_true rfl, Nat.le_of_ble_eq_true rfl⟩ (fun _ H locs hw hP hD hS => ?_)
  have hP : va_P D vwCl [hcOb aw 2 [.ref hv, .ref ak], hcOb ak 3 [.ref hk], hcOb h 1 [.ref hp, .ref hq, .int 0, .ref hk, .ref hv, .int 0, bv, .int 0], hcIa D hp 512 s0.1, hcIa D hq 512 s0.2.1, hcBa D hk 16 K, hcBa D hv 16 V] H := hP
  have hD : va_D A [hcOb aw 2 [.ref hv, .ref ak], hcOb ak 3 [.ref hk], hcOb h 1 [.ref hp, .ref hq, .int 0, .ref hk, .ref hv, .int 0, bv, .int 0], hcIa D hp 512 s0.1, hcIa D hq 512 s0.2.1, hcBa D hk 16 K, hcBa D hv 16 V] := hD
  refine lv_goto (tgt := 74) hx hb dX2_init_3_61 (by decide) ?_
  refine lv_aload_n hx hb dX2_init_3_74 rfl (lv_at hl 1 rfl) ?_
  refine lv_iconst (v := 1) hx hb dX2_init_3_75 (by decide) ?_
  refine va_put (D := D) (ci := 1) (v := .int 1) (ty := .boolean) (C := RX2) (T := TX2) (N := 8) hx hb hts in_X2 tyX2 tyX2_ok nmX2 hown hK hP hD hS 2 rfl rfl 5 (by decide) (hts _ q262) (fun _ h9 => h9) rfl (by decide +kernel) rfl rfl (Nat.le_of_ble_eq_true rfl) dX2_init_3_76 (fun H locs hP hD hS => ?_)
  have hP : va_P D vwCl [hcOb aw 2 [.ref hv, .ref ak], hcOb ak 3 [.ref hk], hcOb h 1 [.ref hp, .ref hq, .int 0, .ref hk, .ref hv, .int 1, bv, .int 0], hcIa D hp 512 s0.1, hcIa D hq 512 s0.2.1, hcBa D hk 16 K, hcBa D hv 16 V] H := hP
  have hD : va_D A [hcOb aw 2 [.ref hv, .ref ak], hcOb ak 3 [.ref hk], hcOb h 1 [.ref hp, .ref hq, .int 0, .ref hk, .ref hv, .int 1, bv, .int 0], hcIa D hp 512 s0.1, hcIa D hq 512 s0.2.1, hcBa D hk 16 K, hcBa D hv 16 V] := hD
  exact hc_vret (()) hx hb hr hlk (trivial) hP hD [2, 3, 4, 5, 6] (by decide) rfl hS (Nat.le_of_ble_eq_true rfl) (Nat.le_of_ble_eq_true rfl) dX2_init_3_79
set_option maxHeartbeats 8000000 in
set_option maxRecDepth 100000 in
/-- getByte(): the next byte of the stream -/
theorem met_getByte (l : Launch) (D : va_G) (h hp hq hz hk hv : Nat) (K V : Nat → Int32) (σ : Nat → hcS) (n : Nat) (B : Nat → Int32) (hσ : hcSeq K V σ) (hB : hcOk σ n B) : HcI l yX2_getByte cX2_getByte 2 (.byte) 3 66 0 0 D hcNo [.ref h] [hcOb h 1 [.ref hp, .ref hq, .int (nI (σ ((n + 3) / 4)).2.2), .ref hk, .ref hv, .int 1, .ref hz, .int (nI (n % 4))], hcIa D hp 512 (σ ((n + 3) / 4)).1, hcIa D hq 512 (σ ((n + 3) / 4)).2.1, hcBa D hz 4 B, hcBa D hk 16 K, hcBa D hv 16 V] (fun (r : Int32) (u : Nat → Int32) => r = hcKs σ n ∧ hcOk σ (n + 1) u) (fun u => [hcOb h 1 [.ref hp, .ref hq, .int (nI (σ ((n + 1 + 3) / 4)).2.2), .ref hk, .ref hv, .int 1, .ref hz, .int (nI ((n + 1) % 4))], hcIa D hp 512 (σ ((n + 1 + 3) / 4)).1, hcIa D hq 512 (σ ((n + 1 + 3) / 4)).2.1, hcBa D hz 4 u, hcBa D hk 16 K, hcBa D hv 16 V]) := by
  refine hc_inI (by decide) (Nat.le_of_ble_eq_true rfl) ?_
  intro p e s m args below meth c ls A hx hb hr hlk hml hown hts hnm hP hK hD hE hA hAn hS hl
  have hown : s.vm.findClass RX2 = some m.cls := hown
  have hl : lv_has ls 2 [(0, .ref h)] := hl
  have hP : va_P D vwCl [hcOb h 1 [.ref hp, .ref hq, .int (nI (σ ((n + 3) / 4)).2.2), .ref hk, .ref hv, .int 1, .ref hz, .int (nI (n % 4))], hcIa D hp 512 (σ ((n + 3) / 4)).1, hcIa D hq 512 (σ ((n + 3) / 4)).2.1, hcBa D hz 4 B, hcBa D hk 16 K, hcBa D hv 16 V] s.heap := hP
  have hD : va_D A [hcOb h 1 [.ref hp, .ref hq, .int (nI (σ ((n + 3) / 4)).2.2), .ref hk, .ref hv, .int 1, .ref hz, .int (nI (n % 4))], hcIa D hp 512 (σ ((n + 3) / 4)).1, hcIa D hq 512 (σ ((n + 3) / 4)).2.1, hcBa D hz 4 B, hcBa D hk 16 K, hcBa D hv 16 V] := hD
  have tail : ∀ (H : Heap) (locs : List Loc) (ls : Array Slot) (g : Nat → Int32), (∀ i, i < 4 → g i = hcBy (hcOw (σ (n / 4))) i) → va_P D vwCl [hcOb h 1 [.ref hp, .ref hq, .int (nI (σ ((n + 1 + 3) / 4)).2.2), .ref hk, .ref hv, .int 1, .ref hz, .int (nI (n % 4))], hcIa D hp 512 (σ ((n + 1 + 3) / 4)).1, hcIa D hq 512 (σ ((n + 1 + 3) / 4)).2.1, hcBa D hz 4 g, hcBa D hk 16 K, hcBa D hv 16 V] H → va_D A [hcOb h 1 [.ref hp, .ref hq, .int (nI (σ ((n + 1 + 3) / 4)).2.2), .ref hk, .ref hv, .int 1, .ref hz, .int (nI (n % 4))], hcIa D hp 512 (σ ((n + 1 + 3) / 4)).1, hcIa D hq 512 (σ ((n + 1 + 3) / 4)).2.1, hcBa D hz 4 g, hcBa D hk 16 K, hcBa D hv 16 V] → va_S A s.heap H locs → lv_has ls 2 [(0, .ref h)] → W p l e (hcRm 3 66 0 0) s m args below meth c H locs 0 0 (MQ below (va_Qi (fun (r : Int32) (u : Nat → Int32) => r = hcKs σ n ∧ hcOk σ (n + 1) u) (hcWA D A (fun u => [hcOb h 1 [.ref hp, .ref hq, .int (nI (σ ((n + 1 + 3) / 4)).2.2), .ref hk, .ref hv, .int 1, .ref hz, .int (nI ((n + 1) % 4))], hcIa D hp 512 (σ ((n + 1 + 3) / 4)).1, hcIa D hq 512 (σ ((n + 1 + 3) / 4)).2.1, hcBa D hz 4 u, hcBa D hk 16 K, hcBa D hv 16 V])) A) args s 0 0 A) (F0 m 75 ls []) := by
    intro H locs ls g hg hP hD hS hl
    refine lv_aload_n hx hb dX2_getByte_75 rfl (lv_at hl 0 rfl) ?_
    refine va_get (D := D) (ci := 1) (C := RX2) (T := TX2) (N := 8) hx hb hts in_X2 hown hK hP 0 rfl rfl 6 (by decide) (hts _ q263) (fun _ h9 => h9) rfl dX2_getByte_76 ?_
    refine lv_aload_n hx hb dX2_getByte_79 rfl (lv_at hl 0 rfl) ?_
    refine va_get (D := D) (ci := 1) (C := RX2) (T := TX2) (N := 8) hx hb hts in_X2 hown hK hP 0 rfl rfl 7 (by decide) (hts _ q264) (fun _ h9 => h9) rfl dX2_getByte_80 ?_
    refine hc_bald (k := (n % 4)) hx hb hK hP 3 1 rfl rfl (Nat.mod_lt _ (by decide)) (by decide) dX2_getByte_83 ?_
    refine hc_top (y := hcKs σ n) (hg _ (Nat.mod_lt _ (by decide))) ?_
    refine lv_istore_n (lv' := [(1, .int (hcKs σ n)), (0, .ref h)]) hx hb dX2_getByte_84 rfl hl (by decide) rfl (fun ls hl => ?_)
    refine lv_aload_n hx hb dX2_getByte_85 rfl (lv_at hl 1 rfl) ?_
    refine lv_aload_n hx hb dX2_getByte_86 rfl (lv_at hl 1 rfl) ?_
    refine va_get (D := D) (ci := 1) (C := RX2) (T := TX2) (N := 8) hx hb hts in_X2 hown hK hP 0 rfl rfl 7 (by decide) (hts _ q264) (fun _ h9 => h9) rfl dX2_getByte_87 ?_
    refine lv_iconst (v := 1) hx hb dX2_getByte_90 (by decide) ?_
    refine lv_iadd hx hb dX2_getByte_91 ?_
    refine lv_iconst (v := 3) hx hb dX2_getByte_92 (by decide) ?_
    refine lv_iand hx hb dX2_getByte_93 ?_
    refine hc_top (y := nI ((n + 1) % 4)) ((hc_and3 (by omega)).trans (congrArg nI (by omega))) ?_
    refine va_put (D := D) (ci := 1) (v := .int (nI ((n + 1) % 4))) (ty := .int) (C := RX2) (T := TX2) (N := 8) hx hb hts in_X2 tyX2 tyX2_ok nmX2 hown hK hP hD hS 0 rfl rfl 7 (by decide) (hts _ q264) (fun _ h9 => h9) rfl (by decide +kernel) rfl rfl (Nat.le_of_ble_eq_true rfl) dX2_getByte_94 (fun H locs hP hD hS => ?_)
    have hP : va_P D vwCl [hcOb h 1 [.ref hp, .ref hq, .int (nI (σ ((n + 1 + 3) / 4)).2.2), .ref hk, .ref hv, .int 1, .ref hz, .int (nI ((n + 1) % 4))], hcIa D hp 512 (σ ((n + 1 + 3) / 4)).1, hcIa D hq 512 (σ ((n + 1 + 3) / 4)).2.1, hcBa D hz 4 g, hcBa D hk 16 K, hcBa D hv 16 V] H := hP
    have hD : va_D A [hcOb h 1 [.ref hp, .ref hq, .int (nI (σ ((n + 1 + 3) / 4)).2.2), .ref hk, .ref hv, .int 1, .ref hz, .int (nI ((n + 1) % 4))], hcIa D hp 512 (σ ((n + 1 + 3) / 4)).1, hcIa D hq 512 (σ ((n + 1 + 3) / 4)).2.1, hcBa D hz 4 g, hcBa D hk 16 K, hcBa D hv 16 V] := hD
    refine lv_iload_n hx hb dX2_getByte_97 rfl (lv_at hl 0 rfl) ?_
    refine hc_iret (g) hx hb hr hlk (hcKs_nar σ n) (⟨rfl, fun h4 i hi => ?_⟩) hP hD [0, 1, 2, 3, 4, 5] (by decide) rfl hS (Nat.le_of_ble_eq_true rfl) (Nat.le_of_ble_eq_true rfl) dX2_getByte_98
    rw [hg i hi, show (n + 1) / 4 = n / 4 by omega]
  refine lv_aload_n hx hb dX2_getByte_0 rfl (lv_at hl 0 rfl) ?_
  refine va_get (D := D) (ci := 1) (C := RX2) (T := TX2) (N := 8) hx hb hts in_X2 hown hK hP 0 rfl rfl 7 (by decide) (hts _ q264) (fun _ h9 => h9) rfl dX2_getByte_1 ?_
  by_cases h0 : n % 4 = 0
  · skip
    refine lv_if_ne (tgt := 75) hx hb dX2_getByte_4 (by decide) (fun hc => absurd (by rw [h0]; rfl) hc) (fun _ => ?_)
    refine lv_aload_n hx hb dX2_getByte_7 rfl (lv_at hl 0 rfl) ?_
    have hst := hcSeq_lt hσ ((n + 3) / 4)
    refine hc_iV (wr := [hcBa D hz 4 B, hcBa D hk 16 K, hcBa D hv 16 V]) (met_step l D h hp hq (.ref hk) (.ref hv) (.int 1) (.ref hz) (.int (nI (n % 4))) (σ ((n + 3) / 4)) hst) ⟨hx, hb, hml, hown, hts⟩ (cwV 0 hts (lw_V q155 q157 qs4 q12 q158) rfl rfl rfl (by decide +kernel) ⟨Nat.le_of_ble_eq_true rfl, Nat.le_of_ble_eq_true rfl⟩) hcBl_no (hc_no _ _) hK hP hD hS hA [0, 1, 2] [3, 4, 5] (by decide) rfl rfl (by decide) (by decide) 0 (ci := 1) rfl rfl rfl rfl hl.1 rfl (Nat.le_of_ble_eq_true rfl) dX2_getByte_8 ⟨Nat.le_of_ble_eq_true rfl, Nat.le_of_ble_eq_true rfl⟩ (fun r _ H locs hw hP hD hS => ?_)
    have hP : va_P D vwCl [hcBa D hz 4 B, hcBa D hk 16 K, hcBa D hv 16 V, hcOb h 1 [.ref hp, .ref hq, .int (nI (hcNx (σ ((n + 3) / 4))).2.2), .ref hk, .ref hv, .int 1, .ref hz, .int (nI (n % 4))], hcIa D hp 512 (hcNx (σ ((n + 3) / 4))).1, hcIa D hq 512 (hcNx (σ ((n + 3) / 4))).2.1] H := hP
    have hD : va_D A [hcBa D hz 4 B, hcBa D hk 16 K, hcBa D hv 16 V, hcOb h 1 [.ref hp, .ref hq, .int (nI (hcNx (σ ((n + 3) / 4))).2.2), .ref hk, .ref hv, .int 1, .ref hz, .int (nI (n % 4))], hcIa D hp 512 (hcNx (σ ((n + 3) / 4))).1, hcIa D hq 512 (hcNx (σ ((n + 3) / 4))).2.1] := hD
    have hP : va_P D vwCl [hcOb h 1 [.ref hp, .ref hq, .int (nI (hcNx (σ ((n + 3) / 4))).2.2), .ref hk, .ref hv, .int 1, .ref hz, .int (nI (n % 4))], hcIa D hp 512 (hcNx (σ ((n + 3) / 4))).1, hcIa D hq 512 (hcNx (σ ((n + 3) / 4))).2.1, hcBa D hz 4 B, hcBa D hk 16 K, hcBa D hv 16 V] H := hc_psub hP [3, 4, 5, 0, 1, 2] rfl
    have hD : va_D A [hcOb h 1 [.ref hp, .ref hq, .int (nI (hcNx (σ ((n + 3) / 4))).2.2), .ref hk, .ref hv, .int 1, .ref hz, .int (nI (n % 4))], hcIa D hp 512 (hcNx (σ ((n + 3) / 4))).1, hcIa D hq 512 (hcNx (σ ((n + 3) / 4))).2.1, hcBa D hz 4 B, hcBa D hk 16 K, hcBa D hv 16 V] := hD.sub [3, 4, 5, 0, 1, 2] (by decide) rfl
    have e1 : hcNx (σ ((n + 3) / 4)) = σ ((n + 1 + 3) / 4) := by rw [show (n + 1 + 3) / 4 = (n + 3) / 4 + 1 by omega]; exact (hσ.2 _).symm
    have e2 : σ ((n + 3) / 4) = σ (n / 4) := by rw [show (n + 3) / 4 = n / 4 by omega]
    rw [e1] at hP hD
    rw [e2] at hw
    subst hw
    have hP : va_P D vwCl [hcOb h 1 [.ref hp, .ref hq, .int (nI (σ ((n + 1 + 3) / 4)).2.2), .ref hk, .ref hv, .int 1, .ref hz, .int (nI (n % 4))], hcIa D hp 512 (σ ((n + 1 + 3) / 4)).1, hcIa D hq 512 (σ ((n + 1 + 3) / 4)).2.1, hcBa D hz 4 B, hcBa D hk 16 K, hcBa D hv 16 V] H := hP
    have hD : va_D A [hcOb h 1 [.ref hp, .ref hq, .int (nI (σ ((n + 1 + 3) / 4)).2.2), .ref hk, .ref hv, .int 1, .ref hz, .int (nI (n % 4))], hcIa D hp 512 (σ ((n + 1 + 3) / 4)).1, hcIa D hq 512 (σ ((n + 1 + 3) / 4)).2.1, hcBa D hz 4 B, hcBa D hk 16 K, hcBa D hv 16 V] := hD
    refine lv_istore_n (lv' := [(1, .int (hcOw (σ (n / 4)))), (0, .ref h)]) hx hb dX2_getByte_11 rfl hl (by decide) rfl (fun ls hl => ?_)
    refine lv_aload_n hx hb dX2_getByte_12 rfl (lv_at hl 1 rfl) ?_
    refine va_get (D := D) (ci := 1) (C := RX2) (T := TX2) (N := 8) hx hb hts in_X2 hown hK hP 0 rfl rfl 6 (by decide) (hts _ q263) (fun _ h9 => h9) rfl dX2_getByte_13 ?_
    refine lv_iconst (v := 0) hx hb dX2_getByte_16 (by decide) ?_
    refine lv_iload_n hx hb dX2_getByte_17 rfl (lv_at hl 0 rfl) ?_
    refine lv_sipush (v := 255) hx hb dX2_getByte_18 (by decide) ?_
    refine lv_iand hx hb dX2_getByte_21 ?_
    refine lv_i2b hx hb dX2_getByte_22 rfl ?_
    refine hc_top (y := hcBy (hcOw (σ (n / 4))) 0) rfl ?_
    refine hc_bast (k := 0) hx hb hK hP hD hS 3 1 rfl rfl (by decide) (by decide) (hc_narb _) dX2_getByte_23 (fun H locs hP hD hS => ?_)
    have hP : va_P D vwCl [hcOb h 1 [.ref hp, .ref hq, .int (nI (σ ((n + 1 + 3) / 4)).2.2), .ref hk, .ref hv, .int 1, .ref hz, .int (nI (n % 4))], hcIa D hp 512 (σ ((n + 1 + 3) / 4)).1, hcIa D hq 512 (σ ((n + 1 + 3) / 4)).2.1, hcBa D hz 4 (upd B 0 (hcBy (hcOw (σ (n / 4))) 0)), hcBa D hk 16 K, hcBa D hv 16 V] H := hP
    have hD : va_D A [hcOb h 1 [.ref hp, .ref hq, .int (nI (σ ((n + 1 + 3) / 4)).2.2), .ref hk, .ref hv, .int 1, .ref hz, .int (nI (n % 4))], hcIa D hp 512 (σ ((n + 1 + 3) / 4)).1, hcIa D hq 512 (σ ((n + 1 + 3) / 4)).2.1, hcBa D hz 4 (upd B 0 (hcBy (hcOw (σ (n / 4))) 0)), hcBa D hk 16 K, hcBa D hv 16 V] := hD
    refine lv_iload_n hx hb dX2_getByte_24 rfl (lv_at hl 0 rfl) ?_
    refine lv_bipush (v := 8) hx hb dX2_getByte_25 (by decide) ?_
    refine lv_ishr hx hb dX2_getByte_27 ?_
    refine hc_top (y := hcSh (hcOw (σ (n / 4))) 1) (rfl) ?_
    refine lv_istore_n (lv' := [(1, .int (hcSh (hcOw (σ (n / 4))) 1)), (0, .ref h)]) hx hb dX2_getByte_28 rfl hl (by decide) rfl (fun ls hl => ?_)
    refine lv_aload_n hx hb dX2_getByte_29 rfl (lv_at hl 1 rfl) ?_
    refine va_get (D := D) (ci := 1) (C := RX2) (T := TX2) (N := 8) hx hb hts in_X2 hown hK hP 0 rfl rfl 6 (by decide) (hts _ q263) (fun _ h9 => h9) rfl dX2_getByte_30 ?_
    refine lv_iconst (v := 1) hx hb dX2_getByte_33 (by decide) ?_
    refine lv_iload_n hx hb dX2_getByte_34 rfl (lv_at hl 0 rfl) ?_
    refine lv_sipush (v := 255) hx hb dX2_getByte_35 (by decide) ?_
    refine lv_iand hx hb dX2_getByte_38 ?_
    refine lv_i2b hx hb dX2_getByte_39 rfl ?_
    refine hc_top (y := hcBy (hcOw (σ (n / 4))) 1) rfl ?_
    refine hc_bast (k := 1) hx hb hK hP hD hS 3 1 rfl rfl (by decide) (by decide) (hc_narb _) dX2_getByte_40 (fun H locs hP hD hS => ?_)
    have hP : va_P D vwCl [hcOb h 1 [.ref hp, .ref hq, .int (nI (σ ((n + 1 + 3) / 4)).2.2), .ref hk, .ref hv, .int 1, .ref hz, .int (nI (n % 4))], hcIa D hp 512 (σ ((n + 1 + 3) / 4)).1, hcIa D hq 512 (σ ((n + 1 + 3) / 4)).2.1, hcBa D hz 4 (upd (upd B 0 (hcBy (hcOw (σ (n / 4))) 0)) 1 (hcBy (hcOw (σ (n / 4))) 1)), hcBa D hk 16 K, hcBa D hv 16 V] H := hP
    have hD : va_D A [hcOb h 1 [.ref hp, .ref hq, .int (nI (σ ((n + 1 + 3) / 4)).2.2), .ref hk, .ref hv, .int 1, .ref hz, .int (nI (n % 4))], hcIa D hp 512 (σ ((n + 1 + 3) / 4)).1, hcIa D hq 512 (σ ((n + 1 + 3) / 4)).2.1, hcBa D hz 4 (upd (upd B 0 (hcBy (hcOw (σ (n / 4))) 0)) 1 (hcBy (hcOw (σ (n / 4))) 1)), hcBa D hk 16 K, hcBa D hv 16 V] := hD
    refine lv_iload_n hx hb dX2_getByte_41 rfl (lv_at hl 0 rfl) ?_
    refine lv_bipush (v := 8) hx hb dX2_getByte_42 (by decide) ?_
    refine lv_ishr hx hb dX2_getByte_44 ?_
    refine hc_top (y := hcSh (hcOw (σ (n / 4))) 2) (rfl) ?_
    refine lv_istore_n (lv' := [(1, .int (hcSh (hcOw (σ (n / 4))) 2)), (0, .ref h)]) hx hb dX2_getByte_45 rfl hl (by decide) rfl (fun ls hl => ?_)
    refine lv_aload_n hx hb dX2_getByte_46 rfl (lv_at hl 1 rfl) ?_
    refine va_get (D := D) (ci := 1) (C := RX2) (T := TX2) (N := 8) hx hb hts in_X2 hown hK hP 0 rfl rfl 6 (by decide) (hts _ q263) (fun _ h9 => h9) rfl dX2_getByte_47 ?_
    refine lv_iconst (v := 2) hx hb dX2_getByte_50 (by decide) ?_
    refine lv_iload_n hx hb dX2_getByte_51 rfl (lv_at hl 0 rfl) ?_
    refine lv_sipush (v := 255) hx hb dX2_getByte_52 (by decide) ?_
    refine lv_iand hx hb dX2_getByte_55 ?_
    refine lv_i2b hx hb dX2_getByte_56 rfl ?_
    refine hc_top (y := hcBy (hcOw (σ (n / 4))) 2) rfl ?_
    refine hc_bast (k := 2) hx hb hK hP hD hS 3 1 rfl rfl (by decide) (by decide) (hc_narb _) dX2_getByte_57 (fun H locs hP hD hS => ?_)
    have hP : va_P D vwCl [hcOb h 1 [.ref hp, .ref hq, .int (nI (σ ((n + 1 + 3) / 4)).2.2), .ref hk, .ref hv, .int 1, .ref hz, .int (nI (n % 4))], hcIa D hp 512 (σ ((n + 1 + 3) / 4)).1, hcIa D hq 512 (σ ((n + 1 + 3) / 4)).2.1, hcBa D hz 4 (upd (upd (upd B 0 (hcBy (hcOw (σ (n / 4))) 0)) 1 (hcBy (hcOw (σ (n / 4))) 1)) 2 (hcBy (hcOw (σ (n / 4))) 2)), hcBa D hk 16 K, hcBa D hv 16 V] H := hP
    have hD : va_D A [hcOb h 1 [.ref hp, .ref hq, .int (nI (σ ((n + 1 + 3) / 4)).2.2), .ref hk, .ref hv, .int 1, .ref hz, .int (nI (n % 4))], hcIa D hp 512 (σ ((n + 1 + 3) / 4)).1, hcIa D hq 512 (σ ((n + 1 + 3) / 4)).2.1, hcBa D hz 4 (upd (upd (upd B 0 (hcBy (hcOw (σ (n / 4))) 0)) 1 (hcBy (hcOw (σ (n / 4))) 1)) 2 (hcBy (hcOw (σ (n / 4))) 2)), hcBa D hk 16 K, hcBa D hv 16 V] := hD
    refine lv_iload_n hx hb dX2_getByte_58 rfl (lv_at hl 0 rfl) ?_
    refine lv_bipush (v := 8) hx hb dX2_getByte_59 (by decide) ?_
    refine lv_ishr hx hb dX2_getByte_61 ?_
    refine hc_top (y := hcSh (hcOw (σ (n / 4))) 3) (rfl) ?_
    refine lv_istore_n (lv' := [(1, .int (hcSh (hcOw (σ (n / 4))) 3)), (0, .ref h)]) hx hb dX2_getByte_62 rfl hl (by decide) rfl (fun ls hl => ?_)
    refine lv_aload_n hx hb dX2_getByte_63 rfl (lv_at hl 1 rfl) ?_
    refine va_get (D := D) (ci := 1) (C := RX2) (T := TX2) (N := 8) hx hb hts in_X2 hown hK hP 0 rfl rfl 6 (by decide) (hts _ q263) (fun _ h9 => h9) rfl dX2_getByte_64 ?_
    refine lv_iconst (v := 3) hx hb dX2_getByte_67 (by decide) ?_
    refine lv_iload_n hx hb dX2_getByte_68 rfl (lv_at hl 0 rfl) ?_
    refine lv_sipush (v := 255) hx hb dX2_getByte_69 (by decide) ?_
    refine lv_iand hx hb dX2_getByte_72 ?_
    refine lv_i2b hx hb dX2_getByte_73 rfl ?_
    refine hc_top (y := hcBy (hcOw (σ (n / 4))) 3) rfl ?_
    refine hc_bast (k := 3) hx hb hK hP hD hS 3 1 rfl rfl (by decide) (by decide) (hc_narb _) dX2_getByte_74 (fun H locs hP hD hS => ?_)
    have hP : va_P D vwCl [hcOb h 1 [.ref hp, .ref hq, .int (nI (σ ((n + 1 + 3) / 4)).2.2), .ref hk, .ref hv, .int 1, .ref hz, .int (nI (n % 4))], hcIa D hp 512 (σ ((n + 1 + 3) / 4)).1, hcIa D hq 512 (σ ((n + 1 + 3) / 4)).2.1, hcBa D hz 4 (upd (upd (upd (upd B 0 (hcBy (hcOw (σ (n / 4))) 0)) 1 (hcBy (hcOw (σ (n / 4))) 1)) 2 (hcBy (hcOw (σ (n / 4))) 2)) 3 (hcBy (hcOw (σ (n / 4))) 3)), hcBa D hk 16 K, hcBa D hv 16 V] H := hP
    have hD : va_D A [hcOb h 1 [.ref hp, .ref hq, .int (nI (σ ((n + 1 + 3) / 4)).2.2), .ref hk, .ref hv, .int 1, .ref hz, .int (nI (n % 4))], hcIa D hp 512 (σ ((n + 1 + 3) / 4)).1, hcIa D hq 512 (σ ((n + 1 + 3) / 4)).2.1, hcBa D hz 4 (upd (upd (upd (upd B 0 (hcBy (hcOw (σ (n / 4))) 0)) 1 (hcBy (hcOw (σ (n / 4))) 1)) 2 (hcBy (hcOw (σ (n / 4))) 2)) 3 (hcBy (hcOw (σ (n / 4))) 3)), hcBa D hk 16 K, hcBa D hv 16 V] := hD
    have hD := hc_reD hD 3 (hcBy (hcOw (σ (n / 4)))) rfl
    have hP := hc_re hP 3 (hcBy (hcOw (σ (n / 4)))) rfl (hc_buf _ _)
    have hP : va_P D vwCl [hcOb h 1 [.ref hp, .ref hq, .int (nI (σ ((n + 1 + 3) / 4)).2.2), .ref hk, .ref hv, .int 1, .ref hz, .int (nI (n % 4))], hcIa D hp 512 (σ ((n + 1 + 3) / 4)).1, hcIa D hq 512 (σ ((n + 1 + 3) / 4)).2.1, hcBa D hz 4 (hcBy (hcOw (σ (n / 4)))), hcBa D hk 16 K, hcBa D hv 16 V] H := hP
    have hD : va_D A [hcOb h 1 [.ref hp, .ref hq, .int (nI (σ ((n + 1 + 3) / 4)).2.2), .ref hk, .ref hv, .int 1, .ref hz, .int (nI (n % 4))], hcIa D hp 512 (σ ((n + 1 + 3) / 4)).1, hcIa D hq 512 (σ ((n + 1 + 3) / 4)).2.1, hcBa D hz 4 (hcBy (hcOw (σ (n / 4)))), hcBa D hk 16 K, hcBa D hv 16 V] := hD
    have hl : lv_has ls 2 [(0, .ref h)] := lv_sub hl [1] rfl
    exact tail H locs ls (hcBy (hcOw (σ (n / 4)))) (fun _ _ => rfl) hP hD hS hl
  · skip
    refine lv_if_ne (tgt := 75) hx hb dX2_getByte_4 (by decide) (fun _ => ?_) (fun hc => absurd hc (hc_ne0 (Nat.pos_of_ne_zero h0) (by omega)))
    have e1 : σ ((n + 3) / 4) = σ ((n + 1 + 3) / 4) := by rw [show (n + 1 + 3) / 4 = (n + 3) / 4 by omega]
    rw [e1] at hP hD
    exact tail _ _ ls B (hB h0) hP hD hS hl
set_option maxHeartbeats 4000000 in
set_option maxRecDepth 100000 in
/-- returnByte(b) -/
theorem met_returnByte (l : Launch) (D : va_G) (h hp hq hz hk hv : Nat) (K V : Nat → Int32) (σ : Nat → hcS) (n : Nat) (B : Nat → Int32) (x : Int32) (hσ : hcSeq K V σ) (hB : hcOk σ n B) : HcI l yX2_returnByte cX2_returnByte 2 (.byte) 4 87 0 0 D hcNo [.ref h, .int x] [hcOb h 1 [.ref hp, .ref hq, .int (nI (σ ((n + 3) / 4)).2.2), .ref hk, .ref hv, .int 1, .ref hz, .int (nI (n % 4))], hcIa D hp 512 (σ ((n + 3) / 4)).1, hcIa D hq 512 (σ ((n + 3) / 4)).2.1, hcBa D hz 4 B, hcBa D hk 16 K, hcBa D hv 16 V] (fun (r : Int32) (u : Nat → Int32) => r = (x ^^^ hcKs σ n).toInt8.toInt32 ∧ hcOk σ (n + 1) u) (fun u => [hcOb h 1 [.ref hp, .ref hq, .int (nI (σ ((n + 1 + 3) / 4)).2.2), .ref hk, .ref hv, .int 1, .ref hz, .int (nI ((n + 1) % 4))], hcIa D hp 512 (σ ((n + 1 + 3) / 4)).1, hcIa D hq 512 (σ ((n + 1 + 3) / 4)).2.1, hcBa D hz 4 u, hcBa D hk 16 K, hcBa D hv 16 V]) := by
  refine hc_inI (by decide) (Nat.le_of_ble_eq_true rfl) ?_
  intro p e s m args below meth c ls A hx hb hr hlk hml hown hts hnm hP hK hD hE hA hAn hS hl
  have hown : s.vm.findClass RX2 = some m.cls := hown
  have hl : lv_has ls 2 [(0, .ref h), (1, .int x)] := hl
  have hP : va_P D vwCl [hcOb h 1 [.ref hp, .ref hq, .int (nI (σ ((n + 3) / 4)).2.2), .ref hk, .ref hv, .int 1, .ref hz, .int (nI (n % 4))], hcIa D hp 512 (σ ((n + 3) / 4)).1, hcIa D hq 512 (σ ((n + 3) / 4)).2.1, hcBa D hz 4 B, hcBa D hk 16 K, hcBa D hv 16 V] s.heap := hP
  have hD : va_D A [hcOb h 1 [.ref hp, .ref hq, .int (nI (σ ((n + 3) / 4)).2.2), .ref hk, .ref hv, .int 1, .ref hz, .int (nI (n % 4))], hcIa D hp 512 (σ ((n + 3) / 4)).1, hcIa D hq 512 (σ ((n + 3) / 4)).2.1, hcBa D hz 4 B, hcBa D hk 16 K, hcBa D hv 16 V] := hD
  refine lv_iload_n hx hb dX2_returnByte_0 rfl (lv_at hl 1 rfl) ?_
  refine lv_aload_n hx hb dX2_returnByte_1 rfl (lv_at hl 0 rfl) ?_
  refine hc_iV (wr := []) (met_getByte l D h hp hq hz hk hv K V σ n B hσ hB) ⟨hx, hb, hml, hown, hts⟩ (cwV 0 hts (lw_V q150 q152 qs3 q12 q154) rfl rfl rfl (by decide +kernel) ⟨Nat.le_of_ble_eq_true rfl, Nat.le_of_ble_eq_true rfl⟩) hcBl_no (hc_no _ _) hK hP hD hS hA [0, 1, 2, 3, 4, 5] [] (by decide) rfl rfl (by decide) (by decide) 0 (ci := 1) rfl rfl rfl rfl hl.1 rfl (Nat.le_of_ble_eq_true rfl) dX2_returnByte_2 ⟨Nat.le_of_ble_eq_true rfl, Nat.le_of_ble_eq_true rfl⟩ (fun r u H locs hw hP hD hS => ?_)
  have hP : va_P D vwCl [hcOb h 1 [.ref hp, .ref hq, .int (nI (σ ((n + 1 + 3) / 4)).2.2), .ref hk, .ref hv, .int 1, .ref hz, .int (nI ((n + 1) % 4))], hcIa D hp 512 (σ ((n + 1 + 3) / 4)).1, hcIa D hq 512 (σ ((n + 1 + 3) / 4)).2.1, hcBa D hz 4 u, hcBa D hk 16 K, hcBa D hv 16 V] H := hP
  have hD : va_D A [hcOb h 1 [.ref hp, .ref hq, .int (nI (σ ((n + 1 + 3) / 4)).2.2), .ref hk, .ref hv, .int 1, .ref hz, .int (nI ((n + 1) % 4))], hcIa D hp 512 (σ ((n + 1 + 3) / 4)).1, hcIa D hq 512 (σ ((n + 1 + 3) / 4)).2.1, hcBa D hz 4 u, hcBa D hk 16 K, hcBa D hv 16 V] := hD
  obtain ⟨rfl, hB1⟩ := hw
  refine lv_ixor hx hb dX2_returnByte_5 ?_
  refine lv_i2b hx hb dX2_returnByte_6 rfl ?_
  exact hc_iret (u) hx hb hr hlk (pk_nb _) (⟨rfl, hB1⟩) hP hD [0, 1, 2, 3, 4, 5] (by decide) rfl hS (Nat.le_of_ble_eq_true rfl) (Nat.le_of_ble_eq_true rfl) dX2_returnByte_7
set_option maxHeartbeats 8000000 in
set_option maxRecDepth 100000 in
/-- processBytes(in, f, nC, out, 0) -/
theorem met_process (l : Launch) (D : va_G) (h hp hq hz hk hv : Nat) (ht ho nT nC f : Nat) (K V T G0 : Nat → Int32) (σ : Nat → hcS) (n : Nat) (B : Nat → Int32) (hσ : hcSeq K V σ) (hB : hcOk σ n B) (hf : f + nC ≤ nT) (hT : nT < 2147483648) : HcI l yX2_processBytes cX2_processBytes 7 (.int) 4 87 0 0 D hcNo [.ref h, .ref ht, .int (nI f), .int (nI nC), .ref ho, .int 0] [hcOb h 1 [.ref hp, .ref hq, .int (nI (σ ((n + 3) / 4)).2.2), .ref hk, .ref hv, .int 1, .ref hz, .int (nI (n % 4))], hcIa D hp 512 (σ ((n + 3) / 4)).1, hcIa D hq 512 (σ ((n + 3) / 4)).2.1, hcBa D hz 4 B, hcBa D hk 16 K, hcBa D hv 16 V, hcBa D ht nT T, hcBa D ho nC G0] (fun (r : Int32) (u : Nat → Int32) => r = nI nC ∧ hcOk σ (n + nC) u) (fun u => [hcOb h 1 [.ref hp, .ref hq, .int (nI (σ ((n + nC + 3) / 4)).2.2), .ref hk, .ref hv, .int 1, .ref hz, .int (nI ((n + nC) % 4))], hcIa D hp 512 (σ ((n + nC + 3) / 4)).1, hcIa D hq 512 (σ ((n + nC + 3) / 4)).2.1, hcBa D hz 4 u, hcBa D hk 16 K, hcBa D hv 16 V, hcBa D ht nT T, hcBa D ho nC (hcXo σ T f n)]) := by
  refine hc_inI (by decide) (Nat.le_of_ble_eq_true rfl) ?_
  intro p e s m args below meth c ls A hx hb hr hlk hml hown hts hnm hP hK hD hE hA hAn hS hl
  have hown : s.vm.findClass RX2 = some m.cls := hown
  have hl : lv_has ls 7 [(0, .ref h), (1, .ref ht), (2, .int (nI f)), (3, .int (nI nC)), (4, .ref ho), (5, .int 0)] := hl
  have hP : va_P D vwCl [hcOb h 1 [.ref hp, .ref hq, .int (nI (σ ((n + 3) / 4)).2.2), .ref hk, .ref hv, .int 1, .ref hz, .int (nI (n % 4))], hcIa D hp 512 (σ ((n + 3) / 4)).1, hcIa D hq 512 (σ ((n + 3) / 4)).2.1, hcBa D hz 4 B, hcBa D hk 16 K, hcBa D hv 16 V, hcBa D ht nT T, hcBa D ho nC G0] s.heap := hP
  have hD : va_D A [hcOb h 1 [.ref hp, .ref hq, .int (nI (σ ((n + 3) / 4)).2.2), .ref hk, .ref hv, .int 1, .ref hz, .int (nI (n % 4))], hcIa D hp 512 (σ ((n + 3) / 4)).1, hcIa D hq 512 (σ ((n + 3) / 4)).2.1, hcBa D hz 4 B, hcBa D hk 16 K, hcBa D hv 16 V, hcBa D ht nT T, hcBa D ho nC G0] := hD
  refine lv_aload_n hx hb dX2_processBytes_0 rfl (lv_at hl 0 rfl) ?_
  refine va_get (D := D) (ci := 1) (C := RX2) (T := TX2) (N := 8) hx hb hts in_X2 hown hK hP 0 rfl rfl 5 (by decide) (hts _ q262) (fun _ h9 => h9) rfl dX2_processBytes_1 ?_
  refine lv_if_ne (tgt := 17) hx hb dX2_processBytes_4 (by decide) (fun _ => ?_) (fun hc => absurd hc (by decide))
  refine lv_iload_n hx hb dX2_processBytes_17 rfl (lv_at hl 2 rfl) ?_
  refine lv_iload_n hx hb dX2_processBytes_18 rfl (lv_at hl 3 rfl) ?_
  refine lv_iadd hx hb dX2_processBytes_19 ?_
  refine hc_top (y := nI (f + nC)) (nI_add _ _) ?_
  refine lv_aload_n hx hb dX2_processBytes_20 rfl (lv_at hl 1 rfl) ?_
  refine va_alen (v := nI nT) hx hb hK hP 6 1 rfl rfl rfl dX2_processBytes_21 ?_
  refine lv_icmp_le (tgt := 35) hx hb dX2_processBytes_22 (by decide) (fun _ => ?_) (fun hc => absurd (nI_le (a := f + nC) (b := nT) hf (by omega)) hc)
  refine lv_iload hx hb dX2_processBytes_35 (lv_at hl 5 rfl) ?_
  refine lv_iload_n hx hb dX2_processBytes_37 rfl (lv_at hl 3 rfl) ?_
  refine lv_iadd hx hb dX2_processBytes_38 ?_
  refine hc_top (y := nI nC) (by rw [show (0 : Int32) = nI 0 from rfl, nI_add, Nat.zero_add]) ?_
  refine lv_aload hx hb dX2_processBytes_39 (lv_at hl 4 rfl) ?_
  refine va_alen (v := nI nC) hx hb hK hP 7 1 rfl rfl rfl dX2_processBytes_41 ?_
  refine lv_icmp_le (tgt := 55) hx hb dX2_processBytes_42 (by decide) (fun _ => ?_) (fun hc => absurd (nI_le (a := nC) (b := nC) (Nat.le_refl _) (by omega)) hc)
  refine lv_iconst (v := 0) hx hb dX2_processBytes_55 (by decide) ?_
  refine lv_istore (lv' := [(6, .int 0), (0, .ref h), (1, .ref ht), (2, .int (nI f)), (3, .int (nI nC)), (4, .ref ho), (5, .int 0)]) hx hb dX2_processBytes_56 hl (by decide) rfl (fun ls hl => ?_)
  have L1 : ∀ (d i : Nat) (B g : Nat → Int32) (H : Heap) (locs : List Loc) (ls : Array Slot), i + d = nC → hcOk σ (n + i) B → (∀ j, j < i → g j = hcXo σ T f n j) → va_P D vwCl [hcOb h 1 [.ref hp, .ref hq, .int (nI (σ ((n + i + 3) / 4)).2.2), .ref hk, .ref hv, .int 1, .ref hz, .int (nI ((n + i) % 4))], hcIa D hp 512 (σ ((n + i + 3) / 4)).1, hcIa D hq 512 (σ ((n + i + 3) / 4)).2.1, hcBa D hz 4 B, hcBa D hk 16 K, hcBa D hv 16 V, hcBa D ht nT T, hcBa D ho nC g] H → va_D A [hcOb h 1 [.ref hp, .ref hq, .int (nI (σ ((n + i + 3) / 4)).2.2), .ref hk, .ref hv, .int 1, .ref hz, .int (nI ((n + i) % 4))], hcIa D hp 512 (σ ((n + i + 3) / 4)).1, hcIa D hq 512 (σ ((n + i + 3) / 4)).2.1, hcBa D hz 4 B, hcBa D hk 16 K, hcBa D hv 16 V, hcBa D ht nT T, hcBa D ho nC g] → va_S A s.heap H locs → lv_has ls 7 [(6, .int (nI i)), (0, .ref h), (1, .ref ht), (2, .int (nI f)), (3, .int (nI nC)), (4, .ref ho), (5, .int 0)] → W p l e (hcRm 4 87 0 0) s m args below meth c H locs 0 0 (MQ below (va_Qi (fun (r : Int32) (u : Nat → Int32) => r = nI nC ∧ hcOk σ (n + nC) u) (hcWA D A (fun u => [hcOb h 1 [.ref hp, .ref hq, .int (nI (σ ((n + nC + 3) / 4)).2.2), .ref hk, .ref hv, .int 1, .ref hz, .int (nI ((n + nC) % 4))], hcIa D hp 512 (σ ((n + nC + 3) / 4)).1, hcIa D hq 512 (σ ((n + nC + 3) / 4)).2.1, hcBa D hz 4 u, hcBa D hk 16 K, hcBa D hv 16 V, hcBa D ht nT T, hcBa D ho nC (hcXo σ T f n)])) A) args s 0 0 A) (F0 m 58 ls []) := by
    intro d
    induction d with
    | zero =>
      intro i B g H locs ls hi hB hg hP hD hS hl
      obtain rfl : i = nC := by omega
      refine lv_iload hx hb dX2_processBytes_58 (lv_at hl 0 rfl) ?_
      refine lv_iload_n hx hb dX2_processBytes_60 rfl (lv_at hl 4 rfl) ?_
      refine lv_icmp_ge (tgt := 90) hx hb dX2_processBytes_61 (by decide) (fun _ => ?_) (fun hc => absurd (nI_le (a := i) (b := i) (Nat.le_refl _) (by omega)) hc)
      have hD := hc_reD hD 7 (hcXo σ T f n) rfl
      have hP := hc_re hP 7 (hcXo σ T f n) rfl (fun j hj => hg j hj)
      have hP : va_P D vwCl [hcOb h 1 [.ref hp, .ref hq, .int (nI (σ ((n + i + 3) / 4)).2.2), .ref hk, .ref hv, .int 1, .ref hz, .int (nI ((n + i) % 4))], hcIa D hp 512 (σ ((n + i + 3) / 4)).1, hcIa D hq 512 (σ ((n + i + 3) / 4)).2.1, hcBa D hz 4 B, hcBa D hk 16 K, hcBa D hv 16 V, hcBa D ht nT T, hcBa D ho i (hcXo σ T f n)] H := hP
      have hD : va_D A [hcOb h 1 [.ref hp, .ref hq, .int (nI (σ ((n + i + 3) / 4)).2.2), .ref hk, .ref hv, .int 1, .ref hz, .int (nI ((n + i) % 4))], hcIa D hp 512 (σ ((n + i + 3) / 4)).1, hcIa D hq 512 (σ ((n + i + 3) / 4)).2.1, hcBa D hz 4 B, hcBa D hk 16 K, hcBa D hv 16 V, hcBa D ht nT T, hcBa D ho i (hcXo σ T f n)] := hD
      refine lv_iload_n hx hb dX2_processBytes_90 rfl (lv_at hl 4 rfl) ?_
      exact hc_iret (B) hx hb hr hlk (rfl) (⟨rfl, hB⟩) hP hD [0, 1, 2, 3, 4, 5, 6, 7] (by decide) rfl hS (Nat.le_of_ble_eq_true rfl) (Nat.le_of_ble_eq_true rfl) dX2_processBytes_91
    | succ d ih =>
      intro i B g H locs ls hi hB hg hP hD hS hl
      have hlt : i < nC := by omega
      refine lv_iload hx hb dX2_processBytes_58 (lv_at hl 0 rfl) ?_
      refine lv_iload_n hx hb dX2_processBytes_60 rfl (lv_at hl 4 rfl) ?_
      refine lv_icmp_ge (tgt := 90) hx hb dX2_processBytes_61 (by decide) (fun hc => absurd hc (nI_ge (a := i) (b := nC) hlt (by omega))) (fun _ => ?_)
      refine lv_aload hx hb dX2_processBytes_64 (lv_at hl 5 rfl) ?_
      refine lv_iload hx hb dX2_processBytes_66 (lv_at hl 6 rfl) ?_
      refine lv_iload hx hb dX2_processBytes_68 (lv_at hl 0 rfl) ?_
      refine lv_iadd hx hb dX2_processBytes_70 ?_
      refine hc_top (y := nI i) (by rw [show (0 : Int32) = nI 0 from rfl, nI_add, Nat.zero_add]) ?_
      refine lv_aload_n hx hb dX2_processBytes_71 rfl (lv_at hl 2 rfl) ?_
      refine lv_iload_n hx hb dX2_processBytes_72 rfl (lv_at hl 3 rfl) ?_
      refine lv_iload hx hb dX2_processBytes_73 (lv_at hl 0 rfl) ?_
      refine lv_iadd hx hb dX2_processBytes_75 ?_
      refine hc_top (y := nI (f + i)) (nI_add _ _) ?_
      refine hc_bald (k := (f + i)) hx hb hK hP 6 1 rfl rfl (by omega) (by omega) dX2_processBytes_76 ?_
      refine lv_aload_n hx hb dX2_processBytes_77 rfl (lv_at hl 1 rfl) ?_
      refine hc_iV (wr := [hcBa D ht nT T, hcBa D ho nC g]) (met_getByte l D h hp hq hz hk hv K V σ (n + i) B hσ hB) ⟨hx, hb, hml, hown, hts⟩ (cwV 0 hts (lw_V q150 q152 qs3 q12 q154) rfl rfl rfl (by decide +kernel) ⟨Nat.le_of_ble_eq_true rfl, Nat.le_of_ble_eq_true rfl⟩) hcBl_no (hc_no _ _) hK hP hD hS hA [0, 1, 2, 3, 4, 5] [6, 7] (by decide) rfl rfl (by decide) (by decide) 0 (ci := 1) rfl rfl rfl rfl hl.1 rfl (Nat.le_of_ble_eq_true rfl) dX2_processBytes_78 ⟨Nat.le_of_ble_eq_true rfl, Nat.le_of_ble_eq_true rfl⟩ (fun r u H locs hw hP hD hS => ?_)
      have hP : va_P D vwCl [hcBa D ht nT T, hcBa D ho nC g, hcOb h 1 [.ref hp, .ref hq, .int (nI (σ ((n + i + 1 + 3) / 4)).2.2), .ref hk, .ref hv, .int 1, .ref hz, .int (nI ((n + i + 1) % 4))], hcIa D hp 512 (σ ((n + i + 1 + 3) / 4)).1, hcIa D hq 512 (σ ((n + i + 1 + 3) / 4)).2.1, hcBa D hz 4 u, hcBa D hk 16 K, hcBa D hv 16 V] H := hP
      have hD : va_D A [hcBa D ht nT T, hcBa D ho nC g, hcOb h 1 [.ref hp, .ref hq, .int (nI (σ ((n + i + 1 + 3) / 4)).2.2), .ref hk, .ref hv, .int 1, .ref hz, .int (nI ((n + i + 1) % 4))], hcIa D hp 512 (σ ((n + i + 1 + 3) / 4)).1, hcIa D hq 512 (σ ((n + i + 1 + 3) / 4)).2.1, hcBa D hz 4 u, hcBa D hk 16 K, hcBa D hv 16 V] := hD
      have hP : va_P D vwCl [hcOb h 1 [.ref hp, .ref hq, .int (nI (σ ((n + i + 1 + 3) / 4)).2.2), .ref hk, .ref hv, .int 1, .ref hz, .int (nI ((n + i + 1) % 4))], hcIa D hp 512 (σ ((n + i + 1 + 3) / 4)).1, hcIa D hq 512 (σ ((n + i + 1 + 3) / 4)).2.1, hcBa D hz 4 u, hcBa D hk 16 K, hcBa D hv 16 V, hcBa D ht nT T, hcBa D ho nC g] H := hc_psub hP [2, 3, 4, 5, 6, 7, 0, 1] rfl
      have hD : va_D A [hcOb h 1 [.ref hp, .ref hq, .int (nI (σ ((n + i + 1 + 3) / 4)).2.2), .ref hk, .ref hv, .int 1, .ref hz, .int (nI ((n + i + 1) % 4))], hcIa D hp 512 (σ ((n + i + 1 + 3) / 4)).1, hcIa D hq 512 (σ ((n + i + 1 + 3) / 4)).2.1, hcBa D hz 4 u, hcBa D hk 16 K, hcBa D hv 16 V, hcBa D ht nT T, hcBa D ho nC g] := hD.sub [2, 3, 4, 5, 6, 7, 0, 1] (by decide) rfl
      obtain ⟨rfl, hB1⟩ := hw
      refine lv_ixor hx hb dX2_processBytes_81 ?_
      refine lv_i2b hx hb dX2_processBytes_82 rfl ?_
      refine hc_bast (k := i) hx hb hK hP hD hS 7 1 rfl rfl (hlt) (by omega) (hc_narb _) dX2_processBytes_83 (fun H locs hP hD hS => ?_)
      have hP : va_P D vwCl [hcOb h 1 [.ref hp, .ref hq, .int (nI (σ ((n + i + 1 + 3) / 4)).2.2), .ref hk, .ref hv, .int 1, .ref hz, .int (nI ((n + i + 1) % 4))], hcIa D hp 512 (σ ((n + i + 1 + 3) / 4)).1, hcIa D hq 512 (σ ((n + i + 1 + 3) / 4)).2.1, hcBa D hz 4 u, hcBa D hk 16 K, hcBa D hv 16 V, hcBa D ht nT T, hcBa D ho nC (upd g i (((T (f + i)) ^^^ (hcKs σ (n + i))).toInt8.toInt32))] H := hP
      have hD : va_D A [hcOb h 1 [.ref hp, .ref hq, .int (nI (σ ((n + i + 1 + 3) / 4)).2.2), .ref hk, .ref hv, .int 1, .ref hz, .int (nI ((n + i + 1) % 4))], hcIa D hp 512 (σ ((n + i + 1 + 3) / 4)).1, hcIa D hq 512 (σ ((n + i + 1 + 3) / 4)).2.1, hcBa D hz 4 u, hcBa D hk 16 K, hcBa D hv 16 V, hcBa D ht nT T, hcBa D ho nC (upd g i (((T (f + i)) ^^^ (hcKs σ (n + i))).toInt8.toInt32))] := hD
      refine lv_iinc (v := nI (i + 1)) (lv' := [(6, .int (nI (i + 1))), (0, .ref h), (1, .ref ht), (2, .int (nI f)), (3, .int (nI nC)), (4, .ref ho), (5, .int 0)]) hx hb dX2_processBytes_84 hl (k := 0) rfl (nI_1 i) (by decide) rfl (fun ls hl => ?_)
      refine lv_goto (tgt := 58) hx hb dX2_processBytes_87 (by decide) ?_
      refine ih (i + 1) u _ H locs ls (by omega) hB1 ?_ hP hD hS hl
      intro j hj
      by_cases hji : j = i
      · subst hji; exact pk_us
      · rw [pk_un hji]; exact hg j (by omega)
  exact L1 nC 0 B G0 _ _ ls (by omega) hB (fun j hj => absurd hj (Nat.not_lt_zero j)) hP hD hS hl
end
section
/-! HcDesk -/
set_option maxHeartbeats 4000000 in
set_option maxRecDepth 100000 in
/-- HC128Engine() -/
theorem met_E0 (l : Launch) (D : va_G) (h : Nat) : HcV l yX2_init_2 cX2_init_2 1 1 12 3 1028 D hcNo [.ref h] [hcOb h 1 [.null, .null, .int 0, .null, .null, .int 0, .null, .int 0]] (fun _ : Nat × Nat × Nat => True) (fun u => [hcOb h 1 [.ref u.1, .ref u.2.1, .int 0, .null, .null, .int 0, .ref u.2.2, .int 0], hcIa D u.1 512 (fun _ => 0), hcIa D u.2.1 512 (fun _ => 0), hcBa D u.2.2 4 (fun _ => 0)]) := by
  refine hc_inV (by decide) (Nat.le_of_ble_eq_true rfl) ?_
  intro p e s m args below meth c ls A hx hb hr hlk hml hown hts hnm hP hK hD hE hA hAn hS hl
  have hown : s.vm.findClass RX2 = some m.cls := hown
  have hl : lv_has ls 1 [(0, .ref h)] := hl
  have hP : va_P D vwCl [hcOb h 1 [.null, .null, .int 0, .null, .null, .int 0, .null, .int 0]] s.heap := hP
  have hD : va_D A [hcOb h 1 [.null, .null, .int 0, .null, .null, .int 0, .null, .int 0]] := hD
  refine lv_aload_n hx hb dX2_init_2_0 rfl (lv_at hl 0 rfl) ?_
  refine W.objInit hx hb hown (hts _ q256) (hts _ q68) (hts _ q69) rfl (by rw [hml]; exact hl.1) rfl dX2_init_2_1 (Nat.le_of_ble_eq_true rfl) (Nat.le_of_ble_eq_true rfl) ?_
  refine W.eq (g2 := F0 m 4 ls []) rfl ?_
  refine lv_aload_n hx hb dX2_init_2_4 rfl (lv_at hl 0 rfl) ?_
  refine lv_sipush (v := 512) hx hb dX2_init_2_5 (by decide) ?_
  refine hc_newa hx hb .int rfl (hts _ q236) hK hP hD hS hA 0 rfl (fun C h => by cases h) 512 (f0 := fun _ => 0) (fun _ => rfl) (by decide) (by decide) (by decide) (Nat.le_of_ble_eq_true rfl) (Nat.le_of_ble_eq_true rfl) dX2_init_2_8 (fun q1 H hP hD hS => ?_)
  have hP : va_P D vwCl [hcOb h 1 [.null, .null, .int 0, .null, .null, .int 0, .null, .int 0], hcIa D q1 512 (fun _ => 0)] H := hP
  have hD : va_D A [hcOb h 1 [.null, .null, .int 0, .null, .null, .int 0, .null, .int 0], hcIa D q1 512 (fun _ => 0)] := hD
  refine va_put (D := D) (ci := 1) (v := .ref q1) (ty := .array .int) (C := RX2) (T := TX2) (N := 8) hx hb hts in_X2 tyX2 tyX2_ok nmX2 hown hK hP hD hS 0 rfl rfl 0 (by decide) (hts _ q257) (fun _ h9 => h9) rfl (by decide +kernel) rfl rfl (Nat.le_of_ble_eq_true rfl) dX2_init_2_10 (fun H locs hP hD hS => ?_)
  have hP : va_P D vwCl [hcOb h 1 [.ref q1, .null, .int 0, .null, .null, .int 0, .null, .int 0], hcIa D q1 512 (fun _ => 0)] H := hP
  have hD : va_D A [hcOb h 1 [.ref q1, .null, .int 0, .null, .null, .int 0, .null, .int 0], hcIa D q1 512 (fun _ => 0)] := hD
  refine lv_aload_n hx hb dX2_init_2_13 rfl (lv_at hl 0 rfl) ?_
  refine lv_sipush (v := 512) hx hb dX2_init_2_14 (by decide) ?_
  refine hc_newa hx hb .int rfl (hts _ q236) hK hP hD hS hA 0 rfl (fun C h => by cases h) 512 (f0 := fun _ => 0) (fun _ => rfl) (by decide) (by decide) (by decide) (Nat.le_of_ble_eq_true rfl) (Nat.le_of_ble_eq_true rfl) dX2_init_2_17 (fun q2 H hP hD hS => ?_)
  have hP : va_P D vwCl [hcOb h 1 [.ref q1, .null, .int 0, .null, .null, .int 0, .null, .int 0], hcIa D q1 512 (fun _ => 0), hcIa D q2 512 (fun _ => 0)] H := hP
  have hD : va_D A [hcOb h 1 [.ref q1, .null, .int 0, .null, .null, .int 0, .null, .int 0], hcIa D q1 512 (fun _ => 0), hcIa D q2 512 (fun _ => 0)] := hD
  refine va_put (D := D) (ci := 1) (v := .ref q2) (ty := .array .int) (C := RX2) (T := TX2) (N := 8) hx hb hts in_X2 tyX2 tyX2_ok nmX2 hown hK hP hD hS 0 rfl rfl 1 (by decide) (hts _ q258) (fun _ h9 => h9) rfl (by decide +kernel) rfl rfl (Nat.le_of_ble_eq_true rfl) dX2_init_2_19 (fun H locs hP hD hS => ?_)
  have hP : va_P D vwCl [hcOb h 1 [.ref q1, .ref q2, .int 0, .null, .null, .int 0, .null, .int 0], hcIa D q1 512 (fun _ => 0), hcIa D q2 512 (fun _ => 0)] H := hP
  have hD : va_D A [hcOb h 1 [.ref q1, .ref q2, .int 0, .null, .null, .int 0, .null, .int 0], hcIa D q1 512 (fun _ => 0), hcIa D q2 512 (fun _ => 0)] := hD
  refine lv_aload_n hx hb dX2_init_2_22 rfl (lv_at hl 0 rfl) ?_
  refine lv_iconst (v := 0) hx hb dX2_init_2_23 (by decide) ?_
  refine va_put (D := D) (ci := 1) (v := .int 0) (ty := .int) (C := RX2) (T := TX2) (N := 8) hx hb hts in_X2 tyX2 tyX2_ok nmX2 hown hK hP hD hS 0 rfl rfl 2 (by decide) (hts _ q259) (fun _ h9 => h9) rfl (by decide +kernel) rfl rfl (Nat.le_of_ble_eq_true rfl) dX2_init_2_24 (fun H locs hP hD hS => ?_)
  have hP : va_P D vwCl [hcOb h 1 [.ref q1, .ref q2, .int 0, .null, .null, .int 0, .null, .int 0], hcIa D q1 512 (fun _ => 0), hcIa D q2 512 (fun _ => 0)] H := hP
  have hD : va_D A [hcOb h 1 [.ref q1, .ref q2, .int 0, .null, .null, .int 0, .null, .int 0], hcIa D q1 512 (fun _ => 0), hcIa D q2 512 (fun _ => 0)] := hD
  refine lv_aload_n hx hb dX2_init_2_27 rfl (lv_at hl 0 rfl) ?_
  refine lv_iconst (v := 4) hx hb dX2_init_2_28 (by decide) ?_
  refine hc_newa hx hb .byte rfl (hts _ q112) hK hP hD hS hA 1 rfl (fun C h => by cases h) 4 (f0 := fun _ => 0) (fun _ => rfl) (by decide) (by decide) (by decide) (Nat.le_of_ble_eq_true rfl) (Nat.le_of_ble_eq_true rfl) dX2_init_2_29 (fun q3 H hP hD hS => ?_)
  have hP : va_P D vwCl [hcOb h 1 [.ref q1, .ref q2, .int 0, .null, .null, .int 0, .null, .int 0], hcIa D q1 512 (fun _ => 0), hcIa D q2 512 (fun _ => 0), hcBa D q3 4 (fun _ => 0)] H := hP
  have hD : va_D A [hcOb h 1 [.ref q1, .ref q2, .int 0, .null, .null, .int 0, .null, .int 0], hcIa D q1 512 (fun _ => 0), hcIa D q2 512 (fun _ => 0), hcBa D q3 4 (fun _ => 0)] := hD
  refine va_put (D := D) (ci := 1) (v := .ref q3) (ty := .array .byte) (C := RX2) (T := TX2) (N := 8) hx hb hts in_X2 tyX2 tyX2_ok nmX2 hown hK hP hD hS 0 rfl rfl 6 (by decide) (hts _ q263) (fun _ h9 => h9) rfl (by decide +kernel) rfl rfl (Nat.le_of_ble_eq_true rfl) dX2_init_2_31 (fun H locs hP hD hS => ?_)
  have hP : va_P D vwCl [hcOb h 1 [.ref q1, .ref q2, .int 0, .null, .null, .int 0, .ref q3, .int 0], hcIa D q1 512 (fun _ => 0), hcIa D q2 512 (fun _ => 0), hcBa D q3 4 (fun _ => 0)] H := hP
  have hD : va_D A [hcOb h 1 [.ref q1, .ref q2, .int 0, .null, .null, .int 0, .ref q3, .int 0], hcIa D q1 512 (fun _ => 0), hcIa D q2 512 (fun _ => 0), hcBa D q3 4 (fun _ => 0)] := hD
  refine lv_aload_n hx hb dX2_init_2_34 rfl (lv_at hl 0 rfl) ?_
  refine lv_iconst (v := 0) hx hb dX2_init_2_35 (by decide) ?_
  refine va_put (D := D) (ci := 1) (v := .int 0) (ty := .int) (C := RX2) (T := TX2) (N := 8) hx hb hts in_X2 tyX2 tyX2_ok nmX2 hown hK hP hD hS 0 rfl rfl 7 (by decide) (hts _ q264) (fun _ h9 => h9) rfl (by decide +kernel) rfl rfl (Nat.le_of_ble_eq_true rfl) dX2_init_2_36 (fun H locs hP hD hS => ?_)
  have hP : va_P D vwCl [hcOb h 1 [.ref q1, .ref q2, .int 0, .null, .null, .int 0, .ref q3, .int 0], hcIa D q1 512 (fun _ => 0), hcIa D q2 512 (fun _ => 0), hcBa D q3 4 (fun _ => 0)] H := hP
  have hD : va_D A [hcOb h 1 [.ref q1, .ref q2, .int 0, .null, .null, .int 0, .ref q3, .int 0], hcIa D q1 512 (fun _ => 0), hcIa D q2 512 (fun _ => 0), hcBa D q3 4 (fun _ => 0)] := hD
  exact hc_vret ((q1, q2, q3)) hx hb hr hlk (trivial) hP hD [0, 1, 2, 3] (by decide) rfl hS (Nat.le_of_ble_eq_true rfl) (Nat.le_of_ble_eq_true rfl) dX2_init_2_39
set_option maxHeartbeats 4000000 in
set_option maxRecDepth 100000 in
/-- word(to, at, w) -/
theorem met_word (l : Launch) (D : va_G) (a n i : Nat) (f : Nat → Int32) (x : Int32) (hi : i + 3 < n) (hn : n < 2147483648) : HcV l yX1_word cX1_word 3 0 0 0 0 D hcNo [.ref a, .int (nI i), .int x] [hcBa D a n f] (fun _ : Unit => True) (fun _ => [hcBa D a n (hcWd f i x)]) := by
  refine hc_inV (by decide) (Nat.le_of_ble_eq_true rfl) ?_
  intro p e s m args below meth c ls A hx hb hr hlk hml hown hts hnm hP hK hD hE hA hAn hS hl
  have hown : s.vm.findClass RX1 = some m.cls := hown
  have hl : lv_has ls 3 [(0, .ref a), (1, .int (nI i)), (2, .int x)] := hl
  have hP : va_P D vwCl [hcBa D a n f] s.heap := hP
  have hD : va_D A [hcBa D a n f] := hD
  refine lv_aload_n hx hb dX1_word_0 rfl (lv_at hl 0 rfl) ?_
  refine lv_iload_n hx hb dX1_word_1 rfl (lv_at hl 1 rfl) ?_
  refine lv_iload_n hx hb dX1_word_2 rfl (lv_at hl 2 rfl) ?_
  refine lv_bipush (v := 24) hx hb dX1_word_3 (by decide) ?_
  refine lv_ishr hx hb dX1_word_5 ?_
  refine lv_i2b hx hb dX1_word_6 rfl ?_
  refine hc_bast (k := i) hx hb hK hP hD hS 0 1 rfl rfl (by omega) (by omega) (hc_narb _) dX1_word_7 (fun H locs hP hD hS => ?_)
  have hP : va_P D vwCl [hcBa D a n (upd f i ((x >>> (24 &&& 31)).toInt8.toInt32))] H := hP
  have hD : va_D A [hcBa D a n (upd f i ((x >>> (24 &&& 31)).toInt8.toInt32))] := hD
  refine lv_aload_n hx hb dX1_word_8 rfl (lv_at hl 0 rfl) ?_
  refine lv_iload_n hx hb dX1_word_9 rfl (lv_at hl 1 rfl) ?_
  refine lv_iconst (v := 1) hx hb dX1_word_10 (by decide) ?_
  refine lv_iadd hx hb dX1_word_11 ?_
  refine hc_top (y := nI (i + 1)) (nI_add i 1) ?_
  refine lv_iload_n hx hb dX1_word_12 rfl (lv_at hl 2 rfl) ?_
  refine lv_bipush (v := 16) hx hb dX1_word_13 (by decide) ?_
  refine lv_ishr hx hb dX1_word_15 ?_
  refine lv_i2b hx hb dX1_word_16 rfl ?_
  refine hc_bast (k := (i + 1)) hx hb hK hP hD hS 0 1 rfl rfl (by omega) (by omega) (hc_narb _) dX1_word_17 (fun H locs hP hD hS => ?_)
  have hP : va_P D vwCl [hcBa D a n (upd (upd f i ((x >>> (24 &&& 31)).toInt8.toInt32)) (i + 1) ((x >>> (16 &&& 31)).toInt8.toInt32))] H := hP
  have hD : va_D A [hcBa D a n (upd (upd f i ((x >>> (24 &&& 31)).toInt8.toInt32)) (i + 1) ((x >>> (16 &&& 31)).toInt8.toInt32))] := hD
  refine lv_aload_n hx hb dX1_word_18 rfl (lv_at hl 0 rfl) ?_
  refine lv_iload_n hx hb dX1_word_19 rfl (lv_at hl 1 rfl) ?_
  refine lv_iconst (v := 2) hx hb dX1_word_20 (by decide) ?_
  refine lv_iadd hx hb dX1_word_21 ?_
  refine hc_top (y := nI (i + 2)) (nI_add i 2) ?_
  refine lv_iload_n hx hb dX1_word_22 rfl (lv_at hl 2 rfl) ?_
  refine lv_bipush (v := 8) hx hb dX1_word_23 (by decide) ?_
  refine lv_ishr hx hb dX1_word_25 ?_
  refine lv_i2b hx hb dX1_word_26 rfl ?_
  refine hc_bast (k := (i + 2)) hx hb hK hP hD hS 0 1 rfl rfl (by omega) (by omega) (hc_narb _) dX1_word_27 (fun H locs hP hD hS => ?_)
  have hP : va_P D vwCl [hcBa D a n (upd (upd (upd f i ((x >>> (24 &&& 31)).toInt8.toInt32)) (i + 1) ((x >>> (16 &&& 31)).toInt8.toInt32)) (i + 2) ((x >>> (8 &&& 31)).toInt8.toInt32))] H := hP
  have hD : va_D A [hcBa D a n (upd (upd (upd f i ((x >>> (24 &&& 31)).toInt8.toInt32)) (i + 1) ((x >>> (16 &&& 31)).toInt8.toInt32)) (i + 2) ((x >>> (8 &&& 31)).toInt8.toInt32))] := hD
  refine lv_aload_n hx hb dX1_word_28 rfl (lv_at hl 0 rfl) ?_
  refine lv_iload_n hx hb dX1_word_29 rfl (lv_at hl 1 rfl) ?_
  refine lv_iconst (v := 3) hx hb dX1_word_30 (by decide) ?_
  refine lv_iadd hx hb dX1_word_31 ?_
  refine hc_top (y := nI (i + 3)) (nI_add i 3) ?_
  refine lv_iload_n hx hb dX1_word_32 rfl (lv_at hl 2 rfl) ?_
  refine lv_i2b hx hb dX1_word_33 rfl ?_
  refine hc_bast (k := (i + 3)) hx hb hK hP hD hS 0 1 rfl rfl (by omega) (by omega) (hc_narb _) dX1_word_34 (fun H locs hP hD hS => ?_)
  have hP : va_P D vwCl [hcBa D a n (upd (upd (upd (upd f i ((x >>> (24 &&& 31)).toInt8.toInt32)) (i + 1) ((x >>> (16 &&& 31)).toInt8.toInt32)) (i + 2) ((x >>> (8 &&& 31)).toInt8.toInt32)) (i + 3) x.toInt8.toInt32)] H := hP
  have hD : va_D A [hcBa D a n (upd (upd (upd (upd f i ((x >>> (24 &&& 31)).toInt8.toInt32)) (i + 1) ((x >>> (16 &&& 31)).toInt8.toInt32)) (i + 2) ((x >>> (8 &&& 31)).toInt8.toInt32)) (i + 3) x.toInt8.toInt32)] := hD
  exact hc_vret (()) hx hb hr hlk (trivial) hP hD [0] (by decide) rfl hS (Nat.le_of_ble_eq_true rfl) (Nat.le_of_ble_eq_true rfl) dX1_word_35
set_option maxHeartbeats 4000000 in
set_option maxRecDepth 100000 in
/-- from(f) -/
theorem met_from (l : Launch) (D : va_G) (dk jk jn jt : Nat) (rv sv gv ov : Value) (z : Nat) (x : Int32) (hz : z + 1 < 2147483648) : HcO l yX1_from cX1_from 2 (.int) 0 0 D hcNo [.ref dk, .int x] [hcOb dk 0 [rv, sv, gv, .ref jk, .ref jn, .ref jt, .int (nI z), ov]] (.int (nI (hcM x % (z + 1)))) := by
  refine hc_inO (by decide) (Nat.le_of_ble_eq_true rfl) ?_
  intro p e s m args below meth c ls A hx hb hr hlk hml hown hts hnm hP hK hD hE hA hAn hl
  have hown : s.vm.findClass RX1 = some m.cls := hown
  have hl : lv_has ls 2 [(0, .ref dk), (1, .int x)] := hl
  have hP : va_P D vwCl [hcOb dk 0 [rv, sv, gv, .ref jk, .ref jn, .ref jt, .int (nI z), ov]] s.heap := hP
  have hD : va_D A [hcOb dk 0 [rv, sv, gv, .ref jk, .ref jn, .ref jt, .int (nI z), ov]] := hD
  refine lv_iload_n hx hb dX1_from_0 rfl (lv_at hl 1 rfl) ?_
  refine lv_ldc hx hb hown (hts _ q33) dX1_from_1 ?_
  refine lv_iand hx hb dX1_from_3 ?_
  refine hc_top (y := nI (hcM x)) (hcM_and x) ?_
  refine lv_aload_n hx hb dX1_from_4 rfl (lv_at hl 0 rfl) ?_
  refine va_get (D := D) (ci := 0) (C := RX1) (T := TX1) (N := 8) hx hb hts in_X1 hown hK hP 0 rfl rfl 6 (by decide) (hts _ q288) (fun _ h9 => h9) rfl dX1_from_5 ?_
  refine lv_iconst (v := 1) hx hb dX1_from_8 (by decide) ?_
  refine lv_iadd hx hb dX1_from_9 ?_
  refine hc_top (y := nI (z + 1)) (nI_1 z) ?_
  refine lv_irem hx hb dX1_from_10 (hc_ne0 (Nat.succ_pos _) hz) ?_
  refine hc_top (y := nI (hcM x % (z + 1))) (hc_rem (hcM_lt x) (Nat.succ_pos _) hz) ?_
  exact hc_oret hx hb hr hlk rfl dX1_from_11
set_option maxHeartbeats 4000000 in
set_option maxRecDepth 100000 in
/-- count(f, n) -/
theorem met_count (l : Launch) (D : va_G) (dk jk jn jt : Nat) (rv sv gv ov : Value) (z f : Nat) (x : Int32) (hz : z + 1 < 2147483648) (hf : f ≤ z) : HcO l yX1_count cX1_count 3 (.int) 0 0 D hcNo [.ref dk, .int (nI f), .int x] [hcOb dk 0 [rv, sv, gv, .ref jk, .ref jn, .ref jt, .int (nI z), ov]] (.int (nI (hcM x % (z - f + 1)))) := by
  refine hc_inO (by decide) (Nat.le_of_ble_eq_true rfl) ?_
  intro p e s m args below meth c ls A hx hb hr hlk hml hown hts hnm hP hK hD hE hA hAn hl
  have hown : s.vm.findClass RX1 = some m.cls := hown
  have hl : lv_has ls 3 [(0, .ref dk), (1, .int (nI f)), (2, .int x)] := hl
  have hP : va_P D vwCl [hcOb dk 0 [rv, sv, gv, .ref jk, .ref jn, .ref jt, .int (nI z), ov]] s.heap := hP
  have hD : va_D A [hcOb dk 0 [rv, sv, gv, .ref jk, .ref jn, .ref jt, .int (nI z), ov]] := hD
  refine lv_iload_n hx hb dX1_count_0 rfl (lv_at hl 2 rfl) ?_
  refine lv_ldc hx hb hown (hts _ q33) dX1_count_1 ?_
  refine lv_iand hx hb dX1_count_3 ?_
  refine hc_top (y := nI (hcM x)) (hcM_and x) ?_
  refine lv_aload_n hx hb dX1_count_4 rfl (lv_at hl 0 rfl) ?_
  refine va_get (D := D) (ci := 0) (C := RX1) (T := TX1) (N := 8) hx hb hts in_X1 hown hK hP 0 rfl rfl 6 (by decide) (hts _ q288) (fun _ h9 => h9) rfl dX1_count_5 ?_
  refine lv_iload_n hx hb dX1_count_8 rfl (lv_at hl 1 rfl) ?_
  refine lv_isub hx hb dX1_count_9 ?_
  refine hc_top (y := nI (z - f)) (pk_sub hf) ?_
  refine lv_iconst (v := 1) hx hb dX1_count_10 (by decide) ?_
  refine lv_iadd hx hb dX1_count_11 ?_
  refine hc_top (y := nI (z - f + 1)) (nI_1 _) ?_
  refine lv_irem hx hb dX1_count_12 (hc_ne0 (Nat.succ_pos _) (by omega)) ?_
  refine hc_top (y := nI (hcM x % (z - f + 1))) (hc_rem (hcM_lt x) (Nat.succ_pos _) (by omega)) ?_
  exact hc_oret hx hb hr hlk rfl dX1_count_13
set_option maxHeartbeats 4000000 in
set_option maxRecDepth 100000 in
/-- trim(n) -/
theorem met_trim (l : Launch) (D : va_G) (dk jk jn jt : Nat) (rv sv gv ov : Value) (z : Nat) (x : Int32) (hz : z + 1 < 2147483648) : HcV l yX1_trim cX1_trim 2 1 21 0 0 D hcNo [.ref dk, .int x] [hcOb dk 0 [rv, sv, gv, .ref jk, .ref jn, .ref jt, .int (nI z), ov]] (fun _ : Unit => True) (fun _ => [hcOb dk 0 [rv, sv, gv, .ref jk, .ref jn, .ref jt, .int (nI (hcM x % (z + 1))), ov]]) := by
  refine hc_inV (by decide) (Nat.le_of_ble_eq_true rfl) ?_
  intro p e s m args below meth c ls A hx hb hr hlk hml hown hts hnm hP hK hD hE hA hAn hS hl
  have hown : s.vm.findClass RX1 = some m.cls := hown
  have hl : lv_has ls 2 [(0, .ref dk), (1, .int x)] := hl
  have hP : va_P D vwCl [hcOb dk 0 [rv, sv, gv, .ref jk, .ref jn, .ref jt, .int (nI z), ov]] s.heap := hP
  have hD : va_D A [hcOb dk 0 [rv, sv, gv, .ref jk, .ref jn, .ref jt, .int (nI z), ov]] := hD
  refine lv_aload_n hx hb dX1_trim_0 rfl (lv_at hl 0 rfl) ?_
  refine lv_aload_n hx hb dX1_trim_1 rfl (lv_at hl 0 rfl) ?_
  refine lv_iload_n hx hb dX1_trim_2 rfl (lv_at hl 1 rfl) ?_
  refine hc_oV (met_from l D dk jk jn jt rv sv gv ov z x hz) ⟨hx, hb, hml, hown, hts⟩ (cwV 1 hts (lw_V q28 q30 qs0 q11 q32) rfl rfl rfl (by decide +kernel) ⟨Nat.le_of_ble_eq_true rfl, Nat.le_of_ble_eq_true rfl⟩) hcBl_no (hc_no _ _) hK hP hD [0] (by decide) rfl 0 (ci := 0) rfl rfl rfl rfl hl.1 rfl (Nat.le_of_ble_eq_true rfl) dX1_trim_3 ⟨Nat.le_of_ble_eq_true rfl, Nat.le_of_ble_eq_true rfl⟩ ?_
  refine va_put (D := D) (ci := 0) (v := .int (nI (hcM x % (z + 1)))) (ty := .int) (C := RX1) (T := TX1) (N := 8) hx hb hts in_X1 tyX1 tyX1_ok nmX1 hown hK hP hD hS 0 rfl rfl 6 (by decide) (hts _ q288) (fun _ h9 => h9) rfl (by decide +kernel) rfl rfl (Nat.le_of_ble_eq_true rfl) dX1_trim_6 (fun H locs hP hD hS => ?_)
  have hP : va_P D vwCl [hcOb dk 0 [rv, sv, gv, .ref jk, .ref jn, .ref jt, .int (nI (hcM x % (z + 1))), ov]] H := hP
  have hD : va_D A [hcOb dk 0 [rv, sv, gv, .ref jk, .ref jn, .ref jt, .int (nI (hcM x % (z + 1))), ov]] := hD
  exact hc_vret (()) hx hb hr hlk (trivial) hP hD [0] (by decide) rfl hS (Nat.le_of_ble_eq_true rfl) (Nat.le_of_ble_eq_true rfl) dX1_trim_9
set_option maxHeartbeats 4000000 in
set_option maxRecDepth 100000 in
/-- put(a, b, c, d) -/
theorem met_put (l : Launch) (D : va_G) (dk jk jn jt : Nat) (rv sv gv ov : Value) (z : Nat) (T : Nat → Int32) (x y t u : Int32) (hz : z + 16 ≤ 256) : HcI l yX1_put cX1_put 5 (.boolean) 1 22 0 0 D hcNo [.ref dk, .int x, .int y, .int t, .int u] [hcOb dk 0 [rv, sv, gv, .ref jk, .ref jn, .ref jt, .int (nI z), ov], hcBa D jt 256 T] (fun (r : Int32) (_ : Unit) => r = 1) (fun _ => [hcOb dk 0 [rv, sv, gv, .ref jk, .ref jn, .ref jt, .int (nI (z + 16)), ov], hcBa D jt 256 (hcW4 T z x y t u)]) := by
  refine hc_inI (by decide) (Nat.le_of_ble_eq_true rfl) ?_
  intro p e s m args below meth c ls A hx hb hr hlk hml hown hts hnm hP hK hD hE hA hAn hS hl
  have hown : s.vm.findClass RX1 = some m.cls := hown
  have hl : lv_has ls 5 [(0, .ref dk), (1, .int x), (2, .int y), (3, .int t), (4, .int u)] := hl
  have hP : va_P D vwCl [hcOb dk 0 [rv, sv, gv, .ref jk, .ref jn, .ref jt, .int (nI z), ov], hcBa D jt 256 T] s.heap := hP
  have hD : va_D A [hcOb dk 0 [rv, sv, gv, .ref jk, .ref jn, .ref jt, .int (nI z), ov], hcBa D jt 256 T] := hD
  refine lv_aload_n hx hb dX1_put_0 rfl (lv_at hl 0 rfl) ?_
  refine va_get (D := D) (ci := 0) (C := RX1) (T := TX1) (N := 8) hx hb hts in_X1 hown hK hP 0 rfl rfl 6 (by decide) (hts _ q288) (fun _ h9 => h9) rfl dX1_put_1 ?_
  refine lv_aload_n hx hb dX1_put_4 rfl (lv_at hl 0 rfl) ?_
  refine va_get (D := D) (ci := 0) (C := RX1) (T := TX1) (N := 8) hx hb hts in_X1 hown hK hP 0 rfl rfl 5 (by decide) (hts _ q287) (fun _ h9 => h9) rfl dX1_put_5 ?_
  refine va_alen (v := nI 256) hx hb hK hP 1 1 rfl rfl rfl dX1_put_8 ?_
  refine lv_bipush (v := 16) hx hb dX1_put_9 (by decide) ?_
  refine lv_isub hx hb dX1_put_11 ?_
  refine hc_top (y := nI 240) (hc_subE rfl) ?_
  refine lv_icmp_le (tgt := 17) hx hb dX1_put_12 (by decide) (fun _ => ?_) (fun hc => absurd (nI_le (a := z) (b := 240) (by omega) (by decide)) hc)
  refine lv_aload_n hx hb dX1_put_17 rfl (lv_at hl 0 rfl) ?_
  refine va_get (D := D) (ci := 0) (C := RX1) (T := TX1) (N := 8) hx hb hts in_X1 hown hK hP 0 rfl rfl 5 (by decide) (hts _ q287) (fun _ h9 => h9) rfl dX1_put_18 ?_
  refine lv_aload_n hx hb dX1_put_21 rfl (lv_at hl 0 rfl) ?_
  refine va_get (D := D) (ci := 0) (C := RX1) (T := TX1) (N := 8) hx hb hts in_X1 hown hK hP 0 rfl rfl 6 (by decide) (hts _ q288) (fun _ h9 => h9) rfl dX1_put_22 ?_
  refine lv_iload_n hx hb dX1_put_25 rfl (lv_at hl 1 rfl) ?_
  refine hc_vS (wr := [hcOb dk 0 [rv, sv, gv, .ref jk, .ref jn, .ref jt, .int (nI z), ov]]) (met_word l D jt 256 z T x (by omega) (by decide)) ⟨hx, hb, hml, hown, hts⟩ (va_cwS 3 hts (lw_S q311 q312 q11 q313) rfl rfl rfl (by decide +kernel) ⟨Nat.le_of_ble_eq_true rfl, Nat.le_of_ble_eq_true rfl⟩) hcBl_no (hc_no _ _) hK hP hD hS hA [1] [0] (by decide) rfl rfl (by decide) (by decide) rfl hl.1 rfl (Nat.le_of_ble_eq_true rfl) dX1_put_26 ⟨Nat.le_of_ble_eq_true rfl, Nat.le_of_ble_eq_true rfl⟩ (fun _ H locs hw hP hD hS => ?_)
  have hP : va_P D vwCl [hcOb dk 0 [rv, sv, gv, .ref jk, .ref jn, .ref jt, .int (nI z), ov], hcBa D jt 256 (hcWd T z x)] H := hP
  have hD : va_D A [hcOb dk 0 [rv, sv, gv, .ref jk, .ref jn, .ref jt, .int (nI z), ov], hcBa D jt 256 (hcWd T z x)] := hD
  have hP : va_P D vwCl [hcOb dk 0 [rv, sv, gv, .ref jk, .ref jn, .ref jt, .int (nI z), ov], hcBa D jt 256 (hcWd T z x)] H := hc_psub hP [0, 1] rfl
  have hD : va_D A [hcOb dk 0 [rv, sv, gv, .ref jk, .ref jn, .ref jt, .int (nI z), ov], hcBa D jt 256 (hcWd T z x)] := hD.sub [0, 1] (by decide) rfl
  refine lv_aload_n hx hb dX1_put_29 rfl (lv_at hl 0 rfl) ?_
  refine va_get (D := D) (ci := 0) (C := RX1) (T := TX1) (N := 8) hx hb hts in_X1 hown hK hP 0 rfl rfl 5 (by decide) (hts _ q287) (fun _ h9 => h9) rfl dX1_put_30 ?_
  refine lv_aload_n hx hb dX1_put_33 rfl (lv_at hl 0 rfl) ?_
  refine va_get (D := D) (ci := 0) (C := RX1) (T := TX1) (N := 8) hx hb hts in_X1 hown hK hP 0 rfl rfl 6 (by decide) (hts _ q288) (fun _ h9 => h9) rfl dX1_put_34 ?_
  refine lv_iconst (v := 4) hx hb dX1_put_37 (by decide) ?_
  refine lv_iadd hx hb dX1_put_38 ?_
  refine hc_top (y := nI (z + 4)) (nI_add z 4) ?_
  refine lv_iload_n hx hb dX1_put_39 rfl (lv_at hl 2 rfl) ?_
  refine hc_vS (wr := [hcOb dk 0 [rv, sv, gv, .ref jk, .ref jn, .ref jt, .int (nI z), ov]]) (met_word l D jt 256 (z + 4) (hcWd T z x) y (by omega) (by decide)) ⟨hx, hb, hml, hown, hts⟩ (va_cwS 3 hts (lw_S q311 q312 q11 q313) rfl rfl rfl (by decide +kernel) ⟨Nat.le_of_ble_eq_true rfl, Nat.le_of_ble_eq_true rfl⟩) hcBl_no (hc_no _ _) hK hP hD hS hA [1] [0] (by decide) rfl rfl (by decide) (by decide) rfl hl.1 rfl (Nat.le_of_ble_eq_true rfl) dX1_put_40 ⟨Nat.le_of_ble_eq_true rfl, Nat.le_of_ble_eq_true rfl⟩ (fun _ H locs hw hP hD hS => ?_)
  have hP : va_P D vwCl [hcOb dk 0 [rv, sv, gv, .ref jk, .ref jn, .ref jt, .int (nI z), ov], hcBa D jt 256 (hcWd (hcWd T z x) (z + 4) y)] H := hP
  have hD : va_D A [hcOb dk 0 [rv, sv, gv, .ref jk, .ref jn, .ref jt, .int (nI z), ov], hcBa D jt 256 (hcWd (hcWd T z x) (z + 4) y)] := hD
  have hP : va_P D vwCl [hcOb dk 0 [rv, sv, gv, .ref jk, .ref jn, .ref jt, .int (nI z), ov], hcBa D jt 256 (hcWd (hcWd T z x) (z + 4) y)] H := hc_psub hP [0, 1] rfl
  have hD : va_D A [hcOb dk 0 [rv, sv, gv, .ref jk, .ref jn, .ref jt, .int (nI z), ov], hcBa D jt 256 (hcWd (hcWd T z x) (z + 4) y)] := hD.sub [0, 1] (by decide) rfl
  refine lv_aload_n hx hb dX1_put_43 rfl (lv_at hl 0 rfl) ?_
  refine va_get (D := D) (ci := 0) (C := RX1) (T := TX1) (N := 8) hx hb hts in_X1 hown hK hP 0 rfl rfl 5 (by decide) (hts _ q287) (fun _ h9 => h9) rfl dX1_put_44 ?_
  refine lv_aload_n hx hb dX1_put_47 rfl (lv_at hl 0 rfl) ?_
  refine va_get (D := D) (ci := 0) (C := RX1) (T := TX1) (N := 8) hx hb hts in_X1 hown hK hP 0 rfl rfl 6 (by decide) (hts _ q288) (fun _ h9 => h9) rfl dX1_put_48 ?_
  refine lv_bipush (v := 8) hx hb dX1_put_51 (by decide) ?_
  refine lv_iadd hx hb dX1_put_53 ?_
  refine hc_top (y := nI (z + 8)) (nI_add z 8) ?_
  refine lv_iload_n hx hb dX1_put_54 rfl (lv_at hl 3 rfl) ?_
  refine hc_vS (wr := [hcOb dk 0 [rv, sv, gv, .ref jk, .ref jn, .ref jt, .int (nI z), ov]]) (met_word l D jt 256 (z + 8) (hcWd (hcWd T z x) (z + 4) y) t (by omega) (by decide)) ⟨hx, hb, hml, hown, hts⟩ (va_cwS 3 hts (lw_S q311 q312 q11 q313) rfl rfl rfl (by decide +kernel) ⟨Nat.le_of_ble_eq_true rfl, Nat.le_of_ble_eq_true rfl⟩) hcBl_no (hc_no _ _) hK hP hD hS hA [1] [0] (by decide) rfl rfl (by decide) (by decide) rfl hl.1 rfl (Nat.le_of_ble_eq_true rfl) dX1_put_55 ⟨Nat.le_of_ble_eq_true rfl, Nat.le_of_ble_eq_true rfl⟩ (fun _ H locs hw hP hD hS => ?_)
  have hP : va_P D vwCl [hcOb dk 0 [rv, sv, gv, .ref jk, .ref jn, .ref jt, .int (nI z), ov], hcBa D jt 256 (hcWd (hcWd (hcWd T z x) (z + 4) y) (z + 8) t)] H := hP
  have hD : va_D A [hcOb dk 0 [rv, sv, gv, .ref jk, .ref jn, .ref jt, .int (nI z), ov], hcBa D jt 256 (hcWd (hcWd (hcWd T z x) (z + 4) y) (z + 8) t)] := hD
  have hP : va_P D vwCl [hcOb dk 0 [rv, sv, gv, .ref jk, .ref jn, .ref jt, .int (nI z), ov], hcBa D jt 256 (hcWd (hcWd (hcWd T z x) (z + 4) y) (z + 8) t)] H := hc_psub hP [0, 1] rfl
  have hD : va_D A [hcOb dk 0 [rv, sv, gv, .ref jk, .ref jn, .ref jt, .int (nI z), ov], hcBa D jt 256 (hcWd (hcWd (hcWd T z x) (z + 4) y) (z + 8) t)] := hD.sub [0, 1] (by decide) rfl
  refine lv_aload_n hx hb dX1_put_58 rfl (lv_at hl 0 rfl) ?_
  refine va_get (D := D) (ci := 0) (C := RX1) (T := TX1) (N := 8) hx hb hts in_X1 hown hK hP 0 rfl rfl 5 (by decide) (hts _ q287) (fun _ h9 => h9) rfl dX1_put_59 ?_
  refine lv_aload_n hx hb dX1_put_62 rfl (lv_at hl 0 rfl) ?_
  refine va_get (D := D) (ci := 0) (C := RX1) (T := TX1) (N := 8) hx hb hts in_X1 hown hK hP 0 rfl rfl 6 (by decide) (hts _ q288) (fun _ h9 => h9) rfl dX1_put_63 ?_
  refine lv_bipush (v := 12) hx hb dX1_put_66 (by decide) ?_
  refine lv_iadd hx hb dX1_put_68 ?_
  refine hc_top (y := nI (z + 12)) (nI_add z 12) ?_
  refine lv_iload hx hb dX1_put_69 (lv_at hl 4 rfl) ?_
  refine hc_vS (wr := [hcOb dk 0 [rv, sv, gv, .ref jk, .ref jn, .ref jt, .int (nI z), ov]]) (met_word l D jt 256 (z + 12) (hcWd (hcWd (hcWd T z x) (z + 4) y) (z + 8) t) u (by omega) (by decide)) ⟨hx, hb, hml, hown, hts⟩ (va_cwS 3 hts (lw_S q311 q312 q11 q313) rfl rfl rfl (by decide +kernel) ⟨Nat.le_of_ble_eq_true rfl, Nat.le_of_ble_eq_true rfl⟩) hcBl_no (hc_no _ _) hK hP hD hS hA [1] [0] (by decide) rfl rfl (by decide) (by decide) rfl hl.1 rfl (Nat.le_of_ble_eq_true rfl) dX1_put_71 ⟨Nat.le_of_ble_eq_true rfl, Nat.le_of_ble_eq_true rfl⟩ (fun _ H locs hw hP hD hS => ?_)
  have hP : va_P D vwCl [hcOb dk 0 [rv, sv, gv, .ref jk, .ref jn, .ref jt, .int (nI z), ov], hcBa D jt 256 (hcWd (hcWd (hcWd (hcWd T z x) (z + 4) y) (z + 8) t) (z + 12) u)] H := hP
  have hD : va_D A [hcOb dk 0 [rv, sv, gv, .ref jk, .ref jn, .ref jt, .int (nI z), ov], hcBa D jt 256 (hcWd (hcWd (hcWd (hcWd T z x) (z + 4) y) (z + 8) t) (z + 12) u)] := hD
  have hP : va_P D vwCl [hcOb dk 0 [rv, sv, gv, .ref jk, .ref jn, .ref jt, .int (nI z), ov], hcBa D jt 256 (hcWd (hcWd (hcWd (hcWd T z x) (z + 4) y) (z + 8) t) (z + 12) u)] H := hc_psub hP [0, 1] rfl
  have hD : va_D A [hcOb dk 0 [rv, sv, gv, .ref jk, .ref jn, .ref jt, .int (nI z), ov], hcBa D jt 256 (hcWd (hcWd (hcWd (hcWd T z x) (z + 4) y) (z + 8) t) (z + 12) u)] := hD.sub [0, 1] (by decide) rfl
  refine lv_aload_n hx hb dX1_put_74 rfl (lv_at hl 0 rfl) ?_
  refine lv_dup hx hb dX1_put_75 rfl ?_
  refine va_get (D := D) (ci := 0) (C := RX1) (T := TX1) (N := 8) hx hb hts in_X1 hown hK hP 0 rfl rfl 6 (by decide) (hts _ q288) (fun _ h9 => h9) rfl dX1_put_76 ?_
  refine lv_bipush (v := 16) hx hb dX1_put_79 (by decide) ?_
  refine lv_iadd hx hb dX1_put_81 ?_
  refine hc_top (y := nI (z + 16)) (nI_add z 16) ?_
  refine va_put (D := D) (ci := 0) (v := .int (nI (z + 16))) (ty := .int) (C := RX1) (T := TX1) (N := 8) hx hb hts in_X1 tyX1 tyX1_ok nmX1 hown hK hP hD hS 0 rfl rfl 6 (by decide) (hts _ q288) (fun _ h9 => h9) rfl (by decide +kernel) rfl rfl (Nat.le_of_ble_eq_true rfl) dX1_put_82 (fun H locs hP hD hS => ?_)
  have hP : va_P D vwCl [hcOb dk 0 [rv, sv, gv, .ref jk, .ref jn, .ref jt, .int (nI (z + 16)), ov], hcBa D jt 256 (hcWd (hcWd (hcWd (hcWd T z x) (z + 4) y) (z + 8) t) (z + 12) u)] H := hP
  have hD : va_D A [hcOb dk 0 [rv, sv, gv, .ref jk, .ref jn, .ref jt, .int (nI (z + 16)), ov], hcBa D jt 256 (hcWd (hcWd (hcWd (hcWd T z x) (z + 4) y) (z + 8) t) (z + 12) u)] := hD
  refine lv_iconst (v := 1) hx hb dX1_put_85 (by decide) ?_
  exact hc_iret (()) hx hb hr hlk (rfl) (rfl) hP hD [0, 1] (by decide) rfl hS (Nat.le_of_ble_eq_true rfl) (Nat.le_of_ble_eq_true rfl) dX1_put_86
set_option maxHeartbeats 4000000 in
set_option maxRecDepth 100000 in
/-- key(half, a, b, c, d) -/
theorem met_key (l : Launch) (D : va_G) (dk jk jn jt : Nat) (rv sv gv zv ov : Value) (b : Nat) (T : Nat → Int32) (x y t u : Int32) (h2 : b < 2) : HcV l yX1_key cX1_key 7 1 22 0 0 D hcNo [.ref dk, .int (nI b), .int x, .int y, .int t, .int u] [hcOb dk 0 [rv, sv, gv, .ref jk, .ref jn, .ref jt, zv, ov], hcBa D jk 32 T] (fun _ : Unit => True) (fun _ => [hcOb dk 0 [rv, sv, gv, .ref jk, .ref jn, .ref jt, zv, ov], hcBa D jk 32 (hcW4 T (16 * b) x y t u)]) := by
  refine hc_inV (by decide) (Nat.le_of_ble_eq_true rfl) ?_
  intro p e s m args below meth c ls A hx hb hr hlk hml hown hts hnm hP hK hD hE hA hAn hS hl
  have hown : s.vm.findClass RX1 = some m.cls := hown
  have hl : lv_has ls 7 [(0, .ref dk), (1, .int (nI b)), (2, .int x), (3, .int y), (4, .int t), (5, .int u)] := hl
  have hP : va_P D vwCl [hcOb dk 0 [rv, sv, gv, .ref jk, .ref jn, .ref jt, zv, ov], hcBa D jk 32 T] s.heap := hP
  have hD : va_D A [hcOb dk 0 [rv, sv, gv, .ref jk, .ref jn, .ref jt, zv, ov], hcBa D jk 32 T] := hD
  refine lv_iload_n hx hb dX1_key_0 rfl (lv_at hl 1 rfl) ?_
  refine lv_iconst (v := 1) hx hb dX1_key_1 (by decide) ?_
  refine lv_iand hx hb dX1_key_2 ?_
  refine lv_iconst (v := 4) hx hb dX1_key_3 (by decide) ?_
  refine lv_ishl hx hb dX1_key_4 ?_
  refine hc_top (y := nI (16 * b)) (by rcases (show b = 0 ∨ b = 1 by omega) with rfl | rfl <;> decide) ?_
  refine lv_istore (lv' := [(6, .int (nI (16 * b))), (0, .ref dk), (1, .int (nI b)), (2, .int x), (3, .int y), (4, .int t), (5, .int u)]) hx hb dX1_key_5 hl (by decide) rfl (fun ls hl => ?_)
  refine lv_aload_n hx hb dX1_key_7 rfl (lv_at hl 1 rfl) ?_
  refine va_get (D := D) (ci := 0) (C := RX1) (T := TX1) (N := 8) hx hb hts in_X1 hown hK hP 0 rfl rfl 3 (by decide) (hts _ q285) (fun _ h9 => h9) rfl dX1_key_8 ?_
  refine lv_iload hx hb dX1_key_11 (lv_at hl 0 rfl) ?_
  refine lv_iload_n hx hb dX1_key_13 rfl (lv_at hl 3 rfl) ?_
  refine hc_vS (wr := [hcOb dk 0 [rv, sv, gv, .ref jk, .ref jn, .ref jt, zv, ov]]) (met_word l D jk 32 (16 * b) T x (by omega) (by decide)) ⟨hx, hb, hml, hown, hts⟩ (va_cwS 3 hts (lw_S q311 q312 q11 q313) rfl rfl rfl (by decide +kernel) ⟨Nat.le_of_ble_eq_true rfl, Nat.le_of_ble_eq_true rfl⟩) hcBl_no (hc_no _ _) hK hP hD hS hA [1] [0] (by decide) rfl rfl (by decide) (by decide) rfl hl.1 rfl (Nat.le_of_ble_eq_true rfl) dX1_key_14 ⟨Nat.le_of_ble_eq_true rfl, Nat.le_of_ble_eq_true rfl⟩ (fun _ H locs hw hP hD hS => ?_)
  have hP : va_P D vwCl [hcOb dk 0 [rv, sv, gv, .ref jk, .ref jn, .ref jt, zv, ov], hcBa D jk 32 (hcWd T (16 * b) x)] H := hP
  have hD : va_D A [hcOb dk 0 [rv, sv, gv, .ref jk, .ref jn, .ref jt, zv, ov], hcBa D jk 32 (hcWd T (16 * b) x)] := hD
  have hP : va_P D vwCl [hcOb dk 0 [rv, sv, gv, .ref jk, .ref jn, .ref jt, zv, ov], hcBa D jk 32 (hcWd T (16 * b) x)] H := hc_psub hP [0, 1] rfl
  have hD : va_D A [hcOb dk 0 [rv, sv, gv, .ref jk, .ref jn, .ref jt, zv, ov], hcBa D jk 32 (hcWd T (16 * b) x)] := hD.sub [0, 1] (by decide) rfl
  refine lv_aload_n hx hb dX1_key_17 rfl (lv_at hl 1 rfl) ?_
  refine va_get (D := D) (ci := 0) (C := RX1) (T := TX1) (N := 8) hx hb hts in_X1 hown hK hP 0 rfl rfl 3 (by decide) (hts _ q285) (fun _ h9 => h9) rfl dX1_key_18 ?_
  refine lv_iload hx hb dX1_key_21 (lv_at hl 0 rfl) ?_
  refine lv_iconst (v := 4) hx hb dX1_key_23 (by decide) ?_
  refine lv_iadd hx hb dX1_key_24 ?_
  refine hc_top (y := nI (16 * b + 4)) (nI_add (16 * b) 4) ?_
  refine lv_iload_n hx hb dX1_key_25 rfl (lv_at hl 4 rfl) ?_
  refine hc_vS (wr := [hcOb dk 0 [rv, sv, gv, .ref jk, .ref jn, .ref jt, zv, ov]]) (met_word l D jk 32 (16 * b + 4) (hcWd T (16 * b) x) y (by omega) (by decide)) ⟨hx, hb, hml, hown, hts⟩ (va_cwS 3 hts (lw_S q311 q312 q11 q313) rfl rfl rfl (by decide +kernel) ⟨Nat.le_of_ble_eq_true rfl, Nat.le_of_ble_eq_true rfl⟩) hcBl_no (hc_no _ _) hK hP hD hS hA [1] [0] (by decide) rfl rfl (by decide) (by decide) rfl hl.1 rfl (Nat.le_of_ble_eq_true rfl) dX1_key_26 ⟨Nat.le_of_ble_eq_true rfl, Nat.le_of_ble_eq_true rfl⟩ (fun _ H locs hw hP hD hS => ?_)
  have hP : va_P D vwCl [hcOb dk 0 [rv, sv, gv, .ref jk, .ref jn, .ref jt, zv, ov], hcBa D jk 32 (hcWd (hcWd T (16 * b) x) (16 * b + 4) y)] H := hP
  have hD : va_D A [hcOb dk 0 [rv, sv, gv, .ref jk, .ref jn, .ref jt, zv, ov], hcBa D jk 32 (hcWd (hcWd T (16 * b) x) (16 * b + 4) y)] := hD
  have hP : va_P D vwCl [hcOb dk 0 [rv, sv, gv, .ref jk, .ref jn, .ref jt, zv, ov], hcBa D jk 32 (hcWd (hcWd T (16 * b) x) (16 * b + 4) y)] H := hc_psub hP [0, 1] rfl
  have hD : va_D A [hcOb dk 0 [rv, sv, gv, .ref jk, .ref jn, .ref jt, zv, ov], hcBa D jk 32 (hcWd (hcWd T (16 * b) x) (16 * b + 4) y)] := hD.sub [0, 1] (by decide) rfl
  refine lv_aload_n hx hb dX1_key_29 rfl (lv_at hl 1 rfl) ?_
  refine va_get (D := D) (ci := 0) (C := RX1) (T := TX1) (N := 8) hx hb hts in_X1 hown hK hP 0 rfl rfl 3 (by decide) (hts _ q285) (fun _ h9 => h9) rfl dX1_key_30 ?_
  refine lv_iload hx hb dX1_key_33 (lv_at hl 0 rfl) ?_
  refine lv_bipush (v := 8) hx hb dX1_key_35 (by decide) ?_
  refine lv_iadd hx hb dX1_key_37 ?_
  refine hc_top (y := nI (16 * b + 8)) (nI_add (16 * b) 8) ?_
  refine lv_iload hx hb dX1_key_38 (lv_at hl 5 rfl) ?_
  refine hc_vS (wr := [hcOb dk 0 [rv, sv, gv, .ref jk, .ref jn, .ref jt, zv, ov]]) (met_word l D jk 32 (16 * b + 8) (hcWd (hcWd T (16 * b) x) (16 * b + 4) y) t (by omega) (by decide)) ⟨hx, hb, hml, hown, hts⟩ (va_cwS 3 hts (lw_S q311 q312 q11 q313) rfl rfl rfl (by decide +kernel) ⟨Nat.le_of_ble_eq_true rfl, Nat.le_of_ble_eq_true rfl⟩) hcBl_no (hc_no _ _) hK hP hD hS hA [1] [0] (by decide) rfl rfl (by decide) (by decide) rfl hl.1 rfl (Nat.le_of_ble_eq_true rfl) dX1_key_40 ⟨Nat.le_of_ble_eq_true rfl, Nat.le_of_ble_eq_true rfl⟩ (fun _ H locs hw hP hD hS => ?_)
  have hP : va_P D vwCl [hcOb dk 0 [rv, sv, gv, .ref jk, .ref jn, .ref jt, zv, ov], hcBa D jk 32 (hcWd (hcWd (hcWd T (16 * b) x) (16 * b + 4) y) (16 * b + 8) t)] H := hP
  have hD : va_D A [hcOb dk 0 [rv, sv, gv, .ref jk, .ref jn, .ref jt, zv, ov], hcBa D jk 32 (hcWd (hcWd (hcWd T (16 * b) x) (16 * b + 4) y) (16 * b + 8) t)] := hD
  have hP : va_P D vwCl [hcOb dk 0 [rv, sv, gv, .ref jk, .ref jn, .ref jt, zv, ov], hcBa D jk 32 (hcWd (hcWd (hcWd T (16 * b) x) (16 * b + 4) y) (16 * b + 8) t)] H := hc_psub hP [0, 1] rfl
  have hD : va_D A [hcOb dk 0 [rv, sv, gv, .ref jk, .ref jn, .ref jt, zv, ov], hcBa D jk 32 (hcWd (hcWd (hcWd T (16 * b) x) (16 * b + 4) y) (16 * b + 8) t)] := hD.sub [0, 1] (by decide) rfl
  refine lv_aload_n hx hb dX1_key_43 rfl (lv_at hl 1 rfl) ?_
  refine va_get (D := D) (ci := 0) (C := RX1) (T := TX1) (N := 8) hx hb hts in_X1 hown hK hP 0 rfl rfl 3 (by decide) (hts _ q285) (fun _ h9 => h9) rfl dX1_key_44 ?_
  refine lv_iload hx hb dX1_key_47 (lv_at hl 0 rfl) ?_
  refine lv_bipush (v := 12) hx hb dX1_key_49 (by decide) ?_
  refine lv_iadd hx hb dX1_key_51 ?_
  refine hc_top (y := nI (16 * b + 12)) (nI_add (16 * b) 12) ?_
  refine lv_iload hx hb dX1_key_52 (lv_at hl 6 rfl) ?_
  refine hc_vS (wr := [hcOb dk 0 [rv, sv, gv, .ref jk, .ref jn, .ref jt, zv, ov]]) (met_word l D jk 32 (16 * b + 12) (hcWd (hcWd (hcWd T (16 * b) x) (16 * b + 4) y) (16 * b + 8) t) u (by omega) (by decide)) ⟨hx, hb, hml, hown, hts⟩ (va_cwS 3 hts (lw_S q311 q312 q11 q313) rfl rfl rfl (by decide +kernel) ⟨Nat.le_of_ble_eq_true rfl, Nat.le_of_ble_eq_true rfl⟩) hcBl_no (hc_no _ _) hK hP hD hS hA [1] [0] (by decide) rfl rfl (by decide) (by decide) rfl hl.1 rfl (Nat.le_of_ble_eq_true rfl) dX1_key_54 ⟨Nat.le_of_ble_eq_true rfl, Nat.le_of_ble_eq_true rfl⟩ (fun _ H locs hw hP hD hS => ?_)
  have hP : va_P D vwCl [hcOb dk 0 [rv, sv, gv, .ref jk, .ref jn, .ref jt, zv, ov], hcBa D jk 32 (hcWd (hcWd (hcWd (hcWd T (16 * b) x) (16 * b + 4) y) (16 * b + 8) t) (16 * b + 12) u)] H := hP
  have hD : va_D A [hcOb dk 0 [rv, sv, gv, .ref jk, .ref jn, .ref jt, zv, ov], hcBa D jk 32 (hcWd (hcWd (hcWd (hcWd T (16 * b) x) (16 * b + 4) y) (16 * b + 8) t) (16 * b + 12) u)] := hD
  have hP : va_P D vwCl [hcOb dk 0 [rv, sv, gv, .ref jk, .ref jn, .ref jt, zv, ov], hcBa D jk 32 (hcWd (hcWd (hcWd (hcWd T (16 * b) x) (16 * b + 4) y) (16 * b + 8) t) (16 * b + 12) u)] H := hc_psub hP [0, 1] rfl
  have hD : va_D A [hcOb dk 0 [rv, sv, gv, .ref jk, .ref jn, .ref jt, zv, ov], hcBa D jk 32 (hcWd (hcWd (hcWd (hcWd T (16 * b) x) (16 * b + 4) y) (16 * b + 8) t) (16 * b + 12) u)] := hD.sub [0, 1] (by decide) rfl
  exact hc_vret (()) hx hb hr hlk (trivial) hP hD [0, 1] (by decide) rfl hS (Nat.le_of_ble_eq_true rfl) (Nat.le_of_ble_eq_true rfl) dX1_key_57
set_option maxHeartbeats 4000000 in
set_option maxRecDepth 100000 in
/-- nonce(half, a, b, c, d) -/
theorem met_nonce (l : Launch) (D : va_G) (dk jk jn jt : Nat) (rv sv gv zv ov : Value) (b : Nat) (T : Nat → Int32) (x y t u : Int32) (h2 : b < 2) : HcV l yX1_nonce cX1_nonce 7 1 22 0 0 D hcNo [.ref dk, .int (nI b), .int x, .int y, .int t, .int u] [hcOb dk 0 [rv, sv, gv, .ref jk, .ref jn, .ref jt, zv, ov], hcBa D jn 32 T] (fun _ : Unit => True) (fun _ => [hcOb dk 0 [rv, sv, gv, .ref jk, .ref jn, .ref jt, zv, ov], hcBa D jn 32 (hcW4 T (16 * b) x y t u)]) := by
  refine hc_inV (by decide) (Nat.le_of_ble_eq_true rfl) ?_
  intro p e s m args below meth c ls A hx hb hr hlk hml hown hts hnm hP hK hD hE hA hAn hS hl
  have hown : s.vm.findClass RX1 = some m.cls := hown
  have hl : lv_has ls 7 [(0, .ref dk), (1, .int (nI b)), (2, .int x), (3, .int y), (4, .int t), (5, .int u)] := hl
  have hP : va_P D vwCl [hcOb dk 0 [rv, sv, gv, .ref jk, .ref jn, .ref jt, zv, ov], hcBa D jn 32 T] s.heap := hP
  have hD : va_D A [hcOb dk 0 [rv, sv, gv, .ref jk, .ref jn, .ref jt, zv, ov], hcBa D jn 32 T] := hD
  refine lv_iload_n hx hb dX1_nonce_0 rfl (lv_at hl 1 rfl) ?_
  refine lv_iconst (v := 1) hx hb dX1_nonce_1 (by decide) ?_
  refine lv_iand hx hb dX1_nonce_2 ?_
  refine lv_iconst (v := 4) hx hb dX1_nonce_3 (by decide) ?_
  refine lv_ishl hx hb dX1_nonce_4 ?_
  refine hc_top (y := nI (16 * b)) (by rcases (show b = 0 ∨ b = 1 by omega) with rfl | rfl <;> decide) ?_
  refine lv_istore (lv' := [(6, .int (nI (16 * b))), (0, .ref dk), (1, .int (nI b)), (2, .int x), (3, .int y), (4, .int t), (5, .int u)]) hx hb dX1_nonce_5 hl (by decide) rfl (fun ls hl => ?_)
  refine lv_aload_n hx hb dX1_nonce_7 rfl (lv_at hl 1 rfl) ?_
  refine va_get (D := D) (ci := 0) (C := RX1) (T := TX1) (N := 8) hx hb hts in_X1 hown hK hP 0 rfl rfl 4 (by decide) (hts _ q286) (fun _ h9 => h9) rfl dX1_nonce_8 ?_
  refine lv_iload hx hb dX1_nonce_11 (lv_at hl 0 rfl) ?_
  refine lv_iload_n hx hb dX1_nonce_13 rfl (lv_at hl 3 rfl) ?_
  refine hc_vS (wr := [hcOb dk 0 [rv, sv, gv, .ref jk, .ref jn, .ref jt, zv, ov]]) (met_word l D jn 32 (16 * b) T x (by omega) (by decide)) ⟨hx, hb, hml, hown, hts⟩ (va_cwS 3 hts (lw_S q311 q312 q11 q313) rfl rfl rfl (by decide +kernel) ⟨Nat.le_of_ble_eq_true rfl, Nat.le_of_ble_eq_true rfl⟩) hcBl_no (hc_no _ _) hK hP hD hS hA [1] [0] (by decide) rfl rfl (by decide) (by decide) rfl hl.1 rfl (Nat.le_of_ble_eq_true rfl) dX1_nonce_14 ⟨Nat.le_of_ble_eq_true rfl, Nat.le_of_ble_eq_true rfl⟩ (fun _ H locs hw hP hD hS => ?_)
  have hP : va_P D vwCl [hcOb dk 0 [rv, sv, gv, .ref jk, .ref jn, .ref jt, zv, ov], hcBa D jn 32 (hcWd T (16 * b) x)] H := hP
  have hD : va_D A [hcOb dk 0 [rv, sv, gv, .ref jk, .ref jn, .ref jt, zv, ov], hcBa D jn 32 (hcWd T (16 * b) x)] := hD
  have hP : va_P D vwCl [hcOb dk 0 [rv, sv, gv, .ref jk, .ref jn, .ref jt, zv, ov], hcBa D jn 32 (hcWd T (16 * b) x)] H := hc_psub hP [0, 1] rfl
  have hD : va_D A [hcOb dk 0 [rv, sv, gv, .ref jk, .ref jn, .ref jt, zv, ov], hcBa D jn 32 (hcWd T (16 * b) x)] := hD.sub [0, 1] (by decide) rfl
  refine lv_aload_n hx hb dX1_nonce_17 rfl (lv_at hl 1 rfl) ?_
  refine va_get (D := D) (ci := 0) (C := RX1) (T := TX1) (N := 8) hx hb hts in_X1 hown hK hP 0 rfl rfl 4 (by decide) (hts _ q286) (fun _ h9 => h9) rfl dX1_nonce_18 ?_
  refine lv_iload hx hb dX1_nonce_21 (lv_at hl 0 rfl) ?_
  refine lv_iconst (v := 4) hx hb dX1_nonce_23 (by decide) ?_
  refine lv_iadd hx hb dX1_nonce_24 ?_
  refine hc_top (y := nI (16 * b + 4)) (nI_add (16 * b) 4) ?_
  refine lv_iload_n hx hb dX1_nonce_25 rfl (lv_at hl 4 rfl) ?_
  refine hc_vS (wr := [hcOb dk 0 [rv, sv, gv, .ref jk, .ref jn, .ref jt, zv, ov]]) (met_word l D jn 32 (16 * b + 4) (hcWd T (16 * b) x) y (by omega) (by decide)) ⟨hx, hb, hml, hown, hts⟩ (va_cwS 3 hts (lw_S q311 q312 q11 q313) rfl rfl rfl (by decide +kernel) ⟨Nat.le_of_ble_eq_true rfl, Nat.le_of_ble_eq_true rfl⟩) hcBl_no (hc_no _ _) hK hP hD hS hA [1] [0] (by decide) rfl rfl (by decide) (by decide) rfl hl.1 rfl (Nat.le_of_ble_eq_true rfl) dX1_nonce_26 ⟨Nat.le_of_ble_eq_true rfl, Nat.le_of_ble_eq_true rfl⟩ (fun _ H locs hw hP hD hS => ?_)
  have hP : va_P D vwCl [hcOb dk 0 [rv, sv, gv, .ref jk, .ref jn, .ref jt, zv, ov], hcBa D jn 32 (hcWd (hcWd T (16 * b) x) (16 * b + 4) y)] H := hP
  have hD : va_D A [hcOb dk 0 [rv, sv, gv, .ref jk, .ref jn, .ref jt, zv, ov], hcBa D jn 32 (hcWd (hcWd T (16 * b) x) (16 * b + 4) y)] := hD
  have hP : va_P D vwCl [hcOb dk 0 [rv, sv, gv, .ref jk, .ref jn, .ref jt, zv, ov], hcBa D jn 32 (hcWd (hcWd T (16 * b) x) (16 * b + 4) y)] H := hc_psub hP [0, 1] rfl
  have hD : va_D A [hcOb dk 0 [rv, sv, gv, .ref jk, .ref jn, .ref jt, zv, ov], hcBa D jn 32 (hcWd (hcWd T (16 * b) x) (16 * b + 4) y)] := hD.sub [0, 1] (by decide) rfl
  refine lv_aload_n hx hb dX1_nonce_29 rfl (lv_at hl 1 rfl) ?_
  refine va_get (D := D) (ci := 0) (C := RX1) (T := TX1) (N := 8) hx hb hts in_X1 hown hK hP 0 rfl rfl 4 (by decide) (hts _ q286) (fun _ h9 => h9) rfl dX1_nonce_30 ?_
  refine lv_iload hx hb dX1_nonce_33 (lv_at hl 0 rfl) ?_
  refine lv_bipush (v := 8) hx hb dX1_nonce_35 (by decide) ?_
  refine lv_iadd hx hb dX1_nonce_37 ?_
  refine hc_top (y := nI (16 * b + 8)) (nI_add (16 * b) 8) ?_
  refine lv_iload hx hb dX1_nonce_38 (lv_at hl 5 rfl) ?_
  refine hc_vS (wr := [hcOb dk 0 [rv, sv, gv, .ref jk, .ref jn, .ref jt, zv, ov]]) (met_word l D jn 32 (16 * b + 8) (hcWd (hcWd T (16 * b) x) (16 * b + 4) y) t (by omega) (by decide)) ⟨hx, hb, hml, hown, hts⟩ (va_cwS 3 hts (lw_S q311 q312 q11 q313) rfl rfl rfl (by decide +kernel) ⟨Nat.le_of_ble_eq_true rfl, Nat.le_of_ble_eq_true rfl⟩) hcBl_no (hc_no _ _) hK hP hD hS hA [1] [0] (by decide) rfl rfl (by decide) (by decide) rfl hl.1 rfl (Nat.le_of_ble_eq_true rfl) dX1_nonce_40 ⟨Nat.le_of_ble_eq_true rfl, Nat.le_of_ble_eq_true rfl⟩ (fun _ H locs hw hP hD hS => ?_)
  have hP : va_P D vwCl [hcOb dk 0 [rv, sv, gv, .ref jk, .ref jn, .ref jt, zv, ov], hcBa D jn 32 (hcWd (hcWd (hcWd T (16 * b) x) (16 * b + 4) y) (16 * b + 8) t)] H := hP
  have hD : va_D A [hcOb dk 0 [rv, sv, gv, .ref jk, .ref jn, .ref jt, zv, ov], hcBa D jn 32 (hcWd (hcWd (hcWd T (16 * b) x) (16 * b + 4) y) (16 * b + 8) t)] := hD
  have hP : va_P D vwCl [hcOb dk 0 [rv, sv, gv, .ref jk, .ref jn, .ref jt, zv, ov], hcBa D jn 32 (hcWd (hcWd (hcWd T (16 * b) x) (16 * b + 4) y) (16 * b + 8) t)] H := hc_psub hP [0, 1] rfl
  have hD : va_D A [hcOb dk 0 [rv, sv, gv, .ref jk, .ref jn, .ref jt, zv, ov], hcBa D jn 32 (hcWd (hcWd (hcWd T (16 * b) x) (16 * b + 4) y) (16 * b + 8) t)] := hD.sub [0, 1] (by decide) rfl
  refine lv_aload_n hx hb dX1_nonce_43 rfl (lv_at hl 1 rfl) ?_
  refine va_get (D := D) (ci := 0) (C := RX1) (T := TX1) (N := 8) hx hb hts in_X1 hown hK hP 0 rfl rfl 4 (by decide) (hts _ q286) (fun _ h9 => h9) rfl dX1_nonce_44 ?_
  refine lv_iload hx hb dX1_nonce_47 (lv_at hl 0 rfl) ?_
  refine lv_bipush (v := 12) hx hb dX1_nonce_49 (by decide) ?_
  refine lv_iadd hx hb dX1_nonce_51 ?_
  refine hc_top (y := nI (16 * b + 12)) (nI_add (16 * b) 12) ?_
  refine lv_iload hx hb dX1_nonce_52 (lv_at hl 6 rfl) ?_
  refine hc_vS (wr := [hcOb dk 0 [rv, sv, gv, .ref jk, .ref jn, .ref jt, zv, ov]]) (met_word l D jn 32 (16 * b + 12) (hcWd (hcWd (hcWd T (16 * b) x) (16 * b + 4) y) (16 * b + 8) t) u (by omega) (by decide)) ⟨hx, hb, hml, hown, hts⟩ (va_cwS 3 hts (lw_S q311 q312 q11 q313) rfl rfl rfl (by decide +kernel) ⟨Nat.le_of_ble_eq_true rfl, Nat.le_of_ble_eq_true rfl⟩) hcBl_no (hc_no _ _) hK hP hD hS hA [1] [0] (by decide) rfl rfl (by decide) (by decide) rfl hl.1 rfl (Nat.le_of_ble_eq_true rfl) dX1_nonce_54 ⟨Nat.le_of_ble_eq_true rfl, Nat.le_of_ble_eq_true rfl⟩ (fun _ H locs hw hP hD hS => ?_)
  have hP : va_P D vwCl [hcOb dk 0 [rv, sv, gv, .ref jk, .ref jn, .ref jt, zv, ov], hcBa D jn 32 (hcWd (hcWd (hcWd (hcWd T (16 * b) x) (16 * b + 4) y) (16 * b + 8) t) (16 * b + 12) u)] H := hP
  have hD : va_D A [hcOb dk 0 [rv, sv, gv, .ref jk, .ref jn, .ref jt, zv, ov], hcBa D jn 32 (hcWd (hcWd (hcWd (hcWd T (16 * b) x) (16 * b + 4) y) (16 * b + 8) t) (16 * b + 12) u)] := hD
  have hP : va_P D vwCl [hcOb dk 0 [rv, sv, gv, .ref jk, .ref jn, .ref jt, zv, ov], hcBa D jn 32 (hcWd (hcWd (hcWd (hcWd T (16 * b) x) (16 * b + 4) y) (16 * b + 8) t) (16 * b + 12) u)] H := hc_psub hP [0, 1] rfl
  have hD : va_D A [hcOb dk 0 [rv, sv, gv, .ref jk, .ref jn, .ref jt, zv, ov], hcBa D jn 32 (hcWd (hcWd (hcWd (hcWd T (16 * b) x) (16 * b + 4) y) (16 * b + 8) t) (16 * b + 12) u)] := hD.sub [0, 1] (by decide) rfl
  exact hc_vret (()) hx hb hr hlk (trivial) hP hD [0, 1] (by decide) rfl hS (Nat.le_of_ble_eq_true rfl) (Nat.le_of_ble_eq_true rfl) dX1_nonce_57
set_option maxHeartbeats 4000000 in
set_option maxRecDepth 100000 in
/-- HcDesk() -/
theorem met_D0 (l : Launch) (D : va_G) (dk : Nat) : HcV l yX1_init cX1_init 1 2 32 8 1356 D hcNo [.ref dk] [hcOb dk 0 [.null, .int 0, .int 0, .null, .null, .null, .int 0, .null]] (fun _ : Nat × Nat × Nat × Nat × Nat => True) (fun u => [hcOb dk 0 [.ref u.1, .int 0, .int 0, .ref u.2.1, .ref u.2.2.1, .ref u.2.2.2.1, .int 0, .ref u.2.2.2.2], hcBa D u.2.1 32 (fun _ => 0), hcBa D u.2.2.1 32 (fun _ => 0), hcBa D u.2.2.2.1 256 (fun _ => 0), hcBa D u.2.2.2.2 0 (fun _ => 0)]) := by
  refine hc_inV (by decide) (Nat.le_of_ble_eq_true rfl) ?_
  intro p e s m args below meth c ls A hx hb hr hlk hml hown hts hnm hP hK hD hE hA hAn hS hl
  have hown : s.vm.findClass RX1 = some m.cls := hown
  have hl : lv_has ls 1 [(0, .ref dk)] := hl
  have hP : va_P D vwCl [hcOb dk 0 [.null, .int 0, .int 0, .null, .null, .null, .int 0, .null]] s.heap := hP
  have hD : va_D A [hcOb dk 0 [.null, .int 0, .int 0, .null, .null, .null, .int 0, .null]] := hD
  refine lv_aload_n hx hb dX1_init_0 rfl (lv_at hl 0 rfl) ?_
  refine W.objInit hx hb hown (hts _ q251) (hts _ q68) (hts _ q69) rfl (by rw [hml]; exact hl.1) rfl dX1_init_1 (Nat.le_of_ble_eq_true rfl) (Nat.le_of_ble_eq_true rfl) ?_
  refine W.eq (g2 := F0 m 4 ls []) rfl ?_
  refine lv_aload_n hx hb dX1_init_4 rfl (lv_at hl 0 rfl) ?_
  refine va_new (ci := 1) (fs := [.null, .null, .int 0, .null, .null, .int 0, .null, .int 0]) (C := RX2) (T := TX2) (N := 8) hx hb hts in_X2 tyX2 tyX2_ok hown (hts _ q252) (hts _ q153) (hts _ q12) hK hP hD hS hA rfl (fun j hj => match j, hj with | 0, _ => rfl | 1, _ => rfl | 2, _ => rfl | 3, _ => rfl | 4, _ => rfl | 5, _ => rfl | 6, _ => rfl | 7, _ => rfl | j + 8, h => absurd h (by omega)) (Nat.le_of_ble_eq_true rfl) (Nat.le_of_ble_eq_true rfl) dX1_init_5 (fun he H hP hD hS => ?_)
  have hP : va_P D vwCl [hcOb dk 0 [.null, .int 0, .int 0, .null, .null, .null, .int 0, .null], hcOb he 1 [.null, .null, .int 0, .null, .null, .int 0, .null, .int 0]] H := hP
  have hD : va_D A [hcOb dk 0 [.null, .int 0, .int 0, .null, .null, .null, .int 0, .null], hcOb he 1 [.null, .null, .int 0, .null, .null, .int 0, .null, .int 0]] := hD
  refine lv_dup hx hb dX1_init_8 rfl ?_
  refine hc_vI (wr := [hcOb dk 0 [.null, .int 0, .int 0, .null, .null, .null, .int 0, .null]]) (met_E0 l D he) ⟨hx, hb, hml, hown, hts⟩ (cwI 0 hts (lw_meth q255) rfl rfl rfl (hts _ q12) (hts _ q253) (hts _ q254) rfl (by decide +kernel) ⟨Nat.le_of_ble_eq_true rfl, Nat.le_of_ble_eq_true rfl⟩) hcBl_no (hc_no _ _) hK hP hD hS hA [1] [0] (by decide) rfl rfl (by decide) (by decide) rfl hl.1 rfl (Nat.le_of_ble_eq_true rfl) dX1_init_9 ⟨Nat.le_of_ble_eq_true rfl, Nat.le_of_ble_eq_true rfl⟩ (fun u H locs hw hP hD hS => ?_)
  obtain ⟨p0, q0, z0⟩ := u
  have hP : va_P D vwCl [hcOb dk 0 [.null, .int 0, .int 0, .null, .null, .null, .int 0, .null], hcOb he 1 [.ref p0, .ref q0, .int 0, .null, .null, .int 0, .ref z0, .int 0], hcIa D p0 512 (fun _ => 0), hcIa D q0 512 (fun _ => 0), hcBa D z0 4 (fun _ => 0)] H := hP
  have hD : va_D A [hcOb dk 0 [.null, .int 0, .int 0, .null, .null, .null, .int 0, .null], hcOb he 1 [.ref p0, .ref q0, .int 0, .null, .null, .int 0, .ref z0, .int 0], hcIa D p0 512 (fun _ => 0), hcIa D q0 512 (fun _ => 0), hcBa D z0 4 (fun _ => 0)] := hD
  refine va_put (D := D) (ci := 0) (v := .ref he) (ty := .object "HC128Engine") (C := RX1) (T := TX1) (N := 8) hx hb hts in_X1 tyX1 tyX1_ok nmX1 hown hK hP hD hS 0 rfl rfl 0 (by decide) (hts _ q282) (fun _ h9 => h9) rfl (by decide +kernel) rfl rfl (Nat.le_of_ble_eq_true rfl) dX1_init_12 (fun H locs hP hD hS => ?_)
  have hP : va_P D vwCl [hcOb dk 0 [.ref he, .int 0, .int 0, .null, .null, .null, .int 0, .null], hcOb he 1 [.ref p0, .ref q0, .int 0, .null, .null, .int 0, .ref z0, .int 0], hcIa D p0 512 (fun _ => 0), hcIa D q0 512 (fun _ => 0), hcBa D z0 4 (fun _ => 0)] H := hP
  have hD : va_D A [hcOb dk 0 [.ref he, .int 0, .int 0, .null, .null, .null, .int 0, .null], hcOb he 1 [.ref p0, .ref q0, .int 0, .null, .null, .int 0, .ref z0, .int 0], hcIa D p0 512 (fun _ => 0), hcIa D q0 512 (fun _ => 0), hcBa D z0 4 (fun _ => 0)] := hD
  refine lv_aload_n hx hb dX1_init_15 rfl (lv_at hl 0 rfl) ?_
  refine lv_bipush (v := 32) hx hb dX1_init_16 (by decide) ?_
  refine hc_newa hx hb .byte rfl (hts _ q112) hK hP hD hS hA 1 rfl (fun C h => by cases h) 32 (f0 := fun _ => 0) (fun _ => rfl) (by decide) (by decide) (by decide) (Nat.le_of_ble_eq_true rfl) (Nat.le_of_ble_eq_true rfl) dX1_init_18 (fun jk H hP hD hS => ?_)
  have hP : va_P D vwCl [hcOb dk 0 [.ref he, .int 0, .int 0, .null, .null, .null, .int 0, .null], hcOb he 1 [.ref p0, .ref q0, .int 0, .null, .null, .int 0, .ref z0, .int 0], hcIa D p0 512 (fun _ => 0), hcIa D q0 512 (fun _ => 0), hcBa D z0 4 (fun _ => 0), hcBa D jk 32 (fun _ => 0)] H := hP
  have hD : va_D A [hcOb dk 0 [.ref he, .int 0, .int 0, .null, .null, .null, .int 0, .null], hcOb he 1 [.ref p0, .ref q0, .int 0, .null, .null, .int 0, .ref z0, .int 0], hcIa D p0 512 (fun _ => 0), hcIa D q0 512 (fun _ => 0), hcBa D z0 4 (fun _ => 0), hcBa D jk 32 (fun _ => 0)] := hD
  refine va_putF (D := D) (ci := 0) (v := .ref jk) (ty := .array .byte) (C := RX1) (T := TX1) (N := 8) hx hb hts in_X1 tyX1 tyX1_ok nmX1 hown hK hP hD hS 0 rfl rfl 3 (by decide) (hts _ q285) (fun _ h9 => h9) rfl hnm rfl (by decide +kernel) rfl rfl (Nat.le_of_ble_eq_true rfl) dX1_init_20 (fun H locs hP hD hS => ?_)
  have hP : va_P D vwCl [hcOb dk 0 [.ref he, .int 0, .int 0, .ref jk, .null, .null, .int 0, .null], hcOb he 1 [.ref p0, .ref q0, .int 0, .null, .null, .int 0, .ref z0, .int 0], hcIa D p0 512 (fun _ => 0), hcIa D q0 512 (fun _ => 0), hcBa D z0 4 (fun _ => 0), hcBa D jk 32 (fun _ => 0)] H := hP
  have hD : va_D A [hcOb dk 0 [.ref he, .int 0, .int 0, .ref jk, .null, .null, .int 0, .null], hcOb he 1 [.ref p0, .ref q0, .int 0, .null, .null, .int 0, .ref z0, .int 0], hcIa D p0 512 (fun _ => 0), hcIa D q0 512 (fun _ => 0), hcBa D z0 4 (fun _ => 0), hcBa D jk 32 (fun _ => 0)] := hD
  refine lv_aload_n hx hb dX1_init_23 rfl (lv_at hl 0 rfl) ?_
  refine lv_bipush (v := 32) hx hb dX1_init_24 (by decide) ?_
  refine hc_newa hx hb .byte rfl (hts _ q112) hK hP hD hS hA 1 rfl (fun C h => by cases h) 32 (f0 := fun _ => 0) (fun _ => rfl) (by decide) (by decide) (by decide) (Nat.le_of_ble_eq_true rfl) (Nat.le_of_ble_eq_true rfl) dX1_init_26 (fun jn H hP hD hS => ?_)
  have hP : va_P D vwCl [hcOb dk 0 [.ref he, .int 0, .int 0, .ref jk, .null, .null, .int 0, .null], hcOb he 1 [.ref p0, .ref q0, .int 0, .null, .null, .int 0, .ref z0, .int 0], hcIa D p0 512 (fun _ => 0), hcIa D q0 512 (fun _ => 0), hcBa D z0 4 (fun _ => 0), hcBa D jk 32 (fun _ => 0), hcBa D jn 32 (fun _ => 0)] H := hP
  have hD : va_D A [hcOb dk 0 [.ref he, .int 0, .int 0, .ref jk, .null, .null, .int 0, .null], hcOb he 1 [.ref p0, .ref q0, .int 0, .null, .null, .int 0, .ref z0, .int 0], hcIa D p0 512 (fun _ => 0), hcIa D q0 512 (fun _ => 0), hcBa D z0 4 (fun _ => 0), hcBa D jk 32 (fun _ => 0), hcBa D jn 32 (fun _ => 0)] := hD
  refine va_putF (D := D) (ci := 0) (v := .ref jn) (ty := .array .byte) (C := RX1) (T := TX1) (N := 8) hx hb hts in_X1 tyX1 tyX1_ok nmX1 hown hK hP hD hS 0 rfl rfl 4 (by decide) (hts _ q286) (fun _ h9 => h9) rfl hnm rfl (by decide +kernel) rfl rfl (Nat.le_of_ble_eq_true rfl) dX1_init_28 (fun H locs hP hD hS => ?_)
  have hP : va_P D vwCl [hcOb dk 0 [.ref he, .int 0, .int 0, .ref jk, .ref jn, .null, .int 0, .null], hcOb he 1 [.ref p0, .ref q0, .int 0, .null, .null, .int 0, .ref z0, .int 0], hcIa D p0 512 (fun _ => 0), hcIa D q0 512 (fun _ => 0), hcBa D z0 4 (fun _ => 0), hcBa D jk 32 (fun _ => 0), hcBa D jn 32 (fun _ => 0)] H := hP
  have hD : va_D A [hcOb dk 0 [.ref he, .int 0, .int 0, .ref jk, .ref jn, .null, .int 0, .null], hcOb he 1 [.ref p0, .ref q0, .int 0, .null, .null, .int 0, .ref z0, .int 0], hcIa D p0 512 (fun _ => 0), hcIa D q0 512 (fun _ => 0), hcBa D z0 4 (fun _ => 0), hcBa D jk 32 (fun _ => 0), hcBa D jn 32 (fun _ => 0)] := hD
  refine lv_aload_n hx hb dX1_init_31 rfl (lv_at hl 0 rfl) ?_
  refine lv_sipush (v := 256) hx hb dX1_init_32 (by decide) ?_
  refine hc_newa hx hb .byte rfl (hts _ q112) hK hP hD hS hA 1 rfl (fun C h => by cases h) 256 (f0 := fun _ => 0) (fun _ => rfl) (by decide) (by decide) (by decide) (Nat.le_of_ble_eq_true rfl) (Nat.le_of_ble_eq_true rfl) dX1_init_35 (fun jt H hP hD hS => ?_)
  have hP : va_P D vwCl [hcOb dk 0 [.ref he, .int 0, .int 0, .ref jk, .ref jn, .null, .int 0, .null], hcOb he 1 [.ref p0, .ref q0, .int 0, .null, .null, .int 0, .ref z0, .int 0], hcIa D p0 512 (fun _ => 0), hcIa D q0 512 (fun _ => 0), hcBa D z0 4 (fun _ => 0), hcBa D jk 32 (fun _ => 0), hcBa D jn 32 (fun _ => 0), hcBa D jt 256 (fun _ => 0)] H := hP
  have hD : va_D A [hcOb dk 0 [.ref he, .int 0, .int 0, .ref jk, .ref jn, .null, .int 0, .null], hcOb he 1 [.ref p0, .ref q0, .int 0, .null, .null, .int 0, .ref z0, .int 0], hcIa D p0 512 (fun _ => 0), hcIa D q0 512 (fun _ => 0), hcBa D z0 4 (fun _ => 0), hcBa D jk 32 (fun _ => 0), hcBa D jn 32 (fun _ => 0), hcBa D jt 256 (fun _ => 0)] := hD
  refine va_putF (D := D) (ci := 0) (v := .ref jt) (ty := .array .byte) (C := RX1) (T := TX1) (N := 8) hx hb hts in_X1 tyX1 tyX1_ok nmX1 hown hK hP hD hS 0 rfl rfl 5 (by decide) (hts _ q287) (fun _ h9 => h9) rfl hnm rfl (by decide +kernel) rfl rfl (Nat.le_of_ble_eq_true rfl) dX1_init_37 (fun H locs hP hD hS => ?_)
  have hP : va_P D vwCl [hcOb dk 0 [.ref he, .int 0, .int 0, .ref jk, .ref jn, .ref jt, .int 0, .null], hcOb he 1 [.ref p0, .ref q0, .int 0, .null, .null, .int 0, .ref z0, .int 0], hcIa D p0 512 (fun _ => 0), hcIa D q0 512 (fun _ => 0), hcBa D z0 4 (fun _ => 0), hcBa D jk 32 (fun _ => 0), hcBa D jn 32 (fun _ => 0), hcBa D jt 256 (fun _ => 0)] H := hP
  have hD : va_D A [hcOb dk 0 [.ref he, .int 0, .int 0, .ref jk, .ref jn, .ref jt, .int 0, .null], hcOb he 1 [.ref p0, .ref q0, .int 0, .null, .null, .int 0, .ref z0, .int 0], hcIa D p0 512 (fun _ => 0), hcIa D q0 512 (fun _ => 0), hcBa D z0 4 (fun _ => 0), hcBa D jk 32 (fun _ => 0), hcBa D jn 32 (fun _ => 0), hcBa D jt 256 (fun _ => 0)] := hD
  refine lv_aload_n hx hb dX1_init_40 rfl (lv_at hl 0 rfl) ?_
  refine lv_iconst (v := 0) hx hb dX1_init_41 (by decide) ?_
  refine hc_newa hx hb .byte rfl (hts _ q112) hK hP hD hS hA 1 rfl (fun C h => by cases h) 0 (f0 := fun _ => 0) (fun _ => rfl) (by decide) (by decide) (by decide) (Nat.le_of_ble_eq_true rfl) (Nat.le_of_ble_eq_true rfl) dX1_init_42 (fun jo H hP hD hS => ?_)
  have hP : va_P D vwCl [hcOb dk 0 [.ref he, .int 0, .int 0, .ref jk, .ref jn, .ref jt, .int 0, .null], hcOb he 1 [.ref p0, .ref q0, .int 0, .null, .null, .int 0, .ref z0, .int 0], hcIa D p0 512 (fun _ => 0), hcIa D q0 512 (fun _ => 0), hcBa D z0 4 (fun _ => 0), hcBa D jk 32 (fun _ => 0), hcBa D jn 32 (fun _ => 0), hcBa D jt 256 (fun _ => 0), hcBa D jo 0 (fun _ => 0)] H := hP
  have hD : va_D A [hcOb dk 0 [.ref he, .int 0, .int 0, .ref jk, .ref jn, .ref jt, .int 0, .null], hcOb he 1 [.ref p0, .ref q0, .int 0, .null, .null, .int 0, .ref z0, .int 0], hcIa D p0 512 (fun _ => 0), hcIa D q0 512 (fun _ => 0), hcBa D z0 4 (fun _ => 0), hcBa D jk 32 (fun _ => 0), hcBa D jn 32 (fun _ => 0), hcBa D jt 256 (fun _ => 0), hcBa D jo 0 (fun _ => 0)] := hD
  refine va_put (D := D) (ci := 0) (v := .ref jo) (ty := .array .byte) (C := RX1) (T := TX1) (N := 8) hx hb hts in_X1 tyX1 tyX1_ok nmX1 hown hK hP hD hS 0 rfl rfl 7 (by decide) (hts _ q289) (fun _ h9 => h9) rfl (by decide +kernel) rfl rfl (Nat.le_of_ble_eq_true rfl) dX1_init_44 (fun H locs hP hD hS => ?_)
  have hP : va_P D vwCl [hcOb dk 0 [.ref he, .int 0, .int 0, .ref jk, .ref jn, .ref jt, .int 0, .ref jo], hcOb he 1 [.ref p0, .ref q0, .int 0, .null, .null, .int 0, .ref z0, .int 0], hcIa D p0 512 (fun _ => 0), hcIa D q0 512 (fun _ => 0), hcBa D z0 4 (fun _ => 0), hcBa D jk 32 (fun _ => 0), hcBa D jn 32 (fun _ => 0), hcBa D jt 256 (fun _ => 0), hcBa D jo 0 (fun _ => 0)] H := hP
  have hD : va_D A [hcOb dk 0 [.ref he, .int 0, .int 0, .ref jk, .ref jn, .ref jt, .int 0, .ref jo], hcOb he 1 [.ref p0, .ref q0, .int 0, .null, .null, .int 0, .ref z0, .int 0], hcIa D p0 512 (fun _ => 0), hcIa D q0 512 (fun _ => 0), hcBa D z0 4 (fun _ => 0), hcBa D jk 32 (fun _ => 0), hcBa D jn 32 (fun _ => 0), hcBa D jt 256 (fun _ => 0), hcBa D jo 0 (fun _ => 0)] := hD
  exact hc_vret ((he, jk, jn, jt, jo)) hx hb hr hlk (trivial) hP hD [0, 5, 6, 7, 8] (by decide) rfl hS (Nat.le_of_ble_eq_true rfl) (Nat.le_of_ble_eq_true rfl) dX1_init_47
set_option maxHeartbeats 8000000 in
set_option maxRecDepth 100000 in
/-- begin(n): a new engine at its beginning -/
theorem met_begin (l : Launch) (D : va_G) (dk jk jn jt : Nat) (rv sv gv zv ov : Value) (K V : Nat → Int32) (σ : Nat → hcS) (x : Int32) (hfK : sb_Fit K) (hfV : sb_Fit V) (hσ : hcSeq K V σ) : HcV l yX1_begin cX1_begin 5 5 111 11 2383 D hcNo [.ref dk, .int x] [hcOb dk 0 [rv, sv, gv, .ref jk, .ref jn, .ref jt, zv, ov], hcBa D jk 32 K, hcBa D jn 32 V] (fun _ : Nat × Nat × Nat × Nat × Nat × Nat => True) (fun u => [hcOb dk 0 [.ref u.1, .int 1, .int 0, .ref jk, .ref jn, .ref jt, zv, ov], hcBa D jk 32 K, hcBa D jn 32 V, hcOb u.1 1 [.ref u.2.1, .ref u.2.2.1, .int (nI (σ ((0 + 3) / 4)).2.2), .ref u.2.2.2.2.1, .ref u.2.2.2.2.2, .int 1, .ref u.2.2.2.1, .int (nI (0 % 4))], hcIa D u.2.1 512 (σ ((0 + 3) / 4)).1, hcIa D u.2.2.1 512 (σ ((0 + 3) / 4)).2.1, hcBa D u.2.2.2.1 4 (fun _ => 0), hcBa D u.2.2.2.2.1 16 K, hcBa D u.2.2.2.2.2 16 V]) := by
  refine hc_inV (by decide) (Nat.le_of_ble_eq_true rfl) ?_
  intro p e s m args below meth c ls A hx hb hr hlk hml hown hts hnm hP hK hD hE hA hAn hS hl
  have hown : s.vm.findClass RX1 = some m.cls := hown
  have hl : lv_has ls 5 [(0, .ref dk), (1, .int x)] := hl
  have hP : va_P D vwCl [hcOb dk 0 [rv, sv, gv, .ref jk, .ref jn, .ref jt, zv, ov], hcBa D jk 32 K, hcBa D jn 32 V] s.heap := hP
  have hD : va_D A [hcOb dk 0 [rv, sv, gv, .ref jk, .ref jn, .ref jt, zv, ov], hcBa D jk 32 K, hcBa D jn 32 V] := hD
  refine lv_bipush (v := 16) hx hb dX1_begin_0 (by decide) ?_
  refine hc_newa hx hb .byte rfl (hts _ q112) hK hP hD hS hA 1 rfl (fun C h => by cases h) 16 (f0 := fun _ => 0) (fun _ => rfl) (by decide) (by decide) (by decide) (Nat.le_of_ble_eq_true rfl) (Nat.le_of_ble_eq_true rfl) dX1_begin_2 (fun a1 H hP hD hS => ?_)
  have hP : va_P D vwCl [hcOb dk 0 [rv, sv, gv, .ref jk, .ref jn, .ref jt, zv, ov], hcBa D jk 32 K, hcBa D jn 32 V, hcBa D a1 16 (fun _ => 0)] H := hP
  have hD : va_D A [hcOb dk 0 [rv, sv, gv, .ref jk, .ref jn, .ref jt, zv, ov], hcBa D jk 32 K, hcBa D jn 32 V, hcBa D a1 16 (fun _ => 0)] := hD
  refine lv_astore_n (lv' := [(2, .ref a1), (0, .ref dk), (1, .int x)]) hx hb dX1_begin_4 rfl hl (by decide) rfl (fun ls hl => ?_)
  refine lv_iconst (v := 0) hx hb dX1_begin_5 (by decide) ?_
  refine lv_istore_n (lv' := [(3, .int 0), (2, .ref a1), (0, .ref dk), (1, .int x)]) hx hb dX1_begin_6 rfl hl (by decide) rfl (fun ls hl => ?_)
  refine W.widen (k := 1) (n := 16) (by decide) (by decide) ?_
  have L1 : ∀ (Qx : State → Prop) (d i : Nat) (g : Nat → Int32) (H : Heap) (locs : List Loc) (ls : Array Slot), i + d = 16 → (∀ j, j < i → g j = K j) → va_P D vwCl [hcOb dk 0 [rv, sv, gv, .ref jk, .ref jn, .ref jt, zv, ov], hcBa D jk 32 K, hcBa D jn 32 V, hcBa D a1 16 g] H → va_D A [hcOb dk 0 [rv, sv, gv, .ref jk, .ref jn, .ref jt, zv, ov], hcBa D jk 32 K, hcBa D jn 32 V, hcBa D a1 16 g] → va_S A s.heap H locs → lv_has ls 5 [(3, .int (nI i)), (2, .ref a1), (0, .ref dk), (1, .int x)] → (∀ (g : Nat → Int32) (H : Heap) (locs : List Loc) (ls : Array Slot), (∀ j, j < 16 → g j = K j) → va_P D vwCl [hcOb dk 0 [rv, sv, gv, .ref jk, .ref jn, .ref jt, zv, ov], hcBa D jk 32 K, hcBa D jn 32 V, hcBa D a1 16 g] H → va_D A [hcOb dk 0 [rv, sv, gv, .ref jk, .ref jn, .ref jt, zv, ov], hcBa D jk 32 K, hcBa D jn 32 V, hcBa D a1 16 g] → va_S A s.heap H locs → lv_has ls 5 [(3, .int (nI 16)), (2, .ref a1), (0, .ref dk), (1, .int x)] → W p l e (hcRm 5 111 11 2383) s m args below meth c H locs 1 16 Qx (F0 m 28 ls [])) → W p l e (hcRm 5 111 11 2383) s m args below meth c H locs 1 16 Qx (F0 m 7 ls []) := by
    intro Qx d
    induction d with
    | zero =>
      intro i g H locs ls hi hg hP hD hS hl kx
      obtain rfl : i = 16 := by omega
      refine lv_iload_n hx hb dX1_begin_7 rfl (lv_at hl 0 rfl) ?_
      refine lv_aload_n hx hb dX1_begin_8 rfl (lv_at hl 1 rfl) ?_
      refine va_alen (v := nI 16) hx hb hK hP 3 1 rfl rfl rfl dX1_begin_9 ?_
      refine lv_icmp_ge (tgt := 28) hx hb dX1_begin_10 (by decide) (fun _ => ?_) (fun hc => absurd (nI_le (a := 16) (b := 16) (Nat.le_refl _) (by omega)) hc)
      exact kx g H locs ls hg hP hD hS hl
    | succ d ih =>
      intro i g H locs ls hi hg hP hD hS hl kx
      have hlt : i < 16 := by omega
      refine lv_iload_n hx hb dX1_begin_7 rfl (lv_at hl 0 rfl) ?_
      refine lv_aload_n hx hb dX1_begin_8 rfl (lv_at hl 1 rfl) ?_
      refine va_alen (v := nI 16) hx hb hK hP 3 1 rfl rfl rfl dX1_begin_9 ?_
      refine lv_icmp_ge (tgt := 28) hx hb dX1_begin_10 (by decide) (fun hc => absurd hc (nI_ge (a := i) (b := 16) hlt (by omega))) (fun _ => ?_)
      refine lv_aload_n hx hb dX1_begin_13 rfl (lv_at hl 1 rfl) ?_
      refine lv_iload_n hx hb dX1_begin_14 rfl (lv_at hl 0 rfl) ?_
      refine lv_aload_n hx hb dX1_begin_15 rfl (lv_at hl 2 rfl) ?_
      refine va_get (D := D) (ci := 0) (C := RX1) (T := TX1) (N := 8) hx hb hts in_X1 hown hK hP 0 rfl rfl 3 (by decide) (hts _ q285) (fun _ h9 => h9) rfl dX1_begin_16 ?_
      refine lv_iload_n hx hb dX1_begin_19 rfl (lv_at hl 0 rfl) ?_
      refine hc_bald (k := i) hx hb hK hP 1 1 rfl rfl (by omega) (by decide) dX1_begin_20 ?_
      refine hc_bast (k := i) hx hb hK hP hD hS 3 1 rfl rfl (hlt) (by decide) (hc_fitn (hfK i)) dX1_begin_21 (fun H locs hP hD hS => ?_)
      have hP : va_P D vwCl [hcOb dk 0 [rv, sv, gv, .ref jk, .ref jn, .ref jt, zv, ov], hcBa D jk 32 K, hcBa D jn 32 V, hcBa D a1 16 (upd g i (K i))] H := hP
      have hD : va_D A [hcOb dk 0 [rv, sv, gv, .ref jk, .ref jn, .ref jt, zv, ov], hcBa D jk 32 K, hcBa D jn 32 V, hcBa D a1 16 (upd g i (K i))] := hD
      refine lv_iinc (v := nI (i + 1)) (lv' := [(3, .int (nI (i + 1))), (2, .ref a1), (0, .ref dk), (1, .int x)]) hx hb dX1_begin_22 hl (k := 0) rfl (nI_1 i) (by decide) rfl (fun ls hl => ?_)
      refine lv_goto (tgt := 7) hx hb dX1_begin_25 (by decide) ?_
      refine ih (i + 1) _ H locs ls (by omega) ?_ hP hD hS hl kx
      intro j hj
      by_cases hji : j = i
      · subst hji; exact pk_us
      · rw [pk_un hji]; exact hg j (by omega)
  refine L1 _ 16 0 _ _ _ _ (by omega) (fun j hj => absurd hj (Nat.not_lt_zero j)) hP hD hS hl ?_
  clear L1 hP hD hS hl
  intro g H locs ls hg hP hD hS hl
  have hD := hc_reD hD 3 (K) rfl
  have hP := hc_re hP 3 (K) rfl (hg)
  have hP : va_P D vwCl [hcOb dk 0 [rv, sv, gv, .ref jk, .ref jn, .ref jt, zv, ov], hcBa D jk 32 K, hcBa D jn 32 V, hcBa D a1 16 K] H := hP
  have hD : va_D A [hcOb dk 0 [rv, sv, gv, .ref jk, .ref jn, .ref jt, zv, ov], hcBa D jk 32 K, hcBa D jn 32 V, hcBa D a1 16 K] := hD
  clear hg
  refine lv_bipush (v := 16) hx hb dX1_begin_28 (by decide) ?_
  refine hc_newa hx hb .byte rfl (hts _ q112) hK hP hD hS hA 1 rfl (fun C h => by cases h) 16 (f0 := fun _ => 0) (fun _ => rfl) (by decide) (by decide) (by decide) (Nat.le_of_ble_eq_true rfl) (Nat.le_of_ble_eq_true rfl) dX1_begin_30 (fun a2 H hP hD hS => ?_)
  have hP : va_P D vwCl [hcOb dk 0 [rv, sv, gv, .ref jk, .ref jn, .ref jt, zv, ov], hcBa D jk 32 K, hcBa D jn 32 V, hcBa D a1 16 K, hcBa D a2 16 (fun _ => 0)] H := hP
  have hD : va_D A [hcOb dk 0 [rv, sv, gv, .ref jk, .ref jn, .ref jt, zv, ov], hcBa D jk 32 K, hcBa D jn 32 V, hcBa D a1 16 K, hcBa D a2 16 (fun _ => 0)] := hD
  refine W.widen (k := 2) (n := 32) (by decide) (by decide) ?_
  refine lv_astore_n (lv' := [(3, .ref a2), (2, .ref a1), (0, .ref dk), (1, .int x)]) hx hb dX1_begin_32 rfl hl (by decide) rfl (fun ls hl => ?_)
  refine lv_iconst (v := 0) hx hb dX1_begin_33 (by decide) ?_
  refine lv_istore (lv' := [(4, .int 0), (3, .ref a2), (2, .ref a1), (0, .ref dk), (1, .int x)]) hx hb dX1_begin_34 hl (by decide) rfl (fun ls hl => ?_)
  have L2 : ∀ (Qx : State → Prop) (d i : Nat) (g : Nat → Int32) (H : Heap) (locs : List Loc) (ls : Array Slot), i + d = 16 → (∀ j, j < i → g j = V j) → va_P D vwCl [hcOb dk 0 [rv, sv, gv, .ref jk, .ref jn, .ref jt, zv, ov], hcBa D jk 32 K, hcBa D jn 32 V, hcBa D a1 16 K, hcBa D a2 16 g] H → va_D A [hcOb dk 0 [rv, sv, gv, .ref jk, .ref jn, .ref jt, zv, ov], hcBa D jk 32 K, hcBa D jn 32 V, hcBa D a1 16 K, hcBa D a2 16 g] → va_S A s.heap H locs → lv_has ls 5 [(4, .int (nI i)), (3, .ref a2), (2, .ref a1), (0, .ref dk), (1, .int x)] → (∀ (g : Nat → Int32) (H : Heap) (locs : List Loc) (ls : Array Slot), (∀ j, j < 16 → g j = V j) → va_P D vwCl [hcOb dk 0 [rv, sv, gv, .ref jk, .ref jn, .ref jt, zv, ov], hcBa D jk 32 K, hcBa D jn 32 V, hcBa D a1 16 K, hcBa D a2 16 g] H → va_D A [hcOb dk 0 [rv, sv, gv, .ref jk, .ref jn, .ref jt, zv, ov], hcBa D jk 32 K, hcBa D jn 32 V, hcBa D a1 16 K, hcBa D a2 16 g] → va_S A s.heap H locs → lv_has ls 5 [(4, .int (nI 16)), (3, .ref a2), (2, .ref a1), (0, .ref dk), (1, .int x)] → W p l e (hcRm 5 111 11 2383) s m args below meth c H locs 2 32 Qx (F0 m 60 ls [])) → W p l e (hcRm 5 111 11 2383) s m args below meth c H locs 2 32 Qx (F0 m 36 ls []) := by
    intro Qx d
    induction d with
    | zero =>
      intro i g H locs ls hi hg hP hD hS hl kx
      obtain rfl : i = 16 := by omega
      refine lv_iload hx hb dX1_begin_36 (lv_at hl 0 rfl) ?_
      refine lv_bipush (v := 16) hx hb dX1_begin_38 (by decide) ?_
      refine lv_icmp_ge (tgt := 60) hx hb dX1_begin_40 (by decide) (fun _ => ?_) (fun hc => absurd (nI_le (a := 16) (b := 16) (Nat.le_refl _) (by omega)) hc)
      exact kx g H locs ls hg hP hD hS hl
    | succ d ih =>
      intro i g H locs ls hi hg hP hD hS hl kx
      have hlt : i < 16 := by omega
      refine lv_iload hx hb dX1_begin_36 (lv_at hl 0 rfl) ?_
      refine lv_bipush (v := 16) hx hb dX1_begin_38 (by decide) ?_
      refine lv_icmp_ge (tgt := 60) hx hb dX1_begin_40 (by decide) (fun hc => absurd hc (nI_ge (a := i) (b := 16) hlt (by omega))) (fun _ => ?_)
      refine lv_aload_n hx hb dX1_begin_43 rfl (lv_at hl 1 rfl) ?_
      refine lv_iload hx hb dX1_begin_44 (lv_at hl 0 rfl) ?_
      refine lv_aload_n hx hb dX1_begin_46 rfl (lv_at hl 3 rfl) ?_
      refine va_get (D := D) (ci := 0) (C := RX1) (T := TX1) (N := 8) hx hb hts in_X1 hown hK hP 0 rfl rfl 4 (by decide) (hts _ q286) (fun _ h9 => h9) rfl dX1_begin_47 ?_
      refine lv_iload hx hb dX1_begin_50 (lv_at hl 0 rfl) ?_
      refine hc_bald (k := i) hx hb hK hP 2 1 rfl rfl (by omega) (by decide) dX1_begin_52 ?_
      refine hc_bast (k := i) hx hb hK hP hD hS 4 1 rfl rfl (hlt) (by decide) (hc_fitn (hfV i)) dX1_begin_53 (fun H locs hP hD hS => ?_)
      have hP : va_P D vwCl [hcOb dk 0 [rv, sv, gv, .ref jk, .ref jn, .ref jt, zv, ov], hcBa D jk 32 K, hcBa D jn 32 V, hcBa D a1 16 K, hcBa D a2 16 (upd g i (V i))] H := hP
      have hD : va_D A [hcOb dk 0 [rv, sv, gv, .ref jk, .ref jn, .ref jt, zv, ov], hcBa D jk 32 K, hcBa D jn 32 V, hcBa D a1 16 K, hcBa D a2 16 (upd g i (V i))] := hD
      refine lv_iinc (v := nI (i + 1)) (lv' := [(4, .int (nI (i + 1))), (3, .ref a2), (2, .ref a1), (0, .ref dk), (1, .int x)]) hx hb dX1_begin_54 hl (k := 0) rfl (nI_1 i) (by decide) rfl (fun ls hl => ?_)
      refine lv_goto (tgt := 36) hx hb dX1_begin_57 (by decide) ?_
      refine ih (i + 1) _ H locs ls (by omega) ?_ hP hD hS hl kx
      intro j hj
      by_cases hji : j = i
      · subst hji; exact pk_us
      · rw [pk_un hji]; exact hg j (by omega)
  refine L2 _ 16 0 _ _ _ _ (by omega) (fun j hj => absurd hj (Nat.not_lt_zero j)) hP hD hS hl ?_
  clear L2 hP hD hS hl
  intro g H locs ls hg hP hD hS hl
  have hD := hc_reD hD 4 (V) rfl
  have hP := hc_re hP 4 (V) rfl (hg)
  have hP : va_P D vwCl [hcOb dk 0 [rv, sv, gv, .ref jk, .ref jn, .ref jt, zv, ov], hcBa D jk 32 K, hcBa D jn 32 V, hcBa D a1 16 K, hcBa D a2 16 V] H := hP
  have hD : va_D A [hcOb dk 0 [rv, sv, gv, .ref jk, .ref jn, .ref jt, zv, ov], hcBa D jk 32 K, hcBa D jn 32 V, hcBa D a1 16 K, hcBa D a2 16 V] := hD
  clear hg
  refine va_new (ci := 2) (fs := [.null, .null]) (C := RX3) (T := TX3) (N := 2) hx hb hts in_X3 tyX3 tyX3_ok hown (hts _ q330) (hts _ q331) (hts _ q13) hK hP hD hS hA rfl (fun j hj => match j, hj with | 0, _ => rfl | 1, _ => rfl | j + 2, h => absurd h (by omega)) (Nat.le_of_ble_eq_true rfl) (Nat.le_of_ble_eq_true rfl) dX1_begin_60 (fun aw H hP hD hS => ?_)
  have hP : va_P D vwCl [hcOb dk 0 [rv, sv, gv, .ref jk, .ref jn, .ref jt, zv, ov], hcBa D jk 32 K, hcBa D jn 32 V, hcBa D a1 16 K, hcBa D a2 16 V, hcOb aw 2 [.null, .null]] H := hP
  have hD : va_D A [hcOb dk 0 [rv, sv, gv, .ref jk, .ref jn, .ref jt, zv, ov], hcBa D jk 32 K, hcBa D jn 32 V, hcBa D a1 16 K, hcBa D a2 16 V, hcOb aw 2 [.null, .null]] := hD
  refine lv_dup hx hb dX1_begin_63 rfl ?_
  refine va_new (ci := 3) (fs := [.null]) (C := RX4) (T := TX4) (N := 1) hx hb hts in_X4 tyX4 tyX4_ok hown (hts _ q332) (hts _ q333) (hts _ q14) hK hP hD hS hA rfl (fun j hj => match j, hj with | 0, _ => rfl | j + 1, h => absurd h (by omega)) (Nat.le_of_ble_eq_true rfl) (Nat.le_of_ble_eq_true rfl) dX1_begin_64 (fun ak H hP hD hS => ?_)
  have hP : va_P D vwCl [hcOb dk 0 [rv, sv, gv, .ref jk, .ref jn, .ref jt, zv, ov], hcBa D jk 32 K, hcBa D jn 32 V, hcBa D a1 16 K, hcBa D a2 16 V, hcOb aw 2 [.null, .null], hcOb ak 3 [.null]] H := hP
  have hD : va_D A [hcOb dk 0 [rv, sv, gv, .ref jk, .ref jn, .ref jt, zv, ov], hcBa D jk 32 K, hcBa D jn 32 V, hcBa D a1 16 K, hcBa D a2 16 V, hcOb aw 2 [.null, .null], hcOb ak 3 [.null]] := hD
  refine lv_dup hx hb dX1_begin_67 rfl ?_
  refine lv_aload_n hx hb dX1_begin_68 rfl (lv_at hl 2 rfl) ?_
  refine hc_vI (wr := [hcOb dk 0 [rv, sv, gv, .ref jk, .ref jn, .ref jt, zv, ov], hcBa D jk 32 K, hcBa D jn 32 V, hcBa D a2 16 V, hcOb aw 2 [.null, .null]]) (met_K3 l D ak a1 K hfK) ⟨hx, hb, hml, hown, hts⟩ (cwI 1 hts (lw_meth q336) rfl rfl rfl (hts _ q14) (hts _ q334) (hts _ q335) rfl (by decide +kernel) ⟨Nat.le_of_ble_eq_true rfl, Nat.le_of_ble_eq_true rfl⟩) hcBl_no (hc_no _ _) hK hP hD hS hA [6, 3] [0, 1, 2, 4, 5] (by decide) rfl rfl (by decide) (by decide) rfl hl.1 rfl (Nat.le_of_ble_eq_true rfl) dX1_begin_69 ⟨Nat.le_of_ble_eq_true rfl, Nat.le_of_ble_eq_true rfl⟩ (fun hk H locs hw hP hD hS => ?_)
  have hP : va_P D vwCl [hcOb dk 0 [rv, sv, gv, .ref jk, .ref jn, .ref jt, zv, ov], hcBa D jk 32 K, hcBa D jn 32 V, hcBa D a2 16 V, hcOb aw 2 [.null, .null], hcOb ak 3 [.ref hk], hcBa D hk 16 K, hcBa D a1 16 K] H := hP
  have hD : va_D A [hcOb dk 0 [rv, sv, gv, .ref jk, .ref jn, .ref jt, zv, ov], hcBa D jk 32 K, hcBa D jn 32 V, hcBa D a2 16 V, hcOb aw 2 [.null, .null], hcOb ak 3 [.ref hk], hcBa D hk 16 K, hcBa D a1 16 K] := hD
  refine lv_aload_n hx hb dX1_begin_72 rfl (lv_at hl 1 rfl) ?_
  refine hc_vI (wr := [hcOb dk 0 [rv, sv, gv, .ref jk, .ref jn, .ref jt, zv, ov], hcBa D jk 32 K, hcBa D jn 32 V, hcOb ak 3 [.ref hk], hcBa D hk 16 K, hcBa D a1 16 K]) (met_V2 l D aw ak a2 V hfV) ⟨hx, hb, hml, hown, hts⟩ (cwI 2 hts (lw_meth q351) rfl rfl rfl (hts _ q13) (hts _ q349) (hts _ q350) rfl (by decide +kernel) ⟨Nat.le_of_ble_eq_true rfl, Nat.le_of_ble_eq_true rfl⟩) hcBl_no (hc_no _ _) hK hP hD hS hA [4, 3] [0, 1, 2, 5, 6, 7] (by decide) rfl rfl (by decide) (by decide) rfl hl.1 rfl (Nat.le_of_ble_eq_true rfl) dX1_begin_73 ⟨Nat.le_of_ble_eq_true rfl, Nat.le_of_ble_eq_true rfl⟩ (fun hv H locs hw hP hD hS => ?_)
  have hP : va_P D vwCl [hcOb dk 0 [rv, sv, gv, .ref jk, .ref jn, .ref jt, zv, ov], hcBa D jk 32 K, hcBa D jn 32 V, hcOb ak 3 [.ref hk], hcBa D hk 16 K, hcBa D a1 16 K, hcOb aw 2 [.ref hv, .ref ak], hcBa D hv 16 V, hcBa D a2 16 V] H := hP
  have hD : va_D A [hcOb dk 0 [rv, sv, gv, .ref jk, .ref jn, .ref jt, zv, ov], hcBa D jk 32 K, hcBa D jn 32 V, hcOb ak 3 [.ref hk], hcBa D hk 16 K, hcBa D a1 16 K, hcOb aw 2 [.ref hv, .ref ak], hcBa D hv 16 V, hcBa D a2 16 V] := hD
  refine lv_astore (lv' := [(4, .ref aw), (3, .ref a2), (2, .ref a1), (0, .ref dk), (1, .int x)]) hx hb dX1_begin_76 hl (by decide) rfl (fun ls hl => ?_)
  refine lv_aload_n hx hb dX1_begin_78 rfl (lv_at hl 3 rfl) ?_
  refine va_new (ci := 1) (fs := [.null, .null, .int 0, .null, .null, .int 0, .null, .int 0]) (C := RX2) (T := TX2) (N := 8) hx hb hts in_X2 tyX2 tyX2_ok hown (hts _ q252) (hts _ q153) (hts _ q12) hK hP hD hS hA rfl (fun j hj => match j, hj with | 0, _ => rfl | 1, _ => rfl | 2, _ => rfl | 3, _ => rfl | 4, _ => rfl | 5, _ => rfl | 6, _ => rfl | 7, _ => rfl | j + 8, h => absurd h (by omega)) (Nat.le_of_ble_eq_true rfl) (Nat.le_of_ble_eq_true rfl) dX1_begin_79 (fun he H hP hD hS => ?_)
  have hP : va_P D vwCl [hcOb dk 0 [rv, sv, gv, .ref jk, .ref jn, .ref jt, zv, ov], hcBa D jk 32 K, hcBa D jn 32 V, hcOb ak 3 [.ref hk], hcBa D hk 16 K, hcBa D a1 16 K, hcOb aw 2 [.ref hv, .ref ak], hcBa D hv 16 V, hcBa D a2 16 V, hcOb he 1 [.null, .null, .int 0, .null, .null, .int 0, .null, .int 0]] H := hP
  have hD : va_D A [hcOb dk 0 [rv, sv, gv, .ref jk, .ref jn, .ref jt, zv, ov], hcBa D jk 32 K, hcBa D jn 32 V, hcOb ak 3 [.ref hk], hcBa D hk 16 K, hcBa D a1 16 K, hcOb aw 2 [.ref hv, .ref ak], hcBa D hv 16 V, hcBa D a2 16 V, hcOb he 1 [.null, .null, .int 0, .null, .null, .int 0, .null, .int 0]] := hD
  refine lv_dup hx hb dX1_begin_82 rfl ?_
  refine hc_vI (wr := [hcOb dk 0 [rv, sv, gv, .ref jk, .ref jn, .ref jt, zv, ov], hcBa D jk 32 K, hcBa D jn 32 V, hcOb ak 3 [.ref hk], hcBa D hk 16 K, hcBa D a1 16 K, hcOb aw 2 [.ref hv, .ref ak], hcBa D hv 16 V, hcBa D a2 16 V]) (met_E0 l D he) ⟨hx, hb, hml, hown, hts⟩ (cwI 0 hts (lw_meth q255) rfl rfl rfl (hts _ q12) (hts _ q253) (hts _ q254) rfl (by decide +kernel) ⟨Nat.le_of_ble_eq_true rfl, Nat.le_of_ble_eq_true rfl⟩) hcBl_no (hc_no _ _) hK hP hD hS hA [9] [0, 1, 2, 3, 4, 5, 6, 7, 8] (by decide) rfl rfl (by decide) (by decide) rfl hl.1 rfl (Nat.le_of_ble_eq_true rfl) dX1_begin_83 ⟨Nat.le_of_ble_eq_true rfl, Nat.le_of_ble_eq_true rfl⟩ (fun u H locs hw hP hD hS => ?_)
  obtain ⟨hp, hq, hz⟩ := u
  have hP : va_P D vwCl [hcOb dk 0 [rv, sv, gv, .ref jk, .ref jn, .ref jt, zv, ov], hcBa D jk 32 K, hcBa D jn 32 V, hcOb ak 3 [.ref hk], hcBa D hk 16 K, hcBa D a1 16 K, hcOb aw 2 [.ref hv, .ref ak], hcBa D hv 16 V, hcBa D a2 16 V, hcOb he 1 [.ref hp, .ref hq, .int 0, .null, .null, .int 0, .ref hz, .int 0], hcIa D hp 512 (fun _ => 0), hcIa D hq 512 (fun _ => 0), hcBa D hz 4 (fun _ => 0)] H := hP
  have hD : va_D A [hcOb dk 0 [rv, sv, gv, .ref jk, .ref jn, .ref jt, zv, ov], hcBa D jk 32 K, hcBa D jn 32 V, hcOb ak 3 [.ref hk], hcBa D hk 16 K, hcBa D a1 16 K, hcOb aw 2 [.ref hv, .ref ak], hcBa D hv 16 V, hcBa D a2 16 V, hcOb he 1 [.ref hp, .ref hq, .int 0, .null, .null, .int 0, .ref hz, .int 0], hcIa D hp 512 (fun _ => 0), hcIa D hq 512 (fun _ => 0), hcBa D hz 4 (fun _ => 0)] := hD
  refine va_put (D := D) (ci := 0) (v := .ref he) (ty := .object "HC128Engine") (C := RX1) (T := TX1) (N := 8) hx hb hts in_X1 tyX1 tyX1_ok nmX1 hown hK hP hD hS 0 rfl rfl 0 (by decide) (hts _ q282) (fun _ h9 => h9) rfl (by decide +kernel) rfl rfl (Nat.le_of_ble_eq_true rfl) dX1_begin_86 (fun H locs hP hD hS => ?_)
  have hP : va_P D vwCl [hcOb dk 0 [.ref he, sv, gv, .ref jk, .ref jn, .ref jt, zv, ov], hcBa D jk 32 K, hcBa D jn 32 V, hcOb ak 3 [.ref hk], hcBa D hk 16 K, hcBa D a1 16 K, hcOb aw 2 [.ref hv, .ref ak], hcBa D hv 16 V, hcBa D a2 16 V, hcOb he 1 [.ref hp, .ref hq, .int 0, .null, .null, .int 0, .ref hz, .int 0], hcIa D hp 512 (fun _ => 0), hcIa D hq 512 (fun _ => 0), hcBa D hz 4 (fun _ => 0)] H := hP
  have hD : va_D A [hcOb dk 0 [.ref he, sv, gv, .ref jk, .ref jn, .ref jt, zv, ov], hcBa D jk 32 K, hcBa D jn 32 V, hcOb ak 3 [.ref hk], hcBa D hk 16 K, hcBa D a1 16 K, hcOb aw 2 [.ref hv, .ref ak], hcBa D hv 16 V, hcBa D a2 16 V, hcOb he 1 [.ref hp, .ref hq, .int 0, .null, .null, .int 0, .ref hz, .int 0], hcIa D hp 512 (fun _ => 0), hcIa D hq 512 (fun _ => 0), hcBa D hz 4 (fun _ => 0)] := hD
  refine lv_aload_n hx hb dX1_begin_89 rfl (lv_at hl 3 rfl) ?_
  refine va_get (D := D) (ci := 0) (C := RX1) (T := TX1) (N := 8) hx hb hts in_X1 hown hK hP 0 rfl rfl 0 (by decide) (hts _ q282) (fun _ h9 => h9) rfl dX1_begin_90 ?_
  refine lv_iconst (v := 1) hx hb dX1_begin_93 (by decide) ?_
  refine lv_aload hx hb dX1_begin_94 (lv_at hl 0 rfl) ?_
  refine hc_vV (wr := [hcOb dk 0 [.ref he, sv, gv, .ref jk, .ref jn, .ref jt, zv, ov], hcBa D jk 32 K, hcBa D jn 32 V, hcBa D a1 16 K, hcBa D a2 16 V, hcBa D hz 4 (fun _ => 0)]) (met_initP l D he hp hq aw ak hk hv (.ref hz) .null .null 0 0 (fun _ => 0) (fun _ => 0) K V (σ 0) hσ.1) ⟨hx, hb, hml, hown, hts⟩ (cwV 2 hts (lw_V q364 q365 q366 q12 q367) rfl rfl rfl (by decide +kernel) ⟨Nat.le_of_ble_eq_true rfl, Nat.le_of_ble_eq_true rfl⟩) hcBl_no (hc_no _ _) hK hP hD hS hA [9, 10, 11, 6, 3, 4, 7] [0, 1, 2, 5, 8, 12] (by decide) rfl rfl (by decide) (by decide) 9 (ci := 1) rfl rfl rfl rfl hl.1 rfl (Nat.le_of_ble_eq_true rfl) dX1_begin_96 ⟨Nat.le_of_ble_eq_true rfl, Nat.le_of_ble_eq_true rfl⟩ (fun _ H locs hw hP hD hS => ?_)
  have hP : va_P D vwCl [hcOb dk 0 [.ref he, sv, gv, .ref jk, .ref jn, .ref jt, zv, ov], hcBa D jk 32 K, hcBa D jn 32 V, hcBa D a1 16 K, hcBa D a2 16 V, hcBa D hz 4 (fun _ => 0), hcOb he 1 [.ref hp, .ref hq, .int 0, .ref hk, .ref hv, .int 1, .ref hz, .int 0], hcIa D hp 512 (σ 0).1, hcIa D hq 512 (σ 0).2.1, hcBa D hk 16 K, hcBa D hv 16 V] H := hP
  have hD : va_D A [hcOb dk 0 [.ref he, sv, gv, .ref jk, .ref jn, .ref jt, zv, ov], hcBa D jk 32 K, hcBa D jn 32 V, hcBa D a1 16 K, hcBa D a2 16 V, hcBa D hz 4 (fun _ => 0), hcOb he 1 [.ref hp, .ref hq, .int 0, .ref hk, .ref hv, .int 1, .ref hz, .int 0], hcIa D hp 512 (σ 0).1, hcIa D hq 512 (σ 0).2.1, hcBa D hk 16 K, hcBa D hv 16 V] := hD
  refine lv_aload_n hx hb dX1_begin_99 rfl (lv_at hl 3 rfl) ?_
  refine lv_iconst (v := 1) hx hb dX1_begin_100 (by decide) ?_
  refine va_put (D := D) (ci := 0) (v := .int 1) (ty := .boolean) (C := RX1) (T := TX1) (N := 8) hx hb hts in_X1 tyX1 tyX1_ok nmX1 hown hK hP hD hS 0 rfl rfl 1 (by decide) (hts _ q283) (fun _ h9 => h9) rfl (by decide +kernel) rfl rfl (Nat.le_of_ble_eq_true rfl) dX1_begin_101 (fun H locs hP hD hS => ?_)
  have hP : va_P D vwCl [hcOb dk 0 [.ref he, .int 1, gv, .ref jk, .ref jn, .ref jt, zv, ov], hcBa D jk 32 K, hcBa D jn 32 V, hcBa D a1 16 K, hcBa D a2 16 V, hcBa D hz 4 (fun _ => 0), hcOb he 1 [.ref hp, .ref hq, .int 0, .ref hk, .ref hv, .int 1, .ref hz, .int 0], hcIa D hp 512 (σ 0).1, hcIa D hq 512 (σ 0).2.1, hcBa D hk 16 K, hcBa D hv 16 V] H := hP
  have hD : va_D A [hcOb dk 0 [.ref he, .int 1, gv, .ref jk, .ref jn, .ref jt, zv, ov], hcBa D jk 32 K, hcBa D jn 32 V, hcBa D a1 16 K, hcBa D a2 16 V, hcBa D hz 4 (fun _ => 0), hcOb he 1 [.ref hp, .ref hq, .int 0, .ref hk, .ref hv, .int 1, .ref hz, .int 0], hcIa D hp 512 (σ 0).1, hcIa D hq 512 (σ 0).2.1, hcBa D hk 16 K, hcBa D hv 16 V] := hD
  refine lv_aload_n hx hb dX1_begin_104 rfl (lv_at hl 3 rfl) ?_
  refine lv_iconst (v := 0) hx hb dX1_begin_105 (by decide) ?_
  refine va_put (D := D) (ci := 0) (v := .int 0) (ty := .int) (C := RX1) (T := TX1) (N := 8) hx hb hts in_X1 tyX1 tyX1_ok nmX1 hown hK hP hD hS 0 rfl rfl 2 (by decide) (hts _ q284) (fun _ h9 => h9) rfl (by decide +kernel) rfl rfl (Nat.le_of_ble_eq_true rfl) dX1_begin_106 (fun H locs hP hD hS => ?_)
  have hP : va_P D vwCl [hcOb dk 0 [.ref he, .int 1, .int 0, .ref jk, .ref jn, .ref jt, zv, ov], hcBa D jk 32 K, hcBa D jn 32 V, hcBa D a1 16 K, hcBa D a2 16 V, hcBa D hz 4 (fun _ => 0), hcOb he 1 [.ref hp, .ref hq, .int 0, .ref hk, .ref hv, .int 1, .ref hz, .int 0], hcIa D hp 512 (σ 0).1, hcIa D hq 512 (σ 0).2.1, hcBa D hk 16 K, hcBa D hv 16 V] H := hP
  have hD : va_D A [hcOb dk 0 [.ref he, .int 1, .int 0, .ref jk, .ref jn, .ref jt, zv, ov], hcBa D jk 32 K, hcBa D jn 32 V, hcBa D a1 16 K, hcBa D a2 16 V, hcBa D hz 4 (fun _ => 0), hcOb he 1 [.ref hp, .ref hq, .int 0, .ref hk, .ref hv, .int 1, .ref hz, .int 0], hcIa D hp 512 (σ 0).1, hcIa D hq 512 (σ 0).2.1, hcBa D hk 16 K, hcBa D hv 16 V] := hD
  have hP : va_P D vwCl [hcOb dk 0 [.ref he, .int 1, .int 0, .ref jk, .ref jn, .ref jt, zv, ov], hcBa D jk 32 K, hcBa D jn 32 V, hcOb he 1 [.ref hp, .ref hq, .int 0, .ref hk, .ref hv, .int 1, .ref hz, .int 0], hcIa D hp 512 (σ 0).1, hcIa D hq 512 (σ 0).2.1, hcBa D hz 4 (fun _ => 0), hcBa D hk 16 K, hcBa D hv 16 V] H := hc_psub hP [0, 1, 2, 6, 7, 8, 5, 9, 10] rfl
  have hD : va_D A [hcOb dk 0 [.ref he, .int 1, .int 0, .ref jk, .ref jn, .ref jt, zv, ov], hcBa D jk 32 K, hcBa D jn 32 V, hcOb he 1 [.ref hp, .ref hq, .int 0, .ref hk, .ref hv, .int 1, .ref hz, .int 0], hcIa D hp 512 (σ 0).1, hcIa D hq 512 (σ 0).2.1, hcBa D hz 4 (fun _ => 0), hcBa D hk 16 K, hcBa D hv 16 V] := hD.sub [0, 1, 2, 6, 7, 8, 5, 9, 10] (by decide) rfl
  have h0 : (σ 0).2.2 = 0 := by rw [hσ.1]; rfl
  have hP : va_P D vwCl [hcOb dk 0 [.ref he, .int 1, .int 0, .ref jk, .ref jn, .ref jt, zv, ov], hcBa D jk 32 K, hcBa D jn 32 V, hcOb he 1 [.ref hp, .ref hq, .int (nI (σ 0).2.2), .ref hk, .ref hv, .int 1, .ref hz, .int 0], hcIa D hp 512 (σ 0).1, hcIa D hq 512 (σ 0).2.1, hcBa D hz 4 (fun _ => 0), hcBa D hk 16 K, hcBa D hv 16 V] H := by rw [h0]; exact hP
  have hD : va_D A [hcOb dk 0 [.ref he, .int 1, .int 0, .ref jk, .ref jn, .ref jt, zv, ov], hcBa D jk 32 K, hcBa D jn 32 V, hcOb he 1 [.ref hp, .ref hq, .int (nI (σ 0).2.2), .ref hk, .ref hv, .int 1, .ref hz, .int 0], hcIa D hp 512 (σ 0).1, hcIa D hq 512 (σ 0).2.1, hcBa D hz 4 (fun _ => 0), hcBa D hk 16 K, hcBa D hv 16 V] := by rw [h0]; exact hD
  exact hc_vret ((he, hp, hq, hz, hk, hv)) hx hb hr hlk (trivial) hP hD [0, 1, 2, 3, 4, 5, 6, 7, 8] (by decide) rfl hS (Nat.le_of_ble_eq_true rfl) (Nat.le_of_ble_eq_true rfl) dX1_begin_109
set_option maxHeartbeats 8000000 in
set_option maxRecDepth 100000 in
/-- run(at, n) -/
theorem met_run (l : Launch) (D : va_G) (dk jk jn jt : Nat) (he hp hq hz hk hv : Nat) (ov : Value) (K V T : Nat → Int32) (σ : Nat → hcS) (z g n : Nat) (B : Nat → Int32) (a c0 : Nat) (hσ : hcSeq K V σ) (hB : hcOk σ n B) (hz6 : z ≤ 256) (hac : a + c0 ≤ z) (hg : g + c0 ≤ 1024) : HcI l yX1_run cX1_run 6 (.int) 5 113 1 256 D hcNo [.ref dk, .int (nI a), .int (nI c0)] [hcOb dk 0 [.ref he, .int 1, .int (nI g), .ref jk, .ref jn, .ref jt, .int (nI z), ov], hcBa D jt 256 T, hcOb he 1 [.ref hp, .ref hq, .int (nI (σ ((n + 3) / 4)).2.2), .ref hk, .ref hv, .int 1, .ref hz, .int (nI (n % 4))], hcIa D hp 512 (σ ((n + 3) / 4)).1, hcIa D hq 512 (σ ((n + 3) / 4)).2.1, hcBa D hz 4 B, hcBa D hk 16 K, hcBa D hv 16 V] (fun (r : Int32) (u : Nat × (Nat → Int32)) => r = nI c0 ∧ hcOk σ (n + c0) u.2) (fun u => [hcOb dk 0 [.ref he, .int 1, .int (nI (g + c0)), .ref jk, .ref jn, .ref jt, .int (nI z), .ref u.1], hcBa D jt 256 T, hcOb he 1 [.ref hp, .ref hq, .int (nI (σ ((n + c0 + 3) / 4)).2.2), .ref hk, .ref hv, .int 1, .ref hz, .int (nI ((n + c0) % 4))], hcIa D hp 512 (σ ((n + c0 + 3) / 4)).1, hcIa D hq 512 (σ ((n + c0 + 3) / 4)).2.1, hcBa D hz 4 u.2, hcBa D hk 16 K, hcBa D hv 16 V, hcBa D u.1 c0 (hcXo σ T a n)]) := by
  refine hc_inI (by decide) (Nat.le_of_ble_eq_true rfl) ?_
  intro p e s m args below meth c ls A hx hb hr hlk hml hown hts hnm hP hK hD hE hA hAn hS hl
  have hown : s.vm.findClass RX1 = some m.cls := hown
  have hl : lv_has ls 6 [(0, .ref dk), (1, .int (nI a)), (2, .int (nI c0))] := hl
  have hP : va_P D vwCl [hcOb dk 0 [.ref he, .int 1, .int (nI g), .ref jk, .ref jn, .ref jt, .int (nI z), ov], hcBa D jt 256 T, hcOb he 1 [.ref hp, .ref hq, .int (nI (σ ((n + 3) / 4)).2.2), .ref hk, .ref hv, .int 1, .ref hz, .int (nI (n % 4))], hcIa D hp 512 (σ ((n + 3) / 4)).1, hcIa D hq 512 (σ ((n + 3) / 4)).2.1, hcBa D hz 4 B, hcBa D hk 16 K, hcBa D hv 16 V] s.heap := hP
  have hD : va_D A [hcOb dk 0 [.ref he, .int 1, .int (nI g), .ref jk, .ref jn, .ref jt, .int (nI z), ov], hcBa D jt 256 T, hcOb he 1 [.ref hp, .ref hq, .int (nI (σ ((n + 3) / 4)).2.2), .ref hk, .ref hv, .int 1, .ref hz, .int (nI (n % 4))], hcIa D hp 512 (σ ((n + 3) / 4)).1, hcIa D hq 512 (σ ((n + 3) / 4)).2.1, hcBa D hz 4 B, hcBa D hk 16 K, hcBa D hv 16 V] := hD
  refine lv_aload_n hx hb dX1_run_0 rfl (lv_at hl 0 rfl) ?_
  refine va_get (D := D) (ci := 0) (C := RX1) (T := TX1) (N := 8) hx hb hts in_X1 hown hK hP 0 rfl rfl 1 (by decide) (hts _ q283) (fun _ h9 => h9) rfl dX1_run_1 ?_
  refine lv_if_ne (tgt := 9) hx hb dX1_run_4 (by decide) (fun _ => ?_) (fun hc => absurd hc (by decide))
  refine lv_aload_n hx hb dX1_run_9 rfl (lv_at hl 0 rfl) ?_
  refine lv_iload_n hx hb dX1_run_10 rfl (lv_at hl 1 rfl) ?_
  refine hc_oV (met_from l D dk jk jn jt (.ref he) (.int 1) (.int (nI g)) ov z (nI a) (by omega)) ⟨hx, hb, hml, hown, hts⟩ (cwV 1 hts (lw_V q28 q30 qs0 q11 q32) rfl rfl rfl (by decide +kernel) ⟨Nat.le_of_ble_eq_true rfl, Nat.le_of_ble_eq_true rfl⟩) hcBl_no (hc_no _ _) hK hP hD [0] (by decide) rfl 0 (ci := 0) rfl rfl rfl rfl hl.1 rfl (Nat.le_of_ble_eq_true rfl) dX1_run_11 ⟨Nat.le_of_ble_eq_true rfl, Nat.le_of_ble_eq_true rfl⟩ ?_
  refine hc_top (y := nI a) (by rw [hcM_nI (by omega), Nat.mod_eq_of_lt (by omega)]) ?_
  refine lv_istore_n (lv' := [(3, .int (nI a)), (0, .ref dk), (1, .int (nI a)), (2, .int (nI c0))]) hx hb dX1_run_14 rfl hl (by decide) rfl (fun ls hl => ?_)
  refine lv_aload_n hx hb dX1_run_15 rfl (lv_at hl 1 rfl) ?_
  refine lv_iload_n hx hb dX1_run_16 rfl (lv_at hl 0 rfl) ?_
  refine lv_iload_n hx hb dX1_run_17 rfl (lv_at hl 3 rfl) ?_
  refine hc_oV (met_count l D dk jk jn jt (.ref he) (.int 1) (.int (nI g)) ov z a (nI c0) (by omega) (by omega)) ⟨hx, hb, hml, hown, hts⟩ (cwV 2 hts (lw_V q34 q36 qs1 q11 q37) rfl rfl rfl (by decide +kernel) ⟨Nat.le_of_ble_eq_true rfl, Nat.le_of_ble_eq_true rfl⟩) hcBl_no (hc_no _ _) hK hP hD [0] (by decide) rfl 0 (ci := 0) rfl rfl rfl rfl hl.1 rfl (Nat.le_of_ble_eq_true rfl) dX1_run_18 ⟨Nat.le_of_ble_eq_true rfl, Nat.le_of_ble_eq_true rfl⟩ ?_
  refine hc_top (y := nI c0) (by rw [hcM_nI (by omega), Nat.mod_eq_of_lt (by omega)]) ?_
  refine lv_istore (lv' := [(4, .int (nI c0)), (3, .int (nI a)), (0, .ref dk), (1, .int (nI a)), (2, .int (nI c0))]) hx hb dX1_run_21 hl (by decide) rfl (fun ls hl => ?_)
  refine lv_aload_n hx hb dX1_run_23 rfl (lv_at hl 2 rfl) ?_
  refine va_get (D := D) (ci := 0) (C := RX1) (T := TX1) (N := 8) hx hb hts in_X1 hown hK hP 0 rfl rfl 2 (by decide) (hts _ q284) (fun _ h9 => h9) rfl dX1_run_24 ?_
  refine lv_iload hx hb dX1_run_27 (lv_at hl 0 rfl) ?_
  refine lv_iadd hx hb dX1_run_29 ?_
  refine hc_top (y := nI (g + c0)) (nI_add _ _) ?_
  refine lv_sipush (v := 1024) hx hb dX1_run_30 (by decide) ?_
  refine lv_icmp_le (tgt := 39) hx hb dX1_run_33 (by decide) (fun _ => ?_) (fun hc => absurd (nI_le (a := g + c0) (b := 1024) hg (by decide)) hc)
  refine lv_aload_n hx hb dX1_run_39 rfl (lv_at hl 2 rfl) ?_
  refine lv_dup hx hb dX1_run_40 rfl ?_
  refine va_get (D := D) (ci := 0) (C := RX1) (T := TX1) (N := 8) hx hb hts in_X1 hown hK hP 0 rfl rfl 2 (by decide) (hts _ q284) (fun _ h9 => h9) rfl dX1_run_41 ?_
  refine lv_iload hx hb dX1_run_44 (lv_at hl 0 rfl) ?_
  refine lv_iadd hx hb dX1_run_46 ?_
  refine hc_top (y := nI (g + c0)) (nI_add _ _) ?_
  refine va_put (D := D) (ci := 0) (v := .int (nI (g + c0))) (ty := .int) (C := RX1) (T := TX1) (N := 8) hx hb hts in_X1 tyX1 tyX1_ok nmX1 hown hK hP hD hS 0 rfl rfl 2 (by decide) (hts _ q284) (fun _ h9 => h9) rfl (by decide +kernel) rfl rfl (Nat.le_of_ble_eq_true rfl) dX1_run_47 (fun H locs hP hD hS => ?_)
  have hP : va_P D vwCl [hcOb dk 0 [.ref he, .int 1, .int (nI (g + c0)), .ref jk, .ref jn, .ref jt, .int (nI z), ov], hcBa D jt 256 T, hcOb he 1 [.ref hp, .ref hq, .int (nI (σ ((n + 3) / 4)).2.2), .ref hk, .ref hv, .int 1, .ref hz, .int (nI (n % 4))], hcIa D hp 512 (σ ((n + 3) / 4)).1, hcIa D hq 512 (σ ((n + 3) / 4)).2.1, hcBa D hz 4 B, hcBa D hk 16 K, hcBa D hv 16 V] H := hP
  have hD : va_D A [hcOb dk 0 [.ref he, .int 1, .int (nI (g + c0)), .ref jk, .ref jn, .ref jt, .int (nI z), ov], hcBa D jt 256 T, hcOb he 1 [.ref hp, .ref hq, .int (nI (σ ((n + 3) / 4)).2.2), .ref hk, .ref hv, .int 1, .ref hz, .int (nI (n % 4))], hcIa D hp 512 (σ ((n + 3) / 4)).1, hcIa D hq 512 (σ ((n + 3) / 4)).2.1, hcBa D hz 4 B, hcBa D hk 16 K, hcBa D hv 16 V] := hD
  refine lv_iload hx hb dX1_run_50 (lv_at hl 0 rfl) ?_
  refine hc_newa hx hb .byte rfl (hts _ q112) hK hP hD hS hA 1 rfl (fun C h => by cases h) c0 (f0 := fun _ => 0) (fun _ => rfl) (nI_pos (by omega)) (nI_clamp (by omega)) (by show c0 * 1 ≤ 536870912; omega) (Nat.le_of_ble_eq_true rfl) (by show 0 + c0 ≤ 256; omega) dX1_run_52 (fun jo H hP hD hS => ?_)
  have hP : va_P D vwCl [hcOb dk 0 [.ref he, .int 1, .int (nI (g + c0)), .ref jk, .ref jn, .ref jt, .int (nI z), ov], hcBa D jt 256 T, hcOb he 1 [.ref hp, .ref hq, .int (nI (σ ((n + 3) / 4)).2.2), .ref hk, .ref hv, .int 1, .ref hz, .int (nI (n % 4))], hcIa D hp 512 (σ ((n + 3) / 4)).1, hcIa D hq 512 (σ ((n + 3) / 4)).2.1, hcBa D hz 4 B, hcBa D hk 16 K, hcBa D hv 16 V, hcBa D jo c0 (fun _ => 0)] H := hP
  have hD : va_D A [hcOb dk 0 [.ref he, .int 1, .int (nI (g + c0)), .ref jk, .ref jn, .ref jt, .int (nI z), ov], hcBa D jt 256 T, hcOb he 1 [.ref hp, .ref hq, .int (nI (σ ((n + 3) / 4)).2.2), .ref hk, .ref hv, .int 1, .ref hz, .int (nI (n % 4))], hcIa D hp 512 (σ ((n + 3) / 4)).1, hcIa D hq 512 (σ ((n + 3) / 4)).2.1, hcBa D hz 4 B, hcBa D hk 16 K, hcBa D hv 16 V, hcBa D jo c0 (fun _ => 0)] := hD
  refine W.widen (k := 1) (n := 256) (by decide) (by show 0 + c0 ≤ 256; omega) ?_
  refine lv_astore (lv' := [(5, .ref jo), (4, .int (nI c0)), (3, .int (nI a)), (0, .ref dk), (1, .int (nI a)), (2, .int (nI c0))]) hx hb dX1_run_54 hl (by decide) rfl (fun ls hl => ?_)
  refine lv_aload_n hx hb dX1_run_56 rfl (lv_at hl 3 rfl) ?_
  refine va_get (D := D) (ci := 0) (C := RX1) (T := TX1) (N := 8) hx hb hts in_X1 hown hK hP 0 rfl rfl 0 (by decide) (hts _ q282) (fun _ h9 => h9) rfl dX1_run_57 ?_
  refine lv_aload_n hx hb dX1_run_60 rfl (lv_at hl 3 rfl) ?_
  refine va_get (D := D) (ci := 0) (C := RX1) (T := TX1) (N := 8) hx hb hts in_X1 hown hK hP 0 rfl rfl 5 (by decide) (hts _ q287) (fun _ h9 => h9) rfl dX1_run_61 ?_
  refine lv_iload_n hx hb dX1_run_64 rfl (lv_at hl 2 rfl) ?_
  refine lv_iload hx hb dX1_run_65 (lv_at hl 1 rfl) ?_
  refine lv_aload hx hb dX1_run_67 (lv_at hl 0 rfl) ?_
  refine lv_iconst (v := 0) hx hb dX1_run_69 (by decide) ?_
  refine hc_iV (wr := [hcOb dk 0 [.ref he, .int 1, .int (nI (g + c0)), .ref jk, .ref jn, .ref jt, .int (nI z), ov]]) (met_process l D he hp hq hz hk hv jt jo 256 c0 a K V T (fun _ => 0) σ n B hσ hB (by omega) (by decide)) ⟨hx, hb, hml, hown, hts⟩ (cwV 5 hts (lw_V q38 q39 q40 q12 q41) rfl rfl rfl (by decide +kernel) ⟨Nat.le_of_ble_eq_true rfl, Nat.le_of_ble_eq_true rfl⟩) hcBl_no (hc_no _ _) hK hP hD hS hA [2, 3, 4, 5, 6, 7, 1, 8] [0] (by decide) rfl rfl (by decide) (by decide) 2 (ci := 1) rfl rfl rfl rfl hl.1 rfl (Nat.le_of_ble_eq_true rfl) dX1_run_70 ⟨Nat.le_of_ble_eq_true rfl, Nat.le_of_ble_eq_true rfl⟩ (fun r u H locs hw hP hD hS => ?_)
  have hP : va_P D vwCl [hcOb dk 0 [.ref he, .int 1, .int (nI (g + c0)), .ref jk, .ref jn, .ref jt, .int (nI z), ov], hcOb he 1 [.ref hp, .ref hq, .int (nI (σ ((n + c0 + 3) / 4)).2.2), .ref hk, .ref hv, .int 1, .ref hz, .int (nI ((n + c0) % 4))], hcIa D hp 512 (σ ((n + c0 + 3) / 4)).1, hcIa D hq 512 (σ ((n + c0 + 3) / 4)).2.1, hcBa D hz 4 u, hcBa D hk 16 K, hcBa D hv 16 V, hcBa D jt 256 T, hcBa D jo c0 (hcXo σ T a n)] H := hP
  have hD : va_D A [hcOb dk 0 [.ref he, .int 1, .int (nI (g + c0)), .ref jk, .ref jn, .ref jt, .int (nI z), ov], hcOb he 1 [.ref hp, .ref hq, .int (nI (σ ((n + c0 + 3) / 4)).2.2), .ref hk, .ref hv, .int 1, .ref hz, .int (nI ((n + c0) % 4))], hcIa D hp 512 (σ ((n + c0 + 3) / 4)).1, hcIa D hq 512 (σ ((n + c0 + 3) / 4)).2.1, hcBa D hz 4 u, hcBa D hk 16 K, hcBa D hv 16 V, hcBa D jt 256 T, hcBa D jo c0 (hcXo σ T a n)] := hD
  have hP : va_P D vwCl [hcOb dk 0 [.ref he, .int 1, .int (nI (g + c0)), .ref jk, .ref jn, .ref jt, .int (nI z), ov], hcBa D jt 256 T, hcOb he 1 [.ref hp, .ref hq, .int (nI (σ ((n + c0 + 3) / 4)).2.2), .ref hk, .ref hv, .int 1, .ref hz, .int (nI ((n + c0) % 4))], hcIa D hp 512 (σ ((n + c0 + 3) / 4)).1, hcIa D hq 512 (σ ((n + c0 + 3) / 4)).2.1, hcBa D hz 4 u, hcBa D hk 16 K, hcBa D hv 16 V, hcBa D jo c0 (hcXo σ T a n)] H := hc_psub hP [0, 7, 1, 2, 3, 4, 5, 6, 8] rfl
  have hD : va_D A [hcOb dk 0 [.ref he, .int 1, .int (nI (g + c0)), .ref jk, .ref jn, .ref jt, .int (nI z), ov], hcBa D jt 256 T, hcOb he 1 [.ref hp, .ref hq, .int (nI (σ ((n + c0 + 3) / 4)).2.2), .ref hk, .ref hv, .int 1, .ref hz, .int (nI ((n + c0) % 4))], hcIa D hp 512 (σ ((n + c0 + 3) / 4)).1, hcIa D hq 512 (σ ((n + c0 + 3) / 4)).2.1, hcBa D hz 4 u, hcBa D hk 16 K, hcBa D hv 16 V, hcBa D jo c0 (hcXo σ T a n)] := hD.sub [0, 7, 1, 2, 3, 4, 5, 6, 8] (by decide) rfl
  refine lv_pop hx hb dX1_run_73 rfl ?_
  refine lv_aload_n hx hb dX1_run_74 rfl (lv_at hl 3 rfl) ?_
  refine lv_aload hx hb dX1_run_75 (lv_at hl 0 rfl) ?_
  refine va_put (D := D) (ci := 0) (v := .ref jo) (ty := .array .byte) (C := RX1) (T := TX1) (N := 8) hx hb hts in_X1 tyX1 tyX1_ok nmX1 hown hK hP hD hS 0 rfl rfl 7 (by decide) (hts _ q289) (fun _ h9 => h9) rfl (by decide +kernel) rfl rfl (Nat.le_of_ble_eq_true rfl) dX1_run_77 (fun H locs hP hD hS => ?_)
  have hP : va_P D vwCl [hcOb dk 0 [.ref he, .int 1, .int (nI (g + c0)), .ref jk, .ref jn, .ref jt, .int (nI z), .ref jo], hcBa D jt 256 T, hcOb he 1 [.ref hp, .ref hq, .int (nI (σ ((n + c0 + 3) / 4)).2.2), .ref hk, .ref hv, .int 1, .ref hz, .int (nI ((n + c0) % 4))], hcIa D hp 512 (σ ((n + c0 + 3) / 4)).1, hcIa D hq 512 (σ ((n + c0 + 3) / 4)).2.1, hcBa D hz 4 u, hcBa D hk 16 K, hcBa D hv 16 V, hcBa D jo c0 (hcXo σ T a n)] H := hP
  have hD : va_D A [hcOb dk 0 [.ref he, .int 1, .int (nI (g + c0)), .ref jk, .ref jn, .ref jt, .int (nI z), .ref jo], hcBa D jt 256 T, hcOb he 1 [.ref hp, .ref hq, .int (nI (σ ((n + c0 + 3) / 4)).2.2), .ref hk, .ref hv, .int 1, .ref hz, .int (nI ((n + c0) % 4))], hcIa D hp 512 (σ ((n + c0 + 3) / 4)).1, hcIa D hq 512 (σ ((n + c0 + 3) / 4)).2.1, hcBa D hz 4 u, hcBa D hk 16 K, hcBa D hv 16 V, hcBa D jo c0 (hcXo σ T a n)] := hD
  refine lv_iload hx hb dX1_run_80 (lv_at hl 1 rfl) ?_
  exact hc_iret ((jo, u)) hx hb hr hlk (rfl) (⟨rfl, hw.2⟩) hP hD [0, 1, 2, 3, 4, 5, 6, 7, 8] (by decide) rfl hS (Nat.le_of_ble_eq_true rfl) (Nat.le_of_ble_eq_true rfl) dX1_run_82
set_option maxHeartbeats 4000000 in
set_option maxRecDepth 100000 in
/-- one(b) -/
theorem met_one (l : Launch) (D : va_G) (dk jk jn jt : Nat) (he hp hq hz hk hv : Nat) (zv ov : Value) (K V : Nat → Int32) (σ : Nat → hcS) (g n : Nat) (B : Nat → Int32) (x : Int32) (hσ : hcSeq K V σ) (hB : hcOk σ n B) (hg : g < 1024) : HcI l yX1_one cX1_one 2 (.int) 5 108 0 0 D hcNo [.ref dk, .int x] [hcOb dk 0 [.ref he, .int 1, .int (nI g), .ref jk, .ref jn, .ref jt, zv, ov], hcOb he 1 [.ref hp, .ref hq, .int (nI (σ ((n + 3) / 4)).2.2), .ref hk, .ref hv, .int 1, .ref hz, .int (nI (n % 4))], hcIa D hp 512 (σ ((n + 3) / 4)).1, hcIa D hq 512 (σ ((n + 3) / 4)).2.1, hcBa D hz 4 B, hcBa D hk 16 K, hcBa D hv 16 V] (fun (r : Int32) (u : Nat → Int32) => r = (x.toInt8.toInt32 ^^^ hcKs σ n).toInt8.toInt32 &&& 255 ∧ hcOk σ (n + 1) u) (fun u => [hcOb dk 0 [.ref he, .int 1, .int (nI (g + 1)), .ref jk, .ref jn, .ref jt, zv, ov], hcOb he 1 [.ref hp, .ref hq, .int (nI (σ ((n + 1 + 3) / 4)).2.2), .ref hk, .ref hv, .int 1, .ref hz, .int (nI ((n + 1) % 4))], hcIa D hp 512 (σ ((n + 1 + 3) / 4)).1, hcIa D hq 512 (σ ((n + 1 + 3) / 4)).2.1, hcBa D hz 4 u, hcBa D hk 16 K, hcBa D hv 16 V]) := by
  refine hc_inI (by decide) (Nat.le_of_ble_eq_true rfl) ?_
  intro p e s m args below meth c ls A hx hb hr hlk hml hown hts hnm hP hK hD hE hA hAn hS hl
  have hown : s.vm.findClass RX1 = some m.cls := hown
  have hl : lv_has ls 2 [(0, .ref dk), (1, .int x)] := hl
  have hP : va_P D vwCl [hcOb dk 0 [.ref he, .int 1, .int (nI g), .ref jk, .ref jn, .ref jt, zv, ov], hcOb he 1 [.ref hp, .ref hq, .int (nI (σ ((n + 3) / 4)).2.2), .ref hk, .ref hv, .int 1, .ref hz, .int (nI (n % 4))], hcIa D hp 512 (σ ((n + 3) / 4)).1, hcIa D hq 512 (σ ((n + 3) / 4)).2.1, hcBa D hz 4 B, hcBa D hk 16 K, hcBa D hv 16 V] s.heap := hP
  have hD : va_D A [hcOb dk 0 [.ref he, .int 1, .int (nI g), .ref jk, .ref jn, .ref jt, zv, ov], hcOb he 1 [.ref hp, .ref hq, .int (nI (σ ((n + 3) / 4)).2.2), .ref hk, .ref hv, .int 1, .ref hz, .int (nI (n % 4))], hcIa D hp 512 (σ ((n + 3) / 4)).1, hcIa D hq 512 (σ ((n + 3) / 4)).2.1, hcBa D hz 4 B, hcBa D hk 16 K, hcBa D hv 16 V] := hD
  refine lv_aload_n hx hb dX1_one_0 rfl (lv_at hl 0 rfl) ?_
  refine va_get (D := D) (ci := 0) (C := RX1) (T := TX1) (N := 8) hx hb hts in_X1 hown hK hP 0 rfl rfl 1 (by decide) (hts _ q283) (fun _ h9 => h9) rfl dX1_one_1 ?_
  refine lv_if_ne (tgt := 9) hx hb dX1_one_4 (by decide) (fun _ => ?_) (fun hc => absurd hc (by decide))
  refine lv_aload_n hx hb dX1_one_9 rfl (lv_at hl 0 rfl) ?_
  refine va_get (D := D) (ci := 0) (C := RX1) (T := TX1) (N := 8) hx hb hts in_X1 hown hK hP 0 rfl rfl 2 (by decide) (hts _ q284) (fun _ h9 => h9) rfl dX1_one_10 ?_
  refine lv_sipush (v := 1024) hx hb dX1_one_13 (by decide) ?_
  refine lv_icmp_lt (tgt := 22) hx hb dX1_one_16 (by decide) (fun _ => ?_) (fun hc => absurd (nI_lt (a := g) (b := 1024) hg (by decide)) hc)
  refine lv_aload_n hx hb dX1_one_22 rfl (lv_at hl 0 rfl) ?_
  refine lv_dup hx hb dX1_one_23 rfl ?_
  refine va_get (D := D) (ci := 0) (C := RX1) (T := TX1) (N := 8) hx hb hts in_X1 hown hK hP 0 rfl rfl 2 (by decide) (hts _ q284) (fun _ h9 => h9) rfl dX1_one_24 ?_
  refine lv_iconst (v := 1) hx hb dX1_one_27 (by decide) ?_
  refine lv_iadd hx hb dX1_one_28 ?_
  refine hc_top (y := nI (g + 1)) (nI_1 g) ?_
  refine va_put (D := D) (ci := 0) (v := .int (nI (g + 1))) (ty := .int) (C := RX1) (T := TX1) (N := 8) hx hb hts in_X1 tyX1 tyX1_ok nmX1 hown hK hP hD hS 0 rfl rfl 2 (by decide) (hts _ q284) (fun _ h9 => h9) rfl (by decide +kernel) rfl rfl (Nat.le_of_ble_eq_true rfl) dX1_one_29 (fun H locs hP hD hS => ?_)
  have hP : va_P D vwCl [hcOb dk 0 [.ref he, .int 1, .int (nI (g + 1)), .ref jk, .ref jn, .ref jt, zv, ov], hcOb he 1 [.ref hp, .ref hq, .int (nI (σ ((n + 3) / 4)).2.2), .ref hk, .ref hv, .int 1, .ref hz, .int (nI (n % 4))], hcIa D hp 512 (σ ((n + 3) / 4)).1, hcIa D hq 512 (σ ((n + 3) / 4)).2.1, hcBa D hz 4 B, hcBa D hk 16 K, hcBa D hv 16 V] H := hP
  have hD : va_D A [hcOb dk 0 [.ref he, .int 1, .int (nI (g + 1)), .ref jk, .ref jn, .ref jt, zv, ov], hcOb he 1 [.ref hp, .ref hq, .int (nI (σ ((n + 3) / 4)).2.2), .ref hk, .ref hv, .int 1, .ref hz, .int (nI (n % 4))], hcIa D hp 512 (σ ((n + 3) / 4)).1, hcIa D hq 512 (σ ((n + 3) / 4)).2.1, hcBa D hz 4 B, hcBa D hk 16 K, hcBa D hv 16 V] := hD
  refine lv_aload_n hx hb dX1_one_32 rfl (lv_at hl 0 rfl) ?_
  refine va_get (D := D) (ci := 0) (C := RX1) (T := TX1) (N := 8) hx hb hts in_X1 hown hK hP 0 rfl rfl 0 (by decide) (hts _ q282) (fun _ h9 => h9) rfl dX1_one_33 ?_
  refine lv_iload_n hx hb dX1_one_36 rfl (lv_at hl 1 rfl) ?_
  refine lv_i2b hx hb dX1_one_37 rfl ?_
  refine hc_iV (wr := [hcOb dk 0 [.ref he, .int 1, .int (nI (g + 1)), .ref jk, .ref jn, .ref jt, zv, ov]]) (met_returnByte l D he hp hq hz hk hv K V σ n B x.toInt8.toInt32 hσ hB) ⟨hx, hb, hml, hown, hts⟩ (cwV 1 hts (lw_V q194 q195 q196 q12 q197) rfl rfl rfl (by decide +kernel) ⟨Nat.le_of_ble_eq_true rfl, Nat.le_of_ble_eq_true rfl⟩) hcBl_no (hc_no _ _) hK hP hD hS hA [1, 2, 3, 4, 5, 6] [0] (by decide) rfl rfl (by decide) (by decide) 1 (ci := 1) rfl rfl rfl rfl hl.1 rfl (Nat.le_of_ble_eq_true rfl) dX1_one_38 ⟨Nat.le_of_ble_eq_true rfl, Nat.le_of_ble_eq_true rfl⟩ (fun r u H locs hw hP hD hS => ?_)
  have hP : va_P D vwCl [hcOb dk 0 [.ref he, .int 1, .int (nI (g + 1)), .ref jk, .ref jn, .ref jt, zv, ov], hcOb he 1 [.ref hp, .ref hq, .int (nI (σ ((n + 1 + 3) / 4)).2.2), .ref hk, .ref hv, .int 1, .ref hz, .int (nI ((n + 1) % 4))], hcIa D hp 512 (σ ((n + 1 + 3) / 4)).1, hcIa D hq 512 (σ ((n + 1 + 3) / 4)).2.1, hcBa D hz 4 u, hcBa D hk 16 K, hcBa D hv 16 V] H := hP
  have hD : va_D A [hcOb dk 0 [.ref he, .int 1, .int (nI (g + 1)), .ref jk, .ref jn, .ref jt, zv, ov], hcOb he 1 [.ref hp, .ref hq, .int (nI (σ ((n + 1 + 3) / 4)).2.2), .ref hk, .ref hv, .int 1, .ref hz, .int (nI ((n + 1) % 4))], hcIa D hp 512 (σ ((n + 1 + 3) / 4)).1, hcIa D hq 512 (σ ((n + 1 + 3) / 4)).2.1, hcBa D hz 4 u, hcBa D hk 16 K, hcBa D hv 16 V] := hD
  obtain ⟨rfl, hB1⟩ := hw
  refine lv_sipush (v := 255) hx hb dX1_one_41 (by decide) ?_
  refine lv_iand hx hb dX1_one_44 ?_
  exact hc_iret (u) hx hb hr hlk (rfl) (⟨rfl, hB1⟩) hP hD [0, 1, 2, 3, 4, 5, 6] (by decide) rfl hS (Nat.le_of_ble_eq_true rfl) (Nat.le_of_ble_eq_true rfl) dX1_one_45
set_option maxHeartbeats 4000000 in
set_option maxRecDepth 100000 in
/-- again() -/
theorem met_again (l : Launch) (D : va_G) (dk jk jn jt : Nat) (he hp hq hz hk hv : Nat) (zv ov : Value) (K V : Nat → Int32) (σ : Nat → hcS) (g n : Nat) (B : Nat → Int32) (hσ : hcSeq K V σ) : HcV l yX1_again cX1_again 1 5 108 1 1280 D hcNo [.ref dk] [hcOb dk 0 [.ref he, .int 1, .int (nI g), .ref jk, .ref jn, .ref jt, zv, ov], hcOb he 1 [.ref hp, .ref hq, .int (nI (σ ((n + 3) / 4)).2.2), .ref hk, .ref hv, .int 1, .ref hz, .int (nI (n % 4))], hcIa D hp 512 (σ ((n + 3) / 4)).1, hcIa D hq 512 (σ ((n + 3) / 4)).2.1, hcBa D hz 4 B, hcBa D hk 16 K, hcBa D hv 16 V] (fun _ : Unit => True) (fun _ => [hcOb dk 0 [.ref he, .int 1, .int 0, .ref jk, .ref jn, .ref jt, zv, ov], hcOb he 1 [.ref hp, .ref hq, .int (nI (σ ((0 + 3) / 4)).2.2), .ref hk, .ref hv, .int 1, .ref hz, .int (nI (0 % 4))], hcIa D hp 512 (σ ((0 + 3) / 4)).1, hcIa D hq 512 (σ ((0 + 3) / 4)).2.1, hcBa D hz 4 B, hcBa D hk 16 K, hcBa D hv 16 V]) := by
  refine hc_inV (by decide) (Nat.le_of_ble_eq_true rfl) ?_
  intro p e s m args below meth c ls A hx hb hr hlk hml hown hts hnm hP hK hD hE hA hAn hS hl
  have hown : s.vm.findClass RX1 = some m.cls := hown
  have hl : lv_has ls 1 [(0, .ref dk)] := hl
  have hP : va_P D vwCl [hcOb dk 0 [.ref he, .int 1, .int (nI g), .ref jk, .ref jn, .ref jt, zv, ov], hcOb he 1 [.ref hp, .ref hq, .int (nI (σ ((n + 3) / 4)).2.2), .ref hk, .ref hv, .int 1, .ref hz, .int (nI (n % 4))], hcIa D hp 512 (σ ((n + 3) / 4)).1, hcIa D hq 512 (σ ((n + 3) / 4)).2.1, hcBa D hz 4 B, hcBa D hk 16 K, hcBa D hv 16 V] s.heap := hP
  have hD : va_D A [hcOb dk 0 [.ref he, .int 1, .int (nI g), .ref jk, .ref jn, .ref jt, zv, ov], hcOb he 1 [.ref hp, .ref hq, .int (nI (σ ((n + 3) / 4)).2.2), .ref hk, .ref hv, .int 1, .ref hz, .int (nI (n % 4))], hcIa D hp 512 (σ ((n + 3) / 4)).1, hcIa D hq 512 (σ ((n + 3) / 4)).2.1, hcBa D hz 4 B, hcBa D hk 16 K, hcBa D hv 16 V] := hD
  refine lv_aload_n hx hb dX1_again_0 rfl (lv_at hl 0 rfl) ?_
  refine va_get (D := D) (ci := 0) (C := RX1) (T := TX1) (N := 8) hx hb hts in_X1 hown hK hP 0 rfl rfl 1 (by decide) (hts _ q283) (fun _ h9 => h9) rfl dX1_again_1 ?_
  refine lv_if_eq (tgt := 19) hx hb dX1_again_4 (by decide) (fun hc => absurd hc (by decide)) (fun _ => ?_)
  refine lv_aload_n hx hb dX1_again_7 rfl (lv_at hl 0 rfl) ?_
  refine va_get (D := D) (ci := 0) (C := RX1) (T := TX1) (N := 8) hx hb hts in_X1 hown hK hP 0 rfl rfl 0 (by decide) (hts _ q282) (fun _ h9 => h9) rfl dX1_again_8 ?_
  refine hc_vV (wr := [hcOb dk 0 [.ref he, .int 1, .int (nI g), .ref jk, .ref jn, .ref jt, zv, ov], hcBa D hz 4 B]) (met_reset l D he hp hq hk hv (.int 1) (.ref hz) (nI (σ ((n + 3) / 4)).2.2) (nI (n % 4)) (σ ((n + 3) / 4)).1 (σ ((n + 3) / 4)).2.1 K V (σ 0) hσ.1) ⟨hx, hb, hml, hown, hts⟩ (cwV 0 hts (lw_V q202 q203 q204 q12 q205) rfl rfl rfl (by decide +kernel) ⟨Nat.le_of_ble_eq_true rfl, Nat.le_of_ble_eq_true rfl⟩) hcBl_no (hc_no _ _) hK hP hD hS hA [1, 2, 3, 5, 6] [0, 4] (by decide) rfl rfl (by decide) (by decide) 1 (ci := 1) rfl rfl rfl rfl hl.1 rfl (Nat.le_of_ble_eq_true rfl) dX1_again_11 ⟨Nat.le_of_ble_eq_true rfl, Nat.le_of_ble_eq_true rfl⟩ (fun _ H locs hw hP hD hS => ?_)
  have hP : va_P D vwCl [hcOb dk 0 [.ref he, .int 1, .int (nI g), .ref jk, .ref jn, .ref jt, zv, ov], hcBa D hz 4 B, hcOb he 1 [.ref hp, .ref hq, .int 0, .ref hk, .ref hv, .int 1, .ref hz, .int 0], hcIa D hp 512 (σ 0).1, hcIa D hq 512 (σ 0).2.1, hcBa D hk 16 K, hcBa D hv 16 V] H := hP
  have hD : va_D A [hcOb dk 0 [.ref he, .int 1, .int (nI g), .ref jk, .ref jn, .ref jt, zv, ov], hcBa D hz 4 B, hcOb he 1 [.ref hp, .ref hq, .int 0, .ref hk, .ref hv, .int 1, .ref hz, .int 0], hcIa D hp 512 (σ 0).1, hcIa D hq 512 (σ 0).2.1, hcBa D hk 16 K, hcBa D hv 16 V] := hD
  have hP : va_P D vwCl [hcOb dk 0 [.ref he, .int 1, .int (nI g), .ref jk, .ref jn, .ref jt, zv, ov], hcOb he 1 [.ref hp, .ref hq, .int 0, .ref hk, .ref hv, .int 1, .ref hz, .int 0], hcIa D hp 512 (σ 0).1, hcIa D hq 512 (σ 0).2.1, hcBa D hz 4 B, hcBa D hk 16 K, hcBa D hv 16 V] H := hc_psub hP [0, 2, 3, 4, 1, 5, 6] rfl
  have hD : va_D A [hcOb dk 0 [.ref he, .int 1, .int (nI g), .ref jk, .ref jn, .ref jt, zv, ov], hcOb he 1 [.ref hp, .ref hq, .int 0, .ref hk, .ref hv, .int 1, .ref hz, .int 0], hcIa D hp 512 (σ 0).1, hcIa D hq 512 (σ 0).2.1, hcBa D hz 4 B, hcBa D hk 16 K, hcBa D hv 16 V] := hD.sub [0, 2, 3, 4, 1, 5, 6] (by decide) rfl
  refine lv_aload_n hx hb dX1_again_14 rfl (lv_at hl 0 rfl) ?_
  refine lv_iconst (v := 0) hx hb dX1_again_15 (by decide) ?_
  refine va_put (D := D) (ci := 0) (v := .int 0) (ty := .int) (C := RX1) (T := TX1) (N := 8) hx hb hts in_X1 tyX1 tyX1_ok nmX1 hown hK hP hD hS 0 rfl rfl 2 (by decide) (hts _ q284) (fun _ h9 => h9) rfl (by decide +kernel) rfl rfl (Nat.le_of_ble_eq_true rfl) dX1_again_16 (fun H locs hP hD hS => ?_)
  have hP : va_P D vwCl [hcOb dk 0 [.ref he, .int 1, .int 0, .ref jk, .ref jn, .ref jt, zv, ov], hcOb he 1 [.ref hp, .ref hq, .int 0, .ref hk, .ref hv, .int 1, .ref hz, .int 0], hcIa D hp 512 (σ 0).1, hcIa D hq 512 (σ 0).2.1, hcBa D hz 4 B, hcBa D hk 16 K, hcBa D hv 16 V] H := hP
  have hD : va_D A [hcOb dk 0 [.ref he, .int 1, .int 0, .ref jk, .ref jn, .ref jt, zv, ov], hcOb he 1 [.ref hp, .ref hq, .int 0, .ref hk, .ref hv, .int 1, .ref hz, .int 0], hcIa D hp 512 (σ 0).1, hcIa D hq 512 (σ 0).2.1, hcBa D hz 4 B, hcBa D hk 16 K, hcBa D hv 16 V] := hD
  have h0 : (σ 0).2.2 = 0 := by rw [hσ.1]; rfl
  have hP : va_P D vwCl [hcOb dk 0 [.ref he, .int 1, .int 0, .ref jk, .ref jn, .ref jt, zv, ov], hcOb he 1 [.ref hp, .ref hq, .int (nI (σ 0).2.2), .ref hk, .ref hv, .int 1, .ref hz, .int 0], hcIa D hp 512 (σ 0).1, hcIa D hq 512 (σ 0).2.1, hcBa D hz 4 B, hcBa D hk 16 K, hcBa D hv 16 V] H := by rw [h0]; exact hP
  have hD : va_D A [hcOb dk 0 [.ref he, .int 1, .int 0, .ref jk, .ref jn, .ref jt, zv, ov], hcOb he 1 [.ref hp, .ref hq, .int (nI (σ 0).2.2), .ref hk, .ref hv, .int 1, .ref hz, .int 0], hcIa D hp 512 (σ 0).1, hcIa D hq 512 (σ 0).2.1, hcBa D hz 4 B, hcBa D hk 16 K, hcBa D hv 16 V] := by rw [h0]; exact hD
  exact hc_vret (()) hx hb hr hlk (trivial) hP hD [0, 1, 2, 3, 4, 5, 6] (by decide) rfl hS (Nat.le_of_ble_eq_true rfl) (Nat.le_of_ble_eq_true rfl) dX1_again_19
set_option maxHeartbeats 4000000 in
set_option maxRecDepth 100000 in
/-- out(at) -/
theorem met_out (l : Launch) (D : va_G) (dk jk jn jt : Nat) (rv sv gv zv : Value) (jo n i : Nat) (F : Nat → Int32) (hi : i < n) (hn : n < 2147483648) : HcO l yX1_out cX1_out 2 (.int) 0 0 D hcNo [.ref dk, .int (nI i)] [hcOb dk 0 [rv, sv, gv, .ref jk, .ref jn, .ref jt, zv, .ref jo], hcBa D jo n F] (.int (F i &&& 255)) := by
  refine hc_inO (by decide) (Nat.le_of_ble_eq_true rfl) ?_
  intro p e s m args below meth c ls A hx hb hr hlk hml hown hts hnm hP hK hD hE hA hAn hl
  have hown : s.vm.findClass RX1 = some m.cls := hown
  have hl : lv_has ls 2 [(0, .ref dk), (1, .int (nI i))] := hl
  have hP : va_P D vwCl [hcOb dk 0 [rv, sv, gv, .ref jk, .ref jn, .ref jt, zv, .ref jo], hcBa D jo n F] s.heap := hP
  have hD : va_D A [hcOb dk 0 [rv, sv, gv, .ref jk, .ref jn, .ref jt, zv, .ref jo], hcBa D jo n F] := hD
  refine lv_aload_n hx hb dX1_out_0 rfl (lv_at hl 0 rfl) ?_
  refine va_get (D := D) (ci := 0) (C := RX1) (T := TX1) (N := 8) hx hb hts in_X1 hown hK hP 0 rfl rfl 7 (by decide) (hts _ q289) (fun _ h9 => h9) rfl dX1_out_1 ?_
  refine va_alen (v := nI n) hx hb hK hP 1 1 rfl rfl rfl dX1_out_4 ?_
  refine lv_if_ne (tgt := 12) hx hb dX1_out_5 (by decide) (fun _ => ?_) (fun hc => absurd hc (hc_ne0 (by omega) hn))
  refine lv_aload_n hx hb dX1_out_12 rfl (lv_at hl 0 rfl) ?_
  refine va_get (D := D) (ci := 0) (C := RX1) (T := TX1) (N := 8) hx hb hts in_X1 hown hK hP 0 rfl rfl 7 (by decide) (hts _ q289) (fun _ h9 => h9) rfl dX1_out_13 ?_
  refine lv_iload_n hx hb dX1_out_16 rfl (lv_at hl 1 rfl) ?_
  refine lv_ldc hx hb hown (hts _ q33) dX1_out_17 ?_
  refine lv_iand hx hb dX1_out_19 ?_
  refine hc_top (y := nI i) ((hcM_and _).trans (by rw [hcM_nI (by omega)])) ?_
  refine lv_aload_n hx hb dX1_out_20 rfl (lv_at hl 0 rfl) ?_
  refine va_get (D := D) (ci := 0) (C := RX1) (T := TX1) (N := 8) hx hb hts in_X1 hown hK hP 0 rfl rfl 7 (by decide) (hts _ q289) (fun _ h9 => h9) rfl dX1_out_21 ?_
  refine va_alen (v := nI n) hx hb hK hP 1 1 rfl rfl rfl dX1_out_24 ?_
  refine lv_irem hx hb dX1_out_25 (hc_ne0 (by omega) hn) ?_
  refine hc_top (y := nI i) ((hc_rem (by omega) (by omega) hn).trans (congrArg nI (Nat.mod_eq_of_lt hi))) ?_
  refine hc_bald (k := i) hx hb hK hP 1 1 rfl rfl (hi) (by omega) dX1_out_26 ?_
  refine lv_sipush (v := 255) hx hb dX1_out_27 (by decide) ?_
  refine lv_iand hx hb dX1_out_30 ?_
  exact hc_oret hx hb hr hlk rfl dX1_out_31
end
section
/-! bits (pasted families), the text of a script, what the law compares -/
set_option maxRecDepth 100000
/-! ===== Int32 by its bits: bt x i ===== -/
def bt (x : Int32) (i : Nat) : Bool := x.toBitVec.getLsbD i
theorem b_ext {x y : Int32} (h : ∀ i, i < 32 → bt x i = bt y i) : x = y := Int32.toBitVec_inj.mp (BitVec.eq_of_getLsbD_eq (fun i hi => h i hi))
theorem b_or (x y : Int32) (i : Nat) : bt (x ||| y) i = (bt x i || bt y i) := by unfold bt; rw [Int32.toBitVec_or, BitVec.getLsbD_or]
theorem b_and (x y : Int32) (i : Nat) : bt (x &&& y) i = (bt x i && bt y i) := by unfold bt; rw [Int32.toBitVec_and, BitVec.getLsbD_and]
theorem b_xor (x y : Int32) (i : Nat) : bt (x ^^^ y) i = (bt x i ^^ bt y i) := by unfold bt; rw [Int32.toBitVec_xor, BitVec.getLsbD_xor]
theorem b_big {x : Int32} {i : Nat} (h : 32 ≤ i) : bt x i = false := BitVec.getLsbD_of_ge _ _ h
theorem b_255 (i : Nat) : bt 255 i = decide (i < 8) := by
  rcases Nat.lt_or_ge i 32 with h | h
  · exact (by decide +kernel : ∀ i, i < 32 → bt 255 i = decide (i < 8)) i h
  · rw [b_big h, decide_eq_false (by omega)]
theorem b_65535 (i : Nat) : bt 65535 i = decide (i < 16) := by
  rcases Nat.lt_or_ge i 32 with h | h
  · exact (by decide +kernel : ∀ i, i < 32 → bt 65535 i = decide (i < 16)) i h
  · rw [b_big h, decide_eq_false (by omega)]
theorem b_m1 : ∀ i, i < 32 → bt (-1) i = true := by decide +kernel
theorem b_0 (i : Nat) : bt 0 i = false := BitVec.getLsbD_zero
theorem s_l : ∀ n, n < 32 → ((nI n &&& 31).toBitVec.smod 32).toNat = n := by decide +kernel
theorem s_u : ∀ n, n < 32 → (((nI n).toUInt32 &&& Int32.toUInt32 31).toBitVec % 32).toNat = n := by decide +kernel
theorem b_shl (n : Nat) (hn : n < 32) (x : Int32) {i : Nat} (hi : i < 32) : bt (x <<< (nI n &&& 31)) i = (decide (n ≤ i) && bt x (i - n)) := by
  unfold bt
  rw [Int32.toBitVec_shiftLeft]
  show (x.toBitVec <<< ((nI n &&& 31).toBitVec.smod 32).toNat).getLsbD i = _
  rw [s_l n hn, BitVec.getLsbD_shiftLeft]
  rcases Nat.lt_or_ge i n with h | h
  · simp [h, Nat.not_le.mpr h]
  · simp [hi, h, Nat.not_lt.mpr h]
theorem b_ushr (n : Nat) (hn : n < 32) (x : Int32) (i : Nat) : bt ((x.toUInt32 >>> ((nI n).toUInt32 &&& Int32.toUInt32 31)).toInt32) i = bt x (n + i) := by
  show (x.toUInt32 >>> ((nI n).toUInt32 &&& Int32.toUInt32 31)).toBitVec.getLsbD i = x.toUInt32.toBitVec.getLsbD (n + i)
  rw [UInt32.toBitVec_shiftRight]
  show (x.toUInt32.toBitVec >>> (((nI n).toUInt32 &&& Int32.toUInt32 31).toBitVec % 32).toNat).getLsbD i = _
  rw [s_u n hn, BitVec.getLsbD_ushiftRight]
theorem b_sshr (n : Nat) (hn : n < 32) (x : Int32) {i : Nat} (hi : i < 32) : bt (x >>> (nI n &&& 31)) i = if n + i < 32 then bt x (n + i) else bt x 31 := by
  unfold bt
  rw [Int32.toBitVec_shiftRight]
  show (x.toBitVec.sshiftRight ((nI n &&& 31).toBitVec.smod 32).toNat).getLsbD i = _
  rw [s_l n hn, BitVec.getLsbD_sshiftRight, BitVec.msb_eq_getLsbD_last]
  simp [hi]
theorem b_shl8 (x : Int32) {i : Nat} (hi : i < 32) : bt (x <<< ((8 : Int32) &&& 31)) i = (decide (8 ≤ i) && bt x (i - 8)) := b_shl 8 (by omega) x hi
theorem b_shl16 (x : Int32) {i : Nat} (hi : i < 32) : bt (x <<< ((16 : Int32) &&& 31)) i = (decide (16 ≤ i) && bt x (i - 16)) := b_shl 16 (by omega) x hi
theorem b_shl24 (x : Int32) {i : Nat} (hi : i < 32) : bt (x <<< ((24 : Int32) &&& 31)) i = (decide (24 ≤ i) && bt x (i - 24)) := b_shl 24 (by omega) x hi
theorem b_sshr8 (x : Int32) {i : Nat} (hi : i < 32) : bt (x >>> ((8 : Int32) &&& 31)) i = if 8 + i < 32 then bt x (8 + i) else bt x 31 := b_sshr 8 (by omega) x hi
/-! ===== a byte read unsigned ===== -/
theorem bp_b (x : Int32) : x.toInt8.toInt32 &&& 255 = x &&& 255 := by
  apply Int32.toBitVec_inj.mp
  rw [Int32.toBitVec_and, Int32.toBitVec_and, Int8.toBitVec_toInt32, Int32.toBitVec_toInt8]
  apply BitVec.eq_of_getLsbD_eq
  intro i hi
  rw [BitVec.getLsbD_and, BitVec.getLsbD_and]
  have hm : ∀ i < 32, 8 ≤ i → (255 : Int32).toBitVec.getLsbD i = false := by decide
  rcases Nat.lt_or_ge i 8 with z | z
  · rw [BitVec.getLsbD_signExtend, BitVec.getLsbD_signExtend, if_pos z, if_pos hi]
    simp only [z, hi, decide_true, Bool.true_and]
  · rw [hm i hi z]; simp
/-! the text of a script -/
/-- byte i (0 the highest) of a word, as it is written -/
def hcTb (x : Int32) : Nat → Int32
  | 0 => (x >>> ((24 : Int32) &&& 31)).toInt8.toInt32
  | 1 => (x >>> ((16 : Int32) &&& 31)).toInt8.toInt32
  | 2 => (x >>> ((8 : Int32) &&& 31)).toInt8.toInt32
  | _ => x.toInt8.toInt32
theorem hcWd_lo {f : Nat → Int32} {a j : Nat} {x : Int32} (h : j < a) : hcWd f a x j = f j := by
  unfold hcWd
  rw [pk_un (by omega), pk_un (by omega), pk_un (by omega), pk_un (by omega)]
theorem hcWd_hi {f : Nat → Int32} {a j : Nat} {x : Int32} (h : a + 4 ≤ j) : hcWd f a x j = f j := by
  unfold hcWd
  rw [pk_un (by omega), pk_un (by omega), pk_un (by omega), pk_un (by omega)]
theorem hcWd_in {f : Nat → Int32} {a r : Nat} {x : Int32} (h : r < 4) : hcWd f a x (a + r) = hcTb x r := by
  unfold hcWd
  rcases (show r = 0 ∨ r = 1 ∨ r = 2 ∨ r = 3 by omega) with rfl | rfl | rfl | rfl
  · rw [pk_un (by omega), pk_un (by omega), pk_un (by omega), Nat.add_zero, pk_us]; rfl
  · rw [pk_un (by omega), pk_un (by omega), pk_us]; rfl
  · rw [pk_un (by omega), pk_us]; rfl
  · rw [pk_us]; rfl
theorem hcW4_lo {f : Nat → Int32} {a j : Nat} {x y z u : Int32} (h : j < a) : hcW4 f a x y z u j = f j := by
  unfold hcW4
  rw [hcWd_lo (by omega), hcWd_lo (by omega), hcWd_lo (by omega), hcWd_lo (by omega)]
theorem hcW4_0 {f : Nat → Int32} {a r : Nat} {x y z u : Int32} (h : r < 4) : hcW4 f a x y z u (a + r) = hcTb x r := by
  unfold hcW4
  rw [hcWd_lo (by omega), hcWd_lo (by omega), hcWd_lo (by omega), hcWd_in h]
theorem hcW4_1 {f : Nat → Int32} {a r : Nat} {x y z u : Int32} (h : r < 4) : hcW4 f a x y z u (a + 4 + r) = hcTb y r := by
  unfold hcW4
  rw [hcWd_lo (by omega), hcWd_lo (by omega), hcWd_in h]
theorem hcW4_2 {f : Nat → Int32} {a r : Nat} {x y z u : Int32} (h : r < 4) : hcW4 f a x y z u (a + 8 + r) = hcTb z r := by
  unfold hcW4
  rw [hcWd_lo (by omega), hcWd_in h]
theorem hcW4_3 {f : Nat → Int32} {a r : Nat} {x y z u : Int32} (h : r < 4) : hcW4 f a x y z u (a + 12 + r) = hcTb u r := by
  unfold hcW4
  rw [hcWd_in h]
/-- a script's cell as the law reads it -/
def hcCe (L : Nat) (xs : Nat → Int32) (k : Nat) : Int32 := if k < L then xs k else 0
def hcTx (cs : Nat → Int32) : Nat → Nat → Int32
  | 0 => fun _ => 0
  | n + 1 => hcW4 (hcTx cs n) (16 * n) (cs (20 + 4 * n)) (cs (20 + 4 * n + 1)) (cs (20 + 4 * n + 2)) (cs (20 + 4 * n + 3))
theorem hcTx_at (cs : Nat → Int32) : ∀ (n j : Nat), j < 16 * n → hcTx cs n j = hcTb (cs (20 + j / 4)) (j % 4)
  | 0, j, h => absurd h (by omega)
  | n + 1, j, h => by
    show hcW4 (hcTx cs n) (16 * n) (cs (20 + 4 * n)) (cs (20 + 4 * n + 1)) (cs (20 + 4 * n + 2)) (cs (20 + 4 * n + 3)) j = _
    rcases Nat.lt_or_ge j (16 * n) with q | q
    · rw [hcW4_lo q]
      exact hcTx_at cs n j q
    · have hr : j % 4 < 4 := Nat.mod_lt _ (by decide)
      rcases (show j / 4 = 4 * n ∨ j / 4 = 4 * n + 1 ∨ j / 4 = 4 * n + 2 ∨ j / 4 = 4 * n + 3 by omega) with h4 | h4 | h4 | h4
      · have e : j = 16 * n + j % 4 := by omega
        rw [h4]
        conv => lhs; rw [e]
        exact hcW4_0 hr
      · have e : j = 16 * n + 4 + j % 4 := by omega
        rw [h4]
        conv => lhs; rw [e]
        exact hcW4_1 hr
      · have e : j = 16 * n + 8 + j % 4 := by omega
        rw [h4]
        conv => lhs; rw [e]
        exact hcW4_2 hr
      · have e : j = 16 * n + 12 + j % 4 := by omega
        rw [h4]
        conv => lhs; rw [e]
        exact hcW4_3 hr
def hcMk (cs : Nat → Int32) : Nat → Int32 := hcW4 (hcW4 (fun _ => 0) (16 * 0) (cs 0) (cs 1) (cs 2) (cs 3)) (16 * 1) (cs 4) (cs 5) (cs 6) (cs 7)
def hcMv (cs : Nat → Int32) : Nat → Int32 := hcW4 (hcW4 (fun _ => 0) (16 * 0) (cs 8) (cs 9) (cs 10) (cs 11)) (16 * 1) (cs 52) (cs 53) (cs 54) (cs 55)
theorem hcMk_fit (cs : Nat → Int32) : sb_Fit (hcMk cs) := hcW4_fit (hcW4_fit sb_fit0 _ _ _ _ _) _ _ _ _ _
theorem hcMv_fit (cs : Nat → Int32) : sb_Fit (hcMv cs) := hcW4_fit (hcW4_fit sb_fit0 _ _ _ _ _) _ _ _ _ _
/-- zeros written over zeros -/
theorem hcWd_z (a : Nat) : hcWd (fun _ => 0) a 0 = fun _ => 0 := by
  have h1 : ((0 : Int32) >>> ((24 : Int32) &&& 31)).toInt8.toInt32 = 0 := by decide
  have h2 : ((0 : Int32) >>> ((16 : Int32) &&& 31)).toInt8.toInt32 = 0 := by decide
  have h3 : ((0 : Int32) >>> ((8 : Int32) &&& 31)).toInt8.toInt32 = 0 := by decide
  have h4 : (0 : Int32).toInt8.toInt32 = 0 := by decide
  have hu : ∀ k : Nat, upd (fun _ => (0 : Int32)) k 0 = fun _ => 0 := fun k => by
    funext j
    unfold upd
    split <;> rfl
  unfold hcWd
  rw [h1, h2, h3, h4, hu, hu, hu, hu]
theorem hcW4_z (a : Nat) : hcW4 (fun _ => 0) a 0 0 0 0 = fun _ => 0 := by
  unfold hcW4
  rw [hcWd_z, hcWd_z, hcWd_z, hcWd_z]
/-- the byte i of the text as the law reads it out of the script -/
def hcBb (cs : Nat → Int32) (i : Nat) : Int32 := ((cs (20 + i / 4)).toUInt32 >>> ((nI (24 - 8 * (i % 4))).toUInt32 &&& Int32.toUInt32 31)).toInt32 &&& 255
theorem hc_byte (x : Int32) (r : Nat) (h : r < 4) : hcTb x r &&& 255 = (x.toUInt32 >>> ((nI (24 - 8 * r)).toUInt32 &&& Int32.toUInt32 31)).toInt32 &&& 255 := by
  have key : ∀ n, n < 32 → n ≤ 24 → (x >>> (nI n &&& 31)) &&& 255 = (x.toUInt32 >>> ((nI n).toUInt32 &&& Int32.toUInt32 31)).toInt32 &&& 255 := by
    intro n hn h24
    apply b_ext
    intro i hi
    rw [b_and, b_and, b_ushr n hn, b_sshr n hn x hi, b_255]
    by_cases h8 : i < 8
    · rw [if_pos (by omega)]
    · rw [decide_eq_false h8, Bool.and_false, Bool.and_false]
  rcases (show r = 0 ∨ r = 1 ∨ r = 2 ∨ r = 3 by omega) with rfl | rfl | rfl | rfl
  · exact (bp_b _).trans (key 24 (by decide) (by decide))
  · exact (bp_b _).trans (key 16 (by decide) (by decide))
  · exact (bp_b _).trans (key 8 (by decide) (by decide))
  · refine (bp_b _).trans (Eq.trans ?_ (key 0 (by decide) (by decide)))
    apply b_ext
    intro i hi
    rw [b_and, b_and, b_sshr 0 (by decide) x hi, Nat.zero_add, if_pos hi]
theorem hcBb_eq (cs : Nat → Int32) {i : Nat} (h : i < 128) : hcTx cs 8 i &&& 255 = hcBb cs i := by
  rw [hcTx_at cs 8 i (by omega)]
  exact hc_byte _ _ (Nat.mod_lt _ (by decide))
theorem hcBb_255 (cs : Nat → Int32) (i : Nat) : hcBb cs i &&& 255 = hcBb cs i := by
  unfold hcBb
  apply b_ext
  intro j hj
  rw [b_and, b_and, Bool.and_assoc, Bool.and_self]
theorem hc_x255 (x k : Int32) : (x ^^^ k) &&& 255 = (x &&& 255) ^^^ (k &&& 255) := by
  apply b_ext
  intro j hj
  rw [b_and, b_xor, b_xor, b_and, b_and]
  cases bt x j <;> cases bt k j <;> cases bt 255 j <;> rfl
theorem hc_255i (x : Int32) : (x &&& 255) &&& 255 = x &&& 255 := by
  apply b_ext
  intro j hj
  rw [b_and, b_and, Bool.and_assoc, Bool.and_self]
theorem hc_xx (x k : Int32) : (x ^^^ k) ^^^ k = x := by
  apply b_ext
  intro j hj
  rw [b_xor, b_xor]
  cases bt x j <;> cases bt k j <;> rfl
/-- what one() answers -/
def hcOn (x k : Int32) : Int32 := (x.toInt8.toInt32 ^^^ k).toInt8.toInt32 &&& 255
theorem hcOn_eq (x k : Int32) : hcOn x k = (x &&& 255) ^^^ (k &&& 255) := by
  unfold hcOn
  rw [bp_b, hc_x255, bp_b]
/-- there and back -/
theorem hcOn_back (x k : Int32) : hcOn (hcOn x k) k = x &&& 255 := by
  rw [hcOn_eq (hcOn x k) k, hcOn_eq x k, ← hc_x255 x k, hc_255i, hc_x255, hc_xx]
/-- the whole run's byte is what one() gives of the text's byte -/
theorem hcXo_on (cs : Nat → Int32) (σ : Nat → hcS) {i : Nat} (h : i < 128) : hcXo σ (hcTx cs 8) 0 0 i &&& 255 = hcOn (hcBb cs i) (hcKs σ i) := by
  rw [hcOn_eq]
  unfold hcXo
  rw [bp_b, hc_x255, Nat.zero_add, hcBb_eq cs h, hcBb_255]
theorem hcOn_text (cs : Nat → Int32) (σ : Nat → hcS) (i : Nat) : hcOn (hcOn (hcBb cs i) (hcKs σ i)) (hcKs σ i) = hcBb cs i := by
  rw [hcOn_back, hcBb_255]
theorem hcXo_at (σ : Nat → hcS) (T : Nat → Int32) (a j : Nat) : hcXo σ T a a j = hcXo σ T 0 0 (a + j) := by
  unfold hcXo
  rw [Nat.zero_add]
end
section
/-! the law's cell and made -/
set_option maxHeartbeats 4000000 in
set_option maxRecDepth 100000 in
/-- the law's cell(s, k) -/
theorem met_cell (l : Launch) (D : va_G) (b L : Nat) (xs : Nat → Int32) (k : Nat) (hL : L ≤ 64) (hk : k < 2147483648) : HcO l yX0_cell cX0_cell 2 (.int) 0 0 D (hcXs b L xs) [.ref b, .int (nI k)] [] (.int (hcCe L xs k)) := by
  refine hc_inO (by decide) (Nat.le_of_ble_eq_true rfl) ?_
  intro p e s m args below meth c ls A hx hb hr hlk hml hown hts hnm hP hK hD hE hA hAn hl
  have hown : s.vm.findClass RX0 = some m.cls := hown
  have hl : lv_has ls 2 [(0, .ref b), (1, .int (nI k))] := hl
  obtain ⟨hX, hbl⟩ := hE
  have hbA : ¬ A b := fun q => by
    rcases hAn b q with ⟨x, hx, -⟩ | h
    · cases hx
    · exact absurd hbl (Nat.not_lt.mpr h)
  have hS : va_S A s.heap s.heap [] := va_S.rf
  refine lv_iload_n hx hb dX0_cell_0 rfl (lv_at hl 1 rfl) ?_
  refine lv_aload_n hx hb dX0_cell_1 rfl (lv_at hl 0 rfl) ?_
  refine va_slen hx hb hX hbl hbA hS dX0_cell_2 ?_
  by_cases hlt : k < L
  · skip
    rw [show hcCe L xs k = xs k from if_pos hlt]
    refine lv_icmp_ge (tgt := 12) hx hb dX0_cell_3 (by decide) (fun hc => absurd hc (nI_ge (a := k) (b := L) hlt (by omega))) (fun _ => ?_)
    refine lv_aload_n hx hb dX0_cell_6 rfl (lv_at hl 0 rfl) ?_
    refine lv_iload_n hx hb dX0_cell_7 rfl (lv_at hl 1 rfl) ?_
    refine va_sld hx hb hX hbl hbA hS (vp_in_nI hlt (by omega)) dX0_cell_8 ?_
    refine hc_top (y := xs k) (congrArg xs (nI_clamp hk)) ?_
    refine lv_goto (tgt := 13) hx hb dX0_cell_9 (by decide) ?_
    exact hc_oret hx hb hr hlk rfl dX0_cell_13
  · skip
    rw [show hcCe L xs k = 0 from if_neg hlt]
    refine lv_icmp_ge (tgt := 12) hx hb dX0_cell_3 (by decide) (fun _ => ?_) (fun hc => absurd (nI_le (a := L) (b := k) (by omega) (by omega)) hc)
    refine lv_iconst (v := 0) hx hb dX0_cell_12 (by decide) ?_
    exact hc_oret hx hb hr hlk rfl dX0_cell_13
set_option maxHeartbeats 16000000 in
set_option maxRecDepth 100000 in
/-- the law's made(s): a desk out of the script -/
theorem met_made (l : Launch) (D : va_G) (b L : Nat) (xs : Nat → Int32) (σ : Nat → hcS) (hL : L ≤ 64) (hσ : hcSeq (hcMk (hcCe L xs)) (hcMv (hcCe L xs)) σ) : HcR l yX0_made cX0_made 3 (.object "HcDesk") 6 135 20 3747 D (hcXs b L xs) [.ref b] [] (fun _ : Nat × Nat × Nat × Nat × Nat × Nat × Nat × Nat × Nat × Nat × Nat => True) (fun u => [hcOb u.1 0 [.ref u.2.2.1, .int 1, .int (nI 0), .ref u.2.2.2.2.2.2.2.2.1, .ref u.2.2.2.2.2.2.2.2.2.1, .ref u.2.1, .int (nI (hcM (hcCe L xs 13) % 129)), .ref u.2.2.2.2.2.2.2.2.2.2], hcBa D u.2.1 256 (hcTx (hcCe L xs) 8), hcOb u.2.2.1 1 [.ref u.2.2.2.1, .ref u.2.2.2.2.1, .int (nI (σ ((0 + 3) / 4)).2.2), .ref u.2.2.2.2.2.2.1, .ref u.2.2.2.2.2.2.2.1, .int 1, .ref u.2.2.2.2.2.1, .int (nI (0 % 4))], hcIa D u.2.2.2.1 512 (σ ((0 + 3) / 4)).1, hcIa D u.2.2.2.2.1 512 (σ ((0 + 3) / 4)).2.1, hcBa D u.2.2.2.2.2.1 4 (fun _ => 0), hcBa D u.2.2.2.2.2.2.1 16 (hcMk (hcCe L xs)), hcBa D u.2.2.2.2.2.2.2.1 16 (hcMv (hcCe L xs))]) (fun u => u.1) := by
  refine hc_inR (by decide) (Nat.le_of_ble_eq_true rfl) ?_
  intro p e s m args below meth c ls A hx hb hr hlk hml hown hts hnm hP hK hD hE hA hAn hS hl
  have hown : s.vm.findClass RX0 = some m.cls := hown
  have hl : lv_has ls 3 [(0, .ref b)] := hl
  obtain ⟨hX, hbl⟩ := hE
  have hbA : ¬ A b := fun q => by
    rcases hAn b q with ⟨x, hx, -⟩ | h
    · cases hx
    · exact absurd hbl (Nat.not_lt.mpr h)
  clear hP hD
  have hP : va_P D vwCl [] s.heap := fun k q h => by simp at h
  have hD : va_D A [] := ⟨fun i j p q h => by simp at h, fun k q h => by simp at h⟩
  refine va_new (ci := 0) (fs := [.null, .int 0, .int 0, .null, .null, .null, .int 0, .null]) (C := RX1) (T := TX1) (N := 8) hx hb hts in_X1 tyX1 tyX1_ok hown (hts _ q247) (hts _ q31) (hts _ q11) hK hP hD hS hA rfl (fun j hj => match j, hj with | 0, _ => rfl | 1, _ => rfl | 2, _ => rfl | 3, _ => rfl | 4, _ => rfl | 5, _ => rfl | 6, _ => rfl | 7, _ => rfl | j + 8, h => absurd h (by omega)) (Nat.le_of_ble_eq_true rfl) (Nat.le_of_ble_eq_true rfl) dX0_made_0 (fun dk H hP hD hS => ?_)
  have hP : va_P D vwCl [hcOb dk 0 [.null, .int 0, .int 0, .null, .null, .null, .int 0, .null]] H := hP
  have hD : va_D A [hcOb dk 0 [.null, .int 0, .int 0, .null, .null, .null, .int 0, .null]] := hD
  refine lv_dup hx hb dX0_made_3 rfl ?_
  refine hc_vI (wr := []) (met_D0 l D dk) ⟨hx, hb, hml, hown, hts⟩ (cwI 0 hts (lw_meth q250) rfl rfl rfl (hts _ q11) (hts _ q248) (hts _ q249) rfl (by decide +kernel) ⟨Nat.le_of_ble_eq_true rfl, Nat.le_of_ble_eq_true rfl⟩) hcBl_no (hc_no _ _) hK hP hD hS hA [0] [] (by decide) rfl rfl (by decide) (by decide) rfl hl.1 rfl (Nat.le_of_ble_eq_true rfl) dX0_made_4 ⟨Nat.le_of_ble_eq_true rfl, Nat.le_of_ble_eq_true rfl⟩ (fun u H locs hw hP hD hS => ?_)
  obtain ⟨e0, jk, jn, jt, jo⟩ := u
  have hP : va_P D vwCl [hcOb dk 0 [.ref e0, .int 0, .int 0, .ref jk, .ref jn, .ref jt, .int 0, .ref jo], hcBa D jk 32 (fun _ => 0), hcBa D jn 32 (fun _ => 0), hcBa D jt 256 (fun _ => 0), hcBa D jo 0 (fun _ => 0)] H := hP
  have hD : va_D A [hcOb dk 0 [.ref e0, .int 0, .int 0, .ref jk, .ref jn, .ref jt, .int 0, .ref jo], hcBa D jk 32 (fun _ => 0), hcBa D jn 32 (fun _ => 0), hcBa D jt 256 (fun _ => 0), hcBa D jo 0 (fun _ => 0)] := hD
  have hP : va_P D vwCl [hcOb dk 0 [.ref e0, .int 0, .int 0, .ref jk, .ref jn, .ref jt, .int 0, .ref jo], hcBa D jk 32 (fun _ => 0), hcBa D jn 32 (fun _ => 0), hcBa D jt 256 (fun _ => 0)] H := hc_psub hP [0, 1, 2, 3] rfl
  have hD : va_D A [hcOb dk 0 [.ref e0, .int 0, .int 0, .ref jk, .ref jn, .ref jt, .int 0, .ref jo], hcBa D jk 32 (fun _ => 0), hcBa D jn 32 (fun _ => 0), hcBa D jt 256 (fun _ => 0)] := hD.sub [0, 1, 2, 3] (by decide) rfl
  refine W.widen (k := 9) (n := 1364) (by decide) (by decide) ?_
  refine lv_astore_n (lv' := [(1, .ref dk), (0, .ref b)]) hx hb dX0_made_7 rfl hl (by decide) rfl (fun ls hl => ?_)
  refine lv_bipush (v := 20) hx hb dX0_made_8 (by decide) ?_
  refine lv_istore_n (lv' := [(2, .int 20), (1, .ref dk), (0, .ref b)]) hx hb dX0_made_10 rfl hl (by decide) rfl (fun ls hl => ?_)
  have L1 : ∀ (Qx : State → Prop) (d i : Nat) (H : Heap) (locs : List Loc) (ls : Array Slot), i + d = 8 → va_P D vwCl [hcOb dk 0 [.ref e0, .int 0, .int 0, .ref jk, .ref jn, .ref jt, .int (nI (16 * i)), .ref jo], hcBa D jk 32 (fun _ => 0), hcBa D jn 32 (fun _ => 0), hcBa D jt 256 (hcTx (hcCe L xs) i)] H → va_D A [hcOb dk 0 [.ref e0, .int 0, .int 0, .ref jk, .ref jn, .ref jt, .int (nI (16 * i)), .ref jo], hcBa D jk 32 (fun _ => 0), hcBa D jn 32 (fun _ => 0), hcBa D jt 256 (hcTx (hcCe L xs) i)] → va_S A s.heap H locs → lv_has ls 3 [(2, .int (nI (20 + 4 * i))), (1, .ref dk), (0, .ref b)] → (∀ (H : Heap) (locs : List Loc) (ls : Array Slot), va_P D vwCl [hcOb dk 0 [.ref e0, .int 0, .int 0, .ref jk, .ref jn, .ref jt, .int (nI (16 * 8)), .ref jo], hcBa D jk 32 (fun _ => 0), hcBa D jn 32 (fun _ => 0), hcBa D jt 256 (hcTx (hcCe L xs) 8)] H → va_D A [hcOb dk 0 [.ref e0, .int 0, .int 0, .ref jk, .ref jn, .ref jt, .int (nI (16 * 8)), .ref jo], hcBa D jk 32 (fun _ => 0), hcBa D jn 32 (fun _ => 0), hcBa D jt 256 (hcTx (hcCe L xs) 8)] → va_S A s.heap H locs → lv_has ls 3 [(2, .int (nI (20 + 4 * 8))), (1, .ref dk), (0, .ref b)] → W p l e (hcRm 6 135 20 3747) s m args below meth c H locs 9 1364 Qx (F0 m 54 ls [])) → W p l e (hcRm 6 135 20 3747) s m args below meth c H locs 9 1364 Qx (F0 m 11 ls []) := by
    intro Qx d
    induction d with
    | zero =>
      intro i H locs ls hi hP hD hS hl kx
      obtain rfl : i = 8 := by omega
      refine lv_iload_n hx hb dX0_made_11 rfl (lv_at hl 0 rfl) ?_
      refine lv_bipush (v := 52) hx hb dX0_made_12 (by decide) ?_
      refine lv_icmp_ge (tgt := 54) hx hb dX0_made_14 (by decide) (fun _ => ?_) (fun hc => absurd (nI_le (a := 52) (b := 52) (Nat.le_refl _) (by omega)) hc)
      exact kx H locs ls hP hD hS hl
    | succ d ih =>
      intro i H locs ls hi hP hD hS hl kx
      have hlt : i < 8 := by omega
      refine lv_iload_n hx hb dX0_made_11 rfl (lv_at hl 0 rfl) ?_
      refine lv_bipush (v := 52) hx hb dX0_made_12 (by decide) ?_
      refine lv_icmp_ge (tgt := 54) hx hb dX0_made_14 (by decide) (fun hc => absurd hc (nI_ge (a := 20 + 4 * i) (b := 52) (by omega) (by omega))) (fun _ => ?_)
      refine lv_aload_n hx hb dX0_made_17 rfl (lv_at hl 1 rfl) ?_
      refine lv_aload_n hx hb dX0_made_18 rfl (lv_at hl 2 rfl) ?_
      refine lv_iload_n hx hb dX0_made_19 rfl (lv_at hl 0 rfl) ?_
      refine hc_oS (met_cell l D b L xs (20 + 4 * i) hL (by omega)) ⟨hx, hb, hml, hown, hts⟩ (va_cwS 2 hts (lw_S q241 q242 q10 q243) rfl rfl rfl (by decide +kernel) ⟨Nat.le_of_ble_eq_true rfl, Nat.le_of_ble_eq_true rfl⟩) (hcBl_xs _ _ _) (hc_xs_of hX hbl hbA hS) hK hP hD [] (by decide) rfl rfl hl.1 rfl (Nat.le_of_ble_eq_true rfl) dX0_made_20 ⟨Nat.le_of_ble_eq_true rfl, Nat.le_of_ble_eq_true rfl⟩ ?_
      refine lv_aload_n hx hb dX0_made_23 rfl (lv_at hl 2 rfl) ?_
      refine lv_iload_n hx hb dX0_made_24 rfl (lv_at hl 0 rfl) ?_
      refine lv_iconst (v := 1) hx hb dX0_made_25 (by decide) ?_
      refine lv_iadd hx hb dX0_made_26 ?_
      refine hc_top (y := nI (20 + 4 * i + 1)) (nI_add _ 1) ?_
      refine hc_oS (met_cell l D b L xs (20 + 4 * i + 1) hL (by omega)) ⟨hx, hb, hml, hown, hts⟩ (va_cwS 2 hts (lw_S q241 q242 q10 q243) rfl rfl rfl (by decide +kernel) ⟨Nat.le_of_ble_eq_true rfl, Nat.le_of_ble_eq_true rfl⟩) (hcBl_xs _ _ _) (hc_xs_of hX hbl hbA hS) hK hP hD [] (by decide) rfl rfl hl.1 rfl (Nat.le_of_ble_eq_true rfl) dX0_made_27 ⟨Nat.le_of_ble_eq_true rfl, Nat.le_of_ble_eq_true rfl⟩ ?_
      refine lv_aload_n hx hb dX0_made_30 rfl (lv_at hl 2 rfl) ?_
      refine lv_iload_n hx hb dX0_made_31 rfl (lv_at hl 0 rfl) ?_
      refine lv_iconst (v := 2) hx hb dX0_made_32 (by decide) ?_
      refine lv_iadd hx hb dX0_made_33 ?_
      refine hc_top (y := nI (20 + 4 * i + 2)) (nI_add _ 2) ?_
      refine hc_oS (met_cell l D b L xs (20 + 4 * i + 2) hL (by omega)) ⟨hx, hb, hml, hown, hts⟩ (va_cwS 2 hts (lw_S q241 q242 q10 q243) rfl rfl rfl (by decide +kernel) ⟨Nat.le_of_ble_eq_true rfl, Nat.le_of_ble_eq_true rfl⟩) (hcBl_xs _ _ _) (hc_xs_of hX hbl hbA hS) hK hP hD [] (by decide) rfl rfl hl.1 rfl (Nat.le_of_ble_eq_true rfl) dX0_made_34 ⟨Nat.le_of_ble_eq_true rfl, Nat.le_of_ble_eq_true rfl⟩ ?_
      refine lv_aload_n hx hb dX0_made_37 rfl (lv_at hl 2 rfl) ?_
      refine lv_iload_n hx hb dX0_made_38 rfl (lv_at hl 0 rfl) ?_
      refine lv_iconst (v := 3) hx hb dX0_made_39 (by decide) ?_
      refine lv_iadd hx hb dX0_made_40 ?_
      refine hc_top (y := nI (20 + 4 * i + 3)) (nI_add _ 3) ?_
      refine hc_oS (met_cell l D b L xs (20 + 4 * i + 3) hL (by omega)) ⟨hx, hb, hml, hown, hts⟩ (va_cwS 2 hts (lw_S q241 q242 q10 q243) rfl rfl rfl (by decide +kernel) ⟨Nat.le_of_ble_eq_true rfl, Nat.le_of_ble_eq_true rfl⟩) (hcBl_xs _ _ _) (hc_xs_of hX hbl hbA hS) hK hP hD [] (by decide) rfl rfl hl.1 rfl (Nat.le_of_ble_eq_true rfl) dX0_made_41 ⟨Nat.le_of_ble_eq_true rfl, Nat.le_of_ble_eq_true rfl⟩ ?_
      refine hc_iV (wr := [hcBa D jk 32 (fun _ => 0), hcBa D jn 32 (fun _ => 0)]) (met_put l D dk jk jn jt (.ref e0) (.int 0) (.int 0) (.ref jo) (16 * i) (hcTx (hcCe L xs) i) (hcCe L xs (20 + 4 * i)) (hcCe L xs (20 + 4 * i + 1)) (hcCe L xs (20 + 4 * i + 2)) (hcCe L xs (20 + 4 * i + 3)) (by omega)) ⟨hx, hb, hml, hown, hts⟩ (cwV 4 hts (lw_V q307 q308 q309 q11 q310) rfl rfl rfl (by decide +kernel) ⟨Nat.le_of_ble_eq_true rfl, Nat.le_of_ble_eq_true rfl⟩) hcBl_no (hc_no _ _) hK hP hD hS hA [0, 3] [1, 2] (by decide) rfl rfl (by decide) (by decide) 0 (ci := 0) rfl rfl rfl rfl hl.1 rfl (Nat.le_of_ble_eq_true rfl) dX0_made_44 ⟨Nat.le_of_ble_eq_true rfl, Nat.le_of_ble_eq_true rfl⟩ (fun r _ H locs hw hP hD hS => ?_)
      have hP : va_P D vwCl [hcBa D jk 32 (fun _ => 0), hcBa D jn 32 (fun _ => 0), hcOb dk 0 [.ref e0, .int 0, .int 0, .ref jk, .ref jn, .ref jt, .int (nI (16 * (i + 1))), .ref jo], hcBa D jt 256 (hcTx (hcCe L xs) (i + 1))] H := hP
      have hD : va_D A [hcBa D jk 32 (fun _ => 0), hcBa D jn 32 (fun _ => 0), hcOb dk 0 [.ref e0, .int 0, .int 0, .ref jk, .ref jn, .ref jt, .int (nI (16 * (i + 1))), .ref jo], hcBa D jt 256 (hcTx (hcCe L xs) (i + 1))] := hD
      have hP : va_P D vwCl [hcOb dk 0 [.ref e0, .int 0, .int 0, .ref jk, .ref jn, .ref jt, .int (nI (16 * (i + 1))), .ref jo], hcBa D jk 32 (fun _ => 0), hcBa D jn 32 (fun _ => 0), hcBa D jt 256 (hcTx (hcCe L xs) (i + 1))] H := hc_psub hP [2, 0, 1, 3] rfl
      have hD : va_D A [hcOb dk 0 [.ref e0, .int 0, .int 0, .ref jk, .ref jn, .ref jt, .int (nI (16 * (i + 1))), .ref jo], hcBa D jk 32 (fun _ => 0), hcBa D jn 32 (fun _ => 0), hcBa D jt 256 (hcTx (hcCe L xs) (i + 1))] := hD.sub [2, 0, 1, 3] (by decide) rfl
      refine lv_pop hx hb dX0_made_47 rfl ?_
      refine lv_iinc (v := nI (20 + 4 * (i + 1))) (lv' := [(2, .int (nI (20 + 4 * (i + 1)))), (1, .ref dk), (0, .ref b)]) hx hb dX0_made_48 hl (k := 0) rfl ((nI_add (20 + 4 * i) 4).trans (congrArg nI (by omega))) (by decide) rfl (fun ls hl => ?_)
      refine lv_goto (tgt := 11) hx hb dX0_made_51 (by decide) ?_
      exact ih (i + 1) H locs ls (by omega) hP hD hS hl kx
  refine L1 _ 8 0 _ _ _ rfl hP hD hS hl ?_
  clear L1 hP hD hS hl
  intro H locs ls hP hD hS hl
  refine lv_aload_n hx hb dX0_made_54 rfl (lv_at hl 1 rfl) ?_
  refine lv_aload_n hx hb dX0_made_55 rfl (lv_at hl 2 rfl) ?_
  refine lv_bipush (v := 13) hx hb dX0_made_56 (by decide) ?_
  refine hc_oS (met_cell l D b L xs 13 hL (by omega)) ⟨hx, hb, hml, hown, hts⟩ (va_cwS 2 hts (lw_S q241 q242 q10 q243) rfl rfl rfl (by decide +kernel) ⟨Nat.le_of_ble_eq_true rfl, Nat.le_of_ble_eq_true rfl⟩) (hcBl_xs _ _ _) (hc_xs_of hX hbl hbA hS) hK hP hD [] (by decide) rfl rfl hl.1 rfl (Nat.le_of_ble_eq_true rfl) dX0_made_58 ⟨Nat.le_of_ble_eq_true rfl, Nat.le_of_ble_eq_true rfl⟩ ?_
  refine hc_vV (wr := [hcBa D jk 32 (fun _ => 0), hcBa D jn 32 (fun _ => 0), hcBa D jt 256 (hcTx (hcCe L xs) 8)]) (met_trim l D dk jk jn jt (.ref e0) (.int 0) (.int 0) (.ref jo) 128 (hcCe L xs 13) (by decide)) ⟨hx, hb, hml, hown, hts⟩ (cwV 1 hts (lw_V q314 q315 q316 q11 q317) rfl rfl rfl (by decide +kernel) ⟨Nat.le_of_ble_eq_true rfl, Nat.le_of_ble_eq_true rfl⟩) hcBl_no (hc_no _ _) hK hP hD hS hA [0] [1, 2, 3] (by decide) rfl rfl (by decide) (by decide) 0 (ci := 0) rfl rfl rfl rfl hl.1 rfl (Nat.le_of_ble_eq_true rfl) dX0_made_61 ⟨Nat.le_of_ble_eq_true rfl, Nat.le_of_ble_eq_true rfl⟩ (fun _ H locs hw hP hD hS => ?_)
  have hP : va_P D vwCl [hcBa D jk 32 (fun _ => 0), hcBa D jn 32 (fun _ => 0), hcBa D jt 256 (hcTx (hcCe L xs) 8), hcOb dk 0 [.ref e0, .int 0, .int 0, .ref jk, .ref jn, .ref jt, .int (nI (hcM (hcCe L xs 13) % 129)), .ref jo]] H := hP
  have hD : va_D A [hcBa D jk 32 (fun _ => 0), hcBa D jn 32 (fun _ => 0), hcBa D jt 256 (hcTx (hcCe L xs) 8), hcOb dk 0 [.ref e0, .int 0, .int 0, .ref jk, .ref jn, .ref jt, .int (nI (hcM (hcCe L xs 13) % 129)), .ref jo]] := hD
  have hP : va_P D vwCl [hcOb dk 0 [.ref e0, .int 0, .int 0, .ref jk, .ref jn, .ref jt, .int (nI (hcM (hcCe L xs 13) % 129)), .ref jo], hcBa D jk 32 (fun _ => 0), hcBa D jn 32 (fun _ => 0), hcBa D jt 256 (hcTx (hcCe L xs) 8)] H := hc_psub hP [3, 0, 1, 2] rfl
  have hD : va_D A [hcOb dk 0 [.ref e0, .int 0, .int 0, .ref jk, .ref jn, .ref jt, .int (nI (hcM (hcCe L xs 13) % 129)), .ref jo], hcBa D jk 32 (fun _ => 0), hcBa D jn 32 (fun _ => 0), hcBa D jt 256 (hcTx (hcCe L xs) 8)] := hD.sub [3, 0, 1, 2] (by decide) rfl
  refine lv_aload_n hx hb dX0_made_64 rfl (lv_at hl 1 rfl) ?_
  refine lv_iconst (v := 0) hx hb dX0_made_65 (by decide) ?_
  refine lv_aload_n hx hb dX0_made_66 rfl (lv_at hl 2 rfl) ?_
  refine lv_iconst (v := 0) hx hb dX0_made_67 (by decide) ?_
  refine hc_oS (met_cell l D b L xs 0 hL (by omega)) ⟨hx, hb, hml, hown, hts⟩ (va_cwS 2 hts (lw_S q241 q242 q10 q243) rfl rfl rfl (by decide +kernel) ⟨Nat.le_of_ble_eq_true rfl, Nat.le_of_ble_eq_true rfl⟩) (hcBl_xs _ _ _) (hc_xs_of hX hbl hbA hS) hK hP hD [] (by decide) rfl rfl hl.1 rfl (Nat.le_of_ble_eq_true rfl) dX0_made_68 ⟨Nat.le_of_ble_eq_true rfl, Nat.le_of_ble_eq_true rfl⟩ ?_
  refine lv_aload_n hx hb dX0_made_71 rfl (lv_at hl 2 rfl) ?_
  refine lv_iconst (v := 1) hx hb dX0_made_72 (by decide) ?_
  refine hc_oS (met_cell l D b L xs 1 hL (by omega)) ⟨hx, hb, hml, hown, hts⟩ (va_cwS 2 hts (lw_S q241 q242 q10 q243) rfl rfl rfl (by decide +kernel) ⟨Nat.le_of_ble_eq_true rfl, Nat.le_of_ble_eq_true rfl⟩) (hcBl_xs _ _ _) (hc_xs_of hX hbl hbA hS) hK hP hD [] (by decide) rfl rfl hl.1 rfl (Nat.le_of_ble_eq_true rfl) dX0_made_73 ⟨Nat.le_of_ble_eq_true rfl, Nat.le_of_ble_eq_true rfl⟩ ?_
  refine lv_aload_n hx hb dX0_made_76 rfl (lv_at hl 2 rfl) ?_
  refine lv_iconst (v := 2) hx hb dX0_made_77 (by decide) ?_
  refine hc_oS (met_cell l D b L xs 2 hL (by omega)) ⟨hx, hb, hml, hown, hts⟩ (va_cwS 2 hts (lw_S q241 q242 q10 q243) rfl rfl rfl (by decide +kernel) ⟨Nat.le_of_ble_eq_true rfl, Nat.le_of_ble_eq_true rfl⟩) (hcBl_xs _ _ _) (hc_xs_of hX hbl hbA hS) hK hP hD [] (by decide) rfl rfl hl.1 rfl (Nat.le_of_ble_eq_true rfl) dX0_made_78 ⟨Nat.le_of_ble_eq_true rfl, Nat.le_of_ble_eq_true rfl⟩ ?_
  refine lv_aload_n hx hb dX0_made_81 rfl (lv_at hl 2 rfl) ?_
  refine lv_iconst (v := 3) hx hb dX0_made_82 (by decide) ?_
  refine hc_oS (met_cell l D b L xs 3 hL (by omega)) ⟨hx, hb, hml, hown, hts⟩ (va_cwS 2 hts (lw_S q241 q242 q10 q243) rfl rfl rfl (by decide +kernel) ⟨Nat.le_of_ble_eq_true rfl, Nat.le_of_ble_eq_true rfl⟩) (hcBl_xs _ _ _) (hc_xs_of hX hbl hbA hS) hK hP hD [] (by decide) rfl rfl hl.1 rfl (Nat.le_of_ble_eq_true rfl) dX0_made_83 ⟨Nat.le_of_ble_eq_true rfl, Nat.le_of_ble_eq_true rfl⟩ ?_
  refine hc_vV (wr := [hcBa D jn 32 (fun _ => 0), hcBa D jt 256 (hcTx (hcCe L xs) 8)]) (met_key l D dk jk jn jt (.ref e0) (.int 0) (.int 0) (.int (nI (hcM (hcCe L xs 13) % 129))) (.ref jo) 0 (fun _ => 0) (hcCe L xs 0) (hcCe L xs 1) (hcCe L xs 2) (hcCe L xs 3) (by decide)) ⟨hx, hb, hml, hown, hts⟩ (cwV 5 hts (lw_V q318 q319 q320 q11 q321) rfl rfl rfl (by decide +kernel) ⟨Nat.le_of_ble_eq_true rfl, Nat.le_of_ble_eq_true rfl⟩) hcBl_no (hc_no _ _) hK hP hD hS hA [0, 1] [2, 3] (by decide) rfl rfl (by decide) (by decide) 0 (ci := 0) rfl rfl rfl rfl hl.1 rfl (Nat.le_of_ble_eq_true rfl) dX0_made_86 ⟨Nat.le_of_ble_eq_true rfl, Nat.le_of_ble_eq_true rfl⟩ (fun _ H locs hw hP hD hS => ?_)
  have hP : va_P D vwCl [hcBa D jn 32 (fun _ => 0), hcBa D jt 256 (hcTx (hcCe L xs) 8), hcOb dk 0 [.ref e0, .int 0, .int 0, .ref jk, .ref jn, .ref jt, .int (nI (hcM (hcCe L xs 13) % 129)), .ref jo], hcBa D jk 32 (hcW4 (fun _ => 0) (16 * 0) (hcCe L xs 0) (hcCe L xs 1) (hcCe L xs 2) (hcCe L xs 3))] H := hP
  have hD : va_D A [hcBa D jn 32 (fun _ => 0), hcBa D jt 256 (hcTx (hcCe L xs) 8), hcOb dk 0 [.ref e0, .int 0, .int 0, .ref jk, .ref jn, .ref jt, .int (nI (hcM (hcCe L xs 13) % 129)), .ref jo], hcBa D jk 32 (hcW4 (fun _ => 0) (16 * 0) (hcCe L xs 0) (hcCe L xs 1) (hcCe L xs 2) (hcCe L xs 3))] := hD
  have hP : va_P D vwCl [hcOb dk 0 [.ref e0, .int 0, .int 0, .ref jk, .ref jn, .ref jt, .int (nI (hcM (hcCe L xs 13) % 129)), .ref jo], hcBa D jk 32 (hcW4 (fun _ => 0) (16 * 0) (hcCe L xs 0) (hcCe L xs 1) (hcCe L xs 2) (hcCe L xs 3)), hcBa D jn 32 (fun _ => 0), hcBa D jt 256 (hcTx (hcCe L xs) 8)] H := hc_psub hP [2, 3, 0, 1] rfl
  have hD : va_D A [hcOb dk 0 [.ref e0, .int 0, .int 0, .ref jk, .ref jn, .ref jt, .int (nI (hcM (hcCe L xs 13) % 129)), .ref jo], hcBa D jk 32 (hcW4 (fun _ => 0) (16 * 0) (hcCe L xs 0) (hcCe L xs 1) (hcCe L xs 2) (hcCe L xs 3)), hcBa D jn 32 (fun _ => 0), hcBa D jt 256 (hcTx (hcCe L xs) 8)] := hD.sub [2, 3, 0, 1] (by decide) rfl
  refine lv_aload_n hx hb dX0_made_89 rfl (lv_at hl 1 rfl) ?_
  refine lv_iconst (v := 1) hx hb dX0_made_90 (by decide) ?_
  refine lv_aload_n hx hb dX0_made_91 rfl (lv_at hl 2 rfl) ?_
  refine lv_iconst (v := 4) hx hb dX0_made_92 (by decide) ?_
  refine hc_oS (met_cell l D b L xs 4 hL (by omega)) ⟨hx, hb, hml, hown, hts⟩ (va_cwS 2 hts (lw_S q241 q242 q10 q243) rfl rfl rfl (by decide +kernel) ⟨Nat.le_of_ble_eq_true rfl, Nat.le_of_ble_eq_true rfl⟩) (hcBl_xs _ _ _) (hc_xs_of hX hbl hbA hS) hK hP hD [] (by decide) rfl rfl hl.1 rfl (Nat.le_of_ble_eq_true rfl) dX0_made_93 ⟨Nat.le_of_ble_eq_true rfl, Nat.le_of_ble_eq_true rfl⟩ ?_
  refine lv_aload_n hx hb dX0_made_96 rfl (lv_at hl 2 rfl) ?_
  refine lv_iconst (v := 5) hx hb dX0_made_97 (by decide) ?_
  refine hc_oS (met_cell l D b L xs 5 hL (by omega)) ⟨hx, hb, hml, hown, hts⟩ (va_cwS 2 hts (lw_S q241 q242 q10 q243) rfl rfl rfl (by decide +kernel) ⟨Nat.le_of_ble_eq_true rfl, Nat.le_of_ble_eq_true rfl⟩) (hcBl_xs _ _ _) (hc_xs_of hX hbl hbA hS) hK hP hD [] (by decide) rfl rfl hl.1 rfl (Nat.le_of_ble_eq_true rfl) dX0_made_98 ⟨Nat.le_of_ble_eq_true rfl, Nat.le_of_ble_eq_true rfl⟩ ?_
  refine lv_aload_n hx hb dX0_made_101 rfl (lv_at hl 2 rfl) ?_
  refine lv_bipush (v := 6) hx hb dX0_made_102 (by decide) ?_
  refine hc_oS (met_cell l D b L xs 6 hL (by omega)) ⟨hx, hb, hml, hown, hts⟩ (va_cwS 2 hts (lw_S q241 q242 q10 q243) rfl rfl rfl (by decide +kernel) ⟨Nat.le_of_ble_eq_true rfl, Nat.le_of_ble_eq_true rfl⟩) (hcBl_xs _ _ _) (hc_xs_of hX hbl hbA hS) hK hP hD [] (by decide) rfl rfl hl.1 rfl (Nat.le_of_ble_eq_true rfl) dX0_made_104 ⟨Nat.le_of_ble_eq_true rfl, Nat.le_of_ble_eq_true rfl⟩ ?_
  refine lv_aload_n hx hb dX0_made_107 rfl (lv_at hl 2 rfl) ?_
  refine lv_bipush (v := 7) hx hb dX0_made_108 (by decide) ?_
  refine hc_oS (met_cell l D b L xs 7 hL (by omega)) ⟨hx, hb, hml, hown, hts⟩ (va_cwS 2 hts (lw_S q241 q242 q10 q243) rfl rfl rfl (by decide +kernel) ⟨Nat.le_of_ble_eq_true rfl, Nat.le_of_ble_eq_true rfl⟩) (hcBl_xs _ _ _) (hc_xs_of hX hbl hbA hS) hK hP hD [] (by decide) rfl rfl hl.1 rfl (Nat.le_of_ble_eq_true rfl) dX0_made_110 ⟨Nat.le_of_ble_eq_true rfl, Nat.le_of_ble_eq_true rfl⟩ ?_
  refine hc_vV (wr := [hcBa D jn 32 (fun _ => 0), hcBa D jt 256 (hcTx (hcCe L xs) 8)]) (met_key l D dk jk jn jt (.ref e0) (.int 0) (.int 0) (.int (nI (hcM (hcCe L xs 13) % 129))) (.ref jo) 1 (hcW4 (fun _ => 0) (16 * 0) (hcCe L xs 0) (hcCe L xs 1) (hcCe L xs 2) (hcCe L xs 3)) (hcCe L xs 4) (hcCe L xs 5) (hcCe L xs 6) (hcCe L xs 7) (by decide)) ⟨hx, hb, hml, hown, hts⟩ (cwV 5 hts (lw_V q318 q319 q320 q11 q321) rfl rfl rfl (by decide +kernel) ⟨Nat.le_of_ble_eq_true rfl, Nat.le_of_ble_eq_true rfl⟩) hcBl_no (hc_no _ _) hK hP hD hS hA [0, 1] [2, 3] (by decide) rfl rfl (by decide) (by decide) 0 (ci := 0) rfl rfl rfl rfl hl.1 rfl (Nat.le_of_ble_eq_true rfl) dX0_made_113 ⟨Nat.le_of_ble_eq_true rfl, Nat.le_of_ble_eq_true rfl⟩ (fun _ H locs hw hP hD hS => ?_)
  have hP : va_P D vwCl [hcBa D jn 32 (fun _ => 0), hcBa D jt 256 (hcTx (hcCe L xs) 8), hcOb dk 0 [.ref e0, .int 0, .int 0, .ref jk, .ref jn, .ref jt, .int (nI (hcM (hcCe L xs 13) % 129)), .ref jo], hcBa D jk 32 (hcW4 (hcW4 (fun _ => 0) (16 * 0) (hcCe L xs 0) (hcCe L xs 1) (hcCe L xs 2) (hcCe L xs 3)) (16 * 1) (hcCe L xs 4) (hcCe L xs 5) (hcCe L xs 6) (hcCe L xs 7))] H := hP
  have hD : va_D A [hcBa D jn 32 (fun _ => 0), hcBa D jt 256 (hcTx (hcCe L xs) 8), hcOb dk 0 [.ref e0, .int 0, .int 0, .ref jk, .ref jn, .ref jt, .int (nI (hcM (hcCe L xs 13) % 129)), .ref jo], hcBa D jk 32 (hcW4 (hcW4 (fun _ => 0) (16 * 0) (hcCe L xs 0) (hcCe L xs 1) (hcCe L xs 2) (hcCe L xs 3)) (16 * 1) (hcCe L xs 4) (hcCe L xs 5) (hcCe L xs 6) (hcCe L xs 7))] := hD
  have hP : va_P D vwCl [hcOb dk 0 [.ref e0, .int 0, .int 0, .ref jk, .ref jn, .ref jt, .int (nI (hcM (hcCe L xs 13) % 129)), .ref jo], hcBa D jk 32 (hcW4 (hcW4 (fun _ => 0) (16 * 0) (hcCe L xs 0) (hcCe L xs 1) (hcCe L xs 2) (hcCe L xs 3)) (16 * 1) (hcCe L xs 4) (hcCe L xs 5) (hcCe L xs 6) (hcCe L xs 7)), hcBa D jn 32 (fun _ => 0), hcBa D jt 256 (hcTx (hcCe L xs) 8)] H := hc_psub hP [2, 3, 0, 1] rfl
  have hD : va_D A [hcOb dk 0 [.ref e0, .int 0, .int 0, .ref jk, .ref jn, .ref jt, .int (nI (hcM (hcCe L xs 13) % 129)), .ref jo], hcBa D jk 32 (hcW4 (hcW4 (fun _ => 0) (16 * 0) (hcCe L xs 0) (hcCe L xs 1) (hcCe L xs 2) (hcCe L xs 3)) (16 * 1) (hcCe L xs 4) (hcCe L xs 5) (hcCe L xs 6) (hcCe L xs 7)), hcBa D jn 32 (fun _ => 0), hcBa D jt 256 (hcTx (hcCe L xs) 8)] := hD.sub [2, 3, 0, 1] (by decide) rfl
  have hP : va_P D vwCl [hcOb dk 0 [.ref e0, .int 0, .int 0, .ref jk, .ref jn, .ref jt, .int (nI (hcM (hcCe L xs 13) % 129)), .ref jo], hcBa D jk 32 (hcMk (hcCe L xs)), hcBa D jn 32 (fun _ => 0), hcBa D jt 256 (hcTx (hcCe L xs) 8)] H := hP
  have hD : va_D A [hcOb dk 0 [.ref e0, .int 0, .int 0, .ref jk, .ref jn, .ref jt, .int (nI (hcM (hcCe L xs 13) % 129)), .ref jo], hcBa D jk 32 (hcMk (hcCe L xs)), hcBa D jn 32 (fun _ => 0), hcBa D jt 256 (hcTx (hcCe L xs) 8)] := hD
  refine lv_aload_n hx hb dX0_made_116 rfl (lv_at hl 1 rfl) ?_
  refine lv_iconst (v := 0) hx hb dX0_made_117 (by decide) ?_
  refine lv_aload_n hx hb dX0_made_118 rfl (lv_at hl 2 rfl) ?_
  refine lv_bipush (v := 8) hx hb dX0_made_119 (by decide) ?_
  refine hc_oS (met_cell l D b L xs 8 hL (by omega)) ⟨hx, hb, hml, hown, hts⟩ (va_cwS 2 hts (lw_S q241 q242 q10 q243) rfl rfl rfl (by decide +kernel) ⟨Nat.le_of_ble_eq_true rfl, Nat.le_of_ble_eq_true rfl⟩) (hcBl_xs _ _ _) (hc_xs_of hX hbl hbA hS) hK hP hD [] (by decide) rfl rfl hl.1 rfl (Nat.le_of_ble_eq_true rfl) dX0_made_121 ⟨Nat.le_of_ble_eq_true rfl, Nat.le_of_ble_eq_true rfl⟩ ?_
  refine lv_aload_n hx hb dX0_made_124 rfl (lv_at hl 2 rfl) ?_
  refine lv_bipush (v := 9) hx hb dX0_made_125 (by decide) ?_
  refine hc_oS (met_cell l D b L xs 9 hL (by omega)) ⟨hx, hb, hml, hown, hts⟩ (va_cwS 2 hts (lw_S q241 q242 q10 q243) rfl rfl rfl (by decide +kernel) ⟨Nat.le_of_ble_eq_true rfl, Nat.le_of_ble_eq_true rfl⟩) (hcBl_xs _ _ _) (hc_xs_of hX hbl hbA hS) hK hP hD [] (by decide) rfl rfl hl.1 rfl (Nat.le_of_ble_eq_true rfl) dX0_made_127 ⟨Nat.le_of_ble_eq_true rfl, Nat.le_of_ble_eq_true rfl⟩ ?_
  refine lv_aload_n hx hb dX0_made_130 rfl (lv_at hl 2 rfl) ?_
  refine lv_bipush (v := 10) hx hb dX0_made_131 (by decide) ?_
  refine hc_oS (met_cell l D b L xs 10 hL (by omega)) ⟨hx, hb, hml, hown, hts⟩ (va_cwS 2 hts (lw_S q241 q242 q10 q243) rfl rfl rfl (by decide +kernel) ⟨Nat.le_of_ble_eq_true rfl, Nat.le_of_ble_eq_true rfl⟩) (hcBl_xs _ _ _) (hc_xs_of hX hbl hbA hS) hK hP hD [] (by decide) rfl rfl hl.1 rfl (Nat.le_of_ble_eq_true rfl) dX0_made_133 ⟨Nat.le_of_ble_eq_true rfl, Nat.le_of_ble_eq_true rfl⟩ ?_
  refine lv_aload_n hx hb dX0_made_136 rfl (lv_at hl 2 rfl) ?_
  refine lv_bipush (v := 11) hx hb dX0_made_137 (by decide) ?_
  refine hc_oS (met_cell l D b L xs 11 hL (by omega)) ⟨hx, hb, hml, hown, hts⟩ (va_cwS 2 hts (lw_S q241 q242 q10 q243) rfl rfl rfl (by decide +kernel) ⟨Nat.le_of_ble_eq_true rfl, Nat.le_of_ble_eq_true rfl⟩) (hcBl_xs _ _ _) (hc_xs_of hX hbl hbA hS) hK hP hD [] (by decide) rfl rfl hl.1 rfl (Nat.le_of_ble_eq_true rfl) dX0_made_139 ⟨Nat.le_of_ble_eq_true rfl, Nat.le_of_ble_eq_true rfl⟩ ?_
  refine hc_vV (wr := [hcBa D jk 32 (hcMk (hcCe L xs)), hcBa D jt 256 (hcTx (hcCe L xs) 8)]) (met_nonce l D dk jk jn jt (.ref e0) (.int 0) (.int 0) (.int (nI (hcM (hcCe L xs 13) % 129))) (.ref jo) 0 (fun _ => 0) (hcCe L xs 8) (hcCe L xs 9) (hcCe L xs 10) (hcCe L xs 11) (by decide)) ⟨hx, hb, hml, hown, hts⟩ (cwV 5 hts (lw_V q322 q323 q324 q11 q325) rfl rfl rfl (by decide +kernel) ⟨Nat.le_of_ble_eq_true rfl, Nat.le_of_ble_eq_true rfl⟩) hcBl_no (hc_no _ _) hK hP hD hS hA [0, 2] [1, 3] (by decide) rfl rfl (by decide) (by decide) 0 (ci := 0) rfl rfl rfl rfl hl.1 rfl (Nat.le_of_ble_eq_true rfl) dX0_made_142 ⟨Nat.le_of_ble_eq_true rfl, Nat.le_of_ble_eq_true rfl⟩ (fun _ H locs hw hP hD hS => ?_)
  have hP : va_P D vwCl [hcBa D jk 32 (hcMk (hcCe L xs)), hcBa D jt 256 (hcTx (hcCe L xs) 8), hcOb dk 0 [.ref e0, .int 0, .int 0, .ref jk, .ref jn, .ref jt, .int (nI (hcM (hcCe L xs 13) % 129)), .ref jo], hcBa D jn 32 (hcW4 (fun _ => 0) (16 * 0) (hcCe L xs 8) (hcCe L xs 9) (hcCe L xs 10) (hcCe L xs 11))] H := hP
  have hD : va_D A [hcBa D jk 32 (hcMk (hcCe L xs)), hcBa D jt 256 (hcTx (hcCe L xs) 8), hcOb dk 0 [.ref e0, .int 0, .int 0, .ref jk, .ref jn, .ref jt, .int (nI (hcM (hcCe L xs 13) % 129)), .ref jo], hcBa D jn 32 (hcW4 (fun _ => 0) (16 * 0) (hcCe L xs 8) (hcCe L xs 9) (hcCe L xs 10) (hcCe L xs 11))] := hD
  have hP : va_P D vwCl [hcOb dk 0 [.ref e0, .int 0, .int 0, .ref jk, .ref jn, .ref jt, .int (nI (hcM (hcCe L xs 13) % 129)), .ref jo], hcBa D jk 32 (hcMk (hcCe L xs)), hcBa D jn 32 (hcW4 (fun _ => 0) (16 * 0) (hcCe L xs 8) (hcCe L xs 9) (hcCe L xs 10) (hcCe L xs 11)), hcBa D jt 256 (hcTx (hcCe L xs) 8)] H := hc_psub hP [2, 0, 3, 1] rfl
  have hD : va_D A [hcOb dk 0 [.ref e0, .int 0, .int 0, .ref jk, .ref jn, .ref jt, .int (nI (hcM (hcCe L xs 13) % 129)), .ref jo], hcBa D jk 32 (hcMk (hcCe L xs)), hcBa D jn 32 (hcW4 (fun _ => 0) (16 * 0) (hcCe L xs 8) (hcCe L xs 9) (hcCe L xs 10) (hcCe L xs 11)), hcBa D jt 256 (hcTx (hcCe L xs) 8)] := hD.sub [2, 0, 3, 1] (by decide) rfl
  refine lv_aload_n hx hb dX0_made_145 rfl (lv_at hl 1 rfl) ?_
  refine lv_iconst (v := 1) hx hb dX0_made_146 (by decide) ?_
  refine lv_aload_n hx hb dX0_made_147 rfl (lv_at hl 2 rfl) ?_
  refine lv_bipush (v := 52) hx hb dX0_made_148 (by decide) ?_
  refine hc_oS (met_cell l D b L xs 52 hL (by omega)) ⟨hx, hb, hml, hown, hts⟩ (va_cwS 2 hts (lw_S q241 q242 q10 q243) rfl rfl rfl (by decide +kernel) ⟨Nat.le_of_ble_eq_true rfl, Nat.le_of_ble_eq_true rfl⟩) (hcBl_xs _ _ _) (hc_xs_of hX hbl hbA hS) hK hP hD [] (by decide) rfl rfl hl.1 rfl (Nat.le_of_ble_eq_true rfl) dX0_made_150 ⟨Nat.le_of_ble_eq_true rfl, Nat.le_of_ble_eq_true rfl⟩ ?_
  refine lv_aload_n hx hb dX0_made_153 rfl (lv_at hl 2 rfl) ?_
  refine lv_bipush (v := 53) hx hb dX0_made_154 (by decide) ?_
  refine hc_oS (met_cell l D b L xs 53 hL (by omega)) ⟨hx, hb, hml, hown, hts⟩ (va_cwS 2 hts (lw_S q241 q242 q10 q243) rfl rfl rfl (by decide +kernel) ⟨Nat.le_of_ble_eq_true rfl, Nat.le_of_ble_eq_true rfl⟩) (hcBl_xs _ _ _) (hc_xs_of hX hbl hbA hS) hK hP hD [] (by decide) rfl rfl hl.1 rfl (Nat.le_of_ble_eq_true rfl) dX0_made_156 ⟨Nat.le_of_ble_eq_true rfl, Nat.le_of_ble_eq_true rfl⟩ ?_
  refine lv_aload_n hx hb dX0_made_159 rfl (lv_at hl 2 rfl) ?_
  refine lv_bipush (v := 54) hx hb dX0_made_160 (by decide) ?_
  refine hc_oS (met_cell l D b L xs 54 hL (by omega)) ⟨hx, hb, hml, hown, hts⟩ (va_cwS 2 hts (lw_S q241 q242 q10 q243) rfl rfl rfl (by decide +kernel) ⟨Nat.le_of_ble_eq_true rfl, Nat.le_of_ble_eq_true rfl⟩) (hcBl_xs _ _ _) (hc_xs_of hX hbl hbA hS) hK hP hD [] (by decide) rfl rfl hl.1 rfl (Nat.le_of_ble_eq_true rfl) dX0_made_162 ⟨Nat.le_of_ble_eq_true rfl, Nat.le_of_ble_eq_true rfl⟩ ?_
  refine lv_aload_n hx hb dX0_made_165 rfl (lv_at hl 2 rfl) ?_
  refine lv_bipush (v := 55) hx hb dX0_made_166 (by decide) ?_
  refine hc_oS (met_cell l D b L xs 55 hL (by omega)) ⟨hx, hb, hml, hown, hts⟩ (va_cwS 2 hts (lw_S q241 q242 q10 q243) rfl rfl rfl (by decide +kernel) ⟨Nat.le_of_ble_eq_true rfl, Nat.le_of_ble_eq_true rfl⟩) (hcBl_xs _ _ _) (hc_xs_of hX hbl hbA hS) hK hP hD [] (by decide) rfl rfl hl.1 rfl (Nat.le_of_ble_eq_true rfl) dX0_made_168 ⟨Nat.le_of_ble_eq_true rfl, Nat.le_of_ble_eq_true rfl⟩ ?_
  refine hc_vV (wr := [hcBa D jk 32 (hcMk (hcCe L xs)), hcBa D jt 256 (hcTx (hcCe L xs) 8)]) (met_nonce l D dk jk jn jt (.ref e0) (.int 0) (.int 0) (.int (nI (hcM (hcCe L xs 13) % 129))) (.ref jo) 1 (hcW4 (fun _ => 0) (16 * 0) (hcCe L xs 8) (hcCe L xs 9) (hcCe L xs 10) (hcCe L xs 11)) (hcCe L xs 52) (hcCe L xs 53) (hcCe L xs 54) (hcCe L xs 55) (by decide)) ⟨hx, hb, hml, hown, hts⟩ (cwV 5 hts (lw_V q322 q323 q324 q11 q325) rfl rfl rfl (by decide +kernel) ⟨Nat.le_of_ble_eq_true rfl, Nat.le_of_ble_eq_true rfl⟩) hcBl_no (hc_no _ _) hK hP hD hS hA [0, 2] [1, 3] (by decide) rfl rfl (by decide) (by decide) 0 (ci := 0) rfl rfl rfl rfl hl.1 rfl (Nat.le_of_ble_eq_true rfl) dX0_made_171 ⟨Nat.le_of_ble_eq_true rfl, Nat.le_of_ble_eq_true rfl⟩ (fun _ H locs hw hP hD hS => ?_)
  have hP : va_P D vwCl [hcBa D jk 32 (hcMk (hcCe L xs)), hcBa D jt 256 (hcTx (hcCe L xs) 8), hcOb dk 0 [.ref e0, .int 0, .int 0, .ref jk, .ref jn, .ref jt, .int (nI (hcM (hcCe L xs 13) % 129)), .ref jo], hcBa D jn 32 (hcW4 (hcW4 (fun _ => 0) (16 * 0) (hcCe L xs 8) (hcCe L xs 9) (hcCe L xs 10) (hcCe L xs 11)) (16 * 1) (hcCe L xs 52) (hcCe L xs 53) (hcCe L xs 54) (hcCe L xs 55))] H := hP
  have hD : va_D A [hcBa D jk 32 (hcMk (hcCe L xs)), hcBa D jt 256 (hcTx (hcCe L xs) 8), hcOb dk 0 [.ref e0, .int 0, .int 0, .ref jk, .ref jn, .ref jt, .int (nI (hcM (hcCe L xs 13) % 129)), .ref jo], hcBa D jn 32 (hcW4 (hcW4 (fun _ => 0) (16 * 0) (hcCe L xs 8) (hcCe L xs 9) (hcCe L xs 10) (hcCe L xs 11)) (16 * 1) (hcCe L xs 52) (hcCe L xs 53) (hcCe L xs 54) (hcCe L xs 55))] := hD
  have hP : va_P D vwCl [hcOb dk 0 [.ref e0, .int 0, .int 0, .ref jk, .ref jn, .ref jt, .int (nI (hcM (hcCe L xs 13) % 129)), .ref jo], hcBa D jk 32 (hcMk (hcCe L xs)), hcBa D jn 32 (hcW4 (hcW4 (fun _ => 0) (16 * 0) (hcCe L xs 8) (hcCe L xs 9) (hcCe L xs 10) (hcCe L xs 11)) (16 * 1) (hcCe L xs 52) (hcCe L xs 53) (hcCe L xs 54) (hcCe L xs 55)), hcBa D jt 256 (hcTx (hcCe L xs) 8)] H := hc_psub hP [2, 0, 3, 1] rfl
  have hD : va_D A [hcOb dk 0 [.ref e0, .int 0, .int 0, .ref jk, .ref jn, .ref jt, .int (nI (hcM (hcCe L xs 13) % 129)), .ref jo], hcBa D jk 32 (hcMk (hcCe L xs)), hcBa D jn 32 (hcW4 (hcW4 (fun _ => 0) (16 * 0) (hcCe L xs 8) (hcCe L xs 9) (hcCe L xs 10) (hcCe L xs 11)) (16 * 1) (hcCe L xs 52) (hcCe L xs 53) (hcCe L xs 54) (hcCe L xs 55)), hcBa D jt 256 (hcTx (hcCe L xs) 8)] := hD.sub [2, 0, 3, 1] (by decide) rfl
  have hP : va_P D vwCl [hcOb dk 0 [.ref e0, .int 0, .int 0, .ref jk, .ref jn, .ref jt, .int (nI (hcM (hcCe L xs 13) % 129)), .ref jo], hcBa D jk 32 (hcMk (hcCe L xs)), hcBa D jn 32 (hcMv (hcCe L xs)), hcBa D jt 256 (hcTx (hcCe L xs) 8)] H := hP
  have hD : va_D A [hcOb dk 0 [.ref e0, .int 0, .int 0, .ref jk, .ref jn, .ref jt, .int (nI (hcM (hcCe L xs 13) % 129)), .ref jo], hcBa D jk 32 (hcMk (hcCe L xs)), hcBa D jn 32 (hcMv (hcCe L xs)), hcBa D jt 256 (hcTx (hcCe L xs) 8)] := hD
  refine lv_aload_n hx hb dX0_made_174 rfl (lv_at hl 1 rfl) ?_
  refine lv_aload_n hx hb dX0_made_175 rfl (lv_at hl 2 rfl) ?_
  refine lv_bipush (v := 12) hx hb dX0_made_176 (by decide) ?_
  refine hc_oS (met_cell l D b L xs 12 hL (by omega)) ⟨hx, hb, hml, hown, hts⟩ (va_cwS 2 hts (lw_S q241 q242 q10 q243) rfl rfl rfl (by decide +kernel) ⟨Nat.le_of_ble_eq_true rfl, Nat.le_of_ble_eq_true rfl⟩) (hcBl_xs _ _ _) (hc_xs_of hX hbl hbA hS) hK hP hD [] (by decide) rfl rfl hl.1 rfl (Nat.le_of_ble_eq_true rfl) dX0_made_178 ⟨Nat.le_of_ble_eq_true rfl, Nat.le_of_ble_eq_true rfl⟩ ?_
  refine hc_vV (wr := [hcBa D jt 256 (hcTx (hcCe L xs) 8)]) (met_begin l D dk jk jn jt (.ref e0) (.int 0) (.int 0) (.int (nI (hcM (hcCe L xs 13) % 129))) (.ref jo) (hcMk (hcCe L xs)) (hcMv (hcCe L xs)) σ (hcCe L xs 12) (hcMk_fit _) (hcMv_fit _) hσ) ⟨hx, hb, hml, hown, hts⟩ (cwV 1 hts (lw_V q326 q327 q328 q11 q329) rfl rfl rfl (by decide +kernel) ⟨Nat.le_of_ble_eq_true rfl, Nat.le_of_ble_eq_true rfl⟩) hcBl_no (hc_no _ _) hK hP hD hS hA [0, 1, 2] [3] (by decide) rfl rfl (by decide) (by decide) 0 (ci := 0) rfl rfl rfl rfl hl.1 rfl (Nat.le_of_ble_eq_true rfl) dX0_made_181 ⟨Nat.le_of_ble_eq_true rfl, Nat.le_of_ble_eq_true rfl⟩ (fun u H locs hw hP hD hS => ?_)
  obtain ⟨he, hp, hq, hz, hk, hv⟩ := u
  have hP : va_P D vwCl [hcBa D jt 256 (hcTx (hcCe L xs) 8), hcOb dk 0 [.ref he, .int 1, .int 0, .ref jk, .ref jn, .ref jt, .int (nI (hcM (hcCe L xs 13) % 129)), .ref jo], hcBa D jk 32 (hcMk (hcCe L xs)), hcBa D jn 32 (hcMv (hcCe L xs)), hcOb he 1 [.ref hp, .ref hq, .int (nI (σ ((0 + 3) / 4)).2.2), .ref hk, .ref hv, .int 1, .ref hz, .int (nI (0 % 4))], hcIa D hp 512 (σ ((0 + 3) / 4)).1, hcIa D hq 512 (σ ((0 + 3) / 4)).2.1, hcBa D hz 4 (fun _ => 0), hcBa D hk 16 (hcMk (hcCe L xs)), hcBa D hv 16 (hcMv (hcCe L xs))] H := hP
  have hD : va_D A [hcBa D jt 256 (hcTx (hcCe L xs) 8), hcOb dk 0 [.ref he, .int 1, .int 0, .ref jk, .ref jn, .ref jt, .int (nI (hcM (hcCe L xs 13) % 129)), .ref jo], hcBa D jk 32 (hcMk (hcCe L xs)), hcBa D jn 32 (hcMv (hcCe L xs)), hcOb he 1 [.ref hp, .ref hq, .int (nI (σ ((0 + 3) / 4)).2.2), .ref hk, .ref hv, .int 1, .ref hz, .int (nI (0 % 4))], hcIa D hp 512 (σ ((0 + 3) / 4)).1, hcIa D hq 512 (σ ((0 + 3) / 4)).2.1, hcBa D hz 4 (fun _ => 0), hcBa D hk 16 (hcMk (hcCe L xs)), hcBa D hv 16 (hcMv (hcCe L xs))] := hD
  refine lv_aload_n hx hb dX0_made_184 rfl (lv_at hl 1 rfl) ?_
  exact hc_rret ((dk, jt, he, hp, hq, hz, hk, hv, jk, jn, jo)) hx hb hr hlk (Or.inl ⟨_, rfl⟩) (rfl) (trivial) hP hD [1, 0, 4, 5, 6, 7, 8, 9] (by decide) rfl hS (Nat.le_of_ble_eq_true rfl) (Nat.le_of_ble_eq_true rfl) dX0_made_185
end
section
/-! the published beginning of the stream -/
def hcKn (i : Nat) : Int32 := [(130 : Int32), (0 : Int32), (21 : Int32), (115 : Int32), (160 : Int32), (3 : Int32), (253 : Int32), (59 : Int32), (127 : Int32), (215 : Int32), (47 : Int32), (251 : Int32), (14 : Int32), (175 : Int32), (99 : Int32), (170 : Int32)].getD i 0
set_option maxHeartbeats 16000000 in
set_option maxRecDepth 100000 in
/-- the law's known(): the published beginning comes out -/
theorem met_known (l : Launch) (D : va_G) (σ : Nat → hcS) (hσ : hcSeq (fun _ => 0) (fun _ => 0) σ) (hkn : ∀ i, i < 16 → hcXo σ (fun _ => 0) 0 0 i &&& 255 = hcKn i) : HcI l yX0_known cX0_known 3 (.boolean) 6 138 22 4019 D hcNo [] [] (fun (r : Int32) (_ : Unit) => r = 1) (fun _ => []) := by
  refine hc_inI (by decide) (Nat.le_of_ble_eq_true rfl) ?_
  intro p e s m args below meth c ls A hx hb hr hlk hml hown hts hnm hP hK hD hE hA hAn hS hl
  have hown : s.vm.findClass RX0 = some m.cls := hown
  have hl : lv_has ls 3 [] := hl
  clear hP hD
  have hP : va_P D vwCl [] s.heap := fun k q h => by simp at h
  have hD : va_D A [] := ⟨fun i j p q h => by simp at h, fun k q h => by simp at h⟩
  refine va_new (ci := 0) (fs := [.null, .int 0, .int 0, .null, .null, .null, .int 0, .null]) (C := RX1) (T := TX1) (N := 8) hx hb hts in_X1 tyX1 tyX1_ok hown (hts _ q247) (hts _ q31) (hts _ q11) hK hP hD hS hA rfl (fun j hj => match j, hj with | 0, _ => rfl | 1, _ => rfl | 2, _ => rfl | 3, _ => rfl | 4, _ => rfl | 5, _ => rfl | 6, _ => rfl | 7, _ => rfl | j + 8, h => absurd h (by omega)) (Nat.le_of_ble_eq_true rfl) (Nat.le_of_ble_eq_true rfl) dX0_known_0 (fun dk H hP hD hS => ?_)
  have hP : va_P D vwCl [hcOb dk 0 [.null, .int 0, .int 0, .null, .null, .null, .int 0, .null]] H := hP
  have hD : va_D A [hcOb dk 0 [.null, .int 0, .int 0, .null, .null, .null, .int 0, .null]] := hD
  refine lv_dup hx hb dX0_known_3 rfl ?_
  refine hc_vI (wr := []) (met_D0 l D dk) ⟨hx, hb, hml, hown, hts⟩ (cwI 0 hts (lw_meth q250) rfl rfl rfl (hts _ q11) (hts _ q248) (hts _ q249) rfl (by decide +kernel) ⟨Nat.le_of_ble_eq_true rfl, Nat.le_of_ble_eq_true rfl⟩) hcBl_no (hc_no _ _) hK hP hD hS hA [0] [] (by decide) rfl rfl (by decide) (by decide) rfl hl.1 rfl (Nat.le_of_ble_eq_true rfl) dX0_known_4 ⟨Nat.le_of_ble_eq_true rfl, Nat.le_of_ble_eq_true rfl⟩ (fun u H locs hw hP hD hS => ?_)
  obtain ⟨e0, jk, jn, jt, jo⟩ := u
  have hP : va_P D vwCl [hcOb dk 0 [.ref e0, .int 0, .int 0, .ref jk, .ref jn, .ref jt, .int 0, .ref jo], hcBa D jk 32 (fun _ => 0), hcBa D jn 32 (fun _ => 0), hcBa D jt 256 (fun _ => 0), hcBa D jo 0 (fun _ => 0)] H := hP
  have hD : va_D A [hcOb dk 0 [.ref e0, .int 0, .int 0, .ref jk, .ref jn, .ref jt, .int 0, .ref jo], hcBa D jk 32 (fun _ => 0), hcBa D jn 32 (fun _ => 0), hcBa D jt 256 (fun _ => 0), hcBa D jo 0 (fun _ => 0)] := hD
  have hP : va_P D vwCl [hcOb dk 0 [.ref e0, .int 0, .int 0, .ref jk, .ref jn, .ref jt, .int 0, .ref jo], hcBa D jk 32 (fun _ => 0), hcBa D jn 32 (fun _ => 0), hcBa D jt 256 (fun _ => 0)] H := hc_psub hP [0, 1, 2, 3] rfl
  have hD : va_D A [hcOb dk 0 [.ref e0, .int 0, .int 0, .ref jk, .ref jn, .ref jt, .int 0, .ref jo], hcBa D jk 32 (fun _ => 0), hcBa D jn 32 (fun _ => 0), hcBa D jt 256 (fun _ => 0)] := hD.sub [0, 1, 2, 3] (by decide) rfl
  refine W.widen (k := 9) (n := 1364) (by decide) (by decide) ?_
  refine lv_astore_n (lv' := [(0, .ref dk)]) hx hb dX0_known_7 rfl hl (by decide) rfl (fun ls hl => ?_)
  refine lv_iconst (v := 0) hx hb dX0_known_8 (by decide) ?_
  refine lv_istore_n (lv' := [(1, .int 0), (0, .ref dk)]) hx hb dX0_known_9 rfl hl (by decide) rfl (fun ls hl => ?_)
  refine lv_iload_n hx hb dX0_known_10 rfl (lv_at hl 0 rfl) ?_
  refine lv_iconst (v := 2) hx hb dX0_known_11 (by decide) ?_
  refine lv_icmp_ge (tgt := 30) hx hb dX0_known_12 (by decide) (fun hc => absurd hc (by decide)) (fun _ => ?_)
  refine lv_aload_n hx hb dX0_known_15 rfl (lv_at hl 1 rfl) ?_
  refine lv_iconst (v := 0) hx hb dX0_known_16 (by decide) ?_
  refine lv_iconst (v := 0) hx hb dX0_known_17 (by decide) ?_
  refine lv_iconst (v := 0) hx hb dX0_known_18 (by decide) ?_
  refine lv_iconst (v := 0) hx hb dX0_known_19 (by decide) ?_
  refine hc_iV (wr := [hcBa D jk 32 (fun _ => 0), hcBa D jn 32 (fun _ => 0)]) (met_put l D dk jk jn jt (.ref e0) (.int 0) (.int 0) (.ref jo) 0 (fun _ => 0) 0 0 0 0 (by decide)) ⟨hx, hb, hml, hown, hts⟩ (cwV 4 hts (lw_V q307 q308 q309 q11 q310) rfl rfl rfl (by decide +kernel) ⟨Nat.le_of_ble_eq_true rfl, Nat.le_of_ble_eq_true rfl⟩) hcBl_no (hc_no _ _) hK hP hD hS hA [0, 3] [1, 2] (by decide) rfl rfl (by decide) (by decide) 0 (ci := 0) rfl rfl rfl rfl hl.1 rfl (Nat.le_of_ble_eq_true rfl) dX0_known_20 ⟨Nat.le_of_ble_eq_true rfl, Nat.le_of_ble_eq_true rfl⟩ (fun r _ H locs hw hP hD hS => ?_)
  have hP : va_P D vwCl [hcBa D jk 32 (fun _ => 0), hcBa D jn 32 (fun _ => 0), hcOb dk 0 [.ref e0, .int 0, .int 0, .ref jk, .ref jn, .ref jt, .int (nI 16), .ref jo], hcBa D jt 256 (hcW4 (fun _ => 0) 0 0 0 0 0)] H := hP
  have hD : va_D A [hcBa D jk 32 (fun _ => 0), hcBa D jn 32 (fun _ => 0), hcOb dk 0 [.ref e0, .int 0, .int 0, .ref jk, .ref jn, .ref jt, .int (nI 16), .ref jo], hcBa D jt 256 (hcW4 (fun _ => 0) 0 0 0 0 0)] := hD
  have hP : va_P D vwCl [hcOb dk 0 [.ref e0, .int 0, .int 0, .ref jk, .ref jn, .ref jt, .int (nI 16), .ref jo], hcBa D jk 32 (fun _ => 0), hcBa D jn 32 (fun _ => 0), hcBa D jt 256 (hcW4 (fun _ => 0) 0 0 0 0 0)] H := hc_psub hP [2, 0, 1, 3] rfl
  have hD : va_D A [hcOb dk 0 [.ref e0, .int 0, .int 0, .ref jk, .ref jn, .ref jt, .int (nI 16), .ref jo], hcBa D jk 32 (fun _ => 0), hcBa D jn 32 (fun _ => 0), hcBa D jt 256 (hcW4 (fun _ => 0) 0 0 0 0 0)] := hD.sub [2, 0, 1, 3] (by decide) rfl
  rw [hcW4_z] at hP hD
  have hP : va_P D vwCl [hcOb dk 0 [.ref e0, .int 0, .int 0, .ref jk, .ref jn, .ref jt, .int (nI 16), .ref jo], hcBa D jk 32 (fun _ => 0), hcBa D jn 32 (fun _ => 0), hcBa D jt 256 (fun _ => 0)] H := hP
  have hD : va_D A [hcOb dk 0 [.ref e0, .int 0, .int 0, .ref jk, .ref jn, .ref jt, .int (nI 16), .ref jo], hcBa D jk 32 (fun _ => 0), hcBa D jn 32 (fun _ => 0), hcBa D jt 256 (fun _ => 0)] := hD
  refine lv_pop hx hb dX0_known_23 rfl ?_
  refine lv_iinc (v := 1) (lv' := [(1, .int 1), (0, .ref dk)]) hx hb dX0_known_24 hl (k := 0) rfl (by decide) (by decide) rfl (fun ls hl => ?_)
  refine lv_goto (tgt := 10) hx hb dX0_known_27 (by decide) ?_
  refine lv_iload_n hx hb dX0_known_10 rfl (lv_at hl 0 rfl) ?_
  refine lv_iconst (v := 2) hx hb dX0_known_11 (by decide) ?_
  refine lv_icmp_ge (tgt := 30) hx hb dX0_known_12 (by decide) (fun hc => absurd hc (by decide)) (fun _ => ?_)
  refine lv_aload_n hx hb dX0_known_15 rfl (lv_at hl 1 rfl) ?_
  refine lv_iconst (v := 0) hx hb dX0_known_16 (by decide) ?_
  refine lv_iconst (v := 0) hx hb dX0_known_17 (by decide) ?_
  refine lv_iconst (v := 0) hx hb dX0_known_18 (by decide) ?_
  refine lv_iconst (v := 0) hx hb dX0_known_19 (by decide) ?_
  refine hc_iV (wr := [hcBa D jk 32 (fun _ => 0), hcBa D jn 32 (fun _ => 0)]) (met_put l D dk jk jn jt (.ref e0) (.int 0) (.int 0) (.ref jo) 16 (fun _ => 0) 0 0 0 0 (by decide)) ⟨hx, hb, hml, hown, hts⟩ (cwV 4 hts (lw_V q307 q308 q309 q11 q310) rfl rfl rfl (by decide +kernel) ⟨Nat.le_of_ble_eq_true rfl, Nat.le_of_ble_eq_true rfl⟩) hcBl_no (hc_no _ _) hK hP hD hS hA [0, 3] [1, 2] (by decide) rfl rfl (by decide) (by decide) 0 (ci := 0) rfl rfl rfl rfl hl.1 rfl (Nat.le_of_ble_eq_true rfl) dX0_known_20 ⟨Nat.le_of_ble_eq_true rfl, Nat.le_of_ble_eq_true rfl⟩ (fun r _ H locs hw hP hD hS => ?_)
  have hP : va_P D vwCl [hcBa D jk 32 (fun _ => 0), hcBa D jn 32 (fun _ => 0), hcOb dk 0 [.ref e0, .int 0, .int 0, .ref jk, .ref jn, .ref jt, .int (nI 32), .ref jo], hcBa D jt 256 (hcW4 (fun _ => 0) 16 0 0 0 0)] H := hP
  have hD : va_D A [hcBa D jk 32 (fun _ => 0), hcBa D jn 32 (fun _ => 0), hcOb dk 0 [.ref e0, .int 0, .int 0, .ref jk, .ref jn, .ref jt, .int (nI 32), .ref jo], hcBa D jt 256 (hcW4 (fun _ => 0) 16 0 0 0 0)] := hD
  have hP : va_P D vwCl [hcOb dk 0 [.ref e0, .int 0, .int 0, .ref jk, .ref jn, .ref jt, .int (nI 32), .ref jo], hcBa D jk 32 (fun _ => 0), hcBa D jn 32 (fun _ => 0), hcBa D jt 256 (hcW4 (fun _ => 0) 16 0 0 0 0)] H := hc_psub hP [2, 0, 1, 3] rfl
  have hD : va_D A [hcOb dk 0 [.ref e0, .int 0, .int 0, .ref jk, .ref jn, .ref jt, .int (nI 32), .ref jo], hcBa D jk 32 (fun _ => 0), hcBa D jn 32 (fun _ => 0), hcBa D jt 256 (hcW4 (fun _ => 0) 16 0 0 0 0)] := hD.sub [2, 0, 1, 3] (by decide) rfl
  rw [hcW4_z] at hP hD
  have hP : va_P D vwCl [hcOb dk 0 [.ref e0, .int 0, .int 0, .ref jk, .ref jn, .ref jt, .int (nI 32), .ref jo], hcBa D jk 32 (fun _ => 0), hcBa D jn 32 (fun _ => 0), hcBa D jt 256 (fun _ => 0)] H := hP
  have hD : va_D A [hcOb dk 0 [.ref e0, .int 0, .int 0, .ref jk, .ref jn, .ref jt, .int (nI 32), .ref jo], hcBa D jk 32 (fun _ => 0), hcBa D jn 32 (fun _ => 0), hcBa D jt 256 (fun _ => 0)] := hD
  refine lv_pop hx hb dX0_known_23 rfl ?_
  refine lv_iinc (v := 2) (lv' := [(1, .int 2), (0, .ref dk)]) hx hb dX0_known_24 hl (k := 0) rfl (by decide) (by decide) rfl (fun ls hl => ?_)
  refine lv_goto (tgt := 10) hx hb dX0_known_27 (by decide) ?_
  refine lv_iload_n hx hb dX0_known_10 rfl (lv_at hl 0 rfl) ?_
  refine lv_iconst (v := 2) hx hb dX0_known_11 (by decide) ?_
  refine lv_icmp_ge (tgt := 30) hx hb dX0_known_12 (by decide) (fun _ => ?_) (fun hc => absurd (by decide) hc)
  refine lv_aload_n hx hb dX0_known_30 rfl (lv_at hl 1 rfl) ?_
  refine lv_iconst (v := 0) hx hb dX0_known_31 (by decide) ?_
  refine lv_iconst (v := 0) hx hb dX0_known_32 (by decide) ?_
  refine lv_iconst (v := 0) hx hb dX0_known_33 (by decide) ?_
  refine lv_iconst (v := 0) hx hb dX0_known_34 (by decide) ?_
  refine lv_iconst (v := 0) hx hb dX0_known_35 (by decide) ?_
  refine hc_vV (wr := [hcBa D jn 32 (fun _ => 0), hcBa D jt 256 (fun _ => 0)]) (met_key l D dk jk jn jt (.ref e0) (.int 0) (.int 0) (.int (nI 32)) (.ref jo) 0 (fun _ => 0) 0 0 0 0 (by decide)) ⟨hx, hb, hml, hown, hts⟩ (cwV 5 hts (lw_V q318 q319 q320 q11 q321) rfl rfl rfl (by decide +kernel) ⟨Nat.le_of_ble_eq_true rfl, Nat.le_of_ble_eq_true rfl⟩) hcBl_no (hc_no _ _) hK hP hD hS hA [0, 1] [2, 3] (by decide) rfl rfl (by decide) (by decide) 0 (ci := 0) rfl rfl rfl rfl hl.1 rfl (Nat.le_of_ble_eq_true rfl) dX0_known_36 ⟨Nat.le_of_ble_eq_true rfl, Nat.le_of_ble_eq_true rfl⟩ (fun _ H locs hw hP hD hS => ?_)
  have hP : va_P D vwCl [hcBa D jn 32 (fun _ => 0), hcBa D jt 256 (fun _ => 0), hcOb dk 0 [.ref e0, .int 0, .int 0, .ref jk, .ref jn, .ref jt, .int (nI 32), .ref jo], hcBa D jk 32 (hcW4 (fun _ => 0) (16 * 0) 0 0 0 0)] H := hP
  have hD : va_D A [hcBa D jn 32 (fun _ => 0), hcBa D jt 256 (fun _ => 0), hcOb dk 0 [.ref e0, .int 0, .int 0, .ref jk, .ref jn, .ref jt, .int (nI 32), .ref jo], hcBa D jk 32 (hcW4 (fun _ => 0) (16 * 0) 0 0 0 0)] := hD
  have hP : va_P D vwCl [hcOb dk 0 [.ref e0, .int 0, .int 0, .ref jk, .ref jn, .ref jt, .int (nI 32), .ref jo], hcBa D jk 32 (hcW4 (fun _ => 0) (16 * 0) 0 0 0 0), hcBa D jn 32 (fun _ => 0), hcBa D jt 256 (fun _ => 0)] H := hc_psub hP [2, 3, 0, 1] rfl
  have hD : va_D A [hcOb dk 0 [.ref e0, .int 0, .int 0, .ref jk, .ref jn, .ref jt, .int (nI 32), .ref jo], hcBa D jk 32 (hcW4 (fun _ => 0) (16 * 0) 0 0 0 0), hcBa D jn 32 (fun _ => 0), hcBa D jt 256 (fun _ => 0)] := hD.sub [2, 3, 0, 1] (by decide) rfl
  rw [hcW4_z] at hP hD
  have hP : va_P D vwCl [hcOb dk 0 [.ref e0, .int 0, .int 0, .ref jk, .ref jn, .ref jt, .int (nI 32), .ref jo], hcBa D jk 32 (fun _ => 0), hcBa D jn 32 (fun _ => 0), hcBa D jt 256 (fun _ => 0)] H := hP
  have hD : va_D A [hcOb dk 0 [.ref e0, .int 0, .int 0, .ref jk, .ref jn, .ref jt, .int (nI 32), .ref jo], hcBa D jk 32 (fun _ => 0), hcBa D jn 32 (fun _ => 0), hcBa D jt 256 (fun _ => 0)] := hD
  refine lv_aload_n hx hb dX0_known_39 rfl (lv_at hl 1 rfl) ?_
  refine lv_iconst (v := 1) hx hb dX0_known_40 (by decide) ?_
  refine lv_iconst (v := 0) hx hb dX0_known_41 (by decide) ?_
  refine lv_iconst (v := 0) hx hb dX0_known_42 (by decide) ?_
  refine lv_iconst (v := 0) hx hb dX0_known_43 (by decide) ?_
  refine lv_iconst (v := 0) hx hb dX0_known_44 (by decide) ?_
  refine hc_vV (wr := [hcBa D jn 32 (fun _ => 0), hcBa D jt 256 (fun _ => 0)]) (met_key l D dk jk jn jt (.ref e0) (.int 0) (.int 0) (.int (nI 32)) (.ref jo) 1 (fun _ => 0) 0 0 0 0 (by decide)) ⟨hx, hb, hml, hown, hts⟩ (cwV 5 hts (lw_V q318 q319 q320 q11 q321) rfl rfl rfl (by decide +kernel) ⟨Nat.le_of_ble_eq_true rfl, Nat.le_of_ble_eq_true rfl⟩) hcBl_no (hc_no _ _) hK hP hD hS hA [0, 1] [2, 3] (by decide) rfl rfl (by decide) (by decide) 0 (ci := 0) rfl rfl rfl rfl hl.1 rfl (Nat.le_of_ble_eq_true rfl) dX0_known_45 ⟨Nat.le_of_ble_eq_true rfl, Nat.le_of_ble_eq_true rfl⟩ (fun _ H locs hw hP hD hS => ?_)
  have hP : va_P D vwCl [hcBa D jn 32 (fun _ => 0), hcBa D jt 256 (fun _ => 0), hcOb dk 0 [.ref e0, .int 0, .int 0, .ref jk, .ref jn, .ref jt, .int (nI 32), .ref jo], hcBa D jk 32 (hcW4 (fun _ => 0) (16 * 1) 0 0 0 0)] H := hP
  have hD : va_D A [hcBa D jn 32 (fun _ => 0), hcBa D jt 256 (fun _ => 0), hcOb dk 0 [.ref e0, .int 0, .int 0, .ref jk, .ref jn, .ref jt, .int (nI 32), .ref jo], hcBa D jk 32 (hcW4 (fun _ => 0) (16 * 1) 0 0 0 0)] := hD
  have hP : va_P D vwCl [hcOb dk 0 [.ref e0, .int 0, .int 0, .ref jk, .ref jn, .ref jt, .int (nI 32), .ref jo], hcBa D jk 32 (hcW4 (fun _ => 0) (16 * 1) 0 0 0 0), hcBa D jn 32 (fun _ => 0), hcBa D jt 256 (fun _ => 0)] H := hc_psub hP [2, 3, 0, 1] rfl
  have hD : va_D A [hcOb dk 0 [.ref e0, .int 0, .int 0, .ref jk, .ref jn, .ref jt, .int (nI 32), .ref jo], hcBa D jk 32 (hcW4 (fun _ => 0) (16 * 1) 0 0 0 0), hcBa D jn 32 (fun _ => 0), hcBa D jt 256 (fun _ => 0)] := hD.sub [2, 3, 0, 1] (by decide) rfl
  rw [hcW4_z] at hP hD
  have hP : va_P D vwCl [hcOb dk 0 [.ref e0, .int 0, .int 0, .ref jk, .ref jn, .ref jt, .int (nI 32), .ref jo], hcBa D jk 32 (fun _ => 0), hcBa D jn 32 (fun _ => 0), hcBa D jt 256 (fun _ => 0)] H := hP
  have hD : va_D A [hcOb dk 0 [.ref e0, .int 0, .int 0, .ref jk, .ref jn, .ref jt, .int (nI 32), .ref jo], hcBa D jk 32 (fun _ => 0), hcBa D jn 32 (fun _ => 0), hcBa D jt 256 (fun _ => 0)] := hD
  refine lv_aload_n hx hb dX0_known_48 rfl (lv_at hl 1 rfl) ?_
  refine lv_iconst (v := 0) hx hb dX0_known_49 (by decide) ?_
  refine lv_iconst (v := 0) hx hb dX0_known_50 (by decide) ?_
  refine lv_iconst (v := 0) hx hb dX0_known_51 (by decide) ?_
  refine lv_iconst (v := 0) hx hb dX0_known_52 (by decide) ?_
  refine lv_iconst (v := 0) hx hb dX0_known_53 (by decide) ?_
  refine hc_vV (wr := [hcBa D jk 32 (fun _ => 0), hcBa D jt 256 (fun _ => 0)]) (met_nonce l D dk jk jn jt (.ref e0) (.int 0) (.int 0) (.int (nI 32)) (.ref jo) 0 (fun _ => 0) 0 0 0 0 (by decide)) ⟨hx, hb, hml, hown, hts⟩ (cwV 5 hts (lw_V q322 q323 q324 q11 q325) rfl rfl rfl (by decide +kernel) ⟨Nat.le_of_ble_eq_true rfl, Nat.le_of_ble_eq_true rfl⟩) hcBl_no (hc_no _ _) hK hP hD hS hA [0, 2] [1, 3] (by decide) rfl rfl (by decide) (by decide) 0 (ci := 0) rfl rfl rfl rfl hl.1 rfl (Nat.le_of_ble_eq_true rfl) dX0_known_54 ⟨Nat.le_of_ble_eq_true rfl, Nat.le_of_ble_eq_true rfl⟩ (fun _ H locs hw hP hD hS => ?_)
  have hP : va_P D vwCl [hcBa D jk 32 (fun _ => 0), hcBa D jt 256 (fun _ => 0), hcOb dk 0 [.ref e0, .int 0, .int 0, .ref jk, .ref jn, .ref jt, .int (nI 32), .ref jo], hcBa D jn 32 (hcW4 (fun _ => 0) (16 * 0) 0 0 0 0)] H := hP
  have hD : va_D A [hcBa D jk 32 (fun _ => 0), hcBa D jt 256 (fun _ => 0), hcOb dk 0 [.ref e0, .int 0, .int 0, .ref jk, .ref jn, .ref jt, .int (nI 32), .ref jo], hcBa D jn 32 (hcW4 (fun _ => 0) (16 * 0) 0 0 0 0)] := hD
  have hP : va_P D vwCl [hcOb dk 0 [.ref e0, .int 0, .int 0, .ref jk, .ref jn, .ref jt, .int (nI 32), .ref jo], hcBa D jk 32 (fun _ => 0), hcBa D jn 32 (hcW4 (fun _ => 0) (16 * 0) 0 0 0 0), hcBa D jt 256 (fun _ => 0)] H := hc_psub hP [2, 0, 3, 1] rfl
  have hD : va_D A [hcOb dk 0 [.ref e0, .int 0, .int 0, .ref jk, .ref jn, .ref jt, .int (nI 32), .ref jo], hcBa D jk 32 (fun _ => 0), hcBa D jn 32 (hcW4 (fun _ => 0) (16 * 0) 0 0 0 0), hcBa D jt 256 (fun _ => 0)] := hD.sub [2, 0, 3, 1] (by decide) rfl
  rw [hcW4_z] at hP hD
  have hP : va_P D vwCl [hcOb dk 0 [.ref e0, .int 0, .int 0, .ref jk, .ref jn, .ref jt, .int (nI 32), .ref jo], hcBa D jk 32 (fun _ => 0), hcBa D jn 32 (fun _ => 0), hcBa D jt 256 (fun _ => 0)] H := hP
  have hD : va_D A [hcOb dk 0 [.ref e0, .int 0, .int 0, .ref jk, .ref jn, .ref jt, .int (nI 32), .ref jo], hcBa D jk 32 (fun _ => 0), hcBa D jn 32 (fun _ => 0), hcBa D jt 256 (fun _ => 0)] := hD
  refine lv_aload_n hx hb dX0_known_57 rfl (lv_at hl 1 rfl) ?_
  refine lv_iconst (v := 1) hx hb dX0_known_58 (by decide) ?_
  refine lv_iconst (v := 0) hx hb dX0_known_59 (by decide) ?_
  refine lv_iconst (v := 0) hx hb dX0_known_60 (by decide) ?_
  refine lv_iconst (v := 0) hx hb dX0_known_61 (by decide) ?_
  refine lv_iconst (v := 0) hx hb dX0_known_62 (by decide) ?_
  refine hc_vV (wr := [hcBa D jk 32 (fun _ => 0), hcBa D jt 256 (fun _ => 0)]) (met_nonce l D dk jk jn jt (.ref e0) (.int 0) (.int 0) (.int (nI 32)) (.ref jo) 1 (fun _ => 0) 0 0 0 0 (by decide)) ⟨hx, hb, hml, hown, hts⟩ (cwV 5 hts (lw_V q322 q323 q324 q11 q325) rfl rfl rfl (by decide +kernel) ⟨Nat.le_of_ble_eq_true rfl, Nat.le_of_ble_eq_true rfl⟩) hcBl_no (hc_no _ _) hK hP hD hS hA [0, 2] [1, 3] (by decide) rfl rfl (by decide) (by decide) 0 (ci := 0) rfl rfl rfl rfl hl.1 rfl (Nat.le_of_ble_eq_true rfl) dX0_known_63 ⟨Nat.le_of_ble_eq_true rfl, Nat.le_of_ble_eq_true rfl⟩ (fun _ H locs hw hP hD hS => ?_)
  have hP : va_P D vwCl [hcBa D jk 32 (fun _ => 0), hcBa D jt 256 (fun _ => 0), hcOb dk 0 [.ref e0, .int 0, .int 0, .ref jk, .ref jn, .ref jt, .int (nI 32), .ref jo], hcBa D jn 32 (hcW4 (fun _ => 0) (16 * 1) 0 0 0 0)] H := hP
  have hD : va_D A [hcBa D jk 32 (fun _ => 0), hcBa D jt 256 (fun _ => 0), hcOb dk 0 [.ref e0, .int 0, .int 0, .ref jk, .ref jn, .ref jt, .int (nI 32), .ref jo], hcBa D jn 32 (hcW4 (fun _ => 0) (16 * 1) 0 0 0 0)] := hD
  have hP : va_P D vwCl [hcOb dk 0 [.ref e0, .int 0, .int 0, .ref jk, .ref jn, .ref jt, .int (nI 32), .ref jo], hcBa D jk 32 (fun _ => 0), hcBa D jn 32 (hcW4 (fun _ => 0) (16 * 1) 0 0 0 0), hcBa D jt 256 (fun _ => 0)] H := hc_psub hP [2, 0, 3, 1] rfl
  have hD : va_D A [hcOb dk 0 [.ref e0, .int 0, .int 0, .ref jk, .ref jn, .ref jt, .int (nI 32), .ref jo], hcBa D jk 32 (fun _ => 0), hcBa D jn 32 (hcW4 (fun _ => 0) (16 * 1) 0 0 0 0), hcBa D jt 256 (fun _ => 0)] := hD.sub [2, 0, 3, 1] (by decide) rfl
  rw [hcW4_z] at hP hD
  have hP : va_P D vwCl [hcOb dk 0 [.ref e0, .int 0, .int 0, .ref jk, .ref jn, .ref jt, .int (nI 32), .ref jo], hcBa D jk 32 (fun _ => 0), hcBa D jn 32 (fun _ => 0), hcBa D jt 256 (fun _ => 0)] H := hP
  have hD : va_D A [hcOb dk 0 [.ref e0, .int 0, .int 0, .ref jk, .ref jn, .ref jt, .int (nI 32), .ref jo], hcBa D jk 32 (fun _ => 0), hcBa D jn 32 (fun _ => 0), hcBa D jt 256 (fun _ => 0)] := hD
  refine lv_aload_n hx hb dX0_known_66 rfl (lv_at hl 1 rfl) ?_
  refine lv_iconst (v := 0) hx hb dX0_known_67 (by decide) ?_
  refine hc_vV (wr := [hcBa D jt 256 (fun _ => 0)]) (met_begin l D dk jk jn jt (.ref e0) (.int 0) (.int 0) (.int (nI 32)) (.ref jo) (fun _ => 0) (fun _ => 0) σ 0 sb_fit0 sb_fit0 hσ) ⟨hx, hb, hml, hown, hts⟩ (cwV 1 hts (lw_V q326 q327 q328 q11 q329) rfl rfl rfl (by decide +kernel) ⟨Nat.le_of_ble_eq_true rfl, Nat.le_of_ble_eq_true rfl⟩) hcBl_no (hc_no _ _) hK hP hD hS hA [0, 1, 2] [3] (by decide) rfl rfl (by decide) (by decide) 0 (ci := 0) rfl rfl rfl rfl hl.1 rfl (Nat.le_of_ble_eq_true rfl) dX0_known_68 ⟨Nat.le_of_ble_eq_true rfl, Nat.le_of_ble_eq_true rfl⟩ (fun u H locs hw hP hD hS => ?_)
  obtain ⟨he, hp, hq, hz, hk, hv⟩ := u
  have hP : va_P D vwCl [hcBa D jt 256 (fun _ => 0), hcOb dk 0 [.ref he, .int 1, .int 0, .ref jk, .ref jn, .ref jt, .int (nI 32), .ref jo], hcBa D jk 32 (fun _ => 0), hcBa D jn 32 (fun _ => 0), hcOb he 1 [.ref hp, .ref hq, .int (nI (σ ((0 + 3) / 4)).2.2), .ref hk, .ref hv, .int 1, .ref hz, .int (nI (0 % 4))], hcIa D hp 512 (σ ((0 + 3) / 4)).1, hcIa D hq 512 (σ ((0 + 3) / 4)).2.1, hcBa D hz 4 (fun _ => 0), hcBa D hk 16 (fun _ => 0), hcBa D hv 16 (fun _ => 0)] H := hP
  have hD : va_D A [hcBa D jt 256 (fun _ => 0), hcOb dk 0 [.ref he, .int 1, .int 0, .ref jk, .ref jn, .ref jt, .int (nI 32), .ref jo], hcBa D jk 32 (fun _ => 0), hcBa D jn 32 (fun _ => 0), hcOb he 1 [.ref hp, .ref hq, .int (nI (σ ((0 + 3) / 4)).2.2), .ref hk, .ref hv, .int 1, .ref hz, .int (nI (0 % 4))], hcIa D hp 512 (σ ((0 + 3) / 4)).1, hcIa D hq 512 (σ ((0 + 3) / 4)).2.1, hcBa D hz 4 (fun _ => 0), hcBa D hk 16 (fun _ => 0), hcBa D hv 16 (fun _ => 0)] := hD
  have hP : va_P D vwCl [hcOb dk 0 [.ref he, .int 1, .int 0, .ref jk, .ref jn, .ref jt, .int (nI 32), .ref jo], hcBa D jt 256 (fun _ => 0), hcOb he 1 [.ref hp, .ref hq, .int (nI (σ ((0 + 3) / 4)).2.2), .ref hk, .ref hv, .int 1, .ref hz, .int (nI (0 % 4))], hcIa D hp 512 (σ ((0 + 3) / 4)).1, hcIa D hq 512 (σ ((0 + 3) / 4)).2.1, hcBa D hz 4 (fun _ => 0), hcBa D hk 16 (fun _ => 0), hcBa D hv 16 (fun _ => 0)] H := hc_psub hP [1, 0, 4, 5, 6, 7, 8, 9] rfl
  have hD : va_D A [hcOb dk 0 [.ref he, .int 1, .int 0, .ref jk, .ref jn, .ref jt, .int (nI 32), .ref jo], hcBa D jt 256 (fun _ => 0), hcOb he 1 [.ref hp, .ref hq, .int (nI (σ ((0 + 3) / 4)).2.2), .ref hk, .ref hv, .int 1, .ref hz, .int (nI (0 % 4))], hcIa D hp 512 (σ ((0 + 3) / 4)).1, hcIa D hq 512 (σ ((0 + 3) / 4)).2.1, hcBa D hz 4 (fun _ => 0), hcBa D hk 16 (fun _ => 0), hcBa D hv 16 (fun _ => 0)] := hD.sub [1, 0, 4, 5, 6, 7, 8, 9] (by decide) rfl
  refine lv_aload_n hx hb dX0_known_71 rfl (lv_at hl 1 rfl) ?_
  refine lv_iconst (v := 0) hx hb dX0_known_72 (by decide) ?_
  refine lv_bipush (v := 16) hx hb dX0_known_73 (by decide) ?_
  refine hc_iV (wr := []) (met_run l D dk jk jn jt he hp hq hz hk hv (.ref jo) (fun _ => 0) (fun _ => 0) (fun _ => 0) σ 32 0 0 (fun _ => 0) 0 16 hσ (fun h => absurd rfl h) (by decide) (by decide) (by decide)) ⟨hx, hb, hml, hown, hts⟩ (cwV 2 hts (lw_V q24 q25 q26 q11 q27) rfl rfl rfl (by decide +kernel) ⟨Nat.le_of_ble_eq_true rfl, Nat.le_of_ble_eq_true rfl⟩) hcBl_no (hc_no _ _) hK hP hD hS hA [0, 1, 2, 3, 4, 5, 6, 7] [] (by decide) rfl rfl (by decide) (by decide) 0 (ci := 0) rfl rfl rfl rfl hl.1 rfl (Nat.le_of_ble_eq_true rfl) dX0_known_75 ⟨Nat.le_of_ble_eq_true rfl, Nat.le_of_ble_eq_true rfl⟩ (fun r u H locs hw hP hD hS => ?_)
  obtain ⟨jr, B⟩ := u
  have hP : va_P D vwCl [hcOb dk 0 [.ref he, .int 1, .int (nI 16), .ref jk, .ref jn, .ref jt, .int (nI 32), .ref jr], hcBa D jt 256 (fun _ => 0), hcOb he 1 [.ref hp, .ref hq, .int (nI (σ ((0 + 16 + 3) / 4)).2.2), .ref hk, .ref hv, .int 1, .ref hz, .int (nI ((0 + 16) % 4))], hcIa D hp 512 (σ ((0 + 16 + 3) / 4)).1, hcIa D hq 512 (σ ((0 + 16 + 3) / 4)).2.1, hcBa D hz 4 B, hcBa D hk 16 (fun _ => 0), hcBa D hv 16 (fun _ => 0), hcBa D jr 16 (hcXo σ (fun _ => 0) 0 0)] H := hP
  have hD : va_D A [hcOb dk 0 [.ref he, .int 1, .int (nI 16), .ref jk, .ref jn, .ref jt, .int (nI 32), .ref jr], hcBa D jt 256 (fun _ => 0), hcOb he 1 [.ref hp, .ref hq, .int (nI (σ ((0 + 16 + 3) / 4)).2.2), .ref hk, .ref hv, .int 1, .ref hz, .int (nI ((0 + 16) % 4))], hcIa D hp 512 (σ ((0 + 16 + 3) / 4)).1, hcIa D hq 512 (σ ((0 + 16 + 3) / 4)).2.1, hcBa D hz 4 B, hcBa D hk 16 (fun _ => 0), hcBa D hv 16 (fun _ => 0), hcBa D jr 16 (hcXo σ (fun _ => 0) 0 0)] := hD
  have hP : va_P D vwCl [hcOb dk 0 [.ref he, .int 1, .int (nI 16), .ref jk, .ref jn, .ref jt, .int (nI 32), .ref jr], hcBa D jr 16 (hcXo σ (fun _ => 0) 0 0)] H := hc_psub hP [0, 8] rfl
  have hD : va_D A [hcOb dk 0 [.ref he, .int 1, .int (nI 16), .ref jk, .ref jn, .ref jt, .int (nI 32), .ref jr], hcBa D jr 16 (hcXo σ (fun _ => 0) 0 0)] := hD.sub [0, 8] (by decide) rfl
  clear hw
  refine W.widen (k := 21) (n := 4003) (by decide) (by decide) ?_
  refine lv_pop hx hb dX0_known_78 rfl ?_
  refine lv_bipush (v := 16) hx hb dX0_known_79 (by decide) ?_
  refine hc_newa hx hb .int rfl (hts _ q236) hK hP hD hS hA 0 rfl (fun C h => by cases h) 16 (f0 := fun _ => 0) (fun _ => rfl) (by decide) (by decide) (by decide) (Nat.le_of_ble_eq_true rfl) (Nat.le_of_ble_eq_true rfl) dX0_known_81 (fun jx H hP hD hS => ?_)
  have hP : va_P D vwCl [hcOb dk 0 [.ref he, .int 1, .int (nI 16), .ref jk, .ref jn, .ref jt, .int (nI 32), .ref jr], hcBa D jr 16 (hcXo σ (fun _ => 0) 0 0), hcIa D jx 16 (fun _ => 0)] H := hP
  have hD : va_D A [hcOb dk 0 [.ref he, .int 1, .int (nI 16), .ref jk, .ref jn, .ref jt, .int (nI 32), .ref jr], hcBa D jr 16 (hcXo σ (fun _ => 0) 0 0), hcIa D jx 16 (fun _ => 0)] := hD
  refine lv_dup hx hb dX0_known_83 rfl ?_
  refine lv_iconst (v := 0) hx hb dX0_known_84 (by decide) ?_
  refine lv_sipush (v := 130) hx hb dX0_known_85 (by decide) ?_
  refine hc_iast (k := 0) hx hb hK hP hD hS 2 0 rfl rfl (by decide) (by decide) dX0_known_88 (fun H locs hP hD hS => ?_)
  have hP : va_P D vwCl [hcOb dk 0 [.ref he, .int 1, .int (nI 16), .ref jk, .ref jn, .ref jt, .int (nI 32), .ref jr], hcBa D jr 16 (hcXo σ (fun _ => 0) 0 0), hcIa D jx 16 (upd (fun _ => 0) 0 130)] H := hP
  have hD : va_D A [hcOb dk 0 [.ref he, .int 1, .int (nI 16), .ref jk, .ref jn, .ref jt, .int (nI 32), .ref jr], hcBa D jr 16 (hcXo σ (fun _ => 0) 0 0), hcIa D jx 16 (upd (fun _ => 0) 0 130)] := hD
  refine lv_dup hx hb dX0_known_89 rfl ?_
  refine lv_iconst (v := 1) hx hb dX0_known_90 (by decide) ?_
  refine lv_iconst (v := 0) hx hb dX0_known_91 (by decide) ?_
  refine hc_iast (k := 1) hx hb hK hP hD hS 2 0 rfl rfl (by decide) (by decide) dX0_known_92 (fun H locs hP hD hS => ?_)
  have hP : va_P D vwCl [hcOb dk 0 [.ref he, .int 1, .int (nI 16), .ref jk, .ref jn, .ref jt, .int (nI 32), .ref jr], hcBa D jr 16 (hcXo σ (fun _ => 0) 0 0), hcIa D jx 16 (upd (upd (fun _ => 0) 0 130) 1 0)] H := hP
  have hD : va_D A [hcOb dk 0 [.ref he, .int 1, .int (nI 16), .ref jk, .ref jn, .ref jt, .int (nI 32), .ref jr], hcBa D jr 16 (hcXo σ (fun _ => 0) 0 0), hcIa D jx 16 (upd (upd (fun _ => 0) 0 130) 1 0)] := hD
  refine lv_dup hx hb dX0_known_93 rfl ?_
  refine lv_iconst (v := 2) hx hb dX0_known_94 (by decide) ?_
  refine lv_bipush (v := 21) hx hb dX0_known_95 (by decide) ?_
  refine hc_iast (k := 2) hx hb hK hP hD hS 2 0 rfl rfl (by decide) (by decide) dX0_known_97 (fun H locs hP hD hS => ?_)
  have hP : va_P D vwCl [hcOb dk 0 [.ref he, .int 1, .int (nI 16), .ref jk, .ref jn, .ref jt, .int (nI 32), .ref jr], hcBa D jr 16 (hcXo σ (fun _ => 0) 0 0), hcIa D jx 16 (upd (upd (upd (fun _ => 0) 0 130) 1 0) 2 21)] H := hP
  have hD : va_D A [hcOb dk 0 [.ref he, .int 1, .int (nI 16), .ref jk, .ref jn, .ref jt, .int (nI 32), .ref jr], hcBa D jr 16 (hcXo σ (fun _ => 0) 0 0), hcIa D jx 16 (upd (upd (upd (fun _ => 0) 0 130) 1 0) 2 21)] := hD
  refine lv_dup hx hb dX0_known_98 rfl ?_
  refine lv_iconst (v := 3) hx hb dX0_known_99 (by decide) ?_
  refine lv_bipush (v := 115) hx hb dX0_known_100 (by decide) ?_
  refine hc_iast (k := 3) hx hb hK hP hD hS 2 0 rfl rfl (by decide) (by decide) dX0_known_102 (fun H locs hP hD hS => ?_)
  have hP : va_P D vwCl [hcOb dk 0 [.ref he, .int 1, .int (nI 16), .ref jk, .ref jn, .ref jt, .int (nI 32), .ref jr], hcBa D jr 16 (hcXo σ (fun _ => 0) 0 0), hcIa D jx 16 (upd (upd (upd (upd (fun _ => 0) 0 130) 1 0) 2 21) 3 115)] H := hP
  have hD : va_D A [hcOb dk 0 [.ref he, .int 1, .int (nI 16), .ref jk, .ref jn, .ref jt, .int (nI 32), .ref jr], hcBa D jr 16 (hcXo σ (fun _ => 0) 0 0), hcIa D jx 16 (upd (upd (upd (upd (fun _ => 0) 0 130) 1 0) 2 21) 3 115)] := hD
  refine lv_dup hx hb dX0_known_103 rfl ?_
  refine lv_iconst (v := 4) hx hb dX0_known_104 (by decide) ?_
  refine lv_sipush (v := 160) hx hb dX0_known_105 (by decide) ?_
  refine hc_iast (k := 4) hx hb hK hP hD hS 2 0 rfl rfl (by decide) (by decide) dX0_known_108 (fun H locs hP hD hS => ?_)
  have hP : va_P D vwCl [hcOb dk 0 [.ref he, .int 1, .int (nI 16), .ref jk, .ref jn, .ref jt, .int (nI 32), .ref jr], hcBa D jr 16 (hcXo σ (fun _ => 0) 0 0), hcIa D jx 16 (upd (upd (upd (upd (upd (fun _ => 0) 0 130) 1 0) 2 21) 3 115) 4 160)] H := hP
  have hD : va_D A [hcOb dk 0 [.ref he, .int 1, .int (nI 16), .ref jk, .ref jn, .ref jt, .int (nI 32), .ref jr], hcBa D jr 16 (hcXo σ (fun _ => 0) 0 0), hcIa D jx 16 (upd (upd (upd (upd (upd (fun _ => 0) 0 130) 1 0) 2 21) 3 115) 4 160)] := hD
  refine lv_dup hx hb dX0_known_109 rfl ?_
  refine lv_iconst (v := 5) hx hb dX0_known_110 (by decide) ?_
  refine lv_iconst (v := 3) hx hb dX0_known_111 (by decide) ?_
  refine hc_iast (k := 5) hx hb hK hP hD hS 2 0 rfl rfl (by decide) (by decide) dX0_known_112 (fun H locs hP hD hS => ?_)
  have hP : va_P D vwCl [hcOb dk 0 [.ref he, .int 1, .int (nI 16), .ref jk, .ref jn, .ref jt, .int (nI 32), .ref jr], hcBa D jr 16 (hcXo σ (fun _ => 0) 0 0), hcIa D jx 16 (upd (upd (upd (upd (upd (upd (fun _ => 0) 0 130) 1 0) 2 21) 3 115) 4 160) 5 3)] H := hP
  have hD : va_D A [hcOb dk 0 [.ref he, .int 1, .int (nI 16), .ref jk, .ref jn, .ref jt, .int (nI 32), .ref jr], hcBa D jr 16 (hcXo σ (fun _ => 0) 0 0), hcIa D jx 16 (upd (upd (upd (upd (upd (upd (fun _ => 0) 0 130) 1 0) 2 21) 3 115) 4 160) 5 3)] := hD
  refine lv_dup hx hb dX0_known_113 rfl ?_
  refine lv_bipush (v := 6) hx hb dX0_known_114 (by decide) ?_
  refine lv_sipush (v := 253) hx hb dX0_known_116 (by decide) ?_
  refine hc_iast (k := 6) hx hb hK hP hD hS 2 0 rfl rfl (by decide) (by decide) dX0_known_119 (fun H locs hP hD hS => ?_)
  have hP : va_P D vwCl [hcOb dk 0 [.ref he, .int 1, .int (nI 16), .ref jk, .ref jn, .ref jt, .int (nI 32), .ref jr], hcBa D jr 16 (hcXo σ (fun _ => 0) 0 0), hcIa D jx 16 (upd (upd (upd (upd (upd (upd (upd (fun _ => 0) 0 130) 1 0) 2 21) 3 115) 4 160) 5 3) 6 253)] H := hP
  have hD : va_D A [hcOb dk 0 [.ref he, .int 1, .int (nI 16), .ref jk, .ref jn, .ref jt, .int (nI 32), .ref jr], hcBa D jr 16 (hcXo σ (fun _ => 0) 0 0), hcIa D jx 16 (upd (upd (upd (upd (upd (upd (upd (fun _ => 0) 0 130) 1 0) 2 21) 3 115) 4 160) 5 3) 6 253)] := hD
  refine lv_dup hx hb dX0_known_120 rfl ?_
  refine lv_bipush (v := 7) hx hb dX0_known_121 (by decide) ?_
  refine lv_bipush (v := 59) hx hb dX0_known_123 (by decide) ?_
  refine hc_iast (k := 7) hx hb hK hP hD hS 2 0 rfl rfl (by decide) (by decide) dX0_known_125 (fun H locs hP hD hS => ?_)
  have hP : va_P D vwCl [hcOb dk 0 [.ref he, .int 1, .int (nI 16), .ref jk, .ref jn, .ref jt, .int (nI 32), .ref jr], hcBa D jr 16 (hcXo σ (fun _ => 0) 0 0), hcIa D jx 16 (upd (upd (upd (upd (upd (upd (upd (upd (fun _ => 0) 0 130) 1 0) 2 21) 3 115) 4 160) 5 3) 6 253) 7 59)] H := hP
  have hD : va_D A [hcOb dk 0 [.ref he, .int 1, .int (nI 16), .ref jk, .ref jn, .ref jt, .int (nI 32), .ref jr], hcBa D jr 16 (hcXo σ (fun _ => 0) 0 0), hcIa D jx 16 (upd (upd (upd (upd (upd (upd (upd (upd (fun _ => 0) 0 130) 1 0) 2 21) 3 115) 4 160) 5 3) 6 253) 7 59)] := hD
  refine lv_dup hx hb dX0_known_126 rfl ?_
  refine lv_bipush (v := 8) hx hb dX0_known_127 (by decide) ?_
  refine lv_bipush (v := 127) hx hb dX0_known_129 (by decide) ?_
  refine hc_iast (k := 8) hx hb hK hP hD hS 2 0 rfl rfl (by decide) (by decide) dX0_known_131 (fun H locs hP hD hS => ?_)
  have hP : va_P D vwCl [hcOb dk 0 [.ref he, .int 1, .int (nI 16), .ref jk, .ref jn, .ref jt, .int (nI 32), .ref jr], hcBa D jr 16 (hcXo σ (fun _ => 0) 0 0), hcIa D jx 16 (upd (upd (upd (upd (upd (upd (upd (upd (upd (fun _ => 0) 0 130) 1 0) 2 21) 3 115) 4 160) 5 3) 6 253) 7 59) 8 127)] H := hP
  have hD : va_D A [hcOb dk 0 [.ref he, .int 1, .int (nI 16), .ref jk, .ref jn, .ref jt, .int (nI 32), .ref jr], hcBa D jr 16 (hcXo σ (fun _ => 0) 0 0), hcIa D jx 16 (upd (upd (upd (upd (upd (upd (upd (upd (upd (fun _ => 0) 0 130) 1 0) 2 21) 3 115) 4 160) 5 3) 6 253) 7 59) 8 127)] := hD
  refine lv_dup hx hb dX0_known_132 rfl ?_
  refine lv_bipush (v := 9) hx hb dX0_known_133 (by decide) ?_
  refine lv_sipush (v := 215) hx hb dX0_known_135 (by decide) ?_
  refine hc_iast (k := 9) hx hb hK hP hD hS 2 0 rfl rfl (by decide) (by decide) dX0_known_138 (fun H locs hP hD hS => ?_)
  have hP : va_P D vwCl [hcOb dk 0 [.ref he, .int 1, .int (nI 16), .ref jk, .ref jn, .ref jt, .int (nI 32), .ref jr], hcBa D jr 16 (hcXo σ (fun _ => 0) 0 0), hcIa D jx 16 (upd (upd (upd (upd (upd (upd (upd (upd (upd (upd (fun _ => 0) 0 130) 1 0) 2 21) 3 115) 4 160) 5 3) 6 253) 7 59) 8 127) 9 215)] H := hP
  have hD : va_D A [hcOb dk 0 [.ref he, .int 1, .int (nI 16), .ref jk, .ref jn, .ref jt, .int (nI 32), .ref jr], hcBa D jr 16 (hcXo σ (fun _ => 0) 0 0), hcIa D jx 16 (upd (upd (upd (upd (upd (upd (upd (upd (upd (upd (fun _ => 0) 0 130) 1 0) 2 21) 3 115) 4 160) 5 3) 6 253) 7 59) 8 127) 9 215)] := hD
  refine lv_dup hx hb dX0_known_139 rfl ?_
  refine lv_bipush (v := 10) hx hb dX0_known_140 (by decide) ?_
  refine lv_bipush (v := 47) hx hb dX0_known_142 (by decide) ?_
  refine hc_iast (k := 10) hx hb hK hP hD hS 2 0 rfl rfl (by decide) (by decide) dX0_known_144 (fun H locs hP hD hS => ?_)
  have hP : va_P D vwCl [hcOb dk 0 [.ref he, .int 1, .int (nI 16), .ref jk, .ref jn, .ref jt, .int (nI 32), .ref jr], hcBa D jr 16 (hcXo σ (fun _ => 0) 0 0), hcIa D jx 16 (upd (upd (upd (upd (upd (upd (upd (upd (upd (upd (upd (fun _ => 0) 0 130) 1 0) 2 21) 3 115) 4 160) 5 3) 6 253) 7 59) 8 127) 9 215) 10 47)] H := hP
  have hD : va_D A [hcOb dk 0 [.ref he, .int 1, .int (nI 16), .ref jk, .ref jn, .ref jt, .int (nI 32), .ref jr], hcBa D jr 16 (hcXo σ (fun _ => 0) 0 0), hcIa D jx 16 (upd (upd (upd (upd (upd (upd (upd (upd (upd (upd (upd (fun _ => 0) 0 130) 1 0) 2 21) 3 115) 4 160) 5 3) 6 253) 7 59) 8 127) 9 215) 10 47)] := hD
  refine lv_dup hx hb dX0_known_145 rfl ?_
  refine lv_bipush (v := 11) hx hb dX0_known_146 (by decide) ?_
  refine lv_sipush (v := 251) hx hb dX0_known_148 (by decide) ?_
  refine hc_iast (k := 11) hx hb hK hP hD hS 2 0 rfl rfl (by decide) (by decide) dX0_known_151 (fun H locs hP hD hS => ?_)
  have hP : va_P D vwCl [hcOb dk 0 [.ref he, .int 1, .int (nI 16), .ref jk, .ref jn, .ref jt, .int (nI 32), .ref jr], hcBa D jr 16 (hcXo σ (fun _ => 0) 0 0), hcIa D jx 16 (upd (upd (upd (upd (upd (upd (upd (upd (upd (upd (upd (upd (fun _ => 0) 0 130) 1 0) 2 21) 3 115) 4 160) 5 3) 6 253) 7 59) 8 127) 9 215) 10 47) 11 251)] H := hP
  have hD : va_D A [hcOb dk 0 [.ref he, .int 1, .int (nI 16), .ref jk, .ref jn, .ref jt, .int (nI 32), .ref jr], hcBa D jr 16 (hcXo σ (fun _ => 0) 0 0), hcIa D jx 16 (upd (upd (upd (upd (upd (upd (upd (upd (upd (upd (upd (upd (fun _ => 0) 0 130) 1 0) 2 21) 3 115) 4 160) 5 3) 6 253) 7 59) 8 127) 9 215) 10 47) 11 251)] := hD
  refine lv_dup hx hb dX0_known_152 rfl ?_
  refine lv_bipush (v := 12) hx hb dX0_known_153 (by decide) ?_
  refine lv_bipush (v := 14) hx hb dX0_known_155 (by decide) ?_
  refine hc_iast (k := 12) hx hb hK hP hD hS 2 0 rfl rfl (by decide) (by decide) dX0_known_157 (fun H locs hP hD hS => ?_)
  have hP : va_P D vwCl [hcOb dk 0 [.ref he, .int 1, .int (nI 16), .ref jk, .ref jn, .ref jt, .int (nI 32), .ref jr], hcBa D jr 16 (hcXo σ (fun _ => 0) 0 0), hcIa D jx 16 (upd (upd (upd (upd (upd (upd (upd (upd (upd (upd (upd (upd (upd (fun _ => 0) 0 130) 1 0) 2 21) 3 115) 4 160) 5 3) 6 253) 7 59) 8 127) 9 215) 10 47) 11 251) 12 14)] H := hP
  have hD : va_D A [hcOb dk 0 [.ref he, .int 1, .int (nI 16), .ref jk, .ref jn, .ref jt, .int (nI 32), .ref jr], hcBa D jr 16 (hcXo σ (fun _ => 0) 0 0), hcIa D jx 16 (upd (upd (upd (upd (upd (upd (upd (upd (upd (upd (upd (upd (upd (fun _ => 0) 0 130) 1 0) 2 21) 3 115) 4 160) 5 3) 6 253) 7 59) 8 127) 9 215) 10 47) 11 251) 12 14)] := hD
  refine lv_dup hx hb dX0_known_158 rfl ?_
  refine lv_bipush (v := 13) hx hb dX0_known_159 (by decide) ?_
  refine lv_sipush (v := 175) hx hb dX0_known_161 (by decide) ?_
  refine hc_iast (k := 13) hx hb hK hP hD hS 2 0 rfl rfl (by decide) (by decide) dX0_known_164 (fun H locs hP hD hS => ?_)
  have hP : va_P D vwCl [hcOb dk 0 [.ref he, .int 1, .int (nI 16), .ref jk, .ref jn, .ref jt, .int (nI 32), .ref jr], hcBa D jr 16 (hcXo σ (fun _ => 0) 0 0), hcIa D jx 16 (upd (upd (upd (upd (upd (upd (upd (upd (upd (upd (upd (upd (upd (upd (fun _ => 0) 0 130) 1 0) 2 21) 3 115) 4 160) 5 3) 6 253) 7 59) 8 127) 9 215) 10 47) 11 251) 12 14) 13 175)] H := hP
  have hD : va_D A [hcOb dk 0 [.ref he, .int 1, .int (nI 16), .ref jk, .ref jn, .ref jt, .int (nI 32), .ref jr], hcBa D jr 16 (hcXo σ (fun _ => 0) 0 0), hcIa D jx 16 (upd (upd (upd (upd (upd (upd (upd (upd (upd (upd (upd (upd (upd (upd (fun _ => 0) 0 130) 1 0) 2 21) 3 115) 4 160) 5 3) 6 253) 7 59) 8 127) 9 215) 10 47) 11 251) 12 14) 13 175)] := hD
  refine lv_dup hx hb dX0_known_165 rfl ?_
  refine lv_bipush (v := 14) hx hb dX0_known_166 (by decide) ?_
  refine lv_bipush (v := 99) hx hb dX0_known_168 (by decide) ?_
  refine hc_iast (k := 14) hx hb hK hP hD hS 2 0 rfl rfl (by decide) (by decide) dX0_known_170 (fun H locs hP hD hS => ?_)
  have hP : va_P D vwCl [hcOb dk 0 [.ref he, .int 1, .int (nI 16), .ref jk, .ref jn, .ref jt, .int (nI 32), .ref jr], hcBa D jr 16 (hcXo σ (fun _ => 0) 0 0), hcIa D jx 16 (upd (upd (upd (upd (upd (upd (upd (upd (upd (upd (upd (upd (upd (upd (upd (fun _ => 0) 0 130) 1 0) 2 21) 3 115) 4 160) 5 3) 6 253) 7 59) 8 127) 9 215) 10 47) 11 251) 12 14) 13 175) 14 99)] H := hP
  have hD : va_D A [hcOb dk 0 [.ref he, .int 1, .int (nI 16), .ref jk, .ref jn, .ref jt, .int (nI 32), .ref jr], hcBa D jr 16 (hcXo σ (fun _ => 0) 0 0), hcIa D jx 16 (upd (upd (upd (upd (upd (upd (upd (upd (upd (upd (upd (upd (upd (upd (upd (fun _ => 0) 0 130) 1 0) 2 21) 3 115) 4 160) 5 3) 6 253) 7 59) 8 127) 9 215) 10 47) 11 251) 12 14) 13 175) 14 99)] := hD
  refine lv_dup hx hb dX0_known_171 rfl ?_
  refine lv_bipush (v := 15) hx hb dX0_known_172 (by decide) ?_
  refine lv_sipush (v := 170) hx hb dX0_known_174 (by decide) ?_
  refine hc_iast (k := 15) hx hb hK hP hD hS 2 0 rfl rfl (by decide) (by decide) dX0_known_177 (fun H locs hP hD hS => ?_)
  have hP : va_P D vwCl [hcOb dk 0 [.ref he, .int 1, .int (nI 16), .ref jk, .ref jn, .ref jt, .int (nI 32), .ref jr], hcBa D jr 16 (hcXo σ (fun _ => 0) 0 0), hcIa D jx 16 (upd (upd (upd (upd (upd (upd (upd (upd (upd (upd (upd (upd (upd (upd (upd (upd (fun _ => 0) 0 130) 1 0) 2 21) 3 115) 4 160) 5 3) 6 253) 7 59) 8 127) 9 215) 10 47) 11 251) 12 14) 13 175) 14 99) 15 170)] H := hP
  have hD : va_D A [hcOb dk 0 [.ref he, .int 1, .int (nI 16), .ref jk, .ref jn, .ref jt, .int (nI 32), .ref jr], hcBa D jr 16 (hcXo σ (fun _ => 0) 0 0), hcIa D jx 16 (upd (upd (upd (upd (upd (upd (upd (upd (upd (upd (upd (upd (upd (upd (upd (upd (fun _ => 0) 0 130) 1 0) 2 21) 3 115) 4 160) 5 3) 6 253) 7 59) 8 127) 9 215) 10 47) 11 251) 12 14) 13 175) 14 99) 15 170)] := hD
  have hD := hc_reD hD 2 (hcKn) rfl
  have hP := hc_re hP 2 (hcKn) rfl (by decide)
  have hP : va_P D vwCl [hcOb dk 0 [.ref he, .int 1, .int (nI 16), .ref jk, .ref jn, .ref jt, .int (nI 32), .ref jr], hcBa D jr 16 (hcXo σ (fun _ => 0) 0 0), hcIa D jx 16 hcKn] H := hP
  have hD : va_D A [hcOb dk 0 [.ref he, .int 1, .int (nI 16), .ref jk, .ref jn, .ref jt, .int (nI 32), .ref jr], hcBa D jr 16 (hcXo σ (fun _ => 0) 0 0), hcIa D jx 16 hcKn] := hD
  refine lv_astore_n (lv' := [(1, .ref jx), (0, .ref dk)]) hx hb dX0_known_178 rfl hl (by decide) rfl (fun ls hl => ?_)
  refine lv_iconst (v := 0) hx hb dX0_known_179 (by decide) ?_
  refine lv_istore_n (lv' := [(2, .int 0), (1, .ref jx), (0, .ref dk)]) hx hb dX0_known_180 rfl hl (by decide) rfl (fun ls hl => ?_)
  have L1 : ∀ (d i : Nat) (ls : Array Slot), i + d = 16 → lv_has ls 3 [(2, .int (nI i)), (1, .ref jx), (0, .ref dk)] → W p l e (hcRm 6 138 22 4019) s m args below meth c H locs (21 + 1) (4003 + 16) (MQ below (va_Qi (fun (r : Int32) (_ : Unit) => r = 1) (hcWA D A (fun _ => [])) A) args s 22 4019 A) (F0 m 181 ls []) := by
    intro d
    induction d with
    | zero =>
      intro i ls hi hl
      obtain rfl : i = 16 := by omega
      refine lv_iload_n hx hb dX0_known_181 rfl (lv_at hl 0 rfl) ?_
      refine lv_bipush (v := 16) hx hb dX0_known_182 (by decide) ?_
      refine lv_icmp_ge (tgt := 206) hx hb dX0_known_184 (by decide) (fun _ => ?_) (fun hc => absurd (nI_le (a := 16) (b := 16) (Nat.le_refl _) (by omega)) hc)
      refine lv_iconst (v := 1) hx hb dX0_known_206 (by decide) ?_
      exact hc_iret (()) hx hb hr hlk (rfl) (rfl) hP hD [] (by decide) rfl hS (Nat.le_of_ble_eq_true rfl) (Nat.le_of_ble_eq_true rfl) dX0_known_207
    | succ d ih =>
      intro i ls hi hl
      have hlt : i < 16 := by omega
      refine lv_iload_n hx hb dX0_known_181 rfl (lv_at hl 0 rfl) ?_
      refine lv_bipush (v := 16) hx hb dX0_known_182 (by decide) ?_
      refine lv_icmp_ge (tgt := 206) hx hb dX0_known_184 (by decide) (fun hc => absurd hc (nI_ge (a := i) (b := 16) hlt (by omega))) (fun _ => ?_)
      refine lv_aload_n hx hb dX0_known_187 rfl (lv_at hl 2 rfl) ?_
      refine lv_iload_n hx hb dX0_known_188 rfl (lv_at hl 0 rfl) ?_
      refine hc_oV (met_out l D dk jk jn jt (.ref he) (.int 1) (.int (nI 16)) (.int (nI 32)) jr 16 i (hcXo σ (fun _ => 0) 0 0) hlt (by decide)) ⟨hx, hb, hml, hown, hts⟩ (cwV 1 hts (lw_V q237 q238 q239 q11 q240) rfl rfl rfl (by decide +kernel) ⟨Nat.le_of_ble_eq_true rfl, Nat.le_of_ble_eq_true rfl⟩) hcBl_no (hc_no _ _) hK hP hD [0, 1] (by decide) rfl 0 (ci := 0) rfl rfl rfl rfl hl.1 rfl (Nat.le_of_ble_eq_true rfl) dX0_known_189 ⟨Nat.le_of_ble_eq_true rfl, Nat.le_of_ble_eq_true rfl⟩ ?_
      refine lv_aload_n hx hb dX0_known_192 rfl (lv_at hl 1 rfl) ?_
      refine lv_iload_n hx hb dX0_known_193 rfl (lv_at hl 0 rfl) ?_
      refine hc_iald (k := i) hx hb hK hP 2 0 rfl rfl (hlt) (by decide) dX0_known_194 ?_
      refine lv_icmp_eq (tgt := 200) hx hb dX0_known_195 (by decide) (fun _ => ?_) (fun hc => absurd (hkn i hlt) hc)
      refine lv_iinc (v := nI (i + 1)) (lv' := [(2, .int (nI (i + 1))), (1, .ref jx), (0, .ref dk)]) hx hb dX0_known_200 hl (k := 0) rfl (nI_1 i) (by decide) rfl (fun ls hl => ?_)
      refine lv_goto (tgt := 181) hx hb dX0_known_203 (by decide) ?_
      exact ih (i + 1) ls (by omega) hl
  exact L1 16 0 ls rfl (lv_sub hl [0, 1, 2] rfl)
end
section
/-! the published beginning, computed: the same cipher over one great number (a table is a stretch of it, 32 bits a word), and that it does the same -/
set_option maxRecDepth 100000
def tn (x : Int32) : Nat := x.toBitVec.toNat
theorem tn_lt (x : Int32) : tn x < 4294967296 := x.toBitVec.isLt
def nG (N i : Nat) : Nat := (N >>> (32 * i)) % 4294967296
def nS (N i v : Nat) : Nat := N ^^^ ((nG N i ^^^ v) <<< (32 * i))
theorem nG_lt (N i : Nat) : nG N i < 4294967296 := Nat.mod_lt _ (by decide)
theorem nG_bit (N i k : Nat) : (nG N i).testBit k = (decide (k < 32) && N.testBit (32 * i + k)) := by
  unfold nG
  rw [show (4294967296 : Nat) = 2 ^ 32 from rfl, Nat.testBit_mod_two_pow, Nat.testBit_shiftRight]
theorem n_hi {v k : Nat} (hv : v < 4294967296) (hk : 32 ≤ k) : v.testBit k = false :=
  Nat.testBit_lt_two_pow (Nat.lt_of_lt_of_le (show v < 2 ^ 32 from hv) (Nat.pow_le_pow_right (by decide) hk))
theorem nG_S {N i v : Nat} (hv : v < 4294967296) : nG (nS N i v) i = v := by
  apply Nat.eq_of_testBit_eq
  intro k
  rw [nG_bit]
  unfold nS
  rw [Nat.testBit_xor, Nat.testBit_shiftLeft, Nat.testBit_xor, nG_bit]
  rcases Nat.lt_or_ge k 32 with h | h
  · rw [Nat.add_sub_cancel_left, decide_eq_true h, decide_eq_true (Nat.le_add_right (32 * i) k)]
    cases N.testBit (32 * i + k) <;> cases v.testBit k <;> rfl
  · rw [n_hi hv h, decide_eq_false (Nat.not_lt.mpr h), Bool.false_and]
theorem nG_N {N i j v : Nat} (hv : v < 4294967296) (hj : j ≠ i) : nG (nS N i v) j = nG N j := by
  apply Nat.eq_of_testBit_eq
  intro k
  rw [nG_bit, nG_bit]
  rcases Nat.lt_or_ge k 32 with h | h
  · congr 1
    unfold nS
    rw [Nat.testBit_xor, Nat.testBit_shiftLeft, Nat.testBit_xor]
    rcases Nat.lt_or_ge j i with q | q
    · rw [decide_eq_false (by omega), Bool.false_and, Bool.xor_false]
    · have hk : 32 ≤ 32 * j + k - 32 * i := by omega
      rw [n_hi (nG_lt N i) hk, n_hi hv hk, Bool.xor_false, Bool.and_false, Bool.xor_false]
  · rw [decide_eq_false (Nat.not_lt.mpr h), Bool.false_and, Bool.false_and]
/-! a word's work -/
def nRr (x a b : Nat) : Nat := (x >>> a) ||| ((x <<< b) % 4294967296)
def nRl (x a b : Nat) : Nat := ((x <<< a) % 4294967296) ||| (x >>> b)
def nF1 (x : Nat) : Nat := (nRr x 7 25 ^^^ nRr x 18 14) ^^^ (x >>> 3)
def nF2 (x : Nat) : Nat := (nRr x 17 15 ^^^ nRr x 19 13) ^^^ (x >>> 10)
def nG1 (x y z : Nat) : Nat := ((nRr x 10 22 ^^^ nRr z 23 9) + nRr y 8 24) % 4294967296
def nG2 (x y z : Nat) : Nat := ((nRl x 10 22 ^^^ nRl z 23 9) + nRl y 8 24) % 4294967296
theorem tn_xor (x y : Int32) : tn (x ^^^ y) = tn x ^^^ tn y := by unfold tn; rw [Int32.toBitVec_xor, BitVec.toNat_xor]
theorem tn_or (x y : Int32) : tn (x ||| y) = tn x ||| tn y := by unfold tn; rw [Int32.toBitVec_or, BitVec.toNat_or]
theorem tn_add (x y : Int32) : tn (x + y) = (tn x + tn y) % 4294967296 := by unfold tn; rw [Int32.toBitVec_add, BitVec.toNat_add]
theorem tn_nI {n : Nat} (h : n < 4294967296) : tn (nI n) = n := pk_tn h
theorem tn_ushr (x n : Int32) (a : Nat) (h : ((n.toUInt32 &&& Int32.toUInt32 31).toBitVec % 32).toNat = a) : tn ((x.toUInt32 >>> (n.toUInt32 &&& Int32.toUInt32 31)).toInt32) = tn x >>> a := by
  rw [Nat.shiftRight_eq_div_pow]
  exact pk_ushr x n a h
theorem tn_shl (x n : Int32) (a : Nat) (h : (n.toBitVec.smod 32).toNat = a) : tn (x <<< n) = (tn x <<< a) % 4294967296 := by
  rw [Nat.shiftLeft_eq]
  exact pk_shl x n a h
theorem tn_Rr (x n : Int32) (a b : Nat) (h1 : ((n.toUInt32 &&& Int32.toUInt32 31).toBitVec % 32).toNat = a) (h2 : (((-n) &&& 31).toBitVec.smod 32).toNat = b) : tn (hcRr x n) = nRr (tn x) a b := by
  unfold hcRr nRr
  rw [tn_or, tn_ushr x n a h1, tn_shl x _ b h2]
theorem tn_Rl (x n : Int32) (a b : Nat) (h1 : ((n &&& 31).toBitVec.smod 32).toNat = a) (h2 : (((-n).toUInt32 &&& Int32.toUInt32 31).toBitVec % 32).toNat = b) : tn (hcRl x n) = nRl (tn x) a b := by
  unfold hcRl nRl
  rw [tn_or, tn_ushr x _ b h2, tn_shl x _ a h1]
theorem tn_F1 (x : Int32) : tn (hcF1 x) = nF1 (tn x) := by
  unfold hcF1 nF1
  rw [tn_xor, tn_xor, tn_Rr x 7 7 25 (by decide) (by decide), tn_Rr x 18 18 14 (by decide) (by decide), tn_ushr x 3 3 (by decide)]
theorem tn_F2 (x : Int32) : tn (hcF2 x) = nF2 (tn x) := by
  unfold hcF2 nF2
  rw [tn_xor, tn_xor, tn_Rr x 17 17 15 (by decide) (by decide), tn_Rr x 19 19 13 (by decide) (by decide), tn_ushr x 10 10 (by decide)]
theorem tn_G1 (x y z : Int32) : tn (hcG1 x y z) = nG1 (tn x) (tn y) (tn z) := by
  unfold hcG1 nG1
  rw [tn_add, tn_xor, tn_Rr x 10 10 22 (by decide) (by decide), tn_Rr z 23 23 9 (by decide) (by decide), tn_Rr y 8 8 24 (by decide) (by decide)]
theorem tn_G2 (x y z : Int32) : tn (hcG2 x y z) = nG2 (tn x) (tn y) (tn z) := by
  unfold hcG2 nG2
  rw [tn_add, tn_xor, tn_Rl x 10 10 22 (by decide) (by decide), tn_Rl z 23 23 9 (by decide) (by decide), tn_Rl y 8 8 24 (by decide) (by decide)]
theorem tn_255 (x : Int32) : x &&& 255 = nI (tn x % 256) := pk_and x (m := 255) 8 (by decide)
theorem hc_s16 (x : Int32) : (x >>> ((16 : Int32) &&& 31)) &&& 255 = (x.toUInt32 >>> ((16 : Int32).toUInt32 &&& Int32.toUInt32 31)).toInt32 &&& 255 := by
  apply b_ext
  intro i hi
  have h1 := b_ushr 16 (by decide) x i
  have h2 := b_sshr 16 (by decide) x hi
  rw [b_and, b_and, b_255]
  rw [show bt ((x.toUInt32 >>> ((16 : Int32).toUInt32 &&& Int32.toUInt32 31)).toInt32) i = _ from h1, show bt (x >>> ((16 : Int32) &&& 31)) i = _ from h2]
  by_cases h8 : i < 8
  · rw [if_pos (by omega)]
  · rw [decide_eq_false h8, Bool.and_false, Bool.and_false]
theorem hcH_tn (f : Nat → Int32) (x : Int32) : hcH f x = f (tn x % 256) + f (tn x / 65536 % 256 + 256) := by
  unfold hcH
  have h1 : (x &&& 255).toNatClampNeg = tn x % 256 := by
    rw [tn_255]
    exact nI_clamp (Nat.lt_trans (Nat.mod_lt _ (by decide)) (by decide))
  have h2 : (((x >>> ((16 : Int32) &&& 31)) &&& 255) + 256).toNatClampNeg = tn x / 65536 % 256 + 256 := by
    rw [hc_s16, tn_255, tn_ushr x 16 16 (by decide), show (256 : Int32) = nI 256 from rfl, nI_add, Nat.shiftRight_eq_div_pow]
    exact nI_clamp (show tn x / 2 ^ 16 % 256 + 256 < 2 ^ 31 by omega)
  rw [h1, h2]
/-! a table and its stretch -/
def nR (F : Nat → Int32) (N o len : Nat) : Prop := ∀ i, i < len → tn (F i) = nG N (o + i)
theorem nR_upd {F : Nat → Int32} {N o len k v : Nat} {x : Int32} (h : nR F N o len) (hv : tn x = v) : nR (upd F k x) (nS N (o + k) v) o len := by
  intro i hi
  have hl : v < 4294967296 := by rw [← hv]; exact tn_lt x
  by_cases e : i = k
  · subst e
    rw [pk_us, nG_S hl]
    exact hv
  · rw [pk_un e, nG_N hl (by omega)]
    exact h i hi
theorem nR_oth {F : Nat → Int32} {N o len k v : Nat} (h : nR F N o len) (hv : v < 4294967296) (hk : k < o ∨ o + len ≤ k) : nR F (nS N k v) o len := by
  intro i hi
  rw [nG_N hv (by omega)]
  exact h i hi
/-- a number is worked out before it is handed on -/
def nfc (n : Nat) (k : Nat → Nat) : Nat := match n with
  | 0 => k 0
  | m + 1 => k (m + 1)
theorem nfc_eq (n : Nat) (k : Nat → Nat) : nfc n k = k n := by cases n <;> rfl
def nIt (f : Nat → Nat → Nat) : Nat → Nat → Nat → Nat
  | 0, _, s => s
  | n + 1, i, s => nfc (f i s) (fun t => nfc (i + 1) (fun j => nIt f n j t))
theorem nIt_last (f : Nat → Nat → Nat) : ∀ (n i s : Nat), nIt f (n + 1) i s = f (i + n) (nIt f n i s)
  | 0, i, s => by
    show nfc (f i s) (fun t => nfc (i + 1) (fun j => nIt f 0 j t)) = _
    rw [nfc_eq, nfc_eq]
    rfl
  | n + 1, i, s => by
    show nfc (f i s) (fun t => nfc (i + 1) (fun j => nIt f (n + 1) j t)) = f (i + (n + 1)) (nfc (f i s) (fun t => nfc (i + 1) (fun j => nIt f n j t)))
    rw [nfc_eq, nfc_eq, nfc_eq, nfc_eq, nIt_last f n]
    congr 1
    omega
/-! the expansion -/
def nW (i N : Nat) : Nat := nS N (i + 16) (((((nF2 (nG N (i + 14)) + nG N (i + 9)) % 4294967296 + nF1 (nG N (i + 1))) % 4294967296 + nG N i) % 4294967296 + (i + 16)) % 4294967296)
theorem nW_sim {f : Nat → Int32} {N0 : Nat} (h : nR f N0 0 1280) : ∀ n, n ≤ 1264 → nR (hcW2 f n) (nIt nW n 0 N0) 0 1280
  | 0, _ => h
  | n + 1, hn => by
    have ih := nW_sim h n (by omega)
    rw [nIt_last, Nat.zero_add]
    generalize nIt nW n 0 N0 = N at ih ⊢
    have e := fun k (hk : k < 1280) => (ih k hk).trans (by rw [Nat.zero_add])
    show nR (upd (hcW2 f n) (n + 16) _) (nS N (n + 16) _) 0 1280
    have h2 := nR_upd (k := n + 16) (x := hcF2 (hcW2 f n (n + 14)) + hcW2 f n (n + 9) + hcF1 (hcW2 f n (n + 1)) + hcW2 f n n + nI (n + 16)) ih rfl
    rw [Nat.zero_add, tn_add, tn_add, tn_add, tn_add, tn_F2, tn_F1, tn_nI (show n + 16 < 4294967296 by omega), e _ (by omega), e _ (by omega), e _ (by omega), e _ (by omega)] at h2
    exact h2
/-! a step: b is where the moving table lies, o the other -/
def nV (b : Nat) (G : Nat → Nat → Nat → Nat) (j N : Nat) : Nat := (nG N (b + j) + G (nG N (b + (j + 509) % 512)) (nG N (b + (j + 502) % 512)) (nG N (b + (j + 1) % 512))) % 4294967296
def nZ (b o j N1 v : Nat) : Nat := nfc (nG N1 (b + (j + 500) % 512)) fun x => ((nG N1 (o + x % 256) + nG N1 (o + (x / 65536 % 256 + 256))) % 4294967296) ^^^ v
def nFil (b o : Nat) (G : Nat → Nat → Nat → Nat) (j N : Nat) : Nat := nfc (nV b G j N) fun v => nfc (nS N (b + j) v) fun N1 => nS N1 (b + j) (nZ b o j N1 v)
theorem nV_sim {g : Int32 → Int32 → Int32 → Int32} {G : Nat → Nat → Nat → Nat} {P : Nat → Int32} {N b j : Nat} (hG : ∀ x y z, tn (g x y z) = G (tn x) (tn y) (tn z)) (hP : nR P N b 512) (hj : j < 512) : tn (hcU g P j j) = nV b G j N := by
  unfold hcU nV
  have hm : ∀ k, k % 512 < 512 := fun k => Nat.mod_lt k (by decide)
  rw [pk_us, tn_add, hG, hP j hj, hP _ (hm _), hP _ (hm _), hP _ (hm _)]
theorem nV_lt (b : Nat) (G : Nat → Nat → Nat → Nat) (j N : Nat) : nV b G j N < 4294967296 := Nat.mod_lt _ (by decide)
theorem nU_sim {g : Int32 → Int32 → Int32 → Int32} {G : Nat → Nat → Nat → Nat} {P : Nat → Int32} {N b j : Nat} (hG : ∀ x y z, tn (g x y z) = G (tn x) (tn y) (tn z)) (hP : nR P N b 512) (hj : j < 512) : nR (hcU g P j) (nS N (b + j) (nV b G j N)) b 512 := by
  have h1 := nV_sim hG hP hj
  unfold hcU at h1 ⊢
  rw [pk_us] at h1
  exact nR_upd hP h1
theorem nZ_sim {g : Int32 → Int32 → Int32 → Int32} {P Q : Nat → Int32} {N1 b o j v : Nat} (hU : nR (hcU g P j) N1 b 512) (hQ : nR Q N1 o 512) (hv : tn (hcU g P j j) = v) : tn (hcR g P Q j) = nZ b o j N1 v := by
  unfold hcR nZ
  have hm : (j + 500) % 512 < 512 := Nat.mod_lt _ (by decide)
  have h256 : ∀ k, k % 256 < 256 := fun k => Nat.mod_lt k (by decide)
  rw [nfc_eq, tn_xor, hcH_tn, tn_add, hU _ hm, hv, hQ _ (Nat.lt_trans (h256 _) (by decide)), hQ _ (by have := h256 (nG N1 (b + (j + 500) % 512) / 65536); omega)]
theorem nFil_sim {g : Int32 → Int32 → Int32 → Int32} {G : Nat → Nat → Nat → Nat} {P Q : Nat → Int32} {N b o j : Nat} (hG : ∀ x y z, tn (g x y z) = G (tn x) (tn y) (tn z)) (hP : nR P N b 512) (hQ : nR Q N o 512) (hj : j < 512) (hbo : b + 512 ≤ o ∨ o + 512 ≤ b) : nR (upd (hcU g P j) j (hcR g P Q j)) (nFil b o G j N) b 512 ∧ nR Q (nFil b o G j N) o 512 := by
  unfold nFil
  rw [nfc_eq, nfc_eq]
  have hU := nU_sim hG hP hj
  have hQ1 := nR_oth (k := b + j) hQ (nV_lt b G j N) (by omega)
  have hZ := nZ_sim hU hQ1 (nV_sim hG hP hj)
  exact ⟨nR_upd hU hZ, nR_oth hQ1 (by rw [← hZ]; exact tn_lt _) (by omega)⟩
theorem nFp_sim {f : Nat → Int32} {N0 : Nat} (h : nR f N0 0 1280) : ∀ n, n ≤ 512 → nR (hcFp f n).1 (nIt (nFil 256 768 nG1) n 0 N0) 256 512 ∧ nR (hcFp f n).2.1 (nIt (nFil 256 768 nG1) n 0 N0) 768 512
  | 0, _ => ⟨fun i hi => (h (256 + i) (by omega)).trans (by rw [Nat.zero_add]; rfl), fun i hi => (h (768 + i) (by omega)).trans (by rw [Nat.zero_add]; rfl)⟩
  | n + 1, hn => by
    obtain ⟨h1, h2⟩ := nFp_sim h n (by omega)
    have hc := hcFp_c f n (by omega)
    rw [nIt_last, Nat.zero_add]
    generalize nIt (nFil 256 768 nG1) n 0 N0 = N at h1 h2 ⊢
    show nR (upd (hcNx (hcFp f n)).1 n (hcOw (hcFp f n))) _ _ _ ∧ nR (hcNx (hcFp f n)).2.1 _ _ _
    generalize hcFp f n = s at h1 h2 hc ⊢
    obtain ⟨P, Q, c⟩ := s
    have hc : c = n := hc
    subst hc
    have h5 : c < 512 := by omega
    rw [show hcNx (P, Q, c) = (hcU hcG1 P c, Q, (c + 1) % 1024) from if_pos h5, show hcOw (P, Q, c) = hcR hcG1 P Q c from if_pos h5]
    exact nFil_sim tn_G1 h1 h2 h5 (by omega)
theorem nFq_c (s : hcS) (h : s.2.2 = 512) : ∀ n, n < 512 → (hcFq s n).2.2 = 512 + n
  | 0, _ => h
  | n + 1, hn => by
    show (hcNx (hcFq s n)).2.2 = _
    rw [hcNx_c, nFq_c s h n (by omega)]
    omega
theorem nFq_sim {s0 : hcS} {N0 : Nat} (hc0 : s0.2.2 = 512) (hP : nR s0.1 N0 256 512) (hQ : nR s0.2.1 N0 768 512) : ∀ n, n ≤ 512 → nR (hcFq s0 n).1 (nIt (nFil 768 256 nG2) n 0 N0) 256 512 ∧ nR (hcFq s0 n).2.1 (nIt (nFil 768 256 nG2) n 0 N0) 768 512
  | 0, _ => ⟨hP, hQ⟩
  | n + 1, hn => by
    obtain ⟨h1, h2⟩ := nFq_sim hc0 hP hQ n (by omega)
    have hc := nFq_c s0 hc0 n (by omega)
    rw [nIt_last, Nat.zero_add]
    generalize nIt (nFil 768 256 nG2) n 0 N0 = N at h1 h2 ⊢
    show nR (hcNx (hcFq s0 n)).1 _ _ _ ∧ nR (upd (hcNx (hcFq s0 n)).2.1 n (hcOw (hcFq s0 n))) _ _ _
    generalize hcFq s0 n = s at h1 h2 hc ⊢
    obtain ⟨P, Q, c⟩ := s
    have hc : c = 512 + n := hc
    have h5 : ¬ c < 512 := by omega
    rw [show hcNx (P, Q, c) = (P, hcU hcG2 Q (c - 512), (c + 1) % 1024) from if_neg h5, show hcOw (P, Q, c) = hcR hcG2 Q P (c - 512) from if_neg h5, show c - 512 = n by omega]
    exact (nFil_sim tn_G2 h2 h1 (show n < 512 by omega) (by omega)).symm
/-! the zero key -/
theorem nz_upd (k : Nat) : upd (fun _ => (0 : Int32)) k 0 = fun _ => 0 := by
  funext j
  unfold upd
  split <;> rfl
theorem nz_W1 (o : Nat) : ∀ n, hcW1 (fun _ => 0) o (fun _ => 0) n = fun _ => 0
  | 0 => rfl
  | n + 1 => by
    show upd (hcW1 (fun _ => 0) o (fun _ => 0) n) (n / 4 + o) (hcW1 (fun _ => 0) o (fun _ => 0) n (n / 4 + o) ||| (((0 : Int32) &&& 255) <<< ((8 * (nI n &&& 3)) &&& 31))) = _
    rw [nz_W1 o n]
    have h0 : (0 : Int32) ||| (((0 : Int32) &&& 255) <<< ((8 * (nI n &&& 3)) &&& 31)) = 0 := by
      apply b_ext
      intro i hi
      obtain ⟨k, hk, e⟩ := pk_andE (8 * (nI n &&& 3)) (m := 31) 5 (by decide)
      have e2 : nI k = nI k &&& 31 := by
        rw [pk_andN (by omega) (m := 31) 5 (by decide), Nat.mod_eq_of_lt hk]
      rw [e, e2, b_or, b_shl k hk _ hi, b_and, b_0, b_0]
      simp
    show upd (fun _ => 0) _ ((0 : Int32) ||| _) = _
    rw [h0, nz_upd]
theorem nz_cpy (a b c : Nat) : va_cpy (fun _ => (0 : Int32)) (fun _ => 0) a b c = fun _ => 0 := by
  funext j
  unfold va_cpy
  split <;> rfl
theorem nz_Wb : hcWb (fun _ => 0) (fun _ => 0) = fun _ => 0 := by
  unfold hcWb hcWa
  rw [nz_W1, nz_cpy, nz_W1, nz_cpy]
/-! the first four words -/
def nNx (j N : Nat) : Nat := nfc (nV 256 nG1 j N) fun v => nS N (256 + j) v
def nOw (j N : Nat) : Nat := nfc (nV 256 nG1 j N) fun v => nfc (nS N (256 + j) v) fun N1 => nZ 256 768 j N1 v
theorem nOw_sim {P Q : Nat → Int32} {N j : Nat} (hP : nR P N 256 512) (hQ : nR Q N 768 512) (hj : j < 512) : tn (hcOw (P, Q, j)) = nOw j N ∧ nR (hcNx (P, Q, j)).1 (nNx j N) 256 512 ∧ nR (hcNx (P, Q, j)).2.1 (nNx j N) 768 512 ∧ (hcNx (P, Q, j)).2.2 = j + 1 := by
  unfold nOw nNx
  rw [nfc_eq, nfc_eq, nfc_eq, show hcNx (P, Q, j) = (hcU hcG1 P j, Q, (j + 1) % 1024) from if_pos hj, show hcOw (P, Q, j) = hcR hcG1 P Q j from if_pos hj]
  have hU := nU_sim tn_G1 hP hj
  have hQ1 := nR_oth (k := 256 + j) hQ (nV_lt 256 nG1 j N) (by omega)
  exact ⟨nZ_sim hU hQ1 (nV_sim tn_G1 hP hj), hU, hQ1, Nat.mod_eq_of_lt (by omega)⟩
def nEnd (N0 : Nat) : Nat := nfc (nNx 0 N0) fun N1 => nfc (nNx 1 N1) fun N2 => nfc (nNx 2 N2) fun N3 => nOw 0 N0 + nOw 1 N1 * 4294967296 + nOw 2 N2 * 18446744073709551616 + nOw 3 N3 * 79228162514264337593543950336
def nAll : Nat := nfc (nIt nW 1264 0 0) fun NW => nfc (nIt (nFil 256 768 nG1) 512 0 NW) fun NP => nfc (nIt (nFil 768 256 nG2) 512 0 NP) fun NQ => nEnd NQ
theorem nAll_is : nAll = 0xaa63af0efb2fd77f3bfd03a073150082 := by decide +kernel
theorem of_tn {x : Int32} {n : Nat} (h : tn x = n) : x = nI n := by
  apply Int32.toBitVec_inj.1
  show x.toBitVec = BitVec.ofNat 32 n
  rw [← h]
  exact (BitVec.ofNat_toNat 32 x.toBitVec).symm.trans (by simp [tn]) |>.symm.symm
theorem hc_four {σ : Nat → hcS} {P Q : Nat → Int32} {N : Nat} (h0 : σ 0 = (P, Q, 0)) (hσ : ∀ i, σ (i + 1) = hcNx (σ i)) (hP : nR P N 256 512) (hQ : nR Q N 768 512) :
    tn (hcOw (σ 0)) = nOw 0 N ∧ tn (hcOw (σ 1)) = nOw 1 (nNx 0 N) ∧ tn (hcOw (σ 2)) = nOw 2 (nNx 1 (nNx 0 N)) ∧ tn (hcOw (σ 3)) = nOw 3 (nNx 2 (nNx 1 (nNx 0 N))) := by
  obtain ⟨a0, b0, c0, d0⟩ := nOw_sim hP hQ (j := 0) (by decide)
  have e1 := hσ 0
  have e2 := hσ 1
  have e3 := hσ 2
  rw [h0] at e1
  generalize hcNx (P, Q, 0) = s1 at b0 c0 d0 e1
  obtain ⟨P1, Q1, k1⟩ := s1
  have d0 : k1 = 1 := d0
  subst d0
  obtain ⟨a1, b1, c1, d1⟩ := nOw_sim b0 c0 (j := 1) (by decide)
  rw [e1] at e2
  generalize hcNx (P1, Q1, 1) = s2 at b1 c1 d1 e2
  obtain ⟨P2, Q2, k2⟩ := s2
  have d1 : k2 = 2 := d1
  subst d1
  obtain ⟨a2, b2, c2, d2⟩ := nOw_sim b1 c1 (j := 2) (by decide)
  rw [e2] at e3
  generalize hcNx (P2, Q2, 2) = s3 at b2 c2 d2 e3
  obtain ⟨P3, Q3, k3⟩ := s3
  have d2 : k3 = 3 := d2
  subst d2
  obtain ⟨a3, -, -, -⟩ := nOw_sim b2 c2 (j := 3) (by decide)
  rw [h0, e1, e2, e3]
  exact ⟨a0, a1, a2, a3⟩
theorem nEnd_eq (N : Nat) : nEnd N = nOw 0 N + nOw 1 (nNx 0 N) * 4294967296 + nOw 2 (nNx 1 (nNx 0 N)) * 18446744073709551616 + nOw 3 (nNx 2 (nNx 1 (nNx 0 N))) * 79228162514264337593543950336 := by
  unfold nEnd
  rw [nfc_eq, nfc_eq, nfc_eq]
theorem nAll_eq : nAll = nEnd (nIt (nFil 768 256 nG2) 512 0 (nIt (nFil 256 768 nG1) 512 0 (nIt nW 1264 0 0))) := by
  unfold nAll
  rw [nfc_eq, nfc_eq, nfc_eq]
theorem nz_R : nR (fun _ => 0) 0 0 1280 := by
  intro i _
  unfold nG
  rw [Nat.zero_shiftRight]
  rfl
theorem nz_Wf : hcWf (fun _ => 0) (fun _ => 0) = hcW2 (fun _ => 0) 1264 := by
  unfold hcWf
  rw [nz_Wb]
/-- the tables behind the fillings, of any beginning that has its number -/
theorem nF_sim {f : Nat → Int32} {N0 : Nat} (h : nR f N0 0 1280) : nR (hcFq (hcFp f 512) 512).1 (nIt (nFil 768 256 nG2) 512 0 (nIt (nFil 256 768 nG1) 512 0 N0)) 256 512 ∧ nR (hcFq (hcFp f 512) 512).2.1 (nIt (nFil 768 256 nG2) 512 0 (nIt (nFil 256 768 nG1) 512 0 N0)) 768 512 := by
  obtain ⟨h1, h2⟩ := nFp_sim h 512 (Nat.le_refl _)
  have hc := hcFp_c f 512 (Nat.le_refl _)
  generalize hcFp f 512 = s at h1 h2 hc ⊢
  generalize nIt (nFil 256 768 nG1) 512 0 N0 = N1 at h1 h2 ⊢
  exact nFq_sim hc h1 h2 512 (Nat.le_refl _)
def hcZz (i : Nat) : Nat := [0x73150082, 0x3bfd03a0, 0xfb2fd77f, 0xaa63af0e].getD i 0
theorem hc_words {σ : Nat → hcS} (h : hcSeq (fun _ => 0) (fun _ => 0) σ) : ∀ k, k < 4 → hcOw (σ k) = nI (hcZz k) := by
  have hW : nR (hcWf (fun _ => 0) (fun _ => 0)) (nIt nW 1264 0 0) 0 1280 := by
    rw [nz_Wf]
    exact nW_sim nz_R 1264 (Nat.le_refl _)
  have hA := nAll_eq.symm.trans nAll_is
  generalize nIt nW 1264 0 0 = NW at hW hA
  have hF := nF_sim hW
  generalize nIt (nFil 768 256 nG2) 512 0 (nIt (nFil 256 768 nG1) 512 0 NW) = NQ at hF hA
  have hs : hcFf (fun _ => 0) (fun _ => 0) = hcFq (hcFp (hcWf (fun _ => 0) (fun _ => 0)) 512) 512 := by unfold hcFf; exact Eq.refl _
  generalize hcFq (hcFp (hcWf (fun _ => 0) (fun _ => 0)) 512) 512 = s at hF hs
  have h0 := h.1.trans (hcI0_e hs)
  obtain ⟨w0, w1, w2, w3⟩ := hc_four h0 h.2 hF.1 hF.2
  rw [nEnd_eq, ← w0, ← w1, ← w2, ← w3] at hA
  have l0 := tn_lt (hcOw (σ 0))
  have l1 := tn_lt (hcOw (σ 1))
  have l2 := tn_lt (hcOw (σ 2))
  have l3 := tn_lt (hcOw (σ 3))
  intro k hk
  apply of_tn
  rcases (show k = 0 ∨ k = 1 ∨ k = 2 ∨ k = 3 by omega) with rfl | rfl | rfl | rfl
  · show _ = 0x73150082
    omega
  · show _ = 0x3bfd03a0
    omega
  · show _ = 0xfb2fd77f
    omega
  · show _ = 0xaa63af0e
    omega
theorem hc_zz : ∀ i, i < 16 → hcSh (nI (hcZz (i / 4))) (i % 4) &&& 255 = hcKn i := by decide
theorem hc_stream {σ : Nat → hcS} (h : hcSeq (fun _ => 0) (fun _ => 0) σ) : ∀ i, i < 16 → hcXo σ (fun _ => 0) 0 0 i &&& 255 = hcKn i := by
  intro i hi
  rw [← hc_zz i hi, ← hc_words h (i / 4) (by omega)]
  unfold hcXo hcKs hcBy
  rw [bp_b, hc_x255, bp_b, hc_255i, Nat.zero_add, show ((0 : Int32) &&& 255) = 0 from by decide, Int32.zero_xor]
end
section
-- ===== end of PART A; then your names; then what follows =====
/-! THE CLAIM OUT OF ONE WALK OF THE LAW'S BODY. Your part is whole_start (and what it stands on); all else here is the same for every law, but numbers. -/
def R_law : String := "HcDeskLaw"
def lw_P (b : Addr) (xs : List Int32) (args : Array Value) (s : State) : Prop := args = #[.ref b] ∧ s.IntsAt b xs ∧ xs.length ≤ 64 ∧ (Jvm.Cond.and given_1 narrow_1).before args s = true
def lw_Q (_ : Array Value) (s : State) (o : Outcome) (t : State) : Prop := o = .returned (some (.int 1)) ∧ Framed s o t [] 600128 7301098
def lw_Z (below : List Frame) (a : Array Value) (s : State) : State → Prop := fun t => ∃ o, t.status = .running ∧ Ended t below o ∧ lw_Q a s o t
/-- the law's own end, with 1 on the stack, nothing written that was there before, its room as the claim has it -/
theorem lw_ret {p : Program} {l : Launch} {e : Env} {s : State} {m : MethodId} {below : List Frame} {meth : Method} {c : Code} {b : Nat} (hx : p.tables.exec = Jvm.exec) (hb : c.code = code) (hr : meth.sig.returnType = ret) (hlocks : meth.locks = false) {pc : Nat} {H : Heap} {ls : Array Slot} (hdg : decode code pc = .ok (.ireturn, 1)) : W p l e room_1 s m #[Value.ref b] below meth c H [] 600128 7301098 (lw_Z below #[Value.ref b] s) (F0 m pc ls [.int 1]) := by
  intro T hT X
  obtain ⟨fs, hret, hrun, hended, hW, hframe⟩ := X.leave (v := some (.int 1)) (hlocks := hlocks) (fun h => by rw [hr] at h; cases h)
  have hmeth' : T.vm.method? m = some meth := X.method'
  refine ⟨T.setFrames fs, ?_, .returned (some (.int 1)), hrun, hended, rfl, ⟨_, rfl⟩, hW, hframe⟩
  jvm_step X.here [X.here.top, hx, hb, hdg, hmeth', hr, ret, narrow_b1]
  (try refine ⟨rfl, ?_⟩); (try refine ⟨rfl, ?_⟩)
  first | (intro acts; rw [hret _ acts rfl rfl rfl]) | rw [hret _ _ rfl rfl rfl]
  exact Steps.refl _
/-- what holds at the law's entry: the machine, the code, the tables' words (any of lw_tbl by 'hts w (by decide +kernel)'), the script of L ints xs at the cell b, what the Statement gives of the start (any of its parts by flat_of_before) -/
def lw_At (p : Program) (s : State) (m : MethodId) (meth : Method) (c : Code) (b L : Nat) (xs : Nat → Int32) : Prop :=
  p.tables.exec = Jvm.exec ∧ c.code = code ∧ meth.sig.returnType = ret ∧ c.maxLocals = 10 ∧ s.vm.findClass R_law = some m.cls ∧ (∀ w ∈ lw_tbl, w.before #[Value.ref b] s = true) ∧ va_X b L xs s s.heap ∧ b < s.heap.size ∧ meth.locks = false ∧ (Jvm.Cond.and given_1 narrow_1).before #[Value.ref b] s = true
/-- the claim's classes, known at its start -/
theorem hc_known {s : State} {args : Array Value} (hts : ∀ w ∈ lw_all, w.before args s = true) : ∃ D : va_G, va_K D vwCl (hcT D) s := by
  obtain ⟨c0, iS0, hKn0⟩ := u_known (C := RX1) (T := TX1) (N := 8) (n := 8) hts in_X1 (hts _ q31)
  obtain ⟨c1, iS1, hKn1⟩ := u_known (C := RX2) (T := TX2) (N := 8) (n := 8) hts in_X2 (hts _ q153)
  obtain ⟨c2, iS2, hKn2⟩ := u_known (C := RX3) (T := TX3) (N := 2) (n := 2) hts in_X3 (hts _ q331)
  obtain ⟨c3, iS3, hKn3⟩ := u_known (C := RX4) (T := TX4) (N := 1) (n := 1) hts in_X4 (hts _ q333)
  obtain ⟨cI, kI, mI, fI1, fI2, fI3⟩ := Cond.arrayClass_spec (hts _ q236)
  obtain ⟨cB, kB, mB, fB1, fB2, fB3⟩ := Cond.arrayClass_spec (hts _ q112)
  refine ⟨(fun k => match k with | 0 => c0 | 1 => c1 | 2 => c2 | 3 => c3 | 4 => cI | _ => cB, fun k => match k with | 0 => iS0 | 1 => iS1 | 2 => iS2 | _ => iS3), fun k q hq => ?_, fun k q hq => ?_⟩
  · match k, hq with
    | 0, hq => cases hq; exact hKn0
    | 1, hq => cases hq; exact hKn1
    | 2, hq => cases hq; exact hKn2
    | 3, hq => cases hq; exact hKn3
    | k + 4, hq => simp [vwCl] at hq
  · match k, hq with
    | 0, hq => cases hq; exact ⟨fun n z => ⟨fun k h => (by cases h), kI, fI2, mI, fI3⟩, fI1⟩
    | 1, hq => cases hq; exact ⟨fun n z => ⟨fun k h => (by cases h), kB, fB2, mB, fB3⟩, fB1⟩
    | k + 2, hq => simp at hq
set_option maxHeartbeats 40000000 in
set_option maxRecDepth 100000 in
/-- THE LAW, from its entry -/
theorem whole_start {p : Program} {e : Env} {s : State} {m : MethodId} {below : List Frame} {meth : Method} {c : Code} (l : Launch) (hflags : l.flags = flags0) {b L : Nat} {xs : Nat → Int32} (hL : L ≤ 64) (C0 : lw_At p s m meth c b L xs) : W p l e room_1 s m #[Value.ref b] below meth c s.heap [] 0 0 (lw_Z below #[Value.ref b] s) (entryFrame m ([Value.ref b] : List Value).toArray 10) := by
  obtain ⟨hx, hb, hr, hml, hown, hts0, hX, hbl, hlk, hgv⟩ := C0
  have hown : s.vm.findClass RX0 = some m.cls := hown
  have hts : ∀ w ∈ lw_all, w.before #[Value.ref b] s = true := fun w h => hts0 w (lw_all_tbl h)
  obtain ⟨A, hAe⟩ : ∃ A : Nat → Prop, A = fun q : Nat => s.heap.size ≤ q := ⟨_, rfl⟩
  have hA : ∀ q : Nat, s.heap.size ≤ q → A q := by rw [hAe]; exact fun _ h => h
  have hA2 : ∀ q : Nat, A q → s.heap.size ≤ q := by rw [hAe]; exact fun _ h => h
  have hbA : ¬ A b := fun h => absurd hbl (Nat.not_lt.mpr (hA2 b h))
  obtain ⟨D, hK⟩ := hc_known hts
  have hP : va_P D vwCl [] s.heap := fun k q h => by simp at h
  have hD : va_D A [] := ⟨fun i j p q h => by simp at h, fun k q h => by simp at h⟩
  have hS : va_S A s.heap s.heap [] := va_S.rf
  have hl := lv_entry ([.ref b]) (n := 10) (Nat.le_of_ble_eq_true rfl)
  rw [lg_entry_eq]
  generalize (lg_sl ([.ref b]) ++ List.replicate (10 - (lg_sl ([.ref b])).length) Slot.unset).toArray = ls at hl ⊢
  have hl : lv_has ls 10 [(0, .ref b)] := hl
  obtain ⟨σ0, hσ0⟩ := hcSeq_ex (fun _ => 0) (fun _ => 0)
  obtain ⟨σ, hσ⟩ := hcSeq_ex (hcMk (hcCe L xs)) (hcMv (hcCe L xs))
  obtain ⟨sz, hsz⟩ : ∃ z : Nat, z = hcM (hcCe L xs 13) % 129 := ⟨_, rfl⟩
  have hs8 : sz ≤ 128 := by have := Nat.mod_lt (hcM (hcCe L xs 13)) (show 0 < 129 by decide); omega
  refine hc_iS (wr := []) (met_known l D σ0 hσ0 (hc_stream hσ0)) ⟨hx, hb, hml, hown, hts⟩ (va_cwS 0 hts (lw_S q383 q384 q10 q385) rfl rfl rfl (by decide +kernel) ⟨Nat.le_of_ble_eq_true rfl, Nat.le_of_ble_eq_true rfl⟩) hcBl_no (hc_no _ _) hK hP hD hS hA [] [] (by decide) rfl rfl (by decide) (by decide) rfl hl.1 rfl (Nat.le_of_ble_eq_true rfl) dL_law_0 ⟨Nat.le_of_ble_eq_true rfl, Nat.le_of_ble_eq_true rfl⟩ (fun r _ H locs hw hP hD hS => ?_)
  have hP : va_P D vwCl [] H := hP
  have hD : va_D A [] := hD
  subst hw
  refine lv_if_ne (tgt := 8) hx hb dL_law_3 (by decide) (fun _ => ?_) (fun hc => absurd hc (by decide))
  refine lv_aload_n hx hb dL_law_8 rfl (lv_at hl 0 rfl) ?_
  refine hc_rS (wr := []) (met_made l D b L xs σ hL hσ) ⟨hx, hb, hml, hown, hts⟩ (va_cwS 1 hts (lw_S q244 q245 q10 q246) rfl rfl rfl (by decide +kernel) ⟨Nat.le_of_ble_eq_true rfl, Nat.le_of_ble_eq_true rfl⟩) (hcBl_xs _ _ _) (hc_xs_of hX hbl hbA hS) hK hP hD hS hA [] [] (by decide) rfl rfl (by decide) (by decide) rfl hl.1 rfl (Nat.le_of_ble_eq_true rfl) dL_law_9 ⟨Nat.le_of_ble_eq_true rfl, Nat.le_of_ble_eq_true rfl⟩ (fun u H locs hw hP hD hS => ?_)
  obtain ⟨dk1, jt1, he1, hp1, hq1, hz1, hk1, hv1, jk1, jn1, jo1⟩ := u
  dsimp only at hP hD
  rw [← hsz] at hP hD
  have hP : va_P D vwCl [hcOb dk1 0 [.ref he1, .int 1, .int (nI 0), .ref jk1, .ref jn1, .ref jt1, .int (nI sz), .ref jo1], hcBa D jt1 256 (hcTx (hcCe L xs) 8), hcOb he1 1 [.ref hp1, .ref hq1, .int (nI (σ ((0 + 3) / 4)).2.2), .ref hk1, .ref hv1, .int 1, .ref hz1, .int (nI (0 % 4))], hcIa D hp1 512 (σ ((0 + 3) / 4)).1, hcIa D hq1 512 (σ ((0 + 3) / 4)).2.1, hcBa D hz1 4 (fun _ => 0), hcBa D hk1 16 (hcMk (hcCe L xs)), hcBa D hv1 16 (hcMv (hcCe L xs))] H := hP
  have hD : va_D A [hcOb dk1 0 [.ref he1, .int 1, .int (nI 0), .ref jk1, .ref jn1, .ref jt1, .int (nI sz), .ref jo1], hcBa D jt1 256 (hcTx (hcCe L xs) 8), hcOb he1 1 [.ref hp1, .ref hq1, .int (nI (σ ((0 + 3) / 4)).2.2), .ref hk1, .ref hv1, .int 1, .ref hz1, .int (nI (0 % 4))], hcIa D hp1 512 (σ ((0 + 3) / 4)).1, hcIa D hq1 512 (σ ((0 + 3) / 4)).2.1, hcBa D hz1 4 (fun _ => 0), hcBa D hk1 16 (hcMk (hcCe L xs)), hcBa D hv1 16 (hcMv (hcCe L xs))] := hD
  refine lv_astore_n (lv' := [(1, .ref dk1), (0, .ref b)]) hx hb dL_law_12 rfl hl (by decide) rfl (fun ls hl => ?_)
  refine lv_aload_n hx hb dL_law_13 rfl (lv_at hl 1 rfl) ?_
  refine hc_rS (wr := [hcOb dk1 0 [.ref he1, .int 1, .int (nI 0), .ref jk1, .ref jn1, .ref jt1, .int (nI sz), .ref jo1], hcBa D jt1 256 (hcTx (hcCe L xs) 8), hcOb he1 1 [.ref hp1, .ref hq1, .int (nI (σ ((0 + 3) / 4)).2.2), .ref hk1, .ref hv1, .int 1, .ref hz1, .int (nI (0 % 4))], hcIa D hp1 512 (σ ((0 + 3) / 4)).1, hcIa D hq1 512 (σ ((0 + 3) / 4)).2.1, hcBa D hz1 4 (fun _ => 0), hcBa D hk1 16 (hcMk (hcCe L xs)), hcBa D hv1 16 (hcMv (hcCe L xs))]) (met_made l D b L xs σ hL hσ) ⟨hx, hb, hml, hown, hts⟩ (va_cwS 1 hts (lw_S q244 q245 q10 q246) rfl rfl rfl (by decide +kernel) ⟨Nat.le_of_ble_eq_true rfl, Nat.le_of_ble_eq_true rfl⟩) (hcBl_xs _ _ _) (hc_xs_of hX hbl hbA hS) hK hP hD hS hA [] [0, 1, 2, 3, 4, 5, 6, 7] (by decide) rfl rfl (by decide) (by decide) rfl hl.1 rfl (Nat.le_of_ble_eq_true rfl) dL_law_14 ⟨Nat.le_of_ble_eq_true rfl, Nat.le_of_ble_eq_true rfl⟩ (fun u H locs hw hP hD hS => ?_)
  obtain ⟨dk2, jt2, he2, hp2, hq2, hz2, hk2, hv2, jk2, jn2, jo2⟩ := u
  dsimp only at hP hD
  rw [← hsz] at hP hD
  have hP : va_P D vwCl [hcOb dk1 0 [.ref he1, .int 1, .int (nI 0), .ref jk1, .ref jn1, .ref jt1, .int (nI sz), .ref jo1], hcBa D jt1 256 (hcTx (hcCe L xs) 8), hcOb he1 1 [.ref hp1, .ref hq1, .int (nI (σ ((0 + 3) / 4)).2.2), .ref hk1, .ref hv1, .int 1, .ref hz1, .int (nI (0 % 4))], hcIa D hp1 512 (σ ((0 + 3) / 4)).1, hcIa D hq1 512 (σ ((0 + 3) / 4)).2.1, hcBa D hz1 4 (fun _ => 0), hcBa D hk1 16 (hcMk (hcCe L xs)), hcBa D hv1 16 (hcMv (hcCe L xs)), hcOb dk2 0 [.ref he2, .int 1, .int (nI 0), .ref jk2, .ref jn2, .ref jt2, .int (nI sz), .ref jo2], hcBa D jt2 256 (hcTx (hcCe L xs) 8), hcOb he2 1 [.ref hp2, .ref hq2, .int (nI (σ ((0 + 3) / 4)).2.2), .ref hk2, .ref hv2, .int 1, .ref hz2, .int (nI (0 % 4))], hcIa D hp2 512 (σ ((0 + 3) / 4)).1, hcIa D hq2 512 (σ ((0 + 3) / 4)).2.1, hcBa D hz2 4 (fun _ => 0), hcBa D hk2 16 (hcMk (hcCe L xs)), hcBa D hv2 16 (hcMv (hcCe L xs))] H := hP
  have hD : va_D A [hcOb dk1 0 [.ref he1, .int 1, .int (nI 0), .ref jk1, .ref jn1, .ref jt1, .int (nI sz), .ref jo1], hcBa D jt1 256 (hcTx (hcCe L xs) 8), hcOb he1 1 [.ref hp1, .ref hq1, .int (nI (σ ((0 + 3) / 4)).2.2), .ref hk1, .ref hv1, .int 1, .ref hz1, .int (nI (0 % 4))], hcIa D hp1 512 (σ ((0 + 3) / 4)).1, hcIa D hq1 512 (σ ((0 + 3) / 4)).2.1, hcBa D hz1 4 (fun _ => 0), hcBa D hk1 16 (hcMk (hcCe L xs)), hcBa D hv1 16 (hcMv (hcCe L xs)), hcOb dk2 0 [.ref he2, .int 1, .int (nI 0), .ref jk2, .ref jn2, .ref jt2, .int (nI sz), .ref jo2], hcBa D jt2 256 (hcTx (hcCe L xs) 8), hcOb he2 1 [.ref hp2, .ref hq2, .int (nI (σ ((0 + 3) / 4)).2.2), .ref hk2, .ref hv2, .int 1, .ref hz2, .int (nI (0 % 4))], hcIa D hp2 512 (σ ((0 + 3) / 4)).1, hcIa D hq2 512 (σ ((0 + 3) / 4)).2.1, hcBa D hz2 4 (fun _ => 0), hcBa D hk2 16 (hcMk (hcCe L xs)), hcBa D hv2 16 (hcMv (hcCe L xs))] := hD
  refine lv_astore_n (lv' := [(2, .ref dk2), (1, .ref dk1), (0, .ref b)]) hx hb dL_law_17 rfl hl (by decide) rfl (fun ls hl => ?_)
  refine lv_aload_n hx hb dL_law_18 rfl (lv_at hl 2 rfl) ?_
  refine hc_rS (wr := [hcOb dk1 0 [.ref he1, .int 1, .int (nI 0), .ref jk1, .ref jn1, .ref jt1, .int (nI sz), .ref jo1], hcBa D jt1 256 (hcTx (hcCe L xs) 8), hcOb he1 1 [.ref hp1, .ref hq1, .int (nI (σ ((0 + 3) / 4)).2.2), .ref hk1, .ref hv1, .int 1, .ref hz1, .int (nI (0 % 4))], hcIa D hp1 512 (σ ((0 + 3) / 4)).1, hcIa D hq1 512 (σ ((0 + 3) / 4)).2.1, hcBa D hz1 4 (fun _ => 0), hcBa D hk1 16 (hcMk (hcCe L xs)), hcBa D hv1 16 (hcMv (hcCe L xs)), hcOb dk2 0 [.ref he2, .int 1, .int (nI 0), .ref jk2, .ref jn2, .ref jt2, .int (nI sz), .ref jo2], hcBa D jt2 256 (hcTx (hcCe L xs) 8), hcOb he2 1 [.ref hp2, .ref hq2, .int (nI (σ ((0 + 3) / 4)).2.2), .ref hk2, .ref hv2, .int 1, .ref hz2, .int (nI (0 % 4))], hcIa D hp2 512 (σ ((0 + 3) / 4)).1, hcIa D hq2 512 (σ ((0 + 3) / 4)).2.1, hcBa D hz2 4 (fun _ => 0), hcBa D hk2 16 (hcMk (hcCe L xs)), hcBa D hv2 16 (hcMv (hcCe L xs))]) (met_made l D b L xs σ hL hσ) ⟨hx, hb, hml, hown, hts⟩ (va_cwS 1 hts (lw_S q244 q245 q10 q246) rfl rfl rfl (by decide +kernel) ⟨Nat.le_of_ble_eq_true rfl, Nat.le_of_ble_eq_true rfl⟩) (hcBl_xs _ _ _) (hc_xs_of hX hbl hbA hS) hK hP hD hS hA [] [0, 1, 2, 3, 4, 5, 6, 7, 8, 9, 10, 11, 12, 13, 14, 15] (by decide) rfl rfl (by decide) (by decide) rfl hl.1 rfl (Nat.le_of_ble_eq_true rfl) dL_law_19 ⟨Nat.le_of_ble_eq_true rfl, Nat.le_of_ble_eq_true rfl⟩ (fun u H locs hw hP hD hS => ?_)
  obtain ⟨dk3, jt3, he3, hp3, hq3, hz3, hk3, hv3, jk3, jn3, jo3⟩ := u
  dsimp only at hP hD
  rw [← hsz] at hP hD
  have hP : va_P D vwCl [hcOb dk1 0 [.ref he1, .int 1, .int (nI 0), .ref jk1, .ref jn1, .ref jt1, .int (nI sz), .ref jo1], hcBa D jt1 256 (hcTx (hcCe L xs) 8), hcOb he1 1 [.ref hp1, .ref hq1, .int (nI (σ ((0 + 3) / 4)).2.2), .ref hk1, .ref hv1, .int 1, .ref hz1, .int (nI (0 % 4))], hcIa D hp1 512 (σ ((0 + 3) / 4)).1, hcIa D hq1 512 (σ ((0 + 3) / 4)).2.1, hcBa D hz1 4 (fun _ => 0), hcBa D hk1 16 (hcMk (hcCe L xs)), hcBa D hv1 16 (hcMv (hcCe L xs)), hcOb dk2 0 [.ref he2, .int 1, .int (nI 0), .ref jk2, .ref jn2, .ref jt2, .int (nI sz), .ref jo2], hcBa D jt2 256 (hcTx (hcCe L xs) 8), hcOb he2 1 [.ref hp2, .ref hq2, .int (nI (σ ((0 + 3) / 4)).2.2), .ref hk2, .ref hv2, .int 1, .ref hz2, .int (nI (0 % 4))], hcIa D hp2 512 (σ ((0 + 3) / 4)).1, hcIa D hq2 512 (σ ((0 + 3) / 4)).2.1, hcBa D hz2 4 (fun _ => 0), hcBa D hk2 16 (hcMk (hcCe L xs)), hcBa D hv2 16 (hcMv (hcCe L xs)), hcOb dk3 0 [.ref he3, .int 1, .int (nI 0), .ref jk3, .ref jn3, .ref jt3, .int (nI sz), .ref jo3], hcBa D jt3 256 (hcTx (hcCe L xs) 8), hcOb he3 1 [.ref hp3, .ref hq3, .int (nI (σ ((0 + 3) / 4)).2.2), .ref hk3, .ref hv3, .int 1, .ref hz3, .int (nI (0 % 4))], hcIa D hp3 512 (σ ((0 + 3) / 4)).1, hcIa D hq3 512 (σ ((0 + 3) / 4)).2.1, hcBa D hz3 4 (fun _ => 0), hcBa D hk3 16 (hcMk (hcCe L xs)), hcBa D hv3 16 (hcMv (hcCe L xs))] H := hP
  have hD : va_D A [hcOb dk1 0 [.ref he1, .int 1, .int (nI 0), .ref jk1, .ref jn1, .ref jt1, .int (nI sz), .ref jo1], hcBa D jt1 256 (hcTx (hcCe L xs) 8), hcOb he1 1 [.ref hp1, .ref hq1, .int (nI (σ ((0 + 3) / 4)).2.2), .ref hk1, .ref hv1, .int 1, .ref hz1, .int (nI (0 % 4))], hcIa D hp1 512 (σ ((0 + 3) / 4)).1, hcIa D hq1 512 (σ ((0 + 3) / 4)).2.1, hcBa D hz1 4 (fun _ => 0), hcBa D hk1 16 (hcMk (hcCe L xs)), hcBa D hv1 16 (hcMv (hcCe L xs)), hcOb dk2 0 [.ref he2, .int 1, .int (nI 0), .ref jk2, .ref jn2, .ref jt2, .int (nI sz), .ref jo2], hcBa D jt2 256 (hcTx (hcCe L xs) 8), hcOb he2 1 [.ref hp2, .ref hq2, .int (nI (σ ((0 + 3) / 4)).2.2), .ref hk2, .ref hv2, .int 1, .ref hz2, .int (nI (0 % 4))], hcIa D hp2 512 (σ ((0 + 3) / 4)).1, hcIa D hq2 512 (σ ((0 + 3) / 4)).2.1, hcBa D hz2 4 (fun _ => 0), hcBa D hk2 16 (hcMk (hcCe L xs)), hcBa D hv2 16 (hcMv (hcCe L xs)), hcOb dk3 0 [.ref he3, .int 1, .int (nI 0), .ref jk3, .ref jn3, .ref jt3, .int (nI sz), .ref jo3], hcBa D jt3 256 (hcTx (hcCe L xs) 8), hcOb he3 1 [.ref hp3, .ref hq3, .int (nI (σ ((0 + 3) / 4)).2.2), .ref hk3, .ref hv3, .int 1, .ref hz3, .int (nI (0 % 4))], hcIa D hp3 512 (σ ((0 + 3) / 4)).1, hcIa D hq3 512 (σ ((0 + 3) / 4)).2.1, hcBa D hz3 4 (fun _ => 0), hcBa D hk3 16 (hcMk (hcCe L xs)), hcBa D hv3 16 (hcMv (hcCe L xs))] := hD
  refine lv_astore_n (lv' := [(3, .ref dk3), (2, .ref dk2), (1, .ref dk1), (0, .ref b)]) hx hb dL_law_22 rfl hl (by decide) rfl (fun ls hl => ?_)
  refine lv_aload_n hx hb dL_law_23 rfl (lv_at hl 3 rfl) ?_
  refine hc_rS (wr := [hcOb dk1 0 [.ref he1, .int 1, .int (nI 0), .ref jk1, .ref jn1, .ref jt1, .int (nI sz), .ref jo1], hcBa D jt1 256 (hcTx (hcCe L xs) 8), hcOb he1 1 [.ref hp1, .ref hq1, .int (nI (σ ((0 + 3) / 4)).2.2), .ref hk1, .ref hv1, .int 1, .ref hz1, .int (nI (0 % 4))], hcIa D hp1 512 (σ ((0 + 3) / 4)).1, hcIa D hq1 512 (σ ((0 + 3) / 4)).2.1, hcBa D hz1 4 (fun _ => 0), hcBa D hk1 16 (hcMk (hcCe L xs)), hcBa D hv1 16 (hcMv (hcCe L xs)), hcOb dk2 0 [.ref he2, .int 1, .int (nI 0), .ref jk2, .ref jn2, .ref jt2, .int (nI sz), .ref jo2], hcBa D jt2 256 (hcTx (hcCe L xs) 8), hcOb he2 1 [.ref hp2, .ref hq2, .int (nI (σ ((0 + 3) / 4)).2.2), .ref hk2, .ref hv2, .int 1, .ref hz2, .int (nI (0 % 4))], hcIa D hp2 512 (σ ((0 + 3) / 4)).1, hcIa D hq2 512 (σ ((0 + 3) / 4)).2.1, hcBa D hz2 4 (fun _ => 0), hcBa D hk2 16 (hcMk (hcCe L xs)), hcBa D hv2 16 (hcMv (hcCe L xs)), hcOb dk3 0 [.ref he3, .int 1, .int (nI 0), .ref jk3, .ref jn3, .ref jt3, .int (nI sz), .ref jo3], hcBa D jt3 256 (hcTx (hcCe L xs) 8), hcOb he3 1 [.ref hp3, .ref hq3, .int (nI (σ ((0 + 3) / 4)).2.2), .ref hk3, .ref hv3, .int 1, .ref hz3, .int (nI (0 % 4))], hcIa D hp3 512 (σ ((0 + 3) / 4)).1, hcIa D hq3 512 (σ ((0 + 3) / 4)).2.1, hcBa D hz3 4 (fun _ => 0), hcBa D hk3 16 (hcMk (hcCe L xs)), hcBa D hv3 16 (hcMv (hcCe L xs))]) (met_made l D b L xs σ hL hσ) ⟨hx, hb, hml, hown, hts⟩ (va_cwS 1 hts (lw_S q244 q245 q10 q246) rfl rfl rfl (by decide +kernel) ⟨Nat.le_of_ble_eq_true rfl, Nat.le_of_ble_eq_true rfl⟩) (hcBl_xs _ _ _) (hc_xs_of hX hbl hbA hS) hK hP hD hS hA [] [0, 1, 2, 3, 4, 5, 6, 7, 8, 9, 10, 11, 12, 13, 14, 15, 16, 17, 18, 19, 20, 21, 22, 23] (by decide) rfl rfl (by decide) (by decide) rfl hl.1 rfl (Nat.le_of_ble_eq_true rfl) dL_law_24 ⟨Nat.le_of_ble_eq_true rfl, Nat.le_of_ble_eq_true rfl⟩ (fun u H locs hw hP hD hS => ?_)
  obtain ⟨dk4, jt4, he4, hp4, hq4, hz4, hk4, hv4, jk4, jn4, jo4⟩ := u
  dsimp only at hP hD
  rw [← hsz] at hP hD
  have hP : va_P D vwCl [hcOb dk1 0 [.ref he1, .int 1, .int (nI 0), .ref jk1, .ref jn1, .ref jt1, .int (nI sz), .ref jo1], hcBa D jt1 256 (hcTx (hcCe L xs) 8), hcOb he1 1 [.ref hp1, .ref hq1, .int (nI (σ ((0 + 3) / 4)).2.2), .ref hk1, .ref hv1, .int 1, .ref hz1, .int (nI (0 % 4))], hcIa D hp1 512 (σ ((0 + 3) / 4)).1, hcIa D hq1 512 (σ ((0 + 3) / 4)).2.1, hcBa D hz1 4 (fun _ => 0), hcBa D hk1 16 (hcMk (hcCe L xs)), hcBa D hv1 16 (hcMv (hcCe L xs)), hcOb dk2 0 [.ref he2, .int 1, .int (nI 0), .ref jk2, .ref jn2, .ref jt2, .int (nI sz), .ref jo2], hcBa D jt2 256 (hcTx (hcCe L xs) 8), hcOb he2 1 [.ref hp2, .ref hq2, .int (nI (σ ((0 + 3) / 4)).2.2), .ref hk2, .ref hv2, .int 1, .ref hz2, .int (nI (0 % 4))], hcIa D hp2 512 (σ ((0 + 3) / 4)).1, hcIa D hq2 512 (σ ((0 + 3) / 4)).2.1, hcBa D hz2 4 (fun _ => 0), hcBa D hk2 16 (hcMk (hcCe L xs)), hcBa D hv2 16 (hcMv (hcCe L xs)), hcOb dk3 0 [.ref he3, .int 1, .int (nI 0), .ref jk3, .ref jn3, .ref jt3, .int (nI sz), .ref jo3], hcBa D jt3 256 (hcTx (hcCe L xs) 8), hcOb he3 1 [.ref hp3, .ref hq3, .int (nI (σ ((0 + 3) / 4)).2.2), .ref hk3, .ref hv3, .int 1, .ref hz3, .int (nI (0 % 4))], hcIa D hp3 512 (σ ((0 + 3) / 4)).1, hcIa D hq3 512 (σ ((0 + 3) / 4)).2.1, hcBa D hz3 4 (fun _ => 0), hcBa D hk3 16 (hcMk (hcCe L xs)), hcBa D hv3 16 (hcMv (hcCe L xs)), hcOb dk4 0 [.ref he4, .int 1, .int (nI 0), .ref jk4, .ref jn4, .ref jt4, .int (nI sz), .ref jo4], hcBa D jt4 256 (hcTx (hcCe L xs) 8), hcOb he4 1 [.ref hp4, .ref hq4, .int (nI (σ ((0 + 3) / 4)).2.2), .ref hk4, .ref hv4, .int 1, .ref hz4, .int (nI (0 % 4))], hcIa D hp4 512 (σ ((0 + 3) / 4)).1, hcIa D hq4 512 (σ ((0 + 3) / 4)).2.1, hcBa D hz4 4 (fun _ => 0), hcBa D hk4 16 (hcMk (hcCe L xs)), hcBa D hv4 16 (hcMv (hcCe L xs))] H := hP
  have hD : va_D A [hcOb dk1 0 [.ref he1, .int 1, .int (nI 0), .ref jk1, .ref jn1, .ref jt1, .int (nI sz), .ref jo1], hcBa D jt1 256 (hcTx (hcCe L xs) 8), hcOb he1 1 [.ref hp1, .ref hq1, .int (nI (σ ((0 + 3) / 4)).2.2), .ref hk1, .ref hv1, .int 1, .ref hz1, .int (nI (0 % 4))], hcIa D hp1 512 (σ ((0 + 3) / 4)).1, hcIa D hq1 512 (σ ((0 + 3) / 4)).2.1, hcBa D hz1 4 (fun _ => 0), hcBa D hk1 16 (hcMk (hcCe L xs)), hcBa D hv1 16 (hcMv (hcCe L xs)), hcOb dk2 0 [.ref he2, .int 1, .int (nI 0), .ref jk2, .ref jn2, .ref jt2, .int (nI sz), .ref jo2], hcBa D jt2 256 (hcTx (hcCe L xs) 8), hcOb he2 1 [.ref hp2, .ref hq2, .int (nI (σ ((0 + 3) / 4)).2.2), .ref hk2, .ref hv2, .int 1, .ref hz2, .int (nI (0 % 4))], hcIa D hp2 512 (σ ((0 + 3) / 4)).1, hcIa D hq2 512 (σ ((0 + 3) / 4)).2.1, hcBa D hz2 4 (fun _ => 0), hcBa D hk2 16 (hcMk (hcCe L xs)), hcBa D hv2 16 (hcMv (hcCe L xs)), hcOb dk3 0 [.ref he3, .int 1, .int (nI 0), .ref jk3, .ref jn3, .ref jt3, .int (nI sz), .ref jo3], hcBa D jt3 256 (hcTx (hcCe L xs) 8), hcOb he3 1 [.ref hp3, .ref hq3, .int (nI (σ ((0 + 3) / 4)).2.2), .ref hk3, .ref hv3, .int 1, .ref hz3, .int (nI (0 % 4))], hcIa D hp3 512 (σ ((0 + 3) / 4)).1, hcIa D hq3 512 (σ ((0 + 3) / 4)).2.1, hcBa D hz3 4 (fun _ => 0), hcBa D hk3 16 (hcMk (hcCe L xs)), hcBa D hv3 16 (hcMv (hcCe L xs)), hcOb dk4 0 [.ref he4, .int 1, .int (nI 0), .ref jk4, .ref jn4, .ref jt4, .int (nI sz), .ref jo4], hcBa D jt4 256 (hcTx (hcCe L xs) 8), hcOb he4 1 [.ref hp4, .ref hq4, .int (nI (σ ((0 + 3) / 4)).2.2), .ref hk4, .ref hv4, .int 1, .ref hz4, .int (nI (0 % 4))], hcIa D hp4 512 (σ ((0 + 3) / 4)).1, hcIa D hq4 512 (σ ((0 + 3) / 4)).2.1, hcBa D hz4 4 (fun _ => 0), hcBa D hk4 16 (hcMk (hcCe L xs)), hcBa D hv4 16 (hcMv (hcCe L xs))] := hD
  refine lv_astore (lv' := [(4, .ref dk4), (3, .ref dk3), (2, .ref dk2), (1, .ref dk1), (0, .ref b)]) hx hb dL_law_27 hl (by decide) rfl (fun ls hl => ?_)
  refine W.widen (k := 102) (n := 19007) (by decide) (by decide) ?_
  refine lv_aload_n hx hb dL_law_29 rfl (lv_at hl 4 rfl) ?_
  refine lv_bipush (v := 13) hx hb dL_law_30 (by decide) ?_
  refine hc_oS (met_cell l D b L xs 13 hL (by omega)) ⟨hx, hb, hml, hown, hts⟩ (va_cwS 2 hts (lw_S q241 q242 q10 q243) rfl rfl rfl (by decide +kernel) ⟨Nat.le_of_ble_eq_true rfl, Nat.le_of_ble_eq_true rfl⟩) (hcBl_xs _ _ _) (hc_xs_of hX hbl hbA hS) hK hP hD [] (by decide) rfl rfl hl.1 rfl (Nat.le_of_ble_eq_true rfl) dL_law_32 ⟨Nat.le_of_ble_eq_true rfl, Nat.le_of_ble_eq_true rfl⟩ ?_
  refine lv_ldc hx hb hown (hts _ q386) dL_law_35 ?_
  refine lv_iand hx hb dL_law_37 ?_
  refine hc_top (y := nI (hcM (hcCe L xs 13))) (hcM_and _) ?_
  refine lv_sipush (v := 129) hx hb dL_law_38 (by decide) ?_
  refine lv_irem hx hb dL_law_41 (by decide) ?_
  refine hc_top (y := nI sz) ((hc_rem (d := 129) (hcM_lt _) (by decide) (by decide)).trans (congrArg nI hsz.symm)) ?_
  refine lv_istore (lv' := [(5, .int (nI sz)), (4, .ref dk4), (3, .ref dk3), (2, .ref dk2), (1, .ref dk1), (0, .ref b)]) hx hb dL_law_42 hl (by decide) rfl (fun ls hl => ?_)
  refine lv_aload_n hx hb dL_law_44 rfl (lv_at hl 4 rfl) ?_
  refine lv_iconst (v := 0) hx hb dL_law_45 (by decide) ?_
  refine lv_iload hx hb dL_law_46 (lv_at hl 0 rfl) ?_
  refine hc_iV (wr := [hcOb dk2 0 [.ref he2, .int 1, .int (nI 0), .ref jk2, .ref jn2, .ref jt2, .int (nI sz), .ref jo2], hcBa D jt2 256 (hcTx (hcCe L xs) 8), hcOb he2 1 [.ref hp2, .ref hq2, .int (nI (σ ((0 + 3) / 4)).2.2), .ref hk2, .ref hv2, .int 1, .ref hz2, .int (nI (0 % 4))], hcIa D hp2 512 (σ ((0 + 3) / 4)).1, hcIa D hq2 512 (σ ((0 + 3) / 4)).2.1, hcBa D hz2 4 (fun _ => 0), hcBa D hk2 16 (hcMk (hcCe L xs)), hcBa D hv2 16 (hcMv (hcCe L xs)), hcOb dk3 0 [.ref he3, .int 1, .int (nI 0), .ref jk3, .ref jn3, .ref jt3, .int (nI sz), .ref jo3], hcBa D jt3 256 (hcTx (hcCe L xs) 8), hcOb he3 1 [.ref hp3, .ref hq3, .int (nI (σ ((0 + 3) / 4)).2.2), .ref hk3, .ref hv3, .int 1, .ref hz3, .int (nI (0 % 4))], hcIa D hp3 512 (σ ((0 + 3) / 4)).1, hcIa D hq3 512 (σ ((0 + 3) / 4)).2.1, hcBa D hz3 4 (fun _ => 0), hcBa D hk3 16 (hcMk (hcCe L xs)), hcBa D hv3 16 (hcMv (hcCe L xs)), hcOb dk4 0 [.ref he4, .int 1, .int (nI 0), .ref jk4, .ref jn4, .ref jt4, .int (nI sz), .ref jo4], hcBa D jt4 256 (hcTx (hcCe L xs) 8), hcOb he4 1 [.ref hp4, .ref hq4, .int (nI (σ ((0 + 3) / 4)).2.2), .ref hk4, .ref hv4, .int 1, .ref hz4, .int (nI (0 % 4))], hcIa D hp4 512 (σ ((0 + 3) / 4)).1, hcIa D hq4 512 (σ ((0 + 3) / 4)).2.1, hcBa D hz4 4 (fun _ => 0), hcBa D hk4 16 (hcMk (hcCe L xs)), hcBa D hv4 16 (hcMv (hcCe L xs))]) (met_run l D dk1 jk1 jn1 jt1 he1 hp1 hq1 hz1 hk1 hv1 (.ref jo1) (hcMk (hcCe L xs)) (hcMv (hcCe L xs)) (hcTx (hcCe L xs) 8) σ sz 0 0 (fun _ => 0) 0 sz hσ (fun h => absurd rfl h) (by omega) (by omega) (by omega)) ⟨hx, hb, hml, hown, hts⟩ (cwV 2 hts (lw_V q24 q25 q26 q11 q27) rfl rfl rfl (by decide +kernel) ⟨Nat.le_of_ble_eq_true rfl, Nat.le_of_ble_eq_true rfl⟩) hcBl_no (hc_no _ _) hK hP hD hS hA [0, 1, 2, 3, 4, 5, 6, 7] [8, 9, 10, 11, 12, 13, 14, 15, 16, 17, 18, 19, 20, 21, 22, 23, 24, 25, 26, 27, 28, 29, 30, 31] (by decide) rfl rfl (by decide) (by decide) 0 (ci := 0) rfl rfl rfl rfl hl.1 rfl (Nat.le_of_ble_eq_true rfl) dL_law_48 ⟨Nat.le_of_ble_eq_true rfl, Nat.le_of_ble_eq_true rfl⟩ (fun r u H locs hw hP hD hS => ?_)
  obtain ⟨jr, B1⟩ := u
  have hP : va_P D vwCl [hcOb dk2 0 [.ref he2, .int 1, .int (nI 0), .ref jk2, .ref jn2, .ref jt2, .int (nI sz), .ref jo2], hcBa D jt2 256 (hcTx (hcCe L xs) 8), hcOb he2 1 [.ref hp2, .ref hq2, .int (nI (σ ((0 + 3) / 4)).2.2), .ref hk2, .ref hv2, .int 1, .ref hz2, .int (nI (0 % 4))], hcIa D hp2 512 (σ ((0 + 3) / 4)).1, hcIa D hq2 512 (σ ((0 + 3) / 4)).2.1, hcBa D hz2 4 (fun _ => 0), hcBa D hk2 16 (hcMk (hcCe L xs)), hcBa D hv2 16 (hcMv (hcCe L xs)), hcOb dk3 0 [.ref he3, .int 1, .int (nI 0), .ref jk3, .ref jn3, .ref jt3, .int (nI sz), .ref jo3], hcBa D jt3 256 (hcTx (hcCe L xs) 8), hcOb he3 1 [.ref hp3, .ref hq3, .int (nI (σ ((0 + 3) / 4)).2.2), .ref hk3, .ref hv3, .int 1, .ref hz3, .int (nI (0 % 4))], hcIa D hp3 512 (σ ((0 + 3) / 4)).1, hcIa D hq3 512 (σ ((0 + 3) / 4)).2.1, hcBa D hz3 4 (fun _ => 0), hcBa D hk3 16 (hcMk (hcCe L xs)), hcBa D hv3 16 (hcMv (hcCe L xs)), hcOb dk4 0 [.ref he4, .int 1, .int (nI 0), .ref jk4, .ref jn4, .ref jt4, .int (nI sz), .ref jo4], hcBa D jt4 256 (hcTx (hcCe L xs) 8), hcOb he4 1 [.ref hp4, .ref hq4, .int (nI (σ ((0 + 3) / 4)).2.2), .ref hk4, .ref hv4, .int 1, .ref hz4, .int (nI (0 % 4))], hcIa D hp4 512 (σ ((0 + 3) / 4)).1, hcIa D hq4 512 (σ ((0 + 3) / 4)).2.1, hcBa D hz4 4 (fun _ => 0), hcBa D hk4 16 (hcMk (hcCe L xs)), hcBa D hv4 16 (hcMv (hcCe L xs)), hcOb dk1 0 [.ref he1, .int 1, .int (nI (0 + sz)), .ref jk1, .ref jn1, .ref jt1, .int (nI sz), .ref jr], hcBa D jt1 256 (hcTx (hcCe L xs) 8), hcOb he1 1 [.ref hp1, .ref hq1, .int (nI (σ ((0 + sz + 3) / 4)).2.2), .ref hk1, .ref hv1, .int 1, .ref hz1, .int (nI ((0 + sz) % 4))], hcIa D hp1 512 (σ ((0 + sz + 3) / 4)).1, hcIa D hq1 512 (σ ((0 + sz + 3) / 4)).2.1, hcBa D hz1 4 B1, hcBa D hk1 16 (hcMk (hcCe L xs)), hcBa D hv1 16 (hcMv (hcCe L xs)), hcBa D jr sz (hcXo σ (hcTx (hcCe L xs) 8) 0 0)] H := hP
  have hD : va_D A [hcOb dk2 0 [.ref he2, .int 1, .int (nI 0), .ref jk2, .ref jn2, .ref jt2, .int (nI sz), .ref jo2], hcBa D jt2 256 (hcTx (hcCe L xs) 8), hcOb he2 1 [.ref hp2, .ref hq2, .int (nI (σ ((0 + 3) / 4)).2.2), .ref hk2, .ref hv2, .int 1, .ref hz2, .int (nI (0 % 4))], hcIa D hp2 512 (σ ((0 + 3) / 4)).1, hcIa D hq2 512 (σ ((0 + 3) / 4)).2.1, hcBa D hz2 4 (fun _ => 0), hcBa D hk2 16 (hcMk (hcCe L xs)), hcBa D hv2 16 (hcMv (hcCe L xs)), hcOb dk3 0 [.ref he3, .int 1, .int (nI 0), .ref jk3, .ref jn3, .ref jt3, .int (nI sz), .ref jo3], hcBa D jt3 256 (hcTx (hcCe L xs) 8), hcOb he3 1 [.ref hp3, .ref hq3, .int (nI (σ ((0 + 3) / 4)).2.2), .ref hk3, .ref hv3, .int 1, .ref hz3, .int (nI (0 % 4))], hcIa D hp3 512 (σ ((0 + 3) / 4)).1, hcIa D hq3 512 (σ ((0 + 3) / 4)).2.1, hcBa D hz3 4 (fun _ => 0), hcBa D hk3 16 (hcMk (hcCe L xs)), hcBa D hv3 16 (hcMv (hcCe L xs)), hcOb dk4 0 [.ref he4, .int 1, .int (nI 0), .ref jk4, .ref jn4, .ref jt4, .int (nI sz), .ref jo4], hcBa D jt4 256 (hcTx (hcCe L xs) 8), hcOb he4 1 [.ref hp4, .ref hq4, .int (nI (σ ((0 + 3) / 4)).2.2), .ref hk4, .ref hv4, .int 1, .ref hz4, .int (nI (0 % 4))], hcIa D hp4 512 (σ ((0 + 3) / 4)).1, hcIa D hq4 512 (σ ((0 + 3) / 4)).2.1, hcBa D hz4 4 (fun _ => 0), hcBa D hk4 16 (hcMk (hcCe L xs)), hcBa D hv4 16 (hcMv (hcCe L xs)), hcOb dk1 0 [.ref he1, .int 1, .int (nI (0 + sz)), .ref jk1, .ref jn1, .ref jt1, .int (nI sz), .ref jr], hcBa D jt1 256 (hcTx (hcCe L xs) 8), hcOb he1 1 [.ref hp1, .ref hq1, .int (nI (σ ((0 + sz + 3) / 4)).2.2), .ref hk1, .ref hv1, .int 1, .ref hz1, .int (nI ((0 + sz) % 4))], hcIa D hp1 512 (σ ((0 + sz + 3) / 4)).1, hcIa D hq1 512 (σ ((0 + sz + 3) / 4)).2.1, hcBa D hz1 4 B1, hcBa D hk1 16 (hcMk (hcCe L xs)), hcBa D hv1 16 (hcMv (hcCe L xs)), hcBa D jr sz (hcXo σ (hcTx (hcCe L xs) 8) 0 0)] := hD
  have hP : va_P D vwCl [hcOb dk1 0 [.ref he1, .int 1, .int (nI (0 + sz)), .ref jk1, .ref jn1, .ref jt1, .int (nI sz), .ref jr], hcBa D jr sz (hcXo σ (hcTx (hcCe L xs) 8) 0 0), hcOb dk2 0 [.ref he2, .int 1, .int (nI 0), .ref jk2, .ref jn2, .ref jt2, .int (nI sz), .ref jo2], hcBa D jt2 256 (hcTx (hcCe L xs) 8), hcOb he2 1 [.ref hp2, .ref hq2, .int (nI (σ ((0 + 3) / 4)).2.2), .ref hk2, .ref hv2, .int 1, .ref hz2, .int (nI (0 % 4))], hcIa D hp2 512 (σ ((0 + 3) / 4)).1, hcIa D hq2 512 (σ ((0 + 3) / 4)).2.1, hcBa D hz2 4 (fun _ => 0), hcBa D hk2 16 (hcMk (hcCe L xs)), hcBa D hv2 16 (hcMv (hcCe L xs)), hcOb dk3 0 [.ref he3, .int 1, .int (nI 0), .ref jk3, .ref jn3, .ref jt3, .int (nI sz), .ref jo3], hcBa D jt3 256 (hcTx (hcCe L xs) 8), hcOb he3 1 [.ref hp3, .ref hq3, .int (nI (σ ((0 + 3) / 4)).2.2), .ref hk3, .ref hv3, .int 1, .ref hz3, .int (nI (0 % 4))], hcIa D hp3 512 (σ ((0 + 3) / 4)).1, hcIa D hq3 512 (σ ((0 + 3) / 4)).2.1, hcBa D hz3 4 (fun _ => 0), hcBa D hk3 16 (hcMk (hcCe L xs)), hcBa D hv3 16 (hcMv (hcCe L xs)), hcOb dk4 0 [.ref he4, .int 1, .int (nI 0), .ref jk4, .ref jn4, .ref jt4, .int (nI sz), .ref jo4], hcBa D jt4 256 (hcTx (hcCe L xs) 8), hcOb he4 1 [.ref hp4, .ref hq4, .int (nI (σ ((0 + 3) / 4)).2.2), .ref hk4, .ref hv4, .int 1, .ref hz4, .int (nI (0 % 4))], hcIa D hp4 512 (σ ((0 + 3) / 4)).1, hcIa D hq4 512 (σ ((0 + 3) / 4)).2.1, hcBa D hz4 4 (fun _ => 0), hcBa D hk4 16 (hcMk (hcCe L xs)), hcBa D hv4 16 (hcMv (hcCe L xs))] H := hc_psub hP [24, 32, 0, 1, 2, 3, 4, 5, 6, 7, 8, 9, 10, 11, 12, 13, 14, 15, 16, 17, 18, 19, 20, 21, 22, 23] rfl
  have hD : va_D A [hcOb dk1 0 [.ref he1, .int 1, .int (nI (0 + sz)), .ref jk1, .ref jn1, .ref jt1, .int (nI sz), .ref jr], hcBa D jr sz (hcXo σ (hcTx (hcCe L xs) 8) 0 0), hcOb dk2 0 [.ref he2, .int 1, .int (nI 0), .ref jk2, .ref jn2, .ref jt2, .int (nI sz), .ref jo2], hcBa D jt2 256 (hcTx (hcCe L xs) 8), hcOb he2 1 [.ref hp2, .ref hq2, .int (nI (σ ((0 + 3) / 4)).2.2), .ref hk2, .ref hv2, .int 1, .ref hz2, .int (nI (0 % 4))], hcIa D hp2 512 (σ ((0 + 3) / 4)).1, hcIa D hq2 512 (σ ((0 + 3) / 4)).2.1, hcBa D hz2 4 (fun _ => 0), hcBa D hk2 16 (hcMk (hcCe L xs)), hcBa D hv2 16 (hcMv (hcCe L xs)), hcOb dk3 0 [.ref he3, .int 1, .int (nI 0), .ref jk3, .ref jn3, .ref jt3, .int (nI sz), .ref jo3], hcBa D jt3 256 (hcTx (hcCe L xs) 8), hcOb he3 1 [.ref hp3, .ref hq3, .int (nI (σ ((0 + 3) / 4)).2.2), .ref hk3, .ref hv3, .int 1, .ref hz3, .int (nI (0 % 4))], hcIa D hp3 512 (σ ((0 + 3) / 4)).1, hcIa D hq3 512 (σ ((0 + 3) / 4)).2.1, hcBa D hz3 4 (fun _ => 0), hcBa D hk3 16 (hcMk (hcCe L xs)), hcBa D hv3 16 (hcMv (hcCe L xs)), hcOb dk4 0 [.ref he4, .int 1, .int (nI 0), .ref jk4, .ref jn4, .ref jt4, .int (nI sz), .ref jo4], hcBa D jt4 256 (hcTx (hcCe L xs) 8), hcOb he4 1 [.ref hp4, .ref hq4, .int (nI (σ ((0 + 3) / 4)).2.2), .ref hk4, .ref hv4, .int 1, .ref hz4, .int (nI (0 % 4))], hcIa D hp4 512 (σ ((0 + 3) / 4)).1, hcIa D hq4 512 (σ ((0 + 3) / 4)).2.1, hcBa D hz4 4 (fun _ => 0), hcBa D hk4 16 (hcMk (hcCe L xs)), hcBa D hv4 16 (hcMv (hcCe L xs))] := hD.sub [24, 32, 0, 1, 2, 3, 4, 5, 6, 7, 8, 9, 10, 11, 12, 13, 14, 15, 16, 17, 18, 19, 20, 21, 22, 23] (by decide) rfl
  obtain ⟨rfl, hBn⟩ := hw
  have hBn : hcOk σ (0 + sz) B1 := hBn
  clear hBn
  refine lv_iload hx hb dL_law_51 (lv_at hl 0 rfl) ?_
  refine lv_icmp_eq (tgt := 58) hx hb dL_law_53 (by decide) (fun _ => ?_) (fun hc => absurd (rfl) hc)
  refine lv_iconst (v := 0) hx hb dL_law_58 (by decide) ?_
  refine lv_istore (lv' := [(6, .int 0), (5, .int (nI sz)), (4, .ref dk4), (3, .ref dk3), (2, .ref dk2), (1, .ref dk1), (0, .ref b)]) hx hb dL_law_59 hl (by decide) rfl (fun ls hl => ?_)
  refine lv_bipush (v := 14) hx hb dL_law_61 (by decide) ?_
  refine lv_istore (lv' := [(7, .int 14), (6, .int 0), (5, .int (nI sz)), (4, .ref dk4), (3, .ref dk3), (2, .ref dk2), (1, .ref dk1), (0, .ref b)]) hx hb dL_law_63 hl (by decide) rfl (fun ls hl => ?_)
  have LA : ∀ (d i a : Nat) (ov : Value) (B : Nat → Int32) (H : Heap) (locs : List Loc) (ls : Array Slot), i + d = 5 → a ≤ sz → hcOk σ a B → va_P D vwCl [hcOb dk1 0 [.ref he1, .int 1, .int (nI (0 + sz)), .ref jk1, .ref jn1, .ref jt1, .int (nI sz), .ref jr], hcBa D jr sz (hcXo σ (hcTx (hcCe L xs) 8) 0 0), hcOb dk2 0 [.ref he2, .int 1, .int (nI a), .ref jk2, .ref jn2, .ref jt2, .int (nI sz), ov], hcBa D jt2 256 (hcTx (hcCe L xs) 8), hcOb he2 1 [.ref hp2, .ref hq2, .int (nI (σ ((a + 3) / 4)).2.2), .ref hk2, .ref hv2, .int 1, .ref hz2, .int (nI (a % 4))], hcIa D hp2 512 (σ ((a + 3) / 4)).1, hcIa D hq2 512 (σ ((a + 3) / 4)).2.1, hcBa D hz2 4 B, hcBa D hk2 16 (hcMk (hcCe L xs)), hcBa D hv2 16 (hcMv (hcCe L xs)), hcOb dk3 0 [.ref he3, .int 1, .int (nI 0), .ref jk3, .ref jn3, .ref jt3, .int (nI sz), .ref jo3], hcBa D jt3 256 (hcTx (hcCe L xs) 8), hcOb he3 1 [.ref hp3, .ref hq3, .int (nI (σ ((0 + 3) / 4)).2.2), .ref hk3, .ref hv3, .int 1, .ref hz3, .int (nI (0 % 4))], hcIa D hp3 512 (σ ((0 + 3) / 4)).1, hcIa D hq3 512 (σ ((0 + 3) / 4)).2.1, hcBa D hz3 4 (fun _ => 0), hcBa D hk3 16 (hcMk (hcCe L xs)), hcBa D hv3 16 (hcMv (hcCe L xs)), hcOb dk4 0 [.ref he4, .int 1, .int (nI 0), .ref jk4, .ref jn4, .ref jt4, .int (nI sz), .ref jo4], hcBa D jt4 256 (hcTx (hcCe L xs) 8), hcOb he4 1 [.ref hp4, .ref hq4, .int (nI (σ ((0 + 3) / 4)).2.2), .ref hk4, .ref hv4, .int 1, .ref hz4, .int (nI (0 % 4))], hcIa D hp4 512 (σ ((0 + 3) / 4)).1, hcIa D hq4 512 (σ ((0 + 3) / 4)).2.1, hcBa D hz4 4 (fun _ => 0), hcBa D hk4 16 (hcMk (hcCe L xs)), hcBa D hv4 16 (hcMv (hcCe L xs))] H → va_D A [hcOb dk1 0 [.ref he1, .int 1, .int (nI (0 + sz)), .ref jk1, .ref jn1, .ref jt1, .int (nI sz), .ref jr], hcBa D jr sz (hcXo σ (hcTx (hcCe L xs) 8) 0 0), hcOb dk2 0 [.ref he2, .int 1, .int (nI a), .ref jk2, .ref jn2, .ref jt2, .int (nI sz), ov], hcBa D jt2 256 (hcTx (hcCe L xs) 8), hcOb he2 1 [.ref hp2, .ref hq2, .int (nI (σ ((a + 3) / 4)).2.2), .ref hk2, .ref hv2, .int 1, .ref hz2, .int (nI (a % 4))], hcIa D hp2 512 (σ ((a + 3) / 4)).1, hcIa D hq2 512 (σ ((a + 3) / 4)).2.1, hcBa D hz2 4 B, hcBa D hk2 16 (hcMk (hcCe L xs)), hcBa D hv2 16 (hcMv (hcCe L xs)), hcOb dk3 0 [.ref he3, .int 1, .int (nI 0), .ref jk3, .ref jn3, .ref jt3, .int (nI sz), .ref jo3], hcBa D jt3 256 (hcTx (hcCe L xs) 8), hcOb he3 1 [.ref hp3, .ref hq3, .int (nI (σ ((0 + 3) / 4)).2.2), .ref hk3, .ref hv3, .int 1, .ref hz3, .int (nI (0 % 4))], hcIa D hp3 512 (σ ((0 + 3) / 4)).1, hcIa D hq3 512 (σ ((0 + 3) / 4)).2.1, hcBa D hz3 4 (fun _ => 0), hcBa D hk3 16 (hcMk (hcCe L xs)), hcBa D hv3 16 (hcMv (hcCe L xs)), hcOb dk4 0 [.ref he4, .int 1, .int (nI 0), .ref jk4, .ref jn4, .ref jt4, .int (nI sz), .ref jo4], hcBa D jt4 256 (hcTx (hcCe L xs) 8), hcOb he4 1 [.ref hp4, .ref hq4, .int (nI (σ ((0 + 3) / 4)).2.2), .ref hk4, .ref hv4, .int 1, .ref hz4, .int (nI (0 % 4))], hcIa D hp4 512 (σ ((0 + 3) / 4)).1, hcIa D hq4 512 (σ ((0 + 3) / 4)).2.1, hcBa D hz4 4 (fun _ => 0), hcBa D hk4 16 (hcMk (hcCe L xs)), hcBa D hv4 16 (hcMv (hcCe L xs))] → va_S A s.heap H locs → lv_has ls 10 [(7, .int (nI (14 + i))), (6, .int (nI a)), (5, .int (nI sz)), (4, .ref dk4), (3, .ref dk3), (2, .ref dk2), (1, .ref dk1), (0, .ref b)] → (∀ (H : Heap) (locs : List Loc) (ls : Array Slot), va_P D vwCl [hcOb dk1 0 [.ref he1, .int 1, .int (nI (0 + sz)), .ref jk1, .ref jn1, .ref jt1, .int (nI sz), .ref jr], hcBa D jr sz (hcXo σ (hcTx (hcCe L xs) 8) 0 0), hcOb dk3 0 [.ref he3, .int 1, .int (nI 0), .ref jk3, .ref jn3, .ref jt3, .int (nI sz), .ref jo3], hcBa D jt3 256 (hcTx (hcCe L xs) 8), hcOb he3 1 [.ref hp3, .ref hq3, .int (nI (σ ((0 + 3) / 4)).2.2), .ref hk3, .ref hv3, .int 1, .ref hz3, .int (nI (0 % 4))], hcIa D hp3 512 (σ ((0 + 3) / 4)).1, hcIa D hq3 512 (σ ((0 + 3) / 4)).2.1, hcBa D hz3 4 (fun _ => 0), hcBa D hk3 16 (hcMk (hcCe L xs)), hcBa D hv3 16 (hcMv (hcCe L xs)), hcOb dk4 0 [.ref he4, .int 1, .int (nI 0), .ref jk4, .ref jn4, .ref jt4, .int (nI sz), .ref jo4], hcBa D jt4 256 (hcTx (hcCe L xs) 8), hcOb he4 1 [.ref hp4, .ref hq4, .int (nI (σ ((0 + 3) / 4)).2.2), .ref hk4, .ref hv4, .int 1, .ref hz4, .int (nI (0 % 4))], hcIa D hp4 512 (σ ((0 + 3) / 4)).1, hcIa D hq4 512 (σ ((0 + 3) / 4)).2.1, hcBa D hz4 4 (fun _ => 0), hcBa D hk4 16 (hcMk (hcCe L xs)), hcBa D hv4 16 (hcMv (hcCe L xs))] H → va_D A [hcOb dk1 0 [.ref he1, .int 1, .int (nI (0 + sz)), .ref jk1, .ref jn1, .ref jt1, .int (nI sz), .ref jr], hcBa D jr sz (hcXo σ (hcTx (hcCe L xs) 8) 0 0), hcOb dk3 0 [.ref he3, .int 1, .int (nI 0), .ref jk3, .ref jn3, .ref jt3, .int (nI sz), .ref jo3], hcBa D jt3 256 (hcTx (hcCe L xs) 8), hcOb he3 1 [.ref hp3, .ref hq3, .int (nI (σ ((0 + 3) / 4)).2.2), .ref hk3, .ref hv3, .int 1, .ref hz3, .int (nI (0 % 4))], hcIa D hp3 512 (σ ((0 + 3) / 4)).1, hcIa D hq3 512 (σ ((0 + 3) / 4)).2.1, hcBa D hz3 4 (fun _ => 0), hcBa D hk3 16 (hcMk (hcCe L xs)), hcBa D hv3 16 (hcMv (hcCe L xs)), hcOb dk4 0 [.ref he4, .int 1, .int (nI 0), .ref jk4, .ref jn4, .ref jt4, .int (nI sz), .ref jo4], hcBa D jt4 256 (hcTx (hcCe L xs) 8), hcOb he4 1 [.ref hp4, .ref hq4, .int (nI (σ ((0 + 3) / 4)).2.2), .ref hk4, .ref hv4, .int 1, .ref hz4, .int (nI (0 % 4))], hcIa D hp4 512 (σ ((0 + 3) / 4)).1, hcIa D hq4 512 (σ ((0 + 3) / 4)).2.1, hcBa D hz4 4 (fun _ => 0), hcBa D hk4 16 (hcMk (hcCe L xs)), hcBa D hv4 16 (hcMv (hcCe L xs))] → va_S A s.heap H locs → lv_has ls 10 [(5, .int (nI sz)), (4, .ref dk4), (3, .ref dk3), (2, .ref dk2), (1, .ref dk1), (0, .ref b)] → W p l e room_1 s m #[Value.ref b] below meth c H locs 108 20543 (lw_Z below #[Value.ref b] s) (F0 m 170 ls [])) → W p l e room_1 s m #[Value.ref b] below meth c H locs (103 + i) (19263 + 256 * i) (lw_Z below #[Value.ref b] s) (F0 m 65 ls []) := by
    intro d
    induction d with
    | zero =>
      intro i a ov B H locs ls hi ha hB hP hD hS hl kx
      obtain rfl : i = 5 := by omega
      refine lv_iload hx hb dL_law_65 (lv_at hl 0 rfl) ?_
      refine lv_bipush (v := 19) hx hb dL_law_67 (by decide) ?_
      refine lv_icmp_ge (tgt := 170) hx hb dL_law_69 (by decide) (fun _ => ?_) (fun hc => absurd (nI_le (a := 19) (b := 19) (Nat.le_refl _) (by omega)) hc)
      have hP : va_P D vwCl [hcOb dk1 0 [.ref he1, .int 1, .int (nI (0 + sz)), .ref jk1, .ref jn1, .ref jt1, .int (nI sz), .ref jr], hcBa D jr sz (hcXo σ (hcTx (hcCe L xs) 8) 0 0), hcOb dk3 0 [.ref he3, .int 1, .int (nI 0), .ref jk3, .ref jn3, .ref jt3, .int (nI sz), .ref jo3], hcBa D jt3 256 (hcTx (hcCe L xs) 8), hcOb he3 1 [.ref hp3, .ref hq3, .int (nI (σ ((0 + 3) / 4)).2.2), .ref hk3, .ref hv3, .int 1, .ref hz3, .int (nI (0 % 4))], hcIa D hp3 512 (σ ((0 + 3) / 4)).1, hcIa D hq3 512 (σ ((0 + 3) / 4)).2.1, hcBa D hz3 4 (fun _ => 0), hcBa D hk3 16 (hcMk (hcCe L xs)), hcBa D hv3 16 (hcMv (hcCe L xs)), hcOb dk4 0 [.ref he4, .int 1, .int (nI 0), .ref jk4, .ref jn4, .ref jt4, .int (nI sz), .ref jo4], hcBa D jt4 256 (hcTx (hcCe L xs) 8), hcOb he4 1 [.ref hp4, .ref hq4, .int (nI (σ ((0 + 3) / 4)).2.2), .ref hk4, .ref hv4, .int 1, .ref hz4, .int (nI (0 % 4))], hcIa D hp4 512 (σ ((0 + 3) / 4)).1, hcIa D hq4 512 (σ ((0 + 3) / 4)).2.1, hcBa D hz4 4 (fun _ => 0), hcBa D hk4 16 (hcMk (hcCe L xs)), hcBa D hv4 16 (hcMv (hcCe L xs))] H := hc_psub hP [0, 1, 10, 11, 12, 13, 14, 15, 16, 17, 18, 19, 20, 21, 22, 23, 24, 25] rfl
      have hD : va_D A [hcOb dk1 0 [.ref he1, .int 1, .int (nI (0 + sz)), .ref jk1, .ref jn1, .ref jt1, .int (nI sz), .ref jr], hcBa D jr sz (hcXo σ (hcTx (hcCe L xs) 8) 0 0), hcOb dk3 0 [.ref he3, .int 1, .int (nI 0), .ref jk3, .ref jn3, .ref jt3, .int (nI sz), .ref jo3], hcBa D jt3 256 (hcTx (hcCe L xs) 8), hcOb he3 1 [.ref hp3, .ref hq3, .int (nI (σ ((0 + 3) / 4)).2.2), .ref hk3, .ref hv3, .int 1, .ref hz3, .int (nI (0 % 4))], hcIa D hp3 512 (σ ((0 + 3) / 4)).1, hcIa D hq3 512 (σ ((0 + 3) / 4)).2.1, hcBa D hz3 4 (fun _ => 0), hcBa D hk3 16 (hcMk (hcCe L xs)), hcBa D hv3 16 (hcMv (hcCe L xs)), hcOb dk4 0 [.ref he4, .int 1, .int (nI 0), .ref jk4, .ref jn4, .ref jt4, .int (nI sz), .ref jo4], hcBa D jt4 256 (hcTx (hcCe L xs) 8), hcOb he4 1 [.ref hp4, .ref hq4, .int (nI (σ ((0 + 3) / 4)).2.2), .ref hk4, .ref hv4, .int 1, .ref hz4, .int (nI (0 % 4))], hcIa D hp4 512 (σ ((0 + 3) / 4)).1, hcIa D hq4 512 (σ ((0 + 3) / 4)).2.1, hcBa D hz4 4 (fun _ => 0), hcBa D hk4 16 (hcMk (hcCe L xs)), hcBa D hv4 16 (hcMv (hcCe L xs))] := hD.sub [0, 1, 10, 11, 12, 13, 14, 15, 16, 17, 18, 19, 20, 21, 22, 23, 24, 25] (by decide) rfl
      have hl : lv_has ls 10 [(5, .int (nI sz)), (4, .ref dk4), (3, .ref dk3), (2, .ref dk2), (1, .ref dk1), (0, .ref b)] := lv_sub hl [2, 3, 4, 5, 6, 7] rfl
      exact kx H locs ls hP hD hS hl
    | succ d ih =>
      intro i a ov B H locs ls hi ha hB hP hD hS hl kx
      have hlt : i < 5 := by omega
      have tail : ∀ c0 : Nat, c0 ≤ sz - a → W p l e room_1 s m #[Value.ref b] below meth c H locs (103 + i) (19263 + 256 * i) (lw_Z below #[Value.ref b] s) (F0 m 104 ls [.int (nI c0)]) := by
        intro c0 hc0
        refine lv_istore (lv' := [(8, .int (nI c0)), (7, .int (nI (14 + i))), (6, .int (nI a)), (5, .int (nI sz)), (4, .ref dk4), (3, .ref dk3), (2, .ref dk2), (1, .ref dk1), (0, .ref b)]) hx hb dL_law_104 hl (by decide) rfl (fun ls hl => ?_)
        refine lv_aload_n hx hb dL_law_106 rfl (lv_at hl 6 rfl) ?_
        refine lv_iload hx hb dL_law_107 (lv_at hl 2 rfl) ?_
        refine lv_iload hx hb dL_law_109 (lv_at hl 0 rfl) ?_
        refine hc_iV (wr := [hcOb dk1 0 [.ref he1, .int 1, .int (nI (0 + sz)), .ref jk1, .ref jn1, .ref jt1, .int (nI sz), .ref jr], hcBa D jr sz (hcXo σ (hcTx (hcCe L xs) 8) 0 0), hcOb dk3 0 [.ref he3, .int 1, .int (nI 0), .ref jk3, .ref jn3, .ref jt3, .int (nI sz), .ref jo3], hcBa D jt3 256 (hcTx (hcCe L xs) 8), hcOb he3 1 [.ref hp3, .ref hq3, .int (nI (σ ((0 + 3) / 4)).2.2), .ref hk3, .ref hv3, .int 1, .ref hz3, .int (nI (0 % 4))], hcIa D hp3 512 (σ ((0 + 3) / 4)).1, hcIa D hq3 512 (σ ((0 + 3) / 4)).2.1, hcBa D hz3 4 (fun _ => 0), hcBa D hk3 16 (hcMk (hcCe L xs)), hcBa D hv3 16 (hcMv (hcCe L xs)), hcOb dk4 0 [.ref he4, .int 1, .int (nI 0), .ref jk4, .ref jn4, .ref jt4, .int (nI sz), .ref jo4], hcBa D jt4 256 (hcTx (hcCe L xs) 8), hcOb he4 1 [.ref hp4, .ref hq4, .int (nI (σ ((0 + 3) / 4)).2.2), .ref hk4, .ref hv4, .int 1, .ref hz4, .int (nI (0 % 4))], hcIa D hp4 512 (σ ((0 + 3) / 4)).1, hcIa D hq4 512 (σ ((0 + 3) / 4)).2.1, hcBa D hz4 4 (fun _ => 0), hcBa D hk4 16 (hcMk (hcCe L xs)), hcBa D hv4 16 (hcMv (hcCe L xs))]) (met_run l D dk2 jk2 jn2 jt2 he2 hp2 hq2 hz2 hk2 hv2 ov (hcMk (hcCe L xs)) (hcMv (hcCe L xs)) (hcTx (hcCe L xs) 8) σ sz a a B a c0 hσ hB (by omega) (by omega) (by omega)) ⟨hx, hb, hml, hown, hts⟩ (cwV 2 hts (lw_V q24 q25 q26 q11 q27) rfl rfl rfl (by decide +kernel) ⟨Nat.le_of_ble_eq_true rfl, Nat.le_of_ble_eq_true rfl⟩) hcBl_no (hc_no _ _) hK hP hD hS hA [2, 3, 4, 5, 6, 7, 8, 9] [0, 1, 10, 11, 12, 13, 14, 15, 16, 17, 18, 19, 20, 21, 22, 23, 24, 25] (by decide) rfl rfl (by decide) (by decide) 2 (ci := 0) rfl rfl rfl rfl hl.1 rfl (Nat.le_of_ble_eq_true rfl) dL_law_111 ⟨by show 103 + i + 1 ≤ 600128; omega, by show 19263 + 256 * i + 256 ≤ 7301098; omega⟩ (fun r u H locs hw hP hD hS => ?_)
        obtain ⟨jp, B2⟩ := u
        have hP : va_P D vwCl [hcOb dk1 0 [.ref he1, .int 1, .int (nI (0 + sz)), .ref jk1, .ref jn1, .ref jt1, .int (nI sz), .ref jr], hcBa D jr sz (hcXo σ (hcTx (hcCe L xs) 8) 0 0), hcOb dk3 0 [.ref he3, .int 1, .int (nI 0), .ref jk3, .ref jn3, .ref jt3, .int (nI sz), .ref jo3], hcBa D jt3 256 (hcTx (hcCe L xs) 8), hcOb he3 1 [.ref hp3, .ref hq3, .int (nI (σ ((0 + 3) / 4)).2.2), .ref hk3, .ref hv3, .int 1, .ref hz3, .int (nI (0 % 4))], hcIa D hp3 512 (σ ((0 + 3) / 4)).1, hcIa D hq3 512 (σ ((0 + 3) / 4)).2.1, hcBa D hz3 4 (fun _ => 0), hcBa D hk3 16 (hcMk (hcCe L xs)), hcBa D hv3 16 (hcMv (hcCe L xs)), hcOb dk4 0 [.ref he4, .int 1, .int (nI 0), .ref jk4, .ref jn4, .ref jt4, .int (nI sz), .ref jo4], hcBa D jt4 256 (hcTx (hcCe L xs) 8), hcOb he4 1 [.ref hp4, .ref hq4, .int (nI (σ ((0 + 3) / 4)).2.2), .ref hk4, .ref hv4, .int 1, .ref hz4, .int (nI (0 % 4))], hcIa D hp4 512 (σ ((0 + 3) / 4)).1, hcIa D hq4 512 (σ ((0 + 3) / 4)).2.1, hcBa D hz4 4 (fun _ => 0), hcBa D hk4 16 (hcMk (hcCe L xs)), hcBa D hv4 16 (hcMv (hcCe L xs)), hcOb dk2 0 [.ref he2, .int 1, .int (nI (a + c0)), .ref jk2, .ref jn2, .ref jt2, .int (nI sz), .ref jp], hcBa D jt2 256 (hcTx (hcCe L xs) 8), hcOb he2 1 [.ref hp2, .ref hq2, .int (nI (σ ((a + c0 + 3) / 4)).2.2), .ref hk2, .ref hv2, .int 1, .ref hz2, .int (nI ((a + c0) % 4))], hcIa D hp2 512 (σ ((a + c0 + 3) / 4)).1, hcIa D hq2 512 (σ ((a + c0 + 3) / 4)).2.1, hcBa D hz2 4 B2, hcBa D hk2 16 (hcMk (hcCe L xs)), hcBa D hv2 16 (hcMv (hcCe L xs)), hcBa D jp c0 (hcXo σ (hcTx (hcCe L xs) 8) a a)] H := hP
        have hD : va_D A [hcOb dk1 0 [.ref he1, .int 1, .int (nI (0 + sz)), .ref jk1, .ref jn1, .ref jt1, .int (nI sz), .ref jr], hcBa D jr sz (hcXo σ (hcTx (hcCe L xs) 8) 0 0), hcOb dk3 0 [.ref he3, .int 1, .int (nI 0), .ref jk3, .ref jn3, .ref jt3, .int (nI sz), .ref jo3], hcBa D jt3 256 (hcTx (hcCe L xs) 8), hcOb he3 1 [.ref hp3, .ref hq3, .int (nI (σ ((0 + 3) / 4)).2.2), .ref hk3, .ref hv3, .int 1, .ref hz3, .int (nI (0 % 4))], hcIa D hp3 512 (σ ((0 + 3) / 4)).1, hcIa D hq3 512 (σ ((0 + 3) / 4)).2.1, hcBa D hz3 4 (fun _ => 0), hcBa D hk3 16 (hcMk (hcCe L xs)), hcBa D hv3 16 (hcMv (hcCe L xs)), hcOb dk4 0 [.ref he4, .int 1, .int (nI 0), .ref jk4, .ref jn4, .ref jt4, .int (nI sz), .ref jo4], hcBa D jt4 256 (hcTx (hcCe L xs) 8), hcOb he4 1 [.ref hp4, .ref hq4, .int (nI (σ ((0 + 3) / 4)).2.2), .ref hk4, .ref hv4, .int 1, .ref hz4, .int (nI (0 % 4))], hcIa D hp4 512 (σ ((0 + 3) / 4)).1, hcIa D hq4 512 (σ ((0 + 3) / 4)).2.1, hcBa D hz4 4 (fun _ => 0), hcBa D hk4 16 (hcMk (hcCe L xs)), hcBa D hv4 16 (hcMv (hcCe L xs)), hcOb dk2 0 [.ref he2, .int 1, .int (nI (a + c0)), .ref jk2, .ref jn2, .ref jt2, .int (nI sz), .ref jp], hcBa D jt2 256 (hcTx (hcCe L xs) 8), hcOb he2 1 [.ref hp2, .ref hq2, .int (nI (σ ((a + c0 + 3) / 4)).2.2), .ref hk2, .ref hv2, .int 1, .ref hz2, .int (nI ((a + c0) % 4))], hcIa D hp2 512 (σ ((a + c0 + 3) / 4)).1, hcIa D hq2 512 (σ ((a + c0 + 3) / 4)).2.1, hcBa D hz2 4 B2, hcBa D hk2 16 (hcMk (hcCe L xs)), hcBa D hv2 16 (hcMv (hcCe L xs)), hcBa D jp c0 (hcXo σ (hcTx (hcCe L xs) 8) a a)] := hD
        obtain ⟨rfl, hBn⟩ := hw
        have hBn : hcOk σ (a + c0) B2 := hBn
        have hP : va_P D vwCl [hcOb dk1 0 [.ref he1, .int 1, .int (nI (0 + sz)), .ref jk1, .ref jn1, .ref jt1, .int (nI sz), .ref jr], hcBa D jr sz (hcXo σ (hcTx (hcCe L xs) 8) 0 0), hcOb dk2 0 [.ref he2, .int 1, .int (nI (a + c0)), .ref jk2, .ref jn2, .ref jt2, .int (nI sz), .ref jp], hcBa D jt2 256 (hcTx (hcCe L xs) 8), hcOb he2 1 [.ref hp2, .ref hq2, .int (nI (σ ((a + c0 + 3) / 4)).2.2), .ref hk2, .ref hv2, .int 1, .ref hz2, .int (nI ((a + c0) % 4))], hcIa D hp2 512 (σ ((a + c0 + 3) / 4)).1, hcIa D hq2 512 (σ ((a + c0 + 3) / 4)).2.1, hcBa D hz2 4 B2, hcBa D hk2 16 (hcMk (hcCe L xs)), hcBa D hv2 16 (hcMv (hcCe L xs)), hcOb dk3 0 [.ref he3, .int 1, .int (nI 0), .ref jk3, .ref jn3, .ref jt3, .int (nI sz), .ref jo3], hcBa D jt3 256 (hcTx (hcCe L xs) 8), hcOb he3 1 [.ref hp3, .ref hq3, .int (nI (σ ((0 + 3) / 4)).2.2), .ref hk3, .ref hv3, .int 1, .ref hz3, .int (nI (0 % 4))], hcIa D hp3 512 (σ ((0 + 3) / 4)).1, hcIa D hq3 512 (σ ((0 + 3) / 4)).2.1, hcBa D hz3 4 (fun _ => 0), hcBa D hk3 16 (hcMk (hcCe L xs)), hcBa D hv3 16 (hcMv (hcCe L xs)), hcOb dk4 0 [.ref he4, .int 1, .int (nI 0), .ref jk4, .ref jn4, .ref jt4, .int (nI sz), .ref jo4], hcBa D jt4 256 (hcTx (hcCe L xs) 8), hcOb he4 1 [.ref hp4, .ref hq4, .int (nI (σ ((0 + 3) / 4)).2.2), .ref hk4, .ref hv4, .int 1, .ref hz4, .int (nI (0 % 4))], hcIa D hp4 512 (σ ((0 + 3) / 4)).1, hcIa D hq4 512 (σ ((0 + 3) / 4)).2.1, hcBa D hz4 4 (fun _ => 0), hcBa D hk4 16 (hcMk (hcCe L xs)), hcBa D hv4 16 (hcMv (hcCe L xs)), hcBa D jp c0 (hcXo σ (hcTx (hcCe L xs) 8) a a)] H := hc_psub hP [0, 1, 18, 19, 20, 21, 22, 23, 24, 25, 2, 3, 4, 5, 6, 7, 8, 9, 10, 11, 12, 13, 14, 15, 16, 17, 26] rfl
        have hD : va_D A [hcOb dk1 0 [.ref he1, .int 1, .int (nI (0 + sz)), .ref jk1, .ref jn1, .ref jt1, .int (nI sz), .ref jr], hcBa D jr sz (hcXo σ (hcTx (hcCe L xs) 8) 0 0), hcOb dk2 0 [.ref he2, .int 1, .int (nI (a + c0)), .ref jk2, .ref jn2, .ref jt2, .int (nI sz), .ref jp], hcBa D jt2 256 (hcTx (hcCe L xs) 8), hcOb he2 1 [.ref hp2, .ref hq2, .int (nI (σ ((a + c0 + 3) / 4)).2.2), .ref hk2, .ref hv2, .int 1, .ref hz2, .int (nI ((a + c0) % 4))], hcIa D hp2 512 (σ ((a + c0 + 3) / 4)).1, hcIa D hq2 512 (σ ((a + c0 + 3) / 4)).2.1, hcBa D hz2 4 B2, hcBa D hk2 16 (hcMk (hcCe L xs)), hcBa D hv2 16 (hcMv (hcCe L xs)), hcOb dk3 0 [.ref he3, .int 1, .int (nI 0), .ref jk3, .ref jn3, .ref jt3, .int (nI sz), .ref jo3], hcBa D jt3 256 (hcTx (hcCe L xs) 8), hcOb he3 1 [.ref hp3, .ref hq3, .int (nI (σ ((0 + 3) / 4)).2.2), .ref hk3, .ref hv3, .int 1, .ref hz3, .int (nI (0 % 4))], hcIa D hp3 512 (σ ((0 + 3) / 4)).1, hcIa D hq3 512 (σ ((0 + 3) / 4)).2.1, hcBa D hz3 4 (fun _ => 0), hcBa D hk3 16 (hcMk (hcCe L xs)), hcBa D hv3 16 (hcMv (hcCe L xs)), hcOb dk4 0 [.ref he4, .int 1, .int (nI 0), .ref jk4, .ref jn4, .ref jt4, .int (nI sz), .ref jo4], hcBa D jt4 256 (hcTx (hcCe L xs) 8), hcOb he4 1 [.ref hp4, .ref hq4, .int (nI (σ ((0 + 3) / 4)).2.2), .ref hk4, .ref hv4, .int 1, .ref hz4, .int (nI (0 % 4))], hcIa D hp4 512 (σ ((0 + 3) / 4)).1, hcIa D hq4 512 (σ ((0 + 3) / 4)).2.1, hcBa D hz4 4 (fun _ => 0), hcBa D hk4 16 (hcMk (hcCe L xs)), hcBa D hv4 16 (hcMv (hcCe L xs)), hcBa D jp c0 (hcXo σ (hcTx (hcCe L xs) 8) a a)] := hD.sub [0, 1, 18, 19, 20, 21, 22, 23, 24, 25, 2, 3, 4, 5, 6, 7, 8, 9, 10, 11, 12, 13, 14, 15, 16, 17, 26] (by decide) rfl
        refine lv_iload hx hb dL_law_114 (lv_at hl 0 rfl) ?_
        refine lv_icmp_eq (tgt := 121) hx hb dL_law_116 (by decide) (fun _ => ?_) (fun hc => absurd (rfl) hc)
        refine lv_iconst (v := 0) hx hb dL_law_121 (by decide) ?_
        refine lv_istore (lv' := [(9, .int 0), (8, .int (nI c0)), (7, .int (nI (14 + i))), (6, .int (nI a)), (5, .int (nI sz)), (4, .ref dk4), (3, .ref dk3), (2, .ref dk2), (1, .ref dk1), (0, .ref b)]) hx hb dL_law_122 hl (by decide) rfl (fun ls hl => ?_)
        have LB : ∀ (d2 j : Nat) (ls : Array Slot), j + d2 = c0 → lv_has ls 10 [(9, .int (nI j)), (8, .int (nI c0)), (7, .int (nI (14 + i))), (6, .int (nI a)), (5, .int (nI sz)), (4, .ref dk4), (3, .ref dk3), (2, .ref dk2), (1, .ref dk1), (0, .ref b)] → W p l e room_1 s m #[Value.ref b] below meth c H locs (103 + i + 1) (19263 + 256 * i + 256) (lw_Z below #[Value.ref b] s) (F0 m 124 ls []) := by
          intro d2
          induction d2 with
          | zero =>
            intro j ls hj hl
            obtain rfl : j = c0 := by omega
            refine lv_iload hx hb dL_law_124 (lv_at hl 0 rfl) ?_
            refine lv_iload hx hb dL_law_126 (lv_at hl 1 rfl) ?_
            refine lv_icmp_ge (tgt := 157) hx hb dL_law_128 (by decide) (fun _ => ?_) (fun hc => absurd (nI_le (a := j) (b := j) (Nat.le_refl _) (by omega)) hc)
            refine lv_iload hx hb dL_law_157 (lv_at hl 3 rfl) ?_
            refine lv_iload hx hb dL_law_159 (lv_at hl 1 rfl) ?_
            refine lv_iadd hx hb dL_law_161 ?_
            refine hc_top (y := nI (a + j)) (nI_add _ _) ?_
            refine lv_istore (lv' := [(6, .int (nI (a + j))), (9, .int (nI j)), (8, .int (nI j)), (7, .int (nI (14 + i))), (5, .int (nI sz)), (4, .ref dk4), (3, .ref dk3), (2, .ref dk2), (1, .ref dk1), (0, .ref b)]) hx hb dL_law_162 hl (by decide) rfl (fun ls hl => ?_)
            refine lv_iinc (v := nI (14 + (i + 1))) (lv' := [(7, .int (nI (14 + (i + 1)))), (6, .int (nI (a + j))), (9, .int (nI j)), (8, .int (nI j)), (5, .int (nI sz)), (4, .ref dk4), (3, .ref dk3), (2, .ref dk2), (1, .ref dk1), (0, .ref b)]) hx hb dL_law_164 hl (k := 3) rfl ((nI_1 (14 + i)).trans (congrArg nI (by omega))) (by decide) rfl (fun ls hl => ?_)
            refine lv_goto (tgt := 65) hx hb dL_law_167 (by decide) ?_
            have hP : va_P D vwCl [hcOb dk1 0 [.ref he1, .int 1, .int (nI (0 + sz)), .ref jk1, .ref jn1, .ref jt1, .int (nI sz), .ref jr], hcBa D jr sz (hcXo σ (hcTx (hcCe L xs) 8) 0 0), hcOb dk2 0 [.ref he2, .int 1, .int (nI (a + j)), .ref jk2, .ref jn2, .ref jt2, .int (nI sz), .ref jp], hcBa D jt2 256 (hcTx (hcCe L xs) 8), hcOb he2 1 [.ref hp2, .ref hq2, .int (nI (σ ((a + j + 3) / 4)).2.2), .ref hk2, .ref hv2, .int 1, .ref hz2, .int (nI ((a + j) % 4))], hcIa D hp2 512 (σ ((a + j + 3) / 4)).1, hcIa D hq2 512 (σ ((a + j + 3) / 4)).2.1, hcBa D hz2 4 B2, hcBa D hk2 16 (hcMk (hcCe L xs)), hcBa D hv2 16 (hcMv (hcCe L xs)), hcOb dk3 0 [.ref he3, .int 1, .int (nI 0), .ref jk3, .ref jn3, .ref jt3, .int (nI sz), .ref jo3], hcBa D jt3 256 (hcTx (hcCe L xs) 8), hcOb he3 1 [.ref hp3, .ref hq3, .int (nI (σ ((0 + 3) / 4)).2.2), .ref hk3, .ref hv3, .int 1, .ref hz3, .int (nI (0 % 4))], hcIa D hp3 512 (σ ((0 + 3) / 4)).1, hcIa D hq3 512 (σ ((0 + 3) / 4)).2.1, hcBa D hz3 4 (fun _ => 0), hcBa D hk3 16 (hcMk (hcCe L xs)), hcBa D hv3 16 (hcMv (hcCe L xs)), hcOb dk4 0 [.ref he4, .int 1, .int (nI 0), .ref jk4, .ref jn4, .ref jt4, .int (nI sz), .ref jo4], hcBa D jt4 256 (hcTx (hcCe L xs) 8), hcOb he4 1 [.ref hp4, .ref hq4, .int (nI (σ ((0 + 3) / 4)).2.2), .ref hk4, .ref hv4, .int 1, .ref hz4, .int (nI (0 % 4))], hcIa D hp4 512 (σ ((0 + 3) / 4)).1, hcIa D hq4 512 (σ ((0 + 3) / 4)).2.1, hcBa D hz4 4 (fun _ => 0), hcBa D hk4 16 (hcMk (hcCe L xs)), hcBa D hv4 16 (hcMv (hcCe L xs))] H := hc_psub hP [0, 1, 2, 3, 4, 5, 6, 7, 8, 9, 10, 11, 12, 13, 14, 15, 16, 17, 18, 19, 20, 21, 22, 23, 24, 25] rfl
            have hD : va_D A [hcOb dk1 0 [.ref he1, .int 1, .int (nI (0 + sz)), .ref jk1, .ref jn1, .ref jt1, .int (nI sz), .ref jr], hcBa D jr sz (hcXo σ (hcTx (hcCe L xs) 8) 0 0), hcOb dk2 0 [.ref he2, .int 1, .int (nI (a + j)), .ref jk2, .ref jn2, .ref jt2, .int (nI sz), .ref jp], hcBa D jt2 256 (hcTx (hcCe L xs) 8), hcOb he2 1 [.ref hp2, .ref hq2, .int (nI (σ ((a + j + 3) / 4)).2.2), .ref hk2, .ref hv2, .int 1, .ref hz2, .int (nI ((a + j) % 4))], hcIa D hp2 512 (σ ((a + j + 3) / 4)).1, hcIa D hq2 512 (σ ((a + j + 3) / 4)).2.1, hcBa D hz2 4 B2, hcBa D hk2 16 (hcMk (hcCe L xs)), hcBa D hv2 16 (hcMv (hcCe L xs)), hcOb dk3 0 [.ref he3, .int 1, .int (nI 0), .ref jk3, .ref jn3, .ref jt3, .int (nI sz), .ref jo3], hcBa D jt3 256 (hcTx (hcCe L xs) 8), hcOb he3 1 [.ref hp3, .ref hq3, .int (nI (σ ((0 + 3) / 4)).2.2), .ref hk3, .ref hv3, .int 1, .ref hz3, .int (nI (0 % 4))], hcIa D hp3 512 (σ ((0 + 3) / 4)).1, hcIa D hq3 512 (σ ((0 + 3) / 4)).2.1, hcBa D hz3 4 (fun _ => 0), hcBa D hk3 16 (hcMk (hcCe L xs)), hcBa D hv3 16 (hcMv (hcCe L xs)), hcOb dk4 0 [.ref he4, .int 1, .int (nI 0), .ref jk4, .ref jn4, .ref jt4, .int (nI sz), .ref jo4], hcBa D jt4 256 (hcTx (hcCe L xs) 8), hcOb he4 1 [.ref hp4, .ref hq4, .int (nI (σ ((0 + 3) / 4)).2.2), .ref hk4, .ref hv4, .int 1, .ref hz4, .int (nI (0 % 4))], hcIa D hp4 512 (σ ((0 + 3) / 4)).1, hcIa D hq4 512 (σ ((0 + 3) / 4)).2.1, hcBa D hz4 4 (fun _ => 0), hcBa D hk4 16 (hcMk (hcCe L xs)), hcBa D hv4 16 (hcMv (hcCe L xs))] := hD.sub [0, 1, 2, 3, 4, 5, 6, 7, 8, 9, 10, 11, 12, 13, 14, 15, 16, 17, 18, 19, 20, 21, 22, 23, 24, 25] (by decide) rfl
            have hl : lv_has ls 10 [(7, .int (nI (14 + (i + 1)))), (6, .int (nI (a + j))), (5, .int (nI sz)), (4, .ref dk4), (3, .ref dk3), (2, .ref dk2), (1, .ref dk1), (0, .ref b)] := lv_sub hl [0, 1, 4, 5, 6, 7, 8, 9] rfl
            refine W.widen (k := 103 + (i + 1)) (n := 19263 + 256 * (i + 1)) (by omega) (by omega) ?_
            exact ih (i + 1) (a + j) (.ref jp) B2 H locs ls (by omega) (by omega) hBn hP hD hS hl kx
          | succ d2 ihB =>
            intro j ls hj hl
            have hlj : j < c0 := by omega
            refine lv_iload hx hb dL_law_124 (lv_at hl 0 rfl) ?_
            refine lv_iload hx hb dL_law_126 (lv_at hl 1 rfl) ?_
            refine lv_icmp_ge (tgt := 157) hx hb dL_law_128 (by decide) (fun hc => absurd hc (nI_ge (a := j) (b := c0) hlj (by omega))) (fun _ => ?_)
            refine lv_aload_n hx hb dL_law_131 rfl (lv_at hl 7 rfl) ?_
            refine lv_iload hx hb dL_law_132 (lv_at hl 0 rfl) ?_
            refine hc_oV (met_out l D dk2 jk2 jn2 jt2 (.ref he2) (.int 1) (.int (nI (a + c0))) (.int (nI sz)) jp c0 j (hcXo σ (hcTx (hcCe L xs) 8) a a) hlj (by omega)) ⟨hx, hb, hml, hown, hts⟩ (cwV 1 hts (lw_V q237 q238 q239 q11 q240) rfl rfl rfl (by decide +kernel) ⟨Nat.le_of_ble_eq_true rfl, Nat.le_of_ble_eq_true rfl⟩) hcBl_no (hc_no _ _) hK hP hD [2, 26] (by decide) rfl 2 (ci := 0) rfl rfl rfl rfl hl.1 rfl (Nat.le_of_ble_eq_true rfl) dL_law_134 ⟨by show 103 + i + 1 ≤ 600128; omega, by show 19263 + 256 * i + 256 ≤ 7301098; omega⟩ ?_
            refine lv_aload_n hx hb dL_law_137 rfl (lv_at hl 8 rfl) ?_
            refine lv_iload hx hb dL_law_138 (lv_at hl 3 rfl) ?_
            refine lv_iload hx hb dL_law_140 (lv_at hl 0 rfl) ?_
            refine lv_iadd hx hb dL_law_142 ?_
            refine hc_top (y := nI (a + j)) (nI_add _ _) ?_
            refine hc_oV (met_out l D dk1 jk1 jn1 jt1 (.ref he1) (.int 1) (.int (nI (0 + sz))) (.int (nI sz)) jr sz (a + j) (hcXo σ (hcTx (hcCe L xs) 8) 0 0) (by omega) (by omega)) ⟨hx, hb, hml, hown, hts⟩ (cwV 1 hts (lw_V q237 q238 q239 q11 q240) rfl rfl rfl (by decide +kernel) ⟨Nat.le_of_ble_eq_true rfl, Nat.le_of_ble_eq_true rfl⟩) hcBl_no (hc_no _ _) hK hP hD [0, 1] (by decide) rfl 0 (ci := 0) rfl rfl rfl rfl hl.1 rfl (Nat.le_of_ble_eq_true rfl) dL_law_143 ⟨by show 103 + i + 1 ≤ 600128; omega, by show 19263 + 256 * i + 256 ≤ 7301098; omega⟩ ?_
            refine lv_icmp_eq (tgt := 151) hx hb dL_law_146 (by decide) (fun _ => ?_) (fun hc => absurd (congrArg (fun x => x &&& 255) (hcXo_at σ (hcTx (hcCe L xs) 8) a j)) hc)
            refine lv_iinc (v := nI (j + 1)) (lv' := [(9, .int (nI (j + 1))), (8, .int (nI c0)), (7, .int (nI (14 + i))), (6, .int (nI a)), (5, .int (nI sz)), (4, .ref dk4), (3, .ref dk3), (2, .ref dk2), (1, .ref dk1), (0, .ref b)]) hx hb dL_law_151 hl (k := 0) rfl (nI_1 j) (by decide) rfl (fun ls hl => ?_)
            refine lv_goto (tgt := 124) hx hb dL_law_154 (by decide) ?_
            have hl : lv_has ls 10 [(9, .int (nI (j + 1))), (8, .int (nI c0)), (7, .int (nI (14 + i))), (6, .int (nI a)), (5, .int (nI sz)), (4, .ref dk4), (3, .ref dk3), (2, .ref dk2), (1, .ref dk1), (0, .ref b)] := lv_sub hl [0, 1, 2, 3, 4, 5, 6, 7, 8, 9] rfl
            exact ihB (j + 1) ls (by omega) hl
        exact LB c0 0 ls (by omega) hl
      refine lv_iload hx hb dL_law_65 (lv_at hl 0 rfl) ?_
      refine lv_bipush (v := 19) hx hb dL_law_67 (by decide) ?_
      refine lv_icmp_ge (tgt := 170) hx hb dL_law_69 (by decide) (fun hc => absurd hc (nI_ge (a := 14 + i) (b := 19) (by omega) (by omega))) (fun _ => ?_)
      refine lv_iload hx hb dL_law_72 (lv_at hl 0 rfl) ?_
      refine lv_bipush (v := 18) hx hb dL_law_74 (by decide) ?_
      by_cases h18 : i = 4
      · skip
        refine lv_icmp_ne (tgt := 87) hx hb dL_law_76 (by decide) (fun hc => absurd (by rw [h18]; rfl) hc) (fun _ => ?_)
        refine lv_iload hx hb dL_law_79 (lv_at hl 2 rfl) ?_
        refine lv_iload hx hb dL_law_81 (lv_at hl 1 rfl) ?_
        refine lv_isub hx hb dL_law_83 ?_
        refine hc_top (y := nI (sz - a)) (pk_sub ha) ?_
        refine lv_goto (tgt := 104) hx hb dL_law_84 (by decide) ?_
        exact tail (sz - a) (Nat.le_refl _)
      · skip
        refine lv_icmp_ne (tgt := 87) hx hb dL_law_76 (by decide) (fun _ => ?_) (fun hc => absurd hc (fun h => h18 (by have := (nI_eq (a := 14 + i) (b := 18) (by omega) (by omega)).mp h; omega)))
        refine lv_aload_n hx hb dL_law_87 rfl (lv_at hl 7 rfl) ?_
        refine lv_iload hx hb dL_law_88 (lv_at hl 0 rfl) ?_
        refine hc_oS (met_cell l D b L xs (14 + i) hL (by omega)) ⟨hx, hb, hml, hown, hts⟩ (va_cwS 2 hts (lw_S q241 q242 q10 q243) rfl rfl rfl (by decide +kernel) ⟨Nat.le_of_ble_eq_true rfl, Nat.le_of_ble_eq_true rfl⟩) (hcBl_xs _ _ _) (hc_xs_of hX hbl hbA hS) hK hP hD [] (by decide) rfl rfl hl.1 rfl (Nat.le_of_ble_eq_true rfl) dL_law_90 ⟨by show 103 + i ≤ 600128; omega, by show 19263 + 256 * i ≤ 7301098; omega⟩ ?_
        refine lv_ldc hx hb hown (hts _ q386) dL_law_93 ?_
        refine lv_iand hx hb dL_law_95 ?_
        refine hc_top (y := nI (hcM (hcCe L xs (14 + i)))) (hcM_and _) ?_
        refine lv_iload hx hb dL_law_96 (lv_at hl 2 rfl) ?_
        refine lv_iload hx hb dL_law_98 (lv_at hl 1 rfl) ?_
        refine lv_isub hx hb dL_law_100 ?_
        refine hc_top (y := nI (sz - a)) (pk_sub ha) ?_
        refine lv_iconst (v := 1) hx hb dL_law_101 (by decide) ?_
        refine lv_iadd hx hb dL_law_102 ?_
        refine hc_top (y := nI (sz - a + 1)) (nI_1 _) ?_
        refine lv_irem hx hb dL_law_103 (hc_ne0 (Nat.succ_pos _) (by omega)) ?_
        refine hc_top (y := nI (hcM (hcCe L xs (14 + i)) % (sz - a + 1))) (hc_rem (hcM_lt _) (Nat.succ_pos _) (by omega)) ?_
        exact tail _ (Nat.le_of_lt_succ (Nat.mod_lt _ (Nat.succ_pos _)))
  refine LA 5 0 0 (.ref jo2) (fun _ => 0) H locs ls rfl (Nat.zero_le _) (fun h => absurd rfl h) hP hD hS (lv_sub hl [0, 1, 2, 3, 4, 5, 6, 7] rfl) ?_
  clear LA hP hD hS hl
  intro H locs ls hP hD hS hl
  refine lv_iconst (v := 0) hx hb dL_law_170 (by decide) ?_
  refine lv_istore (lv' := [(7, .int 0), (5, .int (nI sz)), (4, .ref dk4), (3, .ref dk3), (2, .ref dk2), (1, .ref dk1), (0, .ref b)]) hx hb dL_law_171 hl (by decide) rfl (fun ls hl => ?_)
  have LC : ∀ (d i : Nat) (B3 B4 : Nat → Int32) (H : Heap) (locs : List Loc) (ls : Array Slot), i + d = sz → hcOk σ i B3 → hcOk σ i B4 → va_P D vwCl [hcOb dk1 0 [.ref he1, .int 1, .int (nI (0 + sz)), .ref jk1, .ref jn1, .ref jt1, .int (nI sz), .ref jr], hcBa D jr sz (hcXo σ (hcTx (hcCe L xs) 8) 0 0), hcOb dk3 0 [.ref he3, .int 1, .int (nI i), .ref jk3, .ref jn3, .ref jt3, .int (nI sz), .ref jo3], hcBa D jt3 256 (hcTx (hcCe L xs) 8), hcOb he3 1 [.ref hp3, .ref hq3, .int (nI (σ ((i + 3) / 4)).2.2), .ref hk3, .ref hv3, .int 1, .ref hz3, .int (nI (i % 4))], hcIa D hp3 512 (σ ((i + 3) / 4)).1, hcIa D hq3 512 (σ ((i + 3) / 4)).2.1, hcBa D hz3 4 B3, hcBa D hk3 16 (hcMk (hcCe L xs)), hcBa D hv3 16 (hcMv (hcCe L xs)), hcOb dk4 0 [.ref he4, .int 1, .int (nI i), .ref jk4, .ref jn4, .ref jt4, .int (nI sz), .ref jo4], hcBa D jt4 256 (hcTx (hcCe L xs) 8), hcOb he4 1 [.ref hp4, .ref hq4, .int (nI (σ ((i + 3) / 4)).2.2), .ref hk4, .ref hv4, .int 1, .ref hz4, .int (nI (i % 4))], hcIa D hp4 512 (σ ((i + 3) / 4)).1, hcIa D hq4 512 (σ ((i + 3) / 4)).2.1, hcBa D hz4 4 B4, hcBa D hk4 16 (hcMk (hcCe L xs)), hcBa D hv4 16 (hcMv (hcCe L xs))] H → va_D A [hcOb dk1 0 [.ref he1, .int 1, .int (nI (0 + sz)), .ref jk1, .ref jn1, .ref jt1, .int (nI sz), .ref jr], hcBa D jr sz (hcXo σ (hcTx (hcCe L xs) 8) 0 0), hcOb dk3 0 [.ref he3, .int 1, .int (nI i), .ref jk3, .ref jn3, .ref jt3, .int (nI sz), .ref jo3], hcBa D jt3 256 (hcTx (hcCe L xs) 8), hcOb he3 1 [.ref hp3, .ref hq3, .int (nI (σ ((i + 3) / 4)).2.2), .ref hk3, .ref hv3, .int 1, .ref hz3, .int (nI (i % 4))], hcIa D hp3 512 (σ ((i + 3) / 4)).1, hcIa D hq3 512 (σ ((i + 3) / 4)).2.1, hcBa D hz3 4 B3, hcBa D hk3 16 (hcMk (hcCe L xs)), hcBa D hv3 16 (hcMv (hcCe L xs)), hcOb dk4 0 [.ref he4, .int 1, .int (nI i), .ref jk4, .ref jn4, .ref jt4, .int (nI sz), .ref jo4], hcBa D jt4 256 (hcTx (hcCe L xs) 8), hcOb he4 1 [.ref hp4, .ref hq4, .int (nI (σ ((i + 3) / 4)).2.2), .ref hk4, .ref hv4, .int 1, .ref hz4, .int (nI (i % 4))], hcIa D hp4 512 (σ ((i + 3) / 4)).1, hcIa D hq4 512 (σ ((i + 3) / 4)).2.1, hcBa D hz4 4 B4, hcBa D hk4 16 (hcMk (hcCe L xs)), hcBa D hv4 16 (hcMv (hcCe L xs))] → va_S A s.heap H locs → lv_has ls 10 [(7, .int (nI i)), (5, .int (nI sz)), (4, .ref dk4), (3, .ref dk3), (2, .ref dk2), (1, .ref dk1), (0, .ref b)] → (∀ (B3 : Nat → Int32) (H : Heap) (locs : List Loc) (ls : Array Slot), va_P D vwCl [hcOb dk1 0 [.ref he1, .int 1, .int (nI (0 + sz)), .ref jk1, .ref jn1, .ref jt1, .int (nI sz), .ref jr], hcBa D jr sz (hcXo σ (hcTx (hcCe L xs) 8) 0 0), hcOb dk3 0 [.ref he3, .int 1, .int (nI sz), .ref jk3, .ref jn3, .ref jt3, .int (nI sz), .ref jo3], hcBa D jt3 256 (hcTx (hcCe L xs) 8), hcOb he3 1 [.ref hp3, .ref hq3, .int (nI (σ ((sz + 3) / 4)).2.2), .ref hk3, .ref hv3, .int 1, .ref hz3, .int (nI (sz % 4))], hcIa D hp3 512 (σ ((sz + 3) / 4)).1, hcIa D hq3 512 (σ ((sz + 3) / 4)).2.1, hcBa D hz3 4 B3, hcBa D hk3 16 (hcMk (hcCe L xs)), hcBa D hv3 16 (hcMv (hcCe L xs))] H → va_D A [hcOb dk1 0 [.ref he1, .int 1, .int (nI (0 + sz)), .ref jk1, .ref jn1, .ref jt1, .int (nI sz), .ref jr], hcBa D jr sz (hcXo σ (hcTx (hcCe L xs) 8) 0 0), hcOb dk3 0 [.ref he3, .int 1, .int (nI sz), .ref jk3, .ref jn3, .ref jt3, .int (nI sz), .ref jo3], hcBa D jt3 256 (hcTx (hcCe L xs) 8), hcOb he3 1 [.ref hp3, .ref hq3, .int (nI (σ ((sz + 3) / 4)).2.2), .ref hk3, .ref hv3, .int 1, .ref hz3, .int (nI (sz % 4))], hcIa D hp3 512 (σ ((sz + 3) / 4)).1, hcIa D hq3 512 (σ ((sz + 3) / 4)).2.1, hcBa D hz3 4 B3, hcBa D hk3 16 (hcMk (hcCe L xs)), hcBa D hv3 16 (hcMv (hcCe L xs))] → va_S A s.heap H locs → lv_has ls 10 [(5, .int (nI sz)), (4, .ref dk4), (3, .ref dk3), (2, .ref dk2), (1, .ref dk1), (0, .ref b)] → W p l e room_1 s m #[Value.ref b] below meth c H locs 108 20543 (lw_Z below #[Value.ref b] s) (F0 m 247 ls [])) → W p l e room_1 s m #[Value.ref b] below meth c H locs 108 20543 (lw_Z below #[Value.ref b] s) (F0 m 173 ls []) := by
    intro d
    induction d with
    | zero =>
      intro i B3 B4 H locs ls hi hB3 hB4 hP hD hS hl kx
      have hi : i = sz := by omega
      rw [hi] at hP hD hl
      have hP : va_P D vwCl [hcOb dk1 0 [.ref he1, .int 1, .int (nI (0 + sz)), .ref jk1, .ref jn1, .ref jt1, .int (nI sz), .ref jr], hcBa D jr sz (hcXo σ (hcTx (hcCe L xs) 8) 0 0), hcOb dk3 0 [.ref he3, .int 1, .int (nI sz), .ref jk3, .ref jn3, .ref jt3, .int (nI sz), .ref jo3], hcBa D jt3 256 (hcTx (hcCe L xs) 8), hcOb he3 1 [.ref hp3, .ref hq3, .int (nI (σ ((sz + 3) / 4)).2.2), .ref hk3, .ref hv3, .int 1, .ref hz3, .int (nI (sz % 4))], hcIa D hp3 512 (σ ((sz + 3) / 4)).1, hcIa D hq3 512 (σ ((sz + 3) / 4)).2.1, hcBa D hz3 4 B3, hcBa D hk3 16 (hcMk (hcCe L xs)), hcBa D hv3 16 (hcMv (hcCe L xs)), hcOb dk4 0 [.ref he4, .int 1, .int (nI sz), .ref jk4, .ref jn4, .ref jt4, .int (nI sz), .ref jo4], hcBa D jt4 256 (hcTx (hcCe L xs) 8), hcOb he4 1 [.ref hp4, .ref hq4, .int (nI (σ ((sz + 3) / 4)).2.2), .ref hk4, .ref hv4, .int 1, .ref hz4, .int (nI (sz % 4))], hcIa D hp4 512 (σ ((sz + 3) / 4)).1, hcIa D hq4 512 (σ ((sz + 3) / 4)).2.1, hcBa D hz4 4 B4, hcBa D hk4 16 (hcMk (hcCe L xs)), hcBa D hv4 16 (hcMv (hcCe L xs))] H := hP
      have hD : va_D A [hcOb dk1 0 [.ref he1, .int 1, .int (nI (0 + sz)), .ref jk1, .ref jn1, .ref jt1, .int (nI sz), .ref jr], hcBa D jr sz (hcXo σ (hcTx (hcCe L xs) 8) 0 0), hcOb dk3 0 [.ref he3, .int 1, .int (nI sz), .ref jk3, .ref jn3, .ref jt3, .int (nI sz), .ref jo3], hcBa D jt3 256 (hcTx (hcCe L xs) 8), hcOb he3 1 [.ref hp3, .ref hq3, .int (nI (σ ((sz + 3) / 4)).2.2), .ref hk3, .ref hv3, .int 1, .ref hz3, .int (nI (sz % 4))], hcIa D hp3 512 (σ ((sz + 3) / 4)).1, hcIa D hq3 512 (σ ((sz + 3) / 4)).2.1, hcBa D hz3 4 B3, hcBa D hk3 16 (hcMk (hcCe L xs)), hcBa D hv3 16 (hcMv (hcCe L xs)), hcOb dk4 0 [.ref he4, .int 1, .int (nI sz), .ref jk4, .ref jn4, .ref jt4, .int (nI sz), .ref jo4], hcBa D jt4 256 (hcTx (hcCe L xs) 8), hcOb he4 1 [.ref hp4, .ref hq4, .int (nI (σ ((sz + 3) / 4)).2.2), .ref hk4, .ref hv4, .int 1, .ref hz4, .int (nI (sz % 4))], hcIa D hp4 512 (σ ((sz + 3) / 4)).1, hcIa D hq4 512 (σ ((sz + 3) / 4)).2.1, hcBa D hz4 4 B4, hcBa D hk4 16 (hcMk (hcCe L xs)), hcBa D hv4 16 (hcMv (hcCe L xs))] := hD
      refine lv_iload hx hb dL_law_173 (lv_at hl 0 rfl) ?_
      refine lv_iload hx hb dL_law_175 (lv_at hl 1 rfl) ?_
      refine lv_icmp_ge (tgt := 247) hx hb dL_law_177 (by decide) (fun _ => ?_) (fun hc => absurd (nI_le (a := sz) (b := sz) (Nat.le_refl _) (by omega)) hc)
      have hP : va_P D vwCl [hcOb dk1 0 [.ref he1, .int 1, .int (nI (0 + sz)), .ref jk1, .ref jn1, .ref jt1, .int (nI sz), .ref jr], hcBa D jr sz (hcXo σ (hcTx (hcCe L xs) 8) 0 0), hcOb dk3 0 [.ref he3, .int 1, .int (nI sz), .ref jk3, .ref jn3, .ref jt3, .int (nI sz), .ref jo3], hcBa D jt3 256 (hcTx (hcCe L xs) 8), hcOb he3 1 [.ref hp3, .ref hq3, .int (nI (σ ((sz + 3) / 4)).2.2), .ref hk3, .ref hv3, .int 1, .ref hz3, .int (nI (sz % 4))], hcIa D hp3 512 (σ ((sz + 3) / 4)).1, hcIa D hq3 512 (σ ((sz + 3) / 4)).2.1, hcBa D hz3 4 B3, hcBa D hk3 16 (hcMk (hcCe L xs)), hcBa D hv3 16 (hcMv (hcCe L xs))] H := hc_psub hP [0, 1, 2, 3, 4, 5, 6, 7, 8, 9] rfl
      have hD : va_D A [hcOb dk1 0 [.ref he1, .int 1, .int (nI (0 + sz)), .ref jk1, .ref jn1, .ref jt1, .int (nI sz), .ref jr], hcBa D jr sz (hcXo σ (hcTx (hcCe L xs) 8) 0 0), hcOb dk3 0 [.ref he3, .int 1, .int (nI sz), .ref jk3, .ref jn3, .ref jt3, .int (nI sz), .ref jo3], hcBa D jt3 256 (hcTx (hcCe L xs) 8), hcOb he3 1 [.ref hp3, .ref hq3, .int (nI (σ ((sz + 3) / 4)).2.2), .ref hk3, .ref hv3, .int 1, .ref hz3, .int (nI (sz % 4))], hcIa D hp3 512 (σ ((sz + 3) / 4)).1, hcIa D hq3 512 (σ ((sz + 3) / 4)).2.1, hcBa D hz3 4 B3, hcBa D hk3 16 (hcMk (hcCe L xs)), hcBa D hv3 16 (hcMv (hcCe L xs))] := hD.sub [0, 1, 2, 3, 4, 5, 6, 7, 8, 9] (by decide) rfl
      have hl : lv_has ls 10 [(5, .int (nI sz)), (4, .ref dk4), (3, .ref dk3), (2, .ref dk2), (1, .ref dk1), (0, .ref b)] := lv_sub hl [1, 2, 3, 4, 5, 6] rfl
      exact kx B3 H locs ls hP hD hS hl
    | succ d ih =>
      intro i B3 B4 H locs ls hi hB3 hB4 hP hD hS hl kx
      have hlt : i < sz := by omega
      refine lv_iload hx hb dL_law_173 (lv_at hl 0 rfl) ?_
      refine lv_iload hx hb dL_law_175 (lv_at hl 1 rfl) ?_
      refine lv_icmp_ge (tgt := 247) hx hb dL_law_177 (by decide) (fun hc => absurd hc (nI_ge (a := i) (b := sz) hlt (by omega))) (fun _ => ?_)
      refine lv_aload_n hx hb dL_law_180 rfl (lv_at hl 6 rfl) ?_
      refine lv_bipush (v := 20) hx hb dL_law_181 (by decide) ?_
      refine lv_iload hx hb dL_law_183 (lv_at hl 0 rfl) ?_
      refine lv_iconst (v := 4) hx hb dL_law_185 (by decide) ?_
      refine lv_idiv hx hb dL_law_186 (by decide) ?_
      refine hc_top (y := nI (i / 4)) (pk_div (a := i) (d := 4) (by omega) (by decide) (by decide)) ?_
      refine lv_iadd hx hb dL_law_187 ?_
      refine hc_top (y := nI (20 + i / 4)) (nI_add 20 (i / 4)) ?_
      refine hc_oS (met_cell l D b L xs (20 + i / 4) hL (by omega)) ⟨hx, hb, hml, hown, hts⟩ (va_cwS 2 hts (lw_S q241 q242 q10 q243) rfl rfl rfl (by decide +kernel) ⟨Nat.le_of_ble_eq_true rfl, Nat.le_of_ble_eq_true rfl⟩) (hcBl_xs _ _ _) (hc_xs_of hX hbl hbA hS) hK hP hD [] (by decide) rfl rfl hl.1 rfl (Nat.le_of_ble_eq_true rfl) dL_law_188 ⟨Nat.le_of_ble_eq_true rfl, Nat.le_of_ble_eq_true rfl⟩ ?_
      refine lv_bipush (v := 24) hx hb dL_law_191 (by decide) ?_
      refine lv_bipush (v := 8) hx hb dL_law_193 (by decide) ?_
      refine lv_iload hx hb dL_law_195 (lv_at hl 0 rfl) ?_
      refine lv_iconst (v := 4) hx hb dL_law_197 (by decide) ?_
      refine lv_irem hx hb dL_law_198 (by decide) ?_
      refine hc_top (y := nI (i % 4)) (hc_rem (a := i) (d := 4) (by omega) (by decide) (by decide)) ?_
      refine lv_imul hx hb dL_law_199 ?_
      refine hc_top (y := nI (8 * (i % 4))) (pk_mul 8 (i % 4)) ?_
      refine lv_isub hx hb dL_law_200 ?_
      refine hc_top (y := nI (24 - 8 * (i % 4))) (pk_sub (a := 24) (b := 8 * (i % 4)) (by omega)) ?_
      refine lv_iushr hx hb dL_law_201 rfl ?_
      refine lv_sipush (v := 255) hx hb dL_law_202 (by decide) ?_
      refine lv_iand hx hb dL_law_205 ?_
      refine hc_top (y := hcBb (hcCe L xs) i) (rfl) ?_
      refine lv_istore (lv' := [(8, .int (hcBb (hcCe L xs) i)), (7, .int (nI i)), (5, .int (nI sz)), (4, .ref dk4), (3, .ref dk3), (2, .ref dk2), (1, .ref dk1), (0, .ref b)]) hx hb dL_law_206 hl (by decide) rfl (fun ls hl => ?_)
      refine lv_aload_n hx hb dL_law_208 rfl (lv_at hl 4 rfl) ?_
      refine lv_iload hx hb dL_law_209 (lv_at hl 0 rfl) ?_
      refine hc_iV (wr := [hcOb dk1 0 [.ref he1, .int 1, .int (nI (0 + sz)), .ref jk1, .ref jn1, .ref jt1, .int (nI sz), .ref jr], hcBa D jr sz (hcXo σ (hcTx (hcCe L xs) 8) 0 0), hcBa D jt3 256 (hcTx (hcCe L xs) 8), hcOb dk4 0 [.ref he4, .int 1, .int (nI i), .ref jk4, .ref jn4, .ref jt4, .int (nI sz), .ref jo4], hcBa D jt4 256 (hcTx (hcCe L xs) 8), hcOb he4 1 [.ref hp4, .ref hq4, .int (nI (σ ((i + 3) / 4)).2.2), .ref hk4, .ref hv4, .int 1, .ref hz4, .int (nI (i % 4))], hcIa D hp4 512 (σ ((i + 3) / 4)).1, hcIa D hq4 512 (σ ((i + 3) / 4)).2.1, hcBa D hz4 4 B4, hcBa D hk4 16 (hcMk (hcCe L xs)), hcBa D hv4 16 (hcMv (hcCe L xs))]) (met_one l D dk3 jk3 jn3 jt3 he3 hp3 hq3 hz3 hk3 hv3 (.int (nI sz)) (.ref jo3) (hcMk (hcCe L xs)) (hcMv (hcCe L xs)) σ i i B3 (hcBb (hcCe L xs) i) hσ hB3 (by omega)) ⟨hx, hb, hml, hown, hts⟩ (cwV 1 hts (lw_V q190 q191 q192 q11 q193) rfl rfl rfl (by decide +kernel) ⟨Nat.le_of_ble_eq_true rfl, Nat.le_of_ble_eq_true rfl⟩) hcBl_no (hc_no _ _) hK hP hD hS hA [2, 4, 5, 6, 7, 8, 9] [0, 1, 3, 10, 11, 12, 13, 14, 15, 16, 17] (by decide) rfl rfl (by decide) (by decide) 2 (ci := 0) rfl rfl rfl rfl hl.1 rfl (Nat.le_of_ble_eq_true rfl) dL_law_211 ⟨Nat.le_of_ble_eq_true rfl, Nat.le_of_ble_eq_true rfl⟩ (fun r C3 H locs hw hP hD hS => ?_)
      have hP : va_P D vwCl [hcOb dk1 0 [.ref he1, .int 1, .int (nI (0 + sz)), .ref jk1, .ref jn1, .ref jt1, .int (nI sz), .ref jr], hcBa D jr sz (hcXo σ (hcTx (hcCe L xs) 8) 0 0), hcBa D jt3 256 (hcTx (hcCe L xs) 8), hcOb dk4 0 [.ref he4, .int 1, .int (nI i), .ref jk4, .ref jn4, .ref jt4, .int (nI sz), .ref jo4], hcBa D jt4 256 (hcTx (hcCe L xs) 8), hcOb he4 1 [.ref hp4, .ref hq4, .int (nI (σ ((i + 3) / 4)).2.2), .ref hk4, .ref hv4, .int 1, .ref hz4, .int (nI (i % 4))], hcIa D hp4 512 (σ ((i + 3) / 4)).1, hcIa D hq4 512 (σ ((i + 3) / 4)).2.1, hcBa D hz4 4 B4, hcBa D hk4 16 (hcMk (hcCe L xs)), hcBa D hv4 16 (hcMv (hcCe L xs)), hcOb dk3 0 [.ref he3, .int 1, .int (nI (i + 1)), .ref jk3, .ref jn3, .ref jt3, .int (nI sz), .ref jo3], hcOb he3 1 [.ref hp3, .ref hq3, .int (nI (σ ((i + 1 + 3) / 4)).2.2), .ref hk3, .ref hv3, .int 1, .ref hz3, .int (nI ((i + 1) % 4))], hcIa D hp3 512 (σ ((i + 1 + 3) / 4)).1, hcIa D hq3 512 (σ ((i + 1 + 3) / 4)).2.1, hcBa D hz3 4 C3, hcBa D hk3 16 (hcMk (hcCe L xs)), hcBa D hv3 16 (hcMv (hcCe L xs))] H := hP
      have hD : va_D A [hcOb dk1 0 [.ref he1, .int 1, .int (nI (0 + sz)), .ref jk1, .ref jn1, .ref jt1, .int (nI sz), .ref jr], hcBa D jr sz (hcXo σ (hcTx (hcCe L xs) 8) 0 0), hcBa D jt3 256 (hcTx (hcCe L xs) 8), hcOb dk4 0 [.ref he4, .int 1, .int (nI i), .ref jk4, .ref jn4, .ref jt4, .int (nI sz), .ref jo4], hcBa D jt4 256 (hcTx (hcCe L xs) 8), hcOb he4 1 [.ref hp4, .ref hq4, .int (nI (σ ((i + 3) / 4)).2.2), .ref hk4, .ref hv4, .int 1, .ref hz4, .int (nI (i % 4))], hcIa D hp4 512 (σ ((i + 3) / 4)).1, hcIa D hq4 512 (σ ((i + 3) / 4)).2.1, hcBa D hz4 4 B4, hcBa D hk4 16 (hcMk (hcCe L xs)), hcBa D hv4 16 (hcMv (hcCe L xs)), hcOb dk3 0 [.ref he3, .int 1, .int (nI (i + 1)), .ref jk3, .ref jn3, .ref jt3, .int (nI sz), .ref jo3], hcOb he3 1 [.ref hp3, .ref hq3, .int (nI (σ ((i + 1 + 3) / 4)).2.2), .ref hk3, .ref hv3, .int 1, .ref hz3, .int (nI ((i + 1) % 4))], hcIa D hp3 512 (σ ((i + 1 + 3) / 4)).1, hcIa D hq3 512 (σ ((i + 1 + 3) / 4)).2.1, hcBa D hz3 4 C3, hcBa D hk3 16 (hcMk (hcCe L xs)), hcBa D hv3 16 (hcMv (hcCe L xs))] := hD
      have hP : va_P D vwCl [hcOb dk1 0 [.ref he1, .int 1, .int (nI (0 + sz)), .ref jk1, .ref jn1, .ref jt1, .int (nI sz), .ref jr], hcBa D jr sz (hcXo σ (hcTx (hcCe L xs) 8) 0 0), hcOb dk3 0 [.ref he3, .int 1, .int (nI (i + 1)), .ref jk3, .ref jn3, .ref jt3, .int (nI sz), .ref jo3], hcBa D jt3 256 (hcTx (hcCe L xs) 8), hcOb he3 1 [.ref hp3, .ref hq3, .int (nI (σ ((i + 1 + 3) / 4)).2.2), .ref hk3, .ref hv3, .int 1, .ref hz3, .int (nI ((i + 1) % 4))], hcIa D hp3 512 (σ ((i + 1 + 3) / 4)).1, hcIa D hq3 512 (σ ((i + 1 + 3) / 4)).2.1, hcBa D hz3 4 C3, hcBa D hk3 16 (hcMk (hcCe L xs)), hcBa D hv3 16 (hcMv (hcCe L xs)), hcOb dk4 0 [.ref he4, .int 1, .int (nI i), .ref jk4, .ref jn4, .ref jt4, .int (nI sz), .ref jo4], hcBa D jt4 256 (hcTx (hcCe L xs) 8), hcOb he4 1 [.ref hp4, .ref hq4, .int (nI (σ ((i + 3) / 4)).2.2), .ref hk4, .ref hv4, .int 1, .ref hz4, .int (nI (i % 4))], hcIa D hp4 512 (σ ((i + 3) / 4)).1, hcIa D hq4 512 (σ ((i + 3) / 4)).2.1, hcBa D hz4 4 B4, hcBa D hk4 16 (hcMk (hcCe L xs)), hcBa D hv4 16 (hcMv (hcCe L xs))] H := hc_psub hP [0, 1, 11, 2, 12, 13, 14, 15, 16, 17, 3, 4, 5, 6, 7, 8, 9, 10] rfl
      have hD : va_D A [hcOb dk1 0 [.ref he1, .int 1, .int (nI (0 + sz)), .ref jk1, .ref jn1, .ref jt1, .int (nI sz), .ref jr], hcBa D jr sz (hcXo σ (hcTx (hcCe L xs) 8) 0 0), hcOb dk3 0 [.ref he3, .int 1, .int (nI (i + 1)), .ref jk3, .ref jn3, .ref jt3, .int (nI sz), .ref jo3], hcBa D jt3 256 (hcTx (hcCe L xs) 8), hcOb he3 1 [.ref hp3, .ref hq3, .int (nI (σ ((i + 1 + 3) / 4)).2.2), .ref hk3, .ref hv3, .int 1, .ref hz3, .int (nI ((i + 1) % 4))], hcIa D hp3 512 (σ ((i + 1 + 3) / 4)).1, hcIa D hq3 512 (σ ((i + 1 + 3) / 4)).2.1, hcBa D hz3 4 C3, hcBa D hk3 16 (hcMk (hcCe L xs)), hcBa D hv3 16 (hcMv (hcCe L xs)), hcOb dk4 0 [.ref he4, .int 1, .int (nI i), .ref jk4, .ref jn4, .ref jt4, .int (nI sz), .ref jo4], hcBa D jt4 256 (hcTx (hcCe L xs) 8), hcOb he4 1 [.ref hp4, .ref hq4, .int (nI (σ ((i + 3) / 4)).2.2), .ref hk4, .ref hv4, .int 1, .ref hz4, .int (nI (i % 4))], hcIa D hp4 512 (σ ((i + 3) / 4)).1, hcIa D hq4 512 (σ ((i + 3) / 4)).2.1, hcBa D hz4 4 B4, hcBa D hk4 16 (hcMk (hcCe L xs)), hcBa D hv4 16 (hcMv (hcCe L xs))] := hD.sub [0, 1, 11, 2, 12, 13, 14, 15, 16, 17, 3, 4, 5, 6, 7, 8, 9, 10] (by decide) rfl
      obtain ⟨rfl, hnC3⟩ := hw
      refine hc_top (y := hcOn (hcBb (hcCe L xs) i) (hcKs σ i)) (rfl) ?_
      refine lv_istore (lv' := [(9, .int (hcOn (hcBb (hcCe L xs) i) (hcKs σ i))), (8, .int (hcBb (hcCe L xs) i)), (7, .int (nI i)), (5, .int (nI sz)), (4, .ref dk4), (3, .ref dk3), (2, .ref dk2), (1, .ref dk1), (0, .ref b)]) hx hb dL_law_214 hl (by decide) rfl (fun ls hl => ?_)
      refine lv_iload hx hb dL_law_216 (lv_at hl 0 rfl) ?_
      refine lv_aload_n hx hb dL_law_218 rfl (lv_at hl 7 rfl) ?_
      refine lv_iload hx hb dL_law_219 (lv_at hl 2 rfl) ?_
      refine hc_oV (met_out l D dk1 jk1 jn1 jt1 (.ref he1) (.int 1) (.int (nI (0 + sz))) (.int (nI sz)) jr sz i (hcXo σ (hcTx (hcCe L xs) 8) 0 0) hlt (by omega)) ⟨hx, hb, hml, hown, hts⟩ (cwV 1 hts (lw_V q237 q238 q239 q11 q240) rfl rfl rfl (by decide +kernel) ⟨Nat.le_of_ble_eq_true rfl, Nat.le_of_ble_eq_true rfl⟩) hcBl_no (hc_no _ _) hK hP hD [0, 1] (by decide) rfl 0 (ci := 0) rfl rfl rfl rfl hl.1 rfl (Nat.le_of_ble_eq_true rfl) dL_law_221 ⟨Nat.le_of_ble_eq_true rfl, Nat.le_of_ble_eq_true rfl⟩ ?_
      refine lv_icmp_ne (tgt := 239) hx hb dL_law_224 (by decide) (fun hc => absurd ((hcXo_on (hcCe L xs) σ (show i < 128 by omega)).symm) hc) (fun _ => ?_)
      refine lv_aload hx hb dL_law_227 (lv_at hl 4 rfl) ?_
      refine lv_iload hx hb dL_law_229 (lv_at hl 0 rfl) ?_
      refine hc_iV (wr := [hcOb dk1 0 [.ref he1, .int 1, .int (nI (0 + sz)), .ref jk1, .ref jn1, .ref jt1, .int (nI sz), .ref jr], hcBa D jr sz (hcXo σ (hcTx (hcCe L xs) 8) 0 0), hcOb dk3 0 [.ref he3, .int 1, .int (nI (i + 1)), .ref jk3, .ref jn3, .ref jt3, .int (nI sz), .ref jo3], hcBa D jt3 256 (hcTx (hcCe L xs) 8), hcOb he3 1 [.ref hp3, .ref hq3, .int (nI (σ ((i + 1 + 3) / 4)).2.2), .ref hk3, .ref hv3, .int 1, .ref hz3, .int (nI ((i + 1) % 4))], hcIa D hp3 512 (σ ((i + 1 + 3) / 4)).1, hcIa D hq3 512 (σ ((i + 1 + 3) / 4)).2.1, hcBa D hz3 4 C3, hcBa D hk3 16 (hcMk (hcCe L xs)), hcBa D hv3 16 (hcMv (hcCe L xs)), hcBa D jt4 256 (hcTx (hcCe L xs) 8)]) (met_one l D dk4 jk4 jn4 jt4 he4 hp4 hq4 hz4 hk4 hv4 (.int (nI sz)) (.ref jo4) (hcMk (hcCe L xs)) (hcMv (hcCe L xs)) σ i i B4 (hcOn (hcBb (hcCe L xs) i) (hcKs σ i)) hσ hB4 (by omega)) ⟨hx, hb, hml, hown, hts⟩ (cwV 1 hts (lw_V q190 q191 q192 q11 q193) rfl rfl rfl (by decide +kernel) ⟨Nat.le_of_ble_eq_true rfl, Nat.le_of_ble_eq_true rfl⟩) hcBl_no (hc_no _ _) hK hP hD hS hA [10, 12, 13, 14, 15, 16, 17] [0, 1, 2, 3, 4, 5, 6, 7, 8, 9, 11] (by decide) rfl rfl (by decide) (by decide) 10 (ci := 0) rfl rfl rfl rfl hl.1 rfl (Nat.le_of_ble_eq_true rfl) dL_law_231 ⟨Nat.le_of_ble_eq_true rfl, Nat.le_of_ble_eq_true rfl⟩ (fun r C4 H locs hw hP hD hS => ?_)
      have hP : va_P D vwCl [hcOb dk1 0 [.ref he1, .int 1, .int (nI (0 + sz)), .ref jk1, .ref jn1, .ref jt1, .int (nI sz), .ref jr], hcBa D jr sz (hcXo σ (hcTx (hcCe L xs) 8) 0 0), hcOb dk3 0 [.ref he3, .int 1, .int (nI (i + 1)), .ref jk3, .ref jn3, .ref jt3, .int (nI sz), .ref jo3], hcBa D jt3 256 (hcTx (hcCe L xs) 8), hcOb he3 1 [.ref hp3, .ref hq3, .int (nI (σ ((i + 1 + 3) / 4)).2.2), .ref hk3, .ref hv3, .int 1, .ref hz3, .int (nI ((i + 1) % 4))], hcIa D hp3 512 (σ ((i + 1 + 3) / 4)).1, hcIa D hq3 512 (σ ((i + 1 + 3) / 4)).2.1, hcBa D hz3 4 C3, hcBa D hk3 16 (hcMk (hcCe L xs)), hcBa D hv3 16 (hcMv (hcCe L xs)), hcBa D jt4 256 (hcTx (hcCe L xs) 8), hcOb dk4 0 [.ref he4, .int 1, .int (nI (i + 1)), .ref jk4, .ref jn4, .ref jt4, .int (nI sz), .ref jo4], hcOb he4 1 [.ref hp4, .ref hq4, .int (nI (σ ((i + 1 + 3) / 4)).2.2), .ref hk4, .ref hv4, .int 1, .ref hz4, .int (nI ((i + 1) % 4))], hcIa D hp4 512 (σ ((i + 1 + 3) / 4)).1, hcIa D hq4 512 (σ ((i + 1 + 3) / 4)).2.1, hcBa D hz4 4 C4, hcBa D hk4 16 (hcMk (hcCe L xs)), hcBa D hv4 16 (hcMv (hcCe L xs))] H := hP
      have hD : va_D A [hcOb dk1 0 [.ref he1, .int 1, .int (nI (0 + sz)), .ref jk1, .ref jn1, .ref jt1, .int (nI sz), .ref jr], hcBa D jr sz (hcXo σ (hcTx (hcCe L xs) 8) 0 0), hcOb dk3 0 [.ref he3, .int 1, .int (nI (i + 1)), .ref jk3, .ref jn3, .ref jt3, .int (nI sz), .ref jo3], hcBa D jt3 256 (hcTx (hcCe L xs) 8), hcOb he3 1 [.ref hp3, .ref hq3, .int (nI (σ ((i + 1 + 3) / 4)).2.2), .ref hk3, .ref hv3, .int 1, .ref hz3, .int (nI ((i + 1) % 4))], hcIa D hp3 512 (σ ((i + 1 + 3) / 4)).1, hcIa D hq3 512 (σ ((i + 1 + 3) / 4)).2.1, hcBa D hz3 4 C3, hcBa D hk3 16 (hcMk (hcCe L xs)), hcBa D hv3 16 (hcMv (hcCe L xs)), hcBa D jt4 256 (hcTx (hcCe L xs) 8), hcOb dk4 0 [.ref he4, .int 1, .int (nI (i + 1)), .ref jk4, .ref jn4, .ref jt4, .int (nI sz), .ref jo4], hcOb he4 1 [.ref hp4, .ref hq4, .int (nI (σ ((i + 1 + 3) / 4)).2.2), .ref hk4, .ref hv4, .int 1, .ref hz4, .int (nI ((i + 1) % 4))], hcIa D hp4 512 (σ ((i + 1 + 3) / 4)).1, hcIa D hq4 512 (σ ((i + 1 + 3) / 4)).2.1, hcBa D hz4 4 C4, hcBa D hk4 16 (hcMk (hcCe L xs)), hcBa D hv4 16 (hcMv (hcCe L xs))] := hD
      have hP : va_P D vwCl [hcOb dk1 0 [.ref he1, .int 1, .int (nI (0 + sz)), .ref jk1, .ref jn1, .ref jt1, .int (nI sz), .ref jr], hcBa D jr sz (hcXo σ (hcTx (hcCe L xs) 8) 0 0), hcOb dk3 0 [.ref he3, .int 1, .int (nI (i + 1)), .ref jk3, .ref jn3, .ref jt3, .int (nI sz), .ref jo3], hcBa D jt3 256 (hcTx (hcCe L xs) 8), hcOb he3 1 [.ref hp3, .ref hq3, .int (nI (σ ((i + 1 + 3) / 4)).2.2), .ref hk3, .ref hv3, .int 1, .ref hz3, .int (nI ((i + 1) % 4))], hcIa D hp3 512 (σ ((i + 1 + 3) / 4)).1, hcIa D hq3 512 (σ ((i + 1 + 3) / 4)).2.1, hcBa D hz3 4 C3, hcBa D hk3 16 (hcMk (hcCe L xs)), hcBa D hv3 16 (hcMv (hcCe L xs)), hcOb dk4 0 [.ref he4, .int 1, .int (nI (i + 1)), .ref jk4, .ref jn4, .ref jt4, .int (nI sz), .ref jo4], hcBa D jt4 256 (hcTx (hcCe L xs) 8), hcOb he4 1 [.ref hp4, .ref hq4, .int (nI (σ ((i + 1 + 3) / 4)).2.2), .ref hk4, .ref hv4, .int 1, .ref hz4, .int (nI ((i + 1) % 4))], hcIa D hp4 512 (σ ((i + 1 + 3) / 4)).1, hcIa D hq4 512 (σ ((i + 1 + 3) / 4)).2.1, hcBa D hz4 4 C4, hcBa D hk4 16 (hcMk (hcCe L xs)), hcBa D hv4 16 (hcMv (hcCe L xs))] H := hc_psub hP [0, 1, 2, 3, 4, 5, 6, 7, 8, 9, 11, 10, 12, 13, 14, 15, 16, 17] rfl
      have hD : va_D A [hcOb dk1 0 [.ref he1, .int 1, .int (nI (0 + sz)), .ref jk1, .ref jn1, .ref jt1, .int (nI sz), .ref jr], hcBa D jr sz (hcXo σ (hcTx (hcCe L xs) 8) 0 0), hcOb dk3 0 [.ref he3, .int 1, .int (nI (i + 1)), .ref jk3, .ref jn3, .ref jt3, .int (nI sz), .ref jo3], hcBa D jt3 256 (hcTx (hcCe L xs) 8), hcOb he3 1 [.ref hp3, .ref hq3, .int (nI (σ ((i + 1 + 3) / 4)).2.2), .ref hk3, .ref hv3, .int 1, .ref hz3, .int (nI ((i + 1) % 4))], hcIa D hp3 512 (σ ((i + 1 + 3) / 4)).1, hcIa D hq3 512 (σ ((i + 1 + 3) / 4)).2.1, hcBa D hz3 4 C3, hcBa D hk3 16 (hcMk (hcCe L xs)), hcBa D hv3 16 (hcMv (hcCe L xs)), hcOb dk4 0 [.ref he4, .int 1, .int (nI (i + 1)), .ref jk4, .ref jn4, .ref jt4, .int (nI sz), .ref jo4], hcBa D jt4 256 (hcTx (hcCe L xs) 8), hcOb he4 1 [.ref hp4, .ref hq4, .int (nI (σ ((i + 1 + 3) / 4)).2.2), .ref hk4, .ref hv4, .int 1, .ref hz4, .int (nI ((i + 1) % 4))], hcIa D hp4 512 (σ ((i + 1 + 3) / 4)).1, hcIa D hq4 512 (σ ((i + 1 + 3) / 4)).2.1, hcBa D hz4 4 C4, hcBa D hk4 16 (hcMk (hcCe L xs)), hcBa D hv4 16 (hcMv (hcCe L xs))] := hD.sub [0, 1, 2, 3, 4, 5, 6, 7, 8, 9, 11, 10, 12, 13, 14, 15, 16, 17] (by decide) rfl
      obtain ⟨rfl, hnC4⟩ := hw
      refine hc_top (y := hcOn (hcOn (hcBb (hcCe L xs) i) (hcKs σ i)) (hcKs σ i)) (rfl) ?_
      refine lv_iload hx hb dL_law_234 (lv_at hl 1 rfl) ?_
      refine lv_icmp_eq (tgt := 241) hx hb dL_law_236 (by decide) (fun _ => ?_) (fun hc => absurd (hcOn_text (hcCe L xs) σ i) hc)
      refine lv_iinc (v := nI (i + 1)) (lv' := [(7, .int (nI (i + 1))), (9, .int (hcOn (hcBb (hcCe L xs) i) (hcKs σ i))), (8, .int (hcBb (hcCe L xs) i)), (5, .int (nI sz)), (4, .ref dk4), (3, .ref dk3), (2, .ref dk2), (1, .ref dk1), (0, .ref b)]) hx hb dL_law_241 hl (k := 2) rfl (nI_1 i) (by decide) rfl (fun ls hl => ?_)
      refine lv_goto (tgt := 173) hx hb dL_law_244 (by decide) ?_
      have hl : lv_has ls 10 [(7, .int (nI (i + 1))), (5, .int (nI sz)), (4, .ref dk4), (3, .ref dk3), (2, .ref dk2), (1, .ref dk1), (0, .ref b)] := lv_sub hl [0, 3, 4, 5, 6, 7, 8] rfl
      exact ih (i + 1) C3 C4 H locs ls (by omega) hnC3 hnC4 hP hD hS hl kx
  refine LC sz 0 (fun _ => 0) (fun _ => 0) H locs ls (by omega) (fun h => absurd rfl h) (fun h => absurd rfl h) hP hD hS (lv_sub hl [0, 1, 2, 3, 4, 5, 6] rfl) ?_
  clear LC hP hD hS hl
  intro B3 H locs ls hP hD hS hl
  refine lv_aload_n hx hb dL_law_247 rfl (lv_at hl 2 rfl) ?_
  refine hc_vV (wr := [hcOb dk1 0 [.ref he1, .int 1, .int (nI (0 + sz)), .ref jk1, .ref jn1, .ref jt1, .int (nI sz), .ref jr], hcBa D jr sz (hcXo σ (hcTx (hcCe L xs) 8) 0 0), hcBa D jt3 256 (hcTx (hcCe L xs) 8)]) (met_again l D dk3 jk3 jn3 jt3 he3 hp3 hq3 hz3 hk3 hv3 (.int (nI sz)) (.ref jo3) (hcMk (hcCe L xs)) (hcMv (hcCe L xs)) σ sz sz B3 hσ) ⟨hx, hb, hml, hown, hts⟩ (cwV 0 hts (lw_V q198 q199 q200 q11 q201) rfl rfl rfl (by decide +kernel) ⟨Nat.le_of_ble_eq_true rfl, Nat.le_of_ble_eq_true rfl⟩) hcBl_no (hc_no _ _) hK hP hD hS hA [2, 4, 5, 6, 7, 8, 9] [0, 1, 3] (by decide) rfl rfl (by decide) (by decide) 2 (ci := 0) rfl rfl rfl rfl hl.1 rfl (Nat.le_of_ble_eq_true rfl) dL_law_248 ⟨Nat.le_of_ble_eq_true rfl, Nat.le_of_ble_eq_true rfl⟩ (fun _ H locs hw hP hD hS => ?_)
  have hP : va_P D vwCl [hcOb dk1 0 [.ref he1, .int 1, .int (nI (0 + sz)), .ref jk1, .ref jn1, .ref jt1, .int (nI sz), .ref jr], hcBa D jr sz (hcXo σ (hcTx (hcCe L xs) 8) 0 0), hcBa D jt3 256 (hcTx (hcCe L xs) 8), hcOb dk3 0 [.ref he3, .int 1, .int (nI 0), .ref jk3, .ref jn3, .ref jt3, .int (nI sz), .ref jo3], hcOb he3 1 [.ref hp3, .ref hq3, .int (nI (σ ((0 + 3) / 4)).2.2), .ref hk3, .ref hv3, .int 1, .ref hz3, .int (nI (0 % 4))], hcIa D hp3 512 (σ ((0 + 3) / 4)).1, hcIa D hq3 512 (σ ((0 + 3) / 4)).2.1, hcBa D hz3 4 B3, hcBa D hk3 16 (hcMk (hcCe L xs)), hcBa D hv3 16 (hcMv (hcCe L xs))] H := hP
  have hD : va_D A [hcOb dk1 0 [.ref he1, .int 1, .int (nI (0 + sz)), .ref jk1, .ref jn1, .ref jt1, .int (nI sz), .ref jr], hcBa D jr sz (hcXo σ (hcTx (hcCe L xs) 8) 0 0), hcBa D jt3 256 (hcTx (hcCe L xs) 8), hcOb dk3 0 [.ref he3, .int 1, .int (nI 0), .ref jk3, .ref jn3, .ref jt3, .int (nI sz), .ref jo3], hcOb he3 1 [.ref hp3, .ref hq3, .int (nI (σ ((0 + 3) / 4)).2.2), .ref hk3, .ref hv3, .int 1, .ref hz3, .int (nI (0 % 4))], hcIa D hp3 512 (σ ((0 + 3) / 4)).1, hcIa D hq3 512 (σ ((0 + 3) / 4)).2.1, hcBa D hz3 4 B3, hcBa D hk3 16 (hcMk (hcCe L xs)), hcBa D hv3 16 (hcMv (hcCe L xs))] := hD
  have hP : va_P D vwCl [hcOb dk1 0 [.ref he1, .int 1, .int (nI (0 + sz)), .ref jk1, .ref jn1, .ref jt1, .int (nI sz), .ref jr], hcBa D jr sz (hcXo σ (hcTx (hcCe L xs) 8) 0 0), hcOb dk3 0 [.ref he3, .int 1, .int (nI 0), .ref jk3, .ref jn3, .ref jt3, .int (nI sz), .ref jo3], hcBa D jt3 256 (hcTx (hcCe L xs) 8), hcOb he3 1 [.ref hp3, .ref hq3, .int (nI (σ ((0 + 3) / 4)).2.2), .ref hk3, .ref hv3, .int 1, .ref hz3, .int (nI (0 % 4))], hcIa D hp3 512 (σ ((0 + 3) / 4)).1, hcIa D hq3 512 (σ ((0 + 3) / 4)).2.1, hcBa D hz3 4 B3, hcBa D hk3 16 (hcMk (hcCe L xs)), hcBa D hv3 16 (hcMv (hcCe L xs))] H := hc_psub hP [0, 1, 3, 2, 4, 5, 6, 7, 8, 9] rfl
  have hD : va_D A [hcOb dk1 0 [.ref he1, .int 1, .int (nI (0 + sz)), .ref jk1, .ref jn1, .ref jt1, .int (nI sz), .ref jr], hcBa D jr sz (hcXo σ (hcTx (hcCe L xs) 8) 0 0), hcOb dk3 0 [.ref he3, .int 1, .int (nI 0), .ref jk3, .ref jn3, .ref jt3, .int (nI sz), .ref jo3], hcBa D jt3 256 (hcTx (hcCe L xs) 8), hcOb he3 1 [.ref hp3, .ref hq3, .int (nI (σ ((0 + 3) / 4)).2.2), .ref hk3, .ref hv3, .int 1, .ref hz3, .int (nI (0 % 4))], hcIa D hp3 512 (σ ((0 + 3) / 4)).1, hcIa D hq3 512 (σ ((0 + 3) / 4)).2.1, hcBa D hz3 4 B3, hcBa D hk3 16 (hcMk (hcCe L xs)), hcBa D hv3 16 (hcMv (hcCe L xs))] := hD.sub [0, 1, 3, 2, 4, 5, 6, 7, 8, 9] (by decide) rfl
  refine lv_iconst (v := 0) hx hb dL_law_251 (by decide) ?_
  refine lv_istore (lv' := [(7, .int 0), (5, .int (nI sz)), (4, .ref dk4), (3, .ref dk3), (2, .ref dk2), (1, .ref dk1), (0, .ref b)]) hx hb dL_law_252 hl (by decide) rfl (fun ls hl => ?_)
  refine W.widen (k := 109) (n := 21823) (by decide) (by decide) ?_
  have LD : ∀ (d i : Nat) (B : Nat → Int32) (H : Heap) (locs : List Loc) (ls : Array Slot), i + d = sz → hcOk σ i B → va_P D vwCl [hcOb dk1 0 [.ref he1, .int 1, .int (nI (0 + sz)), .ref jk1, .ref jn1, .ref jt1, .int (nI sz), .ref jr], hcBa D jr sz (hcXo σ (hcTx (hcCe L xs) 8) 0 0), hcOb dk3 0 [.ref he3, .int 1, .int (nI i), .ref jk3, .ref jn3, .ref jt3, .int (nI sz), .ref jo3], hcBa D jt3 256 (hcTx (hcCe L xs) 8), hcOb he3 1 [.ref hp3, .ref hq3, .int (nI (σ ((i + 3) / 4)).2.2), .ref hk3, .ref hv3, .int 1, .ref hz3, .int (nI (i % 4))], hcIa D hp3 512 (σ ((i + 3) / 4)).1, hcIa D hq3 512 (σ ((i + 3) / 4)).2.1, hcBa D hz3 4 B, hcBa D hk3 16 (hcMk (hcCe L xs)), hcBa D hv3 16 (hcMv (hcCe L xs))] H → va_D A [hcOb dk1 0 [.ref he1, .int 1, .int (nI (0 + sz)), .ref jk1, .ref jn1, .ref jt1, .int (nI sz), .ref jr], hcBa D jr sz (hcXo σ (hcTx (hcCe L xs) 8) 0 0), hcOb dk3 0 [.ref he3, .int 1, .int (nI i), .ref jk3, .ref jn3, .ref jt3, .int (nI sz), .ref jo3], hcBa D jt3 256 (hcTx (hcCe L xs) 8), hcOb he3 1 [.ref hp3, .ref hq3, .int (nI (σ ((i + 3) / 4)).2.2), .ref hk3, .ref hv3, .int 1, .ref hz3, .int (nI (i % 4))], hcIa D hp3 512 (σ ((i + 3) / 4)).1, hcIa D hq3 512 (σ ((i + 3) / 4)).2.1, hcBa D hz3 4 B, hcBa D hk3 16 (hcMk (hcCe L xs)), hcBa D hv3 16 (hcMv (hcCe L xs))] → va_S A s.heap H locs → lv_has ls 10 [(7, .int (nI i)), (5, .int (nI sz)), (4, .ref dk4), (3, .ref dk3), (2, .ref dk2), (1, .ref dk1), (0, .ref b)] → W p l e room_1 s m #[Value.ref b] below meth c H locs 109 21823 (lw_Z below #[Value.ref b] s) (F0 m 254 ls []) := by
    intro d
    induction d with
    | zero =>
      intro i B H locs ls hi hB hP hD hS hl
      have hi : i = sz := by omega
      rw [hi] at hP hD hl
      refine lv_iload hx hb dL_law_254 (lv_at hl 0 rfl) ?_
      refine lv_iload hx hb dL_law_256 (lv_at hl 1 rfl) ?_
      refine lv_icmp_ge (tgt := 308) hx hb dL_law_258 (by decide) (fun _ => ?_) (fun hc => absurd (nI_le (a := sz) (b := sz) (Nat.le_refl _) (by omega)) hc)
      refine lv_iconst (v := 1) hx hb dL_law_308 (by decide) ?_
      refine va_forget (fun q hq => hA2 _ (hS.2.2 q hq)) ?_
      refine W.widen (k := 600128) (n := 7301098) (Nat.le_of_ble_eq_true rfl) (Nat.le_of_ble_eq_true rfl) ?_
      exact lw_ret hx hb hr hlk dL_law_309
    | succ d ih =>
      intro i B H locs ls hi hB hP hD hS hl
      have hlt : i < sz := by omega
      refine lv_iload hx hb dL_law_254 (lv_at hl 0 rfl) ?_
      refine lv_iload hx hb dL_law_256 (lv_at hl 1 rfl) ?_
      refine lv_icmp_ge (tgt := 308) hx hb dL_law_258 (by decide) (fun hc => absurd hc (nI_ge (a := i) (b := sz) hlt (by omega))) (fun _ => ?_)
      refine lv_aload_n hx hb dL_law_261 rfl (lv_at hl 3 rfl) ?_
      refine lv_aload_n hx hb dL_law_262 rfl (lv_at hl 5 rfl) ?_
      refine lv_iload hx hb dL_law_263 (lv_at hl 0 rfl) ?_
      refine hc_oV (met_out l D dk1 jk1 jn1 jt1 (.ref he1) (.int 1) (.int (nI (0 + sz))) (.int (nI sz)) jr sz i (hcXo σ (hcTx (hcCe L xs) 8) 0 0) hlt (by omega)) ⟨hx, hb, hml, hown, hts⟩ (cwV 1 hts (lw_V q237 q238 q239 q11 q240) rfl rfl rfl (by decide +kernel) ⟨Nat.le_of_ble_eq_true rfl, Nat.le_of_ble_eq_true rfl⟩) hcBl_no (hc_no _ _) hK hP hD [0, 1] (by decide) rfl 0 (ci := 0) rfl rfl rfl rfl hl.1 rfl (Nat.le_of_ble_eq_true rfl) dL_law_265 ⟨Nat.le_of_ble_eq_true rfl, Nat.le_of_ble_eq_true rfl⟩ ?_
      refine hc_iV (wr := [hcOb dk1 0 [.ref he1, .int 1, .int (nI (0 + sz)), .ref jk1, .ref jn1, .ref jt1, .int (nI sz), .ref jr], hcBa D jr sz (hcXo σ (hcTx (hcCe L xs) 8) 0 0), hcBa D jt3 256 (hcTx (hcCe L xs) 8)]) (met_one l D dk3 jk3 jn3 jt3 he3 hp3 hq3 hz3 hk3 hv3 (.int (nI sz)) (.ref jo3) (hcMk (hcCe L xs)) (hcMv (hcCe L xs)) σ i i B (hcXo σ (hcTx (hcCe L xs) 8) 0 0 i &&& 255) hσ hB (by omega)) ⟨hx, hb, hml, hown, hts⟩ (cwV 1 hts (lw_V q190 q191 q192 q11 q193) rfl rfl rfl (by decide +kernel) ⟨Nat.le_of_ble_eq_true rfl, Nat.le_of_ble_eq_true rfl⟩) hcBl_no (hc_no _ _) hK hP hD hS hA [2, 4, 5, 6, 7, 8, 9] [0, 1, 3] (by decide) rfl rfl (by decide) (by decide) 2 (ci := 0) rfl rfl rfl rfl hl.1 rfl (Nat.le_of_ble_eq_true rfl) dL_law_268 ⟨Nat.le_of_ble_eq_true rfl, Nat.le_of_ble_eq_true rfl⟩ (fun r C3 H locs hw hP hD hS => ?_)
      have hP : va_P D vwCl [hcOb dk1 0 [.ref he1, .int 1, .int (nI (0 + sz)), .ref jk1, .ref jn1, .ref jt1, .int (nI sz), .ref jr], hcBa D jr sz (hcXo σ (hcTx (hcCe L xs) 8) 0 0), hcBa D jt3 256 (hcTx (hcCe L xs) 8), hcOb dk3 0 [.ref he3, .int 1, .int (nI (i + 1)), .ref jk3, .ref jn3, .ref jt3, .int (nI sz), .ref jo3], hcOb he3 1 [.ref hp3, .ref hq3, .int (nI (σ ((i + 1 + 3) / 4)).2.2), .ref hk3, .ref hv3, .int 1, .ref hz3, .int (nI ((i + 1) % 4))], hcIa D hp3 512 (σ ((i + 1 + 3) / 4)).1, hcIa D hq3 512 (σ ((i + 1 + 3) / 4)).2.1, hcBa D hz3 4 C3, hcBa D hk3 16 (hcMk (hcCe L xs)), hcBa D hv3 16 (hcMv (hcCe L xs))] H := hP
      have hD : va_D A [hcOb dk1 0 [.ref he1, .int 1, .int (nI (0 + sz)), .ref jk1, .ref jn1, .ref jt1, .int (nI sz), .ref jr], hcBa D jr sz (hcXo σ (hcTx (hcCe L xs) 8) 0 0), hcBa D jt3 256 (hcTx (hcCe L xs) 8), hcOb dk3 0 [.ref he3, .int 1, .int (nI (i + 1)), .ref jk3, .ref jn3, .ref jt3, .int (nI sz), .ref jo3], hcOb he3 1 [.ref hp3, .ref hq3, .int (nI (σ ((i + 1 + 3) / 4)).2.2), .ref hk3, .ref hv3, .int 1, .ref hz3, .int (nI ((i + 1) % 4))], hcIa D hp3 512 (σ ((i + 1 + 3) / 4)).1, hcIa D hq3 512 (σ ((i + 1 + 3) / 4)).2.1, hcBa D hz3 4 C3, hcBa D hk3 16 (hcMk (hcCe L xs)), hcBa D hv3 16 (hcMv (hcCe L xs))] := hD
      have hP : va_P D vwCl [hcOb dk1 0 [.ref he1, .int 1, .int (nI (0 + sz)), .ref jk1, .ref jn1, .ref jt1, .int (nI sz), .ref jr], hcBa D jr sz (hcXo σ (hcTx (hcCe L xs) 8) 0 0), hcOb dk3 0 [.ref he3, .int 1, .int (nI (i + 1)), .ref jk3, .ref jn3, .ref jt3, .int (nI sz), .ref jo3], hcBa D jt3 256 (hcTx (hcCe L xs) 8), hcOb he3 1 [.ref hp3, .ref hq3, .int (nI (σ ((i + 1 + 3) / 4)).2.2), .ref hk3, .ref hv3, .int 1, .ref hz3, .int (nI ((i + 1) % 4))], hcIa D hp3 512 (σ ((i + 1 + 3) / 4)).1, hcIa D hq3 512 (σ ((i + 1 + 3) / 4)).2.1, hcBa D hz3 4 C3, hcBa D hk3 16 (hcMk (hcCe L xs)), hcBa D hv3 16 (hcMv (hcCe L xs))] H := hc_psub hP [0, 1, 3, 2, 4, 5, 6, 7, 8, 9] rfl
      have hD : va_D A [hcOb dk1 0 [.ref he1, .int 1, .int (nI (0 + sz)), .ref jk1, .ref jn1, .ref jt1, .int (nI sz), .ref jr], hcBa D jr sz (hcXo σ (hcTx (hcCe L xs) 8) 0 0), hcOb dk3 0 [.ref he3, .int 1, .int (nI (i + 1)), .ref jk3, .ref jn3, .ref jt3, .int (nI sz), .ref jo3], hcBa D jt3 256 (hcTx (hcCe L xs) 8), hcOb he3 1 [.ref hp3, .ref hq3, .int (nI (σ ((i + 1 + 3) / 4)).2.2), .ref hk3, .ref hv3, .int 1, .ref hz3, .int (nI ((i + 1) % 4))], hcIa D hp3 512 (σ ((i + 1 + 3) / 4)).1, hcIa D hq3 512 (σ ((i + 1 + 3) / 4)).2.1, hcBa D hz3 4 C3, hcBa D hk3 16 (hcMk (hcCe L xs)), hcBa D hv3 16 (hcMv (hcCe L xs))] := hD.sub [0, 1, 3, 2, 4, 5, 6, 7, 8, 9] (by decide) rfl
      obtain ⟨rfl, hnC3⟩ := hw
      refine hc_top (y := hcOn (hcXo σ (hcTx (hcCe L xs) 8) 0 0 i &&& 255) (hcKs σ i)) (rfl) ?_
      refine lv_aload_n hx hb dL_law_271 rfl (lv_at hl 6 rfl) ?_
      refine lv_bipush (v := 20) hx hb dL_law_272 (by decide) ?_
      refine lv_iload hx hb dL_law_274 (lv_at hl 0 rfl) ?_
      refine lv_iconst (v := 4) hx hb dL_law_276 (by decide) ?_
      refine lv_idiv hx hb dL_law_277 (by decide) ?_
      refine hc_top (y := nI (i / 4)) (pk_div (a := i) (d := 4) (by omega) (by decide) (by decide)) ?_
      refine lv_iadd hx hb dL_law_278 ?_
      refine hc_top (y := nI (20 + i / 4)) (nI_add 20 (i / 4)) ?_
      refine hc_oS (met_cell l D b L xs (20 + i / 4) hL (by omega)) ⟨hx, hb, hml, hown, hts⟩ (va_cwS 2 hts (lw_S q241 q242 q10 q243) rfl rfl rfl (by decide +kernel) ⟨Nat.le_of_ble_eq_true rfl, Nat.le_of_ble_eq_true rfl⟩) (hcBl_xs _ _ _) (hc_xs_of hX hbl hbA hS) hK hP hD [] (by decide) rfl rfl hl.1 rfl (Nat.le_of_ble_eq_true rfl) dL_law_279 ⟨Nat.le_of_ble_eq_true rfl, Nat.le_of_ble_eq_true rfl⟩ ?_
      refine lv_bipush (v := 24) hx hb dL_law_282 (by decide) ?_
      refine lv_bipush (v := 8) hx hb dL_law_284 (by decide) ?_
      refine lv_iload hx hb dL_law_286 (lv_at hl 0 rfl) ?_
      refine lv_iconst (v := 4) hx hb dL_law_288 (by decide) ?_
      refine lv_irem hx hb dL_law_289 (by decide) ?_
      refine hc_top (y := nI (i % 4)) (hc_rem (a := i) (d := 4) (by omega) (by decide) (by decide)) ?_
      refine lv_imul hx hb dL_law_290 ?_
      refine hc_top (y := nI (8 * (i % 4))) (pk_mul 8 (i % 4)) ?_
      refine lv_isub hx hb dL_law_291 ?_
      refine hc_top (y := nI (24 - 8 * (i % 4))) (pk_sub (a := 24) (b := 8 * (i % 4)) (by omega)) ?_
      refine lv_iushr hx hb dL_law_292 rfl ?_
      refine lv_sipush (v := 255) hx hb dL_law_293 (by decide) ?_
      refine lv_iand hx hb dL_law_296 ?_
      refine hc_top (y := hcBb (hcCe L xs) i) (rfl) ?_
      refine lv_icmp_eq (tgt := 302) hx hb dL_law_297 (by decide) (fun _ => ?_) (fun hc => absurd (by rw [hcXo_on (hcCe L xs) σ (show i < 128 by omega)]; exact hcOn_text (hcCe L xs) σ i) hc)
      refine lv_iinc (v := nI (i + 1)) (lv' := [(7, .int (nI (i + 1))), (5, .int (nI sz)), (4, .ref dk4), (3, .ref dk3), (2, .ref dk2), (1, .ref dk1), (0, .ref b)]) hx hb dL_law_302 hl (k := 0) rfl (nI_1 i) (by decide) rfl (fun ls hl => ?_)
      refine lv_goto (tgt := 254) hx hb dL_law_305 (by decide) ?_
      have hl : lv_has ls 10 [(7, .int (nI (i + 1))), (5, .int (nI sz)), (4, .ref dk4), (3, .ref dk3), (2, .ref dk2), (1, .ref dk1), (0, .ref b)] := lv_sub hl [0, 1, 2, 3, 4, 5, 6] rfl
      exact ih (i + 1) C3 H locs ls (by omega) hnC3 hP hD hS hl
  exact LD sz 0 B3 H locs ls (by omega) (fun h => absurd rfl h) hP hD hS (lv_sub hl [0, 1, 2, 3, 4, 5, 6] rfl)
end
section
set_option maxHeartbeats 4000000 in
theorem lw_walk (l : Launch) (hflags : l.flags = flags0) (b : Addr) (xs : List Int32) : MetFree l x (headSpec (Jvm.Cond.code x code maxLocals ret :: tables_1) room_1) (lw_P b xs) (fun _ _ _ _ _ => True) lw_Q := by
  refine MetFree.of_bodyS (code := code) (maxLocals := maxLocals) (ret := ret) (by decide) ?_ ?_
  · intro args s m h hn
    obtain ⟨meth, c, h1, h2, h3, h4, h5, h6, -, -⟩ := Cond.code_spec hn (atoms_spec (ws := Jvm.Cond.code x code maxLocals ret :: tables_1) h _ List.mem_cons_self)
    exact ⟨meth, c, h1, h2, h3, h4, h5, h6⟩
  · intro p e s m args below meth c s₁ B hml0 hP _
    obtain ⟨rfl, hx, hbd, hgv⟩ := hP
    obtain ⟨scr, harrAt, hlist, hof, hsmall⟩ := hx
    obtain ⟨hcb, hkn, -, -⟩ := State.arrayAt?_spec harrAt
    have hown : s.vm.findClass R_law = some m.cls := findClass_of_methodNamed B.named
    have hts0 : ∀ c ∈ (Jvm.Cond.code x code maxLocals ret :: tables_1), c.before #[Value.ref b] s = true := atoms_spec (ws := Jvm.Cond.code x code maxLocals ret :: tables_1) B.pre
    have hts : ∀ w ∈ lw_tbl, w.before #[Value.ref b] s = true := k2_hts_sels lw_privs (fun w hw => hts0 w (List.mem_cons_of_mem _ hw)) lw_privs_ok
    have hml : c.maxLocals = 10 := B.maxLocals_eq (hts0 _ List.mem_cons_self)
    have X₀ : Stand p l e room_1 s m #[Value.ref b] below meth c s₁ [] 0 0 := Stand.of_body B
    have hh0 : s₁.heap = s.heap := by rw [B.state]; rfl
    have hsz : scr.slots.size = xs.length := by rw [← Array.length_toList, hlist, List.length_map]
    have hval : ∀ j : Nat, j < xs.length → scr.slots[j]? = some (.int (xs.getD j 0)) := fun j hj => by
      rw [← Array.getElem?_toList, hlist]
      simp [hj]
    have hbl : b < s.heap.size := (Array.getElem?_eq_some_iff.mp hcb).1
    have hX : va_X b xs.length (fun j => xs.getD j 0) s s.heap := ⟨scr, hcb, hof, hkn, hsz, hval⟩
    have K : W p l e room_1 s m #[Value.ref b] below meth c s₁.heap [] 0 0 (lw_Z below #[Value.ref b] s) (entryFrame m ([Value.ref b] : List Value).toArray 10) := by
      rw [hh0]
      exact whole_start l hflags hbd ⟨B.exec, B.bytes, B.returns, hml, hown, hts, hX, hbl, B.notSynchronized, hgv⟩
    obtain ⟨t, a1, o, b1, b2, b3⟩ := K s₁ rfl X₀
    exact ⟨t, o, a1, b1, b2, b3⟩
theorem lw_pre_spec {args : Array Value} {s : State} (h : (Jvm.Cond.and given_1 narrow_1).before args s = true) (hr : rest_1_c.before args s = true) : ∃ (b : Addr) (xs : List Int32), lw_P b xs args s := by
  have hs := flat_of_before _ h
  have hq := flat_of_before _ hr
  have hc : (Cond.count 1).before args s = true := hs _ (by decide +kernel)
  have harr : (Cond.arrayOf (.arg 0) .int).before args s = true := hs _ (by decide +kernel)
  have hle : (Cond.le (.length (.arg 0)) (.int 64)).before args s = true := hs _ (by decide +kernel)
  have hlen : (Cond.isInt (.length (.arg 0))).before args s = true := hq _ (by decide +kernel)
  have hall : (Cond.all (.arg 0) (.isInt (.elem (.arg 0) (.index 0)))).before args s = true := hq _ (by decide +kernel)
  obtain ⟨b, xs, hb, hx⟩ := State.ints_of_pre rfl harr hlen hall
  have hsm : xs.length < 2 ^ 31 := hx.choose_spec.2.2.2
  have hev : (Term.length (.arg 0)).eval args s none [] s = some (.int xs.length.toInt32) := hx.length_eval hb
  have hv := Cond.le_ints hev (show (Term.int 64).eval args s none [] s = some (.int 64) from rfl)
  have hd : xs.length.toInt32 ≤ 64 := by
    simpa [Cond.before, Cond.holds, hv] using hle
  have hN : xs.length ≤ 64 := (Int32.ofNat_le_ofNat hsm (by decide)).mp (show Int32.ofNat xs.length ≤ Int32.ofNat 64 from hd)
  exact ⟨b, xs, Cond.one_arg hc (show args[0]? = some (.ref b) from hb), hx, hN, h⟩
theorem lw_comes (l : Launch) (hflags : l.flags = flags0) : Comes l x (Jvm.Cond.code x code maxLocals ret :: tables_1) room_1 (fun tb e args s => Calls_1 tb e args s ∧ rest_1 tb e args s ∧ Pre_1 tb e args s)
    (fun _ _ args s o t => lw_Q args s o t) := by
  intro p e ha hc hk s m args below hf hfit hheap happ hpre
  obtain ⟨b, xs, hP⟩ := lw_pre_spec hpre.2.2 hpre.2.1
  obtain ⟨k, o, h1, h2, h3, hQ⟩ := lw_walk l hflags b xs p e ha hc hk s m args below hf ((Spec.applies_iff_loose hf).mp happ).1 hP trivial
  exact ⟨k, o, h1, h2, h3, hQ⟩
theorem lw_frame {s t : State} {o : Outcome} {args : Array Value} (h : Framed s o t [] 600128 7301098) :
    Framed s o t (fieldLocs frame_1_writes args s ++ arrayLocs frame_1_arrays args s ++ staticLocs frame_1_statics s) 600128 7301098 := h
theorem lw_limb (L : Cond) (hL : ∀ (args : Array Value) (s t : State), L.after args s (.returned (some (.int 1))) t = true) :
    ArmFor flags0 classFile x code maxLocals ret World_1 tables_1 room_1 Calls_1 rest_1 Pre_1
      (fun tb e a s o t => postC L tb e a s o t ∧ Framed s o t (fieldLocs frame_1_writes a s ++ arrayLocs frame_1_arrays a s ++ staticLocs frame_1_statics s) 600128 7301098) := by
  intro l hflags _ _ p e ha hc hk s m args below hf hfit hheap happ hpre
  obtain ⟨k, o, h1, h2, h3, rfl, hF⟩ := lw_comes l hflags p e ha hc hk s m args below hf hfit hheap happ hpre
  exact ⟨k, _, h1, h2, h3, hL args s _, lw_frame hF⟩
theorem i_vc : Claimed_1_1 ∧ Claimed_1_2 := ⟨lw_limb limb_1_1 (fun args s t => by simp [limb_1_1, Cond.after, Cond.holds, Cond.value]), lw_limb limb_1_2 (fun args s t => Cond.after_iff.mpr (by
  first | (rw [show limb_1_2 = Cond.eq .result (.int 1) from rfl, Cond.eq_ints (x := 1) (y := 1) rfl rfl]; simp; done) | (simp [limb_1_2, Cond.value, Term.eval]; done)))⟩
end
