section
-- ===== PART A: goes FIRST, ahead of the names: the tables' words, and 'selects' of the private methods out of them =====
/-- a private method of a class that the tables say can be made, by its rows of tables_1 -/
def lw_okq (q : MethodName × Nat) : Prop := (q.1.cls ≠ "java/lang/invoke/MethodHandle" ∧ q.1.cls ≠ "java/lang/invoke/VarHandle") ∧ Cond.instantiable q.1.cls q.2 ∈ tables_1 ∧ Cond.privateMethod q.1 ∈ tables_1 ∧ Cond.instanceMethod q.1 ∈ tables_1
set_option maxRecDepth 100000
theorem lw_t1 {w : Cond} (h : w ∈ tables_1_1) : w ∈ tables_1 := List.mem_append_left _ h
theorem lw_t2 {w : Cond} (h : w ∈ tables_1_2) : w ∈ tables_1 := List.mem_append_right _ h
theorem lw_p0 : lw_okq (⟨"RcSixDesk", "run", "(ZI)V"⟩, 3) := ⟨⟨by decide +kernel, by decide +kernel⟩, lw_t1 (List.mem_of_getElem? (i := 15) rfl), lw_t1 (List.mem_of_getElem? (i := 49) rfl), lw_t1 (List.mem_of_getElem? (i := 50) rfl)⟩
theorem lw_p1 : lw_okq (⟨"java/lang/Throwable", "fillInStackTrace", "(I)Ljava/lang/Throwable;"⟩, 6) := ⟨⟨by decide +kernel, by decide +kernel⟩, lw_t1 (List.mem_of_getElem? (i := 138) rfl), lw_t1 (List.mem_of_getElem? (i := 136) rfl), lw_t1 (List.mem_of_getElem? (i := 137) rfl)⟩
theorem lw_p2 : lw_okq (⟨"RC6Engine", "setKey", "([B)V"⟩, 2) := ⟨⟨by decide +kernel, by decide +kernel⟩, lw_t1 (List.mem_of_getElem? (i := 56) rfl), lw_t1 (List.mem_of_getElem? (i := 171) rfl), lw_t1 (List.mem_of_getElem? (i := 172) rfl)⟩
theorem lw_p3 : lw_okq (⟨"RC6Engine", "rotateLeft", "(II)I"⟩, 2) := ⟨⟨by decide +kernel, by decide +kernel⟩, lw_t1 (List.mem_of_getElem? (i := 56) rfl), lw_t1 (List.mem_of_getElem? (i := 177) rfl), lw_t1 (List.mem_of_getElem? (i := 178) rfl)⟩
theorem lw_p4 : lw_okq (⟨"RC6Engine", "encryptBlock", "([BI[BI)I"⟩, 2) := ⟨⟨by decide +kernel, by decide +kernel⟩, lw_t1 (List.mem_of_getElem? (i := 56) rfl), lw_t2 (List.mem_of_getElem? (i := 8) rfl), lw_t2 (List.mem_of_getElem? (i := 9) rfl)⟩
theorem lw_p5 : lw_okq (⟨"RC6Engine", "bytesToWord", "([BI)I"⟩, 2) := ⟨⟨by decide +kernel, by decide +kernel⟩, lw_t1 (List.mem_of_getElem? (i := 56) rfl), lw_t2 (List.mem_of_getElem? (i := 12) rfl), lw_t2 (List.mem_of_getElem? (i := 13) rfl)⟩
theorem lw_p6 : lw_okq (⟨"RC6Engine", "wordToBytes", "(I[BI)V"⟩, 2) := ⟨⟨by decide +kernel, by decide +kernel⟩, lw_t1 (List.mem_of_getElem? (i := 56) rfl), lw_t2 (List.mem_of_getElem? (i := 16) rfl), lw_t2 (List.mem_of_getElem? (i := 17) rfl)⟩
theorem lw_p7 : lw_okq (⟨"RC6Engine", "decryptBlock", "([BI[BI)I"⟩, 2) := ⟨⟨by decide +kernel, by decide +kernel⟩, lw_t1 (List.mem_of_getElem? (i := 56) rfl), lw_t2 (List.mem_of_getElem? (i := 20) rfl), lw_t2 (List.mem_of_getElem? (i := 21) rfl)⟩
theorem lw_p8 : lw_okq (⟨"RC6Engine", "rotateRight", "(II)I"⟩, 2) := ⟨⟨by decide +kernel, by decide +kernel⟩, lw_t1 (List.mem_of_getElem? (i := 56) rfl), lw_t2 (List.mem_of_getElem? (i := 24) rfl), lw_t2 (List.mem_of_getElem? (i := 25) rfl)⟩
theorem lw_p9 : lw_okq (⟨"RcSixDeskModel", "expands", "(I)V"⟩, 9) := ⟨⟨by decide +kernel, by decide +kernel⟩, lw_t2 (List.mem_of_getElem? (i := 40) rfl), lw_t2 (List.mem_of_getElem? (i := 81) rfl), lw_t2 (List.mem_of_getElem? (i := 82) rfl)⟩
theorem lw_p10 : lw_okq (⟨"RcSixDeskModel", "takes", "()V"⟩, 9) := ⟨⟨by decide +kernel, by decide +kernel⟩, lw_t2 (List.mem_of_getElem? (i := 40) rfl), lw_t2 (List.mem_of_getElem? (i := 93) rfl), lw_t2 (List.mem_of_getElem? (i := 94) rfl)⟩
theorem lw_p11 : lw_okq (⟨"RcSixDeskModel", "gives", "()V"⟩, 9) := ⟨⟨by decide +kernel, by decide +kernel⟩, lw_t2 (List.mem_of_getElem? (i := 40) rfl), lw_t2 (List.mem_of_getElem? (i := 97) rfl), lw_t2 (List.mem_of_getElem? (i := 98) rfl)⟩
def lw_privs_1 : List (MethodName × Nat) := [(⟨"RcSixDesk", "run", "(ZI)V"⟩, 3), (⟨"java/lang/Throwable", "fillInStackTrace", "(I)Ljava/lang/Throwable;"⟩, 6), (⟨"RC6Engine", "setKey", "([B)V"⟩, 2), (⟨"RC6Engine", "rotateLeft", "(II)I"⟩, 2), (⟨"RC6Engine", "encryptBlock", "([BI[BI)I"⟩, 2), (⟨"RC6Engine", "bytesToWord", "([BI)I"⟩, 2), (⟨"RC6Engine", "wordToBytes", "(I[BI)V"⟩, 2), (⟨"RC6Engine", "decryptBlock", "([BI[BI)I"⟩, 2), (⟨"RC6Engine", "rotateRight", "(II)I"⟩, 2), (⟨"RcSixDeskModel", "expands", "(I)V"⟩, 9), (⟨"RcSixDeskModel", "takes", "()V"⟩, 9), (⟨"RcSixDeskModel", "gives", "()V"⟩, 9)]
theorem lw_r1 : ∀ q ∈ lw_privs_1, lw_okq q := List.forall_mem_cons.mpr ⟨lw_p0, List.forall_mem_cons.mpr ⟨lw_p1, List.forall_mem_cons.mpr ⟨lw_p2, List.forall_mem_cons.mpr ⟨lw_p3, List.forall_mem_cons.mpr ⟨lw_p4, List.forall_mem_cons.mpr ⟨lw_p5, List.forall_mem_cons.mpr ⟨lw_p6, List.forall_mem_cons.mpr ⟨lw_p7, List.forall_mem_cons.mpr ⟨lw_p8, List.forall_mem_cons.mpr ⟨lw_p9, List.forall_mem_cons.mpr ⟨lw_p10, List.forall_mem_cons.mpr ⟨lw_p11, fun _ h => absurd h List.not_mem_nil⟩⟩⟩⟩⟩⟩⟩⟩⟩⟩⟩⟩
def lw_privs : List (MethodName × Nat) := lw_privs_1
def lw_tbl : List Cond := k2_sels lw_privs ++ tables_1
theorem lw_privs_ok : ∀ q ∈ lw_privs, lw_okq q := lw_r1
-- ===== ONE list of words for every method: the tables' words that hold all through a run =====
def lw_all : List Cond := lw_tbl.filter goodWord
/-- a word of the tables by its place: claim/WORDS.tsv -/
theorem lw_w {w : Cond} (i : Nat) (h : lw_tbl[i]? = some w) (g : goodWord w = true) : w ∈ lw_all := List.mem_filter.mpr ⟨List.mem_of_getElem? h, g⟩
theorem lw_all_tbl {w : Cond} (h : w ∈ lw_all) : w ∈ lw_tbl := (List.mem_filter.mp h).1
theorem lw_self : GoodIn lw_all lw_all := fun w h => ⟨h, good_of_word (List.mem_filter.mp h).2⟩
/-- a class's field words, by their places -/
theorem lw_in (ws : List Cond) (ps : List Nat) (hp : ws = ps.filterMap (fun i => lw_tbl[i]?)) (hg : ws.all goodWord = true) : ∀ w ∈ ws, w ∈ lw_all := by
  intro w h
  have h1 := List.all_eq_true.mp hg w h
  rw [hp] at h
  obtain ⟨i, -, hi⟩ := List.mem_filterMap.mp h
  exact lw_w i hi h1
/-- the words of a contract for the method y with code b, L locals, answer r -/
abbrev ws_ (y : MethodName) (b : ByteArray) (L : Nat) (r : Option FieldType) : List Cond := Cond.code y b L r :: lw_all
theorem lw_meth {y : MethodName} {b : ByteArray} {L : Nat} {r : Option FieldType} (h : Cond.code y b L r ∈ lw_all) : GoodIn lw_all (ws_ y b L r) := by
  intro w hw
  rcases List.mem_cons.mp hw with e | e
  · rw [e]
    exact lw_self _ h
  · exact lw_self _ e
theorem lw_app {a c : List Cond} (ha : ∀ w ∈ a, w ∈ lw_all) (hc : GoodIn lw_all c) : GoodIn lw_all (a ++ c) := by
  intro w hw
  rcases List.mem_append.mp hw with e | e
  · exact lw_self w (ha w e)
  · exact hc w e
/-- what a call through an object asks: cwV n hts (lw_V ..) -/
theorem lw_V {own : String} {idx : Nat} {C : String} {y : MethodName} {b : ByteArray} {L : Nat} {r : Option FieldType} (h1 : Cond.methodLink own idx y ∈ lw_all) (h2 : Cond.instanceMethod y ∈ lw_all) (h3 : Cond.selects C y y ∈ lw_all) (h4 : Cond.initialized C ∈ lw_all) (h5 : Cond.code y b L r ∈ lw_all) : GoodIn lw_all (wsV own idx C y (ws_ y b L r)) := by
  refine lw_app ?_ (lw_meth h5)
  intro w hw
  simp only [List.mem_cons, List.not_mem_nil, or_false] at hw
  rcases hw with e | e | e | e
  · rw [e]; exact h1
  · rw [e]; exact h2
  · rw [e]; exact h3
  · rw [e]; exact h4
/-- what a static call asks: va_cwS n hts (lw_S ..) -/
theorem lw_S {own : String} {idx : Nat} {y : MethodName} {b : ByteArray} {L : Nat} {r : Option FieldType} (h1 : Cond.methodLink own idx y ∈ lw_all) (h2 : Cond.static y ∈ lw_all) (h3 : Cond.initialized y.cls ∈ lw_all) (h4 : Cond.code y b L r ∈ lw_all) : GoodIn lw_all (va_wsS own idx y (ws_ y b L r)) := by
  refine lw_app ?_ (lw_meth h4)
  intro w hw
  simp only [List.mem_cons, List.not_mem_nil, or_false] at hw
  rcases hw with e | e | e
  · rw [e]; exact h1
  · rw [e]; exact h2
  · rw [e]; exact h3
/-- the words of a contract for a method WITH HANDLERS (hh: its table) -/
abbrev wsW_ (y : MethodName) (b : ByteArray) (L : Nat) (r : Option FieldType) (hh : List (Nat × Nat × Nat × Nat)) : List Cond := Cond.codeWith y b L r hh :: lw_all
theorem lw_methW {y : MethodName} {b : ByteArray} {L : Nat} {r : Option FieldType} {hh : List (Nat × Nat × Nat × Nat)} (h : Cond.codeWith y b L r hh ∈ lw_all) : GoodIn lw_all (wsW_ y b L r hh) := by
  intro w hw
  rcases List.mem_cons.mp hw with e | e
  · rw [e]
    exact lw_self _ h
  · exact lw_self _ e
/-- any list of words by their places (lw_in), good -/
theorem lw_good {ws : List Cond} (h : ∀ w ∈ ws, w ∈ lw_all) : GoodIn lw_all ws := fun w hw => lw_self w (h w hw)
/-- what a call of a method with handlers asks: vx_cwVW n hts (lw_VW ..), vx_cwSW n hts (lw_SW ..) -/
theorem lw_VW {own : String} {idx : Nat} {C : String} {y : MethodName} {b : ByteArray} {L : Nat} {r : Option FieldType} {hh : List (Nat × Nat × Nat × Nat)} (h1 : Cond.methodLink own idx y ∈ lw_all) (h2 : Cond.instanceMethod y ∈ lw_all) (h3 : Cond.selects C y y ∈ lw_all) (h4 : Cond.initialized C ∈ lw_all) (h5 : Cond.codeWith y b L r hh ∈ lw_all) : GoodIn lw_all (wsV own idx C y (wsW_ y b L r hh)) := by
  refine lw_app ?_ (lw_methW h5)
  intro w hw
  simp only [List.mem_cons, List.not_mem_nil, or_false] at hw
  rcases hw with e | e | e | e
  · rw [e]; exact h1
  · rw [e]; exact h2
  · rw [e]; exact h3
  · rw [e]; exact h4
theorem lw_SW {own : String} {idx : Nat} {y : MethodName} {b : ByteArray} {L : Nat} {r : Option FieldType} {hh : List (Nat × Nat × Nat × Nat)} (h1 : Cond.methodLink own idx y ∈ lw_all) (h2 : Cond.static y ∈ lw_all) (h3 : Cond.initialized y.cls ∈ lw_all) (h4 : Cond.codeWith y b L r hh ∈ lw_all) : GoodIn lw_all (va_wsS own idx y (wsW_ y b L r hh)) := by
  refine lw_app ?_ (lw_methW h4)
  intro w hw
  simp only [List.mem_cons, List.not_mem_nil, or_false] at hw
  rcases hw with e | e | e
  · rw [e]; exact h1
  · rw [e]; exact h2
  · rw [e]; exact h3
/-- a word by its place in its run of the tables -/
theorem lw_at {r : List Cond} (hr : ∀ w ∈ r, w ∈ lw_tbl) {w : Cond} (i : Nat) (h : r[i]? = some w) : w ∈ lw_tbl := hr w (List.mem_of_getElem? h)
theorem lw_g {w : Cond} (h : w ∈ lw_tbl) (g : goodWord w = true) : w ∈ lw_all := List.mem_filter.mpr ⟨h, g⟩
theorem lw_ms : ∀ w ∈ k2_sels lw_privs, w ∈ lw_tbl := fun w h => show w ∈ k2_sels lw_privs ++ tables_1 from List.mem_append_left _ h
theorem lw_m1 : ∀ w ∈ tables_1_1, w ∈ lw_tbl := fun w h => show w ∈ k2_sels lw_privs ++ tables_1 from List.mem_append_right (k2_sels lw_privs) (show w ∈ tables_1 from List.mem_append_left _ h)
theorem lw_m2 : ∀ w ∈ tables_1_2, w ∈ lw_tbl := fun w h => show w ∈ k2_sels lw_privs ++ tables_1 from List.mem_append_right (k2_sels lw_privs) (show w ∈ tables_1 from List.mem_append_right _ h)
theorem qs0 : (Cond.selects "RcSixDesk" ⟨"RcSixDesk", "run", "(ZI)V"⟩ ⟨"RcSixDesk", "run", "(ZI)V"⟩) ∈ lw_all := lw_g (lw_at lw_ms 0 rfl) rfl
theorem qs1 : (Cond.selects "java/lang/Throwable" ⟨"java/lang/Throwable", "fillInStackTrace", "(I)Ljava/lang/Throwable;"⟩ ⟨"java/lang/Throwable", "fillInStackTrace", "(I)Ljava/lang/Throwable;"⟩) ∈ lw_all := lw_g (lw_at lw_ms 1 rfl) rfl
theorem qs2 : (Cond.selects "RC6Engine" ⟨"RC6Engine", "setKey", "([B)V"⟩ ⟨"RC6Engine", "setKey", "([B)V"⟩) ∈ lw_all := lw_g (lw_at lw_ms 2 rfl) rfl
theorem qs3 : (Cond.selects "RC6Engine" ⟨"RC6Engine", "rotateLeft", "(II)I"⟩ ⟨"RC6Engine", "rotateLeft", "(II)I"⟩) ∈ lw_all := lw_g (lw_at lw_ms 3 rfl) rfl
theorem qs4 : (Cond.selects "RC6Engine" ⟨"RC6Engine", "encryptBlock", "([BI[BI)I"⟩ ⟨"RC6Engine", "encryptBlock", "([BI[BI)I"⟩) ∈ lw_all := lw_g (lw_at lw_ms 4 rfl) rfl
theorem qs5 : (Cond.selects "RC6Engine" ⟨"RC6Engine", "bytesToWord", "([BI)I"⟩ ⟨"RC6Engine", "bytesToWord", "([BI)I"⟩) ∈ lw_all := lw_g (lw_at lw_ms 5 rfl) rfl
theorem qs6 : (Cond.selects "RC6Engine" ⟨"RC6Engine", "wordToBytes", "(I[BI)V"⟩ ⟨"RC6Engine", "wordToBytes", "(I[BI)V"⟩) ∈ lw_all := lw_g (lw_at lw_ms 6 rfl) rfl
theorem qs7 : (Cond.selects "RC6Engine" ⟨"RC6Engine", "decryptBlock", "([BI[BI)I"⟩ ⟨"RC6Engine", "decryptBlock", "([BI[BI)I"⟩) ∈ lw_all := lw_g (lw_at lw_ms 7 rfl) rfl
theorem qs8 : (Cond.selects "RC6Engine" ⟨"RC6Engine", "rotateRight", "(II)I"⟩ ⟨"RC6Engine", "rotateRight", "(II)I"⟩) ∈ lw_all := lw_g (lw_at lw_ms 8 rfl) rfl
theorem qs9 : (Cond.selects "RcSixDeskModel" ⟨"RcSixDeskModel", "expands", "(I)V"⟩ ⟨"RcSixDeskModel", "expands", "(I)V"⟩) ∈ lw_all := lw_g (lw_at lw_ms 9 rfl) rfl
theorem qs10 : (Cond.selects "RcSixDeskModel" ⟨"RcSixDeskModel", "takes", "()V"⟩ ⟨"RcSixDeskModel", "takes", "()V"⟩) ∈ lw_all := lw_g (lw_at lw_ms 10 rfl) rfl
theorem qs11 : (Cond.selects "RcSixDeskModel" ⟨"RcSixDeskModel", "gives", "()V"⟩ ⟨"RcSixDeskModel", "gives", "()V"⟩) ∈ lw_all := lw_g (lw_at lw_ms 11 rfl) rfl
end
section
/-! DECODE ROWS BY BYTES: one lemma an opcode; a method's code is cut into short pieces once, and a row reads its own piece alone. -/
set_option maxRecDepth 100000
/-- the code has just these bytes from pc on -/
def DkAt (code : ByteArray) (pc : Nat) (bs : List UInt8) : Prop := ∀ (j : Nat) (b : UInt8), bs[j]? = some b → code.data.toList[pc + j]? = some b
/-- the piece W has the bytes bs from its place j on -/
def dkIn (W : List UInt8) (j : Nat) (bs : List UInt8) : Bool := decide ((W.drop j).take bs.length = bs)
theorem dk_seg {l W T : List UInt8} {o o2 : Nat} (h : l.drop o = W ++ T) (n : Nat) (hn : W.length = n) (ho : o + n = o2) : l.drop o2 = T := by
  subst ho
  rw [← List.drop_drop, h, List.drop_left' hn]
theorem dk_at {code : ByteArray} {W T bs : List UInt8} {o pc : Nat} (h : code.data.toList.drop o = W ++ T) (j : Nat) (hp : o + j = pc) (hw : dkIn W j bs = true) : DkAt code pc bs := by
  subst hp
  intro i b e
  have h1 := of_decide_eq_true hw
  have h2 : i < bs.length := (List.getElem?_eq_some_iff.mp e).1
  have h3 : W[j + i]? = some b := by
    rw [← h1, List.getElem?_take, if_pos h2, List.getElem?_drop] at e
    exact e
  have h4 : j + i < W.length := (List.getElem?_eq_some_iff.mp h3).1
  have h5 : (code.data.toList.drop o)[j + i]? = some b := by
    rw [h, List.getElem?_append_left h4]
    exact h3
  rw [List.getElem?_drop, ← Nat.add_assoc] at h5
  exact h5
theorem dk_u1 {A : ByteArray} {p : Nat} {b : UInt8} (h : A.data.toList[p]? = some b) : (Reader.u1 : Reader DecodeError Nat) A p = .ok (b.toNat, p + 1) := by
  obtain ⟨h1, h2⟩ := List.getElem?_eq_some_iff.mp h
  have h3 : p < A.size := by simpa using h1
  have h4 : A[p]'h3 = b := h2
  have e : (Reader.u1 : Reader DecodeError Nat) A p = (if h : p < A.size then .ok (A[p].toNat, p + 1) else .error (HasTruncated.truncated p)) := by
    show (do if h : p < A.size then do set (p + 1); Pure.pure A[p].toNat else MonadExcept.throw (HasTruncated.truncated p) : Reader DecodeError Nat) A p = _
    by_cases hi : p < A.size
    · rw [dif_pos hi, dif_pos hi]; rfl
    · rw [dif_neg hi, dif_neg hi]; rfl
  rw [e, dif_pos h3, h4]
theorem dk_bind {α β : Type} {r : Reader DecodeError α} {f : α → Reader DecodeError β} {A : ByteArray} {p s : Nat} {a : α} (h : r A p = .ok (a, s)) : (r >>= f) A p = f a A s := by
  show (do let (a, s) ← r A p; f a A s : Except DecodeError (β × Nat)) = _
  rw [h]
  rfl
theorem dk_map {α β : Type} {r : Reader DecodeError α} {g : α → β} {A : ByteArray} {p s : Nat} {a : α} (h : r A p = .ok (a, s)) : (g <$> r) A p = .ok (g a, s) := by
  show (do let (a, s) ← r A p; .ok (g a, s) : Except DecodeError (β × Nat)) = _
  rw [h]
  rfl
theorem dk_u2 {A : ByteArray} {p : Nat} {a b : UInt8} (h : A.data.toList[p]? = some a) (h2 : A.data.toList[p + 1]? = some b) : (Reader.u2 : Reader DecodeError Nat) A p = .ok (a.toNat * 256 + b.toNat, p + 2) := by
  show (Reader.u1 >>= fun hi => Reader.u1 >>= fun lo => Pure.pure (hi * 256 + lo) : Reader DecodeError Nat) A p = _
  rw [dk_bind (dk_u1 h), dk_bind (dk_u1 h2)]
  rfl
theorem dk_of {code : ByteArray} {pc n : Nat} {i : Instr} (h : Decoder.instr pc code pc = .ok (i, pc + n)) : decode code pc = .ok (i, n) := by
  have e : decode code pc = (match Decoder.instr pc code pc with | .error x => .error x | .ok (j, s) => .ok (j, s - pc)) := by
    show (do let (j, s) ← Decoder.instr pc code pc; Pure.pure (j, s - pc) : Except DecodeError (Instr × Nat)) = _
    cases Decoder.instr pc code pc <;> rfl
  rw [e, h]
  show Except.ok (i, pc + n - pc) = _
  rw [Nat.add_sub_cancel_left]
theorem dk_1 {code : ByteArray} {pc : Nat} (h : DkAt code pc [1]) : decode code pc = .ok (.aconst_null, 1) := dk_of ((dk_bind (dk_u1 (h 0 _ rfl))).trans rfl)
theorem dk_3 {code : ByteArray} {pc : Nat} (h : DkAt code pc [3]) : decode code pc = .ok (.iconst 0, 1) := dk_of ((dk_bind (dk_u1 (h 0 _ rfl))).trans rfl)
theorem dk_4 {code : ByteArray} {pc : Nat} (h : DkAt code pc [4]) : decode code pc = .ok (.iconst 1, 1) := dk_of ((dk_bind (dk_u1 (h 0 _ rfl))).trans rfl)
theorem dk_5 {code : ByteArray} {pc : Nat} (h : DkAt code pc [5]) : decode code pc = .ok (.iconst 2, 1) := dk_of ((dk_bind (dk_u1 (h 0 _ rfl))).trans rfl)
theorem dk_6 {code : ByteArray} {pc : Nat} (h : DkAt code pc [6]) : decode code pc = .ok (.iconst 3, 1) := dk_of ((dk_bind (dk_u1 (h 0 _ rfl))).trans rfl)
theorem dk_7 {code : ByteArray} {pc : Nat} (h : DkAt code pc [7]) : decode code pc = .ok (.iconst 4, 1) := dk_of ((dk_bind (dk_u1 (h 0 _ rfl))).trans rfl)
theorem dk_8 {code : ByteArray} {pc : Nat} (h : DkAt code pc [8]) : decode code pc = .ok (.iconst 5, 1) := dk_of ((dk_bind (dk_u1 (h 0 _ rfl))).trans rfl)
theorem dk_16 {code : ByteArray} {pc : Nat} (a : UInt8) (h : DkAt code pc [16, a]) : decode code pc = .ok (.bipush (Reader.signed 8 a.toNat), 2) := dk_of ((dk_bind (dk_u1 (h 0 _ rfl))).trans ((dk_bind (dk_map (dk_u1 (h 1 _ rfl)))).trans rfl))
theorem dk_17 {code : ByteArray} {pc : Nat} (a b : UInt8) (h : DkAt code pc [17, a, b]) : decode code pc = .ok (.sipush (Reader.signed 16 (a.toNat * 256 + b.toNat)), 3) := dk_of ((dk_bind (dk_u1 (h 0 _ rfl))).trans ((dk_bind (dk_map (dk_u2 (h 1 _ rfl) (h 2 _ rfl)))).trans rfl))
theorem dk_18 {code : ByteArray} {pc : Nat} (a : UInt8) (h : DkAt code pc [18, a]) : decode code pc = .ok (.ldc a.toNat, 2) := dk_of ((dk_bind (dk_u1 (h 0 _ rfl))).trans ((dk_bind (dk_u1 (h 1 _ rfl))).trans rfl))
theorem dk_21 {code : ByteArray} {pc : Nat} (a : UInt8) (h : DkAt code pc [21, a]) : decode code pc = .ok (.iload a.toNat, 2) := dk_of ((dk_bind (dk_u1 (h 0 _ rfl))).trans ((dk_bind (dk_u1 (h 1 _ rfl))).trans rfl))
theorem dk_25 {code : ByteArray} {pc : Nat} (a : UInt8) (h : DkAt code pc [25, a]) : decode code pc = .ok (.aload a.toNat, 2) := dk_of ((dk_bind (dk_u1 (h 0 _ rfl))).trans ((dk_bind (dk_u1 (h 1 _ rfl))).trans rfl))
theorem dk_26 {code : ByteArray} {pc : Nat} (h : DkAt code pc [26]) : decode code pc = .ok (.iload_n 0, 1) := dk_of ((dk_bind (dk_u1 (h 0 _ rfl))).trans rfl)
theorem dk_27 {code : ByteArray} {pc : Nat} (h : DkAt code pc [27]) : decode code pc = .ok (.iload_n 1, 1) := dk_of ((dk_bind (dk_u1 (h 0 _ rfl))).trans rfl)
theorem dk_28 {code : ByteArray} {pc : Nat} (h : DkAt code pc [28]) : decode code pc = .ok (.iload_n 2, 1) := dk_of ((dk_bind (dk_u1 (h 0 _ rfl))).trans rfl)
theorem dk_29 {code : ByteArray} {pc : Nat} (h : DkAt code pc [29]) : decode code pc = .ok (.iload_n 3, 1) := dk_of ((dk_bind (dk_u1 (h 0 _ rfl))).trans rfl)
theorem dk_42 {code : ByteArray} {pc : Nat} (h : DkAt code pc [42]) : decode code pc = .ok (.aload_n 0, 1) := dk_of ((dk_bind (dk_u1 (h 0 _ rfl))).trans rfl)
theorem dk_43 {code : ByteArray} {pc : Nat} (h : DkAt code pc [43]) : decode code pc = .ok (.aload_n 1, 1) := dk_of ((dk_bind (dk_u1 (h 0 _ rfl))).trans rfl)
theorem dk_44 {code : ByteArray} {pc : Nat} (h : DkAt code pc [44]) : decode code pc = .ok (.aload_n 2, 1) := dk_of ((dk_bind (dk_u1 (h 0 _ rfl))).trans rfl)
theorem dk_45 {code : ByteArray} {pc : Nat} (h : DkAt code pc [45]) : decode code pc = .ok (.aload_n 3, 1) := dk_of ((dk_bind (dk_u1 (h 0 _ rfl))).trans rfl)
theorem dk_46 {code : ByteArray} {pc : Nat} (h : DkAt code pc [46]) : decode code pc = .ok (.iaload, 1) := dk_of ((dk_bind (dk_u1 (h 0 _ rfl))).trans rfl)
theorem dk_51 {code : ByteArray} {pc : Nat} (h : DkAt code pc [51]) : decode code pc = .ok (.baload, 1) := dk_of ((dk_bind (dk_u1 (h 0 _ rfl))).trans rfl)
theorem dk_54 {code : ByteArray} {pc : Nat} (a : UInt8) (h : DkAt code pc [54, a]) : decode code pc = .ok (.istore a.toNat, 2) := dk_of ((dk_bind (dk_u1 (h 0 _ rfl))).trans ((dk_bind (dk_u1 (h 1 _ rfl))).trans rfl))
theorem dk_58 {code : ByteArray} {pc : Nat} (a : UInt8) (h : DkAt code pc [58, a]) : decode code pc = .ok (.astore a.toNat, 2) := dk_of ((dk_bind (dk_u1 (h 0 _ rfl))).trans ((dk_bind (dk_u1 (h 1 _ rfl))).trans rfl))
theorem dk_60 {code : ByteArray} {pc : Nat} (h : DkAt code pc [60]) : decode code pc = .ok (.istore_n 1, 1) := dk_of ((dk_bind (dk_u1 (h 0 _ rfl))).trans rfl)
theorem dk_61 {code : ByteArray} {pc : Nat} (h : DkAt code pc [61]) : decode code pc = .ok (.istore_n 2, 1) := dk_of ((dk_bind (dk_u1 (h 0 _ rfl))).trans rfl)
theorem dk_62 {code : ByteArray} {pc : Nat} (h : DkAt code pc [62]) : decode code pc = .ok (.istore_n 3, 1) := dk_of ((dk_bind (dk_u1 (h 0 _ rfl))).trans rfl)
theorem dk_76 {code : ByteArray} {pc : Nat} (h : DkAt code pc [76]) : decode code pc = .ok (.astore_n 1, 1) := dk_of ((dk_bind (dk_u1 (h 0 _ rfl))).trans rfl)
theorem dk_77 {code : ByteArray} {pc : Nat} (h : DkAt code pc [77]) : decode code pc = .ok (.astore_n 2, 1) := dk_of ((dk_bind (dk_u1 (h 0 _ rfl))).trans rfl)
theorem dk_78 {code : ByteArray} {pc : Nat} (h : DkAt code pc [78]) : decode code pc = .ok (.astore_n 3, 1) := dk_of ((dk_bind (dk_u1 (h 0 _ rfl))).trans rfl)
theorem dk_79 {code : ByteArray} {pc : Nat} (h : DkAt code pc [79]) : decode code pc = .ok (.iastore, 1) := dk_of ((dk_bind (dk_u1 (h 0 _ rfl))).trans rfl)
theorem dk_84 {code : ByteArray} {pc : Nat} (h : DkAt code pc [84]) : decode code pc = .ok (.bastore, 1) := dk_of ((dk_bind (dk_u1 (h 0 _ rfl))).trans rfl)
theorem dk_87 {code : ByteArray} {pc : Nat} (h : DkAt code pc [87]) : decode code pc = .ok (.pop, 1) := dk_of ((dk_bind (dk_u1 (h 0 _ rfl))).trans rfl)
theorem dk_89 {code : ByteArray} {pc : Nat} (h : DkAt code pc [89]) : decode code pc = .ok (.dup, 1) := dk_of ((dk_bind (dk_u1 (h 0 _ rfl))).trans rfl)
theorem dk_91 {code : ByteArray} {pc : Nat} (h : DkAt code pc [91]) : decode code pc = .ok (.dup_x2, 1) := dk_of ((dk_bind (dk_u1 (h 0 _ rfl))).trans rfl)
theorem dk_96 {code : ByteArray} {pc : Nat} (h : DkAt code pc [96]) : decode code pc = .ok (.iadd, 1) := dk_of ((dk_bind (dk_u1 (h 0 _ rfl))).trans rfl)
theorem dk_100 {code : ByteArray} {pc : Nat} (h : DkAt code pc [100]) : decode code pc = .ok (.isub, 1) := dk_of ((dk_bind (dk_u1 (h 0 _ rfl))).trans rfl)
theorem dk_104 {code : ByteArray} {pc : Nat} (h : DkAt code pc [104]) : decode code pc = .ok (.imul, 1) := dk_of ((dk_bind (dk_u1 (h 0 _ rfl))).trans rfl)
theorem dk_108 {code : ByteArray} {pc : Nat} (h : DkAt code pc [108]) : decode code pc = .ok (.idiv, 1) := dk_of ((dk_bind (dk_u1 (h 0 _ rfl))).trans rfl)
theorem dk_112 {code : ByteArray} {pc : Nat} (h : DkAt code pc [112]) : decode code pc = .ok (.irem, 1) := dk_of ((dk_bind (dk_u1 (h 0 _ rfl))).trans rfl)
theorem dk_116 {code : ByteArray} {pc : Nat} (h : DkAt code pc [116]) : decode code pc = .ok (.ineg, 1) := dk_of ((dk_bind (dk_u1 (h 0 _ rfl))).trans rfl)
theorem dk_120 {code : ByteArray} {pc : Nat} (h : DkAt code pc [120]) : decode code pc = .ok (.ishl, 1) := dk_of ((dk_bind (dk_u1 (h 0 _ rfl))).trans rfl)
theorem dk_122 {code : ByteArray} {pc : Nat} (h : DkAt code pc [122]) : decode code pc = .ok (.ishr, 1) := dk_of ((dk_bind (dk_u1 (h 0 _ rfl))).trans rfl)
theorem dk_124 {code : ByteArray} {pc : Nat} (h : DkAt code pc [124]) : decode code pc = .ok (.iushr, 1) := dk_of ((dk_bind (dk_u1 (h 0 _ rfl))).trans rfl)
theorem dk_126 {code : ByteArray} {pc : Nat} (h : DkAt code pc [126]) : decode code pc = .ok (.iand, 1) := dk_of ((dk_bind (dk_u1 (h 0 _ rfl))).trans rfl)
theorem dk_128 {code : ByteArray} {pc : Nat} (h : DkAt code pc [128]) : decode code pc = .ok (.ior, 1) := dk_of ((dk_bind (dk_u1 (h 0 _ rfl))).trans rfl)
theorem dk_130 {code : ByteArray} {pc : Nat} (h : DkAt code pc [130]) : decode code pc = .ok (.ixor, 1) := dk_of ((dk_bind (dk_u1 (h 0 _ rfl))).trans rfl)
theorem dk_132 {code : ByteArray} {pc : Nat} (a b : UInt8) (h : DkAt code pc [132, a, b]) : decode code pc = .ok (.iinc a.toNat (Reader.signed 8 b.toNat), 3) := dk_of ((dk_bind (dk_u1 (h 0 _ rfl))).trans ((dk_bind (dk_u1 (h 1 _ rfl))).trans ((dk_bind (dk_map (dk_u1 (h 2 _ rfl)))).trans rfl)))
theorem dk_145 {code : ByteArray} {pc : Nat} (h : DkAt code pc [145]) : decode code pc = .ok (.i2b, 1) := dk_of ((dk_bind (dk_u1 (h 0 _ rfl))).trans rfl)
theorem dk_153 {code : ByteArray} {pc : Nat} (a b : UInt8) (h : DkAt code pc [153, a, b]) : decode code pc = .ok (.ifCond .eq (Reader.signed 16 (a.toNat * 256 + b.toNat)), 3) := dk_of ((dk_bind (dk_u1 (h 0 _ rfl))).trans ((dk_bind (dk_map (dk_u2 (h 1 _ rfl) (h 2 _ rfl)))).trans rfl))
theorem dk_154 {code : ByteArray} {pc : Nat} (a b : UInt8) (h : DkAt code pc [154, a, b]) : decode code pc = .ok (.ifCond .ne (Reader.signed 16 (a.toNat * 256 + b.toNat)), 3) := dk_of ((dk_bind (dk_u1 (h 0 _ rfl))).trans ((dk_bind (dk_map (dk_u2 (h 1 _ rfl) (h 2 _ rfl)))).trans rfl))
theorem dk_155 {code : ByteArray} {pc : Nat} (a b : UInt8) (h : DkAt code pc [155, a, b]) : decode code pc = .ok (.ifCond .lt (Reader.signed 16 (a.toNat * 256 + b.toNat)), 3) := dk_of ((dk_bind (dk_u1 (h 0 _ rfl))).trans ((dk_bind (dk_map (dk_u2 (h 1 _ rfl) (h 2 _ rfl)))).trans rfl))
theorem dk_158 {code : ByteArray} {pc : Nat} (a b : UInt8) (h : DkAt code pc [158, a, b]) : decode code pc = .ok (.ifCond .le (Reader.signed 16 (a.toNat * 256 + b.toNat)), 3) := dk_of ((dk_bind (dk_u1 (h 0 _ rfl))).trans ((dk_bind (dk_map (dk_u2 (h 1 _ rfl) (h 2 _ rfl)))).trans rfl))
theorem dk_159 {code : ByteArray} {pc : Nat} (a b : UInt8) (h : DkAt code pc [159, a, b]) : decode code pc = .ok (.if_icmp .eq (Reader.signed 16 (a.toNat * 256 + b.toNat)), 3) := dk_of ((dk_bind (dk_u1 (h 0 _ rfl))).trans ((dk_bind (dk_map (dk_u2 (h 1 _ rfl) (h 2 _ rfl)))).trans rfl))
theorem dk_160 {code : ByteArray} {pc : Nat} (a b : UInt8) (h : DkAt code pc [160, a, b]) : decode code pc = .ok (.if_icmp .ne (Reader.signed 16 (a.toNat * 256 + b.toNat)), 3) := dk_of ((dk_bind (dk_u1 (h 0 _ rfl))).trans ((dk_bind (dk_map (dk_u2 (h 1 _ rfl) (h 2 _ rfl)))).trans rfl))
theorem dk_161 {code : ByteArray} {pc : Nat} (a b : UInt8) (h : DkAt code pc [161, a, b]) : decode code pc = .ok (.if_icmp .lt (Reader.signed 16 (a.toNat * 256 + b.toNat)), 3) := dk_of ((dk_bind (dk_u1 (h 0 _ rfl))).trans ((dk_bind (dk_map (dk_u2 (h 1 _ rfl) (h 2 _ rfl)))).trans rfl))
theorem dk_162 {code : ByteArray} {pc : Nat} (a b : UInt8) (h : DkAt code pc [162, a, b]) : decode code pc = .ok (.if_icmp .ge (Reader.signed 16 (a.toNat * 256 + b.toNat)), 3) := dk_of ((dk_bind (dk_u1 (h 0 _ rfl))).trans ((dk_bind (dk_map (dk_u2 (h 1 _ rfl) (h 2 _ rfl)))).trans rfl))
theorem dk_163 {code : ByteArray} {pc : Nat} (a b : UInt8) (h : DkAt code pc [163, a, b]) : decode code pc = .ok (.if_icmp .gt (Reader.signed 16 (a.toNat * 256 + b.toNat)), 3) := dk_of ((dk_bind (dk_u1 (h 0 _ rfl))).trans ((dk_bind (dk_map (dk_u2 (h 1 _ rfl) (h 2 _ rfl)))).trans rfl))
theorem dk_164 {code : ByteArray} {pc : Nat} (a b : UInt8) (h : DkAt code pc [164, a, b]) : decode code pc = .ok (.if_icmp .le (Reader.signed 16 (a.toNat * 256 + b.toNat)), 3) := dk_of ((dk_bind (dk_u1 (h 0 _ rfl))).trans ((dk_bind (dk_map (dk_u2 (h 1 _ rfl) (h 2 _ rfl)))).trans rfl))
theorem dk_167 {code : ByteArray} {pc : Nat} (a b : UInt8) (h : DkAt code pc [167, a, b]) : decode code pc = .ok (.goto (Reader.signed 16 (a.toNat * 256 + b.toNat)), 3) := dk_of ((dk_bind (dk_u1 (h 0 _ rfl))).trans ((dk_bind (dk_map (dk_u2 (h 1 _ rfl) (h 2 _ rfl)))).trans rfl))
theorem dk_172 {code : ByteArray} {pc : Nat} (h : DkAt code pc [172]) : decode code pc = .ok (.ireturn, 1) := dk_of ((dk_bind (dk_u1 (h 0 _ rfl))).trans rfl)
theorem dk_177 {code : ByteArray} {pc : Nat} (h : DkAt code pc [177]) : decode code pc = .ok (.return_, 1) := dk_of ((dk_bind (dk_u1 (h 0 _ rfl))).trans rfl)
theorem dk_178 {code : ByteArray} {pc : Nat} (a b : UInt8) (h : DkAt code pc [178, a, b]) : decode code pc = .ok (.getstatic (a.toNat * 256 + b.toNat), 3) := dk_of ((dk_bind (dk_u1 (h 0 _ rfl))).trans ((dk_bind (dk_u2 (h 1 _ rfl) (h 2 _ rfl))).trans rfl))
theorem dk_180 {code : ByteArray} {pc : Nat} (a b : UInt8) (h : DkAt code pc [180, a, b]) : decode code pc = .ok (.getfield (a.toNat * 256 + b.toNat), 3) := dk_of ((dk_bind (dk_u1 (h 0 _ rfl))).trans ((dk_bind (dk_u2 (h 1 _ rfl) (h 2 _ rfl))).trans rfl))
theorem dk_181 {code : ByteArray} {pc : Nat} (a b : UInt8) (h : DkAt code pc [181, a, b]) : decode code pc = .ok (.putfield (a.toNat * 256 + b.toNat), 3) := dk_of ((dk_bind (dk_u1 (h 0 _ rfl))).trans ((dk_bind (dk_u2 (h 1 _ rfl) (h 2 _ rfl))).trans rfl))
theorem dk_182 {code : ByteArray} {pc : Nat} (a b : UInt8) (h : DkAt code pc [182, a, b]) : decode code pc = .ok (.invokevirtual (a.toNat * 256 + b.toNat), 3) := dk_of ((dk_bind (dk_u1 (h 0 _ rfl))).trans ((dk_bind (dk_u2 (h 1 _ rfl) (h 2 _ rfl))).trans rfl))
theorem dk_183 {code : ByteArray} {pc : Nat} (a b : UInt8) (h : DkAt code pc [183, a, b]) : decode code pc = .ok (.invokespecial (a.toNat * 256 + b.toNat), 3) := dk_of ((dk_bind (dk_u1 (h 0 _ rfl))).trans ((dk_bind (dk_u2 (h 1 _ rfl) (h 2 _ rfl))).trans rfl))
theorem dk_184 {code : ByteArray} {pc : Nat} (a b : UInt8) (h : DkAt code pc [184, a, b]) : decode code pc = .ok (.invokestatic (a.toNat * 256 + b.toNat), 3) := dk_of ((dk_bind (dk_u1 (h 0 _ rfl))).trans ((dk_bind (dk_u2 (h 1 _ rfl) (h 2 _ rfl))).trans rfl))
theorem dk_187 {code : ByteArray} {pc : Nat} (a b : UInt8) (h : DkAt code pc [187, a, b]) : decode code pc = .ok (.new (a.toNat * 256 + b.toNat), 3) := dk_of ((dk_bind (dk_u1 (h 0 _ rfl))).trans ((dk_bind (dk_u2 (h 1 _ rfl) (h 2 _ rfl))).trans rfl))
theorem dk_188_8 {code : ByteArray} {pc : Nat} (h : DkAt code pc [188, 8]) : decode code pc = .ok (.newarray .byte, 2) := dk_of ((dk_bind (dk_u1 (h 0 _ rfl))).trans ((dk_bind (dk_u1 (h 1 _ rfl))).trans rfl))
theorem dk_188_10 {code : ByteArray} {pc : Nat} (h : DkAt code pc [188, 10]) : decode code pc = .ok (.newarray .int, 2) := dk_of ((dk_bind (dk_u1 (h 0 _ rfl))).trans ((dk_bind (dk_u1 (h 1 _ rfl))).trans rfl))
theorem dk_190 {code : ByteArray} {pc : Nat} (h : DkAt code pc [190]) : decode code pc = .ok (.arraylength, 1) := dk_of ((dk_bind (dk_u1 (h 0 _ rfl))).trans rfl)
theorem dk_191 {code : ByteArray} {pc : Nat} (h : DkAt code pc [191]) : decode code pc = .ok (.athrow, 1) := dk_of ((dk_bind (dk_u1 (h 0 _ rfl))).trans rfl)
theorem dk_192 {code : ByteArray} {pc : Nat} (a b : UInt8) (h : DkAt code pc [192, a, b]) : decode code pc = .ok (.checkcast (a.toNat * 256 + b.toNat), 3) := dk_of ((dk_bind (dk_u1 (h 0 _ rfl))).trans ((dk_bind (dk_u2 (h 1 _ rfl) (h 2 _ rfl))).trans rfl))
theorem dk_193 {code : ByteArray} {pc : Nat} (a b : UInt8) (h : DkAt code pc [193, a, b]) : decode code pc = .ok (.instanceof (a.toNat * 256 + b.toNat), 3) := dk_of ((dk_bind (dk_u1 (h 0 _ rfl))).trans ((dk_bind (dk_u2 (h 1 _ rfl) (h 2 _ rfl))).trans rfl))
theorem dk_199 {code : ByteArray} {pc : Nat} (a b : UInt8) (h : DkAt code pc [199, a, b]) : decode code pc = .ok (.ifnonnull (Reader.signed 16 (a.toNat * 256 + b.toNat)), 3) := dk_of ((dk_bind (dk_u1 (h 0 _ rfl))).trans ((dk_bind (dk_map (dk_u2 (h 1 _ rfl) (h 2 _ rfl)))).trans rfl))
end
section
/-! RcSixDesk -/
set_option maxRecDepth 100000
def RX0 : String := "RcSixDesk"
def TX0 : u_T := fun k => match k with
  | 0 => ("RcSixDesk", "key", "[B", true)
  | 1 => ("RcSixDesk", "block", "[B", true)
  | _ => ("RcSixDesk", "out", "[B", true)
def tyX0 : Nat → FieldType := fun k => match k with
  | 0 => .array .byte
  | 1 => .array .byte
  | _ => .array .byte
abbrev wsX00 : List Cond := u_ws RX0 TX0 3
theorem nmX0 : ∀ a, a < 3 → ∀ b, b < 3 → a ≠ b → (TX0 a).2.1 ≠ (TX0 b).2.1 := by decide +kernel
theorem tyX0_ok : ∀ k, k < 3 → parseFieldDescriptor (TX0 k).2.2.1 = some (tyX0 k) := by decide +kernel
abbrev cX0_init : ByteArray := prog_7_method_1_code
def yX0_init : MethodName := ⟨RX0, "<init>", "()V"⟩
def dkwX0_init_1 : List UInt8 := [188, 8, 181, 0, 16, 177]
abbrev dktX0_init_1 : List UInt8 := dkwX0_init_1 ++ []
def dkwX0_init_0 : List UInt8 := [42, 183, 0, 1, 42, 16, 32, 188, 8, 181, 0, 7, 42, 16, 16, 188, 8, 181, 0, 13, 42, 16, 16]
abbrev dktX0_init_0 : List UInt8 := dkwX0_init_0 ++ dktX0_init_1
theorem dksX0_init_0 : cX0_init.data.toList.drop 0 = dktX0_init_0 := by decide +kernel
theorem dksX0_init_1 : cX0_init.data.toList.drop 23 = dktX0_init_1 := dk_seg dksX0_init_0 23 rfl rfl
theorem dX0_init_0 : decode cX0_init 0 = .ok (.aload_n 0, 1) := dk_42 (dk_at dksX0_init_0 0 rfl rfl)
theorem dX0_init_1 : decode cX0_init 1 = .ok (.invokespecial 1, 3) := dk_183 0 1 (dk_at dksX0_init_0 1 rfl rfl)
theorem dX0_init_4 : decode cX0_init 4 = .ok (.aload_n 0, 1) := dk_42 (dk_at dksX0_init_0 4 rfl rfl)
theorem dX0_init_5 : decode cX0_init 5 = .ok (.bipush 32, 2) := dk_16 32 (dk_at dksX0_init_0 5 rfl rfl)
theorem dX0_init_7 : decode cX0_init 7 = .ok (.newarray .byte, 2) := dk_188_8 (dk_at dksX0_init_0 7 rfl rfl)
theorem dX0_init_9 : decode cX0_init 9 = .ok (.putfield 7, 3) := dk_181 0 7 (dk_at dksX0_init_0 9 rfl rfl)
theorem dX0_init_12 : decode cX0_init 12 = .ok (.aload_n 0, 1) := dk_42 (dk_at dksX0_init_0 12 rfl rfl)
theorem dX0_init_13 : decode cX0_init 13 = .ok (.bipush 16, 2) := dk_16 16 (dk_at dksX0_init_0 13 rfl rfl)
theorem dX0_init_15 : decode cX0_init 15 = .ok (.newarray .byte, 2) := dk_188_8 (dk_at dksX0_init_0 15 rfl rfl)
theorem dX0_init_17 : decode cX0_init 17 = .ok (.putfield 13, 3) := dk_181 0 13 (dk_at dksX0_init_0 17 rfl rfl)
theorem dX0_init_20 : decode cX0_init 20 = .ok (.aload_n 0, 1) := dk_42 (dk_at dksX0_init_0 20 rfl rfl)
theorem dX0_init_21 : decode cX0_init 21 = .ok (.bipush 16, 2) := dk_16 16 (dk_at dksX0_init_0 21 rfl rfl)
theorem dX0_init_23 : decode cX0_init 23 = .ok (.newarray .byte, 2) := dk_188_8 (dk_at dksX0_init_1 0 rfl rfl)
theorem dX0_init_25 : decode cX0_init 25 = .ok (.putfield 16, 3) := dk_181 0 16 (dk_at dksX0_init_1 2 rfl rfl)
theorem dX0_init_28 : decode cX0_init 28 = .ok (.return_, 1) := dk_177 (dk_at dksX0_init_1 5 rfl rfl)
abbrev cX0_key : ByteArray := prog_7_method_3_code
def yX0_key : MethodName := ⟨RX0, "key", "(IIIII)V"⟩
def dkwX0_key_2 : List UInt8 := [21, 6, 16, 12, 96, 21, 5, 184, 0, 19, 177]
abbrev dktX0_key_2 : List UInt8 := dkwX0_key_2 ++ []
def dkwX0_key_1 : List UInt8 := [96, 29, 184, 0, 19, 42, 180, 0, 7, 21, 6, 16, 8, 96, 21, 4, 184, 0, 19, 42, 180, 0, 7]
abbrev dktX0_key_1 : List UInt8 := dkwX0_key_1 ++ dktX0_key_2
def dkwX0_key_0 : List UInt8 := [27, 4, 126, 7, 120, 54, 6, 42, 180, 0, 7, 21, 6, 28, 184, 0, 19, 42, 180, 0, 7, 21, 6, 7]
abbrev dktX0_key_0 : List UInt8 := dkwX0_key_0 ++ dktX0_key_1
theorem dksX0_key_0 : cX0_key.data.toList.drop 0 = dktX0_key_0 := by decide +kernel
theorem dksX0_key_1 : cX0_key.data.toList.drop 24 = dktX0_key_1 := dk_seg dksX0_key_0 24 rfl rfl
theorem dksX0_key_2 : cX0_key.data.toList.drop 47 = dktX0_key_2 := dk_seg dksX0_key_1 23 rfl rfl
theorem dX0_key_0 : decode cX0_key 0 = .ok (.iload_n 1, 1) := dk_27 (dk_at dksX0_key_0 0 rfl rfl)
theorem dX0_key_1 : decode cX0_key 1 = .ok (.iconst 1, 1) := dk_4 (dk_at dksX0_key_0 1 rfl rfl)
theorem dX0_key_2 : decode cX0_key 2 = .ok (.iand, 1) := dk_126 (dk_at dksX0_key_0 2 rfl rfl)
theorem dX0_key_3 : decode cX0_key 3 = .ok (.iconst 4, 1) := dk_7 (dk_at dksX0_key_0 3 rfl rfl)
theorem dX0_key_4 : decode cX0_key 4 = .ok (.ishl, 1) := dk_120 (dk_at dksX0_key_0 4 rfl rfl)
theorem dX0_key_5 : decode cX0_key 5 = .ok (.istore 6, 2) := dk_54 6 (dk_at dksX0_key_0 5 rfl rfl)
theorem dX0_key_7 : decode cX0_key 7 = .ok (.aload_n 0, 1) := dk_42 (dk_at dksX0_key_0 7 rfl rfl)
theorem dX0_key_8 : decode cX0_key 8 = .ok (.getfield 7, 3) := dk_180 0 7 (dk_at dksX0_key_0 8 rfl rfl)
theorem dX0_key_11 : decode cX0_key 11 = .ok (.iload 6, 2) := dk_21 6 (dk_at dksX0_key_0 11 rfl rfl)
theorem dX0_key_13 : decode cX0_key 13 = .ok (.iload_n 2, 1) := dk_28 (dk_at dksX0_key_0 13 rfl rfl)
theorem dX0_key_14 : decode cX0_key 14 = .ok (.invokestatic 19, 3) := dk_184 0 19 (dk_at dksX0_key_0 14 rfl rfl)
theorem dX0_key_17 : decode cX0_key 17 = .ok (.aload_n 0, 1) := dk_42 (dk_at dksX0_key_0 17 rfl rfl)
theorem dX0_key_18 : decode cX0_key 18 = .ok (.getfield 7, 3) := dk_180 0 7 (dk_at dksX0_key_0 18 rfl rfl)
theorem dX0_key_21 : decode cX0_key 21 = .ok (.iload 6, 2) := dk_21 6 (dk_at dksX0_key_0 21 rfl rfl)
theorem dX0_key_23 : decode cX0_key 23 = .ok (.iconst 4, 1) := dk_7 (dk_at dksX0_key_0 23 rfl rfl)
theorem dX0_key_24 : decode cX0_key 24 = .ok (.iadd, 1) := dk_96 (dk_at dksX0_key_1 0 rfl rfl)
theorem dX0_key_25 : decode cX0_key 25 = .ok (.iload_n 3, 1) := dk_29 (dk_at dksX0_key_1 1 rfl rfl)
theorem dX0_key_26 : decode cX0_key 26 = .ok (.invokestatic 19, 3) := dk_184 0 19 (dk_at dksX0_key_1 2 rfl rfl)
theorem dX0_key_29 : decode cX0_key 29 = .ok (.aload_n 0, 1) := dk_42 (dk_at dksX0_key_1 5 rfl rfl)
theorem dX0_key_30 : decode cX0_key 30 = .ok (.getfield 7, 3) := dk_180 0 7 (dk_at dksX0_key_1 6 rfl rfl)
theorem dX0_key_33 : decode cX0_key 33 = .ok (.iload 6, 2) := dk_21 6 (dk_at dksX0_key_1 9 rfl rfl)
theorem dX0_key_35 : decode cX0_key 35 = .ok (.bipush 8, 2) := dk_16 8 (dk_at dksX0_key_1 11 rfl rfl)
theorem dX0_key_37 : decode cX0_key 37 = .ok (.iadd, 1) := dk_96 (dk_at dksX0_key_1 13 rfl rfl)
theorem dX0_key_38 : decode cX0_key 38 = .ok (.iload 4, 2) := dk_21 4 (dk_at dksX0_key_1 14 rfl rfl)
theorem dX0_key_40 : decode cX0_key 40 = .ok (.invokestatic 19, 3) := dk_184 0 19 (dk_at dksX0_key_1 16 rfl rfl)
theorem dX0_key_43 : decode cX0_key 43 = .ok (.aload_n 0, 1) := dk_42 (dk_at dksX0_key_1 19 rfl rfl)
theorem dX0_key_44 : decode cX0_key 44 = .ok (.getfield 7, 3) := dk_180 0 7 (dk_at dksX0_key_1 20 rfl rfl)
theorem dX0_key_47 : decode cX0_key 47 = .ok (.iload 6, 2) := dk_21 6 (dk_at dksX0_key_2 0 rfl rfl)
theorem dX0_key_49 : decode cX0_key 49 = .ok (.bipush 12, 2) := dk_16 12 (dk_at dksX0_key_2 2 rfl rfl)
theorem dX0_key_51 : decode cX0_key 51 = .ok (.iadd, 1) := dk_96 (dk_at dksX0_key_2 4 rfl rfl)
theorem dX0_key_52 : decode cX0_key 52 = .ok (.iload 5, 2) := dk_21 5 (dk_at dksX0_key_2 5 rfl rfl)
theorem dX0_key_54 : decode cX0_key 54 = .ok (.invokestatic 19, 3) := dk_184 0 19 (dk_at dksX0_key_2 7 rfl rfl)
theorem dX0_key_57 : decode cX0_key 57 = .ok (.return_, 1) := dk_177 (dk_at dksX0_key_2 10 rfl rfl)
abbrev cX0_word : ByteArray := prog_7_method_2_code
def yX0_word : MethodName := ⟨RX0, "word", "([BII)V"⟩
def dkwX0_word_1 : List UInt8 := [16, 8, 122, 145, 84, 42, 27, 6, 96, 28, 145, 84, 177]
abbrev dktX0_word_1 : List UInt8 := dkwX0_word_1 ++ []
def dkwX0_word_0 : List UInt8 := [42, 27, 28, 16, 24, 122, 145, 84, 42, 27, 4, 96, 28, 16, 16, 122, 145, 84, 42, 27, 5, 96, 28]
abbrev dktX0_word_0 : List UInt8 := dkwX0_word_0 ++ dktX0_word_1
theorem dksX0_word_0 : cX0_word.data.toList.drop 0 = dktX0_word_0 := by decide +kernel
theorem dksX0_word_1 : cX0_word.data.toList.drop 23 = dktX0_word_1 := dk_seg dksX0_word_0 23 rfl rfl
theorem dX0_word_0 : decode cX0_word 0 = .ok (.aload_n 0, 1) := dk_42 (dk_at dksX0_word_0 0 rfl rfl)
theorem dX0_word_1 : decode cX0_word 1 = .ok (.iload_n 1, 1) := dk_27 (dk_at dksX0_word_0 1 rfl rfl)
theorem dX0_word_2 : decode cX0_word 2 = .ok (.iload_n 2, 1) := dk_28 (dk_at dksX0_word_0 2 rfl rfl)
theorem dX0_word_3 : decode cX0_word 3 = .ok (.bipush 24, 2) := dk_16 24 (dk_at dksX0_word_0 3 rfl rfl)
theorem dX0_word_5 : decode cX0_word 5 = .ok (.ishr, 1) := dk_122 (dk_at dksX0_word_0 5 rfl rfl)
theorem dX0_word_6 : decode cX0_word 6 = .ok (.i2b, 1) := dk_145 (dk_at dksX0_word_0 6 rfl rfl)
theorem dX0_word_7 : decode cX0_word 7 = .ok (.bastore, 1) := dk_84 (dk_at dksX0_word_0 7 rfl rfl)
theorem dX0_word_8 : decode cX0_word 8 = .ok (.aload_n 0, 1) := dk_42 (dk_at dksX0_word_0 8 rfl rfl)
theorem dX0_word_9 : decode cX0_word 9 = .ok (.iload_n 1, 1) := dk_27 (dk_at dksX0_word_0 9 rfl rfl)
theorem dX0_word_10 : decode cX0_word 10 = .ok (.iconst 1, 1) := dk_4 (dk_at dksX0_word_0 10 rfl rfl)
theorem dX0_word_11 : decode cX0_word 11 = .ok (.iadd, 1) := dk_96 (dk_at dksX0_word_0 11 rfl rfl)
theorem dX0_word_12 : decode cX0_word 12 = .ok (.iload_n 2, 1) := dk_28 (dk_at dksX0_word_0 12 rfl rfl)
theorem dX0_word_13 : decode cX0_word 13 = .ok (.bipush 16, 2) := dk_16 16 (dk_at dksX0_word_0 13 rfl rfl)
theorem dX0_word_15 : decode cX0_word 15 = .ok (.ishr, 1) := dk_122 (dk_at dksX0_word_0 15 rfl rfl)
theorem dX0_word_16 : decode cX0_word 16 = .ok (.i2b, 1) := dk_145 (dk_at dksX0_word_0 16 rfl rfl)
theorem dX0_word_17 : decode cX0_word 17 = .ok (.bastore, 1) := dk_84 (dk_at dksX0_word_0 17 rfl rfl)
theorem dX0_word_18 : decode cX0_word 18 = .ok (.aload_n 0, 1) := dk_42 (dk_at dksX0_word_0 18 rfl rfl)
theorem dX0_word_19 : decode cX0_word 19 = .ok (.iload_n 1, 1) := dk_27 (dk_at dksX0_word_0 19 rfl rfl)
theorem dX0_word_20 : decode cX0_word 20 = .ok (.iconst 2, 1) := dk_5 (dk_at dksX0_word_0 20 rfl rfl)
theorem dX0_word_21 : decode cX0_word 21 = .ok (.iadd, 1) := dk_96 (dk_at dksX0_word_0 21 rfl rfl)
theorem dX0_word_22 : decode cX0_word 22 = .ok (.iload_n 2, 1) := dk_28 (dk_at dksX0_word_0 22 rfl rfl)
theorem dX0_word_23 : decode cX0_word 23 = .ok (.bipush 8, 2) := dk_16 8 (dk_at dksX0_word_1 0 rfl rfl)
theorem dX0_word_25 : decode cX0_word 25 = .ok (.ishr, 1) := dk_122 (dk_at dksX0_word_1 2 rfl rfl)
theorem dX0_word_26 : decode cX0_word 26 = .ok (.i2b, 1) := dk_145 (dk_at dksX0_word_1 3 rfl rfl)
theorem dX0_word_27 : decode cX0_word 27 = .ok (.bastore, 1) := dk_84 (dk_at dksX0_word_1 4 rfl rfl)
theorem dX0_word_28 : decode cX0_word 28 = .ok (.aload_n 0, 1) := dk_42 (dk_at dksX0_word_1 5 rfl rfl)
theorem dX0_word_29 : decode cX0_word 29 = .ok (.iload_n 1, 1) := dk_27 (dk_at dksX0_word_1 6 rfl rfl)
theorem dX0_word_30 : decode cX0_word 30 = .ok (.iconst 3, 1) := dk_6 (dk_at dksX0_word_1 7 rfl rfl)
theorem dX0_word_31 : decode cX0_word 31 = .ok (.iadd, 1) := dk_96 (dk_at dksX0_word_1 8 rfl rfl)
theorem dX0_word_32 : decode cX0_word 32 = .ok (.iload_n 2, 1) := dk_28 (dk_at dksX0_word_1 9 rfl rfl)
theorem dX0_word_33 : decode cX0_word 33 = .ok (.i2b, 1) := dk_145 (dk_at dksX0_word_1 10 rfl rfl)
theorem dX0_word_34 : decode cX0_word 34 = .ok (.bastore, 1) := dk_84 (dk_at dksX0_word_1 11 rfl rfl)
theorem dX0_word_35 : decode cX0_word 35 = .ok (.return_, 1) := dk_177 (dk_at dksX0_word_1 12 rfl rfl)
abbrev cX0_block : ByteArray := prog_7_method_4_code
def yX0_block : MethodName := ⟨RX0, "block", "(IIII)V"⟩
def dkwX0_block_1 : List UInt8 := [29, 184, 0, 19, 42, 180, 0, 13, 16, 12, 21, 4, 184, 0, 19, 177]
abbrev dktX0_block_1 : List UInt8 := dkwX0_block_1 ++ []
def dkwX0_block_0 : List UInt8 := [42, 180, 0, 13, 3, 27, 184, 0, 19, 42, 180, 0, 13, 7, 28, 184, 0, 19, 42, 180, 0, 13, 16, 8]
abbrev dktX0_block_0 : List UInt8 := dkwX0_block_0 ++ dktX0_block_1
theorem dksX0_block_0 : cX0_block.data.toList.drop 0 = dktX0_block_0 := by decide +kernel
theorem dksX0_block_1 : cX0_block.data.toList.drop 24 = dktX0_block_1 := dk_seg dksX0_block_0 24 rfl rfl
theorem dX0_block_0 : decode cX0_block 0 = .ok (.aload_n 0, 1) := dk_42 (dk_at dksX0_block_0 0 rfl rfl)
theorem dX0_block_1 : decode cX0_block 1 = .ok (.getfield 13, 3) := dk_180 0 13 (dk_at dksX0_block_0 1 rfl rfl)
theorem dX0_block_4 : decode cX0_block 4 = .ok (.iconst 0, 1) := dk_3 (dk_at dksX0_block_0 4 rfl rfl)
theorem dX0_block_5 : decode cX0_block 5 = .ok (.iload_n 1, 1) := dk_27 (dk_at dksX0_block_0 5 rfl rfl)
theorem dX0_block_6 : decode cX0_block 6 = .ok (.invokestatic 19, 3) := dk_184 0 19 (dk_at dksX0_block_0 6 rfl rfl)
theorem dX0_block_9 : decode cX0_block 9 = .ok (.aload_n 0, 1) := dk_42 (dk_at dksX0_block_0 9 rfl rfl)
theorem dX0_block_10 : decode cX0_block 10 = .ok (.getfield 13, 3) := dk_180 0 13 (dk_at dksX0_block_0 10 rfl rfl)
theorem dX0_block_13 : decode cX0_block 13 = .ok (.iconst 4, 1) := dk_7 (dk_at dksX0_block_0 13 rfl rfl)
theorem dX0_block_14 : decode cX0_block 14 = .ok (.iload_n 2, 1) := dk_28 (dk_at dksX0_block_0 14 rfl rfl)
theorem dX0_block_15 : decode cX0_block 15 = .ok (.invokestatic 19, 3) := dk_184 0 19 (dk_at dksX0_block_0 15 rfl rfl)
theorem dX0_block_18 : decode cX0_block 18 = .ok (.aload_n 0, 1) := dk_42 (dk_at dksX0_block_0 18 rfl rfl)
theorem dX0_block_19 : decode cX0_block 19 = .ok (.getfield 13, 3) := dk_180 0 13 (dk_at dksX0_block_0 19 rfl rfl)
theorem dX0_block_22 : decode cX0_block 22 = .ok (.bipush 8, 2) := dk_16 8 (dk_at dksX0_block_0 22 rfl rfl)
theorem dX0_block_24 : decode cX0_block 24 = .ok (.iload_n 3, 1) := dk_29 (dk_at dksX0_block_1 0 rfl rfl)
theorem dX0_block_25 : decode cX0_block 25 = .ok (.invokestatic 19, 3) := dk_184 0 19 (dk_at dksX0_block_1 1 rfl rfl)
theorem dX0_block_28 : decode cX0_block 28 = .ok (.aload_n 0, 1) := dk_42 (dk_at dksX0_block_1 4 rfl rfl)
theorem dX0_block_29 : decode cX0_block 29 = .ok (.getfield 13, 3) := dk_180 0 13 (dk_at dksX0_block_1 5 rfl rfl)
theorem dX0_block_32 : decode cX0_block 32 = .ok (.bipush 12, 2) := dk_16 12 (dk_at dksX0_block_1 8 rfl rfl)
theorem dX0_block_34 : decode cX0_block 34 = .ok (.iload 4, 2) := dk_21 4 (dk_at dksX0_block_1 10 rfl rfl)
theorem dX0_block_36 : decode cX0_block 36 = .ok (.invokestatic 19, 3) := dk_184 0 19 (dk_at dksX0_block_1 12 rfl rfl)
theorem dX0_block_39 : decode cX0_block 39 = .ok (.return_, 1) := dk_177 (dk_at dksX0_block_1 15 rfl rfl)
abbrev cX0_lock : ByteArray := prog_7_method_7_code
def yX0_lock : MethodName := ⟨RX0, "lock", "(I)V"⟩
def dkwX0_lock_0 : List UInt8 := [42, 4, 27, 182, 0, 45, 177]
abbrev dktX0_lock_0 : List UInt8 := dkwX0_lock_0 ++ []
theorem dksX0_lock_0 : cX0_lock.data.toList.drop 0 = dktX0_lock_0 := by decide +kernel
theorem dX0_lock_0 : decode cX0_lock 0 = .ok (.aload_n 0, 1) := dk_42 (dk_at dksX0_lock_0 0 rfl rfl)
theorem dX0_lock_1 : decode cX0_lock 1 = .ok (.iconst 1, 1) := dk_4 (dk_at dksX0_lock_0 1 rfl rfl)
theorem dX0_lock_2 : decode cX0_lock 2 = .ok (.iload_n 1, 1) := dk_27 (dk_at dksX0_lock_0 2 rfl rfl)
theorem dX0_lock_3 : decode cX0_lock 3 = .ok (.invokevirtual 45, 3) := dk_182 0 45 (dk_at dksX0_lock_0 3 rfl rfl)
theorem dX0_lock_6 : decode cX0_lock 6 = .ok (.return_, 1) := dk_177 (dk_at dksX0_lock_0 6 rfl rfl)
abbrev cX0_run : ByteArray := prog_7_method_5_code
def yX0_run : MethodName := ⟨RX0, "run", "(ZI)V"⟩
def dkwX0_run_3 : List UInt8 := [180, 0, 13, 3, 42, 180, 0, 16, 3, 185, 0, 41, 5, 0, 87, 177]
abbrev dktX0_run_3 : List UInt8 := dkwX0_run_3 ++ []
def dkwX0_run_2 : List UInt8 := [58, 5, 25, 5, 27, 187, 0, 30, 89, 25, 4, 183, 0, 32, 185, 0, 35, 3, 0, 25, 5, 42]
abbrev dktX0_run_2 : List UInt8 := dkwX0_run_2 ++ dktX0_run_3
def dkwX0_run_1 : List UInt8 := [21, 5, 42, 180, 0, 7, 21, 5, 51, 84, 132, 5, 1, 167, 255, 235, 187, 0, 27, 89, 183, 0, 29]
abbrev dktX0_run_1 : List UInt8 := dkwX0_run_1 ++ dktX0_run_2
def dkwX0_run_0 : List UInt8 := [28, 6, 126, 184, 0, 23, 62, 29, 188, 8, 58, 4, 3, 54, 5, 21, 5, 29, 162, 0, 21, 25, 4]
abbrev dktX0_run_0 : List UInt8 := dkwX0_run_0 ++ dktX0_run_1
theorem dksX0_run_0 : cX0_run.data.toList.drop 0 = dktX0_run_0 := by decide +kernel
theorem dksX0_run_1 : cX0_run.data.toList.drop 23 = dktX0_run_1 := dk_seg dksX0_run_0 23 rfl rfl
theorem dksX0_run_2 : cX0_run.data.toList.drop 46 = dktX0_run_2 := dk_seg dksX0_run_1 23 rfl rfl
theorem dksX0_run_3 : cX0_run.data.toList.drop 68 = dktX0_run_3 := dk_seg dksX0_run_2 22 rfl rfl
theorem dX0_run_0 : decode cX0_run 0 = .ok (.iload_n 2, 1) := dk_28 (dk_at dksX0_run_0 0 rfl rfl)
theorem dX0_run_1 : decode cX0_run 1 = .ok (.iconst 3, 1) := dk_6 (dk_at dksX0_run_0 1 rfl rfl)
theorem dX0_run_2 : decode cX0_run 2 = .ok (.iand, 1) := dk_126 (dk_at dksX0_run_0 2 rfl rfl)
theorem dX0_run_3 : decode cX0_run 3 = .ok (.invokestatic 23, 3) := dk_184 0 23 (dk_at dksX0_run_0 3 rfl rfl)
theorem dX0_run_6 : decode cX0_run 6 = .ok (.istore_n 3, 1) := dk_62 (dk_at dksX0_run_0 6 rfl rfl)
theorem dX0_run_7 : decode cX0_run 7 = .ok (.iload_n 3, 1) := dk_29 (dk_at dksX0_run_0 7 rfl rfl)
theorem dX0_run_8 : decode cX0_run 8 = .ok (.newarray .byte, 2) := dk_188_8 (dk_at dksX0_run_0 8 rfl rfl)
theorem dX0_run_10 : decode cX0_run 10 = .ok (.astore 4, 2) := dk_58 4 (dk_at dksX0_run_0 10 rfl rfl)
theorem dX0_run_12 : decode cX0_run 12 = .ok (.iconst 0, 1) := dk_3 (dk_at dksX0_run_0 12 rfl rfl)
theorem dX0_run_13 : decode cX0_run 13 = .ok (.istore 5, 2) := dk_54 5 (dk_at dksX0_run_0 13 rfl rfl)
theorem dX0_run_15 : decode cX0_run 15 = .ok (.iload 5, 2) := dk_21 5 (dk_at dksX0_run_0 15 rfl rfl)
theorem dX0_run_17 : decode cX0_run 17 = .ok (.iload_n 3, 1) := dk_29 (dk_at dksX0_run_0 17 rfl rfl)
theorem dX0_run_18 : decode cX0_run 18 = .ok (.if_icmp .ge 21, 3) := dk_162 0 21 (dk_at dksX0_run_0 18 rfl rfl)
theorem dX0_run_21 : decode cX0_run 21 = .ok (.aload 4, 2) := dk_25 4 (dk_at dksX0_run_0 21 rfl rfl)
theorem dX0_run_23 : decode cX0_run 23 = .ok (.iload 5, 2) := dk_21 5 (dk_at dksX0_run_1 0 rfl rfl)
theorem dX0_run_25 : decode cX0_run 25 = .ok (.aload_n 0, 1) := dk_42 (dk_at dksX0_run_1 2 rfl rfl)
theorem dX0_run_26 : decode cX0_run 26 = .ok (.getfield 7, 3) := dk_180 0 7 (dk_at dksX0_run_1 3 rfl rfl)
theorem dX0_run_29 : decode cX0_run 29 = .ok (.iload 5, 2) := dk_21 5 (dk_at dksX0_run_1 6 rfl rfl)
theorem dX0_run_31 : decode cX0_run 31 = .ok (.baload, 1) := dk_51 (dk_at dksX0_run_1 8 rfl rfl)
theorem dX0_run_32 : decode cX0_run 32 = .ok (.bastore, 1) := dk_84 (dk_at dksX0_run_1 9 rfl rfl)
theorem dX0_run_33 : decode cX0_run 33 = .ok (.iinc 5 1, 3) := dk_132 5 1 (dk_at dksX0_run_1 10 rfl rfl)
theorem dX0_run_36 : decode cX0_run 36 = .ok (.goto (-21), 3) := dk_167 255 235 (dk_at dksX0_run_1 13 rfl rfl)
theorem dX0_run_39 : decode cX0_run 39 = .ok (.new 27, 3) := dk_187 0 27 (dk_at dksX0_run_1 16 rfl rfl)
theorem dX0_run_42 : decode cX0_run 42 = .ok (.dup, 1) := dk_89 (dk_at dksX0_run_1 19 rfl rfl)
theorem dX0_run_43 : decode cX0_run 43 = .ok (.invokespecial 29, 3) := dk_183 0 29 (dk_at dksX0_run_1 20 rfl rfl)
theorem dX0_run_46 : decode cX0_run 46 = .ok (.astore 5, 2) := dk_58 5 (dk_at dksX0_run_2 0 rfl rfl)
theorem dX0_run_48 : decode cX0_run 48 = .ok (.aload 5, 2) := dk_25 5 (dk_at dksX0_run_2 2 rfl rfl)
theorem dX0_run_50 : decode cX0_run 50 = .ok (.iload_n 1, 1) := dk_27 (dk_at dksX0_run_2 4 rfl rfl)
theorem dX0_run_51 : decode cX0_run 51 = .ok (.new 30, 3) := dk_187 0 30 (dk_at dksX0_run_2 5 rfl rfl)
theorem dX0_run_54 : decode cX0_run 54 = .ok (.dup, 1) := dk_89 (dk_at dksX0_run_2 8 rfl rfl)
theorem dX0_run_55 : decode cX0_run 55 = .ok (.aload 4, 2) := dk_25 4 (dk_at dksX0_run_2 9 rfl rfl)
theorem dX0_run_57 : decode cX0_run 57 = .ok (.invokespecial 32, 3) := dk_183 0 32 (dk_at dksX0_run_2 11 rfl rfl)
theorem dX0_run_60 : decode cX0_run 60 = .ok (.invokeinterface 35 3, 5) := by decide +kernel
theorem dX0_run_65 : decode cX0_run 65 = .ok (.aload 5, 2) := dk_25 5 (dk_at dksX0_run_2 19 rfl rfl)
theorem dX0_run_67 : decode cX0_run 67 = .ok (.aload_n 0, 1) := dk_42 (dk_at dksX0_run_2 21 rfl rfl)
theorem dX0_run_68 : decode cX0_run 68 = .ok (.getfield 13, 3) := dk_180 0 13 (dk_at dksX0_run_3 0 rfl rfl)
theorem dX0_run_71 : decode cX0_run 71 = .ok (.iconst 0, 1) := dk_3 (dk_at dksX0_run_3 3 rfl rfl)
theorem dX0_run_72 : decode cX0_run 72 = .ok (.aload_n 0, 1) := dk_42 (dk_at dksX0_run_3 4 rfl rfl)
theorem dX0_run_73 : decode cX0_run 73 = .ok (.getfield 16, 3) := dk_180 0 16 (dk_at dksX0_run_3 5 rfl rfl)
theorem dX0_run_76 : decode cX0_run 76 = .ok (.iconst 0, 1) := dk_3 (dk_at dksX0_run_3 8 rfl rfl)
theorem dX0_run_77 : decode cX0_run 77 = .ok (.invokeinterface 41 5, 5) := by decide +kernel
theorem dX0_run_82 : decode cX0_run 82 = .ok (.pop, 1) := dk_87 (dk_at dksX0_run_3 14 rfl rfl)
theorem dX0_run_83 : decode cX0_run 83 = .ok (.return_, 1) := dk_177 (dk_at dksX0_run_3 15 rfl rfl)
abbrev cX0_size : ByteArray := prog_7_method_6_code
def yX0_size : MethodName := ⟨RX0, "size", "(I)I"⟩
def dkwX0_size_1 : List UInt8 := [167, 0, 5, 16, 32, 172]
abbrev dktX0_size_1 : List UInt8 := dkwX0_size_1 ++ []
def dkwX0_size_0 : List UInt8 := [26, 6, 126, 6, 112, 154, 0, 8, 16, 16, 167, 0, 19, 26, 6, 126, 6, 112, 4, 160, 0, 8, 16, 24]
abbrev dktX0_size_0 : List UInt8 := dkwX0_size_0 ++ dktX0_size_1
theorem dksX0_size_0 : cX0_size.data.toList.drop 0 = dktX0_size_0 := by decide +kernel
theorem dksX0_size_1 : cX0_size.data.toList.drop 24 = dktX0_size_1 := dk_seg dksX0_size_0 24 rfl rfl
theorem dX0_size_0 : decode cX0_size 0 = .ok (.iload_n 0, 1) := dk_26 (dk_at dksX0_size_0 0 rfl rfl)
theorem dX0_size_1 : decode cX0_size 1 = .ok (.iconst 3, 1) := dk_6 (dk_at dksX0_size_0 1 rfl rfl)
theorem dX0_size_2 : decode cX0_size 2 = .ok (.iand, 1) := dk_126 (dk_at dksX0_size_0 2 rfl rfl)
theorem dX0_size_3 : decode cX0_size 3 = .ok (.iconst 3, 1) := dk_6 (dk_at dksX0_size_0 3 rfl rfl)
theorem dX0_size_4 : decode cX0_size 4 = .ok (.irem, 1) := dk_112 (dk_at dksX0_size_0 4 rfl rfl)
theorem dX0_size_5 : decode cX0_size 5 = .ok (.ifCond .ne 8, 3) := dk_154 0 8 (dk_at dksX0_size_0 5 rfl rfl)
theorem dX0_size_8 : decode cX0_size 8 = .ok (.bipush 16, 2) := dk_16 16 (dk_at dksX0_size_0 8 rfl rfl)
theorem dX0_size_10 : decode cX0_size 10 = .ok (.goto 19, 3) := dk_167 0 19 (dk_at dksX0_size_0 10 rfl rfl)
theorem dX0_size_13 : decode cX0_size 13 = .ok (.iload_n 0, 1) := dk_26 (dk_at dksX0_size_0 13 rfl rfl)
theorem dX0_size_14 : decode cX0_size 14 = .ok (.iconst 3, 1) := dk_6 (dk_at dksX0_size_0 14 rfl rfl)
theorem dX0_size_15 : decode cX0_size 15 = .ok (.iand, 1) := dk_126 (dk_at dksX0_size_0 15 rfl rfl)
theorem dX0_size_16 : decode cX0_size 16 = .ok (.iconst 3, 1) := dk_6 (dk_at dksX0_size_0 16 rfl rfl)
theorem dX0_size_17 : decode cX0_size 17 = .ok (.irem, 1) := dk_112 (dk_at dksX0_size_0 17 rfl rfl)
theorem dX0_size_18 : decode cX0_size 18 = .ok (.iconst 1, 1) := dk_4 (dk_at dksX0_size_0 18 rfl rfl)
theorem dX0_size_19 : decode cX0_size 19 = .ok (.if_icmp .ne 8, 3) := dk_160 0 8 (dk_at dksX0_size_0 19 rfl rfl)
theorem dX0_size_22 : decode cX0_size 22 = .ok (.bipush 24, 2) := dk_16 24 (dk_at dksX0_size_0 22 rfl rfl)
theorem dX0_size_24 : decode cX0_size 24 = .ok (.goto 5, 3) := dk_167 0 5 (dk_at dksX0_size_1 0 rfl rfl)
theorem dX0_size_27 : decode cX0_size 27 = .ok (.bipush 32, 2) := dk_16 32 (dk_at dksX0_size_1 3 rfl rfl)
theorem dX0_size_29 : decode cX0_size 29 = .ok (.ireturn, 1) := dk_172 (dk_at dksX0_size_1 5 rfl rfl)
abbrev cX0_open : ByteArray := prog_7_method_8_code
def yX0_open : MethodName := ⟨RX0, "open", "(I)V"⟩
def dkwX0_open_0 : List UInt8 := [42, 3, 27, 182, 0, 45, 177]
abbrev dktX0_open_0 : List UInt8 := dkwX0_open_0 ++ []
theorem dksX0_open_0 : cX0_open.data.toList.drop 0 = dktX0_open_0 := by decide +kernel
theorem dX0_open_0 : decode cX0_open 0 = .ok (.aload_n 0, 1) := dk_42 (dk_at dksX0_open_0 0 rfl rfl)
theorem dX0_open_1 : decode cX0_open 1 = .ok (.iconst 0, 1) := dk_3 (dk_at dksX0_open_0 1 rfl rfl)
theorem dX0_open_2 : decode cX0_open 2 = .ok (.iload_n 1, 1) := dk_27 (dk_at dksX0_open_0 2 rfl rfl)
theorem dX0_open_3 : decode cX0_open 3 = .ok (.invokevirtual 45, 3) := dk_182 0 45 (dk_at dksX0_open_0 3 rfl rfl)
theorem dX0_open_6 : decode cX0_open 6 = .ok (.return_, 1) := dk_177 (dk_at dksX0_open_0 6 rfl rfl)
abbrev cX0_again : ByteArray := prog_7_method_9_code
def yX0_again : MethodName := ⟨RX0, "again", "()V"⟩
def dkwX0_again_1 : List UInt8 := [167, 255, 235, 177]
abbrev dktX0_again_1 : List UInt8 := dkwX0_again_1 ++ []
def dkwX0_again_0 : List UInt8 := [3, 60, 27, 16, 16, 162, 0, 21, 42, 180, 0, 13, 27, 42, 180, 0, 16, 27, 51, 84, 132, 1, 1]
abbrev dktX0_again_0 : List UInt8 := dkwX0_again_0 ++ dktX0_again_1
theorem dksX0_again_0 : cX0_again.data.toList.drop 0 = dktX0_again_0 := by decide +kernel
theorem dksX0_again_1 : cX0_again.data.toList.drop 23 = dktX0_again_1 := dk_seg dksX0_again_0 23 rfl rfl
theorem dX0_again_0 : decode cX0_again 0 = .ok (.iconst 0, 1) := dk_3 (dk_at dksX0_again_0 0 rfl rfl)
theorem dX0_again_1 : decode cX0_again 1 = .ok (.istore_n 1, 1) := dk_60 (dk_at dksX0_again_0 1 rfl rfl)
theorem dX0_again_2 : decode cX0_again 2 = .ok (.iload_n 1, 1) := dk_27 (dk_at dksX0_again_0 2 rfl rfl)
theorem dX0_again_3 : decode cX0_again 3 = .ok (.bipush 16, 2) := dk_16 16 (dk_at dksX0_again_0 3 rfl rfl)
theorem dX0_again_5 : decode cX0_again 5 = .ok (.if_icmp .ge 21, 3) := dk_162 0 21 (dk_at dksX0_again_0 5 rfl rfl)
theorem dX0_again_8 : decode cX0_again 8 = .ok (.aload_n 0, 1) := dk_42 (dk_at dksX0_again_0 8 rfl rfl)
theorem dX0_again_9 : decode cX0_again 9 = .ok (.getfield 13, 3) := dk_180 0 13 (dk_at dksX0_again_0 9 rfl rfl)
theorem dX0_again_12 : decode cX0_again 12 = .ok (.iload_n 1, 1) := dk_27 (dk_at dksX0_again_0 12 rfl rfl)
theorem dX0_again_13 : decode cX0_again 13 = .ok (.aload_n 0, 1) := dk_42 (dk_at dksX0_again_0 13 rfl rfl)
theorem dX0_again_14 : decode cX0_again 14 = .ok (.getfield 16, 3) := dk_180 0 16 (dk_at dksX0_again_0 14 rfl rfl)
theorem dX0_again_17 : decode cX0_again 17 = .ok (.iload_n 1, 1) := dk_27 (dk_at dksX0_again_0 17 rfl rfl)
theorem dX0_again_18 : decode cX0_again 18 = .ok (.baload, 1) := dk_51 (dk_at dksX0_again_0 18 rfl rfl)
theorem dX0_again_19 : decode cX0_again 19 = .ok (.bastore, 1) := dk_84 (dk_at dksX0_again_0 19 rfl rfl)
theorem dX0_again_20 : decode cX0_again 20 = .ok (.iinc 1 1, 3) := dk_132 1 1 (dk_at dksX0_again_0 20 rfl rfl)
theorem dX0_again_23 : decode cX0_again 23 = .ok (.goto (-21), 3) := dk_167 255 235 (dk_at dksX0_again_1 0 rfl rfl)
theorem dX0_again_26 : decode cX0_again 26 = .ok (.return_, 1) := dk_177 (dk_at dksX0_again_1 3 rfl rfl)
abbrev cX0_out : ByteArray := prog_7_method_10_code
def yX0_out : MethodName := ⟨RX0, "out", "(I)I"⟩
def dkwX0_out_0 : List UInt8 := [42, 180, 0, 16, 27, 16, 15, 126, 51, 17, 0, 255, 126, 172]
abbrev dktX0_out_0 : List UInt8 := dkwX0_out_0 ++ []
theorem dksX0_out_0 : cX0_out.data.toList.drop 0 = dktX0_out_0 := by decide +kernel
theorem dX0_out_0 : decode cX0_out 0 = .ok (.aload_n 0, 1) := dk_42 (dk_at dksX0_out_0 0 rfl rfl)
theorem dX0_out_1 : decode cX0_out 1 = .ok (.getfield 16, 3) := dk_180 0 16 (dk_at dksX0_out_0 1 rfl rfl)
theorem dX0_out_4 : decode cX0_out 4 = .ok (.iload_n 1, 1) := dk_27 (dk_at dksX0_out_0 4 rfl rfl)
theorem dX0_out_5 : decode cX0_out 5 = .ok (.bipush 15, 2) := dk_16 15 (dk_at dksX0_out_0 5 rfl rfl)
theorem dX0_out_7 : decode cX0_out 7 = .ok (.iand, 1) := dk_126 (dk_at dksX0_out_0 7 rfl rfl)
theorem dX0_out_8 : decode cX0_out 8 = .ok (.baload, 1) := dk_51 (dk_at dksX0_out_0 8 rfl rfl)
theorem dX0_out_9 : decode cX0_out 9 = .ok (.sipush 255, 3) := dk_17 0 255 (dk_at dksX0_out_0 9 rfl rfl)
theorem dX0_out_12 : decode cX0_out 12 = .ok (.iand, 1) := dk_126 (dk_at dksX0_out_0 12 rfl rfl)
theorem dX0_out_13 : decode cX0_out 13 = .ok (.ireturn, 1) := dk_172 (dk_at dksX0_out_0 13 rfl rfl)
theorem q13 : (Jvm.Cond.initialized "RcSixDesk") ∈ lw_all := lw_g (lw_at lw_m1 1 rfl) rfl
theorem q27 : (Jvm.Cond.instantiable "RcSixDesk" (3 : Nat)) ∈ lw_all := lw_g (lw_at lw_m1 15 rfl) rfl
theorem q29 : (Jvm.Cond.instanceMethod ({ cls := "RcSixDesk", name := "<init>", desc := "()V" } : Jvm.MethodName)) ∈ lw_all := lw_g (lw_at lw_m1 17 rfl) rfl
theorem q30 : (Jvm.Cond.code ({ cls := "RcSixDesk", name := "<init>", desc := "()V" } : Jvm.MethodName) prog_7_method_1_code (1 : Nat) (Option.none : Option Jvm.ClassFile.FieldType)) ∈ lw_all := lw_g (lw_at lw_m1 18 rfl) rfl
theorem q31 : (Jvm.Cond.methodLink "RcSixDesk" (1 : Nat) ({ cls := "java/lang/Object", name := "<init>", desc := "()V" } : Jvm.MethodName)) ∈ lw_all := lw_g (lw_at lw_m1 19 rfl) rfl
theorem q34 : (Jvm.Cond.fieldLink "RcSixDesk" (7 : Nat) "RcSixDesk" "key" "[B") ∈ lw_all := lw_g (lw_at lw_m1 22 rfl) rfl
theorem q35 : (Jvm.Cond.fieldLink "RcSixDesk" (13 : Nat) "RcSixDesk" "block" "[B") ∈ lw_all := lw_g (lw_at lw_m1 23 rfl) rfl
theorem q36 : (Jvm.Cond.fieldLink "RcSixDesk" (16 : Nat) "RcSixDesk" "out" "[B") ∈ lw_all := lw_g (lw_at lw_m1 24 rfl) rfl
theorem q37 : (Jvm.Cond.laysFinal "RcSixDesk" "RcSixDesk" "key" "[B") ∈ lw_all := lw_g (lw_at lw_m1 25 rfl) rfl
theorem q38 : (Jvm.Cond.soleField "RcSixDesk" "key") ∈ lw_all := lw_g (lw_at lw_m1 26 rfl) rfl
theorem q39 : (Jvm.Cond.laysFinal "RcSixDesk" "RcSixDesk" "block" "[B") ∈ lw_all := lw_g (lw_at lw_m1 27 rfl) rfl
theorem q40 : (Jvm.Cond.soleField "RcSixDesk" "block") ∈ lw_all := lw_g (lw_at lw_m1 28 rfl) rfl
theorem q41 : (Jvm.Cond.laysFinal "RcSixDesk" "RcSixDesk" "out" "[B") ∈ lw_all := lw_g (lw_at lw_m1 29 rfl) rfl
theorem q42 : (Jvm.Cond.soleField "RcSixDesk" "out") ∈ lw_all := lw_g (lw_at lw_m1 30 rfl) rfl
theorem q43 : (Jvm.Cond.superclass "RcSixDesk" "java/lang/Object") ∈ lw_all := lw_g (lw_at lw_m1 31 rfl) rfl
theorem q46 : (Jvm.Cond.instanceMethod ({ cls := "RcSixDesk", name := "key", desc := "(IIIII)V" } : Jvm.MethodName)) ∈ lw_all := lw_g (lw_at lw_m1 34 rfl) rfl
theorem q47 : (Jvm.Cond.selects "RcSixDesk" ({ cls := "RcSixDesk", name := "key", desc := "(IIIII)V" } : Jvm.MethodName) ({ cls := "RcSixDesk", name := "key", desc := "(IIIII)V" } : Jvm.MethodName)) ∈ lw_all := lw_g (lw_at lw_m1 35 rfl) rfl
theorem q48 : (Jvm.Cond.code ({ cls := "RcSixDesk", name := "key", desc := "(IIIII)V" } : Jvm.MethodName) prog_7_method_3_code (7 : Nat) (Option.none : Option Jvm.ClassFile.FieldType)) ∈ lw_all := lw_g (lw_at lw_m1 36 rfl) rfl
theorem q49 : (Jvm.Cond.methodLink "RcSixDesk" (19 : Nat) ({ cls := "RcSixDesk", name := "word", desc := "([BII)V" } : Jvm.MethodName)) ∈ lw_all := lw_g (lw_at lw_m1 37 rfl) rfl
theorem q50 : (Jvm.Cond.static ({ cls := "RcSixDesk", name := "word", desc := "([BII)V" } : Jvm.MethodName)) ∈ lw_all := lw_g (lw_at lw_m1 38 rfl) rfl
theorem q51 : (Jvm.Cond.code ({ cls := "RcSixDesk", name := "word", desc := "([BII)V" } : Jvm.MethodName) prog_7_method_2_code (3 : Nat) (Option.none : Option Jvm.ClassFile.FieldType)) ∈ lw_all := lw_g (lw_at lw_m1 39 rfl) rfl
theorem q53 : (Jvm.Cond.instanceMethod ({ cls := "RcSixDesk", name := "block", desc := "(IIII)V" } : Jvm.MethodName)) ∈ lw_all := lw_g (lw_at lw_m1 41 rfl) rfl
theorem q54 : (Jvm.Cond.selects "RcSixDesk" ({ cls := "RcSixDesk", name := "block", desc := "(IIII)V" } : Jvm.MethodName) ({ cls := "RcSixDesk", name := "block", desc := "(IIII)V" } : Jvm.MethodName)) ∈ lw_all := lw_g (lw_at lw_m1 42 rfl) rfl
theorem q55 : (Jvm.Cond.code ({ cls := "RcSixDesk", name := "block", desc := "(IIII)V" } : Jvm.MethodName) prog_7_method_4_code (5 : Nat) (Option.none : Option Jvm.ClassFile.FieldType)) ∈ lw_all := lw_g (lw_at lw_m1 43 rfl) rfl
theorem q57 : (Jvm.Cond.instanceMethod ({ cls := "RcSixDesk", name := "lock", desc := "(I)V" } : Jvm.MethodName)) ∈ lw_all := lw_g (lw_at lw_m1 45 rfl) rfl
theorem q58 : (Jvm.Cond.selects "RcSixDesk" ({ cls := "RcSixDesk", name := "lock", desc := "(I)V" } : Jvm.MethodName) ({ cls := "RcSixDesk", name := "lock", desc := "(I)V" } : Jvm.MethodName)) ∈ lw_all := lw_g (lw_at lw_m1 46 rfl) rfl
theorem q59 : (Jvm.Cond.code ({ cls := "RcSixDesk", name := "lock", desc := "(I)V" } : Jvm.MethodName) prog_7_method_7_code (2 : Nat) (Option.none : Option Jvm.ClassFile.FieldType)) ∈ lw_all := lw_g (lw_at lw_m1 47 rfl) rfl
theorem q60 : (Jvm.Cond.methodLink "RcSixDesk" (45 : Nat) ({ cls := "RcSixDesk", name := "run", desc := "(ZI)V" } : Jvm.MethodName)) ∈ lw_all := lw_g (lw_at lw_m1 48 rfl) rfl
theorem q61 : (Jvm.Cond.privateMethod ({ cls := "RcSixDesk", name := "run", desc := "(ZI)V" } : Jvm.MethodName)) ∈ lw_tbl := lw_at lw_m1 49 rfl
theorem q62 : (Jvm.Cond.instanceMethod ({ cls := "RcSixDesk", name := "run", desc := "(ZI)V" } : Jvm.MethodName)) ∈ lw_all := lw_g (lw_at lw_m1 50 rfl) rfl
theorem q63 : (Jvm.Cond.code ({ cls := "RcSixDesk", name := "run", desc := "(ZI)V" } : Jvm.MethodName) prog_7_method_5_code (6 : Nat) (Option.none : Option Jvm.ClassFile.FieldType)) ∈ lw_all := lw_g (lw_at lw_m1 51 rfl) rfl
theorem q64 : (Jvm.Cond.methodLink "RcSixDesk" (23 : Nat) ({ cls := "RcSixDesk", name := "size", desc := "(I)I" } : Jvm.MethodName)) ∈ lw_all := lw_g (lw_at lw_m1 52 rfl) rfl
theorem q65 : (Jvm.Cond.static ({ cls := "RcSixDesk", name := "size", desc := "(I)I" } : Jvm.MethodName)) ∈ lw_all := lw_g (lw_at lw_m1 53 rfl) rfl
theorem q66 : (Jvm.Cond.code ({ cls := "RcSixDesk", name := "size", desc := "(I)I" } : Jvm.MethodName) prog_7_method_6_code (1 : Nat) (Option.some Jvm.ClassFile.FieldType.int)) ∈ lw_all := lw_g (lw_at lw_m1 54 rfl) rfl
theorem q67 : (Jvm.Cond.classLink "RcSixDesk" (27 : Nat) "RC6Engine") ∈ lw_all := lw_g (lw_at lw_m1 55 rfl) rfl
theorem q69 : (Jvm.Cond.methodLink "RcSixDesk" (29 : Nat) ({ cls := "RC6Engine", name := "<init>", desc := "()V" } : Jvm.MethodName)) ∈ lw_all := lw_g (lw_at lw_m1 57 rfl) rfl
theorem q80 : (Jvm.Cond.classLink "RcSixDesk" (30 : Nat) "KeyParameter") ∈ lw_all := lw_g (lw_at lw_m1 68 rfl) rfl
theorem q82 : (Jvm.Cond.methodLink "RcSixDesk" (32 : Nat) ({ cls := "KeyParameter", name := "<init>", desc := "([B)V" } : Jvm.MethodName)) ∈ lw_all := lw_g (lw_at lw_m1 70 rfl) rfl
theorem q99 : (Jvm.Cond.interfaceEntry "RcSixDesk" (35 : Nat)) ∈ lw_tbl := lw_at lw_m1 87 rfl
theorem q100 : (Jvm.Cond.methodLink "RcSixDesk" (35 : Nat) ({ cls := "BlockCipher", name := "init", desc := "(ZLCipherParameters;)V" } : Jvm.MethodName)) ∈ lw_all := lw_g (lw_at lw_m1 88 rfl) rfl
theorem q192 : (Jvm.Cond.interfaceEntry "RcSixDesk" (41 : Nat)) ∈ lw_tbl := lw_at lw_m1 180 rfl
theorem q193 : (Jvm.Cond.methodLink "RcSixDesk" (41 : Nat) ({ cls := "BlockCipher", name := "processBlock", desc := "([BI[BI)I" } : Jvm.MethodName)) ∈ lw_all := lw_g (lw_at lw_m1 181 rfl) rfl
theorem q280 : (Jvm.Cond.instanceMethod ({ cls := "RcSixDesk", name := "open", desc := "(I)V" } : Jvm.MethodName)) ∈ lw_all := lw_g (lw_at lw_m2 28 rfl) rfl
theorem q281 : (Jvm.Cond.selects "RcSixDesk" ({ cls := "RcSixDesk", name := "open", desc := "(I)V" } : Jvm.MethodName) ({ cls := "RcSixDesk", name := "open", desc := "(I)V" } : Jvm.MethodName)) ∈ lw_all := lw_g (lw_at lw_m2 29 rfl) rfl
theorem q282 : (Jvm.Cond.code ({ cls := "RcSixDesk", name := "open", desc := "(I)V" } : Jvm.MethodName) prog_7_method_8_code (2 : Nat) (Option.none : Option Jvm.ClassFile.FieldType)) ∈ lw_all := lw_g (lw_at lw_m2 30 rfl) rfl
theorem q284 : (Jvm.Cond.instanceMethod ({ cls := "RcSixDesk", name := "again", desc := "()V" } : Jvm.MethodName)) ∈ lw_all := lw_g (lw_at lw_m2 32 rfl) rfl
theorem q285 : (Jvm.Cond.selects "RcSixDesk" ({ cls := "RcSixDesk", name := "again", desc := "()V" } : Jvm.MethodName) ({ cls := "RcSixDesk", name := "again", desc := "()V" } : Jvm.MethodName)) ∈ lw_all := lw_g (lw_at lw_m2 33 rfl) rfl
theorem q286 : (Jvm.Cond.code ({ cls := "RcSixDesk", name := "again", desc := "()V" } : Jvm.MethodName) prog_7_method_9_code (2 : Nat) (Option.none : Option Jvm.ClassFile.FieldType)) ∈ lw_all := lw_g (lw_at lw_m2 34 rfl) rfl
theorem q288 : (Jvm.Cond.instanceMethod ({ cls := "RcSixDesk", name := "out", desc := "(I)I" } : Jvm.MethodName)) ∈ lw_all := lw_g (lw_at lw_m2 36 rfl) rfl
theorem q289 : (Jvm.Cond.selects "RcSixDesk" ({ cls := "RcSixDesk", name := "out", desc := "(I)I" } : Jvm.MethodName) ({ cls := "RcSixDesk", name := "out", desc := "(I)I" } : Jvm.MethodName)) ∈ lw_all := lw_g (lw_at lw_m2 37 rfl) rfl
theorem q290 : (Jvm.Cond.code ({ cls := "RcSixDesk", name := "out", desc := "(I)I" } : Jvm.MethodName) prog_7_method_10_code (2 : Nat) (Option.some Jvm.ClassFile.FieldType.int)) ∈ lw_all := lw_g (lw_at lw_m2 38 rfl) rfl
theorem in_X0 : ∀ w ∈ wsX00, w ∈ lw_all := lw_in wsX00 [37, 39, 41] (by decide +kernel) (by decide +kernel)
/-! KeyParameter -/
set_option maxRecDepth 100000
def RX3 : String := "KeyParameter"
def TX3 : u_T := fun k => match k with
  | _ => ("KeyParameter", "key", "[B", false)
def tyX3 : Nat → FieldType := fun k => match k with
  | _ => .array .byte
abbrev wsX30 : List Cond := u_ws RX3 TX3 1
theorem nmX3 : ∀ a, a < 1 → ∀ b, b < 1 → a ≠ b → (TX3 a).2.1 ≠ (TX3 b).2.1 := by decide +kernel
theorem tyX3_ok : ∀ k, k < 1 → parseFieldDescriptor (TX3 k).2.2.1 = some (tyX3 k) := by decide +kernel
abbrev cX3_init : ByteArray := prog_4_method_1_code
def yX3_init : MethodName := ⟨RX3, "<init>", "([B)V"⟩
def dkwX3_init_0 : List UInt8 := [42, 43, 3, 43, 190, 183, 0, 1, 177]
abbrev dktX3_init_0 : List UInt8 := dkwX3_init_0 ++ []
theorem dksX3_init_0 : cX3_init.data.toList.drop 0 = dktX3_init_0 := by decide +kernel
theorem dX3_init_0 : decode cX3_init 0 = .ok (.aload_n 0, 1) := dk_42 (dk_at dksX3_init_0 0 rfl rfl)
theorem dX3_init_1 : decode cX3_init 1 = .ok (.aload_n 1, 1) := dk_43 (dk_at dksX3_init_0 1 rfl rfl)
theorem dX3_init_2 : decode cX3_init 2 = .ok (.iconst 0, 1) := dk_3 (dk_at dksX3_init_0 2 rfl rfl)
theorem dX3_init_3 : decode cX3_init 3 = .ok (.aload_n 1, 1) := dk_43 (dk_at dksX3_init_0 3 rfl rfl)
theorem dX3_init_4 : decode cX3_init 4 = .ok (.arraylength, 1) := dk_190 (dk_at dksX3_init_0 4 rfl rfl)
theorem dX3_init_5 : decode cX3_init 5 = .ok (.invokespecial 1, 3) := dk_183 0 1 (dk_at dksX3_init_0 5 rfl rfl)
theorem dX3_init_8 : decode cX3_init 8 = .ok (.return_, 1) := dk_177 (dk_at dksX3_init_0 8 rfl rfl)
abbrev cX3_init_2 : ByteArray := prog_4_method_2_code
def yX3_init_2 : MethodName := ⟨RX3, "<init>", "([BII)V"⟩
def dkwX3_init_2_0 : List UInt8 := [42, 29, 183, 0, 7, 43, 28, 42, 180, 0, 10, 3, 29, 184, 0, 14, 177]
abbrev dktX3_init_2_0 : List UInt8 := dkwX3_init_2_0 ++ []
theorem dksX3_init_2_0 : cX3_init_2.data.toList.drop 0 = dktX3_init_2_0 := by decide +kernel
theorem dX3_init_2_0 : decode cX3_init_2 0 = .ok (.aload_n 0, 1) := dk_42 (dk_at dksX3_init_2_0 0 rfl rfl)
theorem dX3_init_2_1 : decode cX3_init_2 1 = .ok (.iload_n 3, 1) := dk_29 (dk_at dksX3_init_2_0 1 rfl rfl)
theorem dX3_init_2_2 : decode cX3_init_2 2 = .ok (.invokespecial 7, 3) := dk_183 0 7 (dk_at dksX3_init_2_0 2 rfl rfl)
theorem dX3_init_2_5 : decode cX3_init_2 5 = .ok (.aload_n 1, 1) := dk_43 (dk_at dksX3_init_2_0 5 rfl rfl)
theorem dX3_init_2_6 : decode cX3_init_2 6 = .ok (.iload_n 2, 1) := dk_28 (dk_at dksX3_init_2_0 6 rfl rfl)
theorem dX3_init_2_7 : decode cX3_init_2 7 = .ok (.aload_n 0, 1) := dk_42 (dk_at dksX3_init_2_0 7 rfl rfl)
theorem dX3_init_2_8 : decode cX3_init_2 8 = .ok (.getfield 10, 3) := dk_180 0 10 (dk_at dksX3_init_2_0 8 rfl rfl)
theorem dX3_init_2_11 : decode cX3_init_2 11 = .ok (.iconst 0, 1) := dk_3 (dk_at dksX3_init_2_0 11 rfl rfl)
theorem dX3_init_2_12 : decode cX3_init_2 12 = .ok (.iload_n 3, 1) := dk_29 (dk_at dksX3_init_2_0 12 rfl rfl)
theorem dX3_init_2_13 : decode cX3_init_2 13 = .ok (.invokestatic 14, 3) := dk_184 0 14 (dk_at dksX3_init_2_0 13 rfl rfl)
theorem dX3_init_2_16 : decode cX3_init_2 16 = .ok (.return_, 1) := dk_177 (dk_at dksX3_init_2_0 16 rfl rfl)
abbrev cX3_init_3 : ByteArray := prog_4_method_3_code
def yX3_init_3 : MethodName := ⟨RX3, "<init>", "(I)V"⟩
def dkwX3_init_3_0 : List UInt8 := [42, 183, 0, 20, 42, 27, 188, 8, 181, 0, 10, 177]
abbrev dktX3_init_3_0 : List UInt8 := dkwX3_init_3_0 ++ []
theorem dksX3_init_3_0 : cX3_init_3.data.toList.drop 0 = dktX3_init_3_0 := by decide +kernel
theorem dX3_init_3_0 : decode cX3_init_3 0 = .ok (.aload_n 0, 1) := dk_42 (dk_at dksX3_init_3_0 0 rfl rfl)
theorem dX3_init_3_1 : decode cX3_init_3 1 = .ok (.invokespecial 20, 3) := dk_183 0 20 (dk_at dksX3_init_3_0 1 rfl rfl)
theorem dX3_init_3_4 : decode cX3_init_3 4 = .ok (.aload_n 0, 1) := dk_42 (dk_at dksX3_init_3_0 4 rfl rfl)
theorem dX3_init_3_5 : decode cX3_init_3 5 = .ok (.iload_n 1, 1) := dk_27 (dk_at dksX3_init_3_0 5 rfl rfl)
theorem dX3_init_3_6 : decode cX3_init_3 6 = .ok (.newarray .byte, 2) := dk_188_8 (dk_at dksX3_init_3_0 6 rfl rfl)
theorem dX3_init_3_8 : decode cX3_init_3 8 = .ok (.putfield 10, 3) := dk_181 0 10 (dk_at dksX3_init_3_0 8 rfl rfl)
theorem dX3_init_3_11 : decode cX3_init_3 11 = .ok (.return_, 1) := dk_177 (dk_at dksX3_init_3_0 11 rfl rfl)
abbrev cX3_getKey : ByteArray := prog_4_method_4_code
def yX3_getKey : MethodName := ⟨RX3, "getKey", "()[B"⟩
theorem dX3_getKey_0 : decode cX3_getKey 0 = .ok (.aload_n 0, 1) := by decide +kernel
theorem dX3_getKey_1 : decode cX3_getKey 1 = .ok (.getfield 10, 3) := by decide +kernel
theorem dX3_getKey_4 : decode cX3_getKey 4 = .ok (.areturn, 1) := by decide +kernel
theorem q16 : (Jvm.Cond.initialized "KeyParameter") ∈ lw_all := lw_g (lw_at lw_m1 4 rfl) rfl
theorem q81 : (Jvm.Cond.instantiable "KeyParameter" (1 : Nat)) ∈ lw_all := lw_g (lw_at lw_m1 69 rfl) rfl
theorem q83 : (Jvm.Cond.instanceMethod ({ cls := "KeyParameter", name := "<init>", desc := "([B)V" } : Jvm.MethodName)) ∈ lw_all := lw_g (lw_at lw_m1 71 rfl) rfl
theorem q84 : (Jvm.Cond.code ({ cls := "KeyParameter", name := "<init>", desc := "([B)V" } : Jvm.MethodName) prog_4_method_1_code (2 : Nat) (Option.none : Option Jvm.ClassFile.FieldType)) ∈ lw_all := lw_g (lw_at lw_m1 72 rfl) rfl
theorem q85 : (Jvm.Cond.methodLink "KeyParameter" (1 : Nat) ({ cls := "KeyParameter", name := "<init>", desc := "([BII)V" } : Jvm.MethodName)) ∈ lw_all := lw_g (lw_at lw_m1 73 rfl) rfl
theorem q86 : (Jvm.Cond.instanceMethod ({ cls := "KeyParameter", name := "<init>", desc := "([BII)V" } : Jvm.MethodName)) ∈ lw_all := lw_g (lw_at lw_m1 74 rfl) rfl
theorem q87 : (Jvm.Cond.code ({ cls := "KeyParameter", name := "<init>", desc := "([BII)V" } : Jvm.MethodName) prog_4_method_2_code (4 : Nat) (Option.none : Option Jvm.ClassFile.FieldType)) ∈ lw_all := lw_g (lw_at lw_m1 75 rfl) rfl
theorem q88 : (Jvm.Cond.methodLink "KeyParameter" (7 : Nat) ({ cls := "KeyParameter", name := "<init>", desc := "(I)V" } : Jvm.MethodName)) ∈ lw_all := lw_g (lw_at lw_m1 76 rfl) rfl
theorem q89 : (Jvm.Cond.instanceMethod ({ cls := "KeyParameter", name := "<init>", desc := "(I)V" } : Jvm.MethodName)) ∈ lw_all := lw_g (lw_at lw_m1 77 rfl) rfl
theorem q90 : (Jvm.Cond.code ({ cls := "KeyParameter", name := "<init>", desc := "(I)V" } : Jvm.MethodName) prog_4_method_3_code (2 : Nat) (Option.none : Option Jvm.ClassFile.FieldType)) ∈ lw_all := lw_g (lw_at lw_m1 78 rfl) rfl
theorem q91 : (Jvm.Cond.methodLink "KeyParameter" (20 : Nat) ({ cls := "java/lang/Object", name := "<init>", desc := "()V" } : Jvm.MethodName)) ∈ lw_all := lw_g (lw_at lw_m1 79 rfl) rfl
theorem q92 : (Jvm.Cond.fieldLink "KeyParameter" (10 : Nat) "KeyParameter" "key" "[B") ∈ lw_all := lw_g (lw_at lw_m1 80 rfl) rfl
theorem q93 : (Jvm.Cond.lays "KeyParameter" "KeyParameter" "key" "[B") ∈ lw_all := lw_g (lw_at lw_m1 81 rfl) rfl
theorem q94 : (Jvm.Cond.soleField "KeyParameter" "key") ∈ lw_all := lw_g (lw_at lw_m1 82 rfl) rfl
theorem q95 : (Jvm.Cond.superclass "KeyParameter" "java/lang/Object") ∈ lw_all := lw_g (lw_at lw_m1 83 rfl) rfl
theorem q96 : (Jvm.Cond.methodLink "KeyParameter" (14 : Nat) ({ cls := "java/lang/System", name := "arraycopy", desc := "(Ljava/lang/Object;ILjava/lang/Object;II)V" } : Jvm.MethodName)) ∈ lw_all := lw_g (lw_at lw_m1 84 rfl) rfl
theorem q179 : (Jvm.Cond.instanceMethod ({ cls := "KeyParameter", name := "getKey", desc := "()[B" } : Jvm.MethodName)) ∈ lw_all := lw_g (lw_at lw_m1 167 rfl) rfl
theorem q180 : (Jvm.Cond.selects "KeyParameter" ({ cls := "KeyParameter", name := "getKey", desc := "()[B" } : Jvm.MethodName) ({ cls := "KeyParameter", name := "getKey", desc := "()[B" } : Jvm.MethodName)) ∈ lw_all := lw_g (lw_at lw_m1 168 rfl) rfl
theorem q181 : (Jvm.Cond.code ({ cls := "KeyParameter", name := "getKey", desc := "()[B" } : Jvm.MethodName) prog_4_method_4_code (1 : Nat) (Option.some (Jvm.ClassFile.FieldType.array Jvm.ClassFile.FieldType.byte))) ∈ lw_all := lw_g (lw_at lw_m1 169 rfl) rfl
theorem in_X3 : ∀ w ∈ wsX30, w ∈ lw_all := lw_in wsX30 [93] (by decide +kernel) (by decide +kernel)
/-! java/lang/Object -/
set_option maxRecDepth 100000
def RJ5 : String := "java/lang/Object"
abbrev cJ5_init : ByteArray := object_method_1_code
def yJ5_init : MethodName := ⟨RJ5, "<init>", "()V"⟩
theorem dJ5_init_0 : decode cJ5_init 0 = .ok (.return_, 1) := by decide +kernel
theorem q32 : (Jvm.Cond.instanceMethod ({ cls := "java/lang/Object", name := "<init>", desc := "()V" } : Jvm.MethodName)) ∈ lw_all := lw_g (lw_at lw_m1 20 rfl) rfl
theorem q33 : (Jvm.Cond.code ({ cls := "java/lang/Object", name := "<init>", desc := "()V" } : Jvm.MethodName) object_method_1_code (1 : Nat) (Option.none : Option Jvm.ClassFile.FieldType)) ∈ lw_all := lw_g (lw_at lw_m1 21 rfl) rfl
theorem q101 : (Jvm.Cond.interfaceMethod "BlockCipher" "BlockCipher" "init" "(ZLCipherParameters;)V") ∈ lw_tbl := lw_at lw_m1 89 rfl
set_option maxRecDepth 100000
theorem q102 : (Jvm.Cond.declares ({ cls := "BlockCipher", name := "init", desc := "(ZLCipherParameters;)V" } : Jvm.MethodName)) ∈ lw_tbl := lw_at lw_m1 90 rfl
theorem q194 : (Jvm.Cond.interfaceMethod "BlockCipher" "BlockCipher" "processBlock" "([BI[BI)I") ∈ lw_tbl := lw_at lw_m1 182 rfl
theorem q195 : (Jvm.Cond.declares ({ cls := "BlockCipher", name := "processBlock", desc := "([BI[BI)I" } : Jvm.MethodName)) ∈ lw_tbl := lw_at lw_m1 183 rfl
theorem q12 : (Jvm.Cond.initialized "RcSixDeskLaw") ∈ lw_all := lw_g (lw_at lw_m1 0 rfl) rfl
set_option maxRecDepth 100000
theorem q26 : (Jvm.Cond.classLink "RcSixDeskLaw" (7 : Nat) "RcSixDesk") ∈ lw_all := lw_g (lw_at lw_m1 14 rfl) rfl
theorem q28 : (Jvm.Cond.methodLink "RcSixDeskLaw" (9 : Nat) ({ cls := "RcSixDesk", name := "<init>", desc := "()V" } : Jvm.MethodName)) ∈ lw_all := lw_g (lw_at lw_m1 16 rfl) rfl
theorem q45 : (Jvm.Cond.methodLink "RcSixDeskLaw" (13 : Nat) ({ cls := "RcSixDesk", name := "key", desc := "(IIIII)V" } : Jvm.MethodName)) ∈ lw_all := lw_g (lw_at lw_m1 33 rfl) rfl
theorem q52 : (Jvm.Cond.methodLink "RcSixDeskLaw" (18 : Nat) ({ cls := "RcSixDesk", name := "block", desc := "(IIII)V" } : Jvm.MethodName)) ∈ lw_all := lw_g (lw_at lw_m1 40 rfl) rfl
theorem q56 : (Jvm.Cond.methodLink "RcSixDeskLaw" (23 : Nat) ({ cls := "RcSixDesk", name := "lock", desc := "(I)V" } : Jvm.MethodName)) ∈ lw_all := lw_g (lw_at lw_m1 44 rfl) rfl
theorem q279 : (Jvm.Cond.methodLink "RcSixDeskLaw" (28 : Nat) ({ cls := "RcSixDesk", name := "open", desc := "(I)V" } : Jvm.MethodName)) ∈ lw_all := lw_g (lw_at lw_m2 27 rfl) rfl
theorem q283 : (Jvm.Cond.methodLink "RcSixDeskLaw" (32 : Nat) ({ cls := "RcSixDesk", name := "again", desc := "()V" } : Jvm.MethodName)) ∈ lw_all := lw_g (lw_at lw_m2 31 rfl) rfl
theorem q287 : (Jvm.Cond.methodLink "RcSixDeskLaw" (36 : Nat) ({ cls := "RcSixDesk", name := "out", desc := "(I)I" } : Jvm.MethodName)) ∈ lw_all := lw_g (lw_at lw_m2 35 rfl) rfl
theorem q291 : (Jvm.Cond.classLink "RcSixDeskLaw" (10 : Nat) "RcSixDeskModel") ∈ lw_all := lw_g (lw_at lw_m2 39 rfl) rfl
theorem q293 : (Jvm.Cond.methodLink "RcSixDeskLaw" (12 : Nat) ({ cls := "RcSixDeskModel", name := "<init>", desc := "()V" } : Jvm.MethodName)) ∈ lw_all := lw_g (lw_at lw_m2 41 rfl) rfl
theorem q325 : (Jvm.Cond.methodLink "RcSixDeskLaw" (27 : Nat) ({ cls := "RcSixDeskModel", name := "lock", desc := "(I)V" } : Jvm.MethodName)) ∈ lw_all := lw_g (lw_at lw_m2 73 rfl) rfl
theorem q352 : (Jvm.Cond.methodLink "RcSixDeskLaw" (31 : Nat) ({ cls := "RcSixDeskModel", name := "open", desc := "(I)V" } : Jvm.MethodName)) ∈ lw_all := lw_g (lw_at lw_m2 100 rfl) rfl
theorem q359 : (Jvm.Cond.methodLink "RcSixDeskLaw" (17 : Nat) ({ cls := "RcSixDeskModel", name := "key", desc := "(IIIII)V" } : Jvm.MethodName)) ∈ lw_all := lw_g (lw_at lw_m2 107 rfl) rfl
theorem q366 : (Jvm.Cond.methodLink "RcSixDeskLaw" (22 : Nat) ({ cls := "RcSixDeskModel", name := "block", desc := "(IIII)V" } : Jvm.MethodName)) ∈ lw_all := lw_g (lw_at lw_m2 114 rfl) rfl
theorem q370 : (Jvm.Cond.methodLink "RcSixDeskLaw" (35 : Nat) ({ cls := "RcSixDeskModel", name := "again", desc := "()V" } : Jvm.MethodName)) ∈ lw_all := lw_g (lw_at lw_m2 118 rfl) rfl
theorem q374 : (Jvm.Cond.methodLink "RcSixDeskLaw" (40 : Nat) ({ cls := "RcSixDeskModel", name := "out", desc := "(I)I" } : Jvm.MethodName)) ∈ lw_all := lw_g (lw_at lw_m2 122 rfl) rfl
theorem q17 : (Jvm.Cond.initialized "java/lang/System") ∈ lw_all := lw_g (lw_at lw_m1 5 rfl) rfl
set_option maxRecDepth 100000
theorem q97 : (Jvm.Cond.static ({ cls := "java/lang/System", name := "arraycopy", desc := "(Ljava/lang/Object;ILjava/lang/Object;II)V" } : Jvm.MethodName)) ∈ lw_all := lw_g (lw_at lw_m1 85 rfl) rfl
theorem q98 : (Jvm.Cond.native ({ cls := "java/lang/System", name := "arraycopy", desc := "(Ljava/lang/Object;ILjava/lang/Object;II)V" } : Jvm.MethodName)) ∈ lw_all := lw_g (lw_at lw_m1 86 rfl) rfl
theorem q44 : (Jvm.Cond.arrayClass Jvm.ClassFile.FieldType.byte) ∈ lw_all := lw_g (lw_at lw_m1 32 rfl) rfl
set_option maxRecDepth 100000
theorem q221 : (Jvm.Cond.arrayClass Jvm.ClassFile.FieldType.int) ∈ lw_all := lw_g (lw_at lw_m1 209 rfl) rfl
/-! the law's own entry -/
set_option maxRecDepth 100000
abbrev cL_law : ByteArray := code
def dkwL_law_11 : List UInt8 := [132, 3, 6, 167, 255, 11, 4, 172]
abbrev dktL_law_11 : List UInt8 := dkwL_law_11 ++ []
def dkwL_law_10 : List UInt8 := [42, 29, 4, 96, 46, 182, 0, 36, 44, 42, 29, 4, 96, 46, 182, 0, 40, 159, 0, 5, 3, 172]
abbrev dktL_law_10 : List UInt8 := dkwL_law_10 ++ dktL_law_11
def dkwL_law_9 : List UInt8 := [44, 42, 29, 4, 96, 46, 182, 0, 31, 167, 0, 37, 43, 182, 0, 32, 44, 182, 0, 35, 167, 0, 26, 43]
abbrev dktL_law_9 : List UInt8 := dkwL_law_9 ++ dktL_law_10
def dkwL_law_8 : List UInt8 := [182, 0, 23, 44, 42, 29, 4, 96, 46, 182, 0, 27, 167, 0, 58, 43, 42, 29, 4, 96, 46, 182, 0, 28]
abbrev dktL_law_8 : List UInt8 := dkwL_law_8 ++ dktL_law_9
def dkwL_law_7 : List UInt8 := [42, 29, 6, 96, 46, 42, 29, 7, 96, 46, 182, 0, 22, 167, 0, 79, 43, 42, 29, 4, 96, 46]
abbrev dktL_law_7 : List UInt8 := dkwL_law_7 ++ dktL_law_8
def dkwL_law_6 : List UInt8 := [42, 29, 6, 96, 46, 42, 29, 7, 96, 46, 182, 0, 18, 44, 42, 29, 4, 96, 46, 42, 29, 5, 96, 46]
abbrev dktL_law_6 : List UInt8 := dkwL_law_6 ++ dktL_law_7
def dkwL_law_5 : List UInt8 := [96, 46, 42, 29, 8, 96, 46, 182, 0, 17, 167, 0, 130, 43, 42, 29, 4, 96, 46, 42, 29, 5, 96, 46]
abbrev dktL_law_5 : List UInt8 := dkwL_law_5 ++ dktL_law_6
def dkwL_law_4 : List UInt8 := [96, 46, 182, 0, 13, 44, 42, 29, 4, 96, 46, 42, 29, 5, 96, 46, 42, 29, 6, 96, 46, 42, 29, 7]
abbrev dktL_law_4 : List UInt8 := dkwL_law_4 ++ dktL_law_5
def dkwL_law_3 : List UInt8 := [43, 42, 29, 4, 96, 46, 42, 29, 5, 96, 46, 42, 29, 6, 96, 46, 42, 29, 7, 96, 46, 42, 29, 8]
abbrev dktL_law_3 : List UInt8 := dkwL_law_3 ++ dktL_law_4
def dkwL_law_2 : List UInt8 := [170, 0, 0, 0, 0, 0, 227, 0, 0, 0, 0, 0, 0, 0, 5, 0, 0, 0, 39, 0, 0, 0, 100, 0, 0, 0, 151, 0, 0, 0, 172, 0, 0, 0, 193, 0, 0, 0, 204]
abbrev dktL_law_2 : List UInt8 := dkwL_law_2 ++ dktL_law_3
def dkwL_law_1 : List UInt8 := [163, 0, 242, 42, 29, 46, 16, 7, 126]
abbrev dktL_law_1 : List UInt8 := dkwL_law_1 ++ dktL_law_2
def dkwL_law_0 : List UInt8 := [187, 0, 7, 89, 183, 0, 9, 76, 187, 0, 10, 89, 183, 0, 12, 77, 3, 62, 29, 42, 190, 16, 6, 100]
abbrev dktL_law_0 : List UInt8 := dkwL_law_0 ++ dktL_law_1
theorem dksL_law_0 : cL_law.data.toList.drop 0 = dktL_law_0 := by decide +kernel
theorem dksL_law_1 : cL_law.data.toList.drop 24 = dktL_law_1 := dk_seg dksL_law_0 24 rfl rfl
theorem dksL_law_2 : cL_law.data.toList.drop 33 = dktL_law_2 := dk_seg dksL_law_1 9 rfl rfl
theorem dksL_law_3 : cL_law.data.toList.drop 72 = dktL_law_3 := dk_seg dksL_law_2 39 rfl rfl
theorem dksL_law_4 : cL_law.data.toList.drop 96 = dktL_law_4 := dk_seg dksL_law_3 24 rfl rfl
theorem dksL_law_5 : cL_law.data.toList.drop 120 = dktL_law_5 := dk_seg dksL_law_4 24 rfl rfl
theorem dksL_law_6 : cL_law.data.toList.drop 144 = dktL_law_6 := dk_seg dksL_law_5 24 rfl rfl
theorem dksL_law_7 : cL_law.data.toList.drop 168 = dktL_law_7 := dk_seg dksL_law_6 24 rfl rfl
theorem dksL_law_8 : cL_law.data.toList.drop 190 = dktL_law_8 := dk_seg dksL_law_7 22 rfl rfl
theorem dksL_law_9 : cL_law.data.toList.drop 214 = dktL_law_9 := dk_seg dksL_law_8 24 rfl rfl
theorem dksL_law_10 : cL_law.data.toList.drop 238 = dktL_law_10 := dk_seg dksL_law_9 24 rfl rfl
theorem dksL_law_11 : cL_law.data.toList.drop 260 = dktL_law_11 := dk_seg dksL_law_10 22 rfl rfl
theorem dL_law_0 : decode cL_law 0 = .ok (.new 7, 3) := dk_187 0 7 (dk_at dksL_law_0 0 rfl rfl)
theorem dL_law_3 : decode cL_law 3 = .ok (.dup, 1) := dk_89 (dk_at dksL_law_0 3 rfl rfl)
theorem dL_law_4 : decode cL_law 4 = .ok (.invokespecial 9, 3) := dk_183 0 9 (dk_at dksL_law_0 4 rfl rfl)
theorem dL_law_7 : decode cL_law 7 = .ok (.astore_n 1, 1) := dk_76 (dk_at dksL_law_0 7 rfl rfl)
theorem dL_law_8 : decode cL_law 8 = .ok (.new 10, 3) := dk_187 0 10 (dk_at dksL_law_0 8 rfl rfl)
theorem dL_law_11 : decode cL_law 11 = .ok (.dup, 1) := dk_89 (dk_at dksL_law_0 11 rfl rfl)
theorem dL_law_12 : decode cL_law 12 = .ok (.invokespecial 12, 3) := dk_183 0 12 (dk_at dksL_law_0 12 rfl rfl)
theorem dL_law_15 : decode cL_law 15 = .ok (.astore_n 2, 1) := dk_77 (dk_at dksL_law_0 15 rfl rfl)
theorem dL_law_16 : decode cL_law 16 = .ok (.iconst 0, 1) := dk_3 (dk_at dksL_law_0 16 rfl rfl)
theorem dL_law_17 : decode cL_law 17 = .ok (.istore_n 3, 1) := dk_62 (dk_at dksL_law_0 17 rfl rfl)
theorem dL_law_18 : decode cL_law 18 = .ok (.iload_n 3, 1) := dk_29 (dk_at dksL_law_0 18 rfl rfl)
theorem dL_law_19 : decode cL_law 19 = .ok (.aload_n 0, 1) := dk_42 (dk_at dksL_law_0 19 rfl rfl)
theorem dL_law_20 : decode cL_law 20 = .ok (.arraylength, 1) := dk_190 (dk_at dksL_law_0 20 rfl rfl)
theorem dL_law_21 : decode cL_law 21 = .ok (.bipush 6, 2) := dk_16 6 (dk_at dksL_law_0 21 rfl rfl)
theorem dL_law_23 : decode cL_law 23 = .ok (.isub, 1) := dk_100 (dk_at dksL_law_0 23 rfl rfl)
theorem dL_law_24 : decode cL_law 24 = .ok (.if_icmp .gt 242, 3) := dk_163 0 242 (dk_at dksL_law_1 0 rfl rfl)
theorem dL_law_27 : decode cL_law 27 = .ok (.aload_n 0, 1) := dk_42 (dk_at dksL_law_1 3 rfl rfl)
theorem dL_law_28 : decode cL_law 28 = .ok (.iload_n 3, 1) := dk_29 (dk_at dksL_law_1 4 rfl rfl)
theorem dL_law_29 : decode cL_law 29 = .ok (.iaload, 1) := dk_46 (dk_at dksL_law_1 5 rfl rfl)
theorem dL_law_30 : decode cL_law 30 = .ok (.bipush 7, 2) := dk_16 7 (dk_at dksL_law_1 6 rfl rfl)
theorem dL_law_32 : decode cL_law 32 = .ok (.iand, 1) := dk_126 (dk_at dksL_law_1 8 rfl rfl)
theorem dL_law_33 : decode cL_law 33 = .ok (.tableswitch 227 0 5 #[39, 100, 151, 172, 193, 204], 39) := by decide +kernel
theorem dL_law_72 : decode cL_law 72 = .ok (.aload_n 1, 1) := dk_43 (dk_at dksL_law_3 0 rfl rfl)
theorem dL_law_73 : decode cL_law 73 = .ok (.aload_n 0, 1) := dk_42 (dk_at dksL_law_3 1 rfl rfl)
theorem dL_law_74 : decode cL_law 74 = .ok (.iload_n 3, 1) := dk_29 (dk_at dksL_law_3 2 rfl rfl)
theorem dL_law_75 : decode cL_law 75 = .ok (.iconst 1, 1) := dk_4 (dk_at dksL_law_3 3 rfl rfl)
theorem dL_law_76 : decode cL_law 76 = .ok (.iadd, 1) := dk_96 (dk_at dksL_law_3 4 rfl rfl)
theorem dL_law_77 : decode cL_law 77 = .ok (.iaload, 1) := dk_46 (dk_at dksL_law_3 5 rfl rfl)
theorem dL_law_78 : decode cL_law 78 = .ok (.aload_n 0, 1) := dk_42 (dk_at dksL_law_3 6 rfl rfl)
theorem dL_law_79 : decode cL_law 79 = .ok (.iload_n 3, 1) := dk_29 (dk_at dksL_law_3 7 rfl rfl)
theorem dL_law_80 : decode cL_law 80 = .ok (.iconst 2, 1) := dk_5 (dk_at dksL_law_3 8 rfl rfl)
theorem dL_law_81 : decode cL_law 81 = .ok (.iadd, 1) := dk_96 (dk_at dksL_law_3 9 rfl rfl)
theorem dL_law_82 : decode cL_law 82 = .ok (.iaload, 1) := dk_46 (dk_at dksL_law_3 10 rfl rfl)
theorem dL_law_83 : decode cL_law 83 = .ok (.aload_n 0, 1) := dk_42 (dk_at dksL_law_3 11 rfl rfl)
theorem dL_law_84 : decode cL_law 84 = .ok (.iload_n 3, 1) := dk_29 (dk_at dksL_law_3 12 rfl rfl)
theorem dL_law_85 : decode cL_law 85 = .ok (.iconst 3, 1) := dk_6 (dk_at dksL_law_3 13 rfl rfl)
theorem dL_law_86 : decode cL_law 86 = .ok (.iadd, 1) := dk_96 (dk_at dksL_law_3 14 rfl rfl)
theorem dL_law_87 : decode cL_law 87 = .ok (.iaload, 1) := dk_46 (dk_at dksL_law_3 15 rfl rfl)
theorem dL_law_88 : decode cL_law 88 = .ok (.aload_n 0, 1) := dk_42 (dk_at dksL_law_3 16 rfl rfl)
theorem dL_law_89 : decode cL_law 89 = .ok (.iload_n 3, 1) := dk_29 (dk_at dksL_law_3 17 rfl rfl)
theorem dL_law_90 : decode cL_law 90 = .ok (.iconst 4, 1) := dk_7 (dk_at dksL_law_3 18 rfl rfl)
theorem dL_law_91 : decode cL_law 91 = .ok (.iadd, 1) := dk_96 (dk_at dksL_law_3 19 rfl rfl)
theorem dL_law_92 : decode cL_law 92 = .ok (.iaload, 1) := dk_46 (dk_at dksL_law_3 20 rfl rfl)
theorem dL_law_93 : decode cL_law 93 = .ok (.aload_n 0, 1) := dk_42 (dk_at dksL_law_3 21 rfl rfl)
theorem dL_law_94 : decode cL_law 94 = .ok (.iload_n 3, 1) := dk_29 (dk_at dksL_law_3 22 rfl rfl)
theorem dL_law_95 : decode cL_law 95 = .ok (.iconst 5, 1) := dk_8 (dk_at dksL_law_3 23 rfl rfl)
theorem dL_law_96 : decode cL_law 96 = .ok (.iadd, 1) := dk_96 (dk_at dksL_law_4 0 rfl rfl)
theorem dL_law_97 : decode cL_law 97 = .ok (.iaload, 1) := dk_46 (dk_at dksL_law_4 1 rfl rfl)
theorem dL_law_98 : decode cL_law 98 = .ok (.invokevirtual 13, 3) := dk_182 0 13 (dk_at dksL_law_4 2 rfl rfl)
theorem dL_law_101 : decode cL_law 101 = .ok (.aload_n 2, 1) := dk_44 (dk_at dksL_law_4 5 rfl rfl)
theorem dL_law_102 : decode cL_law 102 = .ok (.aload_n 0, 1) := dk_42 (dk_at dksL_law_4 6 rfl rfl)
theorem dL_law_103 : decode cL_law 103 = .ok (.iload_n 3, 1) := dk_29 (dk_at dksL_law_4 7 rfl rfl)
theorem dL_law_104 : decode cL_law 104 = .ok (.iconst 1, 1) := dk_4 (dk_at dksL_law_4 8 rfl rfl)
theorem dL_law_105 : decode cL_law 105 = .ok (.iadd, 1) := dk_96 (dk_at dksL_law_4 9 rfl rfl)
theorem dL_law_106 : decode cL_law 106 = .ok (.iaload, 1) := dk_46 (dk_at dksL_law_4 10 rfl rfl)
theorem dL_law_107 : decode cL_law 107 = .ok (.aload_n 0, 1) := dk_42 (dk_at dksL_law_4 11 rfl rfl)
theorem dL_law_108 : decode cL_law 108 = .ok (.iload_n 3, 1) := dk_29 (dk_at dksL_law_4 12 rfl rfl)
theorem dL_law_109 : decode cL_law 109 = .ok (.iconst 2, 1) := dk_5 (dk_at dksL_law_4 13 rfl rfl)
theorem dL_law_110 : decode cL_law 110 = .ok (.iadd, 1) := dk_96 (dk_at dksL_law_4 14 rfl rfl)
theorem dL_law_111 : decode cL_law 111 = .ok (.iaload, 1) := dk_46 (dk_at dksL_law_4 15 rfl rfl)
theorem dL_law_112 : decode cL_law 112 = .ok (.aload_n 0, 1) := dk_42 (dk_at dksL_law_4 16 rfl rfl)
theorem dL_law_113 : decode cL_law 113 = .ok (.iload_n 3, 1) := dk_29 (dk_at dksL_law_4 17 rfl rfl)
theorem dL_law_114 : decode cL_law 114 = .ok (.iconst 3, 1) := dk_6 (dk_at dksL_law_4 18 rfl rfl)
theorem dL_law_115 : decode cL_law 115 = .ok (.iadd, 1) := dk_96 (dk_at dksL_law_4 19 rfl rfl)
theorem dL_law_116 : decode cL_law 116 = .ok (.iaload, 1) := dk_46 (dk_at dksL_law_4 20 rfl rfl)
theorem dL_law_117 : decode cL_law 117 = .ok (.aload_n 0, 1) := dk_42 (dk_at dksL_law_4 21 rfl rfl)
theorem dL_law_118 : decode cL_law 118 = .ok (.iload_n 3, 1) := dk_29 (dk_at dksL_law_4 22 rfl rfl)
theorem dL_law_119 : decode cL_law 119 = .ok (.iconst 4, 1) := dk_7 (dk_at dksL_law_4 23 rfl rfl)
theorem dL_law_120 : decode cL_law 120 = .ok (.iadd, 1) := dk_96 (dk_at dksL_law_5 0 rfl rfl)
theorem dL_law_121 : decode cL_law 121 = .ok (.iaload, 1) := dk_46 (dk_at dksL_law_5 1 rfl rfl)
theorem dL_law_122 : decode cL_law 122 = .ok (.aload_n 0, 1) := dk_42 (dk_at dksL_law_5 2 rfl rfl)
theorem dL_law_123 : decode cL_law 123 = .ok (.iload_n 3, 1) := dk_29 (dk_at dksL_law_5 3 rfl rfl)
theorem dL_law_124 : decode cL_law 124 = .ok (.iconst 5, 1) := dk_8 (dk_at dksL_law_5 4 rfl rfl)
theorem dL_law_125 : decode cL_law 125 = .ok (.iadd, 1) := dk_96 (dk_at dksL_law_5 5 rfl rfl)
theorem dL_law_126 : decode cL_law 126 = .ok (.iaload, 1) := dk_46 (dk_at dksL_law_5 6 rfl rfl)
theorem dL_law_127 : decode cL_law 127 = .ok (.invokevirtual 17, 3) := dk_182 0 17 (dk_at dksL_law_5 7 rfl rfl)
theorem dL_law_130 : decode cL_law 130 = .ok (.goto 130, 3) := dk_167 0 130 (dk_at dksL_law_5 10 rfl rfl)
theorem dL_law_133 : decode cL_law 133 = .ok (.aload_n 1, 1) := dk_43 (dk_at dksL_law_5 13 rfl rfl)
theorem dL_law_134 : decode cL_law 134 = .ok (.aload_n 0, 1) := dk_42 (dk_at dksL_law_5 14 rfl rfl)
theorem dL_law_135 : decode cL_law 135 = .ok (.iload_n 3, 1) := dk_29 (dk_at dksL_law_5 15 rfl rfl)
theorem dL_law_136 : decode cL_law 136 = .ok (.iconst 1, 1) := dk_4 (dk_at dksL_law_5 16 rfl rfl)
theorem dL_law_137 : decode cL_law 137 = .ok (.iadd, 1) := dk_96 (dk_at dksL_law_5 17 rfl rfl)
theorem dL_law_138 : decode cL_law 138 = .ok (.iaload, 1) := dk_46 (dk_at dksL_law_5 18 rfl rfl)
theorem dL_law_139 : decode cL_law 139 = .ok (.aload_n 0, 1) := dk_42 (dk_at dksL_law_5 19 rfl rfl)
theorem dL_law_140 : decode cL_law 140 = .ok (.iload_n 3, 1) := dk_29 (dk_at dksL_law_5 20 rfl rfl)
theorem dL_law_141 : decode cL_law 141 = .ok (.iconst 2, 1) := dk_5 (dk_at dksL_law_5 21 rfl rfl)
theorem dL_law_142 : decode cL_law 142 = .ok (.iadd, 1) := dk_96 (dk_at dksL_law_5 22 rfl rfl)
theorem dL_law_143 : decode cL_law 143 = .ok (.iaload, 1) := dk_46 (dk_at dksL_law_5 23 rfl rfl)
theorem dL_law_144 : decode cL_law 144 = .ok (.aload_n 0, 1) := dk_42 (dk_at dksL_law_6 0 rfl rfl)
theorem dL_law_145 : decode cL_law 145 = .ok (.iload_n 3, 1) := dk_29 (dk_at dksL_law_6 1 rfl rfl)
theorem dL_law_146 : decode cL_law 146 = .ok (.iconst 3, 1) := dk_6 (dk_at dksL_law_6 2 rfl rfl)
theorem dL_law_147 : decode cL_law 147 = .ok (.iadd, 1) := dk_96 (dk_at dksL_law_6 3 rfl rfl)
theorem dL_law_148 : decode cL_law 148 = .ok (.iaload, 1) := dk_46 (dk_at dksL_law_6 4 rfl rfl)
theorem dL_law_149 : decode cL_law 149 = .ok (.aload_n 0, 1) := dk_42 (dk_at dksL_law_6 5 rfl rfl)
theorem dL_law_150 : decode cL_law 150 = .ok (.iload_n 3, 1) := dk_29 (dk_at dksL_law_6 6 rfl rfl)
theorem dL_law_151 : decode cL_law 151 = .ok (.iconst 4, 1) := dk_7 (dk_at dksL_law_6 7 rfl rfl)
theorem dL_law_152 : decode cL_law 152 = .ok (.iadd, 1) := dk_96 (dk_at dksL_law_6 8 rfl rfl)
theorem dL_law_153 : decode cL_law 153 = .ok (.iaload, 1) := dk_46 (dk_at dksL_law_6 9 rfl rfl)
theorem dL_law_154 : decode cL_law 154 = .ok (.invokevirtual 18, 3) := dk_182 0 18 (dk_at dksL_law_6 10 rfl rfl)
theorem dL_law_157 : decode cL_law 157 = .ok (.aload_n 2, 1) := dk_44 (dk_at dksL_law_6 13 rfl rfl)
theorem dL_law_158 : decode cL_law 158 = .ok (.aload_n 0, 1) := dk_42 (dk_at dksL_law_6 14 rfl rfl)
theorem dL_law_159 : decode cL_law 159 = .ok (.iload_n 3, 1) := dk_29 (dk_at dksL_law_6 15 rfl rfl)
theorem dL_law_160 : decode cL_law 160 = .ok (.iconst 1, 1) := dk_4 (dk_at dksL_law_6 16 rfl rfl)
theorem dL_law_161 : decode cL_law 161 = .ok (.iadd, 1) := dk_96 (dk_at dksL_law_6 17 rfl rfl)
theorem dL_law_162 : decode cL_law 162 = .ok (.iaload, 1) := dk_46 (dk_at dksL_law_6 18 rfl rfl)
theorem dL_law_163 : decode cL_law 163 = .ok (.aload_n 0, 1) := dk_42 (dk_at dksL_law_6 19 rfl rfl)
theorem dL_law_164 : decode cL_law 164 = .ok (.iload_n 3, 1) := dk_29 (dk_at dksL_law_6 20 rfl rfl)
theorem dL_law_165 : decode cL_law 165 = .ok (.iconst 2, 1) := dk_5 (dk_at dksL_law_6 21 rfl rfl)
theorem dL_law_166 : decode cL_law 166 = .ok (.iadd, 1) := dk_96 (dk_at dksL_law_6 22 rfl rfl)
theorem dL_law_167 : decode cL_law 167 = .ok (.iaload, 1) := dk_46 (dk_at dksL_law_6 23 rfl rfl)
theorem dL_law_168 : decode cL_law 168 = .ok (.aload_n 0, 1) := dk_42 (dk_at dksL_law_7 0 rfl rfl)
theorem dL_law_169 : decode cL_law 169 = .ok (.iload_n 3, 1) := dk_29 (dk_at dksL_law_7 1 rfl rfl)
theorem dL_law_170 : decode cL_law 170 = .ok (.iconst 3, 1) := dk_6 (dk_at dksL_law_7 2 rfl rfl)
theorem dL_law_171 : decode cL_law 171 = .ok (.iadd, 1) := dk_96 (dk_at dksL_law_7 3 rfl rfl)
theorem dL_law_172 : decode cL_law 172 = .ok (.iaload, 1) := dk_46 (dk_at dksL_law_7 4 rfl rfl)
theorem dL_law_173 : decode cL_law 173 = .ok (.aload_n 0, 1) := dk_42 (dk_at dksL_law_7 5 rfl rfl)
theorem dL_law_174 : decode cL_law 174 = .ok (.iload_n 3, 1) := dk_29 (dk_at dksL_law_7 6 rfl rfl)
theorem dL_law_175 : decode cL_law 175 = .ok (.iconst 4, 1) := dk_7 (dk_at dksL_law_7 7 rfl rfl)
theorem dL_law_176 : decode cL_law 176 = .ok (.iadd, 1) := dk_96 (dk_at dksL_law_7 8 rfl rfl)
theorem dL_law_177 : decode cL_law 177 = .ok (.iaload, 1) := dk_46 (dk_at dksL_law_7 9 rfl rfl)
theorem dL_law_178 : decode cL_law 178 = .ok (.invokevirtual 22, 3) := dk_182 0 22 (dk_at dksL_law_7 10 rfl rfl)
theorem dL_law_181 : decode cL_law 181 = .ok (.goto 79, 3) := dk_167 0 79 (dk_at dksL_law_7 13 rfl rfl)
theorem dL_law_184 : decode cL_law 184 = .ok (.aload_n 1, 1) := dk_43 (dk_at dksL_law_7 16 rfl rfl)
theorem dL_law_185 : decode cL_law 185 = .ok (.aload_n 0, 1) := dk_42 (dk_at dksL_law_7 17 rfl rfl)
theorem dL_law_186 : decode cL_law 186 = .ok (.iload_n 3, 1) := dk_29 (dk_at dksL_law_7 18 rfl rfl)
theorem dL_law_187 : decode cL_law 187 = .ok (.iconst 1, 1) := dk_4 (dk_at dksL_law_7 19 rfl rfl)
theorem dL_law_188 : decode cL_law 188 = .ok (.iadd, 1) := dk_96 (dk_at dksL_law_7 20 rfl rfl)
theorem dL_law_189 : decode cL_law 189 = .ok (.iaload, 1) := dk_46 (dk_at dksL_law_7 21 rfl rfl)
theorem dL_law_190 : decode cL_law 190 = .ok (.invokevirtual 23, 3) := dk_182 0 23 (dk_at dksL_law_8 0 rfl rfl)
theorem dL_law_193 : decode cL_law 193 = .ok (.aload_n 2, 1) := dk_44 (dk_at dksL_law_8 3 rfl rfl)
theorem dL_law_194 : decode cL_law 194 = .ok (.aload_n 0, 1) := dk_42 (dk_at dksL_law_8 4 rfl rfl)
theorem dL_law_195 : decode cL_law 195 = .ok (.iload_n 3, 1) := dk_29 (dk_at dksL_law_8 5 rfl rfl)
theorem dL_law_196 : decode cL_law 196 = .ok (.iconst 1, 1) := dk_4 (dk_at dksL_law_8 6 rfl rfl)
theorem dL_law_197 : decode cL_law 197 = .ok (.iadd, 1) := dk_96 (dk_at dksL_law_8 7 rfl rfl)
theorem dL_law_198 : decode cL_law 198 = .ok (.iaload, 1) := dk_46 (dk_at dksL_law_8 8 rfl rfl)
theorem dL_law_199 : decode cL_law 199 = .ok (.invokevirtual 27, 3) := dk_182 0 27 (dk_at dksL_law_8 9 rfl rfl)
theorem dL_law_202 : decode cL_law 202 = .ok (.goto 58, 3) := dk_167 0 58 (dk_at dksL_law_8 12 rfl rfl)
theorem dL_law_205 : decode cL_law 205 = .ok (.aload_n 1, 1) := dk_43 (dk_at dksL_law_8 15 rfl rfl)
theorem dL_law_206 : decode cL_law 206 = .ok (.aload_n 0, 1) := dk_42 (dk_at dksL_law_8 16 rfl rfl)
theorem dL_law_207 : decode cL_law 207 = .ok (.iload_n 3, 1) := dk_29 (dk_at dksL_law_8 17 rfl rfl)
theorem dL_law_208 : decode cL_law 208 = .ok (.iconst 1, 1) := dk_4 (dk_at dksL_law_8 18 rfl rfl)
theorem dL_law_209 : decode cL_law 209 = .ok (.iadd, 1) := dk_96 (dk_at dksL_law_8 19 rfl rfl)
theorem dL_law_210 : decode cL_law 210 = .ok (.iaload, 1) := dk_46 (dk_at dksL_law_8 20 rfl rfl)
theorem dL_law_211 : decode cL_law 211 = .ok (.invokevirtual 28, 3) := dk_182 0 28 (dk_at dksL_law_8 21 rfl rfl)
theorem dL_law_214 : decode cL_law 214 = .ok (.aload_n 2, 1) := dk_44 (dk_at dksL_law_9 0 rfl rfl)
theorem dL_law_215 : decode cL_law 215 = .ok (.aload_n 0, 1) := dk_42 (dk_at dksL_law_9 1 rfl rfl)
theorem dL_law_216 : decode cL_law 216 = .ok (.iload_n 3, 1) := dk_29 (dk_at dksL_law_9 2 rfl rfl)
theorem dL_law_217 : decode cL_law 217 = .ok (.iconst 1, 1) := dk_4 (dk_at dksL_law_9 3 rfl rfl)
theorem dL_law_218 : decode cL_law 218 = .ok (.iadd, 1) := dk_96 (dk_at dksL_law_9 4 rfl rfl)
theorem dL_law_219 : decode cL_law 219 = .ok (.iaload, 1) := dk_46 (dk_at dksL_law_9 5 rfl rfl)
theorem dL_law_220 : decode cL_law 220 = .ok (.invokevirtual 31, 3) := dk_182 0 31 (dk_at dksL_law_9 6 rfl rfl)
theorem dL_law_223 : decode cL_law 223 = .ok (.goto 37, 3) := dk_167 0 37 (dk_at dksL_law_9 9 rfl rfl)
theorem dL_law_226 : decode cL_law 226 = .ok (.aload_n 1, 1) := dk_43 (dk_at dksL_law_9 12 rfl rfl)
theorem dL_law_227 : decode cL_law 227 = .ok (.invokevirtual 32, 3) := dk_182 0 32 (dk_at dksL_law_9 13 rfl rfl)
theorem dL_law_230 : decode cL_law 230 = .ok (.aload_n 2, 1) := dk_44 (dk_at dksL_law_9 16 rfl rfl)
theorem dL_law_231 : decode cL_law 231 = .ok (.invokevirtual 35, 3) := dk_182 0 35 (dk_at dksL_law_9 17 rfl rfl)
theorem dL_law_234 : decode cL_law 234 = .ok (.goto 26, 3) := dk_167 0 26 (dk_at dksL_law_9 20 rfl rfl)
theorem dL_law_237 : decode cL_law 237 = .ok (.aload_n 1, 1) := dk_43 (dk_at dksL_law_9 23 rfl rfl)
theorem dL_law_238 : decode cL_law 238 = .ok (.aload_n 0, 1) := dk_42 (dk_at dksL_law_10 0 rfl rfl)
theorem dL_law_239 : decode cL_law 239 = .ok (.iload_n 3, 1) := dk_29 (dk_at dksL_law_10 1 rfl rfl)
theorem dL_law_240 : decode cL_law 240 = .ok (.iconst 1, 1) := dk_4 (dk_at dksL_law_10 2 rfl rfl)
theorem dL_law_241 : decode cL_law 241 = .ok (.iadd, 1) := dk_96 (dk_at dksL_law_10 3 rfl rfl)
theorem dL_law_242 : decode cL_law 242 = .ok (.iaload, 1) := dk_46 (dk_at dksL_law_10 4 rfl rfl)
theorem dL_law_243 : decode cL_law 243 = .ok (.invokevirtual 36, 3) := dk_182 0 36 (dk_at dksL_law_10 5 rfl rfl)
theorem dL_law_246 : decode cL_law 246 = .ok (.aload_n 2, 1) := dk_44 (dk_at dksL_law_10 8 rfl rfl)
theorem dL_law_247 : decode cL_law 247 = .ok (.aload_n 0, 1) := dk_42 (dk_at dksL_law_10 9 rfl rfl)
theorem dL_law_248 : decode cL_law 248 = .ok (.iload_n 3, 1) := dk_29 (dk_at dksL_law_10 10 rfl rfl)
theorem dL_law_249 : decode cL_law 249 = .ok (.iconst 1, 1) := dk_4 (dk_at dksL_law_10 11 rfl rfl)
theorem dL_law_250 : decode cL_law 250 = .ok (.iadd, 1) := dk_96 (dk_at dksL_law_10 12 rfl rfl)
theorem dL_law_251 : decode cL_law 251 = .ok (.iaload, 1) := dk_46 (dk_at dksL_law_10 13 rfl rfl)
theorem dL_law_252 : decode cL_law 252 = .ok (.invokevirtual 40, 3) := dk_182 0 40 (dk_at dksL_law_10 14 rfl rfl)
theorem dL_law_255 : decode cL_law 255 = .ok (.if_icmp .eq 5, 3) := dk_159 0 5 (dk_at dksL_law_10 17 rfl rfl)
theorem dL_law_258 : decode cL_law 258 = .ok (.iconst 0, 1) := dk_3 (dk_at dksL_law_10 20 rfl rfl)
theorem dL_law_259 : decode cL_law 259 = .ok (.ireturn, 1) := dk_172 (dk_at dksL_law_10 21 rfl rfl)
theorem dL_law_260 : decode cL_law 260 = .ok (.iinc 3 6, 3) := dk_132 3 6 (dk_at dksL_law_11 0 rfl rfl)
theorem dL_law_263 : decode cL_law 263 = .ok (.goto (-245), 3) := dk_167 255 11 (dk_at dksL_law_11 3 rfl rfl)
theorem dL_law_266 : decode cL_law 266 = .ok (.iconst 1, 1) := dk_4 (dk_at dksL_law_11 6 rfl rfl)
theorem dL_law_267 : decode cL_law 267 = .ok (.ireturn, 1) := dk_172 (dk_at dksL_law_11 7 rfl rfl)
end
section
/-! RcSixDeskModel -/
set_option maxRecDepth 100000
def RX1 : String := "RcSixDeskModel"
def TX1 : u_T := fun k => match k with
  | 0 => ("RcSixDeskModel", "key", "[B", true)
  | 1 => ("RcSixDeskModel", "block", "[B", true)
  | 2 => ("RcSixDeskModel", "out", "[B", true)
  | 3 => ("RcSixDeskModel", "s", "[I", true)
  | 4 => ("RcSixDeskModel", "l", "[I", true)
  | 5 => ("RcSixDeskModel", "a", "I", false)
  | 6 => ("RcSixDeskModel", "b", "I", false)
  | 7 => ("RcSixDeskModel", "c", "I", false)
  | _ => ("RcSixDeskModel", "d", "I", false)
def tyX1 : Nat → FieldType := fun k => match k with
  | 0 => .array .byte
  | 1 => .array .byte
  | 2 => .array .byte
  | 3 => .array .int
  | 4 => .array .int
  | 5 => .int
  | 6 => .int
  | 7 => .int
  | _ => .int
abbrev wsX10 : List Cond := u_ws RX1 TX1 9
theorem nmX1 : ∀ a, a < 9 → ∀ b, b < 9 → a ≠ b → (TX1 a).2.1 ≠ (TX1 b).2.1 := by decide +kernel
theorem tyX1_ok : ∀ k, k < 9 → parseFieldDescriptor (TX1 k).2.2.1 = some (tyX1 k) := by decide +kernel
abbrev cX1_init : ByteArray := prog_9_method_1_code
def yX1_init : MethodName := ⟨RX1, "<init>", "()V"⟩
def dkwX1_init_1 : List UInt8 := [188, 8, 181, 0, 16, 42, 16, 44, 188, 10, 181, 0, 19, 42, 16, 8, 188, 10, 181, 0, 23, 177]
abbrev dktX1_init_1 : List UInt8 := dkwX1_init_1 ++ []
def dkwX1_init_0 : List UInt8 := [42, 183, 0, 1, 42, 16, 32, 188, 8, 181, 0, 7, 42, 16, 16, 188, 8, 181, 0, 13, 42, 16, 16]
abbrev dktX1_init_0 : List UInt8 := dkwX1_init_0 ++ dktX1_init_1
theorem dksX1_init_0 : cX1_init.data.toList.drop 0 = dktX1_init_0 := by decide +kernel
theorem dksX1_init_1 : cX1_init.data.toList.drop 23 = dktX1_init_1 := dk_seg dksX1_init_0 23 rfl rfl
theorem dX1_init_0 : decode cX1_init 0 = .ok (.aload_n 0, 1) := dk_42 (dk_at dksX1_init_0 0 rfl rfl)
theorem dX1_init_1 : decode cX1_init 1 = .ok (.invokespecial 1, 3) := dk_183 0 1 (dk_at dksX1_init_0 1 rfl rfl)
theorem dX1_init_4 : decode cX1_init 4 = .ok (.aload_n 0, 1) := dk_42 (dk_at dksX1_init_0 4 rfl rfl)
theorem dX1_init_5 : decode cX1_init 5 = .ok (.bipush 32, 2) := dk_16 32 (dk_at dksX1_init_0 5 rfl rfl)
theorem dX1_init_7 : decode cX1_init 7 = .ok (.newarray .byte, 2) := dk_188_8 (dk_at dksX1_init_0 7 rfl rfl)
theorem dX1_init_9 : decode cX1_init 9 = .ok (.putfield 7, 3) := dk_181 0 7 (dk_at dksX1_init_0 9 rfl rfl)
theorem dX1_init_12 : decode cX1_init 12 = .ok (.aload_n 0, 1) := dk_42 (dk_at dksX1_init_0 12 rfl rfl)
theorem dX1_init_13 : decode cX1_init 13 = .ok (.bipush 16, 2) := dk_16 16 (dk_at dksX1_init_0 13 rfl rfl)
theorem dX1_init_15 : decode cX1_init 15 = .ok (.newarray .byte, 2) := dk_188_8 (dk_at dksX1_init_0 15 rfl rfl)
theorem dX1_init_17 : decode cX1_init 17 = .ok (.putfield 13, 3) := dk_181 0 13 (dk_at dksX1_init_0 17 rfl rfl)
theorem dX1_init_20 : decode cX1_init 20 = .ok (.aload_n 0, 1) := dk_42 (dk_at dksX1_init_0 20 rfl rfl)
theorem dX1_init_21 : decode cX1_init 21 = .ok (.bipush 16, 2) := dk_16 16 (dk_at dksX1_init_0 21 rfl rfl)
theorem dX1_init_23 : decode cX1_init 23 = .ok (.newarray .byte, 2) := dk_188_8 (dk_at dksX1_init_1 0 rfl rfl)
theorem dX1_init_25 : decode cX1_init 25 = .ok (.putfield 16, 3) := dk_181 0 16 (dk_at dksX1_init_1 2 rfl rfl)
theorem dX1_init_28 : decode cX1_init 28 = .ok (.aload_n 0, 1) := dk_42 (dk_at dksX1_init_1 5 rfl rfl)
theorem dX1_init_29 : decode cX1_init 29 = .ok (.bipush 44, 2) := dk_16 44 (dk_at dksX1_init_1 6 rfl rfl)
theorem dX1_init_31 : decode cX1_init 31 = .ok (.newarray .int, 2) := dk_188_10 (dk_at dksX1_init_1 8 rfl rfl)
theorem dX1_init_33 : decode cX1_init 33 = .ok (.putfield 19, 3) := dk_181 0 19 (dk_at dksX1_init_1 10 rfl rfl)
theorem dX1_init_36 : decode cX1_init 36 = .ok (.aload_n 0, 1) := dk_42 (dk_at dksX1_init_1 13 rfl rfl)
theorem dX1_init_37 : decode cX1_init 37 = .ok (.bipush 8, 2) := dk_16 8 (dk_at dksX1_init_1 14 rfl rfl)
theorem dX1_init_39 : decode cX1_init 39 = .ok (.newarray .int, 2) := dk_188_10 (dk_at dksX1_init_1 16 rfl rfl)
theorem dX1_init_41 : decode cX1_init 41 = .ok (.putfield 23, 3) := dk_181 0 23 (dk_at dksX1_init_1 18 rfl rfl)
theorem dX1_init_44 : decode cX1_init 44 = .ok (.return_, 1) := dk_177 (dk_at dksX1_init_1 21 rfl rfl)
abbrev cX1_lock : ByteArray := prog_9_method_9_code
def yX1_lock : MethodName := ⟨RX1, "lock", "(I)V"⟩
def dkwX1_lock_8 : List UInt8 := [42, 180, 0, 19, 16, 43, 46, 96, 181, 0, 43, 42, 182, 0, 60, 177]
abbrev dktX1_lock_8 : List UInt8 := dkwX1_lock_8 ++ []
def dkwX1_lock_7 : List UInt8 := [167, 255, 136, 42, 89, 180, 0, 36, 42, 180, 0, 19, 16, 42, 46, 96, 181, 0, 36, 42, 89, 180, 0, 43]
abbrev dktX1_lock_7 : List UInt8 := dkwX1_lock_7 ++ dktX1_lock_8
def dkwX1_lock_6 : List UInt8 := [42, 21, 6, 181, 0, 40, 42, 42, 180, 0, 46, 181, 0, 43, 42, 21, 5, 181, 0, 46, 132, 2, 1]
abbrev dktX1_lock_6 : List UInt8 := dkwX1_lock_6 ++ dktX1_lock_7
def dkwX1_lock_5 : List UInt8 := [184, 0, 26, 42, 180, 0, 19, 5, 28, 104, 4, 96, 46, 96, 54, 6, 42, 42, 180, 0, 40, 181, 0, 36]
abbrev dktX1_lock_5 : List UInt8 := dkwX1_lock_5 ++ dktX1_lock_6
def dkwX1_lock_4 : List UInt8 := [21, 4, 184, 0, 26, 42, 180, 0, 19, 5, 28, 104, 46, 96, 54, 5, 42, 180, 0, 43, 21, 4, 130, 29]
abbrev dktX1_lock_4 : List UInt8 := dkwX1_lock_4 ++ dktX1_lock_5
def dkwX1_lock_3 : List UInt8 := [180, 0, 46, 5, 42, 180, 0, 46, 104, 4, 96, 104, 8, 184, 0, 26, 54, 4, 42, 180, 0, 36, 29, 130]
abbrev dktX1_lock_3 : List UInt8 := dkwX1_lock_3 ++ dktX1_lock_4
def dkwX1_lock_2 : List UInt8 := [163, 0, 120, 42, 180, 0, 40, 5, 42, 180, 0, 40, 104, 4, 96, 104, 8, 184, 0, 26, 62, 42]
abbrev dktX1_lock_2 : List UInt8 := dkwX1_lock_2 ++ dktX1_lock_3
def dkwX1_lock_1 : List UInt8 := [181, 0, 40, 42, 89, 180, 0, 46, 42, 180, 0, 19, 4, 46, 96, 181, 0, 46, 4, 61, 28, 16, 20]
abbrev dktX1_lock_1 : List UInt8 := dkwX1_lock_1 ++ dktX1_lock_2
def dkwX1_lock_0 : List UInt8 := [42, 27, 184, 0, 49, 182, 0, 53, 42, 182, 0, 57, 42, 89, 180, 0, 40, 42, 180, 0, 19, 3, 46, 96]
abbrev dktX1_lock_0 : List UInt8 := dkwX1_lock_0 ++ dktX1_lock_1
theorem dksX1_lock_0 : cX1_lock.data.toList.drop 0 = dktX1_lock_0 := by decide +kernel
theorem dksX1_lock_1 : cX1_lock.data.toList.drop 24 = dktX1_lock_1 := dk_seg dksX1_lock_0 24 rfl rfl
theorem dksX1_lock_2 : cX1_lock.data.toList.drop 47 = dktX1_lock_2 := dk_seg dksX1_lock_1 23 rfl rfl
theorem dksX1_lock_3 : cX1_lock.data.toList.drop 69 = dktX1_lock_3 := dk_seg dksX1_lock_2 22 rfl rfl
theorem dksX1_lock_4 : cX1_lock.data.toList.drop 93 = dktX1_lock_4 := dk_seg dksX1_lock_3 24 rfl rfl
theorem dksX1_lock_5 : cX1_lock.data.toList.drop 117 = dktX1_lock_5 := dk_seg dksX1_lock_4 24 rfl rfl
theorem dksX1_lock_6 : cX1_lock.data.toList.drop 141 = dktX1_lock_6 := dk_seg dksX1_lock_5 24 rfl rfl
theorem dksX1_lock_7 : cX1_lock.data.toList.drop 164 = dktX1_lock_7 := dk_seg dksX1_lock_6 23 rfl rfl
theorem dksX1_lock_8 : cX1_lock.data.toList.drop 188 = dktX1_lock_8 := dk_seg dksX1_lock_7 24 rfl rfl
theorem dX1_lock_0 : decode cX1_lock 0 = .ok (.aload_n 0, 1) := dk_42 (dk_at dksX1_lock_0 0 rfl rfl)
theorem dX1_lock_1 : decode cX1_lock 1 = .ok (.iload_n 1, 1) := dk_27 (dk_at dksX1_lock_0 1 rfl rfl)
theorem dX1_lock_2 : decode cX1_lock 2 = .ok (.invokestatic 49, 3) := dk_184 0 49 (dk_at dksX1_lock_0 2 rfl rfl)
theorem dX1_lock_5 : decode cX1_lock 5 = .ok (.invokevirtual 53, 3) := dk_182 0 53 (dk_at dksX1_lock_0 5 rfl rfl)
theorem dX1_lock_8 : decode cX1_lock 8 = .ok (.aload_n 0, 1) := dk_42 (dk_at dksX1_lock_0 8 rfl rfl)
theorem dX1_lock_9 : decode cX1_lock 9 = .ok (.invokevirtual 57, 3) := dk_182 0 57 (dk_at dksX1_lock_0 9 rfl rfl)
theorem dX1_lock_12 : decode cX1_lock 12 = .ok (.aload_n 0, 1) := dk_42 (dk_at dksX1_lock_0 12 rfl rfl)
theorem dX1_lock_13 : decode cX1_lock 13 = .ok (.dup, 1) := dk_89 (dk_at dksX1_lock_0 13 rfl rfl)
theorem dX1_lock_14 : decode cX1_lock 14 = .ok (.getfield 40, 3) := dk_180 0 40 (dk_at dksX1_lock_0 14 rfl rfl)
theorem dX1_lock_17 : decode cX1_lock 17 = .ok (.aload_n 0, 1) := dk_42 (dk_at dksX1_lock_0 17 rfl rfl)
theorem dX1_lock_18 : decode cX1_lock 18 = .ok (.getfield 19, 3) := dk_180 0 19 (dk_at dksX1_lock_0 18 rfl rfl)
theorem dX1_lock_21 : decode cX1_lock 21 = .ok (.iconst 0, 1) := dk_3 (dk_at dksX1_lock_0 21 rfl rfl)
theorem dX1_lock_22 : decode cX1_lock 22 = .ok (.iaload, 1) := dk_46 (dk_at dksX1_lock_0 22 rfl rfl)
theorem dX1_lock_23 : decode cX1_lock 23 = .ok (.iadd, 1) := dk_96 (dk_at dksX1_lock_0 23 rfl rfl)
theorem dX1_lock_24 : decode cX1_lock 24 = .ok (.putfield 40, 3) := dk_181 0 40 (dk_at dksX1_lock_1 0 rfl rfl)
theorem dX1_lock_27 : decode cX1_lock 27 = .ok (.aload_n 0, 1) := dk_42 (dk_at dksX1_lock_1 3 rfl rfl)
theorem dX1_lock_28 : decode cX1_lock 28 = .ok (.dup, 1) := dk_89 (dk_at dksX1_lock_1 4 rfl rfl)
theorem dX1_lock_29 : decode cX1_lock 29 = .ok (.getfield 46, 3) := dk_180 0 46 (dk_at dksX1_lock_1 5 rfl rfl)
theorem dX1_lock_32 : decode cX1_lock 32 = .ok (.aload_n 0, 1) := dk_42 (dk_at dksX1_lock_1 8 rfl rfl)
theorem dX1_lock_33 : decode cX1_lock 33 = .ok (.getfield 19, 3) := dk_180 0 19 (dk_at dksX1_lock_1 9 rfl rfl)
theorem dX1_lock_36 : decode cX1_lock 36 = .ok (.iconst 1, 1) := dk_4 (dk_at dksX1_lock_1 12 rfl rfl)
theorem dX1_lock_37 : decode cX1_lock 37 = .ok (.iaload, 1) := dk_46 (dk_at dksX1_lock_1 13 rfl rfl)
theorem dX1_lock_38 : decode cX1_lock 38 = .ok (.iadd, 1) := dk_96 (dk_at dksX1_lock_1 14 rfl rfl)
theorem dX1_lock_39 : decode cX1_lock 39 = .ok (.putfield 46, 3) := dk_181 0 46 (dk_at dksX1_lock_1 15 rfl rfl)
theorem dX1_lock_42 : decode cX1_lock 42 = .ok (.iconst 1, 1) := dk_4 (dk_at dksX1_lock_1 18 rfl rfl)
theorem dX1_lock_43 : decode cX1_lock 43 = .ok (.istore_n 2, 1) := dk_61 (dk_at dksX1_lock_1 19 rfl rfl)
theorem dX1_lock_44 : decode cX1_lock 44 = .ok (.iload_n 2, 1) := dk_28 (dk_at dksX1_lock_1 20 rfl rfl)
theorem dX1_lock_45 : decode cX1_lock 45 = .ok (.bipush 20, 2) := dk_16 20 (dk_at dksX1_lock_1 21 rfl rfl)
theorem dX1_lock_47 : decode cX1_lock 47 = .ok (.if_icmp .gt 120, 3) := dk_163 0 120 (dk_at dksX1_lock_2 0 rfl rfl)
theorem dX1_lock_50 : decode cX1_lock 50 = .ok (.aload_n 0, 1) := dk_42 (dk_at dksX1_lock_2 3 rfl rfl)
theorem dX1_lock_51 : decode cX1_lock 51 = .ok (.getfield 40, 3) := dk_180 0 40 (dk_at dksX1_lock_2 4 rfl rfl)
theorem dX1_lock_54 : decode cX1_lock 54 = .ok (.iconst 2, 1) := dk_5 (dk_at dksX1_lock_2 7 rfl rfl)
theorem dX1_lock_55 : decode cX1_lock 55 = .ok (.aload_n 0, 1) := dk_42 (dk_at dksX1_lock_2 8 rfl rfl)
theorem dX1_lock_56 : decode cX1_lock 56 = .ok (.getfield 40, 3) := dk_180 0 40 (dk_at dksX1_lock_2 9 rfl rfl)
theorem dX1_lock_59 : decode cX1_lock 59 = .ok (.imul, 1) := dk_104 (dk_at dksX1_lock_2 12 rfl rfl)
theorem dX1_lock_60 : decode cX1_lock 60 = .ok (.iconst 1, 1) := dk_4 (dk_at dksX1_lock_2 13 rfl rfl)
theorem dX1_lock_61 : decode cX1_lock 61 = .ok (.iadd, 1) := dk_96 (dk_at dksX1_lock_2 14 rfl rfl)
theorem dX1_lock_62 : decode cX1_lock 62 = .ok (.imul, 1) := dk_104 (dk_at dksX1_lock_2 15 rfl rfl)
theorem dX1_lock_63 : decode cX1_lock 63 = .ok (.iconst 5, 1) := dk_8 (dk_at dksX1_lock_2 16 rfl rfl)
theorem dX1_lock_64 : decode cX1_lock 64 = .ok (.invokestatic 26, 3) := dk_184 0 26 (dk_at dksX1_lock_2 17 rfl rfl)
theorem dX1_lock_67 : decode cX1_lock 67 = .ok (.istore_n 3, 1) := dk_62 (dk_at dksX1_lock_2 20 rfl rfl)
theorem dX1_lock_68 : decode cX1_lock 68 = .ok (.aload_n 0, 1) := dk_42 (dk_at dksX1_lock_2 21 rfl rfl)
theorem dX1_lock_69 : decode cX1_lock 69 = .ok (.getfield 46, 3) := dk_180 0 46 (dk_at dksX1_lock_3 0 rfl rfl)
theorem dX1_lock_72 : decode cX1_lock 72 = .ok (.iconst 2, 1) := dk_5 (dk_at dksX1_lock_3 3 rfl rfl)
theorem dX1_lock_73 : decode cX1_lock 73 = .ok (.aload_n 0, 1) := dk_42 (dk_at dksX1_lock_3 4 rfl rfl)
theorem dX1_lock_74 : decode cX1_lock 74 = .ok (.getfield 46, 3) := dk_180 0 46 (dk_at dksX1_lock_3 5 rfl rfl)
theorem dX1_lock_77 : decode cX1_lock 77 = .ok (.imul, 1) := dk_104 (dk_at dksX1_lock_3 8 rfl rfl)
theorem dX1_lock_78 : decode cX1_lock 78 = .ok (.iconst 1, 1) := dk_4 (dk_at dksX1_lock_3 9 rfl rfl)
theorem dX1_lock_79 : decode cX1_lock 79 = .ok (.iadd, 1) := dk_96 (dk_at dksX1_lock_3 10 rfl rfl)
theorem dX1_lock_80 : decode cX1_lock 80 = .ok (.imul, 1) := dk_104 (dk_at dksX1_lock_3 11 rfl rfl)
theorem dX1_lock_81 : decode cX1_lock 81 = .ok (.iconst 5, 1) := dk_8 (dk_at dksX1_lock_3 12 rfl rfl)
theorem dX1_lock_82 : decode cX1_lock 82 = .ok (.invokestatic 26, 3) := dk_184 0 26 (dk_at dksX1_lock_3 13 rfl rfl)
theorem dX1_lock_85 : decode cX1_lock 85 = .ok (.istore 4, 2) := dk_54 4 (dk_at dksX1_lock_3 16 rfl rfl)
theorem dX1_lock_87 : decode cX1_lock 87 = .ok (.aload_n 0, 1) := dk_42 (dk_at dksX1_lock_3 18 rfl rfl)
theorem dX1_lock_88 : decode cX1_lock 88 = .ok (.getfield 36, 3) := dk_180 0 36 (dk_at dksX1_lock_3 19 rfl rfl)
theorem dX1_lock_91 : decode cX1_lock 91 = .ok (.iload_n 3, 1) := dk_29 (dk_at dksX1_lock_3 22 rfl rfl)
theorem dX1_lock_92 : decode cX1_lock 92 = .ok (.ixor, 1) := dk_130 (dk_at dksX1_lock_3 23 rfl rfl)
theorem dX1_lock_93 : decode cX1_lock 93 = .ok (.iload 4, 2) := dk_21 4 (dk_at dksX1_lock_4 0 rfl rfl)
theorem dX1_lock_95 : decode cX1_lock 95 = .ok (.invokestatic 26, 3) := dk_184 0 26 (dk_at dksX1_lock_4 2 rfl rfl)
theorem dX1_lock_98 : decode cX1_lock 98 = .ok (.aload_n 0, 1) := dk_42 (dk_at dksX1_lock_4 5 rfl rfl)
theorem dX1_lock_99 : decode cX1_lock 99 = .ok (.getfield 19, 3) := dk_180 0 19 (dk_at dksX1_lock_4 6 rfl rfl)
theorem dX1_lock_102 : decode cX1_lock 102 = .ok (.iconst 2, 1) := dk_5 (dk_at dksX1_lock_4 9 rfl rfl)
theorem dX1_lock_103 : decode cX1_lock 103 = .ok (.iload_n 2, 1) := dk_28 (dk_at dksX1_lock_4 10 rfl rfl)
theorem dX1_lock_104 : decode cX1_lock 104 = .ok (.imul, 1) := dk_104 (dk_at dksX1_lock_4 11 rfl rfl)
theorem dX1_lock_105 : decode cX1_lock 105 = .ok (.iaload, 1) := dk_46 (dk_at dksX1_lock_4 12 rfl rfl)
theorem dX1_lock_106 : decode cX1_lock 106 = .ok (.iadd, 1) := dk_96 (dk_at dksX1_lock_4 13 rfl rfl)
theorem dX1_lock_107 : decode cX1_lock 107 = .ok (.istore 5, 2) := dk_54 5 (dk_at dksX1_lock_4 14 rfl rfl)
theorem dX1_lock_109 : decode cX1_lock 109 = .ok (.aload_n 0, 1) := dk_42 (dk_at dksX1_lock_4 16 rfl rfl)
theorem dX1_lock_110 : decode cX1_lock 110 = .ok (.getfield 43, 3) := dk_180 0 43 (dk_at dksX1_lock_4 17 rfl rfl)
theorem dX1_lock_113 : decode cX1_lock 113 = .ok (.iload 4, 2) := dk_21 4 (dk_at dksX1_lock_4 20 rfl rfl)
theorem dX1_lock_115 : decode cX1_lock 115 = .ok (.ixor, 1) := dk_130 (dk_at dksX1_lock_4 22 rfl rfl)
theorem dX1_lock_116 : decode cX1_lock 116 = .ok (.iload_n 3, 1) := dk_29 (dk_at dksX1_lock_4 23 rfl rfl)
theorem dX1_lock_117 : decode cX1_lock 117 = .ok (.invokestatic 26, 3) := dk_184 0 26 (dk_at dksX1_lock_5 0 rfl rfl)
theorem dX1_lock_120 : decode cX1_lock 120 = .ok (.aload_n 0, 1) := dk_42 (dk_at dksX1_lock_5 3 rfl rfl)
theorem dX1_lock_121 : decode cX1_lock 121 = .ok (.getfield 19, 3) := dk_180 0 19 (dk_at dksX1_lock_5 4 rfl rfl)
theorem dX1_lock_124 : decode cX1_lock 124 = .ok (.iconst 2, 1) := dk_5 (dk_at dksX1_lock_5 7 rfl rfl)
theorem dX1_lock_125 : decode cX1_lock 125 = .ok (.iload_n 2, 1) := dk_28 (dk_at dksX1_lock_5 8 rfl rfl)
theorem dX1_lock_126 : decode cX1_lock 126 = .ok (.imul, 1) := dk_104 (dk_at dksX1_lock_5 9 rfl rfl)
theorem dX1_lock_127 : decode cX1_lock 127 = .ok (.iconst 1, 1) := dk_4 (dk_at dksX1_lock_5 10 rfl rfl)
theorem dX1_lock_128 : decode cX1_lock 128 = .ok (.iadd, 1) := dk_96 (dk_at dksX1_lock_5 11 rfl rfl)
theorem dX1_lock_129 : decode cX1_lock 129 = .ok (.iaload, 1) := dk_46 (dk_at dksX1_lock_5 12 rfl rfl)
theorem dX1_lock_130 : decode cX1_lock 130 = .ok (.iadd, 1) := dk_96 (dk_at dksX1_lock_5 13 rfl rfl)
theorem dX1_lock_131 : decode cX1_lock 131 = .ok (.istore 6, 2) := dk_54 6 (dk_at dksX1_lock_5 14 rfl rfl)
theorem dX1_lock_133 : decode cX1_lock 133 = .ok (.aload_n 0, 1) := dk_42 (dk_at dksX1_lock_5 16 rfl rfl)
theorem dX1_lock_134 : decode cX1_lock 134 = .ok (.aload_n 0, 1) := dk_42 (dk_at dksX1_lock_5 17 rfl rfl)
theorem dX1_lock_135 : decode cX1_lock 135 = .ok (.getfield 40, 3) := dk_180 0 40 (dk_at dksX1_lock_5 18 rfl rfl)
theorem dX1_lock_138 : decode cX1_lock 138 = .ok (.putfield 36, 3) := dk_181 0 36 (dk_at dksX1_lock_5 21 rfl rfl)
theorem dX1_lock_141 : decode cX1_lock 141 = .ok (.aload_n 0, 1) := dk_42 (dk_at dksX1_lock_6 0 rfl rfl)
theorem dX1_lock_142 : decode cX1_lock 142 = .ok (.iload 6, 2) := dk_21 6 (dk_at dksX1_lock_6 1 rfl rfl)
theorem dX1_lock_144 : decode cX1_lock 144 = .ok (.putfield 40, 3) := dk_181 0 40 (dk_at dksX1_lock_6 3 rfl rfl)
theorem dX1_lock_147 : decode cX1_lock 147 = .ok (.aload_n 0, 1) := dk_42 (dk_at dksX1_lock_6 6 rfl rfl)
theorem dX1_lock_148 : decode cX1_lock 148 = .ok (.aload_n 0, 1) := dk_42 (dk_at dksX1_lock_6 7 rfl rfl)
theorem dX1_lock_149 : decode cX1_lock 149 = .ok (.getfield 46, 3) := dk_180 0 46 (dk_at dksX1_lock_6 8 rfl rfl)
theorem dX1_lock_152 : decode cX1_lock 152 = .ok (.putfield 43, 3) := dk_181 0 43 (dk_at dksX1_lock_6 11 rfl rfl)
theorem dX1_lock_155 : decode cX1_lock 155 = .ok (.aload_n 0, 1) := dk_42 (dk_at dksX1_lock_6 14 rfl rfl)
theorem dX1_lock_156 : decode cX1_lock 156 = .ok (.iload 5, 2) := dk_21 5 (dk_at dksX1_lock_6 15 rfl rfl)
theorem dX1_lock_158 : decode cX1_lock 158 = .ok (.putfield 46, 3) := dk_181 0 46 (dk_at dksX1_lock_6 17 rfl rfl)
theorem dX1_lock_161 : decode cX1_lock 161 = .ok (.iinc 2 1, 3) := dk_132 2 1 (dk_at dksX1_lock_6 20 rfl rfl)
theorem dX1_lock_164 : decode cX1_lock 164 = .ok (.goto (-120), 3) := dk_167 255 136 (dk_at dksX1_lock_7 0 rfl rfl)
theorem dX1_lock_167 : decode cX1_lock 167 = .ok (.aload_n 0, 1) := dk_42 (dk_at dksX1_lock_7 3 rfl rfl)
theorem dX1_lock_168 : decode cX1_lock 168 = .ok (.dup, 1) := dk_89 (dk_at dksX1_lock_7 4 rfl rfl)
theorem dX1_lock_169 : decode cX1_lock 169 = .ok (.getfield 36, 3) := dk_180 0 36 (dk_at dksX1_lock_7 5 rfl rfl)
theorem dX1_lock_172 : decode cX1_lock 172 = .ok (.aload_n 0, 1) := dk_42 (dk_at dksX1_lock_7 8 rfl rfl)
theorem dX1_lock_173 : decode cX1_lock 173 = .ok (.getfield 19, 3) := dk_180 0 19 (dk_at dksX1_lock_7 9 rfl rfl)
theorem dX1_lock_176 : decode cX1_lock 176 = .ok (.bipush 42, 2) := dk_16 42 (dk_at dksX1_lock_7 12 rfl rfl)
theorem dX1_lock_178 : decode cX1_lock 178 = .ok (.iaload, 1) := dk_46 (dk_at dksX1_lock_7 14 rfl rfl)
theorem dX1_lock_179 : decode cX1_lock 179 = .ok (.iadd, 1) := dk_96 (dk_at dksX1_lock_7 15 rfl rfl)
theorem dX1_lock_180 : decode cX1_lock 180 = .ok (.putfield 36, 3) := dk_181 0 36 (dk_at dksX1_lock_7 16 rfl rfl)
theorem dX1_lock_183 : decode cX1_lock 183 = .ok (.aload_n 0, 1) := dk_42 (dk_at dksX1_lock_7 19 rfl rfl)
theorem dX1_lock_184 : decode cX1_lock 184 = .ok (.dup, 1) := dk_89 (dk_at dksX1_lock_7 20 rfl rfl)
theorem dX1_lock_185 : decode cX1_lock 185 = .ok (.getfield 43, 3) := dk_180 0 43 (dk_at dksX1_lock_7 21 rfl rfl)
theorem dX1_lock_188 : decode cX1_lock 188 = .ok (.aload_n 0, 1) := dk_42 (dk_at dksX1_lock_8 0 rfl rfl)
theorem dX1_lock_189 : decode cX1_lock 189 = .ok (.getfield 19, 3) := dk_180 0 19 (dk_at dksX1_lock_8 1 rfl rfl)
theorem dX1_lock_192 : decode cX1_lock 192 = .ok (.bipush 43, 2) := dk_16 43 (dk_at dksX1_lock_8 4 rfl rfl)
theorem dX1_lock_194 : decode cX1_lock 194 = .ok (.iaload, 1) := dk_46 (dk_at dksX1_lock_8 6 rfl rfl)
theorem dX1_lock_195 : decode cX1_lock 195 = .ok (.iadd, 1) := dk_96 (dk_at dksX1_lock_8 7 rfl rfl)
theorem dX1_lock_196 : decode cX1_lock 196 = .ok (.putfield 43, 3) := dk_181 0 43 (dk_at dksX1_lock_8 8 rfl rfl)
theorem dX1_lock_199 : decode cX1_lock 199 = .ok (.aload_n 0, 1) := dk_42 (dk_at dksX1_lock_8 11 rfl rfl)
theorem dX1_lock_200 : decode cX1_lock 200 = .ok (.invokevirtual 60, 3) := dk_182 0 60 (dk_at dksX1_lock_8 12 rfl rfl)
theorem dX1_lock_203 : decode cX1_lock 203 = .ok (.return_, 1) := dk_177 (dk_at dksX1_lock_8 15 rfl rfl)
abbrev cX1_size : ByteArray := prog_9_method_2_code
def yX1_size : MethodName := ⟨RX1, "size", "(I)I"⟩
def dkwX1_size_1 : List UInt8 := [167, 0, 5, 16, 32, 172]
abbrev dktX1_size_1 : List UInt8 := dkwX1_size_1 ++ []
def dkwX1_size_0 : List UInt8 := [26, 6, 126, 6, 112, 154, 0, 8, 16, 16, 167, 0, 19, 26, 6, 126, 6, 112, 4, 160, 0, 8, 16, 24]
abbrev dktX1_size_0 : List UInt8 := dkwX1_size_0 ++ dktX1_size_1
theorem dksX1_size_0 : cX1_size.data.toList.drop 0 = dktX1_size_0 := by decide +kernel
theorem dksX1_size_1 : cX1_size.data.toList.drop 24 = dktX1_size_1 := dk_seg dksX1_size_0 24 rfl rfl
theorem dX1_size_0 : decode cX1_size 0 = .ok (.iload_n 0, 1) := dk_26 (dk_at dksX1_size_0 0 rfl rfl)
theorem dX1_size_1 : decode cX1_size 1 = .ok (.iconst 3, 1) := dk_6 (dk_at dksX1_size_0 1 rfl rfl)
theorem dX1_size_2 : decode cX1_size 2 = .ok (.iand, 1) := dk_126 (dk_at dksX1_size_0 2 rfl rfl)
theorem dX1_size_3 : decode cX1_size 3 = .ok (.iconst 3, 1) := dk_6 (dk_at dksX1_size_0 3 rfl rfl)
theorem dX1_size_4 : decode cX1_size 4 = .ok (.irem, 1) := dk_112 (dk_at dksX1_size_0 4 rfl rfl)
theorem dX1_size_5 : decode cX1_size 5 = .ok (.ifCond .ne 8, 3) := dk_154 0 8 (dk_at dksX1_size_0 5 rfl rfl)
theorem dX1_size_8 : decode cX1_size 8 = .ok (.bipush 16, 2) := dk_16 16 (dk_at dksX1_size_0 8 rfl rfl)
theorem dX1_size_10 : decode cX1_size 10 = .ok (.goto 19, 3) := dk_167 0 19 (dk_at dksX1_size_0 10 rfl rfl)
theorem dX1_size_13 : decode cX1_size 13 = .ok (.iload_n 0, 1) := dk_26 (dk_at dksX1_size_0 13 rfl rfl)
theorem dX1_size_14 : decode cX1_size 14 = .ok (.iconst 3, 1) := dk_6 (dk_at dksX1_size_0 14 rfl rfl)
theorem dX1_size_15 : decode cX1_size 15 = .ok (.iand, 1) := dk_126 (dk_at dksX1_size_0 15 rfl rfl)
theorem dX1_size_16 : decode cX1_size 16 = .ok (.iconst 3, 1) := dk_6 (dk_at dksX1_size_0 16 rfl rfl)
theorem dX1_size_17 : decode cX1_size 17 = .ok (.irem, 1) := dk_112 (dk_at dksX1_size_0 17 rfl rfl)
theorem dX1_size_18 : decode cX1_size 18 = .ok (.iconst 1, 1) := dk_4 (dk_at dksX1_size_0 18 rfl rfl)
theorem dX1_size_19 : decode cX1_size 19 = .ok (.if_icmp .ne 8, 3) := dk_160 0 8 (dk_at dksX1_size_0 19 rfl rfl)
theorem dX1_size_22 : decode cX1_size 22 = .ok (.bipush 24, 2) := dk_16 24 (dk_at dksX1_size_0 22 rfl rfl)
theorem dX1_size_24 : decode cX1_size 24 = .ok (.goto 5, 3) := dk_167 0 5 (dk_at dksX1_size_1 0 rfl rfl)
theorem dX1_size_27 : decode cX1_size 27 = .ok (.bipush 32, 2) := dk_16 32 (dk_at dksX1_size_1 3 rfl rfl)
theorem dX1_size_29 : decode cX1_size 29 = .ok (.ireturn, 1) := dk_172 (dk_at dksX1_size_1 5 rfl rfl)
abbrev cX1_expands : ByteArray := prog_9_method_6_code
def yX1_expands : MethodName := ⟨RX1, "expands", "(I)V"⟩
def dkwX1_expands_7 : List UInt8 := [132, 5, 1, 167, 255, 166, 177]
abbrev dktX1_expands_7 : List UInt8 := dkwX1_expands_7 ++ []
def dkwX1_expands_6 : List UInt8 := [46, 29, 96, 21, 4, 96, 29, 21, 4, 96, 184, 0, 26, 79, 42, 180, 0, 23, 21, 7, 46, 54, 4]
abbrev dktX1_expands_6 : List UInt8 := dkwX1_expands_6 ++ dktX1_expands_7
def dkwX1_expands_5 : List UInt8 := [184, 0, 26, 79, 42, 180, 0, 19, 21, 6, 46, 62, 42, 180, 0, 23, 21, 7, 42, 180, 0, 23, 21, 7]
abbrev dktX1_expands_5 : List UInt8 := dkwX1_expands_5 ++ dktX1_expands_6
def dkwX1_expands_4 : List UInt8 := [112, 54, 7, 42, 180, 0, 19, 21, 6, 42, 180, 0, 19, 21, 6, 46, 29, 96, 21, 4, 96, 6]
abbrev dktX1_expands_4 : List UInt8 := dkwX1_expands_4 ++ dktX1_expands_5
def dkwX1_expands_3 : List UInt8 := [3, 54, 4, 3, 54, 5, 21, 5, 17, 0, 132, 162, 0, 88, 21, 5, 16, 44, 112, 54, 6, 21, 5, 28]
abbrev dktX1_expands_3 : List UInt8 := dkwX1_expands_3 ++ dktX1_expands_4
def dkwX1_expands_2 : List UInt8 := [180, 0, 19, 29, 42, 180, 0, 19, 29, 4, 100, 46, 18, 35, 96, 79, 132, 3, 1, 167, 255, 230, 3, 62]
abbrev dktX1_expands_2 : List UInt8 := dkwX1_expands_2 ++ dktX1_expands_3
def dkwX1_expands_1 : List UInt8 := [79, 132, 3, 1, 167, 255, 234, 42, 180, 0, 19, 3, 18, 34, 79, 4, 62, 29, 16, 44, 162, 0, 26, 42]
abbrev dktX1_expands_1 : List UInt8 := dkwX1_expands_1 ++ dktX1_expands_2
def dkwX1_expands_0 : List UInt8 := [27, 7, 108, 61, 3, 62, 29, 28, 162, 0, 23, 42, 180, 0, 23, 29, 42, 180, 0, 7, 29, 184, 0, 30]
abbrev dktX1_expands_0 : List UInt8 := dkwX1_expands_0 ++ dktX1_expands_1
theorem dksX1_expands_0 : cX1_expands.data.toList.drop 0 = dktX1_expands_0 := by decide +kernel
theorem dksX1_expands_1 : cX1_expands.data.toList.drop 24 = dktX1_expands_1 := dk_seg dksX1_expands_0 24 rfl rfl
theorem dksX1_expands_2 : cX1_expands.data.toList.drop 48 = dktX1_expands_2 := dk_seg dksX1_expands_1 24 rfl rfl
theorem dksX1_expands_3 : cX1_expands.data.toList.drop 72 = dktX1_expands_3 := dk_seg dksX1_expands_2 24 rfl rfl
theorem dksX1_expands_4 : cX1_expands.data.toList.drop 96 = dktX1_expands_4 := dk_seg dksX1_expands_3 24 rfl rfl
theorem dksX1_expands_5 : cX1_expands.data.toList.drop 118 = dktX1_expands_5 := dk_seg dksX1_expands_4 22 rfl rfl
theorem dksX1_expands_6 : cX1_expands.data.toList.drop 142 = dktX1_expands_6 := dk_seg dksX1_expands_5 24 rfl rfl
theorem dksX1_expands_7 : cX1_expands.data.toList.drop 165 = dktX1_expands_7 := dk_seg dksX1_expands_6 23 rfl rfl
theorem dX1_expands_0 : decode cX1_expands 0 = .ok (.iload_n 1, 1) := dk_27 (dk_at dksX1_expands_0 0 rfl rfl)
theorem dX1_expands_1 : decode cX1_expands 1 = .ok (.iconst 4, 1) := dk_7 (dk_at dksX1_expands_0 1 rfl rfl)
theorem dX1_expands_2 : decode cX1_expands 2 = .ok (.idiv, 1) := dk_108 (dk_at dksX1_expands_0 2 rfl rfl)
theorem dX1_expands_3 : decode cX1_expands 3 = .ok (.istore_n 2, 1) := dk_61 (dk_at dksX1_expands_0 3 rfl rfl)
theorem dX1_expands_4 : decode cX1_expands 4 = .ok (.iconst 0, 1) := dk_3 (dk_at dksX1_expands_0 4 rfl rfl)
theorem dX1_expands_5 : decode cX1_expands 5 = .ok (.istore_n 3, 1) := dk_62 (dk_at dksX1_expands_0 5 rfl rfl)
theorem dX1_expands_6 : decode cX1_expands 6 = .ok (.iload_n 3, 1) := dk_29 (dk_at dksX1_expands_0 6 rfl rfl)
theorem dX1_expands_7 : decode cX1_expands 7 = .ok (.iload_n 2, 1) := dk_28 (dk_at dksX1_expands_0 7 rfl rfl)
theorem dX1_expands_8 : decode cX1_expands 8 = .ok (.if_icmp .ge 23, 3) := dk_162 0 23 (dk_at dksX1_expands_0 8 rfl rfl)
theorem dX1_expands_11 : decode cX1_expands 11 = .ok (.aload_n 0, 1) := dk_42 (dk_at dksX1_expands_0 11 rfl rfl)
theorem dX1_expands_12 : decode cX1_expands 12 = .ok (.getfield 23, 3) := dk_180 0 23 (dk_at dksX1_expands_0 12 rfl rfl)
theorem dX1_expands_15 : decode cX1_expands 15 = .ok (.iload_n 3, 1) := dk_29 (dk_at dksX1_expands_0 15 rfl rfl)
theorem dX1_expands_16 : decode cX1_expands 16 = .ok (.aload_n 0, 1) := dk_42 (dk_at dksX1_expands_0 16 rfl rfl)
theorem dX1_expands_17 : decode cX1_expands 17 = .ok (.getfield 7, 3) := dk_180 0 7 (dk_at dksX1_expands_0 17 rfl rfl)
theorem dX1_expands_20 : decode cX1_expands 20 = .ok (.iload_n 3, 1) := dk_29 (dk_at dksX1_expands_0 20 rfl rfl)
theorem dX1_expands_21 : decode cX1_expands 21 = .ok (.invokestatic 30, 3) := dk_184 0 30 (dk_at dksX1_expands_0 21 rfl rfl)
theorem dX1_expands_24 : decode cX1_expands 24 = .ok (.iastore, 1) := dk_79 (dk_at dksX1_expands_1 0 rfl rfl)
theorem dX1_expands_25 : decode cX1_expands 25 = .ok (.iinc 3 1, 3) := dk_132 3 1 (dk_at dksX1_expands_1 1 rfl rfl)
theorem dX1_expands_28 : decode cX1_expands 28 = .ok (.goto (-22), 3) := dk_167 255 234 (dk_at dksX1_expands_1 4 rfl rfl)
theorem dX1_expands_31 : decode cX1_expands 31 = .ok (.aload_n 0, 1) := dk_42 (dk_at dksX1_expands_1 7 rfl rfl)
theorem dX1_expands_32 : decode cX1_expands 32 = .ok (.getfield 19, 3) := dk_180 0 19 (dk_at dksX1_expands_1 8 rfl rfl)
theorem dX1_expands_35 : decode cX1_expands 35 = .ok (.iconst 0, 1) := dk_3 (dk_at dksX1_expands_1 11 rfl rfl)
theorem dX1_expands_36 : decode cX1_expands 36 = .ok (.ldc 34, 2) := dk_18 34 (dk_at dksX1_expands_1 12 rfl rfl)
theorem dX1_expands_38 : decode cX1_expands 38 = .ok (.iastore, 1) := dk_79 (dk_at dksX1_expands_1 14 rfl rfl)
theorem dX1_expands_39 : decode cX1_expands 39 = .ok (.iconst 1, 1) := dk_4 (dk_at dksX1_expands_1 15 rfl rfl)
theorem dX1_expands_40 : decode cX1_expands 40 = .ok (.istore_n 3, 1) := dk_62 (dk_at dksX1_expands_1 16 rfl rfl)
theorem dX1_expands_41 : decode cX1_expands 41 = .ok (.iload_n 3, 1) := dk_29 (dk_at dksX1_expands_1 17 rfl rfl)
theorem dX1_expands_42 : decode cX1_expands 42 = .ok (.bipush 44, 2) := dk_16 44 (dk_at dksX1_expands_1 18 rfl rfl)
theorem dX1_expands_44 : decode cX1_expands 44 = .ok (.if_icmp .ge 26, 3) := dk_162 0 26 (dk_at dksX1_expands_1 20 rfl rfl)
theorem dX1_expands_47 : decode cX1_expands 47 = .ok (.aload_n 0, 1) := dk_42 (dk_at dksX1_expands_1 23 rfl rfl)
theorem dX1_expands_48 : decode cX1_expands 48 = .ok (.getfield 19, 3) := dk_180 0 19 (dk_at dksX1_expands_2 0 rfl rfl)
theorem dX1_expands_51 : decode cX1_expands 51 = .ok (.iload_n 3, 1) := dk_29 (dk_at dksX1_expands_2 3 rfl rfl)
theorem dX1_expands_52 : decode cX1_expands 52 = .ok (.aload_n 0, 1) := dk_42 (dk_at dksX1_expands_2 4 rfl rfl)
theorem dX1_expands_53 : decode cX1_expands 53 = .ok (.getfield 19, 3) := dk_180 0 19 (dk_at dksX1_expands_2 5 rfl rfl)
theorem dX1_expands_56 : decode cX1_expands 56 = .ok (.iload_n 3, 1) := dk_29 (dk_at dksX1_expands_2 8 rfl rfl)
theorem dX1_expands_57 : decode cX1_expands 57 = .ok (.iconst 1, 1) := dk_4 (dk_at dksX1_expands_2 9 rfl rfl)
theorem dX1_expands_58 : decode cX1_expands 58 = .ok (.isub, 1) := dk_100 (dk_at dksX1_expands_2 10 rfl rfl)
theorem dX1_expands_59 : decode cX1_expands 59 = .ok (.iaload, 1) := dk_46 (dk_at dksX1_expands_2 11 rfl rfl)
theorem dX1_expands_60 : decode cX1_expands 60 = .ok (.ldc 35, 2) := dk_18 35 (dk_at dksX1_expands_2 12 rfl rfl)
theorem dX1_expands_62 : decode cX1_expands 62 = .ok (.iadd, 1) := dk_96 (dk_at dksX1_expands_2 14 rfl rfl)
theorem dX1_expands_63 : decode cX1_expands 63 = .ok (.iastore, 1) := dk_79 (dk_at dksX1_expands_2 15 rfl rfl)
theorem dX1_expands_64 : decode cX1_expands 64 = .ok (.iinc 3 1, 3) := dk_132 3 1 (dk_at dksX1_expands_2 16 rfl rfl)
theorem dX1_expands_67 : decode cX1_expands 67 = .ok (.goto (-26), 3) := dk_167 255 230 (dk_at dksX1_expands_2 19 rfl rfl)
theorem dX1_expands_70 : decode cX1_expands 70 = .ok (.iconst 0, 1) := dk_3 (dk_at dksX1_expands_2 22 rfl rfl)
theorem dX1_expands_71 : decode cX1_expands 71 = .ok (.istore_n 3, 1) := dk_62 (dk_at dksX1_expands_2 23 rfl rfl)
theorem dX1_expands_72 : decode cX1_expands 72 = .ok (.iconst 0, 1) := dk_3 (dk_at dksX1_expands_3 0 rfl rfl)
theorem dX1_expands_73 : decode cX1_expands 73 = .ok (.istore 4, 2) := dk_54 4 (dk_at dksX1_expands_3 1 rfl rfl)
theorem dX1_expands_75 : decode cX1_expands 75 = .ok (.iconst 0, 1) := dk_3 (dk_at dksX1_expands_3 3 rfl rfl)
theorem dX1_expands_76 : decode cX1_expands 76 = .ok (.istore 5, 2) := dk_54 5 (dk_at dksX1_expands_3 4 rfl rfl)
theorem dX1_expands_78 : decode cX1_expands 78 = .ok (.iload 5, 2) := dk_21 5 (dk_at dksX1_expands_3 6 rfl rfl)
theorem dX1_expands_80 : decode cX1_expands 80 = .ok (.sipush 132, 3) := dk_17 0 132 (dk_at dksX1_expands_3 8 rfl rfl)
theorem dX1_expands_83 : decode cX1_expands 83 = .ok (.if_icmp .ge 88, 3) := dk_162 0 88 (dk_at dksX1_expands_3 11 rfl rfl)
theorem dX1_expands_86 : decode cX1_expands 86 = .ok (.iload 5, 2) := dk_21 5 (dk_at dksX1_expands_3 14 rfl rfl)
theorem dX1_expands_88 : decode cX1_expands 88 = .ok (.bipush 44, 2) := dk_16 44 (dk_at dksX1_expands_3 16 rfl rfl)
theorem dX1_expands_90 : decode cX1_expands 90 = .ok (.irem, 1) := dk_112 (dk_at dksX1_expands_3 18 rfl rfl)
theorem dX1_expands_91 : decode cX1_expands 91 = .ok (.istore 6, 2) := dk_54 6 (dk_at dksX1_expands_3 19 rfl rfl)
theorem dX1_expands_93 : decode cX1_expands 93 = .ok (.iload 5, 2) := dk_21 5 (dk_at dksX1_expands_3 21 rfl rfl)
theorem dX1_expands_95 : decode cX1_expands 95 = .ok (.iload_n 2, 1) := dk_28 (dk_at dksX1_expands_3 23 rfl rfl)
theorem dX1_expands_96 : decode cX1_expands 96 = .ok (.irem, 1) := dk_112 (dk_at dksX1_expands_4 0 rfl rfl)
theorem dX1_expands_97 : decode cX1_expands 97 = .ok (.istore 7, 2) := dk_54 7 (dk_at dksX1_expands_4 1 rfl rfl)
theorem dX1_expands_99 : decode cX1_expands 99 = .ok (.aload_n 0, 1) := dk_42 (dk_at dksX1_expands_4 3 rfl rfl)
theorem dX1_expands_100 : decode cX1_expands 100 = .ok (.getfield 19, 3) := dk_180 0 19 (dk_at dksX1_expands_4 4 rfl rfl)
theorem dX1_expands_103 : decode cX1_expands 103 = .ok (.iload 6, 2) := dk_21 6 (dk_at dksX1_expands_4 7 rfl rfl)
theorem dX1_expands_105 : decode cX1_expands 105 = .ok (.aload_n 0, 1) := dk_42 (dk_at dksX1_expands_4 9 rfl rfl)
theorem dX1_expands_106 : decode cX1_expands 106 = .ok (.getfield 19, 3) := dk_180 0 19 (dk_at dksX1_expands_4 10 rfl rfl)
theorem dX1_expands_109 : decode cX1_expands 109 = .ok (.iload 6, 2) := dk_21 6 (dk_at dksX1_expands_4 13 rfl rfl)
theorem dX1_expands_111 : decode cX1_expands 111 = .ok (.iaload, 1) := dk_46 (dk_at dksX1_expands_4 15 rfl rfl)
theorem dX1_expands_112 : decode cX1_expands 112 = .ok (.iload_n 3, 1) := dk_29 (dk_at dksX1_expands_4 16 rfl rfl)
theorem dX1_expands_113 : decode cX1_expands 113 = .ok (.iadd, 1) := dk_96 (dk_at dksX1_expands_4 17 rfl rfl)
theorem dX1_expands_114 : decode cX1_expands 114 = .ok (.iload 4, 2) := dk_21 4 (dk_at dksX1_expands_4 18 rfl rfl)
theorem dX1_expands_116 : decode cX1_expands 116 = .ok (.iadd, 1) := dk_96 (dk_at dksX1_expands_4 20 rfl rfl)
theorem dX1_expands_117 : decode cX1_expands 117 = .ok (.iconst 3, 1) := dk_6 (dk_at dksX1_expands_4 21 rfl rfl)
theorem dX1_expands_118 : decode cX1_expands 118 = .ok (.invokestatic 26, 3) := dk_184 0 26 (dk_at dksX1_expands_5 0 rfl rfl)
theorem dX1_expands_121 : decode cX1_expands 121 = .ok (.iastore, 1) := dk_79 (dk_at dksX1_expands_5 3 rfl rfl)
theorem dX1_expands_122 : decode cX1_expands 122 = .ok (.aload_n 0, 1) := dk_42 (dk_at dksX1_expands_5 4 rfl rfl)
theorem dX1_expands_123 : decode cX1_expands 123 = .ok (.getfield 19, 3) := dk_180 0 19 (dk_at dksX1_expands_5 5 rfl rfl)
theorem dX1_expands_126 : decode cX1_expands 126 = .ok (.iload 6, 2) := dk_21 6 (dk_at dksX1_expands_5 8 rfl rfl)
theorem dX1_expands_128 : decode cX1_expands 128 = .ok (.iaload, 1) := dk_46 (dk_at dksX1_expands_5 10 rfl rfl)
theorem dX1_expands_129 : decode cX1_expands 129 = .ok (.istore_n 3, 1) := dk_62 (dk_at dksX1_expands_5 11 rfl rfl)
theorem dX1_expands_130 : decode cX1_expands 130 = .ok (.aload_n 0, 1) := dk_42 (dk_at dksX1_expands_5 12 rfl rfl)
theorem dX1_expands_131 : decode cX1_expands 131 = .ok (.getfield 23, 3) := dk_180 0 23 (dk_at dksX1_expands_5 13 rfl rfl)
theorem dX1_expands_134 : decode cX1_expands 134 = .ok (.iload 7, 2) := dk_21 7 (dk_at dksX1_expands_5 16 rfl rfl)
theorem dX1_expands_136 : decode cX1_expands 136 = .ok (.aload_n 0, 1) := dk_42 (dk_at dksX1_expands_5 18 rfl rfl)
theorem dX1_expands_137 : decode cX1_expands 137 = .ok (.getfield 23, 3) := dk_180 0 23 (dk_at dksX1_expands_5 19 rfl rfl)
theorem dX1_expands_140 : decode cX1_expands 140 = .ok (.iload 7, 2) := dk_21 7 (dk_at dksX1_expands_5 22 rfl rfl)
theorem dX1_expands_142 : decode cX1_expands 142 = .ok (.iaload, 1) := dk_46 (dk_at dksX1_expands_6 0 rfl rfl)
theorem dX1_expands_143 : decode cX1_expands 143 = .ok (.iload_n 3, 1) := dk_29 (dk_at dksX1_expands_6 1 rfl rfl)
theorem dX1_expands_144 : decode cX1_expands 144 = .ok (.iadd, 1) := dk_96 (dk_at dksX1_expands_6 2 rfl rfl)
theorem dX1_expands_145 : decode cX1_expands 145 = .ok (.iload 4, 2) := dk_21 4 (dk_at dksX1_expands_6 3 rfl rfl)
theorem dX1_expands_147 : decode cX1_expands 147 = .ok (.iadd, 1) := dk_96 (dk_at dksX1_expands_6 5 rfl rfl)
theorem dX1_expands_148 : decode cX1_expands 148 = .ok (.iload_n 3, 1) := dk_29 (dk_at dksX1_expands_6 6 rfl rfl)
theorem dX1_expands_149 : decode cX1_expands 149 = .ok (.iload 4, 2) := dk_21 4 (dk_at dksX1_expands_6 7 rfl rfl)
theorem dX1_expands_151 : decode cX1_expands 151 = .ok (.iadd, 1) := dk_96 (dk_at dksX1_expands_6 9 rfl rfl)
theorem dX1_expands_152 : decode cX1_expands 152 = .ok (.invokestatic 26, 3) := dk_184 0 26 (dk_at dksX1_expands_6 10 rfl rfl)
theorem dX1_expands_155 : decode cX1_expands 155 = .ok (.iastore, 1) := dk_79 (dk_at dksX1_expands_6 13 rfl rfl)
theorem dX1_expands_156 : decode cX1_expands 156 = .ok (.aload_n 0, 1) := dk_42 (dk_at dksX1_expands_6 14 rfl rfl)
theorem dX1_expands_157 : decode cX1_expands 157 = .ok (.getfield 23, 3) := dk_180 0 23 (dk_at dksX1_expands_6 15 rfl rfl)
theorem dX1_expands_160 : decode cX1_expands 160 = .ok (.iload 7, 2) := dk_21 7 (dk_at dksX1_expands_6 18 rfl rfl)
theorem dX1_expands_162 : decode cX1_expands 162 = .ok (.iaload, 1) := dk_46 (dk_at dksX1_expands_6 20 rfl rfl)
theorem dX1_expands_163 : decode cX1_expands 163 = .ok (.istore 4, 2) := dk_54 4 (dk_at dksX1_expands_6 21 rfl rfl)
theorem dX1_expands_165 : decode cX1_expands 165 = .ok (.iinc 5 1, 3) := dk_132 5 1 (dk_at dksX1_expands_7 0 rfl rfl)
theorem dX1_expands_168 : decode cX1_expands 168 = .ok (.goto (-90), 3) := dk_167 255 166 (dk_at dksX1_expands_7 3 rfl rfl)
theorem dX1_expands_171 : decode cX1_expands 171 = .ok (.return_, 1) := dk_177 (dk_at dksX1_expands_7 6 rfl rfl)
abbrev cX1_word : ByteArray := prog_9_method_5_code
def yX1_word : MethodName := ⟨RX1, "word", "([BI)I"⟩
def dkwX1_word_2 : List UInt8 := [17, 0, 255, 126, 16, 24, 120, 128, 172]
abbrev dktX1_word_2 : List UInt8 := dkwX1_word_2 ++ []
def dkwX1_word_1 : List UInt8 := [42, 7, 27, 104, 5, 96, 51, 17, 0, 255, 126, 16, 16, 120, 128, 42, 7, 27, 104, 6, 96, 51]
abbrev dktX1_word_1 : List UInt8 := dkwX1_word_1 ++ dktX1_word_2
def dkwX1_word_0 : List UInt8 := [42, 7, 27, 104, 51, 17, 0, 255, 126, 42, 7, 27, 104, 4, 96, 51, 17, 0, 255, 126, 16, 8, 120, 128]
abbrev dktX1_word_0 : List UInt8 := dkwX1_word_0 ++ dktX1_word_1
theorem dksX1_word_0 : cX1_word.data.toList.drop 0 = dktX1_word_0 := by decide +kernel
theorem dksX1_word_1 : cX1_word.data.toList.drop 24 = dktX1_word_1 := dk_seg dksX1_word_0 24 rfl rfl
theorem dksX1_word_2 : cX1_word.data.toList.drop 46 = dktX1_word_2 := dk_seg dksX1_word_1 22 rfl rfl
theorem dX1_word_0 : decode cX1_word 0 = .ok (.aload_n 0, 1) := dk_42 (dk_at dksX1_word_0 0 rfl rfl)
theorem dX1_word_1 : decode cX1_word 1 = .ok (.iconst 4, 1) := dk_7 (dk_at dksX1_word_0 1 rfl rfl)
theorem dX1_word_2 : decode cX1_word 2 = .ok (.iload_n 1, 1) := dk_27 (dk_at dksX1_word_0 2 rfl rfl)
theorem dX1_word_3 : decode cX1_word 3 = .ok (.imul, 1) := dk_104 (dk_at dksX1_word_0 3 rfl rfl)
theorem dX1_word_4 : decode cX1_word 4 = .ok (.baload, 1) := dk_51 (dk_at dksX1_word_0 4 rfl rfl)
theorem dX1_word_5 : decode cX1_word 5 = .ok (.sipush 255, 3) := dk_17 0 255 (dk_at dksX1_word_0 5 rfl rfl)
theorem dX1_word_8 : decode cX1_word 8 = .ok (.iand, 1) := dk_126 (dk_at dksX1_word_0 8 rfl rfl)
theorem dX1_word_9 : decode cX1_word 9 = .ok (.aload_n 0, 1) := dk_42 (dk_at dksX1_word_0 9 rfl rfl)
theorem dX1_word_10 : decode cX1_word 10 = .ok (.iconst 4, 1) := dk_7 (dk_at dksX1_word_0 10 rfl rfl)
theorem dX1_word_11 : decode cX1_word 11 = .ok (.iload_n 1, 1) := dk_27 (dk_at dksX1_word_0 11 rfl rfl)
theorem dX1_word_12 : decode cX1_word 12 = .ok (.imul, 1) := dk_104 (dk_at dksX1_word_0 12 rfl rfl)
theorem dX1_word_13 : decode cX1_word 13 = .ok (.iconst 1, 1) := dk_4 (dk_at dksX1_word_0 13 rfl rfl)
theorem dX1_word_14 : decode cX1_word 14 = .ok (.iadd, 1) := dk_96 (dk_at dksX1_word_0 14 rfl rfl)
theorem dX1_word_15 : decode cX1_word 15 = .ok (.baload, 1) := dk_51 (dk_at dksX1_word_0 15 rfl rfl)
theorem dX1_word_16 : decode cX1_word 16 = .ok (.sipush 255, 3) := dk_17 0 255 (dk_at dksX1_word_0 16 rfl rfl)
theorem dX1_word_19 : decode cX1_word 19 = .ok (.iand, 1) := dk_126 (dk_at dksX1_word_0 19 rfl rfl)
theorem dX1_word_20 : decode cX1_word 20 = .ok (.bipush 8, 2) := dk_16 8 (dk_at dksX1_word_0 20 rfl rfl)
theorem dX1_word_22 : decode cX1_word 22 = .ok (.ishl, 1) := dk_120 (dk_at dksX1_word_0 22 rfl rfl)
theorem dX1_word_23 : decode cX1_word 23 = .ok (.ior, 1) := dk_128 (dk_at dksX1_word_0 23 rfl rfl)
theorem dX1_word_24 : decode cX1_word 24 = .ok (.aload_n 0, 1) := dk_42 (dk_at dksX1_word_1 0 rfl rfl)
theorem dX1_word_25 : decode cX1_word 25 = .ok (.iconst 4, 1) := dk_7 (dk_at dksX1_word_1 1 rfl rfl)
theorem dX1_word_26 : decode cX1_word 26 = .ok (.iload_n 1, 1) := dk_27 (dk_at dksX1_word_1 2 rfl rfl)
theorem dX1_word_27 : decode cX1_word 27 = .ok (.imul, 1) := dk_104 (dk_at dksX1_word_1 3 rfl rfl)
theorem dX1_word_28 : decode cX1_word 28 = .ok (.iconst 2, 1) := dk_5 (dk_at dksX1_word_1 4 rfl rfl)
theorem dX1_word_29 : decode cX1_word 29 = .ok (.iadd, 1) := dk_96 (dk_at dksX1_word_1 5 rfl rfl)
theorem dX1_word_30 : decode cX1_word 30 = .ok (.baload, 1) := dk_51 (dk_at dksX1_word_1 6 rfl rfl)
theorem dX1_word_31 : decode cX1_word 31 = .ok (.sipush 255, 3) := dk_17 0 255 (dk_at dksX1_word_1 7 rfl rfl)
theorem dX1_word_34 : decode cX1_word 34 = .ok (.iand, 1) := dk_126 (dk_at dksX1_word_1 10 rfl rfl)
theorem dX1_word_35 : decode cX1_word 35 = .ok (.bipush 16, 2) := dk_16 16 (dk_at dksX1_word_1 11 rfl rfl)
theorem dX1_word_37 : decode cX1_word 37 = .ok (.ishl, 1) := dk_120 (dk_at dksX1_word_1 13 rfl rfl)
theorem dX1_word_38 : decode cX1_word 38 = .ok (.ior, 1) := dk_128 (dk_at dksX1_word_1 14 rfl rfl)
theorem dX1_word_39 : decode cX1_word 39 = .ok (.aload_n 0, 1) := dk_42 (dk_at dksX1_word_1 15 rfl rfl)
theorem dX1_word_40 : decode cX1_word 40 = .ok (.iconst 4, 1) := dk_7 (dk_at dksX1_word_1 16 rfl rfl)
theorem dX1_word_41 : decode cX1_word 41 = .ok (.iload_n 1, 1) := dk_27 (dk_at dksX1_word_1 17 rfl rfl)
theorem dX1_word_42 : decode cX1_word 42 = .ok (.imul, 1) := dk_104 (dk_at dksX1_word_1 18 rfl rfl)
theorem dX1_word_43 : decode cX1_word 43 = .ok (.iconst 3, 1) := dk_6 (dk_at dksX1_word_1 19 rfl rfl)
theorem dX1_word_44 : decode cX1_word 44 = .ok (.iadd, 1) := dk_96 (dk_at dksX1_word_1 20 rfl rfl)
theorem dX1_word_45 : decode cX1_word 45 = .ok (.baload, 1) := dk_51 (dk_at dksX1_word_1 21 rfl rfl)
theorem dX1_word_46 : decode cX1_word 46 = .ok (.sipush 255, 3) := dk_17 0 255 (dk_at dksX1_word_2 0 rfl rfl)
theorem dX1_word_49 : decode cX1_word 49 = .ok (.iand, 1) := dk_126 (dk_at dksX1_word_2 3 rfl rfl)
theorem dX1_word_50 : decode cX1_word 50 = .ok (.bipush 24, 2) := dk_16 24 (dk_at dksX1_word_2 4 rfl rfl)
theorem dX1_word_52 : decode cX1_word 52 = .ok (.ishl, 1) := dk_120 (dk_at dksX1_word_2 6 rfl rfl)
theorem dX1_word_53 : decode cX1_word 53 = .ok (.ior, 1) := dk_128 (dk_at dksX1_word_2 7 rfl rfl)
theorem dX1_word_54 : decode cX1_word 54 = .ok (.ireturn, 1) := dk_172 (dk_at dksX1_word_2 8 rfl rfl)
abbrev cX1_left : ByteArray := prog_9_method_3_code
def yX1_left : MethodName := ⟨RX1, "left", "(II)I"⟩
def dkwX1_left_0 : List UInt8 := [27, 16, 31, 126, 61, 28, 154, 0, 7, 26, 167, 0, 13, 26, 28, 120, 26, 16, 32, 28, 100, 124, 128, 172]
abbrev dktX1_left_0 : List UInt8 := dkwX1_left_0 ++ []
theorem dksX1_left_0 : cX1_left.data.toList.drop 0 = dktX1_left_0 := by decide +kernel
theorem dX1_left_0 : decode cX1_left 0 = .ok (.iload_n 1, 1) := dk_27 (dk_at dksX1_left_0 0 rfl rfl)
theorem dX1_left_1 : decode cX1_left 1 = .ok (.bipush 31, 2) := dk_16 31 (dk_at dksX1_left_0 1 rfl rfl)
theorem dX1_left_3 : decode cX1_left 3 = .ok (.iand, 1) := dk_126 (dk_at dksX1_left_0 3 rfl rfl)
theorem dX1_left_4 : decode cX1_left 4 = .ok (.istore_n 2, 1) := dk_61 (dk_at dksX1_left_0 4 rfl rfl)
theorem dX1_left_5 : decode cX1_left 5 = .ok (.iload_n 2, 1) := dk_28 (dk_at dksX1_left_0 5 rfl rfl)
theorem dX1_left_6 : decode cX1_left 6 = .ok (.ifCond .ne 7, 3) := dk_154 0 7 (dk_at dksX1_left_0 6 rfl rfl)
theorem dX1_left_9 : decode cX1_left 9 = .ok (.iload_n 0, 1) := dk_26 (dk_at dksX1_left_0 9 rfl rfl)
theorem dX1_left_10 : decode cX1_left 10 = .ok (.goto 13, 3) := dk_167 0 13 (dk_at dksX1_left_0 10 rfl rfl)
theorem dX1_left_13 : decode cX1_left 13 = .ok (.iload_n 0, 1) := dk_26 (dk_at dksX1_left_0 13 rfl rfl)
theorem dX1_left_14 : decode cX1_left 14 = .ok (.iload_n 2, 1) := dk_28 (dk_at dksX1_left_0 14 rfl rfl)
theorem dX1_left_15 : decode cX1_left 15 = .ok (.ishl, 1) := dk_120 (dk_at dksX1_left_0 15 rfl rfl)
theorem dX1_left_16 : decode cX1_left 16 = .ok (.iload_n 0, 1) := dk_26 (dk_at dksX1_left_0 16 rfl rfl)
theorem dX1_left_17 : decode cX1_left 17 = .ok (.bipush 32, 2) := dk_16 32 (dk_at dksX1_left_0 17 rfl rfl)
theorem dX1_left_19 : decode cX1_left 19 = .ok (.iload_n 2, 1) := dk_28 (dk_at dksX1_left_0 19 rfl rfl)
theorem dX1_left_20 : decode cX1_left 20 = .ok (.isub, 1) := dk_100 (dk_at dksX1_left_0 20 rfl rfl)
theorem dX1_left_21 : decode cX1_left 21 = .ok (.iushr, 1) := dk_124 (dk_at dksX1_left_0 21 rfl rfl)
theorem dX1_left_22 : decode cX1_left 22 = .ok (.ior, 1) := dk_128 (dk_at dksX1_left_0 22 rfl rfl)
theorem dX1_left_23 : decode cX1_left 23 = .ok (.ireturn, 1) := dk_172 (dk_at dksX1_left_0 23 rfl rfl)
abbrev cX1_takes : ByteArray := prog_9_method_7_code
def yX1_takes : MethodName := ⟨RX1, "takes", "()V"⟩
def dkwX1_takes_2 : List UInt8 := [177]
abbrev dktX1_takes_2 : List UInt8 := dkwX1_takes_2 ++ []
def dkwX1_takes_1 : List UInt8 := [42, 42, 180, 0, 13, 5, 184, 0, 30, 181, 0, 43, 42, 42, 180, 0, 13, 6, 184, 0, 30, 181, 0, 46]
abbrev dktX1_takes_1 : List UInt8 := dkwX1_takes_1 ++ dktX1_takes_2
def dkwX1_takes_0 : List UInt8 := [42, 42, 180, 0, 13, 3, 184, 0, 30, 181, 0, 36, 42, 42, 180, 0, 13, 4, 184, 0, 30, 181, 0, 40]
abbrev dktX1_takes_0 : List UInt8 := dkwX1_takes_0 ++ dktX1_takes_1
theorem dksX1_takes_0 : cX1_takes.data.toList.drop 0 = dktX1_takes_0 := by decide +kernel
theorem dksX1_takes_1 : cX1_takes.data.toList.drop 24 = dktX1_takes_1 := dk_seg dksX1_takes_0 24 rfl rfl
theorem dksX1_takes_2 : cX1_takes.data.toList.drop 48 = dktX1_takes_2 := dk_seg dksX1_takes_1 24 rfl rfl
theorem dX1_takes_0 : decode cX1_takes 0 = .ok (.aload_n 0, 1) := dk_42 (dk_at dksX1_takes_0 0 rfl rfl)
theorem dX1_takes_1 : decode cX1_takes 1 = .ok (.aload_n 0, 1) := dk_42 (dk_at dksX1_takes_0 1 rfl rfl)
theorem dX1_takes_2 : decode cX1_takes 2 = .ok (.getfield 13, 3) := dk_180 0 13 (dk_at dksX1_takes_0 2 rfl rfl)
theorem dX1_takes_5 : decode cX1_takes 5 = .ok (.iconst 0, 1) := dk_3 (dk_at dksX1_takes_0 5 rfl rfl)
theorem dX1_takes_6 : decode cX1_takes 6 = .ok (.invokestatic 30, 3) := dk_184 0 30 (dk_at dksX1_takes_0 6 rfl rfl)
theorem dX1_takes_9 : decode cX1_takes 9 = .ok (.putfield 36, 3) := dk_181 0 36 (dk_at dksX1_takes_0 9 rfl rfl)
theorem dX1_takes_12 : decode cX1_takes 12 = .ok (.aload_n 0, 1) := dk_42 (dk_at dksX1_takes_0 12 rfl rfl)
theorem dX1_takes_13 : decode cX1_takes 13 = .ok (.aload_n 0, 1) := dk_42 (dk_at dksX1_takes_0 13 rfl rfl)
theorem dX1_takes_14 : decode cX1_takes 14 = .ok (.getfield 13, 3) := dk_180 0 13 (dk_at dksX1_takes_0 14 rfl rfl)
theorem dX1_takes_17 : decode cX1_takes 17 = .ok (.iconst 1, 1) := dk_4 (dk_at dksX1_takes_0 17 rfl rfl)
theorem dX1_takes_18 : decode cX1_takes 18 = .ok (.invokestatic 30, 3) := dk_184 0 30 (dk_at dksX1_takes_0 18 rfl rfl)
theorem dX1_takes_21 : decode cX1_takes 21 = .ok (.putfield 40, 3) := dk_181 0 40 (dk_at dksX1_takes_0 21 rfl rfl)
theorem dX1_takes_24 : decode cX1_takes 24 = .ok (.aload_n 0, 1) := dk_42 (dk_at dksX1_takes_1 0 rfl rfl)
theorem dX1_takes_25 : decode cX1_takes 25 = .ok (.aload_n 0, 1) := dk_42 (dk_at dksX1_takes_1 1 rfl rfl)
theorem dX1_takes_26 : decode cX1_takes 26 = .ok (.getfield 13, 3) := dk_180 0 13 (dk_at dksX1_takes_1 2 rfl rfl)
theorem dX1_takes_29 : decode cX1_takes 29 = .ok (.iconst 2, 1) := dk_5 (dk_at dksX1_takes_1 5 rfl rfl)
theorem dX1_takes_30 : decode cX1_takes 30 = .ok (.invokestatic 30, 3) := dk_184 0 30 (dk_at dksX1_takes_1 6 rfl rfl)
theorem dX1_takes_33 : decode cX1_takes 33 = .ok (.putfield 43, 3) := dk_181 0 43 (dk_at dksX1_takes_1 9 rfl rfl)
theorem dX1_takes_36 : decode cX1_takes 36 = .ok (.aload_n 0, 1) := dk_42 (dk_at dksX1_takes_1 12 rfl rfl)
theorem dX1_takes_37 : decode cX1_takes 37 = .ok (.aload_n 0, 1) := dk_42 (dk_at dksX1_takes_1 13 rfl rfl)
theorem dX1_takes_38 : decode cX1_takes 38 = .ok (.getfield 13, 3) := dk_180 0 13 (dk_at dksX1_takes_1 14 rfl rfl)
theorem dX1_takes_41 : decode cX1_takes 41 = .ok (.iconst 3, 1) := dk_6 (dk_at dksX1_takes_1 17 rfl rfl)
theorem dX1_takes_42 : decode cX1_takes 42 = .ok (.invokestatic 30, 3) := dk_184 0 30 (dk_at dksX1_takes_1 18 rfl rfl)
theorem dX1_takes_45 : decode cX1_takes 45 = .ok (.putfield 46, 3) := dk_181 0 46 (dk_at dksX1_takes_1 21 rfl rfl)
theorem dX1_takes_48 : decode cX1_takes 48 = .ok (.return_, 1) := dk_177 (dk_at dksX1_takes_2 0 rfl rfl)
abbrev cX1_gives : ByteArray := prog_9_method_8_code
def yX1_gives : MethodName := ⟨RX1, "gives", "()V"⟩
def dkwX1_gives_3 : List UInt8 := [167, 255, 189, 177]
abbrev dktX1_gives_3 : List UInt8 := dkwX1_gives_3 ++ []
def dkwX1_gives_2 : List UInt8 := [180, 0, 46, 61, 42, 180, 0, 16, 27, 28, 16, 8, 27, 7, 112, 104, 124, 145, 84, 132, 1, 1]
abbrev dktX1_gives_2 : List UInt8 := dkwX1_gives_2 ++ dktX1_gives_3
def dkwX1_gives_1 : List UInt8 := [162, 0, 10, 42, 180, 0, 40, 167, 0, 20, 27, 16, 12, 162, 0, 10, 42, 180, 0, 43, 167, 0, 7, 42]
abbrev dktX1_gives_1 : List UInt8 := dkwX1_gives_1 ++ dktX1_gives_2
def dkwX1_gives_0 : List UInt8 := [3, 60, 27, 16, 16, 162, 0, 67, 27, 7, 162, 0, 10, 42, 180, 0, 36, 167, 0, 33, 27, 16, 8]
abbrev dktX1_gives_0 : List UInt8 := dkwX1_gives_0 ++ dktX1_gives_1
theorem dksX1_gives_0 : cX1_gives.data.toList.drop 0 = dktX1_gives_0 := by decide +kernel
theorem dksX1_gives_1 : cX1_gives.data.toList.drop 23 = dktX1_gives_1 := dk_seg dksX1_gives_0 23 rfl rfl
theorem dksX1_gives_2 : cX1_gives.data.toList.drop 47 = dktX1_gives_2 := dk_seg dksX1_gives_1 24 rfl rfl
theorem dksX1_gives_3 : cX1_gives.data.toList.drop 69 = dktX1_gives_3 := dk_seg dksX1_gives_2 22 rfl rfl
theorem dX1_gives_0 : decode cX1_gives 0 = .ok (.iconst 0, 1) := dk_3 (dk_at dksX1_gives_0 0 rfl rfl)
theorem dX1_gives_1 : decode cX1_gives 1 = .ok (.istore_n 1, 1) := dk_60 (dk_at dksX1_gives_0 1 rfl rfl)
theorem dX1_gives_2 : decode cX1_gives 2 = .ok (.iload_n 1, 1) := dk_27 (dk_at dksX1_gives_0 2 rfl rfl)
theorem dX1_gives_3 : decode cX1_gives 3 = .ok (.bipush 16, 2) := dk_16 16 (dk_at dksX1_gives_0 3 rfl rfl)
theorem dX1_gives_5 : decode cX1_gives 5 = .ok (.if_icmp .ge 67, 3) := dk_162 0 67 (dk_at dksX1_gives_0 5 rfl rfl)
theorem dX1_gives_8 : decode cX1_gives 8 = .ok (.iload_n 1, 1) := dk_27 (dk_at dksX1_gives_0 8 rfl rfl)
theorem dX1_gives_9 : decode cX1_gives 9 = .ok (.iconst 4, 1) := dk_7 (dk_at dksX1_gives_0 9 rfl rfl)
theorem dX1_gives_10 : decode cX1_gives 10 = .ok (.if_icmp .ge 10, 3) := dk_162 0 10 (dk_at dksX1_gives_0 10 rfl rfl)
theorem dX1_gives_13 : decode cX1_gives 13 = .ok (.aload_n 0, 1) := dk_42 (dk_at dksX1_gives_0 13 rfl rfl)
theorem dX1_gives_14 : decode cX1_gives 14 = .ok (.getfield 36, 3) := dk_180 0 36 (dk_at dksX1_gives_0 14 rfl rfl)
theorem dX1_gives_17 : decode cX1_gives 17 = .ok (.goto 33, 3) := dk_167 0 33 (dk_at dksX1_gives_0 17 rfl rfl)
theorem dX1_gives_20 : decode cX1_gives 20 = .ok (.iload_n 1, 1) := dk_27 (dk_at dksX1_gives_0 20 rfl rfl)
theorem dX1_gives_21 : decode cX1_gives 21 = .ok (.bipush 8, 2) := dk_16 8 (dk_at dksX1_gives_0 21 rfl rfl)
theorem dX1_gives_23 : decode cX1_gives 23 = .ok (.if_icmp .ge 10, 3) := dk_162 0 10 (dk_at dksX1_gives_1 0 rfl rfl)
theorem dX1_gives_26 : decode cX1_gives 26 = .ok (.aload_n 0, 1) := dk_42 (dk_at dksX1_gives_1 3 rfl rfl)
theorem dX1_gives_27 : decode cX1_gives 27 = .ok (.getfield 40, 3) := dk_180 0 40 (dk_at dksX1_gives_1 4 rfl rfl)
theorem dX1_gives_30 : decode cX1_gives 30 = .ok (.goto 20, 3) := dk_167 0 20 (dk_at dksX1_gives_1 7 rfl rfl)
theorem dX1_gives_33 : decode cX1_gives 33 = .ok (.iload_n 1, 1) := dk_27 (dk_at dksX1_gives_1 10 rfl rfl)
theorem dX1_gives_34 : decode cX1_gives 34 = .ok (.bipush 12, 2) := dk_16 12 (dk_at dksX1_gives_1 11 rfl rfl)
theorem dX1_gives_36 : decode cX1_gives 36 = .ok (.if_icmp .ge 10, 3) := dk_162 0 10 (dk_at dksX1_gives_1 13 rfl rfl)
theorem dX1_gives_39 : decode cX1_gives 39 = .ok (.aload_n 0, 1) := dk_42 (dk_at dksX1_gives_1 16 rfl rfl)
theorem dX1_gives_40 : decode cX1_gives 40 = .ok (.getfield 43, 3) := dk_180 0 43 (dk_at dksX1_gives_1 17 rfl rfl)
theorem dX1_gives_43 : decode cX1_gives 43 = .ok (.goto 7, 3) := dk_167 0 7 (dk_at dksX1_gives_1 20 rfl rfl)
theorem dX1_gives_46 : decode cX1_gives 46 = .ok (.aload_n 0, 1) := dk_42 (dk_at dksX1_gives_1 23 rfl rfl)
theorem dX1_gives_47 : decode cX1_gives 47 = .ok (.getfield 46, 3) := dk_180 0 46 (dk_at dksX1_gives_2 0 rfl rfl)
theorem dX1_gives_50 : decode cX1_gives 50 = .ok (.istore_n 2, 1) := dk_61 (dk_at dksX1_gives_2 3 rfl rfl)
theorem dX1_gives_51 : decode cX1_gives 51 = .ok (.aload_n 0, 1) := dk_42 (dk_at dksX1_gives_2 4 rfl rfl)
theorem dX1_gives_52 : decode cX1_gives 52 = .ok (.getfield 16, 3) := dk_180 0 16 (dk_at dksX1_gives_2 5 rfl rfl)
theorem dX1_gives_55 : decode cX1_gives 55 = .ok (.iload_n 1, 1) := dk_27 (dk_at dksX1_gives_2 8 rfl rfl)
theorem dX1_gives_56 : decode cX1_gives 56 = .ok (.iload_n 2, 1) := dk_28 (dk_at dksX1_gives_2 9 rfl rfl)
theorem dX1_gives_57 : decode cX1_gives 57 = .ok (.bipush 8, 2) := dk_16 8 (dk_at dksX1_gives_2 10 rfl rfl)
theorem dX1_gives_59 : decode cX1_gives 59 = .ok (.iload_n 1, 1) := dk_27 (dk_at dksX1_gives_2 12 rfl rfl)
theorem dX1_gives_60 : decode cX1_gives 60 = .ok (.iconst 4, 1) := dk_7 (dk_at dksX1_gives_2 13 rfl rfl)
theorem dX1_gives_61 : decode cX1_gives 61 = .ok (.irem, 1) := dk_112 (dk_at dksX1_gives_2 14 rfl rfl)
theorem dX1_gives_62 : decode cX1_gives 62 = .ok (.imul, 1) := dk_104 (dk_at dksX1_gives_2 15 rfl rfl)
theorem dX1_gives_63 : decode cX1_gives 63 = .ok (.iushr, 1) := dk_124 (dk_at dksX1_gives_2 16 rfl rfl)
theorem dX1_gives_64 : decode cX1_gives 64 = .ok (.i2b, 1) := dk_145 (dk_at dksX1_gives_2 17 rfl rfl)
theorem dX1_gives_65 : decode cX1_gives 65 = .ok (.bastore, 1) := dk_84 (dk_at dksX1_gives_2 18 rfl rfl)
theorem dX1_gives_66 : decode cX1_gives 66 = .ok (.iinc 1 1, 3) := dk_132 1 1 (dk_at dksX1_gives_2 19 rfl rfl)
theorem dX1_gives_69 : decode cX1_gives 69 = .ok (.goto (-67), 3) := dk_167 255 189 (dk_at dksX1_gives_3 0 rfl rfl)
theorem dX1_gives_72 : decode cX1_gives 72 = .ok (.return_, 1) := dk_177 (dk_at dksX1_gives_3 3 rfl rfl)
abbrev cX1_open : ByteArray := prog_9_method_10_code
def yX1_open : MethodName := ⟨RX1, "open", "(I)V"⟩
def dkwX1_open_8 : List UInt8 := [180, 0, 19, 3, 46, 100, 181, 0, 40, 42, 182, 0, 60, 177]
abbrev dktX1_open_8 : List UInt8 := dkwX1_open_8 ++ []
def dkwX1_open_7 : List UInt8 := [167, 255, 137, 42, 89, 180, 0, 46, 42, 180, 0, 19, 4, 46, 100, 181, 0, 46, 42, 89, 180, 0, 40, 42]
abbrev dktX1_open_7 : List UInt8 := dkwX1_open_7 ++ dktX1_open_8
def dkwX1_open_6 : List UInt8 := [42, 180, 0, 19, 5, 28, 104, 46, 100, 21, 5, 184, 0, 63, 21, 6, 130, 181, 0, 36, 132, 2, 255]
abbrev dktX1_open_6 : List UInt8 := dkwX1_open_6 ++ dktX1_open_7
def dkwX1_open_5 : List UInt8 := [42, 180, 0, 19, 5, 28, 104, 4, 96, 46, 100, 21, 6, 184, 0, 63, 21, 5, 130, 181, 0, 43, 42, 29]
abbrev dktX1_open_5 : List UInt8 := dkwX1_open_5 ++ dktX1_open_6
def dkwX1_open_4 : List UInt8 := [54, 5, 42, 180, 0, 40, 5, 42, 180, 0, 40, 104, 4, 96, 104, 8, 184, 0, 26, 54, 6, 42, 21, 4]
abbrev dktX1_open_4 : List UInt8 := dkwX1_open_4 ++ dktX1_open_5
def dkwX1_open_3 : List UInt8 := [180, 0, 43, 181, 0, 46, 42, 180, 0, 46, 5, 42, 180, 0, 46, 104, 4, 96, 104, 8, 184, 0, 26]
abbrev dktX1_open_3 : List UInt8 := dkwX1_open_3 ++ dktX1_open_4
def dkwX1_open_2 : List UInt8 := [158, 0, 121, 42, 180, 0, 46, 62, 42, 180, 0, 40, 54, 4, 42, 42, 180, 0, 36, 181, 0, 40, 42, 42]
abbrev dktX1_open_2 : List UInt8 := dkwX1_open_2 ++ dktX1_open_3
def dkwX1_open_1 : List UInt8 := [100, 181, 0, 43, 42, 89, 180, 0, 36, 42, 180, 0, 19, 16, 42, 46, 100, 181, 0, 36, 16, 20, 61, 28]
abbrev dktX1_open_1 : List UInt8 := dkwX1_open_1 ++ dktX1_open_2
def dkwX1_open_0 : List UInt8 := [42, 27, 184, 0, 49, 182, 0, 53, 42, 182, 0, 57, 42, 89, 180, 0, 43, 42, 180, 0, 19, 16, 43, 46]
abbrev dktX1_open_0 : List UInt8 := dkwX1_open_0 ++ dktX1_open_1
theorem dksX1_open_0 : cX1_open.data.toList.drop 0 = dktX1_open_0 := by decide +kernel
theorem dksX1_open_1 : cX1_open.data.toList.drop 24 = dktX1_open_1 := dk_seg dksX1_open_0 24 rfl rfl
theorem dksX1_open_2 : cX1_open.data.toList.drop 48 = dktX1_open_2 := dk_seg dksX1_open_1 24 rfl rfl
theorem dksX1_open_3 : cX1_open.data.toList.drop 72 = dktX1_open_3 := dk_seg dksX1_open_2 24 rfl rfl
theorem dksX1_open_4 : cX1_open.data.toList.drop 95 = dktX1_open_4 := dk_seg dksX1_open_3 23 rfl rfl
theorem dksX1_open_5 : cX1_open.data.toList.drop 119 = dktX1_open_5 := dk_seg dksX1_open_4 24 rfl rfl
theorem dksX1_open_6 : cX1_open.data.toList.drop 143 = dktX1_open_6 := dk_seg dksX1_open_5 24 rfl rfl
theorem dksX1_open_7 : cX1_open.data.toList.drop 166 = dktX1_open_7 := dk_seg dksX1_open_6 23 rfl rfl
theorem dksX1_open_8 : cX1_open.data.toList.drop 190 = dktX1_open_8 := dk_seg dksX1_open_7 24 rfl rfl
theorem dX1_open_0 : decode cX1_open 0 = .ok (.aload_n 0, 1) := dk_42 (dk_at dksX1_open_0 0 rfl rfl)
theorem dX1_open_1 : decode cX1_open 1 = .ok (.iload_n 1, 1) := dk_27 (dk_at dksX1_open_0 1 rfl rfl)
theorem dX1_open_2 : decode cX1_open 2 = .ok (.invokestatic 49, 3) := dk_184 0 49 (dk_at dksX1_open_0 2 rfl rfl)
theorem dX1_open_5 : decode cX1_open 5 = .ok (.invokevirtual 53, 3) := dk_182 0 53 (dk_at dksX1_open_0 5 rfl rfl)
theorem dX1_open_8 : decode cX1_open 8 = .ok (.aload_n 0, 1) := dk_42 (dk_at dksX1_open_0 8 rfl rfl)
theorem dX1_open_9 : decode cX1_open 9 = .ok (.invokevirtual 57, 3) := dk_182 0 57 (dk_at dksX1_open_0 9 rfl rfl)
theorem dX1_open_12 : decode cX1_open 12 = .ok (.aload_n 0, 1) := dk_42 (dk_at dksX1_open_0 12 rfl rfl)
theorem dX1_open_13 : decode cX1_open 13 = .ok (.dup, 1) := dk_89 (dk_at dksX1_open_0 13 rfl rfl)
theorem dX1_open_14 : decode cX1_open 14 = .ok (.getfield 43, 3) := dk_180 0 43 (dk_at dksX1_open_0 14 rfl rfl)
theorem dX1_open_17 : decode cX1_open 17 = .ok (.aload_n 0, 1) := dk_42 (dk_at dksX1_open_0 17 rfl rfl)
theorem dX1_open_18 : decode cX1_open 18 = .ok (.getfield 19, 3) := dk_180 0 19 (dk_at dksX1_open_0 18 rfl rfl)
theorem dX1_open_21 : decode cX1_open 21 = .ok (.bipush 43, 2) := dk_16 43 (dk_at dksX1_open_0 21 rfl rfl)
theorem dX1_open_23 : decode cX1_open 23 = .ok (.iaload, 1) := dk_46 (dk_at dksX1_open_0 23 rfl rfl)
theorem dX1_open_24 : decode cX1_open 24 = .ok (.isub, 1) := dk_100 (dk_at dksX1_open_1 0 rfl rfl)
theorem dX1_open_25 : decode cX1_open 25 = .ok (.putfield 43, 3) := dk_181 0 43 (dk_at dksX1_open_1 1 rfl rfl)
theorem dX1_open_28 : decode cX1_open 28 = .ok (.aload_n 0, 1) := dk_42 (dk_at dksX1_open_1 4 rfl rfl)
theorem dX1_open_29 : decode cX1_open 29 = .ok (.dup, 1) := dk_89 (dk_at dksX1_open_1 5 rfl rfl)
theorem dX1_open_30 : decode cX1_open 30 = .ok (.getfield 36, 3) := dk_180 0 36 (dk_at dksX1_open_1 6 rfl rfl)
theorem dX1_open_33 : decode cX1_open 33 = .ok (.aload_n 0, 1) := dk_42 (dk_at dksX1_open_1 9 rfl rfl)
theorem dX1_open_34 : decode cX1_open 34 = .ok (.getfield 19, 3) := dk_180 0 19 (dk_at dksX1_open_1 10 rfl rfl)
theorem dX1_open_37 : decode cX1_open 37 = .ok (.bipush 42, 2) := dk_16 42 (dk_at dksX1_open_1 13 rfl rfl)
theorem dX1_open_39 : decode cX1_open 39 = .ok (.iaload, 1) := dk_46 (dk_at dksX1_open_1 15 rfl rfl)
theorem dX1_open_40 : decode cX1_open 40 = .ok (.isub, 1) := dk_100 (dk_at dksX1_open_1 16 rfl rfl)
theorem dX1_open_41 : decode cX1_open 41 = .ok (.putfield 36, 3) := dk_181 0 36 (dk_at dksX1_open_1 17 rfl rfl)
theorem dX1_open_44 : decode cX1_open 44 = .ok (.bipush 20, 2) := dk_16 20 (dk_at dksX1_open_1 20 rfl rfl)
theorem dX1_open_46 : decode cX1_open 46 = .ok (.istore_n 2, 1) := dk_61 (dk_at dksX1_open_1 22 rfl rfl)
theorem dX1_open_47 : decode cX1_open 47 = .ok (.iload_n 2, 1) := dk_28 (dk_at dksX1_open_1 23 rfl rfl)
theorem dX1_open_48 : decode cX1_open 48 = .ok (.ifCond .le 121, 3) := dk_158 0 121 (dk_at dksX1_open_2 0 rfl rfl)
theorem dX1_open_51 : decode cX1_open 51 = .ok (.aload_n 0, 1) := dk_42 (dk_at dksX1_open_2 3 rfl rfl)
theorem dX1_open_52 : decode cX1_open 52 = .ok (.getfield 46, 3) := dk_180 0 46 (dk_at dksX1_open_2 4 rfl rfl)
theorem dX1_open_55 : decode cX1_open 55 = .ok (.istore_n 3, 1) := dk_62 (dk_at dksX1_open_2 7 rfl rfl)
theorem dX1_open_56 : decode cX1_open 56 = .ok (.aload_n 0, 1) := dk_42 (dk_at dksX1_open_2 8 rfl rfl)
theorem dX1_open_57 : decode cX1_open 57 = .ok (.getfield 40, 3) := dk_180 0 40 (dk_at dksX1_open_2 9 rfl rfl)
theorem dX1_open_60 : decode cX1_open 60 = .ok (.istore 4, 2) := dk_54 4 (dk_at dksX1_open_2 12 rfl rfl)
theorem dX1_open_62 : decode cX1_open 62 = .ok (.aload_n 0, 1) := dk_42 (dk_at dksX1_open_2 14 rfl rfl)
theorem dX1_open_63 : decode cX1_open 63 = .ok (.aload_n 0, 1) := dk_42 (dk_at dksX1_open_2 15 rfl rfl)
theorem dX1_open_64 : decode cX1_open 64 = .ok (.getfield 36, 3) := dk_180 0 36 (dk_at dksX1_open_2 16 rfl rfl)
theorem dX1_open_67 : decode cX1_open 67 = .ok (.putfield 40, 3) := dk_181 0 40 (dk_at dksX1_open_2 19 rfl rfl)
theorem dX1_open_70 : decode cX1_open 70 = .ok (.aload_n 0, 1) := dk_42 (dk_at dksX1_open_2 22 rfl rfl)
theorem dX1_open_71 : decode cX1_open 71 = .ok (.aload_n 0, 1) := dk_42 (dk_at dksX1_open_2 23 rfl rfl)
theorem dX1_open_72 : decode cX1_open 72 = .ok (.getfield 43, 3) := dk_180 0 43 (dk_at dksX1_open_3 0 rfl rfl)
theorem dX1_open_75 : decode cX1_open 75 = .ok (.putfield 46, 3) := dk_181 0 46 (dk_at dksX1_open_3 3 rfl rfl)
theorem dX1_open_78 : decode cX1_open 78 = .ok (.aload_n 0, 1) := dk_42 (dk_at dksX1_open_3 6 rfl rfl)
theorem dX1_open_79 : decode cX1_open 79 = .ok (.getfield 46, 3) := dk_180 0 46 (dk_at dksX1_open_3 7 rfl rfl)
theorem dX1_open_82 : decode cX1_open 82 = .ok (.iconst 2, 1) := dk_5 (dk_at dksX1_open_3 10 rfl rfl)
theorem dX1_open_83 : decode cX1_open 83 = .ok (.aload_n 0, 1) := dk_42 (dk_at dksX1_open_3 11 rfl rfl)
theorem dX1_open_84 : decode cX1_open 84 = .ok (.getfield 46, 3) := dk_180 0 46 (dk_at dksX1_open_3 12 rfl rfl)
theorem dX1_open_87 : decode cX1_open 87 = .ok (.imul, 1) := dk_104 (dk_at dksX1_open_3 15 rfl rfl)
theorem dX1_open_88 : decode cX1_open 88 = .ok (.iconst 1, 1) := dk_4 (dk_at dksX1_open_3 16 rfl rfl)
theorem dX1_open_89 : decode cX1_open 89 = .ok (.iadd, 1) := dk_96 (dk_at dksX1_open_3 17 rfl rfl)
theorem dX1_open_90 : decode cX1_open 90 = .ok (.imul, 1) := dk_104 (dk_at dksX1_open_3 18 rfl rfl)
theorem dX1_open_91 : decode cX1_open 91 = .ok (.iconst 5, 1) := dk_8 (dk_at dksX1_open_3 19 rfl rfl)
theorem dX1_open_92 : decode cX1_open 92 = .ok (.invokestatic 26, 3) := dk_184 0 26 (dk_at dksX1_open_3 20 rfl rfl)
theorem dX1_open_95 : decode cX1_open 95 = .ok (.istore 5, 2) := dk_54 5 (dk_at dksX1_open_4 0 rfl rfl)
theorem dX1_open_97 : decode cX1_open 97 = .ok (.aload_n 0, 1) := dk_42 (dk_at dksX1_open_4 2 rfl rfl)
theorem dX1_open_98 : decode cX1_open 98 = .ok (.getfield 40, 3) := dk_180 0 40 (dk_at dksX1_open_4 3 rfl rfl)
theorem dX1_open_101 : decode cX1_open 101 = .ok (.iconst 2, 1) := dk_5 (dk_at dksX1_open_4 6 rfl rfl)
theorem dX1_open_102 : decode cX1_open 102 = .ok (.aload_n 0, 1) := dk_42 (dk_at dksX1_open_4 7 rfl rfl)
theorem dX1_open_103 : decode cX1_open 103 = .ok (.getfield 40, 3) := dk_180 0 40 (dk_at dksX1_open_4 8 rfl rfl)
theorem dX1_open_106 : decode cX1_open 106 = .ok (.imul, 1) := dk_104 (dk_at dksX1_open_4 11 rfl rfl)
theorem dX1_open_107 : decode cX1_open 107 = .ok (.iconst 1, 1) := dk_4 (dk_at dksX1_open_4 12 rfl rfl)
theorem dX1_open_108 : decode cX1_open 108 = .ok (.iadd, 1) := dk_96 (dk_at dksX1_open_4 13 rfl rfl)
theorem dX1_open_109 : decode cX1_open 109 = .ok (.imul, 1) := dk_104 (dk_at dksX1_open_4 14 rfl rfl)
theorem dX1_open_110 : decode cX1_open 110 = .ok (.iconst 5, 1) := dk_8 (dk_at dksX1_open_4 15 rfl rfl)
theorem dX1_open_111 : decode cX1_open 111 = .ok (.invokestatic 26, 3) := dk_184 0 26 (dk_at dksX1_open_4 16 rfl rfl)
theorem dX1_open_114 : decode cX1_open 114 = .ok (.istore 6, 2) := dk_54 6 (dk_at dksX1_open_4 19 rfl rfl)
theorem dX1_open_116 : decode cX1_open 116 = .ok (.aload_n 0, 1) := dk_42 (dk_at dksX1_open_4 21 rfl rfl)
theorem dX1_open_117 : decode cX1_open 117 = .ok (.iload 4, 2) := dk_21 4 (dk_at dksX1_open_4 22 rfl rfl)
theorem dX1_open_119 : decode cX1_open 119 = .ok (.aload_n 0, 1) := dk_42 (dk_at dksX1_open_5 0 rfl rfl)
theorem dX1_open_120 : decode cX1_open 120 = .ok (.getfield 19, 3) := dk_180 0 19 (dk_at dksX1_open_5 1 rfl rfl)
theorem dX1_open_123 : decode cX1_open 123 = .ok (.iconst 2, 1) := dk_5 (dk_at dksX1_open_5 4 rfl rfl)
theorem dX1_open_124 : decode cX1_open 124 = .ok (.iload_n 2, 1) := dk_28 (dk_at dksX1_open_5 5 rfl rfl)
theorem dX1_open_125 : decode cX1_open 125 = .ok (.imul, 1) := dk_104 (dk_at dksX1_open_5 6 rfl rfl)
theorem dX1_open_126 : decode cX1_open 126 = .ok (.iconst 1, 1) := dk_4 (dk_at dksX1_open_5 7 rfl rfl)
theorem dX1_open_127 : decode cX1_open 127 = .ok (.iadd, 1) := dk_96 (dk_at dksX1_open_5 8 rfl rfl)
theorem dX1_open_128 : decode cX1_open 128 = .ok (.iaload, 1) := dk_46 (dk_at dksX1_open_5 9 rfl rfl)
theorem dX1_open_129 : decode cX1_open 129 = .ok (.isub, 1) := dk_100 (dk_at dksX1_open_5 10 rfl rfl)
theorem dX1_open_130 : decode cX1_open 130 = .ok (.iload 6, 2) := dk_21 6 (dk_at dksX1_open_5 11 rfl rfl)
theorem dX1_open_132 : decode cX1_open 132 = .ok (.invokestatic 63, 3) := dk_184 0 63 (dk_at dksX1_open_5 13 rfl rfl)
theorem dX1_open_135 : decode cX1_open 135 = .ok (.iload 5, 2) := dk_21 5 (dk_at dksX1_open_5 16 rfl rfl)
theorem dX1_open_137 : decode cX1_open 137 = .ok (.ixor, 1) := dk_130 (dk_at dksX1_open_5 18 rfl rfl)
theorem dX1_open_138 : decode cX1_open 138 = .ok (.putfield 43, 3) := dk_181 0 43 (dk_at dksX1_open_5 19 rfl rfl)
theorem dX1_open_141 : decode cX1_open 141 = .ok (.aload_n 0, 1) := dk_42 (dk_at dksX1_open_5 22 rfl rfl)
theorem dX1_open_142 : decode cX1_open 142 = .ok (.iload_n 3, 1) := dk_29 (dk_at dksX1_open_5 23 rfl rfl)
theorem dX1_open_143 : decode cX1_open 143 = .ok (.aload_n 0, 1) := dk_42 (dk_at dksX1_open_6 0 rfl rfl)
theorem dX1_open_144 : decode cX1_open 144 = .ok (.getfield 19, 3) := dk_180 0 19 (dk_at dksX1_open_6 1 rfl rfl)
theorem dX1_open_147 : decode cX1_open 147 = .ok (.iconst 2, 1) := dk_5 (dk_at dksX1_open_6 4 rfl rfl)
theorem dX1_open_148 : decode cX1_open 148 = .ok (.iload_n 2, 1) := dk_28 (dk_at dksX1_open_6 5 rfl rfl)
theorem dX1_open_149 : decode cX1_open 149 = .ok (.imul, 1) := dk_104 (dk_at dksX1_open_6 6 rfl rfl)
theorem dX1_open_150 : decode cX1_open 150 = .ok (.iaload, 1) := dk_46 (dk_at dksX1_open_6 7 rfl rfl)
theorem dX1_open_151 : decode cX1_open 151 = .ok (.isub, 1) := dk_100 (dk_at dksX1_open_6 8 rfl rfl)
theorem dX1_open_152 : decode cX1_open 152 = .ok (.iload 5, 2) := dk_21 5 (dk_at dksX1_open_6 9 rfl rfl)
theorem dX1_open_154 : decode cX1_open 154 = .ok (.invokestatic 63, 3) := dk_184 0 63 (dk_at dksX1_open_6 11 rfl rfl)
theorem dX1_open_157 : decode cX1_open 157 = .ok (.iload 6, 2) := dk_21 6 (dk_at dksX1_open_6 14 rfl rfl)
theorem dX1_open_159 : decode cX1_open 159 = .ok (.ixor, 1) := dk_130 (dk_at dksX1_open_6 16 rfl rfl)
theorem dX1_open_160 : decode cX1_open 160 = .ok (.putfield 36, 3) := dk_181 0 36 (dk_at dksX1_open_6 17 rfl rfl)
theorem dX1_open_163 : decode cX1_open 163 = .ok (.iinc 2 (-1), 3) := dk_132 2 255 (dk_at dksX1_open_6 20 rfl rfl)
theorem dX1_open_166 : decode cX1_open 166 = .ok (.goto (-119), 3) := dk_167 255 137 (dk_at dksX1_open_7 0 rfl rfl)
theorem dX1_open_169 : decode cX1_open 169 = .ok (.aload_n 0, 1) := dk_42 (dk_at dksX1_open_7 3 rfl rfl)
theorem dX1_open_170 : decode cX1_open 170 = .ok (.dup, 1) := dk_89 (dk_at dksX1_open_7 4 rfl rfl)
theorem dX1_open_171 : decode cX1_open 171 = .ok (.getfield 46, 3) := dk_180 0 46 (dk_at dksX1_open_7 5 rfl rfl)
theorem dX1_open_174 : decode cX1_open 174 = .ok (.aload_n 0, 1) := dk_42 (dk_at dksX1_open_7 8 rfl rfl)
theorem dX1_open_175 : decode cX1_open 175 = .ok (.getfield 19, 3) := dk_180 0 19 (dk_at dksX1_open_7 9 rfl rfl)
theorem dX1_open_178 : decode cX1_open 178 = .ok (.iconst 1, 1) := dk_4 (dk_at dksX1_open_7 12 rfl rfl)
theorem dX1_open_179 : decode cX1_open 179 = .ok (.iaload, 1) := dk_46 (dk_at dksX1_open_7 13 rfl rfl)
theorem dX1_open_180 : decode cX1_open 180 = .ok (.isub, 1) := dk_100 (dk_at dksX1_open_7 14 rfl rfl)
theorem dX1_open_181 : decode cX1_open 181 = .ok (.putfield 46, 3) := dk_181 0 46 (dk_at dksX1_open_7 15 rfl rfl)
theorem dX1_open_184 : decode cX1_open 184 = .ok (.aload_n 0, 1) := dk_42 (dk_at dksX1_open_7 18 rfl rfl)
theorem dX1_open_185 : decode cX1_open 185 = .ok (.dup, 1) := dk_89 (dk_at dksX1_open_7 19 rfl rfl)
theorem dX1_open_186 : decode cX1_open 186 = .ok (.getfield 40, 3) := dk_180 0 40 (dk_at dksX1_open_7 20 rfl rfl)
theorem dX1_open_189 : decode cX1_open 189 = .ok (.aload_n 0, 1) := dk_42 (dk_at dksX1_open_7 23 rfl rfl)
theorem dX1_open_190 : decode cX1_open 190 = .ok (.getfield 19, 3) := dk_180 0 19 (dk_at dksX1_open_8 0 rfl rfl)
theorem dX1_open_193 : decode cX1_open 193 = .ok (.iconst 0, 1) := dk_3 (dk_at dksX1_open_8 3 rfl rfl)
theorem dX1_open_194 : decode cX1_open 194 = .ok (.iaload, 1) := dk_46 (dk_at dksX1_open_8 4 rfl rfl)
theorem dX1_open_195 : decode cX1_open 195 = .ok (.isub, 1) := dk_100 (dk_at dksX1_open_8 5 rfl rfl)
theorem dX1_open_196 : decode cX1_open 196 = .ok (.putfield 40, 3) := dk_181 0 40 (dk_at dksX1_open_8 6 rfl rfl)
theorem dX1_open_199 : decode cX1_open 199 = .ok (.aload_n 0, 1) := dk_42 (dk_at dksX1_open_8 9 rfl rfl)
theorem dX1_open_200 : decode cX1_open 200 = .ok (.invokevirtual 60, 3) := dk_182 0 60 (dk_at dksX1_open_8 10 rfl rfl)
theorem dX1_open_203 : decode cX1_open 203 = .ok (.return_, 1) := dk_177 (dk_at dksX1_open_8 13 rfl rfl)
abbrev cX1_right : ByteArray := prog_9_method_4_code
def yX1_right : MethodName := ⟨RX1, "right", "(II)I"⟩
def dkwX1_right_0 : List UInt8 := [26, 16, 32, 27, 16, 31, 126, 100, 184, 0, 26, 172]
abbrev dktX1_right_0 : List UInt8 := dkwX1_right_0 ++ []
theorem dksX1_right_0 : cX1_right.data.toList.drop 0 = dktX1_right_0 := by decide +kernel
theorem dX1_right_0 : decode cX1_right 0 = .ok (.iload_n 0, 1) := dk_26 (dk_at dksX1_right_0 0 rfl rfl)
theorem dX1_right_1 : decode cX1_right 1 = .ok (.bipush 32, 2) := dk_16 32 (dk_at dksX1_right_0 1 rfl rfl)
theorem dX1_right_3 : decode cX1_right 3 = .ok (.iload_n 1, 1) := dk_27 (dk_at dksX1_right_0 3 rfl rfl)
theorem dX1_right_4 : decode cX1_right 4 = .ok (.bipush 31, 2) := dk_16 31 (dk_at dksX1_right_0 4 rfl rfl)
theorem dX1_right_6 : decode cX1_right 6 = .ok (.iand, 1) := dk_126 (dk_at dksX1_right_0 6 rfl rfl)
theorem dX1_right_7 : decode cX1_right 7 = .ok (.isub, 1) := dk_100 (dk_at dksX1_right_0 7 rfl rfl)
theorem dX1_right_8 : decode cX1_right 8 = .ok (.invokestatic 26, 3) := dk_184 0 26 (dk_at dksX1_right_0 8 rfl rfl)
theorem dX1_right_11 : decode cX1_right 11 = .ok (.ireturn, 1) := dk_172 (dk_at dksX1_right_0 11 rfl rfl)
abbrev cX1_key : ByteArray := prog_9_method_12_code
def yX1_key : MethodName := ⟨RX1, "key", "(IIIII)V"⟩
def dkwX1_key_2 : List UInt8 := [167, 255, 214, 177]
abbrev dktX1_key_2 : List UInt8 := dkwX1_key_2 ++ []
def dkwX1_key_1 : List UInt8 := [21, 6, 7, 108, 21, 6, 7, 112, 28, 29, 21, 4, 21, 5, 184, 0, 66, 145, 84, 132, 6, 1]
abbrev dktX1_key_1 : List UInt8 := dkwX1_key_1 ++ dktX1_key_2
def dkwX1_key_0 : List UInt8 := [3, 54, 6, 21, 6, 16, 16, 162, 0, 41, 42, 180, 0, 7, 16, 16, 27, 4, 126, 104, 21, 6, 96]
abbrev dktX1_key_0 : List UInt8 := dkwX1_key_0 ++ dktX1_key_1
theorem dksX1_key_0 : cX1_key.data.toList.drop 0 = dktX1_key_0 := by decide +kernel
theorem dksX1_key_1 : cX1_key.data.toList.drop 23 = dktX1_key_1 := dk_seg dksX1_key_0 23 rfl rfl
theorem dksX1_key_2 : cX1_key.data.toList.drop 45 = dktX1_key_2 := dk_seg dksX1_key_1 22 rfl rfl
theorem dX1_key_0 : decode cX1_key 0 = .ok (.iconst 0, 1) := dk_3 (dk_at dksX1_key_0 0 rfl rfl)
theorem dX1_key_1 : decode cX1_key 1 = .ok (.istore 6, 2) := dk_54 6 (dk_at dksX1_key_0 1 rfl rfl)
theorem dX1_key_3 : decode cX1_key 3 = .ok (.iload 6, 2) := dk_21 6 (dk_at dksX1_key_0 3 rfl rfl)
theorem dX1_key_5 : decode cX1_key 5 = .ok (.bipush 16, 2) := dk_16 16 (dk_at dksX1_key_0 5 rfl rfl)
theorem dX1_key_7 : decode cX1_key 7 = .ok (.if_icmp .ge 41, 3) := dk_162 0 41 (dk_at dksX1_key_0 7 rfl rfl)
theorem dX1_key_10 : decode cX1_key 10 = .ok (.aload_n 0, 1) := dk_42 (dk_at dksX1_key_0 10 rfl rfl)
theorem dX1_key_11 : decode cX1_key 11 = .ok (.getfield 7, 3) := dk_180 0 7 (dk_at dksX1_key_0 11 rfl rfl)
theorem dX1_key_14 : decode cX1_key 14 = .ok (.bipush 16, 2) := dk_16 16 (dk_at dksX1_key_0 14 rfl rfl)
theorem dX1_key_16 : decode cX1_key 16 = .ok (.iload_n 1, 1) := dk_27 (dk_at dksX1_key_0 16 rfl rfl)
theorem dX1_key_17 : decode cX1_key 17 = .ok (.iconst 1, 1) := dk_4 (dk_at dksX1_key_0 17 rfl rfl)
theorem dX1_key_18 : decode cX1_key 18 = .ok (.iand, 1) := dk_126 (dk_at dksX1_key_0 18 rfl rfl)
theorem dX1_key_19 : decode cX1_key 19 = .ok (.imul, 1) := dk_104 (dk_at dksX1_key_0 19 rfl rfl)
theorem dX1_key_20 : decode cX1_key 20 = .ok (.iload 6, 2) := dk_21 6 (dk_at dksX1_key_0 20 rfl rfl)
theorem dX1_key_22 : decode cX1_key 22 = .ok (.iadd, 1) := dk_96 (dk_at dksX1_key_0 22 rfl rfl)
theorem dX1_key_23 : decode cX1_key 23 = .ok (.iload 6, 2) := dk_21 6 (dk_at dksX1_key_1 0 rfl rfl)
theorem dX1_key_25 : decode cX1_key 25 = .ok (.iconst 4, 1) := dk_7 (dk_at dksX1_key_1 2 rfl rfl)
theorem dX1_key_26 : decode cX1_key 26 = .ok (.idiv, 1) := dk_108 (dk_at dksX1_key_1 3 rfl rfl)
theorem dX1_key_27 : decode cX1_key 27 = .ok (.iload 6, 2) := dk_21 6 (dk_at dksX1_key_1 4 rfl rfl)
theorem dX1_key_29 : decode cX1_key 29 = .ok (.iconst 4, 1) := dk_7 (dk_at dksX1_key_1 6 rfl rfl)
theorem dX1_key_30 : decode cX1_key 30 = .ok (.irem, 1) := dk_112 (dk_at dksX1_key_1 7 rfl rfl)
theorem dX1_key_31 : decode cX1_key 31 = .ok (.iload_n 2, 1) := dk_28 (dk_at dksX1_key_1 8 rfl rfl)
theorem dX1_key_32 : decode cX1_key 32 = .ok (.iload_n 3, 1) := dk_29 (dk_at dksX1_key_1 9 rfl rfl)
theorem dX1_key_33 : decode cX1_key 33 = .ok (.iload 4, 2) := dk_21 4 (dk_at dksX1_key_1 10 rfl rfl)
theorem dX1_key_35 : decode cX1_key 35 = .ok (.iload 5, 2) := dk_21 5 (dk_at dksX1_key_1 12 rfl rfl)
theorem dX1_key_37 : decode cX1_key 37 = .ok (.invokestatic 66, 3) := dk_184 0 66 (dk_at dksX1_key_1 14 rfl rfl)
theorem dX1_key_40 : decode cX1_key 40 = .ok (.i2b, 1) := dk_145 (dk_at dksX1_key_1 17 rfl rfl)
theorem dX1_key_41 : decode cX1_key 41 = .ok (.bastore, 1) := dk_84 (dk_at dksX1_key_1 18 rfl rfl)
theorem dX1_key_42 : decode cX1_key 42 = .ok (.iinc 6 1, 3) := dk_132 6 1 (dk_at dksX1_key_1 19 rfl rfl)
theorem dX1_key_45 : decode cX1_key 45 = .ok (.goto (-42), 3) := dk_167 255 214 (dk_at dksX1_key_2 0 rfl rfl)
theorem dX1_key_48 : decode cX1_key 48 = .ok (.return_, 1) := dk_177 (dk_at dksX1_key_2 3 rfl rfl)
abbrev cX1_at : ByteArray := prog_9_method_11_code
def yX1_at : MethodName := ⟨RX1, "at", "(IIIIII)I"⟩
def dkwX1_at_1 : List UInt8 := [167, 0, 5, 21, 5, 54, 6, 21, 6, 16, 24, 16, 8, 27, 104, 100, 124, 172]
abbrev dktX1_at_1 : List UInt8 := dkwX1_at_1 ++ []
def dkwX1_at_0 : List UInt8 := [26, 154, 0, 7, 28, 167, 0, 24, 26, 4, 160, 0, 7, 29, 167, 0, 15, 26, 5, 160, 0, 8, 21, 4]
abbrev dktX1_at_0 : List UInt8 := dkwX1_at_0 ++ dktX1_at_1
theorem dksX1_at_0 : cX1_at.data.toList.drop 0 = dktX1_at_0 := by decide +kernel
theorem dksX1_at_1 : cX1_at.data.toList.drop 24 = dktX1_at_1 := dk_seg dksX1_at_0 24 rfl rfl
theorem dX1_at_0 : decode cX1_at 0 = .ok (.iload_n 0, 1) := dk_26 (dk_at dksX1_at_0 0 rfl rfl)
theorem dX1_at_1 : decode cX1_at 1 = .ok (.ifCond .ne 7, 3) := dk_154 0 7 (dk_at dksX1_at_0 1 rfl rfl)
theorem dX1_at_4 : decode cX1_at 4 = .ok (.iload_n 2, 1) := dk_28 (dk_at dksX1_at_0 4 rfl rfl)
theorem dX1_at_5 : decode cX1_at 5 = .ok (.goto 24, 3) := dk_167 0 24 (dk_at dksX1_at_0 5 rfl rfl)
theorem dX1_at_8 : decode cX1_at 8 = .ok (.iload_n 0, 1) := dk_26 (dk_at dksX1_at_0 8 rfl rfl)
theorem dX1_at_9 : decode cX1_at 9 = .ok (.iconst 1, 1) := dk_4 (dk_at dksX1_at_0 9 rfl rfl)
theorem dX1_at_10 : decode cX1_at 10 = .ok (.if_icmp .ne 7, 3) := dk_160 0 7 (dk_at dksX1_at_0 10 rfl rfl)
theorem dX1_at_13 : decode cX1_at 13 = .ok (.iload_n 3, 1) := dk_29 (dk_at dksX1_at_0 13 rfl rfl)
theorem dX1_at_14 : decode cX1_at 14 = .ok (.goto 15, 3) := dk_167 0 15 (dk_at dksX1_at_0 14 rfl rfl)
theorem dX1_at_17 : decode cX1_at 17 = .ok (.iload_n 0, 1) := dk_26 (dk_at dksX1_at_0 17 rfl rfl)
theorem dX1_at_18 : decode cX1_at 18 = .ok (.iconst 2, 1) := dk_5 (dk_at dksX1_at_0 18 rfl rfl)
theorem dX1_at_19 : decode cX1_at 19 = .ok (.if_icmp .ne 8, 3) := dk_160 0 8 (dk_at dksX1_at_0 19 rfl rfl)
theorem dX1_at_22 : decode cX1_at 22 = .ok (.iload 4, 2) := dk_21 4 (dk_at dksX1_at_0 22 rfl rfl)
theorem dX1_at_24 : decode cX1_at 24 = .ok (.goto 5, 3) := dk_167 0 5 (dk_at dksX1_at_1 0 rfl rfl)
theorem dX1_at_27 : decode cX1_at 27 = .ok (.iload 5, 2) := dk_21 5 (dk_at dksX1_at_1 3 rfl rfl)
theorem dX1_at_29 : decode cX1_at 29 = .ok (.istore 6, 2) := dk_54 6 (dk_at dksX1_at_1 5 rfl rfl)
theorem dX1_at_31 : decode cX1_at 31 = .ok (.iload 6, 2) := dk_21 6 (dk_at dksX1_at_1 7 rfl rfl)
theorem dX1_at_33 : decode cX1_at 33 = .ok (.bipush 24, 2) := dk_16 24 (dk_at dksX1_at_1 9 rfl rfl)
theorem dX1_at_35 : decode cX1_at 35 = .ok (.bipush 8, 2) := dk_16 8 (dk_at dksX1_at_1 11 rfl rfl)
theorem dX1_at_37 : decode cX1_at 37 = .ok (.iload_n 1, 1) := dk_27 (dk_at dksX1_at_1 13 rfl rfl)
theorem dX1_at_38 : decode cX1_at 38 = .ok (.imul, 1) := dk_104 (dk_at dksX1_at_1 14 rfl rfl)
theorem dX1_at_39 : decode cX1_at 39 = .ok (.isub, 1) := dk_100 (dk_at dksX1_at_1 15 rfl rfl)
theorem dX1_at_40 : decode cX1_at 40 = .ok (.iushr, 1) := dk_124 (dk_at dksX1_at_1 16 rfl rfl)
theorem dX1_at_41 : decode cX1_at 41 = .ok (.ireturn, 1) := dk_172 (dk_at dksX1_at_1 17 rfl rfl)
abbrev cX1_block : ByteArray := prog_9_method_13_code
def yX1_block : MethodName := ⟨RX1, "block", "(IIII)V"⟩
def dkwX1_block_1 : List UInt8 := [27, 28, 29, 21, 4, 184, 0, 66, 145, 84, 132, 5, 1, 167, 255, 222, 177]
abbrev dktX1_block_1 : List UInt8 := dkwX1_block_1 ++ []
def dkwX1_block_0 : List UInt8 := [3, 54, 5, 21, 5, 16, 16, 162, 0, 33, 42, 180, 0, 13, 21, 5, 21, 5, 7, 108, 21, 5, 7, 112]
abbrev dktX1_block_0 : List UInt8 := dkwX1_block_0 ++ dktX1_block_1
theorem dksX1_block_0 : cX1_block.data.toList.drop 0 = dktX1_block_0 := by decide +kernel
theorem dksX1_block_1 : cX1_block.data.toList.drop 24 = dktX1_block_1 := dk_seg dksX1_block_0 24 rfl rfl
theorem dX1_block_0 : decode cX1_block 0 = .ok (.iconst 0, 1) := dk_3 (dk_at dksX1_block_0 0 rfl rfl)
theorem dX1_block_1 : decode cX1_block 1 = .ok (.istore 5, 2) := dk_54 5 (dk_at dksX1_block_0 1 rfl rfl)
theorem dX1_block_3 : decode cX1_block 3 = .ok (.iload 5, 2) := dk_21 5 (dk_at dksX1_block_0 3 rfl rfl)
theorem dX1_block_5 : decode cX1_block 5 = .ok (.bipush 16, 2) := dk_16 16 (dk_at dksX1_block_0 5 rfl rfl)
theorem dX1_block_7 : decode cX1_block 7 = .ok (.if_icmp .ge 33, 3) := dk_162 0 33 (dk_at dksX1_block_0 7 rfl rfl)
theorem dX1_block_10 : decode cX1_block 10 = .ok (.aload_n 0, 1) := dk_42 (dk_at dksX1_block_0 10 rfl rfl)
theorem dX1_block_11 : decode cX1_block 11 = .ok (.getfield 13, 3) := dk_180 0 13 (dk_at dksX1_block_0 11 rfl rfl)
theorem dX1_block_14 : decode cX1_block 14 = .ok (.iload 5, 2) := dk_21 5 (dk_at dksX1_block_0 14 rfl rfl)
theorem dX1_block_16 : decode cX1_block 16 = .ok (.iload 5, 2) := dk_21 5 (dk_at dksX1_block_0 16 rfl rfl)
theorem dX1_block_18 : decode cX1_block 18 = .ok (.iconst 4, 1) := dk_7 (dk_at dksX1_block_0 18 rfl rfl)
theorem dX1_block_19 : decode cX1_block 19 = .ok (.idiv, 1) := dk_108 (dk_at dksX1_block_0 19 rfl rfl)
theorem dX1_block_20 : decode cX1_block 20 = .ok (.iload 5, 2) := dk_21 5 (dk_at dksX1_block_0 20 rfl rfl)
theorem dX1_block_22 : decode cX1_block 22 = .ok (.iconst 4, 1) := dk_7 (dk_at dksX1_block_0 22 rfl rfl)
theorem dX1_block_23 : decode cX1_block 23 = .ok (.irem, 1) := dk_112 (dk_at dksX1_block_0 23 rfl rfl)
theorem dX1_block_24 : decode cX1_block 24 = .ok (.iload_n 1, 1) := dk_27 (dk_at dksX1_block_1 0 rfl rfl)
theorem dX1_block_25 : decode cX1_block 25 = .ok (.iload_n 2, 1) := dk_28 (dk_at dksX1_block_1 1 rfl rfl)
theorem dX1_block_26 : decode cX1_block 26 = .ok (.iload_n 3, 1) := dk_29 (dk_at dksX1_block_1 2 rfl rfl)
theorem dX1_block_27 : decode cX1_block 27 = .ok (.iload 4, 2) := dk_21 4 (dk_at dksX1_block_1 3 rfl rfl)
theorem dX1_block_29 : decode cX1_block 29 = .ok (.invokestatic 66, 3) := dk_184 0 66 (dk_at dksX1_block_1 5 rfl rfl)
theorem dX1_block_32 : decode cX1_block 32 = .ok (.i2b, 1) := dk_145 (dk_at dksX1_block_1 8 rfl rfl)
theorem dX1_block_33 : decode cX1_block 33 = .ok (.bastore, 1) := dk_84 (dk_at dksX1_block_1 9 rfl rfl)
theorem dX1_block_34 : decode cX1_block 34 = .ok (.iinc 5 1, 3) := dk_132 5 1 (dk_at dksX1_block_1 10 rfl rfl)
theorem dX1_block_37 : decode cX1_block 37 = .ok (.goto (-34), 3) := dk_167 255 222 (dk_at dksX1_block_1 13 rfl rfl)
theorem dX1_block_40 : decode cX1_block 40 = .ok (.return_, 1) := dk_177 (dk_at dksX1_block_1 16 rfl rfl)
abbrev cX1_again : ByteArray := prog_9_method_14_code
def yX1_again : MethodName := ⟨RX1, "again", "()V"⟩
def dkwX1_again_1 : List UInt8 := [167, 255, 235, 177]
abbrev dktX1_again_1 : List UInt8 := dkwX1_again_1 ++ []
def dkwX1_again_0 : List UInt8 := [3, 60, 27, 16, 16, 162, 0, 21, 42, 180, 0, 13, 27, 42, 180, 0, 16, 27, 51, 84, 132, 1, 1]
abbrev dktX1_again_0 : List UInt8 := dkwX1_again_0 ++ dktX1_again_1
theorem dksX1_again_0 : cX1_again.data.toList.drop 0 = dktX1_again_0 := by decide +kernel
theorem dksX1_again_1 : cX1_again.data.toList.drop 23 = dktX1_again_1 := dk_seg dksX1_again_0 23 rfl rfl
theorem dX1_again_0 : decode cX1_again 0 = .ok (.iconst 0, 1) := dk_3 (dk_at dksX1_again_0 0 rfl rfl)
theorem dX1_again_1 : decode cX1_again 1 = .ok (.istore_n 1, 1) := dk_60 (dk_at dksX1_again_0 1 rfl rfl)
theorem dX1_again_2 : decode cX1_again 2 = .ok (.iload_n 1, 1) := dk_27 (dk_at dksX1_again_0 2 rfl rfl)
theorem dX1_again_3 : decode cX1_again 3 = .ok (.bipush 16, 2) := dk_16 16 (dk_at dksX1_again_0 3 rfl rfl)
theorem dX1_again_5 : decode cX1_again 5 = .ok (.if_icmp .ge 21, 3) := dk_162 0 21 (dk_at dksX1_again_0 5 rfl rfl)
theorem dX1_again_8 : decode cX1_again 8 = .ok (.aload_n 0, 1) := dk_42 (dk_at dksX1_again_0 8 rfl rfl)
theorem dX1_again_9 : decode cX1_again 9 = .ok (.getfield 13, 3) := dk_180 0 13 (dk_at dksX1_again_0 9 rfl rfl)
theorem dX1_again_12 : decode cX1_again 12 = .ok (.iload_n 1, 1) := dk_27 (dk_at dksX1_again_0 12 rfl rfl)
theorem dX1_again_13 : decode cX1_again 13 = .ok (.aload_n 0, 1) := dk_42 (dk_at dksX1_again_0 13 rfl rfl)
theorem dX1_again_14 : decode cX1_again 14 = .ok (.getfield 16, 3) := dk_180 0 16 (dk_at dksX1_again_0 14 rfl rfl)
theorem dX1_again_17 : decode cX1_again 17 = .ok (.iload_n 1, 1) := dk_27 (dk_at dksX1_again_0 17 rfl rfl)
theorem dX1_again_18 : decode cX1_again 18 = .ok (.baload, 1) := dk_51 (dk_at dksX1_again_0 18 rfl rfl)
theorem dX1_again_19 : decode cX1_again 19 = .ok (.bastore, 1) := dk_84 (dk_at dksX1_again_0 19 rfl rfl)
theorem dX1_again_20 : decode cX1_again 20 = .ok (.iinc 1 1, 3) := dk_132 1 1 (dk_at dksX1_again_0 20 rfl rfl)
theorem dX1_again_23 : decode cX1_again 23 = .ok (.goto (-21), 3) := dk_167 255 235 (dk_at dksX1_again_1 0 rfl rfl)
theorem dX1_again_26 : decode cX1_again 26 = .ok (.return_, 1) := dk_177 (dk_at dksX1_again_1 3 rfl rfl)
abbrev cX1_out : ByteArray := prog_9_method_15_code
def yX1_out : MethodName := ⟨RX1, "out", "(I)I"⟩
def dkwX1_out_0 : List UInt8 := [42, 180, 0, 16, 27, 16, 15, 126, 51, 17, 0, 255, 126, 172]
abbrev dktX1_out_0 : List UInt8 := dkwX1_out_0 ++ []
theorem dksX1_out_0 : cX1_out.data.toList.drop 0 = dktX1_out_0 := by decide +kernel
theorem dX1_out_0 : decode cX1_out 0 = .ok (.aload_n 0, 1) := dk_42 (dk_at dksX1_out_0 0 rfl rfl)
theorem dX1_out_1 : decode cX1_out 1 = .ok (.getfield 16, 3) := dk_180 0 16 (dk_at dksX1_out_0 1 rfl rfl)
theorem dX1_out_4 : decode cX1_out 4 = .ok (.iload_n 1, 1) := dk_27 (dk_at dksX1_out_0 4 rfl rfl)
theorem dX1_out_5 : decode cX1_out 5 = .ok (.bipush 15, 2) := dk_16 15 (dk_at dksX1_out_0 5 rfl rfl)
theorem dX1_out_7 : decode cX1_out 7 = .ok (.iand, 1) := dk_126 (dk_at dksX1_out_0 7 rfl rfl)
theorem dX1_out_8 : decode cX1_out 8 = .ok (.baload, 1) := dk_51 (dk_at dksX1_out_0 8 rfl rfl)
theorem dX1_out_9 : decode cX1_out 9 = .ok (.sipush 255, 3) := dk_17 0 255 (dk_at dksX1_out_0 9 rfl rfl)
theorem dX1_out_12 : decode cX1_out 12 = .ok (.iand, 1) := dk_126 (dk_at dksX1_out_0 12 rfl rfl)
theorem dX1_out_13 : decode cX1_out 13 = .ok (.ireturn, 1) := dk_172 (dk_at dksX1_out_0 13 rfl rfl)
theorem q14 : (Jvm.Cond.initialized "RcSixDeskModel") ∈ lw_all := lw_g (lw_at lw_m1 2 rfl) rfl
theorem q292 : (Jvm.Cond.instantiable "RcSixDeskModel" (9 : Nat)) ∈ lw_all := lw_g (lw_at lw_m2 40 rfl) rfl
theorem q294 : (Jvm.Cond.instanceMethod ({ cls := "RcSixDeskModel", name := "<init>", desc := "()V" } : Jvm.MethodName)) ∈ lw_all := lw_g (lw_at lw_m2 42 rfl) rfl
theorem q295 : (Jvm.Cond.code ({ cls := "RcSixDeskModel", name := "<init>", desc := "()V" } : Jvm.MethodName) prog_9_method_1_code (1 : Nat) (Option.none : Option Jvm.ClassFile.FieldType)) ∈ lw_all := lw_g (lw_at lw_m2 43 rfl) rfl
theorem q296 : (Jvm.Cond.methodLink "RcSixDeskModel" (1 : Nat) ({ cls := "java/lang/Object", name := "<init>", desc := "()V" } : Jvm.MethodName)) ∈ lw_all := lw_g (lw_at lw_m2 44 rfl) rfl
theorem q297 : (Jvm.Cond.fieldLink "RcSixDeskModel" (7 : Nat) "RcSixDeskModel" "key" "[B") ∈ lw_all := lw_g (lw_at lw_m2 45 rfl) rfl
theorem q298 : (Jvm.Cond.fieldLink "RcSixDeskModel" (13 : Nat) "RcSixDeskModel" "block" "[B") ∈ lw_all := lw_g (lw_at lw_m2 46 rfl) rfl
theorem q299 : (Jvm.Cond.fieldLink "RcSixDeskModel" (16 : Nat) "RcSixDeskModel" "out" "[B") ∈ lw_all := lw_g (lw_at lw_m2 47 rfl) rfl
theorem q300 : (Jvm.Cond.fieldLink "RcSixDeskModel" (19 : Nat) "RcSixDeskModel" "s" "[I") ∈ lw_all := lw_g (lw_at lw_m2 48 rfl) rfl
theorem q301 : (Jvm.Cond.fieldLink "RcSixDeskModel" (23 : Nat) "RcSixDeskModel" "l" "[I") ∈ lw_all := lw_g (lw_at lw_m2 49 rfl) rfl
theorem q302 : (Jvm.Cond.fieldLink "RcSixDeskModel" (36 : Nat) "RcSixDeskModel" "a" "I") ∈ lw_all := lw_g (lw_at lw_m2 50 rfl) rfl
theorem q303 : (Jvm.Cond.fieldLink "RcSixDeskModel" (40 : Nat) "RcSixDeskModel" "b" "I") ∈ lw_all := lw_g (lw_at lw_m2 51 rfl) rfl
theorem q304 : (Jvm.Cond.fieldLink "RcSixDeskModel" (43 : Nat) "RcSixDeskModel" "c" "I") ∈ lw_all := lw_g (lw_at lw_m2 52 rfl) rfl
theorem q305 : (Jvm.Cond.fieldLink "RcSixDeskModel" (46 : Nat) "RcSixDeskModel" "d" "I") ∈ lw_all := lw_g (lw_at lw_m2 53 rfl) rfl
theorem q306 : (Jvm.Cond.laysFinal "RcSixDeskModel" "RcSixDeskModel" "key" "[B") ∈ lw_all := lw_g (lw_at lw_m2 54 rfl) rfl
theorem q307 : (Jvm.Cond.soleField "RcSixDeskModel" "key") ∈ lw_all := lw_g (lw_at lw_m2 55 rfl) rfl
theorem q308 : (Jvm.Cond.laysFinal "RcSixDeskModel" "RcSixDeskModel" "block" "[B") ∈ lw_all := lw_g (lw_at lw_m2 56 rfl) rfl
theorem q309 : (Jvm.Cond.soleField "RcSixDeskModel" "block") ∈ lw_all := lw_g (lw_at lw_m2 57 rfl) rfl
theorem q310 : (Jvm.Cond.laysFinal "RcSixDeskModel" "RcSixDeskModel" "out" "[B") ∈ lw_all := lw_g (lw_at lw_m2 58 rfl) rfl
theorem q311 : (Jvm.Cond.soleField "RcSixDeskModel" "out") ∈ lw_all := lw_g (lw_at lw_m2 59 rfl) rfl
theorem q312 : (Jvm.Cond.laysFinal "RcSixDeskModel" "RcSixDeskModel" "s" "[I") ∈ lw_all := lw_g (lw_at lw_m2 60 rfl) rfl
theorem q313 : (Jvm.Cond.soleField "RcSixDeskModel" "s") ∈ lw_all := lw_g (lw_at lw_m2 61 rfl) rfl
theorem q314 : (Jvm.Cond.laysFinal "RcSixDeskModel" "RcSixDeskModel" "l" "[I") ∈ lw_all := lw_g (lw_at lw_m2 62 rfl) rfl
theorem q315 : (Jvm.Cond.soleField "RcSixDeskModel" "l") ∈ lw_all := lw_g (lw_at lw_m2 63 rfl) rfl
theorem q316 : (Jvm.Cond.lays "RcSixDeskModel" "RcSixDeskModel" "a" "I") ∈ lw_all := lw_g (lw_at lw_m2 64 rfl) rfl
theorem q317 : (Jvm.Cond.soleField "RcSixDeskModel" "a") ∈ lw_all := lw_g (lw_at lw_m2 65 rfl) rfl
theorem q318 : (Jvm.Cond.lays "RcSixDeskModel" "RcSixDeskModel" "b" "I") ∈ lw_all := lw_g (lw_at lw_m2 66 rfl) rfl
theorem q319 : (Jvm.Cond.soleField "RcSixDeskModel" "b") ∈ lw_all := lw_g (lw_at lw_m2 67 rfl) rfl
theorem q320 : (Jvm.Cond.lays "RcSixDeskModel" "RcSixDeskModel" "c" "I") ∈ lw_all := lw_g (lw_at lw_m2 68 rfl) rfl
theorem q321 : (Jvm.Cond.soleField "RcSixDeskModel" "c") ∈ lw_all := lw_g (lw_at lw_m2 69 rfl) rfl
theorem q322 : (Jvm.Cond.lays "RcSixDeskModel" "RcSixDeskModel" "d" "I") ∈ lw_all := lw_g (lw_at lw_m2 70 rfl) rfl
theorem q323 : (Jvm.Cond.soleField "RcSixDeskModel" "d") ∈ lw_all := lw_g (lw_at lw_m2 71 rfl) rfl
theorem q324 : (Jvm.Cond.superclass "RcSixDeskModel" "java/lang/Object") ∈ lw_all := lw_g (lw_at lw_m2 72 rfl) rfl
theorem q326 : (Jvm.Cond.instanceMethod ({ cls := "RcSixDeskModel", name := "lock", desc := "(I)V" } : Jvm.MethodName)) ∈ lw_all := lw_g (lw_at lw_m2 74 rfl) rfl
theorem q327 : (Jvm.Cond.selects "RcSixDeskModel" ({ cls := "RcSixDeskModel", name := "lock", desc := "(I)V" } : Jvm.MethodName) ({ cls := "RcSixDeskModel", name := "lock", desc := "(I)V" } : Jvm.MethodName)) ∈ lw_all := lw_g (lw_at lw_m2 75 rfl) rfl
theorem q328 : (Jvm.Cond.code ({ cls := "RcSixDeskModel", name := "lock", desc := "(I)V" } : Jvm.MethodName) prog_9_method_9_code (7 : Nat) (Option.none : Option Jvm.ClassFile.FieldType)) ∈ lw_all := lw_g (lw_at lw_m2 76 rfl) rfl
theorem q329 : (Jvm.Cond.methodLink "RcSixDeskModel" (49 : Nat) ({ cls := "RcSixDeskModel", name := "size", desc := "(I)I" } : Jvm.MethodName)) ∈ lw_all := lw_g (lw_at lw_m2 77 rfl) rfl
theorem q330 : (Jvm.Cond.static ({ cls := "RcSixDeskModel", name := "size", desc := "(I)I" } : Jvm.MethodName)) ∈ lw_all := lw_g (lw_at lw_m2 78 rfl) rfl
theorem q331 : (Jvm.Cond.code ({ cls := "RcSixDeskModel", name := "size", desc := "(I)I" } : Jvm.MethodName) prog_9_method_2_code (1 : Nat) (Option.some Jvm.ClassFile.FieldType.int)) ∈ lw_all := lw_g (lw_at lw_m2 79 rfl) rfl
theorem q332 : (Jvm.Cond.methodLink "RcSixDeskModel" (53 : Nat) ({ cls := "RcSixDeskModel", name := "expands", desc := "(I)V" } : Jvm.MethodName)) ∈ lw_all := lw_g (lw_at lw_m2 80 rfl) rfl
theorem q333 : (Jvm.Cond.privateMethod ({ cls := "RcSixDeskModel", name := "expands", desc := "(I)V" } : Jvm.MethodName)) ∈ lw_tbl := lw_at lw_m2 81 rfl
theorem q334 : (Jvm.Cond.instanceMethod ({ cls := "RcSixDeskModel", name := "expands", desc := "(I)V" } : Jvm.MethodName)) ∈ lw_all := lw_g (lw_at lw_m2 82 rfl) rfl
theorem q335 : (Jvm.Cond.code ({ cls := "RcSixDeskModel", name := "expands", desc := "(I)V" } : Jvm.MethodName) prog_9_method_6_code (8 : Nat) (Option.none : Option Jvm.ClassFile.FieldType)) ∈ lw_all := lw_g (lw_at lw_m2 83 rfl) rfl
theorem q336 : (Jvm.Cond.methodLink "RcSixDeskModel" (30 : Nat) ({ cls := "RcSixDeskModel", name := "word", desc := "([BI)I" } : Jvm.MethodName)) ∈ lw_all := lw_g (lw_at lw_m2 84 rfl) rfl
theorem q337 : (Jvm.Cond.static ({ cls := "RcSixDeskModel", name := "word", desc := "([BI)I" } : Jvm.MethodName)) ∈ lw_all := lw_g (lw_at lw_m2 85 rfl) rfl
theorem q338 : (Jvm.Cond.code ({ cls := "RcSixDeskModel", name := "word", desc := "([BI)I" } : Jvm.MethodName) prog_9_method_5_code (2 : Nat) (Option.some Jvm.ClassFile.FieldType.int)) ∈ lw_all := lw_g (lw_at lw_m2 86 rfl) rfl
theorem q339 : (Jvm.Cond.constant "RcSixDeskModel" (34 : Nat) (-1209970333 : Int32)) ∈ lw_all := lw_g (lw_at lw_m2 87 rfl) rfl
theorem q340 : (Jvm.Cond.constant "RcSixDeskModel" (35 : Nat) (-1640531527 : Int32)) ∈ lw_all := lw_g (lw_at lw_m2 88 rfl) rfl
theorem q341 : (Jvm.Cond.methodLink "RcSixDeskModel" (26 : Nat) ({ cls := "RcSixDeskModel", name := "left", desc := "(II)I" } : Jvm.MethodName)) ∈ lw_all := lw_g (lw_at lw_m2 89 rfl) rfl
theorem q342 : (Jvm.Cond.static ({ cls := "RcSixDeskModel", name := "left", desc := "(II)I" } : Jvm.MethodName)) ∈ lw_all := lw_g (lw_at lw_m2 90 rfl) rfl
theorem q343 : (Jvm.Cond.code ({ cls := "RcSixDeskModel", name := "left", desc := "(II)I" } : Jvm.MethodName) prog_9_method_3_code (3 : Nat) (Option.some Jvm.ClassFile.FieldType.int)) ∈ lw_all := lw_g (lw_at lw_m2 91 rfl) rfl
theorem q344 : (Jvm.Cond.methodLink "RcSixDeskModel" (57 : Nat) ({ cls := "RcSixDeskModel", name := "takes", desc := "()V" } : Jvm.MethodName)) ∈ lw_all := lw_g (lw_at lw_m2 92 rfl) rfl
theorem q345 : (Jvm.Cond.privateMethod ({ cls := "RcSixDeskModel", name := "takes", desc := "()V" } : Jvm.MethodName)) ∈ lw_tbl := lw_at lw_m2 93 rfl
theorem q346 : (Jvm.Cond.instanceMethod ({ cls := "RcSixDeskModel", name := "takes", desc := "()V" } : Jvm.MethodName)) ∈ lw_all := lw_g (lw_at lw_m2 94 rfl) rfl
theorem q347 : (Jvm.Cond.code ({ cls := "RcSixDeskModel", name := "takes", desc := "()V" } : Jvm.MethodName) prog_9_method_7_code (1 : Nat) (Option.none : Option Jvm.ClassFile.FieldType)) ∈ lw_all := lw_g (lw_at lw_m2 95 rfl) rfl
theorem q348 : (Jvm.Cond.methodLink "RcSixDeskModel" (60 : Nat) ({ cls := "RcSixDeskModel", name := "gives", desc := "()V" } : Jvm.MethodName)) ∈ lw_all := lw_g (lw_at lw_m2 96 rfl) rfl
theorem q349 : (Jvm.Cond.privateMethod ({ cls := "RcSixDeskModel", name := "gives", desc := "()V" } : Jvm.MethodName)) ∈ lw_tbl := lw_at lw_m2 97 rfl
theorem q350 : (Jvm.Cond.instanceMethod ({ cls := "RcSixDeskModel", name := "gives", desc := "()V" } : Jvm.MethodName)) ∈ lw_all := lw_g (lw_at lw_m2 98 rfl) rfl
theorem q351 : (Jvm.Cond.code ({ cls := "RcSixDeskModel", name := "gives", desc := "()V" } : Jvm.MethodName) prog_9_method_8_code (3 : Nat) (Option.none : Option Jvm.ClassFile.FieldType)) ∈ lw_all := lw_g (lw_at lw_m2 99 rfl) rfl
theorem q353 : (Jvm.Cond.instanceMethod ({ cls := "RcSixDeskModel", name := "open", desc := "(I)V" } : Jvm.MethodName)) ∈ lw_all := lw_g (lw_at lw_m2 101 rfl) rfl
theorem q354 : (Jvm.Cond.selects "RcSixDeskModel" ({ cls := "RcSixDeskModel", name := "open", desc := "(I)V" } : Jvm.MethodName) ({ cls := "RcSixDeskModel", name := "open", desc := "(I)V" } : Jvm.MethodName)) ∈ lw_all := lw_g (lw_at lw_m2 102 rfl) rfl
theorem q355 : (Jvm.Cond.code ({ cls := "RcSixDeskModel", name := "open", desc := "(I)V" } : Jvm.MethodName) prog_9_method_10_code (7 : Nat) (Option.none : Option Jvm.ClassFile.FieldType)) ∈ lw_all := lw_g (lw_at lw_m2 103 rfl) rfl
theorem q356 : (Jvm.Cond.methodLink "RcSixDeskModel" (63 : Nat) ({ cls := "RcSixDeskModel", name := "right", desc := "(II)I" } : Jvm.MethodName)) ∈ lw_all := lw_g (lw_at lw_m2 104 rfl) rfl
theorem q357 : (Jvm.Cond.static ({ cls := "RcSixDeskModel", name := "right", desc := "(II)I" } : Jvm.MethodName)) ∈ lw_all := lw_g (lw_at lw_m2 105 rfl) rfl
theorem q358 : (Jvm.Cond.code ({ cls := "RcSixDeskModel", name := "right", desc := "(II)I" } : Jvm.MethodName) prog_9_method_4_code (2 : Nat) (Option.some Jvm.ClassFile.FieldType.int)) ∈ lw_all := lw_g (lw_at lw_m2 106 rfl) rfl
theorem q360 : (Jvm.Cond.instanceMethod ({ cls := "RcSixDeskModel", name := "key", desc := "(IIIII)V" } : Jvm.MethodName)) ∈ lw_all := lw_g (lw_at lw_m2 108 rfl) rfl
theorem q361 : (Jvm.Cond.selects "RcSixDeskModel" ({ cls := "RcSixDeskModel", name := "key", desc := "(IIIII)V" } : Jvm.MethodName) ({ cls := "RcSixDeskModel", name := "key", desc := "(IIIII)V" } : Jvm.MethodName)) ∈ lw_all := lw_g (lw_at lw_m2 109 rfl) rfl
theorem q362 : (Jvm.Cond.code ({ cls := "RcSixDeskModel", name := "key", desc := "(IIIII)V" } : Jvm.MethodName) prog_9_method_12_code (7 : Nat) (Option.none : Option Jvm.ClassFile.FieldType)) ∈ lw_all := lw_g (lw_at lw_m2 110 rfl) rfl
theorem q363 : (Jvm.Cond.methodLink "RcSixDeskModel" (66 : Nat) ({ cls := "RcSixDeskModel", name := "at", desc := "(IIIIII)I" } : Jvm.MethodName)) ∈ lw_all := lw_g (lw_at lw_m2 111 rfl) rfl
theorem q364 : (Jvm.Cond.static ({ cls := "RcSixDeskModel", name := "at", desc := "(IIIIII)I" } : Jvm.MethodName)) ∈ lw_all := lw_g (lw_at lw_m2 112 rfl) rfl
theorem q365 : (Jvm.Cond.code ({ cls := "RcSixDeskModel", name := "at", desc := "(IIIIII)I" } : Jvm.MethodName) prog_9_method_11_code (7 : Nat) (Option.some Jvm.ClassFile.FieldType.int)) ∈ lw_all := lw_g (lw_at lw_m2 113 rfl) rfl
theorem q367 : (Jvm.Cond.instanceMethod ({ cls := "RcSixDeskModel", name := "block", desc := "(IIII)V" } : Jvm.MethodName)) ∈ lw_all := lw_g (lw_at lw_m2 115 rfl) rfl
theorem q368 : (Jvm.Cond.selects "RcSixDeskModel" ({ cls := "RcSixDeskModel", name := "block", desc := "(IIII)V" } : Jvm.MethodName) ({ cls := "RcSixDeskModel", name := "block", desc := "(IIII)V" } : Jvm.MethodName)) ∈ lw_all := lw_g (lw_at lw_m2 116 rfl) rfl
theorem q369 : (Jvm.Cond.code ({ cls := "RcSixDeskModel", name := "block", desc := "(IIII)V" } : Jvm.MethodName) prog_9_method_13_code (6 : Nat) (Option.none : Option Jvm.ClassFile.FieldType)) ∈ lw_all := lw_g (lw_at lw_m2 117 rfl) rfl
theorem q371 : (Jvm.Cond.instanceMethod ({ cls := "RcSixDeskModel", name := "again", desc := "()V" } : Jvm.MethodName)) ∈ lw_all := lw_g (lw_at lw_m2 119 rfl) rfl
theorem q372 : (Jvm.Cond.selects "RcSixDeskModel" ({ cls := "RcSixDeskModel", name := "again", desc := "()V" } : Jvm.MethodName) ({ cls := "RcSixDeskModel", name := "again", desc := "()V" } : Jvm.MethodName)) ∈ lw_all := lw_g (lw_at lw_m2 120 rfl) rfl
theorem q373 : (Jvm.Cond.code ({ cls := "RcSixDeskModel", name := "again", desc := "()V" } : Jvm.MethodName) prog_9_method_14_code (2 : Nat) (Option.none : Option Jvm.ClassFile.FieldType)) ∈ lw_all := lw_g (lw_at lw_m2 121 rfl) rfl
theorem q375 : (Jvm.Cond.instanceMethod ({ cls := "RcSixDeskModel", name := "out", desc := "(I)I" } : Jvm.MethodName)) ∈ lw_all := lw_g (lw_at lw_m2 123 rfl) rfl
theorem q376 : (Jvm.Cond.selects "RcSixDeskModel" ({ cls := "RcSixDeskModel", name := "out", desc := "(I)I" } : Jvm.MethodName) ({ cls := "RcSixDeskModel", name := "out", desc := "(I)I" } : Jvm.MethodName)) ∈ lw_all := lw_g (lw_at lw_m2 124 rfl) rfl
theorem q377 : (Jvm.Cond.code ({ cls := "RcSixDeskModel", name := "out", desc := "(I)I" } : Jvm.MethodName) prog_9_method_15_code (2 : Nat) (Option.some Jvm.ClassFile.FieldType.int)) ∈ lw_all := lw_g (lw_at lw_m2 125 rfl) rfl
theorem in_X1 : ∀ w ∈ wsX10, w ∈ lw_all := lw_in wsX10 [306, 308, 310, 312, 314, 316, 318, 320, 322] (by decide +kernel) (by decide +kernel)
end
section
/-! RC6Engine -/
set_option maxRecDepth 100000
def RX2 : String := "RC6Engine"
def TX2 : u_T := fun k => match k with
  | 0 => ("RC6Engine", "_S", "[I", false)
  | _ => ("RC6Engine", "forEncryption", "Z", false)
def tyX2 : Nat → FieldType := fun k => match k with
  | 0 => .array .int
  | _ => .boolean
abbrev wsX20 : List Cond := u_ws RX2 TX2 2
theorem nmX2 : ∀ a, a < 2 → ∀ b, b < 2 → a ≠ b → (TX2 a).2.1 ≠ (TX2 b).2.1 := by decide +kernel
theorem tyX2_ok : ∀ k, k < 2 → parseFieldDescriptor (TX2 k).2.2.1 = some (tyX2 k) := by decide +kernel
abbrev cX2_init : ByteArray := prog_6_method_1_code
def yX2_init : MethodName := ⟨RX2, "<init>", "()V"⟩
def dkwX2_init_0 : List UInt8 := [42, 183, 0, 3, 42, 1, 181, 0, 9, 177]
abbrev dktX2_init_0 : List UInt8 := dkwX2_init_0 ++ []
theorem dksX2_init_0 : cX2_init.data.toList.drop 0 = dktX2_init_0 := by decide +kernel
theorem dX2_init_0 : decode cX2_init 0 = .ok (.aload_n 0, 1) := dk_42 (dk_at dksX2_init_0 0 rfl rfl)
theorem dX2_init_1 : decode cX2_init 1 = .ok (.invokespecial 3, 3) := dk_183 0 3 (dk_at dksX2_init_0 1 rfl rfl)
theorem dX2_init_4 : decode cX2_init 4 = .ok (.aload_n 0, 1) := dk_42 (dk_at dksX2_init_0 4 rfl rfl)
theorem dX2_init_5 : decode cX2_init 5 = .ok (.aconst_null, 1) := dk_1 (dk_at dksX2_init_0 5 rfl rfl)
theorem dX2_init_6 : decode cX2_init 6 = .ok (.putfield 9, 3) := dk_181 0 9 (dk_at dksX2_init_0 6 rfl rfl)
theorem dX2_init_9 : decode cX2_init 9 = .ok (.return_, 1) := dk_177 (dk_at dksX2_init_0 9 rfl rfl)
abbrev cX2_init_2 : ByteArray := prog_6_method_3_code
def yX2_init_2 : MethodName := ⟨RX2, "init", "(ZLCipherParameters;)V"⟩
def dkwX2_init_2_1 : List UInt8 := [181, 0, 22, 45, 182, 0, 26, 58, 4, 42, 25, 4, 182, 0, 30, 177]
abbrev dktX2_init_2_1 : List UInt8 := dkwX2_init_2_1 ++ []
def dkwX2_init_2_0 : List UInt8 := [44, 193, 0, 13, 154, 0, 13, 187, 0, 15, 89, 18, 17, 183, 0, 19, 191, 44, 192, 0, 13, 78, 42, 27]
abbrev dktX2_init_2_0 : List UInt8 := dkwX2_init_2_0 ++ dktX2_init_2_1
theorem dksX2_init_2_0 : cX2_init_2.data.toList.drop 0 = dktX2_init_2_0 := by decide +kernel
theorem dksX2_init_2_1 : cX2_init_2.data.toList.drop 24 = dktX2_init_2_1 := dk_seg dksX2_init_2_0 24 rfl rfl
theorem dX2_init_2_0 : decode cX2_init_2 0 = .ok (.aload_n 2, 1) := dk_44 (dk_at dksX2_init_2_0 0 rfl rfl)
theorem dX2_init_2_1 : decode cX2_init_2 1 = .ok (.instanceof 13, 3) := dk_193 0 13 (dk_at dksX2_init_2_0 1 rfl rfl)
theorem dX2_init_2_4 : decode cX2_init_2 4 = .ok (.ifCond .ne 13, 3) := dk_154 0 13 (dk_at dksX2_init_2_0 4 rfl rfl)
theorem dX2_init_2_7 : decode cX2_init_2 7 = .ok (.new 15, 3) := dk_187 0 15 (dk_at dksX2_init_2_0 7 rfl rfl)
theorem dX2_init_2_10 : decode cX2_init_2 10 = .ok (.dup, 1) := dk_89 (dk_at dksX2_init_2_0 10 rfl rfl)
theorem dX2_init_2_11 : decode cX2_init_2 11 = .ok (.ldc 17, 2) := dk_18 17 (dk_at dksX2_init_2_0 11 rfl rfl)
theorem dX2_init_2_13 : decode cX2_init_2 13 = .ok (.invokespecial 19, 3) := dk_183 0 19 (dk_at dksX2_init_2_0 13 rfl rfl)
theorem dX2_init_2_16 : decode cX2_init_2 16 = .ok (.athrow, 1) := dk_191 (dk_at dksX2_init_2_0 16 rfl rfl)
theorem dX2_init_2_17 : decode cX2_init_2 17 = .ok (.aload_n 2, 1) := dk_44 (dk_at dksX2_init_2_0 17 rfl rfl)
theorem dX2_init_2_18 : decode cX2_init_2 18 = .ok (.checkcast 13, 3) := dk_192 0 13 (dk_at dksX2_init_2_0 18 rfl rfl)
theorem dX2_init_2_21 : decode cX2_init_2 21 = .ok (.astore_n 3, 1) := dk_78 (dk_at dksX2_init_2_0 21 rfl rfl)
theorem dX2_init_2_22 : decode cX2_init_2 22 = .ok (.aload_n 0, 1) := dk_42 (dk_at dksX2_init_2_0 22 rfl rfl)
theorem dX2_init_2_23 : decode cX2_init_2 23 = .ok (.iload_n 1, 1) := dk_27 (dk_at dksX2_init_2_0 23 rfl rfl)
theorem dX2_init_2_24 : decode cX2_init_2 24 = .ok (.putfield 22, 3) := dk_181 0 22 (dk_at dksX2_init_2_1 0 rfl rfl)
theorem dX2_init_2_27 : decode cX2_init_2 27 = .ok (.aload_n 3, 1) := dk_45 (dk_at dksX2_init_2_1 3 rfl rfl)
theorem dX2_init_2_28 : decode cX2_init_2 28 = .ok (.invokevirtual 26, 3) := dk_182 0 26 (dk_at dksX2_init_2_1 4 rfl rfl)
theorem dX2_init_2_31 : decode cX2_init_2 31 = .ok (.astore 4, 2) := dk_58 4 (dk_at dksX2_init_2_1 7 rfl rfl)
theorem dX2_init_2_33 : decode cX2_init_2 33 = .ok (.aload_n 0, 1) := dk_42 (dk_at dksX2_init_2_1 9 rfl rfl)
theorem dX2_init_2_34 : decode cX2_init_2 34 = .ok (.aload 4, 2) := dk_25 4 (dk_at dksX2_init_2_1 10 rfl rfl)
theorem dX2_init_2_36 : decode cX2_init_2 36 = .ok (.invokevirtual 30, 3) := dk_182 0 30 (dk_at dksX2_init_2_1 12 rfl rfl)
theorem dX2_init_2_39 : decode cX2_init_2 39 = .ok (.return_, 1) := dk_177 (dk_at dksX2_init_2_1 15 rfl rfl)
abbrev cX2_setKey : ByteArray := prog_6_method_5_code
def yX2_setKey : MethodName := ⟨RX2, "setKey", "([B)V"⟩
def dkwX2_setKey_10 : List UInt8 := [21, 8, 4, 96, 45, 190, 112, 54, 8, 132, 9, 1, 167, 255, 171, 177]
abbrev dktX2_setKey_10 : List UInt8 := dkwX2_setKey_10 ++ []
def dkwX2_setKey_9 : List UInt8 := [21, 5, 21, 6, 96, 182, 0, 62, 91, 79, 54, 6, 21, 7, 4, 96, 42, 180, 0, 9, 190, 112, 54, 7]
abbrev dktX2_setKey_9 : List UInt8 := dkwX2_setKey_9 ++ dktX2_setKey_10
def dkwX2_setKey_8 : List UInt8 := [96, 6, 182, 0, 62, 91, 79, 54, 5, 45, 21, 8, 42, 45, 21, 8, 46, 21, 5, 96, 21, 6, 96]
abbrev dktX2_setKey_8 : List UInt8 := dkwX2_setKey_8 ++ dktX2_setKey_9
def dkwX2_setKey_7 : List UInt8 := [21, 4, 162, 0, 84, 42, 180, 0, 9, 21, 7, 42, 42, 180, 0, 9, 21, 7, 46, 21, 5, 96, 21, 6]
abbrev dktX2_setKey_7 : List UInt8 := dkwX2_setKey_7 ++ dktX2_setKey_8
def dkwX2_setKey_6 : List UInt8 := [180, 0, 9, 190, 104, 54, 4, 3, 54, 5, 3, 54, 6, 3, 54, 7, 3, 54, 8, 3, 54, 9, 21, 9]
abbrev dktX2_setKey_6 : List UInt8 := dkwX2_setKey_6 ++ dktX2_setKey_7
def dkwX2_setKey_5 : List UInt8 := [167, 255, 224, 45, 190, 42, 180, 0, 9, 190, 164, 0, 12, 6, 45, 190, 104, 54, 4, 167, 0, 12, 6, 42]
abbrev dktX2_setKey_5 : List UInt8 := dkwX2_setKey_5 ++ dktX2_setKey_6
def dkwX2_setKey_4 : List UInt8 := [42, 180, 0, 9, 21, 4, 42, 180, 0, 9, 21, 4, 4, 100, 46, 18, 61, 96, 79, 132, 4, 1]
abbrev dktX2_setKey_4 : List UInt8 := dkwX2_setKey_4 ++ dktX2_setKey_5
def dkwX2_setKey_3 : List UInt8 := [181, 0, 9, 42, 180, 0, 9, 3, 18, 60, 79, 4, 54, 4, 21, 4, 42, 180, 0, 9, 190, 162, 0, 28]
abbrev dktX2_setKey_3 : List UInt8 := dkwX2_setKey_3 ++ dktX2_setKey_4
def dkwX2_setKey_2 : List UInt8 := [120, 43, 21, 4, 51, 17, 0, 255, 126, 96, 79, 132, 4, 255, 167, 255, 224, 42, 16, 44, 188, 10]
abbrev dktX2_setKey_2 : List UInt8 := dkwX2_setKey_2 ++ dktX2_setKey_3
def dkwX2_setKey_1 : List UInt8 := [43, 190, 4, 100, 54, 4, 21, 4, 155, 0, 33, 45, 21, 4, 7, 108, 45, 21, 4, 7, 108, 46, 16, 8]
abbrev dktX2_setKey_1 : List UInt8 := dkwX2_setKey_1 ++ dktX2_setKey_2
def dkwX2_setKey_0 : List UInt8 := [43, 190, 6, 96, 7, 108, 61, 28, 154, 0, 5, 4, 61, 43, 190, 7, 96, 4, 100, 7, 108, 188, 10, 78]
abbrev dktX2_setKey_0 : List UInt8 := dkwX2_setKey_0 ++ dktX2_setKey_1
theorem dksX2_setKey_0 : cX2_setKey.data.toList.drop 0 = dktX2_setKey_0 := by decide +kernel
theorem dksX2_setKey_1 : cX2_setKey.data.toList.drop 24 = dktX2_setKey_1 := dk_seg dksX2_setKey_0 24 rfl rfl
theorem dksX2_setKey_2 : cX2_setKey.data.toList.drop 48 = dktX2_setKey_2 := dk_seg dksX2_setKey_1 24 rfl rfl
theorem dksX2_setKey_3 : cX2_setKey.data.toList.drop 70 = dktX2_setKey_3 := dk_seg dksX2_setKey_2 22 rfl rfl
theorem dksX2_setKey_4 : cX2_setKey.data.toList.drop 94 = dktX2_setKey_4 := dk_seg dksX2_setKey_3 24 rfl rfl
theorem dksX2_setKey_5 : cX2_setKey.data.toList.drop 116 = dktX2_setKey_5 := dk_seg dksX2_setKey_4 22 rfl rfl
theorem dksX2_setKey_6 : cX2_setKey.data.toList.drop 140 = dktX2_setKey_6 := dk_seg dksX2_setKey_5 24 rfl rfl
theorem dksX2_setKey_7 : cX2_setKey.data.toList.drop 164 = dktX2_setKey_7 := dk_seg dksX2_setKey_6 24 rfl rfl
theorem dksX2_setKey_8 : cX2_setKey.data.toList.drop 188 = dktX2_setKey_8 := dk_seg dksX2_setKey_7 24 rfl rfl
theorem dksX2_setKey_9 : cX2_setKey.data.toList.drop 211 = dktX2_setKey_9 := dk_seg dksX2_setKey_8 23 rfl rfl
theorem dksX2_setKey_10 : cX2_setKey.data.toList.drop 235 = dktX2_setKey_10 := dk_seg dksX2_setKey_9 24 rfl rfl
theorem dX2_setKey_0 : decode cX2_setKey 0 = .ok (.aload_n 1, 1) := dk_43 (dk_at dksX2_setKey_0 0 rfl rfl)
theorem dX2_setKey_1 : decode cX2_setKey 1 = .ok (.arraylength, 1) := dk_190 (dk_at dksX2_setKey_0 1 rfl rfl)
theorem dX2_setKey_2 : decode cX2_setKey 2 = .ok (.iconst 3, 1) := dk_6 (dk_at dksX2_setKey_0 2 rfl rfl)
theorem dX2_setKey_3 : decode cX2_setKey 3 = .ok (.iadd, 1) := dk_96 (dk_at dksX2_setKey_0 3 rfl rfl)
theorem dX2_setKey_4 : decode cX2_setKey 4 = .ok (.iconst 4, 1) := dk_7 (dk_at dksX2_setKey_0 4 rfl rfl)
theorem dX2_setKey_5 : decode cX2_setKey 5 = .ok (.idiv, 1) := dk_108 (dk_at dksX2_setKey_0 5 rfl rfl)
theorem dX2_setKey_6 : decode cX2_setKey 6 = .ok (.istore_n 2, 1) := dk_61 (dk_at dksX2_setKey_0 6 rfl rfl)
theorem dX2_setKey_7 : decode cX2_setKey 7 = .ok (.iload_n 2, 1) := dk_28 (dk_at dksX2_setKey_0 7 rfl rfl)
theorem dX2_setKey_8 : decode cX2_setKey 8 = .ok (.ifCond .ne 5, 3) := dk_154 0 5 (dk_at dksX2_setKey_0 8 rfl rfl)
theorem dX2_setKey_11 : decode cX2_setKey 11 = .ok (.iconst 1, 1) := dk_4 (dk_at dksX2_setKey_0 11 rfl rfl)
theorem dX2_setKey_12 : decode cX2_setKey 12 = .ok (.istore_n 2, 1) := dk_61 (dk_at dksX2_setKey_0 12 rfl rfl)
theorem dX2_setKey_13 : decode cX2_setKey 13 = .ok (.aload_n 1, 1) := dk_43 (dk_at dksX2_setKey_0 13 rfl rfl)
theorem dX2_setKey_14 : decode cX2_setKey 14 = .ok (.arraylength, 1) := dk_190 (dk_at dksX2_setKey_0 14 rfl rfl)
theorem dX2_setKey_15 : decode cX2_setKey 15 = .ok (.iconst 4, 1) := dk_7 (dk_at dksX2_setKey_0 15 rfl rfl)
theorem dX2_setKey_16 : decode cX2_setKey 16 = .ok (.iadd, 1) := dk_96 (dk_at dksX2_setKey_0 16 rfl rfl)
theorem dX2_setKey_17 : decode cX2_setKey 17 = .ok (.iconst 1, 1) := dk_4 (dk_at dksX2_setKey_0 17 rfl rfl)
theorem dX2_setKey_18 : decode cX2_setKey 18 = .ok (.isub, 1) := dk_100 (dk_at dksX2_setKey_0 18 rfl rfl)
theorem dX2_setKey_19 : decode cX2_setKey 19 = .ok (.iconst 4, 1) := dk_7 (dk_at dksX2_setKey_0 19 rfl rfl)
theorem dX2_setKey_20 : decode cX2_setKey 20 = .ok (.idiv, 1) := dk_108 (dk_at dksX2_setKey_0 20 rfl rfl)
theorem dX2_setKey_21 : decode cX2_setKey 21 = .ok (.newarray .int, 2) := dk_188_10 (dk_at dksX2_setKey_0 21 rfl rfl)
theorem dX2_setKey_23 : decode cX2_setKey 23 = .ok (.astore_n 3, 1) := dk_78 (dk_at dksX2_setKey_0 23 rfl rfl)
theorem dX2_setKey_24 : decode cX2_setKey 24 = .ok (.aload_n 1, 1) := dk_43 (dk_at dksX2_setKey_1 0 rfl rfl)
theorem dX2_setKey_25 : decode cX2_setKey 25 = .ok (.arraylength, 1) := dk_190 (dk_at dksX2_setKey_1 1 rfl rfl)
theorem dX2_setKey_26 : decode cX2_setKey 26 = .ok (.iconst 1, 1) := dk_4 (dk_at dksX2_setKey_1 2 rfl rfl)
theorem dX2_setKey_27 : decode cX2_setKey 27 = .ok (.isub, 1) := dk_100 (dk_at dksX2_setKey_1 3 rfl rfl)
theorem dX2_setKey_28 : decode cX2_setKey 28 = .ok (.istore 4, 2) := dk_54 4 (dk_at dksX2_setKey_1 4 rfl rfl)
theorem dX2_setKey_30 : decode cX2_setKey 30 = .ok (.iload 4, 2) := dk_21 4 (dk_at dksX2_setKey_1 6 rfl rfl)
theorem dX2_setKey_32 : decode cX2_setKey 32 = .ok (.ifCond .lt 33, 3) := dk_155 0 33 (dk_at dksX2_setKey_1 8 rfl rfl)
theorem dX2_setKey_35 : decode cX2_setKey 35 = .ok (.aload_n 3, 1) := dk_45 (dk_at dksX2_setKey_1 11 rfl rfl)
theorem dX2_setKey_36 : decode cX2_setKey 36 = .ok (.iload 4, 2) := dk_21 4 (dk_at dksX2_setKey_1 12 rfl rfl)
theorem dX2_setKey_38 : decode cX2_setKey 38 = .ok (.iconst 4, 1) := dk_7 (dk_at dksX2_setKey_1 14 rfl rfl)
theorem dX2_setKey_39 : decode cX2_setKey 39 = .ok (.idiv, 1) := dk_108 (dk_at dksX2_setKey_1 15 rfl rfl)
theorem dX2_setKey_40 : decode cX2_setKey 40 = .ok (.aload_n 3, 1) := dk_45 (dk_at dksX2_setKey_1 16 rfl rfl)
theorem dX2_setKey_41 : decode cX2_setKey 41 = .ok (.iload 4, 2) := dk_21 4 (dk_at dksX2_setKey_1 17 rfl rfl)
theorem dX2_setKey_43 : decode cX2_setKey 43 = .ok (.iconst 4, 1) := dk_7 (dk_at dksX2_setKey_1 19 rfl rfl)
theorem dX2_setKey_44 : decode cX2_setKey 44 = .ok (.idiv, 1) := dk_108 (dk_at dksX2_setKey_1 20 rfl rfl)
theorem dX2_setKey_45 : decode cX2_setKey 45 = .ok (.iaload, 1) := dk_46 (dk_at dksX2_setKey_1 21 rfl rfl)
theorem dX2_setKey_46 : decode cX2_setKey 46 = .ok (.bipush 8, 2) := dk_16 8 (dk_at dksX2_setKey_1 22 rfl rfl)
theorem dX2_setKey_48 : decode cX2_setKey 48 = .ok (.ishl, 1) := dk_120 (dk_at dksX2_setKey_2 0 rfl rfl)
theorem dX2_setKey_49 : decode cX2_setKey 49 = .ok (.aload_n 1, 1) := dk_43 (dk_at dksX2_setKey_2 1 rfl rfl)
theorem dX2_setKey_50 : decode cX2_setKey 50 = .ok (.iload 4, 2) := dk_21 4 (dk_at dksX2_setKey_2 2 rfl rfl)
theorem dX2_setKey_52 : decode cX2_setKey 52 = .ok (.baload, 1) := dk_51 (dk_at dksX2_setKey_2 4 rfl rfl)
theorem dX2_setKey_53 : decode cX2_setKey 53 = .ok (.sipush 255, 3) := dk_17 0 255 (dk_at dksX2_setKey_2 5 rfl rfl)
theorem dX2_setKey_56 : decode cX2_setKey 56 = .ok (.iand, 1) := dk_126 (dk_at dksX2_setKey_2 8 rfl rfl)
theorem dX2_setKey_57 : decode cX2_setKey 57 = .ok (.iadd, 1) := dk_96 (dk_at dksX2_setKey_2 9 rfl rfl)
theorem dX2_setKey_58 : decode cX2_setKey 58 = .ok (.iastore, 1) := dk_79 (dk_at dksX2_setKey_2 10 rfl rfl)
theorem dX2_setKey_59 : decode cX2_setKey 59 = .ok (.iinc 4 (-1), 3) := dk_132 4 255 (dk_at dksX2_setKey_2 11 rfl rfl)
theorem dX2_setKey_62 : decode cX2_setKey 62 = .ok (.goto (-32), 3) := dk_167 255 224 (dk_at dksX2_setKey_2 14 rfl rfl)
theorem dX2_setKey_65 : decode cX2_setKey 65 = .ok (.aload_n 0, 1) := dk_42 (dk_at dksX2_setKey_2 17 rfl rfl)
theorem dX2_setKey_66 : decode cX2_setKey 66 = .ok (.bipush 44, 2) := dk_16 44 (dk_at dksX2_setKey_2 18 rfl rfl)
theorem dX2_setKey_68 : decode cX2_setKey 68 = .ok (.newarray .int, 2) := dk_188_10 (dk_at dksX2_setKey_2 20 rfl rfl)
theorem dX2_setKey_70 : decode cX2_setKey 70 = .ok (.putfield 9, 3) := dk_181 0 9 (dk_at dksX2_setKey_3 0 rfl rfl)
theorem dX2_setKey_73 : decode cX2_setKey 73 = .ok (.aload_n 0, 1) := dk_42 (dk_at dksX2_setKey_3 3 rfl rfl)
theorem dX2_setKey_74 : decode cX2_setKey 74 = .ok (.getfield 9, 3) := dk_180 0 9 (dk_at dksX2_setKey_3 4 rfl rfl)
theorem dX2_setKey_77 : decode cX2_setKey 77 = .ok (.iconst 0, 1) := dk_3 (dk_at dksX2_setKey_3 7 rfl rfl)
theorem dX2_setKey_78 : decode cX2_setKey 78 = .ok (.ldc 60, 2) := dk_18 60 (dk_at dksX2_setKey_3 8 rfl rfl)
theorem dX2_setKey_80 : decode cX2_setKey 80 = .ok (.iastore, 1) := dk_79 (dk_at dksX2_setKey_3 10 rfl rfl)
theorem dX2_setKey_81 : decode cX2_setKey 81 = .ok (.iconst 1, 1) := dk_4 (dk_at dksX2_setKey_3 11 rfl rfl)
theorem dX2_setKey_82 : decode cX2_setKey 82 = .ok (.istore 4, 2) := dk_54 4 (dk_at dksX2_setKey_3 12 rfl rfl)
theorem dX2_setKey_84 : decode cX2_setKey 84 = .ok (.iload 4, 2) := dk_21 4 (dk_at dksX2_setKey_3 14 rfl rfl)
theorem dX2_setKey_86 : decode cX2_setKey 86 = .ok (.aload_n 0, 1) := dk_42 (dk_at dksX2_setKey_3 16 rfl rfl)
theorem dX2_setKey_87 : decode cX2_setKey 87 = .ok (.getfield 9, 3) := dk_180 0 9 (dk_at dksX2_setKey_3 17 rfl rfl)
theorem dX2_setKey_90 : decode cX2_setKey 90 = .ok (.arraylength, 1) := dk_190 (dk_at dksX2_setKey_3 20 rfl rfl)
theorem dX2_setKey_91 : decode cX2_setKey 91 = .ok (.if_icmp .ge 28, 3) := dk_162 0 28 (dk_at dksX2_setKey_3 21 rfl rfl)
theorem dX2_setKey_94 : decode cX2_setKey 94 = .ok (.aload_n 0, 1) := dk_42 (dk_at dksX2_setKey_4 0 rfl rfl)
theorem dX2_setKey_95 : decode cX2_setKey 95 = .ok (.getfield 9, 3) := dk_180 0 9 (dk_at dksX2_setKey_4 1 rfl rfl)
theorem dX2_setKey_98 : decode cX2_setKey 98 = .ok (.iload 4, 2) := dk_21 4 (dk_at dksX2_setKey_4 4 rfl rfl)
theorem dX2_setKey_100 : decode cX2_setKey 100 = .ok (.aload_n 0, 1) := dk_42 (dk_at dksX2_setKey_4 6 rfl rfl)
theorem dX2_setKey_101 : decode cX2_setKey 101 = .ok (.getfield 9, 3) := dk_180 0 9 (dk_at dksX2_setKey_4 7 rfl rfl)
theorem dX2_setKey_104 : decode cX2_setKey 104 = .ok (.iload 4, 2) := dk_21 4 (dk_at dksX2_setKey_4 10 rfl rfl)
theorem dX2_setKey_106 : decode cX2_setKey 106 = .ok (.iconst 1, 1) := dk_4 (dk_at dksX2_setKey_4 12 rfl rfl)
theorem dX2_setKey_107 : decode cX2_setKey 107 = .ok (.isub, 1) := dk_100 (dk_at dksX2_setKey_4 13 rfl rfl)
theorem dX2_setKey_108 : decode cX2_setKey 108 = .ok (.iaload, 1) := dk_46 (dk_at dksX2_setKey_4 14 rfl rfl)
theorem dX2_setKey_109 : decode cX2_setKey 109 = .ok (.ldc 61, 2) := dk_18 61 (dk_at dksX2_setKey_4 15 rfl rfl)
theorem dX2_setKey_111 : decode cX2_setKey 111 = .ok (.iadd, 1) := dk_96 (dk_at dksX2_setKey_4 17 rfl rfl)
theorem dX2_setKey_112 : decode cX2_setKey 112 = .ok (.iastore, 1) := dk_79 (dk_at dksX2_setKey_4 18 rfl rfl)
theorem dX2_setKey_113 : decode cX2_setKey 113 = .ok (.iinc 4 1, 3) := dk_132 4 1 (dk_at dksX2_setKey_4 19 rfl rfl)
theorem dX2_setKey_116 : decode cX2_setKey 116 = .ok (.goto (-32), 3) := dk_167 255 224 (dk_at dksX2_setKey_5 0 rfl rfl)
theorem dX2_setKey_119 : decode cX2_setKey 119 = .ok (.aload_n 3, 1) := dk_45 (dk_at dksX2_setKey_5 3 rfl rfl)
theorem dX2_setKey_120 : decode cX2_setKey 120 = .ok (.arraylength, 1) := dk_190 (dk_at dksX2_setKey_5 4 rfl rfl)
theorem dX2_setKey_121 : decode cX2_setKey 121 = .ok (.aload_n 0, 1) := dk_42 (dk_at dksX2_setKey_5 5 rfl rfl)
theorem dX2_setKey_122 : decode cX2_setKey 122 = .ok (.getfield 9, 3) := dk_180 0 9 (dk_at dksX2_setKey_5 6 rfl rfl)
theorem dX2_setKey_125 : decode cX2_setKey 125 = .ok (.arraylength, 1) := dk_190 (dk_at dksX2_setKey_5 9 rfl rfl)
theorem dX2_setKey_126 : decode cX2_setKey 126 = .ok (.if_icmp .le 12, 3) := dk_164 0 12 (dk_at dksX2_setKey_5 10 rfl rfl)
theorem dX2_setKey_129 : decode cX2_setKey 129 = .ok (.iconst 3, 1) := dk_6 (dk_at dksX2_setKey_5 13 rfl rfl)
theorem dX2_setKey_130 : decode cX2_setKey 130 = .ok (.aload_n 3, 1) := dk_45 (dk_at dksX2_setKey_5 14 rfl rfl)
theorem dX2_setKey_131 : decode cX2_setKey 131 = .ok (.arraylength, 1) := dk_190 (dk_at dksX2_setKey_5 15 rfl rfl)
theorem dX2_setKey_132 : decode cX2_setKey 132 = .ok (.imul, 1) := dk_104 (dk_at dksX2_setKey_5 16 rfl rfl)
theorem dX2_setKey_133 : decode cX2_setKey 133 = .ok (.istore 4, 2) := dk_54 4 (dk_at dksX2_setKey_5 17 rfl rfl)
theorem dX2_setKey_135 : decode cX2_setKey 135 = .ok (.goto 12, 3) := dk_167 0 12 (dk_at dksX2_setKey_5 19 rfl rfl)
theorem dX2_setKey_138 : decode cX2_setKey 138 = .ok (.iconst 3, 1) := dk_6 (dk_at dksX2_setKey_5 22 rfl rfl)
theorem dX2_setKey_139 : decode cX2_setKey 139 = .ok (.aload_n 0, 1) := dk_42 (dk_at dksX2_setKey_5 23 rfl rfl)
theorem dX2_setKey_140 : decode cX2_setKey 140 = .ok (.getfield 9, 3) := dk_180 0 9 (dk_at dksX2_setKey_6 0 rfl rfl)
theorem dX2_setKey_143 : decode cX2_setKey 143 = .ok (.arraylength, 1) := dk_190 (dk_at dksX2_setKey_6 3 rfl rfl)
theorem dX2_setKey_144 : decode cX2_setKey 144 = .ok (.imul, 1) := dk_104 (dk_at dksX2_setKey_6 4 rfl rfl)
theorem dX2_setKey_145 : decode cX2_setKey 145 = .ok (.istore 4, 2) := dk_54 4 (dk_at dksX2_setKey_6 5 rfl rfl)
theorem dX2_setKey_147 : decode cX2_setKey 147 = .ok (.iconst 0, 1) := dk_3 (dk_at dksX2_setKey_6 7 rfl rfl)
theorem dX2_setKey_148 : decode cX2_setKey 148 = .ok (.istore 5, 2) := dk_54 5 (dk_at dksX2_setKey_6 8 rfl rfl)
theorem dX2_setKey_150 : decode cX2_setKey 150 = .ok (.iconst 0, 1) := dk_3 (dk_at dksX2_setKey_6 10 rfl rfl)
theorem dX2_setKey_151 : decode cX2_setKey 151 = .ok (.istore 6, 2) := dk_54 6 (dk_at dksX2_setKey_6 11 rfl rfl)
theorem dX2_setKey_153 : decode cX2_setKey 153 = .ok (.iconst 0, 1) := dk_3 (dk_at dksX2_setKey_6 13 rfl rfl)
theorem dX2_setKey_154 : decode cX2_setKey 154 = .ok (.istore 7, 2) := dk_54 7 (dk_at dksX2_setKey_6 14 rfl rfl)
theorem dX2_setKey_156 : decode cX2_setKey 156 = .ok (.iconst 0, 1) := dk_3 (dk_at dksX2_setKey_6 16 rfl rfl)
theorem dX2_setKey_157 : decode cX2_setKey 157 = .ok (.istore 8, 2) := dk_54 8 (dk_at dksX2_setKey_6 17 rfl rfl)
theorem dX2_setKey_159 : decode cX2_setKey 159 = .ok (.iconst 0, 1) := dk_3 (dk_at dksX2_setKey_6 19 rfl rfl)
theorem dX2_setKey_160 : decode cX2_setKey 160 = .ok (.istore 9, 2) := dk_54 9 (dk_at dksX2_setKey_6 20 rfl rfl)
theorem dX2_setKey_162 : decode cX2_setKey 162 = .ok (.iload 9, 2) := dk_21 9 (dk_at dksX2_setKey_6 22 rfl rfl)
theorem dX2_setKey_164 : decode cX2_setKey 164 = .ok (.iload 4, 2) := dk_21 4 (dk_at dksX2_setKey_7 0 rfl rfl)
theorem dX2_setKey_166 : decode cX2_setKey 166 = .ok (.if_icmp .ge 84, 3) := dk_162 0 84 (dk_at dksX2_setKey_7 2 rfl rfl)
theorem dX2_setKey_169 : decode cX2_setKey 169 = .ok (.aload_n 0, 1) := dk_42 (dk_at dksX2_setKey_7 5 rfl rfl)
theorem dX2_setKey_170 : decode cX2_setKey 170 = .ok (.getfield 9, 3) := dk_180 0 9 (dk_at dksX2_setKey_7 6 rfl rfl)
theorem dX2_setKey_173 : decode cX2_setKey 173 = .ok (.iload 7, 2) := dk_21 7 (dk_at dksX2_setKey_7 9 rfl rfl)
theorem dX2_setKey_175 : decode cX2_setKey 175 = .ok (.aload_n 0, 1) := dk_42 (dk_at dksX2_setKey_7 11 rfl rfl)
theorem dX2_setKey_176 : decode cX2_setKey 176 = .ok (.aload_n 0, 1) := dk_42 (dk_at dksX2_setKey_7 12 rfl rfl)
theorem dX2_setKey_177 : decode cX2_setKey 177 = .ok (.getfield 9, 3) := dk_180 0 9 (dk_at dksX2_setKey_7 13 rfl rfl)
theorem dX2_setKey_180 : decode cX2_setKey 180 = .ok (.iload 7, 2) := dk_21 7 (dk_at dksX2_setKey_7 16 rfl rfl)
theorem dX2_setKey_182 : decode cX2_setKey 182 = .ok (.iaload, 1) := dk_46 (dk_at dksX2_setKey_7 18 rfl rfl)
theorem dX2_setKey_183 : decode cX2_setKey 183 = .ok (.iload 5, 2) := dk_21 5 (dk_at dksX2_setKey_7 19 rfl rfl)
theorem dX2_setKey_185 : decode cX2_setKey 185 = .ok (.iadd, 1) := dk_96 (dk_at dksX2_setKey_7 21 rfl rfl)
theorem dX2_setKey_186 : decode cX2_setKey 186 = .ok (.iload 6, 2) := dk_21 6 (dk_at dksX2_setKey_7 22 rfl rfl)
theorem dX2_setKey_188 : decode cX2_setKey 188 = .ok (.iadd, 1) := dk_96 (dk_at dksX2_setKey_8 0 rfl rfl)
theorem dX2_setKey_189 : decode cX2_setKey 189 = .ok (.iconst 3, 1) := dk_6 (dk_at dksX2_setKey_8 1 rfl rfl)
theorem dX2_setKey_190 : decode cX2_setKey 190 = .ok (.invokevirtual 62, 3) := dk_182 0 62 (dk_at dksX2_setKey_8 2 rfl rfl)
theorem dX2_setKey_193 : decode cX2_setKey 193 = .ok (.dup_x2, 1) := dk_91 (dk_at dksX2_setKey_8 5 rfl rfl)
theorem dX2_setKey_194 : decode cX2_setKey 194 = .ok (.iastore, 1) := dk_79 (dk_at dksX2_setKey_8 6 rfl rfl)
theorem dX2_setKey_195 : decode cX2_setKey 195 = .ok (.istore 5, 2) := dk_54 5 (dk_at dksX2_setKey_8 7 rfl rfl)
theorem dX2_setKey_197 : decode cX2_setKey 197 = .ok (.aload_n 3, 1) := dk_45 (dk_at dksX2_setKey_8 9 rfl rfl)
theorem dX2_setKey_198 : decode cX2_setKey 198 = .ok (.iload 8, 2) := dk_21 8 (dk_at dksX2_setKey_8 10 rfl rfl)
theorem dX2_setKey_200 : decode cX2_setKey 200 = .ok (.aload_n 0, 1) := dk_42 (dk_at dksX2_setKey_8 12 rfl rfl)
theorem dX2_setKey_201 : decode cX2_setKey 201 = .ok (.aload_n 3, 1) := dk_45 (dk_at dksX2_setKey_8 13 rfl rfl)
theorem dX2_setKey_202 : decode cX2_setKey 202 = .ok (.iload 8, 2) := dk_21 8 (dk_at dksX2_setKey_8 14 rfl rfl)
theorem dX2_setKey_204 : decode cX2_setKey 204 = .ok (.iaload, 1) := dk_46 (dk_at dksX2_setKey_8 16 rfl rfl)
theorem dX2_setKey_205 : decode cX2_setKey 205 = .ok (.iload 5, 2) := dk_21 5 (dk_at dksX2_setKey_8 17 rfl rfl)
theorem dX2_setKey_207 : decode cX2_setKey 207 = .ok (.iadd, 1) := dk_96 (dk_at dksX2_setKey_8 19 rfl rfl)
theorem dX2_setKey_208 : decode cX2_setKey 208 = .ok (.iload 6, 2) := dk_21 6 (dk_at dksX2_setKey_8 20 rfl rfl)
theorem dX2_setKey_210 : decode cX2_setKey 210 = .ok (.iadd, 1) := dk_96 (dk_at dksX2_setKey_8 22 rfl rfl)
theorem dX2_setKey_211 : decode cX2_setKey 211 = .ok (.iload 5, 2) := dk_21 5 (dk_at dksX2_setKey_9 0 rfl rfl)
theorem dX2_setKey_213 : decode cX2_setKey 213 = .ok (.iload 6, 2) := dk_21 6 (dk_at dksX2_setKey_9 2 rfl rfl)
theorem dX2_setKey_215 : decode cX2_setKey 215 = .ok (.iadd, 1) := dk_96 (dk_at dksX2_setKey_9 4 rfl rfl)
theorem dX2_setKey_216 : decode cX2_setKey 216 = .ok (.invokevirtual 62, 3) := dk_182 0 62 (dk_at dksX2_setKey_9 5 rfl rfl)
theorem dX2_setKey_219 : decode cX2_setKey 219 = .ok (.dup_x2, 1) := dk_91 (dk_at dksX2_setKey_9 8 rfl rfl)
theorem dX2_setKey_220 : decode cX2_setKey 220 = .ok (.iastore, 1) := dk_79 (dk_at dksX2_setKey_9 9 rfl rfl)
theorem dX2_setKey_221 : decode cX2_setKey 221 = .ok (.istore 6, 2) := dk_54 6 (dk_at dksX2_setKey_9 10 rfl rfl)
theorem dX2_setKey_223 : decode cX2_setKey 223 = .ok (.iload 7, 2) := dk_21 7 (dk_at dksX2_setKey_9 12 rfl rfl)
theorem dX2_setKey_225 : decode cX2_setKey 225 = .ok (.iconst 1, 1) := dk_4 (dk_at dksX2_setKey_9 14 rfl rfl)
theorem dX2_setKey_226 : decode cX2_setKey 226 = .ok (.iadd, 1) := dk_96 (dk_at dksX2_setKey_9 15 rfl rfl)
theorem dX2_setKey_227 : decode cX2_setKey 227 = .ok (.aload_n 0, 1) := dk_42 (dk_at dksX2_setKey_9 16 rfl rfl)
theorem dX2_setKey_228 : decode cX2_setKey 228 = .ok (.getfield 9, 3) := dk_180 0 9 (dk_at dksX2_setKey_9 17 rfl rfl)
theorem dX2_setKey_231 : decode cX2_setKey 231 = .ok (.arraylength, 1) := dk_190 (dk_at dksX2_setKey_9 20 rfl rfl)
theorem dX2_setKey_232 : decode cX2_setKey 232 = .ok (.irem, 1) := dk_112 (dk_at dksX2_setKey_9 21 rfl rfl)
theorem dX2_setKey_233 : decode cX2_setKey 233 = .ok (.istore 7, 2) := dk_54 7 (dk_at dksX2_setKey_9 22 rfl rfl)
theorem dX2_setKey_235 : decode cX2_setKey 235 = .ok (.iload 8, 2) := dk_21 8 (dk_at dksX2_setKey_10 0 rfl rfl)
theorem dX2_setKey_237 : decode cX2_setKey 237 = .ok (.iconst 1, 1) := dk_4 (dk_at dksX2_setKey_10 2 rfl rfl)
theorem dX2_setKey_238 : decode cX2_setKey 238 = .ok (.iadd, 1) := dk_96 (dk_at dksX2_setKey_10 3 rfl rfl)
theorem dX2_setKey_239 : decode cX2_setKey 239 = .ok (.aload_n 3, 1) := dk_45 (dk_at dksX2_setKey_10 4 rfl rfl)
theorem dX2_setKey_240 : decode cX2_setKey 240 = .ok (.arraylength, 1) := dk_190 (dk_at dksX2_setKey_10 5 rfl rfl)
theorem dX2_setKey_241 : decode cX2_setKey 241 = .ok (.irem, 1) := dk_112 (dk_at dksX2_setKey_10 6 rfl rfl)
theorem dX2_setKey_242 : decode cX2_setKey 242 = .ok (.istore 8, 2) := dk_54 8 (dk_at dksX2_setKey_10 7 rfl rfl)
theorem dX2_setKey_244 : decode cX2_setKey 244 = .ok (.iinc 9 1, 3) := dk_132 9 1 (dk_at dksX2_setKey_10 9 rfl rfl)
theorem dX2_setKey_247 : decode cX2_setKey 247 = .ok (.goto (-85), 3) := dk_167 255 171 (dk_at dksX2_setKey_10 12 rfl rfl)
theorem dX2_setKey_250 : decode cX2_setKey 250 = .ok (.return_, 1) := dk_177 (dk_at dksX2_setKey_10 15 rfl rfl)
abbrev cX2_rotateLeft : ByteArray := prog_6_method_8_code
def yX2_rotateLeft : MethodName := ⟨RX2, "rotateLeft", "(II)I"⟩
def dkwX2_rotateLeft_0 : List UInt8 := [27, 28, 120, 27, 28, 116, 124, 128, 172]
abbrev dktX2_rotateLeft_0 : List UInt8 := dkwX2_rotateLeft_0 ++ []
theorem dksX2_rotateLeft_0 : cX2_rotateLeft.data.toList.drop 0 = dktX2_rotateLeft_0 := by decide +kernel
theorem dX2_rotateLeft_0 : decode cX2_rotateLeft 0 = .ok (.iload_n 1, 1) := dk_27 (dk_at dksX2_rotateLeft_0 0 rfl rfl)
theorem dX2_rotateLeft_1 : decode cX2_rotateLeft 1 = .ok (.iload_n 2, 1) := dk_28 (dk_at dksX2_rotateLeft_0 1 rfl rfl)
theorem dX2_rotateLeft_2 : decode cX2_rotateLeft 2 = .ok (.ishl, 1) := dk_120 (dk_at dksX2_rotateLeft_0 2 rfl rfl)
theorem dX2_rotateLeft_3 : decode cX2_rotateLeft 3 = .ok (.iload_n 1, 1) := dk_27 (dk_at dksX2_rotateLeft_0 3 rfl rfl)
theorem dX2_rotateLeft_4 : decode cX2_rotateLeft 4 = .ok (.iload_n 2, 1) := dk_28 (dk_at dksX2_rotateLeft_0 4 rfl rfl)
theorem dX2_rotateLeft_5 : decode cX2_rotateLeft 5 = .ok (.ineg, 1) := dk_116 (dk_at dksX2_rotateLeft_0 5 rfl rfl)
theorem dX2_rotateLeft_6 : decode cX2_rotateLeft 6 = .ok (.iushr, 1) := dk_124 (dk_at dksX2_rotateLeft_0 6 rfl rfl)
theorem dX2_rotateLeft_7 : decode cX2_rotateLeft 7 = .ok (.ior, 1) := dk_128 (dk_at dksX2_rotateLeft_0 7 rfl rfl)
theorem dX2_rotateLeft_8 : decode cX2_rotateLeft 8 = .ok (.ireturn, 1) := dk_172 (dk_at dksX2_rotateLeft_0 8 rfl rfl)
abbrev cX2_processBlock : ByteArray := prog_6_method_4_code
def yX2_processBlock : MethodName := ⟨RX2, "processBlock", "([BI[BI)I"⟩
def dkwX2_processBlock_3 : List UInt8 := [45, 21, 4, 182, 0, 53, 167, 0, 12, 42, 43, 28, 45, 21, 4, 182, 0, 57, 172]
abbrev dktX2_processBlock_3 : List UInt8 := dkwX2_processBlock_3 ++ []
def dkwX2_processBlock_2 : List UInt8 := [190, 164, 0, 13, 187, 0, 48, 89, 18, 50, 183, 0, 52, 191, 42, 180, 0, 22, 153, 0, 15, 42, 43, 28]
abbrev dktX2_processBlock_2 : List UInt8 := dkwX2_processBlock_2 ++ dktX2_processBlock_3
def dkwX2_processBlock_1 : List UInt8 := [21, 5, 96, 43, 190, 164, 0, 13, 187, 0, 43, 89, 18, 45, 183, 0, 47, 191, 21, 4, 21, 5, 96, 45]
abbrev dktX2_processBlock_1 : List UInt8 := dkwX2_processBlock_1 ++ dktX2_processBlock_2
def dkwX2_processBlock_0 : List UInt8 := [42, 182, 0, 34, 54, 5, 42, 180, 0, 9, 199, 0, 13, 187, 0, 38, 89, 18, 40, 183, 0, 42, 191, 28]
abbrev dktX2_processBlock_0 : List UInt8 := dkwX2_processBlock_0 ++ dktX2_processBlock_1
theorem dksX2_processBlock_0 : cX2_processBlock.data.toList.drop 0 = dktX2_processBlock_0 := by decide +kernel
theorem dksX2_processBlock_1 : cX2_processBlock.data.toList.drop 24 = dktX2_processBlock_1 := dk_seg dksX2_processBlock_0 24 rfl rfl
theorem dksX2_processBlock_2 : cX2_processBlock.data.toList.drop 48 = dktX2_processBlock_2 := dk_seg dksX2_processBlock_1 24 rfl rfl
theorem dksX2_processBlock_3 : cX2_processBlock.data.toList.drop 72 = dktX2_processBlock_3 := dk_seg dksX2_processBlock_2 24 rfl rfl
theorem dX2_processBlock_0 : decode cX2_processBlock 0 = .ok (.aload_n 0, 1) := dk_42 (dk_at dksX2_processBlock_0 0 rfl rfl)
theorem dX2_processBlock_1 : decode cX2_processBlock 1 = .ok (.invokevirtual 34, 3) := dk_182 0 34 (dk_at dksX2_processBlock_0 1 rfl rfl)
theorem dX2_processBlock_4 : decode cX2_processBlock 4 = .ok (.istore 5, 2) := dk_54 5 (dk_at dksX2_processBlock_0 4 rfl rfl)
theorem dX2_processBlock_6 : decode cX2_processBlock 6 = .ok (.aload_n 0, 1) := dk_42 (dk_at dksX2_processBlock_0 6 rfl rfl)
theorem dX2_processBlock_7 : decode cX2_processBlock 7 = .ok (.getfield 9, 3) := dk_180 0 9 (dk_at dksX2_processBlock_0 7 rfl rfl)
theorem dX2_processBlock_10 : decode cX2_processBlock 10 = .ok (.ifnonnull 13, 3) := dk_199 0 13 (dk_at dksX2_processBlock_0 10 rfl rfl)
theorem dX2_processBlock_13 : decode cX2_processBlock 13 = .ok (.new 38, 3) := dk_187 0 38 (dk_at dksX2_processBlock_0 13 rfl rfl)
theorem dX2_processBlock_16 : decode cX2_processBlock 16 = .ok (.dup, 1) := dk_89 (dk_at dksX2_processBlock_0 16 rfl rfl)
theorem dX2_processBlock_17 : decode cX2_processBlock 17 = .ok (.ldc 40, 2) := dk_18 40 (dk_at dksX2_processBlock_0 17 rfl rfl)
theorem dX2_processBlock_19 : decode cX2_processBlock 19 = .ok (.invokespecial 42, 3) := dk_183 0 42 (dk_at dksX2_processBlock_0 19 rfl rfl)
theorem dX2_processBlock_22 : decode cX2_processBlock 22 = .ok (.athrow, 1) := dk_191 (dk_at dksX2_processBlock_0 22 rfl rfl)
theorem dX2_processBlock_23 : decode cX2_processBlock 23 = .ok (.iload_n 2, 1) := dk_28 (dk_at dksX2_processBlock_0 23 rfl rfl)
theorem dX2_processBlock_24 : decode cX2_processBlock 24 = .ok (.iload 5, 2) := dk_21 5 (dk_at dksX2_processBlock_1 0 rfl rfl)
theorem dX2_processBlock_26 : decode cX2_processBlock 26 = .ok (.iadd, 1) := dk_96 (dk_at dksX2_processBlock_1 2 rfl rfl)
theorem dX2_processBlock_27 : decode cX2_processBlock 27 = .ok (.aload_n 1, 1) := dk_43 (dk_at dksX2_processBlock_1 3 rfl rfl)
theorem dX2_processBlock_28 : decode cX2_processBlock 28 = .ok (.arraylength, 1) := dk_190 (dk_at dksX2_processBlock_1 4 rfl rfl)
theorem dX2_processBlock_29 : decode cX2_processBlock 29 = .ok (.if_icmp .le 13, 3) := dk_164 0 13 (dk_at dksX2_processBlock_1 5 rfl rfl)
theorem dX2_processBlock_32 : decode cX2_processBlock 32 = .ok (.new 43, 3) := dk_187 0 43 (dk_at dksX2_processBlock_1 8 rfl rfl)
theorem dX2_processBlock_35 : decode cX2_processBlock 35 = .ok (.dup, 1) := dk_89 (dk_at dksX2_processBlock_1 11 rfl rfl)
theorem dX2_processBlock_36 : decode cX2_processBlock 36 = .ok (.ldc 45, 2) := dk_18 45 (dk_at dksX2_processBlock_1 12 rfl rfl)
theorem dX2_processBlock_38 : decode cX2_processBlock 38 = .ok (.invokespecial 47, 3) := dk_183 0 47 (dk_at dksX2_processBlock_1 14 rfl rfl)
theorem dX2_processBlock_41 : decode cX2_processBlock 41 = .ok (.athrow, 1) := dk_191 (dk_at dksX2_processBlock_1 17 rfl rfl)
theorem dX2_processBlock_42 : decode cX2_processBlock 42 = .ok (.iload 4, 2) := dk_21 4 (dk_at dksX2_processBlock_1 18 rfl rfl)
theorem dX2_processBlock_44 : decode cX2_processBlock 44 = .ok (.iload 5, 2) := dk_21 5 (dk_at dksX2_processBlock_1 20 rfl rfl)
theorem dX2_processBlock_46 : decode cX2_processBlock 46 = .ok (.iadd, 1) := dk_96 (dk_at dksX2_processBlock_1 22 rfl rfl)
theorem dX2_processBlock_47 : decode cX2_processBlock 47 = .ok (.aload_n 3, 1) := dk_45 (dk_at dksX2_processBlock_1 23 rfl rfl)
theorem dX2_processBlock_48 : decode cX2_processBlock 48 = .ok (.arraylength, 1) := dk_190 (dk_at dksX2_processBlock_2 0 rfl rfl)
theorem dX2_processBlock_49 : decode cX2_processBlock 49 = .ok (.if_icmp .le 13, 3) := dk_164 0 13 (dk_at dksX2_processBlock_2 1 rfl rfl)
theorem dX2_processBlock_52 : decode cX2_processBlock 52 = .ok (.new 48, 3) := dk_187 0 48 (dk_at dksX2_processBlock_2 4 rfl rfl)
theorem dX2_processBlock_55 : decode cX2_processBlock 55 = .ok (.dup, 1) := dk_89 (dk_at dksX2_processBlock_2 7 rfl rfl)
theorem dX2_processBlock_56 : decode cX2_processBlock 56 = .ok (.ldc 50, 2) := dk_18 50 (dk_at dksX2_processBlock_2 8 rfl rfl)
theorem dX2_processBlock_58 : decode cX2_processBlock 58 = .ok (.invokespecial 52, 3) := dk_183 0 52 (dk_at dksX2_processBlock_2 10 rfl rfl)
theorem dX2_processBlock_61 : decode cX2_processBlock 61 = .ok (.athrow, 1) := dk_191 (dk_at dksX2_processBlock_2 13 rfl rfl)
theorem dX2_processBlock_62 : decode cX2_processBlock 62 = .ok (.aload_n 0, 1) := dk_42 (dk_at dksX2_processBlock_2 14 rfl rfl)
theorem dX2_processBlock_63 : decode cX2_processBlock 63 = .ok (.getfield 22, 3) := dk_180 0 22 (dk_at dksX2_processBlock_2 15 rfl rfl)
theorem dX2_processBlock_66 : decode cX2_processBlock 66 = .ok (.ifCond .eq 15, 3) := dk_153 0 15 (dk_at dksX2_processBlock_2 18 rfl rfl)
theorem dX2_processBlock_69 : decode cX2_processBlock 69 = .ok (.aload_n 0, 1) := dk_42 (dk_at dksX2_processBlock_2 21 rfl rfl)
theorem dX2_processBlock_70 : decode cX2_processBlock 70 = .ok (.aload_n 1, 1) := dk_43 (dk_at dksX2_processBlock_2 22 rfl rfl)
theorem dX2_processBlock_71 : decode cX2_processBlock 71 = .ok (.iload_n 2, 1) := dk_28 (dk_at dksX2_processBlock_2 23 rfl rfl)
theorem dX2_processBlock_72 : decode cX2_processBlock 72 = .ok (.aload_n 3, 1) := dk_45 (dk_at dksX2_processBlock_3 0 rfl rfl)
theorem dX2_processBlock_73 : decode cX2_processBlock 73 = .ok (.iload 4, 2) := dk_21 4 (dk_at dksX2_processBlock_3 1 rfl rfl)
theorem dX2_processBlock_75 : decode cX2_processBlock 75 = .ok (.invokevirtual 53, 3) := dk_182 0 53 (dk_at dksX2_processBlock_3 3 rfl rfl)
theorem dX2_processBlock_78 : decode cX2_processBlock 78 = .ok (.goto 12, 3) := dk_167 0 12 (dk_at dksX2_processBlock_3 6 rfl rfl)
theorem dX2_processBlock_81 : decode cX2_processBlock 81 = .ok (.aload_n 0, 1) := dk_42 (dk_at dksX2_processBlock_3 9 rfl rfl)
theorem dX2_processBlock_82 : decode cX2_processBlock 82 = .ok (.aload_n 1, 1) := dk_43 (dk_at dksX2_processBlock_3 10 rfl rfl)
theorem dX2_processBlock_83 : decode cX2_processBlock 83 = .ok (.iload_n 2, 1) := dk_28 (dk_at dksX2_processBlock_3 11 rfl rfl)
theorem dX2_processBlock_84 : decode cX2_processBlock 84 = .ok (.aload_n 3, 1) := dk_45 (dk_at dksX2_processBlock_3 12 rfl rfl)
theorem dX2_processBlock_85 : decode cX2_processBlock 85 = .ok (.iload 4, 2) := dk_21 4 (dk_at dksX2_processBlock_3 13 rfl rfl)
theorem dX2_processBlock_87 : decode cX2_processBlock 87 = .ok (.invokevirtual 57, 3) := dk_182 0 57 (dk_at dksX2_processBlock_3 15 rfl rfl)
theorem dX2_processBlock_90 : decode cX2_processBlock 90 = .ok (.ireturn, 1) := dk_172 (dk_at dksX2_processBlock_3 18 rfl rfl)
abbrev cX2_getBlockSize : ByteArray := prog_6_method_2_code
def yX2_getBlockSize : MethodName := ⟨RX2, "getBlockSize", "()I"⟩
theorem dX2_getBlockSize_0 : decode cX2_getBlockSize 0 = .ok (.bipush 16, 2) := by decide +kernel
theorem dX2_getBlockSize_2 : decode cX2_getBlockSize 2 = .ok (.ireturn, 1) := by decide +kernel
abbrev cX2_encryptBlock : ByteArray := prog_6_method_6_code
def yX2_encryptBlock : MethodName := ⟨RX2, "encryptBlock", "([BI[BI)I"⟩
def dkwX2_encryptBlock_11 : List UInt8 := [182, 0, 70, 42, 21, 8, 45, 21, 4, 16, 12, 96, 182, 0, 70, 16, 16, 172]
abbrev dktX2_encryptBlock_11 : List UInt8 := dkwX2_encryptBlock_11 ++ []
def dkwX2_encryptBlock_10 : List UInt8 := [182, 0, 70, 42, 21, 6, 45, 21, 4, 7, 96, 182, 0, 70, 42, 21, 7, 45, 21, 4, 16, 8, 96]
abbrev dktX2_encryptBlock_10 : List UInt8 := dkwX2_encryptBlock_10 ++ dktX2_encryptBlock_11
def dkwX2_encryptBlock_9 : List UInt8 := [46, 96, 54, 5, 21, 7, 42, 180, 0, 9, 16, 43, 46, 96, 54, 7, 42, 21, 5, 45, 21, 4]
abbrev dktX2_encryptBlock_9 : List UInt8 := dkwX2_encryptBlock_9 ++ dktX2_encryptBlock_10
def dkwX2_encryptBlock_8 : List UInt8 := [54, 6, 21, 8, 54, 7, 21, 12, 54, 8, 132, 9, 1, 167, 255, 116, 21, 5, 42, 180, 0, 9, 16, 42]
abbrev dktX2_encryptBlock_8 : List UInt8 := dkwX2_encryptBlock_8 ++ dktX2_encryptBlock_9
def dkwX2_encryptBlock_7 : List UInt8 := [42, 180, 0, 9, 5, 21, 9, 104, 4, 96, 46, 96, 54, 7, 21, 5, 54, 12, 21, 6, 54, 5, 21, 7]
abbrev dktX2_encryptBlock_7 : List UInt8 := dkwX2_encryptBlock_7 ++ dktX2_encryptBlock_8
def dkwX2_encryptBlock_6 : List UInt8 := [104, 46, 96, 54, 5, 21, 7, 21, 11, 130, 54, 7, 42, 21, 7, 21, 10, 182, 0, 62, 54, 7, 21, 7]
abbrev dktX2_encryptBlock_6 : List UInt8 := dkwX2_encryptBlock_6 ++ dktX2_encryptBlock_7
def dkwX2_encryptBlock_5 : List UInt8 := [21, 10, 130, 54, 5, 42, 21, 5, 21, 11, 182, 0, 62, 54, 5, 21, 5, 42, 180, 0, 9, 5, 21, 9]
abbrev dktX2_encryptBlock_5 : List UInt8 := dkwX2_encryptBlock_5 ++ dktX2_encryptBlock_6
def dkwX2_encryptBlock_4 : List UInt8 := [54, 10, 21, 8, 5, 21, 8, 104, 4, 96, 104, 54, 11, 42, 21, 11, 8, 182, 0, 62, 54, 11, 21, 5]
abbrev dktX2_encryptBlock_4 : List UInt8 := dkwX2_encryptBlock_4 ++ dktX2_encryptBlock_5
def dkwX2_encryptBlock_3 : List UInt8 := [3, 54, 10, 3, 54, 11, 21, 6, 5, 21, 6, 104, 4, 96, 104, 54, 10, 42, 21, 10, 8, 182, 0, 62]
abbrev dktX2_encryptBlock_3 : List UInt8 := dkwX2_encryptBlock_3 ++ dktX2_encryptBlock_4
def dkwX2_encryptBlock_2 : List UInt8 := [96, 54, 6, 21, 8, 42, 180, 0, 9, 4, 46, 96, 54, 8, 4, 54, 9, 21, 9, 16, 20, 163, 0, 139]
abbrev dktX2_encryptBlock_2 : List UInt8 := dkwX2_encryptBlock_2 ++ dktX2_encryptBlock_3
def dkwX2_encryptBlock_1 : List UInt8 := [182, 0, 66, 54, 7, 42, 43, 28, 16, 12, 96, 182, 0, 66, 54, 8, 21, 6, 42, 180, 0, 9, 3, 46]
abbrev dktX2_encryptBlock_1 : List UInt8 := dkwX2_encryptBlock_1 ++ dktX2_encryptBlock_2
def dkwX2_encryptBlock_0 : List UInt8 := [42, 43, 28, 182, 0, 66, 54, 5, 42, 43, 28, 7, 96, 182, 0, 66, 54, 6, 42, 43, 28, 16, 8, 96]
abbrev dktX2_encryptBlock_0 : List UInt8 := dkwX2_encryptBlock_0 ++ dktX2_encryptBlock_1
theorem dksX2_encryptBlock_0 : cX2_encryptBlock.data.toList.drop 0 = dktX2_encryptBlock_0 := by decide +kernel
theorem dksX2_encryptBlock_1 : cX2_encryptBlock.data.toList.drop 24 = dktX2_encryptBlock_1 := dk_seg dksX2_encryptBlock_0 24 rfl rfl
theorem dksX2_encryptBlock_2 : cX2_encryptBlock.data.toList.drop 48 = dktX2_encryptBlock_2 := dk_seg dksX2_encryptBlock_1 24 rfl rfl
theorem dksX2_encryptBlock_3 : cX2_encryptBlock.data.toList.drop 72 = dktX2_encryptBlock_3 := dk_seg dksX2_encryptBlock_2 24 rfl rfl
theorem dksX2_encryptBlock_4 : cX2_encryptBlock.data.toList.drop 96 = dktX2_encryptBlock_4 := dk_seg dksX2_encryptBlock_3 24 rfl rfl
theorem dksX2_encryptBlock_5 : cX2_encryptBlock.data.toList.drop 120 = dktX2_encryptBlock_5 := dk_seg dksX2_encryptBlock_4 24 rfl rfl
theorem dksX2_encryptBlock_6 : cX2_encryptBlock.data.toList.drop 144 = dktX2_encryptBlock_6 := dk_seg dksX2_encryptBlock_5 24 rfl rfl
theorem dksX2_encryptBlock_7 : cX2_encryptBlock.data.toList.drop 168 = dktX2_encryptBlock_7 := dk_seg dksX2_encryptBlock_6 24 rfl rfl
theorem dksX2_encryptBlock_8 : cX2_encryptBlock.data.toList.drop 192 = dktX2_encryptBlock_8 := dk_seg dksX2_encryptBlock_7 24 rfl rfl
theorem dksX2_encryptBlock_9 : cX2_encryptBlock.data.toList.drop 216 = dktX2_encryptBlock_9 := dk_seg dksX2_encryptBlock_8 24 rfl rfl
theorem dksX2_encryptBlock_10 : cX2_encryptBlock.data.toList.drop 238 = dktX2_encryptBlock_10 := dk_seg dksX2_encryptBlock_9 22 rfl rfl
theorem dksX2_encryptBlock_11 : cX2_encryptBlock.data.toList.drop 261 = dktX2_encryptBlock_11 := dk_seg dksX2_encryptBlock_10 23 rfl rfl
theorem dX2_encryptBlock_0 : decode cX2_encryptBlock 0 = .ok (.aload_n 0, 1) := dk_42 (dk_at dksX2_encryptBlock_0 0 rfl rfl)
theorem dX2_encryptBlock_1 : decode cX2_encryptBlock 1 = .ok (.aload_n 1, 1) := dk_43 (dk_at dksX2_encryptBlock_0 1 rfl rfl)
theorem dX2_encryptBlock_2 : decode cX2_encryptBlock 2 = .ok (.iload_n 2, 1) := dk_28 (dk_at dksX2_encryptBlock_0 2 rfl rfl)
theorem dX2_encryptBlock_3 : decode cX2_encryptBlock 3 = .ok (.invokevirtual 66, 3) := dk_182 0 66 (dk_at dksX2_encryptBlock_0 3 rfl rfl)
theorem dX2_encryptBlock_6 : decode cX2_encryptBlock 6 = .ok (.istore 5, 2) := dk_54 5 (dk_at dksX2_encryptBlock_0 6 rfl rfl)
theorem dX2_encryptBlock_8 : decode cX2_encryptBlock 8 = .ok (.aload_n 0, 1) := dk_42 (dk_at dksX2_encryptBlock_0 8 rfl rfl)
theorem dX2_encryptBlock_9 : decode cX2_encryptBlock 9 = .ok (.aload_n 1, 1) := dk_43 (dk_at dksX2_encryptBlock_0 9 rfl rfl)
theorem dX2_encryptBlock_10 : decode cX2_encryptBlock 10 = .ok (.iload_n 2, 1) := dk_28 (dk_at dksX2_encryptBlock_0 10 rfl rfl)
theorem dX2_encryptBlock_11 : decode cX2_encryptBlock 11 = .ok (.iconst 4, 1) := dk_7 (dk_at dksX2_encryptBlock_0 11 rfl rfl)
theorem dX2_encryptBlock_12 : decode cX2_encryptBlock 12 = .ok (.iadd, 1) := dk_96 (dk_at dksX2_encryptBlock_0 12 rfl rfl)
theorem dX2_encryptBlock_13 : decode cX2_encryptBlock 13 = .ok (.invokevirtual 66, 3) := dk_182 0 66 (dk_at dksX2_encryptBlock_0 13 rfl rfl)
theorem dX2_encryptBlock_16 : decode cX2_encryptBlock 16 = .ok (.istore 6, 2) := dk_54 6 (dk_at dksX2_encryptBlock_0 16 rfl rfl)
theorem dX2_encryptBlock_18 : decode cX2_encryptBlock 18 = .ok (.aload_n 0, 1) := dk_42 (dk_at dksX2_encryptBlock_0 18 rfl rfl)
theorem dX2_encryptBlock_19 : decode cX2_encryptBlock 19 = .ok (.aload_n 1, 1) := dk_43 (dk_at dksX2_encryptBlock_0 19 rfl rfl)
theorem dX2_encryptBlock_20 : decode cX2_encryptBlock 20 = .ok (.iload_n 2, 1) := dk_28 (dk_at dksX2_encryptBlock_0 20 rfl rfl)
theorem dX2_encryptBlock_21 : decode cX2_encryptBlock 21 = .ok (.bipush 8, 2) := dk_16 8 (dk_at dksX2_encryptBlock_0 21 rfl rfl)
theorem dX2_encryptBlock_23 : decode cX2_encryptBlock 23 = .ok (.iadd, 1) := dk_96 (dk_at dksX2_encryptBlock_0 23 rfl rfl)
theorem dX2_encryptBlock_24 : decode cX2_encryptBlock 24 = .ok (.invokevirtual 66, 3) := dk_182 0 66 (dk_at dksX2_encryptBlock_1 0 rfl rfl)
theorem dX2_encryptBlock_27 : decode cX2_encryptBlock 27 = .ok (.istore 7, 2) := dk_54 7 (dk_at dksX2_encryptBlock_1 3 rfl rfl)
theorem dX2_encryptBlock_29 : decode cX2_encryptBlock 29 = .ok (.aload_n 0, 1) := dk_42 (dk_at dksX2_encryptBlock_1 5 rfl rfl)
theorem dX2_encryptBlock_30 : decode cX2_encryptBlock 30 = .ok (.aload_n 1, 1) := dk_43 (dk_at dksX2_encryptBlock_1 6 rfl rfl)
theorem dX2_encryptBlock_31 : decode cX2_encryptBlock 31 = .ok (.iload_n 2, 1) := dk_28 (dk_at dksX2_encryptBlock_1 7 rfl rfl)
theorem dX2_encryptBlock_32 : decode cX2_encryptBlock 32 = .ok (.bipush 12, 2) := dk_16 12 (dk_at dksX2_encryptBlock_1 8 rfl rfl)
theorem dX2_encryptBlock_34 : decode cX2_encryptBlock 34 = .ok (.iadd, 1) := dk_96 (dk_at dksX2_encryptBlock_1 10 rfl rfl)
theorem dX2_encryptBlock_35 : decode cX2_encryptBlock 35 = .ok (.invokevirtual 66, 3) := dk_182 0 66 (dk_at dksX2_encryptBlock_1 11 rfl rfl)
theorem dX2_encryptBlock_38 : decode cX2_encryptBlock 38 = .ok (.istore 8, 2) := dk_54 8 (dk_at dksX2_encryptBlock_1 14 rfl rfl)
theorem dX2_encryptBlock_40 : decode cX2_encryptBlock 40 = .ok (.iload 6, 2) := dk_21 6 (dk_at dksX2_encryptBlock_1 16 rfl rfl)
theorem dX2_encryptBlock_42 : decode cX2_encryptBlock 42 = .ok (.aload_n 0, 1) := dk_42 (dk_at dksX2_encryptBlock_1 18 rfl rfl)
theorem dX2_encryptBlock_43 : decode cX2_encryptBlock 43 = .ok (.getfield 9, 3) := dk_180 0 9 (dk_at dksX2_encryptBlock_1 19 rfl rfl)
theorem dX2_encryptBlock_46 : decode cX2_encryptBlock 46 = .ok (.iconst 0, 1) := dk_3 (dk_at dksX2_encryptBlock_1 22 rfl rfl)
theorem dX2_encryptBlock_47 : decode cX2_encryptBlock 47 = .ok (.iaload, 1) := dk_46 (dk_at dksX2_encryptBlock_1 23 rfl rfl)
theorem dX2_encryptBlock_48 : decode cX2_encryptBlock 48 = .ok (.iadd, 1) := dk_96 (dk_at dksX2_encryptBlock_2 0 rfl rfl)
theorem dX2_encryptBlock_49 : decode cX2_encryptBlock 49 = .ok (.istore 6, 2) := dk_54 6 (dk_at dksX2_encryptBlock_2 1 rfl rfl)
theorem dX2_encryptBlock_51 : decode cX2_encryptBlock 51 = .ok (.iload 8, 2) := dk_21 8 (dk_at dksX2_encryptBlock_2 3 rfl rfl)
theorem dX2_encryptBlock_53 : decode cX2_encryptBlock 53 = .ok (.aload_n 0, 1) := dk_42 (dk_at dksX2_encryptBlock_2 5 rfl rfl)
theorem dX2_encryptBlock_54 : decode cX2_encryptBlock 54 = .ok (.getfield 9, 3) := dk_180 0 9 (dk_at dksX2_encryptBlock_2 6 rfl rfl)
theorem dX2_encryptBlock_57 : decode cX2_encryptBlock 57 = .ok (.iconst 1, 1) := dk_4 (dk_at dksX2_encryptBlock_2 9 rfl rfl)
theorem dX2_encryptBlock_58 : decode cX2_encryptBlock 58 = .ok (.iaload, 1) := dk_46 (dk_at dksX2_encryptBlock_2 10 rfl rfl)
theorem dX2_encryptBlock_59 : decode cX2_encryptBlock 59 = .ok (.iadd, 1) := dk_96 (dk_at dksX2_encryptBlock_2 11 rfl rfl)
theorem dX2_encryptBlock_60 : decode cX2_encryptBlock 60 = .ok (.istore 8, 2) := dk_54 8 (dk_at dksX2_encryptBlock_2 12 rfl rfl)
theorem dX2_encryptBlock_62 : decode cX2_encryptBlock 62 = .ok (.iconst 1, 1) := dk_4 (dk_at dksX2_encryptBlock_2 14 rfl rfl)
theorem dX2_encryptBlock_63 : decode cX2_encryptBlock 63 = .ok (.istore 9, 2) := dk_54 9 (dk_at dksX2_encryptBlock_2 15 rfl rfl)
theorem dX2_encryptBlock_65 : decode cX2_encryptBlock 65 = .ok (.iload 9, 2) := dk_21 9 (dk_at dksX2_encryptBlock_2 17 rfl rfl)
theorem dX2_encryptBlock_67 : decode cX2_encryptBlock 67 = .ok (.bipush 20, 2) := dk_16 20 (dk_at dksX2_encryptBlock_2 19 rfl rfl)
theorem dX2_encryptBlock_69 : decode cX2_encryptBlock 69 = .ok (.if_icmp .gt 139, 3) := dk_163 0 139 (dk_at dksX2_encryptBlock_2 21 rfl rfl)
theorem dX2_encryptBlock_72 : decode cX2_encryptBlock 72 = .ok (.iconst 0, 1) := dk_3 (dk_at dksX2_encryptBlock_3 0 rfl rfl)
theorem dX2_encryptBlock_73 : decode cX2_encryptBlock 73 = .ok (.istore 10, 2) := dk_54 10 (dk_at dksX2_encryptBlock_3 1 rfl rfl)
theorem dX2_encryptBlock_75 : decode cX2_encryptBlock 75 = .ok (.iconst 0, 1) := dk_3 (dk_at dksX2_encryptBlock_3 3 rfl rfl)
theorem dX2_encryptBlock_76 : decode cX2_encryptBlock 76 = .ok (.istore 11, 2) := dk_54 11 (dk_at dksX2_encryptBlock_3 4 rfl rfl)
theorem dX2_encryptBlock_78 : decode cX2_encryptBlock 78 = .ok (.iload 6, 2) := dk_21 6 (dk_at dksX2_encryptBlock_3 6 rfl rfl)
theorem dX2_encryptBlock_80 : decode cX2_encryptBlock 80 = .ok (.iconst 2, 1) := dk_5 (dk_at dksX2_encryptBlock_3 8 rfl rfl)
theorem dX2_encryptBlock_81 : decode cX2_encryptBlock 81 = .ok (.iload 6, 2) := dk_21 6 (dk_at dksX2_encryptBlock_3 9 rfl rfl)
theorem dX2_encryptBlock_83 : decode cX2_encryptBlock 83 = .ok (.imul, 1) := dk_104 (dk_at dksX2_encryptBlock_3 11 rfl rfl)
theorem dX2_encryptBlock_84 : decode cX2_encryptBlock 84 = .ok (.iconst 1, 1) := dk_4 (dk_at dksX2_encryptBlock_3 12 rfl rfl)
theorem dX2_encryptBlock_85 : decode cX2_encryptBlock 85 = .ok (.iadd, 1) := dk_96 (dk_at dksX2_encryptBlock_3 13 rfl rfl)
theorem dX2_encryptBlock_86 : decode cX2_encryptBlock 86 = .ok (.imul, 1) := dk_104 (dk_at dksX2_encryptBlock_3 14 rfl rfl)
theorem dX2_encryptBlock_87 : decode cX2_encryptBlock 87 = .ok (.istore 10, 2) := dk_54 10 (dk_at dksX2_encryptBlock_3 15 rfl rfl)
theorem dX2_encryptBlock_89 : decode cX2_encryptBlock 89 = .ok (.aload_n 0, 1) := dk_42 (dk_at dksX2_encryptBlock_3 17 rfl rfl)
theorem dX2_encryptBlock_90 : decode cX2_encryptBlock 90 = .ok (.iload 10, 2) := dk_21 10 (dk_at dksX2_encryptBlock_3 18 rfl rfl)
theorem dX2_encryptBlock_92 : decode cX2_encryptBlock 92 = .ok (.iconst 5, 1) := dk_8 (dk_at dksX2_encryptBlock_3 20 rfl rfl)
theorem dX2_encryptBlock_93 : decode cX2_encryptBlock 93 = .ok (.invokevirtual 62, 3) := dk_182 0 62 (dk_at dksX2_encryptBlock_3 21 rfl rfl)
theorem dX2_encryptBlock_96 : decode cX2_encryptBlock 96 = .ok (.istore 10, 2) := dk_54 10 (dk_at dksX2_encryptBlock_4 0 rfl rfl)
theorem dX2_encryptBlock_98 : decode cX2_encryptBlock 98 = .ok (.iload 8, 2) := dk_21 8 (dk_at dksX2_encryptBlock_4 2 rfl rfl)
theorem dX2_encryptBlock_100 : decode cX2_encryptBlock 100 = .ok (.iconst 2, 1) := dk_5 (dk_at dksX2_encryptBlock_4 4 rfl rfl)
theorem dX2_encryptBlock_101 : decode cX2_encryptBlock 101 = .ok (.iload 8, 2) := dk_21 8 (dk_at dksX2_encryptBlock_4 5 rfl rfl)
theorem dX2_encryptBlock_103 : decode cX2_encryptBlock 103 = .ok (.imul, 1) := dk_104 (dk_at dksX2_encryptBlock_4 7 rfl rfl)
theorem dX2_encryptBlock_104 : decode cX2_encryptBlock 104 = .ok (.iconst 1, 1) := dk_4 (dk_at dksX2_encryptBlock_4 8 rfl rfl)
theorem dX2_encryptBlock_105 : decode cX2_encryptBlock 105 = .ok (.iadd, 1) := dk_96 (dk_at dksX2_encryptBlock_4 9 rfl rfl)
theorem dX2_encryptBlock_106 : decode cX2_encryptBlock 106 = .ok (.imul, 1) := dk_104 (dk_at dksX2_encryptBlock_4 10 rfl rfl)
theorem dX2_encryptBlock_107 : decode cX2_encryptBlock 107 = .ok (.istore 11, 2) := dk_54 11 (dk_at dksX2_encryptBlock_4 11 rfl rfl)
theorem dX2_encryptBlock_109 : decode cX2_encryptBlock 109 = .ok (.aload_n 0, 1) := dk_42 (dk_at dksX2_encryptBlock_4 13 rfl rfl)
theorem dX2_encryptBlock_110 : decode cX2_encryptBlock 110 = .ok (.iload 11, 2) := dk_21 11 (dk_at dksX2_encryptBlock_4 14 rfl rfl)
theorem dX2_encryptBlock_112 : decode cX2_encryptBlock 112 = .ok (.iconst 5, 1) := dk_8 (dk_at dksX2_encryptBlock_4 16 rfl rfl)
theorem dX2_encryptBlock_113 : decode cX2_encryptBlock 113 = .ok (.invokevirtual 62, 3) := dk_182 0 62 (dk_at dksX2_encryptBlock_4 17 rfl rfl)
theorem dX2_encryptBlock_116 : decode cX2_encryptBlock 116 = .ok (.istore 11, 2) := dk_54 11 (dk_at dksX2_encryptBlock_4 20 rfl rfl)
theorem dX2_encryptBlock_118 : decode cX2_encryptBlock 118 = .ok (.iload 5, 2) := dk_21 5 (dk_at dksX2_encryptBlock_4 22 rfl rfl)
theorem dX2_encryptBlock_120 : decode cX2_encryptBlock 120 = .ok (.iload 10, 2) := dk_21 10 (dk_at dksX2_encryptBlock_5 0 rfl rfl)
theorem dX2_encryptBlock_122 : decode cX2_encryptBlock 122 = .ok (.ixor, 1) := dk_130 (dk_at dksX2_encryptBlock_5 2 rfl rfl)
theorem dX2_encryptBlock_123 : decode cX2_encryptBlock 123 = .ok (.istore 5, 2) := dk_54 5 (dk_at dksX2_encryptBlock_5 3 rfl rfl)
theorem dX2_encryptBlock_125 : decode cX2_encryptBlock 125 = .ok (.aload_n 0, 1) := dk_42 (dk_at dksX2_encryptBlock_5 5 rfl rfl)
theorem dX2_encryptBlock_126 : decode cX2_encryptBlock 126 = .ok (.iload 5, 2) := dk_21 5 (dk_at dksX2_encryptBlock_5 6 rfl rfl)
theorem dX2_encryptBlock_128 : decode cX2_encryptBlock 128 = .ok (.iload 11, 2) := dk_21 11 (dk_at dksX2_encryptBlock_5 8 rfl rfl)
theorem dX2_encryptBlock_130 : decode cX2_encryptBlock 130 = .ok (.invokevirtual 62, 3) := dk_182 0 62 (dk_at dksX2_encryptBlock_5 10 rfl rfl)
theorem dX2_encryptBlock_133 : decode cX2_encryptBlock 133 = .ok (.istore 5, 2) := dk_54 5 (dk_at dksX2_encryptBlock_5 13 rfl rfl)
theorem dX2_encryptBlock_135 : decode cX2_encryptBlock 135 = .ok (.iload 5, 2) := dk_21 5 (dk_at dksX2_encryptBlock_5 15 rfl rfl)
theorem dX2_encryptBlock_137 : decode cX2_encryptBlock 137 = .ok (.aload_n 0, 1) := dk_42 (dk_at dksX2_encryptBlock_5 17 rfl rfl)
theorem dX2_encryptBlock_138 : decode cX2_encryptBlock 138 = .ok (.getfield 9, 3) := dk_180 0 9 (dk_at dksX2_encryptBlock_5 18 rfl rfl)
theorem dX2_encryptBlock_141 : decode cX2_encryptBlock 141 = .ok (.iconst 2, 1) := dk_5 (dk_at dksX2_encryptBlock_5 21 rfl rfl)
theorem dX2_encryptBlock_142 : decode cX2_encryptBlock 142 = .ok (.iload 9, 2) := dk_21 9 (dk_at dksX2_encryptBlock_5 22 rfl rfl)
theorem dX2_encryptBlock_144 : decode cX2_encryptBlock 144 = .ok (.imul, 1) := dk_104 (dk_at dksX2_encryptBlock_6 0 rfl rfl)
theorem dX2_encryptBlock_145 : decode cX2_encryptBlock 145 = .ok (.iaload, 1) := dk_46 (dk_at dksX2_encryptBlock_6 1 rfl rfl)
theorem dX2_encryptBlock_146 : decode cX2_encryptBlock 146 = .ok (.iadd, 1) := dk_96 (dk_at dksX2_encryptBlock_6 2 rfl rfl)
theorem dX2_encryptBlock_147 : decode cX2_encryptBlock 147 = .ok (.istore 5, 2) := dk_54 5 (dk_at dksX2_encryptBlock_6 3 rfl rfl)
theorem dX2_encryptBlock_149 : decode cX2_encryptBlock 149 = .ok (.iload 7, 2) := dk_21 7 (dk_at dksX2_encryptBlock_6 5 rfl rfl)
theorem dX2_encryptBlock_151 : decode cX2_encryptBlock 151 = .ok (.iload 11, 2) := dk_21 11 (dk_at dksX2_encryptBlock_6 7 rfl rfl)
theorem dX2_encryptBlock_153 : decode cX2_encryptBlock 153 = .ok (.ixor, 1) := dk_130 (dk_at dksX2_encryptBlock_6 9 rfl rfl)
theorem dX2_encryptBlock_154 : decode cX2_encryptBlock 154 = .ok (.istore 7, 2) := dk_54 7 (dk_at dksX2_encryptBlock_6 10 rfl rfl)
theorem dX2_encryptBlock_156 : decode cX2_encryptBlock 156 = .ok (.aload_n 0, 1) := dk_42 (dk_at dksX2_encryptBlock_6 12 rfl rfl)
theorem dX2_encryptBlock_157 : decode cX2_encryptBlock 157 = .ok (.iload 7, 2) := dk_21 7 (dk_at dksX2_encryptBlock_6 13 rfl rfl)
theorem dX2_encryptBlock_159 : decode cX2_encryptBlock 159 = .ok (.iload 10, 2) := dk_21 10 (dk_at dksX2_encryptBlock_6 15 rfl rfl)
theorem dX2_encryptBlock_161 : decode cX2_encryptBlock 161 = .ok (.invokevirtual 62, 3) := dk_182 0 62 (dk_at dksX2_encryptBlock_6 17 rfl rfl)
theorem dX2_encryptBlock_164 : decode cX2_encryptBlock 164 = .ok (.istore 7, 2) := dk_54 7 (dk_at dksX2_encryptBlock_6 20 rfl rfl)
theorem dX2_encryptBlock_166 : decode cX2_encryptBlock 166 = .ok (.iload 7, 2) := dk_21 7 (dk_at dksX2_encryptBlock_6 22 rfl rfl)
theorem dX2_encryptBlock_168 : decode cX2_encryptBlock 168 = .ok (.aload_n 0, 1) := dk_42 (dk_at dksX2_encryptBlock_7 0 rfl rfl)
theorem dX2_encryptBlock_169 : decode cX2_encryptBlock 169 = .ok (.getfield 9, 3) := dk_180 0 9 (dk_at dksX2_encryptBlock_7 1 rfl rfl)
theorem dX2_encryptBlock_172 : decode cX2_encryptBlock 172 = .ok (.iconst 2, 1) := dk_5 (dk_at dksX2_encryptBlock_7 4 rfl rfl)
theorem dX2_encryptBlock_173 : decode cX2_encryptBlock 173 = .ok (.iload 9, 2) := dk_21 9 (dk_at dksX2_encryptBlock_7 5 rfl rfl)
theorem dX2_encryptBlock_175 : decode cX2_encryptBlock 175 = .ok (.imul, 1) := dk_104 (dk_at dksX2_encryptBlock_7 7 rfl rfl)
theorem dX2_encryptBlock_176 : decode cX2_encryptBlock 176 = .ok (.iconst 1, 1) := dk_4 (dk_at dksX2_encryptBlock_7 8 rfl rfl)
theorem dX2_encryptBlock_177 : decode cX2_encryptBlock 177 = .ok (.iadd, 1) := dk_96 (dk_at dksX2_encryptBlock_7 9 rfl rfl)
theorem dX2_encryptBlock_178 : decode cX2_encryptBlock 178 = .ok (.iaload, 1) := dk_46 (dk_at dksX2_encryptBlock_7 10 rfl rfl)
theorem dX2_encryptBlock_179 : decode cX2_encryptBlock 179 = .ok (.iadd, 1) := dk_96 (dk_at dksX2_encryptBlock_7 11 rfl rfl)
theorem dX2_encryptBlock_180 : decode cX2_encryptBlock 180 = .ok (.istore 7, 2) := dk_54 7 (dk_at dksX2_encryptBlock_7 12 rfl rfl)
theorem dX2_encryptBlock_182 : decode cX2_encryptBlock 182 = .ok (.iload 5, 2) := dk_21 5 (dk_at dksX2_encryptBlock_7 14 rfl rfl)
theorem dX2_encryptBlock_184 : decode cX2_encryptBlock 184 = .ok (.istore 12, 2) := dk_54 12 (dk_at dksX2_encryptBlock_7 16 rfl rfl)
theorem dX2_encryptBlock_186 : decode cX2_encryptBlock 186 = .ok (.iload 6, 2) := dk_21 6 (dk_at dksX2_encryptBlock_7 18 rfl rfl)
theorem dX2_encryptBlock_188 : decode cX2_encryptBlock 188 = .ok (.istore 5, 2) := dk_54 5 (dk_at dksX2_encryptBlock_7 20 rfl rfl)
theorem dX2_encryptBlock_190 : decode cX2_encryptBlock 190 = .ok (.iload 7, 2) := dk_21 7 (dk_at dksX2_encryptBlock_7 22 rfl rfl)
theorem dX2_encryptBlock_192 : decode cX2_encryptBlock 192 = .ok (.istore 6, 2) := dk_54 6 (dk_at dksX2_encryptBlock_8 0 rfl rfl)
theorem dX2_encryptBlock_194 : decode cX2_encryptBlock 194 = .ok (.iload 8, 2) := dk_21 8 (dk_at dksX2_encryptBlock_8 2 rfl rfl)
theorem dX2_encryptBlock_196 : decode cX2_encryptBlock 196 = .ok (.istore 7, 2) := dk_54 7 (dk_at dksX2_encryptBlock_8 4 rfl rfl)
theorem dX2_encryptBlock_198 : decode cX2_encryptBlock 198 = .ok (.iload 12, 2) := dk_21 12 (dk_at dksX2_encryptBlock_8 6 rfl rfl)
theorem dX2_encryptBlock_200 : decode cX2_encryptBlock 200 = .ok (.istore 8, 2) := dk_54 8 (dk_at dksX2_encryptBlock_8 8 rfl rfl)
theorem dX2_encryptBlock_202 : decode cX2_encryptBlock 202 = .ok (.iinc 9 1, 3) := dk_132 9 1 (dk_at dksX2_encryptBlock_8 10 rfl rfl)
theorem dX2_encryptBlock_205 : decode cX2_encryptBlock 205 = .ok (.goto (-140), 3) := dk_167 255 116 (dk_at dksX2_encryptBlock_8 13 rfl rfl)
theorem dX2_encryptBlock_208 : decode cX2_encryptBlock 208 = .ok (.iload 5, 2) := dk_21 5 (dk_at dksX2_encryptBlock_8 16 rfl rfl)
theorem dX2_encryptBlock_210 : decode cX2_encryptBlock 210 = .ok (.aload_n 0, 1) := dk_42 (dk_at dksX2_encryptBlock_8 18 rfl rfl)
theorem dX2_encryptBlock_211 : decode cX2_encryptBlock 211 = .ok (.getfield 9, 3) := dk_180 0 9 (dk_at dksX2_encryptBlock_8 19 rfl rfl)
theorem dX2_encryptBlock_214 : decode cX2_encryptBlock 214 = .ok (.bipush 42, 2) := dk_16 42 (dk_at dksX2_encryptBlock_8 22 rfl rfl)
theorem dX2_encryptBlock_216 : decode cX2_encryptBlock 216 = .ok (.iaload, 1) := dk_46 (dk_at dksX2_encryptBlock_9 0 rfl rfl)
theorem dX2_encryptBlock_217 : decode cX2_encryptBlock 217 = .ok (.iadd, 1) := dk_96 (dk_at dksX2_encryptBlock_9 1 rfl rfl)
theorem dX2_encryptBlock_218 : decode cX2_encryptBlock 218 = .ok (.istore 5, 2) := dk_54 5 (dk_at dksX2_encryptBlock_9 2 rfl rfl)
theorem dX2_encryptBlock_220 : decode cX2_encryptBlock 220 = .ok (.iload 7, 2) := dk_21 7 (dk_at dksX2_encryptBlock_9 4 rfl rfl)
theorem dX2_encryptBlock_222 : decode cX2_encryptBlock 222 = .ok (.aload_n 0, 1) := dk_42 (dk_at dksX2_encryptBlock_9 6 rfl rfl)
theorem dX2_encryptBlock_223 : decode cX2_encryptBlock 223 = .ok (.getfield 9, 3) := dk_180 0 9 (dk_at dksX2_encryptBlock_9 7 rfl rfl)
theorem dX2_encryptBlock_226 : decode cX2_encryptBlock 226 = .ok (.bipush 43, 2) := dk_16 43 (dk_at dksX2_encryptBlock_9 10 rfl rfl)
theorem dX2_encryptBlock_228 : decode cX2_encryptBlock 228 = .ok (.iaload, 1) := dk_46 (dk_at dksX2_encryptBlock_9 12 rfl rfl)
theorem dX2_encryptBlock_229 : decode cX2_encryptBlock 229 = .ok (.iadd, 1) := dk_96 (dk_at dksX2_encryptBlock_9 13 rfl rfl)
theorem dX2_encryptBlock_230 : decode cX2_encryptBlock 230 = .ok (.istore 7, 2) := dk_54 7 (dk_at dksX2_encryptBlock_9 14 rfl rfl)
theorem dX2_encryptBlock_232 : decode cX2_encryptBlock 232 = .ok (.aload_n 0, 1) := dk_42 (dk_at dksX2_encryptBlock_9 16 rfl rfl)
theorem dX2_encryptBlock_233 : decode cX2_encryptBlock 233 = .ok (.iload 5, 2) := dk_21 5 (dk_at dksX2_encryptBlock_9 17 rfl rfl)
theorem dX2_encryptBlock_235 : decode cX2_encryptBlock 235 = .ok (.aload_n 3, 1) := dk_45 (dk_at dksX2_encryptBlock_9 19 rfl rfl)
theorem dX2_encryptBlock_236 : decode cX2_encryptBlock 236 = .ok (.iload 4, 2) := dk_21 4 (dk_at dksX2_encryptBlock_9 20 rfl rfl)
theorem dX2_encryptBlock_238 : decode cX2_encryptBlock 238 = .ok (.invokevirtual 70, 3) := dk_182 0 70 (dk_at dksX2_encryptBlock_10 0 rfl rfl)
theorem dX2_encryptBlock_241 : decode cX2_encryptBlock 241 = .ok (.aload_n 0, 1) := dk_42 (dk_at dksX2_encryptBlock_10 3 rfl rfl)
theorem dX2_encryptBlock_242 : decode cX2_encryptBlock 242 = .ok (.iload 6, 2) := dk_21 6 (dk_at dksX2_encryptBlock_10 4 rfl rfl)
theorem dX2_encryptBlock_244 : decode cX2_encryptBlock 244 = .ok (.aload_n 3, 1) := dk_45 (dk_at dksX2_encryptBlock_10 6 rfl rfl)
theorem dX2_encryptBlock_245 : decode cX2_encryptBlock 245 = .ok (.iload 4, 2) := dk_21 4 (dk_at dksX2_encryptBlock_10 7 rfl rfl)
theorem dX2_encryptBlock_247 : decode cX2_encryptBlock 247 = .ok (.iconst 4, 1) := dk_7 (dk_at dksX2_encryptBlock_10 9 rfl rfl)
theorem dX2_encryptBlock_248 : decode cX2_encryptBlock 248 = .ok (.iadd, 1) := dk_96 (dk_at dksX2_encryptBlock_10 10 rfl rfl)
theorem dX2_encryptBlock_249 : decode cX2_encryptBlock 249 = .ok (.invokevirtual 70, 3) := dk_182 0 70 (dk_at dksX2_encryptBlock_10 11 rfl rfl)
theorem dX2_encryptBlock_252 : decode cX2_encryptBlock 252 = .ok (.aload_n 0, 1) := dk_42 (dk_at dksX2_encryptBlock_10 14 rfl rfl)
theorem dX2_encryptBlock_253 : decode cX2_encryptBlock 253 = .ok (.iload 7, 2) := dk_21 7 (dk_at dksX2_encryptBlock_10 15 rfl rfl)
theorem dX2_encryptBlock_255 : decode cX2_encryptBlock 255 = .ok (.aload_n 3, 1) := dk_45 (dk_at dksX2_encryptBlock_10 17 rfl rfl)
theorem dX2_encryptBlock_256 : decode cX2_encryptBlock 256 = .ok (.iload 4, 2) := dk_21 4 (dk_at dksX2_encryptBlock_10 18 rfl rfl)
theorem dX2_encryptBlock_258 : decode cX2_encryptBlock 258 = .ok (.bipush 8, 2) := dk_16 8 (dk_at dksX2_encryptBlock_10 20 rfl rfl)
theorem dX2_encryptBlock_260 : decode cX2_encryptBlock 260 = .ok (.iadd, 1) := dk_96 (dk_at dksX2_encryptBlock_10 22 rfl rfl)
theorem dX2_encryptBlock_261 : decode cX2_encryptBlock 261 = .ok (.invokevirtual 70, 3) := dk_182 0 70 (dk_at dksX2_encryptBlock_11 0 rfl rfl)
theorem dX2_encryptBlock_264 : decode cX2_encryptBlock 264 = .ok (.aload_n 0, 1) := dk_42 (dk_at dksX2_encryptBlock_11 3 rfl rfl)
theorem dX2_encryptBlock_265 : decode cX2_encryptBlock 265 = .ok (.iload 8, 2) := dk_21 8 (dk_at dksX2_encryptBlock_11 4 rfl rfl)
theorem dX2_encryptBlock_267 : decode cX2_encryptBlock 267 = .ok (.aload_n 3, 1) := dk_45 (dk_at dksX2_encryptBlock_11 6 rfl rfl)
theorem dX2_encryptBlock_268 : decode cX2_encryptBlock 268 = .ok (.iload 4, 2) := dk_21 4 (dk_at dksX2_encryptBlock_11 7 rfl rfl)
theorem dX2_encryptBlock_270 : decode cX2_encryptBlock 270 = .ok (.bipush 12, 2) := dk_16 12 (dk_at dksX2_encryptBlock_11 9 rfl rfl)
theorem dX2_encryptBlock_272 : decode cX2_encryptBlock 272 = .ok (.iadd, 1) := dk_96 (dk_at dksX2_encryptBlock_11 11 rfl rfl)
theorem dX2_encryptBlock_273 : decode cX2_encryptBlock 273 = .ok (.invokevirtual 70, 3) := dk_182 0 70 (dk_at dksX2_encryptBlock_11 12 rfl rfl)
theorem dX2_encryptBlock_276 : decode cX2_encryptBlock 276 = .ok (.bipush 16, 2) := dk_16 16 (dk_at dksX2_encryptBlock_11 15 rfl rfl)
theorem dX2_encryptBlock_278 : decode cX2_encryptBlock 278 = .ok (.ireturn, 1) := dk_172 (dk_at dksX2_encryptBlock_11 17 rfl rfl)
abbrev cX2_bytesToWord : ByteArray := prog_6_method_10_code
def yX2_bytesToWord : MethodName := ⟨RX2, "bytesToWord", "([BI)I"⟩
def dkwX2_bytesToWord_1 : List UInt8 := [96, 62, 132, 4, 255, 167, 255, 232, 29, 172]
abbrev dktX2_bytesToWord_1 : List UInt8 := dkwX2_bytesToWord_1 ++ []
def dkwX2_bytesToWord_0 : List UInt8 := [3, 62, 6, 54, 4, 21, 4, 155, 0, 25, 29, 16, 8, 120, 43, 21, 4, 28, 96, 51, 17, 0, 255, 126]
abbrev dktX2_bytesToWord_0 : List UInt8 := dkwX2_bytesToWord_0 ++ dktX2_bytesToWord_1
theorem dksX2_bytesToWord_0 : cX2_bytesToWord.data.toList.drop 0 = dktX2_bytesToWord_0 := by decide +kernel
theorem dksX2_bytesToWord_1 : cX2_bytesToWord.data.toList.drop 24 = dktX2_bytesToWord_1 := dk_seg dksX2_bytesToWord_0 24 rfl rfl
theorem dX2_bytesToWord_0 : decode cX2_bytesToWord 0 = .ok (.iconst 0, 1) := dk_3 (dk_at dksX2_bytesToWord_0 0 rfl rfl)
theorem dX2_bytesToWord_1 : decode cX2_bytesToWord 1 = .ok (.istore_n 3, 1) := dk_62 (dk_at dksX2_bytesToWord_0 1 rfl rfl)
theorem dX2_bytesToWord_2 : decode cX2_bytesToWord 2 = .ok (.iconst 3, 1) := dk_6 (dk_at dksX2_bytesToWord_0 2 rfl rfl)
theorem dX2_bytesToWord_3 : decode cX2_bytesToWord 3 = .ok (.istore 4, 2) := dk_54 4 (dk_at dksX2_bytesToWord_0 3 rfl rfl)
theorem dX2_bytesToWord_5 : decode cX2_bytesToWord 5 = .ok (.iload 4, 2) := dk_21 4 (dk_at dksX2_bytesToWord_0 5 rfl rfl)
theorem dX2_bytesToWord_7 : decode cX2_bytesToWord 7 = .ok (.ifCond .lt 25, 3) := dk_155 0 25 (dk_at dksX2_bytesToWord_0 7 rfl rfl)
theorem dX2_bytesToWord_10 : decode cX2_bytesToWord 10 = .ok (.iload_n 3, 1) := dk_29 (dk_at dksX2_bytesToWord_0 10 rfl rfl)
theorem dX2_bytesToWord_11 : decode cX2_bytesToWord 11 = .ok (.bipush 8, 2) := dk_16 8 (dk_at dksX2_bytesToWord_0 11 rfl rfl)
theorem dX2_bytesToWord_13 : decode cX2_bytesToWord 13 = .ok (.ishl, 1) := dk_120 (dk_at dksX2_bytesToWord_0 13 rfl rfl)
theorem dX2_bytesToWord_14 : decode cX2_bytesToWord 14 = .ok (.aload_n 1, 1) := dk_43 (dk_at dksX2_bytesToWord_0 14 rfl rfl)
theorem dX2_bytesToWord_15 : decode cX2_bytesToWord 15 = .ok (.iload 4, 2) := dk_21 4 (dk_at dksX2_bytesToWord_0 15 rfl rfl)
theorem dX2_bytesToWord_17 : decode cX2_bytesToWord 17 = .ok (.iload_n 2, 1) := dk_28 (dk_at dksX2_bytesToWord_0 17 rfl rfl)
theorem dX2_bytesToWord_18 : decode cX2_bytesToWord 18 = .ok (.iadd, 1) := dk_96 (dk_at dksX2_bytesToWord_0 18 rfl rfl)
theorem dX2_bytesToWord_19 : decode cX2_bytesToWord 19 = .ok (.baload, 1) := dk_51 (dk_at dksX2_bytesToWord_0 19 rfl rfl)
theorem dX2_bytesToWord_20 : decode cX2_bytesToWord 20 = .ok (.sipush 255, 3) := dk_17 0 255 (dk_at dksX2_bytesToWord_0 20 rfl rfl)
theorem dX2_bytesToWord_23 : decode cX2_bytesToWord 23 = .ok (.iand, 1) := dk_126 (dk_at dksX2_bytesToWord_0 23 rfl rfl)
theorem dX2_bytesToWord_24 : decode cX2_bytesToWord 24 = .ok (.iadd, 1) := dk_96 (dk_at dksX2_bytesToWord_1 0 rfl rfl)
theorem dX2_bytesToWord_25 : decode cX2_bytesToWord 25 = .ok (.istore_n 3, 1) := dk_62 (dk_at dksX2_bytesToWord_1 1 rfl rfl)
theorem dX2_bytesToWord_26 : decode cX2_bytesToWord 26 = .ok (.iinc 4 (-1), 3) := dk_132 4 255 (dk_at dksX2_bytesToWord_1 2 rfl rfl)
theorem dX2_bytesToWord_29 : decode cX2_bytesToWord 29 = .ok (.goto (-24), 3) := dk_167 255 232 (dk_at dksX2_bytesToWord_1 5 rfl rfl)
theorem dX2_bytesToWord_32 : decode cX2_bytesToWord 32 = .ok (.iload_n 3, 1) := dk_29 (dk_at dksX2_bytesToWord_1 8 rfl rfl)
theorem dX2_bytesToWord_33 : decode cX2_bytesToWord 33 = .ok (.ireturn, 1) := dk_172 (dk_at dksX2_bytesToWord_1 9 rfl rfl)
abbrev cX2_wordToBytes : ByteArray := prog_6_method_11_code
def yX2_wordToBytes : MethodName := ⟨RX2, "wordToBytes", "(I[BI)V"⟩
def dkwX2_wordToBytes_1 : List UInt8 := [132, 4, 1, 167, 255, 234, 177]
abbrev dktX2_wordToBytes_1 : List UInt8 := dkwX2_wordToBytes_1 ++ []
def dkwX2_wordToBytes_0 : List UInt8 := [3, 54, 4, 21, 4, 7, 162, 0, 22, 44, 21, 4, 29, 96, 27, 145, 84, 27, 16, 8, 124, 60]
abbrev dktX2_wordToBytes_0 : List UInt8 := dkwX2_wordToBytes_0 ++ dktX2_wordToBytes_1
theorem dksX2_wordToBytes_0 : cX2_wordToBytes.data.toList.drop 0 = dktX2_wordToBytes_0 := by decide +kernel
theorem dksX2_wordToBytes_1 : cX2_wordToBytes.data.toList.drop 22 = dktX2_wordToBytes_1 := dk_seg dksX2_wordToBytes_0 22 rfl rfl
theorem dX2_wordToBytes_0 : decode cX2_wordToBytes 0 = .ok (.iconst 0, 1) := dk_3 (dk_at dksX2_wordToBytes_0 0 rfl rfl)
theorem dX2_wordToBytes_1 : decode cX2_wordToBytes 1 = .ok (.istore 4, 2) := dk_54 4 (dk_at dksX2_wordToBytes_0 1 rfl rfl)
theorem dX2_wordToBytes_3 : decode cX2_wordToBytes 3 = .ok (.iload 4, 2) := dk_21 4 (dk_at dksX2_wordToBytes_0 3 rfl rfl)
theorem dX2_wordToBytes_5 : decode cX2_wordToBytes 5 = .ok (.iconst 4, 1) := dk_7 (dk_at dksX2_wordToBytes_0 5 rfl rfl)
theorem dX2_wordToBytes_6 : decode cX2_wordToBytes 6 = .ok (.if_icmp .ge 22, 3) := dk_162 0 22 (dk_at dksX2_wordToBytes_0 6 rfl rfl)
theorem dX2_wordToBytes_9 : decode cX2_wordToBytes 9 = .ok (.aload_n 2, 1) := dk_44 (dk_at dksX2_wordToBytes_0 9 rfl rfl)
theorem dX2_wordToBytes_10 : decode cX2_wordToBytes 10 = .ok (.iload 4, 2) := dk_21 4 (dk_at dksX2_wordToBytes_0 10 rfl rfl)
theorem dX2_wordToBytes_12 : decode cX2_wordToBytes 12 = .ok (.iload_n 3, 1) := dk_29 (dk_at dksX2_wordToBytes_0 12 rfl rfl)
theorem dX2_wordToBytes_13 : decode cX2_wordToBytes 13 = .ok (.iadd, 1) := dk_96 (dk_at dksX2_wordToBytes_0 13 rfl rfl)
theorem dX2_wordToBytes_14 : decode cX2_wordToBytes 14 = .ok (.iload_n 1, 1) := dk_27 (dk_at dksX2_wordToBytes_0 14 rfl rfl)
theorem dX2_wordToBytes_15 : decode cX2_wordToBytes 15 = .ok (.i2b, 1) := dk_145 (dk_at dksX2_wordToBytes_0 15 rfl rfl)
theorem dX2_wordToBytes_16 : decode cX2_wordToBytes 16 = .ok (.bastore, 1) := dk_84 (dk_at dksX2_wordToBytes_0 16 rfl rfl)
theorem dX2_wordToBytes_17 : decode cX2_wordToBytes 17 = .ok (.iload_n 1, 1) := dk_27 (dk_at dksX2_wordToBytes_0 17 rfl rfl)
theorem dX2_wordToBytes_18 : decode cX2_wordToBytes 18 = .ok (.bipush 8, 2) := dk_16 8 (dk_at dksX2_wordToBytes_0 18 rfl rfl)
theorem dX2_wordToBytes_20 : decode cX2_wordToBytes 20 = .ok (.iushr, 1) := dk_124 (dk_at dksX2_wordToBytes_0 20 rfl rfl)
theorem dX2_wordToBytes_21 : decode cX2_wordToBytes 21 = .ok (.istore_n 1, 1) := dk_60 (dk_at dksX2_wordToBytes_0 21 rfl rfl)
theorem dX2_wordToBytes_22 : decode cX2_wordToBytes 22 = .ok (.iinc 4 1, 3) := dk_132 4 1 (dk_at dksX2_wordToBytes_1 0 rfl rfl)
theorem dX2_wordToBytes_25 : decode cX2_wordToBytes 25 = .ok (.goto (-22), 3) := dk_167 255 234 (dk_at dksX2_wordToBytes_1 3 rfl rfl)
theorem dX2_wordToBytes_28 : decode cX2_wordToBytes 28 = .ok (.return_, 1) := dk_177 (dk_at dksX2_wordToBytes_1 6 rfl rfl)
abbrev cX2_decryptBlock : ByteArray := prog_6_method_7_code
def yX2_decryptBlock : MethodName := ⟨RX2, "decryptBlock", "([BI[BI)I"⟩
def dkwX2_decryptBlock_11 : List UInt8 := [96, 182, 0, 70, 42, 21, 8, 45, 21, 4, 16, 12, 96, 182, 0, 70, 16, 16, 172]
abbrev dktX2_decryptBlock_11 : List UInt8 := dkwX2_decryptBlock_11 ++ []
def dkwX2_decryptBlock_10 : List UInt8 := [21, 4, 182, 0, 70, 42, 21, 6, 45, 21, 4, 7, 96, 182, 0, 70, 42, 21, 7, 45, 21, 4, 16, 8]
abbrev dktX2_decryptBlock_10 : List UInt8 := dkwX2_decryptBlock_10 ++ dktX2_decryptBlock_11
def dkwX2_decryptBlock_9 : List UInt8 := [180, 0, 9, 4, 46, 100, 54, 8, 21, 6, 42, 180, 0, 9, 3, 46, 100, 54, 6, 42, 21, 5, 45]
abbrev dktX2_decryptBlock_9 : List UInt8 := dkwX2_decryptBlock_9 ++ dktX2_decryptBlock_10
def dkwX2_decryptBlock_8 : List UInt8 := [21, 11, 182, 0, 74, 54, 5, 21, 5, 21, 10, 130, 54, 5, 132, 9, 255, 167, 255, 117, 21, 8, 42]
abbrev dktX2_decryptBlock_8 : List UInt8 := dkwX2_decryptBlock_8 ++ dktX2_decryptBlock_9
def dkwX2_decryptBlock_7 : List UInt8 := [21, 7, 21, 11, 130, 54, 7, 21, 5, 42, 180, 0, 9, 5, 21, 9, 104, 46, 100, 54, 5, 42, 21, 5]
abbrev dktX2_decryptBlock_7 : List UInt8 := dkwX2_decryptBlock_7 ++ dktX2_decryptBlock_8
def dkwX2_decryptBlock_6 : List UInt8 := [42, 180, 0, 9, 5, 21, 9, 104, 4, 96, 46, 100, 54, 7, 42, 21, 7, 21, 10, 182, 0, 74, 54, 7]
abbrev dktX2_decryptBlock_6 : List UInt8 := dkwX2_decryptBlock_6 ++ dktX2_decryptBlock_7
def dkwX2_decryptBlock_5 : List UInt8 := [54, 10, 21, 8, 5, 21, 8, 104, 4, 96, 104, 54, 11, 42, 21, 11, 8, 182, 0, 62, 54, 11, 21, 7]
abbrev dktX2_decryptBlock_5 : List UInt8 := dkwX2_decryptBlock_5 ++ dktX2_decryptBlock_6
def dkwX2_decryptBlock_4 : List UInt8 := [54, 6, 21, 12, 54, 5, 21, 6, 5, 21, 6, 104, 4, 96, 104, 54, 10, 42, 21, 10, 8, 182, 0, 62]
abbrev dktX2_decryptBlock_4 : List UInt8 := dkwX2_decryptBlock_4 ++ dktX2_decryptBlock_5
def dkwX2_decryptBlock_3 : List UInt8 := [161, 0, 139, 3, 54, 10, 3, 54, 11, 21, 8, 54, 12, 21, 7, 54, 8, 21, 6, 54, 7, 21, 5]
abbrev dktX2_decryptBlock_3 : List UInt8 := dkwX2_decryptBlock_3 ++ dktX2_decryptBlock_4
def dkwX2_decryptBlock_2 : List UInt8 := [46, 100, 54, 7, 21, 5, 42, 180, 0, 9, 16, 42, 46, 100, 54, 5, 16, 20, 54, 9, 21, 9, 4]
abbrev dktX2_decryptBlock_2 : List UInt8 := dkwX2_decryptBlock_2 ++ dktX2_decryptBlock_3
def dkwX2_decryptBlock_1 : List UInt8 := [182, 0, 66, 54, 7, 42, 43, 28, 16, 12, 96, 182, 0, 66, 54, 8, 21, 7, 42, 180, 0, 9, 16, 43]
abbrev dktX2_decryptBlock_1 : List UInt8 := dkwX2_decryptBlock_1 ++ dktX2_decryptBlock_2
def dkwX2_decryptBlock_0 : List UInt8 := [42, 43, 28, 182, 0, 66, 54, 5, 42, 43, 28, 7, 96, 182, 0, 66, 54, 6, 42, 43, 28, 16, 8, 96]
abbrev dktX2_decryptBlock_0 : List UInt8 := dkwX2_decryptBlock_0 ++ dktX2_decryptBlock_1
theorem dksX2_decryptBlock_0 : cX2_decryptBlock.data.toList.drop 0 = dktX2_decryptBlock_0 := by decide +kernel
theorem dksX2_decryptBlock_1 : cX2_decryptBlock.data.toList.drop 24 = dktX2_decryptBlock_1 := dk_seg dksX2_decryptBlock_0 24 rfl rfl
theorem dksX2_decryptBlock_2 : cX2_decryptBlock.data.toList.drop 48 = dktX2_decryptBlock_2 := dk_seg dksX2_decryptBlock_1 24 rfl rfl
theorem dksX2_decryptBlock_3 : cX2_decryptBlock.data.toList.drop 71 = dktX2_decryptBlock_3 := dk_seg dksX2_decryptBlock_2 23 rfl rfl
theorem dksX2_decryptBlock_4 : cX2_decryptBlock.data.toList.drop 94 = dktX2_decryptBlock_4 := dk_seg dksX2_decryptBlock_3 23 rfl rfl
theorem dksX2_decryptBlock_5 : cX2_decryptBlock.data.toList.drop 118 = dktX2_decryptBlock_5 := dk_seg dksX2_decryptBlock_4 24 rfl rfl
theorem dksX2_decryptBlock_6 : cX2_decryptBlock.data.toList.drop 142 = dktX2_decryptBlock_6 := dk_seg dksX2_decryptBlock_5 24 rfl rfl
theorem dksX2_decryptBlock_7 : cX2_decryptBlock.data.toList.drop 166 = dktX2_decryptBlock_7 := dk_seg dksX2_decryptBlock_6 24 rfl rfl
theorem dksX2_decryptBlock_8 : cX2_decryptBlock.data.toList.drop 190 = dktX2_decryptBlock_8 := dk_seg dksX2_decryptBlock_7 24 rfl rfl
theorem dksX2_decryptBlock_9 : cX2_decryptBlock.data.toList.drop 213 = dktX2_decryptBlock_9 := dk_seg dksX2_decryptBlock_8 23 rfl rfl
theorem dksX2_decryptBlock_10 : cX2_decryptBlock.data.toList.drop 236 = dktX2_decryptBlock_10 := dk_seg dksX2_decryptBlock_9 23 rfl rfl
theorem dksX2_decryptBlock_11 : cX2_decryptBlock.data.toList.drop 260 = dktX2_decryptBlock_11 := dk_seg dksX2_decryptBlock_10 24 rfl rfl
theorem dX2_decryptBlock_0 : decode cX2_decryptBlock 0 = .ok (.aload_n 0, 1) := dk_42 (dk_at dksX2_decryptBlock_0 0 rfl rfl)
theorem dX2_decryptBlock_1 : decode cX2_decryptBlock 1 = .ok (.aload_n 1, 1) := dk_43 (dk_at dksX2_decryptBlock_0 1 rfl rfl)
theorem dX2_decryptBlock_2 : decode cX2_decryptBlock 2 = .ok (.iload_n 2, 1) := dk_28 (dk_at dksX2_decryptBlock_0 2 rfl rfl)
theorem dX2_decryptBlock_3 : decode cX2_decryptBlock 3 = .ok (.invokevirtual 66, 3) := dk_182 0 66 (dk_at dksX2_decryptBlock_0 3 rfl rfl)
theorem dX2_decryptBlock_6 : decode cX2_decryptBlock 6 = .ok (.istore 5, 2) := dk_54 5 (dk_at dksX2_decryptBlock_0 6 rfl rfl)
theorem dX2_decryptBlock_8 : decode cX2_decryptBlock 8 = .ok (.aload_n 0, 1) := dk_42 (dk_at dksX2_decryptBlock_0 8 rfl rfl)
theorem dX2_decryptBlock_9 : decode cX2_decryptBlock 9 = .ok (.aload_n 1, 1) := dk_43 (dk_at dksX2_decryptBlock_0 9 rfl rfl)
theorem dX2_decryptBlock_10 : decode cX2_decryptBlock 10 = .ok (.iload_n 2, 1) := dk_28 (dk_at dksX2_decryptBlock_0 10 rfl rfl)
theorem dX2_decryptBlock_11 : decode cX2_decryptBlock 11 = .ok (.iconst 4, 1) := dk_7 (dk_at dksX2_decryptBlock_0 11 rfl rfl)
theorem dX2_decryptBlock_12 : decode cX2_decryptBlock 12 = .ok (.iadd, 1) := dk_96 (dk_at dksX2_decryptBlock_0 12 rfl rfl)
theorem dX2_decryptBlock_13 : decode cX2_decryptBlock 13 = .ok (.invokevirtual 66, 3) := dk_182 0 66 (dk_at dksX2_decryptBlock_0 13 rfl rfl)
theorem dX2_decryptBlock_16 : decode cX2_decryptBlock 16 = .ok (.istore 6, 2) := dk_54 6 (dk_at dksX2_decryptBlock_0 16 rfl rfl)
theorem dX2_decryptBlock_18 : decode cX2_decryptBlock 18 = .ok (.aload_n 0, 1) := dk_42 (dk_at dksX2_decryptBlock_0 18 rfl rfl)
theorem dX2_decryptBlock_19 : decode cX2_decryptBlock 19 = .ok (.aload_n 1, 1) := dk_43 (dk_at dksX2_decryptBlock_0 19 rfl rfl)
theorem dX2_decryptBlock_20 : decode cX2_decryptBlock 20 = .ok (.iload_n 2, 1) := dk_28 (dk_at dksX2_decryptBlock_0 20 rfl rfl)
theorem dX2_decryptBlock_21 : decode cX2_decryptBlock 21 = .ok (.bipush 8, 2) := dk_16 8 (dk_at dksX2_decryptBlock_0 21 rfl rfl)
theorem dX2_decryptBlock_23 : decode cX2_decryptBlock 23 = .ok (.iadd, 1) := dk_96 (dk_at dksX2_decryptBlock_0 23 rfl rfl)
theorem dX2_decryptBlock_24 : decode cX2_decryptBlock 24 = .ok (.invokevirtual 66, 3) := dk_182 0 66 (dk_at dksX2_decryptBlock_1 0 rfl rfl)
theorem dX2_decryptBlock_27 : decode cX2_decryptBlock 27 = .ok (.istore 7, 2) := dk_54 7 (dk_at dksX2_decryptBlock_1 3 rfl rfl)
theorem dX2_decryptBlock_29 : decode cX2_decryptBlock 29 = .ok (.aload_n 0, 1) := dk_42 (dk_at dksX2_decryptBlock_1 5 rfl rfl)
theorem dX2_decryptBlock_30 : decode cX2_decryptBlock 30 = .ok (.aload_n 1, 1) := dk_43 (dk_at dksX2_decryptBlock_1 6 rfl rfl)
theorem dX2_decryptBlock_31 : decode cX2_decryptBlock 31 = .ok (.iload_n 2, 1) := dk_28 (dk_at dksX2_decryptBlock_1 7 rfl rfl)
theorem dX2_decryptBlock_32 : decode cX2_decryptBlock 32 = .ok (.bipush 12, 2) := dk_16 12 (dk_at dksX2_decryptBlock_1 8 rfl rfl)
theorem dX2_decryptBlock_34 : decode cX2_decryptBlock 34 = .ok (.iadd, 1) := dk_96 (dk_at dksX2_decryptBlock_1 10 rfl rfl)
theorem dX2_decryptBlock_35 : decode cX2_decryptBlock 35 = .ok (.invokevirtual 66, 3) := dk_182 0 66 (dk_at dksX2_decryptBlock_1 11 rfl rfl)
theorem dX2_decryptBlock_38 : decode cX2_decryptBlock 38 = .ok (.istore 8, 2) := dk_54 8 (dk_at dksX2_decryptBlock_1 14 rfl rfl)
theorem dX2_decryptBlock_40 : decode cX2_decryptBlock 40 = .ok (.iload 7, 2) := dk_21 7 (dk_at dksX2_decryptBlock_1 16 rfl rfl)
theorem dX2_decryptBlock_42 : decode cX2_decryptBlock 42 = .ok (.aload_n 0, 1) := dk_42 (dk_at dksX2_decryptBlock_1 18 rfl rfl)
theorem dX2_decryptBlock_43 : decode cX2_decryptBlock 43 = .ok (.getfield 9, 3) := dk_180 0 9 (dk_at dksX2_decryptBlock_1 19 rfl rfl)
theorem dX2_decryptBlock_46 : decode cX2_decryptBlock 46 = .ok (.bipush 43, 2) := dk_16 43 (dk_at dksX2_decryptBlock_1 22 rfl rfl)
theorem dX2_decryptBlock_48 : decode cX2_decryptBlock 48 = .ok (.iaload, 1) := dk_46 (dk_at dksX2_decryptBlock_2 0 rfl rfl)
theorem dX2_decryptBlock_49 : decode cX2_decryptBlock 49 = .ok (.isub, 1) := dk_100 (dk_at dksX2_decryptBlock_2 1 rfl rfl)
theorem dX2_decryptBlock_50 : decode cX2_decryptBlock 50 = .ok (.istore 7, 2) := dk_54 7 (dk_at dksX2_decryptBlock_2 2 rfl rfl)
theorem dX2_decryptBlock_52 : decode cX2_decryptBlock 52 = .ok (.iload 5, 2) := dk_21 5 (dk_at dksX2_decryptBlock_2 4 rfl rfl)
theorem dX2_decryptBlock_54 : decode cX2_decryptBlock 54 = .ok (.aload_n 0, 1) := dk_42 (dk_at dksX2_decryptBlock_2 6 rfl rfl)
theorem dX2_decryptBlock_55 : decode cX2_decryptBlock 55 = .ok (.getfield 9, 3) := dk_180 0 9 (dk_at dksX2_decryptBlock_2 7 rfl rfl)
theorem dX2_decryptBlock_58 : decode cX2_decryptBlock 58 = .ok (.bipush 42, 2) := dk_16 42 (dk_at dksX2_decryptBlock_2 10 rfl rfl)
theorem dX2_decryptBlock_60 : decode cX2_decryptBlock 60 = .ok (.iaload, 1) := dk_46 (dk_at dksX2_decryptBlock_2 12 rfl rfl)
theorem dX2_decryptBlock_61 : decode cX2_decryptBlock 61 = .ok (.isub, 1) := dk_100 (dk_at dksX2_decryptBlock_2 13 rfl rfl)
theorem dX2_decryptBlock_62 : decode cX2_decryptBlock 62 = .ok (.istore 5, 2) := dk_54 5 (dk_at dksX2_decryptBlock_2 14 rfl rfl)
theorem dX2_decryptBlock_64 : decode cX2_decryptBlock 64 = .ok (.bipush 20, 2) := dk_16 20 (dk_at dksX2_decryptBlock_2 16 rfl rfl)
theorem dX2_decryptBlock_66 : decode cX2_decryptBlock 66 = .ok (.istore 9, 2) := dk_54 9 (dk_at dksX2_decryptBlock_2 18 rfl rfl)
theorem dX2_decryptBlock_68 : decode cX2_decryptBlock 68 = .ok (.iload 9, 2) := dk_21 9 (dk_at dksX2_decryptBlock_2 20 rfl rfl)
theorem dX2_decryptBlock_70 : decode cX2_decryptBlock 70 = .ok (.iconst 1, 1) := dk_4 (dk_at dksX2_decryptBlock_2 22 rfl rfl)
theorem dX2_decryptBlock_71 : decode cX2_decryptBlock 71 = .ok (.if_icmp .lt 139, 3) := dk_161 0 139 (dk_at dksX2_decryptBlock_3 0 rfl rfl)
theorem dX2_decryptBlock_74 : decode cX2_decryptBlock 74 = .ok (.iconst 0, 1) := dk_3 (dk_at dksX2_decryptBlock_3 3 rfl rfl)
theorem dX2_decryptBlock_75 : decode cX2_decryptBlock 75 = .ok (.istore 10, 2) := dk_54 10 (dk_at dksX2_decryptBlock_3 4 rfl rfl)
theorem dX2_decryptBlock_77 : decode cX2_decryptBlock 77 = .ok (.iconst 0, 1) := dk_3 (dk_at dksX2_decryptBlock_3 6 rfl rfl)
theorem dX2_decryptBlock_78 : decode cX2_decryptBlock 78 = .ok (.istore 11, 2) := dk_54 11 (dk_at dksX2_decryptBlock_3 7 rfl rfl)
theorem dX2_decryptBlock_80 : decode cX2_decryptBlock 80 = .ok (.iload 8, 2) := dk_21 8 (dk_at dksX2_decryptBlock_3 9 rfl rfl)
theorem dX2_decryptBlock_82 : decode cX2_decryptBlock 82 = .ok (.istore 12, 2) := dk_54 12 (dk_at dksX2_decryptBlock_3 11 rfl rfl)
theorem dX2_decryptBlock_84 : decode cX2_decryptBlock 84 = .ok (.iload 7, 2) := dk_21 7 (dk_at dksX2_decryptBlock_3 13 rfl rfl)
theorem dX2_decryptBlock_86 : decode cX2_decryptBlock 86 = .ok (.istore 8, 2) := dk_54 8 (dk_at dksX2_decryptBlock_3 15 rfl rfl)
theorem dX2_decryptBlock_88 : decode cX2_decryptBlock 88 = .ok (.iload 6, 2) := dk_21 6 (dk_at dksX2_decryptBlock_3 17 rfl rfl)
theorem dX2_decryptBlock_90 : decode cX2_decryptBlock 90 = .ok (.istore 7, 2) := dk_54 7 (dk_at dksX2_decryptBlock_3 19 rfl rfl)
theorem dX2_decryptBlock_92 : decode cX2_decryptBlock 92 = .ok (.iload 5, 2) := dk_21 5 (dk_at dksX2_decryptBlock_3 21 rfl rfl)
theorem dX2_decryptBlock_94 : decode cX2_decryptBlock 94 = .ok (.istore 6, 2) := dk_54 6 (dk_at dksX2_decryptBlock_4 0 rfl rfl)
theorem dX2_decryptBlock_96 : decode cX2_decryptBlock 96 = .ok (.iload 12, 2) := dk_21 12 (dk_at dksX2_decryptBlock_4 2 rfl rfl)
theorem dX2_decryptBlock_98 : decode cX2_decryptBlock 98 = .ok (.istore 5, 2) := dk_54 5 (dk_at dksX2_decryptBlock_4 4 rfl rfl)
theorem dX2_decryptBlock_100 : decode cX2_decryptBlock 100 = .ok (.iload 6, 2) := dk_21 6 (dk_at dksX2_decryptBlock_4 6 rfl rfl)
theorem dX2_decryptBlock_102 : decode cX2_decryptBlock 102 = .ok (.iconst 2, 1) := dk_5 (dk_at dksX2_decryptBlock_4 8 rfl rfl)
theorem dX2_decryptBlock_103 : decode cX2_decryptBlock 103 = .ok (.iload 6, 2) := dk_21 6 (dk_at dksX2_decryptBlock_4 9 rfl rfl)
theorem dX2_decryptBlock_105 : decode cX2_decryptBlock 105 = .ok (.imul, 1) := dk_104 (dk_at dksX2_decryptBlock_4 11 rfl rfl)
theorem dX2_decryptBlock_106 : decode cX2_decryptBlock 106 = .ok (.iconst 1, 1) := dk_4 (dk_at dksX2_decryptBlock_4 12 rfl rfl)
theorem dX2_decryptBlock_107 : decode cX2_decryptBlock 107 = .ok (.iadd, 1) := dk_96 (dk_at dksX2_decryptBlock_4 13 rfl rfl)
theorem dX2_decryptBlock_108 : decode cX2_decryptBlock 108 = .ok (.imul, 1) := dk_104 (dk_at dksX2_decryptBlock_4 14 rfl rfl)
theorem dX2_decryptBlock_109 : decode cX2_decryptBlock 109 = .ok (.istore 10, 2) := dk_54 10 (dk_at dksX2_decryptBlock_4 15 rfl rfl)
theorem dX2_decryptBlock_111 : decode cX2_decryptBlock 111 = .ok (.aload_n 0, 1) := dk_42 (dk_at dksX2_decryptBlock_4 17 rfl rfl)
theorem dX2_decryptBlock_112 : decode cX2_decryptBlock 112 = .ok (.iload 10, 2) := dk_21 10 (dk_at dksX2_decryptBlock_4 18 rfl rfl)
theorem dX2_decryptBlock_114 : decode cX2_decryptBlock 114 = .ok (.iconst 5, 1) := dk_8 (dk_at dksX2_decryptBlock_4 20 rfl rfl)
theorem dX2_decryptBlock_115 : decode cX2_decryptBlock 115 = .ok (.invokevirtual 62, 3) := dk_182 0 62 (dk_at dksX2_decryptBlock_4 21 rfl rfl)
theorem dX2_decryptBlock_118 : decode cX2_decryptBlock 118 = .ok (.istore 10, 2) := dk_54 10 (dk_at dksX2_decryptBlock_5 0 rfl rfl)
theorem dX2_decryptBlock_120 : decode cX2_decryptBlock 120 = .ok (.iload 8, 2) := dk_21 8 (dk_at dksX2_decryptBlock_5 2 rfl rfl)
theorem dX2_decryptBlock_122 : decode cX2_decryptBlock 122 = .ok (.iconst 2, 1) := dk_5 (dk_at dksX2_decryptBlock_5 4 rfl rfl)
theorem dX2_decryptBlock_123 : decode cX2_decryptBlock 123 = .ok (.iload 8, 2) := dk_21 8 (dk_at dksX2_decryptBlock_5 5 rfl rfl)
theorem dX2_decryptBlock_125 : decode cX2_decryptBlock 125 = .ok (.imul, 1) := dk_104 (dk_at dksX2_decryptBlock_5 7 rfl rfl)
theorem dX2_decryptBlock_126 : decode cX2_decryptBlock 126 = .ok (.iconst 1, 1) := dk_4 (dk_at dksX2_decryptBlock_5 8 rfl rfl)
theorem dX2_decryptBlock_127 : decode cX2_decryptBlock 127 = .ok (.iadd, 1) := dk_96 (dk_at dksX2_decryptBlock_5 9 rfl rfl)
theorem dX2_decryptBlock_128 : decode cX2_decryptBlock 128 = .ok (.imul, 1) := dk_104 (dk_at dksX2_decryptBlock_5 10 rfl rfl)
theorem dX2_decryptBlock_129 : decode cX2_decryptBlock 129 = .ok (.istore 11, 2) := dk_54 11 (dk_at dksX2_decryptBlock_5 11 rfl rfl)
theorem dX2_decryptBlock_131 : decode cX2_decryptBlock 131 = .ok (.aload_n 0, 1) := dk_42 (dk_at dksX2_decryptBlock_5 13 rfl rfl)
theorem dX2_decryptBlock_132 : decode cX2_decryptBlock 132 = .ok (.iload 11, 2) := dk_21 11 (dk_at dksX2_decryptBlock_5 14 rfl rfl)
theorem dX2_decryptBlock_134 : decode cX2_decryptBlock 134 = .ok (.iconst 5, 1) := dk_8 (dk_at dksX2_decryptBlock_5 16 rfl rfl)
theorem dX2_decryptBlock_135 : decode cX2_decryptBlock 135 = .ok (.invokevirtual 62, 3) := dk_182 0 62 (dk_at dksX2_decryptBlock_5 17 rfl rfl)
theorem dX2_decryptBlock_138 : decode cX2_decryptBlock 138 = .ok (.istore 11, 2) := dk_54 11 (dk_at dksX2_decryptBlock_5 20 rfl rfl)
theorem dX2_decryptBlock_140 : decode cX2_decryptBlock 140 = .ok (.iload 7, 2) := dk_21 7 (dk_at dksX2_decryptBlock_5 22 rfl rfl)
theorem dX2_decryptBlock_142 : decode cX2_decryptBlock 142 = .ok (.aload_n 0, 1) := dk_42 (dk_at dksX2_decryptBlock_6 0 rfl rfl)
theorem dX2_decryptBlock_143 : decode cX2_decryptBlock 143 = .ok (.getfield 9, 3) := dk_180 0 9 (dk_at dksX2_decryptBlock_6 1 rfl rfl)
theorem dX2_decryptBlock_146 : decode cX2_decryptBlock 146 = .ok (.iconst 2, 1) := dk_5 (dk_at dksX2_decryptBlock_6 4 rfl rfl)
theorem dX2_decryptBlock_147 : decode cX2_decryptBlock 147 = .ok (.iload 9, 2) := dk_21 9 (dk_at dksX2_decryptBlock_6 5 rfl rfl)
theorem dX2_decryptBlock_149 : decode cX2_decryptBlock 149 = .ok (.imul, 1) := dk_104 (dk_at dksX2_decryptBlock_6 7 rfl rfl)
theorem dX2_decryptBlock_150 : decode cX2_decryptBlock 150 = .ok (.iconst 1, 1) := dk_4 (dk_at dksX2_decryptBlock_6 8 rfl rfl)
theorem dX2_decryptBlock_151 : decode cX2_decryptBlock 151 = .ok (.iadd, 1) := dk_96 (dk_at dksX2_decryptBlock_6 9 rfl rfl)
theorem dX2_decryptBlock_152 : decode cX2_decryptBlock 152 = .ok (.iaload, 1) := dk_46 (dk_at dksX2_decryptBlock_6 10 rfl rfl)
theorem dX2_decryptBlock_153 : decode cX2_decryptBlock 153 = .ok (.isub, 1) := dk_100 (dk_at dksX2_decryptBlock_6 11 rfl rfl)
theorem dX2_decryptBlock_154 : decode cX2_decryptBlock 154 = .ok (.istore 7, 2) := dk_54 7 (dk_at dksX2_decryptBlock_6 12 rfl rfl)
theorem dX2_decryptBlock_156 : decode cX2_decryptBlock 156 = .ok (.aload_n 0, 1) := dk_42 (dk_at dksX2_decryptBlock_6 14 rfl rfl)
theorem dX2_decryptBlock_157 : decode cX2_decryptBlock 157 = .ok (.iload 7, 2) := dk_21 7 (dk_at dksX2_decryptBlock_6 15 rfl rfl)
theorem dX2_decryptBlock_159 : decode cX2_decryptBlock 159 = .ok (.iload 10, 2) := dk_21 10 (dk_at dksX2_decryptBlock_6 17 rfl rfl)
theorem dX2_decryptBlock_161 : decode cX2_decryptBlock 161 = .ok (.invokevirtual 74, 3) := dk_182 0 74 (dk_at dksX2_decryptBlock_6 19 rfl rfl)
theorem dX2_decryptBlock_164 : decode cX2_decryptBlock 164 = .ok (.istore 7, 2) := dk_54 7 (dk_at dksX2_decryptBlock_6 22 rfl rfl)
theorem dX2_decryptBlock_166 : decode cX2_decryptBlock 166 = .ok (.iload 7, 2) := dk_21 7 (dk_at dksX2_decryptBlock_7 0 rfl rfl)
theorem dX2_decryptBlock_168 : decode cX2_decryptBlock 168 = .ok (.iload 11, 2) := dk_21 11 (dk_at dksX2_decryptBlock_7 2 rfl rfl)
theorem dX2_decryptBlock_170 : decode cX2_decryptBlock 170 = .ok (.ixor, 1) := dk_130 (dk_at dksX2_decryptBlock_7 4 rfl rfl)
theorem dX2_decryptBlock_171 : decode cX2_decryptBlock 171 = .ok (.istore 7, 2) := dk_54 7 (dk_at dksX2_decryptBlock_7 5 rfl rfl)
theorem dX2_decryptBlock_173 : decode cX2_decryptBlock 173 = .ok (.iload 5, 2) := dk_21 5 (dk_at dksX2_decryptBlock_7 7 rfl rfl)
theorem dX2_decryptBlock_175 : decode cX2_decryptBlock 175 = .ok (.aload_n 0, 1) := dk_42 (dk_at dksX2_decryptBlock_7 9 rfl rfl)
theorem dX2_decryptBlock_176 : decode cX2_decryptBlock 176 = .ok (.getfield 9, 3) := dk_180 0 9 (dk_at dksX2_decryptBlock_7 10 rfl rfl)
theorem dX2_decryptBlock_179 : decode cX2_decryptBlock 179 = .ok (.iconst 2, 1) := dk_5 (dk_at dksX2_decryptBlock_7 13 rfl rfl)
theorem dX2_decryptBlock_180 : decode cX2_decryptBlock 180 = .ok (.iload 9, 2) := dk_21 9 (dk_at dksX2_decryptBlock_7 14 rfl rfl)
theorem dX2_decryptBlock_182 : decode cX2_decryptBlock 182 = .ok (.imul, 1) := dk_104 (dk_at dksX2_decryptBlock_7 16 rfl rfl)
theorem dX2_decryptBlock_183 : decode cX2_decryptBlock 183 = .ok (.iaload, 1) := dk_46 (dk_at dksX2_decryptBlock_7 17 rfl rfl)
theorem dX2_decryptBlock_184 : decode cX2_decryptBlock 184 = .ok (.isub, 1) := dk_100 (dk_at dksX2_decryptBlock_7 18 rfl rfl)
theorem dX2_decryptBlock_185 : decode cX2_decryptBlock 185 = .ok (.istore 5, 2) := dk_54 5 (dk_at dksX2_decryptBlock_7 19 rfl rfl)
theorem dX2_decryptBlock_187 : decode cX2_decryptBlock 187 = .ok (.aload_n 0, 1) := dk_42 (dk_at dksX2_decryptBlock_7 21 rfl rfl)
theorem dX2_decryptBlock_188 : decode cX2_decryptBlock 188 = .ok (.iload 5, 2) := dk_21 5 (dk_at dksX2_decryptBlock_7 22 rfl rfl)
theorem dX2_decryptBlock_190 : decode cX2_decryptBlock 190 = .ok (.iload 11, 2) := dk_21 11 (dk_at dksX2_decryptBlock_8 0 rfl rfl)
theorem dX2_decryptBlock_192 : decode cX2_decryptBlock 192 = .ok (.invokevirtual 74, 3) := dk_182 0 74 (dk_at dksX2_decryptBlock_8 2 rfl rfl)
theorem dX2_decryptBlock_195 : decode cX2_decryptBlock 195 = .ok (.istore 5, 2) := dk_54 5 (dk_at dksX2_decryptBlock_8 5 rfl rfl)
theorem dX2_decryptBlock_197 : decode cX2_decryptBlock 197 = .ok (.iload 5, 2) := dk_21 5 (dk_at dksX2_decryptBlock_8 7 rfl rfl)
theorem dX2_decryptBlock_199 : decode cX2_decryptBlock 199 = .ok (.iload 10, 2) := dk_21 10 (dk_at dksX2_decryptBlock_8 9 rfl rfl)
theorem dX2_decryptBlock_201 : decode cX2_decryptBlock 201 = .ok (.ixor, 1) := dk_130 (dk_at dksX2_decryptBlock_8 11 rfl rfl)
theorem dX2_decryptBlock_202 : decode cX2_decryptBlock 202 = .ok (.istore 5, 2) := dk_54 5 (dk_at dksX2_decryptBlock_8 12 rfl rfl)
theorem dX2_decryptBlock_204 : decode cX2_decryptBlock 204 = .ok (.iinc 9 (-1), 3) := dk_132 9 255 (dk_at dksX2_decryptBlock_8 14 rfl rfl)
theorem dX2_decryptBlock_207 : decode cX2_decryptBlock 207 = .ok (.goto (-139), 3) := dk_167 255 117 (dk_at dksX2_decryptBlock_8 17 rfl rfl)
theorem dX2_decryptBlock_210 : decode cX2_decryptBlock 210 = .ok (.iload 8, 2) := dk_21 8 (dk_at dksX2_decryptBlock_8 20 rfl rfl)
theorem dX2_decryptBlock_212 : decode cX2_decryptBlock 212 = .ok (.aload_n 0, 1) := dk_42 (dk_at dksX2_decryptBlock_8 22 rfl rfl)
theorem dX2_decryptBlock_213 : decode cX2_decryptBlock 213 = .ok (.getfield 9, 3) := dk_180 0 9 (dk_at dksX2_decryptBlock_9 0 rfl rfl)
theorem dX2_decryptBlock_216 : decode cX2_decryptBlock 216 = .ok (.iconst 1, 1) := dk_4 (dk_at dksX2_decryptBlock_9 3 rfl rfl)
theorem dX2_decryptBlock_217 : decode cX2_decryptBlock 217 = .ok (.iaload, 1) := dk_46 (dk_at dksX2_decryptBlock_9 4 rfl rfl)
theorem dX2_decryptBlock_218 : decode cX2_decryptBlock 218 = .ok (.isub, 1) := dk_100 (dk_at dksX2_decryptBlock_9 5 rfl rfl)
theorem dX2_decryptBlock_219 : decode cX2_decryptBlock 219 = .ok (.istore 8, 2) := dk_54 8 (dk_at dksX2_decryptBlock_9 6 rfl rfl)
theorem dX2_decryptBlock_221 : decode cX2_decryptBlock 221 = .ok (.iload 6, 2) := dk_21 6 (dk_at dksX2_decryptBlock_9 8 rfl rfl)
theorem dX2_decryptBlock_223 : decode cX2_decryptBlock 223 = .ok (.aload_n 0, 1) := dk_42 (dk_at dksX2_decryptBlock_9 10 rfl rfl)
theorem dX2_decryptBlock_224 : decode cX2_decryptBlock 224 = .ok (.getfield 9, 3) := dk_180 0 9 (dk_at dksX2_decryptBlock_9 11 rfl rfl)
theorem dX2_decryptBlock_227 : decode cX2_decryptBlock 227 = .ok (.iconst 0, 1) := dk_3 (dk_at dksX2_decryptBlock_9 14 rfl rfl)
theorem dX2_decryptBlock_228 : decode cX2_decryptBlock 228 = .ok (.iaload, 1) := dk_46 (dk_at dksX2_decryptBlock_9 15 rfl rfl)
theorem dX2_decryptBlock_229 : decode cX2_decryptBlock 229 = .ok (.isub, 1) := dk_100 (dk_at dksX2_decryptBlock_9 16 rfl rfl)
theorem dX2_decryptBlock_230 : decode cX2_decryptBlock 230 = .ok (.istore 6, 2) := dk_54 6 (dk_at dksX2_decryptBlock_9 17 rfl rfl)
theorem dX2_decryptBlock_232 : decode cX2_decryptBlock 232 = .ok (.aload_n 0, 1) := dk_42 (dk_at dksX2_decryptBlock_9 19 rfl rfl)
theorem dX2_decryptBlock_233 : decode cX2_decryptBlock 233 = .ok (.iload 5, 2) := dk_21 5 (dk_at dksX2_decryptBlock_9 20 rfl rfl)
theorem dX2_decryptBlock_235 : decode cX2_decryptBlock 235 = .ok (.aload_n 3, 1) := dk_45 (dk_at dksX2_decryptBlock_9 22 rfl rfl)
theorem dX2_decryptBlock_236 : decode cX2_decryptBlock 236 = .ok (.iload 4, 2) := dk_21 4 (dk_at dksX2_decryptBlock_10 0 rfl rfl)
theorem dX2_decryptBlock_238 : decode cX2_decryptBlock 238 = .ok (.invokevirtual 70, 3) := dk_182 0 70 (dk_at dksX2_decryptBlock_10 2 rfl rfl)
theorem dX2_decryptBlock_241 : decode cX2_decryptBlock 241 = .ok (.aload_n 0, 1) := dk_42 (dk_at dksX2_decryptBlock_10 5 rfl rfl)
theorem dX2_decryptBlock_242 : decode cX2_decryptBlock 242 = .ok (.iload 6, 2) := dk_21 6 (dk_at dksX2_decryptBlock_10 6 rfl rfl)
theorem dX2_decryptBlock_244 : decode cX2_decryptBlock 244 = .ok (.aload_n 3, 1) := dk_45 (dk_at dksX2_decryptBlock_10 8 rfl rfl)
theorem dX2_decryptBlock_245 : decode cX2_decryptBlock 245 = .ok (.iload 4, 2) := dk_21 4 (dk_at dksX2_decryptBlock_10 9 rfl rfl)
theorem dX2_decryptBlock_247 : decode cX2_decryptBlock 247 = .ok (.iconst 4, 1) := dk_7 (dk_at dksX2_decryptBlock_10 11 rfl rfl)
theorem dX2_decryptBlock_248 : decode cX2_decryptBlock 248 = .ok (.iadd, 1) := dk_96 (dk_at dksX2_decryptBlock_10 12 rfl rfl)
theorem dX2_decryptBlock_249 : decode cX2_decryptBlock 249 = .ok (.invokevirtual 70, 3) := dk_182 0 70 (dk_at dksX2_decryptBlock_10 13 rfl rfl)
theorem dX2_decryptBlock_252 : decode cX2_decryptBlock 252 = .ok (.aload_n 0, 1) := dk_42 (dk_at dksX2_decryptBlock_10 16 rfl rfl)
theorem dX2_decryptBlock_253 : decode cX2_decryptBlock 253 = .ok (.iload 7, 2) := dk_21 7 (dk_at dksX2_decryptBlock_10 17 rfl rfl)
theorem dX2_decryptBlock_255 : decode cX2_decryptBlock 255 = .ok (.aload_n 3, 1) := dk_45 (dk_at dksX2_decryptBlock_10 19 rfl rfl)
theorem dX2_decryptBlock_256 : decode cX2_decryptBlock 256 = .ok (.iload 4, 2) := dk_21 4 (dk_at dksX2_decryptBlock_10 20 rfl rfl)
theorem dX2_decryptBlock_258 : decode cX2_decryptBlock 258 = .ok (.bipush 8, 2) := dk_16 8 (dk_at dksX2_decryptBlock_10 22 rfl rfl)
theorem dX2_decryptBlock_260 : decode cX2_decryptBlock 260 = .ok (.iadd, 1) := dk_96 (dk_at dksX2_decryptBlock_11 0 rfl rfl)
theorem dX2_decryptBlock_261 : decode cX2_decryptBlock 261 = .ok (.invokevirtual 70, 3) := dk_182 0 70 (dk_at dksX2_decryptBlock_11 1 rfl rfl)
theorem dX2_decryptBlock_264 : decode cX2_decryptBlock 264 = .ok (.aload_n 0, 1) := dk_42 (dk_at dksX2_decryptBlock_11 4 rfl rfl)
theorem dX2_decryptBlock_265 : decode cX2_decryptBlock 265 = .ok (.iload 8, 2) := dk_21 8 (dk_at dksX2_decryptBlock_11 5 rfl rfl)
theorem dX2_decryptBlock_267 : decode cX2_decryptBlock 267 = .ok (.aload_n 3, 1) := dk_45 (dk_at dksX2_decryptBlock_11 7 rfl rfl)
theorem dX2_decryptBlock_268 : decode cX2_decryptBlock 268 = .ok (.iload 4, 2) := dk_21 4 (dk_at dksX2_decryptBlock_11 8 rfl rfl)
theorem dX2_decryptBlock_270 : decode cX2_decryptBlock 270 = .ok (.bipush 12, 2) := dk_16 12 (dk_at dksX2_decryptBlock_11 10 rfl rfl)
theorem dX2_decryptBlock_272 : decode cX2_decryptBlock 272 = .ok (.iadd, 1) := dk_96 (dk_at dksX2_decryptBlock_11 12 rfl rfl)
theorem dX2_decryptBlock_273 : decode cX2_decryptBlock 273 = .ok (.invokevirtual 70, 3) := dk_182 0 70 (dk_at dksX2_decryptBlock_11 13 rfl rfl)
theorem dX2_decryptBlock_276 : decode cX2_decryptBlock 276 = .ok (.bipush 16, 2) := dk_16 16 (dk_at dksX2_decryptBlock_11 16 rfl rfl)
theorem dX2_decryptBlock_278 : decode cX2_decryptBlock 278 = .ok (.ireturn, 1) := dk_172 (dk_at dksX2_decryptBlock_11 18 rfl rfl)
abbrev cX2_rotateRight : ByteArray := prog_6_method_9_code
def yX2_rotateRight : MethodName := ⟨RX2, "rotateRight", "(II)I"⟩
def dkwX2_rotateRight_0 : List UInt8 := [27, 28, 124, 27, 28, 116, 120, 128, 172]
abbrev dktX2_rotateRight_0 : List UInt8 := dkwX2_rotateRight_0 ++ []
theorem dksX2_rotateRight_0 : cX2_rotateRight.data.toList.drop 0 = dktX2_rotateRight_0 := by decide +kernel
theorem dX2_rotateRight_0 : decode cX2_rotateRight 0 = .ok (.iload_n 1, 1) := dk_27 (dk_at dksX2_rotateRight_0 0 rfl rfl)
theorem dX2_rotateRight_1 : decode cX2_rotateRight 1 = .ok (.iload_n 2, 1) := dk_28 (dk_at dksX2_rotateRight_0 1 rfl rfl)
theorem dX2_rotateRight_2 : decode cX2_rotateRight 2 = .ok (.iushr, 1) := dk_124 (dk_at dksX2_rotateRight_0 2 rfl rfl)
theorem dX2_rotateRight_3 : decode cX2_rotateRight 3 = .ok (.iload_n 1, 1) := dk_27 (dk_at dksX2_rotateRight_0 3 rfl rfl)
theorem dX2_rotateRight_4 : decode cX2_rotateRight 4 = .ok (.iload_n 2, 1) := dk_28 (dk_at dksX2_rotateRight_0 4 rfl rfl)
theorem dX2_rotateRight_5 : decode cX2_rotateRight 5 = .ok (.ineg, 1) := dk_116 (dk_at dksX2_rotateRight_0 5 rfl rfl)
theorem dX2_rotateRight_6 : decode cX2_rotateRight 6 = .ok (.ishl, 1) := dk_120 (dk_at dksX2_rotateRight_0 6 rfl rfl)
theorem dX2_rotateRight_7 : decode cX2_rotateRight 7 = .ok (.ior, 1) := dk_128 (dk_at dksX2_rotateRight_0 7 rfl rfl)
theorem dX2_rotateRight_8 : decode cX2_rotateRight 8 = .ok (.ireturn, 1) := dk_172 (dk_at dksX2_rotateRight_0 8 rfl rfl)
theorem q15 : (Jvm.Cond.initialized "RC6Engine") ∈ lw_all := lw_g (lw_at lw_m1 3 rfl) rfl
theorem q68 : (Jvm.Cond.instantiable "RC6Engine" (2 : Nat)) ∈ lw_all := lw_g (lw_at lw_m1 56 rfl) rfl
theorem q70 : (Jvm.Cond.instanceMethod ({ cls := "RC6Engine", name := "<init>", desc := "()V" } : Jvm.MethodName)) ∈ lw_all := lw_g (lw_at lw_m1 58 rfl) rfl
theorem q71 : (Jvm.Cond.code ({ cls := "RC6Engine", name := "<init>", desc := "()V" } : Jvm.MethodName) prog_6_method_1_code (1 : Nat) (Option.none : Option Jvm.ClassFile.FieldType)) ∈ lw_all := lw_g (lw_at lw_m1 59 rfl) rfl
theorem q72 : (Jvm.Cond.methodLink "RC6Engine" (3 : Nat) ({ cls := "java/lang/Object", name := "<init>", desc := "()V" } : Jvm.MethodName)) ∈ lw_all := lw_g (lw_at lw_m1 60 rfl) rfl
theorem q73 : (Jvm.Cond.fieldLink "RC6Engine" (9 : Nat) "RC6Engine" "_S" "[I") ∈ lw_all := lw_g (lw_at lw_m1 61 rfl) rfl
theorem q74 : (Jvm.Cond.fieldLink "RC6Engine" (22 : Nat) "RC6Engine" "forEncryption" "Z") ∈ lw_all := lw_g (lw_at lw_m1 62 rfl) rfl
theorem q75 : (Jvm.Cond.lays "RC6Engine" "RC6Engine" "_S" "[I") ∈ lw_all := lw_g (lw_at lw_m1 63 rfl) rfl
theorem q76 : (Jvm.Cond.soleField "RC6Engine" "_S") ∈ lw_all := lw_g (lw_at lw_m1 64 rfl) rfl
theorem q77 : (Jvm.Cond.lays "RC6Engine" "RC6Engine" "forEncryption" "Z") ∈ lw_all := lw_g (lw_at lw_m1 65 rfl) rfl
theorem q78 : (Jvm.Cond.soleField "RC6Engine" "forEncryption") ∈ lw_all := lw_g (lw_at lw_m1 66 rfl) rfl
theorem q79 : (Jvm.Cond.superclass "RC6Engine" "java/lang/Object") ∈ lw_all := lw_g (lw_at lw_m1 67 rfl) rfl
theorem q103 : (Jvm.Cond.castable "RC6Engine" "BlockCipher") ∈ lw_tbl := lw_at lw_m1 91 rfl
theorem q104 : (Jvm.Cond.selects "RC6Engine" ({ cls := "BlockCipher", name := "init", desc := "(ZLCipherParameters;)V" } : Jvm.MethodName) ({ cls := "RC6Engine", name := "init", desc := "(ZLCipherParameters;)V" } : Jvm.MethodName)) ∈ lw_all := lw_g (lw_at lw_m1 92 rfl) rfl
theorem q105 : (Jvm.Cond.unhidden "RC6Engine" "init" "(ZLCipherParameters;)V") ∈ lw_tbl := lw_at lw_m1 93 rfl
theorem q106 : (Jvm.Cond.instanceMethod ({ cls := "RC6Engine", name := "init", desc := "(ZLCipherParameters;)V" } : Jvm.MethodName)) ∈ lw_all := lw_g (lw_at lw_m1 94 rfl) rfl
theorem q107 : (Jvm.Cond.publicMethod ({ cls := "RC6Engine", name := "init", desc := "(ZLCipherParameters;)V" } : Jvm.MethodName)) ∈ lw_tbl := lw_at lw_m1 95 rfl
theorem q108 : (Jvm.Cond.code ({ cls := "RC6Engine", name := "init", desc := "(ZLCipherParameters;)V" } : Jvm.MethodName) prog_6_method_3_code (5 : Nat) (Option.none : Option Jvm.ClassFile.FieldType)) ∈ lw_all := lw_g (lw_at lw_m1 96 rfl) rfl
theorem q109 : (Jvm.Cond.classLink "RC6Engine" (13 : Nat) "KeyParameter") ∈ lw_all := lw_g (lw_at lw_m1 97 rfl) rfl
theorem q110 : (Jvm.Cond.classLink "RC6Engine" (15 : Nat) "java/lang/IllegalArgumentException") ∈ lw_all := lw_g (lw_at lw_m1 98 rfl) rfl
theorem q152 : (Jvm.Cond.stringRef "RC6Engine" (17 : Nat) "left out") ∈ lw_tbl := lw_at lw_m1 140 rfl
theorem q153 : (Jvm.Cond.methodLink "RC6Engine" (19 : Nat) ({ cls := "java/lang/IllegalArgumentException", name := "<init>", desc := "(Ljava/lang/String;)V" } : Jvm.MethodName)) ∈ lw_all := lw_g (lw_at lw_m1 141 rfl) rfl
theorem q178 : (Jvm.Cond.methodLink "RC6Engine" (26 : Nat) ({ cls := "KeyParameter", name := "getKey", desc := "()[B" } : Jvm.MethodName)) ∈ lw_all := lw_g (lw_at lw_m1 166 rfl) rfl
theorem q182 : (Jvm.Cond.methodLink "RC6Engine" (30 : Nat) ({ cls := "RC6Engine", name := "setKey", desc := "([B)V" } : Jvm.MethodName)) ∈ lw_all := lw_g (lw_at lw_m1 170 rfl) rfl
theorem q183 : (Jvm.Cond.privateMethod ({ cls := "RC6Engine", name := "setKey", desc := "([B)V" } : Jvm.MethodName)) ∈ lw_tbl := lw_at lw_m1 171 rfl
theorem q184 : (Jvm.Cond.instanceMethod ({ cls := "RC6Engine", name := "setKey", desc := "([B)V" } : Jvm.MethodName)) ∈ lw_all := lw_g (lw_at lw_m1 172 rfl) rfl
theorem q185 : (Jvm.Cond.code ({ cls := "RC6Engine", name := "setKey", desc := "([B)V" } : Jvm.MethodName) prog_6_method_5_code (10 : Nat) (Option.none : Option Jvm.ClassFile.FieldType)) ∈ lw_all := lw_g (lw_at lw_m1 173 rfl) rfl
theorem q186 : (Jvm.Cond.constant "RC6Engine" (60 : Nat) (-1209970333 : Int32)) ∈ lw_all := lw_g (lw_at lw_m1 174 rfl) rfl
theorem q187 : (Jvm.Cond.constant "RC6Engine" (61 : Nat) (-1640531527 : Int32)) ∈ lw_all := lw_g (lw_at lw_m1 175 rfl) rfl
theorem q188 : (Jvm.Cond.methodLink "RC6Engine" (62 : Nat) ({ cls := "RC6Engine", name := "rotateLeft", desc := "(II)I" } : Jvm.MethodName)) ∈ lw_all := lw_g (lw_at lw_m1 176 rfl) rfl
theorem q189 : (Jvm.Cond.privateMethod ({ cls := "RC6Engine", name := "rotateLeft", desc := "(II)I" } : Jvm.MethodName)) ∈ lw_tbl := lw_at lw_m1 177 rfl
theorem q190 : (Jvm.Cond.instanceMethod ({ cls := "RC6Engine", name := "rotateLeft", desc := "(II)I" } : Jvm.MethodName)) ∈ lw_all := lw_g (lw_at lw_m1 178 rfl) rfl
theorem q191 : (Jvm.Cond.code ({ cls := "RC6Engine", name := "rotateLeft", desc := "(II)I" } : Jvm.MethodName) prog_6_method_8_code (3 : Nat) (Option.some Jvm.ClassFile.FieldType.int)) ∈ lw_all := lw_g (lw_at lw_m1 179 rfl) rfl
theorem q196 : (Jvm.Cond.selects "RC6Engine" ({ cls := "BlockCipher", name := "processBlock", desc := "([BI[BI)I" } : Jvm.MethodName) ({ cls := "RC6Engine", name := "processBlock", desc := "([BI[BI)I" } : Jvm.MethodName)) ∈ lw_all := lw_g (lw_at lw_m1 184 rfl) rfl
theorem q197 : (Jvm.Cond.unhidden "RC6Engine" "processBlock" "([BI[BI)I") ∈ lw_tbl := lw_at lw_m1 185 rfl
theorem q198 : (Jvm.Cond.instanceMethod ({ cls := "RC6Engine", name := "processBlock", desc := "([BI[BI)I" } : Jvm.MethodName)) ∈ lw_all := lw_g (lw_at lw_m1 186 rfl) rfl
theorem q199 : (Jvm.Cond.publicMethod ({ cls := "RC6Engine", name := "processBlock", desc := "([BI[BI)I" } : Jvm.MethodName)) ∈ lw_tbl := lw_at lw_m1 187 rfl
theorem q200 : (Jvm.Cond.code ({ cls := "RC6Engine", name := "processBlock", desc := "([BI[BI)I" } : Jvm.MethodName) prog_6_method_4_code (6 : Nat) (Option.some Jvm.ClassFile.FieldType.int)) ∈ lw_all := lw_g (lw_at lw_m1 188 rfl) rfl
theorem q201 : (Jvm.Cond.methodLink "RC6Engine" (34 : Nat) ({ cls := "RC6Engine", name := "getBlockSize", desc := "()I" } : Jvm.MethodName)) ∈ lw_all := lw_g (lw_at lw_m1 189 rfl) rfl
theorem q202 : (Jvm.Cond.instanceMethod ({ cls := "RC6Engine", name := "getBlockSize", desc := "()I" } : Jvm.MethodName)) ∈ lw_all := lw_g (lw_at lw_m1 190 rfl) rfl
theorem q203 : (Jvm.Cond.selects "RC6Engine" ({ cls := "RC6Engine", name := "getBlockSize", desc := "()I" } : Jvm.MethodName) ({ cls := "RC6Engine", name := "getBlockSize", desc := "()I" } : Jvm.MethodName)) ∈ lw_all := lw_g (lw_at lw_m1 191 rfl) rfl
theorem q204 : (Jvm.Cond.code ({ cls := "RC6Engine", name := "getBlockSize", desc := "()I" } : Jvm.MethodName) prog_6_method_2_code (1 : Nat) (Option.some Jvm.ClassFile.FieldType.int)) ∈ lw_all := lw_g (lw_at lw_m1 192 rfl) rfl
theorem q205 : (Jvm.Cond.classLink "RC6Engine" (38 : Nat) "java/lang/IllegalStateException") ∈ lw_all := lw_g (lw_at lw_m1 193 rfl) rfl
theorem q214 : (Jvm.Cond.stringRef "RC6Engine" (40 : Nat) "RC6 engine not initialised") ∈ lw_tbl := lw_at lw_m1 202 rfl
theorem q215 : (Jvm.Cond.methodLink "RC6Engine" (42 : Nat) ({ cls := "java/lang/IllegalStateException", name := "<init>", desc := "(Ljava/lang/String;)V" } : Jvm.MethodName)) ∈ lw_all := lw_g (lw_at lw_m1 203 rfl) rfl
theorem q222 : (Jvm.Cond.classLink "RC6Engine" (43 : Nat) "DataLengthException") ∈ lw_all := lw_g (lw_at lw_m1 210 rfl) rfl
theorem q232 : (Jvm.Cond.stringRef "RC6Engine" (45 : Nat) "input buffer too short") ∈ lw_tbl := lw_at lw_m1 220 rfl
theorem q233 : (Jvm.Cond.methodLink "RC6Engine" (47 : Nat) ({ cls := "DataLengthException", name := "<init>", desc := "(Ljava/lang/String;)V" } : Jvm.MethodName)) ∈ lw_all := lw_g (lw_at lw_m1 221 rfl) rfl
theorem q242 : (Jvm.Cond.classLink "RC6Engine" (48 : Nat) "OutputLengthException") ∈ lw_all := lw_g (lw_at lw_m1 230 rfl) rfl
theorem q252 : (Jvm.Cond.stringRef "RC6Engine" (50 : Nat) "output buffer too short") ∈ lw_tbl := lw_at lw_m2 0 rfl
theorem q253 : (Jvm.Cond.methodLink "RC6Engine" (52 : Nat) ({ cls := "OutputLengthException", name := "<init>", desc := "(Ljava/lang/String;)V" } : Jvm.MethodName)) ∈ lw_all := lw_g (lw_at lw_m2 1 rfl) rfl
theorem q259 : (Jvm.Cond.methodLink "RC6Engine" (53 : Nat) ({ cls := "RC6Engine", name := "encryptBlock", desc := "([BI[BI)I" } : Jvm.MethodName)) ∈ lw_all := lw_g (lw_at lw_m2 7 rfl) rfl
theorem q260 : (Jvm.Cond.privateMethod ({ cls := "RC6Engine", name := "encryptBlock", desc := "([BI[BI)I" } : Jvm.MethodName)) ∈ lw_tbl := lw_at lw_m2 8 rfl
theorem q261 : (Jvm.Cond.instanceMethod ({ cls := "RC6Engine", name := "encryptBlock", desc := "([BI[BI)I" } : Jvm.MethodName)) ∈ lw_all := lw_g (lw_at lw_m2 9 rfl) rfl
theorem q262 : (Jvm.Cond.code ({ cls := "RC6Engine", name := "encryptBlock", desc := "([BI[BI)I" } : Jvm.MethodName) prog_6_method_6_code (13 : Nat) (Option.some Jvm.ClassFile.FieldType.int)) ∈ lw_all := lw_g (lw_at lw_m2 10 rfl) rfl
theorem q263 : (Jvm.Cond.methodLink "RC6Engine" (66 : Nat) ({ cls := "RC6Engine", name := "bytesToWord", desc := "([BI)I" } : Jvm.MethodName)) ∈ lw_all := lw_g (lw_at lw_m2 11 rfl) rfl
theorem q264 : (Jvm.Cond.privateMethod ({ cls := "RC6Engine", name := "bytesToWord", desc := "([BI)I" } : Jvm.MethodName)) ∈ lw_tbl := lw_at lw_m2 12 rfl
theorem q265 : (Jvm.Cond.instanceMethod ({ cls := "RC6Engine", name := "bytesToWord", desc := "([BI)I" } : Jvm.MethodName)) ∈ lw_all := lw_g (lw_at lw_m2 13 rfl) rfl
theorem q266 : (Jvm.Cond.code ({ cls := "RC6Engine", name := "bytesToWord", desc := "([BI)I" } : Jvm.MethodName) prog_6_method_10_code (5 : Nat) (Option.some Jvm.ClassFile.FieldType.int)) ∈ lw_all := lw_g (lw_at lw_m2 14 rfl) rfl
theorem q267 : (Jvm.Cond.methodLink "RC6Engine" (70 : Nat) ({ cls := "RC6Engine", name := "wordToBytes", desc := "(I[BI)V" } : Jvm.MethodName)) ∈ lw_all := lw_g (lw_at lw_m2 15 rfl) rfl
theorem q268 : (Jvm.Cond.privateMethod ({ cls := "RC6Engine", name := "wordToBytes", desc := "(I[BI)V" } : Jvm.MethodName)) ∈ lw_tbl := lw_at lw_m2 16 rfl
theorem q269 : (Jvm.Cond.instanceMethod ({ cls := "RC6Engine", name := "wordToBytes", desc := "(I[BI)V" } : Jvm.MethodName)) ∈ lw_all := lw_g (lw_at lw_m2 17 rfl) rfl
theorem q270 : (Jvm.Cond.code ({ cls := "RC6Engine", name := "wordToBytes", desc := "(I[BI)V" } : Jvm.MethodName) prog_6_method_11_code (5 : Nat) (Option.none : Option Jvm.ClassFile.FieldType)) ∈ lw_all := lw_g (lw_at lw_m2 18 rfl) rfl
theorem q271 : (Jvm.Cond.methodLink "RC6Engine" (57 : Nat) ({ cls := "RC6Engine", name := "decryptBlock", desc := "([BI[BI)I" } : Jvm.MethodName)) ∈ lw_all := lw_g (lw_at lw_m2 19 rfl) rfl
theorem q272 : (Jvm.Cond.privateMethod ({ cls := "RC6Engine", name := "decryptBlock", desc := "([BI[BI)I" } : Jvm.MethodName)) ∈ lw_tbl := lw_at lw_m2 20 rfl
theorem q273 : (Jvm.Cond.instanceMethod ({ cls := "RC6Engine", name := "decryptBlock", desc := "([BI[BI)I" } : Jvm.MethodName)) ∈ lw_all := lw_g (lw_at lw_m2 21 rfl) rfl
theorem q274 : (Jvm.Cond.code ({ cls := "RC6Engine", name := "decryptBlock", desc := "([BI[BI)I" } : Jvm.MethodName) prog_6_method_7_code (13 : Nat) (Option.some Jvm.ClassFile.FieldType.int)) ∈ lw_all := lw_g (lw_at lw_m2 22 rfl) rfl
theorem q275 : (Jvm.Cond.methodLink "RC6Engine" (74 : Nat) ({ cls := "RC6Engine", name := "rotateRight", desc := "(II)I" } : Jvm.MethodName)) ∈ lw_all := lw_g (lw_at lw_m2 23 rfl) rfl
theorem q276 : (Jvm.Cond.privateMethod ({ cls := "RC6Engine", name := "rotateRight", desc := "(II)I" } : Jvm.MethodName)) ∈ lw_tbl := lw_at lw_m2 24 rfl
theorem q277 : (Jvm.Cond.instanceMethod ({ cls := "RC6Engine", name := "rotateRight", desc := "(II)I" } : Jvm.MethodName)) ∈ lw_all := lw_g (lw_at lw_m2 25 rfl) rfl
theorem q278 : (Jvm.Cond.code ({ cls := "RC6Engine", name := "rotateRight", desc := "(II)I" } : Jvm.MethodName) prog_6_method_9_code (3 : Nat) (Option.some Jvm.ClassFile.FieldType.int)) ∈ lw_all := lw_g (lw_at lw_m2 26 rfl) rfl
theorem in_X2 : ∀ w ∈ wsX20, w ∈ lw_all := lw_in wsX20 [75, 77] (by decide +kernel) (by decide +kernel)
end
section
/-! PURE: the common value of both sides. (bt .. b_sshr are rows of kit/laws/BITS.to-paste) -/
def bt (x : Int32) (i : Nat) : Bool := x.toBitVec.getLsbD i
theorem b_ext {x y : Int32} (h : ∀ i, i < 32 → bt x i = bt y i) : x = y := Int32.toBitVec_inj.mp (BitVec.eq_of_getLsbD_eq (fun i hi => h i hi))
theorem s_l : ∀ n, n < 32 → ((nI n &&& 31).toBitVec.smod 32).toNat = n := by decide +kernel
theorem s_u : ∀ n, n < 32 → (((nI n).toUInt32 &&& Int32.toUInt32 31).toBitVec % 32).toNat = n := by decide +kernel
theorem b_ushr (n : Nat) (hn : n < 32) (x : Int32) (i : Nat) : bt ((x.toUInt32 >>> ((nI n).toUInt32 &&& Int32.toUInt32 31)).toInt32) i = bt x (n + i) := by
  show (x.toUInt32 >>> ((nI n).toUInt32 &&& Int32.toUInt32 31)).toBitVec.getLsbD i = x.toUInt32.toBitVec.getLsbD (n + i)
  rw [UInt32.toBitVec_shiftRight]
  show (x.toUInt32.toBitVec >>> (((nI n).toUInt32 &&& Int32.toUInt32 31).toBitVec % 32).toNat).getLsbD i = _
  rw [s_u n hn, BitVec.getLsbD_ushiftRight]
theorem b_sshr (n : Nat) (hn : n < 32) (x : Int32) {i : Nat} (hi : i < 32) : bt (x >>> (nI n &&& 31)) i = if n + i < 32 then bt x (n + i) else bt x 31 := by
  unfold bt
  rw [Int32.toBitVec_shiftRight]
  show (x.toBitVec.sshiftRight ((nI n &&& 31).toBitVec.smod 32).toNat).getLsbD i = _
  rw [s_l n hn, BitVec.getLsbD_sshiftRight, BitVec.msb_eq_getLsbD_last]
  simp [hi]
/-- the low byte sees the low eight bits alone -/
theorem rc_b8 {x y : Int32} (h : ∀ i, i < 8 → bt x i = bt y i) : x.toInt8.toInt32 = y.toInt8.toInt32 := by
  have e : x.toInt8 = y.toInt8 := by
    apply Int8.toBitVec_inj.mp
    rw [Int32.toBitVec_toInt8, Int32.toBitVec_toInt8]
    apply BitVec.eq_of_getLsbD_eq
    intro i hi
    have h1 := h i hi
    unfold bt at h1
    rw [BitVec.getLsbD_signExtend, BitVec.getLsbD_signExtend]
    have h2 : i < 32 := by omega
    rw [if_pos h2, if_pos h2, h1]
  rw [e]
/-- w without sign, k bytes down -/
def rc_w (w : Int32) (k : Nat) : Int32 := (w.toUInt32 >>> ((nI (8 * k)).toUInt32 &&& Int32.toUInt32 31)).toInt32
/-- the byte k of w, from the low end -/
def rc_lo (w : Int32) (k : Nat) : Int32 := (rc_w w k).toInt8.toInt32
theorem rc_w0 (w : Int32) : rc_w w 0 = w := by
  apply b_ext
  intro i hi
  unfold rc_w
  rw [b_ushr (8 * 0) (by omega) w i, Nat.mul_zero, Nat.zero_add]
theorem rc_w1 (w : Int32) {k : Nat} (hk : k < 3) : ((rc_w w k).toUInt32 >>> ((8 : Int32).toUInt32 &&& Int32.toUInt32 31)).toInt32 = rc_w w (k + 1) := by
  apply b_ext
  intro i hi
  have h1 := b_ushr 8 (by omega) (rc_w w k) i
  have h2 := b_ushr (8 * k) (by omega) w (8 + i)
  have h3 := b_ushr (8 * (k + 1)) (by omega) w i
  have e8 : nI 8 = 8 := by decide +kernel
  rw [e8] at h1
  rw [h1]
  unfold rc_w
  rw [h2, h3]
  congr 1
  omega
theorem rc_be (w : Int32) (k : Nat) (hk : k < 4) : (w >>> (nI (8 * k) &&& 31)).toInt8.toInt32 = rc_lo w k := by
  apply rc_b8
  intro i hi
  unfold rc_w
  rw [b_sshr (8 * k) (by omega) w (by omega), b_ushr (8 * k) (by omega) w i, if_pos (by omega)]
theorem rc_be24 (w : Int32) : (w >>> ((24 : Int32) &&& 31)).toInt8.toInt32 = rc_lo w 3 := rc_be w 3 (by omega)
theorem rc_be16 (w : Int32) : (w >>> ((16 : Int32) &&& 31)).toInt8.toInt32 = rc_lo w 2 := rc_be w 2 (by omega)
theorem rc_be8 (w : Int32) : (w >>> ((8 : Int32) &&& 31)).toInt8.toInt32 = rc_lo w 1 := rc_be w 1 (by omega)
theorem rc_be0 (w : Int32) : w.toInt8.toInt32 = rc_lo w 0 := by unfold rc_lo; rw [rc_w0]
theorem rc_fit (w : Int32) (k : Nat) : fits .byte (.int (rc_lo w k)) = true := pk_fb _
theorem rc_nar (w : Int32) (k : Nat) : vp_nar .byte (rc_lo w k) = rc_lo w k := pk_vb _
/-! turning -/
def rc_L (x y : Int32) : Int32 := (x <<< (y &&& 31)) ||| (x.toUInt32 >>> ((-y).toUInt32 &&& Int32.toUInt32 31)).toInt32
def rc_R (x y : Int32) : Int32 := (x.toUInt32 >>> (y.toUInt32 &&& Int32.toUInt32 31)).toInt32 ||| (x <<< ((-y) &&& 31))
theorem rc_and31 (x : Int32) : x &&& 31 = nI (x.toBitVec.toNat % 32) := pk_and x 5 (by decide +kernel)
theorem rc_a31n (x : Int32) : (x &&& 31).toBitVec.toNat = x.toBitVec.toNat % 32 := by
  rw [rc_and31, pk_tn (by omega)]
theorem rc_sh {a b : Int32} (h : a &&& 31 = b &&& 31) : a.toUInt32 &&& Int32.toUInt32 31 = b.toUInt32 &&& Int32.toUInt32 31 := by
  rw [← Int32.toUInt32_and, ← Int32.toUInt32_and, h]
theorem rc_m31 (y : Int32) : (y &&& 31) &&& 31 = y &&& 31 := by
  rw [rc_and31 (y &&& 31), rc_a31n, Nat.mod_mod, ← rc_and31]
theorem rc_subn (y : Int32) : (32 - (y &&& 31)).toBitVec.toNat = 32 - y.toBitVec.toNat % 32 := by
  have e : (32 : Int32).toBitVec.toNat = 32 := by decide +kernel
  rw [Int32.toBitVec_sub, BitVec.toNat_sub, rc_a31n, e]
  omega
theorem rc_negn (y : Int32) : (-y).toBitVec.toNat = (2 ^ 32 - y.toBitVec.toNat) % 2 ^ 32 := by
  rw [Int32.toBitVec_neg, BitVec.toNat_neg]
theorem rc_sub31 (y : Int32) : (32 - (y &&& 31)) &&& 31 = (-y) &&& 31 := by
  have hl : y.toBitVec.toNat < 2 ^ 32 := y.toBitVec.isLt
  rw [rc_and31 (32 - (y &&& 31)), rc_and31 (-y), rc_subn, rc_negn]
  congr 1
  omega
theorem rc_neg31 (y : Int32) : (-(32 - (y &&& 31))) &&& 31 = y &&& 31 := by
  have hl : y.toBitVec.toNat < 2 ^ 32 := y.toBitVec.isLt
  have e := rc_negn (32 - (y &&& 31))
  rw [rc_subn] at e
  rw [rc_and31 (-(32 - (y &&& 31))), e, rc_and31 y]
  congr 1
  omega
theorem rc_neg0 {y : Int32} (h : y &&& 31 = 0) : (-y) &&& 31 = 0 := by
  have hl : y.toBitVec.toNat < 2 ^ 32 := y.toBitVec.isLt
  have h1 : y.toBitVec.toNat % 32 = 0 := by rw [← rc_a31n, h]; rfl
  rw [rc_and31, rc_negn, show (2 ^ 32 - y.toBitVec.toNat) % 2 ^ 32 % 32 = 0 by omega]
  rfl
theorem rc_sh0 (w : Int32) : w <<< (0 : Int32) = w := by
  have h := sb_shl0 w
  rwa [show ((0 : Int32) &&& 31) = 0 from by decide +kernel] at h
/-- the model's turn by none -/
theorem rc_left0 (w : Int32) {y : Int32} (h : y &&& 31 = 0) : w = rc_L w y := by
  unfold rc_L
  have h2 : (w.toUInt32 >>> ((-y).toUInt32 &&& Int32.toUInt32 31)).toInt32 = w := by
    rw [rc_sh (a := -y) (b := nI (8 * 0)) (by rw [rc_neg0 h]; decide +kernel)]
    exact rc_w0 w
  rw [h2, h, rc_sh0]
  exact (Int32.or_self).symm
/-- the model's turn by some -/
theorem rc_left1 (w y : Int32) : (w <<< ((y &&& 31) &&& 31)) ||| (w.toUInt32 >>> ((32 - (y &&& 31)).toUInt32 &&& Int32.toUInt32 31)).toInt32 = rc_L w y := by
  unfold rc_L
  rw [rc_m31, rc_sh (rc_sub31 y)]
theorem rc_right (w y : Int32) : rc_L w (32 - (y &&& 31)) = rc_R w y := by
  unfold rc_L rc_R
  rw [rc_sub31, rc_sh (rc_neg31 y)]
  exact Int32.or_comm _ _
/-! words out of bytes, little end first -/
def rc_wd (f : Nat → Int32) (o : Nat) : Int32 := (((f o &&& 255) ||| ((f (o + 1) &&& 255) <<< ((8 : Int32) &&& 31))) ||| ((f (o + 2) &&& 255) <<< ((16 : Int32) &&& 31))) ||| ((f (o + 3) &&& 255) <<< ((24 : Int32) &&& 31))
/-- j bytes from the top of the word at o -/
def rc_pw (f : Nat → Int32) (o : Nat) : Nat → Int32
  | 0 => 0
  | j + 1 => (rc_pw f o j <<< ((8 : Int32) &&& 31)) + (f (o + (3 - j)) &&& 255)
theorem rc_or (a b : Nat) : nI a ||| nI b = nI (a ||| b) := by
  apply Int32.toBitVec_inj.1
  show BitVec.ofNat 32 a ||| BitVec.ofNat 32 b = BitVec.ofNat 32 (a ||| b)
  apply BitVec.eq_of_getLsbD_eq
  intro i hi
  simp [hi]
theorem rc_orA {k a b : Nat} (ha : a < 2 ^ k) : a ||| b * 2 ^ k = b * 2 ^ k + a := by
  rw [Nat.mul_comm b, Nat.two_pow_add_eq_or_of_lt ha, Nat.or_comm]
theorem rc_pw4 (f : Nat → Int32) (o : Nat) : rc_pw f o 4 = rc_wd f o := by
  obtain ⟨n0, h0, e0⟩ := pk_andE (f o) (m := 255) 8 (by decide +kernel)
  obtain ⟨n1, h1, e1⟩ := pk_andE (f (o + 1)) (m := 255) 8 (by decide +kernel)
  obtain ⟨n2, h2, e2⟩ := pk_andE (f (o + 2)) (m := 255) 8 (by decide +kernel)
  obtain ⟨n3, h3, e3⟩ := pk_andE (f (o + 3)) (m := 255) 8 (by decide +kernel)
  have s8 : (((8 : Int32) &&& 31).toBitVec.smod 32).toNat = 8 := by decide +kernel
  have s16 : (((16 : Int32) &&& 31).toBitVec.smod 32).toNat = 16 := by decide +kernel
  have s24 : (((24 : Int32) &&& 31).toBitVec.smod 32).toNat = 24 := by decide +kernel
  show (((((((0 : Int32) <<< ((8 : Int32) &&& 31)) + (f (o + 3) &&& 255)) <<< ((8 : Int32) &&& 31)) + (f (o + 2) &&& 255)) <<< ((8 : Int32) &&& 31)) + (f (o + 1) &&& 255)) <<< ((8 : Int32) &&& 31) + (f o &&& 255) = rc_wd f o
  unfold rc_wd
  rw [e0, e1, e2, e3]
  have z : (0 : Int32) <<< ((8 : Int32) &&& 31) = nI 0 := by decide +kernel
  rw [z, nI_add, pk_shlN _ 8 s8 (by omega), nI_add, pk_shlN _ 8 s8 (by omega), nI_add, pk_shlN _ 8 s8 (by omega), nI_add]
  rw [pk_shlN _ 8 s8 (n := n1) (by omega), pk_shlN _ 16 s16 (n := n2) (by omega), pk_shlN _ 24 s24 (n := n3) (by omega), rc_or, rc_or, rc_or]
  rw [rc_orA (k := 8) h0, rc_orA (k := 16) (a := n1 * 2 ^ 8 + n0) (by omega), rc_orA (k := 24) (a := n2 * 2 ^ 16 + (n1 * 2 ^ 8 + n0)) (by omega)]
  exact congrArg nI (by omega)
/-! the key's words -/
def rc_S0 : Nat → Int32
  | 0 => -1209970333
  | k + 1 => rc_S0 k + (-1640531527)
def rc_ks (c : Nat) (L0 : Nat → Int32) : Nat → (Nat → Int32) × (Nat → Int32) × Int32 × Int32
  | 0 => (rc_S0, L0, 0, 0)
  | n + 1 => (upd (rc_ks c L0 n).1 (n % 44) (rc_L ((rc_ks c L0 n).1 (n % 44) + (rc_ks c L0 n).2.2.1 + (rc_ks c L0 n).2.2.2) 3),
      upd (rc_ks c L0 n).2.1 (n % c) (rc_L ((rc_ks c L0 n).2.1 (n % c) + (rc_L ((rc_ks c L0 n).1 (n % 44) + (rc_ks c L0 n).2.2.1 + (rc_ks c L0 n).2.2.2) 3) + (rc_ks c L0 n).2.2.2) ((rc_L ((rc_ks c L0 n).1 (n % 44) + (rc_ks c L0 n).2.2.1 + (rc_ks c L0 n).2.2.2) 3) + (rc_ks c L0 n).2.2.2)),
      rc_L ((rc_ks c L0 n).1 (n % 44) + (rc_ks c L0 n).2.2.1 + (rc_ks c L0 n).2.2.2) 3,
      rc_L ((rc_ks c L0 n).2.1 (n % c) + (rc_L ((rc_ks c L0 n).1 (n % 44) + (rc_ks c L0 n).2.2.1 + (rc_ks c L0 n).2.2.2) 3) + (rc_ks c L0 n).2.2.2) ((rc_L ((rc_ks c L0 n).1 (n % 44) + (rc_ks c L0 n).2.2.1 + (rc_ks c L0 n).2.2.2) 3) + (rc_ks c L0 n).2.2.2))
theorem rc_ks_ext (c : Nat) (hc : 0 < c) {L0 L1 : Nat → Int32} (h : ∀ j, j < c → L0 j = L1 j) : ∀ n, (rc_ks c L0 n).1 = (rc_ks c L1 n).1 ∧ (∀ j, j < c → (rc_ks c L0 n).2.1 j = (rc_ks c L1 n).2.1 j) ∧ (rc_ks c L0 n).2.2.1 = (rc_ks c L1 n).2.2.1 ∧ (rc_ks c L0 n).2.2.2 = (rc_ks c L1 n).2.2.2 := by
  intro n
  induction n with
  | zero => exact ⟨rfl, h, rfl, rfl⟩
  | succ n ih =>
    obtain ⟨h1, h2, h3, h4⟩ := ih
    have h5 := h2 (n % c) (Nat.mod_lt _ hc)
    refine ⟨?_, fun j hj => ?_, ?_, ?_⟩
    · show upd _ _ _ = upd _ _ _
      rw [h1, h3, h4]
    · show upd _ _ _ j = upd _ _ _ j
      rw [h1, h3, h4, h5]
      unfold upd
      rw [h2 j hj]
    · show rc_L _ _ = rc_L _ _
      rw [h1, h3, h4]
    · show rc_L _ _ = rc_L _ _
      rw [h1, h3, h4, h5]
/-- the round words for a key of c words in the bytes f -/
def rc_S (c : Nat) (f : Nat → Int32) : Nat → Int32 := (rc_ks c (fun q => rc_wd f (4 * q)) 132).1
/-! the rounds -/
abbrev rc_T : Type := Int32 × Int32 × Int32 × Int32
def rc_g (x : Int32) : Int32 := rc_L (x * (2 * x + 1)) 5
def rc_e1 (S : Nat → Int32) (i : Nat) (z : rc_T) : rc_T := (z.2.1, rc_L (z.2.2.1 ^^^ rc_g z.2.2.2) (rc_g z.2.1) + S (2 * i + 1), z.2.2.2, rc_L (z.1 ^^^ rc_g z.2.1) (rc_g z.2.2.2) + S (2 * i))
def rc_er (S : Nat → Int32) : Nat → rc_T → rc_T
  | 0, z => z
  | n + 1, z => rc_e1 S (n + 1) (rc_er S n z)
def rc_enc (S : Nat → Int32) (f : Nat → Int32) : rc_T := ((rc_er S 20 (rc_wd f 0, rc_wd f 4 + S 0, rc_wd f 8, rc_wd f 12 + S 1)).1 + S 42, (rc_er S 20 (rc_wd f 0, rc_wd f 4 + S 0, rc_wd f 8, rc_wd f 12 + S 1)).2.1, (rc_er S 20 (rc_wd f 0, rc_wd f 4 + S 0, rc_wd f 8, rc_wd f 12 + S 1)).2.2.1 + S 43, (rc_er S 20 (rc_wd f 0, rc_wd f 4 + S 0, rc_wd f 8, rc_wd f 12 + S 1)).2.2.2)
def rc_d1 (S : Nat → Int32) (i : Nat) (z : rc_T) : rc_T := (rc_R (z.2.2.2 - S (2 * i)) (rc_g z.2.2.1) ^^^ rc_g z.1, z.1, rc_R (z.2.1 - S (2 * i + 1)) (rc_g z.1) ^^^ rc_g z.2.2.1, z.2.2.1)
def rc_dr (S : Nat → Int32) : Nat → rc_T → rc_T
  | 0, z => z
  | n + 1, z => rc_d1 S (20 - n) (rc_dr S n z)
def rc_dec (S : Nat → Int32) (f : Nat → Int32) : rc_T := ((rc_dr S 20 (rc_wd f 0 - S 42, rc_wd f 4, rc_wd f 8 - S 43, rc_wd f 12)).1, (rc_dr S 20 (rc_wd f 0 - S 42, rc_wd f 4, rc_wd f 8 - S 43, rc_wd f 12)).2.1 - S 0, (rc_dr S 20 (rc_wd f 0 - S 42, rc_wd f 4, rc_wd f 8 - S 43, rc_wd f 12)).2.2.1, (rc_dr S 20 (rc_wd f 0 - S 42, rc_wd f 4, rc_wd f 8 - S 43, rc_wd f 12)).2.2.2 - S 1)
/-! what lies in the byte arrays -/
def rc_sel (a b c d : Int32) (k : Nat) : Int32 := if k = 0 then a else if k = 1 then b else if k = 2 then c else d
/-- out: four words, little end first -/
def rc_o (z : rc_T) : Nat → Int32 := fun j => rc_lo (rc_sel z.1 z.2.1 z.2.2.1 z.2.2.2 (j / 4)) (j % 4)
/-- block: four words, big end first -/
def rc_b (a b c d : Int32) : Nat → Int32 := fun j => rc_lo (rc_sel a b c d (j / 4)) (3 - j % 4)
/-- the key's half -/
def rc_h (half : Int32) : Nat := (half &&& 1).toBitVec.toNat
/-- key: one half of it written so -/
def rc_k (half a b c d : Int32) (f : Nat → Int32) : Nat → Int32 := fun j => if 16 * rc_h half ≤ j ∧ j < 16 * rc_h half + 16 then rc_b a b c d (j - 16 * rc_h half) else f j
theorem rc_h1 (half : Int32) : rc_h half < 2 ∧ half &&& 1 = nI (rc_h half) := by
  have e : half &&& 1 = nI (half.toBitVec.toNat % 2) := pk_and half 1 (by decide +kernel)
  have h : rc_h half = half.toBitVec.toNat % 2 := by
    unfold rc_h
    rw [e, pk_tn (by omega)]
  rw [h]
  exact ⟨by omega, e⟩
theorem rc_bFit (a b c d : Int32) (j : Nat) : fits .byte (.int (rc_b a b c d j)) = true := rc_fit _ _
theorem rc_kFit (half a b c d : Int32) {f : Nat → Int32} (h : ∀ j, fits .byte (.int (f j)) = true) (j : Nat) : fits .byte (.int (rc_k half a b c d f j)) = true := by
  unfold rc_k
  split
  · exact rc_bFit a b c d _
  · exact h j
/-- how many words of key: 4, 6 or 8 -/
def rc_c (kind : Int32) : Nat := if (kind &&& 3) - (kind &&& 3) / 3 * 3 = 0 then 4 else if (kind &&& 3) - (kind &&& 3) / 3 * 3 = 1 then 6 else 8
theorem rc_c_in (kind : Int32) : rc_c kind = 4 ∨ rc_c kind = 6 ∨ rc_c kind = 8 := by
  unfold rc_c
  split
  · exact Or.inl rfl
  · split
    · exact Or.inr (Or.inl rfl)
    · exact Or.inr (Or.inr rfl)
theorem rc_and3 (x : Int32) : (x &&& 3) &&& 3 = x &&& 3 := by
  have e : ∀ y : Int32, y &&& 3 = nI (y.toBitVec.toNat % 4) := fun y => pk_and y 2 (by decide +kernel)
  have e2 : (x &&& 3).toBitVec.toNat = x.toBitVec.toNat % 4 := by rw [e x, pk_tn (by omega)]
  rw [e (x &&& 3), e2, Nat.mod_mod, ← e x]
theorem rc_c3 (kind : Int32) : rc_c (kind &&& 3) = rc_c kind := by
  unfold rc_c
  rw [rc_and3]
/-- what the desk's run leaves in out -/
def rc_run (z : Int32) (S f : Nat → Int32) : Nat → Int32 := if z = 0 then rc_o (rc_dec S f) else rc_o (rc_enc S f)
end
section
/-! BASE: the classes of the claim, and rows of my own: array rows whose index is nI k and whose new content is a named function; calls with the join inside -/
abbrev vwCl : List vw_C := [(RX0, TX0, 3), (RX1, TX1, 9), (RX2, TX2, 2), (RX3, TX3, 1)]
/-- a method's start, in a world that it may write -/
abbrev zw_pre (D : va_G) (tys : List (ClassId × FieldType)) (ws : va_W) (sz : Nat) (U : State) : Prop := U.heap.size = sz ∧ va_P D vwCl ws U.heap ∧ va_K D vwCl tys U ∧ va_D (fun _ => True) ws
/-- its end -/
abbrev zw_post (D : va_G) (tys : List (ClassId × FieldType)) (ws : va_W) (A : Nat → Prop) (t : State) : Prop := va_P D vwCl ws t.heap ∧ va_K D vwCl tys t ∧ va_D A ws
/-- a method's start, in a world that it reads alone -/
abbrev zr_pre (D : va_G) (tys : List (ClassId × FieldType)) (ws : va_W) (U : State) : Prop := va_P D vwCl ws U.heap ∧ va_K D vwCl tys U
theorem zw_blind {av : List Value} {D : va_G} {tys : List (ClassId × FieldType)} {ws : va_W} {sz : Nat} : FrameBlind (va_Pc av (zw_pre D tys ws sz)) := fun a U g mk q => by
  obtain ⟨q0, q1, qP, qK, qD⟩ := q
  exact ⟨q0, q1, qP, va_K.moved (u := U) (U := U.calling g mk a) (Vm.Alike.refl U.vm) qK, qD⟩
theorem zr_blind {av : List Value} {D : va_G} {tys : List (ClassId × FieldType)} {ws : va_W} : FrameBlind (va_Pc av (zr_pre D tys ws)) := fun a U g mk q => by
  obtain ⟨q0, qP, qK⟩ := q
  exact ⟨q0, qP, va_K.moved (u := U) (U := U.calling g mk a) (Vm.Alike.refl U.vm) qK⟩
theorem zw_mk {s : State} {H : Heap} {A : Nat → Prop} {D : va_G} {tys tc : List (ClassId × FieldType)} {ws wc : va_W} {av : List Value} (hP : va_P D vwCl ws H) (hD : va_D A ws) (hK : va_K D vwCl tys s) (isC it : List Nat) (h1 : isC.filterMap (fun i => ws[i]?) = wc) (h2 : isC.map (fun i => ws[i]?) = wc.map some) (h3 : va_nd isC = true) (h4 : it.filterMap (fun i => tys[i]?) = tc) : ∀ U : State, U.heap = H → s.WarmedH U.vm → va_Pc av (zw_pre D tc wc H.size) av.toArray U := by
  intro U hU hW
  exact ⟨rfl, by rw [hU], by rw [hU]; exact hP.sub isC h1, va_K.moved hW.alike (hK.sub it h4), (hD.sub isC h3 h2).weaken (fun _ _ _ _ => trivial)⟩
theorem zr_mk {s : State} {H : Heap} {D : va_G} {tys tc : List (ClassId × FieldType)} {ws wc : va_W} {av : List Value} (hP : va_P D vwCl ws H) (hK : va_K D vwCl tys s) (isC it : List Nat) (h1 : isC.filterMap (fun i => ws[i]?) = wc) (h4 : it.filterMap (fun i => tys[i]?) = tc) : ∀ U : State, U.heap = H → s.WarmedH U.vm → va_Pc av (zr_pre D tc wc) av.toArray U := by
  intro U hU hW
  exact ⟨rfl, by rw [hU]; exact hP.sub isC h1, va_K.moved hW.alike (hK.sub it h4)⟩
theorem zz_cell {cA : ClassId} {n : Nat} {f g : Nat → Int32} (h : ∀ j, j < n → f j = g j) : vp_cell cA (n, .inl f) = vp_cell cA (n, .inl g) := by
  rw [vp_cell_i, vp_cell_i]
  unfold arrV
  have e : (fun j : Fin n => Value.int (f j.val)) = fun j : Fin n => Value.int (g j.val) := funext fun j => by rw [h j.val j.isLt]
  rw [e]
/-- the same cell under another function that agrees within its length -/
theorem zz_ext {D : va_G} {cl : List vw_C} {ws : va_W} {H : Heap} (hP : va_P D cl ws H) (q0 : Nat) {a : Nat} {cA : ClassId} {n : Nat} {f g : Nat → Int32} (ha : ws[q0]? = some (a, .inl (cA, n, .inl f))) (h : ∀ j, j < n → f j = g j) : va_P D cl (ws.set q0 (a, .inl (cA, n, .inl g))) H := by
  have hl := (List.getElem?_eq_some_iff.mp ha).1
  intro k q hk
  by_cases hkp : k = q0
  · subst hkp
    rw [List.getElem?_set_self hl] at hk
    cases hk
    have h1 : H[a]? = some (vp_cell cA (n, .inl f)) := hP k _ ha
    show H[a]? = some (vp_cell cA (n, .inl g))
    rw [h1, zz_cell h]
  · rw [List.getElem?_set_ne (Ne.symm hkp)] at hk
    exact hP k q hk
section ZB
variable {p : Program} {l : Launch} {e : Env} {R : Room} {s : State} {m : MethodId} {args : Array Value} {below : List Frame} {meth : Method} {c : Code} {H : Heap} {locs : List Loc} {cells slots : Nat} {Q : State → Prop}
variable {cc : ByteArray} {pc : Nat} {ls : Array Slot} {rest st0 : List Value} {D : va_G} {cl : List vw_C} {A : Nat → Prop} {a : Nat} {tys : List (ClassId × FieldType)} {ws wc wr : va_W} {H0 : Heap} {mc ms : Nat} {av : Array Value}
/-- the number on top, written otherwise -/
theorem zt {x : Int32} (y : Int32) (h : x = y) (k : W p l e R s m args below meth c H locs cells slots Q (F0 m pc ls (.int y :: rest))) : W p l e R s m args below meth c H locs cells slots Q (F0 m pc ls (.int x :: rest)) := by
  subst h
  exact k
theorem zz_iald (hexec : p.tables.exec = Jvm.exec) (hb : c.code = cc) (hK : va_K D cl tys s) (hP : va_P D cl ws H) (q0 t0 : Nat) {cA : ClassId} {n : Nat} {f : Nat → Int32} (ha : ws[q0]? = some (a, .inl (cA, n, .inl f))) (ht : tys[t0]? = some (cA, .int)) {i : Int32} (k : Nat) (hi : i = nI k) (hk : k < n) (hn : n < 1000) (hdg : decode cc pc = .ok (.iaload, 1))
    (kk : W p l e R s m args below meth c H locs cells slots Q (F0 m (pc + 1) ls (.int (f k) :: rest))) : W p l e R s m args below meth c H locs cells slots Q (F0 m pc ls (.int i :: .ref a :: rest)) := by
  subst hi
  refine va_iald hexec hb hK hP q0 t0 ha ht (vp_in_nI hk (by omega)) hdg ?_
  rw [nI_clamp (by omega)]
  exact kk
theorem zz_bald (hexec : p.tables.exec = Jvm.exec) (hb : c.code = cc) (hK : va_K D cl tys s) (hP : va_P D cl ws H) (q0 t0 : Nat) {cA : ClassId} {n : Nat} {f : Nat → Int32} (ha : ws[q0]? = some (a, .inl (cA, n, .inl f))) (ht : tys[t0]? = some (cA, .byte)) {i : Int32} (k : Nat) (hi : i = nI k) (hk : k < n) (hn : n < 1000) (hdg : decode cc pc = .ok (.baload, 1))
    (kk : W p l e R s m args below meth c H locs cells slots Q (F0 m (pc + 1) ls (.int (f k) :: rest))) : W p l e R s m args below meth c H locs cells slots Q (F0 m pc ls (.int i :: .ref a :: rest)) := by
  subst hi
  refine va_bald hexec hb hK hP q0 t0 ha ht (vp_in_nI hk (by omega)) hdg ?_
  rw [nI_clamp (by omega)]
  exact kk
theorem zz_iast (hexec : p.tables.exec = Jvm.exec) (hb : c.code = cc) (hK : va_K D cl tys s) (hP : va_P D cl ws H) (hD : va_D A ws) (hS : va_S A H0 H locs) (q0 t0 : Nat) {cA : ClassId} {n : Nat} {f : Nat → Int32} (ha : ws[q0]? = some (a, .inl (cA, n, .inl f))) (ht : tys[t0]? = some (cA, .int)) {i x : Int32} (k : Nat) (g : Nat → Int32) (hi : i = nI k) (hk : k < n) (hn : n < 1000) (hg : ∀ j, j < n → upd f k x j = g j) (hdg : decode cc pc = .ok (.iastore, 1))
    (kk : ∀ (H1 : Heap) (locs1 : List Loc), va_P D cl (ws.set q0 (a, .inl (cA, n, .inl g))) H1 → va_D A (ws.set q0 (a, .inl (cA, n, .inl g))) → va_S A H0 H1 locs1 → W p l e R s m args below meth c H1 locs1 cells slots Q (F0 m (pc + 1) ls rest)) : W p l e R s m args below meth c H locs cells slots Q (F0 m pc ls (.int x :: .int i :: .ref a :: rest)) := by
  subst hi
  have hl := (List.getElem?_eq_some_iff.mp ha).1
  refine va_iast hexec hb hK hP hD hS q0 t0 ha ht (vp_in_nI hk (by omega)) hdg (fun H1 locs1 hP1 hD1 hS1 => ?_)
  rw [nI_clamp (by omega)] at hP1
  have h2 := zz_ext hP1 q0 (List.getElem?_set_self hl) hg
  rw [List.set_set] at h2
  exact kk H1 locs1 h2 (hD.set ha) hS1
theorem zz_bast (hexec : p.tables.exec = Jvm.exec) (hb : c.code = cc) (hK : va_K D cl tys s) (hP : va_P D cl ws H) (hD : va_D A ws) (hS : va_S A H0 H locs) (q0 t0 : Nat) {cA : ClassId} {n : Nat} {f : Nat → Int32} (ha : ws[q0]? = some (a, .inl (cA, n, .inl f))) (ht : tys[t0]? = some (cA, .byte)) {i x : Int32} (k : Nat) (g : Nat → Int32) (hi : i = nI k) (hk : k < n) (hn : n < 1000) (hx : vp_nar .byte x = x) (hg : ∀ j, j < n → upd f k x j = g j) (hdg : decode cc pc = .ok (.bastore, 1))
    (kk : ∀ (H1 : Heap) (locs1 : List Loc), va_P D cl (ws.set q0 (a, .inl (cA, n, .inl g))) H1 → va_D A (ws.set q0 (a, .inl (cA, n, .inl g))) → va_S A H0 H1 locs1 → W p l e R s m args below meth c H1 locs1 cells slots Q (F0 m (pc + 1) ls rest)) : W p l e R s m args below meth c H locs cells slots Q (F0 m pc ls (.int x :: .int i :: .ref a :: rest)) := by
  subst hi
  have hl := (List.getElem?_eq_some_iff.mp ha).1
  refine va_bast hexec hb hK hP hD hS q0 t0 ha ht (vp_in_nI hk (by omega)) hdg (fun H1 locs1 hP1 hD1 hS1 => ?_)
  rw [nI_clamp (by omega), hx] at hP1
  have h2 := zz_ext hP1 q0 (List.getElem?_set_self hl) hg
  rw [List.set_set] at h2
  exact kk H1 locs1 h2 (hD.set ha) hS1
theorem zz_newb (hexec : p.tables.exec = Jvm.exec) (hb : c.code = cc) (harr : (Cond.arrayClass .byte).before args s = true) (hK : va_K D cl tys s) (hP : va_P D cl ws H) (hD : va_D A ws) (hS : va_S A H0 H locs) (hA : ∀ q, H0.size ≤ q → A q)
    {n : Int32} (N : Nat) (hn : n = nI N) (hN : N < 1000) (hcells : cells + 1 ≤ R.cells) (hslots : slots + N ≤ R.slots) (hdg : decode cc pc = .ok (.newarray .byte, 2))
    (kk : ∀ (q : Nat) (cA : ClassId) (H1 : Heap), va_K D cl (tys ++ [(cA, .byte)]) s → va_P D cl (ws ++ [(q, .inl (cA, N, .inl (fun _ => 0)))]) H1 → va_D A (ws ++ [(q, .inl (cA, N, .inl (fun _ => 0)))]) → va_S A H0 H1 locs →
      W p l e R s m args below meth c H1 locs (cells + 1) (slots + N) Q (F0 m (pc + 2) ls (.ref q :: rest))) : W p l e R s m args below meth c H locs cells slots Q (F0 m pc ls (.int n :: rest)) := by
  subst hn
  refine va_newa (atype := .byte) (ty := .byte) (N' := N) (a0 := (N, .inl (fun _ => 0))) hexec hb harr rfl hK hP hD hS hA (fun _ => rfl) (nI_pos (by omega)) (nI_clamp (by omega)) ?_ hcells hslots hdg kk
  have h : componentBytes .byte ≤ 8 := by decide
  calc N * componentBytes .byte ≤ 1000 * 8 := Nat.mul_le_mul (by omega) h
    _ ≤ 536870912 := Nat.le_of_ble_eq_true rfl
theorem zz_newi (hexec : p.tables.exec = Jvm.exec) (hb : c.code = cc) (harr : (Cond.arrayClass .int).before args s = true) (hK : va_K D cl tys s) (hP : va_P D cl ws H) (hD : va_D A ws) (hS : va_S A H0 H locs) (hA : ∀ q, H0.size ≤ q → A q)
    {n : Int32} (N : Nat) (hn : n = nI N) (hN : N < 1000) (hcells : cells + 1 ≤ R.cells) (hslots : slots + N ≤ R.slots) (hdg : decode cc pc = .ok (.newarray .int, 2))
    (kk : ∀ (q : Nat) (cA : ClassId) (H1 : Heap), va_K D cl (tys ++ [(cA, .int)]) s → va_P D cl (ws ++ [(q, .inl (cA, N, .inl (fun _ => 0)))]) H1 → va_D A (ws ++ [(q, .inl (cA, N, .inl (fun _ => 0)))]) → va_S A H0 H1 locs →
      W p l e R s m args below meth c H1 locs (cells + 1) (slots + N) Q (F0 m (pc + 2) ls (.ref q :: rest))) : W p l e R s m args below meth c H locs cells slots Q (F0 m pc ls (.int n :: rest)) := by
  subst hn
  refine va_newa (atype := .int) (ty := .int) (N' := N) (a0 := (N, .inl (fun _ => 0))) hexec hb harr rfl hK hP hD hS hA (fun _ => rfl) (nI_pos (by omega)) (nI_clamp (by omega)) ?_ hcells hslots hdg kk
  have h : componentBytes .int ≤ 8 := by decide
  calc N * componentBytes .int ≤ 1000 * 8 := Nat.mul_le_mul (by omega) h
    _ ≤ 536870912 := Nat.le_of_ble_eq_true rfl
/-- a call that answers nothing: what came back beside the rest -/
theorem zc_v {S : Type} {post : S → Prop} {tys' : S → List (ClassId × FieldType)} {ws' : S → va_W} (hP : va_P D vwCl ws H) (hD : va_D A ws) (hS : va_S A H0 H locs) (hA : ∀ q, H0.size ≤ q → A q) (isC isR : List Nat) (hC : isC.map (fun i => ws[i]?) = wc.map some) (hR : isR.map (fun i => ws[i]?) = wr.map some) (hn : va_nd isR = true) (hdis : ∀ i ∈ isR, i ∉ isC)
    (hr : va_Run p l e R s m args below meth c H locs cells slots mc ms (F0 m pc ls st0) rest (va_Qv post (fun u t => zw_post D (tys' u) (ws' u) (va_A wc H.size) t) (va_A wc H.size) av) (va_A wc H.size))
    (kk : ∀ (u : S) (H1 : Heap) (locs1 : List Loc), post u → va_P D vwCl (wr ++ ws' u) H1 → va_D A (wr ++ ws' u) → va_K D vwCl (tys' u) s → va_S A H0 H1 locs1 → W p l e R s m args below meth c H1 locs1 (cells + mc) (slots + ms) Q (F0 m (pc + 3) ls rest)) : W p l e R s m args below meth c H locs cells slots Q (F0 m pc ls st0) := by
  have hFc := va_free (wc := wc) hD hS hA isC hC
  refine va_callv hr hS (fun q _ h => hFc q h) hFc (fun u t H1 locs1 ht hvm hp hB hz hk hS1 => ?_)
  obtain ⟨hP1, hK1, hD1⟩ := hB
  rw [ht] at hP1
  obtain ⟨hP2, hD2⟩ := va_join hP hD isC isR hC hR hn hdis hk hFc hP1 hD1
  exact kk u H1 locs1 hp hP2 hD2 (va_K.moved hvm.symm hK1) hS1
theorem zc_i {S : Type} {post : Int32 → S → Prop} {tys' : S → List (ClassId × FieldType)} {ws' : S → va_W} (hP : va_P D vwCl ws H) (hD : va_D A ws) (hS : va_S A H0 H locs) (hA : ∀ q, H0.size ≤ q → A q) (isC isR : List Nat) (hC : isC.map (fun i => ws[i]?) = wc.map some) (hR : isR.map (fun i => ws[i]?) = wr.map some) (hn : va_nd isR = true) (hdis : ∀ i ∈ isR, i ∉ isC)
    (hr : va_Run p l e R s m args below meth c H locs cells slots mc ms (F0 m pc ls st0) rest (va_Qi post (fun u t => zw_post D (tys' u) (ws' u) (va_A wc H.size) t) (va_A wc H.size) av) (va_A wc H.size))
    (kk : ∀ (r : Int32) (u : S) (H1 : Heap) (locs1 : List Loc), post r u → va_P D vwCl (wr ++ ws' u) H1 → va_D A (wr ++ ws' u) → va_K D vwCl (tys' u) s → va_S A H0 H1 locs1 → W p l e R s m args below meth c H1 locs1 (cells + mc) (slots + ms) Q (F0 m (pc + 3) ls (.int r :: rest))) : W p l e R s m args below meth c H locs cells slots Q (F0 m pc ls st0) := by
  have hFc := va_free (wc := wc) hD hS hA isC hC
  refine va_calli hr hS (fun q _ h => hFc q h) hFc (fun r u t H1 locs1 ht hvm hp hB hz hk hS1 => ?_)
  obtain ⟨hP1, hK1, hD1⟩ := hB
  rw [ht] at hP1
  obtain ⟨hP2, hD2⟩ := va_join hP hD isC isR hC hR hn hdis hk hFc hP1 hD1
  exact kk r u H1 locs1 hp hP2 hD2 (va_K.moved hvm.symm hK1) hS1
theorem zc_Fv {S : Type} {post : S → Prop} {tys' : S → List (ClassId × FieldType)} {ws' : S → va_W} (hP : va_P D vwCl ws H) (hD : va_D A ws) (hS : va_S A H0 H locs) (hA : ∀ q, H0.size ≤ q → A q) (isC isR : List Nat) (hC : isC.map (fun i => ws[i]?) = wc.map some) (hR : isR.map (fun i => ws[i]?) = wr.map some) (hn : va_nd isR = true) (hdis : ∀ i ∈ isR, i ∉ isC)
    (hr : va_Run5 p l e R s m args below meth c H locs cells slots mc ms (F0 m pc ls st0) rest (va_Qv post (fun u t => zw_post D (tys' u) (ws' u) (va_A wc H.size) t) (va_A wc H.size) av) (va_A wc H.size))
    (kk : ∀ (u : S) (H1 : Heap) (locs1 : List Loc), post u → va_P D vwCl (wr ++ ws' u) H1 → va_D A (wr ++ ws' u) → va_K D vwCl (tys' u) s → va_S A H0 H1 locs1 → W p l e R s m args below meth c H1 locs1 (cells + mc) (slots + ms) Q (F0 m (pc + 5) ls rest)) : W p l e R s m args below meth c H locs cells slots Q (F0 m pc ls st0) := by
  have hFc := va_free (wc := wc) hD hS hA isC hC
  refine va_callFv hr hS (fun q _ h => hFc q h) hFc (fun u t H1 locs1 ht hvm hp hB hz hk hS1 => ?_)
  obtain ⟨hP1, hK1, hD1⟩ := hB
  rw [ht] at hP1
  obtain ⟨hP2, hD2⟩ := va_join hP hD isC isR hC hR hn hdis hk hFc hP1 hD1
  exact kk u H1 locs1 hp hP2 hD2 (va_K.moved hvm.symm hK1) hS1
theorem zc_Fi {S : Type} {post : Int32 → S → Prop} {tys' : S → List (ClassId × FieldType)} {ws' : S → va_W} (hP : va_P D vwCl ws H) (hD : va_D A ws) (hS : va_S A H0 H locs) (hA : ∀ q, H0.size ≤ q → A q) (isC isR : List Nat) (hC : isC.map (fun i => ws[i]?) = wc.map some) (hR : isR.map (fun i => ws[i]?) = wr.map some) (hn : va_nd isR = true) (hdis : ∀ i ∈ isR, i ∉ isC)
    (hr : va_Run5 p l e R s m args below meth c H locs cells slots mc ms (F0 m pc ls st0) rest (va_Qi post (fun u t => zw_post D (tys' u) (ws' u) (va_A wc H.size) t) (va_A wc H.size) av) (va_A wc H.size))
    (kk : ∀ (r : Int32) (u : S) (H1 : Heap) (locs1 : List Loc), post r u → va_P D vwCl (wr ++ ws' u) H1 → va_D A (wr ++ ws' u) → va_K D vwCl (tys' u) s → va_S A H0 H1 locs1 → W p l e R s m args below meth c H1 locs1 (cells + mc) (slots + ms) Q (F0 m (pc + 5) ls (.int r :: rest))) : W p l e R s m args below meth c H locs cells slots Q (F0 m pc ls st0) := by
  have hFc := va_free (wc := wc) hD hS hA isC hC
  refine va_callFi hr hS (fun q _ h => hFc q h) hFc (fun r u t H1 locs1 ht hvm hp hB hz hk hS1 => ?_)
  obtain ⟨hP1, hK1, hD1⟩ := hB
  rw [ht] at hP1
  obtain ⟨hP2, hD2⟩ := va_join hP hD isC isR hC hR hn hdis hk hFc hP1 hD1
  exact kk r u H1 locs1 hp hP2 hD2 (va_K.moved hvm.symm hK1) hS1
end ZB
end
section
/-! PURE, more: the contents of arrays while loops run -/
theorem zi_p1 (i : Nat) : nI i + Int32.ofInt 1 = nI (i + 1) := by
  rw [show Int32.ofInt 1 = 1 from by decide +kernel]
  exact nI_1 i
theorem zi_p6 (i : Nat) : nI i + Int32.ofInt 6 = nI (i + 6) := by
  rw [show Int32.ofInt 6 = nI 6 from by decide +kernel]
  exact nI_add i 6
theorem zi_m (x : Int32) : x + Int32.ofInt (-1) = x - 1 := by
  rw [show Int32.ofInt (-1) = -1 from by decide +kernel]
  exact (Int32.sub_eq_add_neg x 1).symm
theorem rc_at : ∀ r, r < 4 → (24 : Int32) - 8 * nI r = nI (8 * (3 - r)) := by decide +kernel
theorem rc_i4 (k j : Nat) : (4 : Int32) * nI k + nI j = nI (4 * k + j) := by
  rw [show (4 : Int32) * nI k = nI (4 * k) from pk_mul 4 k]
  exact nI_add _ _
theorem rc_i16 (k j : Nat) : (16 : Int32) * nI k + nI j = nI (16 * k + j) := by
  rw [show (16 : Int32) * nI k = nI (16 * k) from pk_mul 16 k]
  exact nI_add _ _
theorem rc_i2 (k : Nat) : (2 : Int32) * nI k = nI (2 * k) := pk_mul 2 k
theorem rc_i21 (k : Nat) : (2 : Int32) * nI k + 1 = nI (2 * k + 1) := by
  rw [rc_i2]
  exact nI_1 _
theorem rc_div4 (i : Nat) (h : i < 1000) : nI i / 4 = nI (i / 4) := pk_div (d := 4) (by omega) (by omega) (by omega)
theorem rc_rem4 (i : Nat) (h : i < 1000) : nI i - nI i / 4 * 4 = nI (i % 4) := pk_rem (d := 4) (by omega) (by omega) (by omega)
theorem rc_rem44 (i : Nat) (h : i < 1000) : nI i - nI i / 44 * 44 = nI (i % 44) := pk_rem (d := 44) (by omega) (by omega) (by omega)
/-- i bytes of w laid from o on, low end first -/
def rc_pb (w : Int32) (o i : Nat) (f : Nat → Int32) : Nat → Int32 := fun j => if o ≤ j ∧ j < o + i then rc_lo w (j - o) else f j
theorem rc_pb_s (w : Int32) (o i : Nat) (f : Nat → Int32) (j : Nat) : upd (rc_pb w o i f) (i + o) (rc_lo w i) j = rc_pb w o (i + 1) f j := by
  unfold upd rc_pb
  by_cases h : j = i + o
  · subst h
    rw [if_pos rfl, if_pos (by omega), show i + o - o = i by omega]
  · rw [if_neg h]
    by_cases h2 : o ≤ j ∧ j < o + i
    · rw [if_pos h2, if_pos (by omega)]
    · rw [if_neg h2, if_neg (by omega)]
theorem rc_pb_0 (w : Int32) (o : Nat) (f : Nat → Int32) (j : Nat) : f j = rc_pb w o 0 f j := by
  unfold rc_pb
  rw [if_neg (by omega)]
/-- four words laid, low end first -/
theorem rc_o4 (z : rc_T) (f : Nat → Int32) (j : Nat) (hj : j < 16) : rc_pb z.2.2.2 12 4 (rc_pb z.2.2.1 8 4 (rc_pb z.2.1 4 4 (rc_pb z.1 0 4 f))) j = rc_o z j := by
  unfold rc_o rc_sel
  unfold rc_pb
  by_cases h3 : 12 ≤ j ∧ j < 12 + 4
  · rw [if_pos h3, if_neg (by omega), if_neg (by omega), if_neg (by omega)]
    congr 1
    omega
  rw [if_neg h3]
  by_cases h2 : 8 ≤ j ∧ j < 8 + 4
  · rw [if_pos h2, if_neg (by omega), if_neg (by omega), if_pos (by omega)]
    congr 1
    omega
  rw [if_neg h2]
  by_cases h1 : 4 ≤ j ∧ j < 4 + 4
  · rw [if_pos h1, if_neg (by omega), if_pos (by omega)]
    congr 1
    omega
  rw [if_neg h1, if_pos (by omega), if_pos (by omega)]
  congr 1
  omega
/-- w laid from o on, high end first -/
def rc_q (w : Int32) (o : Nat) (f : Nat → Int32) : Nat → Int32 := fun j => if o ≤ j ∧ j < o + 4 then rc_lo w (3 - (j - o)) else f j
theorem rc_q_ok (w : Int32) (o : Nat) (f : Nat → Int32) (j : Nat) : upd (upd (upd (upd f o (rc_lo w 3)) (o + 1) (rc_lo w 2)) (o + 2) (rc_lo w 1)) (o + 3) (rc_lo w 0) j = rc_q w o f j := by
  unfold upd rc_q
  by_cases h3 : j = o + 3
  · subst h3
    rw [if_pos rfl, if_pos (by omega), show 3 - (o + 3 - o) = 0 by omega]
  rw [if_neg h3]
  by_cases h2 : j = o + 2
  · subst h2
    rw [if_pos rfl, if_pos (by omega), show 3 - (o + 2 - o) = 1 by omega]
  rw [if_neg h2]
  by_cases h1 : j = o + 1
  · subst h1
    rw [if_pos rfl, if_pos (by omega), show 3 - (o + 1 - o) = 2 by omega]
  rw [if_neg h1]
  by_cases h0 : j = o
  · subst h0
    rw [if_pos rfl, if_pos (by omega), show 3 - (j - j) = 3 by omega]
  rw [if_neg h0, if_neg (by omega)]
/-- four words laid from o on, high end first -/
theorem rc_q4 (a b c d : Int32) (o : Nat) (f : Nat → Int32) (j : Nat) : rc_q d (o + 12) (rc_q c (o + 8) (rc_q b (o + 4) (rc_q a o f))) j = if o ≤ j ∧ j < o + 16 then rc_b a b c d (j - o) else f j := by
  unfold rc_b rc_sel
  unfold rc_q
  by_cases h3 : o + 12 ≤ j ∧ j < o + 12 + 4
  · rw [if_pos h3, if_pos (by omega), if_neg (by omega), if_neg (by omega), if_neg (by omega)]
    congr 1
    omega
  rw [if_neg h3]
  by_cases h2 : o + 8 ≤ j ∧ j < o + 8 + 4
  · rw [if_pos h2, if_pos (by omega), if_neg (by omega), if_neg (by omega), if_pos (by omega)]
    congr 1
    omega
  rw [if_neg h2]
  by_cases h1 : o + 4 ≤ j ∧ j < o + 4 + 4
  · rw [if_pos h1, if_pos (by omega), if_neg (by omega), if_pos (by omega)]
    congr 1
    omega
  rw [if_neg h1]
  by_cases h0 : o ≤ j ∧ j < o + 4
  · rw [if_pos h0, if_pos (by omega), if_pos (by omega)]
    congr 1
    omega
  rw [if_neg h0, if_neg (by omega)]
/-- the first i places out of g, the others out of f -/
def rc_m (i : Nat) (g f : Nat → Int32) : Nat → Int32 := fun j => if j < i then g j else f j
theorem rc_m_s (i : Nat) (g f : Nat → Int32) (j : Nat) : upd (rc_m i g f) i (g i) j = rc_m (i + 1) g f j := by
  unfold upd rc_m
  by_cases h : j = i
  · subst h
    rw [if_pos rfl, if_pos (by omega)]
  · rw [if_neg h]
    by_cases h2 : j < i
    · rw [if_pos h2, if_pos (by omega)]
    · rw [if_neg h2, if_neg (by omega)]
theorem rc_m_0 (g f : Nat → Int32) (j : Nat) : f j = rc_m 0 g f j := by
  unfold rc_m
  rw [if_neg (by omega)]
theorem rc_m_all {n : Nat} (g f : Nat → Int32) (j : Nat) (h : j < n) : rc_m n g f j = g j := by
  unfold rc_m
  rw [if_pos h]
/-- the key's half while it is written: i places of it -/
def rc_kp (half a b c d : Int32) (f : Nat → Int32) (i : Nat) : Nat → Int32 := fun j => if 16 * rc_h half ≤ j ∧ j < 16 * rc_h half + i then rc_b a b c d (j - 16 * rc_h half) else f j
theorem rc_kp_s (half a b c d : Int32) (f : Nat → Int32) (i : Nat) (j : Nat) : upd (rc_kp half a b c d f i) (16 * rc_h half + i) (rc_b a b c d i) j = rc_kp half a b c d f (i + 1) j := by
  unfold upd rc_kp
  by_cases h : j = 16 * rc_h half + i
  · subst h
    rw [if_pos rfl, if_pos (by omega), show 16 * rc_h half + i - 16 * rc_h half = i by omega]
  · rw [if_neg h]
    by_cases h2 : 16 * rc_h half ≤ j ∧ j < 16 * rc_h half + i
    · rw [if_pos h2, if_pos (by omega)]
    · rw [if_neg h2, if_neg (by omega)]
theorem rc_kp_0 (half a b c d : Int32) (f : Nat → Int32) (j : Nat) : f j = rc_kp half a b c d f 0 j := by
  unfold rc_kp
  rw [if_neg (by omega)]
end
section
/-! LEAVES: contracts of the methods that call none (printed by wip/gen/g09.py) -/
set_option maxHeartbeats 4000000 in
set_option maxRecDepth 100000 in
/-- RC6Engine.rotateLeft(x, y) -/
theorem met_X2_rotateLeft (l : Launch) (h0 : Nat) (x y : Int32) : Met l yX2_rotateLeft (ws_ yX2_rotateLeft cX2_rotateLeft 3 (some .int)) ({ frames := 0, cells := 0, slots := 0, locals := 0 }) (va_Pc [.ref h0, .int x, .int y] (fun _ => True)) (vp_Si (fun r => r = rc_L x y)) 0 0 (fun _ => False) := by
  refine Met.ofW (cc := cX2_rotateLeft) (maxL := 3) (ret := (some .int)) (by decide) rfl ?_
  intro p e s m args below meth c s₁ B hml hv
  obtain ⟨rfl, -⟩ := hv
  have hx := B.exec
  have hb := B.bytes
  have hr := B.returns
  have hts := atoms_spec (ws := (ws_ yX2_rotateLeft cX2_rotateLeft 3 (some .int))) B.pre
  have hts : ∀ w ∈ lw_all, w.before _ s = true := fun w h => hts w (List.mem_cons_of_mem _ h)
  have hown : s.vm.findClass RX2 = some m.cls := findClass_of_methodNamed B.named
  have hlocks := B.notSynchronized
  have hl := lv_entry ([.ref h0, .int x, .int y]) (n := 3) (Nat.le_of_ble_eq_true rfl)
  rw [lg_entry_eq]
  generalize (lg_sl ([.ref h0, .int x, .int y]) ++ List.replicate (3 - (lg_sl ([.ref h0, .int x, .int y])).length) Slot.unset).toArray = ls at hl ⊢
  have hl : lv_has ls 3 [(0, .ref h0), (1, .int x), (2, .int y)] := hl
  refine lv_iload_n hx hb dX2_rotateLeft_0 rfl (lv_at hl 1 rfl) ?_
  refine lv_iload_n hx hb dX2_rotateLeft_1 rfl (lv_at hl 2 rfl) ?_
  refine lv_ishl hx hb dX2_rotateLeft_2 ?_
  refine lv_iload_n hx hb dX2_rotateLeft_3 rfl (lv_at hl 1 rfl) ?_
  refine lv_iload_n hx hb dX2_rotateLeft_4 rfl (lv_at hl 2 rfl) ?_
  refine lv_ineg hx hb dX2_rotateLeft_5 ?_
  refine lv_iushr (v := ((x).toUInt32 >>> ((-y).toUInt32 &&& Int32.toUInt32 31)).toInt32) hx hb dX2_rotateLeft_6 rfl ?_
  refine lv_ior hx hb dX2_rotateLeft_7 ?_
  exact W.iret (v := (x <<< (y &&& 31)) ||| (((x).toUInt32 >>> ((-y).toUInt32 &&& Int32.toUInt32 31)).toInt32)) hx hb hr (fun t ht hW => ⟨_, rfl, rfl, ht⟩) (fun q h => by cases h) dX2_rotateLeft_8
set_option maxHeartbeats 4000000 in
set_option maxRecDepth 100000 in
/-- RC6Engine.rotateRight(x, y) -/
theorem met_X2_rotateRight (l : Launch) (h0 : Nat) (x y : Int32) : Met l yX2_rotateRight (ws_ yX2_rotateRight cX2_rotateRight 3 (some .int)) ({ frames := 0, cells := 0, slots := 0, locals := 0 }) (va_Pc [.ref h0, .int x, .int y] (fun _ => True)) (vp_Si (fun r => r = rc_R x y)) 0 0 (fun _ => False) := by
  refine Met.ofW (cc := cX2_rotateRight) (maxL := 3) (ret := (some .int)) (by decide) rfl ?_
  intro p e s m args below meth c s₁ B hml hv
  obtain ⟨rfl, -⟩ := hv
  have hx := B.exec
  have hb := B.bytes
  have hr := B.returns
  have hts := atoms_spec (ws := (ws_ yX2_rotateRight cX2_rotateRight 3 (some .int))) B.pre
  have hts : ∀ w ∈ lw_all, w.before _ s = true := fun w h => hts w (List.mem_cons_of_mem _ h)
  have hown : s.vm.findClass RX2 = some m.cls := findClass_of_methodNamed B.named
  have hlocks := B.notSynchronized
  have hl := lv_entry ([.ref h0, .int x, .int y]) (n := 3) (Nat.le_of_ble_eq_true rfl)
  rw [lg_entry_eq]
  generalize (lg_sl ([.ref h0, .int x, .int y]) ++ List.replicate (3 - (lg_sl ([.ref h0, .int x, .int y])).length) Slot.unset).toArray = ls at hl ⊢
  have hl : lv_has ls 3 [(0, .ref h0), (1, .int x), (2, .int y)] := hl
  refine lv_iload_n hx hb dX2_rotateRight_0 rfl (lv_at hl 1 rfl) ?_
  refine lv_iload_n hx hb dX2_rotateRight_1 rfl (lv_at hl 2 rfl) ?_
  refine lv_iushr (v := ((x).toUInt32 >>> ((y).toUInt32 &&& Int32.toUInt32 31)).toInt32) hx hb dX2_rotateRight_2 rfl ?_
  refine lv_iload_n hx hb dX2_rotateRight_3 rfl (lv_at hl 1 rfl) ?_
  refine lv_iload_n hx hb dX2_rotateRight_4 rfl (lv_at hl 2 rfl) ?_
  refine lv_ineg hx hb dX2_rotateRight_5 ?_
  refine lv_ishl hx hb dX2_rotateRight_6 ?_
  refine lv_ior hx hb dX2_rotateRight_7 ?_
  exact W.iret (v := (((x).toUInt32 >>> ((y).toUInt32 &&& Int32.toUInt32 31)).toInt32) ||| (x <<< ((-y) &&& 31))) hx hb hr (fun t ht hW => ⟨_, rfl, rfl, ht⟩) (fun q h => by cases h) dX2_rotateRight_8
set_option maxHeartbeats 4000000 in
set_option maxRecDepth 100000 in
/-- RC6Engine.getBlockSize() -/
theorem met_X2_getBlockSize (l : Launch) (h0 : Nat) : Met l yX2_getBlockSize (ws_ yX2_getBlockSize cX2_getBlockSize 1 (some .int)) ({ frames := 0, cells := 0, slots := 0, locals := 0 }) (va_Pc [.ref h0] (fun _ => True)) (vp_Si (fun r => r = nI 16)) 0 0 (fun _ => False) := by
  refine Met.ofW (cc := cX2_getBlockSize) (maxL := 1) (ret := (some .int)) (by decide) rfl ?_
  intro p e s m args below meth c s₁ B hml hv
  obtain ⟨rfl, -⟩ := hv
  have hx := B.exec
  have hb := B.bytes
  have hr := B.returns
  have hts := atoms_spec (ws := (ws_ yX2_getBlockSize cX2_getBlockSize 1 (some .int))) B.pre
  have hts : ∀ w ∈ lw_all, w.before _ s = true := fun w h => hts w (List.mem_cons_of_mem _ h)
  have hown : s.vm.findClass RX2 = some m.cls := findClass_of_methodNamed B.named
  have hlocks := B.notSynchronized
  have hl := lv_entry ([.ref h0]) (n := 1) (Nat.le_of_ble_eq_true rfl)
  rw [lg_entry_eq]
  generalize (lg_sl ([.ref h0]) ++ List.replicate (1 - (lg_sl ([.ref h0])).length) Slot.unset).toArray = ls at hl ⊢
  have hl : lv_has ls 1 [(0, .ref h0)] := hl
  refine lv_bipush (v := (nI 16)) hx hb dX2_getBlockSize_0 (by decide) ?_
  exact W.iret (v := nI 16) hx hb hr (fun t ht hW => ⟨_, rfl, rfl, ht⟩) (fun q h => by cases h) dX2_getBlockSize_2
set_option maxHeartbeats 4000000 in
set_option maxRecDepth 100000 in
/-- RcSixDeskModel.left(w, y) -/
theorem met_X1_left (l : Launch) (w y : Int32) : Met l yX1_left (ws_ yX1_left cX1_left 3 (some .int)) ({ frames := 0, cells := 0, slots := 0, locals := 0 }) (va_Pc [.int w, .int y] (fun _ => True)) (vp_Si (fun r => r = rc_L w y)) 0 0 (fun _ => False) := by
  refine Met.ofW (cc := cX1_left) (maxL := 3) (ret := (some .int)) (by decide) rfl ?_
  intro p e s m args below meth c s₁ B hml hv
  obtain ⟨rfl, -⟩ := hv
  have hx := B.exec
  have hb := B.bytes
  have hr := B.returns
  have hts := atoms_spec (ws := (ws_ yX1_left cX1_left 3 (some .int))) B.pre
  have hts : ∀ w ∈ lw_all, w.before _ s = true := fun w h => hts w (List.mem_cons_of_mem _ h)
  have hown : s.vm.findClass RX1 = some m.cls := findClass_of_methodNamed B.named
  have hlocks := B.notSynchronized
  have hl := lv_entry ([.int w, .int y]) (n := 3) (Nat.le_of_ble_eq_true rfl)
  rw [lg_entry_eq]
  generalize (lg_sl ([.int w, .int y]) ++ List.replicate (3 - (lg_sl ([.int w, .int y])).length) Slot.unset).toArray = ls at hl ⊢
  have hl : lv_has ls 3 [(0, .int w), (1, .int y)] := hl
  refine lv_iload_n hx hb dX1_left_0 rfl (lv_at hl 1 rfl) ?_
  refine lv_bipush (v := 31) hx hb dX1_left_1 (by decide) ?_
  refine lv_iand hx hb dX1_left_3 ?_
  refine lv_istore_n (lv' := [(2, .int (y &&& 31)), (0, .int w), (1, .int y)]) hx hb dX1_left_4 rfl hl (by decide) rfl (fun ls hl => ?_)
  refine lv_iload_n hx hb dX1_left_5 rfl (lv_at hl 0 rfl) ?_
  refine lv_if_ne (tgt := 13) hx hb dX1_left_6 (by decide) (fun c_ => ?_) (fun c_ => ?_)
  · refine lv_iload_n hx hb dX1_left_13 rfl (lv_at hl 1 rfl) ?_
    refine lv_iload_n hx hb dX1_left_14 rfl (lv_at hl 0 rfl) ?_
    refine lv_ishl hx hb dX1_left_15 ?_
    refine lv_iload_n hx hb dX1_left_16 rfl (lv_at hl 1 rfl) ?_
    refine lv_bipush (v := 32) hx hb dX1_left_17 (by decide) ?_
    refine lv_iload_n hx hb dX1_left_19 rfl (lv_at hl 0 rfl) ?_
    refine lv_isub hx hb dX1_left_20 ?_
    refine lv_iushr (v := ((w).toUInt32 >>> ((32 - (y &&& 31)).toUInt32 &&& Int32.toUInt32 31)).toInt32) hx hb dX1_left_21 rfl ?_
    refine lv_ior hx hb dX1_left_22 ?_
    exact W.iret (v := (w <<< ((y &&& 31) &&& 31)) ||| (((w).toUInt32 >>> ((32 - (y &&& 31)).toUInt32 &&& Int32.toUInt32 31)).toInt32)) hx hb hr (fun t ht hW => ⟨_, rfl, rc_left1 w y, ht⟩) (fun q h => by cases h) dX1_left_23
  · refine lv_iload_n hx hb dX1_left_9 rfl (lv_at hl 1 rfl) ?_
    refine lv_goto (tgt := 23) hx hb dX1_left_10 (by decide) ?_
    exact W.iret (v := w) hx hb hr (fun t ht hW => ⟨_, rfl, rc_left0 w c_, ht⟩) (fun q h => by cases h) dX1_left_23
set_option maxHeartbeats 4000000 in
set_option maxRecDepth 100000 in
/-- RcSixDeskModel.right(w, y) -/
theorem met_X1_right (l : Launch) (w y : Int32) : Met l yX1_right (ws_ yX1_right cX1_right 2 (some .int)) ({ frames := 1, cells := 0, slots := 0, locals := 22 }) (va_Pc [.int w, .int y] (fun _ => True)) (vp_Si (fun r => r = rc_R w y)) 0 0 (fun _ => False) := by
  refine Met.ofW (cc := cX1_right) (maxL := 2) (ret := (some .int)) (by decide) rfl ?_
  intro p e s m args below meth c s₁ B hml hv
  obtain ⟨rfl, -⟩ := hv
  have hx := B.exec
  have hb := B.bytes
  have hr := B.returns
  have hts := atoms_spec (ws := (ws_ yX1_right cX1_right 2 (some .int))) B.pre
  have hts : ∀ w ∈ lw_all, w.before _ s = true := fun w h => hts w (List.mem_cons_of_mem _ h)
  have hown : s.vm.findClass RX1 = some m.cls := findClass_of_methodNamed B.named
  have hlocks := B.notSynchronized
  have hl := lv_entry ([.int w, .int y]) (n := 2) (Nat.le_of_ble_eq_true rfl)
  rw [lg_entry_eq]
  generalize (lg_sl ([.int w, .int y]) ++ List.replicate (2 - (lg_sl ([.int w, .int y])).length) Slot.unset).toArray = ls at hl ⊢
  have hl : lv_has ls 2 [(0, .int w), (1, .int y)] := hl
  refine lv_iload_n hx hb dX1_right_0 rfl (lv_at hl 0 rfl) ?_
  refine lv_bipush (v := 32) hx hb dX1_right_1 (by decide) ?_
  refine lv_iload_n hx hb dX1_right_3 rfl (lv_at hl 1 rfl) ?_
  refine lv_bipush (v := 31) hx hb dX1_right_4 (by decide) ?_
  refine lv_iand hx hb dX1_right_6 ?_
  refine lv_isub hx hb dX1_right_7 ?_
  refine vp_callSi (va_runS (As := [.int w, .int (32 - (y &&& 31))]) (rest := []) ⟨hx, hb, hml, hown, hts⟩ (met_X1_left l w (32 - (y &&& 31))) (va_cwS 2 hts (lw_S q341 q342 q14 q343) rfl rfl rfl (by decide +kernel) ⟨Nat.le_of_ble_eq_true rfl, Nat.le_of_ble_eq_true rfl⟩) ⟨fun _ _ _ _ q => q, fun _ _ _ => ⟨rfl, trivial⟩⟩ rfl rfl hl.1 rfl (lv_room (Nat.le_of_ble_eq_true rfl)) dX1_right_8 ⟨Nat.le_of_ble_eq_true rfl, Nat.le_of_ble_eq_true rfl⟩).run (fun r hr_ => ?_)
  exact W.iret (v := r) hx hb hr (fun t ht hW => ⟨_, rfl, hr_.trans (rc_right w y), ht⟩) (fun q h => by cases h) dX1_right_11
set_option maxHeartbeats 4000000 in
set_option maxRecDepth 100000 in
/-- size(kind) -/
theorem met_X0_size (l : Launch) (k : Int32) : Met l yX0_size (ws_ yX0_size cX0_size 1 (some .int)) ({ frames := 0, cells := 0, slots := 0, locals := 0 }) (va_Pc [.int k] (fun _ => True)) (vp_Si (fun r => r = nI (4 * rc_c k))) 0 0 (fun _ => False) := by
  refine Met.ofW (cc := cX0_size) (maxL := 1) (ret := (some .int)) (by decide) rfl ?_
  intro p e s m args below meth c s₁ B hml hv
  obtain ⟨rfl, -⟩ := hv
  have hx := B.exec
  have hb := B.bytes
  have hr := B.returns
  have hts := atoms_spec (ws := (ws_ yX0_size cX0_size 1 (some .int))) B.pre
  have hts : ∀ w ∈ lw_all, w.before _ s = true := fun w h => hts w (List.mem_cons_of_mem _ h)
  have hown : s.vm.findClass RX0 = some m.cls := findClass_of_methodNamed B.named
  have hlocks := B.notSynchronized
  have hl := lv_entry ([.int k]) (n := 1) (Nat.le_of_ble_eq_true rfl)
  rw [lg_entry_eq]
  generalize (lg_sl ([.int k]) ++ List.replicate (1 - (lg_sl ([.int k])).length) Slot.unset).toArray = ls at hl ⊢
  have hl : lv_has ls 1 [(0, .int k)] := hl
  refine lv_iload_n hx hb dX0_size_0 rfl (lv_at hl 0 rfl) ?_
  refine lv_iconst (v := 3) hx hb dX0_size_1 (by decide) ?_
  refine lv_iand hx hb dX0_size_2 ?_
  refine lv_iconst (v := 3) hx hb dX0_size_3 (by decide) ?_
  refine lv_irem hx hb dX0_size_4 (by decide) ?_
  refine lv_if_ne (tgt := 13) hx hb dX0_size_5 (by decide) (fun c1_ => ?_) (fun c1_ => ?_)
  · refine lv_iload_n hx hb dX0_size_13 rfl (lv_at hl 0 rfl) ?_
    refine lv_iconst (v := 3) hx hb dX0_size_14 (by decide) ?_
    refine lv_iand hx hb dX0_size_15 ?_
    refine lv_iconst (v := 3) hx hb dX0_size_16 (by decide) ?_
    refine lv_irem hx hb dX0_size_17 (by decide) ?_
    refine lv_iconst (v := 1) hx hb dX0_size_18 (by decide) ?_
    refine lv_icmp_ne (tgt := 27) hx hb dX0_size_19 (by decide) (fun c2_ => ?_) (fun c2_ => ?_)
    · refine lv_bipush (v := (nI (4 * 8))) hx hb dX0_size_27 (by decide) ?_
      exact W.iret (v := nI (4 * 8)) hx hb hr (fun t ht hW => ⟨_, rfl, by unfold rc_c; rw [if_neg c1_, if_neg c2_], ht⟩) (fun q h => by cases h) dX0_size_29
    · refine lv_bipush (v := (nI (4 * 6))) hx hb dX0_size_22 (by decide) ?_
      refine lv_goto (tgt := 29) hx hb dX0_size_24 (by decide) ?_
      exact W.iret (v := nI (4 * 6)) hx hb hr (fun t ht hW => ⟨_, rfl, by unfold rc_c; rw [if_neg c1_, if_pos c2_], ht⟩) (fun q h => by cases h) dX0_size_29
  · refine lv_bipush (v := (nI (4 * 4))) hx hb dX0_size_8 (by decide) ?_
    refine lv_goto (tgt := 29) hx hb dX0_size_10 (by decide) ?_
    exact W.iret (v := nI (4 * 4)) hx hb hr (fun t ht hW => ⟨_, rfl, by unfold rc_c; rw [if_pos c1_], ht⟩) (fun q h => by cases h) dX0_size_29
set_option maxHeartbeats 4000000 in
set_option maxRecDepth 100000 in
/-- size(kind) -/
theorem met_X1_size (l : Launch) (k : Int32) : Met l yX1_size (ws_ yX1_size cX1_size 1 (some .int)) ({ frames := 0, cells := 0, slots := 0, locals := 0 }) (va_Pc [.int k] (fun _ => True)) (vp_Si (fun r => r = nI (4 * rc_c k))) 0 0 (fun _ => False) := by
  refine Met.ofW (cc := cX1_size) (maxL := 1) (ret := (some .int)) (by decide) rfl ?_
  intro p e s m args below meth c s₁ B hml hv
  obtain ⟨rfl, -⟩ := hv
  have hx := B.exec
  have hb := B.bytes
  have hr := B.returns
  have hts := atoms_spec (ws := (ws_ yX1_size cX1_size 1 (some .int))) B.pre
  have hts : ∀ w ∈ lw_all, w.before _ s = true := fun w h => hts w (List.mem_cons_of_mem _ h)
  have hown : s.vm.findClass RX1 = some m.cls := findClass_of_methodNamed B.named
  have hlocks := B.notSynchronized
  have hl := lv_entry ([.int k]) (n := 1) (Nat.le_of_ble_eq_true rfl)
  rw [lg_entry_eq]
  generalize (lg_sl ([.int k]) ++ List.replicate (1 - (lg_sl ([.int k])).length) Slot.unset).toArray = ls at hl ⊢
  have hl : lv_has ls 1 [(0, .int k)] := hl
  refine lv_iload_n hx hb dX1_size_0 rfl (lv_at hl 0 rfl) ?_
  refine lv_iconst (v := 3) hx hb dX1_size_1 (by decide) ?_
  refine lv_iand hx hb dX1_size_2 ?_
  refine lv_iconst (v := 3) hx hb dX1_size_3 (by decide) ?_
  refine lv_irem hx hb dX1_size_4 (by decide) ?_
  refine lv_if_ne (tgt := 13) hx hb dX1_size_5 (by decide) (fun c1_ => ?_) (fun c1_ => ?_)
  · refine lv_iload_n hx hb dX1_size_13 rfl (lv_at hl 0 rfl) ?_
    refine lv_iconst (v := 3) hx hb dX1_size_14 (by decide) ?_
    refine lv_iand hx hb dX1_size_15 ?_
    refine lv_iconst (v := 3) hx hb dX1_size_16 (by decide) ?_
    refine lv_irem hx hb dX1_size_17 (by decide) ?_
    refine lv_iconst (v := 1) hx hb dX1_size_18 (by decide) ?_
    refine lv_icmp_ne (tgt := 27) hx hb dX1_size_19 (by decide) (fun c2_ => ?_) (fun c2_ => ?_)
    · refine lv_bipush (v := (nI (4 * 8))) hx hb dX1_size_27 (by decide) ?_
      exact W.iret (v := nI (4 * 8)) hx hb hr (fun t ht hW => ⟨_, rfl, by unfold rc_c; rw [if_neg c1_, if_neg c2_], ht⟩) (fun q h => by cases h) dX1_size_29
    · refine lv_bipush (v := (nI (4 * 6))) hx hb dX1_size_22 (by decide) ?_
      refine lv_goto (tgt := 29) hx hb dX1_size_24 (by decide) ?_
      exact W.iret (v := nI (4 * 6)) hx hb hr (fun t ht hW => ⟨_, rfl, by unfold rc_c; rw [if_neg c1_, if_pos c2_], ht⟩) (fun q h => by cases h) dX1_size_29
  · refine lv_bipush (v := (nI (4 * 4))) hx hb dX1_size_8 (by decide) ?_
    refine lv_goto (tgt := 29) hx hb dX1_size_10 (by decide) ?_
    exact W.iret (v := nI (4 * 4)) hx hb hr (fun t ht hW => ⟨_, rfl, by unfold rc_c; rw [if_pos c1_], ht⟩) (fun q h => by cases h) dX1_size_29
set_option maxHeartbeats 4000000 in
set_option maxRecDepth 100000 in
/-- RcSixDeskModel.at(which, k, a, b, c, d) -/
theorem met_X1_at (l : Launch) (q k : Nat) (hq : q < 4) (hk : k < 4) (a b c_ d : Int32) : Met l yX1_at (ws_ yX1_at cX1_at 7 (some .int)) ({ frames := 0, cells := 0, slots := 0, locals := 0 }) (va_Pc [.int (nI q), .int (nI k), .int a, .int b, .int c_, .int d] (fun _ => True)) (vp_Si (fun r => r = rc_w (rc_sel a b c_ d q) (3 - k))) 0 0 (fun _ => False) := by
  refine Met.ofW (cc := cX1_at) (maxL := 7) (ret := (some .int)) (by decide) rfl ?_
  intro p e s m args below meth c s₁ B hml hv
  obtain ⟨rfl, -⟩ := hv
  have hx := B.exec
  have hb := B.bytes
  have hr := B.returns
  have hts := atoms_spec (ws := (ws_ yX1_at cX1_at 7 (some .int))) B.pre
  have hts : ∀ w ∈ lw_all, w.before _ s = true := fun w h => hts w (List.mem_cons_of_mem _ h)
  have hown : s.vm.findClass RX1 = some m.cls := findClass_of_methodNamed B.named
  have hlocks := B.notSynchronized
  have hl := lv_entry ([.int (nI q), .int (nI k), .int a, .int b, .int c_, .int d]) (n := 7) (Nat.le_of_ble_eq_true rfl)
  rw [lg_entry_eq]
  generalize (lg_sl ([.int (nI q), .int (nI k), .int a, .int b, .int c_, .int d]) ++ List.replicate (7 - (lg_sl ([.int (nI q), .int (nI k), .int a, .int b, .int c_, .int d])).length) Slot.unset).toArray = ls at hl ⊢
  have hl : lv_has ls 7 [(0, .int (nI q)), (1, .int (nI k)), (2, .int a), (3, .int b), (4, .int c_), (5, .int d)] := hl
  rcases (show q = 0 ∨ q = 1 ∨ q = 2 ∨ q = 3 by omega) with rfl | rfl | rfl | rfl
  · refine lv_iload_n hx hb dX1_at_0 rfl (lv_at hl 0 rfl) ?_
    refine lv_if_ne (tgt := 8) hx hb dX1_at_1 (by decide) (fun c_ => absurd rfl c_) (fun _ => ?_)
    refine lv_iload_n hx hb dX1_at_4 rfl (lv_at hl 2 rfl) ?_
    refine lv_goto (tgt := 29) hx hb dX1_at_5 (by decide) ?_
    refine lv_istore (lv' := [(6, .int a), (0, .int (nI 0)), (1, .int (nI k)), (2, .int a), (3, .int b), (4, .int c_), (5, .int d)]) hx hb dX1_at_29 hl (by decide) rfl (fun ls hl => ?_)
    refine lv_iload hx hb dX1_at_31 (lv_at hl 0 rfl) ?_
    refine lv_bipush (v := 24) hx hb dX1_at_33 (by decide) ?_
    refine lv_bipush (v := 8) hx hb dX1_at_35 (by decide) ?_
    refine lv_iload_n hx hb dX1_at_37 rfl (lv_at hl 2 rfl) ?_
    refine lv_imul hx hb dX1_at_38 ?_
    refine lv_isub hx hb dX1_at_39 ?_
    refine zt (nI (8 * (3 - k))) (rc_at k hk) ?_
    refine lv_iushr (v := (rc_w a (3 - k))) hx hb dX1_at_40 rfl ?_
    exact W.iret (v := rc_w a (3 - k)) hx hb hr (fun t ht hW => ⟨_, rfl, by simp [rc_sel], ht⟩) (fun q h => by cases h) dX1_at_41
  · refine lv_iload_n hx hb dX1_at_0 rfl (lv_at hl 0 rfl) ?_
    refine lv_if_ne (tgt := 8) hx hb dX1_at_1 (by decide) (fun _ => ?_) (fun c_ => absurd c_ (by decide +kernel))
    refine lv_iload_n hx hb dX1_at_8 rfl (lv_at hl 0 rfl) ?_
    refine lv_iconst (v := 1) hx hb dX1_at_9 (by decide) ?_
    refine lv_icmp_ne (tgt := 17) hx hb dX1_at_10 (by decide) (fun c_ => absurd rfl c_) (fun _ => ?_)
    refine lv_iload_n hx hb dX1_at_13 rfl (lv_at hl 3 rfl) ?_
    refine lv_goto (tgt := 29) hx hb dX1_at_14 (by decide) ?_
    refine lv_istore (lv' := [(6, .int b), (0, .int (nI 1)), (1, .int (nI k)), (2, .int a), (3, .int b), (4, .int c_), (5, .int d)]) hx hb dX1_at_29 hl (by decide) rfl (fun ls hl => ?_)
    refine lv_iload hx hb dX1_at_31 (lv_at hl 0 rfl) ?_
    refine lv_bipush (v := 24) hx hb dX1_at_33 (by decide) ?_
    refine lv_bipush (v := 8) hx hb dX1_at_35 (by decide) ?_
    refine lv_iload_n hx hb dX1_at_37 rfl (lv_at hl 2 rfl) ?_
    refine lv_imul hx hb dX1_at_38 ?_
    refine lv_isub hx hb dX1_at_39 ?_
    refine zt (nI (8 * (3 - k))) (rc_at k hk) ?_
    refine lv_iushr (v := (rc_w b (3 - k))) hx hb dX1_at_40 rfl ?_
    exact W.iret (v := rc_w b (3 - k)) hx hb hr (fun t ht hW => ⟨_, rfl, by simp [rc_sel], ht⟩) (fun q h => by cases h) dX1_at_41
  · refine lv_iload_n hx hb dX1_at_0 rfl (lv_at hl 0 rfl) ?_
    refine lv_if_ne (tgt := 8) hx hb dX1_at_1 (by decide) (fun _ => ?_) (fun c_ => absurd c_ (by decide +kernel))
    refine lv_iload_n hx hb dX1_at_8 rfl (lv_at hl 0 rfl) ?_
    refine lv_iconst (v := 1) hx hb dX1_at_9 (by decide) ?_
    refine lv_icmp_ne (tgt := 17) hx hb dX1_at_10 (by decide) (fun _ => ?_) (fun c_ => absurd c_ (by decide +kernel))
    refine lv_iload_n hx hb dX1_at_17 rfl (lv_at hl 0 rfl) ?_
    refine lv_iconst (v := 2) hx hb dX1_at_18 (by decide) ?_
    refine lv_icmp_ne (tgt := 27) hx hb dX1_at_19 (by decide) (fun c_ => absurd rfl c_) (fun _ => ?_)
    refine lv_iload hx hb dX1_at_22 (lv_at hl 4 rfl) ?_
    refine lv_goto (tgt := 29) hx hb dX1_at_24 (by decide) ?_
    refine lv_istore (lv' := [(6, .int c_), (0, .int (nI 2)), (1, .int (nI k)), (2, .int a), (3, .int b), (4, .int c_), (5, .int d)]) hx hb dX1_at_29 hl (by decide) rfl (fun ls hl => ?_)
    refine lv_iload hx hb dX1_at_31 (lv_at hl 0 rfl) ?_
    refine lv_bipush (v := 24) hx hb dX1_at_33 (by decide) ?_
    refine lv_bipush (v := 8) hx hb dX1_at_35 (by decide) ?_
    refine lv_iload_n hx hb dX1_at_37 rfl (lv_at hl 2 rfl) ?_
    refine lv_imul hx hb dX1_at_38 ?_
    refine lv_isub hx hb dX1_at_39 ?_
    refine zt (nI (8 * (3 - k))) (rc_at k hk) ?_
    refine lv_iushr (v := (rc_w c_ (3 - k))) hx hb dX1_at_40 rfl ?_
    exact W.iret (v := rc_w c_ (3 - k)) hx hb hr (fun t ht hW => ⟨_, rfl, by simp [rc_sel], ht⟩) (fun q h => by cases h) dX1_at_41
  · refine lv_iload_n hx hb dX1_at_0 rfl (lv_at hl 0 rfl) ?_
    refine lv_if_ne (tgt := 8) hx hb dX1_at_1 (by decide) (fun _ => ?_) (fun c_ => absurd c_ (by decide +kernel))
    refine lv_iload_n hx hb dX1_at_8 rfl (lv_at hl 0 rfl) ?_
    refine lv_iconst (v := 1) hx hb dX1_at_9 (by decide) ?_
    refine lv_icmp_ne (tgt := 17) hx hb dX1_at_10 (by decide) (fun _ => ?_) (fun c_ => absurd c_ (by decide +kernel))
    refine lv_iload_n hx hb dX1_at_17 rfl (lv_at hl 0 rfl) ?_
    refine lv_iconst (v := 2) hx hb dX1_at_18 (by decide) ?_
    refine lv_icmp_ne (tgt := 27) hx hb dX1_at_19 (by decide) (fun _ => ?_) (fun c_ => absurd c_ (by decide +kernel))
    refine lv_iload hx hb dX1_at_27 (lv_at hl 5 rfl) ?_
    refine lv_istore (lv' := [(6, .int d), (0, .int (nI 3)), (1, .int (nI k)), (2, .int a), (3, .int b), (4, .int c_), (5, .int d)]) hx hb dX1_at_29 hl (by decide) rfl (fun ls hl => ?_)
    refine lv_iload hx hb dX1_at_31 (lv_at hl 0 rfl) ?_
    refine lv_bipush (v := 24) hx hb dX1_at_33 (by decide) ?_
    refine lv_bipush (v := 8) hx hb dX1_at_35 (by decide) ?_
    refine lv_iload_n hx hb dX1_at_37 rfl (lv_at hl 2 rfl) ?_
    refine lv_imul hx hb dX1_at_38 ?_
    refine lv_isub hx hb dX1_at_39 ?_
    refine zt (nI (8 * (3 - k))) (rc_at k hk) ?_
    refine lv_iushr (v := (rc_w d (3 - k))) hx hb dX1_at_40 rfl ?_
    exact W.iret (v := rc_w d (3 - k)) hx hb hr (fun t ht hW => ⟨_, rfl, by simp [rc_sel], ht⟩) (fun q h => by cases h) dX1_at_41
set_option maxHeartbeats 4000000 in
set_option maxRecDepth 100000 in
/-- RcSixDeskModel.word(of, k) -/
theorem met_X1_word (l : Launch) (dC : Nat → ClassId) (dI : Nat → Nat → Nat) (ha n : Nat) (dB : ClassId) (f : Nat → Int32) (k : Nat) (hk : 4 * k + 3 < n) (hn : n < 1000) : Met l yX1_word (ws_ yX1_word cX1_word 2 (some .int)) ({ frames := 0, cells := 0, slots := 0, locals := 0 }) (va_Pc [.ref ha, .int (nI k)] (zr_pre (dC, dI) [(dB, .byte)] [(ha, .inl (dB, n, .inl f))])) (vp_Si (fun r => r = rc_wd f (4 * k))) 0 0 (fun _ => False) := by
  refine Met.ofW (cc := cX1_word) (maxL := 2) (ret := (some .int)) (by decide) rfl ?_
  intro p e s m args below meth c s₁ B hml hv
  obtain ⟨rfl, hP, hK⟩ := hv
  have hx := B.exec
  have hb := B.bytes
  have hr := B.returns
  have hts := atoms_spec (ws := (ws_ yX1_word cX1_word 2 (some .int))) B.pre
  have hts : ∀ w ∈ lw_all, w.before _ s = true := fun w h => hts w (List.mem_cons_of_mem _ h)
  have hown : s.vm.findClass RX1 = some m.cls := findClass_of_methodNamed B.named
  have hlocks := B.notSynchronized
  have hl := lv_entry ([.ref ha, .int (nI k)]) (n := 2) (Nat.le_of_ble_eq_true rfl)
  rw [lg_entry_eq]
  generalize (lg_sl ([.ref ha, .int (nI k)]) ++ List.replicate (2 - (lg_sl ([.ref ha, .int (nI k)])).length) Slot.unset).toArray = ls at hl ⊢
  have hl : lv_has ls 2 [(0, .ref ha), (1, .int (nI k))] := hl
  refine lv_aload_n hx hb dX1_word_0 rfl (lv_at hl 0 rfl) ?_
  refine lv_iconst (v := 4) hx hb dX1_word_1 (by decide) ?_
  refine lv_iload_n hx hb dX1_word_2 rfl (lv_at hl 1 rfl) ?_
  refine lv_imul hx hb dX1_word_3 ?_
  refine zz_bald hx hb hK hP 0 0 rfl rfl (4 * k) (pk_mul 4 k) (by omega) (by omega) dX1_word_4 ?_
  refine lv_sipush (v := 255) hx hb dX1_word_5 (by decide) ?_
  refine lv_iand hx hb dX1_word_8 ?_
  refine lv_aload_n hx hb dX1_word_9 rfl (lv_at hl 0 rfl) ?_
  refine lv_iconst (v := 4) hx hb dX1_word_10 (by decide) ?_
  refine lv_iload_n hx hb dX1_word_11 rfl (lv_at hl 1 rfl) ?_
  refine lv_imul hx hb dX1_word_12 ?_
  refine lv_iconst (v := 1) hx hb dX1_word_13 (by decide) ?_
  refine lv_iadd hx hb dX1_word_14 ?_
  refine zz_bald hx hb hK hP 0 0 rfl rfl (4 * k + 1) (rc_i4 k 1) (by omega) (by omega) dX1_word_15 ?_
  refine lv_sipush (v := 255) hx hb dX1_word_16 (by decide) ?_
  refine lv_iand hx hb dX1_word_19 ?_
  refine lv_bipush (v := 8) hx hb dX1_word_20 (by decide) ?_
  refine lv_ishl hx hb dX1_word_22 ?_
  refine lv_ior hx hb dX1_word_23 ?_
  refine lv_aload_n hx hb dX1_word_24 rfl (lv_at hl 0 rfl) ?_
  refine lv_iconst (v := 4) hx hb dX1_word_25 (by decide) ?_
  refine lv_iload_n hx hb dX1_word_26 rfl (lv_at hl 1 rfl) ?_
  refine lv_imul hx hb dX1_word_27 ?_
  refine lv_iconst (v := 2) hx hb dX1_word_28 (by decide) ?_
  refine lv_iadd hx hb dX1_word_29 ?_
  refine zz_bald hx hb hK hP 0 0 rfl rfl (4 * k + 2) (rc_i4 k 2) (by omega) (by omega) dX1_word_30 ?_
  refine lv_sipush (v := 255) hx hb dX1_word_31 (by decide) ?_
  refine lv_iand hx hb dX1_word_34 ?_
  refine lv_bipush (v := 16) hx hb dX1_word_35 (by decide) ?_
  refine lv_ishl hx hb dX1_word_37 ?_
  refine lv_ior hx hb dX1_word_38 ?_
  refine lv_aload_n hx hb dX1_word_39 rfl (lv_at hl 0 rfl) ?_
  refine lv_iconst (v := 4) hx hb dX1_word_40 (by decide) ?_
  refine lv_iload_n hx hb dX1_word_41 rfl (lv_at hl 1 rfl) ?_
  refine lv_imul hx hb dX1_word_42 ?_
  refine lv_iconst (v := 3) hx hb dX1_word_43 (by decide) ?_
  refine lv_iadd hx hb dX1_word_44 ?_
  refine zz_bald hx hb hK hP 0 0 rfl rfl (4 * k + 3) (rc_i4 k 3) (by omega) (by omega) dX1_word_45 ?_
  refine lv_sipush (v := 255) hx hb dX1_word_46 (by decide) ?_
  refine lv_iand hx hb dX1_word_49 ?_
  refine lv_bipush (v := 24) hx hb dX1_word_50 (by decide) ?_
  refine lv_ishl hx hb dX1_word_52 ?_
  refine lv_ior hx hb dX1_word_53 ?_
  exact W.iret (v := ((((f (4 * k)) &&& 255) ||| (((f (4 * k + 1)) &&& 255) <<< ((8 : Int32) &&& 31))) ||| (((f (4 * k + 2)) &&& 255) <<< ((16 : Int32) &&& 31))) ||| (((f (4 * k + 3)) &&& 255) <<< ((24 : Int32) &&& 31))) hx hb hr (fun t ht hW => ⟨_, rfl, rfl, ht⟩) (fun q h => by cases h) dX1_word_54
set_option maxHeartbeats 4000000 in
set_option maxRecDepth 100000 in
/-- RC6Engine.bytesToWord(src, off) -/
theorem met_X2_bytesToWord (l : Launch) (dC : Nat → ClassId) (dI : Nat → Nat → Nat) (h0 ha n : Nat) (dB : ClassId) (f : Nat → Int32) (o : Nat) (ho : o + 3 < n) (hn : n < 1000) : Met l yX2_bytesToWord (ws_ yX2_bytesToWord cX2_bytesToWord 5 (some .int)) ({ frames := 0, cells := 0, slots := 0, locals := 0 }) (va_Pc [.ref h0, .ref ha, .int (nI o)] (zr_pre (dC, dI) [(dB, .byte)] [(ha, .inl (dB, n, .inl f))])) (vp_Si (fun r => r = rc_wd f o)) 0 0 (fun _ => False) := by
  refine Met.ofW (cc := cX2_bytesToWord) (maxL := 5) (ret := (some .int)) (by decide) rfl ?_
  intro p e s m args below meth c s₁ B hml hv
  obtain ⟨rfl, hP, hK⟩ := hv
  have hx := B.exec
  have hb := B.bytes
  have hr := B.returns
  have hts := atoms_spec (ws := (ws_ yX2_bytesToWord cX2_bytesToWord 5 (some .int))) B.pre
  have hts : ∀ w ∈ lw_all, w.before _ s = true := fun w h => hts w (List.mem_cons_of_mem _ h)
  have hown : s.vm.findClass RX2 = some m.cls := findClass_of_methodNamed B.named
  have hlocks := B.notSynchronized
  have hl := lv_entry ([.ref h0, .ref ha, .int (nI o)]) (n := 5) (Nat.le_of_ble_eq_true rfl)
  rw [lg_entry_eq]
  generalize (lg_sl ([.ref h0, .ref ha, .int (nI o)]) ++ List.replicate (5 - (lg_sl ([.ref h0, .ref ha, .int (nI o)])).length) Slot.unset).toArray = ls at hl ⊢
  have hl : lv_has ls 5 [(0, .ref h0), (1, .ref ha), (2, .int (nI o))] := hl
  have loop : ∀ (i : Nat), i ≤ 4 → ∀ (x4 wv : Int32), x4 = nI i - 1 → wv = rc_pw f o (4 - i) → ∀ ls : Array Slot, lv_has ls 5 [(0, .ref h0), (1, .ref ha), (2, .int (nI o)), (3, .int wv), (4, .int x4)] → W p l e (headSpec (ws_ yX2_bytesToWord cX2_bytesToWord 5 (some .int)) ({ frames := 0, cells := 0, slots := 0, locals := 0 })).room s m ([.ref h0, .ref ha, .int (nI o)] : List Value).toArray below meth c s.heap [] 0 0 (MQ below (vp_Si (fun r => r = rc_wd f o)) ([.ref h0, .ref ha, .int (nI o)] : List Value).toArray s 0 0 (fun _ => False)) (F0 m 5 ls []) := by
    intro i
    induction i with
    | zero =>
      intro _ x4 wv ex ew ls hl
      refine lv_iload hx hb dX2_bytesToWord_5 (lv_at hl 4 rfl) ?_
      refine lv_if_lt (tgt := 32) hx hb dX2_bytesToWord_7 (by decide) (fun _ => ?_) (fun c_ => absurd (by rw [ex]; decide +kernel) c_)
      refine lv_iload_n hx hb dX2_bytesToWord_32 rfl (lv_at hl 3 rfl) ?_
      exact W.iret (v := wv) hx hb hr (fun t ht hW => ⟨_, rfl, by rw [ew]; exact rc_pw4 f o, ht⟩) (fun q h => by cases h) dX2_bytesToWord_33
    | succ i ih =>
      intro hi x4 wv ex ew ls hl
      have ex : x4 = nI i := by rw [ex]; exact nI_pred i
      subst ex
      refine lv_iload hx hb dX2_bytesToWord_5 (lv_at hl 4 rfl) ?_
      refine lv_if_lt (tgt := 32) hx hb dX2_bytesToWord_7 (by decide) (fun c_ => absurd c_ (nI_pos (by omega))) (fun _ => ?_)
      refine lv_iload_n hx hb dX2_bytesToWord_10 rfl (lv_at hl 3 rfl) ?_
      refine lv_bipush (v := 8) hx hb dX2_bytesToWord_11 (by decide) ?_
      refine lv_ishl hx hb dX2_bytesToWord_13 ?_
      refine lv_aload_n hx hb dX2_bytesToWord_14 rfl (lv_at hl 1 rfl) ?_
      refine lv_iload hx hb dX2_bytesToWord_15 (lv_at hl 4 rfl) ?_
      refine lv_iload_n hx hb dX2_bytesToWord_17 rfl (lv_at hl 2 rfl) ?_
      refine lv_iadd hx hb dX2_bytesToWord_18 ?_
      refine zz_bald hx hb hK hP 0 0 rfl rfl (i + o) (nI_add i o) (by omega) (by omega) dX2_bytesToWord_19 ?_
      refine lv_sipush (v := 255) hx hb dX2_bytesToWord_20 (by decide) ?_
      refine lv_iand hx hb dX2_bytesToWord_23 ?_
      refine lv_iadd hx hb dX2_bytesToWord_24 ?_
      refine lv_istore_n (lv' := [(3, .int ((wv <<< ((8 : Int32) &&& 31)) + ((f (i + o)) &&& 255))), (0, .ref h0), (1, .ref ha), (2, .int (nI o)), (4, .int (nI i))]) hx hb dX2_bytesToWord_25 rfl hl (by decide) rfl (fun ls hl => ?_)
      refine lv_iinc (v := (nI i - 1)) (lv' := [(4, .int (nI i - 1)), (3, .int ((wv <<< ((8 : Int32) &&& 31)) + ((f (i + o)) &&& 255))), (0, .ref h0), (1, .ref ha), (2, .int (nI o))]) hx hb dX2_bytesToWord_26 hl (k := 4) rfl (zi_m _) (by decide) rfl (fun ls hl => ?_)
      refine lv_goto (tgt := 5) hx hb dX2_bytesToWord_29 (by decide) ?_
      refine ih (by omega) _ _ rfl ?_ ls (lv_sub hl [2, 3, 4, 1, 0] rfl)
      rw [show 4 - i = (4 - (i + 1)) + 1 by omega, ew]
      show _ = (rc_pw f o (4 - (i + 1)) <<< ((8 : Int32) &&& 31)) + (f (o + (3 - (4 - (i + 1)))) &&& 255)
      rw [show o + (3 - (4 - (i + 1))) = i + o by omega]
  refine lv_iconst (v := 0) hx hb dX2_bytesToWord_0 (by decide) ?_
  refine lv_istore_n (lv' := [(3, .int 0), (0, .ref h0), (1, .ref ha), (2, .int (nI o))]) hx hb dX2_bytesToWord_1 rfl hl (by decide) rfl (fun ls hl => ?_)
  refine lv_iconst (v := 3) hx hb dX2_bytesToWord_2 (by decide) ?_
  refine lv_istore (lv' := [(4, .int 3), (3, .int 0), (0, .ref h0), (1, .ref ha), (2, .int (nI o))]) hx hb dX2_bytesToWord_3 hl (by decide) rfl (fun ls hl => ?_)
  exact loop 4 (by omega) _ _ (by decide +kernel) rfl ls (lv_sub hl [2, 3, 4, 1, 0] rfl)
set_option maxHeartbeats 4000000 in
set_option maxRecDepth 100000 in
/-- RC6Engine.wordToBytes(w, dst, off) -/
theorem met_X2_wordToBytes (l : Launch) (dC : Nat → ClassId) (dI : Nat → Nat → Nat) (sz : Nat) (h0 ha n : Nat) (dB : ClassId) (f : Nat → Int32) (w : Int32) (o : Nat) (ho : o + 3 < n) (hn : n < 1000) : Met l yX2_wordToBytes (ws_ yX2_wordToBytes cX2_wordToBytes 5 none) ({ frames := 0, cells := 0, slots := 0, locals := 0 }) (va_Pc [.ref h0, .int w, .ref ha, .int (nI o)] (zw_pre (dC, dI) [(dB, .byte)] [(ha, .inl (dB, n, .inl f))] sz)) (va_Qv (fun _ => True) (fun (_ : Unit) t => zw_post (dC, dI) [(dB, .byte)] [(ha, .inl (dB, n, .inl (rc_pb w o 4 f)))] (va_A [(ha, .inl (dB, n, .inl f))] sz) t) (va_A [(ha, .inl (dB, n, .inl f))] sz)) 0 0 (va_A [(ha, .inl (dB, n, .inl f))] sz) := by
  refine Met.ofW (cc := cX2_wordToBytes) (maxL := 5) (ret := none) (by decide) rfl ?_
  intro p e s m args below meth c s₁ B hml hv
  obtain ⟨rfl, hsz, hP, hK, hD0⟩ := hv
  have hx := B.exec
  have hb := B.bytes
  have hr := B.returns
  have hts := atoms_spec (ws := (ws_ yX2_wordToBytes cX2_wordToBytes 5 none)) B.pre
  have hts : ∀ w ∈ lw_all, w.before _ s = true := fun w h => hts w (List.mem_cons_of_mem _ h)
  have hown : s.vm.findClass RX2 = some m.cls := findClass_of_methodNamed B.named
  have hlocks := B.notSynchronized
  subst hsz
  have hD := hD0.self (sz := s.heap.size)
  generalize hAe : va_A [(ha, .inl (dB, n, .inl f))] s.heap.size = A at hD ⊢
  have hA : ∀ q : Nat, s.heap.size ≤ q → A q := fun q h => by rw [← hAe]; exact Or.inr h
  have hS : va_S A s.heap s.heap [] := va_S.rf
  have hP : va_P (dC, dI) vwCl [(ha, .inl (dB, n, .inl f))] s.heap := hP
  have hl := lv_entry ([.ref h0, .int w, .ref ha, .int (nI o)]) (n := 5) (Nat.le_of_ble_eq_true rfl)
  rw [lg_entry_eq]
  generalize (lg_sl ([.ref h0, .int w, .ref ha, .int (nI o)]) ++ List.replicate (5 - (lg_sl ([.ref h0, .int w, .ref ha, .int (nI o)])).length) Slot.unset).toArray = ls at hl ⊢
  have hl : lv_has ls 5 [(0, .ref h0), (1, .int w), (2, .ref ha), (3, .int (nI o))] := hl
  have loop : ∀ (k i : Nat), i + k = 4 → ∀ (wv : Int32), (i < 4 → wv = rc_w w i) → ∀ (H : Heap) (locs : List Loc), va_P (dC, dI) vwCl [(ha, .inl (dB, n, .inl (rc_pb w o i f)))] H → va_D A [(ha, .inl (dB, n, .inl (rc_pb w o i f)))] → va_S A s.heap H locs → ∀ ls : Array Slot, lv_has ls 5 [(0, .ref h0), (1, .int wv), (2, .ref ha), (3, .int (nI o)), (4, .int (nI i))] → W p l e (headSpec (ws_ yX2_wordToBytes cX2_wordToBytes 5 none) ({ frames := 0, cells := 0, slots := 0, locals := 0 })).room s m ([.ref h0, .int w, .ref ha, .int (nI o)] : List Value).toArray below meth c H locs 0 0 (MQ below (va_Qv (fun _ => True) (fun (_ : Unit) t => zw_post (dC, dI) [(dB, .byte)] [(ha, .inl (dB, n, .inl (rc_pb w o 4 f)))] A t) A) ([.ref h0, .int w, .ref ha, .int (nI o)] : List Value).toArray s 0 0 A) (F0 m 3 ls []) := by
    intro k
    induction k with
    | zero =>
      intro i hi wv ew H locs hP hD hS ls hl
      have hi : i = 4 := by omega
      subst hi
      refine lv_iload hx hb dX2_wordToBytes_3 (lv_at hl 4 rfl) ?_
      refine lv_iconst (v := 4) hx hb dX2_wordToBytes_5 (by decide) ?_
      refine lv_icmp_ge (tgt := 28) hx hb dX2_wordToBytes_6 (by decide) (fun _ => ?_) (fun c_ => absurd (by decide +kernel) c_)
      have hP9 := hP.sub (ws' := [(ha, .inl (dB, n, .inl (rc_pb w o 4 f)))]) [0] rfl
      have hD9 := hD.sub (ws' := [(ha, .inl (dB, n, .inl (rc_pb w o 4 f)))]) [0] (by decide) rfl
      have hK9 := hK.sub (tys' := [(dB, .byte)]) [0] rfl
      exact W.vret hx hb hr (fun t ht hW => ⟨⟨(), rfl, trivial, by rw [ht]; exact hP9, va_K.moved hW.alike hK9, hD9⟩, hS.F ht⟩) hS.2.2 dX2_wordToBytes_28
    | succ k ih =>
      intro i hi wv ew H locs hP hD hS ls hl
      refine lv_iload hx hb dX2_wordToBytes_3 (lv_at hl 4 rfl) ?_
      refine lv_iconst (v := 4) hx hb dX2_wordToBytes_5 (by decide) ?_
      refine lv_icmp_ge (tgt := 28) hx hb dX2_wordToBytes_6 (by decide) (fun c_ => absurd c_ (nI_ge (a := i) (b := 4) (by omega) (by omega))) (fun _ => ?_)
      refine lv_aload_n hx hb dX2_wordToBytes_9 rfl (lv_at hl 2 rfl) ?_
      refine lv_iload hx hb dX2_wordToBytes_10 (lv_at hl 4 rfl) ?_
      refine lv_iload_n hx hb dX2_wordToBytes_12 rfl (lv_at hl 3 rfl) ?_
      refine lv_iadd hx hb dX2_wordToBytes_13 ?_
      refine lv_iload_n hx hb dX2_wordToBytes_14 rfl (lv_at hl 1 rfl) ?_
      refine lv_i2b (v := (rc_lo w i)) hx hb dX2_wordToBytes_15 (by rw [ew (by omega)]; rfl) ?_
      refine zz_bast hx hb hK hP hD hS 0 0 rfl rfl (i + o) (rc_pb w o (i + 1) f) (nI_add i o) (by omega) (by omega) (rc_nar w i) (fun j _ => rc_pb_s w o i f j) dX2_wordToBytes_16 (fun H locs hP hD hS => ?_)
      have hP : va_P (dC, dI) vwCl [(ha, .inl (dB, n, .inl (rc_pb w o (i + 1) f)))] H := hP
      have hD : va_D A [(ha, .inl (dB, n, .inl (rc_pb w o (i + 1) f)))] := hD
      refine lv_iload_n hx hb dX2_wordToBytes_17 rfl (lv_at hl 1 rfl) ?_
      refine lv_bipush (v := 8) hx hb dX2_wordToBytes_18 (by decide) ?_
      refine lv_iushr (v := ((wv).toUInt32 >>> ((8 : Int32).toUInt32 &&& Int32.toUInt32 31)).toInt32) hx hb dX2_wordToBytes_20 rfl ?_
      refine lv_istore_n (lv' := [(1, .int (((wv).toUInt32 >>> ((8 : Int32).toUInt32 &&& Int32.toUInt32 31)).toInt32)), (0, .ref h0), (2, .ref ha), (3, .int (nI o)), (4, .int (nI i))]) hx hb dX2_wordToBytes_21 rfl hl (by decide) rfl (fun ls hl => ?_)
      refine lv_iinc (v := (nI (i + 1))) (lv' := [(4, .int (nI (i + 1))), (1, .int (((wv).toUInt32 >>> ((8 : Int32).toUInt32 &&& Int32.toUInt32 31)).toInt32)), (0, .ref h0), (2, .ref ha), (3, .int (nI o))]) hx hb dX2_wordToBytes_22 hl (k := 4) rfl (zi_p1 i) (by decide) rfl (fun ls hl => ?_)
      refine lv_goto (tgt := 3) hx hb dX2_wordToBytes_25 (by decide) ?_
      exact ih (i + 1) (by omega) _ (fun h => by rw [ew (by omega)]; exact rc_w1 w (by omega)) H locs hP hD hS ls (lv_sub hl [2, 1, 3, 4, 0] rfl)
  refine lv_iconst (v := 0) hx hb dX2_wordToBytes_0 (by decide) ?_
  refine lv_istore (lv' := [(4, .int 0), (0, .ref h0), (1, .int w), (2, .ref ha), (3, .int (nI o))]) hx hb dX2_wordToBytes_1 hl (by decide) rfl (fun ls hl => ?_)
  have hP := zz_ext hP 0 rfl (fun j _ => rc_pb_0 w o f j)
  exact loop 4 0 rfl w (fun _ => (rc_w0 w).symm) s.heap [] hP (hD.set (p := 0) rfl) hS ls (lv_sub hl [1, 2, 3, 4, 0] rfl)
set_option maxHeartbeats 4000000 in
set_option maxRecDepth 100000 in
/-- RcSixDesk.word(to, at, w) -/
theorem met_X0_word (l : Launch) (dC : Nat → ClassId) (dI : Nat → Nat → Nat) (sz : Nat) (ha n : Nat) (dB : ClassId) (f : Nat → Int32) (o : Nat) (w : Int32) (ho : o + 3 < n) (hn : n < 1000) : Met l yX0_word (ws_ yX0_word cX0_word 3 none) ({ frames := 0, cells := 0, slots := 0, locals := 0 }) (va_Pc [.ref ha, .int (nI o), .int w] (zw_pre (dC, dI) [(dB, .byte)] [(ha, .inl (dB, n, .inl f))] sz)) (va_Qv (fun _ => True) (fun (_ : Unit) t => zw_post (dC, dI) [(dB, .byte)] [(ha, .inl (dB, n, .inl (rc_q w o f)))] (va_A [(ha, .inl (dB, n, .inl f))] sz) t) (va_A [(ha, .inl (dB, n, .inl f))] sz)) 0 0 (va_A [(ha, .inl (dB, n, .inl f))] sz) := by
  refine Met.ofW (cc := cX0_word) (maxL := 3) (ret := none) (by decide) rfl ?_
  intro p e s m args below meth c s₁ B hml hv
  obtain ⟨rfl, hsz, hP, hK, hD0⟩ := hv
  have hx := B.exec
  have hb := B.bytes
  have hr := B.returns
  have hts := atoms_spec (ws := (ws_ yX0_word cX0_word 3 none)) B.pre
  have hts : ∀ w ∈ lw_all, w.before _ s = true := fun w h => hts w (List.mem_cons_of_mem _ h)
  have hown : s.vm.findClass RX0 = some m.cls := findClass_of_methodNamed B.named
  have hlocks := B.notSynchronized
  subst hsz
  have hD := hD0.self (sz := s.heap.size)
  generalize hAe : va_A [(ha, .inl (dB, n, .inl f))] s.heap.size = A at hD ⊢
  have hA : ∀ q : Nat, s.heap.size ≤ q → A q := fun q h => by rw [← hAe]; exact Or.inr h
  have hS : va_S A s.heap s.heap [] := va_S.rf
  have hP : va_P (dC, dI) vwCl [(ha, .inl (dB, n, .inl f))] s.heap := hP
  have hl := lv_entry ([.ref ha, .int (nI o), .int w]) (n := 3) (Nat.le_of_ble_eq_true rfl)
  rw [lg_entry_eq]
  generalize (lg_sl ([.ref ha, .int (nI o), .int w]) ++ List.replicate (3 - (lg_sl ([.ref ha, .int (nI o), .int w])).length) Slot.unset).toArray = ls at hl ⊢
  have hl : lv_has ls 3 [(0, .ref ha), (1, .int (nI o)), (2, .int w)] := hl
  refine lv_aload_n hx hb dX0_word_0 rfl (lv_at hl 0 rfl) ?_
  refine lv_iload_n hx hb dX0_word_1 rfl (lv_at hl 1 rfl) ?_
  refine lv_iload_n hx hb dX0_word_2 rfl (lv_at hl 2 rfl) ?_
  refine lv_bipush (v := 24) hx hb dX0_word_3 (by decide) ?_
  refine lv_ishr hx hb dX0_word_5 ?_
  refine lv_i2b (v := (rc_lo w 3)) hx hb dX0_word_6 (rc_be24 w) ?_
  refine zz_bast hx hb hK hP hD hS 0 0 rfl rfl o (upd f o (rc_lo w 3)) rfl (by omega) (by omega) (rc_nar w 3) (fun _ _ => rfl) dX0_word_7 (fun H locs hP hD hS => ?_)
  have hP : va_P (dC, dI) vwCl [(ha, .inl (dB, n, .inl (upd f o (rc_lo w 3))))] H := hP
  have hD : va_D A [(ha, .inl (dB, n, .inl (upd f o (rc_lo w 3))))] := hD
  refine lv_aload_n hx hb dX0_word_8 rfl (lv_at hl 0 rfl) ?_
  refine lv_iload_n hx hb dX0_word_9 rfl (lv_at hl 1 rfl) ?_
  refine lv_iconst (v := 1) hx hb dX0_word_10 (by decide) ?_
  refine lv_iadd hx hb dX0_word_11 ?_
  refine lv_iload_n hx hb dX0_word_12 rfl (lv_at hl 2 rfl) ?_
  refine lv_bipush (v := 16) hx hb dX0_word_13 (by decide) ?_
  refine lv_ishr hx hb dX0_word_15 ?_
  refine lv_i2b (v := (rc_lo w 2)) hx hb dX0_word_16 (rc_be16 w) ?_
  refine zz_bast hx hb hK hP hD hS 0 0 rfl rfl (o + 1) (upd (upd f o (rc_lo w 3)) (o + 1) (rc_lo w 2)) (nI_1 o) (by omega) (by omega) (rc_nar w 2) (fun _ _ => rfl) dX0_word_17 (fun H locs hP hD hS => ?_)
  have hP : va_P (dC, dI) vwCl [(ha, .inl (dB, n, .inl (upd (upd f o (rc_lo w 3)) (o + 1) (rc_lo w 2))))] H := hP
  have hD : va_D A [(ha, .inl (dB, n, .inl (upd (upd f o (rc_lo w 3)) (o + 1) (rc_lo w 2))))] := hD
  refine lv_aload_n hx hb dX0_word_18 rfl (lv_at hl 0 rfl) ?_
  refine lv_iload_n hx hb dX0_word_19 rfl (lv_at hl 1 rfl) ?_
  refine lv_iconst (v := 2) hx hb dX0_word_20 (by decide) ?_
  refine lv_iadd hx hb dX0_word_21 ?_
  refine lv_iload_n hx hb dX0_word_22 rfl (lv_at hl 2 rfl) ?_
  refine lv_bipush (v := 8) hx hb dX0_word_23 (by decide) ?_
  refine lv_ishr hx hb dX0_word_25 ?_
  refine lv_i2b (v := (rc_lo w 1)) hx hb dX0_word_26 (rc_be8 w) ?_
  refine zz_bast hx hb hK hP hD hS 0 0 rfl rfl (o + 2) (upd (upd (upd f o (rc_lo w 3)) (o + 1) (rc_lo w 2)) (o + 2) (rc_lo w 1)) (nI_add o 2) (by omega) (by omega) (rc_nar w 1) (fun _ _ => rfl) dX0_word_27 (fun H locs hP hD hS => ?_)
  have hP : va_P (dC, dI) vwCl [(ha, .inl (dB, n, .inl (upd (upd (upd f o (rc_lo w 3)) (o + 1) (rc_lo w 2)) (o + 2) (rc_lo w 1))))] H := hP
  have hD : va_D A [(ha, .inl (dB, n, .inl (upd (upd (upd f o (rc_lo w 3)) (o + 1) (rc_lo w 2)) (o + 2) (rc_lo w 1))))] := hD
  refine lv_aload_n hx hb dX0_word_28 rfl (lv_at hl 0 rfl) ?_
  refine lv_iload_n hx hb dX0_word_29 rfl (lv_at hl 1 rfl) ?_
  refine lv_iconst (v := 3) hx hb dX0_word_30 (by decide) ?_
  refine lv_iadd hx hb dX0_word_31 ?_
  refine lv_iload_n hx hb dX0_word_32 rfl (lv_at hl 2 rfl) ?_
  refine lv_i2b (v := (rc_lo w 0)) hx hb dX0_word_33 (rc_be0 w) ?_
  refine zz_bast hx hb hK hP hD hS 0 0 rfl rfl (o + 3) (rc_q w o f) (nI_add o 3) (by omega) (by omega) (rc_nar w 0) (fun j _ => rc_q_ok w o f j) dX0_word_34 (fun H locs hP hD hS => ?_)
  have hP : va_P (dC, dI) vwCl [(ha, .inl (dB, n, .inl (rc_q w o f)))] H := hP
  have hD : va_D A [(ha, .inl (dB, n, .inl (rc_q w o f)))] := hD
  have hP9 := hP.sub (ws' := [(ha, .inl (dB, n, .inl (rc_q w o f)))]) [0] rfl
  have hD9 := hD.sub (ws' := [(ha, .inl (dB, n, .inl (rc_q w o f)))]) [0] (by decide) rfl
  have hK9 := hK.sub (tys' := [(dB, .byte)]) [0] rfl
  exact W.vret hx hb hr (fun t ht hW => ⟨⟨(), rfl, trivial, by rw [ht]; exact hP9, va_K.moved hW.alike hK9, hD9⟩, hS.F ht⟩) hS.2.2 dX0_word_35
end
section
/-! PURE, more: bytes that are bytes -/
/-- every place holds a byte -/
def rc_By (f : Nat → Int32) : Prop := ∀ j, vp_nar .byte (f j) = f j
theorem rc_By_fit {f : Nat → Int32} (h : rc_By f) (j : Nat) : fits .byte (.int (f j)) = true := by
  rw [← h j]
  exact pk_fb (f j)
theorem rc_By_0 : rc_By (fun _ => 0) := fun _ => show vp_nar .byte 0 = 0 from by decide +kernel
theorem rc_By_o (z : rc_T) : rc_By (rc_o z) := fun _ => rc_nar _ _
theorem rc_By_b (a b c d : Int32) : rc_By (rc_b a b c d) := fun _ => rc_nar _ _
theorem rc_By_k (half a b c d : Int32) {f : Nat → Int32} (h : rc_By f) : rc_By (rc_k half a b c d f) := by
  intro j
  unfold rc_k
  split
  · exact rc_By_b a b c d _
  · exact h j
theorem rc_By_run (z : Int32) (S f : Nat → Int32) : rc_By (rc_run z S f) := by
  unfold rc_run
  split
  · exact rc_By_o _
  · exact rc_By_o _
theorem rc_h4 (half : Int32) : nI (rc_h half) <<< ((4 : Int32) &&& 31) = nI (16 * rc_h half) := by
  have h := (rc_h1 half).1
  rw [pk_shlN _ 4 (by decide +kernel) (by omega)]
  exact congrArg nI (by omega)
end
section
/-! SIMPLE METHODS of the desk and of the model (printed by wip/gen/g11.py) -/
set_option maxHeartbeats 4000000 in
set_option maxRecDepth 100000 in
/-- RcSixDesk.key -/
theorem met_X0_key (l : Launch) (dC : Nat → ClassId) (dI : Nat → Nat → Nat) (sz : Nat) (x0 xk xb xo : Nat) (dK : ClassId) (fk : Nat → Int32) (half a1 a2 a3 a4 : Int32) : Met l yX0_key (ws_ yX0_key cX0_key 7 none) ({ frames := 1, cells := 0, slots := 0, locals := 22 }) (va_Pc [.ref x0, .int half, .int a1, .int a2, .int a3, .int a4] (zw_pre (dC, dI) [(dK, .byte)] [(x0, .inr (0, [.ref xk, .ref xb, .ref xo])), (xk, .inl (dK, 32, .inl fk))] sz)) (va_Qv (fun _ => True) (fun (_ : Unit) t => zw_post (dC, dI) [(dK, .byte)] [(x0, .inr (0, [.ref xk, .ref xb, .ref xo])), (xk, .inl (dK, 32, .inl (rc_k half a1 a2 a3 a4 fk)))] (va_A [(x0, .inr (0, [.ref xk, .ref xb, .ref xo])), (xk, .inl (dK, 32, .inl fk))] sz) t) (va_A [(x0, .inr (0, [.ref xk, .ref xb, .ref xo])), (xk, .inl (dK, 32, .inl fk))] sz)) 0 0 (va_A [(x0, .inr (0, [.ref xk, .ref xb, .ref xo])), (xk, .inl (dK, 32, .inl fk))] sz) := by
  refine Met.ofW (cc := cX0_key) (maxL := 7) (ret := none) (by decide) rfl ?_
  intro p e s m args below meth c s₁ B hml hv
  obtain ⟨rfl, hsz, hP, hK, hD0⟩ := hv
  have hx := B.exec
  have hb := B.bytes
  have hr := B.returns
  have hts := atoms_spec (ws := (ws_ yX0_key cX0_key 7 none)) B.pre
  have hts : ∀ w ∈ lw_all, w.before _ s = true := fun w h => hts w (List.mem_cons_of_mem _ h)
  have hown : s.vm.findClass RX0 = some m.cls := findClass_of_methodNamed B.named
  have hlocks := B.notSynchronized
  subst hsz
  have hD := hD0.self (sz := s.heap.size)
  generalize hAe : va_A [(x0, .inr (0, [.ref xk, .ref xb, .ref xo])), (xk, .inl (dK, 32, .inl fk))] s.heap.size = A at hD ⊢
  have hA : ∀ q : Nat, s.heap.size ≤ q → A q := fun q h => by rw [← hAe]; exact Or.inr h
  have hS : va_S A s.heap s.heap [] := va_S.rf
  have hP : va_P (dC, dI) vwCl [(x0, .inr (0, [.ref xk, .ref xb, .ref xo])), (xk, .inl (dK, 32, .inl fk))] s.heap := hP
  have hl := lv_entry ([.ref x0, .int half, .int a1, .int a2, .int a3, .int a4]) (n := 7) (Nat.le_of_ble_eq_true rfl)
  rw [lg_entry_eq]
  generalize (lg_sl ([.ref x0, .int half, .int a1, .int a2, .int a3, .int a4]) ++ List.replicate (7 - (lg_sl ([.ref x0, .int half, .int a1, .int a2, .int a3, .int a4])).length) Slot.unset).toArray = ls at hl ⊢
  have hl : lv_has ls 7 [(0, .ref x0), (1, .int half), (2, .int a1), (3, .int a2), (4, .int a3), (5, .int a4)] := hl
  have hh := (rc_h1 half).1
  refine lv_iload_n hx hb dX0_key_0 rfl (lv_at hl 1 rfl) ?_
  refine lv_iconst (v := 1) hx hb dX0_key_1 (by decide) ?_
  refine lv_iand hx hb dX0_key_2 ?_
  refine zt (nI (rc_h half)) ((rc_h1 half).2) ?_
  refine lv_iconst (v := 4) hx hb dX0_key_3 (by decide) ?_
  refine lv_ishl hx hb dX0_key_4 ?_
  refine zt (nI (16 * rc_h half)) (rc_h4 half) ?_
  refine lv_istore (lv' := [(6, .int (nI (16 * rc_h half))), (0, .ref x0), (1, .int half), (2, .int a1), (3, .int a2), (4, .int a3), (5, .int a4)]) hx hb dX0_key_5 hl (by decide) rfl (fun ls hl => ?_)
  refine lv_aload_n hx hb dX0_key_7 rfl (lv_at hl 1 rfl) ?_
  refine va_get (D := (dC, dI)) (ci := 0) (v := .ref xk) (C := RX0) (T := TX0) (N := 3) hx hb hts in_X0 hown hK hP 0 rfl rfl 0 (by decide) (hts _ q34) (fun _ h9 => h9) rfl dX0_key_8 ?_
  refine lv_iload hx hb dX0_key_11 (lv_at hl 0 rfl) ?_
  refine lv_iload_n hx hb dX0_key_13 rfl (lv_at hl 3 rfl) ?_
  refine zc_v (wc := [(xk, .inl (dK, 32, .inl fk))]) (wr := [(x0, .inr (0, [.ref xk, .ref xb, .ref xo]))]) hP hD hS hA [1] [0] rfl rfl rfl (by decide) (va_runS (As := [.ref xk, .int (nI (16 * rc_h half)), .int a1]) (rest := []) ⟨hx, hb, hml, hown, hts⟩ (met_X0_word l dC dI _ xk 32 dK fk (16 * rc_h half) a1 (by omega) (by omega)) (va_cwS 3 hts (lw_S q49 q50 q13 q51) rfl rfl rfl (by decide +kernel) ⟨Nat.le_of_ble_eq_true rfl, Nat.le_of_ble_eq_true rfl⟩) ⟨zw_blind, zw_mk hP hD hK [1] [0] rfl rfl rfl rfl⟩ rfl rfl hl.1 rfl (lv_room (Nat.le_of_ble_eq_true rfl)) dX0_key_14 ⟨Nat.le_of_ble_eq_true rfl, Nat.le_of_ble_eq_true rfl⟩) (fun _ H locs _ hP hD hK1 hS => ?_)
  have hP : va_P (dC, dI) vwCl [(x0, .inr (0, [.ref xk, .ref xb, .ref xo])), (xk, .inl (dK, 32, .inl (rc_q a1 (16 * rc_h half) fk)))] H := hP
  have hD : va_D A [(x0, .inr (0, [.ref xk, .ref xb, .ref xo])), (xk, .inl (dK, 32, .inl (rc_q a1 (16 * rc_h half) fk)))] := hD
  refine lv_aload_n hx hb dX0_key_17 rfl (lv_at hl 1 rfl) ?_
  refine va_get (D := (dC, dI)) (ci := 0) (v := .ref xk) (C := RX0) (T := TX0) (N := 3) hx hb hts in_X0 hown hK hP 0 rfl rfl 0 (by decide) (hts _ q34) (fun _ h9 => h9) rfl dX0_key_18 ?_
  refine lv_iload hx hb dX0_key_21 (lv_at hl 0 rfl) ?_
  refine lv_iconst (v := 4) hx hb dX0_key_23 (by decide) ?_
  refine lv_iadd hx hb dX0_key_24 ?_
  refine zt (nI (16 * rc_h half + 4)) (nI_add _ 4) ?_
  refine lv_iload_n hx hb dX0_key_25 rfl (lv_at hl 4 rfl) ?_
  refine zc_v (wc := [(xk, .inl (dK, 32, .inl (rc_q a1 (16 * rc_h half) fk)))]) (wr := [(x0, .inr (0, [.ref xk, .ref xb, .ref xo]))]) hP hD hS hA [1] [0] rfl rfl rfl (by decide) (va_runS (As := [.ref xk, .int (nI (16 * rc_h half + 4)), .int a2]) (rest := []) ⟨hx, hb, hml, hown, hts⟩ (met_X0_word l dC dI _ xk 32 dK (rc_q a1 (16 * rc_h half) fk) (16 * rc_h half + 4) a2 (by omega) (by omega)) (va_cwS 3 hts (lw_S q49 q50 q13 q51) rfl rfl rfl (by decide +kernel) ⟨Nat.le_of_ble_eq_true rfl, Nat.le_of_ble_eq_true rfl⟩) ⟨zw_blind, zw_mk hP hD hK [1] [0] rfl rfl rfl rfl⟩ rfl rfl hl.1 rfl (lv_room (Nat.le_of_ble_eq_true rfl)) dX0_key_26 ⟨Nat.le_of_ble_eq_true rfl, Nat.le_of_ble_eq_true rfl⟩) (fun _ H locs _ hP hD hK1 hS => ?_)
  have hP : va_P (dC, dI) vwCl [(x0, .inr (0, [.ref xk, .ref xb, .ref xo])), (xk, .inl (dK, 32, .inl (rc_q a2 (16 * rc_h half + 4) (rc_q a1 (16 * rc_h half) fk))))] H := hP
  have hD : va_D A [(x0, .inr (0, [.ref xk, .ref xb, .ref xo])), (xk, .inl (dK, 32, .inl (rc_q a2 (16 * rc_h half + 4) (rc_q a1 (16 * rc_h half) fk))))] := hD
  refine lv_aload_n hx hb dX0_key_29 rfl (lv_at hl 1 rfl) ?_
  refine va_get (D := (dC, dI)) (ci := 0) (v := .ref xk) (C := RX0) (T := TX0) (N := 3) hx hb hts in_X0 hown hK hP 0 rfl rfl 0 (by decide) (hts _ q34) (fun _ h9 => h9) rfl dX0_key_30 ?_
  refine lv_iload hx hb dX0_key_33 (lv_at hl 0 rfl) ?_
  refine lv_bipush (v := 8) hx hb dX0_key_35 (by decide) ?_
  refine lv_iadd hx hb dX0_key_37 ?_
  refine zt (nI (16 * rc_h half + 8)) (nI_add _ 8) ?_
  refine lv_iload hx hb dX0_key_38 (lv_at hl 5 rfl) ?_
  refine zc_v (wc := [(xk, .inl (dK, 32, .inl (rc_q a2 (16 * rc_h half + 4) (rc_q a1 (16 * rc_h half) fk))))]) (wr := [(x0, .inr (0, [.ref xk, .ref xb, .ref xo]))]) hP hD hS hA [1] [0] rfl rfl rfl (by decide) (va_runS (As := [.ref xk, .int (nI (16 * rc_h half + 8)), .int a3]) (rest := []) ⟨hx, hb, hml, hown, hts⟩ (met_X0_word l dC dI _ xk 32 dK (rc_q a2 (16 * rc_h half + 4) (rc_q a1 (16 * rc_h half) fk)) (16 * rc_h half + 8) a3 (by omega) (by omega)) (va_cwS 3 hts (lw_S q49 q50 q13 q51) rfl rfl rfl (by decide +kernel) ⟨Nat.le_of_ble_eq_true rfl, Nat.le_of_ble_eq_true rfl⟩) ⟨zw_blind, zw_mk hP hD hK [1] [0] rfl rfl rfl rfl⟩ rfl rfl hl.1 rfl (lv_room (Nat.le_of_ble_eq_true rfl)) dX0_key_40 ⟨Nat.le_of_ble_eq_true rfl, Nat.le_of_ble_eq_true rfl⟩) (fun _ H locs _ hP hD hK1 hS => ?_)
  have hP : va_P (dC, dI) vwCl [(x0, .inr (0, [.ref xk, .ref xb, .ref xo])), (xk, .inl (dK, 32, .inl (rc_q a3 (16 * rc_h half + 8) (rc_q a2 (16 * rc_h half + 4) (rc_q a1 (16 * rc_h half) fk)))))] H := hP
  have hD : va_D A [(x0, .inr (0, [.ref xk, .ref xb, .ref xo])), (xk, .inl (dK, 32, .inl (rc_q a3 (16 * rc_h half + 8) (rc_q a2 (16 * rc_h half + 4) (rc_q a1 (16 * rc_h half) fk)))))] := hD
  refine lv_aload_n hx hb dX0_key_43 rfl (lv_at hl 1 rfl) ?_
  refine va_get (D := (dC, dI)) (ci := 0) (v := .ref xk) (C := RX0) (T := TX0) (N := 3) hx hb hts in_X0 hown hK hP 0 rfl rfl 0 (by decide) (hts _ q34) (fun _ h9 => h9) rfl dX0_key_44 ?_
  refine lv_iload hx hb dX0_key_47 (lv_at hl 0 rfl) ?_
  refine lv_bipush (v := 12) hx hb dX0_key_49 (by decide) ?_
  refine lv_iadd hx hb dX0_key_51 ?_
  refine zt (nI (16 * rc_h half + 12)) (nI_add _ 12) ?_
  refine lv_iload hx hb dX0_key_52 (lv_at hl 6 rfl) ?_
  refine zc_v (wc := [(xk, .inl (dK, 32, .inl (rc_q a3 (16 * rc_h half + 8) (rc_q a2 (16 * rc_h half + 4) (rc_q a1 (16 * rc_h half) fk)))))]) (wr := [(x0, .inr (0, [.ref xk, .ref xb, .ref xo]))]) hP hD hS hA [1] [0] rfl rfl rfl (by decide) (va_runS (As := [.ref xk, .int (nI (16 * rc_h half + 12)), .int a4]) (rest := []) ⟨hx, hb, hml, hown, hts⟩ (met_X0_word l dC dI _ xk 32 dK (rc_q a3 (16 * rc_h half + 8) (rc_q a2 (16 * rc_h half + 4) (rc_q a1 (16 * rc_h half) fk))) (16 * rc_h half + 12) a4 (by omega) (by omega)) (va_cwS 3 hts (lw_S q49 q50 q13 q51) rfl rfl rfl (by decide +kernel) ⟨Nat.le_of_ble_eq_true rfl, Nat.le_of_ble_eq_true rfl⟩) ⟨zw_blind, zw_mk hP hD hK [1] [0] rfl rfl rfl rfl⟩ rfl rfl hl.1 rfl (lv_room (Nat.le_of_ble_eq_true rfl)) dX0_key_54 ⟨Nat.le_of_ble_eq_true rfl, Nat.le_of_ble_eq_true rfl⟩) (fun _ H locs _ hP hD hK1 hS => ?_)
  have hP : va_P (dC, dI) vwCl [(x0, .inr (0, [.ref xk, .ref xb, .ref xo])), (xk, .inl (dK, 32, .inl (rc_q a4 (16 * rc_h half + 12) (rc_q a3 (16 * rc_h half + 8) (rc_q a2 (16 * rc_h half + 4) (rc_q a1 (16 * rc_h half) fk))))))] H := hP
  have hD : va_D A [(x0, .inr (0, [.ref xk, .ref xb, .ref xo])), (xk, .inl (dK, 32, .inl (rc_q a4 (16 * rc_h half + 12) (rc_q a3 (16 * rc_h half + 8) (rc_q a2 (16 * rc_h half + 4) (rc_q a1 (16 * rc_h half) fk))))))] := hD
  have hP := zz_ext hP 1 rfl (g := rc_k half a1 a2 a3 a4 fk) (fun j _ => rc_q4 a1 a2 a3 a4 _ fk j)
  have hD : va_D A [(x0, .inr (0, [.ref xk, .ref xb, .ref xo])), (xk, .inl (dK, 32, .inl (rc_k half a1 a2 a3 a4 fk)))] := hD.set (p := 1) rfl
  have hP9 := hP.sub (ws' := [(x0, .inr (0, [.ref xk, .ref xb, .ref xo])), (xk, .inl (dK, 32, .inl (rc_k half a1 a2 a3 a4 fk)))]) [0, 1] rfl
  have hD9 := hD.sub (ws' := [(x0, .inr (0, [.ref xk, .ref xb, .ref xo])), (xk, .inl (dK, 32, .inl (rc_k half a1 a2 a3 a4 fk)))]) [0, 1] (by decide) rfl
  have hK9 := hK.sub (tys' := [(dK, .byte)]) [0] rfl
  exact W.vret hx hb hr (fun t ht hW => ⟨⟨(), rfl, trivial, by rw [ht]; exact hP9, va_K.moved hW.alike hK9, hD9⟩, hS.F ht⟩) hS.2.2 dX0_key_57
set_option maxHeartbeats 4000000 in
set_option maxRecDepth 100000 in
/-- RcSixDesk.block -/
theorem met_X0_block (l : Launch) (dC : Nat → ClassId) (dI : Nat → Nat → Nat) (sz : Nat) (x0 xk xb xo : Nat) (dB : ClassId) (fb : Nat → Int32) (a1 a2 a3 a4 : Int32) : Met l yX0_block (ws_ yX0_block cX0_block 5 none) ({ frames := 1, cells := 0, slots := 0, locals := 22 }) (va_Pc [.ref x0, .int a1, .int a2, .int a3, .int a4] (zw_pre (dC, dI) [(dB, .byte)] [(x0, .inr (0, [.ref xk, .ref xb, .ref xo])), (xb, .inl (dB, 16, .inl fb))] sz)) (va_Qv (fun _ => True) (fun (_ : Unit) t => zw_post (dC, dI) [(dB, .byte)] [(x0, .inr (0, [.ref xk, .ref xb, .ref xo])), (xb, .inl (dB, 16, .inl (rc_b a1 a2 a3 a4)))] (va_A [(x0, .inr (0, [.ref xk, .ref xb, .ref xo])), (xb, .inl (dB, 16, .inl fb))] sz) t) (va_A [(x0, .inr (0, [.ref xk, .ref xb, .ref xo])), (xb, .inl (dB, 16, .inl fb))] sz)) 0 0 (va_A [(x0, .inr (0, [.ref xk, .ref xb, .ref xo])), (xb, .inl (dB, 16, .inl fb))] sz) := by
  refine Met.ofW (cc := cX0_block) (maxL := 5) (ret := none) (by decide) rfl ?_
  intro p e s m args below meth c s₁ B hml hv
  obtain ⟨rfl, hsz, hP, hK, hD0⟩ := hv
  have hx := B.exec
  have hb := B.bytes
  have hr := B.returns
  have hts := atoms_spec (ws := (ws_ yX0_block cX0_block 5 none)) B.pre
  have hts : ∀ w ∈ lw_all, w.before _ s = true := fun w h => hts w (List.mem_cons_of_mem _ h)
  have hown : s.vm.findClass RX0 = some m.cls := findClass_of_methodNamed B.named
  have hlocks := B.notSynchronized
  subst hsz
  have hD := hD0.self (sz := s.heap.size)
  generalize hAe : va_A [(x0, .inr (0, [.ref xk, .ref xb, .ref xo])), (xb, .inl (dB, 16, .inl fb))] s.heap.size = A at hD ⊢
  have hA : ∀ q : Nat, s.heap.size ≤ q → A q := fun q h => by rw [← hAe]; exact Or.inr h
  have hS : va_S A s.heap s.heap [] := va_S.rf
  have hP : va_P (dC, dI) vwCl [(x0, .inr (0, [.ref xk, .ref xb, .ref xo])), (xb, .inl (dB, 16, .inl fb))] s.heap := hP
  have hl := lv_entry ([.ref x0, .int a1, .int a2, .int a3, .int a4]) (n := 5) (Nat.le_of_ble_eq_true rfl)
  rw [lg_entry_eq]
  generalize (lg_sl ([.ref x0, .int a1, .int a2, .int a3, .int a4]) ++ List.replicate (5 - (lg_sl ([.ref x0, .int a1, .int a2, .int a3, .int a4])).length) Slot.unset).toArray = ls at hl ⊢
  have hl : lv_has ls 5 [(0, .ref x0), (1, .int a1), (2, .int a2), (3, .int a3), (4, .int a4)] := hl
  refine lv_aload_n hx hb dX0_block_0 rfl (lv_at hl 0 rfl) ?_
  refine va_get (D := (dC, dI)) (ci := 0) (v := .ref xb) (C := RX0) (T := TX0) (N := 3) hx hb hts in_X0 hown hK hP 0 rfl rfl 1 (by decide) (hts _ q35) (fun _ h9 => h9) rfl dX0_block_1 ?_
  refine lv_iconst (v := (nI 0)) hx hb dX0_block_4 (by decide) ?_
  refine lv_iload_n hx hb dX0_block_5 rfl (lv_at hl 1 rfl) ?_
  refine zc_v (wc := [(xb, .inl (dB, 16, .inl fb))]) (wr := [(x0, .inr (0, [.ref xk, .ref xb, .ref xo]))]) hP hD hS hA [1] [0] rfl rfl rfl (by decide) (va_runS (As := [.ref xb, .int (nI 0), .int a1]) (rest := []) ⟨hx, hb, hml, hown, hts⟩ (met_X0_word l dC dI _ xb 16 dB fb 0 a1 (by omega) (by omega)) (va_cwS 3 hts (lw_S q49 q50 q13 q51) rfl rfl rfl (by decide +kernel) ⟨Nat.le_of_ble_eq_true rfl, Nat.le_of_ble_eq_true rfl⟩) ⟨zw_blind, zw_mk hP hD hK [1] [0] rfl rfl rfl rfl⟩ rfl rfl hl.1 rfl (lv_room (Nat.le_of_ble_eq_true rfl)) dX0_block_6 ⟨Nat.le_of_ble_eq_true rfl, Nat.le_of_ble_eq_true rfl⟩) (fun _ H locs _ hP hD hK1 hS => ?_)
  have hP : va_P (dC, dI) vwCl [(x0, .inr (0, [.ref xk, .ref xb, .ref xo])), (xb, .inl (dB, 16, .inl (rc_q a1 0 fb)))] H := hP
  have hD : va_D A [(x0, .inr (0, [.ref xk, .ref xb, .ref xo])), (xb, .inl (dB, 16, .inl (rc_q a1 0 fb)))] := hD
  refine lv_aload_n hx hb dX0_block_9 rfl (lv_at hl 0 rfl) ?_
  refine va_get (D := (dC, dI)) (ci := 0) (v := .ref xb) (C := RX0) (T := TX0) (N := 3) hx hb hts in_X0 hown hK hP 0 rfl rfl 1 (by decide) (hts _ q35) (fun _ h9 => h9) rfl dX0_block_10 ?_
  refine lv_iconst (v := (nI 4)) hx hb dX0_block_13 (by decide) ?_
  refine lv_iload_n hx hb dX0_block_14 rfl (lv_at hl 2 rfl) ?_
  refine zc_v (wc := [(xb, .inl (dB, 16, .inl (rc_q a1 0 fb)))]) (wr := [(x0, .inr (0, [.ref xk, .ref xb, .ref xo]))]) hP hD hS hA [1] [0] rfl rfl rfl (by decide) (va_runS (As := [.ref xb, .int (nI 4), .int a2]) (rest := []) ⟨hx, hb, hml, hown, hts⟩ (met_X0_word l dC dI _ xb 16 dB (rc_q a1 0 fb) 4 a2 (by omega) (by omega)) (va_cwS 3 hts (lw_S q49 q50 q13 q51) rfl rfl rfl (by decide +kernel) ⟨Nat.le_of_ble_eq_true rfl, Nat.le_of_ble_eq_true rfl⟩) ⟨zw_blind, zw_mk hP hD hK [1] [0] rfl rfl rfl rfl⟩ rfl rfl hl.1 rfl (lv_room (Nat.le_of_ble_eq_true rfl)) dX0_block_15 ⟨Nat.le_of_ble_eq_true rfl, Nat.le_of_ble_eq_true rfl⟩) (fun _ H locs _ hP hD hK1 hS => ?_)
  have hP : va_P (dC, dI) vwCl [(x0, .inr (0, [.ref xk, .ref xb, .ref xo])), (xb, .inl (dB, 16, .inl (rc_q a2 4 (rc_q a1 0 fb))))] H := hP
  have hD : va_D A [(x0, .inr (0, [.ref xk, .ref xb, .ref xo])), (xb, .inl (dB, 16, .inl (rc_q a2 4 (rc_q a1 0 fb))))] := hD
  refine lv_aload_n hx hb dX0_block_18 rfl (lv_at hl 0 rfl) ?_
  refine va_get (D := (dC, dI)) (ci := 0) (v := .ref xb) (C := RX0) (T := TX0) (N := 3) hx hb hts in_X0 hown hK hP 0 rfl rfl 1 (by decide) (hts _ q35) (fun _ h9 => h9) rfl dX0_block_19 ?_
  refine lv_bipush (v := (nI 8)) hx hb dX0_block_22 (by decide) ?_
  refine lv_iload_n hx hb dX0_block_24 rfl (lv_at hl 3 rfl) ?_
  refine zc_v (wc := [(xb, .inl (dB, 16, .inl (rc_q a2 4 (rc_q a1 0 fb))))]) (wr := [(x0, .inr (0, [.ref xk, .ref xb, .ref xo]))]) hP hD hS hA [1] [0] rfl rfl rfl (by decide) (va_runS (As := [.ref xb, .int (nI 8), .int a3]) (rest := []) ⟨hx, hb, hml, hown, hts⟩ (met_X0_word l dC dI _ xb 16 dB (rc_q a2 4 (rc_q a1 0 fb)) 8 a3 (by omega) (by omega)) (va_cwS 3 hts (lw_S q49 q50 q13 q51) rfl rfl rfl (by decide +kernel) ⟨Nat.le_of_ble_eq_true rfl, Nat.le_of_ble_eq_true rfl⟩) ⟨zw_blind, zw_mk hP hD hK [1] [0] rfl rfl rfl rfl⟩ rfl rfl hl.1 rfl (lv_room (Nat.le_of_ble_eq_true rfl)) dX0_block_25 ⟨Nat.le_of_ble_eq_true rfl, Nat.le_of_ble_eq_true rfl⟩) (fun _ H locs _ hP hD hK1 hS => ?_)
  have hP : va_P (dC, dI) vwCl [(x0, .inr (0, [.ref xk, .ref xb, .ref xo])), (xb, .inl (dB, 16, .inl (rc_q a3 8 (rc_q a2 4 (rc_q a1 0 fb)))))] H := hP
  have hD : va_D A [(x0, .inr (0, [.ref xk, .ref xb, .ref xo])), (xb, .inl (dB, 16, .inl (rc_q a3 8 (rc_q a2 4 (rc_q a1 0 fb)))))] := hD
  refine lv_aload_n hx hb dX0_block_28 rfl (lv_at hl 0 rfl) ?_
  refine va_get (D := (dC, dI)) (ci := 0) (v := .ref xb) (C := RX0) (T := TX0) (N := 3) hx hb hts in_X0 hown hK hP 0 rfl rfl 1 (by decide) (hts _ q35) (fun _ h9 => h9) rfl dX0_block_29 ?_
  refine lv_bipush (v := (nI 12)) hx hb dX0_block_32 (by decide) ?_
  refine lv_iload hx hb dX0_block_34 (lv_at hl 4 rfl) ?_
  refine zc_v (wc := [(xb, .inl (dB, 16, .inl (rc_q a3 8 (rc_q a2 4 (rc_q a1 0 fb)))))]) (wr := [(x0, .inr (0, [.ref xk, .ref xb, .ref xo]))]) hP hD hS hA [1] [0] rfl rfl rfl (by decide) (va_runS (As := [.ref xb, .int (nI 12), .int a4]) (rest := []) ⟨hx, hb, hml, hown, hts⟩ (met_X0_word l dC dI _ xb 16 dB (rc_q a3 8 (rc_q a2 4 (rc_q a1 0 fb))) 12 a4 (by omega) (by omega)) (va_cwS 3 hts (lw_S q49 q50 q13 q51) rfl rfl rfl (by decide +kernel) ⟨Nat.le_of_ble_eq_true rfl, Nat.le_of_ble_eq_true rfl⟩) ⟨zw_blind, zw_mk hP hD hK [1] [0] rfl rfl rfl rfl⟩ rfl rfl hl.1 rfl (lv_room (Nat.le_of_ble_eq_true rfl)) dX0_block_36 ⟨Nat.le_of_ble_eq_true rfl, Nat.le_of_ble_eq_true rfl⟩) (fun _ H locs _ hP hD hK1 hS => ?_)
  have hP : va_P (dC, dI) vwCl [(x0, .inr (0, [.ref xk, .ref xb, .ref xo])), (xb, .inl (dB, 16, .inl (rc_q a4 12 (rc_q a3 8 (rc_q a2 4 (rc_q a1 0 fb))))))] H := hP
  have hD : va_D A [(x0, .inr (0, [.ref xk, .ref xb, .ref xo])), (xb, .inl (dB, 16, .inl (rc_q a4 12 (rc_q a3 8 (rc_q a2 4 (rc_q a1 0 fb))))))] := hD
  have hP := zz_ext hP 1 rfl (g := rc_b a1 a2 a3 a4) (fun j hj => (rc_q4 a1 a2 a3 a4 0 fb j).trans (if_pos ⟨by omega, by omega⟩))
  have hD : va_D A [(x0, .inr (0, [.ref xk, .ref xb, .ref xo])), (xb, .inl (dB, 16, .inl (rc_b a1 a2 a3 a4)))] := hD.set (p := 1) rfl
  have hP9 := hP.sub (ws' := [(x0, .inr (0, [.ref xk, .ref xb, .ref xo])), (xb, .inl (dB, 16, .inl (rc_b a1 a2 a3 a4)))]) [0, 1] rfl
  have hD9 := hD.sub (ws' := [(x0, .inr (0, [.ref xk, .ref xb, .ref xo])), (xb, .inl (dB, 16, .inl (rc_b a1 a2 a3 a4)))]) [0, 1] (by decide) rfl
  have hK9 := hK.sub (tys' := [(dB, .byte)]) [0] rfl
  exact W.vret hx hb hr (fun t ht hW => ⟨⟨(), rfl, trivial, by rw [ht]; exact hP9, va_K.moved hW.alike hK9, hD9⟩, hS.F ht⟩) hS.2.2 dX0_block_39
set_option maxHeartbeats 4000000 in
set_option maxRecDepth 100000 in
/-- again -/
theorem met_X0_again (l : Launch) (dC : Nat → ClassId) (dI : Nat → Nat → Nat) (sz : Nat) (x0 xk xb xo : Nat) (dB dO : ClassId) (fb fo : Nat → Int32) (hf : rc_By fo) : Met l yX0_again (ws_ yX0_again cX0_again 2 none) ({ frames := 0, cells := 0, slots := 0, locals := 0 }) (va_Pc [.ref x0] (zw_pre (dC, dI) [(dB, .byte), (dO, .byte)] [(x0, .inr (0, [.ref xk, .ref xb, .ref xo])), (xb, .inl (dB, 16, .inl fb)), (xo, .inl (dO, 16, .inl fo))] sz)) (va_Qv (fun _ => True) (fun (_ : Unit) t => zw_post (dC, dI) [(dB, .byte), (dO, .byte)] [(x0, .inr (0, [.ref xk, .ref xb, .ref xo])), (xb, .inl (dB, 16, .inl fo)), (xo, .inl (dO, 16, .inl fo))] (va_A [(x0, .inr (0, [.ref xk, .ref xb, .ref xo])), (xb, .inl (dB, 16, .inl fb)), (xo, .inl (dO, 16, .inl fo))] sz) t) (va_A [(x0, .inr (0, [.ref xk, .ref xb, .ref xo])), (xb, .inl (dB, 16, .inl fb)), (xo, .inl (dO, 16, .inl fo))] sz)) 0 0 (va_A [(x0, .inr (0, [.ref xk, .ref xb, .ref xo])), (xb, .inl (dB, 16, .inl fb)), (xo, .inl (dO, 16, .inl fo))] sz) := by
  refine Met.ofW (cc := cX0_again) (maxL := 2) (ret := none) (by decide) rfl ?_
  intro p e s m args below meth c s₁ B hml hv
  obtain ⟨rfl, hsz, hP, hK, hD0⟩ := hv
  have hx := B.exec
  have hb := B.bytes
  have hr := B.returns
  have hts := atoms_spec (ws := (ws_ yX0_again cX0_again 2 none)) B.pre
  have hts : ∀ w ∈ lw_all, w.before _ s = true := fun w h => hts w (List.mem_cons_of_mem _ h)
  have hown : s.vm.findClass RX0 = some m.cls := findClass_of_methodNamed B.named
  have hlocks := B.notSynchronized
  subst hsz
  have hD := hD0.self (sz := s.heap.size)
  generalize hAe : va_A [(x0, .inr (0, [.ref xk, .ref xb, .ref xo])), (xb, .inl (dB, 16, .inl fb)), (xo, .inl (dO, 16, .inl fo))] s.heap.size = A at hD ⊢
  have hA : ∀ q : Nat, s.heap.size ≤ q → A q := fun q h => by rw [← hAe]; exact Or.inr h
  have hS : va_S A s.heap s.heap [] := va_S.rf
  have hP : va_P (dC, dI) vwCl [(x0, .inr (0, [.ref xk, .ref xb, .ref xo])), (xb, .inl (dB, 16, .inl fb)), (xo, .inl (dO, 16, .inl fo))] s.heap := hP
  have hl := lv_entry ([.ref x0]) (n := 2) (Nat.le_of_ble_eq_true rfl)
  rw [lg_entry_eq]
  generalize (lg_sl ([.ref x0]) ++ List.replicate (2 - (lg_sl ([.ref x0])).length) Slot.unset).toArray = ls at hl ⊢
  have hl : lv_has ls 2 [(0, .ref x0)] := hl
  have loop : ∀ (k i : Nat), i + k = 16 → ∀ (H : Heap) (locs : List Loc), va_P (dC, dI) vwCl [(x0, .inr (0, [.ref xk, .ref xb, .ref xo])), (xb, .inl (dB, 16, .inl (rc_m i fo fb))), (xo, .inl (dO, 16, .inl fo))] H → va_D A [(x0, .inr (0, [.ref xk, .ref xb, .ref xo])), (xb, .inl (dB, 16, .inl (rc_m i fo fb))), (xo, .inl (dO, 16, .inl fo))] → va_S A s.heap H locs → ∀ ls : Array Slot, lv_has ls 2 [(0, .ref x0), (1, .int (nI i))] → W p l e (headSpec (ws_ yX0_again cX0_again 2 none) ({ frames := 0, cells := 0, slots := 0, locals := 0 })).room s m ([.ref x0] : List Value).toArray below meth c H locs 0 0 (MQ below (va_Qv (fun _ => True) (fun (_ : Unit) t => zw_post (dC, dI) [(dB, .byte), (dO, .byte)] [(x0, .inr (0, [.ref xk, .ref xb, .ref xo])), (xb, .inl (dB, 16, .inl fo)), (xo, .inl (dO, 16, .inl fo))] A t) A) ([.ref x0] : List Value).toArray s 0 0 A) (F0 m 2 ls []) := by
    intro k
    induction k with
    | zero =>
      intro i hi H locs hP hD hS ls hl
      have hi : i = 16 := by omega
      subst hi
      refine lv_iload_n hx hb dX0_again_2 rfl (lv_at hl 1 rfl) ?_
      refine lv_bipush (v := 16) hx hb dX0_again_3 (by decide) ?_
      refine lv_icmp_ge (tgt := 26) hx hb dX0_again_5 (by decide) (fun _ => ?_) (fun c_ => absurd (by decide +kernel) c_)
      have hP := zz_ext hP 1 rfl (g := fo) (fun j hj => rc_m_all fo fb j hj)
      have hD : va_D A [(x0, .inr (0, [.ref xk, .ref xb, .ref xo])), (xb, .inl (dB, 16, .inl fo)), (xo, .inl (dO, 16, .inl fo))] := hD.set (p := 1) rfl
      have hP9 := hP.sub (ws' := [(x0, .inr (0, [.ref xk, .ref xb, .ref xo])), (xb, .inl (dB, 16, .inl fo)), (xo, .inl (dO, 16, .inl fo))]) [0, 1, 2] rfl
      have hD9 := hD.sub (ws' := [(x0, .inr (0, [.ref xk, .ref xb, .ref xo])), (xb, .inl (dB, 16, .inl fo)), (xo, .inl (dO, 16, .inl fo))]) [0, 1, 2] (by decide) rfl
      have hK9 := hK.sub (tys' := [(dB, .byte), (dO, .byte)]) [0, 1] rfl
      exact W.vret hx hb hr (fun t ht hW => ⟨⟨(), rfl, trivial, by rw [ht]; exact hP9, va_K.moved hW.alike hK9, hD9⟩, hS.F ht⟩) hS.2.2 dX0_again_26
    | succ k ih =>
      intro i hi H locs hP hD hS ls hl
      refine lv_iload_n hx hb dX0_again_2 rfl (lv_at hl 1 rfl) ?_
      refine lv_bipush (v := 16) hx hb dX0_again_3 (by decide) ?_
      refine lv_icmp_ge (tgt := 26) hx hb dX0_again_5 (by decide) (fun c_ => absurd c_ (nI_ge (a := i) (b := 16) (by omega) (by omega))) (fun _ => ?_)
      refine lv_aload_n hx hb dX0_again_8 rfl (lv_at hl 0 rfl) ?_
      refine va_get (D := (dC, dI)) (ci := 0) (v := .ref xb) (C := RX0) (T := TX0) (N := 3) hx hb hts in_X0 hown hK hP 0 rfl rfl 1 (by decide) (hts _ q35) (fun _ h9 => h9) rfl dX0_again_9 ?_
      refine lv_iload_n hx hb dX0_again_12 rfl (lv_at hl 1 rfl) ?_
      refine lv_aload_n hx hb dX0_again_13 rfl (lv_at hl 0 rfl) ?_
      refine va_get (D := (dC, dI)) (ci := 0) (v := .ref xo) (C := RX0) (T := TX0) (N := 3) hx hb hts in_X0 hown hK hP 0 rfl rfl 2 (by decide) (hts _ q36) (fun _ h9 => h9) rfl dX0_again_14 ?_
      refine lv_iload_n hx hb dX0_again_17 rfl (lv_at hl 1 rfl) ?_
      refine zz_bald hx hb hK hP 2 1 rfl rfl i rfl (by omega) (by omega) dX0_again_18 ?_
      refine zz_bast hx hb hK hP hD hS 1 0 rfl rfl i (rc_m (i + 1) fo fb) rfl (by omega) (by omega) (hf i) (fun j _ => rc_m_s i fo fb j) dX0_again_19 (fun H locs hP hD hS => ?_)
      have hP : va_P (dC, dI) vwCl [(x0, .inr (0, [.ref xk, .ref xb, .ref xo])), (xb, .inl (dB, 16, .inl (rc_m (i + 1) fo fb))), (xo, .inl (dO, 16, .inl fo))] H := hP
      have hD : va_D A [(x0, .inr (0, [.ref xk, .ref xb, .ref xo])), (xb, .inl (dB, 16, .inl (rc_m (i + 1) fo fb))), (xo, .inl (dO, 16, .inl fo))] := hD
      refine lv_iinc (v := (nI (i + 1))) (lv' := [(1, .int (nI (i + 1))), (0, .ref x0)]) hx hb dX0_again_20 hl (k := 1) rfl (zi_p1 i) (by decide) rfl (fun ls hl => ?_)
      refine lv_goto (tgt := 2) hx hb dX0_again_23 (by decide) ?_
      exact ih (i + 1) (by omega) H locs hP hD hS ls (lv_sub hl [1, 0] rfl)
  refine lv_iconst (v := (nI 0)) hx hb dX0_again_0 (by decide) ?_
  refine lv_istore_n (lv' := [(1, .int (nI 0)), (0, .ref x0)]) hx hb dX0_again_1 rfl hl (by decide) rfl (fun ls hl => ?_)
  have hP := zz_ext hP 1 rfl (g := rc_m 0 fo fb) (fun j _ => rc_m_0 fo fb j)
  have hD : va_D A [(x0, .inr (0, [.ref xk, .ref xb, .ref xo])), (xb, .inl (dB, 16, .inl (rc_m 0 fo fb))), (xo, .inl (dO, 16, .inl fo))] := hD.set (p := 1) rfl
  exact loop 16 0 rfl s.heap [] hP hD hS ls (lv_sub hl [1, 0] rfl)
set_option maxHeartbeats 4000000 in
set_option maxRecDepth 100000 in
/-- out(at) -/
theorem met_X0_out (l : Launch) (dC : Nat → ClassId) (dI : Nat → Nat → Nat) (x0 xk xb xo : Nat) (dO : ClassId) (fo : Nat → Int32) (at_ : Int32) : Met l yX0_out (ws_ yX0_out cX0_out 2 (some .int)) ({ frames := 0, cells := 0, slots := 0, locals := 0 }) (va_Pc [.ref x0, .int at_] (zr_pre (dC, dI) [(dO, .byte)] [(x0, .inr (0, [.ref xk, .ref xb, .ref xo])), (xo, .inl (dO, 16, .inl fo))])) (vp_Si (fun r => r = (fo (at_.toBitVec.toNat % 2 ^ 4)) &&& 255)) 0 0 (fun _ => False) := by
  refine Met.ofW (cc := cX0_out) (maxL := 2) (ret := (some .int)) (by decide) rfl ?_
  intro p e s m args below meth c s₁ B hml hv
  obtain ⟨rfl, hP, hK⟩ := hv
  have hx := B.exec
  have hb := B.bytes
  have hr := B.returns
  have hts := atoms_spec (ws := (ws_ yX0_out cX0_out 2 (some .int))) B.pre
  have hts : ∀ w ∈ lw_all, w.before _ s = true := fun w h => hts w (List.mem_cons_of_mem _ h)
  have hown : s.vm.findClass RX0 = some m.cls := findClass_of_methodNamed B.named
  have hlocks := B.notSynchronized
  have hl := lv_entry ([.ref x0, .int at_]) (n := 2) (Nat.le_of_ble_eq_true rfl)
  rw [lg_entry_eq]
  generalize (lg_sl ([.ref x0, .int at_]) ++ List.replicate (2 - (lg_sl ([.ref x0, .int at_])).length) Slot.unset).toArray = ls at hl ⊢
  have hl : lv_has ls 2 [(0, .ref x0), (1, .int at_)] := hl
  refine lv_aload_n hx hb dX0_out_0 rfl (lv_at hl 0 rfl) ?_
  refine va_get (D := (dC, dI)) (ci := 0) (v := .ref xo) (C := RX0) (T := TX0) (N := 3) hx hb hts in_X0 hown hK hP 0 rfl rfl 2 (by decide) (hts _ q36) (fun _ h9 => h9) rfl dX0_out_1 ?_
  refine lv_iload_n hx hb dX0_out_4 rfl (lv_at hl 1 rfl) ?_
  refine lv_bipush (v := 15) hx hb dX0_out_5 (by decide) ?_
  refine lv_iand hx hb dX0_out_7 ?_
  refine zz_bald hx hb hK hP 1 0 rfl rfl (at_.toBitVec.toNat % 2 ^ 4) (pk_and at_ 4 (by decide +kernel)) (by omega) (by omega) dX0_out_8 ?_
  refine lv_sipush (v := 255) hx hb dX0_out_9 (by decide) ?_
  refine lv_iand hx hb dX0_out_12 ?_
  exact W.iret (v := (fo (at_.toBitVec.toNat % 2 ^ 4)) &&& 255) hx hb hr (fun t ht hW => ⟨_, rfl, rfl, ht⟩) (fun q h => by cases h) dX0_out_13
set_option maxHeartbeats 4000000 in
set_option maxRecDepth 100000 in
/-- again -/
theorem met_X1_again (l : Launch) (dC : Nat → ClassId) (dI : Nat → Nat → Nat) (sz : Nat) (y0 yk yb yo ys yl : Nat) (v5 v6 v7 v8 : Int32) (dB dO : ClassId) (fb fo : Nat → Int32) (hf : rc_By fo) : Met l yX1_again (ws_ yX1_again cX1_again 2 none) ({ frames := 0, cells := 0, slots := 0, locals := 0 }) (va_Pc [.ref y0] (zw_pre (dC, dI) [(dB, .byte), (dO, .byte)] [(y0, .inr (1, [.ref yk, .ref yb, .ref yo, .ref ys, .ref yl, .int v5, .int v6, .int v7, .int v8])), (yb, .inl (dB, 16, .inl fb)), (yo, .inl (dO, 16, .inl fo))] sz)) (va_Qv (fun _ => True) (fun (_ : Unit) t => zw_post (dC, dI) [(dB, .byte), (dO, .byte)] [(y0, .inr (1, [.ref yk, .ref yb, .ref yo, .ref ys, .ref yl, .int v5, .int v6, .int v7, .int v8])), (yb, .inl (dB, 16, .inl fo)), (yo, .inl (dO, 16, .inl fo))] (va_A [(y0, .inr (1, [.ref yk, .ref yb, .ref yo, .ref ys, .ref yl, .int v5, .int v6, .int v7, .int v8])), (yb, .inl (dB, 16, .inl fb)), (yo, .inl (dO, 16, .inl fo))] sz) t) (va_A [(y0, .inr (1, [.ref yk, .ref yb, .ref yo, .ref ys, .ref yl, .int v5, .int v6, .int v7, .int v8])), (yb, .inl (dB, 16, .inl fb)), (yo, .inl (dO, 16, .inl fo))] sz)) 0 0 (va_A [(y0, .inr (1, [.ref yk, .ref yb, .ref yo, .ref ys, .ref yl, .int v5, .int v6, .int v7, .int v8])), (yb, .inl (dB, 16, .inl fb)), (yo, .inl (dO, 16, .inl fo))] sz) := by
  refine Met.ofW (cc := cX1_again) (maxL := 2) (ret := none) (by decide) rfl ?_
  intro p e s m args below meth c s₁ B hml hv
  obtain ⟨rfl, hsz, hP, hK, hD0⟩ := hv
  have hx := B.exec
  have hb := B.bytes
  have hr := B.returns
  have hts := atoms_spec (ws := (ws_ yX1_again cX1_again 2 none)) B.pre
  have hts : ∀ w ∈ lw_all, w.before _ s = true := fun w h => hts w (List.mem_cons_of_mem _ h)
  have hown : s.vm.findClass RX1 = some m.cls := findClass_of_methodNamed B.named
  have hlocks := B.notSynchronized
  subst hsz
  have hD := hD0.self (sz := s.heap.size)
  generalize hAe : va_A [(y0, .inr (1, [.ref yk, .ref yb, .ref yo, .ref ys, .ref yl, .int v5, .int v6, .int v7, .int v8])), (yb, .inl (dB, 16, .inl fb)), (yo, .inl (dO, 16, .inl fo))] s.heap.size = A at hD ⊢
  have hA : ∀ q : Nat, s.heap.size ≤ q → A q := fun q h => by rw [← hAe]; exact Or.inr h
  have hS : va_S A s.heap s.heap [] := va_S.rf
  have hP : va_P (dC, dI) vwCl [(y0, .inr (1, [.ref yk, .ref yb, .ref yo, .ref ys, .ref yl, .int v5, .int v6, .int v7, .int v8])), (yb, .inl (dB, 16, .inl fb)), (yo, .inl (dO, 16, .inl fo))] s.heap := hP
  have hl := lv_entry ([.ref y0]) (n := 2) (Nat.le_of_ble_eq_true rfl)
  rw [lg_entry_eq]
  generalize (lg_sl ([.ref y0]) ++ List.replicate (2 - (lg_sl ([.ref y0])).length) Slot.unset).toArray = ls at hl ⊢
  have hl : lv_has ls 2 [(0, .ref y0)] := hl
  have loop : ∀ (k i : Nat), i + k = 16 → ∀ (H : Heap) (locs : List Loc), va_P (dC, dI) vwCl [(y0, .inr (1, [.ref yk, .ref yb, .ref yo, .ref ys, .ref yl, .int v5, .int v6, .int v7, .int v8])), (yb, .inl (dB, 16, .inl (rc_m i fo fb))), (yo, .inl (dO, 16, .inl fo))] H → va_D A [(y0, .inr (1, [.ref yk, .ref yb, .ref yo, .ref ys, .ref yl, .int v5, .int v6, .int v7, .int v8])), (yb, .inl (dB, 16, .inl (rc_m i fo fb))), (yo, .inl (dO, 16, .inl fo))] → va_S A s.heap H locs → ∀ ls : Array Slot, lv_has ls 2 [(0, .ref y0), (1, .int (nI i))] → W p l e (headSpec (ws_ yX1_again cX1_again 2 none) ({ frames := 0, cells := 0, slots := 0, locals := 0 })).room s m ([.ref y0] : List Value).toArray below meth c H locs 0 0 (MQ below (va_Qv (fun _ => True) (fun (_ : Unit) t => zw_post (dC, dI) [(dB, .byte), (dO, .byte)] [(y0, .inr (1, [.ref yk, .ref yb, .ref yo, .ref ys, .ref yl, .int v5, .int v6, .int v7, .int v8])), (yb, .inl (dB, 16, .inl fo)), (yo, .inl (dO, 16, .inl fo))] A t) A) ([.ref y0] : List Value).toArray s 0 0 A) (F0 m 2 ls []) := by
    intro k
    induction k with
    | zero =>
      intro i hi H locs hP hD hS ls hl
      have hi : i = 16 := by omega
      subst hi
      refine lv_iload_n hx hb dX1_again_2 rfl (lv_at hl 1 rfl) ?_
      refine lv_bipush (v := 16) hx hb dX1_again_3 (by decide) ?_
      refine lv_icmp_ge (tgt := 26) hx hb dX1_again_5 (by decide) (fun _ => ?_) (fun c_ => absurd (by decide +kernel) c_)
      have hP := zz_ext hP 1 rfl (g := fo) (fun j hj => rc_m_all fo fb j hj)
      have hD : va_D A [(y0, .inr (1, [.ref yk, .ref yb, .ref yo, .ref ys, .ref yl, .int v5, .int v6, .int v7, .int v8])), (yb, .inl (dB, 16, .inl fo)), (yo, .inl (dO, 16, .inl fo))] := hD.set (p := 1) rfl
      have hP9 := hP.sub (ws' := [(y0, .inr (1, [.ref yk, .ref yb, .ref yo, .ref ys, .ref yl, .int v5, .int v6, .int v7, .int v8])), (yb, .inl (dB, 16, .inl fo)), (yo, .inl (dO, 16, .inl fo))]) [0, 1, 2] rfl
      have hD9 := hD.sub (ws' := [(y0, .inr (1, [.ref yk, .ref yb, .ref yo, .ref ys, .ref yl, .int v5, .int v6, .int v7, .int v8])), (yb, .inl (dB, 16, .inl fo)), (yo, .inl (dO, 16, .inl fo))]) [0, 1, 2] (by decide) rfl
      have hK9 := hK.sub (tys' := [(dB, .byte), (dO, .byte)]) [0, 1] rfl
      exact W.vret hx hb hr (fun t ht hW => ⟨⟨(), rfl, trivial, by rw [ht]; exact hP9, va_K.moved hW.alike hK9, hD9⟩, hS.F ht⟩) hS.2.2 dX1_again_26
    | succ k ih =>
      intro i hi H locs hP hD hS ls hl
      refine lv_iload_n hx hb dX1_again_2 rfl (lv_at hl 1 rfl) ?_
      refine lv_bipush (v := 16) hx hb dX1_again_3 (by decide) ?_
      refine lv_icmp_ge (tgt := 26) hx hb dX1_again_5 (by decide) (fun c_ => absurd c_ (nI_ge (a := i) (b := 16) (by omega) (by omega))) (fun _ => ?_)
      refine lv_aload_n hx hb dX1_again_8 rfl (lv_at hl 0 rfl) ?_
      refine va_get (D := (dC, dI)) (ci := 1) (v := .ref yb) (C := RX1) (T := TX1) (N := 9) hx hb hts in_X1 hown hK hP 0 rfl rfl 1 (by decide) (hts _ q298) (fun _ h9 => h9) rfl dX1_again_9 ?_
      refine lv_iload_n hx hb dX1_again_12 rfl (lv_at hl 1 rfl) ?_
      refine lv_aload_n hx hb dX1_again_13 rfl (lv_at hl 0 rfl) ?_
      refine va_get (D := (dC, dI)) (ci := 1) (v := .ref yo) (C := RX1) (T := TX1) (N := 9) hx hb hts in_X1 hown hK hP 0 rfl rfl 2 (by decide) (hts _ q299) (fun _ h9 => h9) rfl dX1_again_14 ?_
      refine lv_iload_n hx hb dX1_again_17 rfl (lv_at hl 1 rfl) ?_
      refine zz_bald hx hb hK hP 2 1 rfl rfl i rfl (by omega) (by omega) dX1_again_18 ?_
      refine zz_bast hx hb hK hP hD hS 1 0 rfl rfl i (rc_m (i + 1) fo fb) rfl (by omega) (by omega) (hf i) (fun j _ => rc_m_s i fo fb j) dX1_again_19 (fun H locs hP hD hS => ?_)
      have hP : va_P (dC, dI) vwCl [(y0, .inr (1, [.ref yk, .ref yb, .ref yo, .ref ys, .ref yl, .int v5, .int v6, .int v7, .int v8])), (yb, .inl (dB, 16, .inl (rc_m (i + 1) fo fb))), (yo, .inl (dO, 16, .inl fo))] H := hP
      have hD : va_D A [(y0, .inr (1, [.ref yk, .ref yb, .ref yo, .ref ys, .ref yl, .int v5, .int v6, .int v7, .int v8])), (yb, .inl (dB, 16, .inl (rc_m (i + 1) fo fb))), (yo, .inl (dO, 16, .inl fo))] := hD
      refine lv_iinc (v := (nI (i + 1))) (lv' := [(1, .int (nI (i + 1))), (0, .ref y0)]) hx hb dX1_again_20 hl (k := 1) rfl (zi_p1 i) (by decide) rfl (fun ls hl => ?_)
      refine lv_goto (tgt := 2) hx hb dX1_again_23 (by decide) ?_
      exact ih (i + 1) (by omega) H locs hP hD hS ls (lv_sub hl [1, 0] rfl)
  refine lv_iconst (v := (nI 0)) hx hb dX1_again_0 (by decide) ?_
  refine lv_istore_n (lv' := [(1, .int (nI 0)), (0, .ref y0)]) hx hb dX1_again_1 rfl hl (by decide) rfl (fun ls hl => ?_)
  have hP := zz_ext hP 1 rfl (g := rc_m 0 fo fb) (fun j _ => rc_m_0 fo fb j)
  have hD : va_D A [(y0, .inr (1, [.ref yk, .ref yb, .ref yo, .ref ys, .ref yl, .int v5, .int v6, .int v7, .int v8])), (yb, .inl (dB, 16, .inl (rc_m 0 fo fb))), (yo, .inl (dO, 16, .inl fo))] := hD.set (p := 1) rfl
  exact loop 16 0 rfl s.heap [] hP hD hS ls (lv_sub hl [1, 0] rfl)
set_option maxHeartbeats 4000000 in
set_option maxRecDepth 100000 in
/-- out(at) -/
theorem met_X1_out (l : Launch) (dC : Nat → ClassId) (dI : Nat → Nat → Nat) (y0 yk yb yo ys yl : Nat) (v5 v6 v7 v8 : Int32) (dO : ClassId) (fo : Nat → Int32) (at_ : Int32) : Met l yX1_out (ws_ yX1_out cX1_out 2 (some .int)) ({ frames := 0, cells := 0, slots := 0, locals := 0 }) (va_Pc [.ref y0, .int at_] (zr_pre (dC, dI) [(dO, .byte)] [(y0, .inr (1, [.ref yk, .ref yb, .ref yo, .ref ys, .ref yl, .int v5, .int v6, .int v7, .int v8])), (yo, .inl (dO, 16, .inl fo))])) (vp_Si (fun r => r = (fo (at_.toBitVec.toNat % 2 ^ 4)) &&& 255)) 0 0 (fun _ => False) := by
  refine Met.ofW (cc := cX1_out) (maxL := 2) (ret := (some .int)) (by decide) rfl ?_
  intro p e s m args below meth c s₁ B hml hv
  obtain ⟨rfl, hP, hK⟩ := hv
  have hx := B.exec
  have hb := B.bytes
  have hr := B.returns
  have hts := atoms_spec (ws := (ws_ yX1_out cX1_out 2 (some .int))) B.pre
  have hts : ∀ w ∈ lw_all, w.before _ s = true := fun w h => hts w (List.mem_cons_of_mem _ h)
  have hown : s.vm.findClass RX1 = some m.cls := findClass_of_methodNamed B.named
  have hlocks := B.notSynchronized
  have hl := lv_entry ([.ref y0, .int at_]) (n := 2) (Nat.le_of_ble_eq_true rfl)
  rw [lg_entry_eq]
  generalize (lg_sl ([.ref y0, .int at_]) ++ List.replicate (2 - (lg_sl ([.ref y0, .int at_])).length) Slot.unset).toArray = ls at hl ⊢
  have hl : lv_has ls 2 [(0, .ref y0), (1, .int at_)] := hl
  refine lv_aload_n hx hb dX1_out_0 rfl (lv_at hl 0 rfl) ?_
  refine va_get (D := (dC, dI)) (ci := 1) (v := .ref yo) (C := RX1) (T := TX1) (N := 9) hx hb hts in_X1 hown hK hP 0 rfl rfl 2 (by decide) (hts _ q299) (fun _ h9 => h9) rfl dX1_out_1 ?_
  refine lv_iload_n hx hb dX1_out_4 rfl (lv_at hl 1 rfl) ?_
  refine lv_bipush (v := 15) hx hb dX1_out_5 (by decide) ?_
  refine lv_iand hx hb dX1_out_7 ?_
  refine zz_bald hx hb hK hP 1 0 rfl rfl (at_.toBitVec.toNat % 2 ^ 4) (pk_and at_ 4 (by decide +kernel)) (by omega) (by omega) dX1_out_8 ?_
  refine lv_sipush (v := 255) hx hb dX1_out_9 (by decide) ?_
  refine lv_iand hx hb dX1_out_12 ?_
  exact W.iret (v := (fo (at_.toBitVec.toNat % 2 ^ 4)) &&& 255) hx hb hr (fun t ht hW => ⟨_, rfl, rfl, ht⟩) (fun q h => by cases h) dX1_out_13
set_option maxHeartbeats 4000000 in
set_option maxRecDepth 100000 in
/-- RcSixDeskModel.key -/
theorem met_X1_key (l : Launch) (dC : Nat → ClassId) (dI : Nat → Nat → Nat) (sz : Nat) (y0 yk yb yo ys yl : Nat) (v5 v6 v7 v8 : Int32) (dK : ClassId) (fk : Nat → Int32) (half a1 a2 a3 a4 : Int32) : Met l yX1_key (ws_ yX1_key cX1_key 7 none) ({ frames := 1, cells := 0, slots := 0, locals := 26 }) (va_Pc [.ref y0, .int half, .int a1, .int a2, .int a3, .int a4] (zw_pre (dC, dI) [(dK, .byte)] [(y0, .inr (1, [.ref yk, .ref yb, .ref yo, .ref ys, .ref yl, .int v5, .int v6, .int v7, .int v8])), (yk, .inl (dK, 32, .inl fk))] sz)) (va_Qv (fun _ => True) (fun (_ : Unit) t => zw_post (dC, dI) [(dK, .byte)] [(y0, .inr (1, [.ref yk, .ref yb, .ref yo, .ref ys, .ref yl, .int v5, .int v6, .int v7, .int v8])), (yk, .inl (dK, 32, .inl (rc_k half a1 a2 a3 a4 fk)))] (va_A [(y0, .inr (1, [.ref yk, .ref yb, .ref yo, .ref ys, .ref yl, .int v5, .int v6, .int v7, .int v8])), (yk, .inl (dK, 32, .inl fk))] sz) t) (va_A [(y0, .inr (1, [.ref yk, .ref yb, .ref yo, .ref ys, .ref yl, .int v5, .int v6, .int v7, .int v8])), (yk, .inl (dK, 32, .inl fk))] sz)) 0 0 (va_A [(y0, .inr (1, [.ref yk, .ref yb, .ref yo, .ref ys, .ref yl, .int v5, .int v6, .int v7, .int v8])), (yk, .inl (dK, 32, .inl fk))] sz) := by
  refine Met.ofW (cc := cX1_key) (maxL := 7) (ret := none) (by decide) rfl ?_
  intro p e s m args below meth c s₁ B hml hv
  obtain ⟨rfl, hsz, hP, hK, hD0⟩ := hv
  have hx := B.exec
  have hb := B.bytes
  have hr := B.returns
  have hts := atoms_spec (ws := (ws_ yX1_key cX1_key 7 none)) B.pre
  have hts : ∀ w ∈ lw_all, w.before _ s = true := fun w h => hts w (List.mem_cons_of_mem _ h)
  have hown : s.vm.findClass RX1 = some m.cls := findClass_of_methodNamed B.named
  have hlocks := B.notSynchronized
  subst hsz
  have hD := hD0.self (sz := s.heap.size)
  generalize hAe : va_A [(y0, .inr (1, [.ref yk, .ref yb, .ref yo, .ref ys, .ref yl, .int v5, .int v6, .int v7, .int v8])), (yk, .inl (dK, 32, .inl fk))] s.heap.size = A at hD ⊢
  have hA : ∀ q : Nat, s.heap.size ≤ q → A q := fun q h => by rw [← hAe]; exact Or.inr h
  have hS : va_S A s.heap s.heap [] := va_S.rf
  have hP : va_P (dC, dI) vwCl [(y0, .inr (1, [.ref yk, .ref yb, .ref yo, .ref ys, .ref yl, .int v5, .int v6, .int v7, .int v8])), (yk, .inl (dK, 32, .inl fk))] s.heap := hP
  have hl := lv_entry ([.ref y0, .int half, .int a1, .int a2, .int a3, .int a4]) (n := 7) (Nat.le_of_ble_eq_true rfl)
  rw [lg_entry_eq]
  generalize (lg_sl ([.ref y0, .int half, .int a1, .int a2, .int a3, .int a4]) ++ List.replicate (7 - (lg_sl ([.ref y0, .int half, .int a1, .int a2, .int a3, .int a4])).length) Slot.unset).toArray = ls at hl ⊢
  have hl : lv_has ls 7 [(0, .ref y0), (1, .int half), (2, .int a1), (3, .int a2), (4, .int a3), (5, .int a4)] := hl
  have hh := (rc_h1 half).1
  have loop : ∀ (k i : Nat), i + k = 16 → ∀ (H : Heap) (locs : List Loc), va_P (dC, dI) vwCl [(y0, .inr (1, [.ref yk, .ref yb, .ref yo, .ref ys, .ref yl, .int v5, .int v6, .int v7, .int v8])), (yk, .inl (dK, 32, .inl (rc_kp half a1 a2 a3 a4 fk i)))] H → va_D A [(y0, .inr (1, [.ref yk, .ref yb, .ref yo, .ref ys, .ref yl, .int v5, .int v6, .int v7, .int v8])), (yk, .inl (dK, 32, .inl (rc_kp half a1 a2 a3 a4 fk i)))] → va_S A s.heap H locs → ∀ ls : Array Slot, lv_has ls 7 [(0, .ref y0), (1, .int half), (2, .int a1), (3, .int a2), (4, .int a3), (5, .int a4), (6, .int (nI i))] → W p l e (headSpec (ws_ yX1_key cX1_key 7 none) ({ frames := 1, cells := 0, slots := 0, locals := 26 })).room s m ([.ref y0, .int half, .int a1, .int a2, .int a3, .int a4] : List Value).toArray below meth c H locs 0 0 (MQ below (va_Qv (fun _ => True) (fun (_ : Unit) t => zw_post (dC, dI) [(dK, .byte)] [(y0, .inr (1, [.ref yk, .ref yb, .ref yo, .ref ys, .ref yl, .int v5, .int v6, .int v7, .int v8])), (yk, .inl (dK, 32, .inl (rc_k half a1 a2 a3 a4 fk)))] A t) A) ([.ref y0, .int half, .int a1, .int a2, .int a3, .int a4] : List Value).toArray s 0 0 A) (F0 m 3 ls []) := by
    intro k
    induction k with
    | zero =>
      intro i hi H locs hP hD hS ls hl
      have hi : i = 16 := by omega
      subst hi
      refine lv_iload hx hb dX1_key_3 (lv_at hl 6 rfl) ?_
      refine lv_bipush (v := 16) hx hb dX1_key_5 (by decide) ?_
      refine lv_icmp_ge (tgt := 48) hx hb dX1_key_7 (by decide) (fun _ => ?_) (fun c_ => absurd (by decide +kernel) c_)
      have hP := zz_ext hP 1 rfl (g := rc_k half a1 a2 a3 a4 fk) (fun j _ => rfl)
      have hD : va_D A [(y0, .inr (1, [.ref yk, .ref yb, .ref yo, .ref ys, .ref yl, .int v5, .int v6, .int v7, .int v8])), (yk, .inl (dK, 32, .inl (rc_k half a1 a2 a3 a4 fk)))] := hD.set (p := 1) rfl
      have hP9 := hP.sub (ws' := [(y0, .inr (1, [.ref yk, .ref yb, .ref yo, .ref ys, .ref yl, .int v5, .int v6, .int v7, .int v8])), (yk, .inl (dK, 32, .inl (rc_k half a1 a2 a3 a4 fk)))]) [0, 1] rfl
      have hD9 := hD.sub (ws' := [(y0, .inr (1, [.ref yk, .ref yb, .ref yo, .ref ys, .ref yl, .int v5, .int v6, .int v7, .int v8])), (yk, .inl (dK, 32, .inl (rc_k half a1 a2 a3 a4 fk)))]) [0, 1] (by decide) rfl
      have hK9 := hK.sub (tys' := [(dK, .byte)]) [0] rfl
      exact W.vret hx hb hr (fun t ht hW => ⟨⟨(), rfl, trivial, by rw [ht]; exact hP9, va_K.moved hW.alike hK9, hD9⟩, hS.F ht⟩) hS.2.2 dX1_key_48
    | succ k ih =>
      intro i hi H locs hP hD hS ls hl
      refine lv_iload hx hb dX1_key_3 (lv_at hl 6 rfl) ?_
      refine lv_bipush (v := 16) hx hb dX1_key_5 (by decide) ?_
      refine lv_icmp_ge (tgt := 48) hx hb dX1_key_7 (by decide) (fun c_ => absurd c_ (nI_ge (a := i) (b := 16) (by omega) (by omega))) (fun _ => ?_)
      refine lv_aload_n hx hb dX1_key_10 rfl (lv_at hl 0 rfl) ?_
      refine va_get (D := (dC, dI)) (ci := 1) (v := .ref yk) (C := RX1) (T := TX1) (N := 9) hx hb hts in_X1 hown hK hP 0 rfl rfl 0 (by decide) (hts _ q297) (fun _ h9 => h9) rfl dX1_key_11 ?_
      refine lv_bipush (v := 16) hx hb dX1_key_14 (by decide) ?_
      refine lv_iload_n hx hb dX1_key_16 rfl (lv_at hl 1 rfl) ?_
      refine lv_iconst (v := 1) hx hb dX1_key_17 (by decide) ?_
      refine lv_iand hx hb dX1_key_18 ?_
      refine zt (nI (rc_h half)) ((rc_h1 half).2) ?_
      refine lv_imul hx hb dX1_key_19 ?_
      refine lv_iload hx hb dX1_key_20 (lv_at hl 6 rfl) ?_
      refine lv_iadd hx hb dX1_key_22 ?_
      refine lv_iload hx hb dX1_key_23 (lv_at hl 6 rfl) ?_
      refine lv_iconst (v := 4) hx hb dX1_key_25 (by decide) ?_
      refine lv_idiv hx hb dX1_key_26 (by decide) ?_
      refine zt (nI (i / 4)) (rc_div4 i (by omega)) ?_
      refine lv_iload hx hb dX1_key_27 (lv_at hl 6 rfl) ?_
      refine lv_iconst (v := 4) hx hb dX1_key_29 (by decide) ?_
      refine lv_irem hx hb dX1_key_30 (by decide) ?_
      refine zt (nI (i % 4)) (rc_rem4 i (by omega)) ?_
      refine lv_iload_n hx hb dX1_key_31 rfl (lv_at hl 2 rfl) ?_
      refine lv_iload_n hx hb dX1_key_32 rfl (lv_at hl 3 rfl) ?_
      refine lv_iload hx hb dX1_key_33 (lv_at hl 4 rfl) ?_
      refine lv_iload hx hb dX1_key_35 (lv_at hl 5 rfl) ?_
      refine vp_callSi (va_runS (As := [.int (nI (i / 4)), .int (nI (i % 4)), .int a1, .int a2, .int a3, .int a4]) (rest := [.int ((16 * (nI (rc_h half))) + (nI i)), .ref yk]) ⟨hx, hb, hml, hown, hts⟩ (met_X1_at l (i / 4) (i % 4) (by omega) (by omega) a1 a2 a3 a4) (va_cwS 6 hts (lw_S q363 q364 q14 q365) rfl rfl rfl (by decide +kernel) ⟨Nat.le_of_ble_eq_true rfl, Nat.le_of_ble_eq_true rfl⟩) ⟨fun _ _ _ _ q => q, fun _ _ _ => ⟨rfl, trivial⟩⟩ rfl rfl hl.1 rfl (lv_room (Nat.le_of_ble_eq_true rfl)) dX1_key_37 ⟨Nat.le_of_ble_eq_true rfl, Nat.le_of_ble_eq_true rfl⟩).run (fun r hr_ => ?_)
      refine lv_i2b (v := (rc_b a1 a2 a3 a4 i)) hx hb dX1_key_40 (by rw [hr_]; rfl) ?_
      refine zz_bast hx hb hK hP hD hS 1 0 rfl rfl (16 * rc_h half + i) (rc_kp half a1 a2 a3 a4 fk (i + 1)) (rc_i16 _ i) (by omega) (by omega) (rc_nar _ _) (fun j _ => rc_kp_s half a1 a2 a3 a4 fk i j) dX1_key_41 (fun H locs hP hD hS => ?_)
      have hP : va_P (dC, dI) vwCl [(y0, .inr (1, [.ref yk, .ref yb, .ref yo, .ref ys, .ref yl, .int v5, .int v6, .int v7, .int v8])), (yk, .inl (dK, 32, .inl (rc_kp half a1 a2 a3 a4 fk (i + 1))))] H := hP
      have hD : va_D A [(y0, .inr (1, [.ref yk, .ref yb, .ref yo, .ref ys, .ref yl, .int v5, .int v6, .int v7, .int v8])), (yk, .inl (dK, 32, .inl (rc_kp half a1 a2 a3 a4 fk (i + 1))))] := hD
      refine lv_iinc (v := (nI (i + 1))) (lv' := [(6, .int (nI (i + 1))), (0, .ref y0), (1, .int half), (2, .int a1), (3, .int a2), (4, .int a3), (5, .int a4)]) hx hb dX1_key_42 hl (k := 6) rfl (zi_p1 i) (by decide) rfl (fun ls hl => ?_)
      refine lv_goto (tgt := 3) hx hb dX1_key_45 (by decide) ?_
      exact ih (i + 1) (by omega) H locs hP hD hS ls (lv_sub hl [1, 2, 3, 4, 5, 6, 0] rfl)
  refine lv_iconst (v := (nI 0)) hx hb dX1_key_0 (by decide) ?_
  refine lv_istore (lv' := [(6, .int (nI 0)), (0, .ref y0), (1, .int half), (2, .int a1), (3, .int a2), (4, .int a3), (5, .int a4)]) hx hb dX1_key_1 hl (by decide) rfl (fun ls hl => ?_)
  have hP := zz_ext hP 1 rfl (g := rc_kp half a1 a2 a3 a4 fk 0) (fun j _ => rc_kp_0 half a1 a2 a3 a4 fk j)
  have hD : va_D A [(y0, .inr (1, [.ref yk, .ref yb, .ref yo, .ref ys, .ref yl, .int v5, .int v6, .int v7, .int v8])), (yk, .inl (dK, 32, .inl (rc_kp half a1 a2 a3 a4 fk 0)))] := hD.set (p := 1) rfl
  exact loop 16 0 rfl s.heap [] hP hD hS ls (lv_sub hl [1, 2, 3, 4, 5, 6, 0] rfl)
set_option maxHeartbeats 4000000 in
set_option maxRecDepth 100000 in
/-- RcSixDeskModel.block -/
theorem met_X1_block (l : Launch) (dC : Nat → ClassId) (dI : Nat → Nat → Nat) (sz : Nat) (y0 yk yb yo ys yl : Nat) (v5 v6 v7 v8 : Int32) (dB : ClassId) (fb : Nat → Int32) (a1 a2 a3 a4 : Int32) : Met l yX1_block (ws_ yX1_block cX1_block 6 none) ({ frames := 1, cells := 0, slots := 0, locals := 26 }) (va_Pc [.ref y0, .int a1, .int a2, .int a3, .int a4] (zw_pre (dC, dI) [(dB, .byte)] [(y0, .inr (1, [.ref yk, .ref yb, .ref yo, .ref ys, .ref yl, .int v5, .int v6, .int v7, .int v8])), (yb, .inl (dB, 16, .inl fb))] sz)) (va_Qv (fun _ => True) (fun (_ : Unit) t => zw_post (dC, dI) [(dB, .byte)] [(y0, .inr (1, [.ref yk, .ref yb, .ref yo, .ref ys, .ref yl, .int v5, .int v6, .int v7, .int v8])), (yb, .inl (dB, 16, .inl (rc_b a1 a2 a3 a4)))] (va_A [(y0, .inr (1, [.ref yk, .ref yb, .ref yo, .ref ys, .ref yl, .int v5, .int v6, .int v7, .int v8])), (yb, .inl (dB, 16, .inl fb))] sz) t) (va_A [(y0, .inr (1, [.ref yk, .ref yb, .ref yo, .ref ys, .ref yl, .int v5, .int v6, .int v7, .int v8])), (yb, .inl (dB, 16, .inl fb))] sz)) 0 0 (va_A [(y0, .inr (1, [.ref yk, .ref yb, .ref yo, .ref ys, .ref yl, .int v5, .int v6, .int v7, .int v8])), (yb, .inl (dB, 16, .inl fb))] sz) := by
  refine Met.ofW (cc := cX1_block) (maxL := 6) (ret := none) (by decide) rfl ?_
  intro p e s m args below meth c s₁ B hml hv
  obtain ⟨rfl, hsz, hP, hK, hD0⟩ := hv
  have hx := B.exec
  have hb := B.bytes
  have hr := B.returns
  have hts := atoms_spec (ws := (ws_ yX1_block cX1_block 6 none)) B.pre
  have hts : ∀ w ∈ lw_all, w.before _ s = true := fun w h => hts w (List.mem_cons_of_mem _ h)
  have hown : s.vm.findClass RX1 = some m.cls := findClass_of_methodNamed B.named
  have hlocks := B.notSynchronized
  subst hsz
  have hD := hD0.self (sz := s.heap.size)
  generalize hAe : va_A [(y0, .inr (1, [.ref yk, .ref yb, .ref yo, .ref ys, .ref yl, .int v5, .int v6, .int v7, .int v8])), (yb, .inl (dB, 16, .inl fb))] s.heap.size = A at hD ⊢
  have hA : ∀ q : Nat, s.heap.size ≤ q → A q := fun q h => by rw [← hAe]; exact Or.inr h
  have hS : va_S A s.heap s.heap [] := va_S.rf
  have hP : va_P (dC, dI) vwCl [(y0, .inr (1, [.ref yk, .ref yb, .ref yo, .ref ys, .ref yl, .int v5, .int v6, .int v7, .int v8])), (yb, .inl (dB, 16, .inl fb))] s.heap := hP
  have hl := lv_entry ([.ref y0, .int a1, .int a2, .int a3, .int a4]) (n := 6) (Nat.le_of_ble_eq_true rfl)
  rw [lg_entry_eq]
  generalize (lg_sl ([.ref y0, .int a1, .int a2, .int a3, .int a4]) ++ List.replicate (6 - (lg_sl ([.ref y0, .int a1, .int a2, .int a3, .int a4])).length) Slot.unset).toArray = ls at hl ⊢
  have hl : lv_has ls 6 [(0, .ref y0), (1, .int a1), (2, .int a2), (3, .int a3), (4, .int a4)] := hl
  have loop : ∀ (k i : Nat), i + k = 16 → ∀ (H : Heap) (locs : List Loc), va_P (dC, dI) vwCl [(y0, .inr (1, [.ref yk, .ref yb, .ref yo, .ref ys, .ref yl, .int v5, .int v6, .int v7, .int v8])), (yb, .inl (dB, 16, .inl (rc_m i (rc_b a1 a2 a3 a4) fb)))] H → va_D A [(y0, .inr (1, [.ref yk, .ref yb, .ref yo, .ref ys, .ref yl, .int v5, .int v6, .int v7, .int v8])), (yb, .inl (dB, 16, .inl (rc_m i (rc_b a1 a2 a3 a4) fb)))] → va_S A s.heap H locs → ∀ ls : Array Slot, lv_has ls 6 [(0, .ref y0), (1, .int a1), (2, .int a2), (3, .int a3), (4, .int a4), (5, .int (nI i))] → W p l e (headSpec (ws_ yX1_block cX1_block 6 none) ({ frames := 1, cells := 0, slots := 0, locals := 26 })).room s m ([.ref y0, .int a1, .int a2, .int a3, .int a4] : List Value).toArray below meth c H locs 0 0 (MQ below (va_Qv (fun _ => True) (fun (_ : Unit) t => zw_post (dC, dI) [(dB, .byte)] [(y0, .inr (1, [.ref yk, .ref yb, .ref yo, .ref ys, .ref yl, .int v5, .int v6, .int v7, .int v8])), (yb, .inl (dB, 16, .inl (rc_b a1 a2 a3 a4)))] A t) A) ([.ref y0, .int a1, .int a2, .int a3, .int a4] : List Value).toArray s 0 0 A) (F0 m 3 ls []) := by
    intro k
    induction k with
    | zero =>
      intro i hi H locs hP hD hS ls hl
      have hi : i = 16 := by omega
      subst hi
      refine lv_iload hx hb dX1_block_3 (lv_at hl 5 rfl) ?_
      refine lv_bipush (v := 16) hx hb dX1_block_5 (by decide) ?_
      refine lv_icmp_ge (tgt := 40) hx hb dX1_block_7 (by decide) (fun _ => ?_) (fun c_ => absurd (by decide +kernel) c_)
      have hP := zz_ext hP 1 rfl (g := rc_b a1 a2 a3 a4) (fun j hj => rc_m_all _ fb j hj)
      have hD : va_D A [(y0, .inr (1, [.ref yk, .ref yb, .ref yo, .ref ys, .ref yl, .int v5, .int v6, .int v7, .int v8])), (yb, .inl (dB, 16, .inl (rc_b a1 a2 a3 a4)))] := hD.set (p := 1) rfl
      have hP9 := hP.sub (ws' := [(y0, .inr (1, [.ref yk, .ref yb, .ref yo, .ref ys, .ref yl, .int v5, .int v6, .int v7, .int v8])), (yb, .inl (dB, 16, .inl (rc_b a1 a2 a3 a4)))]) [0, 1] rfl
      have hD9 := hD.sub (ws' := [(y0, .inr (1, [.ref yk, .ref yb, .ref yo, .ref ys, .ref yl, .int v5, .int v6, .int v7, .int v8])), (yb, .inl (dB, 16, .inl (rc_b a1 a2 a3 a4)))]) [0, 1] (by decide) rfl
      have hK9 := hK.sub (tys' := [(dB, .byte)]) [0] rfl
      exact W.vret hx hb hr (fun t ht hW => ⟨⟨(), rfl, trivial, by rw [ht]; exact hP9, va_K.moved hW.alike hK9, hD9⟩, hS.F ht⟩) hS.2.2 dX1_block_40
    | succ k ih =>
      intro i hi H locs hP hD hS ls hl
      refine lv_iload hx hb dX1_block_3 (lv_at hl 5 rfl) ?_
      refine lv_bipush (v := 16) hx hb dX1_block_5 (by decide) ?_
      refine lv_icmp_ge (tgt := 40) hx hb dX1_block_7 (by decide) (fun c_ => absurd c_ (nI_ge (a := i) (b := 16) (by omega) (by omega))) (fun _ => ?_)
      refine lv_aload_n hx hb dX1_block_10 rfl (lv_at hl 0 rfl) ?_
      refine va_get (D := (dC, dI)) (ci := 1) (v := .ref yb) (C := RX1) (T := TX1) (N := 9) hx hb hts in_X1 hown hK hP 0 rfl rfl 1 (by decide) (hts _ q298) (fun _ h9 => h9) rfl dX1_block_11 ?_
      refine lv_iload hx hb dX1_block_14 (lv_at hl 5 rfl) ?_
      refine lv_iload hx hb dX1_block_16 (lv_at hl 5 rfl) ?_
      refine lv_iconst (v := 4) hx hb dX1_block_18 (by decide) ?_
      refine lv_idiv hx hb dX1_block_19 (by decide) ?_
      refine zt (nI (i / 4)) (rc_div4 i (by omega)) ?_
      refine lv_iload hx hb dX1_block_20 (lv_at hl 5 rfl) ?_
      refine lv_iconst (v := 4) hx hb dX1_block_22 (by decide) ?_
      refine lv_irem hx hb dX1_block_23 (by decide) ?_
      refine zt (nI (i % 4)) (rc_rem4 i (by omega)) ?_
      refine lv_iload_n hx hb dX1_block_24 rfl (lv_at hl 1 rfl) ?_
      refine lv_iload_n hx hb dX1_block_25 rfl (lv_at hl 2 rfl) ?_
      refine lv_iload_n hx hb dX1_block_26 rfl (lv_at hl 3 rfl) ?_
      refine lv_iload hx hb dX1_block_27 (lv_at hl 4 rfl) ?_
      refine vp_callSi (va_runS (As := [.int (nI (i / 4)), .int (nI (i % 4)), .int a1, .int a2, .int a3, .int a4]) (rest := [.int (nI i), .ref yb]) ⟨hx, hb, hml, hown, hts⟩ (met_X1_at l (i / 4) (i % 4) (by omega) (by omega) a1 a2 a3 a4) (va_cwS 6 hts (lw_S q363 q364 q14 q365) rfl rfl rfl (by decide +kernel) ⟨Nat.le_of_ble_eq_true rfl, Nat.le_of_ble_eq_true rfl⟩) ⟨fun _ _ _ _ q => q, fun _ _ _ => ⟨rfl, trivial⟩⟩ rfl rfl hl.1 rfl (lv_room (Nat.le_of_ble_eq_true rfl)) dX1_block_29 ⟨Nat.le_of_ble_eq_true rfl, Nat.le_of_ble_eq_true rfl⟩).run (fun r hr_ => ?_)
      refine lv_i2b (v := (rc_b a1 a2 a3 a4 i)) hx hb dX1_block_32 (by rw [hr_]; rfl) ?_
      refine zz_bast hx hb hK hP hD hS 1 0 rfl rfl i (rc_m (i + 1) (rc_b a1 a2 a3 a4) fb) rfl (by omega) (by omega) (rc_nar _ _) (fun j _ => rc_m_s i (rc_b a1 a2 a3 a4) fb j) dX1_block_33 (fun H locs hP hD hS => ?_)
      have hP : va_P (dC, dI) vwCl [(y0, .inr (1, [.ref yk, .ref yb, .ref yo, .ref ys, .ref yl, .int v5, .int v6, .int v7, .int v8])), (yb, .inl (dB, 16, .inl (rc_m (i + 1) (rc_b a1 a2 a3 a4) fb)))] H := hP
      have hD : va_D A [(y0, .inr (1, [.ref yk, .ref yb, .ref yo, .ref ys, .ref yl, .int v5, .int v6, .int v7, .int v8])), (yb, .inl (dB, 16, .inl (rc_m (i + 1) (rc_b a1 a2 a3 a4) fb)))] := hD
      refine lv_iinc (v := (nI (i + 1))) (lv' := [(5, .int (nI (i + 1))), (0, .ref y0), (1, .int a1), (2, .int a2), (3, .int a3), (4, .int a4)]) hx hb dX1_block_34 hl (k := 5) rfl (zi_p1 i) (by decide) rfl (fun ls hl => ?_)
      refine lv_goto (tgt := 3) hx hb dX1_block_37 (by decide) ?_
      exact ih (i + 1) (by omega) H locs hP hD hS ls (lv_sub hl [1, 2, 3, 4, 5, 0] rfl)
  refine lv_iconst (v := (nI 0)) hx hb dX1_block_0 (by decide) ?_
  refine lv_istore (lv' := [(5, .int (nI 0)), (0, .ref y0), (1, .int a1), (2, .int a2), (3, .int a3), (4, .int a4)]) hx hb dX1_block_1 hl (by decide) rfl (fun ls hl => ?_)
  have hP := zz_ext hP 1 rfl (g := rc_m 0 (rc_b a1 a2 a3 a4) fb) (fun j _ => rc_m_0 _ fb j)
  have hD : va_D A [(y0, .inr (1, [.ref yk, .ref yb, .ref yo, .ref ys, .ref yl, .int v5, .int v6, .int v7, .int v8])), (yb, .inl (dB, 16, .inl (rc_m 0 (rc_b a1 a2 a3 a4) fb)))] := hD.set (p := 1) rfl
  exact loop 16 0 rfl s.heap [] hP hD hS ls (lv_sub hl [1, 2, 3, 4, 5, 0] rfl)
set_option maxHeartbeats 4000000 in
set_option maxRecDepth 100000 in
/-- RcSixDeskModel.takes -/
theorem met_X1_takes (l : Launch) (dC : Nat → ClassId) (dI : Nat → Nat → Nat) (sz : Nat) (y0 yk yb yo ys yl : Nat) (v5 v6 v7 v8 : Int32) (dB : ClassId) (fb : Nat → Int32) : Met l yX1_takes (ws_ yX1_takes cX1_takes 1 none) ({ frames := 1, cells := 0, slots := 0, locals := 21 }) (va_Pc [.ref y0] (zw_pre (dC, dI) [(dB, .byte)] [(y0, .inr (1, [.ref yk, .ref yb, .ref yo, .ref ys, .ref yl, .int v5, .int v6, .int v7, .int v8])), (yb, .inl (dB, 16, .inl fb))] sz)) (va_Qv (fun _ => True) (fun (_ : Unit) t => zw_post (dC, dI) [(dB, .byte)] [(y0, .inr (1, [.ref yk, .ref yb, .ref yo, .ref ys, .ref yl, .int (rc_wd fb 0), .int (rc_wd fb 4), .int (rc_wd fb 8), .int (rc_wd fb 12)])), (yb, .inl (dB, 16, .inl fb))] (va_A [(y0, .inr (1, [.ref yk, .ref yb, .ref yo, .ref ys, .ref yl, .int v5, .int v6, .int v7, .int v8])), (yb, .inl (dB, 16, .inl fb))] sz) t) (va_A [(y0, .inr (1, [.ref yk, .ref yb, .ref yo, .ref ys, .ref yl, .int v5, .int v6, .int v7, .int v8])), (yb, .inl (dB, 16, .inl fb))] sz)) 0 0 (va_A [(y0, .inr (1, [.ref yk, .ref yb, .ref yo, .ref ys, .ref yl, .int v5, .int v6, .int v7, .int v8])), (yb, .inl (dB, 16, .inl fb))] sz) := by
  refine Met.ofW (cc := cX1_takes) (maxL := 1) (ret := none) (by decide) rfl ?_
  intro p e s m args below meth c s₁ B hml hv
  obtain ⟨rfl, hsz, hP, hK, hD0⟩ := hv
  have hx := B.exec
  have hb := B.bytes
  have hr := B.returns
  have hts := atoms_spec (ws := (ws_ yX1_takes cX1_takes 1 none)) B.pre
  have hts : ∀ w ∈ lw_all, w.before _ s = true := fun w h => hts w (List.mem_cons_of_mem _ h)
  have hown : s.vm.findClass RX1 = some m.cls := findClass_of_methodNamed B.named
  have hlocks := B.notSynchronized
  subst hsz
  have hD := hD0.self (sz := s.heap.size)
  generalize hAe : va_A [(y0, .inr (1, [.ref yk, .ref yb, .ref yo, .ref ys, .ref yl, .int v5, .int v6, .int v7, .int v8])), (yb, .inl (dB, 16, .inl fb))] s.heap.size = A at hD ⊢
  have hA : ∀ q : Nat, s.heap.size ≤ q → A q := fun q h => by rw [← hAe]; exact Or.inr h
  have hS : va_S A s.heap s.heap [] := va_S.rf
  have hP : va_P (dC, dI) vwCl [(y0, .inr (1, [.ref yk, .ref yb, .ref yo, .ref ys, .ref yl, .int v5, .int v6, .int v7, .int v8])), (yb, .inl (dB, 16, .inl fb))] s.heap := hP
  have hl := lv_entry ([.ref y0]) (n := 1) (Nat.le_of_ble_eq_true rfl)
  rw [lg_entry_eq]
  generalize (lg_sl ([.ref y0]) ++ List.replicate (1 - (lg_sl ([.ref y0])).length) Slot.unset).toArray = ls at hl ⊢
  have hl : lv_has ls 1 [(0, .ref y0)] := hl
  refine lv_aload_n hx hb dX1_takes_0 rfl (lv_at hl 0 rfl) ?_
  refine lv_aload_n hx hb dX1_takes_1 rfl (lv_at hl 0 rfl) ?_
  refine va_get (D := (dC, dI)) (ci := 1) (v := .ref yb) (C := RX1) (T := TX1) (N := 9) hx hb hts in_X1 hown hK hP 0 rfl rfl 1 (by decide) (hts _ q298) (fun _ h9 => h9) rfl dX1_takes_2 ?_
  refine lv_iconst (v := (nI 0)) hx hb dX1_takes_5 (by decide) ?_
  refine vp_callSi (va_runS (As := [.ref yb, .int (nI 0)]) (rest := [.ref y0]) ⟨hx, hb, hml, hown, hts⟩ (met_X1_word l dC dI yb 16 dB fb 0 (by omega) (by omega)) (va_cwS 2 hts (lw_S q336 q337 q14 q338) rfl rfl rfl (by decide +kernel) ⟨Nat.le_of_ble_eq_true rfl, Nat.le_of_ble_eq_true rfl⟩) ⟨zr_blind, zr_mk hP hK [1] [0] rfl rfl⟩ rfl rfl hl.1 rfl (lv_room (Nat.le_of_ble_eq_true rfl)) dX1_takes_6 ⟨Nat.le_of_ble_eq_true rfl, Nat.le_of_ble_eq_true rfl⟩).run (fun r0 hr0 => ?_)
  refine zt (rc_wd fb 0) hr0 ?_
  refine va_put (D := (dC, dI)) (ci := 1) (v := .int (rc_wd fb 0)) (ty := .int) (C := RX1) (T := TX1) (N := 9) hx hb hts in_X1 tyX1 tyX1_ok nmX1 hown hK hP hD hS 0 rfl rfl 5 (by decide) (hts _ q302) (fun _ h9 => h9) rfl (by decide +kernel) rfl rfl (Nat.le_of_ble_eq_true rfl) dX1_takes_9 (fun H locs hP hD hS => ?_)
  have hP : va_P (dC, dI) vwCl [(y0, .inr (1, [.ref yk, .ref yb, .ref yo, .ref ys, .ref yl, .int (rc_wd fb 0), .int v6, .int v7, .int v8])), (yb, .inl (dB, 16, .inl fb))] H := hP
  have hD : va_D A [(y0, .inr (1, [.ref yk, .ref yb, .ref yo, .ref ys, .ref yl, .int (rc_wd fb 0), .int v6, .int v7, .int v8])), (yb, .inl (dB, 16, .inl fb))] := hD
  refine lv_aload_n hx hb dX1_takes_12 rfl (lv_at hl 0 rfl) ?_
  refine lv_aload_n hx hb dX1_takes_13 rfl (lv_at hl 0 rfl) ?_
  refine va_get (D := (dC, dI)) (ci := 1) (v := .ref yb) (C := RX1) (T := TX1) (N := 9) hx hb hts in_X1 hown hK hP 0 rfl rfl 1 (by decide) (hts _ q298) (fun _ h9 => h9) rfl dX1_takes_14 ?_
  refine lv_iconst (v := (nI 1)) hx hb dX1_takes_17 (by decide) ?_
  refine vp_callSi (va_runS (As := [.ref yb, .int (nI 1)]) (rest := [.ref y0]) ⟨hx, hb, hml, hown, hts⟩ (met_X1_word l dC dI yb 16 dB fb 1 (by omega) (by omega)) (va_cwS 2 hts (lw_S q336 q337 q14 q338) rfl rfl rfl (by decide +kernel) ⟨Nat.le_of_ble_eq_true rfl, Nat.le_of_ble_eq_true rfl⟩) ⟨zr_blind, zr_mk hP hK [1] [0] rfl rfl⟩ rfl rfl hl.1 rfl (lv_room (Nat.le_of_ble_eq_true rfl)) dX1_takes_18 ⟨Nat.le_of_ble_eq_true rfl, Nat.le_of_ble_eq_true rfl⟩).run (fun r1 hr1 => ?_)
  refine zt (rc_wd fb 4) hr1 ?_
  refine va_put (D := (dC, dI)) (ci := 1) (v := .int (rc_wd fb 4)) (ty := .int) (C := RX1) (T := TX1) (N := 9) hx hb hts in_X1 tyX1 tyX1_ok nmX1 hown hK hP hD hS 0 rfl rfl 6 (by decide) (hts _ q303) (fun _ h9 => h9) rfl (by decide +kernel) rfl rfl (Nat.le_of_ble_eq_true rfl) dX1_takes_21 (fun H locs hP hD hS => ?_)
  have hP : va_P (dC, dI) vwCl [(y0, .inr (1, [.ref yk, .ref yb, .ref yo, .ref ys, .ref yl, .int (rc_wd fb 0), .int (rc_wd fb 4), .int v7, .int v8])), (yb, .inl (dB, 16, .inl fb))] H := hP
  have hD : va_D A [(y0, .inr (1, [.ref yk, .ref yb, .ref yo, .ref ys, .ref yl, .int (rc_wd fb 0), .int (rc_wd fb 4), .int v7, .int v8])), (yb, .inl (dB, 16, .inl fb))] := hD
  refine lv_aload_n hx hb dX1_takes_24 rfl (lv_at hl 0 rfl) ?_
  refine lv_aload_n hx hb dX1_takes_25 rfl (lv_at hl 0 rfl) ?_
  refine va_get (D := (dC, dI)) (ci := 1) (v := .ref yb) (C := RX1) (T := TX1) (N := 9) hx hb hts in_X1 hown hK hP 0 rfl rfl 1 (by decide) (hts _ q298) (fun _ h9 => h9) rfl dX1_takes_26 ?_
  refine lv_iconst (v := (nI 2)) hx hb dX1_takes_29 (by decide) ?_
  refine vp_callSi (va_runS (As := [.ref yb, .int (nI 2)]) (rest := [.ref y0]) ⟨hx, hb, hml, hown, hts⟩ (met_X1_word l dC dI yb 16 dB fb 2 (by omega) (by omega)) (va_cwS 2 hts (lw_S q336 q337 q14 q338) rfl rfl rfl (by decide +kernel) ⟨Nat.le_of_ble_eq_true rfl, Nat.le_of_ble_eq_true rfl⟩) ⟨zr_blind, zr_mk hP hK [1] [0] rfl rfl⟩ rfl rfl hl.1 rfl (lv_room (Nat.le_of_ble_eq_true rfl)) dX1_takes_30 ⟨Nat.le_of_ble_eq_true rfl, Nat.le_of_ble_eq_true rfl⟩).run (fun r2 hr2 => ?_)
  refine zt (rc_wd fb 8) hr2 ?_
  refine va_put (D := (dC, dI)) (ci := 1) (v := .int (rc_wd fb 8)) (ty := .int) (C := RX1) (T := TX1) (N := 9) hx hb hts in_X1 tyX1 tyX1_ok nmX1 hown hK hP hD hS 0 rfl rfl 7 (by decide) (hts _ q304) (fun _ h9 => h9) rfl (by decide +kernel) rfl rfl (Nat.le_of_ble_eq_true rfl) dX1_takes_33 (fun H locs hP hD hS => ?_)
  have hP : va_P (dC, dI) vwCl [(y0, .inr (1, [.ref yk, .ref yb, .ref yo, .ref ys, .ref yl, .int (rc_wd fb 0), .int (rc_wd fb 4), .int (rc_wd fb 8), .int v8])), (yb, .inl (dB, 16, .inl fb))] H := hP
  have hD : va_D A [(y0, .inr (1, [.ref yk, .ref yb, .ref yo, .ref ys, .ref yl, .int (rc_wd fb 0), .int (rc_wd fb 4), .int (rc_wd fb 8), .int v8])), (yb, .inl (dB, 16, .inl fb))] := hD
  refine lv_aload_n hx hb dX1_takes_36 rfl (lv_at hl 0 rfl) ?_
  refine lv_aload_n hx hb dX1_takes_37 rfl (lv_at hl 0 rfl) ?_
  refine va_get (D := (dC, dI)) (ci := 1) (v := .ref yb) (C := RX1) (T := TX1) (N := 9) hx hb hts in_X1 hown hK hP 0 rfl rfl 1 (by decide) (hts _ q298) (fun _ h9 => h9) rfl dX1_takes_38 ?_
  refine lv_iconst (v := (nI 3)) hx hb dX1_takes_41 (by decide) ?_
  refine vp_callSi (va_runS (As := [.ref yb, .int (nI 3)]) (rest := [.ref y0]) ⟨hx, hb, hml, hown, hts⟩ (met_X1_word l dC dI yb 16 dB fb 3 (by omega) (by omega)) (va_cwS 2 hts (lw_S q336 q337 q14 q338) rfl rfl rfl (by decide +kernel) ⟨Nat.le_of_ble_eq_true rfl, Nat.le_of_ble_eq_true rfl⟩) ⟨zr_blind, zr_mk hP hK [1] [0] rfl rfl⟩ rfl rfl hl.1 rfl (lv_room (Nat.le_of_ble_eq_true rfl)) dX1_takes_42 ⟨Nat.le_of_ble_eq_true rfl, Nat.le_of_ble_eq_true rfl⟩).run (fun r3 hr3 => ?_)
  refine zt (rc_wd fb 12) hr3 ?_
  refine va_put (D := (dC, dI)) (ci := 1) (v := .int (rc_wd fb 12)) (ty := .int) (C := RX1) (T := TX1) (N := 9) hx hb hts in_X1 tyX1 tyX1_ok nmX1 hown hK hP hD hS 0 rfl rfl 8 (by decide) (hts _ q305) (fun _ h9 => h9) rfl (by decide +kernel) rfl rfl (Nat.le_of_ble_eq_true rfl) dX1_takes_45 (fun H locs hP hD hS => ?_)
  have hP : va_P (dC, dI) vwCl [(y0, .inr (1, [.ref yk, .ref yb, .ref yo, .ref ys, .ref yl, .int (rc_wd fb 0), .int (rc_wd fb 4), .int (rc_wd fb 8), .int (rc_wd fb 12)])), (yb, .inl (dB, 16, .inl fb))] H := hP
  have hD : va_D A [(y0, .inr (1, [.ref yk, .ref yb, .ref yo, .ref ys, .ref yl, .int (rc_wd fb 0), .int (rc_wd fb 4), .int (rc_wd fb 8), .int (rc_wd fb 12)])), (yb, .inl (dB, 16, .inl fb))] := hD
  have hP9 := hP.sub (ws' := [(y0, .inr (1, [.ref yk, .ref yb, .ref yo, .ref ys, .ref yl, .int (rc_wd fb 0), .int (rc_wd fb 4), .int (rc_wd fb 8), .int (rc_wd fb 12)])), (yb, .inl (dB, 16, .inl fb))]) [0, 1] rfl
  have hD9 := hD.sub (ws' := [(y0, .inr (1, [.ref yk, .ref yb, .ref yo, .ref ys, .ref yl, .int (rc_wd fb 0), .int (rc_wd fb 4), .int (rc_wd fb 8), .int (rc_wd fb 12)])), (yb, .inl (dB, 16, .inl fb))]) [0, 1] (by decide) rfl
  have hK9 := hK.sub (tys' := [(dB, .byte)]) [0] rfl
  exact W.vret hx hb hr (fun t ht hW => ⟨⟨(), rfl, trivial, by rw [ht]; exact hP9, va_K.moved hW.alike hK9, hD9⟩, hS.F ht⟩) hS.2.2 dX1_takes_48
set_option maxHeartbeats 4000000 in
set_option maxRecDepth 100000 in
/-- RcSixDeskModel.gives -/
theorem met_X1_gives (l : Launch) (dC : Nat → ClassId) (dI : Nat → Nat → Nat) (sz : Nat) (y0 yk yb yo ys yl : Nat) (v5 v6 v7 v8 : Int32) (dO : ClassId) (fo : Nat → Int32) : Met l yX1_gives (ws_ yX1_gives cX1_gives 3 none) ({ frames := 0, cells := 0, slots := 0, locals := 0 }) (va_Pc [.ref y0] (zw_pre (dC, dI) [(dO, .byte)] [(y0, .inr (1, [.ref yk, .ref yb, .ref yo, .ref ys, .ref yl, .int v5, .int v6, .int v7, .int v8])), (yo, .inl (dO, 16, .inl fo))] sz)) (va_Qv (fun _ => True) (fun (_ : Unit) t => zw_post (dC, dI) [(dO, .byte)] [(y0, .inr (1, [.ref yk, .ref yb, .ref yo, .ref ys, .ref yl, .int v5, .int v6, .int v7, .int v8])), (yo, .inl (dO, 16, .inl (rc_o (v5, v6, v7, v8))))] (va_A [(y0, .inr (1, [.ref yk, .ref yb, .ref yo, .ref ys, .ref yl, .int v5, .int v6, .int v7, .int v8])), (yo, .inl (dO, 16, .inl fo))] sz) t) (va_A [(y0, .inr (1, [.ref yk, .ref yb, .ref yo, .ref ys, .ref yl, .int v5, .int v6, .int v7, .int v8])), (yo, .inl (dO, 16, .inl fo))] sz)) 0 0 (va_A [(y0, .inr (1, [.ref yk, .ref yb, .ref yo, .ref ys, .ref yl, .int v5, .int v6, .int v7, .int v8])), (yo, .inl (dO, 16, .inl fo))] sz) := by
  refine Met.ofW (cc := cX1_gives) (maxL := 3) (ret := none) (by decide) rfl ?_
  intro p e s m args below meth c s₁ B hml hv
  obtain ⟨rfl, hsz, hP, hK, hD0⟩ := hv
  have hx := B.exec
  have hb := B.bytes
  have hr := B.returns
  have hts := atoms_spec (ws := (ws_ yX1_gives cX1_gives 3 none)) B.pre
  have hts : ∀ w ∈ lw_all, w.before _ s = true := fun w h => hts w (List.mem_cons_of_mem _ h)
  have hown : s.vm.findClass RX1 = some m.cls := findClass_of_methodNamed B.named
  have hlocks := B.notSynchronized
  subst hsz
  have hD := hD0.self (sz := s.heap.size)
  generalize hAe : va_A [(y0, .inr (1, [.ref yk, .ref yb, .ref yo, .ref ys, .ref yl, .int v5, .int v6, .int v7, .int v8])), (yo, .inl (dO, 16, .inl fo))] s.heap.size = A at hD ⊢
  have hA : ∀ q : Nat, s.heap.size ≤ q → A q := fun q h => by rw [← hAe]; exact Or.inr h
  have hS : va_S A s.heap s.heap [] := va_S.rf
  have hP : va_P (dC, dI) vwCl [(y0, .inr (1, [.ref yk, .ref yb, .ref yo, .ref ys, .ref yl, .int v5, .int v6, .int v7, .int v8])), (yo, .inl (dO, 16, .inl fo))] s.heap := hP
  have hl := lv_entry ([.ref y0]) (n := 3) (Nat.le_of_ble_eq_true rfl)
  rw [lg_entry_eq]
  generalize (lg_sl ([.ref y0]) ++ List.replicate (3 - (lg_sl ([.ref y0])).length) Slot.unset).toArray = ls at hl ⊢
  have hl : lv_has ls 3 [(0, .ref y0)] := hl
  have loop : ∀ (k i : Nat), i + k = 16 → ∀ (H : Heap) (locs : List Loc), va_P (dC, dI) vwCl [(y0, .inr (1, [.ref yk, .ref yb, .ref yo, .ref ys, .ref yl, .int v5, .int v6, .int v7, .int v8])), (yo, .inl (dO, 16, .inl (rc_m i (rc_o (v5, v6, v7, v8)) fo)))] H → va_D A [(y0, .inr (1, [.ref yk, .ref yb, .ref yo, .ref ys, .ref yl, .int v5, .int v6, .int v7, .int v8])), (yo, .inl (dO, 16, .inl (rc_m i (rc_o (v5, v6, v7, v8)) fo)))] → va_S A s.heap H locs → ∀ ls : Array Slot, lv_has ls 3 [(0, .ref y0), (1, .int (nI i))] → W p l e (headSpec (ws_ yX1_gives cX1_gives 3 none) ({ frames := 0, cells := 0, slots := 0, locals := 0 })).room s m ([.ref y0] : List Value).toArray below meth c H locs 0 0 (MQ below (va_Qv (fun _ => True) (fun (_ : Unit) t => zw_post (dC, dI) [(dO, .byte)] [(y0, .inr (1, [.ref yk, .ref yb, .ref yo, .ref ys, .ref yl, .int v5, .int v6, .int v7, .int v8])), (yo, .inl (dO, 16, .inl (rc_o (v5, v6, v7, v8))))] A t) A) ([.ref y0] : List Value).toArray s 0 0 A) (F0 m 2 ls []) := by
    intro k
    induction k with
    | zero =>
      intro i hi H locs hP hD hS ls hl
      have hi : i = 16 := by omega
      subst hi
      refine lv_iload_n hx hb dX1_gives_2 rfl (lv_at hl 1 rfl) ?_
      refine lv_bipush (v := 16) hx hb dX1_gives_3 (by decide) ?_
      refine lv_icmp_ge (tgt := 72) hx hb dX1_gives_5 (by decide) (fun _ => ?_) (fun c_ => absurd (by decide +kernel) c_)
      have hP := zz_ext hP 1 rfl (g := (rc_o (v5, v6, v7, v8))) (fun j hj => rc_m_all _ fo j hj)
      have hD : va_D A [(y0, .inr (1, [.ref yk, .ref yb, .ref yo, .ref ys, .ref yl, .int v5, .int v6, .int v7, .int v8])), (yo, .inl (dO, 16, .inl (rc_o (v5, v6, v7, v8))))] := hD.set (p := 1) rfl
      have hP9 := hP.sub (ws' := [(y0, .inr (1, [.ref yk, .ref yb, .ref yo, .ref ys, .ref yl, .int v5, .int v6, .int v7, .int v8])), (yo, .inl (dO, 16, .inl (rc_o (v5, v6, v7, v8))))]) [0, 1] rfl
      have hD9 := hD.sub (ws' := [(y0, .inr (1, [.ref yk, .ref yb, .ref yo, .ref ys, .ref yl, .int v5, .int v6, .int v7, .int v8])), (yo, .inl (dO, 16, .inl (rc_o (v5, v6, v7, v8))))]) [0, 1] (by decide) rfl
      have hK9 := hK.sub (tys' := [(dO, .byte)]) [0] rfl
      exact W.vret hx hb hr (fun t ht hW => ⟨⟨(), rfl, trivial, by rw [ht]; exact hP9, va_K.moved hW.alike hK9, hD9⟩, hS.F ht⟩) hS.2.2 dX1_gives_72
    | succ k ih =>
      intro i hi H locs hP hD hS ls hl
      refine lv_iload_n hx hb dX1_gives_2 rfl (lv_at hl 1 rfl) ?_
      refine lv_bipush (v := 16) hx hb dX1_gives_3 (by decide) ?_
      refine lv_icmp_ge (tgt := 72) hx hb dX1_gives_5 (by decide) (fun c_ => absurd c_ (nI_ge (a := i) (b := 16) (by omega) (by omega))) (fun _ => ?_)
      rcases (show i / 4 = 0 ∨ i / 4 = 1 ∨ i / 4 = 2 ∨ i / 4 = 3 by omega) with h4 | h4 | h4 | h4
      · refine lv_iload_n hx hb dX1_gives_8 rfl (lv_at hl 1 rfl) ?_
        refine lv_iconst (v := 4) hx hb dX1_gives_9 (by decide) ?_
        refine lv_icmp_ge (tgt := 20) hx hb dX1_gives_10 (by decide) (fun c_ => absurd c_ (nI_ge (a := i) (b := 4) (by omega) (by omega))) (fun _ => ?_)
        refine lv_aload_n hx hb dX1_gives_13 rfl (lv_at hl 0 rfl) ?_
        refine va_get (D := (dC, dI)) (ci := 1) (v := .int v5) (C := RX1) (T := TX1) (N := 9) hx hb hts in_X1 hown hK hP 0 rfl rfl 5 (by decide) (hts _ q302) (fun _ h9 => h9) rfl dX1_gives_14 ?_
        refine lv_goto (tgt := 50) hx hb dX1_gives_17 (by decide) ?_
        refine lv_istore_n (lv' := [(2, .int v5), (0, .ref y0), (1, .int (nI i))]) hx hb dX1_gives_50 rfl hl (by decide) rfl (fun ls hl => ?_)
        refine lv_aload_n hx hb dX1_gives_51 rfl (lv_at hl 1 rfl) ?_
        refine va_get (D := (dC, dI)) (ci := 1) (v := .ref yo) (C := RX1) (T := TX1) (N := 9) hx hb hts in_X1 hown hK hP 0 rfl rfl 2 (by decide) (hts _ q299) (fun _ h9 => h9) rfl dX1_gives_52 ?_
        refine lv_iload_n hx hb dX1_gives_55 rfl (lv_at hl 2 rfl) ?_
        refine lv_iload_n hx hb dX1_gives_56 rfl (lv_at hl 0 rfl) ?_
        refine lv_bipush (v := 8) hx hb dX1_gives_57 (by decide) ?_
        refine lv_iload_n hx hb dX1_gives_59 rfl (lv_at hl 2 rfl) ?_
        refine lv_iconst (v := 4) hx hb dX1_gives_60 (by decide) ?_
        refine lv_irem hx hb dX1_gives_61 (by decide) ?_
        refine zt (nI (i % 4)) (rc_rem4 i (by omega)) ?_
        refine lv_imul hx hb dX1_gives_62 ?_
        refine zt (nI (8 * (i % 4))) (pk_mul 8 _) ?_
        refine lv_iushr (v := (rc_w v5 (i % 4))) hx hb dX1_gives_63 rfl ?_
        refine lv_i2b (v := ((rc_o (v5, v6, v7, v8)) i)) hx hb dX1_gives_64 (by unfold rc_o rc_lo; rw [h4]; rfl) ?_
        refine zz_bast hx hb hK hP hD hS 1 0 rfl rfl i (rc_m (i + 1) (rc_o (v5, v6, v7, v8)) fo) rfl (by omega) (by omega) (rc_nar _ _) (fun j _ => rc_m_s i (rc_o (v5, v6, v7, v8)) fo j) dX1_gives_65 (fun H locs hP hD hS => ?_)
        have hP : va_P (dC, dI) vwCl [(y0, .inr (1, [.ref yk, .ref yb, .ref yo, .ref ys, .ref yl, .int v5, .int v6, .int v7, .int v8])), (yo, .inl (dO, 16, .inl (rc_m (i + 1) (rc_o (v5, v6, v7, v8)) fo)))] H := hP
        have hD : va_D A [(y0, .inr (1, [.ref yk, .ref yb, .ref yo, .ref ys, .ref yl, .int v5, .int v6, .int v7, .int v8])), (yo, .inl (dO, 16, .inl (rc_m (i + 1) (rc_o (v5, v6, v7, v8)) fo)))] := hD
        refine lv_iinc (v := (nI (i + 1))) (lv' := [(1, .int (nI (i + 1))), (2, .int v5), (0, .ref y0)]) hx hb dX1_gives_66 hl (k := 2) rfl (zi_p1 i) (by decide) rfl (fun ls hl => ?_)
        refine lv_goto (tgt := 2) hx hb dX1_gives_69 (by decide) ?_
        exact ih (i + 1) (by omega) H locs hP hD hS ls (lv_sub hl [2, 0] rfl)
      · refine lv_iload_n hx hb dX1_gives_8 rfl (lv_at hl 1 rfl) ?_
        refine lv_iconst (v := 4) hx hb dX1_gives_9 (by decide) ?_
        refine lv_icmp_ge (tgt := 20) hx hb dX1_gives_10 (by decide) (fun _ => ?_) (fun c_ => absurd (nI_le (a := 4) (b := i) (by omega) (by omega)) c_)
        refine lv_iload_n hx hb dX1_gives_20 rfl (lv_at hl 1 rfl) ?_
        refine lv_bipush (v := 8) hx hb dX1_gives_21 (by decide) ?_
        refine lv_icmp_ge (tgt := 33) hx hb dX1_gives_23 (by decide) (fun c_ => absurd c_ (nI_ge (a := i) (b := 8) (by omega) (by omega))) (fun _ => ?_)
        refine lv_aload_n hx hb dX1_gives_26 rfl (lv_at hl 0 rfl) ?_
        refine va_get (D := (dC, dI)) (ci := 1) (v := .int v6) (C := RX1) (T := TX1) (N := 9) hx hb hts in_X1 hown hK hP 0 rfl rfl 6 (by decide) (hts _ q303) (fun _ h9 => h9) rfl dX1_gives_27 ?_
        refine lv_goto (tgt := 50) hx hb dX1_gives_30 (by decide) ?_
        refine lv_istore_n (lv' := [(2, .int v6), (0, .ref y0), (1, .int (nI i))]) hx hb dX1_gives_50 rfl hl (by decide) rfl (fun ls hl => ?_)
        refine lv_aload_n hx hb dX1_gives_51 rfl (lv_at hl 1 rfl) ?_
        refine va_get (D := (dC, dI)) (ci := 1) (v := .ref yo) (C := RX1) (T := TX1) (N := 9) hx hb hts in_X1 hown hK hP 0 rfl rfl 2 (by decide) (hts _ q299) (fun _ h9 => h9) rfl dX1_gives_52 ?_
        refine lv_iload_n hx hb dX1_gives_55 rfl (lv_at hl 2 rfl) ?_
        refine lv_iload_n hx hb dX1_gives_56 rfl (lv_at hl 0 rfl) ?_
        refine lv_bipush (v := 8) hx hb dX1_gives_57 (by decide) ?_
        refine lv_iload_n hx hb dX1_gives_59 rfl (lv_at hl 2 rfl) ?_
        refine lv_iconst (v := 4) hx hb dX1_gives_60 (by decide) ?_
        refine lv_irem hx hb dX1_gives_61 (by decide) ?_
        refine zt (nI (i % 4)) (rc_rem4 i (by omega)) ?_
        refine lv_imul hx hb dX1_gives_62 ?_
        refine zt (nI (8 * (i % 4))) (pk_mul 8 _) ?_
        refine lv_iushr (v := (rc_w v6 (i % 4))) hx hb dX1_gives_63 rfl ?_
        refine lv_i2b (v := ((rc_o (v5, v6, v7, v8)) i)) hx hb dX1_gives_64 (by unfold rc_o rc_lo; rw [h4]; rfl) ?_
        refine zz_bast hx hb hK hP hD hS 1 0 rfl rfl i (rc_m (i + 1) (rc_o (v5, v6, v7, v8)) fo) rfl (by omega) (by omega) (rc_nar _ _) (fun j _ => rc_m_s i (rc_o (v5, v6, v7, v8)) fo j) dX1_gives_65 (fun H locs hP hD hS => ?_)
        have hP : va_P (dC, dI) vwCl [(y0, .inr (1, [.ref yk, .ref yb, .ref yo, .ref ys, .ref yl, .int v5, .int v6, .int v7, .int v8])), (yo, .inl (dO, 16, .inl (rc_m (i + 1) (rc_o (v5, v6, v7, v8)) fo)))] H := hP
        have hD : va_D A [(y0, .inr (1, [.ref yk, .ref yb, .ref yo, .ref ys, .ref yl, .int v5, .int v6, .int v7, .int v8])), (yo, .inl (dO, 16, .inl (rc_m (i + 1) (rc_o (v5, v6, v7, v8)) fo)))] := hD
        refine lv_iinc (v := (nI (i + 1))) (lv' := [(1, .int (nI (i + 1))), (2, .int v6), (0, .ref y0)]) hx hb dX1_gives_66 hl (k := 2) rfl (zi_p1 i) (by decide) rfl (fun ls hl => ?_)
        refine lv_goto (tgt := 2) hx hb dX1_gives_69 (by decide) ?_
        exact ih (i + 1) (by omega) H locs hP hD hS ls (lv_sub hl [2, 0] rfl)
      · refine lv_iload_n hx hb dX1_gives_8 rfl (lv_at hl 1 rfl) ?_
        refine lv_iconst (v := 4) hx hb dX1_gives_9 (by decide) ?_
        refine lv_icmp_ge (tgt := 20) hx hb dX1_gives_10 (by decide) (fun _ => ?_) (fun c_ => absurd (nI_le (a := 4) (b := i) (by omega) (by omega)) c_)
        refine lv_iload_n hx hb dX1_gives_20 rfl (lv_at hl 1 rfl) ?_
        refine lv_bipush (v := 8) hx hb dX1_gives_21 (by decide) ?_
        refine lv_icmp_ge (tgt := 33) hx hb dX1_gives_23 (by decide) (fun _ => ?_) (fun c_ => absurd (nI_le (a := 8) (b := i) (by omega) (by omega)) c_)
        refine lv_iload_n hx hb dX1_gives_33 rfl (lv_at hl 1 rfl) ?_
        refine lv_bipush (v := 12) hx hb dX1_gives_34 (by decide) ?_
        refine lv_icmp_ge (tgt := 46) hx hb dX1_gives_36 (by decide) (fun c_ => absurd c_ (nI_ge (a := i) (b := 12) (by omega) (by omega))) (fun _ => ?_)
        refine lv_aload_n hx hb dX1_gives_39 rfl (lv_at hl 0 rfl) ?_
        refine va_get (D := (dC, dI)) (ci := 1) (v := .int v7) (C := RX1) (T := TX1) (N := 9) hx hb hts in_X1 hown hK hP 0 rfl rfl 7 (by decide) (hts _ q304) (fun _ h9 => h9) rfl dX1_gives_40 ?_
        refine lv_goto (tgt := 50) hx hb dX1_gives_43 (by decide) ?_
        refine lv_istore_n (lv' := [(2, .int v7), (0, .ref y0), (1, .int (nI i))]) hx hb dX1_gives_50 rfl hl (by decide) rfl (fun ls hl => ?_)
        refine lv_aload_n hx hb dX1_gives_51 rfl (lv_at hl 1 rfl) ?_
        refine va_get (D := (dC, dI)) (ci := 1) (v := .ref yo) (C := RX1) (T := TX1) (N := 9) hx hb hts in_X1 hown hK hP 0 rfl rfl 2 (by decide) (hts _ q299) (fun _ h9 => h9) rfl dX1_gives_52 ?_
        refine lv_iload_n hx hb dX1_gives_55 rfl (lv_at hl 2 rfl) ?_
        refine lv_iload_n hx hb dX1_gives_56 rfl (lv_at hl 0 rfl) ?_
        refine lv_bipush (v := 8) hx hb dX1_gives_57 (by decide) ?_
        refine lv_iload_n hx hb dX1_gives_59 rfl (lv_at hl 2 rfl) ?_
        refine lv_iconst (v := 4) hx hb dX1_gives_60 (by decide) ?_
        refine lv_irem hx hb dX1_gives_61 (by decide) ?_
        refine zt (nI (i % 4)) (rc_rem4 i (by omega)) ?_
        refine lv_imul hx hb dX1_gives_62 ?_
        refine zt (nI (8 * (i % 4))) (pk_mul 8 _) ?_
        refine lv_iushr (v := (rc_w v7 (i % 4))) hx hb dX1_gives_63 rfl ?_
        refine lv_i2b (v := ((rc_o (v5, v6, v7, v8)) i)) hx hb dX1_gives_64 (by unfold rc_o rc_lo; rw [h4]; rfl) ?_
        refine zz_bast hx hb hK hP hD hS 1 0 rfl rfl i (rc_m (i + 1) (rc_o (v5, v6, v7, v8)) fo) rfl (by omega) (by omega) (rc_nar _ _) (fun j _ => rc_m_s i (rc_o (v5, v6, v7, v8)) fo j) dX1_gives_65 (fun H locs hP hD hS => ?_)
        have hP : va_P (dC, dI) vwCl [(y0, .inr (1, [.ref yk, .ref yb, .ref yo, .ref ys, .ref yl, .int v5, .int v6, .int v7, .int v8])), (yo, .inl (dO, 16, .inl (rc_m (i + 1) (rc_o (v5, v6, v7, v8)) fo)))] H := hP
        have hD : va_D A [(y0, .inr (1, [.ref yk, .ref yb, .ref yo, .ref ys, .ref yl, .int v5, .int v6, .int v7, .int v8])), (yo, .inl (dO, 16, .inl (rc_m (i + 1) (rc_o (v5, v6, v7, v8)) fo)))] := hD
        refine lv_iinc (v := (nI (i + 1))) (lv' := [(1, .int (nI (i + 1))), (2, .int v7), (0, .ref y0)]) hx hb dX1_gives_66 hl (k := 2) rfl (zi_p1 i) (by decide) rfl (fun ls hl => ?_)
        refine lv_goto (tgt := 2) hx hb dX1_gives_69 (by decide) ?_
        exact ih (i + 1) (by omega) H locs hP hD hS ls (lv_sub hl [2, 0] rfl)
      · refine lv_iload_n hx hb dX1_gives_8 rfl (lv_at hl 1 rfl) ?_
        refine lv_iconst (v := 4) hx hb dX1_gives_9 (by decide) ?_
        refine lv_icmp_ge (tgt := 20) hx hb dX1_gives_10 (by decide) (fun _ => ?_) (fun c_ => absurd (nI_le (a := 4) (b := i) (by omega) (by omega)) c_)
        refine lv_iload_n hx hb dX1_gives_20 rfl (lv_at hl 1 rfl) ?_
        refine lv_bipush (v := 8) hx hb dX1_gives_21 (by decide) ?_
        refine lv_icmp_ge (tgt := 33) hx hb dX1_gives_23 (by decide) (fun _ => ?_) (fun c_ => absurd (nI_le (a := 8) (b := i) (by omega) (by omega)) c_)
        refine lv_iload_n hx hb dX1_gives_33 rfl (lv_at hl 1 rfl) ?_
        refine lv_bipush (v := 12) hx hb dX1_gives_34 (by decide) ?_
        refine lv_icmp_ge (tgt := 46) hx hb dX1_gives_36 (by decide) (fun _ => ?_) (fun c_ => absurd (nI_le (a := 12) (b := i) (by omega) (by omega)) c_)
        refine lv_aload_n hx hb dX1_gives_46 rfl (lv_at hl 0 rfl) ?_
        refine va_get (D := (dC, dI)) (ci := 1) (v := .int v8) (C := RX1) (T := TX1) (N := 9) hx hb hts in_X1 hown hK hP 0 rfl rfl 8 (by decide) (hts _ q305) (fun _ h9 => h9) rfl dX1_gives_47 ?_
        refine lv_istore_n (lv' := [(2, .int v8), (0, .ref y0), (1, .int (nI i))]) hx hb dX1_gives_50 rfl hl (by decide) rfl (fun ls hl => ?_)
        refine lv_aload_n hx hb dX1_gives_51 rfl (lv_at hl 1 rfl) ?_
        refine va_get (D := (dC, dI)) (ci := 1) (v := .ref yo) (C := RX1) (T := TX1) (N := 9) hx hb hts in_X1 hown hK hP 0 rfl rfl 2 (by decide) (hts _ q299) (fun _ h9 => h9) rfl dX1_gives_52 ?_
        refine lv_iload_n hx hb dX1_gives_55 rfl (lv_at hl 2 rfl) ?_
        refine lv_iload_n hx hb dX1_gives_56 rfl (lv_at hl 0 rfl) ?_
        refine lv_bipush (v := 8) hx hb dX1_gives_57 (by decide) ?_
        refine lv_iload_n hx hb dX1_gives_59 rfl (lv_at hl 2 rfl) ?_
        refine lv_iconst (v := 4) hx hb dX1_gives_60 (by decide) ?_
        refine lv_irem hx hb dX1_gives_61 (by decide) ?_
        refine zt (nI (i % 4)) (rc_rem4 i (by omega)) ?_
        refine lv_imul hx hb dX1_gives_62 ?_
        refine zt (nI (8 * (i % 4))) (pk_mul 8 _) ?_
        refine lv_iushr (v := (rc_w v8 (i % 4))) hx hb dX1_gives_63 rfl ?_
        refine lv_i2b (v := ((rc_o (v5, v6, v7, v8)) i)) hx hb dX1_gives_64 (by unfold rc_o rc_lo; rw [h4]; rfl) ?_
        refine zz_bast hx hb hK hP hD hS 1 0 rfl rfl i (rc_m (i + 1) (rc_o (v5, v6, v7, v8)) fo) rfl (by omega) (by omega) (rc_nar _ _) (fun j _ => rc_m_s i (rc_o (v5, v6, v7, v8)) fo j) dX1_gives_65 (fun H locs hP hD hS => ?_)
        have hP : va_P (dC, dI) vwCl [(y0, .inr (1, [.ref yk, .ref yb, .ref yo, .ref ys, .ref yl, .int v5, .int v6, .int v7, .int v8])), (yo, .inl (dO, 16, .inl (rc_m (i + 1) (rc_o (v5, v6, v7, v8)) fo)))] H := hP
        have hD : va_D A [(y0, .inr (1, [.ref yk, .ref yb, .ref yo, .ref ys, .ref yl, .int v5, .int v6, .int v7, .int v8])), (yo, .inl (dO, 16, .inl (rc_m (i + 1) (rc_o (v5, v6, v7, v8)) fo)))] := hD
        refine lv_iinc (v := (nI (i + 1))) (lv' := [(1, .int (nI (i + 1))), (2, .int v8), (0, .ref y0)]) hx hb dX1_gives_66 hl (k := 2) rfl (zi_p1 i) (by decide) rfl (fun ls hl => ?_)
        refine lv_goto (tgt := 2) hx hb dX1_gives_69 (by decide) ?_
        exact ih (i + 1) (by omega) H locs hP hD hS ls (lv_sub hl [2, 0] rfl)
  refine lv_iconst (v := (nI 0)) hx hb dX1_gives_0 (by decide) ?_
  refine lv_istore_n (lv' := [(1, .int (nI 0)), (0, .ref y0)]) hx hb dX1_gives_1 rfl hl (by decide) rfl (fun ls hl => ?_)
  have hP := zz_ext hP 1 rfl (g := rc_m 0 (rc_o (v5, v6, v7, v8)) fo) (fun j _ => rc_m_0 _ fo j)
  have hD : va_D A [(y0, .inr (1, [.ref yk, .ref yb, .ref yo, .ref ys, .ref yl, .int v5, .int v6, .int v7, .int v8])), (yo, .inl (dO, 16, .inl (rc_m 0 (rc_o (v5, v6, v7, v8)) fo)))] := hD.set (p := 1) rfl
  exact loop 16 0 rfl s.heap [] hP hD hS ls (lv_sub hl [1, 0] rfl)
end
section
/-! PURE, more: the engine's key loops -/
theorem rc_nx (k n : Nat) (h : 0 < n) (hn : n < 1000) (hk : k < 1000) : (nI (k % n) + 1) - (nI (k % n) + 1) / nI n * nI n = nI ((k + 1) % n) := by
  have h1 : k % n < n := Nat.mod_lt k h
  rw [nI_1, pk_rem (by omega) h (by omega), Nat.mod_add_mod]
theorem rc_remn (k n : Nat) (h : 0 < n) (hn : n < 1000) (hk : k < 1000) : nI k - nI k / nI n * nI n = nI (k % n) := pk_rem (by omega) h (by omega)
/-- the key's words while they are gathered from the top: the bytes from i on are in -/
def rc_lp (f : Nat → Int32) (i : Nat) : Nat → Int32 := fun q => rc_pw f (4 * q) (min 4 (4 * q + 4 - i))
theorem rc_lp_s (f : Nat → Int32) (i j : Nat) : upd (rc_lp f (i + 1)) (i / 4) ((rc_lp f (i + 1) (i / 4) <<< ((8 : Int32) &&& 31)) + (f i &&& 255)) j = rc_lp f i j := by
  unfold upd
  by_cases h : j = i / 4
  · subst h
    rw [if_pos rfl]
    unfold rc_lp
    rw [show min 4 (4 * (i / 4) + 4 - (i + 1)) = 3 - i % 4 by omega, show min 4 (4 * (i / 4) + 4 - i) = (3 - i % 4) + 1 by omega]
    show _ = (rc_pw f (4 * (i / 4)) (3 - i % 4) <<< ((8 : Int32) &&& 31)) + (f (4 * (i / 4) + (3 - (3 - i % 4))) &&& 255)
    rw [show 4 * (i / 4) + (3 - (3 - i % 4)) = i by omega]
  · rw [if_neg h]
    unfold rc_lp
    rw [show min 4 (4 * j + 4 - (i + 1)) = min 4 (4 * j + 4 - i) by omega]
theorem rc_lp_n (f : Nat → Int32) (n j : Nat) (h : j < n) : (0 : Int32) = rc_lp f (4 * n) j := by
  unfold rc_lp
  rw [show min 4 (4 * j + 4 - 4 * n) = 0 by omega]
  rfl
theorem rc_lp_0 (f : Nat → Int32) (j : Nat) : rc_lp f 0 j = rc_wd f (4 * j) := by
  unfold rc_lp
  rw [show min 4 (4 * j + 4 - 0) = 4 by omega]
  exact rc_pw4 f (4 * j)
theorem rc_m_1 (f : Nat → Int32) (j : Nat) : upd f 0 (-1209970333) j = rc_m (0 + 1) rc_S0 f j := by
  unfold upd rc_m
  by_cases h : j = 0
  · subst h
    rw [if_pos rfl, if_pos (by omega)]
    rfl
  · rw [if_neg h, if_neg (by omega)]
theorem rc_cpy (f g : Nat → Int32) (n j : Nat) (hn : n < 1000) (h : j < n) : va_cpy f g (nI 0).toNatClampNeg (nI 0).toNatClampNeg (nI n).toNatClampNeg j = f j := by
  rw [show (nI 0).toNatClampNeg = 0 from by decide +kernel, nI_clamp (by omega)]
  exact sb_cpy0 h
end
section
/-! THE ENGINE: made, and its key (printed by wip/gen/g13.py) -/
set_option maxHeartbeats 4000000 in
set_option maxRecDepth 100000 in
/-- RC6Engine() -/
theorem met_X2_init (l : Launch) (dC : Nat → ClassId) (dI : Nat → Nat → Nat) (sz : Nat) (h0 : Nat) : Met l yX2_init (ws_ yX2_init cX2_init 1 none) ({ frames := 1, cells := 0, slots := 0, locals := 12 }) (va_Pc [.ref h0] (zw_pre (dC, dI) [] [(h0, .inr (2, [.null, .int 0]))] sz)) (va_Qv (fun _ => True) (fun (_ : Unit) t => zw_post (dC, dI) [] [(h0, .inr (2, [.null, .int 0]))] (va_A [(h0, .inr (2, [.null, .int 0]))] sz) t) (va_A [(h0, .inr (2, [.null, .int 0]))] sz)) 0 0 (va_A [(h0, .inr (2, [.null, .int 0]))] sz) := by
  refine Met.ofW (cc := cX2_init) (maxL := 1) (ret := none) (by decide) rfl ?_
  intro p e s m args below meth c s₁ B hml hv
  obtain ⟨rfl, hsz, hP, hK, hD0⟩ := hv
  have hx := B.exec
  have hb := B.bytes
  have hr := B.returns
  have hts := atoms_spec (ws := (ws_ yX2_init cX2_init 1 none)) B.pre
  have hts : ∀ w ∈ lw_all, w.before _ s = true := fun w h => hts w (List.mem_cons_of_mem _ h)
  have hown : s.vm.findClass RX2 = some m.cls := findClass_of_methodNamed B.named
  have hlocks := B.notSynchronized
  have hin : meth.name = "<init>" := (name_of_methodNamed B.named B.method).1
  subst hsz
  have hD := hD0.self (sz := s.heap.size)
  generalize hAe : va_A [(h0, .inr (2, [.null, .int 0]))] s.heap.size = A at hD ⊢
  have hA : ∀ q : Nat, s.heap.size ≤ q → A q := fun q h => by rw [← hAe]; exact Or.inr h
  have hS : va_S A s.heap s.heap [] := va_S.rf
  have hP : va_P (dC, dI) vwCl [(h0, .inr (2, [.null, .int 0]))] s.heap := hP
  have hl := lv_entry ([.ref h0]) (n := 1) (Nat.le_of_ble_eq_true rfl)
  rw [lg_entry_eq]
  generalize (lg_sl ([.ref h0]) ++ List.replicate (1 - (lg_sl ([.ref h0])).length) Slot.unset).toArray = ls at hl ⊢
  have hl : lv_has ls 1 [(0, .ref h0)] := hl
  refine lv_aload_n hx hb dX2_init_0 rfl (lv_at hl 0 rfl) ?_
  refine W.objInit hx hb hown (hts _ q72) (hts _ q32) (hts _ q33) rfl (by rw [hml]; exact hl.1) rfl dX2_init_1 (Nat.le_of_ble_eq_true rfl) (Nat.le_of_ble_eq_true rfl) ?_
  refine W.eq (g2 := F0 m 4 ls []) rfl ?_
  refine lv_aload_n hx hb dX2_init_4 rfl (lv_at hl 0 rfl) ?_
  refine lv_null hx hb dX2_init_5 ?_
  refine va_put (D := (dC, dI)) (ci := 2) (v := .null) (ty := .array .int) (C := RX2) (T := TX2) (N := 2) hx hb hts in_X2 tyX2 tyX2_ok nmX2 hown hK hP hD hS 0 rfl rfl 0 (by decide) (hts _ q73) (fun _ h9 => h9) rfl (by decide +kernel) rfl rfl (Nat.le_of_ble_eq_true rfl) dX2_init_6 (fun H locs hP hD hS => ?_)
  have hP : va_P (dC, dI) vwCl [(h0, .inr (2, [.null, .int 0]))] H := hP
  have hD : va_D A [(h0, .inr (2, [.null, .int 0]))] := hD
  have hP9 := hP.sub (ws' := [(h0, .inr (2, [.null, .int 0]))]) [0] rfl
  have hD9 := hD.sub (ws' := [(h0, .inr (2, [.null, .int 0]))]) [0] (by decide) rfl
  have hK9 := hK.sub (tys' := []) [] rfl
  exact W.vret hx hb hr (fun t ht hW => ⟨⟨(), rfl, trivial, by rw [ht]; exact hP9, va_K.moved hW.alike hK9, hD9⟩, hS.F ht⟩) hS.2.2 dX2_init_9
set_option maxHeartbeats 4000000 in
set_option maxRecDepth 100000 in
/-- RC6Engine.setKey(key) -/
theorem met_X2_setKey (l : Launch) (dC : Nat → ClassId) (dI : Nat → Nat → Nat) (sz : Nat) (h0 hk nw : Nat) (dB : ClassId) (f : Nat → Int32) (z : Int32) (hw : nw = 4 ∨ nw = 6 ∨ nw = 8) : Met l yX2_setKey (ws_ yX2_setKey cX2_setKey 10 none) ({ frames := 1, cells := 2, slots := 52, locals := 22 }) (va_Pc [.ref h0, .ref hk] (zw_pre (dC, dI) [(dB, .byte)] [(h0, .inr (2, [.null, .int z])), (hk, .inl (dB, 4 * nw, .inl f))] sz)) (va_Qv (fun _ => True) (fun (u : Nat × ClassId) t => zw_post (dC, dI) [(dB, .byte), (u.2, .int)] [(h0, .inr (2, [.ref u.1, .int z])), (hk, .inl (dB, 4 * nw, .inl f)), (u.1, .inl (u.2, 44, .inl (rc_S nw f)))] (va_A [(h0, .inr (2, [.null, .int z])), (hk, .inl (dB, 4 * nw, .inl f))] sz) t) (va_A [(h0, .inr (2, [.null, .int z])), (hk, .inl (dB, 4 * nw, .inl f))] sz)) 2 52 (va_A [(h0, .inr (2, [.null, .int z])), (hk, .inl (dB, 4 * nw, .inl f))] sz) := by
  refine Met.ofW (cc := cX2_setKey) (maxL := 10) (ret := none) (by decide) rfl ?_
  intro p e s m args below meth c s₁ B hml hv
  obtain ⟨rfl, hsz, hP, hK, hD0⟩ := hv
  have hx := B.exec
  have hb := B.bytes
  have hr := B.returns
  have hts := atoms_spec (ws := (ws_ yX2_setKey cX2_setKey 10 none)) B.pre
  have hts : ∀ w ∈ lw_all, w.before _ s = true := fun w h => hts w (List.mem_cons_of_mem _ h)
  have hown : s.vm.findClass RX2 = some m.cls := findClass_of_methodNamed B.named
  have hlocks := B.notSynchronized
  subst hsz
  have hD := hD0.self (sz := s.heap.size)
  generalize hAe : va_A [(h0, .inr (2, [.null, .int z])), (hk, .inl (dB, 4 * nw, .inl f))] s.heap.size = A at hD ⊢
  have hA : ∀ q : Nat, s.heap.size ≤ q → A q := fun q h => by rw [← hAe]; exact Or.inr h
  have hS : va_S A s.heap s.heap [] := va_S.rf
  have hP : va_P (dC, dI) vwCl [(h0, .inr (2, [.null, .int z])), (hk, .inl (dB, 4 * nw, .inl f))] s.heap := hP
  have hl := lv_entry ([.ref h0, .ref hk]) (n := 10) (Nat.le_of_ble_eq_true rfl)
  rw [lg_entry_eq]
  generalize (lg_sl ([.ref h0, .ref hk]) ++ List.replicate (10 - (lg_sl ([.ref h0, .ref hk])).length) Slot.unset).toArray = ls at hl ⊢
  have hl : lv_has ls 10 [(0, .ref h0), (1, .ref hk)] := hl
  refine lv_aload_n hx hb dX2_setKey_0 rfl (lv_at hl 1 rfl) ?_
  refine va_alen (v := nI (4 * nw)) hx hb hK hP 1 0 rfl rfl rfl dX2_setKey_1 ?_
  refine lv_iconst (v := 3) hx hb dX2_setKey_2 (by decide) ?_
  refine lv_iadd hx hb dX2_setKey_3 ?_
  refine zt (nI (4 * nw + 3)) (nI_add _ 3) ?_
  refine lv_iconst (v := 4) hx hb dX2_setKey_4 (by decide) ?_
  refine lv_idiv hx hb dX2_setKey_5 (by decide) ?_
  refine zt (nI nw) ((rc_div4 (4 * nw + 3) (by omega)).trans (congrArg nI (by omega))) ?_
  refine lv_istore_n (lv' := [(2, .int (nI nw)), (0, .ref h0), (1, .ref hk)]) hx hb dX2_setKey_6 rfl hl (by decide) rfl (fun ls hl => ?_)
  refine lv_iload_n hx hb dX2_setKey_7 rfl (lv_at hl 0 rfl) ?_
  refine lv_if_ne (tgt := 13) hx hb dX2_setKey_8 (by decide) (fun _ => ?_) (fun c_ => absurd c_ (nI_ne0 (by omega) (by omega)))
  refine lv_aload_n hx hb dX2_setKey_13 rfl (lv_at hl 2 rfl) ?_
  refine va_alen (v := nI (4 * nw)) hx hb hK hP 1 0 rfl rfl rfl dX2_setKey_14 ?_
  refine lv_iconst (v := 4) hx hb dX2_setKey_15 (by decide) ?_
  refine lv_iadd hx hb dX2_setKey_16 ?_
  refine zt (nI (4 * nw + 4)) (nI_add _ 4) ?_
  refine lv_iconst (v := 1) hx hb dX2_setKey_17 (by decide) ?_
  refine lv_isub hx hb dX2_setKey_18 ?_
  refine zt (nI (4 * nw + 3)) (nI_pred (4 * nw + 3)) ?_
  refine lv_iconst (v := 4) hx hb dX2_setKey_19 (by decide) ?_
  refine lv_idiv hx hb dX2_setKey_20 (by decide) ?_
  refine zt (nI nw) ((rc_div4 (4 * nw + 3) (by omega)).trans (congrArg nI (by omega))) ?_
  refine zz_newi hx hb (hts _ q221) hK hP hD hS hA nw rfl (by omega) (Nat.le_of_ble_eq_true rfl) (by show 0 + nw ≤ 52; omega) dX2_setKey_21 (fun lq dL H hK hP hD hS => ?_)
  have hP : va_P (dC, dI) vwCl [(h0, .inr (2, [.null, .int z])), (hk, .inl (dB, 4 * nw, .inl f)), (lq, .inl (dL, nw, .inl (fun _ => 0)))] H := hP
  have hD : va_D A [(h0, .inr (2, [.null, .int z])), (hk, .inl (dB, 4 * nw, .inl f)), (lq, .inl (dL, nw, .inl (fun _ => 0)))] := hD
  have hK : va_K (dC, dI) vwCl [(dB, .byte), (dL, .int)] s := hK
  refine W.widen (k := 1) (n := 8) (Nat.le_of_ble_eq_true rfl) (by omega) ?_
  refine lv_astore_n (lv' := [(3, .ref lq), (2, .int (nI nw)), (0, .ref h0), (1, .ref hk)]) hx hb dX2_setKey_23 rfl hl (by decide) rfl (fun ls hl => ?_)
  refine lv_aload_n hx hb dX2_setKey_24 rfl (lv_at hl 3 rfl) ?_
  refine va_alen (v := nI (4 * nw)) hx hb hK hP 1 0 rfl rfl rfl dX2_setKey_25 ?_
  refine lv_iconst (v := 1) hx hb dX2_setKey_26 (by decide) ?_
  refine lv_isub hx hb dX2_setKey_27 ?_
  refine lv_istore (lv' := [(4, .int ((nI (4 * nw)) - 1)), (3, .ref lq), (2, .int (nI nw)), (0, .ref h0), (1, .ref hk)]) hx hb dX2_setKey_28 hl (by decide) rfl (fun ls hl => ?_)
  have loop3 : ∀ (sq : Nat) (dS : ClassId), va_K (dC, dI) vwCl [(dB, .byte), (dL, .int), (dS, .int)] s → ∀ (r k : Nat), k + r = 132 → ∀ (S1 L1 : Nat → Int32) (A1 B1 : Int32), (S1, L1, A1, B1) = rc_ks nw (fun q => rc_wd f (4 * q)) k → ∀ (H : Heap) (locs : List Loc), va_P (dC, dI) vwCl [(h0, .inr (2, [.ref sq, .int z])), (hk, .inl (dB, 4 * nw, .inl f)), (lq, .inl (dL, nw, .inl L1)), (sq, .inl (dS, 44, .inl S1))] H → va_D A [(h0, .inr (2, [.ref sq, .int z])), (hk, .inl (dB, 4 * nw, .inl f)), (lq, .inl (dL, nw, .inl L1)), (sq, .inl (dS, 44, .inl S1))] → va_S A s.heap H locs → ∀ ls : Array Slot, lv_has ls 10 [(0, .ref h0), (3, .ref lq), (4, .int (nI 132)), (5, .int A1), (6, .int B1), (7, .int (nI (k % 44))), (8, .int (nI (k % nw))), (9, .int (nI k))] → W p l e (headSpec (ws_ yX2_setKey cX2_setKey 10 none) ({ frames := 1, cells := 2, slots := 52, locals := 22 })).room s m ([.ref h0, .ref hk] : List Value).toArray below meth c H locs 2 52 (MQ below (va_Qv (fun _ => True) (fun (u : Nat × ClassId) t => zw_post (dC, dI) [(dB, .byte), (u.2, .int)] [(h0, .inr (2, [.ref u.1, .int z])), (hk, .inl (dB, 4 * nw, .inl f)), (u.1, .inl (u.2, 44, .inl (rc_S nw f)))] A t) A) ([.ref h0, .ref hk] : List Value).toArray s 2 52 A) (F0 m 162 ls []) := by
    intro sq dS hK r
    induction r with
    | zero =>
      intro k hk1 S1 L1 A1 B1 hz H locs hP hD hS ls hl
      have hk1 : k = 132 := by omega
      subst hk1
      refine lv_iload hx hb dX2_setKey_162 (lv_at hl 7 rfl) ?_
      refine lv_iload hx hb dX2_setKey_164 (lv_at hl 2 rfl) ?_
      refine lv_icmp_ge (tgt := 250) hx hb dX2_setKey_166 (by decide) (fun _ => ?_) (fun c_ => absurd (by decide +kernel) c_)
      have hP := zz_ext hP 3 rfl (g := rc_S nw f) (fun j _ => by show S1 j = (rc_ks nw (fun q => rc_wd f (4 * q)) 132).1 j; rw [← hz])
      have hD : va_D A [(h0, .inr (2, [.ref sq, .int z])), (hk, .inl (dB, 4 * nw, .inl f)), (lq, .inl (dL, nw, .inl L1)), (sq, .inl (dS, 44, .inl (rc_S nw f)))] := hD.set (p := 3) rfl
      have hP9 := hP.sub (ws' := [(h0, .inr (2, [.ref sq, .int z])), (hk, .inl (dB, 4 * nw, .inl f)), (sq, .inl (dS, 44, .inl (rc_S nw f)))]) [0, 1, 3] rfl
      have hD9 := hD.sub (ws' := [(h0, .inr (2, [.ref sq, .int z])), (hk, .inl (dB, 4 * nw, .inl f)), (sq, .inl (dS, 44, .inl (rc_S nw f)))]) [0, 1, 3] (by decide) rfl
      have hK9 := hK.sub (tys' := [(dB, .byte), (dS, .int)]) [0, 2] rfl
      exact W.vret hx hb hr (fun t ht hW => ⟨⟨(sq, dS), rfl, trivial, by rw [ht]; exact hP9, va_K.moved hW.alike hK9, hD9⟩, hS.F ht⟩) hS.2.2 dX2_setKey_250
    | succ r ih =>
      intro k hk1 S1 L1 A1 B1 hz H locs hP hD hS ls hl
      have hm1 : k % 44 < 44 := Nat.mod_lt k (by omega)
      have hm2 : k % nw < nw := Nat.mod_lt k (by omega)
      refine lv_iload hx hb dX2_setKey_162 (lv_at hl 7 rfl) ?_
      refine lv_iload hx hb dX2_setKey_164 (lv_at hl 2 rfl) ?_
      refine lv_icmp_ge (tgt := 250) hx hb dX2_setKey_166 (by decide) (fun c_ => absurd c_ (nI_ge (a := k) (b := 132) (by omega) (by omega))) (fun _ => ?_)
      refine lv_aload_n hx hb dX2_setKey_169 rfl (lv_at hl 0 rfl) ?_
      refine va_get (D := (dC, dI)) (ci := 2) (v := .ref sq) (C := RX2) (T := TX2) (N := 2) hx hb hts in_X2 hown hK hP 0 rfl rfl 0 (by decide) (hts _ q73) (fun _ h9 => h9) rfl dX2_setKey_170 ?_
      refine lv_iload hx hb dX2_setKey_173 (lv_at hl 5 rfl) ?_
      refine lv_aload_n hx hb dX2_setKey_175 rfl (lv_at hl 0 rfl) ?_
      refine lv_aload_n hx hb dX2_setKey_176 rfl (lv_at hl 0 rfl) ?_
      refine va_get (D := (dC, dI)) (ci := 2) (v := .ref sq) (C := RX2) (T := TX2) (N := 2) hx hb hts in_X2 hown hK hP 0 rfl rfl 0 (by decide) (hts _ q73) (fun _ h9 => h9) rfl dX2_setKey_177 ?_
      refine lv_iload hx hb dX2_setKey_180 (lv_at hl 5 rfl) ?_
      refine zz_iald hx hb hK hP 3 2 rfl rfl (k % 44) rfl (by omega) (by omega) dX2_setKey_182 ?_
      refine lv_iload hx hb dX2_setKey_183 (lv_at hl 3 rfl) ?_
      refine lv_iadd hx hb dX2_setKey_185 ?_
      refine lv_iload hx hb dX2_setKey_186 (lv_at hl 4 rfl) ?_
      refine lv_iadd hx hb dX2_setKey_188 ?_
      refine lv_iconst (v := 3) hx hb dX2_setKey_189 (by decide) ?_
      refine vp_callSi (va_runV (As := [.int (((S1 (k % 44)) + A1) + B1), .int 3]) (rest := [.int (nI (k % 44)), .ref sq]) ⟨hx, hb, hml, hown, hts⟩ (met_X2_rotateLeft l h0 (S1 (k % 44) + A1 + B1) 3) (cwV 2 hts (lw_V q188 q190 qs3 q15 q191) rfl rfl rfl (by decide +kernel) ⟨Nat.le_of_ble_eq_true rfl, Nat.le_of_ble_eq_true rfl⟩) ⟨fun _ _ _ _ q => q, va_recv hK hP (ci := 2) (q0 := 0) rfl rfl, fun _ _ _ => ⟨rfl, trivial⟩⟩ rfl rfl hl.1 rfl (lv_room (Nat.le_of_ble_eq_true rfl)) dX2_setKey_190 ⟨Nat.le_of_ble_eq_true rfl, Nat.le_of_ble_eq_true rfl⟩).run (fun ra hra => ?_)
      refine zt (rc_L (S1 (k % 44) + A1 + B1) 3) hra ?_
      refine lv_dup_x2 hx hb dX2_setKey_193 rfl rfl rfl ?_
      refine zz_iast hx hb hK hP hD hS 3 2 rfl rfl (k % 44) (upd S1 (k % 44) (rc_L (S1 (k % 44) + A1 + B1) 3)) rfl (by omega) (by omega) (fun _ _ => rfl) dX2_setKey_194 (fun H locs hP hD hS => ?_)
      have hP : va_P (dC, dI) vwCl [(h0, .inr (2, [.ref sq, .int z])), (hk, .inl (dB, 4 * nw, .inl f)), (lq, .inl (dL, nw, .inl L1)), (sq, .inl (dS, 44, .inl (upd S1 (k % 44) (rc_L (S1 (k % 44) + A1 + B1) 3))))] H := hP
      have hD : va_D A [(h0, .inr (2, [.ref sq, .int z])), (hk, .inl (dB, 4 * nw, .inl f)), (lq, .inl (dL, nw, .inl L1)), (sq, .inl (dS, 44, .inl (upd S1 (k % 44) (rc_L (S1 (k % 44) + A1 + B1) 3))))] := hD
      refine lv_istore (lv' := [(5, .int (rc_L (S1 (k % 44) + A1 + B1) 3)), (0, .ref h0), (3, .ref lq), (4, .int (nI 132)), (6, .int B1), (7, .int (nI (k % 44))), (8, .int (nI (k % nw))), (9, .int (nI k))]) hx hb dX2_setKey_195 hl (by decide) rfl (fun ls hl => ?_)
      refine lv_aload_n hx hb dX2_setKey_197 rfl (lv_at hl 2 rfl) ?_
      refine lv_iload hx hb dX2_setKey_198 (lv_at hl 6 rfl) ?_
      refine lv_aload_n hx hb dX2_setKey_200 rfl (lv_at hl 1 rfl) ?_
      refine lv_aload_n hx hb dX2_setKey_201 rfl (lv_at hl 2 rfl) ?_
      refine lv_iload hx hb dX2_setKey_202 (lv_at hl 6 rfl) ?_
      refine zz_iald hx hb hK hP 2 1 rfl rfl (k % nw) rfl (by omega) (by omega) dX2_setKey_204 ?_
      refine lv_iload hx hb dX2_setKey_205 (lv_at hl 0 rfl) ?_
      refine lv_iadd hx hb dX2_setKey_207 ?_
      refine lv_iload hx hb dX2_setKey_208 (lv_at hl 4 rfl) ?_
      refine lv_iadd hx hb dX2_setKey_210 ?_
      refine lv_iload hx hb dX2_setKey_211 (lv_at hl 0 rfl) ?_
      refine lv_iload hx hb dX2_setKey_213 (lv_at hl 4 rfl) ?_
      refine lv_iadd hx hb dX2_setKey_215 ?_
      refine vp_callSi (va_runV (As := [.int (((L1 (k % nw)) + (rc_L (S1 (k % 44) + A1 + B1) 3)) + B1), .int ((rc_L (S1 (k % 44) + A1 + B1) 3) + B1)]) (rest := [.int (nI (k % nw)), .ref lq]) ⟨hx, hb, hml, hown, hts⟩ (met_X2_rotateLeft l h0 (L1 (k % nw) + (rc_L (S1 (k % 44) + A1 + B1) 3) + B1) ((rc_L (S1 (k % 44) + A1 + B1) 3) + B1)) (cwV 2 hts (lw_V q188 q190 qs3 q15 q191) rfl rfl rfl (by decide +kernel) ⟨Nat.le_of_ble_eq_true rfl, Nat.le_of_ble_eq_true rfl⟩) ⟨fun _ _ _ _ q => q, va_recv hK hP (ci := 2) (q0 := 0) rfl rfl, fun _ _ _ => ⟨rfl, trivial⟩⟩ rfl rfl hl.1 rfl (lv_room (Nat.le_of_ble_eq_true rfl)) dX2_setKey_216 ⟨Nat.le_of_ble_eq_true rfl, Nat.le_of_ble_eq_true rfl⟩).run (fun rb hrb => ?_)
      refine zt (rc_L (L1 (k % nw) + (rc_L (S1 (k % 44) + A1 + B1) 3) + B1) ((rc_L (S1 (k % 44) + A1 + B1) 3) + B1)) hrb ?_
      refine lv_dup_x2 hx hb dX2_setKey_219 rfl rfl rfl ?_
      refine zz_iast hx hb hK hP hD hS 2 1 rfl rfl (k % nw) (upd L1 (k % nw) (rc_L (L1 (k % nw) + (rc_L (S1 (k % 44) + A1 + B1) 3) + B1) ((rc_L (S1 (k % 44) + A1 + B1) 3) + B1))) rfl (by omega) (by omega) (fun _ _ => rfl) dX2_setKey_220 (fun H locs hP hD hS => ?_)
      have hP : va_P (dC, dI) vwCl [(h0, .inr (2, [.ref sq, .int z])), (hk, .inl (dB, 4 * nw, .inl f)), (lq, .inl (dL, nw, .inl (upd L1 (k % nw) (rc_L (L1 (k % nw) + (rc_L (S1 (k % 44) + A1 + B1) 3) + B1) ((rc_L (S1 (k % 44) + A1 + B1) 3) + B1))))), (sq, .inl (dS, 44, .inl (upd S1 (k % 44) (rc_L (S1 (k % 44) + A1 + B1) 3))))] H := hP
      have hD : va_D A [(h0, .inr (2, [.ref sq, .int z])), (hk, .inl (dB, 4 * nw, .inl f)), (lq, .inl (dL, nw, .inl (upd L1 (k % nw) (rc_L (L1 (k % nw) + (rc_L (S1 (k % 44) + A1 + B1) 3) + B1) ((rc_L (S1 (k % 44) + A1 + B1) 3) + B1))))), (sq, .inl (dS, 44, .inl (upd S1 (k % 44) (rc_L (S1 (k % 44) + A1 + B1) 3))))] := hD
      refine lv_istore (lv' := [(6, .int (rc_L (L1 (k % nw) + (rc_L (S1 (k % 44) + A1 + B1) 3) + B1) ((rc_L (S1 (k % 44) + A1 + B1) 3) + B1))), (5, .int (rc_L (S1 (k % 44) + A1 + B1) 3)), (0, .ref h0), (3, .ref lq), (4, .int (nI 132)), (7, .int (nI (k % 44))), (8, .int (nI (k % nw))), (9, .int (nI k))]) hx hb dX2_setKey_221 hl (by decide) rfl (fun ls hl => ?_)
      refine lv_iload hx hb dX2_setKey_223 (lv_at hl 5 rfl) ?_
      refine lv_iconst (v := 1) hx hb dX2_setKey_225 (by decide) ?_
      refine lv_iadd hx hb dX2_setKey_226 ?_
      refine lv_aload_n hx hb dX2_setKey_227 rfl (lv_at hl 2 rfl) ?_
      refine va_get (D := (dC, dI)) (ci := 2) (v := .ref sq) (C := RX2) (T := TX2) (N := 2) hx hb hts in_X2 hown hK hP 0 rfl rfl 0 (by decide) (hts _ q73) (fun _ h9 => h9) rfl dX2_setKey_228 ?_
      refine va_alen (v := nI 44) hx hb hK hP 3 2 rfl rfl rfl dX2_setKey_231 ?_
      refine lv_irem hx hb dX2_setKey_232 (by decide +kernel) ?_
      refine zt (nI ((k + 1) % 44)) (rc_nx k 44 (by omega) (by omega) (by omega)) ?_
      refine lv_istore (lv' := [(7, .int (nI ((k + 1) % 44))), (6, .int (rc_L (L1 (k % nw) + (rc_L (S1 (k % 44) + A1 + B1) 3) + B1) ((rc_L (S1 (k % 44) + A1 + B1) 3) + B1))), (5, .int (rc_L (S1 (k % 44) + A1 + B1) 3)), (0, .ref h0), (3, .ref lq), (4, .int (nI 132)), (8, .int (nI (k % nw))), (9, .int (nI k))]) hx hb dX2_setKey_233 hl (by decide) rfl (fun ls hl => ?_)
      refine lv_iload hx hb dX2_setKey_235 (lv_at hl 6 rfl) ?_
      refine lv_iconst (v := 1) hx hb dX2_setKey_237 (by decide) ?_
      refine lv_iadd hx hb dX2_setKey_238 ?_
      refine lv_aload_n hx hb dX2_setKey_239 rfl (lv_at hl 4 rfl) ?_
      refine va_alen (v := nI nw) hx hb hK hP 2 1 rfl rfl rfl dX2_setKey_240 ?_
      refine lv_irem hx hb dX2_setKey_241 (nI_ne0 (by omega) (by omega)) ?_
      refine zt (nI ((k + 1) % nw)) (rc_nx k nw (by omega) (by omega) (by omega)) ?_
      refine lv_istore (lv' := [(8, .int (nI ((k + 1) % nw))), (7, .int (nI ((k + 1) % 44))), (6, .int (rc_L (L1 (k % nw) + (rc_L (S1 (k % 44) + A1 + B1) 3) + B1) ((rc_L (S1 (k % 44) + A1 + B1) 3) + B1))), (5, .int (rc_L (S1 (k % 44) + A1 + B1) 3)), (0, .ref h0), (3, .ref lq), (4, .int (nI 132)), (9, .int (nI k))]) hx hb dX2_setKey_242 hl (by decide) rfl (fun ls hl => ?_)
      refine lv_iinc (v := (nI (k + 1))) (lv' := [(9, .int (nI (k + 1))), (8, .int (nI ((k + 1) % nw))), (7, .int (nI ((k + 1) % 44))), (6, .int (rc_L (L1 (k % nw) + (rc_L (S1 (k % 44) + A1 + B1) 3) + B1) ((rc_L (S1 (k % 44) + A1 + B1) 3) + B1))), (5, .int (rc_L (S1 (k % 44) + A1 + B1) 3)), (0, .ref h0), (3, .ref lq), (4, .int (nI 132))]) hx hb dX2_setKey_244 hl (k := 7) rfl (zi_p1 k) (by decide) rfl (fun ls hl => ?_)
      refine lv_goto (tgt := 162) hx hb dX2_setKey_247 (by decide) ?_
      exact ih (k + 1) (by omega) _ _ _ _ (by rw [rc_ks, ← hz]) H locs (hP.sub [0, 1, 2, 3] rfl) (hD.sub [0, 1, 2, 3] (by decide) rfl) hS ls (lv_sub hl [5, 6, 7, 4, 3, 2, 1, 0] rfl)
  have loop2 : ∀ (sq : Nat) (dS : ClassId), va_K (dC, dI) vwCl [(dB, .byte), (dL, .int), (dS, .int)] s → ∀ (r i : Nat), i + r = 43 → ∀ (H : Heap) (locs : List Loc), va_P (dC, dI) vwCl [(h0, .inr (2, [.ref sq, .int z])), (hk, .inl (dB, 4 * nw, .inl f)), (lq, .inl (dL, nw, .inl (fun q => rc_wd f (4 * q)))), (sq, .inl (dS, 44, .inl (rc_m (i + 1) rc_S0 (fun _ => 0))))] H → va_D A [(h0, .inr (2, [.ref sq, .int z])), (hk, .inl (dB, 4 * nw, .inl f)), (lq, .inl (dL, nw, .inl (fun q => rc_wd f (4 * q)))), (sq, .inl (dS, 44, .inl (rc_m (i + 1) rc_S0 (fun _ => 0))))] → va_S A s.heap H locs → ∀ ls : Array Slot, lv_has ls 10 [(0, .ref h0), (3, .ref lq), (4, .int (nI (i + 1)))] → W p l e (headSpec (ws_ yX2_setKey cX2_setKey 10 none) ({ frames := 1, cells := 2, slots := 52, locals := 22 })).room s m ([.ref h0, .ref hk] : List Value).toArray below meth c H locs 2 52 (MQ below (va_Qv (fun _ => True) (fun (u : Nat × ClassId) t => zw_post (dC, dI) [(dB, .byte), (u.2, .int)] [(h0, .inr (2, [.ref u.1, .int z])), (hk, .inl (dB, 4 * nw, .inl f)), (u.1, .inl (u.2, 44, .inl (rc_S nw f)))] A t) A) ([.ref h0, .ref hk] : List Value).toArray s 2 52 A) (F0 m 84 ls []) := by
    intro sq dS hK r
    induction r with
    | zero =>
      intro i hi H locs hP hD hS ls hl
      have hi : i = 43 := by omega
      subst hi
      refine lv_iload hx hb dX2_setKey_84 (lv_at hl 2 rfl) ?_
      refine lv_aload_n hx hb dX2_setKey_86 rfl (lv_at hl 0 rfl) ?_
      refine va_get (D := (dC, dI)) (ci := 2) (v := .ref sq) (C := RX2) (T := TX2) (N := 2) hx hb hts in_X2 hown hK hP 0 rfl rfl 0 (by decide) (hts _ q73) (fun _ h9 => h9) rfl dX2_setKey_87 ?_
      refine va_alen (v := nI 44) hx hb hK hP 3 2 rfl rfl rfl dX2_setKey_90 ?_
      refine lv_icmp_ge (tgt := 119) hx hb dX2_setKey_91 (by decide) (fun _ => ?_) (fun c_ => absurd (by decide +kernel) c_)
      have hP := zz_ext hP 3 rfl (g := rc_S0) (fun j hj => rc_m_all rc_S0 _ j hj)
      have hD : va_D A [(h0, .inr (2, [.ref sq, .int z])), (hk, .inl (dB, 4 * nw, .inl f)), (lq, .inl (dL, nw, .inl (fun q => rc_wd f (4 * q)))), (sq, .inl (dS, 44, .inl rc_S0))] := hD.set (p := 3) rfl
      refine lv_aload_n hx hb dX2_setKey_119 rfl (lv_at hl 1 rfl) ?_
      refine va_alen (v := nI nw) hx hb hK hP 2 1 rfl rfl rfl dX2_setKey_120 ?_
      refine lv_aload_n hx hb dX2_setKey_121 rfl (lv_at hl 0 rfl) ?_
      refine va_get (D := (dC, dI)) (ci := 2) (v := .ref sq) (C := RX2) (T := TX2) (N := 2) hx hb hts in_X2 hown hK hP 0 rfl rfl 0 (by decide) (hts _ q73) (fun _ h9 => h9) rfl dX2_setKey_122 ?_
      refine va_alen (v := nI 44) hx hb hK hP 3 2 rfl rfl rfl dX2_setKey_125 ?_
      refine lv_icmp_le (tgt := 138) hx hb dX2_setKey_126 (by decide) (fun _ => ?_) (fun c_ => absurd (nI_le (a := nw) (b := 44) (by omega) (by omega)) c_)
      refine lv_iconst (v := 3) hx hb dX2_setKey_138 (by decide) ?_
      refine lv_aload_n hx hb dX2_setKey_139 rfl (lv_at hl 0 rfl) ?_
      refine va_get (D := (dC, dI)) (ci := 2) (v := .ref sq) (C := RX2) (T := TX2) (N := 2) hx hb hts in_X2 hown hK hP 0 rfl rfl 0 (by decide) (hts _ q73) (fun _ h9 => h9) rfl dX2_setKey_140 ?_
      refine va_alen (v := nI 44) hx hb hK hP 3 2 rfl rfl rfl dX2_setKey_143 ?_
      refine lv_imul hx hb dX2_setKey_144 ?_
      refine zt (nI 132) (by decide +kernel) ?_
      refine lv_istore (lv' := [(4, .int (nI 132)), (0, .ref h0), (3, .ref lq)]) hx hb dX2_setKey_145 hl (by decide) rfl (fun ls hl => ?_)
      refine lv_iconst (v := 0) hx hb dX2_setKey_147 (by decide) ?_
      refine lv_istore (lv' := [(5, .int 0), (4, .int (nI 132)), (0, .ref h0), (3, .ref lq)]) hx hb dX2_setKey_148 hl (by decide) rfl (fun ls hl => ?_)
      refine lv_iconst (v := 0) hx hb dX2_setKey_150 (by decide) ?_
      refine lv_istore (lv' := [(6, .int 0), (5, .int 0), (4, .int (nI 132)), (0, .ref h0), (3, .ref lq)]) hx hb dX2_setKey_151 hl (by decide) rfl (fun ls hl => ?_)
      refine lv_iconst (v := (nI 0)) hx hb dX2_setKey_153 (by decide) ?_
      refine lv_istore (lv' := [(7, .int (nI 0)), (6, .int 0), (5, .int 0), (4, .int (nI 132)), (0, .ref h0), (3, .ref lq)]) hx hb dX2_setKey_154 hl (by decide) rfl (fun ls hl => ?_)
      refine lv_iconst (v := (nI 0)) hx hb dX2_setKey_156 (by decide) ?_
      refine zt (nI (0 % nw)) (by rw [Nat.zero_mod]) ?_
      refine lv_istore (lv' := [(8, .int (nI (0 % nw))), (7, .int (nI 0)), (6, .int 0), (5, .int 0), (4, .int (nI 132)), (0, .ref h0), (3, .ref lq)]) hx hb dX2_setKey_157 hl (by decide) rfl (fun ls hl => ?_)
      refine lv_iconst (v := (nI 0)) hx hb dX2_setKey_159 (by decide) ?_
      refine lv_istore (lv' := [(9, .int (nI 0)), (8, .int (nI (0 % nw))), (7, .int (nI 0)), (6, .int 0), (5, .int 0), (4, .int (nI 132)), (0, .ref h0), (3, .ref lq)]) hx hb dX2_setKey_160 hl (by decide) rfl (fun ls hl => ?_)
      exact loop3 sq dS hK 132 0 rfl rc_S0 (fun q => rc_wd f (4 * q)) 0 0 rfl H locs hP hD hS ls (lv_sub hl [6, 7, 5, 4, 3, 2, 1, 0] rfl)
    | succ r ih =>
      intro i hi H locs hP hD hS ls hl
      refine lv_iload hx hb dX2_setKey_84 (lv_at hl 2 rfl) ?_
      refine lv_aload_n hx hb dX2_setKey_86 rfl (lv_at hl 0 rfl) ?_
      refine va_get (D := (dC, dI)) (ci := 2) (v := .ref sq) (C := RX2) (T := TX2) (N := 2) hx hb hts in_X2 hown hK hP 0 rfl rfl 0 (by decide) (hts _ q73) (fun _ h9 => h9) rfl dX2_setKey_87 ?_
      refine va_alen (v := nI 44) hx hb hK hP 3 2 rfl rfl rfl dX2_setKey_90 ?_
      refine lv_icmp_ge (tgt := 119) hx hb dX2_setKey_91 (by decide) (fun c_ => absurd c_ (nI_ge (a := i + 1) (b := 44) (by omega) (by omega))) (fun _ => ?_)
      refine lv_aload_n hx hb dX2_setKey_94 rfl (lv_at hl 0 rfl) ?_
      refine va_get (D := (dC, dI)) (ci := 2) (v := .ref sq) (C := RX2) (T := TX2) (N := 2) hx hb hts in_X2 hown hK hP 0 rfl rfl 0 (by decide) (hts _ q73) (fun _ h9 => h9) rfl dX2_setKey_95 ?_
      refine lv_iload hx hb dX2_setKey_98 (lv_at hl 2 rfl) ?_
      refine lv_aload_n hx hb dX2_setKey_100 rfl (lv_at hl 0 rfl) ?_
      refine va_get (D := (dC, dI)) (ci := 2) (v := .ref sq) (C := RX2) (T := TX2) (N := 2) hx hb hts in_X2 hown hK hP 0 rfl rfl 0 (by decide) (hts _ q73) (fun _ h9 => h9) rfl dX2_setKey_101 ?_
      refine lv_iload hx hb dX2_setKey_104 (lv_at hl 2 rfl) ?_
      refine lv_iconst (v := 1) hx hb dX2_setKey_106 (by decide) ?_
      refine lv_isub hx hb dX2_setKey_107 ?_
      refine zt (nI i) (nI_pred i) ?_
      refine zz_iald hx hb hK hP 3 2 rfl rfl i rfl (by omega) (by omega) dX2_setKey_108 ?_
      refine zt (rc_S0 i) (rc_m_all rc_S0 _ i (by omega)) ?_
      refine lv_ldc (v := (-1640531527)) hx hb hown (hts _ q187) dX2_setKey_109 ?_
      refine lv_iadd hx hb dX2_setKey_111 ?_
      refine zt (rc_S0 (i + 1)) rfl ?_
      refine zz_iast hx hb hK hP hD hS 3 2 rfl rfl (i + 1) (rc_m (i + 1 + 1) rc_S0 (fun _ => 0)) rfl (by omega) (by omega) (fun j _ => rc_m_s (i + 1) rc_S0 _ j) dX2_setKey_112 (fun H locs hP hD hS => ?_)
      have hP : va_P (dC, dI) vwCl [(h0, .inr (2, [.ref sq, .int z])), (hk, .inl (dB, 4 * nw, .inl f)), (lq, .inl (dL, nw, .inl (fun q => rc_wd f (4 * q)))), (sq, .inl (dS, 44, .inl (rc_m (i + 1 + 1) rc_S0 (fun _ => 0))))] H := hP
      have hD : va_D A [(h0, .inr (2, [.ref sq, .int z])), (hk, .inl (dB, 4 * nw, .inl f)), (lq, .inl (dL, nw, .inl (fun q => rc_wd f (4 * q)))), (sq, .inl (dS, 44, .inl (rc_m (i + 1 + 1) rc_S0 (fun _ => 0))))] := hD
      refine lv_iinc (v := (nI (i + 1 + 1))) (lv' := [(4, .int (nI (i + 1 + 1))), (0, .ref h0), (3, .ref lq)]) hx hb dX2_setKey_113 hl (k := 2) rfl (zi_p1 (i + 1)) (by decide) rfl (fun ls hl => ?_)
      refine lv_goto (tgt := 84) hx hb dX2_setKey_116 (by decide) ?_
      exact ih (i + 1) (by omega) H locs hP hD hS ls (lv_sub hl [1, 2, 0] rfl)
  have loop1 : ∀ (i : Nat), i ≤ 4 * nw → ∀ (x4 : Int32), x4 = nI i - 1 → ∀ (H : Heap) (locs : List Loc), va_P (dC, dI) vwCl [(h0, .inr (2, [.null, .int z])), (hk, .inl (dB, 4 * nw, .inl f)), (lq, .inl (dL, nw, .inl (rc_lp f i)))] H → va_D A [(h0, .inr (2, [.null, .int z])), (hk, .inl (dB, 4 * nw, .inl f)), (lq, .inl (dL, nw, .inl (rc_lp f i)))] → va_S A s.heap H locs → ∀ ls : Array Slot, lv_has ls 10 [(0, .ref h0), (1, .ref hk), (3, .ref lq), (4, .int x4)] → W p l e (headSpec (ws_ yX2_setKey cX2_setKey 10 none) ({ frames := 1, cells := 2, slots := 52, locals := 22 })).room s m ([.ref h0, .ref hk] : List Value).toArray below meth c H locs 1 8 (MQ below (va_Qv (fun _ => True) (fun (u : Nat × ClassId) t => zw_post (dC, dI) [(dB, .byte), (u.2, .int)] [(h0, .inr (2, [.ref u.1, .int z])), (hk, .inl (dB, 4 * nw, .inl f)), (u.1, .inl (u.2, 44, .inl (rc_S nw f)))] A t) A) ([.ref h0, .ref hk] : List Value).toArray s 2 52 A) (F0 m 30 ls []) := by
    intro i
    induction i with
    | zero =>
      intro _ x4 ex H locs hP hD hS ls hl
      refine lv_iload hx hb dX2_setKey_30 (lv_at hl 3 rfl) ?_
      refine lv_if_lt (tgt := 65) hx hb dX2_setKey_32 (by decide) (fun _ => ?_) (fun c_ => absurd (by rw [ex]; decide +kernel) c_)
      have hP := zz_ext hP 2 rfl (g := (fun q => rc_wd f (4 * q))) (fun j _ => rc_lp_0 f j)
      have hD : va_D A [(h0, .inr (2, [.null, .int z])), (hk, .inl (dB, 4 * nw, .inl f)), (lq, .inl (dL, nw, .inl (fun q => rc_wd f (4 * q))))] := hD.set (p := 2) rfl
      refine lv_aload_n hx hb dX2_setKey_65 rfl (lv_at hl 0 rfl) ?_
      refine lv_bipush (v := (nI 44)) hx hb dX2_setKey_66 (by decide) ?_
      refine zz_newi hx hb (hts _ q221) hK hP hD hS hA 44 rfl (by omega) (Nat.le_of_ble_eq_true rfl) (Nat.le_of_ble_eq_true rfl) dX2_setKey_68 (fun sq dS H hK hP hD hS => ?_)
      have hP : va_P (dC, dI) vwCl [(h0, .inr (2, [.null, .int z])), (hk, .inl (dB, 4 * nw, .inl f)), (lq, .inl (dL, nw, .inl (fun q => rc_wd f (4 * q)))), (sq, .inl (dS, 44, .inl (fun _ => 0)))] H := hP
      have hD : va_D A [(h0, .inr (2, [.null, .int z])), (hk, .inl (dB, 4 * nw, .inl f)), (lq, .inl (dL, nw, .inl (fun q => rc_wd f (4 * q)))), (sq, .inl (dS, 44, .inl (fun _ => 0)))] := hD
      have hK : va_K (dC, dI) vwCl [(dB, .byte), (dL, .int), (dS, .int)] s := hK
      refine W.widen (k := 2) (n := 52) (Nat.le_of_ble_eq_true rfl) (Nat.le_of_ble_eq_true rfl) ?_
      refine va_put (D := (dC, dI)) (ci := 2) (v := .ref sq) (ty := .array .int) (C := RX2) (T := TX2) (N := 2) hx hb hts in_X2 tyX2 tyX2_ok nmX2 hown hK hP hD hS 0 rfl rfl 0 (by decide) (hts _ q73) (fun _ h9 => h9) rfl (by decide +kernel) rfl rfl (Nat.le_of_ble_eq_true rfl) dX2_setKey_70 (fun H locs hP hD hS => ?_)
      have hP : va_P (dC, dI) vwCl [(h0, .inr (2, [.ref sq, .int z])), (hk, .inl (dB, 4 * nw, .inl f)), (lq, .inl (dL, nw, .inl (fun q => rc_wd f (4 * q)))), (sq, .inl (dS, 44, .inl (fun _ => 0)))] H := hP
      have hD : va_D A [(h0, .inr (2, [.ref sq, .int z])), (hk, .inl (dB, 4 * nw, .inl f)), (lq, .inl (dL, nw, .inl (fun q => rc_wd f (4 * q)))), (sq, .inl (dS, 44, .inl (fun _ => 0)))] := hD
      refine lv_aload_n hx hb dX2_setKey_73 rfl (lv_at hl 0 rfl) ?_
      refine va_get (D := (dC, dI)) (ci := 2) (v := .ref sq) (C := RX2) (T := TX2) (N := 2) hx hb hts in_X2 hown hK hP 0 rfl rfl 0 (by decide) (hts _ q73) (fun _ h9 => h9) rfl dX2_setKey_74 ?_
      refine lv_iconst (v := (nI 0)) hx hb dX2_setKey_77 (by decide) ?_
      refine lv_ldc (v := (-1209970333)) hx hb hown (hts _ q186) dX2_setKey_78 ?_
      refine zz_iast hx hb hK hP hD hS 3 2 rfl rfl 0 (rc_m (0 + 1) rc_S0 (fun _ => 0)) rfl (by omega) (by omega) (fun j _ => rc_m_1 _ j) dX2_setKey_80 (fun H locs hP hD hS => ?_)
      have hP : va_P (dC, dI) vwCl [(h0, .inr (2, [.ref sq, .int z])), (hk, .inl (dB, 4 * nw, .inl f)), (lq, .inl (dL, nw, .inl (fun q => rc_wd f (4 * q)))), (sq, .inl (dS, 44, .inl (rc_m (0 + 1) rc_S0 (fun _ => 0))))] H := hP
      have hD : va_D A [(h0, .inr (2, [.ref sq, .int z])), (hk, .inl (dB, 4 * nw, .inl f)), (lq, .inl (dL, nw, .inl (fun q => rc_wd f (4 * q)))), (sq, .inl (dS, 44, .inl (rc_m (0 + 1) rc_S0 (fun _ => 0))))] := hD
      refine lv_iconst (v := (nI (0 + 1))) hx hb dX2_setKey_81 (by decide) ?_
      refine lv_istore (lv' := [(4, .int (nI (0 + 1))), (0, .ref h0), (1, .ref hk), (3, .ref lq)]) hx hb dX2_setKey_82 hl (by decide) rfl (fun ls hl => ?_)
      exact loop2 sq dS hK 43 0 rfl H locs (hP.sub [0, 1, 2, 3] rfl) (hD.sub [0, 1, 2, 3] (by decide) rfl) hS ls (lv_sub hl [1, 3, 0] rfl)
    | succ i ih =>
      intro hi x4 ex H locs hP hD hS ls hl
      have ex : x4 = nI i := by rw [ex]; exact nI_pred i
      subst ex
      refine lv_iload hx hb dX2_setKey_30 (lv_at hl 3 rfl) ?_
      refine lv_if_lt (tgt := 65) hx hb dX2_setKey_32 (by decide) (fun c_ => absurd c_ (nI_pos (by omega))) (fun _ => ?_)
      refine lv_aload_n hx hb dX2_setKey_35 rfl (lv_at hl 2 rfl) ?_
      refine lv_iload hx hb dX2_setKey_36 (lv_at hl 3 rfl) ?_
      refine lv_iconst (v := 4) hx hb dX2_setKey_38 (by decide) ?_
      refine lv_idiv hx hb dX2_setKey_39 (by decide) ?_
      refine zt (nI (i / 4)) (rc_div4 i (by omega)) ?_
      refine lv_aload_n hx hb dX2_setKey_40 rfl (lv_at hl 2 rfl) ?_
      refine lv_iload hx hb dX2_setKey_41 (lv_at hl 3 rfl) ?_
      refine lv_iconst (v := 4) hx hb dX2_setKey_43 (by decide) ?_
      refine lv_idiv hx hb dX2_setKey_44 (by decide) ?_
      refine zt (nI (i / 4)) (rc_div4 i (by omega)) ?_
      refine zz_iald hx hb hK hP 2 1 rfl rfl (i / 4) rfl (by omega) (by omega) dX2_setKey_45 ?_
      refine lv_bipush (v := 8) hx hb dX2_setKey_46 (by decide) ?_
      refine lv_ishl hx hb dX2_setKey_48 ?_
      refine lv_aload_n hx hb dX2_setKey_49 rfl (lv_at hl 1 rfl) ?_
      refine lv_iload hx hb dX2_setKey_50 (lv_at hl 3 rfl) ?_
      refine zz_bald hx hb hK hP 1 0 rfl rfl i rfl (by omega) (by omega) dX2_setKey_52 ?_
      refine lv_sipush (v := 255) hx hb dX2_setKey_53 (by decide) ?_
      refine lv_iand hx hb dX2_setKey_56 ?_
      refine lv_iadd hx hb dX2_setKey_57 ?_
      refine zz_iast hx hb hK hP hD hS 2 1 rfl rfl (i / 4) (rc_lp f i) rfl (by omega) (by omega) (fun j _ => rc_lp_s f i j) dX2_setKey_58 (fun H locs hP hD hS => ?_)
      have hP : va_P (dC, dI) vwCl [(h0, .inr (2, [.null, .int z])), (hk, .inl (dB, 4 * nw, .inl f)), (lq, .inl (dL, nw, .inl (rc_lp f i)))] H := hP
      have hD : va_D A [(h0, .inr (2, [.null, .int z])), (hk, .inl (dB, 4 * nw, .inl f)), (lq, .inl (dL, nw, .inl (rc_lp f i)))] := hD
      refine lv_iinc (v := (nI i - 1)) (lv' := [(4, .int (nI i - 1)), (0, .ref h0), (1, .ref hk), (3, .ref lq)]) hx hb dX2_setKey_59 hl (k := 3) rfl (zi_m _) (by decide) rfl (fun ls hl => ?_)
      refine lv_goto (tgt := 30) hx hb dX2_setKey_62 (by decide) ?_
      exact ih (by omega) _ rfl H locs hP hD hS ls (lv_sub hl [1, 2, 3, 0] rfl)
  have hP := zz_ext hP 2 rfl (g := rc_lp f (4 * nw)) (fun j hj => rc_lp_n f nw j hj)
  have hD : va_D A [(h0, .inr (2, [.null, .int z])), (hk, .inl (dB, 4 * nw, .inl f)), (lq, .inl (dL, nw, .inl (rc_lp f (4 * nw))))] := hD.set (p := 2) rfl
  exact loop1 (4 * nw) (Nat.le_refl _) _ rfl H [] hP hD hS ls (lv_sub hl [3, 4, 1, 0] rfl)
end
section
/-! THE ENGINE: blocks, init; KeyParameter (printed by wip/gen/g14.py) -/
set_option maxHeartbeats 4000000 in
set_option maxRecDepth 100000 in
/-- RC6Engine.encryptBlock(in, 0, out, 0) -/
theorem met_X2_encryptBlock (l : Launch) (dC : Nat → ClassId) (dI : Nat → Nat → Nat) (sz : Nat) (h0 sq bi bo : Nat) (dS d1 d2 : ClassId) (z : Int32) (s1 fi fo : Nat → Int32) : Met l yX2_encryptBlock (ws_ yX2_encryptBlock cX2_encryptBlock 13 (some .int)) ({ frames := 1, cells := 0, slots := 0, locals := 24 }) (va_Pc [.ref h0, .ref bi, .int (nI 0), .ref bo, .int (nI 0)] (zw_pre (dC, dI) [(dS, .int), (d1, .byte), (d2, .byte)] [(h0, .inr (2, [.ref sq, .int z])), (sq, .inl (dS, 44, .inl s1)), (bi, .inl (d1, 16, .inl fi)), (bo, .inl (d2, 16, .inl fo))] sz)) (va_Qi (fun _ _ => True) (fun (_ : Unit) t => zw_post (dC, dI) [(dS, .int), (d1, .byte), (d2, .byte)] [(h0, .inr (2, [.ref sq, .int z])), (sq, .inl (dS, 44, .inl s1)), (bi, .inl (d1, 16, .inl fi)), (bo, .inl (d2, 16, .inl (rc_o (rc_enc s1 fi))))] (va_A [(h0, .inr (2, [.ref sq, .int z])), (sq, .inl (dS, 44, .inl s1)), (bi, .inl (d1, 16, .inl fi)), (bo, .inl (d2, 16, .inl fo))] sz) t) (va_A [(h0, .inr (2, [.ref sq, .int z])), (sq, .inl (dS, 44, .inl s1)), (bi, .inl (d1, 16, .inl fi)), (bo, .inl (d2, 16, .inl fo))] sz)) 0 0 (va_A [(h0, .inr (2, [.ref sq, .int z])), (sq, .inl (dS, 44, .inl s1)), (bi, .inl (d1, 16, .inl fi)), (bo, .inl (d2, 16, .inl fo))] sz) := by
  refine Met.ofW (cc := cX2_encryptBlock) (maxL := 13) (ret := (some .int)) (by decide) rfl ?_
  intro p e s m args below meth c s₁ B hml hv
  obtain ⟨rfl, hsz, hP, hK, hD0⟩ := hv
  have hx := B.exec
  have hb := B.bytes
  have hr := B.returns
  have hts := atoms_spec (ws := (ws_ yX2_encryptBlock cX2_encryptBlock 13 (some .int))) B.pre
  have hts : ∀ w ∈ lw_all, w.before _ s = true := fun w h => hts w (List.mem_cons_of_mem _ h)
  have hown : s.vm.findClass RX2 = some m.cls := findClass_of_methodNamed B.named
  have hlocks := B.notSynchronized
  subst hsz
  have hD := hD0.self (sz := s.heap.size)
  generalize hAe : va_A [(h0, .inr (2, [.ref sq, .int z])), (sq, .inl (dS, 44, .inl s1)), (bi, .inl (d1, 16, .inl fi)), (bo, .inl (d2, 16, .inl fo))] s.heap.size = A at hD ⊢
  have hA : ∀ q : Nat, s.heap.size ≤ q → A q := fun q h => by rw [← hAe]; exact Or.inr h
  have hS : va_S A s.heap s.heap [] := va_S.rf
  have hP : va_P (dC, dI) vwCl [(h0, .inr (2, [.ref sq, .int z])), (sq, .inl (dS, 44, .inl s1)), (bi, .inl (d1, 16, .inl fi)), (bo, .inl (d2, 16, .inl fo))] s.heap := hP
  have hl := lv_entry ([.ref h0, .ref bi, .int (nI 0), .ref bo, .int (nI 0)]) (n := 13) (Nat.le_of_ble_eq_true rfl)
  rw [lg_entry_eq]
  generalize (lg_sl ([.ref h0, .ref bi, .int (nI 0), .ref bo, .int (nI 0)]) ++ List.replicate (13 - (lg_sl ([.ref h0, .ref bi, .int (nI 0), .ref bo, .int (nI 0)])).length) Slot.unset).toArray = ls at hl ⊢
  have hl : lv_has ls 13 [(0, .ref h0), (1, .ref bi), (2, .int (nI 0)), (3, .ref bo), (4, .int (nI 0))] := hl
  have loop : ∀ (r i : Nat), i + r = 20 → ∀ (va vb vc vd : Int32), (va, vb, vc, vd) = rc_er s1 i (rc_wd fi 0, rc_wd fi 4 + s1 0, rc_wd fi 8, rc_wd fi 12 + s1 1) → ∀ ls : Array Slot, lv_has ls 13 [(0, .ref h0), (3, .ref bo), (4, .int (nI 0)), (5, .int va), (6, .int vb), (7, .int vc), (8, .int vd), (9, .int (nI (i + 1)))] → W p l e (headSpec (ws_ yX2_encryptBlock cX2_encryptBlock 13 (some .int)) ({ frames := 1, cells := 0, slots := 0, locals := 24 })).room s m ([.ref h0, .ref bi, .int (nI 0), .ref bo, .int (nI 0)] : List Value).toArray below meth c s.heap [] 0 0 (MQ below (va_Qi (fun _ _ => True) (fun (_ : Unit) t => zw_post (dC, dI) [(dS, .int), (d1, .byte), (d2, .byte)] [(h0, .inr (2, [.ref sq, .int z])), (sq, .inl (dS, 44, .inl s1)), (bi, .inl (d1, 16, .inl fi)), (bo, .inl (d2, 16, .inl (rc_o (rc_enc s1 fi))))] A t) A) ([.ref h0, .ref bi, .int (nI 0), .ref bo, .int (nI 0)] : List Value).toArray s 0 0 A) (F0 m 65 ls []) := by
    intro r
    induction r with
    | zero =>
      intro i hi va vb vc vd hz ls hl
      have hi : i = 20 := by omega
      subst hi
      have hz2 : rc_enc s1 fi = (va + s1 42, vb, vc + s1 43, vd) := by unfold rc_enc; rw [← hz]
      refine lv_iload hx hb dX2_encryptBlock_65 (lv_at hl 7 rfl) ?_
      refine lv_bipush (v := 20) hx hb dX2_encryptBlock_67 (by decide) ?_
      refine lv_icmp_gt (tgt := 208) hx hb dX2_encryptBlock_69 (by decide) (fun _ => ?_) (fun c_ => absurd (by decide +kernel) c_)
      refine lv_iload hx hb dX2_encryptBlock_208 (lv_at hl 3 rfl) ?_
      refine lv_aload_n hx hb dX2_encryptBlock_210 rfl (lv_at hl 0 rfl) ?_
      refine va_get (D := (dC, dI)) (ci := 2) (v := .ref sq) (C := RX2) (T := TX2) (N := 2) hx hb hts in_X2 hown hK hP 0 rfl rfl 0 (by decide) (hts _ q73) (fun _ h9 => h9) rfl dX2_encryptBlock_211 ?_
      refine lv_bipush (v := (nI 42)) hx hb dX2_encryptBlock_214 (by decide) ?_
      refine zz_iald hx hb hK hP 1 0 rfl rfl 42 rfl (by omega) (by omega) dX2_encryptBlock_216 ?_
      refine lv_iadd hx hb dX2_encryptBlock_217 ?_
      refine lv_istore (lv' := [(5, .int (va + (s1 42))), (0, .ref h0), (3, .ref bo), (4, .int (nI 0)), (6, .int vb), (7, .int vc), (8, .int vd), (9, .int (nI (20 + 1)))]) hx hb dX2_encryptBlock_218 hl (by decide) rfl (fun ls hl => ?_)
      refine lv_iload hx hb dX2_encryptBlock_220 (lv_at hl 5 rfl) ?_
      refine lv_aload_n hx hb dX2_encryptBlock_222 rfl (lv_at hl 1 rfl) ?_
      refine va_get (D := (dC, dI)) (ci := 2) (v := .ref sq) (C := RX2) (T := TX2) (N := 2) hx hb hts in_X2 hown hK hP 0 rfl rfl 0 (by decide) (hts _ q73) (fun _ h9 => h9) rfl dX2_encryptBlock_223 ?_
      refine lv_bipush (v := (nI 43)) hx hb dX2_encryptBlock_226 (by decide) ?_
      refine zz_iald hx hb hK hP 1 0 rfl rfl 43 rfl (by omega) (by omega) dX2_encryptBlock_228 ?_
      refine lv_iadd hx hb dX2_encryptBlock_229 ?_
      refine lv_istore (lv' := [(7, .int (vc + (s1 43))), (5, .int (va + (s1 42))), (0, .ref h0), (3, .ref bo), (4, .int (nI 0)), (6, .int vb), (8, .int vd), (9, .int (nI (20 + 1)))]) hx hb dX2_encryptBlock_230 hl (by decide) rfl (fun ls hl => ?_)
      refine lv_aload_n hx hb dX2_encryptBlock_232 rfl (lv_at hl 2 rfl) ?_
      refine lv_iload hx hb dX2_encryptBlock_233 (lv_at hl 1 rfl) ?_
      refine lv_aload_n hx hb dX2_encryptBlock_235 rfl (lv_at hl 3 rfl) ?_
      refine lv_iload hx hb dX2_encryptBlock_236 (lv_at hl 4 rfl) ?_
      refine zc_v (wc := [(bo, .inl (d2, 16, .inl fo))]) (wr := [(h0, .inr (2, [.ref sq, .int z])), (sq, .inl (dS, 44, .inl s1)), (bi, .inl (d1, 16, .inl fi))]) hP hD hS hA [3] [0, 1, 2] rfl rfl rfl (by decide) (va_runV (As := [.int (va + (s1 42)), .ref bo, .int (nI 0)]) (rest := []) ⟨hx, hb, hml, hown, hts⟩ (met_X2_wordToBytes l dC dI _ h0 bo 16 d2 fo (va + s1 42) 0 (by omega) (by omega)) (cwV 3 hts (lw_V q267 q269 qs6 q15 q270) rfl rfl rfl (by decide +kernel) ⟨Nat.le_of_ble_eq_true rfl, Nat.le_of_ble_eq_true rfl⟩) ⟨zw_blind, va_recv hK hP (ci := 2) (q0 := 0) rfl rfl, zw_mk hP hD hK [3] [2] rfl rfl rfl rfl⟩ rfl rfl hl.1 rfl (lv_room (Nat.le_of_ble_eq_true rfl)) dX2_encryptBlock_238 ⟨Nat.le_of_ble_eq_true rfl, Nat.le_of_ble_eq_true rfl⟩) (fun _ H locs _ hP hD hK1 hS => ?_)
      have hP : va_P (dC, dI) vwCl [(h0, .inr (2, [.ref sq, .int z])), (sq, .inl (dS, 44, .inl s1)), (bi, .inl (d1, 16, .inl fi)), (bo, .inl (d2, 16, .inl (rc_pb (va + s1 42) 0 4 fo)))] H := hP
      have hD : va_D A [(h0, .inr (2, [.ref sq, .int z])), (sq, .inl (dS, 44, .inl s1)), (bi, .inl (d1, 16, .inl fi)), (bo, .inl (d2, 16, .inl (rc_pb (va + s1 42) 0 4 fo)))] := hD
      refine lv_aload_n hx hb dX2_encryptBlock_241 rfl (lv_at hl 2 rfl) ?_
      refine lv_iload hx hb dX2_encryptBlock_242 (lv_at hl 5 rfl) ?_
      refine lv_aload_n hx hb dX2_encryptBlock_244 rfl (lv_at hl 3 rfl) ?_
      refine lv_iload hx hb dX2_encryptBlock_245 (lv_at hl 4 rfl) ?_
      refine lv_iconst (v := 4) hx hb dX2_encryptBlock_247 (by decide) ?_
      refine lv_iadd hx hb dX2_encryptBlock_248 ?_
      refine zt (nI 4) (by decide +kernel) ?_
      refine zc_v (wc := [(bo, .inl (d2, 16, .inl (rc_pb (va + s1 42) 0 4 fo)))]) (wr := [(h0, .inr (2, [.ref sq, .int z])), (sq, .inl (dS, 44, .inl s1)), (bi, .inl (d1, 16, .inl fi))]) hP hD hS hA [3] [0, 1, 2] rfl rfl rfl (by decide) (va_runV (As := [.int vb, .ref bo, .int (nI 4)]) (rest := []) ⟨hx, hb, hml, hown, hts⟩ (met_X2_wordToBytes l dC dI _ h0 bo 16 d2 (rc_pb (va + s1 42) 0 4 fo) vb 4 (by omega) (by omega)) (cwV 3 hts (lw_V q267 q269 qs6 q15 q270) rfl rfl rfl (by decide +kernel) ⟨Nat.le_of_ble_eq_true rfl, Nat.le_of_ble_eq_true rfl⟩) ⟨zw_blind, va_recv hK hP (ci := 2) (q0 := 0) rfl rfl, zw_mk hP hD hK [3] [2] rfl rfl rfl rfl⟩ rfl rfl hl.1 rfl (lv_room (Nat.le_of_ble_eq_true rfl)) dX2_encryptBlock_249 ⟨Nat.le_of_ble_eq_true rfl, Nat.le_of_ble_eq_true rfl⟩) (fun _ H locs _ hP hD hK1 hS => ?_)
      have hP : va_P (dC, dI) vwCl [(h0, .inr (2, [.ref sq, .int z])), (sq, .inl (dS, 44, .inl s1)), (bi, .inl (d1, 16, .inl fi)), (bo, .inl (d2, 16, .inl (rc_pb vb 4 4 (rc_pb (va + s1 42) 0 4 fo))))] H := hP
      have hD : va_D A [(h0, .inr (2, [.ref sq, .int z])), (sq, .inl (dS, 44, .inl s1)), (bi, .inl (d1, 16, .inl fi)), (bo, .inl (d2, 16, .inl (rc_pb vb 4 4 (rc_pb (va + s1 42) 0 4 fo))))] := hD
      refine lv_aload_n hx hb dX2_encryptBlock_252 rfl (lv_at hl 2 rfl) ?_
      refine lv_iload hx hb dX2_encryptBlock_253 (lv_at hl 0 rfl) ?_
      refine lv_aload_n hx hb dX2_encryptBlock_255 rfl (lv_at hl 3 rfl) ?_
      refine lv_iload hx hb dX2_encryptBlock_256 (lv_at hl 4 rfl) ?_
      refine lv_bipush (v := 8) hx hb dX2_encryptBlock_258 (by decide) ?_
      refine lv_iadd hx hb dX2_encryptBlock_260 ?_
      refine zt (nI 8) (by decide +kernel) ?_
      refine zc_v (wc := [(bo, .inl (d2, 16, .inl (rc_pb vb 4 4 (rc_pb (va + s1 42) 0 4 fo))))]) (wr := [(h0, .inr (2, [.ref sq, .int z])), (sq, .inl (dS, 44, .inl s1)), (bi, .inl (d1, 16, .inl fi))]) hP hD hS hA [3] [0, 1, 2] rfl rfl rfl (by decide) (va_runV (As := [.int (vc + (s1 43)), .ref bo, .int (nI 8)]) (rest := []) ⟨hx, hb, hml, hown, hts⟩ (met_X2_wordToBytes l dC dI _ h0 bo 16 d2 (rc_pb vb 4 4 (rc_pb (va + s1 42) 0 4 fo)) (vc + s1 43) 8 (by omega) (by omega)) (cwV 3 hts (lw_V q267 q269 qs6 q15 q270) rfl rfl rfl (by decide +kernel) ⟨Nat.le_of_ble_eq_true rfl, Nat.le_of_ble_eq_true rfl⟩) ⟨zw_blind, va_recv hK hP (ci := 2) (q0 := 0) rfl rfl, zw_mk hP hD hK [3] [2] rfl rfl rfl rfl⟩ rfl rfl hl.1 rfl (lv_room (Nat.le_of_ble_eq_true rfl)) dX2_encryptBlock_261 ⟨Nat.le_of_ble_eq_true rfl, Nat.le_of_ble_eq_true rfl⟩) (fun _ H locs _ hP hD hK1 hS => ?_)
      have hP : va_P (dC, dI) vwCl [(h0, .inr (2, [.ref sq, .int z])), (sq, .inl (dS, 44, .inl s1)), (bi, .inl (d1, 16, .inl fi)), (bo, .inl (d2, 16, .inl (rc_pb (vc + s1 43) 8 4 (rc_pb vb 4 4 (rc_pb (va + s1 42) 0 4 fo)))))] H := hP
      have hD : va_D A [(h0, .inr (2, [.ref sq, .int z])), (sq, .inl (dS, 44, .inl s1)), (bi, .inl (d1, 16, .inl fi)), (bo, .inl (d2, 16, .inl (rc_pb (vc + s1 43) 8 4 (rc_pb vb 4 4 (rc_pb (va + s1 42) 0 4 fo)))))] := hD
      refine lv_aload_n hx hb dX2_encryptBlock_264 rfl (lv_at hl 2 rfl) ?_
      refine lv_iload hx hb dX2_encryptBlock_265 (lv_at hl 6 rfl) ?_
      refine lv_aload_n hx hb dX2_encryptBlock_267 rfl (lv_at hl 3 rfl) ?_
      refine lv_iload hx hb dX2_encryptBlock_268 (lv_at hl 4 rfl) ?_
      refine lv_bipush (v := 12) hx hb dX2_encryptBlock_270 (by decide) ?_
      refine lv_iadd hx hb dX2_encryptBlock_272 ?_
      refine zt (nI 12) (by decide +kernel) ?_
      refine zc_v (wc := [(bo, .inl (d2, 16, .inl (rc_pb (vc + s1 43) 8 4 (rc_pb vb 4 4 (rc_pb (va + s1 42) 0 4 fo)))))]) (wr := [(h0, .inr (2, [.ref sq, .int z])), (sq, .inl (dS, 44, .inl s1)), (bi, .inl (d1, 16, .inl fi))]) hP hD hS hA [3] [0, 1, 2] rfl rfl rfl (by decide) (va_runV (As := [.int vd, .ref bo, .int (nI 12)]) (rest := []) ⟨hx, hb, hml, hown, hts⟩ (met_X2_wordToBytes l dC dI _ h0 bo 16 d2 (rc_pb (vc + s1 43) 8 4 (rc_pb vb 4 4 (rc_pb (va + s1 42) 0 4 fo))) vd 12 (by omega) (by omega)) (cwV 3 hts (lw_V q267 q269 qs6 q15 q270) rfl rfl rfl (by decide +kernel) ⟨Nat.le_of_ble_eq_true rfl, Nat.le_of_ble_eq_true rfl⟩) ⟨zw_blind, va_recv hK hP (ci := 2) (q0 := 0) rfl rfl, zw_mk hP hD hK [3] [2] rfl rfl rfl rfl⟩ rfl rfl hl.1 rfl (lv_room (Nat.le_of_ble_eq_true rfl)) dX2_encryptBlock_273 ⟨Nat.le_of_ble_eq_true rfl, Nat.le_of_ble_eq_true rfl⟩) (fun _ H locs _ hP hD hK1 hS => ?_)
      have hP : va_P (dC, dI) vwCl [(h0, .inr (2, [.ref sq, .int z])), (sq, .inl (dS, 44, .inl s1)), (bi, .inl (d1, 16, .inl fi)), (bo, .inl (d2, 16, .inl (rc_pb vd 12 4 (rc_pb (vc + s1 43) 8 4 (rc_pb vb 4 4 (rc_pb (va + s1 42) 0 4 fo))))))] H := hP
      have hD : va_D A [(h0, .inr (2, [.ref sq, .int z])), (sq, .inl (dS, 44, .inl s1)), (bi, .inl (d1, 16, .inl fi)), (bo, .inl (d2, 16, .inl (rc_pb vd 12 4 (rc_pb (vc + s1 43) 8 4 (rc_pb vb 4 4 (rc_pb (va + s1 42) 0 4 fo))))))] := hD
      have hP := zz_ext hP 3 rfl (g := rc_o (rc_enc s1 fi)) (fun j hj => by rw [hz2]; exact rc_o4 (va + s1 42, vb, vc + s1 43, vd) fo j hj)
      have hD : va_D A [(h0, .inr (2, [.ref sq, .int z])), (sq, .inl (dS, 44, .inl s1)), (bi, .inl (d1, 16, .inl fi)), (bo, .inl (d2, 16, .inl (rc_o (rc_enc s1 fi))))] := hD.set (p := 3) rfl
      refine lv_bipush (v := 16) hx hb dX2_encryptBlock_276 (by decide) ?_
      have hP9 := hP.sub (ws' := [(h0, .inr (2, [.ref sq, .int z])), (sq, .inl (dS, 44, .inl s1)), (bi, .inl (d1, 16, .inl fi)), (bo, .inl (d2, 16, .inl (rc_o (rc_enc s1 fi))))]) [0, 1, 2, 3] rfl
      have hD9 := hD.sub (ws' := [(h0, .inr (2, [.ref sq, .int z])), (sq, .inl (dS, 44, .inl s1)), (bi, .inl (d1, 16, .inl fi)), (bo, .inl (d2, 16, .inl (rc_o (rc_enc s1 fi))))]) [0, 1, 2, 3] (by decide) rfl
      have hK9 := hK.sub (tys' := [(dS, .int), (d1, .byte), (d2, .byte)]) [0, 1, 2] rfl
      exact W.iret (v := 16) hx hb hr (fun t ht hW => ⟨⟨16, (), rfl, trivial, by rw [ht]; exact hP9, va_K.moved hW.alike hK9, hD9⟩, hS.F ht⟩) hS.2.2 dX2_encryptBlock_278
    | succ r ih =>
      intro i hi va vb vc vd hz ls hl
      refine lv_iload hx hb dX2_encryptBlock_65 (lv_at hl 7 rfl) ?_
      refine lv_bipush (v := 20) hx hb dX2_encryptBlock_67 (by decide) ?_
      refine lv_icmp_gt (tgt := 208) hx hb dX2_encryptBlock_69 (by decide) (fun c_ => absurd c_ (nI_nlt (a := 20) (b := i + 1) (by omega) (by omega))) (fun _ => ?_)
      refine lv_iconst (v := 0) hx hb dX2_encryptBlock_72 (by decide) ?_
      refine lv_istore (lv' := [(10, .int 0), (0, .ref h0), (3, .ref bo), (4, .int (nI 0)), (5, .int va), (6, .int vb), (7, .int vc), (8, .int vd), (9, .int (nI (i + 1)))]) hx hb dX2_encryptBlock_73 hl (by decide) rfl (fun ls hl => ?_)
      refine lv_iconst (v := 0) hx hb dX2_encryptBlock_75 (by decide) ?_
      refine lv_istore (lv' := [(11, .int 0), (10, .int 0), (0, .ref h0), (3, .ref bo), (4, .int (nI 0)), (5, .int va), (6, .int vb), (7, .int vc), (8, .int vd), (9, .int (nI (i + 1)))]) hx hb dX2_encryptBlock_76 hl (by decide) rfl (fun ls hl => ?_)
      refine lv_iload hx hb dX2_encryptBlock_78 (lv_at hl 6 rfl) ?_
      refine lv_iconst (v := 2) hx hb dX2_encryptBlock_80 (by decide) ?_
      refine lv_iload hx hb dX2_encryptBlock_81 (lv_at hl 6 rfl) ?_
      refine lv_imul hx hb dX2_encryptBlock_83 ?_
      refine lv_iconst (v := 1) hx hb dX2_encryptBlock_84 (by decide) ?_
      refine lv_iadd hx hb dX2_encryptBlock_85 ?_
      refine lv_imul hx hb dX2_encryptBlock_86 ?_
      refine lv_istore (lv' := [(10, .int (vb * ((2 * vb) + 1))), (11, .int 0), (0, .ref h0), (3, .ref bo), (4, .int (nI 0)), (5, .int va), (6, .int vb), (7, .int vc), (8, .int vd), (9, .int (nI (i + 1)))]) hx hb dX2_encryptBlock_87 hl (by decide) rfl (fun ls hl => ?_)
      refine lv_aload_n hx hb dX2_encryptBlock_89 rfl (lv_at hl 2 rfl) ?_
      refine lv_iload hx hb dX2_encryptBlock_90 (lv_at hl 0 rfl) ?_
      refine lv_iconst (v := 5) hx hb dX2_encryptBlock_92 (by decide) ?_
      refine vp_callSi (va_runV (As := [.int (vb * ((2 * vb) + 1)), .int 5]) (rest := []) ⟨hx, hb, hml, hown, hts⟩ (met_X2_rotateLeft l h0 (vb * (2 * vb + 1)) 5) (cwV 2 hts (lw_V q188 q190 qs3 q15 q191) rfl rfl rfl (by decide +kernel) ⟨Nat.le_of_ble_eq_true rfl, Nat.le_of_ble_eq_true rfl⟩) ⟨fun _ _ _ _ q => q, va_recv hK hP (ci := 2) (q0 := 0) rfl rfl, fun _ _ _ => ⟨rfl, trivial⟩⟩ rfl rfl hl.1 rfl (lv_room (Nat.le_of_ble_eq_true rfl)) dX2_encryptBlock_93 ⟨Nat.le_of_ble_eq_true rfl, Nat.le_of_ble_eq_true rfl⟩).run (fun t ht_ => ?_)
      refine zt (rc_g vb) ht_ ?_
      refine lv_istore (lv' := [(10, .int (rc_g vb)), (11, .int 0), (0, .ref h0), (3, .ref bo), (4, .int (nI 0)), (5, .int va), (6, .int vb), (7, .int vc), (8, .int vd), (9, .int (nI (i + 1)))]) hx hb dX2_encryptBlock_96 hl (by decide) rfl (fun ls hl => ?_)
      refine lv_iload hx hb dX2_encryptBlock_98 (lv_at hl 8 rfl) ?_
      refine lv_iconst (v := 2) hx hb dX2_encryptBlock_100 (by decide) ?_
      refine lv_iload hx hb dX2_encryptBlock_101 (lv_at hl 8 rfl) ?_
      refine lv_imul hx hb dX2_encryptBlock_103 ?_
      refine lv_iconst (v := 1) hx hb dX2_encryptBlock_104 (by decide) ?_
      refine lv_iadd hx hb dX2_encryptBlock_105 ?_
      refine lv_imul hx hb dX2_encryptBlock_106 ?_
      refine lv_istore (lv' := [(11, .int (vd * ((2 * vd) + 1))), (10, .int (rc_g vb)), (0, .ref h0), (3, .ref bo), (4, .int (nI 0)), (5, .int va), (6, .int vb), (7, .int vc), (8, .int vd), (9, .int (nI (i + 1)))]) hx hb dX2_encryptBlock_107 hl (by decide) rfl (fun ls hl => ?_)
      refine lv_aload_n hx hb dX2_encryptBlock_109 rfl (lv_at hl 2 rfl) ?_
      refine lv_iload hx hb dX2_encryptBlock_110 (lv_at hl 0 rfl) ?_
      refine lv_iconst (v := 5) hx hb dX2_encryptBlock_112 (by decide) ?_
      refine vp_callSi (va_runV (As := [.int (vd * ((2 * vd) + 1)), .int 5]) (rest := []) ⟨hx, hb, hml, hown, hts⟩ (met_X2_rotateLeft l h0 (vd * (2 * vd + 1)) 5) (cwV 2 hts (lw_V q188 q190 qs3 q15 q191) rfl rfl rfl (by decide +kernel) ⟨Nat.le_of_ble_eq_true rfl, Nat.le_of_ble_eq_true rfl⟩) ⟨fun _ _ _ _ q => q, va_recv hK hP (ci := 2) (q0 := 0) rfl rfl, fun _ _ _ => ⟨rfl, trivial⟩⟩ rfl rfl hl.1 rfl (lv_room (Nat.le_of_ble_eq_true rfl)) dX2_encryptBlock_113 ⟨Nat.le_of_ble_eq_true rfl, Nat.le_of_ble_eq_true rfl⟩).run (fun u hu_ => ?_)
      refine zt (rc_g vd) hu_ ?_
      refine lv_istore (lv' := [(11, .int (rc_g vd)), (10, .int (rc_g vb)), (0, .ref h0), (3, .ref bo), (4, .int (nI 0)), (5, .int va), (6, .int vb), (7, .int vc), (8, .int vd), (9, .int (nI (i + 1)))]) hx hb dX2_encryptBlock_116 hl (by decide) rfl (fun ls hl => ?_)
      refine lv_iload hx hb dX2_encryptBlock_118 (lv_at hl 5 rfl) ?_
      refine lv_iload hx hb dX2_encryptBlock_120 (lv_at hl 1 rfl) ?_
      refine lv_ixor hx hb dX2_encryptBlock_122 ?_
      refine lv_istore (lv' := [(5, .int (va ^^^ (rc_g vb))), (11, .int (rc_g vd)), (10, .int (rc_g vb)), (0, .ref h0), (3, .ref bo), (4, .int (nI 0)), (6, .int vb), (7, .int vc), (8, .int vd), (9, .int (nI (i + 1)))]) hx hb dX2_encryptBlock_123 hl (by decide) rfl (fun ls hl => ?_)
      refine lv_aload_n hx hb dX2_encryptBlock_125 rfl (lv_at hl 3 rfl) ?_
      refine lv_iload hx hb dX2_encryptBlock_126 (lv_at hl 0 rfl) ?_
      refine lv_iload hx hb dX2_encryptBlock_128 (lv_at hl 1 rfl) ?_
      refine vp_callSi (va_runV (As := [.int (va ^^^ (rc_g vb)), .int (rc_g vd)]) (rest := []) ⟨hx, hb, hml, hown, hts⟩ (met_X2_rotateLeft l h0 (va ^^^ rc_g vb) (rc_g vd)) (cwV 2 hts (lw_V q188 q190 qs3 q15 q191) rfl rfl rfl (by decide +kernel) ⟨Nat.le_of_ble_eq_true rfl, Nat.le_of_ble_eq_true rfl⟩) ⟨fun _ _ _ _ q => q, va_recv hK hP (ci := 2) (q0 := 0) rfl rfl, fun _ _ _ => ⟨rfl, trivial⟩⟩ rfl rfl hl.1 rfl (lv_room (Nat.le_of_ble_eq_true rfl)) dX2_encryptBlock_130 ⟨Nat.le_of_ble_eq_true rfl, Nat.le_of_ble_eq_true rfl⟩).run (fun ta hta => ?_)
      refine zt (rc_L (va ^^^ rc_g vb) (rc_g vd)) hta ?_
      refine lv_istore (lv' := [(5, .int (rc_L (va ^^^ rc_g vb) (rc_g vd))), (11, .int (rc_g vd)), (10, .int (rc_g vb)), (0, .ref h0), (3, .ref bo), (4, .int (nI 0)), (6, .int vb), (7, .int vc), (8, .int vd), (9, .int (nI (i + 1)))]) hx hb dX2_encryptBlock_133 hl (by decide) rfl (fun ls hl => ?_)
      refine lv_iload hx hb dX2_encryptBlock_135 (lv_at hl 0 rfl) ?_
      refine lv_aload_n hx hb dX2_encryptBlock_137 rfl (lv_at hl 3 rfl) ?_
      refine va_get (D := (dC, dI)) (ci := 2) (v := .ref sq) (C := RX2) (T := TX2) (N := 2) hx hb hts in_X2 hown hK hP 0 rfl rfl 0 (by decide) (hts _ q73) (fun _ h9 => h9) rfl dX2_encryptBlock_138 ?_
      refine lv_iconst (v := 2) hx hb dX2_encryptBlock_141 (by decide) ?_
      refine lv_iload hx hb dX2_encryptBlock_142 (lv_at hl 9 rfl) ?_
      refine lv_imul hx hb dX2_encryptBlock_144 ?_
      refine zz_iald hx hb hK hP 1 0 rfl rfl (2 * (i + 1)) (rc_i2 _) (by omega) (by omega) dX2_encryptBlock_145 ?_
      refine lv_iadd hx hb dX2_encryptBlock_146 ?_
      refine lv_istore (lv' := [(5, .int ((rc_L (va ^^^ rc_g vb) (rc_g vd)) + (s1 (2 * (i + 1))))), (11, .int (rc_g vd)), (10, .int (rc_g vb)), (0, .ref h0), (3, .ref bo), (4, .int (nI 0)), (6, .int vb), (7, .int vc), (8, .int vd), (9, .int (nI (i + 1)))]) hx hb dX2_encryptBlock_147 hl (by decide) rfl (fun ls hl => ?_)
      refine lv_iload hx hb dX2_encryptBlock_149 (lv_at hl 7 rfl) ?_
      refine lv_iload hx hb dX2_encryptBlock_151 (lv_at hl 1 rfl) ?_
      refine lv_ixor hx hb dX2_encryptBlock_153 ?_
      refine lv_istore (lv' := [(7, .int (vc ^^^ (rc_g vd))), (5, .int ((rc_L (va ^^^ rc_g vb) (rc_g vd)) + (s1 (2 * (i + 1))))), (11, .int (rc_g vd)), (10, .int (rc_g vb)), (0, .ref h0), (3, .ref bo), (4, .int (nI 0)), (6, .int vb), (8, .int vd), (9, .int (nI (i + 1)))]) hx hb dX2_encryptBlock_154 hl (by decide) rfl (fun ls hl => ?_)
      refine lv_aload_n hx hb dX2_encryptBlock_156 rfl (lv_at hl 4 rfl) ?_
      refine lv_iload hx hb dX2_encryptBlock_157 (lv_at hl 0 rfl) ?_
      refine lv_iload hx hb dX2_encryptBlock_159 (lv_at hl 3 rfl) ?_
      refine vp_callSi (va_runV (As := [.int (vc ^^^ (rc_g vd)), .int (rc_g vb)]) (rest := []) ⟨hx, hb, hml, hown, hts⟩ (met_X2_rotateLeft l h0 (vc ^^^ rc_g vd) (rc_g vb)) (cwV 2 hts (lw_V q188 q190 qs3 q15 q191) rfl rfl rfl (by decide +kernel) ⟨Nat.le_of_ble_eq_true rfl, Nat.le_of_ble_eq_true rfl⟩) ⟨fun _ _ _ _ q => q, va_recv hK hP (ci := 2) (q0 := 0) rfl rfl, fun _ _ _ => ⟨rfl, trivial⟩⟩ rfl rfl hl.1 rfl (lv_room (Nat.le_of_ble_eq_true rfl)) dX2_encryptBlock_161 ⟨Nat.le_of_ble_eq_true rfl, Nat.le_of_ble_eq_true rfl⟩).run (fun tc htc => ?_)
      refine zt (rc_L (vc ^^^ rc_g vd) (rc_g vb)) htc ?_
      refine lv_istore (lv' := [(7, .int (rc_L (vc ^^^ rc_g vd) (rc_g vb))), (5, .int ((rc_L (va ^^^ rc_g vb) (rc_g vd)) + (s1 (2 * (i + 1))))), (11, .int (rc_g vd)), (10, .int (rc_g vb)), (0, .ref h0), (3, .ref bo), (4, .int (nI 0)), (6, .int vb), (8, .int vd), (9, .int (nI (i + 1)))]) hx hb dX2_encryptBlock_164 hl (by decide) rfl (fun ls hl => ?_)
      refine lv_iload hx hb dX2_encryptBlock_166 (lv_at hl 0 rfl) ?_
      refine lv_aload_n hx hb dX2_encryptBlock_168 rfl (lv_at hl 4 rfl) ?_
      refine va_get (D := (dC, dI)) (ci := 2) (v := .ref sq) (C := RX2) (T := TX2) (N := 2) hx hb hts in_X2 hown hK hP 0 rfl rfl 0 (by decide) (hts _ q73) (fun _ h9 => h9) rfl dX2_encryptBlock_169 ?_
      refine lv_iconst (v := 2) hx hb dX2_encryptBlock_172 (by decide) ?_
      refine lv_iload hx hb dX2_encryptBlock_173 (lv_at hl 9 rfl) ?_
      refine lv_imul hx hb dX2_encryptBlock_175 ?_
      refine lv_iconst (v := 1) hx hb dX2_encryptBlock_176 (by decide) ?_
      refine lv_iadd hx hb dX2_encryptBlock_177 ?_
      refine zz_iald hx hb hK hP 1 0 rfl rfl (2 * (i + 1) + 1) (rc_i21 _) (by omega) (by omega) dX2_encryptBlock_178 ?_
      refine lv_iadd hx hb dX2_encryptBlock_179 ?_
      refine lv_istore (lv' := [(7, .int ((rc_L (vc ^^^ rc_g vd) (rc_g vb)) + (s1 (2 * (i + 1) + 1)))), (5, .int ((rc_L (va ^^^ rc_g vb) (rc_g vd)) + (s1 (2 * (i + 1))))), (11, .int (rc_g vd)), (10, .int (rc_g vb)), (0, .ref h0), (3, .ref bo), (4, .int (nI 0)), (6, .int vb), (8, .int vd), (9, .int (nI (i + 1)))]) hx hb dX2_encryptBlock_180 hl (by decide) rfl (fun ls hl => ?_)
      refine lv_iload hx hb dX2_encryptBlock_182 (lv_at hl 1 rfl) ?_
      refine lv_istore (lv' := [(12, .int ((rc_L (va ^^^ rc_g vb) (rc_g vd)) + (s1 (2 * (i + 1))))), (7, .int ((rc_L (vc ^^^ rc_g vd) (rc_g vb)) + (s1 (2 * (i + 1) + 1)))), (5, .int ((rc_L (va ^^^ rc_g vb) (rc_g vd)) + (s1 (2 * (i + 1))))), (11, .int (rc_g vd)), (10, .int (rc_g vb)), (0, .ref h0), (3, .ref bo), (4, .int (nI 0)), (6, .int vb), (8, .int vd), (9, .int (nI (i + 1)))]) hx hb dX2_encryptBlock_184 hl (by decide) rfl (fun ls hl => ?_)
      refine lv_iload hx hb dX2_encryptBlock_186 (lv_at hl 8 rfl) ?_
      refine lv_istore (lv' := [(5, .int vb), (12, .int ((rc_L (va ^^^ rc_g vb) (rc_g vd)) + (s1 (2 * (i + 1))))), (7, .int ((rc_L (vc ^^^ rc_g vd) (rc_g vb)) + (s1 (2 * (i + 1) + 1)))), (11, .int (rc_g vd)), (10, .int (rc_g vb)), (0, .ref h0), (3, .ref bo), (4, .int (nI 0)), (6, .int vb), (8, .int vd), (9, .int (nI (i + 1)))]) hx hb dX2_encryptBlock_188 hl (by decide) rfl (fun ls hl => ?_)
      refine lv_iload hx hb dX2_encryptBlock_190 (lv_at hl 2 rfl) ?_
      refine lv_istore (lv' := [(6, .int ((rc_L (vc ^^^ rc_g vd) (rc_g vb)) + (s1 (2 * (i + 1) + 1)))), (5, .int vb), (12, .int ((rc_L (va ^^^ rc_g vb) (rc_g vd)) + (s1 (2 * (i + 1))))), (7, .int ((rc_L (vc ^^^ rc_g vd) (rc_g vb)) + (s1 (2 * (i + 1) + 1)))), (11, .int (rc_g vd)), (10, .int (rc_g vb)), (0, .ref h0), (3, .ref bo), (4, .int (nI 0)), (8, .int vd), (9, .int (nI (i + 1)))]) hx hb dX2_encryptBlock_192 hl (by decide) rfl (fun ls hl => ?_)
      refine lv_iload hx hb dX2_encryptBlock_194 (lv_at hl 9 rfl) ?_
      refine lv_istore (lv' := [(7, .int vd), (6, .int ((rc_L (vc ^^^ rc_g vd) (rc_g vb)) + (s1 (2 * (i + 1) + 1)))), (5, .int vb), (12, .int ((rc_L (va ^^^ rc_g vb) (rc_g vd)) + (s1 (2 * (i + 1))))), (11, .int (rc_g vd)), (10, .int (rc_g vb)), (0, .ref h0), (3, .ref bo), (4, .int (nI 0)), (8, .int vd), (9, .int (nI (i + 1)))]) hx hb dX2_encryptBlock_196 hl (by decide) rfl (fun ls hl => ?_)
      refine lv_iload hx hb dX2_encryptBlock_198 (lv_at hl 3 rfl) ?_
      refine lv_istore (lv' := [(8, .int ((rc_L (va ^^^ rc_g vb) (rc_g vd)) + (s1 (2 * (i + 1))))), (7, .int vd), (6, .int ((rc_L (vc ^^^ rc_g vd) (rc_g vb)) + (s1 (2 * (i + 1) + 1)))), (5, .int vb), (12, .int ((rc_L (va ^^^ rc_g vb) (rc_g vd)) + (s1 (2 * (i + 1))))), (11, .int (rc_g vd)), (10, .int (rc_g vb)), (0, .ref h0), (3, .ref bo), (4, .int (nI 0)), (9, .int (nI (i + 1)))]) hx hb dX2_encryptBlock_200 hl (by decide) rfl (fun ls hl => ?_)
      refine lv_iinc (v := (nI (i + 1 + 1))) (lv' := [(9, .int (nI (i + 1 + 1))), (8, .int ((rc_L (va ^^^ rc_g vb) (rc_g vd)) + (s1 (2 * (i + 1))))), (7, .int vd), (6, .int ((rc_L (vc ^^^ rc_g vd) (rc_g vb)) + (s1 (2 * (i + 1) + 1)))), (5, .int vb), (12, .int ((rc_L (va ^^^ rc_g vb) (rc_g vd)) + (s1 (2 * (i + 1))))), (11, .int (rc_g vd)), (10, .int (rc_g vb)), (0, .ref h0), (3, .ref bo), (4, .int (nI 0))]) hx hb dX2_encryptBlock_202 hl (k := 10) rfl (zi_p1 (i + 1)) (by decide) rfl (fun ls hl => ?_)
      refine lv_goto (tgt := 65) hx hb dX2_encryptBlock_205 (by decide) ?_
      exact ih (i + 1) (by omega) _ _ _ _ (by show _ = rc_e1 s1 (i + 1) (rc_er s1 i (rc_wd fi 0, rc_wd fi 4 + s1 0, rc_wd fi 8, rc_wd fi 12 + s1 1)); rw [← hz]; rfl) ls (lv_sub hl [8, 9, 10, 4, 3, 2, 1, 0] rfl)
  refine lv_aload_n hx hb dX2_encryptBlock_0 rfl (lv_at hl 0 rfl) ?_
  refine lv_aload_n hx hb dX2_encryptBlock_1 rfl (lv_at hl 1 rfl) ?_
  refine lv_iload_n hx hb dX2_encryptBlock_2 rfl (lv_at hl 2 rfl) ?_
  refine vp_callSi (va_runV (As := [.ref bi, .int (nI 0)]) (rest := []) ⟨hx, hb, hml, hown, hts⟩ (met_X2_bytesToWord l dC dI h0 bi 16 d1 fi 0 (by omega) (by omega)) (cwV 2 hts (lw_V q263 q265 qs5 q15 q266) rfl rfl rfl (by decide +kernel) ⟨Nat.le_of_ble_eq_true rfl, Nat.le_of_ble_eq_true rfl⟩) ⟨zr_blind, va_recv hK hP (ci := 2) (q0 := 0) rfl rfl, zr_mk hP hK [2] [1] rfl rfl⟩ rfl rfl hl.1 rfl (lv_room (Nat.le_of_ble_eq_true rfl)) dX2_encryptBlock_3 ⟨Nat.le_of_ble_eq_true rfl, Nat.le_of_ble_eq_true rfl⟩).run (fun r0 hr0 => ?_)
  refine zt (rc_wd fi 0) hr0 ?_
  refine lv_istore (lv' := [(5, .int (rc_wd fi 0)), (0, .ref h0), (1, .ref bi), (2, .int (nI 0)), (3, .ref bo), (4, .int (nI 0))]) hx hb dX2_encryptBlock_6 hl (by decide) rfl (fun ls hl => ?_)
  refine lv_aload_n hx hb dX2_encryptBlock_8 rfl (lv_at hl 1 rfl) ?_
  refine lv_aload_n hx hb dX2_encryptBlock_9 rfl (lv_at hl 2 rfl) ?_
  refine lv_iload_n hx hb dX2_encryptBlock_10 rfl (lv_at hl 3 rfl) ?_
  refine lv_iconst (v := 4) hx hb dX2_encryptBlock_11 (by decide) ?_
  refine lv_iadd hx hb dX2_encryptBlock_12 ?_
  refine zt (nI 4) (by decide +kernel) ?_
  refine vp_callSi (va_runV (As := [.ref bi, .int (nI 4)]) (rest := []) ⟨hx, hb, hml, hown, hts⟩ (met_X2_bytesToWord l dC dI h0 bi 16 d1 fi 4 (by omega) (by omega)) (cwV 2 hts (lw_V q263 q265 qs5 q15 q266) rfl rfl rfl (by decide +kernel) ⟨Nat.le_of_ble_eq_true rfl, Nat.le_of_ble_eq_true rfl⟩) ⟨zr_blind, va_recv hK hP (ci := 2) (q0 := 0) rfl rfl, zr_mk hP hK [2] [1] rfl rfl⟩ rfl rfl hl.1 rfl (lv_room (Nat.le_of_ble_eq_true rfl)) dX2_encryptBlock_13 ⟨Nat.le_of_ble_eq_true rfl, Nat.le_of_ble_eq_true rfl⟩).run (fun r1 hr1 => ?_)
  refine zt (rc_wd fi 4) hr1 ?_
  refine lv_istore (lv' := [(6, .int (rc_wd fi 4)), (5, .int (rc_wd fi 0)), (0, .ref h0), (1, .ref bi), (2, .int (nI 0)), (3, .ref bo), (4, .int (nI 0))]) hx hb dX2_encryptBlock_16 hl (by decide) rfl (fun ls hl => ?_)
  refine lv_aload_n hx hb dX2_encryptBlock_18 rfl (lv_at hl 2 rfl) ?_
  refine lv_aload_n hx hb dX2_encryptBlock_19 rfl (lv_at hl 3 rfl) ?_
  refine lv_iload_n hx hb dX2_encryptBlock_20 rfl (lv_at hl 4 rfl) ?_
  refine lv_bipush (v := 8) hx hb dX2_encryptBlock_21 (by decide) ?_
  refine lv_iadd hx hb dX2_encryptBlock_23 ?_
  refine zt (nI 8) (by decide +kernel) ?_
  refine vp_callSi (va_runV (As := [.ref bi, .int (nI 8)]) (rest := []) ⟨hx, hb, hml, hown, hts⟩ (met_X2_bytesToWord l dC dI h0 bi 16 d1 fi 8 (by omega) (by omega)) (cwV 2 hts (lw_V q263 q265 qs5 q15 q266) rfl rfl rfl (by decide +kernel) ⟨Nat.le_of_ble_eq_true rfl, Nat.le_of_ble_eq_true rfl⟩) ⟨zr_blind, va_recv hK hP (ci := 2) (q0 := 0) rfl rfl, zr_mk hP hK [2] [1] rfl rfl⟩ rfl rfl hl.1 rfl (lv_room (Nat.le_of_ble_eq_true rfl)) dX2_encryptBlock_24 ⟨Nat.le_of_ble_eq_true rfl, Nat.le_of_ble_eq_true rfl⟩).run (fun r2 hr2 => ?_)
  refine zt (rc_wd fi 8) hr2 ?_
  refine lv_istore (lv' := [(7, .int (rc_wd fi 8)), (6, .int (rc_wd fi 4)), (5, .int (rc_wd fi 0)), (0, .ref h0), (1, .ref bi), (2, .int (nI 0)), (3, .ref bo), (4, .int (nI 0))]) hx hb dX2_encryptBlock_27 hl (by decide) rfl (fun ls hl => ?_)
  refine lv_aload_n hx hb dX2_encryptBlock_29 rfl (lv_at hl 3 rfl) ?_
  refine lv_aload_n hx hb dX2_encryptBlock_30 rfl (lv_at hl 4 rfl) ?_
  refine lv_iload_n hx hb dX2_encryptBlock_31 rfl (lv_at hl 5 rfl) ?_
  refine lv_bipush (v := 12) hx hb dX2_encryptBlock_32 (by decide) ?_
  refine lv_iadd hx hb dX2_encryptBlock_34 ?_
  refine zt (nI 12) (by decide +kernel) ?_
  refine vp_callSi (va_runV (As := [.ref bi, .int (nI 12)]) (rest := []) ⟨hx, hb, hml, hown, hts⟩ (met_X2_bytesToWord l dC dI h0 bi 16 d1 fi 12 (by omega) (by omega)) (cwV 2 hts (lw_V q263 q265 qs5 q15 q266) rfl rfl rfl (by decide +kernel) ⟨Nat.le_of_ble_eq_true rfl, Nat.le_of_ble_eq_true rfl⟩) ⟨zr_blind, va_recv hK hP (ci := 2) (q0 := 0) rfl rfl, zr_mk hP hK [2] [1] rfl rfl⟩ rfl rfl hl.1 rfl (lv_room (Nat.le_of_ble_eq_true rfl)) dX2_encryptBlock_35 ⟨Nat.le_of_ble_eq_true rfl, Nat.le_of_ble_eq_true rfl⟩).run (fun r3 hr3 => ?_)
  refine zt (rc_wd fi 12) hr3 ?_
  refine lv_istore (lv' := [(8, .int (rc_wd fi 12)), (7, .int (rc_wd fi 8)), (6, .int (rc_wd fi 4)), (5, .int (rc_wd fi 0)), (0, .ref h0), (1, .ref bi), (2, .int (nI 0)), (3, .ref bo), (4, .int (nI 0))]) hx hb dX2_encryptBlock_38 hl (by decide) rfl (fun ls hl => ?_)
  refine lv_iload hx hb dX2_encryptBlock_40 (lv_at hl 2 rfl) ?_
  refine lv_aload_n hx hb dX2_encryptBlock_42 rfl (lv_at hl 4 rfl) ?_
  refine va_get (D := (dC, dI)) (ci := 2) (v := .ref sq) (C := RX2) (T := TX2) (N := 2) hx hb hts in_X2 hown hK hP 0 rfl rfl 0 (by decide) (hts _ q73) (fun _ h9 => h9) rfl dX2_encryptBlock_43 ?_
  refine lv_iconst (v := (nI 0)) hx hb dX2_encryptBlock_46 (by decide) ?_
  refine zz_iald hx hb hK hP 1 0 rfl rfl 0 rfl (by omega) (by omega) dX2_encryptBlock_47 ?_
  refine lv_iadd hx hb dX2_encryptBlock_48 ?_
  refine lv_istore (lv' := [(6, .int ((rc_wd fi 4) + (s1 0))), (8, .int (rc_wd fi 12)), (7, .int (rc_wd fi 8)), (5, .int (rc_wd fi 0)), (0, .ref h0), (1, .ref bi), (2, .int (nI 0)), (3, .ref bo), (4, .int (nI 0))]) hx hb dX2_encryptBlock_49 hl (by decide) rfl (fun ls hl => ?_)
  refine lv_iload hx hb dX2_encryptBlock_51 (lv_at hl 1 rfl) ?_
  refine lv_aload_n hx hb dX2_encryptBlock_53 rfl (lv_at hl 4 rfl) ?_
  refine va_get (D := (dC, dI)) (ci := 2) (v := .ref sq) (C := RX2) (T := TX2) (N := 2) hx hb hts in_X2 hown hK hP 0 rfl rfl 0 (by decide) (hts _ q73) (fun _ h9 => h9) rfl dX2_encryptBlock_54 ?_
  refine lv_iconst (v := (nI 1)) hx hb dX2_encryptBlock_57 (by decide) ?_
  refine zz_iald hx hb hK hP 1 0 rfl rfl 1 rfl (by omega) (by omega) dX2_encryptBlock_58 ?_
  refine lv_iadd hx hb dX2_encryptBlock_59 ?_
  refine lv_istore (lv' := [(8, .int ((rc_wd fi 12) + (s1 1))), (6, .int ((rc_wd fi 4) + (s1 0))), (7, .int (rc_wd fi 8)), (5, .int (rc_wd fi 0)), (0, .ref h0), (1, .ref bi), (2, .int (nI 0)), (3, .ref bo), (4, .int (nI 0))]) hx hb dX2_encryptBlock_60 hl (by decide) rfl (fun ls hl => ?_)
  refine lv_iconst (v := (nI (0 + 1))) hx hb dX2_encryptBlock_62 (by decide) ?_
  refine lv_istore (lv' := [(9, .int (nI (0 + 1))), (8, .int ((rc_wd fi 12) + (s1 1))), (6, .int ((rc_wd fi 4) + (s1 0))), (7, .int (rc_wd fi 8)), (5, .int (rc_wd fi 0)), (0, .ref h0), (1, .ref bi), (2, .int (nI 0)), (3, .ref bo), (4, .int (nI 0))]) hx hb dX2_encryptBlock_63 hl (by decide) rfl (fun ls hl => ?_)
  exact loop 20 0 rfl _ _ _ _ rfl ls (lv_sub hl [5, 8, 9, 4, 2, 3, 1, 0] rfl)
set_option maxHeartbeats 4000000 in
set_option maxRecDepth 100000 in
/-- RC6Engine.decryptBlock(in, 0, out, 0) -/
theorem met_X2_decryptBlock (l : Launch) (dC : Nat → ClassId) (dI : Nat → Nat → Nat) (sz : Nat) (h0 sq bi bo : Nat) (dS d1 d2 : ClassId) (z : Int32) (s1 fi fo : Nat → Int32) : Met l yX2_decryptBlock (ws_ yX2_decryptBlock cX2_decryptBlock 13 (some .int)) ({ frames := 1, cells := 0, slots := 0, locals := 24 }) (va_Pc [.ref h0, .ref bi, .int (nI 0), .ref bo, .int (nI 0)] (zw_pre (dC, dI) [(dS, .int), (d1, .byte), (d2, .byte)] [(h0, .inr (2, [.ref sq, .int z])), (sq, .inl (dS, 44, .inl s1)), (bi, .inl (d1, 16, .inl fi)), (bo, .inl (d2, 16, .inl fo))] sz)) (va_Qi (fun _ _ => True) (fun (_ : Unit) t => zw_post (dC, dI) [(dS, .int), (d1, .byte), (d2, .byte)] [(h0, .inr (2, [.ref sq, .int z])), (sq, .inl (dS, 44, .inl s1)), (bi, .inl (d1, 16, .inl fi)), (bo, .inl (d2, 16, .inl (rc_o (rc_dec s1 fi))))] (va_A [(h0, .inr (2, [.ref sq, .int z])), (sq, .inl (dS, 44, .inl s1)), (bi, .inl (d1, 16, .inl fi)), (bo, .inl (d2, 16, .inl fo))] sz) t) (va_A [(h0, .inr (2, [.ref sq, .int z])), (sq, .inl (dS, 44, .inl s1)), (bi, .inl (d1, 16, .inl fi)), (bo, .inl (d2, 16, .inl fo))] sz)) 0 0 (va_A [(h0, .inr (2, [.ref sq, .int z])), (sq, .inl (dS, 44, .inl s1)), (bi, .inl (d1, 16, .inl fi)), (bo, .inl (d2, 16, .inl fo))] sz) := by
  refine Met.ofW (cc := cX2_decryptBlock) (maxL := 13) (ret := (some .int)) (by decide) rfl ?_
  intro p e s m args below meth c s₁ B hml hv
  obtain ⟨rfl, hsz, hP, hK, hD0⟩ := hv
  have hx := B.exec
  have hb := B.bytes
  have hr := B.returns
  have hts := atoms_spec (ws := (ws_ yX2_decryptBlock cX2_decryptBlock 13 (some .int))) B.pre
  have hts : ∀ w ∈ lw_all, w.before _ s = true := fun w h => hts w (List.mem_cons_of_mem _ h)
  have hown : s.vm.findClass RX2 = some m.cls := findClass_of_methodNamed B.named
  have hlocks := B.notSynchronized
  subst hsz
  have hD := hD0.self (sz := s.heap.size)
  generalize hAe : va_A [(h0, .inr (2, [.ref sq, .int z])), (sq, .inl (dS, 44, .inl s1)), (bi, .inl (d1, 16, .inl fi)), (bo, .inl (d2, 16, .inl fo))] s.heap.size = A at hD ⊢
  have hA : ∀ q : Nat, s.heap.size ≤ q → A q := fun q h => by rw [← hAe]; exact Or.inr h
  have hS : va_S A s.heap s.heap [] := va_S.rf
  have hP : va_P (dC, dI) vwCl [(h0, .inr (2, [.ref sq, .int z])), (sq, .inl (dS, 44, .inl s1)), (bi, .inl (d1, 16, .inl fi)), (bo, .inl (d2, 16, .inl fo))] s.heap := hP
  have hl := lv_entry ([.ref h0, .ref bi, .int (nI 0), .ref bo, .int (nI 0)]) (n := 13) (Nat.le_of_ble_eq_true rfl)
  rw [lg_entry_eq]
  generalize (lg_sl ([.ref h0, .ref bi, .int (nI 0), .ref bo, .int (nI 0)]) ++ List.replicate (13 - (lg_sl ([.ref h0, .ref bi, .int (nI 0), .ref bo, .int (nI 0)])).length) Slot.unset).toArray = ls at hl ⊢
  have hl : lv_has ls 13 [(0, .ref h0), (1, .ref bi), (2, .int (nI 0)), (3, .ref bo), (4, .int (nI 0))] := hl
  have loop : ∀ (r i : Nat), i + r = 20 → ∀ (va vb vc vd : Int32), (va, vb, vc, vd) = rc_dr s1 i (rc_wd fi 0 - s1 42, rc_wd fi 4, rc_wd fi 8 - s1 43, rc_wd fi 12) → ∀ ls : Array Slot, lv_has ls 13 [(0, .ref h0), (3, .ref bo), (4, .int (nI 0)), (5, .int va), (6, .int vb), (7, .int vc), (8, .int vd), (9, .int (nI r))] → W p l e (headSpec (ws_ yX2_decryptBlock cX2_decryptBlock 13 (some .int)) ({ frames := 1, cells := 0, slots := 0, locals := 24 })).room s m ([.ref h0, .ref bi, .int (nI 0), .ref bo, .int (nI 0)] : List Value).toArray below meth c s.heap [] 0 0 (MQ below (va_Qi (fun _ _ => True) (fun (_ : Unit) t => zw_post (dC, dI) [(dS, .int), (d1, .byte), (d2, .byte)] [(h0, .inr (2, [.ref sq, .int z])), (sq, .inl (dS, 44, .inl s1)), (bi, .inl (d1, 16, .inl fi)), (bo, .inl (d2, 16, .inl (rc_o (rc_dec s1 fi))))] A t) A) ([.ref h0, .ref bi, .int (nI 0), .ref bo, .int (nI 0)] : List Value).toArray s 0 0 A) (F0 m 68 ls []) := by
    intro r
    induction r with
    | zero =>
      intro i hi va vb vc vd hz ls hl
      have hi : i = 20 := by omega
      subst hi
      have hz2 : rc_dec s1 fi = (va, vb - s1 0, vc, vd - s1 1) := by unfold rc_dec; rw [← hz]
      refine lv_iload hx hb dX2_decryptBlock_68 (lv_at hl 7 rfl) ?_
      refine lv_iconst (v := 1) hx hb dX2_decryptBlock_70 (by decide) ?_
      refine lv_icmp_lt (tgt := 210) hx hb dX2_decryptBlock_71 (by decide) (fun _ => ?_) (fun c_ => absurd (by decide +kernel) c_)
      refine lv_iload hx hb dX2_decryptBlock_210 (lv_at hl 6 rfl) ?_
      refine lv_aload_n hx hb dX2_decryptBlock_212 rfl (lv_at hl 0 rfl) ?_
      refine va_get (D := (dC, dI)) (ci := 2) (v := .ref sq) (C := RX2) (T := TX2) (N := 2) hx hb hts in_X2 hown hK hP 0 rfl rfl 0 (by decide) (hts _ q73) (fun _ h9 => h9) rfl dX2_decryptBlock_213 ?_
      refine lv_iconst (v := (nI 1)) hx hb dX2_decryptBlock_216 (by decide) ?_
      refine zz_iald hx hb hK hP 1 0 rfl rfl 1 rfl (by omega) (by omega) dX2_decryptBlock_217 ?_
      refine lv_isub hx hb dX2_decryptBlock_218 ?_
      refine lv_istore (lv' := [(8, .int (vd - (s1 1))), (0, .ref h0), (3, .ref bo), (4, .int (nI 0)), (5, .int va), (6, .int vb), (7, .int vc), (9, .int (nI 0))]) hx hb dX2_decryptBlock_219 hl (by decide) rfl (fun ls hl => ?_)
      refine lv_iload hx hb dX2_decryptBlock_221 (lv_at hl 5 rfl) ?_
      refine lv_aload_n hx hb dX2_decryptBlock_223 rfl (lv_at hl 1 rfl) ?_
      refine va_get (D := (dC, dI)) (ci := 2) (v := .ref sq) (C := RX2) (T := TX2) (N := 2) hx hb hts in_X2 hown hK hP 0 rfl rfl 0 (by decide) (hts _ q73) (fun _ h9 => h9) rfl dX2_decryptBlock_224 ?_
      refine lv_iconst (v := (nI 0)) hx hb dX2_decryptBlock_227 (by decide) ?_
      refine zz_iald hx hb hK hP 1 0 rfl rfl 0 rfl (by omega) (by omega) dX2_decryptBlock_228 ?_
      refine lv_isub hx hb dX2_decryptBlock_229 ?_
      refine lv_istore (lv' := [(6, .int (vb - (s1 0))), (8, .int (vd - (s1 1))), (0, .ref h0), (3, .ref bo), (4, .int (nI 0)), (5, .int va), (7, .int vc), (9, .int (nI 0))]) hx hb dX2_decryptBlock_230 hl (by decide) rfl (fun ls hl => ?_)
      refine lv_aload_n hx hb dX2_decryptBlock_232 rfl (lv_at hl 2 rfl) ?_
      refine lv_iload hx hb dX2_decryptBlock_233 (lv_at hl 5 rfl) ?_
      refine lv_aload_n hx hb dX2_decryptBlock_235 rfl (lv_at hl 3 rfl) ?_
      refine lv_iload hx hb dX2_decryptBlock_236 (lv_at hl 4 rfl) ?_
      refine zc_v (wc := [(bo, .inl (d2, 16, .inl fo))]) (wr := [(h0, .inr (2, [.ref sq, .int z])), (sq, .inl (dS, 44, .inl s1)), (bi, .inl (d1, 16, .inl fi))]) hP hD hS hA [3] [0, 1, 2] rfl rfl rfl (by decide) (va_runV (As := [.int va, .ref bo, .int (nI 0)]) (rest := []) ⟨hx, hb, hml, hown, hts⟩ (met_X2_wordToBytes l dC dI _ h0 bo 16 d2 fo va 0 (by omega) (by omega)) (cwV 3 hts (lw_V q267 q269 qs6 q15 q270) rfl rfl rfl (by decide +kernel) ⟨Nat.le_of_ble_eq_true rfl, Nat.le_of_ble_eq_true rfl⟩) ⟨zw_blind, va_recv hK hP (ci := 2) (q0 := 0) rfl rfl, zw_mk hP hD hK [3] [2] rfl rfl rfl rfl⟩ rfl rfl hl.1 rfl (lv_room (Nat.le_of_ble_eq_true rfl)) dX2_decryptBlock_238 ⟨Nat.le_of_ble_eq_true rfl, Nat.le_of_ble_eq_true rfl⟩) (fun _ H locs _ hP hD hK1 hS => ?_)
      have hP : va_P (dC, dI) vwCl [(h0, .inr (2, [.ref sq, .int z])), (sq, .inl (dS, 44, .inl s1)), (bi, .inl (d1, 16, .inl fi)), (bo, .inl (d2, 16, .inl (rc_pb va 0 4 fo)))] H := hP
      have hD : va_D A [(h0, .inr (2, [.ref sq, .int z])), (sq, .inl (dS, 44, .inl s1)), (bi, .inl (d1, 16, .inl fi)), (bo, .inl (d2, 16, .inl (rc_pb va 0 4 fo)))] := hD
      refine lv_aload_n hx hb dX2_decryptBlock_241 rfl (lv_at hl 2 rfl) ?_
      refine lv_iload hx hb dX2_decryptBlock_242 (lv_at hl 0 rfl) ?_
      refine lv_aload_n hx hb dX2_decryptBlock_244 rfl (lv_at hl 3 rfl) ?_
      refine lv_iload hx hb dX2_decryptBlock_245 (lv_at hl 4 rfl) ?_
      refine lv_iconst (v := 4) hx hb dX2_decryptBlock_247 (by decide) ?_
      refine lv_iadd hx hb dX2_decryptBlock_248 ?_
      refine zt (nI 4) (by decide +kernel) ?_
      refine zc_v (wc := [(bo, .inl (d2, 16, .inl (rc_pb va 0 4 fo)))]) (wr := [(h0, .inr (2, [.ref sq, .int z])), (sq, .inl (dS, 44, .inl s1)), (bi, .inl (d1, 16, .inl fi))]) hP hD hS hA [3] [0, 1, 2] rfl rfl rfl (by decide) (va_runV (As := [.int (vb - (s1 0)), .ref bo, .int (nI 4)]) (rest := []) ⟨hx, hb, hml, hown, hts⟩ (met_X2_wordToBytes l dC dI _ h0 bo 16 d2 (rc_pb va 0 4 fo) (vb - s1 0) 4 (by omega) (by omega)) (cwV 3 hts (lw_V q267 q269 qs6 q15 q270) rfl rfl rfl (by decide +kernel) ⟨Nat.le_of_ble_eq_true rfl, Nat.le_of_ble_eq_true rfl⟩) ⟨zw_blind, va_recv hK hP (ci := 2) (q0 := 0) rfl rfl, zw_mk hP hD hK [3] [2] rfl rfl rfl rfl⟩ rfl rfl hl.1 rfl (lv_room (Nat.le_of_ble_eq_true rfl)) dX2_decryptBlock_249 ⟨Nat.le_of_ble_eq_true rfl, Nat.le_of_ble_eq_true rfl⟩) (fun _ H locs _ hP hD hK1 hS => ?_)
      have hP : va_P (dC, dI) vwCl [(h0, .inr (2, [.ref sq, .int z])), (sq, .inl (dS, 44, .inl s1)), (bi, .inl (d1, 16, .inl fi)), (bo, .inl (d2, 16, .inl (rc_pb (vb - s1 0) 4 4 (rc_pb va 0 4 fo))))] H := hP
      have hD : va_D A [(h0, .inr (2, [.ref sq, .int z])), (sq, .inl (dS, 44, .inl s1)), (bi, .inl (d1, 16, .inl fi)), (bo, .inl (d2, 16, .inl (rc_pb (vb - s1 0) 4 4 (rc_pb va 0 4 fo))))] := hD
      refine lv_aload_n hx hb dX2_decryptBlock_252 rfl (lv_at hl 2 rfl) ?_
      refine lv_iload hx hb dX2_decryptBlock_253 (lv_at hl 6 rfl) ?_
      refine lv_aload_n hx hb dX2_decryptBlock_255 rfl (lv_at hl 3 rfl) ?_
      refine lv_iload hx hb dX2_decryptBlock_256 (lv_at hl 4 rfl) ?_
      refine lv_bipush (v := 8) hx hb dX2_decryptBlock_258 (by decide) ?_
      refine lv_iadd hx hb dX2_decryptBlock_260 ?_
      refine zt (nI 8) (by decide +kernel) ?_
      refine zc_v (wc := [(bo, .inl (d2, 16, .inl (rc_pb (vb - s1 0) 4 4 (rc_pb va 0 4 fo))))]) (wr := [(h0, .inr (2, [.ref sq, .int z])), (sq, .inl (dS, 44, .inl s1)), (bi, .inl (d1, 16, .inl fi))]) hP hD hS hA [3] [0, 1, 2] rfl rfl rfl (by decide) (va_runV (As := [.int vc, .ref bo, .int (nI 8)]) (rest := []) ⟨hx, hb, hml, hown, hts⟩ (met_X2_wordToBytes l dC dI _ h0 bo 16 d2 (rc_pb (vb - s1 0) 4 4 (rc_pb va 0 4 fo)) vc 8 (by omega) (by omega)) (cwV 3 hts (lw_V q267 q269 qs6 q15 q270) rfl rfl rfl (by decide +kernel) ⟨Nat.le_of_ble_eq_true rfl, Nat.le_of_ble_eq_true rfl⟩) ⟨zw_blind, va_recv hK hP (ci := 2) (q0 := 0) rfl rfl, zw_mk hP hD hK [3] [2] rfl rfl rfl rfl⟩ rfl rfl hl.1 rfl (lv_room (Nat.le_of_ble_eq_true rfl)) dX2_decryptBlock_261 ⟨Nat.le_of_ble_eq_true rfl, Nat.le_of_ble_eq_true rfl⟩) (fun _ H locs _ hP hD hK1 hS => ?_)
      have hP : va_P (dC, dI) vwCl [(h0, .inr (2, [.ref sq, .int z])), (sq, .inl (dS, 44, .inl s1)), (bi, .inl (d1, 16, .inl fi)), (bo, .inl (d2, 16, .inl (rc_pb vc 8 4 (rc_pb (vb - s1 0) 4 4 (rc_pb va 0 4 fo)))))] H := hP
      have hD : va_D A [(h0, .inr (2, [.ref sq, .int z])), (sq, .inl (dS, 44, .inl s1)), (bi, .inl (d1, 16, .inl fi)), (bo, .inl (d2, 16, .inl (rc_pb vc 8 4 (rc_pb (vb - s1 0) 4 4 (rc_pb va 0 4 fo)))))] := hD
      refine lv_aload_n hx hb dX2_decryptBlock_264 rfl (lv_at hl 2 rfl) ?_
      refine lv_iload hx hb dX2_decryptBlock_265 (lv_at hl 1 rfl) ?_
      refine lv_aload_n hx hb dX2_decryptBlock_267 rfl (lv_at hl 3 rfl) ?_
      refine lv_iload hx hb dX2_decryptBlock_268 (lv_at hl 4 rfl) ?_
      refine lv_bipush (v := 12) hx hb dX2_decryptBlock_270 (by decide) ?_
      refine lv_iadd hx hb dX2_decryptBlock_272 ?_
      refine zt (nI 12) (by decide +kernel) ?_
      refine zc_v (wc := [(bo, .inl (d2, 16, .inl (rc_pb vc 8 4 (rc_pb (vb - s1 0) 4 4 (rc_pb va 0 4 fo)))))]) (wr := [(h0, .inr (2, [.ref sq, .int z])), (sq, .inl (dS, 44, .inl s1)), (bi, .inl (d1, 16, .inl fi))]) hP hD hS hA [3] [0, 1, 2] rfl rfl rfl (by decide) (va_runV (As := [.int (vd - (s1 1)), .ref bo, .int (nI 12)]) (rest := []) ⟨hx, hb, hml, hown, hts⟩ (met_X2_wordToBytes l dC dI _ h0 bo 16 d2 (rc_pb vc 8 4 (rc_pb (vb - s1 0) 4 4 (rc_pb va 0 4 fo))) (vd - s1 1) 12 (by omega) (by omega)) (cwV 3 hts (lw_V q267 q269 qs6 q15 q270) rfl rfl rfl (by decide +kernel) ⟨Nat.le_of_ble_eq_true rfl, Nat.le_of_ble_eq_true rfl⟩) ⟨zw_blind, va_recv hK hP (ci := 2) (q0 := 0) rfl rfl, zw_mk hP hD hK [3] [2] rfl rfl rfl rfl⟩ rfl rfl hl.1 rfl (lv_room (Nat.le_of_ble_eq_true rfl)) dX2_decryptBlock_273 ⟨Nat.le_of_ble_eq_true rfl, Nat.le_of_ble_eq_true rfl⟩) (fun _ H locs _ hP hD hK1 hS => ?_)
      have hP : va_P (dC, dI) vwCl [(h0, .inr (2, [.ref sq, .int z])), (sq, .inl (dS, 44, .inl s1)), (bi, .inl (d1, 16, .inl fi)), (bo, .inl (d2, 16, .inl (rc_pb (vd - s1 1) 12 4 (rc_pb vc 8 4 (rc_pb (vb - s1 0) 4 4 (rc_pb va 0 4 fo))))))] H := hP
      have hD : va_D A [(h0, .inr (2, [.ref sq, .int z])), (sq, .inl (dS, 44, .inl s1)), (bi, .inl (d1, 16, .inl fi)), (bo, .inl (d2, 16, .inl (rc_pb (vd - s1 1) 12 4 (rc_pb vc 8 4 (rc_pb (vb - s1 0) 4 4 (rc_pb va 0 4 fo))))))] := hD
      have hP := zz_ext hP 3 rfl (g := rc_o (rc_dec s1 fi)) (fun j hj => by rw [hz2]; exact rc_o4 (va, vb - s1 0, vc, vd - s1 1) fo j hj)
      have hD : va_D A [(h0, .inr (2, [.ref sq, .int z])), (sq, .inl (dS, 44, .inl s1)), (bi, .inl (d1, 16, .inl fi)), (bo, .inl (d2, 16, .inl (rc_o (rc_dec s1 fi))))] := hD.set (p := 3) rfl
      refine lv_bipush (v := 16) hx hb dX2_decryptBlock_276 (by decide) ?_
      have hP9 := hP.sub (ws' := [(h0, .inr (2, [.ref sq, .int z])), (sq, .inl (dS, 44, .inl s1)), (bi, .inl (d1, 16, .inl fi)), (bo, .inl (d2, 16, .inl (rc_o (rc_dec s1 fi))))]) [0, 1, 2, 3] rfl
      have hD9 := hD.sub (ws' := [(h0, .inr (2, [.ref sq, .int z])), (sq, .inl (dS, 44, .inl s1)), (bi, .inl (d1, 16, .inl fi)), (bo, .inl (d2, 16, .inl (rc_o (rc_dec s1 fi))))]) [0, 1, 2, 3] (by decide) rfl
      have hK9 := hK.sub (tys' := [(dS, .int), (d1, .byte), (d2, .byte)]) [0, 1, 2] rfl
      exact W.iret (v := 16) hx hb hr (fun t ht hW => ⟨⟨16, (), rfl, trivial, by rw [ht]; exact hP9, va_K.moved hW.alike hK9, hD9⟩, hS.F ht⟩) hS.2.2 dX2_decryptBlock_278
    | succ r ih =>
      intro i hi va vb vc vd hz ls hl
      refine lv_iload hx hb dX2_decryptBlock_68 (lv_at hl 7 rfl) ?_
      refine lv_iconst (v := 1) hx hb dX2_decryptBlock_70 (by decide) ?_
      refine lv_icmp_lt (tgt := 210) hx hb dX2_decryptBlock_71 (by decide) (fun c_ => absurd c_ (nI_nlt (a := r + 1) (b := 1) (by omega) (by omega))) (fun _ => ?_)
      refine lv_iconst (v := 0) hx hb dX2_decryptBlock_74 (by decide) ?_
      refine lv_istore (lv' := [(10, .int 0), (0, .ref h0), (3, .ref bo), (4, .int (nI 0)), (5, .int va), (6, .int vb), (7, .int vc), (8, .int vd), (9, .int (nI (r + 1)))]) hx hb dX2_decryptBlock_75 hl (by decide) rfl (fun ls hl => ?_)
      refine lv_iconst (v := 0) hx hb dX2_decryptBlock_77 (by decide) ?_
      refine lv_istore (lv' := [(11, .int 0), (10, .int 0), (0, .ref h0), (3, .ref bo), (4, .int (nI 0)), (5, .int va), (6, .int vb), (7, .int vc), (8, .int vd), (9, .int (nI (r + 1)))]) hx hb dX2_decryptBlock_78 hl (by decide) rfl (fun ls hl => ?_)
      refine lv_iload hx hb dX2_decryptBlock_80 (lv_at hl 8 rfl) ?_
      refine lv_istore (lv' := [(12, .int vd), (11, .int 0), (10, .int 0), (0, .ref h0), (3, .ref bo), (4, .int (nI 0)), (5, .int va), (6, .int vb), (7, .int vc), (8, .int vd), (9, .int (nI (r + 1)))]) hx hb dX2_decryptBlock_82 hl (by decide) rfl (fun ls hl => ?_)
      refine lv_iload hx hb dX2_decryptBlock_84 (lv_at hl 8 rfl) ?_
      refine lv_istore (lv' := [(8, .int vc), (12, .int vd), (11, .int 0), (10, .int 0), (0, .ref h0), (3, .ref bo), (4, .int (nI 0)), (5, .int va), (6, .int vb), (7, .int vc), (9, .int (nI (r + 1)))]) hx hb dX2_decryptBlock_86 hl (by decide) rfl (fun ls hl => ?_)
      refine lv_iload hx hb dX2_decryptBlock_88 (lv_at hl 8 rfl) ?_
      refine lv_istore (lv' := [(7, .int vb), (8, .int vc), (12, .int vd), (11, .int 0), (10, .int 0), (0, .ref h0), (3, .ref bo), (4, .int (nI 0)), (5, .int va), (6, .int vb), (9, .int (nI (r + 1)))]) hx hb dX2_decryptBlock_90 hl (by decide) rfl (fun ls hl => ?_)
      refine lv_iload hx hb dX2_decryptBlock_92 (lv_at hl 8 rfl) ?_
      refine lv_istore (lv' := [(6, .int va), (7, .int vb), (8, .int vc), (12, .int vd), (11, .int 0), (10, .int 0), (0, .ref h0), (3, .ref bo), (4, .int (nI 0)), (5, .int va), (9, .int (nI (r + 1)))]) hx hb dX2_decryptBlock_94 hl (by decide) rfl (fun ls hl => ?_)
      refine lv_iload hx hb dX2_decryptBlock_96 (lv_at hl 3 rfl) ?_
      refine lv_istore (lv' := [(5, .int vd), (6, .int va), (7, .int vb), (8, .int vc), (12, .int vd), (11, .int 0), (10, .int 0), (0, .ref h0), (3, .ref bo), (4, .int (nI 0)), (9, .int (nI (r + 1)))]) hx hb dX2_decryptBlock_98 hl (by decide) rfl (fun ls hl => ?_)
      refine lv_iload hx hb dX2_decryptBlock_100 (lv_at hl 1 rfl) ?_
      refine lv_iconst (v := 2) hx hb dX2_decryptBlock_102 (by decide) ?_
      refine lv_iload hx hb dX2_decryptBlock_103 (lv_at hl 1 rfl) ?_
      refine lv_imul hx hb dX2_decryptBlock_105 ?_
      refine lv_iconst (v := 1) hx hb dX2_decryptBlock_106 (by decide) ?_
      refine lv_iadd hx hb dX2_decryptBlock_107 ?_
      refine lv_imul hx hb dX2_decryptBlock_108 ?_
      refine lv_istore (lv' := [(10, .int (va * ((2 * va) + 1))), (5, .int vd), (6, .int va), (7, .int vb), (8, .int vc), (12, .int vd), (11, .int 0), (0, .ref h0), (3, .ref bo), (4, .int (nI 0)), (9, .int (nI (r + 1)))]) hx hb dX2_decryptBlock_109 hl (by decide) rfl (fun ls hl => ?_)
      refine lv_aload_n hx hb dX2_decryptBlock_111 rfl (lv_at hl 7 rfl) ?_
      refine lv_iload hx hb dX2_decryptBlock_112 (lv_at hl 0 rfl) ?_
      refine lv_iconst (v := 5) hx hb dX2_decryptBlock_114 (by decide) ?_
      refine vp_callSi (va_runV (As := [.int (va * ((2 * va) + 1)), .int 5]) (rest := []) ⟨hx, hb, hml, hown, hts⟩ (met_X2_rotateLeft l h0 (va * (2 * va + 1)) 5) (cwV 2 hts (lw_V q188 q190 qs3 q15 q191) rfl rfl rfl (by decide +kernel) ⟨Nat.le_of_ble_eq_true rfl, Nat.le_of_ble_eq_true rfl⟩) ⟨fun _ _ _ _ q => q, va_recv hK hP (ci := 2) (q0 := 0) rfl rfl, fun _ _ _ => ⟨rfl, trivial⟩⟩ rfl rfl hl.1 rfl (lv_room (Nat.le_of_ble_eq_true rfl)) dX2_decryptBlock_115 ⟨Nat.le_of_ble_eq_true rfl, Nat.le_of_ble_eq_true rfl⟩).run (fun t ht_ => ?_)
      refine zt (rc_g va) ht_ ?_
      refine lv_istore (lv' := [(10, .int (rc_g va)), (5, .int vd), (6, .int va), (7, .int vb), (8, .int vc), (12, .int vd), (11, .int 0), (0, .ref h0), (3, .ref bo), (4, .int (nI 0)), (9, .int (nI (r + 1)))]) hx hb dX2_decryptBlock_118 hl (by decide) rfl (fun ls hl => ?_)
      refine lv_iload hx hb dX2_decryptBlock_120 (lv_at hl 4 rfl) ?_
      refine lv_iconst (v := 2) hx hb dX2_decryptBlock_122 (by decide) ?_
      refine lv_iload hx hb dX2_decryptBlock_123 (lv_at hl 4 rfl) ?_
      refine lv_imul hx hb dX2_decryptBlock_125 ?_
      refine lv_iconst (v := 1) hx hb dX2_decryptBlock_126 (by decide) ?_
      refine lv_iadd hx hb dX2_decryptBlock_127 ?_
      refine lv_imul hx hb dX2_decryptBlock_128 ?_
      refine lv_istore (lv' := [(11, .int (vc * ((2 * vc) + 1))), (10, .int (rc_g va)), (5, .int vd), (6, .int va), (7, .int vb), (8, .int vc), (12, .int vd), (0, .ref h0), (3, .ref bo), (4, .int (nI 0)), (9, .int (nI (r + 1)))]) hx hb dX2_decryptBlock_129 hl (by decide) rfl (fun ls hl => ?_)
      refine lv_aload_n hx hb dX2_decryptBlock_131 rfl (lv_at hl 7 rfl) ?_
      refine lv_iload hx hb dX2_decryptBlock_132 (lv_at hl 0 rfl) ?_
      refine lv_iconst (v := 5) hx hb dX2_decryptBlock_134 (by decide) ?_
      refine vp_callSi (va_runV (As := [.int (vc * ((2 * vc) + 1)), .int 5]) (rest := []) ⟨hx, hb, hml, hown, hts⟩ (met_X2_rotateLeft l h0 (vc * (2 * vc + 1)) 5) (cwV 2 hts (lw_V q188 q190 qs3 q15 q191) rfl rfl rfl (by decide +kernel) ⟨Nat.le_of_ble_eq_true rfl, Nat.le_of_ble_eq_true rfl⟩) ⟨fun _ _ _ _ q => q, va_recv hK hP (ci := 2) (q0 := 0) rfl rfl, fun _ _ _ => ⟨rfl, trivial⟩⟩ rfl rfl hl.1 rfl (lv_room (Nat.le_of_ble_eq_true rfl)) dX2_decryptBlock_135 ⟨Nat.le_of_ble_eq_true rfl, Nat.le_of_ble_eq_true rfl⟩).run (fun u hu_ => ?_)
      refine zt (rc_g vc) hu_ ?_
      refine lv_istore (lv' := [(11, .int (rc_g vc)), (10, .int (rc_g va)), (5, .int vd), (6, .int va), (7, .int vb), (8, .int vc), (12, .int vd), (0, .ref h0), (3, .ref bo), (4, .int (nI 0)), (9, .int (nI (r + 1)))]) hx hb dX2_decryptBlock_138 hl (by decide) rfl (fun ls hl => ?_)
      refine lv_iload hx hb dX2_decryptBlock_140 (lv_at hl 4 rfl) ?_
      refine lv_aload_n hx hb dX2_decryptBlock_142 rfl (lv_at hl 7 rfl) ?_
      refine va_get (D := (dC, dI)) (ci := 2) (v := .ref sq) (C := RX2) (T := TX2) (N := 2) hx hb hts in_X2 hown hK hP 0 rfl rfl 0 (by decide) (hts _ q73) (fun _ h9 => h9) rfl dX2_decryptBlock_143 ?_
      refine lv_iconst (v := 2) hx hb dX2_decryptBlock_146 (by decide) ?_
      refine lv_iload hx hb dX2_decryptBlock_147 (lv_at hl 10 rfl) ?_
      refine lv_imul hx hb dX2_decryptBlock_149 ?_
      refine lv_iconst (v := 1) hx hb dX2_decryptBlock_150 (by decide) ?_
      refine lv_iadd hx hb dX2_decryptBlock_151 ?_
      refine zz_iald hx hb hK hP 1 0 rfl rfl (2 * (r + 1) + 1) (rc_i21 _) (by omega) (by omega) dX2_decryptBlock_152 ?_
      refine lv_isub hx hb dX2_decryptBlock_153 ?_
      refine lv_istore (lv' := [(7, .int (vb - (s1 (2 * (r + 1) + 1)))), (11, .int (rc_g vc)), (10, .int (rc_g va)), (5, .int vd), (6, .int va), (8, .int vc), (12, .int vd), (0, .ref h0), (3, .ref bo), (4, .int (nI 0)), (9, .int (nI (r + 1)))]) hx hb dX2_decryptBlock_154 hl (by decide) rfl (fun ls hl => ?_)
      refine lv_aload_n hx hb dX2_decryptBlock_156 rfl (lv_at hl 7 rfl) ?_
      refine lv_iload hx hb dX2_decryptBlock_157 (lv_at hl 0 rfl) ?_
      refine lv_iload hx hb dX2_decryptBlock_159 (lv_at hl 2 rfl) ?_
      refine vp_callSi (va_runV (As := [.int (vb - (s1 (2 * (r + 1) + 1))), .int (rc_g va)]) (rest := []) ⟨hx, hb, hml, hown, hts⟩ (met_X2_rotateRight l h0 (vb - s1 (2 * (r + 1) + 1)) (rc_g va)) (cwV 2 hts (lw_V q275 q277 qs8 q15 q278) rfl rfl rfl (by decide +kernel) ⟨Nat.le_of_ble_eq_true rfl, Nat.le_of_ble_eq_true rfl⟩) ⟨fun _ _ _ _ q => q, va_recv hK hP (ci := 2) (q0 := 0) rfl rfl, fun _ _ _ => ⟨rfl, trivial⟩⟩ rfl rfl hl.1 rfl (lv_room (Nat.le_of_ble_eq_true rfl)) dX2_decryptBlock_161 ⟨Nat.le_of_ble_eq_true rfl, Nat.le_of_ble_eq_true rfl⟩).run (fun tc htc => ?_)
      refine zt (rc_R (vb - s1 (2 * (r + 1) + 1)) (rc_g va)) htc ?_
      refine lv_istore (lv' := [(7, .int (rc_R (vb - s1 (2 * (r + 1) + 1)) (rc_g va))), (11, .int (rc_g vc)), (10, .int (rc_g va)), (5, .int vd), (6, .int va), (8, .int vc), (12, .int vd), (0, .ref h0), (3, .ref bo), (4, .int (nI 0)), (9, .int (nI (r + 1)))]) hx hb dX2_decryptBlock_164 hl (by decide) rfl (fun ls hl => ?_)
      refine lv_iload hx hb dX2_decryptBlock_166 (lv_at hl 0 rfl) ?_
      refine lv_iload hx hb dX2_decryptBlock_168 (lv_at hl 1 rfl) ?_
      refine lv_ixor hx hb dX2_decryptBlock_170 ?_
      refine lv_istore (lv' := [(7, .int ((rc_R (vb - s1 (2 * (r + 1) + 1)) (rc_g va)) ^^^ (rc_g vc))), (11, .int (rc_g vc)), (10, .int (rc_g va)), (5, .int vd), (6, .int va), (8, .int vc), (12, .int vd), (0, .ref h0), (3, .ref bo), (4, .int (nI 0)), (9, .int (nI (r + 1)))]) hx hb dX2_decryptBlock_171 hl (by decide) rfl (fun ls hl => ?_)
      refine lv_iload hx hb dX2_decryptBlock_173 (lv_at hl 3 rfl) ?_
      refine lv_aload_n hx hb dX2_decryptBlock_175 rfl (lv_at hl 7 rfl) ?_
      refine va_get (D := (dC, dI)) (ci := 2) (v := .ref sq) (C := RX2) (T := TX2) (N := 2) hx hb hts in_X2 hown hK hP 0 rfl rfl 0 (by decide) (hts _ q73) (fun _ h9 => h9) rfl dX2_decryptBlock_176 ?_
      refine lv_iconst (v := 2) hx hb dX2_decryptBlock_179 (by decide) ?_
      refine lv_iload hx hb dX2_decryptBlock_180 (lv_at hl 10 rfl) ?_
      refine lv_imul hx hb dX2_decryptBlock_182 ?_
      refine zz_iald hx hb hK hP 1 0 rfl rfl (2 * (r + 1)) (rc_i2 _) (by omega) (by omega) dX2_decryptBlock_183 ?_
      refine lv_isub hx hb dX2_decryptBlock_184 ?_
      refine lv_istore (lv' := [(5, .int (vd - (s1 (2 * (r + 1))))), (7, .int ((rc_R (vb - s1 (2 * (r + 1) + 1)) (rc_g va)) ^^^ (rc_g vc))), (11, .int (rc_g vc)), (10, .int (rc_g va)), (6, .int va), (8, .int vc), (12, .int vd), (0, .ref h0), (3, .ref bo), (4, .int (nI 0)), (9, .int (nI (r + 1)))]) hx hb dX2_decryptBlock_185 hl (by decide) rfl (fun ls hl => ?_)
      refine lv_aload_n hx hb dX2_decryptBlock_187 rfl (lv_at hl 7 rfl) ?_
      refine lv_iload hx hb dX2_decryptBlock_188 (lv_at hl 0 rfl) ?_
      refine lv_iload hx hb dX2_decryptBlock_190 (lv_at hl 2 rfl) ?_
      refine vp_callSi (va_runV (As := [.int (vd - (s1 (2 * (r + 1)))), .int (rc_g vc)]) (rest := []) ⟨hx, hb, hml, hown, hts⟩ (met_X2_rotateRight l h0 (vd - s1 (2 * (r + 1))) (rc_g vc)) (cwV 2 hts (lw_V q275 q277 qs8 q15 q278) rfl rfl rfl (by decide +kernel) ⟨Nat.le_of_ble_eq_true rfl, Nat.le_of_ble_eq_true rfl⟩) ⟨fun _ _ _ _ q => q, va_recv hK hP (ci := 2) (q0 := 0) rfl rfl, fun _ _ _ => ⟨rfl, trivial⟩⟩ rfl rfl hl.1 rfl (lv_room (Nat.le_of_ble_eq_true rfl)) dX2_decryptBlock_192 ⟨Nat.le_of_ble_eq_true rfl, Nat.le_of_ble_eq_true rfl⟩).run (fun ta hta => ?_)
      refine zt (rc_R (vd - s1 (2 * (r + 1))) (rc_g vc)) hta ?_
      refine lv_istore (lv' := [(5, .int (rc_R (vd - s1 (2 * (r + 1))) (rc_g vc))), (7, .int ((rc_R (vb - s1 (2 * (r + 1) + 1)) (rc_g va)) ^^^ (rc_g vc))), (11, .int (rc_g vc)), (10, .int (rc_g va)), (6, .int va), (8, .int vc), (12, .int vd), (0, .ref h0), (3, .ref bo), (4, .int (nI 0)), (9, .int (nI (r + 1)))]) hx hb dX2_decryptBlock_195 hl (by decide) rfl (fun ls hl => ?_)
      refine lv_iload hx hb dX2_decryptBlock_197 (lv_at hl 0 rfl) ?_
      refine lv_iload hx hb dX2_decryptBlock_199 (lv_at hl 3 rfl) ?_
      refine lv_ixor hx hb dX2_decryptBlock_201 ?_
      refine lv_istore (lv' := [(5, .int ((rc_R (vd - s1 (2 * (r + 1))) (rc_g vc)) ^^^ (rc_g va))), (7, .int ((rc_R (vb - s1 (2 * (r + 1) + 1)) (rc_g va)) ^^^ (rc_g vc))), (11, .int (rc_g vc)), (10, .int (rc_g va)), (6, .int va), (8, .int vc), (12, .int vd), (0, .ref h0), (3, .ref bo), (4, .int (nI 0)), (9, .int (nI (r + 1)))]) hx hb dX2_decryptBlock_202 hl (by decide) rfl (fun ls hl => ?_)
      refine lv_iinc (v := (nI r)) (lv' := [(9, .int (nI r)), (5, .int ((rc_R (vd - s1 (2 * (r + 1))) (rc_g vc)) ^^^ (rc_g va))), (7, .int ((rc_R (vb - s1 (2 * (r + 1) + 1)) (rc_g va)) ^^^ (rc_g vc))), (11, .int (rc_g vc)), (10, .int (rc_g va)), (6, .int va), (8, .int vc), (12, .int vd), (0, .ref h0), (3, .ref bo), (4, .int (nI 0))]) hx hb dX2_decryptBlock_204 hl (k := 10) rfl ((zi_m _).trans (nI_pred r)) (by decide) rfl (fun ls hl => ?_)
      refine lv_goto (tgt := 68) hx hb dX2_decryptBlock_207 (by decide) ?_
      exact ih (i + 1) (by omega) _ _ _ _ (by show _ = rc_d1 s1 (20 - i) (rc_dr s1 i (rc_wd fi 0 - s1 42, rc_wd fi 4, rc_wd fi 8 - s1 43, rc_wd fi 12)); rw [← hz, show 20 - i = r + 1 by omega]; rfl) ls (lv_sub hl [8, 9, 10, 1, 5, 2, 6, 0] rfl)
  refine lv_aload_n hx hb dX2_decryptBlock_0 rfl (lv_at hl 0 rfl) ?_
  refine lv_aload_n hx hb dX2_decryptBlock_1 rfl (lv_at hl 1 rfl) ?_
  refine lv_iload_n hx hb dX2_decryptBlock_2 rfl (lv_at hl 2 rfl) ?_
  refine vp_callSi (va_runV (As := [.ref bi, .int (nI 0)]) (rest := []) ⟨hx, hb, hml, hown, hts⟩ (met_X2_bytesToWord l dC dI h0 bi 16 d1 fi 0 (by omega) (by omega)) (cwV 2 hts (lw_V q263 q265 qs5 q15 q266) rfl rfl rfl (by decide +kernel) ⟨Nat.le_of_ble_eq_true rfl, Nat.le_of_ble_eq_true rfl⟩) ⟨zr_blind, va_recv hK hP (ci := 2) (q0 := 0) rfl rfl, zr_mk hP hK [2] [1] rfl rfl⟩ rfl rfl hl.1 rfl (lv_room (Nat.le_of_ble_eq_true rfl)) dX2_decryptBlock_3 ⟨Nat.le_of_ble_eq_true rfl, Nat.le_of_ble_eq_true rfl⟩).run (fun r0 hr0 => ?_)
  refine zt (rc_wd fi 0) hr0 ?_
  refine lv_istore (lv' := [(5, .int (rc_wd fi 0)), (0, .ref h0), (1, .ref bi), (2, .int (nI 0)), (3, .ref bo), (4, .int (nI 0))]) hx hb dX2_decryptBlock_6 hl (by decide) rfl (fun ls hl => ?_)
  refine lv_aload_n hx hb dX2_decryptBlock_8 rfl (lv_at hl 1 rfl) ?_
  refine lv_aload_n hx hb dX2_decryptBlock_9 rfl (lv_at hl 2 rfl) ?_
  refine lv_iload_n hx hb dX2_decryptBlock_10 rfl (lv_at hl 3 rfl) ?_
  refine lv_iconst (v := 4) hx hb dX2_decryptBlock_11 (by decide) ?_
  refine lv_iadd hx hb dX2_decryptBlock_12 ?_
  refine zt (nI 4) (by decide +kernel) ?_
  refine vp_callSi (va_runV (As := [.ref bi, .int (nI 4)]) (rest := []) ⟨hx, hb, hml, hown, hts⟩ (met_X2_bytesToWord l dC dI h0 bi 16 d1 fi 4 (by omega) (by omega)) (cwV 2 hts (lw_V q263 q265 qs5 q15 q266) rfl rfl rfl (by decide +kernel) ⟨Nat.le_of_ble_eq_true rfl, Nat.le_of_ble_eq_true rfl⟩) ⟨zr_blind, va_recv hK hP (ci := 2) (q0 := 0) rfl rfl, zr_mk hP hK [2] [1] rfl rfl⟩ rfl rfl hl.1 rfl (lv_room (Nat.le_of_ble_eq_true rfl)) dX2_decryptBlock_13 ⟨Nat.le_of_ble_eq_true rfl, Nat.le_of_ble_eq_true rfl⟩).run (fun r1 hr1 => ?_)
  refine zt (rc_wd fi 4) hr1 ?_
  refine lv_istore (lv' := [(6, .int (rc_wd fi 4)), (5, .int (rc_wd fi 0)), (0, .ref h0), (1, .ref bi), (2, .int (nI 0)), (3, .ref bo), (4, .int (nI 0))]) hx hb dX2_decryptBlock_16 hl (by decide) rfl (fun ls hl => ?_)
  refine lv_aload_n hx hb dX2_decryptBlock_18 rfl (lv_at hl 2 rfl) ?_
  refine lv_aload_n hx hb dX2_decryptBlock_19 rfl (lv_at hl 3 rfl) ?_
  refine lv_iload_n hx hb dX2_decryptBlock_20 rfl (lv_at hl 4 rfl) ?_
  refine lv_bipush (v := 8) hx hb dX2_decryptBlock_21 (by decide) ?_
  refine lv_iadd hx hb dX2_decryptBlock_23 ?_
  refine zt (nI 8) (by decide +kernel) ?_
  refine vp_callSi (va_runV (As := [.ref bi, .int (nI 8)]) (rest := []) ⟨hx, hb, hml, hown, hts⟩ (met_X2_bytesToWord l dC dI h0 bi 16 d1 fi 8 (by omega) (by omega)) (cwV 2 hts (lw_V q263 q265 qs5 q15 q266) rfl rfl rfl (by decide +kernel) ⟨Nat.le_of_ble_eq_true rfl, Nat.le_of_ble_eq_true rfl⟩) ⟨zr_blind, va_recv hK hP (ci := 2) (q0 := 0) rfl rfl, zr_mk hP hK [2] [1] rfl rfl⟩ rfl rfl hl.1 rfl (lv_room (Nat.le_of_ble_eq_true rfl)) dX2_decryptBlock_24 ⟨Nat.le_of_ble_eq_true rfl, Nat.le_of_ble_eq_true rfl⟩).run (fun r2 hr2 => ?_)
  refine zt (rc_wd fi 8) hr2 ?_
  refine lv_istore (lv' := [(7, .int (rc_wd fi 8)), (6, .int (rc_wd fi 4)), (5, .int (rc_wd fi 0)), (0, .ref h0), (1, .ref bi), (2, .int (nI 0)), (3, .ref bo), (4, .int (nI 0))]) hx hb dX2_decryptBlock_27 hl (by decide) rfl (fun ls hl => ?_)
  refine lv_aload_n hx hb dX2_decryptBlock_29 rfl (lv_at hl 3 rfl) ?_
  refine lv_aload_n hx hb dX2_decryptBlock_30 rfl (lv_at hl 4 rfl) ?_
  refine lv_iload_n hx hb dX2_decryptBlock_31 rfl (lv_at hl 5 rfl) ?_
  refine lv_bipush (v := 12) hx hb dX2_decryptBlock_32 (by decide) ?_
  refine lv_iadd hx hb dX2_decryptBlock_34 ?_
  refine zt (nI 12) (by decide +kernel) ?_
  refine vp_callSi (va_runV (As := [.ref bi, .int (nI 12)]) (rest := []) ⟨hx, hb, hml, hown, hts⟩ (met_X2_bytesToWord l dC dI h0 bi 16 d1 fi 12 (by omega) (by omega)) (cwV 2 hts (lw_V q263 q265 qs5 q15 q266) rfl rfl rfl (by decide +kernel) ⟨Nat.le_of_ble_eq_true rfl, Nat.le_of_ble_eq_true rfl⟩) ⟨zr_blind, va_recv hK hP (ci := 2) (q0 := 0) rfl rfl, zr_mk hP hK [2] [1] rfl rfl⟩ rfl rfl hl.1 rfl (lv_room (Nat.le_of_ble_eq_true rfl)) dX2_decryptBlock_35 ⟨Nat.le_of_ble_eq_true rfl, Nat.le_of_ble_eq_true rfl⟩).run (fun r3 hr3 => ?_)
  refine zt (rc_wd fi 12) hr3 ?_
  refine lv_istore (lv' := [(8, .int (rc_wd fi 12)), (7, .int (rc_wd fi 8)), (6, .int (rc_wd fi 4)), (5, .int (rc_wd fi 0)), (0, .ref h0), (1, .ref bi), (2, .int (nI 0)), (3, .ref bo), (4, .int (nI 0))]) hx hb dX2_decryptBlock_38 hl (by decide) rfl (fun ls hl => ?_)
  refine lv_iload hx hb dX2_decryptBlock_40 (lv_at hl 1 rfl) ?_
  refine lv_aload_n hx hb dX2_decryptBlock_42 rfl (lv_at hl 4 rfl) ?_
  refine va_get (D := (dC, dI)) (ci := 2) (v := .ref sq) (C := RX2) (T := TX2) (N := 2) hx hb hts in_X2 hown hK hP 0 rfl rfl 0 (by decide) (hts _ q73) (fun _ h9 => h9) rfl dX2_decryptBlock_43 ?_
  refine lv_bipush (v := (nI 43)) hx hb dX2_decryptBlock_46 (by decide) ?_
  refine zz_iald hx hb hK hP 1 0 rfl rfl 43 rfl (by omega) (by omega) dX2_decryptBlock_48 ?_
  refine lv_isub hx hb dX2_decryptBlock_49 ?_
  refine lv_istore (lv' := [(7, .int ((rc_wd fi 8) - (s1 43))), (8, .int (rc_wd fi 12)), (6, .int (rc_wd fi 4)), (5, .int (rc_wd fi 0)), (0, .ref h0), (1, .ref bi), (2, .int (nI 0)), (3, .ref bo), (4, .int (nI 0))]) hx hb dX2_decryptBlock_50 hl (by decide) rfl (fun ls hl => ?_)
  refine lv_iload hx hb dX2_decryptBlock_52 (lv_at hl 3 rfl) ?_
  refine lv_aload_n hx hb dX2_decryptBlock_54 rfl (lv_at hl 4 rfl) ?_
  refine va_get (D := (dC, dI)) (ci := 2) (v := .ref sq) (C := RX2) (T := TX2) (N := 2) hx hb hts in_X2 hown hK hP 0 rfl rfl 0 (by decide) (hts _ q73) (fun _ h9 => h9) rfl dX2_decryptBlock_55 ?_
  refine lv_bipush (v := (nI 42)) hx hb dX2_decryptBlock_58 (by decide) ?_
  refine zz_iald hx hb hK hP 1 0 rfl rfl 42 rfl (by omega) (by omega) dX2_decryptBlock_60 ?_
  refine lv_isub hx hb dX2_decryptBlock_61 ?_
  refine lv_istore (lv' := [(5, .int ((rc_wd fi 0) - (s1 42))), (7, .int ((rc_wd fi 8) - (s1 43))), (8, .int (rc_wd fi 12)), (6, .int (rc_wd fi 4)), (0, .ref h0), (1, .ref bi), (2, .int (nI 0)), (3, .ref bo), (4, .int (nI 0))]) hx hb dX2_decryptBlock_62 hl (by decide) rfl (fun ls hl => ?_)
  refine lv_bipush (v := (nI 20)) hx hb dX2_decryptBlock_64 (by decide) ?_
  refine lv_istore (lv' := [(9, .int (nI 20)), (5, .int ((rc_wd fi 0) - (s1 42))), (7, .int ((rc_wd fi 8) - (s1 43))), (8, .int (rc_wd fi 12)), (6, .int (rc_wd fi 4)), (0, .ref h0), (1, .ref bi), (2, .int (nI 0)), (3, .ref bo), (4, .int (nI 0))]) hx hb dX2_decryptBlock_66 hl (by decide) rfl (fun ls hl => ?_)
  exact loop 20 0 rfl _ _ _ _ rfl ls (lv_sub hl [5, 8, 9, 1, 4, 2, 3, 0] rfl)
set_option maxHeartbeats 4000000 in
set_option maxRecDepth 100000 in
/-- RC6Engine.processBlock(in, 0, out, 0) -/
theorem met_X2_processBlock (l : Launch) (dC : Nat → ClassId) (dI : Nat → Nat → Nat) (sz : Nat) (h0 sq bi bo : Nat) (dS d1 d2 : ClassId) (z : Int32) (s1 fi fo : Nat → Int32) : Met l yX2_processBlock (ws_ yX2_processBlock cX2_processBlock 6 (some .int)) ({ frames := 2, cells := 0, slots := 0, locals := 56 }) (va_Pc [.ref h0, .ref bi, .int (nI 0), .ref bo, .int (nI 0)] (zw_pre (dC, dI) [(dS, .int), (d1, .byte), (d2, .byte)] [(h0, .inr (2, [.ref sq, .int z])), (sq, .inl (dS, 44, .inl s1)), (bi, .inl (d1, 16, .inl fi)), (bo, .inl (d2, 16, .inl fo))] sz)) (va_Qi (fun _ _ => True) (fun (_ : Unit) t => zw_post (dC, dI) [(dS, .int), (d1, .byte), (d2, .byte)] [(h0, .inr (2, [.ref sq, .int z])), (sq, .inl (dS, 44, .inl s1)), (bi, .inl (d1, 16, .inl fi)), (bo, .inl (d2, 16, .inl (rc_run z s1 fi)))] (va_A [(h0, .inr (2, [.ref sq, .int z])), (sq, .inl (dS, 44, .inl s1)), (bi, .inl (d1, 16, .inl fi)), (bo, .inl (d2, 16, .inl fo))] sz) t) (va_A [(h0, .inr (2, [.ref sq, .int z])), (sq, .inl (dS, 44, .inl s1)), (bi, .inl (d1, 16, .inl fi)), (bo, .inl (d2, 16, .inl fo))] sz)) 0 0 (va_A [(h0, .inr (2, [.ref sq, .int z])), (sq, .inl (dS, 44, .inl s1)), (bi, .inl (d1, 16, .inl fi)), (bo, .inl (d2, 16, .inl fo))] sz) := by
  refine Met.ofW (cc := cX2_processBlock) (maxL := 6) (ret := (some .int)) (by decide) rfl ?_
  intro p e s m args below meth c s₁ B hml hv
  obtain ⟨rfl, hsz, hP, hK, hD0⟩ := hv
  have hx := B.exec
  have hb := B.bytes
  have hr := B.returns
  have hts := atoms_spec (ws := (ws_ yX2_processBlock cX2_processBlock 6 (some .int))) B.pre
  have hts : ∀ w ∈ lw_all, w.before _ s = true := fun w h => hts w (List.mem_cons_of_mem _ h)
  have hown : s.vm.findClass RX2 = some m.cls := findClass_of_methodNamed B.named
  have hlocks := B.notSynchronized
  subst hsz
  have hD := hD0.self (sz := s.heap.size)
  generalize hAe : va_A [(h0, .inr (2, [.ref sq, .int z])), (sq, .inl (dS, 44, .inl s1)), (bi, .inl (d1, 16, .inl fi)), (bo, .inl (d2, 16, .inl fo))] s.heap.size = A at hD ⊢
  have hA : ∀ q : Nat, s.heap.size ≤ q → A q := fun q h => by rw [← hAe]; exact Or.inr h
  have hS : va_S A s.heap s.heap [] := va_S.rf
  have hP : va_P (dC, dI) vwCl [(h0, .inr (2, [.ref sq, .int z])), (sq, .inl (dS, 44, .inl s1)), (bi, .inl (d1, 16, .inl fi)), (bo, .inl (d2, 16, .inl fo))] s.heap := hP
  have hl := lv_entry ([.ref h0, .ref bi, .int (nI 0), .ref bo, .int (nI 0)]) (n := 6) (Nat.le_of_ble_eq_true rfl)
  rw [lg_entry_eq]
  generalize (lg_sl ([.ref h0, .ref bi, .int (nI 0), .ref bo, .int (nI 0)]) ++ List.replicate (6 - (lg_sl ([.ref h0, .ref bi, .int (nI 0), .ref bo, .int (nI 0)])).length) Slot.unset).toArray = ls at hl ⊢
  have hl : lv_has ls 6 [(0, .ref h0), (1, .ref bi), (2, .int (nI 0)), (3, .ref bo), (4, .int (nI 0))] := hl
  refine lv_aload_n hx hb dX2_processBlock_0 rfl (lv_at hl 0 rfl) ?_
  refine vp_callSi (va_runV (As := []) (rest := []) ⟨hx, hb, hml, hown, hts⟩ (met_X2_getBlockSize l h0) (cwV 0 hts (lw_V q201 q202 q203 q15 q204) rfl rfl rfl (by decide +kernel) ⟨Nat.le_of_ble_eq_true rfl, Nat.le_of_ble_eq_true rfl⟩) ⟨fun _ _ _ _ q => q, va_recv hK hP (ci := 2) (q0 := 0) rfl rfl, fun _ _ _ => ⟨rfl, trivial⟩⟩ rfl rfl hl.1 rfl (lv_room (Nat.le_of_ble_eq_true rfl)) dX2_processBlock_1 ⟨Nat.le_of_ble_eq_true rfl, Nat.le_of_ble_eq_true rfl⟩).run (fun rs hrs => ?_)
  refine zt (nI 16) hrs ?_
  refine lv_istore (lv' := [(5, .int (nI 16)), (0, .ref h0), (1, .ref bi), (2, .int (nI 0)), (3, .ref bo), (4, .int (nI 0))]) hx hb dX2_processBlock_4 hl (by decide) rfl (fun ls hl => ?_)
  refine lv_aload_n hx hb dX2_processBlock_6 rfl (lv_at hl 1 rfl) ?_
  refine va_get (D := (dC, dI)) (ci := 2) (v := .ref sq) (C := RX2) (T := TX2) (N := 2) hx hb hts in_X2 hown hK hP 0 rfl rfl 0 (by decide) (hts _ q73) (fun _ h9 => h9) rfl dX2_processBlock_7 ?_
  refine lv_ifnonnull (tgt := 23) hx hb dX2_processBlock_10 (by decide) ?_
  refine lv_iload_n hx hb dX2_processBlock_23 rfl (lv_at hl 3 rfl) ?_
  refine lv_iload hx hb dX2_processBlock_24 (lv_at hl 0 rfl) ?_
  refine lv_iadd hx hb dX2_processBlock_26 ?_
  refine zt (nI 16) (by decide +kernel) ?_
  refine lv_aload_n hx hb dX2_processBlock_27 rfl (lv_at hl 2 rfl) ?_
  refine va_alen (v := nI 16) hx hb hK hP 2 1 rfl rfl rfl dX2_processBlock_28 ?_
  refine lv_icmp_le (tgt := 42) hx hb dX2_processBlock_29 (by decide) (fun _ => ?_) (fun c_ => absurd (by decide +kernel) c_)
  refine lv_iload hx hb dX2_processBlock_42 (lv_at hl 5 rfl) ?_
  refine lv_iload hx hb dX2_processBlock_44 (lv_at hl 0 rfl) ?_
  refine lv_iadd hx hb dX2_processBlock_46 ?_
  refine zt (nI 16) (by decide +kernel) ?_
  refine lv_aload_n hx hb dX2_processBlock_47 rfl (lv_at hl 4 rfl) ?_
  refine va_alen (v := nI 16) hx hb hK hP 3 2 rfl rfl rfl dX2_processBlock_48 ?_
  refine lv_icmp_le (tgt := 62) hx hb dX2_processBlock_49 (by decide) (fun _ => ?_) (fun c_ => absurd (by decide +kernel) c_)
  refine lv_aload_n hx hb dX2_processBlock_62 rfl (lv_at hl 1 rfl) ?_
  refine va_get (D := (dC, dI)) (ci := 2) (v := .int z) (C := RX2) (T := TX2) (N := 2) hx hb hts in_X2 hown hK hP 0 rfl rfl 1 (by decide) (hts _ q74) (fun _ h9 => h9) rfl dX2_processBlock_63 ?_
  refine lv_if_eq (tgt := 81) hx hb dX2_processBlock_66 (by decide) (fun cz => ?_) (fun cz => ?_)
  · refine lv_aload_n hx hb dX2_processBlock_81 rfl (lv_at hl 1 rfl) ?_
    refine lv_aload_n hx hb dX2_processBlock_82 rfl (lv_at hl 2 rfl) ?_
    refine lv_iload_n hx hb dX2_processBlock_83 rfl (lv_at hl 3 rfl) ?_
    refine lv_aload_n hx hb dX2_processBlock_84 rfl (lv_at hl 4 rfl) ?_
    refine lv_iload hx hb dX2_processBlock_85 (lv_at hl 5 rfl) ?_
    refine zc_i (wc := [(h0, .inr (2, [.ref sq, .int z])), (sq, .inl (dS, 44, .inl s1)), (bi, .inl (d1, 16, .inl fi)), (bo, .inl (d2, 16, .inl fo))]) (wr := []) hP hD hS hA [0, 1, 2, 3] [] rfl rfl rfl (by decide) (va_runV (As := [.ref bi, .int (nI 0), .ref bo, .int (nI 0)]) (rest := []) ⟨hx, hb, hml, hown, hts⟩ (met_X2_decryptBlock l dC dI _ h0 sq bi bo dS d1 d2 z s1 fi fo) (cwV 4 hts (lw_V q271 q273 qs7 q15 q274) rfl rfl rfl (by decide +kernel) ⟨Nat.le_of_ble_eq_true rfl, Nat.le_of_ble_eq_true rfl⟩) ⟨zw_blind, va_recv hK hP (ci := 2) (q0 := 0) rfl rfl, zw_mk hP hD hK [0, 1, 2, 3] [0, 1, 2] rfl rfl rfl rfl⟩ rfl rfl hl.1 rfl (lv_room (Nat.le_of_ble_eq_true rfl)) dX2_processBlock_87 ⟨Nat.le_of_ble_eq_true rfl, Nat.le_of_ble_eq_true rfl⟩) (fun r _ H locs _ hP hD hK1 hS => ?_)
    have hP : va_P (dC, dI) vwCl [(h0, .inr (2, [.ref sq, .int z])), (sq, .inl (dS, 44, .inl s1)), (bi, .inl (d1, 16, .inl fi)), (bo, .inl (d2, 16, .inl (rc_o (rc_dec s1 fi))))] H := hP
    have hD : va_D A [(h0, .inr (2, [.ref sq, .int z])), (sq, .inl (dS, 44, .inl s1)), (bi, .inl (d1, 16, .inl fi)), (bo, .inl (d2, 16, .inl (rc_o (rc_dec s1 fi))))] := hD
    have hP := zz_ext hP 3 rfl (g := rc_run z s1 fi) (fun j _ => by unfold rc_run; rw [if_pos cz])
    have hD : va_D A [(h0, .inr (2, [.ref sq, .int z])), (sq, .inl (dS, 44, .inl s1)), (bi, .inl (d1, 16, .inl fi)), (bo, .inl (d2, 16, .inl (rc_run z s1 fi)))] := hD.set (p := 3) rfl
    have hP9 := hP.sub (ws' := [(h0, .inr (2, [.ref sq, .int z])), (sq, .inl (dS, 44, .inl s1)), (bi, .inl (d1, 16, .inl fi)), (bo, .inl (d2, 16, .inl (rc_run z s1 fi)))]) [0, 1, 2, 3] rfl
    have hD9 := hD.sub (ws' := [(h0, .inr (2, [.ref sq, .int z])), (sq, .inl (dS, 44, .inl s1)), (bi, .inl (d1, 16, .inl fi)), (bo, .inl (d2, 16, .inl (rc_run z s1 fi)))]) [0, 1, 2, 3] (by decide) rfl
    have hK9 := hK.sub (tys' := [(dS, .int), (d1, .byte), (d2, .byte)]) [0, 1, 2] rfl
    exact W.iret (v := r) hx hb hr (fun t ht hW => ⟨⟨r, (), rfl, trivial, by rw [ht]; exact hP9, va_K.moved hW.alike hK9, hD9⟩, hS.F ht⟩) hS.2.2 dX2_processBlock_90
  · refine lv_aload_n hx hb dX2_processBlock_69 rfl (lv_at hl 1 rfl) ?_
    refine lv_aload_n hx hb dX2_processBlock_70 rfl (lv_at hl 2 rfl) ?_
    refine lv_iload_n hx hb dX2_processBlock_71 rfl (lv_at hl 3 rfl) ?_
    refine lv_aload_n hx hb dX2_processBlock_72 rfl (lv_at hl 4 rfl) ?_
    refine lv_iload hx hb dX2_processBlock_73 (lv_at hl 5 rfl) ?_
    refine zc_i (wc := [(h0, .inr (2, [.ref sq, .int z])), (sq, .inl (dS, 44, .inl s1)), (bi, .inl (d1, 16, .inl fi)), (bo, .inl (d2, 16, .inl fo))]) (wr := []) hP hD hS hA [0, 1, 2, 3] [] rfl rfl rfl (by decide) (va_runV (As := [.ref bi, .int (nI 0), .ref bo, .int (nI 0)]) (rest := []) ⟨hx, hb, hml, hown, hts⟩ (met_X2_encryptBlock l dC dI _ h0 sq bi bo dS d1 d2 z s1 fi fo) (cwV 4 hts (lw_V q259 q261 qs4 q15 q262) rfl rfl rfl (by decide +kernel) ⟨Nat.le_of_ble_eq_true rfl, Nat.le_of_ble_eq_true rfl⟩) ⟨zw_blind, va_recv hK hP (ci := 2) (q0 := 0) rfl rfl, zw_mk hP hD hK [0, 1, 2, 3] [0, 1, 2] rfl rfl rfl rfl⟩ rfl rfl hl.1 rfl (lv_room (Nat.le_of_ble_eq_true rfl)) dX2_processBlock_75 ⟨Nat.le_of_ble_eq_true rfl, Nat.le_of_ble_eq_true rfl⟩) (fun r _ H locs _ hP hD hK1 hS => ?_)
    have hP : va_P (dC, dI) vwCl [(h0, .inr (2, [.ref sq, .int z])), (sq, .inl (dS, 44, .inl s1)), (bi, .inl (d1, 16, .inl fi)), (bo, .inl (d2, 16, .inl (rc_o (rc_enc s1 fi))))] H := hP
    have hD : va_D A [(h0, .inr (2, [.ref sq, .int z])), (sq, .inl (dS, 44, .inl s1)), (bi, .inl (d1, 16, .inl fi)), (bo, .inl (d2, 16, .inl (rc_o (rc_enc s1 fi))))] := hD
    have hP := zz_ext hP 3 rfl (g := rc_run z s1 fi) (fun j _ => by unfold rc_run; rw [if_neg cz])
    have hD : va_D A [(h0, .inr (2, [.ref sq, .int z])), (sq, .inl (dS, 44, .inl s1)), (bi, .inl (d1, 16, .inl fi)), (bo, .inl (d2, 16, .inl (rc_run z s1 fi)))] := hD.set (p := 3) rfl
    refine lv_goto (tgt := 90) hx hb dX2_processBlock_78 (by decide) ?_
    have hP9 := hP.sub (ws' := [(h0, .inr (2, [.ref sq, .int z])), (sq, .inl (dS, 44, .inl s1)), (bi, .inl (d1, 16, .inl fi)), (bo, .inl (d2, 16, .inl (rc_run z s1 fi)))]) [0, 1, 2, 3] rfl
    have hD9 := hD.sub (ws' := [(h0, .inr (2, [.ref sq, .int z])), (sq, .inl (dS, 44, .inl s1)), (bi, .inl (d1, 16, .inl fi)), (bo, .inl (d2, 16, .inl (rc_run z s1 fi)))]) [0, 1, 2, 3] (by decide) rfl
    have hK9 := hK.sub (tys' := [(dS, .int), (d1, .byte), (d2, .byte)]) [0, 1, 2] rfl
    exact W.iret (v := r) hx hb hr (fun t ht hW => ⟨⟨r, (), rfl, trivial, by rw [ht]; exact hP9, va_K.moved hW.alike hK9, hD9⟩, hS.F ht⟩) hS.2.2 dX2_processBlock_90
set_option maxHeartbeats 4000000 in
set_option maxRecDepth 100000 in
/-- KeyParameter(int) -/
theorem met_X3_init_3 (l : Launch) (dC : Nat → ClassId) (dI : Nat → Nat → Nat) (sz : Nat) (q3 n : Nat) (hn : n ≤ 32) : Met l yX3_init_3 (ws_ yX3_init_3 cX3_init_3 2 none) ({ frames := 1, cells := 1, slots := 32, locals := 12 }) (va_Pc [.ref q3, .int (nI n)] (zw_pre (dC, dI) [] [(q3, .inr (3, [.null]))] sz)) (va_Qv (fun _ => True) (fun (u : Nat × ClassId) t => zw_post (dC, dI) [(u.2, .byte)] [(q3, .inr (3, [.ref u.1])), (u.1, .inl (u.2, n, .inl (fun _ => 0)))] (va_A [(q3, .inr (3, [.null]))] sz) t) (va_A [(q3, .inr (3, [.null]))] sz)) 1 32 (va_A [(q3, .inr (3, [.null]))] sz) := by
  refine Met.ofW (cc := cX3_init_3) (maxL := 2) (ret := none) (by decide) rfl ?_
  intro p e s m args below meth c s₁ B hml hv
  obtain ⟨rfl, hsz, hP, hK, hD0⟩ := hv
  have hx := B.exec
  have hb := B.bytes
  have hr := B.returns
  have hts := atoms_spec (ws := (ws_ yX3_init_3 cX3_init_3 2 none)) B.pre
  have hts : ∀ w ∈ lw_all, w.before _ s = true := fun w h => hts w (List.mem_cons_of_mem _ h)
  have hown : s.vm.findClass RX3 = some m.cls := findClass_of_methodNamed B.named
  have hlocks := B.notSynchronized
  have hin : meth.name = "<init>" := (name_of_methodNamed B.named B.method).1
  subst hsz
  have hD := hD0.self (sz := s.heap.size)
  generalize hAe : va_A [(q3, .inr (3, [.null]))] s.heap.size = A at hD ⊢
  have hA : ∀ q : Nat, s.heap.size ≤ q → A q := fun q h => by rw [← hAe]; exact Or.inr h
  have hS : va_S A s.heap s.heap [] := va_S.rf
  have hP : va_P (dC, dI) vwCl [(q3, .inr (3, [.null]))] s.heap := hP
  have hl := lv_entry ([.ref q3, .int (nI n)]) (n := 2) (Nat.le_of_ble_eq_true rfl)
  rw [lg_entry_eq]
  generalize (lg_sl ([.ref q3, .int (nI n)]) ++ List.replicate (2 - (lg_sl ([.ref q3, .int (nI n)])).length) Slot.unset).toArray = ls at hl ⊢
  have hl : lv_has ls 2 [(0, .ref q3), (1, .int (nI n))] := hl
  refine lv_aload_n hx hb dX3_init_3_0 rfl (lv_at hl 0 rfl) ?_
  refine W.objInit hx hb hown (hts _ q91) (hts _ q32) (hts _ q33) rfl (by rw [hml]; exact hl.1) rfl dX3_init_3_1 (Nat.le_of_ble_eq_true rfl) (Nat.le_of_ble_eq_true rfl) ?_
  refine W.eq (g2 := F0 m 4 ls []) rfl ?_
  refine lv_aload_n hx hb dX3_init_3_4 rfl (lv_at hl 0 rfl) ?_
  refine lv_iload_n hx hb dX3_init_3_5 rfl (lv_at hl 1 rfl) ?_
  refine zz_newb hx hb (hts _ q44) hK hP hD hS hA n rfl (by omega) (Nat.le_of_ble_eq_true rfl) (by show 0 + n ≤ 32; omega) dX3_init_3_6 (fun kq dK H hK hP hD hS => ?_)
  have hP : va_P (dC, dI) vwCl [(q3, .inr (3, [.null])), (kq, .inl (dK, n, .inl (fun _ => 0)))] H := hP
  have hD : va_D A [(q3, .inr (3, [.null])), (kq, .inl (dK, n, .inl (fun _ => 0)))] := hD
  have hK : va_K (dC, dI) vwCl [(dK, .byte)] s := hK
  refine W.widen (k := 1) (n := 32) (Nat.le_of_ble_eq_true rfl) (by omega) ?_
  refine va_put (D := (dC, dI)) (ci := 3) (v := .ref kq) (ty := .array .byte) (C := RX3) (T := TX3) (N := 1) hx hb hts in_X3 tyX3 tyX3_ok nmX3 hown hK hP hD hS 0 rfl rfl 0 (by decide) (hts _ q92) (fun _ h9 => h9) rfl (by decide +kernel) rfl rfl (Nat.le_of_ble_eq_true rfl) dX3_init_3_8 (fun H locs hP hD hS => ?_)
  have hP : va_P (dC, dI) vwCl [(q3, .inr (3, [.ref kq])), (kq, .inl (dK, n, .inl (fun _ => 0)))] H := hP
  have hD : va_D A [(q3, .inr (3, [.ref kq])), (kq, .inl (dK, n, .inl (fun _ => 0)))] := hD
  have hP9 := hP.sub (ws' := [(q3, .inr (3, [.ref kq])), (kq, .inl (dK, n, .inl (fun _ => 0)))]) [0, 1] rfl
  have hD9 := hD.sub (ws' := [(q3, .inr (3, [.ref kq])), (kq, .inl (dK, n, .inl (fun _ => 0)))]) [0, 1] (by decide) rfl
  have hK9 := hK.sub (tys' := [(dK, .byte)]) [0] rfl
  exact W.vret hx hb hr (fun t ht hW => ⟨⟨(kq, dK), rfl, trivial, by rw [ht]; exact hP9, va_K.moved hW.alike hK9, hD9⟩, hS.F ht⟩) hS.2.2 dX3_init_3_11
set_option maxHeartbeats 4000000 in
set_option maxRecDepth 100000 in
/-- KeyParameter(byte[], 0, n) -/
theorem met_X3_init_2 (l : Launch) (dC : Nat → ClassId) (dI : Nat → Nat → Nat) (sz : Nat) (q3 hk n : Nat) (dB : ClassId) (f : Nat → Int32) (hn : n ≤ 32) (hf : rc_By f) : Met l yX3_init_2 (ws_ yX3_init_2 cX3_init_2 4 none) ({ frames := 2, cells := 1, slots := 32, locals := 33 }) (va_Pc [.ref q3, .ref hk, .int (nI 0), .int (nI n)] (zw_pre (dC, dI) [(dB, .byte)] [(q3, .inr (3, [.null])), (hk, .inl (dB, n, .inl f))] sz)) (va_Qv (fun _ => True) (fun (u : Nat × ClassId) t => zw_post (dC, dI) [(dB, .byte), (u.2, .byte)] [(q3, .inr (3, [.ref u.1])), (hk, .inl (dB, n, .inl f)), (u.1, .inl (u.2, n, .inl f))] (va_A [(q3, .inr (3, [.null])), (hk, .inl (dB, n, .inl f))] sz) t) (va_A [(q3, .inr (3, [.null])), (hk, .inl (dB, n, .inl f))] sz)) 1 32 (va_A [(q3, .inr (3, [.null])), (hk, .inl (dB, n, .inl f))] sz) := by
  refine Met.ofW (cc := cX3_init_2) (maxL := 4) (ret := none) (by decide) rfl ?_
  intro p e s m args below meth c s₁ B hml hv
  obtain ⟨rfl, hsz, hP, hK, hD0⟩ := hv
  have hx := B.exec
  have hb := B.bytes
  have hr := B.returns
  have hts := atoms_spec (ws := (ws_ yX3_init_2 cX3_init_2 4 none)) B.pre
  have hts : ∀ w ∈ lw_all, w.before _ s = true := fun w h => hts w (List.mem_cons_of_mem _ h)
  have hown : s.vm.findClass RX3 = some m.cls := findClass_of_methodNamed B.named
  have hlocks := B.notSynchronized
  have hin : meth.name = "<init>" := (name_of_methodNamed B.named B.method).1
  subst hsz
  have hD := hD0.self (sz := s.heap.size)
  generalize hAe : va_A [(q3, .inr (3, [.null])), (hk, .inl (dB, n, .inl f))] s.heap.size = A at hD ⊢
  have hA : ∀ q : Nat, s.heap.size ≤ q → A q := fun q h => by rw [← hAe]; exact Or.inr h
  have hS : va_S A s.heap s.heap [] := va_S.rf
  have hP : va_P (dC, dI) vwCl [(q3, .inr (3, [.null])), (hk, .inl (dB, n, .inl f))] s.heap := hP
  have hl := lv_entry ([.ref q3, .ref hk, .int (nI 0), .int (nI n)]) (n := 4) (Nat.le_of_ble_eq_true rfl)
  rw [lg_entry_eq]
  generalize (lg_sl ([.ref q3, .ref hk, .int (nI 0), .int (nI n)]) ++ List.replicate (4 - (lg_sl ([.ref q3, .ref hk, .int (nI 0), .int (nI n)])).length) Slot.unset).toArray = ls at hl ⊢
  have hl : lv_has ls 4 [(0, .ref q3), (1, .ref hk), (2, .int (nI 0)), (3, .int (nI n))] := hl
  refine lv_aload_n hx hb dX3_init_2_0 rfl (lv_at hl 0 rfl) ?_
  refine lv_iload_n hx hb dX3_init_2_1 rfl (lv_at hl 3 rfl) ?_
  refine zc_v (wc := [(q3, .inr (3, [.null]))]) (wr := [(hk, .inl (dB, n, .inl f))]) hP hD hS hA [0] [1] rfl rfl rfl (by decide) (va_runI (As := [.int (nI n)]) (rest := []) ⟨hx, hb, hml, hown, hts⟩ (met_X3_init_3 l dC dI _ q3 n hn) (cwI 1 hts (lw_meth q90) rfl rfl rfl (hts _ q16) (hts _ q88) (hts _ q89) rfl (by decide +kernel) ⟨Nat.le_of_ble_eq_true rfl, Nat.le_of_ble_eq_true rfl⟩) ⟨zw_blind, zw_mk hP hD hK [0] [] rfl rfl rfl rfl⟩ rfl rfl hl.1 rfl (lv_room (Nat.le_of_ble_eq_true rfl)) dX3_init_2_2 ⟨Nat.le_of_ble_eq_true rfl, Nat.le_of_ble_eq_true rfl⟩) (fun u H locs _ hP hD hK1 hS => ?_)
  obtain ⟨kq, dK⟩ := u
  have hK := hK.app hK1
  have hP : va_P (dC, dI) vwCl [(hk, .inl (dB, n, .inl f)), (q3, .inr (3, [.ref kq])), (kq, .inl (dK, n, .inl (fun _ => 0)))] H := hP
  have hD : va_D A [(hk, .inl (dB, n, .inl f)), (q3, .inr (3, [.ref kq])), (kq, .inl (dK, n, .inl (fun _ => 0)))] := hD
  have hK : va_K (dC, dI) vwCl [(dB, .byte), (dK, .byte)] s := hK
  refine W.widen (k := 1) (n := 32) (Nat.le_of_ble_eq_true rfl) (Nat.le_of_ble_eq_true rfl) ?_
  refine lv_aload_n hx hb dX3_init_2_5 rfl (lv_at hl 1 rfl) ?_
  refine lv_iload_n hx hb dX3_init_2_6 rfl (lv_at hl 2 rfl) ?_
  refine lv_aload_n hx hb dX3_init_2_7 rfl (lv_at hl 0 rfl) ?_
  refine va_get (D := (dC, dI)) (ci := 3) (v := .ref kq) (C := RX3) (T := TX3) (N := 1) hx hb hts in_X3 hown hK hP 1 rfl rfl 0 (by decide) (hts _ q92) (fun _ h9 => h9) rfl dX3_init_2_8 ?_
  refine lv_iconst (v := (nI 0)) hx hb dX3_init_2_11 (by decide) ?_
  refine lv_iload_n hx hb dX3_init_2_12 rfl (lv_at hl 3 rfl) ?_
  refine va_copyi hx hb (by rw [hml]; exact hl.1.symm) hown (hts _ q96) (hts _ q98) (hts _ q97) (hts _ q17) hK hP hD hS 0 2 0 1 rfl rfl rfl rfl rfl (nI_pos (by omega)) (nI_pos (by omega)) (nI_pos (by omega)) (by rw [nI_clamp (by omega), nI_clamp (by omega)]; omega) (by rw [nI_clamp (by omega), nI_clamp (by omega)]; omega) (fun i _ => rc_By_fit hf _) (Nat.le_of_ble_eq_true rfl) (Nat.le_of_ble_eq_true rfl) dX3_init_2_13 (fun H locs hP hD hS => ?_)
  have hP : va_P (dC, dI) vwCl [(hk, .inl (dB, n, .inl f)), (q3, .inr (3, [.ref kq])), (kq, .inl (dK, n, .inl (va_cpy f (fun _ => 0) (nI 0).toNatClampNeg (nI 0).toNatClampNeg (nI n).toNatClampNeg)))] H := hP
  have hD : va_D A [(hk, .inl (dB, n, .inl f)), (q3, .inr (3, [.ref kq])), (kq, .inl (dK, n, .inl (va_cpy f (fun _ => 0) (nI 0).toNatClampNeg (nI 0).toNatClampNeg (nI n).toNatClampNeg)))] := hD
  have hP := zz_ext hP 2 rfl (g := f) (fun j hj => rc_cpy f _ n j (by omega) hj)
  have hD : va_D A [(hk, .inl (dB, n, .inl f)), (q3, .inr (3, [.ref kq])), (kq, .inl (dK, n, .inl f))] := hD.set (p := 2) rfl
  have hP9 := hP.sub (ws' := [(q3, .inr (3, [.ref kq])), (hk, .inl (dB, n, .inl f)), (kq, .inl (dK, n, .inl f))]) [1, 0, 2] rfl
  have hD9 := hD.sub (ws' := [(q3, .inr (3, [.ref kq])), (hk, .inl (dB, n, .inl f)), (kq, .inl (dK, n, .inl f))]) [1, 0, 2] (by decide) rfl
  have hK9 := hK.sub (tys' := [(dB, .byte), (dK, .byte)]) [0, 1] rfl
  exact W.vret hx hb hr (fun t ht hW => ⟨⟨(kq, dK), rfl, trivial, by rw [ht]; exact hP9, va_K.moved hW.alike hK9, hD9⟩, hS.F ht⟩) hS.2.2 dX3_init_2_16
set_option maxHeartbeats 4000000 in
set_option maxRecDepth 100000 in
/-- KeyParameter(byte[]) -/
theorem met_X3_init (l : Launch) (dC : Nat → ClassId) (dI : Nat → Nat → Nat) (sz : Nat) (q3 hk n : Nat) (dB : ClassId) (f : Nat → Int32) (hn : n ≤ 32) (hf : rc_By f) : Met l yX3_init (ws_ yX3_init cX3_init 2 none) ({ frames := 3, cells := 1, slots := 32, locals := 56 }) (va_Pc [.ref q3, .ref hk] (zw_pre (dC, dI) [(dB, .byte)] [(q3, .inr (3, [.null])), (hk, .inl (dB, n, .inl f))] sz)) (va_Qv (fun _ => True) (fun (u : Nat × ClassId) t => zw_post (dC, dI) [(dB, .byte), (u.2, .byte)] [(q3, .inr (3, [.ref u.1])), (hk, .inl (dB, n, .inl f)), (u.1, .inl (u.2, n, .inl f))] (va_A [(q3, .inr (3, [.null])), (hk, .inl (dB, n, .inl f))] sz) t) (va_A [(q3, .inr (3, [.null])), (hk, .inl (dB, n, .inl f))] sz)) 1 32 (va_A [(q3, .inr (3, [.null])), (hk, .inl (dB, n, .inl f))] sz) := by
  refine Met.ofW (cc := cX3_init) (maxL := 2) (ret := none) (by decide) rfl ?_
  intro p e s m args below meth c s₁ B hml hv
  obtain ⟨rfl, hsz, hP, hK, hD0⟩ := hv
  have hx := B.exec
  have hb := B.bytes
  have hr := B.returns
  have hts := atoms_spec (ws := (ws_ yX3_init cX3_init 2 none)) B.pre
  have hts : ∀ w ∈ lw_all, w.before _ s = true := fun w h => hts w (List.mem_cons_of_mem _ h)
  have hown : s.vm.findClass RX3 = some m.cls := findClass_of_methodNamed B.named
  have hlocks := B.notSynchronized
  have hin : meth.name = "<init>" := (name_of_methodNamed B.named B.method).1
  subst hsz
  have hD := hD0.self (sz := s.heap.size)
  generalize hAe : va_A [(q3, .inr (3, [.null])), (hk, .inl (dB, n, .inl f))] s.heap.size = A at hD ⊢
  have hA : ∀ q : Nat, s.heap.size ≤ q → A q := fun q h => by rw [← hAe]; exact Or.inr h
  have hS : va_S A s.heap s.heap [] := va_S.rf
  have hP : va_P (dC, dI) vwCl [(q3, .inr (3, [.null])), (hk, .inl (dB, n, .inl f))] s.heap := hP
  have hl := lv_entry ([.ref q3, .ref hk]) (n := 2) (Nat.le_of_ble_eq_true rfl)
  rw [lg_entry_eq]
  generalize (lg_sl ([.ref q3, .ref hk]) ++ List.replicate (2 - (lg_sl ([.ref q3, .ref hk])).length) Slot.unset).toArray = ls at hl ⊢
  have hl : lv_has ls 2 [(0, .ref q3), (1, .ref hk)] := hl
  refine lv_aload_n hx hb dX3_init_0 rfl (lv_at hl 0 rfl) ?_
  refine lv_aload_n hx hb dX3_init_1 rfl (lv_at hl 1 rfl) ?_
  refine lv_iconst (v := (nI 0)) hx hb dX3_init_2 (by decide) ?_
  refine lv_aload_n hx hb dX3_init_3 rfl (lv_at hl 1 rfl) ?_
  refine va_alen (v := nI n) hx hb hK hP 1 0 rfl rfl rfl dX3_init_4 ?_
  refine zc_v (wc := [(q3, .inr (3, [.null])), (hk, .inl (dB, n, .inl f))]) (wr := []) hP hD hS hA [0, 1] [] rfl rfl rfl (by decide) (va_runI (As := [.ref hk, .int (nI 0), .int (nI n)]) (rest := []) ⟨hx, hb, hml, hown, hts⟩ (met_X3_init_2 l dC dI _ q3 hk n dB f hn hf) (cwI 3 hts (lw_meth q87) rfl rfl rfl (hts _ q16) (hts _ q85) (hts _ q86) rfl (by decide +kernel) ⟨Nat.le_of_ble_eq_true rfl, Nat.le_of_ble_eq_true rfl⟩) ⟨zw_blind, zw_mk hP hD hK [0, 1] [0] rfl rfl rfl rfl⟩ rfl rfl hl.1 rfl (lv_room (Nat.le_of_ble_eq_true rfl)) dX3_init_5 ⟨Nat.le_of_ble_eq_true rfl, Nat.le_of_ble_eq_true rfl⟩) (fun u H locs _ hP hD hK1 hS => ?_)
  obtain ⟨kq, dK⟩ := u
  have hK := hK.app hK1
  have hP : va_P (dC, dI) vwCl [(q3, .inr (3, [.ref kq])), (hk, .inl (dB, n, .inl f)), (kq, .inl (dK, n, .inl f))] H := hP
  have hD : va_D A [(q3, .inr (3, [.ref kq])), (hk, .inl (dB, n, .inl f)), (kq, .inl (dK, n, .inl f))] := hD
  have hK : va_K (dC, dI) vwCl [(dB, .byte), (dB, .byte), (dK, .byte)] s := hK
  refine W.widen (k := 1) (n := 32) (Nat.le_of_ble_eq_true rfl) (Nat.le_of_ble_eq_true rfl) ?_
  have hP9 := hP.sub (ws' := [(q3, .inr (3, [.ref kq])), (hk, .inl (dB, n, .inl f)), (kq, .inl (dK, n, .inl f))]) [0, 1, 2] rfl
  have hD9 := hD.sub (ws' := [(q3, .inr (3, [.ref kq])), (hk, .inl (dB, n, .inl f)), (kq, .inl (dK, n, .inl f))]) [0, 1, 2] (by decide) rfl
  have hK9 := hK.sub (tys' := [(dB, .byte), (dK, .byte)]) [0, 2] rfl
  exact W.vret hx hb hr (fun t ht hW => ⟨⟨(kq, dK), rfl, trivial, by rw [ht]; exact hP9, va_K.moved hW.alike hK9, hD9⟩, hS.F ht⟩) hS.2.2 dX3_init_8
set_option maxHeartbeats 4000000 in
set_option maxRecDepth 100000 in
/-- KeyParameter.getKey() -/
theorem met_X3_getKey (l : Launch) (dC : Nat → ClassId) (dI : Nat → Nat → Nat) (q3 kq : Nat) : Met l yX3_getKey (ws_ yX3_getKey cX3_getKey 1 (some (.array .byte))) ({ frames := 0, cells := 0, slots := 0, locals := 0 }) (va_Pc [.ref q3] (zr_pre (dC, dI) [] [(q3, .inr (3, [.ref kq]))])) (va_Sr (fun q => q = kq) (fun q => .ref q)) 0 0 (fun _ => False) := by
  refine Met.ofW (cc := cX3_getKey) (maxL := 1) (ret := (some (.array .byte))) (by decide) rfl ?_
  intro p e s m args below meth c s₁ B hml hv
  obtain ⟨rfl, hP, hK⟩ := hv
  have hx := B.exec
  have hb := B.bytes
  have hr := B.returns
  have hts := atoms_spec (ws := (ws_ yX3_getKey cX3_getKey 1 (some (.array .byte)))) B.pre
  have hts : ∀ w ∈ lw_all, w.before _ s = true := fun w h => hts w (List.mem_cons_of_mem _ h)
  have hown : s.vm.findClass RX3 = some m.cls := findClass_of_methodNamed B.named
  have hlocks := B.notSynchronized
  have hl := lv_entry ([.ref q3]) (n := 1) (Nat.le_of_ble_eq_true rfl)
  rw [lg_entry_eq]
  generalize (lg_sl ([.ref q3]) ++ List.replicate (1 - (lg_sl ([.ref q3])).length) Slot.unset).toArray = ls at hl ⊢
  have hl : lv_has ls 1 [(0, .ref q3)] := hl
  refine lv_aload_n hx hb dX3_getKey_0 rfl (lv_at hl 0 rfl) ?_
  refine va_get (D := (dC, dI)) (ci := 3) (v := .ref kq) (C := RX3) (T := TX3) (N := 1) hx hb hts in_X3 hown hK hP 0 rfl rfl 0 (by decide) (hts _ q92) (fun _ h9 => h9) rfl dX3_getKey_1 ?_
  exact W.aret hx hb hr (Or.inr ⟨_, rfl⟩) (Or.inr ⟨_, rfl⟩) (fun t ht hW => ⟨kq, rfl, rfl, ht⟩) (fun q h => by cases h) dX3_getKey_4
set_option maxHeartbeats 4000000 in
set_option maxRecDepth 100000 in
/-- RC6Engine.init(forEncryption, params) -/
theorem met_X2_init_2 (l : Launch) (dC : Nat → ClassId) (dI : Nat → Nat → Nat) (sz : Nat) (h0 pq hk nw : Nat) (dB : ClassId) (f : Nat → Int32) (z : Int32) (hw : nw = 4 ∨ nw = 6 ∨ nw = 8) (hzn : narrow .boolean (.int z) = .int z) (hzf : fits .boolean (.int z) = true) : Met l yX2_init_2 (ws_ yX2_init_2 cX2_init_2 5 none) ({ frames := 2, cells := 2, slots := 52, locals := 51 }) (va_Pc [.ref h0, .int z, .ref pq] (zw_pre (dC, dI) [(dB, .byte)] [(h0, .inr (2, [.null, .int 0])), (pq, .inr (3, [.ref hk])), (hk, .inl (dB, 4 * nw, .inl f))] sz)) (va_Qv (fun _ => True) (fun (u : Nat × ClassId) t => zw_post (dC, dI) [(dB, .byte), (u.2, .int)] [(h0, .inr (2, [.ref u.1, .int z])), (pq, .inr (3, [.ref hk])), (hk, .inl (dB, 4 * nw, .inl f)), (u.1, .inl (u.2, 44, .inl (rc_S nw f)))] (va_A [(h0, .inr (2, [.null, .int 0])), (pq, .inr (3, [.ref hk])), (hk, .inl (dB, 4 * nw, .inl f))] sz) t) (va_A [(h0, .inr (2, [.null, .int 0])), (pq, .inr (3, [.ref hk])), (hk, .inl (dB, 4 * nw, .inl f))] sz)) 2 52 (va_A [(h0, .inr (2, [.null, .int 0])), (pq, .inr (3, [.ref hk])), (hk, .inl (dB, 4 * nw, .inl f))] sz) := by
  refine Met.ofW (cc := cX2_init_2) (maxL := 5) (ret := none) (by decide) rfl ?_
  intro p e s m args below meth c s₁ B hml hv
  obtain ⟨rfl, hsz, hP, hK, hD0⟩ := hv
  have hx := B.exec
  have hb := B.bytes
  have hr := B.returns
  have hts := atoms_spec (ws := (ws_ yX2_init_2 cX2_init_2 5 none)) B.pre
  have hts : ∀ w ∈ lw_all, w.before _ s = true := fun w h => hts w (List.mem_cons_of_mem _ h)
  have hown : s.vm.findClass RX2 = some m.cls := findClass_of_methodNamed B.named
  have hlocks := B.notSynchronized
  subst hsz
  have hD := hD0.self (sz := s.heap.size)
  generalize hAe : va_A [(h0, .inr (2, [.null, .int 0])), (pq, .inr (3, [.ref hk])), (hk, .inl (dB, 4 * nw, .inl f))] s.heap.size = A at hD ⊢
  have hA : ∀ q : Nat, s.heap.size ≤ q → A q := fun q h => by rw [← hAe]; exact Or.inr h
  have hS : va_S A s.heap s.heap [] := va_S.rf
  have hP : va_P (dC, dI) vwCl [(h0, .inr (2, [.null, .int 0])), (pq, .inr (3, [.ref hk])), (hk, .inl (dB, 4 * nw, .inl f))] s.heap := hP
  have hl := lv_entry ([.ref h0, .int z, .ref pq]) (n := 5) (Nat.le_of_ble_eq_true rfl)
  rw [lg_entry_eq]
  generalize (lg_sl ([.ref h0, .int z, .ref pq]) ++ List.replicate (5 - (lg_sl ([.ref h0, .int z, .ref pq])).length) Slot.unset).toArray = ls at hl ⊢
  have hl : lv_has ls 5 [(0, .ref h0), (1, .int z), (2, .ref pq)] := hl
  refine lv_aload_n hx hb dX2_init_2_0 rfl (lv_at hl 2 rfl) ?_
  refine va_instS (nm := RX3) hx hb hown (hts _ q109) (hK.1 3 _ rfl).2 (va_recv hK hP (ci := 3) (q0 := 1) rfl rfl) dX2_init_2_1 ?_
  refine lv_if_ne (tgt := 17) hx hb dX2_init_2_4 (by decide) (fun _ => ?_) (fun c_ => absurd c_ (by decide +kernel))
  refine lv_aload_n hx hb dX2_init_2_17 rfl (lv_at hl 2 rfl) ?_
  refine va_castS (nm := RX3) hx hb hown (hts _ q109) (hK.1 3 _ rfl).2 (va_recv hK hP (ci := 3) (q0 := 1) rfl rfl) dX2_init_2_18 ?_
  refine lv_astore_n (lv' := [(3, .ref pq), (0, .ref h0), (1, .int z), (2, .ref pq)]) hx hb dX2_init_2_21 rfl hl (by decide) rfl (fun ls hl => ?_)
  refine lv_aload_n hx hb dX2_init_2_22 rfl (lv_at hl 1 rfl) ?_
  refine lv_iload_n hx hb dX2_init_2_23 rfl (lv_at hl 2 rfl) ?_
  refine va_put (D := (dC, dI)) (ci := 2) (v := .int z) (ty := .boolean) (C := RX2) (T := TX2) (N := 2) hx hb hts in_X2 tyX2 tyX2_ok nmX2 hown hK hP hD hS 0 rfl rfl 1 (by decide) (hts _ q74) (fun _ h9 => h9) rfl (by decide +kernel) hzn hzf (Nat.le_of_ble_eq_true rfl) dX2_init_2_24 (fun H locs hP hD hS => ?_)
  have hP : va_P (dC, dI) vwCl [(h0, .inr (2, [.null, .int z])), (pq, .inr (3, [.ref hk])), (hk, .inl (dB, 4 * nw, .inl f))] H := hP
  have hD : va_D A [(h0, .inr (2, [.null, .int z])), (pq, .inr (3, [.ref hk])), (hk, .inl (dB, 4 * nw, .inl f))] := hD
  refine lv_aload_n hx hb dX2_init_2_27 rfl (lv_at hl 0 rfl) ?_
  refine va_csr (va_runV (As := []) (rest := []) ⟨hx, hb, hml, hown, hts⟩ (met_X3_getKey l dC dI pq hk) (cwV 0 hts (lw_V q178 q179 q180 q16 q181) rfl rfl rfl (by decide +kernel) ⟨Nat.le_of_ble_eq_true rfl, Nat.le_of_ble_eq_true rfl⟩) ⟨zr_blind, va_recv hK hP (ci := 3) (q0 := 1) rfl rfl, zr_mk hP hK [1] [] rfl rfl⟩ rfl rfl hl.1 rfl (lv_room (Nat.le_of_ble_eq_true rfl)) dX2_init_2_28 ⟨Nat.le_of_ble_eq_true rfl, Nat.le_of_ble_eq_true rfl⟩).run (fun q hq => ?_)
  refine W.eq (g2 := F0 m 31 ls [.ref hk]) (by rw [hq]) ?_
  refine lv_astore (lv' := [(4, .ref hk), (3, .ref pq), (0, .ref h0), (1, .int z), (2, .ref pq)]) hx hb dX2_init_2_31 hl (by decide) rfl (fun ls hl => ?_)
  refine lv_aload_n hx hb dX2_init_2_33 rfl (lv_at hl 2 rfl) ?_
  refine lv_aload hx hb dX2_init_2_34 (lv_at hl 0 rfl) ?_
  refine zc_v (wc := [(h0, .inr (2, [.null, .int z])), (hk, .inl (dB, 4 * nw, .inl f))]) (wr := [(pq, .inr (3, [.ref hk]))]) hP hD hS hA [0, 2] [1] rfl rfl rfl (by decide) (va_runV (As := [.ref hk]) (rest := []) ⟨hx, hb, hml, hown, hts⟩ (met_X2_setKey l dC dI _ h0 hk nw dB f z hw) (cwV 1 hts (lw_V q182 q184 qs2 q15 q185) rfl rfl rfl (by decide +kernel) ⟨Nat.le_of_ble_eq_true rfl, Nat.le_of_ble_eq_true rfl⟩) ⟨zw_blind, va_recv hK hP (ci := 2) (q0 := 0) rfl rfl, zw_mk hP hD hK [0, 2] [0] rfl rfl rfl rfl⟩ rfl rfl hl.1 rfl (lv_room (Nat.le_of_ble_eq_true rfl)) dX2_init_2_36 ⟨Nat.le_of_ble_eq_true rfl, Nat.le_of_ble_eq_true rfl⟩) (fun u H locs _ hP hD hK1 hS => ?_)
  obtain ⟨sq, dS⟩ := u
  have hK := hK.app hK1
  have hP : va_P (dC, dI) vwCl [(pq, .inr (3, [.ref hk])), (h0, .inr (2, [.ref sq, .int z])), (hk, .inl (dB, 4 * nw, .inl f)), (sq, .inl (dS, 44, .inl (rc_S nw f)))] H := hP
  have hD : va_D A [(pq, .inr (3, [.ref hk])), (h0, .inr (2, [.ref sq, .int z])), (hk, .inl (dB, 4 * nw, .inl f)), (sq, .inl (dS, 44, .inl (rc_S nw f)))] := hD
  have hK : va_K (dC, dI) vwCl [(dB, .byte), (dB, .byte), (dS, .int)] s := hK
  refine W.widen (k := 2) (n := 52) (Nat.le_of_ble_eq_true rfl) (Nat.le_of_ble_eq_true rfl) ?_
  have hP9 := hP.sub (ws' := [(h0, .inr (2, [.ref sq, .int z])), (pq, .inr (3, [.ref hk])), (hk, .inl (dB, 4 * nw, .inl f)), (sq, .inl (dS, 44, .inl (rc_S nw f)))]) [1, 0, 2, 3] rfl
  have hD9 := hD.sub (ws' := [(h0, .inr (2, [.ref sq, .int z])), (pq, .inr (3, [.ref hk])), (hk, .inl (dB, 4 * nw, .inl f)), (sq, .inl (dS, 44, .inl (rc_S nw f)))]) [1, 0, 2, 3] (by decide) rfl
  have hK9 := hK.sub (tys' := [(dB, .byte), (dS, .int)]) [0, 2] rfl
  exact W.vret hx hb hr (fun t ht hW => ⟨⟨(sq, dS), rfl, trivial, by rw [ht]; exact hP9, va_K.moved hW.alike hK9, hD9⟩, hS.F ht⟩) hS.2.2 dX2_init_2_39
end
section
/-! FACES: the engine behind BlockCipher -/
def yBC_init : MethodName := ⟨"BlockCipher", "init", "(ZLCipherParameters;)V"⟩
def yBC_proc : MethodName := ⟨"BlockCipher", "processBlock", "([BI[BI)I"⟩
/-- what the two interface calls ask of the tables -/
def zf_W (U : State) : Prop := va_Fw RX2 yBC_init yX2_init_2 U ∧ va_Fw RX2 yBC_proc yX2_processBlock U
theorem zf_W.moved {u U : State} (hvm : u.vm.Alike U.vm) (h : zf_W u) : zf_W U := ⟨va_Fw.moved (by decide +kernel) hvm h.1, va_Fw.moved (by decide +kernel) hvm h.2⟩
theorem zf_blind {av : List Value} {D : va_G} {tys : List (ClassId × FieldType)} {ws : va_W} {sz : Nat} : FrameBlind (va_Pc av (fun U => zw_pre D tys ws sz U ∧ zf_W U)) := fun a U g mk q => by
  obtain ⟨q0, ⟨q1, qP, qK, qD⟩, qF⟩ := q
  exact ⟨q0, ⟨q1, qP, va_K.moved (u := U) (U := U.calling g mk a) (Vm.Alike.refl U.vm) qK, qD⟩, zf_W.moved (u := U) (U := U.calling g mk a) (Vm.Alike.refl U.vm) qF⟩
theorem zf_mk {s : State} {H : Heap} {A : Nat → Prop} {D : va_G} {tys tc : List (ClassId × FieldType)} {ws wc : va_W} {av : List Value} (hP : va_P D vwCl ws H) (hD : va_D A ws) (hK : va_K D vwCl tys s) (isC it : List Nat) (h1 : isC.filterMap (fun i => ws[i]?) = wc) (h2 : isC.map (fun i => ws[i]?) = wc.map some) (h3 : va_nd isC = true) (h4 : it.filterMap (fun i => tys[i]?) = tc) (hF : zf_W s) : ∀ U : State, U.heap = H → s.WarmedH U.vm → va_Pc av (fun U => zw_pre D tc wc H.size U ∧ zf_W U) av.toArray U := by
  intro U hU hW
  exact ⟨rfl, ⟨by rw [hU], by rw [hU]; exact hP.sub isC h1, va_K.moved hW.alike (hK.sub it h4), (hD.sub isC h3 h2).weaken (fun _ _ _ _ => trivial)⟩, hF.moved hW.alike⟩
theorem lw_F {own : String} {idx : Nat} {C : String} {x y : MethodName} {b : ByteArray} {L : Nat} {r : Option FieldType} (h1 : Cond.methodLink own idx x ∈ lw_all) (h2 : Cond.selects C x y ∈ lw_all) (h3 : Cond.instanceMethod y ∈ lw_all) (h4 : Cond.initialized y.cls ∈ lw_all) (h5 : Cond.code y b L r ∈ lw_all) : GoodIn lw_all (va_wsF own idx C x y (ws_ y b L r)) := by
  refine lw_app ?_ (lw_meth h5)
  intro w hw
  simp only [List.mem_cons, List.not_mem_nil, or_false] at hw
  rcases hw with e | e | e | e
  · rw [e]; exact h1
  · rw [e]; exact h2
  · rw [e]; exact h3
  · rw [e]; exact h4
end
section
/-! THE DESK: constructors, run, lock, open (printed by wip/gen/g16.py) -/
set_option maxHeartbeats 4000000 in
set_option maxRecDepth 100000 in
/-- RcSixDesk() -/
theorem met_X0_init (l : Launch) (dC : Nat → ClassId) (dI : Nat → Nat → Nat) (sz : Nat) (x0 : Nat) : Met l yX0_init (ws_ yX0_init cX0_init 1 none) ({ frames := 1, cells := 3, slots := 64, locals := 12 }) (va_Pc [.ref x0] (zw_pre (dC, dI) [] [(x0, .inr (0, [.null, .null, .null]))] sz)) (va_Qv (fun _ => True) (fun (u : Nat × Nat × Nat × ClassId × ClassId × ClassId) t => zw_post (dC, dI) [(u.2.2.2.1, .byte), (u.2.2.2.2.1, .byte), (u.2.2.2.2.2, .byte)] [(x0, .inr (0, [.ref u.1, .ref u.2.1, .ref u.2.2.1])), (u.1, .inl (u.2.2.2.1, 32, .inl (fun _ => 0))), (u.2.1, .inl (u.2.2.2.2.1, 16, .inl (fun _ => 0))), (u.2.2.1, .inl (u.2.2.2.2.2, 16, .inl (fun _ => 0)))] (va_A [(x0, .inr (0, [.null, .null, .null]))] sz) t) (va_A [(x0, .inr (0, [.null, .null, .null]))] sz)) 3 64 (va_A [(x0, .inr (0, [.null, .null, .null]))] sz) := by
  refine Met.ofW (cc := cX0_init) (maxL := 1) (ret := none) (by decide) rfl ?_
  intro p e s m args below meth c s₁ B hml hv
  obtain ⟨rfl, hsz, hP, hK, hD0⟩ := hv
  have hx := B.exec
  have hb := B.bytes
  have hr := B.returns
  have hts := atoms_spec (ws := (ws_ yX0_init cX0_init 1 none)) B.pre
  have hts : ∀ w ∈ lw_all, w.before _ s = true := fun w h => hts w (List.mem_cons_of_mem _ h)
  have hown : s.vm.findClass RX0 = some m.cls := findClass_of_methodNamed B.named
  have hlocks := B.notSynchronized
  have hin : meth.name = "<init>" := (name_of_methodNamed B.named B.method).1
  subst hsz
  have hD := hD0.self (sz := s.heap.size)
  generalize hAe : va_A [(x0, .inr (0, [.null, .null, .null]))] s.heap.size = A at hD ⊢
  have hA : ∀ q : Nat, s.heap.size ≤ q → A q := fun q h => by rw [← hAe]; exact Or.inr h
  have hS : va_S A s.heap s.heap [] := va_S.rf
  have hP : va_P (dC, dI) vwCl [(x0, .inr (0, [.null, .null, .null]))] s.heap := hP
  have hl := lv_entry ([.ref x0]) (n := 1) (Nat.le_of_ble_eq_true rfl)
  rw [lg_entry_eq]
  generalize (lg_sl ([.ref x0]) ++ List.replicate (1 - (lg_sl ([.ref x0])).length) Slot.unset).toArray = ls at hl ⊢
  have hl : lv_has ls 1 [(0, .ref x0)] := hl
  refine lv_aload_n hx hb dX0_init_0 rfl (lv_at hl 0 rfl) ?_
  refine W.objInit hx hb hown (hts _ q31) (hts _ q32) (hts _ q33) rfl (by rw [hml]; exact hl.1) rfl dX0_init_1 (Nat.le_of_ble_eq_true rfl) (Nat.le_of_ble_eq_true rfl) ?_
  refine W.eq (g2 := F0 m 4 ls []) rfl ?_
  refine lv_aload_n hx hb dX0_init_4 rfl (lv_at hl 0 rfl) ?_
  refine lv_bipush (v := (nI 32)) hx hb dX0_init_5 (by decide) ?_
  refine zz_newb hx hb (hts _ q44) hK hP hD hS hA 32 rfl (by omega) (Nat.le_of_ble_eq_true rfl) (Nat.le_of_ble_eq_true rfl) dX0_init_7 (fun xk dxk H hK hP hD hS => ?_)
  have hP : va_P (dC, dI) vwCl [(x0, .inr (0, [.null, .null, .null])), (xk, .inl (dxk, 32, .inl (fun _ => 0)))] H := hP
  have hD : va_D A [(x0, .inr (0, [.null, .null, .null])), (xk, .inl (dxk, 32, .inl (fun _ => 0)))] := hD
  have hK : va_K (dC, dI) vwCl [(dxk, .byte)] s := hK
  refine W.widen (k := 1) (n := 32) (Nat.le_of_ble_eq_true rfl) (Nat.le_of_ble_eq_true rfl) ?_
  refine va_putF (D := (dC, dI)) (ci := 0) (v := .ref xk) (ty := .array .byte) (C := RX0) (T := TX0) (N := 3) hx hb hts in_X0 tyX0 tyX0_ok nmX0 hown hK hP hD hS 0 rfl rfl 0 (by decide) (hts _ q34) (fun _ h9 => h9) rfl hin rfl (by decide +kernel) rfl rfl (Nat.le_of_ble_eq_true rfl) dX0_init_9 (fun H locs hP hD hS => ?_)
  have hP : va_P (dC, dI) vwCl [(x0, .inr (0, [.ref xk, .null, .null])), (xk, .inl (dxk, 32, .inl (fun _ => 0)))] H := hP
  have hD : va_D A [(x0, .inr (0, [.ref xk, .null, .null])), (xk, .inl (dxk, 32, .inl (fun _ => 0)))] := hD
  refine lv_aload_n hx hb dX0_init_12 rfl (lv_at hl 0 rfl) ?_
  refine lv_bipush (v := (nI 16)) hx hb dX0_init_13 (by decide) ?_
  refine zz_newb hx hb (hts _ q44) hK hP hD hS hA 16 rfl (by omega) (Nat.le_of_ble_eq_true rfl) (Nat.le_of_ble_eq_true rfl) dX0_init_15 (fun xb dxb H hK hP hD hS => ?_)
  have hP : va_P (dC, dI) vwCl [(x0, .inr (0, [.ref xk, .null, .null])), (xk, .inl (dxk, 32, .inl (fun _ => 0))), (xb, .inl (dxb, 16, .inl (fun _ => 0)))] H := hP
  have hD : va_D A [(x0, .inr (0, [.ref xk, .null, .null])), (xk, .inl (dxk, 32, .inl (fun _ => 0))), (xb, .inl (dxb, 16, .inl (fun _ => 0)))] := hD
  have hK : va_K (dC, dI) vwCl [(dxk, .byte), (dxb, .byte)] s := hK
  refine W.widen (k := 2) (n := 48) (Nat.le_of_ble_eq_true rfl) (Nat.le_of_ble_eq_true rfl) ?_
  refine va_putF (D := (dC, dI)) (ci := 0) (v := .ref xb) (ty := .array .byte) (C := RX0) (T := TX0) (N := 3) hx hb hts in_X0 tyX0 tyX0_ok nmX0 hown hK hP hD hS 0 rfl rfl 1 (by decide) (hts _ q35) (fun _ h9 => h9) rfl hin rfl (by decide +kernel) rfl rfl (Nat.le_of_ble_eq_true rfl) dX0_init_17 (fun H locs hP hD hS => ?_)
  have hP : va_P (dC, dI) vwCl [(x0, .inr (0, [.ref xk, .ref xb, .null])), (xk, .inl (dxk, 32, .inl (fun _ => 0))), (xb, .inl (dxb, 16, .inl (fun _ => 0)))] H := hP
  have hD : va_D A [(x0, .inr (0, [.ref xk, .ref xb, .null])), (xk, .inl (dxk, 32, .inl (fun _ => 0))), (xb, .inl (dxb, 16, .inl (fun _ => 0)))] := hD
  refine lv_aload_n hx hb dX0_init_20 rfl (lv_at hl 0 rfl) ?_
  refine lv_bipush (v := (nI 16)) hx hb dX0_init_21 (by decide) ?_
  refine zz_newb hx hb (hts _ q44) hK hP hD hS hA 16 rfl (by omega) (Nat.le_of_ble_eq_true rfl) (Nat.le_of_ble_eq_true rfl) dX0_init_23 (fun xo dxo H hK hP hD hS => ?_)
  have hP : va_P (dC, dI) vwCl [(x0, .inr (0, [.ref xk, .ref xb, .null])), (xk, .inl (dxk, 32, .inl (fun _ => 0))), (xb, .inl (dxb, 16, .inl (fun _ => 0))), (xo, .inl (dxo, 16, .inl (fun _ => 0)))] H := hP
  have hD : va_D A [(x0, .inr (0, [.ref xk, .ref xb, .null])), (xk, .inl (dxk, 32, .inl (fun _ => 0))), (xb, .inl (dxb, 16, .inl (fun _ => 0))), (xo, .inl (dxo, 16, .inl (fun _ => 0)))] := hD
  have hK : va_K (dC, dI) vwCl [(dxk, .byte), (dxb, .byte), (dxo, .byte)] s := hK
  refine W.widen (k := 3) (n := 64) (Nat.le_of_ble_eq_true rfl) (Nat.le_of_ble_eq_true rfl) ?_
  refine va_putF (D := (dC, dI)) (ci := 0) (v := .ref xo) (ty := .array .byte) (C := RX0) (T := TX0) (N := 3) hx hb hts in_X0 tyX0 tyX0_ok nmX0 hown hK hP hD hS 0 rfl rfl 2 (by decide) (hts _ q36) (fun _ h9 => h9) rfl hin rfl (by decide +kernel) rfl rfl (Nat.le_of_ble_eq_true rfl) dX0_init_25 (fun H locs hP hD hS => ?_)
  have hP : va_P (dC, dI) vwCl [(x0, .inr (0, [.ref xk, .ref xb, .ref xo])), (xk, .inl (dxk, 32, .inl (fun _ => 0))), (xb, .inl (dxb, 16, .inl (fun _ => 0))), (xo, .inl (dxo, 16, .inl (fun _ => 0)))] H := hP
  have hD : va_D A [(x0, .inr (0, [.ref xk, .ref xb, .ref xo])), (xk, .inl (dxk, 32, .inl (fun _ => 0))), (xb, .inl (dxb, 16, .inl (fun _ => 0))), (xo, .inl (dxo, 16, .inl (fun _ => 0)))] := hD
  have hP9 := hP.sub (ws' := [(x0, .inr (0, [.ref xk, .ref xb, .ref xo])), (xk, .inl (dxk, 32, .inl (fun _ => 0))), (xb, .inl (dxb, 16, .inl (fun _ => 0))), (xo, .inl (dxo, 16, .inl (fun _ => 0)))]) [0, 1, 2, 3] rfl
  have hD9 := hD.sub (ws' := [(x0, .inr (0, [.ref xk, .ref xb, .ref xo])), (xk, .inl (dxk, 32, .inl (fun _ => 0))), (xb, .inl (dxb, 16, .inl (fun _ => 0))), (xo, .inl (dxo, 16, .inl (fun _ => 0)))]) [0, 1, 2, 3] (by decide) rfl
  have hK9 := hK.sub (tys' := [(dxk, .byte), (dxb, .byte), (dxo, .byte)]) [0, 1, 2] rfl
  exact W.vret hx hb hr (fun t ht hW => ⟨⟨(xk, xb, xo, dxk, dxb, dxo), rfl, trivial, by rw [ht]; exact hP9, va_K.moved hW.alike hK9, hD9⟩, hS.F ht⟩) hS.2.2 dX0_init_28
set_option maxHeartbeats 4000000 in
set_option maxRecDepth 100000 in
/-- RcSixDeskModel() -/
theorem met_X1_init (l : Launch) (dC : Nat → ClassId) (dI : Nat → Nat → Nat) (sz : Nat) (y0 : Nat) : Met l yX1_init (ws_ yX1_init cX1_init 1 none) ({ frames := 1, cells := 5, slots := 116, locals := 12 }) (va_Pc [.ref y0] (zw_pre (dC, dI) [] [(y0, .inr (1, [.null, .null, .null, .null, .null, .int 0, .int 0, .int 0, .int 0]))] sz)) (va_Qv (fun _ => True) (fun (u : Nat × Nat × Nat × Nat × Nat × ClassId × ClassId × ClassId × ClassId × ClassId) t => zw_post (dC, dI) [(u.2.2.2.2.2.1, .byte), (u.2.2.2.2.2.2.1, .byte), (u.2.2.2.2.2.2.2.1, .byte), (u.2.2.2.2.2.2.2.2.1, .int), (u.2.2.2.2.2.2.2.2.2, .int)] [(y0, .inr (1, [.ref u.1, .ref u.2.1, .ref u.2.2.1, .ref u.2.2.2.1, .ref u.2.2.2.2.1, .int 0, .int 0, .int 0, .int 0])), (u.1, .inl (u.2.2.2.2.2.1, 32, .inl (fun _ => 0))), (u.2.1, .inl (u.2.2.2.2.2.2.1, 16, .inl (fun _ => 0))), (u.2.2.1, .inl (u.2.2.2.2.2.2.2.1, 16, .inl (fun _ => 0))), (u.2.2.2.1, .inl (u.2.2.2.2.2.2.2.2.1, 44, .inl (fun _ => 0))), (u.2.2.2.2.1, .inl (u.2.2.2.2.2.2.2.2.2, 8, .inl (fun _ => 0)))] (va_A [(y0, .inr (1, [.null, .null, .null, .null, .null, .int 0, .int 0, .int 0, .int 0]))] sz) t) (va_A [(y0, .inr (1, [.null, .null, .null, .null, .null, .int 0, .int 0, .int 0, .int 0]))] sz)) 5 116 (va_A [(y0, .inr (1, [.null, .null, .null, .null, .null, .int 0, .int 0, .int 0, .int 0]))] sz) := by
  refine Met.ofW (cc := cX1_init) (maxL := 1) (ret := none) (by decide) rfl ?_
  intro p e s m args below meth c s₁ B hml hv
  obtain ⟨rfl, hsz, hP, hK, hD0⟩ := hv
  have hx := B.exec
  have hb := B.bytes
  have hr := B.returns
  have hts := atoms_spec (ws := (ws_ yX1_init cX1_init 1 none)) B.pre
  have hts : ∀ w ∈ lw_all, w.before _ s = true := fun w h => hts w (List.mem_cons_of_mem _ h)
  have hown : s.vm.findClass RX1 = some m.cls := findClass_of_methodNamed B.named
  have hlocks := B.notSynchronized
  have hin : meth.name = "<init>" := (name_of_methodNamed B.named B.method).1
  subst hsz
  have hD := hD0.self (sz := s.heap.size)
  generalize hAe : va_A [(y0, .inr (1, [.null, .null, .null, .null, .null, .int 0, .int 0, .int 0, .int 0]))] s.heap.size = A at hD ⊢
  have hA : ∀ q : Nat, s.heap.size ≤ q → A q := fun q h => by rw [← hAe]; exact Or.inr h
  have hS : va_S A s.heap s.heap [] := va_S.rf
  have hP : va_P (dC, dI) vwCl [(y0, .inr (1, [.null, .null, .null, .null, .null, .int 0, .int 0, .int 0, .int 0]))] s.heap := hP
  have hl := lv_entry ([.ref y0]) (n := 1) (Nat.le_of_ble_eq_true rfl)
  rw [lg_entry_eq]
  generalize (lg_sl ([.ref y0]) ++ List.replicate (1 - (lg_sl ([.ref y0])).length) Slot.unset).toArray = ls at hl ⊢
  have hl : lv_has ls 1 [(0, .ref y0)] := hl
  refine lv_aload_n hx hb dX1_init_0 rfl (lv_at hl 0 rfl) ?_
  refine W.objInit hx hb hown (hts _ q296) (hts _ q32) (hts _ q33) rfl (by rw [hml]; exact hl.1) rfl dX1_init_1 (Nat.le_of_ble_eq_true rfl) (Nat.le_of_ble_eq_true rfl) ?_
  refine W.eq (g2 := F0 m 4 ls []) rfl ?_
  refine lv_aload_n hx hb dX1_init_4 rfl (lv_at hl 0 rfl) ?_
  refine lv_bipush (v := (nI 32)) hx hb dX1_init_5 (by decide) ?_
  refine zz_newb hx hb (hts _ q44) hK hP hD hS hA 32 rfl (by omega) (Nat.le_of_ble_eq_true rfl) (Nat.le_of_ble_eq_true rfl) dX1_init_7 (fun yk dyk H hK hP hD hS => ?_)
  have hP : va_P (dC, dI) vwCl [(y0, .inr (1, [.null, .null, .null, .null, .null, .int 0, .int 0, .int 0, .int 0])), (yk, .inl (dyk, 32, .inl (fun _ => 0)))] H := hP
  have hD : va_D A [(y0, .inr (1, [.null, .null, .null, .null, .null, .int 0, .int 0, .int 0, .int 0])), (yk, .inl (dyk, 32, .inl (fun _ => 0)))] := hD
  have hK : va_K (dC, dI) vwCl [(dyk, .byte)] s := hK
  refine W.widen (k := 1) (n := 32) (Nat.le_of_ble_eq_true rfl) (Nat.le_of_ble_eq_true rfl) ?_
  refine va_putF (D := (dC, dI)) (ci := 1) (v := .ref yk) (ty := .array .byte) (C := RX1) (T := TX1) (N := 9) hx hb hts in_X1 tyX1 tyX1_ok nmX1 hown hK hP hD hS 0 rfl rfl 0 (by decide) (hts _ q297) (fun _ h9 => h9) rfl hin rfl (by decide +kernel) rfl rfl (Nat.le_of_ble_eq_true rfl) dX1_init_9 (fun H locs hP hD hS => ?_)
  have hP : va_P (dC, dI) vwCl [(y0, .inr (1, [.ref yk, .null, .null, .null, .null, .int 0, .int 0, .int 0, .int 0])), (yk, .inl (dyk, 32, .inl (fun _ => 0)))] H := hP
  have hD : va_D A [(y0, .inr (1, [.ref yk, .null, .null, .null, .null, .int 0, .int 0, .int 0, .int 0])), (yk, .inl (dyk, 32, .inl (fun _ => 0)))] := hD
  refine lv_aload_n hx hb dX1_init_12 rfl (lv_at hl 0 rfl) ?_
  refine lv_bipush (v := (nI 16)) hx hb dX1_init_13 (by decide) ?_
  refine zz_newb hx hb (hts _ q44) hK hP hD hS hA 16 rfl (by omega) (Nat.le_of_ble_eq_true rfl) (Nat.le_of_ble_eq_true rfl) dX1_init_15 (fun yb dyb H hK hP hD hS => ?_)
  have hP : va_P (dC, dI) vwCl [(y0, .inr (1, [.ref yk, .null, .null, .null, .null, .int 0, .int 0, .int 0, .int 0])), (yk, .inl (dyk, 32, .inl (fun _ => 0))), (yb, .inl (dyb, 16, .inl (fun _ => 0)))] H := hP
  have hD : va_D A [(y0, .inr (1, [.ref yk, .null, .null, .null, .null, .int 0, .int 0, .int 0, .int 0])), (yk, .inl (dyk, 32, .inl (fun _ => 0))), (yb, .inl (dyb, 16, .inl (fun _ => 0)))] := hD
  have hK : va_K (dC, dI) vwCl [(dyk, .byte), (dyb, .byte)] s := hK
  refine W.widen (k := 2) (n := 48) (Nat.le_of_ble_eq_true rfl) (Nat.le_of_ble_eq_true rfl) ?_
  refine va_putF (D := (dC, dI)) (ci := 1) (v := .ref yb) (ty := .array .byte) (C := RX1) (T := TX1) (N := 9) hx hb hts in_X1 tyX1 tyX1_ok nmX1 hown hK hP hD hS 0 rfl rfl 1 (by decide) (hts _ q298) (fun _ h9 => h9) rfl hin rfl (by decide +kernel) rfl rfl (Nat.le_of_ble_eq_true rfl) dX1_init_17 (fun H locs hP hD hS => ?_)
  have hP : va_P (dC, dI) vwCl [(y0, .inr (1, [.ref yk, .ref yb, .null, .null, .null, .int 0, .int 0, .int 0, .int 0])), (yk, .inl (dyk, 32, .inl (fun _ => 0))), (yb, .inl (dyb, 16, .inl (fun _ => 0)))] H := hP
  have hD : va_D A [(y0, .inr (1, [.ref yk, .ref yb, .null, .null, .null, .int 0, .int 0, .int 0, .int 0])), (yk, .inl (dyk, 32, .inl (fun _ => 0))), (yb, .inl (dyb, 16, .inl (fun _ => 0)))] := hD
  refine lv_aload_n hx hb dX1_init_20 rfl (lv_at hl 0 rfl) ?_
  refine lv_bipush (v := (nI 16)) hx hb dX1_init_21 (by decide) ?_
  refine zz_newb hx hb (hts _ q44) hK hP hD hS hA 16 rfl (by omega) (Nat.le_of_ble_eq_true rfl) (Nat.le_of_ble_eq_true rfl) dX1_init_23 (fun yo dyo H hK hP hD hS => ?_)
  have hP : va_P (dC, dI) vwCl [(y0, .inr (1, [.ref yk, .ref yb, .null, .null, .null, .int 0, .int 0, .int 0, .int 0])), (yk, .inl (dyk, 32, .inl (fun _ => 0))), (yb, .inl (dyb, 16, .inl (fun _ => 0))), (yo, .inl (dyo, 16, .inl (fun _ => 0)))] H := hP
  have hD : va_D A [(y0, .inr (1, [.ref yk, .ref yb, .null, .null, .null, .int 0, .int 0, .int 0, .int 0])), (yk, .inl (dyk, 32, .inl (fun _ => 0))), (yb, .inl (dyb, 16, .inl (fun _ => 0))), (yo, .inl (dyo, 16, .inl (fun _ => 0)))] := hD
  have hK : va_K (dC, dI) vwCl [(dyk, .byte), (dyb, .byte), (dyo, .byte)] s := hK
  refine W.widen (k := 3) (n := 64) (Nat.le_of_ble_eq_true rfl) (Nat.le_of_ble_eq_true rfl) ?_
  refine va_putF (D := (dC, dI)) (ci := 1) (v := .ref yo) (ty := .array .byte) (C := RX1) (T := TX1) (N := 9) hx hb hts in_X1 tyX1 tyX1_ok nmX1 hown hK hP hD hS 0 rfl rfl 2 (by decide) (hts _ q299) (fun _ h9 => h9) rfl hin rfl (by decide +kernel) rfl rfl (Nat.le_of_ble_eq_true rfl) dX1_init_25 (fun H locs hP hD hS => ?_)
  have hP : va_P (dC, dI) vwCl [(y0, .inr (1, [.ref yk, .ref yb, .ref yo, .null, .null, .int 0, .int 0, .int 0, .int 0])), (yk, .inl (dyk, 32, .inl (fun _ => 0))), (yb, .inl (dyb, 16, .inl (fun _ => 0))), (yo, .inl (dyo, 16, .inl (fun _ => 0)))] H := hP
  have hD : va_D A [(y0, .inr (1, [.ref yk, .ref yb, .ref yo, .null, .null, .int 0, .int 0, .int 0, .int 0])), (yk, .inl (dyk, 32, .inl (fun _ => 0))), (yb, .inl (dyb, 16, .inl (fun _ => 0))), (yo, .inl (dyo, 16, .inl (fun _ => 0)))] := hD
  refine lv_aload_n hx hb dX1_init_28 rfl (lv_at hl 0 rfl) ?_
  refine lv_bipush (v := (nI 44)) hx hb dX1_init_29 (by decide) ?_
  refine zz_newi hx hb (hts _ q221) hK hP hD hS hA 44 rfl (by omega) (Nat.le_of_ble_eq_true rfl) (Nat.le_of_ble_eq_true rfl) dX1_init_31 (fun ys dys H hK hP hD hS => ?_)
  have hP : va_P (dC, dI) vwCl [(y0, .inr (1, [.ref yk, .ref yb, .ref yo, .null, .null, .int 0, .int 0, .int 0, .int 0])), (yk, .inl (dyk, 32, .inl (fun _ => 0))), (yb, .inl (dyb, 16, .inl (fun _ => 0))), (yo, .inl (dyo, 16, .inl (fun _ => 0))), (ys, .inl (dys, 44, .inl (fun _ => 0)))] H := hP
  have hD : va_D A [(y0, .inr (1, [.ref yk, .ref yb, .ref yo, .null, .null, .int 0, .int 0, .int 0, .int 0])), (yk, .inl (dyk, 32, .inl (fun _ => 0))), (yb, .inl (dyb, 16, .inl (fun _ => 0))), (yo, .inl (dyo, 16, .inl (fun _ => 0))), (ys, .inl (dys, 44, .inl (fun _ => 0)))] := hD
  have hK : va_K (dC, dI) vwCl [(dyk, .byte), (dyb, .byte), (dyo, .byte), (dys, .int)] s := hK
  refine W.widen (k := 4) (n := 108) (Nat.le_of_ble_eq_true rfl) (Nat.le_of_ble_eq_true rfl) ?_
  refine va_putF (D := (dC, dI)) (ci := 1) (v := .ref ys) (ty := .array .int) (C := RX1) (T := TX1) (N := 9) hx hb hts in_X1 tyX1 tyX1_ok nmX1 hown hK hP hD hS 0 rfl rfl 3 (by decide) (hts _ q300) (fun _ h9 => h9) rfl hin rfl (by decide +kernel) rfl rfl (Nat.le_of_ble_eq_true rfl) dX1_init_33 (fun H locs hP hD hS => ?_)
  have hP : va_P (dC, dI) vwCl [(y0, .inr (1, [.ref yk, .ref yb, .ref yo, .ref ys, .null, .int 0, .int 0, .int 0, .int 0])), (yk, .inl (dyk, 32, .inl (fun _ => 0))), (yb, .inl (dyb, 16, .inl (fun _ => 0))), (yo, .inl (dyo, 16, .inl (fun _ => 0))), (ys, .inl (dys, 44, .inl (fun _ => 0)))] H := hP
  have hD : va_D A [(y0, .inr (1, [.ref yk, .ref yb, .ref yo, .ref ys, .null, .int 0, .int 0, .int 0, .int 0])), (yk, .inl (dyk, 32, .inl (fun _ => 0))), (yb, .inl (dyb, 16, .inl (fun _ => 0))), (yo, .inl (dyo, 16, .inl (fun _ => 0))), (ys, .inl (dys, 44, .inl (fun _ => 0)))] := hD
  refine lv_aload_n hx hb dX1_init_36 rfl (lv_at hl 0 rfl) ?_
  refine lv_bipush (v := (nI 8)) hx hb dX1_init_37 (by decide) ?_
  refine zz_newi hx hb (hts _ q221) hK hP hD hS hA 8 rfl (by omega) (Nat.le_of_ble_eq_true rfl) (Nat.le_of_ble_eq_true rfl) dX1_init_39 (fun yl dyl H hK hP hD hS => ?_)
  have hP : va_P (dC, dI) vwCl [(y0, .inr (1, [.ref yk, .ref yb, .ref yo, .ref ys, .null, .int 0, .int 0, .int 0, .int 0])), (yk, .inl (dyk, 32, .inl (fun _ => 0))), (yb, .inl (dyb, 16, .inl (fun _ => 0))), (yo, .inl (dyo, 16, .inl (fun _ => 0))), (ys, .inl (dys, 44, .inl (fun _ => 0))), (yl, .inl (dyl, 8, .inl (fun _ => 0)))] H := hP
  have hD : va_D A [(y0, .inr (1, [.ref yk, .ref yb, .ref yo, .ref ys, .null, .int 0, .int 0, .int 0, .int 0])), (yk, .inl (dyk, 32, .inl (fun _ => 0))), (yb, .inl (dyb, 16, .inl (fun _ => 0))), (yo, .inl (dyo, 16, .inl (fun _ => 0))), (ys, .inl (dys, 44, .inl (fun _ => 0))), (yl, .inl (dyl, 8, .inl (fun _ => 0)))] := hD
  have hK : va_K (dC, dI) vwCl [(dyk, .byte), (dyb, .byte), (dyo, .byte), (dys, .int), (dyl, .int)] s := hK
  refine W.widen (k := 5) (n := 116) (Nat.le_of_ble_eq_true rfl) (Nat.le_of_ble_eq_true rfl) ?_
  refine va_putF (D := (dC, dI)) (ci := 1) (v := .ref yl) (ty := .array .int) (C := RX1) (T := TX1) (N := 9) hx hb hts in_X1 tyX1 tyX1_ok nmX1 hown hK hP hD hS 0 rfl rfl 4 (by decide) (hts _ q301) (fun _ h9 => h9) rfl hin rfl (by decide +kernel) rfl rfl (Nat.le_of_ble_eq_true rfl) dX1_init_41 (fun H locs hP hD hS => ?_)
  have hP : va_P (dC, dI) vwCl [(y0, .inr (1, [.ref yk, .ref yb, .ref yo, .ref ys, .ref yl, .int 0, .int 0, .int 0, .int 0])), (yk, .inl (dyk, 32, .inl (fun _ => 0))), (yb, .inl (dyb, 16, .inl (fun _ => 0))), (yo, .inl (dyo, 16, .inl (fun _ => 0))), (ys, .inl (dys, 44, .inl (fun _ => 0))), (yl, .inl (dyl, 8, .inl (fun _ => 0)))] H := hP
  have hD : va_D A [(y0, .inr (1, [.ref yk, .ref yb, .ref yo, .ref ys, .ref yl, .int 0, .int 0, .int 0, .int 0])), (yk, .inl (dyk, 32, .inl (fun _ => 0))), (yb, .inl (dyb, 16, .inl (fun _ => 0))), (yo, .inl (dyo, 16, .inl (fun _ => 0))), (ys, .inl (dys, 44, .inl (fun _ => 0))), (yl, .inl (dyl, 8, .inl (fun _ => 0)))] := hD
  have hP9 := hP.sub (ws' := [(y0, .inr (1, [.ref yk, .ref yb, .ref yo, .ref ys, .ref yl, .int 0, .int 0, .int 0, .int 0])), (yk, .inl (dyk, 32, .inl (fun _ => 0))), (yb, .inl (dyb, 16, .inl (fun _ => 0))), (yo, .inl (dyo, 16, .inl (fun _ => 0))), (ys, .inl (dys, 44, .inl (fun _ => 0))), (yl, .inl (dyl, 8, .inl (fun _ => 0)))]) [0, 1, 2, 3, 4, 5] rfl
  have hD9 := hD.sub (ws' := [(y0, .inr (1, [.ref yk, .ref yb, .ref yo, .ref ys, .ref yl, .int 0, .int 0, .int 0, .int 0])), (yk, .inl (dyk, 32, .inl (fun _ => 0))), (yb, .inl (dyb, 16, .inl (fun _ => 0))), (yo, .inl (dyo, 16, .inl (fun _ => 0))), (ys, .inl (dys, 44, .inl (fun _ => 0))), (yl, .inl (dyl, 8, .inl (fun _ => 0)))]) [0, 1, 2, 3, 4, 5] (by decide) rfl
  have hK9 := hK.sub (tys' := [(dyk, .byte), (dyb, .byte), (dyo, .byte), (dys, .int), (dyl, .int)]) [0, 1, 2, 3, 4] rfl
  exact W.vret hx hb hr (fun t ht hW => ⟨⟨(yk, yb, yo, ys, yl, dyk, dyb, dyo, dys, dyl), rfl, trivial, by rw [ht]; exact hP9, va_K.moved hW.alike hK9, hD9⟩, hS.F ht⟩) hS.2.2 dX1_init_44
set_option maxHeartbeats 4000000 in
set_option maxRecDepth 100000 in
/-- RcSixDesk.run(lock, kind) -/
theorem met_X0_run (l : Launch) (dC : Nat → ClassId) (dI : Nat → Nat → Nat) (sz : Nat) (x0 xk xb xo : Nat) (dK dB dO : ClassId) (fk fb fo : Nat → Int32) (z kind : Int32) (hf : rc_By fk) (hzn : narrow .boolean (.int z) = .int z) (hzf : fits .boolean (.int z) = true) : Met l yX0_run (ws_ yX0_run cX0_run 6 none) ({ frames := 4, cells := 6, slots := 119, locals := 81 }) (va_Pc [.ref x0, .int z, .int kind] (fun U => zw_pre (dC, dI) [(dK, .byte), (dB, .byte), (dO, .byte)] [(x0, .inr (0, [.ref xk, .ref xb, .ref xo])), (xk, .inl (dK, 32, .inl fk)), (xb, .inl (dB, 16, .inl fb)), (xo, .inl (dO, 16, .inl fo))] sz U ∧ zf_W U)) (va_Qv (fun _ => True) (fun (_ : Unit) t => zw_post (dC, dI) [(dK, .byte), (dB, .byte), (dO, .byte)] [(x0, .inr (0, [.ref xk, .ref xb, .ref xo])), (xk, .inl (dK, 32, .inl fk)), (xb, .inl (dB, 16, .inl fb)), (xo, .inl (dO, 16, .inl (rc_run z (rc_S (rc_c kind) fk) fb)))] (va_A [(x0, .inr (0, [.ref xk, .ref xb, .ref xo])), (xk, .inl (dK, 32, .inl fk)), (xb, .inl (dB, 16, .inl fb)), (xo, .inl (dO, 16, .inl fo))] sz) t) (va_A [(x0, .inr (0, [.ref xk, .ref xb, .ref xo])), (xk, .inl (dK, 32, .inl fk)), (xb, .inl (dB, 16, .inl fb)), (xo, .inl (dO, 16, .inl fo))] sz)) 6 119 (va_A [(x0, .inr (0, [.ref xk, .ref xb, .ref xo])), (xk, .inl (dK, 32, .inl fk)), (xb, .inl (dB, 16, .inl fb)), (xo, .inl (dO, 16, .inl fo))] sz) := by
  refine Met.ofW (cc := cX0_run) (maxL := 6) (ret := none) (by decide) rfl ?_
  intro p e s m args below meth c s₁ B hml hv
  obtain ⟨rfl, ⟨hsz, hP, hK, hD0⟩, hF⟩ := hv
  have hx := B.exec
  have hb := B.bytes
  have hr := B.returns
  have hts := atoms_spec (ws := (ws_ yX0_run cX0_run 6 none)) B.pre
  have hts : ∀ w ∈ lw_all, w.before _ s = true := fun w h => hts w (List.mem_cons_of_mem _ h)
  have hown : s.vm.findClass RX0 = some m.cls := findClass_of_methodNamed B.named
  have hlocks := B.notSynchronized
  subst hsz
  have hD := hD0.self (sz := s.heap.size)
  generalize hAe : va_A [(x0, .inr (0, [.ref xk, .ref xb, .ref xo])), (xk, .inl (dK, 32, .inl fk)), (xb, .inl (dB, 16, .inl fb)), (xo, .inl (dO, 16, .inl fo))] s.heap.size = A at hD ⊢
  have hA : ∀ q : Nat, s.heap.size ≤ q → A q := fun q h => by rw [← hAe]; exact Or.inr h
  have hS : va_S A s.heap s.heap [] := va_S.rf
  have hP : va_P (dC, dI) vwCl [(x0, .inr (0, [.ref xk, .ref xb, .ref xo])), (xk, .inl (dK, 32, .inl fk)), (xb, .inl (dB, 16, .inl fb)), (xo, .inl (dO, 16, .inl fo))] s.heap := hP
  have hl := lv_entry ([.ref x0, .int z, .int kind]) (n := 6) (Nat.le_of_ble_eq_true rfl)
  rw [lg_entry_eq]
  generalize (lg_sl ([.ref x0, .int z, .int kind]) ++ List.replicate (6 - (lg_sl ([.ref x0, .int z, .int kind])).length) Slot.unset).toArray = ls at hl ⊢
  have hl : lv_has ls 6 [(0, .ref x0), (1, .int z), (2, .int kind)] := hl
  have hw := rc_c_in kind
  refine lv_iload_n hx hb dX0_run_0 rfl (lv_at hl 2 rfl) ?_
  refine lv_iconst (v := 3) hx hb dX0_run_1 (by decide) ?_
  refine lv_iand hx hb dX0_run_2 ?_
  refine vp_callSi (va_runS (As := [.int (kind &&& 3)]) (rest := []) ⟨hx, hb, hml, hown, hts⟩ (met_X0_size l (kind &&& 3)) (va_cwS 1 hts (lw_S q64 q65 q13 q66) rfl rfl rfl (by decide +kernel) ⟨Nat.le_of_ble_eq_true rfl, Nat.le_of_ble_eq_true rfl⟩) ⟨fun _ _ _ _ q => q, fun _ _ _ => ⟨rfl, trivial⟩⟩ rfl rfl hl.1 rfl (lv_room (Nat.le_of_ble_eq_true rfl)) dX0_run_3 ⟨Nat.le_of_ble_eq_true rfl, Nat.le_of_ble_eq_true rfl⟩).run (fun r hr_ => ?_)
  refine zt (nI (4 * rc_c kind)) (hr_.trans (by rw [rc_c3])) ?_
  refine lv_istore_n (lv' := [(3, .int (nI (4 * rc_c kind))), (0, .ref x0), (1, .int z), (2, .int kind)]) hx hb dX0_run_6 rfl hl (by decide) rfl (fun ls hl => ?_)
  refine lv_iload_n hx hb dX0_run_7 rfl (lv_at hl 0 rfl) ?_
  refine zz_newb hx hb (hts _ q44) hK hP hD hS hA (4 * rc_c kind) rfl (by omega) (Nat.le_of_ble_eq_true rfl) (by show 0 + 4 * rc_c kind ≤ 119; omega) dX0_run_8 (fun kq0 dT H hK hP hD hS => ?_)
  have hP : va_P (dC, dI) vwCl [(x0, .inr (0, [.ref xk, .ref xb, .ref xo])), (xk, .inl (dK, 32, .inl fk)), (xb, .inl (dB, 16, .inl fb)), (xo, .inl (dO, 16, .inl fo)), (kq0, .inl (dT, 4 * rc_c kind, .inl (fun _ => 0)))] H := hP
  have hD : va_D A [(x0, .inr (0, [.ref xk, .ref xb, .ref xo])), (xk, .inl (dK, 32, .inl fk)), (xb, .inl (dB, 16, .inl fb)), (xo, .inl (dO, 16, .inl fo)), (kq0, .inl (dT, 4 * rc_c kind, .inl (fun _ => 0)))] := hD
  have hK : va_K (dC, dI) vwCl [(dK, .byte), (dB, .byte), (dO, .byte), (dT, .byte)] s := hK
  refine W.widen (k := 1) (n := 32) (Nat.le_of_ble_eq_true rfl) (by omega) ?_
  refine lv_astore (lv' := [(4, .ref kq0), (3, .int (nI (4 * rc_c kind))), (0, .ref x0), (1, .int z), (2, .int kind)]) hx hb dX0_run_10 hl (by decide) rfl (fun ls hl => ?_)
  have loop : ∀ (r i : Nat), i + r = 4 * rc_c kind → ∀ (H : Heap) (locs : List Loc), va_P (dC, dI) vwCl [(x0, .inr (0, [.ref xk, .ref xb, .ref xo])), (xk, .inl (dK, 32, .inl fk)), (xb, .inl (dB, 16, .inl fb)), (xo, .inl (dO, 16, .inl fo)), (kq0, .inl (dT, 4 * rc_c kind, .inl (rc_m i fk (fun _ => 0))))] H → va_D A [(x0, .inr (0, [.ref xk, .ref xb, .ref xo])), (xk, .inl (dK, 32, .inl fk)), (xb, .inl (dB, 16, .inl fb)), (xo, .inl (dO, 16, .inl fo)), (kq0, .inl (dT, 4 * rc_c kind, .inl (rc_m i fk (fun _ => 0))))] → va_S A s.heap H locs → ∀ ls : Array Slot, lv_has ls 6 [(0, .ref x0), (1, .int z), (3, .int (nI (4 * rc_c kind))), (4, .ref kq0), (5, .int (nI i))] → W p l e (headSpec (ws_ yX0_run cX0_run 6 none) ({ frames := 4, cells := 6, slots := 119, locals := 81 })).room s m ([.ref x0, .int z, .int kind] : List Value).toArray below meth c H locs 1 32 (MQ below (va_Qv (fun _ => True) (fun (_ : Unit) t => zw_post (dC, dI) [(dK, .byte), (dB, .byte), (dO, .byte)] [(x0, .inr (0, [.ref xk, .ref xb, .ref xo])), (xk, .inl (dK, 32, .inl fk)), (xb, .inl (dB, 16, .inl fb)), (xo, .inl (dO, 16, .inl (rc_run z (rc_S (rc_c kind) fk) fb)))] A t) A) ([.ref x0, .int z, .int kind] : List Value).toArray s 6 119 A) (F0 m 15 ls []) := by
    intro r
    induction r with
    | zero =>
      intro i hi H locs hP hD hS ls hl
      have hi : i = 4 * rc_c kind := by omega
      subst hi
      refine lv_iload hx hb dX0_run_15 (lv_at hl 4 rfl) ?_
      refine lv_iload_n hx hb dX0_run_17 rfl (lv_at hl 2 rfl) ?_
      refine lv_icmp_ge (tgt := 39) hx hb dX0_run_18 (by decide) (fun _ => ?_) (fun c_ => absurd (nI_le (Nat.le_refl _) (by omega)) c_)
      have hP := zz_ext hP 4 rfl (g := fk) (fun j hj => rc_m_all fk _ j hj)
      have hD : va_D A [(x0, .inr (0, [.ref xk, .ref xb, .ref xo])), (xk, .inl (dK, 32, .inl fk)), (xb, .inl (dB, 16, .inl fb)), (xo, .inl (dO, 16, .inl fo)), (kq0, .inl (dT, 4 * rc_c kind, .inl fk))] := hD.set (p := 4) rfl
      refine va_new (ci := 2) (fs := [.null, .int 0]) (C := RX2) (T := TX2) (N := 2) hx hb hts in_X2 tyX2 tyX2_ok hown (hts _ q67) (hts _ q68) (hts _ q15) hK hP hD hS hA rfl (fun j hj => by rcases (show j = 0 ∨ j = 1 by omega) with rfl | rfl <;> rfl) (Nat.le_of_ble_eq_true rfl) (Nat.le_of_ble_eq_true rfl) dX0_run_39 (fun h0 H hP hD hS => ?_)
      have hP : va_P (dC, dI) vwCl [(x0, .inr (0, [.ref xk, .ref xb, .ref xo])), (xk, .inl (dK, 32, .inl fk)), (xb, .inl (dB, 16, .inl fb)), (xo, .inl (dO, 16, .inl fo)), (kq0, .inl (dT, 4 * rc_c kind, .inl fk)), (h0, .inr (2, [.null, .int 0]))] H := hP
      have hD : va_D A [(x0, .inr (0, [.ref xk, .ref xb, .ref xo])), (xk, .inl (dK, 32, .inl fk)), (xb, .inl (dB, 16, .inl fb)), (xo, .inl (dO, 16, .inl fo)), (kq0, .inl (dT, 4 * rc_c kind, .inl fk)), (h0, .inr (2, [.null, .int 0]))] := hD
      refine W.widen (k := 2) (n := 34) (Nat.le_of_ble_eq_true rfl) (Nat.le_of_ble_eq_true rfl) ?_
      refine lv_dup hx hb dX0_run_42 rfl ?_
      refine zc_v (wc := [(h0, .inr (2, [.null, .int 0]))]) (wr := [(x0, .inr (0, [.ref xk, .ref xb, .ref xo])), (xk, .inl (dK, 32, .inl fk)), (xb, .inl (dB, 16, .inl fb)), (xo, .inl (dO, 16, .inl fo)), (kq0, .inl (dT, 4 * rc_c kind, .inl fk))]) hP hD hS hA [5] [0, 1, 2, 3, 4] rfl rfl rfl (by decide) (va_runI (As := []) (rest := [.ref h0]) ⟨hx, hb, hml, hown, hts⟩ (met_X2_init l dC dI _ h0) (cwI 0 hts (lw_meth q71) rfl rfl rfl (hts _ q15) (hts _ q69) (hts _ q70) rfl (by decide +kernel) ⟨Nat.le_of_ble_eq_true rfl, Nat.le_of_ble_eq_true rfl⟩) ⟨zw_blind, zw_mk hP hD hK [5] [] rfl rfl rfl rfl⟩ rfl rfl hl.1 rfl (lv_room (Nat.le_of_ble_eq_true rfl)) dX0_run_43 ⟨Nat.le_of_ble_eq_true rfl, Nat.le_of_ble_eq_true rfl⟩) (fun _ H locs _ hP hD hK1 hS => ?_)
      have hP : va_P (dC, dI) vwCl [(x0, .inr (0, [.ref xk, .ref xb, .ref xo])), (xk, .inl (dK, 32, .inl fk)), (xb, .inl (dB, 16, .inl fb)), (xo, .inl (dO, 16, .inl fo)), (kq0, .inl (dT, 4 * rc_c kind, .inl fk)), (h0, .inr (2, [.null, .int 0]))] H := hP
      have hD : va_D A [(x0, .inr (0, [.ref xk, .ref xb, .ref xo])), (xk, .inl (dK, 32, .inl fk)), (xb, .inl (dB, 16, .inl fb)), (xo, .inl (dO, 16, .inl fo)), (kq0, .inl (dT, 4 * rc_c kind, .inl fk)), (h0, .inr (2, [.null, .int 0]))] := hD
      refine lv_astore (lv' := [(5, .ref h0), (0, .ref x0), (1, .int z), (3, .int (nI (4 * rc_c kind))), (4, .ref kq0)]) hx hb dX0_run_46 hl (by decide) rfl (fun ls hl => ?_)
      refine lv_aload hx hb dX0_run_48 (lv_at hl 0 rfl) ?_
      refine lv_iload_n hx hb dX0_run_50 rfl (lv_at hl 2 rfl) ?_
      refine va_new (ci := 3) (fs := [.null]) (C := RX3) (T := TX3) (N := 1) hx hb hts in_X3 tyX3 tyX3_ok hown (hts _ q80) (hts _ q81) (hts _ q16) hK hP hD hS hA rfl (fun j hj => by rcases (show j = 0 by omega) with rfl <;> rfl) (Nat.le_of_ble_eq_true rfl) (Nat.le_of_ble_eq_true rfl) dX0_run_51 (fun q3 H hP hD hS => ?_)
      have hP : va_P (dC, dI) vwCl [(x0, .inr (0, [.ref xk, .ref xb, .ref xo])), (xk, .inl (dK, 32, .inl fk)), (xb, .inl (dB, 16, .inl fb)), (xo, .inl (dO, 16, .inl fo)), (kq0, .inl (dT, 4 * rc_c kind, .inl fk)), (h0, .inr (2, [.null, .int 0])), (q3, .inr (3, [.null]))] H := hP
      have hD : va_D A [(x0, .inr (0, [.ref xk, .ref xb, .ref xo])), (xk, .inl (dK, 32, .inl fk)), (xb, .inl (dB, 16, .inl fb)), (xo, .inl (dO, 16, .inl fo)), (kq0, .inl (dT, 4 * rc_c kind, .inl fk)), (h0, .inr (2, [.null, .int 0])), (q3, .inr (3, [.null]))] := hD
      refine W.widen (k := 3) (n := 35) (Nat.le_of_ble_eq_true rfl) (Nat.le_of_ble_eq_true rfl) ?_
      refine lv_dup hx hb dX0_run_54 rfl ?_
      refine lv_aload hx hb dX0_run_55 (lv_at hl 4 rfl) ?_
      refine zc_v (wc := [(q3, .inr (3, [.null])), (kq0, .inl (dT, 4 * rc_c kind, .inl fk))]) (wr := [(x0, .inr (0, [.ref xk, .ref xb, .ref xo])), (xk, .inl (dK, 32, .inl fk)), (xb, .inl (dB, 16, .inl fb)), (xo, .inl (dO, 16, .inl fo)), (h0, .inr (2, [.null, .int 0]))]) hP hD hS hA [6, 4] [0, 1, 2, 3, 5] rfl rfl rfl (by decide) (va_runI (As := [.ref kq0]) (rest := [.ref q3, .int z, .ref h0]) ⟨hx, hb, hml, hown, hts⟩ (met_X3_init l dC dI _ q3 kq0 (4 * rc_c kind) dT fk (by omega) hf) (cwI 1 hts (lw_meth q84) rfl rfl rfl (hts _ q16) (hts _ q82) (hts _ q83) rfl (by decide +kernel) ⟨Nat.le_of_ble_eq_true rfl, Nat.le_of_ble_eq_true rfl⟩) ⟨zw_blind, zw_mk hP hD hK [6, 4] [3] rfl rfl rfl rfl⟩ rfl rfl hl.1 rfl (lv_room (Nat.le_of_ble_eq_true rfl)) dX0_run_57 ⟨Nat.le_of_ble_eq_true rfl, Nat.le_of_ble_eq_true rfl⟩) (fun u H locs _ hP hD hK1 hS => ?_)
      obtain ⟨kq, dQ⟩ := u
      have hK := hK.app hK1
      have hP : va_P (dC, dI) vwCl [(x0, .inr (0, [.ref xk, .ref xb, .ref xo])), (xk, .inl (dK, 32, .inl fk)), (xb, .inl (dB, 16, .inl fb)), (xo, .inl (dO, 16, .inl fo)), (h0, .inr (2, [.null, .int 0])), (q3, .inr (3, [.ref kq])), (kq0, .inl (dT, 4 * rc_c kind, .inl fk)), (kq, .inl (dQ, 4 * rc_c kind, .inl fk))] H := hP
      have hD : va_D A [(x0, .inr (0, [.ref xk, .ref xb, .ref xo])), (xk, .inl (dK, 32, .inl fk)), (xb, .inl (dB, 16, .inl fb)), (xo, .inl (dO, 16, .inl fo)), (h0, .inr (2, [.null, .int 0])), (q3, .inr (3, [.ref kq])), (kq0, .inl (dT, 4 * rc_c kind, .inl fk)), (kq, .inl (dQ, 4 * rc_c kind, .inl fk))] := hD
      have hK : va_K (dC, dI) vwCl [(dK, .byte), (dB, .byte), (dO, .byte), (dT, .byte), (dT, .byte), (dQ, .byte)] s := hK
      refine W.widen (k := 4) (n := 67) (Nat.le_of_ble_eq_true rfl) (Nat.le_of_ble_eq_true rfl) ?_
      refine zc_Fv (wc := [(h0, .inr (2, [.null, .int 0])), (q3, .inr (3, [.ref kq])), (kq, .inl (dQ, 4 * rc_c kind, .inl fk))]) (wr := [(x0, .inr (0, [.ref xk, .ref xb, .ref xo])), (xk, .inl (dK, 32, .inl fk)), (xb, .inl (dB, 16, .inl fb)), (xo, .inl (dO, 16, .inl fo)), (kq0, .inl (dT, 4 * rc_c kind, .inl fk))]) hP hD hS hA [4, 5, 7] [0, 1, 2, 3, 6] rfl rfl rfl (by decide) (va_runF (As := [.int z, .ref q3]) (rest := []) (hK.1 2 _ rfl).2 ⟨hx, hb, hml, hown, hts⟩ (met_X2_init_2 l dC dI _ h0 q3 kq (rc_c kind) dQ fk z hw hzn hzf) (va_cwF (x := yBC_init) 2 hts (lw_F q100 q104 q106 q15 q108) rfl rfl rfl hF.1 (by decide +kernel) ⟨Nat.le_of_ble_eq_true rfl, Nat.le_of_ble_eq_true rfl⟩) ⟨zw_blind, va_recv hK hP (ci := 2) (q0 := 4) rfl rfl, zw_mk hP hD hK [4, 5, 7] [5] rfl rfl rfl rfl⟩ rfl rfl hl.1 rfl (lv_room (Nat.le_of_ble_eq_true rfl)) dX0_run_60 ⟨Nat.le_of_ble_eq_true rfl, Nat.le_of_ble_eq_true rfl⟩) (fun u H locs _ hP hD hK1 hS => ?_)
      obtain ⟨sq, dS⟩ := u
      have hK := hK.app hK1
      have hP : va_P (dC, dI) vwCl [(x0, .inr (0, [.ref xk, .ref xb, .ref xo])), (xk, .inl (dK, 32, .inl fk)), (xb, .inl (dB, 16, .inl fb)), (xo, .inl (dO, 16, .inl fo)), (kq0, .inl (dT, 4 * rc_c kind, .inl fk)), (h0, .inr (2, [.ref sq, .int z])), (q3, .inr (3, [.ref kq])), (kq, .inl (dQ, 4 * rc_c kind, .inl fk)), (sq, .inl (dS, 44, .inl (rc_S (rc_c kind) fk)))] H := hP
      have hD : va_D A [(x0, .inr (0, [.ref xk, .ref xb, .ref xo])), (xk, .inl (dK, 32, .inl fk)), (xb, .inl (dB, 16, .inl fb)), (xo, .inl (dO, 16, .inl fo)), (kq0, .inl (dT, 4 * rc_c kind, .inl fk)), (h0, .inr (2, [.ref sq, .int z])), (q3, .inr (3, [.ref kq])), (kq, .inl (dQ, 4 * rc_c kind, .inl fk)), (sq, .inl (dS, 44, .inl (rc_S (rc_c kind) fk)))] := hD
      have hK : va_K (dC, dI) vwCl [(dK, .byte), (dB, .byte), (dO, .byte), (dT, .byte), (dT, .byte), (dQ, .byte), (dQ, .byte), (dS, .int)] s := hK
      refine W.widen (k := 6) (n := 119) (Nat.le_of_ble_eq_true rfl) (Nat.le_of_ble_eq_true rfl) ?_
      refine lv_aload hx hb dX0_run_65 (lv_at hl 0 rfl) ?_
      refine lv_aload_n hx hb dX0_run_67 rfl (lv_at hl 1 rfl) ?_
      refine va_get (D := (dC, dI)) (ci := 0) (v := .ref xb) (C := RX0) (T := TX0) (N := 3) hx hb hts in_X0 hown hK hP 0 rfl rfl 1 (by decide) (hts _ q35) (fun _ h9 => h9) rfl dX0_run_68 ?_
      refine lv_iconst (v := (nI 0)) hx hb dX0_run_71 (by decide) ?_
      refine lv_aload_n hx hb dX0_run_72 rfl (lv_at hl 1 rfl) ?_
      refine va_get (D := (dC, dI)) (ci := 0) (v := .ref xo) (C := RX0) (T := TX0) (N := 3) hx hb hts in_X0 hown hK hP 0 rfl rfl 2 (by decide) (hts _ q36) (fun _ h9 => h9) rfl dX0_run_73 ?_
      refine lv_iconst (v := (nI 0)) hx hb dX0_run_76 (by decide) ?_
      refine zc_Fi (wc := [(h0, .inr (2, [.ref sq, .int z])), (sq, .inl (dS, 44, .inl (rc_S (rc_c kind) fk))), (xb, .inl (dB, 16, .inl fb)), (xo, .inl (dO, 16, .inl fo))]) (wr := [(x0, .inr (0, [.ref xk, .ref xb, .ref xo])), (xk, .inl (dK, 32, .inl fk)), (kq0, .inl (dT, 4 * rc_c kind, .inl fk)), (q3, .inr (3, [.ref kq])), (kq, .inl (dQ, 4 * rc_c kind, .inl fk))]) hP hD hS hA [5, 8, 2, 3] [0, 1, 4, 6, 7] rfl rfl rfl (by decide) (va_runF (As := [.ref xb, .int (nI 0), .ref xo, .int (nI 0)]) (rest := []) (hK.1 2 _ rfl).2 ⟨hx, hb, hml, hown, hts⟩ (met_X2_processBlock l dC dI _ h0 sq xb xo dS dB dO z (rc_S (rc_c kind) fk) fb fo) (va_cwF (x := yBC_proc) 4 hts (lw_F q193 q196 q198 q15 q200) rfl rfl rfl hF.2 (by decide +kernel) ⟨Nat.le_of_ble_eq_true rfl, Nat.le_of_ble_eq_true rfl⟩) ⟨zw_blind, va_recv hK hP (ci := 2) (q0 := 5) rfl rfl, zw_mk hP hD hK [5, 8, 2, 3] [7, 1, 2] rfl rfl rfl rfl⟩ rfl rfl hl.1 rfl (lv_room (Nat.le_of_ble_eq_true rfl)) dX0_run_77 ⟨Nat.le_of_ble_eq_true rfl, Nat.le_of_ble_eq_true rfl⟩) (fun r _ H locs _ hP hD hK1 hS => ?_)
      have hP : va_P (dC, dI) vwCl [(x0, .inr (0, [.ref xk, .ref xb, .ref xo])), (xk, .inl (dK, 32, .inl fk)), (kq0, .inl (dT, 4 * rc_c kind, .inl fk)), (q3, .inr (3, [.ref kq])), (kq, .inl (dQ, 4 * rc_c kind, .inl fk)), (h0, .inr (2, [.ref sq, .int z])), (sq, .inl (dS, 44, .inl (rc_S (rc_c kind) fk))), (xb, .inl (dB, 16, .inl fb)), (xo, .inl (dO, 16, .inl (rc_run z (rc_S (rc_c kind) fk) fb)))] H := hP
      have hD : va_D A [(x0, .inr (0, [.ref xk, .ref xb, .ref xo])), (xk, .inl (dK, 32, .inl fk)), (kq0, .inl (dT, 4 * rc_c kind, .inl fk)), (q3, .inr (3, [.ref kq])), (kq, .inl (dQ, 4 * rc_c kind, .inl fk)), (h0, .inr (2, [.ref sq, .int z])), (sq, .inl (dS, 44, .inl (rc_S (rc_c kind) fk))), (xb, .inl (dB, 16, .inl fb)), (xo, .inl (dO, 16, .inl (rc_run z (rc_S (rc_c kind) fk) fb)))] := hD
      refine lv_pop hx hb dX0_run_82 rfl ?_
      have hP9 := hP.sub (ws' := [(x0, .inr (0, [.ref xk, .ref xb, .ref xo])), (xk, .inl (dK, 32, .inl fk)), (xb, .inl (dB, 16, .inl fb)), (xo, .inl (dO, 16, .inl (rc_run z (rc_S (rc_c kind) fk) fb)))]) [0, 1, 7, 8] rfl
      have hD9 := hD.sub (ws' := [(x0, .inr (0, [.ref xk, .ref xb, .ref xo])), (xk, .inl (dK, 32, .inl fk)), (xb, .inl (dB, 16, .inl fb)), (xo, .inl (dO, 16, .inl (rc_run z (rc_S (rc_c kind) fk) fb)))]) [0, 1, 7, 8] (by decide) rfl
      have hK9 := hK.sub (tys' := [(dK, .byte), (dB, .byte), (dO, .byte)]) [0, 1, 2] rfl
      exact W.vret hx hb hr (fun t ht hW => ⟨⟨(), rfl, trivial, by rw [ht]; exact hP9, va_K.moved hW.alike hK9, hD9⟩, hS.F ht⟩) hS.2.2 dX0_run_83
    | succ r ih =>
      intro i hi H locs hP hD hS ls hl
      refine lv_iload hx hb dX0_run_15 (lv_at hl 4 rfl) ?_
      refine lv_iload_n hx hb dX0_run_17 rfl (lv_at hl 2 rfl) ?_
      refine lv_icmp_ge (tgt := 39) hx hb dX0_run_18 (by decide) (fun c_ => absurd c_ (nI_ge (a := i) (b := 4 * rc_c kind) (by omega) (by omega))) (fun _ => ?_)
      refine lv_aload hx hb dX0_run_21 (lv_at hl 3 rfl) ?_
      refine lv_iload hx hb dX0_run_23 (lv_at hl 4 rfl) ?_
      refine lv_aload_n hx hb dX0_run_25 rfl (lv_at hl 0 rfl) ?_
      refine va_get (D := (dC, dI)) (ci := 0) (v := .ref xk) (C := RX0) (T := TX0) (N := 3) hx hb hts in_X0 hown hK hP 0 rfl rfl 0 (by decide) (hts _ q34) (fun _ h9 => h9) rfl dX0_run_26 ?_
      refine lv_iload hx hb dX0_run_29 (lv_at hl 4 rfl) ?_
      refine zz_bald hx hb hK hP 1 0 rfl rfl i rfl (by omega) (by omega) dX0_run_31 ?_
      refine zz_bast hx hb hK hP hD hS 4 3 rfl rfl i (rc_m (i + 1) fk (fun _ => 0)) rfl (by omega) (by omega) (hf i) (fun j _ => rc_m_s i fk _ j) dX0_run_32 (fun H locs hP hD hS => ?_)
      have hP : va_P (dC, dI) vwCl [(x0, .inr (0, [.ref xk, .ref xb, .ref xo])), (xk, .inl (dK, 32, .inl fk)), (xb, .inl (dB, 16, .inl fb)), (xo, .inl (dO, 16, .inl fo)), (kq0, .inl (dT, 4 * rc_c kind, .inl (rc_m (i + 1) fk (fun _ => 0))))] H := hP
      have hD : va_D A [(x0, .inr (0, [.ref xk, .ref xb, .ref xo])), (xk, .inl (dK, 32, .inl fk)), (xb, .inl (dB, 16, .inl fb)), (xo, .inl (dO, 16, .inl fo)), (kq0, .inl (dT, 4 * rc_c kind, .inl (rc_m (i + 1) fk (fun _ => 0))))] := hD
      refine lv_iinc (v := (nI (i + 1))) (lv' := [(5, .int (nI (i + 1))), (0, .ref x0), (1, .int z), (3, .int (nI (4 * rc_c kind))), (4, .ref kq0)]) hx hb dX0_run_33 hl (k := 4) rfl (zi_p1 i) (by decide) rfl (fun ls hl => ?_)
      refine lv_goto (tgt := 15) hx hb dX0_run_36 (by decide) ?_
      exact ih (i + 1) (by omega) H locs hP hD hS ls (lv_sub hl [1, 2, 3, 4, 0] rfl)
  refine lv_iconst (v := (nI 0)) hx hb dX0_run_12 (by decide) ?_
  refine lv_istore (lv' := [(5, .int (nI 0)), (4, .ref kq0), (3, .int (nI (4 * rc_c kind))), (0, .ref x0), (1, .int z), (2, .int kind)]) hx hb dX0_run_13 hl (by decide) rfl (fun ls hl => ?_)
  have hP := zz_ext hP 4 rfl (g := rc_m 0 fk (fun _ => 0)) (fun j _ => rc_m_0 fk (fun _ => 0) j)
  have hD : va_D A [(x0, .inr (0, [.ref xk, .ref xb, .ref xo])), (xk, .inl (dK, 32, .inl fk)), (xb, .inl (dB, 16, .inl fb)), (xo, .inl (dO, 16, .inl fo)), (kq0, .inl (dT, 4 * rc_c kind, .inl (rc_m 0 fk (fun _ => 0))))] := hD.set (p := 4) rfl
  exact loop (4 * rc_c kind) 0 (by omega) H [] hP hD hS ls (lv_sub hl [3, 4, 2, 1, 0] rfl)
set_option maxHeartbeats 4000000 in
set_option maxRecDepth 100000 in
/-- RcSixDesk.lock -/
theorem met_X0_lock (l : Launch) (dC : Nat → ClassId) (dI : Nat → Nat → Nat) (sz : Nat) (x0 xk xb xo : Nat) (dK dB dO : ClassId) (fk fb fo : Nat → Int32) (kind : Int32) (hf : rc_By fk) : Met l yX0_lock (ws_ yX0_lock cX0_lock 2 none) ({ frames := 5, cells := 6, slots := 119, locals := 106 }) (va_Pc [.ref x0, .int kind] (fun U => zw_pre (dC, dI) [(dK, .byte), (dB, .byte), (dO, .byte)] [(x0, .inr (0, [.ref xk, .ref xb, .ref xo])), (xk, .inl (dK, 32, .inl fk)), (xb, .inl (dB, 16, .inl fb)), (xo, .inl (dO, 16, .inl fo))] sz U ∧ zf_W U)) (va_Qv (fun _ => True) (fun (_ : Unit) t => zw_post (dC, dI) [(dK, .byte), (dB, .byte), (dO, .byte)] [(x0, .inr (0, [.ref xk, .ref xb, .ref xo])), (xk, .inl (dK, 32, .inl fk)), (xb, .inl (dB, 16, .inl fb)), (xo, .inl (dO, 16, .inl (rc_run 1 (rc_S (rc_c kind) fk) fb)))] (va_A [(x0, .inr (0, [.ref xk, .ref xb, .ref xo])), (xk, .inl (dK, 32, .inl fk)), (xb, .inl (dB, 16, .inl fb)), (xo, .inl (dO, 16, .inl fo))] sz) t) (va_A [(x0, .inr (0, [.ref xk, .ref xb, .ref xo])), (xk, .inl (dK, 32, .inl fk)), (xb, .inl (dB, 16, .inl fb)), (xo, .inl (dO, 16, .inl fo))] sz)) 6 119 (va_A [(x0, .inr (0, [.ref xk, .ref xb, .ref xo])), (xk, .inl (dK, 32, .inl fk)), (xb, .inl (dB, 16, .inl fb)), (xo, .inl (dO, 16, .inl fo))] sz) := by
  refine Met.ofW (cc := cX0_lock) (maxL := 2) (ret := none) (by decide) rfl ?_
  intro p e s m args below meth c s₁ B hml hv
  obtain ⟨rfl, ⟨hsz, hP, hK, hD0⟩, hF⟩ := hv
  have hx := B.exec
  have hb := B.bytes
  have hr := B.returns
  have hts := atoms_spec (ws := (ws_ yX0_lock cX0_lock 2 none)) B.pre
  have hts : ∀ w ∈ lw_all, w.before _ s = true := fun w h => hts w (List.mem_cons_of_mem _ h)
  have hown : s.vm.findClass RX0 = some m.cls := findClass_of_methodNamed B.named
  have hlocks := B.notSynchronized
  subst hsz
  have hD := hD0.self (sz := s.heap.size)
  generalize hAe : va_A [(x0, .inr (0, [.ref xk, .ref xb, .ref xo])), (xk, .inl (dK, 32, .inl fk)), (xb, .inl (dB, 16, .inl fb)), (xo, .inl (dO, 16, .inl fo))] s.heap.size = A at hD ⊢
  have hA : ∀ q : Nat, s.heap.size ≤ q → A q := fun q h => by rw [← hAe]; exact Or.inr h
  have hS : va_S A s.heap s.heap [] := va_S.rf
  have hP : va_P (dC, dI) vwCl [(x0, .inr (0, [.ref xk, .ref xb, .ref xo])), (xk, .inl (dK, 32, .inl fk)), (xb, .inl (dB, 16, .inl fb)), (xo, .inl (dO, 16, .inl fo))] s.heap := hP
  have hl := lv_entry ([.ref x0, .int kind]) (n := 2) (Nat.le_of_ble_eq_true rfl)
  rw [lg_entry_eq]
  generalize (lg_sl ([.ref x0, .int kind]) ++ List.replicate (2 - (lg_sl ([.ref x0, .int kind])).length) Slot.unset).toArray = ls at hl ⊢
  have hl : lv_has ls 2 [(0, .ref x0), (1, .int kind)] := hl
  refine lv_aload_n hx hb dX0_lock_0 rfl (lv_at hl 0 rfl) ?_
  refine lv_iconst (v := 1) hx hb dX0_lock_1 (by decide) ?_
  refine lv_iload_n hx hb dX0_lock_2 rfl (lv_at hl 1 rfl) ?_
  refine zc_v (wc := [(x0, .inr (0, [.ref xk, .ref xb, .ref xo])), (xk, .inl (dK, 32, .inl fk)), (xb, .inl (dB, 16, .inl fb)), (xo, .inl (dO, 16, .inl fo))]) (wr := []) hP hD hS hA [0, 1, 2, 3] [] rfl rfl rfl (by decide) (va_runV (As := [.int 1, .int kind]) (rest := []) ⟨hx, hb, hml, hown, hts⟩ (met_X0_run l dC dI _ x0 xk xb xo dK dB dO fk fb fo 1 kind hf rfl rfl) (cwV 2 hts (lw_V q60 q62 qs0 q13 q63) rfl rfl rfl (by decide +kernel) ⟨Nat.le_of_ble_eq_true rfl, Nat.le_of_ble_eq_true rfl⟩) ⟨zf_blind, va_recv hK hP (ci := 0) (q0 := 0) rfl rfl, zf_mk hP hD hK [0, 1, 2, 3] [0, 1, 2] rfl rfl rfl rfl hF⟩ rfl rfl hl.1 rfl (lv_room (Nat.le_of_ble_eq_true rfl)) dX0_lock_3 ⟨Nat.le_of_ble_eq_true rfl, Nat.le_of_ble_eq_true rfl⟩) (fun _ H locs _ hP hD hK1 hS => ?_)
  have hP : va_P (dC, dI) vwCl [(x0, .inr (0, [.ref xk, .ref xb, .ref xo])), (xk, .inl (dK, 32, .inl fk)), (xb, .inl (dB, 16, .inl fb)), (xo, .inl (dO, 16, .inl (rc_run 1 (rc_S (rc_c kind) fk) fb)))] H := hP
  have hD : va_D A [(x0, .inr (0, [.ref xk, .ref xb, .ref xo])), (xk, .inl (dK, 32, .inl fk)), (xb, .inl (dB, 16, .inl fb)), (xo, .inl (dO, 16, .inl (rc_run 1 (rc_S (rc_c kind) fk) fb)))] := hD
  refine W.widen (k := 6) (n := 119) (Nat.le_of_ble_eq_true rfl) (Nat.le_of_ble_eq_true rfl) ?_
  have hP9 := hP.sub (ws' := [(x0, .inr (0, [.ref xk, .ref xb, .ref xo])), (xk, .inl (dK, 32, .inl fk)), (xb, .inl (dB, 16, .inl fb)), (xo, .inl (dO, 16, .inl (rc_run 1 (rc_S (rc_c kind) fk) fb)))]) [0, 1, 2, 3] rfl
  have hD9 := hD.sub (ws' := [(x0, .inr (0, [.ref xk, .ref xb, .ref xo])), (xk, .inl (dK, 32, .inl fk)), (xb, .inl (dB, 16, .inl fb)), (xo, .inl (dO, 16, .inl (rc_run 1 (rc_S (rc_c kind) fk) fb)))]) [0, 1, 2, 3] (by decide) rfl
  have hK9 := hK.sub (tys' := [(dK, .byte), (dB, .byte), (dO, .byte)]) [0, 1, 2] rfl
  exact W.vret hx hb hr (fun t ht hW => ⟨⟨(), rfl, trivial, by rw [ht]; exact hP9, va_K.moved hW.alike hK9, hD9⟩, hS.F ht⟩) hS.2.2 dX0_lock_6
set_option maxHeartbeats 4000000 in
set_option maxRecDepth 100000 in
/-- RcSixDesk.open -/
theorem met_X0_open (l : Launch) (dC : Nat → ClassId) (dI : Nat → Nat → Nat) (sz : Nat) (x0 xk xb xo : Nat) (dK dB dO : ClassId) (fk fb fo : Nat → Int32) (kind : Int32) (hf : rc_By fk) : Met l yX0_open (ws_ yX0_open cX0_open 2 none) ({ frames := 5, cells := 6, slots := 119, locals := 106 }) (va_Pc [.ref x0, .int kind] (fun U => zw_pre (dC, dI) [(dK, .byte), (dB, .byte), (dO, .byte)] [(x0, .inr (0, [.ref xk, .ref xb, .ref xo])), (xk, .inl (dK, 32, .inl fk)), (xb, .inl (dB, 16, .inl fb)), (xo, .inl (dO, 16, .inl fo))] sz U ∧ zf_W U)) (va_Qv (fun _ => True) (fun (_ : Unit) t => zw_post (dC, dI) [(dK, .byte), (dB, .byte), (dO, .byte)] [(x0, .inr (0, [.ref xk, .ref xb, .ref xo])), (xk, .inl (dK, 32, .inl fk)), (xb, .inl (dB, 16, .inl fb)), (xo, .inl (dO, 16, .inl (rc_run 0 (rc_S (rc_c kind) fk) fb)))] (va_A [(x0, .inr (0, [.ref xk, .ref xb, .ref xo])), (xk, .inl (dK, 32, .inl fk)), (xb, .inl (dB, 16, .inl fb)), (xo, .inl (dO, 16, .inl fo))] sz) t) (va_A [(x0, .inr (0, [.ref xk, .ref xb, .ref xo])), (xk, .inl (dK, 32, .inl fk)), (xb, .inl (dB, 16, .inl fb)), (xo, .inl (dO, 16, .inl fo))] sz)) 6 119 (va_A [(x0, .inr (0, [.ref xk, .ref xb, .ref xo])), (xk, .inl (dK, 32, .inl fk)), (xb, .inl (dB, 16, .inl fb)), (xo, .inl (dO, 16, .inl fo))] sz) := by
  refine Met.ofW (cc := cX0_open) (maxL := 2) (ret := none) (by decide) rfl ?_
  intro p e s m args below meth c s₁ B hml hv
  obtain ⟨rfl, ⟨hsz, hP, hK, hD0⟩, hF⟩ := hv
  have hx := B.exec
  have hb := B.bytes
  have hr := B.returns
  have hts := atoms_spec (ws := (ws_ yX0_open cX0_open 2 none)) B.pre
  have hts : ∀ w ∈ lw_all, w.before _ s = true := fun w h => hts w (List.mem_cons_of_mem _ h)
  have hown : s.vm.findClass RX0 = some m.cls := findClass_of_methodNamed B.named
  have hlocks := B.notSynchronized
  subst hsz
  have hD := hD0.self (sz := s.heap.size)
  generalize hAe : va_A [(x0, .inr (0, [.ref xk, .ref xb, .ref xo])), (xk, .inl (dK, 32, .inl fk)), (xb, .inl (dB, 16, .inl fb)), (xo, .inl (dO, 16, .inl fo))] s.heap.size = A at hD ⊢
  have hA : ∀ q : Nat, s.heap.size ≤ q → A q := fun q h => by rw [← hAe]; exact Or.inr h
  have hS : va_S A s.heap s.heap [] := va_S.rf
  have hP : va_P (dC, dI) vwCl [(x0, .inr (0, [.ref xk, .ref xb, .ref xo])), (xk, .inl (dK, 32, .inl fk)), (xb, .inl (dB, 16, .inl fb)), (xo, .inl (dO, 16, .inl fo))] s.heap := hP
  have hl := lv_entry ([.ref x0, .int kind]) (n := 2) (Nat.le_of_ble_eq_true rfl)
  rw [lg_entry_eq]
  generalize (lg_sl ([.ref x0, .int kind]) ++ List.replicate (2 - (lg_sl ([.ref x0, .int kind])).length) Slot.unset).toArray = ls at hl ⊢
  have hl : lv_has ls 2 [(0, .ref x0), (1, .int kind)] := hl
  refine lv_aload_n hx hb dX0_open_0 rfl (lv_at hl 0 rfl) ?_
  refine lv_iconst (v := 0) hx hb dX0_open_1 (by decide) ?_
  refine lv_iload_n hx hb dX0_open_2 rfl (lv_at hl 1 rfl) ?_
  refine zc_v (wc := [(x0, .inr (0, [.ref xk, .ref xb, .ref xo])), (xk, .inl (dK, 32, .inl fk)), (xb, .inl (dB, 16, .inl fb)), (xo, .inl (dO, 16, .inl fo))]) (wr := []) hP hD hS hA [0, 1, 2, 3] [] rfl rfl rfl (by decide) (va_runV (As := [.int 0, .int kind]) (rest := []) ⟨hx, hb, hml, hown, hts⟩ (met_X0_run l dC dI _ x0 xk xb xo dK dB dO fk fb fo 0 kind hf rfl rfl) (cwV 2 hts (lw_V q60 q62 qs0 q13 q63) rfl rfl rfl (by decide +kernel) ⟨Nat.le_of_ble_eq_true rfl, Nat.le_of_ble_eq_true rfl⟩) ⟨zf_blind, va_recv hK hP (ci := 0) (q0 := 0) rfl rfl, zf_mk hP hD hK [0, 1, 2, 3] [0, 1, 2] rfl rfl rfl rfl hF⟩ rfl rfl hl.1 rfl (lv_room (Nat.le_of_ble_eq_true rfl)) dX0_open_3 ⟨Nat.le_of_ble_eq_true rfl, Nat.le_of_ble_eq_true rfl⟩) (fun _ H locs _ hP hD hK1 hS => ?_)
  have hP : va_P (dC, dI) vwCl [(x0, .inr (0, [.ref xk, .ref xb, .ref xo])), (xk, .inl (dK, 32, .inl fk)), (xb, .inl (dB, 16, .inl fb)), (xo, .inl (dO, 16, .inl (rc_run 0 (rc_S (rc_c kind) fk) fb)))] H := hP
  have hD : va_D A [(x0, .inr (0, [.ref xk, .ref xb, .ref xo])), (xk, .inl (dK, 32, .inl fk)), (xb, .inl (dB, 16, .inl fb)), (xo, .inl (dO, 16, .inl (rc_run 0 (rc_S (rc_c kind) fk) fb)))] := hD
  refine W.widen (k := 6) (n := 119) (Nat.le_of_ble_eq_true rfl) (Nat.le_of_ble_eq_true rfl) ?_
  have hP9 := hP.sub (ws' := [(x0, .inr (0, [.ref xk, .ref xb, .ref xo])), (xk, .inl (dK, 32, .inl fk)), (xb, .inl (dB, 16, .inl fb)), (xo, .inl (dO, 16, .inl (rc_run 0 (rc_S (rc_c kind) fk) fb)))]) [0, 1, 2, 3] rfl
  have hD9 := hD.sub (ws' := [(x0, .inr (0, [.ref xk, .ref xb, .ref xo])), (xk, .inl (dK, 32, .inl fk)), (xb, .inl (dB, 16, .inl fb)), (xo, .inl (dO, 16, .inl (rc_run 0 (rc_S (rc_c kind) fk) fb)))]) [0, 1, 2, 3] (by decide) rfl
  have hK9 := hK.sub (tys' := [(dK, .byte), (dB, .byte), (dO, .byte)]) [0, 1, 2] rfl
  exact W.vret hx hb hr (fun t ht hW => ⟨⟨(), rfl, trivial, by rw [ht]; exact hP9, va_K.moved hW.alike hK9, hD9⟩, hS.F ht⟩) hS.2.2 dX0_open_6
end
section
/-! THE MODEL: expands, lock, open (printed by wip/gen/g17.py) -/
set_option maxHeartbeats 4000000 in
set_option maxRecDepth 100000 in
/-- RcSixDeskModel.expands(bytes) -/
theorem met_X1_expands (l : Launch) (dC : Nat → ClassId) (dI : Nat → Nat → Nat) (sz : Nat) (y0 yk yb yo ys yl : Nat) (v5 v6 v7 v8 : Int32) (dK dS dL : ClassId) (fk fs fl : Nat → Int32) (nw : Nat) (hw : nw = 4 ∨ nw = 6 ∨ nw = 8) : Met l yX1_expands (ws_ yX1_expands cX1_expands 8 none) ({ frames := 1, cells := 0, slots := 0, locals := 22 }) (va_Pc [.ref y0, .int (nI (4 * nw))] (zw_pre (dC, dI) [(dK, .byte), (dS, .int), (dL, .int)] [(y0, .inr (1, [.ref yk, .ref yb, .ref yo, .ref ys, .ref yl, .int v5, .int v6, .int v7, .int v8])), (yk, .inl (dK, 32, .inl fk)), (ys, .inl (dS, 44, .inl fs)), (yl, .inl (dL, 8, .inl fl))] sz)) (va_Qv (fun _ => True) (fun (u : Nat → Int32) t => zw_post (dC, dI) [(dK, .byte), (dS, .int), (dL, .int)] [(y0, .inr (1, [.ref yk, .ref yb, .ref yo, .ref ys, .ref yl, .int v5, .int v6, .int v7, .int v8])), (yk, .inl (dK, 32, .inl fk)), (ys, .inl (dS, 44, .inl (rc_S nw fk))), (yl, .inl (dL, 8, .inl u))] (va_A [(y0, .inr (1, [.ref yk, .ref yb, .ref yo, .ref ys, .ref yl, .int v5, .int v6, .int v7, .int v8])), (yk, .inl (dK, 32, .inl fk)), (ys, .inl (dS, 44, .inl fs)), (yl, .inl (dL, 8, .inl fl))] sz) t) (va_A [(y0, .inr (1, [.ref yk, .ref yb, .ref yo, .ref ys, .ref yl, .int v5, .int v6, .int v7, .int v8])), (yk, .inl (dK, 32, .inl fk)), (ys, .inl (dS, 44, .inl fs)), (yl, .inl (dL, 8, .inl fl))] sz)) 0 0 (va_A [(y0, .inr (1, [.ref yk, .ref yb, .ref yo, .ref ys, .ref yl, .int v5, .int v6, .int v7, .int v8])), (yk, .inl (dK, 32, .inl fk)), (ys, .inl (dS, 44, .inl fs)), (yl, .inl (dL, 8, .inl fl))] sz) := by
  refine Met.ofW (cc := cX1_expands) (maxL := 8) (ret := none) (by decide) rfl ?_
  intro p e s m args below meth c s₁ B hml hv
  obtain ⟨rfl, hsz, hP, hK, hD0⟩ := hv
  have hx := B.exec
  have hb := B.bytes
  have hr := B.returns
  have hts := atoms_spec (ws := (ws_ yX1_expands cX1_expands 8 none)) B.pre
  have hts : ∀ w ∈ lw_all, w.before _ s = true := fun w h => hts w (List.mem_cons_of_mem _ h)
  have hown : s.vm.findClass RX1 = some m.cls := findClass_of_methodNamed B.named
  have hlocks := B.notSynchronized
  subst hsz
  have hD := hD0.self (sz := s.heap.size)
  generalize hAe : va_A [(y0, .inr (1, [.ref yk, .ref yb, .ref yo, .ref ys, .ref yl, .int v5, .int v6, .int v7, .int v8])), (yk, .inl (dK, 32, .inl fk)), (ys, .inl (dS, 44, .inl fs)), (yl, .inl (dL, 8, .inl fl))] s.heap.size = A at hD ⊢
  have hA : ∀ q : Nat, s.heap.size ≤ q → A q := fun q h => by rw [← hAe]; exact Or.inr h
  have hS : va_S A s.heap s.heap [] := va_S.rf
  have hP : va_P (dC, dI) vwCl [(y0, .inr (1, [.ref yk, .ref yb, .ref yo, .ref ys, .ref yl, .int v5, .int v6, .int v7, .int v8])), (yk, .inl (dK, 32, .inl fk)), (ys, .inl (dS, 44, .inl fs)), (yl, .inl (dL, 8, .inl fl))] s.heap := hP
  have hl := lv_entry ([.ref y0, .int (nI (4 * nw))]) (n := 8) (Nat.le_of_ble_eq_true rfl)
  rw [lg_entry_eq]
  generalize (lg_sl ([.ref y0, .int (nI (4 * nw))]) ++ List.replicate (8 - (lg_sl ([.ref y0, .int (nI (4 * nw))])).length) Slot.unset).toArray = ls at hl ⊢
  have hl : lv_has ls 8 [(0, .ref y0), (1, .int (nI (4 * nw)))] := hl
  refine lv_iload_n hx hb dX1_expands_0 rfl (lv_at hl 1 rfl) ?_
  refine lv_iconst (v := 4) hx hb dX1_expands_1 (by decide) ?_
  refine lv_idiv hx hb dX1_expands_2 (by decide) ?_
  refine zt (nI nw) ((rc_div4 (4 * nw) (by omega)).trans (congrArg nI (by omega))) ?_
  refine lv_istore_n (lv' := [(2, .int (nI nw)), (0, .ref y0), (1, .int (nI (4 * nw)))]) hx hb dX1_expands_3 rfl hl (by decide) rfl (fun ls hl => ?_)
  have loop3 : ∀ (r k : Nat), k + r = 132 → ∀ (S1 L1 : Nat → Int32) (A1 B1 : Int32), (S1, L1, A1, B1) = rc_ks nw (rc_m nw (fun q => rc_wd fk (4 * q)) fl) k → ∀ (H : Heap) (locs : List Loc), va_P (dC, dI) vwCl [(y0, .inr (1, [.ref yk, .ref yb, .ref yo, .ref ys, .ref yl, .int v5, .int v6, .int v7, .int v8])), (yk, .inl (dK, 32, .inl fk)), (ys, .inl (dS, 44, .inl S1)), (yl, .inl (dL, 8, .inl L1))] H → va_D A [(y0, .inr (1, [.ref yk, .ref yb, .ref yo, .ref ys, .ref yl, .int v5, .int v6, .int v7, .int v8])), (yk, .inl (dK, 32, .inl fk)), (ys, .inl (dS, 44, .inl S1)), (yl, .inl (dL, 8, .inl L1))] → va_S A s.heap H locs → ∀ ls : Array Slot, lv_has ls 8 [(0, .ref y0), (2, .int (nI nw)), (3, .int A1), (4, .int B1), (5, .int (nI k))] → W p l e (headSpec (ws_ yX1_expands cX1_expands 8 none) ({ frames := 1, cells := 0, slots := 0, locals := 22 })).room s m ([.ref y0, .int (nI (4 * nw))] : List Value).toArray below meth c H locs 0 0 (MQ below (va_Qv (fun _ => True) (fun (u : Nat → Int32) t => zw_post (dC, dI) [(dK, .byte), (dS, .int), (dL, .int)] [(y0, .inr (1, [.ref yk, .ref yb, .ref yo, .ref ys, .ref yl, .int v5, .int v6, .int v7, .int v8])), (yk, .inl (dK, 32, .inl fk)), (ys, .inl (dS, 44, .inl (rc_S nw fk))), (yl, .inl (dL, 8, .inl u))] A t) A) ([.ref y0, .int (nI (4 * nw))] : List Value).toArray s 0 0 A) (F0 m 78 ls []) := by
    intro r
    induction r with
    | zero =>
      intro k hk1 S1 L1 A1 B1 hz H locs hP hD hS ls hl
      have hk1 : k = 132 := by omega
      subst hk1
      refine lv_iload hx hb dX1_expands_78 (lv_at hl 4 rfl) ?_
      refine lv_sipush (v := 132) hx hb dX1_expands_80 (by decide) ?_
      refine lv_icmp_ge (tgt := 171) hx hb dX1_expands_83 (by decide) (fun _ => ?_) (fun c_ => absurd (by decide +kernel) c_)
      have hx0 := (rc_ks_ext nw (by omega) (L0 := (rc_m nw (fun q => rc_wd fk (4 * q)) fl)) (L1 := (fun q => rc_wd fk (4 * q))) (fun j hj => rc_m_all _ fl j hj) 132).1
      have hP := zz_ext hP 2 rfl (g := rc_S nw fk) (fun j _ => by show S1 j = (rc_ks nw (fun q => rc_wd fk (4 * q)) 132).1 j; rw [← hx0, ← hz])
      have hD : va_D A [(y0, .inr (1, [.ref yk, .ref yb, .ref yo, .ref ys, .ref yl, .int v5, .int v6, .int v7, .int v8])), (yk, .inl (dK, 32, .inl fk)), (ys, .inl (dS, 44, .inl (rc_S nw fk))), (yl, .inl (dL, 8, .inl L1))] := hD.set (p := 2) rfl
      have hP9 := hP.sub (ws' := [(y0, .inr (1, [.ref yk, .ref yb, .ref yo, .ref ys, .ref yl, .int v5, .int v6, .int v7, .int v8])), (yk, .inl (dK, 32, .inl fk)), (ys, .inl (dS, 44, .inl (rc_S nw fk))), (yl, .inl (dL, 8, .inl L1))]) [0, 1, 2, 3] rfl
      have hD9 := hD.sub (ws' := [(y0, .inr (1, [.ref yk, .ref yb, .ref yo, .ref ys, .ref yl, .int v5, .int v6, .int v7, .int v8])), (yk, .inl (dK, 32, .inl fk)), (ys, .inl (dS, 44, .inl (rc_S nw fk))), (yl, .inl (dL, 8, .inl L1))]) [0, 1, 2, 3] (by decide) rfl
      have hK9 := hK.sub (tys' := [(dK, .byte), (dS, .int), (dL, .int)]) [0, 1, 2] rfl
      exact W.vret hx hb hr (fun t ht hW => ⟨⟨L1, rfl, trivial, by rw [ht]; exact hP9, va_K.moved hW.alike hK9, hD9⟩, hS.F ht⟩) hS.2.2 dX1_expands_171
    | succ r ih =>
      intro k hk1 S1 L1 A1 B1 hz H locs hP hD hS ls hl
      have hm1 : k % 44 < 44 := Nat.mod_lt k (by omega)
      have hm2 : k % nw < nw := Nat.mod_lt k (by omega)
      refine lv_iload hx hb dX1_expands_78 (lv_at hl 4 rfl) ?_
      refine lv_sipush (v := 132) hx hb dX1_expands_80 (by decide) ?_
      refine lv_icmp_ge (tgt := 171) hx hb dX1_expands_83 (by decide) (fun c_ => absurd c_ (nI_ge (a := k) (b := 132) (by omega) (by omega))) (fun _ => ?_)
      refine lv_iload hx hb dX1_expands_86 (lv_at hl 4 rfl) ?_
      refine lv_bipush (v := (nI 44)) hx hb dX1_expands_88 (by decide) ?_
      refine lv_irem hx hb dX1_expands_90 (by decide +kernel) ?_
      refine zt (nI (k % 44)) (rc_remn k 44 (by omega) (by omega) (by omega)) ?_
      refine lv_istore (lv' := [(6, .int (nI (k % 44))), (0, .ref y0), (2, .int (nI nw)), (3, .int A1), (4, .int B1), (5, .int (nI k))]) hx hb dX1_expands_91 hl (by decide) rfl (fun ls hl => ?_)
      refine lv_iload hx hb dX1_expands_93 (lv_at hl 5 rfl) ?_
      refine lv_iload_n hx hb dX1_expands_95 rfl (lv_at hl 2 rfl) ?_
      refine lv_irem hx hb dX1_expands_96 (nI_ne0 (by omega) (by omega)) ?_
      refine zt (nI (k % nw)) (rc_remn k nw (by omega) (by omega) (by omega)) ?_
      refine lv_istore (lv' := [(7, .int (nI (k % nw))), (6, .int (nI (k % 44))), (0, .ref y0), (2, .int (nI nw)), (3, .int A1), (4, .int B1), (5, .int (nI k))]) hx hb dX1_expands_97 hl (by decide) rfl (fun ls hl => ?_)
      refine lv_aload_n hx hb dX1_expands_99 rfl (lv_at hl 2 rfl) ?_
      refine va_get (D := (dC, dI)) (ci := 1) (v := .ref ys) (C := RX1) (T := TX1) (N := 9) hx hb hts in_X1 hown hK hP 0 rfl rfl 3 (by decide) (hts _ q300) (fun _ h9 => h9) rfl dX1_expands_100 ?_
      refine lv_iload hx hb dX1_expands_103 (lv_at hl 1 rfl) ?_
      refine lv_aload_n hx hb dX1_expands_105 rfl (lv_at hl 2 rfl) ?_
      refine va_get (D := (dC, dI)) (ci := 1) (v := .ref ys) (C := RX1) (T := TX1) (N := 9) hx hb hts in_X1 hown hK hP 0 rfl rfl 3 (by decide) (hts _ q300) (fun _ h9 => h9) rfl dX1_expands_106 ?_
      refine lv_iload hx hb dX1_expands_109 (lv_at hl 1 rfl) ?_
      refine zz_iald hx hb hK hP 2 1 rfl rfl (k % 44) rfl (by omega) (by omega) dX1_expands_111 ?_
      refine lv_iload_n hx hb dX1_expands_112 rfl (lv_at hl 4 rfl) ?_
      refine lv_iadd hx hb dX1_expands_113 ?_
      refine lv_iload hx hb dX1_expands_114 (lv_at hl 5 rfl) ?_
      refine lv_iadd hx hb dX1_expands_116 ?_
      refine lv_iconst (v := 3) hx hb dX1_expands_117 (by decide) ?_
      refine vp_callSi (va_runS (As := [.int (((S1 (k % 44)) + A1) + B1), .int 3]) (rest := [.int (nI (k % 44)), .ref ys]) ⟨hx, hb, hml, hown, hts⟩ (met_X1_left l (S1 (k % 44) + A1 + B1) 3) (va_cwS 2 hts (lw_S q341 q342 q14 q343) rfl rfl rfl (by decide +kernel) ⟨Nat.le_of_ble_eq_true rfl, Nat.le_of_ble_eq_true rfl⟩) ⟨fun _ _ _ _ q => q, fun _ _ _ => ⟨rfl, trivial⟩⟩ rfl rfl hl.1 rfl (lv_room (Nat.le_of_ble_eq_true rfl)) dX1_expands_118 ⟨Nat.le_of_ble_eq_true rfl, Nat.le_of_ble_eq_true rfl⟩).run (fun ra hra => ?_)
      refine zt (rc_L (S1 (k % 44) + A1 + B1) 3) hra ?_
      refine zz_iast hx hb hK hP hD hS 2 1 rfl rfl (k % 44) (upd S1 (k % 44) (rc_L (S1 (k % 44) + A1 + B1) 3)) rfl (by omega) (by omega) (fun _ _ => rfl) dX1_expands_121 (fun H locs hP hD hS => ?_)
      have hP : va_P (dC, dI) vwCl [(y0, .inr (1, [.ref yk, .ref yb, .ref yo, .ref ys, .ref yl, .int v5, .int v6, .int v7, .int v8])), (yk, .inl (dK, 32, .inl fk)), (ys, .inl (dS, 44, .inl (upd S1 (k % 44) (rc_L (S1 (k % 44) + A1 + B1) 3)))), (yl, .inl (dL, 8, .inl L1))] H := hP
      have hD : va_D A [(y0, .inr (1, [.ref yk, .ref yb, .ref yo, .ref ys, .ref yl, .int v5, .int v6, .int v7, .int v8])), (yk, .inl (dK, 32, .inl fk)), (ys, .inl (dS, 44, .inl (upd S1 (k % 44) (rc_L (S1 (k % 44) + A1 + B1) 3)))), (yl, .inl (dL, 8, .inl L1))] := hD
      refine lv_aload_n hx hb dX1_expands_122 rfl (lv_at hl 2 rfl) ?_
      refine va_get (D := (dC, dI)) (ci := 1) (v := .ref ys) (C := RX1) (T := TX1) (N := 9) hx hb hts in_X1 hown hK hP 0 rfl rfl 3 (by decide) (hts _ q300) (fun _ h9 => h9) rfl dX1_expands_123 ?_
      refine lv_iload hx hb dX1_expands_126 (lv_at hl 1 rfl) ?_
      refine zz_iald hx hb hK hP 2 1 rfl rfl (k % 44) rfl (by omega) (by omega) dX1_expands_128 ?_
      refine zt (rc_L (S1 (k % 44) + A1 + B1) 3) pk_us ?_
      refine lv_istore_n (lv' := [(3, .int (rc_L (S1 (k % 44) + A1 + B1) 3)), (7, .int (nI (k % nw))), (6, .int (nI (k % 44))), (0, .ref y0), (2, .int (nI nw)), (4, .int B1), (5, .int (nI k))]) hx hb dX1_expands_129 rfl hl (by decide) rfl (fun ls hl => ?_)
      refine lv_aload_n hx hb dX1_expands_130 rfl (lv_at hl 3 rfl) ?_
      refine va_get (D := (dC, dI)) (ci := 1) (v := .ref yl) (C := RX1) (T := TX1) (N := 9) hx hb hts in_X1 hown hK hP 0 rfl rfl 4 (by decide) (hts _ q301) (fun _ h9 => h9) rfl dX1_expands_131 ?_
      refine lv_iload hx hb dX1_expands_134 (lv_at hl 1 rfl) ?_
      refine lv_aload_n hx hb dX1_expands_136 rfl (lv_at hl 3 rfl) ?_
      refine va_get (D := (dC, dI)) (ci := 1) (v := .ref yl) (C := RX1) (T := TX1) (N := 9) hx hb hts in_X1 hown hK hP 0 rfl rfl 4 (by decide) (hts _ q301) (fun _ h9 => h9) rfl dX1_expands_137 ?_
      refine lv_iload hx hb dX1_expands_140 (lv_at hl 1 rfl) ?_
      refine zz_iald hx hb hK hP 3 2 rfl rfl (k % nw) rfl (by omega) (by omega) dX1_expands_142 ?_
      refine lv_iload_n hx hb dX1_expands_143 rfl (lv_at hl 0 rfl) ?_
      refine lv_iadd hx hb dX1_expands_144 ?_
      refine lv_iload hx hb dX1_expands_145 (lv_at hl 5 rfl) ?_
      refine lv_iadd hx hb dX1_expands_147 ?_
      refine lv_iload_n hx hb dX1_expands_148 rfl (lv_at hl 0 rfl) ?_
      refine lv_iload hx hb dX1_expands_149 (lv_at hl 5 rfl) ?_
      refine lv_iadd hx hb dX1_expands_151 ?_
      refine vp_callSi (va_runS (As := [.int (((L1 (k % nw)) + (rc_L (S1 (k % 44) + A1 + B1) 3)) + B1), .int ((rc_L (S1 (k % 44) + A1 + B1) 3) + B1)]) (rest := [.int (nI (k % nw)), .ref yl]) ⟨hx, hb, hml, hown, hts⟩ (met_X1_left l (L1 (k % nw) + (rc_L (S1 (k % 44) + A1 + B1) 3) + B1) ((rc_L (S1 (k % 44) + A1 + B1) 3) + B1)) (va_cwS 2 hts (lw_S q341 q342 q14 q343) rfl rfl rfl (by decide +kernel) ⟨Nat.le_of_ble_eq_true rfl, Nat.le_of_ble_eq_true rfl⟩) ⟨fun _ _ _ _ q => q, fun _ _ _ => ⟨rfl, trivial⟩⟩ rfl rfl hl.1 rfl (lv_room (Nat.le_of_ble_eq_true rfl)) dX1_expands_152 ⟨Nat.le_of_ble_eq_true rfl, Nat.le_of_ble_eq_true rfl⟩).run (fun rb hrb => ?_)
      refine zt (rc_L (L1 (k % nw) + (rc_L (S1 (k % 44) + A1 + B1) 3) + B1) ((rc_L (S1 (k % 44) + A1 + B1) 3) + B1)) hrb ?_
      refine zz_iast hx hb hK hP hD hS 3 2 rfl rfl (k % nw) (upd L1 (k % nw) (rc_L (L1 (k % nw) + (rc_L (S1 (k % 44) + A1 + B1) 3) + B1) ((rc_L (S1 (k % 44) + A1 + B1) 3) + B1))) rfl (by omega) (by omega) (fun _ _ => rfl) dX1_expands_155 (fun H locs hP hD hS => ?_)
      have hP : va_P (dC, dI) vwCl [(y0, .inr (1, [.ref yk, .ref yb, .ref yo, .ref ys, .ref yl, .int v5, .int v6, .int v7, .int v8])), (yk, .inl (dK, 32, .inl fk)), (ys, .inl (dS, 44, .inl (upd S1 (k % 44) (rc_L (S1 (k % 44) + A1 + B1) 3)))), (yl, .inl (dL, 8, .inl (upd L1 (k % nw) (rc_L (L1 (k % nw) + (rc_L (S1 (k % 44) + A1 + B1) 3) + B1) ((rc_L (S1 (k % 44) + A1 + B1) 3) + B1)))))] H := hP
      have hD : va_D A [(y0, .inr (1, [.ref yk, .ref yb, .ref yo, .ref ys, .ref yl, .int v5, .int v6, .int v7, .int v8])), (yk, .inl (dK, 32, .inl fk)), (ys, .inl (dS, 44, .inl (upd S1 (k % 44) (rc_L (S1 (k % 44) + A1 + B1) 3)))), (yl, .inl (dL, 8, .inl (upd L1 (k % nw) (rc_L (L1 (k % nw) + (rc_L (S1 (k % 44) + A1 + B1) 3) + B1) ((rc_L (S1 (k % 44) + A1 + B1) 3) + B1)))))] := hD
      refine lv_aload_n hx hb dX1_expands_156 rfl (lv_at hl 3 rfl) ?_
      refine va_get (D := (dC, dI)) (ci := 1) (v := .ref yl) (C := RX1) (T := TX1) (N := 9) hx hb hts in_X1 hown hK hP 0 rfl rfl 4 (by decide) (hts _ q301) (fun _ h9 => h9) rfl dX1_expands_157 ?_
      refine lv_iload hx hb dX1_expands_160 (lv_at hl 1 rfl) ?_
      refine zz_iald hx hb hK hP 3 2 rfl rfl (k % nw) rfl (by omega) (by omega) dX1_expands_162 ?_
      refine zt (rc_L (L1 (k % nw) + (rc_L (S1 (k % 44) + A1 + B1) 3) + B1) ((rc_L (S1 (k % 44) + A1 + B1) 3) + B1)) pk_us ?_
      refine lv_istore (lv' := [(4, .int (rc_L (L1 (k % nw) + (rc_L (S1 (k % 44) + A1 + B1) 3) + B1) ((rc_L (S1 (k % 44) + A1 + B1) 3) + B1))), (3, .int (rc_L (S1 (k % 44) + A1 + B1) 3)), (7, .int (nI (k % nw))), (6, .int (nI (k % 44))), (0, .ref y0), (2, .int (nI nw)), (5, .int (nI k))]) hx hb dX1_expands_163 hl (by decide) rfl (fun ls hl => ?_)
      refine lv_iinc (v := (nI (k + 1))) (lv' := [(5, .int (nI (k + 1))), (4, .int (rc_L (L1 (k % nw) + (rc_L (S1 (k % 44) + A1 + B1) 3) + B1) ((rc_L (S1 (k % 44) + A1 + B1) 3) + B1))), (3, .int (rc_L (S1 (k % 44) + A1 + B1) 3)), (7, .int (nI (k % nw))), (6, .int (nI (k % 44))), (0, .ref y0), (2, .int (nI nw))]) hx hb dX1_expands_165 hl (k := 6) rfl (zi_p1 k) (by decide) rfl (fun ls hl => ?_)
      refine lv_goto (tgt := 78) hx hb dX1_expands_168 (by decide) ?_
      exact ih (k + 1) (by omega) _ _ _ _ (by rw [rc_ks, ← hz]) H locs hP hD hS ls (lv_sub hl [5, 6, 2, 1, 0] rfl)
  have loop2 : ∀ (r i : Nat), i + r = 43 → ∀ (H : Heap) (locs : List Loc), va_P (dC, dI) vwCl [(y0, .inr (1, [.ref yk, .ref yb, .ref yo, .ref ys, .ref yl, .int v5, .int v6, .int v7, .int v8])), (yk, .inl (dK, 32, .inl fk)), (ys, .inl (dS, 44, .inl (rc_m (i + 1) rc_S0 fs))), (yl, .inl (dL, 8, .inl (rc_m nw (fun q => rc_wd fk (4 * q)) fl)))] H → va_D A [(y0, .inr (1, [.ref yk, .ref yb, .ref yo, .ref ys, .ref yl, .int v5, .int v6, .int v7, .int v8])), (yk, .inl (dK, 32, .inl fk)), (ys, .inl (dS, 44, .inl (rc_m (i + 1) rc_S0 fs))), (yl, .inl (dL, 8, .inl (rc_m nw (fun q => rc_wd fk (4 * q)) fl)))] → va_S A s.heap H locs → ∀ ls : Array Slot, lv_has ls 8 [(0, .ref y0), (2, .int (nI nw)), (3, .int (nI (i + 1)))] → W p l e (headSpec (ws_ yX1_expands cX1_expands 8 none) ({ frames := 1, cells := 0, slots := 0, locals := 22 })).room s m ([.ref y0, .int (nI (4 * nw))] : List Value).toArray below meth c H locs 0 0 (MQ below (va_Qv (fun _ => True) (fun (u : Nat → Int32) t => zw_post (dC, dI) [(dK, .byte), (dS, .int), (dL, .int)] [(y0, .inr (1, [.ref yk, .ref yb, .ref yo, .ref ys, .ref yl, .int v5, .int v6, .int v7, .int v8])), (yk, .inl (dK, 32, .inl fk)), (ys, .inl (dS, 44, .inl (rc_S nw fk))), (yl, .inl (dL, 8, .inl u))] A t) A) ([.ref y0, .int (nI (4 * nw))] : List Value).toArray s 0 0 A) (F0 m 41 ls []) := by
    intro r
    induction r with
    | zero =>
      intro i hi H locs hP hD hS ls hl
      have hi : i = 43 := by omega
      subst hi
      refine lv_iload_n hx hb dX1_expands_41 rfl (lv_at hl 2 rfl) ?_
      refine lv_bipush (v := 44) hx hb dX1_expands_42 (by decide) ?_
      refine lv_icmp_ge (tgt := 70) hx hb dX1_expands_44 (by decide) (fun _ => ?_) (fun c_ => absurd (by decide +kernel) c_)
      have hP := zz_ext hP 2 rfl (g := rc_S0) (fun j hj => rc_m_all rc_S0 fs j hj)
      have hD : va_D A [(y0, .inr (1, [.ref yk, .ref yb, .ref yo, .ref ys, .ref yl, .int v5, .int v6, .int v7, .int v8])), (yk, .inl (dK, 32, .inl fk)), (ys, .inl (dS, 44, .inl rc_S0)), (yl, .inl (dL, 8, .inl (rc_m nw (fun q => rc_wd fk (4 * q)) fl)))] := hD.set (p := 2) rfl
      refine lv_iconst (v := 0) hx hb dX1_expands_70 (by decide) ?_
      refine lv_istore_n (lv' := [(3, .int 0), (0, .ref y0), (2, .int (nI nw))]) hx hb dX1_expands_71 rfl hl (by decide) rfl (fun ls hl => ?_)
      refine lv_iconst (v := 0) hx hb dX1_expands_72 (by decide) ?_
      refine lv_istore (lv' := [(4, .int 0), (3, .int 0), (0, .ref y0), (2, .int (nI nw))]) hx hb dX1_expands_73 hl (by decide) rfl (fun ls hl => ?_)
      refine lv_iconst (v := (nI 0)) hx hb dX1_expands_75 (by decide) ?_
      refine lv_istore (lv' := [(5, .int (nI 0)), (4, .int 0), (3, .int 0), (0, .ref y0), (2, .int (nI nw))]) hx hb dX1_expands_76 hl (by decide) rfl (fun ls hl => ?_)
      exact loop3 132 0 rfl rc_S0 (rc_m nw (fun q => rc_wd fk (4 * q)) fl) 0 0 rfl H locs hP hD hS ls (lv_sub hl [3, 4, 2, 1, 0] rfl)
    | succ r ih =>
      intro i hi H locs hP hD hS ls hl
      refine lv_iload_n hx hb dX1_expands_41 rfl (lv_at hl 2 rfl) ?_
      refine lv_bipush (v := 44) hx hb dX1_expands_42 (by decide) ?_
      refine lv_icmp_ge (tgt := 70) hx hb dX1_expands_44 (by decide) (fun c_ => absurd c_ (nI_ge (a := i + 1) (b := 44) (by omega) (by omega))) (fun _ => ?_)
      refine lv_aload_n hx hb dX1_expands_47 rfl (lv_at hl 0 rfl) ?_
      refine va_get (D := (dC, dI)) (ci := 1) (v := .ref ys) (C := RX1) (T := TX1) (N := 9) hx hb hts in_X1 hown hK hP 0 rfl rfl 3 (by decide) (hts _ q300) (fun _ h9 => h9) rfl dX1_expands_48 ?_
      refine lv_iload_n hx hb dX1_expands_51 rfl (lv_at hl 2 rfl) ?_
      refine lv_aload_n hx hb dX1_expands_52 rfl (lv_at hl 0 rfl) ?_
      refine va_get (D := (dC, dI)) (ci := 1) (v := .ref ys) (C := RX1) (T := TX1) (N := 9) hx hb hts in_X1 hown hK hP 0 rfl rfl 3 (by decide) (hts _ q300) (fun _ h9 => h9) rfl dX1_expands_53 ?_
      refine lv_iload_n hx hb dX1_expands_56 rfl (lv_at hl 2 rfl) ?_
      refine lv_iconst (v := 1) hx hb dX1_expands_57 (by decide) ?_
      refine lv_isub hx hb dX1_expands_58 ?_
      refine zt (nI i) (nI_pred i) ?_
      refine zz_iald hx hb hK hP 2 1 rfl rfl i rfl (by omega) (by omega) dX1_expands_59 ?_
      refine zt (rc_S0 i) (rc_m_all rc_S0 fs i (by omega)) ?_
      refine lv_ldc (v := (-1640531527)) hx hb hown (hts _ q340) dX1_expands_60 ?_
      refine lv_iadd hx hb dX1_expands_62 ?_
      refine zt (rc_S0 (i + 1)) rfl ?_
      refine zz_iast hx hb hK hP hD hS 2 1 rfl rfl (i + 1) (rc_m (i + 1 + 1) rc_S0 fs) rfl (by omega) (by omega) (fun j _ => rc_m_s (i + 1) rc_S0 fs j) dX1_expands_63 (fun H locs hP hD hS => ?_)
      have hP : va_P (dC, dI) vwCl [(y0, .inr (1, [.ref yk, .ref yb, .ref yo, .ref ys, .ref yl, .int v5, .int v6, .int v7, .int v8])), (yk, .inl (dK, 32, .inl fk)), (ys, .inl (dS, 44, .inl (rc_m (i + 1 + 1) rc_S0 fs))), (yl, .inl (dL, 8, .inl (rc_m nw (fun q => rc_wd fk (4 * q)) fl)))] H := hP
      have hD : va_D A [(y0, .inr (1, [.ref yk, .ref yb, .ref yo, .ref ys, .ref yl, .int v5, .int v6, .int v7, .int v8])), (yk, .inl (dK, 32, .inl fk)), (ys, .inl (dS, 44, .inl (rc_m (i + 1 + 1) rc_S0 fs))), (yl, .inl (dL, 8, .inl (rc_m nw (fun q => rc_wd fk (4 * q)) fl)))] := hD
      refine lv_iinc (v := (nI (i + 1 + 1))) (lv' := [(3, .int (nI (i + 1 + 1))), (0, .ref y0), (2, .int (nI nw))]) hx hb dX1_expands_64 hl (k := 2) rfl (zi_p1 (i + 1)) (by decide) rfl (fun ls hl => ?_)
      refine lv_goto (tgt := 41) hx hb dX1_expands_67 (by decide) ?_
      exact ih (i + 1) (by omega) H locs hP hD hS ls (lv_sub hl [1, 2, 0] rfl)
  have loop1 : ∀ (r i : Nat), i + r = nw → ∀ (H : Heap) (locs : List Loc), va_P (dC, dI) vwCl [(y0, .inr (1, [.ref yk, .ref yb, .ref yo, .ref ys, .ref yl, .int v5, .int v6, .int v7, .int v8])), (yk, .inl (dK, 32, .inl fk)), (ys, .inl (dS, 44, .inl fs)), (yl, .inl (dL, 8, .inl (rc_m i (fun q => rc_wd fk (4 * q)) fl)))] H → va_D A [(y0, .inr (1, [.ref yk, .ref yb, .ref yo, .ref ys, .ref yl, .int v5, .int v6, .int v7, .int v8])), (yk, .inl (dK, 32, .inl fk)), (ys, .inl (dS, 44, .inl fs)), (yl, .inl (dL, 8, .inl (rc_m i (fun q => rc_wd fk (4 * q)) fl)))] → va_S A s.heap H locs → ∀ ls : Array Slot, lv_has ls 8 [(0, .ref y0), (2, .int (nI nw)), (3, .int (nI i))] → W p l e (headSpec (ws_ yX1_expands cX1_expands 8 none) ({ frames := 1, cells := 0, slots := 0, locals := 22 })).room s m ([.ref y0, .int (nI (4 * nw))] : List Value).toArray below meth c H locs 0 0 (MQ below (va_Qv (fun _ => True) (fun (u : Nat → Int32) t => zw_post (dC, dI) [(dK, .byte), (dS, .int), (dL, .int)] [(y0, .inr (1, [.ref yk, .ref yb, .ref yo, .ref ys, .ref yl, .int v5, .int v6, .int v7, .int v8])), (yk, .inl (dK, 32, .inl fk)), (ys, .inl (dS, 44, .inl (rc_S nw fk))), (yl, .inl (dL, 8, .inl u))] A t) A) ([.ref y0, .int (nI (4 * nw))] : List Value).toArray s 0 0 A) (F0 m 6 ls []) := by
    intro r
    induction r with
    | zero =>
      intro i hi H locs hP hD hS ls hl
      have hi : i = nw := by omega
      rw [hi] at hP hD hl
      refine lv_iload_n hx hb dX1_expands_6 rfl (lv_at hl 2 rfl) ?_
      refine lv_iload_n hx hb dX1_expands_7 rfl (lv_at hl 1 rfl) ?_
      refine lv_icmp_ge (tgt := 31) hx hb dX1_expands_8 (by decide) (fun _ => ?_) (fun c_ => absurd (nI_le (Nat.le_refl _) (by omega)) c_)
      refine lv_aload_n hx hb dX1_expands_31 rfl (lv_at hl 0 rfl) ?_
      refine va_get (D := (dC, dI)) (ci := 1) (v := .ref ys) (C := RX1) (T := TX1) (N := 9) hx hb hts in_X1 hown hK hP 0 rfl rfl 3 (by decide) (hts _ q300) (fun _ h9 => h9) rfl dX1_expands_32 ?_
      refine lv_iconst (v := (nI 0)) hx hb dX1_expands_35 (by decide) ?_
      refine lv_ldc (v := (-1209970333)) hx hb hown (hts _ q339) dX1_expands_36 ?_
      refine zz_iast hx hb hK hP hD hS 2 1 rfl rfl 0 (rc_m (0 + 1) rc_S0 fs) rfl (by omega) (by omega) (fun j _ => rc_m_1 fs j) dX1_expands_38 (fun H locs hP hD hS => ?_)
      have hP : va_P (dC, dI) vwCl [(y0, .inr (1, [.ref yk, .ref yb, .ref yo, .ref ys, .ref yl, .int v5, .int v6, .int v7, .int v8])), (yk, .inl (dK, 32, .inl fk)), (ys, .inl (dS, 44, .inl (rc_m (0 + 1) rc_S0 fs))), (yl, .inl (dL, 8, .inl (rc_m nw (fun q => rc_wd fk (4 * q)) fl)))] H := hP
      have hD : va_D A [(y0, .inr (1, [.ref yk, .ref yb, .ref yo, .ref ys, .ref yl, .int v5, .int v6, .int v7, .int v8])), (yk, .inl (dK, 32, .inl fk)), (ys, .inl (dS, 44, .inl (rc_m (0 + 1) rc_S0 fs))), (yl, .inl (dL, 8, .inl (rc_m nw (fun q => rc_wd fk (4 * q)) fl)))] := hD
      refine lv_iconst (v := (nI (0 + 1))) hx hb dX1_expands_39 (by decide) ?_
      refine lv_istore_n (lv' := [(3, .int (nI (0 + 1))), (0, .ref y0), (2, .int (nI nw))]) hx hb dX1_expands_40 rfl hl (by decide) rfl (fun ls hl => ?_)
      exact loop2 43 0 rfl H locs hP hD hS ls (lv_sub hl [1, 2, 0] rfl)
    | succ r ih =>
      intro i hi H locs hP hD hS ls hl
      refine lv_iload_n hx hb dX1_expands_6 rfl (lv_at hl 2 rfl) ?_
      refine lv_iload_n hx hb dX1_expands_7 rfl (lv_at hl 1 rfl) ?_
      refine lv_icmp_ge (tgt := 31) hx hb dX1_expands_8 (by decide) (fun c_ => absurd c_ (nI_ge (a := i) (b := nw) (by omega) (by omega))) (fun _ => ?_)
      refine lv_aload_n hx hb dX1_expands_11 rfl (lv_at hl 0 rfl) ?_
      refine va_get (D := (dC, dI)) (ci := 1) (v := .ref yl) (C := RX1) (T := TX1) (N := 9) hx hb hts in_X1 hown hK hP 0 rfl rfl 4 (by decide) (hts _ q301) (fun _ h9 => h9) rfl dX1_expands_12 ?_
      refine lv_iload_n hx hb dX1_expands_15 rfl (lv_at hl 2 rfl) ?_
      refine lv_aload_n hx hb dX1_expands_16 rfl (lv_at hl 0 rfl) ?_
      refine va_get (D := (dC, dI)) (ci := 1) (v := .ref yk) (C := RX1) (T := TX1) (N := 9) hx hb hts in_X1 hown hK hP 0 rfl rfl 0 (by decide) (hts _ q297) (fun _ h9 => h9) rfl dX1_expands_17 ?_
      refine lv_iload_n hx hb dX1_expands_20 rfl (lv_at hl 2 rfl) ?_
      refine vp_callSi (va_runS (As := [.ref yk, .int (nI i)]) (rest := [.int (nI i), .ref yl]) ⟨hx, hb, hml, hown, hts⟩ (met_X1_word l dC dI yk 32 dK fk i (by omega) (by omega)) (va_cwS 2 hts (lw_S q336 q337 q14 q338) rfl rfl rfl (by decide +kernel) ⟨Nat.le_of_ble_eq_true rfl, Nat.le_of_ble_eq_true rfl⟩) ⟨zr_blind, zr_mk hP hK [1] [0] rfl rfl⟩ rfl rfl hl.1 rfl (lv_room (Nat.le_of_ble_eq_true rfl)) dX1_expands_21 ⟨Nat.le_of_ble_eq_true rfl, Nat.le_of_ble_eq_true rfl⟩).run (fun rw_ hrw => ?_)
      refine zt (rc_wd fk (4 * i)) hrw ?_
      refine zz_iast hx hb hK hP hD hS 3 2 rfl rfl i (rc_m (i + 1) (fun q => rc_wd fk (4 * q)) fl) rfl (by omega) (by omega) (fun j _ => rc_m_s i (fun q => rc_wd fk (4 * q)) fl j) dX1_expands_24 (fun H locs hP hD hS => ?_)
      have hP : va_P (dC, dI) vwCl [(y0, .inr (1, [.ref yk, .ref yb, .ref yo, .ref ys, .ref yl, .int v5, .int v6, .int v7, .int v8])), (yk, .inl (dK, 32, .inl fk)), (ys, .inl (dS, 44, .inl fs)), (yl, .inl (dL, 8, .inl (rc_m (i + 1) (fun q => rc_wd fk (4 * q)) fl)))] H := hP
      have hD : va_D A [(y0, .inr (1, [.ref yk, .ref yb, .ref yo, .ref ys, .ref yl, .int v5, .int v6, .int v7, .int v8])), (yk, .inl (dK, 32, .inl fk)), (ys, .inl (dS, 44, .inl fs)), (yl, .inl (dL, 8, .inl (rc_m (i + 1) (fun q => rc_wd fk (4 * q)) fl)))] := hD
      refine lv_iinc (v := (nI (i + 1))) (lv' := [(3, .int (nI (i + 1))), (0, .ref y0), (2, .int (nI nw))]) hx hb dX1_expands_25 hl (k := 2) rfl (zi_p1 i) (by decide) rfl (fun ls hl => ?_)
      refine lv_goto (tgt := 6) hx hb dX1_expands_28 (by decide) ?_
      exact ih (i + 1) (by omega) H locs hP hD hS ls (lv_sub hl [1, 2, 0] rfl)
  refine lv_iconst (v := (nI 0)) hx hb dX1_expands_4 (by decide) ?_
  refine lv_istore_n (lv' := [(3, .int (nI 0)), (2, .int (nI nw)), (0, .ref y0), (1, .int (nI (4 * nw)))]) hx hb dX1_expands_5 rfl hl (by decide) rfl (fun ls hl => ?_)
  have hP := zz_ext hP 3 rfl (g := rc_m 0 (fun q => rc_wd fk (4 * q)) fl) (fun j _ => rc_m_0 (fun q => rc_wd fk (4 * q)) fl j)
  have hD : va_D A [(y0, .inr (1, [.ref yk, .ref yb, .ref yo, .ref ys, .ref yl, .int v5, .int v6, .int v7, .int v8])), (yk, .inl (dK, 32, .inl fk)), (ys, .inl (dS, 44, .inl fs)), (yl, .inl (dL, 8, .inl (rc_m 0 (fun q => rc_wd fk (4 * q)) fl)))] := hD.set (p := 3) rfl
  exact loop1 nw 0 (by omega) s.heap [] hP hD hS ls (lv_sub hl [2, 1, 0] rfl)
set_option maxHeartbeats 4000000 in
set_option maxRecDepth 100000 in
/-- RcSixDeskModel.lock -/
theorem met_X1_lock (l : Launch) (dC : Nat → ClassId) (dI : Nat → Nat → Nat) (sz : Nat) (y0 yk yb yo ys yl : Nat) (v5 v6 v7 v8 : Int32) (dK dB dO dS dL : ClassId) (fk fb fo fs fl : Nat → Int32) (kind : Int32) : Met l yX1_lock (ws_ yX1_lock cX1_lock 7 none) ({ frames := 2, cells := 0, slots := 0, locals := 49 }) (va_Pc [.ref y0, .int kind] (zw_pre (dC, dI) [(dK, .byte), (dB, .byte), (dO, .byte), (dS, .int), (dL, .int)] [(y0, .inr (1, [.ref yk, .ref yb, .ref yo, .ref ys, .ref yl, .int v5, .int v6, .int v7, .int v8])), (yk, .inl (dK, 32, .inl fk)), (yb, .inl (dB, 16, .inl fb)), (yo, .inl (dO, 16, .inl fo)), (ys, .inl (dS, 44, .inl fs)), (yl, .inl (dL, 8, .inl fl))] sz)) (va_Qv (fun _ => True) (fun (u : rc_T × (Nat → Int32)) t => zw_post (dC, dI) [(dK, .byte), (dB, .byte), (dO, .byte), (dS, .int), (dL, .int)] [(y0, .inr (1, [.ref yk, .ref yb, .ref yo, .ref ys, .ref yl, .int u.1.1, .int u.1.2.1, .int u.1.2.2.1, .int u.1.2.2.2])), (yk, .inl (dK, 32, .inl fk)), (yb, .inl (dB, 16, .inl fb)), (yo, .inl (dO, 16, .inl (rc_o (rc_enc (rc_S (rc_c kind) fk) fb)))), (ys, .inl (dS, 44, .inl (rc_S (rc_c kind) fk))), (yl, .inl (dL, 8, .inl u.2))] (va_A [(y0, .inr (1, [.ref yk, .ref yb, .ref yo, .ref ys, .ref yl, .int v5, .int v6, .int v7, .int v8])), (yk, .inl (dK, 32, .inl fk)), (yb, .inl (dB, 16, .inl fb)), (yo, .inl (dO, 16, .inl fo)), (ys, .inl (dS, 44, .inl fs)), (yl, .inl (dL, 8, .inl fl))] sz) t) (va_A [(y0, .inr (1, [.ref yk, .ref yb, .ref yo, .ref ys, .ref yl, .int v5, .int v6, .int v7, .int v8])), (yk, .inl (dK, 32, .inl fk)), (yb, .inl (dB, 16, .inl fb)), (yo, .inl (dO, 16, .inl fo)), (ys, .inl (dS, 44, .inl fs)), (yl, .inl (dL, 8, .inl fl))] sz)) 0 0 (va_A [(y0, .inr (1, [.ref yk, .ref yb, .ref yo, .ref ys, .ref yl, .int v5, .int v6, .int v7, .int v8])), (yk, .inl (dK, 32, .inl fk)), (yb, .inl (dB, 16, .inl fb)), (yo, .inl (dO, 16, .inl fo)), (ys, .inl (dS, 44, .inl fs)), (yl, .inl (dL, 8, .inl fl))] sz) := by
  refine Met.ofW (cc := cX1_lock) (maxL := 7) (ret := none) (by decide) rfl ?_
  intro p e s m args below meth c s₁ B hml hv
  obtain ⟨rfl, hsz, hP, hK, hD0⟩ := hv
  have hx := B.exec
  have hb := B.bytes
  have hr := B.returns
  have hts := atoms_spec (ws := (ws_ yX1_lock cX1_lock 7 none)) B.pre
  have hts : ∀ w ∈ lw_all, w.before _ s = true := fun w h => hts w (List.mem_cons_of_mem _ h)
  have hown : s.vm.findClass RX1 = some m.cls := findClass_of_methodNamed B.named
  have hlocks := B.notSynchronized
  subst hsz
  have hD := hD0.self (sz := s.heap.size)
  generalize hAe : va_A [(y0, .inr (1, [.ref yk, .ref yb, .ref yo, .ref ys, .ref yl, .int v5, .int v6, .int v7, .int v8])), (yk, .inl (dK, 32, .inl fk)), (yb, .inl (dB, 16, .inl fb)), (yo, .inl (dO, 16, .inl fo)), (ys, .inl (dS, 44, .inl fs)), (yl, .inl (dL, 8, .inl fl))] s.heap.size = A at hD ⊢
  have hA : ∀ q : Nat, s.heap.size ≤ q → A q := fun q h => by rw [← hAe]; exact Or.inr h
  have hS : va_S A s.heap s.heap [] := va_S.rf
  have hP : va_P (dC, dI) vwCl [(y0, .inr (1, [.ref yk, .ref yb, .ref yo, .ref ys, .ref yl, .int v5, .int v6, .int v7, .int v8])), (yk, .inl (dK, 32, .inl fk)), (yb, .inl (dB, 16, .inl fb)), (yo, .inl (dO, 16, .inl fo)), (ys, .inl (dS, 44, .inl fs)), (yl, .inl (dL, 8, .inl fl))] s.heap := hP
  have hl := lv_entry ([.ref y0, .int kind]) (n := 7) (Nat.le_of_ble_eq_true rfl)
  rw [lg_entry_eq]
  generalize (lg_sl ([.ref y0, .int kind]) ++ List.replicate (7 - (lg_sl ([.ref y0, .int kind])).length) Slot.unset).toArray = ls at hl ⊢
  have hl : lv_has ls 7 [(0, .ref y0), (1, .int kind)] := hl
  have hw := rc_c_in kind
  refine lv_aload_n hx hb dX1_lock_0 rfl (lv_at hl 0 rfl) ?_
  refine lv_iload_n hx hb dX1_lock_1 rfl (lv_at hl 1 rfl) ?_
  refine vp_callSi (va_runS (As := [.int kind]) (rest := [.ref y0]) ⟨hx, hb, hml, hown, hts⟩ (met_X1_size l kind) (va_cwS 1 hts (lw_S q329 q330 q14 q331) rfl rfl rfl (by decide +kernel) ⟨Nat.le_of_ble_eq_true rfl, Nat.le_of_ble_eq_true rfl⟩) ⟨fun _ _ _ _ q => q, fun _ _ _ => ⟨rfl, trivial⟩⟩ rfl rfl hl.1 rfl (lv_room (Nat.le_of_ble_eq_true rfl)) dX1_lock_2 ⟨Nat.le_of_ble_eq_true rfl, Nat.le_of_ble_eq_true rfl⟩).run (fun r hr_ => ?_)
  refine zt (nI (4 * rc_c kind)) hr_ ?_
  refine zc_v (wc := [(y0, .inr (1, [.ref yk, .ref yb, .ref yo, .ref ys, .ref yl, .int v5, .int v6, .int v7, .int v8])), (yk, .inl (dK, 32, .inl fk)), (ys, .inl (dS, 44, .inl fs)), (yl, .inl (dL, 8, .inl fl))]) (wr := [(yb, .inl (dB, 16, .inl fb)), (yo, .inl (dO, 16, .inl fo))]) hP hD hS hA [0, 1, 4, 5] [2, 3] rfl rfl rfl (by decide) (va_runV (As := [.int (nI (4 * rc_c kind))]) (rest := []) ⟨hx, hb, hml, hown, hts⟩ (met_X1_expands l dC dI _ y0 yk yb yo ys yl v5 v6 v7 v8 dK dS dL fk fs fl (rc_c kind) hw) (cwV 1 hts (lw_V q332 q334 qs9 q14 q335) rfl rfl rfl (by decide +kernel) ⟨Nat.le_of_ble_eq_true rfl, Nat.le_of_ble_eq_true rfl⟩) ⟨zw_blind, va_recv hK hP (ci := 1) (q0 := 0) rfl rfl, zw_mk hP hD hK [0, 1, 4, 5] [0, 3, 4] rfl rfl rfl rfl⟩ rfl rfl hl.1 rfl (lv_room (Nat.le_of_ble_eq_true rfl)) dX1_lock_5 ⟨Nat.le_of_ble_eq_true rfl, Nat.le_of_ble_eq_true rfl⟩) (fun fl1 H locs _ hP hD hK1 hS => ?_)
  have hP : va_P (dC, dI) vwCl [(yb, .inl (dB, 16, .inl fb)), (yo, .inl (dO, 16, .inl fo)), (y0, .inr (1, [.ref yk, .ref yb, .ref yo, .ref ys, .ref yl, .int v5, .int v6, .int v7, .int v8])), (yk, .inl (dK, 32, .inl fk)), (ys, .inl (dS, 44, .inl (rc_S (rc_c kind) fk))), (yl, .inl (dL, 8, .inl fl1))] H := hP
  have hD : va_D A [(yb, .inl (dB, 16, .inl fb)), (yo, .inl (dO, 16, .inl fo)), (y0, .inr (1, [.ref yk, .ref yb, .ref yo, .ref ys, .ref yl, .int v5, .int v6, .int v7, .int v8])), (yk, .inl (dK, 32, .inl fk)), (ys, .inl (dS, 44, .inl (rc_S (rc_c kind) fk))), (yl, .inl (dL, 8, .inl fl1))] := hD
  obtain ⟨S1, hS1⟩ : ∃ S1, S1 = rc_S (rc_c kind) fk := ⟨_, rfl⟩
  rw [← hS1] at hP hD ⊢
  refine lv_aload_n hx hb dX1_lock_8 rfl (lv_at hl 0 rfl) ?_
  refine zc_v (wc := [(y0, .inr (1, [.ref yk, .ref yb, .ref yo, .ref ys, .ref yl, .int v5, .int v6, .int v7, .int v8])), (yb, .inl (dB, 16, .inl fb))]) (wr := [(yo, .inl (dO, 16, .inl fo)), (yk, .inl (dK, 32, .inl fk)), (ys, .inl (dS, 44, .inl S1)), (yl, .inl (dL, 8, .inl fl1))]) hP hD hS hA [2, 0] [1, 3, 4, 5] rfl rfl rfl (by decide) (va_runV (As := []) (rest := []) ⟨hx, hb, hml, hown, hts⟩ (met_X1_takes l dC dI _ y0 yk yb yo ys yl v5 v6 v7 v8 dB fb) (cwV 0 hts (lw_V q344 q346 qs10 q14 q347) rfl rfl rfl (by decide +kernel) ⟨Nat.le_of_ble_eq_true rfl, Nat.le_of_ble_eq_true rfl⟩) ⟨zw_blind, va_recv hK hP (ci := 1) (q0 := 2) rfl rfl, zw_mk hP hD hK [2, 0] [1] rfl rfl rfl rfl⟩ rfl rfl hl.1 rfl (lv_room (Nat.le_of_ble_eq_true rfl)) dX1_lock_9 ⟨Nat.le_of_ble_eq_true rfl, Nat.le_of_ble_eq_true rfl⟩) (fun _ H locs _ hP hD hK1 hS => ?_)
  have hP : va_P (dC, dI) vwCl [(yo, .inl (dO, 16, .inl fo)), (yk, .inl (dK, 32, .inl fk)), (ys, .inl (dS, 44, .inl S1)), (yl, .inl (dL, 8, .inl fl1)), (y0, .inr (1, [.ref yk, .ref yb, .ref yo, .ref ys, .ref yl, .int (rc_wd fb 0), .int (rc_wd fb 4), .int (rc_wd fb 8), .int (rc_wd fb 12)])), (yb, .inl (dB, 16, .inl fb))] H := hP
  have hD : va_D A [(yo, .inl (dO, 16, .inl fo)), (yk, .inl (dK, 32, .inl fk)), (ys, .inl (dS, 44, .inl S1)), (yl, .inl (dL, 8, .inl fl1)), (y0, .inr (1, [.ref yk, .ref yb, .ref yo, .ref ys, .ref yl, .int (rc_wd fb 0), .int (rc_wd fb 4), .int (rc_wd fb 8), .int (rc_wd fb 12)])), (yb, .inl (dB, 16, .inl fb))] := hD
  refine lv_aload_n hx hb dX1_lock_12 rfl (lv_at hl 0 rfl) ?_
  refine lv_dup hx hb dX1_lock_13 rfl ?_
  refine va_get (D := (dC, dI)) (ci := 1) (v := .int (rc_wd fb 4)) (C := RX1) (T := TX1) (N := 9) hx hb hts in_X1 hown hK hP 4 rfl rfl 6 (by decide) (hts _ q303) (fun _ h9 => h9) rfl dX1_lock_14 ?_
  refine lv_aload_n hx hb dX1_lock_17 rfl (lv_at hl 0 rfl) ?_
  refine va_get (D := (dC, dI)) (ci := 1) (v := .ref ys) (C := RX1) (T := TX1) (N := 9) hx hb hts in_X1 hown hK hP 4 rfl rfl 3 (by decide) (hts _ q300) (fun _ h9 => h9) rfl dX1_lock_18 ?_
  refine lv_iconst (v := (nI 0)) hx hb dX1_lock_21 (by decide) ?_
  refine zz_iald hx hb hK hP 2 3 rfl rfl 0 rfl (by omega) (by omega) dX1_lock_22 ?_
  refine lv_iadd hx hb dX1_lock_23 ?_
  refine va_put (D := (dC, dI)) (ci := 1) (v := .int ((rc_wd fb 4) + (S1 0))) (ty := .int) (C := RX1) (T := TX1) (N := 9) hx hb hts in_X1 tyX1 tyX1_ok nmX1 hown hK hP hD hS 4 rfl rfl 6 (by decide) (hts _ q303) (fun _ h9 => h9) rfl (by decide +kernel) rfl rfl (Nat.le_of_ble_eq_true rfl) dX1_lock_24 (fun H locs hP hD hS => ?_)
  have hP : va_P (dC, dI) vwCl [(yo, .inl (dO, 16, .inl fo)), (yk, .inl (dK, 32, .inl fk)), (ys, .inl (dS, 44, .inl S1)), (yl, .inl (dL, 8, .inl fl1)), (y0, .inr (1, [.ref yk, .ref yb, .ref yo, .ref ys, .ref yl, .int (rc_wd fb 0), .int ((rc_wd fb 4) + (S1 0)), .int (rc_wd fb 8), .int (rc_wd fb 12)])), (yb, .inl (dB, 16, .inl fb))] H := hP
  have hD : va_D A [(yo, .inl (dO, 16, .inl fo)), (yk, .inl (dK, 32, .inl fk)), (ys, .inl (dS, 44, .inl S1)), (yl, .inl (dL, 8, .inl fl1)), (y0, .inr (1, [.ref yk, .ref yb, .ref yo, .ref ys, .ref yl, .int (rc_wd fb 0), .int ((rc_wd fb 4) + (S1 0)), .int (rc_wd fb 8), .int (rc_wd fb 12)])), (yb, .inl (dB, 16, .inl fb))] := hD
  refine lv_aload_n hx hb dX1_lock_27 rfl (lv_at hl 0 rfl) ?_
  refine lv_dup hx hb dX1_lock_28 rfl ?_
  refine va_get (D := (dC, dI)) (ci := 1) (v := .int (rc_wd fb 12)) (C := RX1) (T := TX1) (N := 9) hx hb hts in_X1 hown hK hP 4 rfl rfl 8 (by decide) (hts _ q305) (fun _ h9 => h9) rfl dX1_lock_29 ?_
  refine lv_aload_n hx hb dX1_lock_32 rfl (lv_at hl 0 rfl) ?_
  refine va_get (D := (dC, dI)) (ci := 1) (v := .ref ys) (C := RX1) (T := TX1) (N := 9) hx hb hts in_X1 hown hK hP 4 rfl rfl 3 (by decide) (hts _ q300) (fun _ h9 => h9) rfl dX1_lock_33 ?_
  refine lv_iconst (v := (nI 1)) hx hb dX1_lock_36 (by decide) ?_
  refine zz_iald hx hb hK hP 2 3 rfl rfl 1 rfl (by omega) (by omega) dX1_lock_37 ?_
  refine lv_iadd hx hb dX1_lock_38 ?_
  refine va_put (D := (dC, dI)) (ci := 1) (v := .int ((rc_wd fb 12) + (S1 1))) (ty := .int) (C := RX1) (T := TX1) (N := 9) hx hb hts in_X1 tyX1 tyX1_ok nmX1 hown hK hP hD hS 4 rfl rfl 8 (by decide) (hts _ q305) (fun _ h9 => h9) rfl (by decide +kernel) rfl rfl (Nat.le_of_ble_eq_true rfl) dX1_lock_39 (fun H locs hP hD hS => ?_)
  have hP : va_P (dC, dI) vwCl [(yo, .inl (dO, 16, .inl fo)), (yk, .inl (dK, 32, .inl fk)), (ys, .inl (dS, 44, .inl S1)), (yl, .inl (dL, 8, .inl fl1)), (y0, .inr (1, [.ref yk, .ref yb, .ref yo, .ref ys, .ref yl, .int (rc_wd fb 0), .int ((rc_wd fb 4) + (S1 0)), .int (rc_wd fb 8), .int ((rc_wd fb 12) + (S1 1))])), (yb, .inl (dB, 16, .inl fb))] H := hP
  have hD : va_D A [(yo, .inl (dO, 16, .inl fo)), (yk, .inl (dK, 32, .inl fk)), (ys, .inl (dS, 44, .inl S1)), (yl, .inl (dL, 8, .inl fl1)), (y0, .inr (1, [.ref yk, .ref yb, .ref yo, .ref ys, .ref yl, .int (rc_wd fb 0), .int ((rc_wd fb 4) + (S1 0)), .int (rc_wd fb 8), .int ((rc_wd fb 12) + (S1 1))])), (yb, .inl (dB, 16, .inl fb))] := hD
  have loop : ∀ (r i : Nat), i + r = 20 → ∀ (va vb vc vd : Int32), (va, vb, vc, vd) = rc_er S1 i (rc_wd fb 0, rc_wd fb 4 + S1 0, rc_wd fb 8, rc_wd fb 12 + S1 1) → ∀ (H : Heap) (locs : List Loc), va_P (dC, dI) vwCl [(y0, .inr (1, [.ref yk, .ref yb, .ref yo, .ref ys, .ref yl, .int va, .int vb, .int vc, .int vd])), (yk, .inl (dK, 32, .inl fk)), (yb, .inl (dB, 16, .inl fb)), (yo, .inl (dO, 16, .inl fo)), (ys, .inl (dS, 44, .inl S1)), (yl, .inl (dL, 8, .inl fl1))] H → va_D A [(y0, .inr (1, [.ref yk, .ref yb, .ref yo, .ref ys, .ref yl, .int va, .int vb, .int vc, .int vd])), (yk, .inl (dK, 32, .inl fk)), (yb, .inl (dB, 16, .inl fb)), (yo, .inl (dO, 16, .inl fo)), (ys, .inl (dS, 44, .inl S1)), (yl, .inl (dL, 8, .inl fl1))] → va_S A s.heap H locs → ∀ ls : Array Slot, lv_has ls 7 [(0, .ref y0), (2, .int (nI (i + 1)))] → W p l e (headSpec (ws_ yX1_lock cX1_lock 7 none) ({ frames := 2, cells := 0, slots := 0, locals := 49 })).room s m ([.ref y0, .int kind] : List Value).toArray below meth c H locs 0 0 (MQ below (va_Qv (fun _ => True) (fun (u : rc_T × (Nat → Int32)) t => zw_post (dC, dI) [(dK, .byte), (dB, .byte), (dO, .byte), (dS, .int), (dL, .int)] [(y0, .inr (1, [.ref yk, .ref yb, .ref yo, .ref ys, .ref yl, .int u.1.1, .int u.1.2.1, .int u.1.2.2.1, .int u.1.2.2.2])), (yk, .inl (dK, 32, .inl fk)), (yb, .inl (dB, 16, .inl fb)), (yo, .inl (dO, 16, .inl (rc_o (rc_enc (S1) fb)))), (ys, .inl (dS, 44, .inl (S1))), (yl, .inl (dL, 8, .inl u.2))] A t) A) ([.ref y0, .int kind] : List Value).toArray s 0 0 A) (F0 m 44 ls []) := by
    intro r
    induction r with
    | zero =>
      intro i hi va vb vc vd hz H locs hP hD hS ls hl
      have hi : i = 20 := by omega
      subst hi
      refine lv_iload_n hx hb dX1_lock_44 rfl (lv_at hl 1 rfl) ?_
      refine lv_bipush (v := 20) hx hb dX1_lock_45 (by decide) ?_
      refine lv_icmp_gt (tgt := 167) hx hb dX1_lock_47 (by decide) (fun _ => ?_) (fun c_ => absurd (by decide +kernel) c_)
      refine lv_aload_n hx hb dX1_lock_167 rfl (lv_at hl 0 rfl) ?_
      refine lv_dup hx hb dX1_lock_168 rfl ?_
      refine va_get (D := (dC, dI)) (ci := 1) (v := .int va) (C := RX1) (T := TX1) (N := 9) hx hb hts in_X1 hown hK hP 0 rfl rfl 5 (by decide) (hts _ q302) (fun _ h9 => h9) rfl dX1_lock_169 ?_
      refine lv_aload_n hx hb dX1_lock_172 rfl (lv_at hl 0 rfl) ?_
      refine va_get (D := (dC, dI)) (ci := 1) (v := .ref ys) (C := RX1) (T := TX1) (N := 9) hx hb hts in_X1 hown hK hP 0 rfl rfl 3 (by decide) (hts _ q300) (fun _ h9 => h9) rfl dX1_lock_173 ?_
      refine lv_bipush (v := (nI 42)) hx hb dX1_lock_176 (by decide) ?_
      refine zz_iald hx hb hK hP 4 3 rfl rfl 42 rfl (by omega) (by omega) dX1_lock_178 ?_
      refine lv_iadd hx hb dX1_lock_179 ?_
      refine va_put (D := (dC, dI)) (ci := 1) (v := .int (va + (S1 42))) (ty := .int) (C := RX1) (T := TX1) (N := 9) hx hb hts in_X1 tyX1 tyX1_ok nmX1 hown hK hP hD hS 0 rfl rfl 5 (by decide) (hts _ q302) (fun _ h9 => h9) rfl (by decide +kernel) rfl rfl (Nat.le_of_ble_eq_true rfl) dX1_lock_180 (fun H locs hP hD hS => ?_)
      have hP : va_P (dC, dI) vwCl [(y0, .inr (1, [.ref yk, .ref yb, .ref yo, .ref ys, .ref yl, .int (va + (S1 42)), .int vb, .int vc, .int vd])), (yk, .inl (dK, 32, .inl fk)), (yb, .inl (dB, 16, .inl fb)), (yo, .inl (dO, 16, .inl fo)), (ys, .inl (dS, 44, .inl S1)), (yl, .inl (dL, 8, .inl fl1))] H := hP
      have hD : va_D A [(y0, .inr (1, [.ref yk, .ref yb, .ref yo, .ref ys, .ref yl, .int (va + (S1 42)), .int vb, .int vc, .int vd])), (yk, .inl (dK, 32, .inl fk)), (yb, .inl (dB, 16, .inl fb)), (yo, .inl (dO, 16, .inl fo)), (ys, .inl (dS, 44, .inl S1)), (yl, .inl (dL, 8, .inl fl1))] := hD
      refine lv_aload_n hx hb dX1_lock_183 rfl (lv_at hl 0 rfl) ?_
      refine lv_dup hx hb dX1_lock_184 rfl ?_
      refine va_get (D := (dC, dI)) (ci := 1) (v := .int vc) (C := RX1) (T := TX1) (N := 9) hx hb hts in_X1 hown hK hP 0 rfl rfl 7 (by decide) (hts _ q304) (fun _ h9 => h9) rfl dX1_lock_185 ?_
      refine lv_aload_n hx hb dX1_lock_188 rfl (lv_at hl 0 rfl) ?_
      refine va_get (D := (dC, dI)) (ci := 1) (v := .ref ys) (C := RX1) (T := TX1) (N := 9) hx hb hts in_X1 hown hK hP 0 rfl rfl 3 (by decide) (hts _ q300) (fun _ h9 => h9) rfl dX1_lock_189 ?_
      refine lv_bipush (v := (nI 43)) hx hb dX1_lock_192 (by decide) ?_
      refine zz_iald hx hb hK hP 4 3 rfl rfl 43 rfl (by omega) (by omega) dX1_lock_194 ?_
      refine lv_iadd hx hb dX1_lock_195 ?_
      refine va_put (D := (dC, dI)) (ci := 1) (v := .int (vc + (S1 43))) (ty := .int) (C := RX1) (T := TX1) (N := 9) hx hb hts in_X1 tyX1 tyX1_ok nmX1 hown hK hP hD hS 0 rfl rfl 7 (by decide) (hts _ q304) (fun _ h9 => h9) rfl (by decide +kernel) rfl rfl (Nat.le_of_ble_eq_true rfl) dX1_lock_196 (fun H locs hP hD hS => ?_)
      have hP : va_P (dC, dI) vwCl [(y0, .inr (1, [.ref yk, .ref yb, .ref yo, .ref ys, .ref yl, .int (va + (S1 42)), .int vb, .int (vc + (S1 43)), .int vd])), (yk, .inl (dK, 32, .inl fk)), (yb, .inl (dB, 16, .inl fb)), (yo, .inl (dO, 16, .inl fo)), (ys, .inl (dS, 44, .inl S1)), (yl, .inl (dL, 8, .inl fl1))] H := hP
      have hD : va_D A [(y0, .inr (1, [.ref yk, .ref yb, .ref yo, .ref ys, .ref yl, .int (va + (S1 42)), .int vb, .int (vc + (S1 43)), .int vd])), (yk, .inl (dK, 32, .inl fk)), (yb, .inl (dB, 16, .inl fb)), (yo, .inl (dO, 16, .inl fo)), (ys, .inl (dS, 44, .inl S1)), (yl, .inl (dL, 8, .inl fl1))] := hD
      refine lv_aload_n hx hb dX1_lock_199 rfl (lv_at hl 0 rfl) ?_
      have hz2 : rc_enc S1 fb = (va + S1 42, vb, vc + S1 43, vd) := by unfold rc_enc; rw [← hz]
      refine zc_v (wc := [(y0, .inr (1, [.ref yk, .ref yb, .ref yo, .ref ys, .ref yl, .int (va + (S1 42)), .int vb, .int (vc + (S1 43)), .int vd])), (yo, .inl (dO, 16, .inl fo))]) (wr := [(yk, .inl (dK, 32, .inl fk)), (yb, .inl (dB, 16, .inl fb)), (ys, .inl (dS, 44, .inl S1)), (yl, .inl (dL, 8, .inl fl1))]) hP hD hS hA [0, 3] [1, 2, 4, 5] rfl rfl rfl (by decide) (va_runV (As := []) (rest := []) ⟨hx, hb, hml, hown, hts⟩ (met_X1_gives l dC dI _ y0 yk yb yo ys yl (va + S1 42) vb (vc + S1 43) vd dO fo) (cwV 0 hts (lw_V q348 q350 qs11 q14 q351) rfl rfl rfl (by decide +kernel) ⟨Nat.le_of_ble_eq_true rfl, Nat.le_of_ble_eq_true rfl⟩) ⟨zw_blind, va_recv hK hP (ci := 1) (q0 := 0) rfl rfl, zw_mk hP hD hK [0, 3] [2] rfl rfl rfl rfl⟩ rfl rfl hl.1 rfl (lv_room (Nat.le_of_ble_eq_true rfl)) dX1_lock_200 ⟨Nat.le_of_ble_eq_true rfl, Nat.le_of_ble_eq_true rfl⟩) (fun _ H locs _ hP hD hK1 hS => ?_)
      have hP : va_P (dC, dI) vwCl [(yk, .inl (dK, 32, .inl fk)), (yb, .inl (dB, 16, .inl fb)), (ys, .inl (dS, 44, .inl S1)), (yl, .inl (dL, 8, .inl fl1)), (y0, .inr (1, [.ref yk, .ref yb, .ref yo, .ref ys, .ref yl, .int (va + S1 42), .int vb, .int (vc + S1 43), .int vd])), (yo, .inl (dO, 16, .inl (rc_o (va + S1 42, vb, vc + S1 43, vd))))] H := hP
      have hD : va_D A [(yk, .inl (dK, 32, .inl fk)), (yb, .inl (dB, 16, .inl fb)), (ys, .inl (dS, 44, .inl S1)), (yl, .inl (dL, 8, .inl fl1)), (y0, .inr (1, [.ref yk, .ref yb, .ref yo, .ref ys, .ref yl, .int (va + S1 42), .int vb, .int (vc + S1 43), .int vd])), (yo, .inl (dO, 16, .inl (rc_o (va + S1 42, vb, vc + S1 43, vd))))] := hD
      have hP := zz_ext hP 5 rfl (g := rc_o (rc_enc S1 fb)) (fun j _ => by rw [hz2])
      have hD : va_D A [(yk, .inl (dK, 32, .inl fk)), (yb, .inl (dB, 16, .inl fb)), (ys, .inl (dS, 44, .inl S1)), (yl, .inl (dL, 8, .inl fl1)), (y0, .inr (1, [.ref yk, .ref yb, .ref yo, .ref ys, .ref yl, .int (va + S1 42), .int vb, .int (vc + S1 43), .int vd])), (yo, .inl (dO, 16, .inl (rc_o (rc_enc S1 fb))))] := hD.set (p := 5) rfl
      have hP9 := hP.sub (ws' := [(y0, .inr (1, [.ref yk, .ref yb, .ref yo, .ref ys, .ref yl, .int (va + S1 42), .int vb, .int (vc + S1 43), .int vd])), (yk, .inl (dK, 32, .inl fk)), (yb, .inl (dB, 16, .inl fb)), (yo, .inl (dO, 16, .inl (rc_o (rc_enc S1 fb)))), (ys, .inl (dS, 44, .inl S1)), (yl, .inl (dL, 8, .inl fl1))]) [4, 0, 1, 5, 2, 3] rfl
      have hD9 := hD.sub (ws' := [(y0, .inr (1, [.ref yk, .ref yb, .ref yo, .ref ys, .ref yl, .int (va + S1 42), .int vb, .int (vc + S1 43), .int vd])), (yk, .inl (dK, 32, .inl fk)), (yb, .inl (dB, 16, .inl fb)), (yo, .inl (dO, 16, .inl (rc_o (rc_enc S1 fb)))), (ys, .inl (dS, 44, .inl S1)), (yl, .inl (dL, 8, .inl fl1))]) [4, 0, 1, 5, 2, 3] (by decide) rfl
      have hK9 := hK.sub (tys' := [(dK, .byte), (dB, .byte), (dO, .byte), (dS, .int), (dL, .int)]) [0, 1, 2, 3, 4] rfl
      exact W.vret hx hb hr (fun t ht hW => ⟨⟨((va + S1 42, vb, vc + S1 43, vd), fl1), rfl, trivial, by rw [ht]; exact hP9, va_K.moved hW.alike hK9, hD9⟩, hS.F ht⟩) hS.2.2 dX1_lock_203
    | succ r ih =>
      intro i hi va vb vc vd hz H locs hP hD hS ls hl
      refine lv_iload_n hx hb dX1_lock_44 rfl (lv_at hl 1 rfl) ?_
      refine lv_bipush (v := 20) hx hb dX1_lock_45 (by decide) ?_
      refine lv_icmp_gt (tgt := 167) hx hb dX1_lock_47 (by decide) (fun c_ => absurd c_ (nI_nlt (a := 20) (b := i + 1) (by omega) (by omega))) (fun _ => ?_)
      refine lv_aload_n hx hb dX1_lock_50 rfl (lv_at hl 0 rfl) ?_
      refine va_get (D := (dC, dI)) (ci := 1) (v := .int vb) (C := RX1) (T := TX1) (N := 9) hx hb hts in_X1 hown hK hP 0 rfl rfl 6 (by decide) (hts _ q303) (fun _ h9 => h9) rfl dX1_lock_51 ?_
      refine lv_iconst (v := 2) hx hb dX1_lock_54 (by decide) ?_
      refine lv_aload_n hx hb dX1_lock_55 rfl (lv_at hl 0 rfl) ?_
      refine va_get (D := (dC, dI)) (ci := 1) (v := .int vb) (C := RX1) (T := TX1) (N := 9) hx hb hts in_X1 hown hK hP 0 rfl rfl 6 (by decide) (hts _ q303) (fun _ h9 => h9) rfl dX1_lock_56 ?_
      refine lv_imul hx hb dX1_lock_59 ?_
      refine lv_iconst (v := 1) hx hb dX1_lock_60 (by decide) ?_
      refine lv_iadd hx hb dX1_lock_61 ?_
      refine lv_imul hx hb dX1_lock_62 ?_
      refine lv_iconst (v := 5) hx hb dX1_lock_63 (by decide) ?_
      refine vp_callSi (va_runS (As := [.int (vb * ((2 * vb) + 1)), .int 5]) (rest := []) ⟨hx, hb, hml, hown, hts⟩ (met_X1_left l (vb * (2 * vb + 1)) 5) (va_cwS 2 hts (lw_S q341 q342 q14 q343) rfl rfl rfl (by decide +kernel) ⟨Nat.le_of_ble_eq_true rfl, Nat.le_of_ble_eq_true rfl⟩) ⟨fun _ _ _ _ q => q, fun _ _ _ => ⟨rfl, trivial⟩⟩ rfl rfl hl.1 rfl (lv_room (Nat.le_of_ble_eq_true rfl)) dX1_lock_64 ⟨Nat.le_of_ble_eq_true rfl, Nat.le_of_ble_eq_true rfl⟩).run (fun t ht_ => ?_)
      refine zt (rc_g vb) ht_ ?_
      refine lv_istore_n (lv' := [(3, .int (rc_g vb)), (0, .ref y0), (2, .int (nI (i + 1)))]) hx hb dX1_lock_67 rfl hl (by decide) rfl (fun ls hl => ?_)
      refine lv_aload_n hx hb dX1_lock_68 rfl (lv_at hl 1 rfl) ?_
      refine va_get (D := (dC, dI)) (ci := 1) (v := .int vd) (C := RX1) (T := TX1) (N := 9) hx hb hts in_X1 hown hK hP 0 rfl rfl 8 (by decide) (hts _ q305) (fun _ h9 => h9) rfl dX1_lock_69 ?_
      refine lv_iconst (v := 2) hx hb dX1_lock_72 (by decide) ?_
      refine lv_aload_n hx hb dX1_lock_73 rfl (lv_at hl 1 rfl) ?_
      refine va_get (D := (dC, dI)) (ci := 1) (v := .int vd) (C := RX1) (T := TX1) (N := 9) hx hb hts in_X1 hown hK hP 0 rfl rfl 8 (by decide) (hts _ q305) (fun _ h9 => h9) rfl dX1_lock_74 ?_
      refine lv_imul hx hb dX1_lock_77 ?_
      refine lv_iconst (v := 1) hx hb dX1_lock_78 (by decide) ?_
      refine lv_iadd hx hb dX1_lock_79 ?_
      refine lv_imul hx hb dX1_lock_80 ?_
      refine lv_iconst (v := 5) hx hb dX1_lock_81 (by decide) ?_
      refine vp_callSi (va_runS (As := [.int (vd * ((2 * vd) + 1)), .int 5]) (rest := []) ⟨hx, hb, hml, hown, hts⟩ (met_X1_left l (vd * (2 * vd + 1)) 5) (va_cwS 2 hts (lw_S q341 q342 q14 q343) rfl rfl rfl (by decide +kernel) ⟨Nat.le_of_ble_eq_true rfl, Nat.le_of_ble_eq_true rfl⟩) ⟨fun _ _ _ _ q => q, fun _ _ _ => ⟨rfl, trivial⟩⟩ rfl rfl hl.1 rfl (lv_room (Nat.le_of_ble_eq_true rfl)) dX1_lock_82 ⟨Nat.le_of_ble_eq_true rfl, Nat.le_of_ble_eq_true rfl⟩).run (fun u hu_ => ?_)
      refine zt (rc_g vd) hu_ ?_
      refine lv_istore (lv' := [(4, .int (rc_g vd)), (3, .int (rc_g vb)), (0, .ref y0), (2, .int (nI (i + 1)))]) hx hb dX1_lock_85 hl (by decide) rfl (fun ls hl => ?_)
      refine lv_aload_n hx hb dX1_lock_87 rfl (lv_at hl 2 rfl) ?_
      refine va_get (D := (dC, dI)) (ci := 1) (v := .int va) (C := RX1) (T := TX1) (N := 9) hx hb hts in_X1 hown hK hP 0 rfl rfl 5 (by decide) (hts _ q302) (fun _ h9 => h9) rfl dX1_lock_88 ?_
      refine lv_iload_n hx hb dX1_lock_91 rfl (lv_at hl 1 rfl) ?_
      refine lv_ixor hx hb dX1_lock_92 ?_
      refine lv_iload hx hb dX1_lock_93 (lv_at hl 0 rfl) ?_
      refine vp_callSi (va_runS (As := [.int (va ^^^ (rc_g vb)), .int (rc_g vd)]) (rest := []) ⟨hx, hb, hml, hown, hts⟩ (met_X1_left l (va ^^^ rc_g vb) (rc_g vd)) (va_cwS 2 hts (lw_S q341 q342 q14 q343) rfl rfl rfl (by decide +kernel) ⟨Nat.le_of_ble_eq_true rfl, Nat.le_of_ble_eq_true rfl⟩) ⟨fun _ _ _ _ q => q, fun _ _ _ => ⟨rfl, trivial⟩⟩ rfl rfl hl.1 rfl (lv_room (Nat.le_of_ble_eq_true rfl)) dX1_lock_95 ⟨Nat.le_of_ble_eq_true rfl, Nat.le_of_ble_eq_true rfl⟩).run (fun ta hta => ?_)
      refine zt (rc_L (va ^^^ rc_g vb) (rc_g vd)) hta ?_
      refine lv_aload_n hx hb dX1_lock_98 rfl (lv_at hl 2 rfl) ?_
      refine va_get (D := (dC, dI)) (ci := 1) (v := .ref ys) (C := RX1) (T := TX1) (N := 9) hx hb hts in_X1 hown hK hP 0 rfl rfl 3 (by decide) (hts _ q300) (fun _ h9 => h9) rfl dX1_lock_99 ?_
      refine lv_iconst (v := 2) hx hb dX1_lock_102 (by decide) ?_
      refine lv_iload_n hx hb dX1_lock_103 rfl (lv_at hl 3 rfl) ?_
      refine lv_imul hx hb dX1_lock_104 ?_
      refine zz_iald hx hb hK hP 4 3 rfl rfl (2 * (i + 1)) (rc_i2 _) (by omega) (by omega) dX1_lock_105 ?_
      refine lv_iadd hx hb dX1_lock_106 ?_
      refine lv_istore (lv' := [(5, .int ((rc_L (va ^^^ rc_g vb) (rc_g vd)) + (S1 (2 * (i + 1))))), (4, .int (rc_g vd)), (3, .int (rc_g vb)), (0, .ref y0), (2, .int (nI (i + 1)))]) hx hb dX1_lock_107 hl (by decide) rfl (fun ls hl => ?_)
      refine lv_aload_n hx hb dX1_lock_109 rfl (lv_at hl 3 rfl) ?_
      refine va_get (D := (dC, dI)) (ci := 1) (v := .int vc) (C := RX1) (T := TX1) (N := 9) hx hb hts in_X1 hown hK hP 0 rfl rfl 7 (by decide) (hts _ q304) (fun _ h9 => h9) rfl dX1_lock_110 ?_
      refine lv_iload hx hb dX1_lock_113 (lv_at hl 1 rfl) ?_
      refine lv_ixor hx hb dX1_lock_115 ?_
      refine lv_iload_n hx hb dX1_lock_116 rfl (lv_at hl 2 rfl) ?_
      refine vp_callSi (va_runS (As := [.int (vc ^^^ (rc_g vd)), .int (rc_g vb)]) (rest := []) ⟨hx, hb, hml, hown, hts⟩ (met_X1_left l (vc ^^^ rc_g vd) (rc_g vb)) (va_cwS 2 hts (lw_S q341 q342 q14 q343) rfl rfl rfl (by decide +kernel) ⟨Nat.le_of_ble_eq_true rfl, Nat.le_of_ble_eq_true rfl⟩) ⟨fun _ _ _ _ q => q, fun _ _ _ => ⟨rfl, trivial⟩⟩ rfl rfl hl.1 rfl (lv_room (Nat.le_of_ble_eq_true rfl)) dX1_lock_117 ⟨Nat.le_of_ble_eq_true rfl, Nat.le_of_ble_eq_true rfl⟩).run (fun tc htc => ?_)
      refine zt (rc_L (vc ^^^ rc_g vd) (rc_g vb)) htc ?_
      refine lv_aload_n hx hb dX1_lock_120 rfl (lv_at hl 3 rfl) ?_
      refine va_get (D := (dC, dI)) (ci := 1) (v := .ref ys) (C := RX1) (T := TX1) (N := 9) hx hb hts in_X1 hown hK hP 0 rfl rfl 3 (by decide) (hts _ q300) (fun _ h9 => h9) rfl dX1_lock_121 ?_
      refine lv_iconst (v := 2) hx hb dX1_lock_124 (by decide) ?_
      refine lv_iload_n hx hb dX1_lock_125 rfl (lv_at hl 4 rfl) ?_
      refine lv_imul hx hb dX1_lock_126 ?_
      refine lv_iconst (v := 1) hx hb dX1_lock_127 (by decide) ?_
      refine lv_iadd hx hb dX1_lock_128 ?_
      refine zz_iald hx hb hK hP 4 3 rfl rfl (2 * (i + 1) + 1) (rc_i21 _) (by omega) (by omega) dX1_lock_129 ?_
      refine lv_iadd hx hb dX1_lock_130 ?_
      refine lv_istore (lv' := [(6, .int ((rc_L (vc ^^^ rc_g vd) (rc_g vb)) + (S1 (2 * (i + 1) + 1)))), (5, .int ((rc_L (va ^^^ rc_g vb) (rc_g vd)) + (S1 (2 * (i + 1))))), (4, .int (rc_g vd)), (3, .int (rc_g vb)), (0, .ref y0), (2, .int (nI (i + 1)))]) hx hb dX1_lock_131 hl (by decide) rfl (fun ls hl => ?_)
      refine lv_aload_n hx hb dX1_lock_133 rfl (lv_at hl 4 rfl) ?_
      refine lv_aload_n hx hb dX1_lock_134 rfl (lv_at hl 4 rfl) ?_
      refine va_get (D := (dC, dI)) (ci := 1) (v := .int vb) (C := RX1) (T := TX1) (N := 9) hx hb hts in_X1 hown hK hP 0 rfl rfl 6 (by decide) (hts _ q303) (fun _ h9 => h9) rfl dX1_lock_135 ?_
      refine va_put (D := (dC, dI)) (ci := 1) (v := .int vb) (ty := .int) (C := RX1) (T := TX1) (N := 9) hx hb hts in_X1 tyX1 tyX1_ok nmX1 hown hK hP hD hS 0 rfl rfl 5 (by decide) (hts _ q302) (fun _ h9 => h9) rfl (by decide +kernel) rfl rfl (Nat.le_of_ble_eq_true rfl) dX1_lock_138 (fun H locs hP hD hS => ?_)
      have hP : va_P (dC, dI) vwCl [(y0, .inr (1, [.ref yk, .ref yb, .ref yo, .ref ys, .ref yl, .int vb, .int vb, .int vc, .int vd])), (yk, .inl (dK, 32, .inl fk)), (yb, .inl (dB, 16, .inl fb)), (yo, .inl (dO, 16, .inl fo)), (ys, .inl (dS, 44, .inl S1)), (yl, .inl (dL, 8, .inl fl1))] H := hP
      have hD : va_D A [(y0, .inr (1, [.ref yk, .ref yb, .ref yo, .ref ys, .ref yl, .int vb, .int vb, .int vc, .int vd])), (yk, .inl (dK, 32, .inl fk)), (yb, .inl (dB, 16, .inl fb)), (yo, .inl (dO, 16, .inl fo)), (ys, .inl (dS, 44, .inl S1)), (yl, .inl (dL, 8, .inl fl1))] := hD
      refine lv_aload_n hx hb dX1_lock_141 rfl (lv_at hl 4 rfl) ?_
      refine lv_iload hx hb dX1_lock_142 (lv_at hl 0 rfl) ?_
      refine va_put (D := (dC, dI)) (ci := 1) (v := .int ((rc_L (vc ^^^ rc_g vd) (rc_g vb)) + (S1 (2 * (i + 1) + 1)))) (ty := .int) (C := RX1) (T := TX1) (N := 9) hx hb hts in_X1 tyX1 tyX1_ok nmX1 hown hK hP hD hS 0 rfl rfl 6 (by decide) (hts _ q303) (fun _ h9 => h9) rfl (by decide +kernel) rfl rfl (Nat.le_of_ble_eq_true rfl) dX1_lock_144 (fun H locs hP hD hS => ?_)
      have hP : va_P (dC, dI) vwCl [(y0, .inr (1, [.ref yk, .ref yb, .ref yo, .ref ys, .ref yl, .int vb, .int ((rc_L (vc ^^^ rc_g vd) (rc_g vb)) + (S1 (2 * (i + 1) + 1))), .int vc, .int vd])), (yk, .inl (dK, 32, .inl fk)), (yb, .inl (dB, 16, .inl fb)), (yo, .inl (dO, 16, .inl fo)), (ys, .inl (dS, 44, .inl S1)), (yl, .inl (dL, 8, .inl fl1))] H := hP
      have hD : va_D A [(y0, .inr (1, [.ref yk, .ref yb, .ref yo, .ref ys, .ref yl, .int vb, .int ((rc_L (vc ^^^ rc_g vd) (rc_g vb)) + (S1 (2 * (i + 1) + 1))), .int vc, .int vd])), (yk, .inl (dK, 32, .inl fk)), (yb, .inl (dB, 16, .inl fb)), (yo, .inl (dO, 16, .inl fo)), (ys, .inl (dS, 44, .inl S1)), (yl, .inl (dL, 8, .inl fl1))] := hD
      refine lv_aload_n hx hb dX1_lock_147 rfl (lv_at hl 4 rfl) ?_
      refine lv_aload_n hx hb dX1_lock_148 rfl (lv_at hl 4 rfl) ?_
      refine va_get (D := (dC, dI)) (ci := 1) (v := .int vd) (C := RX1) (T := TX1) (N := 9) hx hb hts in_X1 hown hK hP 0 rfl rfl 8 (by decide) (hts _ q305) (fun _ h9 => h9) rfl dX1_lock_149 ?_
      refine va_put (D := (dC, dI)) (ci := 1) (v := .int vd) (ty := .int) (C := RX1) (T := TX1) (N := 9) hx hb hts in_X1 tyX1 tyX1_ok nmX1 hown hK hP hD hS 0 rfl rfl 7 (by decide) (hts _ q304) (fun _ h9 => h9) rfl (by decide +kernel) rfl rfl (Nat.le_of_ble_eq_true rfl) dX1_lock_152 (fun H locs hP hD hS => ?_)
      have hP : va_P (dC, dI) vwCl [(y0, .inr (1, [.ref yk, .ref yb, .ref yo, .ref ys, .ref yl, .int vb, .int ((rc_L (vc ^^^ rc_g vd) (rc_g vb)) + (S1 (2 * (i + 1) + 1))), .int vd, .int vd])), (yk, .inl (dK, 32, .inl fk)), (yb, .inl (dB, 16, .inl fb)), (yo, .inl (dO, 16, .inl fo)), (ys, .inl (dS, 44, .inl S1)), (yl, .inl (dL, 8, .inl fl1))] H := hP
      have hD : va_D A [(y0, .inr (1, [.ref yk, .ref yb, .ref yo, .ref ys, .ref yl, .int vb, .int ((rc_L (vc ^^^ rc_g vd) (rc_g vb)) + (S1 (2 * (i + 1) + 1))), .int vd, .int vd])), (yk, .inl (dK, 32, .inl fk)), (yb, .inl (dB, 16, .inl fb)), (yo, .inl (dO, 16, .inl fo)), (ys, .inl (dS, 44, .inl S1)), (yl, .inl (dL, 8, .inl fl1))] := hD
      refine lv_aload_n hx hb dX1_lock_155 rfl (lv_at hl 4 rfl) ?_
      refine lv_iload hx hb dX1_lock_156 (lv_at hl 1 rfl) ?_
      refine va_put (D := (dC, dI)) (ci := 1) (v := .int ((rc_L (va ^^^ rc_g vb) (rc_g vd)) + (S1 (2 * (i + 1))))) (ty := .int) (C := RX1) (T := TX1) (N := 9) hx hb hts in_X1 tyX1 tyX1_ok nmX1 hown hK hP hD hS 0 rfl rfl 8 (by decide) (hts _ q305) (fun _ h9 => h9) rfl (by decide +kernel) rfl rfl (Nat.le_of_ble_eq_true rfl) dX1_lock_158 (fun H locs hP hD hS => ?_)
      have hP : va_P (dC, dI) vwCl [(y0, .inr (1, [.ref yk, .ref yb, .ref yo, .ref ys, .ref yl, .int vb, .int ((rc_L (vc ^^^ rc_g vd) (rc_g vb)) + (S1 (2 * (i + 1) + 1))), .int vd, .int ((rc_L (va ^^^ rc_g vb) (rc_g vd)) + (S1 (2 * (i + 1))))])), (yk, .inl (dK, 32, .inl fk)), (yb, .inl (dB, 16, .inl fb)), (yo, .inl (dO, 16, .inl fo)), (ys, .inl (dS, 44, .inl S1)), (yl, .inl (dL, 8, .inl fl1))] H := hP
      have hD : va_D A [(y0, .inr (1, [.ref yk, .ref yb, .ref yo, .ref ys, .ref yl, .int vb, .int ((rc_L (vc ^^^ rc_g vd) (rc_g vb)) + (S1 (2 * (i + 1) + 1))), .int vd, .int ((rc_L (va ^^^ rc_g vb) (rc_g vd)) + (S1 (2 * (i + 1))))])), (yk, .inl (dK, 32, .inl fk)), (yb, .inl (dB, 16, .inl fb)), (yo, .inl (dO, 16, .inl fo)), (ys, .inl (dS, 44, .inl S1)), (yl, .inl (dL, 8, .inl fl1))] := hD
      refine lv_iinc (v := (nI (i + 1 + 1))) (lv' := [(2, .int (nI (i + 1 + 1))), (6, .int ((rc_L (vc ^^^ rc_g vd) (rc_g vb)) + (S1 (2 * (i + 1) + 1)))), (5, .int ((rc_L (va ^^^ rc_g vb) (rc_g vd)) + (S1 (2 * (i + 1))))), (4, .int (rc_g vd)), (3, .int (rc_g vb)), (0, .ref y0)]) hx hb dX1_lock_161 hl (k := 5) rfl (zi_p1 (i + 1)) (by decide) rfl (fun ls hl => ?_)
      refine lv_goto (tgt := 44) hx hb dX1_lock_164 (by decide) ?_
      exact ih (i + 1) (by omega) _ _ _ _ (by show _ = rc_e1 S1 (i + 1) (rc_er S1 i (rc_wd fb 0, rc_wd fb 4 + S1 0, rc_wd fb 8, rc_wd fb 12 + S1 1)); rw [← hz]; rfl) H locs hP hD hS ls (lv_sub hl [5, 0] rfl)
  refine lv_iconst (v := (nI (0 + 1))) hx hb dX1_lock_42 (by decide) ?_
  refine lv_istore_n (lv' := [(2, .int (nI (0 + 1))), (0, .ref y0), (1, .int kind)]) hx hb dX1_lock_43 rfl hl (by decide) rfl (fun ls hl => ?_)
  exact loop 20 0 rfl _ _ _ _ rfl H locs (hP.sub [4, 1, 5, 0, 2, 3] rfl) (hD.sub [4, 1, 5, 0, 2, 3] (by decide) rfl) hS ls (lv_sub hl [1, 0] rfl)
set_option maxHeartbeats 4000000 in
set_option maxRecDepth 100000 in
/-- RcSixDeskModel.open -/
theorem met_X1_open (l : Launch) (dC : Nat → ClassId) (dI : Nat → Nat → Nat) (sz : Nat) (y0 yk yb yo ys yl : Nat) (v5 v6 v7 v8 : Int32) (dK dB dO dS dL : ClassId) (fk fb fo fs fl : Nat → Int32) (kind : Int32) : Met l yX1_open (ws_ yX1_open cX1_open 7 none) ({ frames := 2, cells := 0, slots := 0, locals := 49 }) (va_Pc [.ref y0, .int kind] (zw_pre (dC, dI) [(dK, .byte), (dB, .byte), (dO, .byte), (dS, .int), (dL, .int)] [(y0, .inr (1, [.ref yk, .ref yb, .ref yo, .ref ys, .ref yl, .int v5, .int v6, .int v7, .int v8])), (yk, .inl (dK, 32, .inl fk)), (yb, .inl (dB, 16, .inl fb)), (yo, .inl (dO, 16, .inl fo)), (ys, .inl (dS, 44, .inl fs)), (yl, .inl (dL, 8, .inl fl))] sz)) (va_Qv (fun _ => True) (fun (u : rc_T × (Nat → Int32)) t => zw_post (dC, dI) [(dK, .byte), (dB, .byte), (dO, .byte), (dS, .int), (dL, .int)] [(y0, .inr (1, [.ref yk, .ref yb, .ref yo, .ref ys, .ref yl, .int u.1.1, .int u.1.2.1, .int u.1.2.2.1, .int u.1.2.2.2])), (yk, .inl (dK, 32, .inl fk)), (yb, .inl (dB, 16, .inl fb)), (yo, .inl (dO, 16, .inl (rc_o (rc_dec (rc_S (rc_c kind) fk) fb)))), (ys, .inl (dS, 44, .inl (rc_S (rc_c kind) fk))), (yl, .inl (dL, 8, .inl u.2))] (va_A [(y0, .inr (1, [.ref yk, .ref yb, .ref yo, .ref ys, .ref yl, .int v5, .int v6, .int v7, .int v8])), (yk, .inl (dK, 32, .inl fk)), (yb, .inl (dB, 16, .inl fb)), (yo, .inl (dO, 16, .inl fo)), (ys, .inl (dS, 44, .inl fs)), (yl, .inl (dL, 8, .inl fl))] sz) t) (va_A [(y0, .inr (1, [.ref yk, .ref yb, .ref yo, .ref ys, .ref yl, .int v5, .int v6, .int v7, .int v8])), (yk, .inl (dK, 32, .inl fk)), (yb, .inl (dB, 16, .inl fb)), (yo, .inl (dO, 16, .inl fo)), (ys, .inl (dS, 44, .inl fs)), (yl, .inl (dL, 8, .inl fl))] sz)) 0 0 (va_A [(y0, .inr (1, [.ref yk, .ref yb, .ref yo, .ref ys, .ref yl, .int v5, .int v6, .int v7, .int v8])), (yk, .inl (dK, 32, .inl fk)), (yb, .inl (dB, 16, .inl fb)), (yo, .inl (dO, 16, .inl fo)), (ys, .inl (dS, 44, .inl fs)), (yl, .inl (dL, 8, .inl fl))] sz) := by
  refine Met.ofW (cc := cX1_open) (maxL := 7) (ret := none) (by decide) rfl ?_
  intro p e s m args below meth c s₁ B hml hv
  obtain ⟨rfl, hsz, hP, hK, hD0⟩ := hv
  have hx := B.exec
  have hb := B.bytes
  have hr := B.returns
  have hts := atoms_spec (ws := (ws_ yX1_open cX1_open 7 none)) B.pre
  have hts : ∀ w ∈ lw_all, w.before _ s = true := fun w h => hts w (List.mem_cons_of_mem _ h)
  have hown : s.vm.findClass RX1 = some m.cls := findClass_of_methodNamed B.named
  have hlocks := B.notSynchronized
  subst hsz
  have hD := hD0.self (sz := s.heap.size)
  generalize hAe : va_A [(y0, .inr (1, [.ref yk, .ref yb, .ref yo, .ref ys, .ref yl, .int v5, .int v6, .int v7, .int v8])), (yk, .inl (dK, 32, .inl fk)), (yb, .inl (dB, 16, .inl fb)), (yo, .inl (dO, 16, .inl fo)), (ys, .inl (dS, 44, .inl fs)), (yl, .inl (dL, 8, .inl fl))] s.heap.size = A at hD ⊢
  have hA : ∀ q : Nat, s.heap.size ≤ q → A q := fun q h => by rw [← hAe]; exact Or.inr h
  have hS : va_S A s.heap s.heap [] := va_S.rf
  have hP : va_P (dC, dI) vwCl [(y0, .inr (1, [.ref yk, .ref yb, .ref yo, .ref ys, .ref yl, .int v5, .int v6, .int v7, .int v8])), (yk, .inl (dK, 32, .inl fk)), (yb, .inl (dB, 16, .inl fb)), (yo, .inl (dO, 16, .inl fo)), (ys, .inl (dS, 44, .inl fs)), (yl, .inl (dL, 8, .inl fl))] s.heap := hP
  have hl := lv_entry ([.ref y0, .int kind]) (n := 7) (Nat.le_of_ble_eq_true rfl)
  rw [lg_entry_eq]
  generalize (lg_sl ([.ref y0, .int kind]) ++ List.replicate (7 - (lg_sl ([.ref y0, .int kind])).length) Slot.unset).toArray = ls at hl ⊢
  have hl : lv_has ls 7 [(0, .ref y0), (1, .int kind)] := hl
  have hw := rc_c_in kind
  refine lv_aload_n hx hb dX1_open_0 rfl (lv_at hl 0 rfl) ?_
  refine lv_iload_n hx hb dX1_open_1 rfl (lv_at hl 1 rfl) ?_
  refine vp_callSi (va_runS (As := [.int kind]) (rest := [.ref y0]) ⟨hx, hb, hml, hown, hts⟩ (met_X1_size l kind) (va_cwS 1 hts (lw_S q329 q330 q14 q331) rfl rfl rfl (by decide +kernel) ⟨Nat.le_of_ble_eq_true rfl, Nat.le_of_ble_eq_true rfl⟩) ⟨fun _ _ _ _ q => q, fun _ _ _ => ⟨rfl, trivial⟩⟩ rfl rfl hl.1 rfl (lv_room (Nat.le_of_ble_eq_true rfl)) dX1_open_2 ⟨Nat.le_of_ble_eq_true rfl, Nat.le_of_ble_eq_true rfl⟩).run (fun r hr_ => ?_)
  refine zt (nI (4 * rc_c kind)) hr_ ?_
  refine zc_v (wc := [(y0, .inr (1, [.ref yk, .ref yb, .ref yo, .ref ys, .ref yl, .int v5, .int v6, .int v7, .int v8])), (yk, .inl (dK, 32, .inl fk)), (ys, .inl (dS, 44, .inl fs)), (yl, .inl (dL, 8, .inl fl))]) (wr := [(yb, .inl (dB, 16, .inl fb)), (yo, .inl (dO, 16, .inl fo))]) hP hD hS hA [0, 1, 4, 5] [2, 3] rfl rfl rfl (by decide) (va_runV (As := [.int (nI (4 * rc_c kind))]) (rest := []) ⟨hx, hb, hml, hown, hts⟩ (met_X1_expands l dC dI _ y0 yk yb yo ys yl v5 v6 v7 v8 dK dS dL fk fs fl (rc_c kind) hw) (cwV 1 hts (lw_V q332 q334 qs9 q14 q335) rfl rfl rfl (by decide +kernel) ⟨Nat.le_of_ble_eq_true rfl, Nat.le_of_ble_eq_true rfl⟩) ⟨zw_blind, va_recv hK hP (ci := 1) (q0 := 0) rfl rfl, zw_mk hP hD hK [0, 1, 4, 5] [0, 3, 4] rfl rfl rfl rfl⟩ rfl rfl hl.1 rfl (lv_room (Nat.le_of_ble_eq_true rfl)) dX1_open_5 ⟨Nat.le_of_ble_eq_true rfl, Nat.le_of_ble_eq_true rfl⟩) (fun fl1 H locs _ hP hD hK1 hS => ?_)
  have hP : va_P (dC, dI) vwCl [(yb, .inl (dB, 16, .inl fb)), (yo, .inl (dO, 16, .inl fo)), (y0, .inr (1, [.ref yk, .ref yb, .ref yo, .ref ys, .ref yl, .int v5, .int v6, .int v7, .int v8])), (yk, .inl (dK, 32, .inl fk)), (ys, .inl (dS, 44, .inl (rc_S (rc_c kind) fk))), (yl, .inl (dL, 8, .inl fl1))] H := hP
  have hD : va_D A [(yb, .inl (dB, 16, .inl fb)), (yo, .inl (dO, 16, .inl fo)), (y0, .inr (1, [.ref yk, .ref yb, .ref yo, .ref ys, .ref yl, .int v5, .int v6, .int v7, .int v8])), (yk, .inl (dK, 32, .inl fk)), (ys, .inl (dS, 44, .inl (rc_S (rc_c kind) fk))), (yl, .inl (dL, 8, .inl fl1))] := hD
  obtain ⟨S1, hS1⟩ : ∃ S1, S1 = rc_S (rc_c kind) fk := ⟨_, rfl⟩
  rw [← hS1] at hP hD ⊢
  refine lv_aload_n hx hb dX1_open_8 rfl (lv_at hl 0 rfl) ?_
  refine zc_v (wc := [(y0, .inr (1, [.ref yk, .ref yb, .ref yo, .ref ys, .ref yl, .int v5, .int v6, .int v7, .int v8])), (yb, .inl (dB, 16, .inl fb))]) (wr := [(yo, .inl (dO, 16, .inl fo)), (yk, .inl (dK, 32, .inl fk)), (ys, .inl (dS, 44, .inl S1)), (yl, .inl (dL, 8, .inl fl1))]) hP hD hS hA [2, 0] [1, 3, 4, 5] rfl rfl rfl (by decide) (va_runV (As := []) (rest := []) ⟨hx, hb, hml, hown, hts⟩ (met_X1_takes l dC dI _ y0 yk yb yo ys yl v5 v6 v7 v8 dB fb) (cwV 0 hts (lw_V q344 q346 qs10 q14 q347) rfl rfl rfl (by decide +kernel) ⟨Nat.le_of_ble_eq_true rfl, Nat.le_of_ble_eq_true rfl⟩) ⟨zw_blind, va_recv hK hP (ci := 1) (q0 := 2) rfl rfl, zw_mk hP hD hK [2, 0] [1] rfl rfl rfl rfl⟩ rfl rfl hl.1 rfl (lv_room (Nat.le_of_ble_eq_true rfl)) dX1_open_9 ⟨Nat.le_of_ble_eq_true rfl, Nat.le_of_ble_eq_true rfl⟩) (fun _ H locs _ hP hD hK1 hS => ?_)
  have hP : va_P (dC, dI) vwCl [(yo, .inl (dO, 16, .inl fo)), (yk, .inl (dK, 32, .inl fk)), (ys, .inl (dS, 44, .inl S1)), (yl, .inl (dL, 8, .inl fl1)), (y0, .inr (1, [.ref yk, .ref yb, .ref yo, .ref ys, .ref yl, .int (rc_wd fb 0), .int (rc_wd fb 4), .int (rc_wd fb 8), .int (rc_wd fb 12)])), (yb, .inl (dB, 16, .inl fb))] H := hP
  have hD : va_D A [(yo, .inl (dO, 16, .inl fo)), (yk, .inl (dK, 32, .inl fk)), (ys, .inl (dS, 44, .inl S1)), (yl, .inl (dL, 8, .inl fl1)), (y0, .inr (1, [.ref yk, .ref yb, .ref yo, .ref ys, .ref yl, .int (rc_wd fb 0), .int (rc_wd fb 4), .int (rc_wd fb 8), .int (rc_wd fb 12)])), (yb, .inl (dB, 16, .inl fb))] := hD
  refine lv_aload_n hx hb dX1_open_12 rfl (lv_at hl 0 rfl) ?_
  refine lv_dup hx hb dX1_open_13 rfl ?_
  refine va_get (D := (dC, dI)) (ci := 1) (v := .int (rc_wd fb 8)) (C := RX1) (T := TX1) (N := 9) hx hb hts in_X1 hown hK hP 4 rfl rfl 7 (by decide) (hts _ q304) (fun _ h9 => h9) rfl dX1_open_14 ?_
  refine lv_aload_n hx hb dX1_open_17 rfl (lv_at hl 0 rfl) ?_
  refine va_get (D := (dC, dI)) (ci := 1) (v := .ref ys) (C := RX1) (T := TX1) (N := 9) hx hb hts in_X1 hown hK hP 4 rfl rfl 3 (by decide) (hts _ q300) (fun _ h9 => h9) rfl dX1_open_18 ?_
  refine lv_bipush (v := (nI 43)) hx hb dX1_open_21 (by decide) ?_
  refine zz_iald hx hb hK hP 2 3 rfl rfl 43 rfl (by omega) (by omega) dX1_open_23 ?_
  refine lv_isub hx hb dX1_open_24 ?_
  refine va_put (D := (dC, dI)) (ci := 1) (v := .int ((rc_wd fb 8) - (S1 43))) (ty := .int) (C := RX1) (T := TX1) (N := 9) hx hb hts in_X1 tyX1 tyX1_ok nmX1 hown hK hP hD hS 4 rfl rfl 7 (by decide) (hts _ q304) (fun _ h9 => h9) rfl (by decide +kernel) rfl rfl (Nat.le_of_ble_eq_true rfl) dX1_open_25 (fun H locs hP hD hS => ?_)
  have hP : va_P (dC, dI) vwCl [(yo, .inl (dO, 16, .inl fo)), (yk, .inl (dK, 32, .inl fk)), (ys, .inl (dS, 44, .inl S1)), (yl, .inl (dL, 8, .inl fl1)), (y0, .inr (1, [.ref yk, .ref yb, .ref yo, .ref ys, .ref yl, .int (rc_wd fb 0), .int (rc_wd fb 4), .int ((rc_wd fb 8) - (S1 43)), .int (rc_wd fb 12)])), (yb, .inl (dB, 16, .inl fb))] H := hP
  have hD : va_D A [(yo, .inl (dO, 16, .inl fo)), (yk, .inl (dK, 32, .inl fk)), (ys, .inl (dS, 44, .inl S1)), (yl, .inl (dL, 8, .inl fl1)), (y0, .inr (1, [.ref yk, .ref yb, .ref yo, .ref ys, .ref yl, .int (rc_wd fb 0), .int (rc_wd fb 4), .int ((rc_wd fb 8) - (S1 43)), .int (rc_wd fb 12)])), (yb, .inl (dB, 16, .inl fb))] := hD
  refine lv_aload_n hx hb dX1_open_28 rfl (lv_at hl 0 rfl) ?_
  refine lv_dup hx hb dX1_open_29 rfl ?_
  refine va_get (D := (dC, dI)) (ci := 1) (v := .int (rc_wd fb 0)) (C := RX1) (T := TX1) (N := 9) hx hb hts in_X1 hown hK hP 4 rfl rfl 5 (by decide) (hts _ q302) (fun _ h9 => h9) rfl dX1_open_30 ?_
  refine lv_aload_n hx hb dX1_open_33 rfl (lv_at hl 0 rfl) ?_
  refine va_get (D := (dC, dI)) (ci := 1) (v := .ref ys) (C := RX1) (T := TX1) (N := 9) hx hb hts in_X1 hown hK hP 4 rfl rfl 3 (by decide) (hts _ q300) (fun _ h9 => h9) rfl dX1_open_34 ?_
  refine lv_bipush (v := (nI 42)) hx hb dX1_open_37 (by decide) ?_
  refine zz_iald hx hb hK hP 2 3 rfl rfl 42 rfl (by omega) (by omega) dX1_open_39 ?_
  refine lv_isub hx hb dX1_open_40 ?_
  refine va_put (D := (dC, dI)) (ci := 1) (v := .int ((rc_wd fb 0) - (S1 42))) (ty := .int) (C := RX1) (T := TX1) (N := 9) hx hb hts in_X1 tyX1 tyX1_ok nmX1 hown hK hP hD hS 4 rfl rfl 5 (by decide) (hts _ q302) (fun _ h9 => h9) rfl (by decide +kernel) rfl rfl (Nat.le_of_ble_eq_true rfl) dX1_open_41 (fun H locs hP hD hS => ?_)
  have hP : va_P (dC, dI) vwCl [(yo, .inl (dO, 16, .inl fo)), (yk, .inl (dK, 32, .inl fk)), (ys, .inl (dS, 44, .inl S1)), (yl, .inl (dL, 8, .inl fl1)), (y0, .inr (1, [.ref yk, .ref yb, .ref yo, .ref ys, .ref yl, .int ((rc_wd fb 0) - (S1 42)), .int (rc_wd fb 4), .int ((rc_wd fb 8) - (S1 43)), .int (rc_wd fb 12)])), (yb, .inl (dB, 16, .inl fb))] H := hP
  have hD : va_D A [(yo, .inl (dO, 16, .inl fo)), (yk, .inl (dK, 32, .inl fk)), (ys, .inl (dS, 44, .inl S1)), (yl, .inl (dL, 8, .inl fl1)), (y0, .inr (1, [.ref yk, .ref yb, .ref yo, .ref ys, .ref yl, .int ((rc_wd fb 0) - (S1 42)), .int (rc_wd fb 4), .int ((rc_wd fb 8) - (S1 43)), .int (rc_wd fb 12)])), (yb, .inl (dB, 16, .inl fb))] := hD
  have loop : ∀ (r i : Nat), i + r = 20 → ∀ (va vb vc vd : Int32), (va, vb, vc, vd) = rc_dr S1 i (rc_wd fb 0 - S1 42, rc_wd fb 4, rc_wd fb 8 - S1 43, rc_wd fb 12) → ∀ (H : Heap) (locs : List Loc), va_P (dC, dI) vwCl [(y0, .inr (1, [.ref yk, .ref yb, .ref yo, .ref ys, .ref yl, .int va, .int vb, .int vc, .int vd])), (yk, .inl (dK, 32, .inl fk)), (yb, .inl (dB, 16, .inl fb)), (yo, .inl (dO, 16, .inl fo)), (ys, .inl (dS, 44, .inl S1)), (yl, .inl (dL, 8, .inl fl1))] H → va_D A [(y0, .inr (1, [.ref yk, .ref yb, .ref yo, .ref ys, .ref yl, .int va, .int vb, .int vc, .int vd])), (yk, .inl (dK, 32, .inl fk)), (yb, .inl (dB, 16, .inl fb)), (yo, .inl (dO, 16, .inl fo)), (ys, .inl (dS, 44, .inl S1)), (yl, .inl (dL, 8, .inl fl1))] → va_S A s.heap H locs → ∀ ls : Array Slot, lv_has ls 7 [(0, .ref y0), (2, .int (nI r))] → W p l e (headSpec (ws_ yX1_open cX1_open 7 none) ({ frames := 2, cells := 0, slots := 0, locals := 49 })).room s m ([.ref y0, .int kind] : List Value).toArray below meth c H locs 0 0 (MQ below (va_Qv (fun _ => True) (fun (u : rc_T × (Nat → Int32)) t => zw_post (dC, dI) [(dK, .byte), (dB, .byte), (dO, .byte), (dS, .int), (dL, .int)] [(y0, .inr (1, [.ref yk, .ref yb, .ref yo, .ref ys, .ref yl, .int u.1.1, .int u.1.2.1, .int u.1.2.2.1, .int u.1.2.2.2])), (yk, .inl (dK, 32, .inl fk)), (yb, .inl (dB, 16, .inl fb)), (yo, .inl (dO, 16, .inl (rc_o (rc_dec (S1) fb)))), (ys, .inl (dS, 44, .inl (S1))), (yl, .inl (dL, 8, .inl u.2))] A t) A) ([.ref y0, .int kind] : List Value).toArray s 0 0 A) (F0 m 47 ls []) := by
    intro r
    induction r with
    | zero =>
      intro i hi va vb vc vd hz H locs hP hD hS ls hl
      have hi : i = 20 := by omega
      subst hi
      refine lv_iload_n hx hb dX1_open_47 rfl (lv_at hl 1 rfl) ?_
      refine lv_if_le (tgt := 169) hx hb dX1_open_48 (by decide) (fun _ => ?_) (fun c_ => absurd (by decide +kernel) c_)
      refine lv_aload_n hx hb dX1_open_169 rfl (lv_at hl 0 rfl) ?_
      refine lv_dup hx hb dX1_open_170 rfl ?_
      refine va_get (D := (dC, dI)) (ci := 1) (v := .int vd) (C := RX1) (T := TX1) (N := 9) hx hb hts in_X1 hown hK hP 0 rfl rfl 8 (by decide) (hts _ q305) (fun _ h9 => h9) rfl dX1_open_171 ?_
      refine lv_aload_n hx hb dX1_open_174 rfl (lv_at hl 0 rfl) ?_
      refine va_get (D := (dC, dI)) (ci := 1) (v := .ref ys) (C := RX1) (T := TX1) (N := 9) hx hb hts in_X1 hown hK hP 0 rfl rfl 3 (by decide) (hts _ q300) (fun _ h9 => h9) rfl dX1_open_175 ?_
      refine lv_iconst (v := (nI 1)) hx hb dX1_open_178 (by decide) ?_
      refine zz_iald hx hb hK hP 4 3 rfl rfl 1 rfl (by omega) (by omega) dX1_open_179 ?_
      refine lv_isub hx hb dX1_open_180 ?_
      refine va_put (D := (dC, dI)) (ci := 1) (v := .int (vd - (S1 1))) (ty := .int) (C := RX1) (T := TX1) (N := 9) hx hb hts in_X1 tyX1 tyX1_ok nmX1 hown hK hP hD hS 0 rfl rfl 8 (by decide) (hts _ q305) (fun _ h9 => h9) rfl (by decide +kernel) rfl rfl (Nat.le_of_ble_eq_true rfl) dX1_open_181 (fun H locs hP hD hS => ?_)
      have hP : va_P (dC, dI) vwCl [(y0, .inr (1, [.ref yk, .ref yb, .ref yo, .ref ys, .ref yl, .int va, .int vb, .int vc, .int (vd - (S1 1))])), (yk, .inl (dK, 32, .inl fk)), (yb, .inl (dB, 16, .inl fb)), (yo, .inl (dO, 16, .inl fo)), (ys, .inl (dS, 44, .inl S1)), (yl, .inl (dL, 8, .inl fl1))] H := hP
      have hD : va_D A [(y0, .inr (1, [.ref yk, .ref yb, .ref yo, .ref ys, .ref yl, .int va, .int vb, .int vc, .int (vd - (S1 1))])), (yk, .inl (dK, 32, .inl fk)), (yb, .inl (dB, 16, .inl fb)), (yo, .inl (dO, 16, .inl fo)), (ys, .inl (dS, 44, .inl S1)), (yl, .inl (dL, 8, .inl fl1))] := hD
      refine lv_aload_n hx hb dX1_open_184 rfl (lv_at hl 0 rfl) ?_
      refine lv_dup hx hb dX1_open_185 rfl ?_
      refine va_get (D := (dC, dI)) (ci := 1) (v := .int vb) (C := RX1) (T := TX1) (N := 9) hx hb hts in_X1 hown hK hP 0 rfl rfl 6 (by decide) (hts _ q303) (fun _ h9 => h9) rfl dX1_open_186 ?_
      refine lv_aload_n hx hb dX1_open_189 rfl (lv_at hl 0 rfl) ?_
      refine va_get (D := (dC, dI)) (ci := 1) (v := .ref ys) (C := RX1) (T := TX1) (N := 9) hx hb hts in_X1 hown hK hP 0 rfl rfl 3 (by decide) (hts _ q300) (fun _ h9 => h9) rfl dX1_open_190 ?_
      refine lv_iconst (v := (nI 0)) hx hb dX1_open_193 (by decide) ?_
      refine zz_iald hx hb hK hP 4 3 rfl rfl 0 rfl (by omega) (by omega) dX1_open_194 ?_
      refine lv_isub hx hb dX1_open_195 ?_
      refine va_put (D := (dC, dI)) (ci := 1) (v := .int (vb - (S1 0))) (ty := .int) (C := RX1) (T := TX1) (N := 9) hx hb hts in_X1 tyX1 tyX1_ok nmX1 hown hK hP hD hS 0 rfl rfl 6 (by decide) (hts _ q303) (fun _ h9 => h9) rfl (by decide +kernel) rfl rfl (Nat.le_of_ble_eq_true rfl) dX1_open_196 (fun H locs hP hD hS => ?_)
      have hP : va_P (dC, dI) vwCl [(y0, .inr (1, [.ref yk, .ref yb, .ref yo, .ref ys, .ref yl, .int va, .int (vb - (S1 0)), .int vc, .int (vd - (S1 1))])), (yk, .inl (dK, 32, .inl fk)), (yb, .inl (dB, 16, .inl fb)), (yo, .inl (dO, 16, .inl fo)), (ys, .inl (dS, 44, .inl S1)), (yl, .inl (dL, 8, .inl fl1))] H := hP
      have hD : va_D A [(y0, .inr (1, [.ref yk, .ref yb, .ref yo, .ref ys, .ref yl, .int va, .int (vb - (S1 0)), .int vc, .int (vd - (S1 1))])), (yk, .inl (dK, 32, .inl fk)), (yb, .inl (dB, 16, .inl fb)), (yo, .inl (dO, 16, .inl fo)), (ys, .inl (dS, 44, .inl S1)), (yl, .inl (dL, 8, .inl fl1))] := hD
      refine lv_aload_n hx hb dX1_open_199 rfl (lv_at hl 0 rfl) ?_
      have hz2 : rc_dec S1 fb = (va, vb - S1 0, vc, vd - S1 1) := by unfold rc_dec; rw [← hz]
      refine zc_v (wc := [(y0, .inr (1, [.ref yk, .ref yb, .ref yo, .ref ys, .ref yl, .int va, .int (vb - (S1 0)), .int vc, .int (vd - (S1 1))])), (yo, .inl (dO, 16, .inl fo))]) (wr := [(yk, .inl (dK, 32, .inl fk)), (yb, .inl (dB, 16, .inl fb)), (ys, .inl (dS, 44, .inl S1)), (yl, .inl (dL, 8, .inl fl1))]) hP hD hS hA [0, 3] [1, 2, 4, 5] rfl rfl rfl (by decide) (va_runV (As := []) (rest := []) ⟨hx, hb, hml, hown, hts⟩ (met_X1_gives l dC dI _ y0 yk yb yo ys yl va (vb - S1 0) vc (vd - S1 1) dO fo) (cwV 0 hts (lw_V q348 q350 qs11 q14 q351) rfl rfl rfl (by decide +kernel) ⟨Nat.le_of_ble_eq_true rfl, Nat.le_of_ble_eq_true rfl⟩) ⟨zw_blind, va_recv hK hP (ci := 1) (q0 := 0) rfl rfl, zw_mk hP hD hK [0, 3] [2] rfl rfl rfl rfl⟩ rfl rfl hl.1 rfl (lv_room (Nat.le_of_ble_eq_true rfl)) dX1_open_200 ⟨Nat.le_of_ble_eq_true rfl, Nat.le_of_ble_eq_true rfl⟩) (fun _ H locs _ hP hD hK1 hS => ?_)
      have hP : va_P (dC, dI) vwCl [(yk, .inl (dK, 32, .inl fk)), (yb, .inl (dB, 16, .inl fb)), (ys, .inl (dS, 44, .inl S1)), (yl, .inl (dL, 8, .inl fl1)), (y0, .inr (1, [.ref yk, .ref yb, .ref yo, .ref ys, .ref yl, .int va, .int (vb - S1 0), .int vc, .int (vd - S1 1)])), (yo, .inl (dO, 16, .inl (rc_o (va, vb - S1 0, vc, vd - S1 1))))] H := hP
      have hD : va_D A [(yk, .inl (dK, 32, .inl fk)), (yb, .inl (dB, 16, .inl fb)), (ys, .inl (dS, 44, .inl S1)), (yl, .inl (dL, 8, .inl fl1)), (y0, .inr (1, [.ref yk, .ref yb, .ref yo, .ref ys, .ref yl, .int va, .int (vb - S1 0), .int vc, .int (vd - S1 1)])), (yo, .inl (dO, 16, .inl (rc_o (va, vb - S1 0, vc, vd - S1 1))))] := hD
      have hP := zz_ext hP 5 rfl (g := rc_o (rc_dec S1 fb)) (fun j _ => by rw [hz2])
      have hD : va_D A [(yk, .inl (dK, 32, .inl fk)), (yb, .inl (dB, 16, .inl fb)), (ys, .inl (dS, 44, .inl S1)), (yl, .inl (dL, 8, .inl fl1)), (y0, .inr (1, [.ref yk, .ref yb, .ref yo, .ref ys, .ref yl, .int va, .int (vb - S1 0), .int vc, .int (vd - S1 1)])), (yo, .inl (dO, 16, .inl (rc_o (rc_dec S1 fb))))] := hD.set (p := 5) rfl
      have hP9 := hP.sub (ws' := [(y0, .inr (1, [.ref yk, .ref yb, .ref yo, .ref ys, .ref yl, .int va, .int (vb - S1 0), .int vc, .int (vd - S1 1)])), (yk, .inl (dK, 32, .inl fk)), (yb, .inl (dB, 16, .inl fb)), (yo, .inl (dO, 16, .inl (rc_o (rc_dec S1 fb)))), (ys, .inl (dS, 44, .inl S1)), (yl, .inl (dL, 8, .inl fl1))]) [4, 0, 1, 5, 2, 3] rfl
      have hD9 := hD.sub (ws' := [(y0, .inr (1, [.ref yk, .ref yb, .ref yo, .ref ys, .ref yl, .int va, .int (vb - S1 0), .int vc, .int (vd - S1 1)])), (yk, .inl (dK, 32, .inl fk)), (yb, .inl (dB, 16, .inl fb)), (yo, .inl (dO, 16, .inl (rc_o (rc_dec S1 fb)))), (ys, .inl (dS, 44, .inl S1)), (yl, .inl (dL, 8, .inl fl1))]) [4, 0, 1, 5, 2, 3] (by decide) rfl
      have hK9 := hK.sub (tys' := [(dK, .byte), (dB, .byte), (dO, .byte), (dS, .int), (dL, .int)]) [0, 1, 2, 3, 4] rfl
      exact W.vret hx hb hr (fun t ht hW => ⟨⟨((va, vb - S1 0, vc, vd - S1 1), fl1), rfl, trivial, by rw [ht]; exact hP9, va_K.moved hW.alike hK9, hD9⟩, hS.F ht⟩) hS.2.2 dX1_open_203
    | succ r ih =>
      intro i hi va vb vc vd hz H locs hP hD hS ls hl
      refine lv_iload_n hx hb dX1_open_47 rfl (lv_at hl 1 rfl) ?_
      refine lv_if_le (tgt := 169) hx hb dX1_open_48 (by decide) (fun c_ => absurd c_ (nI_nle (by omega) (by omega))) (fun _ => ?_)
      refine lv_aload_n hx hb dX1_open_51 rfl (lv_at hl 0 rfl) ?_
      refine va_get (D := (dC, dI)) (ci := 1) (v := .int vd) (C := RX1) (T := TX1) (N := 9) hx hb hts in_X1 hown hK hP 0 rfl rfl 8 (by decide) (hts _ q305) (fun _ h9 => h9) rfl dX1_open_52 ?_
      refine lv_istore_n (lv' := [(3, .int vd), (0, .ref y0), (2, .int (nI (r + 1)))]) hx hb dX1_open_55 rfl hl (by decide) rfl (fun ls hl => ?_)
      refine lv_aload_n hx hb dX1_open_56 rfl (lv_at hl 1 rfl) ?_
      refine va_get (D := (dC, dI)) (ci := 1) (v := .int vb) (C := RX1) (T := TX1) (N := 9) hx hb hts in_X1 hown hK hP 0 rfl rfl 6 (by decide) (hts _ q303) (fun _ h9 => h9) rfl dX1_open_57 ?_
      refine lv_istore (lv' := [(4, .int vb), (3, .int vd), (0, .ref y0), (2, .int (nI (r + 1)))]) hx hb dX1_open_60 hl (by decide) rfl (fun ls hl => ?_)
      refine lv_aload_n hx hb dX1_open_62 rfl (lv_at hl 2 rfl) ?_
      refine lv_aload_n hx hb dX1_open_63 rfl (lv_at hl 2 rfl) ?_
      refine va_get (D := (dC, dI)) (ci := 1) (v := .int va) (C := RX1) (T := TX1) (N := 9) hx hb hts in_X1 hown hK hP 0 rfl rfl 5 (by decide) (hts _ q302) (fun _ h9 => h9) rfl dX1_open_64 ?_
      refine va_put (D := (dC, dI)) (ci := 1) (v := .int va) (ty := .int) (C := RX1) (T := TX1) (N := 9) hx hb hts in_X1 tyX1 tyX1_ok nmX1 hown hK hP hD hS 0 rfl rfl 6 (by decide) (hts _ q303) (fun _ h9 => h9) rfl (by decide +kernel) rfl rfl (Nat.le_of_ble_eq_true rfl) dX1_open_67 (fun H locs hP hD hS => ?_)
      have hP : va_P (dC, dI) vwCl [(y0, .inr (1, [.ref yk, .ref yb, .ref yo, .ref ys, .ref yl, .int va, .int va, .int vc, .int vd])), (yk, .inl (dK, 32, .inl fk)), (yb, .inl (dB, 16, .inl fb)), (yo, .inl (dO, 16, .inl fo)), (ys, .inl (dS, 44, .inl S1)), (yl, .inl (dL, 8, .inl fl1))] H := hP
      have hD : va_D A [(y0, .inr (1, [.ref yk, .ref yb, .ref yo, .ref ys, .ref yl, .int va, .int va, .int vc, .int vd])), (yk, .inl (dK, 32, .inl fk)), (yb, .inl (dB, 16, .inl fb)), (yo, .inl (dO, 16, .inl fo)), (ys, .inl (dS, 44, .inl S1)), (yl, .inl (dL, 8, .inl fl1))] := hD
      refine lv_aload_n hx hb dX1_open_70 rfl (lv_at hl 2 rfl) ?_
      refine lv_aload_n hx hb dX1_open_71 rfl (lv_at hl 2 rfl) ?_
      refine va_get (D := (dC, dI)) (ci := 1) (v := .int vc) (C := RX1) (T := TX1) (N := 9) hx hb hts in_X1 hown hK hP 0 rfl rfl 7 (by decide) (hts _ q304) (fun _ h9 => h9) rfl dX1_open_72 ?_
      refine va_put (D := (dC, dI)) (ci := 1) (v := .int vc) (ty := .int) (C := RX1) (T := TX1) (N := 9) hx hb hts in_X1 tyX1 tyX1_ok nmX1 hown hK hP hD hS 0 rfl rfl 8 (by decide) (hts _ q305) (fun _ h9 => h9) rfl (by decide +kernel) rfl rfl (Nat.le_of_ble_eq_true rfl) dX1_open_75 (fun H locs hP hD hS => ?_)
      have hP : va_P (dC, dI) vwCl [(y0, .inr (1, [.ref yk, .ref yb, .ref yo, .ref ys, .ref yl, .int va, .int va, .int vc, .int vc])), (yk, .inl (dK, 32, .inl fk)), (yb, .inl (dB, 16, .inl fb)), (yo, .inl (dO, 16, .inl fo)), (ys, .inl (dS, 44, .inl S1)), (yl, .inl (dL, 8, .inl fl1))] H := hP
      have hD : va_D A [(y0, .inr (1, [.ref yk, .ref yb, .ref yo, .ref ys, .ref yl, .int va, .int va, .int vc, .int vc])), (yk, .inl (dK, 32, .inl fk)), (yb, .inl (dB, 16, .inl fb)), (yo, .inl (dO, 16, .inl fo)), (ys, .inl (dS, 44, .inl S1)), (yl, .inl (dL, 8, .inl fl1))] := hD
      refine lv_aload_n hx hb dX1_open_78 rfl (lv_at hl 2 rfl) ?_
      refine va_get (D := (dC, dI)) (ci := 1) (v := .int vc) (C := RX1) (T := TX1) (N := 9) hx hb hts in_X1 hown hK hP 0 rfl rfl 8 (by decide) (hts _ q305) (fun _ h9 => h9) rfl dX1_open_79 ?_
      refine lv_iconst (v := 2) hx hb dX1_open_82 (by decide) ?_
      refine lv_aload_n hx hb dX1_open_83 rfl (lv_at hl 2 rfl) ?_
      refine va_get (D := (dC, dI)) (ci := 1) (v := .int vc) (C := RX1) (T := TX1) (N := 9) hx hb hts in_X1 hown hK hP 0 rfl rfl 8 (by decide) (hts _ q305) (fun _ h9 => h9) rfl dX1_open_84 ?_
      refine lv_imul hx hb dX1_open_87 ?_
      refine lv_iconst (v := 1) hx hb dX1_open_88 (by decide) ?_
      refine lv_iadd hx hb dX1_open_89 ?_
      refine lv_imul hx hb dX1_open_90 ?_
      refine lv_iconst (v := 5) hx hb dX1_open_91 (by decide) ?_
      refine vp_callSi (va_runS (As := [.int (vc * ((2 * vc) + 1)), .int 5]) (rest := []) ⟨hx, hb, hml, hown, hts⟩ (met_X1_left l (vc * (2 * vc + 1)) 5) (va_cwS 2 hts (lw_S q341 q342 q14 q343) rfl rfl rfl (by decide +kernel) ⟨Nat.le_of_ble_eq_true rfl, Nat.le_of_ble_eq_true rfl⟩) ⟨fun _ _ _ _ q => q, fun _ _ _ => ⟨rfl, trivial⟩⟩ rfl rfl hl.1 rfl (lv_room (Nat.le_of_ble_eq_true rfl)) dX1_open_92 ⟨Nat.le_of_ble_eq_true rfl, Nat.le_of_ble_eq_true rfl⟩).run (fun u hu_ => ?_)
      refine zt (rc_g vc) hu_ ?_
      refine lv_istore (lv' := [(5, .int (rc_g vc)), (4, .int vb), (3, .int vd), (0, .ref y0), (2, .int (nI (r + 1)))]) hx hb dX1_open_95 hl (by decide) rfl (fun ls hl => ?_)
      refine lv_aload_n hx hb dX1_open_97 rfl (lv_at hl 3 rfl) ?_
      refine va_get (D := (dC, dI)) (ci := 1) (v := .int va) (C := RX1) (T := TX1) (N := 9) hx hb hts in_X1 hown hK hP 0 rfl rfl 6 (by decide) (hts _ q303) (fun _ h9 => h9) rfl dX1_open_98 ?_
      refine lv_iconst (v := 2) hx hb dX1_open_101 (by decide) ?_
      refine lv_aload_n hx hb dX1_open_102 rfl (lv_at hl 3 rfl) ?_
      refine va_get (D := (dC, dI)) (ci := 1) (v := .int va) (C := RX1) (T := TX1) (N := 9) hx hb hts in_X1 hown hK hP 0 rfl rfl 6 (by decide) (hts _ q303) (fun _ h9 => h9) rfl dX1_open_103 ?_
      refine lv_imul hx hb dX1_open_106 ?_
      refine lv_iconst (v := 1) hx hb dX1_open_107 (by decide) ?_
      refine lv_iadd hx hb dX1_open_108 ?_
      refine lv_imul hx hb dX1_open_109 ?_
      refine lv_iconst (v := 5) hx hb dX1_open_110 (by decide) ?_
      refine vp_callSi (va_runS (As := [.int (va * ((2 * va) + 1)), .int 5]) (rest := []) ⟨hx, hb, hml, hown, hts⟩ (met_X1_left l (va * (2 * va + 1)) 5) (va_cwS 2 hts (lw_S q341 q342 q14 q343) rfl rfl rfl (by decide +kernel) ⟨Nat.le_of_ble_eq_true rfl, Nat.le_of_ble_eq_true rfl⟩) ⟨fun _ _ _ _ q => q, fun _ _ _ => ⟨rfl, trivial⟩⟩ rfl rfl hl.1 rfl (lv_room (Nat.le_of_ble_eq_true rfl)) dX1_open_111 ⟨Nat.le_of_ble_eq_true rfl, Nat.le_of_ble_eq_true rfl⟩).run (fun t ht_ => ?_)
      refine zt (rc_g va) ht_ ?_
      refine lv_istore (lv' := [(6, .int (rc_g va)), (5, .int (rc_g vc)), (4, .int vb), (3, .int vd), (0, .ref y0), (2, .int (nI (r + 1)))]) hx hb dX1_open_114 hl (by decide) rfl (fun ls hl => ?_)
      refine lv_aload_n hx hb dX1_open_116 rfl (lv_at hl 4 rfl) ?_
      refine lv_iload hx hb dX1_open_117 (lv_at hl 2 rfl) ?_
      refine lv_aload_n hx hb dX1_open_119 rfl (lv_at hl 4 rfl) ?_
      refine va_get (D := (dC, dI)) (ci := 1) (v := .ref ys) (C := RX1) (T := TX1) (N := 9) hx hb hts in_X1 hown hK hP 0 rfl rfl 3 (by decide) (hts _ q300) (fun _ h9 => h9) rfl dX1_open_120 ?_
      refine lv_iconst (v := 2) hx hb dX1_open_123 (by decide) ?_
      refine lv_iload_n hx hb dX1_open_124 rfl (lv_at hl 5 rfl) ?_
      refine lv_imul hx hb dX1_open_125 ?_
      refine lv_iconst (v := 1) hx hb dX1_open_126 (by decide) ?_
      refine lv_iadd hx hb dX1_open_127 ?_
      refine zz_iald hx hb hK hP 4 3 rfl rfl (2 * (r + 1) + 1) (rc_i21 _) (by omega) (by omega) dX1_open_128 ?_
      refine lv_isub hx hb dX1_open_129 ?_
      refine lv_iload hx hb dX1_open_130 (lv_at hl 0 rfl) ?_
      refine vp_callSi (va_runS (As := [.int (vb - (S1 (2 * (r + 1) + 1))), .int (rc_g va)]) (rest := [.ref y0]) ⟨hx, hb, hml, hown, hts⟩ (met_X1_right l (vb - S1 (2 * (r + 1) + 1)) (rc_g va)) (va_cwS 2 hts (lw_S q356 q357 q14 q358) rfl rfl rfl (by decide +kernel) ⟨Nat.le_of_ble_eq_true rfl, Nat.le_of_ble_eq_true rfl⟩) ⟨fun _ _ _ _ q => q, fun _ _ _ => ⟨rfl, trivial⟩⟩ rfl rfl hl.1 rfl (lv_room (Nat.le_of_ble_eq_true rfl)) dX1_open_132 ⟨Nat.le_of_ble_eq_true rfl, Nat.le_of_ble_eq_true rfl⟩).run (fun tc htc => ?_)
      refine zt (rc_R (vb - S1 (2 * (r + 1) + 1)) (rc_g va)) htc ?_
      refine lv_iload hx hb dX1_open_135 (lv_at hl 1 rfl) ?_
      refine lv_ixor hx hb dX1_open_137 ?_
      refine va_put (D := (dC, dI)) (ci := 1) (v := .int ((rc_R (vb - S1 (2 * (r + 1) + 1)) (rc_g va)) ^^^ (rc_g vc))) (ty := .int) (C := RX1) (T := TX1) (N := 9) hx hb hts in_X1 tyX1 tyX1_ok nmX1 hown hK hP hD hS 0 rfl rfl 7 (by decide) (hts _ q304) (fun _ h9 => h9) rfl (by decide +kernel) rfl rfl (Nat.le_of_ble_eq_true rfl) dX1_open_138 (fun H locs hP hD hS => ?_)
      have hP : va_P (dC, dI) vwCl [(y0, .inr (1, [.ref yk, .ref yb, .ref yo, .ref ys, .ref yl, .int va, .int va, .int ((rc_R (vb - S1 (2 * (r + 1) + 1)) (rc_g va)) ^^^ (rc_g vc)), .int vc])), (yk, .inl (dK, 32, .inl fk)), (yb, .inl (dB, 16, .inl fb)), (yo, .inl (dO, 16, .inl fo)), (ys, .inl (dS, 44, .inl S1)), (yl, .inl (dL, 8, .inl fl1))] H := hP
      have hD : va_D A [(y0, .inr (1, [.ref yk, .ref yb, .ref yo, .ref ys, .ref yl, .int va, .int va, .int ((rc_R (vb - S1 (2 * (r + 1) + 1)) (rc_g va)) ^^^ (rc_g vc)), .int vc])), (yk, .inl (dK, 32, .inl fk)), (yb, .inl (dB, 16, .inl fb)), (yo, .inl (dO, 16, .inl fo)), (ys, .inl (dS, 44, .inl S1)), (yl, .inl (dL, 8, .inl fl1))] := hD
      refine lv_aload_n hx hb dX1_open_141 rfl (lv_at hl 4 rfl) ?_
      refine lv_iload_n hx hb dX1_open_142 rfl (lv_at hl 3 rfl) ?_
      refine lv_aload_n hx hb dX1_open_143 rfl (lv_at hl 4 rfl) ?_
      refine va_get (D := (dC, dI)) (ci := 1) (v := .ref ys) (C := RX1) (T := TX1) (N := 9) hx hb hts in_X1 hown hK hP 0 rfl rfl 3 (by decide) (hts _ q300) (fun _ h9 => h9) rfl dX1_open_144 ?_
      refine lv_iconst (v := 2) hx hb dX1_open_147 (by decide) ?_
      refine lv_iload_n hx hb dX1_open_148 rfl (lv_at hl 5 rfl) ?_
      refine lv_imul hx hb dX1_open_149 ?_
      refine zz_iald hx hb hK hP 4 3 rfl rfl (2 * (r + 1)) (rc_i2 _) (by omega) (by omega) dX1_open_150 ?_
      refine lv_isub hx hb dX1_open_151 ?_
      refine lv_iload hx hb dX1_open_152 (lv_at hl 1 rfl) ?_
      refine vp_callSi (va_runS (As := [.int (vd - (S1 (2 * (r + 1)))), .int (rc_g vc)]) (rest := [.ref y0]) ⟨hx, hb, hml, hown, hts⟩ (met_X1_right l (vd - S1 (2 * (r + 1))) (rc_g vc)) (va_cwS 2 hts (lw_S q356 q357 q14 q358) rfl rfl rfl (by decide +kernel) ⟨Nat.le_of_ble_eq_true rfl, Nat.le_of_ble_eq_true rfl⟩) ⟨fun _ _ _ _ q => q, fun _ _ _ => ⟨rfl, trivial⟩⟩ rfl rfl hl.1 rfl (lv_room (Nat.le_of_ble_eq_true rfl)) dX1_open_154 ⟨Nat.le_of_ble_eq_true rfl, Nat.le_of_ble_eq_true rfl⟩).run (fun ta hta => ?_)
      refine zt (rc_R (vd - S1 (2 * (r + 1))) (rc_g vc)) hta ?_
      refine lv_iload hx hb dX1_open_157 (lv_at hl 0 rfl) ?_
      refine lv_ixor hx hb dX1_open_159 ?_
      refine va_put (D := (dC, dI)) (ci := 1) (v := .int ((rc_R (vd - S1 (2 * (r + 1))) (rc_g vc)) ^^^ (rc_g va))) (ty := .int) (C := RX1) (T := TX1) (N := 9) hx hb hts in_X1 tyX1 tyX1_ok nmX1 hown hK hP hD hS 0 rfl rfl 5 (by decide) (hts _ q302) (fun _ h9 => h9) rfl (by decide +kernel) rfl rfl (Nat.le_of_ble_eq_true rfl) dX1_open_160 (fun H locs hP hD hS => ?_)
      have hP : va_P (dC, dI) vwCl [(y0, .inr (1, [.ref yk, .ref yb, .ref yo, .ref ys, .ref yl, .int ((rc_R (vd - S1 (2 * (r + 1))) (rc_g vc)) ^^^ (rc_g va)), .int va, .int ((rc_R (vb - S1 (2 * (r + 1) + 1)) (rc_g va)) ^^^ (rc_g vc)), .int vc])), (yk, .inl (dK, 32, .inl fk)), (yb, .inl (dB, 16, .inl fb)), (yo, .inl (dO, 16, .inl fo)), (ys, .inl (dS, 44, .inl S1)), (yl, .inl (dL, 8, .inl fl1))] H := hP
      have hD : va_D A [(y0, .inr (1, [.ref yk, .ref yb, .ref yo, .ref ys, .ref yl, .int ((rc_R (vd - S1 (2 * (r + 1))) (rc_g vc)) ^^^ (rc_g va)), .int va, .int ((rc_R (vb - S1 (2 * (r + 1) + 1)) (rc_g va)) ^^^ (rc_g vc)), .int vc])), (yk, .inl (dK, 32, .inl fk)), (yb, .inl (dB, 16, .inl fb)), (yo, .inl (dO, 16, .inl fo)), (ys, .inl (dS, 44, .inl S1)), (yl, .inl (dL, 8, .inl fl1))] := hD
      refine lv_iinc (v := (nI r)) (lv' := [(2, .int (nI r)), (6, .int (rc_g va)), (5, .int (rc_g vc)), (4, .int vb), (3, .int vd), (0, .ref y0)]) hx hb dX1_open_163 hl (k := 5) rfl ((zi_m _).trans (nI_pred r)) (by decide) rfl (fun ls hl => ?_)
      refine lv_goto (tgt := 47) hx hb dX1_open_166 (by decide) ?_
      exact ih (i + 1) (by omega) _ _ _ _ (by show _ = rc_d1 S1 (20 - i) (rc_dr S1 i (rc_wd fb 0 - S1 42, rc_wd fb 4, rc_wd fb 8 - S1 43, rc_wd fb 12)); rw [← hz, show 20 - i = r + 1 by omega]; rfl) H locs hP hD hS ls (lv_sub hl [5, 0] rfl)
  refine lv_bipush (v := (nI 20)) hx hb dX1_open_44 (by decide) ?_
  refine lv_istore_n (lv' := [(2, .int (nI 20)), (0, .ref y0), (1, .int kind)]) hx hb dX1_open_46 rfl hl (by decide) rfl (fun ls hl => ?_)
  exact loop 20 0 rfl _ _ _ _ rfl H locs (hP.sub [4, 1, 5, 0, 2, 3] rfl) (hD.sub [4, 1, 5, 0, 2, 3] (by decide) rfl) hS ls (lv_sub hl [1, 0] rfl)
end
section
/-! THE CLAIM OUT OF ONE WALK OF THE LAW'S BODY. Your part is whole_start (and what it stands on); all else here is the same for every law, but numbers. -/
def R_law : String := "RcSixDeskLaw"
def lw_P (b : Addr) (xs : List Int32) (args : Array Value) (s : State) : Prop := args = #[.ref b] ∧ s.IntsAt b xs ∧ xs.length ≤ 288 ∧ (Jvm.Cond.and given_1 narrow_1).before args s = true
def lw_Q (_ : Array Value) (s : State) (o : Outcome) (t : State) : Prop := o = .returned (some (.int 1)) ∧ Framed s o t [] 600096 7301386
def lw_Z (below : List Frame) (a : Array Value) (s : State) : State → Prop := fun t => ∃ o, t.status = .running ∧ Ended t below o ∧ lw_Q a s o t
/-- the law's own end, with 1 on the stack, nothing written that was there before, its room as the claim has it -/
theorem lw_ret {p : Program} {l : Launch} {e : Env} {s : State} {m : MethodId} {below : List Frame} {meth : Method} {c : Code} {b : Nat} (hx : p.tables.exec = Jvm.exec) (hb : c.code = code) (hr : meth.sig.returnType = ret) (hlocks : meth.locks = false) {pc : Nat} {H : Heap} {ls : Array Slot} (hdg : decode code pc = .ok (.ireturn, 1)) : W p l e room_1 s m #[Value.ref b] below meth c H [] 600096 7301386 (lw_Z below #[Value.ref b] s) (F0 m pc ls [.int 1]) := by
  intro T hT X
  obtain ⟨fs, hret, hrun, hended, hW, hframe⟩ := X.leave (v := some (.int 1)) (hlocks := hlocks) (fun h => by rw [hr] at h; cases h)
  have hmeth' : T.vm.method? m = some meth := X.method'
  refine ⟨T.setFrames fs, ?_, .returned (some (.int 1)), hrun, hended, rfl, ⟨_, rfl⟩, hW, hframe⟩
  jvm_step X.here [X.here.top, hx, hb, hdg, hmeth', hr, ret, narrow_b1]
  (try refine ⟨rfl, ?_⟩); (try refine ⟨rfl, ?_⟩)
  first | (intro acts; rw [hret _ acts rfl rfl rfl]) | rw [hret _ _ rfl rfl rfl]
  exact Steps.refl _
/-- what holds at the law's entry: the machine, the code, the tables' words (any of lw_tbl by 'hts w (by decide +kernel)'), the script of L ints xs at the cell b, what the Statement gives of the start (any of its parts by flat_of_before) -/
def lw_At (p : Program) (s : State) (m : MethodId) (meth : Method) (c : Code) (b L : Nat) (xs : Nat → Int32) : Prop :=
  p.tables.exec = Jvm.exec ∧ c.code = code ∧ meth.sig.returnType = ret ∧ c.maxLocals = 4 ∧ s.vm.findClass R_law = some m.cls ∧ (∀ w ∈ lw_tbl, w.before #[Value.ref b] s = true) ∧ va_X b L xs s s.heap ∧ b < s.heap.size ∧ meth.locks = false ∧ (Jvm.Cond.and given_1 narrow_1).before #[Value.ref b] s = true
section ZL
variable {p : Program} {l : Launch} {e : Env} {R : Room} {s : State} {m : MethodId} {args : Array Value} {below : List Frame} {meth : Method} {c : Code} {H : Heap} {locs : List Loc} {cells slots : Nat} {Q : State → Prop}
variable {cc : ByteArray} {pc : Nat} {ls : Array Slot} {rest : List Value} {A : Nat → Prop} {H0 : Heap}
theorem zz_sld (hexec : p.tables.exec = Jvm.exec) (hb : c.code = cc) {b L : Nat} {xs : Nat → Int32} (hX : va_X b L xs s H0) (hbl : b < H0.size) (hbA : ¬ A b) (hS : va_S A H0 H locs) {i : Int32} (k : Nat) (hi : i = nI k) (hk : k < L) (hn : L < 1000) (hdg : decode cc pc = .ok (.iaload, 1))
    (kk : W p l e R s m args below meth c H locs cells slots Q (F0 m (pc + 1) ls (.int (xs k) :: rest))) : W p l e R s m args below meth c H locs cells slots Q (F0 m pc ls (.int i :: .ref b :: rest)) := by
  subst hi
  refine va_sld hexec hb hX hbl hbA hS (vp_in_nI hk (by omega)) hdg ?_
  rw [nI_clamp (by omega)]
  exact kk
end ZL
theorem zl_cond {L k : Nat} (hL : L ≤ 288) (hk : 6 * k ≤ L) (h : ¬ (nI L - 6 < nI (6 * k))) : 6 * k + 6 ≤ L := by
  rcases Nat.lt_or_ge L (6 * k + 6) with q | q
  · refine absurd ?_ h
    rw [Int32.lt_iff_toInt_lt, show (nI L - 6).toInt = (nI L - nI 6).toInt from rfl, pk_sub_toInt (by omega) (by omega), nI_toInt (by omega)]
    omega
  · exact q
end
section
/-! THE LAW's LOOP (printed by wip/gen/g19.py) -/
set_option maxHeartbeats 8000000 in
set_option maxRecDepth 100000 in
/-- the law's loop at its head, k calls done: both hold the same key, block and out -/
theorem law_loop {p : Program} {e : Env} {s : State} {m : MethodId} {below : List Frame} {meth : Method} {c : Code} (l : Launch) {b L : Nat} {xs : Nat → Int32} (hL : L ≤ 288) (C0 : lw_At p s m meth c b L xs) (hF : zf_W s) (dC : Nat → ClassId) (dI : Nat → Nat → Nat) (A : Nat → Prop) (hA : ∀ q : Nat, s.heap.size ≤ q → A q) (hAr : ∀ q : Nat, A q → s.heap.size ≤ q) (x0 xk xb xo y0 yk yb yo ys yl : Nat) (dxk dxb dxo dyk dyb dyo dys dyl : ClassId) (hK : va_K (dC, dI) vwCl [(dxk, .byte), (dxb, .byte), (dxo, .byte), (dyk, .byte), (dyb, .byte), (dyo, .byte), (dys, .int), (dyl, .int)] s) : ∀ (n k : Nat), 6 * k ≤ L → L < 6 * (k + n) → ∀ (fk fb fo fs fl : Nat → Int32) (v5 v6 v7 v8 : Int32), rc_By fk → rc_By fo → ∀ (H : Heap) (locs : List Loc), va_P (dC, dI) vwCl [(x0, .inr (0, [.ref xk, .ref xb, .ref xo])), (xk, .inl (dxk, 32, .inl fk)), (xb, .inl (dxb, 16, .inl fb)), (xo, .inl (dxo, 16, .inl fo)), (y0, .inr (1, [.ref yk, .ref yb, .ref yo, .ref ys, .ref yl, .int v5, .int v6, .int v7, .int v8])), (yk, .inl (dyk, 32, .inl fk)), (yb, .inl (dyb, 16, .inl fb)), (yo, .inl (dyo, 16, .inl fo)), (ys, .inl (dys, 44, .inl fs)), (yl, .inl (dyl, 8, .inl fl))] H → va_D A [(x0, .inr (0, [.ref xk, .ref xb, .ref xo])), (xk, .inl (dxk, 32, .inl fk)), (xb, .inl (dxb, 16, .inl fb)), (xo, .inl (dxo, 16, .inl fo)), (y0, .inr (1, [.ref yk, .ref yb, .ref yo, .ref ys, .ref yl, .int v5, .int v6, .int v7, .int v8])), (yk, .inl (dyk, 32, .inl fk)), (yb, .inl (dyb, 16, .inl fb)), (yo, .inl (dyo, 16, .inl fo)), (ys, .inl (dys, 44, .inl fs)), (yl, .inl (dyl, 8, .inl fl))] → va_S A s.heap H locs → ∀ ls : Array Slot, lv_has ls 4 [(0, .ref b), (1, .ref x0), (2, .ref y0), (3, .int (nI (6 * k)))] → W p l e room_1 s m #[Value.ref b] below meth c H locs (10 + 6 * k) (192 + 119 * k) (lw_Z below #[Value.ref b] s) (F0 m 18 ls []) := by
  obtain ⟨hx, hb, hr, hml, hown, hts0, hX, hbl, hlocks, hgv⟩ := id C0
  have hts : ∀ w ∈ lw_all, w.before #[Value.ref b] s = true := fun w h => hts0 w (lw_all_tbl h)
  have hbA : ¬ A b := fun h => Nat.not_le.mpr hbl (hAr b h)
  intro n
  induction n with
  | zero =>
    intro k h1 h2
    exact absurd h2 (by omega)
  | succ n ih =>
    intro k hk1 hk2 fk fb fo fs fl v5 v6 v7 v8 hfk hfo H locs hP hD hS ls hl
    refine lv_iload_n hx hb dL_law_18 rfl (lv_at hl 3 rfl) ?_
    refine lv_aload_n hx hb dL_law_19 rfl (lv_at hl 0 rfl) ?_
    refine va_slen hx hb hX hbl hbA hS dL_law_20 ?_
    refine lv_bipush (v := 6) hx hb dL_law_21 (by decide) ?_
    refine lv_isub hx hb dL_law_23 ?_
    refine lv_icmp_gt (tgt := 266) hx hb dL_law_24 (by decide) (fun cl => ?_) (fun cl => ?_)
    · refine lv_iconst (v := 1) hx hb dL_law_266 (by decide) ?_
      refine W.widen (k := 600096) (n := 7301386) (by omega) (by omega) ?_
      refine va_forget (fun q hq => hAr _ (hS.2.2 q hq)) ?_
      exact lw_ret hx hb hr hlocks dL_law_267
    · have hk3 := zl_cond hL hk1 cl
      refine lv_aload_n hx hb dL_law_27 rfl (lv_at hl 0 rfl) ?_
      refine lv_iload_n hx hb dL_law_28 rfl (lv_at hl 3 rfl) ?_
      refine zz_sld hx hb hX hbl hbA hS (6 * k) rfl (by omega) (by omega) dL_law_29 ?_
      refine lv_bipush (v := 7) hx hb dL_law_30 (by decide) ?_
      refine lv_iand hx hb dL_law_32 ?_
      obtain ⟨j, hj, ej⟩ := pk_andE (xs (6 * k)) (m := 7) 3 (by decide +kernel)
      rcases (show j = 0 ∨ j = 1 ∨ j = 2 ∨ j = 3 ∨ j = 4 ∨ j = 5 ∨ j = 6 ∨ j = 7 by omega) with rfl | rfl | rfl | rfl | rfl | rfl | rfl | rfl
      · refine zt (nI 0) ej ?_
        refine lv_tableIn (off := 39) (tgt := 72) hx hb dL_law_33 (by decide +kernel) (by decide +kernel) (by decide +kernel) (by decide) ?_
        refine lv_aload_n hx hb dL_law_72 rfl (lv_at hl 1 rfl) ?_
        refine lv_aload_n hx hb dL_law_73 rfl (lv_at hl 0 rfl) ?_
        refine lv_iload_n hx hb dL_law_74 rfl (lv_at hl 3 rfl) ?_
        refine lv_iconst (v := 1) hx hb dL_law_75 (by decide) ?_
        refine lv_iadd hx hb dL_law_76 ?_
        refine zz_sld hx hb hX hbl hbA hS (6 * k + 1) (nI_add _ 1) (by omega) (by omega) dL_law_77 ?_
        refine lv_aload_n hx hb dL_law_78 rfl (lv_at hl 0 rfl) ?_
        refine lv_iload_n hx hb dL_law_79 rfl (lv_at hl 3 rfl) ?_
        refine lv_iconst (v := 2) hx hb dL_law_80 (by decide) ?_
        refine lv_iadd hx hb dL_law_81 ?_
        refine zz_sld hx hb hX hbl hbA hS (6 * k + 2) (nI_add _ 2) (by omega) (by omega) dL_law_82 ?_
        refine lv_aload_n hx hb dL_law_83 rfl (lv_at hl 0 rfl) ?_
        refine lv_iload_n hx hb dL_law_84 rfl (lv_at hl 3 rfl) ?_
        refine lv_iconst (v := 3) hx hb dL_law_85 (by decide) ?_
        refine lv_iadd hx hb dL_law_86 ?_
        refine zz_sld hx hb hX hbl hbA hS (6 * k + 3) (nI_add _ 3) (by omega) (by omega) dL_law_87 ?_
        refine lv_aload_n hx hb dL_law_88 rfl (lv_at hl 0 rfl) ?_
        refine lv_iload_n hx hb dL_law_89 rfl (lv_at hl 3 rfl) ?_
        refine lv_iconst (v := 4) hx hb dL_law_90 (by decide) ?_
        refine lv_iadd hx hb dL_law_91 ?_
        refine zz_sld hx hb hX hbl hbA hS (6 * k + 4) (nI_add _ 4) (by omega) (by omega) dL_law_92 ?_
        refine lv_aload_n hx hb dL_law_93 rfl (lv_at hl 0 rfl) ?_
        refine lv_iload_n hx hb dL_law_94 rfl (lv_at hl 3 rfl) ?_
        refine lv_iconst (v := 5) hx hb dL_law_95 (by decide) ?_
        refine lv_iadd hx hb dL_law_96 ?_
        refine zz_sld hx hb hX hbl hbA hS (6 * k + 5) (nI_add _ 5) (by omega) (by omega) dL_law_97 ?_
        refine zc_v (wc := [(x0, .inr (0, [.ref xk, .ref xb, .ref xo])), (xk, .inl (dxk, 32, .inl fk))]) (wr := [(xb, .inl (dxb, 16, .inl fb)), (xo, .inl (dxo, 16, .inl fo)), (y0, .inr (1, [.ref yk, .ref yb, .ref yo, .ref ys, .ref yl, .int v5, .int v6, .int v7, .int v8])), (yk, .inl (dyk, 32, .inl fk)), (yb, .inl (dyb, 16, .inl fb)), (yo, .inl (dyo, 16, .inl fo)), (ys, .inl (dys, 44, .inl fs)), (yl, .inl (dyl, 8, .inl fl))]) hP hD hS hA [0, 1] [2, 3, 4, 5, 6, 7, 8, 9] rfl rfl rfl (by decide) (va_runV (As := [.int (xs (6 * k + 1)), .int (xs (6 * k + 2)), .int (xs (6 * k + 3)), .int (xs (6 * k + 4)), .int (xs (6 * k + 5))]) (rest := []) ⟨hx, hb, hml, hown, hts⟩ (met_X0_key l dC dI _ x0 xk xb xo dxk fk (xs (6 * k + 1)) (xs (6 * k + 2)) (xs (6 * k + 3)) (xs (6 * k + 4)) (xs (6 * k + 5))) (cwV 5 hts (lw_V q45 q46 q47 q13 q48) rfl rfl rfl (by decide +kernel) ⟨Nat.le_of_ble_eq_true rfl, Nat.le_of_ble_eq_true rfl⟩) ⟨zw_blind, va_recv hK hP (ci := 0) (q0 := 0) rfl rfl, zw_mk hP hD hK [0, 1] [0] rfl rfl rfl rfl⟩ rfl rfl hl.1 rfl (lv_room (Nat.le_of_ble_eq_true rfl)) dL_law_98 ⟨by show 10 + 6 * k + 0 ≤ 600096; omega, by show 192 + 119 * k + 0 ≤ 7301386; omega⟩) (fun _ H locs _ hP hD hK1 hS => ?_)
        have hP : va_P (dC, dI) vwCl [(xb, .inl (dxb, 16, .inl fb)), (xo, .inl (dxo, 16, .inl fo)), (y0, .inr (1, [.ref yk, .ref yb, .ref yo, .ref ys, .ref yl, .int v5, .int v6, .int v7, .int v8])), (yk, .inl (dyk, 32, .inl fk)), (yb, .inl (dyb, 16, .inl fb)), (yo, .inl (dyo, 16, .inl fo)), (ys, .inl (dys, 44, .inl fs)), (yl, .inl (dyl, 8, .inl fl)), (x0, .inr (0, [.ref xk, .ref xb, .ref xo])), (xk, .inl (dxk, 32, .inl (rc_k (xs (6 * k + 1)) (xs (6 * k + 2)) (xs (6 * k + 3)) (xs (6 * k + 4)) (xs (6 * k + 5)) fk)))] H := hP
        have hD : va_D A [(xb, .inl (dxb, 16, .inl fb)), (xo, .inl (dxo, 16, .inl fo)), (y0, .inr (1, [.ref yk, .ref yb, .ref yo, .ref ys, .ref yl, .int v5, .int v6, .int v7, .int v8])), (yk, .inl (dyk, 32, .inl fk)), (yb, .inl (dyb, 16, .inl fb)), (yo, .inl (dyo, 16, .inl fo)), (ys, .inl (dys, 44, .inl fs)), (yl, .inl (dyl, 8, .inl fl)), (x0, .inr (0, [.ref xk, .ref xb, .ref xo])), (xk, .inl (dxk, 32, .inl (rc_k (xs (6 * k + 1)) (xs (6 * k + 2)) (xs (6 * k + 3)) (xs (6 * k + 4)) (xs (6 * k + 5)) fk)))] := hD
        refine lv_aload_n hx hb dL_law_101 rfl (lv_at hl 2 rfl) ?_
        refine lv_aload_n hx hb dL_law_102 rfl (lv_at hl 0 rfl) ?_
        refine lv_iload_n hx hb dL_law_103 rfl (lv_at hl 3 rfl) ?_
        refine lv_iconst (v := 1) hx hb dL_law_104 (by decide) ?_
        refine lv_iadd hx hb dL_law_105 ?_
        refine zz_sld hx hb hX hbl hbA hS (6 * k + 1) (nI_add _ 1) (by omega) (by omega) dL_law_106 ?_
        refine lv_aload_n hx hb dL_law_107 rfl (lv_at hl 0 rfl) ?_
        refine lv_iload_n hx hb dL_law_108 rfl (lv_at hl 3 rfl) ?_
        refine lv_iconst (v := 2) hx hb dL_law_109 (by decide) ?_
        refine lv_iadd hx hb dL_law_110 ?_
        refine zz_sld hx hb hX hbl hbA hS (6 * k + 2) (nI_add _ 2) (by omega) (by omega) dL_law_111 ?_
        refine lv_aload_n hx hb dL_law_112 rfl (lv_at hl 0 rfl) ?_
        refine lv_iload_n hx hb dL_law_113 rfl (lv_at hl 3 rfl) ?_
        refine lv_iconst (v := 3) hx hb dL_law_114 (by decide) ?_
        refine lv_iadd hx hb dL_law_115 ?_
        refine zz_sld hx hb hX hbl hbA hS (6 * k + 3) (nI_add _ 3) (by omega) (by omega) dL_law_116 ?_
        refine lv_aload_n hx hb dL_law_117 rfl (lv_at hl 0 rfl) ?_
        refine lv_iload_n hx hb dL_law_118 rfl (lv_at hl 3 rfl) ?_
        refine lv_iconst (v := 4) hx hb dL_law_119 (by decide) ?_
        refine lv_iadd hx hb dL_law_120 ?_
        refine zz_sld hx hb hX hbl hbA hS (6 * k + 4) (nI_add _ 4) (by omega) (by omega) dL_law_121 ?_
        refine lv_aload_n hx hb dL_law_122 rfl (lv_at hl 0 rfl) ?_
        refine lv_iload_n hx hb dL_law_123 rfl (lv_at hl 3 rfl) ?_
        refine lv_iconst (v := 5) hx hb dL_law_124 (by decide) ?_
        refine lv_iadd hx hb dL_law_125 ?_
        refine zz_sld hx hb hX hbl hbA hS (6 * k + 5) (nI_add _ 5) (by omega) (by omega) dL_law_126 ?_
        refine zc_v (wc := [(y0, .inr (1, [.ref yk, .ref yb, .ref yo, .ref ys, .ref yl, .int v5, .int v6, .int v7, .int v8])), (yk, .inl (dyk, 32, .inl fk))]) (wr := [(xb, .inl (dxb, 16, .inl fb)), (xo, .inl (dxo, 16, .inl fo)), (yb, .inl (dyb, 16, .inl fb)), (yo, .inl (dyo, 16, .inl fo)), (ys, .inl (dys, 44, .inl fs)), (yl, .inl (dyl, 8, .inl fl)), (x0, .inr (0, [.ref xk, .ref xb, .ref xo])), (xk, .inl (dxk, 32, .inl (rc_k (xs (6 * k + 1)) (xs (6 * k + 2)) (xs (6 * k + 3)) (xs (6 * k + 4)) (xs (6 * k + 5)) fk)))]) hP hD hS hA [2, 3] [0, 1, 4, 5, 6, 7, 8, 9] rfl rfl rfl (by decide) (va_runV (As := [.int (xs (6 * k + 1)), .int (xs (6 * k + 2)), .int (xs (6 * k + 3)), .int (xs (6 * k + 4)), .int (xs (6 * k + 5))]) (rest := []) ⟨hx, hb, hml, hown, hts⟩ (met_X1_key l dC dI _ y0 yk yb yo ys yl v5 v6 v7 v8 dyk fk (xs (6 * k + 1)) (xs (6 * k + 2)) (xs (6 * k + 3)) (xs (6 * k + 4)) (xs (6 * k + 5))) (cwV 5 hts (lw_V q359 q360 q361 q14 q362) rfl rfl rfl (by decide +kernel) ⟨Nat.le_of_ble_eq_true rfl, Nat.le_of_ble_eq_true rfl⟩) ⟨zw_blind, va_recv hK hP (ci := 1) (q0 := 2) rfl rfl, zw_mk hP hD hK [2, 3] [3] rfl rfl rfl rfl⟩ rfl rfl hl.1 rfl (lv_room (Nat.le_of_ble_eq_true rfl)) dL_law_127 ⟨by show 10 + 6 * k + 0 ≤ 600096; omega, by show 192 + 119 * k + 0 ≤ 7301386; omega⟩) (fun _ H locs _ hP hD hK1 hS => ?_)
        have hP : va_P (dC, dI) vwCl [(xb, .inl (dxb, 16, .inl fb)), (xo, .inl (dxo, 16, .inl fo)), (yb, .inl (dyb, 16, .inl fb)), (yo, .inl (dyo, 16, .inl fo)), (ys, .inl (dys, 44, .inl fs)), (yl, .inl (dyl, 8, .inl fl)), (x0, .inr (0, [.ref xk, .ref xb, .ref xo])), (xk, .inl (dxk, 32, .inl (rc_k (xs (6 * k + 1)) (xs (6 * k + 2)) (xs (6 * k + 3)) (xs (6 * k + 4)) (xs (6 * k + 5)) fk))), (y0, .inr (1, [.ref yk, .ref yb, .ref yo, .ref ys, .ref yl, .int v5, .int v6, .int v7, .int v8])), (yk, .inl (dyk, 32, .inl (rc_k (xs (6 * k + 1)) (xs (6 * k + 2)) (xs (6 * k + 3)) (xs (6 * k + 4)) (xs (6 * k + 5)) fk)))] H := hP
        have hD : va_D A [(xb, .inl (dxb, 16, .inl fb)), (xo, .inl (dxo, 16, .inl fo)), (yb, .inl (dyb, 16, .inl fb)), (yo, .inl (dyo, 16, .inl fo)), (ys, .inl (dys, 44, .inl fs)), (yl, .inl (dyl, 8, .inl fl)), (x0, .inr (0, [.ref xk, .ref xb, .ref xo])), (xk, .inl (dxk, 32, .inl (rc_k (xs (6 * k + 1)) (xs (6 * k + 2)) (xs (6 * k + 3)) (xs (6 * k + 4)) (xs (6 * k + 5)) fk))), (y0, .inr (1, [.ref yk, .ref yb, .ref yo, .ref ys, .ref yl, .int v5, .int v6, .int v7, .int v8])), (yk, .inl (dyk, 32, .inl (rc_k (xs (6 * k + 1)) (xs (6 * k + 2)) (xs (6 * k + 3)) (xs (6 * k + 4)) (xs (6 * k + 5)) fk)))] := hD
        refine lv_goto (tgt := 260) hx hb dL_law_130 (by decide) ?_
        refine lv_iinc (v := (nI (6 * (k + 1)))) (lv' := [(3, .int (nI (6 * (k + 1)))), (0, .ref b), (1, .ref x0), (2, .ref y0)]) hx hb dL_law_260 hl (k := 3) rfl ((zi_p6 _).trans (congrArg nI (by omega))) (by decide) rfl (fun ls hl => ?_)
        refine lv_goto (tgt := 18) hx hb dL_law_263 (by decide) ?_
        refine W.widen (k := 10 + 6 * (k + 1)) (n := 192 + 119 * (k + 1)) (by omega) (by omega) ?_
        exact ih (k + 1) (by omega) (by omega) (rc_k (xs (6 * k + 1)) (xs (6 * k + 2)) (xs (6 * k + 3)) (xs (6 * k + 4)) (xs (6 * k + 5)) fk) fb fo fs fl v5 v6 v7 v8 (rc_By_k _ _ _ _ _ hfk) hfo H locs (hP.sub [6, 7, 0, 1, 8, 9, 2, 3, 4, 5] rfl) (hD.sub [6, 7, 0, 1, 8, 9, 2, 3, 4, 5] (by decide) rfl) hS ls (lv_sub hl [1, 2, 3, 0] rfl)
      · refine zt (nI 1) ej ?_
        refine lv_tableIn (off := 100) (tgt := 133) hx hb dL_law_33 (by decide +kernel) (by decide +kernel) (by decide +kernel) (by decide) ?_
        refine lv_aload_n hx hb dL_law_133 rfl (lv_at hl 1 rfl) ?_
        refine lv_aload_n hx hb dL_law_134 rfl (lv_at hl 0 rfl) ?_
        refine lv_iload_n hx hb dL_law_135 rfl (lv_at hl 3 rfl) ?_
        refine lv_iconst (v := 1) hx hb dL_law_136 (by decide) ?_
        refine lv_iadd hx hb dL_law_137 ?_
        refine zz_sld hx hb hX hbl hbA hS (6 * k + 1) (nI_add _ 1) (by omega) (by omega) dL_law_138 ?_
        refine lv_aload_n hx hb dL_law_139 rfl (lv_at hl 0 rfl) ?_
        refine lv_iload_n hx hb dL_law_140 rfl (lv_at hl 3 rfl) ?_
        refine lv_iconst (v := 2) hx hb dL_law_141 (by decide) ?_
        refine lv_iadd hx hb dL_law_142 ?_
        refine zz_sld hx hb hX hbl hbA hS (6 * k + 2) (nI_add _ 2) (by omega) (by omega) dL_law_143 ?_
        refine lv_aload_n hx hb dL_law_144 rfl (lv_at hl 0 rfl) ?_
        refine lv_iload_n hx hb dL_law_145 rfl (lv_at hl 3 rfl) ?_
        refine lv_iconst (v := 3) hx hb dL_law_146 (by decide) ?_
        refine lv_iadd hx hb dL_law_147 ?_
        refine zz_sld hx hb hX hbl hbA hS (6 * k + 3) (nI_add _ 3) (by omega) (by omega) dL_law_148 ?_
        refine lv_aload_n hx hb dL_law_149 rfl (lv_at hl 0 rfl) ?_
        refine lv_iload_n hx hb dL_law_150 rfl (lv_at hl 3 rfl) ?_
        refine lv_iconst (v := 4) hx hb dL_law_151 (by decide) ?_
        refine lv_iadd hx hb dL_law_152 ?_
        refine zz_sld hx hb hX hbl hbA hS (6 * k + 4) (nI_add _ 4) (by omega) (by omega) dL_law_153 ?_
        refine zc_v (wc := [(x0, .inr (0, [.ref xk, .ref xb, .ref xo])), (xb, .inl (dxb, 16, .inl fb))]) (wr := [(xk, .inl (dxk, 32, .inl fk)), (xo, .inl (dxo, 16, .inl fo)), (y0, .inr (1, [.ref yk, .ref yb, .ref yo, .ref ys, .ref yl, .int v5, .int v6, .int v7, .int v8])), (yk, .inl (dyk, 32, .inl fk)), (yb, .inl (dyb, 16, .inl fb)), (yo, .inl (dyo, 16, .inl fo)), (ys, .inl (dys, 44, .inl fs)), (yl, .inl (dyl, 8, .inl fl))]) hP hD hS hA [0, 2] [1, 3, 4, 5, 6, 7, 8, 9] rfl rfl rfl (by decide) (va_runV (As := [.int (xs (6 * k + 1)), .int (xs (6 * k + 2)), .int (xs (6 * k + 3)), .int (xs (6 * k + 4))]) (rest := []) ⟨hx, hb, hml, hown, hts⟩ (met_X0_block l dC dI _ x0 xk xb xo dxb fb (xs (6 * k + 1)) (xs (6 * k + 2)) (xs (6 * k + 3)) (xs (6 * k + 4))) (cwV 4 hts (lw_V q52 q53 q54 q13 q55) rfl rfl rfl (by decide +kernel) ⟨Nat.le_of_ble_eq_true rfl, Nat.le_of_ble_eq_true rfl⟩) ⟨zw_blind, va_recv hK hP (ci := 0) (q0 := 0) rfl rfl, zw_mk hP hD hK [0, 2] [1] rfl rfl rfl rfl⟩ rfl rfl hl.1 rfl (lv_room (Nat.le_of_ble_eq_true rfl)) dL_law_154 ⟨by show 10 + 6 * k + 0 ≤ 600096; omega, by show 192 + 119 * k + 0 ≤ 7301386; omega⟩) (fun _ H locs _ hP hD hK1 hS => ?_)
        have hP : va_P (dC, dI) vwCl [(xk, .inl (dxk, 32, .inl fk)), (xo, .inl (dxo, 16, .inl fo)), (y0, .inr (1, [.ref yk, .ref yb, .ref yo, .ref ys, .ref yl, .int v5, .int v6, .int v7, .int v8])), (yk, .inl (dyk, 32, .inl fk)), (yb, .inl (dyb, 16, .inl fb)), (yo, .inl (dyo, 16, .inl fo)), (ys, .inl (dys, 44, .inl fs)), (yl, .inl (dyl, 8, .inl fl)), (x0, .inr (0, [.ref xk, .ref xb, .ref xo])), (xb, .inl (dxb, 16, .inl (rc_b (xs (6 * k + 1)) (xs (6 * k + 2)) (xs (6 * k + 3)) (xs (6 * k + 4)))))] H := hP
        have hD : va_D A [(xk, .inl (dxk, 32, .inl fk)), (xo, .inl (dxo, 16, .inl fo)), (y0, .inr (1, [.ref yk, .ref yb, .ref yo, .ref ys, .ref yl, .int v5, .int v6, .int v7, .int v8])), (yk, .inl (dyk, 32, .inl fk)), (yb, .inl (dyb, 16, .inl fb)), (yo, .inl (dyo, 16, .inl fo)), (ys, .inl (dys, 44, .inl fs)), (yl, .inl (dyl, 8, .inl fl)), (x0, .inr (0, [.ref xk, .ref xb, .ref xo])), (xb, .inl (dxb, 16, .inl (rc_b (xs (6 * k + 1)) (xs (6 * k + 2)) (xs (6 * k + 3)) (xs (6 * k + 4)))))] := hD
        refine lv_aload_n hx hb dL_law_157 rfl (lv_at hl 2 rfl) ?_
        refine lv_aload_n hx hb dL_law_158 rfl (lv_at hl 0 rfl) ?_
        refine lv_iload_n hx hb dL_law_159 rfl (lv_at hl 3 rfl) ?_
        refine lv_iconst (v := 1) hx hb dL_law_160 (by decide) ?_
        refine lv_iadd hx hb dL_law_161 ?_
        refine zz_sld hx hb hX hbl hbA hS (6 * k + 1) (nI_add _ 1) (by omega) (by omega) dL_law_162 ?_
        refine lv_aload_n hx hb dL_law_163 rfl (lv_at hl 0 rfl) ?_
        refine lv_iload_n hx hb dL_law_164 rfl (lv_at hl 3 rfl) ?_
        refine lv_iconst (v := 2) hx hb dL_law_165 (by decide) ?_
        refine lv_iadd hx hb dL_law_166 ?_
        refine zz_sld hx hb hX hbl hbA hS (6 * k + 2) (nI_add _ 2) (by omega) (by omega) dL_law_167 ?_
        refine lv_aload_n hx hb dL_law_168 rfl (lv_at hl 0 rfl) ?_
        refine lv_iload_n hx hb dL_law_169 rfl (lv_at hl 3 rfl) ?_
        refine lv_iconst (v := 3) hx hb dL_law_170 (by decide) ?_
        refine lv_iadd hx hb dL_law_171 ?_
        refine zz_sld hx hb hX hbl hbA hS (6 * k + 3) (nI_add _ 3) (by omega) (by omega) dL_law_172 ?_
        refine lv_aload_n hx hb dL_law_173 rfl (lv_at hl 0 rfl) ?_
        refine lv_iload_n hx hb dL_law_174 rfl (lv_at hl 3 rfl) ?_
        refine lv_iconst (v := 4) hx hb dL_law_175 (by decide) ?_
        refine lv_iadd hx hb dL_law_176 ?_
        refine zz_sld hx hb hX hbl hbA hS (6 * k + 4) (nI_add _ 4) (by omega) (by omega) dL_law_177 ?_
        refine zc_v (wc := [(y0, .inr (1, [.ref yk, .ref yb, .ref yo, .ref ys, .ref yl, .int v5, .int v6, .int v7, .int v8])), (yb, .inl (dyb, 16, .inl fb))]) (wr := [(xk, .inl (dxk, 32, .inl fk)), (xo, .inl (dxo, 16, .inl fo)), (yk, .inl (dyk, 32, .inl fk)), (yo, .inl (dyo, 16, .inl fo)), (ys, .inl (dys, 44, .inl fs)), (yl, .inl (dyl, 8, .inl fl)), (x0, .inr (0, [.ref xk, .ref xb, .ref xo])), (xb, .inl (dxb, 16, .inl (rc_b (xs (6 * k + 1)) (xs (6 * k + 2)) (xs (6 * k + 3)) (xs (6 * k + 4)))))]) hP hD hS hA [2, 4] [0, 1, 3, 5, 6, 7, 8, 9] rfl rfl rfl (by decide) (va_runV (As := [.int (xs (6 * k + 1)), .int (xs (6 * k + 2)), .int (xs (6 * k + 3)), .int (xs (6 * k + 4))]) (rest := []) ⟨hx, hb, hml, hown, hts⟩ (met_X1_block l dC dI _ y0 yk yb yo ys yl v5 v6 v7 v8 dyb fb (xs (6 * k + 1)) (xs (6 * k + 2)) (xs (6 * k + 3)) (xs (6 * k + 4))) (cwV 4 hts (lw_V q366 q367 q368 q14 q369) rfl rfl rfl (by decide +kernel) ⟨Nat.le_of_ble_eq_true rfl, Nat.le_of_ble_eq_true rfl⟩) ⟨zw_blind, va_recv hK hP (ci := 1) (q0 := 2) rfl rfl, zw_mk hP hD hK [2, 4] [4] rfl rfl rfl rfl⟩ rfl rfl hl.1 rfl (lv_room (Nat.le_of_ble_eq_true rfl)) dL_law_178 ⟨by show 10 + 6 * k + 0 ≤ 600096; omega, by show 192 + 119 * k + 0 ≤ 7301386; omega⟩) (fun _ H locs _ hP hD hK1 hS => ?_)
        have hP : va_P (dC, dI) vwCl [(xk, .inl (dxk, 32, .inl fk)), (xo, .inl (dxo, 16, .inl fo)), (yk, .inl (dyk, 32, .inl fk)), (yo, .inl (dyo, 16, .inl fo)), (ys, .inl (dys, 44, .inl fs)), (yl, .inl (dyl, 8, .inl fl)), (x0, .inr (0, [.ref xk, .ref xb, .ref xo])), (xb, .inl (dxb, 16, .inl (rc_b (xs (6 * k + 1)) (xs (6 * k + 2)) (xs (6 * k + 3)) (xs (6 * k + 4))))), (y0, .inr (1, [.ref yk, .ref yb, .ref yo, .ref ys, .ref yl, .int v5, .int v6, .int v7, .int v8])), (yb, .inl (dyb, 16, .inl (rc_b (xs (6 * k + 1)) (xs (6 * k + 2)) (xs (6 * k + 3)) (xs (6 * k + 4)))))] H := hP
        have hD : va_D A [(xk, .inl (dxk, 32, .inl fk)), (xo, .inl (dxo, 16, .inl fo)), (yk, .inl (dyk, 32, .inl fk)), (yo, .inl (dyo, 16, .inl fo)), (ys, .inl (dys, 44, .inl fs)), (yl, .inl (dyl, 8, .inl fl)), (x0, .inr (0, [.ref xk, .ref xb, .ref xo])), (xb, .inl (dxb, 16, .inl (rc_b (xs (6 * k + 1)) (xs (6 * k + 2)) (xs (6 * k + 3)) (xs (6 * k + 4))))), (y0, .inr (1, [.ref yk, .ref yb, .ref yo, .ref ys, .ref yl, .int v5, .int v6, .int v7, .int v8])), (yb, .inl (dyb, 16, .inl (rc_b (xs (6 * k + 1)) (xs (6 * k + 2)) (xs (6 * k + 3)) (xs (6 * k + 4)))))] := hD
        refine lv_goto (tgt := 260) hx hb dL_law_181 (by decide) ?_
        refine lv_iinc (v := (nI (6 * (k + 1)))) (lv' := [(3, .int (nI (6 * (k + 1)))), (0, .ref b), (1, .ref x0), (2, .ref y0)]) hx hb dL_law_260 hl (k := 3) rfl ((zi_p6 _).trans (congrArg nI (by omega))) (by decide) rfl (fun ls hl => ?_)
        refine lv_goto (tgt := 18) hx hb dL_law_263 (by decide) ?_
        refine W.widen (k := 10 + 6 * (k + 1)) (n := 192 + 119 * (k + 1)) (by omega) (by omega) ?_
        exact ih (k + 1) (by omega) (by omega) fk (rc_b (xs (6 * k + 1)) (xs (6 * k + 2)) (xs (6 * k + 3)) (xs (6 * k + 4))) fo fs fl v5 v6 v7 v8 hfk hfo H locs (hP.sub [6, 0, 7, 1, 8, 2, 9, 3, 4, 5] rfl) (hD.sub [6, 0, 7, 1, 8, 2, 9, 3, 4, 5] (by decide) rfl) hS ls (lv_sub hl [1, 2, 3, 0] rfl)
      · refine zt (nI 2) ej ?_
        refine lv_tableIn (off := 151) (tgt := 184) hx hb dL_law_33 (by decide +kernel) (by decide +kernel) (by decide +kernel) (by decide) ?_
        refine lv_aload_n hx hb dL_law_184 rfl (lv_at hl 1 rfl) ?_
        refine lv_aload_n hx hb dL_law_185 rfl (lv_at hl 0 rfl) ?_
        refine lv_iload_n hx hb dL_law_186 rfl (lv_at hl 3 rfl) ?_
        refine lv_iconst (v := 1) hx hb dL_law_187 (by decide) ?_
        refine lv_iadd hx hb dL_law_188 ?_
        refine zz_sld hx hb hX hbl hbA hS (6 * k + 1) (nI_add _ 1) (by omega) (by omega) dL_law_189 ?_
        refine zc_v (wc := [(x0, .inr (0, [.ref xk, .ref xb, .ref xo])), (xk, .inl (dxk, 32, .inl fk)), (xb, .inl (dxb, 16, .inl fb)), (xo, .inl (dxo, 16, .inl fo))]) (wr := [(y0, .inr (1, [.ref yk, .ref yb, .ref yo, .ref ys, .ref yl, .int v5, .int v6, .int v7, .int v8])), (yk, .inl (dyk, 32, .inl fk)), (yb, .inl (dyb, 16, .inl fb)), (yo, .inl (dyo, 16, .inl fo)), (ys, .inl (dys, 44, .inl fs)), (yl, .inl (dyl, 8, .inl fl))]) hP hD hS hA [0, 1, 2, 3] [4, 5, 6, 7, 8, 9] rfl rfl rfl (by decide) (va_runV (As := [.int (xs (6 * k + 1))]) (rest := []) ⟨hx, hb, hml, hown, hts⟩ (met_X0_lock l dC dI _ x0 xk xb xo dxk dxb dxo fk fb fo (xs (6 * k + 1)) hfk) (cwV 1 hts (lw_V q56 q57 q58 q13 q59) rfl rfl rfl (by decide +kernel) ⟨Nat.le_of_ble_eq_true rfl, Nat.le_of_ble_eq_true rfl⟩) ⟨zf_blind, va_recv hK hP (ci := 0) (q0 := 0) rfl rfl, zf_mk hP hD hK [0, 1, 2, 3] [0, 1, 2] rfl rfl rfl rfl hF⟩ rfl rfl hl.1 rfl (lv_room (Nat.le_of_ble_eq_true rfl)) dL_law_190 ⟨by show 10 + 6 * k + 6 ≤ 600096; omega, by show 192 + 119 * k + 119 ≤ 7301386; omega⟩) (fun _ H locs _ hP hD hK1 hS => ?_)
        have hP : va_P (dC, dI) vwCl [(y0, .inr (1, [.ref yk, .ref yb, .ref yo, .ref ys, .ref yl, .int v5, .int v6, .int v7, .int v8])), (yk, .inl (dyk, 32, .inl fk)), (yb, .inl (dyb, 16, .inl fb)), (yo, .inl (dyo, 16, .inl fo)), (ys, .inl (dys, 44, .inl fs)), (yl, .inl (dyl, 8, .inl fl)), (x0, .inr (0, [.ref xk, .ref xb, .ref xo])), (xk, .inl (dxk, 32, .inl fk)), (xb, .inl (dxb, 16, .inl fb)), (xo, .inl (dxo, 16, .inl (rc_run 1 (rc_S (rc_c (xs (6 * k + 1))) fk) fb)))] H := hP
        have hD : va_D A [(y0, .inr (1, [.ref yk, .ref yb, .ref yo, .ref ys, .ref yl, .int v5, .int v6, .int v7, .int v8])), (yk, .inl (dyk, 32, .inl fk)), (yb, .inl (dyb, 16, .inl fb)), (yo, .inl (dyo, 16, .inl fo)), (ys, .inl (dys, 44, .inl fs)), (yl, .inl (dyl, 8, .inl fl)), (x0, .inr (0, [.ref xk, .ref xb, .ref xo])), (xk, .inl (dxk, 32, .inl fk)), (xb, .inl (dxb, 16, .inl fb)), (xo, .inl (dxo, 16, .inl (rc_run 1 (rc_S (rc_c (xs (6 * k + 1))) fk) fb)))] := hD
        have hP := zz_ext hP 9 rfl (g := rc_o (rc_enc (rc_S (rc_c (xs (6 * k + 1))) fk) fb)) (fun j _ => by unfold rc_run; rw [if_neg (by decide +kernel)])
        have hD : va_D A [(y0, .inr (1, [.ref yk, .ref yb, .ref yo, .ref ys, .ref yl, .int v5, .int v6, .int v7, .int v8])), (yk, .inl (dyk, 32, .inl fk)), (yb, .inl (dyb, 16, .inl fb)), (yo, .inl (dyo, 16, .inl fo)), (ys, .inl (dys, 44, .inl fs)), (yl, .inl (dyl, 8, .inl fl)), (x0, .inr (0, [.ref xk, .ref xb, .ref xo])), (xk, .inl (dxk, 32, .inl fk)), (xb, .inl (dxb, 16, .inl fb)), (xo, .inl (dxo, 16, .inl (rc_o (rc_enc (rc_S (rc_c (xs (6 * k + 1))) fk) fb))))] := hD.set (p := 9) rfl
        refine lv_aload_n hx hb dL_law_193 rfl (lv_at hl 2 rfl) ?_
        refine lv_aload_n hx hb dL_law_194 rfl (lv_at hl 0 rfl) ?_
        refine lv_iload_n hx hb dL_law_195 rfl (lv_at hl 3 rfl) ?_
        refine lv_iconst (v := 1) hx hb dL_law_196 (by decide) ?_
        refine lv_iadd hx hb dL_law_197 ?_
        refine zz_sld hx hb hX hbl hbA hS (6 * k + 1) (nI_add _ 1) (by omega) (by omega) dL_law_198 ?_
        refine zc_v (wc := [(y0, .inr (1, [.ref yk, .ref yb, .ref yo, .ref ys, .ref yl, .int v5, .int v6, .int v7, .int v8])), (yk, .inl (dyk, 32, .inl fk)), (yb, .inl (dyb, 16, .inl fb)), (yo, .inl (dyo, 16, .inl fo)), (ys, .inl (dys, 44, .inl fs)), (yl, .inl (dyl, 8, .inl fl))]) (wr := [(x0, .inr (0, [.ref xk, .ref xb, .ref xo])), (xk, .inl (dxk, 32, .inl fk)), (xb, .inl (dxb, 16, .inl fb)), (xo, .inl (dxo, 16, .inl (rc_o (rc_enc (rc_S (rc_c (xs (6 * k + 1))) fk) fb))))]) hP hD hS hA [0, 1, 2, 3, 4, 5] [6, 7, 8, 9] rfl rfl rfl (by decide) (va_runV (As := [.int (xs (6 * k + 1))]) (rest := []) ⟨hx, hb, hml, hown, hts⟩ (met_X1_lock l dC dI _ y0 yk yb yo ys yl v5 v6 v7 v8 dyk dyb dyo dys dyl fk fb fo fs fl (xs (6 * k + 1))) (cwV 1 hts (lw_V q325 q326 q327 q14 q328) rfl rfl rfl (by decide +kernel) ⟨Nat.le_of_ble_eq_true rfl, Nat.le_of_ble_eq_true rfl⟩) ⟨zw_blind, va_recv hK hP (ci := 1) (q0 := 0) rfl rfl, zw_mk hP hD hK [0, 1, 2, 3, 4, 5] [3, 4, 5, 6, 7] rfl rfl rfl rfl⟩ rfl rfl hl.1 rfl (lv_room (Nat.le_of_ble_eq_true rfl)) dL_law_199 ⟨by show 10 + 6 * k + 6 + 0 ≤ 600096; omega, by show 192 + 119 * k + 119 + 0 ≤ 7301386; omega⟩) (fun u H locs _ hP hD hK1 hS => ?_)
        obtain ⟨⟨w5, w6, w7, w8⟩, fl1⟩ := u
        have hP : va_P (dC, dI) vwCl [(x0, .inr (0, [.ref xk, .ref xb, .ref xo])), (xk, .inl (dxk, 32, .inl fk)), (xb, .inl (dxb, 16, .inl fb)), (xo, .inl (dxo, 16, .inl (rc_o (rc_enc (rc_S (rc_c (xs (6 * k + 1))) fk) fb)))), (y0, .inr (1, [.ref yk, .ref yb, .ref yo, .ref ys, .ref yl, .int w5, .int w6, .int w7, .int w8])), (yk, .inl (dyk, 32, .inl fk)), (yb, .inl (dyb, 16, .inl fb)), (yo, .inl (dyo, 16, .inl (rc_o (rc_enc (rc_S (rc_c (xs (6 * k + 1))) fk) fb)))), (ys, .inl (dys, 44, .inl (rc_S (rc_c (xs (6 * k + 1))) fk))), (yl, .inl (dyl, 8, .inl fl1))] H := hP
        have hD : va_D A [(x0, .inr (0, [.ref xk, .ref xb, .ref xo])), (xk, .inl (dxk, 32, .inl fk)), (xb, .inl (dxb, 16, .inl fb)), (xo, .inl (dxo, 16, .inl (rc_o (rc_enc (rc_S (rc_c (xs (6 * k + 1))) fk) fb)))), (y0, .inr (1, [.ref yk, .ref yb, .ref yo, .ref ys, .ref yl, .int w5, .int w6, .int w7, .int w8])), (yk, .inl (dyk, 32, .inl fk)), (yb, .inl (dyb, 16, .inl fb)), (yo, .inl (dyo, 16, .inl (rc_o (rc_enc (rc_S (rc_c (xs (6 * k + 1))) fk) fb)))), (ys, .inl (dys, 44, .inl (rc_S (rc_c (xs (6 * k + 1))) fk))), (yl, .inl (dyl, 8, .inl fl1))] := hD
        refine lv_goto (tgt := 260) hx hb dL_law_202 (by decide) ?_
        refine lv_iinc (v := (nI (6 * (k + 1)))) (lv' := [(3, .int (nI (6 * (k + 1)))), (0, .ref b), (1, .ref x0), (2, .ref y0)]) hx hb dL_law_260 hl (k := 3) rfl ((zi_p6 _).trans (congrArg nI (by omega))) (by decide) rfl (fun ls hl => ?_)
        refine lv_goto (tgt := 18) hx hb dL_law_263 (by decide) ?_
        refine W.widen (k := 10 + 6 * (k + 1)) (n := 192 + 119 * (k + 1)) (by omega) (by omega) ?_
        exact ih (k + 1) (by omega) (by omega) fk fb (rc_o (rc_enc (rc_S (rc_c (xs (6 * k + 1))) fk) fb)) (rc_S (rc_c (xs (6 * k + 1))) fk) fl1 w5 w6 w7 w8 hfk (rc_By_o _) H locs (hP.sub [0, 1, 2, 3, 4, 5, 6, 7, 8, 9] rfl) (hD.sub [0, 1, 2, 3, 4, 5, 6, 7, 8, 9] (by decide) rfl) hS ls (lv_sub hl [1, 2, 3, 0] rfl)
      · refine zt (nI 3) ej ?_
        refine lv_tableIn (off := 172) (tgt := 205) hx hb dL_law_33 (by decide +kernel) (by decide +kernel) (by decide +kernel) (by decide) ?_
        refine lv_aload_n hx hb dL_law_205 rfl (lv_at hl 1 rfl) ?_
        refine lv_aload_n hx hb dL_law_206 rfl (lv_at hl 0 rfl) ?_
        refine lv_iload_n hx hb dL_law_207 rfl (lv_at hl 3 rfl) ?_
        refine lv_iconst (v := 1) hx hb dL_law_208 (by decide) ?_
        refine lv_iadd hx hb dL_law_209 ?_
        refine zz_sld hx hb hX hbl hbA hS (6 * k + 1) (nI_add _ 1) (by omega) (by omega) dL_law_210 ?_
        refine zc_v (wc := [(x0, .inr (0, [.ref xk, .ref xb, .ref xo])), (xk, .inl (dxk, 32, .inl fk)), (xb, .inl (dxb, 16, .inl fb)), (xo, .inl (dxo, 16, .inl fo))]) (wr := [(y0, .inr (1, [.ref yk, .ref yb, .ref yo, .ref ys, .ref yl, .int v5, .int v6, .int v7, .int v8])), (yk, .inl (dyk, 32, .inl fk)), (yb, .inl (dyb, 16, .inl fb)), (yo, .inl (dyo, 16, .inl fo)), (ys, .inl (dys, 44, .inl fs)), (yl, .inl (dyl, 8, .inl fl))]) hP hD hS hA [0, 1, 2, 3] [4, 5, 6, 7, 8, 9] rfl rfl rfl (by decide) (va_runV (As := [.int (xs (6 * k + 1))]) (rest := []) ⟨hx, hb, hml, hown, hts⟩ (met_X0_open l dC dI _ x0 xk xb xo dxk dxb dxo fk fb fo (xs (6 * k + 1)) hfk) (cwV 1 hts (lw_V q279 q280 q281 q13 q282) rfl rfl rfl (by decide +kernel) ⟨Nat.le_of_ble_eq_true rfl, Nat.le_of_ble_eq_true rfl⟩) ⟨zf_blind, va_recv hK hP (ci := 0) (q0 := 0) rfl rfl, zf_mk hP hD hK [0, 1, 2, 3] [0, 1, 2] rfl rfl rfl rfl hF⟩ rfl rfl hl.1 rfl (lv_room (Nat.le_of_ble_eq_true rfl)) dL_law_211 ⟨by show 10 + 6 * k + 6 ≤ 600096; omega, by show 192 + 119 * k + 119 ≤ 7301386; omega⟩) (fun _ H locs _ hP hD hK1 hS => ?_)
        have hP : va_P (dC, dI) vwCl [(y0, .inr (1, [.ref yk, .ref yb, .ref yo, .ref ys, .ref yl, .int v5, .int v6, .int v7, .int v8])), (yk, .inl (dyk, 32, .inl fk)), (yb, .inl (dyb, 16, .inl fb)), (yo, .inl (dyo, 16, .inl fo)), (ys, .inl (dys, 44, .inl fs)), (yl, .inl (dyl, 8, .inl fl)), (x0, .inr (0, [.ref xk, .ref xb, .ref xo])), (xk, .inl (dxk, 32, .inl fk)), (xb, .inl (dxb, 16, .inl fb)), (xo, .inl (dxo, 16, .inl (rc_run 0 (rc_S (rc_c (xs (6 * k + 1))) fk) fb)))] H := hP
        have hD : va_D A [(y0, .inr (1, [.ref yk, .ref yb, .ref yo, .ref ys, .ref yl, .int v5, .int v6, .int v7, .int v8])), (yk, .inl (dyk, 32, .inl fk)), (yb, .inl (dyb, 16, .inl fb)), (yo, .inl (dyo, 16, .inl fo)), (ys, .inl (dys, 44, .inl fs)), (yl, .inl (dyl, 8, .inl fl)), (x0, .inr (0, [.ref xk, .ref xb, .ref xo])), (xk, .inl (dxk, 32, .inl fk)), (xb, .inl (dxb, 16, .inl fb)), (xo, .inl (dxo, 16, .inl (rc_run 0 (rc_S (rc_c (xs (6 * k + 1))) fk) fb)))] := hD
        have hP := zz_ext hP 9 rfl (g := rc_o (rc_dec (rc_S (rc_c (xs (6 * k + 1))) fk) fb)) (fun j _ => by unfold rc_run; rw [if_pos rfl])
        have hD : va_D A [(y0, .inr (1, [.ref yk, .ref yb, .ref yo, .ref ys, .ref yl, .int v5, .int v6, .int v7, .int v8])), (yk, .inl (dyk, 32, .inl fk)), (yb, .inl (dyb, 16, .inl fb)), (yo, .inl (dyo, 16, .inl fo)), (ys, .inl (dys, 44, .inl fs)), (yl, .inl (dyl, 8, .inl fl)), (x0, .inr (0, [.ref xk, .ref xb, .ref xo])), (xk, .inl (dxk, 32, .inl fk)), (xb, .inl (dxb, 16, .inl fb)), (xo, .inl (dxo, 16, .inl (rc_o (rc_dec (rc_S (rc_c (xs (6 * k + 1))) fk) fb))))] := hD.set (p := 9) rfl
        refine lv_aload_n hx hb dL_law_214 rfl (lv_at hl 2 rfl) ?_
        refine lv_aload_n hx hb dL_law_215 rfl (lv_at hl 0 rfl) ?_
        refine lv_iload_n hx hb dL_law_216 rfl (lv_at hl 3 rfl) ?_
        refine lv_iconst (v := 1) hx hb dL_law_217 (by decide) ?_
        refine lv_iadd hx hb dL_law_218 ?_
        refine zz_sld hx hb hX hbl hbA hS (6 * k + 1) (nI_add _ 1) (by omega) (by omega) dL_law_219 ?_
        refine zc_v (wc := [(y0, .inr (1, [.ref yk, .ref yb, .ref yo, .ref ys, .ref yl, .int v5, .int v6, .int v7, .int v8])), (yk, .inl (dyk, 32, .inl fk)), (yb, .inl (dyb, 16, .inl fb)), (yo, .inl (dyo, 16, .inl fo)), (ys, .inl (dys, 44, .inl fs)), (yl, .inl (dyl, 8, .inl fl))]) (wr := [(x0, .inr (0, [.ref xk, .ref xb, .ref xo])), (xk, .inl (dxk, 32, .inl fk)), (xb, .inl (dxb, 16, .inl fb)), (xo, .inl (dxo, 16, .inl (rc_o (rc_dec (rc_S (rc_c (xs (6 * k + 1))) fk) fb))))]) hP hD hS hA [0, 1, 2, 3, 4, 5] [6, 7, 8, 9] rfl rfl rfl (by decide) (va_runV (As := [.int (xs (6 * k + 1))]) (rest := []) ⟨hx, hb, hml, hown, hts⟩ (met_X1_open l dC dI _ y0 yk yb yo ys yl v5 v6 v7 v8 dyk dyb dyo dys dyl fk fb fo fs fl (xs (6 * k + 1))) (cwV 1 hts (lw_V q352 q353 q354 q14 q355) rfl rfl rfl (by decide +kernel) ⟨Nat.le_of_ble_eq_true rfl, Nat.le_of_ble_eq_true rfl⟩) ⟨zw_blind, va_recv hK hP (ci := 1) (q0 := 0) rfl rfl, zw_mk hP hD hK [0, 1, 2, 3, 4, 5] [3, 4, 5, 6, 7] rfl rfl rfl rfl⟩ rfl rfl hl.1 rfl (lv_room (Nat.le_of_ble_eq_true rfl)) dL_law_220 ⟨by show 10 + 6 * k + 6 + 0 ≤ 600096; omega, by show 192 + 119 * k + 119 + 0 ≤ 7301386; omega⟩) (fun u H locs _ hP hD hK1 hS => ?_)
        obtain ⟨⟨w5, w6, w7, w8⟩, fl1⟩ := u
        have hP : va_P (dC, dI) vwCl [(x0, .inr (0, [.ref xk, .ref xb, .ref xo])), (xk, .inl (dxk, 32, .inl fk)), (xb, .inl (dxb, 16, .inl fb)), (xo, .inl (dxo, 16, .inl (rc_o (rc_dec (rc_S (rc_c (xs (6 * k + 1))) fk) fb)))), (y0, .inr (1, [.ref yk, .ref yb, .ref yo, .ref ys, .ref yl, .int w5, .int w6, .int w7, .int w8])), (yk, .inl (dyk, 32, .inl fk)), (yb, .inl (dyb, 16, .inl fb)), (yo, .inl (dyo, 16, .inl (rc_o (rc_dec (rc_S (rc_c (xs (6 * k + 1))) fk) fb)))), (ys, .inl (dys, 44, .inl (rc_S (rc_c (xs (6 * k + 1))) fk))), (yl, .inl (dyl, 8, .inl fl1))] H := hP
        have hD : va_D A [(x0, .inr (0, [.ref xk, .ref xb, .ref xo])), (xk, .inl (dxk, 32, .inl fk)), (xb, .inl (dxb, 16, .inl fb)), (xo, .inl (dxo, 16, .inl (rc_o (rc_dec (rc_S (rc_c (xs (6 * k + 1))) fk) fb)))), (y0, .inr (1, [.ref yk, .ref yb, .ref yo, .ref ys, .ref yl, .int w5, .int w6, .int w7, .int w8])), (yk, .inl (dyk, 32, .inl fk)), (yb, .inl (dyb, 16, .inl fb)), (yo, .inl (dyo, 16, .inl (rc_o (rc_dec (rc_S (rc_c (xs (6 * k + 1))) fk) fb)))), (ys, .inl (dys, 44, .inl (rc_S (rc_c (xs (6 * k + 1))) fk))), (yl, .inl (dyl, 8, .inl fl1))] := hD
        refine lv_goto (tgt := 260) hx hb dL_law_223 (by decide) ?_
        refine lv_iinc (v := (nI (6 * (k + 1)))) (lv' := [(3, .int (nI (6 * (k + 1)))), (0, .ref b), (1, .ref x0), (2, .ref y0)]) hx hb dL_law_260 hl (k := 3) rfl ((zi_p6 _).trans (congrArg nI (by omega))) (by decide) rfl (fun ls hl => ?_)
        refine lv_goto (tgt := 18) hx hb dL_law_263 (by decide) ?_
        refine W.widen (k := 10 + 6 * (k + 1)) (n := 192 + 119 * (k + 1)) (by omega) (by omega) ?_
        exact ih (k + 1) (by omega) (by omega) fk fb (rc_o (rc_dec (rc_S (rc_c (xs (6 * k + 1))) fk) fb)) (rc_S (rc_c (xs (6 * k + 1))) fk) fl1 w5 w6 w7 w8 hfk (rc_By_o _) H locs (hP.sub [0, 1, 2, 3, 4, 5, 6, 7, 8, 9] rfl) (hD.sub [0, 1, 2, 3, 4, 5, 6, 7, 8, 9] (by decide) rfl) hS ls (lv_sub hl [1, 2, 3, 0] rfl)
      · refine zt (nI 4) ej ?_
        refine lv_tableIn (off := 193) (tgt := 226) hx hb dL_law_33 (by decide +kernel) (by decide +kernel) (by decide +kernel) (by decide) ?_
        refine lv_aload_n hx hb dL_law_226 rfl (lv_at hl 1 rfl) ?_
        refine zc_v (wc := [(x0, .inr (0, [.ref xk, .ref xb, .ref xo])), (xb, .inl (dxb, 16, .inl fb)), (xo, .inl (dxo, 16, .inl fo))]) (wr := [(xk, .inl (dxk, 32, .inl fk)), (y0, .inr (1, [.ref yk, .ref yb, .ref yo, .ref ys, .ref yl, .int v5, .int v6, .int v7, .int v8])), (yk, .inl (dyk, 32, .inl fk)), (yb, .inl (dyb, 16, .inl fb)), (yo, .inl (dyo, 16, .inl fo)), (ys, .inl (dys, 44, .inl fs)), (yl, .inl (dyl, 8, .inl fl))]) hP hD hS hA [0, 2, 3] [1, 4, 5, 6, 7, 8, 9] rfl rfl rfl (by decide) (va_runV (As := []) (rest := []) ⟨hx, hb, hml, hown, hts⟩ (met_X0_again l dC dI _ x0 xk xb xo dxb dxo fb fo hfo) (cwV 0 hts (lw_V q283 q284 q285 q13 q286) rfl rfl rfl (by decide +kernel) ⟨Nat.le_of_ble_eq_true rfl, Nat.le_of_ble_eq_true rfl⟩) ⟨zw_blind, va_recv hK hP (ci := 0) (q0 := 0) rfl rfl, zw_mk hP hD hK [0, 2, 3] [1, 2] rfl rfl rfl rfl⟩ rfl rfl hl.1 rfl (lv_room (Nat.le_of_ble_eq_true rfl)) dL_law_227 ⟨by show 10 + 6 * k + 0 ≤ 600096; omega, by show 192 + 119 * k + 0 ≤ 7301386; omega⟩) (fun _ H locs _ hP hD hK1 hS => ?_)
        have hP : va_P (dC, dI) vwCl [(xk, .inl (dxk, 32, .inl fk)), (y0, .inr (1, [.ref yk, .ref yb, .ref yo, .ref ys, .ref yl, .int v5, .int v6, .int v7, .int v8])), (yk, .inl (dyk, 32, .inl fk)), (yb, .inl (dyb, 16, .inl fb)), (yo, .inl (dyo, 16, .inl fo)), (ys, .inl (dys, 44, .inl fs)), (yl, .inl (dyl, 8, .inl fl)), (x0, .inr (0, [.ref xk, .ref xb, .ref xo])), (xb, .inl (dxb, 16, .inl fo)), (xo, .inl (dxo, 16, .inl fo))] H := hP
        have hD : va_D A [(xk, .inl (dxk, 32, .inl fk)), (y0, .inr (1, [.ref yk, .ref yb, .ref yo, .ref ys, .ref yl, .int v5, .int v6, .int v7, .int v8])), (yk, .inl (dyk, 32, .inl fk)), (yb, .inl (dyb, 16, .inl fb)), (yo, .inl (dyo, 16, .inl fo)), (ys, .inl (dys, 44, .inl fs)), (yl, .inl (dyl, 8, .inl fl)), (x0, .inr (0, [.ref xk, .ref xb, .ref xo])), (xb, .inl (dxb, 16, .inl fo)), (xo, .inl (dxo, 16, .inl fo))] := hD
        refine lv_aload_n hx hb dL_law_230 rfl (lv_at hl 2 rfl) ?_
        refine zc_v (wc := [(y0, .inr (1, [.ref yk, .ref yb, .ref yo, .ref ys, .ref yl, .int v5, .int v6, .int v7, .int v8])), (yb, .inl (dyb, 16, .inl fb)), (yo, .inl (dyo, 16, .inl fo))]) (wr := [(xk, .inl (dxk, 32, .inl fk)), (yk, .inl (dyk, 32, .inl fk)), (ys, .inl (dys, 44, .inl fs)), (yl, .inl (dyl, 8, .inl fl)), (x0, .inr (0, [.ref xk, .ref xb, .ref xo])), (xb, .inl (dxb, 16, .inl fo)), (xo, .inl (dxo, 16, .inl fo))]) hP hD hS hA [1, 3, 4] [0, 2, 5, 6, 7, 8, 9] rfl rfl rfl (by decide) (va_runV (As := []) (rest := []) ⟨hx, hb, hml, hown, hts⟩ (met_X1_again l dC dI _ y0 yk yb yo ys yl v5 v6 v7 v8 dyb dyo fb fo hfo) (cwV 0 hts (lw_V q370 q371 q372 q14 q373) rfl rfl rfl (by decide +kernel) ⟨Nat.le_of_ble_eq_true rfl, Nat.le_of_ble_eq_true rfl⟩) ⟨zw_blind, va_recv hK hP (ci := 1) (q0 := 1) rfl rfl, zw_mk hP hD hK [1, 3, 4] [4, 5] rfl rfl rfl rfl⟩ rfl rfl hl.1 rfl (lv_room (Nat.le_of_ble_eq_true rfl)) dL_law_231 ⟨by show 10 + 6 * k + 0 ≤ 600096; omega, by show 192 + 119 * k + 0 ≤ 7301386; omega⟩) (fun _ H locs _ hP hD hK1 hS => ?_)
        have hP : va_P (dC, dI) vwCl [(xk, .inl (dxk, 32, .inl fk)), (yk, .inl (dyk, 32, .inl fk)), (ys, .inl (dys, 44, .inl fs)), (yl, .inl (dyl, 8, .inl fl)), (x0, .inr (0, [.ref xk, .ref xb, .ref xo])), (xb, .inl (dxb, 16, .inl fo)), (xo, .inl (dxo, 16, .inl fo)), (y0, .inr (1, [.ref yk, .ref yb, .ref yo, .ref ys, .ref yl, .int v5, .int v6, .int v7, .int v8])), (yb, .inl (dyb, 16, .inl fo)), (yo, .inl (dyo, 16, .inl fo))] H := hP
        have hD : va_D A [(xk, .inl (dxk, 32, .inl fk)), (yk, .inl (dyk, 32, .inl fk)), (ys, .inl (dys, 44, .inl fs)), (yl, .inl (dyl, 8, .inl fl)), (x0, .inr (0, [.ref xk, .ref xb, .ref xo])), (xb, .inl (dxb, 16, .inl fo)), (xo, .inl (dxo, 16, .inl fo)), (y0, .inr (1, [.ref yk, .ref yb, .ref yo, .ref ys, .ref yl, .int v5, .int v6, .int v7, .int v8])), (yb, .inl (dyb, 16, .inl fo)), (yo, .inl (dyo, 16, .inl fo))] := hD
        refine lv_goto (tgt := 260) hx hb dL_law_234 (by decide) ?_
        refine lv_iinc (v := (nI (6 * (k + 1)))) (lv' := [(3, .int (nI (6 * (k + 1)))), (0, .ref b), (1, .ref x0), (2, .ref y0)]) hx hb dL_law_260 hl (k := 3) rfl ((zi_p6 _).trans (congrArg nI (by omega))) (by decide) rfl (fun ls hl => ?_)
        refine lv_goto (tgt := 18) hx hb dL_law_263 (by decide) ?_
        refine W.widen (k := 10 + 6 * (k + 1)) (n := 192 + 119 * (k + 1)) (by omega) (by omega) ?_
        exact ih (k + 1) (by omega) (by omega) fk fo fo fs fl v5 v6 v7 v8 hfk hfo H locs (hP.sub [4, 0, 5, 6, 7, 1, 8, 9, 2, 3] rfl) (hD.sub [4, 0, 5, 6, 7, 1, 8, 9, 2, 3] (by decide) rfl) hS ls (lv_sub hl [1, 2, 3, 0] rfl)
      · refine zt (nI 5) ej ?_
        refine lv_tableIn (off := 204) (tgt := 237) hx hb dL_law_33 (by decide +kernel) (by decide +kernel) (by decide +kernel) (by decide) ?_
        refine lv_aload_n hx hb dL_law_237 rfl (lv_at hl 1 rfl) ?_
        refine lv_aload_n hx hb dL_law_238 rfl (lv_at hl 0 rfl) ?_
        refine lv_iload_n hx hb dL_law_239 rfl (lv_at hl 3 rfl) ?_
        refine lv_iconst (v := 1) hx hb dL_law_240 (by decide) ?_
        refine lv_iadd hx hb dL_law_241 ?_
        refine zz_sld hx hb hX hbl hbA hS (6 * k + 1) (nI_add _ 1) (by omega) (by omega) dL_law_242 ?_
        refine vp_callSi (va_runV (As := [.int (xs (6 * k + 1))]) (rest := []) ⟨hx, hb, hml, hown, hts⟩ (met_X0_out l dC dI x0 xk xb xo dxo fo (xs (6 * k + 1))) (cwV 1 hts (lw_V q287 q288 q289 q13 q290) rfl rfl rfl (by decide +kernel) ⟨Nat.le_of_ble_eq_true rfl, Nat.le_of_ble_eq_true rfl⟩) ⟨zr_blind, va_recv hK hP (ci := 0) (q0 := 0) rfl rfl, zr_mk hP hK [0, 3] [2] rfl rfl⟩ rfl rfl hl.1 rfl (lv_room (Nat.le_of_ble_eq_true rfl)) dL_law_243 ⟨by show 10 + 6 * k + 0 ≤ 600096; omega, by show 192 + 119 * k + 0 ≤ 7301386; omega⟩).run (fun r1 hr1 => ?_)
        refine lv_aload_n hx hb dL_law_246 rfl (lv_at hl 2 rfl) ?_
        refine lv_aload_n hx hb dL_law_247 rfl (lv_at hl 0 rfl) ?_
        refine lv_iload_n hx hb dL_law_248 rfl (lv_at hl 3 rfl) ?_
        refine lv_iconst (v := 1) hx hb dL_law_249 (by decide) ?_
        refine lv_iadd hx hb dL_law_250 ?_
        refine zz_sld hx hb hX hbl hbA hS (6 * k + 1) (nI_add _ 1) (by omega) (by omega) dL_law_251 ?_
        refine vp_callSi (va_runV (As := [.int (xs (6 * k + 1))]) (rest := [.int r1]) ⟨hx, hb, hml, hown, hts⟩ (met_X1_out l dC dI y0 yk yb yo ys yl v5 v6 v7 v8 dyo fo (xs (6 * k + 1))) (cwV 1 hts (lw_V q374 q375 q376 q14 q377) rfl rfl rfl (by decide +kernel) ⟨Nat.le_of_ble_eq_true rfl, Nat.le_of_ble_eq_true rfl⟩) ⟨zr_blind, va_recv hK hP (ci := 1) (q0 := 4) rfl rfl, zr_mk hP hK [4, 7] [5] rfl rfl⟩ rfl rfl hl.1 rfl (lv_room (Nat.le_of_ble_eq_true rfl)) dL_law_252 ⟨by show 10 + 6 * k + 0 ≤ 600096; omega, by show 192 + 119 * k + 0 ≤ 7301386; omega⟩).run (fun r2 hr2 => ?_)
        refine lv_icmp_eq (tgt := 260) hx hb dL_law_255 (by decide) (fun _ => ?_) (fun c_ => absurd (hr1.trans hr2.symm) c_)
        refine lv_iinc (v := (nI (6 * (k + 1)))) (lv' := [(3, .int (nI (6 * (k + 1)))), (0, .ref b), (1, .ref x0), (2, .ref y0)]) hx hb dL_law_260 hl (k := 3) rfl ((zi_p6 _).trans (congrArg nI (by omega))) (by decide) rfl (fun ls hl => ?_)
        refine lv_goto (tgt := 18) hx hb dL_law_263 (by decide) ?_
        refine W.widen (k := 10 + 6 * (k + 1)) (n := 192 + 119 * (k + 1)) (by omega) (by omega) ?_
        exact ih (k + 1) (by omega) (by omega) fk fb fo fs fl v5 v6 v7 v8 hfk hfo H locs (hP.sub [0, 1, 2, 3, 4, 5, 6, 7, 8, 9] rfl) (hD.sub [0, 1, 2, 3, 4, 5, 6, 7, 8, 9] (by decide) rfl) hS ls (lv_sub hl [1, 2, 3, 0] rfl)
      · refine zt (nI 6) ej ?_
        refine lv_tableOut (tgt := 260) hx hb dL_law_33 (Or.inr (by decide +kernel)) (by decide) ?_
        refine lv_iinc (v := (nI (6 * (k + 1)))) (lv' := [(3, .int (nI (6 * (k + 1)))), (0, .ref b), (1, .ref x0), (2, .ref y0)]) hx hb dL_law_260 hl (k := 3) rfl ((zi_p6 _).trans (congrArg nI (by omega))) (by decide) rfl (fun ls hl => ?_)
        refine lv_goto (tgt := 18) hx hb dL_law_263 (by decide) ?_
        refine W.widen (k := 10 + 6 * (k + 1)) (n := 192 + 119 * (k + 1)) (by omega) (by omega) ?_
        exact ih (k + 1) (by omega) (by omega) fk fb fo fs fl v5 v6 v7 v8 hfk hfo H locs (hP.sub [0, 1, 2, 3, 4, 5, 6, 7, 8, 9] rfl) (hD.sub [0, 1, 2, 3, 4, 5, 6, 7, 8, 9] (by decide) rfl) hS ls (lv_sub hl [1, 2, 3, 0] rfl)
      · refine zt (nI 7) ej ?_
        refine lv_tableOut (tgt := 260) hx hb dL_law_33 (Or.inr (by decide +kernel)) (by decide) ?_
        refine lv_iinc (v := (nI (6 * (k + 1)))) (lv' := [(3, .int (nI (6 * (k + 1)))), (0, .ref b), (1, .ref x0), (2, .ref y0)]) hx hb dL_law_260 hl (k := 3) rfl ((zi_p6 _).trans (congrArg nI (by omega))) (by decide) rfl (fun ls hl => ?_)
        refine lv_goto (tgt := 18) hx hb dL_law_263 (by decide) ?_
        refine W.widen (k := 10 + 6 * (k + 1)) (n := 192 + 119 * (k + 1)) (by omega) (by omega) ?_
        exact ih (k + 1) (by omega) (by omega) fk fb fo fs fl v5 v6 v7 v8 hfk hfo H locs (hP.sub [0, 1, 2, 3, 4, 5, 6, 7, 8, 9] rfl) (hD.sub [0, 1, 2, 3, 4, 5, 6, 7, 8, 9] (by decide) rfl) hS ls (lv_sub hl [1, 2, 3, 0] rfl)
end
section
/-! THE CLAIM (whole_start printed by wip/gen/g19.py; what follows it is the skeleton's) -/
set_option maxHeartbeats 8000000 in
set_option maxRecDepth 100000 in
theorem whole_start {p : Program} {e : Env} {s : State} {m : MethodId} {below : List Frame} {meth : Method} {c : Code} (l : Launch) (hflags : l.flags = flags0) {b L : Nat} {xs : Nat → Int32} (hL : L ≤ 288) (C0 : lw_At p s m meth c b L xs) : W p l e room_1 s m #[Value.ref b] below meth c s.heap [] 0 0 (lw_Z below #[Value.ref b] s) (entryFrame m ([Value.ref b] : List Value).toArray 4) := by
  obtain ⟨hx, hb, hr, hml, hown, hts0, hX, hbl, hlocks, hgv⟩ := id C0
  have hts : ∀ w ∈ lw_all, w.before #[Value.ref b] s = true := fun w h => hts0 w (lw_all_tbl h)
  have hF : zf_W s := ⟨va_Fw.of (hts0 _ q102) (hts0 _ q101) (hts0 _ q107) (hts0 _ q105) (hts0 _ q103), va_Fw.of (hts0 _ q195) (hts0 _ q194) (hts0 _ q199) (hts0 _ q197) (hts0 _ q103)⟩
  obtain ⟨c0_, i0_, hKn0⟩ := u_known (C := RX0) (T := TX0) (N := 3) (n := 3) hts0 (fun w h => lw_all_tbl (in_X0 w h)) (hts0 _ (lw_all_tbl q27))
  obtain ⟨c1_, i1_, hKn1⟩ := u_known (C := RX1) (T := TX1) (N := 9) (n := 9) hts0 (fun w h => lw_all_tbl (in_X1 w h)) (hts0 _ (lw_all_tbl q292))
  obtain ⟨c2_, i2_, hKn2⟩ := u_known (C := RX2) (T := TX2) (N := 2) (n := 2) hts0 (fun w h => lw_all_tbl (in_X2 w h)) (hts0 _ (lw_all_tbl q68))
  obtain ⟨c3_, i3_, hKn3⟩ := u_known (C := RX3) (T := TX3) (N := 1) (n := 1) hts0 (fun w h => lw_all_tbl (in_X3 w h)) (hts0 _ (lw_all_tbl q81))
  obtain ⟨dC, dI, hKc⟩ : ∃ (dC : Nat → ClassId) (dI : Nat → Nat → Nat), ∀ (k : Nat) (q : vw_C), vwCl[k]? = some q → u_Kn s q.1 q.2.1 q.2.2 (dC k) (dI k) := by
    refine ⟨fun k => if k = 0 then c0_ else if k = 1 then c1_ else if k = 2 then c2_ else c3_, fun k => if k = 0 then i0_ else if k = 1 then i1_ else if k = 2 then i2_ else i3_, ?_⟩
    intro k q hq
    match k, hq with
    | 0, hq => cases hq; exact hKn0
    | 1, hq => cases hq; exact hKn1
    | 2, hq => cases hq; exact hKn2
    | 3, hq => cases hq; exact hKn3
    | k + 4, hq => simp [vwCl] at hq
  obtain ⟨A, hAe⟩ : ∃ A : Nat → Prop, A = fun q => s.heap.size ≤ q := ⟨_, rfl⟩
  have hA : ∀ q : Nat, s.heap.size ≤ q → A q := fun q h => by rw [hAe]; exact h
  have hAr : ∀ q : Nat, A q → s.heap.size ≤ q := fun q h => by rw [hAe] at h; exact h
  have hS : va_S A s.heap s.heap [] := va_S.rf
  have hK : va_K (dC, dI) vwCl [] s := ⟨hKc, fun k q h => by simp at h⟩
  have hP : va_P (dC, dI) vwCl [] s.heap := fun k q h => by simp at h
  have hD : va_D A [] := ⟨fun i j p q h => by simp at h, fun k q h => by simp at h⟩
  have hl := lv_entry ([.ref b]) (n := 4) (Nat.le_of_ble_eq_true rfl)
  rw [lg_entry_eq]
  generalize (lg_sl ([.ref b]) ++ List.replicate (4 - (lg_sl ([.ref b])).length) Slot.unset).toArray = ls at hl ⊢
  have hl : lv_has ls 4 [(0, .ref b)] := hl
  refine va_new (ci := 0) (fs := [.null, .null, .null]) (C := RX0) (T := TX0) (N := 3) hx hb hts in_X0 tyX0 tyX0_ok hown (hts _ q26) (hts _ q27) (hts _ q13) hK hP hD hS hA rfl (fun j hj => by rcases (show j = 0 ∨ j = 1 ∨ j = 2 by omega) with rfl | rfl | rfl <;> rfl) (Nat.le_of_ble_eq_true rfl) (Nat.le_of_ble_eq_true rfl) dL_law_0 (fun x0 H hP hD hS => ?_)
  have hP : va_P (dC, dI) vwCl [(x0, .inr (0, [.null, .null, .null]))] H := hP
  have hD : va_D A [(x0, .inr (0, [.null, .null, .null]))] := hD
  refine W.widen (k := 1) (n := 3) (Nat.le_of_ble_eq_true rfl) (Nat.le_of_ble_eq_true rfl) ?_
  refine lv_dup hx hb dL_law_3 rfl ?_
  refine zc_v (wc := [(x0, .inr (0, [.null, .null, .null]))]) (wr := []) hP hD hS hA [0] [] rfl rfl rfl (by decide) (va_runI (As := []) (rest := [.ref x0]) ⟨hx, hb, hml, hown, hts⟩ (met_X0_init l dC dI _ x0) (cwI 0 hts (lw_meth q30) rfl rfl rfl (hts _ q13) (hts _ q28) (hts _ q29) rfl (by decide +kernel) ⟨Nat.le_of_ble_eq_true rfl, Nat.le_of_ble_eq_true rfl⟩) ⟨zw_blind, zw_mk hP hD hK [0] [] rfl rfl rfl rfl⟩ rfl rfl hl.1 rfl (lv_room (Nat.le_of_ble_eq_true rfl)) dL_law_4 ⟨Nat.le_of_ble_eq_true rfl, Nat.le_of_ble_eq_true rfl⟩) (fun u H locs _ hP hD hK1 hS => ?_)
  obtain ⟨xk, xb, xo, dxk, dxb, dxo⟩ := u
  have hK := hK.app hK1
  have hP : va_P (dC, dI) vwCl [(x0, .inr (0, [.ref xk, .ref xb, .ref xo])), (xk, .inl (dxk, 32, .inl (fun _ => 0))), (xb, .inl (dxb, 16, .inl (fun _ => 0))), (xo, .inl (dxo, 16, .inl (fun _ => 0)))] H := hP
  have hD : va_D A [(x0, .inr (0, [.ref xk, .ref xb, .ref xo])), (xk, .inl (dxk, 32, .inl (fun _ => 0))), (xb, .inl (dxb, 16, .inl (fun _ => 0))), (xo, .inl (dxo, 16, .inl (fun _ => 0)))] := hD
  have hK : va_K (dC, dI) vwCl [(dxk, .byte), (dxb, .byte), (dxo, .byte)] s := hK
  refine W.widen (k := 4) (n := 67) (Nat.le_of_ble_eq_true rfl) (Nat.le_of_ble_eq_true rfl) ?_
  refine lv_astore_n (lv' := [(1, .ref x0), (0, .ref b)]) hx hb dL_law_7 rfl hl (by decide) rfl (fun ls hl => ?_)
  refine va_new (ci := 1) (fs := [.null, .null, .null, .null, .null, .int 0, .int 0, .int 0, .int 0]) (C := RX1) (T := TX1) (N := 9) hx hb hts in_X1 tyX1 tyX1_ok hown (hts _ q291) (hts _ q292) (hts _ q14) hK hP hD hS hA rfl (fun j hj => by rcases (show j = 0 ∨ j = 1 ∨ j = 2 ∨ j = 3 ∨ j = 4 ∨ j = 5 ∨ j = 6 ∨ j = 7 ∨ j = 8 by omega) with rfl | rfl | rfl | rfl | rfl | rfl | rfl | rfl | rfl <;> rfl) (Nat.le_of_ble_eq_true rfl) (Nat.le_of_ble_eq_true rfl) dL_law_8 (fun y0 H hP hD hS => ?_)
  have hP : va_P (dC, dI) vwCl [(x0, .inr (0, [.ref xk, .ref xb, .ref xo])), (xk, .inl (dxk, 32, .inl (fun _ => 0))), (xb, .inl (dxb, 16, .inl (fun _ => 0))), (xo, .inl (dxo, 16, .inl (fun _ => 0))), (y0, .inr (1, [.null, .null, .null, .null, .null, .int 0, .int 0, .int 0, .int 0]))] H := hP
  have hD : va_D A [(x0, .inr (0, [.ref xk, .ref xb, .ref xo])), (xk, .inl (dxk, 32, .inl (fun _ => 0))), (xb, .inl (dxb, 16, .inl (fun _ => 0))), (xo, .inl (dxo, 16, .inl (fun _ => 0))), (y0, .inr (1, [.null, .null, .null, .null, .null, .int 0, .int 0, .int 0, .int 0]))] := hD
  refine W.widen (k := 5) (n := 76) (Nat.le_of_ble_eq_true rfl) (Nat.le_of_ble_eq_true rfl) ?_
  refine lv_dup hx hb dL_law_11 rfl ?_
  refine zc_v (wc := [(y0, .inr (1, [.null, .null, .null, .null, .null, .int 0, .int 0, .int 0, .int 0]))]) (wr := [(x0, .inr (0, [.ref xk, .ref xb, .ref xo])), (xk, .inl (dxk, 32, .inl (fun _ => 0))), (xb, .inl (dxb, 16, .inl (fun _ => 0))), (xo, .inl (dxo, 16, .inl (fun _ => 0)))]) hP hD hS hA [4] [0, 1, 2, 3] rfl rfl rfl (by decide) (va_runI (As := []) (rest := [.ref y0]) ⟨hx, hb, hml, hown, hts⟩ (met_X1_init l dC dI _ y0) (cwI 0 hts (lw_meth q295) rfl rfl rfl (hts _ q14) (hts _ q293) (hts _ q294) rfl (by decide +kernel) ⟨Nat.le_of_ble_eq_true rfl, Nat.le_of_ble_eq_true rfl⟩) ⟨zw_blind, zw_mk hP hD hK [4] [] rfl rfl rfl rfl⟩ rfl rfl hl.1 rfl (lv_room (Nat.le_of_ble_eq_true rfl)) dL_law_12 ⟨Nat.le_of_ble_eq_true rfl, Nat.le_of_ble_eq_true rfl⟩) (fun u H locs _ hP hD hK1 hS => ?_)
  obtain ⟨yk, yb, yo, ys, yl, dyk, dyb, dyo, dys, dyl⟩ := u
  have hK := hK.app hK1
  have hP : va_P (dC, dI) vwCl [(x0, .inr (0, [.ref xk, .ref xb, .ref xo])), (xk, .inl (dxk, 32, .inl (fun _ => 0))), (xb, .inl (dxb, 16, .inl (fun _ => 0))), (xo, .inl (dxo, 16, .inl (fun _ => 0))), (y0, .inr (1, [.ref yk, .ref yb, .ref yo, .ref ys, .ref yl, .int 0, .int 0, .int 0, .int 0])), (yk, .inl (dyk, 32, .inl (fun _ => 0))), (yb, .inl (dyb, 16, .inl (fun _ => 0))), (yo, .inl (dyo, 16, .inl (fun _ => 0))), (ys, .inl (dys, 44, .inl (fun _ => 0))), (yl, .inl (dyl, 8, .inl (fun _ => 0)))] H := hP
  have hD : va_D A [(x0, .inr (0, [.ref xk, .ref xb, .ref xo])), (xk, .inl (dxk, 32, .inl (fun _ => 0))), (xb, .inl (dxb, 16, .inl (fun _ => 0))), (xo, .inl (dxo, 16, .inl (fun _ => 0))), (y0, .inr (1, [.ref yk, .ref yb, .ref yo, .ref ys, .ref yl, .int 0, .int 0, .int 0, .int 0])), (yk, .inl (dyk, 32, .inl (fun _ => 0))), (yb, .inl (dyb, 16, .inl (fun _ => 0))), (yo, .inl (dyo, 16, .inl (fun _ => 0))), (ys, .inl (dys, 44, .inl (fun _ => 0))), (yl, .inl (dyl, 8, .inl (fun _ => 0)))] := hD
  have hK : va_K (dC, dI) vwCl [(dxk, .byte), (dxb, .byte), (dxo, .byte), (dyk, .byte), (dyb, .byte), (dyo, .byte), (dys, .int), (dyl, .int)] s := hK
  refine W.widen (k := 10 + 6 * 0) (n := 192 + 119 * 0) (Nat.le_of_ble_eq_true rfl) (Nat.le_of_ble_eq_true rfl) ?_
  refine lv_astore_n (lv' := [(2, .ref y0), (1, .ref x0), (0, .ref b)]) hx hb dL_law_15 rfl hl (by decide) rfl (fun ls hl => ?_)
  refine lv_iconst (v := (nI (6 * 0))) hx hb dL_law_16 (by decide) ?_
  refine lv_istore_n (lv' := [(3, .int (nI (6 * 0))), (2, .ref y0), (1, .ref x0), (0, .ref b)]) hx hb dL_law_17 rfl hl (by decide) rfl (fun ls hl => ?_)
  exact law_loop l hL C0 hF dC dI A hA hAr x0 xk xb xo y0 yk yb yo ys yl dxk dxb dxo dyk dyb dyo dys dyl hK 49 0 (by omega) (by omega) (fun _ => 0) (fun _ => 0) (fun _ => 0) (fun _ => 0) (fun _ => 0) 0 0 0 0 rc_By_0 rc_By_0 H locs (hP.sub [0, 1, 2, 3, 4, 5, 6, 7, 8, 9] rfl) (hD.sub [0, 1, 2, 3, 4, 5, 6, 7, 8, 9] (by decide) rfl) hS ls (lv_sub hl [3, 2, 1, 0] rfl)
set_option maxHeartbeats 4000000 in
theorem lw_walk (l : Launch) (hflags : l.flags = flags0) (b : Addr) (xs : List Int32) : MetFree l x (headSpec (Jvm.Cond.code x code maxLocals ret :: tables_1) room_1) (lw_P b xs) (fun _ _ _ _ _ => True) lw_Q := by
  refine MetFree.of_bodyS (code := code) (maxLocals := maxLocals) (ret := ret) (by decide) ?_ ?_
  · intro args s m h hn
    obtain ⟨meth, c, h1, h2, h3, h4, h5, h6, -, -⟩ := Cond.code_spec hn (atoms_spec (ws := Jvm.Cond.code x code maxLocals ret :: tables_1) h _ List.mem_cons_self)
    exact ⟨meth, c, h1, h2, h3, h4, h5, h6⟩
  · intro p e s m args below meth c s₁ B hml0 hP _
    obtain ⟨rfl, hx, hbd, hgv⟩ := hP
    obtain ⟨scr, harrAt, hlist, hof, hsmall⟩ := hx
    obtain ⟨hcb, hkn, -, -⟩ := State.arrayAt?_spec harrAt
    have hown : s.vm.findClass R_law = some m.cls := findClass_of_methodNamed B.named
    have hts0 : ∀ c ∈ (Jvm.Cond.code x code maxLocals ret :: tables_1), c.before #[Value.ref b] s = true := atoms_spec (ws := Jvm.Cond.code x code maxLocals ret :: tables_1) B.pre
    have hts : ∀ w ∈ lw_tbl, w.before #[Value.ref b] s = true := k2_hts_sels lw_privs (fun w hw => hts0 w (List.mem_cons_of_mem _ hw)) lw_privs_ok
    have hml : c.maxLocals = 4 := B.maxLocals_eq (hts0 _ List.mem_cons_self)
    have X₀ : Stand p l e room_1 s m #[Value.ref b] below meth c s₁ [] 0 0 := Stand.of_body B
    have hh0 : s₁.heap = s.heap := by rw [B.state]; rfl
    have hsz : scr.slots.size = xs.length := by rw [← Array.length_toList, hlist, List.length_map]
    have hval : ∀ j : Nat, j < xs.length → scr.slots[j]? = some (.int (xs.getD j 0)) := fun j hj => by
      rw [← Array.getElem?_toList, hlist]
      simp [hj]
    have hbl : b < s.heap.size := (Array.getElem?_eq_some_iff.mp hcb).1
    have hX : va_X b xs.length (fun j => xs.getD j 0) s s.heap := ⟨scr, hcb, hof, hkn, hsz, hval⟩
    have K : W p l e room_1 s m #[Value.ref b] below meth c s₁.heap [] 0 0 (lw_Z below #[Value.ref b] s) (entryFrame m ([Value.ref b] : List Value).toArray 4) := by
      rw [hh0]
      exact whole_start l hflags hbd ⟨B.exec, B.bytes, B.returns, hml, hown, hts, hX, hbl, B.notSynchronized, hgv⟩
    obtain ⟨t, a1, o, b1, b2, b3⟩ := K s₁ rfl X₀
    exact ⟨t, o, a1, b1, b2, b3⟩
theorem lw_pre_spec {args : Array Value} {s : State} (h : (Jvm.Cond.and given_1 narrow_1).before args s = true) (hr : rest_1_c.before args s = true) : ∃ (b : Addr) (xs : List Int32), lw_P b xs args s := by
  have hs := flat_of_before _ h
  have hq := flat_of_before _ hr
  have hc : (Cond.count 1).before args s = true := hs _ (by decide +kernel)
  have harr : (Cond.arrayOf (.arg 0) .int).before args s = true := hs _ (by decide +kernel)
  have hle : (Cond.le (.length (.arg 0)) (.int 288)).before args s = true := hs _ (by decide +kernel)
  have hlen : (Cond.isInt (.length (.arg 0))).before args s = true := hq _ (by decide +kernel)
  have hall : (Cond.all (.arg 0) (.isInt (.elem (.arg 0) (.index 0)))).before args s = true := hq _ (by decide +kernel)
  obtain ⟨b, xs, hb, hx⟩ := State.ints_of_pre rfl harr hlen hall
  have hsm : xs.length < 2 ^ 31 := hx.choose_spec.2.2.2
  have hev : (Term.length (.arg 0)).eval args s none [] s = some (.int xs.length.toInt32) := hx.length_eval hb
  have hv := Cond.le_ints hev (show (Term.int 288).eval args s none [] s = some (.int 288) from rfl)
  have hd : xs.length.toInt32 ≤ 288 := by
    simpa [Cond.before, Cond.holds, hv] using hle
  have hN : xs.length ≤ 288 := (Int32.ofNat_le_ofNat hsm (by decide)).mp (show Int32.ofNat xs.length ≤ Int32.ofNat 288 from hd)
  exact ⟨b, xs, Cond.one_arg hc (show args[0]? = some (.ref b) from hb), hx, hN, h⟩
theorem lw_comes (l : Launch) (hflags : l.flags = flags0) : Comes l x (Jvm.Cond.code x code maxLocals ret :: tables_1) room_1 (fun tb e args s => Calls_1 tb e args s ∧ rest_1 tb e args s ∧ Pre_1 tb e args s)
    (fun _ _ args s o t => lw_Q args s o t) := by
  intro p e ha hc hk s m args below hf hfit hheap happ hpre
  obtain ⟨b, xs, hP⟩ := lw_pre_spec hpre.2.2 hpre.2.1
  obtain ⟨k, o, h1, h2, h3, hQ⟩ := lw_walk l hflags b xs p e ha hc hk s m args below hf ((Spec.applies_iff_loose hf).mp happ).1 hP trivial
  exact ⟨k, o, h1, h2, h3, hQ⟩
theorem lw_frame {s t : State} {o : Outcome} {args : Array Value} (h : Framed s o t [] 600096 7301386) :
    Framed s o t (fieldLocs frame_1_writes args s ++ arrayLocs frame_1_arrays args s ++ staticLocs frame_1_statics s) 600096 7301386 := h
theorem lw_limb (L : Cond) (hL : ∀ (args : Array Value) (s t : State), L.after args s (.returned (some (.int 1))) t = true) :
    ArmFor flags0 classFile x code maxLocals ret World_1 tables_1 room_1 Calls_1 rest_1 Pre_1
      (fun tb e a s o t => postC L tb e a s o t ∧ Framed s o t (fieldLocs frame_1_writes a s ++ arrayLocs frame_1_arrays a s ++ staticLocs frame_1_statics s) 600096 7301386) := by
  intro l hflags _ _ p e ha hc hk s m args below hf hfit hheap happ hpre
  obtain ⟨k, o, h1, h2, h3, rfl, hF⟩ := lw_comes l hflags p e ha hc hk s m args below hf hfit hheap happ hpre
  exact ⟨k, _, h1, h2, h3, hL args s _, lw_frame hF⟩
theorem i_vc : Claimed_1_1 ∧ Claimed_1_2 := ⟨lw_limb limb_1_1 (fun args s t => by simp [limb_1_1, Cond.after, Cond.holds, Cond.value]), lw_limb limb_1_2 (fun args s t => Cond.after_iff.mpr (by
  first | (rw [show limb_1_2 = Cond.eq .result (.int 1) from rfl, Cond.eq_ints (x := 1) (y := 1) rfl rfl]; simp; done) | (simp [limb_1_2, Cond.value, Term.eval]; done)))⟩
end
