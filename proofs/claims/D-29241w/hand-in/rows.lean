section
-- ===== PART A: goes FIRST, ahead of the names: the tables' words, and 'selects' of the private methods out of them =====
/-- a private method of a class that the tables say can be made, by its rows of tables_1 -/
def lw_okq (q : MethodName × Nat) : Prop := (q.1.cls ≠ "java/lang/invoke/MethodHandle" ∧ q.1.cls ≠ "java/lang/invoke/VarHandle") ∧ Cond.instantiable q.1.cls q.2 ∈ tables_1 ∧ Cond.privateMethod q.1 ∈ tables_1 ∧ Cond.instanceMethod q.1 ∈ tables_1
set_option maxRecDepth 100000
theorem lw_p0 : lw_okq (⟨"SwapSortDesk", "from", "(I)I"⟩, 3) := ⟨⟨by decide +kernel, by decide +kernel⟩, List.mem_of_getElem? (i := 7) rfl, List.mem_of_getElem? (i := 59) rfl, List.mem_of_getElem? (i := 60) rfl⟩
theorem lw_p1 : lw_okq (⟨"SwapSortDesk", "to", "(II)I"⟩, 3) := ⟨⟨by decide +kernel, by decide +kernel⟩, List.mem_of_getElem? (i := 7) rfl, List.mem_of_getElem? (i := 63) rfl, List.mem_of_getElem? (i := 64) rfl⟩
theorem lw_p2 : lw_okq (⟨"SwapSortDeskModel", "order", "(II)V"⟩, 2) := ⟨⟨by decide +kernel, by decide +kernel⟩, List.mem_of_getElem? (i := 117) rfl, List.mem_of_getElem? (i := 155) rfl, List.mem_of_getElem? (i := 156) rfl⟩
theorem lw_p3 : lw_okq (⟨"SwapSortDeskModel", "before", "(II)Z"⟩, 2) := ⟨⟨by decide +kernel, by decide +kernel⟩, List.mem_of_getElem? (i := 117) rfl, List.mem_of_getElem? (i := 159) rfl, List.mem_of_getElem? (i := 160) rfl⟩
def lw_privs_1 : List (MethodName × Nat) := [(⟨"SwapSortDesk", "from", "(I)I"⟩, 3), (⟨"SwapSortDesk", "to", "(II)I"⟩, 3), (⟨"SwapSortDeskModel", "order", "(II)V"⟩, 2), (⟨"SwapSortDeskModel", "before", "(II)Z"⟩, 2)]
theorem lw_r1 : ∀ q ∈ lw_privs_1, lw_okq q := List.forall_mem_cons.mpr ⟨lw_p0, List.forall_mem_cons.mpr ⟨lw_p1, List.forall_mem_cons.mpr ⟨lw_p2, List.forall_mem_cons.mpr ⟨lw_p3, fun _ h => absurd h List.not_mem_nil⟩⟩⟩⟩
def lw_privs : List (MethodName × Nat) := lw_privs_1
def lw_tbl : List Cond := k2_sels lw_privs ++ tables_1
theorem lw_privs_ok : ∀ q ∈ lw_privs, lw_okq q := lw_r1
-- ===== ONE list of words for every method: the tables' words that hold all through a run =====
def lw_all : List Cond := lw_tbl.filter goodWord
/-- a word of the tables by its place: claim/WORDS.tsv -/
theorem lw_w {w : Cond} (i : Nat) (h : lw_tbl[i]? = some w) (g : goodWord w = true) : w ∈ lw_all := List.mem_filter.mpr ⟨List.mem_of_getElem? h, g⟩
theorem lw_all_tbl {w : Cond} (h : w ∈ lw_all) : w ∈ lw_tbl := (List.mem_filter.mp h).1
theorem lw_self : GoodIn lw_all lw_all := fun w h => ⟨h, good_of_word (List.mem_filter.mp h).2⟩
/-- a class's field words, by their places -/
theorem lw_in (ws : List Cond) (ps : List Nat) (hp : ws = ps.filterMap (fun i => lw_tbl[i]?)) (hg : ws.all goodWord = true) : ∀ w ∈ ws, w ∈ lw_all := by
  intro w h
  have h1 := List.all_eq_true.mp hg w h
  rw [hp] at h
  obtain ⟨i, -, hi⟩ := List.mem_filterMap.mp h
  exact lw_w i hi h1
/-- the words of a contract for the method y with code b, L locals, answer r -/
abbrev ws_ (y : MethodName) (b : ByteArray) (L : Nat) (r : Option FieldType) : List Cond := Cond.code y b L r :: lw_all
theorem lw_meth {y : MethodName} {b : ByteArray} {L : Nat} {r : Option FieldType} (h : Cond.code y b L r ∈ lw_all) : GoodIn lw_all (ws_ y b L r) := by
  intro w hw
  rcases List.mem_cons.mp hw with e | e
  · rw [e]
    exact lw_self _ h
  · exact lw_self _ e
theorem lw_app {a c : List Cond} (ha : ∀ w ∈ a, w ∈ lw_all) (hc : GoodIn lw_all c) : GoodIn lw_all (a ++ c) := by
  intro w hw
  rcases List.mem_append.mp hw with e | e
  · exact lw_self w (ha w e)
  · exact hc w e
/-- what a call through an object asks: cwV n hts (lw_V ..) -/
theorem lw_V {own : String} {idx : Nat} {C : String} {y : MethodName} {b : ByteArray} {L : Nat} {r : Option FieldType} (h1 : Cond.methodLink own idx y ∈ lw_all) (h2 : Cond.instanceMethod y ∈ lw_all) (h3 : Cond.selects C y y ∈ lw_all) (h4 : Cond.initialized C ∈ lw_all) (h5 : Cond.code y b L r ∈ lw_all) : GoodIn lw_all (wsV own idx C y (ws_ y b L r)) := by
  refine lw_app ?_ (lw_meth h5)
  intro w hw
  simp only [List.mem_cons, List.not_mem_nil, or_false] at hw
  rcases hw with e | e | e | e
  · rw [e]; exact h1
  · rw [e]; exact h2
  · rw [e]; exact h3
  · rw [e]; exact h4
/-- what a static call asks: va_cwS n hts (lw_S ..) -/
theorem lw_S {own : String} {idx : Nat} {y : MethodName} {b : ByteArray} {L : Nat} {r : Option FieldType} (h1 : Cond.methodLink own idx y ∈ lw_all) (h2 : Cond.static y ∈ lw_all) (h3 : Cond.initialized y.cls ∈ lw_all) (h4 : Cond.code y b L r ∈ lw_all) : GoodIn lw_all (va_wsS own idx y (ws_ y b L r)) := by
  refine lw_app ?_ (lw_meth h4)
  intro w hw
  simp only [List.mem_cons, List.not_mem_nil, or_false] at hw
  rcases hw with e | e | e
  · rw [e]; exact h1
  · rw [e]; exact h2
  · rw [e]; exact h3
/-- the words of a contract for a method WITH HANDLERS (hh: its table) -/
abbrev wsW_ (y : MethodName) (b : ByteArray) (L : Nat) (r : Option FieldType) (hh : List (Nat × Nat × Nat × Nat)) : List Cond := Cond.codeWith y b L r hh :: lw_all
theorem lw_methW {y : MethodName} {b : ByteArray} {L : Nat} {r : Option FieldType} {hh : List (Nat × Nat × Nat × Nat)} (h : Cond.codeWith y b L r hh ∈ lw_all) : GoodIn lw_all (wsW_ y b L r hh) := by
  intro w hw
  rcases List.mem_cons.mp hw with e | e
  · rw [e]
    exact lw_self _ h
  · exact lw_self _ e
/-- any list of words by their places (lw_in), good -/
theorem lw_good {ws : List Cond} (h : ∀ w ∈ ws, w ∈ lw_all) : GoodIn lw_all ws := fun w hw => lw_self w (h w hw)
/-- what a call of a method with handlers asks: vx_cwVW n hts (lw_VW ..), vx_cwSW n hts (lw_SW ..) -/
theorem lw_VW {own : String} {idx : Nat} {C : String} {y : MethodName} {b : ByteArray} {L : Nat} {r : Option FieldType} {hh : List (Nat × Nat × Nat × Nat)} (h1 : Cond.methodLink own idx y ∈ lw_all) (h2 : Cond.instanceMethod y ∈ lw_all) (h3 : Cond.selects C y y ∈ lw_all) (h4 : Cond.initialized C ∈ lw_all) (h5 : Cond.codeWith y b L r hh ∈ lw_all) : GoodIn lw_all (wsV own idx C y (wsW_ y b L r hh)) := by
  refine lw_app ?_ (lw_methW h5)
  intro w hw
  simp only [List.mem_cons, List.not_mem_nil, or_false] at hw
  rcases hw with e | e | e | e
  · rw [e]; exact h1
  · rw [e]; exact h2
  · rw [e]; exact h3
  · rw [e]; exact h4
theorem lw_SW {own : String} {idx : Nat} {y : MethodName} {b : ByteArray} {L : Nat} {r : Option FieldType} {hh : List (Nat × Nat × Nat × Nat)} (h1 : Cond.methodLink own idx y ∈ lw_all) (h2 : Cond.static y ∈ lw_all) (h3 : Cond.initialized y.cls ∈ lw_all) (h4 : Cond.codeWith y b L r hh ∈ lw_all) : GoodIn lw_all (va_wsS own idx y (wsW_ y b L r hh)) := by
  refine lw_app ?_ (lw_methW h4)
  intro w hw
  simp only [List.mem_cons, List.not_mem_nil, or_false] at hw
  rcases hw with e | e | e
  · rw [e]; exact h1
  · rw [e]; exact h2
  · rw [e]; exact h3
/-- a word by its place in its run of the tables -/
theorem lw_at {r : List Cond} (hr : ∀ w ∈ r, w ∈ lw_tbl) {w : Cond} (i : Nat) (h : r[i]? = some w) : w ∈ lw_tbl := hr w (List.mem_of_getElem? h)
theorem lw_g {w : Cond} (h : w ∈ lw_tbl) (g : goodWord w = true) : w ∈ lw_all := List.mem_filter.mpr ⟨h, g⟩
theorem lw_ms : ∀ w ∈ k2_sels lw_privs, w ∈ lw_tbl := fun w h => show w ∈ k2_sels lw_privs ++ tables_1 from List.mem_append_left _ h
theorem lw_m0 : ∀ w ∈ tables_1, w ∈ lw_tbl := fun w h => show w ∈ k2_sels lw_privs ++ tables_1 from List.mem_append_right (k2_sels lw_privs) h
theorem qs0 : (Cond.selects "SwapSortDesk" ⟨"SwapSortDesk", "from", "(I)I"⟩ ⟨"SwapSortDesk", "from", "(I)I"⟩) ∈ lw_all := lw_g (lw_at lw_ms 0 rfl) rfl
theorem qs1 : (Cond.selects "SwapSortDesk" ⟨"SwapSortDesk", "to", "(II)I"⟩ ⟨"SwapSortDesk", "to", "(II)I"⟩) ∈ lw_all := lw_g (lw_at lw_ms 1 rfl) rfl
theorem qs2 : (Cond.selects "SwapSortDeskModel" ⟨"SwapSortDeskModel", "order", "(II)V"⟩ ⟨"SwapSortDeskModel", "order", "(II)V"⟩) ∈ lw_all := lw_g (lw_at lw_ms 2 rfl) rfl
theorem qs3 : (Cond.selects "SwapSortDeskModel" ⟨"SwapSortDeskModel", "before", "(II)Z"⟩ ⟨"SwapSortDeskModel", "before", "(II)Z"⟩) ∈ lw_all := lw_g (lw_at lw_ms 3 rfl) rfl
-- ===== end of PART A; then your names; then what follows =====
/-! DECODE ROWS BY BYTES: one lemma an opcode; a method's code is cut into short pieces once, and a row reads its own piece alone. -/
set_option maxRecDepth 100000
/-- the code has just these bytes from pc on -/
def DkAt (code : ByteArray) (pc : Nat) (bs : List UInt8) : Prop := ∀ (j : Nat) (b : UInt8), bs[j]? = some b → code.data.toList[pc + j]? = some b
/-- the piece W has the bytes bs from its place j on -/
def dkIn (W : List UInt8) (j : Nat) (bs : List UInt8) : Bool := decide ((W.drop j).take bs.length = bs)
theorem dk_seg {l W T : List UInt8} {o o2 : Nat} (h : l.drop o = W ++ T) (n : Nat) (hn : W.length = n) (ho : o + n = o2) : l.drop o2 = T := by
  subst ho
  rw [← List.drop_drop, h, List.drop_left' hn]
theorem dk_at {code : ByteArray} {W T bs : List UInt8} {o pc : Nat} (h : code.data.toList.drop o = W ++ T) (j : Nat) (hp : o + j = pc) (hw : dkIn W j bs = true) : DkAt code pc bs := by
  subst hp
  intro i b e
  have h1 := of_decide_eq_true hw
  have h2 : i < bs.length := (List.getElem?_eq_some_iff.mp e).1
  have h3 : W[j + i]? = some b := by
    rw [← h1, List.getElem?_take, if_pos h2, List.getElem?_drop] at e
    exact e
  have h4 : j + i < W.length := (List.getElem?_eq_some_iff.mp h3).1
  have h5 : (code.data.toList.drop o)[j + i]? = some b := by
    rw [h, List.getElem?_append_left h4]
    exact h3
  rw [List.getElem?_drop, ← Nat.add_assoc] at h5
  exact h5
theorem dk_u1 {A : ByteArray} {p : Nat} {b : UInt8} (h : A.data.toList[p]? = some b) : (Reader.u1 : Reader DecodeError Nat) A p = .ok (b.toNat, p + 1) := by
  obtain ⟨h1, h2⟩ := List.getElem?_eq_some_iff.mp h
  have h3 : p < A.size := by simpa using h1
  have h4 : A[p]'h3 = b := h2
  have e : (Reader.u1 : Reader DecodeError Nat) A p = (if h : p < A.size then .ok (A[p].toNat, p + 1) else .error (HasTruncated.truncated p)) := by
    show (do if h : p < A.size then do set (p + 1); Pure.pure A[p].toNat else MonadExcept.throw (HasTruncated.truncated p) : Reader DecodeError Nat) A p = _
    by_cases hi : p < A.size
    · rw [dif_pos hi, dif_pos hi]; rfl
    · rw [dif_neg hi, dif_neg hi]; rfl
  rw [e, dif_pos h3, h4]
theorem dk_bind {α β : Type} {r : Reader DecodeError α} {f : α → Reader DecodeError β} {A : ByteArray} {p s : Nat} {a : α} (h : r A p = .ok (a, s)) : (r >>= f) A p = f a A s := by
  show (do let (a, s) ← r A p; f a A s : Except DecodeError (β × Nat)) = _
  rw [h]
  rfl
theorem dk_map {α β : Type} {r : Reader DecodeError α} {g : α → β} {A : ByteArray} {p s : Nat} {a : α} (h : r A p = .ok (a, s)) : (g <$> r) A p = .ok (g a, s) := by
  show (do let (a, s) ← r A p; .ok (g a, s) : Except DecodeError (β × Nat)) = _
  rw [h]
  rfl
theorem dk_u2 {A : ByteArray} {p : Nat} {a b : UInt8} (h : A.data.toList[p]? = some a) (h2 : A.data.toList[p + 1]? = some b) : (Reader.u2 : Reader DecodeError Nat) A p = .ok (a.toNat * 256 + b.toNat, p + 2) := by
  show (Reader.u1 >>= fun hi => Reader.u1 >>= fun lo => Pure.pure (hi * 256 + lo) : Reader DecodeError Nat) A p = _
  rw [dk_bind (dk_u1 h), dk_bind (dk_u1 h2)]
  rfl
theorem dk_of {code : ByteArray} {pc n : Nat} {i : Instr} (h : Decoder.instr pc code pc = .ok (i, pc + n)) : decode code pc = .ok (i, n) := by
  have e : decode code pc = (match Decoder.instr pc code pc with | .error x => .error x | .ok (j, s) => .ok (j, s - pc)) := by
    show (do let (j, s) ← Decoder.instr pc code pc; Pure.pure (j, s - pc) : Except DecodeError (Instr × Nat)) = _
    cases Decoder.instr pc code pc <;> rfl
  rw [e, h]
  show Except.ok (i, pc + n - pc) = _
  rw [Nat.add_sub_cancel_left]
theorem dk_2 {code : ByteArray} {pc : Nat} (h : DkAt code pc [2]) : decode code pc = .ok (.iconst (-1), 1) := dk_of ((dk_bind (dk_u1 (h 0 _ rfl))).trans rfl)
theorem dk_3 {code : ByteArray} {pc : Nat} (h : DkAt code pc [3]) : decode code pc = .ok (.iconst 0, 1) := dk_of ((dk_bind (dk_u1 (h 0 _ rfl))).trans rfl)
theorem dk_4 {code : ByteArray} {pc : Nat} (h : DkAt code pc [4]) : decode code pc = .ok (.iconst 1, 1) := dk_of ((dk_bind (dk_u1 (h 0 _ rfl))).trans rfl)
theorem dk_5 {code : ByteArray} {pc : Nat} (h : DkAt code pc [5]) : decode code pc = .ok (.iconst 2, 1) := dk_of ((dk_bind (dk_u1 (h 0 _ rfl))).trans rfl)
theorem dk_6 {code : ByteArray} {pc : Nat} (h : DkAt code pc [6]) : decode code pc = .ok (.iconst 3, 1) := dk_of ((dk_bind (dk_u1 (h 0 _ rfl))).trans rfl)
theorem dk_16 {code : ByteArray} {pc : Nat} (a : UInt8) (h : DkAt code pc [16, a]) : decode code pc = .ok (.bipush (Reader.signed 8 a.toNat), 2) := dk_of ((dk_bind (dk_u1 (h 0 _ rfl))).trans ((dk_bind (dk_map (dk_u1 (h 1 _ rfl)))).trans rfl))
theorem dk_17 {code : ByteArray} {pc : Nat} (a b : UInt8) (h : DkAt code pc [17, a, b]) : decode code pc = .ok (.sipush (Reader.signed 16 (a.toNat * 256 + b.toNat)), 3) := dk_of ((dk_bind (dk_u1 (h 0 _ rfl))).trans ((dk_bind (dk_map (dk_u2 (h 1 _ rfl) (h 2 _ rfl)))).trans rfl))
theorem dk_18 {code : ByteArray} {pc : Nat} (a : UInt8) (h : DkAt code pc [18, a]) : decode code pc = .ok (.ldc a.toNat, 2) := dk_of ((dk_bind (dk_u1 (h 0 _ rfl))).trans ((dk_bind (dk_u1 (h 1 _ rfl))).trans rfl))
theorem dk_21 {code : ByteArray} {pc : Nat} (a : UInt8) (h : DkAt code pc [21, a]) : decode code pc = .ok (.iload a.toNat, 2) := dk_of ((dk_bind (dk_u1 (h 0 _ rfl))).trans ((dk_bind (dk_u1 (h 1 _ rfl))).trans rfl))
theorem dk_25 {code : ByteArray} {pc : Nat} (a : UInt8) (h : DkAt code pc [25, a]) : decode code pc = .ok (.aload a.toNat, 2) := dk_of ((dk_bind (dk_u1 (h 0 _ rfl))).trans ((dk_bind (dk_u1 (h 1 _ rfl))).trans rfl))
theorem dk_26 {code : ByteArray} {pc : Nat} (h : DkAt code pc [26]) : decode code pc = .ok (.iload_n 0, 1) := dk_of ((dk_bind (dk_u1 (h 0 _ rfl))).trans rfl)
theorem dk_27 {code : ByteArray} {pc : Nat} (h : DkAt code pc [27]) : decode code pc = .ok (.iload_n 1, 1) := dk_of ((dk_bind (dk_u1 (h 0 _ rfl))).trans rfl)
theorem dk_28 {code : ByteArray} {pc : Nat} (h : DkAt code pc [28]) : decode code pc = .ok (.iload_n 2, 1) := dk_of ((dk_bind (dk_u1 (h 0 _ rfl))).trans rfl)
theorem dk_29 {code : ByteArray} {pc : Nat} (h : DkAt code pc [29]) : decode code pc = .ok (.iload_n 3, 1) := dk_of ((dk_bind (dk_u1 (h 0 _ rfl))).trans rfl)
theorem dk_42 {code : ByteArray} {pc : Nat} (h : DkAt code pc [42]) : decode code pc = .ok (.aload_n 0, 1) := dk_of ((dk_bind (dk_u1 (h 0 _ rfl))).trans rfl)
theorem dk_43 {code : ByteArray} {pc : Nat} (h : DkAt code pc [43]) : decode code pc = .ok (.aload_n 1, 1) := dk_of ((dk_bind (dk_u1 (h 0 _ rfl))).trans rfl)
theorem dk_44 {code : ByteArray} {pc : Nat} (h : DkAt code pc [44]) : decode code pc = .ok (.aload_n 2, 1) := dk_of ((dk_bind (dk_u1 (h 0 _ rfl))).trans rfl)
theorem dk_45 {code : ByteArray} {pc : Nat} (h : DkAt code pc [45]) : decode code pc = .ok (.aload_n 3, 1) := dk_of ((dk_bind (dk_u1 (h 0 _ rfl))).trans rfl)
theorem dk_46 {code : ByteArray} {pc : Nat} (h : DkAt code pc [46]) : decode code pc = .ok (.iaload, 1) := dk_of ((dk_bind (dk_u1 (h 0 _ rfl))).trans rfl)
theorem dk_54 {code : ByteArray} {pc : Nat} (a : UInt8) (h : DkAt code pc [54, a]) : decode code pc = .ok (.istore a.toNat, 2) := dk_of ((dk_bind (dk_u1 (h 0 _ rfl))).trans ((dk_bind (dk_u1 (h 1 _ rfl))).trans rfl))
theorem dk_59 {code : ByteArray} {pc : Nat} (h : DkAt code pc [59]) : decode code pc = .ok (.istore_n 0, 1) := dk_of ((dk_bind (dk_u1 (h 0 _ rfl))).trans rfl)
theorem dk_60 {code : ByteArray} {pc : Nat} (h : DkAt code pc [60]) : decode code pc = .ok (.istore_n 1, 1) := dk_of ((dk_bind (dk_u1 (h 0 _ rfl))).trans rfl)
theorem dk_62 {code : ByteArray} {pc : Nat} (h : DkAt code pc [62]) : decode code pc = .ok (.istore_n 3, 1) := dk_of ((dk_bind (dk_u1 (h 0 _ rfl))).trans rfl)
theorem dk_76 {code : ByteArray} {pc : Nat} (h : DkAt code pc [76]) : decode code pc = .ok (.astore_n 1, 1) := dk_of ((dk_bind (dk_u1 (h 0 _ rfl))).trans rfl)
theorem dk_77 {code : ByteArray} {pc : Nat} (h : DkAt code pc [77]) : decode code pc = .ok (.astore_n 2, 1) := dk_of ((dk_bind (dk_u1 (h 0 _ rfl))).trans rfl)
theorem dk_79 {code : ByteArray} {pc : Nat} (h : DkAt code pc [79]) : decode code pc = .ok (.iastore, 1) := dk_of ((dk_bind (dk_u1 (h 0 _ rfl))).trans rfl)
theorem dk_89 {code : ByteArray} {pc : Nat} (h : DkAt code pc [89]) : decode code pc = .ok (.dup, 1) := dk_of ((dk_bind (dk_u1 (h 0 _ rfl))).trans rfl)
theorem dk_96 {code : ByteArray} {pc : Nat} (h : DkAt code pc [96]) : decode code pc = .ok (.iadd, 1) := dk_of ((dk_bind (dk_u1 (h 0 _ rfl))).trans rfl)
theorem dk_100 {code : ByteArray} {pc : Nat} (h : DkAt code pc [100]) : decode code pc = .ok (.isub, 1) := dk_of ((dk_bind (dk_u1 (h 0 _ rfl))).trans rfl)
theorem dk_104 {code : ByteArray} {pc : Nat} (h : DkAt code pc [104]) : decode code pc = .ok (.imul, 1) := dk_of ((dk_bind (dk_u1 (h 0 _ rfl))).trans rfl)
theorem dk_108 {code : ByteArray} {pc : Nat} (h : DkAt code pc [108]) : decode code pc = .ok (.idiv, 1) := dk_of ((dk_bind (dk_u1 (h 0 _ rfl))).trans rfl)
theorem dk_112 {code : ByteArray} {pc : Nat} (h : DkAt code pc [112]) : decode code pc = .ok (.irem, 1) := dk_of ((dk_bind (dk_u1 (h 0 _ rfl))).trans rfl)
theorem dk_124 {code : ByteArray} {pc : Nat} (h : DkAt code pc [124]) : decode code pc = .ok (.iushr, 1) := dk_of ((dk_bind (dk_u1 (h 0 _ rfl))).trans rfl)
theorem dk_126 {code : ByteArray} {pc : Nat} (h : DkAt code pc [126]) : decode code pc = .ok (.iand, 1) := dk_of ((dk_bind (dk_u1 (h 0 _ rfl))).trans rfl)
theorem dk_132 {code : ByteArray} {pc : Nat} (a b : UInt8) (h : DkAt code pc [132, a, b]) : decode code pc = .ok (.iinc a.toNat (Reader.signed 8 b.toNat), 3) := dk_of ((dk_bind (dk_u1 (h 0 _ rfl))).trans ((dk_bind (dk_u1 (h 1 _ rfl))).trans ((dk_bind (dk_map (dk_u1 (h 2 _ rfl)))).trans rfl)))
theorem dk_153 {code : ByteArray} {pc : Nat} (a b : UInt8) (h : DkAt code pc [153, a, b]) : decode code pc = .ok (.ifCond .eq (Reader.signed 16 (a.toNat * 256 + b.toNat)), 3) := dk_of ((dk_bind (dk_u1 (h 0 _ rfl))).trans ((dk_bind (dk_map (dk_u2 (h 1 _ rfl) (h 2 _ rfl)))).trans rfl))
theorem dk_154 {code : ByteArray} {pc : Nat} (a b : UInt8) (h : DkAt code pc [154, a, b]) : decode code pc = .ok (.ifCond .ne (Reader.signed 16 (a.toNat * 256 + b.toNat)), 3) := dk_of ((dk_bind (dk_u1 (h 0 _ rfl))).trans ((dk_bind (dk_map (dk_u2 (h 1 _ rfl) (h 2 _ rfl)))).trans rfl))
theorem dk_155 {code : ByteArray} {pc : Nat} (a b : UInt8) (h : DkAt code pc [155, a, b]) : decode code pc = .ok (.ifCond .lt (Reader.signed 16 (a.toNat * 256 + b.toNat)), 3) := dk_of ((dk_bind (dk_u1 (h 0 _ rfl))).trans ((dk_bind (dk_map (dk_u2 (h 1 _ rfl) (h 2 _ rfl)))).trans rfl))
theorem dk_156 {code : ByteArray} {pc : Nat} (a b : UInt8) (h : DkAt code pc [156, a, b]) : decode code pc = .ok (.ifCond .ge (Reader.signed 16 (a.toNat * 256 + b.toNat)), 3) := dk_of ((dk_bind (dk_u1 (h 0 _ rfl))).trans ((dk_bind (dk_map (dk_u2 (h 1 _ rfl) (h 2 _ rfl)))).trans rfl))
theorem dk_157 {code : ByteArray} {pc : Nat} (a b : UInt8) (h : DkAt code pc [157, a, b]) : decode code pc = .ok (.ifCond .gt (Reader.signed 16 (a.toNat * 256 + b.toNat)), 3) := dk_of ((dk_bind (dk_u1 (h 0 _ rfl))).trans ((dk_bind (dk_map (dk_u2 (h 1 _ rfl) (h 2 _ rfl)))).trans rfl))
theorem dk_158 {code : ByteArray} {pc : Nat} (a b : UInt8) (h : DkAt code pc [158, a, b]) : decode code pc = .ok (.ifCond .le (Reader.signed 16 (a.toNat * 256 + b.toNat)), 3) := dk_of ((dk_bind (dk_u1 (h 0 _ rfl))).trans ((dk_bind (dk_map (dk_u2 (h 1 _ rfl) (h 2 _ rfl)))).trans rfl))
theorem dk_159 {code : ByteArray} {pc : Nat} (a b : UInt8) (h : DkAt code pc [159, a, b]) : decode code pc = .ok (.if_icmp .eq (Reader.signed 16 (a.toNat * 256 + b.toNat)), 3) := dk_of ((dk_bind (dk_u1 (h 0 _ rfl))).trans ((dk_bind (dk_map (dk_u2 (h 1 _ rfl) (h 2 _ rfl)))).trans rfl))
theorem dk_160 {code : ByteArray} {pc : Nat} (a b : UInt8) (h : DkAt code pc [160, a, b]) : decode code pc = .ok (.if_icmp .ne (Reader.signed 16 (a.toNat * 256 + b.toNat)), 3) := dk_of ((dk_bind (dk_u1 (h 0 _ rfl))).trans ((dk_bind (dk_map (dk_u2 (h 1 _ rfl) (h 2 _ rfl)))).trans rfl))
theorem dk_161 {code : ByteArray} {pc : Nat} (a b : UInt8) (h : DkAt code pc [161, a, b]) : decode code pc = .ok (.if_icmp .lt (Reader.signed 16 (a.toNat * 256 + b.toNat)), 3) := dk_of ((dk_bind (dk_u1 (h 0 _ rfl))).trans ((dk_bind (dk_map (dk_u2 (h 1 _ rfl) (h 2 _ rfl)))).trans rfl))
theorem dk_162 {code : ByteArray} {pc : Nat} (a b : UInt8) (h : DkAt code pc [162, a, b]) : decode code pc = .ok (.if_icmp .ge (Reader.signed 16 (a.toNat * 256 + b.toNat)), 3) := dk_of ((dk_bind (dk_u1 (h 0 _ rfl))).trans ((dk_bind (dk_map (dk_u2 (h 1 _ rfl) (h 2 _ rfl)))).trans rfl))
theorem dk_163 {code : ByteArray} {pc : Nat} (a b : UInt8) (h : DkAt code pc [163, a, b]) : decode code pc = .ok (.if_icmp .gt (Reader.signed 16 (a.toNat * 256 + b.toNat)), 3) := dk_of ((dk_bind (dk_u1 (h 0 _ rfl))).trans ((dk_bind (dk_map (dk_u2 (h 1 _ rfl) (h 2 _ rfl)))).trans rfl))
theorem dk_164 {code : ByteArray} {pc : Nat} (a b : UInt8) (h : DkAt code pc [164, a, b]) : decode code pc = .ok (.if_icmp .le (Reader.signed 16 (a.toNat * 256 + b.toNat)), 3) := dk_of ((dk_bind (dk_u1 (h 0 _ rfl))).trans ((dk_bind (dk_map (dk_u2 (h 1 _ rfl) (h 2 _ rfl)))).trans rfl))
theorem dk_167 {code : ByteArray} {pc : Nat} (a b : UInt8) (h : DkAt code pc [167, a, b]) : decode code pc = .ok (.goto (Reader.signed 16 (a.toNat * 256 + b.toNat)), 3) := dk_of ((dk_bind (dk_u1 (h 0 _ rfl))).trans ((dk_bind (dk_map (dk_u2 (h 1 _ rfl) (h 2 _ rfl)))).trans rfl))
theorem dk_172 {code : ByteArray} {pc : Nat} (h : DkAt code pc [172]) : decode code pc = .ok (.ireturn, 1) := dk_of ((dk_bind (dk_u1 (h 0 _ rfl))).trans rfl)
theorem dk_177 {code : ByteArray} {pc : Nat} (h : DkAt code pc [177]) : decode code pc = .ok (.return_, 1) := dk_of ((dk_bind (dk_u1 (h 0 _ rfl))).trans rfl)
theorem dk_180 {code : ByteArray} {pc : Nat} (a b : UInt8) (h : DkAt code pc [180, a, b]) : decode code pc = .ok (.getfield (a.toNat * 256 + b.toNat), 3) := dk_of ((dk_bind (dk_u1 (h 0 _ rfl))).trans ((dk_bind (dk_u2 (h 1 _ rfl) (h 2 _ rfl))).trans rfl))
theorem dk_181 {code : ByteArray} {pc : Nat} (a b : UInt8) (h : DkAt code pc [181, a, b]) : decode code pc = .ok (.putfield (a.toNat * 256 + b.toNat), 3) := dk_of ((dk_bind (dk_u1 (h 0 _ rfl))).trans ((dk_bind (dk_u2 (h 1 _ rfl) (h 2 _ rfl))).trans rfl))
theorem dk_182 {code : ByteArray} {pc : Nat} (a b : UInt8) (h : DkAt code pc [182, a, b]) : decode code pc = .ok (.invokevirtual (a.toNat * 256 + b.toNat), 3) := dk_of ((dk_bind (dk_u1 (h 0 _ rfl))).trans ((dk_bind (dk_u2 (h 1 _ rfl) (h 2 _ rfl))).trans rfl))
theorem dk_183 {code : ByteArray} {pc : Nat} (a b : UInt8) (h : DkAt code pc [183, a, b]) : decode code pc = .ok (.invokespecial (a.toNat * 256 + b.toNat), 3) := dk_of ((dk_bind (dk_u1 (h 0 _ rfl))).trans ((dk_bind (dk_u2 (h 1 _ rfl) (h 2 _ rfl))).trans rfl))
theorem dk_184 {code : ByteArray} {pc : Nat} (a b : UInt8) (h : DkAt code pc [184, a, b]) : decode code pc = .ok (.invokestatic (a.toNat * 256 + b.toNat), 3) := dk_of ((dk_bind (dk_u1 (h 0 _ rfl))).trans ((dk_bind (dk_u2 (h 1 _ rfl) (h 2 _ rfl))).trans rfl))
theorem dk_187 {code : ByteArray} {pc : Nat} (a b : UInt8) (h : DkAt code pc [187, a, b]) : decode code pc = .ok (.new (a.toNat * 256 + b.toNat), 3) := dk_of ((dk_bind (dk_u1 (h 0 _ rfl))).trans ((dk_bind (dk_u2 (h 1 _ rfl) (h 2 _ rfl))).trans rfl))
theorem dk_188_10 {code : ByteArray} {pc : Nat} (h : DkAt code pc [188, 10]) : decode code pc = .ok (.newarray .int, 2) := dk_of ((dk_bind (dk_u1 (h 0 _ rfl))).trans ((dk_bind (dk_u1 (h 1 _ rfl))).trans rfl))
theorem dk_190 {code : ByteArray} {pc : Nat} (h : DkAt code pc [190]) : decode code pc = .ok (.arraylength, 1) := dk_of ((dk_bind (dk_u1 (h 0 _ rfl))).trans rfl)
/-! java/lang/Math -/
set_option maxRecDepth 100000
def RJ0 : String := "java/lang/Math"
abbrev cJ0_min : ByteArray := prog_8_method_69_code
def yJ0_min : MethodName := ⟨RJ0, "min", "(II)I"⟩
def dkwJ0_min_0 : List UInt8 := [26, 27, 163, 0, 7, 26, 167, 0, 4, 27, 172]
abbrev dktJ0_min_0 : List UInt8 := dkwJ0_min_0 ++ []
theorem dksJ0_min_0 : cJ0_min.data.toList.drop 0 = dktJ0_min_0 := by decide +kernel
theorem dJ0_min_0 : decode cJ0_min 0 = .ok (.iload_n 0, 1) := dk_26 (dk_at dksJ0_min_0 0 rfl rfl)
theorem dJ0_min_1 : decode cJ0_min 1 = .ok (.iload_n 1, 1) := dk_27 (dk_at dksJ0_min_0 1 rfl rfl)
theorem dJ0_min_2 : decode cJ0_min 2 = .ok (.if_icmp .gt 7, 3) := dk_163 0 7 (dk_at dksJ0_min_0 2 rfl rfl)
theorem dJ0_min_5 : decode cJ0_min 5 = .ok (.iload_n 0, 1) := dk_26 (dk_at dksJ0_min_0 5 rfl rfl)
theorem dJ0_min_6 : decode cJ0_min 6 = .ok (.goto 4, 3) := dk_167 0 4 (dk_at dksJ0_min_0 6 rfl rfl)
theorem dJ0_min_9 : decode cJ0_min 9 = .ok (.iload_n 1, 1) := dk_27 (dk_at dksJ0_min_0 9 rfl rfl)
theorem dJ0_min_10 : decode cJ0_min 10 = .ok (.ireturn, 1) := dk_172 (dk_at dksJ0_min_0 10 rfl rfl)
theorem q9 : (Jvm.Cond.initialized "java/lang/Math") ∈ lw_all := lw_g (lw_at lw_m0 5 rfl) rfl
theorem q97 : (Jvm.Cond.static ({ cls := "java/lang/Math", name := "min", desc := "(II)I" } : Jvm.MethodName)) ∈ lw_all := lw_g (lw_at lw_m0 93 rfl) rfl
theorem q98 : (Jvm.Cond.code ({ cls := "java/lang/Math", name := "min", desc := "(II)I" } : Jvm.MethodName) prog_8_method_69_code (2 : Nat) (Option.some Jvm.ClassFile.FieldType.int)) ∈ lw_all := lw_g (lw_at lw_m0 94 rfl) rfl
/-! java/lang/Object -/
set_option maxRecDepth 100000
def RJ1 : String := "java/lang/Object"
abbrev cJ1_init : ByteArray := object_method_1_code
def yJ1_init : MethodName := ⟨RJ1, "<init>", "()V"⟩
theorem dJ1_init_0 : decode cJ1_init 0 = .ok (.return_, 1) := by decide +kernel
theorem q16 : (Jvm.Cond.instanceMethod ({ cls := "java/lang/Object", name := "<init>", desc := "()V" } : Jvm.MethodName)) ∈ lw_all := lw_g (lw_at lw_m0 12 rfl) rfl
theorem q17 : (Jvm.Cond.code ({ cls := "java/lang/Object", name := "<init>", desc := "()V" } : Jvm.MethodName) object_method_1_code (1 : Nat) (Option.none : Option Jvm.ClassFile.FieldType)) ∈ lw_all := lw_g (lw_at lw_m0 13 rfl) rfl
/-! SwapSortDesk -/
set_option maxRecDepth 100000
def RX0 : String := "SwapSortDesk"
def TX0 : u_T := fun k => match k with
  | 0 => ("SwapSortDesk", "first", "[I", true)
  | 1 => ("SwapSortDesk", "second", "[I", true)
  | _ => ("SwapSortDesk", "rows", "LSwapSortDesk$Rows;", true)
def tyX0 : Nat → FieldType := fun k => match k with
  | 0 => .array .int
  | 1 => .array .int
  | _ => .object "SwapSortDesk$Rows"
abbrev wsX00 : List Cond := u_ws RX0 TX0 3
theorem nmX0 : ∀ a, a < 3 → ∀ b, b < 3 → a ≠ b → (TX0 a).2.1 ≠ (TX0 b).2.1 := by decide +kernel
theorem tyX0_ok : ∀ k, k < 3 → parseFieldDescriptor (TX0 k).2.2.1 = some (tyX0 k) := by decide +kernel
abbrev cX0_init : ByteArray := prog_3_method_1_code
def yX0_init : MethodName := ⟨RX0, "<init>", "()V"⟩
def dkwX0_init_1 : List UInt8 := [89, 42, 183, 0, 18, 181, 0, 21, 177]
abbrev dktX0_init_1 : List UInt8 := dkwX0_init_1 ++ []
def dkwX0_init_0 : List UInt8 := [42, 183, 0, 1, 42, 16, 48, 188, 10, 181, 0, 7, 42, 16, 48, 188, 10, 181, 0, 13, 42, 187, 0, 16]
abbrev dktX0_init_0 : List UInt8 := dkwX0_init_0 ++ dktX0_init_1
theorem dksX0_init_0 : cX0_init.data.toList.drop 0 = dktX0_init_0 := by decide +kernel
theorem dksX0_init_1 : cX0_init.data.toList.drop 24 = dktX0_init_1 := dk_seg dksX0_init_0 24 rfl rfl
theorem dX0_init_0 : decode cX0_init 0 = .ok (.aload_n 0, 1) := dk_42 (dk_at dksX0_init_0 0 rfl rfl)
theorem dX0_init_1 : decode cX0_init 1 = .ok (.invokespecial 1, 3) := dk_183 0 1 (dk_at dksX0_init_0 1 rfl rfl)
theorem dX0_init_4 : decode cX0_init 4 = .ok (.aload_n 0, 1) := dk_42 (dk_at dksX0_init_0 4 rfl rfl)
theorem dX0_init_5 : decode cX0_init 5 = .ok (.bipush 48, 2) := dk_16 48 (dk_at dksX0_init_0 5 rfl rfl)
theorem dX0_init_7 : decode cX0_init 7 = .ok (.newarray .int, 2) := dk_188_10 (dk_at dksX0_init_0 7 rfl rfl)
theorem dX0_init_9 : decode cX0_init 9 = .ok (.putfield 7, 3) := dk_181 0 7 (dk_at dksX0_init_0 9 rfl rfl)
theorem dX0_init_12 : decode cX0_init 12 = .ok (.aload_n 0, 1) := dk_42 (dk_at dksX0_init_0 12 rfl rfl)
theorem dX0_init_13 : decode cX0_init 13 = .ok (.bipush 48, 2) := dk_16 48 (dk_at dksX0_init_0 13 rfl rfl)
theorem dX0_init_15 : decode cX0_init 15 = .ok (.newarray .int, 2) := dk_188_10 (dk_at dksX0_init_0 15 rfl rfl)
theorem dX0_init_17 : decode cX0_init 17 = .ok (.putfield 13, 3) := dk_181 0 13 (dk_at dksX0_init_0 17 rfl rfl)
theorem dX0_init_20 : decode cX0_init 20 = .ok (.aload_n 0, 1) := dk_42 (dk_at dksX0_init_0 20 rfl rfl)
theorem dX0_init_21 : decode cX0_init 21 = .ok (.new 16, 3) := dk_187 0 16 (dk_at dksX0_init_0 21 rfl rfl)
theorem dX0_init_24 : decode cX0_init 24 = .ok (.dup, 1) := dk_89 (dk_at dksX0_init_1 0 rfl rfl)
theorem dX0_init_25 : decode cX0_init 25 = .ok (.aload_n 0, 1) := dk_42 (dk_at dksX0_init_1 1 rfl rfl)
theorem dX0_init_26 : decode cX0_init 26 = .ok (.invokespecial 18, 3) := dk_183 0 18 (dk_at dksX0_init_1 2 rfl rfl)
theorem dX0_init_29 : decode cX0_init 29 = .ok (.putfield 21, 3) := dk_181 0 21 (dk_at dksX0_init_1 5 rfl rfl)
theorem dX0_init_32 : decode cX0_init 32 = .ok (.return_, 1) := dk_177 (dk_at dksX0_init_1 8 rfl rfl)
abbrev cX0_set : ByteArray := prog_3_method_2_code
def yX0_set : MethodName := ⟨RX0, "set", "(III)V"⟩
def dkwX0_set_1 : List UInt8 := [79, 177]
abbrev dktX0_set_1 : List UInt8 := dkwX0_set_1 ++ []
def dkwX0_set_0 : List UInt8 := [27, 18, 25, 126, 16, 48, 112, 54, 4, 42, 180, 0, 7, 21, 4, 28, 79, 42, 180, 0, 13, 21, 4, 29]
abbrev dktX0_set_0 : List UInt8 := dkwX0_set_0 ++ dktX0_set_1
theorem dksX0_set_0 : cX0_set.data.toList.drop 0 = dktX0_set_0 := by decide +kernel
theorem dksX0_set_1 : cX0_set.data.toList.drop 24 = dktX0_set_1 := dk_seg dksX0_set_0 24 rfl rfl
theorem dX0_set_0 : decode cX0_set 0 = .ok (.iload_n 1, 1) := dk_27 (dk_at dksX0_set_0 0 rfl rfl)
theorem dX0_set_1 : decode cX0_set 1 = .ok (.ldc 25, 2) := dk_18 25 (dk_at dksX0_set_0 1 rfl rfl)
theorem dX0_set_3 : decode cX0_set 3 = .ok (.iand, 1) := dk_126 (dk_at dksX0_set_0 3 rfl rfl)
theorem dX0_set_4 : decode cX0_set 4 = .ok (.bipush 48, 2) := dk_16 48 (dk_at dksX0_set_0 4 rfl rfl)
theorem dX0_set_6 : decode cX0_set 6 = .ok (.irem, 1) := dk_112 (dk_at dksX0_set_0 6 rfl rfl)
theorem dX0_set_7 : decode cX0_set 7 = .ok (.istore 4, 2) := dk_54 4 (dk_at dksX0_set_0 7 rfl rfl)
theorem dX0_set_9 : decode cX0_set 9 = .ok (.aload_n 0, 1) := dk_42 (dk_at dksX0_set_0 9 rfl rfl)
theorem dX0_set_10 : decode cX0_set 10 = .ok (.getfield 7, 3) := dk_180 0 7 (dk_at dksX0_set_0 10 rfl rfl)
theorem dX0_set_13 : decode cX0_set 13 = .ok (.iload 4, 2) := dk_21 4 (dk_at dksX0_set_0 13 rfl rfl)
theorem dX0_set_15 : decode cX0_set 15 = .ok (.iload_n 2, 1) := dk_28 (dk_at dksX0_set_0 15 rfl rfl)
theorem dX0_set_16 : decode cX0_set 16 = .ok (.iastore, 1) := dk_79 (dk_at dksX0_set_0 16 rfl rfl)
theorem dX0_set_17 : decode cX0_set 17 = .ok (.aload_n 0, 1) := dk_42 (dk_at dksX0_set_0 17 rfl rfl)
theorem dX0_set_18 : decode cX0_set 18 = .ok (.getfield 13, 3) := dk_180 0 13 (dk_at dksX0_set_0 18 rfl rfl)
theorem dX0_set_21 : decode cX0_set 21 = .ok (.iload 4, 2) := dk_21 4 (dk_at dksX0_set_0 21 rfl rfl)
theorem dX0_set_23 : decode cX0_set 23 = .ok (.iload_n 3, 1) := dk_29 (dk_at dksX0_set_0 23 rfl rfl)
theorem dX0_set_24 : decode cX0_set 24 = .ok (.iastore, 1) := dk_79 (dk_at dksX0_set_1 0 rfl rfl)
theorem dX0_set_25 : decode cX0_set 25 = .ok (.return_, 1) := dk_177 (dk_at dksX0_set_1 1 rfl rfl)
abbrev cX0_few : ByteArray := prog_3_method_3_code
def yX0_few : MethodName := ⟨RX0, "few", "(III)V"⟩
def dkwX0_few_1 : List UInt8 := [21, 4, 29, 6, 126, 79, 177]
abbrev dktX0_few_1 : List UInt8 := dkwX0_few_1 ++ []
def dkwX0_few_0 : List UInt8 := [27, 18, 25, 126, 16, 48, 112, 54, 4, 42, 180, 0, 7, 21, 4, 28, 6, 126, 79, 42, 180, 0, 13]
abbrev dktX0_few_0 : List UInt8 := dkwX0_few_0 ++ dktX0_few_1
theorem dksX0_few_0 : cX0_few.data.toList.drop 0 = dktX0_few_0 := by decide +kernel
theorem dksX0_few_1 : cX0_few.data.toList.drop 23 = dktX0_few_1 := dk_seg dksX0_few_0 23 rfl rfl
theorem dX0_few_0 : decode cX0_few 0 = .ok (.iload_n 1, 1) := dk_27 (dk_at dksX0_few_0 0 rfl rfl)
theorem dX0_few_1 : decode cX0_few 1 = .ok (.ldc 25, 2) := dk_18 25 (dk_at dksX0_few_0 1 rfl rfl)
theorem dX0_few_3 : decode cX0_few 3 = .ok (.iand, 1) := dk_126 (dk_at dksX0_few_0 3 rfl rfl)
theorem dX0_few_4 : decode cX0_few 4 = .ok (.bipush 48, 2) := dk_16 48 (dk_at dksX0_few_0 4 rfl rfl)
theorem dX0_few_6 : decode cX0_few 6 = .ok (.irem, 1) := dk_112 (dk_at dksX0_few_0 6 rfl rfl)
theorem dX0_few_7 : decode cX0_few 7 = .ok (.istore 4, 2) := dk_54 4 (dk_at dksX0_few_0 7 rfl rfl)
theorem dX0_few_9 : decode cX0_few 9 = .ok (.aload_n 0, 1) := dk_42 (dk_at dksX0_few_0 9 rfl rfl)
theorem dX0_few_10 : decode cX0_few 10 = .ok (.getfield 7, 3) := dk_180 0 7 (dk_at dksX0_few_0 10 rfl rfl)
theorem dX0_few_13 : decode cX0_few 13 = .ok (.iload 4, 2) := dk_21 4 (dk_at dksX0_few_0 13 rfl rfl)
theorem dX0_few_15 : decode cX0_few 15 = .ok (.iload_n 2, 1) := dk_28 (dk_at dksX0_few_0 15 rfl rfl)
theorem dX0_few_16 : decode cX0_few 16 = .ok (.iconst 3, 1) := dk_6 (dk_at dksX0_few_0 16 rfl rfl)
theorem dX0_few_17 : decode cX0_few 17 = .ok (.iand, 1) := dk_126 (dk_at dksX0_few_0 17 rfl rfl)
theorem dX0_few_18 : decode cX0_few 18 = .ok (.iastore, 1) := dk_79 (dk_at dksX0_few_0 18 rfl rfl)
theorem dX0_few_19 : decode cX0_few 19 = .ok (.aload_n 0, 1) := dk_42 (dk_at dksX0_few_0 19 rfl rfl)
theorem dX0_few_20 : decode cX0_few 20 = .ok (.getfield 13, 3) := dk_180 0 13 (dk_at dksX0_few_0 20 rfl rfl)
theorem dX0_few_23 : decode cX0_few 23 = .ok (.iload 4, 2) := dk_21 4 (dk_at dksX0_few_1 0 rfl rfl)
theorem dX0_few_25 : decode cX0_few 25 = .ok (.iload_n 3, 1) := dk_29 (dk_at dksX0_few_1 2 rfl rfl)
theorem dX0_few_26 : decode cX0_few 26 = .ok (.iconst 3, 1) := dk_6 (dk_at dksX0_few_1 3 rfl rfl)
theorem dX0_few_27 : decode cX0_few 27 = .ok (.iand, 1) := dk_126 (dk_at dksX0_few_1 4 rfl rfl)
theorem dX0_few_28 : decode cX0_few 28 = .ok (.iastore, 1) := dk_79 (dk_at dksX0_few_1 5 rfl rfl)
theorem dX0_few_29 : decode cX0_few 29 = .ok (.return_, 1) := dk_177 (dk_at dksX0_few_1 6 rfl rfl)
abbrev cX0_first : ByteArray := prog_3_method_4_code
def yX0_first : MethodName := ⟨RX0, "first", "(I)I"⟩
def dkwX0_first_0 : List UInt8 := [42, 180, 0, 7, 27, 18, 25, 126, 16, 48, 112, 46, 172]
abbrev dktX0_first_0 : List UInt8 := dkwX0_first_0 ++ []
theorem dksX0_first_0 : cX0_first.data.toList.drop 0 = dktX0_first_0 := by decide +kernel
theorem dX0_first_0 : decode cX0_first 0 = .ok (.aload_n 0, 1) := dk_42 (dk_at dksX0_first_0 0 rfl rfl)
theorem dX0_first_1 : decode cX0_first 1 = .ok (.getfield 7, 3) := dk_180 0 7 (dk_at dksX0_first_0 1 rfl rfl)
theorem dX0_first_4 : decode cX0_first 4 = .ok (.iload_n 1, 1) := dk_27 (dk_at dksX0_first_0 4 rfl rfl)
theorem dX0_first_5 : decode cX0_first 5 = .ok (.ldc 25, 2) := dk_18 25 (dk_at dksX0_first_0 5 rfl rfl)
theorem dX0_first_7 : decode cX0_first 7 = .ok (.iand, 1) := dk_126 (dk_at dksX0_first_0 7 rfl rfl)
theorem dX0_first_8 : decode cX0_first 8 = .ok (.bipush 48, 2) := dk_16 48 (dk_at dksX0_first_0 8 rfl rfl)
theorem dX0_first_10 : decode cX0_first 10 = .ok (.irem, 1) := dk_112 (dk_at dksX0_first_0 10 rfl rfl)
theorem dX0_first_11 : decode cX0_first 11 = .ok (.iaload, 1) := dk_46 (dk_at dksX0_first_0 11 rfl rfl)
theorem dX0_first_12 : decode cX0_first 12 = .ok (.ireturn, 1) := dk_172 (dk_at dksX0_first_0 12 rfl rfl)
abbrev cX0_second : ByteArray := prog_3_method_5_code
def yX0_second : MethodName := ⟨RX0, "second", "(I)I"⟩
def dkwX0_second_0 : List UInt8 := [42, 180, 0, 13, 27, 18, 25, 126, 16, 48, 112, 46, 172]
abbrev dktX0_second_0 : List UInt8 := dkwX0_second_0 ++ []
theorem dksX0_second_0 : cX0_second.data.toList.drop 0 = dktX0_second_0 := by decide +kernel
theorem dX0_second_0 : decode cX0_second 0 = .ok (.aload_n 0, 1) := dk_42 (dk_at dksX0_second_0 0 rfl rfl)
theorem dX0_second_1 : decode cX0_second 1 = .ok (.getfield 13, 3) := dk_180 0 13 (dk_at dksX0_second_0 1 rfl rfl)
theorem dX0_second_4 : decode cX0_second 4 = .ok (.iload_n 1, 1) := dk_27 (dk_at dksX0_second_0 4 rfl rfl)
theorem dX0_second_5 : decode cX0_second 5 = .ok (.ldc 25, 2) := dk_18 25 (dk_at dksX0_second_0 5 rfl rfl)
theorem dX0_second_7 : decode cX0_second 7 = .ok (.iand, 1) := dk_126 (dk_at dksX0_second_0 7 rfl rfl)
theorem dX0_second_8 : decode cX0_second 8 = .ok (.bipush 48, 2) := dk_16 48 (dk_at dksX0_second_0 8 rfl rfl)
theorem dX0_second_10 : decode cX0_second 10 = .ok (.irem, 1) := dk_112 (dk_at dksX0_second_0 10 rfl rfl)
theorem dX0_second_11 : decode cX0_second 11 = .ok (.iaload, 1) := dk_46 (dk_at dksX0_second_0 11 rfl rfl)
theorem dX0_second_12 : decode cX0_second 12 = .ok (.ireturn, 1) := dk_172 (dk_at dksX0_second_0 12 rfl rfl)
abbrev cX0_quick : ByteArray := prog_3_method_8_code
def yX0_quick : MethodName := ⟨RX0, "quick", "(II)V"⟩
def dkwX0_quick_1 : List UInt8 := [177]
abbrev dktX0_quick_1 : List UInt8 := dkwX0_quick_1 ++ []
def dkwX0_quick_0 : List UInt8 := [42, 27, 182, 0, 26, 62, 29, 42, 29, 28, 182, 0, 30, 42, 180, 0, 21, 42, 180, 0, 21, 184, 0, 34]
abbrev dktX0_quick_0 : List UInt8 := dkwX0_quick_0 ++ dktX0_quick_1
theorem dksX0_quick_0 : cX0_quick.data.toList.drop 0 = dktX0_quick_0 := by decide +kernel
theorem dksX0_quick_1 : cX0_quick.data.toList.drop 24 = dktX0_quick_1 := dk_seg dksX0_quick_0 24 rfl rfl
theorem dX0_quick_0 : decode cX0_quick 0 = .ok (.aload_n 0, 1) := dk_42 (dk_at dksX0_quick_0 0 rfl rfl)
theorem dX0_quick_1 : decode cX0_quick 1 = .ok (.iload_n 1, 1) := dk_27 (dk_at dksX0_quick_0 1 rfl rfl)
theorem dX0_quick_2 : decode cX0_quick 2 = .ok (.invokevirtual 26, 3) := dk_182 0 26 (dk_at dksX0_quick_0 2 rfl rfl)
theorem dX0_quick_5 : decode cX0_quick 5 = .ok (.istore_n 3, 1) := dk_62 (dk_at dksX0_quick_0 5 rfl rfl)
theorem dX0_quick_6 : decode cX0_quick 6 = .ok (.iload_n 3, 1) := dk_29 (dk_at dksX0_quick_0 6 rfl rfl)
theorem dX0_quick_7 : decode cX0_quick 7 = .ok (.aload_n 0, 1) := dk_42 (dk_at dksX0_quick_0 7 rfl rfl)
theorem dX0_quick_8 : decode cX0_quick 8 = .ok (.iload_n 3, 1) := dk_29 (dk_at dksX0_quick_0 8 rfl rfl)
theorem dX0_quick_9 : decode cX0_quick 9 = .ok (.iload_n 2, 1) := dk_28 (dk_at dksX0_quick_0 9 rfl rfl)
theorem dX0_quick_10 : decode cX0_quick 10 = .ok (.invokevirtual 30, 3) := dk_182 0 30 (dk_at dksX0_quick_0 10 rfl rfl)
theorem dX0_quick_13 : decode cX0_quick 13 = .ok (.aload_n 0, 1) := dk_42 (dk_at dksX0_quick_0 13 rfl rfl)
theorem dX0_quick_14 : decode cX0_quick 14 = .ok (.getfield 21, 3) := dk_180 0 21 (dk_at dksX0_quick_0 14 rfl rfl)
theorem dX0_quick_17 : decode cX0_quick 17 = .ok (.aload_n 0, 1) := dk_42 (dk_at dksX0_quick_0 17 rfl rfl)
theorem dX0_quick_18 : decode cX0_quick 18 = .ok (.getfield 21, 3) := dk_180 0 21 (dk_at dksX0_quick_0 18 rfl rfl)
theorem dX0_quick_21 : decode cX0_quick 21 = .ok (.invokestatic 34, 3) := dk_184 0 34 (dk_at dksX0_quick_0 21 rfl rfl)
theorem dX0_quick_24 : decode cX0_quick 24 = .ok (.return_, 1) := dk_177 (dk_at dksX0_quick_1 0 rfl rfl)
abbrev cX0_from : ByteArray := prog_3_method_6_code
def yX0_from : MethodName := ⟨RX0, "from", "(I)I"⟩
def dkwX0_from_0 : List UInt8 := [27, 18, 25, 126, 16, 49, 112, 172]
abbrev dktX0_from_0 : List UInt8 := dkwX0_from_0 ++ []
theorem dksX0_from_0 : cX0_from.data.toList.drop 0 = dktX0_from_0 := by decide +kernel
theorem dX0_from_0 : decode cX0_from 0 = .ok (.iload_n 1, 1) := dk_27 (dk_at dksX0_from_0 0 rfl rfl)
theorem dX0_from_1 : decode cX0_from 1 = .ok (.ldc 25, 2) := dk_18 25 (dk_at dksX0_from_0 1 rfl rfl)
theorem dX0_from_3 : decode cX0_from 3 = .ok (.iand, 1) := dk_126 (dk_at dksX0_from_0 3 rfl rfl)
theorem dX0_from_4 : decode cX0_from 4 = .ok (.bipush 49, 2) := dk_16 49 (dk_at dksX0_from_0 4 rfl rfl)
theorem dX0_from_6 : decode cX0_from 6 = .ok (.irem, 1) := dk_112 (dk_at dksX0_from_0 6 rfl rfl)
theorem dX0_from_7 : decode cX0_from 7 = .ok (.ireturn, 1) := dk_172 (dk_at dksX0_from_0 7 rfl rfl)
abbrev cX0_to : ByteArray := prog_3_method_7_code
def yX0_to : MethodName := ⟨RX0, "to", "(II)I"⟩
def dkwX0_to_0 : List UInt8 := [27, 28, 18, 25, 126, 16, 49, 27, 100, 112, 96, 172]
abbrev dktX0_to_0 : List UInt8 := dkwX0_to_0 ++ []
theorem dksX0_to_0 : cX0_to.data.toList.drop 0 = dktX0_to_0 := by decide +kernel
theorem dX0_to_0 : decode cX0_to 0 = .ok (.iload_n 1, 1) := dk_27 (dk_at dksX0_to_0 0 rfl rfl)
theorem dX0_to_1 : decode cX0_to 1 = .ok (.iload_n 2, 1) := dk_28 (dk_at dksX0_to_0 1 rfl rfl)
theorem dX0_to_2 : decode cX0_to 2 = .ok (.ldc 25, 2) := dk_18 25 (dk_at dksX0_to_0 2 rfl rfl)
theorem dX0_to_4 : decode cX0_to 4 = .ok (.iand, 1) := dk_126 (dk_at dksX0_to_0 4 rfl rfl)
theorem dX0_to_5 : decode cX0_to 5 = .ok (.bipush 49, 2) := dk_16 49 (dk_at dksX0_to_0 5 rfl rfl)
theorem dX0_to_7 : decode cX0_to 7 = .ok (.iload_n 1, 1) := dk_27 (dk_at dksX0_to_0 7 rfl rfl)
theorem dX0_to_8 : decode cX0_to 8 = .ok (.isub, 1) := dk_100 (dk_at dksX0_to_0 8 rfl rfl)
theorem dX0_to_9 : decode cX0_to 9 = .ok (.irem, 1) := dk_112 (dk_at dksX0_to_0 9 rfl rfl)
theorem dX0_to_10 : decode cX0_to 10 = .ok (.iadd, 1) := dk_96 (dk_at dksX0_to_0 10 rfl rfl)
theorem dX0_to_11 : decode cX0_to 11 = .ok (.ireturn, 1) := dk_172 (dk_at dksX0_to_0 11 rfl rfl)
abbrev cX0_merge : ByteArray := prog_3_method_9_code
def yX0_merge : MethodName := ⟨RX0, "merge", "(II)V"⟩
def dkwX0_merge_1 : List UInt8 := [177]
abbrev dktX0_merge_1 : List UInt8 := dkwX0_merge_1 ++ []
def dkwX0_merge_0 : List UInt8 := [42, 27, 182, 0, 26, 62, 29, 42, 29, 28, 182, 0, 30, 42, 180, 0, 21, 42, 180, 0, 21, 184, 0, 40]
abbrev dktX0_merge_0 : List UInt8 := dkwX0_merge_0 ++ dktX0_merge_1
theorem dksX0_merge_0 : cX0_merge.data.toList.drop 0 = dktX0_merge_0 := by decide +kernel
theorem dksX0_merge_1 : cX0_merge.data.toList.drop 24 = dktX0_merge_1 := dk_seg dksX0_merge_0 24 rfl rfl
theorem dX0_merge_0 : decode cX0_merge 0 = .ok (.aload_n 0, 1) := dk_42 (dk_at dksX0_merge_0 0 rfl rfl)
theorem dX0_merge_1 : decode cX0_merge 1 = .ok (.iload_n 1, 1) := dk_27 (dk_at dksX0_merge_0 1 rfl rfl)
theorem dX0_merge_2 : decode cX0_merge 2 = .ok (.invokevirtual 26, 3) := dk_182 0 26 (dk_at dksX0_merge_0 2 rfl rfl)
theorem dX0_merge_5 : decode cX0_merge 5 = .ok (.istore_n 3, 1) := dk_62 (dk_at dksX0_merge_0 5 rfl rfl)
theorem dX0_merge_6 : decode cX0_merge 6 = .ok (.iload_n 3, 1) := dk_29 (dk_at dksX0_merge_0 6 rfl rfl)
theorem dX0_merge_7 : decode cX0_merge 7 = .ok (.aload_n 0, 1) := dk_42 (dk_at dksX0_merge_0 7 rfl rfl)
theorem dX0_merge_8 : decode cX0_merge 8 = .ok (.iload_n 3, 1) := dk_29 (dk_at dksX0_merge_0 8 rfl rfl)
theorem dX0_merge_9 : decode cX0_merge 9 = .ok (.iload_n 2, 1) := dk_28 (dk_at dksX0_merge_0 9 rfl rfl)
theorem dX0_merge_10 : decode cX0_merge 10 = .ok (.invokevirtual 30, 3) := dk_182 0 30 (dk_at dksX0_merge_0 10 rfl rfl)
theorem dX0_merge_13 : decode cX0_merge 13 = .ok (.aload_n 0, 1) := dk_42 (dk_at dksX0_merge_0 13 rfl rfl)
theorem dX0_merge_14 : decode cX0_merge 14 = .ok (.getfield 21, 3) := dk_180 0 21 (dk_at dksX0_merge_0 14 rfl rfl)
theorem dX0_merge_17 : decode cX0_merge 17 = .ok (.aload_n 0, 1) := dk_42 (dk_at dksX0_merge_0 17 rfl rfl)
theorem dX0_merge_18 : decode cX0_merge 18 = .ok (.getfield 21, 3) := dk_180 0 21 (dk_at dksX0_merge_0 18 rfl rfl)
theorem dX0_merge_21 : decode cX0_merge 21 = .ok (.invokestatic 40, 3) := dk_184 0 40 (dk_at dksX0_merge_0 21 rfl rfl)
theorem dX0_merge_24 : decode cX0_merge 24 = .ok (.return_, 1) := dk_177 (dk_at dksX0_merge_1 0 rfl rfl)
theorem q5 : (Jvm.Cond.initialized "SwapSortDesk") ∈ lw_all := lw_g (lw_at lw_m0 1 rfl) rfl
theorem q11 : (Jvm.Cond.instantiable "SwapSortDesk" (3 : Nat)) ∈ lw_all := lw_g (lw_at lw_m0 7 rfl) rfl
theorem q13 : (Jvm.Cond.instanceMethod ({ cls := "SwapSortDesk", name := "<init>", desc := "()V" } : Jvm.MethodName)) ∈ lw_all := lw_g (lw_at lw_m0 9 rfl) rfl
theorem q14 : (Jvm.Cond.code ({ cls := "SwapSortDesk", name := "<init>", desc := "()V" } : Jvm.MethodName) prog_3_method_1_code (1 : Nat) (Option.none : Option Jvm.ClassFile.FieldType)) ∈ lw_all := lw_g (lw_at lw_m0 10 rfl) rfl
theorem q15 : (Jvm.Cond.methodLink "SwapSortDesk" (1 : Nat) ({ cls := "java/lang/Object", name := "<init>", desc := "()V" } : Jvm.MethodName)) ∈ lw_all := lw_g (lw_at lw_m0 11 rfl) rfl
theorem q18 : (Jvm.Cond.classLink "SwapSortDesk" (16 : Nat) "SwapSortDesk$Rows") ∈ lw_all := lw_g (lw_at lw_m0 14 rfl) rfl
theorem q20 : (Jvm.Cond.methodLinkNest "SwapSortDesk" (18 : Nat) ({ cls := "SwapSortDesk$Rows", name := "<init>", desc := "(LSwapSortDesk;)V" } : Jvm.MethodName) "SwapSortDesk") ∈ lw_tbl := lw_at lw_m0 16 rfl
theorem q29 : (Jvm.Cond.fieldLink "SwapSortDesk" (7 : Nat) "SwapSortDesk" "first" "[I") ∈ lw_all := lw_g (lw_at lw_m0 25 rfl) rfl
theorem q31 : (Jvm.Cond.fieldLink "SwapSortDesk" (13 : Nat) "SwapSortDesk" "second" "[I") ∈ lw_all := lw_g (lw_at lw_m0 27 rfl) rfl
theorem q33 : (Jvm.Cond.fieldLink "SwapSortDesk" (21 : Nat) "SwapSortDesk" "rows" "LSwapSortDesk$Rows;") ∈ lw_all := lw_g (lw_at lw_m0 29 rfl) rfl
theorem q34 : (Jvm.Cond.laysFinal "SwapSortDesk" "SwapSortDesk" "first" "[I") ∈ lw_all := lw_g (lw_at lw_m0 30 rfl) rfl
theorem q35 : (Jvm.Cond.soleField "SwapSortDesk" "first") ∈ lw_all := lw_g (lw_at lw_m0 31 rfl) rfl
theorem q36 : (Jvm.Cond.laysFinal "SwapSortDesk" "SwapSortDesk" "second" "[I") ∈ lw_all := lw_g (lw_at lw_m0 32 rfl) rfl
theorem q37 : (Jvm.Cond.soleField "SwapSortDesk" "second") ∈ lw_all := lw_g (lw_at lw_m0 33 rfl) rfl
theorem q38 : (Jvm.Cond.laysFinal "SwapSortDesk" "SwapSortDesk" "rows" "LSwapSortDesk$Rows;") ∈ lw_all := lw_g (lw_at lw_m0 34 rfl) rfl
theorem q39 : (Jvm.Cond.soleField "SwapSortDesk" "rows") ∈ lw_all := lw_g (lw_at lw_m0 35 rfl) rfl
theorem q40 : (Jvm.Cond.superclass "SwapSortDesk" "java/lang/Object") ∈ lw_all := lw_g (lw_at lw_m0 36 rfl) rfl
theorem q42 : (Jvm.Cond.instanceMethod ({ cls := "SwapSortDesk", name := "set", desc := "(III)V" } : Jvm.MethodName)) ∈ lw_all := lw_g (lw_at lw_m0 38 rfl) rfl
theorem q43 : (Jvm.Cond.selects "SwapSortDesk" ({ cls := "SwapSortDesk", name := "set", desc := "(III)V" } : Jvm.MethodName) ({ cls := "SwapSortDesk", name := "set", desc := "(III)V" } : Jvm.MethodName)) ∈ lw_all := lw_g (lw_at lw_m0 39 rfl) rfl
theorem q44 : (Jvm.Cond.code ({ cls := "SwapSortDesk", name := "set", desc := "(III)V" } : Jvm.MethodName) prog_3_method_2_code (5 : Nat) (Option.none : Option Jvm.ClassFile.FieldType)) ∈ lw_all := lw_g (lw_at lw_m0 40 rfl) rfl
theorem q45 : (Jvm.Cond.constant "SwapSortDesk" (25 : Nat) (2147483647 : Int32)) ∈ lw_all := lw_g (lw_at lw_m0 41 rfl) rfl
theorem q47 : (Jvm.Cond.instanceMethod ({ cls := "SwapSortDesk", name := "few", desc := "(III)V" } : Jvm.MethodName)) ∈ lw_all := lw_g (lw_at lw_m0 43 rfl) rfl
theorem q48 : (Jvm.Cond.selects "SwapSortDesk" ({ cls := "SwapSortDesk", name := "few", desc := "(III)V" } : Jvm.MethodName) ({ cls := "SwapSortDesk", name := "few", desc := "(III)V" } : Jvm.MethodName)) ∈ lw_all := lw_g (lw_at lw_m0 44 rfl) rfl
theorem q49 : (Jvm.Cond.code ({ cls := "SwapSortDesk", name := "few", desc := "(III)V" } : Jvm.MethodName) prog_3_method_3_code (5 : Nat) (Option.none : Option Jvm.ClassFile.FieldType)) ∈ lw_all := lw_g (lw_at lw_m0 45 rfl) rfl
theorem q51 : (Jvm.Cond.instanceMethod ({ cls := "SwapSortDesk", name := "first", desc := "(I)I" } : Jvm.MethodName)) ∈ lw_all := lw_g (lw_at lw_m0 47 rfl) rfl
theorem q52 : (Jvm.Cond.selects "SwapSortDesk" ({ cls := "SwapSortDesk", name := "first", desc := "(I)I" } : Jvm.MethodName) ({ cls := "SwapSortDesk", name := "first", desc := "(I)I" } : Jvm.MethodName)) ∈ lw_all := lw_g (lw_at lw_m0 48 rfl) rfl
theorem q53 : (Jvm.Cond.code ({ cls := "SwapSortDesk", name := "first", desc := "(I)I" } : Jvm.MethodName) prog_3_method_4_code (2 : Nat) (Option.some Jvm.ClassFile.FieldType.int)) ∈ lw_all := lw_g (lw_at lw_m0 49 rfl) rfl
theorem q55 : (Jvm.Cond.instanceMethod ({ cls := "SwapSortDesk", name := "second", desc := "(I)I" } : Jvm.MethodName)) ∈ lw_all := lw_g (lw_at lw_m0 51 rfl) rfl
theorem q56 : (Jvm.Cond.selects "SwapSortDesk" ({ cls := "SwapSortDesk", name := "second", desc := "(I)I" } : Jvm.MethodName) ({ cls := "SwapSortDesk", name := "second", desc := "(I)I" } : Jvm.MethodName)) ∈ lw_all := lw_g (lw_at lw_m0 52 rfl) rfl
theorem q57 : (Jvm.Cond.code ({ cls := "SwapSortDesk", name := "second", desc := "(I)I" } : Jvm.MethodName) prog_3_method_5_code (2 : Nat) (Option.some Jvm.ClassFile.FieldType.int)) ∈ lw_all := lw_g (lw_at lw_m0 53 rfl) rfl
theorem q59 : (Jvm.Cond.instanceMethod ({ cls := "SwapSortDesk", name := "quick", desc := "(II)V" } : Jvm.MethodName)) ∈ lw_all := lw_g (lw_at lw_m0 55 rfl) rfl
theorem q60 : (Jvm.Cond.selects "SwapSortDesk" ({ cls := "SwapSortDesk", name := "quick", desc := "(II)V" } : Jvm.MethodName) ({ cls := "SwapSortDesk", name := "quick", desc := "(II)V" } : Jvm.MethodName)) ∈ lw_all := lw_g (lw_at lw_m0 56 rfl) rfl
theorem q61 : (Jvm.Cond.code ({ cls := "SwapSortDesk", name := "quick", desc := "(II)V" } : Jvm.MethodName) prog_3_method_8_code (4 : Nat) (Option.none : Option Jvm.ClassFile.FieldType)) ∈ lw_all := lw_g (lw_at lw_m0 57 rfl) rfl
theorem q62 : (Jvm.Cond.methodLink "SwapSortDesk" (26 : Nat) ({ cls := "SwapSortDesk", name := "from", desc := "(I)I" } : Jvm.MethodName)) ∈ lw_all := lw_g (lw_at lw_m0 58 rfl) rfl
theorem q63 : (Jvm.Cond.privateMethod ({ cls := "SwapSortDesk", name := "from", desc := "(I)I" } : Jvm.MethodName)) ∈ lw_tbl := lw_at lw_m0 59 rfl
theorem q64 : (Jvm.Cond.instanceMethod ({ cls := "SwapSortDesk", name := "from", desc := "(I)I" } : Jvm.MethodName)) ∈ lw_all := lw_g (lw_at lw_m0 60 rfl) rfl
theorem q65 : (Jvm.Cond.code ({ cls := "SwapSortDesk", name := "from", desc := "(I)I" } : Jvm.MethodName) prog_3_method_6_code (2 : Nat) (Option.some Jvm.ClassFile.FieldType.int)) ∈ lw_all := lw_g (lw_at lw_m0 61 rfl) rfl
theorem q66 : (Jvm.Cond.methodLink "SwapSortDesk" (30 : Nat) ({ cls := "SwapSortDesk", name := "to", desc := "(II)I" } : Jvm.MethodName)) ∈ lw_all := lw_g (lw_at lw_m0 62 rfl) rfl
theorem q67 : (Jvm.Cond.privateMethod ({ cls := "SwapSortDesk", name := "to", desc := "(II)I" } : Jvm.MethodName)) ∈ lw_tbl := lw_at lw_m0 63 rfl
theorem q68 : (Jvm.Cond.instanceMethod ({ cls := "SwapSortDesk", name := "to", desc := "(II)I" } : Jvm.MethodName)) ∈ lw_all := lw_g (lw_at lw_m0 64 rfl) rfl
theorem q69 : (Jvm.Cond.code ({ cls := "SwapSortDesk", name := "to", desc := "(II)I" } : Jvm.MethodName) prog_3_method_7_code (3 : Nat) (Option.some Jvm.ClassFile.FieldType.int)) ∈ lw_all := lw_g (lw_at lw_m0 65 rfl) rfl
theorem q70 : (Jvm.Cond.methodLink "SwapSortDesk" (34 : Nat) ({ cls := "OwnArrays", name := "quickSort", desc := "(IILIntComparator;LSwapper;)V" } : Jvm.MethodName)) ∈ lw_all := lw_g (lw_at lw_m0 66 rfl) rfl
theorem q104 : (Jvm.Cond.instanceMethod ({ cls := "SwapSortDesk", name := "merge", desc := "(II)V" } : Jvm.MethodName)) ∈ lw_all := lw_g (lw_at lw_m0 100 rfl) rfl
theorem q105 : (Jvm.Cond.selects "SwapSortDesk" ({ cls := "SwapSortDesk", name := "merge", desc := "(II)V" } : Jvm.MethodName) ({ cls := "SwapSortDesk", name := "merge", desc := "(II)V" } : Jvm.MethodName)) ∈ lw_all := lw_g (lw_at lw_m0 101 rfl) rfl
theorem q106 : (Jvm.Cond.code ({ cls := "SwapSortDesk", name := "merge", desc := "(II)V" } : Jvm.MethodName) prog_3_method_9_code (4 : Nat) (Option.none : Option Jvm.ClassFile.FieldType)) ∈ lw_all := lw_g (lw_at lw_m0 102 rfl) rfl
theorem q107 : (Jvm.Cond.methodLink "SwapSortDesk" (40 : Nat) ({ cls := "OwnArrays", name := "mergeSort", desc := "(IILIntComparator;LSwapper;)V" } : Jvm.MethodName)) ∈ lw_all := lw_g (lw_at lw_m0 103 rfl) rfl
theorem in_X0 : ∀ w ∈ wsX00, w ∈ lw_all := lw_in wsX00 [34, 36, 38] (by decide +kernel) (by decide +kernel)
/-! SwapSortDesk$Rows -/
set_option maxRecDepth 100000
def RX1 : String := "SwapSortDesk$Rows"
def TX1 : u_T := fun k => match k with
  | _ => ("SwapSortDesk$Rows", "this$0", "LSwapSortDesk;", true)
def tyX1 : Nat → FieldType := fun k => match k with
  | _ => .object "SwapSortDesk"
abbrev wsX10 : List Cond := u_ws RX1 TX1 1
theorem nmX1 : ∀ a, a < 1 → ∀ b, b < 1 → a ≠ b → (TX1 a).2.1 ≠ (TX1 b).2.1 := by decide +kernel
theorem tyX1_ok : ∀ k, k < 1 → parseFieldDescriptor (TX1 k).2.2.1 = some (tyX1 k) := by decide +kernel
abbrev cX1_init : ByteArray := prog_4_method_1_code
def yX1_init : MethodName := ⟨RX1, "<init>", "(LSwapSortDesk;)V"⟩
def dkwX1_init_0 : List UInt8 := [42, 43, 181, 0, 1, 42, 183, 0, 7, 177]
abbrev dktX1_init_0 : List UInt8 := dkwX1_init_0 ++ []
theorem dksX1_init_0 : cX1_init.data.toList.drop 0 = dktX1_init_0 := by decide +kernel
theorem dX1_init_0 : decode cX1_init 0 = .ok (.aload_n 0, 1) := dk_42 (dk_at dksX1_init_0 0 rfl rfl)
theorem dX1_init_1 : decode cX1_init 1 = .ok (.aload_n 1, 1) := dk_43 (dk_at dksX1_init_0 1 rfl rfl)
theorem dX1_init_2 : decode cX1_init 2 = .ok (.putfield 1, 3) := dk_181 0 1 (dk_at dksX1_init_0 2 rfl rfl)
theorem dX1_init_5 : decode cX1_init 5 = .ok (.aload_n 0, 1) := dk_42 (dk_at dksX1_init_0 5 rfl rfl)
theorem dX1_init_6 : decode cX1_init 6 = .ok (.invokespecial 7, 3) := dk_183 0 7 (dk_at dksX1_init_0 6 rfl rfl)
theorem dX1_init_9 : decode cX1_init 9 = .ok (.return_, 1) := dk_177 (dk_at dksX1_init_0 9 rfl rfl)
abbrev cX1_compare : ByteArray := prog_4_method_2_code
def yX1_compare : MethodName := ⟨RX1, "compare", "(II)I"⟩
def dkwX1_compare_4 : List UInt8 := [4, 167, 0, 4, 3, 172]
abbrev dktX1_compare_4 : List UInt8 := dkwX1_compare_4 ++ []
def dkwX1_compare_3 : List UInt8 := [167, 0, 29, 42, 180, 0, 1, 180, 0, 19, 27, 46, 42, 180, 0, 1, 180, 0, 19, 28, 46, 164, 0, 7]
abbrev dktX1_compare_3 : List UInt8 := dkwX1_compare_3 ++ dktX1_compare_4
def dkwX1_compare_2 : List UInt8 := [4, 172, 42, 180, 0, 1, 180, 0, 19, 27, 46, 42, 180, 0, 1, 180, 0, 19, 28, 46, 162, 0, 7, 2]
abbrev dktX1_compare_2 : List UInt8 := dkwX1_compare_2 ++ dktX1_compare_3
def dkwX1_compare_1 : List UInt8 := [180, 0, 1, 180, 0, 13, 27, 46, 42, 180, 0, 1, 180, 0, 13, 28, 46, 162, 0, 7, 2, 167, 0, 4]
abbrev dktX1_compare_1 : List UInt8 := dkwX1_compare_1 ++ dktX1_compare_2
def dkwX1_compare_0 : List UInt8 := [42, 180, 0, 1, 180, 0, 13, 27, 46, 42, 180, 0, 1, 180, 0, 13, 28, 46, 159, 0, 30, 42]
abbrev dktX1_compare_0 : List UInt8 := dkwX1_compare_0 ++ dktX1_compare_1
theorem dksX1_compare_0 : cX1_compare.data.toList.drop 0 = dktX1_compare_0 := by decide +kernel
theorem dksX1_compare_1 : cX1_compare.data.toList.drop 22 = dktX1_compare_1 := dk_seg dksX1_compare_0 22 rfl rfl
theorem dksX1_compare_2 : cX1_compare.data.toList.drop 46 = dktX1_compare_2 := dk_seg dksX1_compare_1 24 rfl rfl
theorem dksX1_compare_3 : cX1_compare.data.toList.drop 70 = dktX1_compare_3 := dk_seg dksX1_compare_2 24 rfl rfl
theorem dksX1_compare_4 : cX1_compare.data.toList.drop 94 = dktX1_compare_4 := dk_seg dksX1_compare_3 24 rfl rfl
theorem dX1_compare_0 : decode cX1_compare 0 = .ok (.aload_n 0, 1) := dk_42 (dk_at dksX1_compare_0 0 rfl rfl)
theorem dX1_compare_1 : decode cX1_compare 1 = .ok (.getfield 1, 3) := dk_180 0 1 (dk_at dksX1_compare_0 1 rfl rfl)
theorem dX1_compare_4 : decode cX1_compare 4 = .ok (.getfield 13, 3) := dk_180 0 13 (dk_at dksX1_compare_0 4 rfl rfl)
theorem dX1_compare_7 : decode cX1_compare 7 = .ok (.iload_n 1, 1) := dk_27 (dk_at dksX1_compare_0 7 rfl rfl)
theorem dX1_compare_8 : decode cX1_compare 8 = .ok (.iaload, 1) := dk_46 (dk_at dksX1_compare_0 8 rfl rfl)
theorem dX1_compare_9 : decode cX1_compare 9 = .ok (.aload_n 0, 1) := dk_42 (dk_at dksX1_compare_0 9 rfl rfl)
theorem dX1_compare_10 : decode cX1_compare 10 = .ok (.getfield 1, 3) := dk_180 0 1 (dk_at dksX1_compare_0 10 rfl rfl)
theorem dX1_compare_13 : decode cX1_compare 13 = .ok (.getfield 13, 3) := dk_180 0 13 (dk_at dksX1_compare_0 13 rfl rfl)
theorem dX1_compare_16 : decode cX1_compare 16 = .ok (.iload_n 2, 1) := dk_28 (dk_at dksX1_compare_0 16 rfl rfl)
theorem dX1_compare_17 : decode cX1_compare 17 = .ok (.iaload, 1) := dk_46 (dk_at dksX1_compare_0 17 rfl rfl)
theorem dX1_compare_18 : decode cX1_compare 18 = .ok (.if_icmp .eq 30, 3) := dk_159 0 30 (dk_at dksX1_compare_0 18 rfl rfl)
theorem dX1_compare_21 : decode cX1_compare 21 = .ok (.aload_n 0, 1) := dk_42 (dk_at dksX1_compare_0 21 rfl rfl)
theorem dX1_compare_22 : decode cX1_compare 22 = .ok (.getfield 1, 3) := dk_180 0 1 (dk_at dksX1_compare_1 0 rfl rfl)
theorem dX1_compare_25 : decode cX1_compare 25 = .ok (.getfield 13, 3) := dk_180 0 13 (dk_at dksX1_compare_1 3 rfl rfl)
theorem dX1_compare_28 : decode cX1_compare 28 = .ok (.iload_n 1, 1) := dk_27 (dk_at dksX1_compare_1 6 rfl rfl)
theorem dX1_compare_29 : decode cX1_compare 29 = .ok (.iaload, 1) := dk_46 (dk_at dksX1_compare_1 7 rfl rfl)
theorem dX1_compare_30 : decode cX1_compare 30 = .ok (.aload_n 0, 1) := dk_42 (dk_at dksX1_compare_1 8 rfl rfl)
theorem dX1_compare_31 : decode cX1_compare 31 = .ok (.getfield 1, 3) := dk_180 0 1 (dk_at dksX1_compare_1 9 rfl rfl)
theorem dX1_compare_34 : decode cX1_compare 34 = .ok (.getfield 13, 3) := dk_180 0 13 (dk_at dksX1_compare_1 12 rfl rfl)
theorem dX1_compare_37 : decode cX1_compare 37 = .ok (.iload_n 2, 1) := dk_28 (dk_at dksX1_compare_1 15 rfl rfl)
theorem dX1_compare_38 : decode cX1_compare 38 = .ok (.iaload, 1) := dk_46 (dk_at dksX1_compare_1 16 rfl rfl)
theorem dX1_compare_39 : decode cX1_compare 39 = .ok (.if_icmp .ge 7, 3) := dk_162 0 7 (dk_at dksX1_compare_1 17 rfl rfl)
theorem dX1_compare_42 : decode cX1_compare 42 = .ok (.iconst (-1), 1) := dk_2 (dk_at dksX1_compare_1 20 rfl rfl)
theorem dX1_compare_43 : decode cX1_compare 43 = .ok (.goto 4, 3) := dk_167 0 4 (dk_at dksX1_compare_1 21 rfl rfl)
theorem dX1_compare_46 : decode cX1_compare 46 = .ok (.iconst 1, 1) := dk_4 (dk_at dksX1_compare_2 0 rfl rfl)
theorem dX1_compare_47 : decode cX1_compare 47 = .ok (.ireturn, 1) := dk_172 (dk_at dksX1_compare_2 1 rfl rfl)
theorem dX1_compare_48 : decode cX1_compare 48 = .ok (.aload_n 0, 1) := dk_42 (dk_at dksX1_compare_2 2 rfl rfl)
theorem dX1_compare_49 : decode cX1_compare 49 = .ok (.getfield 1, 3) := dk_180 0 1 (dk_at dksX1_compare_2 3 rfl rfl)
theorem dX1_compare_52 : decode cX1_compare 52 = .ok (.getfield 19, 3) := dk_180 0 19 (dk_at dksX1_compare_2 6 rfl rfl)
theorem dX1_compare_55 : decode cX1_compare 55 = .ok (.iload_n 1, 1) := dk_27 (dk_at dksX1_compare_2 9 rfl rfl)
theorem dX1_compare_56 : decode cX1_compare 56 = .ok (.iaload, 1) := dk_46 (dk_at dksX1_compare_2 10 rfl rfl)
theorem dX1_compare_57 : decode cX1_compare 57 = .ok (.aload_n 0, 1) := dk_42 (dk_at dksX1_compare_2 11 rfl rfl)
theorem dX1_compare_58 : decode cX1_compare 58 = .ok (.getfield 1, 3) := dk_180 0 1 (dk_at dksX1_compare_2 12 rfl rfl)
theorem dX1_compare_61 : decode cX1_compare 61 = .ok (.getfield 19, 3) := dk_180 0 19 (dk_at dksX1_compare_2 15 rfl rfl)
theorem dX1_compare_64 : decode cX1_compare 64 = .ok (.iload_n 2, 1) := dk_28 (dk_at dksX1_compare_2 18 rfl rfl)
theorem dX1_compare_65 : decode cX1_compare 65 = .ok (.iaload, 1) := dk_46 (dk_at dksX1_compare_2 19 rfl rfl)
theorem dX1_compare_66 : decode cX1_compare 66 = .ok (.if_icmp .ge 7, 3) := dk_162 0 7 (dk_at dksX1_compare_2 20 rfl rfl)
theorem dX1_compare_69 : decode cX1_compare 69 = .ok (.iconst (-1), 1) := dk_2 (dk_at dksX1_compare_2 23 rfl rfl)
theorem dX1_compare_70 : decode cX1_compare 70 = .ok (.goto 29, 3) := dk_167 0 29 (dk_at dksX1_compare_3 0 rfl rfl)
theorem dX1_compare_73 : decode cX1_compare 73 = .ok (.aload_n 0, 1) := dk_42 (dk_at dksX1_compare_3 3 rfl rfl)
theorem dX1_compare_74 : decode cX1_compare 74 = .ok (.getfield 1, 3) := dk_180 0 1 (dk_at dksX1_compare_3 4 rfl rfl)
theorem dX1_compare_77 : decode cX1_compare 77 = .ok (.getfield 19, 3) := dk_180 0 19 (dk_at dksX1_compare_3 7 rfl rfl)
theorem dX1_compare_80 : decode cX1_compare 80 = .ok (.iload_n 1, 1) := dk_27 (dk_at dksX1_compare_3 10 rfl rfl)
theorem dX1_compare_81 : decode cX1_compare 81 = .ok (.iaload, 1) := dk_46 (dk_at dksX1_compare_3 11 rfl rfl)
theorem dX1_compare_82 : decode cX1_compare 82 = .ok (.aload_n 0, 1) := dk_42 (dk_at dksX1_compare_3 12 rfl rfl)
theorem dX1_compare_83 : decode cX1_compare 83 = .ok (.getfield 1, 3) := dk_180 0 1 (dk_at dksX1_compare_3 13 rfl rfl)
theorem dX1_compare_86 : decode cX1_compare 86 = .ok (.getfield 19, 3) := dk_180 0 19 (dk_at dksX1_compare_3 16 rfl rfl)
theorem dX1_compare_89 : decode cX1_compare 89 = .ok (.iload_n 2, 1) := dk_28 (dk_at dksX1_compare_3 19 rfl rfl)
theorem dX1_compare_90 : decode cX1_compare 90 = .ok (.iaload, 1) := dk_46 (dk_at dksX1_compare_3 20 rfl rfl)
theorem dX1_compare_91 : decode cX1_compare 91 = .ok (.if_icmp .le 7, 3) := dk_164 0 7 (dk_at dksX1_compare_3 21 rfl rfl)
theorem dX1_compare_94 : decode cX1_compare 94 = .ok (.iconst 1, 1) := dk_4 (dk_at dksX1_compare_4 0 rfl rfl)
theorem dX1_compare_95 : decode cX1_compare 95 = .ok (.goto 4, 3) := dk_167 0 4 (dk_at dksX1_compare_4 1 rfl rfl)
theorem dX1_compare_98 : decode cX1_compare 98 = .ok (.iconst 0, 1) := dk_3 (dk_at dksX1_compare_4 4 rfl rfl)
theorem dX1_compare_99 : decode cX1_compare 99 = .ok (.ireturn, 1) := dk_172 (dk_at dksX1_compare_4 5 rfl rfl)
abbrev cX1_swap : ByteArray := prog_4_method_3_code
def yX1_swap : MethodName := ⟨RX1, "swap", "(II)V"⟩
def dkwX1_swap_3 : List UInt8 := [180, 0, 19, 28, 29, 79, 177]
abbrev dktX1_swap_3 : List UInt8 := dkwX1_swap_3 ++ []
def dkwX1_swap_2 : List UInt8 := [46, 62, 42, 180, 0, 1, 180, 0, 19, 27, 42, 180, 0, 1, 180, 0, 19, 28, 46, 79, 42, 180, 0, 1]
abbrev dktX1_swap_2 : List UInt8 := dkwX1_swap_2 ++ dktX1_swap_3
def dkwX1_swap_1 : List UInt8 := [180, 0, 13, 28, 46, 79, 42, 180, 0, 1, 180, 0, 13, 28, 29, 79, 42, 180, 0, 1, 180, 0, 19, 27]
abbrev dktX1_swap_1 : List UInt8 := dkwX1_swap_1 ++ dktX1_swap_2
def dkwX1_swap_0 : List UInt8 := [42, 180, 0, 1, 180, 0, 13, 27, 46, 62, 42, 180, 0, 1, 180, 0, 13, 27, 42, 180, 0, 1]
abbrev dktX1_swap_0 : List UInt8 := dkwX1_swap_0 ++ dktX1_swap_1
theorem dksX1_swap_0 : cX1_swap.data.toList.drop 0 = dktX1_swap_0 := by decide +kernel
theorem dksX1_swap_1 : cX1_swap.data.toList.drop 22 = dktX1_swap_1 := dk_seg dksX1_swap_0 22 rfl rfl
theorem dksX1_swap_2 : cX1_swap.data.toList.drop 46 = dktX1_swap_2 := dk_seg dksX1_swap_1 24 rfl rfl
theorem dksX1_swap_3 : cX1_swap.data.toList.drop 70 = dktX1_swap_3 := dk_seg dksX1_swap_2 24 rfl rfl
theorem dX1_swap_0 : decode cX1_swap 0 = .ok (.aload_n 0, 1) := dk_42 (dk_at dksX1_swap_0 0 rfl rfl)
theorem dX1_swap_1 : decode cX1_swap 1 = .ok (.getfield 1, 3) := dk_180 0 1 (dk_at dksX1_swap_0 1 rfl rfl)
theorem dX1_swap_4 : decode cX1_swap 4 = .ok (.getfield 13, 3) := dk_180 0 13 (dk_at dksX1_swap_0 4 rfl rfl)
theorem dX1_swap_7 : decode cX1_swap 7 = .ok (.iload_n 1, 1) := dk_27 (dk_at dksX1_swap_0 7 rfl rfl)
theorem dX1_swap_8 : decode cX1_swap 8 = .ok (.iaload, 1) := dk_46 (dk_at dksX1_swap_0 8 rfl rfl)
theorem dX1_swap_9 : decode cX1_swap 9 = .ok (.istore_n 3, 1) := dk_62 (dk_at dksX1_swap_0 9 rfl rfl)
theorem dX1_swap_10 : decode cX1_swap 10 = .ok (.aload_n 0, 1) := dk_42 (dk_at dksX1_swap_0 10 rfl rfl)
theorem dX1_swap_11 : decode cX1_swap 11 = .ok (.getfield 1, 3) := dk_180 0 1 (dk_at dksX1_swap_0 11 rfl rfl)
theorem dX1_swap_14 : decode cX1_swap 14 = .ok (.getfield 13, 3) := dk_180 0 13 (dk_at dksX1_swap_0 14 rfl rfl)
theorem dX1_swap_17 : decode cX1_swap 17 = .ok (.iload_n 1, 1) := dk_27 (dk_at dksX1_swap_0 17 rfl rfl)
theorem dX1_swap_18 : decode cX1_swap 18 = .ok (.aload_n 0, 1) := dk_42 (dk_at dksX1_swap_0 18 rfl rfl)
theorem dX1_swap_19 : decode cX1_swap 19 = .ok (.getfield 1, 3) := dk_180 0 1 (dk_at dksX1_swap_0 19 rfl rfl)
theorem dX1_swap_22 : decode cX1_swap 22 = .ok (.getfield 13, 3) := dk_180 0 13 (dk_at dksX1_swap_1 0 rfl rfl)
theorem dX1_swap_25 : decode cX1_swap 25 = .ok (.iload_n 2, 1) := dk_28 (dk_at dksX1_swap_1 3 rfl rfl)
theorem dX1_swap_26 : decode cX1_swap 26 = .ok (.iaload, 1) := dk_46 (dk_at dksX1_swap_1 4 rfl rfl)
theorem dX1_swap_27 : decode cX1_swap 27 = .ok (.iastore, 1) := dk_79 (dk_at dksX1_swap_1 5 rfl rfl)
theorem dX1_swap_28 : decode cX1_swap 28 = .ok (.aload_n 0, 1) := dk_42 (dk_at dksX1_swap_1 6 rfl rfl)
theorem dX1_swap_29 : decode cX1_swap 29 = .ok (.getfield 1, 3) := dk_180 0 1 (dk_at dksX1_swap_1 7 rfl rfl)
theorem dX1_swap_32 : decode cX1_swap 32 = .ok (.getfield 13, 3) := dk_180 0 13 (dk_at dksX1_swap_1 10 rfl rfl)
theorem dX1_swap_35 : decode cX1_swap 35 = .ok (.iload_n 2, 1) := dk_28 (dk_at dksX1_swap_1 13 rfl rfl)
theorem dX1_swap_36 : decode cX1_swap 36 = .ok (.iload_n 3, 1) := dk_29 (dk_at dksX1_swap_1 14 rfl rfl)
theorem dX1_swap_37 : decode cX1_swap 37 = .ok (.iastore, 1) := dk_79 (dk_at dksX1_swap_1 15 rfl rfl)
theorem dX1_swap_38 : decode cX1_swap 38 = .ok (.aload_n 0, 1) := dk_42 (dk_at dksX1_swap_1 16 rfl rfl)
theorem dX1_swap_39 : decode cX1_swap 39 = .ok (.getfield 1, 3) := dk_180 0 1 (dk_at dksX1_swap_1 17 rfl rfl)
theorem dX1_swap_42 : decode cX1_swap 42 = .ok (.getfield 19, 3) := dk_180 0 19 (dk_at dksX1_swap_1 20 rfl rfl)
theorem dX1_swap_45 : decode cX1_swap 45 = .ok (.iload_n 1, 1) := dk_27 (dk_at dksX1_swap_1 23 rfl rfl)
theorem dX1_swap_46 : decode cX1_swap 46 = .ok (.iaload, 1) := dk_46 (dk_at dksX1_swap_2 0 rfl rfl)
theorem dX1_swap_47 : decode cX1_swap 47 = .ok (.istore_n 3, 1) := dk_62 (dk_at dksX1_swap_2 1 rfl rfl)
theorem dX1_swap_48 : decode cX1_swap 48 = .ok (.aload_n 0, 1) := dk_42 (dk_at dksX1_swap_2 2 rfl rfl)
theorem dX1_swap_49 : decode cX1_swap 49 = .ok (.getfield 1, 3) := dk_180 0 1 (dk_at dksX1_swap_2 3 rfl rfl)
theorem dX1_swap_52 : decode cX1_swap 52 = .ok (.getfield 19, 3) := dk_180 0 19 (dk_at dksX1_swap_2 6 rfl rfl)
theorem dX1_swap_55 : decode cX1_swap 55 = .ok (.iload_n 1, 1) := dk_27 (dk_at dksX1_swap_2 9 rfl rfl)
theorem dX1_swap_56 : decode cX1_swap 56 = .ok (.aload_n 0, 1) := dk_42 (dk_at dksX1_swap_2 10 rfl rfl)
theorem dX1_swap_57 : decode cX1_swap 57 = .ok (.getfield 1, 3) := dk_180 0 1 (dk_at dksX1_swap_2 11 rfl rfl)
theorem dX1_swap_60 : decode cX1_swap 60 = .ok (.getfield 19, 3) := dk_180 0 19 (dk_at dksX1_swap_2 14 rfl rfl)
theorem dX1_swap_63 : decode cX1_swap 63 = .ok (.iload_n 2, 1) := dk_28 (dk_at dksX1_swap_2 17 rfl rfl)
theorem dX1_swap_64 : decode cX1_swap 64 = .ok (.iaload, 1) := dk_46 (dk_at dksX1_swap_2 18 rfl rfl)
theorem dX1_swap_65 : decode cX1_swap 65 = .ok (.iastore, 1) := dk_79 (dk_at dksX1_swap_2 19 rfl rfl)
theorem dX1_swap_66 : decode cX1_swap 66 = .ok (.aload_n 0, 1) := dk_42 (dk_at dksX1_swap_2 20 rfl rfl)
theorem dX1_swap_67 : decode cX1_swap 67 = .ok (.getfield 1, 3) := dk_180 0 1 (dk_at dksX1_swap_2 21 rfl rfl)
theorem dX1_swap_70 : decode cX1_swap 70 = .ok (.getfield 19, 3) := dk_180 0 19 (dk_at dksX1_swap_3 0 rfl rfl)
theorem dX1_swap_73 : decode cX1_swap 73 = .ok (.iload_n 2, 1) := dk_28 (dk_at dksX1_swap_3 3 rfl rfl)
theorem dX1_swap_74 : decode cX1_swap 74 = .ok (.iload_n 3, 1) := dk_29 (dk_at dksX1_swap_3 4 rfl rfl)
theorem dX1_swap_75 : decode cX1_swap 75 = .ok (.iastore, 1) := dk_79 (dk_at dksX1_swap_3 5 rfl rfl)
theorem dX1_swap_76 : decode cX1_swap 76 = .ok (.return_, 1) := dk_177 (dk_at dksX1_swap_3 6 rfl rfl)
theorem q6 : (Jvm.Cond.initialized "SwapSortDesk$Rows") ∈ lw_all := lw_g (lw_at lw_m0 2 rfl) rfl
theorem q19 : (Jvm.Cond.instantiable "SwapSortDesk$Rows" (1 : Nat)) ∈ lw_all := lw_g (lw_at lw_m0 15 rfl) rfl
theorem q21 : (Jvm.Cond.instanceMethod ({ cls := "SwapSortDesk$Rows", name := "<init>", desc := "(LSwapSortDesk;)V" } : Jvm.MethodName)) ∈ lw_all := lw_g (lw_at lw_m0 17 rfl) rfl
theorem q22 : (Jvm.Cond.code ({ cls := "SwapSortDesk$Rows", name := "<init>", desc := "(LSwapSortDesk;)V" } : Jvm.MethodName) prog_4_method_1_code (2 : Nat) (Option.none : Option Jvm.ClassFile.FieldType)) ∈ lw_all := lw_g (lw_at lw_m0 18 rfl) rfl
theorem q23 : (Jvm.Cond.methodLink "SwapSortDesk$Rows" (7 : Nat) ({ cls := "java/lang/Object", name := "<init>", desc := "()V" } : Jvm.MethodName)) ∈ lw_all := lw_g (lw_at lw_m0 19 rfl) rfl
theorem q24 : (Jvm.Cond.fieldLink "SwapSortDesk$Rows" (1 : Nat) "SwapSortDesk$Rows" "this$0" "LSwapSortDesk;") ∈ lw_all := lw_g (lw_at lw_m0 20 rfl) rfl
theorem q25 : (Jvm.Cond.laysFinal "SwapSortDesk$Rows" "SwapSortDesk$Rows" "this$0" "LSwapSortDesk;") ∈ lw_all := lw_g (lw_at lw_m0 21 rfl) rfl
theorem q26 : (Jvm.Cond.soleField "SwapSortDesk$Rows" "this$0") ∈ lw_all := lw_g (lw_at lw_m0 22 rfl) rfl
theorem q27 : (Jvm.Cond.superclass "SwapSortDesk$Rows" "java/lang/Object") ∈ lw_all := lw_g (lw_at lw_m0 23 rfl) rfl
theorem q30 : (Jvm.Cond.fieldLinkNest "SwapSortDesk$Rows" (13 : Nat) "SwapSortDesk" "first" "[I" "SwapSortDesk") ∈ lw_tbl := lw_at lw_m0 26 rfl
theorem q32 : (Jvm.Cond.fieldLinkNest "SwapSortDesk$Rows" (19 : Nat) "SwapSortDesk" "second" "[I" "SwapSortDesk") ∈ lw_tbl := lw_at lw_m0 28 rfl
theorem q77 : (Jvm.Cond.castable "SwapSortDesk$Rows" "IntComparator") ∈ lw_tbl := lw_at lw_m0 73 rfl
theorem q78 : (Jvm.Cond.selects "SwapSortDesk$Rows" ({ cls := "IntComparator", name := "compare", desc := "(II)I" } : Jvm.MethodName) ({ cls := "SwapSortDesk$Rows", name := "compare", desc := "(II)I" } : Jvm.MethodName)) ∈ lw_all := lw_g (lw_at lw_m0 74 rfl) rfl
theorem q79 : (Jvm.Cond.unhidden "SwapSortDesk$Rows" "compare" "(II)I") ∈ lw_tbl := lw_at lw_m0 75 rfl
theorem q80 : (Jvm.Cond.instanceMethod ({ cls := "SwapSortDesk$Rows", name := "compare", desc := "(II)I" } : Jvm.MethodName)) ∈ lw_all := lw_g (lw_at lw_m0 76 rfl) rfl
theorem q81 : (Jvm.Cond.publicMethod ({ cls := "SwapSortDesk$Rows", name := "compare", desc := "(II)I" } : Jvm.MethodName)) ∈ lw_tbl := lw_at lw_m0 77 rfl
theorem q82 : (Jvm.Cond.code ({ cls := "SwapSortDesk$Rows", name := "compare", desc := "(II)I" } : Jvm.MethodName) prog_4_method_2_code (3 : Nat) (Option.some Jvm.ClassFile.FieldType.int)) ∈ lw_all := lw_g (lw_at lw_m0 78 rfl) rfl
theorem q87 : (Jvm.Cond.castable "SwapSortDesk$Rows" "Swapper") ∈ lw_tbl := lw_at lw_m0 83 rfl
theorem q88 : (Jvm.Cond.selects "SwapSortDesk$Rows" ({ cls := "Swapper", name := "swap", desc := "(II)V" } : Jvm.MethodName) ({ cls := "SwapSortDesk$Rows", name := "swap", desc := "(II)V" } : Jvm.MethodName)) ∈ lw_all := lw_g (lw_at lw_m0 84 rfl) rfl
theorem q89 : (Jvm.Cond.unhidden "SwapSortDesk$Rows" "swap" "(II)V") ∈ lw_tbl := lw_at lw_m0 85 rfl
theorem q90 : (Jvm.Cond.instanceMethod ({ cls := "SwapSortDesk$Rows", name := "swap", desc := "(II)V" } : Jvm.MethodName)) ∈ lw_all := lw_g (lw_at lw_m0 86 rfl) rfl
theorem q91 : (Jvm.Cond.publicMethod ({ cls := "SwapSortDesk$Rows", name := "swap", desc := "(II)V" } : Jvm.MethodName)) ∈ lw_tbl := lw_at lw_m0 87 rfl
theorem q92 : (Jvm.Cond.code ({ cls := "SwapSortDesk$Rows", name := "swap", desc := "(II)V" } : Jvm.MethodName) prog_4_method_3_code (4 : Nat) (Option.none : Option Jvm.ClassFile.FieldType)) ∈ lw_all := lw_g (lw_at lw_m0 88 rfl) rfl
theorem in_X1 : ∀ w ∈ wsX10, w ∈ lw_all := lw_in wsX10 [25] (by decide +kernel) (by decide +kernel)
/-! SwapSortDeskModel -/
set_option maxRecDepth 100000
def RX2 : String := "SwapSortDeskModel"
def TX2 : u_T := fun k => match k with
  | 0 => ("SwapSortDeskModel", "first", "[I", true)
  | _ => ("SwapSortDeskModel", "second", "[I", true)
def tyX2 : Nat → FieldType := fun k => match k with
  | 0 => .array .int
  | _ => .array .int
abbrev wsX20 : List Cond := u_ws RX2 TX2 2
theorem nmX2 : ∀ a, a < 2 → ∀ b, b < 2 → a ≠ b → (TX2 a).2.1 ≠ (TX2 b).2.1 := by decide +kernel
theorem tyX2_ok : ∀ k, k < 2 → parseFieldDescriptor (TX2 k).2.2.1 = some (tyX2 k) := by decide +kernel
abbrev cX2_init : ByteArray := prog_6_method_1_code
def yX2_init : MethodName := ⟨RX2, "<init>", "()V"⟩
def dkwX2_init_0 : List UInt8 := [42, 183, 0, 1, 42, 16, 48, 188, 10, 181, 0, 9, 42, 16, 48, 188, 10, 181, 0, 13, 177]
abbrev dktX2_init_0 : List UInt8 := dkwX2_init_0 ++ []
theorem dksX2_init_0 : cX2_init.data.toList.drop 0 = dktX2_init_0 := by decide +kernel
theorem dX2_init_0 : decode cX2_init 0 = .ok (.aload_n 0, 1) := dk_42 (dk_at dksX2_init_0 0 rfl rfl)
theorem dX2_init_1 : decode cX2_init 1 = .ok (.invokespecial 1, 3) := dk_183 0 1 (dk_at dksX2_init_0 1 rfl rfl)
theorem dX2_init_4 : decode cX2_init 4 = .ok (.aload_n 0, 1) := dk_42 (dk_at dksX2_init_0 4 rfl rfl)
theorem dX2_init_5 : decode cX2_init 5 = .ok (.bipush 48, 2) := dk_16 48 (dk_at dksX2_init_0 5 rfl rfl)
theorem dX2_init_7 : decode cX2_init 7 = .ok (.newarray .int, 2) := dk_188_10 (dk_at dksX2_init_0 7 rfl rfl)
theorem dX2_init_9 : decode cX2_init 9 = .ok (.putfield 9, 3) := dk_181 0 9 (dk_at dksX2_init_0 9 rfl rfl)
theorem dX2_init_12 : decode cX2_init 12 = .ok (.aload_n 0, 1) := dk_42 (dk_at dksX2_init_0 12 rfl rfl)
theorem dX2_init_13 : decode cX2_init 13 = .ok (.bipush 48, 2) := dk_16 48 (dk_at dksX2_init_0 13 rfl rfl)
theorem dX2_init_15 : decode cX2_init 15 = .ok (.newarray .int, 2) := dk_188_10 (dk_at dksX2_init_0 15 rfl rfl)
theorem dX2_init_17 : decode cX2_init 17 = .ok (.putfield 13, 3) := dk_181 0 13 (dk_at dksX2_init_0 17 rfl rfl)
theorem dX2_init_20 : decode cX2_init 20 = .ok (.return_, 1) := dk_177 (dk_at dksX2_init_0 20 rfl rfl)
abbrev cX2_set : ByteArray := prog_6_method_3_code
def yX2_set : MethodName := ⟨RX2, "set", "(III)V"⟩
def dkwX2_set_0 : List UInt8 := [42, 180, 0, 9, 27, 184, 0, 17, 28, 79, 42, 180, 0, 13, 27, 184, 0, 17, 29, 79, 177]
abbrev dktX2_set_0 : List UInt8 := dkwX2_set_0 ++ []
theorem dksX2_set_0 : cX2_set.data.toList.drop 0 = dktX2_set_0 := by decide +kernel
theorem dX2_set_0 : decode cX2_set 0 = .ok (.aload_n 0, 1) := dk_42 (dk_at dksX2_set_0 0 rfl rfl)
theorem dX2_set_1 : decode cX2_set 1 = .ok (.getfield 9, 3) := dk_180 0 9 (dk_at dksX2_set_0 1 rfl rfl)
theorem dX2_set_4 : decode cX2_set 4 = .ok (.iload_n 1, 1) := dk_27 (dk_at dksX2_set_0 4 rfl rfl)
theorem dX2_set_5 : decode cX2_set 5 = .ok (.invokestatic 17, 3) := dk_184 0 17 (dk_at dksX2_set_0 5 rfl rfl)
theorem dX2_set_8 : decode cX2_set 8 = .ok (.iload_n 2, 1) := dk_28 (dk_at dksX2_set_0 8 rfl rfl)
theorem dX2_set_9 : decode cX2_set 9 = .ok (.iastore, 1) := dk_79 (dk_at dksX2_set_0 9 rfl rfl)
theorem dX2_set_10 : decode cX2_set 10 = .ok (.aload_n 0, 1) := dk_42 (dk_at dksX2_set_0 10 rfl rfl)
theorem dX2_set_11 : decode cX2_set 11 = .ok (.getfield 13, 3) := dk_180 0 13 (dk_at dksX2_set_0 11 rfl rfl)
theorem dX2_set_14 : decode cX2_set 14 = .ok (.iload_n 1, 1) := dk_27 (dk_at dksX2_set_0 14 rfl rfl)
theorem dX2_set_15 : decode cX2_set 15 = .ok (.invokestatic 17, 3) := dk_184 0 17 (dk_at dksX2_set_0 15 rfl rfl)
theorem dX2_set_18 : decode cX2_set 18 = .ok (.iload_n 3, 1) := dk_29 (dk_at dksX2_set_0 18 rfl rfl)
theorem dX2_set_19 : decode cX2_set 19 = .ok (.iastore, 1) := dk_79 (dk_at dksX2_set_0 19 rfl rfl)
theorem dX2_set_20 : decode cX2_set 20 = .ok (.return_, 1) := dk_177 (dk_at dksX2_set_0 20 rfl rfl)
abbrev cX2_place : ByteArray := prog_6_method_2_code
def yX2_place : MethodName := ⟨RX2, "place", "(I)I"⟩
def dkwX2_place_0 : List UInt8 := [26, 18, 16, 126, 16, 48, 112, 172]
abbrev dktX2_place_0 : List UInt8 := dkwX2_place_0 ++ []
theorem dksX2_place_0 : cX2_place.data.toList.drop 0 = dktX2_place_0 := by decide +kernel
theorem dX2_place_0 : decode cX2_place 0 = .ok (.iload_n 0, 1) := dk_26 (dk_at dksX2_place_0 0 rfl rfl)
theorem dX2_place_1 : decode cX2_place 1 = .ok (.ldc 16, 2) := dk_18 16 (dk_at dksX2_place_0 1 rfl rfl)
theorem dX2_place_3 : decode cX2_place 3 = .ok (.iand, 1) := dk_126 (dk_at dksX2_place_0 3 rfl rfl)
theorem dX2_place_4 : decode cX2_place 4 = .ok (.bipush 48, 2) := dk_16 48 (dk_at dksX2_place_0 4 rfl rfl)
theorem dX2_place_6 : decode cX2_place 6 = .ok (.irem, 1) := dk_112 (dk_at dksX2_place_0 6 rfl rfl)
theorem dX2_place_7 : decode cX2_place 7 = .ok (.ireturn, 1) := dk_172 (dk_at dksX2_place_0 7 rfl rfl)
abbrev cX2_few : ByteArray := prog_6_method_4_code
def yX2_few : MethodName := ⟨RX2, "few", "(III)V"⟩
def dkwX2_few_0 : List UInt8 := [42, 27, 28, 6, 126, 29, 6, 126, 182, 0, 21, 177]
abbrev dktX2_few_0 : List UInt8 := dkwX2_few_0 ++ []
theorem dksX2_few_0 : cX2_few.data.toList.drop 0 = dktX2_few_0 := by decide +kernel
theorem dX2_few_0 : decode cX2_few 0 = .ok (.aload_n 0, 1) := dk_42 (dk_at dksX2_few_0 0 rfl rfl)
theorem dX2_few_1 : decode cX2_few 1 = .ok (.iload_n 1, 1) := dk_27 (dk_at dksX2_few_0 1 rfl rfl)
theorem dX2_few_2 : decode cX2_few 2 = .ok (.iload_n 2, 1) := dk_28 (dk_at dksX2_few_0 2 rfl rfl)
theorem dX2_few_3 : decode cX2_few 3 = .ok (.iconst 3, 1) := dk_6 (dk_at dksX2_few_0 3 rfl rfl)
theorem dX2_few_4 : decode cX2_few 4 = .ok (.iand, 1) := dk_126 (dk_at dksX2_few_0 4 rfl rfl)
theorem dX2_few_5 : decode cX2_few 5 = .ok (.iload_n 3, 1) := dk_29 (dk_at dksX2_few_0 5 rfl rfl)
theorem dX2_few_6 : decode cX2_few 6 = .ok (.iconst 3, 1) := dk_6 (dk_at dksX2_few_0 6 rfl rfl)
theorem dX2_few_7 : decode cX2_few 7 = .ok (.iand, 1) := dk_126 (dk_at dksX2_few_0 7 rfl rfl)
theorem dX2_few_8 : decode cX2_few 8 = .ok (.invokevirtual 21, 3) := dk_182 0 21 (dk_at dksX2_few_0 8 rfl rfl)
theorem dX2_few_11 : decode cX2_few 11 = .ok (.return_, 1) := dk_177 (dk_at dksX2_few_0 11 rfl rfl)
abbrev cX2_first : ByteArray := prog_6_method_5_code
def yX2_first : MethodName := ⟨RX2, "first", "(I)I"⟩
def dkwX2_first_0 : List UInt8 := [42, 180, 0, 9, 27, 184, 0, 17, 46, 172]
abbrev dktX2_first_0 : List UInt8 := dkwX2_first_0 ++ []
theorem dksX2_first_0 : cX2_first.data.toList.drop 0 = dktX2_first_0 := by decide +kernel
theorem dX2_first_0 : decode cX2_first 0 = .ok (.aload_n 0, 1) := dk_42 (dk_at dksX2_first_0 0 rfl rfl)
theorem dX2_first_1 : decode cX2_first 1 = .ok (.getfield 9, 3) := dk_180 0 9 (dk_at dksX2_first_0 1 rfl rfl)
theorem dX2_first_4 : decode cX2_first 4 = .ok (.iload_n 1, 1) := dk_27 (dk_at dksX2_first_0 4 rfl rfl)
theorem dX2_first_5 : decode cX2_first 5 = .ok (.invokestatic 17, 3) := dk_184 0 17 (dk_at dksX2_first_0 5 rfl rfl)
theorem dX2_first_8 : decode cX2_first 8 = .ok (.iaload, 1) := dk_46 (dk_at dksX2_first_0 8 rfl rfl)
theorem dX2_first_9 : decode cX2_first 9 = .ok (.ireturn, 1) := dk_172 (dk_at dksX2_first_0 9 rfl rfl)
abbrev cX2_second : ByteArray := prog_6_method_6_code
def yX2_second : MethodName := ⟨RX2, "second", "(I)I"⟩
def dkwX2_second_0 : List UInt8 := [42, 180, 0, 13, 27, 184, 0, 17, 46, 172]
abbrev dktX2_second_0 : List UInt8 := dkwX2_second_0 ++ []
theorem dksX2_second_0 : cX2_second.data.toList.drop 0 = dktX2_second_0 := by decide +kernel
theorem dX2_second_0 : decode cX2_second 0 = .ok (.aload_n 0, 1) := dk_42 (dk_at dksX2_second_0 0 rfl rfl)
theorem dX2_second_1 : decode cX2_second 1 = .ok (.getfield 13, 3) := dk_180 0 13 (dk_at dksX2_second_0 1 rfl rfl)
theorem dX2_second_4 : decode cX2_second 4 = .ok (.iload_n 1, 1) := dk_27 (dk_at dksX2_second_0 4 rfl rfl)
theorem dX2_second_5 : decode cX2_second 5 = .ok (.invokestatic 17, 3) := dk_184 0 17 (dk_at dksX2_second_0 5 rfl rfl)
theorem dX2_second_8 : decode cX2_second 8 = .ok (.iaload, 1) := dk_46 (dk_at dksX2_second_0 8 rfl rfl)
theorem dX2_second_9 : decode cX2_second 9 = .ok (.ireturn, 1) := dk_172 (dk_at dksX2_second_0 9 rfl rfl)
abbrev cX2_quick : ByteArray := prog_6_method_9_code
def yX2_quick : MethodName := ⟨RX2, "quick", "(II)V"⟩
def dkwX2_quick_0 : List UInt8 := [42, 27, 28, 182, 0, 29, 177]
abbrev dktX2_quick_0 : List UInt8 := dkwX2_quick_0 ++ []
theorem dksX2_quick_0 : cX2_quick.data.toList.drop 0 = dktX2_quick_0 := by decide +kernel
theorem dX2_quick_0 : decode cX2_quick 0 = .ok (.aload_n 0, 1) := dk_42 (dk_at dksX2_quick_0 0 rfl rfl)
theorem dX2_quick_1 : decode cX2_quick 1 = .ok (.iload_n 1, 1) := dk_27 (dk_at dksX2_quick_0 1 rfl rfl)
theorem dX2_quick_2 : decode cX2_quick 2 = .ok (.iload_n 2, 1) := dk_28 (dk_at dksX2_quick_0 2 rfl rfl)
theorem dX2_quick_3 : decode cX2_quick 3 = .ok (.invokevirtual 29, 3) := dk_182 0 29 (dk_at dksX2_quick_0 3 rfl rfl)
theorem dX2_quick_6 : decode cX2_quick 6 = .ok (.return_, 1) := dk_177 (dk_at dksX2_quick_0 6 rfl rfl)
abbrev cX2_order : ByteArray := prog_6_method_8_code
def yX2_order : MethodName := ⟨RX2, "order", "(II)V"⟩
def dkwX2_order_6 : List UInt8 := [132, 5, 1, 167, 255, 139, 177]
abbrev dktX2_order_6 : List UInt8 := dkwX2_order_6 ++ []
def dkwX2_order_5 : List UInt8 := [21, 5, 46, 79, 42, 180, 0, 9, 21, 5, 21, 7, 79, 42, 180, 0, 13, 21, 5, 21, 8, 79]
abbrev dktX2_order_5 : List UInt8 := dkwX2_order_5 ++ dktX2_order_6
def dkwX2_order_4 : List UInt8 := [180, 0, 9, 21, 6, 42, 180, 0, 9, 21, 5, 46, 79, 42, 180, 0, 13, 21, 6, 42, 180, 0, 13]
abbrev dktX2_order_4 : List UInt8 := dkwX2_order_4 ++ dktX2_order_5
def dkwX2_order_3 : List UInt8 := [167, 255, 226, 42, 180, 0, 9, 21, 6, 46, 54, 7, 42, 180, 0, 13, 21, 6, 46, 54, 8, 42]
abbrev dktX2_order_3 : List UInt8 := dkwX2_order_3 ++ dktX2_order_4
def dkwX2_order_2 : List UInt8 := [42, 21, 7, 21, 6, 182, 0, 25, 153, 0, 8, 21, 7, 167, 0, 5, 21, 6, 54, 6, 132, 7, 1]
abbrev dktX2_order_2 : List UInt8 := dkwX2_order_2 ++ dktX2_order_3
def dkwX2_order_1 : List UInt8 := [21, 5, 21, 4, 162, 0, 116, 21, 5, 54, 6, 21, 5, 4, 96, 54, 7, 21, 7, 21, 4, 162, 0, 29]
abbrev dktX2_order_1 : List UInt8 := dkwX2_order_1 ++ dktX2_order_2
def dkwX2_order_0 : List UInt8 := [27, 18, 16, 126, 16, 49, 112, 62, 29, 28, 18, 16, 126, 16, 49, 29, 100, 112, 96, 54, 4, 29, 54, 5]
abbrev dktX2_order_0 : List UInt8 := dkwX2_order_0 ++ dktX2_order_1
theorem dksX2_order_0 : cX2_order.data.toList.drop 0 = dktX2_order_0 := by decide +kernel
theorem dksX2_order_1 : cX2_order.data.toList.drop 24 = dktX2_order_1 := dk_seg dksX2_order_0 24 rfl rfl
theorem dksX2_order_2 : cX2_order.data.toList.drop 48 = dktX2_order_2 := dk_seg dksX2_order_1 24 rfl rfl
theorem dksX2_order_3 : cX2_order.data.toList.drop 71 = dktX2_order_3 := dk_seg dksX2_order_2 23 rfl rfl
theorem dksX2_order_4 : cX2_order.data.toList.drop 93 = dktX2_order_4 := dk_seg dksX2_order_3 22 rfl rfl
theorem dksX2_order_5 : cX2_order.data.toList.drop 116 = dktX2_order_5 := dk_seg dksX2_order_4 23 rfl rfl
theorem dksX2_order_6 : cX2_order.data.toList.drop 138 = dktX2_order_6 := dk_seg dksX2_order_5 22 rfl rfl
theorem dX2_order_0 : decode cX2_order 0 = .ok (.iload_n 1, 1) := dk_27 (dk_at dksX2_order_0 0 rfl rfl)
theorem dX2_order_1 : decode cX2_order 1 = .ok (.ldc 16, 2) := dk_18 16 (dk_at dksX2_order_0 1 rfl rfl)
theorem dX2_order_3 : decode cX2_order 3 = .ok (.iand, 1) := dk_126 (dk_at dksX2_order_0 3 rfl rfl)
theorem dX2_order_4 : decode cX2_order 4 = .ok (.bipush 49, 2) := dk_16 49 (dk_at dksX2_order_0 4 rfl rfl)
theorem dX2_order_6 : decode cX2_order 6 = .ok (.irem, 1) := dk_112 (dk_at dksX2_order_0 6 rfl rfl)
theorem dX2_order_7 : decode cX2_order 7 = .ok (.istore_n 3, 1) := dk_62 (dk_at dksX2_order_0 7 rfl rfl)
theorem dX2_order_8 : decode cX2_order 8 = .ok (.iload_n 3, 1) := dk_29 (dk_at dksX2_order_0 8 rfl rfl)
theorem dX2_order_9 : decode cX2_order 9 = .ok (.iload_n 2, 1) := dk_28 (dk_at dksX2_order_0 9 rfl rfl)
theorem dX2_order_10 : decode cX2_order 10 = .ok (.ldc 16, 2) := dk_18 16 (dk_at dksX2_order_0 10 rfl rfl)
theorem dX2_order_12 : decode cX2_order 12 = .ok (.iand, 1) := dk_126 (dk_at dksX2_order_0 12 rfl rfl)
theorem dX2_order_13 : decode cX2_order 13 = .ok (.bipush 49, 2) := dk_16 49 (dk_at dksX2_order_0 13 rfl rfl)
theorem dX2_order_15 : decode cX2_order 15 = .ok (.iload_n 3, 1) := dk_29 (dk_at dksX2_order_0 15 rfl rfl)
theorem dX2_order_16 : decode cX2_order 16 = .ok (.isub, 1) := dk_100 (dk_at dksX2_order_0 16 rfl rfl)
theorem dX2_order_17 : decode cX2_order 17 = .ok (.irem, 1) := dk_112 (dk_at dksX2_order_0 17 rfl rfl)
theorem dX2_order_18 : decode cX2_order 18 = .ok (.iadd, 1) := dk_96 (dk_at dksX2_order_0 18 rfl rfl)
theorem dX2_order_19 : decode cX2_order 19 = .ok (.istore 4, 2) := dk_54 4 (dk_at dksX2_order_0 19 rfl rfl)
theorem dX2_order_21 : decode cX2_order 21 = .ok (.iload_n 3, 1) := dk_29 (dk_at dksX2_order_0 21 rfl rfl)
theorem dX2_order_22 : decode cX2_order 22 = .ok (.istore 5, 2) := dk_54 5 (dk_at dksX2_order_0 22 rfl rfl)
theorem dX2_order_24 : decode cX2_order 24 = .ok (.iload 5, 2) := dk_21 5 (dk_at dksX2_order_1 0 rfl rfl)
theorem dX2_order_26 : decode cX2_order 26 = .ok (.iload 4, 2) := dk_21 4 (dk_at dksX2_order_1 2 rfl rfl)
theorem dX2_order_28 : decode cX2_order 28 = .ok (.if_icmp .ge 116, 3) := dk_162 0 116 (dk_at dksX2_order_1 4 rfl rfl)
theorem dX2_order_31 : decode cX2_order 31 = .ok (.iload 5, 2) := dk_21 5 (dk_at dksX2_order_1 7 rfl rfl)
theorem dX2_order_33 : decode cX2_order 33 = .ok (.istore 6, 2) := dk_54 6 (dk_at dksX2_order_1 9 rfl rfl)
theorem dX2_order_35 : decode cX2_order 35 = .ok (.iload 5, 2) := dk_21 5 (dk_at dksX2_order_1 11 rfl rfl)
theorem dX2_order_37 : decode cX2_order 37 = .ok (.iconst 1, 1) := dk_4 (dk_at dksX2_order_1 13 rfl rfl)
theorem dX2_order_38 : decode cX2_order 38 = .ok (.iadd, 1) := dk_96 (dk_at dksX2_order_1 14 rfl rfl)
theorem dX2_order_39 : decode cX2_order 39 = .ok (.istore 7, 2) := dk_54 7 (dk_at dksX2_order_1 15 rfl rfl)
theorem dX2_order_41 : decode cX2_order 41 = .ok (.iload 7, 2) := dk_21 7 (dk_at dksX2_order_1 17 rfl rfl)
theorem dX2_order_43 : decode cX2_order 43 = .ok (.iload 4, 2) := dk_21 4 (dk_at dksX2_order_1 19 rfl rfl)
theorem dX2_order_45 : decode cX2_order 45 = .ok (.if_icmp .ge 29, 3) := dk_162 0 29 (dk_at dksX2_order_1 21 rfl rfl)
theorem dX2_order_48 : decode cX2_order 48 = .ok (.aload_n 0, 1) := dk_42 (dk_at dksX2_order_2 0 rfl rfl)
theorem dX2_order_49 : decode cX2_order 49 = .ok (.iload 7, 2) := dk_21 7 (dk_at dksX2_order_2 1 rfl rfl)
theorem dX2_order_51 : decode cX2_order 51 = .ok (.iload 6, 2) := dk_21 6 (dk_at dksX2_order_2 3 rfl rfl)
theorem dX2_order_53 : decode cX2_order 53 = .ok (.invokevirtual 25, 3) := dk_182 0 25 (dk_at dksX2_order_2 5 rfl rfl)
theorem dX2_order_56 : decode cX2_order 56 = .ok (.ifCond .eq 8, 3) := dk_153 0 8 (dk_at dksX2_order_2 8 rfl rfl)
theorem dX2_order_59 : decode cX2_order 59 = .ok (.iload 7, 2) := dk_21 7 (dk_at dksX2_order_2 11 rfl rfl)
theorem dX2_order_61 : decode cX2_order 61 = .ok (.goto 5, 3) := dk_167 0 5 (dk_at dksX2_order_2 13 rfl rfl)
theorem dX2_order_64 : decode cX2_order 64 = .ok (.iload 6, 2) := dk_21 6 (dk_at dksX2_order_2 16 rfl rfl)
theorem dX2_order_66 : decode cX2_order 66 = .ok (.istore 6, 2) := dk_54 6 (dk_at dksX2_order_2 18 rfl rfl)
theorem dX2_order_68 : decode cX2_order 68 = .ok (.iinc 7 1, 3) := dk_132 7 1 (dk_at dksX2_order_2 20 rfl rfl)
theorem dX2_order_71 : decode cX2_order 71 = .ok (.goto (-30), 3) := dk_167 255 226 (dk_at dksX2_order_3 0 rfl rfl)
theorem dX2_order_74 : decode cX2_order 74 = .ok (.aload_n 0, 1) := dk_42 (dk_at dksX2_order_3 3 rfl rfl)
theorem dX2_order_75 : decode cX2_order 75 = .ok (.getfield 9, 3) := dk_180 0 9 (dk_at dksX2_order_3 4 rfl rfl)
theorem dX2_order_78 : decode cX2_order 78 = .ok (.iload 6, 2) := dk_21 6 (dk_at dksX2_order_3 7 rfl rfl)
theorem dX2_order_80 : decode cX2_order 80 = .ok (.iaload, 1) := dk_46 (dk_at dksX2_order_3 9 rfl rfl)
theorem dX2_order_81 : decode cX2_order 81 = .ok (.istore 7, 2) := dk_54 7 (dk_at dksX2_order_3 10 rfl rfl)
theorem dX2_order_83 : decode cX2_order 83 = .ok (.aload_n 0, 1) := dk_42 (dk_at dksX2_order_3 12 rfl rfl)
theorem dX2_order_84 : decode cX2_order 84 = .ok (.getfield 13, 3) := dk_180 0 13 (dk_at dksX2_order_3 13 rfl rfl)
theorem dX2_order_87 : decode cX2_order 87 = .ok (.iload 6, 2) := dk_21 6 (dk_at dksX2_order_3 16 rfl rfl)
theorem dX2_order_89 : decode cX2_order 89 = .ok (.iaload, 1) := dk_46 (dk_at dksX2_order_3 18 rfl rfl)
theorem dX2_order_90 : decode cX2_order 90 = .ok (.istore 8, 2) := dk_54 8 (dk_at dksX2_order_3 19 rfl rfl)
theorem dX2_order_92 : decode cX2_order 92 = .ok (.aload_n 0, 1) := dk_42 (dk_at dksX2_order_3 21 rfl rfl)
theorem dX2_order_93 : decode cX2_order 93 = .ok (.getfield 9, 3) := dk_180 0 9 (dk_at dksX2_order_4 0 rfl rfl)
theorem dX2_order_96 : decode cX2_order 96 = .ok (.iload 6, 2) := dk_21 6 (dk_at dksX2_order_4 3 rfl rfl)
theorem dX2_order_98 : decode cX2_order 98 = .ok (.aload_n 0, 1) := dk_42 (dk_at dksX2_order_4 5 rfl rfl)
theorem dX2_order_99 : decode cX2_order 99 = .ok (.getfield 9, 3) := dk_180 0 9 (dk_at dksX2_order_4 6 rfl rfl)
theorem dX2_order_102 : decode cX2_order 102 = .ok (.iload 5, 2) := dk_21 5 (dk_at dksX2_order_4 9 rfl rfl)
theorem dX2_order_104 : decode cX2_order 104 = .ok (.iaload, 1) := dk_46 (dk_at dksX2_order_4 11 rfl rfl)
theorem dX2_order_105 : decode cX2_order 105 = .ok (.iastore, 1) := dk_79 (dk_at dksX2_order_4 12 rfl rfl)
theorem dX2_order_106 : decode cX2_order 106 = .ok (.aload_n 0, 1) := dk_42 (dk_at dksX2_order_4 13 rfl rfl)
theorem dX2_order_107 : decode cX2_order 107 = .ok (.getfield 13, 3) := dk_180 0 13 (dk_at dksX2_order_4 14 rfl rfl)
theorem dX2_order_110 : decode cX2_order 110 = .ok (.iload 6, 2) := dk_21 6 (dk_at dksX2_order_4 17 rfl rfl)
theorem dX2_order_112 : decode cX2_order 112 = .ok (.aload_n 0, 1) := dk_42 (dk_at dksX2_order_4 19 rfl rfl)
theorem dX2_order_113 : decode cX2_order 113 = .ok (.getfield 13, 3) := dk_180 0 13 (dk_at dksX2_order_4 20 rfl rfl)
theorem dX2_order_116 : decode cX2_order 116 = .ok (.iload 5, 2) := dk_21 5 (dk_at dksX2_order_5 0 rfl rfl)
theorem dX2_order_118 : decode cX2_order 118 = .ok (.iaload, 1) := dk_46 (dk_at dksX2_order_5 2 rfl rfl)
theorem dX2_order_119 : decode cX2_order 119 = .ok (.iastore, 1) := dk_79 (dk_at dksX2_order_5 3 rfl rfl)
theorem dX2_order_120 : decode cX2_order 120 = .ok (.aload_n 0, 1) := dk_42 (dk_at dksX2_order_5 4 rfl rfl)
theorem dX2_order_121 : decode cX2_order 121 = .ok (.getfield 9, 3) := dk_180 0 9 (dk_at dksX2_order_5 5 rfl rfl)
theorem dX2_order_124 : decode cX2_order 124 = .ok (.iload 5, 2) := dk_21 5 (dk_at dksX2_order_5 8 rfl rfl)
theorem dX2_order_126 : decode cX2_order 126 = .ok (.iload 7, 2) := dk_21 7 (dk_at dksX2_order_5 10 rfl rfl)
theorem dX2_order_128 : decode cX2_order 128 = .ok (.iastore, 1) := dk_79 (dk_at dksX2_order_5 12 rfl rfl)
theorem dX2_order_129 : decode cX2_order 129 = .ok (.aload_n 0, 1) := dk_42 (dk_at dksX2_order_5 13 rfl rfl)
theorem dX2_order_130 : decode cX2_order 130 = .ok (.getfield 13, 3) := dk_180 0 13 (dk_at dksX2_order_5 14 rfl rfl)
theorem dX2_order_133 : decode cX2_order 133 = .ok (.iload 5, 2) := dk_21 5 (dk_at dksX2_order_5 17 rfl rfl)
theorem dX2_order_135 : decode cX2_order 135 = .ok (.iload 8, 2) := dk_21 8 (dk_at dksX2_order_5 19 rfl rfl)
theorem dX2_order_137 : decode cX2_order 137 = .ok (.iastore, 1) := dk_79 (dk_at dksX2_order_5 21 rfl rfl)
theorem dX2_order_138 : decode cX2_order 138 = .ok (.iinc 5 1, 3) := dk_132 5 1 (dk_at dksX2_order_6 0 rfl rfl)
theorem dX2_order_141 : decode cX2_order 141 = .ok (.goto (-117), 3) := dk_167 255 139 (dk_at dksX2_order_6 3 rfl rfl)
theorem dX2_order_144 : decode cX2_order 144 = .ok (.return_, 1) := dk_177 (dk_at dksX2_order_6 6 rfl rfl)
abbrev cX2_before : ByteArray := prog_6_method_7_code
def yX2_before : MethodName := ⟨RX2, "before", "(II)Z"⟩
def dkwX2_before_2 : List UInt8 := [167, 0, 4, 3, 172]
abbrev dktX2_before_2 : List UInt8 := dkwX2_before_2 ++ []
def dkwX2_before_1 : List UInt8 := [180, 0, 9, 28, 46, 160, 0, 22, 42, 180, 0, 13, 27, 46, 42, 180, 0, 13, 28, 46, 162, 0, 7, 4]
abbrev dktX2_before_1 : List UInt8 := dkwX2_before_1 ++ dktX2_before_2
def dkwX2_before_0 : List UInt8 := [42, 180, 0, 9, 27, 46, 42, 180, 0, 9, 28, 46, 161, 0, 33, 42, 180, 0, 9, 27, 46, 42]
abbrev dktX2_before_0 : List UInt8 := dkwX2_before_0 ++ dktX2_before_1
theorem dksX2_before_0 : cX2_before.data.toList.drop 0 = dktX2_before_0 := by decide +kernel
theorem dksX2_before_1 : cX2_before.data.toList.drop 22 = dktX2_before_1 := dk_seg dksX2_before_0 22 rfl rfl
theorem dksX2_before_2 : cX2_before.data.toList.drop 46 = dktX2_before_2 := dk_seg dksX2_before_1 24 rfl rfl
theorem dX2_before_0 : decode cX2_before 0 = .ok (.aload_n 0, 1) := dk_42 (dk_at dksX2_before_0 0 rfl rfl)
theorem dX2_before_1 : decode cX2_before 1 = .ok (.getfield 9, 3) := dk_180 0 9 (dk_at dksX2_before_0 1 rfl rfl)
theorem dX2_before_4 : decode cX2_before 4 = .ok (.iload_n 1, 1) := dk_27 (dk_at dksX2_before_0 4 rfl rfl)
theorem dX2_before_5 : decode cX2_before 5 = .ok (.iaload, 1) := dk_46 (dk_at dksX2_before_0 5 rfl rfl)
theorem dX2_before_6 : decode cX2_before 6 = .ok (.aload_n 0, 1) := dk_42 (dk_at dksX2_before_0 6 rfl rfl)
theorem dX2_before_7 : decode cX2_before 7 = .ok (.getfield 9, 3) := dk_180 0 9 (dk_at dksX2_before_0 7 rfl rfl)
theorem dX2_before_10 : decode cX2_before 10 = .ok (.iload_n 2, 1) := dk_28 (dk_at dksX2_before_0 10 rfl rfl)
theorem dX2_before_11 : decode cX2_before 11 = .ok (.iaload, 1) := dk_46 (dk_at dksX2_before_0 11 rfl rfl)
theorem dX2_before_12 : decode cX2_before 12 = .ok (.if_icmp .lt 33, 3) := dk_161 0 33 (dk_at dksX2_before_0 12 rfl rfl)
theorem dX2_before_15 : decode cX2_before 15 = .ok (.aload_n 0, 1) := dk_42 (dk_at dksX2_before_0 15 rfl rfl)
theorem dX2_before_16 : decode cX2_before 16 = .ok (.getfield 9, 3) := dk_180 0 9 (dk_at dksX2_before_0 16 rfl rfl)
theorem dX2_before_19 : decode cX2_before 19 = .ok (.iload_n 1, 1) := dk_27 (dk_at dksX2_before_0 19 rfl rfl)
theorem dX2_before_20 : decode cX2_before 20 = .ok (.iaload, 1) := dk_46 (dk_at dksX2_before_0 20 rfl rfl)
theorem dX2_before_21 : decode cX2_before 21 = .ok (.aload_n 0, 1) := dk_42 (dk_at dksX2_before_0 21 rfl rfl)
theorem dX2_before_22 : decode cX2_before 22 = .ok (.getfield 9, 3) := dk_180 0 9 (dk_at dksX2_before_1 0 rfl rfl)
theorem dX2_before_25 : decode cX2_before 25 = .ok (.iload_n 2, 1) := dk_28 (dk_at dksX2_before_1 3 rfl rfl)
theorem dX2_before_26 : decode cX2_before 26 = .ok (.iaload, 1) := dk_46 (dk_at dksX2_before_1 4 rfl rfl)
theorem dX2_before_27 : decode cX2_before 27 = .ok (.if_icmp .ne 22, 3) := dk_160 0 22 (dk_at dksX2_before_1 5 rfl rfl)
theorem dX2_before_30 : decode cX2_before 30 = .ok (.aload_n 0, 1) := dk_42 (dk_at dksX2_before_1 8 rfl rfl)
theorem dX2_before_31 : decode cX2_before 31 = .ok (.getfield 13, 3) := dk_180 0 13 (dk_at dksX2_before_1 9 rfl rfl)
theorem dX2_before_34 : decode cX2_before 34 = .ok (.iload_n 1, 1) := dk_27 (dk_at dksX2_before_1 12 rfl rfl)
theorem dX2_before_35 : decode cX2_before 35 = .ok (.iaload, 1) := dk_46 (dk_at dksX2_before_1 13 rfl rfl)
theorem dX2_before_36 : decode cX2_before 36 = .ok (.aload_n 0, 1) := dk_42 (dk_at dksX2_before_1 14 rfl rfl)
theorem dX2_before_37 : decode cX2_before 37 = .ok (.getfield 13, 3) := dk_180 0 13 (dk_at dksX2_before_1 15 rfl rfl)
theorem dX2_before_40 : decode cX2_before 40 = .ok (.iload_n 2, 1) := dk_28 (dk_at dksX2_before_1 18 rfl rfl)
theorem dX2_before_41 : decode cX2_before 41 = .ok (.iaload, 1) := dk_46 (dk_at dksX2_before_1 19 rfl rfl)
theorem dX2_before_42 : decode cX2_before 42 = .ok (.if_icmp .ge 7, 3) := dk_162 0 7 (dk_at dksX2_before_1 20 rfl rfl)
theorem dX2_before_45 : decode cX2_before 45 = .ok (.iconst 1, 1) := dk_4 (dk_at dksX2_before_1 23 rfl rfl)
theorem dX2_before_46 : decode cX2_before 46 = .ok (.goto 4, 3) := dk_167 0 4 (dk_at dksX2_before_2 0 rfl rfl)
theorem dX2_before_49 : decode cX2_before 49 = .ok (.iconst 0, 1) := dk_3 (dk_at dksX2_before_2 3 rfl rfl)
theorem dX2_before_50 : decode cX2_before 50 = .ok (.ireturn, 1) := dk_172 (dk_at dksX2_before_2 4 rfl rfl)
abbrev cX2_merge : ByteArray := prog_6_method_10_code
def yX2_merge : MethodName := ⟨RX2, "merge", "(II)V"⟩
def dkwX2_merge_0 : List UInt8 := [42, 27, 28, 182, 0, 29, 177]
abbrev dktX2_merge_0 : List UInt8 := dkwX2_merge_0 ++ []
theorem dksX2_merge_0 : cX2_merge.data.toList.drop 0 = dktX2_merge_0 := by decide +kernel
theorem dX2_merge_0 : decode cX2_merge 0 = .ok (.aload_n 0, 1) := dk_42 (dk_at dksX2_merge_0 0 rfl rfl)
theorem dX2_merge_1 : decode cX2_merge 1 = .ok (.iload_n 1, 1) := dk_27 (dk_at dksX2_merge_0 1 rfl rfl)
theorem dX2_merge_2 : decode cX2_merge 2 = .ok (.iload_n 2, 1) := dk_28 (dk_at dksX2_merge_0 2 rfl rfl)
theorem dX2_merge_3 : decode cX2_merge 3 = .ok (.invokevirtual 29, 3) := dk_182 0 29 (dk_at dksX2_merge_0 3 rfl rfl)
theorem dX2_merge_6 : decode cX2_merge 6 = .ok (.return_, 1) := dk_177 (dk_at dksX2_merge_0 6 rfl rfl)
theorem q7 : (Jvm.Cond.initialized "SwapSortDeskModel") ∈ lw_all := lw_g (lw_at lw_m0 3 rfl) rfl
theorem q121 : (Jvm.Cond.instantiable "SwapSortDeskModel" (2 : Nat)) ∈ lw_all := lw_g (lw_at lw_m0 117 rfl) rfl
theorem q123 : (Jvm.Cond.instanceMethod ({ cls := "SwapSortDeskModel", name := "<init>", desc := "()V" } : Jvm.MethodName)) ∈ lw_all := lw_g (lw_at lw_m0 119 rfl) rfl
theorem q124 : (Jvm.Cond.code ({ cls := "SwapSortDeskModel", name := "<init>", desc := "()V" } : Jvm.MethodName) prog_6_method_1_code (1 : Nat) (Option.none : Option Jvm.ClassFile.FieldType)) ∈ lw_all := lw_g (lw_at lw_m0 120 rfl) rfl
theorem q125 : (Jvm.Cond.methodLink "SwapSortDeskModel" (1 : Nat) ({ cls := "java/lang/Object", name := "<init>", desc := "()V" } : Jvm.MethodName)) ∈ lw_all := lw_g (lw_at lw_m0 121 rfl) rfl
theorem q126 : (Jvm.Cond.fieldLink "SwapSortDeskModel" (9 : Nat) "SwapSortDeskModel" "first" "[I") ∈ lw_all := lw_g (lw_at lw_m0 122 rfl) rfl
theorem q127 : (Jvm.Cond.fieldLink "SwapSortDeskModel" (13 : Nat) "SwapSortDeskModel" "second" "[I") ∈ lw_all := lw_g (lw_at lw_m0 123 rfl) rfl
theorem q128 : (Jvm.Cond.laysFinal "SwapSortDeskModel" "SwapSortDeskModel" "first" "[I") ∈ lw_all := lw_g (lw_at lw_m0 124 rfl) rfl
theorem q129 : (Jvm.Cond.soleField "SwapSortDeskModel" "first") ∈ lw_all := lw_g (lw_at lw_m0 125 rfl) rfl
theorem q130 : (Jvm.Cond.laysFinal "SwapSortDeskModel" "SwapSortDeskModel" "second" "[I") ∈ lw_all := lw_g (lw_at lw_m0 126 rfl) rfl
theorem q131 : (Jvm.Cond.soleField "SwapSortDeskModel" "second") ∈ lw_all := lw_g (lw_at lw_m0 127 rfl) rfl
theorem q132 : (Jvm.Cond.superclass "SwapSortDeskModel" "java/lang/Object") ∈ lw_all := lw_g (lw_at lw_m0 128 rfl) rfl
theorem q134 : (Jvm.Cond.instanceMethod ({ cls := "SwapSortDeskModel", name := "set", desc := "(III)V" } : Jvm.MethodName)) ∈ lw_all := lw_g (lw_at lw_m0 130 rfl) rfl
theorem q135 : (Jvm.Cond.selects "SwapSortDeskModel" ({ cls := "SwapSortDeskModel", name := "set", desc := "(III)V" } : Jvm.MethodName) ({ cls := "SwapSortDeskModel", name := "set", desc := "(III)V" } : Jvm.MethodName)) ∈ lw_all := lw_g (lw_at lw_m0 131 rfl) rfl
theorem q136 : (Jvm.Cond.code ({ cls := "SwapSortDeskModel", name := "set", desc := "(III)V" } : Jvm.MethodName) prog_6_method_3_code (4 : Nat) (Option.none : Option Jvm.ClassFile.FieldType)) ∈ lw_all := lw_g (lw_at lw_m0 132 rfl) rfl
theorem q137 : (Jvm.Cond.methodLink "SwapSortDeskModel" (17 : Nat) ({ cls := "SwapSortDeskModel", name := "place", desc := "(I)I" } : Jvm.MethodName)) ∈ lw_all := lw_g (lw_at lw_m0 133 rfl) rfl
theorem q138 : (Jvm.Cond.static ({ cls := "SwapSortDeskModel", name := "place", desc := "(I)I" } : Jvm.MethodName)) ∈ lw_all := lw_g (lw_at lw_m0 134 rfl) rfl
theorem q139 : (Jvm.Cond.code ({ cls := "SwapSortDeskModel", name := "place", desc := "(I)I" } : Jvm.MethodName) prog_6_method_2_code (1 : Nat) (Option.some Jvm.ClassFile.FieldType.int)) ∈ lw_all := lw_g (lw_at lw_m0 135 rfl) rfl
theorem q140 : (Jvm.Cond.constant "SwapSortDeskModel" (16 : Nat) (2147483647 : Int32)) ∈ lw_all := lw_g (lw_at lw_m0 136 rfl) rfl
theorem q142 : (Jvm.Cond.instanceMethod ({ cls := "SwapSortDeskModel", name := "few", desc := "(III)V" } : Jvm.MethodName)) ∈ lw_all := lw_g (lw_at lw_m0 138 rfl) rfl
theorem q143 : (Jvm.Cond.selects "SwapSortDeskModel" ({ cls := "SwapSortDeskModel", name := "few", desc := "(III)V" } : Jvm.MethodName) ({ cls := "SwapSortDeskModel", name := "few", desc := "(III)V" } : Jvm.MethodName)) ∈ lw_all := lw_g (lw_at lw_m0 139 rfl) rfl
theorem q144 : (Jvm.Cond.code ({ cls := "SwapSortDeskModel", name := "few", desc := "(III)V" } : Jvm.MethodName) prog_6_method_4_code (4 : Nat) (Option.none : Option Jvm.ClassFile.FieldType)) ∈ lw_all := lw_g (lw_at lw_m0 140 rfl) rfl
theorem q145 : (Jvm.Cond.methodLink "SwapSortDeskModel" (21 : Nat) ({ cls := "SwapSortDeskModel", name := "set", desc := "(III)V" } : Jvm.MethodName)) ∈ lw_all := lw_g (lw_at lw_m0 141 rfl) rfl
theorem q147 : (Jvm.Cond.instanceMethod ({ cls := "SwapSortDeskModel", name := "first", desc := "(I)I" } : Jvm.MethodName)) ∈ lw_all := lw_g (lw_at lw_m0 143 rfl) rfl
theorem q148 : (Jvm.Cond.selects "SwapSortDeskModel" ({ cls := "SwapSortDeskModel", name := "first", desc := "(I)I" } : Jvm.MethodName) ({ cls := "SwapSortDeskModel", name := "first", desc := "(I)I" } : Jvm.MethodName)) ∈ lw_all := lw_g (lw_at lw_m0 144 rfl) rfl
theorem q149 : (Jvm.Cond.code ({ cls := "SwapSortDeskModel", name := "first", desc := "(I)I" } : Jvm.MethodName) prog_6_method_5_code (2 : Nat) (Option.some Jvm.ClassFile.FieldType.int)) ∈ lw_all := lw_g (lw_at lw_m0 145 rfl) rfl
theorem q151 : (Jvm.Cond.instanceMethod ({ cls := "SwapSortDeskModel", name := "second", desc := "(I)I" } : Jvm.MethodName)) ∈ lw_all := lw_g (lw_at lw_m0 147 rfl) rfl
theorem q152 : (Jvm.Cond.selects "SwapSortDeskModel" ({ cls := "SwapSortDeskModel", name := "second", desc := "(I)I" } : Jvm.MethodName) ({ cls := "SwapSortDeskModel", name := "second", desc := "(I)I" } : Jvm.MethodName)) ∈ lw_all := lw_g (lw_at lw_m0 148 rfl) rfl
theorem q153 : (Jvm.Cond.code ({ cls := "SwapSortDeskModel", name := "second", desc := "(I)I" } : Jvm.MethodName) prog_6_method_6_code (2 : Nat) (Option.some Jvm.ClassFile.FieldType.int)) ∈ lw_all := lw_g (lw_at lw_m0 149 rfl) rfl
theorem q155 : (Jvm.Cond.instanceMethod ({ cls := "SwapSortDeskModel", name := "quick", desc := "(II)V" } : Jvm.MethodName)) ∈ lw_all := lw_g (lw_at lw_m0 151 rfl) rfl
theorem q156 : (Jvm.Cond.selects "SwapSortDeskModel" ({ cls := "SwapSortDeskModel", name := "quick", desc := "(II)V" } : Jvm.MethodName) ({ cls := "SwapSortDeskModel", name := "quick", desc := "(II)V" } : Jvm.MethodName)) ∈ lw_all := lw_g (lw_at lw_m0 152 rfl) rfl
theorem q157 : (Jvm.Cond.code ({ cls := "SwapSortDeskModel", name := "quick", desc := "(II)V" } : Jvm.MethodName) prog_6_method_9_code (3 : Nat) (Option.none : Option Jvm.ClassFile.FieldType)) ∈ lw_all := lw_g (lw_at lw_m0 153 rfl) rfl
theorem q158 : (Jvm.Cond.methodLink "SwapSortDeskModel" (29 : Nat) ({ cls := "SwapSortDeskModel", name := "order", desc := "(II)V" } : Jvm.MethodName)) ∈ lw_all := lw_g (lw_at lw_m0 154 rfl) rfl
theorem q159 : (Jvm.Cond.privateMethod ({ cls := "SwapSortDeskModel", name := "order", desc := "(II)V" } : Jvm.MethodName)) ∈ lw_tbl := lw_at lw_m0 155 rfl
theorem q160 : (Jvm.Cond.instanceMethod ({ cls := "SwapSortDeskModel", name := "order", desc := "(II)V" } : Jvm.MethodName)) ∈ lw_all := lw_g (lw_at lw_m0 156 rfl) rfl
theorem q161 : (Jvm.Cond.code ({ cls := "SwapSortDeskModel", name := "order", desc := "(II)V" } : Jvm.MethodName) prog_6_method_8_code (9 : Nat) (Option.none : Option Jvm.ClassFile.FieldType)) ∈ lw_all := lw_g (lw_at lw_m0 157 rfl) rfl
theorem q162 : (Jvm.Cond.methodLink "SwapSortDeskModel" (25 : Nat) ({ cls := "SwapSortDeskModel", name := "before", desc := "(II)Z" } : Jvm.MethodName)) ∈ lw_all := lw_g (lw_at lw_m0 158 rfl) rfl
theorem q163 : (Jvm.Cond.privateMethod ({ cls := "SwapSortDeskModel", name := "before", desc := "(II)Z" } : Jvm.MethodName)) ∈ lw_tbl := lw_at lw_m0 159 rfl
theorem q164 : (Jvm.Cond.instanceMethod ({ cls := "SwapSortDeskModel", name := "before", desc := "(II)Z" } : Jvm.MethodName)) ∈ lw_all := lw_g (lw_at lw_m0 160 rfl) rfl
theorem q165 : (Jvm.Cond.code ({ cls := "SwapSortDeskModel", name := "before", desc := "(II)Z" } : Jvm.MethodName) prog_6_method_7_code (3 : Nat) (Option.some Jvm.ClassFile.FieldType.boolean)) ∈ lw_all := lw_g (lw_at lw_m0 161 rfl) rfl
theorem q167 : (Jvm.Cond.instanceMethod ({ cls := "SwapSortDeskModel", name := "merge", desc := "(II)V" } : Jvm.MethodName)) ∈ lw_all := lw_g (lw_at lw_m0 163 rfl) rfl
theorem q168 : (Jvm.Cond.selects "SwapSortDeskModel" ({ cls := "SwapSortDeskModel", name := "merge", desc := "(II)V" } : Jvm.MethodName) ({ cls := "SwapSortDeskModel", name := "merge", desc := "(II)V" } : Jvm.MethodName)) ∈ lw_all := lw_g (lw_at lw_m0 164 rfl) rfl
theorem q169 : (Jvm.Cond.code ({ cls := "SwapSortDeskModel", name := "merge", desc := "(II)V" } : Jvm.MethodName) prog_6_method_10_code (3 : Nat) (Option.none : Option Jvm.ClassFile.FieldType)) ∈ lw_all := lw_g (lw_at lw_m0 165 rfl) rfl
theorem in_X2 : ∀ w ∈ wsX20, w ∈ lw_all := lw_in wsX20 [128, 130] (by decide +kernel) (by decide +kernel)
theorem q75 : (Jvm.Cond.interfaceMethod "IntComparator" "IntComparator" "compare" "(II)I") ∈ lw_tbl := lw_at lw_m0 71 rfl
set_option maxRecDepth 100000
theorem q76 : (Jvm.Cond.declares ({ cls := "IntComparator", name := "compare", desc := "(II)I" } : Jvm.MethodName)) ∈ lw_tbl := lw_at lw_m0 72 rfl
theorem q4 : (Jvm.Cond.initialized "SwapSortDeskLaw") ∈ lw_all := lw_g (lw_at lw_m0 0 rfl) rfl
set_option maxRecDepth 100000
theorem q10 : (Jvm.Cond.classLink "SwapSortDeskLaw" (7 : Nat) "SwapSortDesk") ∈ lw_all := lw_g (lw_at lw_m0 6 rfl) rfl
theorem q12 : (Jvm.Cond.methodLink "SwapSortDeskLaw" (9 : Nat) ({ cls := "SwapSortDesk", name := "<init>", desc := "()V" } : Jvm.MethodName)) ∈ lw_all := lw_g (lw_at lw_m0 8 rfl) rfl
theorem q41 : (Jvm.Cond.methodLink "SwapSortDeskLaw" (13 : Nat) ({ cls := "SwapSortDesk", name := "set", desc := "(III)V" } : Jvm.MethodName)) ∈ lw_all := lw_g (lw_at lw_m0 37 rfl) rfl
theorem q46 : (Jvm.Cond.methodLink "SwapSortDeskLaw" (18 : Nat) ({ cls := "SwapSortDesk", name := "few", desc := "(III)V" } : Jvm.MethodName)) ∈ lw_all := lw_g (lw_at lw_m0 42 rfl) rfl
theorem q50 : (Jvm.Cond.methodLink "SwapSortDeskLaw" (22 : Nat) ({ cls := "SwapSortDesk", name := "first", desc := "(I)I" } : Jvm.MethodName)) ∈ lw_all := lw_g (lw_at lw_m0 46 rfl) rfl
theorem q54 : (Jvm.Cond.methodLink "SwapSortDeskLaw" (27 : Nat) ({ cls := "SwapSortDesk", name := "second", desc := "(I)I" } : Jvm.MethodName)) ∈ lw_all := lw_g (lw_at lw_m0 50 rfl) rfl
theorem q58 : (Jvm.Cond.methodLink "SwapSortDeskLaw" (31 : Nat) ({ cls := "SwapSortDesk", name := "quick", desc := "(II)V" } : Jvm.MethodName)) ∈ lw_all := lw_g (lw_at lw_m0 54 rfl) rfl
theorem q103 : (Jvm.Cond.methodLink "SwapSortDeskLaw" (36 : Nat) ({ cls := "SwapSortDesk", name := "merge", desc := "(II)V" } : Jvm.MethodName)) ∈ lw_all := lw_g (lw_at lw_m0 99 rfl) rfl
theorem q120 : (Jvm.Cond.classLink "SwapSortDeskLaw" (10 : Nat) "SwapSortDeskModel") ∈ lw_all := lw_g (lw_at lw_m0 116 rfl) rfl
theorem q122 : (Jvm.Cond.methodLink "SwapSortDeskLaw" (12 : Nat) ({ cls := "SwapSortDeskModel", name := "<init>", desc := "()V" } : Jvm.MethodName)) ∈ lw_all := lw_g (lw_at lw_m0 118 rfl) rfl
theorem q133 : (Jvm.Cond.methodLink "SwapSortDeskLaw" (17 : Nat) ({ cls := "SwapSortDeskModel", name := "set", desc := "(III)V" } : Jvm.MethodName)) ∈ lw_all := lw_g (lw_at lw_m0 129 rfl) rfl
theorem q141 : (Jvm.Cond.methodLink "SwapSortDeskLaw" (21 : Nat) ({ cls := "SwapSortDeskModel", name := "few", desc := "(III)V" } : Jvm.MethodName)) ∈ lw_all := lw_g (lw_at lw_m0 137 rfl) rfl
theorem q146 : (Jvm.Cond.methodLink "SwapSortDeskLaw" (26 : Nat) ({ cls := "SwapSortDeskModel", name := "first", desc := "(I)I" } : Jvm.MethodName)) ∈ lw_all := lw_g (lw_at lw_m0 142 rfl) rfl
theorem q150 : (Jvm.Cond.methodLink "SwapSortDeskLaw" (30 : Nat) ({ cls := "SwapSortDeskModel", name := "second", desc := "(I)I" } : Jvm.MethodName)) ∈ lw_all := lw_g (lw_at lw_m0 146 rfl) rfl
theorem q154 : (Jvm.Cond.methodLink "SwapSortDeskLaw" (35 : Nat) ({ cls := "SwapSortDeskModel", name := "quick", desc := "(II)V" } : Jvm.MethodName)) ∈ lw_all := lw_g (lw_at lw_m0 150 rfl) rfl
theorem q166 : (Jvm.Cond.methodLink "SwapSortDeskLaw" (39 : Nat) ({ cls := "SwapSortDeskModel", name := "merge", desc := "(II)V" } : Jvm.MethodName)) ∈ lw_all := lw_g (lw_at lw_m0 162 rfl) rfl
theorem q85 : (Jvm.Cond.interfaceMethod "Swapper" "Swapper" "swap" "(II)V") ∈ lw_tbl := lw_at lw_m0 81 rfl
set_option maxRecDepth 100000
theorem q86 : (Jvm.Cond.declares ({ cls := "Swapper", name := "swap", desc := "(II)V" } : Jvm.MethodName)) ∈ lw_tbl := lw_at lw_m0 82 rfl
theorem q28 : (Jvm.Cond.arrayClass Jvm.ClassFile.FieldType.int) ∈ lw_all := lw_g (lw_at lw_m0 24 rfl) rfl
set_option maxRecDepth 100000
end
section
/-! OwnArrays -/
set_option maxRecDepth 100000
def RX3 : String := "OwnArrays"
abbrev cX3_quickSort : ByteArray := prog_2_method_7_code
def yX3_quickSort : MethodName := ⟨RX3, "quickSort", "(IILIntComparator;LSwapper;)V"⟩
def dkwX3_quickSort_20 : List UInt8 := [100, 89, 54, 12, 4, 164, 0, 13, 27, 21, 12, 100, 27, 44, 45, 184, 0, 41, 177]
abbrev dktX3_quickSort_20 : List UInt8 := dkwX3_quickSort_20 ++ []
def dkwX3_quickSort_19 : List UInt8 := [21, 8, 100, 89, 54, 12, 4, 164, 0, 13, 26, 26, 21, 12, 96, 44, 45, 184, 0, 41, 21, 11, 21, 10]
abbrev dktX3_quickSort_19 : List UInt8 := dkwX3_quickSort_19 ++ dktX3_quickSort_20
def dkwX3_quickSort_18 : List UInt8 := [21, 11, 100, 4, 100, 184, 0, 33, 54, 12, 45, 21, 9, 27, 21, 12, 100, 21, 12, 184, 0, 38, 21, 9]
abbrev dktX3_quickSort_18 : List UInt8 := dkwX3_quickSort_18 ++ dktX3_quickSort_19
def dkwX3_quickSort_17 : List UInt8 := [184, 0, 33, 54, 12, 45, 26, 21, 9, 21, 12, 100, 21, 12, 184, 0, 38, 21, 11, 21, 10, 100, 27]
abbrev dktX3_quickSort_17 : List UInt8 := dkwX3_quickSort_17 ++ dktX3_quickSort_18
def dkwX3_quickSort_16 : List UInt8 := [21, 10, 132, 10, 255, 185, 0, 7, 3, 0, 167, 255, 61, 21, 8, 26, 100, 21, 9, 21, 8, 100]
abbrev dktX3_quickSort_16 : List UInt8 := dkwX3_quickSort_16 ++ dktX3_quickSort_17
def dkwX3_quickSort_15 : List UInt8 := [21, 10, 54, 5, 167, 0, 14, 21, 10, 21, 5, 160, 0, 7, 21, 9, 54, 5, 45, 21, 9, 132, 9, 1]
abbrev dktX3_quickSort_15 : List UInt8 := dkwX3_quickSort_15 ++ dktX3_quickSort_16
def dkwX3_quickSort_14 : List UInt8 := [132, 10, 255, 167, 255, 187, 21, 9, 21, 10, 164, 0, 6, 167, 0, 47, 21, 9, 21, 5, 160, 0, 10]
abbrev dktX3_quickSort_14 : List UInt8 := dkwX3_quickSort_14 ++ dktX3_quickSort_15
def dkwX3_quickSort_13 : List UInt8 := [21, 5, 160, 0, 7, 21, 10, 54, 5, 45, 21, 10, 21, 11, 132, 11, 255, 185, 0, 7, 3, 0]
abbrev dktX3_quickSort_13 : List UInt8 := dkwX3_quickSort_13 ++ dktX3_quickSort_14
def dkwX3_quickSort_12 : List UInt8 := [155, 0, 52, 21, 12, 154, 0, 41, 21, 10, 21, 5, 160, 0, 10, 21, 11, 54, 5, 167, 0, 14, 21, 11]
abbrev dktX3_quickSort_12 : List UInt8 := dkwX3_quickSort_12 ++ dktX3_quickSort_13
def dkwX3_quickSort_11 : List UInt8 := [167, 255, 187, 21, 10, 21, 9, 161, 0, 68, 44, 21, 10, 21, 5, 185, 0, 1, 3, 0, 89, 54, 12]
abbrev dktX3_quickSort_11 : List UInt8 := dkwX3_quickSort_11 ++ dktX3_quickSort_12
def dkwX3_quickSort_10 : List UInt8 := [160, 0, 7, 21, 8, 54, 5, 45, 21, 8, 132, 8, 1, 21, 9, 185, 0, 7, 3, 0, 132, 9, 1]
abbrev dktX3_quickSort_10 : List UInt8 := dkwX3_quickSort_10 ++ dktX3_quickSort_11
def dkwX3_quickSort_9 : List UInt8 := [21, 12, 154, 0, 41, 21, 8, 21, 5, 160, 0, 10, 21, 9, 54, 5, 167, 0, 14, 21, 9, 21, 5]
abbrev dktX3_quickSort_9 : List UInt8 := dkwX3_quickSort_9 ++ dktX3_quickSort_10
def dkwX3_quickSort_8 : List UInt8 := [21, 9, 21, 10, 163, 0, 68, 44, 21, 9, 21, 5, 185, 0, 1, 3, 0, 89, 54, 12, 157, 0, 52]
abbrev dktX3_quickSort_8 : List UInt8 := dkwX3_quickSort_8 ++ dktX3_quickSort_9
def dkwX3_quickSort_7 : List UInt8 := [21, 7, 44, 184, 0, 30, 54, 5, 26, 54, 8, 21, 8, 54, 9, 27, 4, 100, 54, 10, 21, 10, 54, 11]
abbrev dktX3_quickSort_7 : List UInt8 := dkwX3_quickSort_7 ++ dktX3_quickSort_8
def dkwX3_quickSort_6 : List UInt8 := [21, 7, 5, 21, 8, 104, 100, 21, 7, 21, 8, 100, 21, 7, 44, 184, 0, 30, 54, 7, 21, 6, 21, 5]
abbrev dktX3_quickSort_6 : List UInt8 := dkwX3_quickSort_6 ++ dktX3_quickSort_7
def dkwX3_quickSort_5 : List UInt8 := [184, 0, 30, 54, 6, 21, 5, 21, 8, 100, 21, 5, 21, 5, 21, 8, 96, 44, 184, 0, 30, 54, 5]
abbrev dktX3_quickSort_5 : List UInt8 := dkwX3_quickSort_5 ++ dktX3_quickSort_6
def dkwX3_quickSort_4 : List UInt8 := [21, 4, 16, 8, 108, 54, 8, 21, 6, 21, 6, 21, 8, 96, 21, 6, 5, 21, 8, 104, 96, 44]
abbrev dktX3_quickSort_4 : List UInt8 := dkwX3_quickSort_4 ++ dktX3_quickSort_5
def dkwX3_quickSort_3 : List UInt8 := [26, 21, 4, 5, 108, 96, 54, 5, 26, 54, 6, 27, 4, 100, 54, 7, 21, 4, 17, 0, 128, 164, 0, 68]
abbrev dktX3_quickSort_3 : List UInt8 := dkwX3_quickSort_3 ++ dktX3_quickSort_4
def dkwX3_quickSort_2 : List UInt8 := [21, 6, 21, 6, 4, 100, 185, 0, 7, 3, 0, 132, 6, 255, 167, 255, 220, 132, 5, 1, 167, 255, 204, 177]
abbrev dktX3_quickSort_2 : List UInt8 := dkwX3_quickSort_2 ++ dktX3_quickSort_3
def dkwX3_quickSort_1 : List UInt8 := [54, 6, 21, 6, 26, 164, 0, 36, 44, 21, 6, 4, 100, 21, 6, 185, 0, 1, 3, 0, 158, 0, 21, 45]
abbrev dktX3_quickSort_1 : List UInt8 := dkwX3_quickSort_1 ++ dktX3_quickSort_2
def dkwX3_quickSort_0 : List UInt8 := [27, 26, 100, 54, 4, 21, 4, 16, 16, 162, 0, 62, 26, 54, 5, 21, 5, 27, 162, 0, 52, 21, 5]
abbrev dktX3_quickSort_0 : List UInt8 := dkwX3_quickSort_0 ++ dktX3_quickSort_1
theorem dksX3_quickSort_0 : cX3_quickSort.data.toList.drop 0 = dktX3_quickSort_0 := by decide +kernel
theorem dksX3_quickSort_1 : cX3_quickSort.data.toList.drop 23 = dktX3_quickSort_1 := dk_seg dksX3_quickSort_0 23 rfl rfl
theorem dksX3_quickSort_2 : cX3_quickSort.data.toList.drop 47 = dktX3_quickSort_2 := dk_seg dksX3_quickSort_1 24 rfl rfl
theorem dksX3_quickSort_3 : cX3_quickSort.data.toList.drop 71 = dktX3_quickSort_3 := dk_seg dksX3_quickSort_2 24 rfl rfl
theorem dksX3_quickSort_4 : cX3_quickSort.data.toList.drop 95 = dktX3_quickSort_4 := dk_seg dksX3_quickSort_3 24 rfl rfl
theorem dksX3_quickSort_5 : cX3_quickSort.data.toList.drop 117 = dktX3_quickSort_5 := dk_seg dksX3_quickSort_4 22 rfl rfl
theorem dksX3_quickSort_6 : cX3_quickSort.data.toList.drop 140 = dktX3_quickSort_6 := dk_seg dksX3_quickSort_5 23 rfl rfl
theorem dksX3_quickSort_7 : cX3_quickSort.data.toList.drop 164 = dktX3_quickSort_7 := dk_seg dksX3_quickSort_6 24 rfl rfl
theorem dksX3_quickSort_8 : cX3_quickSort.data.toList.drop 188 = dktX3_quickSort_8 := dk_seg dksX3_quickSort_7 24 rfl rfl
theorem dksX3_quickSort_9 : cX3_quickSort.data.toList.drop 211 = dktX3_quickSort_9 := dk_seg dksX3_quickSort_8 23 rfl rfl
theorem dksX3_quickSort_10 : cX3_quickSort.data.toList.drop 234 = dktX3_quickSort_10 := dk_seg dksX3_quickSort_9 23 rfl rfl
theorem dksX3_quickSort_11 : cX3_quickSort.data.toList.drop 257 = dktX3_quickSort_11 := dk_seg dksX3_quickSort_10 23 rfl rfl
theorem dksX3_quickSort_12 : cX3_quickSort.data.toList.drop 280 = dktX3_quickSort_12 := dk_seg dksX3_quickSort_11 23 rfl rfl
theorem dksX3_quickSort_13 : cX3_quickSort.data.toList.drop 304 = dktX3_quickSort_13 := dk_seg dksX3_quickSort_12 24 rfl rfl
theorem dksX3_quickSort_14 : cX3_quickSort.data.toList.drop 326 = dktX3_quickSort_14 := dk_seg dksX3_quickSort_13 22 rfl rfl
theorem dksX3_quickSort_15 : cX3_quickSort.data.toList.drop 349 = dktX3_quickSort_15 := dk_seg dksX3_quickSort_14 23 rfl rfl
theorem dksX3_quickSort_16 : cX3_quickSort.data.toList.drop 373 = dktX3_quickSort_16 := dk_seg dksX3_quickSort_15 24 rfl rfl
theorem dksX3_quickSort_17 : cX3_quickSort.data.toList.drop 395 = dktX3_quickSort_17 := dk_seg dksX3_quickSort_16 22 rfl rfl
theorem dksX3_quickSort_18 : cX3_quickSort.data.toList.drop 418 = dktX3_quickSort_18 := dk_seg dksX3_quickSort_17 23 rfl rfl
theorem dksX3_quickSort_19 : cX3_quickSort.data.toList.drop 442 = dktX3_quickSort_19 := dk_seg dksX3_quickSort_18 24 rfl rfl
theorem dksX3_quickSort_20 : cX3_quickSort.data.toList.drop 466 = dktX3_quickSort_20 := dk_seg dksX3_quickSort_19 24 rfl rfl
theorem dX3_quickSort_0 : decode cX3_quickSort 0 = .ok (.iload_n 1, 1) := dk_27 (dk_at dksX3_quickSort_0 0 rfl rfl)
theorem dX3_quickSort_1 : decode cX3_quickSort 1 = .ok (.iload_n 0, 1) := dk_26 (dk_at dksX3_quickSort_0 1 rfl rfl)
theorem dX3_quickSort_2 : decode cX3_quickSort 2 = .ok (.isub, 1) := dk_100 (dk_at dksX3_quickSort_0 2 rfl rfl)
theorem dX3_quickSort_3 : decode cX3_quickSort 3 = .ok (.istore 4, 2) := dk_54 4 (dk_at dksX3_quickSort_0 3 rfl rfl)
theorem dX3_quickSort_5 : decode cX3_quickSort 5 = .ok (.iload 4, 2) := dk_21 4 (dk_at dksX3_quickSort_0 5 rfl rfl)
theorem dX3_quickSort_7 : decode cX3_quickSort 7 = .ok (.bipush 16, 2) := dk_16 16 (dk_at dksX3_quickSort_0 7 rfl rfl)
theorem dX3_quickSort_9 : decode cX3_quickSort 9 = .ok (.if_icmp .ge 62, 3) := dk_162 0 62 (dk_at dksX3_quickSort_0 9 rfl rfl)
theorem dX3_quickSort_12 : decode cX3_quickSort 12 = .ok (.iload_n 0, 1) := dk_26 (dk_at dksX3_quickSort_0 12 rfl rfl)
theorem dX3_quickSort_13 : decode cX3_quickSort 13 = .ok (.istore 5, 2) := dk_54 5 (dk_at dksX3_quickSort_0 13 rfl rfl)
theorem dX3_quickSort_15 : decode cX3_quickSort 15 = .ok (.iload 5, 2) := dk_21 5 (dk_at dksX3_quickSort_0 15 rfl rfl)
theorem dX3_quickSort_17 : decode cX3_quickSort 17 = .ok (.iload_n 1, 1) := dk_27 (dk_at dksX3_quickSort_0 17 rfl rfl)
theorem dX3_quickSort_18 : decode cX3_quickSort 18 = .ok (.if_icmp .ge 52, 3) := dk_162 0 52 (dk_at dksX3_quickSort_0 18 rfl rfl)
theorem dX3_quickSort_21 : decode cX3_quickSort 21 = .ok (.iload 5, 2) := dk_21 5 (dk_at dksX3_quickSort_0 21 rfl rfl)
theorem dX3_quickSort_23 : decode cX3_quickSort 23 = .ok (.istore 6, 2) := dk_54 6 (dk_at dksX3_quickSort_1 0 rfl rfl)
theorem dX3_quickSort_25 : decode cX3_quickSort 25 = .ok (.iload 6, 2) := dk_21 6 (dk_at dksX3_quickSort_1 2 rfl rfl)
theorem dX3_quickSort_27 : decode cX3_quickSort 27 = .ok (.iload_n 0, 1) := dk_26 (dk_at dksX3_quickSort_1 4 rfl rfl)
theorem dX3_quickSort_28 : decode cX3_quickSort 28 = .ok (.if_icmp .le 36, 3) := dk_164 0 36 (dk_at dksX3_quickSort_1 5 rfl rfl)
theorem dX3_quickSort_31 : decode cX3_quickSort 31 = .ok (.aload_n 2, 1) := dk_44 (dk_at dksX3_quickSort_1 8 rfl rfl)
theorem dX3_quickSort_32 : decode cX3_quickSort 32 = .ok (.iload 6, 2) := dk_21 6 (dk_at dksX3_quickSort_1 9 rfl rfl)
theorem dX3_quickSort_34 : decode cX3_quickSort 34 = .ok (.iconst 1, 1) := dk_4 (dk_at dksX3_quickSort_1 11 rfl rfl)
theorem dX3_quickSort_35 : decode cX3_quickSort 35 = .ok (.isub, 1) := dk_100 (dk_at dksX3_quickSort_1 12 rfl rfl)
theorem dX3_quickSort_36 : decode cX3_quickSort 36 = .ok (.iload 6, 2) := dk_21 6 (dk_at dksX3_quickSort_1 13 rfl rfl)
theorem dX3_quickSort_38 : decode cX3_quickSort 38 = .ok (.invokeinterface 1 3, 5) := by decide +kernel
theorem dX3_quickSort_43 : decode cX3_quickSort 43 = .ok (.ifCond .le 21, 3) := dk_158 0 21 (dk_at dksX3_quickSort_1 20 rfl rfl)
theorem dX3_quickSort_46 : decode cX3_quickSort 46 = .ok (.aload_n 3, 1) := dk_45 (dk_at dksX3_quickSort_1 23 rfl rfl)
theorem dX3_quickSort_47 : decode cX3_quickSort 47 = .ok (.iload 6, 2) := dk_21 6 (dk_at dksX3_quickSort_2 0 rfl rfl)
theorem dX3_quickSort_49 : decode cX3_quickSort 49 = .ok (.iload 6, 2) := dk_21 6 (dk_at dksX3_quickSort_2 2 rfl rfl)
theorem dX3_quickSort_51 : decode cX3_quickSort 51 = .ok (.iconst 1, 1) := dk_4 (dk_at dksX3_quickSort_2 4 rfl rfl)
theorem dX3_quickSort_52 : decode cX3_quickSort 52 = .ok (.isub, 1) := dk_100 (dk_at dksX3_quickSort_2 5 rfl rfl)
theorem dX3_quickSort_53 : decode cX3_quickSort 53 = .ok (.invokeinterface 7 3, 5) := by decide +kernel
theorem dX3_quickSort_58 : decode cX3_quickSort 58 = .ok (.iinc 6 (-1), 3) := dk_132 6 255 (dk_at dksX3_quickSort_2 11 rfl rfl)
theorem dX3_quickSort_61 : decode cX3_quickSort 61 = .ok (.goto (-36), 3) := dk_167 255 220 (dk_at dksX3_quickSort_2 14 rfl rfl)
theorem dX3_quickSort_64 : decode cX3_quickSort 64 = .ok (.iinc 5 1, 3) := dk_132 5 1 (dk_at dksX3_quickSort_2 17 rfl rfl)
theorem dX3_quickSort_67 : decode cX3_quickSort 67 = .ok (.goto (-52), 3) := dk_167 255 204 (dk_at dksX3_quickSort_2 20 rfl rfl)
theorem dX3_quickSort_70 : decode cX3_quickSort 70 = .ok (.return_, 1) := dk_177 (dk_at dksX3_quickSort_2 23 rfl rfl)
theorem dX3_quickSort_71 : decode cX3_quickSort 71 = .ok (.iload_n 0, 1) := dk_26 (dk_at dksX3_quickSort_3 0 rfl rfl)
theorem dX3_quickSort_72 : decode cX3_quickSort 72 = .ok (.iload 4, 2) := dk_21 4 (dk_at dksX3_quickSort_3 1 rfl rfl)
theorem dX3_quickSort_74 : decode cX3_quickSort 74 = .ok (.iconst 2, 1) := dk_5 (dk_at dksX3_quickSort_3 3 rfl rfl)
theorem dX3_quickSort_75 : decode cX3_quickSort 75 = .ok (.idiv, 1) := dk_108 (dk_at dksX3_quickSort_3 4 rfl rfl)
theorem dX3_quickSort_76 : decode cX3_quickSort 76 = .ok (.iadd, 1) := dk_96 (dk_at dksX3_quickSort_3 5 rfl rfl)
theorem dX3_quickSort_77 : decode cX3_quickSort 77 = .ok (.istore 5, 2) := dk_54 5 (dk_at dksX3_quickSort_3 6 rfl rfl)
theorem dX3_quickSort_79 : decode cX3_quickSort 79 = .ok (.iload_n 0, 1) := dk_26 (dk_at dksX3_quickSort_3 8 rfl rfl)
theorem dX3_quickSort_80 : decode cX3_quickSort 80 = .ok (.istore 6, 2) := dk_54 6 (dk_at dksX3_quickSort_3 9 rfl rfl)
theorem dX3_quickSort_82 : decode cX3_quickSort 82 = .ok (.iload_n 1, 1) := dk_27 (dk_at dksX3_quickSort_3 11 rfl rfl)
theorem dX3_quickSort_83 : decode cX3_quickSort 83 = .ok (.iconst 1, 1) := dk_4 (dk_at dksX3_quickSort_3 12 rfl rfl)
theorem dX3_quickSort_84 : decode cX3_quickSort 84 = .ok (.isub, 1) := dk_100 (dk_at dksX3_quickSort_3 13 rfl rfl)
theorem dX3_quickSort_85 : decode cX3_quickSort 85 = .ok (.istore 7, 2) := dk_54 7 (dk_at dksX3_quickSort_3 14 rfl rfl)
theorem dX3_quickSort_87 : decode cX3_quickSort 87 = .ok (.iload 4, 2) := dk_21 4 (dk_at dksX3_quickSort_3 16 rfl rfl)
theorem dX3_quickSort_89 : decode cX3_quickSort 89 = .ok (.sipush 128, 3) := dk_17 0 128 (dk_at dksX3_quickSort_3 18 rfl rfl)
theorem dX3_quickSort_92 : decode cX3_quickSort 92 = .ok (.if_icmp .le 68, 3) := dk_164 0 68 (dk_at dksX3_quickSort_3 21 rfl rfl)
theorem dX3_quickSort_95 : decode cX3_quickSort 95 = .ok (.iload 4, 2) := dk_21 4 (dk_at dksX3_quickSort_4 0 rfl rfl)
theorem dX3_quickSort_97 : decode cX3_quickSort 97 = .ok (.bipush 8, 2) := dk_16 8 (dk_at dksX3_quickSort_4 2 rfl rfl)
theorem dX3_quickSort_99 : decode cX3_quickSort 99 = .ok (.idiv, 1) := dk_108 (dk_at dksX3_quickSort_4 4 rfl rfl)
theorem dX3_quickSort_100 : decode cX3_quickSort 100 = .ok (.istore 8, 2) := dk_54 8 (dk_at dksX3_quickSort_4 5 rfl rfl)
theorem dX3_quickSort_102 : decode cX3_quickSort 102 = .ok (.iload 6, 2) := dk_21 6 (dk_at dksX3_quickSort_4 7 rfl rfl)
theorem dX3_quickSort_104 : decode cX3_quickSort 104 = .ok (.iload 6, 2) := dk_21 6 (dk_at dksX3_quickSort_4 9 rfl rfl)
theorem dX3_quickSort_106 : decode cX3_quickSort 106 = .ok (.iload 8, 2) := dk_21 8 (dk_at dksX3_quickSort_4 11 rfl rfl)
theorem dX3_quickSort_108 : decode cX3_quickSort 108 = .ok (.iadd, 1) := dk_96 (dk_at dksX3_quickSort_4 13 rfl rfl)
theorem dX3_quickSort_109 : decode cX3_quickSort 109 = .ok (.iload 6, 2) := dk_21 6 (dk_at dksX3_quickSort_4 14 rfl rfl)
theorem dX3_quickSort_111 : decode cX3_quickSort 111 = .ok (.iconst 2, 1) := dk_5 (dk_at dksX3_quickSort_4 16 rfl rfl)
theorem dX3_quickSort_112 : decode cX3_quickSort 112 = .ok (.iload 8, 2) := dk_21 8 (dk_at dksX3_quickSort_4 17 rfl rfl)
theorem dX3_quickSort_114 : decode cX3_quickSort 114 = .ok (.imul, 1) := dk_104 (dk_at dksX3_quickSort_4 19 rfl rfl)
theorem dX3_quickSort_115 : decode cX3_quickSort 115 = .ok (.iadd, 1) := dk_96 (dk_at dksX3_quickSort_4 20 rfl rfl)
theorem dX3_quickSort_116 : decode cX3_quickSort 116 = .ok (.aload_n 2, 1) := dk_44 (dk_at dksX3_quickSort_4 21 rfl rfl)
theorem dX3_quickSort_117 : decode cX3_quickSort 117 = .ok (.invokestatic 30, 3) := dk_184 0 30 (dk_at dksX3_quickSort_5 0 rfl rfl)
theorem dX3_quickSort_120 : decode cX3_quickSort 120 = .ok (.istore 6, 2) := dk_54 6 (dk_at dksX3_quickSort_5 3 rfl rfl)
theorem dX3_quickSort_122 : decode cX3_quickSort 122 = .ok (.iload 5, 2) := dk_21 5 (dk_at dksX3_quickSort_5 5 rfl rfl)
theorem dX3_quickSort_124 : decode cX3_quickSort 124 = .ok (.iload 8, 2) := dk_21 8 (dk_at dksX3_quickSort_5 7 rfl rfl)
theorem dX3_quickSort_126 : decode cX3_quickSort 126 = .ok (.isub, 1) := dk_100 (dk_at dksX3_quickSort_5 9 rfl rfl)
theorem dX3_quickSort_127 : decode cX3_quickSort 127 = .ok (.iload 5, 2) := dk_21 5 (dk_at dksX3_quickSort_5 10 rfl rfl)
theorem dX3_quickSort_129 : decode cX3_quickSort 129 = .ok (.iload 5, 2) := dk_21 5 (dk_at dksX3_quickSort_5 12 rfl rfl)
theorem dX3_quickSort_131 : decode cX3_quickSort 131 = .ok (.iload 8, 2) := dk_21 8 (dk_at dksX3_quickSort_5 14 rfl rfl)
theorem dX3_quickSort_133 : decode cX3_quickSort 133 = .ok (.iadd, 1) := dk_96 (dk_at dksX3_quickSort_5 16 rfl rfl)
theorem dX3_quickSort_134 : decode cX3_quickSort 134 = .ok (.aload_n 2, 1) := dk_44 (dk_at dksX3_quickSort_5 17 rfl rfl)
theorem dX3_quickSort_135 : decode cX3_quickSort 135 = .ok (.invokestatic 30, 3) := dk_184 0 30 (dk_at dksX3_quickSort_5 18 rfl rfl)
theorem dX3_quickSort_138 : decode cX3_quickSort 138 = .ok (.istore 5, 2) := dk_54 5 (dk_at dksX3_quickSort_5 21 rfl rfl)
theorem dX3_quickSort_140 : decode cX3_quickSort 140 = .ok (.iload 7, 2) := dk_21 7 (dk_at dksX3_quickSort_6 0 rfl rfl)
theorem dX3_quickSort_142 : decode cX3_quickSort 142 = .ok (.iconst 2, 1) := dk_5 (dk_at dksX3_quickSort_6 2 rfl rfl)
theorem dX3_quickSort_143 : decode cX3_quickSort 143 = .ok (.iload 8, 2) := dk_21 8 (dk_at dksX3_quickSort_6 3 rfl rfl)
theorem dX3_quickSort_145 : decode cX3_quickSort 145 = .ok (.imul, 1) := dk_104 (dk_at dksX3_quickSort_6 5 rfl rfl)
theorem dX3_quickSort_146 : decode cX3_quickSort 146 = .ok (.isub, 1) := dk_100 (dk_at dksX3_quickSort_6 6 rfl rfl)
theorem dX3_quickSort_147 : decode cX3_quickSort 147 = .ok (.iload 7, 2) := dk_21 7 (dk_at dksX3_quickSort_6 7 rfl rfl)
theorem dX3_quickSort_149 : decode cX3_quickSort 149 = .ok (.iload 8, 2) := dk_21 8 (dk_at dksX3_quickSort_6 9 rfl rfl)
theorem dX3_quickSort_151 : decode cX3_quickSort 151 = .ok (.isub, 1) := dk_100 (dk_at dksX3_quickSort_6 11 rfl rfl)
theorem dX3_quickSort_152 : decode cX3_quickSort 152 = .ok (.iload 7, 2) := dk_21 7 (dk_at dksX3_quickSort_6 12 rfl rfl)
theorem dX3_quickSort_154 : decode cX3_quickSort 154 = .ok (.aload_n 2, 1) := dk_44 (dk_at dksX3_quickSort_6 14 rfl rfl)
theorem dX3_quickSort_155 : decode cX3_quickSort 155 = .ok (.invokestatic 30, 3) := dk_184 0 30 (dk_at dksX3_quickSort_6 15 rfl rfl)
theorem dX3_quickSort_158 : decode cX3_quickSort 158 = .ok (.istore 7, 2) := dk_54 7 (dk_at dksX3_quickSort_6 18 rfl rfl)
theorem dX3_quickSort_160 : decode cX3_quickSort 160 = .ok (.iload 6, 2) := dk_21 6 (dk_at dksX3_quickSort_6 20 rfl rfl)
theorem dX3_quickSort_162 : decode cX3_quickSort 162 = .ok (.iload 5, 2) := dk_21 5 (dk_at dksX3_quickSort_6 22 rfl rfl)
theorem dX3_quickSort_164 : decode cX3_quickSort 164 = .ok (.iload 7, 2) := dk_21 7 (dk_at dksX3_quickSort_7 0 rfl rfl)
theorem dX3_quickSort_166 : decode cX3_quickSort 166 = .ok (.aload_n 2, 1) := dk_44 (dk_at dksX3_quickSort_7 2 rfl rfl)
theorem dX3_quickSort_167 : decode cX3_quickSort 167 = .ok (.invokestatic 30, 3) := dk_184 0 30 (dk_at dksX3_quickSort_7 3 rfl rfl)
theorem dX3_quickSort_170 : decode cX3_quickSort 170 = .ok (.istore 5, 2) := dk_54 5 (dk_at dksX3_quickSort_7 6 rfl rfl)
theorem dX3_quickSort_172 : decode cX3_quickSort 172 = .ok (.iload_n 0, 1) := dk_26 (dk_at dksX3_quickSort_7 8 rfl rfl)
theorem dX3_quickSort_173 : decode cX3_quickSort 173 = .ok (.istore 8, 2) := dk_54 8 (dk_at dksX3_quickSort_7 9 rfl rfl)
theorem dX3_quickSort_175 : decode cX3_quickSort 175 = .ok (.iload 8, 2) := dk_21 8 (dk_at dksX3_quickSort_7 11 rfl rfl)
theorem dX3_quickSort_177 : decode cX3_quickSort 177 = .ok (.istore 9, 2) := dk_54 9 (dk_at dksX3_quickSort_7 13 rfl rfl)
theorem dX3_quickSort_179 : decode cX3_quickSort 179 = .ok (.iload_n 1, 1) := dk_27 (dk_at dksX3_quickSort_7 15 rfl rfl)
theorem dX3_quickSort_180 : decode cX3_quickSort 180 = .ok (.iconst 1, 1) := dk_4 (dk_at dksX3_quickSort_7 16 rfl rfl)
theorem dX3_quickSort_181 : decode cX3_quickSort 181 = .ok (.isub, 1) := dk_100 (dk_at dksX3_quickSort_7 17 rfl rfl)
theorem dX3_quickSort_182 : decode cX3_quickSort 182 = .ok (.istore 10, 2) := dk_54 10 (dk_at dksX3_quickSort_7 18 rfl rfl)
theorem dX3_quickSort_184 : decode cX3_quickSort 184 = .ok (.iload 10, 2) := dk_21 10 (dk_at dksX3_quickSort_7 20 rfl rfl)
theorem dX3_quickSort_186 : decode cX3_quickSort 186 = .ok (.istore 11, 2) := dk_54 11 (dk_at dksX3_quickSort_7 22 rfl rfl)
theorem dX3_quickSort_188 : decode cX3_quickSort 188 = .ok (.iload 9, 2) := dk_21 9 (dk_at dksX3_quickSort_8 0 rfl rfl)
theorem dX3_quickSort_190 : decode cX3_quickSort 190 = .ok (.iload 10, 2) := dk_21 10 (dk_at dksX3_quickSort_8 2 rfl rfl)
theorem dX3_quickSort_192 : decode cX3_quickSort 192 = .ok (.if_icmp .gt 68, 3) := dk_163 0 68 (dk_at dksX3_quickSort_8 4 rfl rfl)
theorem dX3_quickSort_195 : decode cX3_quickSort 195 = .ok (.aload_n 2, 1) := dk_44 (dk_at dksX3_quickSort_8 7 rfl rfl)
theorem dX3_quickSort_196 : decode cX3_quickSort 196 = .ok (.iload 9, 2) := dk_21 9 (dk_at dksX3_quickSort_8 8 rfl rfl)
theorem dX3_quickSort_198 : decode cX3_quickSort 198 = .ok (.iload 5, 2) := dk_21 5 (dk_at dksX3_quickSort_8 10 rfl rfl)
theorem dX3_quickSort_200 : decode cX3_quickSort 200 = .ok (.invokeinterface 1 3, 5) := by decide +kernel
theorem dX3_quickSort_205 : decode cX3_quickSort 205 = .ok (.dup, 1) := dk_89 (dk_at dksX3_quickSort_8 17 rfl rfl)
theorem dX3_quickSort_206 : decode cX3_quickSort 206 = .ok (.istore 12, 2) := dk_54 12 (dk_at dksX3_quickSort_8 18 rfl rfl)
theorem dX3_quickSort_208 : decode cX3_quickSort 208 = .ok (.ifCond .gt 52, 3) := dk_157 0 52 (dk_at dksX3_quickSort_8 20 rfl rfl)
theorem dX3_quickSort_211 : decode cX3_quickSort 211 = .ok (.iload 12, 2) := dk_21 12 (dk_at dksX3_quickSort_9 0 rfl rfl)
theorem dX3_quickSort_213 : decode cX3_quickSort 213 = .ok (.ifCond .ne 41, 3) := dk_154 0 41 (dk_at dksX3_quickSort_9 2 rfl rfl)
theorem dX3_quickSort_216 : decode cX3_quickSort 216 = .ok (.iload 8, 2) := dk_21 8 (dk_at dksX3_quickSort_9 5 rfl rfl)
theorem dX3_quickSort_218 : decode cX3_quickSort 218 = .ok (.iload 5, 2) := dk_21 5 (dk_at dksX3_quickSort_9 7 rfl rfl)
theorem dX3_quickSort_220 : decode cX3_quickSort 220 = .ok (.if_icmp .ne 10, 3) := dk_160 0 10 (dk_at dksX3_quickSort_9 9 rfl rfl)
theorem dX3_quickSort_223 : decode cX3_quickSort 223 = .ok (.iload 9, 2) := dk_21 9 (dk_at dksX3_quickSort_9 12 rfl rfl)
theorem dX3_quickSort_225 : decode cX3_quickSort 225 = .ok (.istore 5, 2) := dk_54 5 (dk_at dksX3_quickSort_9 14 rfl rfl)
theorem dX3_quickSort_227 : decode cX3_quickSort 227 = .ok (.goto 14, 3) := dk_167 0 14 (dk_at dksX3_quickSort_9 16 rfl rfl)
theorem dX3_quickSort_230 : decode cX3_quickSort 230 = .ok (.iload 9, 2) := dk_21 9 (dk_at dksX3_quickSort_9 19 rfl rfl)
theorem dX3_quickSort_232 : decode cX3_quickSort 232 = .ok (.iload 5, 2) := dk_21 5 (dk_at dksX3_quickSort_9 21 rfl rfl)
theorem dX3_quickSort_234 : decode cX3_quickSort 234 = .ok (.if_icmp .ne 7, 3) := dk_160 0 7 (dk_at dksX3_quickSort_10 0 rfl rfl)
theorem dX3_quickSort_237 : decode cX3_quickSort 237 = .ok (.iload 8, 2) := dk_21 8 (dk_at dksX3_quickSort_10 3 rfl rfl)
theorem dX3_quickSort_239 : decode cX3_quickSort 239 = .ok (.istore 5, 2) := dk_54 5 (dk_at dksX3_quickSort_10 5 rfl rfl)
theorem dX3_quickSort_241 : decode cX3_quickSort 241 = .ok (.aload_n 3, 1) := dk_45 (dk_at dksX3_quickSort_10 7 rfl rfl)
theorem dX3_quickSort_242 : decode cX3_quickSort 242 = .ok (.iload 8, 2) := dk_21 8 (dk_at dksX3_quickSort_10 8 rfl rfl)
theorem dX3_quickSort_244 : decode cX3_quickSort 244 = .ok (.iinc 8 1, 3) := dk_132 8 1 (dk_at dksX3_quickSort_10 10 rfl rfl)
theorem dX3_quickSort_247 : decode cX3_quickSort 247 = .ok (.iload 9, 2) := dk_21 9 (dk_at dksX3_quickSort_10 13 rfl rfl)
theorem dX3_quickSort_249 : decode cX3_quickSort 249 = .ok (.invokeinterface 7 3, 5) := by decide +kernel
theorem dX3_quickSort_254 : decode cX3_quickSort 254 = .ok (.iinc 9 1, 3) := dk_132 9 1 (dk_at dksX3_quickSort_10 20 rfl rfl)
theorem dX3_quickSort_257 : decode cX3_quickSort 257 = .ok (.goto (-69), 3) := dk_167 255 187 (dk_at dksX3_quickSort_11 0 rfl rfl)
theorem dX3_quickSort_260 : decode cX3_quickSort 260 = .ok (.iload 10, 2) := dk_21 10 (dk_at dksX3_quickSort_11 3 rfl rfl)
theorem dX3_quickSort_262 : decode cX3_quickSort 262 = .ok (.iload 9, 2) := dk_21 9 (dk_at dksX3_quickSort_11 5 rfl rfl)
theorem dX3_quickSort_264 : decode cX3_quickSort 264 = .ok (.if_icmp .lt 68, 3) := dk_161 0 68 (dk_at dksX3_quickSort_11 7 rfl rfl)
theorem dX3_quickSort_267 : decode cX3_quickSort 267 = .ok (.aload_n 2, 1) := dk_44 (dk_at dksX3_quickSort_11 10 rfl rfl)
theorem dX3_quickSort_268 : decode cX3_quickSort 268 = .ok (.iload 10, 2) := dk_21 10 (dk_at dksX3_quickSort_11 11 rfl rfl)
theorem dX3_quickSort_270 : decode cX3_quickSort 270 = .ok (.iload 5, 2) := dk_21 5 (dk_at dksX3_quickSort_11 13 rfl rfl)
theorem dX3_quickSort_272 : decode cX3_quickSort 272 = .ok (.invokeinterface 1 3, 5) := by decide +kernel
theorem dX3_quickSort_277 : decode cX3_quickSort 277 = .ok (.dup, 1) := dk_89 (dk_at dksX3_quickSort_11 20 rfl rfl)
theorem dX3_quickSort_278 : decode cX3_quickSort 278 = .ok (.istore 12, 2) := dk_54 12 (dk_at dksX3_quickSort_11 21 rfl rfl)
theorem dX3_quickSort_280 : decode cX3_quickSort 280 = .ok (.ifCond .lt 52, 3) := dk_155 0 52 (dk_at dksX3_quickSort_12 0 rfl rfl)
theorem dX3_quickSort_283 : decode cX3_quickSort 283 = .ok (.iload 12, 2) := dk_21 12 (dk_at dksX3_quickSort_12 3 rfl rfl)
theorem dX3_quickSort_285 : decode cX3_quickSort 285 = .ok (.ifCond .ne 41, 3) := dk_154 0 41 (dk_at dksX3_quickSort_12 5 rfl rfl)
theorem dX3_quickSort_288 : decode cX3_quickSort 288 = .ok (.iload 10, 2) := dk_21 10 (dk_at dksX3_quickSort_12 8 rfl rfl)
theorem dX3_quickSort_290 : decode cX3_quickSort 290 = .ok (.iload 5, 2) := dk_21 5 (dk_at dksX3_quickSort_12 10 rfl rfl)
theorem dX3_quickSort_292 : decode cX3_quickSort 292 = .ok (.if_icmp .ne 10, 3) := dk_160 0 10 (dk_at dksX3_quickSort_12 12 rfl rfl)
theorem dX3_quickSort_295 : decode cX3_quickSort 295 = .ok (.iload 11, 2) := dk_21 11 (dk_at dksX3_quickSort_12 15 rfl rfl)
theorem dX3_quickSort_297 : decode cX3_quickSort 297 = .ok (.istore 5, 2) := dk_54 5 (dk_at dksX3_quickSort_12 17 rfl rfl)
theorem dX3_quickSort_299 : decode cX3_quickSort 299 = .ok (.goto 14, 3) := dk_167 0 14 (dk_at dksX3_quickSort_12 19 rfl rfl)
theorem dX3_quickSort_302 : decode cX3_quickSort 302 = .ok (.iload 11, 2) := dk_21 11 (dk_at dksX3_quickSort_12 22 rfl rfl)
theorem dX3_quickSort_304 : decode cX3_quickSort 304 = .ok (.iload 5, 2) := dk_21 5 (dk_at dksX3_quickSort_13 0 rfl rfl)
theorem dX3_quickSort_306 : decode cX3_quickSort 306 = .ok (.if_icmp .ne 7, 3) := dk_160 0 7 (dk_at dksX3_quickSort_13 2 rfl rfl)
theorem dX3_quickSort_309 : decode cX3_quickSort 309 = .ok (.iload 10, 2) := dk_21 10 (dk_at dksX3_quickSort_13 5 rfl rfl)
theorem dX3_quickSort_311 : decode cX3_quickSort 311 = .ok (.istore 5, 2) := dk_54 5 (dk_at dksX3_quickSort_13 7 rfl rfl)
theorem dX3_quickSort_313 : decode cX3_quickSort 313 = .ok (.aload_n 3, 1) := dk_45 (dk_at dksX3_quickSort_13 9 rfl rfl)
theorem dX3_quickSort_314 : decode cX3_quickSort 314 = .ok (.iload 10, 2) := dk_21 10 (dk_at dksX3_quickSort_13 10 rfl rfl)
theorem dX3_quickSort_316 : decode cX3_quickSort 316 = .ok (.iload 11, 2) := dk_21 11 (dk_at dksX3_quickSort_13 12 rfl rfl)
theorem dX3_quickSort_318 : decode cX3_quickSort 318 = .ok (.iinc 11 (-1), 3) := dk_132 11 255 (dk_at dksX3_quickSort_13 14 rfl rfl)
theorem dX3_quickSort_321 : decode cX3_quickSort 321 = .ok (.invokeinterface 7 3, 5) := by decide +kernel
theorem dX3_quickSort_326 : decode cX3_quickSort 326 = .ok (.iinc 10 (-1), 3) := dk_132 10 255 (dk_at dksX3_quickSort_14 0 rfl rfl)
theorem dX3_quickSort_329 : decode cX3_quickSort 329 = .ok (.goto (-69), 3) := dk_167 255 187 (dk_at dksX3_quickSort_14 3 rfl rfl)
theorem dX3_quickSort_332 : decode cX3_quickSort 332 = .ok (.iload 9, 2) := dk_21 9 (dk_at dksX3_quickSort_14 6 rfl rfl)
theorem dX3_quickSort_334 : decode cX3_quickSort 334 = .ok (.iload 10, 2) := dk_21 10 (dk_at dksX3_quickSort_14 8 rfl rfl)
theorem dX3_quickSort_336 : decode cX3_quickSort 336 = .ok (.if_icmp .le 6, 3) := dk_164 0 6 (dk_at dksX3_quickSort_14 10 rfl rfl)
theorem dX3_quickSort_339 : decode cX3_quickSort 339 = .ok (.goto 47, 3) := dk_167 0 47 (dk_at dksX3_quickSort_14 13 rfl rfl)
theorem dX3_quickSort_342 : decode cX3_quickSort 342 = .ok (.iload 9, 2) := dk_21 9 (dk_at dksX3_quickSort_14 16 rfl rfl)
theorem dX3_quickSort_344 : decode cX3_quickSort 344 = .ok (.iload 5, 2) := dk_21 5 (dk_at dksX3_quickSort_14 18 rfl rfl)
theorem dX3_quickSort_346 : decode cX3_quickSort 346 = .ok (.if_icmp .ne 10, 3) := dk_160 0 10 (dk_at dksX3_quickSort_14 20 rfl rfl)
theorem dX3_quickSort_349 : decode cX3_quickSort 349 = .ok (.iload 10, 2) := dk_21 10 (dk_at dksX3_quickSort_15 0 rfl rfl)
theorem dX3_quickSort_351 : decode cX3_quickSort 351 = .ok (.istore 5, 2) := dk_54 5 (dk_at dksX3_quickSort_15 2 rfl rfl)
theorem dX3_quickSort_353 : decode cX3_quickSort 353 = .ok (.goto 14, 3) := dk_167 0 14 (dk_at dksX3_quickSort_15 4 rfl rfl)
theorem dX3_quickSort_356 : decode cX3_quickSort 356 = .ok (.iload 10, 2) := dk_21 10 (dk_at dksX3_quickSort_15 7 rfl rfl)
theorem dX3_quickSort_358 : decode cX3_quickSort 358 = .ok (.iload 5, 2) := dk_21 5 (dk_at dksX3_quickSort_15 9 rfl rfl)
theorem dX3_quickSort_360 : decode cX3_quickSort 360 = .ok (.if_icmp .ne 7, 3) := dk_160 0 7 (dk_at dksX3_quickSort_15 11 rfl rfl)
theorem dX3_quickSort_363 : decode cX3_quickSort 363 = .ok (.iload 9, 2) := dk_21 9 (dk_at dksX3_quickSort_15 14 rfl rfl)
theorem dX3_quickSort_365 : decode cX3_quickSort 365 = .ok (.istore 5, 2) := dk_54 5 (dk_at dksX3_quickSort_15 16 rfl rfl)
theorem dX3_quickSort_367 : decode cX3_quickSort 367 = .ok (.aload_n 3, 1) := dk_45 (dk_at dksX3_quickSort_15 18 rfl rfl)
theorem dX3_quickSort_368 : decode cX3_quickSort 368 = .ok (.iload 9, 2) := dk_21 9 (dk_at dksX3_quickSort_15 19 rfl rfl)
theorem dX3_quickSort_370 : decode cX3_quickSort 370 = .ok (.iinc 9 1, 3) := dk_132 9 1 (dk_at dksX3_quickSort_15 21 rfl rfl)
theorem dX3_quickSort_373 : decode cX3_quickSort 373 = .ok (.iload 10, 2) := dk_21 10 (dk_at dksX3_quickSort_16 0 rfl rfl)
theorem dX3_quickSort_375 : decode cX3_quickSort 375 = .ok (.iinc 10 (-1), 3) := dk_132 10 255 (dk_at dksX3_quickSort_16 2 rfl rfl)
theorem dX3_quickSort_378 : decode cX3_quickSort 378 = .ok (.invokeinterface 7 3, 5) := by decide +kernel
theorem dX3_quickSort_383 : decode cX3_quickSort 383 = .ok (.goto (-195), 3) := dk_167 255 61 (dk_at dksX3_quickSort_16 10 rfl rfl)
theorem dX3_quickSort_386 : decode cX3_quickSort 386 = .ok (.iload 8, 2) := dk_21 8 (dk_at dksX3_quickSort_16 13 rfl rfl)
theorem dX3_quickSort_388 : decode cX3_quickSort 388 = .ok (.iload_n 0, 1) := dk_26 (dk_at dksX3_quickSort_16 15 rfl rfl)
theorem dX3_quickSort_389 : decode cX3_quickSort 389 = .ok (.isub, 1) := dk_100 (dk_at dksX3_quickSort_16 16 rfl rfl)
theorem dX3_quickSort_390 : decode cX3_quickSort 390 = .ok (.iload 9, 2) := dk_21 9 (dk_at dksX3_quickSort_16 17 rfl rfl)
theorem dX3_quickSort_392 : decode cX3_quickSort 392 = .ok (.iload 8, 2) := dk_21 8 (dk_at dksX3_quickSort_16 19 rfl rfl)
theorem dX3_quickSort_394 : decode cX3_quickSort 394 = .ok (.isub, 1) := dk_100 (dk_at dksX3_quickSort_16 21 rfl rfl)
theorem dX3_quickSort_395 : decode cX3_quickSort 395 = .ok (.invokestatic 33, 3) := dk_184 0 33 (dk_at dksX3_quickSort_17 0 rfl rfl)
theorem dX3_quickSort_398 : decode cX3_quickSort 398 = .ok (.istore 12, 2) := dk_54 12 (dk_at dksX3_quickSort_17 3 rfl rfl)
theorem dX3_quickSort_400 : decode cX3_quickSort 400 = .ok (.aload_n 3, 1) := dk_45 (dk_at dksX3_quickSort_17 5 rfl rfl)
theorem dX3_quickSort_401 : decode cX3_quickSort 401 = .ok (.iload_n 0, 1) := dk_26 (dk_at dksX3_quickSort_17 6 rfl rfl)
theorem dX3_quickSort_402 : decode cX3_quickSort 402 = .ok (.iload 9, 2) := dk_21 9 (dk_at dksX3_quickSort_17 7 rfl rfl)
theorem dX3_quickSort_404 : decode cX3_quickSort 404 = .ok (.iload 12, 2) := dk_21 12 (dk_at dksX3_quickSort_17 9 rfl rfl)
theorem dX3_quickSort_406 : decode cX3_quickSort 406 = .ok (.isub, 1) := dk_100 (dk_at dksX3_quickSort_17 11 rfl rfl)
theorem dX3_quickSort_407 : decode cX3_quickSort 407 = .ok (.iload 12, 2) := dk_21 12 (dk_at dksX3_quickSort_17 12 rfl rfl)
theorem dX3_quickSort_409 : decode cX3_quickSort 409 = .ok (.invokestatic 38, 3) := dk_184 0 38 (dk_at dksX3_quickSort_17 14 rfl rfl)
theorem dX3_quickSort_412 : decode cX3_quickSort 412 = .ok (.iload 11, 2) := dk_21 11 (dk_at dksX3_quickSort_17 17 rfl rfl)
theorem dX3_quickSort_414 : decode cX3_quickSort 414 = .ok (.iload 10, 2) := dk_21 10 (dk_at dksX3_quickSort_17 19 rfl rfl)
theorem dX3_quickSort_416 : decode cX3_quickSort 416 = .ok (.isub, 1) := dk_100 (dk_at dksX3_quickSort_17 21 rfl rfl)
theorem dX3_quickSort_417 : decode cX3_quickSort 417 = .ok (.iload_n 1, 1) := dk_27 (dk_at dksX3_quickSort_17 22 rfl rfl)
theorem dX3_quickSort_418 : decode cX3_quickSort 418 = .ok (.iload 11, 2) := dk_21 11 (dk_at dksX3_quickSort_18 0 rfl rfl)
theorem dX3_quickSort_420 : decode cX3_quickSort 420 = .ok (.isub, 1) := dk_100 (dk_at dksX3_quickSort_18 2 rfl rfl)
theorem dX3_quickSort_421 : decode cX3_quickSort 421 = .ok (.iconst 1, 1) := dk_4 (dk_at dksX3_quickSort_18 3 rfl rfl)
theorem dX3_quickSort_422 : decode cX3_quickSort 422 = .ok (.isub, 1) := dk_100 (dk_at dksX3_quickSort_18 4 rfl rfl)
theorem dX3_quickSort_423 : decode cX3_quickSort 423 = .ok (.invokestatic 33, 3) := dk_184 0 33 (dk_at dksX3_quickSort_18 5 rfl rfl)
theorem dX3_quickSort_426 : decode cX3_quickSort 426 = .ok (.istore 12, 2) := dk_54 12 (dk_at dksX3_quickSort_18 8 rfl rfl)
theorem dX3_quickSort_428 : decode cX3_quickSort 428 = .ok (.aload_n 3, 1) := dk_45 (dk_at dksX3_quickSort_18 10 rfl rfl)
theorem dX3_quickSort_429 : decode cX3_quickSort 429 = .ok (.iload 9, 2) := dk_21 9 (dk_at dksX3_quickSort_18 11 rfl rfl)
theorem dX3_quickSort_431 : decode cX3_quickSort 431 = .ok (.iload_n 1, 1) := dk_27 (dk_at dksX3_quickSort_18 13 rfl rfl)
theorem dX3_quickSort_432 : decode cX3_quickSort 432 = .ok (.iload 12, 2) := dk_21 12 (dk_at dksX3_quickSort_18 14 rfl rfl)
theorem dX3_quickSort_434 : decode cX3_quickSort 434 = .ok (.isub, 1) := dk_100 (dk_at dksX3_quickSort_18 16 rfl rfl)
theorem dX3_quickSort_435 : decode cX3_quickSort 435 = .ok (.iload 12, 2) := dk_21 12 (dk_at dksX3_quickSort_18 17 rfl rfl)
theorem dX3_quickSort_437 : decode cX3_quickSort 437 = .ok (.invokestatic 38, 3) := dk_184 0 38 (dk_at dksX3_quickSort_18 19 rfl rfl)
theorem dX3_quickSort_440 : decode cX3_quickSort 440 = .ok (.iload 9, 2) := dk_21 9 (dk_at dksX3_quickSort_18 22 rfl rfl)
theorem dX3_quickSort_442 : decode cX3_quickSort 442 = .ok (.iload 8, 2) := dk_21 8 (dk_at dksX3_quickSort_19 0 rfl rfl)
theorem dX3_quickSort_444 : decode cX3_quickSort 444 = .ok (.isub, 1) := dk_100 (dk_at dksX3_quickSort_19 2 rfl rfl)
theorem dX3_quickSort_445 : decode cX3_quickSort 445 = .ok (.dup, 1) := dk_89 (dk_at dksX3_quickSort_19 3 rfl rfl)
theorem dX3_quickSort_446 : decode cX3_quickSort 446 = .ok (.istore 12, 2) := dk_54 12 (dk_at dksX3_quickSort_19 4 rfl rfl)
theorem dX3_quickSort_448 : decode cX3_quickSort 448 = .ok (.iconst 1, 1) := dk_4 (dk_at dksX3_quickSort_19 6 rfl rfl)
theorem dX3_quickSort_449 : decode cX3_quickSort 449 = .ok (.if_icmp .le 13, 3) := dk_164 0 13 (dk_at dksX3_quickSort_19 7 rfl rfl)
theorem dX3_quickSort_452 : decode cX3_quickSort 452 = .ok (.iload_n 0, 1) := dk_26 (dk_at dksX3_quickSort_19 10 rfl rfl)
theorem dX3_quickSort_453 : decode cX3_quickSort 453 = .ok (.iload_n 0, 1) := dk_26 (dk_at dksX3_quickSort_19 11 rfl rfl)
theorem dX3_quickSort_454 : decode cX3_quickSort 454 = .ok (.iload 12, 2) := dk_21 12 (dk_at dksX3_quickSort_19 12 rfl rfl)
theorem dX3_quickSort_456 : decode cX3_quickSort 456 = .ok (.iadd, 1) := dk_96 (dk_at dksX3_quickSort_19 14 rfl rfl)
theorem dX3_quickSort_457 : decode cX3_quickSort 457 = .ok (.aload_n 2, 1) := dk_44 (dk_at dksX3_quickSort_19 15 rfl rfl)
theorem dX3_quickSort_458 : decode cX3_quickSort 458 = .ok (.aload_n 3, 1) := dk_45 (dk_at dksX3_quickSort_19 16 rfl rfl)
theorem dX3_quickSort_459 : decode cX3_quickSort 459 = .ok (.invokestatic 41, 3) := dk_184 0 41 (dk_at dksX3_quickSort_19 17 rfl rfl)
theorem dX3_quickSort_462 : decode cX3_quickSort 462 = .ok (.iload 11, 2) := dk_21 11 (dk_at dksX3_quickSort_19 20 rfl rfl)
theorem dX3_quickSort_464 : decode cX3_quickSort 464 = .ok (.iload 10, 2) := dk_21 10 (dk_at dksX3_quickSort_19 22 rfl rfl)
theorem dX3_quickSort_466 : decode cX3_quickSort 466 = .ok (.isub, 1) := dk_100 (dk_at dksX3_quickSort_20 0 rfl rfl)
theorem dX3_quickSort_467 : decode cX3_quickSort 467 = .ok (.dup, 1) := dk_89 (dk_at dksX3_quickSort_20 1 rfl rfl)
theorem dX3_quickSort_468 : decode cX3_quickSort 468 = .ok (.istore 12, 2) := dk_54 12 (dk_at dksX3_quickSort_20 2 rfl rfl)
theorem dX3_quickSort_470 : decode cX3_quickSort 470 = .ok (.iconst 1, 1) := dk_4 (dk_at dksX3_quickSort_20 4 rfl rfl)
theorem dX3_quickSort_471 : decode cX3_quickSort 471 = .ok (.if_icmp .le 13, 3) := dk_164 0 13 (dk_at dksX3_quickSort_20 5 rfl rfl)
theorem dX3_quickSort_474 : decode cX3_quickSort 474 = .ok (.iload_n 1, 1) := dk_27 (dk_at dksX3_quickSort_20 8 rfl rfl)
theorem dX3_quickSort_475 : decode cX3_quickSort 475 = .ok (.iload 12, 2) := dk_21 12 (dk_at dksX3_quickSort_20 9 rfl rfl)
theorem dX3_quickSort_477 : decode cX3_quickSort 477 = .ok (.isub, 1) := dk_100 (dk_at dksX3_quickSort_20 11 rfl rfl)
theorem dX3_quickSort_478 : decode cX3_quickSort 478 = .ok (.iload_n 1, 1) := dk_27 (dk_at dksX3_quickSort_20 12 rfl rfl)
theorem dX3_quickSort_479 : decode cX3_quickSort 479 = .ok (.aload_n 2, 1) := dk_44 (dk_at dksX3_quickSort_20 13 rfl rfl)
theorem dX3_quickSort_480 : decode cX3_quickSort 480 = .ok (.aload_n 3, 1) := dk_45 (dk_at dksX3_quickSort_20 14 rfl rfl)
theorem dX3_quickSort_481 : decode cX3_quickSort 481 = .ok (.invokestatic 41, 3) := dk_184 0 41 (dk_at dksX3_quickSort_20 15 rfl rfl)
theorem dX3_quickSort_484 : decode cX3_quickSort 484 = .ok (.return_, 1) := dk_177 (dk_at dksX3_quickSort_20 18 rfl rfl)
abbrev cX3_med3 : ByteArray := prog_2_method_4_code
def yX3_med3 : MethodName := ⟨RX3, "med3", "(IIILIntComparator;)I"⟩
def dkwX3_med3_3 : List UInt8 := [158, 0, 7, 28, 167, 0, 4, 26, 172]
abbrev dktX3_med3_3 : List UInt8 := dkwX3_med3_3 ++ []
def dkwX3_med3_2 : List UInt8 := [156, 0, 7, 28, 167, 0, 26, 26, 167, 0, 22, 21, 6, 158, 0, 7, 27, 167, 0, 13, 21, 5]
abbrev dktX3_med3_2 : List UInt8 := dkwX3_med3_2 ++ dktX3_med3_3
def dkwX3_med3_1 : List UInt8 := [185, 0, 1, 3, 0, 54, 6, 21, 4, 156, 0, 25, 21, 6, 156, 0, 7, 27, 167, 0, 35, 21, 5]
abbrev dktX3_med3_1 : List UInt8 := dkwX3_med3_1 ++ dktX3_med3_2
def dkwX3_med3_0 : List UInt8 := [45, 26, 27, 185, 0, 1, 3, 0, 54, 4, 45, 26, 28, 185, 0, 1, 3, 0, 54, 5, 45, 27, 28]
abbrev dktX3_med3_0 : List UInt8 := dkwX3_med3_0 ++ dktX3_med3_1
theorem dksX3_med3_0 : cX3_med3.data.toList.drop 0 = dktX3_med3_0 := by decide +kernel
theorem dksX3_med3_1 : cX3_med3.data.toList.drop 23 = dktX3_med3_1 := dk_seg dksX3_med3_0 23 rfl rfl
theorem dksX3_med3_2 : cX3_med3.data.toList.drop 46 = dktX3_med3_2 := dk_seg dksX3_med3_1 23 rfl rfl
theorem dksX3_med3_3 : cX3_med3.data.toList.drop 68 = dktX3_med3_3 := dk_seg dksX3_med3_2 22 rfl rfl
theorem dX3_med3_0 : decode cX3_med3 0 = .ok (.aload_n 3, 1) := dk_45 (dk_at dksX3_med3_0 0 rfl rfl)
theorem dX3_med3_1 : decode cX3_med3 1 = .ok (.iload_n 0, 1) := dk_26 (dk_at dksX3_med3_0 1 rfl rfl)
theorem dX3_med3_2 : decode cX3_med3 2 = .ok (.iload_n 1, 1) := dk_27 (dk_at dksX3_med3_0 2 rfl rfl)
theorem dX3_med3_3 : decode cX3_med3 3 = .ok (.invokeinterface 1 3, 5) := by decide +kernel
theorem dX3_med3_8 : decode cX3_med3 8 = .ok (.istore 4, 2) := dk_54 4 (dk_at dksX3_med3_0 8 rfl rfl)
theorem dX3_med3_10 : decode cX3_med3 10 = .ok (.aload_n 3, 1) := dk_45 (dk_at dksX3_med3_0 10 rfl rfl)
theorem dX3_med3_11 : decode cX3_med3 11 = .ok (.iload_n 0, 1) := dk_26 (dk_at dksX3_med3_0 11 rfl rfl)
theorem dX3_med3_12 : decode cX3_med3 12 = .ok (.iload_n 2, 1) := dk_28 (dk_at dksX3_med3_0 12 rfl rfl)
theorem dX3_med3_13 : decode cX3_med3 13 = .ok (.invokeinterface 1 3, 5) := by decide +kernel
theorem dX3_med3_18 : decode cX3_med3 18 = .ok (.istore 5, 2) := dk_54 5 (dk_at dksX3_med3_0 18 rfl rfl)
theorem dX3_med3_20 : decode cX3_med3 20 = .ok (.aload_n 3, 1) := dk_45 (dk_at dksX3_med3_0 20 rfl rfl)
theorem dX3_med3_21 : decode cX3_med3 21 = .ok (.iload_n 1, 1) := dk_27 (dk_at dksX3_med3_0 21 rfl rfl)
theorem dX3_med3_22 : decode cX3_med3 22 = .ok (.iload_n 2, 1) := dk_28 (dk_at dksX3_med3_0 22 rfl rfl)
theorem dX3_med3_23 : decode cX3_med3 23 = .ok (.invokeinterface 1 3, 5) := by decide +kernel
theorem dX3_med3_28 : decode cX3_med3 28 = .ok (.istore 6, 2) := dk_54 6 (dk_at dksX3_med3_1 5 rfl rfl)
theorem dX3_med3_30 : decode cX3_med3 30 = .ok (.iload 4, 2) := dk_21 4 (dk_at dksX3_med3_1 7 rfl rfl)
theorem dX3_med3_32 : decode cX3_med3 32 = .ok (.ifCond .ge 25, 3) := dk_156 0 25 (dk_at dksX3_med3_1 9 rfl rfl)
theorem dX3_med3_35 : decode cX3_med3 35 = .ok (.iload 6, 2) := dk_21 6 (dk_at dksX3_med3_1 12 rfl rfl)
theorem dX3_med3_37 : decode cX3_med3 37 = .ok (.ifCond .ge 7, 3) := dk_156 0 7 (dk_at dksX3_med3_1 14 rfl rfl)
theorem dX3_med3_40 : decode cX3_med3 40 = .ok (.iload_n 1, 1) := dk_27 (dk_at dksX3_med3_1 17 rfl rfl)
theorem dX3_med3_41 : decode cX3_med3 41 = .ok (.goto 35, 3) := dk_167 0 35 (dk_at dksX3_med3_1 18 rfl rfl)
theorem dX3_med3_44 : decode cX3_med3 44 = .ok (.iload 5, 2) := dk_21 5 (dk_at dksX3_med3_1 21 rfl rfl)
theorem dX3_med3_46 : decode cX3_med3 46 = .ok (.ifCond .ge 7, 3) := dk_156 0 7 (dk_at dksX3_med3_2 0 rfl rfl)
theorem dX3_med3_49 : decode cX3_med3 49 = .ok (.iload_n 2, 1) := dk_28 (dk_at dksX3_med3_2 3 rfl rfl)
theorem dX3_med3_50 : decode cX3_med3 50 = .ok (.goto 26, 3) := dk_167 0 26 (dk_at dksX3_med3_2 4 rfl rfl)
theorem dX3_med3_53 : decode cX3_med3 53 = .ok (.iload_n 0, 1) := dk_26 (dk_at dksX3_med3_2 7 rfl rfl)
theorem dX3_med3_54 : decode cX3_med3 54 = .ok (.goto 22, 3) := dk_167 0 22 (dk_at dksX3_med3_2 8 rfl rfl)
theorem dX3_med3_57 : decode cX3_med3 57 = .ok (.iload 6, 2) := dk_21 6 (dk_at dksX3_med3_2 11 rfl rfl)
theorem dX3_med3_59 : decode cX3_med3 59 = .ok (.ifCond .le 7, 3) := dk_158 0 7 (dk_at dksX3_med3_2 13 rfl rfl)
theorem dX3_med3_62 : decode cX3_med3 62 = .ok (.iload_n 1, 1) := dk_27 (dk_at dksX3_med3_2 16 rfl rfl)
theorem dX3_med3_63 : decode cX3_med3 63 = .ok (.goto 13, 3) := dk_167 0 13 (dk_at dksX3_med3_2 17 rfl rfl)
theorem dX3_med3_66 : decode cX3_med3 66 = .ok (.iload 5, 2) := dk_21 5 (dk_at dksX3_med3_2 20 rfl rfl)
theorem dX3_med3_68 : decode cX3_med3 68 = .ok (.ifCond .le 7, 3) := dk_158 0 7 (dk_at dksX3_med3_3 0 rfl rfl)
theorem dX3_med3_71 : decode cX3_med3 71 = .ok (.iload_n 2, 1) := dk_28 (dk_at dksX3_med3_3 3 rfl rfl)
theorem dX3_med3_72 : decode cX3_med3 72 = .ok (.goto 4, 3) := dk_167 0 4 (dk_at dksX3_med3_3 4 rfl rfl)
theorem dX3_med3_75 : decode cX3_med3 75 = .ok (.iload_n 0, 1) := dk_26 (dk_at dksX3_med3_3 7 rfl rfl)
theorem dX3_med3_76 : decode cX3_med3 76 = .ok (.ireturn, 1) := dk_172 (dk_at dksX3_med3_3 8 rfl rfl)
abbrev cX3_swap : ByteArray := prog_2_method_6_code
def yX3_swap : MethodName := ⟨RX3, "swap", "(LSwapper;III)V"⟩
def dkwX3_swap_1 : List UInt8 := [132, 2, 1, 167, 255, 233, 177]
abbrev dktX3_swap_1 : List UInt8 := dkwX3_swap_1 ++ []
def dkwX3_swap_0 : List UInt8 := [3, 54, 4, 21, 4, 29, 162, 0, 23, 42, 27, 28, 185, 0, 7, 3, 0, 132, 4, 1, 132, 1, 1]
abbrev dktX3_swap_0 : List UInt8 := dkwX3_swap_0 ++ dktX3_swap_1
theorem dksX3_swap_0 : cX3_swap.data.toList.drop 0 = dktX3_swap_0 := by decide +kernel
theorem dksX3_swap_1 : cX3_swap.data.toList.drop 23 = dktX3_swap_1 := dk_seg dksX3_swap_0 23 rfl rfl
theorem dX3_swap_0 : decode cX3_swap 0 = .ok (.iconst 0, 1) := dk_3 (dk_at dksX3_swap_0 0 rfl rfl)
theorem dX3_swap_1 : decode cX3_swap 1 = .ok (.istore 4, 2) := dk_54 4 (dk_at dksX3_swap_0 1 rfl rfl)
theorem dX3_swap_3 : decode cX3_swap 3 = .ok (.iload 4, 2) := dk_21 4 (dk_at dksX3_swap_0 3 rfl rfl)
theorem dX3_swap_5 : decode cX3_swap 5 = .ok (.iload_n 3, 1) := dk_29 (dk_at dksX3_swap_0 5 rfl rfl)
theorem dX3_swap_6 : decode cX3_swap 6 = .ok (.if_icmp .ge 23, 3) := dk_162 0 23 (dk_at dksX3_swap_0 6 rfl rfl)
theorem dX3_swap_9 : decode cX3_swap 9 = .ok (.aload_n 0, 1) := dk_42 (dk_at dksX3_swap_0 9 rfl rfl)
theorem dX3_swap_10 : decode cX3_swap 10 = .ok (.iload_n 1, 1) := dk_27 (dk_at dksX3_swap_0 10 rfl rfl)
theorem dX3_swap_11 : decode cX3_swap 11 = .ok (.iload_n 2, 1) := dk_28 (dk_at dksX3_swap_0 11 rfl rfl)
theorem dX3_swap_12 : decode cX3_swap 12 = .ok (.invokeinterface 7 3, 5) := by decide +kernel
theorem dX3_swap_17 : decode cX3_swap 17 = .ok (.iinc 4 1, 3) := dk_132 4 1 (dk_at dksX3_swap_0 17 rfl rfl)
theorem dX3_swap_20 : decode cX3_swap 20 = .ok (.iinc 1 1, 3) := dk_132 1 1 (dk_at dksX3_swap_0 20 rfl rfl)
theorem dX3_swap_23 : decode cX3_swap 23 = .ok (.iinc 2 1, 3) := dk_132 2 1 (dk_at dksX3_swap_1 0 rfl rfl)
theorem dX3_swap_26 : decode cX3_swap 26 = .ok (.goto (-23), 3) := dk_167 255 233 (dk_at dksX3_swap_1 3 rfl rfl)
theorem dX3_swap_29 : decode cX3_swap 29 = .ok (.return_, 1) := dk_177 (dk_at dksX3_swap_1 6 rfl rfl)
abbrev cX3_mergeSort : ByteArray := prog_2_method_5_code
def yX3_mergeSort : MethodName := ⟨RX3, "mergeSort", "(IILIntComparator;LSwapper;)V"⟩
def dkwX3_mergeSort_5 : List UInt8 := [177]
abbrev dktX3_mergeSort_5 : List UInt8 := dkwX3_mergeSort_5 ++ []
def dkwX3_mergeSort_4 : List UInt8 := [21, 5, 4, 100, 21, 5, 185, 0, 1, 3, 0, 157, 0, 4, 177, 26, 21, 5, 27, 44, 45, 184, 0, 22]
abbrev dktX3_mergeSort_4 : List UInt8 := dkwX3_mergeSort_4 ++ dktX3_mergeSort_5
def dkwX3_mergeSort_3 : List UInt8 := [26, 27, 96, 4, 124, 54, 5, 26, 21, 5, 44, 45, 184, 0, 26, 21, 5, 27, 44, 45, 184, 0, 26, 44]
abbrev dktX3_mergeSort_3 : List UInt8 := dkwX3_mergeSort_3 ++ dktX3_mergeSort_4
def dkwX3_mergeSort_2 : List UInt8 := [21, 6, 21, 6, 4, 100, 185, 0, 7, 3, 0, 132, 6, 255, 167, 255, 220, 132, 5, 1, 167, 255, 204, 177]
abbrev dktX3_mergeSort_2 : List UInt8 := dkwX3_mergeSort_2 ++ dktX3_mergeSort_3
def dkwX3_mergeSort_1 : List UInt8 := [54, 6, 21, 6, 26, 164, 0, 36, 44, 21, 6, 4, 100, 21, 6, 185, 0, 1, 3, 0, 158, 0, 21, 45]
abbrev dktX3_mergeSort_1 : List UInt8 := dkwX3_mergeSort_1 ++ dktX3_mergeSort_2
def dkwX3_mergeSort_0 : List UInt8 := [27, 26, 100, 54, 4, 21, 4, 16, 16, 162, 0, 62, 26, 54, 5, 21, 5, 27, 162, 0, 52, 21, 5]
abbrev dktX3_mergeSort_0 : List UInt8 := dkwX3_mergeSort_0 ++ dktX3_mergeSort_1
theorem dksX3_mergeSort_0 : cX3_mergeSort.data.toList.drop 0 = dktX3_mergeSort_0 := by decide +kernel
theorem dksX3_mergeSort_1 : cX3_mergeSort.data.toList.drop 23 = dktX3_mergeSort_1 := dk_seg dksX3_mergeSort_0 23 rfl rfl
theorem dksX3_mergeSort_2 : cX3_mergeSort.data.toList.drop 47 = dktX3_mergeSort_2 := dk_seg dksX3_mergeSort_1 24 rfl rfl
theorem dksX3_mergeSort_3 : cX3_mergeSort.data.toList.drop 71 = dktX3_mergeSort_3 := dk_seg dksX3_mergeSort_2 24 rfl rfl
theorem dksX3_mergeSort_4 : cX3_mergeSort.data.toList.drop 95 = dktX3_mergeSort_4 := dk_seg dksX3_mergeSort_3 24 rfl rfl
theorem dksX3_mergeSort_5 : cX3_mergeSort.data.toList.drop 119 = dktX3_mergeSort_5 := dk_seg dksX3_mergeSort_4 24 rfl rfl
theorem dX3_mergeSort_0 : decode cX3_mergeSort 0 = .ok (.iload_n 1, 1) := dk_27 (dk_at dksX3_mergeSort_0 0 rfl rfl)
theorem dX3_mergeSort_1 : decode cX3_mergeSort 1 = .ok (.iload_n 0, 1) := dk_26 (dk_at dksX3_mergeSort_0 1 rfl rfl)
theorem dX3_mergeSort_2 : decode cX3_mergeSort 2 = .ok (.isub, 1) := dk_100 (dk_at dksX3_mergeSort_0 2 rfl rfl)
theorem dX3_mergeSort_3 : decode cX3_mergeSort 3 = .ok (.istore 4, 2) := dk_54 4 (dk_at dksX3_mergeSort_0 3 rfl rfl)
theorem dX3_mergeSort_5 : decode cX3_mergeSort 5 = .ok (.iload 4, 2) := dk_21 4 (dk_at dksX3_mergeSort_0 5 rfl rfl)
theorem dX3_mergeSort_7 : decode cX3_mergeSort 7 = .ok (.bipush 16, 2) := dk_16 16 (dk_at dksX3_mergeSort_0 7 rfl rfl)
theorem dX3_mergeSort_9 : decode cX3_mergeSort 9 = .ok (.if_icmp .ge 62, 3) := dk_162 0 62 (dk_at dksX3_mergeSort_0 9 rfl rfl)
theorem dX3_mergeSort_12 : decode cX3_mergeSort 12 = .ok (.iload_n 0, 1) := dk_26 (dk_at dksX3_mergeSort_0 12 rfl rfl)
theorem dX3_mergeSort_13 : decode cX3_mergeSort 13 = .ok (.istore 5, 2) := dk_54 5 (dk_at dksX3_mergeSort_0 13 rfl rfl)
theorem dX3_mergeSort_15 : decode cX3_mergeSort 15 = .ok (.iload 5, 2) := dk_21 5 (dk_at dksX3_mergeSort_0 15 rfl rfl)
theorem dX3_mergeSort_17 : decode cX3_mergeSort 17 = .ok (.iload_n 1, 1) := dk_27 (dk_at dksX3_mergeSort_0 17 rfl rfl)
theorem dX3_mergeSort_18 : decode cX3_mergeSort 18 = .ok (.if_icmp .ge 52, 3) := dk_162 0 52 (dk_at dksX3_mergeSort_0 18 rfl rfl)
theorem dX3_mergeSort_21 : decode cX3_mergeSort 21 = .ok (.iload 5, 2) := dk_21 5 (dk_at dksX3_mergeSort_0 21 rfl rfl)
theorem dX3_mergeSort_23 : decode cX3_mergeSort 23 = .ok (.istore 6, 2) := dk_54 6 (dk_at dksX3_mergeSort_1 0 rfl rfl)
theorem dX3_mergeSort_25 : decode cX3_mergeSort 25 = .ok (.iload 6, 2) := dk_21 6 (dk_at dksX3_mergeSort_1 2 rfl rfl)
theorem dX3_mergeSort_27 : decode cX3_mergeSort 27 = .ok (.iload_n 0, 1) := dk_26 (dk_at dksX3_mergeSort_1 4 rfl rfl)
theorem dX3_mergeSort_28 : decode cX3_mergeSort 28 = .ok (.if_icmp .le 36, 3) := dk_164 0 36 (dk_at dksX3_mergeSort_1 5 rfl rfl)
theorem dX3_mergeSort_31 : decode cX3_mergeSort 31 = .ok (.aload_n 2, 1) := dk_44 (dk_at dksX3_mergeSort_1 8 rfl rfl)
theorem dX3_mergeSort_32 : decode cX3_mergeSort 32 = .ok (.iload 6, 2) := dk_21 6 (dk_at dksX3_mergeSort_1 9 rfl rfl)
theorem dX3_mergeSort_34 : decode cX3_mergeSort 34 = .ok (.iconst 1, 1) := dk_4 (dk_at dksX3_mergeSort_1 11 rfl rfl)
theorem dX3_mergeSort_35 : decode cX3_mergeSort 35 = .ok (.isub, 1) := dk_100 (dk_at dksX3_mergeSort_1 12 rfl rfl)
theorem dX3_mergeSort_36 : decode cX3_mergeSort 36 = .ok (.iload 6, 2) := dk_21 6 (dk_at dksX3_mergeSort_1 13 rfl rfl)
theorem dX3_mergeSort_38 : decode cX3_mergeSort 38 = .ok (.invokeinterface 1 3, 5) := by decide +kernel
theorem dX3_mergeSort_43 : decode cX3_mergeSort 43 = .ok (.ifCond .le 21, 3) := dk_158 0 21 (dk_at dksX3_mergeSort_1 20 rfl rfl)
theorem dX3_mergeSort_46 : decode cX3_mergeSort 46 = .ok (.aload_n 3, 1) := dk_45 (dk_at dksX3_mergeSort_1 23 rfl rfl)
theorem dX3_mergeSort_47 : decode cX3_mergeSort 47 = .ok (.iload 6, 2) := dk_21 6 (dk_at dksX3_mergeSort_2 0 rfl rfl)
theorem dX3_mergeSort_49 : decode cX3_mergeSort 49 = .ok (.iload 6, 2) := dk_21 6 (dk_at dksX3_mergeSort_2 2 rfl rfl)
theorem dX3_mergeSort_51 : decode cX3_mergeSort 51 = .ok (.iconst 1, 1) := dk_4 (dk_at dksX3_mergeSort_2 4 rfl rfl)
theorem dX3_mergeSort_52 : decode cX3_mergeSort 52 = .ok (.isub, 1) := dk_100 (dk_at dksX3_mergeSort_2 5 rfl rfl)
theorem dX3_mergeSort_53 : decode cX3_mergeSort 53 = .ok (.invokeinterface 7 3, 5) := by decide +kernel
theorem dX3_mergeSort_58 : decode cX3_mergeSort 58 = .ok (.iinc 6 (-1), 3) := dk_132 6 255 (dk_at dksX3_mergeSort_2 11 rfl rfl)
theorem dX3_mergeSort_61 : decode cX3_mergeSort 61 = .ok (.goto (-36), 3) := dk_167 255 220 (dk_at dksX3_mergeSort_2 14 rfl rfl)
theorem dX3_mergeSort_64 : decode cX3_mergeSort 64 = .ok (.iinc 5 1, 3) := dk_132 5 1 (dk_at dksX3_mergeSort_2 17 rfl rfl)
theorem dX3_mergeSort_67 : decode cX3_mergeSort 67 = .ok (.goto (-52), 3) := dk_167 255 204 (dk_at dksX3_mergeSort_2 20 rfl rfl)
theorem dX3_mergeSort_70 : decode cX3_mergeSort 70 = .ok (.return_, 1) := dk_177 (dk_at dksX3_mergeSort_2 23 rfl rfl)
theorem dX3_mergeSort_71 : decode cX3_mergeSort 71 = .ok (.iload_n 0, 1) := dk_26 (dk_at dksX3_mergeSort_3 0 rfl rfl)
theorem dX3_mergeSort_72 : decode cX3_mergeSort 72 = .ok (.iload_n 1, 1) := dk_27 (dk_at dksX3_mergeSort_3 1 rfl rfl)
theorem dX3_mergeSort_73 : decode cX3_mergeSort 73 = .ok (.iadd, 1) := dk_96 (dk_at dksX3_mergeSort_3 2 rfl rfl)
theorem dX3_mergeSort_74 : decode cX3_mergeSort 74 = .ok (.iconst 1, 1) := dk_4 (dk_at dksX3_mergeSort_3 3 rfl rfl)
theorem dX3_mergeSort_75 : decode cX3_mergeSort 75 = .ok (.iushr, 1) := dk_124 (dk_at dksX3_mergeSort_3 4 rfl rfl)
theorem dX3_mergeSort_76 : decode cX3_mergeSort 76 = .ok (.istore 5, 2) := dk_54 5 (dk_at dksX3_mergeSort_3 5 rfl rfl)
theorem dX3_mergeSort_78 : decode cX3_mergeSort 78 = .ok (.iload_n 0, 1) := dk_26 (dk_at dksX3_mergeSort_3 7 rfl rfl)
theorem dX3_mergeSort_79 : decode cX3_mergeSort 79 = .ok (.iload 5, 2) := dk_21 5 (dk_at dksX3_mergeSort_3 8 rfl rfl)
theorem dX3_mergeSort_81 : decode cX3_mergeSort 81 = .ok (.aload_n 2, 1) := dk_44 (dk_at dksX3_mergeSort_3 10 rfl rfl)
theorem dX3_mergeSort_82 : decode cX3_mergeSort 82 = .ok (.aload_n 3, 1) := dk_45 (dk_at dksX3_mergeSort_3 11 rfl rfl)
theorem dX3_mergeSort_83 : decode cX3_mergeSort 83 = .ok (.invokestatic 26, 3) := dk_184 0 26 (dk_at dksX3_mergeSort_3 12 rfl rfl)
theorem dX3_mergeSort_86 : decode cX3_mergeSort 86 = .ok (.iload 5, 2) := dk_21 5 (dk_at dksX3_mergeSort_3 15 rfl rfl)
theorem dX3_mergeSort_88 : decode cX3_mergeSort 88 = .ok (.iload_n 1, 1) := dk_27 (dk_at dksX3_mergeSort_3 17 rfl rfl)
theorem dX3_mergeSort_89 : decode cX3_mergeSort 89 = .ok (.aload_n 2, 1) := dk_44 (dk_at dksX3_mergeSort_3 18 rfl rfl)
theorem dX3_mergeSort_90 : decode cX3_mergeSort 90 = .ok (.aload_n 3, 1) := dk_45 (dk_at dksX3_mergeSort_3 19 rfl rfl)
theorem dX3_mergeSort_91 : decode cX3_mergeSort 91 = .ok (.invokestatic 26, 3) := dk_184 0 26 (dk_at dksX3_mergeSort_3 20 rfl rfl)
theorem dX3_mergeSort_94 : decode cX3_mergeSort 94 = .ok (.aload_n 2, 1) := dk_44 (dk_at dksX3_mergeSort_3 23 rfl rfl)
theorem dX3_mergeSort_95 : decode cX3_mergeSort 95 = .ok (.iload 5, 2) := dk_21 5 (dk_at dksX3_mergeSort_4 0 rfl rfl)
theorem dX3_mergeSort_97 : decode cX3_mergeSort 97 = .ok (.iconst 1, 1) := dk_4 (dk_at dksX3_mergeSort_4 2 rfl rfl)
theorem dX3_mergeSort_98 : decode cX3_mergeSort 98 = .ok (.isub, 1) := dk_100 (dk_at dksX3_mergeSort_4 3 rfl rfl)
theorem dX3_mergeSort_99 : decode cX3_mergeSort 99 = .ok (.iload 5, 2) := dk_21 5 (dk_at dksX3_mergeSort_4 4 rfl rfl)
theorem dX3_mergeSort_101 : decode cX3_mergeSort 101 = .ok (.invokeinterface 1 3, 5) := by decide +kernel
theorem dX3_mergeSort_106 : decode cX3_mergeSort 106 = .ok (.ifCond .gt 4, 3) := dk_157 0 4 (dk_at dksX3_mergeSort_4 11 rfl rfl)
theorem dX3_mergeSort_109 : decode cX3_mergeSort 109 = .ok (.return_, 1) := dk_177 (dk_at dksX3_mergeSort_4 14 rfl rfl)
theorem dX3_mergeSort_110 : decode cX3_mergeSort 110 = .ok (.iload_n 0, 1) := dk_26 (dk_at dksX3_mergeSort_4 15 rfl rfl)
theorem dX3_mergeSort_111 : decode cX3_mergeSort 111 = .ok (.iload 5, 2) := dk_21 5 (dk_at dksX3_mergeSort_4 16 rfl rfl)
theorem dX3_mergeSort_113 : decode cX3_mergeSort 113 = .ok (.iload_n 1, 1) := dk_27 (dk_at dksX3_mergeSort_4 18 rfl rfl)
theorem dX3_mergeSort_114 : decode cX3_mergeSort 114 = .ok (.aload_n 2, 1) := dk_44 (dk_at dksX3_mergeSort_4 19 rfl rfl)
theorem dX3_mergeSort_115 : decode cX3_mergeSort 115 = .ok (.aload_n 3, 1) := dk_45 (dk_at dksX3_mergeSort_4 20 rfl rfl)
theorem dX3_mergeSort_116 : decode cX3_mergeSort 116 = .ok (.invokestatic 22, 3) := dk_184 0 22 (dk_at dksX3_mergeSort_4 21 rfl rfl)
theorem dX3_mergeSort_119 : decode cX3_mergeSort 119 = .ok (.return_, 1) := dk_177 (dk_at dksX3_mergeSort_5 0 rfl rfl)
abbrev cX3_inPlaceMerge : ByteArray := prog_2_method_1_code
def yX3_inPlaceMerge : MethodName := ⟨RX3, "inPlaceMerge", "(IIILIntComparator;LSwapper;)V"⟩
def dkwX3_inPlaceMerge_10 : List UInt8 := [21, 5, 27, 45, 25, 4, 184, 0, 22, 27, 21, 6, 28, 45, 25, 4, 184, 0, 22, 177]
abbrev dktX3_inPlaceMerge_10 : List UInt8 := dkwX3_inPlaceMerge_10 ++ []
def dkwX3_inPlaceMerge_9 : List UInt8 := [21, 10, 132, 10, 1, 21, 11, 185, 0, 7, 3, 0, 167, 255, 232, 21, 5, 21, 6, 27, 100, 96, 60, 26]
abbrev dktX3_inPlaceMerge_9 : List UInt8 := dkwX3_inPlaceMerge_9 ++ dktX3_inPlaceMerge_10
def dkwX3_inPlaceMerge_8 : List UInt8 := [167, 255, 232, 21, 7, 54, 10, 21, 9, 54, 11, 21, 10, 132, 11, 255, 21, 11, 162, 0, 20, 25, 4]
abbrev dktX3_inPlaceMerge_8 : List UInt8 := dkwX3_inPlaceMerge_8 ++ dktX3_inPlaceMerge_9
def dkwX3_inPlaceMerge_7 : List UInt8 := [132, 11, 255, 21, 11, 162, 0, 20, 25, 4, 21, 10, 132, 10, 1, 21, 11, 185, 0, 7, 3, 0]
abbrev dktX3_inPlaceMerge_7 : List UInt8 := dkwX3_inPlaceMerge_7 ++ dktX3_inPlaceMerge_8
def dkwX3_inPlaceMerge_6 : List UInt8 := [132, 10, 1, 21, 11, 185, 0, 7, 3, 0, 167, 255, 232, 21, 8, 54, 10, 21, 9, 54, 11, 21, 10]
abbrev dktX3_inPlaceMerge_6 : List UInt8 := dkwX3_inPlaceMerge_6 ++ dktX3_inPlaceMerge_7
def dkwX3_inPlaceMerge_5 : List UInt8 := [21, 7, 54, 10, 21, 8, 54, 11, 21, 10, 132, 11, 255, 21, 11, 162, 0, 20, 25, 4, 21, 10]
abbrev dktX3_inPlaceMerge_5 : List UInt8 := dkwX3_inPlaceMerge_5 ++ dktX3_inPlaceMerge_6
def dkwX3_inPlaceMerge_4 : List UInt8 := [54, 7, 27, 54, 8, 21, 6, 54, 9, 21, 8, 21, 7, 159, 0, 115, 21, 8, 21, 9, 159, 0, 108]
abbrev dktX3_inPlaceMerge_4 : List UInt8 := dkwX3_inPlaceMerge_4 ++ dktX3_inPlaceMerge_5
def dkwX3_inPlaceMerge_3 : List UInt8 := [167, 0, 22, 27, 28, 27, 100, 5, 108, 96, 54, 6, 26, 27, 21, 6, 45, 184, 0, 19, 54, 5, 21, 5]
abbrev dktX3_inPlaceMerge_3 : List UInt8 := dkwX3_inPlaceMerge_3 ++ dktX3_inPlaceMerge_4
def dkwX3_inPlaceMerge_2 : List UInt8 := [164, 0, 25, 26, 27, 26, 100, 5, 108, 96, 54, 5, 27, 28, 21, 5, 45, 184, 0, 13, 54, 6]
abbrev dktX3_inPlaceMerge_2 : List UInt8 := dkwX3_inPlaceMerge_2 ++ dktX3_inPlaceMerge_3
def dkwX3_inPlaceMerge_1 : List UInt8 := [185, 0, 1, 3, 0, 156, 0, 12, 25, 4, 26, 27, 185, 0, 7, 3, 0, 177, 27, 26, 100, 28, 27, 100]
abbrev dktX3_inPlaceMerge_1 : List UInt8 := dkwX3_inPlaceMerge_1 ++ dktX3_inPlaceMerge_2
def dkwX3_inPlaceMerge_0 : List UInt8 := [26, 27, 162, 0, 8, 27, 28, 161, 0, 4, 177, 28, 26, 100, 5, 160, 0, 24, 45, 27, 26]
abbrev dktX3_inPlaceMerge_0 : List UInt8 := dkwX3_inPlaceMerge_0 ++ dktX3_inPlaceMerge_1
theorem dksX3_inPlaceMerge_0 : cX3_inPlaceMerge.data.toList.drop 0 = dktX3_inPlaceMerge_0 := by decide +kernel
theorem dksX3_inPlaceMerge_1 : cX3_inPlaceMerge.data.toList.drop 21 = dktX3_inPlaceMerge_1 := dk_seg dksX3_inPlaceMerge_0 21 rfl rfl
theorem dksX3_inPlaceMerge_2 : cX3_inPlaceMerge.data.toList.drop 45 = dktX3_inPlaceMerge_2 := dk_seg dksX3_inPlaceMerge_1 24 rfl rfl
theorem dksX3_inPlaceMerge_3 : cX3_inPlaceMerge.data.toList.drop 67 = dktX3_inPlaceMerge_3 := dk_seg dksX3_inPlaceMerge_2 22 rfl rfl
theorem dksX3_inPlaceMerge_4 : cX3_inPlaceMerge.data.toList.drop 91 = dktX3_inPlaceMerge_4 := dk_seg dksX3_inPlaceMerge_3 24 rfl rfl
theorem dksX3_inPlaceMerge_5 : cX3_inPlaceMerge.data.toList.drop 114 = dktX3_inPlaceMerge_5 := dk_seg dksX3_inPlaceMerge_4 23 rfl rfl
theorem dksX3_inPlaceMerge_6 : cX3_inPlaceMerge.data.toList.drop 136 = dktX3_inPlaceMerge_6 := dk_seg dksX3_inPlaceMerge_5 22 rfl rfl
theorem dksX3_inPlaceMerge_7 : cX3_inPlaceMerge.data.toList.drop 159 = dktX3_inPlaceMerge_7 := dk_seg dksX3_inPlaceMerge_6 23 rfl rfl
theorem dksX3_inPlaceMerge_8 : cX3_inPlaceMerge.data.toList.drop 181 = dktX3_inPlaceMerge_8 := dk_seg dksX3_inPlaceMerge_7 22 rfl rfl
theorem dksX3_inPlaceMerge_9 : cX3_inPlaceMerge.data.toList.drop 204 = dktX3_inPlaceMerge_9 := dk_seg dksX3_inPlaceMerge_8 23 rfl rfl
theorem dksX3_inPlaceMerge_10 : cX3_inPlaceMerge.data.toList.drop 228 = dktX3_inPlaceMerge_10 := dk_seg dksX3_inPlaceMerge_9 24 rfl rfl
theorem dX3_inPlaceMerge_0 : decode cX3_inPlaceMerge 0 = .ok (.iload_n 0, 1) := dk_26 (dk_at dksX3_inPlaceMerge_0 0 rfl rfl)
theorem dX3_inPlaceMerge_1 : decode cX3_inPlaceMerge 1 = .ok (.iload_n 1, 1) := dk_27 (dk_at dksX3_inPlaceMerge_0 1 rfl rfl)
theorem dX3_inPlaceMerge_2 : decode cX3_inPlaceMerge 2 = .ok (.if_icmp .ge 8, 3) := dk_162 0 8 (dk_at dksX3_inPlaceMerge_0 2 rfl rfl)
theorem dX3_inPlaceMerge_5 : decode cX3_inPlaceMerge 5 = .ok (.iload_n 1, 1) := dk_27 (dk_at dksX3_inPlaceMerge_0 5 rfl rfl)
theorem dX3_inPlaceMerge_6 : decode cX3_inPlaceMerge 6 = .ok (.iload_n 2, 1) := dk_28 (dk_at dksX3_inPlaceMerge_0 6 rfl rfl)
theorem dX3_inPlaceMerge_7 : decode cX3_inPlaceMerge 7 = .ok (.if_icmp .lt 4, 3) := dk_161 0 4 (dk_at dksX3_inPlaceMerge_0 7 rfl rfl)
theorem dX3_inPlaceMerge_10 : decode cX3_inPlaceMerge 10 = .ok (.return_, 1) := dk_177 (dk_at dksX3_inPlaceMerge_0 10 rfl rfl)
theorem dX3_inPlaceMerge_11 : decode cX3_inPlaceMerge 11 = .ok (.iload_n 2, 1) := dk_28 (dk_at dksX3_inPlaceMerge_0 11 rfl rfl)
theorem dX3_inPlaceMerge_12 : decode cX3_inPlaceMerge 12 = .ok (.iload_n 0, 1) := dk_26 (dk_at dksX3_inPlaceMerge_0 12 rfl rfl)
theorem dX3_inPlaceMerge_13 : decode cX3_inPlaceMerge 13 = .ok (.isub, 1) := dk_100 (dk_at dksX3_inPlaceMerge_0 13 rfl rfl)
theorem dX3_inPlaceMerge_14 : decode cX3_inPlaceMerge 14 = .ok (.iconst 2, 1) := dk_5 (dk_at dksX3_inPlaceMerge_0 14 rfl rfl)
theorem dX3_inPlaceMerge_15 : decode cX3_inPlaceMerge 15 = .ok (.if_icmp .ne 24, 3) := dk_160 0 24 (dk_at dksX3_inPlaceMerge_0 15 rfl rfl)
theorem dX3_inPlaceMerge_18 : decode cX3_inPlaceMerge 18 = .ok (.aload_n 3, 1) := dk_45 (dk_at dksX3_inPlaceMerge_0 18 rfl rfl)
theorem dX3_inPlaceMerge_19 : decode cX3_inPlaceMerge 19 = .ok (.iload_n 1, 1) := dk_27 (dk_at dksX3_inPlaceMerge_0 19 rfl rfl)
theorem dX3_inPlaceMerge_20 : decode cX3_inPlaceMerge 20 = .ok (.iload_n 0, 1) := dk_26 (dk_at dksX3_inPlaceMerge_0 20 rfl rfl)
theorem dX3_inPlaceMerge_21 : decode cX3_inPlaceMerge 21 = .ok (.invokeinterface 1 3, 5) := by decide +kernel
theorem dX3_inPlaceMerge_26 : decode cX3_inPlaceMerge 26 = .ok (.ifCond .ge 12, 3) := dk_156 0 12 (dk_at dksX3_inPlaceMerge_1 5 rfl rfl)
theorem dX3_inPlaceMerge_29 : decode cX3_inPlaceMerge 29 = .ok (.aload 4, 2) := dk_25 4 (dk_at dksX3_inPlaceMerge_1 8 rfl rfl)
theorem dX3_inPlaceMerge_31 : decode cX3_inPlaceMerge 31 = .ok (.iload_n 0, 1) := dk_26 (dk_at dksX3_inPlaceMerge_1 10 rfl rfl)
theorem dX3_inPlaceMerge_32 : decode cX3_inPlaceMerge 32 = .ok (.iload_n 1, 1) := dk_27 (dk_at dksX3_inPlaceMerge_1 11 rfl rfl)
theorem dX3_inPlaceMerge_33 : decode cX3_inPlaceMerge 33 = .ok (.invokeinterface 7 3, 5) := by decide +kernel
theorem dX3_inPlaceMerge_38 : decode cX3_inPlaceMerge 38 = .ok (.return_, 1) := dk_177 (dk_at dksX3_inPlaceMerge_1 17 rfl rfl)
theorem dX3_inPlaceMerge_39 : decode cX3_inPlaceMerge 39 = .ok (.iload_n 1, 1) := dk_27 (dk_at dksX3_inPlaceMerge_1 18 rfl rfl)
theorem dX3_inPlaceMerge_40 : decode cX3_inPlaceMerge 40 = .ok (.iload_n 0, 1) := dk_26 (dk_at dksX3_inPlaceMerge_1 19 rfl rfl)
theorem dX3_inPlaceMerge_41 : decode cX3_inPlaceMerge 41 = .ok (.isub, 1) := dk_100 (dk_at dksX3_inPlaceMerge_1 20 rfl rfl)
theorem dX3_inPlaceMerge_42 : decode cX3_inPlaceMerge 42 = .ok (.iload_n 2, 1) := dk_28 (dk_at dksX3_inPlaceMerge_1 21 rfl rfl)
theorem dX3_inPlaceMerge_43 : decode cX3_inPlaceMerge 43 = .ok (.iload_n 1, 1) := dk_27 (dk_at dksX3_inPlaceMerge_1 22 rfl rfl)
theorem dX3_inPlaceMerge_44 : decode cX3_inPlaceMerge 44 = .ok (.isub, 1) := dk_100 (dk_at dksX3_inPlaceMerge_1 23 rfl rfl)
theorem dX3_inPlaceMerge_45 : decode cX3_inPlaceMerge 45 = .ok (.if_icmp .le 25, 3) := dk_164 0 25 (dk_at dksX3_inPlaceMerge_2 0 rfl rfl)
theorem dX3_inPlaceMerge_48 : decode cX3_inPlaceMerge 48 = .ok (.iload_n 0, 1) := dk_26 (dk_at dksX3_inPlaceMerge_2 3 rfl rfl)
theorem dX3_inPlaceMerge_49 : decode cX3_inPlaceMerge 49 = .ok (.iload_n 1, 1) := dk_27 (dk_at dksX3_inPlaceMerge_2 4 rfl rfl)
theorem dX3_inPlaceMerge_50 : decode cX3_inPlaceMerge 50 = .ok (.iload_n 0, 1) := dk_26 (dk_at dksX3_inPlaceMerge_2 5 rfl rfl)
theorem dX3_inPlaceMerge_51 : decode cX3_inPlaceMerge 51 = .ok (.isub, 1) := dk_100 (dk_at dksX3_inPlaceMerge_2 6 rfl rfl)
theorem dX3_inPlaceMerge_52 : decode cX3_inPlaceMerge 52 = .ok (.iconst 2, 1) := dk_5 (dk_at dksX3_inPlaceMerge_2 7 rfl rfl)
theorem dX3_inPlaceMerge_53 : decode cX3_inPlaceMerge 53 = .ok (.idiv, 1) := dk_108 (dk_at dksX3_inPlaceMerge_2 8 rfl rfl)
theorem dX3_inPlaceMerge_54 : decode cX3_inPlaceMerge 54 = .ok (.iadd, 1) := dk_96 (dk_at dksX3_inPlaceMerge_2 9 rfl rfl)
theorem dX3_inPlaceMerge_55 : decode cX3_inPlaceMerge 55 = .ok (.istore 5, 2) := dk_54 5 (dk_at dksX3_inPlaceMerge_2 10 rfl rfl)
theorem dX3_inPlaceMerge_57 : decode cX3_inPlaceMerge 57 = .ok (.iload_n 1, 1) := dk_27 (dk_at dksX3_inPlaceMerge_2 12 rfl rfl)
theorem dX3_inPlaceMerge_58 : decode cX3_inPlaceMerge 58 = .ok (.iload_n 2, 1) := dk_28 (dk_at dksX3_inPlaceMerge_2 13 rfl rfl)
theorem dX3_inPlaceMerge_59 : decode cX3_inPlaceMerge 59 = .ok (.iload 5, 2) := dk_21 5 (dk_at dksX3_inPlaceMerge_2 14 rfl rfl)
theorem dX3_inPlaceMerge_61 : decode cX3_inPlaceMerge 61 = .ok (.aload_n 3, 1) := dk_45 (dk_at dksX3_inPlaceMerge_2 16 rfl rfl)
theorem dX3_inPlaceMerge_62 : decode cX3_inPlaceMerge 62 = .ok (.invokestatic 13, 3) := dk_184 0 13 (dk_at dksX3_inPlaceMerge_2 17 rfl rfl)
theorem dX3_inPlaceMerge_65 : decode cX3_inPlaceMerge 65 = .ok (.istore 6, 2) := dk_54 6 (dk_at dksX3_inPlaceMerge_2 20 rfl rfl)
theorem dX3_inPlaceMerge_67 : decode cX3_inPlaceMerge 67 = .ok (.goto 22, 3) := dk_167 0 22 (dk_at dksX3_inPlaceMerge_3 0 rfl rfl)
theorem dX3_inPlaceMerge_70 : decode cX3_inPlaceMerge 70 = .ok (.iload_n 1, 1) := dk_27 (dk_at dksX3_inPlaceMerge_3 3 rfl rfl)
theorem dX3_inPlaceMerge_71 : decode cX3_inPlaceMerge 71 = .ok (.iload_n 2, 1) := dk_28 (dk_at dksX3_inPlaceMerge_3 4 rfl rfl)
theorem dX3_inPlaceMerge_72 : decode cX3_inPlaceMerge 72 = .ok (.iload_n 1, 1) := dk_27 (dk_at dksX3_inPlaceMerge_3 5 rfl rfl)
theorem dX3_inPlaceMerge_73 : decode cX3_inPlaceMerge 73 = .ok (.isub, 1) := dk_100 (dk_at dksX3_inPlaceMerge_3 6 rfl rfl)
theorem dX3_inPlaceMerge_74 : decode cX3_inPlaceMerge 74 = .ok (.iconst 2, 1) := dk_5 (dk_at dksX3_inPlaceMerge_3 7 rfl rfl)
theorem dX3_inPlaceMerge_75 : decode cX3_inPlaceMerge 75 = .ok (.idiv, 1) := dk_108 (dk_at dksX3_inPlaceMerge_3 8 rfl rfl)
theorem dX3_inPlaceMerge_76 : decode cX3_inPlaceMerge 76 = .ok (.iadd, 1) := dk_96 (dk_at dksX3_inPlaceMerge_3 9 rfl rfl)
theorem dX3_inPlaceMerge_77 : decode cX3_inPlaceMerge 77 = .ok (.istore 6, 2) := dk_54 6 (dk_at dksX3_inPlaceMerge_3 10 rfl rfl)
theorem dX3_inPlaceMerge_79 : decode cX3_inPlaceMerge 79 = .ok (.iload_n 0, 1) := dk_26 (dk_at dksX3_inPlaceMerge_3 12 rfl rfl)
theorem dX3_inPlaceMerge_80 : decode cX3_inPlaceMerge 80 = .ok (.iload_n 1, 1) := dk_27 (dk_at dksX3_inPlaceMerge_3 13 rfl rfl)
theorem dX3_inPlaceMerge_81 : decode cX3_inPlaceMerge 81 = .ok (.iload 6, 2) := dk_21 6 (dk_at dksX3_inPlaceMerge_3 14 rfl rfl)
theorem dX3_inPlaceMerge_83 : decode cX3_inPlaceMerge 83 = .ok (.aload_n 3, 1) := dk_45 (dk_at dksX3_inPlaceMerge_3 16 rfl rfl)
theorem dX3_inPlaceMerge_84 : decode cX3_inPlaceMerge 84 = .ok (.invokestatic 19, 3) := dk_184 0 19 (dk_at dksX3_inPlaceMerge_3 17 rfl rfl)
theorem dX3_inPlaceMerge_87 : decode cX3_inPlaceMerge 87 = .ok (.istore 5, 2) := dk_54 5 (dk_at dksX3_inPlaceMerge_3 20 rfl rfl)
theorem dX3_inPlaceMerge_89 : decode cX3_inPlaceMerge 89 = .ok (.iload 5, 2) := dk_21 5 (dk_at dksX3_inPlaceMerge_3 22 rfl rfl)
theorem dX3_inPlaceMerge_91 : decode cX3_inPlaceMerge 91 = .ok (.istore 7, 2) := dk_54 7 (dk_at dksX3_inPlaceMerge_4 0 rfl rfl)
theorem dX3_inPlaceMerge_93 : decode cX3_inPlaceMerge 93 = .ok (.iload_n 1, 1) := dk_27 (dk_at dksX3_inPlaceMerge_4 2 rfl rfl)
theorem dX3_inPlaceMerge_94 : decode cX3_inPlaceMerge 94 = .ok (.istore 8, 2) := dk_54 8 (dk_at dksX3_inPlaceMerge_4 3 rfl rfl)
theorem dX3_inPlaceMerge_96 : decode cX3_inPlaceMerge 96 = .ok (.iload 6, 2) := dk_21 6 (dk_at dksX3_inPlaceMerge_4 5 rfl rfl)
theorem dX3_inPlaceMerge_98 : decode cX3_inPlaceMerge 98 = .ok (.istore 9, 2) := dk_54 9 (dk_at dksX3_inPlaceMerge_4 7 rfl rfl)
theorem dX3_inPlaceMerge_100 : decode cX3_inPlaceMerge 100 = .ok (.iload 8, 2) := dk_21 8 (dk_at dksX3_inPlaceMerge_4 9 rfl rfl)
theorem dX3_inPlaceMerge_102 : decode cX3_inPlaceMerge 102 = .ok (.iload 7, 2) := dk_21 7 (dk_at dksX3_inPlaceMerge_4 11 rfl rfl)
theorem dX3_inPlaceMerge_104 : decode cX3_inPlaceMerge 104 = .ok (.if_icmp .eq 115, 3) := dk_159 0 115 (dk_at dksX3_inPlaceMerge_4 13 rfl rfl)
theorem dX3_inPlaceMerge_107 : decode cX3_inPlaceMerge 107 = .ok (.iload 8, 2) := dk_21 8 (dk_at dksX3_inPlaceMerge_4 16 rfl rfl)
theorem dX3_inPlaceMerge_109 : decode cX3_inPlaceMerge 109 = .ok (.iload 9, 2) := dk_21 9 (dk_at dksX3_inPlaceMerge_4 18 rfl rfl)
theorem dX3_inPlaceMerge_111 : decode cX3_inPlaceMerge 111 = .ok (.if_icmp .eq 108, 3) := dk_159 0 108 (dk_at dksX3_inPlaceMerge_4 20 rfl rfl)
theorem dX3_inPlaceMerge_114 : decode cX3_inPlaceMerge 114 = .ok (.iload 7, 2) := dk_21 7 (dk_at dksX3_inPlaceMerge_5 0 rfl rfl)
theorem dX3_inPlaceMerge_116 : decode cX3_inPlaceMerge 116 = .ok (.istore 10, 2) := dk_54 10 (dk_at dksX3_inPlaceMerge_5 2 rfl rfl)
theorem dX3_inPlaceMerge_118 : decode cX3_inPlaceMerge 118 = .ok (.iload 8, 2) := dk_21 8 (dk_at dksX3_inPlaceMerge_5 4 rfl rfl)
theorem dX3_inPlaceMerge_120 : decode cX3_inPlaceMerge 120 = .ok (.istore 11, 2) := dk_54 11 (dk_at dksX3_inPlaceMerge_5 6 rfl rfl)
theorem dX3_inPlaceMerge_122 : decode cX3_inPlaceMerge 122 = .ok (.iload 10, 2) := dk_21 10 (dk_at dksX3_inPlaceMerge_5 8 rfl rfl)
theorem dX3_inPlaceMerge_124 : decode cX3_inPlaceMerge 124 = .ok (.iinc 11 (-1), 3) := dk_132 11 255 (dk_at dksX3_inPlaceMerge_5 10 rfl rfl)
theorem dX3_inPlaceMerge_127 : decode cX3_inPlaceMerge 127 = .ok (.iload 11, 2) := dk_21 11 (dk_at dksX3_inPlaceMerge_5 13 rfl rfl)
theorem dX3_inPlaceMerge_129 : decode cX3_inPlaceMerge 129 = .ok (.if_icmp .ge 20, 3) := dk_162 0 20 (dk_at dksX3_inPlaceMerge_5 15 rfl rfl)
theorem dX3_inPlaceMerge_132 : decode cX3_inPlaceMerge 132 = .ok (.aload 4, 2) := dk_25 4 (dk_at dksX3_inPlaceMerge_5 18 rfl rfl)
theorem dX3_inPlaceMerge_134 : decode cX3_inPlaceMerge 134 = .ok (.iload 10, 2) := dk_21 10 (dk_at dksX3_inPlaceMerge_5 20 rfl rfl)
theorem dX3_inPlaceMerge_136 : decode cX3_inPlaceMerge 136 = .ok (.iinc 10 1, 3) := dk_132 10 1 (dk_at dksX3_inPlaceMerge_6 0 rfl rfl)
theorem dX3_inPlaceMerge_139 : decode cX3_inPlaceMerge 139 = .ok (.iload 11, 2) := dk_21 11 (dk_at dksX3_inPlaceMerge_6 3 rfl rfl)
theorem dX3_inPlaceMerge_141 : decode cX3_inPlaceMerge 141 = .ok (.invokeinterface 7 3, 5) := by decide +kernel
theorem dX3_inPlaceMerge_146 : decode cX3_inPlaceMerge 146 = .ok (.goto (-24), 3) := dk_167 255 232 (dk_at dksX3_inPlaceMerge_6 10 rfl rfl)
theorem dX3_inPlaceMerge_149 : decode cX3_inPlaceMerge 149 = .ok (.iload 8, 2) := dk_21 8 (dk_at dksX3_inPlaceMerge_6 13 rfl rfl)
theorem dX3_inPlaceMerge_151 : decode cX3_inPlaceMerge 151 = .ok (.istore 10, 2) := dk_54 10 (dk_at dksX3_inPlaceMerge_6 15 rfl rfl)
theorem dX3_inPlaceMerge_153 : decode cX3_inPlaceMerge 153 = .ok (.iload 9, 2) := dk_21 9 (dk_at dksX3_inPlaceMerge_6 17 rfl rfl)
theorem dX3_inPlaceMerge_155 : decode cX3_inPlaceMerge 155 = .ok (.istore 11, 2) := dk_54 11 (dk_at dksX3_inPlaceMerge_6 19 rfl rfl)
theorem dX3_inPlaceMerge_157 : decode cX3_inPlaceMerge 157 = .ok (.iload 10, 2) := dk_21 10 (dk_at dksX3_inPlaceMerge_6 21 rfl rfl)
theorem dX3_inPlaceMerge_159 : decode cX3_inPlaceMerge 159 = .ok (.iinc 11 (-1), 3) := dk_132 11 255 (dk_at dksX3_inPlaceMerge_7 0 rfl rfl)
theorem dX3_inPlaceMerge_162 : decode cX3_inPlaceMerge 162 = .ok (.iload 11, 2) := dk_21 11 (dk_at dksX3_inPlaceMerge_7 3 rfl rfl)
theorem dX3_inPlaceMerge_164 : decode cX3_inPlaceMerge 164 = .ok (.if_icmp .ge 20, 3) := dk_162 0 20 (dk_at dksX3_inPlaceMerge_7 5 rfl rfl)
theorem dX3_inPlaceMerge_167 : decode cX3_inPlaceMerge 167 = .ok (.aload 4, 2) := dk_25 4 (dk_at dksX3_inPlaceMerge_7 8 rfl rfl)
theorem dX3_inPlaceMerge_169 : decode cX3_inPlaceMerge 169 = .ok (.iload 10, 2) := dk_21 10 (dk_at dksX3_inPlaceMerge_7 10 rfl rfl)
theorem dX3_inPlaceMerge_171 : decode cX3_inPlaceMerge 171 = .ok (.iinc 10 1, 3) := dk_132 10 1 (dk_at dksX3_inPlaceMerge_7 12 rfl rfl)
theorem dX3_inPlaceMerge_174 : decode cX3_inPlaceMerge 174 = .ok (.iload 11, 2) := dk_21 11 (dk_at dksX3_inPlaceMerge_7 15 rfl rfl)
theorem dX3_inPlaceMerge_176 : decode cX3_inPlaceMerge 176 = .ok (.invokeinterface 7 3, 5) := by decide +kernel
theorem dX3_inPlaceMerge_181 : decode cX3_inPlaceMerge 181 = .ok (.goto (-24), 3) := dk_167 255 232 (dk_at dksX3_inPlaceMerge_8 0 rfl rfl)
theorem dX3_inPlaceMerge_184 : decode cX3_inPlaceMerge 184 = .ok (.iload 7, 2) := dk_21 7 (dk_at dksX3_inPlaceMerge_8 3 rfl rfl)
theorem dX3_inPlaceMerge_186 : decode cX3_inPlaceMerge 186 = .ok (.istore 10, 2) := dk_54 10 (dk_at dksX3_inPlaceMerge_8 5 rfl rfl)
theorem dX3_inPlaceMerge_188 : decode cX3_inPlaceMerge 188 = .ok (.iload 9, 2) := dk_21 9 (dk_at dksX3_inPlaceMerge_8 7 rfl rfl)
theorem dX3_inPlaceMerge_190 : decode cX3_inPlaceMerge 190 = .ok (.istore 11, 2) := dk_54 11 (dk_at dksX3_inPlaceMerge_8 9 rfl rfl)
theorem dX3_inPlaceMerge_192 : decode cX3_inPlaceMerge 192 = .ok (.iload 10, 2) := dk_21 10 (dk_at dksX3_inPlaceMerge_8 11 rfl rfl)
theorem dX3_inPlaceMerge_194 : decode cX3_inPlaceMerge 194 = .ok (.iinc 11 (-1), 3) := dk_132 11 255 (dk_at dksX3_inPlaceMerge_8 13 rfl rfl)
theorem dX3_inPlaceMerge_197 : decode cX3_inPlaceMerge 197 = .ok (.iload 11, 2) := dk_21 11 (dk_at dksX3_inPlaceMerge_8 16 rfl rfl)
theorem dX3_inPlaceMerge_199 : decode cX3_inPlaceMerge 199 = .ok (.if_icmp .ge 20, 3) := dk_162 0 20 (dk_at dksX3_inPlaceMerge_8 18 rfl rfl)
theorem dX3_inPlaceMerge_202 : decode cX3_inPlaceMerge 202 = .ok (.aload 4, 2) := dk_25 4 (dk_at dksX3_inPlaceMerge_8 21 rfl rfl)
theorem dX3_inPlaceMerge_204 : decode cX3_inPlaceMerge 204 = .ok (.iload 10, 2) := dk_21 10 (dk_at dksX3_inPlaceMerge_9 0 rfl rfl)
theorem dX3_inPlaceMerge_206 : decode cX3_inPlaceMerge 206 = .ok (.iinc 10 1, 3) := dk_132 10 1 (dk_at dksX3_inPlaceMerge_9 2 rfl rfl)
theorem dX3_inPlaceMerge_209 : decode cX3_inPlaceMerge 209 = .ok (.iload 11, 2) := dk_21 11 (dk_at dksX3_inPlaceMerge_9 5 rfl rfl)
theorem dX3_inPlaceMerge_211 : decode cX3_inPlaceMerge 211 = .ok (.invokeinterface 7 3, 5) := by decide +kernel
theorem dX3_inPlaceMerge_216 : decode cX3_inPlaceMerge 216 = .ok (.goto (-24), 3) := dk_167 255 232 (dk_at dksX3_inPlaceMerge_9 12 rfl rfl)
theorem dX3_inPlaceMerge_219 : decode cX3_inPlaceMerge 219 = .ok (.iload 5, 2) := dk_21 5 (dk_at dksX3_inPlaceMerge_9 15 rfl rfl)
theorem dX3_inPlaceMerge_221 : decode cX3_inPlaceMerge 221 = .ok (.iload 6, 2) := dk_21 6 (dk_at dksX3_inPlaceMerge_9 17 rfl rfl)
theorem dX3_inPlaceMerge_223 : decode cX3_inPlaceMerge 223 = .ok (.iload_n 1, 1) := dk_27 (dk_at dksX3_inPlaceMerge_9 19 rfl rfl)
theorem dX3_inPlaceMerge_224 : decode cX3_inPlaceMerge 224 = .ok (.isub, 1) := dk_100 (dk_at dksX3_inPlaceMerge_9 20 rfl rfl)
theorem dX3_inPlaceMerge_225 : decode cX3_inPlaceMerge 225 = .ok (.iadd, 1) := dk_96 (dk_at dksX3_inPlaceMerge_9 21 rfl rfl)
theorem dX3_inPlaceMerge_226 : decode cX3_inPlaceMerge 226 = .ok (.istore_n 1, 1) := dk_60 (dk_at dksX3_inPlaceMerge_9 22 rfl rfl)
theorem dX3_inPlaceMerge_227 : decode cX3_inPlaceMerge 227 = .ok (.iload_n 0, 1) := dk_26 (dk_at dksX3_inPlaceMerge_9 23 rfl rfl)
theorem dX3_inPlaceMerge_228 : decode cX3_inPlaceMerge 228 = .ok (.iload 5, 2) := dk_21 5 (dk_at dksX3_inPlaceMerge_10 0 rfl rfl)
theorem dX3_inPlaceMerge_230 : decode cX3_inPlaceMerge 230 = .ok (.iload_n 1, 1) := dk_27 (dk_at dksX3_inPlaceMerge_10 2 rfl rfl)
theorem dX3_inPlaceMerge_231 : decode cX3_inPlaceMerge 231 = .ok (.aload_n 3, 1) := dk_45 (dk_at dksX3_inPlaceMerge_10 3 rfl rfl)
theorem dX3_inPlaceMerge_232 : decode cX3_inPlaceMerge 232 = .ok (.aload 4, 2) := dk_25 4 (dk_at dksX3_inPlaceMerge_10 4 rfl rfl)
theorem dX3_inPlaceMerge_234 : decode cX3_inPlaceMerge 234 = .ok (.invokestatic 22, 3) := dk_184 0 22 (dk_at dksX3_inPlaceMerge_10 6 rfl rfl)
theorem dX3_inPlaceMerge_237 : decode cX3_inPlaceMerge 237 = .ok (.iload_n 1, 1) := dk_27 (dk_at dksX3_inPlaceMerge_10 9 rfl rfl)
theorem dX3_inPlaceMerge_238 : decode cX3_inPlaceMerge 238 = .ok (.iload 6, 2) := dk_21 6 (dk_at dksX3_inPlaceMerge_10 10 rfl rfl)
theorem dX3_inPlaceMerge_240 : decode cX3_inPlaceMerge 240 = .ok (.iload_n 2, 1) := dk_28 (dk_at dksX3_inPlaceMerge_10 12 rfl rfl)
theorem dX3_inPlaceMerge_241 : decode cX3_inPlaceMerge 241 = .ok (.aload_n 3, 1) := dk_45 (dk_at dksX3_inPlaceMerge_10 13 rfl rfl)
theorem dX3_inPlaceMerge_242 : decode cX3_inPlaceMerge 242 = .ok (.aload 4, 2) := dk_25 4 (dk_at dksX3_inPlaceMerge_10 14 rfl rfl)
theorem dX3_inPlaceMerge_244 : decode cX3_inPlaceMerge 244 = .ok (.invokestatic 22, 3) := dk_184 0 22 (dk_at dksX3_inPlaceMerge_10 16 rfl rfl)
theorem dX3_inPlaceMerge_247 : decode cX3_inPlaceMerge 247 = .ok (.return_, 1) := dk_177 (dk_at dksX3_inPlaceMerge_10 19 rfl rfl)
abbrev cX3_lowerBound : ByteArray := prog_2_method_2_code
def yX3_lowerBound : MethodName := ⟨RX3, "lowerBound", "(IIILIntComparator;)I"⟩
def dkwX3_lowerBound_2 : List UInt8 := [54, 4, 167, 0, 7, 21, 5, 54, 4, 167, 255, 206, 26, 172]
abbrev dktX3_lowerBound_2 : List UInt8 := dkwX3_lowerBound_2 ++ []
def dkwX3_lowerBound_1 : List UInt8 := [21, 6, 28, 185, 0, 1, 3, 0, 156, 0, 20, 21, 6, 4, 96, 59, 21, 4, 21, 5, 4, 96, 100]
abbrev dktX3_lowerBound_1 : List UInt8 := dkwX3_lowerBound_1 ++ dktX3_lowerBound_2
def dkwX3_lowerBound_0 : List UInt8 := [27, 26, 100, 54, 4, 21, 4, 158, 0, 51, 21, 4, 5, 108, 54, 5, 26, 21, 5, 96, 54, 6, 45]
abbrev dktX3_lowerBound_0 : List UInt8 := dkwX3_lowerBound_0 ++ dktX3_lowerBound_1
theorem dksX3_lowerBound_0 : cX3_lowerBound.data.toList.drop 0 = dktX3_lowerBound_0 := by decide +kernel
theorem dksX3_lowerBound_1 : cX3_lowerBound.data.toList.drop 23 = dktX3_lowerBound_1 := dk_seg dksX3_lowerBound_0 23 rfl rfl
theorem dksX3_lowerBound_2 : cX3_lowerBound.data.toList.drop 46 = dktX3_lowerBound_2 := dk_seg dksX3_lowerBound_1 23 rfl rfl
theorem dX3_lowerBound_0 : decode cX3_lowerBound 0 = .ok (.iload_n 1, 1) := dk_27 (dk_at dksX3_lowerBound_0 0 rfl rfl)
theorem dX3_lowerBound_1 : decode cX3_lowerBound 1 = .ok (.iload_n 0, 1) := dk_26 (dk_at dksX3_lowerBound_0 1 rfl rfl)
theorem dX3_lowerBound_2 : decode cX3_lowerBound 2 = .ok (.isub, 1) := dk_100 (dk_at dksX3_lowerBound_0 2 rfl rfl)
theorem dX3_lowerBound_3 : decode cX3_lowerBound 3 = .ok (.istore 4, 2) := dk_54 4 (dk_at dksX3_lowerBound_0 3 rfl rfl)
theorem dX3_lowerBound_5 : decode cX3_lowerBound 5 = .ok (.iload 4, 2) := dk_21 4 (dk_at dksX3_lowerBound_0 5 rfl rfl)
theorem dX3_lowerBound_7 : decode cX3_lowerBound 7 = .ok (.ifCond .le 51, 3) := dk_158 0 51 (dk_at dksX3_lowerBound_0 7 rfl rfl)
theorem dX3_lowerBound_10 : decode cX3_lowerBound 10 = .ok (.iload 4, 2) := dk_21 4 (dk_at dksX3_lowerBound_0 10 rfl rfl)
theorem dX3_lowerBound_12 : decode cX3_lowerBound 12 = .ok (.iconst 2, 1) := dk_5 (dk_at dksX3_lowerBound_0 12 rfl rfl)
theorem dX3_lowerBound_13 : decode cX3_lowerBound 13 = .ok (.idiv, 1) := dk_108 (dk_at dksX3_lowerBound_0 13 rfl rfl)
theorem dX3_lowerBound_14 : decode cX3_lowerBound 14 = .ok (.istore 5, 2) := dk_54 5 (dk_at dksX3_lowerBound_0 14 rfl rfl)
theorem dX3_lowerBound_16 : decode cX3_lowerBound 16 = .ok (.iload_n 0, 1) := dk_26 (dk_at dksX3_lowerBound_0 16 rfl rfl)
theorem dX3_lowerBound_17 : decode cX3_lowerBound 17 = .ok (.iload 5, 2) := dk_21 5 (dk_at dksX3_lowerBound_0 17 rfl rfl)
theorem dX3_lowerBound_19 : decode cX3_lowerBound 19 = .ok (.iadd, 1) := dk_96 (dk_at dksX3_lowerBound_0 19 rfl rfl)
theorem dX3_lowerBound_20 : decode cX3_lowerBound 20 = .ok (.istore 6, 2) := dk_54 6 (dk_at dksX3_lowerBound_0 20 rfl rfl)
theorem dX3_lowerBound_22 : decode cX3_lowerBound 22 = .ok (.aload_n 3, 1) := dk_45 (dk_at dksX3_lowerBound_0 22 rfl rfl)
theorem dX3_lowerBound_23 : decode cX3_lowerBound 23 = .ok (.iload 6, 2) := dk_21 6 (dk_at dksX3_lowerBound_1 0 rfl rfl)
theorem dX3_lowerBound_25 : decode cX3_lowerBound 25 = .ok (.iload_n 2, 1) := dk_28 (dk_at dksX3_lowerBound_1 2 rfl rfl)
theorem dX3_lowerBound_26 : decode cX3_lowerBound 26 = .ok (.invokeinterface 1 3, 5) := by decide +kernel
theorem dX3_lowerBound_31 : decode cX3_lowerBound 31 = .ok (.ifCond .ge 20, 3) := dk_156 0 20 (dk_at dksX3_lowerBound_1 8 rfl rfl)
theorem dX3_lowerBound_34 : decode cX3_lowerBound 34 = .ok (.iload 6, 2) := dk_21 6 (dk_at dksX3_lowerBound_1 11 rfl rfl)
theorem dX3_lowerBound_36 : decode cX3_lowerBound 36 = .ok (.iconst 1, 1) := dk_4 (dk_at dksX3_lowerBound_1 13 rfl rfl)
theorem dX3_lowerBound_37 : decode cX3_lowerBound 37 = .ok (.iadd, 1) := dk_96 (dk_at dksX3_lowerBound_1 14 rfl rfl)
theorem dX3_lowerBound_38 : decode cX3_lowerBound 38 = .ok (.istore_n 0, 1) := dk_59 (dk_at dksX3_lowerBound_1 15 rfl rfl)
theorem dX3_lowerBound_39 : decode cX3_lowerBound 39 = .ok (.iload 4, 2) := dk_21 4 (dk_at dksX3_lowerBound_1 16 rfl rfl)
theorem dX3_lowerBound_41 : decode cX3_lowerBound 41 = .ok (.iload 5, 2) := dk_21 5 (dk_at dksX3_lowerBound_1 18 rfl rfl)
theorem dX3_lowerBound_43 : decode cX3_lowerBound 43 = .ok (.iconst 1, 1) := dk_4 (dk_at dksX3_lowerBound_1 20 rfl rfl)
theorem dX3_lowerBound_44 : decode cX3_lowerBound 44 = .ok (.iadd, 1) := dk_96 (dk_at dksX3_lowerBound_1 21 rfl rfl)
theorem dX3_lowerBound_45 : decode cX3_lowerBound 45 = .ok (.isub, 1) := dk_100 (dk_at dksX3_lowerBound_1 22 rfl rfl)
theorem dX3_lowerBound_46 : decode cX3_lowerBound 46 = .ok (.istore 4, 2) := dk_54 4 (dk_at dksX3_lowerBound_2 0 rfl rfl)
theorem dX3_lowerBound_48 : decode cX3_lowerBound 48 = .ok (.goto 7, 3) := dk_167 0 7 (dk_at dksX3_lowerBound_2 2 rfl rfl)
theorem dX3_lowerBound_51 : decode cX3_lowerBound 51 = .ok (.iload 5, 2) := dk_21 5 (dk_at dksX3_lowerBound_2 5 rfl rfl)
theorem dX3_lowerBound_53 : decode cX3_lowerBound 53 = .ok (.istore 4, 2) := dk_54 4 (dk_at dksX3_lowerBound_2 7 rfl rfl)
theorem dX3_lowerBound_55 : decode cX3_lowerBound 55 = .ok (.goto (-50), 3) := dk_167 255 206 (dk_at dksX3_lowerBound_2 9 rfl rfl)
theorem dX3_lowerBound_58 : decode cX3_lowerBound 58 = .ok (.iload_n 0, 1) := dk_26 (dk_at dksX3_lowerBound_2 12 rfl rfl)
theorem dX3_lowerBound_59 : decode cX3_lowerBound 59 = .ok (.ireturn, 1) := dk_172 (dk_at dksX3_lowerBound_2 13 rfl rfl)
abbrev cX3_upperBound : ByteArray := prog_2_method_3_code
def yX3_upperBound : MethodName := ⟨RX3, "upperBound", "(IIILIntComparator;)I"⟩
def dkwX3_upperBound_2 : List UInt8 := [21, 5, 4, 96, 100, 54, 4, 167, 255, 206, 26, 172]
abbrev dktX3_upperBound_2 : List UInt8 := dkwX3_upperBound_2 ++ []
def dkwX3_upperBound_1 : List UInt8 := [21, 6, 185, 0, 1, 3, 0, 156, 0, 10, 21, 5, 54, 4, 167, 0, 17, 21, 6, 4, 96, 59, 21, 4]
abbrev dktX3_upperBound_1 : List UInt8 := dkwX3_upperBound_1 ++ dktX3_upperBound_2
def dkwX3_upperBound_0 : List UInt8 := [27, 26, 100, 54, 4, 21, 4, 158, 0, 51, 21, 4, 5, 108, 54, 5, 26, 21, 5, 96, 54, 6, 45, 28]
abbrev dktX3_upperBound_0 : List UInt8 := dkwX3_upperBound_0 ++ dktX3_upperBound_1
theorem dksX3_upperBound_0 : cX3_upperBound.data.toList.drop 0 = dktX3_upperBound_0 := by decide +kernel
theorem dksX3_upperBound_1 : cX3_upperBound.data.toList.drop 24 = dktX3_upperBound_1 := dk_seg dksX3_upperBound_0 24 rfl rfl
theorem dksX3_upperBound_2 : cX3_upperBound.data.toList.drop 48 = dktX3_upperBound_2 := dk_seg dksX3_upperBound_1 24 rfl rfl
theorem dX3_upperBound_0 : decode cX3_upperBound 0 = .ok (.iload_n 1, 1) := dk_27 (dk_at dksX3_upperBound_0 0 rfl rfl)
theorem dX3_upperBound_1 : decode cX3_upperBound 1 = .ok (.iload_n 0, 1) := dk_26 (dk_at dksX3_upperBound_0 1 rfl rfl)
theorem dX3_upperBound_2 : decode cX3_upperBound 2 = .ok (.isub, 1) := dk_100 (dk_at dksX3_upperBound_0 2 rfl rfl)
theorem dX3_upperBound_3 : decode cX3_upperBound 3 = .ok (.istore 4, 2) := dk_54 4 (dk_at dksX3_upperBound_0 3 rfl rfl)
theorem dX3_upperBound_5 : decode cX3_upperBound 5 = .ok (.iload 4, 2) := dk_21 4 (dk_at dksX3_upperBound_0 5 rfl rfl)
theorem dX3_upperBound_7 : decode cX3_upperBound 7 = .ok (.ifCond .le 51, 3) := dk_158 0 51 (dk_at dksX3_upperBound_0 7 rfl rfl)
theorem dX3_upperBound_10 : decode cX3_upperBound 10 = .ok (.iload 4, 2) := dk_21 4 (dk_at dksX3_upperBound_0 10 rfl rfl)
theorem dX3_upperBound_12 : decode cX3_upperBound 12 = .ok (.iconst 2, 1) := dk_5 (dk_at dksX3_upperBound_0 12 rfl rfl)
theorem dX3_upperBound_13 : decode cX3_upperBound 13 = .ok (.idiv, 1) := dk_108 (dk_at dksX3_upperBound_0 13 rfl rfl)
theorem dX3_upperBound_14 : decode cX3_upperBound 14 = .ok (.istore 5, 2) := dk_54 5 (dk_at dksX3_upperBound_0 14 rfl rfl)
theorem dX3_upperBound_16 : decode cX3_upperBound 16 = .ok (.iload_n 0, 1) := dk_26 (dk_at dksX3_upperBound_0 16 rfl rfl)
theorem dX3_upperBound_17 : decode cX3_upperBound 17 = .ok (.iload 5, 2) := dk_21 5 (dk_at dksX3_upperBound_0 17 rfl rfl)
theorem dX3_upperBound_19 : decode cX3_upperBound 19 = .ok (.iadd, 1) := dk_96 (dk_at dksX3_upperBound_0 19 rfl rfl)
theorem dX3_upperBound_20 : decode cX3_upperBound 20 = .ok (.istore 6, 2) := dk_54 6 (dk_at dksX3_upperBound_0 20 rfl rfl)
theorem dX3_upperBound_22 : decode cX3_upperBound 22 = .ok (.aload_n 3, 1) := dk_45 (dk_at dksX3_upperBound_0 22 rfl rfl)
theorem dX3_upperBound_23 : decode cX3_upperBound 23 = .ok (.iload_n 2, 1) := dk_28 (dk_at dksX3_upperBound_0 23 rfl rfl)
theorem dX3_upperBound_24 : decode cX3_upperBound 24 = .ok (.iload 6, 2) := dk_21 6 (dk_at dksX3_upperBound_1 0 rfl rfl)
theorem dX3_upperBound_26 : decode cX3_upperBound 26 = .ok (.invokeinterface 1 3, 5) := by decide +kernel
theorem dX3_upperBound_31 : decode cX3_upperBound 31 = .ok (.ifCond .ge 10, 3) := dk_156 0 10 (dk_at dksX3_upperBound_1 7 rfl rfl)
theorem dX3_upperBound_34 : decode cX3_upperBound 34 = .ok (.iload 5, 2) := dk_21 5 (dk_at dksX3_upperBound_1 10 rfl rfl)
theorem dX3_upperBound_36 : decode cX3_upperBound 36 = .ok (.istore 4, 2) := dk_54 4 (dk_at dksX3_upperBound_1 12 rfl rfl)
theorem dX3_upperBound_38 : decode cX3_upperBound 38 = .ok (.goto 17, 3) := dk_167 0 17 (dk_at dksX3_upperBound_1 14 rfl rfl)
theorem dX3_upperBound_41 : decode cX3_upperBound 41 = .ok (.iload 6, 2) := dk_21 6 (dk_at dksX3_upperBound_1 17 rfl rfl)
theorem dX3_upperBound_43 : decode cX3_upperBound 43 = .ok (.iconst 1, 1) := dk_4 (dk_at dksX3_upperBound_1 19 rfl rfl)
theorem dX3_upperBound_44 : decode cX3_upperBound 44 = .ok (.iadd, 1) := dk_96 (dk_at dksX3_upperBound_1 20 rfl rfl)
theorem dX3_upperBound_45 : decode cX3_upperBound 45 = .ok (.istore_n 0, 1) := dk_59 (dk_at dksX3_upperBound_1 21 rfl rfl)
theorem dX3_upperBound_46 : decode cX3_upperBound 46 = .ok (.iload 4, 2) := dk_21 4 (dk_at dksX3_upperBound_1 22 rfl rfl)
theorem dX3_upperBound_48 : decode cX3_upperBound 48 = .ok (.iload 5, 2) := dk_21 5 (dk_at dksX3_upperBound_2 0 rfl rfl)
theorem dX3_upperBound_50 : decode cX3_upperBound 50 = .ok (.iconst 1, 1) := dk_4 (dk_at dksX3_upperBound_2 2 rfl rfl)
theorem dX3_upperBound_51 : decode cX3_upperBound 51 = .ok (.iadd, 1) := dk_96 (dk_at dksX3_upperBound_2 3 rfl rfl)
theorem dX3_upperBound_52 : decode cX3_upperBound 52 = .ok (.isub, 1) := dk_100 (dk_at dksX3_upperBound_2 4 rfl rfl)
theorem dX3_upperBound_53 : decode cX3_upperBound 53 = .ok (.istore 4, 2) := dk_54 4 (dk_at dksX3_upperBound_2 5 rfl rfl)
theorem dX3_upperBound_55 : decode cX3_upperBound 55 = .ok (.goto (-50), 3) := dk_167 255 206 (dk_at dksX3_upperBound_2 7 rfl rfl)
theorem dX3_upperBound_58 : decode cX3_upperBound 58 = .ok (.iload_n 0, 1) := dk_26 (dk_at dksX3_upperBound_2 10 rfl rfl)
theorem dX3_upperBound_59 : decode cX3_upperBound 59 = .ok (.ireturn, 1) := dk_172 (dk_at dksX3_upperBound_2 11 rfl rfl)
theorem q8 : (Jvm.Cond.initialized "OwnArrays") ∈ lw_all := lw_g (lw_at lw_m0 4 rfl) rfl
theorem q71 : (Jvm.Cond.static ({ cls := "OwnArrays", name := "quickSort", desc := "(IILIntComparator;LSwapper;)V" } : Jvm.MethodName)) ∈ lw_all := lw_g (lw_at lw_m0 67 rfl) rfl
theorem q72 : (Jvm.Cond.code ({ cls := "OwnArrays", name := "quickSort", desc := "(IILIntComparator;LSwapper;)V" } : Jvm.MethodName) prog_2_method_7_code (13 : Nat) (Option.none : Option Jvm.ClassFile.FieldType)) ∈ lw_all := lw_g (lw_at lw_m0 68 rfl) rfl
theorem q73 : (Jvm.Cond.interfaceEntry "OwnArrays" (1 : Nat)) ∈ lw_tbl := lw_at lw_m0 69 rfl
theorem q74 : (Jvm.Cond.methodLink "OwnArrays" (1 : Nat) ({ cls := "IntComparator", name := "compare", desc := "(II)I" } : Jvm.MethodName)) ∈ lw_all := lw_g (lw_at lw_m0 70 rfl) rfl
theorem q83 : (Jvm.Cond.interfaceEntry "OwnArrays" (7 : Nat)) ∈ lw_tbl := lw_at lw_m0 79 rfl
theorem q84 : (Jvm.Cond.methodLink "OwnArrays" (7 : Nat) ({ cls := "Swapper", name := "swap", desc := "(II)V" } : Jvm.MethodName)) ∈ lw_all := lw_g (lw_at lw_m0 80 rfl) rfl
theorem q93 : (Jvm.Cond.methodLink "OwnArrays" (30 : Nat) ({ cls := "OwnArrays", name := "med3", desc := "(IIILIntComparator;)I" } : Jvm.MethodName)) ∈ lw_all := lw_g (lw_at lw_m0 89 rfl) rfl
theorem q94 : (Jvm.Cond.static ({ cls := "OwnArrays", name := "med3", desc := "(IIILIntComparator;)I" } : Jvm.MethodName)) ∈ lw_all := lw_g (lw_at lw_m0 90 rfl) rfl
theorem q95 : (Jvm.Cond.code ({ cls := "OwnArrays", name := "med3", desc := "(IIILIntComparator;)I" } : Jvm.MethodName) prog_2_method_4_code (7 : Nat) (Option.some Jvm.ClassFile.FieldType.int)) ∈ lw_all := lw_g (lw_at lw_m0 91 rfl) rfl
theorem q96 : (Jvm.Cond.methodLink "OwnArrays" (33 : Nat) ({ cls := "java/lang/Math", name := "min", desc := "(II)I" } : Jvm.MethodName)) ∈ lw_all := lw_g (lw_at lw_m0 92 rfl) rfl
theorem q99 : (Jvm.Cond.methodLink "OwnArrays" (38 : Nat) ({ cls := "OwnArrays", name := "swap", desc := "(LSwapper;III)V" } : Jvm.MethodName)) ∈ lw_all := lw_g (lw_at lw_m0 95 rfl) rfl
theorem q100 : (Jvm.Cond.static ({ cls := "OwnArrays", name := "swap", desc := "(LSwapper;III)V" } : Jvm.MethodName)) ∈ lw_all := lw_g (lw_at lw_m0 96 rfl) rfl
theorem q101 : (Jvm.Cond.code ({ cls := "OwnArrays", name := "swap", desc := "(LSwapper;III)V" } : Jvm.MethodName) prog_2_method_6_code (5 : Nat) (Option.none : Option Jvm.ClassFile.FieldType)) ∈ lw_all := lw_g (lw_at lw_m0 97 rfl) rfl
theorem q102 : (Jvm.Cond.methodLink "OwnArrays" (41 : Nat) ({ cls := "OwnArrays", name := "quickSort", desc := "(IILIntComparator;LSwapper;)V" } : Jvm.MethodName)) ∈ lw_all := lw_g (lw_at lw_m0 98 rfl) rfl
theorem q108 : (Jvm.Cond.static ({ cls := "OwnArrays", name := "mergeSort", desc := "(IILIntComparator;LSwapper;)V" } : Jvm.MethodName)) ∈ lw_all := lw_g (lw_at lw_m0 104 rfl) rfl
theorem q109 : (Jvm.Cond.code ({ cls := "OwnArrays", name := "mergeSort", desc := "(IILIntComparator;LSwapper;)V" } : Jvm.MethodName) prog_2_method_5_code (7 : Nat) (Option.none : Option Jvm.ClassFile.FieldType)) ∈ lw_all := lw_g (lw_at lw_m0 105 rfl) rfl
theorem q110 : (Jvm.Cond.methodLink "OwnArrays" (26 : Nat) ({ cls := "OwnArrays", name := "mergeSort", desc := "(IILIntComparator;LSwapper;)V" } : Jvm.MethodName)) ∈ lw_all := lw_g (lw_at lw_m0 106 rfl) rfl
theorem q111 : (Jvm.Cond.methodLink "OwnArrays" (22 : Nat) ({ cls := "OwnArrays", name := "inPlaceMerge", desc := "(IIILIntComparator;LSwapper;)V" } : Jvm.MethodName)) ∈ lw_all := lw_g (lw_at lw_m0 107 rfl) rfl
theorem q112 : (Jvm.Cond.static ({ cls := "OwnArrays", name := "inPlaceMerge", desc := "(IIILIntComparator;LSwapper;)V" } : Jvm.MethodName)) ∈ lw_all := lw_g (lw_at lw_m0 108 rfl) rfl
theorem q113 : (Jvm.Cond.code ({ cls := "OwnArrays", name := "inPlaceMerge", desc := "(IIILIntComparator;LSwapper;)V" } : Jvm.MethodName) prog_2_method_1_code (12 : Nat) (Option.none : Option Jvm.ClassFile.FieldType)) ∈ lw_all := lw_g (lw_at lw_m0 109 rfl) rfl
theorem q114 : (Jvm.Cond.methodLink "OwnArrays" (13 : Nat) ({ cls := "OwnArrays", name := "lowerBound", desc := "(IIILIntComparator;)I" } : Jvm.MethodName)) ∈ lw_all := lw_g (lw_at lw_m0 110 rfl) rfl
theorem q115 : (Jvm.Cond.static ({ cls := "OwnArrays", name := "lowerBound", desc := "(IIILIntComparator;)I" } : Jvm.MethodName)) ∈ lw_all := lw_g (lw_at lw_m0 111 rfl) rfl
theorem q116 : (Jvm.Cond.code ({ cls := "OwnArrays", name := "lowerBound", desc := "(IIILIntComparator;)I" } : Jvm.MethodName) prog_2_method_2_code (7 : Nat) (Option.some Jvm.ClassFile.FieldType.int)) ∈ lw_all := lw_g (lw_at lw_m0 112 rfl) rfl
theorem q117 : (Jvm.Cond.methodLink "OwnArrays" (19 : Nat) ({ cls := "OwnArrays", name := "upperBound", desc := "(IIILIntComparator;)I" } : Jvm.MethodName)) ∈ lw_all := lw_g (lw_at lw_m0 113 rfl) rfl
theorem q118 : (Jvm.Cond.static ({ cls := "OwnArrays", name := "upperBound", desc := "(IIILIntComparator;)I" } : Jvm.MethodName)) ∈ lw_all := lw_g (lw_at lw_m0 114 rfl) rfl
theorem q119 : (Jvm.Cond.code ({ cls := "OwnArrays", name := "upperBound", desc := "(IIILIntComparator;)I" } : Jvm.MethodName) prog_2_method_3_code (7 : Nat) (Option.some Jvm.ClassFile.FieldType.int)) ∈ lw_all := lw_g (lw_at lw_m0 115 rfl) rfl
/-! the law's own entry -/
set_option maxRecDepth 100000
abbrev cL_law : ByteArray := code
def dkwL_law_11 : List UInt8 := [132, 3, 6, 167, 255, 9, 4, 172]
abbrev dktL_law_11 : List UInt8 := dkwL_law_11 ++ []
def dkwL_law_10 : List UInt8 := [96, 46, 182, 0, 36, 44, 42, 29, 4, 96, 46, 42, 29, 5, 96, 46, 182, 0, 39, 167, 0, 3]
abbrev dktL_law_10 : List UInt8 := dkwL_law_10 ++ dktL_law_11
def dkwL_law_9 : List UInt8 := [29, 4, 96, 46, 42, 29, 5, 96, 46, 182, 0, 35, 167, 0, 34, 43, 42, 29, 4, 96, 46, 42, 29, 5]
abbrev dktL_law_9 : List UInt8 := dkwL_law_9 ++ dktL_law_10
def dkwL_law_8 : List UInt8 := [182, 0, 30, 159, 0, 67, 3, 172, 43, 42, 29, 4, 96, 46, 42, 29, 5, 96, 46, 182, 0, 31, 44, 42]
abbrev dktL_law_8 : List UInt8 := dkwL_law_8 ++ dktL_law_9
def dkwL_law_7 : List UInt8 := [46, 182, 0, 26, 159, 0, 90, 3, 172, 43, 42, 29, 4, 96, 46, 182, 0, 27, 44, 42, 29, 4, 96, 46]
abbrev dktL_law_7 : List UInt8 := dkwL_law_7 ++ dktL_law_8
def dkwL_law_6 : List UInt8 := [29, 6, 96, 46, 182, 0, 21, 167, 0, 111, 43, 42, 29, 4, 96, 46, 182, 0, 22, 44, 42, 29, 4, 96]
abbrev dktL_law_6 : List UInt8 := dkwL_law_6 ++ dktL_law_7
def dkwL_law_5 : List UInt8 := [29, 5, 96, 46, 42, 29, 6, 96, 46, 182, 0, 18, 44, 42, 29, 4, 96, 46, 42, 29, 5, 96, 46, 42]
abbrev dktL_law_5 : List UInt8 := dkwL_law_5 ++ dktL_law_6
def dkwL_law_4 : List UInt8 := [46, 42, 29, 5, 96, 46, 42, 29, 6, 96, 46, 182, 0, 17, 167, 0, 152, 43, 42, 29, 4, 96, 46, 42]
abbrev dktL_law_4 : List UInt8 := dkwL_law_4 ++ dktL_law_5
def dkwL_law_3 : List UInt8 := [43, 42, 29, 4, 96, 46, 42, 29, 5, 96, 46, 42, 29, 6, 96, 46, 182, 0, 13, 44, 42, 29, 4, 96]
abbrev dktL_law_3 : List UInt8 := dkwL_law_3 ++ dktL_law_4
def dkwL_law_2 : List UInt8 := [170, 0, 0, 0, 0, 0, 229, 0, 0, 0, 0, 0, 0, 0, 5, 0, 0, 0, 39, 0, 0, 0, 80, 0, 0, 0, 121, 0, 0, 0, 144, 0, 0, 0, 167, 0, 0, 0, 198]
abbrev dktL_law_2 : List UInt8 := dkwL_law_2 ++ dktL_law_3
def dkwL_law_1 : List UInt8 := [163, 0, 244, 42, 29, 46, 16, 7, 126]
abbrev dktL_law_1 : List UInt8 := dkwL_law_1 ++ dktL_law_2
def dkwL_law_0 : List UInt8 := [187, 0, 7, 89, 183, 0, 9, 76, 187, 0, 10, 89, 183, 0, 12, 77, 3, 62, 29, 42, 190, 16, 6, 100]
abbrev dktL_law_0 : List UInt8 := dkwL_law_0 ++ dktL_law_1
theorem dksL_law_0 : cL_law.data.toList.drop 0 = dktL_law_0 := by decide +kernel
theorem dksL_law_1 : cL_law.data.toList.drop 24 = dktL_law_1 := dk_seg dksL_law_0 24 rfl rfl
theorem dksL_law_2 : cL_law.data.toList.drop 33 = dktL_law_2 := dk_seg dksL_law_1 9 rfl rfl
theorem dksL_law_3 : cL_law.data.toList.drop 72 = dktL_law_3 := dk_seg dksL_law_2 39 rfl rfl
theorem dksL_law_4 : cL_law.data.toList.drop 96 = dktL_law_4 := dk_seg dksL_law_3 24 rfl rfl
theorem dksL_law_5 : cL_law.data.toList.drop 120 = dktL_law_5 := dk_seg dksL_law_4 24 rfl rfl
theorem dksL_law_6 : cL_law.data.toList.drop 144 = dktL_law_6 := dk_seg dksL_law_5 24 rfl rfl
theorem dksL_law_7 : cL_law.data.toList.drop 168 = dktL_law_7 := dk_seg dksL_law_6 24 rfl rfl
theorem dksL_law_8 : cL_law.data.toList.drop 192 = dktL_law_8 := dk_seg dksL_law_7 24 rfl rfl
theorem dksL_law_9 : cL_law.data.toList.drop 216 = dktL_law_9 := dk_seg dksL_law_8 24 rfl rfl
theorem dksL_law_10 : cL_law.data.toList.drop 240 = dktL_law_10 := dk_seg dksL_law_9 24 rfl rfl
theorem dksL_law_11 : cL_law.data.toList.drop 262 = dktL_law_11 := dk_seg dksL_law_10 22 rfl rfl
theorem dL_law_0 : decode cL_law 0 = .ok (.new 7, 3) := dk_187 0 7 (dk_at dksL_law_0 0 rfl rfl)
theorem dL_law_3 : decode cL_law 3 = .ok (.dup, 1) := dk_89 (dk_at dksL_law_0 3 rfl rfl)
theorem dL_law_4 : decode cL_law 4 = .ok (.invokespecial 9, 3) := dk_183 0 9 (dk_at dksL_law_0 4 rfl rfl)
theorem dL_law_7 : decode cL_law 7 = .ok (.astore_n 1, 1) := dk_76 (dk_at dksL_law_0 7 rfl rfl)
theorem dL_law_8 : decode cL_law 8 = .ok (.new 10, 3) := dk_187 0 10 (dk_at dksL_law_0 8 rfl rfl)
theorem dL_law_11 : decode cL_law 11 = .ok (.dup, 1) := dk_89 (dk_at dksL_law_0 11 rfl rfl)
theorem dL_law_12 : decode cL_law 12 = .ok (.invokespecial 12, 3) := dk_183 0 12 (dk_at dksL_law_0 12 rfl rfl)
theorem dL_law_15 : decode cL_law 15 = .ok (.astore_n 2, 1) := dk_77 (dk_at dksL_law_0 15 rfl rfl)
theorem dL_law_16 : decode cL_law 16 = .ok (.iconst 0, 1) := dk_3 (dk_at dksL_law_0 16 rfl rfl)
theorem dL_law_17 : decode cL_law 17 = .ok (.istore_n 3, 1) := dk_62 (dk_at dksL_law_0 17 rfl rfl)
theorem dL_law_18 : decode cL_law 18 = .ok (.iload_n 3, 1) := dk_29 (dk_at dksL_law_0 18 rfl rfl)
theorem dL_law_19 : decode cL_law 19 = .ok (.aload_n 0, 1) := dk_42 (dk_at dksL_law_0 19 rfl rfl)
theorem dL_law_20 : decode cL_law 20 = .ok (.arraylength, 1) := dk_190 (dk_at dksL_law_0 20 rfl rfl)
theorem dL_law_21 : decode cL_law 21 = .ok (.bipush 6, 2) := dk_16 6 (dk_at dksL_law_0 21 rfl rfl)
theorem dL_law_23 : decode cL_law 23 = .ok (.isub, 1) := dk_100 (dk_at dksL_law_0 23 rfl rfl)
theorem dL_law_24 : decode cL_law 24 = .ok (.if_icmp .gt 244, 3) := dk_163 0 244 (dk_at dksL_law_1 0 rfl rfl)
theorem dL_law_27 : decode cL_law 27 = .ok (.aload_n 0, 1) := dk_42 (dk_at dksL_law_1 3 rfl rfl)
theorem dL_law_28 : decode cL_law 28 = .ok (.iload_n 3, 1) := dk_29 (dk_at dksL_law_1 4 rfl rfl)
theorem dL_law_29 : decode cL_law 29 = .ok (.iaload, 1) := dk_46 (dk_at dksL_law_1 5 rfl rfl)
theorem dL_law_30 : decode cL_law 30 = .ok (.bipush 7, 2) := dk_16 7 (dk_at dksL_law_1 6 rfl rfl)
theorem dL_law_32 : decode cL_law 32 = .ok (.iand, 1) := dk_126 (dk_at dksL_law_1 8 rfl rfl)
theorem dL_law_33 : decode cL_law 33 = .ok (.tableswitch 229 0 5 #[39, 80, 121, 144, 167, 198], 39) := by decide +kernel
theorem dL_law_72 : decode cL_law 72 = .ok (.aload_n 1, 1) := dk_43 (dk_at dksL_law_3 0 rfl rfl)
theorem dL_law_73 : decode cL_law 73 = .ok (.aload_n 0, 1) := dk_42 (dk_at dksL_law_3 1 rfl rfl)
theorem dL_law_74 : decode cL_law 74 = .ok (.iload_n 3, 1) := dk_29 (dk_at dksL_law_3 2 rfl rfl)
theorem dL_law_75 : decode cL_law 75 = .ok (.iconst 1, 1) := dk_4 (dk_at dksL_law_3 3 rfl rfl)
theorem dL_law_76 : decode cL_law 76 = .ok (.iadd, 1) := dk_96 (dk_at dksL_law_3 4 rfl rfl)
theorem dL_law_77 : decode cL_law 77 = .ok (.iaload, 1) := dk_46 (dk_at dksL_law_3 5 rfl rfl)
theorem dL_law_78 : decode cL_law 78 = .ok (.aload_n 0, 1) := dk_42 (dk_at dksL_law_3 6 rfl rfl)
theorem dL_law_79 : decode cL_law 79 = .ok (.iload_n 3, 1) := dk_29 (dk_at dksL_law_3 7 rfl rfl)
theorem dL_law_80 : decode cL_law 80 = .ok (.iconst 2, 1) := dk_5 (dk_at dksL_law_3 8 rfl rfl)
theorem dL_law_81 : decode cL_law 81 = .ok (.iadd, 1) := dk_96 (dk_at dksL_law_3 9 rfl rfl)
theorem dL_law_82 : decode cL_law 82 = .ok (.iaload, 1) := dk_46 (dk_at dksL_law_3 10 rfl rfl)
theorem dL_law_83 : decode cL_law 83 = .ok (.aload_n 0, 1) := dk_42 (dk_at dksL_law_3 11 rfl rfl)
theorem dL_law_84 : decode cL_law 84 = .ok (.iload_n 3, 1) := dk_29 (dk_at dksL_law_3 12 rfl rfl)
theorem dL_law_85 : decode cL_law 85 = .ok (.iconst 3, 1) := dk_6 (dk_at dksL_law_3 13 rfl rfl)
theorem dL_law_86 : decode cL_law 86 = .ok (.iadd, 1) := dk_96 (dk_at dksL_law_3 14 rfl rfl)
theorem dL_law_87 : decode cL_law 87 = .ok (.iaload, 1) := dk_46 (dk_at dksL_law_3 15 rfl rfl)
theorem dL_law_88 : decode cL_law 88 = .ok (.invokevirtual 13, 3) := dk_182 0 13 (dk_at dksL_law_3 16 rfl rfl)
theorem dL_law_91 : decode cL_law 91 = .ok (.aload_n 2, 1) := dk_44 (dk_at dksL_law_3 19 rfl rfl)
theorem dL_law_92 : decode cL_law 92 = .ok (.aload_n 0, 1) := dk_42 (dk_at dksL_law_3 20 rfl rfl)
theorem dL_law_93 : decode cL_law 93 = .ok (.iload_n 3, 1) := dk_29 (dk_at dksL_law_3 21 rfl rfl)
theorem dL_law_94 : decode cL_law 94 = .ok (.iconst 1, 1) := dk_4 (dk_at dksL_law_3 22 rfl rfl)
theorem dL_law_95 : decode cL_law 95 = .ok (.iadd, 1) := dk_96 (dk_at dksL_law_3 23 rfl rfl)
theorem dL_law_96 : decode cL_law 96 = .ok (.iaload, 1) := dk_46 (dk_at dksL_law_4 0 rfl rfl)
theorem dL_law_97 : decode cL_law 97 = .ok (.aload_n 0, 1) := dk_42 (dk_at dksL_law_4 1 rfl rfl)
theorem dL_law_98 : decode cL_law 98 = .ok (.iload_n 3, 1) := dk_29 (dk_at dksL_law_4 2 rfl rfl)
theorem dL_law_99 : decode cL_law 99 = .ok (.iconst 2, 1) := dk_5 (dk_at dksL_law_4 3 rfl rfl)
theorem dL_law_100 : decode cL_law 100 = .ok (.iadd, 1) := dk_96 (dk_at dksL_law_4 4 rfl rfl)
theorem dL_law_101 : decode cL_law 101 = .ok (.iaload, 1) := dk_46 (dk_at dksL_law_4 5 rfl rfl)
theorem dL_law_102 : decode cL_law 102 = .ok (.aload_n 0, 1) := dk_42 (dk_at dksL_law_4 6 rfl rfl)
theorem dL_law_103 : decode cL_law 103 = .ok (.iload_n 3, 1) := dk_29 (dk_at dksL_law_4 7 rfl rfl)
theorem dL_law_104 : decode cL_law 104 = .ok (.iconst 3, 1) := dk_6 (dk_at dksL_law_4 8 rfl rfl)
theorem dL_law_105 : decode cL_law 105 = .ok (.iadd, 1) := dk_96 (dk_at dksL_law_4 9 rfl rfl)
theorem dL_law_106 : decode cL_law 106 = .ok (.iaload, 1) := dk_46 (dk_at dksL_law_4 10 rfl rfl)
theorem dL_law_107 : decode cL_law 107 = .ok (.invokevirtual 17, 3) := dk_182 0 17 (dk_at dksL_law_4 11 rfl rfl)
theorem dL_law_110 : decode cL_law 110 = .ok (.goto 152, 3) := dk_167 0 152 (dk_at dksL_law_4 14 rfl rfl)
theorem dL_law_113 : decode cL_law 113 = .ok (.aload_n 1, 1) := dk_43 (dk_at dksL_law_4 17 rfl rfl)
theorem dL_law_114 : decode cL_law 114 = .ok (.aload_n 0, 1) := dk_42 (dk_at dksL_law_4 18 rfl rfl)
theorem dL_law_115 : decode cL_law 115 = .ok (.iload_n 3, 1) := dk_29 (dk_at dksL_law_4 19 rfl rfl)
theorem dL_law_116 : decode cL_law 116 = .ok (.iconst 1, 1) := dk_4 (dk_at dksL_law_4 20 rfl rfl)
theorem dL_law_117 : decode cL_law 117 = .ok (.iadd, 1) := dk_96 (dk_at dksL_law_4 21 rfl rfl)
theorem dL_law_118 : decode cL_law 118 = .ok (.iaload, 1) := dk_46 (dk_at dksL_law_4 22 rfl rfl)
theorem dL_law_119 : decode cL_law 119 = .ok (.aload_n 0, 1) := dk_42 (dk_at dksL_law_4 23 rfl rfl)
theorem dL_law_120 : decode cL_law 120 = .ok (.iload_n 3, 1) := dk_29 (dk_at dksL_law_5 0 rfl rfl)
theorem dL_law_121 : decode cL_law 121 = .ok (.iconst 2, 1) := dk_5 (dk_at dksL_law_5 1 rfl rfl)
theorem dL_law_122 : decode cL_law 122 = .ok (.iadd, 1) := dk_96 (dk_at dksL_law_5 2 rfl rfl)
theorem dL_law_123 : decode cL_law 123 = .ok (.iaload, 1) := dk_46 (dk_at dksL_law_5 3 rfl rfl)
theorem dL_law_124 : decode cL_law 124 = .ok (.aload_n 0, 1) := dk_42 (dk_at dksL_law_5 4 rfl rfl)
theorem dL_law_125 : decode cL_law 125 = .ok (.iload_n 3, 1) := dk_29 (dk_at dksL_law_5 5 rfl rfl)
theorem dL_law_126 : decode cL_law 126 = .ok (.iconst 3, 1) := dk_6 (dk_at dksL_law_5 6 rfl rfl)
theorem dL_law_127 : decode cL_law 127 = .ok (.iadd, 1) := dk_96 (dk_at dksL_law_5 7 rfl rfl)
theorem dL_law_128 : decode cL_law 128 = .ok (.iaload, 1) := dk_46 (dk_at dksL_law_5 8 rfl rfl)
theorem dL_law_129 : decode cL_law 129 = .ok (.invokevirtual 18, 3) := dk_182 0 18 (dk_at dksL_law_5 9 rfl rfl)
theorem dL_law_132 : decode cL_law 132 = .ok (.aload_n 2, 1) := dk_44 (dk_at dksL_law_5 12 rfl rfl)
theorem dL_law_133 : decode cL_law 133 = .ok (.aload_n 0, 1) := dk_42 (dk_at dksL_law_5 13 rfl rfl)
theorem dL_law_134 : decode cL_law 134 = .ok (.iload_n 3, 1) := dk_29 (dk_at dksL_law_5 14 rfl rfl)
theorem dL_law_135 : decode cL_law 135 = .ok (.iconst 1, 1) := dk_4 (dk_at dksL_law_5 15 rfl rfl)
theorem dL_law_136 : decode cL_law 136 = .ok (.iadd, 1) := dk_96 (dk_at dksL_law_5 16 rfl rfl)
theorem dL_law_137 : decode cL_law 137 = .ok (.iaload, 1) := dk_46 (dk_at dksL_law_5 17 rfl rfl)
theorem dL_law_138 : decode cL_law 138 = .ok (.aload_n 0, 1) := dk_42 (dk_at dksL_law_5 18 rfl rfl)
theorem dL_law_139 : decode cL_law 139 = .ok (.iload_n 3, 1) := dk_29 (dk_at dksL_law_5 19 rfl rfl)
theorem dL_law_140 : decode cL_law 140 = .ok (.iconst 2, 1) := dk_5 (dk_at dksL_law_5 20 rfl rfl)
theorem dL_law_141 : decode cL_law 141 = .ok (.iadd, 1) := dk_96 (dk_at dksL_law_5 21 rfl rfl)
theorem dL_law_142 : decode cL_law 142 = .ok (.iaload, 1) := dk_46 (dk_at dksL_law_5 22 rfl rfl)
theorem dL_law_143 : decode cL_law 143 = .ok (.aload_n 0, 1) := dk_42 (dk_at dksL_law_5 23 rfl rfl)
theorem dL_law_144 : decode cL_law 144 = .ok (.iload_n 3, 1) := dk_29 (dk_at dksL_law_6 0 rfl rfl)
theorem dL_law_145 : decode cL_law 145 = .ok (.iconst 3, 1) := dk_6 (dk_at dksL_law_6 1 rfl rfl)
theorem dL_law_146 : decode cL_law 146 = .ok (.iadd, 1) := dk_96 (dk_at dksL_law_6 2 rfl rfl)
theorem dL_law_147 : decode cL_law 147 = .ok (.iaload, 1) := dk_46 (dk_at dksL_law_6 3 rfl rfl)
theorem dL_law_148 : decode cL_law 148 = .ok (.invokevirtual 21, 3) := dk_182 0 21 (dk_at dksL_law_6 4 rfl rfl)
theorem dL_law_151 : decode cL_law 151 = .ok (.goto 111, 3) := dk_167 0 111 (dk_at dksL_law_6 7 rfl rfl)
theorem dL_law_154 : decode cL_law 154 = .ok (.aload_n 1, 1) := dk_43 (dk_at dksL_law_6 10 rfl rfl)
theorem dL_law_155 : decode cL_law 155 = .ok (.aload_n 0, 1) := dk_42 (dk_at dksL_law_6 11 rfl rfl)
theorem dL_law_156 : decode cL_law 156 = .ok (.iload_n 3, 1) := dk_29 (dk_at dksL_law_6 12 rfl rfl)
theorem dL_law_157 : decode cL_law 157 = .ok (.iconst 1, 1) := dk_4 (dk_at dksL_law_6 13 rfl rfl)
theorem dL_law_158 : decode cL_law 158 = .ok (.iadd, 1) := dk_96 (dk_at dksL_law_6 14 rfl rfl)
theorem dL_law_159 : decode cL_law 159 = .ok (.iaload, 1) := dk_46 (dk_at dksL_law_6 15 rfl rfl)
theorem dL_law_160 : decode cL_law 160 = .ok (.invokevirtual 22, 3) := dk_182 0 22 (dk_at dksL_law_6 16 rfl rfl)
theorem dL_law_163 : decode cL_law 163 = .ok (.aload_n 2, 1) := dk_44 (dk_at dksL_law_6 19 rfl rfl)
theorem dL_law_164 : decode cL_law 164 = .ok (.aload_n 0, 1) := dk_42 (dk_at dksL_law_6 20 rfl rfl)
theorem dL_law_165 : decode cL_law 165 = .ok (.iload_n 3, 1) := dk_29 (dk_at dksL_law_6 21 rfl rfl)
theorem dL_law_166 : decode cL_law 166 = .ok (.iconst 1, 1) := dk_4 (dk_at dksL_law_6 22 rfl rfl)
theorem dL_law_167 : decode cL_law 167 = .ok (.iadd, 1) := dk_96 (dk_at dksL_law_6 23 rfl rfl)
theorem dL_law_168 : decode cL_law 168 = .ok (.iaload, 1) := dk_46 (dk_at dksL_law_7 0 rfl rfl)
theorem dL_law_169 : decode cL_law 169 = .ok (.invokevirtual 26, 3) := dk_182 0 26 (dk_at dksL_law_7 1 rfl rfl)
theorem dL_law_172 : decode cL_law 172 = .ok (.if_icmp .eq 90, 3) := dk_159 0 90 (dk_at dksL_law_7 4 rfl rfl)
theorem dL_law_175 : decode cL_law 175 = .ok (.iconst 0, 1) := dk_3 (dk_at dksL_law_7 7 rfl rfl)
theorem dL_law_176 : decode cL_law 176 = .ok (.ireturn, 1) := dk_172 (dk_at dksL_law_7 8 rfl rfl)
theorem dL_law_177 : decode cL_law 177 = .ok (.aload_n 1, 1) := dk_43 (dk_at dksL_law_7 9 rfl rfl)
theorem dL_law_178 : decode cL_law 178 = .ok (.aload_n 0, 1) := dk_42 (dk_at dksL_law_7 10 rfl rfl)
theorem dL_law_179 : decode cL_law 179 = .ok (.iload_n 3, 1) := dk_29 (dk_at dksL_law_7 11 rfl rfl)
theorem dL_law_180 : decode cL_law 180 = .ok (.iconst 1, 1) := dk_4 (dk_at dksL_law_7 12 rfl rfl)
theorem dL_law_181 : decode cL_law 181 = .ok (.iadd, 1) := dk_96 (dk_at dksL_law_7 13 rfl rfl)
theorem dL_law_182 : decode cL_law 182 = .ok (.iaload, 1) := dk_46 (dk_at dksL_law_7 14 rfl rfl)
theorem dL_law_183 : decode cL_law 183 = .ok (.invokevirtual 27, 3) := dk_182 0 27 (dk_at dksL_law_7 15 rfl rfl)
theorem dL_law_186 : decode cL_law 186 = .ok (.aload_n 2, 1) := dk_44 (dk_at dksL_law_7 18 rfl rfl)
theorem dL_law_187 : decode cL_law 187 = .ok (.aload_n 0, 1) := dk_42 (dk_at dksL_law_7 19 rfl rfl)
theorem dL_law_188 : decode cL_law 188 = .ok (.iload_n 3, 1) := dk_29 (dk_at dksL_law_7 20 rfl rfl)
theorem dL_law_189 : decode cL_law 189 = .ok (.iconst 1, 1) := dk_4 (dk_at dksL_law_7 21 rfl rfl)
theorem dL_law_190 : decode cL_law 190 = .ok (.iadd, 1) := dk_96 (dk_at dksL_law_7 22 rfl rfl)
theorem dL_law_191 : decode cL_law 191 = .ok (.iaload, 1) := dk_46 (dk_at dksL_law_7 23 rfl rfl)
theorem dL_law_192 : decode cL_law 192 = .ok (.invokevirtual 30, 3) := dk_182 0 30 (dk_at dksL_law_8 0 rfl rfl)
theorem dL_law_195 : decode cL_law 195 = .ok (.if_icmp .eq 67, 3) := dk_159 0 67 (dk_at dksL_law_8 3 rfl rfl)
theorem dL_law_198 : decode cL_law 198 = .ok (.iconst 0, 1) := dk_3 (dk_at dksL_law_8 6 rfl rfl)
theorem dL_law_199 : decode cL_law 199 = .ok (.ireturn, 1) := dk_172 (dk_at dksL_law_8 7 rfl rfl)
theorem dL_law_200 : decode cL_law 200 = .ok (.aload_n 1, 1) := dk_43 (dk_at dksL_law_8 8 rfl rfl)
theorem dL_law_201 : decode cL_law 201 = .ok (.aload_n 0, 1) := dk_42 (dk_at dksL_law_8 9 rfl rfl)
theorem dL_law_202 : decode cL_law 202 = .ok (.iload_n 3, 1) := dk_29 (dk_at dksL_law_8 10 rfl rfl)
theorem dL_law_203 : decode cL_law 203 = .ok (.iconst 1, 1) := dk_4 (dk_at dksL_law_8 11 rfl rfl)
theorem dL_law_204 : decode cL_law 204 = .ok (.iadd, 1) := dk_96 (dk_at dksL_law_8 12 rfl rfl)
theorem dL_law_205 : decode cL_law 205 = .ok (.iaload, 1) := dk_46 (dk_at dksL_law_8 13 rfl rfl)
theorem dL_law_206 : decode cL_law 206 = .ok (.aload_n 0, 1) := dk_42 (dk_at dksL_law_8 14 rfl rfl)
theorem dL_law_207 : decode cL_law 207 = .ok (.iload_n 3, 1) := dk_29 (dk_at dksL_law_8 15 rfl rfl)
theorem dL_law_208 : decode cL_law 208 = .ok (.iconst 2, 1) := dk_5 (dk_at dksL_law_8 16 rfl rfl)
theorem dL_law_209 : decode cL_law 209 = .ok (.iadd, 1) := dk_96 (dk_at dksL_law_8 17 rfl rfl)
theorem dL_law_210 : decode cL_law 210 = .ok (.iaload, 1) := dk_46 (dk_at dksL_law_8 18 rfl rfl)
theorem dL_law_211 : decode cL_law 211 = .ok (.invokevirtual 31, 3) := dk_182 0 31 (dk_at dksL_law_8 19 rfl rfl)
theorem dL_law_214 : decode cL_law 214 = .ok (.aload_n 2, 1) := dk_44 (dk_at dksL_law_8 22 rfl rfl)
theorem dL_law_215 : decode cL_law 215 = .ok (.aload_n 0, 1) := dk_42 (dk_at dksL_law_8 23 rfl rfl)
theorem dL_law_216 : decode cL_law 216 = .ok (.iload_n 3, 1) := dk_29 (dk_at dksL_law_9 0 rfl rfl)
theorem dL_law_217 : decode cL_law 217 = .ok (.iconst 1, 1) := dk_4 (dk_at dksL_law_9 1 rfl rfl)
theorem dL_law_218 : decode cL_law 218 = .ok (.iadd, 1) := dk_96 (dk_at dksL_law_9 2 rfl rfl)
theorem dL_law_219 : decode cL_law 219 = .ok (.iaload, 1) := dk_46 (dk_at dksL_law_9 3 rfl rfl)
theorem dL_law_220 : decode cL_law 220 = .ok (.aload_n 0, 1) := dk_42 (dk_at dksL_law_9 4 rfl rfl)
theorem dL_law_221 : decode cL_law 221 = .ok (.iload_n 3, 1) := dk_29 (dk_at dksL_law_9 5 rfl rfl)
theorem dL_law_222 : decode cL_law 222 = .ok (.iconst 2, 1) := dk_5 (dk_at dksL_law_9 6 rfl rfl)
theorem dL_law_223 : decode cL_law 223 = .ok (.iadd, 1) := dk_96 (dk_at dksL_law_9 7 rfl rfl)
theorem dL_law_224 : decode cL_law 224 = .ok (.iaload, 1) := dk_46 (dk_at dksL_law_9 8 rfl rfl)
theorem dL_law_225 : decode cL_law 225 = .ok (.invokevirtual 35, 3) := dk_182 0 35 (dk_at dksL_law_9 9 rfl rfl)
theorem dL_law_228 : decode cL_law 228 = .ok (.goto 34, 3) := dk_167 0 34 (dk_at dksL_law_9 12 rfl rfl)
theorem dL_law_231 : decode cL_law 231 = .ok (.aload_n 1, 1) := dk_43 (dk_at dksL_law_9 15 rfl rfl)
theorem dL_law_232 : decode cL_law 232 = .ok (.aload_n 0, 1) := dk_42 (dk_at dksL_law_9 16 rfl rfl)
theorem dL_law_233 : decode cL_law 233 = .ok (.iload_n 3, 1) := dk_29 (dk_at dksL_law_9 17 rfl rfl)
theorem dL_law_234 : decode cL_law 234 = .ok (.iconst 1, 1) := dk_4 (dk_at dksL_law_9 18 rfl rfl)
theorem dL_law_235 : decode cL_law 235 = .ok (.iadd, 1) := dk_96 (dk_at dksL_law_9 19 rfl rfl)
theorem dL_law_236 : decode cL_law 236 = .ok (.iaload, 1) := dk_46 (dk_at dksL_law_9 20 rfl rfl)
theorem dL_law_237 : decode cL_law 237 = .ok (.aload_n 0, 1) := dk_42 (dk_at dksL_law_9 21 rfl rfl)
theorem dL_law_238 : decode cL_law 238 = .ok (.iload_n 3, 1) := dk_29 (dk_at dksL_law_9 22 rfl rfl)
theorem dL_law_239 : decode cL_law 239 = .ok (.iconst 2, 1) := dk_5 (dk_at dksL_law_9 23 rfl rfl)
theorem dL_law_240 : decode cL_law 240 = .ok (.iadd, 1) := dk_96 (dk_at dksL_law_10 0 rfl rfl)
theorem dL_law_241 : decode cL_law 241 = .ok (.iaload, 1) := dk_46 (dk_at dksL_law_10 1 rfl rfl)
theorem dL_law_242 : decode cL_law 242 = .ok (.invokevirtual 36, 3) := dk_182 0 36 (dk_at dksL_law_10 2 rfl rfl)
theorem dL_law_245 : decode cL_law 245 = .ok (.aload_n 2, 1) := dk_44 (dk_at dksL_law_10 5 rfl rfl)
theorem dL_law_246 : decode cL_law 246 = .ok (.aload_n 0, 1) := dk_42 (dk_at dksL_law_10 6 rfl rfl)
theorem dL_law_247 : decode cL_law 247 = .ok (.iload_n 3, 1) := dk_29 (dk_at dksL_law_10 7 rfl rfl)
theorem dL_law_248 : decode cL_law 248 = .ok (.iconst 1, 1) := dk_4 (dk_at dksL_law_10 8 rfl rfl)
theorem dL_law_249 : decode cL_law 249 = .ok (.iadd, 1) := dk_96 (dk_at dksL_law_10 9 rfl rfl)
theorem dL_law_250 : decode cL_law 250 = .ok (.iaload, 1) := dk_46 (dk_at dksL_law_10 10 rfl rfl)
theorem dL_law_251 : decode cL_law 251 = .ok (.aload_n 0, 1) := dk_42 (dk_at dksL_law_10 11 rfl rfl)
theorem dL_law_252 : decode cL_law 252 = .ok (.iload_n 3, 1) := dk_29 (dk_at dksL_law_10 12 rfl rfl)
theorem dL_law_253 : decode cL_law 253 = .ok (.iconst 2, 1) := dk_5 (dk_at dksL_law_10 13 rfl rfl)
theorem dL_law_254 : decode cL_law 254 = .ok (.iadd, 1) := dk_96 (dk_at dksL_law_10 14 rfl rfl)
theorem dL_law_255 : decode cL_law 255 = .ok (.iaload, 1) := dk_46 (dk_at dksL_law_10 15 rfl rfl)
theorem dL_law_256 : decode cL_law 256 = .ok (.invokevirtual 39, 3) := dk_182 0 39 (dk_at dksL_law_10 16 rfl rfl)
theorem dL_law_259 : decode cL_law 259 = .ok (.goto 3, 3) := dk_167 0 3 (dk_at dksL_law_10 19 rfl rfl)
theorem dL_law_262 : decode cL_law 262 = .ok (.iinc 3 6, 3) := dk_132 3 6 (dk_at dksL_law_11 0 rfl rfl)
theorem dL_law_265 : decode cL_law 265 = .ok (.goto (-247), 3) := dk_167 255 9 (dk_at dksL_law_11 3 rfl rfl)
theorem dL_law_268 : decode cL_law 268 = .ok (.iconst 1, 1) := dk_4 (dk_at dksL_law_11 6 rfl rfl)
theorem dL_law_269 : decode cL_law 269 = .ok (.ireturn, 1) := dk_172 (dk_at dksL_law_11 7 rfl rfl)
end
section
/-! PURE LAW: arrays of ints over Int places; permutation by counting; sorted ranges; the steps of each sort -/
def ss_sw (a : Int → Int) (i j : Int) : Int → Int := fun z => if z = i then a j else if z = j then a i else a z
theorem ss_sw_l {a : Int → Int} {i j : Int} : ss_sw a i j i = a j := by simp [ss_sw]
theorem ss_sw_r {a : Int → Int} {i j : Int} : ss_sw a i j j = a i := by
  by_cases h : j = i
  · subst h; simp [ss_sw]
  · simp [ss_sw, h]
theorem ss_sw_o {a : Int → Int} {i j z : Int} (h1 : z ≠ i) (h2 : z ≠ j) : ss_sw a i j z = a z := by simp [ss_sw, h1, h2]
def ss_le (y v : Int) : Nat := if y ≤ v then 1 else 0
theorem ss_le_1 {y v : Int} (h : y ≤ v) : ss_le y v = 1 := by simp [ss_le, h]
theorem ss_le_0 {y v : Int} (h : ¬ y ≤ v) : ss_le y v = 0 := by simp [ss_le, h]
def ss_cnt (a : Int → Int) (v : Int) : Nat → Nat
  | 0 => 0
  | n + 1 => ss_cnt a v n + ss_le (a (n : Int)) v
theorem ss_cnt_s (a : Int → Int) (v : Int) (n : Nat) : ss_cnt a v (n + 1) = ss_cnt a v n + ss_le (a (n : Int)) v := rfl
def ss_up (a : Int → Int) (i w : Int) : Int → Int := fun z => if z = i then w else a z
theorem ss_cnt_up (a : Int → Int) (i w v : Int) (h0 : 0 ≤ i) : ∀ n : Nat, (i < (n : Int) → ss_cnt (ss_up a i w) v n + ss_le (a i) v = ss_cnt a v n + ss_le w v) ∧ ((n : Int) ≤ i → ss_cnt (ss_up a i w) v n = ss_cnt a v n) := by
  intro n
  induction n with
  | zero => exact ⟨fun h => absurd h (by omega), fun _ => rfl⟩
  | succ n ih =>
    rw [ss_cnt_s, ss_cnt_s]
    by_cases h : (n : Int) = i
    · have h1 : ss_up a i w (n : Int) = w := by simp [ss_up, h]
      have h2 := ih.2 (by omega)
      have h3 : a (n : Int) = a i := by rw [h]
      rw [h1, h2, h3]
      exact ⟨fun _ => by omega, fun h4 => absurd h4 (by omega)⟩
    · have h1 : ss_up a i w (n : Int) = a (n : Int) := by simp [ss_up, h]
      rw [h1]
      exact ⟨fun h3 => by have h5 := ih.1 (by omega); omega, fun h3 => by have h5 := ih.2 (by omega); omega⟩
theorem ss_sw_self (a : Int → Int) (i : Int) : ss_sw a i i = a := by
  funext z
  by_cases h : z = i
  · subst h; simp [ss_sw]
  · simp [ss_sw, h]
theorem ss_sw_up (a : Int → Int) {i j : Int} (h : i ≠ j) : ss_sw a i j = ss_up (ss_up a i (a j)) j (a i) := by
  funext z
  by_cases hi : z = i
  · subst hi; simp [ss_sw, ss_up, h]
  · by_cases hj : z = j
    · subst hj; simp [ss_sw, ss_up, hi]
    · simp [ss_sw, ss_up, hi, hj]
theorem ss_cnt_sw (a : Int → Int) (i j v : Int) (n : Nat) (hi : 0 ≤ i) (hi2 : i < (n : Int)) (hj : 0 ≤ j) (hj2 : j < (n : Int)) : ss_cnt (ss_sw a i j) v n = ss_cnt a v n := by
  by_cases h : i = j
  · subst h; rw [ss_sw_self]
  · have h1 := (ss_cnt_up (ss_up a i (a j)) j (a i) v hj n).1 hj2
    have h2 := (ss_cnt_up a i (a j) v hi n).1 hi2
    have h3 : ss_up a i (a j) j = a j := by simp [ss_up]
    rw [h3] at h1
    rw [ss_sw_up a h]
    omega
theorem ss_cnt_le {b c : Int → Int} {v : Int} : ∀ n : Nat, (∀ y : Int, 0 ≤ y → y < (n : Int) → c y ≤ v → b y ≤ v) → ss_cnt c v n ≤ ss_cnt b v n := by
  intro n
  induction n with
  | zero => intro _; exact Nat.le_refl _
  | succ n ih =>
    intro h
    rw [ss_cnt_s, ss_cnt_s]
    have h1 := ih (fun y h0 h1 => h y h0 (by omega))
    have h2 : ss_le (c (n : Int)) v ≤ ss_le (b (n : Int)) v := by
      by_cases hc : c (n : Int) ≤ v
      · rw [ss_le_1 hc, ss_le_1 (h _ (by omega) (by omega) hc)]; exact Nat.le_refl _
      · rw [ss_le_0 hc]; exact Nat.zero_le _
    omega
theorem ss_cnt_lt {b c : Int → Int} {v z : Int} (hz : 0 ≤ z) (hb : b z ≤ v) (hc : ¬ c z ≤ v) : ∀ n : Nat, z < (n : Int) → (∀ y : Int, 0 ≤ y → y < (n : Int) → c y ≤ v → b y ≤ v) → ss_cnt c v n < ss_cnt b v n := by
  intro n
  induction n with
  | zero => intro h; exact absurd h (by omega)
  | succ n ih =>
    intro h0 h
    rw [ss_cnt_s, ss_cnt_s]
    by_cases hn : z = (n : Int)
    · have h1 := ss_cnt_le (b := b) (c := c) (v := v) n (fun y h0 h1 => h y h0 (by omega))
      rw [hn] at hb hc
      rw [ss_le_1 hb, ss_le_0 hc]
      omega
    · have h1 := ih (by omega) (fun y h0 h1 => h y h0 (by omega))
      have h2 : ss_le (c (n : Int)) v ≤ ss_le (b (n : Int)) v := by
        by_cases hc : c (n : Int) ≤ v
        · rw [ss_le_1 hc, ss_le_1 (h _ (by omega) (by omega) hc)]; exact Nat.le_refl _
        · rw [ss_le_0 hc]; exact Nat.zero_le _
      omega
/-- b is a rearrangement of a within [lo, hi) -/
def ss_Pm (lo hi : Int) (a b : Int → Int) : Prop := (∀ z, z < lo ∨ hi ≤ z → b z = a z) ∧ (∀ z, lo ≤ z → z < hi → ∃ y, lo ≤ y ∧ y < hi ∧ b z = a y) ∧ ∀ v, ss_cnt b v 48 = ss_cnt a v 48
def ss_Srt (lo hi : Int) (a : Int → Int) : Prop := ∀ i j, lo ≤ i → i ≤ j → j < hi → a i ≤ a j
theorem ss_Pm.rf {lo hi : Int} {a : Int → Int} : ss_Pm lo hi a a := ⟨fun _ _ => rfl, fun z h1 h2 => ⟨z, h1, h2, rfl⟩, fun _ => rfl⟩
theorem ss_Pm.tr {lo hi : Int} {a b c : Int → Int} (h1 : ss_Pm lo hi a b) (h2 : ss_Pm lo hi b c) : ss_Pm lo hi a c := by
  refine ⟨fun z h => (h2.1 z h).trans (h1.1 z h), fun z g1 g2 => ?_, fun v => (h2.2.2 v).trans (h1.2.2 v)⟩
  obtain ⟨y, e1, e2, e3⟩ := h2.2.1 z g1 g2
  obtain ⟨w, f1, f2, f3⟩ := h1.2.1 y e1 e2
  exact ⟨w, f1, f2, e3.trans f3⟩
theorem ss_Pm.wide {lo hi lo2 hi2 : Int} {a b : Int → Int} (h : ss_Pm lo hi a b) (h1 : lo2 ≤ lo) (h2 : hi ≤ hi2) : ss_Pm lo2 hi2 a b := by
  refine ⟨fun z h3 => h.1 z (by omega), fun z g1 g2 => ?_, h.2.2⟩
  by_cases hz : z < lo ∨ hi ≤ z
  · exact ⟨z, g1, g2, h.1 z hz⟩
  · obtain ⟨y, e1, e2, e3⟩ := h.2.1 z (by omega) (by omega)
    exact ⟨y, by omega, by omega, e3⟩
theorem ss_Pm.sw {lo hi i j : Int} {a : Int → Int} (h0 : 0 ≤ lo) (h48 : hi ≤ 48) (hi1 : lo ≤ i) (hi2 : i < hi) (hj1 : lo ≤ j) (hj2 : j < hi) : ss_Pm lo hi a (ss_sw a i j) := by
  refine ⟨fun z h => ss_sw_o (by omega) (by omega), fun z g1 g2 => ?_, fun v => ss_cnt_sw a i j v 48 (by omega) (by omega) (by omega) (by omega)⟩
  by_cases hz : z = i
  · exact ⟨j, hj1, hj2, by rw [hz]; exact ss_sw_l⟩
  · by_cases hz2 : z = j
    · exact ⟨i, hi1, hi2, by rw [hz2]; exact ss_sw_r⟩
    · exact ⟨z, g1, g2, ss_sw_o hz hz2⟩
theorem ss_uniq_1 {lo hi z : Int} {b c : Int → Int} (h0 : 0 ≤ lo) (h48 : hi ≤ 48) (hc : ss_Srt lo hi c) (ho : ∀ y, y < lo ∨ hi ≤ y → b y = c y) (hn : ∀ v, ss_cnt b v 48 = ss_cnt c v 48) (hz1 : lo ≤ z) (hz2 : z < hi) (hp : ∀ y, lo ≤ y → y < z → b y = c y) (h : b z < c z) : False := by
  have hl := ss_cnt_lt (b := b) (c := c) (v := b z) (z := z) (by omega) (Int.le_refl _) (by omega) 48 (by omega) (fun y g0 g1 g2 => by
    by_cases hy : y < lo ∨ hi ≤ y
    · rw [ho y hy]; exact g2
    · by_cases hy2 : y < z
      · rw [hp y (by omega) hy2]; exact g2
      · have := hc z y hz1 (by omega) (by omega)
        omega)
  rw [hn] at hl
  omega
/-- one sorted rearrangement alone -/
theorem ss_uniq {lo hi : Int} {b c : Int → Int} (h0 : 0 ≤ lo) (h48 : hi ≤ 48) (hb : ss_Srt lo hi b) (hc : ss_Srt lo hi c) (ho : ∀ y, y < lo ∨ hi ≤ y → b y = c y) (hn : ∀ v, ss_cnt b v 48 = ss_cnt c v 48) : ∀ z, b z = c z := by
  have key : ∀ n : Nat, ∀ z, lo ≤ z → z < hi → z < lo + (n : Int) → b z = c z := by
    intro n
    induction n with
    | zero => intro z h1 h2 h3; exact absurd h3 (by omega)
    | succ n ih =>
      intro z h1 h2 h3
      rcases Int.lt_trichotomy (b z) (c z) with h | h | h
      · exact (ss_uniq_1 h0 h48 hc ho hn h1 h2 (fun y g1 g2 => ih y g1 (by omega) (by omega)) h).elim
      · exact h
      · exact (ss_uniq_1 h0 h48 hb (fun y g => (ho y g).symm) (fun v => (hn v).symm) h1 h2 (fun y g1 g2 => (ih y g1 (by omega) (by omega)).symm) h).elim
  intro z
  by_cases hz : z < lo ∨ hi ≤ z
  · exact ho z hz
  · exact key (z - lo + 1).toNat z (by omega) (by omega) (by omega)
theorem ss_uniqP {lo hi : Int} {a b c : Int → Int} (h0 : 0 ≤ lo) (h48 : hi ≤ 48) (hb : ss_Srt lo hi b) (hc : ss_Srt lo hi c) (h1 : ss_Pm lo hi a b) (h2 : ss_Pm lo hi a c) : ∀ z, b z = c z :=
  ss_uniq h0 h48 hb hc (fun y g => (h1.1 y g).trans (h2.1 y g).symm) (fun v => (h1.2.2 v).trans (h2.2.2 v).symm)
theorem ss_Srt.keep {lo hi : Int} {a b : Int → Int} (h : ss_Srt lo hi a) (hk : ∀ z, lo ≤ z → z < hi → b z = a z) : ss_Srt lo hi b := by
  intro i j h1 h2 h3
  rw [hk i h1 (by omega), hk j (by omega) h3]
  exact h i j h1 h2 h3
theorem ss_Srt.sub {lo hi lo2 hi2 : Int} {a : Int → Int} (h : ss_Srt lo hi a) (h1 : lo ≤ lo2) (h2 : hi2 ≤ hi) : ss_Srt lo2 hi2 a := fun i j g1 g2 g3 => h i j (by omega) g2 (by omega)
theorem ss_Srt.small {lo hi : Int} {a : Int → Int} (h : hi ≤ lo + 1) : ss_Srt lo hi a := by
  intro i j g1 g2 g3
  have e : i = j := by omega
  rw [e]
  exact Int.le_refl _
theorem ss_Srt.cat {lo mid hi : Int} {b : Int → Int} (h1 : ss_Srt lo mid b) (h2 : ss_Srt mid hi b) (h3 : b (mid - 1) ≤ b mid) : ss_Srt lo hi b := by
  intro i j g1 g2 g3
  by_cases hj : j < mid
  · exact h1 i j g1 g2 hj
  · by_cases hi2 : mid ≤ i
    · exact h2 i j hi2 g2 g3
    · have e1 := h1 i (mid - 1) g1 (by omega) (by omega)
      have e2 := h2 mid j (by omega) (by omega) g3
      omega
-- insertion
def ss_Ins (lo i j : Int) (a : Int → Int) : Prop := ∀ p q, lo ≤ p → p < q → q ≤ i → q ≠ j → a p ≤ a q
theorem ss_Ins_0 {lo i : Int} {a : Int → Int} (h : ss_Srt lo i a) : ss_Ins lo i i a := fun p q h1 h2 h3 h4 => h p q h1 (by omega) (by omega)
theorem ss_Ins_step {lo i j : Int} {a : Int → Int} (h : ss_Ins lo i j a) (hj : lo < j) (hji : j ≤ i) (hgt : a j < a (j - 1)) : ss_Ins lo i (j - 1) (ss_sw a j (j - 1)) := by
  intro p q h1 h2 h3 h4
  have e1 : ss_sw a j (j - 1) j = a (j - 1) := ss_sw_l
  have e2 : ss_sw a j (j - 1) (j - 1) = a j := ss_sw_r
  by_cases hq : q = j
  · by_cases hp : p = j - 1
    · rw [hq, hp, e1, e2]; omega
    · rw [hq, e1, ss_sw_o (by omega) hp]
      exact h p (j - 1) h1 (by omega) (by omega) (by omega)
  · by_cases hp : p = j
    · rw [hp, e1, ss_sw_o hq h4]
      exact h (j - 1) q (by omega) (by omega) h3 hq
    · by_cases hp2 : p = j - 1
      · rw [hp2, e2, ss_sw_o hq h4]
        exact h j q (by omega) (by omega) h3 hq
      · rw [ss_sw_o hp hp2, ss_sw_o hq h4]
        exact h p q h1 h2 h3 hq
theorem ss_Ins_end {lo i j : Int} {a : Int → Int} (h : ss_Ins lo i j a) (hlj : lo ≤ j) (hji : j ≤ i) (he : j = lo ∨ a (j - 1) ≤ a j) : ss_Srt lo (i + 1) a := by
  intro p q h1 h2 h3
  by_cases hpq : p = q
  · rw [hpq]; exact Int.le_refl _
  · by_cases hq : q = j
    · rcases he with he | he
      · omega
      · by_cases hp : p = j - 1
        · rw [hp, hq]; exact he
        · have e := h p (j - 1) h1 (by omega) (by omega) (by omega)
          rw [hq]; omega
    · exact h p q h1 (by omega) (by omega) hq
-- reversal and rotation
def ss_RevI (f l p : Int) (a b : Int → Int) : Prop := (∀ z, (f ≤ z ∧ z < p) ∨ (f + l - p ≤ z ∧ z < l) → b z = a (f + l - 1 - z)) ∧ ∀ z, z < f ∨ l ≤ z ∨ (p ≤ z ∧ z < f + l - p) → b z = a z
def ss_Rev (f l : Int) (a b : Int → Int) : Prop := (∀ z, f ≤ z → z < l → b z = a (f + l - 1 - z)) ∧ ∀ z, z < f ∨ l ≤ z → b z = a z
theorem ss_RevI_0 {f l : Int} {a : Int → Int} : ss_RevI f l f a a := ⟨fun z h => absurd h (by omega), fun z _ => rfl⟩
theorem ss_RevI_step {f l p q : Int} {a b : Int → Int} (h : ss_RevI f l p a b) (hf : f ≤ p) (hq : q = f + l - p - 1) (hpq : p < q) : ss_RevI f l (p + 1) a (ss_sw b p q) := by
  subst hq
  refine ⟨fun z hz => ?_, fun z hz => ?_⟩
  · by_cases h1 : z = p
    · subst h1
      rw [ss_sw_l, h.2 _ (by omega)]
      congr 1; omega
    · by_cases h2 : z = f + l - p - 1
      · subst h2
        rw [ss_sw_r, h.2 _ (by omega)]
        congr 1; omega
      · rw [ss_sw_o h1 h2]
        exact h.1 z (by omega)
  · rw [ss_sw_o (by omega) (by omega)]
    exact h.2 z (by omega)
theorem ss_RevI_end {f l p : Int} {a b : Int → Int} (h : ss_RevI f l p a b) (hf : f ≤ p) (hpq : f + l - p - 1 ≤ p) : ss_Rev f l a b := by
  refine ⟨fun z h1 h2 => ?_, fun z hz => h.2 z (by omega)⟩
  by_cases hz : (f ≤ z ∧ z < p) ∨ (f + l - p ≤ z ∧ z < l)
  · exact h.1 z hz
  · rw [h.2 z (by omega)]
    congr 1; omega
def ss_Rot (f m l : Int) (a b : Int → Int) : Prop := (∀ z, f ≤ z → z < f + (l - m) → b z = a (z - f + m)) ∧ (∀ z, f + (l - m) ≤ z → z < l → b z = a (z - (l - m))) ∧ ∀ z, z < f ∨ l ≤ z → b z = a z
theorem ss_rot {f m l : Int} {a b1 b2 b3 : Int → Int} (hfm : f ≤ m) (hml : m ≤ l) (h1 : ss_Rev f m a b1) (h2 : ss_Rev m l b1 b2) (h3 : ss_Rev f l b2 b3) : ss_Rot f m l a b3 := by
  refine ⟨fun z g1 g2 => ?_, fun z g1 g2 => ?_, fun z g => ?_⟩
  · rw [h3.1 z g1 (by omega), h2.1 _ (by omega) (by omega), h1.2 _ (by omega)]
    congr 1; omega
  · rw [h3.1 z (by omega) g2, h2.2 _ (by omega), h1.1 _ (by omega) (by omega)]
    congr 1; omega
  · rw [h3.2 z g, h2.2 z (by omega), h1.2 z (by omega)]
theorem ss_rot_0 {f m l : Int} {a : Int → Int} (h : m = f ∨ m = l) : ss_Rot f m l a a := by
  refine ⟨fun z g1 g2 => ?_, fun z g1 g2 => ?_, fun z _ => rfl⟩
  · congr 1; omega
  · congr 1; omega
/-- the pivot between the parts of a merge -/
def ss_Piv (lo f mid sc hi P : Int) (a : Int → Int) : Prop := (∀ z, lo ≤ z → z < f → a z ≤ P) ∧ (∀ z, mid ≤ z → z < sc → a z ≤ P) ∧ (∀ z, f ≤ z → z < mid → P ≤ a z) ∧ ∀ z, sc ≤ z → z < hi → P ≤ a z
theorem ss_merge {lo f mid sc hi : Int} {a b : Int → Int} (h1 : lo ≤ f) (h2 : f ≤ mid) (h3 : mid ≤ sc) (h4 : sc ≤ hi) (hL : ss_Srt lo mid a) (hR : ss_Srt mid hi a) (hr : ss_Rot f mid sc a b) :
    ss_Srt lo f b ∧ ss_Srt f (f + (sc - mid)) b ∧ ss_Srt (f + (sc - mid)) sc b ∧ ss_Srt sc hi b := by
  refine ⟨fun i j g1 g2 g3 => ?_, fun i j g1 g2 g3 => ?_, fun i j g1 g2 g3 => ?_, fun i j g1 g2 g3 => ?_⟩
  · rw [hr.2.2 i (by omega), hr.2.2 j (by omega)]; exact hL i j g1 g2 (by omega)
  · rw [hr.1 i (by omega) (by omega), hr.1 j (by omega) (by omega)]; exact hR _ _ (by omega) (by omega) (by omega)
  · rw [hr.2.1 i (by omega) (by omega), hr.2.1 j (by omega) (by omega)]; exact hL _ _ (by omega) (by omega) (by omega)
  · rw [hr.2.2 i (by omega), hr.2.2 j (by omega)]; exact hR i j (by omega) g2 g3
theorem ss_merge_end {lo f mid sc hi P m2 : Int} {a b b1 b2 : Int → Int} (h1 : lo ≤ f) (h2 : f ≤ mid) (h3 : mid ≤ sc) (h4 : sc ≤ hi) (hm : m2 = f + (sc - mid)) (hp : ss_Piv lo f mid sc hi P a) (hr : ss_Rot f mid sc a b)
    (k1 : ss_Pm lo m2 b b1) (s1 : ss_Srt lo m2 b1) (k2 : ss_Pm m2 hi b1 b2) (s2 : ss_Srt m2 hi b2) : ss_Srt lo hi b2 := by
  obtain ⟨p1, p2, p3, p4⟩ := hp
  have lowB : ∀ y, lo ≤ y → y < m2 → b y ≤ P := by
    intro y g1 g2
    by_cases hy : y < f
    · rw [hr.2.2 y (by omega)]; exact p1 y g1 hy
    · rw [hr.1 y (by omega) (by omega)]; exact p2 _ (by omega) (by omega)
  have highB : ∀ y, m2 ≤ y → y < hi → P ≤ b y := by
    intro y g1 g2
    by_cases hy : y < sc
    · rw [hr.2.1 y (by omega) hy]; exact p3 _ (by omega) (by omega)
    · rw [hr.2.2 y (by omega)]; exact p4 _ (by omega) g2
  intro i j g1 g2 g3
  by_cases hj : j < m2
  · rw [k2.1 i (by omega), k2.1 j (by omega)]; exact s1 i j g1 g2 hj
  · by_cases hi2 : m2 ≤ i
    · exact s2 i j hi2 g2 g3
    · rw [k2.1 i (by omega)]
      obtain ⟨y, e1, e2, e3⟩ := k1.2.1 i g1 (by omega)
      obtain ⟨w, f1, f2, f3⟩ := k2.2.1 j (by omega) g3
      rw [e3, f3, k1.1 w (by omega)]
      have := lowB y e1 e2
      have := highB w f1 f2
      omega
theorem ss_piv_1 {lo f mid sc hi : Int} {a : Int → Int} (hf1 : lo ≤ f) (hf2 : f < mid) (hL : ss_Srt lo mid a) (h1 : ∀ z, mid ≤ z → z < sc → a z < a f) (h2 : ∀ z, sc ≤ z → z < hi → a f ≤ a z) : ss_Piv lo f mid sc hi (a f) a := by
  refine ⟨fun z g1 g2 => hL z f g1 (by omega) hf2, fun z g1 g2 => ?_, fun z g1 g2 => hL f z hf1 g1 g2, h2⟩
  have := h1 z g1 g2
  omega
theorem ss_piv_2 {lo f mid sc hi : Int} {a : Int → Int} (hs1 : mid ≤ sc) (hs2 : sc < hi) (hR : ss_Srt mid hi a) (h1 : ∀ z, lo ≤ z → z < f → a z ≤ a sc) (h2 : ∀ z, f ≤ z → z < mid → a sc < a z) : ss_Piv lo f mid sc hi (a sc) a := by
  refine ⟨h1, fun z g1 g2 => hR z sc g1 (by omega) hs2, fun z g1 g2 => ?_, fun z g1 g2 => hR sc z hs1 g1 g2⟩
  have := h2 z g1 g2
  omega
-- the exchange of two ranges
def ss_Vsw (p q n : Int) (a b : Int → Int) : Prop := (∀ z, p ≤ z → z < p + n → b z = a (z + (q - p))) ∧ (∀ z, q ≤ z → z < q + n → b z = a (z - (q - p))) ∧ ∀ z, (z < p ∨ p + n ≤ z) → (z < q ∨ q + n ≤ z) → b z = a z
theorem ss_Vsw_0 {p q : Int} {a : Int → Int} : ss_Vsw p q 0 a a := ⟨fun z h1 h2 => absurd h2 (by omega), fun z h1 h2 => absurd h2 (by omega), fun z _ _ => rfl⟩
theorem ss_Vsw_step {p q i : Int} {a b : Int → Int} (h : ss_Vsw p q i a b) (hi : 0 ≤ i) (hpq : p + i < q) : ss_Vsw p q (i + 1) a (ss_sw b (p + i) (q + i)) := by
  refine ⟨fun z g1 g2 => ?_, fun z g1 g2 => ?_, fun z g1 g2 => ?_⟩
  · by_cases h1 : z = p + i
    · subst h1
      rw [ss_sw_l, h.2.2 _ (by omega) (by omega)]
      congr 1; omega
    · rw [ss_sw_o h1 (by omega)]; exact h.1 z g1 (by omega)
  · by_cases h1 : z = q + i
    · subst h1
      rw [ss_sw_r, h.2.2 _ (by omega) (by omega)]
      congr 1; omega
    · rw [ss_sw_o (by omega) h1]; exact h.2.1 z g1 (by omega)
  · rw [ss_sw_o (by omega) (by omega)]; exact h.2.2 z (by omega) (by omega)
-- the partition of quickSort
def ss_QI (lo hi A B C D M V : Int) (a : Int → Int) : Prop := lo ≤ A ∧ A ≤ B ∧ B ≤ C + 1 ∧ C ≤ D ∧ D < hi ∧ lo ≤ M ∧ M < hi ∧ a M = V ∧ (∀ z, lo ≤ z → z < A → a z = V) ∧ (∀ z, A ≤ z → z < B → a z < V) ∧ (∀ z, C < z → z ≤ D → V < a z) ∧ ∀ z, D < z → z < hi → a z = V
/-- where the pivot is behind an exchange -/
def ss_mv (i j M M2 : Int) : Prop := (i = M ∧ M2 = j) ∨ (i ≠ M ∧ j = M ∧ M2 = i) ∨ (i ≠ M ∧ j ≠ M ∧ M2 = M)
theorem ss_mv_at {i j M M2 : Int} {a : Int → Int} (h : ss_mv i j M M2) : ss_sw a i j M2 = a M := by
  rcases h with ⟨h1, h2⟩ | ⟨h1, h2, h3⟩ | ⟨h1, h2, h3⟩
  · rw [h2, ss_sw_r, h1]
  · rw [h3, ss_sw_l, h2]
  · rw [h3, ss_sw_o (fun e => h1 e.symm) (fun e => h2 e.symm)]
theorem ss_mv_in {i j M M2 lo hi : Int} (h : ss_mv i j M M2) (h1 : lo ≤ i ∧ i < hi) (h2 : lo ≤ j ∧ j < hi) (h3 : lo ≤ M ∧ M < hi) : lo ≤ M2 ∧ M2 < hi := by
  unfold ss_mv at h
  omega
theorem ss_Q_0 {lo hi M : Int} {a : Int → Int} (h : lo < hi) (h1 : lo ≤ M) (h2 : M < hi) : ss_QI lo hi lo lo (hi - 1) (hi - 1) M (a M) a :=
  ⟨by omega, by omega, by omega, by omega, by omega, h1, h2, rfl, fun z _ _ => by omega, fun z _ _ => by omega, fun z _ _ => by omega, fun z _ _ => by omega⟩
theorem ss_Q_b {lo hi A B C D M V : Int} {a : Int → Int} (h : ss_QI lo hi A B C D M V a) (hBC : B ≤ C) (hv : a B < V) : ss_QI lo hi A (B + 1) C D M V a := by
  obtain ⟨h1, h2, h3, h4, h5, h6, h7, h8, h9, h10, h11, h12⟩ := h
  refine ⟨h1, by omega, by omega, h4, h5, h6, h7, h8, h9, fun z g1 g2 => ?_, h11, h12⟩
  by_cases hz : z = B
  · rw [hz]; exact hv
  · exact h10 z g1 (by omega)
theorem ss_Q_c {lo hi A B C D M V : Int} {a : Int → Int} (h : ss_QI lo hi A B C D M V a) (hBC : B ≤ C) (hv : V < a C) : ss_QI lo hi A B (C - 1) D M V a := by
  obtain ⟨h1, h2, h3, h4, h5, h6, h7, h8, h9, h10, h11, h12⟩ := h
  refine ⟨h1, by omega, by omega, by omega, h5, h6, h7, h8, h9, h10, fun z g1 g2 => ?_, h12⟩
  by_cases hz : z = C
  · rw [hz]; exact hv
  · exact h11 z (by omega) g2
theorem ss_Q_beq {lo hi A B C D M V M2 : Int} {a : Int → Int} (h : ss_QI lo hi A B C D M V a) (hBC : B ≤ C) (hv : a B = V) (hm : ss_mv A B M M2) : ss_QI lo hi (A + 1) (B + 1) C D M2 V (ss_sw a A B) := by
  obtain ⟨h1, h2, h3, h4, h5, h6, h7, h8, h9, h10, h11, h12⟩ := h
  obtain ⟨m1, m2⟩ := ss_mv_in (lo := lo) (hi := hi) hm ⟨by omega, by omega⟩ ⟨by omega, by omega⟩ ⟨h6, h7⟩
  refine ⟨by omega, by omega, by omega, h4, h5, m1, m2, by rw [ss_mv_at hm]; exact h8, fun z g1 g2 => ?_, fun z g1 g2 => ?_, fun z g1 g2 => ?_, fun z g1 g2 => ?_⟩
  · by_cases hz : z = A
    · rw [hz, ss_sw_l]; exact hv
    · rw [ss_sw_o hz (by omega)]; exact h9 z g1 (by omega)
  · by_cases hz : z = B
    · rw [hz, ss_sw_r]; exact h10 A (by omega) (by omega)
    · rw [ss_sw_o (by omega) hz]; exact h10 z (by omega) (by omega)
  · rw [ss_sw_o (by omega) (by omega)]; exact h11 z g1 g2
  · rw [ss_sw_o (by omega) (by omega)]; exact h12 z g1 g2
theorem ss_Q_ceq {lo hi A B C D M V M2 : Int} {a : Int → Int} (h : ss_QI lo hi A B C D M V a) (hBC : B ≤ C) (hB : V < a B) (hv : a C = V) (hm : ss_mv C D M M2) : ss_QI lo hi A B (C - 1) (D - 1) M2 V (ss_sw a C D) ∧ V < ss_sw a C D B := by
  obtain ⟨h1, h2, h3, h4, h5, h6, h7, h8, h9, h10, h11, h12⟩ := h
  obtain ⟨m1, m2⟩ := ss_mv_in (lo := lo) (hi := hi) hm ⟨by omega, by omega⟩ ⟨by omega, by omega⟩ ⟨h6, h7⟩
  have hne : B ≠ C := fun e => by rw [e] at hB; omega
  refine ⟨⟨by omega, by omega, by omega, by omega, by omega, m1, m2, by rw [ss_mv_at hm]; exact h8, fun z g1 g2 => ?_, fun z g1 g2 => ?_, fun z g1 g2 => ?_, fun z g1 g2 => ?_⟩, by rw [ss_sw_o hne (by omega)]; exact hB⟩
  · rw [ss_sw_o (by omega) (by omega)]; exact h9 z g1 g2
  · rw [ss_sw_o (by omega) (by omega)]; exact h10 z g1 g2
  · by_cases hz : z = C
    · rw [hz, ss_sw_l]; exact h11 D (by omega) (by omega)
    · rw [ss_sw_o hz (by omega)]; exact h11 z (by omega) (by omega)
  · by_cases hz : z = D
    · rw [hz, ss_sw_r]; exact hv
    · rw [ss_sw_o (by omega) hz]; exact h12 z (by omega) g2
theorem ss_Q_sw {lo hi A B C D M V M2 : Int} {a : Int → Int} (h : ss_QI lo hi A B C D M V a) (hBC : B ≤ C) (hB : V < a B) (hC : a C < V) (hm : ss_mv B C M M2) : ss_QI lo hi A (B + 1) (C - 1) D M2 V (ss_sw a B C) := by
  obtain ⟨h1, h2, h3, h4, h5, h6, h7, h8, h9, h10, h11, h12⟩ := h
  obtain ⟨m1, m2⟩ := ss_mv_in (lo := lo) (hi := hi) hm ⟨by omega, by omega⟩ ⟨by omega, by omega⟩ ⟨h6, h7⟩
  have hne : B ≠ C := fun e => by rw [e] at hB; omega
  refine ⟨h1, by omega, by omega, by omega, h5, m1, m2, by rw [ss_mv_at hm]; exact h8, fun z g1 g2 => ?_, fun z g1 g2 => ?_, fun z g1 g2 => ?_, fun z g1 g2 => ?_⟩
  · rw [ss_sw_o (by omega) (by omega)]; exact h9 z g1 g2
  · by_cases hz : z = B
    · rw [hz, ss_sw_l]; exact hC
    · rw [ss_sw_o hz (by omega)]; exact h10 z g1 (by omega)
  · by_cases hz : z = C
    · rw [hz, ss_sw_r]; exact hB
    · rw [ss_sw_o (by omega) hz]; exact h11 z (by omega) g2
  · rw [ss_sw_o (by omega) (by omega)]; exact h12 z g1 g2
/-- the pivot is somewhere: both sides are shorter than the whole -/
theorem ss_Q_size {lo hi A B C D M V : Int} {a : Int → Int} (h : ss_QI lo hi A B C D M V a) (hBC : C < B) : B - A + (D - C) < hi - lo := by
  obtain ⟨h1, h2, h3, h4, h5, h6, h7, h8, h9, h10, h11, h12⟩ := h
  by_cases g1 : M < A
  · omega
  · by_cases g2 : M < B
    · have := h10 M (by omega) g2; omega
    · by_cases g3 : M ≤ D
      · have := h11 M (by omega) g3; omega
      · omega
/-- the three parts behind the partition -/
def ss_Q3 (lo hi q r V : Int) (a : Int → Int) : Prop := (∀ z, lo ≤ z → z < lo + q → a z < V) ∧ (∀ z, lo + q ≤ z → z < hi - r → a z = V) ∧ ∀ z, hi - r ≤ z → z < hi → V < a z
theorem ss_Q_mid {lo hi A B C D M V s t : Int} {a b c : Int → Int} (h : ss_QI lo hi A B C D M V a) (hBC : C < B) (hs : (s = A - lo ∧ s ≤ B - A) ∨ (s = B - A ∧ s ≤ A - lo)) (ht : (t = D - C ∧ t ≤ hi - D - 1) ∨ (t = hi - D - 1 ∧ t ≤ D - C)) (h1 : ss_Vsw lo (B - s) s a b) (h2 : ss_Vsw B (hi - t) t b c) : ss_Q3 lo hi (B - A) (D - C) V c := by
  obtain ⟨g1, g2, g3, g4, g5, g6, g7, g8, g9, g10, g11, g12⟩ := h
  have hC : C = B - 1 := by omega
  subst hC
  have L : ∀ z, lo ≤ z → z < B → c z = b z := fun z e1 e2 => h2.2.2 z (by omega) (by omega)
  have R : ∀ z, B ≤ z → b z = a z := fun z e1 => h1.2.2 z (by omega) (by omega)
  refine ⟨fun z e1 e2 => ?_, fun z e1 e2 => ?_, fun z e1 e2 => ?_⟩
  · rw [L z e1 (by omega)]
    by_cases hz : z < lo + s
    · rw [h1.1 z e1 hz]; exact g10 _ (by omega) (by omega)
    · rw [h1.2.2 z (by omega) (by omega)]; exact g10 z (by omega) (by omega)
  · by_cases hzB : z < B
    · rw [L z (by omega) hzB]
      by_cases hz : B - s ≤ z
      · rw [h1.2.1 z hz (by omega)]; exact g9 _ (by omega) (by omega)
      · rw [h1.2.2 z (by omega) (by omega)]; exact g9 z (by omega) (by omega)
    · by_cases hz : z < B + t
      · rw [h2.1 z (by omega) hz, R _ (by omega)]; exact g12 _ (by omega) (by omega)
      · rw [h2.2.2 z (by omega) (by omega), R z (by omega)]; exact g12 z (by omega) (by omega)
  · by_cases hz : hi - t ≤ z
    · rw [h2.2.1 z hz (by omega), R _ (by omega)]; exact g11 _ (by omega) (by omega)
    · rw [h2.2.2 z (by omega) (by omega), R z (by omega)]; exact g11 z (by omega) (by omega)
theorem ss_Q_end {lo hi q r V : Int} {a b c : Int → Int} (h : ss_Q3 lo hi q r V a) (hq : 0 ≤ q) (hr : 0 ≤ r) (hqr : q + r ≤ hi - lo) (k1 : ss_Pm lo (lo + q) a b) (s1 : ss_Srt lo (lo + q) b) (k2 : ss_Pm (hi - r) hi b c) (s2 : ss_Srt (hi - r) hi c) : ss_Srt lo hi c := by
  obtain ⟨h1, h2, h3⟩ := h
  have low : ∀ z, lo ≤ z → z < lo + q → c z < V := by
    intro z e1 e2
    rw [k2.1 z (by omega)]
    obtain ⟨y, f1, f2, f3⟩ := k1.2.1 z e1 e2
    rw [f3]; exact h1 y f1 f2
  have mid : ∀ z, lo + q ≤ z → z < hi - r → c z = V := by
    intro z e1 e2
    rw [k2.1 z (by omega), k1.1 z (by omega)]
    exact h2 z e1 e2
  have high : ∀ z, hi - r ≤ z → z < hi → V < c z := by
    intro z e1 e2
    obtain ⟨y, f1, f2, f3⟩ := k2.2.1 z e1 e2
    rw [f3, k1.1 y (by omega)]; exact h3 y f1 f2
  intro i j e1 e2 e3
  by_cases hj : j < lo + q
  · rw [k2.1 i (by omega), k2.1 j (by omega)]; exact s1 i j e1 e2 hj
  · by_cases hi2 : hi - r ≤ i
    · exact s2 i j hi2 e2 e3
    · have a1 : c i ≤ V := by
        by_cases g : i < lo + q
        · have := low i e1 g; omega
        · have := mid i (by omega) (by omega); omega
      have a2 : V ≤ c j := by
        by_cases g : j < hi - r
        · have := mid j (by omega) g; omega
        · have := high j (by omega) e3; omega
      omega
-- selection
def ss_Sel (lo hi k : Int) (a : Int → Int) : Prop := ∀ p q, lo ≤ p → p < k → p ≤ q → q < hi → a p ≤ a q
theorem ss_Sel_0 {lo hi : Int} {a : Int → Int} : ss_Sel lo hi lo a := fun p q h1 h2 => absurd h2 (by omega)
theorem ss_Sel_step {lo hi k m : Int} {a : Int → Int} (h : ss_Sel lo hi k a) (hk : lo ≤ k) (hkh : k < hi) (hm1 : k ≤ m) (hm2 : m < hi) (hl : ∀ q, k ≤ q → q < hi → a m ≤ a q) : ss_Sel lo hi (k + 1) (ss_sw a m k) := by
  have inn : ∀ q, k ≤ q → q < hi → ∃ y, k ≤ y ∧ y < hi ∧ ss_sw a m k q = a y := by
    intro q e1 e2
    by_cases h1 : q = m
    · exact ⟨k, Int.le_refl _, hkh, by rw [h1]; exact ss_sw_l⟩
    · by_cases h2 : q = k
      · exact ⟨m, hm1, hm2, by rw [h2]; exact ss_sw_r⟩
      · exact ⟨q, e1, e2, ss_sw_o h1 h2⟩
  intro p q e1 e2 e3 e4
  by_cases hp : p = k
  · rw [hp, ss_sw_r]
    obtain ⟨y, f1, f2, f3⟩ := inn q (by omega) e4
    rw [f3]; exact hl y f1 f2
  · rw [ss_sw_o (z := p) (by omega) hp]
    by_cases hq : q < k
    · rw [ss_sw_o (by omega) (by omega)]; exact h p q e1 (by omega) e3 e4
    · obtain ⟨y, f1, f2, f3⟩ := inn q (by omega) e4
      rw [f3]; exact h p y e1 (by omega) (by omega) f2
theorem ss_Sel_end {lo hi k : Int} {a : Int → Int} (h : ss_Sel lo hi k a) (hk : hi ≤ k) : ss_Srt lo hi a := fun i j e1 e2 e3 => h i j e1 (by omega) e2 e3
end
section
/-! BASE 1: int locals written by an Int; the rows over them -/
def zI (z : Int) : Int32 := Int32.ofInt z
theorem zI_add (a b : Int) : zI a + zI b = zI (a + b) := (Int32.ofInt_add ..).symm
theorem zI_sub (a b : Int) : zI a - zI b = zI (a - b) := (Int32.ofInt_sub ..).symm
theorem zI_toInt {z : Int} (h : -2147483648 ≤ z ∧ z < 2147483648) : (zI z).toInt = z := Int32.toInt_ofInt_of_le (by omega) (by omega)
theorem zI_lt {a b : Int} (ha : -2147483648 ≤ a ∧ a < 2147483648) (hb : -2147483648 ≤ b ∧ b < 2147483648) : zI a < zI b ↔ a < b := by
  rw [Int32.lt_iff_toInt_lt, zI_toInt ha, zI_toInt hb]
theorem zI_le {a b : Int} (ha : -2147483648 ≤ a ∧ a < 2147483648) (hb : -2147483648 ≤ b ∧ b < 2147483648) : zI a ≤ zI b ↔ a ≤ b := by
  rw [Int32.le_iff_toInt_le, zI_toInt ha, zI_toInt hb]
theorem zI_eq {a b : Int} (ha : -2147483648 ≤ a ∧ a < 2147483648) (hb : -2147483648 ≤ b ∧ b < 2147483648) : zI a = zI b ↔ a = b := by
  rw [← Int32.toInt_inj, zI_toInt ha, zI_toInt hb]
theorem zI_0 : zI 0 = 0 := rfl
theorem zI_nat (n : Nat) : zI (n : Int) = nI n := Int32.ofInt_eq_ofNat
theorem zI_cl {z : Int} (h : 0 ≤ z ∧ z < 2147483648) : (zI z).toNatClampNeg = z.toNat := by
  show (zI z).toInt.toNat = _
  rw [zI_toInt (by omega)]
theorem zI_in {z : Int} {n : Nat} (h : 0 ≤ z ∧ z < (n : Int)) (hn : n < 2147483648) : vp_in (zI z) n := by
  rw [vp_in_iff, zI_toInt (by omega)]
  exact h
theorem zI_div2 {a : Int} (h : 0 ≤ a ∧ a < 2147483648) : zI a / zI 2 = zI (a / 2) := by
  obtain ⟨n, rfl⟩ : ∃ n : Nat, a = (n : Int) := ⟨a.toNat, by omega⟩
  have e : ((n : Int) / 2) = ((n / 2 : Nat) : Int) := by omega
  have e2 : zI 2 = nI 2 := zI_nat 2
  rw [e, zI_nat, zI_nat, e2]
  exact pk_div (by omega) (by omega) (by omega)
theorem zI_ushr1 {a : Int} (h : 0 ≤ a ∧ a < 2147483648) : ((zI a).toUInt32 >>> ((zI 1).toUInt32 &&& Int32.toUInt32 31)).toInt32 = zI (a / 2) := by
  obtain ⟨n, rfl⟩ : ∃ n : Nat, a = (n : Int) := ⟨a.toNat, by omega⟩
  have e : ((n : Int) / 2) = ((n / 2 ^ 1 : Nat) : Int) := by omega
  rw [e, zI_nat, zI_nat]
  exact pk_ushrN (by omega) (zI 1) 1 (by decide)
section SSZ
variable {p : Program} {l : Launch} {e : Env} {R : Room} {s : State} {m : MethodId} {args : Array Value} {below : List Frame} {meth : Method} {c : Code} {H : Heap} {locs : List Loc} {cells slots : Nat} {Q : State → Prop}
variable {cc : ByteArray} {pc : Nat} {ls : Array Slot} {rest : List Value}
/-- a number under another spelling -/
theorem zv_top {a b : Int} (h : a = b) (k : W p l e R s m args below meth c H locs cells slots Q (F0 m pc ls (.int (zI b) :: rest))) : W p l e R s m args below meth c H locs cells slots Q (F0 m pc ls (.int (zI a) :: rest)) := by
  rw [h]; exact k
theorem zv_iadd (hexec : p.tables.exec = Jvm.exec) (hb : c.code = cc) {a b : Int} (hdg : decode cc pc = .ok (.iadd, 1)) (k : W p l e R s m args below meth c H locs cells slots Q (F0 m (pc + 1) ls (.int (zI (a + b)) :: rest))) : W p l e R s m args below meth c H locs cells slots Q (F0 m pc ls (.int (zI b) :: .int (zI a) :: rest)) :=
  lv_iadd hexec hb hdg (by rw [zI_add]; exact k)
theorem zv_isub (hexec : p.tables.exec = Jvm.exec) (hb : c.code = cc) {a b : Int} (hdg : decode cc pc = .ok (.isub, 1)) (k : W p l e R s m args below meth c H locs cells slots Q (F0 m (pc + 1) ls (.int (zI (a - b)) :: rest))) : W p l e R s m args below meth c H locs cells slots Q (F0 m pc ls (.int (zI b) :: .int (zI a) :: rest)) :=
  lv_isub hexec hb hdg (by rw [zI_sub]; exact k)
theorem zv_idiv2 (hexec : p.tables.exec = Jvm.exec) (hb : c.code = cc) {a : Int} (hdg : decode cc pc = .ok (.idiv, 1)) (ha : 0 ≤ a ∧ a < 2147483648) (k : W p l e R s m args below meth c H locs cells slots Q (F0 m (pc + 1) ls (.int (zI (a / 2)) :: rest))) : W p l e R s m args below meth c H locs cells slots Q (F0 m pc ls (.int (zI 2) :: .int (zI a) :: rest)) :=
  lv_idiv hexec hb hdg (by decide) (by rw [zI_div2 ha]; exact k)
theorem zv_iushr1 (hexec : p.tables.exec = Jvm.exec) (hb : c.code = cc) {a : Int} (hdg : decode cc pc = .ok (.iushr, 1)) (ha : 0 ≤ a ∧ a < 2147483648) (k : W p l e R s m args below meth c H locs cells slots Q (F0 m (pc + 1) ls (.int (zI (a / 2)) :: rest))) : W p l e R s m args below meth c H locs cells slots Q (F0 m pc ls (.int (zI 1) :: .int (zI a) :: rest)) :=
  lv_iushr hexec hb hdg (zI_ushr1 ha) k
theorem zv_iinc (hexec : p.tables.exec = Jvm.exec) (hb : c.code = cc) {i nL k : Nat} {n : Int} {a b : Int} {lv lv' : List (Nat × Value)} (hdg : decode cc pc = .ok (.iinc i n, 3)) (h : lv_has ls nL lv) (hk : lv[k]? = some (i, .int (zI a))) (hv : a + n = b) (hn : i < nL) (hl : (i, Value.int (zI b)) :: lv.filter (fun q => !(q.1 == i) && !(q.1 + 1 == i && q.2.category == 2)) = lv')
    (kk : ∀ ls' : Array Slot, lv_has ls' nL lv' → W p l e R s m args below meth c H locs cells slots Q (F0 m (pc + 3) ls' rest)) : W p l e R s m args below meth c H locs cells slots Q (F0 m pc ls rest) :=
  lv_iinc (v := zI b) hexec hb hdg h hk (by rw [← hv]; exact zI_add a n) hn hl kk
theorem zv_icmp_eq (hexec : p.tables.exec = Jvm.exec) (hb : c.code = cc) {a b : Int} {off : Int} {tgt : Nat} (hdg : decode cc pc = .ok (.if_icmp .eq off, 3)) (ht : (pc : Int) + off = (tgt : Int)) (ha : -2147483648 ≤ a ∧ a < 2147483648) (hb2 : -2147483648 ≤ b ∧ b < 2147483648)
    (kt : a = b → W p l e R s m args below meth c H locs cells slots Q (F0 m tgt ls rest)) (kf : ¬ a = b → W p l e R s m args below meth c H locs cells slots Q (F0 m (pc + 3) ls rest)) : W p l e R s m args below meth c H locs cells slots Q (F0 m pc ls (.int (zI b) :: .int (zI a) :: rest)) :=
  lv_icmp_eq hexec hb hdg ht (fun q => kt ((zI_eq ha hb2).mp q)) (fun q => kf (fun h => q ((zI_eq ha hb2).mpr h)))
theorem zv_if_eq (hexec : p.tables.exec = Jvm.exec) (hb : c.code = cc) {a : Int} {off : Int} {tgt : Nat} (hdg : decode cc pc = .ok (.ifCond .eq off, 3)) (ht : (pc : Int) + off = (tgt : Int)) (ha : -2147483648 ≤ a ∧ a < 2147483648)
    (kt : a = 0 → W p l e R s m args below meth c H locs cells slots Q (F0 m tgt ls rest)) (kf : ¬ a = 0 → W p l e R s m args below meth c H locs cells slots Q (F0 m (pc + 3) ls rest)) : W p l e R s m args below meth c H locs cells slots Q (F0 m pc ls (.int (zI a) :: rest)) :=
  have z0 : -2147483648 ≤ (0 : Int) ∧ (0 : Int) < 2147483648 := by omega
  lv_if_eq hexec hb hdg ht (fun q => kt ((zI_eq ha z0).mp q)) (fun q => kf (fun h => q ((zI_eq ha z0).mpr h)))
theorem zv_icmp_ne (hexec : p.tables.exec = Jvm.exec) (hb : c.code = cc) {a b : Int} {off : Int} {tgt : Nat} (hdg : decode cc pc = .ok (.if_icmp .ne off, 3)) (ht : (pc : Int) + off = (tgt : Int)) (ha : -2147483648 ≤ a ∧ a < 2147483648) (hb2 : -2147483648 ≤ b ∧ b < 2147483648)
    (kt : ¬ a = b → W p l e R s m args below meth c H locs cells slots Q (F0 m tgt ls rest)) (kf : a = b → W p l e R s m args below meth c H locs cells slots Q (F0 m (pc + 3) ls rest)) : W p l e R s m args below meth c H locs cells slots Q (F0 m pc ls (.int (zI b) :: .int (zI a) :: rest)) :=
  lv_icmp_ne hexec hb hdg ht (fun q => kt (fun h => q ((zI_eq ha hb2).mpr h))) (fun q => kf ((zI_eq ha hb2).mp q))
theorem zv_if_ne (hexec : p.tables.exec = Jvm.exec) (hb : c.code = cc) {a : Int} {off : Int} {tgt : Nat} (hdg : decode cc pc = .ok (.ifCond .ne off, 3)) (ht : (pc : Int) + off = (tgt : Int)) (ha : -2147483648 ≤ a ∧ a < 2147483648)
    (kt : ¬ a = 0 → W p l e R s m args below meth c H locs cells slots Q (F0 m tgt ls rest)) (kf : a = 0 → W p l e R s m args below meth c H locs cells slots Q (F0 m (pc + 3) ls rest)) : W p l e R s m args below meth c H locs cells slots Q (F0 m pc ls (.int (zI a) :: rest)) :=
  have z0 : -2147483648 ≤ (0 : Int) ∧ (0 : Int) < 2147483648 := by omega
  lv_if_ne hexec hb hdg ht (fun q => kt (fun h => q ((zI_eq ha z0).mpr h))) (fun q => kf ((zI_eq ha z0).mp q))
theorem zv_icmp_lt (hexec : p.tables.exec = Jvm.exec) (hb : c.code = cc) {a b : Int} {off : Int} {tgt : Nat} (hdg : decode cc pc = .ok (.if_icmp .lt off, 3)) (ht : (pc : Int) + off = (tgt : Int)) (ha : -2147483648 ≤ a ∧ a < 2147483648) (hb2 : -2147483648 ≤ b ∧ b < 2147483648)
    (kt : a < b → W p l e R s m args below meth c H locs cells slots Q (F0 m tgt ls rest)) (kf : ¬ a < b → W p l e R s m args below meth c H locs cells slots Q (F0 m (pc + 3) ls rest)) : W p l e R s m args below meth c H locs cells slots Q (F0 m pc ls (.int (zI b) :: .int (zI a) :: rest)) :=
  lv_icmp_lt hexec hb hdg ht (fun q => kt ((zI_lt ha hb2).mp q)) (fun q => kf (fun h => q ((zI_lt ha hb2).mpr h)))
theorem zv_if_lt (hexec : p.tables.exec = Jvm.exec) (hb : c.code = cc) {a : Int} {off : Int} {tgt : Nat} (hdg : decode cc pc = .ok (.ifCond .lt off, 3)) (ht : (pc : Int) + off = (tgt : Int)) (ha : -2147483648 ≤ a ∧ a < 2147483648)
    (kt : a < 0 → W p l e R s m args below meth c H locs cells slots Q (F0 m tgt ls rest)) (kf : ¬ a < 0 → W p l e R s m args below meth c H locs cells slots Q (F0 m (pc + 3) ls rest)) : W p l e R s m args below meth c H locs cells slots Q (F0 m pc ls (.int (zI a) :: rest)) :=
  have z0 : -2147483648 ≤ (0 : Int) ∧ (0 : Int) < 2147483648 := by omega
  lv_if_lt hexec hb hdg ht (fun q => kt ((zI_lt ha z0).mp q)) (fun q => kf (fun h => q ((zI_lt ha z0).mpr h)))
theorem zv_icmp_ge (hexec : p.tables.exec = Jvm.exec) (hb : c.code = cc) {a b : Int} {off : Int} {tgt : Nat} (hdg : decode cc pc = .ok (.if_icmp .ge off, 3)) (ht : (pc : Int) + off = (tgt : Int)) (ha : -2147483648 ≤ a ∧ a < 2147483648) (hb2 : -2147483648 ≤ b ∧ b < 2147483648)
    (kt : b ≤ a → W p l e R s m args below meth c H locs cells slots Q (F0 m tgt ls rest)) (kf : ¬ b ≤ a → W p l e R s m args below meth c H locs cells slots Q (F0 m (pc + 3) ls rest)) : W p l e R s m args below meth c H locs cells slots Q (F0 m pc ls (.int (zI b) :: .int (zI a) :: rest)) :=
  lv_icmp_ge hexec hb hdg ht (fun q => kt ((zI_le hb2 ha).mp q)) (fun q => kf (fun h => q ((zI_le hb2 ha).mpr h)))
theorem zv_if_ge (hexec : p.tables.exec = Jvm.exec) (hb : c.code = cc) {a : Int} {off : Int} {tgt : Nat} (hdg : decode cc pc = .ok (.ifCond .ge off, 3)) (ht : (pc : Int) + off = (tgt : Int)) (ha : -2147483648 ≤ a ∧ a < 2147483648)
    (kt : 0 ≤ a → W p l e R s m args below meth c H locs cells slots Q (F0 m tgt ls rest)) (kf : ¬ 0 ≤ a → W p l e R s m args below meth c H locs cells slots Q (F0 m (pc + 3) ls rest)) : W p l e R s m args below meth c H locs cells slots Q (F0 m pc ls (.int (zI a) :: rest)) :=
  have z0 : -2147483648 ≤ (0 : Int) ∧ (0 : Int) < 2147483648 := by omega
  lv_if_ge hexec hb hdg ht (fun q => kt ((zI_le z0 ha).mp q)) (fun q => kf (fun h => q ((zI_le z0 ha).mpr h)))
theorem zv_icmp_gt (hexec : p.tables.exec = Jvm.exec) (hb : c.code = cc) {a b : Int} {off : Int} {tgt : Nat} (hdg : decode cc pc = .ok (.if_icmp .gt off, 3)) (ht : (pc : Int) + off = (tgt : Int)) (ha : -2147483648 ≤ a ∧ a < 2147483648) (hb2 : -2147483648 ≤ b ∧ b < 2147483648)
    (kt : b < a → W p l e R s m args below meth c H locs cells slots Q (F0 m tgt ls rest)) (kf : ¬ b < a → W p l e R s m args below meth c H locs cells slots Q (F0 m (pc + 3) ls rest)) : W p l e R s m args below meth c H locs cells slots Q (F0 m pc ls (.int (zI b) :: .int (zI a) :: rest)) :=
  lv_icmp_gt hexec hb hdg ht (fun q => kt ((zI_lt hb2 ha).mp q)) (fun q => kf (fun h => q ((zI_lt hb2 ha).mpr h)))
theorem zv_if_gt (hexec : p.tables.exec = Jvm.exec) (hb : c.code = cc) {a : Int} {off : Int} {tgt : Nat} (hdg : decode cc pc = .ok (.ifCond .gt off, 3)) (ht : (pc : Int) + off = (tgt : Int)) (ha : -2147483648 ≤ a ∧ a < 2147483648)
    (kt : 0 < a → W p l e R s m args below meth c H locs cells slots Q (F0 m tgt ls rest)) (kf : ¬ 0 < a → W p l e R s m args below meth c H locs cells slots Q (F0 m (pc + 3) ls rest)) : W p l e R s m args below meth c H locs cells slots Q (F0 m pc ls (.int (zI a) :: rest)) :=
  have z0 : -2147483648 ≤ (0 : Int) ∧ (0 : Int) < 2147483648 := by omega
  lv_if_gt hexec hb hdg ht (fun q => kt ((zI_lt z0 ha).mp q)) (fun q => kf (fun h => q ((zI_lt z0 ha).mpr h)))
theorem zv_icmp_le (hexec : p.tables.exec = Jvm.exec) (hb : c.code = cc) {a b : Int} {off : Int} {tgt : Nat} (hdg : decode cc pc = .ok (.if_icmp .le off, 3)) (ht : (pc : Int) + off = (tgt : Int)) (ha : -2147483648 ≤ a ∧ a < 2147483648) (hb2 : -2147483648 ≤ b ∧ b < 2147483648)
    (kt : a ≤ b → W p l e R s m args below meth c H locs cells slots Q (F0 m tgt ls rest)) (kf : ¬ a ≤ b → W p l e R s m args below meth c H locs cells slots Q (F0 m (pc + 3) ls rest)) : W p l e R s m args below meth c H locs cells slots Q (F0 m pc ls (.int (zI b) :: .int (zI a) :: rest)) :=
  lv_icmp_le hexec hb hdg ht (fun q => kt ((zI_le ha hb2).mp q)) (fun q => kf (fun h => q ((zI_le ha hb2).mpr h)))
theorem zv_if_le (hexec : p.tables.exec = Jvm.exec) (hb : c.code = cc) {a : Int} {off : Int} {tgt : Nat} (hdg : decode cc pc = .ok (.ifCond .le off, 3)) (ht : (pc : Int) + off = (tgt : Int)) (ha : -2147483648 ≤ a ∧ a < 2147483648)
    (kt : a ≤ 0 → W p l e R s m args below meth c H locs cells slots Q (F0 m tgt ls rest)) (kf : ¬ a ≤ 0 → W p l e R s m args below meth c H locs cells slots Q (F0 m (pc + 3) ls rest)) : W p l e R s m args below meth c H locs cells slots Q (F0 m pc ls (.int (zI a) :: rest)) :=
  have z0 : -2147483648 ≤ (0 : Int) ∧ (0 : Int) < 2147483648 := by omega
  lv_if_le hexec hb hdg ht (fun q => kt ((zI_le ha z0).mp q)) (fun q => kf (fun h => q ((zI_le ha z0).mpr h)))
end SSZ
end
section
/-! BASE 2: the key array of two rows of ints; the cells of desk and model; what a contract starts and ends with -/
/-- the pair at a place as one number, in the order of pairs -/
def ky (F G : Nat → Int32) : Int → Int := fun z => if 0 ≤ z then (F z.toNat).toInt * 4294967296 + (G z.toNat).toInt else 0
theorem ky_at {F G : Nat → Int32} {z : Int} (h : 0 ≤ z) : ky F G z = (F z.toNat).toInt * 4294967296 + (G z.toNat).toInt := by simp [ky, h]
theorem ky_rng (v : Int32) : -2147483648 ≤ v.toInt ∧ v.toInt < 2147483648 := ⟨Int32.le_toInt v, Int32.toInt_lt v⟩
theorem ky_inj {F G F2 G2 : Nat → Int32} {z : Int} (h : 0 ≤ z) (e : ky F G z = ky F2 G2 z) : F z.toNat = F2 z.toNat ∧ G z.toNat = G2 z.toNat := by
  rw [ky_at h, ky_at h] at e
  have h1 := ky_rng (F z.toNat)
  have h2 := ky_rng (G z.toNat)
  have h3 := ky_rng (F2 z.toNat)
  have h4 := ky_rng (G2 z.toNat)
  exact ⟨Int32.toInt_inj.mp (by omega), Int32.toInt_inj.mp (by omega)⟩
theorem ky_ext {F G F2 G2 : Nat → Int32} {z : Int} (h : F z.toNat = F2 z.toNat ∧ G z.toNat = G2 z.toNat) : ky F G z = ky F2 G2 z := by
  simp [ky, h.1, h.2]
/-- two exchanges of ints are one exchange of pairs -/
theorem ky_sw {F G : Nat → Int32} {i j : Int} (hi : 0 ≤ i) (hj : 0 ≤ j) : ky (upd (upd F i.toNat (F j.toNat)) j.toNat (F i.toNat)) (upd (upd G i.toNat (G j.toNat)) j.toNat (G i.toNat)) = ss_sw (ky F G) i j := by
  funext z
  by_cases hz : 0 ≤ z
  · by_cases h1 : z = j
    · subst h1
      rw [ss_sw_r, ky_at hz, ky_at hi]
      simp [upd]
    · have n1 : z.toNat ≠ j.toNat := by omega
      by_cases h2 : z = i
      · subst h2
        rw [ss_sw_l, ky_at hz, ky_at hj]
        simp [upd, n1]
      · have n2 : z.toNat ≠ i.toNat := by omega
        rw [ss_sw_o h2 h1, ky_at hz, ky_at hz]
        simp [upd, n1, n2]
  · rw [ss_sw_o (by omega) (by omega)]
    simp [ky, hz]
/-- what compare answers -/
def cm (z p q : Int) : Prop := (z = -1 ∧ p < q) ∨ (z = 0 ∧ p = q) ∨ (z = 1 ∧ q < p)
abbrev cls9 : List vw_C := [(RX0, TX0, 3), (RX1, TX1, 1), (RX2, TX2, 2)]
abbrev wdk (dA : ClassId) (x r fa ga : Nat) (F G : Nat → Int32) : va_W := [(x, .inr (0, [.ref fa, .ref ga, .ref r])), (r, .inr (1, [.ref x])), (fa, .inl (dA, 48, .inl F)), (ga, .inl (dA, 48, .inl G))]
abbrev wmd (dA : ClassId) (y fb gb : Nat) (F G : Nat → Int32) : va_W := [(y, .inr (2, [.ref fb, .ref gb])), (fb, .inl (dA, 48, .inl F)), (gb, .inl (dA, 48, .inl G))]
abbrev xcmp : MethodName := ⟨"IntComparator", "compare", "(II)I"⟩
abbrev xswp : MethodName := ⟨"Swapper", "swap", "(II)V"⟩
/-- the words of the tables that no list of words carries -/
def Xw (U : State) : Prop := va_Fw RX1 xcmp yX1_compare U ∧ va_Fw RX1 xswp yX1_swap U ∧ va_Nw (.fieldLinkNest RX1 13 RX0 "first" "[I" RX0) U ∧ va_Nw (.fieldLinkNest RX1 19 RX0 "second" "[I" RX0) U ∧ va_Nw (.methodLinkNest RX0 18 yX1_init RX0) U
theorem Xw.warm {u U : State} (hW : u.WarmedH U.vm) (h : Xw u) : Xw U :=
  ⟨va_Fw.moved ⟨by decide, by decide⟩ hW.alike h.1, va_Fw.moved ⟨by decide, by decide⟩ hW.alike h.2.1, va_Nw.warmF hW h.2.2.1, va_Nw.warmF hW h.2.2.2.1, va_Nw.warmM hW h.2.2.2.2⟩
theorem Xw.same {u U : State} (e : u.vm = U.vm) (h : Xw u) : Xw U :=
  ⟨va_Fw.moved ⟨by decide, by decide⟩ (by rw [e]; exact Vm.Alike.refl _) h.1, va_Fw.moved ⟨by decide, by decide⟩ (by rw [e]; exact Vm.Alike.refl _) h.2.1, va_Nw.same rfl e h.2.2.1, va_Nw.same rfl e h.2.2.2.1, va_Nw.same rfl e h.2.2.2.2⟩
/-- the addresses of the desk's cells, and all new ones -/
def Af (x r fa ga sz : Nat) : Nat → Prop := fun q => q = x ∨ q = r ∨ q = fa ∨ q = ga ∨ sz ≤ q
theorem Af.of {dA : ClassId} {x r fa ga sz q : Nat} {F G : Nat → Int32} (h : va_A (wdk dA x r fa ga F G) sz q) : Af x r fa ga sz q := by
  rcases h with ⟨k, e, h⟩ | h
  · match k, h with
    | 0, h => cases h; exact Or.inl rfl
    | 1, h => cases h; exact Or.inr (Or.inl rfl)
    | 2, h => cases h; exact Or.inr (Or.inr (Or.inl rfl))
    | 3, h => cases h; exact Or.inr (Or.inr (Or.inr (Or.inl rfl)))
    | k + 4, h => simp at h
  · exact Or.inr (Or.inr (Or.inr (Or.inr h)))
theorem Af.to {dA : ClassId} {x r fa ga sz q : Nat} {F G : Nat → Int32} (h : Af x r fa ga sz q) : va_A (wdk dA x r fa ga F G) sz q := by
  rcases h with h | h | h | h | h
  · exact Or.inl ⟨0, _, by rw [h]; rfl⟩
  · exact Or.inl ⟨1, _, by rw [h]; rfl⟩
  · exact Or.inl ⟨2, _, by rw [h]; rfl⟩
  · exact Or.inl ⟨3, _, by rw [h]; rfl⟩
  · exact Or.inr h
theorem wdk_D {A : Nat → Prop} {dA : ClassId} {x r fa ga : Nat} {F G F2 G2 : Nat → Int32} (h : va_D A (wdk dA x r fa ga F G)) : va_D A (wdk dA x r fa ga F2 G2) := by
  have key : ∀ (k : Nat) (q : Nat × va_E), (wdk dA x r fa ga F2 G2)[k]? = some q → ∃ q2, (wdk dA x r fa ga F G)[k]? = some q2 ∧ q2.1 = q.1 := by
    intro k q hk
    match k, hk with
    | 0, hk => cases hk; exact ⟨_, rfl, rfl⟩
    | 1, hk => cases hk; exact ⟨_, rfl, rfl⟩
    | 2, hk => cases hk; exact ⟨_, rfl, rfl⟩
    | 3, hk => cases hk; exact ⟨_, rfl, rfl⟩
    | k + 4, hk => simp at hk
  refine ⟨fun i j p q hp hq e => ?_, fun k q hk => ?_⟩
  · obtain ⟨p2, g1, g2⟩ := key i p hp
    obtain ⟨q2, g3, g4⟩ := key j q hq
    exact h.1 i j p2 q2 g1 g3 (by rw [g2, g4]; exact e)
  · obtain ⟨q2, g1, g2⟩ := key k q hk
    rw [← g2]; exact h.2 k q2 g1
/-- a contract's start, by the rows -/
def Stk (D : va_G) (dA : ClassId) (x r fa ga sz : Nat) (F G : Nat → Int32) (U : State) : Prop := U.heap.size = sz ∧ va_P D cls9 (wdk dA x r fa ga F G) U.heap ∧ va_K D cls9 [(dA, .int)] U ∧ va_D (fun _ => True) (wdk dA x r fa ga F G) ∧ Xw U
/-- .. by the key array -/
def Sta (D : va_G) (dA : ClassId) (x r fa ga sz : Nat) (a : Int → Int) (U : State) : Prop := ∃ F G, ky F G = a ∧ Stk D dA x r fa ga sz F G U
def Bta (D : va_G) (dA : ClassId) (x r fa ga : Nat) (a : Int → Int) (t : State) : Prop := ∃ F G, ky F G = a ∧ va_P D cls9 (wdk dA x r fa ga F G) t.heap
/-- the world in a method -/
def Wa (D : va_G) (dA : ClassId) (x r fa ga : Nat) (s : State) (a : Int → Int) (H : Heap) (locs : List Loc) : Prop := ∃ F G, ky F G = a ∧ va_P D cls9 (wdk dA x r fa ga F G) H ∧ va_D (Af x r fa ga s.heap.size) (wdk dA x r fa ga F G) ∧ va_S (Af x r fa ga s.heap.size) s.heap H locs
theorem Stk.call {D : va_G} {dA : ClassId} {x r fa ga sz : Nat} {F G : Nat → Int32} {U : State} {g : JFrame} {mk : MethodId} {v : Array Value} (h : Stk D dA x r fa ga sz F G U) : Stk D dA x r fa ga sz F G (U.calling g mk v) :=
  ⟨h.1, h.2.1, va_K.moved (u := U) (U := U.calling g mk v) (Vm.Alike.refl U.vm) h.2.2.1, h.2.2.2.1, Xw.same rfl h.2.2.2.2⟩
theorem Sta.blind {D : va_G} {dA : ClassId} {x r fa ga sz : Nat} {a : Int → Int} {av : List Value} : FrameBlind (va_Pc av (Sta D dA x r fa ga sz a)) := by
  intro v U g mk q
  obtain ⟨q0, F, G, e, h⟩ := q
  exact ⟨q0, F, G, e, h.call⟩
theorem Stk.at {D : va_G} {dA : ClassId} {x r fa ga : Nat} {F G : Nat → Int32} {s U : State} {H : Heap} {A : Nat → Prop} (hK : va_K D cls9 [(dA, .int)] s) (hX : Xw s) (hP : va_P D cls9 (wdk dA x r fa ga F G) H) (hD : va_D A (wdk dA x r fa ga F G)) (hU : U.heap = H) (hW : s.WarmedH U.vm) : Stk D dA x r fa ga H.size F G U :=
  ⟨by rw [hU], by rw [hU]; exact hP, va_K.moved hW.alike hK, hD.weaken (fun _ _ _ _ => trivial), hX.warm hW⟩
abbrev MetV (l : Launch) (D : va_G) (dA : ClassId) (x r fa ga : Nat) (y : MethodName) (b : ByteArray) (n : Nat) (rm : Room) (As : List Value) (a : Int → Int) (post : (Int → Int) → Prop) : Prop := ∀ sz : Nat, Met l y (ws_ y b n none) rm (va_Pc As (Sta D dA x r fa ga sz a)) (va_Qv post (Bta D dA x r fa ga) (Af x r fa ga sz)) 0 0 (Af x r fa ga sz)
abbrev MetI (l : Launch) (D : va_G) (dA : ClassId) (x r fa ga : Nat) (y : MethodName) (b : ByteArray) (n : Nat) (rm : Room) (As : List Value) (a : Int → Int) (post : Int → (Int → Int) → Prop) : Prop := ∀ sz : Nat, Met l y (ws_ y b n (some .int)) rm (va_Pc As (Sta D dA x r fa ga sz a)) (va_Qi (fun v u => ∃ z, v = zI z ∧ post z u) (Bta D dA x r fa ga) (Af x r fa ga sz)) 0 0 (Af x r fa ga sz)
/-- what stays all through a method -/
def Cx (p : Program) (m : MethodId) (c : Code) (s : State) (args : Array Value) (cc : ByteArray) (nL : Nat) (own : String) (D : va_G) (dA : ClassId) : Prop := CallFix p m c cc nL s args lw_all own ∧ va_K D cls9 [(dA, .int)] s ∧ Xw s
section SSW
variable {p : Program} {l : Launch} {e : Env} {R : Room} {s : State} {m : MethodId} {args : Array Value} {below : List Frame} {meth : Method} {c : Code} {H : Heap} {locs : List Loc} {cells slots : Nat} {Q : State → Prop}
variable {cc : ByteArray} {pc nL : Nat} {ls : Array Slot} {rest : List Value} {D : va_G} {dA : ClassId} {x r fa ga : Nat} {a : Int → Int} {own : String}
theorem Cx.ex (C : Cx p m c s args cc nL own D dA) : p.tables.exec = Jvm.exec := C.1.1
theorem Cx.by_ (C : Cx p m c s args cc nL own D dA) : c.code = cc := C.1.2.1
theorem Cx.ml (C : Cx p m c s args cc nL own D dA) : c.maxLocals = nL := C.1.2.2.1
theorem Cx.ow (C : Cx p m c s args cc nL own D dA) : s.vm.findClass own = some m.cls := C.1.2.2.2.1
theorem Cx.ts (C : Cx p m c s args cc nL own D dA) : ∀ w ∈ lw_all, w.before args s = true := C.1.2.2.2.2
theorem Cx.of {y : MethodName} {ret : Option FieldType} {rm : Room} {s1 : State} (B : BodyLoose p l y (headSpec (ws_ y cc nL ret) rm) cc nL ret e s m args below meth c s1) (hml : c.maxLocals = nL) (hK : va_K D cls9 [(dA, .int)] s) (hX : Xw s) : Cx p m c s args cc nL y.cls D dA := by
  have hts := atoms_spec (ws := ws_ y cc nL ret) B.pre
  exact ⟨⟨B.exec, B.bytes, hml, findClass_of_methodNamed B.named, fun w h => hts w (List.mem_cons_of_mem _ h)⟩, hK, hX⟩
theorem Wa.of {F G : Nat → Int32} (hP : va_P D cls9 (wdk dA x r fa ga F G) s.heap) (hD : va_D (fun _ => True) (wdk dA x r fa ga F G)) : Wa D dA x r fa ga s (ky F G) s.heap [] :=
  ⟨F, G, rfl, hP, (hD.self (sz := s.heap.size)).weaken (fun _ _ _ h => Af.of h), va_S.rf⟩
/-- a contract's entry: what stays, and the world -/
theorem ss_in {y : MethodName} {ret : Option FieldType} {rm : Room} {s1 : State} {sz : Nat} (B : BodyLoose p l y (headSpec (ws_ y cc nL ret) rm) cc nL ret e s m args below meth c s1) (hml : c.maxLocals = nL) (hv : Sta D dA x r fa ga sz a s) : Cx p m c s args cc nL y.cls D dA ∧ Wa D dA x r fa ga s a s.heap [] ∧ s.heap.size = sz := by
  obtain ⟨F, G, rfl, h1, h2, h3, h4, h5⟩ := hv
  exact ⟨Cx.of B hml h3 h5, Wa.of h2 h4, h1⟩
theorem ss_start {n : Nat} {As : List Value} {lv : List (Nat × Value)} (hn : (lg_sl As).length ≤ n) (hl : lv_args 0 As = lv) (kk : ∀ ls : Array Slot, lv_has ls n lv → W p l e R s m args below meth c H locs cells slots Q (F0 m 0 ls [])) : W p l e R s m args below meth c H locs cells slots Q (entryFrame m As.toArray n) := by
  subst hl
  rw [lg_entry_eq]
  exact kk _ (lv_entry As hn)
theorem Af.le {sz sz2 q : Nat} (h : sz ≤ sz2) (hq : Af x r fa ga sz2 q) : Af x r fa ga sz q := by
  rcases hq with h1 | h1 | h1 | h1 | h1
  · exact Or.inl h1
  · exact Or.inr (Or.inl h1)
  · exact Or.inr (Or.inr (Or.inl h1))
  · exact Or.inr (Or.inr (Or.inr (Or.inl h1)))
  · exact Or.inr (Or.inr (Or.inr (Or.inr (Nat.le_trans h h1))))
/-- a static call, no answer -/
theorem ss_callv {y : MethodName} {b : ByteArray} {n index : Nat} {rm : Room} {As st0 : List Value} {post : (Int → Int) → Prop} (C : Cx p m c s args cc nL own D dA) (h : Wa D dA x r fa ga s a H locs) (hM : MetV l D dA x r fa ga y b n rm As a post)
    (cw : CallB R s args own index y b n none (ws_ y b n none) rm 0 0 As.length ∧ (Cond.static y).before args s = true) (hst : st0 = As.reverse ++ rest) (hl : ls.size = nL) (hW : (rest.map fun v => v.category).sum ≤ 8) (hf : cells ≤ R.cells ∧ slots ≤ R.slots) (hdg : decode cc pc = .ok (.invokestatic index, 3))
    (kk : ∀ (u : Int → Int) (H1 : Heap) (locs1 : List Loc), post u → Wa D dA x r fa ga s u H1 locs1 → W p l e R s m args below meth c H1 locs1 cells slots Q (F0 m (pc + 3) ls rest)) : W p l e R s m args below meth c H locs cells slots Q (F0 m pc ls st0) := by
  obtain ⟨F, G, e0, hP, hD, hS⟩ := h
  subst e0
  have hsub : ∀ q, Af x r fa ga H.size q → Af x r fa ga s.heap.size q := fun q => Af.le hS.1
  refine va_callv (va_runS (As := As) (rest := rest) C.1 (hM H.size) cw ⟨Sta.blind, fun U hU hW => ⟨rfl, F, G, rfl, Stk.at C.2.1 C.2.2 hP hD hU hW⟩⟩ rfl rfl hl hst (by show 2 * 0 + _ ≤ 8; omega) hdg ⟨hf.1, hf.2⟩) hS (fun q _ h => hsub q h) hsub (fun u t H1 locs1 ht hvm hp hB hz hk hS1 => ?_)
  obtain ⟨F2, G2, e2, hP2⟩ := hB
  exact kk u H1 locs1 hp ⟨F2, G2, e2, by rw [← ht]; exact hP2, wdk_D hD, hS1⟩
/-- a static call that answers an int -/
theorem ss_calli {y : MethodName} {b : ByteArray} {n index : Nat} {rm : Room} {As st0 : List Value} {post : Int → (Int → Int) → Prop} (C : Cx p m c s args cc nL own D dA) (h : Wa D dA x r fa ga s a H locs) (hM : MetI l D dA x r fa ga y b n rm As a post)
    (cw : CallB R s args own index y b n (some .int) (ws_ y b n (some .int)) rm 0 0 As.length ∧ (Cond.static y).before args s = true) (hst : st0 = As.reverse ++ rest) (hl : ls.size = nL) (hW : (rest.map fun v => v.category).sum ≤ 8) (hf : cells ≤ R.cells ∧ slots ≤ R.slots) (hdg : decode cc pc = .ok (.invokestatic index, 3))
    (kk : ∀ (z : Int) (u : Int → Int) (H1 : Heap) (locs1 : List Loc), post z u → Wa D dA x r fa ga s u H1 locs1 → W p l e R s m args below meth c H1 locs1 cells slots Q (F0 m (pc + 3) ls (.int (zI z) :: rest))) : W p l e R s m args below meth c H locs cells slots Q (F0 m pc ls st0) := by
  obtain ⟨F, G, e0, hP, hD, hS⟩ := h
  subst e0
  have hsub : ∀ q, Af x r fa ga H.size q → Af x r fa ga s.heap.size q := fun q => Af.le hS.1
  refine va_calli (va_runS (As := As) (rest := rest) C.1 (hM H.size) cw ⟨Sta.blind, fun U hU hW => ⟨rfl, F, G, rfl, Stk.at C.2.1 C.2.2 hP hD hU hW⟩⟩ rfl rfl hl hst (by show 2 * 0 + _ ≤ 8; omega) hdg ⟨hf.1, hf.2⟩) hS (fun q _ h => hsub q h) hsub (fun v u t H1 locs1 ht hvm hp hB hz hk hS1 => ?_)
  obtain ⟨F2, G2, e2, hP2⟩ := hB
  obtain ⟨z, hz2, hp⟩ := hp
  subst hz2
  exact kk z u H1 locs1 hp ⟨F2, G2, e2, by rw [← ht]; exact hP2, wdk_D hD, hS1⟩
theorem ss_vret {post : (Int → Int) → Prop} (C : Cx p m c s args cc nL own D dA) (hr : meth.sig.returnType = none) (hlocks : meth.locks = false) (h : Wa D dA x r fa ga s a H locs) (hp : post a) (hdg : decode cc pc = .ok (.return_, 1)) : W p l e R s m args below meth c H locs cells slots (MQ below (va_Qv post (Bta D dA x r fa ga) (Af x r fa ga s.heap.size)) args s cells slots (Af x r fa ga s.heap.size)) (F0 m pc ls []) := by
  obtain ⟨F, G, e0, hP, hD, hS⟩ := h
  exact W.vret C.ex C.by_ hr (fun t ht hW => ⟨⟨a, rfl, hp, F, G, e0, by rw [ht]; exact hP⟩, hS.F ht⟩) hS.2.2 hdg hlocks
theorem ss_iret {post : Int → (Int → Int) → Prop} {z : Int} (C : Cx p m c s args cc nL own D dA) (hr : meth.sig.returnType = some .int) (hlocks : meth.locks = false) (h : Wa D dA x r fa ga s a H locs) (hp : post z a) (hdg : decode cc pc = .ok (.ireturn, 1)) : W p l e R s m args below meth c H locs cells slots (MQ below (va_Qi (fun v u => ∃ z, v = zI z ∧ post z u) (Bta D dA x r fa ga) (Af x r fa ga s.heap.size)) args s cells slots (Af x r fa ga s.heap.size)) (F0 m pc ls [.int (zI z)]) := by
  obtain ⟨F, G, e0, hP, hD, hS⟩ := h
  exact W.iret C.ex C.by_ hr (fun t ht hW => ⟨⟨zI z, a, rfl, ⟨z, rfl, hp⟩, F, G, e0, by rw [ht]; exact hP⟩, hS.F ht⟩) hS.2.2 hdg hlocks
end SSW
end
section
/-! ROWS (SwapSortDesk$Rows): its constructor, compare, swap; the calls through the two interfaces -/
section SSA
variable {p : Program} {l : Launch} {e : Env} {R : Room} {s : State} {m : MethodId} {args : Array Value} {below : List Frame} {meth : Method} {c : Code} {H : Heap} {locs : List Loc} {cells slots : Nat} {Q : State → Prop}
variable {cc : ByteArray} {pc : Nat} {ls : Array Slot} {rest : List Value} {D : va_G} {cl : List vw_C} {tys : List (ClassId × FieldType)} {ws : va_W} {A : Nat → Prop} {H0 : Heap} {a : Nat}
theorem zv_iald (hexec : p.tables.exec = Jvm.exec) (hb : c.code = cc) (hK : va_K D cl tys s) (hP : va_P D cl ws H) (q0 t0 : Nat) {cA : ClassId} {f : Nat → Int32} (ha : ws[q0]? = some (a, .inl (cA, 48, .inl f))) (ht : tys[t0]? = some (cA, .int)) {i : Int} (hi : 0 ≤ i ∧ i < 48) (hdg : decode cc pc = .ok (.iaload, 1))
    (kk : W p l e R s m args below meth c H locs cells slots Q (F0 m (pc + 1) ls (.int (f i.toNat) :: rest))) : W p l e R s m args below meth c H locs cells slots Q (F0 m pc ls (.int (zI i) :: .ref a :: rest)) :=
  va_iald hexec hb hK hP q0 t0 ha ht (zI_in (n := 48) (by omega) (by omega)) hdg (by rw [zI_cl (by omega)]; exact kk)
theorem zv_iast (hexec : p.tables.exec = Jvm.exec) (hb : c.code = cc) (hK : va_K D cl tys s) (hP : va_P D cl ws H) (hD : va_D A ws) (hS : va_S A H0 H locs) (q0 t0 : Nat) {cA : ClassId} {f : Nat → Int32} (ha : ws[q0]? = some (a, .inl (cA, 48, .inl f))) (ht : tys[t0]? = some (cA, .int)) {i : Int} {v : Int32} (hi : 0 ≤ i ∧ i < 48) (hdg : decode cc pc = .ok (.iastore, 1))
    (kk : ∀ (H1 : Heap) (locs1 : List Loc), va_P D cl (ws.set q0 (a, .inl (cA, 48, .inl (upd f i.toNat v)))) H1 → va_D A (ws.set q0 (a, .inl (cA, 48, .inl (upd f i.toNat v)))) → va_S A H0 H1 locs1 → W p l e R s m args below meth c H1 locs1 cells slots Q (F0 m (pc + 1) ls rest)) : W p l e R s m args below meth c H locs cells slots Q (F0 m pc ls (.int v :: .int (zI i) :: .ref a :: rest)) :=
  va_iast hexec hb hK hP hD hS q0 t0 ha ht (zI_in (n := 48) (by omega) (by omega)) hdg (fun H1 locs1 h1 h2 h3 => by
    rw [zI_cl (by omega)] at h1 h2
    exact kk H1 locs1 h1 h2 h3)
end SSA
section SSC
variable {F G : Nat → Int32} {i j : Int}
theorem cm_a (hi : 0 ≤ i) (hj : 0 ≤ j) (h1 : ¬ F i.toNat = F j.toNat) (h2 : ¬ F j.toNat ≤ F i.toNat) : cm (-1) (ky F G i) (ky F G j) := by
  rw [Int32.le_iff_toInt_le] at h2
  have a1 := ky_rng (G i.toNat)
  have a2 := ky_rng (G j.toNat)
  rw [ky_at hi, ky_at hj]; unfold cm; omega
theorem cm_b (hi : 0 ≤ i) (hj : 0 ≤ j) (h1 : ¬ F i.toNat = F j.toNat) (h2 : F j.toNat ≤ F i.toNat) : cm 1 (ky F G i) (ky F G j) := by
  rw [Int32.le_iff_toInt_le] at h2
  have h3 : ¬ (F i.toNat).toInt = (F j.toNat).toInt := fun q => h1 (Int32.toInt_inj.mp q)
  have a1 := ky_rng (G i.toNat)
  have a2 := ky_rng (G j.toNat)
  rw [ky_at hi, ky_at hj]; unfold cm; omega
theorem cm_c (hi : 0 ≤ i) (hj : 0 ≤ j) (h1 : F i.toNat = F j.toNat) (h2 : ¬ G j.toNat ≤ G i.toNat) : cm (-1) (ky F G i) (ky F G j) := by
  rw [Int32.le_iff_toInt_le] at h2
  rw [ky_at hi, ky_at hj, h1]; unfold cm; omega
theorem cm_d (hi : 0 ≤ i) (hj : 0 ≤ j) (h1 : F i.toNat = F j.toNat) (h2 : G j.toNat ≤ G i.toNat) (h3 : ¬ G i.toNat ≤ G j.toNat) : cm 1 (ky F G i) (ky F G j) := by
  rw [Int32.le_iff_toInt_le] at h2 h3
  rw [ky_at hi, ky_at hj, h1]; unfold cm; omega
theorem cm_e (hi : 0 ≤ i) (hj : 0 ≤ j) (h1 : F i.toNat = F j.toNat) (h2 : G j.toNat ≤ G i.toNat) (h3 : G i.toNat ≤ G j.toNat) : cm 0 (ky F G i) (ky F G j) := by
  rw [Int32.le_iff_toInt_le] at h2 h3
  rw [ky_at hi, ky_at hj, h1]; unfold cm; omega
end SSC
set_option maxHeartbeats 4000000 in
set_option maxRecDepth 100000 in
/-- Rows.compare(i, j): the order of the pairs; nothing changes -/
theorem m_compare (l : Launch) (D : va_G) (dA : ClassId) (x r fa ga : Nat) (a : Int → Int) (i j : Int) (hi : 0 ≤ i ∧ i < 48) (hj : 0 ≤ j ∧ j < 48) : MetI l D dA x r fa ga yX1_compare cX1_compare 3 ({ frames := 0, cells := 0, slots := 0, locals := 0 }) [.ref r, .int (zI i), .int (zI j)] a (fun z u => u = a ∧ cm z (a i) (a j)) := by
  intro sz
  refine Met.ofW (cc := cX1_compare) (maxL := 3) (ret := some .int) (by decide) rfl ?_
  intro p e s m args below meth c s₁ B hml hv
  obtain ⟨rfl, hv⟩ := hv
  obtain ⟨C, hw, hsz⟩ := ss_in B hml hv
  subst hsz
  have hr := B.returns
  have hlocks := B.notSynchronized
  have hx := C.ex
  have hb := C.by_
  have hts := C.ts
  have hK := C.2.1
  have hX := C.2.2
  have hown : s.vm.findClass RX1 = some m.cls := C.ow
  obtain ⟨F, G, rfl, hP, hD, hS⟩ := hw
  refine ss_start (lv := [(0, .ref r), (1, .int (zI i)), (2, .int (zI j))]) (Nat.le_of_ble_eq_true rfl) rfl (fun ls hl => ?_)
  refine lv_aload_n hx hb dX1_compare_0 rfl (lv_at hl 0 rfl) ?_
  refine va_get (D := D) (ci := 1) (v := .ref x) (C := RX1) (T := TX1) (N := 1) hx hb hts in_X1 hown hK hP 1 rfl rfl 0 (by decide) (hts _ q24) (fun _ h9 => h9) rfl dX1_compare_1 ?_
  refine va_getN (D := D) (ci := 0) (v := .ref fa) (C := RX0) (T := TX0) (N := 3) hx hb hts in_X0 hown hK hP 0 rfl rfl 0 (by decide) (va_Nw.use rfl hX.2.2.1) (fun _ h9 => h9) rfl dX1_compare_4 ?_
  refine lv_iload_n hx hb dX1_compare_7 rfl (lv_at hl 1 rfl) ?_
  refine zv_iald hx hb hK hP 2 0 rfl rfl (by omega) dX1_compare_8 ?_
  refine lv_aload_n hx hb dX1_compare_9 rfl (lv_at hl 0 rfl) ?_
  refine va_get (D := D) (ci := 1) (v := .ref x) (C := RX1) (T := TX1) (N := 1) hx hb hts in_X1 hown hK hP 1 rfl rfl 0 (by decide) (hts _ q24) (fun _ h9 => h9) rfl dX1_compare_10 ?_
  refine va_getN (D := D) (ci := 0) (v := .ref fa) (C := RX0) (T := TX0) (N := 3) hx hb hts in_X0 hown hK hP 0 rfl rfl 0 (by decide) (va_Nw.use rfl hX.2.2.1) (fun _ h9 => h9) rfl dX1_compare_13 ?_
  refine lv_iload_n hx hb dX1_compare_16 rfl (lv_at hl 2 rfl) ?_
  refine zv_iald hx hb hK hP 2 0 rfl rfl (by omega) dX1_compare_17 ?_
  refine lv_icmp_eq (tgt := 48) hx hb dX1_compare_18 (by decide) (fun c1 => ?_) (fun c1 => ?_)
  · refine lv_aload_n hx hb dX1_compare_48 rfl (lv_at hl 0 rfl) ?_
    refine va_get (D := D) (ci := 1) (v := .ref x) (C := RX1) (T := TX1) (N := 1) hx hb hts in_X1 hown hK hP 1 rfl rfl 0 (by decide) (hts _ q24) (fun _ h9 => h9) rfl dX1_compare_49 ?_
    refine va_getN (D := D) (ci := 0) (v := .ref ga) (C := RX0) (T := TX0) (N := 3) hx hb hts in_X0 hown hK hP 0 rfl rfl 1 (by decide) (va_Nw.use rfl hX.2.2.2.1) (fun _ h9 => h9) rfl dX1_compare_52 ?_
    refine lv_iload_n hx hb dX1_compare_55 rfl (lv_at hl 1 rfl) ?_
    refine zv_iald hx hb hK hP 3 0 rfl rfl (by omega) dX1_compare_56 ?_
    refine lv_aload_n hx hb dX1_compare_57 rfl (lv_at hl 0 rfl) ?_
    refine va_get (D := D) (ci := 1) (v := .ref x) (C := RX1) (T := TX1) (N := 1) hx hb hts in_X1 hown hK hP 1 rfl rfl 0 (by decide) (hts _ q24) (fun _ h9 => h9) rfl dX1_compare_58 ?_
    refine va_getN (D := D) (ci := 0) (v := .ref ga) (C := RX0) (T := TX0) (N := 3) hx hb hts in_X0 hown hK hP 0 rfl rfl 1 (by decide) (va_Nw.use rfl hX.2.2.2.1) (fun _ h9 => h9) rfl dX1_compare_61 ?_
    refine lv_iload_n hx hb dX1_compare_64 rfl (lv_at hl 2 rfl) ?_
    refine zv_iald hx hb hK hP 3 0 rfl rfl (by omega) dX1_compare_65 ?_
    refine lv_icmp_ge (tgt := 73) hx hb dX1_compare_66 (by decide) (fun c2 => ?_) (fun c2 => ?_)
    · refine lv_aload_n hx hb dX1_compare_73 rfl (lv_at hl 0 rfl) ?_
      refine va_get (D := D) (ci := 1) (v := .ref x) (C := RX1) (T := TX1) (N := 1) hx hb hts in_X1 hown hK hP 1 rfl rfl 0 (by decide) (hts _ q24) (fun _ h9 => h9) rfl dX1_compare_74 ?_
      refine va_getN (D := D) (ci := 0) (v := .ref ga) (C := RX0) (T := TX0) (N := 3) hx hb hts in_X0 hown hK hP 0 rfl rfl 1 (by decide) (va_Nw.use rfl hX.2.2.2.1) (fun _ h9 => h9) rfl dX1_compare_77 ?_
      refine lv_iload_n hx hb dX1_compare_80 rfl (lv_at hl 1 rfl) ?_
      refine zv_iald hx hb hK hP 3 0 rfl rfl (by omega) dX1_compare_81 ?_
      refine lv_aload_n hx hb dX1_compare_82 rfl (lv_at hl 0 rfl) ?_
      refine va_get (D := D) (ci := 1) (v := .ref x) (C := RX1) (T := TX1) (N := 1) hx hb hts in_X1 hown hK hP 1 rfl rfl 0 (by decide) (hts _ q24) (fun _ h9 => h9) rfl dX1_compare_83 ?_
      refine va_getN (D := D) (ci := 0) (v := .ref ga) (C := RX0) (T := TX0) (N := 3) hx hb hts in_X0 hown hK hP 0 rfl rfl 1 (by decide) (va_Nw.use rfl hX.2.2.2.1) (fun _ h9 => h9) rfl dX1_compare_86 ?_
      refine lv_iload_n hx hb dX1_compare_89 rfl (lv_at hl 2 rfl) ?_
      refine zv_iald hx hb hK hP 3 0 rfl rfl (by omega) dX1_compare_90 ?_
      refine lv_icmp_le (tgt := 98) hx hb dX1_compare_91 (by decide) (fun c3 => ?_) (fun c3 => ?_)
      · refine lv_iconst (v := zI (0)) hx hb dX1_compare_98 rfl ?_
        exact ss_iret C hr hlocks ⟨F, G, rfl, hP, hD, hS⟩ ⟨rfl, cm_e hi.1 hj.1 c1 c2 c3⟩ dX1_compare_99
      · refine lv_iconst (v := zI (1)) hx hb dX1_compare_94 rfl ?_
        refine lv_goto (tgt := 99) hx hb dX1_compare_95 (by decide) ?_
        exact ss_iret C hr hlocks ⟨F, G, rfl, hP, hD, hS⟩ ⟨rfl, cm_d hi.1 hj.1 c1 c2 c3⟩ dX1_compare_99
    · refine lv_iconst (v := zI (-1)) hx hb dX1_compare_69 rfl ?_
      refine lv_goto (tgt := 99) hx hb dX1_compare_70 (by decide) ?_
      exact ss_iret C hr hlocks ⟨F, G, rfl, hP, hD, hS⟩ ⟨rfl, cm_c hi.1 hj.1 c1 c2⟩ dX1_compare_99
  · refine lv_aload_n hx hb dX1_compare_21 rfl (lv_at hl 0 rfl) ?_
    refine va_get (D := D) (ci := 1) (v := .ref x) (C := RX1) (T := TX1) (N := 1) hx hb hts in_X1 hown hK hP 1 rfl rfl 0 (by decide) (hts _ q24) (fun _ h9 => h9) rfl dX1_compare_22 ?_
    refine va_getN (D := D) (ci := 0) (v := .ref fa) (C := RX0) (T := TX0) (N := 3) hx hb hts in_X0 hown hK hP 0 rfl rfl 0 (by decide) (va_Nw.use rfl hX.2.2.1) (fun _ h9 => h9) rfl dX1_compare_25 ?_
    refine lv_iload_n hx hb dX1_compare_28 rfl (lv_at hl 1 rfl) ?_
    refine zv_iald hx hb hK hP 2 0 rfl rfl (by omega) dX1_compare_29 ?_
    refine lv_aload_n hx hb dX1_compare_30 rfl (lv_at hl 0 rfl) ?_
    refine va_get (D := D) (ci := 1) (v := .ref x) (C := RX1) (T := TX1) (N := 1) hx hb hts in_X1 hown hK hP 1 rfl rfl 0 (by decide) (hts _ q24) (fun _ h9 => h9) rfl dX1_compare_31 ?_
    refine va_getN (D := D) (ci := 0) (v := .ref fa) (C := RX0) (T := TX0) (N := 3) hx hb hts in_X0 hown hK hP 0 rfl rfl 0 (by decide) (va_Nw.use rfl hX.2.2.1) (fun _ h9 => h9) rfl dX1_compare_34 ?_
    refine lv_iload_n hx hb dX1_compare_37 rfl (lv_at hl 2 rfl) ?_
    refine zv_iald hx hb hK hP 2 0 rfl rfl (by omega) dX1_compare_38 ?_
    refine lv_icmp_ge (tgt := 46) hx hb dX1_compare_39 (by decide) (fun c2 => ?_) (fun c2 => ?_)
    · refine lv_iconst (v := zI (1)) hx hb dX1_compare_46 rfl ?_
      exact ss_iret C hr hlocks ⟨F, G, rfl, hP, hD, hS⟩ ⟨rfl, cm_b hi.1 hj.1 c1 c2⟩ dX1_compare_47
    · refine lv_iconst (v := zI (-1)) hx hb dX1_compare_42 rfl ?_
      refine lv_goto (tgt := 47) hx hb dX1_compare_43 (by decide) ?_
      exact ss_iret C hr hlocks ⟨F, G, rfl, hP, hD, hS⟩ ⟨rfl, cm_a hi.1 hj.1 c1 c2⟩ dX1_compare_47
set_option maxHeartbeats 4000000 in
set_option maxRecDepth 100000 in
/-- Rows.swap(i, j): the two pairs change places -/
theorem m_swap (l : Launch) (D : va_G) (dA : ClassId) (x r fa ga : Nat) (a : Int → Int) (i j : Int) (hi : 0 ≤ i ∧ i < 48) (hj : 0 ≤ j ∧ j < 48) : MetV l D dA x r fa ga yX1_swap cX1_swap 4 ({ frames := 0, cells := 0, slots := 0, locals := 0 }) [.ref r, .int (zI i), .int (zI j)] a (fun u => u = ss_sw a i j) := by
  intro sz
  refine Met.ofW (cc := cX1_swap) (maxL := 4) (ret := none) (by decide) rfl ?_
  intro p e s m args below meth c s₁ B hml hv
  obtain ⟨rfl, hv⟩ := hv
  obtain ⟨C, hw, hsz⟩ := ss_in B hml hv
  subst hsz
  have hr := B.returns
  have hlocks := B.notSynchronized
  have hx := C.ex
  have hb := C.by_
  have hts := C.ts
  have hK := C.2.1
  have hX := C.2.2
  have hown : s.vm.findClass RX1 = some m.cls := C.ow
  obtain ⟨F, G, rfl, hP, hD, hS⟩ := hw
  refine ss_start (lv := [(0, .ref r), (1, .int (zI i)), (2, .int (zI j))]) (Nat.le_of_ble_eq_true rfl) rfl (fun ls hl => ?_)
  refine lv_aload_n hx hb dX1_swap_0 rfl (lv_at hl 0 rfl) ?_
  refine va_get (D := D) (ci := 1) (v := .ref x) (C := RX1) (T := TX1) (N := 1) hx hb hts in_X1 hown hK hP 1 rfl rfl 0 (by decide) (hts _ q24) (fun _ h9 => h9) rfl dX1_swap_1 ?_
  refine va_getN (D := D) (ci := 0) (v := .ref fa) (C := RX0) (T := TX0) (N := 3) hx hb hts in_X0 hown hK hP 0 rfl rfl 0 (by decide) (va_Nw.use rfl hX.2.2.1) (fun _ h9 => h9) rfl dX1_swap_4 ?_
  refine lv_iload_n hx hb dX1_swap_7 rfl (lv_at hl 1 rfl) ?_
  refine zv_iald hx hb hK hP 2 0 rfl rfl (by omega) dX1_swap_8 ?_
  refine lv_istore_n (lv' := [(3, .int (F i.toNat)), (0, .ref r), (1, .int (zI i)), (2, .int (zI j))]) hx hb dX1_swap_9 rfl hl (by decide) rfl (fun ls hl => ?_)
  refine lv_aload_n hx hb dX1_swap_10 rfl (lv_at hl 1 rfl) ?_
  refine va_get (D := D) (ci := 1) (v := .ref x) (C := RX1) (T := TX1) (N := 1) hx hb hts in_X1 hown hK hP 1 rfl rfl 0 (by decide) (hts _ q24) (fun _ h9 => h9) rfl dX1_swap_11 ?_
  refine va_getN (D := D) (ci := 0) (v := .ref fa) (C := RX0) (T := TX0) (N := 3) hx hb hts in_X0 hown hK hP 0 rfl rfl 0 (by decide) (va_Nw.use rfl hX.2.2.1) (fun _ h9 => h9) rfl dX1_swap_14 ?_
  refine lv_iload_n hx hb dX1_swap_17 rfl (lv_at hl 2 rfl) ?_
  refine lv_aload_n hx hb dX1_swap_18 rfl (lv_at hl 1 rfl) ?_
  refine va_get (D := D) (ci := 1) (v := .ref x) (C := RX1) (T := TX1) (N := 1) hx hb hts in_X1 hown hK hP 1 rfl rfl 0 (by decide) (hts _ q24) (fun _ h9 => h9) rfl dX1_swap_19 ?_
  refine va_getN (D := D) (ci := 0) (v := .ref fa) (C := RX0) (T := TX0) (N := 3) hx hb hts in_X0 hown hK hP 0 rfl rfl 0 (by decide) (va_Nw.use rfl hX.2.2.1) (fun _ h9 => h9) rfl dX1_swap_22 ?_
  refine lv_iload_n hx hb dX1_swap_25 rfl (lv_at hl 3 rfl) ?_
  refine zv_iald hx hb hK hP 2 0 rfl rfl (by omega) dX1_swap_26 ?_
  refine zv_iast hx hb hK hP hD hS 2 0 rfl rfl (by omega) dX1_swap_27 (fun H locs hP hD hS => ?_)
  have hP : va_P D cls9 (wdk dA x r fa ga (upd F i.toNat (F j.toNat)) G) H := hP
  have hD : va_D (Af x r fa ga s.heap.size) (wdk dA x r fa ga (upd F i.toNat (F j.toNat)) G) := hD
  refine lv_aload_n hx hb dX1_swap_28 rfl (lv_at hl 1 rfl) ?_
  refine va_get (D := D) (ci := 1) (v := .ref x) (C := RX1) (T := TX1) (N := 1) hx hb hts in_X1 hown hK hP 1 rfl rfl 0 (by decide) (hts _ q24) (fun _ h9 => h9) rfl dX1_swap_29 ?_
  refine va_getN (D := D) (ci := 0) (v := .ref fa) (C := RX0) (T := TX0) (N := 3) hx hb hts in_X0 hown hK hP 0 rfl rfl 0 (by decide) (va_Nw.use rfl hX.2.2.1) (fun _ h9 => h9) rfl dX1_swap_32 ?_
  refine lv_iload_n hx hb dX1_swap_35 rfl (lv_at hl 3 rfl) ?_
  refine lv_iload_n hx hb dX1_swap_36 rfl (lv_at hl 0 rfl) ?_
  refine zv_iast hx hb hK hP hD hS 2 0 rfl rfl (by omega) dX1_swap_37 (fun H locs hP hD hS => ?_)
  have hP : va_P D cls9 (wdk dA x r fa ga (upd (upd F i.toNat (F j.toNat)) j.toNat (F i.toNat)) G) H := hP
  have hD : va_D (Af x r fa ga s.heap.size) (wdk dA x r fa ga (upd (upd F i.toNat (F j.toNat)) j.toNat (F i.toNat)) G) := hD
  refine lv_aload_n hx hb dX1_swap_38 rfl (lv_at hl 1 rfl) ?_
  refine va_get (D := D) (ci := 1) (v := .ref x) (C := RX1) (T := TX1) (N := 1) hx hb hts in_X1 hown hK hP 1 rfl rfl 0 (by decide) (hts _ q24) (fun _ h9 => h9) rfl dX1_swap_39 ?_
  refine va_getN (D := D) (ci := 0) (v := .ref ga) (C := RX0) (T := TX0) (N := 3) hx hb hts in_X0 hown hK hP 0 rfl rfl 1 (by decide) (va_Nw.use rfl hX.2.2.2.1) (fun _ h9 => h9) rfl dX1_swap_42 ?_
  refine lv_iload_n hx hb dX1_swap_45 rfl (lv_at hl 2 rfl) ?_
  refine zv_iald hx hb hK hP 3 0 rfl rfl (by omega) dX1_swap_46 ?_
  refine lv_istore_n (lv' := [(3, .int (G i.toNat)), (0, .ref r), (1, .int (zI i)), (2, .int (zI j))]) hx hb dX1_swap_47 rfl hl (by decide) rfl (fun ls hl => ?_)
  refine lv_aload_n hx hb dX1_swap_48 rfl (lv_at hl 1 rfl) ?_
  refine va_get (D := D) (ci := 1) (v := .ref x) (C := RX1) (T := TX1) (N := 1) hx hb hts in_X1 hown hK hP 1 rfl rfl 0 (by decide) (hts _ q24) (fun _ h9 => h9) rfl dX1_swap_49 ?_
  refine va_getN (D := D) (ci := 0) (v := .ref ga) (C := RX0) (T := TX0) (N := 3) hx hb hts in_X0 hown hK hP 0 rfl rfl 1 (by decide) (va_Nw.use rfl hX.2.2.2.1) (fun _ h9 => h9) rfl dX1_swap_52 ?_
  refine lv_iload_n hx hb dX1_swap_55 rfl (lv_at hl 2 rfl) ?_
  refine lv_aload_n hx hb dX1_swap_56 rfl (lv_at hl 1 rfl) ?_
  refine va_get (D := D) (ci := 1) (v := .ref x) (C := RX1) (T := TX1) (N := 1) hx hb hts in_X1 hown hK hP 1 rfl rfl 0 (by decide) (hts _ q24) (fun _ h9 => h9) rfl dX1_swap_57 ?_
  refine va_getN (D := D) (ci := 0) (v := .ref ga) (C := RX0) (T := TX0) (N := 3) hx hb hts in_X0 hown hK hP 0 rfl rfl 1 (by decide) (va_Nw.use rfl hX.2.2.2.1) (fun _ h9 => h9) rfl dX1_swap_60 ?_
  refine lv_iload_n hx hb dX1_swap_63 rfl (lv_at hl 3 rfl) ?_
  refine zv_iald hx hb hK hP 3 0 rfl rfl (by omega) dX1_swap_64 ?_
  refine zv_iast hx hb hK hP hD hS 3 0 rfl rfl (by omega) dX1_swap_65 (fun H locs hP hD hS => ?_)
  have hP : va_P D cls9 (wdk dA x r fa ga (upd (upd F i.toNat (F j.toNat)) j.toNat (F i.toNat)) (upd G i.toNat (G j.toNat))) H := hP
  have hD : va_D (Af x r fa ga s.heap.size) (wdk dA x r fa ga (upd (upd F i.toNat (F j.toNat)) j.toNat (F i.toNat)) (upd G i.toNat (G j.toNat))) := hD
  refine lv_aload_n hx hb dX1_swap_66 rfl (lv_at hl 1 rfl) ?_
  refine va_get (D := D) (ci := 1) (v := .ref x) (C := RX1) (T := TX1) (N := 1) hx hb hts in_X1 hown hK hP 1 rfl rfl 0 (by decide) (hts _ q24) (fun _ h9 => h9) rfl dX1_swap_67 ?_
  refine va_getN (D := D) (ci := 0) (v := .ref ga) (C := RX0) (T := TX0) (N := 3) hx hb hts in_X0 hown hK hP 0 rfl rfl 1 (by decide) (va_Nw.use rfl hX.2.2.2.1) (fun _ h9 => h9) rfl dX1_swap_70 ?_
  refine lv_iload_n hx hb dX1_swap_73 rfl (lv_at hl 3 rfl) ?_
  refine lv_iload_n hx hb dX1_swap_74 rfl (lv_at hl 0 rfl) ?_
  refine zv_iast hx hb hK hP hD hS 3 0 rfl rfl (by omega) dX1_swap_75 (fun H locs hP hD hS => ?_)
  have hP : va_P D cls9 (wdk dA x r fa ga (upd (upd F i.toNat (F j.toNat)) j.toNat (F i.toNat)) (upd (upd G i.toNat (G j.toNat)) j.toNat (G i.toNat))) H := hP
  have hD : va_D (Af x r fa ga s.heap.size) (wdk dA x r fa ga (upd (upd F i.toNat (F j.toNat)) j.toNat (F i.toNat)) (upd (upd G i.toNat (G j.toNat)) j.toNat (G i.toNat))) := hD
  exact ss_vret C hr hlocks ⟨_, _, rfl, hP, hD, hS⟩ (ky_sw hi.1 hj.1) dX1_swap_76
set_option maxHeartbeats 4000000 in
set_option maxRecDepth 100000 in
/-- Rows(x): the field holds x -/
theorem m_Rows (l : Launch) (D : va_G) (x r sz : Nat) : Met l yX1_init (ws_ yX1_init cX1_init 2 none) ({ frames := 1, cells := 0, slots := 0, locals := 12 }) (va_Pc [.ref r, .ref x] (fun U => U.heap.size = sz ∧ va_P D cls9 [(r, .inr (1, [.null]))] U.heap ∧ va_K D cls9 [] U ∧ va_D (fun _ => True) [(r, .inr (1, [.null]))])) (va_Qv (fun _ : Unit => True) (fun _ t => va_P D cls9 [(r, .inr (1, [.ref x]))] t.heap ∧ va_D (va_A [(r, .inr (1, [.null]))] sz) [(r, .inr (1, [.ref x]))]) (va_A [(r, .inr (1, [.null]))] sz)) 0 0 (va_A [(r, .inr (1, [.null]))] sz) := by
  refine Met.ofW (cc := cX1_init) (maxL := 2) (ret := none) (by decide) rfl ?_
  intro p e s m args below meth c s₁ B hml hv
  obtain ⟨rfl, hsz, hP, hK, hD0⟩ := hv
  have hx := B.exec
  have hb := B.bytes
  have hr := B.returns
  have hts := atoms_spec (ws := ws_ yX1_init cX1_init 2 none) B.pre
  have hts : ∀ w ∈ lw_all, w.before _ s = true := fun w h => hts w (List.mem_cons_of_mem _ h)
  have hown : s.vm.findClass RX1 = some m.cls := findClass_of_methodNamed B.named
  have hlocks := B.notSynchronized
  have hin : meth.name = "<init>" := (name_of_methodNamed B.named B.method).1
  subst hsz
  have hD := hD0.self (sz := s.heap.size)
  have hS : va_S (va_A [(r, .inr (1, [.null]))] s.heap.size) s.heap s.heap [] := va_S.rf
  refine ss_start (lv := [(0, .ref r), (1, .ref x)]) (Nat.le_of_ble_eq_true rfl) rfl (fun ls hl => ?_)
  refine lv_aload_n hx hb dX1_init_0 rfl (lv_at hl 0 rfl) ?_
  refine lv_aload_n hx hb dX1_init_1 rfl (lv_at hl 1 rfl) ?_
  refine va_putF (D := D) (ci := 1) (v := .ref x) (ty := .object "SwapSortDesk") (C := RX1) (T := TX1) (N := 1) hx hb hts in_X1 tyX1 tyX1_ok nmX1 hown hK hP hD hS 0 rfl rfl 0 (by decide) (hts _ q24) (fun _ h9 => h9) rfl hin rfl (by decide +kernel) rfl rfl (Nat.le_of_ble_eq_true rfl) dX1_init_2 (fun H locs hP hD hS => ?_)
  have hP : va_P D cls9 [(r, .inr (1, [.ref x]))] H := hP
  have hD : va_D (va_A [(r, .inr (1, [.null]))] s.heap.size) [(r, .inr (1, [.ref x]))] := hD
  refine lv_aload_n hx hb dX1_init_5 rfl (lv_at hl 0 rfl) ?_
  refine W.objInit hx hb hown (hts _ q23) (hts _ q16) (hts _ q17) rfl (by rw [hml]; exact hl.1) rfl dX1_init_6 (Nat.le_of_ble_eq_true rfl) (Nat.le_of_ble_eq_true rfl) ?_
  refine W.eq (g2 := F0 m 9 ls []) rfl ?_
  exact W.vret hx hb hr (fun t ht hW => ⟨⟨(), rfl, trivial, by rw [ht]; exact hP, hD⟩, hS.F ht⟩) hS.2.2 dX1_init_9
section SSD
variable {p : Program} {l : Launch} {e : Env} {R : Room} {s : State} {m : MethodId} {args : Array Value} {below : List Frame} {meth : Method} {c : Code} {H : Heap} {locs : List Loc} {cells slots : Nat} {Q : State → Prop}
variable {cc : ByteArray} {pc nL : Nat} {ls : Array Slot} {rest : List Value} {D : va_G} {dA : ClassId} {x r fa ga : Nat} {a : Int → Int}
/-- a call of comp.compare(i, j) in OwnArrays -/
theorem ss_cmp (C : Cx p m c s args cc nL RX3 D dA) (h : Wa D dA x r fa ga s a H locs) {i j : Int} (hi : 0 ≤ i ∧ i < 48) (hj : 0 ≤ j ∧ j < 48) (hl : ls.size = nL) (hR : 1 ≤ R.frames ∧ 24 ≤ R.locals) (hf : cells ≤ R.cells ∧ slots ≤ R.slots) (hW : (rest.map fun v => v.category).sum ≤ 8) {count : Nat} (hdg : decode cc pc = .ok (.invokeinterface 1 count, 5))
    (kk : ∀ (z : Int) (H1 : Heap) (locs1 : List Loc), cm z (a i) (a j) → Wa D dA x r fa ga s a H1 locs1 → W p l e R s m args below meth c H1 locs1 cells slots Q (F0 m (pc + 5) ls (.int (zI z) :: rest))) : W p l e R s m args below meth c H locs cells slots Q (F0 m pc ls (.int (zI j) :: .int (zI i) :: .ref r :: rest)) := by
  obtain ⟨F, G, e0, hP, hD, hS⟩ := h
  subst e0
  have hsub : ∀ q, Af x r fa ga H.size q → Af x r fa ga s.heap.size q := fun q => Af.le hS.1
  refine va_callFi (va_runF (As := [.int (zI i), .int (zI j)]) (rest := rest) (C.2.1.1 1 _ rfl).2 C.1 (m_compare l D dA x r fa ga (ky F G) i j hi hj H.size) (va_cwF 2 C.ts (lw_app (lw_in [.methodLink RX3 1 xcmp, .selects RX1 xcmp yX1_compare, .instanceMethod yX1_compare, .initialized yX1_compare.cls] [74, 78, 80, 6] (by decide +kernel) (by decide +kernel)) (lw_meth q82)) rfl rfl rfl C.2.2.1 ⟨by decide, by decide, by decide +kernel⟩ ⟨by show 0 + 1 ≤ _; omega, by show 8 + (3 + 11) + 0 ≤ _; omega⟩) ⟨Sta.blind, va_recv C.2.1 hP (ci := 1) (q0 := 1) rfl rfl, fun U hU hW => ⟨rfl, F, G, rfl, Stk.at C.2.1 C.2.2 hP hD hU hW⟩⟩ rfl rfl hl rfl (by show 2 * 0 + _ ≤ 8; omega) hdg ⟨hf.1, hf.2⟩) hS (fun q _ h => hsub q h) hsub (fun v u t H1 locs1 ht hvm hp hB hz hk hS1 => ?_)
  obtain ⟨F2, G2, e2, hP2⟩ := hB
  obtain ⟨z, hz2, hu, hcm⟩ := hp
  subst hz2
  exact kk z H1 locs1 hcm ⟨F2, G2, e2.trans hu, by rw [← ht]; exact hP2, wdk_D hD, hS1⟩
/-- a call of swapper.swap(i, j) in OwnArrays -/
theorem ss_swp (C : Cx p m c s args cc nL RX3 D dA) (h : Wa D dA x r fa ga s a H locs) {i j : Int} (hi : 0 ≤ i ∧ i < 48) (hj : 0 ≤ j ∧ j < 48) (hl : ls.size = nL) (hR : 1 ≤ R.frames ∧ 24 ≤ R.locals) (hf : cells ≤ R.cells ∧ slots ≤ R.slots) (hW : (rest.map fun v => v.category).sum ≤ 8) {count : Nat} (hdg : decode cc pc = .ok (.invokeinterface 7 count, 5))
    (kk : ∀ (H1 : Heap) (locs1 : List Loc), Wa D dA x r fa ga s (ss_sw a i j) H1 locs1 → W p l e R s m args below meth c H1 locs1 cells slots Q (F0 m (pc + 5) ls rest)) : W p l e R s m args below meth c H locs cells slots Q (F0 m pc ls (.int (zI j) :: .int (zI i) :: .ref r :: rest)) := by
  obtain ⟨F, G, e0, hP, hD, hS⟩ := h
  subst e0
  have hsub : ∀ q, Af x r fa ga H.size q → Af x r fa ga s.heap.size q := fun q => Af.le hS.1
  refine va_callFv (va_runF (As := [.int (zI i), .int (zI j)]) (rest := rest) (C.2.1.1 1 _ rfl).2 C.1 (m_swap l D dA x r fa ga (ky F G) i j hi hj H.size) (va_cwF 2 C.ts (lw_app (lw_in [.methodLink RX3 7 xswp, .selects RX1 xswp yX1_swap, .instanceMethod yX1_swap, .initialized yX1_swap.cls] [84, 88, 90, 6] (by decide +kernel) (by decide +kernel)) (lw_meth q92)) rfl rfl rfl C.2.2.2.1 ⟨by decide, by decide, by decide +kernel⟩ ⟨by show 0 + 1 ≤ _; omega, by show 8 + (4 + 11) + 0 ≤ _; omega⟩) ⟨Sta.blind, va_recv C.2.1 hP (ci := 1) (q0 := 1) rfl rfl, fun U hU hW => ⟨rfl, F, G, rfl, Stk.at C.2.1 C.2.2 hP hD hU hW⟩⟩ rfl rfl hl rfl (by show 2 * 0 + _ ≤ 8; omega) hdg ⟨hf.1, hf.2⟩) hS (fun q _ h => hsub q h) hsub (fun u t H1 locs1 ht hvm hp hB hz hk hS1 => ?_)
  obtain ⟨F2, G2, e2, hP2⟩ := hB
  exact kk H1 locs1 ⟨F2, G2, e2.trans hp, by rw [← ht]; exact hP2, wdk_D hD, hS1⟩
end SSD
end
section
/-! OWNARRAYS 1: lowerBound, upperBound, med3, swap -/
section SSB
variable {p : Program} {l : Launch} {e : Env} {R : Room} {s : State} {m : MethodId} {args : Array Value} {below : List Frame} {meth : Method} {c : Code} {cells slots : Nat} {Q : State → Prop}
variable {D : va_G} {dA : ClassId} {x r fa ga : Nat}
set_option maxHeartbeats 4000000 in
set_option maxRecDepth 100000 in
/-- the loop of lowerBound at its head -/
theorem w_lowerBound_loop {a : Int → Int} (C : Cx p m c s args cX3_lowerBound 7 RX3 D dA) (hR : 1 ≤ R.frames ∧ 24 ≤ R.locals) (hf : cells ≤ R.cells ∧ slots ≤ R.slots) {lo to pos : Int} (h0 : 0 ≤ lo) (h48 : to ≤ 48) (hp : 0 ≤ pos ∧ pos < 48) (hs : ss_Srt lo to a)
    (kk : ∀ (f : Int) (H : Heap) (locs : List Loc) (ls : Array Slot), lo ≤ f → f ≤ to → (∀ z, lo ≤ z → z < f → a z < a pos) → (∀ z, f ≤ z → z < to → a pos ≤ a z) → Wa D dA x r fa ga s a H locs → lv_has ls 7 [(0, .int (zI f))] → W p l e R s m args below meth c H locs cells slots Q (F0 m 58 ls [])) :
    ∀ (n : Nat) (f len : Int) (H : Heap) (locs : List Loc) (ls : Array Slot), len < (n : Int) → lo ≤ f → 0 ≤ len → f + len ≤ to → (∀ z, lo ≤ z → z < f → a z < a pos) → (∀ z, f + len ≤ z → z < to → a pos ≤ a z) → Wa D dA x r fa ga s a H locs → lv_has ls 7 [(0, .int (zI f)), (2, .int (zI pos)), (3, .ref r), (4, .int (zI len))] → W p l e R s m args below meth c H locs cells slots Q (F0 m 5 ls []) := by
  have hx := C.ex
  have hb := C.by_
  intro n
  induction n with
  | zero =>
    intro f len H locs ls h1 h2 h3
    exact absurd h1 (by omega)
  | succ n ih =>
    intro f len H locs ls h1 h2 h3 h4 h5 h6 hw hl
    refine lv_iload hx hb dX3_lowerBound_5 (lv_at hl 3 rfl) ?_
    refine zv_if_le (tgt := 58) hx hb dX3_lowerBound_7 (by decide) (by omega) (fun c1 => ?_) (fun c1 => ?_)
    · exact kk f H locs ls h2 (by omega) h5 (fun z g1 g2 => h6 z (by omega) g2) hw (lv_sub hl [0] rfl)
    · refine lv_iload hx hb dX3_lowerBound_10 (lv_at hl 3 rfl) ?_
      refine lv_iconst (v := zI (2)) hx hb dX3_lowerBound_12 rfl ?_
      refine zv_idiv2 hx hb dX3_lowerBound_13 (by omega) ?_
      refine lv_istore (lv' := [(5, .int (zI (len / 2))), (0, .int (zI f)), (2, .int (zI pos)), (3, .ref r), (4, .int (zI len))]) hx hb dX3_lowerBound_14 hl (by decide) rfl (fun ls hl => ?_)
      refine lv_iload_n hx hb dX3_lowerBound_16 rfl (lv_at hl 1 rfl) ?_
      refine lv_iload hx hb dX3_lowerBound_17 (lv_at hl 0 rfl) ?_
      refine zv_iadd hx hb dX3_lowerBound_19 ?_
      refine lv_istore (lv' := [(6, .int (zI (f + (len / 2)))), (5, .int (zI (len / 2))), (0, .int (zI f)), (2, .int (zI pos)), (3, .ref r), (4, .int (zI len))]) hx hb dX3_lowerBound_20 hl (by decide) rfl (fun ls hl => ?_)
      refine lv_aload_n hx hb dX3_lowerBound_22 rfl (lv_at hl 4 rfl) ?_
      refine lv_iload hx hb dX3_lowerBound_23 (lv_at hl 0 rfl) ?_
      refine lv_iload_n hx hb dX3_lowerBound_25 rfl (lv_at hl 3 rfl) ?_
      refine ss_cmp C hw (i := f + (len / 2)) (j := pos) (rest := []) (by omega) (by omega) hl.1 hR hf (Nat.le_of_ble_eq_true rfl) dX3_lowerBound_26 (fun z H locs hc hw => ?_)
      unfold cm at hc
      refine zv_if_ge (tgt := 51) hx hb dX3_lowerBound_31 (by decide) (by omega) (fun c2 => ?_) (fun c2 => ?_)
      · refine lv_iload hx hb dX3_lowerBound_51 (lv_at hl 1 rfl) ?_
        refine lv_istore (lv' := [(4, .int (zI (len / 2))), (6, .int (zI (f + (len / 2)))), (5, .int (zI (len / 2))), (0, .int (zI f)), (2, .int (zI pos)), (3, .ref r)]) hx hb dX3_lowerBound_53 hl (by decide) rfl (fun ls hl => ?_)
        refine lv_goto (tgt := 5) hx hb dX3_lowerBound_55 (by decide) ?_
        exact ih f (len / 2) H locs ls (by omega) (by omega) (by omega) (by omega) h5 (fun z g1 g2 => by have := hs (f + len / 2) z (by omega) g1 g2; omega) hw (lv_sub hl [3, 4, 5, 0] rfl)
      · refine lv_iload hx hb dX3_lowerBound_34 (lv_at hl 0 rfl) ?_
        refine lv_iconst (v := zI (1)) hx hb dX3_lowerBound_36 rfl ?_
        refine zv_iadd hx hb dX3_lowerBound_37 ?_
        refine lv_istore_n (lv' := [(0, .int (zI (f + (len / 2) + 1))), (6, .int (zI (f + (len / 2)))), (5, .int (zI (len / 2))), (2, .int (zI pos)), (3, .ref r), (4, .int (zI len))]) hx hb dX3_lowerBound_38 rfl hl (by decide) rfl (fun ls hl => ?_)
        refine lv_iload hx hb dX3_lowerBound_39 (lv_at hl 5 rfl) ?_
        refine lv_iload hx hb dX3_lowerBound_41 (lv_at hl 2 rfl) ?_
        refine lv_iconst (v := zI (1)) hx hb dX3_lowerBound_43 rfl ?_
        refine zv_iadd hx hb dX3_lowerBound_44 ?_
        refine zv_isub hx hb dX3_lowerBound_45 ?_
        refine lv_istore (lv' := [(4, .int (zI (len - (len / 2 + 1)))), (0, .int (zI (f + (len / 2) + 1))), (6, .int (zI (f + (len / 2)))), (5, .int (zI (len / 2))), (2, .int (zI pos)), (3, .ref r)]) hx hb dX3_lowerBound_46 hl (by decide) rfl (fun ls hl => ?_)
        refine lv_goto (tgt := 55) hx hb dX3_lowerBound_48 (by decide) ?_
        refine lv_goto (tgt := 5) hx hb dX3_lowerBound_55 (by decide) ?_
        exact ih (f + len / 2 + 1) (len - (len / 2 + 1)) H locs ls (by omega) (by omega) (by omega) (by omega) (fun z g1 g2 => by have := hs z (f + len / 2) g1 (by omega) (by omega); omega) (fun z g1 g2 => h6 z (by omega) g2) hw (lv_sub hl [1, 4, 5, 0] rfl)
set_option maxHeartbeats 4000000 in
set_option maxRecDepth 100000 in
/-- OwnArrays.lowerBound: the first place of [lo, to) whose value is not below the one at pos -/
theorem m_lowerBound (l : Launch) (D : va_G) (dA : ClassId) (x r fa ga : Nat) (a : Int → Int) (lo to pos : Int) (h0 : 0 ≤ lo) (h1 : lo ≤ to) (h48 : to ≤ 48) (hp : 0 ≤ pos ∧ pos < 48) (hs : ss_Srt lo to a) : MetI l D dA x r fa ga yX3_lowerBound cX3_lowerBound 7 ({ frames := 1, cells := 0, slots := 0, locals := 24 }) [.int (zI lo), .int (zI to), .int (zI pos), .ref r] a (fun f u => u = a ∧ lo ≤ f ∧ f ≤ to ∧ (∀ z, lo ≤ z → z < f → a z < a pos) ∧ ∀ z, f ≤ z → z < to → a pos ≤ a z) := by
  intro sz
  refine Met.ofW (cc := cX3_lowerBound) (maxL := 7) (ret := some .int) (by decide) rfl ?_
  intro p e s m args below meth c s₁ B hml hv
  obtain ⟨rfl, hv⟩ := hv
  obtain ⟨C, hw, hsz⟩ := ss_in B hml hv
  subst hsz
  have hr := B.returns
  have hlocks := B.notSynchronized
  have C : Cx p m c s _ cX3_lowerBound 7 RX3 D dA := C
  have hx := C.ex
  have hb := C.by_
  have hown : s.vm.findClass RX3 = some m.cls := C.ow
  refine ss_start (lv := [(0, .int (zI lo)), (1, .int (zI to)), (2, .int (zI pos)), (3, .ref r)]) (Nat.le_of_ble_eq_true rfl) rfl (fun ls hl => ?_)
  refine lv_iload_n hx hb dX3_lowerBound_0 rfl (lv_at hl 1 rfl) ?_
  refine lv_iload_n hx hb dX3_lowerBound_1 rfl (lv_at hl 0 rfl) ?_
  refine zv_isub hx hb dX3_lowerBound_2 ?_
  refine lv_istore (lv' := [(4, .int (zI (to - lo))), (0, .int (zI lo)), (1, .int (zI to)), (2, .int (zI pos)), (3, .ref r)]) hx hb dX3_lowerBound_3 hl (by decide) rfl (fun ls hl => ?_)
  refine w_lowerBound_loop C ⟨Nat.le_of_ble_eq_true rfl, Nat.le_of_ble_eq_true rfl⟩ ⟨Nat.le_refl 0, Nat.le_refl 0⟩ h0 h48 hp hs (fun f H locs ls g1 g2 g3 g4 hw hl => ?_) (to - lo + 1).toNat lo (to - lo) _ _ ls (by omega) (by omega) (by omega) (by omega) (fun z g1 g2 => by omega) (fun z g1 g2 => by omega) hw (lv_sub hl [1, 3, 4, 0] rfl)
  refine lv_iload_n hx hb dX3_lowerBound_58 rfl (lv_at hl 0 rfl) ?_
  exact ss_iret C hr hlocks hw ⟨rfl, g1, g2, g3, g4⟩ dX3_lowerBound_59
set_option maxHeartbeats 4000000 in
set_option maxRecDepth 100000 in
/-- the loop of upperBound at its head -/
theorem w_upperBound_loop {a : Int → Int} (C : Cx p m c s args cX3_upperBound 7 RX3 D dA) (hR : 1 ≤ R.frames ∧ 24 ≤ R.locals) (hf : cells ≤ R.cells ∧ slots ≤ R.slots) {lo to pos : Int} (h0 : 0 ≤ lo) (h48 : to ≤ 48) (hp : 0 ≤ pos ∧ pos < 48) (hs : ss_Srt lo to a)
    (kk : ∀ (f : Int) (H : Heap) (locs : List Loc) (ls : Array Slot), lo ≤ f → f ≤ to → (∀ z, lo ≤ z → z < f → a z ≤ a pos) → (∀ z, f ≤ z → z < to → a pos < a z) → Wa D dA x r fa ga s a H locs → lv_has ls 7 [(0, .int (zI f))] → W p l e R s m args below meth c H locs cells slots Q (F0 m 58 ls [])) :
    ∀ (n : Nat) (f len : Int) (H : Heap) (locs : List Loc) (ls : Array Slot), len < (n : Int) → lo ≤ f → 0 ≤ len → f + len ≤ to → (∀ z, lo ≤ z → z < f → a z ≤ a pos) → (∀ z, f + len ≤ z → z < to → a pos < a z) → Wa D dA x r fa ga s a H locs → lv_has ls 7 [(0, .int (zI f)), (2, .int (zI pos)), (3, .ref r), (4, .int (zI len))] → W p l e R s m args below meth c H locs cells slots Q (F0 m 5 ls []) := by
  have hx := C.ex
  have hb := C.by_
  intro n
  induction n with
  | zero =>
    intro f len H locs ls h1 h2 h3
    exact absurd h1 (by omega)
  | succ n ih =>
    intro f len H locs ls h1 h2 h3 h4 h5 h6 hw hl
    refine lv_iload hx hb dX3_upperBound_5 (lv_at hl 3 rfl) ?_
    refine zv_if_le (tgt := 58) hx hb dX3_upperBound_7 (by decide) (by omega) (fun c1 => ?_) (fun c1 => ?_)
    · exact kk f H locs ls h2 (by omega) h5 (fun z g1 g2 => h6 z (by omega) g2) hw (lv_sub hl [0] rfl)
    · refine lv_iload hx hb dX3_upperBound_10 (lv_at hl 3 rfl) ?_
      refine lv_iconst (v := zI (2)) hx hb dX3_upperBound_12 rfl ?_
      refine zv_idiv2 hx hb dX3_upperBound_13 (by omega) ?_
      refine lv_istore (lv' := [(5, .int (zI (len / 2))), (0, .int (zI f)), (2, .int (zI pos)), (3, .ref r), (4, .int (zI len))]) hx hb dX3_upperBound_14 hl (by decide) rfl (fun ls hl => ?_)
      refine lv_iload_n hx hb dX3_upperBound_16 rfl (lv_at hl 1 rfl) ?_
      refine lv_iload hx hb dX3_upperBound_17 (lv_at hl 0 rfl) ?_
      refine zv_iadd hx hb dX3_upperBound_19 ?_
      refine lv_istore (lv' := [(6, .int (zI (f + (len / 2)))), (5, .int (zI (len / 2))), (0, .int (zI f)), (2, .int (zI pos)), (3, .ref r), (4, .int (zI len))]) hx hb dX3_upperBound_20 hl (by decide) rfl (fun ls hl => ?_)
      refine lv_aload_n hx hb dX3_upperBound_22 rfl (lv_at hl 4 rfl) ?_
      refine lv_iload_n hx hb dX3_upperBound_23 rfl (lv_at hl 3 rfl) ?_
      refine lv_iload hx hb dX3_upperBound_24 (lv_at hl 0 rfl) ?_
      refine ss_cmp C hw (i := pos) (j := f + (len / 2)) (rest := []) (by omega) (by omega) hl.1 hR hf (Nat.le_of_ble_eq_true rfl) dX3_upperBound_26 (fun z H locs hc hw => ?_)
      unfold cm at hc
      refine zv_if_ge (tgt := 41) hx hb dX3_upperBound_31 (by decide) (by omega) (fun c2 => ?_) (fun c2 => ?_)
      · refine lv_iload hx hb dX3_upperBound_41 (lv_at hl 0 rfl) ?_
        refine lv_iconst (v := zI (1)) hx hb dX3_upperBound_43 rfl ?_
        refine zv_iadd hx hb dX3_upperBound_44 ?_
        refine lv_istore_n (lv' := [(0, .int (zI (f + (len / 2) + 1))), (6, .int (zI (f + (len / 2)))), (5, .int (zI (len / 2))), (2, .int (zI pos)), (3, .ref r), (4, .int (zI len))]) hx hb dX3_upperBound_45 rfl hl (by decide) rfl (fun ls hl => ?_)
        refine lv_iload hx hb dX3_upperBound_46 (lv_at hl 5 rfl) ?_
        refine lv_iload hx hb dX3_upperBound_48 (lv_at hl 2 rfl) ?_
        refine lv_iconst (v := zI (1)) hx hb dX3_upperBound_50 rfl ?_
        refine zv_iadd hx hb dX3_upperBound_51 ?_
        refine zv_isub hx hb dX3_upperBound_52 ?_
        refine lv_istore (lv' := [(4, .int (zI (len - (len / 2 + 1)))), (0, .int (zI (f + (len / 2) + 1))), (6, .int (zI (f + (len / 2)))), (5, .int (zI (len / 2))), (2, .int (zI pos)), (3, .ref r)]) hx hb dX3_upperBound_53 hl (by decide) rfl (fun ls hl => ?_)
        refine lv_goto (tgt := 5) hx hb dX3_upperBound_55 (by decide) ?_
        exact ih (f + len / 2 + 1) (len - (len / 2 + 1)) H locs ls (by omega) (by omega) (by omega) (by omega) (fun z g1 g2 => by have := hs z (f + len / 2) g1 (by omega) (by omega); omega) (fun z g1 g2 => h6 z (by omega) g2) hw (lv_sub hl [1, 4, 5, 0] rfl)
      · refine lv_iload hx hb dX3_upperBound_34 (lv_at hl 1 rfl) ?_
        refine lv_istore (lv' := [(4, .int (zI (len / 2))), (6, .int (zI (f + (len / 2)))), (5, .int (zI (len / 2))), (0, .int (zI f)), (2, .int (zI pos)), (3, .ref r)]) hx hb dX3_upperBound_36 hl (by decide) rfl (fun ls hl => ?_)
        refine lv_goto (tgt := 55) hx hb dX3_upperBound_38 (by decide) ?_
        refine lv_goto (tgt := 5) hx hb dX3_upperBound_55 (by decide) ?_
        exact ih f (len / 2) H locs ls (by omega) (by omega) (by omega) (by omega) h5 (fun z g1 g2 => by have := hs (f + len / 2) z (by omega) g1 g2; omega) hw (lv_sub hl [3, 4, 5, 0] rfl)
set_option maxHeartbeats 4000000 in
set_option maxRecDepth 100000 in
/-- OwnArrays.upperBound: the first place of [lo, to) whose value is above the one at pos -/
theorem m_upperBound (l : Launch) (D : va_G) (dA : ClassId) (x r fa ga : Nat) (a : Int → Int) (lo to pos : Int) (h0 : 0 ≤ lo) (h1 : lo ≤ to) (h48 : to ≤ 48) (hp : 0 ≤ pos ∧ pos < 48) (hs : ss_Srt lo to a) : MetI l D dA x r fa ga yX3_upperBound cX3_upperBound 7 ({ frames := 1, cells := 0, slots := 0, locals := 24 }) [.int (zI lo), .int (zI to), .int (zI pos), .ref r] a (fun f u => u = a ∧ lo ≤ f ∧ f ≤ to ∧ (∀ z, lo ≤ z → z < f → a z ≤ a pos) ∧ ∀ z, f ≤ z → z < to → a pos < a z) := by
  intro sz
  refine Met.ofW (cc := cX3_upperBound) (maxL := 7) (ret := some .int) (by decide) rfl ?_
  intro p e s m args below meth c s₁ B hml hv
  obtain ⟨rfl, hv⟩ := hv
  obtain ⟨C, hw, hsz⟩ := ss_in B hml hv
  subst hsz
  have hr := B.returns
  have hlocks := B.notSynchronized
  have C : Cx p m c s _ cX3_upperBound 7 RX3 D dA := C
  have hx := C.ex
  have hb := C.by_
  have hown : s.vm.findClass RX3 = some m.cls := C.ow
  refine ss_start (lv := [(0, .int (zI lo)), (1, .int (zI to)), (2, .int (zI pos)), (3, .ref r)]) (Nat.le_of_ble_eq_true rfl) rfl (fun ls hl => ?_)
  refine lv_iload_n hx hb dX3_upperBound_0 rfl (lv_at hl 1 rfl) ?_
  refine lv_iload_n hx hb dX3_upperBound_1 rfl (lv_at hl 0 rfl) ?_
  refine zv_isub hx hb dX3_upperBound_2 ?_
  refine lv_istore (lv' := [(4, .int (zI (to - lo))), (0, .int (zI lo)), (1, .int (zI to)), (2, .int (zI pos)), (3, .ref r)]) hx hb dX3_upperBound_3 hl (by decide) rfl (fun ls hl => ?_)
  refine w_upperBound_loop C ⟨Nat.le_of_ble_eq_true rfl, Nat.le_of_ble_eq_true rfl⟩ ⟨Nat.le_refl 0, Nat.le_refl 0⟩ h0 h48 hp hs (fun f H locs ls g1 g2 g3 g4 hw hl => ?_) (to - lo + 1).toNat lo (to - lo) _ _ ls (by omega) (by omega) (by omega) (by omega) (fun z g1 g2 => by omega) (fun z g1 g2 => by omega) hw (lv_sub hl [1, 3, 4, 0] rfl)
  refine lv_iload_n hx hb dX3_upperBound_58 rfl (lv_at hl 0 rfl) ?_
  exact ss_iret C hr hlocks hw ⟨rfl, g1, g2, g3, g4⟩ dX3_upperBound_59
set_option maxHeartbeats 4000000 in
set_option maxRecDepth 100000 in
/-- OwnArrays.med3: one of the three -/
theorem m_med3 (l : Launch) (D : va_G) (dA : ClassId) (x r fa ga : Nat) (a : Int → Int) (i j k : Int) (hi : 0 ≤ i ∧ i < 48) (hj : 0 ≤ j ∧ j < 48) (hk : 0 ≤ k ∧ k < 48) : MetI l D dA x r fa ga yX3_med3 cX3_med3 7 ({ frames := 1, cells := 0, slots := 0, locals := 24 }) [.int (zI i), .int (zI j), .int (zI k), .ref r] a (fun f u => u = a ∧ (f = i ∨ f = j ∨ f = k)) := by
  intro sz
  refine Met.ofW (cc := cX3_med3) (maxL := 7) (ret := some .int) (by decide) rfl ?_
  intro p e s m args below meth c s₁ B hml hv
  obtain ⟨rfl, hv⟩ := hv
  obtain ⟨C, hw, hsz⟩ := ss_in B hml hv
  subst hsz
  have hr := B.returns
  have hlocks := B.notSynchronized
  have C : Cx p m c s _ cX3_med3 7 RX3 D dA := C
  have hx := C.ex
  have hb := C.by_
  have hown : s.vm.findClass RX3 = some m.cls := C.ow
  have hR : 1 ≤ (headSpec (ws_ yX3_med3 cX3_med3 7 (some .int)) ({ frames := 1, cells := 0, slots := 0, locals := 24 })).room.frames ∧ 24 ≤ (headSpec (ws_ yX3_med3 cX3_med3 7 (some .int)) ({ frames := 1, cells := 0, slots := 0, locals := 24 })).room.locals := ⟨Nat.le_of_ble_eq_true rfl, Nat.le_of_ble_eq_true rfl⟩
  have hf : 0 ≤ (headSpec (ws_ yX3_med3 cX3_med3 7 (some .int)) ({ frames := 1, cells := 0, slots := 0, locals := 24 })).room.cells ∧ 0 ≤ (headSpec (ws_ yX3_med3 cX3_med3 7 (some .int)) ({ frames := 1, cells := 0, slots := 0, locals := 24 })).room.slots := ⟨Nat.le_refl 0, Nat.le_refl 0⟩
  refine ss_start (lv := [(0, .int (zI i)), (1, .int (zI j)), (2, .int (zI k)), (3, .ref r)]) (Nat.le_of_ble_eq_true rfl) rfl (fun ls hl => ?_)
  refine lv_aload_n hx hb dX3_med3_0 rfl (lv_at hl 3 rfl) ?_
  refine lv_iload_n hx hb dX3_med3_1 rfl (lv_at hl 0 rfl) ?_
  refine lv_iload_n hx hb dX3_med3_2 rfl (lv_at hl 1 rfl) ?_
  refine ss_cmp C hw (i := i) (j := j) (rest := []) (by omega) (by omega) hl.1 hR hf (Nat.le_of_ble_eq_true rfl) dX3_med3_3 (fun zab H locs h1 hw => ?_)
  unfold cm at h1
  refine lv_istore (lv' := [(4, .int (zI zab)), (0, .int (zI i)), (1, .int (zI j)), (2, .int (zI k)), (3, .ref r)]) hx hb dX3_med3_8 hl (by decide) rfl (fun ls hl => ?_)
  refine lv_aload_n hx hb dX3_med3_10 rfl (lv_at hl 4 rfl) ?_
  refine lv_iload_n hx hb dX3_med3_11 rfl (lv_at hl 1 rfl) ?_
  refine lv_iload_n hx hb dX3_med3_12 rfl (lv_at hl 3 rfl) ?_
  refine ss_cmp C hw (i := i) (j := k) (rest := []) (by omega) (by omega) hl.1 hR hf (Nat.le_of_ble_eq_true rfl) dX3_med3_13 (fun zac H locs h2 hw => ?_)
  unfold cm at h2
  refine lv_istore (lv' := [(5, .int (zI zac)), (4, .int (zI zab)), (0, .int (zI i)), (1, .int (zI j)), (2, .int (zI k)), (3, .ref r)]) hx hb dX3_med3_18 hl (by decide) rfl (fun ls hl => ?_)
  refine lv_aload_n hx hb dX3_med3_20 rfl (lv_at hl 5 rfl) ?_
  refine lv_iload_n hx hb dX3_med3_21 rfl (lv_at hl 3 rfl) ?_
  refine lv_iload_n hx hb dX3_med3_22 rfl (lv_at hl 4 rfl) ?_
  refine ss_cmp C hw (i := j) (j := k) (rest := []) (by omega) (by omega) hl.1 hR hf (Nat.le_of_ble_eq_true rfl) dX3_med3_23 (fun zbc H locs h3 hw => ?_)
  unfold cm at h3
  refine lv_istore (lv' := [(6, .int (zI zbc)), (5, .int (zI zac)), (4, .int (zI zab)), (0, .int (zI i)), (1, .int (zI j)), (2, .int (zI k)), (3, .ref r)]) hx hb dX3_med3_28 hl (by decide) rfl (fun ls hl => ?_)
  refine lv_iload hx hb dX3_med3_30 (lv_at hl 2 rfl) ?_
  refine zv_if_ge (tgt := 57) hx hb dX3_med3_32 (by decide) (by omega) (fun c0 => ?_) (fun c0 => ?_)
  · refine lv_iload hx hb dX3_med3_57 (lv_at hl 0 rfl) ?_
    refine zv_if_le (tgt := 66) hx hb dX3_med3_59 (by decide) (by omega) (fun c1 => ?_) (fun c1 => ?_)
    · refine lv_iload hx hb dX3_med3_66 (lv_at hl 1 rfl) ?_
      refine zv_if_le (tgt := 75) hx hb dX3_med3_68 (by decide) (by omega) (fun c2 => ?_) (fun c2 => ?_)
      · refine lv_iload_n hx hb dX3_med3_75 rfl (lv_at hl 3 rfl) ?_
        exact ss_iret C hr hlocks hw ⟨rfl, Or.inl rfl⟩ dX3_med3_76
      · refine lv_iload_n hx hb dX3_med3_71 rfl (lv_at hl 5 rfl) ?_
        refine lv_goto (tgt := 76) hx hb dX3_med3_72 (by decide) ?_
        exact ss_iret C hr hlocks hw ⟨rfl, Or.inr (Or.inr rfl)⟩ dX3_med3_76
    · refine lv_iload_n hx hb dX3_med3_62 rfl (lv_at hl 4 rfl) ?_
      refine lv_goto (tgt := 76) hx hb dX3_med3_63 (by decide) ?_
      exact ss_iret C hr hlocks hw ⟨rfl, Or.inr (Or.inl rfl)⟩ dX3_med3_76
  · refine lv_iload hx hb dX3_med3_35 (lv_at hl 0 rfl) ?_
    refine zv_if_ge (tgt := 44) hx hb dX3_med3_37 (by decide) (by omega) (fun c1 => ?_) (fun c1 => ?_)
    · refine lv_iload hx hb dX3_med3_44 (lv_at hl 1 rfl) ?_
      refine zv_if_ge (tgt := 53) hx hb dX3_med3_46 (by decide) (by omega) (fun c2 => ?_) (fun c2 => ?_)
      · refine lv_iload_n hx hb dX3_med3_53 rfl (lv_at hl 3 rfl) ?_
        refine lv_goto (tgt := 76) hx hb dX3_med3_54 (by decide) ?_
        exact ss_iret C hr hlocks hw ⟨rfl, Or.inl rfl⟩ dX3_med3_76
      · refine lv_iload_n hx hb dX3_med3_49 rfl (lv_at hl 5 rfl) ?_
        refine lv_goto (tgt := 76) hx hb dX3_med3_50 (by decide) ?_
        exact ss_iret C hr hlocks hw ⟨rfl, Or.inr (Or.inr rfl)⟩ dX3_med3_76
    · refine lv_iload_n hx hb dX3_med3_40 rfl (lv_at hl 4 rfl) ?_
      refine lv_goto (tgt := 76) hx hb dX3_med3_41 (by decide) ?_
      exact ss_iret C hr hlocks hw ⟨rfl, Or.inr (Or.inl rfl)⟩ dX3_med3_76
set_option maxHeartbeats 4000000 in
set_option maxRecDepth 100000 in
/-- the loop of OwnArrays.swap at its head -/
theorem w_swap_loop {a : Int → Int} (C : Cx p m c s args cX3_swap 5 RX3 D dA) (hR : 1 ≤ R.frames ∧ 24 ≤ R.locals) (hf : cells ≤ R.cells ∧ slots ≤ R.slots) {p0 q0 k : Int} (h0 : 0 ≤ p0) (hpq : p0 + k ≤ q0) (h48 : q0 + k ≤ 48)
    (kk : ∀ (b : Int → Int) (H : Heap) (locs : List Loc) (ls : Array Slot), ss_Vsw p0 q0 k a b → ss_Pm p0 (q0 + k) a b → Wa D dA x r fa ga s b H locs → W p l e R s m args below meth c H locs cells slots Q (F0 m 29 ls [])) :
    ∀ (n : Nat) (i : Int) (b : Int → Int) (H : Heap) (locs : List Loc) (ls : Array Slot), k - i < (n : Int) → 0 ≤ i → i ≤ k → ss_Vsw p0 q0 i a b → ss_Pm p0 (q0 + k) a b → Wa D dA x r fa ga s b H locs → lv_has ls 5 [(0, .ref r), (1, .int (zI (p0 + i))), (2, .int (zI (q0 + i))), (3, .int (zI k)), (4, .int (zI i))] → W p l e R s m args below meth c H locs cells slots Q (F0 m 3 ls []) := by
  have hx := C.ex
  have hb := C.by_
  intro n
  induction n with
  | zero =>
    intro i b H locs ls h1 h2 h3
    exact absurd h1 (by omega)
  | succ n ih =>
    intro i b H locs ls h1 h2 h3 h4 h5 hw hl
    refine lv_iload hx hb dX3_swap_3 (lv_at hl 4 rfl) ?_
    refine lv_iload_n hx hb dX3_swap_5 rfl (lv_at hl 3 rfl) ?_
    refine zv_icmp_ge (tgt := 29) hx hb dX3_swap_6 (by decide) (by omega) (by omega) (fun c1 => ?_) (fun c1 => ?_)
    · have e : i = k := by omega
      subst e
      exact kk b H locs ls h4 h5 hw
    · refine lv_aload_n hx hb dX3_swap_9 rfl (lv_at hl 0 rfl) ?_
      refine lv_iload_n hx hb dX3_swap_10 rfl (lv_at hl 1 rfl) ?_
      refine lv_iload_n hx hb dX3_swap_11 rfl (lv_at hl 2 rfl) ?_
      refine ss_swp C hw (i := p0 + i) (j := q0 + i) (rest := []) (by omega) (by omega) hl.1 hR hf (Nat.le_of_ble_eq_true rfl) dX3_swap_12 (fun H locs hw => ?_)
      refine zv_iinc (b := i + 1) (lv' := [(4, .int (zI (i + 1))), (0, .ref r), (1, .int (zI (p0 + i))), (2, .int (zI (q0 + i))), (3, .int (zI k))]) hx hb dX3_swap_17 hl (k := 4) rfl (by omega) (by decide) rfl (fun ls hl => ?_)
      refine zv_iinc (b := p0 + (i + 1)) (lv' := [(1, .int (zI (p0 + (i + 1)))), (4, .int (zI (i + 1))), (0, .ref r), (2, .int (zI (q0 + i))), (3, .int (zI k))]) hx hb dX3_swap_20 hl (k := 2) rfl (by omega) (by decide) rfl (fun ls hl => ?_)
      refine zv_iinc (b := q0 + (i + 1)) (lv' := [(2, .int (zI (q0 + (i + 1)))), (1, .int (zI (p0 + (i + 1)))), (4, .int (zI (i + 1))), (0, .ref r), (3, .int (zI k))]) hx hb dX3_swap_23 hl (k := 3) rfl (by omega) (by decide) rfl (fun ls hl => ?_)
      refine lv_goto (tgt := 3) hx hb dX3_swap_26 (by decide) ?_
      exact ih (i + 1) _ H locs ls (by omega) (by omega) (by omega) (ss_Vsw_step h4 h2 (by omega)) (h5.tr (ss_Pm.sw h0 h48 (by omega) (by omega) (by omega) (by omega))) hw (lv_sub hl [3, 1, 0, 4, 2] rfl)
set_option maxHeartbeats 4000000 in
set_option maxRecDepth 100000 in
/-- OwnArrays.swap(swapper, p0, q0, k): the two ranges of k places change places -/
theorem m_vswap (l : Launch) (D : va_G) (dA : ClassId) (x r fa ga : Nat) (a : Int → Int) (p0 q0 k : Int) (h0 : 0 ≤ p0) (hk : 0 ≤ k) (hpq : p0 + k ≤ q0) (h48 : q0 + k ≤ 48) : MetV l D dA x r fa ga yX3_swap cX3_swap 5 ({ frames := 1, cells := 0, slots := 0, locals := 24 }) [.ref r, .int (zI p0), .int (zI q0), .int (zI k)] a (fun u => ss_Vsw p0 q0 k a u ∧ ss_Pm p0 (q0 + k) a u) := by
  intro sz
  refine Met.ofW (cc := cX3_swap) (maxL := 5) (ret := none) (by decide) rfl ?_
  intro p e s m args below meth c s₁ B hml hv
  obtain ⟨rfl, hv⟩ := hv
  obtain ⟨C, hw, hsz⟩ := ss_in B hml hv
  subst hsz
  have hr := B.returns
  have hlocks := B.notSynchronized
  have C : Cx p m c s _ cX3_swap 5 RX3 D dA := C
  have hx := C.ex
  have hb := C.by_
  have hown : s.vm.findClass RX3 = some m.cls := C.ow
  refine ss_start (lv := [(0, .ref r), (1, .int (zI p0)), (2, .int (zI q0)), (3, .int (zI k))]) (Nat.le_of_ble_eq_true rfl) rfl (fun ls hl => ?_)
  refine lv_iconst (v := zI (0)) hx hb dX3_swap_0 rfl ?_
  refine lv_istore (lv' := [(4, .int (zI 0)), (0, .ref r), (1, .int (zI p0)), (2, .int (zI q0)), (3, .int (zI k))]) hx hb dX3_swap_1 hl (by decide) rfl (fun ls hl => ?_)
  have hl : lv_has ls 5 [(0, .ref r), (1, .int (zI (p0 + 0))), (2, .int (zI (q0 + 0))), (3, .int (zI k)), (4, .int (zI 0))] := by
    rw [Int.add_zero, Int.add_zero]; exact lv_sub hl [1, 2, 3, 4, 0] rfl
  refine w_swap_loop C ⟨Nat.le_of_ble_eq_true rfl, Nat.le_of_ble_eq_true rfl⟩ ⟨Nat.le_refl 0, Nat.le_refl 0⟩ h0 hpq h48 (fun b H locs ls g1 g2 hw => ?_) (k + 1).toNat 0 a _ _ ls (by omega) (by omega) (by omega) ss_Vsw_0 ss_Pm.rf hw hl
  exact ss_vret C hr hlocks hw ⟨g1, g2⟩ dX3_swap_29
end SSB
end
section
/-! OWNARRAYS 2: insertion (in both sorts), inPlaceMerge, mergeSort -/
section SSE
variable {p : Program} {l : Launch} {e : Env} {R : Room} {s : State} {m : MethodId} {args : Array Value} {below : List Frame} {meth : Method} {c : Code} {cells slots : Nat} {Q : State → Prop}
variable {D : va_G} {dA : ClassId} {x r fa ga : Nat}
set_option maxHeartbeats 4000000 in
set_option maxRecDepth 100000 in
/-- the inner loop of the insertion in mergeSort -/
theorem w_mergeSort_in {a : Int → Int} (C : Cx p m c s args cX3_mergeSort 7 RX3 D dA) (hR : 1 ≤ R.frames ∧ 24 ≤ R.locals) (hf : cells ≤ R.cells ∧ slots ≤ R.slots) {lo hi i : Int} (h0 : 0 ≤ lo) (h48 : hi ≤ 48) (hi2 : i < hi)
    (kk : ∀ (b : Int → Int) (H : Heap) (locs : List Loc) (ls : Array Slot), ss_Srt lo (i + 1) b → ss_Pm lo hi a b → Wa D dA x r fa ga s b H locs → lv_has ls 7 [(0, .int (zI lo)), (1, .int (zI hi)), (2, .ref r), (3, .ref r), (5, .int (zI i))] → W p l e R s m args below meth c H locs cells slots Q (F0 m 64 ls [])) :
    ∀ (n : Nat) (j : Int) (b : Int → Int) (H : Heap) (locs : List Loc) (ls : Array Slot), j - lo < (n : Int) → lo ≤ j → j ≤ i → ss_Ins lo i j b → ss_Pm lo hi a b → Wa D dA x r fa ga s b H locs → lv_has ls 7 [(0, .int (zI lo)), (1, .int (zI hi)), (2, .ref r), (3, .ref r), (5, .int (zI i)), (6, .int (zI j))] → W p l e R s m args below meth c H locs cells slots Q (F0 m 25 ls []) := by
  have hx := C.ex
  have hb := C.by_
  intro n
  induction n with
  | zero =>
    intro j b H locs ls h1 h2 h3
    exact absurd h1 (by omega)
  | succ n ih =>
    intro j b H locs ls h1 h2 h3 h4 h5 hw hl
    refine lv_iload hx hb dX3_mergeSort_25 (lv_at hl 5 rfl) ?_
    refine lv_iload_n hx hb dX3_mergeSort_27 rfl (lv_at hl 0 rfl) ?_
    refine zv_icmp_le (tgt := 64) hx hb dX3_mergeSort_28 (by decide) (by omega) (by omega) (fun c1 => ?_) (fun c1 => ?_)
    · exact kk b H locs ls (ss_Ins_end h4 h2 h3 (Or.inl (by omega))) h5 hw (lv_sub hl [0, 1, 2, 3, 4] rfl)
    · refine lv_aload_n hx hb dX3_mergeSort_31 rfl (lv_at hl 2 rfl) ?_
      refine lv_iload hx hb dX3_mergeSort_32 (lv_at hl 5 rfl) ?_
      refine lv_iconst (v := zI (1)) hx hb dX3_mergeSort_34 rfl ?_
      refine zv_isub hx hb dX3_mergeSort_35 ?_
      refine lv_iload hx hb dX3_mergeSort_36 (lv_at hl 5 rfl) ?_
      refine ss_cmp C hw (i := j - 1) (j := j) (rest := []) (by omega) (by omega) hl.1 hR hf (Nat.le_of_ble_eq_true rfl) dX3_mergeSort_38 (fun z H locs hc hw => ?_)
      unfold cm at hc
      refine zv_if_le (tgt := 64) hx hb dX3_mergeSort_43 (by decide) (by omega) (fun c2 => ?_) (fun c2 => ?_)
      · exact kk b H locs ls (ss_Ins_end h4 h2 h3 (Or.inr (by omega))) h5 hw (lv_sub hl [0, 1, 2, 3, 4] rfl)
      · refine lv_aload_n hx hb dX3_mergeSort_46 rfl (lv_at hl 3 rfl) ?_
        refine lv_iload hx hb dX3_mergeSort_47 (lv_at hl 5 rfl) ?_
        refine lv_iload hx hb dX3_mergeSort_49 (lv_at hl 5 rfl) ?_
        refine lv_iconst (v := zI (1)) hx hb dX3_mergeSort_51 rfl ?_
        refine zv_isub hx hb dX3_mergeSort_52 ?_
        refine ss_swp C hw (i := j) (j := j - 1) (rest := []) (by omega) (by omega) hl.1 hR hf (Nat.le_of_ble_eq_true rfl) dX3_mergeSort_53 (fun H locs hw => ?_)
        refine zv_iinc (b := j - 1) (lv' := [(6, .int (zI (j - 1))), (0, .int (zI lo)), (1, .int (zI hi)), (2, .ref r), (3, .ref r), (5, .int (zI i))]) hx hb dX3_mergeSort_58 hl (k := 5) rfl (by omega) (by decide) rfl (fun ls hl => ?_)
        refine lv_goto (tgt := 25) hx hb dX3_mergeSort_61 (by decide) ?_
        exact ih (j - 1) _ H locs ls (by omega) (by omega) (by omega) (ss_Ins_step h4 (by omega) h3 (by omega)) (h5.tr (ss_Pm.sw h0 h48 (by omega) (by omega) (by omega) (by omega))) hw (lv_sub hl [1, 2, 3, 4, 5, 0] rfl)
set_option maxHeartbeats 4000000 in
set_option maxRecDepth 100000 in
/-- the outer loop of the insertion in mergeSort -/
theorem w_mergeSort_ins {a : Int → Int} (C : Cx p m c s args cX3_mergeSort 7 RX3 D dA) (hR : 1 ≤ R.frames ∧ 24 ≤ R.locals) (hf : cells ≤ R.cells ∧ slots ≤ R.slots) {lo hi : Int} (h0 : 0 ≤ lo) (h48 : hi ≤ 48)
    (kk : ∀ (b : Int → Int) (H : Heap) (locs : List Loc) (ls : Array Slot), ss_Srt lo hi b → ss_Pm lo hi a b → Wa D dA x r fa ga s b H locs → W p l e R s m args below meth c H locs cells slots Q (F0 m 70 ls [])) :
    ∀ (n : Nat) (i : Int) (b : Int → Int) (H : Heap) (locs : List Loc) (ls : Array Slot), hi - i < (n : Int) → lo ≤ i → i ≤ hi → ss_Srt lo i b → ss_Pm lo hi a b → Wa D dA x r fa ga s b H locs → lv_has ls 7 [(0, .int (zI lo)), (1, .int (zI hi)), (2, .ref r), (3, .ref r), (5, .int (zI i))] → W p l e R s m args below meth c H locs cells slots Q (F0 m 15 ls []) := by
  have hx := C.ex
  have hb := C.by_
  intro n
  induction n with
  | zero =>
    intro i b H locs ls h1 h2 h3
    exact absurd h1 (by omega)
  | succ n ih =>
    intro i b H locs ls h1 h2 h3 h4 h5 hw hl
    refine lv_iload hx hb dX3_mergeSort_15 (lv_at hl 4 rfl) ?_
    refine lv_iload_n hx hb dX3_mergeSort_17 rfl (lv_at hl 1 rfl) ?_
    refine zv_icmp_ge (tgt := 70) hx hb dX3_mergeSort_18 (by decide) (by omega) (by omega) (fun c1 => ?_) (fun c1 => ?_)
    · have e : i = hi := by omega
      subst e
      exact kk b H locs ls h4 h5 hw
    · refine lv_iload hx hb dX3_mergeSort_21 (lv_at hl 4 rfl) ?_
      refine lv_istore (lv' := [(6, .int (zI i)), (0, .int (zI lo)), (1, .int (zI hi)), (2, .ref r), (3, .ref r), (5, .int (zI i))]) hx hb dX3_mergeSort_23 hl (by decide) rfl (fun ls hl => ?_)
      refine w_mergeSort_in C hR hf h0 h48 (i := i) (by omega) (fun b2 H locs ls g1 g2 hw hl => ?_) (i - lo + 1).toNat i b H locs ls (by omega) h2 (Int.le_refl i) (ss_Ins_0 h4) h5 hw (lv_sub hl [1, 2, 3, 4, 5, 0] rfl)
      refine zv_iinc (b := i + 1) (lv' := [(5, .int (zI (i + 1))), (0, .int (zI lo)), (1, .int (zI hi)), (2, .ref r), (3, .ref r)]) hx hb dX3_mergeSort_64 hl (k := 4) rfl (by omega) (by decide) rfl (fun ls hl => ?_)
      refine lv_goto (tgt := 15) hx hb dX3_mergeSort_67 (by decide) ?_
      exact ih (i + 1) b2 H locs ls (by omega) (by omega) (by omega) g1 g2 hw (lv_sub hl [1, 2, 3, 4, 0] rfl)
set_option maxHeartbeats 4000000 in
set_option maxRecDepth 100000 in
/-- the inner loop of the insertion in quickSort -/
theorem w_quickSort_in {a : Int → Int} (C : Cx p m c s args cX3_quickSort 13 RX3 D dA) (hR : 1 ≤ R.frames ∧ 24 ≤ R.locals) (hf : cells ≤ R.cells ∧ slots ≤ R.slots) {lo hi i : Int} (h0 : 0 ≤ lo) (h48 : hi ≤ 48) (hi2 : i < hi)
    (kk : ∀ (b : Int → Int) (H : Heap) (locs : List Loc) (ls : Array Slot), ss_Srt lo (i + 1) b → ss_Pm lo hi a b → Wa D dA x r fa ga s b H locs → lv_has ls 13 [(0, .int (zI lo)), (1, .int (zI hi)), (2, .ref r), (3, .ref r), (5, .int (zI i))] → W p l e R s m args below meth c H locs cells slots Q (F0 m 64 ls [])) :
    ∀ (n : Nat) (j : Int) (b : Int → Int) (H : Heap) (locs : List Loc) (ls : Array Slot), j - lo < (n : Int) → lo ≤ j → j ≤ i → ss_Ins lo i j b → ss_Pm lo hi a b → Wa D dA x r fa ga s b H locs → lv_has ls 13 [(0, .int (zI lo)), (1, .int (zI hi)), (2, .ref r), (3, .ref r), (5, .int (zI i)), (6, .int (zI j))] → W p l e R s m args below meth c H locs cells slots Q (F0 m 25 ls []) := by
  have hx := C.ex
  have hb := C.by_
  intro n
  induction n with
  | zero =>
    intro j b H locs ls h1 h2 h3
    exact absurd h1 (by omega)
  | succ n ih =>
    intro j b H locs ls h1 h2 h3 h4 h5 hw hl
    refine lv_iload hx hb dX3_quickSort_25 (lv_at hl 5 rfl) ?_
    refine lv_iload_n hx hb dX3_quickSort_27 rfl (lv_at hl 0 rfl) ?_
    refine zv_icmp_le (tgt := 64) hx hb dX3_quickSort_28 (by decide) (by omega) (by omega) (fun c1 => ?_) (fun c1 => ?_)
    · exact kk b H locs ls (ss_Ins_end h4 h2 h3 (Or.inl (by omega))) h5 hw (lv_sub hl [0, 1, 2, 3, 4] rfl)
    · refine lv_aload_n hx hb dX3_quickSort_31 rfl (lv_at hl 2 rfl) ?_
      refine lv_iload hx hb dX3_quickSort_32 (lv_at hl 5 rfl) ?_
      refine lv_iconst (v := zI (1)) hx hb dX3_quickSort_34 rfl ?_
      refine zv_isub hx hb dX3_quickSort_35 ?_
      refine lv_iload hx hb dX3_quickSort_36 (lv_at hl 5 rfl) ?_
      refine ss_cmp C hw (i := j - 1) (j := j) (rest := []) (by omega) (by omega) hl.1 hR hf (Nat.le_of_ble_eq_true rfl) dX3_quickSort_38 (fun z H locs hc hw => ?_)
      unfold cm at hc
      refine zv_if_le (tgt := 64) hx hb dX3_quickSort_43 (by decide) (by omega) (fun c2 => ?_) (fun c2 => ?_)
      · exact kk b H locs ls (ss_Ins_end h4 h2 h3 (Or.inr (by omega))) h5 hw (lv_sub hl [0, 1, 2, 3, 4] rfl)
      · refine lv_aload_n hx hb dX3_quickSort_46 rfl (lv_at hl 3 rfl) ?_
        refine lv_iload hx hb dX3_quickSort_47 (lv_at hl 5 rfl) ?_
        refine lv_iload hx hb dX3_quickSort_49 (lv_at hl 5 rfl) ?_
        refine lv_iconst (v := zI (1)) hx hb dX3_quickSort_51 rfl ?_
        refine zv_isub hx hb dX3_quickSort_52 ?_
        refine ss_swp C hw (i := j) (j := j - 1) (rest := []) (by omega) (by omega) hl.1 hR hf (Nat.le_of_ble_eq_true rfl) dX3_quickSort_53 (fun H locs hw => ?_)
        refine zv_iinc (b := j - 1) (lv' := [(6, .int (zI (j - 1))), (0, .int (zI lo)), (1, .int (zI hi)), (2, .ref r), (3, .ref r), (5, .int (zI i))]) hx hb dX3_quickSort_58 hl (k := 5) rfl (by omega) (by decide) rfl (fun ls hl => ?_)
        refine lv_goto (tgt := 25) hx hb dX3_quickSort_61 (by decide) ?_
        exact ih (j - 1) _ H locs ls (by omega) (by omega) (by omega) (ss_Ins_step h4 (by omega) h3 (by omega)) (h5.tr (ss_Pm.sw h0 h48 (by omega) (by omega) (by omega) (by omega))) hw (lv_sub hl [1, 2, 3, 4, 5, 0] rfl)
set_option maxHeartbeats 4000000 in
set_option maxRecDepth 100000 in
/-- the outer loop of the insertion in quickSort -/
theorem w_quickSort_ins {a : Int → Int} (C : Cx p m c s args cX3_quickSort 13 RX3 D dA) (hR : 1 ≤ R.frames ∧ 24 ≤ R.locals) (hf : cells ≤ R.cells ∧ slots ≤ R.slots) {lo hi : Int} (h0 : 0 ≤ lo) (h48 : hi ≤ 48)
    (kk : ∀ (b : Int → Int) (H : Heap) (locs : List Loc) (ls : Array Slot), ss_Srt lo hi b → ss_Pm lo hi a b → Wa D dA x r fa ga s b H locs → W p l e R s m args below meth c H locs cells slots Q (F0 m 70 ls [])) :
    ∀ (n : Nat) (i : Int) (b : Int → Int) (H : Heap) (locs : List Loc) (ls : Array Slot), hi - i < (n : Int) → lo ≤ i → i ≤ hi → ss_Srt lo i b → ss_Pm lo hi a b → Wa D dA x r fa ga s b H locs → lv_has ls 13 [(0, .int (zI lo)), (1, .int (zI hi)), (2, .ref r), (3, .ref r), (5, .int (zI i))] → W p l e R s m args below meth c H locs cells slots Q (F0 m 15 ls []) := by
  have hx := C.ex
  have hb := C.by_
  intro n
  induction n with
  | zero =>
    intro i b H locs ls h1 h2 h3
    exact absurd h1 (by omega)
  | succ n ih =>
    intro i b H locs ls h1 h2 h3 h4 h5 hw hl
    refine lv_iload hx hb dX3_quickSort_15 (lv_at hl 4 rfl) ?_
    refine lv_iload_n hx hb dX3_quickSort_17 rfl (lv_at hl 1 rfl) ?_
    refine zv_icmp_ge (tgt := 70) hx hb dX3_quickSort_18 (by decide) (by omega) (by omega) (fun c1 => ?_) (fun c1 => ?_)
    · have e : i = hi := by omega
      subst e
      exact kk b H locs ls h4 h5 hw
    · refine lv_iload hx hb dX3_quickSort_21 (lv_at hl 4 rfl) ?_
      refine lv_istore (lv' := [(6, .int (zI i)), (0, .int (zI lo)), (1, .int (zI hi)), (2, .ref r), (3, .ref r), (5, .int (zI i))]) hx hb dX3_quickSort_23 hl (by decide) rfl (fun ls hl => ?_)
      refine w_quickSort_in C hR hf h0 h48 (i := i) (by omega) (fun b2 H locs ls g1 g2 hw hl => ?_) (i - lo + 1).toNat i b H locs ls (by omega) h2 (Int.le_refl i) (ss_Ins_0 h4) h5 hw (lv_sub hl [1, 2, 3, 4, 5, 0] rfl)
      refine zv_iinc (b := i + 1) (lv' := [(5, .int (zI (i + 1))), (0, .int (zI lo)), (1, .int (zI hi)), (2, .ref r), (3, .ref r)]) hx hb dX3_quickSort_64 hl (k := 4) rfl (by omega) (by decide) rfl (fun ls hl => ?_)
      refine lv_goto (tgt := 15) hx hb dX3_quickSort_67 (by decide) ?_
      exact ih (i + 1) b2 H locs ls (by omega) (by omega) (by omega) g1 g2 hw (lv_sub hl [1, 2, 3, 4, 0] rfl)
set_option maxHeartbeats 4000000 in
set_option maxRecDepth 100000 in
/-- a reversal of [f, l0), its loop's head at 122 -/
theorem w_rev_122 {a : Int → Int} (C : Cx p m c s args cX3_inPlaceMerge 12 RX3 D dA) (hR : 1 ≤ R.frames ∧ 24 ≤ R.locals) (hf : cells ≤ R.cells ∧ slots ≤ R.slots) {f l0 k0 k1 k2 k5 k6 k7 k8 k9 : Int} (h0 : 0 ≤ f) (h48 : l0 ≤ 48)
    (kk : ∀ (b : Int → Int) (H : Heap) (locs : List Loc) (ls : Array Slot), ss_Rev f l0 a b → ss_Pm f l0 a b → Wa D dA x r fa ga s b H locs → lv_has ls 12 [(0, .int (zI k0)), (1, .int (zI k1)), (2, .int (zI k2)), (3, .ref r), (4, .ref r), (5, .int (zI k5)), (6, .int (zI k6)), (7, .int (zI k7)), (8, .int (zI k8)), (9, .int (zI k9))] → W p l e R s m args below meth c H locs cells slots Q (F0 m 149 ls [])) :
    ∀ (n : Nat) (p0 : Int) (b : Int → Int) (H : Heap) (locs : List Loc) (ls : Array Slot), f + l0 - 2 * p0 < (n : Int) → f ≤ p0 → 2 * p0 ≤ f + l0 → ss_RevI f l0 p0 a b → ss_Pm f l0 a b → Wa D dA x r fa ga s b H locs → lv_has ls 12 [(0, .int (zI k0)), (1, .int (zI k1)), (2, .int (zI k2)), (3, .ref r), (4, .ref r), (5, .int (zI k5)), (6, .int (zI k6)), (7, .int (zI k7)), (8, .int (zI k8)), (9, .int (zI k9)), (10, .int (zI p0)), (11, .int (zI (f + l0 - p0)))] → W p l e R s m args below meth c H locs cells slots Q (F0 m 122 ls []) := by
  have hx := C.ex
  have hb := C.by_
  intro n
  induction n with
  | zero =>
    intro p0 b H locs ls h1 h2 h3
    exact absurd h1 (by omega)
  | succ n ih =>
    intro p0 b H locs ls h1 h2 h3 h4 h5 hw hl
    refine lv_iload hx hb dX3_inPlaceMerge_122 (lv_at hl 10 rfl) ?_
    refine zv_iinc (b := f + l0 - (p0 + 1)) (lv' := [(11, .int (zI (f + l0 - (p0 + 1)))), (0, .int (zI k0)), (1, .int (zI k1)), (2, .int (zI k2)), (3, .ref r), (4, .ref r), (5, .int (zI k5)), (6, .int (zI k6)), (7, .int (zI k7)), (8, .int (zI k8)), (9, .int (zI k9)), (10, .int (zI p0))]) hx hb dX3_inPlaceMerge_124 hl (k := 11) rfl (by omega) (by decide) rfl (fun ls hl => ?_)
    refine lv_iload hx hb dX3_inPlaceMerge_127 (lv_at hl 0 rfl) ?_
    refine zv_icmp_ge (tgt := 149) hx hb dX3_inPlaceMerge_129 (by decide) (by omega) (by omega) (fun c1 => ?_) (fun c1 => ?_)
    · exact kk b H locs ls (ss_RevI_end h4 h2 (by omega)) h5 hw (lv_sub hl [1, 2, 3, 4, 5, 6, 7, 8, 9, 10] rfl)
    · refine lv_aload hx hb dX3_inPlaceMerge_132 (lv_at hl 5 rfl) ?_
      refine lv_iload hx hb dX3_inPlaceMerge_134 (lv_at hl 11 rfl) ?_
      refine zv_iinc (b := p0 + 1) (lv' := [(10, .int (zI (p0 + 1))), (11, .int (zI (f + l0 - (p0 + 1)))), (0, .int (zI k0)), (1, .int (zI k1)), (2, .int (zI k2)), (3, .ref r), (4, .ref r), (5, .int (zI k5)), (6, .int (zI k6)), (7, .int (zI k7)), (8, .int (zI k8)), (9, .int (zI k9))]) hx hb dX3_inPlaceMerge_136 hl (k := 11) rfl (by omega) (by decide) rfl (fun ls hl => ?_)
      refine lv_iload hx hb dX3_inPlaceMerge_139 (lv_at hl 1 rfl) ?_
      refine ss_swp C hw (i := p0) (j := f + l0 - (p0 + 1)) (rest := []) (by omega) (by omega) hl.1 hR hf (Nat.le_of_ble_eq_true rfl) dX3_inPlaceMerge_141 (fun H locs hw => ?_)
      refine lv_goto (tgt := 122) hx hb dX3_inPlaceMerge_146 (by decide) ?_
      exact ih (p0 + 1) _ H locs ls (by omega) (by omega) (by omega) (ss_RevI_step h4 h2 (by omega) (by omega)) (h5.tr (ss_Pm.sw h0 h48 (by omega) (by omega) (by omega) (by omega))) hw (lv_sub hl [2, 3, 4, 5, 6, 7, 8, 9, 10, 11, 0, 1] rfl)
set_option maxHeartbeats 4000000 in
set_option maxRecDepth 100000 in
/-- a reversal of [f, l0), its loop's head at 157 -/
theorem w_rev_157 {a : Int → Int} (C : Cx p m c s args cX3_inPlaceMerge 12 RX3 D dA) (hR : 1 ≤ R.frames ∧ 24 ≤ R.locals) (hf : cells ≤ R.cells ∧ slots ≤ R.slots) {f l0 k0 k1 k2 k5 k6 k7 k8 k9 : Int} (h0 : 0 ≤ f) (h48 : l0 ≤ 48)
    (kk : ∀ (b : Int → Int) (H : Heap) (locs : List Loc) (ls : Array Slot), ss_Rev f l0 a b → ss_Pm f l0 a b → Wa D dA x r fa ga s b H locs → lv_has ls 12 [(0, .int (zI k0)), (1, .int (zI k1)), (2, .int (zI k2)), (3, .ref r), (4, .ref r), (5, .int (zI k5)), (6, .int (zI k6)), (7, .int (zI k7)), (8, .int (zI k8)), (9, .int (zI k9))] → W p l e R s m args below meth c H locs cells slots Q (F0 m 184 ls [])) :
    ∀ (n : Nat) (p0 : Int) (b : Int → Int) (H : Heap) (locs : List Loc) (ls : Array Slot), f + l0 - 2 * p0 < (n : Int) → f ≤ p0 → 2 * p0 ≤ f + l0 → ss_RevI f l0 p0 a b → ss_Pm f l0 a b → Wa D dA x r fa ga s b H locs → lv_has ls 12 [(0, .int (zI k0)), (1, .int (zI k1)), (2, .int (zI k2)), (3, .ref r), (4, .ref r), (5, .int (zI k5)), (6, .int (zI k6)), (7, .int (zI k7)), (8, .int (zI k8)), (9, .int (zI k9)), (10, .int (zI p0)), (11, .int (zI (f + l0 - p0)))] → W p l e R s m args below meth c H locs cells slots Q (F0 m 157 ls []) := by
  have hx := C.ex
  have hb := C.by_
  intro n
  induction n with
  | zero =>
    intro p0 b H locs ls h1 h2 h3
    exact absurd h1 (by omega)
  | succ n ih =>
    intro p0 b H locs ls h1 h2 h3 h4 h5 hw hl
    refine lv_iload hx hb dX3_inPlaceMerge_157 (lv_at hl 10 rfl) ?_
    refine zv_iinc (b := f + l0 - (p0 + 1)) (lv' := [(11, .int (zI (f + l0 - (p0 + 1)))), (0, .int (zI k0)), (1, .int (zI k1)), (2, .int (zI k2)), (3, .ref r), (4, .ref r), (5, .int (zI k5)), (6, .int (zI k6)), (7, .int (zI k7)), (8, .int (zI k8)), (9, .int (zI k9)), (10, .int (zI p0))]) hx hb dX3_inPlaceMerge_159 hl (k := 11) rfl (by omega) (by decide) rfl (fun ls hl => ?_)
    refine lv_iload hx hb dX3_inPlaceMerge_162 (lv_at hl 0 rfl) ?_
    refine zv_icmp_ge (tgt := 184) hx hb dX3_inPlaceMerge_164 (by decide) (by omega) (by omega) (fun c1 => ?_) (fun c1 => ?_)
    · exact kk b H locs ls (ss_RevI_end h4 h2 (by omega)) h5 hw (lv_sub hl [1, 2, 3, 4, 5, 6, 7, 8, 9, 10] rfl)
    · refine lv_aload hx hb dX3_inPlaceMerge_167 (lv_at hl 5 rfl) ?_
      refine lv_iload hx hb dX3_inPlaceMerge_169 (lv_at hl 11 rfl) ?_
      refine zv_iinc (b := p0 + 1) (lv' := [(10, .int (zI (p0 + 1))), (11, .int (zI (f + l0 - (p0 + 1)))), (0, .int (zI k0)), (1, .int (zI k1)), (2, .int (zI k2)), (3, .ref r), (4, .ref r), (5, .int (zI k5)), (6, .int (zI k6)), (7, .int (zI k7)), (8, .int (zI k8)), (9, .int (zI k9))]) hx hb dX3_inPlaceMerge_171 hl (k := 11) rfl (by omega) (by decide) rfl (fun ls hl => ?_)
      refine lv_iload hx hb dX3_inPlaceMerge_174 (lv_at hl 1 rfl) ?_
      refine ss_swp C hw (i := p0) (j := f + l0 - (p0 + 1)) (rest := []) (by omega) (by omega) hl.1 hR hf (Nat.le_of_ble_eq_true rfl) dX3_inPlaceMerge_176 (fun H locs hw => ?_)
      refine lv_goto (tgt := 157) hx hb dX3_inPlaceMerge_181 (by decide) ?_
      exact ih (p0 + 1) _ H locs ls (by omega) (by omega) (by omega) (ss_RevI_step h4 h2 (by omega) (by omega)) (h5.tr (ss_Pm.sw h0 h48 (by omega) (by omega) (by omega) (by omega))) hw (lv_sub hl [2, 3, 4, 5, 6, 7, 8, 9, 10, 11, 0, 1] rfl)
set_option maxHeartbeats 4000000 in
set_option maxRecDepth 100000 in
/-- a reversal of [f, l0), its loop's head at 192 -/
theorem w_rev_192 {a : Int → Int} (C : Cx p m c s args cX3_inPlaceMerge 12 RX3 D dA) (hR : 1 ≤ R.frames ∧ 24 ≤ R.locals) (hf : cells ≤ R.cells ∧ slots ≤ R.slots) {f l0 k0 k1 k2 k5 k6 k7 k8 k9 : Int} (h0 : 0 ≤ f) (h48 : l0 ≤ 48)
    (kk : ∀ (b : Int → Int) (H : Heap) (locs : List Loc) (ls : Array Slot), ss_Rev f l0 a b → ss_Pm f l0 a b → Wa D dA x r fa ga s b H locs → lv_has ls 12 [(0, .int (zI k0)), (1, .int (zI k1)), (2, .int (zI k2)), (3, .ref r), (4, .ref r), (5, .int (zI k5)), (6, .int (zI k6)), (7, .int (zI k7)), (8, .int (zI k8)), (9, .int (zI k9))] → W p l e R s m args below meth c H locs cells slots Q (F0 m 219 ls [])) :
    ∀ (n : Nat) (p0 : Int) (b : Int → Int) (H : Heap) (locs : List Loc) (ls : Array Slot), f + l0 - 2 * p0 < (n : Int) → f ≤ p0 → 2 * p0 ≤ f + l0 → ss_RevI f l0 p0 a b → ss_Pm f l0 a b → Wa D dA x r fa ga s b H locs → lv_has ls 12 [(0, .int (zI k0)), (1, .int (zI k1)), (2, .int (zI k2)), (3, .ref r), (4, .ref r), (5, .int (zI k5)), (6, .int (zI k6)), (7, .int (zI k7)), (8, .int (zI k8)), (9, .int (zI k9)), (10, .int (zI p0)), (11, .int (zI (f + l0 - p0)))] → W p l e R s m args below meth c H locs cells slots Q (F0 m 192 ls []) := by
  have hx := C.ex
  have hb := C.by_
  intro n
  induction n with
  | zero =>
    intro p0 b H locs ls h1 h2 h3
    exact absurd h1 (by omega)
  | succ n ih =>
    intro p0 b H locs ls h1 h2 h3 h4 h5 hw hl
    refine lv_iload hx hb dX3_inPlaceMerge_192 (lv_at hl 10 rfl) ?_
    refine zv_iinc (b := f + l0 - (p0 + 1)) (lv' := [(11, .int (zI (f + l0 - (p0 + 1)))), (0, .int (zI k0)), (1, .int (zI k1)), (2, .int (zI k2)), (3, .ref r), (4, .ref r), (5, .int (zI k5)), (6, .int (zI k6)), (7, .int (zI k7)), (8, .int (zI k8)), (9, .int (zI k9)), (10, .int (zI p0))]) hx hb dX3_inPlaceMerge_194 hl (k := 11) rfl (by omega) (by decide) rfl (fun ls hl => ?_)
    refine lv_iload hx hb dX3_inPlaceMerge_197 (lv_at hl 0 rfl) ?_
    refine zv_icmp_ge (tgt := 219) hx hb dX3_inPlaceMerge_199 (by decide) (by omega) (by omega) (fun c1 => ?_) (fun c1 => ?_)
    · exact kk b H locs ls (ss_RevI_end h4 h2 (by omega)) h5 hw (lv_sub hl [1, 2, 3, 4, 5, 6, 7, 8, 9, 10] rfl)
    · refine lv_aload hx hb dX3_inPlaceMerge_202 (lv_at hl 5 rfl) ?_
      refine lv_iload hx hb dX3_inPlaceMerge_204 (lv_at hl 11 rfl) ?_
      refine zv_iinc (b := p0 + 1) (lv' := [(10, .int (zI (p0 + 1))), (11, .int (zI (f + l0 - (p0 + 1)))), (0, .int (zI k0)), (1, .int (zI k1)), (2, .int (zI k2)), (3, .ref r), (4, .ref r), (5, .int (zI k5)), (6, .int (zI k6)), (7, .int (zI k7)), (8, .int (zI k8)), (9, .int (zI k9))]) hx hb dX3_inPlaceMerge_206 hl (k := 11) rfl (by omega) (by decide) rfl (fun ls hl => ?_)
      refine lv_iload hx hb dX3_inPlaceMerge_209 (lv_at hl 1 rfl) ?_
      refine ss_swp C hw (i := p0) (j := f + l0 - (p0 + 1)) (rest := []) (by omega) (by omega) hl.1 hR hf (Nat.le_of_ble_eq_true rfl) dX3_inPlaceMerge_211 (fun H locs hw => ?_)
      refine lv_goto (tgt := 192) hx hb dX3_inPlaceMerge_216 (by decide) ?_
      exact ih (p0 + 1) _ H locs ls (by omega) (by omega) (by omega) (ss_RevI_step h4 h2 (by omega) (by omega)) (h5.tr (ss_Pm.sw h0 h48 (by omega) (by omega) (by omega) (by omega))) hw (lv_sub hl [2, 3, 4, 5, 6, 7, 8, 9, 10, 11, 0, 1] rfl)
set_option maxHeartbeats 4000000 in
set_option maxRecDepth 100000 in
/-- inPlaceMerge behind the rotation -/
theorem w_merge_rec {a b : Int → Int} {rm : Room} (C : Cx p m c s args cX3_inPlaceMerge 12 RX3 D dA) (hR : 1 ≤ R.frames ∧ 24 ≤ R.locals) (hf : cells ≤ R.cells ∧ slots ≤ R.slots) {lo f mid sc hi P0 : Int} (ih : ∀ (b : Int → Int) (lo2 mid2 hi2 : Int), 0 ≤ lo2 → lo2 ≤ mid2 → mid2 ≤ hi2 → hi2 ≤ 48 → hi2 - lo2 < hi - lo → ss_Srt lo2 mid2 b → ss_Srt mid2 hi2 b → MetV l D dA x r fa ga yX3_inPlaceMerge cX3_inPlaceMerge 12 rm [.int (zI lo2), .int (zI mid2), .int (zI hi2), .ref r, .ref r] b (fun u => ss_Pm lo2 hi2 b u ∧ ss_Srt lo2 hi2 u)) (hrm : rm.cells = 0 ∧ rm.slots = 0 ∧ rm.frames + 1 ≤ R.frames ∧ 8 + (12 + 11) + rm.locals ≤ R.locals)
    (h0 : 0 ≤ lo) (hlf : lo ≤ f) (hfm : f ≤ mid) (hms : mid ≤ sc) (hsh : sc ≤ hi) (h48 : hi ≤ 48) (hd1 : f + (sc - mid) - lo < hi - lo) (hd2 : hi - (f + (sc - mid)) < hi - lo) (hL : ss_Srt lo mid a) (hRt : ss_Srt mid hi a) (hp : ss_Piv lo f mid sc hi P0 a)
    (kk : ∀ (u : Int → Int) (H : Heap) (locs : List Loc) (ls : Array Slot), ss_Pm lo hi a u → ss_Srt lo hi u → Wa D dA x r fa ga s u H locs → W p l e R s m args below meth c H locs cells slots Q (F0 m 247 ls []))
    (hrot : ss_Rot f mid sc a b) (hpm : ss_Pm lo hi a b) {H : Heap} {locs : List Loc} {ls : Array Slot} (hw : Wa D dA x r fa ga s b H locs) (hl : lv_has ls 12 [(0, .int (zI lo)), (1, .int (zI mid)), (2, .int (zI hi)), (3, .ref r), (4, .ref r), (5, .int (zI f)), (6, .int (zI sc))]) : W p l e R s m args below meth c H locs cells slots Q (F0 m 219 ls []) := by
  have hx := C.ex
  have hb := C.by_
  obtain ⟨s1, s2, s3, s4⟩ := ss_merge hlf hfm hms hsh hL hRt hrot
  refine lv_iload hx hb dX3_inPlaceMerge_219 (lv_at hl 5 rfl) ?_
  refine lv_iload hx hb dX3_inPlaceMerge_221 (lv_at hl 6 rfl) ?_
  refine lv_iload_n hx hb dX3_inPlaceMerge_223 rfl (lv_at hl 1 rfl) ?_
  refine zv_isub hx hb dX3_inPlaceMerge_224 ?_
  refine zv_iadd hx hb dX3_inPlaceMerge_225 ?_
  refine lv_istore_n (lv' := [(1, .int (zI (f + (sc - mid)))), (0, .int (zI lo)), (2, .int (zI hi)), (3, .ref r), (4, .ref r), (5, .int (zI f)), (6, .int (zI sc))]) hx hb dX3_inPlaceMerge_226 rfl hl (by decide) rfl (fun ls hl => ?_)
  refine lv_iload_n hx hb dX3_inPlaceMerge_227 rfl (lv_at hl 1 rfl) ?_
  refine lv_iload hx hb dX3_inPlaceMerge_228 (lv_at hl 5 rfl) ?_
  refine lv_iload_n hx hb dX3_inPlaceMerge_230 rfl (lv_at hl 0 rfl) ?_
  refine lv_aload_n hx hb dX3_inPlaceMerge_231 rfl (lv_at hl 3 rfl) ?_
  refine lv_aload hx hb dX3_inPlaceMerge_232 (lv_at hl 4 rfl) ?_
  refine ss_callv C hw (As := [.int (zI lo), .int (zI f), .int (zI (f + (sc - mid))), .ref r, .ref r]) (rest := []) (ih b lo f (f + (sc - mid)) h0 hlf (by omega) (by omega) hd1 s1 s2) (va_cwS 5 C.ts (lw_S q111 q112 q8 q113) rfl hrm.1 hrm.2.1 ⟨by decide, by decide, by decide +kernel⟩ ⟨hrm.2.2.1, hrm.2.2.2⟩) rfl hl.1 (Nat.le_of_ble_eq_true rfl) hf dX3_inPlaceMerge_234 (fun b1 H locs g1 hw => ?_)
  refine lv_iload_n hx hb dX3_inPlaceMerge_237 rfl (lv_at hl 0 rfl) ?_
  refine lv_iload hx hb dX3_inPlaceMerge_238 (lv_at hl 6 rfl) ?_
  refine lv_iload_n hx hb dX3_inPlaceMerge_240 rfl (lv_at hl 2 rfl) ?_
  refine lv_aload_n hx hb dX3_inPlaceMerge_241 rfl (lv_at hl 3 rfl) ?_
  refine lv_aload hx hb dX3_inPlaceMerge_242 (lv_at hl 4 rfl) ?_
  refine ss_callv C hw (As := [.int (zI (f + (sc - mid))), .int (zI sc), .int (zI hi), .ref r, .ref r]) (rest := []) (ih b1 (f + (sc - mid)) sc hi (by omega) (by omega) hsh h48 hd2 (s3.keep (fun z e1 e2 => g1.1.1 z (by omega))) (s4.keep (fun z e1 e2 => g1.1.1 z (by omega)))) (va_cwS 5 C.ts (lw_S q111 q112 q8 q113) rfl hrm.1 hrm.2.1 ⟨by decide, by decide, by decide +kernel⟩ ⟨hrm.2.2.1, hrm.2.2.2⟩) rfl hl.1 (Nat.le_of_ble_eq_true rfl) hf dX3_inPlaceMerge_244 (fun b2 H locs g2 hw => ?_)
  exact kk b2 H locs ls (hpm.tr ((g1.1.wide (Int.le_refl lo) (by omega)).tr (g2.1.wide (by omega) (Int.le_refl hi)))) (ss_merge_end hlf hfm hms hsh rfl hp hrot g1.1 g1.2 g2.1 g2.2) hw
set_option maxHeartbeats 4000000 in
set_option maxRecDepth 100000 in
/-- inPlaceMerge from the cuts on -/
theorem w_merge_cut {a : Int → Int} {rm : Room} (C : Cx p m c s args cX3_inPlaceMerge 12 RX3 D dA) (hR : 1 ≤ R.frames ∧ 24 ≤ R.locals) (hf : cells ≤ R.cells ∧ slots ≤ R.slots) {lo f mid sc hi P0 : Int} (ih : ∀ (b : Int → Int) (lo2 mid2 hi2 : Int), 0 ≤ lo2 → lo2 ≤ mid2 → mid2 ≤ hi2 → hi2 ≤ 48 → hi2 - lo2 < hi - lo → ss_Srt lo2 mid2 b → ss_Srt mid2 hi2 b → MetV l D dA x r fa ga yX3_inPlaceMerge cX3_inPlaceMerge 12 rm [.int (zI lo2), .int (zI mid2), .int (zI hi2), .ref r, .ref r] b (fun u => ss_Pm lo2 hi2 b u ∧ ss_Srt lo2 hi2 u)) (hrm : rm.cells = 0 ∧ rm.slots = 0 ∧ rm.frames + 1 ≤ R.frames ∧ 8 + (12 + 11) + rm.locals ≤ R.locals)
    (h0 : 0 ≤ lo) (hlf : lo ≤ f) (hfm : f ≤ mid) (hms : mid ≤ sc) (hsh : sc ≤ hi) (h48 : hi ≤ 48) (hd1 : f + (sc - mid) - lo < hi - lo) (hd2 : hi - (f + (sc - mid)) < hi - lo) (hL : ss_Srt lo mid a) (hRt : ss_Srt mid hi a) (hp : ss_Piv lo f mid sc hi P0 a)
    (kk : ∀ (u : Int → Int) (H : Heap) (locs : List Loc) (ls : Array Slot), ss_Pm lo hi a u → ss_Srt lo hi u → Wa D dA x r fa ga s u H locs → W p l e R s m args below meth c H locs cells slots Q (F0 m 247 ls []))
    {H : Heap} {locs : List Loc} {ls : Array Slot} (hw : Wa D dA x r fa ga s a H locs) (hl : lv_has ls 12 [(0, .int (zI lo)), (1, .int (zI mid)), (2, .int (zI hi)), (3, .ref r), (4, .ref r), (5, .int (zI f)), (6, .int (zI sc))]) : W p l e R s m args below meth c H locs cells slots Q (F0 m 89 ls []) := by
  have hx := C.ex
  have hb := C.by_
  refine lv_iload hx hb dX3_inPlaceMerge_89 (lv_at hl 5 rfl) ?_
  refine lv_istore (lv' := [(7, .int (zI f)), (0, .int (zI lo)), (1, .int (zI mid)), (2, .int (zI hi)), (3, .ref r), (4, .ref r), (5, .int (zI f)), (6, .int (zI sc))]) hx hb dX3_inPlaceMerge_91 hl (by decide) rfl (fun ls hl => ?_)
  refine lv_iload_n hx hb dX3_inPlaceMerge_93 rfl (lv_at hl 2 rfl) ?_
  refine lv_istore (lv' := [(8, .int (zI mid)), (7, .int (zI f)), (0, .int (zI lo)), (1, .int (zI mid)), (2, .int (zI hi)), (3, .ref r), (4, .ref r), (5, .int (zI f)), (6, .int (zI sc))]) hx hb dX3_inPlaceMerge_94 hl (by decide) rfl (fun ls hl => ?_)
  refine lv_iload hx hb dX3_inPlaceMerge_96 (lv_at hl 8 rfl) ?_
  refine lv_istore (lv' := [(9, .int (zI sc)), (8, .int (zI mid)), (7, .int (zI f)), (0, .int (zI lo)), (1, .int (zI mid)), (2, .int (zI hi)), (3, .ref r), (4, .ref r), (5, .int (zI f)), (6, .int (zI sc))]) hx hb dX3_inPlaceMerge_98 hl (by decide) rfl (fun ls hl => ?_)
  refine lv_iload hx hb dX3_inPlaceMerge_100 (lv_at hl 1 rfl) ?_
  refine lv_iload hx hb dX3_inPlaceMerge_102 (lv_at hl 2 rfl) ?_
  refine zv_icmp_eq (tgt := 219) hx hb dX3_inPlaceMerge_104 (by decide) (by omega) (by omega) (fun c1 => ?_) (fun c1 => ?_)
  · exact w_merge_rec C hR hf ih hrm h0 hlf hfm hms hsh h48 hd1 hd2 hL hRt hp kk (ss_rot_0 (Or.inl c1)) ss_Pm.rf hw (lv_sub hl [3, 4, 5, 6, 7, 8, 9] rfl)
  · refine lv_iload hx hb dX3_inPlaceMerge_107 (lv_at hl 1 rfl) ?_
    refine lv_iload hx hb dX3_inPlaceMerge_109 (lv_at hl 0 rfl) ?_
    refine zv_icmp_eq (tgt := 219) hx hb dX3_inPlaceMerge_111 (by decide) (by omega) (by omega) (fun c2 => ?_) (fun c2 => ?_)
    · exact w_merge_rec C hR hf ih hrm h0 hlf hfm hms hsh h48 hd1 hd2 hL hRt hp kk (ss_rot_0 (Or.inr c2)) ss_Pm.rf hw (lv_sub hl [3, 4, 5, 6, 7, 8, 9] rfl)
    · refine lv_iload hx hb dX3_inPlaceMerge_114 (lv_at hl 2 rfl) ?_
      refine lv_istore (lv' := [(10, .int (zI f)), (9, .int (zI sc)), (8, .int (zI mid)), (7, .int (zI f)), (0, .int (zI lo)), (1, .int (zI mid)), (2, .int (zI hi)), (3, .ref r), (4, .ref r), (5, .int (zI f)), (6, .int (zI sc))]) hx hb dX3_inPlaceMerge_116 hl (by decide) rfl (fun ls hl => ?_)
      refine lv_iload hx hb dX3_inPlaceMerge_118 (lv_at hl 2 rfl) ?_
      refine lv_istore (lv' := [(11, .int (zI mid)), (10, .int (zI f)), (9, .int (zI sc)), (8, .int (zI mid)), (7, .int (zI f)), (0, .int (zI lo)), (1, .int (zI mid)), (2, .int (zI hi)), (3, .ref r), (4, .ref r), (5, .int (zI f)), (6, .int (zI sc))]) hx hb dX3_inPlaceMerge_120 hl (by decide) rfl (fun ls hl => ?_)
      have hl : lv_has ls 12 [(0, .int (zI lo)), (1, .int (zI mid)), (2, .int (zI hi)), (3, .ref r), (4, .ref r), (5, .int (zI f)), (6, .int (zI sc)), (7, .int (zI f)), (8, .int (zI mid)), (9, .int (zI sc)), (10, .int (zI f)), (11, .int (zI (f + mid - f)))] := by
        rw [show f + mid - f = mid by omega]; exact lv_sub hl [5, 6, 7, 8, 9, 10, 11, 4, 3, 2, 1, 0] rfl
      refine w_rev_122 C hR hf (f := f) (l0 := mid) (by omega) (by omega) (fun b1 H locs ls g1 k1 hw hl => ?_) (mid - f + 1).toNat f a H locs ls (by omega) (Int.le_refl _) (by omega) ss_RevI_0 ss_Pm.rf hw hl
      refine lv_iload hx hb dX3_inPlaceMerge_149 (lv_at hl 8 rfl) ?_
      refine lv_istore (lv' := [(10, .int (zI mid)), (0, .int (zI lo)), (1, .int (zI mid)), (2, .int (zI hi)), (3, .ref r), (4, .ref r), (5, .int (zI f)), (6, .int (zI sc)), (7, .int (zI f)), (8, .int (zI mid)), (9, .int (zI sc))]) hx hb dX3_inPlaceMerge_151 hl (by decide) rfl (fun ls hl => ?_)
      refine lv_iload hx hb dX3_inPlaceMerge_153 (lv_at hl 10 rfl) ?_
      refine lv_istore (lv' := [(11, .int (zI sc)), (10, .int (zI mid)), (0, .int (zI lo)), (1, .int (zI mid)), (2, .int (zI hi)), (3, .ref r), (4, .ref r), (5, .int (zI f)), (6, .int (zI sc)), (7, .int (zI f)), (8, .int (zI mid)), (9, .int (zI sc))]) hx hb dX3_inPlaceMerge_155 hl (by decide) rfl (fun ls hl => ?_)
      have hl : lv_has ls 12 [(0, .int (zI lo)), (1, .int (zI mid)), (2, .int (zI hi)), (3, .ref r), (4, .ref r), (5, .int (zI f)), (6, .int (zI sc)), (7, .int (zI f)), (8, .int (zI mid)), (9, .int (zI sc)), (10, .int (zI mid)), (11, .int (zI (mid + sc - mid)))] := by
        rw [show mid + sc - mid = sc by omega]; exact lv_sub hl [2, 3, 4, 5, 6, 7, 8, 9, 10, 11, 1, 0] rfl
      refine w_rev_157 C hR hf (f := mid) (l0 := sc) (by omega) (by omega) (fun b2 H locs ls g2 k2 hw hl => ?_) (sc - mid + 1).toNat mid b1 H locs ls (by omega) (Int.le_refl _) (by omega) ss_RevI_0 ss_Pm.rf hw hl
      refine lv_iload hx hb dX3_inPlaceMerge_184 (lv_at hl 7 rfl) ?_
      refine lv_istore (lv' := [(10, .int (zI f)), (0, .int (zI lo)), (1, .int (zI mid)), (2, .int (zI hi)), (3, .ref r), (4, .ref r), (5, .int (zI f)), (6, .int (zI sc)), (7, .int (zI f)), (8, .int (zI mid)), (9, .int (zI sc))]) hx hb dX3_inPlaceMerge_186 hl (by decide) rfl (fun ls hl => ?_)
      refine lv_iload hx hb dX3_inPlaceMerge_188 (lv_at hl 10 rfl) ?_
      refine lv_istore (lv' := [(11, .int (zI sc)), (10, .int (zI f)), (0, .int (zI lo)), (1, .int (zI mid)), (2, .int (zI hi)), (3, .ref r), (4, .ref r), (5, .int (zI f)), (6, .int (zI sc)), (7, .int (zI f)), (8, .int (zI mid)), (9, .int (zI sc))]) hx hb dX3_inPlaceMerge_190 hl (by decide) rfl (fun ls hl => ?_)
      have hl : lv_has ls 12 [(0, .int (zI lo)), (1, .int (zI mid)), (2, .int (zI hi)), (3, .ref r), (4, .ref r), (5, .int (zI f)), (6, .int (zI sc)), (7, .int (zI f)), (8, .int (zI mid)), (9, .int (zI sc)), (10, .int (zI f)), (11, .int (zI (f + sc - f)))] := by
        rw [show f + sc - f = sc by omega]; exact lv_sub hl [2, 3, 4, 5, 6, 7, 8, 9, 10, 11, 1, 0] rfl
      refine w_rev_192 C hR hf (f := f) (l0 := sc) (by omega) (by omega) (fun b3 H locs ls g3 k3 hw hl => ?_) (sc - f + 1).toNat f b2 H locs ls (by omega) (Int.le_refl _) (by omega) ss_RevI_0 ss_Pm.rf hw hl
      exact w_merge_rec C hR hf ih hrm h0 hlf hfm hms hsh h48 hd1 hd2 hL hRt hp kk (ss_rot hfm hms g1 g2 g3) ((k1.wide hlf (by omega)).tr ((k2.wide (by omega) hsh).tr (k3.wide hlf hsh))) hw (lv_sub hl [0, 1, 2, 3, 4, 5, 6] rfl)
set_option maxHeartbeats 4000000 in
set_option maxRecDepth 100000 in
/-- OwnArrays.inPlaceMerge(lo, mid, hi): two sorted ranges become one -/
theorem m_merge (l : Launch) (D : va_G) (dA : ClassId) (x r fa ga : Nat) : ∀ (d : Nat) (a : Int → Int) (lo mid hi : Int), 0 ≤ lo → lo ≤ mid → mid ≤ hi → hi ≤ 48 → hi - lo ≤ (d : Int) → ss_Srt lo mid a → ss_Srt mid hi a → MetV l D dA x r fa ga yX3_inPlaceMerge cX3_inPlaceMerge 12 ({ frames := d + 2, cells := 0, slots := 0, locals := 50 + 40 * d }) [.int (zI lo), .int (zI mid), .int (zI hi), .ref r, .ref r] a (fun u => ss_Pm lo hi a u ∧ ss_Srt lo hi u) := by
  intro d
  induction d using Nat.strongRecOn with
  | ind d ih =>
  intro a lo mid hi h0 h1 h2 h48 hd hL hRt
  intro sz
  refine Met.ofW (cc := cX3_inPlaceMerge) (maxL := 12) (ret := none) (by decide) rfl ?_
  intro p e s m args below meth c s₁ B hml hv
  obtain ⟨rfl, hv⟩ := hv
  obtain ⟨C, hw, hsz⟩ := ss_in B hml hv
  subst hsz
  have hr := B.returns
  have hlocks := B.notSynchronized
  have C : Cx p m c s _ cX3_inPlaceMerge 12 RX3 D dA := C
  have hx := C.ex
  have hb := C.by_
  have hown : s.vm.findClass RX3 = some m.cls := C.ow
  have hR : 1 ≤ (headSpec (ws_ yX3_inPlaceMerge cX3_inPlaceMerge 12 none) ({ frames := d + 2, cells := 0, slots := 0, locals := 50 + 40 * d })).room.frames ∧ 24 ≤ (headSpec (ws_ yX3_inPlaceMerge cX3_inPlaceMerge 12 none) ({ frames := d + 2, cells := 0, slots := 0, locals := 50 + 40 * d })).room.locals := ⟨by show 1 ≤ d + 2; omega, by show 24 ≤ 50 + 40 * d; omega⟩
  have hf : 0 ≤ (headSpec (ws_ yX3_inPlaceMerge cX3_inPlaceMerge 12 none) ({ frames := d + 2, cells := 0, slots := 0, locals := 50 + 40 * d })).room.cells ∧ 0 ≤ (headSpec (ws_ yX3_inPlaceMerge cX3_inPlaceMerge 12 none) ({ frames := d + 2, cells := 0, slots := 0, locals := 50 + 40 * d })).room.slots := ⟨Nat.le_refl 0, Nat.le_refl 0⟩
  refine ss_start (lv := [(0, .int (zI lo)), (1, .int (zI mid)), (2, .int (zI hi)), (3, .ref r), (4, .ref r)]) (Nat.le_of_ble_eq_true rfl) rfl (fun ls hl => ?_)
  refine lv_iload_n hx hb dX3_inPlaceMerge_0 rfl (lv_at hl 0 rfl) ?_
  refine lv_iload_n hx hb dX3_inPlaceMerge_1 rfl (lv_at hl 1 rfl) ?_
  refine zv_icmp_ge (tgt := 10) hx hb dX3_inPlaceMerge_2 (by decide) (by omega) (by omega) (fun c1 => ?_) (fun c1 => ?_)
  · have e : mid = lo := by omega
    subst e
    exact ss_vret C hr hlocks hw ⟨ss_Pm.rf, hRt⟩ dX3_inPlaceMerge_10
  · refine lv_iload_n hx hb dX3_inPlaceMerge_5 rfl (lv_at hl 1 rfl) ?_
    refine lv_iload_n hx hb dX3_inPlaceMerge_6 rfl (lv_at hl 2 rfl) ?_
    refine zv_icmp_lt (tgt := 11) hx hb dX3_inPlaceMerge_7 (by decide) (by omega) (by omega) (fun c2 => ?_) (fun c2 => ?_)
    · refine lv_iload_n hx hb dX3_inPlaceMerge_11 rfl (lv_at hl 2 rfl) ?_
      refine lv_iload_n hx hb dX3_inPlaceMerge_12 rfl (lv_at hl 0 rfl) ?_
      refine zv_isub hx hb dX3_inPlaceMerge_13 ?_
      refine lv_iconst (v := zI (2)) hx hb dX3_inPlaceMerge_14 rfl ?_
      refine zv_icmp_ne (tgt := 39) hx hb dX3_inPlaceMerge_15 (by decide) (by omega) (by omega) (fun c3 => ?_) (fun c3 => ?_)
      · refine lv_iload_n hx hb dX3_inPlaceMerge_39 rfl (lv_at hl 1 rfl) ?_
        refine lv_iload_n hx hb dX3_inPlaceMerge_40 rfl (lv_at hl 0 rfl) ?_
        refine zv_isub hx hb dX3_inPlaceMerge_41 ?_
        refine lv_iload_n hx hb dX3_inPlaceMerge_42 rfl (lv_at hl 2 rfl) ?_
        refine lv_iload_n hx hb dX3_inPlaceMerge_43 rfl (lv_at hl 1 rfl) ?_
        refine zv_isub hx hb dX3_inPlaceMerge_44 ?_
        refine zv_icmp_le (tgt := 70) hx hb dX3_inPlaceMerge_45 (by decide) (by omega) (by omega) (fun c5 => ?_) (fun c5 => ?_)
        · refine lv_iload_n hx hb dX3_inPlaceMerge_70 rfl (lv_at hl 1 rfl) ?_
          refine lv_iload_n hx hb dX3_inPlaceMerge_71 rfl (lv_at hl 2 rfl) ?_
          refine lv_iload_n hx hb dX3_inPlaceMerge_72 rfl (lv_at hl 1 rfl) ?_
          refine zv_isub hx hb dX3_inPlaceMerge_73 ?_
          refine lv_iconst (v := zI (2)) hx hb dX3_inPlaceMerge_74 rfl ?_
          refine zv_idiv2 hx hb dX3_inPlaceMerge_75 (by omega) ?_
          refine zv_iadd hx hb dX3_inPlaceMerge_76 ?_
          obtain ⟨sc, hse⟩ : ∃ sc : Int, sc = mid + (hi - mid) / 2 := ⟨_, rfl⟩
          refine zv_top (b := sc) (hse.symm) ?_
          refine lv_istore (lv' := [(6, .int (zI sc)), (0, .int (zI lo)), (1, .int (zI mid)), (2, .int (zI hi)), (3, .ref r), (4, .ref r)]) hx hb dX3_inPlaceMerge_77 hl (by decide) rfl (fun ls hl => ?_)
          refine lv_iload_n hx hb dX3_inPlaceMerge_79 rfl (lv_at hl 1 rfl) ?_
          refine lv_iload_n hx hb dX3_inPlaceMerge_80 rfl (lv_at hl 2 rfl) ?_
          refine lv_iload hx hb dX3_inPlaceMerge_81 (lv_at hl 0 rfl) ?_
          refine lv_aload_n hx hb dX3_inPlaceMerge_83 rfl (lv_at hl 4 rfl) ?_
          refine ss_calli C hw (As := [.int (zI lo), .int (zI mid), .int (zI sc), .ref r]) (rest := []) (m_upperBound l D dA x r fa ga a lo mid sc h0 h1 (by omega) (by omega) hL) (va_cwS 4 C.ts (lw_S q117 q118 q8 q119) rfl rfl rfl ⟨by decide, by decide, by decide +kernel⟩ ⟨by show 1 + 1 ≤ d + 2; omega, by show 8 + (7 + 11) + 24 ≤ 50 + 40 * d; omega⟩) rfl hl.1 (Nat.le_of_ble_eq_true rfl) hf dX3_inPlaceMerge_84 (fun f u H locs g hw => ?_)
          obtain ⟨e0, g1, g2, g3, g4⟩ := g
          rw [e0] at hw
          refine lv_istore (lv' := [(5, .int (zI f)), (6, .int (zI sc)), (0, .int (zI lo)), (1, .int (zI mid)), (2, .int (zI hi)), (3, .ref r), (4, .ref r)]) hx hb dX3_inPlaceMerge_87 hl (by decide) rfl (fun ls hl => ?_)
          exact w_merge_cut C hR hf (rm := { frames := d - 1 + 2, cells := 0, slots := 0, locals := 50 + 40 * (d - 1) }) (fun b lo2 mid2 hi2 e0 e1 e2 e3 e4 e5 e6 => ih (d - 1) (by omega) b lo2 mid2 hi2 e0 e1 e2 e3 (by omega) e5 e6) ⟨rfl, rfl, by show d - 1 + 2 + 1 ≤ d + 2; omega, by show 8 + (12 + 11) + (50 + 40 * (d - 1)) ≤ 50 + 40 * d; omega⟩ h0 (by omega) (by omega) (by omega) (by omega) h48 (by omega) (by omega) hL hRt (ss_piv_2 (by omega) (by omega) hRt g3 g4) (fun u H locs ls e1 e2 hw => ss_vret C hr hlocks hw ⟨e1, e2⟩ dX3_inPlaceMerge_247) hw (lv_sub hl [2, 3, 4, 5, 6, 0, 1] rfl)
        · refine lv_iload_n hx hb dX3_inPlaceMerge_48 rfl (lv_at hl 0 rfl) ?_
          refine lv_iload_n hx hb dX3_inPlaceMerge_49 rfl (lv_at hl 1 rfl) ?_
          refine lv_iload_n hx hb dX3_inPlaceMerge_50 rfl (lv_at hl 0 rfl) ?_
          refine zv_isub hx hb dX3_inPlaceMerge_51 ?_
          refine lv_iconst (v := zI (2)) hx hb dX3_inPlaceMerge_52 rfl ?_
          refine zv_idiv2 hx hb dX3_inPlaceMerge_53 (by omega) ?_
          refine zv_iadd hx hb dX3_inPlaceMerge_54 ?_
          obtain ⟨f, hfe⟩ : ∃ f : Int, f = lo + (mid - lo) / 2 := ⟨_, rfl⟩
          refine zv_top (b := f) (hfe.symm) ?_
          refine lv_istore (lv' := [(5, .int (zI f)), (0, .int (zI lo)), (1, .int (zI mid)), (2, .int (zI hi)), (3, .ref r), (4, .ref r)]) hx hb dX3_inPlaceMerge_55 hl (by decide) rfl (fun ls hl => ?_)
          refine lv_iload_n hx hb dX3_inPlaceMerge_57 rfl (lv_at hl 2 rfl) ?_
          refine lv_iload_n hx hb dX3_inPlaceMerge_58 rfl (lv_at hl 3 rfl) ?_
          refine lv_iload hx hb dX3_inPlaceMerge_59 (lv_at hl 0 rfl) ?_
          refine lv_aload_n hx hb dX3_inPlaceMerge_61 rfl (lv_at hl 4 rfl) ?_
          refine ss_calli C hw (As := [.int (zI mid), .int (zI hi), .int (zI f), .ref r]) (rest := []) (m_lowerBound l D dA x r fa ga a mid hi f (by omega) h2 h48 (by omega) hRt) (va_cwS 4 C.ts (lw_S q114 q115 q8 q116) rfl rfl rfl ⟨by decide, by decide, by decide +kernel⟩ ⟨by show 1 + 1 ≤ d + 2; omega, by show 8 + (7 + 11) + 24 ≤ 50 + 40 * d; omega⟩) rfl hl.1 (Nat.le_of_ble_eq_true rfl) hf dX3_inPlaceMerge_62 (fun sc u H locs g hw => ?_)
          obtain ⟨e0, g1, g2, g3, g4⟩ := g
          rw [e0] at hw
          refine lv_istore (lv' := [(6, .int (zI sc)), (5, .int (zI f)), (0, .int (zI lo)), (1, .int (zI mid)), (2, .int (zI hi)), (3, .ref r), (4, .ref r)]) hx hb dX3_inPlaceMerge_65 hl (by decide) rfl (fun ls hl => ?_)
          refine lv_goto (tgt := 89) hx hb dX3_inPlaceMerge_67 (by decide) ?_
          exact w_merge_cut C hR hf (rm := { frames := d - 1 + 2, cells := 0, slots := 0, locals := 50 + 40 * (d - 1) }) (fun b lo2 mid2 hi2 e0 e1 e2 e3 e4 e5 e6 => ih (d - 1) (by omega) b lo2 mid2 hi2 e0 e1 e2 e3 (by omega) e5 e6) ⟨rfl, rfl, by show d - 1 + 2 + 1 ≤ d + 2; omega, by show 8 + (12 + 11) + (50 + 40 * (d - 1)) ≤ 50 + 40 * d; omega⟩ h0 (by omega) (by omega) (by omega) (by omega) h48 (by omega) (by omega) hL hRt (ss_piv_1 (by omega) (by omega) hL g3 g4) (fun u H locs ls e1 e2 hw => ss_vret C hr hlocks hw ⟨e1, e2⟩ dX3_inPlaceMerge_247) hw (lv_sub hl [2, 3, 4, 5, 6, 1, 0] rfl)
      · refine lv_aload_n hx hb dX3_inPlaceMerge_18 rfl (lv_at hl 3 rfl) ?_
        refine lv_iload_n hx hb dX3_inPlaceMerge_19 rfl (lv_at hl 1 rfl) ?_
        refine lv_iload_n hx hb dX3_inPlaceMerge_20 rfl (lv_at hl 0 rfl) ?_
        refine ss_cmp C hw (i := mid) (j := lo) (rest := []) (by omega) (by omega) hl.1 hR hf (Nat.le_of_ble_eq_true rfl) dX3_inPlaceMerge_21 (fun z H locs hc hw => ?_)
        unfold cm at hc
        refine zv_if_ge (tgt := 38) hx hb dX3_inPlaceMerge_26 (by decide) (by omega) (fun c4 => ?_) (fun c4 => ?_)
        · exact ss_vret C hr hlocks hw ⟨ss_Pm.rf, hL.cat hRt (by rw [show mid - 1 = lo by omega]; omega)⟩ dX3_inPlaceMerge_38
        · refine lv_aload hx hb dX3_inPlaceMerge_29 (lv_at hl 4 rfl) ?_
          refine lv_iload_n hx hb dX3_inPlaceMerge_31 rfl (lv_at hl 0 rfl) ?_
          refine lv_iload_n hx hb dX3_inPlaceMerge_32 rfl (lv_at hl 1 rfl) ?_
          refine ss_swp C hw (i := lo) (j := mid) (rest := []) (by omega) (by omega) hl.1 hR hf (Nat.le_of_ble_eq_true rfl) dX3_inPlaceMerge_33 (fun H locs hw => ?_)
          exact ss_vret C hr hlocks hw ⟨ss_Pm.sw h0 h48 (by omega) (by omega) (by omega) (by omega), (ss_Srt.small (by omega)).cat (mid := mid) (ss_Srt.small (by omega)) (by rw [show mid - 1 = lo by omega, ss_sw_l, ss_sw_r]; omega)⟩ dX3_inPlaceMerge_38
    · have e : mid = hi := by omega
      subst e
      exact ss_vret C hr hlocks hw ⟨ss_Pm.rf, hL⟩ dX3_inPlaceMerge_10
set_option maxHeartbeats 4000000 in
set_option maxRecDepth 100000 in
/-- OwnArrays.mergeSort(lo, hi): the range comes out sorted -/
theorem m_mergeSort (l : Launch) (D : va_G) (dA : ClassId) (x r fa ga : Nat) : ∀ (d : Nat) (a : Int → Int) (lo hi : Int), 0 ≤ lo → lo ≤ hi → hi ≤ 48 → hi - lo ≤ (d : Int) → MetV l D dA x r fa ga yX3_mergeSort cX3_mergeSort 7 ({ frames := 60 + d, cells := 0, slots := 0, locals := 2100 + 40 * d }) [.int (zI lo), .int (zI hi), .ref r, .ref r] a (fun u => ss_Pm lo hi a u ∧ ss_Srt lo hi u) := by
  intro d
  induction d using Nat.strongRecOn with
  | ind d ih =>
  intro a lo hi h0 h1 h48 hd
  intro sz
  refine Met.ofW (cc := cX3_mergeSort) (maxL := 7) (ret := none) (by decide) rfl ?_
  intro p e s m args below meth c s₁ B hml hv
  obtain ⟨rfl, hv⟩ := hv
  obtain ⟨C, hw, hsz⟩ := ss_in B hml hv
  subst hsz
  have hr := B.returns
  have hlocks := B.notSynchronized
  have C : Cx p m c s _ cX3_mergeSort 7 RX3 D dA := C
  have hx := C.ex
  have hb := C.by_
  have hown : s.vm.findClass RX3 = some m.cls := C.ow
  have hR : 1 ≤ (headSpec (ws_ yX3_mergeSort cX3_mergeSort 7 none) ({ frames := 60 + d, cells := 0, slots := 0, locals := 2100 + 40 * d })).room.frames ∧ 24 ≤ (headSpec (ws_ yX3_mergeSort cX3_mergeSort 7 none) ({ frames := 60 + d, cells := 0, slots := 0, locals := 2100 + 40 * d })).room.locals := ⟨by show 1 ≤ 60 + d; omega, by show 24 ≤ 2100 + 40 * d; omega⟩
  have hf : 0 ≤ (headSpec (ws_ yX3_mergeSort cX3_mergeSort 7 none) ({ frames := 60 + d, cells := 0, slots := 0, locals := 2100 + 40 * d })).room.cells ∧ 0 ≤ (headSpec (ws_ yX3_mergeSort cX3_mergeSort 7 none) ({ frames := 60 + d, cells := 0, slots := 0, locals := 2100 + 40 * d })).room.slots := ⟨Nat.le_refl 0, Nat.le_refl 0⟩
  refine ss_start (lv := [(0, .int (zI lo)), (1, .int (zI hi)), (2, .ref r), (3, .ref r)]) (Nat.le_of_ble_eq_true rfl) rfl (fun ls hl => ?_)
  refine lv_iload_n hx hb dX3_mergeSort_0 rfl (lv_at hl 1 rfl) ?_
  refine lv_iload_n hx hb dX3_mergeSort_1 rfl (lv_at hl 0 rfl) ?_
  refine zv_isub hx hb dX3_mergeSort_2 ?_
  refine lv_istore (lv' := [(4, .int (zI (hi - lo))), (0, .int (zI lo)), (1, .int (zI hi)), (2, .ref r), (3, .ref r)]) hx hb dX3_mergeSort_3 hl (by decide) rfl (fun ls hl => ?_)
  refine lv_iload hx hb dX3_mergeSort_5 (lv_at hl 0 rfl) ?_
  refine lv_bipush (v := zI (16)) hx hb dX3_mergeSort_7 (by decide) ?_
  refine zv_icmp_ge (tgt := 71) hx hb dX3_mergeSort_9 (by decide) (by omega) (by omega) (fun c1 => ?_) (fun c1 => ?_)
  · refine lv_iload_n hx hb dX3_mergeSort_71 rfl (lv_at hl 1 rfl) ?_
    refine lv_iload_n hx hb dX3_mergeSort_72 rfl (lv_at hl 2 rfl) ?_
    refine zv_iadd hx hb dX3_mergeSort_73 ?_
    refine lv_iconst (v := zI (1)) hx hb dX3_mergeSort_74 rfl ?_
    refine zv_iushr1 hx hb dX3_mergeSort_75 (by omega) ?_
    obtain ⟨mid, hm⟩ : ∃ mid : Int, mid = (lo + hi) / 2 := ⟨_, rfl⟩
    refine zv_top (b := mid) (hm.symm) ?_
    refine lv_istore (lv' := [(5, .int (zI mid)), (4, .int (zI (hi - lo))), (0, .int (zI lo)), (1, .int (zI hi)), (2, .ref r), (3, .ref r)]) hx hb dX3_mergeSort_76 hl (by decide) rfl (fun ls hl => ?_)
    refine lv_iload_n hx hb dX3_mergeSort_78 rfl (lv_at hl 2 rfl) ?_
    refine lv_iload hx hb dX3_mergeSort_79 (lv_at hl 0 rfl) ?_
    refine lv_aload_n hx hb dX3_mergeSort_81 rfl (lv_at hl 4 rfl) ?_
    refine lv_aload_n hx hb dX3_mergeSort_82 rfl (lv_at hl 5 rfl) ?_
    refine ss_callv C hw (As := [.int (zI lo), .int (zI mid), .ref r, .ref r]) (rest := []) (ih (d - 1) (by omega) a lo mid h0 (by omega) (by omega) (by omega)) (va_cwS 4 C.ts (lw_S q110 q108 q8 q109) rfl rfl rfl ⟨by decide, by decide, by decide +kernel⟩ ⟨by show 60 + (d - 1) + 1 ≤ 60 + d; omega, by show 8 + (7 + 11) + (2100 + 40 * (d - 1)) ≤ 2100 + 40 * d; omega⟩) rfl hl.1 (Nat.le_of_ble_eq_true rfl) hf dX3_mergeSort_83 (fun b1 H locs g1 hw => ?_)
    refine lv_iload hx hb dX3_mergeSort_86 (lv_at hl 0 rfl) ?_
    refine lv_iload_n hx hb dX3_mergeSort_88 rfl (lv_at hl 3 rfl) ?_
    refine lv_aload_n hx hb dX3_mergeSort_89 rfl (lv_at hl 4 rfl) ?_
    refine lv_aload_n hx hb dX3_mergeSort_90 rfl (lv_at hl 5 rfl) ?_
    refine ss_callv C hw (As := [.int (zI mid), .int (zI hi), .ref r, .ref r]) (rest := []) (ih (d - 1) (by omega) b1 mid hi (by omega) (by omega) h48 (by omega)) (va_cwS 4 C.ts (lw_S q110 q108 q8 q109) rfl rfl rfl ⟨by decide, by decide, by decide +kernel⟩ ⟨by show 60 + (d - 1) + 1 ≤ 60 + d; omega, by show 8 + (7 + 11) + (2100 + 40 * (d - 1)) ≤ 2100 + 40 * d; omega⟩) rfl hl.1 (Nat.le_of_ble_eq_true rfl) hf dX3_mergeSort_91 (fun b2 H locs g2 hw => ?_)
    have hpm : ss_Pm lo hi a b2 := (g1.1.wide (Int.le_refl lo) (by omega)).tr (g2.1.wide (by omega) (Int.le_refl hi))
    have hL : ss_Srt lo mid b2 := g1.2.keep (fun z e1 e2 => g2.1.1 z (by omega))
    refine lv_aload_n hx hb dX3_mergeSort_94 rfl (lv_at hl 4 rfl) ?_
    refine lv_iload hx hb dX3_mergeSort_95 (lv_at hl 0 rfl) ?_
    refine lv_iconst (v := zI (1)) hx hb dX3_mergeSort_97 rfl ?_
    refine zv_isub hx hb dX3_mergeSort_98 ?_
    refine lv_iload hx hb dX3_mergeSort_99 (lv_at hl 0 rfl) ?_
    refine ss_cmp C hw (i := mid - 1) (j := mid) (rest := []) (by omega) (by omega) hl.1 hR hf (Nat.le_of_ble_eq_true rfl) dX3_mergeSort_101 (fun z H locs hc hw => ?_)
    unfold cm at hc
    refine zv_if_gt (tgt := 110) hx hb dX3_mergeSort_106 (by decide) (by omega) (fun c2 => ?_) (fun c2 => ?_)
    · refine lv_iload_n hx hb dX3_mergeSort_110 rfl (lv_at hl 2 rfl) ?_
      refine lv_iload hx hb dX3_mergeSort_111 (lv_at hl 0 rfl) ?_
      refine lv_iload_n hx hb dX3_mergeSort_113 rfl (lv_at hl 3 rfl) ?_
      refine lv_aload_n hx hb dX3_mergeSort_114 rfl (lv_at hl 4 rfl) ?_
      refine lv_aload_n hx hb dX3_mergeSort_115 rfl (lv_at hl 5 rfl) ?_
      refine ss_callv C hw (As := [.int (zI lo), .int (zI mid), .int (zI hi), .ref r, .ref r]) (rest := []) (m_merge l D dA x r fa ga 48 b2 lo mid hi h0 (by omega) (by omega) h48 (by omega) hL g2.2) (va_cwS 5 C.ts (lw_S q111 q112 q8 q113) rfl rfl rfl ⟨by decide, by decide, by decide +kernel⟩ ⟨by show 48 + 2 + 1 ≤ 60 + d; omega, by show 8 + (12 + 11) + (50 + 40 * 48) ≤ 2100 + 40 * d; omega⟩) rfl hl.1 (Nat.le_of_ble_eq_true rfl) hf dX3_mergeSort_116 (fun b3 H locs g3 hw => ?_)
      exact ss_vret C hr hlocks hw ⟨hpm.tr g3.1, g3.2⟩ dX3_mergeSort_119
    · exact ss_vret C hr hlocks hw ⟨hpm, hL.cat g2.2 (by omega)⟩ dX3_mergeSort_109
  · refine lv_iload_n hx hb dX3_mergeSort_12 rfl (lv_at hl 1 rfl) ?_
    refine lv_istore (lv' := [(5, .int (zI lo)), (4, .int (zI (hi - lo))), (0, .int (zI lo)), (1, .int (zI hi)), (2, .ref r), (3, .ref r)]) hx hb dX3_mergeSort_13 hl (by decide) rfl (fun ls hl => ?_)
    exact w_mergeSort_ins C hR hf h0 h48 (fun b H locs ls g1 g2 hw => ss_vret C hr hlocks hw ⟨g2, g1⟩ dX3_mergeSort_70) (hi - lo + 1).toNat lo a _ _ ls (by omega) (Int.le_refl lo) h1 (ss_Srt.small (by omega)) ss_Pm.rf hw (lv_sub hl [2, 3, 4, 5, 0] rfl)
end SSE
end
section
/-! OWNARRAYS 3: quickSort -/
section SSF
variable {p : Program} {l : Launch} {e : Env} {R : Room} {s : State} {m : MethodId} {args : Array Value} {below : List Frame} {meth : Method} {c : Code} {cells slots : Nat} {Q : State → Prop}
variable {D : va_G} {dA : ClassId} {x r fa ga : Nat}
variable {H : Heap} {locs : List Loc} {cc : ByteArray} {pc nL : Nat} {ls : Array Slot} {rest : List Value} {a : Int → Int}
/-- Math.min in OwnArrays -/
theorem ss_min (C : Cx p m c s args cc nL RX3 D dA) (hl : ls.size = nL) (hR : 1 ≤ R.frames ∧ 24 ≤ R.locals) (hf : cells ≤ R.cells ∧ slots ≤ R.slots) (hW : (rest.map fun v => v.category).sum ≤ 8) {u v : Int} (hu : -2147483648 ≤ u ∧ u < 2147483648) (hv : -2147483648 ≤ v ∧ v < 2147483648) (hdg : decode cc pc = .ok (.invokestatic 33, 3))
    (kk : ∀ z : Int, (z = u ∧ u ≤ v) ∨ (z = v ∧ v ≤ u) → W p l e R s m args below meth c H locs cells slots Q (F0 m (pc + 3) ls (.int (zI z) :: rest))) : W p l e R s m args below meth c H locs cells slots Q (F0 m pc ls (.int (zI v) :: .int (zI u) :: rest)) := by
  refine va_mmin C.ex C.by_ (C.ml.trans hl.symm) C.ow (C.ts _ q96) (C.ts _ q97) (C.ts _ q9) (C.ts _ q98) hR.1 (by omega) hf.1 hf.2 hdg ?_
  by_cases h : zI v < zI u
  · rw [if_pos h]
    exact kk v (Or.inr ⟨rfl, by have := (zI_lt hv hu).mp h; omega⟩)
  · rw [if_neg h]
    exact kk u (Or.inl ⟨rfl, Int.not_lt.mp (fun q => h ((zI_lt hv hu).mpr q))⟩)
end SSF
section SSG
variable {p : Program} {l : Launch} {e : Env} {R : Room} {s : State} {m : MethodId} {args : Array Value} {below : List Frame} {meth : Method} {c : Code} {cells slots : Nat} {Q : State → Prop}
variable {D : va_G} {dA : ClassId} {x r fa ga : Nat}
set_option maxHeartbeats 4000000 in
set_option maxRecDepth 100000 in
/-- quickSort's partition: the loop at 260 (right side), then the one at 188 (left side), by the places left between -/
theorem w_part {a : Int → Int} (C : Cx p m c s args cX3_quickSort 13 RX3 D dA) (hR : 1 ≤ R.frames ∧ 24 ≤ R.locals) (hf : cells ≤ R.cells ∧ slots ≤ R.slots) {lo hi V : Int} (h0 : 0 ≤ lo) (h48 : hi ≤ 48)
    (kk : ∀ (A B C1 D1 M : Int) (b : Int → Int) (H : Heap) (locs : List Loc) (ls : Array Slot), ss_QI lo hi A B C1 D1 M V b → C1 < B → ss_Pm lo hi a b → Wa D dA x r fa ga s b H locs → lv_has ls 13 [(0, .int (zI lo)), (1, .int (zI hi)), (2, .ref r), (3, .ref r), (8, .int (zI A)), (9, .int (zI B)), (10, .int (zI C1)), (11, .int (zI D1))] → W p l e R s m args below meth c H locs cells slots Q (F0 m 386 ls [])) :
    ∀ n : Nat, (∀ (A B C1 D1 M : Int) (b : Int → Int) (H : Heap) (locs : List Loc) (ls : Array Slot), C1 + 1 - B < ((n : Nat) : Int) → ss_QI lo hi A B C1 D1 M V b → (B ≤ C1 → V < b B) → ss_Pm lo hi a b → Wa D dA x r fa ga s b H locs → lv_has ls 13 [(0, .int (zI lo)), (1, .int (zI hi)), (2, .ref r), (3, .ref r), (5, .int (zI M)), (8, .int (zI A)), (9, .int (zI B)), (10, .int (zI C1)), (11, .int (zI D1))] → W p l e R s m args below meth c H locs cells slots Q (F0 m 260 ls [])) ∧ ∀ (A B C1 D1 M : Int) (b : Int → Int) (H : Heap) (locs : List Loc) (ls : Array Slot), C1 + 1 - B < ((n : Nat) : Int) → ss_QI lo hi A B C1 D1 M V b → ss_Pm lo hi a b → Wa D dA x r fa ga s b H locs → lv_has ls 13 [(0, .int (zI lo)), (1, .int (zI hi)), (2, .ref r), (3, .ref r), (5, .int (zI M)), (8, .int (zI A)), (9, .int (zI B)), (10, .int (zI C1)), (11, .int (zI D1))] → W p l e R s m args below meth c H locs cells slots Q (F0 m 188 ls []) := by
  have hx := C.ex
  have hb := C.by_
  intro n
  induction n with
  | zero =>
    refine ⟨fun A B C1 D1 M b H locs ls h1 hq => ?_, fun A B C1 D1 M b H locs ls h1 hq => ?_⟩
    · have := hq.2.2.1
      omega
    · have := hq.2.2.1
      omega
  | succ n ih =>
    have P2 : ∀ (A B C1 D1 M : Int) (b : Int → Int) (H : Heap) (locs : List Loc) (ls : Array Slot), C1 + 1 - B < ((n + 1 : Nat) : Int) → ss_QI lo hi A B C1 D1 M V b → (B ≤ C1 → V < b B) → ss_Pm lo hi a b → Wa D dA x r fa ga s b H locs → lv_has ls 13 [(0, .int (zI lo)), (1, .int (zI hi)), (2, .ref r), (3, .ref r), (5, .int (zI M)), (8, .int (zI A)), (9, .int (zI B)), (10, .int (zI C1)), (11, .int (zI D1))] → W p l e R s m args below meth c H locs cells slots Q (F0 m 260 ls []) := by
      intro A B C1 D1 M b H locs ls h1 hq hB hpm hw hl
      obtain ⟨i1, i2, i3, i4, i5, i6, i7, i8, -⟩ := id hq
      refine lv_iload hx hb dX3_quickSort_260 (lv_at hl 7 rfl) ?_
      refine lv_iload hx hb dX3_quickSort_262 (lv_at hl 6 rfl) ?_
      refine zv_icmp_lt (tgt := 332) hx hb dX3_quickSort_264 (by decide) (by omega) (by omega) (fun c1 => ?_) (fun c1 => ?_)
      · refine lv_iload hx hb dX3_quickSort_332 (lv_at hl 6 rfl) ?_
        refine lv_iload hx hb dX3_quickSort_334 (lv_at hl 7 rfl) ?_
        refine zv_icmp_le (tgt := 342) hx hb dX3_quickSort_336 (by decide) (by omega) (by omega) (fun c2 => ?_) (fun c2 => ?_)
        · exact absurd c2 (by omega)
        · refine lv_goto (tgt := 386) hx hb dX3_quickSort_339 (by decide) ?_
          exact kk A B C1 D1 M b H locs ls hq (by omega) hpm hw (lv_sub hl [0, 1, 2, 3, 5, 6, 7, 8] rfl)
      · have hBv := hB (by omega)
        refine lv_aload_n hx hb dX3_quickSort_267 rfl (lv_at hl 2 rfl) ?_
        refine lv_iload hx hb dX3_quickSort_268 (lv_at hl 7 rfl) ?_
        refine lv_iload hx hb dX3_quickSort_270 (lv_at hl 4 rfl) ?_
        refine ss_cmp C hw (i := C1) (j := M) (rest := []) (by omega) (by omega) hl.1 hR hf (Nat.le_of_ble_eq_true rfl) dX3_quickSort_272 (fun z H locs hc hw => ?_)
        unfold cm at hc
        rw [i8] at hc
        refine lv_dup hx hb dX3_quickSort_277 rfl ?_
        refine lv_istore (lv' := [(12, .int (zI z)), (0, .int (zI lo)), (1, .int (zI hi)), (2, .ref r), (3, .ref r), (5, .int (zI M)), (8, .int (zI A)), (9, .int (zI B)), (10, .int (zI C1)), (11, .int (zI D1))]) hx hb dX3_quickSort_278 hl (by decide) rfl (fun ls hl => ?_)
        refine zv_if_lt (tgt := 332) hx hb dX3_quickSort_280 (by decide) (by omega) (fun c3 => ?_) (fun c3 => ?_)
        · refine lv_iload hx hb dX3_quickSort_332 (lv_at hl 7 rfl) ?_
          refine lv_iload hx hb dX3_quickSort_334 (lv_at hl 8 rfl) ?_
          refine zv_icmp_le (tgt := 342) hx hb dX3_quickSort_336 (by decide) (by omega) (by omega) (fun c4 => ?_) (fun c4 => ?_)
          · refine lv_iload hx hb dX3_quickSort_342 (lv_at hl 7 rfl) ?_
            refine lv_iload hx hb dX3_quickSort_344 (lv_at hl 5 rfl) ?_
            have J : ∀ (M2 : Int) (ls : Array Slot), ss_mv B C1 M M2 → lv_has ls 13 [(0, .int (zI lo)), (1, .int (zI hi)), (2, .ref r), (3, .ref r), (5, .int (zI M2)), (8, .int (zI A)), (9, .int (zI B)), (10, .int (zI C1)), (11, .int (zI D1)), (12, .int (zI z))] → W p l e R s m args below meth c H locs cells slots Q (F0 m 367 ls []) := by
              intro M2 ls hm hl
              refine lv_aload_n hx hb dX3_quickSort_367 rfl (lv_at hl 3 rfl) ?_
              refine lv_iload hx hb dX3_quickSort_368 (lv_at hl 6 rfl) ?_
              refine zv_iinc (b := B + 1) (lv' := [(9, .int (zI (B + 1))), (0, .int (zI lo)), (1, .int (zI hi)), (2, .ref r), (3, .ref r), (5, .int (zI M2)), (8, .int (zI A)), (10, .int (zI C1)), (11, .int (zI D1)), (12, .int (zI z))]) hx hb dX3_quickSort_370 hl (k := 6) rfl (by omega) (by decide) rfl (fun ls hl => ?_)
              refine lv_iload hx hb dX3_quickSort_373 (lv_at hl 7 rfl) ?_
              refine zv_iinc (b := C1 - 1) (lv' := [(10, .int (zI (C1 - 1))), (9, .int (zI (B + 1))), (0, .int (zI lo)), (1, .int (zI hi)), (2, .ref r), (3, .ref r), (5, .int (zI M2)), (8, .int (zI A)), (11, .int (zI D1)), (12, .int (zI z))]) hx hb dX3_quickSort_375 hl (k := 7) rfl (by omega) (by decide) rfl (fun ls hl => ?_)
              refine ss_swp C hw (i := B) (j := C1) (rest := []) (by omega) (by omega) hl.1 hR hf (Nat.le_of_ble_eq_true rfl) dX3_quickSort_378 (fun H locs hw => ?_)
              refine lv_goto (tgt := 188) hx hb dX3_quickSort_383 (by decide) ?_
              exact ih.2 A (B + 1) (C1 - 1) D1 M2 _ H locs ls (by omega) (ss_Q_sw hq (by omega) hBv (by omega) hm) (hpm.tr (ss_Pm.sw h0 h48 (by omega) (by omega) (by omega) (by omega))) hw (lv_sub hl [2, 3, 4, 5, 6, 7, 1, 0, 8] rfl)
            refine zv_icmp_ne (tgt := 356) hx hb dX3_quickSort_346 (by decide) (by omega) (by omega) (fun m1 => ?_) (fun m1 => ?_)
            · refine lv_iload hx hb dX3_quickSort_356 (lv_at hl 8 rfl) ?_
              refine lv_iload hx hb dX3_quickSort_358 (lv_at hl 5 rfl) ?_
              refine zv_icmp_ne (tgt := 367) hx hb dX3_quickSort_360 (by decide) (by omega) (by omega) (fun m2 => ?_) (fun m2 => ?_)
              · exact J _ ls (Or.inr (Or.inr ⟨m1, m2, rfl⟩)) (lv_sub hl [1, 2, 3, 4, 5, 6, 7, 8, 9, 0] rfl)
              · refine lv_iload hx hb dX3_quickSort_363 (lv_at hl 7 rfl) ?_
                refine lv_istore (lv' := [(5, .int (zI B)), (12, .int (zI z)), (0, .int (zI lo)), (1, .int (zI hi)), (2, .ref r), (3, .ref r), (8, .int (zI A)), (9, .int (zI B)), (10, .int (zI C1)), (11, .int (zI D1))]) hx hb dX3_quickSort_365 hl (by decide) rfl (fun ls hl => ?_)
                exact J _ ls (Or.inr (Or.inl ⟨m1, m2, rfl⟩)) (lv_sub hl [2, 3, 4, 5, 0, 6, 7, 8, 9, 1] rfl)
            · refine lv_iload hx hb dX3_quickSort_349 (lv_at hl 8 rfl) ?_
              refine lv_istore (lv' := [(5, .int (zI C1)), (12, .int (zI z)), (0, .int (zI lo)), (1, .int (zI hi)), (2, .ref r), (3, .ref r), (8, .int (zI A)), (9, .int (zI B)), (10, .int (zI C1)), (11, .int (zI D1))]) hx hb dX3_quickSort_351 hl (by decide) rfl (fun ls hl => ?_)
              refine lv_goto (tgt := 367) hx hb dX3_quickSort_353 (by decide) ?_
              exact J _ ls (Or.inl ⟨m1, rfl⟩) (lv_sub hl [2, 3, 4, 5, 0, 6, 7, 8, 9, 1] rfl)
          · exact absurd c4 (by omega)
        · refine lv_iload hx hb dX3_quickSort_283 (lv_at hl 0 rfl) ?_
          refine zv_if_ne (tgt := 326) hx hb dX3_quickSort_285 (by decide) (by omega) (fun c4 => ?_) (fun c4 => ?_)
          · refine zv_iinc (b := C1 - 1) (lv' := [(10, .int (zI (C1 - 1))), (12, .int (zI z)), (0, .int (zI lo)), (1, .int (zI hi)), (2, .ref r), (3, .ref r), (5, .int (zI M)), (8, .int (zI A)), (9, .int (zI B)), (11, .int (zI D1))]) hx hb dX3_quickSort_326 hl (k := 8) rfl (by omega) (by decide) rfl (fun ls hl => ?_)
            refine lv_goto (tgt := 260) hx hb dX3_quickSort_329 (by decide) ?_
            exact ih.1 A B (C1 - 1) D1 M b H locs ls (by omega) (ss_Q_c hq (by omega) (by omega)) (fun _ => hBv) hpm hw (lv_sub hl [2, 3, 4, 5, 6, 7, 8, 0, 9] rfl)
          · refine lv_iload hx hb dX3_quickSort_288 (lv_at hl 8 rfl) ?_
            refine lv_iload hx hb dX3_quickSort_290 (lv_at hl 5 rfl) ?_
            have J : ∀ (M2 : Int) (ls : Array Slot), ss_mv C1 D1 M M2 → lv_has ls 13 [(0, .int (zI lo)), (1, .int (zI hi)), (2, .ref r), (3, .ref r), (5, .int (zI M2)), (8, .int (zI A)), (9, .int (zI B)), (10, .int (zI C1)), (11, .int (zI D1)), (12, .int (zI z))] → W p l e R s m args below meth c H locs cells slots Q (F0 m 313 ls []) := by
              intro M2 ls hm hl
              refine lv_aload_n hx hb dX3_quickSort_313 rfl (lv_at hl 3 rfl) ?_
              refine lv_iload hx hb dX3_quickSort_314 (lv_at hl 7 rfl) ?_
              refine lv_iload hx hb dX3_quickSort_316 (lv_at hl 8 rfl) ?_
              refine zv_iinc (b := D1 - 1) (lv' := [(11, .int (zI (D1 - 1))), (0, .int (zI lo)), (1, .int (zI hi)), (2, .ref r), (3, .ref r), (5, .int (zI M2)), (8, .int (zI A)), (9, .int (zI B)), (10, .int (zI C1)), (12, .int (zI z))]) hx hb dX3_quickSort_318 hl (k := 8) rfl (by omega) (by decide) rfl (fun ls hl => ?_)
              refine ss_swp C hw (i := C1) (j := D1) (rest := []) (by omega) (by omega) hl.1 hR hf (Nat.le_of_ble_eq_true rfl) dX3_quickSort_321 (fun H locs hw => ?_)
              refine zv_iinc (b := C1 - 1) (lv' := [(10, .int (zI (C1 - 1))), (11, .int (zI (D1 - 1))), (0, .int (zI lo)), (1, .int (zI hi)), (2, .ref r), (3, .ref r), (5, .int (zI M2)), (8, .int (zI A)), (9, .int (zI B)), (12, .int (zI z))]) hx hb dX3_quickSort_326 hl (k := 8) rfl (by omega) (by decide) rfl (fun ls hl => ?_)
              refine lv_goto (tgt := 260) hx hb dX3_quickSort_329 (by decide) ?_
              obtain ⟨e1, e2⟩ := ss_Q_ceq hq (by omega) hBv (by omega) hm
              exact ih.1 A B (C1 - 1) (D1 - 1) M2 _ H locs ls (by omega) e1 (fun _ => e2) (hpm.tr (ss_Pm.sw h0 h48 (by omega) (by omega) (by omega) (by omega))) hw (lv_sub hl [2, 3, 4, 5, 6, 7, 8, 0, 1] rfl)
            refine zv_icmp_ne (tgt := 302) hx hb dX3_quickSort_292 (by decide) (by omega) (by omega) (fun m1 => ?_) (fun m1 => ?_)
            · refine lv_iload hx hb dX3_quickSort_302 (lv_at hl 9 rfl) ?_
              refine lv_iload hx hb dX3_quickSort_304 (lv_at hl 5 rfl) ?_
              refine zv_icmp_ne (tgt := 313) hx hb dX3_quickSort_306 (by decide) (by omega) (by omega) (fun m2 => ?_) (fun m2 => ?_)
              · exact J _ ls (Or.inr (Or.inr ⟨m1, m2, rfl⟩)) (lv_sub hl [1, 2, 3, 4, 5, 6, 7, 8, 9, 0] rfl)
              · refine lv_iload hx hb dX3_quickSort_309 (lv_at hl 8 rfl) ?_
                refine lv_istore (lv' := [(5, .int (zI C1)), (12, .int (zI z)), (0, .int (zI lo)), (1, .int (zI hi)), (2, .ref r), (3, .ref r), (8, .int (zI A)), (9, .int (zI B)), (10, .int (zI C1)), (11, .int (zI D1))]) hx hb dX3_quickSort_311 hl (by decide) rfl (fun ls hl => ?_)
                exact J _ ls (Or.inr (Or.inl ⟨m1, m2, rfl⟩)) (lv_sub hl [2, 3, 4, 5, 0, 6, 7, 8, 9, 1] rfl)
            · refine lv_iload hx hb dX3_quickSort_295 (lv_at hl 9 rfl) ?_
              refine lv_istore (lv' := [(5, .int (zI D1)), (12, .int (zI z)), (0, .int (zI lo)), (1, .int (zI hi)), (2, .ref r), (3, .ref r), (8, .int (zI A)), (9, .int (zI B)), (10, .int (zI C1)), (11, .int (zI D1))]) hx hb dX3_quickSort_297 hl (by decide) rfl (fun ls hl => ?_)
              refine lv_goto (tgt := 313) hx hb dX3_quickSort_299 (by decide) ?_
              exact J _ ls (Or.inl ⟨m1, rfl⟩) (lv_sub hl [2, 3, 4, 5, 0, 6, 7, 8, 9, 1] rfl)
    refine ⟨P2, ?_⟩
    intro A B C1 D1 M b H locs ls h1 hq hpm hw hl
    obtain ⟨i1, i2, i3, i4, i5, i6, i7, i8, -⟩ := id hq
    refine lv_iload hx hb dX3_quickSort_188 (lv_at hl 6 rfl) ?_
    refine lv_iload hx hb dX3_quickSort_190 (lv_at hl 7 rfl) ?_
    refine zv_icmp_gt (tgt := 260) hx hb dX3_quickSort_192 (by decide) (by omega) (by omega) (fun c1 => ?_) (fun c1 => ?_)
    · exact P2 A B C1 D1 M b H locs ls h1 hq (fun e => absurd e (by omega)) hpm hw (lv_sub hl [0, 1, 2, 3, 4, 5, 6, 7, 8] rfl)
    · refine lv_aload_n hx hb dX3_quickSort_195 rfl (lv_at hl 2 rfl) ?_
      refine lv_iload hx hb dX3_quickSort_196 (lv_at hl 6 rfl) ?_
      refine lv_iload hx hb dX3_quickSort_198 (lv_at hl 4 rfl) ?_
      refine ss_cmp C hw (i := B) (j := M) (rest := []) (by omega) (by omega) hl.1 hR hf (Nat.le_of_ble_eq_true rfl) dX3_quickSort_200 (fun z H locs hc hw => ?_)
      unfold cm at hc
      rw [i8] at hc
      refine lv_dup hx hb dX3_quickSort_205 rfl ?_
      refine lv_istore (lv' := [(12, .int (zI z)), (0, .int (zI lo)), (1, .int (zI hi)), (2, .ref r), (3, .ref r), (5, .int (zI M)), (8, .int (zI A)), (9, .int (zI B)), (10, .int (zI C1)), (11, .int (zI D1))]) hx hb dX3_quickSort_206 hl (by decide) rfl (fun ls hl => ?_)
      refine zv_if_gt (tgt := 260) hx hb dX3_quickSort_208 (by decide) (by omega) (fun c2 => ?_) (fun c2 => ?_)
      · exact P2 A B C1 D1 M b H locs ls h1 hq (fun _ => by omega) hpm hw (lv_sub hl [1, 2, 3, 4, 5, 6, 7, 8, 9] rfl)
      · refine lv_iload hx hb dX3_quickSort_211 (lv_at hl 0 rfl) ?_
        refine zv_if_ne (tgt := 254) hx hb dX3_quickSort_213 (by decide) (by omega) (fun c3 => ?_) (fun c3 => ?_)
        · refine zv_iinc (b := B + 1) (lv' := [(9, .int (zI (B + 1))), (12, .int (zI z)), (0, .int (zI lo)), (1, .int (zI hi)), (2, .ref r), (3, .ref r), (5, .int (zI M)), (8, .int (zI A)), (10, .int (zI C1)), (11, .int (zI D1))]) hx hb dX3_quickSort_254 hl (k := 7) rfl (by omega) (by decide) rfl (fun ls hl => ?_)
          refine lv_goto (tgt := 188) hx hb dX3_quickSort_257 (by decide) ?_
          exact ih.2 A (B + 1) C1 D1 M b H locs ls (by omega) (ss_Q_b hq (by omega) (by omega)) hpm hw (lv_sub hl [2, 3, 4, 5, 6, 7, 0, 8, 9] rfl)
        · refine lv_iload hx hb dX3_quickSort_216 (lv_at hl 6 rfl) ?_
          refine lv_iload hx hb dX3_quickSort_218 (lv_at hl 5 rfl) ?_
          have J : ∀ (M2 : Int) (ls : Array Slot), ss_mv A B M M2 → lv_has ls 13 [(0, .int (zI lo)), (1, .int (zI hi)), (2, .ref r), (3, .ref r), (5, .int (zI M2)), (8, .int (zI A)), (9, .int (zI B)), (10, .int (zI C1)), (11, .int (zI D1)), (12, .int (zI z))] → W p l e R s m args below meth c H locs cells slots Q (F0 m 241 ls []) := by
            intro M2 ls hm hl
            refine lv_aload_n hx hb dX3_quickSort_241 rfl (lv_at hl 3 rfl) ?_
            refine lv_iload hx hb dX3_quickSort_242 (lv_at hl 5 rfl) ?_
            refine zv_iinc (b := A + 1) (lv' := [(8, .int (zI (A + 1))), (0, .int (zI lo)), (1, .int (zI hi)), (2, .ref r), (3, .ref r), (5, .int (zI M2)), (9, .int (zI B)), (10, .int (zI C1)), (11, .int (zI D1)), (12, .int (zI z))]) hx hb dX3_quickSort_244 hl (k := 5) rfl (by omega) (by decide) rfl (fun ls hl => ?_)
            refine lv_iload hx hb dX3_quickSort_247 (lv_at hl 6 rfl) ?_
            refine ss_swp C hw (i := A) (j := B) (rest := []) (by omega) (by omega) hl.1 hR hf (Nat.le_of_ble_eq_true rfl) dX3_quickSort_249 (fun H locs hw => ?_)
            refine zv_iinc (b := B + 1) (lv' := [(9, .int (zI (B + 1))), (8, .int (zI (A + 1))), (0, .int (zI lo)), (1, .int (zI hi)), (2, .ref r), (3, .ref r), (5, .int (zI M2)), (10, .int (zI C1)), (11, .int (zI D1)), (12, .int (zI z))]) hx hb dX3_quickSort_254 hl (k := 6) rfl (by omega) (by decide) rfl (fun ls hl => ?_)
            refine lv_goto (tgt := 188) hx hb dX3_quickSort_257 (by decide) ?_
            exact ih.2 (A + 1) (B + 1) C1 D1 M2 _ H locs ls (by omega) (ss_Q_beq hq (by omega) (by omega) hm) (hpm.tr (ss_Pm.sw h0 h48 (by omega) (by omega) (by omega) (by omega))) hw (lv_sub hl [2, 3, 4, 5, 6, 1, 0, 7, 8] rfl)
          refine zv_icmp_ne (tgt := 230) hx hb dX3_quickSort_220 (by decide) (by omega) (by omega) (fun m1 => ?_) (fun m1 => ?_)
          · refine lv_iload hx hb dX3_quickSort_230 (lv_at hl 7 rfl) ?_
            refine lv_iload hx hb dX3_quickSort_232 (lv_at hl 5 rfl) ?_
            refine zv_icmp_ne (tgt := 241) hx hb dX3_quickSort_234 (by decide) (by omega) (by omega) (fun m2 => ?_) (fun m2 => ?_)
            · exact J _ ls (Or.inr (Or.inr ⟨m1, m2, rfl⟩)) (lv_sub hl [1, 2, 3, 4, 5, 6, 7, 8, 9, 0] rfl)
            · refine lv_iload hx hb dX3_quickSort_237 (lv_at hl 6 rfl) ?_
              refine lv_istore (lv' := [(5, .int (zI A)), (12, .int (zI z)), (0, .int (zI lo)), (1, .int (zI hi)), (2, .ref r), (3, .ref r), (8, .int (zI A)), (9, .int (zI B)), (10, .int (zI C1)), (11, .int (zI D1))]) hx hb dX3_quickSort_239 hl (by decide) rfl (fun ls hl => ?_)
              exact J _ ls (Or.inr (Or.inl ⟨m1, m2, rfl⟩)) (lv_sub hl [2, 3, 4, 5, 0, 6, 7, 8, 9, 1] rfl)
          · refine lv_iload hx hb dX3_quickSort_223 (lv_at hl 7 rfl) ?_
            refine lv_istore (lv' := [(5, .int (zI B)), (12, .int (zI z)), (0, .int (zI lo)), (1, .int (zI hi)), (2, .ref r), (3, .ref r), (8, .int (zI A)), (9, .int (zI B)), (10, .int (zI C1)), (11, .int (zI D1))]) hx hb dX3_quickSort_225 hl (by decide) rfl (fun ls hl => ?_)
            refine lv_goto (tgt := 241) hx hb dX3_quickSort_227 (by decide) ?_
            exact J _ ls (Or.inl ⟨m1, rfl⟩) (lv_sub hl [2, 3, 4, 5, 0, 6, 7, 8, 9, 1] rfl)
set_option maxHeartbeats 4000000 in
set_option maxRecDepth 100000 in
/-- quickSort behind its partition -/
theorem w_quick_end {a b : Int → Int} {rm : Room} (K : Cx p m c s args cX3_quickSort 13 RX3 D dA) (hR : 1 ≤ R.frames ∧ 24 ≤ R.locals) (hf : cells ≤ R.cells ∧ slots ≤ R.slots) {lo hi V A B C1 D1 M : Int} (h0 : 0 ≤ lo) (h48 : hi ≤ 48) (ih : ∀ (b : Int → Int) (lo2 hi2 : Int), 0 ≤ lo2 → lo2 ≤ hi2 → hi2 ≤ 48 → hi2 - lo2 < hi - lo → MetV l D dA x r fa ga yX3_quickSort cX3_quickSort 13 rm [.int (zI lo2), .int (zI hi2), .ref r, .ref r] b (fun u => ss_Pm lo2 hi2 b u ∧ ss_Srt lo2 hi2 u)) (hrm : rm.cells = 0 ∧ rm.slots = 0 ∧ rm.frames + 1 ≤ R.frames ∧ 8 + (13 + 11) + rm.locals ≤ R.locals) (hRs : 2 ≤ R.frames ∧ 50 ≤ R.locals)
    (kk : ∀ (u : Int → Int) (H : Heap) (locs : List Loc) (ls : Array Slot), ss_Pm lo hi a u → ss_Srt lo hi u → Wa D dA x r fa ga s u H locs → W p l e R s m args below meth c H locs cells slots Q (F0 m 484 ls []))
    (hq : ss_QI lo hi A B C1 D1 M V b) (hCB : C1 < B) (hpm : ss_Pm lo hi a b) {H : Heap} {locs : List Loc} {ls : Array Slot} (hw : Wa D dA x r fa ga s b H locs) (hl : lv_has ls 13 [(0, .int (zI lo)), (1, .int (zI hi)), (2, .ref r), (3, .ref r), (8, .int (zI A)), (9, .int (zI B)), (10, .int (zI C1)), (11, .int (zI D1))]) : W p l e R s m args below meth c H locs cells slots Q (F0 m 386 ls []) := by
  have hx := K.ex
  have hb := K.by_
  obtain ⟨i1, i2, i3, i4, i5, i6, i7, i8, -⟩ := id hq
  have hsz := ss_Q_size hq hCB
  refine lv_iload hx hb dX3_quickSort_386 (lv_at hl 4 rfl) ?_
  refine lv_iload_n hx hb dX3_quickSort_388 rfl (lv_at hl 0 rfl) ?_
  refine zv_isub hx hb dX3_quickSort_389 ?_
  refine lv_iload hx hb dX3_quickSort_390 (lv_at hl 5 rfl) ?_
  refine lv_iload hx hb dX3_quickSort_392 (lv_at hl 4 rfl) ?_
  refine zv_isub hx hb dX3_quickSort_394 ?_
  refine ss_min K (u := A - lo) (v := B - A) (rest := []) hl.1 hR hf (Nat.le_of_ble_eq_true rfl) (by omega) (by omega) dX3_quickSort_395 (fun s0 hs0 => ?_)
  refine lv_istore (lv' := [(12, .int (zI s0)), (0, .int (zI lo)), (1, .int (zI hi)), (2, .ref r), (3, .ref r), (8, .int (zI A)), (9, .int (zI B)), (10, .int (zI C1)), (11, .int (zI D1))]) hx hb dX3_quickSort_398 hl (by decide) rfl (fun ls hl => ?_)
  refine lv_aload_n hx hb dX3_quickSort_400 rfl (lv_at hl 4 rfl) ?_
  refine lv_iload_n hx hb dX3_quickSort_401 rfl (lv_at hl 1 rfl) ?_
  refine lv_iload hx hb dX3_quickSort_402 (lv_at hl 6 rfl) ?_
  refine lv_iload hx hb dX3_quickSort_404 (lv_at hl 0 rfl) ?_
  refine zv_isub hx hb dX3_quickSort_406 ?_
  refine lv_iload hx hb dX3_quickSort_407 (lv_at hl 0 rfl) ?_
  refine ss_callv K hw (As := [.ref r, .int (zI lo), .int (zI (B - s0)), .int (zI s0)]) (rest := []) (m_vswap l D dA x r fa ga b lo (B - s0) s0 h0 (by omega) (by omega) (by omega)) (va_cwS 4 K.ts (lw_S q99 q100 q8 q101) rfl rfl rfl ⟨by decide, by decide, by decide +kernel⟩ ⟨by show 1 + 1 ≤ _; omega, by show 8 + (5 + 11) + 24 ≤ _; omega⟩) rfl hl.1 (Nat.le_of_ble_eq_true rfl) hf dX3_quickSort_409 (fun b1 H locs g1 hw => ?_)
  refine lv_iload hx hb dX3_quickSort_412 (lv_at hl 8 rfl) ?_
  refine lv_iload hx hb dX3_quickSort_414 (lv_at hl 7 rfl) ?_
  refine zv_isub hx hb dX3_quickSort_416 ?_
  refine lv_iload_n hx hb dX3_quickSort_417 rfl (lv_at hl 2 rfl) ?_
  refine lv_iload hx hb dX3_quickSort_418 (lv_at hl 8 rfl) ?_
  refine zv_isub hx hb dX3_quickSort_420 ?_
  refine lv_iconst (v := zI (1)) hx hb dX3_quickSort_421 rfl ?_
  refine zv_isub hx hb dX3_quickSort_422 ?_
  refine ss_min K (u := D1 - C1) (v := hi - D1 - 1) (rest := []) hl.1 hR hf (Nat.le_of_ble_eq_true rfl) (by omega) (by omega) dX3_quickSort_423 (fun t0 ht0 => ?_)
  refine lv_istore (lv' := [(12, .int (zI t0)), (0, .int (zI lo)), (1, .int (zI hi)), (2, .ref r), (3, .ref r), (8, .int (zI A)), (9, .int (zI B)), (10, .int (zI C1)), (11, .int (zI D1))]) hx hb dX3_quickSort_426 hl (by decide) rfl (fun ls hl => ?_)
  refine lv_aload_n hx hb dX3_quickSort_428 rfl (lv_at hl 4 rfl) ?_
  refine lv_iload hx hb dX3_quickSort_429 (lv_at hl 6 rfl) ?_
  refine lv_iload_n hx hb dX3_quickSort_431 rfl (lv_at hl 2 rfl) ?_
  refine lv_iload hx hb dX3_quickSort_432 (lv_at hl 0 rfl) ?_
  refine zv_isub hx hb dX3_quickSort_434 ?_
  refine lv_iload hx hb dX3_quickSort_435 (lv_at hl 0 rfl) ?_
  refine ss_callv K hw (As := [.ref r, .int (zI B), .int (zI (hi - t0)), .int (zI t0)]) (rest := []) (m_vswap l D dA x r fa ga b1 B (hi - t0) t0 (by omega) (by omega) (by omega) (by omega)) (va_cwS 4 K.ts (lw_S q99 q100 q8 q101) rfl rfl rfl ⟨by decide, by decide, by decide +kernel⟩ ⟨by show 1 + 1 ≤ _; omega, by show 8 + (5 + 11) + 24 ≤ _; omega⟩) rfl hl.1 (Nat.le_of_ble_eq_true rfl) hf dX3_quickSort_437 (fun b2 H locs g2 hw => ?_)
  have h3 := ss_Q_mid hq hCB (show (s0 = A - lo ∧ s0 ≤ B - A) ∨ (s0 = B - A ∧ s0 ≤ A - lo) by omega) (show (t0 = D1 - C1 ∧ t0 ≤ hi - D1 - 1) ∨ (t0 = hi - D1 - 1 ∧ t0 ≤ D1 - C1) by omega) g1.1 g2.1
  have hpm2 : ss_Pm lo hi a b2 := hpm.tr ((g1.2.wide (Int.le_refl lo) (by omega)).tr (g2.2.wide (by omega) (by omega)))
  refine lv_iload hx hb dX3_quickSort_440 (lv_at hl 6 rfl) ?_
  refine lv_iload hx hb dX3_quickSort_442 (lv_at hl 5 rfl) ?_
  refine zv_isub hx hb dX3_quickSort_444 ?_
  refine lv_dup hx hb dX3_quickSort_445 rfl ?_
  refine lv_istore (lv' := [(12, .int (zI (B - A))), (0, .int (zI lo)), (1, .int (zI hi)), (2, .ref r), (3, .ref r), (8, .int (zI A)), (9, .int (zI B)), (10, .int (zI C1)), (11, .int (zI D1))]) hx hb dX3_quickSort_446 hl (by decide) rfl (fun ls hl => ?_)
  refine lv_iconst (v := zI (1)) hx hb dX3_quickSort_448 rfl ?_
  have J : ∀ (b3 : Int → Int) (H : Heap) (locs : List Loc) (ls : Array Slot), ss_Pm lo (lo + (B - A)) b2 b3 → ss_Srt lo (lo + (B - A)) b3 → Wa D dA x r fa ga s b3 H locs → lv_has ls 13 [(0, .int (zI lo)), (1, .int (zI hi)), (2, .ref r), (3, .ref r), (10, .int (zI C1)), (11, .int (zI D1))] → W p l e R s m args below meth c H locs cells slots Q (F0 m 462 ls []) := by
    intro b3 H locs ls k1 k2 hw hl
    refine lv_iload hx hb dX3_quickSort_462 (lv_at hl 5 rfl) ?_
    refine lv_iload hx hb dX3_quickSort_464 (lv_at hl 4 rfl) ?_
    refine zv_isub hx hb dX3_quickSort_466 ?_
    refine lv_dup hx hb dX3_quickSort_467 rfl ?_
    refine lv_istore (lv' := [(12, .int (zI (D1 - C1))), (0, .int (zI lo)), (1, .int (zI hi)), (2, .ref r), (3, .ref r), (10, .int (zI C1)), (11, .int (zI D1))]) hx hb dX3_quickSort_468 hl (by decide) rfl (fun ls hl => ?_)
    refine lv_iconst (v := zI (1)) hx hb dX3_quickSort_470 rfl ?_
    refine zv_icmp_le (tgt := 484) hx hb dX3_quickSort_471 (by decide) (by omega) (by omega) (fun c2 => ?_) (fun c2 => ?_)
    · exact kk b3 H locs ls (hpm2.tr ((k1.wide (Int.le_refl lo) (by omega)).tr (ss_Pm.rf))) (ss_Q_end h3 (by omega) (by omega) (by omega) k1 k2 ss_Pm.rf (ss_Srt.small (by omega))) hw
    · refine lv_iload_n hx hb dX3_quickSort_474 rfl (lv_at hl 2 rfl) ?_
      refine lv_iload hx hb dX3_quickSort_475 (lv_at hl 0 rfl) ?_
      refine zv_isub hx hb dX3_quickSort_477 ?_
      refine lv_iload_n hx hb dX3_quickSort_478 rfl (lv_at hl 2 rfl) ?_
      refine lv_aload_n hx hb dX3_quickSort_479 rfl (lv_at hl 3 rfl) ?_
      refine lv_aload_n hx hb dX3_quickSort_480 rfl (lv_at hl 4 rfl) ?_
      refine ss_callv K hw (As := [.int (zI (hi - (D1 - C1))), .int (zI hi), .ref r, .ref r]) (rest := []) (ih b3 (hi - (D1 - C1)) hi (by omega) (by omega) h48 (by omega)) (va_cwS 4 K.ts (lw_S q102 q71 q8 q72) rfl hrm.1 hrm.2.1 ⟨by decide, by decide, by decide +kernel⟩ ⟨hrm.2.2.1, hrm.2.2.2⟩) rfl hl.1 (Nat.le_of_ble_eq_true rfl) hf dX3_quickSort_481 (fun b4 H locs g4 hw => ?_)
      exact kk b4 H locs ls (hpm2.tr ((k1.wide (Int.le_refl lo) (by omega)).tr (g4.1.wide (by omega) (Int.le_refl hi)))) (ss_Q_end h3 (by omega) (by omega) (by omega) k1 k2 g4.1 g4.2) hw
  refine zv_icmp_le (tgt := 462) hx hb dX3_quickSort_449 (by decide) (by omega) (by omega) (fun c1 => ?_) (fun c1 => ?_)
  · exact J b2 H locs ls ss_Pm.rf (ss_Srt.small (by omega)) hw (lv_sub hl [1, 2, 3, 4, 7, 8] rfl)
  · refine lv_iload_n hx hb dX3_quickSort_452 rfl (lv_at hl 1 rfl) ?_
    refine lv_iload_n hx hb dX3_quickSort_453 rfl (lv_at hl 1 rfl) ?_
    refine lv_iload hx hb dX3_quickSort_454 (lv_at hl 0 rfl) ?_
    refine zv_iadd hx hb dX3_quickSort_456 ?_
    refine lv_aload_n hx hb dX3_quickSort_457 rfl (lv_at hl 3 rfl) ?_
    refine lv_aload_n hx hb dX3_quickSort_458 rfl (lv_at hl 4 rfl) ?_
    refine ss_callv K hw (As := [.int (zI lo), .int (zI (lo + (B - A))), .ref r, .ref r]) (rest := []) (ih b2 lo (lo + (B - A)) h0 (by omega) (by omega) (by omega)) (va_cwS 4 K.ts (lw_S q102 q71 q8 q72) rfl hrm.1 hrm.2.1 ⟨by decide, by decide, by decide +kernel⟩ ⟨hrm.2.2.1, hrm.2.2.2⟩) rfl hl.1 (Nat.le_of_ble_eq_true rfl) hf dX3_quickSort_459 (fun b3 H locs g3 hw => ?_)
    exact J b3 H locs ls g3.1 g3.2 hw (lv_sub hl [1, 2, 3, 4, 7, 8] rfl)
set_option maxHeartbeats 4000000 in
set_option maxRecDepth 100000 in
/-- OwnArrays.quickSort(lo, hi): the range comes out sorted -/
theorem m_quickSort (l : Launch) (D : va_G) (dA : ClassId) (x r fa ga : Nat) : ∀ (d : Nat) (a : Int → Int) (lo hi : Int), 0 ≤ lo → lo ≤ hi → hi ≤ 48 → hi - lo ≤ (d : Int) → MetV l D dA x r fa ga yX3_quickSort cX3_quickSort 13 ({ frames := d + 2, cells := 0, slots := 0, locals := 50 + 40 * d }) [.int (zI lo), .int (zI hi), .ref r, .ref r] a (fun u => ss_Pm lo hi a u ∧ ss_Srt lo hi u) := by
  intro d
  induction d using Nat.strongRecOn with
  | ind d ih =>
  intro a lo hi h0 h1 h48 hd
  intro sz
  refine Met.ofW (cc := cX3_quickSort) (maxL := 13) (ret := none) (by decide) rfl ?_
  intro p e s m args below meth c s₁ B hml hv
  obtain ⟨rfl, hv⟩ := hv
  obtain ⟨C, hw, hsz⟩ := ss_in B hml hv
  subst hsz
  have hr := B.returns
  have hlocks := B.notSynchronized
  have C : Cx p m c s _ cX3_quickSort 13 RX3 D dA := C
  have hx := C.ex
  have hb := C.by_
  have hown : s.vm.findClass RX3 = some m.cls := C.ow
  have hR : 1 ≤ (headSpec (ws_ yX3_quickSort cX3_quickSort 13 none) ({ frames := d + 2, cells := 0, slots := 0, locals := 50 + 40 * d })).room.frames ∧ 24 ≤ (headSpec (ws_ yX3_quickSort cX3_quickSort 13 none) ({ frames := d + 2, cells := 0, slots := 0, locals := 50 + 40 * d })).room.locals := ⟨by show 1 ≤ d + 2; omega, by show 24 ≤ 50 + 40 * d; omega⟩
  have hf : 0 ≤ (headSpec (ws_ yX3_quickSort cX3_quickSort 13 none) ({ frames := d + 2, cells := 0, slots := 0, locals := 50 + 40 * d })).room.cells ∧ 0 ≤ (headSpec (ws_ yX3_quickSort cX3_quickSort 13 none) ({ frames := d + 2, cells := 0, slots := 0, locals := 50 + 40 * d })).room.slots := ⟨Nat.le_refl 0, Nat.le_refl 0⟩
  refine ss_start (lv := [(0, .int (zI lo)), (1, .int (zI hi)), (2, .ref r), (3, .ref r)]) (Nat.le_of_ble_eq_true rfl) rfl (fun ls hl => ?_)
  refine lv_iload_n hx hb dX3_quickSort_0 rfl (lv_at hl 1 rfl) ?_
  refine lv_iload_n hx hb dX3_quickSort_1 rfl (lv_at hl 0 rfl) ?_
  refine zv_isub hx hb dX3_quickSort_2 ?_
  refine lv_istore (lv' := [(4, .int (zI (hi - lo))), (0, .int (zI lo)), (1, .int (zI hi)), (2, .ref r), (3, .ref r)]) hx hb dX3_quickSort_3 hl (by decide) rfl (fun ls hl => ?_)
  refine lv_iload hx hb dX3_quickSort_5 (lv_at hl 0 rfl) ?_
  refine lv_bipush (v := zI (16)) hx hb dX3_quickSort_7 (by decide) ?_
  refine zv_icmp_ge (tgt := 71) hx hb dX3_quickSort_9 (by decide) (by omega) (by omega) (fun c1 => ?_) (fun c1 => ?_)
  · refine lv_iload_n hx hb dX3_quickSort_71 rfl (lv_at hl 1 rfl) ?_
    refine lv_iload hx hb dX3_quickSort_72 (lv_at hl 0 rfl) ?_
    refine lv_iconst (v := zI (2)) hx hb dX3_quickSort_74 rfl ?_
    refine zv_idiv2 hx hb dX3_quickSort_75 (by omega) ?_
    refine zv_iadd hx hb dX3_quickSort_76 ?_
    refine lv_istore (lv' := [(5, .int (zI (lo + ((hi - lo) / 2)))), (4, .int (zI (hi - lo))), (0, .int (zI lo)), (1, .int (zI hi)), (2, .ref r), (3, .ref r)]) hx hb dX3_quickSort_77 hl (by decide) rfl (fun ls hl => ?_)
    refine lv_iload_n hx hb dX3_quickSort_79 rfl (lv_at hl 2 rfl) ?_
    refine lv_istore (lv' := [(6, .int (zI lo)), (5, .int (zI (lo + ((hi - lo) / 2)))), (4, .int (zI (hi - lo))), (0, .int (zI lo)), (1, .int (zI hi)), (2, .ref r), (3, .ref r)]) hx hb dX3_quickSort_80 hl (by decide) rfl (fun ls hl => ?_)
    refine lv_iload_n hx hb dX3_quickSort_82 rfl (lv_at hl 4 rfl) ?_
    refine lv_iconst (v := zI (1)) hx hb dX3_quickSort_83 rfl ?_
    refine zv_isub hx hb dX3_quickSort_84 ?_
    refine lv_istore (lv' := [(7, .int (zI (hi - 1))), (6, .int (zI lo)), (5, .int (zI (lo + ((hi - lo) / 2)))), (4, .int (zI (hi - lo))), (0, .int (zI lo)), (1, .int (zI hi)), (2, .ref r), (3, .ref r)]) hx hb dX3_quickSort_85 hl (by decide) rfl (fun ls hl => ?_)
    refine lv_iload hx hb dX3_quickSort_87 (lv_at hl 3 rfl) ?_
    refine lv_sipush (v := zI (128)) hx hb dX3_quickSort_89 (by decide) ?_
    refine zv_icmp_le (tgt := 160) hx hb dX3_quickSort_92 (by decide) (by omega) (by omega) (fun c2 => ?_) (fun c2 => ?_)
    · refine lv_iload hx hb dX3_quickSort_160 (lv_at hl 1 rfl) ?_
      refine lv_iload hx hb dX3_quickSort_162 (lv_at hl 2 rfl) ?_
      refine lv_iload hx hb dX3_quickSort_164 (lv_at hl 0 rfl) ?_
      refine lv_aload_n hx hb dX3_quickSort_166 rfl (lv_at hl 6 rfl) ?_
      refine ss_calli C hw (As := [.int (zI lo), .int (zI (lo + ((hi - lo) / 2))), .int (zI (hi - 1)), .ref r]) (rest := []) (m_med3 l D dA x r fa ga a lo (lo + (hi - lo) / 2) (hi - 1) (by omega) (by omega) (by omega)) (va_cwS 4 C.ts (lw_S q93 q94 q8 q95) rfl rfl rfl ⟨by decide, by decide, by decide +kernel⟩ ⟨by show 1 + 1 ≤ d + 2; omega, by show 8 + (7 + 11) + 24 ≤ 50 + 40 * d; omega⟩) rfl hl.1 (Nat.le_of_ble_eq_true rfl) hf dX3_quickSort_167 (fun M u H locs g hw => ?_)
      obtain ⟨e0, hM⟩ := g
      rw [e0] at hw
      refine lv_istore (lv' := [(5, .int (zI M)), (7, .int (zI (hi - 1))), (6, .int (zI lo)), (4, .int (zI (hi - lo))), (0, .int (zI lo)), (1, .int (zI hi)), (2, .ref r), (3, .ref r)]) hx hb dX3_quickSort_170 hl (by decide) rfl (fun ls hl => ?_)
      refine lv_iload_n hx hb dX3_quickSort_172 rfl (lv_at hl 4 rfl) ?_
      refine lv_istore (lv' := [(8, .int (zI lo)), (5, .int (zI M)), (7, .int (zI (hi - 1))), (6, .int (zI lo)), (4, .int (zI (hi - lo))), (0, .int (zI lo)), (1, .int (zI hi)), (2, .ref r), (3, .ref r)]) hx hb dX3_quickSort_173 hl (by decide) rfl (fun ls hl => ?_)
      refine lv_iload hx hb dX3_quickSort_175 (lv_at hl 0 rfl) ?_
      refine lv_istore (lv' := [(9, .int (zI lo)), (8, .int (zI lo)), (5, .int (zI M)), (7, .int (zI (hi - 1))), (6, .int (zI lo)), (4, .int (zI (hi - lo))), (0, .int (zI lo)), (1, .int (zI hi)), (2, .ref r), (3, .ref r)]) hx hb dX3_quickSort_177 hl (by decide) rfl (fun ls hl => ?_)
      refine lv_iload_n hx hb dX3_quickSort_179 rfl (lv_at hl 7 rfl) ?_
      refine lv_iconst (v := zI (1)) hx hb dX3_quickSort_180 rfl ?_
      refine zv_isub hx hb dX3_quickSort_181 ?_
      refine lv_istore (lv' := [(10, .int (zI (hi - 1))), (9, .int (zI lo)), (8, .int (zI lo)), (5, .int (zI M)), (7, .int (zI (hi - 1))), (6, .int (zI lo)), (4, .int (zI (hi - lo))), (0, .int (zI lo)), (1, .int (zI hi)), (2, .ref r), (3, .ref r)]) hx hb dX3_quickSort_182 hl (by decide) rfl (fun ls hl => ?_)
      refine lv_iload hx hb dX3_quickSort_184 (lv_at hl 0 rfl) ?_
      refine lv_istore (lv' := [(11, .int (zI (hi - 1))), (10, .int (zI (hi - 1))), (9, .int (zI lo)), (8, .int (zI lo)), (5, .int (zI M)), (7, .int (zI (hi - 1))), (6, .int (zI lo)), (4, .int (zI (hi - lo))), (0, .int (zI lo)), (1, .int (zI hi)), (2, .ref r), (3, .ref r)]) hx hb dX3_quickSort_186 hl (by decide) rfl (fun ls hl => ?_)
      refine (w_part C hR hf h0 h48 (V := a M) (fun A B C1 D1 M2 b H locs ls hq hCB hpm hw hl => ?_) (hi - lo + 1).toNat).2 lo lo (hi - 1) (hi - 1) M a H locs ls (by omega) (ss_Q_0 (by omega) (by omega) (by omega)) ss_Pm.rf hw (lv_sub hl [8, 9, 10, 11, 4, 3, 2, 1, 0] rfl)
      exact w_quick_end C hR hf h0 h48 (rm := { frames := d - 1 + 2, cells := 0, slots := 0, locals := 50 + 40 * (d - 1) }) (fun b lo2 hi2 e0 e1 e2 e3 => ih (d - 1) (by omega) b lo2 hi2 e0 e1 e2 (by omega)) ⟨rfl, rfl, by show d - 1 + 2 + 1 ≤ d + 2; omega, by show 8 + (13 + 11) + (50 + 40 * (d - 1)) ≤ 50 + 40 * d; omega⟩ ⟨by show 2 ≤ d + 2; omega, by show 50 ≤ 50 + 40 * d; omega⟩ (fun u H locs ls e1 e2 hw => ss_vret C hr hlocks hw ⟨e1, e2⟩ dX3_quickSort_484) hq hCB hpm hw hl
    · exact absurd c2 (by omega)
  · refine lv_iload_n hx hb dX3_quickSort_12 rfl (lv_at hl 1 rfl) ?_
    refine lv_istore (lv' := [(5, .int (zI lo)), (4, .int (zI (hi - lo))), (0, .int (zI lo)), (1, .int (zI hi)), (2, .ref r), (3, .ref r)]) hx hb dX3_quickSort_13 hl (by decide) rfl (fun ls hl => ?_)
    exact w_quickSort_ins C hR hf h0 h48 (fun b H locs ls g1 g2 hw => ss_vret C hr hlocks hw ⟨g2, g1⟩ dX3_quickSort_70) (hi - lo + 1).toNat lo a _ _ ls (by omega) (Int.le_refl lo) h1 (ss_Srt.small (by omega)) ss_Pm.rf hw (lv_sub hl [2, 3, 4, 5, 0] rfl)
end SSG
end
section
/-! BASE 3: a world of two rows of ints (desk's or model's), its contracts and calls; places out of any int -/
/-- (i & 2147483647) % d -/
def pz (i : Int32) (d : Int) : Int := ((i.toBitVec.toNat % 2147483648 : Nat) : Int) % d
theorem pz_rng (i : Int32) {d : Int} (h : 0 < d) : 0 ≤ pz i d ∧ pz i d < d := ⟨Int.emod_nonneg _ (by omega), Int.emod_lt_of_pos _ h⟩
theorem pz_rem (i : Int32) {d : Int} (h : 0 < d ∧ d < 2147483648) : (i &&& 2147483647) - (i &&& 2147483647) / zI d * zI d = zI (pz i d) := by
  obtain ⟨k, rfl⟩ : ∃ k : Nat, d = (k : Int) := ⟨d.toNat, by omega⟩
  rw [pk_and i (m := 2147483647) 31 (by decide), zI_nat, pk_rem (by omega) (by omega) (by omega)]
  rw [show pz i (k : Int) = ((i.toBitVec.toNat % 2 ^ 31 % k : Nat) : Int) from (Int.natCast_emod _ _).symm, zI_nat]
/-- a world of two rows: its cells by the rows, and the addresses that may change -/
def Wf (wf : (Nat → Int32) → (Nat → Int32) → va_W) (Fr : Nat → Nat → Prop) : Prop := (∀ (F G : Nat → Int32) (sz q : Nat), va_A (wf F G) sz q → Fr sz q) ∧ (∀ (A : Nat → Prop) (F G F2 G2 : Nat → Int32), va_D A (wf F G) → va_D A (wf F2 G2)) ∧ ∀ (sz sz2 q : Nat), sz ≤ sz2 → Fr sz2 q → Fr sz q
def Am (y fb gb sz : Nat) : Nat → Prop := fun q => q = y ∨ q = fb ∨ q = gb ∨ sz ≤ q
theorem Am.of {dA : ClassId} {y fb gb sz q : Nat} {F G : Nat → Int32} (h : va_A (wmd dA y fb gb F G) sz q) : Am y fb gb sz q := by
  rcases h with ⟨k, e, h⟩ | h
  · match k, h with
    | 0, h => cases h; exact Or.inl rfl
    | 1, h => cases h; exact Or.inr (Or.inl rfl)
    | 2, h => cases h; exact Or.inr (Or.inr (Or.inl rfl))
    | k + 3, h => simp at h
  · exact Or.inr (Or.inr (Or.inr h))
theorem Am.to {dA : ClassId} {y fb gb sz q : Nat} {F G : Nat → Int32} (h : Am y fb gb sz q) : va_A (wmd dA y fb gb F G) sz q := by
  rcases h with h | h | h | h
  · exact Or.inl ⟨0, _, by rw [h]; rfl⟩
  · exact Or.inl ⟨1, _, by rw [h]; rfl⟩
  · exact Or.inl ⟨2, _, by rw [h]; rfl⟩
  · exact Or.inr h
theorem wmd_D {A : Nat → Prop} {dA : ClassId} {y fb gb : Nat} {F G F2 G2 : Nat → Int32} (h : va_D A (wmd dA y fb gb F G)) : va_D A (wmd dA y fb gb F2 G2) := by
  have key : ∀ (k : Nat) (q : Nat × va_E), (wmd dA y fb gb F2 G2)[k]? = some q → ∃ q2, (wmd dA y fb gb F G)[k]? = some q2 ∧ q2.1 = q.1 := by
    intro k q hk
    match k, hk with
    | 0, hk => cases hk; exact ⟨_, rfl, rfl⟩
    | 1, hk => cases hk; exact ⟨_, rfl, rfl⟩
    | 2, hk => cases hk; exact ⟨_, rfl, rfl⟩
    | k + 3, hk => simp at hk
  refine ⟨fun i j p q hp hq e => ?_, fun k q hk => ?_⟩
  · obtain ⟨p2, g1, g2⟩ := key i p hp
    obtain ⟨q2, g3, g4⟩ := key j q hq
    exact h.1 i j p2 q2 g1 g3 (by rw [g2, g4]; exact e)
  · obtain ⟨q2, g1, g2⟩ := key k q hk
    rw [← g2]; exact h.2 k q2 g1
theorem Wf_desk {dA : ClassId} {x r fa ga : Nat} : Wf (wdk dA x r fa ga) (Af x r fa ga) := ⟨fun _ _ _ _ h => Af.of h, fun _ _ _ _ _ h => wdk_D h, fun _ _ _ h h2 => Af.le h h2⟩
theorem Wf_model {dA : ClassId} {y fb gb : Nat} : Wf (wmd dA y fb gb) (Am y fb gb) := by
  refine ⟨fun _ _ _ _ h => Am.of h, fun _ _ _ _ _ h => wmd_D h, fun sz sz2 q h hq => ?_⟩
  rcases hq with h1 | h1 | h1 | h1
  · exact Or.inl h1
  · exact Or.inr (Or.inl h1)
  · exact Or.inr (Or.inr (Or.inl h1))
  · exact Or.inr (Or.inr (Or.inr (Nat.le_trans h h1)))
def Stg (D : va_G) (dA : ClassId) (wf : (Nat → Int32) → (Nat → Int32) → va_W) (sz : Nat) (F G : Nat → Int32) (U : State) : Prop := U.heap.size = sz ∧ va_P D cls9 (wf F G) U.heap ∧ va_K D cls9 [(dA, .int)] U ∧ va_D (fun _ => True) (wf F G) ∧ Xw U
def Wg (D : va_G) (wf : (Nat → Int32) → (Nat → Int32) → va_W) (Fr : Nat → Nat → Prop) (s : State) (F G : Nat → Int32) (H : Heap) (locs : List Loc) : Prop := va_P D cls9 (wf F G) H ∧ va_D (Fr s.heap.size) (wf F G) ∧ va_S (Fr s.heap.size) s.heap H locs
theorem Stg.blind {D : va_G} {dA : ClassId} {wf : (Nat → Int32) → (Nat → Int32) → va_W} {sz : Nat} {F G : Nat → Int32} {av : List Value} : FrameBlind (va_Pc av (Stg D dA wf sz F G)) := by
  intro v U g mk q
  obtain ⟨q0, h⟩ := q
  exact ⟨q0, h.1, h.2.1, va_K.moved (u := U) (U := U.calling g mk v) (Vm.Alike.refl U.vm) h.2.2.1, h.2.2.2.1, Xw.same rfl h.2.2.2.2⟩
theorem Stg.at {D : va_G} {dA : ClassId} {wf : (Nat → Int32) → (Nat → Int32) → va_W} {F G : Nat → Int32} {s U : State} {H : Heap} {A : Nat → Prop} (hK : va_K D cls9 [(dA, .int)] s) (hX : Xw s) (hP : va_P D cls9 (wf F G) H) (hD : va_D A (wf F G)) (hU : U.heap = H) (hW : s.WarmedH U.vm) : Stg D dA wf H.size F G U :=
  ⟨by rw [hU], by rw [hU]; exact hP, va_K.moved hW.alike hK, hD.weaken (fun _ _ _ _ => trivial), hX.warm hW⟩
abbrev MgV (l : Launch) (D : va_G) (dA : ClassId) (wf : (Nat → Int32) → (Nat → Int32) → va_W) (Fr : Nat → Nat → Prop) (y : MethodName) (b : ByteArray) (n : Nat) (rm : Room) (As : List Value) (F G : Nat → Int32) (post : (Nat → Int32) → (Nat → Int32) → Prop) : Prop := ∀ sz : Nat, Met l y (ws_ y b n none) rm (va_Pc As (Stg D dA wf sz F G)) (va_Qv (fun u : (Nat → Int32) × (Nat → Int32) => post u.1 u.2) (fun u t => va_P D cls9 (wf u.1 u.2) t.heap) (Fr sz)) 0 0 (Fr sz)
abbrev MgI (l : Launch) (D : va_G) (dA : ClassId) (wf : (Nat → Int32) → (Nat → Int32) → va_W) (Fr : Nat → Nat → Prop) (rt : FieldType) (y : MethodName) (b : ByteArray) (n : Nat) (rm : Room) (As : List Value) (F G : Nat → Int32) (post : Int32 → Prop) : Prop := ∀ sz : Nat, Met l y (ws_ y b n (some rt)) rm (va_Pc As (Stg D dA wf sz F G)) (va_Qi (fun v (_ : Unit) => post v) (fun _ t => va_P D cls9 (wf F G) t.heap) (Fr sz)) 0 0 (Fr sz)
section SSH
variable {p : Program} {l : Launch} {e : Env} {R : Room} {s : State} {m : MethodId} {args : Array Value} {below : List Frame} {meth : Method} {c : Code} {H : Heap} {locs : List Loc} {cells slots : Nat} {Q : State → Prop}
variable {cc : ByteArray} {pc nL : Nat} {ls : Array Slot} {rest : List Value} {D : va_G} {dA : ClassId} {wf : (Nat → Int32) → (Nat → Int32) → va_W} {Fr : Nat → Nat → Prop} {F G : Nat → Int32} {own : String}
theorem zv_irem (hexec : p.tables.exec = Jvm.exec) (hb : c.code = cc) {i : Int32} {d : Int} (hdg : decode cc pc = .ok (.irem, 1)) (hd : 0 < d ∧ d < 2147483648) (k : W p l e R s m args below meth c H locs cells slots Q (F0 m (pc + 1) ls (.int (zI (pz i d)) :: rest))) : W p l e R s m args below meth c H locs cells slots Q (F0 m pc ls (.int (zI d) :: .int (i &&& 2147483647) :: rest)) := by
  have hne : ¬ zI d = 0 := fun q => by
    have h2 : zI d = zI 0 := q
    rw [zI_eq (by omega) (by omega)] at h2
    omega
  exact lv_irem hexec hb hdg hne (by rw [pz_rem i hd]; exact k)
theorem sg_in {y : MethodName} {ret : Option FieldType} {rm : Room} {s1 : State} {sz : Nat} (X : Wf wf Fr) (B : BodyLoose p l y (headSpec (ws_ y cc nL ret) rm) cc nL ret e s m args below meth c s1) (hml : c.maxLocals = nL) (hv : Stg D dA wf sz F G s) : Cx p m c s args cc nL y.cls D dA ∧ Wg D wf Fr s F G s.heap [] ∧ s.heap.size = sz := by
  obtain ⟨h1, h2, h3, h4, h5⟩ := hv
  exact ⟨Cx.of B hml h3 h5, ⟨h2, (h4.self (sz := s.heap.size)).weaken (fun _ _ _ h => X.1 _ _ _ _ h), va_S.rf⟩, h1⟩
theorem sg_vret {post : (Nat → Int32) → (Nat → Int32) → Prop} (C : Cx p m c s args cc nL own D dA) (hr : meth.sig.returnType = none) (hlocks : meth.locks = false) (h : Wg D wf Fr s F G H locs) (hp : post F G) (hdg : decode cc pc = .ok (.return_, 1)) : W p l e R s m args below meth c H locs cells slots (MQ below (va_Qv (fun u : (Nat → Int32) × (Nat → Int32) => post u.1 u.2) (fun u t => va_P D cls9 (wf u.1 u.2) t.heap) (Fr s.heap.size)) args s cells slots (Fr s.heap.size)) (F0 m pc ls []) :=
  W.vret C.ex C.by_ hr (fun t ht hW => ⟨⟨(F, G), rfl, hp, by show va_P D cls9 (wf F G) t.heap; rw [ht]; exact h.1⟩, h.2.2.F ht⟩) h.2.2.2.2 hdg hlocks
theorem sg_iret {rt : FieldType} {post : Int32 → Prop} {v : Int32} (C : Cx p m c s args cc nL own D dA) (hr : meth.sig.returnType = some rt) (hn : narrow rt (.int v) = .int v) (hlocks : meth.locks = false) (h : Wg D wf Fr s F G H locs) (hp : post v) (hdg : decode cc pc = .ok (.ireturn, 1)) : W p l e R s m args below meth c H locs cells slots (MQ below (va_Qi (fun v (_ : Unit) => post v) (fun _ t => va_P D cls9 (wf F G) t.heap) (Fr s.heap.size)) args s cells slots (Fr s.heap.size)) (F0 m pc ls [.int v]) :=
  W.zret C.ex C.by_ hr hn (fun t ht hW => ⟨⟨v, (), rfl, hp, by show va_P D cls9 (wf F G) t.heap; rw [ht]; exact h.1⟩, h.2.2.F ht⟩) h.2.2.2.2 hdg hlocks
theorem Wg.sub (X : Wf wf Fr) (h : Wg D wf Fr s F G H locs) : ∀ q, Fr H.size q → Fr s.heap.size q := fun q hq => X.2.2 _ _ q h.2.2.1 hq
/-- a call through an object, no answer -/
theorem sg_callV {y : MethodName} {b : ByteArray} {n index o : Nat} {Cn : String} {rm : Room} {As st0 : List Value} {post : (Nat → Int32) → (Nat → Int32) → Prop} (X : Wf wf Fr) (C : Cx p m c s args cc nL own D dA) (h : Wg D wf Fr s F G H locs) (hM : MgV l D dA wf Fr y b n rm (.ref o :: As) F G post)
    (cw : CallW R s args own Cn index y b n none (ws_ y b n none) rm 0 0 As.length) (hrc : ∃ cellB : Cell, H[o]? = some cellB ∧ cellB.vm.isStatics = false ∧ s.vm.findClass Cn = some cellB.cls) (hst : st0 = As.reverse ++ .ref o :: rest) (hl : ls.size = nL) (hW : (rest.map fun v => v.category).sum ≤ 8) (hf : cells ≤ R.cells ∧ slots ≤ R.slots) (hdg : decode cc pc = .ok (.invokevirtual index, 3))
    (kk : ∀ (F2 G2 : Nat → Int32) (H1 : Heap) (locs1 : List Loc), post F2 G2 → Wg D wf Fr s F2 G2 H1 locs1 → W p l e R s m args below meth c H1 locs1 cells slots Q (F0 m (pc + 3) ls rest)) : W p l e R s m args below meth c H locs cells slots Q (F0 m pc ls st0) := by
  have hsub := h.sub X
  obtain ⟨hP, hD, hS⟩ := h
  refine va_callv (va_runV (As := As) (rest := rest) C.1 (hM H.size) cw ⟨Stg.blind, hrc, fun U hU hW => ⟨rfl, Stg.at C.2.1 C.2.2 hP hD hU hW⟩⟩ rfl rfl hl hst (by show 2 * 0 + _ ≤ 8; omega) hdg ⟨hf.1, hf.2⟩) hS (fun q _ h => hsub q h) hsub (fun u t H1 locs1 ht hvm hp hB hz hk hS1 => ?_)
  exact kk u.1 u.2 H1 locs1 hp ⟨by rw [← ht]; exact hB, X.2.1 _ _ _ _ _ hD, hS1⟩
/-- .. that answers an int, and changes nothing -/
theorem sg_callVi {y : MethodName} {b : ByteArray} {n index o : Nat} {Cn : String} {rt : FieldType} {rm : Room} {As st0 : List Value} {post : Int32 → Prop} (X : Wf wf Fr) (C : Cx p m c s args cc nL own D dA) (h : Wg D wf Fr s F G H locs) (hM : MgI l D dA wf Fr rt y b n rm (.ref o :: As) F G post)
    (cw : CallW R s args own Cn index y b n (some rt) (ws_ y b n (some rt)) rm 0 0 As.length) (hrc : ∃ cellB : Cell, H[o]? = some cellB ∧ cellB.vm.isStatics = false ∧ s.vm.findClass Cn = some cellB.cls) (hst : st0 = As.reverse ++ .ref o :: rest) (hl : ls.size = nL) (hW : (rest.map fun v => v.category).sum ≤ 8) (hf : cells ≤ R.cells ∧ slots ≤ R.slots) (hdg : decode cc pc = .ok (.invokevirtual index, 3))
    (kk : ∀ (v : Int32) (H1 : Heap) (locs1 : List Loc), post v → Wg D wf Fr s F G H1 locs1 → W p l e R s m args below meth c H1 locs1 cells slots Q (F0 m (pc + 3) ls (.int v :: rest))) : W p l e R s m args below meth c H locs cells slots Q (F0 m pc ls st0) := by
  have hsub := h.sub X
  obtain ⟨hP, hD, hS⟩ := h
  refine va_calli (va_runV (As := As) (rest := rest) C.1 (hM H.size) cw ⟨Stg.blind, hrc, fun U hU hW => ⟨rfl, Stg.at C.2.1 C.2.2 hP hD hU hW⟩⟩ rfl rfl hl hst (by show 2 * 0 + _ ≤ 8; omega) hdg ⟨hf.1, hf.2⟩) hS (fun q _ h => hsub q h) hsub (fun v u t H1 locs1 ht hvm hp hB hz hk hS1 => ?_)
  exact kk v H1 locs1 hp ⟨by rw [← ht]; exact hB, hD, hS1⟩
/-- a static call that answers an int, and changes nothing -/
theorem sg_callSi {y : MethodName} {b : ByteArray} {n index : Nat} {rt : FieldType} {rm : Room} {As st0 : List Value} {post : Int32 → Prop} (X : Wf wf Fr) (C : Cx p m c s args cc nL own D dA) (h : Wg D wf Fr s F G H locs) (hM : MgI l D dA wf Fr rt y b n rm As F G post)
    (cw : CallB R s args own index y b n (some rt) (ws_ y b n (some rt)) rm 0 0 As.length ∧ (Cond.static y).before args s = true) (hst : st0 = As.reverse ++ rest) (hl : ls.size = nL) (hW : (rest.map fun v => v.category).sum ≤ 8) (hf : cells ≤ R.cells ∧ slots ≤ R.slots) (hdg : decode cc pc = .ok (.invokestatic index, 3))
    (kk : ∀ (v : Int32) (H1 : Heap) (locs1 : List Loc), post v → Wg D wf Fr s F G H1 locs1 → W p l e R s m args below meth c H1 locs1 cells slots Q (F0 m (pc + 3) ls (.int v :: rest))) : W p l e R s m args below meth c H locs cells slots Q (F0 m pc ls st0) := by
  have hsub := h.sub X
  obtain ⟨hP, hD, hS⟩ := h
  refine va_calli (va_runS (As := As) (rest := rest) C.1 (hM H.size) cw ⟨Stg.blind, fun U hU hW => ⟨rfl, Stg.at C.2.1 C.2.2 hP hD hU hW⟩⟩ rfl rfl hl hst (by show 2 * 0 + _ ≤ 8; omega) hdg ⟨hf.1, hf.2⟩) hS (fun q _ h => hsub q h) hsub (fun v u t H1 locs1 ht hvm hp hB hz hk hS1 => ?_)
  exact kk v H1 locs1 hp ⟨by rw [← ht]; exact hB, hD, hS1⟩
end SSH
end
section
/-! MODEL (SwapSortDeskModel): place, set, few, first, second, before, order, quick, merge -/
set_option maxHeartbeats 4000000 in
set_option maxRecDepth 100000 in
/-- place(i) -/
theorem m_place (l : Launch) (D : va_G) (dA : ClassId) (y fb gb : Nat) (F G : Nat → Int32) (p0 : Int32) : MgI l D dA (wmd dA y fb gb) (Am y fb gb) .int yX2_place cX2_place 1 ({ frames := 0, cells := 0, slots := 0, locals := 0 }) [.int p0] F G (fun v => v = zI (pz p0 48)) := by
  intro sz
  refine Met.ofW (cc := cX2_place) (maxL := 1) (ret := some .int) (by decide) rfl ?_
  intro p e s m args below meth c s₁ B hml hv
  obtain ⟨rfl, hv⟩ := hv
  obtain ⟨C, hw, hsz⟩ := sg_in Wf_model B hml hv
  subst hsz
  have hr := B.returns
  have hlocks := B.notSynchronized
  have C : Cx p m c s _ cX2_place 1 RX2 D dA := C
  have hx := C.ex
  have hb := C.by_
  have hts := C.ts
  have hK := C.2.1
  have hX := C.2.2
  have hown : s.vm.findClass RX2 = some m.cls := C.ow
  obtain ⟨hP, hD, hS⟩ := hw
  refine ss_start (lv := [(0, .int p0)]) (Nat.le_of_ble_eq_true rfl) rfl (fun ls hl => ?_)
  refine lv_iload_n hx hb dX2_place_0 rfl (lv_at hl 0 rfl) ?_
  refine lv_ldc hx hb hown (hts _ q140) dX2_place_1 ?_
  refine lv_iand hx hb dX2_place_3 ?_
  refine lv_bipush (v := zI (48)) hx hb dX2_place_4 (by decide) ?_
  refine zv_irem hx hb dX2_place_6 (by omega) ?_
  exact sg_iret C hr rfl hlocks ⟨hP, hD, hS⟩ rfl dX2_place_7
set_option maxHeartbeats 4000000 in
set_option maxRecDepth 100000 in
/-- set(i, a, b) -/
theorem m_mset (l : Launch) (D : va_G) (dA : ClassId) (y fb gb : Nat) (F G : Nat → Int32) (p0 p1 p2 : Int32) : MgV l D dA (wmd dA y fb gb) (Am y fb gb) yX2_set cX2_set 4 ({ frames := 1, cells := 0, slots := 0, locals := 24 }) [.ref y, .int p0, .int p1, .int p2] F G (fun F2 G2 => F2 = upd F (pz p0 48).toNat p1 ∧ G2 = upd G (pz p0 48).toNat p2) := by
  intro sz
  refine Met.ofW (cc := cX2_set) (maxL := 4) (ret := none) (by decide) rfl ?_
  intro p e s m args below meth c s₁ B hml hv
  obtain ⟨rfl, hv⟩ := hv
  obtain ⟨C, hw, hsz⟩ := sg_in Wf_model B hml hv
  subst hsz
  have hr := B.returns
  have hlocks := B.notSynchronized
  have C : Cx p m c s _ cX2_set 4 RX2 D dA := C
  have hx := C.ex
  have hb := C.by_
  have hts := C.ts
  have hK := C.2.1
  have hX := C.2.2
  have hown : s.vm.findClass RX2 = some m.cls := C.ow
  obtain ⟨hP, hD, hS⟩ := hw
  have hz := pz_rng p0 (d := 48) (by omega)
  refine ss_start (lv := [(0, .ref y), (1, .int p0), (2, .int p1), (3, .int p2)]) (Nat.le_of_ble_eq_true rfl) rfl (fun ls hl => ?_)
  refine lv_aload_n hx hb dX2_set_0 rfl (lv_at hl 0 rfl) ?_
  refine va_get (D := D) (ci := 2) (v := .ref fb) (C := RX2) (T := TX2) (N := 2) hx hb hts in_X2 hown hK hP 0 rfl rfl 0 (by decide) (hts _ q126) (fun _ h9 => h9) rfl dX2_set_1 ?_
  refine lv_iload_n hx hb dX2_set_4 rfl (lv_at hl 1 rfl) ?_
  refine sg_callSi Wf_model C ⟨hP, hD, hS⟩ (m_place l D dA y fb gb F G p0) (va_cwS 1 hts (lw_S q137 q138 q7 q139) rfl rfl rfl ⟨by decide, by decide, by decide +kernel⟩ ⟨Nat.le_of_ble_eq_true rfl, Nat.le_of_ble_eq_true rfl⟩) (As := [.int p0]) (rest := [.ref fb]) rfl hl.1 (Nat.le_of_ble_eq_true rfl) ⟨Nat.le_refl 0, Nat.le_refl 0⟩ dX2_set_5 (fun v H locs hv hw => ?_)
  obtain ⟨hP, hD, hS⟩ := hw
  subst hv
  refine lv_iload_n hx hb dX2_set_8 rfl (lv_at hl 2 rfl) ?_
  refine zv_iast hx hb hK hP hD hS 1 0 rfl rfl (by omega) dX2_set_9 (fun H locs hP hD hS => ?_)
  have hP : va_P D cls9 (wmd dA y fb gb (upd F (pz p0 48).toNat p1) G) H := hP
  have hD : va_D (Am y fb gb s.heap.size) (wmd dA y fb gb (upd F (pz p0 48).toNat p1) G) := hD
  refine lv_aload_n hx hb dX2_set_10 rfl (lv_at hl 0 rfl) ?_
  refine va_get (D := D) (ci := 2) (v := .ref gb) (C := RX2) (T := TX2) (N := 2) hx hb hts in_X2 hown hK hP 0 rfl rfl 1 (by decide) (hts _ q127) (fun _ h9 => h9) rfl dX2_set_11 ?_
  refine lv_iload_n hx hb dX2_set_14 rfl (lv_at hl 1 rfl) ?_
  refine sg_callSi Wf_model C ⟨hP, hD, hS⟩ (m_place l D dA y fb gb (upd F (pz p0 48).toNat p1) G p0) (va_cwS 1 hts (lw_S q137 q138 q7 q139) rfl rfl rfl ⟨by decide, by decide, by decide +kernel⟩ ⟨Nat.le_of_ble_eq_true rfl, Nat.le_of_ble_eq_true rfl⟩) (As := [.int p0]) (rest := [.ref gb]) rfl hl.1 (Nat.le_of_ble_eq_true rfl) ⟨Nat.le_refl 0, Nat.le_refl 0⟩ dX2_set_15 (fun v H locs hv hw => ?_)
  obtain ⟨hP, hD, hS⟩ := hw
  subst hv
  refine lv_iload_n hx hb dX2_set_18 rfl (lv_at hl 3 rfl) ?_
  refine zv_iast hx hb hK hP hD hS 2 0 rfl rfl (by omega) dX2_set_19 (fun H locs hP hD hS => ?_)
  have hP : va_P D cls9 (wmd dA y fb gb (upd F (pz p0 48).toNat p1) (upd G (pz p0 48).toNat p2)) H := hP
  have hD : va_D (Am y fb gb s.heap.size) (wmd dA y fb gb (upd F (pz p0 48).toNat p1) (upd G (pz p0 48).toNat p2)) := hD
  exact sg_vret (post := fun F2 G2 => F2 = upd F (pz p0 48).toNat p1 ∧ G2 = upd G (pz p0 48).toNat p2) C hr hlocks ⟨hP, hD, hS⟩ ⟨rfl, rfl⟩ dX2_set_20
set_option maxHeartbeats 4000000 in
set_option maxRecDepth 100000 in
/-- few(i, a, b) -/
theorem m_mfew (l : Launch) (D : va_G) (dA : ClassId) (y fb gb : Nat) (F G : Nat → Int32) (p0 p1 p2 : Int32) : MgV l D dA (wmd dA y fb gb) (Am y fb gb) yX2_few cX2_few 4 ({ frames := 2, cells := 0, slots := 0, locals := 60 }) [.ref y, .int p0, .int p1, .int p2] F G (fun F2 G2 => F2 = upd F (pz p0 48).toNat (p1 &&& zI 3) ∧ G2 = upd G (pz p0 48).toNat (p2 &&& zI 3)) := by
  intro sz
  refine Met.ofW (cc := cX2_few) (maxL := 4) (ret := none) (by decide) rfl ?_
  intro p e s m args below meth c s₁ B hml hv
  obtain ⟨rfl, hv⟩ := hv
  obtain ⟨C, hw, hsz⟩ := sg_in Wf_model B hml hv
  subst hsz
  have hr := B.returns
  have hlocks := B.notSynchronized
  have C : Cx p m c s _ cX2_few 4 RX2 D dA := C
  have hx := C.ex
  have hb := C.by_
  have hts := C.ts
  have hK := C.2.1
  have hX := C.2.2
  have hown : s.vm.findClass RX2 = some m.cls := C.ow
  obtain ⟨hP, hD, hS⟩ := hw
  refine ss_start (lv := [(0, .ref y), (1, .int p0), (2, .int p1), (3, .int p2)]) (Nat.le_of_ble_eq_true rfl) rfl (fun ls hl => ?_)
  refine lv_aload_n hx hb dX2_few_0 rfl (lv_at hl 0 rfl) ?_
  refine lv_iload_n hx hb dX2_few_1 rfl (lv_at hl 1 rfl) ?_
  refine lv_iload_n hx hb dX2_few_2 rfl (lv_at hl 2 rfl) ?_
  refine lv_iconst (v := zI (3)) hx hb dX2_few_3 rfl ?_
  refine lv_iand hx hb dX2_few_4 ?_
  refine lv_iload_n hx hb dX2_few_5 rfl (lv_at hl 3 rfl) ?_
  refine lv_iconst (v := zI (3)) hx hb dX2_few_6 rfl ?_
  refine lv_iand hx hb dX2_few_7 ?_
  refine sg_callV Wf_model C ⟨hP, hD, hS⟩ (m_mset l D dA y fb gb F G p0 (p1 &&& zI 3) (p2 &&& zI 3)) (As := [.int p0, .int (p1 &&& zI 3), .int (p2 &&& zI 3)]) (rest := []) (cwV 3 hts (lw_V q145 q134 q135 q7 q136) rfl rfl rfl (by decide +kernel) ⟨Nat.le_of_ble_eq_true rfl, Nat.le_of_ble_eq_true rfl⟩) (va_recv hK hP (ci := 2) (q0 := 0) rfl rfl) rfl hl.1 (Nat.le_of_ble_eq_true rfl) ⟨Nat.le_refl 0, Nat.le_refl 0⟩ dX2_few_8 (fun F2 G2 H locs hp hw => ?_)
  exact sg_vret (post := fun F2 G2 => F2 = upd F (pz p0 48).toNat (p1 &&& zI 3) ∧ G2 = upd G (pz p0 48).toNat (p2 &&& zI 3)) C hr hlocks hw hp dX2_few_11
set_option maxHeartbeats 4000000 in
set_option maxRecDepth 100000 in
/-- first(i) -/
theorem m_mfirst (l : Launch) (D : va_G) (dA : ClassId) (y fb gb : Nat) (F G : Nat → Int32) (p0 : Int32) : MgI l D dA (wmd dA y fb gb) (Am y fb gb) .int yX2_first cX2_first 2 ({ frames := 1, cells := 0, slots := 0, locals := 24 }) [.ref y, .int p0] F G (fun v => v = F (pz p0 48).toNat) := by
  intro sz
  refine Met.ofW (cc := cX2_first) (maxL := 2) (ret := some .int) (by decide) rfl ?_
  intro p e s m args below meth c s₁ B hml hv
  obtain ⟨rfl, hv⟩ := hv
  obtain ⟨C, hw, hsz⟩ := sg_in Wf_model B hml hv
  subst hsz
  have hr := B.returns
  have hlocks := B.notSynchronized
  have C : Cx p m c s _ cX2_first 2 RX2 D dA := C
  have hx := C.ex
  have hb := C.by_
  have hts := C.ts
  have hK := C.2.1
  have hX := C.2.2
  have hown : s.vm.findClass RX2 = some m.cls := C.ow
  obtain ⟨hP, hD, hS⟩ := hw
  have hz := pz_rng p0 (d := 48) (by omega)
  refine ss_start (lv := [(0, .ref y), (1, .int p0)]) (Nat.le_of_ble_eq_true rfl) rfl (fun ls hl => ?_)
  refine lv_aload_n hx hb dX2_first_0 rfl (lv_at hl 0 rfl) ?_
  refine va_get (D := D) (ci := 2) (v := .ref fb) (C := RX2) (T := TX2) (N := 2) hx hb hts in_X2 hown hK hP 0 rfl rfl 0 (by decide) (hts _ q126) (fun _ h9 => h9) rfl dX2_first_1 ?_
  refine lv_iload_n hx hb dX2_first_4 rfl (lv_at hl 1 rfl) ?_
  refine sg_callSi Wf_model C ⟨hP, hD, hS⟩ (m_place l D dA y fb gb F G p0) (va_cwS 1 hts (lw_S q137 q138 q7 q139) rfl rfl rfl ⟨by decide, by decide, by decide +kernel⟩ ⟨Nat.le_of_ble_eq_true rfl, Nat.le_of_ble_eq_true rfl⟩) (As := [.int p0]) (rest := [.ref fb]) rfl hl.1 (Nat.le_of_ble_eq_true rfl) ⟨Nat.le_refl 0, Nat.le_refl 0⟩ dX2_first_5 (fun v H locs hv hw => ?_)
  obtain ⟨hP, hD, hS⟩ := hw
  subst hv
  refine zv_iald hx hb hK hP 1 0 rfl rfl (by omega) dX2_first_8 ?_
  exact sg_iret C hr rfl hlocks ⟨hP, hD, hS⟩ rfl dX2_first_9
set_option maxHeartbeats 4000000 in
set_option maxRecDepth 100000 in
/-- second(i) -/
theorem m_msecond (l : Launch) (D : va_G) (dA : ClassId) (y fb gb : Nat) (F G : Nat → Int32) (p0 : Int32) : MgI l D dA (wmd dA y fb gb) (Am y fb gb) .int yX2_second cX2_second 2 ({ frames := 1, cells := 0, slots := 0, locals := 24 }) [.ref y, .int p0] F G (fun v => v = G (pz p0 48).toNat) := by
  intro sz
  refine Met.ofW (cc := cX2_second) (maxL := 2) (ret := some .int) (by decide) rfl ?_
  intro p e s m args below meth c s₁ B hml hv
  obtain ⟨rfl, hv⟩ := hv
  obtain ⟨C, hw, hsz⟩ := sg_in Wf_model B hml hv
  subst hsz
  have hr := B.returns
  have hlocks := B.notSynchronized
  have C : Cx p m c s _ cX2_second 2 RX2 D dA := C
  have hx := C.ex
  have hb := C.by_
  have hts := C.ts
  have hK := C.2.1
  have hX := C.2.2
  have hown : s.vm.findClass RX2 = some m.cls := C.ow
  obtain ⟨hP, hD, hS⟩ := hw
  have hz := pz_rng p0 (d := 48) (by omega)
  refine ss_start (lv := [(0, .ref y), (1, .int p0)]) (Nat.le_of_ble_eq_true rfl) rfl (fun ls hl => ?_)
  refine lv_aload_n hx hb dX2_second_0 rfl (lv_at hl 0 rfl) ?_
  refine va_get (D := D) (ci := 2) (v := .ref gb) (C := RX2) (T := TX2) (N := 2) hx hb hts in_X2 hown hK hP 0 rfl rfl 1 (by decide) (hts _ q127) (fun _ h9 => h9) rfl dX2_second_1 ?_
  refine lv_iload_n hx hb dX2_second_4 rfl (lv_at hl 1 rfl) ?_
  refine sg_callSi Wf_model C ⟨hP, hD, hS⟩ (m_place l D dA y fb gb F G p0) (va_cwS 1 hts (lw_S q137 q138 q7 q139) rfl rfl rfl ⟨by decide, by decide, by decide +kernel⟩ ⟨Nat.le_of_ble_eq_true rfl, Nat.le_of_ble_eq_true rfl⟩) (As := [.int p0]) (rest := [.ref gb]) rfl hl.1 (Nat.le_of_ble_eq_true rfl) ⟨Nat.le_refl 0, Nat.le_refl 0⟩ dX2_second_5 (fun v H locs hv hw => ?_)
  obtain ⟨hP, hD, hS⟩ := hw
  subst hv
  refine zv_iald hx hb hK hP 2 0 rfl rfl (by omega) dX2_second_8 ?_
  exact sg_iret C hr rfl hlocks ⟨hP, hD, hS⟩ rfl dX2_second_9
section SSJ
variable {F G : Nat → Int32} {i j : Int}
theorem bf_a (hi : 0 ≤ i) (hj : 0 ≤ j) (h1 : F i.toNat < F j.toNat) : ky F G i < ky F G j := by
  rw [Int32.lt_iff_toInt_lt] at h1
  have a1 := ky_rng (G i.toNat)
  have a2 := ky_rng (G j.toNat)
  rw [ky_at hi, ky_at hj]; omega
theorem bf_b (hi : 0 ≤ i) (hj : 0 ≤ j) (h1 : ¬ F i.toNat < F j.toNat) (h2 : ¬ F i.toNat = F j.toNat) : ky F G j ≤ ky F G i := by
  rw [Int32.lt_iff_toInt_lt] at h1
  have h3 : ¬ (F i.toNat).toInt = (F j.toNat).toInt := fun q => h2 (Int32.toInt_inj.mp q)
  have a1 := ky_rng (G i.toNat)
  have a2 := ky_rng (G j.toNat)
  rw [ky_at hi, ky_at hj]; omega
theorem bf_c (hi : 0 ≤ i) (hj : 0 ≤ j) (h2 : F i.toNat = F j.toNat) (h3 : G j.toNat ≤ G i.toNat) : ky F G j ≤ ky F G i := by
  rw [Int32.le_iff_toInt_le] at h3
  rw [ky_at hi, ky_at hj, h2]; omega
theorem bf_d (hi : 0 ≤ i) (hj : 0 ≤ j) (h2 : F i.toNat = F j.toNat) (h3 : ¬ G j.toNat ≤ G i.toNat) : ky F G i < ky F G j := by
  rw [Int32.le_iff_toInt_le] at h3
  rw [ky_at hi, ky_at hj, h2]; omega
end SSJ
set_option maxHeartbeats 4000000 in
set_option maxRecDepth 100000 in
/-- before(i, j): the pair at i is less -/
theorem m_before (l : Launch) (D : va_G) (dA : ClassId) (y fb gb : Nat) (F G : Nat → Int32) (i j : Int) (hi : 0 ≤ i ∧ i < 48) (hj : 0 ≤ j ∧ j < 48) : MgI l D dA (wmd dA y fb gb) (Am y fb gb) .boolean yX2_before cX2_before 3 ({ frames := 0, cells := 0, slots := 0, locals := 0 }) [.ref y, .int (zI i), .int (zI j)] F G (fun v => ∃ z : Int, v = zI z ∧ ((z = 1 ∧ ky F G i < ky F G j) ∨ (z = 0 ∧ ky F G j ≤ ky F G i))) := by
  intro sz
  refine Met.ofW (cc := cX2_before) (maxL := 3) (ret := some .boolean) (by decide) rfl ?_
  intro p e s m args below meth c s₁ B hml hv
  obtain ⟨rfl, hv⟩ := hv
  obtain ⟨C, hw, hsz⟩ := sg_in Wf_model B hml hv
  subst hsz
  have hr := B.returns
  have hlocks := B.notSynchronized
  have C : Cx p m c s _ cX2_before 3 RX2 D dA := C
  have hx := C.ex
  have hb := C.by_
  have hts := C.ts
  have hK := C.2.1
  have hX := C.2.2
  have hown : s.vm.findClass RX2 = some m.cls := C.ow
  obtain ⟨hP, hD, hS⟩ := hw
  refine ss_start (lv := [(0, .ref y), (1, .int (zI i)), (2, .int (zI j))]) (Nat.le_of_ble_eq_true rfl) rfl (fun ls hl => ?_)
  refine lv_aload_n hx hb dX2_before_0 rfl (lv_at hl 0 rfl) ?_
  refine va_get (D := D) (ci := 2) (v := .ref fb) (C := RX2) (T := TX2) (N := 2) hx hb hts in_X2 hown hK hP 0 rfl rfl 0 (by decide) (hts _ q126) (fun _ h9 => h9) rfl dX2_before_1 ?_
  refine lv_iload_n hx hb dX2_before_4 rfl (lv_at hl 1 rfl) ?_
  refine zv_iald hx hb hK hP 1 0 rfl rfl (by omega) dX2_before_5 ?_
  refine lv_aload_n hx hb dX2_before_6 rfl (lv_at hl 0 rfl) ?_
  refine va_get (D := D) (ci := 2) (v := .ref fb) (C := RX2) (T := TX2) (N := 2) hx hb hts in_X2 hown hK hP 0 rfl rfl 0 (by decide) (hts _ q126) (fun _ h9 => h9) rfl dX2_before_7 ?_
  refine lv_iload_n hx hb dX2_before_10 rfl (lv_at hl 2 rfl) ?_
  refine zv_iald hx hb hK hP 1 0 rfl rfl (by omega) dX2_before_11 ?_
  refine lv_icmp_lt (tgt := 45) hx hb dX2_before_12 (by decide) (fun c1 => ?_) (fun c1 => ?_)
  · refine lv_iconst (v := zI (1)) hx hb dX2_before_45 rfl ?_
    refine lv_goto (tgt := 50) hx hb dX2_before_46 (by decide) ?_
    exact sg_iret C hr narrow_b1 hlocks ⟨hP, hD, hS⟩ ⟨1, rfl, Or.inl ⟨rfl, bf_a hi.1 hj.1 c1⟩⟩ dX2_before_50
  · refine lv_aload_n hx hb dX2_before_15 rfl (lv_at hl 0 rfl) ?_
    refine va_get (D := D) (ci := 2) (v := .ref fb) (C := RX2) (T := TX2) (N := 2) hx hb hts in_X2 hown hK hP 0 rfl rfl 0 (by decide) (hts _ q126) (fun _ h9 => h9) rfl dX2_before_16 ?_
    refine lv_iload_n hx hb dX2_before_19 rfl (lv_at hl 1 rfl) ?_
    refine zv_iald hx hb hK hP 1 0 rfl rfl (by omega) dX2_before_20 ?_
    refine lv_aload_n hx hb dX2_before_21 rfl (lv_at hl 0 rfl) ?_
    refine va_get (D := D) (ci := 2) (v := .ref fb) (C := RX2) (T := TX2) (N := 2) hx hb hts in_X2 hown hK hP 0 rfl rfl 0 (by decide) (hts _ q126) (fun _ h9 => h9) rfl dX2_before_22 ?_
    refine lv_iload_n hx hb dX2_before_25 rfl (lv_at hl 2 rfl) ?_
    refine zv_iald hx hb hK hP 1 0 rfl rfl (by omega) dX2_before_26 ?_
    refine lv_icmp_ne (tgt := 49) hx hb dX2_before_27 (by decide) (fun c2 => ?_) (fun c2 => ?_)
    · refine lv_iconst (v := zI (0)) hx hb dX2_before_49 rfl ?_
      exact sg_iret C hr narrow_b0 hlocks ⟨hP, hD, hS⟩ ⟨0, rfl, Or.inr ⟨rfl, bf_b hi.1 hj.1 c1 c2⟩⟩ dX2_before_50
    · refine lv_aload_n hx hb dX2_before_30 rfl (lv_at hl 0 rfl) ?_
      refine va_get (D := D) (ci := 2) (v := .ref gb) (C := RX2) (T := TX2) (N := 2) hx hb hts in_X2 hown hK hP 0 rfl rfl 1 (by decide) (hts _ q127) (fun _ h9 => h9) rfl dX2_before_31 ?_
      refine lv_iload_n hx hb dX2_before_34 rfl (lv_at hl 1 rfl) ?_
      refine zv_iald hx hb hK hP 2 0 rfl rfl (by omega) dX2_before_35 ?_
      refine lv_aload_n hx hb dX2_before_36 rfl (lv_at hl 0 rfl) ?_
      refine va_get (D := D) (ci := 2) (v := .ref gb) (C := RX2) (T := TX2) (N := 2) hx hb hts in_X2 hown hK hP 0 rfl rfl 1 (by decide) (hts _ q127) (fun _ h9 => h9) rfl dX2_before_37 ?_
      refine lv_iload_n hx hb dX2_before_40 rfl (lv_at hl 2 rfl) ?_
      refine zv_iald hx hb hK hP 2 0 rfl rfl (by omega) dX2_before_41 ?_
      refine lv_icmp_ge (tgt := 49) hx hb dX2_before_42 (by decide) (fun c3 => ?_) (fun c3 => ?_)
      · refine lv_iconst (v := zI (0)) hx hb dX2_before_49 rfl ?_
        exact sg_iret C hr narrow_b0 hlocks ⟨hP, hD, hS⟩ ⟨0, rfl, Or.inr ⟨rfl, bf_c hi.1 hj.1 c2 c3⟩⟩ dX2_before_50
      · refine lv_iconst (v := zI (1)) hx hb dX2_before_45 rfl ?_
        refine lv_goto (tgt := 50) hx hb dX2_before_46 (by decide) ?_
        exact sg_iret C hr narrow_b1 hlocks ⟨hP, hD, hS⟩ ⟨1, rfl, Or.inl ⟨rfl, bf_d hi.1 hj.1 c2 c3⟩⟩ dX2_before_50
section SSK
variable {p : Program} {l : Launch} {e : Env} {R : Room} {s : State} {m : MethodId} {args : Array Value} {below : List Frame} {meth : Method} {c : Code} {cells slots : Nat} {Q : State → Prop}
variable {D : va_G} {dA : ClassId} {y fb gb : Nat}
set_option maxHeartbeats 4000000 in
set_option maxRecDepth 100000 in
/-- order's inner loop: the least one of [k, hi) -/
theorem w_order_in {F G : Nat → Int32} (C : Cx p m c s args cX2_order 9 RX2 D dA) (hR : 1 ≤ R.frames ∧ 24 ≤ R.locals) (hf : cells ≤ R.cells ∧ slots ≤ R.slots) {lo hi k : Int} (h0 : 0 ≤ k) (h48 : hi ≤ 48)
    (kk : ∀ (least : Int) (H : Heap) (locs : List Loc) (ls : Array Slot), k ≤ least → least < hi → (∀ q, k ≤ q → q < hi → ky F G least ≤ ky F G q) → Wg D (wmd dA y fb gb) (Am y fb gb) s F G H locs → lv_has ls 9 [(0, .ref y), (3, .int (zI lo)), (4, .int (zI hi)), (5, .int (zI k)), (6, .int (zI least))] → W p l e R s m args below meth c H locs cells slots Q (F0 m 74 ls [])) :
    ∀ (n : Nat) (j least : Int) (H : Heap) (locs : List Loc) (ls : Array Slot), hi - j < (n : Int) → j ≤ hi → k ≤ least → least < j → (∀ q, k ≤ q → q < j → ky F G least ≤ ky F G q) → Wg D (wmd dA y fb gb) (Am y fb gb) s F G H locs → lv_has ls 9 [(0, .ref y), (3, .int (zI lo)), (4, .int (zI hi)), (5, .int (zI k)), (6, .int (zI least)), (7, .int (zI j))] → W p l e R s m args below meth c H locs cells slots Q (F0 m 41 ls []) := by
  have hts := C.ts
  have hK := C.2.1
  have hx := C.ex
  have hb := C.by_
  intro n
  induction n with
  | zero =>
    intro j least H locs ls h1 h2 h3
    exact absurd h1 (by omega)
  | succ n ih =>
    intro j least H locs ls h1 h2 h3 h4 h5 hw hl
    refine lv_iload hx hb dX2_order_41 (lv_at hl 5 rfl) ?_
    refine lv_iload hx hb dX2_order_43 (lv_at hl 2 rfl) ?_
    refine zv_icmp_ge (tgt := 74) hx hb dX2_order_45 (by decide) (by omega) (by omega) (fun c1 => ?_) (fun c1 => ?_)
    · have e : j = hi := by omega
      subst e
      exact kk least H locs ls h3 h4 h5 hw (lv_sub hl [0, 1, 2, 3, 4] rfl)
    · refine lv_aload_n hx hb dX2_order_48 rfl (lv_at hl 0 rfl) ?_
      refine lv_iload hx hb dX2_order_49 (lv_at hl 5 rfl) ?_
      refine lv_iload hx hb dX2_order_51 (lv_at hl 4 rfl) ?_
      refine sg_callVi Wf_model C hw (m_before l D dA y fb gb F G j least (by omega) (by omega)) (As := [.int (zI j), .int (zI least)]) (rest := []) (cwV 2 hts (lw_V q162 q164 qs3 q7 q165) rfl rfl rfl (by decide +kernel) ⟨by show 0 + 1 ≤ _; omega, by show 8 + (3 + 11) + 0 ≤ _; omega⟩) (va_recv hK hw.1 (ci := 2) (q0 := 0) rfl rfl) rfl hl.1 (Nat.le_of_ble_eq_true rfl) hf dX2_order_53 (fun v H locs hv hw => ?_)
      obtain ⟨z, e, hz⟩ := hv
      subst e
      refine zv_if_eq (tgt := 64) hx hb dX2_order_56 (by decide) (by omega) (fun c2 => ?_) (fun c2 => ?_)
      · refine lv_iload hx hb dX2_order_64 (lv_at hl 4 rfl) ?_
        refine lv_istore (lv' := [(6, .int (zI least)), (0, .ref y), (3, .int (zI lo)), (4, .int (zI hi)), (5, .int (zI k)), (7, .int (zI j))]) hx hb dX2_order_66 hl (by decide) rfl (fun ls hl => ?_)
        refine zv_iinc (b := j + 1) (lv' := [(7, .int (zI (j + 1))), (6, .int (zI least)), (0, .ref y), (3, .int (zI lo)), (4, .int (zI hi)), (5, .int (zI k))]) hx hb dX2_order_68 hl (k := 5) rfl (by omega) (by decide) rfl (fun ls hl => ?_)
        refine lv_goto (tgt := 41) hx hb dX2_order_71 (by decide) ?_
        exact ih (j + 1) least H locs ls (by omega) (by omega) (by omega) (by omega) (fun q g1 g2 => by
          by_cases e : q = j
          · rw [e]; omega
          · exact h5 q g1 (by omega)) hw (lv_sub hl [2, 3, 4, 5, 1, 0] rfl)
      · refine lv_iload hx hb dX2_order_59 (lv_at hl 5 rfl) ?_
        refine lv_goto (tgt := 66) hx hb dX2_order_61 (by decide) ?_
        refine lv_istore (lv' := [(6, .int (zI j)), (0, .ref y), (3, .int (zI lo)), (4, .int (zI hi)), (5, .int (zI k)), (7, .int (zI j))]) hx hb dX2_order_66 hl (by decide) rfl (fun ls hl => ?_)
        refine zv_iinc (b := j + 1) (lv' := [(7, .int (zI (j + 1))), (6, .int (zI j)), (0, .ref y), (3, .int (zI lo)), (4, .int (zI hi)), (5, .int (zI k))]) hx hb dX2_order_68 hl (k := 5) rfl (by omega) (by decide) rfl (fun ls hl => ?_)
        refine lv_goto (tgt := 41) hx hb dX2_order_71 (by decide) ?_
        exact ih (j + 1) j H locs ls (by omega) (by omega) (by omega) (by omega) (fun q g1 g2 => by
          by_cases e : q = j
          · rw [e]; exact Int.le_refl _
          · have := h5 q g1 (by omega); omega) hw (lv_sub hl [2, 3, 4, 5, 1, 0] rfl)
set_option maxHeartbeats 4000000 in
set_option maxRecDepth 100000 in
/-- order's outer loop -/
theorem w_order_out {a : Int → Int} (C : Cx p m c s args cX2_order 9 RX2 D dA) (hR : 1 ≤ R.frames ∧ 24 ≤ R.locals) (hf : cells ≤ R.cells ∧ slots ≤ R.slots) {lo hi : Int} (h0 : 0 ≤ lo) (h48 : hi ≤ 48)
    (kk : ∀ (F G : Nat → Int32) (H : Heap) (locs : List Loc) (ls : Array Slot), ss_Srt lo hi (ky F G) → ss_Pm lo hi a (ky F G) → Wg D (wmd dA y fb gb) (Am y fb gb) s F G H locs → W p l e R s m args below meth c H locs cells slots Q (F0 m 144 ls [])) :
    ∀ (n : Nat) (k : Int) (F G : Nat → Int32) (H : Heap) (locs : List Loc) (ls : Array Slot), hi - k < (n : Int) → lo ≤ k → k ≤ hi → ss_Sel lo hi k (ky F G) → ss_Pm lo hi a (ky F G) → Wg D (wmd dA y fb gb) (Am y fb gb) s F G H locs → lv_has ls 9 [(0, .ref y), (3, .int (zI lo)), (4, .int (zI hi)), (5, .int (zI k))] → W p l e R s m args below meth c H locs cells slots Q (F0 m 24 ls []) := by
  have hts := C.ts
  have hK := C.2.1
  have hown : s.vm.findClass RX2 = some m.cls := C.ow
  have hx := C.ex
  have hb := C.by_
  intro n
  induction n with
  | zero =>
    intro k F G H locs ls h1 h2 h3
    exact absurd h1 (by omega)
  | succ n ih =>
    intro k F G H locs ls h1 h2 h3 h4 h5 hw hl
    refine lv_iload hx hb dX2_order_24 (lv_at hl 3 rfl) ?_
    refine lv_iload hx hb dX2_order_26 (lv_at hl 2 rfl) ?_
    refine zv_icmp_ge (tgt := 144) hx hb dX2_order_28 (by decide) (by omega) (by omega) (fun c1 => ?_) (fun c1 => ?_)
    · exact kk F G H locs ls (ss_Sel_end h4 c1) h5 hw
    · refine lv_iload hx hb dX2_order_31 (lv_at hl 3 rfl) ?_
      refine lv_istore (lv' := [(6, .int (zI k)), (0, .ref y), (3, .int (zI lo)), (4, .int (zI hi)), (5, .int (zI k))]) hx hb dX2_order_33 hl (by decide) rfl (fun ls hl => ?_)
      refine lv_iload hx hb dX2_order_35 (lv_at hl 4 rfl) ?_
      refine lv_iconst (v := zI (1)) hx hb dX2_order_37 rfl ?_
      refine zv_iadd hx hb dX2_order_38 ?_
      refine lv_istore (lv' := [(7, .int (zI (k + 1))), (6, .int (zI k)), (0, .ref y), (3, .int (zI lo)), (4, .int (zI hi)), (5, .int (zI k))]) hx hb dX2_order_39 hl (by decide) rfl (fun ls hl => ?_)
      refine w_order_in C hR hf (by omega) h48 (k := k) (fun least H locs ls g1 g2 g3 hw hl => ?_) (hi - k).toNat (k + 1) k H locs ls (by omega) (by omega) (by omega) (by omega) (fun q g1 g2 => by rw [show q = k by omega]; exact Int.le_refl _) hw (lv_sub hl [2, 3, 4, 5, 1, 0] rfl)
      obtain ⟨hP, hD, hS⟩ := hw
      refine lv_aload_n hx hb dX2_order_74 rfl (lv_at hl 0 rfl) ?_
      refine va_get (D := D) (ci := 2) (v := .ref fb) (C := RX2) (T := TX2) (N := 2) hx hb hts in_X2 hown hK hP 0 rfl rfl 0 (by decide) (hts _ q126) (fun _ h9 => h9) rfl dX2_order_75 ?_
      refine lv_iload hx hb dX2_order_78 (lv_at hl 4 rfl) ?_
      refine zv_iald hx hb hK hP 1 0 rfl rfl (by omega) dX2_order_80 ?_
      refine lv_istore (lv' := [(7, .int (F least.toNat)), (0, .ref y), (3, .int (zI lo)), (4, .int (zI hi)), (5, .int (zI k)), (6, .int (zI least))]) hx hb dX2_order_81 hl (by decide) rfl (fun ls hl => ?_)
      refine lv_aload_n hx hb dX2_order_83 rfl (lv_at hl 1 rfl) ?_
      refine va_get (D := D) (ci := 2) (v := .ref gb) (C := RX2) (T := TX2) (N := 2) hx hb hts in_X2 hown hK hP 0 rfl rfl 1 (by decide) (hts _ q127) (fun _ h9 => h9) rfl dX2_order_84 ?_
      refine lv_iload hx hb dX2_order_87 (lv_at hl 5 rfl) ?_
      refine zv_iald hx hb hK hP 2 0 rfl rfl (by omega) dX2_order_89 ?_
      refine lv_istore (lv' := [(8, .int (G least.toNat)), (7, .int (F least.toNat)), (0, .ref y), (3, .int (zI lo)), (4, .int (zI hi)), (5, .int (zI k)), (6, .int (zI least))]) hx hb dX2_order_90 hl (by decide) rfl (fun ls hl => ?_)
      refine lv_aload_n hx hb dX2_order_92 rfl (lv_at hl 2 rfl) ?_
      refine va_get (D := D) (ci := 2) (v := .ref fb) (C := RX2) (T := TX2) (N := 2) hx hb hts in_X2 hown hK hP 0 rfl rfl 0 (by decide) (hts _ q126) (fun _ h9 => h9) rfl dX2_order_93 ?_
      refine lv_iload hx hb dX2_order_96 (lv_at hl 6 rfl) ?_
      refine lv_aload_n hx hb dX2_order_98 rfl (lv_at hl 2 rfl) ?_
      refine va_get (D := D) (ci := 2) (v := .ref fb) (C := RX2) (T := TX2) (N := 2) hx hb hts in_X2 hown hK hP 0 rfl rfl 0 (by decide) (hts _ q126) (fun _ h9 => h9) rfl dX2_order_99 ?_
      refine lv_iload hx hb dX2_order_102 (lv_at hl 5 rfl) ?_
      refine zv_iald hx hb hK hP 1 0 rfl rfl (by omega) dX2_order_104 ?_
      refine zv_iast hx hb hK hP hD hS 1 0 rfl rfl (by omega) dX2_order_105 (fun H locs hP hD hS => ?_)
      have hP : va_P D cls9 (wmd dA y fb gb (upd F least.toNat (F k.toNat)) G) H := hP
      have hD : va_D (Am y fb gb s.heap.size) (wmd dA y fb gb (upd F least.toNat (F k.toNat)) G) := hD
      refine lv_aload_n hx hb dX2_order_106 rfl (lv_at hl 2 rfl) ?_
      refine va_get (D := D) (ci := 2) (v := .ref gb) (C := RX2) (T := TX2) (N := 2) hx hb hts in_X2 hown hK hP 0 rfl rfl 1 (by decide) (hts _ q127) (fun _ h9 => h9) rfl dX2_order_107 ?_
      refine lv_iload hx hb dX2_order_110 (lv_at hl 6 rfl) ?_
      refine lv_aload_n hx hb dX2_order_112 rfl (lv_at hl 2 rfl) ?_
      refine va_get (D := D) (ci := 2) (v := .ref gb) (C := RX2) (T := TX2) (N := 2) hx hb hts in_X2 hown hK hP 0 rfl rfl 1 (by decide) (hts _ q127) (fun _ h9 => h9) rfl dX2_order_113 ?_
      refine lv_iload hx hb dX2_order_116 (lv_at hl 5 rfl) ?_
      refine zv_iald hx hb hK hP 2 0 rfl rfl (by omega) dX2_order_118 ?_
      refine zv_iast hx hb hK hP hD hS 2 0 rfl rfl (by omega) dX2_order_119 (fun H locs hP hD hS => ?_)
      have hP : va_P D cls9 (wmd dA y fb gb (upd F least.toNat (F k.toNat)) (upd G least.toNat (G k.toNat))) H := hP
      have hD : va_D (Am y fb gb s.heap.size) (wmd dA y fb gb (upd F least.toNat (F k.toNat)) (upd G least.toNat (G k.toNat))) := hD
      refine lv_aload_n hx hb dX2_order_120 rfl (lv_at hl 2 rfl) ?_
      refine va_get (D := D) (ci := 2) (v := .ref fb) (C := RX2) (T := TX2) (N := 2) hx hb hts in_X2 hown hK hP 0 rfl rfl 0 (by decide) (hts _ q126) (fun _ h9 => h9) rfl dX2_order_121 ?_
      refine lv_iload hx hb dX2_order_124 (lv_at hl 5 rfl) ?_
      refine lv_iload hx hb dX2_order_126 (lv_at hl 1 rfl) ?_
      refine zv_iast hx hb hK hP hD hS 1 0 rfl rfl (by omega) dX2_order_128 (fun H locs hP hD hS => ?_)
      have hP : va_P D cls9 (wmd dA y fb gb (upd (upd F least.toNat (F k.toNat)) k.toNat (F least.toNat)) (upd G least.toNat (G k.toNat))) H := hP
      have hD : va_D (Am y fb gb s.heap.size) (wmd dA y fb gb (upd (upd F least.toNat (F k.toNat)) k.toNat (F least.toNat)) (upd G least.toNat (G k.toNat))) := hD
      refine lv_aload_n hx hb dX2_order_129 rfl (lv_at hl 2 rfl) ?_
      refine va_get (D := D) (ci := 2) (v := .ref gb) (C := RX2) (T := TX2) (N := 2) hx hb hts in_X2 hown hK hP 0 rfl rfl 1 (by decide) (hts _ q127) (fun _ h9 => h9) rfl dX2_order_130 ?_
      refine lv_iload hx hb dX2_order_133 (lv_at hl 5 rfl) ?_
      refine lv_iload hx hb dX2_order_135 (lv_at hl 0 rfl) ?_
      refine zv_iast hx hb hK hP hD hS 2 0 rfl rfl (by omega) dX2_order_137 (fun H locs hP hD hS => ?_)
      have hP : va_P D cls9 (wmd dA y fb gb (upd (upd F least.toNat (F k.toNat)) k.toNat (F least.toNat)) (upd (upd G least.toNat (G k.toNat)) k.toNat (G least.toNat))) H := hP
      have hD : va_D (Am y fb gb s.heap.size) (wmd dA y fb gb (upd (upd F least.toNat (F k.toNat)) k.toNat (F least.toNat)) (upd (upd G least.toNat (G k.toNat)) k.toNat (G least.toNat))) := hD
      refine zv_iinc (b := k + 1) (lv' := [(5, .int (zI (k + 1))), (8, .int (G least.toNat)), (7, .int (F least.toNat)), (0, .ref y), (3, .int (zI lo)), (4, .int (zI hi)), (6, .int (zI least))]) hx hb dX2_order_138 hl (k := 5) rfl (by omega) (by decide) rfl (fun ls hl => ?_)
      refine lv_goto (tgt := 24) hx hb dX2_order_141 (by decide) ?_
      have e := ky_sw (F := F) (G := G) (i := least) (j := k) (by omega) (by omega)
      exact ih (k + 1) _ _ H locs ls (by omega) (by omega) (by omega) (by rw [e]; exact ss_Sel_step h4 h2 (by omega) g1 g2 g3) (by rw [e]; exact h5.tr (ss_Pm.sw h0 h48 (by omega) (by omega) (by omega) (by omega))) ⟨hP, hD, hS⟩ (lv_sub hl [3, 4, 5, 0] rfl)
end SSK
set_option maxHeartbeats 4000000 in
set_option maxRecDepth 100000 in
/-- order(f, t): the range comes out sorted -/
theorem m_order (l : Launch) (D : va_G) (dA : ClassId) (y fb gb : Nat) (F G : Nat → Int32) (p0 p1 : Int32) : MgV l D dA (wmd dA y fb gb) (Am y fb gb) yX2_order cX2_order 9 ({ frames := 1, cells := 0, slots := 0, locals := 24 }) [.ref y, .int p0, .int p1] F G (fun F2 G2 => ss_Pm (pz p0 49) (pz p0 49 + pz p1 (49 - pz p0 49)) (ky F G) (ky F2 G2) ∧ ss_Srt (pz p0 49) (pz p0 49 + pz p1 (49 - pz p0 49)) (ky F2 G2)) := by
  intro sz
  refine Met.ofW (cc := cX2_order) (maxL := 9) (ret := none) (by decide) rfl ?_
  intro p e s m args below meth c s₁ B hml hv
  obtain ⟨rfl, hv⟩ := hv
  obtain ⟨C, hw, hsz⟩ := sg_in Wf_model B hml hv
  subst hsz
  have hr := B.returns
  have hlocks := B.notSynchronized
  have C : Cx p m c s _ cX2_order 9 RX2 D dA := C
  have hx := C.ex
  have hb := C.by_
  have hts := C.ts
  have hK := C.2.1
  have hX := C.2.2
  have hown : s.vm.findClass RX2 = some m.cls := C.ow
  obtain ⟨hP, hD, hS⟩ := hw
  have hz := pz_rng p0 (d := 49) (by omega)
  have hz2 := pz_rng p1 (d := 49 - pz p0 49) (by omega)
  refine ss_start (lv := [(0, .ref y), (1, .int p0), (2, .int p1)]) (Nat.le_of_ble_eq_true rfl) rfl (fun ls hl => ?_)
  refine lv_iload_n hx hb dX2_order_0 rfl (lv_at hl 1 rfl) ?_
  refine lv_ldc hx hb hown (hts _ q140) dX2_order_1 ?_
  refine lv_iand hx hb dX2_order_3 ?_
  refine lv_bipush (v := zI (49)) hx hb dX2_order_4 (by decide) ?_
  refine zv_irem hx hb dX2_order_6 (by omega) ?_
  refine lv_istore_n (lv' := [(3, .int (zI (pz p0 49))), (0, .ref y), (1, .int p0), (2, .int p1)]) hx hb dX2_order_7 rfl hl (by decide) rfl (fun ls hl => ?_)
  refine lv_iload_n hx hb dX2_order_8 rfl (lv_at hl 0 rfl) ?_
  refine lv_iload_n hx hb dX2_order_9 rfl (lv_at hl 3 rfl) ?_
  refine lv_ldc hx hb hown (hts _ q140) dX2_order_10 ?_
  refine lv_iand hx hb dX2_order_12 ?_
  refine lv_bipush (v := zI (49)) hx hb dX2_order_13 (by decide) ?_
  refine lv_iload_n hx hb dX2_order_15 rfl (lv_at hl 0 rfl) ?_
  refine zv_isub hx hb dX2_order_16 ?_
  refine zv_irem hx hb dX2_order_17 (by omega) ?_
  refine zv_iadd hx hb dX2_order_18 ?_
  refine lv_istore (lv' := [(4, .int (zI (pz p0 49 + (pz p1 (49 - (pz p0 49)))))), (3, .int (zI (pz p0 49))), (0, .ref y), (1, .int p0), (2, .int p1)]) hx hb dX2_order_19 hl (by decide) rfl (fun ls hl => ?_)
  refine lv_iload_n hx hb dX2_order_21 rfl (lv_at hl 1 rfl) ?_
  refine lv_istore (lv' := [(5, .int (zI (pz p0 49))), (4, .int (zI (pz p0 49 + (pz p1 (49 - (pz p0 49)))))), (3, .int (zI (pz p0 49))), (0, .ref y), (1, .int p0), (2, .int p1)]) hx hb dX2_order_22 hl (by decide) rfl (fun ls hl => ?_)
  refine w_order_out C ⟨Nat.le_of_ble_eq_true rfl, Nat.le_of_ble_eq_true rfl⟩ ⟨Nat.le_refl 0, Nat.le_refl 0⟩ hz.1 (by omega) (fun F2 G2 H locs ls g1 g2 hw => sg_vret (post := fun F2 G2 => ss_Pm (pz p0 49) (pz p0 49 + pz p1 (49 - pz p0 49)) (ky F G) (ky F2 G2) ∧ ss_Srt (pz p0 49) (pz p0 49 + pz p1 (49 - pz p0 49)) (ky F2 G2)) C hr hlocks hw ⟨g2, g1⟩ dX2_order_144) (pz p1 (49 - pz p0 49) + 1).toNat (pz p0 49) F G _ _ ls (by omega) (Int.le_refl _) (by omega) ss_Sel_0 ss_Pm.rf ⟨hP, hD, hS⟩ (lv_sub hl [3, 2, 1, 0] rfl)
set_option maxHeartbeats 4000000 in
set_option maxRecDepth 100000 in
/-- quick(f, t) -/
theorem m_mquick (l : Launch) (D : va_G) (dA : ClassId) (y fb gb : Nat) (F G : Nat → Int32) (p0 p1 : Int32) : MgV l D dA (wmd dA y fb gb) (Am y fb gb) yX2_quick cX2_quick 3 ({ frames := 2, cells := 0, slots := 0, locals := 60 }) [.ref y, .int p0, .int p1] F G (fun F2 G2 => ss_Pm (pz p0 49) (pz p0 49 + pz p1 (49 - pz p0 49)) (ky F G) (ky F2 G2) ∧ ss_Srt (pz p0 49) (pz p0 49 + pz p1 (49 - pz p0 49)) (ky F2 G2)) := by
  intro sz
  refine Met.ofW (cc := cX2_quick) (maxL := 3) (ret := none) (by decide) rfl ?_
  intro p e s m args below meth c s₁ B hml hv
  obtain ⟨rfl, hv⟩ := hv
  obtain ⟨C, hw, hsz⟩ := sg_in Wf_model B hml hv
  subst hsz
  have hr := B.returns
  have hlocks := B.notSynchronized
  have C : Cx p m c s _ cX2_quick 3 RX2 D dA := C
  have hx := C.ex
  have hb := C.by_
  have hts := C.ts
  have hK := C.2.1
  have hX := C.2.2
  have hown : s.vm.findClass RX2 = some m.cls := C.ow
  obtain ⟨hP, hD, hS⟩ := hw
  refine ss_start (lv := [(0, .ref y), (1, .int p0), (2, .int p1)]) (Nat.le_of_ble_eq_true rfl) rfl (fun ls hl => ?_)
  refine lv_aload_n hx hb dX2_quick_0 rfl (lv_at hl 0 rfl) ?_
  refine lv_iload_n hx hb dX2_quick_1 rfl (lv_at hl 1 rfl) ?_
  refine lv_iload_n hx hb dX2_quick_2 rfl (lv_at hl 2 rfl) ?_
  refine sg_callV Wf_model C ⟨hP, hD, hS⟩ (m_order l D dA y fb gb F G p0 p1) (As := [.int p0, .int p1]) (rest := []) (cwV 2 hts (lw_V q158 q160 qs2 q7 q161) rfl rfl rfl (by decide +kernel) ⟨Nat.le_of_ble_eq_true rfl, Nat.le_of_ble_eq_true rfl⟩) (va_recv hK hP (ci := 2) (q0 := 0) rfl rfl) rfl hl.1 (Nat.le_of_ble_eq_true rfl) ⟨Nat.le_refl 0, Nat.le_refl 0⟩ dX2_quick_3 (fun F2 G2 H locs hp hw => ?_)
  exact sg_vret (post := fun F2 G2 => ss_Pm (pz p0 49) (pz p0 49 + pz p1 (49 - pz p0 49)) (ky F G) (ky F2 G2) ∧ ss_Srt (pz p0 49) (pz p0 49 + pz p1 (49 - pz p0 49)) (ky F2 G2)) C hr hlocks hw hp dX2_quick_6
set_option maxHeartbeats 4000000 in
set_option maxRecDepth 100000 in
/-- merge(f, t) -/
theorem m_mmerge (l : Launch) (D : va_G) (dA : ClassId) (y fb gb : Nat) (F G : Nat → Int32) (p0 p1 : Int32) : MgV l D dA (wmd dA y fb gb) (Am y fb gb) yX2_merge cX2_merge 3 ({ frames := 2, cells := 0, slots := 0, locals := 60 }) [.ref y, .int p0, .int p1] F G (fun F2 G2 => ss_Pm (pz p0 49) (pz p0 49 + pz p1 (49 - pz p0 49)) (ky F G) (ky F2 G2) ∧ ss_Srt (pz p0 49) (pz p0 49 + pz p1 (49 - pz p0 49)) (ky F2 G2)) := by
  intro sz
  refine Met.ofW (cc := cX2_merge) (maxL := 3) (ret := none) (by decide) rfl ?_
  intro p e s m args below meth c s₁ B hml hv
  obtain ⟨rfl, hv⟩ := hv
  obtain ⟨C, hw, hsz⟩ := sg_in Wf_model B hml hv
  subst hsz
  have hr := B.returns
  have hlocks := B.notSynchronized
  have C : Cx p m c s _ cX2_merge 3 RX2 D dA := C
  have hx := C.ex
  have hb := C.by_
  have hts := C.ts
  have hK := C.2.1
  have hX := C.2.2
  have hown : s.vm.findClass RX2 = some m.cls := C.ow
  obtain ⟨hP, hD, hS⟩ := hw
  refine ss_start (lv := [(0, .ref y), (1, .int p0), (2, .int p1)]) (Nat.le_of_ble_eq_true rfl) rfl (fun ls hl => ?_)
  refine lv_aload_n hx hb dX2_merge_0 rfl (lv_at hl 0 rfl) ?_
  refine lv_iload_n hx hb dX2_merge_1 rfl (lv_at hl 1 rfl) ?_
  refine lv_iload_n hx hb dX2_merge_2 rfl (lv_at hl 2 rfl) ?_
  refine sg_callV Wf_model C ⟨hP, hD, hS⟩ (m_order l D dA y fb gb F G p0 p1) (As := [.int p0, .int p1]) (rest := []) (cwV 2 hts (lw_V q158 q160 qs2 q7 q161) rfl rfl rfl (by decide +kernel) ⟨Nat.le_of_ble_eq_true rfl, Nat.le_of_ble_eq_true rfl⟩) (va_recv hK hP (ci := 2) (q0 := 0) rfl rfl) rfl hl.1 (Nat.le_of_ble_eq_true rfl) ⟨Nat.le_refl 0, Nat.le_refl 0⟩ dX2_merge_3 (fun F2 G2 H locs hp hw => ?_)
  exact sg_vret (post := fun F2 G2 => ss_Pm (pz p0 49) (pz p0 49 + pz p1 (49 - pz p0 49)) (ky F G) (ky F2 G2) ∧ ss_Srt (pz p0 49) (pz p0 49 + pz p1 (49 - pz p0 49)) (ky F2 G2)) C hr hlocks hw hp dX2_merge_6
end
section
/-! DESK (SwapSortDesk): set, few, first, second, from, to, quick, merge; both constructors -/
set_option maxHeartbeats 4000000 in
set_option maxRecDepth 100000 in
/-- set(i, a, b) -/
theorem m_dset (l : Launch) (D : va_G) (dA : ClassId) (x r fa ga : Nat) (F G : Nat → Int32) (p0 p1 p2 : Int32) : MgV l D dA (wdk dA x r fa ga) (Af x r fa ga) yX0_set cX0_set 5 ({ frames := 0, cells := 0, slots := 0, locals := 0 }) [.ref x, .int p0, .int p1, .int p2] F G (fun F2 G2 => F2 = upd F (pz p0 48).toNat p1 ∧ G2 = upd G (pz p0 48).toNat p2) := by
  intro sz
  refine Met.ofW (cc := cX0_set) (maxL := 5) (ret := none) (by decide) rfl ?_
  intro p e s m args below meth c s₁ B hml hv
  obtain ⟨rfl, hv⟩ := hv
  obtain ⟨C, hw, hsz⟩ := sg_in Wf_desk B hml hv
  subst hsz
  have hr := B.returns
  have hlocks := B.notSynchronized
  have C : Cx p m c s _ cX0_set 5 RX0 D dA := C
  have hx := C.ex
  have hb := C.by_
  have hts := C.ts
  have hK := C.2.1
  have hX := C.2.2
  have hown : s.vm.findClass RX0 = some m.cls := C.ow
  obtain ⟨hP, hD, hS⟩ := hw
  have hz := pz_rng p0 (d := 48) (by omega)
  refine ss_start (lv := [(0, .ref x), (1, .int p0), (2, .int p1), (3, .int p2)]) (Nat.le_of_ble_eq_true rfl) rfl (fun ls hl => ?_)
  refine lv_iload_n hx hb dX0_set_0 rfl (lv_at hl 1 rfl) ?_
  refine lv_ldc hx hb hown (hts _ q45) dX0_set_1 ?_
  refine lv_iand hx hb dX0_set_3 ?_
  refine lv_bipush (v := zI (48)) hx hb dX0_set_4 (by decide) ?_
  refine zv_irem hx hb dX0_set_6 (by omega) ?_
  refine lv_istore (lv' := [(4, .int (zI (pz p0 48))), (0, .ref x), (1, .int p0), (2, .int p1), (3, .int p2)]) hx hb dX0_set_7 hl (by decide) rfl (fun ls hl => ?_)
  refine lv_aload_n hx hb dX0_set_9 rfl (lv_at hl 1 rfl) ?_
  refine va_get (D := D) (ci := 0) (v := .ref fa) (C := RX0) (T := TX0) (N := 3) hx hb hts in_X0 hown hK hP 0 rfl rfl 0 (by decide) (hts _ q29) (fun _ h9 => h9) rfl dX0_set_10 ?_
  refine lv_iload hx hb dX0_set_13 (lv_at hl 0 rfl) ?_
  refine lv_iload_n hx hb dX0_set_15 rfl (lv_at hl 3 rfl) ?_
  refine zv_iast hx hb hK hP hD hS 2 0 rfl rfl (by omega) dX0_set_16 (fun H locs hP hD hS => ?_)
  have hP : va_P D cls9 (wdk dA x r fa ga (upd F (pz p0 48).toNat p1) G) H := hP
  have hD : va_D (Af x r fa ga s.heap.size) (wdk dA x r fa ga (upd F (pz p0 48).toNat p1) G) := hD
  refine lv_aload_n hx hb dX0_set_17 rfl (lv_at hl 1 rfl) ?_
  refine va_get (D := D) (ci := 0) (v := .ref ga) (C := RX0) (T := TX0) (N := 3) hx hb hts in_X0 hown hK hP 0 rfl rfl 1 (by decide) (hts _ q31) (fun _ h9 => h9) rfl dX0_set_18 ?_
  refine lv_iload hx hb dX0_set_21 (lv_at hl 0 rfl) ?_
  refine lv_iload_n hx hb dX0_set_23 rfl (lv_at hl 4 rfl) ?_
  refine zv_iast hx hb hK hP hD hS 3 0 rfl rfl (by omega) dX0_set_24 (fun H locs hP hD hS => ?_)
  have hP : va_P D cls9 (wdk dA x r fa ga (upd F (pz p0 48).toNat p1) (upd G (pz p0 48).toNat p2)) H := hP
  have hD : va_D (Af x r fa ga s.heap.size) (wdk dA x r fa ga (upd F (pz p0 48).toNat p1) (upd G (pz p0 48).toNat p2)) := hD
  exact sg_vret (post := fun F2 G2 => F2 = upd F (pz p0 48).toNat p1 ∧ G2 = upd G (pz p0 48).toNat p2) C hr hlocks ⟨hP, hD, hS⟩ ⟨rfl, rfl⟩ dX0_set_25
set_option maxHeartbeats 4000000 in
set_option maxRecDepth 100000 in
/-- few(i, a, b) -/
theorem m_dfew (l : Launch) (D : va_G) (dA : ClassId) (x r fa ga : Nat) (F G : Nat → Int32) (p0 p1 p2 : Int32) : MgV l D dA (wdk dA x r fa ga) (Af x r fa ga) yX0_few cX0_few 5 ({ frames := 0, cells := 0, slots := 0, locals := 0 }) [.ref x, .int p0, .int p1, .int p2] F G (fun F2 G2 => F2 = upd F (pz p0 48).toNat (p1 &&& zI 3) ∧ G2 = upd G (pz p0 48).toNat (p2 &&& zI 3)) := by
  intro sz
  refine Met.ofW (cc := cX0_few) (maxL := 5) (ret := none) (by decide) rfl ?_
  intro p e s m args below meth c s₁ B hml hv
  obtain ⟨rfl, hv⟩ := hv
  obtain ⟨C, hw, hsz⟩ := sg_in Wf_desk B hml hv
  subst hsz
  have hr := B.returns
  have hlocks := B.notSynchronized
  have C : Cx p m c s _ cX0_few 5 RX0 D dA := C
  have hx := C.ex
  have hb := C.by_
  have hts := C.ts
  have hK := C.2.1
  have hX := C.2.2
  have hown : s.vm.findClass RX0 = some m.cls := C.ow
  obtain ⟨hP, hD, hS⟩ := hw
  have hz := pz_rng p0 (d := 48) (by omega)
  refine ss_start (lv := [(0, .ref x), (1, .int p0), (2, .int p1), (3, .int p2)]) (Nat.le_of_ble_eq_true rfl) rfl (fun ls hl => ?_)
  refine lv_iload_n hx hb dX0_few_0 rfl (lv_at hl 1 rfl) ?_
  refine lv_ldc hx hb hown (hts _ q45) dX0_few_1 ?_
  refine lv_iand hx hb dX0_few_3 ?_
  refine lv_bipush (v := zI (48)) hx hb dX0_few_4 (by decide) ?_
  refine zv_irem hx hb dX0_few_6 (by omega) ?_
  refine lv_istore (lv' := [(4, .int (zI (pz p0 48))), (0, .ref x), (1, .int p0), (2, .int p1), (3, .int p2)]) hx hb dX0_few_7 hl (by decide) rfl (fun ls hl => ?_)
  refine lv_aload_n hx hb dX0_few_9 rfl (lv_at hl 1 rfl) ?_
  refine va_get (D := D) (ci := 0) (v := .ref fa) (C := RX0) (T := TX0) (N := 3) hx hb hts in_X0 hown hK hP 0 rfl rfl 0 (by decide) (hts _ q29) (fun _ h9 => h9) rfl dX0_few_10 ?_
  refine lv_iload hx hb dX0_few_13 (lv_at hl 0 rfl) ?_
  refine lv_iload_n hx hb dX0_few_15 rfl (lv_at hl 3 rfl) ?_
  refine lv_iconst (v := zI (3)) hx hb dX0_few_16 rfl ?_
  refine lv_iand hx hb dX0_few_17 ?_
  refine zv_iast hx hb hK hP hD hS 2 0 rfl rfl (by omega) dX0_few_18 (fun H locs hP hD hS => ?_)
  have hP : va_P D cls9 (wdk dA x r fa ga (upd F (pz p0 48).toNat (p1 &&& zI 3)) G) H := hP
  have hD : va_D (Af x r fa ga s.heap.size) (wdk dA x r fa ga (upd F (pz p0 48).toNat (p1 &&& zI 3)) G) := hD
  refine lv_aload_n hx hb dX0_few_19 rfl (lv_at hl 1 rfl) ?_
  refine va_get (D := D) (ci := 0) (v := .ref ga) (C := RX0) (T := TX0) (N := 3) hx hb hts in_X0 hown hK hP 0 rfl rfl 1 (by decide) (hts _ q31) (fun _ h9 => h9) rfl dX0_few_20 ?_
  refine lv_iload hx hb dX0_few_23 (lv_at hl 0 rfl) ?_
  refine lv_iload_n hx hb dX0_few_25 rfl (lv_at hl 4 rfl) ?_
  refine lv_iconst (v := zI (3)) hx hb dX0_few_26 rfl ?_
  refine lv_iand hx hb dX0_few_27 ?_
  refine zv_iast hx hb hK hP hD hS 3 0 rfl rfl (by omega) dX0_few_28 (fun H locs hP hD hS => ?_)
  have hP : va_P D cls9 (wdk dA x r fa ga (upd F (pz p0 48).toNat (p1 &&& zI 3)) (upd G (pz p0 48).toNat (p2 &&& zI 3))) H := hP
  have hD : va_D (Af x r fa ga s.heap.size) (wdk dA x r fa ga (upd F (pz p0 48).toNat (p1 &&& zI 3)) (upd G (pz p0 48).toNat (p2 &&& zI 3))) := hD
  exact sg_vret (post := fun F2 G2 => F2 = upd F (pz p0 48).toNat (p1 &&& zI 3) ∧ G2 = upd G (pz p0 48).toNat (p2 &&& zI 3)) C hr hlocks ⟨hP, hD, hS⟩ ⟨rfl, rfl⟩ dX0_few_29
set_option maxHeartbeats 4000000 in
set_option maxRecDepth 100000 in
/-- first(i) -/
theorem m_dfirst (l : Launch) (D : va_G) (dA : ClassId) (x r fa ga : Nat) (F G : Nat → Int32) (p0 : Int32) : MgI l D dA (wdk dA x r fa ga) (Af x r fa ga) .int yX0_first cX0_first 2 ({ frames := 0, cells := 0, slots := 0, locals := 0 }) [.ref x, .int p0] F G (fun v => v = F (pz p0 48).toNat) := by
  intro sz
  refine Met.ofW (cc := cX0_first) (maxL := 2) (ret := some .int) (by decide) rfl ?_
  intro p e s m args below meth c s₁ B hml hv
  obtain ⟨rfl, hv⟩ := hv
  obtain ⟨C, hw, hsz⟩ := sg_in Wf_desk B hml hv
  subst hsz
  have hr := B.returns
  have hlocks := B.notSynchronized
  have C : Cx p m c s _ cX0_first 2 RX0 D dA := C
  have hx := C.ex
  have hb := C.by_
  have hts := C.ts
  have hK := C.2.1
  have hX := C.2.2
  have hown : s.vm.findClass RX0 = some m.cls := C.ow
  obtain ⟨hP, hD, hS⟩ := hw
  have hz := pz_rng p0 (d := 48) (by omega)
  refine ss_start (lv := [(0, .ref x), (1, .int p0)]) (Nat.le_of_ble_eq_true rfl) rfl (fun ls hl => ?_)
  refine lv_aload_n hx hb dX0_first_0 rfl (lv_at hl 0 rfl) ?_
  refine va_get (D := D) (ci := 0) (v := .ref fa) (C := RX0) (T := TX0) (N := 3) hx hb hts in_X0 hown hK hP 0 rfl rfl 0 (by decide) (hts _ q29) (fun _ h9 => h9) rfl dX0_first_1 ?_
  refine lv_iload_n hx hb dX0_first_4 rfl (lv_at hl 1 rfl) ?_
  refine lv_ldc hx hb hown (hts _ q45) dX0_first_5 ?_
  refine lv_iand hx hb dX0_first_7 ?_
  refine lv_bipush (v := zI (48)) hx hb dX0_first_8 (by decide) ?_
  refine zv_irem hx hb dX0_first_10 (by omega) ?_
  refine zv_iald hx hb hK hP 2 0 rfl rfl (by omega) dX0_first_11 ?_
  exact sg_iret C hr rfl hlocks ⟨hP, hD, hS⟩ rfl dX0_first_12
set_option maxHeartbeats 4000000 in
set_option maxRecDepth 100000 in
/-- second(i) -/
theorem m_dsecond (l : Launch) (D : va_G) (dA : ClassId) (x r fa ga : Nat) (F G : Nat → Int32) (p0 : Int32) : MgI l D dA (wdk dA x r fa ga) (Af x r fa ga) .int yX0_second cX0_second 2 ({ frames := 0, cells := 0, slots := 0, locals := 0 }) [.ref x, .int p0] F G (fun v => v = G (pz p0 48).toNat) := by
  intro sz
  refine Met.ofW (cc := cX0_second) (maxL := 2) (ret := some .int) (by decide) rfl ?_
  intro p e s m args below meth c s₁ B hml hv
  obtain ⟨rfl, hv⟩ := hv
  obtain ⟨C, hw, hsz⟩ := sg_in Wf_desk B hml hv
  subst hsz
  have hr := B.returns
  have hlocks := B.notSynchronized
  have C : Cx p m c s _ cX0_second 2 RX0 D dA := C
  have hx := C.ex
  have hb := C.by_
  have hts := C.ts
  have hK := C.2.1
  have hX := C.2.2
  have hown : s.vm.findClass RX0 = some m.cls := C.ow
  obtain ⟨hP, hD, hS⟩ := hw
  have hz := pz_rng p0 (d := 48) (by omega)
  refine ss_start (lv := [(0, .ref x), (1, .int p0)]) (Nat.le_of_ble_eq_true rfl) rfl (fun ls hl => ?_)
  refine lv_aload_n hx hb dX0_second_0 rfl (lv_at hl 0 rfl) ?_
  refine va_get (D := D) (ci := 0) (v := .ref ga) (C := RX0) (T := TX0) (N := 3) hx hb hts in_X0 hown hK hP 0 rfl rfl 1 (by decide) (hts _ q31) (fun _ h9 => h9) rfl dX0_second_1 ?_
  refine lv_iload_n hx hb dX0_second_4 rfl (lv_at hl 1 rfl) ?_
  refine lv_ldc hx hb hown (hts _ q45) dX0_second_5 ?_
  refine lv_iand hx hb dX0_second_7 ?_
  refine lv_bipush (v := zI (48)) hx hb dX0_second_8 (by decide) ?_
  refine zv_irem hx hb dX0_second_10 (by omega) ?_
  refine zv_iald hx hb hK hP 3 0 rfl rfl (by omega) dX0_second_11 ?_
  exact sg_iret C hr rfl hlocks ⟨hP, hD, hS⟩ rfl dX0_second_12
set_option maxHeartbeats 4000000 in
set_option maxRecDepth 100000 in
/-- from(f) -/
theorem m_dfrom (l : Launch) (D : va_G) (dA : ClassId) (x r fa ga : Nat) (F G : Nat → Int32) (p0 : Int32) : MgI l D dA (wdk dA x r fa ga) (Af x r fa ga) .int yX0_from cX0_from 2 ({ frames := 0, cells := 0, slots := 0, locals := 0 }) [.ref x, .int p0] F G (fun v => v = zI (pz p0 49)) := by
  intro sz
  refine Met.ofW (cc := cX0_from) (maxL := 2) (ret := some .int) (by decide) rfl ?_
  intro p e s m args below meth c s₁ B hml hv
  obtain ⟨rfl, hv⟩ := hv
  obtain ⟨C, hw, hsz⟩ := sg_in Wf_desk B hml hv
  subst hsz
  have hr := B.returns
  have hlocks := B.notSynchronized
  have C : Cx p m c s _ cX0_from 2 RX0 D dA := C
  have hx := C.ex
  have hb := C.by_
  have hts := C.ts
  have hK := C.2.1
  have hX := C.2.2
  have hown : s.vm.findClass RX0 = some m.cls := C.ow
  obtain ⟨hP, hD, hS⟩ := hw
  refine ss_start (lv := [(0, .ref x), (1, .int p0)]) (Nat.le_of_ble_eq_true rfl) rfl (fun ls hl => ?_)
  refine lv_iload_n hx hb dX0_from_0 rfl (lv_at hl 1 rfl) ?_
  refine lv_ldc hx hb hown (hts _ q45) dX0_from_1 ?_
  refine lv_iand hx hb dX0_from_3 ?_
  refine lv_bipush (v := zI (49)) hx hb dX0_from_4 (by decide) ?_
  refine zv_irem hx hb dX0_from_6 (by omega) ?_
  exact sg_iret C hr rfl hlocks ⟨hP, hD, hS⟩ rfl dX0_from_7
set_option maxHeartbeats 4000000 in
set_option maxRecDepth 100000 in
/-- to(a, t) -/
theorem m_dto (l : Launch) (D : va_G) (dA : ClassId) (x r fa ga : Nat) (F G : Nat → Int32) (a0 : Int) (ha : 0 ≤ a0 ∧ a0 < 49) (p1 : Int32) : MgI l D dA (wdk dA x r fa ga) (Af x r fa ga) .int yX0_to cX0_to 3 ({ frames := 0, cells := 0, slots := 0, locals := 0 }) [.ref x, .int (zI a0), .int p1] F G (fun v => v = zI (a0 + pz p1 (49 - a0))) := by
  intro sz
  refine Met.ofW (cc := cX0_to) (maxL := 3) (ret := some .int) (by decide) rfl ?_
  intro p e s m args below meth c s₁ B hml hv
  obtain ⟨rfl, hv⟩ := hv
  obtain ⟨C, hw, hsz⟩ := sg_in Wf_desk B hml hv
  subst hsz
  have hr := B.returns
  have hlocks := B.notSynchronized
  have C : Cx p m c s _ cX0_to 3 RX0 D dA := C
  have hx := C.ex
  have hb := C.by_
  have hts := C.ts
  have hK := C.2.1
  have hX := C.2.2
  have hown : s.vm.findClass RX0 = some m.cls := C.ow
  obtain ⟨hP, hD, hS⟩ := hw
  refine ss_start (lv := [(0, .ref x), (1, .int (zI a0)), (2, .int p1)]) (Nat.le_of_ble_eq_true rfl) rfl (fun ls hl => ?_)
  refine lv_iload_n hx hb dX0_to_0 rfl (lv_at hl 1 rfl) ?_
  refine lv_iload_n hx hb dX0_to_1 rfl (lv_at hl 2 rfl) ?_
  refine lv_ldc hx hb hown (hts _ q45) dX0_to_2 ?_
  refine lv_iand hx hb dX0_to_4 ?_
  refine lv_bipush (v := zI (49)) hx hb dX0_to_5 (by decide) ?_
  refine lv_iload_n hx hb dX0_to_7 rfl (lv_at hl 1 rfl) ?_
  refine zv_isub hx hb dX0_to_8 ?_
  refine zv_irem hx hb dX0_to_9 (by omega) ?_
  refine zv_iadd hx hb dX0_to_10 ?_
  exact sg_iret C hr rfl hlocks ⟨hP, hD, hS⟩ rfl dX0_to_11
set_option maxHeartbeats 4000000 in
set_option maxRecDepth 100000 in
/-- quick(f, t): the range comes out sorted -/
theorem m_dquick (l : Launch) (D : va_G) (dA : ClassId) (x r fa ga : Nat) (F G : Nat → Int32) (p0 p1 : Int32) : MgV l D dA (wdk dA x r fa ga) (Af x r fa ga) yX0_quick cX0_quick 4 ({ frames := 120, cells := 0, slots := 0, locals := 4200 }) [.ref x, .int p0, .int p1] F G (fun F2 G2 => ss_Pm (pz p0 49) (pz p0 49 + pz p1 (49 - pz p0 49)) (ky F G) (ky F2 G2) ∧ ss_Srt (pz p0 49) (pz p0 49 + pz p1 (49 - pz p0 49)) (ky F2 G2)) := by
  intro sz
  refine Met.ofW (cc := cX0_quick) (maxL := 4) (ret := none) (by decide) rfl ?_
  intro p e s m args below meth c s₁ B hml hv
  obtain ⟨rfl, hv⟩ := hv
  obtain ⟨C, hw, hsz⟩ := sg_in Wf_desk B hml hv
  subst hsz
  have hr := B.returns
  have hlocks := B.notSynchronized
  have C : Cx p m c s _ cX0_quick 4 RX0 D dA := C
  have hx := C.ex
  have hb := C.by_
  have hts := C.ts
  have hK := C.2.1
  have hX := C.2.2
  have hown : s.vm.findClass RX0 = some m.cls := C.ow
  obtain ⟨hP, hD, hS⟩ := hw
  have hz := pz_rng p0 (d := 49) (by omega)
  have hz2 := pz_rng p1 (d := 49 - pz p0 49) (by omega)
  refine ss_start (lv := [(0, .ref x), (1, .int p0), (2, .int p1)]) (Nat.le_of_ble_eq_true rfl) rfl (fun ls hl => ?_)
  refine lv_aload_n hx hb dX0_quick_0 rfl (lv_at hl 0 rfl) ?_
  refine lv_iload_n hx hb dX0_quick_1 rfl (lv_at hl 1 rfl) ?_
  refine sg_callVi Wf_desk C ⟨hP, hD, hS⟩ (m_dfrom l D dA x r fa ga F G p0) (As := [.int p0]) (rest := []) (cwV 1 hts (lw_V q62 q64 qs0 q5 q65) rfl rfl rfl (by decide +kernel) ⟨Nat.le_of_ble_eq_true rfl, Nat.le_of_ble_eq_true rfl⟩) (va_recv hK hP (ci := 0) (q0 := 0) rfl rfl) rfl hl.1 (Nat.le_of_ble_eq_true rfl) ⟨Nat.le_refl 0, Nat.le_refl 0⟩ dX0_quick_2 (fun v H locs hv hw => ?_)
  obtain ⟨hP, hD, hS⟩ := hw
  subst hv
  refine lv_istore_n (lv' := [(3, .int (zI (pz p0 49))), (0, .ref x), (1, .int p0), (2, .int p1)]) hx hb dX0_quick_5 rfl hl (by decide) rfl (fun ls hl => ?_)
  refine lv_iload_n hx hb dX0_quick_6 rfl (lv_at hl 0 rfl) ?_
  refine lv_aload_n hx hb dX0_quick_7 rfl (lv_at hl 1 rfl) ?_
  refine lv_iload_n hx hb dX0_quick_8 rfl (lv_at hl 0 rfl) ?_
  refine lv_iload_n hx hb dX0_quick_9 rfl (lv_at hl 3 rfl) ?_
  refine sg_callVi Wf_desk C ⟨hP, hD, hS⟩ (m_dto l D dA x r fa ga F G (pz p0 49) hz p1) (As := [.int (zI (pz p0 49)), .int p1]) (rest := [.int (zI (pz p0 49))]) (cwV 2 hts (lw_V q66 q68 qs1 q5 q69) rfl rfl rfl (by decide +kernel) ⟨Nat.le_of_ble_eq_true rfl, Nat.le_of_ble_eq_true rfl⟩) (va_recv hK hP (ci := 0) (q0 := 0) rfl rfl) rfl hl.1 (Nat.le_of_ble_eq_true rfl) ⟨Nat.le_refl 0, Nat.le_refl 0⟩ dX0_quick_10 (fun v H locs hv hw => ?_)
  obtain ⟨hP, hD, hS⟩ := hw
  subst hv
  refine lv_aload_n hx hb dX0_quick_13 rfl (lv_at hl 1 rfl) ?_
  refine va_get (D := D) (ci := 0) (v := .ref r) (C := RX0) (T := TX0) (N := 3) hx hb hts in_X0 hown hK hP 0 rfl rfl 2 (by decide) (hts _ q33) (fun _ h9 => h9) rfl dX0_quick_14 ?_
  refine lv_aload_n hx hb dX0_quick_17 rfl (lv_at hl 1 rfl) ?_
  refine va_get (D := D) (ci := 0) (v := .ref r) (C := RX0) (T := TX0) (N := 3) hx hb hts in_X0 hown hK hP 0 rfl rfl 2 (by decide) (hts _ q33) (fun _ h9 => h9) rfl dX0_quick_18 ?_
  refine ss_callv C ⟨F, G, rfl, hP, hD, hS⟩ (As := [.int (zI (pz p0 49)), .int (zI (pz p0 49 + pz p1 (49 - pz p0 49))), .ref r, .ref r]) (rest := []) (m_quickSort l D dA x r fa ga 48 (ky F G) (pz p0 49) (pz p0 49 + pz p1 (49 - pz p0 49)) hz.1 (by omega) (by omega) (by omega)) (va_cwS 4 C.ts (lw_S q70 q71 q8 q72) rfl rfl rfl ⟨by decide, by decide, by decide +kernel⟩ ⟨Nat.le_of_ble_eq_true rfl, Nat.le_of_ble_eq_true rfl⟩) rfl hl.1 (Nat.le_of_ble_eq_true rfl) ⟨Nat.le_refl 0, Nat.le_refl 0⟩ dX0_quick_21 (fun u H locs hp hw => ?_)
  obtain ⟨F2, G2, e, hP, hD, hS⟩ := hw
  subst e
  exact sg_vret (post := fun F2 G2 => ss_Pm (pz p0 49) (pz p0 49 + pz p1 (49 - pz p0 49)) (ky F G) (ky F2 G2) ∧ ss_Srt (pz p0 49) (pz p0 49 + pz p1 (49 - pz p0 49)) (ky F2 G2)) C hr hlocks ⟨hP, hD, hS⟩ hp dX0_quick_24
set_option maxHeartbeats 4000000 in
set_option maxRecDepth 100000 in
/-- merge(f, t): the range comes out sorted -/
theorem m_dmerge (l : Launch) (D : va_G) (dA : ClassId) (x r fa ga : Nat) (F G : Nat → Int32) (p0 p1 : Int32) : MgV l D dA (wdk dA x r fa ga) (Af x r fa ga) yX0_merge cX0_merge 4 ({ frames := 120, cells := 0, slots := 0, locals := 4200 }) [.ref x, .int p0, .int p1] F G (fun F2 G2 => ss_Pm (pz p0 49) (pz p0 49 + pz p1 (49 - pz p0 49)) (ky F G) (ky F2 G2) ∧ ss_Srt (pz p0 49) (pz p0 49 + pz p1 (49 - pz p0 49)) (ky F2 G2)) := by
  intro sz
  refine Met.ofW (cc := cX0_merge) (maxL := 4) (ret := none) (by decide) rfl ?_
  intro p e s m args below meth c s₁ B hml hv
  obtain ⟨rfl, hv⟩ := hv
  obtain ⟨C, hw, hsz⟩ := sg_in Wf_desk B hml hv
  subst hsz
  have hr := B.returns
  have hlocks := B.notSynchronized
  have C : Cx p m c s _ cX0_merge 4 RX0 D dA := C
  have hx := C.ex
  have hb := C.by_
  have hts := C.ts
  have hK := C.2.1
  have hX := C.2.2
  have hown : s.vm.findClass RX0 = some m.cls := C.ow
  obtain ⟨hP, hD, hS⟩ := hw
  have hz := pz_rng p0 (d := 49) (by omega)
  have hz2 := pz_rng p1 (d := 49 - pz p0 49) (by omega)
  refine ss_start (lv := [(0, .ref x), (1, .int p0), (2, .int p1)]) (Nat.le_of_ble_eq_true rfl) rfl (fun ls hl => ?_)
  refine lv_aload_n hx hb dX0_merge_0 rfl (lv_at hl 0 rfl) ?_
  refine lv_iload_n hx hb dX0_merge_1 rfl (lv_at hl 1 rfl) ?_
  refine sg_callVi Wf_desk C ⟨hP, hD, hS⟩ (m_dfrom l D dA x r fa ga F G p0) (As := [.int p0]) (rest := []) (cwV 1 hts (lw_V q62 q64 qs0 q5 q65) rfl rfl rfl (by decide +kernel) ⟨Nat.le_of_ble_eq_true rfl, Nat.le_of_ble_eq_true rfl⟩) (va_recv hK hP (ci := 0) (q0 := 0) rfl rfl) rfl hl.1 (Nat.le_of_ble_eq_true rfl) ⟨Nat.le_refl 0, Nat.le_refl 0⟩ dX0_merge_2 (fun v H locs hv hw => ?_)
  obtain ⟨hP, hD, hS⟩ := hw
  subst hv
  refine lv_istore_n (lv' := [(3, .int (zI (pz p0 49))), (0, .ref x), (1, .int p0), (2, .int p1)]) hx hb dX0_merge_5 rfl hl (by decide) rfl (fun ls hl => ?_)
  refine lv_iload_n hx hb dX0_merge_6 rfl (lv_at hl 0 rfl) ?_
  refine lv_aload_n hx hb dX0_merge_7 rfl (lv_at hl 1 rfl) ?_
  refine lv_iload_n hx hb dX0_merge_8 rfl (lv_at hl 0 rfl) ?_
  refine lv_iload_n hx hb dX0_merge_9 rfl (lv_at hl 3 rfl) ?_
  refine sg_callVi Wf_desk C ⟨hP, hD, hS⟩ (m_dto l D dA x r fa ga F G (pz p0 49) hz p1) (As := [.int (zI (pz p0 49)), .int p1]) (rest := [.int (zI (pz p0 49))]) (cwV 2 hts (lw_V q66 q68 qs1 q5 q69) rfl rfl rfl (by decide +kernel) ⟨Nat.le_of_ble_eq_true rfl, Nat.le_of_ble_eq_true rfl⟩) (va_recv hK hP (ci := 0) (q0 := 0) rfl rfl) rfl hl.1 (Nat.le_of_ble_eq_true rfl) ⟨Nat.le_refl 0, Nat.le_refl 0⟩ dX0_merge_10 (fun v H locs hv hw => ?_)
  obtain ⟨hP, hD, hS⟩ := hw
  subst hv
  refine lv_aload_n hx hb dX0_merge_13 rfl (lv_at hl 1 rfl) ?_
  refine va_get (D := D) (ci := 0) (v := .ref r) (C := RX0) (T := TX0) (N := 3) hx hb hts in_X0 hown hK hP 0 rfl rfl 2 (by decide) (hts _ q33) (fun _ h9 => h9) rfl dX0_merge_14 ?_
  refine lv_aload_n hx hb dX0_merge_17 rfl (lv_at hl 1 rfl) ?_
  refine va_get (D := D) (ci := 0) (v := .ref r) (C := RX0) (T := TX0) (N := 3) hx hb hts in_X0 hown hK hP 0 rfl rfl 2 (by decide) (hts _ q33) (fun _ h9 => h9) rfl dX0_merge_18 ?_
  refine ss_callv C ⟨F, G, rfl, hP, hD, hS⟩ (As := [.int (zI (pz p0 49)), .int (zI (pz p0 49 + pz p1 (49 - pz p0 49))), .ref r, .ref r]) (rest := []) (m_mergeSort l D dA x r fa ga 48 (ky F G) (pz p0 49) (pz p0 49 + pz p1 (49 - pz p0 49)) hz.1 (by omega) (by omega) (by omega)) (va_cwS 4 C.ts (lw_S q107 q108 q8 q109) rfl rfl rfl ⟨by decide, by decide, by decide +kernel⟩ ⟨Nat.le_of_ble_eq_true rfl, Nat.le_of_ble_eq_true rfl⟩) rfl hl.1 (Nat.le_of_ble_eq_true rfl) ⟨Nat.le_refl 0, Nat.le_refl 0⟩ dX0_merge_21 (fun u H locs hp hw => ?_)
  obtain ⟨F2, G2, e, hP, hD, hS⟩ := hw
  subst e
  exact sg_vret (post := fun F2 G2 => ss_Pm (pz p0 49) (pz p0 49 + pz p1 (49 - pz p0 49)) (ky F G) (ky F2 G2) ∧ ss_Srt (pz p0 49) (pz p0 49 + pz p1 (49 - pz p0 49)) (ky F2 G2)) C hr hlocks ⟨hP, hD, hS⟩ hp dX0_merge_24
/-- an array class by its name -/
theorem ss_sameA {D : va_G} {cl : List vw_C} {s : State} {dA cA : ClassId} (h1 : va_K D cl [(dA, .int)] s) (h2 : va_K D cl ([(dA, .int)] ++ [(cA, .int)]) s) : cA = dA := by
  have g1 := va_nm_int (h1.2 0 _ rfl).2
  have g2 := va_nm_int (h2.2 1 _ rfl).2
  rw [g1] at g2
  exact (Option.some.inj g2).symm
set_option maxHeartbeats 4000000 in
set_option maxRecDepth 100000 in
/-- m_dinit -/
theorem m_dinit (l : Launch) (D : va_G) (dA : ClassId) (x sz : Nat) : Met l yX0_init (ws_ yX0_init cX0_init 1 none) ({ frames := 2, cells := 3, slots := 97, locals := 40 }) (va_Pc [.ref x] (fun U => U.heap.size = sz ∧ va_P D cls9 [(x, .inr (0, [.null, .null, .null]))] U.heap ∧ va_K D cls9 [(dA, .int)] U ∧ va_D (fun _ => True) [(x, .inr (0, [.null, .null, .null]))] ∧ Xw U)) (va_Qv (fun _ : Nat × Nat × Nat => True) (fun u t => va_P D cls9 (wdk dA x u.1 u.2.1 u.2.2 (fun _ => 0) (fun _ => 0)) t.heap ∧ va_D (va_A [(x, .inr (0, [.null, .null, .null]))] sz) (wdk dA x u.1 u.2.1 u.2.2 (fun _ => 0) (fun _ => 0))) (va_A [(x, .inr (0, [.null, .null, .null]))] sz)) 3 97 (va_A [(x, .inr (0, [.null, .null, .null]))] sz) := by
  refine Met.ofW (cc := cX0_init) (maxL := 1) (ret := none) (by decide) rfl ?_
  intro p e s m args below meth c s₁ B hml hv
  obtain ⟨rfl, hsz, hP, hK, hD0, hX⟩ := hv
  have hx := B.exec
  have hb := B.bytes
  have hr := B.returns
  have hts := atoms_spec (ws := ws_ yX0_init cX0_init 1 none) B.pre
  have hts : ∀ w ∈ lw_all, w.before _ s = true := fun w h => hts w (List.mem_cons_of_mem _ h)
  have hown : s.vm.findClass RX0 = some m.cls := findClass_of_methodNamed B.named
  have hlocks := B.notSynchronized
  have hin : meth.name = "<init>" := (name_of_methodNamed B.named B.method).1
  subst hsz
  have hD := hD0.self (sz := s.heap.size)
  generalize hAe : (va_A [(x, .inr (0, [.null, .null, .null]))] s.heap.size) = A at hD ⊢
  have hA : ∀ q : Nat, s.heap.size ≤ q → A q := fun q h => by rw [← hAe]; exact Or.inr h
  have hS : va_S A s.heap s.heap [] := va_S.rf
  refine ss_start (lv := [(0, .ref x)]) (Nat.le_of_ble_eq_true rfl) rfl (fun ls hl => ?_)
  refine lv_aload_n hx hb dX0_init_0 rfl (lv_at hl 0 rfl) ?_
  refine W.objInit hx hb hown (hts _ q15) (hts _ q16) (hts _ q17) rfl (by rw [hml]; exact hl.1) rfl dX0_init_1 (Nat.le_of_ble_eq_true rfl) (Nat.le_of_ble_eq_true rfl) ?_
  refine W.eq (g2 := F0 m 4 ls []) rfl ?_
  refine lv_aload_n hx hb dX0_init_4 rfl (lv_at hl 0 rfl) ?_
  refine lv_bipush (v := zI 48) hx hb dX0_init_5 (by decide) ?_
  refine va_newa (atype := .int) (ty := .int) (a0 := (48, .inl (fun _ => 0))) (N' := 48) hx hb (hts _ q28) rfl hK hP hD hS hA (fun cA => rfl) (by decide) (by decide) (by decide) (Nat.le_of_ble_eq_true rfl) (Nat.le_of_ble_eq_true rfl) dX0_init_7 (fun fa cA H hK2 hP hD hS => ?_)
  have e : cA = dA := ss_sameA hK hK2
  rw [e] at hP hD
  have hP : va_P D cls9 [(x, .inr (0, [.null, .null, .null])), (fa, .inl (dA, 48, .inl (fun _ => 0)))] H := hP
  have hD : va_D A [(x, .inr (0, [.null, .null, .null])), (fa, .inl (dA, 48, .inl (fun _ => 0)))] := hD
  refine va_putF (D := D) (ci := 0) (v := .ref fa) (ty := .array .int) (C := RX0) (T := TX0) (N := 3) hx hb hts in_X0 tyX0 tyX0_ok nmX0 hown hK hP hD hS 0 rfl rfl 0 (by decide) (hts _ q29) (fun _ h9 => h9) rfl hin rfl (by decide +kernel) rfl rfl (Nat.le_of_ble_eq_true rfl) dX0_init_9 (fun H locs hP hD hS => ?_)
  have hP : va_P D cls9 [(x, .inr (0, [.ref fa, .null, .null])), (fa, .inl (dA, 48, .inl (fun _ => 0)))] H := hP
  have hD : va_D A [(x, .inr (0, [.ref fa, .null, .null])), (fa, .inl (dA, 48, .inl (fun _ => 0)))] := hD
  refine lv_aload_n hx hb dX0_init_12 rfl (lv_at hl 0 rfl) ?_
  refine lv_bipush (v := zI 48) hx hb dX0_init_13 (by decide) ?_
  refine va_newa (atype := .int) (ty := .int) (a0 := (48, .inl (fun _ => 0))) (N' := 48) hx hb (hts _ q28) rfl hK hP hD hS hA (fun cA => rfl) (by decide) (by decide) (by decide) (Nat.le_of_ble_eq_true rfl) (Nat.le_of_ble_eq_true rfl) dX0_init_15 (fun ga cA H hK2 hP hD hS => ?_)
  have e : cA = dA := ss_sameA hK hK2
  rw [e] at hP hD
  have hP : va_P D cls9 [(x, .inr (0, [.ref fa, .null, .null])), (fa, .inl (dA, 48, .inl (fun _ => 0))), (ga, .inl (dA, 48, .inl (fun _ => 0)))] H := hP
  have hD : va_D A [(x, .inr (0, [.ref fa, .null, .null])), (fa, .inl (dA, 48, .inl (fun _ => 0))), (ga, .inl (dA, 48, .inl (fun _ => 0)))] := hD
  refine va_putF (D := D) (ci := 0) (v := .ref ga) (ty := .array .int) (C := RX0) (T := TX0) (N := 3) hx hb hts in_X0 tyX0 tyX0_ok nmX0 hown hK hP hD hS 0 rfl rfl 1 (by decide) (hts _ q31) (fun _ h9 => h9) rfl hin rfl (by decide +kernel) rfl rfl (Nat.le_of_ble_eq_true rfl) dX0_init_17 (fun H locs hP hD hS => ?_)
  have hP : va_P D cls9 [(x, .inr (0, [.ref fa, .ref ga, .null])), (fa, .inl (dA, 48, .inl (fun _ => 0))), (ga, .inl (dA, 48, .inl (fun _ => 0)))] H := hP
  have hD : va_D A [(x, .inr (0, [.ref fa, .ref ga, .null])), (fa, .inl (dA, 48, .inl (fun _ => 0))), (ga, .inl (dA, 48, .inl (fun _ => 0)))] := hD
  refine lv_aload_n hx hb dX0_init_20 rfl (lv_at hl 0 rfl) ?_
  refine va_new (ci := 1) (fs := [.null]) (C := RX1) (T := TX1) (N := 1) hx hb hts in_X1 tyX1 tyX1_ok hown (hts _ q18) (hts _ q19) (hts _ q6) hK hP hD hS hA rfl (fun j hj => by rcases (show j = 0 by omega) with rfl <;> rfl) (Nat.le_of_ble_eq_true rfl) (Nat.le_of_ble_eq_true rfl) dX0_init_21 (fun r H hP hD hS => ?_)
  have hP : va_P D cls9 [(x, .inr (0, [.ref fa, .ref ga, .null])), (fa, .inl (dA, 48, .inl (fun _ => 0))), (ga, .inl (dA, 48, .inl (fun _ => 0))), (r, .inr (1, [.null]))] H := hP
  have hD : va_D A [(x, .inr (0, [.ref fa, .ref ga, .null])), (fa, .inl (dA, 48, .inl (fun _ => 0))), (ga, .inl (dA, 48, .inl (fun _ => 0))), (r, .inr (1, [.null]))] := hD
  refine lv_dup hx hb dX0_init_24 rfl ?_
  refine lv_aload_n hx hb dX0_init_25 rfl (lv_at hl 0 rfl) ?_
  have hPc := hP.sub (ws' := [(r, .inr (1, [.null]))]) [3] rfl
  have hDc := hD.sub (ws' := [(r, .inr (1, [.null]))]) [3] (by decide) rfl
  have hKc := hK.sub (tys' := []) [] rfl
  have hFc := va_free (wc := [(r, .inr (1, [.null]))]) hD hS hA [3] rfl
  refine va_callv (va_runIN (As := [.ref x]) (rest := [.ref r, .ref x]) ⟨hx, hb, hml, hown, hts⟩ (m_Rows l D x r H.size) ⟨va_cnB 1 hts (lw_meth q22) rfl rfl rfl hX.2.2.2.2 (hts _ q6) ⟨by decide, by decide, by decide +kernel⟩ ⟨Nat.le_of_ble_eq_true rfl, Nat.le_of_ble_eq_true rfl⟩, rfl, hts _ q21⟩ ⟨fun a U g mk q => by obtain ⟨q0, q1, qP, qK, qD⟩ := q; exact ⟨q0, q1, qP, va_K.moved (u := U) (U := U.calling g mk a) (Vm.Alike.refl U.vm) qK, qD⟩, fun U hU hW => ⟨rfl, by rw [hU], by rw [hU]; exact hPc, va_K.moved hW.alike hKc, hDc.weaken (fun _ _ _ _ => trivial)⟩⟩ rfl rfl hl.1 rfl (lv_room (Nat.le_of_ble_eq_true rfl)) dX0_init_26 ⟨Nat.le_of_ble_eq_true rfl, Nat.le_of_ble_eq_true rfl⟩) hS (fun q _ h => hFc q h) hFc (fun u t H1 locs ht hvm hw hB hz1 hk1 hS => ?_)
  obtain ⟨hP1, hD1⟩ := hB
  rw [ht] at hP1
  obtain ⟨hP, hD⟩ := va_join (wr := [(x, .inr (0, [.ref fa, .ref ga, .null])), (fa, .inl (dA, 48, .inl (fun _ => 0))), (ga, .inl (dA, 48, .inl (fun _ => 0)))]) (w1 := [(r, .inr (1, [.ref x]))]) hP hD [3] [0, 1, 2] rfl rfl (by decide) (by decide) hk1 hFc hP1 hD1
  generalize H1 = H at hP hS ⊢
  have hP : va_P D cls9 [(x, .inr (0, [.ref fa, .ref ga, .null])), (fa, .inl (dA, 48, .inl (fun _ => 0))), (ga, .inl (dA, 48, .inl (fun _ => 0))), (r, .inr (1, [.ref x]))] H := hP
  have hD : va_D A [(x, .inr (0, [.ref fa, .ref ga, .null])), (fa, .inl (dA, 48, .inl (fun _ => 0))), (ga, .inl (dA, 48, .inl (fun _ => 0))), (r, .inr (1, [.ref x]))] := hD
  refine va_putF (D := D) (ci := 0) (v := .ref r) (ty := .object "SwapSortDesk$Rows") (C := RX0) (T := TX0) (N := 3) hx hb hts in_X0 tyX0 tyX0_ok nmX0 hown hK hP hD hS 0 rfl rfl 2 (by decide) (hts _ q33) (fun _ h9 => h9) rfl hin rfl (by decide +kernel) rfl rfl (Nat.le_of_ble_eq_true rfl) dX0_init_29 (fun H locs hP hD hS => ?_)
  have hP : va_P D cls9 [(x, .inr (0, [.ref fa, .ref ga, .ref r])), (fa, .inl (dA, 48, .inl (fun _ => 0))), (ga, .inl (dA, 48, .inl (fun _ => 0))), (r, .inr (1, [.ref x]))] H := hP
  have hD : va_D A [(x, .inr (0, [.ref fa, .ref ga, .ref r])), (fa, .inl (dA, 48, .inl (fun _ => 0))), (ga, .inl (dA, 48, .inl (fun _ => 0))), (r, .inr (1, [.ref x]))] := hD
  have hP9 := hP.sub (ws' := wdk dA x r fa ga (fun _ => 0) (fun _ => 0)) [0, 3, 1, 2] rfl
  have hD9 := hD.sub (ws' := wdk dA x r fa ga (fun _ => 0) (fun _ => 0)) [0, 3, 1, 2] (by decide) rfl
  refine W.widen (k := 3) (n := 97) (Nat.le_of_ble_eq_true rfl) (Nat.le_of_ble_eq_true rfl) ?_
  exact W.vret hx hb hr (fun t ht hW => ⟨⟨(r, fa, ga), rfl, trivial, by show va_P D cls9 (wdk dA x r fa ga (fun _ => 0) (fun _ => 0)) t.heap; rw [ht]; exact hP9, hD9⟩, hS.F ht⟩) hS.2.2 dX0_init_32
set_option maxHeartbeats 4000000 in
set_option maxRecDepth 100000 in
/-- m_minit -/
theorem m_minit (l : Launch) (D : va_G) (dA : ClassId) (y sz : Nat) : Met l yX2_init (ws_ yX2_init cX2_init 1 none) ({ frames := 1, cells := 2, slots := 96, locals := 12 }) (va_Pc [.ref y] (fun U => U.heap.size = sz ∧ va_P D cls9 [(y, .inr (2, [.null, .null]))] U.heap ∧ va_K D cls9 [(dA, .int)] U ∧ va_D (fun _ => True) [(y, .inr (2, [.null, .null]))] ∧ Xw U)) (va_Qv (fun _ : Nat × Nat × Nat => True) (fun u t => va_P D cls9 (wmd dA y u.1 u.2.1 (fun _ => 0) (fun _ => 0)) t.heap ∧ va_D (va_A [(y, .inr (2, [.null, .null]))] sz) (wmd dA y u.1 u.2.1 (fun _ => 0) (fun _ => 0))) (va_A [(y, .inr (2, [.null, .null]))] sz)) 2 96 (va_A [(y, .inr (2, [.null, .null]))] sz) := by
  refine Met.ofW (cc := cX2_init) (maxL := 1) (ret := none) (by decide) rfl ?_
  intro p e s m args below meth c s₁ B hml hv
  obtain ⟨rfl, hsz, hP, hK, hD0, hX⟩ := hv
  have hx := B.exec
  have hb := B.bytes
  have hr := B.returns
  have hts := atoms_spec (ws := ws_ yX2_init cX2_init 1 none) B.pre
  have hts : ∀ w ∈ lw_all, w.before _ s = true := fun w h => hts w (List.mem_cons_of_mem _ h)
  have hown : s.vm.findClass RX2 = some m.cls := findClass_of_methodNamed B.named
  have hlocks := B.notSynchronized
  have hin : meth.name = "<init>" := (name_of_methodNamed B.named B.method).1
  subst hsz
  have hD := hD0.self (sz := s.heap.size)
  generalize hAe : (va_A [(y, .inr (2, [.null, .null]))] s.heap.size) = A at hD ⊢
  have hA : ∀ q : Nat, s.heap.size ≤ q → A q := fun q h => by rw [← hAe]; exact Or.inr h
  have hS : va_S A s.heap s.heap [] := va_S.rf
  refine ss_start (lv := [(0, .ref y)]) (Nat.le_of_ble_eq_true rfl) rfl (fun ls hl => ?_)
  refine lv_aload_n hx hb dX2_init_0 rfl (lv_at hl 0 rfl) ?_
  refine W.objInit hx hb hown (hts _ q125) (hts _ q16) (hts _ q17) rfl (by rw [hml]; exact hl.1) rfl dX2_init_1 (Nat.le_of_ble_eq_true rfl) (Nat.le_of_ble_eq_true rfl) ?_
  refine W.eq (g2 := F0 m 4 ls []) rfl ?_
  refine lv_aload_n hx hb dX2_init_4 rfl (lv_at hl 0 rfl) ?_
  refine lv_bipush (v := zI 48) hx hb dX2_init_5 (by decide) ?_
  refine va_newa (atype := .int) (ty := .int) (a0 := (48, .inl (fun _ => 0))) (N' := 48) hx hb (hts _ q28) rfl hK hP hD hS hA (fun cA => rfl) (by decide) (by decide) (by decide) (Nat.le_of_ble_eq_true rfl) (Nat.le_of_ble_eq_true rfl) dX2_init_7 (fun fb cA H hK2 hP hD hS => ?_)
  have e : cA = dA := ss_sameA hK hK2
  rw [e] at hP hD
  have hP : va_P D cls9 [(y, .inr (2, [.null, .null])), (fb, .inl (dA, 48, .inl (fun _ => 0)))] H := hP
  have hD : va_D A [(y, .inr (2, [.null, .null])), (fb, .inl (dA, 48, .inl (fun _ => 0)))] := hD
  refine va_putF (D := D) (ci := 2) (v := .ref fb) (ty := .array .int) (C := RX2) (T := TX2) (N := 2) hx hb hts in_X2 tyX2 tyX2_ok nmX2 hown hK hP hD hS 0 rfl rfl 0 (by decide) (hts _ q126) (fun _ h9 => h9) rfl hin rfl (by decide +kernel) rfl rfl (Nat.le_of_ble_eq_true rfl) dX2_init_9 (fun H locs hP hD hS => ?_)
  have hP : va_P D cls9 [(y, .inr (2, [.ref fb, .null])), (fb, .inl (dA, 48, .inl (fun _ => 0)))] H := hP
  have hD : va_D A [(y, .inr (2, [.ref fb, .null])), (fb, .inl (dA, 48, .inl (fun _ => 0)))] := hD
  refine lv_aload_n hx hb dX2_init_12 rfl (lv_at hl 0 rfl) ?_
  refine lv_bipush (v := zI 48) hx hb dX2_init_13 (by decide) ?_
  refine va_newa (atype := .int) (ty := .int) (a0 := (48, .inl (fun _ => 0))) (N' := 48) hx hb (hts _ q28) rfl hK hP hD hS hA (fun cA => rfl) (by decide) (by decide) (by decide) (Nat.le_of_ble_eq_true rfl) (Nat.le_of_ble_eq_true rfl) dX2_init_15 (fun gb cA H hK2 hP hD hS => ?_)
  have e : cA = dA := ss_sameA hK hK2
  rw [e] at hP hD
  have hP : va_P D cls9 [(y, .inr (2, [.ref fb, .null])), (fb, .inl (dA, 48, .inl (fun _ => 0))), (gb, .inl (dA, 48, .inl (fun _ => 0)))] H := hP
  have hD : va_D A [(y, .inr (2, [.ref fb, .null])), (fb, .inl (dA, 48, .inl (fun _ => 0))), (gb, .inl (dA, 48, .inl (fun _ => 0)))] := hD
  refine va_putF (D := D) (ci := 2) (v := .ref gb) (ty := .array .int) (C := RX2) (T := TX2) (N := 2) hx hb hts in_X2 tyX2 tyX2_ok nmX2 hown hK hP hD hS 0 rfl rfl 1 (by decide) (hts _ q127) (fun _ h9 => h9) rfl hin rfl (by decide +kernel) rfl rfl (Nat.le_of_ble_eq_true rfl) dX2_init_17 (fun H locs hP hD hS => ?_)
  have hP : va_P D cls9 [(y, .inr (2, [.ref fb, .ref gb])), (fb, .inl (dA, 48, .inl (fun _ => 0))), (gb, .inl (dA, 48, .inl (fun _ => 0)))] H := hP
  have hD : va_D A [(y, .inr (2, [.ref fb, .ref gb])), (fb, .inl (dA, 48, .inl (fun _ => 0))), (gb, .inl (dA, 48, .inl (fun _ => 0)))] := hD
  refine W.widen (k := 2) (n := 96) (Nat.le_of_ble_eq_true rfl) (Nat.le_of_ble_eq_true rfl) ?_
  exact W.vret hx hb hr (fun t ht hW => ⟨⟨(fb, gb, 0), rfl, trivial, by show va_P D cls9 (wmd dA y fb gb (fun _ => 0) (fun _ => 0)) t.heap; rw [ht]; exact hP, hD⟩, hS.F ht⟩) hS.2.2 dX2_init_20
end
section
/-! THE CLAIM OUT OF ONE WALK OF THE LAW'S BODY. Your part is whole_start (and what it stands on); all else here is the same for every law, but numbers. -/
def R_law : String := "SwapSortDeskLaw"
def lw_P (b : Addr) (xs : List Int32) (args : Array Value) (s : State) : Prop := args = #[.ref b] ∧ s.IntsAt b xs ∧ xs.length ≤ 288 ∧ (Jvm.Cond.and given_1 narrow_1).before args s = true
def lw_Q (_ : Array Value) (s : State) (o : Outcome) (t : State) : Prop := o = .returned (some (.int 1)) ∧ Framed s o t [] 1200000 5502250
def lw_Z (below : List Frame) (a : Array Value) (s : State) : State → Prop := fun t => ∃ o, t.status = .running ∧ Ended t below o ∧ lw_Q a s o t
/-- the law's own end, with 1 on the stack, nothing written that was there before, its room as the claim has it -/
theorem lw_ret {p : Program} {l : Launch} {e : Env} {s : State} {m : MethodId} {below : List Frame} {meth : Method} {c : Code} {b : Nat} (hx : p.tables.exec = Jvm.exec) (hb : c.code = code) (hr : meth.sig.returnType = ret) (hlocks : meth.locks = false) {pc : Nat} {H : Heap} {ls : Array Slot} (hdg : decode code pc = .ok (.ireturn, 1)) : W p l e room_1 s m #[Value.ref b] below meth c H [] 1200000 5502250 (lw_Z below #[Value.ref b] s) (F0 m pc ls [.int 1]) := by
  intro T hT X
  obtain ⟨fs, hret, hrun, hended, hW, hframe⟩ := X.leave (v := some (.int 1)) (hlocks := hlocks) (fun h => by rw [hr] at h; cases h)
  have hmeth' : T.vm.method? m = some meth := X.method'
  refine ⟨T.setFrames fs, ?_, .returned (some (.int 1)), hrun, hended, rfl, ⟨_, rfl⟩, hW, hframe⟩
  jvm_step X.here [X.here.top, hx, hb, hdg, hmeth', hr, ret, narrow_b1]
  (try refine ⟨rfl, ?_⟩); (try refine ⟨rfl, ?_⟩)
  first | (intro acts; rw [hret _ acts rfl rfl rfl]) | rw [hret _ _ rfl rfl rfl]
  exact Steps.refl _
/-- what holds at the law's entry: the machine, the code, the tables' words (any of lw_tbl by 'hts w (by decide +kernel)'), the script of L ints xs at the cell b, what the Statement gives of the start (any of its parts by flat_of_before) -/
def lw_At (p : Program) (s : State) (m : MethodId) (meth : Method) (c : Code) (b L : Nat) (xs : Nat → Int32) : Prop :=
  p.tables.exec = Jvm.exec ∧ c.code = code ∧ meth.sig.returnType = ret ∧ c.maxLocals = 4 ∧ s.vm.findClass R_law = some m.cls ∧ (∀ w ∈ lw_tbl, w.before #[Value.ref b] s = true) ∧ va_X b L xs s s.heap ∧ b < s.heap.size ∧ meth.locks = false ∧ (Jvm.Cond.and given_1 narrow_1).before #[Value.ref b] s = true
/-! THE LAW'S LOOP -/
def lA (s : State) : Nat → Prop := fun q => s.heap.size ≤ q
abbrev wlw (dA : ClassId) (x r fa ga y fb gb : Nat) (F G F2 G2 : Nat → Int32) : va_W := wdk dA x r fa ga F G ++ wmd dA y fb gb F2 G2
def Wlw (D : va_G) (dA : ClassId) (x r fa ga y fb gb : Nat) (s : State) (F G F2 G2 : Nat → Int32) (H : Heap) (locs : List Loc) : Prop := va_P D cls9 (wlw dA x r fa ga y fb gb F G F2 G2) H ∧ va_D (lA s) (wlw dA x r fa ga y fb gb F G F2 G2) ∧ va_S (lA s) s.heap H locs
section SSL
variable {p : Program} {l : Launch} {e : Env} {R : Room} {s : State} {m : MethodId} {args : Array Value} {below : List Frame} {meth : Method} {c : Code} {H : Heap} {locs : List Loc} {cells slots : Nat} {Q : State → Prop}
variable {cc : ByteArray} {pc nL : Nat} {ls : Array Slot} {rest : List Value} {D : va_G} {dA : ClassId} {x r fa ga y fb gb : Nat} {F G F2 G2 : Nat → Int32} {own : String}
theorem zv_sld (hexec : p.tables.exec = Jvm.exec) (hb : c.code = cc) {b L : Nat} {xs : Nat → Int32} (hX : va_X b L xs s s.heap) (hbl : b < s.heap.size) (hL : L ≤ 288) (hS : va_S (lA s) s.heap H locs) {i : Int} (hi : 0 ≤ i ∧ i < (L : Int)) (hdg : decode cc pc = .ok (.iaload, 1))
    (kk : W p l e R s m args below meth c H locs cells slots Q (F0 m (pc + 1) ls (.int (xs i.toNat) :: rest))) : W p l e R s m args below meth c H locs cells slots Q (F0 m pc ls (.int (zI i) :: .ref b :: rest)) :=
  va_sld hexec hb hX hbl (Nat.not_le.mpr hbl) hS (zI_in hi (by omega)) hdg (by rw [zI_cl (by omega)]; exact kk)
theorem zv_slen (hexec : p.tables.exec = Jvm.exec) (hb : c.code = cc) {b L : Nat} {xs : Nat → Int32} (hX : va_X b L xs s s.heap) (hbl : b < s.heap.size) (hS : va_S (lA s) s.heap H locs) (hdg : decode cc pc = .ok (.arraylength, 1))
    (kk : W p l e R s m args below meth c H locs cells slots Q (F0 m (pc + 1) ls (.int (zI (L : Int)) :: rest))) : W p l e R s m args below meth c H locs cells slots Q (F0 m pc ls (.ref b :: rest)) :=
  va_slen hexec hb hX hbl (Nat.not_le.mpr hbl) hS hdg (by rw [← show zI (L : Int) = Int32.ofNat L from zI_nat L]; exact kk)
/-- a call of the desk in the law, no answer -/
theorem lw_dV {z : MethodName} {b : ByteArray} {n index : Nat} {rm : Room} {As st0 : List Value} {post : (Nat → Int32) → (Nat → Int32) → Prop} (C : Cx p m c s args cc nL own D dA) (h : Wlw D dA x r fa ga y fb gb s F G F2 G2 H locs) (hM : MgV l D dA (wdk dA x r fa ga) (Af x r fa ga) z b n rm (.ref x :: As) F G post)
    (cw : CallW R s args own RX0 index z b n none (ws_ z b n none) rm 0 0 As.length) (hst : st0 = As.reverse ++ .ref x :: rest) (hl : ls.size = nL) (hW : (rest.map fun v => v.category).sum ≤ 8) (hf : cells ≤ R.cells ∧ slots ≤ R.slots) (hdg : decode cc pc = .ok (.invokevirtual index, 3))
    (kk : ∀ (F3 G3 : Nat → Int32) (H1 : Heap) (locs1 : List Loc), post F3 G3 → Wlw D dA x r fa ga y fb gb s F3 G3 F2 G2 H1 locs1 → W p l e R s m args below meth c H1 locs1 cells slots Q (F0 m (pc + 3) ls rest)) : W p l e R s m args below meth c H locs cells slots Q (F0 m pc ls st0) := by
  obtain ⟨hP, hD, hS⟩ := h
  have hPc := hP.sub (ws' := wdk dA x r fa ga F G) [0, 1, 2, 3] rfl
  have hDc := hD.sub (ws' := wdk dA x r fa ga F G) [0, 1, 2, 3] (by decide) rfl
  have hFc := va_free (wc := wdk dA x r fa ga F G) hD hS (fun q h => h) [0, 1, 2, 3] rfl
  refine va_callv (va_runV (As := As) (rest := rest) C.1 (hM H.size) cw ⟨Stg.blind, va_recv C.2.1 hP (ci := 0) (q0 := 0) rfl rfl, fun U hU hW => ⟨rfl, Stg.at C.2.1 C.2.2 hPc hDc hU hW⟩⟩ rfl rfl hl hst (by show 2 * 0 + _ ≤ 8; omega) hdg ⟨hf.1, hf.2⟩) hS (fun q _ h => hFc q (Af.to h)) (fun q h => hFc q (Af.to h)) (fun u t H1 locs1 ht hvm hp hB hz hk hS1 => ?_)
  have hP1 : va_P D cls9 (wdk dA x r fa ga u.1 u.2) H1 := by rw [← ht]; exact hB
  obtain ⟨hP, hD⟩ := va_join (wc := wdk dA x r fa ga F G) (wr := wmd dA y fb gb F2 G2) (w1 := wdk dA x r fa ga u.1 u.2) hP hD [0, 1, 2, 3] [4, 5, 6] rfl rfl (by decide) (by decide) (fun q h1 h2 => hk q h1 (fun z => h2 (Af.to z))) hFc hP1 (wdk_D (hDc.self (sz := H.size)))
  have hP := hP.sub (ws' := wlw dA x r fa ga y fb gb u.1 u.2 F2 G2) [3, 4, 5, 6, 0, 1, 2] rfl
  have hD := hD.sub (ws' := wlw dA x r fa ga y fb gb u.1 u.2 F2 G2) [3, 4, 5, 6, 0, 1, 2] (by decide) rfl
  exact kk u.1 u.2 H1 locs1 hp ⟨hP, hD, hS1⟩
/-- a call of the desk in the law, an int -/
theorem lw_dI {z : MethodName} {b : ByteArray} {n index : Nat} {rm : Room} {As st0 : List Value} {post : Int32 → Prop} (C : Cx p m c s args cc nL own D dA) (h : Wlw D dA x r fa ga y fb gb s F G F2 G2 H locs) (hM : MgI l D dA (wdk dA x r fa ga) (Af x r fa ga) .int z b n rm (.ref x :: As) F G post)
    (cw : CallW R s args own RX0 index z b n (some .int) (ws_ z b n (some .int)) rm 0 0 As.length) (hst : st0 = As.reverse ++ .ref x :: rest) (hl : ls.size = nL) (hW : (rest.map fun v => v.category).sum ≤ 8) (hf : cells ≤ R.cells ∧ slots ≤ R.slots) (hdg : decode cc pc = .ok (.invokevirtual index, 3))
    (kk : ∀ (v : Int32) (H1 : Heap) (locs1 : List Loc), post v → Wlw D dA x r fa ga y fb gb s F G F2 G2 H1 locs1 → W p l e R s m args below meth c H1 locs1 cells slots Q (F0 m (pc + 3) ls (.int v :: rest))) : W p l e R s m args below meth c H locs cells slots Q (F0 m pc ls st0) := by
  obtain ⟨hP, hD, hS⟩ := h
  have hPc := hP.sub (ws' := wdk dA x r fa ga F G) [0, 1, 2, 3] rfl
  have hDc := hD.sub (ws' := wdk dA x r fa ga F G) [0, 1, 2, 3] (by decide) rfl
  have hFc := va_free (wc := wdk dA x r fa ga F G) hD hS (fun q h => h) [0, 1, 2, 3] rfl
  refine va_calli (va_runV (As := As) (rest := rest) C.1 (hM H.size) cw ⟨Stg.blind, va_recv C.2.1 hP (ci := 0) (q0 := 0) rfl rfl, fun U hU hW => ⟨rfl, Stg.at C.2.1 C.2.2 hPc hDc hU hW⟩⟩ rfl rfl hl hst (by show 2 * 0 + _ ≤ 8; omega) hdg ⟨hf.1, hf.2⟩) hS (fun q _ h => hFc q (Af.to h)) (fun q h => hFc q (Af.to h)) (fun v u t H1 locs1 ht hvm hp hB hz hk hS1 => ?_)
  have hP1 : va_P D cls9 (wdk dA x r fa ga F G) H1 := by rw [← ht]; exact hB
  obtain ⟨hP, hD⟩ := va_join (wc := wdk dA x r fa ga F G) (wr := wmd dA y fb gb F2 G2) (w1 := wdk dA x r fa ga F G) hP hD [0, 1, 2, 3] [4, 5, 6] rfl rfl (by decide) (by decide) (fun q h1 h2 => hk q h1 (fun z => h2 (Af.to z))) hFc hP1 (wdk_D (hDc.self (sz := H.size)))
  have hP := hP.sub (ws' := wlw dA x r fa ga y fb gb F G F2 G2) [3, 4, 5, 6, 0, 1, 2] rfl
  have hD := hD.sub (ws' := wlw dA x r fa ga y fb gb F G F2 G2) [3, 4, 5, 6, 0, 1, 2] (by decide) rfl
  exact kk v H1 locs1 hp ⟨hP, hD, hS1⟩
/-- a call of the model in the law, no answer -/
theorem lw_mV {z : MethodName} {b : ByteArray} {n index : Nat} {rm : Room} {As st0 : List Value} {post : (Nat → Int32) → (Nat → Int32) → Prop} (C : Cx p m c s args cc nL own D dA) (h : Wlw D dA x r fa ga y fb gb s F G F2 G2 H locs) (hM : MgV l D dA (wmd dA y fb gb) (Am y fb gb) z b n rm (.ref y :: As) F2 G2 post)
    (cw : CallW R s args own RX2 index z b n none (ws_ z b n none) rm 0 0 As.length) (hst : st0 = As.reverse ++ .ref y :: rest) (hl : ls.size = nL) (hW : (rest.map fun v => v.category).sum ≤ 8) (hf : cells ≤ R.cells ∧ slots ≤ R.slots) (hdg : decode cc pc = .ok (.invokevirtual index, 3))
    (kk : ∀ (F3 G3 : Nat → Int32) (H1 : Heap) (locs1 : List Loc), post F3 G3 → Wlw D dA x r fa ga y fb gb s F G F3 G3 H1 locs1 → W p l e R s m args below meth c H1 locs1 cells slots Q (F0 m (pc + 3) ls rest)) : W p l e R s m args below meth c H locs cells slots Q (F0 m pc ls st0) := by
  obtain ⟨hP, hD, hS⟩ := h
  have hPc := hP.sub (ws' := wmd dA y fb gb F2 G2) [4, 5, 6] rfl
  have hDc := hD.sub (ws' := wmd dA y fb gb F2 G2) [4, 5, 6] (by decide) rfl
  have hFc := va_free (wc := wmd dA y fb gb F2 G2) hD hS (fun q h => h) [4, 5, 6] rfl
  refine va_callv (va_runV (As := As) (rest := rest) C.1 (hM H.size) cw ⟨Stg.blind, va_recv C.2.1 hP (ci := 2) (q0 := 4) rfl rfl, fun U hU hW => ⟨rfl, Stg.at C.2.1 C.2.2 hPc hDc hU hW⟩⟩ rfl rfl hl hst (by show 2 * 0 + _ ≤ 8; omega) hdg ⟨hf.1, hf.2⟩) hS (fun q _ h => hFc q (Am.to h)) (fun q h => hFc q (Am.to h)) (fun u t H1 locs1 ht hvm hp hB hz hk hS1 => ?_)
  have hP1 : va_P D cls9 (wmd dA y fb gb u.1 u.2) H1 := by rw [← ht]; exact hB
  obtain ⟨hP, hD⟩ := va_join (wc := wmd dA y fb gb F2 G2) (wr := wdk dA x r fa ga F G) (w1 := wmd dA y fb gb u.1 u.2) hP hD [4, 5, 6] [0, 1, 2, 3] rfl rfl (by decide) (by decide) (fun q h1 h2 => hk q h1 (fun z => h2 (Am.to z))) hFc hP1 (wmd_D (hDc.self (sz := H.size)))
  exact kk u.1 u.2 H1 locs1 hp ⟨hP, hD, hS1⟩
/-- a call of the model in the law, an int -/
theorem lw_mI {z : MethodName} {b : ByteArray} {n index : Nat} {rm : Room} {As st0 : List Value} {post : Int32 → Prop} (C : Cx p m c s args cc nL own D dA) (h : Wlw D dA x r fa ga y fb gb s F G F2 G2 H locs) (hM : MgI l D dA (wmd dA y fb gb) (Am y fb gb) .int z b n rm (.ref y :: As) F2 G2 post)
    (cw : CallW R s args own RX2 index z b n (some .int) (ws_ z b n (some .int)) rm 0 0 As.length) (hst : st0 = As.reverse ++ .ref y :: rest) (hl : ls.size = nL) (hW : (rest.map fun v => v.category).sum ≤ 8) (hf : cells ≤ R.cells ∧ slots ≤ R.slots) (hdg : decode cc pc = .ok (.invokevirtual index, 3))
    (kk : ∀ (v : Int32) (H1 : Heap) (locs1 : List Loc), post v → Wlw D dA x r fa ga y fb gb s F G F2 G2 H1 locs1 → W p l e R s m args below meth c H1 locs1 cells slots Q (F0 m (pc + 3) ls (.int v :: rest))) : W p l e R s m args below meth c H locs cells slots Q (F0 m pc ls st0) := by
  obtain ⟨hP, hD, hS⟩ := h
  have hPc := hP.sub (ws' := wmd dA y fb gb F2 G2) [4, 5, 6] rfl
  have hDc := hD.sub (ws' := wmd dA y fb gb F2 G2) [4, 5, 6] (by decide) rfl
  have hFc := va_free (wc := wmd dA y fb gb F2 G2) hD hS (fun q h => h) [4, 5, 6] rfl
  refine va_calli (va_runV (As := As) (rest := rest) C.1 (hM H.size) cw ⟨Stg.blind, va_recv C.2.1 hP (ci := 2) (q0 := 4) rfl rfl, fun U hU hW => ⟨rfl, Stg.at C.2.1 C.2.2 hPc hDc hU hW⟩⟩ rfl rfl hl hst (by show 2 * 0 + _ ≤ 8; omega) hdg ⟨hf.1, hf.2⟩) hS (fun q _ h => hFc q (Am.to h)) (fun q h => hFc q (Am.to h)) (fun v u t H1 locs1 ht hvm hp hB hz hk hS1 => ?_)
  have hP1 : va_P D cls9 (wmd dA y fb gb F2 G2) H1 := by rw [← ht]; exact hB
  obtain ⟨hP, hD⟩ := va_join (wc := wmd dA y fb gb F2 G2) (wr := wdk dA x r fa ga F G) (w1 := wmd dA y fb gb F2 G2) hP hD [4, 5, 6] [0, 1, 2, 3] rfl rfl (by decide) (by decide) (fun q h1 h2 => hk q h1 (fun z => h2 (Am.to z))) hFc hP1 (wmd_D (hDc.self (sz := H.size)))
  exact kk v H1 locs1 hp ⟨hP, hD, hS1⟩
end SSL
/-- one sorted rearrangement: the same rows -/
theorem ky_all {F G F2 G2 : Nat → Int32} (h : ∀ z, ky F G z = ky F2 G2 z) : F = F2 ∧ G = G2 := by
  have k : ∀ n : Nat, F n = F2 n ∧ G n = G2 n := fun n => ky_inj (z := (n : Int)) (by omega) (h _)
  exact ⟨funext fun n => (k n).1, funext fun n => (k n).2⟩
theorem ss_same {F G F2 G2 F3 G3 : Nat → Int32} (p0 p1 : Int32) (h1 : ss_Pm (pz p0 49) (pz p0 49 + pz p1 (49 - pz p0 49)) (ky F G) (ky F2 G2) ∧ ss_Srt (pz p0 49) (pz p0 49 + pz p1 (49 - pz p0 49)) (ky F2 G2)) (h2 : ss_Pm (pz p0 49) (pz p0 49 + pz p1 (49 - pz p0 49)) (ky F G) (ky F3 G3) ∧ ss_Srt (pz p0 49) (pz p0 49 + pz p1 (49 - pz p0 49)) (ky F3 G3)) : F3 = F2 ∧ G3 = G2 := by
  have hz := pz_rng p0 (d := 49) (by omega)
  have hz2 := pz_rng p1 (d := 49 - pz p0 49) (by omega)
  exact ky_all (ss_uniqP hz.1 (by omega) h2.2 h1.2 h2.1 h1.1)
set_option maxHeartbeats 4000000 in
set_option maxRecDepth 100000 in
/-- the law's loop at its head: desk and model hold the same rows -/
theorem law_loop {p : Program} {l : Launch} {e : Env} {s : State} {m : MethodId} {below : List Frame} {meth : Method} {c : Code} {D : va_G} {dA : ClassId} {x r fa ga y fb gb b L : Nat} {xs : Nat → Int32} (hL : L ≤ 288) (C : Cx p m c s #[Value.ref b] code 4 R_law D dA) (hX : va_X b L xs s s.heap) (hbl : b < s.heap.size) (hr : meth.sig.returnType = ret) (hlocks : meth.locks = false) :
    ∀ (n : Nat) (i : Int) (F G : Nat → Int32) (H : Heap) (locs : List Loc) (ls : Array Slot), (L : Int) - i < (n : Int) → i ≤ (L : Int) → 0 ≤ i → Wlw D dA x r fa ga y fb gb s F G F G H locs → lv_has ls 4 [(0, .ref b), (1, .ref x), (2, .ref y), (3, .int (zI i))] → W p l e room_1 s m #[Value.ref b] below meth c H locs 7 198 (lw_Z below #[Value.ref b] s) (F0 m 18 ls []) := by
  have hx := C.ex
  have hb := C.by_
  have hts := C.ts
  have hf : 7 ≤ room_1.cells ∧ 198 ≤ room_1.slots := ⟨Nat.le_of_ble_eq_true rfl, Nat.le_of_ble_eq_true rfl⟩
  intro n
  induction n with
  | zero =>
    intro i F G H locs ls h1 h2
    exact absurd h1 (by omega)
  | succ n ih =>
    intro i F G H locs ls h1 h2 h3 hw hl
    refine lv_iload_n hx hb dL_law_18 rfl (lv_at hl 3 rfl) ?_
    refine lv_aload_n hx hb dL_law_19 rfl (lv_at hl 0 rfl) ?_
    refine zv_slen hx hb hX hbl hw.2.2 dL_law_20 ?_
    refine lv_bipush (v := zI (6)) hx hb dL_law_21 (by decide) ?_
    refine zv_isub hx hb dL_law_23 ?_
    refine zv_icmp_gt (tgt := 268) hx hb dL_law_24 (by decide) (by omega) (by omega) (fun c1 => ?_) (fun c1 => ?_)
    · refine lv_iconst (v := 1) hx hb dL_law_268 rfl ?_
      refine va_forget (fun q hq => hw.2.2.2.2 q hq) ?_
      refine W.widen (k := 1200000) (n := 5502250) (Nat.le_of_ble_eq_true rfl) (Nat.le_of_ble_eq_true rfl) ?_
      exact lw_ret hx hb hr hlocks dL_law_269
    · have fin : ∀ (F G : Nat → Int32) (H : Heap) (locs : List Loc) (ls : Array Slot), Wlw D dA x r fa ga y fb gb s F G F G H locs → lv_has ls 4 [(0, .ref b), (1, .ref x), (2, .ref y), (3, .int (zI i))] → W p l e room_1 s m #[Value.ref b] below meth c H locs 7 198 (lw_Z below #[Value.ref b] s) (F0 m 262 ls []) := by
        intro F G H locs ls hw hl
        refine zv_iinc (b := i + 6) (lv' := [(3, .int (zI (i + 6))), (0, .ref b), (1, .ref x), (2, .ref y)]) hx hb dL_law_262 hl (k := 3) rfl (by omega) (by decide) rfl (fun ls hl => ?_)
        refine lv_goto (tgt := 18) hx hb dL_law_265 (by decide) ?_
        exact ih (i + 6) F G H locs ls (by omega) (by omega) (by omega) hw (lv_sub hl [1, 2, 3, 0] rfl)
      refine lv_aload_n hx hb dL_law_27 rfl (lv_at hl 0 rfl) ?_
      refine lv_iload_n hx hb dL_law_28 rfl (lv_at hl 3 rfl) ?_
      refine zv_sld hx hb hX hbl hL hw.2.2 (by omega) dL_law_29 ?_
      refine lv_bipush (v := zI (7)) hx hb dL_law_30 (by decide) ?_
      refine lv_iand hx hb dL_law_32 ?_
      obtain ⟨j, hj, ej⟩ := pk_andE (xs i.toNat) (m := zI 7) 3 (by decide)
      rw [ej]
      rcases (show j = 0 ∨ j = 1 ∨ j = 2 ∨ j = 3 ∨ j = 4 ∨ j = 5 ∨ j = 6 ∨ j = 7 by omega) with rfl | rfl | rfl | rfl | rfl | rfl | rfl | rfl
      · refine lv_tableIn (off := 39) (tgt := 72) hx hb dL_law_33 (by decide) (by decide) (by decide) (by decide) ?_
        refine lv_aload_n hx hb dL_law_72 rfl (lv_at hl 1 rfl) ?_
        refine lv_aload_n hx hb dL_law_73 rfl (lv_at hl 0 rfl) ?_
        refine lv_iload_n hx hb dL_law_74 rfl (lv_at hl 3 rfl) ?_
        refine lv_iconst (v := zI (1)) hx hb dL_law_75 rfl ?_
        refine zv_iadd hx hb dL_law_76 ?_
        refine zv_sld hx hb hX hbl hL hw.2.2 (by omega) dL_law_77 ?_
        refine lv_aload_n hx hb dL_law_78 rfl (lv_at hl 0 rfl) ?_
        refine lv_iload_n hx hb dL_law_79 rfl (lv_at hl 3 rfl) ?_
        refine lv_iconst (v := zI (2)) hx hb dL_law_80 rfl ?_
        refine zv_iadd hx hb dL_law_81 ?_
        refine zv_sld hx hb hX hbl hL hw.2.2 (by omega) dL_law_82 ?_
        refine lv_aload_n hx hb dL_law_83 rfl (lv_at hl 0 rfl) ?_
        refine lv_iload_n hx hb dL_law_84 rfl (lv_at hl 3 rfl) ?_
        refine lv_iconst (v := zI (3)) hx hb dL_law_85 rfl ?_
        refine zv_iadd hx hb dL_law_86 ?_
        refine zv_sld hx hb hX hbl hL hw.2.2 (by omega) dL_law_87 ?_
        refine lw_dV C hw (m_dset l D dA x r fa ga F G (xs (i + 1).toNat) (xs (i + 2).toNat) (xs (i + 3).toNat)) (As := [.int (xs (i + 1).toNat), .int (xs (i + 2).toNat), .int (xs (i + 3).toNat)]) (rest := []) (cwV 3 hts (lw_V q41 q42 q43 q5 q44) rfl rfl rfl (by decide +kernel) ⟨Nat.le_of_ble_eq_true rfl, Nat.le_of_ble_eq_true rfl⟩) rfl hl.1 (Nat.le_of_ble_eq_true rfl) hf dL_law_88 (fun F1 G1 H locs hp1 hw => ?_)
        refine lv_aload_n hx hb dL_law_91 rfl (lv_at hl 2 rfl) ?_
        refine lv_aload_n hx hb dL_law_92 rfl (lv_at hl 0 rfl) ?_
        refine lv_iload_n hx hb dL_law_93 rfl (lv_at hl 3 rfl) ?_
        refine lv_iconst (v := zI (1)) hx hb dL_law_94 rfl ?_
        refine zv_iadd hx hb dL_law_95 ?_
        refine zv_sld hx hb hX hbl hL hw.2.2 (by omega) dL_law_96 ?_
        refine lv_aload_n hx hb dL_law_97 rfl (lv_at hl 0 rfl) ?_
        refine lv_iload_n hx hb dL_law_98 rfl (lv_at hl 3 rfl) ?_
        refine lv_iconst (v := zI (2)) hx hb dL_law_99 rfl ?_
        refine zv_iadd hx hb dL_law_100 ?_
        refine zv_sld hx hb hX hbl hL hw.2.2 (by omega) dL_law_101 ?_
        refine lv_aload_n hx hb dL_law_102 rfl (lv_at hl 0 rfl) ?_
        refine lv_iload_n hx hb dL_law_103 rfl (lv_at hl 3 rfl) ?_
        refine lv_iconst (v := zI (3)) hx hb dL_law_104 rfl ?_
        refine zv_iadd hx hb dL_law_105 ?_
        refine zv_sld hx hb hX hbl hL hw.2.2 (by omega) dL_law_106 ?_
        refine lw_mV C hw (m_mset l D dA y fb gb F G (xs (i + 1).toNat) (xs (i + 2).toNat) (xs (i + 3).toNat)) (As := [.int (xs (i + 1).toNat), .int (xs (i + 2).toNat), .int (xs (i + 3).toNat)]) (rest := []) (cwV 3 hts (lw_V q133 q134 q135 q7 q136) rfl rfl rfl (by decide +kernel) ⟨Nat.le_of_ble_eq_true rfl, Nat.le_of_ble_eq_true rfl⟩) rfl hl.1 (Nat.le_of_ble_eq_true rfl) hf dL_law_107 (fun F2 G2 H locs hp2 hw => ?_)
        obtain ⟨e1, e2⟩ := hp1
        obtain ⟨e3, e4⟩ := hp2
        subst e1
        subst e2
        subst e3
        subst e4
        refine lv_goto (tgt := 262) hx hb dL_law_110 (by decide) ?_
        exact fin _ _ H locs ls hw (lv_sub hl [0, 1, 2, 3] rfl)
      · refine lv_tableIn (off := 80) (tgt := 113) hx hb dL_law_33 (by decide) (by decide) (by decide) (by decide) ?_
        refine lv_aload_n hx hb dL_law_113 rfl (lv_at hl 1 rfl) ?_
        refine lv_aload_n hx hb dL_law_114 rfl (lv_at hl 0 rfl) ?_
        refine lv_iload_n hx hb dL_law_115 rfl (lv_at hl 3 rfl) ?_
        refine lv_iconst (v := zI (1)) hx hb dL_law_116 rfl ?_
        refine zv_iadd hx hb dL_law_117 ?_
        refine zv_sld hx hb hX hbl hL hw.2.2 (by omega) dL_law_118 ?_
        refine lv_aload_n hx hb dL_law_119 rfl (lv_at hl 0 rfl) ?_
        refine lv_iload_n hx hb dL_law_120 rfl (lv_at hl 3 rfl) ?_
        refine lv_iconst (v := zI (2)) hx hb dL_law_121 rfl ?_
        refine zv_iadd hx hb dL_law_122 ?_
        refine zv_sld hx hb hX hbl hL hw.2.2 (by omega) dL_law_123 ?_
        refine lv_aload_n hx hb dL_law_124 rfl (lv_at hl 0 rfl) ?_
        refine lv_iload_n hx hb dL_law_125 rfl (lv_at hl 3 rfl) ?_
        refine lv_iconst (v := zI (3)) hx hb dL_law_126 rfl ?_
        refine zv_iadd hx hb dL_law_127 ?_
        refine zv_sld hx hb hX hbl hL hw.2.2 (by omega) dL_law_128 ?_
        refine lw_dV C hw (m_dfew l D dA x r fa ga F G (xs (i + 1).toNat) (xs (i + 2).toNat) (xs (i + 3).toNat)) (As := [.int (xs (i + 1).toNat), .int (xs (i + 2).toNat), .int (xs (i + 3).toNat)]) (rest := []) (cwV 3 hts (lw_V q46 q47 q48 q5 q49) rfl rfl rfl (by decide +kernel) ⟨Nat.le_of_ble_eq_true rfl, Nat.le_of_ble_eq_true rfl⟩) rfl hl.1 (Nat.le_of_ble_eq_true rfl) hf dL_law_129 (fun F1 G1 H locs hp1 hw => ?_)
        refine lv_aload_n hx hb dL_law_132 rfl (lv_at hl 2 rfl) ?_
        refine lv_aload_n hx hb dL_law_133 rfl (lv_at hl 0 rfl) ?_
        refine lv_iload_n hx hb dL_law_134 rfl (lv_at hl 3 rfl) ?_
        refine lv_iconst (v := zI (1)) hx hb dL_law_135 rfl ?_
        refine zv_iadd hx hb dL_law_136 ?_
        refine zv_sld hx hb hX hbl hL hw.2.2 (by omega) dL_law_137 ?_
        refine lv_aload_n hx hb dL_law_138 rfl (lv_at hl 0 rfl) ?_
        refine lv_iload_n hx hb dL_law_139 rfl (lv_at hl 3 rfl) ?_
        refine lv_iconst (v := zI (2)) hx hb dL_law_140 rfl ?_
        refine zv_iadd hx hb dL_law_141 ?_
        refine zv_sld hx hb hX hbl hL hw.2.2 (by omega) dL_law_142 ?_
        refine lv_aload_n hx hb dL_law_143 rfl (lv_at hl 0 rfl) ?_
        refine lv_iload_n hx hb dL_law_144 rfl (lv_at hl 3 rfl) ?_
        refine lv_iconst (v := zI (3)) hx hb dL_law_145 rfl ?_
        refine zv_iadd hx hb dL_law_146 ?_
        refine zv_sld hx hb hX hbl hL hw.2.2 (by omega) dL_law_147 ?_
        refine lw_mV C hw (m_mfew l D dA y fb gb F G (xs (i + 1).toNat) (xs (i + 2).toNat) (xs (i + 3).toNat)) (As := [.int (xs (i + 1).toNat), .int (xs (i + 2).toNat), .int (xs (i + 3).toNat)]) (rest := []) (cwV 3 hts (lw_V q141 q142 q143 q7 q144) rfl rfl rfl (by decide +kernel) ⟨Nat.le_of_ble_eq_true rfl, Nat.le_of_ble_eq_true rfl⟩) rfl hl.1 (Nat.le_of_ble_eq_true rfl) hf dL_law_148 (fun F2 G2 H locs hp2 hw => ?_)
        obtain ⟨e1, e2⟩ := hp1
        obtain ⟨e3, e4⟩ := hp2
        subst e1
        subst e2
        subst e3
        subst e4
        refine lv_goto (tgt := 262) hx hb dL_law_151 (by decide) ?_
        exact fin _ _ H locs ls hw (lv_sub hl [0, 1, 2, 3] rfl)
      · refine lv_tableIn (off := 121) (tgt := 154) hx hb dL_law_33 (by decide) (by decide) (by decide) (by decide) ?_
        refine lv_aload_n hx hb dL_law_154 rfl (lv_at hl 1 rfl) ?_
        refine lv_aload_n hx hb dL_law_155 rfl (lv_at hl 0 rfl) ?_
        refine lv_iload_n hx hb dL_law_156 rfl (lv_at hl 3 rfl) ?_
        refine lv_iconst (v := zI (1)) hx hb dL_law_157 rfl ?_
        refine zv_iadd hx hb dL_law_158 ?_
        refine zv_sld hx hb hX hbl hL hw.2.2 (by omega) dL_law_159 ?_
        refine lw_dI C hw (m_dfirst l D dA x r fa ga F G (xs (i + 1).toNat)) (As := [.int (xs (i + 1).toNat)]) (rest := []) (cwV 1 hts (lw_V q50 q51 q52 q5 q53) rfl rfl rfl (by decide +kernel) ⟨Nat.le_of_ble_eq_true rfl, Nat.le_of_ble_eq_true rfl⟩) rfl hl.1 (Nat.le_of_ble_eq_true rfl) hf dL_law_160 (fun v1 H locs hv1 hw => ?_)
        refine lv_aload_n hx hb dL_law_163 rfl (lv_at hl 2 rfl) ?_
        refine lv_aload_n hx hb dL_law_164 rfl (lv_at hl 0 rfl) ?_
        refine lv_iload_n hx hb dL_law_165 rfl (lv_at hl 3 rfl) ?_
        refine lv_iconst (v := zI (1)) hx hb dL_law_166 rfl ?_
        refine zv_iadd hx hb dL_law_167 ?_
        refine zv_sld hx hb hX hbl hL hw.2.2 (by omega) dL_law_168 ?_
        refine lw_mI C hw (m_mfirst l D dA y fb gb F G (xs (i + 1).toNat)) (As := [.int (xs (i + 1).toNat)]) (rest := [.int v1]) (cwV 1 hts (lw_V q146 q147 q148 q7 q149) rfl rfl rfl (by decide +kernel) ⟨Nat.le_of_ble_eq_true rfl, Nat.le_of_ble_eq_true rfl⟩) rfl hl.1 (Nat.le_of_ble_eq_true rfl) hf dL_law_169 (fun v2 H locs hv2 hw => ?_)
        refine lv_icmp_eq (tgt := 262) hx hb dL_law_172 (by decide) (fun c2 => ?_) (fun c2 => ?_)
        · exact fin F G H locs ls hw (lv_sub hl [0, 1, 2, 3] rfl)
        · exact absurd (hv1.trans hv2.symm) c2
      · refine lv_tableIn (off := 144) (tgt := 177) hx hb dL_law_33 (by decide) (by decide) (by decide) (by decide) ?_
        refine lv_aload_n hx hb dL_law_177 rfl (lv_at hl 1 rfl) ?_
        refine lv_aload_n hx hb dL_law_178 rfl (lv_at hl 0 rfl) ?_
        refine lv_iload_n hx hb dL_law_179 rfl (lv_at hl 3 rfl) ?_
        refine lv_iconst (v := zI (1)) hx hb dL_law_180 rfl ?_
        refine zv_iadd hx hb dL_law_181 ?_
        refine zv_sld hx hb hX hbl hL hw.2.2 (by omega) dL_law_182 ?_
        refine lw_dI C hw (m_dsecond l D dA x r fa ga F G (xs (i + 1).toNat)) (As := [.int (xs (i + 1).toNat)]) (rest := []) (cwV 1 hts (lw_V q54 q55 q56 q5 q57) rfl rfl rfl (by decide +kernel) ⟨Nat.le_of_ble_eq_true rfl, Nat.le_of_ble_eq_true rfl⟩) rfl hl.1 (Nat.le_of_ble_eq_true rfl) hf dL_law_183 (fun v1 H locs hv1 hw => ?_)
        refine lv_aload_n hx hb dL_law_186 rfl (lv_at hl 2 rfl) ?_
        refine lv_aload_n hx hb dL_law_187 rfl (lv_at hl 0 rfl) ?_
        refine lv_iload_n hx hb dL_law_188 rfl (lv_at hl 3 rfl) ?_
        refine lv_iconst (v := zI (1)) hx hb dL_law_189 rfl ?_
        refine zv_iadd hx hb dL_law_190 ?_
        refine zv_sld hx hb hX hbl hL hw.2.2 (by omega) dL_law_191 ?_
        refine lw_mI C hw (m_msecond l D dA y fb gb F G (xs (i + 1).toNat)) (As := [.int (xs (i + 1).toNat)]) (rest := [.int v1]) (cwV 1 hts (lw_V q150 q151 q152 q7 q153) rfl rfl rfl (by decide +kernel) ⟨Nat.le_of_ble_eq_true rfl, Nat.le_of_ble_eq_true rfl⟩) rfl hl.1 (Nat.le_of_ble_eq_true rfl) hf dL_law_192 (fun v2 H locs hv2 hw => ?_)
        refine lv_icmp_eq (tgt := 262) hx hb dL_law_195 (by decide) (fun c2 => ?_) (fun c2 => ?_)
        · exact fin F G H locs ls hw (lv_sub hl [0, 1, 2, 3] rfl)
        · exact absurd (hv1.trans hv2.symm) c2
      · refine lv_tableIn (off := 167) (tgt := 200) hx hb dL_law_33 (by decide) (by decide) (by decide) (by decide) ?_
        refine lv_aload_n hx hb dL_law_200 rfl (lv_at hl 1 rfl) ?_
        refine lv_aload_n hx hb dL_law_201 rfl (lv_at hl 0 rfl) ?_
        refine lv_iload_n hx hb dL_law_202 rfl (lv_at hl 3 rfl) ?_
        refine lv_iconst (v := zI (1)) hx hb dL_law_203 rfl ?_
        refine zv_iadd hx hb dL_law_204 ?_
        refine zv_sld hx hb hX hbl hL hw.2.2 (by omega) dL_law_205 ?_
        refine lv_aload_n hx hb dL_law_206 rfl (lv_at hl 0 rfl) ?_
        refine lv_iload_n hx hb dL_law_207 rfl (lv_at hl 3 rfl) ?_
        refine lv_iconst (v := zI (2)) hx hb dL_law_208 rfl ?_
        refine zv_iadd hx hb dL_law_209 ?_
        refine zv_sld hx hb hX hbl hL hw.2.2 (by omega) dL_law_210 ?_
        refine lw_dV C hw (m_dquick l D dA x r fa ga F G (xs (i + 1).toNat) (xs (i + 2).toNat)) (As := [.int (xs (i + 1).toNat), .int (xs (i + 2).toNat)]) (rest := []) (cwV 2 hts (lw_V q58 q59 q60 q5 q61) rfl rfl rfl (by decide +kernel) ⟨Nat.le_of_ble_eq_true rfl, Nat.le_of_ble_eq_true rfl⟩) rfl hl.1 (Nat.le_of_ble_eq_true rfl) hf dL_law_211 (fun F1 G1 H locs hp1 hw => ?_)
        refine lv_aload_n hx hb dL_law_214 rfl (lv_at hl 2 rfl) ?_
        refine lv_aload_n hx hb dL_law_215 rfl (lv_at hl 0 rfl) ?_
        refine lv_iload_n hx hb dL_law_216 rfl (lv_at hl 3 rfl) ?_
        refine lv_iconst (v := zI (1)) hx hb dL_law_217 rfl ?_
        refine zv_iadd hx hb dL_law_218 ?_
        refine zv_sld hx hb hX hbl hL hw.2.2 (by omega) dL_law_219 ?_
        refine lv_aload_n hx hb dL_law_220 rfl (lv_at hl 0 rfl) ?_
        refine lv_iload_n hx hb dL_law_221 rfl (lv_at hl 3 rfl) ?_
        refine lv_iconst (v := zI (2)) hx hb dL_law_222 rfl ?_
        refine zv_iadd hx hb dL_law_223 ?_
        refine zv_sld hx hb hX hbl hL hw.2.2 (by omega) dL_law_224 ?_
        refine lw_mV C hw (m_mquick l D dA y fb gb F G (xs (i + 1).toNat) (xs (i + 2).toNat)) (As := [.int (xs (i + 1).toNat), .int (xs (i + 2).toNat)]) (rest := []) (cwV 2 hts (lw_V q154 q155 q156 q7 q157) rfl rfl rfl (by decide +kernel) ⟨Nat.le_of_ble_eq_true rfl, Nat.le_of_ble_eq_true rfl⟩) rfl hl.1 (Nat.le_of_ble_eq_true rfl) hf dL_law_225 (fun F2 G2 H locs hp2 hw => ?_)
        obtain ⟨e1, e2⟩ := ss_same (xs (i + 1).toNat) (xs (i + 2).toNat) hp1 hp2
        subst e1
        subst e2
        refine lv_goto (tgt := 262) hx hb dL_law_228 (by decide) ?_
        exact fin _ _ H locs ls hw (lv_sub hl [0, 1, 2, 3] rfl)
      · refine lv_tableIn (off := 198) (tgt := 231) hx hb dL_law_33 (by decide) (by decide) (by decide) (by decide) ?_
        refine lv_aload_n hx hb dL_law_231 rfl (lv_at hl 1 rfl) ?_
        refine lv_aload_n hx hb dL_law_232 rfl (lv_at hl 0 rfl) ?_
        refine lv_iload_n hx hb dL_law_233 rfl (lv_at hl 3 rfl) ?_
        refine lv_iconst (v := zI (1)) hx hb dL_law_234 rfl ?_
        refine zv_iadd hx hb dL_law_235 ?_
        refine zv_sld hx hb hX hbl hL hw.2.2 (by omega) dL_law_236 ?_
        refine lv_aload_n hx hb dL_law_237 rfl (lv_at hl 0 rfl) ?_
        refine lv_iload_n hx hb dL_law_238 rfl (lv_at hl 3 rfl) ?_
        refine lv_iconst (v := zI (2)) hx hb dL_law_239 rfl ?_
        refine zv_iadd hx hb dL_law_240 ?_
        refine zv_sld hx hb hX hbl hL hw.2.2 (by omega) dL_law_241 ?_
        refine lw_dV C hw (m_dmerge l D dA x r fa ga F G (xs (i + 1).toNat) (xs (i + 2).toNat)) (As := [.int (xs (i + 1).toNat), .int (xs (i + 2).toNat)]) (rest := []) (cwV 2 hts (lw_V q103 q104 q105 q5 q106) rfl rfl rfl (by decide +kernel) ⟨Nat.le_of_ble_eq_true rfl, Nat.le_of_ble_eq_true rfl⟩) rfl hl.1 (Nat.le_of_ble_eq_true rfl) hf dL_law_242 (fun F1 G1 H locs hp1 hw => ?_)
        refine lv_aload_n hx hb dL_law_245 rfl (lv_at hl 2 rfl) ?_
        refine lv_aload_n hx hb dL_law_246 rfl (lv_at hl 0 rfl) ?_
        refine lv_iload_n hx hb dL_law_247 rfl (lv_at hl 3 rfl) ?_
        refine lv_iconst (v := zI (1)) hx hb dL_law_248 rfl ?_
        refine zv_iadd hx hb dL_law_249 ?_
        refine zv_sld hx hb hX hbl hL hw.2.2 (by omega) dL_law_250 ?_
        refine lv_aload_n hx hb dL_law_251 rfl (lv_at hl 0 rfl) ?_
        refine lv_iload_n hx hb dL_law_252 rfl (lv_at hl 3 rfl) ?_
        refine lv_iconst (v := zI (2)) hx hb dL_law_253 rfl ?_
        refine zv_iadd hx hb dL_law_254 ?_
        refine zv_sld hx hb hX hbl hL hw.2.2 (by omega) dL_law_255 ?_
        refine lw_mV C hw (m_mmerge l D dA y fb gb F G (xs (i + 1).toNat) (xs (i + 2).toNat)) (As := [.int (xs (i + 1).toNat), .int (xs (i + 2).toNat)]) (rest := []) (cwV 2 hts (lw_V q166 q167 q168 q7 q169) rfl rfl rfl (by decide +kernel) ⟨Nat.le_of_ble_eq_true rfl, Nat.le_of_ble_eq_true rfl⟩) rfl hl.1 (Nat.le_of_ble_eq_true rfl) hf dL_law_256 (fun F2 G2 H locs hp2 hw => ?_)
        obtain ⟨e1, e2⟩ := ss_same (xs (i + 1).toNat) (xs (i + 2).toNat) hp1 hp2
        subst e1
        subst e2
        refine lv_goto (tgt := 262) hx hb dL_law_259 (by decide) ?_
        exact fin _ _ H locs ls hw (lv_sub hl [0, 1, 2, 3] rfl)
      · refine lv_tableOut (tgt := 262) hx hb dL_law_33 (by decide) (by decide) ?_
        exact fin F G H locs ls hw (lv_sub hl [0, 1, 2, 3] rfl)
      · refine lv_tableOut (tgt := 262) hx hb dL_law_33 (by decide) (by decide) ?_
        exact fin F G H locs ls hw (lv_sub hl [0, 1, 2, 3] rfl)
end
section
/-! THE LAW FROM ITS ENTRY; the claim -/
set_option maxHeartbeats 4000000 in
set_option maxRecDepth 100000 in
theorem whole_start {p : Program} {e : Env} {s : State} {m : MethodId} {below : List Frame} {meth : Method} {c : Code} (l : Launch) (hflags : l.flags = flags0) {b L : Nat} {xs : Nat → Int32} (hL : L ≤ 288) (C0 : lw_At p s m meth c b L xs) : W p l e room_1 s m #[Value.ref b] below meth c s.heap [] 0 0 (lw_Z below #[Value.ref b] s) (entryFrame m ([Value.ref b] : List Value).toArray 4) := by
  obtain ⟨hx, hb, hr, hml, hown, hts0, hX, hbl, hlocks, hgv⟩ := id C0
  have hts : ∀ w ∈ lw_all, w.before #[Value.ref b] s = true := fun w h => hts0 w (lw_all_tbl h)
  have hA : ∀ q : Nat, s.heap.size ≤ q → lA s q := fun _ h => h
  have hXw : Xw s := ⟨va_Fw.of (hts0 _ q76) (hts0 _ q75) (hts0 _ q81) (hts0 _ q79) (hts0 _ q77), va_Fw.of (hts0 _ q86) (hts0 _ q85) (hts0 _ q91) (hts0 _ q89) (hts0 _ q87), va_Nw.of rfl (hts0 _ q30), va_Nw.of rfl (hts0 _ q32), va_Nw.of rfl (hts0 _ q20)⟩
  obtain ⟨c0, iS0, hKn0⟩ := u_known (C := RX0) (T := TX0) (N := 3) (n := 3) hts in_X0 (hts _ q11)
  obtain ⟨c1, iS1, hKn1⟩ := u_known (C := RX1) (T := TX1) (N := 1) (n := 1) hts in_X1 (hts _ q19)
  obtain ⟨c2, iS2, hKn2⟩ := u_known (C := RX2) (T := TX2) (N := 2) (n := 2) hts in_X2 (hts _ q121)
  obtain ⟨dA, kA, comp, f1, f2, f3⟩ := Cond.arrayClass_spec (hts _ q28)
  obtain ⟨D, hKc⟩ : ∃ D : va_G, ∀ (k : Nat) (q : vw_C), cls9[k]? = some q → u_Kn s q.1 q.2.1 q.2.2 (D.1 k) (D.2 k) := by
    refine ⟨(fun k => if k = 0 then c0 else if k = 1 then c1 else c2, fun k => if k = 0 then iS0 else if k = 1 then iS1 else iS2), ?_⟩
    intro k q hq
    match k, hq with
    | 0, hq => cases hq; exact hKn0
    | 1, hq => cases hq; exact hKn1
    | 2, hq => cases hq; exact hKn2
    | k + 3, hq => simp [cls9] at hq
  have hK : va_K D cls9 [(dA, .int)] s := by
    refine ⟨hKc, fun k q hq => ?_⟩
    match k, hq with
    | 0, hq => cases hq; exact ⟨fun n z => ⟨fun k h => (by cases h), kA, f2, comp, f3⟩, f1⟩
    | k + 1, hq => simp at hq
  have C : Cx p m c s #[Value.ref b] code 4 R_law D dA := ⟨⟨hx, hb, hml, hown, hts⟩, hK, hXw⟩
  have hS : va_S (lA s) s.heap s.heap [] := va_S.rf
  have hP : va_P D cls9 [] s.heap := fun k q h => by simp at h
  have hD : va_D (lA s) [] := ⟨fun i j p q h => by simp at h, fun k q h => by simp at h⟩
  refine ss_start (lv := [(0, .ref b)]) (Nat.le_of_ble_eq_true rfl) rfl (fun ls hl => ?_)
  refine va_new (ci := 0) (fs := [.null, .null, .null]) (C := RX0) (T := TX0) (N := 3) hx hb hts in_X0 tyX0 tyX0_ok hown (hts _ q10) (hts _ q11) (hts _ q5) hK hP hD hS hA rfl (fun j hj => by rcases (show j = 0 ∨ j = 1 ∨ j = 2 by omega) with rfl | rfl | rfl <;> rfl) (Nat.le_of_ble_eq_true rfl) (Nat.le_of_ble_eq_true rfl) dL_law_0 (fun x H hP hD hS => ?_)
  have hP : va_P D cls9 [(x, .inr (0, [.null, .null, .null]))] H := hP
  have hD : va_D (lA s) [(x, .inr (0, [.null, .null, .null]))] := hD
  refine lv_dup hx hb dL_law_3 rfl ?_
  have hFc := va_free (wc := [(x, .inr (0, [.null, .null, .null]))]) hD hS hA [0] rfl
  refine va_callv (va_runI (As := []) (rest := [.ref x]) C.1 (m_dinit l D dA x H.size) (cwI 0 hts (lw_meth q14) rfl rfl rfl (hts _ q5) (hts _ q12) (hts _ q13) rfl (by decide +kernel) ⟨Nat.le_of_ble_eq_true rfl, Nat.le_of_ble_eq_true rfl⟩) ⟨fun a U g mk q => by obtain ⟨q0, q1, qP, qK, qD, qX⟩ := q; exact ⟨q0, q1, qP, va_K.moved (u := U) (U := U.calling g mk a) (Vm.Alike.refl U.vm) qK, qD, Xw.same rfl qX⟩, fun U hU hW => ⟨rfl, by rw [hU], by rw [hU]; exact hP, va_K.moved hW.alike hK, hD.weaken (fun _ _ _ _ => trivial), hXw.warm hW⟩⟩ rfl rfl hl.1 rfl (lv_room (Nat.le_of_ble_eq_true rfl)) dL_law_4 ⟨Nat.le_of_ble_eq_true rfl, Nat.le_of_ble_eq_true rfl⟩) hS (fun q _ h => hFc q h) hFc (fun u t H1 locs ht hvm hw hB hz1 hk1 hS => ?_)
  obtain ⟨r, fa, ga⟩ := u
  obtain ⟨hP1, hD1⟩ := hB
  rw [ht] at hP1
  have hP : va_P D cls9 (wdk dA x r fa ga (fun _ => 0) (fun _ => 0)) H1 := hP1
  have hD : va_D (lA s) (wdk dA x r fa ga (fun _ => 0) (fun _ => 0)) := hD1.weaken (fun _ q _ h => hFc q.1 h)
  generalize H1 = H at hP hS ⊢
  refine lv_astore_n (lv' := [(1, .ref x), (0, .ref b)]) hx hb dL_law_7 rfl hl (by decide) rfl (fun ls hl => ?_)
  refine va_new (ci := 2) (fs := [.null, .null]) (C := RX2) (T := TX2) (N := 2) hx hb hts in_X2 tyX2 tyX2_ok hown (hts _ q120) (hts _ q121) (hts _ q7) hK hP hD hS hA rfl (fun j hj => by rcases (show j = 0 ∨ j = 1 by omega) with rfl | rfl <;> rfl) (Nat.le_of_ble_eq_true rfl) (Nat.le_of_ble_eq_true rfl) dL_law_8 (fun y H hP hD hS => ?_)
  refine lv_dup hx hb dL_law_11 rfl ?_
  have hPc := hP.sub (ws' := [(y, .inr (2, [.null, .null]))]) [4] rfl
  have hDc := hD.sub (ws' := [(y, .inr (2, [.null, .null]))]) [4] (by decide) rfl
  have hFc := va_free (wc := [(y, .inr (2, [.null, .null]))]) hD hS hA [4] rfl
  refine va_callv (va_runI (As := []) (rest := [.ref y]) C.1 (m_minit l D dA y H.size) (cwI 0 hts (lw_meth q124) rfl rfl rfl (hts _ q7) (hts _ q122) (hts _ q123) rfl (by decide +kernel) ⟨Nat.le_of_ble_eq_true rfl, Nat.le_of_ble_eq_true rfl⟩) ⟨fun a U g mk q => by obtain ⟨q0, q1, qP, qK, qD, qX⟩ := q; exact ⟨q0, q1, qP, va_K.moved (u := U) (U := U.calling g mk a) (Vm.Alike.refl U.vm) qK, qD, Xw.same rfl qX⟩, fun U hU hW => ⟨rfl, by rw [hU], by rw [hU]; exact hPc, va_K.moved hW.alike hK, hDc.weaken (fun _ _ _ _ => trivial), hXw.warm hW⟩⟩ rfl rfl hl.1 rfl (lv_room (Nat.le_of_ble_eq_true rfl)) dL_law_12 ⟨Nat.le_of_ble_eq_true rfl, Nat.le_of_ble_eq_true rfl⟩) hS (fun q _ h => hFc q h) hFc (fun u t H1 locs ht hvm hw hB hz1 hk1 hS => ?_)
  obtain ⟨fb, gb, u9⟩ := u
  obtain ⟨hP1, hD1⟩ := hB
  rw [ht] at hP1
  obtain ⟨hP, hD⟩ := va_join (wr := wdk dA x r fa ga (fun _ => 0) (fun _ => 0)) (w1 := wmd dA y fb gb (fun _ => 0) (fun _ => 0)) hP hD [4] [0, 1, 2, 3] rfl rfl (by decide) (by decide) hk1 hFc hP1 hD1
  generalize H1 = H at hP hS ⊢
  refine W.widen (k := 7) (n := 198) (Nat.le_of_ble_eq_true rfl) (Nat.le_of_ble_eq_true rfl) ?_
  refine lv_astore_n (lv' := [(2, .ref y), (1, .ref x), (0, .ref b)]) hx hb dL_law_15 rfl hl (by decide) rfl (fun ls hl => ?_)
  refine lv_iconst (v := zI 0) hx hb dL_law_16 rfl ?_
  refine lv_istore_n (lv' := [(3, .int (zI 0)), (2, .ref y), (1, .ref x), (0, .ref b)]) hx hb dL_law_17 rfl hl (by decide) rfl (fun ls hl => ?_)
  exact law_loop hL C hX hbl hr hlocks (L + 1) 0 (fun _ => 0) (fun _ => 0) _ _ ls (by omega) (by omega) (Int.le_refl 0) ⟨hP, hD, hS⟩ (lv_sub hl [3, 2, 1, 0] rfl)
set_option maxHeartbeats 4000000 in
theorem lw_walk (l : Launch) (hflags : l.flags = flags0) (b : Addr) (xs : List Int32) : MetFree l x (headSpec (Jvm.Cond.code x code maxLocals ret :: tables_1) room_1) (lw_P b xs) (fun _ _ _ _ _ => True) lw_Q := by
  refine MetFree.of_bodyS (code := code) (maxLocals := maxLocals) (ret := ret) (by decide) ?_ ?_
  · intro args s m h hn
    obtain ⟨meth, c, h1, h2, h3, h4, h5, h6, -, -⟩ := Cond.code_spec hn (atoms_spec (ws := Jvm.Cond.code x code maxLocals ret :: tables_1) h _ List.mem_cons_self)
    exact ⟨meth, c, h1, h2, h3, h4, h5, h6⟩
  · intro p e s m args below meth c s₁ B hml0 hP _
    obtain ⟨rfl, hx, hbd, hgv⟩ := hP
    obtain ⟨scr, harrAt, hlist, hof, hsmall⟩ := hx
    obtain ⟨hcb, hkn, -, -⟩ := State.arrayAt?_spec harrAt
    have hown : s.vm.findClass R_law = some m.cls := findClass_of_methodNamed B.named
    have hts0 : ∀ c ∈ (Jvm.Cond.code x code maxLocals ret :: tables_1), c.before #[Value.ref b] s = true := atoms_spec (ws := Jvm.Cond.code x code maxLocals ret :: tables_1) B.pre
    have hts : ∀ w ∈ lw_tbl, w.before #[Value.ref b] s = true := k2_hts_sels lw_privs (fun w hw => hts0 w (List.mem_cons_of_mem _ hw)) lw_privs_ok
    have hml : c.maxLocals = 4 := B.maxLocals_eq (hts0 _ List.mem_cons_self)
    have X₀ : Stand p l e room_1 s m #[Value.ref b] below meth c s₁ [] 0 0 := Stand.of_body B
    have hh0 : s₁.heap = s.heap := by rw [B.state]; rfl
    have hsz : scr.slots.size = xs.length := by rw [← Array.length_toList, hlist, List.length_map]
    have hval : ∀ j : Nat, j < xs.length → scr.slots[j]? = some (.int (xs.getD j 0)) := fun j hj => by
      rw [← Array.getElem?_toList, hlist]
      simp [hj]
    have hbl : b < s.heap.size := (Array.getElem?_eq_some_iff.mp hcb).1
    have hX : va_X b xs.length (fun j => xs.getD j 0) s s.heap := ⟨scr, hcb, hof, hkn, hsz, hval⟩
    have K : W p l e room_1 s m #[Value.ref b] below meth c s₁.heap [] 0 0 (lw_Z below #[Value.ref b] s) (entryFrame m ([Value.ref b] : List Value).toArray 4) := by
      rw [hh0]
      exact whole_start l hflags hbd ⟨B.exec, B.bytes, B.returns, hml, hown, hts, hX, hbl, B.notSynchronized, hgv⟩
    obtain ⟨t, a1, o, b1, b2, b3⟩ := K s₁ rfl X₀
    exact ⟨t, o, a1, b1, b2, b3⟩
theorem lw_pre_spec {args : Array Value} {s : State} (h : (Jvm.Cond.and given_1 narrow_1).before args s = true) (hr : rest_1_c.before args s = true) : ∃ (b : Addr) (xs : List Int32), lw_P b xs args s := by
  have hs := flat_of_before _ h
  have hq := flat_of_before _ hr
  have hc : (Cond.count 1).before args s = true := hs _ (by decide +kernel)
  have harr : (Cond.arrayOf (.arg 0) .int).before args s = true := hs _ (by decide +kernel)
  have hle : (Cond.le (.length (.arg 0)) (.int 288)).before args s = true := hs _ (by decide +kernel)
  have hlen : (Cond.isInt (.length (.arg 0))).before args s = true := hq _ (by decide +kernel)
  have hall : (Cond.all (.arg 0) (.isInt (.elem (.arg 0) (.index 0)))).before args s = true := hq _ (by decide +kernel)
  obtain ⟨b, xs, hb, hx⟩ := State.ints_of_pre rfl harr hlen hall
  have hsm : xs.length < 2 ^ 31 := hx.choose_spec.2.2.2
  have hev : (Term.length (.arg 0)).eval args s none [] s = some (.int xs.length.toInt32) := hx.length_eval hb
  have hv := Cond.le_ints hev (show (Term.int 288).eval args s none [] s = some (.int 288) from rfl)
  have hd : xs.length.toInt32 ≤ 288 := by
    simpa [Cond.before, Cond.holds, hv] using hle
  have hN : xs.length ≤ 288 := (Int32.ofNat_le_ofNat hsm (by decide)).mp (show Int32.ofNat xs.length ≤ Int32.ofNat 288 from hd)
  exact ⟨b, xs, Cond.one_arg hc (show args[0]? = some (.ref b) from hb), hx, hN, h⟩
theorem lw_comes (l : Launch) (hflags : l.flags = flags0) : Comes l x (Jvm.Cond.code x code maxLocals ret :: tables_1) room_1 (fun tb e args s => Calls_1 tb e args s ∧ rest_1 tb e args s ∧ Pre_1 tb e args s)
    (fun _ _ args s o t => lw_Q args s o t) := by
  intro p e ha hc hk s m args below hf hfit hheap happ hpre
  obtain ⟨b, xs, hP⟩ := lw_pre_spec hpre.2.2 hpre.2.1
  obtain ⟨k, o, h1, h2, h3, hQ⟩ := lw_walk l hflags b xs p e ha hc hk s m args below hf ((Spec.applies_iff_loose hf).mp happ).1 hP trivial
  exact ⟨k, o, h1, h2, h3, hQ⟩
theorem lw_frame {s t : State} {o : Outcome} {args : Array Value} (h : Framed s o t [] 1200000 5502250) :
    Framed s o t (fieldLocs frame_1_writes args s ++ arrayLocs frame_1_arrays args s ++ staticLocs frame_1_statics s) 1200000 5502250 := h
theorem lw_limb (L : Cond) (hL : ∀ (args : Array Value) (s t : State), L.after args s (.returned (some (.int 1))) t = true) :
    ArmFor flags0 classFile x code maxLocals ret World_1 tables_1 room_1 Calls_1 rest_1 Pre_1
      (fun tb e a s o t => postC L tb e a s o t ∧ Framed s o t (fieldLocs frame_1_writes a s ++ arrayLocs frame_1_arrays a s ++ staticLocs frame_1_statics s) 1200000 5502250) := by
  intro l hflags _ _ p e ha hc hk s m args below hf hfit hheap happ hpre
  obtain ⟨k, o, h1, h2, h3, rfl, hF⟩ := lw_comes l hflags p e ha hc hk s m args below hf hfit hheap happ hpre
  exact ⟨k, _, h1, h2, h3, hL args s _, lw_frame hF⟩
theorem i_vc : Claimed_1_1 ∧ Claimed_1_2 := ⟨lw_limb limb_1_1 (fun args s t => by simp [limb_1_1, Cond.after, Cond.holds, Cond.value]), lw_limb limb_1_2 (fun args s t => Cond.after_iff.mpr (by
  first | (rw [show limb_1_2 = Cond.eq .result (.int 1) from rfl, Cond.eq_ints (x := 1) (y := 1) rfl rfl]; simp; done) | (simp [limb_1_2, Cond.value, Term.eval]; done)))⟩
end
