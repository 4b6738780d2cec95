section
-- ===== PART A: goes FIRST, ahead of the names: the tables' words, and 'selects' of the private methods out of them =====
/-- a private method of a class that the tables say can be made, by its rows of tables_1 -/
def lw_okq (q : MethodName × Nat) : Prop := (q.1.cls ≠ "java/lang/invoke/MethodHandle" ∧ q.1.cls ≠ "java/lang/invoke/VarHandle") ∧ Cond.instantiable q.1.cls q.2 ∈ tables_1 ∧ Cond.privateMethod q.1 ∈ tables_1 ∧ Cond.instanceMethod q.1 ∈ tables_1
set_option maxRecDepth 100000
theorem lw_p0 : lw_okq (⟨"SumJoin", "word", "(II)V"⟩, 2) := ⟨⟨by decide +kernel, by decide +kernel⟩, List.mem_of_getElem? (i := 6) rfl, List.mem_of_getElem? (i := 26) rfl, List.mem_of_getElem? (i := 27) rfl⟩
theorem lw_p1 : lw_okq (⟨"SumJoin", "from", "(I)I"⟩, 2) := ⟨⟨by decide +kernel, by decide +kernel⟩, List.mem_of_getElem? (i := 6) rfl, List.mem_of_getElem? (i := 34) rfl, List.mem_of_getElem? (i := 35) rfl⟩
theorem lw_p2 : lw_okq (⟨"SumJoin", "count", "(II)I"⟩, 2) := ⟨⟨by decide +kernel, by decide +kernel⟩, List.mem_of_getElem? (i := 6) rfl, List.mem_of_getElem? (i := 47) rfl, List.mem_of_getElem? (i := 48) rfl⟩
theorem lw_p3 : lw_okq (⟨"SumJoinModel", "first", "(I)I"⟩, 2) := ⟨⟨by decide +kernel, by decide +kernel⟩, List.mem_of_getElem? (i := 124) rfl, List.mem_of_getElem? (i := 145) rfl, List.mem_of_getElem? (i := 146) rfl⟩
theorem lw_p4 : lw_okq (⟨"SumJoinModel", "many", "(II)I"⟩, 2) := ⟨⟨by decide +kernel, by decide +kernel⟩, List.mem_of_getElem? (i := 124) rfl, List.mem_of_getElem? (i := 158) rfl, List.mem_of_getElem? (i := 159) rfl⟩
theorem lw_p5 : lw_okq (⟨"SumJoinModel", "sum", "(ZII)J"⟩, 2) := ⟨⟨by decide +kernel, by decide +kernel⟩, List.mem_of_getElem? (i := 124) rfl, List.mem_of_getElem? (i := 162) rfl, List.mem_of_getElem? (i := 163) rfl⟩
def lw_privs_1 : List (MethodName × Nat) := [(⟨"SumJoin", "word", "(II)V"⟩, 2), (⟨"SumJoin", "from", "(I)I"⟩, 2), (⟨"SumJoin", "count", "(II)I"⟩, 2), (⟨"SumJoinModel", "first", "(I)I"⟩, 2), (⟨"SumJoinModel", "many", "(II)I"⟩, 2), (⟨"SumJoinModel", "sum", "(ZII)J"⟩, 2)]
theorem lw_r1 : ∀ q ∈ lw_privs_1, lw_okq q := List.forall_mem_cons.mpr ⟨lw_p0, List.forall_mem_cons.mpr ⟨lw_p1, List.forall_mem_cons.mpr ⟨lw_p2, List.forall_mem_cons.mpr ⟨lw_p3, List.forall_mem_cons.mpr ⟨lw_p4, List.forall_mem_cons.mpr ⟨lw_p5, fun _ h => absurd h List.not_mem_nil⟩⟩⟩⟩⟩⟩
def lw_privs : List (MethodName × Nat) := lw_privs_1
def lw_tbl : List Cond := k2_sels lw_privs ++ tables_1
theorem lw_privs_ok : ∀ q ∈ lw_privs, lw_okq q := lw_r1
-- ===== ONE list of words for every method: the tables' words that hold all through a run =====
def lw_all : List Cond := lw_tbl.filter goodWord
/-- a word of the tables by its place: claim/WORDS.tsv -/
theorem lw_w {w : Cond} (i : Nat) (h : lw_tbl[i]? = some w) (g : goodWord w = true) : w ∈ lw_all := List.mem_filter.mpr ⟨List.mem_of_getElem? h, g⟩
theorem lw_all_tbl {w : Cond} (h : w ∈ lw_all) : w ∈ lw_tbl := (List.mem_filter.mp h).1
theorem lw_self : GoodIn lw_all lw_all := fun w h => ⟨h, good_of_word (List.mem_filter.mp h).2⟩
/-- a class's field words, by their places -/
theorem lw_in (ws : List Cond) (ps : List Nat) (hp : ws = ps.filterMap (fun i => lw_tbl[i]?)) (hg : ws.all goodWord = true) : ∀ w ∈ ws, w ∈ lw_all := by
  intro w h
  have h1 := List.all_eq_true.mp hg w h
  rw [hp] at h
  obtain ⟨i, -, hi⟩ := List.mem_filterMap.mp h
  exact lw_w i hi h1
/-- the words of a contract for the method y with code b, L locals, answer r -/
abbrev ws_ (y : MethodName) (b : ByteArray) (L : Nat) (r : Option FieldType) : List Cond := Cond.code y b L r :: lw_all
theorem lw_meth {y : MethodName} {b : ByteArray} {L : Nat} {r : Option FieldType} (h : Cond.code y b L r ∈ lw_all) : GoodIn lw_all (ws_ y b L r) := by
  intro w hw
  rcases List.mem_cons.mp hw with e | e
  · rw [e]
    exact lw_self _ h
  · exact lw_self _ e
theorem lw_app {a c : List Cond} (ha : ∀ w ∈ a, w ∈ lw_all) (hc : GoodIn lw_all c) : GoodIn lw_all (a ++ c) := by
  intro w hw
  rcases List.mem_append.mp hw with e | e
  · exact lw_self w (ha w e)
  · exact hc w e
/-- what a call through an object asks: cwV n hts (lw_V ..) -/
theorem lw_V {own : String} {idx : Nat} {C : String} {y : MethodName} {b : ByteArray} {L : Nat} {r : Option FieldType} (h1 : Cond.methodLink own idx y ∈ lw_all) (h2 : Cond.instanceMethod y ∈ lw_all) (h3 : Cond.selects C y y ∈ lw_all) (h4 : Cond.initialized C ∈ lw_all) (h5 : Cond.code y b L r ∈ lw_all) : GoodIn lw_all (wsV own idx C y (ws_ y b L r)) := by
  refine lw_app ?_ (lw_meth h5)
  intro w hw
  simp only [List.mem_cons, List.not_mem_nil, or_false] at hw
  rcases hw with e | e | e | e
  · rw [e]; exact h1
  · rw [e]; exact h2
  · rw [e]; exact h3
  · rw [e]; exact h4
/-- what a static call asks: va_cwS n hts (lw_S ..) -/
theorem lw_S {own : String} {idx : Nat} {y : MethodName} {b : ByteArray} {L : Nat} {r : Option FieldType} (h1 : Cond.methodLink own idx y ∈ lw_all) (h2 : Cond.static y ∈ lw_all) (h3 : Cond.initialized y.cls ∈ lw_all) (h4 : Cond.code y b L r ∈ lw_all) : GoodIn lw_all (va_wsS own idx y (ws_ y b L r)) := by
  refine lw_app ?_ (lw_meth h4)
  intro w hw
  simp only [List.mem_cons, List.not_mem_nil, or_false] at hw
  rcases hw with e | e | e
  · rw [e]; exact h1
  · rw [e]; exact h2
  · rw [e]; exact h3
/-- the words of a contract for a method WITH HANDLERS (hh: its table) -/
abbrev wsW_ (y : MethodName) (b : ByteArray) (L : Nat) (r : Option FieldType) (hh : List (Nat × Nat × Nat × Nat)) : List Cond := Cond.codeWith y b L r hh :: lw_all
theorem lw_methW {y : MethodName} {b : ByteArray} {L : Nat} {r : Option FieldType} {hh : List (Nat × Nat × Nat × Nat)} (h : Cond.codeWith y b L r hh ∈ lw_all) : GoodIn lw_all (wsW_ y b L r hh) := by
  intro w hw
  rcases List.mem_cons.mp hw with e | e
  · rw [e]
    exact lw_self _ h
  · exact lw_self _ e
/-- any list of words by their places (lw_in), good -/
theorem lw_good {ws : List Cond} (h : ∀ w ∈ ws, w ∈ lw_all) : GoodIn lw_all ws := fun w hw => lw_self w (h w hw)
/-- what a call of a method with handlers asks: vx_cwVW n hts (lw_VW ..), vx_cwSW n hts (lw_SW ..) -/
theorem lw_VW {own : String} {idx : Nat} {C : String} {y : MethodName} {b : ByteArray} {L : Nat} {r : Option FieldType} {hh : List (Nat × Nat × Nat × Nat)} (h1 : Cond.methodLink own idx y ∈ lw_all) (h2 : Cond.instanceMethod y ∈ lw_all) (h3 : Cond.selects C y y ∈ lw_all) (h4 : Cond.initialized C ∈ lw_all) (h5 : Cond.codeWith y b L r hh ∈ lw_all) : GoodIn lw_all (wsV own idx C y (wsW_ y b L r hh)) := by
  refine lw_app ?_ (lw_methW h5)
  intro w hw
  simp only [List.mem_cons, List.not_mem_nil, or_false] at hw
  rcases hw with e | e | e | e
  · rw [e]; exact h1
  · rw [e]; exact h2
  · rw [e]; exact h3
  · rw [e]; exact h4
theorem lw_SW {own : String} {idx : Nat} {y : MethodName} {b : ByteArray} {L : Nat} {r : Option FieldType} {hh : List (Nat × Nat × Nat × Nat)} (h1 : Cond.methodLink own idx y ∈ lw_all) (h2 : Cond.static y ∈ lw_all) (h3 : Cond.initialized y.cls ∈ lw_all) (h4 : Cond.codeWith y b L r hh ∈ lw_all) : GoodIn lw_all (va_wsS own idx y (wsW_ y b L r hh)) := by
  refine lw_app ?_ (lw_methW h4)
  intro w hw
  simp only [List.mem_cons, List.not_mem_nil, or_false] at hw
  rcases hw with e | e | e
  · rw [e]; exact h1
  · rw [e]; exact h2
  · rw [e]; exact h3
/-- a word by its place in its run of the tables -/
theorem lw_at {r : List Cond} (hr : ∀ w ∈ r, w ∈ lw_tbl) {w : Cond} (i : Nat) (h : r[i]? = some w) : w ∈ lw_tbl := hr w (List.mem_of_getElem? h)
theorem lw_g {w : Cond} (h : w ∈ lw_tbl) (g : goodWord w = true) : w ∈ lw_all := List.mem_filter.mpr ⟨h, g⟩
theorem lw_ms : ∀ w ∈ k2_sels lw_privs, w ∈ lw_tbl := fun w h => show w ∈ k2_sels lw_privs ++ tables_1 from List.mem_append_left _ h
theorem lw_m0 : ∀ w ∈ tables_1, w ∈ lw_tbl := fun w h => show w ∈ k2_sels lw_privs ++ tables_1 from List.mem_append_right (k2_sels lw_privs) h
theorem qs0 : (Cond.selects "SumJoin" ⟨"SumJoin", "word", "(II)V"⟩ ⟨"SumJoin", "word", "(II)V"⟩) ∈ lw_all := lw_g (lw_at lw_ms 0 rfl) rfl
theorem qs1 : (Cond.selects "SumJoin" ⟨"SumJoin", "from", "(I)I"⟩ ⟨"SumJoin", "from", "(I)I"⟩) ∈ lw_all := lw_g (lw_at lw_ms 1 rfl) rfl
theorem qs2 : (Cond.selects "SumJoin" ⟨"SumJoin", "count", "(II)I"⟩ ⟨"SumJoin", "count", "(II)I"⟩) ∈ lw_all := lw_g (lw_at lw_ms 2 rfl) rfl
theorem qs3 : (Cond.selects "SumJoinModel" ⟨"SumJoinModel", "first", "(I)I"⟩ ⟨"SumJoinModel", "first", "(I)I"⟩) ∈ lw_all := lw_g (lw_at lw_ms 3 rfl) rfl
theorem qs4 : (Cond.selects "SumJoinModel" ⟨"SumJoinModel", "many", "(II)I"⟩ ⟨"SumJoinModel", "many", "(II)I"⟩) ∈ lw_all := lw_g (lw_at lw_ms 4 rfl) rfl
theorem qs5 : (Cond.selects "SumJoinModel" ⟨"SumJoinModel", "sum", "(ZII)J"⟩ ⟨"SumJoinModel", "sum", "(ZII)J"⟩) ∈ lw_all := lw_g (lw_at lw_ms 5 rfl) rfl
-- ===== end of PART A; then your names; then what follows =====
end
section
/-! DECODE ROWS BY BYTES: one lemma an opcode; a method's code is cut into short pieces once, and a row reads its own piece alone. -/
set_option maxRecDepth 100000
/-- the code has just these bytes from pc on -/
def DkAt (code : ByteArray) (pc : Nat) (bs : List UInt8) : Prop := ∀ (j : Nat) (b : UInt8), bs[j]? = some b → code.data.toList[pc + j]? = some b
/-- the piece W has the bytes bs from its place j on -/
def dkIn (W : List UInt8) (j : Nat) (bs : List UInt8) : Bool := decide ((W.drop j).take bs.length = bs)
theorem dk_seg {l W T : List UInt8} {o o2 : Nat} (h : l.drop o = W ++ T) (n : Nat) (hn : W.length = n) (ho : o + n = o2) : l.drop o2 = T := by
  subst ho
  rw [← List.drop_drop, h, List.drop_left' hn]
theorem dk_at {code : ByteArray} {W T bs : List UInt8} {o pc : Nat} (h : code.data.toList.drop o = W ++ T) (j : Nat) (hp : o + j = pc) (hw : dkIn W j bs = true) : DkAt code pc bs := by
  subst hp
  intro i b e
  have h1 := of_decide_eq_true hw
  have h2 : i < bs.length := (List.getElem?_eq_some_iff.mp e).1
  have h3 : W[j + i]? = some b := by
    rw [← h1, List.getElem?_take, if_pos h2, List.getElem?_drop] at e
    exact e
  have h4 : j + i < W.length := (List.getElem?_eq_some_iff.mp h3).1
  have h5 : (code.data.toList.drop o)[j + i]? = some b := by
    rw [h, List.getElem?_append_left h4]
    exact h3
  rw [List.getElem?_drop, ← Nat.add_assoc] at h5
  exact h5
theorem dk_u1 {A : ByteArray} {p : Nat} {b : UInt8} (h : A.data.toList[p]? = some b) : (Reader.u1 : Reader DecodeError Nat) A p = .ok (b.toNat, p + 1) := by
  obtain ⟨h1, h2⟩ := List.getElem?_eq_some_iff.mp h
  have h3 : p < A.size := by simpa using h1
  have h4 : A[p]'h3 = b := h2
  have e : (Reader.u1 : Reader DecodeError Nat) A p = (if h : p < A.size then .ok (A[p].toNat, p + 1) else .error (HasTruncated.truncated p)) := by
    show (do if h : p < A.size then do set (p + 1); Pure.pure A[p].toNat else MonadExcept.throw (HasTruncated.truncated p) : Reader DecodeError Nat) A p = _
    by_cases hi : p < A.size
    · rw [dif_pos hi, dif_pos hi]; rfl
    · rw [dif_neg hi, dif_neg hi]; rfl
  rw [e, dif_pos h3, h4]
theorem dk_bind {α β : Type} {r : Reader DecodeError α} {f : α → Reader DecodeError β} {A : ByteArray} {p s : Nat} {a : α} (h : r A p = .ok (a, s)) : (r >>= f) A p = f a A s := by
  show (do let (a, s) ← r A p; f a A s : Except DecodeError (β × Nat)) = _
  rw [h]
  rfl
theorem dk_map {α β : Type} {r : Reader DecodeError α} {g : α → β} {A : ByteArray} {p s : Nat} {a : α} (h : r A p = .ok (a, s)) : (g <$> r) A p = .ok (g a, s) := by
  show (do let (a, s) ← r A p; .ok (g a, s) : Except DecodeError (β × Nat)) = _
  rw [h]
  rfl
theorem dk_u2 {A : ByteArray} {p : Nat} {a b : UInt8} (h : A.data.toList[p]? = some a) (h2 : A.data.toList[p + 1]? = some b) : (Reader.u2 : Reader DecodeError Nat) A p = .ok (a.toNat * 256 + b.toNat, p + 2) := by
  show (Reader.u1 >>= fun hi => Reader.u1 >>= fun lo => Pure.pure (hi * 256 + lo) : Reader DecodeError Nat) A p = _
  rw [dk_bind (dk_u1 h), dk_bind (dk_u1 h2)]
  rfl
theorem dk_of {code : ByteArray} {pc n : Nat} {i : Instr} (h : Decoder.instr pc code pc = .ok (i, pc + n)) : decode code pc = .ok (i, n) := by
  have e : decode code pc = (match Decoder.instr pc code pc with | .error x => .error x | .ok (j, s) => .ok (j, s - pc)) := by
    show (do let (j, s) ← Decoder.instr pc code pc; Pure.pure (j, s - pc) : Except DecodeError (Instr × Nat)) = _
    cases Decoder.instr pc code pc <;> rfl
  rw [e, h]
  show Except.ok (i, pc + n - pc) = _
  rw [Nat.add_sub_cancel_left]
theorem dk_2 {code : ByteArray} {pc : Nat} (h : DkAt code pc [2]) : decode code pc = .ok (.iconst (-1), 1) := dk_of ((dk_bind (dk_u1 (h 0 _ rfl))).trans rfl)
theorem dk_3 {code : ByteArray} {pc : Nat} (h : DkAt code pc [3]) : decode code pc = .ok (.iconst 0, 1) := dk_of ((dk_bind (dk_u1 (h 0 _ rfl))).trans rfl)
theorem dk_4 {code : ByteArray} {pc : Nat} (h : DkAt code pc [4]) : decode code pc = .ok (.iconst 1, 1) := dk_of ((dk_bind (dk_u1 (h 0 _ rfl))).trans rfl)
theorem dk_5 {code : ByteArray} {pc : Nat} (h : DkAt code pc [5]) : decode code pc = .ok (.iconst 2, 1) := dk_of ((dk_bind (dk_u1 (h 0 _ rfl))).trans rfl)
theorem dk_6 {code : ByteArray} {pc : Nat} (h : DkAt code pc [6]) : decode code pc = .ok (.iconst 3, 1) := dk_of ((dk_bind (dk_u1 (h 0 _ rfl))).trans rfl)
theorem dk_7 {code : ByteArray} {pc : Nat} (h : DkAt code pc [7]) : decode code pc = .ok (.iconst 4, 1) := dk_of ((dk_bind (dk_u1 (h 0 _ rfl))).trans rfl)
theorem dk_9 {code : ByteArray} {pc : Nat} (h : DkAt code pc [9]) : decode code pc = .ok (.lconst 0, 1) := dk_of ((dk_bind (dk_u1 (h 0 _ rfl))).trans rfl)
theorem dk_10 {code : ByteArray} {pc : Nat} (h : DkAt code pc [10]) : decode code pc = .ok (.lconst 1, 1) := dk_of ((dk_bind (dk_u1 (h 0 _ rfl))).trans rfl)
theorem dk_16 {code : ByteArray} {pc : Nat} (a : UInt8) (h : DkAt code pc [16, a]) : decode code pc = .ok (.bipush (Reader.signed 8 a.toNat), 2) := dk_of ((dk_bind (dk_u1 (h 0 _ rfl))).trans ((dk_bind (dk_map (dk_u1 (h 1 _ rfl)))).trans rfl))
theorem dk_17 {code : ByteArray} {pc : Nat} (a b : UInt8) (h : DkAt code pc [17, a, b]) : decode code pc = .ok (.sipush (Reader.signed 16 (a.toNat * 256 + b.toNat)), 3) := dk_of ((dk_bind (dk_u1 (h 0 _ rfl))).trans ((dk_bind (dk_map (dk_u2 (h 1 _ rfl) (h 2 _ rfl)))).trans rfl))
theorem dk_18 {code : ByteArray} {pc : Nat} (a : UInt8) (h : DkAt code pc [18, a]) : decode code pc = .ok (.ldc a.toNat, 2) := dk_of ((dk_bind (dk_u1 (h 0 _ rfl))).trans ((dk_bind (dk_u1 (h 1 _ rfl))).trans rfl))
theorem dk_20 {code : ByteArray} {pc : Nat} (a b : UInt8) (h : DkAt code pc [20, a, b]) : decode code pc = .ok (.ldc2_w (a.toNat * 256 + b.toNat), 3) := dk_of ((dk_bind (dk_u1 (h 0 _ rfl))).trans ((dk_bind (dk_u2 (h 1 _ rfl) (h 2 _ rfl))).trans rfl))
theorem dk_21 {code : ByteArray} {pc : Nat} (a : UInt8) (h : DkAt code pc [21, a]) : decode code pc = .ok (.iload a.toNat, 2) := dk_of ((dk_bind (dk_u1 (h 0 _ rfl))).trans ((dk_bind (dk_u1 (h 1 _ rfl))).trans rfl))
theorem dk_22 {code : ByteArray} {pc : Nat} (a : UInt8) (h : DkAt code pc [22, a]) : decode code pc = .ok (.lload a.toNat, 2) := dk_of ((dk_bind (dk_u1 (h 0 _ rfl))).trans ((dk_bind (dk_u1 (h 1 _ rfl))).trans rfl))
theorem dk_25 {code : ByteArray} {pc : Nat} (a : UInt8) (h : DkAt code pc [25, a]) : decode code pc = .ok (.aload a.toNat, 2) := dk_of ((dk_bind (dk_u1 (h 0 _ rfl))).trans ((dk_bind (dk_u1 (h 1 _ rfl))).trans rfl))
theorem dk_26 {code : ByteArray} {pc : Nat} (h : DkAt code pc [26]) : decode code pc = .ok (.iload_n 0, 1) := dk_of ((dk_bind (dk_u1 (h 0 _ rfl))).trans rfl)
theorem dk_27 {code : ByteArray} {pc : Nat} (h : DkAt code pc [27]) : decode code pc = .ok (.iload_n 1, 1) := dk_of ((dk_bind (dk_u1 (h 0 _ rfl))).trans rfl)
theorem dk_28 {code : ByteArray} {pc : Nat} (h : DkAt code pc [28]) : decode code pc = .ok (.iload_n 2, 1) := dk_of ((dk_bind (dk_u1 (h 0 _ rfl))).trans rfl)
theorem dk_29 {code : ByteArray} {pc : Nat} (h : DkAt code pc [29]) : decode code pc = .ok (.iload_n 3, 1) := dk_of ((dk_bind (dk_u1 (h 0 _ rfl))).trans rfl)
theorem dk_30 {code : ByteArray} {pc : Nat} (h : DkAt code pc [30]) : decode code pc = .ok (.lload_n 0, 1) := dk_of ((dk_bind (dk_u1 (h 0 _ rfl))).trans rfl)
theorem dk_31 {code : ByteArray} {pc : Nat} (h : DkAt code pc [31]) : decode code pc = .ok (.lload_n 1, 1) := dk_of ((dk_bind (dk_u1 (h 0 _ rfl))).trans rfl)
theorem dk_32 {code : ByteArray} {pc : Nat} (h : DkAt code pc [32]) : decode code pc = .ok (.lload_n 2, 1) := dk_of ((dk_bind (dk_u1 (h 0 _ rfl))).trans rfl)
theorem dk_33 {code : ByteArray} {pc : Nat} (h : DkAt code pc [33]) : decode code pc = .ok (.lload_n 3, 1) := dk_of ((dk_bind (dk_u1 (h 0 _ rfl))).trans rfl)
theorem dk_42 {code : ByteArray} {pc : Nat} (h : DkAt code pc [42]) : decode code pc = .ok (.aload_n 0, 1) := dk_of ((dk_bind (dk_u1 (h 0 _ rfl))).trans rfl)
theorem dk_43 {code : ByteArray} {pc : Nat} (h : DkAt code pc [43]) : decode code pc = .ok (.aload_n 1, 1) := dk_of ((dk_bind (dk_u1 (h 0 _ rfl))).trans rfl)
theorem dk_44 {code : ByteArray} {pc : Nat} (h : DkAt code pc [44]) : decode code pc = .ok (.aload_n 2, 1) := dk_of ((dk_bind (dk_u1 (h 0 _ rfl))).trans rfl)
theorem dk_46 {code : ByteArray} {pc : Nat} (h : DkAt code pc [46]) : decode code pc = .ok (.iaload, 1) := dk_of ((dk_bind (dk_u1 (h 0 _ rfl))).trans rfl)
theorem dk_47 {code : ByteArray} {pc : Nat} (h : DkAt code pc [47]) : decode code pc = .ok (.laload, 1) := dk_of ((dk_bind (dk_u1 (h 0 _ rfl))).trans rfl)
theorem dk_51 {code : ByteArray} {pc : Nat} (h : DkAt code pc [51]) : decode code pc = .ok (.baload, 1) := dk_of ((dk_bind (dk_u1 (h 0 _ rfl))).trans rfl)
theorem dk_54 {code : ByteArray} {pc : Nat} (a : UInt8) (h : DkAt code pc [54, a]) : decode code pc = .ok (.istore a.toNat, 2) := dk_of ((dk_bind (dk_u1 (h 0 _ rfl))).trans ((dk_bind (dk_u1 (h 1 _ rfl))).trans rfl))
theorem dk_55 {code : ByteArray} {pc : Nat} (a : UInt8) (h : DkAt code pc [55, a]) : decode code pc = .ok (.lstore a.toNat, 2) := dk_of ((dk_bind (dk_u1 (h 0 _ rfl))).trans ((dk_bind (dk_u1 (h 1 _ rfl))).trans rfl))
theorem dk_58 {code : ByteArray} {pc : Nat} (a : UInt8) (h : DkAt code pc [58, a]) : decode code pc = .ok (.astore a.toNat, 2) := dk_of ((dk_bind (dk_u1 (h 0 _ rfl))).trans ((dk_bind (dk_u1 (h 1 _ rfl))).trans rfl))
theorem dk_61 {code : ByteArray} {pc : Nat} (h : DkAt code pc [61]) : decode code pc = .ok (.istore_n 2, 1) := dk_of ((dk_bind (dk_u1 (h 0 _ rfl))).trans rfl)
theorem dk_62 {code : ByteArray} {pc : Nat} (h : DkAt code pc [62]) : decode code pc = .ok (.istore_n 3, 1) := dk_of ((dk_bind (dk_u1 (h 0 _ rfl))).trans rfl)
theorem dk_63 {code : ByteArray} {pc : Nat} (h : DkAt code pc [63]) : decode code pc = .ok (.lstore_n 0, 1) := dk_of ((dk_bind (dk_u1 (h 0 _ rfl))).trans rfl)
theorem dk_64 {code : ByteArray} {pc : Nat} (h : DkAt code pc [64]) : decode code pc = .ok (.lstore_n 1, 1) := dk_of ((dk_bind (dk_u1 (h 0 _ rfl))).trans rfl)
theorem dk_66 {code : ByteArray} {pc : Nat} (h : DkAt code pc [66]) : decode code pc = .ok (.lstore_n 3, 1) := dk_of ((dk_bind (dk_u1 (h 0 _ rfl))).trans rfl)
theorem dk_76 {code : ByteArray} {pc : Nat} (h : DkAt code pc [76]) : decode code pc = .ok (.astore_n 1, 1) := dk_of ((dk_bind (dk_u1 (h 0 _ rfl))).trans rfl)
theorem dk_77 {code : ByteArray} {pc : Nat} (h : DkAt code pc [77]) : decode code pc = .ok (.astore_n 2, 1) := dk_of ((dk_bind (dk_u1 (h 0 _ rfl))).trans rfl)
theorem dk_80 {code : ByteArray} {pc : Nat} (h : DkAt code pc [80]) : decode code pc = .ok (.lastore, 1) := dk_of ((dk_bind (dk_u1 (h 0 _ rfl))).trans rfl)
theorem dk_84 {code : ByteArray} {pc : Nat} (h : DkAt code pc [84]) : decode code pc = .ok (.bastore, 1) := dk_of ((dk_bind (dk_u1 (h 0 _ rfl))).trans rfl)
theorem dk_89 {code : ByteArray} {pc : Nat} (h : DkAt code pc [89]) : decode code pc = .ok (.dup, 1) := dk_of ((dk_bind (dk_u1 (h 0 _ rfl))).trans rfl)
theorem dk_96 {code : ByteArray} {pc : Nat} (h : DkAt code pc [96]) : decode code pc = .ok (.iadd, 1) := dk_of ((dk_bind (dk_u1 (h 0 _ rfl))).trans rfl)
theorem dk_97 {code : ByteArray} {pc : Nat} (h : DkAt code pc [97]) : decode code pc = .ok (.ladd, 1) := dk_of ((dk_bind (dk_u1 (h 0 _ rfl))).trans rfl)
theorem dk_100 {code : ByteArray} {pc : Nat} (h : DkAt code pc [100]) : decode code pc = .ok (.isub, 1) := dk_of ((dk_bind (dk_u1 (h 0 _ rfl))).trans rfl)
theorem dk_101 {code : ByteArray} {pc : Nat} (h : DkAt code pc [101]) : decode code pc = .ok (.lsub, 1) := dk_of ((dk_bind (dk_u1 (h 0 _ rfl))).trans rfl)
theorem dk_104 {code : ByteArray} {pc : Nat} (h : DkAt code pc [104]) : decode code pc = .ok (.imul, 1) := dk_of ((dk_bind (dk_u1 (h 0 _ rfl))).trans rfl)
theorem dk_105 {code : ByteArray} {pc : Nat} (h : DkAt code pc [105]) : decode code pc = .ok (.lmul, 1) := dk_of ((dk_bind (dk_u1 (h 0 _ rfl))).trans rfl)
theorem dk_108 {code : ByteArray} {pc : Nat} (h : DkAt code pc [108]) : decode code pc = .ok (.idiv, 1) := dk_of ((dk_bind (dk_u1 (h 0 _ rfl))).trans rfl)
theorem dk_112 {code : ByteArray} {pc : Nat} (h : DkAt code pc [112]) : decode code pc = .ok (.irem, 1) := dk_of ((dk_bind (dk_u1 (h 0 _ rfl))).trans rfl)
theorem dk_113 {code : ByteArray} {pc : Nat} (h : DkAt code pc [113]) : decode code pc = .ok (.lrem, 1) := dk_of ((dk_bind (dk_u1 (h 0 _ rfl))).trans rfl)
theorem dk_121 {code : ByteArray} {pc : Nat} (h : DkAt code pc [121]) : decode code pc = .ok (.lshl, 1) := dk_of ((dk_bind (dk_u1 (h 0 _ rfl))).trans rfl)
theorem dk_122 {code : ByteArray} {pc : Nat} (h : DkAt code pc [122]) : decode code pc = .ok (.ishr, 1) := dk_of ((dk_bind (dk_u1 (h 0 _ rfl))).trans rfl)
theorem dk_123 {code : ByteArray} {pc : Nat} (h : DkAt code pc [123]) : decode code pc = .ok (.lshr, 1) := dk_of ((dk_bind (dk_u1 (h 0 _ rfl))).trans rfl)
theorem dk_124 {code : ByteArray} {pc : Nat} (h : DkAt code pc [124]) : decode code pc = .ok (.iushr, 1) := dk_of ((dk_bind (dk_u1 (h 0 _ rfl))).trans rfl)
theorem dk_126 {code : ByteArray} {pc : Nat} (h : DkAt code pc [126]) : decode code pc = .ok (.iand, 1) := dk_of ((dk_bind (dk_u1 (h 0 _ rfl))).trans rfl)
theorem dk_127 {code : ByteArray} {pc : Nat} (h : DkAt code pc [127]) : decode code pc = .ok (.land, 1) := dk_of ((dk_bind (dk_u1 (h 0 _ rfl))).trans rfl)
theorem dk_129 {code : ByteArray} {pc : Nat} (h : DkAt code pc [129]) : decode code pc = .ok (.lor, 1) := dk_of ((dk_bind (dk_u1 (h 0 _ rfl))).trans rfl)
theorem dk_130 {code : ByteArray} {pc : Nat} (h : DkAt code pc [130]) : decode code pc = .ok (.ixor, 1) := dk_of ((dk_bind (dk_u1 (h 0 _ rfl))).trans rfl)
theorem dk_131 {code : ByteArray} {pc : Nat} (h : DkAt code pc [131]) : decode code pc = .ok (.lxor, 1) := dk_of ((dk_bind (dk_u1 (h 0 _ rfl))).trans rfl)
theorem dk_132 {code : ByteArray} {pc : Nat} (a b : UInt8) (h : DkAt code pc [132, a, b]) : decode code pc = .ok (.iinc a.toNat (Reader.signed 8 b.toNat), 3) := dk_of ((dk_bind (dk_u1 (h 0 _ rfl))).trans ((dk_bind (dk_u1 (h 1 _ rfl))).trans ((dk_bind (dk_map (dk_u1 (h 2 _ rfl)))).trans rfl)))
theorem dk_133 {code : ByteArray} {pc : Nat} (h : DkAt code pc [133]) : decode code pc = .ok (.i2l, 1) := dk_of ((dk_bind (dk_u1 (h 0 _ rfl))).trans rfl)
theorem dk_145 {code : ByteArray} {pc : Nat} (h : DkAt code pc [145]) : decode code pc = .ok (.i2b, 1) := dk_of ((dk_bind (dk_u1 (h 0 _ rfl))).trans rfl)
theorem dk_148 {code : ByteArray} {pc : Nat} (h : DkAt code pc [148]) : decode code pc = .ok (.lcmp, 1) := dk_of ((dk_bind (dk_u1 (h 0 _ rfl))).trans rfl)
theorem dk_153 {code : ByteArray} {pc : Nat} (a b : UInt8) (h : DkAt code pc [153, a, b]) : decode code pc = .ok (.ifCond .eq (Reader.signed 16 (a.toNat * 256 + b.toNat)), 3) := dk_of ((dk_bind (dk_u1 (h 0 _ rfl))).trans ((dk_bind (dk_map (dk_u2 (h 1 _ rfl) (h 2 _ rfl)))).trans rfl))
theorem dk_154 {code : ByteArray} {pc : Nat} (a b : UInt8) (h : DkAt code pc [154, a, b]) : decode code pc = .ok (.ifCond .ne (Reader.signed 16 (a.toNat * 256 + b.toNat)), 3) := dk_of ((dk_bind (dk_u1 (h 0 _ rfl))).trans ((dk_bind (dk_map (dk_u2 (h 1 _ rfl) (h 2 _ rfl)))).trans rfl))
theorem dk_155 {code : ByteArray} {pc : Nat} (a b : UInt8) (h : DkAt code pc [155, a, b]) : decode code pc = .ok (.ifCond .lt (Reader.signed 16 (a.toNat * 256 + b.toNat)), 3) := dk_of ((dk_bind (dk_u1 (h 0 _ rfl))).trans ((dk_bind (dk_map (dk_u2 (h 1 _ rfl) (h 2 _ rfl)))).trans rfl))
theorem dk_157 {code : ByteArray} {pc : Nat} (a b : UInt8) (h : DkAt code pc [157, a, b]) : decode code pc = .ok (.ifCond .gt (Reader.signed 16 (a.toNat * 256 + b.toNat)), 3) := dk_of ((dk_bind (dk_u1 (h 0 _ rfl))).trans ((dk_bind (dk_map (dk_u2 (h 1 _ rfl) (h 2 _ rfl)))).trans rfl))
theorem dk_158 {code : ByteArray} {pc : Nat} (a b : UInt8) (h : DkAt code pc [158, a, b]) : decode code pc = .ok (.ifCond .le (Reader.signed 16 (a.toNat * 256 + b.toNat)), 3) := dk_of ((dk_bind (dk_u1 (h 0 _ rfl))).trans ((dk_bind (dk_map (dk_u2 (h 1 _ rfl) (h 2 _ rfl)))).trans rfl))
theorem dk_159 {code : ByteArray} {pc : Nat} (a b : UInt8) (h : DkAt code pc [159, a, b]) : decode code pc = .ok (.if_icmp .eq (Reader.signed 16 (a.toNat * 256 + b.toNat)), 3) := dk_of ((dk_bind (dk_u1 (h 0 _ rfl))).trans ((dk_bind (dk_map (dk_u2 (h 1 _ rfl) (h 2 _ rfl)))).trans rfl))
theorem dk_160 {code : ByteArray} {pc : Nat} (a b : UInt8) (h : DkAt code pc [160, a, b]) : decode code pc = .ok (.if_icmp .ne (Reader.signed 16 (a.toNat * 256 + b.toNat)), 3) := dk_of ((dk_bind (dk_u1 (h 0 _ rfl))).trans ((dk_bind (dk_map (dk_u2 (h 1 _ rfl) (h 2 _ rfl)))).trans rfl))
theorem dk_162 {code : ByteArray} {pc : Nat} (a b : UInt8) (h : DkAt code pc [162, a, b]) : decode code pc = .ok (.if_icmp .ge (Reader.signed 16 (a.toNat * 256 + b.toNat)), 3) := dk_of ((dk_bind (dk_u1 (h 0 _ rfl))).trans ((dk_bind (dk_map (dk_u2 (h 1 _ rfl) (h 2 _ rfl)))).trans rfl))
theorem dk_163 {code : ByteArray} {pc : Nat} (a b : UInt8) (h : DkAt code pc [163, a, b]) : decode code pc = .ok (.if_icmp .gt (Reader.signed 16 (a.toNat * 256 + b.toNat)), 3) := dk_of ((dk_bind (dk_u1 (h 0 _ rfl))).trans ((dk_bind (dk_map (dk_u2 (h 1 _ rfl) (h 2 _ rfl)))).trans rfl))
theorem dk_164 {code : ByteArray} {pc : Nat} (a b : UInt8) (h : DkAt code pc [164, a, b]) : decode code pc = .ok (.if_icmp .le (Reader.signed 16 (a.toNat * 256 + b.toNat)), 3) := dk_of ((dk_bind (dk_u1 (h 0 _ rfl))).trans ((dk_bind (dk_map (dk_u2 (h 1 _ rfl) (h 2 _ rfl)))).trans rfl))
theorem dk_167 {code : ByteArray} {pc : Nat} (a b : UInt8) (h : DkAt code pc [167, a, b]) : decode code pc = .ok (.goto (Reader.signed 16 (a.toNat * 256 + b.toNat)), 3) := dk_of ((dk_bind (dk_u1 (h 0 _ rfl))).trans ((dk_bind (dk_map (dk_u2 (h 1 _ rfl) (h 2 _ rfl)))).trans rfl))
theorem dk_172 {code : ByteArray} {pc : Nat} (h : DkAt code pc [172]) : decode code pc = .ok (.ireturn, 1) := dk_of ((dk_bind (dk_u1 (h 0 _ rfl))).trans rfl)
theorem dk_173 {code : ByteArray} {pc : Nat} (h : DkAt code pc [173]) : decode code pc = .ok (.lreturn, 1) := dk_of ((dk_bind (dk_u1 (h 0 _ rfl))).trans rfl)
theorem dk_177 {code : ByteArray} {pc : Nat} (h : DkAt code pc [177]) : decode code pc = .ok (.return_, 1) := dk_of ((dk_bind (dk_u1 (h 0 _ rfl))).trans rfl)
theorem dk_178 {code : ByteArray} {pc : Nat} (a b : UInt8) (h : DkAt code pc [178, a, b]) : decode code pc = .ok (.getstatic (a.toNat * 256 + b.toNat), 3) := dk_of ((dk_bind (dk_u1 (h 0 _ rfl))).trans ((dk_bind (dk_u2 (h 1 _ rfl) (h 2 _ rfl))).trans rfl))
theorem dk_180 {code : ByteArray} {pc : Nat} (a b : UInt8) (h : DkAt code pc [180, a, b]) : decode code pc = .ok (.getfield (a.toNat * 256 + b.toNat), 3) := dk_of ((dk_bind (dk_u1 (h 0 _ rfl))).trans ((dk_bind (dk_u2 (h 1 _ rfl) (h 2 _ rfl))).trans rfl))
theorem dk_181 {code : ByteArray} {pc : Nat} (a b : UInt8) (h : DkAt code pc [181, a, b]) : decode code pc = .ok (.putfield (a.toNat * 256 + b.toNat), 3) := dk_of ((dk_bind (dk_u1 (h 0 _ rfl))).trans ((dk_bind (dk_u2 (h 1 _ rfl) (h 2 _ rfl))).trans rfl))
theorem dk_182 {code : ByteArray} {pc : Nat} (a b : UInt8) (h : DkAt code pc [182, a, b]) : decode code pc = .ok (.invokevirtual (a.toNat * 256 + b.toNat), 3) := dk_of ((dk_bind (dk_u1 (h 0 _ rfl))).trans ((dk_bind (dk_u2 (h 1 _ rfl) (h 2 _ rfl))).trans rfl))
theorem dk_183 {code : ByteArray} {pc : Nat} (a b : UInt8) (h : DkAt code pc [183, a, b]) : decode code pc = .ok (.invokespecial (a.toNat * 256 + b.toNat), 3) := dk_of ((dk_bind (dk_u1 (h 0 _ rfl))).trans ((dk_bind (dk_u2 (h 1 _ rfl) (h 2 _ rfl))).trans rfl))
theorem dk_184 {code : ByteArray} {pc : Nat} (a b : UInt8) (h : DkAt code pc [184, a, b]) : decode code pc = .ok (.invokestatic (a.toNat * 256 + b.toNat), 3) := dk_of ((dk_bind (dk_u1 (h 0 _ rfl))).trans ((dk_bind (dk_u2 (h 1 _ rfl) (h 2 _ rfl))).trans rfl))
theorem dk_187 {code : ByteArray} {pc : Nat} (a b : UInt8) (h : DkAt code pc [187, a, b]) : decode code pc = .ok (.new (a.toNat * 256 + b.toNat), 3) := dk_of ((dk_bind (dk_u1 (h 0 _ rfl))).trans ((dk_bind (dk_u2 (h 1 _ rfl) (h 2 _ rfl))).trans rfl))
theorem dk_188_8 {code : ByteArray} {pc : Nat} (h : DkAt code pc [188, 8]) : decode code pc = .ok (.newarray .byte, 2) := dk_of ((dk_bind (dk_u1 (h 0 _ rfl))).trans ((dk_bind (dk_u1 (h 1 _ rfl))).trans rfl))
theorem dk_188_11 {code : ByteArray} {pc : Nat} (h : DkAt code pc [188, 11]) : decode code pc = .ok (.newarray .long, 2) := dk_of ((dk_bind (dk_u1 (h 0 _ rfl))).trans ((dk_bind (dk_u1 (h 1 _ rfl))).trans rfl))
theorem dk_190 {code : ByteArray} {pc : Nat} (h : DkAt code pc [190]) : decode code pc = .ok (.arraylength, 1) := dk_of ((dk_bind (dk_u1 (h 0 _ rfl))).trans rfl)
/-! java/lang/Object -/
set_option maxRecDepth 100000
def RJ0 : String := "java/lang/Object"
abbrev cJ0_init : ByteArray := object_method_1_code
def yJ0_init : MethodName := ⟨RJ0, "<init>", "()V"⟩
theorem dJ0_init_0 : decode cJ0_init 0 = .ok (.return_, 1) := by decide +kernel
theorem q17 : (Jvm.Cond.instanceMethod ({ cls := "java/lang/Object", name := "<init>", desc := "()V" } : Jvm.MethodName)) ∈ lw_all := lw_g (lw_at lw_m0 11 rfl) rfl
theorem q18 : (Jvm.Cond.code ({ cls := "java/lang/Object", name := "<init>", desc := "()V" } : Jvm.MethodName) object_method_1_code (1 : Nat) (Option.none : Option Jvm.ClassFile.FieldType)) ∈ lw_all := lw_g (lw_at lw_m0 12 rfl) rfl
theorem q26 : (Jvm.Cond.arrayClass Jvm.ClassFile.FieldType.byte) ∈ lw_all := lw_g (lw_at lw_m0 20 rfl) rfl
set_option maxRecDepth 100000
theorem q120 : (Jvm.Cond.arrayClass Jvm.ClassFile.FieldType.long) ∈ lw_all := lw_g (lw_at lw_m0 114 rfl) rfl
theorem q188 : (Jvm.Cond.arrayClass Jvm.ClassFile.FieldType.int) ∈ lw_all := lw_g (lw_at lw_m0 182 rfl) rfl
theorem q6 : (Jvm.Cond.initialized "SumJoinLaw") ∈ lw_all := lw_g (lw_at lw_m0 0 rfl) rfl
set_option maxRecDepth 100000
theorem q11 : (Jvm.Cond.classLink "SumJoinLaw" (7 : Nat) "SumJoin") ∈ lw_all := lw_g (lw_at lw_m0 5 rfl) rfl
theorem q13 : (Jvm.Cond.methodLink "SumJoinLaw" (9 : Nat) ({ cls := "SumJoin", name := "<init>", desc := "()V" } : Jvm.MethodName)) ∈ lw_all := lw_g (lw_at lw_m0 7 rfl) rfl
theorem q27 : (Jvm.Cond.methodLink "SumJoinLaw" (13 : Nat) ({ cls := "SumJoin", name := "put", desc := "(IIII)Z" } : Jvm.MethodName)) ∈ lw_all := lw_g (lw_at lw_m0 21 rfl) rfl
theorem q35 : (Jvm.Cond.methodLink "SumJoinLaw" (18 : Nat) ({ cls := "SumJoin", name := "trim", desc := "(I)V" } : Jvm.MethodName)) ∈ lw_all := lw_g (lw_at lw_m0 29 rfl) rfl
theorem q44 : (Jvm.Cond.methodLink "SumJoinLaw" (23 : Nat) ({ cls := "SumJoin", name := "size", desc := "()I" } : Jvm.MethodName)) ∈ lw_all := lw_g (lw_at lw_m0 38 rfl) rfl
theorem q48 : (Jvm.Cond.methodLink "SumJoinLaw" (28 : Nat) ({ cls := "SumJoin", name := "crc", desc := "(II)J" } : Jvm.MethodName)) ∈ lw_all := lw_g (lw_at lw_m0 42 rfl) rfl
theorem q102 : (Jvm.Cond.methodLink "SumJoinLaw" (33 : Nat) ({ cls := "SumJoin", name := "adler", desc := "(II)J" } : Jvm.MethodName)) ∈ lw_all := lw_g (lw_at lw_m0 96 rfl) rfl
theorem q106 : (Jvm.Cond.methodLink "SumJoinLaw" (37 : Nat) ({ cls := "SumJoin", name := "joinCrc", desc := "(III)J" } : Jvm.MethodName)) ∈ lw_all := lw_g (lw_at lw_m0 100 rfl) rfl
theorem q121 : (Jvm.Cond.methodLink "SumJoinLaw" (42 : Nat) ({ cls := "SumJoin", name := "joinAdler", desc := "(III)J" } : Jvm.MethodName)) ∈ lw_all := lw_g (lw_at lw_m0 115 rfl) rfl
theorem q129 : (Jvm.Cond.classLink "SumJoinLaw" (10 : Nat) "SumJoinModel") ∈ lw_all := lw_g (lw_at lw_m0 123 rfl) rfl
theorem q131 : (Jvm.Cond.methodLink "SumJoinLaw" (12 : Nat) ({ cls := "SumJoinModel", name := "<init>", desc := "()V" } : Jvm.MethodName)) ∈ lw_all := lw_g (lw_at lw_m0 125 rfl) rfl
theorem q142 : (Jvm.Cond.methodLink "SumJoinLaw" (17 : Nat) ({ cls := "SumJoinModel", name := "put", desc := "(IIII)Z" } : Jvm.MethodName)) ∈ lw_all := lw_g (lw_at lw_m0 136 rfl) rfl
theorem q146 : (Jvm.Cond.methodLink "SumJoinLaw" (22 : Nat) ({ cls := "SumJoinModel", name := "trim", desc := "(I)V" } : Jvm.MethodName)) ∈ lw_all := lw_g (lw_at lw_m0 140 rfl) rfl
theorem q155 : (Jvm.Cond.methodLink "SumJoinLaw" (27 : Nat) ({ cls := "SumJoinModel", name := "size", desc := "()I" } : Jvm.MethodName)) ∈ lw_all := lw_g (lw_at lw_m0 149 rfl) rfl
theorem q159 : (Jvm.Cond.methodLink "SumJoinLaw" (32 : Nat) ({ cls := "SumJoinModel", name := "crc", desc := "(II)J" } : Jvm.MethodName)) ∈ lw_all := lw_g (lw_at lw_m0 153 rfl) rfl
theorem q174 : (Jvm.Cond.methodLink "SumJoinLaw" (36 : Nat) ({ cls := "SumJoinModel", name := "adler", desc := "(II)J" } : Jvm.MethodName)) ∈ lw_all := lw_g (lw_at lw_m0 168 rfl) rfl
theorem q178 : (Jvm.Cond.methodLink "SumJoinLaw" (41 : Nat) ({ cls := "SumJoinModel", name := "joinCrc", desc := "(III)J" } : Jvm.MethodName)) ∈ lw_all := lw_g (lw_at lw_m0 172 rfl) rfl
theorem q183 : (Jvm.Cond.methodLink "SumJoinLaw" (45 : Nat) ({ cls := "SumJoinModel", name := "joinAdler", desc := "(III)J" } : Jvm.MethodName)) ∈ lw_all := lw_g (lw_at lw_m0 177 rfl) rfl
/-! CRC32 -/
set_option maxRecDepth 100000
def RX2 : String := "CRC32"
def TX2 : u_T := fun k => match k with
  | _ => ("CRC32", "v", "I", false)
def tyX2 : Nat → FieldType := fun k => match k with
  | _ => .int
abbrev wsX20 : List Cond := u_ws RX2 TX2 1
theorem nmX2 : ∀ a, a < 1 → ∀ b, b < 1 → a ≠ b → (TX2 a).2.1 ≠ (TX2 b).2.1 := by decide +kernel
theorem tyX2_ok : ∀ k, k < 1 → parseFieldDescriptor (TX2 k).2.2.1 = some (tyX2 k) := by decide +kernel
abbrev cX2_init : ByteArray := prog_2_method_1_code
def yX2_init : MethodName := ⟨RX2, "<init>", "()V"⟩
def dkwX2_init_0 : List UInt8 := [42, 183, 0, 1, 42, 3, 181, 0, 7, 177]
abbrev dktX2_init_0 : List UInt8 := dkwX2_init_0 ++ []
theorem dksX2_init_0 : cX2_init.data.toList.drop 0 = dktX2_init_0 := by decide +kernel
theorem dX2_init_0 : decode cX2_init 0 = .ok (.aload_n 0, 1) := dk_42 (dk_at dksX2_init_0 0 rfl rfl)
theorem dX2_init_1 : decode cX2_init 1 = .ok (.invokespecial 1, 3) := dk_183 0 1 (dk_at dksX2_init_0 1 rfl rfl)
theorem dX2_init_4 : decode cX2_init 4 = .ok (.aload_n 0, 1) := dk_42 (dk_at dksX2_init_0 4 rfl rfl)
theorem dX2_init_5 : decode cX2_init 5 = .ok (.iconst 0, 1) := dk_3 (dk_at dksX2_init_0 5 rfl rfl)
theorem dX2_init_6 : decode cX2_init 6 = .ok (.putfield 7, 3) := dk_181 0 7 (dk_at dksX2_init_0 6 rfl rfl)
theorem dX2_init_9 : decode cX2_init 9 = .ok (.return_, 1) := dk_177 (dk_at dksX2_init_0 9 rfl rfl)
abbrev cX2_update : ByteArray := prog_2_method_2_code
def yX2_update : MethodName := ⟨RX2, "update", "([BII)V"⟩
def dkwX2_update_2 : List UInt8 := [2, 130, 181, 0, 7, 177]
abbrev dktX2_update_2 : List UInt8 := dkwX2_update_2 ++ []
def dkwX2_update_1 : List UInt8 := [132, 2, 1, 51, 130, 17, 0, 255, 126, 46, 21, 4, 16, 8, 124, 130, 54, 4, 167, 255, 224, 42, 21, 4]
abbrev dktX2_update_1 : List UInt8 := dkwX2_update_1 ++ dktX2_update_2
def dkwX2_update_0 : List UInt8 := [42, 180, 0, 7, 2, 130, 54, 4, 132, 3, 255, 29, 155, 0, 31, 178, 0, 13, 21, 4, 43, 28]
abbrev dktX2_update_0 : List UInt8 := dkwX2_update_0 ++ dktX2_update_1
theorem dksX2_update_0 : cX2_update.data.toList.drop 0 = dktX2_update_0 := by decide +kernel
theorem dksX2_update_1 : cX2_update.data.toList.drop 22 = dktX2_update_1 := dk_seg dksX2_update_0 22 rfl rfl
theorem dksX2_update_2 : cX2_update.data.toList.drop 46 = dktX2_update_2 := dk_seg dksX2_update_1 24 rfl rfl
theorem dX2_update_0 : decode cX2_update 0 = .ok (.aload_n 0, 1) := dk_42 (dk_at dksX2_update_0 0 rfl rfl)
theorem dX2_update_1 : decode cX2_update 1 = .ok (.getfield 7, 3) := dk_180 0 7 (dk_at dksX2_update_0 1 rfl rfl)
theorem dX2_update_4 : decode cX2_update 4 = .ok (.iconst (-1), 1) := dk_2 (dk_at dksX2_update_0 4 rfl rfl)
theorem dX2_update_5 : decode cX2_update 5 = .ok (.ixor, 1) := dk_130 (dk_at dksX2_update_0 5 rfl rfl)
theorem dX2_update_6 : decode cX2_update 6 = .ok (.istore 4, 2) := dk_54 4 (dk_at dksX2_update_0 6 rfl rfl)
theorem dX2_update_8 : decode cX2_update 8 = .ok (.iinc 3 (-1), 3) := dk_132 3 255 (dk_at dksX2_update_0 8 rfl rfl)
theorem dX2_update_11 : decode cX2_update 11 = .ok (.iload_n 3, 1) := dk_29 (dk_at dksX2_update_0 11 rfl rfl)
theorem dX2_update_12 : decode cX2_update 12 = .ok (.ifCond .lt 31, 3) := dk_155 0 31 (dk_at dksX2_update_0 12 rfl rfl)
theorem dX2_update_15 : decode cX2_update 15 = .ok (.getstatic 13, 3) := dk_178 0 13 (dk_at dksX2_update_0 15 rfl rfl)
theorem dX2_update_18 : decode cX2_update 18 = .ok (.iload 4, 2) := dk_21 4 (dk_at dksX2_update_0 18 rfl rfl)
theorem dX2_update_20 : decode cX2_update 20 = .ok (.aload_n 1, 1) := dk_43 (dk_at dksX2_update_0 20 rfl rfl)
theorem dX2_update_21 : decode cX2_update 21 = .ok (.iload_n 2, 1) := dk_28 (dk_at dksX2_update_0 21 rfl rfl)
theorem dX2_update_22 : decode cX2_update 22 = .ok (.iinc 2 1, 3) := dk_132 2 1 (dk_at dksX2_update_1 0 rfl rfl)
theorem dX2_update_25 : decode cX2_update 25 = .ok (.baload, 1) := dk_51 (dk_at dksX2_update_1 3 rfl rfl)
theorem dX2_update_26 : decode cX2_update 26 = .ok (.ixor, 1) := dk_130 (dk_at dksX2_update_1 4 rfl rfl)
theorem dX2_update_27 : decode cX2_update 27 = .ok (.sipush 255, 3) := dk_17 0 255 (dk_at dksX2_update_1 5 rfl rfl)
theorem dX2_update_30 : decode cX2_update 30 = .ok (.iand, 1) := dk_126 (dk_at dksX2_update_1 8 rfl rfl)
theorem dX2_update_31 : decode cX2_update 31 = .ok (.iaload, 1) := dk_46 (dk_at dksX2_update_1 9 rfl rfl)
theorem dX2_update_32 : decode cX2_update 32 = .ok (.iload 4, 2) := dk_21 4 (dk_at dksX2_update_1 10 rfl rfl)
theorem dX2_update_34 : decode cX2_update 34 = .ok (.bipush 8, 2) := dk_16 8 (dk_at dksX2_update_1 12 rfl rfl)
theorem dX2_update_36 : decode cX2_update 36 = .ok (.iushr, 1) := dk_124 (dk_at dksX2_update_1 14 rfl rfl)
theorem dX2_update_37 : decode cX2_update 37 = .ok (.ixor, 1) := dk_130 (dk_at dksX2_update_1 15 rfl rfl)
theorem dX2_update_38 : decode cX2_update 38 = .ok (.istore 4, 2) := dk_54 4 (dk_at dksX2_update_1 16 rfl rfl)
theorem dX2_update_40 : decode cX2_update 40 = .ok (.goto (-32), 3) := dk_167 255 224 (dk_at dksX2_update_1 18 rfl rfl)
theorem dX2_update_43 : decode cX2_update 43 = .ok (.aload_n 0, 1) := dk_42 (dk_at dksX2_update_1 21 rfl rfl)
theorem dX2_update_44 : decode cX2_update 44 = .ok (.iload 4, 2) := dk_21 4 (dk_at dksX2_update_1 22 rfl rfl)
theorem dX2_update_46 : decode cX2_update 46 = .ok (.iconst (-1), 1) := dk_2 (dk_at dksX2_update_2 0 rfl rfl)
theorem dX2_update_47 : decode cX2_update 47 = .ok (.ixor, 1) := dk_130 (dk_at dksX2_update_2 1 rfl rfl)
theorem dX2_update_48 : decode cX2_update 48 = .ok (.putfield 7, 3) := dk_181 0 7 (dk_at dksX2_update_2 2 rfl rfl)
theorem dX2_update_51 : decode cX2_update 51 = .ok (.return_, 1) := dk_177 (dk_at dksX2_update_2 5 rfl rfl)
abbrev cX2_getValue : ByteArray := prog_2_method_3_code
def yX2_getValue : MethodName := ⟨RX2, "getValue", "()J"⟩
def dkwX2_getValue_0 : List UInt8 := [42, 180, 0, 7, 133, 20, 0, 17, 127, 173]
abbrev dktX2_getValue_0 : List UInt8 := dkwX2_getValue_0 ++ []
theorem dksX2_getValue_0 : cX2_getValue.data.toList.drop 0 = dktX2_getValue_0 := by decide +kernel
theorem dX2_getValue_0 : decode cX2_getValue 0 = .ok (.aload_n 0, 1) := dk_42 (dk_at dksX2_getValue_0 0 rfl rfl)
theorem dX2_getValue_1 : decode cX2_getValue 1 = .ok (.getfield 7, 3) := dk_180 0 7 (dk_at dksX2_getValue_0 1 rfl rfl)
theorem dX2_getValue_4 : decode cX2_getValue 4 = .ok (.i2l, 1) := dk_133 (dk_at dksX2_getValue_0 4 rfl rfl)
theorem dX2_getValue_5 : decode cX2_getValue 5 = .ok (.ldc2_w 17, 3) := dk_20 0 17 (dk_at dksX2_getValue_0 5 rfl rfl)
theorem dX2_getValue_8 : decode cX2_getValue 8 = .ok (.land, 1) := dk_127 (dk_at dksX2_getValue_0 8 rfl rfl)
theorem dX2_getValue_9 : decode cX2_getValue 9 = .ok (.lreturn, 1) := dk_173 (dk_at dksX2_getValue_0 9 rfl rfl)
abbrev cX2_combine : ByteArray := prog_2_method_4_code
def yX2_combine : MethodName := ⟨RX2, "combine", "(JJJ)J"⟩
def dkwX2_combine_6 : List UInt8 := [55, 4, 22, 4, 9, 148, 154, 255, 184, 30, 32, 131, 63, 30, 173]
abbrev dktX2_combine_6 : List UInt8 := dkwX2_combine_6 ++ []
def dkwX2_combine_5 : List UInt8 := [184, 0, 21, 22, 4, 10, 127, 9, 148, 153, 0, 10, 25, 9, 30, 184, 0, 25, 63, 22, 4, 4, 123]
abbrev dktX2_combine_5 : List UInt8 := dkwX2_combine_5 ++ dktX2_combine_6
def dkwX2_combine_4 : List UInt8 := [184, 0, 25, 63, 22, 4, 4, 123, 55, 4, 22, 4, 9, 148, 154, 0, 6, 167, 0, 39, 25, 9, 25, 8]
abbrev dktX2_combine_4 : List UInt8 := dkwX2_combine_4 ++ dktX2_combine_5
def dkwX2_combine_3 : List UInt8 := [184, 0, 21, 25, 8, 25, 9, 184, 0, 21, 22, 4, 10, 127, 9, 148, 153, 0, 10, 25, 8, 30]
abbrev dktX2_combine_3 : List UInt8 := dkwX2_combine_3 ++ dktX2_combine_4
def dkwX2_combine_2 : List UInt8 := [22, 6, 4, 121, 55, 6, 132, 10, 1, 167, 255, 233, 25, 8, 25, 9, 184, 0, 21, 25, 9, 25, 8]
abbrev dktX2_combine_2 : List UInt8 := dkwX2_combine_2 ++ dktX2_combine_3
def dkwX2_combine_1 : List UInt8 := [20, 0, 19, 80, 10, 55, 6, 4, 54, 10, 21, 10, 16, 32, 162, 0, 22, 25, 9, 21, 10, 22, 6, 80]
abbrev dktX2_combine_1 : List UInt8 := dkwX2_combine_1 ++ dktX2_combine_2
def dkwX2_combine_0 : List UInt8 := [16, 32, 188, 11, 58, 8, 16, 32, 188, 11, 58, 9, 22, 4, 9, 148, 157, 0, 5, 30, 173, 25, 9, 3]
abbrev dktX2_combine_0 : List UInt8 := dkwX2_combine_0 ++ dktX2_combine_1
theorem dksX2_combine_0 : cX2_combine.data.toList.drop 0 = dktX2_combine_0 := by decide +kernel
theorem dksX2_combine_1 : cX2_combine.data.toList.drop 24 = dktX2_combine_1 := dk_seg dksX2_combine_0 24 rfl rfl
theorem dksX2_combine_2 : cX2_combine.data.toList.drop 48 = dktX2_combine_2 := dk_seg dksX2_combine_1 24 rfl rfl
theorem dksX2_combine_3 : cX2_combine.data.toList.drop 71 = dktX2_combine_3 := dk_seg dksX2_combine_2 23 rfl rfl
theorem dksX2_combine_4 : cX2_combine.data.toList.drop 93 = dktX2_combine_4 := dk_seg dksX2_combine_3 22 rfl rfl
theorem dksX2_combine_5 : cX2_combine.data.toList.drop 117 = dktX2_combine_5 := dk_seg dksX2_combine_4 24 rfl rfl
theorem dksX2_combine_6 : cX2_combine.data.toList.drop 140 = dktX2_combine_6 := dk_seg dksX2_combine_5 23 rfl rfl
theorem dX2_combine_0 : decode cX2_combine 0 = .ok (.bipush 32, 2) := dk_16 32 (dk_at dksX2_combine_0 0 rfl rfl)
theorem dX2_combine_2 : decode cX2_combine 2 = .ok (.newarray .long, 2) := dk_188_11 (dk_at dksX2_combine_0 2 rfl rfl)
theorem dX2_combine_4 : decode cX2_combine 4 = .ok (.astore 8, 2) := dk_58 8 (dk_at dksX2_combine_0 4 rfl rfl)
theorem dX2_combine_6 : decode cX2_combine 6 = .ok (.bipush 32, 2) := dk_16 32 (dk_at dksX2_combine_0 6 rfl rfl)
theorem dX2_combine_8 : decode cX2_combine 8 = .ok (.newarray .long, 2) := dk_188_11 (dk_at dksX2_combine_0 8 rfl rfl)
theorem dX2_combine_10 : decode cX2_combine 10 = .ok (.astore 9, 2) := dk_58 9 (dk_at dksX2_combine_0 10 rfl rfl)
theorem dX2_combine_12 : decode cX2_combine 12 = .ok (.lload 4, 2) := dk_22 4 (dk_at dksX2_combine_0 12 rfl rfl)
theorem dX2_combine_14 : decode cX2_combine 14 = .ok (.lconst 0, 1) := dk_9 (dk_at dksX2_combine_0 14 rfl rfl)
theorem dX2_combine_15 : decode cX2_combine 15 = .ok (.lcmp, 1) := dk_148 (dk_at dksX2_combine_0 15 rfl rfl)
theorem dX2_combine_16 : decode cX2_combine 16 = .ok (.ifCond .gt 5, 3) := dk_157 0 5 (dk_at dksX2_combine_0 16 rfl rfl)
theorem dX2_combine_19 : decode cX2_combine 19 = .ok (.lload_n 0, 1) := dk_30 (dk_at dksX2_combine_0 19 rfl rfl)
theorem dX2_combine_20 : decode cX2_combine 20 = .ok (.lreturn, 1) := dk_173 (dk_at dksX2_combine_0 20 rfl rfl)
theorem dX2_combine_21 : decode cX2_combine 21 = .ok (.aload 9, 2) := dk_25 9 (dk_at dksX2_combine_0 21 rfl rfl)
theorem dX2_combine_23 : decode cX2_combine 23 = .ok (.iconst 0, 1) := dk_3 (dk_at dksX2_combine_0 23 rfl rfl)
theorem dX2_combine_24 : decode cX2_combine 24 = .ok (.ldc2_w 19, 3) := dk_20 0 19 (dk_at dksX2_combine_1 0 rfl rfl)
theorem dX2_combine_27 : decode cX2_combine 27 = .ok (.lastore, 1) := dk_80 (dk_at dksX2_combine_1 3 rfl rfl)
theorem dX2_combine_28 : decode cX2_combine 28 = .ok (.lconst 1, 1) := dk_10 (dk_at dksX2_combine_1 4 rfl rfl)
theorem dX2_combine_29 : decode cX2_combine 29 = .ok (.lstore 6, 2) := dk_55 6 (dk_at dksX2_combine_1 5 rfl rfl)
theorem dX2_combine_31 : decode cX2_combine 31 = .ok (.iconst 1, 1) := dk_4 (dk_at dksX2_combine_1 7 rfl rfl)
theorem dX2_combine_32 : decode cX2_combine 32 = .ok (.istore 10, 2) := dk_54 10 (dk_at dksX2_combine_1 8 rfl rfl)
theorem dX2_combine_34 : decode cX2_combine 34 = .ok (.iload 10, 2) := dk_21 10 (dk_at dksX2_combine_1 10 rfl rfl)
theorem dX2_combine_36 : decode cX2_combine 36 = .ok (.bipush 32, 2) := dk_16 32 (dk_at dksX2_combine_1 12 rfl rfl)
theorem dX2_combine_38 : decode cX2_combine 38 = .ok (.if_icmp .ge 22, 3) := dk_162 0 22 (dk_at dksX2_combine_1 14 rfl rfl)
theorem dX2_combine_41 : decode cX2_combine 41 = .ok (.aload 9, 2) := dk_25 9 (dk_at dksX2_combine_1 17 rfl rfl)
theorem dX2_combine_43 : decode cX2_combine 43 = .ok (.iload 10, 2) := dk_21 10 (dk_at dksX2_combine_1 19 rfl rfl)
theorem dX2_combine_45 : decode cX2_combine 45 = .ok (.lload 6, 2) := dk_22 6 (dk_at dksX2_combine_1 21 rfl rfl)
theorem dX2_combine_47 : decode cX2_combine 47 = .ok (.lastore, 1) := dk_80 (dk_at dksX2_combine_1 23 rfl rfl)
theorem dX2_combine_48 : decode cX2_combine 48 = .ok (.lload 6, 2) := dk_22 6 (dk_at dksX2_combine_2 0 rfl rfl)
theorem dX2_combine_50 : decode cX2_combine 50 = .ok (.iconst 1, 1) := dk_4 (dk_at dksX2_combine_2 2 rfl rfl)
theorem dX2_combine_51 : decode cX2_combine 51 = .ok (.lshl, 1) := dk_121 (dk_at dksX2_combine_2 3 rfl rfl)
theorem dX2_combine_52 : decode cX2_combine 52 = .ok (.lstore 6, 2) := dk_55 6 (dk_at dksX2_combine_2 4 rfl rfl)
theorem dX2_combine_54 : decode cX2_combine 54 = .ok (.iinc 10 1, 3) := dk_132 10 1 (dk_at dksX2_combine_2 6 rfl rfl)
theorem dX2_combine_57 : decode cX2_combine 57 = .ok (.goto (-23), 3) := dk_167 255 233 (dk_at dksX2_combine_2 9 rfl rfl)
theorem dX2_combine_60 : decode cX2_combine 60 = .ok (.aload 8, 2) := dk_25 8 (dk_at dksX2_combine_2 12 rfl rfl)
theorem dX2_combine_62 : decode cX2_combine 62 = .ok (.aload 9, 2) := dk_25 9 (dk_at dksX2_combine_2 14 rfl rfl)
theorem dX2_combine_64 : decode cX2_combine 64 = .ok (.invokestatic 21, 3) := dk_184 0 21 (dk_at dksX2_combine_2 16 rfl rfl)
theorem dX2_combine_67 : decode cX2_combine 67 = .ok (.aload 9, 2) := dk_25 9 (dk_at dksX2_combine_2 19 rfl rfl)
theorem dX2_combine_69 : decode cX2_combine 69 = .ok (.aload 8, 2) := dk_25 8 (dk_at dksX2_combine_2 21 rfl rfl)
theorem dX2_combine_71 : decode cX2_combine 71 = .ok (.invokestatic 21, 3) := dk_184 0 21 (dk_at dksX2_combine_3 0 rfl rfl)
theorem dX2_combine_74 : decode cX2_combine 74 = .ok (.aload 8, 2) := dk_25 8 (dk_at dksX2_combine_3 3 rfl rfl)
theorem dX2_combine_76 : decode cX2_combine 76 = .ok (.aload 9, 2) := dk_25 9 (dk_at dksX2_combine_3 5 rfl rfl)
theorem dX2_combine_78 : decode cX2_combine 78 = .ok (.invokestatic 21, 3) := dk_184 0 21 (dk_at dksX2_combine_3 7 rfl rfl)
theorem dX2_combine_81 : decode cX2_combine 81 = .ok (.lload 4, 2) := dk_22 4 (dk_at dksX2_combine_3 10 rfl rfl)
theorem dX2_combine_83 : decode cX2_combine 83 = .ok (.lconst 1, 1) := dk_10 (dk_at dksX2_combine_3 12 rfl rfl)
theorem dX2_combine_84 : decode cX2_combine 84 = .ok (.land, 1) := dk_127 (dk_at dksX2_combine_3 13 rfl rfl)
theorem dX2_combine_85 : decode cX2_combine 85 = .ok (.lconst 0, 1) := dk_9 (dk_at dksX2_combine_3 14 rfl rfl)
theorem dX2_combine_86 : decode cX2_combine 86 = .ok (.lcmp, 1) := dk_148 (dk_at dksX2_combine_3 15 rfl rfl)
theorem dX2_combine_87 : decode cX2_combine 87 = .ok (.ifCond .eq 10, 3) := dk_153 0 10 (dk_at dksX2_combine_3 16 rfl rfl)
theorem dX2_combine_90 : decode cX2_combine 90 = .ok (.aload 8, 2) := dk_25 8 (dk_at dksX2_combine_3 19 rfl rfl)
theorem dX2_combine_92 : decode cX2_combine 92 = .ok (.lload_n 0, 1) := dk_30 (dk_at dksX2_combine_3 21 rfl rfl)
theorem dX2_combine_93 : decode cX2_combine 93 = .ok (.invokestatic 25, 3) := dk_184 0 25 (dk_at dksX2_combine_4 0 rfl rfl)
theorem dX2_combine_96 : decode cX2_combine 96 = .ok (.lstore_n 0, 1) := dk_63 (dk_at dksX2_combine_4 3 rfl rfl)
theorem dX2_combine_97 : decode cX2_combine 97 = .ok (.lload 4, 2) := dk_22 4 (dk_at dksX2_combine_4 4 rfl rfl)
theorem dX2_combine_99 : decode cX2_combine 99 = .ok (.iconst 1, 1) := dk_4 (dk_at dksX2_combine_4 6 rfl rfl)
theorem dX2_combine_100 : decode cX2_combine 100 = .ok (.lshr, 1) := dk_123 (dk_at dksX2_combine_4 7 rfl rfl)
theorem dX2_combine_101 : decode cX2_combine 101 = .ok (.lstore 4, 2) := dk_55 4 (dk_at dksX2_combine_4 8 rfl rfl)
theorem dX2_combine_103 : decode cX2_combine 103 = .ok (.lload 4, 2) := dk_22 4 (dk_at dksX2_combine_4 10 rfl rfl)
theorem dX2_combine_105 : decode cX2_combine 105 = .ok (.lconst 0, 1) := dk_9 (dk_at dksX2_combine_4 12 rfl rfl)
theorem dX2_combine_106 : decode cX2_combine 106 = .ok (.lcmp, 1) := dk_148 (dk_at dksX2_combine_4 13 rfl rfl)
theorem dX2_combine_107 : decode cX2_combine 107 = .ok (.ifCond .ne 6, 3) := dk_154 0 6 (dk_at dksX2_combine_4 14 rfl rfl)
theorem dX2_combine_110 : decode cX2_combine 110 = .ok (.goto 39, 3) := dk_167 0 39 (dk_at dksX2_combine_4 17 rfl rfl)
theorem dX2_combine_113 : decode cX2_combine 113 = .ok (.aload 9, 2) := dk_25 9 (dk_at dksX2_combine_4 20 rfl rfl)
theorem dX2_combine_115 : decode cX2_combine 115 = .ok (.aload 8, 2) := dk_25 8 (dk_at dksX2_combine_4 22 rfl rfl)
theorem dX2_combine_117 : decode cX2_combine 117 = .ok (.invokestatic 21, 3) := dk_184 0 21 (dk_at dksX2_combine_5 0 rfl rfl)
theorem dX2_combine_120 : decode cX2_combine 120 = .ok (.lload 4, 2) := dk_22 4 (dk_at dksX2_combine_5 3 rfl rfl)
theorem dX2_combine_122 : decode cX2_combine 122 = .ok (.lconst 1, 1) := dk_10 (dk_at dksX2_combine_5 5 rfl rfl)
theorem dX2_combine_123 : decode cX2_combine 123 = .ok (.land, 1) := dk_127 (dk_at dksX2_combine_5 6 rfl rfl)
theorem dX2_combine_124 : decode cX2_combine 124 = .ok (.lconst 0, 1) := dk_9 (dk_at dksX2_combine_5 7 rfl rfl)
theorem dX2_combine_125 : decode cX2_combine 125 = .ok (.lcmp, 1) := dk_148 (dk_at dksX2_combine_5 8 rfl rfl)
theorem dX2_combine_126 : decode cX2_combine 126 = .ok (.ifCond .eq 10, 3) := dk_153 0 10 (dk_at dksX2_combine_5 9 rfl rfl)
theorem dX2_combine_129 : decode cX2_combine 129 = .ok (.aload 9, 2) := dk_25 9 (dk_at dksX2_combine_5 12 rfl rfl)
theorem dX2_combine_131 : decode cX2_combine 131 = .ok (.lload_n 0, 1) := dk_30 (dk_at dksX2_combine_5 14 rfl rfl)
theorem dX2_combine_132 : decode cX2_combine 132 = .ok (.invokestatic 25, 3) := dk_184 0 25 (dk_at dksX2_combine_5 15 rfl rfl)
theorem dX2_combine_135 : decode cX2_combine 135 = .ok (.lstore_n 0, 1) := dk_63 (dk_at dksX2_combine_5 18 rfl rfl)
theorem dX2_combine_136 : decode cX2_combine 136 = .ok (.lload 4, 2) := dk_22 4 (dk_at dksX2_combine_5 19 rfl rfl)
theorem dX2_combine_138 : decode cX2_combine 138 = .ok (.iconst 1, 1) := dk_4 (dk_at dksX2_combine_5 21 rfl rfl)
theorem dX2_combine_139 : decode cX2_combine 139 = .ok (.lshr, 1) := dk_123 (dk_at dksX2_combine_5 22 rfl rfl)
theorem dX2_combine_140 : decode cX2_combine 140 = .ok (.lstore 4, 2) := dk_55 4 (dk_at dksX2_combine_6 0 rfl rfl)
theorem dX2_combine_142 : decode cX2_combine 142 = .ok (.lload 4, 2) := dk_22 4 (dk_at dksX2_combine_6 2 rfl rfl)
theorem dX2_combine_144 : decode cX2_combine 144 = .ok (.lconst 0, 1) := dk_9 (dk_at dksX2_combine_6 4 rfl rfl)
theorem dX2_combine_145 : decode cX2_combine 145 = .ok (.lcmp, 1) := dk_148 (dk_at dksX2_combine_6 5 rfl rfl)
theorem dX2_combine_146 : decode cX2_combine 146 = .ok (.ifCond .ne (-72), 3) := dk_154 255 184 (dk_at dksX2_combine_6 6 rfl rfl)
theorem dX2_combine_149 : decode cX2_combine 149 = .ok (.lload_n 0, 1) := dk_30 (dk_at dksX2_combine_6 9 rfl rfl)
theorem dX2_combine_150 : decode cX2_combine 150 = .ok (.lload_n 2, 1) := dk_32 (dk_at dksX2_combine_6 10 rfl rfl)
theorem dX2_combine_151 : decode cX2_combine 151 = .ok (.lxor, 1) := dk_131 (dk_at dksX2_combine_6 11 rfl rfl)
theorem dX2_combine_152 : decode cX2_combine 152 = .ok (.lstore_n 0, 1) := dk_63 (dk_at dksX2_combine_6 12 rfl rfl)
theorem dX2_combine_153 : decode cX2_combine 153 = .ok (.lload_n 0, 1) := dk_30 (dk_at dksX2_combine_6 13 rfl rfl)
theorem dX2_combine_154 : decode cX2_combine 154 = .ok (.lreturn, 1) := dk_173 (dk_at dksX2_combine_6 14 rfl rfl)
abbrev cX2_gf2_matrix_square : ByteArray := prog_2_method_6_code
def yX2_gf2_matrix_square : MethodName := ⟨RX2, "gf2_matrix_square", "([J[J)V"⟩
def dkwX2_gf2_matrix_square_1 : List UInt8 := [177]
abbrev dktX2_gf2_matrix_square_1 : List UInt8 := dkwX2_gf2_matrix_square_1 ++ []
def dkwX2_gf2_matrix_square_0 : List UInt8 := [3, 61, 28, 16, 32, 162, 0, 19, 42, 28, 43, 43, 28, 47, 184, 0, 25, 80, 132, 2, 1, 167, 255, 237]
abbrev dktX2_gf2_matrix_square_0 : List UInt8 := dkwX2_gf2_matrix_square_0 ++ dktX2_gf2_matrix_square_1
theorem dksX2_gf2_matrix_square_0 : cX2_gf2_matrix_square.data.toList.drop 0 = dktX2_gf2_matrix_square_0 := by decide +kernel
theorem dksX2_gf2_matrix_square_1 : cX2_gf2_matrix_square.data.toList.drop 24 = dktX2_gf2_matrix_square_1 := dk_seg dksX2_gf2_matrix_square_0 24 rfl rfl
theorem dX2_gf2_matrix_square_0 : decode cX2_gf2_matrix_square 0 = .ok (.iconst 0, 1) := dk_3 (dk_at dksX2_gf2_matrix_square_0 0 rfl rfl)
theorem dX2_gf2_matrix_square_1 : decode cX2_gf2_matrix_square 1 = .ok (.istore_n 2, 1) := dk_61 (dk_at dksX2_gf2_matrix_square_0 1 rfl rfl)
theorem dX2_gf2_matrix_square_2 : decode cX2_gf2_matrix_square 2 = .ok (.iload_n 2, 1) := dk_28 (dk_at dksX2_gf2_matrix_square_0 2 rfl rfl)
theorem dX2_gf2_matrix_square_3 : decode cX2_gf2_matrix_square 3 = .ok (.bipush 32, 2) := dk_16 32 (dk_at dksX2_gf2_matrix_square_0 3 rfl rfl)
theorem dX2_gf2_matrix_square_5 : decode cX2_gf2_matrix_square 5 = .ok (.if_icmp .ge 19, 3) := dk_162 0 19 (dk_at dksX2_gf2_matrix_square_0 5 rfl rfl)
theorem dX2_gf2_matrix_square_8 : decode cX2_gf2_matrix_square 8 = .ok (.aload_n 0, 1) := dk_42 (dk_at dksX2_gf2_matrix_square_0 8 rfl rfl)
theorem dX2_gf2_matrix_square_9 : decode cX2_gf2_matrix_square 9 = .ok (.iload_n 2, 1) := dk_28 (dk_at dksX2_gf2_matrix_square_0 9 rfl rfl)
theorem dX2_gf2_matrix_square_10 : decode cX2_gf2_matrix_square 10 = .ok (.aload_n 1, 1) := dk_43 (dk_at dksX2_gf2_matrix_square_0 10 rfl rfl)
theorem dX2_gf2_matrix_square_11 : decode cX2_gf2_matrix_square 11 = .ok (.aload_n 1, 1) := dk_43 (dk_at dksX2_gf2_matrix_square_0 11 rfl rfl)
theorem dX2_gf2_matrix_square_12 : decode cX2_gf2_matrix_square 12 = .ok (.iload_n 2, 1) := dk_28 (dk_at dksX2_gf2_matrix_square_0 12 rfl rfl)
theorem dX2_gf2_matrix_square_13 : decode cX2_gf2_matrix_square 13 = .ok (.laload, 1) := dk_47 (dk_at dksX2_gf2_matrix_square_0 13 rfl rfl)
theorem dX2_gf2_matrix_square_14 : decode cX2_gf2_matrix_square 14 = .ok (.invokestatic 25, 3) := dk_184 0 25 (dk_at dksX2_gf2_matrix_square_0 14 rfl rfl)
theorem dX2_gf2_matrix_square_17 : decode cX2_gf2_matrix_square 17 = .ok (.lastore, 1) := dk_80 (dk_at dksX2_gf2_matrix_square_0 17 rfl rfl)
theorem dX2_gf2_matrix_square_18 : decode cX2_gf2_matrix_square 18 = .ok (.iinc 2 1, 3) := dk_132 2 1 (dk_at dksX2_gf2_matrix_square_0 18 rfl rfl)
theorem dX2_gf2_matrix_square_21 : decode cX2_gf2_matrix_square 21 = .ok (.goto (-19), 3) := dk_167 255 237 (dk_at dksX2_gf2_matrix_square_0 21 rfl rfl)
theorem dX2_gf2_matrix_square_24 : decode cX2_gf2_matrix_square 24 = .ok (.return_, 1) := dk_177 (dk_at dksX2_gf2_matrix_square_1 0 rfl rfl)
abbrev cX2_gf2_matrix_times : ByteArray := prog_2_method_5_code
def yX2_gf2_matrix_times : MethodName := ⟨RX2, "gf2_matrix_times", "([JJ)J"⟩
def dkwX2_gf2_matrix_times_1 : List UInt8 := [131, 66, 31, 4, 123, 64, 132, 5, 1, 167, 255, 228, 33, 173]
abbrev dktX2_gf2_matrix_times_1 : List UInt8 := dkwX2_gf2_matrix_times_1 ++ []
def dkwX2_gf2_matrix_times_0 : List UInt8 := [9, 66, 3, 54, 5, 31, 9, 148, 153, 0, 28, 31, 10, 127, 9, 148, 153, 0, 10, 33, 42, 21, 5, 47]
abbrev dktX2_gf2_matrix_times_0 : List UInt8 := dkwX2_gf2_matrix_times_0 ++ dktX2_gf2_matrix_times_1
theorem dksX2_gf2_matrix_times_0 : cX2_gf2_matrix_times.data.toList.drop 0 = dktX2_gf2_matrix_times_0 := by decide +kernel
theorem dksX2_gf2_matrix_times_1 : cX2_gf2_matrix_times.data.toList.drop 24 = dktX2_gf2_matrix_times_1 := dk_seg dksX2_gf2_matrix_times_0 24 rfl rfl
theorem dX2_gf2_matrix_times_0 : decode cX2_gf2_matrix_times 0 = .ok (.lconst 0, 1) := dk_9 (dk_at dksX2_gf2_matrix_times_0 0 rfl rfl)
theorem dX2_gf2_matrix_times_1 : decode cX2_gf2_matrix_times 1 = .ok (.lstore_n 3, 1) := dk_66 (dk_at dksX2_gf2_matrix_times_0 1 rfl rfl)
theorem dX2_gf2_matrix_times_2 : decode cX2_gf2_matrix_times 2 = .ok (.iconst 0, 1) := dk_3 (dk_at dksX2_gf2_matrix_times_0 2 rfl rfl)
theorem dX2_gf2_matrix_times_3 : decode cX2_gf2_matrix_times 3 = .ok (.istore 5, 2) := dk_54 5 (dk_at dksX2_gf2_matrix_times_0 3 rfl rfl)
theorem dX2_gf2_matrix_times_5 : decode cX2_gf2_matrix_times 5 = .ok (.lload_n 1, 1) := dk_31 (dk_at dksX2_gf2_matrix_times_0 5 rfl rfl)
theorem dX2_gf2_matrix_times_6 : decode cX2_gf2_matrix_times 6 = .ok (.lconst 0, 1) := dk_9 (dk_at dksX2_gf2_matrix_times_0 6 rfl rfl)
theorem dX2_gf2_matrix_times_7 : decode cX2_gf2_matrix_times 7 = .ok (.lcmp, 1) := dk_148 (dk_at dksX2_gf2_matrix_times_0 7 rfl rfl)
theorem dX2_gf2_matrix_times_8 : decode cX2_gf2_matrix_times 8 = .ok (.ifCond .eq 28, 3) := dk_153 0 28 (dk_at dksX2_gf2_matrix_times_0 8 rfl rfl)
theorem dX2_gf2_matrix_times_11 : decode cX2_gf2_matrix_times 11 = .ok (.lload_n 1, 1) := dk_31 (dk_at dksX2_gf2_matrix_times_0 11 rfl rfl)
theorem dX2_gf2_matrix_times_12 : decode cX2_gf2_matrix_times 12 = .ok (.lconst 1, 1) := dk_10 (dk_at dksX2_gf2_matrix_times_0 12 rfl rfl)
theorem dX2_gf2_matrix_times_13 : decode cX2_gf2_matrix_times 13 = .ok (.land, 1) := dk_127 (dk_at dksX2_gf2_matrix_times_0 13 rfl rfl)
theorem dX2_gf2_matrix_times_14 : decode cX2_gf2_matrix_times 14 = .ok (.lconst 0, 1) := dk_9 (dk_at dksX2_gf2_matrix_times_0 14 rfl rfl)
theorem dX2_gf2_matrix_times_15 : decode cX2_gf2_matrix_times 15 = .ok (.lcmp, 1) := dk_148 (dk_at dksX2_gf2_matrix_times_0 15 rfl rfl)
theorem dX2_gf2_matrix_times_16 : decode cX2_gf2_matrix_times 16 = .ok (.ifCond .eq 10, 3) := dk_153 0 10 (dk_at dksX2_gf2_matrix_times_0 16 rfl rfl)
theorem dX2_gf2_matrix_times_19 : decode cX2_gf2_matrix_times 19 = .ok (.lload_n 3, 1) := dk_33 (dk_at dksX2_gf2_matrix_times_0 19 rfl rfl)
theorem dX2_gf2_matrix_times_20 : decode cX2_gf2_matrix_times 20 = .ok (.aload_n 0, 1) := dk_42 (dk_at dksX2_gf2_matrix_times_0 20 rfl rfl)
theorem dX2_gf2_matrix_times_21 : decode cX2_gf2_matrix_times 21 = .ok (.iload 5, 2) := dk_21 5 (dk_at dksX2_gf2_matrix_times_0 21 rfl rfl)
theorem dX2_gf2_matrix_times_23 : decode cX2_gf2_matrix_times 23 = .ok (.laload, 1) := dk_47 (dk_at dksX2_gf2_matrix_times_0 23 rfl rfl)
theorem dX2_gf2_matrix_times_24 : decode cX2_gf2_matrix_times 24 = .ok (.lxor, 1) := dk_131 (dk_at dksX2_gf2_matrix_times_1 0 rfl rfl)
theorem dX2_gf2_matrix_times_25 : decode cX2_gf2_matrix_times 25 = .ok (.lstore_n 3, 1) := dk_66 (dk_at dksX2_gf2_matrix_times_1 1 rfl rfl)
theorem dX2_gf2_matrix_times_26 : decode cX2_gf2_matrix_times 26 = .ok (.lload_n 1, 1) := dk_31 (dk_at dksX2_gf2_matrix_times_1 2 rfl rfl)
theorem dX2_gf2_matrix_times_27 : decode cX2_gf2_matrix_times 27 = .ok (.iconst 1, 1) := dk_4 (dk_at dksX2_gf2_matrix_times_1 3 rfl rfl)
theorem dX2_gf2_matrix_times_28 : decode cX2_gf2_matrix_times 28 = .ok (.lshr, 1) := dk_123 (dk_at dksX2_gf2_matrix_times_1 4 rfl rfl)
theorem dX2_gf2_matrix_times_29 : decode cX2_gf2_matrix_times 29 = .ok (.lstore_n 1, 1) := dk_64 (dk_at dksX2_gf2_matrix_times_1 5 rfl rfl)
theorem dX2_gf2_matrix_times_30 : decode cX2_gf2_matrix_times 30 = .ok (.iinc 5 1, 3) := dk_132 5 1 (dk_at dksX2_gf2_matrix_times_1 6 rfl rfl)
theorem dX2_gf2_matrix_times_33 : decode cX2_gf2_matrix_times 33 = .ok (.goto (-28), 3) := dk_167 255 228 (dk_at dksX2_gf2_matrix_times_1 9 rfl rfl)
theorem dX2_gf2_matrix_times_36 : decode cX2_gf2_matrix_times 36 = .ok (.lload_n 3, 1) := dk_33 (dk_at dksX2_gf2_matrix_times_1 12 rfl rfl)
theorem dX2_gf2_matrix_times_37 : decode cX2_gf2_matrix_times 37 = .ok (.lreturn, 1) := dk_173 (dk_at dksX2_gf2_matrix_times_1 13 rfl rfl)
theorem q9 : (Jvm.Cond.initialized "CRC32") ∈ lw_all := lw_g (lw_at lw_m0 3 rfl) rfl
theorem q60 : (Jvm.Cond.instantiable "CRC32" (1 : Nat)) ∈ lw_all := lw_g (lw_at lw_m0 54 rfl) rfl
theorem q62 : (Jvm.Cond.instanceMethod ({ cls := "CRC32", name := "<init>", desc := "()V" } : Jvm.MethodName)) ∈ lw_all := lw_g (lw_at lw_m0 56 rfl) rfl
theorem q63 : (Jvm.Cond.code ({ cls := "CRC32", name := "<init>", desc := "()V" } : Jvm.MethodName) prog_2_method_1_code (1 : Nat) (Option.none : Option Jvm.ClassFile.FieldType)) ∈ lw_all := lw_g (lw_at lw_m0 57 rfl) rfl
theorem q64 : (Jvm.Cond.methodLink "CRC32" (1 : Nat) ({ cls := "java/lang/Object", name := "<init>", desc := "()V" } : Jvm.MethodName)) ∈ lw_all := lw_g (lw_at lw_m0 58 rfl) rfl
theorem q65 : (Jvm.Cond.fieldLink "CRC32" (7 : Nat) "CRC32" "v" "I") ∈ lw_all := lw_g (lw_at lw_m0 59 rfl) rfl
theorem q66 : (Jvm.Cond.lays "CRC32" "CRC32" "v" "I") ∈ lw_all := lw_g (lw_at lw_m0 60 rfl) rfl
theorem q67 : (Jvm.Cond.soleField "CRC32" "v") ∈ lw_all := lw_g (lw_at lw_m0 61 rfl) rfl
theorem q68 : (Jvm.Cond.superclass "CRC32" "java/lang/Object") ∈ lw_all := lw_g (lw_at lw_m0 62 rfl) rfl
theorem q70 : (Jvm.Cond.instanceMethod ({ cls := "CRC32", name := "update", desc := "([BII)V" } : Jvm.MethodName)) ∈ lw_all := lw_g (lw_at lw_m0 64 rfl) rfl
theorem q71 : (Jvm.Cond.selects "CRC32" ({ cls := "CRC32", name := "update", desc := "([BII)V" } : Jvm.MethodName) ({ cls := "CRC32", name := "update", desc := "([BII)V" } : Jvm.MethodName)) ∈ lw_all := lw_g (lw_at lw_m0 65 rfl) rfl
theorem q72 : (Jvm.Cond.code ({ cls := "CRC32", name := "update", desc := "([BII)V" } : Jvm.MethodName) prog_2_method_2_code (5 : Nat) (Option.none : Option Jvm.ClassFile.FieldType)) ∈ lw_all := lw_g (lw_at lw_m0 66 rfl) rfl
theorem q73 : (Jvm.Cond.fieldLink "CRC32" (13 : Nat) "CRC32" "crc_table" "[I") ∈ lw_all := lw_g (lw_at lw_m0 67 rfl) rfl
theorem q74 : (Jvm.Cond.laysStatic "CRC32" "crc_table" "[I") ∈ lw_tbl := lw_at lw_m0 68 rfl
theorem q76 : (Jvm.Cond.instanceMethod ({ cls := "CRC32", name := "getValue", desc := "()J" } : Jvm.MethodName)) ∈ lw_all := lw_g (lw_at lw_m0 70 rfl) rfl
theorem q77 : (Jvm.Cond.selects "CRC32" ({ cls := "CRC32", name := "getValue", desc := "()J" } : Jvm.MethodName) ({ cls := "CRC32", name := "getValue", desc := "()J" } : Jvm.MethodName)) ∈ lw_all := lw_g (lw_at lw_m0 71 rfl) rfl
theorem q78 : (Jvm.Cond.code ({ cls := "CRC32", name := "getValue", desc := "()J" } : Jvm.MethodName) prog_2_method_3_code (1 : Nat) (Option.some Jvm.ClassFile.FieldType.long)) ∈ lw_all := lw_g (lw_at lw_m0 72 rfl) rfl
theorem q79 : (Jvm.Cond.constantLong "CRC32" (17 : Nat) (4294967295 : Int64)) ∈ lw_all := lw_g (lw_at lw_m0 73 rfl) rfl
theorem q111 : (Jvm.Cond.static ({ cls := "CRC32", name := "combine", desc := "(JJJ)J" } : Jvm.MethodName)) ∈ lw_all := lw_g (lw_at lw_m0 105 rfl) rfl
theorem q112 : (Jvm.Cond.code ({ cls := "CRC32", name := "combine", desc := "(JJJ)J" } : Jvm.MethodName) prog_2_method_4_code (11 : Nat) (Option.some Jvm.ClassFile.FieldType.long)) ∈ lw_all := lw_g (lw_at lw_m0 106 rfl) rfl
theorem q113 : (Jvm.Cond.constantLong "CRC32" (19 : Nat) (3988292384 : Int64)) ∈ lw_all := lw_g (lw_at lw_m0 107 rfl) rfl
theorem q114 : (Jvm.Cond.methodLink "CRC32" (21 : Nat) ({ cls := "CRC32", name := "gf2_matrix_square", desc := "([J[J)V" } : Jvm.MethodName)) ∈ lw_all := lw_g (lw_at lw_m0 108 rfl) rfl
theorem q115 : (Jvm.Cond.static ({ cls := "CRC32", name := "gf2_matrix_square", desc := "([J[J)V" } : Jvm.MethodName)) ∈ lw_all := lw_g (lw_at lw_m0 109 rfl) rfl
theorem q116 : (Jvm.Cond.code ({ cls := "CRC32", name := "gf2_matrix_square", desc := "([J[J)V" } : Jvm.MethodName) prog_2_method_6_code (3 : Nat) (Option.none : Option Jvm.ClassFile.FieldType)) ∈ lw_all := lw_g (lw_at lw_m0 110 rfl) rfl
theorem q117 : (Jvm.Cond.methodLink "CRC32" (25 : Nat) ({ cls := "CRC32", name := "gf2_matrix_times", desc := "([JJ)J" } : Jvm.MethodName)) ∈ lw_all := lw_g (lw_at lw_m0 111 rfl) rfl
theorem q118 : (Jvm.Cond.static ({ cls := "CRC32", name := "gf2_matrix_times", desc := "([JJ)J" } : Jvm.MethodName)) ∈ lw_all := lw_g (lw_at lw_m0 112 rfl) rfl
theorem q119 : (Jvm.Cond.code ({ cls := "CRC32", name := "gf2_matrix_times", desc := "([JJ)J" } : Jvm.MethodName) prog_2_method_5_code (6 : Nat) (Option.some Jvm.ClassFile.FieldType.long)) ∈ lw_all := lw_g (lw_at lw_m0 113 rfl) rfl
theorem in_X2 : ∀ w ∈ wsX20, w ∈ lw_all := lw_in wsX20 [66] (by decide +kernel) (by decide +kernel)
/-! Adler32 -/
set_option maxRecDepth 100000
def RX3 : String := "Adler32"
def TX3 : u_T := fun k => match k with
  | 0 => ("Adler32", "s1", "J", false)
  | _ => ("Adler32", "s2", "J", false)
def tyX3 : Nat → FieldType := fun k => match k with
  | 0 => .long
  | _ => .long
abbrev wsX30 : List Cond := u_ws RX3 TX3 2
theorem nmX3 : ∀ a, a < 2 → ∀ b, b < 2 → a ≠ b → (TX3 a).2.1 ≠ (TX3 b).2.1 := by decide +kernel
theorem tyX3_ok : ∀ k, k < 2 → parseFieldDescriptor (TX3 k).2.2.1 = some (tyX3 k) := by decide +kernel
abbrev cX3_init : ByteArray := prog_1_method_1_code
def yX3_init : MethodName := ⟨RX3, "<init>", "()V"⟩
def dkwX3_init_0 : List UInt8 := [42, 183, 0, 1, 42, 10, 181, 0, 7, 42, 9, 181, 0, 13, 177]
abbrev dktX3_init_0 : List UInt8 := dkwX3_init_0 ++ []
theorem dksX3_init_0 : cX3_init.data.toList.drop 0 = dktX3_init_0 := by decide +kernel
theorem dX3_init_0 : decode cX3_init 0 = .ok (.aload_n 0, 1) := dk_42 (dk_at dksX3_init_0 0 rfl rfl)
theorem dX3_init_1 : decode cX3_init 1 = .ok (.invokespecial 1, 3) := dk_183 0 1 (dk_at dksX3_init_0 1 rfl rfl)
theorem dX3_init_4 : decode cX3_init 4 = .ok (.aload_n 0, 1) := dk_42 (dk_at dksX3_init_0 4 rfl rfl)
theorem dX3_init_5 : decode cX3_init 5 = .ok (.lconst 1, 1) := dk_10 (dk_at dksX3_init_0 5 rfl rfl)
theorem dX3_init_6 : decode cX3_init 6 = .ok (.putfield 7, 3) := dk_181 0 7 (dk_at dksX3_init_0 6 rfl rfl)
theorem dX3_init_9 : decode cX3_init 9 = .ok (.aload_n 0, 1) := dk_42 (dk_at dksX3_init_0 9 rfl rfl)
theorem dX3_init_10 : decode cX3_init 10 = .ok (.lconst 0, 1) := dk_9 (dk_at dksX3_init_0 10 rfl rfl)
theorem dX3_init_11 : decode cX3_init 11 = .ok (.putfield 13, 3) := dk_181 0 13 (dk_at dksX3_init_0 11 rfl rfl)
theorem dX3_init_14 : decode cX3_init 14 = .ok (.return_, 1) := dk_177 (dk_at dksX3_init_0 14 rfl rfl)
abbrev cX3_update : ByteArray := prog_1_method_3_code
def yX3_update : MethodName := ⟨RX3, "update", "([BII)V"⟩
def dkwX3_update_10 : List UInt8 := [180, 0, 13, 20, 0, 16, 113, 181, 0, 13, 177]
abbrev dktX3_update_10 : List UInt8 := dkwX3_update_10 ++ []
def dkwX3_update_9 : List UInt8 := [180, 0, 7, 97, 181, 0, 13, 167, 255, 215, 42, 89, 180, 0, 7, 20, 0, 16, 113, 181, 0, 7, 42, 89]
abbrev dktX3_update_9 : List UInt8 := dkwX3_update_9 ++ dktX3_update_10
def dkwX3_update_8 : List UInt8 := [180, 0, 7, 43, 28, 132, 2, 1, 51, 17, 0, 255, 126, 133, 97, 181, 0, 7, 42, 89, 180, 0, 13, 42]
abbrev dktX3_update_8 : List UInt8 := dkwX3_update_8 ++ dktX3_update_9
def dkwX3_update_7 : List UInt8 := [167, 255, 170, 21, 5, 54, 6, 29, 21, 6, 100, 62, 21, 6, 132, 6, 255, 158, 0, 39, 42, 89]
abbrev dktX3_update_7 : List UInt8 := dkwX3_update_7 ++ dktX3_update_8
def dkwX3_update_6 : List UInt8 := [180, 0, 7, 20, 0, 16, 113, 181, 0, 7, 42, 89, 180, 0, 13, 20, 0, 16, 113, 181, 0, 13]
abbrev dktX3_update_6 : List UInt8 := dkwX3_update_6 ++ dktX3_update_7
def dkwX3_update_5 : List UInt8 := [133, 97, 181, 0, 7, 42, 89, 180, 0, 13, 42, 180, 0, 7, 97, 181, 0, 13, 167, 255, 215, 42, 89]
abbrev dktX3_update_5 : List UInt8 := dkwX3_update_5 ++ dktX3_update_6
def dkwX3_update_4 : List UInt8 := [62, 21, 6, 132, 6, 255, 158, 0, 39, 42, 89, 180, 0, 7, 43, 28, 132, 2, 1, 51, 17, 0, 255, 126]
abbrev dktX3_update_4 : List UInt8 := dkwX3_update_4 ++ dktX3_update_5
def dkwX3_update_3 : List UInt8 := [29, 17, 21, 176, 112, 54, 5, 21, 4, 132, 4, 255, 158, 0, 84, 17, 21, 176, 54, 6, 29, 21, 6, 100]
abbrev dktX3_update_3 : List UInt8 := dkwX3_update_3 ++ dktX3_update_4
def dkwX3_update_2 : List UInt8 := [113, 181, 0, 7, 42, 89, 180, 0, 13, 20, 0, 16, 113, 181, 0, 13, 177, 29, 17, 21, 176, 108, 54, 4]
abbrev dktX3_update_2 : List UInt8 := dkwX3_update_2 ++ dktX3_update_3
def dkwX3_update_1 : List UInt8 := [181, 0, 7, 42, 89, 180, 0, 13, 42, 180, 0, 7, 97, 181, 0, 13, 42, 89, 180, 0, 7, 20, 0, 16]
abbrev dktX3_update_1 : List UInt8 := dkwX3_update_1 ++ dktX3_update_2
def dkwX3_update_0 : List UInt8 := [29, 4, 160, 0, 61, 42, 89, 180, 0, 7, 43, 28, 132, 2, 1, 51, 17, 0, 255, 126, 133, 97]
abbrev dktX3_update_0 : List UInt8 := dkwX3_update_0 ++ dktX3_update_1
theorem dksX3_update_0 : cX3_update.data.toList.drop 0 = dktX3_update_0 := by decide +kernel
theorem dksX3_update_1 : cX3_update.data.toList.drop 22 = dktX3_update_1 := dk_seg dksX3_update_0 22 rfl rfl
theorem dksX3_update_2 : cX3_update.data.toList.drop 46 = dktX3_update_2 := dk_seg dksX3_update_1 24 rfl rfl
theorem dksX3_update_3 : cX3_update.data.toList.drop 70 = dktX3_update_3 := dk_seg dksX3_update_2 24 rfl rfl
theorem dksX3_update_4 : cX3_update.data.toList.drop 94 = dktX3_update_4 := dk_seg dksX3_update_3 24 rfl rfl
theorem dksX3_update_5 : cX3_update.data.toList.drop 118 = dktX3_update_5 := dk_seg dksX3_update_4 24 rfl rfl
theorem dksX3_update_6 : cX3_update.data.toList.drop 141 = dktX3_update_6 := dk_seg dksX3_update_5 23 rfl rfl
theorem dksX3_update_7 : cX3_update.data.toList.drop 163 = dktX3_update_7 := dk_seg dksX3_update_6 22 rfl rfl
theorem dksX3_update_8 : cX3_update.data.toList.drop 185 = dktX3_update_8 := dk_seg dksX3_update_7 22 rfl rfl
theorem dksX3_update_9 : cX3_update.data.toList.drop 209 = dktX3_update_9 := dk_seg dksX3_update_8 24 rfl rfl
theorem dksX3_update_10 : cX3_update.data.toList.drop 233 = dktX3_update_10 := dk_seg dksX3_update_9 24 rfl rfl
theorem dX3_update_0 : decode cX3_update 0 = .ok (.iload_n 3, 1) := dk_29 (dk_at dksX3_update_0 0 rfl rfl)
theorem dX3_update_1 : decode cX3_update 1 = .ok (.iconst 1, 1) := dk_4 (dk_at dksX3_update_0 1 rfl rfl)
theorem dX3_update_2 : decode cX3_update 2 = .ok (.if_icmp .ne 61, 3) := dk_160 0 61 (dk_at dksX3_update_0 2 rfl rfl)
theorem dX3_update_5 : decode cX3_update 5 = .ok (.aload_n 0, 1) := dk_42 (dk_at dksX3_update_0 5 rfl rfl)
theorem dX3_update_6 : decode cX3_update 6 = .ok (.dup, 1) := dk_89 (dk_at dksX3_update_0 6 rfl rfl)
theorem dX3_update_7 : decode cX3_update 7 = .ok (.getfield 7, 3) := dk_180 0 7 (dk_at dksX3_update_0 7 rfl rfl)
theorem dX3_update_10 : decode cX3_update 10 = .ok (.aload_n 1, 1) := dk_43 (dk_at dksX3_update_0 10 rfl rfl)
theorem dX3_update_11 : decode cX3_update 11 = .ok (.iload_n 2, 1) := dk_28 (dk_at dksX3_update_0 11 rfl rfl)
theorem dX3_update_12 : decode cX3_update 12 = .ok (.iinc 2 1, 3) := dk_132 2 1 (dk_at dksX3_update_0 12 rfl rfl)
theorem dX3_update_15 : decode cX3_update 15 = .ok (.baload, 1) := dk_51 (dk_at dksX3_update_0 15 rfl rfl)
theorem dX3_update_16 : decode cX3_update 16 = .ok (.sipush 255, 3) := dk_17 0 255 (dk_at dksX3_update_0 16 rfl rfl)
theorem dX3_update_19 : decode cX3_update 19 = .ok (.iand, 1) := dk_126 (dk_at dksX3_update_0 19 rfl rfl)
theorem dX3_update_20 : decode cX3_update 20 = .ok (.i2l, 1) := dk_133 (dk_at dksX3_update_0 20 rfl rfl)
theorem dX3_update_21 : decode cX3_update 21 = .ok (.ladd, 1) := dk_97 (dk_at dksX3_update_0 21 rfl rfl)
theorem dX3_update_22 : decode cX3_update 22 = .ok (.putfield 7, 3) := dk_181 0 7 (dk_at dksX3_update_1 0 rfl rfl)
theorem dX3_update_25 : decode cX3_update 25 = .ok (.aload_n 0, 1) := dk_42 (dk_at dksX3_update_1 3 rfl rfl)
theorem dX3_update_26 : decode cX3_update 26 = .ok (.dup, 1) := dk_89 (dk_at dksX3_update_1 4 rfl rfl)
theorem dX3_update_27 : decode cX3_update 27 = .ok (.getfield 13, 3) := dk_180 0 13 (dk_at dksX3_update_1 5 rfl rfl)
theorem dX3_update_30 : decode cX3_update 30 = .ok (.aload_n 0, 1) := dk_42 (dk_at dksX3_update_1 8 rfl rfl)
theorem dX3_update_31 : decode cX3_update 31 = .ok (.getfield 7, 3) := dk_180 0 7 (dk_at dksX3_update_1 9 rfl rfl)
theorem dX3_update_34 : decode cX3_update 34 = .ok (.ladd, 1) := dk_97 (dk_at dksX3_update_1 12 rfl rfl)
theorem dX3_update_35 : decode cX3_update 35 = .ok (.putfield 13, 3) := dk_181 0 13 (dk_at dksX3_update_1 13 rfl rfl)
theorem dX3_update_38 : decode cX3_update 38 = .ok (.aload_n 0, 1) := dk_42 (dk_at dksX3_update_1 16 rfl rfl)
theorem dX3_update_39 : decode cX3_update 39 = .ok (.dup, 1) := dk_89 (dk_at dksX3_update_1 17 rfl rfl)
theorem dX3_update_40 : decode cX3_update 40 = .ok (.getfield 7, 3) := dk_180 0 7 (dk_at dksX3_update_1 18 rfl rfl)
theorem dX3_update_43 : decode cX3_update 43 = .ok (.ldc2_w 16, 3) := dk_20 0 16 (dk_at dksX3_update_1 21 rfl rfl)
theorem dX3_update_46 : decode cX3_update 46 = .ok (.lrem, 1) := dk_113 (dk_at dksX3_update_2 0 rfl rfl)
theorem dX3_update_47 : decode cX3_update 47 = .ok (.putfield 7, 3) := dk_181 0 7 (dk_at dksX3_update_2 1 rfl rfl)
theorem dX3_update_50 : decode cX3_update 50 = .ok (.aload_n 0, 1) := dk_42 (dk_at dksX3_update_2 4 rfl rfl)
theorem dX3_update_51 : decode cX3_update 51 = .ok (.dup, 1) := dk_89 (dk_at dksX3_update_2 5 rfl rfl)
theorem dX3_update_52 : decode cX3_update 52 = .ok (.getfield 13, 3) := dk_180 0 13 (dk_at dksX3_update_2 6 rfl rfl)
theorem dX3_update_55 : decode cX3_update 55 = .ok (.ldc2_w 16, 3) := dk_20 0 16 (dk_at dksX3_update_2 9 rfl rfl)
theorem dX3_update_58 : decode cX3_update 58 = .ok (.lrem, 1) := dk_113 (dk_at dksX3_update_2 12 rfl rfl)
theorem dX3_update_59 : decode cX3_update 59 = .ok (.putfield 13, 3) := dk_181 0 13 (dk_at dksX3_update_2 13 rfl rfl)
theorem dX3_update_62 : decode cX3_update 62 = .ok (.return_, 1) := dk_177 (dk_at dksX3_update_2 16 rfl rfl)
theorem dX3_update_63 : decode cX3_update 63 = .ok (.iload_n 3, 1) := dk_29 (dk_at dksX3_update_2 17 rfl rfl)
theorem dX3_update_64 : decode cX3_update 64 = .ok (.sipush 5552, 3) := dk_17 21 176 (dk_at dksX3_update_2 18 rfl rfl)
theorem dX3_update_67 : decode cX3_update 67 = .ok (.idiv, 1) := dk_108 (dk_at dksX3_update_2 21 rfl rfl)
theorem dX3_update_68 : decode cX3_update 68 = .ok (.istore 4, 2) := dk_54 4 (dk_at dksX3_update_2 22 rfl rfl)
theorem dX3_update_70 : decode cX3_update 70 = .ok (.iload_n 3, 1) := dk_29 (dk_at dksX3_update_3 0 rfl rfl)
theorem dX3_update_71 : decode cX3_update 71 = .ok (.sipush 5552, 3) := dk_17 21 176 (dk_at dksX3_update_3 1 rfl rfl)
theorem dX3_update_74 : decode cX3_update 74 = .ok (.irem, 1) := dk_112 (dk_at dksX3_update_3 4 rfl rfl)
theorem dX3_update_75 : decode cX3_update 75 = .ok (.istore 5, 2) := dk_54 5 (dk_at dksX3_update_3 5 rfl rfl)
theorem dX3_update_77 : decode cX3_update 77 = .ok (.iload 4, 2) := dk_21 4 (dk_at dksX3_update_3 7 rfl rfl)
theorem dX3_update_79 : decode cX3_update 79 = .ok (.iinc 4 (-1), 3) := dk_132 4 255 (dk_at dksX3_update_3 9 rfl rfl)
theorem dX3_update_82 : decode cX3_update 82 = .ok (.ifCond .le 84, 3) := dk_158 0 84 (dk_at dksX3_update_3 12 rfl rfl)
theorem dX3_update_85 : decode cX3_update 85 = .ok (.sipush 5552, 3) := dk_17 21 176 (dk_at dksX3_update_3 15 rfl rfl)
theorem dX3_update_88 : decode cX3_update 88 = .ok (.istore 6, 2) := dk_54 6 (dk_at dksX3_update_3 18 rfl rfl)
theorem dX3_update_90 : decode cX3_update 90 = .ok (.iload_n 3, 1) := dk_29 (dk_at dksX3_update_3 20 rfl rfl)
theorem dX3_update_91 : decode cX3_update 91 = .ok (.iload 6, 2) := dk_21 6 (dk_at dksX3_update_3 21 rfl rfl)
theorem dX3_update_93 : decode cX3_update 93 = .ok (.isub, 1) := dk_100 (dk_at dksX3_update_3 23 rfl rfl)
theorem dX3_update_94 : decode cX3_update 94 = .ok (.istore_n 3, 1) := dk_62 (dk_at dksX3_update_4 0 rfl rfl)
theorem dX3_update_95 : decode cX3_update 95 = .ok (.iload 6, 2) := dk_21 6 (dk_at dksX3_update_4 1 rfl rfl)
theorem dX3_update_97 : decode cX3_update 97 = .ok (.iinc 6 (-1), 3) := dk_132 6 255 (dk_at dksX3_update_4 3 rfl rfl)
theorem dX3_update_100 : decode cX3_update 100 = .ok (.ifCond .le 39, 3) := dk_158 0 39 (dk_at dksX3_update_4 6 rfl rfl)
theorem dX3_update_103 : decode cX3_update 103 = .ok (.aload_n 0, 1) := dk_42 (dk_at dksX3_update_4 9 rfl rfl)
theorem dX3_update_104 : decode cX3_update 104 = .ok (.dup, 1) := dk_89 (dk_at dksX3_update_4 10 rfl rfl)
theorem dX3_update_105 : decode cX3_update 105 = .ok (.getfield 7, 3) := dk_180 0 7 (dk_at dksX3_update_4 11 rfl rfl)
theorem dX3_update_108 : decode cX3_update 108 = .ok (.aload_n 1, 1) := dk_43 (dk_at dksX3_update_4 14 rfl rfl)
theorem dX3_update_109 : decode cX3_update 109 = .ok (.iload_n 2, 1) := dk_28 (dk_at dksX3_update_4 15 rfl rfl)
theorem dX3_update_110 : decode cX3_update 110 = .ok (.iinc 2 1, 3) := dk_132 2 1 (dk_at dksX3_update_4 16 rfl rfl)
theorem dX3_update_113 : decode cX3_update 113 = .ok (.baload, 1) := dk_51 (dk_at dksX3_update_4 19 rfl rfl)
theorem dX3_update_114 : decode cX3_update 114 = .ok (.sipush 255, 3) := dk_17 0 255 (dk_at dksX3_update_4 20 rfl rfl)
theorem dX3_update_117 : decode cX3_update 117 = .ok (.iand, 1) := dk_126 (dk_at dksX3_update_4 23 rfl rfl)
theorem dX3_update_118 : decode cX3_update 118 = .ok (.i2l, 1) := dk_133 (dk_at dksX3_update_5 0 rfl rfl)
theorem dX3_update_119 : decode cX3_update 119 = .ok (.ladd, 1) := dk_97 (dk_at dksX3_update_5 1 rfl rfl)
theorem dX3_update_120 : decode cX3_update 120 = .ok (.putfield 7, 3) := dk_181 0 7 (dk_at dksX3_update_5 2 rfl rfl)
theorem dX3_update_123 : decode cX3_update 123 = .ok (.aload_n 0, 1) := dk_42 (dk_at dksX3_update_5 5 rfl rfl)
theorem dX3_update_124 : decode cX3_update 124 = .ok (.dup, 1) := dk_89 (dk_at dksX3_update_5 6 rfl rfl)
theorem dX3_update_125 : decode cX3_update 125 = .ok (.getfield 13, 3) := dk_180 0 13 (dk_at dksX3_update_5 7 rfl rfl)
theorem dX3_update_128 : decode cX3_update 128 = .ok (.aload_n 0, 1) := dk_42 (dk_at dksX3_update_5 10 rfl rfl)
theorem dX3_update_129 : decode cX3_update 129 = .ok (.getfield 7, 3) := dk_180 0 7 (dk_at dksX3_update_5 11 rfl rfl)
theorem dX3_update_132 : decode cX3_update 132 = .ok (.ladd, 1) := dk_97 (dk_at dksX3_update_5 14 rfl rfl)
theorem dX3_update_133 : decode cX3_update 133 = .ok (.putfield 13, 3) := dk_181 0 13 (dk_at dksX3_update_5 15 rfl rfl)
theorem dX3_update_136 : decode cX3_update 136 = .ok (.goto (-41), 3) := dk_167 255 215 (dk_at dksX3_update_5 18 rfl rfl)
theorem dX3_update_139 : decode cX3_update 139 = .ok (.aload_n 0, 1) := dk_42 (dk_at dksX3_update_5 21 rfl rfl)
theorem dX3_update_140 : decode cX3_update 140 = .ok (.dup, 1) := dk_89 (dk_at dksX3_update_5 22 rfl rfl)
theorem dX3_update_141 : decode cX3_update 141 = .ok (.getfield 7, 3) := dk_180 0 7 (dk_at dksX3_update_6 0 rfl rfl)
theorem dX3_update_144 : decode cX3_update 144 = .ok (.ldc2_w 16, 3) := dk_20 0 16 (dk_at dksX3_update_6 3 rfl rfl)
theorem dX3_update_147 : decode cX3_update 147 = .ok (.lrem, 1) := dk_113 (dk_at dksX3_update_6 6 rfl rfl)
theorem dX3_update_148 : decode cX3_update 148 = .ok (.putfield 7, 3) := dk_181 0 7 (dk_at dksX3_update_6 7 rfl rfl)
theorem dX3_update_151 : decode cX3_update 151 = .ok (.aload_n 0, 1) := dk_42 (dk_at dksX3_update_6 10 rfl rfl)
theorem dX3_update_152 : decode cX3_update 152 = .ok (.dup, 1) := dk_89 (dk_at dksX3_update_6 11 rfl rfl)
theorem dX3_update_153 : decode cX3_update 153 = .ok (.getfield 13, 3) := dk_180 0 13 (dk_at dksX3_update_6 12 rfl rfl)
theorem dX3_update_156 : decode cX3_update 156 = .ok (.ldc2_w 16, 3) := dk_20 0 16 (dk_at dksX3_update_6 15 rfl rfl)
theorem dX3_update_159 : decode cX3_update 159 = .ok (.lrem, 1) := dk_113 (dk_at dksX3_update_6 18 rfl rfl)
theorem dX3_update_160 : decode cX3_update 160 = .ok (.putfield 13, 3) := dk_181 0 13 (dk_at dksX3_update_6 19 rfl rfl)
theorem dX3_update_163 : decode cX3_update 163 = .ok (.goto (-86), 3) := dk_167 255 170 (dk_at dksX3_update_7 0 rfl rfl)
theorem dX3_update_166 : decode cX3_update 166 = .ok (.iload 5, 2) := dk_21 5 (dk_at dksX3_update_7 3 rfl rfl)
theorem dX3_update_168 : decode cX3_update 168 = .ok (.istore 6, 2) := dk_54 6 (dk_at dksX3_update_7 5 rfl rfl)
theorem dX3_update_170 : decode cX3_update 170 = .ok (.iload_n 3, 1) := dk_29 (dk_at dksX3_update_7 7 rfl rfl)
theorem dX3_update_171 : decode cX3_update 171 = .ok (.iload 6, 2) := dk_21 6 (dk_at dksX3_update_7 8 rfl rfl)
theorem dX3_update_173 : decode cX3_update 173 = .ok (.isub, 1) := dk_100 (dk_at dksX3_update_7 10 rfl rfl)
theorem dX3_update_174 : decode cX3_update 174 = .ok (.istore_n 3, 1) := dk_62 (dk_at dksX3_update_7 11 rfl rfl)
theorem dX3_update_175 : decode cX3_update 175 = .ok (.iload 6, 2) := dk_21 6 (dk_at dksX3_update_7 12 rfl rfl)
theorem dX3_update_177 : decode cX3_update 177 = .ok (.iinc 6 (-1), 3) := dk_132 6 255 (dk_at dksX3_update_7 14 rfl rfl)
theorem dX3_update_180 : decode cX3_update 180 = .ok (.ifCond .le 39, 3) := dk_158 0 39 (dk_at dksX3_update_7 17 rfl rfl)
theorem dX3_update_183 : decode cX3_update 183 = .ok (.aload_n 0, 1) := dk_42 (dk_at dksX3_update_7 20 rfl rfl)
theorem dX3_update_184 : decode cX3_update 184 = .ok (.dup, 1) := dk_89 (dk_at dksX3_update_7 21 rfl rfl)
theorem dX3_update_185 : decode cX3_update 185 = .ok (.getfield 7, 3) := dk_180 0 7 (dk_at dksX3_update_8 0 rfl rfl)
theorem dX3_update_188 : decode cX3_update 188 = .ok (.aload_n 1, 1) := dk_43 (dk_at dksX3_update_8 3 rfl rfl)
theorem dX3_update_189 : decode cX3_update 189 = .ok (.iload_n 2, 1) := dk_28 (dk_at dksX3_update_8 4 rfl rfl)
theorem dX3_update_190 : decode cX3_update 190 = .ok (.iinc 2 1, 3) := dk_132 2 1 (dk_at dksX3_update_8 5 rfl rfl)
theorem dX3_update_193 : decode cX3_update 193 = .ok (.baload, 1) := dk_51 (dk_at dksX3_update_8 8 rfl rfl)
theorem dX3_update_194 : decode cX3_update 194 = .ok (.sipush 255, 3) := dk_17 0 255 (dk_at dksX3_update_8 9 rfl rfl)
theorem dX3_update_197 : decode cX3_update 197 = .ok (.iand, 1) := dk_126 (dk_at dksX3_update_8 12 rfl rfl)
theorem dX3_update_198 : decode cX3_update 198 = .ok (.i2l, 1) := dk_133 (dk_at dksX3_update_8 13 rfl rfl)
theorem dX3_update_199 : decode cX3_update 199 = .ok (.ladd, 1) := dk_97 (dk_at dksX3_update_8 14 rfl rfl)
theorem dX3_update_200 : decode cX3_update 200 = .ok (.putfield 7, 3) := dk_181 0 7 (dk_at dksX3_update_8 15 rfl rfl)
theorem dX3_update_203 : decode cX3_update 203 = .ok (.aload_n 0, 1) := dk_42 (dk_at dksX3_update_8 18 rfl rfl)
theorem dX3_update_204 : decode cX3_update 204 = .ok (.dup, 1) := dk_89 (dk_at dksX3_update_8 19 rfl rfl)
theorem dX3_update_205 : decode cX3_update 205 = .ok (.getfield 13, 3) := dk_180 0 13 (dk_at dksX3_update_8 20 rfl rfl)
theorem dX3_update_208 : decode cX3_update 208 = .ok (.aload_n 0, 1) := dk_42 (dk_at dksX3_update_8 23 rfl rfl)
theorem dX3_update_209 : decode cX3_update 209 = .ok (.getfield 7, 3) := dk_180 0 7 (dk_at dksX3_update_9 0 rfl rfl)
theorem dX3_update_212 : decode cX3_update 212 = .ok (.ladd, 1) := dk_97 (dk_at dksX3_update_9 3 rfl rfl)
theorem dX3_update_213 : decode cX3_update 213 = .ok (.putfield 13, 3) := dk_181 0 13 (dk_at dksX3_update_9 4 rfl rfl)
theorem dX3_update_216 : decode cX3_update 216 = .ok (.goto (-41), 3) := dk_167 255 215 (dk_at dksX3_update_9 7 rfl rfl)
theorem dX3_update_219 : decode cX3_update 219 = .ok (.aload_n 0, 1) := dk_42 (dk_at dksX3_update_9 10 rfl rfl)
theorem dX3_update_220 : decode cX3_update 220 = .ok (.dup, 1) := dk_89 (dk_at dksX3_update_9 11 rfl rfl)
theorem dX3_update_221 : decode cX3_update 221 = .ok (.getfield 7, 3) := dk_180 0 7 (dk_at dksX3_update_9 12 rfl rfl)
theorem dX3_update_224 : decode cX3_update 224 = .ok (.ldc2_w 16, 3) := dk_20 0 16 (dk_at dksX3_update_9 15 rfl rfl)
theorem dX3_update_227 : decode cX3_update 227 = .ok (.lrem, 1) := dk_113 (dk_at dksX3_update_9 18 rfl rfl)
theorem dX3_update_228 : decode cX3_update 228 = .ok (.putfield 7, 3) := dk_181 0 7 (dk_at dksX3_update_9 19 rfl rfl)
theorem dX3_update_231 : decode cX3_update 231 = .ok (.aload_n 0, 1) := dk_42 (dk_at dksX3_update_9 22 rfl rfl)
theorem dX3_update_232 : decode cX3_update 232 = .ok (.dup, 1) := dk_89 (dk_at dksX3_update_9 23 rfl rfl)
theorem dX3_update_233 : decode cX3_update 233 = .ok (.getfield 13, 3) := dk_180 0 13 (dk_at dksX3_update_10 0 rfl rfl)
theorem dX3_update_236 : decode cX3_update 236 = .ok (.ldc2_w 16, 3) := dk_20 0 16 (dk_at dksX3_update_10 3 rfl rfl)
theorem dX3_update_239 : decode cX3_update 239 = .ok (.lrem, 1) := dk_113 (dk_at dksX3_update_10 6 rfl rfl)
theorem dX3_update_240 : decode cX3_update 240 = .ok (.putfield 13, 3) := dk_181 0 13 (dk_at dksX3_update_10 7 rfl rfl)
theorem dX3_update_243 : decode cX3_update 243 = .ok (.return_, 1) := dk_177 (dk_at dksX3_update_10 10 rfl rfl)
abbrev cX3_getValue : ByteArray := prog_1_method_2_code
def yX3_getValue : MethodName := ⟨RX3, "getValue", "()J"⟩
def dkwX3_getValue_0 : List UInt8 := [42, 180, 0, 13, 16, 16, 121, 42, 180, 0, 7, 129, 173]
abbrev dktX3_getValue_0 : List UInt8 := dkwX3_getValue_0 ++ []
theorem dksX3_getValue_0 : cX3_getValue.data.toList.drop 0 = dktX3_getValue_0 := by decide +kernel
theorem dX3_getValue_0 : decode cX3_getValue 0 = .ok (.aload_n 0, 1) := dk_42 (dk_at dksX3_getValue_0 0 rfl rfl)
theorem dX3_getValue_1 : decode cX3_getValue 1 = .ok (.getfield 13, 3) := dk_180 0 13 (dk_at dksX3_getValue_0 1 rfl rfl)
theorem dX3_getValue_4 : decode cX3_getValue 4 = .ok (.bipush 16, 2) := dk_16 16 (dk_at dksX3_getValue_0 4 rfl rfl)
theorem dX3_getValue_6 : decode cX3_getValue 6 = .ok (.lshl, 1) := dk_121 (dk_at dksX3_getValue_0 6 rfl rfl)
theorem dX3_getValue_7 : decode cX3_getValue 7 = .ok (.aload_n 0, 1) := dk_42 (dk_at dksX3_getValue_0 7 rfl rfl)
theorem dX3_getValue_8 : decode cX3_getValue 8 = .ok (.getfield 7, 3) := dk_180 0 7 (dk_at dksX3_getValue_0 8 rfl rfl)
theorem dX3_getValue_11 : decode cX3_getValue 11 = .ok (.lor, 1) := dk_129 (dk_at dksX3_getValue_0 11 rfl rfl)
theorem dX3_getValue_12 : decode cX3_getValue 12 = .ok (.lreturn, 1) := dk_173 (dk_at dksX3_getValue_0 12 rfl rfl)
abbrev cX3_combine : ByteArray := prog_1_method_4_code
def yX3_combine : MethodName := ⟨RX3, "combine", "(JJJ)J"⟩
def dkwX3_combine_6 : List UInt8 := [16, 16, 121, 129, 173]
abbrev dktX3_combine_6 : List UInt8 := dkwX3_combine_6 ++ []
def dkwX3_combine_5 : List UInt8 := [4, 121, 101, 55, 10, 22, 10, 22, 6, 148, 155, 0, 10, 22, 10, 22, 6, 101, 55, 10, 22, 8, 22, 10]
abbrev dktX3_combine_5 : List UInt8 := dkwX3_combine_5 ++ dktX3_combine_6
def dkwX3_combine_4 : List UInt8 := [155, 0, 10, 22, 8, 22, 6, 101, 55, 8, 22, 10, 22, 6, 4, 121, 148, 155, 0, 12, 22, 10, 22, 6]
abbrev dktX3_combine_4 : List UInt8 := dkwX3_combine_4 ++ dktX3_combine_5
def dkwX3_combine_3 : List UInt8 := [101, 97, 55, 10, 22, 8, 22, 6, 148, 155, 0, 10, 22, 8, 22, 6, 101, 55, 8, 22, 8, 22, 6, 148]
abbrev dktX3_combine_3 : List UInt8 := dkwX3_combine_3 ++ dktX3_combine_4
def dkwX3_combine_2 : List UInt8 := [22, 10, 30, 16, 16, 123, 20, 0, 18, 127, 32, 16, 16, 123, 20, 0, 18, 127, 97, 22, 6, 97, 22, 12]
abbrev dktX3_combine_2 : List UInt8 := dkwX3_combine_2 ++ dktX3_combine_3
def dkwX3_combine_1 : List UInt8 := [55, 10, 22, 10, 22, 6, 113, 55, 10, 22, 8, 32, 20, 0, 18, 127, 22, 6, 97, 10, 101, 97, 55, 8]
abbrev dktX3_combine_1 : List UInt8 := dkwX3_combine_1 ++ dktX3_combine_2
def dkwX3_combine_0 : List UInt8 := [20, 0, 16, 55, 6, 22, 4, 22, 6, 113, 55, 12, 30, 20, 0, 18, 127, 55, 8, 22, 12, 22, 8, 105]
abbrev dktX3_combine_0 : List UInt8 := dkwX3_combine_0 ++ dktX3_combine_1
theorem dksX3_combine_0 : cX3_combine.data.toList.drop 0 = dktX3_combine_0 := by decide +kernel
theorem dksX3_combine_1 : cX3_combine.data.toList.drop 24 = dktX3_combine_1 := dk_seg dksX3_combine_0 24 rfl rfl
theorem dksX3_combine_2 : cX3_combine.data.toList.drop 48 = dktX3_combine_2 := dk_seg dksX3_combine_1 24 rfl rfl
theorem dksX3_combine_3 : cX3_combine.data.toList.drop 72 = dktX3_combine_3 := dk_seg dksX3_combine_2 24 rfl rfl
theorem dksX3_combine_4 : cX3_combine.data.toList.drop 96 = dktX3_combine_4 := dk_seg dksX3_combine_3 24 rfl rfl
theorem dksX3_combine_5 : cX3_combine.data.toList.drop 120 = dktX3_combine_5 := dk_seg dksX3_combine_4 24 rfl rfl
theorem dksX3_combine_6 : cX3_combine.data.toList.drop 144 = dktX3_combine_6 := dk_seg dksX3_combine_5 24 rfl rfl
theorem dX3_combine_0 : decode cX3_combine 0 = .ok (.ldc2_w 16, 3) := dk_20 0 16 (dk_at dksX3_combine_0 0 rfl rfl)
theorem dX3_combine_3 : decode cX3_combine 3 = .ok (.lstore 6, 2) := dk_55 6 (dk_at dksX3_combine_0 3 rfl rfl)
theorem dX3_combine_5 : decode cX3_combine 5 = .ok (.lload 4, 2) := dk_22 4 (dk_at dksX3_combine_0 5 rfl rfl)
theorem dX3_combine_7 : decode cX3_combine 7 = .ok (.lload 6, 2) := dk_22 6 (dk_at dksX3_combine_0 7 rfl rfl)
theorem dX3_combine_9 : decode cX3_combine 9 = .ok (.lrem, 1) := dk_113 (dk_at dksX3_combine_0 9 rfl rfl)
theorem dX3_combine_10 : decode cX3_combine 10 = .ok (.lstore 12, 2) := dk_55 12 (dk_at dksX3_combine_0 10 rfl rfl)
theorem dX3_combine_12 : decode cX3_combine 12 = .ok (.lload_n 0, 1) := dk_30 (dk_at dksX3_combine_0 12 rfl rfl)
theorem dX3_combine_13 : decode cX3_combine 13 = .ok (.ldc2_w 18, 3) := dk_20 0 18 (dk_at dksX3_combine_0 13 rfl rfl)
theorem dX3_combine_16 : decode cX3_combine 16 = .ok (.land, 1) := dk_127 (dk_at dksX3_combine_0 16 rfl rfl)
theorem dX3_combine_17 : decode cX3_combine 17 = .ok (.lstore 8, 2) := dk_55 8 (dk_at dksX3_combine_0 17 rfl rfl)
theorem dX3_combine_19 : decode cX3_combine 19 = .ok (.lload 12, 2) := dk_22 12 (dk_at dksX3_combine_0 19 rfl rfl)
theorem dX3_combine_21 : decode cX3_combine 21 = .ok (.lload 8, 2) := dk_22 8 (dk_at dksX3_combine_0 21 rfl rfl)
theorem dX3_combine_23 : decode cX3_combine 23 = .ok (.lmul, 1) := dk_105 (dk_at dksX3_combine_0 23 rfl rfl)
theorem dX3_combine_24 : decode cX3_combine 24 = .ok (.lstore 10, 2) := dk_55 10 (dk_at dksX3_combine_1 0 rfl rfl)
theorem dX3_combine_26 : decode cX3_combine 26 = .ok (.lload 10, 2) := dk_22 10 (dk_at dksX3_combine_1 2 rfl rfl)
theorem dX3_combine_28 : decode cX3_combine 28 = .ok (.lload 6, 2) := dk_22 6 (dk_at dksX3_combine_1 4 rfl rfl)
theorem dX3_combine_30 : decode cX3_combine 30 = .ok (.lrem, 1) := dk_113 (dk_at dksX3_combine_1 6 rfl rfl)
theorem dX3_combine_31 : decode cX3_combine 31 = .ok (.lstore 10, 2) := dk_55 10 (dk_at dksX3_combine_1 7 rfl rfl)
theorem dX3_combine_33 : decode cX3_combine 33 = .ok (.lload 8, 2) := dk_22 8 (dk_at dksX3_combine_1 9 rfl rfl)
theorem dX3_combine_35 : decode cX3_combine 35 = .ok (.lload_n 2, 1) := dk_32 (dk_at dksX3_combine_1 11 rfl rfl)
theorem dX3_combine_36 : decode cX3_combine 36 = .ok (.ldc2_w 18, 3) := dk_20 0 18 (dk_at dksX3_combine_1 12 rfl rfl)
theorem dX3_combine_39 : decode cX3_combine 39 = .ok (.land, 1) := dk_127 (dk_at dksX3_combine_1 15 rfl rfl)
theorem dX3_combine_40 : decode cX3_combine 40 = .ok (.lload 6, 2) := dk_22 6 (dk_at dksX3_combine_1 16 rfl rfl)
theorem dX3_combine_42 : decode cX3_combine 42 = .ok (.ladd, 1) := dk_97 (dk_at dksX3_combine_1 18 rfl rfl)
theorem dX3_combine_43 : decode cX3_combine 43 = .ok (.lconst 1, 1) := dk_10 (dk_at dksX3_combine_1 19 rfl rfl)
theorem dX3_combine_44 : decode cX3_combine 44 = .ok (.lsub, 1) := dk_101 (dk_at dksX3_combine_1 20 rfl rfl)
theorem dX3_combine_45 : decode cX3_combine 45 = .ok (.ladd, 1) := dk_97 (dk_at dksX3_combine_1 21 rfl rfl)
theorem dX3_combine_46 : decode cX3_combine 46 = .ok (.lstore 8, 2) := dk_55 8 (dk_at dksX3_combine_1 22 rfl rfl)
theorem dX3_combine_48 : decode cX3_combine 48 = .ok (.lload 10, 2) := dk_22 10 (dk_at dksX3_combine_2 0 rfl rfl)
theorem dX3_combine_50 : decode cX3_combine 50 = .ok (.lload_n 0, 1) := dk_30 (dk_at dksX3_combine_2 2 rfl rfl)
theorem dX3_combine_51 : decode cX3_combine 51 = .ok (.bipush 16, 2) := dk_16 16 (dk_at dksX3_combine_2 3 rfl rfl)
theorem dX3_combine_53 : decode cX3_combine 53 = .ok (.lshr, 1) := dk_123 (dk_at dksX3_combine_2 5 rfl rfl)
theorem dX3_combine_54 : decode cX3_combine 54 = .ok (.ldc2_w 18, 3) := dk_20 0 18 (dk_at dksX3_combine_2 6 rfl rfl)
theorem dX3_combine_57 : decode cX3_combine 57 = .ok (.land, 1) := dk_127 (dk_at dksX3_combine_2 9 rfl rfl)
theorem dX3_combine_58 : decode cX3_combine 58 = .ok (.lload_n 2, 1) := dk_32 (dk_at dksX3_combine_2 10 rfl rfl)
theorem dX3_combine_59 : decode cX3_combine 59 = .ok (.bipush 16, 2) := dk_16 16 (dk_at dksX3_combine_2 11 rfl rfl)
theorem dX3_combine_61 : decode cX3_combine 61 = .ok (.lshr, 1) := dk_123 (dk_at dksX3_combine_2 13 rfl rfl)
theorem dX3_combine_62 : decode cX3_combine 62 = .ok (.ldc2_w 18, 3) := dk_20 0 18 (dk_at dksX3_combine_2 14 rfl rfl)
theorem dX3_combine_65 : decode cX3_combine 65 = .ok (.land, 1) := dk_127 (dk_at dksX3_combine_2 17 rfl rfl)
theorem dX3_combine_66 : decode cX3_combine 66 = .ok (.ladd, 1) := dk_97 (dk_at dksX3_combine_2 18 rfl rfl)
theorem dX3_combine_67 : decode cX3_combine 67 = .ok (.lload 6, 2) := dk_22 6 (dk_at dksX3_combine_2 19 rfl rfl)
theorem dX3_combine_69 : decode cX3_combine 69 = .ok (.ladd, 1) := dk_97 (dk_at dksX3_combine_2 21 rfl rfl)
theorem dX3_combine_70 : decode cX3_combine 70 = .ok (.lload 12, 2) := dk_22 12 (dk_at dksX3_combine_2 22 rfl rfl)
theorem dX3_combine_72 : decode cX3_combine 72 = .ok (.lsub, 1) := dk_101 (dk_at dksX3_combine_3 0 rfl rfl)
theorem dX3_combine_73 : decode cX3_combine 73 = .ok (.ladd, 1) := dk_97 (dk_at dksX3_combine_3 1 rfl rfl)
theorem dX3_combine_74 : decode cX3_combine 74 = .ok (.lstore 10, 2) := dk_55 10 (dk_at dksX3_combine_3 2 rfl rfl)
theorem dX3_combine_76 : decode cX3_combine 76 = .ok (.lload 8, 2) := dk_22 8 (dk_at dksX3_combine_3 4 rfl rfl)
theorem dX3_combine_78 : decode cX3_combine 78 = .ok (.lload 6, 2) := dk_22 6 (dk_at dksX3_combine_3 6 rfl rfl)
theorem dX3_combine_80 : decode cX3_combine 80 = .ok (.lcmp, 1) := dk_148 (dk_at dksX3_combine_3 8 rfl rfl)
theorem dX3_combine_81 : decode cX3_combine 81 = .ok (.ifCond .lt 10, 3) := dk_155 0 10 (dk_at dksX3_combine_3 9 rfl rfl)
theorem dX3_combine_84 : decode cX3_combine 84 = .ok (.lload 8, 2) := dk_22 8 (dk_at dksX3_combine_3 12 rfl rfl)
theorem dX3_combine_86 : decode cX3_combine 86 = .ok (.lload 6, 2) := dk_22 6 (dk_at dksX3_combine_3 14 rfl rfl)
theorem dX3_combine_88 : decode cX3_combine 88 = .ok (.lsub, 1) := dk_101 (dk_at dksX3_combine_3 16 rfl rfl)
theorem dX3_combine_89 : decode cX3_combine 89 = .ok (.lstore 8, 2) := dk_55 8 (dk_at dksX3_combine_3 17 rfl rfl)
theorem dX3_combine_91 : decode cX3_combine 91 = .ok (.lload 8, 2) := dk_22 8 (dk_at dksX3_combine_3 19 rfl rfl)
theorem dX3_combine_93 : decode cX3_combine 93 = .ok (.lload 6, 2) := dk_22 6 (dk_at dksX3_combine_3 21 rfl rfl)
theorem dX3_combine_95 : decode cX3_combine 95 = .ok (.lcmp, 1) := dk_148 (dk_at dksX3_combine_3 23 rfl rfl)
theorem dX3_combine_96 : decode cX3_combine 96 = .ok (.ifCond .lt 10, 3) := dk_155 0 10 (dk_at dksX3_combine_4 0 rfl rfl)
theorem dX3_combine_99 : decode cX3_combine 99 = .ok (.lload 8, 2) := dk_22 8 (dk_at dksX3_combine_4 3 rfl rfl)
theorem dX3_combine_101 : decode cX3_combine 101 = .ok (.lload 6, 2) := dk_22 6 (dk_at dksX3_combine_4 5 rfl rfl)
theorem dX3_combine_103 : decode cX3_combine 103 = .ok (.lsub, 1) := dk_101 (dk_at dksX3_combine_4 7 rfl rfl)
theorem dX3_combine_104 : decode cX3_combine 104 = .ok (.lstore 8, 2) := dk_55 8 (dk_at dksX3_combine_4 8 rfl rfl)
theorem dX3_combine_106 : decode cX3_combine 106 = .ok (.lload 10, 2) := dk_22 10 (dk_at dksX3_combine_4 10 rfl rfl)
theorem dX3_combine_108 : decode cX3_combine 108 = .ok (.lload 6, 2) := dk_22 6 (dk_at dksX3_combine_4 12 rfl rfl)
theorem dX3_combine_110 : decode cX3_combine 110 = .ok (.iconst 1, 1) := dk_4 (dk_at dksX3_combine_4 14 rfl rfl)
theorem dX3_combine_111 : decode cX3_combine 111 = .ok (.lshl, 1) := dk_121 (dk_at dksX3_combine_4 15 rfl rfl)
theorem dX3_combine_112 : decode cX3_combine 112 = .ok (.lcmp, 1) := dk_148 (dk_at dksX3_combine_4 16 rfl rfl)
theorem dX3_combine_113 : decode cX3_combine 113 = .ok (.ifCond .lt 12, 3) := dk_155 0 12 (dk_at dksX3_combine_4 17 rfl rfl)
theorem dX3_combine_116 : decode cX3_combine 116 = .ok (.lload 10, 2) := dk_22 10 (dk_at dksX3_combine_4 20 rfl rfl)
theorem dX3_combine_118 : decode cX3_combine 118 = .ok (.lload 6, 2) := dk_22 6 (dk_at dksX3_combine_4 22 rfl rfl)
theorem dX3_combine_120 : decode cX3_combine 120 = .ok (.iconst 1, 1) := dk_4 (dk_at dksX3_combine_5 0 rfl rfl)
theorem dX3_combine_121 : decode cX3_combine 121 = .ok (.lshl, 1) := dk_121 (dk_at dksX3_combine_5 1 rfl rfl)
theorem dX3_combine_122 : decode cX3_combine 122 = .ok (.lsub, 1) := dk_101 (dk_at dksX3_combine_5 2 rfl rfl)
theorem dX3_combine_123 : decode cX3_combine 123 = .ok (.lstore 10, 2) := dk_55 10 (dk_at dksX3_combine_5 3 rfl rfl)
theorem dX3_combine_125 : decode cX3_combine 125 = .ok (.lload 10, 2) := dk_22 10 (dk_at dksX3_combine_5 5 rfl rfl)
theorem dX3_combine_127 : decode cX3_combine 127 = .ok (.lload 6, 2) := dk_22 6 (dk_at dksX3_combine_5 7 rfl rfl)
theorem dX3_combine_129 : decode cX3_combine 129 = .ok (.lcmp, 1) := dk_148 (dk_at dksX3_combine_5 9 rfl rfl)
theorem dX3_combine_130 : decode cX3_combine 130 = .ok (.ifCond .lt 10, 3) := dk_155 0 10 (dk_at dksX3_combine_5 10 rfl rfl)
theorem dX3_combine_133 : decode cX3_combine 133 = .ok (.lload 10, 2) := dk_22 10 (dk_at dksX3_combine_5 13 rfl rfl)
theorem dX3_combine_135 : decode cX3_combine 135 = .ok (.lload 6, 2) := dk_22 6 (dk_at dksX3_combine_5 15 rfl rfl)
theorem dX3_combine_137 : decode cX3_combine 137 = .ok (.lsub, 1) := dk_101 (dk_at dksX3_combine_5 17 rfl rfl)
theorem dX3_combine_138 : decode cX3_combine 138 = .ok (.lstore 10, 2) := dk_55 10 (dk_at dksX3_combine_5 18 rfl rfl)
theorem dX3_combine_140 : decode cX3_combine 140 = .ok (.lload 8, 2) := dk_22 8 (dk_at dksX3_combine_5 20 rfl rfl)
theorem dX3_combine_142 : decode cX3_combine 142 = .ok (.lload 10, 2) := dk_22 10 (dk_at dksX3_combine_5 22 rfl rfl)
theorem dX3_combine_144 : decode cX3_combine 144 = .ok (.bipush 16, 2) := dk_16 16 (dk_at dksX3_combine_6 0 rfl rfl)
theorem dX3_combine_146 : decode cX3_combine 146 = .ok (.lshl, 1) := dk_121 (dk_at dksX3_combine_6 2 rfl rfl)
theorem dX3_combine_147 : decode cX3_combine 147 = .ok (.lor, 1) := dk_129 (dk_at dksX3_combine_6 3 rfl rfl)
theorem dX3_combine_148 : decode cX3_combine 148 = .ok (.lreturn, 1) := dk_173 (dk_at dksX3_combine_6 4 rfl rfl)
theorem q10 : (Jvm.Cond.initialized "Adler32") ∈ lw_all := lw_g (lw_at lw_m0 4 rfl) rfl
theorem q81 : (Jvm.Cond.instantiable "Adler32" (2 : Nat)) ∈ lw_all := lw_g (lw_at lw_m0 75 rfl) rfl
theorem q83 : (Jvm.Cond.instanceMethod ({ cls := "Adler32", name := "<init>", desc := "()V" } : Jvm.MethodName)) ∈ lw_all := lw_g (lw_at lw_m0 77 rfl) rfl
theorem q84 : (Jvm.Cond.code ({ cls := "Adler32", name := "<init>", desc := "()V" } : Jvm.MethodName) prog_1_method_1_code (1 : Nat) (Option.none : Option Jvm.ClassFile.FieldType)) ∈ lw_all := lw_g (lw_at lw_m0 78 rfl) rfl
theorem q85 : (Jvm.Cond.methodLink "Adler32" (1 : Nat) ({ cls := "java/lang/Object", name := "<init>", desc := "()V" } : Jvm.MethodName)) ∈ lw_all := lw_g (lw_at lw_m0 79 rfl) rfl
theorem q86 : (Jvm.Cond.fieldLink "Adler32" (7 : Nat) "Adler32" "s1" "J") ∈ lw_all := lw_g (lw_at lw_m0 80 rfl) rfl
theorem q87 : (Jvm.Cond.fieldLink "Adler32" (13 : Nat) "Adler32" "s2" "J") ∈ lw_all := lw_g (lw_at lw_m0 81 rfl) rfl
theorem q88 : (Jvm.Cond.lays "Adler32" "Adler32" "s1" "J") ∈ lw_all := lw_g (lw_at lw_m0 82 rfl) rfl
theorem q89 : (Jvm.Cond.soleField "Adler32" "s1") ∈ lw_all := lw_g (lw_at lw_m0 83 rfl) rfl
theorem q90 : (Jvm.Cond.lays "Adler32" "Adler32" "s2" "J") ∈ lw_all := lw_g (lw_at lw_m0 84 rfl) rfl
theorem q91 : (Jvm.Cond.soleField "Adler32" "s2") ∈ lw_all := lw_g (lw_at lw_m0 85 rfl) rfl
theorem q92 : (Jvm.Cond.superclass "Adler32" "java/lang/Object") ∈ lw_all := lw_g (lw_at lw_m0 86 rfl) rfl
theorem q94 : (Jvm.Cond.instanceMethod ({ cls := "Adler32", name := "update", desc := "([BII)V" } : Jvm.MethodName)) ∈ lw_all := lw_g (lw_at lw_m0 88 rfl) rfl
theorem q95 : (Jvm.Cond.selects "Adler32" ({ cls := "Adler32", name := "update", desc := "([BII)V" } : Jvm.MethodName) ({ cls := "Adler32", name := "update", desc := "([BII)V" } : Jvm.MethodName)) ∈ lw_all := lw_g (lw_at lw_m0 89 rfl) rfl
theorem q96 : (Jvm.Cond.code ({ cls := "Adler32", name := "update", desc := "([BII)V" } : Jvm.MethodName) prog_1_method_3_code (7 : Nat) (Option.none : Option Jvm.ClassFile.FieldType)) ∈ lw_all := lw_g (lw_at lw_m0 90 rfl) rfl
theorem q97 : (Jvm.Cond.constantLong "Adler32" (16 : Nat) (65521 : Int64)) ∈ lw_all := lw_g (lw_at lw_m0 91 rfl) rfl
theorem q99 : (Jvm.Cond.instanceMethod ({ cls := "Adler32", name := "getValue", desc := "()J" } : Jvm.MethodName)) ∈ lw_all := lw_g (lw_at lw_m0 93 rfl) rfl
theorem q100 : (Jvm.Cond.selects "Adler32" ({ cls := "Adler32", name := "getValue", desc := "()J" } : Jvm.MethodName) ({ cls := "Adler32", name := "getValue", desc := "()J" } : Jvm.MethodName)) ∈ lw_all := lw_g (lw_at lw_m0 94 rfl) rfl
theorem q101 : (Jvm.Cond.code ({ cls := "Adler32", name := "getValue", desc := "()J" } : Jvm.MethodName) prog_1_method_2_code (1 : Nat) (Option.some Jvm.ClassFile.FieldType.long)) ∈ lw_all := lw_g (lw_at lw_m0 95 rfl) rfl
theorem q126 : (Jvm.Cond.static ({ cls := "Adler32", name := "combine", desc := "(JJJ)J" } : Jvm.MethodName)) ∈ lw_all := lw_g (lw_at lw_m0 120 rfl) rfl
theorem q127 : (Jvm.Cond.code ({ cls := "Adler32", name := "combine", desc := "(JJJ)J" } : Jvm.MethodName) prog_1_method_4_code (14 : Nat) (Option.some Jvm.ClassFile.FieldType.long)) ∈ lw_all := lw_g (lw_at lw_m0 121 rfl) rfl
theorem q128 : (Jvm.Cond.constantLong "Adler32" (18 : Nat) (65535 : Int64)) ∈ lw_all := lw_g (lw_at lw_m0 122 rfl) rfl
theorem in_X3 : ∀ w ∈ wsX30, w ∈ lw_all := lw_in wsX30 [88, 90] (by decide +kernel) (by decide +kernel)
end
section
/-! SumJoin -/
set_option maxRecDepth 100000
def RX0 : String := "SumJoin"
def TX0 : u_T := fun k => match k with
  | 0 => ("SumJoin", "text", "[B", true)
  | _ => ("SumJoin", "size", "I", false)
def tyX0 : Nat → FieldType := fun k => match k with
  | 0 => .array .byte
  | _ => .int
abbrev wsX00 : List Cond := u_ws RX0 TX0 2
theorem nmX0 : ∀ a, a < 2 → ∀ b, b < 2 → a ≠ b → (TX0 a).2.1 ≠ (TX0 b).2.1 := by decide +kernel
theorem tyX0_ok : ∀ k, k < 2 → parseFieldDescriptor (TX0 k).2.2.1 = some (tyX0 k) := by decide +kernel
abbrev cX0_init : ByteArray := prog_3_method_1_code
def yX0_init : MethodName := ⟨RX0, "<init>", "()V"⟩
def dkwX0_init_0 : List UInt8 := [42, 183, 0, 1, 42, 17, 16, 0, 188, 8, 181, 0, 7, 177]
abbrev dktX0_init_0 : List UInt8 := dkwX0_init_0 ++ []
theorem dksX0_init_0 : cX0_init.data.toList.drop 0 = dktX0_init_0 := by decide +kernel
theorem dX0_init_0 : decode cX0_init 0 = .ok (.aload_n 0, 1) := dk_42 (dk_at dksX0_init_0 0 rfl rfl)
theorem dX0_init_1 : decode cX0_init 1 = .ok (.invokespecial 1, 3) := dk_183 0 1 (dk_at dksX0_init_0 1 rfl rfl)
theorem dX0_init_4 : decode cX0_init 4 = .ok (.aload_n 0, 1) := dk_42 (dk_at dksX0_init_0 4 rfl rfl)
theorem dX0_init_5 : decode cX0_init 5 = .ok (.sipush 4096, 3) := dk_17 16 0 (dk_at dksX0_init_0 5 rfl rfl)
theorem dX0_init_8 : decode cX0_init 8 = .ok (.newarray .byte, 2) := dk_188_8 (dk_at dksX0_init_0 8 rfl rfl)
theorem dX0_init_10 : decode cX0_init 10 = .ok (.putfield 7, 3) := dk_181 0 7 (dk_at dksX0_init_0 10 rfl rfl)
theorem dX0_init_13 : decode cX0_init 13 = .ok (.return_, 1) := dk_177 (dk_at dksX0_init_0 13 rfl rfl)
abbrev cX0_put : ByteArray := prog_3_method_2_code
def yX0_put : MethodName := ⟨RX0, "put", "(IIII)Z"⟩
def dkwX0_put_3 : List UInt8 := [181, 0, 13, 4, 172]
abbrev dktX0_put_3 : List UInt8 := dkwX0_put_3 ++ []
def dkwX0_put_2 : List UInt8 := [182, 0, 17, 42, 42, 180, 0, 13, 16, 12, 96, 21, 4, 182, 0, 17, 42, 89, 180, 0, 13, 16, 16, 96]
abbrev dktX0_put_2 : List UInt8 := dkwX0_put_2 ++ dktX0_put_3
def dkwX0_put_1 : List UInt8 := [182, 0, 17, 42, 42, 180, 0, 13, 7, 96, 28, 182, 0, 17, 42, 42, 180, 0, 13, 16, 8, 96, 29]
abbrev dktX0_put_1 : List UInt8 := dkwX0_put_1 ++ dktX0_put_2
def dkwX0_put_0 : List UInt8 := [42, 180, 0, 13, 42, 180, 0, 7, 190, 16, 16, 100, 164, 0, 5, 3, 172, 42, 42, 180, 0, 13, 27]
abbrev dktX0_put_0 : List UInt8 := dkwX0_put_0 ++ dktX0_put_1
theorem dksX0_put_0 : cX0_put.data.toList.drop 0 = dktX0_put_0 := by decide +kernel
theorem dksX0_put_1 : cX0_put.data.toList.drop 23 = dktX0_put_1 := dk_seg dksX0_put_0 23 rfl rfl
theorem dksX0_put_2 : cX0_put.data.toList.drop 46 = dktX0_put_2 := dk_seg dksX0_put_1 23 rfl rfl
theorem dksX0_put_3 : cX0_put.data.toList.drop 70 = dktX0_put_3 := dk_seg dksX0_put_2 24 rfl rfl
theorem dX0_put_0 : decode cX0_put 0 = .ok (.aload_n 0, 1) := dk_42 (dk_at dksX0_put_0 0 rfl rfl)
theorem dX0_put_1 : decode cX0_put 1 = .ok (.getfield 13, 3) := dk_180 0 13 (dk_at dksX0_put_0 1 rfl rfl)
theorem dX0_put_4 : decode cX0_put 4 = .ok (.aload_n 0, 1) := dk_42 (dk_at dksX0_put_0 4 rfl rfl)
theorem dX0_put_5 : decode cX0_put 5 = .ok (.getfield 7, 3) := dk_180 0 7 (dk_at dksX0_put_0 5 rfl rfl)
theorem dX0_put_8 : decode cX0_put 8 = .ok (.arraylength, 1) := dk_190 (dk_at dksX0_put_0 8 rfl rfl)
theorem dX0_put_9 : decode cX0_put 9 = .ok (.bipush 16, 2) := dk_16 16 (dk_at dksX0_put_0 9 rfl rfl)
theorem dX0_put_11 : decode cX0_put 11 = .ok (.isub, 1) := dk_100 (dk_at dksX0_put_0 11 rfl rfl)
theorem dX0_put_12 : decode cX0_put 12 = .ok (.if_icmp .le 5, 3) := dk_164 0 5 (dk_at dksX0_put_0 12 rfl rfl)
theorem dX0_put_15 : decode cX0_put 15 = .ok (.iconst 0, 1) := dk_3 (dk_at dksX0_put_0 15 rfl rfl)
theorem dX0_put_16 : decode cX0_put 16 = .ok (.ireturn, 1) := dk_172 (dk_at dksX0_put_0 16 rfl rfl)
theorem dX0_put_17 : decode cX0_put 17 = .ok (.aload_n 0, 1) := dk_42 (dk_at dksX0_put_0 17 rfl rfl)
theorem dX0_put_18 : decode cX0_put 18 = .ok (.aload_n 0, 1) := dk_42 (dk_at dksX0_put_0 18 rfl rfl)
theorem dX0_put_19 : decode cX0_put 19 = .ok (.getfield 13, 3) := dk_180 0 13 (dk_at dksX0_put_0 19 rfl rfl)
theorem dX0_put_22 : decode cX0_put 22 = .ok (.iload_n 1, 1) := dk_27 (dk_at dksX0_put_0 22 rfl rfl)
theorem dX0_put_23 : decode cX0_put 23 = .ok (.invokevirtual 17, 3) := dk_182 0 17 (dk_at dksX0_put_1 0 rfl rfl)
theorem dX0_put_26 : decode cX0_put 26 = .ok (.aload_n 0, 1) := dk_42 (dk_at dksX0_put_1 3 rfl rfl)
theorem dX0_put_27 : decode cX0_put 27 = .ok (.aload_n 0, 1) := dk_42 (dk_at dksX0_put_1 4 rfl rfl)
theorem dX0_put_28 : decode cX0_put 28 = .ok (.getfield 13, 3) := dk_180 0 13 (dk_at dksX0_put_1 5 rfl rfl)
theorem dX0_put_31 : decode cX0_put 31 = .ok (.iconst 4, 1) := dk_7 (dk_at dksX0_put_1 8 rfl rfl)
theorem dX0_put_32 : decode cX0_put 32 = .ok (.iadd, 1) := dk_96 (dk_at dksX0_put_1 9 rfl rfl)
theorem dX0_put_33 : decode cX0_put 33 = .ok (.iload_n 2, 1) := dk_28 (dk_at dksX0_put_1 10 rfl rfl)
theorem dX0_put_34 : decode cX0_put 34 = .ok (.invokevirtual 17, 3) := dk_182 0 17 (dk_at dksX0_put_1 11 rfl rfl)
theorem dX0_put_37 : decode cX0_put 37 = .ok (.aload_n 0, 1) := dk_42 (dk_at dksX0_put_1 14 rfl rfl)
theorem dX0_put_38 : decode cX0_put 38 = .ok (.aload_n 0, 1) := dk_42 (dk_at dksX0_put_1 15 rfl rfl)
theorem dX0_put_39 : decode cX0_put 39 = .ok (.getfield 13, 3) := dk_180 0 13 (dk_at dksX0_put_1 16 rfl rfl)
theorem dX0_put_42 : decode cX0_put 42 = .ok (.bipush 8, 2) := dk_16 8 (dk_at dksX0_put_1 19 rfl rfl)
theorem dX0_put_44 : decode cX0_put 44 = .ok (.iadd, 1) := dk_96 (dk_at dksX0_put_1 21 rfl rfl)
theorem dX0_put_45 : decode cX0_put 45 = .ok (.iload_n 3, 1) := dk_29 (dk_at dksX0_put_1 22 rfl rfl)
theorem dX0_put_46 : decode cX0_put 46 = .ok (.invokevirtual 17, 3) := dk_182 0 17 (dk_at dksX0_put_2 0 rfl rfl)
theorem dX0_put_49 : decode cX0_put 49 = .ok (.aload_n 0, 1) := dk_42 (dk_at dksX0_put_2 3 rfl rfl)
theorem dX0_put_50 : decode cX0_put 50 = .ok (.aload_n 0, 1) := dk_42 (dk_at dksX0_put_2 4 rfl rfl)
theorem dX0_put_51 : decode cX0_put 51 = .ok (.getfield 13, 3) := dk_180 0 13 (dk_at dksX0_put_2 5 rfl rfl)
theorem dX0_put_54 : decode cX0_put 54 = .ok (.bipush 12, 2) := dk_16 12 (dk_at dksX0_put_2 8 rfl rfl)
theorem dX0_put_56 : decode cX0_put 56 = .ok (.iadd, 1) := dk_96 (dk_at dksX0_put_2 10 rfl rfl)
theorem dX0_put_57 : decode cX0_put 57 = .ok (.iload 4, 2) := dk_21 4 (dk_at dksX0_put_2 11 rfl rfl)
theorem dX0_put_59 : decode cX0_put 59 = .ok (.invokevirtual 17, 3) := dk_182 0 17 (dk_at dksX0_put_2 13 rfl rfl)
theorem dX0_put_62 : decode cX0_put 62 = .ok (.aload_n 0, 1) := dk_42 (dk_at dksX0_put_2 16 rfl rfl)
theorem dX0_put_63 : decode cX0_put 63 = .ok (.dup, 1) := dk_89 (dk_at dksX0_put_2 17 rfl rfl)
theorem dX0_put_64 : decode cX0_put 64 = .ok (.getfield 13, 3) := dk_180 0 13 (dk_at dksX0_put_2 18 rfl rfl)
theorem dX0_put_67 : decode cX0_put 67 = .ok (.bipush 16, 2) := dk_16 16 (dk_at dksX0_put_2 21 rfl rfl)
theorem dX0_put_69 : decode cX0_put 69 = .ok (.iadd, 1) := dk_96 (dk_at dksX0_put_2 23 rfl rfl)
theorem dX0_put_70 : decode cX0_put 70 = .ok (.putfield 13, 3) := dk_181 0 13 (dk_at dksX0_put_3 0 rfl rfl)
theorem dX0_put_73 : decode cX0_put 73 = .ok (.iconst 1, 1) := dk_4 (dk_at dksX0_put_3 3 rfl rfl)
theorem dX0_put_74 : decode cX0_put 74 = .ok (.ireturn, 1) := dk_172 (dk_at dksX0_put_3 4 rfl rfl)
abbrev cX0_word : ByteArray := prog_3_method_3_code
def yX0_word : MethodName := ⟨RX0, "word", "(II)V"⟩
def dkwX0_word_1 : List UInt8 := [42, 180, 0, 7, 27, 5, 96, 28, 16, 8, 122, 145, 84, 42, 180, 0, 7, 27, 6, 96, 28, 145, 84, 177]
abbrev dktX0_word_1 : List UInt8 := dkwX0_word_1 ++ []
def dkwX0_word_0 : List UInt8 := [42, 180, 0, 7, 27, 28, 16, 24, 122, 145, 84, 42, 180, 0, 7, 27, 4, 96, 28, 16, 16, 122, 145, 84]
abbrev dktX0_word_0 : List UInt8 := dkwX0_word_0 ++ dktX0_word_1
theorem dksX0_word_0 : cX0_word.data.toList.drop 0 = dktX0_word_0 := by decide +kernel
theorem dksX0_word_1 : cX0_word.data.toList.drop 24 = dktX0_word_1 := dk_seg dksX0_word_0 24 rfl rfl
theorem dX0_word_0 : decode cX0_word 0 = .ok (.aload_n 0, 1) := dk_42 (dk_at dksX0_word_0 0 rfl rfl)
theorem dX0_word_1 : decode cX0_word 1 = .ok (.getfield 7, 3) := dk_180 0 7 (dk_at dksX0_word_0 1 rfl rfl)
theorem dX0_word_4 : decode cX0_word 4 = .ok (.iload_n 1, 1) := dk_27 (dk_at dksX0_word_0 4 rfl rfl)
theorem dX0_word_5 : decode cX0_word 5 = .ok (.iload_n 2, 1) := dk_28 (dk_at dksX0_word_0 5 rfl rfl)
theorem dX0_word_6 : decode cX0_word 6 = .ok (.bipush 24, 2) := dk_16 24 (dk_at dksX0_word_0 6 rfl rfl)
theorem dX0_word_8 : decode cX0_word 8 = .ok (.ishr, 1) := dk_122 (dk_at dksX0_word_0 8 rfl rfl)
theorem dX0_word_9 : decode cX0_word 9 = .ok (.i2b, 1) := dk_145 (dk_at dksX0_word_0 9 rfl rfl)
theorem dX0_word_10 : decode cX0_word 10 = .ok (.bastore, 1) := dk_84 (dk_at dksX0_word_0 10 rfl rfl)
theorem dX0_word_11 : decode cX0_word 11 = .ok (.aload_n 0, 1) := dk_42 (dk_at dksX0_word_0 11 rfl rfl)
theorem dX0_word_12 : decode cX0_word 12 = .ok (.getfield 7, 3) := dk_180 0 7 (dk_at dksX0_word_0 12 rfl rfl)
theorem dX0_word_15 : decode cX0_word 15 = .ok (.iload_n 1, 1) := dk_27 (dk_at dksX0_word_0 15 rfl rfl)
theorem dX0_word_16 : decode cX0_word 16 = .ok (.iconst 1, 1) := dk_4 (dk_at dksX0_word_0 16 rfl rfl)
theorem dX0_word_17 : decode cX0_word 17 = .ok (.iadd, 1) := dk_96 (dk_at dksX0_word_0 17 rfl rfl)
theorem dX0_word_18 : decode cX0_word 18 = .ok (.iload_n 2, 1) := dk_28 (dk_at dksX0_word_0 18 rfl rfl)
theorem dX0_word_19 : decode cX0_word 19 = .ok (.bipush 16, 2) := dk_16 16 (dk_at dksX0_word_0 19 rfl rfl)
theorem dX0_word_21 : decode cX0_word 21 = .ok (.ishr, 1) := dk_122 (dk_at dksX0_word_0 21 rfl rfl)
theorem dX0_word_22 : decode cX0_word 22 = .ok (.i2b, 1) := dk_145 (dk_at dksX0_word_0 22 rfl rfl)
theorem dX0_word_23 : decode cX0_word 23 = .ok (.bastore, 1) := dk_84 (dk_at dksX0_word_0 23 rfl rfl)
theorem dX0_word_24 : decode cX0_word 24 = .ok (.aload_n 0, 1) := dk_42 (dk_at dksX0_word_1 0 rfl rfl)
theorem dX0_word_25 : decode cX0_word 25 = .ok (.getfield 7, 3) := dk_180 0 7 (dk_at dksX0_word_1 1 rfl rfl)
theorem dX0_word_28 : decode cX0_word 28 = .ok (.iload_n 1, 1) := dk_27 (dk_at dksX0_word_1 4 rfl rfl)
theorem dX0_word_29 : decode cX0_word 29 = .ok (.iconst 2, 1) := dk_5 (dk_at dksX0_word_1 5 rfl rfl)
theorem dX0_word_30 : decode cX0_word 30 = .ok (.iadd, 1) := dk_96 (dk_at dksX0_word_1 6 rfl rfl)
theorem dX0_word_31 : decode cX0_word 31 = .ok (.iload_n 2, 1) := dk_28 (dk_at dksX0_word_1 7 rfl rfl)
theorem dX0_word_32 : decode cX0_word 32 = .ok (.bipush 8, 2) := dk_16 8 (dk_at dksX0_word_1 8 rfl rfl)
theorem dX0_word_34 : decode cX0_word 34 = .ok (.ishr, 1) := dk_122 (dk_at dksX0_word_1 10 rfl rfl)
theorem dX0_word_35 : decode cX0_word 35 = .ok (.i2b, 1) := dk_145 (dk_at dksX0_word_1 11 rfl rfl)
theorem dX0_word_36 : decode cX0_word 36 = .ok (.bastore, 1) := dk_84 (dk_at dksX0_word_1 12 rfl rfl)
theorem dX0_word_37 : decode cX0_word 37 = .ok (.aload_n 0, 1) := dk_42 (dk_at dksX0_word_1 13 rfl rfl)
theorem dX0_word_38 : decode cX0_word 38 = .ok (.getfield 7, 3) := dk_180 0 7 (dk_at dksX0_word_1 14 rfl rfl)
theorem dX0_word_41 : decode cX0_word 41 = .ok (.iload_n 1, 1) := dk_27 (dk_at dksX0_word_1 17 rfl rfl)
theorem dX0_word_42 : decode cX0_word 42 = .ok (.iconst 3, 1) := dk_6 (dk_at dksX0_word_1 18 rfl rfl)
theorem dX0_word_43 : decode cX0_word 43 = .ok (.iadd, 1) := dk_96 (dk_at dksX0_word_1 19 rfl rfl)
theorem dX0_word_44 : decode cX0_word 44 = .ok (.iload_n 2, 1) := dk_28 (dk_at dksX0_word_1 20 rfl rfl)
theorem dX0_word_45 : decode cX0_word 45 = .ok (.i2b, 1) := dk_145 (dk_at dksX0_word_1 21 rfl rfl)
theorem dX0_word_46 : decode cX0_word 46 = .ok (.bastore, 1) := dk_84 (dk_at dksX0_word_1 22 rfl rfl)
theorem dX0_word_47 : decode cX0_word 47 = .ok (.return_, 1) := dk_177 (dk_at dksX0_word_1 23 rfl rfl)
abbrev cX0_trim : ByteArray := prog_3_method_4_code
def yX0_trim : MethodName := ⟨RX0, "trim", "(I)V"⟩
def dkwX0_trim_0 : List UInt8 := [42, 42, 27, 182, 0, 21, 181, 0, 13, 177]
abbrev dktX0_trim_0 : List UInt8 := dkwX0_trim_0 ++ []
theorem dksX0_trim_0 : cX0_trim.data.toList.drop 0 = dktX0_trim_0 := by decide +kernel
theorem dX0_trim_0 : decode cX0_trim 0 = .ok (.aload_n 0, 1) := dk_42 (dk_at dksX0_trim_0 0 rfl rfl)
theorem dX0_trim_1 : decode cX0_trim 1 = .ok (.aload_n 0, 1) := dk_42 (dk_at dksX0_trim_0 1 rfl rfl)
theorem dX0_trim_2 : decode cX0_trim 2 = .ok (.iload_n 1, 1) := dk_27 (dk_at dksX0_trim_0 2 rfl rfl)
theorem dX0_trim_3 : decode cX0_trim 3 = .ok (.invokevirtual 21, 3) := dk_182 0 21 (dk_at dksX0_trim_0 3 rfl rfl)
theorem dX0_trim_6 : decode cX0_trim 6 = .ok (.putfield 13, 3) := dk_181 0 13 (dk_at dksX0_trim_0 6 rfl rfl)
theorem dX0_trim_9 : decode cX0_trim 9 = .ok (.return_, 1) := dk_177 (dk_at dksX0_trim_0 9 rfl rfl)
abbrev cX0_from : ByteArray := prog_3_method_6_code
def yX0_from : MethodName := ⟨RX0, "from", "(I)I"⟩
def dkwX0_from_0 : List UInt8 := [27, 18, 25, 126, 42, 180, 0, 13, 4, 96, 112, 172]
abbrev dktX0_from_0 : List UInt8 := dkwX0_from_0 ++ []
theorem dksX0_from_0 : cX0_from.data.toList.drop 0 = dktX0_from_0 := by decide +kernel
theorem dX0_from_0 : decode cX0_from 0 = .ok (.iload_n 1, 1) := dk_27 (dk_at dksX0_from_0 0 rfl rfl)
theorem dX0_from_1 : decode cX0_from 1 = .ok (.ldc 25, 2) := dk_18 25 (dk_at dksX0_from_0 1 rfl rfl)
theorem dX0_from_3 : decode cX0_from 3 = .ok (.iand, 1) := dk_126 (dk_at dksX0_from_0 3 rfl rfl)
theorem dX0_from_4 : decode cX0_from 4 = .ok (.aload_n 0, 1) := dk_42 (dk_at dksX0_from_0 4 rfl rfl)
theorem dX0_from_5 : decode cX0_from 5 = .ok (.getfield 13, 3) := dk_180 0 13 (dk_at dksX0_from_0 5 rfl rfl)
theorem dX0_from_8 : decode cX0_from 8 = .ok (.iconst 1, 1) := dk_4 (dk_at dksX0_from_0 8 rfl rfl)
theorem dX0_from_9 : decode cX0_from 9 = .ok (.iadd, 1) := dk_96 (dk_at dksX0_from_0 9 rfl rfl)
theorem dX0_from_10 : decode cX0_from 10 = .ok (.irem, 1) := dk_112 (dk_at dksX0_from_0 10 rfl rfl)
theorem dX0_from_11 : decode cX0_from 11 = .ok (.ireturn, 1) := dk_172 (dk_at dksX0_from_0 11 rfl rfl)
abbrev cX0_size : ByteArray := prog_3_method_5_code
def yX0_size : MethodName := ⟨RX0, "size", "()I"⟩
theorem dX0_size_0 : decode cX0_size 0 = .ok (.aload_n 0, 1) := by decide +kernel
theorem dX0_size_1 : decode cX0_size 1 = .ok (.getfield 13, 3) := by decide +kernel
theorem dX0_size_4 : decode cX0_size 4 = .ok (.ireturn, 1) := by decide +kernel
abbrev cX0_crc : ByteArray := prog_3_method_9_code
def yX0_crc : MethodName := ⟨RX0, "crc", "(II)J"⟩
def dkwX0_crc_0 : List UInt8 := [42, 27, 182, 0, 21, 62, 4, 42, 180, 0, 7, 29, 42, 29, 28, 182, 0, 42, 184, 0, 46, 173]
abbrev dktX0_crc_0 : List UInt8 := dkwX0_crc_0 ++ []
theorem dksX0_crc_0 : cX0_crc.data.toList.drop 0 = dktX0_crc_0 := by decide +kernel
theorem dX0_crc_0 : decode cX0_crc 0 = .ok (.aload_n 0, 1) := dk_42 (dk_at dksX0_crc_0 0 rfl rfl)
theorem dX0_crc_1 : decode cX0_crc 1 = .ok (.iload_n 1, 1) := dk_27 (dk_at dksX0_crc_0 1 rfl rfl)
theorem dX0_crc_2 : decode cX0_crc 2 = .ok (.invokevirtual 21, 3) := dk_182 0 21 (dk_at dksX0_crc_0 2 rfl rfl)
theorem dX0_crc_5 : decode cX0_crc 5 = .ok (.istore_n 3, 1) := dk_62 (dk_at dksX0_crc_0 5 rfl rfl)
theorem dX0_crc_6 : decode cX0_crc 6 = .ok (.iconst 1, 1) := dk_4 (dk_at dksX0_crc_0 6 rfl rfl)
theorem dX0_crc_7 : decode cX0_crc 7 = .ok (.aload_n 0, 1) := dk_42 (dk_at dksX0_crc_0 7 rfl rfl)
theorem dX0_crc_8 : decode cX0_crc 8 = .ok (.getfield 7, 3) := dk_180 0 7 (dk_at dksX0_crc_0 8 rfl rfl)
theorem dX0_crc_11 : decode cX0_crc 11 = .ok (.iload_n 3, 1) := dk_29 (dk_at dksX0_crc_0 11 rfl rfl)
theorem dX0_crc_12 : decode cX0_crc 12 = .ok (.aload_n 0, 1) := dk_42 (dk_at dksX0_crc_0 12 rfl rfl)
theorem dX0_crc_13 : decode cX0_crc 13 = .ok (.iload_n 3, 1) := dk_29 (dk_at dksX0_crc_0 13 rfl rfl)
theorem dX0_crc_14 : decode cX0_crc 14 = .ok (.iload_n 2, 1) := dk_28 (dk_at dksX0_crc_0 14 rfl rfl)
theorem dX0_crc_15 : decode cX0_crc 15 = .ok (.invokevirtual 42, 3) := dk_182 0 42 (dk_at dksX0_crc_0 15 rfl rfl)
theorem dX0_crc_18 : decode cX0_crc 18 = .ok (.invokestatic 46, 3) := dk_184 0 46 (dk_at dksX0_crc_0 18 rfl rfl)
theorem dX0_crc_21 : decode cX0_crc 21 = .ok (.lreturn, 1) := dk_173 (dk_at dksX0_crc_0 21 rfl rfl)
abbrev cX0_count : ByteArray := prog_3_method_7_code
def yX0_count : MethodName := ⟨RX0, "count", "(II)I"⟩
def dkwX0_count_0 : List UInt8 := [28, 18, 25, 126, 42, 180, 0, 13, 27, 100, 4, 96, 112, 172]
abbrev dktX0_count_0 : List UInt8 := dkwX0_count_0 ++ []
theorem dksX0_count_0 : cX0_count.data.toList.drop 0 = dktX0_count_0 := by decide +kernel
theorem dX0_count_0 : decode cX0_count 0 = .ok (.iload_n 2, 1) := dk_28 (dk_at dksX0_count_0 0 rfl rfl)
theorem dX0_count_1 : decode cX0_count 1 = .ok (.ldc 25, 2) := dk_18 25 (dk_at dksX0_count_0 1 rfl rfl)
theorem dX0_count_3 : decode cX0_count 3 = .ok (.iand, 1) := dk_126 (dk_at dksX0_count_0 3 rfl rfl)
theorem dX0_count_4 : decode cX0_count 4 = .ok (.aload_n 0, 1) := dk_42 (dk_at dksX0_count_0 4 rfl rfl)
theorem dX0_count_5 : decode cX0_count 5 = .ok (.getfield 13, 3) := dk_180 0 13 (dk_at dksX0_count_0 5 rfl rfl)
theorem dX0_count_8 : decode cX0_count 8 = .ok (.iload_n 1, 1) := dk_27 (dk_at dksX0_count_0 8 rfl rfl)
theorem dX0_count_9 : decode cX0_count 9 = .ok (.isub, 1) := dk_100 (dk_at dksX0_count_0 9 rfl rfl)
theorem dX0_count_10 : decode cX0_count 10 = .ok (.iconst 1, 1) := dk_4 (dk_at dksX0_count_0 10 rfl rfl)
theorem dX0_count_11 : decode cX0_count 11 = .ok (.iadd, 1) := dk_96 (dk_at dksX0_count_0 11 rfl rfl)
theorem dX0_count_12 : decode cX0_count 12 = .ok (.irem, 1) := dk_112 (dk_at dksX0_count_0 12 rfl rfl)
theorem dX0_count_13 : decode cX0_count 13 = .ok (.ireturn, 1) := dk_172 (dk_at dksX0_count_0 13 rfl rfl)
abbrev cX0_sum : ByteArray := prog_3_method_8_code
def yX0_sum : MethodName := ⟨RX0, "sum", "(Z[BII)J"⟩
def dkwX0_sum_2 : List UInt8 := [182, 0, 41, 173]
abbrev dktX0_sum_2 : List UInt8 := dkwX0_sum_2 ++ []
def dkwX0_sum_1 : List UInt8 := [182, 0, 33, 173, 187, 0, 37, 89, 183, 0, 39, 58, 4, 25, 4, 43, 28, 29, 182, 0, 40, 25, 4]
abbrev dktX0_sum_1 : List UInt8 := dkwX0_sum_1 ++ dktX0_sum_2
def dkwX0_sum_0 : List UInt8 := [26, 153, 0, 26, 187, 0, 26, 89, 183, 0, 28, 58, 4, 25, 4, 43, 28, 29, 182, 0, 29, 25, 4]
abbrev dktX0_sum_0 : List UInt8 := dkwX0_sum_0 ++ dktX0_sum_1
theorem dksX0_sum_0 : cX0_sum.data.toList.drop 0 = dktX0_sum_0 := by decide +kernel
theorem dksX0_sum_1 : cX0_sum.data.toList.drop 23 = dktX0_sum_1 := dk_seg dksX0_sum_0 23 rfl rfl
theorem dksX0_sum_2 : cX0_sum.data.toList.drop 46 = dktX0_sum_2 := dk_seg dksX0_sum_1 23 rfl rfl
theorem dX0_sum_0 : decode cX0_sum 0 = .ok (.iload_n 0, 1) := dk_26 (dk_at dksX0_sum_0 0 rfl rfl)
theorem dX0_sum_1 : decode cX0_sum 1 = .ok (.ifCond .eq 26, 3) := dk_153 0 26 (dk_at dksX0_sum_0 1 rfl rfl)
theorem dX0_sum_4 : decode cX0_sum 4 = .ok (.new 26, 3) := dk_187 0 26 (dk_at dksX0_sum_0 4 rfl rfl)
theorem dX0_sum_7 : decode cX0_sum 7 = .ok (.dup, 1) := dk_89 (dk_at dksX0_sum_0 7 rfl rfl)
theorem dX0_sum_8 : decode cX0_sum 8 = .ok (.invokespecial 28, 3) := dk_183 0 28 (dk_at dksX0_sum_0 8 rfl rfl)
theorem dX0_sum_11 : decode cX0_sum 11 = .ok (.astore 4, 2) := dk_58 4 (dk_at dksX0_sum_0 11 rfl rfl)
theorem dX0_sum_13 : decode cX0_sum 13 = .ok (.aload 4, 2) := dk_25 4 (dk_at dksX0_sum_0 13 rfl rfl)
theorem dX0_sum_15 : decode cX0_sum 15 = .ok (.aload_n 1, 1) := dk_43 (dk_at dksX0_sum_0 15 rfl rfl)
theorem dX0_sum_16 : decode cX0_sum 16 = .ok (.iload_n 2, 1) := dk_28 (dk_at dksX0_sum_0 16 rfl rfl)
theorem dX0_sum_17 : decode cX0_sum 17 = .ok (.iload_n 3, 1) := dk_29 (dk_at dksX0_sum_0 17 rfl rfl)
theorem dX0_sum_18 : decode cX0_sum 18 = .ok (.invokevirtual 29, 3) := dk_182 0 29 (dk_at dksX0_sum_0 18 rfl rfl)
theorem dX0_sum_21 : decode cX0_sum 21 = .ok (.aload 4, 2) := dk_25 4 (dk_at dksX0_sum_0 21 rfl rfl)
theorem dX0_sum_23 : decode cX0_sum 23 = .ok (.invokevirtual 33, 3) := dk_182 0 33 (dk_at dksX0_sum_1 0 rfl rfl)
theorem dX0_sum_26 : decode cX0_sum 26 = .ok (.lreturn, 1) := dk_173 (dk_at dksX0_sum_1 3 rfl rfl)
theorem dX0_sum_27 : decode cX0_sum 27 = .ok (.new 37, 3) := dk_187 0 37 (dk_at dksX0_sum_1 4 rfl rfl)
theorem dX0_sum_30 : decode cX0_sum 30 = .ok (.dup, 1) := dk_89 (dk_at dksX0_sum_1 7 rfl rfl)
theorem dX0_sum_31 : decode cX0_sum 31 = .ok (.invokespecial 39, 3) := dk_183 0 39 (dk_at dksX0_sum_1 8 rfl rfl)
theorem dX0_sum_34 : decode cX0_sum 34 = .ok (.astore 4, 2) := dk_58 4 (dk_at dksX0_sum_1 11 rfl rfl)
theorem dX0_sum_36 : decode cX0_sum 36 = .ok (.aload 4, 2) := dk_25 4 (dk_at dksX0_sum_1 13 rfl rfl)
theorem dX0_sum_38 : decode cX0_sum 38 = .ok (.aload_n 1, 1) := dk_43 (dk_at dksX0_sum_1 15 rfl rfl)
theorem dX0_sum_39 : decode cX0_sum 39 = .ok (.iload_n 2, 1) := dk_28 (dk_at dksX0_sum_1 16 rfl rfl)
theorem dX0_sum_40 : decode cX0_sum 40 = .ok (.iload_n 3, 1) := dk_29 (dk_at dksX0_sum_1 17 rfl rfl)
theorem dX0_sum_41 : decode cX0_sum 41 = .ok (.invokevirtual 40, 3) := dk_182 0 40 (dk_at dksX0_sum_1 18 rfl rfl)
theorem dX0_sum_44 : decode cX0_sum 44 = .ok (.aload 4, 2) := dk_25 4 (dk_at dksX0_sum_1 21 rfl rfl)
theorem dX0_sum_46 : decode cX0_sum 46 = .ok (.invokevirtual 41, 3) := dk_182 0 41 (dk_at dksX0_sum_2 0 rfl rfl)
theorem dX0_sum_49 : decode cX0_sum 49 = .ok (.lreturn, 1) := dk_173 (dk_at dksX0_sum_2 3 rfl rfl)
abbrev cX0_adler : ByteArray := prog_3_method_10_code
def yX0_adler : MethodName := ⟨RX0, "adler", "(II)J"⟩
def dkwX0_adler_0 : List UInt8 := [42, 27, 182, 0, 21, 62, 3, 42, 180, 0, 7, 29, 42, 29, 28, 182, 0, 42, 184, 0, 46, 173]
abbrev dktX0_adler_0 : List UInt8 := dkwX0_adler_0 ++ []
theorem dksX0_adler_0 : cX0_adler.data.toList.drop 0 = dktX0_adler_0 := by decide +kernel
theorem dX0_adler_0 : decode cX0_adler 0 = .ok (.aload_n 0, 1) := dk_42 (dk_at dksX0_adler_0 0 rfl rfl)
theorem dX0_adler_1 : decode cX0_adler 1 = .ok (.iload_n 1, 1) := dk_27 (dk_at dksX0_adler_0 1 rfl rfl)
theorem dX0_adler_2 : decode cX0_adler 2 = .ok (.invokevirtual 21, 3) := dk_182 0 21 (dk_at dksX0_adler_0 2 rfl rfl)
theorem dX0_adler_5 : decode cX0_adler 5 = .ok (.istore_n 3, 1) := dk_62 (dk_at dksX0_adler_0 5 rfl rfl)
theorem dX0_adler_6 : decode cX0_adler 6 = .ok (.iconst 0, 1) := dk_3 (dk_at dksX0_adler_0 6 rfl rfl)
theorem dX0_adler_7 : decode cX0_adler 7 = .ok (.aload_n 0, 1) := dk_42 (dk_at dksX0_adler_0 7 rfl rfl)
theorem dX0_adler_8 : decode cX0_adler 8 = .ok (.getfield 7, 3) := dk_180 0 7 (dk_at dksX0_adler_0 8 rfl rfl)
theorem dX0_adler_11 : decode cX0_adler 11 = .ok (.iload_n 3, 1) := dk_29 (dk_at dksX0_adler_0 11 rfl rfl)
theorem dX0_adler_12 : decode cX0_adler 12 = .ok (.aload_n 0, 1) := dk_42 (dk_at dksX0_adler_0 12 rfl rfl)
theorem dX0_adler_13 : decode cX0_adler 13 = .ok (.iload_n 3, 1) := dk_29 (dk_at dksX0_adler_0 13 rfl rfl)
theorem dX0_adler_14 : decode cX0_adler 14 = .ok (.iload_n 2, 1) := dk_28 (dk_at dksX0_adler_0 14 rfl rfl)
theorem dX0_adler_15 : decode cX0_adler 15 = .ok (.invokevirtual 42, 3) := dk_182 0 42 (dk_at dksX0_adler_0 15 rfl rfl)
theorem dX0_adler_18 : decode cX0_adler 18 = .ok (.invokestatic 46, 3) := dk_184 0 46 (dk_at dksX0_adler_0 18 rfl rfl)
theorem dX0_adler_21 : decode cX0_adler 21 = .ok (.lreturn, 1) := dk_173 (dk_at dksX0_adler_0 21 rfl rfl)
abbrev cX0_joinCrc : ByteArray := prog_3_method_11_code
def yX0_joinCrc : MethodName := ⟨RX0, "joinCrc", "(III)J"⟩
def dkwX0_joinCrc_2 : List UInt8 := [96, 21, 5, 21, 6, 100, 184, 0, 46, 21, 5, 21, 6, 100, 133, 184, 0, 50, 173]
abbrev dktX0_joinCrc_2 : List UInt8 := dkwX0_joinCrc_2 ++ []
def dkwX0_joinCrc_1 : List UInt8 := [112, 54, 6, 4, 42, 180, 0, 7, 21, 4, 21, 6, 184, 0, 46, 4, 42, 180, 0, 7, 21, 4, 21, 6]
abbrev dktX0_joinCrc_1 : List UInt8 := dkwX0_joinCrc_1 ++ dktX0_joinCrc_2
def dkwX0_joinCrc_0 : List UInt8 := [42, 27, 182, 0, 21, 54, 4, 42, 21, 4, 28, 182, 0, 42, 54, 5, 29, 18, 25, 126, 21, 5, 4, 96]
abbrev dktX0_joinCrc_0 : List UInt8 := dkwX0_joinCrc_0 ++ dktX0_joinCrc_1
theorem dksX0_joinCrc_0 : cX0_joinCrc.data.toList.drop 0 = dktX0_joinCrc_0 := by decide +kernel
theorem dksX0_joinCrc_1 : cX0_joinCrc.data.toList.drop 24 = dktX0_joinCrc_1 := dk_seg dksX0_joinCrc_0 24 rfl rfl
theorem dksX0_joinCrc_2 : cX0_joinCrc.data.toList.drop 48 = dktX0_joinCrc_2 := dk_seg dksX0_joinCrc_1 24 rfl rfl
theorem dX0_joinCrc_0 : decode cX0_joinCrc 0 = .ok (.aload_n 0, 1) := dk_42 (dk_at dksX0_joinCrc_0 0 rfl rfl)
theorem dX0_joinCrc_1 : decode cX0_joinCrc 1 = .ok (.iload_n 1, 1) := dk_27 (dk_at dksX0_joinCrc_0 1 rfl rfl)
theorem dX0_joinCrc_2 : decode cX0_joinCrc 2 = .ok (.invokevirtual 21, 3) := dk_182 0 21 (dk_at dksX0_joinCrc_0 2 rfl rfl)
theorem dX0_joinCrc_5 : decode cX0_joinCrc 5 = .ok (.istore 4, 2) := dk_54 4 (dk_at dksX0_joinCrc_0 5 rfl rfl)
theorem dX0_joinCrc_7 : decode cX0_joinCrc 7 = .ok (.aload_n 0, 1) := dk_42 (dk_at dksX0_joinCrc_0 7 rfl rfl)
theorem dX0_joinCrc_8 : decode cX0_joinCrc 8 = .ok (.iload 4, 2) := dk_21 4 (dk_at dksX0_joinCrc_0 8 rfl rfl)
theorem dX0_joinCrc_10 : decode cX0_joinCrc 10 = .ok (.iload_n 2, 1) := dk_28 (dk_at dksX0_joinCrc_0 10 rfl rfl)
theorem dX0_joinCrc_11 : decode cX0_joinCrc 11 = .ok (.invokevirtual 42, 3) := dk_182 0 42 (dk_at dksX0_joinCrc_0 11 rfl rfl)
theorem dX0_joinCrc_14 : decode cX0_joinCrc 14 = .ok (.istore 5, 2) := dk_54 5 (dk_at dksX0_joinCrc_0 14 rfl rfl)
theorem dX0_joinCrc_16 : decode cX0_joinCrc 16 = .ok (.iload_n 3, 1) := dk_29 (dk_at dksX0_joinCrc_0 16 rfl rfl)
theorem dX0_joinCrc_17 : decode cX0_joinCrc 17 = .ok (.ldc 25, 2) := dk_18 25 (dk_at dksX0_joinCrc_0 17 rfl rfl)
theorem dX0_joinCrc_19 : decode cX0_joinCrc 19 = .ok (.iand, 1) := dk_126 (dk_at dksX0_joinCrc_0 19 rfl rfl)
theorem dX0_joinCrc_20 : decode cX0_joinCrc 20 = .ok (.iload 5, 2) := dk_21 5 (dk_at dksX0_joinCrc_0 20 rfl rfl)
theorem dX0_joinCrc_22 : decode cX0_joinCrc 22 = .ok (.iconst 1, 1) := dk_4 (dk_at dksX0_joinCrc_0 22 rfl rfl)
theorem dX0_joinCrc_23 : decode cX0_joinCrc 23 = .ok (.iadd, 1) := dk_96 (dk_at dksX0_joinCrc_0 23 rfl rfl)
theorem dX0_joinCrc_24 : decode cX0_joinCrc 24 = .ok (.irem, 1) := dk_112 (dk_at dksX0_joinCrc_1 0 rfl rfl)
theorem dX0_joinCrc_25 : decode cX0_joinCrc 25 = .ok (.istore 6, 2) := dk_54 6 (dk_at dksX0_joinCrc_1 1 rfl rfl)
theorem dX0_joinCrc_27 : decode cX0_joinCrc 27 = .ok (.iconst 1, 1) := dk_4 (dk_at dksX0_joinCrc_1 3 rfl rfl)
theorem dX0_joinCrc_28 : decode cX0_joinCrc 28 = .ok (.aload_n 0, 1) := dk_42 (dk_at dksX0_joinCrc_1 4 rfl rfl)
theorem dX0_joinCrc_29 : decode cX0_joinCrc 29 = .ok (.getfield 7, 3) := dk_180 0 7 (dk_at dksX0_joinCrc_1 5 rfl rfl)
theorem dX0_joinCrc_32 : decode cX0_joinCrc 32 = .ok (.iload 4, 2) := dk_21 4 (dk_at dksX0_joinCrc_1 8 rfl rfl)
theorem dX0_joinCrc_34 : decode cX0_joinCrc 34 = .ok (.iload 6, 2) := dk_21 6 (dk_at dksX0_joinCrc_1 10 rfl rfl)
theorem dX0_joinCrc_36 : decode cX0_joinCrc 36 = .ok (.invokestatic 46, 3) := dk_184 0 46 (dk_at dksX0_joinCrc_1 12 rfl rfl)
theorem dX0_joinCrc_39 : decode cX0_joinCrc 39 = .ok (.iconst 1, 1) := dk_4 (dk_at dksX0_joinCrc_1 15 rfl rfl)
theorem dX0_joinCrc_40 : decode cX0_joinCrc 40 = .ok (.aload_n 0, 1) := dk_42 (dk_at dksX0_joinCrc_1 16 rfl rfl)
theorem dX0_joinCrc_41 : decode cX0_joinCrc 41 = .ok (.getfield 7, 3) := dk_180 0 7 (dk_at dksX0_joinCrc_1 17 rfl rfl)
theorem dX0_joinCrc_44 : decode cX0_joinCrc 44 = .ok (.iload 4, 2) := dk_21 4 (dk_at dksX0_joinCrc_1 20 rfl rfl)
theorem dX0_joinCrc_46 : decode cX0_joinCrc 46 = .ok (.iload 6, 2) := dk_21 6 (dk_at dksX0_joinCrc_1 22 rfl rfl)
theorem dX0_joinCrc_48 : decode cX0_joinCrc 48 = .ok (.iadd, 1) := dk_96 (dk_at dksX0_joinCrc_2 0 rfl rfl)
theorem dX0_joinCrc_49 : decode cX0_joinCrc 49 = .ok (.iload 5, 2) := dk_21 5 (dk_at dksX0_joinCrc_2 1 rfl rfl)
theorem dX0_joinCrc_51 : decode cX0_joinCrc 51 = .ok (.iload 6, 2) := dk_21 6 (dk_at dksX0_joinCrc_2 3 rfl rfl)
theorem dX0_joinCrc_53 : decode cX0_joinCrc 53 = .ok (.isub, 1) := dk_100 (dk_at dksX0_joinCrc_2 5 rfl rfl)
theorem dX0_joinCrc_54 : decode cX0_joinCrc 54 = .ok (.invokestatic 46, 3) := dk_184 0 46 (dk_at dksX0_joinCrc_2 6 rfl rfl)
theorem dX0_joinCrc_57 : decode cX0_joinCrc 57 = .ok (.iload 5, 2) := dk_21 5 (dk_at dksX0_joinCrc_2 9 rfl rfl)
theorem dX0_joinCrc_59 : decode cX0_joinCrc 59 = .ok (.iload 6, 2) := dk_21 6 (dk_at dksX0_joinCrc_2 11 rfl rfl)
theorem dX0_joinCrc_61 : decode cX0_joinCrc 61 = .ok (.isub, 1) := dk_100 (dk_at dksX0_joinCrc_2 13 rfl rfl)
theorem dX0_joinCrc_62 : decode cX0_joinCrc 62 = .ok (.i2l, 1) := dk_133 (dk_at dksX0_joinCrc_2 14 rfl rfl)
theorem dX0_joinCrc_63 : decode cX0_joinCrc 63 = .ok (.invokestatic 50, 3) := dk_184 0 50 (dk_at dksX0_joinCrc_2 15 rfl rfl)
theorem dX0_joinCrc_66 : decode cX0_joinCrc 66 = .ok (.lreturn, 1) := dk_173 (dk_at dksX0_joinCrc_2 18 rfl rfl)
abbrev cX0_joinAdler : ByteArray := prog_3_method_12_code
def yX0_joinAdler : MethodName := ⟨RX0, "joinAdler", "(III)J"⟩
def dkwX0_joinAdler_2 : List UInt8 := [96, 21, 5, 21, 6, 100, 184, 0, 46, 21, 5, 21, 6, 100, 133, 184, 0, 54, 173]
abbrev dktX0_joinAdler_2 : List UInt8 := dkwX0_joinAdler_2 ++ []
def dkwX0_joinAdler_1 : List UInt8 := [112, 54, 6, 3, 42, 180, 0, 7, 21, 4, 21, 6, 184, 0, 46, 3, 42, 180, 0, 7, 21, 4, 21, 6]
abbrev dktX0_joinAdler_1 : List UInt8 := dkwX0_joinAdler_1 ++ dktX0_joinAdler_2
def dkwX0_joinAdler_0 : List UInt8 := [42, 27, 182, 0, 21, 54, 4, 42, 21, 4, 28, 182, 0, 42, 54, 5, 29, 18, 25, 126, 21, 5, 4, 96]
abbrev dktX0_joinAdler_0 : List UInt8 := dkwX0_joinAdler_0 ++ dktX0_joinAdler_1
theorem dksX0_joinAdler_0 : cX0_joinAdler.data.toList.drop 0 = dktX0_joinAdler_0 := by decide +kernel
theorem dksX0_joinAdler_1 : cX0_joinAdler.data.toList.drop 24 = dktX0_joinAdler_1 := dk_seg dksX0_joinAdler_0 24 rfl rfl
theorem dksX0_joinAdler_2 : cX0_joinAdler.data.toList.drop 48 = dktX0_joinAdler_2 := dk_seg dksX0_joinAdler_1 24 rfl rfl
theorem dX0_joinAdler_0 : decode cX0_joinAdler 0 = .ok (.aload_n 0, 1) := dk_42 (dk_at dksX0_joinAdler_0 0 rfl rfl)
theorem dX0_joinAdler_1 : decode cX0_joinAdler 1 = .ok (.iload_n 1, 1) := dk_27 (dk_at dksX0_joinAdler_0 1 rfl rfl)
theorem dX0_joinAdler_2 : decode cX0_joinAdler 2 = .ok (.invokevirtual 21, 3) := dk_182 0 21 (dk_at dksX0_joinAdler_0 2 rfl rfl)
theorem dX0_joinAdler_5 : decode cX0_joinAdler 5 = .ok (.istore 4, 2) := dk_54 4 (dk_at dksX0_joinAdler_0 5 rfl rfl)
theorem dX0_joinAdler_7 : decode cX0_joinAdler 7 = .ok (.aload_n 0, 1) := dk_42 (dk_at dksX0_joinAdler_0 7 rfl rfl)
theorem dX0_joinAdler_8 : decode cX0_joinAdler 8 = .ok (.iload 4, 2) := dk_21 4 (dk_at dksX0_joinAdler_0 8 rfl rfl)
theorem dX0_joinAdler_10 : decode cX0_joinAdler 10 = .ok (.iload_n 2, 1) := dk_28 (dk_at dksX0_joinAdler_0 10 rfl rfl)
theorem dX0_joinAdler_11 : decode cX0_joinAdler 11 = .ok (.invokevirtual 42, 3) := dk_182 0 42 (dk_at dksX0_joinAdler_0 11 rfl rfl)
theorem dX0_joinAdler_14 : decode cX0_joinAdler 14 = .ok (.istore 5, 2) := dk_54 5 (dk_at dksX0_joinAdler_0 14 rfl rfl)
theorem dX0_joinAdler_16 : decode cX0_joinAdler 16 = .ok (.iload_n 3, 1) := dk_29 (dk_at dksX0_joinAdler_0 16 rfl rfl)
theorem dX0_joinAdler_17 : decode cX0_joinAdler 17 = .ok (.ldc 25, 2) := dk_18 25 (dk_at dksX0_joinAdler_0 17 rfl rfl)
theorem dX0_joinAdler_19 : decode cX0_joinAdler 19 = .ok (.iand, 1) := dk_126 (dk_at dksX0_joinAdler_0 19 rfl rfl)
theorem dX0_joinAdler_20 : decode cX0_joinAdler 20 = .ok (.iload 5, 2) := dk_21 5 (dk_at dksX0_joinAdler_0 20 rfl rfl)
theorem dX0_joinAdler_22 : decode cX0_joinAdler 22 = .ok (.iconst 1, 1) := dk_4 (dk_at dksX0_joinAdler_0 22 rfl rfl)
theorem dX0_joinAdler_23 : decode cX0_joinAdler 23 = .ok (.iadd, 1) := dk_96 (dk_at dksX0_joinAdler_0 23 rfl rfl)
theorem dX0_joinAdler_24 : decode cX0_joinAdler 24 = .ok (.irem, 1) := dk_112 (dk_at dksX0_joinAdler_1 0 rfl rfl)
theorem dX0_joinAdler_25 : decode cX0_joinAdler 25 = .ok (.istore 6, 2) := dk_54 6 (dk_at dksX0_joinAdler_1 1 rfl rfl)
theorem dX0_joinAdler_27 : decode cX0_joinAdler 27 = .ok (.iconst 0, 1) := dk_3 (dk_at dksX0_joinAdler_1 3 rfl rfl)
theorem dX0_joinAdler_28 : decode cX0_joinAdler 28 = .ok (.aload_n 0, 1) := dk_42 (dk_at dksX0_joinAdler_1 4 rfl rfl)
theorem dX0_joinAdler_29 : decode cX0_joinAdler 29 = .ok (.getfield 7, 3) := dk_180 0 7 (dk_at dksX0_joinAdler_1 5 rfl rfl)
theorem dX0_joinAdler_32 : decode cX0_joinAdler 32 = .ok (.iload 4, 2) := dk_21 4 (dk_at dksX0_joinAdler_1 8 rfl rfl)
theorem dX0_joinAdler_34 : decode cX0_joinAdler 34 = .ok (.iload 6, 2) := dk_21 6 (dk_at dksX0_joinAdler_1 10 rfl rfl)
theorem dX0_joinAdler_36 : decode cX0_joinAdler 36 = .ok (.invokestatic 46, 3) := dk_184 0 46 (dk_at dksX0_joinAdler_1 12 rfl rfl)
theorem dX0_joinAdler_39 : decode cX0_joinAdler 39 = .ok (.iconst 0, 1) := dk_3 (dk_at dksX0_joinAdler_1 15 rfl rfl)
theorem dX0_joinAdler_40 : decode cX0_joinAdler 40 = .ok (.aload_n 0, 1) := dk_42 (dk_at dksX0_joinAdler_1 16 rfl rfl)
theorem dX0_joinAdler_41 : decode cX0_joinAdler 41 = .ok (.getfield 7, 3) := dk_180 0 7 (dk_at dksX0_joinAdler_1 17 rfl rfl)
theorem dX0_joinAdler_44 : decode cX0_joinAdler 44 = .ok (.iload 4, 2) := dk_21 4 (dk_at dksX0_joinAdler_1 20 rfl rfl)
theorem dX0_joinAdler_46 : decode cX0_joinAdler 46 = .ok (.iload 6, 2) := dk_21 6 (dk_at dksX0_joinAdler_1 22 rfl rfl)
theorem dX0_joinAdler_48 : decode cX0_joinAdler 48 = .ok (.iadd, 1) := dk_96 (dk_at dksX0_joinAdler_2 0 rfl rfl)
theorem dX0_joinAdler_49 : decode cX0_joinAdler 49 = .ok (.iload 5, 2) := dk_21 5 (dk_at dksX0_joinAdler_2 1 rfl rfl)
theorem dX0_joinAdler_51 : decode cX0_joinAdler 51 = .ok (.iload 6, 2) := dk_21 6 (dk_at dksX0_joinAdler_2 3 rfl rfl)
theorem dX0_joinAdler_53 : decode cX0_joinAdler 53 = .ok (.isub, 1) := dk_100 (dk_at dksX0_joinAdler_2 5 rfl rfl)
theorem dX0_joinAdler_54 : decode cX0_joinAdler 54 = .ok (.invokestatic 46, 3) := dk_184 0 46 (dk_at dksX0_joinAdler_2 6 rfl rfl)
theorem dX0_joinAdler_57 : decode cX0_joinAdler 57 = .ok (.iload 5, 2) := dk_21 5 (dk_at dksX0_joinAdler_2 9 rfl rfl)
theorem dX0_joinAdler_59 : decode cX0_joinAdler 59 = .ok (.iload 6, 2) := dk_21 6 (dk_at dksX0_joinAdler_2 11 rfl rfl)
theorem dX0_joinAdler_61 : decode cX0_joinAdler 61 = .ok (.isub, 1) := dk_100 (dk_at dksX0_joinAdler_2 13 rfl rfl)
theorem dX0_joinAdler_62 : decode cX0_joinAdler 62 = .ok (.i2l, 1) := dk_133 (dk_at dksX0_joinAdler_2 14 rfl rfl)
theorem dX0_joinAdler_63 : decode cX0_joinAdler 63 = .ok (.invokestatic 54, 3) := dk_184 0 54 (dk_at dksX0_joinAdler_2 15 rfl rfl)
theorem dX0_joinAdler_66 : decode cX0_joinAdler 66 = .ok (.lreturn, 1) := dk_173 (dk_at dksX0_joinAdler_2 18 rfl rfl)
theorem q7 : (Jvm.Cond.initialized "SumJoin") ∈ lw_all := lw_g (lw_at lw_m0 1 rfl) rfl
theorem q12 : (Jvm.Cond.instantiable "SumJoin" (2 : Nat)) ∈ lw_all := lw_g (lw_at lw_m0 6 rfl) rfl
theorem q14 : (Jvm.Cond.instanceMethod ({ cls := "SumJoin", name := "<init>", desc := "()V" } : Jvm.MethodName)) ∈ lw_all := lw_g (lw_at lw_m0 8 rfl) rfl
theorem q15 : (Jvm.Cond.code ({ cls := "SumJoin", name := "<init>", desc := "()V" } : Jvm.MethodName) prog_3_method_1_code (1 : Nat) (Option.none : Option Jvm.ClassFile.FieldType)) ∈ lw_all := lw_g (lw_at lw_m0 9 rfl) rfl
theorem q16 : (Jvm.Cond.methodLink "SumJoin" (1 : Nat) ({ cls := "java/lang/Object", name := "<init>", desc := "()V" } : Jvm.MethodName)) ∈ lw_all := lw_g (lw_at lw_m0 10 rfl) rfl
theorem q19 : (Jvm.Cond.fieldLink "SumJoin" (7 : Nat) "SumJoin" "text" "[B") ∈ lw_all := lw_g (lw_at lw_m0 13 rfl) rfl
theorem q20 : (Jvm.Cond.fieldLink "SumJoin" (13 : Nat) "SumJoin" "size" "I") ∈ lw_all := lw_g (lw_at lw_m0 14 rfl) rfl
theorem q21 : (Jvm.Cond.laysFinal "SumJoin" "SumJoin" "text" "[B") ∈ lw_all := lw_g (lw_at lw_m0 15 rfl) rfl
theorem q22 : (Jvm.Cond.soleField "SumJoin" "text") ∈ lw_all := lw_g (lw_at lw_m0 16 rfl) rfl
theorem q23 : (Jvm.Cond.lays "SumJoin" "SumJoin" "size" "I") ∈ lw_all := lw_g (lw_at lw_m0 17 rfl) rfl
theorem q24 : (Jvm.Cond.soleField "SumJoin" "size") ∈ lw_all := lw_g (lw_at lw_m0 18 rfl) rfl
theorem q25 : (Jvm.Cond.superclass "SumJoin" "java/lang/Object") ∈ lw_all := lw_g (lw_at lw_m0 19 rfl) rfl
theorem q28 : (Jvm.Cond.instanceMethod ({ cls := "SumJoin", name := "put", desc := "(IIII)Z" } : Jvm.MethodName)) ∈ lw_all := lw_g (lw_at lw_m0 22 rfl) rfl
theorem q29 : (Jvm.Cond.selects "SumJoin" ({ cls := "SumJoin", name := "put", desc := "(IIII)Z" } : Jvm.MethodName) ({ cls := "SumJoin", name := "put", desc := "(IIII)Z" } : Jvm.MethodName)) ∈ lw_all := lw_g (lw_at lw_m0 23 rfl) rfl
theorem q30 : (Jvm.Cond.code ({ cls := "SumJoin", name := "put", desc := "(IIII)Z" } : Jvm.MethodName) prog_3_method_2_code (5 : Nat) (Option.some Jvm.ClassFile.FieldType.boolean)) ∈ lw_all := lw_g (lw_at lw_m0 24 rfl) rfl
theorem q31 : (Jvm.Cond.methodLink "SumJoin" (17 : Nat) ({ cls := "SumJoin", name := "word", desc := "(II)V" } : Jvm.MethodName)) ∈ lw_all := lw_g (lw_at lw_m0 25 rfl) rfl
theorem q32 : (Jvm.Cond.privateMethod ({ cls := "SumJoin", name := "word", desc := "(II)V" } : Jvm.MethodName)) ∈ lw_tbl := lw_at lw_m0 26 rfl
theorem q33 : (Jvm.Cond.instanceMethod ({ cls := "SumJoin", name := "word", desc := "(II)V" } : Jvm.MethodName)) ∈ lw_all := lw_g (lw_at lw_m0 27 rfl) rfl
theorem q34 : (Jvm.Cond.code ({ cls := "SumJoin", name := "word", desc := "(II)V" } : Jvm.MethodName) prog_3_method_3_code (3 : Nat) (Option.none : Option Jvm.ClassFile.FieldType)) ∈ lw_all := lw_g (lw_at lw_m0 28 rfl) rfl
theorem q36 : (Jvm.Cond.instanceMethod ({ cls := "SumJoin", name := "trim", desc := "(I)V" } : Jvm.MethodName)) ∈ lw_all := lw_g (lw_at lw_m0 30 rfl) rfl
theorem q37 : (Jvm.Cond.selects "SumJoin" ({ cls := "SumJoin", name := "trim", desc := "(I)V" } : Jvm.MethodName) ({ cls := "SumJoin", name := "trim", desc := "(I)V" } : Jvm.MethodName)) ∈ lw_all := lw_g (lw_at lw_m0 31 rfl) rfl
theorem q38 : (Jvm.Cond.code ({ cls := "SumJoin", name := "trim", desc := "(I)V" } : Jvm.MethodName) prog_3_method_4_code (2 : Nat) (Option.none : Option Jvm.ClassFile.FieldType)) ∈ lw_all := lw_g (lw_at lw_m0 32 rfl) rfl
theorem q39 : (Jvm.Cond.methodLink "SumJoin" (21 : Nat) ({ cls := "SumJoin", name := "from", desc := "(I)I" } : Jvm.MethodName)) ∈ lw_all := lw_g (lw_at lw_m0 33 rfl) rfl
theorem q40 : (Jvm.Cond.privateMethod ({ cls := "SumJoin", name := "from", desc := "(I)I" } : Jvm.MethodName)) ∈ lw_tbl := lw_at lw_m0 34 rfl
theorem q41 : (Jvm.Cond.instanceMethod ({ cls := "SumJoin", name := "from", desc := "(I)I" } : Jvm.MethodName)) ∈ lw_all := lw_g (lw_at lw_m0 35 rfl) rfl
theorem q42 : (Jvm.Cond.code ({ cls := "SumJoin", name := "from", desc := "(I)I" } : Jvm.MethodName) prog_3_method_6_code (2 : Nat) (Option.some Jvm.ClassFile.FieldType.int)) ∈ lw_all := lw_g (lw_at lw_m0 36 rfl) rfl
theorem q43 : (Jvm.Cond.constant "SumJoin" (25 : Nat) (2147483647 : Int32)) ∈ lw_all := lw_g (lw_at lw_m0 37 rfl) rfl
theorem q45 : (Jvm.Cond.instanceMethod ({ cls := "SumJoin", name := "size", desc := "()I" } : Jvm.MethodName)) ∈ lw_all := lw_g (lw_at lw_m0 39 rfl) rfl
theorem q46 : (Jvm.Cond.selects "SumJoin" ({ cls := "SumJoin", name := "size", desc := "()I" } : Jvm.MethodName) ({ cls := "SumJoin", name := "size", desc := "()I" } : Jvm.MethodName)) ∈ lw_all := lw_g (lw_at lw_m0 40 rfl) rfl
theorem q47 : (Jvm.Cond.code ({ cls := "SumJoin", name := "size", desc := "()I" } : Jvm.MethodName) prog_3_method_5_code (1 : Nat) (Option.some Jvm.ClassFile.FieldType.int)) ∈ lw_all := lw_g (lw_at lw_m0 41 rfl) rfl
theorem q49 : (Jvm.Cond.instanceMethod ({ cls := "SumJoin", name := "crc", desc := "(II)J" } : Jvm.MethodName)) ∈ lw_all := lw_g (lw_at lw_m0 43 rfl) rfl
theorem q50 : (Jvm.Cond.selects "SumJoin" ({ cls := "SumJoin", name := "crc", desc := "(II)J" } : Jvm.MethodName) ({ cls := "SumJoin", name := "crc", desc := "(II)J" } : Jvm.MethodName)) ∈ lw_all := lw_g (lw_at lw_m0 44 rfl) rfl
theorem q51 : (Jvm.Cond.code ({ cls := "SumJoin", name := "crc", desc := "(II)J" } : Jvm.MethodName) prog_3_method_9_code (4 : Nat) (Option.some Jvm.ClassFile.FieldType.long)) ∈ lw_all := lw_g (lw_at lw_m0 45 rfl) rfl
theorem q52 : (Jvm.Cond.methodLink "SumJoin" (42 : Nat) ({ cls := "SumJoin", name := "count", desc := "(II)I" } : Jvm.MethodName)) ∈ lw_all := lw_g (lw_at lw_m0 46 rfl) rfl
theorem q53 : (Jvm.Cond.privateMethod ({ cls := "SumJoin", name := "count", desc := "(II)I" } : Jvm.MethodName)) ∈ lw_tbl := lw_at lw_m0 47 rfl
theorem q54 : (Jvm.Cond.instanceMethod ({ cls := "SumJoin", name := "count", desc := "(II)I" } : Jvm.MethodName)) ∈ lw_all := lw_g (lw_at lw_m0 48 rfl) rfl
theorem q55 : (Jvm.Cond.code ({ cls := "SumJoin", name := "count", desc := "(II)I" } : Jvm.MethodName) prog_3_method_7_code (3 : Nat) (Option.some Jvm.ClassFile.FieldType.int)) ∈ lw_all := lw_g (lw_at lw_m0 49 rfl) rfl
theorem q56 : (Jvm.Cond.methodLink "SumJoin" (46 : Nat) ({ cls := "SumJoin", name := "sum", desc := "(Z[BII)J" } : Jvm.MethodName)) ∈ lw_all := lw_g (lw_at lw_m0 50 rfl) rfl
theorem q57 : (Jvm.Cond.static ({ cls := "SumJoin", name := "sum", desc := "(Z[BII)J" } : Jvm.MethodName)) ∈ lw_all := lw_g (lw_at lw_m0 51 rfl) rfl
theorem q58 : (Jvm.Cond.code ({ cls := "SumJoin", name := "sum", desc := "(Z[BII)J" } : Jvm.MethodName) prog_3_method_8_code (5 : Nat) (Option.some Jvm.ClassFile.FieldType.long)) ∈ lw_all := lw_g (lw_at lw_m0 52 rfl) rfl
theorem q59 : (Jvm.Cond.classLink "SumJoin" (26 : Nat) "CRC32") ∈ lw_all := lw_g (lw_at lw_m0 53 rfl) rfl
theorem q61 : (Jvm.Cond.methodLink "SumJoin" (28 : Nat) ({ cls := "CRC32", name := "<init>", desc := "()V" } : Jvm.MethodName)) ∈ lw_all := lw_g (lw_at lw_m0 55 rfl) rfl
theorem q69 : (Jvm.Cond.methodLink "SumJoin" (29 : Nat) ({ cls := "CRC32", name := "update", desc := "([BII)V" } : Jvm.MethodName)) ∈ lw_all := lw_g (lw_at lw_m0 63 rfl) rfl
theorem q75 : (Jvm.Cond.methodLink "SumJoin" (33 : Nat) ({ cls := "CRC32", name := "getValue", desc := "()J" } : Jvm.MethodName)) ∈ lw_all := lw_g (lw_at lw_m0 69 rfl) rfl
theorem q80 : (Jvm.Cond.classLink "SumJoin" (37 : Nat) "Adler32") ∈ lw_all := lw_g (lw_at lw_m0 74 rfl) rfl
theorem q82 : (Jvm.Cond.methodLink "SumJoin" (39 : Nat) ({ cls := "Adler32", name := "<init>", desc := "()V" } : Jvm.MethodName)) ∈ lw_all := lw_g (lw_at lw_m0 76 rfl) rfl
theorem q93 : (Jvm.Cond.methodLink "SumJoin" (40 : Nat) ({ cls := "Adler32", name := "update", desc := "([BII)V" } : Jvm.MethodName)) ∈ lw_all := lw_g (lw_at lw_m0 87 rfl) rfl
theorem q98 : (Jvm.Cond.methodLink "SumJoin" (41 : Nat) ({ cls := "Adler32", name := "getValue", desc := "()J" } : Jvm.MethodName)) ∈ lw_all := lw_g (lw_at lw_m0 92 rfl) rfl
theorem q103 : (Jvm.Cond.instanceMethod ({ cls := "SumJoin", name := "adler", desc := "(II)J" } : Jvm.MethodName)) ∈ lw_all := lw_g (lw_at lw_m0 97 rfl) rfl
theorem q104 : (Jvm.Cond.selects "SumJoin" ({ cls := "SumJoin", name := "adler", desc := "(II)J" } : Jvm.MethodName) ({ cls := "SumJoin", name := "adler", desc := "(II)J" } : Jvm.MethodName)) ∈ lw_all := lw_g (lw_at lw_m0 98 rfl) rfl
theorem q105 : (Jvm.Cond.code ({ cls := "SumJoin", name := "adler", desc := "(II)J" } : Jvm.MethodName) prog_3_method_10_code (4 : Nat) (Option.some Jvm.ClassFile.FieldType.long)) ∈ lw_all := lw_g (lw_at lw_m0 99 rfl) rfl
theorem q107 : (Jvm.Cond.instanceMethod ({ cls := "SumJoin", name := "joinCrc", desc := "(III)J" } : Jvm.MethodName)) ∈ lw_all := lw_g (lw_at lw_m0 101 rfl) rfl
theorem q108 : (Jvm.Cond.selects "SumJoin" ({ cls := "SumJoin", name := "joinCrc", desc := "(III)J" } : Jvm.MethodName) ({ cls := "SumJoin", name := "joinCrc", desc := "(III)J" } : Jvm.MethodName)) ∈ lw_all := lw_g (lw_at lw_m0 102 rfl) rfl
theorem q109 : (Jvm.Cond.code ({ cls := "SumJoin", name := "joinCrc", desc := "(III)J" } : Jvm.MethodName) prog_3_method_11_code (7 : Nat) (Option.some Jvm.ClassFile.FieldType.long)) ∈ lw_all := lw_g (lw_at lw_m0 103 rfl) rfl
theorem q110 : (Jvm.Cond.methodLink "SumJoin" (50 : Nat) ({ cls := "CRC32", name := "combine", desc := "(JJJ)J" } : Jvm.MethodName)) ∈ lw_all := lw_g (lw_at lw_m0 104 rfl) rfl
theorem q122 : (Jvm.Cond.instanceMethod ({ cls := "SumJoin", name := "joinAdler", desc := "(III)J" } : Jvm.MethodName)) ∈ lw_all := lw_g (lw_at lw_m0 116 rfl) rfl
theorem q123 : (Jvm.Cond.selects "SumJoin" ({ cls := "SumJoin", name := "joinAdler", desc := "(III)J" } : Jvm.MethodName) ({ cls := "SumJoin", name := "joinAdler", desc := "(III)J" } : Jvm.MethodName)) ∈ lw_all := lw_g (lw_at lw_m0 117 rfl) rfl
theorem q124 : (Jvm.Cond.code ({ cls := "SumJoin", name := "joinAdler", desc := "(III)J" } : Jvm.MethodName) prog_3_method_12_code (7 : Nat) (Option.some Jvm.ClassFile.FieldType.long)) ∈ lw_all := lw_g (lw_at lw_m0 118 rfl) rfl
theorem q125 : (Jvm.Cond.methodLink "SumJoin" (54 : Nat) ({ cls := "Adler32", name := "combine", desc := "(JJJ)J" } : Jvm.MethodName)) ∈ lw_all := lw_g (lw_at lw_m0 119 rfl) rfl
theorem in_X0 : ∀ w ∈ wsX00, w ∈ lw_all := lw_in wsX00 [21, 23] (by decide +kernel) (by decide +kernel)
/-! SumJoinModel -/
set_option maxRecDepth 100000
def RX1 : String := "SumJoinModel"
def TX1 : u_T := fun k => match k with
  | 0 => ("SumJoinModel", "text", "[B", true)
  | _ => ("SumJoinModel", "size", "I", false)
def tyX1 : Nat → FieldType := fun k => match k with
  | 0 => .array .byte
  | _ => .int
abbrev wsX10 : List Cond := u_ws RX1 TX1 2
theorem nmX1 : ∀ a, a < 2 → ∀ b, b < 2 → a ≠ b → (TX1 a).2.1 ≠ (TX1 b).2.1 := by decide +kernel
theorem tyX1_ok : ∀ k, k < 2 → parseFieldDescriptor (TX1 k).2.2.1 = some (tyX1 k) := by decide +kernel
abbrev cX1_init : ByteArray := prog_5_method_1_code
def yX1_init : MethodName := ⟨RX1, "<init>", "()V"⟩
def dkwX1_init_0 : List UInt8 := [42, 183, 0, 1, 42, 17, 16, 0, 188, 8, 181, 0, 7, 177]
abbrev dktX1_init_0 : List UInt8 := dkwX1_init_0 ++ []
theorem dksX1_init_0 : cX1_init.data.toList.drop 0 = dktX1_init_0 := by decide +kernel
theorem dX1_init_0 : decode cX1_init 0 = .ok (.aload_n 0, 1) := dk_42 (dk_at dksX1_init_0 0 rfl rfl)
theorem dX1_init_1 : decode cX1_init 1 = .ok (.invokespecial 1, 3) := dk_183 0 1 (dk_at dksX1_init_0 1 rfl rfl)
theorem dX1_init_4 : decode cX1_init 4 = .ok (.aload_n 0, 1) := dk_42 (dk_at dksX1_init_0 4 rfl rfl)
theorem dX1_init_5 : decode cX1_init 5 = .ok (.sipush 4096, 3) := dk_17 16 0 (dk_at dksX1_init_0 5 rfl rfl)
theorem dX1_init_8 : decode cX1_init 8 = .ok (.newarray .byte, 2) := dk_188_8 (dk_at dksX1_init_0 8 rfl rfl)
theorem dX1_init_10 : decode cX1_init 10 = .ok (.putfield 7, 3) := dk_181 0 7 (dk_at dksX1_init_0 10 rfl rfl)
theorem dX1_init_13 : decode cX1_init 13 = .ok (.return_, 1) := dk_177 (dk_at dksX1_init_0 13 rfl rfl)
abbrev cX1_put : ByteArray := prog_5_method_2_code
def yX1_put : MethodName := ⟨RX1, "put", "(IIII)Z"⟩
def dkwX1_put_4 : List UInt8 := [42, 42, 180, 0, 13, 16, 16, 96, 181, 0, 13, 4, 172]
abbrev dktX1_put_4 : List UInt8 := dkwX1_put_4 ++ []
def dkwX1_put_3 : List UInt8 := [21, 5, 96, 21, 6, 16, 24, 16, 8, 21, 5, 6, 126, 104, 100, 124, 145, 84, 132, 5, 1, 167, 255, 184]
abbrev dktX1_put_3 : List UInt8 := dkwX1_put_3 ++ dktX1_put_4
def dkwX1_put_2 : List UInt8 := [21, 5, 16, 12, 162, 0, 7, 29, 167, 0, 5, 21, 4, 54, 6, 42, 180, 0, 7, 42, 180, 0, 13]
abbrev dktX1_put_2 : List UInt8 := dkwX1_put_2 ++ dktX1_put_3
def dkwX1_put_1 : List UInt8 := [162, 0, 71, 21, 5, 7, 162, 0, 7, 27, 167, 0, 27, 21, 5, 16, 8, 162, 0, 7, 28, 167, 0, 16]
abbrev dktX1_put_1 : List UInt8 := dkwX1_put_1 ++ dktX1_put_2
def dkwX1_put_0 : List UInt8 := [42, 180, 0, 13, 16, 16, 96, 17, 16, 0, 164, 0, 5, 3, 172, 3, 54, 5, 21, 5, 16, 16]
abbrev dktX1_put_0 : List UInt8 := dkwX1_put_0 ++ dktX1_put_1
theorem dksX1_put_0 : cX1_put.data.toList.drop 0 = dktX1_put_0 := by decide +kernel
theorem dksX1_put_1 : cX1_put.data.toList.drop 22 = dktX1_put_1 := dk_seg dksX1_put_0 22 rfl rfl
theorem dksX1_put_2 : cX1_put.data.toList.drop 46 = dktX1_put_2 := dk_seg dksX1_put_1 24 rfl rfl
theorem dksX1_put_3 : cX1_put.data.toList.drop 69 = dktX1_put_3 := dk_seg dksX1_put_2 23 rfl rfl
theorem dksX1_put_4 : cX1_put.data.toList.drop 93 = dktX1_put_4 := dk_seg dksX1_put_3 24 rfl rfl
theorem dX1_put_0 : decode cX1_put 0 = .ok (.aload_n 0, 1) := dk_42 (dk_at dksX1_put_0 0 rfl rfl)
theorem dX1_put_1 : decode cX1_put 1 = .ok (.getfield 13, 3) := dk_180 0 13 (dk_at dksX1_put_0 1 rfl rfl)
theorem dX1_put_4 : decode cX1_put 4 = .ok (.bipush 16, 2) := dk_16 16 (dk_at dksX1_put_0 4 rfl rfl)
theorem dX1_put_6 : decode cX1_put 6 = .ok (.iadd, 1) := dk_96 (dk_at dksX1_put_0 6 rfl rfl)
theorem dX1_put_7 : decode cX1_put 7 = .ok (.sipush 4096, 3) := dk_17 16 0 (dk_at dksX1_put_0 7 rfl rfl)
theorem dX1_put_10 : decode cX1_put 10 = .ok (.if_icmp .le 5, 3) := dk_164 0 5 (dk_at dksX1_put_0 10 rfl rfl)
theorem dX1_put_13 : decode cX1_put 13 = .ok (.iconst 0, 1) := dk_3 (dk_at dksX1_put_0 13 rfl rfl)
theorem dX1_put_14 : decode cX1_put 14 = .ok (.ireturn, 1) := dk_172 (dk_at dksX1_put_0 14 rfl rfl)
theorem dX1_put_15 : decode cX1_put 15 = .ok (.iconst 0, 1) := dk_3 (dk_at dksX1_put_0 15 rfl rfl)
theorem dX1_put_16 : decode cX1_put 16 = .ok (.istore 5, 2) := dk_54 5 (dk_at dksX1_put_0 16 rfl rfl)
theorem dX1_put_18 : decode cX1_put 18 = .ok (.iload 5, 2) := dk_21 5 (dk_at dksX1_put_0 18 rfl rfl)
theorem dX1_put_20 : decode cX1_put 20 = .ok (.bipush 16, 2) := dk_16 16 (dk_at dksX1_put_0 20 rfl rfl)
theorem dX1_put_22 : decode cX1_put 22 = .ok (.if_icmp .ge 71, 3) := dk_162 0 71 (dk_at dksX1_put_1 0 rfl rfl)
theorem dX1_put_25 : decode cX1_put 25 = .ok (.iload 5, 2) := dk_21 5 (dk_at dksX1_put_1 3 rfl rfl)
theorem dX1_put_27 : decode cX1_put 27 = .ok (.iconst 4, 1) := dk_7 (dk_at dksX1_put_1 5 rfl rfl)
theorem dX1_put_28 : decode cX1_put 28 = .ok (.if_icmp .ge 7, 3) := dk_162 0 7 (dk_at dksX1_put_1 6 rfl rfl)
theorem dX1_put_31 : decode cX1_put 31 = .ok (.iload_n 1, 1) := dk_27 (dk_at dksX1_put_1 9 rfl rfl)
theorem dX1_put_32 : decode cX1_put 32 = .ok (.goto 27, 3) := dk_167 0 27 (dk_at dksX1_put_1 10 rfl rfl)
theorem dX1_put_35 : decode cX1_put 35 = .ok (.iload 5, 2) := dk_21 5 (dk_at dksX1_put_1 13 rfl rfl)
theorem dX1_put_37 : decode cX1_put 37 = .ok (.bipush 8, 2) := dk_16 8 (dk_at dksX1_put_1 15 rfl rfl)
theorem dX1_put_39 : decode cX1_put 39 = .ok (.if_icmp .ge 7, 3) := dk_162 0 7 (dk_at dksX1_put_1 17 rfl rfl)
theorem dX1_put_42 : decode cX1_put 42 = .ok (.iload_n 2, 1) := dk_28 (dk_at dksX1_put_1 20 rfl rfl)
theorem dX1_put_43 : decode cX1_put 43 = .ok (.goto 16, 3) := dk_167 0 16 (dk_at dksX1_put_1 21 rfl rfl)
theorem dX1_put_46 : decode cX1_put 46 = .ok (.iload 5, 2) := dk_21 5 (dk_at dksX1_put_2 0 rfl rfl)
theorem dX1_put_48 : decode cX1_put 48 = .ok (.bipush 12, 2) := dk_16 12 (dk_at dksX1_put_2 2 rfl rfl)
theorem dX1_put_50 : decode cX1_put 50 = .ok (.if_icmp .ge 7, 3) := dk_162 0 7 (dk_at dksX1_put_2 4 rfl rfl)
theorem dX1_put_53 : decode cX1_put 53 = .ok (.iload_n 3, 1) := dk_29 (dk_at dksX1_put_2 7 rfl rfl)
theorem dX1_put_54 : decode cX1_put 54 = .ok (.goto 5, 3) := dk_167 0 5 (dk_at dksX1_put_2 8 rfl rfl)
theorem dX1_put_57 : decode cX1_put 57 = .ok (.iload 4, 2) := dk_21 4 (dk_at dksX1_put_2 11 rfl rfl)
theorem dX1_put_59 : decode cX1_put 59 = .ok (.istore 6, 2) := dk_54 6 (dk_at dksX1_put_2 13 rfl rfl)
theorem dX1_put_61 : decode cX1_put 61 = .ok (.aload_n 0, 1) := dk_42 (dk_at dksX1_put_2 15 rfl rfl)
theorem dX1_put_62 : decode cX1_put 62 = .ok (.getfield 7, 3) := dk_180 0 7 (dk_at dksX1_put_2 16 rfl rfl)
theorem dX1_put_65 : decode cX1_put 65 = .ok (.aload_n 0, 1) := dk_42 (dk_at dksX1_put_2 19 rfl rfl)
theorem dX1_put_66 : decode cX1_put 66 = .ok (.getfield 13, 3) := dk_180 0 13 (dk_at dksX1_put_2 20 rfl rfl)
theorem dX1_put_69 : decode cX1_put 69 = .ok (.iload 5, 2) := dk_21 5 (dk_at dksX1_put_3 0 rfl rfl)
theorem dX1_put_71 : decode cX1_put 71 = .ok (.iadd, 1) := dk_96 (dk_at dksX1_put_3 2 rfl rfl)
theorem dX1_put_72 : decode cX1_put 72 = .ok (.iload 6, 2) := dk_21 6 (dk_at dksX1_put_3 3 rfl rfl)
theorem dX1_put_74 : decode cX1_put 74 = .ok (.bipush 24, 2) := dk_16 24 (dk_at dksX1_put_3 5 rfl rfl)
theorem dX1_put_76 : decode cX1_put 76 = .ok (.bipush 8, 2) := dk_16 8 (dk_at dksX1_put_3 7 rfl rfl)
theorem dX1_put_78 : decode cX1_put 78 = .ok (.iload 5, 2) := dk_21 5 (dk_at dksX1_put_3 9 rfl rfl)
theorem dX1_put_80 : decode cX1_put 80 = .ok (.iconst 3, 1) := dk_6 (dk_at dksX1_put_3 11 rfl rfl)
theorem dX1_put_81 : decode cX1_put 81 = .ok (.iand, 1) := dk_126 (dk_at dksX1_put_3 12 rfl rfl)
theorem dX1_put_82 : decode cX1_put 82 = .ok (.imul, 1) := dk_104 (dk_at dksX1_put_3 13 rfl rfl)
theorem dX1_put_83 : decode cX1_put 83 = .ok (.isub, 1) := dk_100 (dk_at dksX1_put_3 14 rfl rfl)
theorem dX1_put_84 : decode cX1_put 84 = .ok (.iushr, 1) := dk_124 (dk_at dksX1_put_3 15 rfl rfl)
theorem dX1_put_85 : decode cX1_put 85 = .ok (.i2b, 1) := dk_145 (dk_at dksX1_put_3 16 rfl rfl)
theorem dX1_put_86 : decode cX1_put 86 = .ok (.bastore, 1) := dk_84 (dk_at dksX1_put_3 17 rfl rfl)
theorem dX1_put_87 : decode cX1_put 87 = .ok (.iinc 5 1, 3) := dk_132 5 1 (dk_at dksX1_put_3 18 rfl rfl)
theorem dX1_put_90 : decode cX1_put 90 = .ok (.goto (-72), 3) := dk_167 255 184 (dk_at dksX1_put_3 21 rfl rfl)
theorem dX1_put_93 : decode cX1_put 93 = .ok (.aload_n 0, 1) := dk_42 (dk_at dksX1_put_4 0 rfl rfl)
theorem dX1_put_94 : decode cX1_put 94 = .ok (.aload_n 0, 1) := dk_42 (dk_at dksX1_put_4 1 rfl rfl)
theorem dX1_put_95 : decode cX1_put 95 = .ok (.getfield 13, 3) := dk_180 0 13 (dk_at dksX1_put_4 2 rfl rfl)
theorem dX1_put_98 : decode cX1_put 98 = .ok (.bipush 16, 2) := dk_16 16 (dk_at dksX1_put_4 5 rfl rfl)
theorem dX1_put_100 : decode cX1_put 100 = .ok (.iadd, 1) := dk_96 (dk_at dksX1_put_4 7 rfl rfl)
theorem dX1_put_101 : decode cX1_put 101 = .ok (.putfield 13, 3) := dk_181 0 13 (dk_at dksX1_put_4 8 rfl rfl)
theorem dX1_put_104 : decode cX1_put 104 = .ok (.iconst 1, 1) := dk_4 (dk_at dksX1_put_4 11 rfl rfl)
theorem dX1_put_105 : decode cX1_put 105 = .ok (.ireturn, 1) := dk_172 (dk_at dksX1_put_4 12 rfl rfl)
abbrev cX1_trim : ByteArray := prog_5_method_3_code
def yX1_trim : MethodName := ⟨RX1, "trim", "(I)V"⟩
def dkwX1_trim_0 : List UInt8 := [42, 42, 27, 182, 0, 17, 181, 0, 13, 177]
abbrev dktX1_trim_0 : List UInt8 := dkwX1_trim_0 ++ []
theorem dksX1_trim_0 : cX1_trim.data.toList.drop 0 = dktX1_trim_0 := by decide +kernel
theorem dX1_trim_0 : decode cX1_trim 0 = .ok (.aload_n 0, 1) := dk_42 (dk_at dksX1_trim_0 0 rfl rfl)
theorem dX1_trim_1 : decode cX1_trim 1 = .ok (.aload_n 0, 1) := dk_42 (dk_at dksX1_trim_0 1 rfl rfl)
theorem dX1_trim_2 : decode cX1_trim 2 = .ok (.iload_n 1, 1) := dk_27 (dk_at dksX1_trim_0 2 rfl rfl)
theorem dX1_trim_3 : decode cX1_trim 3 = .ok (.invokevirtual 17, 3) := dk_182 0 17 (dk_at dksX1_trim_0 3 rfl rfl)
theorem dX1_trim_6 : decode cX1_trim 6 = .ok (.putfield 13, 3) := dk_181 0 13 (dk_at dksX1_trim_0 6 rfl rfl)
theorem dX1_trim_9 : decode cX1_trim 9 = .ok (.return_, 1) := dk_177 (dk_at dksX1_trim_0 9 rfl rfl)
abbrev cX1_first : ByteArray := prog_5_method_5_code
def yX1_first : MethodName := ⟨RX1, "first", "(I)I"⟩
def dkwX1_first_0 : List UInt8 := [27, 18, 21, 126, 42, 180, 0, 13, 4, 96, 112, 172]
abbrev dktX1_first_0 : List UInt8 := dkwX1_first_0 ++ []
theorem dksX1_first_0 : cX1_first.data.toList.drop 0 = dktX1_first_0 := by decide +kernel
theorem dX1_first_0 : decode cX1_first 0 = .ok (.iload_n 1, 1) := dk_27 (dk_at dksX1_first_0 0 rfl rfl)
theorem dX1_first_1 : decode cX1_first 1 = .ok (.ldc 21, 2) := dk_18 21 (dk_at dksX1_first_0 1 rfl rfl)
theorem dX1_first_3 : decode cX1_first 3 = .ok (.iand, 1) := dk_126 (dk_at dksX1_first_0 3 rfl rfl)
theorem dX1_first_4 : decode cX1_first 4 = .ok (.aload_n 0, 1) := dk_42 (dk_at dksX1_first_0 4 rfl rfl)
theorem dX1_first_5 : decode cX1_first 5 = .ok (.getfield 13, 3) := dk_180 0 13 (dk_at dksX1_first_0 5 rfl rfl)
theorem dX1_first_8 : decode cX1_first 8 = .ok (.iconst 1, 1) := dk_4 (dk_at dksX1_first_0 8 rfl rfl)
theorem dX1_first_9 : decode cX1_first 9 = .ok (.iadd, 1) := dk_96 (dk_at dksX1_first_0 9 rfl rfl)
theorem dX1_first_10 : decode cX1_first 10 = .ok (.irem, 1) := dk_112 (dk_at dksX1_first_0 10 rfl rfl)
theorem dX1_first_11 : decode cX1_first 11 = .ok (.ireturn, 1) := dk_172 (dk_at dksX1_first_0 11 rfl rfl)
abbrev cX1_size : ByteArray := prog_5_method_4_code
def yX1_size : MethodName := ⟨RX1, "size", "()I"⟩
theorem dX1_size_0 : decode cX1_size 0 = .ok (.aload_n 0, 1) := by decide +kernel
theorem dX1_size_1 : decode cX1_size 1 = .ok (.getfield 13, 3) := by decide +kernel
theorem dX1_size_4 : decode cX1_size 4 = .ok (.ireturn, 1) := by decide +kernel
abbrev cX1_crc : ByteArray := prog_5_method_8_code
def yX1_crc : MethodName := ⟨RX1, "crc", "(II)J"⟩
def dkwX1_crc_0 : List UInt8 := [42, 27, 182, 0, 17, 62, 42, 4, 29, 42, 29, 28, 182, 0, 27, 182, 0, 31, 173]
abbrev dktX1_crc_0 : List UInt8 := dkwX1_crc_0 ++ []
theorem dksX1_crc_0 : cX1_crc.data.toList.drop 0 = dktX1_crc_0 := by decide +kernel
theorem dX1_crc_0 : decode cX1_crc 0 = .ok (.aload_n 0, 1) := dk_42 (dk_at dksX1_crc_0 0 rfl rfl)
theorem dX1_crc_1 : decode cX1_crc 1 = .ok (.iload_n 1, 1) := dk_27 (dk_at dksX1_crc_0 1 rfl rfl)
theorem dX1_crc_2 : decode cX1_crc 2 = .ok (.invokevirtual 17, 3) := dk_182 0 17 (dk_at dksX1_crc_0 2 rfl rfl)
theorem dX1_crc_5 : decode cX1_crc 5 = .ok (.istore_n 3, 1) := dk_62 (dk_at dksX1_crc_0 5 rfl rfl)
theorem dX1_crc_6 : decode cX1_crc 6 = .ok (.aload_n 0, 1) := dk_42 (dk_at dksX1_crc_0 6 rfl rfl)
theorem dX1_crc_7 : decode cX1_crc 7 = .ok (.iconst 1, 1) := dk_4 (dk_at dksX1_crc_0 7 rfl rfl)
theorem dX1_crc_8 : decode cX1_crc 8 = .ok (.iload_n 3, 1) := dk_29 (dk_at dksX1_crc_0 8 rfl rfl)
theorem dX1_crc_9 : decode cX1_crc 9 = .ok (.aload_n 0, 1) := dk_42 (dk_at dksX1_crc_0 9 rfl rfl)
theorem dX1_crc_10 : decode cX1_crc 10 = .ok (.iload_n 3, 1) := dk_29 (dk_at dksX1_crc_0 10 rfl rfl)
theorem dX1_crc_11 : decode cX1_crc 11 = .ok (.iload_n 2, 1) := dk_28 (dk_at dksX1_crc_0 11 rfl rfl)
theorem dX1_crc_12 : decode cX1_crc 12 = .ok (.invokevirtual 27, 3) := dk_182 0 27 (dk_at dksX1_crc_0 12 rfl rfl)
theorem dX1_crc_15 : decode cX1_crc 15 = .ok (.invokevirtual 31, 3) := dk_182 0 31 (dk_at dksX1_crc_0 15 rfl rfl)
theorem dX1_crc_18 : decode cX1_crc 18 = .ok (.lreturn, 1) := dk_173 (dk_at dksX1_crc_0 18 rfl rfl)
abbrev cX1_many : ByteArray := prog_5_method_6_code
def yX1_many : MethodName := ⟨RX1, "many", "(II)I"⟩
def dkwX1_many_0 : List UInt8 := [28, 18, 21, 126, 42, 180, 0, 13, 27, 100, 4, 96, 112, 172]
abbrev dktX1_many_0 : List UInt8 := dkwX1_many_0 ++ []
theorem dksX1_many_0 : cX1_many.data.toList.drop 0 = dktX1_many_0 := by decide +kernel
theorem dX1_many_0 : decode cX1_many 0 = .ok (.iload_n 2, 1) := dk_28 (dk_at dksX1_many_0 0 rfl rfl)
theorem dX1_many_1 : decode cX1_many 1 = .ok (.ldc 21, 2) := dk_18 21 (dk_at dksX1_many_0 1 rfl rfl)
theorem dX1_many_3 : decode cX1_many 3 = .ok (.iand, 1) := dk_126 (dk_at dksX1_many_0 3 rfl rfl)
theorem dX1_many_4 : decode cX1_many 4 = .ok (.aload_n 0, 1) := dk_42 (dk_at dksX1_many_0 4 rfl rfl)
theorem dX1_many_5 : decode cX1_many 5 = .ok (.getfield 13, 3) := dk_180 0 13 (dk_at dksX1_many_0 5 rfl rfl)
theorem dX1_many_8 : decode cX1_many 8 = .ok (.iload_n 1, 1) := dk_27 (dk_at dksX1_many_0 8 rfl rfl)
theorem dX1_many_9 : decode cX1_many 9 = .ok (.isub, 1) := dk_100 (dk_at dksX1_many_0 9 rfl rfl)
theorem dX1_many_10 : decode cX1_many 10 = .ok (.iconst 1, 1) := dk_4 (dk_at dksX1_many_0 10 rfl rfl)
theorem dX1_many_11 : decode cX1_many 11 = .ok (.iadd, 1) := dk_96 (dk_at dksX1_many_0 11 rfl rfl)
theorem dX1_many_12 : decode cX1_many 12 = .ok (.irem, 1) := dk_112 (dk_at dksX1_many_0 12 rfl rfl)
theorem dX1_many_13 : decode cX1_many 13 = .ok (.ireturn, 1) := dk_172 (dk_at dksX1_many_0 13 rfl rfl)
abbrev cX1_sum : ByteArray := prog_5_method_7_code
def yX1_sum : MethodName := ⟨RX1, "sum", "(ZII)J"⟩
def dkwX1_sum_6 : List UInt8 := [22, 6, 16, 16, 121, 22, 4, 129, 173]
abbrev dktX1_sum_6 : List UInt8 := dkwX1_sum_6 ++ []
def dkwX1_sum_5 : List UInt8 := [97, 20, 0, 25, 113, 55, 4, 22, 6, 22, 4, 97, 20, 0, 25, 113, 55, 6, 132, 8, 1, 167, 255, 213]
abbrev dktX1_sum_5 : List UInt8 := dkwX1_sum_5 ++ dktX1_sum_6
def dkwX1_sum_4 : List UInt8 := [54, 8, 21, 8, 28, 29, 96, 162, 0, 41, 22, 4, 42, 180, 0, 7, 21, 8, 51, 17, 0, 255, 126, 133]
abbrev dktX1_sum_4 : List UInt8 := dkwX1_sum_4 ++ dktX1_sum_5
def dkwX1_sum_3 : List UInt8 := [132, 5, 1, 167, 255, 193, 21, 4, 2, 130, 133, 20, 0, 23, 127, 173, 10, 55, 4, 9, 55, 6, 28]
abbrev dktX1_sum_3 : List UInt8 := dkwX1_sum_3 ++ dktX1_sum_4
def dkwX1_sum_2 : List UInt8 := [21, 4, 4, 126, 153, 0, 8, 18, 22, 167, 0, 4, 3, 130, 54, 4, 132, 6, 1, 167, 255, 226]
abbrev dktX1_sum_2 : List UInt8 := dkwX1_sum_2 ++ dktX1_sum_3
def dkwX1_sum_1 : List UInt8 := [21, 5, 51, 17, 0, 255, 126, 130, 54, 4, 3, 54, 6, 21, 6, 16, 8, 162, 0, 29, 21, 4, 4, 124]
abbrev dktX1_sum_1 : List UInt8 := dkwX1_sum_1 ++ dktX1_sum_2
def dkwX1_sum_0 : List UInt8 := [27, 153, 0, 85, 2, 54, 4, 28, 54, 5, 21, 5, 28, 29, 96, 162, 0, 61, 21, 4, 42, 180, 0, 7]
abbrev dktX1_sum_0 : List UInt8 := dkwX1_sum_0 ++ dktX1_sum_1
theorem dksX1_sum_0 : cX1_sum.data.toList.drop 0 = dktX1_sum_0 := by decide +kernel
theorem dksX1_sum_1 : cX1_sum.data.toList.drop 24 = dktX1_sum_1 := dk_seg dksX1_sum_0 24 rfl rfl
theorem dksX1_sum_2 : cX1_sum.data.toList.drop 48 = dktX1_sum_2 := dk_seg dksX1_sum_1 24 rfl rfl
theorem dksX1_sum_3 : cX1_sum.data.toList.drop 70 = dktX1_sum_3 := dk_seg dksX1_sum_2 22 rfl rfl
theorem dksX1_sum_4 : cX1_sum.data.toList.drop 93 = dktX1_sum_4 := dk_seg dksX1_sum_3 23 rfl rfl
theorem dksX1_sum_5 : cX1_sum.data.toList.drop 117 = dktX1_sum_5 := dk_seg dksX1_sum_4 24 rfl rfl
theorem dksX1_sum_6 : cX1_sum.data.toList.drop 141 = dktX1_sum_6 := dk_seg dksX1_sum_5 24 rfl rfl
theorem dX1_sum_0 : decode cX1_sum 0 = .ok (.iload_n 1, 1) := dk_27 (dk_at dksX1_sum_0 0 rfl rfl)
theorem dX1_sum_1 : decode cX1_sum 1 = .ok (.ifCond .eq 85, 3) := dk_153 0 85 (dk_at dksX1_sum_0 1 rfl rfl)
theorem dX1_sum_4 : decode cX1_sum 4 = .ok (.iconst (-1), 1) := dk_2 (dk_at dksX1_sum_0 4 rfl rfl)
theorem dX1_sum_5 : decode cX1_sum 5 = .ok (.istore 4, 2) := dk_54 4 (dk_at dksX1_sum_0 5 rfl rfl)
theorem dX1_sum_7 : decode cX1_sum 7 = .ok (.iload_n 2, 1) := dk_28 (dk_at dksX1_sum_0 7 rfl rfl)
theorem dX1_sum_8 : decode cX1_sum 8 = .ok (.istore 5, 2) := dk_54 5 (dk_at dksX1_sum_0 8 rfl rfl)
theorem dX1_sum_10 : decode cX1_sum 10 = .ok (.iload 5, 2) := dk_21 5 (dk_at dksX1_sum_0 10 rfl rfl)
theorem dX1_sum_12 : decode cX1_sum 12 = .ok (.iload_n 2, 1) := dk_28 (dk_at dksX1_sum_0 12 rfl rfl)
theorem dX1_sum_13 : decode cX1_sum 13 = .ok (.iload_n 3, 1) := dk_29 (dk_at dksX1_sum_0 13 rfl rfl)
theorem dX1_sum_14 : decode cX1_sum 14 = .ok (.iadd, 1) := dk_96 (dk_at dksX1_sum_0 14 rfl rfl)
theorem dX1_sum_15 : decode cX1_sum 15 = .ok (.if_icmp .ge 61, 3) := dk_162 0 61 (dk_at dksX1_sum_0 15 rfl rfl)
theorem dX1_sum_18 : decode cX1_sum 18 = .ok (.iload 4, 2) := dk_21 4 (dk_at dksX1_sum_0 18 rfl rfl)
theorem dX1_sum_20 : decode cX1_sum 20 = .ok (.aload_n 0, 1) := dk_42 (dk_at dksX1_sum_0 20 rfl rfl)
theorem dX1_sum_21 : decode cX1_sum 21 = .ok (.getfield 7, 3) := dk_180 0 7 (dk_at dksX1_sum_0 21 rfl rfl)
theorem dX1_sum_24 : decode cX1_sum 24 = .ok (.iload 5, 2) := dk_21 5 (dk_at dksX1_sum_1 0 rfl rfl)
theorem dX1_sum_26 : decode cX1_sum 26 = .ok (.baload, 1) := dk_51 (dk_at dksX1_sum_1 2 rfl rfl)
theorem dX1_sum_27 : decode cX1_sum 27 = .ok (.sipush 255, 3) := dk_17 0 255 (dk_at dksX1_sum_1 3 rfl rfl)
theorem dX1_sum_30 : decode cX1_sum 30 = .ok (.iand, 1) := dk_126 (dk_at dksX1_sum_1 6 rfl rfl)
theorem dX1_sum_31 : decode cX1_sum 31 = .ok (.ixor, 1) := dk_130 (dk_at dksX1_sum_1 7 rfl rfl)
theorem dX1_sum_32 : decode cX1_sum 32 = .ok (.istore 4, 2) := dk_54 4 (dk_at dksX1_sum_1 8 rfl rfl)
theorem dX1_sum_34 : decode cX1_sum 34 = .ok (.iconst 0, 1) := dk_3 (dk_at dksX1_sum_1 10 rfl rfl)
theorem dX1_sum_35 : decode cX1_sum 35 = .ok (.istore 6, 2) := dk_54 6 (dk_at dksX1_sum_1 11 rfl rfl)
theorem dX1_sum_37 : decode cX1_sum 37 = .ok (.iload 6, 2) := dk_21 6 (dk_at dksX1_sum_1 13 rfl rfl)
theorem dX1_sum_39 : decode cX1_sum 39 = .ok (.bipush 8, 2) := dk_16 8 (dk_at dksX1_sum_1 15 rfl rfl)
theorem dX1_sum_41 : decode cX1_sum 41 = .ok (.if_icmp .ge 29, 3) := dk_162 0 29 (dk_at dksX1_sum_1 17 rfl rfl)
theorem dX1_sum_44 : decode cX1_sum 44 = .ok (.iload 4, 2) := dk_21 4 (dk_at dksX1_sum_1 20 rfl rfl)
theorem dX1_sum_46 : decode cX1_sum 46 = .ok (.iconst 1, 1) := dk_4 (dk_at dksX1_sum_1 22 rfl rfl)
theorem dX1_sum_47 : decode cX1_sum 47 = .ok (.iushr, 1) := dk_124 (dk_at dksX1_sum_1 23 rfl rfl)
theorem dX1_sum_48 : decode cX1_sum 48 = .ok (.iload 4, 2) := dk_21 4 (dk_at dksX1_sum_2 0 rfl rfl)
theorem dX1_sum_50 : decode cX1_sum 50 = .ok (.iconst 1, 1) := dk_4 (dk_at dksX1_sum_2 2 rfl rfl)
theorem dX1_sum_51 : decode cX1_sum 51 = .ok (.iand, 1) := dk_126 (dk_at dksX1_sum_2 3 rfl rfl)
theorem dX1_sum_52 : decode cX1_sum 52 = .ok (.ifCond .eq 8, 3) := dk_153 0 8 (dk_at dksX1_sum_2 4 rfl rfl)
theorem dX1_sum_55 : decode cX1_sum 55 = .ok (.ldc 22, 2) := dk_18 22 (dk_at dksX1_sum_2 7 rfl rfl)
theorem dX1_sum_57 : decode cX1_sum 57 = .ok (.goto 4, 3) := dk_167 0 4 (dk_at dksX1_sum_2 9 rfl rfl)
theorem dX1_sum_60 : decode cX1_sum 60 = .ok (.iconst 0, 1) := dk_3 (dk_at dksX1_sum_2 12 rfl rfl)
theorem dX1_sum_61 : decode cX1_sum 61 = .ok (.ixor, 1) := dk_130 (dk_at dksX1_sum_2 13 rfl rfl)
theorem dX1_sum_62 : decode cX1_sum 62 = .ok (.istore 4, 2) := dk_54 4 (dk_at dksX1_sum_2 14 rfl rfl)
theorem dX1_sum_64 : decode cX1_sum 64 = .ok (.iinc 6 1, 3) := dk_132 6 1 (dk_at dksX1_sum_2 16 rfl rfl)
theorem dX1_sum_67 : decode cX1_sum 67 = .ok (.goto (-30), 3) := dk_167 255 226 (dk_at dksX1_sum_2 19 rfl rfl)
theorem dX1_sum_70 : decode cX1_sum 70 = .ok (.iinc 5 1, 3) := dk_132 5 1 (dk_at dksX1_sum_3 0 rfl rfl)
theorem dX1_sum_73 : decode cX1_sum 73 = .ok (.goto (-63), 3) := dk_167 255 193 (dk_at dksX1_sum_3 3 rfl rfl)
theorem dX1_sum_76 : decode cX1_sum 76 = .ok (.iload 4, 2) := dk_21 4 (dk_at dksX1_sum_3 6 rfl rfl)
theorem dX1_sum_78 : decode cX1_sum 78 = .ok (.iconst (-1), 1) := dk_2 (dk_at dksX1_sum_3 8 rfl rfl)
theorem dX1_sum_79 : decode cX1_sum 79 = .ok (.ixor, 1) := dk_130 (dk_at dksX1_sum_3 9 rfl rfl)
theorem dX1_sum_80 : decode cX1_sum 80 = .ok (.i2l, 1) := dk_133 (dk_at dksX1_sum_3 10 rfl rfl)
theorem dX1_sum_81 : decode cX1_sum 81 = .ok (.ldc2_w 23, 3) := dk_20 0 23 (dk_at dksX1_sum_3 11 rfl rfl)
theorem dX1_sum_84 : decode cX1_sum 84 = .ok (.land, 1) := dk_127 (dk_at dksX1_sum_3 14 rfl rfl)
theorem dX1_sum_85 : decode cX1_sum 85 = .ok (.lreturn, 1) := dk_173 (dk_at dksX1_sum_3 15 rfl rfl)
theorem dX1_sum_86 : decode cX1_sum 86 = .ok (.lconst 1, 1) := dk_10 (dk_at dksX1_sum_3 16 rfl rfl)
theorem dX1_sum_87 : decode cX1_sum 87 = .ok (.lstore 4, 2) := dk_55 4 (dk_at dksX1_sum_3 17 rfl rfl)
theorem dX1_sum_89 : decode cX1_sum 89 = .ok (.lconst 0, 1) := dk_9 (dk_at dksX1_sum_3 19 rfl rfl)
theorem dX1_sum_90 : decode cX1_sum 90 = .ok (.lstore 6, 2) := dk_55 6 (dk_at dksX1_sum_3 20 rfl rfl)
theorem dX1_sum_92 : decode cX1_sum 92 = .ok (.iload_n 2, 1) := dk_28 (dk_at dksX1_sum_3 22 rfl rfl)
theorem dX1_sum_93 : decode cX1_sum 93 = .ok (.istore 8, 2) := dk_54 8 (dk_at dksX1_sum_4 0 rfl rfl)
theorem dX1_sum_95 : decode cX1_sum 95 = .ok (.iload 8, 2) := dk_21 8 (dk_at dksX1_sum_4 2 rfl rfl)
theorem dX1_sum_97 : decode cX1_sum 97 = .ok (.iload_n 2, 1) := dk_28 (dk_at dksX1_sum_4 4 rfl rfl)
theorem dX1_sum_98 : decode cX1_sum 98 = .ok (.iload_n 3, 1) := dk_29 (dk_at dksX1_sum_4 5 rfl rfl)
theorem dX1_sum_99 : decode cX1_sum 99 = .ok (.iadd, 1) := dk_96 (dk_at dksX1_sum_4 6 rfl rfl)
theorem dX1_sum_100 : decode cX1_sum 100 = .ok (.if_icmp .ge 41, 3) := dk_162 0 41 (dk_at dksX1_sum_4 7 rfl rfl)
theorem dX1_sum_103 : decode cX1_sum 103 = .ok (.lload 4, 2) := dk_22 4 (dk_at dksX1_sum_4 10 rfl rfl)
theorem dX1_sum_105 : decode cX1_sum 105 = .ok (.aload_n 0, 1) := dk_42 (dk_at dksX1_sum_4 12 rfl rfl)
theorem dX1_sum_106 : decode cX1_sum 106 = .ok (.getfield 7, 3) := dk_180 0 7 (dk_at dksX1_sum_4 13 rfl rfl)
theorem dX1_sum_109 : decode cX1_sum 109 = .ok (.iload 8, 2) := dk_21 8 (dk_at dksX1_sum_4 16 rfl rfl)
theorem dX1_sum_111 : decode cX1_sum 111 = .ok (.baload, 1) := dk_51 (dk_at dksX1_sum_4 18 rfl rfl)
theorem dX1_sum_112 : decode cX1_sum 112 = .ok (.sipush 255, 3) := dk_17 0 255 (dk_at dksX1_sum_4 19 rfl rfl)
theorem dX1_sum_115 : decode cX1_sum 115 = .ok (.iand, 1) := dk_126 (dk_at dksX1_sum_4 22 rfl rfl)
theorem dX1_sum_116 : decode cX1_sum 116 = .ok (.i2l, 1) := dk_133 (dk_at dksX1_sum_4 23 rfl rfl)
theorem dX1_sum_117 : decode cX1_sum 117 = .ok (.ladd, 1) := dk_97 (dk_at dksX1_sum_5 0 rfl rfl)
theorem dX1_sum_118 : decode cX1_sum 118 = .ok (.ldc2_w 25, 3) := dk_20 0 25 (dk_at dksX1_sum_5 1 rfl rfl)
theorem dX1_sum_121 : decode cX1_sum 121 = .ok (.lrem, 1) := dk_113 (dk_at dksX1_sum_5 4 rfl rfl)
theorem dX1_sum_122 : decode cX1_sum 122 = .ok (.lstore 4, 2) := dk_55 4 (dk_at dksX1_sum_5 5 rfl rfl)
theorem dX1_sum_124 : decode cX1_sum 124 = .ok (.lload 6, 2) := dk_22 6 (dk_at dksX1_sum_5 7 rfl rfl)
theorem dX1_sum_126 : decode cX1_sum 126 = .ok (.lload 4, 2) := dk_22 4 (dk_at dksX1_sum_5 9 rfl rfl)
theorem dX1_sum_128 : decode cX1_sum 128 = .ok (.ladd, 1) := dk_97 (dk_at dksX1_sum_5 11 rfl rfl)
theorem dX1_sum_129 : decode cX1_sum 129 = .ok (.ldc2_w 25, 3) := dk_20 0 25 (dk_at dksX1_sum_5 12 rfl rfl)
theorem dX1_sum_132 : decode cX1_sum 132 = .ok (.lrem, 1) := dk_113 (dk_at dksX1_sum_5 15 rfl rfl)
theorem dX1_sum_133 : decode cX1_sum 133 = .ok (.lstore 6, 2) := dk_55 6 (dk_at dksX1_sum_5 16 rfl rfl)
theorem dX1_sum_135 : decode cX1_sum 135 = .ok (.iinc 8 1, 3) := dk_132 8 1 (dk_at dksX1_sum_5 18 rfl rfl)
theorem dX1_sum_138 : decode cX1_sum 138 = .ok (.goto (-43), 3) := dk_167 255 213 (dk_at dksX1_sum_5 21 rfl rfl)
theorem dX1_sum_141 : decode cX1_sum 141 = .ok (.lload 6, 2) := dk_22 6 (dk_at dksX1_sum_6 0 rfl rfl)
theorem dX1_sum_143 : decode cX1_sum 143 = .ok (.bipush 16, 2) := dk_16 16 (dk_at dksX1_sum_6 2 rfl rfl)
theorem dX1_sum_145 : decode cX1_sum 145 = .ok (.lshl, 1) := dk_121 (dk_at dksX1_sum_6 4 rfl rfl)
theorem dX1_sum_146 : decode cX1_sum 146 = .ok (.lload 4, 2) := dk_22 4 (dk_at dksX1_sum_6 5 rfl rfl)
theorem dX1_sum_148 : decode cX1_sum 148 = .ok (.lor, 1) := dk_129 (dk_at dksX1_sum_6 7 rfl rfl)
theorem dX1_sum_149 : decode cX1_sum 149 = .ok (.lreturn, 1) := dk_173 (dk_at dksX1_sum_6 8 rfl rfl)
abbrev cX1_adler : ByteArray := prog_5_method_9_code
def yX1_adler : MethodName := ⟨RX1, "adler", "(II)J"⟩
def dkwX1_adler_0 : List UInt8 := [42, 27, 182, 0, 17, 62, 42, 3, 29, 42, 29, 28, 182, 0, 27, 182, 0, 31, 173]
abbrev dktX1_adler_0 : List UInt8 := dkwX1_adler_0 ++ []
theorem dksX1_adler_0 : cX1_adler.data.toList.drop 0 = dktX1_adler_0 := by decide +kernel
theorem dX1_adler_0 : decode cX1_adler 0 = .ok (.aload_n 0, 1) := dk_42 (dk_at dksX1_adler_0 0 rfl rfl)
theorem dX1_adler_1 : decode cX1_adler 1 = .ok (.iload_n 1, 1) := dk_27 (dk_at dksX1_adler_0 1 rfl rfl)
theorem dX1_adler_2 : decode cX1_adler 2 = .ok (.invokevirtual 17, 3) := dk_182 0 17 (dk_at dksX1_adler_0 2 rfl rfl)
theorem dX1_adler_5 : decode cX1_adler 5 = .ok (.istore_n 3, 1) := dk_62 (dk_at dksX1_adler_0 5 rfl rfl)
theorem dX1_adler_6 : decode cX1_adler 6 = .ok (.aload_n 0, 1) := dk_42 (dk_at dksX1_adler_0 6 rfl rfl)
theorem dX1_adler_7 : decode cX1_adler 7 = .ok (.iconst 0, 1) := dk_3 (dk_at dksX1_adler_0 7 rfl rfl)
theorem dX1_adler_8 : decode cX1_adler 8 = .ok (.iload_n 3, 1) := dk_29 (dk_at dksX1_adler_0 8 rfl rfl)
theorem dX1_adler_9 : decode cX1_adler 9 = .ok (.aload_n 0, 1) := dk_42 (dk_at dksX1_adler_0 9 rfl rfl)
theorem dX1_adler_10 : decode cX1_adler 10 = .ok (.iload_n 3, 1) := dk_29 (dk_at dksX1_adler_0 10 rfl rfl)
theorem dX1_adler_11 : decode cX1_adler 11 = .ok (.iload_n 2, 1) := dk_28 (dk_at dksX1_adler_0 11 rfl rfl)
theorem dX1_adler_12 : decode cX1_adler 12 = .ok (.invokevirtual 27, 3) := dk_182 0 27 (dk_at dksX1_adler_0 12 rfl rfl)
theorem dX1_adler_15 : decode cX1_adler 15 = .ok (.invokevirtual 31, 3) := dk_182 0 31 (dk_at dksX1_adler_0 15 rfl rfl)
theorem dX1_adler_18 : decode cX1_adler 18 = .ok (.lreturn, 1) := dk_173 (dk_at dksX1_adler_0 18 rfl rfl)
abbrev cX1_joinCrc : ByteArray := prog_5_method_10_code
def yX1_joinCrc : MethodName := ⟨RX1, "joinCrc", "(III)J"⟩
def dkwX1_joinCrc_0 : List UInt8 := [42, 27, 28, 182, 0, 35, 173]
abbrev dktX1_joinCrc_0 : List UInt8 := dkwX1_joinCrc_0 ++ []
theorem dksX1_joinCrc_0 : cX1_joinCrc.data.toList.drop 0 = dktX1_joinCrc_0 := by decide +kernel
theorem dX1_joinCrc_0 : decode cX1_joinCrc 0 = .ok (.aload_n 0, 1) := dk_42 (dk_at dksX1_joinCrc_0 0 rfl rfl)
theorem dX1_joinCrc_1 : decode cX1_joinCrc 1 = .ok (.iload_n 1, 1) := dk_27 (dk_at dksX1_joinCrc_0 1 rfl rfl)
theorem dX1_joinCrc_2 : decode cX1_joinCrc 2 = .ok (.iload_n 2, 1) := dk_28 (dk_at dksX1_joinCrc_0 2 rfl rfl)
theorem dX1_joinCrc_3 : decode cX1_joinCrc 3 = .ok (.invokevirtual 35, 3) := dk_182 0 35 (dk_at dksX1_joinCrc_0 3 rfl rfl)
theorem dX1_joinCrc_6 : decode cX1_joinCrc 6 = .ok (.lreturn, 1) := dk_173 (dk_at dksX1_joinCrc_0 6 rfl rfl)
abbrev cX1_joinAdler : ByteArray := prog_5_method_11_code
def yX1_joinAdler : MethodName := ⟨RX1, "joinAdler", "(III)J"⟩
def dkwX1_joinAdler_0 : List UInt8 := [42, 27, 28, 182, 0, 39, 173]
abbrev dktX1_joinAdler_0 : List UInt8 := dkwX1_joinAdler_0 ++ []
theorem dksX1_joinAdler_0 : cX1_joinAdler.data.toList.drop 0 = dktX1_joinAdler_0 := by decide +kernel
theorem dX1_joinAdler_0 : decode cX1_joinAdler 0 = .ok (.aload_n 0, 1) := dk_42 (dk_at dksX1_joinAdler_0 0 rfl rfl)
theorem dX1_joinAdler_1 : decode cX1_joinAdler 1 = .ok (.iload_n 1, 1) := dk_27 (dk_at dksX1_joinAdler_0 1 rfl rfl)
theorem dX1_joinAdler_2 : decode cX1_joinAdler 2 = .ok (.iload_n 2, 1) := dk_28 (dk_at dksX1_joinAdler_0 2 rfl rfl)
theorem dX1_joinAdler_3 : decode cX1_joinAdler 3 = .ok (.invokevirtual 39, 3) := dk_182 0 39 (dk_at dksX1_joinAdler_0 3 rfl rfl)
theorem dX1_joinAdler_6 : decode cX1_joinAdler 6 = .ok (.lreturn, 1) := dk_173 (dk_at dksX1_joinAdler_0 6 rfl rfl)
theorem q8 : (Jvm.Cond.initialized "SumJoinModel") ∈ lw_all := lw_g (lw_at lw_m0 2 rfl) rfl
theorem q130 : (Jvm.Cond.instantiable "SumJoinModel" (2 : Nat)) ∈ lw_all := lw_g (lw_at lw_m0 124 rfl) rfl
theorem q132 : (Jvm.Cond.instanceMethod ({ cls := "SumJoinModel", name := "<init>", desc := "()V" } : Jvm.MethodName)) ∈ lw_all := lw_g (lw_at lw_m0 126 rfl) rfl
theorem q133 : (Jvm.Cond.code ({ cls := "SumJoinModel", name := "<init>", desc := "()V" } : Jvm.MethodName) prog_5_method_1_code (1 : Nat) (Option.none : Option Jvm.ClassFile.FieldType)) ∈ lw_all := lw_g (lw_at lw_m0 127 rfl) rfl
theorem q134 : (Jvm.Cond.methodLink "SumJoinModel" (1 : Nat) ({ cls := "java/lang/Object", name := "<init>", desc := "()V" } : Jvm.MethodName)) ∈ lw_all := lw_g (lw_at lw_m0 128 rfl) rfl
theorem q135 : (Jvm.Cond.fieldLink "SumJoinModel" (7 : Nat) "SumJoinModel" "text" "[B") ∈ lw_all := lw_g (lw_at lw_m0 129 rfl) rfl
theorem q136 : (Jvm.Cond.fieldLink "SumJoinModel" (13 : Nat) "SumJoinModel" "size" "I") ∈ lw_all := lw_g (lw_at lw_m0 130 rfl) rfl
theorem q137 : (Jvm.Cond.laysFinal "SumJoinModel" "SumJoinModel" "text" "[B") ∈ lw_all := lw_g (lw_at lw_m0 131 rfl) rfl
theorem q138 : (Jvm.Cond.soleField "SumJoinModel" "text") ∈ lw_all := lw_g (lw_at lw_m0 132 rfl) rfl
theorem q139 : (Jvm.Cond.lays "SumJoinModel" "SumJoinModel" "size" "I") ∈ lw_all := lw_g (lw_at lw_m0 133 rfl) rfl
theorem q140 : (Jvm.Cond.soleField "SumJoinModel" "size") ∈ lw_all := lw_g (lw_at lw_m0 134 rfl) rfl
theorem q141 : (Jvm.Cond.superclass "SumJoinModel" "java/lang/Object") ∈ lw_all := lw_g (lw_at lw_m0 135 rfl) rfl
theorem q143 : (Jvm.Cond.instanceMethod ({ cls := "SumJoinModel", name := "put", desc := "(IIII)Z" } : Jvm.MethodName)) ∈ lw_all := lw_g (lw_at lw_m0 137 rfl) rfl
theorem q144 : (Jvm.Cond.selects "SumJoinModel" ({ cls := "SumJoinModel", name := "put", desc := "(IIII)Z" } : Jvm.MethodName) ({ cls := "SumJoinModel", name := "put", desc := "(IIII)Z" } : Jvm.MethodName)) ∈ lw_all := lw_g (lw_at lw_m0 138 rfl) rfl
theorem q145 : (Jvm.Cond.code ({ cls := "SumJoinModel", name := "put", desc := "(IIII)Z" } : Jvm.MethodName) prog_5_method_2_code (7 : Nat) (Option.some Jvm.ClassFile.FieldType.boolean)) ∈ lw_all := lw_g (lw_at lw_m0 139 rfl) rfl
theorem q147 : (Jvm.Cond.instanceMethod ({ cls := "SumJoinModel", name := "trim", desc := "(I)V" } : Jvm.MethodName)) ∈ lw_all := lw_g (lw_at lw_m0 141 rfl) rfl
theorem q148 : (Jvm.Cond.selects "SumJoinModel" ({ cls := "SumJoinModel", name := "trim", desc := "(I)V" } : Jvm.MethodName) ({ cls := "SumJoinModel", name := "trim", desc := "(I)V" } : Jvm.MethodName)) ∈ lw_all := lw_g (lw_at lw_m0 142 rfl) rfl
theorem q149 : (Jvm.Cond.code ({ cls := "SumJoinModel", name := "trim", desc := "(I)V" } : Jvm.MethodName) prog_5_method_3_code (2 : Nat) (Option.none : Option Jvm.ClassFile.FieldType)) ∈ lw_all := lw_g (lw_at lw_m0 143 rfl) rfl
theorem q150 : (Jvm.Cond.methodLink "SumJoinModel" (17 : Nat) ({ cls := "SumJoinModel", name := "first", desc := "(I)I" } : Jvm.MethodName)) ∈ lw_all := lw_g (lw_at lw_m0 144 rfl) rfl
theorem q151 : (Jvm.Cond.privateMethod ({ cls := "SumJoinModel", name := "first", desc := "(I)I" } : Jvm.MethodName)) ∈ lw_tbl := lw_at lw_m0 145 rfl
theorem q152 : (Jvm.Cond.instanceMethod ({ cls := "SumJoinModel", name := "first", desc := "(I)I" } : Jvm.MethodName)) ∈ lw_all := lw_g (lw_at lw_m0 146 rfl) rfl
theorem q153 : (Jvm.Cond.code ({ cls := "SumJoinModel", name := "first", desc := "(I)I" } : Jvm.MethodName) prog_5_method_5_code (2 : Nat) (Option.some Jvm.ClassFile.FieldType.int)) ∈ lw_all := lw_g (lw_at lw_m0 147 rfl) rfl
theorem q154 : (Jvm.Cond.constant "SumJoinModel" (21 : Nat) (2147483647 : Int32)) ∈ lw_all := lw_g (lw_at lw_m0 148 rfl) rfl
theorem q156 : (Jvm.Cond.instanceMethod ({ cls := "SumJoinModel", name := "size", desc := "()I" } : Jvm.MethodName)) ∈ lw_all := lw_g (lw_at lw_m0 150 rfl) rfl
theorem q157 : (Jvm.Cond.selects "SumJoinModel" ({ cls := "SumJoinModel", name := "size", desc := "()I" } : Jvm.MethodName) ({ cls := "SumJoinModel", name := "size", desc := "()I" } : Jvm.MethodName)) ∈ lw_all := lw_g (lw_at lw_m0 151 rfl) rfl
theorem q158 : (Jvm.Cond.code ({ cls := "SumJoinModel", name := "size", desc := "()I" } : Jvm.MethodName) prog_5_method_4_code (1 : Nat) (Option.some Jvm.ClassFile.FieldType.int)) ∈ lw_all := lw_g (lw_at lw_m0 152 rfl) rfl
theorem q160 : (Jvm.Cond.instanceMethod ({ cls := "SumJoinModel", name := "crc", desc := "(II)J" } : Jvm.MethodName)) ∈ lw_all := lw_g (lw_at lw_m0 154 rfl) rfl
theorem q161 : (Jvm.Cond.selects "SumJoinModel" ({ cls := "SumJoinModel", name := "crc", desc := "(II)J" } : Jvm.MethodName) ({ cls := "SumJoinModel", name := "crc", desc := "(II)J" } : Jvm.MethodName)) ∈ lw_all := lw_g (lw_at lw_m0 155 rfl) rfl
theorem q162 : (Jvm.Cond.code ({ cls := "SumJoinModel", name := "crc", desc := "(II)J" } : Jvm.MethodName) prog_5_method_8_code (4 : Nat) (Option.some Jvm.ClassFile.FieldType.long)) ∈ lw_all := lw_g (lw_at lw_m0 156 rfl) rfl
theorem q163 : (Jvm.Cond.methodLink "SumJoinModel" (27 : Nat) ({ cls := "SumJoinModel", name := "many", desc := "(II)I" } : Jvm.MethodName)) ∈ lw_all := lw_g (lw_at lw_m0 157 rfl) rfl
theorem q164 : (Jvm.Cond.privateMethod ({ cls := "SumJoinModel", name := "many", desc := "(II)I" } : Jvm.MethodName)) ∈ lw_tbl := lw_at lw_m0 158 rfl
theorem q165 : (Jvm.Cond.instanceMethod ({ cls := "SumJoinModel", name := "many", desc := "(II)I" } : Jvm.MethodName)) ∈ lw_all := lw_g (lw_at lw_m0 159 rfl) rfl
theorem q166 : (Jvm.Cond.code ({ cls := "SumJoinModel", name := "many", desc := "(II)I" } : Jvm.MethodName) prog_5_method_6_code (3 : Nat) (Option.some Jvm.ClassFile.FieldType.int)) ∈ lw_all := lw_g (lw_at lw_m0 160 rfl) rfl
theorem q167 : (Jvm.Cond.methodLink "SumJoinModel" (31 : Nat) ({ cls := "SumJoinModel", name := "sum", desc := "(ZII)J" } : Jvm.MethodName)) ∈ lw_all := lw_g (lw_at lw_m0 161 rfl) rfl
theorem q168 : (Jvm.Cond.privateMethod ({ cls := "SumJoinModel", name := "sum", desc := "(ZII)J" } : Jvm.MethodName)) ∈ lw_tbl := lw_at lw_m0 162 rfl
theorem q169 : (Jvm.Cond.instanceMethod ({ cls := "SumJoinModel", name := "sum", desc := "(ZII)J" } : Jvm.MethodName)) ∈ lw_all := lw_g (lw_at lw_m0 163 rfl) rfl
theorem q170 : (Jvm.Cond.code ({ cls := "SumJoinModel", name := "sum", desc := "(ZII)J" } : Jvm.MethodName) prog_5_method_7_code (9 : Nat) (Option.some Jvm.ClassFile.FieldType.long)) ∈ lw_all := lw_g (lw_at lw_m0 164 rfl) rfl
theorem q171 : (Jvm.Cond.constant "SumJoinModel" (22 : Nat) (-306674912 : Int32)) ∈ lw_all := lw_g (lw_at lw_m0 165 rfl) rfl
theorem q172 : (Jvm.Cond.constantLong "SumJoinModel" (23 : Nat) (4294967295 : Int64)) ∈ lw_all := lw_g (lw_at lw_m0 166 rfl) rfl
theorem q173 : (Jvm.Cond.constantLong "SumJoinModel" (25 : Nat) (65521 : Int64)) ∈ lw_all := lw_g (lw_at lw_m0 167 rfl) rfl
theorem q175 : (Jvm.Cond.instanceMethod ({ cls := "SumJoinModel", name := "adler", desc := "(II)J" } : Jvm.MethodName)) ∈ lw_all := lw_g (lw_at lw_m0 169 rfl) rfl
theorem q176 : (Jvm.Cond.selects "SumJoinModel" ({ cls := "SumJoinModel", name := "adler", desc := "(II)J" } : Jvm.MethodName) ({ cls := "SumJoinModel", name := "adler", desc := "(II)J" } : Jvm.MethodName)) ∈ lw_all := lw_g (lw_at lw_m0 170 rfl) rfl
theorem q177 : (Jvm.Cond.code ({ cls := "SumJoinModel", name := "adler", desc := "(II)J" } : Jvm.MethodName) prog_5_method_9_code (4 : Nat) (Option.some Jvm.ClassFile.FieldType.long)) ∈ lw_all := lw_g (lw_at lw_m0 171 rfl) rfl
theorem q179 : (Jvm.Cond.instanceMethod ({ cls := "SumJoinModel", name := "joinCrc", desc := "(III)J" } : Jvm.MethodName)) ∈ lw_all := lw_g (lw_at lw_m0 173 rfl) rfl
theorem q180 : (Jvm.Cond.selects "SumJoinModel" ({ cls := "SumJoinModel", name := "joinCrc", desc := "(III)J" } : Jvm.MethodName) ({ cls := "SumJoinModel", name := "joinCrc", desc := "(III)J" } : Jvm.MethodName)) ∈ lw_all := lw_g (lw_at lw_m0 174 rfl) rfl
theorem q181 : (Jvm.Cond.code ({ cls := "SumJoinModel", name := "joinCrc", desc := "(III)J" } : Jvm.MethodName) prog_5_method_10_code (4 : Nat) (Option.some Jvm.ClassFile.FieldType.long)) ∈ lw_all := lw_g (lw_at lw_m0 175 rfl) rfl
theorem q182 : (Jvm.Cond.methodLink "SumJoinModel" (35 : Nat) ({ cls := "SumJoinModel", name := "crc", desc := "(II)J" } : Jvm.MethodName)) ∈ lw_all := lw_g (lw_at lw_m0 176 rfl) rfl
theorem q184 : (Jvm.Cond.instanceMethod ({ cls := "SumJoinModel", name := "joinAdler", desc := "(III)J" } : Jvm.MethodName)) ∈ lw_all := lw_g (lw_at lw_m0 178 rfl) rfl
theorem q185 : (Jvm.Cond.selects "SumJoinModel" ({ cls := "SumJoinModel", name := "joinAdler", desc := "(III)J" } : Jvm.MethodName) ({ cls := "SumJoinModel", name := "joinAdler", desc := "(III)J" } : Jvm.MethodName)) ∈ lw_all := lw_g (lw_at lw_m0 179 rfl) rfl
theorem q186 : (Jvm.Cond.code ({ cls := "SumJoinModel", name := "joinAdler", desc := "(III)J" } : Jvm.MethodName) prog_5_method_11_code (4 : Nat) (Option.some Jvm.ClassFile.FieldType.long)) ∈ lw_all := lw_g (lw_at lw_m0 180 rfl) rfl
theorem q187 : (Jvm.Cond.methodLink "SumJoinModel" (39 : Nat) ({ cls := "SumJoinModel", name := "adler", desc := "(II)J" } : Jvm.MethodName)) ∈ lw_all := lw_g (lw_at lw_m0 181 rfl) rfl
theorem in_X1 : ∀ w ∈ wsX10, w ∈ lw_all := lw_in wsX10 [137, 139] (by decide +kernel) (by decide +kernel)
/-! the law's own entry -/
set_option maxRecDepth 100000
abbrev cL_law : ByteArray := code
def dkwL_law_13 : List UInt8 := [153, 0, 5, 3, 172, 132, 3, 6, 167, 254, 208, 4, 172]
abbrev dktL_law_13 : List UInt8 := dkwL_law_13 ++ []
def dkwL_law_12 : List UInt8 := [46, 182, 0, 42, 44, 42, 29, 4, 96, 46, 42, 29, 5, 96, 46, 42, 29, 6, 96, 46, 182, 0, 45, 148]
abbrev dktL_law_12 : List UInt8 := dkwL_law_12 ++ dktL_law_13
def dkwL_law_11 : List UInt8 := [182, 0, 41, 148, 153, 0, 49, 3, 172, 43, 42, 29, 4, 96, 46, 42, 29, 5, 96, 46, 42, 29, 6, 96]
abbrev dktL_law_11 : List UInt8 := dkwL_law_11 ++ dktL_law_12
def dkwL_law_10 : List UInt8 := [29, 6, 96, 46, 182, 0, 37, 44, 42, 29, 4, 96, 46, 42, 29, 5, 96, 46, 42, 29, 6, 96, 46]
abbrev dktL_law_10 : List UInt8 := dkwL_law_10 ++ dktL_law_11
def dkwL_law_9 : List UInt8 := [5, 96, 46, 182, 0, 36, 148, 153, 0, 93, 3, 172, 43, 42, 29, 4, 96, 46, 42, 29, 5, 96, 46, 42]
abbrev dktL_law_9 : List UInt8 := dkwL_law_9 ++ dktL_law_10
def dkwL_law_8 : List UInt8 := [3, 172, 43, 42, 29, 4, 96, 46, 42, 29, 5, 96, 46, 182, 0, 33, 44, 42, 29, 4, 96, 46, 42, 29]
abbrev dktL_law_8 : List UInt8 := dkwL_law_8 ++ dktL_law_9
def dkwL_law_7 : List UInt8 := [5, 96, 46, 182, 0, 28, 44, 42, 29, 4, 96, 46, 42, 29, 5, 96, 46, 182, 0, 32, 148, 153, 0, 127]
abbrev dktL_law_7 : List UInt8 := dkwL_law_7 ++ dktL_law_8
def dkwL_law_6 : List UInt8 := [167, 0, 172, 43, 182, 0, 23, 44, 182, 0, 27, 159, 0, 161, 3, 172, 43, 42, 29, 4, 96, 46, 42, 29]
abbrev dktL_law_6 : List UInt8 := dkwL_law_6 ++ dktL_law_7
def dkwL_law_5 : List UInt8 := [159, 0, 195, 3, 172, 43, 42, 29, 4, 96, 46, 182, 0, 18, 44, 42, 29, 4, 96, 46, 182, 0, 22]
abbrev dktL_law_5 : List UInt8 := dkwL_law_5 ++ dktL_law_6
def dkwL_law_4 : List UInt8 := [44, 42, 29, 4, 96, 46, 42, 29, 5, 96, 46, 42, 29, 6, 96, 46, 42, 29, 7, 96, 46, 182, 0, 17]
abbrev dktL_law_4 : List UInt8 := dkwL_law_4 ++ dktL_law_5
def dkwL_law_3 : List UInt8 := [43, 42, 29, 4, 96, 46, 42, 29, 5, 96, 46, 42, 29, 6, 96, 46, 42, 29, 7, 96, 46, 182, 0, 13]
abbrev dktL_law_3 : List UInt8 := dkwL_law_3 ++ dktL_law_4
def dkwL_law_2 : List UInt8 := [170, 0, 0, 0, 0, 1, 30, 0, 0, 0, 0, 0, 0, 0, 6, 0, 0, 0, 43, 0, 0, 0, 96, 0, 0, 0, 117, 0, 0, 0, 130, 0, 0, 0, 164, 0, 0, 0, 198, 0, 0, 0, 242]
abbrev dktL_law_2 : List UInt8 := dkwL_law_2 ++ dktL_law_3
def dkwL_law_1 : List UInt8 := [163, 1, 45, 42, 29, 46, 16, 15, 126]
abbrev dktL_law_1 : List UInt8 := dkwL_law_1 ++ dktL_law_2
def dkwL_law_0 : List UInt8 := [187, 0, 7, 89, 183, 0, 9, 76, 187, 0, 10, 89, 183, 0, 12, 77, 3, 62, 29, 42, 190, 16, 6, 100]
abbrev dktL_law_0 : List UInt8 := dkwL_law_0 ++ dktL_law_1
theorem dksL_law_0 : cL_law.data.toList.drop 0 = dktL_law_0 := by decide +kernel
theorem dksL_law_1 : cL_law.data.toList.drop 24 = dktL_law_1 := dk_seg dksL_law_0 24 rfl rfl
theorem dksL_law_2 : cL_law.data.toList.drop 33 = dktL_law_2 := dk_seg dksL_law_1 9 rfl rfl
theorem dksL_law_3 : cL_law.data.toList.drop 76 = dktL_law_3 := dk_seg dksL_law_2 43 rfl rfl
theorem dksL_law_4 : cL_law.data.toList.drop 100 = dktL_law_4 := dk_seg dksL_law_3 24 rfl rfl
theorem dksL_law_5 : cL_law.data.toList.drop 124 = dktL_law_5 := dk_seg dksL_law_4 24 rfl rfl
theorem dksL_law_6 : cL_law.data.toList.drop 147 = dktL_law_6 := dk_seg dksL_law_5 23 rfl rfl
theorem dksL_law_7 : cL_law.data.toList.drop 171 = dktL_law_7 := dk_seg dksL_law_6 24 rfl rfl
theorem dksL_law_8 : cL_law.data.toList.drop 195 = dktL_law_8 := dk_seg dksL_law_7 24 rfl rfl
theorem dksL_law_9 : cL_law.data.toList.drop 219 = dktL_law_9 := dk_seg dksL_law_8 24 rfl rfl
theorem dksL_law_10 : cL_law.data.toList.drop 243 = dktL_law_10 := dk_seg dksL_law_9 24 rfl rfl
theorem dksL_law_11 : cL_law.data.toList.drop 266 = dktL_law_11 := dk_seg dksL_law_10 23 rfl rfl
theorem dksL_law_12 : cL_law.data.toList.drop 290 = dktL_law_12 := dk_seg dksL_law_11 24 rfl rfl
theorem dksL_law_13 : cL_law.data.toList.drop 314 = dktL_law_13 := dk_seg dksL_law_12 24 rfl rfl
theorem dL_law_0 : decode cL_law 0 = .ok (.new 7, 3) := dk_187 0 7 (dk_at dksL_law_0 0 rfl rfl)
theorem dL_law_3 : decode cL_law 3 = .ok (.dup, 1) := dk_89 (dk_at dksL_law_0 3 rfl rfl)
theorem dL_law_4 : decode cL_law 4 = .ok (.invokespecial 9, 3) := dk_183 0 9 (dk_at dksL_law_0 4 rfl rfl)
theorem dL_law_7 : decode cL_law 7 = .ok (.astore_n 1, 1) := dk_76 (dk_at dksL_law_0 7 rfl rfl)
theorem dL_law_8 : decode cL_law 8 = .ok (.new 10, 3) := dk_187 0 10 (dk_at dksL_law_0 8 rfl rfl)
theorem dL_law_11 : decode cL_law 11 = .ok (.dup, 1) := dk_89 (dk_at dksL_law_0 11 rfl rfl)
theorem dL_law_12 : decode cL_law 12 = .ok (.invokespecial 12, 3) := dk_183 0 12 (dk_at dksL_law_0 12 rfl rfl)
theorem dL_law_15 : decode cL_law 15 = .ok (.astore_n 2, 1) := dk_77 (dk_at dksL_law_0 15 rfl rfl)
theorem dL_law_16 : decode cL_law 16 = .ok (.iconst 0, 1) := dk_3 (dk_at dksL_law_0 16 rfl rfl)
theorem dL_law_17 : decode cL_law 17 = .ok (.istore_n 3, 1) := dk_62 (dk_at dksL_law_0 17 rfl rfl)
theorem dL_law_18 : decode cL_law 18 = .ok (.iload_n 3, 1) := dk_29 (dk_at dksL_law_0 18 rfl rfl)
theorem dL_law_19 : decode cL_law 19 = .ok (.aload_n 0, 1) := dk_42 (dk_at dksL_law_0 19 rfl rfl)
theorem dL_law_20 : decode cL_law 20 = .ok (.arraylength, 1) := dk_190 (dk_at dksL_law_0 20 rfl rfl)
theorem dL_law_21 : decode cL_law 21 = .ok (.bipush 6, 2) := dk_16 6 (dk_at dksL_law_0 21 rfl rfl)
theorem dL_law_23 : decode cL_law 23 = .ok (.isub, 1) := dk_100 (dk_at dksL_law_0 23 rfl rfl)
theorem dL_law_24 : decode cL_law 24 = .ok (.if_icmp .gt 301, 3) := dk_163 1 45 (dk_at dksL_law_1 0 rfl rfl)
theorem dL_law_27 : decode cL_law 27 = .ok (.aload_n 0, 1) := dk_42 (dk_at dksL_law_1 3 rfl rfl)
theorem dL_law_28 : decode cL_law 28 = .ok (.iload_n 3, 1) := dk_29 (dk_at dksL_law_1 4 rfl rfl)
theorem dL_law_29 : decode cL_law 29 = .ok (.iaload, 1) := dk_46 (dk_at dksL_law_1 5 rfl rfl)
theorem dL_law_30 : decode cL_law 30 = .ok (.bipush 15, 2) := dk_16 15 (dk_at dksL_law_1 6 rfl rfl)
theorem dL_law_32 : decode cL_law 32 = .ok (.iand, 1) := dk_126 (dk_at dksL_law_1 8 rfl rfl)
theorem dL_law_33 : decode cL_law 33 = .ok (.tableswitch 286 0 6 #[43, 96, 117, 130, 164, 198, 242], 43) := by decide +kernel
theorem dL_law_76 : decode cL_law 76 = .ok (.aload_n 1, 1) := dk_43 (dk_at dksL_law_3 0 rfl rfl)
theorem dL_law_77 : decode cL_law 77 = .ok (.aload_n 0, 1) := dk_42 (dk_at dksL_law_3 1 rfl rfl)
theorem dL_law_78 : decode cL_law 78 = .ok (.iload_n 3, 1) := dk_29 (dk_at dksL_law_3 2 rfl rfl)
theorem dL_law_79 : decode cL_law 79 = .ok (.iconst 1, 1) := dk_4 (dk_at dksL_law_3 3 rfl rfl)
theorem dL_law_80 : decode cL_law 80 = .ok (.iadd, 1) := dk_96 (dk_at dksL_law_3 4 rfl rfl)
theorem dL_law_81 : decode cL_law 81 = .ok (.iaload, 1) := dk_46 (dk_at dksL_law_3 5 rfl rfl)
theorem dL_law_82 : decode cL_law 82 = .ok (.aload_n 0, 1) := dk_42 (dk_at dksL_law_3 6 rfl rfl)
theorem dL_law_83 : decode cL_law 83 = .ok (.iload_n 3, 1) := dk_29 (dk_at dksL_law_3 7 rfl rfl)
theorem dL_law_84 : decode cL_law 84 = .ok (.iconst 2, 1) := dk_5 (dk_at dksL_law_3 8 rfl rfl)
theorem dL_law_85 : decode cL_law 85 = .ok (.iadd, 1) := dk_96 (dk_at dksL_law_3 9 rfl rfl)
theorem dL_law_86 : decode cL_law 86 = .ok (.iaload, 1) := dk_46 (dk_at dksL_law_3 10 rfl rfl)
theorem dL_law_87 : decode cL_law 87 = .ok (.aload_n 0, 1) := dk_42 (dk_at dksL_law_3 11 rfl rfl)
theorem dL_law_88 : decode cL_law 88 = .ok (.iload_n 3, 1) := dk_29 (dk_at dksL_law_3 12 rfl rfl)
theorem dL_law_89 : decode cL_law 89 = .ok (.iconst 3, 1) := dk_6 (dk_at dksL_law_3 13 rfl rfl)
theorem dL_law_90 : decode cL_law 90 = .ok (.iadd, 1) := dk_96 (dk_at dksL_law_3 14 rfl rfl)
theorem dL_law_91 : decode cL_law 91 = .ok (.iaload, 1) := dk_46 (dk_at dksL_law_3 15 rfl rfl)
theorem dL_law_92 : decode cL_law 92 = .ok (.aload_n 0, 1) := dk_42 (dk_at dksL_law_3 16 rfl rfl)
theorem dL_law_93 : decode cL_law 93 = .ok (.iload_n 3, 1) := dk_29 (dk_at dksL_law_3 17 rfl rfl)
theorem dL_law_94 : decode cL_law 94 = .ok (.iconst 4, 1) := dk_7 (dk_at dksL_law_3 18 rfl rfl)
theorem dL_law_95 : decode cL_law 95 = .ok (.iadd, 1) := dk_96 (dk_at dksL_law_3 19 rfl rfl)
theorem dL_law_96 : decode cL_law 96 = .ok (.iaload, 1) := dk_46 (dk_at dksL_law_3 20 rfl rfl)
theorem dL_law_97 : decode cL_law 97 = .ok (.invokevirtual 13, 3) := dk_182 0 13 (dk_at dksL_law_3 21 rfl rfl)
theorem dL_law_100 : decode cL_law 100 = .ok (.aload_n 2, 1) := dk_44 (dk_at dksL_law_4 0 rfl rfl)
theorem dL_law_101 : decode cL_law 101 = .ok (.aload_n 0, 1) := dk_42 (dk_at dksL_law_4 1 rfl rfl)
theorem dL_law_102 : decode cL_law 102 = .ok (.iload_n 3, 1) := dk_29 (dk_at dksL_law_4 2 rfl rfl)
theorem dL_law_103 : decode cL_law 103 = .ok (.iconst 1, 1) := dk_4 (dk_at dksL_law_4 3 rfl rfl)
theorem dL_law_104 : decode cL_law 104 = .ok (.iadd, 1) := dk_96 (dk_at dksL_law_4 4 rfl rfl)
theorem dL_law_105 : decode cL_law 105 = .ok (.iaload, 1) := dk_46 (dk_at dksL_law_4 5 rfl rfl)
theorem dL_law_106 : decode cL_law 106 = .ok (.aload_n 0, 1) := dk_42 (dk_at dksL_law_4 6 rfl rfl)
theorem dL_law_107 : decode cL_law 107 = .ok (.iload_n 3, 1) := dk_29 (dk_at dksL_law_4 7 rfl rfl)
theorem dL_law_108 : decode cL_law 108 = .ok (.iconst 2, 1) := dk_5 (dk_at dksL_law_4 8 rfl rfl)
theorem dL_law_109 : decode cL_law 109 = .ok (.iadd, 1) := dk_96 (dk_at dksL_law_4 9 rfl rfl)
theorem dL_law_110 : decode cL_law 110 = .ok (.iaload, 1) := dk_46 (dk_at dksL_law_4 10 rfl rfl)
theorem dL_law_111 : decode cL_law 111 = .ok (.aload_n 0, 1) := dk_42 (dk_at dksL_law_4 11 rfl rfl)
theorem dL_law_112 : decode cL_law 112 = .ok (.iload_n 3, 1) := dk_29 (dk_at dksL_law_4 12 rfl rfl)
theorem dL_law_113 : decode cL_law 113 = .ok (.iconst 3, 1) := dk_6 (dk_at dksL_law_4 13 rfl rfl)
theorem dL_law_114 : decode cL_law 114 = .ok (.iadd, 1) := dk_96 (dk_at dksL_law_4 14 rfl rfl)
theorem dL_law_115 : decode cL_law 115 = .ok (.iaload, 1) := dk_46 (dk_at dksL_law_4 15 rfl rfl)
theorem dL_law_116 : decode cL_law 116 = .ok (.aload_n 0, 1) := dk_42 (dk_at dksL_law_4 16 rfl rfl)
theorem dL_law_117 : decode cL_law 117 = .ok (.iload_n 3, 1) := dk_29 (dk_at dksL_law_4 17 rfl rfl)
theorem dL_law_118 : decode cL_law 118 = .ok (.iconst 4, 1) := dk_7 (dk_at dksL_law_4 18 rfl rfl)
theorem dL_law_119 : decode cL_law 119 = .ok (.iadd, 1) := dk_96 (dk_at dksL_law_4 19 rfl rfl)
theorem dL_law_120 : decode cL_law 120 = .ok (.iaload, 1) := dk_46 (dk_at dksL_law_4 20 rfl rfl)
theorem dL_law_121 : decode cL_law 121 = .ok (.invokevirtual 17, 3) := dk_182 0 17 (dk_at dksL_law_4 21 rfl rfl)
theorem dL_law_124 : decode cL_law 124 = .ok (.if_icmp .eq 195, 3) := dk_159 0 195 (dk_at dksL_law_5 0 rfl rfl)
theorem dL_law_127 : decode cL_law 127 = .ok (.iconst 0, 1) := dk_3 (dk_at dksL_law_5 3 rfl rfl)
theorem dL_law_128 : decode cL_law 128 = .ok (.ireturn, 1) := dk_172 (dk_at dksL_law_5 4 rfl rfl)
theorem dL_law_129 : decode cL_law 129 = .ok (.aload_n 1, 1) := dk_43 (dk_at dksL_law_5 5 rfl rfl)
theorem dL_law_130 : decode cL_law 130 = .ok (.aload_n 0, 1) := dk_42 (dk_at dksL_law_5 6 rfl rfl)
theorem dL_law_131 : decode cL_law 131 = .ok (.iload_n 3, 1) := dk_29 (dk_at dksL_law_5 7 rfl rfl)
theorem dL_law_132 : decode cL_law 132 = .ok (.iconst 1, 1) := dk_4 (dk_at dksL_law_5 8 rfl rfl)
theorem dL_law_133 : decode cL_law 133 = .ok (.iadd, 1) := dk_96 (dk_at dksL_law_5 9 rfl rfl)
theorem dL_law_134 : decode cL_law 134 = .ok (.iaload, 1) := dk_46 (dk_at dksL_law_5 10 rfl rfl)
theorem dL_law_135 : decode cL_law 135 = .ok (.invokevirtual 18, 3) := dk_182 0 18 (dk_at dksL_law_5 11 rfl rfl)
theorem dL_law_138 : decode cL_law 138 = .ok (.aload_n 2, 1) := dk_44 (dk_at dksL_law_5 14 rfl rfl)
theorem dL_law_139 : decode cL_law 139 = .ok (.aload_n 0, 1) := dk_42 (dk_at dksL_law_5 15 rfl rfl)
theorem dL_law_140 : decode cL_law 140 = .ok (.iload_n 3, 1) := dk_29 (dk_at dksL_law_5 16 rfl rfl)
theorem dL_law_141 : decode cL_law 141 = .ok (.iconst 1, 1) := dk_4 (dk_at dksL_law_5 17 rfl rfl)
theorem dL_law_142 : decode cL_law 142 = .ok (.iadd, 1) := dk_96 (dk_at dksL_law_5 18 rfl rfl)
theorem dL_law_143 : decode cL_law 143 = .ok (.iaload, 1) := dk_46 (dk_at dksL_law_5 19 rfl rfl)
theorem dL_law_144 : decode cL_law 144 = .ok (.invokevirtual 22, 3) := dk_182 0 22 (dk_at dksL_law_5 20 rfl rfl)
theorem dL_law_147 : decode cL_law 147 = .ok (.goto 172, 3) := dk_167 0 172 (dk_at dksL_law_6 0 rfl rfl)
theorem dL_law_150 : decode cL_law 150 = .ok (.aload_n 1, 1) := dk_43 (dk_at dksL_law_6 3 rfl rfl)
theorem dL_law_151 : decode cL_law 151 = .ok (.invokevirtual 23, 3) := dk_182 0 23 (dk_at dksL_law_6 4 rfl rfl)
theorem dL_law_154 : decode cL_law 154 = .ok (.aload_n 2, 1) := dk_44 (dk_at dksL_law_6 7 rfl rfl)
theorem dL_law_155 : decode cL_law 155 = .ok (.invokevirtual 27, 3) := dk_182 0 27 (dk_at dksL_law_6 8 rfl rfl)
theorem dL_law_158 : decode cL_law 158 = .ok (.if_icmp .eq 161, 3) := dk_159 0 161 (dk_at dksL_law_6 11 rfl rfl)
theorem dL_law_161 : decode cL_law 161 = .ok (.iconst 0, 1) := dk_3 (dk_at dksL_law_6 14 rfl rfl)
theorem dL_law_162 : decode cL_law 162 = .ok (.ireturn, 1) := dk_172 (dk_at dksL_law_6 15 rfl rfl)
theorem dL_law_163 : decode cL_law 163 = .ok (.aload_n 1, 1) := dk_43 (dk_at dksL_law_6 16 rfl rfl)
theorem dL_law_164 : decode cL_law 164 = .ok (.aload_n 0, 1) := dk_42 (dk_at dksL_law_6 17 rfl rfl)
theorem dL_law_165 : decode cL_law 165 = .ok (.iload_n 3, 1) := dk_29 (dk_at dksL_law_6 18 rfl rfl)
theorem dL_law_166 : decode cL_law 166 = .ok (.iconst 1, 1) := dk_4 (dk_at dksL_law_6 19 rfl rfl)
theorem dL_law_167 : decode cL_law 167 = .ok (.iadd, 1) := dk_96 (dk_at dksL_law_6 20 rfl rfl)
theorem dL_law_168 : decode cL_law 168 = .ok (.iaload, 1) := dk_46 (dk_at dksL_law_6 21 rfl rfl)
theorem dL_law_169 : decode cL_law 169 = .ok (.aload_n 0, 1) := dk_42 (dk_at dksL_law_6 22 rfl rfl)
theorem dL_law_170 : decode cL_law 170 = .ok (.iload_n 3, 1) := dk_29 (dk_at dksL_law_6 23 rfl rfl)
theorem dL_law_171 : decode cL_law 171 = .ok (.iconst 2, 1) := dk_5 (dk_at dksL_law_7 0 rfl rfl)
theorem dL_law_172 : decode cL_law 172 = .ok (.iadd, 1) := dk_96 (dk_at dksL_law_7 1 rfl rfl)
theorem dL_law_173 : decode cL_law 173 = .ok (.iaload, 1) := dk_46 (dk_at dksL_law_7 2 rfl rfl)
theorem dL_law_174 : decode cL_law 174 = .ok (.invokevirtual 28, 3) := dk_182 0 28 (dk_at dksL_law_7 3 rfl rfl)
theorem dL_law_177 : decode cL_law 177 = .ok (.aload_n 2, 1) := dk_44 (dk_at dksL_law_7 6 rfl rfl)
theorem dL_law_178 : decode cL_law 178 = .ok (.aload_n 0, 1) := dk_42 (dk_at dksL_law_7 7 rfl rfl)
theorem dL_law_179 : decode cL_law 179 = .ok (.iload_n 3, 1) := dk_29 (dk_at dksL_law_7 8 rfl rfl)
theorem dL_law_180 : decode cL_law 180 = .ok (.iconst 1, 1) := dk_4 (dk_at dksL_law_7 9 rfl rfl)
theorem dL_law_181 : decode cL_law 181 = .ok (.iadd, 1) := dk_96 (dk_at dksL_law_7 10 rfl rfl)
theorem dL_law_182 : decode cL_law 182 = .ok (.iaload, 1) := dk_46 (dk_at dksL_law_7 11 rfl rfl)
theorem dL_law_183 : decode cL_law 183 = .ok (.aload_n 0, 1) := dk_42 (dk_at dksL_law_7 12 rfl rfl)
theorem dL_law_184 : decode cL_law 184 = .ok (.iload_n 3, 1) := dk_29 (dk_at dksL_law_7 13 rfl rfl)
theorem dL_law_185 : decode cL_law 185 = .ok (.iconst 2, 1) := dk_5 (dk_at dksL_law_7 14 rfl rfl)
theorem dL_law_186 : decode cL_law 186 = .ok (.iadd, 1) := dk_96 (dk_at dksL_law_7 15 rfl rfl)
theorem dL_law_187 : decode cL_law 187 = .ok (.iaload, 1) := dk_46 (dk_at dksL_law_7 16 rfl rfl)
theorem dL_law_188 : decode cL_law 188 = .ok (.invokevirtual 32, 3) := dk_182 0 32 (dk_at dksL_law_7 17 rfl rfl)
theorem dL_law_191 : decode cL_law 191 = .ok (.lcmp, 1) := dk_148 (dk_at dksL_law_7 20 rfl rfl)
theorem dL_law_192 : decode cL_law 192 = .ok (.ifCond .eq 127, 3) := dk_153 0 127 (dk_at dksL_law_7 21 rfl rfl)
theorem dL_law_195 : decode cL_law 195 = .ok (.iconst 0, 1) := dk_3 (dk_at dksL_law_8 0 rfl rfl)
theorem dL_law_196 : decode cL_law 196 = .ok (.ireturn, 1) := dk_172 (dk_at dksL_law_8 1 rfl rfl)
theorem dL_law_197 : decode cL_law 197 = .ok (.aload_n 1, 1) := dk_43 (dk_at dksL_law_8 2 rfl rfl)
theorem dL_law_198 : decode cL_law 198 = .ok (.aload_n 0, 1) := dk_42 (dk_at dksL_law_8 3 rfl rfl)
theorem dL_law_199 : decode cL_law 199 = .ok (.iload_n 3, 1) := dk_29 (dk_at dksL_law_8 4 rfl rfl)
theorem dL_law_200 : decode cL_law 200 = .ok (.iconst 1, 1) := dk_4 (dk_at dksL_law_8 5 rfl rfl)
theorem dL_law_201 : decode cL_law 201 = .ok (.iadd, 1) := dk_96 (dk_at dksL_law_8 6 rfl rfl)
theorem dL_law_202 : decode cL_law 202 = .ok (.iaload, 1) := dk_46 (dk_at dksL_law_8 7 rfl rfl)
theorem dL_law_203 : decode cL_law 203 = .ok (.aload_n 0, 1) := dk_42 (dk_at dksL_law_8 8 rfl rfl)
theorem dL_law_204 : decode cL_law 204 = .ok (.iload_n 3, 1) := dk_29 (dk_at dksL_law_8 9 rfl rfl)
theorem dL_law_205 : decode cL_law 205 = .ok (.iconst 2, 1) := dk_5 (dk_at dksL_law_8 10 rfl rfl)
theorem dL_law_206 : decode cL_law 206 = .ok (.iadd, 1) := dk_96 (dk_at dksL_law_8 11 rfl rfl)
theorem dL_law_207 : decode cL_law 207 = .ok (.iaload, 1) := dk_46 (dk_at dksL_law_8 12 rfl rfl)
theorem dL_law_208 : decode cL_law 208 = .ok (.invokevirtual 33, 3) := dk_182 0 33 (dk_at dksL_law_8 13 rfl rfl)
theorem dL_law_211 : decode cL_law 211 = .ok (.aload_n 2, 1) := dk_44 (dk_at dksL_law_8 16 rfl rfl)
theorem dL_law_212 : decode cL_law 212 = .ok (.aload_n 0, 1) := dk_42 (dk_at dksL_law_8 17 rfl rfl)
theorem dL_law_213 : decode cL_law 213 = .ok (.iload_n 3, 1) := dk_29 (dk_at dksL_law_8 18 rfl rfl)
theorem dL_law_214 : decode cL_law 214 = .ok (.iconst 1, 1) := dk_4 (dk_at dksL_law_8 19 rfl rfl)
theorem dL_law_215 : decode cL_law 215 = .ok (.iadd, 1) := dk_96 (dk_at dksL_law_8 20 rfl rfl)
theorem dL_law_216 : decode cL_law 216 = .ok (.iaload, 1) := dk_46 (dk_at dksL_law_8 21 rfl rfl)
theorem dL_law_217 : decode cL_law 217 = .ok (.aload_n 0, 1) := dk_42 (dk_at dksL_law_8 22 rfl rfl)
theorem dL_law_218 : decode cL_law 218 = .ok (.iload_n 3, 1) := dk_29 (dk_at dksL_law_8 23 rfl rfl)
theorem dL_law_219 : decode cL_law 219 = .ok (.iconst 2, 1) := dk_5 (dk_at dksL_law_9 0 rfl rfl)
theorem dL_law_220 : decode cL_law 220 = .ok (.iadd, 1) := dk_96 (dk_at dksL_law_9 1 rfl rfl)
theorem dL_law_221 : decode cL_law 221 = .ok (.iaload, 1) := dk_46 (dk_at dksL_law_9 2 rfl rfl)
theorem dL_law_222 : decode cL_law 222 = .ok (.invokevirtual 36, 3) := dk_182 0 36 (dk_at dksL_law_9 3 rfl rfl)
theorem dL_law_225 : decode cL_law 225 = .ok (.lcmp, 1) := dk_148 (dk_at dksL_law_9 6 rfl rfl)
theorem dL_law_226 : decode cL_law 226 = .ok (.ifCond .eq 93, 3) := dk_153 0 93 (dk_at dksL_law_9 7 rfl rfl)
theorem dL_law_229 : decode cL_law 229 = .ok (.iconst 0, 1) := dk_3 (dk_at dksL_law_9 10 rfl rfl)
theorem dL_law_230 : decode cL_law 230 = .ok (.ireturn, 1) := dk_172 (dk_at dksL_law_9 11 rfl rfl)
theorem dL_law_231 : decode cL_law 231 = .ok (.aload_n 1, 1) := dk_43 (dk_at dksL_law_9 12 rfl rfl)
theorem dL_law_232 : decode cL_law 232 = .ok (.aload_n 0, 1) := dk_42 (dk_at dksL_law_9 13 rfl rfl)
theorem dL_law_233 : decode cL_law 233 = .ok (.iload_n 3, 1) := dk_29 (dk_at dksL_law_9 14 rfl rfl)
theorem dL_law_234 : decode cL_law 234 = .ok (.iconst 1, 1) := dk_4 (dk_at dksL_law_9 15 rfl rfl)
theorem dL_law_235 : decode cL_law 235 = .ok (.iadd, 1) := dk_96 (dk_at dksL_law_9 16 rfl rfl)
theorem dL_law_236 : decode cL_law 236 = .ok (.iaload, 1) := dk_46 (dk_at dksL_law_9 17 rfl rfl)
theorem dL_law_237 : decode cL_law 237 = .ok (.aload_n 0, 1) := dk_42 (dk_at dksL_law_9 18 rfl rfl)
theorem dL_law_238 : decode cL_law 238 = .ok (.iload_n 3, 1) := dk_29 (dk_at dksL_law_9 19 rfl rfl)
theorem dL_law_239 : decode cL_law 239 = .ok (.iconst 2, 1) := dk_5 (dk_at dksL_law_9 20 rfl rfl)
theorem dL_law_240 : decode cL_law 240 = .ok (.iadd, 1) := dk_96 (dk_at dksL_law_9 21 rfl rfl)
theorem dL_law_241 : decode cL_law 241 = .ok (.iaload, 1) := dk_46 (dk_at dksL_law_9 22 rfl rfl)
theorem dL_law_242 : decode cL_law 242 = .ok (.aload_n 0, 1) := dk_42 (dk_at dksL_law_9 23 rfl rfl)
theorem dL_law_243 : decode cL_law 243 = .ok (.iload_n 3, 1) := dk_29 (dk_at dksL_law_10 0 rfl rfl)
theorem dL_law_244 : decode cL_law 244 = .ok (.iconst 3, 1) := dk_6 (dk_at dksL_law_10 1 rfl rfl)
theorem dL_law_245 : decode cL_law 245 = .ok (.iadd, 1) := dk_96 (dk_at dksL_law_10 2 rfl rfl)
theorem dL_law_246 : decode cL_law 246 = .ok (.iaload, 1) := dk_46 (dk_at dksL_law_10 3 rfl rfl)
theorem dL_law_247 : decode cL_law 247 = .ok (.invokevirtual 37, 3) := dk_182 0 37 (dk_at dksL_law_10 4 rfl rfl)
theorem dL_law_250 : decode cL_law 250 = .ok (.aload_n 2, 1) := dk_44 (dk_at dksL_law_10 7 rfl rfl)
theorem dL_law_251 : decode cL_law 251 = .ok (.aload_n 0, 1) := dk_42 (dk_at dksL_law_10 8 rfl rfl)
theorem dL_law_252 : decode cL_law 252 = .ok (.iload_n 3, 1) := dk_29 (dk_at dksL_law_10 9 rfl rfl)
theorem dL_law_253 : decode cL_law 253 = .ok (.iconst 1, 1) := dk_4 (dk_at dksL_law_10 10 rfl rfl)
theorem dL_law_254 : decode cL_law 254 = .ok (.iadd, 1) := dk_96 (dk_at dksL_law_10 11 rfl rfl)
theorem dL_law_255 : decode cL_law 255 = .ok (.iaload, 1) := dk_46 (dk_at dksL_law_10 12 rfl rfl)
theorem dL_law_256 : decode cL_law 256 = .ok (.aload_n 0, 1) := dk_42 (dk_at dksL_law_10 13 rfl rfl)
theorem dL_law_257 : decode cL_law 257 = .ok (.iload_n 3, 1) := dk_29 (dk_at dksL_law_10 14 rfl rfl)
theorem dL_law_258 : decode cL_law 258 = .ok (.iconst 2, 1) := dk_5 (dk_at dksL_law_10 15 rfl rfl)
theorem dL_law_259 : decode cL_law 259 = .ok (.iadd, 1) := dk_96 (dk_at dksL_law_10 16 rfl rfl)
theorem dL_law_260 : decode cL_law 260 = .ok (.iaload, 1) := dk_46 (dk_at dksL_law_10 17 rfl rfl)
theorem dL_law_261 : decode cL_law 261 = .ok (.aload_n 0, 1) := dk_42 (dk_at dksL_law_10 18 rfl rfl)
theorem dL_law_262 : decode cL_law 262 = .ok (.iload_n 3, 1) := dk_29 (dk_at dksL_law_10 19 rfl rfl)
theorem dL_law_263 : decode cL_law 263 = .ok (.iconst 3, 1) := dk_6 (dk_at dksL_law_10 20 rfl rfl)
theorem dL_law_264 : decode cL_law 264 = .ok (.iadd, 1) := dk_96 (dk_at dksL_law_10 21 rfl rfl)
theorem dL_law_265 : decode cL_law 265 = .ok (.iaload, 1) := dk_46 (dk_at dksL_law_10 22 rfl rfl)
theorem dL_law_266 : decode cL_law 266 = .ok (.invokevirtual 41, 3) := dk_182 0 41 (dk_at dksL_law_11 0 rfl rfl)
theorem dL_law_269 : decode cL_law 269 = .ok (.lcmp, 1) := dk_148 (dk_at dksL_law_11 3 rfl rfl)
theorem dL_law_270 : decode cL_law 270 = .ok (.ifCond .eq 49, 3) := dk_153 0 49 (dk_at dksL_law_11 4 rfl rfl)
theorem dL_law_273 : decode cL_law 273 = .ok (.iconst 0, 1) := dk_3 (dk_at dksL_law_11 7 rfl rfl)
theorem dL_law_274 : decode cL_law 274 = .ok (.ireturn, 1) := dk_172 (dk_at dksL_law_11 8 rfl rfl)
theorem dL_law_275 : decode cL_law 275 = .ok (.aload_n 1, 1) := dk_43 (dk_at dksL_law_11 9 rfl rfl)
theorem dL_law_276 : decode cL_law 276 = .ok (.aload_n 0, 1) := dk_42 (dk_at dksL_law_11 10 rfl rfl)
theorem dL_law_277 : decode cL_law 277 = .ok (.iload_n 3, 1) := dk_29 (dk_at dksL_law_11 11 rfl rfl)
theorem dL_law_278 : decode cL_law 278 = .ok (.iconst 1, 1) := dk_4 (dk_at dksL_law_11 12 rfl rfl)
theorem dL_law_279 : decode cL_law 279 = .ok (.iadd, 1) := dk_96 (dk_at dksL_law_11 13 rfl rfl)
theorem dL_law_280 : decode cL_law 280 = .ok (.iaload, 1) := dk_46 (dk_at dksL_law_11 14 rfl rfl)
theorem dL_law_281 : decode cL_law 281 = .ok (.aload_n 0, 1) := dk_42 (dk_at dksL_law_11 15 rfl rfl)
theorem dL_law_282 : decode cL_law 282 = .ok (.iload_n 3, 1) := dk_29 (dk_at dksL_law_11 16 rfl rfl)
theorem dL_law_283 : decode cL_law 283 = .ok (.iconst 2, 1) := dk_5 (dk_at dksL_law_11 17 rfl rfl)
theorem dL_law_284 : decode cL_law 284 = .ok (.iadd, 1) := dk_96 (dk_at dksL_law_11 18 rfl rfl)
theorem dL_law_285 : decode cL_law 285 = .ok (.iaload, 1) := dk_46 (dk_at dksL_law_11 19 rfl rfl)
theorem dL_law_286 : decode cL_law 286 = .ok (.aload_n 0, 1) := dk_42 (dk_at dksL_law_11 20 rfl rfl)
theorem dL_law_287 : decode cL_law 287 = .ok (.iload_n 3, 1) := dk_29 (dk_at dksL_law_11 21 rfl rfl)
theorem dL_law_288 : decode cL_law 288 = .ok (.iconst 3, 1) := dk_6 (dk_at dksL_law_11 22 rfl rfl)
theorem dL_law_289 : decode cL_law 289 = .ok (.iadd, 1) := dk_96 (dk_at dksL_law_11 23 rfl rfl)
theorem dL_law_290 : decode cL_law 290 = .ok (.iaload, 1) := dk_46 (dk_at dksL_law_12 0 rfl rfl)
theorem dL_law_291 : decode cL_law 291 = .ok (.invokevirtual 42, 3) := dk_182 0 42 (dk_at dksL_law_12 1 rfl rfl)
theorem dL_law_294 : decode cL_law 294 = .ok (.aload_n 2, 1) := dk_44 (dk_at dksL_law_12 4 rfl rfl)
theorem dL_law_295 : decode cL_law 295 = .ok (.aload_n 0, 1) := dk_42 (dk_at dksL_law_12 5 rfl rfl)
theorem dL_law_296 : decode cL_law 296 = .ok (.iload_n 3, 1) := dk_29 (dk_at dksL_law_12 6 rfl rfl)
theorem dL_law_297 : decode cL_law 297 = .ok (.iconst 1, 1) := dk_4 (dk_at dksL_law_12 7 rfl rfl)
theorem dL_law_298 : decode cL_law 298 = .ok (.iadd, 1) := dk_96 (dk_at dksL_law_12 8 rfl rfl)
theorem dL_law_299 : decode cL_law 299 = .ok (.iaload, 1) := dk_46 (dk_at dksL_law_12 9 rfl rfl)
theorem dL_law_300 : decode cL_law 300 = .ok (.aload_n 0, 1) := dk_42 (dk_at dksL_law_12 10 rfl rfl)
theorem dL_law_301 : decode cL_law 301 = .ok (.iload_n 3, 1) := dk_29 (dk_at dksL_law_12 11 rfl rfl)
theorem dL_law_302 : decode cL_law 302 = .ok (.iconst 2, 1) := dk_5 (dk_at dksL_law_12 12 rfl rfl)
theorem dL_law_303 : decode cL_law 303 = .ok (.iadd, 1) := dk_96 (dk_at dksL_law_12 13 rfl rfl)
theorem dL_law_304 : decode cL_law 304 = .ok (.iaload, 1) := dk_46 (dk_at dksL_law_12 14 rfl rfl)
theorem dL_law_305 : decode cL_law 305 = .ok (.aload_n 0, 1) := dk_42 (dk_at dksL_law_12 15 rfl rfl)
theorem dL_law_306 : decode cL_law 306 = .ok (.iload_n 3, 1) := dk_29 (dk_at dksL_law_12 16 rfl rfl)
theorem dL_law_307 : decode cL_law 307 = .ok (.iconst 3, 1) := dk_6 (dk_at dksL_law_12 17 rfl rfl)
theorem dL_law_308 : decode cL_law 308 = .ok (.iadd, 1) := dk_96 (dk_at dksL_law_12 18 rfl rfl)
theorem dL_law_309 : decode cL_law 309 = .ok (.iaload, 1) := dk_46 (dk_at dksL_law_12 19 rfl rfl)
theorem dL_law_310 : decode cL_law 310 = .ok (.invokevirtual 45, 3) := dk_182 0 45 (dk_at dksL_law_12 20 rfl rfl)
theorem dL_law_313 : decode cL_law 313 = .ok (.lcmp, 1) := dk_148 (dk_at dksL_law_12 23 rfl rfl)
theorem dL_law_314 : decode cL_law 314 = .ok (.ifCond .eq 5, 3) := dk_153 0 5 (dk_at dksL_law_13 0 rfl rfl)
theorem dL_law_317 : decode cL_law 317 = .ok (.iconst 0, 1) := dk_3 (dk_at dksL_law_13 3 rfl rfl)
theorem dL_law_318 : decode cL_law 318 = .ok (.ireturn, 1) := dk_172 (dk_at dksL_law_13 4 rfl rfl)
theorem dL_law_319 : decode cL_law 319 = .ok (.iinc 3 6, 3) := dk_132 3 6 (dk_at dksL_law_13 5 rfl rfl)
theorem dL_law_322 : decode cL_law 322 = .ok (.goto (-304), 3) := dk_167 254 208 (dk_at dksL_law_13 8 rfl rfl)
theorem dL_law_325 : decode cL_law 325 = .ok (.iconst 1, 1) := dk_4 (dk_at dksL_law_13 11 rfl rfl)
theorem dL_law_326 : decode cL_law 326 = .ok (.ireturn, 1) := dk_172 (dk_at dksL_law_13 12 rfl rfl)
end
section
/-! ===== Int32 by its bits: bt x i ===== -/
def bt (x : Int32) (i : Nat) : Bool := x.toBitVec.getLsbD i
theorem b_ext {x y : Int32} (h : ∀ i, i < 32 → bt x i = bt y i) : x = y := Int32.toBitVec_inj.mp (BitVec.eq_of_getLsbD_eq (fun i hi => h i hi))
theorem b_or (x y : Int32) (i : Nat) : bt (x ||| y) i = (bt x i || bt y i) := by unfold bt; rw [Int32.toBitVec_or, BitVec.getLsbD_or]
theorem b_and (x y : Int32) (i : Nat) : bt (x &&& y) i = (bt x i && bt y i) := by unfold bt; rw [Int32.toBitVec_and, BitVec.getLsbD_and]
theorem b_xor (x y : Int32) (i : Nat) : bt (x ^^^ y) i = (bt x i ^^ bt y i) := by unfold bt; rw [Int32.toBitVec_xor, BitVec.getLsbD_xor]
theorem b_big {x : Int32} {i : Nat} (h : 32 ≤ i) : bt x i = false := BitVec.getLsbD_of_ge _ _ h
theorem b_255 (i : Nat) : bt 255 i = decide (i < 8) := by
  rcases Nat.lt_or_ge i 32 with h | h
  · exact (by decide +kernel : ∀ i, i < 32 → bt 255 i = decide (i < 8)) i h
  · rw [b_big h, decide_eq_false (by omega)]
theorem b_65535 (i : Nat) : bt 65535 i = decide (i < 16) := by
  rcases Nat.lt_or_ge i 32 with h | h
  · exact (by decide +kernel : ∀ i, i < 32 → bt 65535 i = decide (i < 16)) i h
  · rw [b_big h, decide_eq_false (by omega)]
theorem b_m1 : ∀ i, i < 32 → bt (-1) i = true := by decide +kernel
theorem b_0 (i : Nat) : bt 0 i = false := BitVec.getLsbD_zero
theorem s_l : ∀ n, n < 32 → ((nI n &&& 31).toBitVec.smod 32).toNat = n := by decide +kernel
theorem s_u : ∀ n, n < 32 → (((nI n).toUInt32 &&& Int32.toUInt32 31).toBitVec % 32).toNat = n := by decide +kernel
theorem b_shl (n : Nat) (hn : n < 32) (x : Int32) {i : Nat} (hi : i < 32) : bt (x <<< (nI n &&& 31)) i = (decide (n ≤ i) && bt x (i - n)) := by
  unfold bt
  rw [Int32.toBitVec_shiftLeft]
  show (x.toBitVec <<< ((nI n &&& 31).toBitVec.smod 32).toNat).getLsbD i = _
  rw [s_l n hn, BitVec.getLsbD_shiftLeft]
  rcases Nat.lt_or_ge i n with h | h
  · simp [h, Nat.not_le.mpr h]
  · simp [hi, h, Nat.not_lt.mpr h]
theorem b_ushr (n : Nat) (hn : n < 32) (x : Int32) (i : Nat) : bt ((x.toUInt32 >>> ((nI n).toUInt32 &&& Int32.toUInt32 31)).toInt32) i = bt x (n + i) := by
  show (x.toUInt32 >>> ((nI n).toUInt32 &&& Int32.toUInt32 31)).toBitVec.getLsbD i = x.toUInt32.toBitVec.getLsbD (n + i)
  rw [UInt32.toBitVec_shiftRight]
  show (x.toUInt32.toBitVec >>> (((nI n).toUInt32 &&& Int32.toUInt32 31).toBitVec % 32).toNat).getLsbD i = _
  rw [s_u n hn, BitVec.getLsbD_ushiftRight]
theorem b_sshr (n : Nat) (hn : n < 32) (x : Int32) {i : Nat} (hi : i < 32) : bt (x >>> (nI n &&& 31)) i = if n + i < 32 then bt x (n + i) else bt x 31 := by
  unfold bt
  rw [Int32.toBitVec_shiftRight]
  show (x.toBitVec.sshiftRight ((nI n &&& 31).toBitVec.smod 32).toNat).getLsbD i = _
  rw [s_l n hn, BitVec.getLsbD_sshiftRight, BitVec.msb_eq_getLsbD_last]
  simp [hi]
theorem b_shl8 (x : Int32) {i : Nat} (hi : i < 32) : bt (x <<< ((8 : Int32) &&& 31)) i = (decide (8 ≤ i) && bt x (i - 8)) := b_shl 8 (by omega) x hi
theorem b_shl16 (x : Int32) {i : Nat} (hi : i < 32) : bt (x <<< ((16 : Int32) &&& 31)) i = (decide (16 ≤ i) && bt x (i - 16)) := b_shl 16 (by omega) x hi
theorem b_shl24 (x : Int32) {i : Nat} (hi : i < 32) : bt (x <<< ((24 : Int32) &&& 31)) i = (decide (24 ≤ i) && bt x (i - 24)) := b_shl 24 (by omega) x hi
theorem b_sshr8 (x : Int32) {i : Nat} (hi : i < 32) : bt (x >>> ((8 : Int32) &&& 31)) i = if 8 + i < 32 then bt x (8 + i) else bt x 31 := b_sshr 8 (by omega) x hi
/-! ===== a byte read unsigned ===== -/
theorem bp_b (x : Int32) : x.toInt8.toInt32 &&& 255 = x &&& 255 := by
  apply Int32.toBitVec_inj.mp
  rw [Int32.toBitVec_and, Int32.toBitVec_and, Int8.toBitVec_toInt32, Int32.toBitVec_toInt8]
  apply BitVec.eq_of_getLsbD_eq
  intro i hi
  rw [BitVec.getLsbD_and, BitVec.getLsbD_and]
  have hm : ∀ i < 32, 8 ≤ i → (255 : Int32).toBitVec.getLsbD i = false := by decide
  rcases Nat.lt_or_ge i 8 with z | z
  · rw [BitVec.getLsbD_signExtend, BitVec.getLsbD_signExtend, if_pos z, if_pos hi]
    simp only [z, hi, decide_true, Bool.true_and]
  · rw [hm i hi z]; simp
/-! ===== lN n to 2^64: shifts, and, or, masks, one bit ===== -/
theorem wb_tb (n : Nat) : (lN n).toBitVec = BitVec.ofNat 64 n := rfl
theorem wb_inj {a b : Int64} (h : a.toBitVec = b.toBitVec) : a = b := Int64.toBitVec_inj.mp h
theorem wb_tn {n : Nat} (h : n < 2 ^ 64) : (lN n).toBitVec.toNat = n := by rw [wb_tb, BitVec.toNat_ofNat, Nat.mod_eq_of_lt h]
theorem wb_of (x : Int64) : ∃ n, n < 2 ^ 64 ∧ x = lN n := ⟨x.toBitVec.toNat, x.toBitVec.isLt, wb_inj (by rw [wb_tb]; simp)⟩
theorem wb_of32 (x : Int32) : ∃ n, n < 2 ^ 32 ∧ x = nI n := ⟨x.toBitVec.toNat, x.toBitVec.isLt, Int32.toBitVec_inj.mp (by show _ = BitVec.ofNat 32 _; simp)⟩
theorem wb_c : ∀ k, k < 64 → ((nI k).toInt64 &&& 63) = lN k := by decide +kernel
theorem wb_cu : ∀ k, k < 64 → ((nI k).toInt64.toUInt64 &&& Int64.toUInt64 63) = UInt64.ofNat k := by decide +kernel
theorem wb_sm : ∀ k, k < 64 → (BitVec.ofNat 64 k).smod 64 = BitVec.ofNat 64 k := by decide +kernel
theorem wb_pw {a b : Nat} (h : a ≤ b) : 2 ^ b = 2 ^ a * 2 ^ (b - a) := by rw [← Nat.pow_add]; congr 1; omega
theorem wb_lt2 {a b : Nat} (h : a < b) : 2 ^ a < 2 ^ b := Nat.pow_lt_pow_right (by decide) h
theorem wb_mod (n : Nat) : lN n = lN (n % 2 ^ 64) := wb_inj (by rw [wb_tb, wb_tb]; apply BitVec.eq_of_toNat_eq; rw [BitVec.toNat_ofNat, BitVec.toNat_ofNat, Nat.mod_mod])
theorem wb_shr {n k : Nat} (hn : n < 2 ^ 64) (hk : k < 64) : ((lN n).toUInt64 >>> ((nI k).toInt64.toUInt64 &&& Int64.toUInt64 63)).toInt64 = lN (n / 2 ^ k) := by
  rw [wb_cu k hk]
  apply wb_inj
  apply BitVec.eq_of_toNat_eq
  show ((lN n).toUInt64 >>> UInt64.ofNat k).toNat = (BitVec.ofNat 64 _).toNat
  have h1 : (UInt64.ofNat k).toNat = k := by
    show (BitVec.ofNat 64 k).toNat = k
    rw [BitVec.toNat_ofNat, Nat.mod_eq_of_lt (by omega)]
  have h2 : (lN n).toUInt64.toNat = n := wb_tn hn
  rw [UInt64.toNat_shiftRight, h1, h2, Nat.mod_eq_of_lt hk, Nat.shiftRight_eq_div_pow, BitVec.toNat_ofNat, Nat.mod_eq_of_lt (Nat.lt_of_le_of_lt (Nat.div_le_self _ _) hn)]
theorem wb_shl (n : Nat) {k : Nat} (hk : k < 64) : lN n <<< ((nI k).toInt64 &&& 63) = lN (n * 2 ^ k) := by
  rw [wb_c k hk]
  apply wb_inj
  rw [Int64.toBitVec_shiftLeft, wb_tb, wb_tb, wb_tb, wb_sm k hk]
  apply BitVec.eq_of_toNat_eq
  rw [BitVec.shiftLeft_eq', BitVec.toNat_shiftLeft, BitVec.toNat_ofNat, BitVec.toNat_ofNat, BitVec.toNat_ofNat, Nat.mod_eq_of_lt (show k < 2 ^ 64 by omega), Nat.shiftLeft_eq, Nat.mul_mod, Nat.mod_mod, ← Nat.mul_mod]
theorem wb_and {a b : Nat} (ha : a < 2 ^ 64) (hb : b < 2 ^ 64) : lN a &&& lN b = lN (a &&& b) := by
  apply wb_inj
  rw [Int64.toBitVec_and, wb_tb, wb_tb, wb_tb]
  apply BitVec.eq_of_toNat_eq
  rw [BitVec.toNat_and, BitVec.toNat_ofNat, BitVec.toNat_ofNat, BitVec.toNat_ofNat, Nat.mod_eq_of_lt ha, Nat.mod_eq_of_lt hb, Nat.mod_eq_of_lt (Nat.and_lt_two_pow _ hb)]
theorem wb_or {a b : Nat} (ha : a < 2 ^ 64) (hb : b < 2 ^ 64) : lN a ||| lN b = lN (a ||| b) := by
  apply wb_inj
  rw [Int64.toBitVec_or, wb_tb, wb_tb, wb_tb]
  apply BitVec.eq_of_toNat_eq
  rw [BitVec.toNat_or, BitVec.toNat_ofNat, BitVec.toNat_ofNat, BitVec.toNat_ofNat, Nat.mod_eq_of_lt ha, Nat.mod_eq_of_lt hb, Nat.mod_eq_of_lt (Nat.or_lt_two_pow ha hb)]
theorem wb_mask {n k : Nat} (hn : n < 2 ^ 64) (hk : k < 64) : lN n &&& lN (2 ^ k - 1) = lN (n % 2 ^ k) := by
  rw [wb_and hn (by have := wb_lt2 hk; omega), Nat.and_two_pow_sub_one_eq_mod]
theorem wb_a1 {n : Nat} (hn : n < 2 ^ 64) : lN n &&& 1 = lN (n % 2) := wb_mask (k := 1) hn (by decide)
theorem wb_bit {n k : Nat} (hn : n < 2 ^ 64) (hk : k < 64) : ((lN n).toUInt64 >>> ((nI k).toInt64.toUInt64 &&& Int64.toUInt64 63)).toInt64 &&& 1 = lN (n / 2 ^ k % 2) := by
  rw [wb_shr hn hk, wb_a1 (Nat.lt_of_le_of_lt (Nat.div_le_self _ _) hn)]
theorem wb_xor {q k : Nat} (hk : k < 63) (h : 2 ^ k ≤ q) (h2 : q < 2 ^ (k + 1)) : lN q ^^^ lN (2 ^ k) = lN (q - 2 ^ k) := by
  obtain ⟨r, rfl⟩ : ∃ r, q = 2 ^ k + r := ⟨q - 2 ^ k, by omega⟩
  have hr : r < 2 ^ k := by rw [Nat.pow_succ] at h2; omega
  have hx : (2 ^ k + r) ^^^ 2 ^ k = r := by
    apply Nat.eq_of_testBit_eq
    intro i
    rw [Nat.testBit_xor, Nat.testBit_two_pow]
    rcases Nat.lt_trichotomy i k with h | h | h
    · rw [Nat.testBit_two_pow_add_gt h]
      simp [show ¬ k = i by omega]
    · subst h
      rw [Nat.testBit_two_pow_add_eq]
      simp
    · have a1 : 2 ^ (k + 1) ≤ 2 ^ i := Nat.pow_le_pow_right (by decide) h
      rw [Nat.testBit_lt_two_pow (show 2 ^ k + r < 2 ^ i by omega), Nat.testBit_lt_two_pow (show r < 2 ^ i by omega)]
      simp [show ¬ k = i by omega]
  have b1 := wb_lt2 (show k + 1 < 64 by omega)
  have b2 := wb_lt2 (show k < 64 by omega)
  apply wb_inj
  rw [Int64.toBitVec_xor, wb_tb, wb_tb, wb_tb]
  apply BitVec.eq_of_toNat_eq
  rw [BitVec.toNat_xor, BitVec.toNat_ofNat, BitVec.toNat_ofNat, BitVec.toNat_ofNat, Nat.mod_eq_of_lt (by omega : 2 ^ k + r < 2 ^ 64), Nat.mod_eq_of_lt b2, hx, Nat.add_sub_cancel_left, Nat.mod_eq_of_lt (by omega)]
/-! ===== lN: masks, 'or' of parts that don't overlap is a sum ===== -/
theorem u_tn {n : Nat} (h : n < 2 ^ 64) : (UInt64.ofNat n).toNat = n := Nat.mod_eq_of_lt h
theorem g_and {a b c : Nat} (ha : a < 2 ^ 64) (hb : b < 2 ^ 64) (hc : a &&& b = c) : lN a &&& lN b = lN c := by
  subst hc
  have h : UInt64.ofNat a &&& UInt64.ofNat b = UInt64.ofNat (a &&& b) := UInt64.toNat_inj.mp (by rw [UInt64.toNat_and, u_tn ha, u_tn hb, u_tn (Nat.and_lt_two_pow a hb)])
  have h2 := congrArg UInt64.toInt64 h
  exact h2
theorem g_and1 {a : Nat} (ha : a < 2 ^ 64) : lN a &&& 1 = lN (a % 2) := g_and (b := 1) ha (by decide) (Nat.and_two_pow_sub_one_eq_mod a 1)
theorem g_mask {a s p : Nat} (hp : 2 ^ s = p) (hs : s < 64) (ha : a < 2 ^ 64) : lN a &&& lN (p - 1) = lN (a % p) := by
  subst hp
  have := Nat.pow_lt_pow_right (show 1 < 2 by decide) hs
  exact g_and ha (by omega) (Nat.and_two_pow_sub_one_eq_mod a s)
theorem g_or {k p a b : Nat} (hp : 2 ^ k = p) (ha : a < p) (h : b * p + a < 2 ^ 64) : lN (b * p) ||| lN a = lN (b * p + a) := by
  subst hp
  have h1 : b * 2 ^ k ||| a = b * 2 ^ k + a := by rw [← Nat.shiftLeft_eq, Nat.shiftLeft_add_eq_or_of_lt ha]
  have h3 : UInt64.ofNat (b * 2 ^ k) ||| UInt64.ofNat a = UInt64.ofNat (b * 2 ^ k + a) := UInt64.toNat_inj.mp (by rw [UInt64.toNat_or, u_tn (by omega), u_tn (by omega), u_tn h, h1])
  have h2 := congrArg UInt64.toInt64 h3
  exact h2
theorem g_or' {k p a b : Nat} (hp : 2 ^ k = p) (ha : a < p) (h : a + b * p < 2 ^ 64) : lN a ||| lN (b * p) = lN (a + b * p) := by
  rw [Int64.or_comm, g_or hp ha (by omega), Nat.add_comm]
theorem g_ushr {a k p : Nat} {y : UInt64} (hy : y = UInt64.ofNat k) (hk : k < 64) (hp : 2 ^ k = p) (ha : a < 2 ^ 64) : ((lN a).toUInt64 >>> y).toInt64 = lN (a / p) := by
  subst hy hp
  have h : UInt64.ofNat a >>> UInt64.ofNat k = UInt64.ofNat (a / 2 ^ k) := UInt64.toNat_inj.mp (by rw [UInt64.toNat_shiftRight, u_tn ha, u_tn (by omega), u_tn (Nat.lt_of_le_of_lt (Nat.div_le_self _ _) ha), Nat.mod_eq_of_lt hk, Nat.shiftRight_eq_div_pow])
  have h2 := congrArg UInt64.toInt64 h
  exact h2
theorem g_shl {a k p : Nat} {y : Int64} (hy : y.toBitVec.smod 64 = BitVec.ofNat 64 k) (hk : k < 64) (hp : 2 ^ k = p) (ha : a < 2 ^ 64) : lN a <<< y = lN (a * p) := by
  subst hp
  apply Int64.toBitVec_inj.mp
  rw [Int64.toBitVec_shiftLeft, hy]
  apply BitVec.eq_of_toNat_eq
  have hb : (lN a).toBitVec.toNat = a := Nat.mod_eq_of_lt ha
  have hk' : (BitVec.ofNat 64 k).toNat = k := Nat.mod_eq_of_lt (by omega)
  have h : ((lN a).toBitVec <<< BitVec.ofNat 64 k).toNat = (a * 2 ^ k) % 2 ^ 64 := by simp only [BitVec.shiftLeft_eq', BitVec.toNat_shiftLeft, hb, hk', Nat.shiftLeft_eq]
  exact h
/-! ===== lN to 2^62 under >> and >>> ===== -/
theorem pf_lI {a : Nat} (h : a < 2 ^ 63) : (lN a).toInt = (a : Int) := lg_ofNat_toInt h
theorem pf_shr {a d : Nat} {D : Int64} (hD : (D.toBitVec.smod 64).toNat = d) (h : a < 2 ^ 62) : lN a >>> D = lN (a / 2 ^ d) := by
  have hd : a / 2 ^ d ≤ a := Nat.div_le_self _ _
  apply Int64.toInt_inj.mp
  have e : (lN a >>> D).toInt = (lN a).toInt >>> d := by
    rw [← hD]
    exact BitVec.toInt_sshiftRight ..
  rw [e, Int.shiftRight_eq_div_pow, pf_lI (by omega), pf_lI (by omega)]
  rfl
theorem pf_ushr {a d : Nat} {D : UInt64} (hD : D.toNat % 64 = d) (h : a < 2 ^ 62) : ((lN a).toUInt64 >>> D).toInt64 = lN (a / 2 ^ d) := by
  have hd : a / 2 ^ d ≤ a := Nat.div_le_self _ _
  have e : (lN a).toUInt64 >>> D = UInt64.ofNat (a / 2 ^ d) := UInt64.toNat_inj.mp (by
    rw [UInt64.toNat_shiftRight, hD, Nat.shiftRight_eq_div_pow, UInt64.toNat_ofNat']
    show (UInt64.ofNat a).toNat / 2 ^ d = _
    rw [UInt64.toNat_ofNat', Nat.mod_eq_of_lt (by omega), Nat.mod_eq_of_lt (by omega)])
  rw [e]
  rfl
theorem pf_andw (x : Int64) : ∃ m, m < 2 ^ 32 ∧ x &&& 4294967295 = lN m := ⟨x.toBitVec.toNat % 2 ^ 32, Nat.mod_lt _ (by decide), Int64.toBitVec_inj.mp (BitVec.eq_of_toNat_eq (by
  show (x.toBitVec &&& 4294967295#64).toNat = (BitVec.ofNat 64 (x.toBitVec.toNat % 2 ^ 32)).toNat
  rw [BitVec.toNat_and, show (4294967295#64).toNat = 2 ^ 32 - 1 from by decide, Nat.and_two_pow_sub_one_eq_mod, BitVec.toNat_ofNat]
  omega))⟩
theorem lN_bv (n : Nat) : (lN n).toBitVec = BitVec.ofNat 64 n := rfl
theorem lN_nat {n : Nat} (h : n < 2 ^ 64) : (lN n).toBitVec.toNat = n := by rw [lN_bv, BitVec.toNat_ofNat]; exact Nat.mod_eq_of_lt h
theorem lN_xor (a b : Nat) : lN a ^^^ lN b = lN (a ^^^ b) := by
  apply Int64.toBitVec_inj.mp; rw [Int64.toBitVec_xor, lN_bv, lN_bv, lN_bv]; apply BitVec.eq_of_getLsbD_eq; intro i hi; simp [BitVec.getLsbD_ofNat, Nat.testBit_xor, hi]
end
section
/-! THE PLAIN LAW, no program in sight: one bit step of the check sum, its powers, bytes folded, joined; the sums of adler -/
set_option maxRecDepth 100000
def sj_cs (c : BitVec 32) : BitVec 32 := (c >>> 1) ^^^ (if c.getLsbD 0 = true then 0xEDB88320#32 else 0#32)
def sj_cn : Nat → BitVec 32 → BitVec 32
  | 0, c => c
  | n + 1, c => sj_cn n (sj_cs c)
theorem sj_x4 (a b P : BitVec 32) : (a ^^^ P) ^^^ (b ^^^ P) = a ^^^ b := by
  rw [BitVec.xor_comm b P, ← BitVec.xor_assoc, BitVec.xor_assoc a P P, BitVec.xor_self, BitVec.xor_zero]
theorem sj_cs_xor (x y : BitVec 32) : sj_cs (x ^^^ y) = sj_cs x ^^^ sj_cs y := by
  unfold sj_cs
  rw [BitVec.ushiftRight_xor_distrib, BitVec.getLsbD_xor]
  generalize x >>> 1 = a
  generalize y >>> 1 = b
  generalize (0xEDB88320#32 : BitVec 32) = P
  cases x.getLsbD 0 <;> cases y.getLsbD 0
  · show a ^^^ b ^^^ 0#32 = (a ^^^ 0#32) ^^^ (b ^^^ 0#32)
    simp only [BitVec.xor_zero]
  · show a ^^^ b ^^^ P = (a ^^^ 0#32) ^^^ (b ^^^ P)
    simp only [BitVec.xor_zero, BitVec.xor_assoc]
  · show a ^^^ b ^^^ P = (a ^^^ P) ^^^ (b ^^^ 0#32)
    rw [BitVec.xor_zero, BitVec.xor_assoc, BitVec.xor_comm b P, ← BitVec.xor_assoc]
  · show a ^^^ b ^^^ 0#32 = (a ^^^ P) ^^^ (b ^^^ P)
    rw [BitVec.xor_zero, sj_x4]
theorem sj_cn_xor (n : Nat) : ∀ x y : BitVec 32, sj_cn n (x ^^^ y) = sj_cn n x ^^^ sj_cn n y := by
  induction n with
  | zero => intro x y; rfl
  | succ n ih =>
    intro x y
    show sj_cn n (sj_cs (x ^^^ y)) = sj_cn n (sj_cs x) ^^^ sj_cn n (sj_cs y)
    rw [sj_cs_xor, ih]
theorem sj_cn_add (m n : Nat) : ∀ c : BitVec 32, sj_cn (m + n) c = sj_cn n (sj_cn m c) := by
  induction m with
  | zero => intro c; rw [Nat.zero_add]; rfl
  | succ m ih =>
    intro c
    rw [show m + 1 + n = (m + n) + 1 by omega]
    exact ih (sj_cs c)
theorem sj_cn_s (k : Nat) (c : BitVec 32) : sj_cn (k + 1) c = sj_cs (sj_cn k c) := sj_cn_add k 1 c
theorem sj_cn_low : ∀ (k : Nat) (z : BitVec 32), (∀ i, i < k → z.getLsbD i = false) → sj_cn k z = z >>> k := by
  intro k
  induction k with
  | zero => intro z _; exact (BitVec.ushiftRight_zero z).symm
  | succ k ih =>
    intro z h
    have e : sj_cs z = z >>> 1 := by
      unfold sj_cs
      rw [h 0 (by omega)]
      exact BitVec.xor_zero
    show sj_cn k (sj_cs z) = _
    rw [e, ih (z >>> 1) (fun i hi => by rw [BitVec.getLsbD_ushiftRight]; exact h (1 + i) (by omega)), ← BitVec.shiftRight_add, Nat.add_comm]
theorem sj_m1 : ∀ i, i < 32 → (255#32).getLsbD i = decide (i < 8) := by decide
theorem sj_m2 : ∀ i, i < 32 → (0xFFFFFF00#32).getLsbD i = !decide (i < 8) := by decide
theorem sj_split (c b : BitVec 32) : c ^^^ (b &&& 255#32) = ((c ^^^ b) &&& 255#32) ^^^ (c &&& 0xFFFFFF00#32) := by
  apply BitVec.eq_of_getLsbD_eq
  intro i hi
  simp only [BitVec.getLsbD_xor, BitVec.getLsbD_and, sj_m1 i hi, sj_m2 i hi]
  cases c.getLsbD i <;> cases b.getLsbD i <;> cases decide (i < 8) <;> rfl
theorem sj_tab (c b : BitVec 32) : sj_cn 8 (c ^^^ (b &&& 255#32)) = sj_cn 8 ((c ^^^ b) &&& 255#32) ^^^ (c >>> 8) := by
  rw [sj_split, sj_cn_xor, sj_cn_low 8 (c &&& 0xFFFFFF00#32) (fun i hi => by
    rw [BitVec.getLsbD_and, sj_m2 i (by omega), decide_eq_true hi]
    simp)]
  congr 1
  apply BitVec.eq_of_getLsbD_eq
  intro i hi
  rw [BitVec.getLsbD_ushiftRight, BitVec.getLsbD_ushiftRight, BitVec.getLsbD_and]
  rcases Nat.lt_or_ge (8 + i) 32 with h | h
  · rw [sj_m2 (8 + i) h, decide_eq_false (by omega)]
    simp
  · rw [BitVec.getLsbD_of_ge c (8 + i) h]
    rfl
/-- the bytes p .. p+n-1 of f folded into c -/
def sj_cf (f : Nat → Int32) (p : Nat) : Nat → BitVec 32 → BitVec 32
  | 0, c => c
  | n + 1, c => sj_cn 8 (sj_cf f p n c ^^^ ((f (p + n)).toBitVec &&& 255#32))
theorem sj_cf_xor (f : Nat → Int32) (p n : Nat) (c d : BitVec 32) : sj_cf f p n (c ^^^ d) = sj_cf f p n c ^^^ sj_cn (8 * n) d := by
  induction n with
  | zero => rfl
  | succ n ih =>
    show sj_cn 8 (sj_cf f p n (c ^^^ d) ^^^ ((f (p + n)).toBitVec &&& 255#32)) = sj_cn 8 (sj_cf f p n c ^^^ ((f (p + n)).toBitVec &&& 255#32)) ^^^ sj_cn (8 * n + 8) d
    rw [ih, sj_cn_add, ← sj_cn_xor]
    congr 1
    rw [BitVec.xor_assoc, BitVec.xor_comm (sj_cn (8 * n) d), ← BitVec.xor_assoc]
theorem sj_cf_app (f : Nat → Int32) (p m n : Nat) (c : BitVec 32) : sj_cf f p (m + n) c = sj_cf f (p + m) n (sj_cf f p m c) := by
  induction n with
  | zero => rfl
  | succ n ih =>
    show sj_cn 8 (sj_cf f p (m + n) c ^^^ ((f (p + (m + n))).toBitVec &&& 255#32)) = sj_cn 8 (sj_cf f (p + m) n (sj_cf f p m c) ^^^ ((f (p + m + n)).toBitVec &&& 255#32))
    rw [ih, Nat.add_assoc]
def sj_on : BitVec 32 := 0xFFFFFFFF#32
def sj_cv (f : Nat → Int32) (p n : Nat) : BitVec 32 := sj_cf f p n sj_on ^^^ sj_on
theorem sj_cv_join (f : Nat → Int32) (p k n : Nat) : sj_cv f p (k + n) = sj_cn (8 * n) (sj_cv f p k) ^^^ sj_cv f (p + k) n := by
  unfold sj_cv
  rw [sj_cf_app]
  have e : sj_on ^^^ (sj_cf f p k sj_on ^^^ sj_on) = sj_cf f p k sj_on := by
    rw [BitVec.xor_comm (sj_cf f p k sj_on) sj_on, ← BitVec.xor_assoc, BitVec.xor_self, BitVec.zero_xor]
  have h := sj_cf_xor f (p + k) n sj_on (sj_cf f p k sj_on ^^^ sj_on)
  rw [e] at h
  rw [h, BitVec.xor_comm (sj_cf f (p + k) n sj_on) (sj_cn (8 * n) _), BitVec.xor_assoc]
theorem sj_cv0 (f : Nat → Int32) (p : Nat) : sj_cv f p 0 = 0#32 := BitVec.xor_self
/-! ints and longs out of words -/
def sj_i (x : BitVec 32) : Int32 := Int32.ofBitVec x
def sj_l (x : BitVec 32) : Int64 := lN x.toNat
def sj_tb (j : Nat) : Int32 := sj_i (sj_cn 8 (BitVec.ofNat 32 j))
theorem sj_xi (x y : BitVec 32) : sj_i x ^^^ sj_i y = sj_i (x ^^^ y) := rfl
theorem sj_lx (x y : BitVec 32) : sj_l x ^^^ sj_l y = sj_l (x ^^^ y) := by
  unfold sj_l
  rw [lN_xor, BitVec.toNat_xor]
theorem sj_tv (x : Int32) : sj_tb ((x &&& 255).toNatClampNeg) = sj_i (sj_cn 8 (x.toBitVec &&& 255#32)) := by
  have h : x &&& 255 = nI (x.toBitVec.toNat % 2 ^ 8) := pk_and x (m := 255) 8 (by decide)
  have hl : x.toBitVec.toNat % 2 ^ 8 < 2 ^ 8 := Nat.mod_lt _ (by decide)
  have e : BitVec.ofNat 32 (x.toBitVec.toNat % 2 ^ 8) = x.toBitVec &&& 255#32 := by
    apply BitVec.eq_of_toNat_eq
    rw [BitVec.toNat_ofNat, BitVec.toNat_and, show (255#32).toNat = 2 ^ 8 - 1 from by decide, Nat.and_two_pow_sub_one_eq_mod]
    omega
  rw [h, nI_clamp (by omega)]
  unfold sj_tb
  rw [e]
theorem sj_us8 (C : BitVec 32) : ((sj_i C).toUInt32 >>> ((8 : Int32).toUInt32 &&& Int32.toUInt32 31)).toInt32 = sj_i (C >>> 8) := by
  apply Int32.toBitVec_inj.mp
  show C >>> (((8 : Int32).toUInt32 &&& Int32.toUInt32 31).toBitVec % 32) = C >>> 8
  rw [BitVec.ushiftRight_eq', show (((8 : Int32).toUInt32 &&& Int32.toUInt32 31).toBitVec % 32).toNat = 8 from by decide]
theorem sj_us1 (C : BitVec 32) : ((sj_i C).toUInt32 >>> ((1 : Int32).toUInt32 &&& Int32.toUInt32 31)).toInt32 = sj_i (C >>> 1) := by
  apply Int32.toBitVec_inj.mp
  show C >>> (((1 : Int32).toUInt32 &&& Int32.toUInt32 31).toBitVec % 32) = C >>> 1
  rw [BitVec.ushiftRight_eq', show (((1 : Int32).toUInt32 &&& Int32.toUInt32 31).toBitVec % 32).toNat = 1 from by decide]
theorem sj_b0 (C : BitVec 32) : sj_i C &&& 1 = 0 ↔ C.getLsbD 0 = false := by
  rw [← Int32.toBitVec_inj, Int32.toBitVec_and]
  show (C &&& 1#32) = 0#32 ↔ _
  rw [BitVec.and_one_eq_setWidth_ofBool_getLsbD]
  cases C.getLsbD 0
  · exact ⟨fun _ => rfl, fun _ => by decide⟩
  · exact ⟨fun z => absurd z (by decide), fun z => by cases z⟩
theorem sj_stepT {C : BitVec 32} (h : ¬ sj_i C &&& 1 = 0) : sj_i (C >>> 1) ^^^ (-306674912) = sj_i (sj_cs C) := by
  have hb : C.getLsbD 0 = true := by
    cases hc : C.getLsbD 0
    · exact absurd ((sj_b0 C).mpr hc) h
    · rfl
  unfold sj_cs
  rw [if_pos hb]
  rfl
theorem sj_stepF {C : BitVec 32} (h : sj_i C &&& 1 = 0) : sj_i (C >>> 1) ^^^ 0 = sj_i (sj_cs C) := by
  have hb := (sj_b0 C).mp h
  unfold sj_cs
  rw [hb]
  rfl
theorem sj_upd (f : Nat → Int32) (p n : Nat) (C : BitVec 32) (b : Int32) (hb : f (p + n) = b) (hC : C = sj_cf f p n sj_on) : sj_i (sj_cn 8 ((C ^^^ b.toBitVec) &&& 255#32)) ^^^ sj_i (C >>> 8) = sj_i (sj_cf f p (n + 1) sj_on) := by
  rw [sj_xi, ← sj_tab, hC, ← hb]
  rfl
theorem sj_gv (x : BitVec 32) : (sj_i x).toInt64 &&& 4294967295 = sj_l x := by
  apply Int64.toBitVec_inj.mp
  rw [Int64.toBitVec_and, Int32.toBitVec_toInt64]
  show (x.signExtend 64) &&& 4294967295#64 = BitVec.ofNat 64 x.toNat
  have hm : ∀ i, i < 64 → (4294967295#64).getLsbD i = decide (i < 32) := by decide
  apply BitVec.eq_of_getLsbD_eq
  intro i hi
  rw [BitVec.getLsbD_and, BitVec.getLsbD_signExtend, hm i hi, BitVec.getLsbD_ofNat]
  rcases Nat.lt_or_ge i 32 with h | h
  · simp [hi, h, BitVec.getLsbD]
  · rw [Nat.testBit_lt_two_pow (Nat.lt_of_lt_of_le x.isLt (Nat.pow_le_pow_right (by decide) h))]
    simp [Nat.not_lt.mpr h]
/-! the matrices -/
def sj_lo (v : BitVec 32) (i : Nat) : BitVec 32 := (v.setWidth i).setWidth 32
theorem sj_lo_bit (v : BitVec 32) (i j : Nat) : (sj_lo v i).getLsbD j = (decide (j < 32) && (decide (j < i) && v.getLsbD j)) := by
  unfold sj_lo
  rw [BitVec.getLsbD_setWidth, BitVec.getLsbD_setWidth]
theorem sj_lo0 (v : BitVec 32) : sj_lo v 0 = 0#32 := by
  apply BitVec.eq_of_getLsbD_eq
  intro j hj
  rw [sj_lo_bit]
  simp
theorem sj_lo_all {v : BitVec 32} {i : Nat} (h : v >>> i = 0#32) : sj_lo v i = v := by
  apply BitVec.eq_of_getLsbD_eq
  intro j hj
  rw [sj_lo_bit, decide_eq_true hj]
  rcases Nat.lt_or_ge j i with q | q
  · rw [decide_eq_true q]
    simp
  · have e : (v >>> i).getLsbD (j - i) = v.getLsbD j := by
      rw [BitVec.getLsbD_ushiftRight, show i + (j - i) = j by omega]
    rw [h, BitVec.getLsbD_zero] at e
    rw [← e, decide_eq_false (by omega)]
    rfl
theorem sj_lo_lt {v : BitVec 32} {i : Nat} (h : ¬ v >>> i = 0#32) : i < 32 := by
  rcases Nat.lt_or_ge i 32 with q | q
  · exact q
  · exfalso
    apply h
    apply BitVec.eq_of_getLsbD_eq
    intro j hj
    rw [BitVec.getLsbD_ushiftRight, BitVec.getLsbD_of_ge v (i + j) (by omega), BitVec.getLsbD_zero]
theorem sj_lo_F {v : BitVec 32} {i : Nat} (h : (v >>> i).getLsbD 0 = false) : sj_lo v (i + 1) = sj_lo v i := by
  rw [BitVec.getLsbD_ushiftRight, Nat.add_zero] at h
  apply BitVec.eq_of_getLsbD_eq
  intro j hj
  rw [sj_lo_bit, sj_lo_bit]
  rcases Nat.lt_trichotomy j i with q | q | q
  · rw [decide_eq_true q, decide_eq_true (show j < i + 1 by omega)]
  · subst q
    rw [h]
    simp
  · rw [decide_eq_false (show ¬ j < i by omega), decide_eq_false (show ¬ j < i + 1 by omega)]
theorem sj_lo_T {v : BitVec 32} {i : Nat} (h : (v >>> i).getLsbD 0 = true) : sj_lo v (i + 1) = sj_lo v i ^^^ BitVec.twoPow 32 i := by
  rw [BitVec.getLsbD_ushiftRight, Nat.add_zero] at h
  apply BitVec.eq_of_getLsbD_eq
  intro j hj
  rw [BitVec.getLsbD_xor, sj_lo_bit, sj_lo_bit, BitVec.getLsbD_twoPow]
  rcases Nat.lt_trichotomy j i with q | q | q
  · rw [decide_eq_true q, decide_eq_true (show j < i + 1 by omega), decide_eq_false (show ¬ i = j by omega)]
    simp
  · subst q
    rw [h, decide_eq_true hj]
    simp
  · rw [decide_eq_false (show ¬ j < i by omega), decide_eq_false (show ¬ j < i + 1 by omega), decide_eq_false (show ¬ i = j by omega)]
    simp
theorem sj_l0 (x : BitVec 32) : sj_l x = 0 ↔ x = 0#32 := by
  unfold sj_l
  rw [show (0 : Int64) = lN 0 from rfl, pk_lEQ (Nat.lt_trans x.isLt (by decide)) (by decide)]
  exact ⟨fun h => BitVec.eq_of_toNat_eq h, fun h => by rw [h]; rfl⟩
theorem sj_lb (x : BitVec 32) : sj_l x &&& 1 = 0 ↔ x.getLsbD 0 = false := by
  unfold sj_l
  rw [wb_a1 (Nat.lt_trans x.isLt (by decide)), show (0 : Int64) = lN 0 from rfl, pk_lEQ (by omega) (by decide)]
  show _ ↔ x.toNat.testBit 0 = false
  rw [Nat.testBit_zero, decide_eq_false_iff_not]
  omega
theorem sj_lsr (x : BitVec 32) : sj_l x >>> ((1 : Int32).toInt64 &&& 63) = sj_l (x >>> 1) := by
  unfold sj_l
  have := x.isLt
  rw [pf_shr (d := 1) (by decide) (by omega), BitVec.toNat_ushiftRight, Nat.shiftRight_eq_div_pow]
/-- the array a holds the matrix of the k-th power of the step -/
def sj_rp (a : Nat → Int64) (k : Nat) : Prop := ∀ i, i < 32 → a i = sj_l (sj_cn k (BitVec.twoPow 32 i))
def sj_sq (a : Nat → Int64) (k i : Nat) : Nat → Int64 := fun j => if j < i then sj_l (sj_cn (k + k) (BitVec.twoPow 32 j)) else a j
theorem sj_sq0 (a : Nat → Int64) (k : Nat) : sj_sq a k 0 = a := by
  funext j
  unfold sj_sq
  rw [if_neg (by omega)]
theorem sj_sqS (a : Nat → Int64) (k i : Nat) : vp_updL (sj_sq a k i) i (sj_l (sj_cn k (sj_cn k (BitVec.twoPow 32 i)))) = sj_sq a k (i + 1) := by
  funext j
  unfold vp_updL sj_sq
  rcases Nat.lt_trichotomy j i with q | q | q
  · rw [if_neg (by omega), if_pos q, if_pos (by omega)]
  · subst q
    rw [if_pos rfl, if_pos (by omega), sj_cn_add]
  · rw [if_neg (by omega), if_neg (by omega), if_neg (by omega)]
theorem sj_sqR (a : Nat → Int64) (k : Nat) : sj_rp (sj_sq a k 32) (k + k) := fun i hi => if_pos hi
def sj_od (i : Nat) : Nat → Int64 := fun j => if j = 0 then 3988292384 else if j < i then lN (2 ^ (j - 1)) else 0
theorem sj_od1 : vp_updL (fun _ => 0) 0 3988292384 = sj_od 1 := by
  funext j
  unfold vp_updL sj_od
  by_cases h : j = 0
  · rw [if_pos h, if_pos h]
  · rw [if_neg h, if_neg h, if_neg (by omega)]
theorem sj_odS {i : Nat} (h : 1 ≤ i) : vp_updL (sj_od i) i (lN (2 ^ (i - 1))) = sj_od (i + 1) := by
  funext j
  unfold vp_updL sj_od
  rcases Nat.lt_trichotomy j i with q | q | q
  · rw [if_neg (by omega)]
    by_cases h0 : j = 0
    · rw [if_pos h0, if_pos h0]
    · rw [if_neg h0, if_neg h0, if_pos q, if_pos (by omega)]
  · subst q
    rw [if_pos rfl, if_neg (by omega), if_pos (by omega)]
  · rw [if_neg (by omega), if_neg (by omega), if_neg (by omega), if_neg (by omega), if_neg (by omega)]
theorem sj_odR : sj_rp (sj_od 32) 1 := by
  have h : ∀ i, i < 32 → sj_od 32 i = sj_l (sj_cn 1 (BitVec.twoPow 32 i)) := by decide +kernel
  exact h
theorem sj_row {i : Nat} (h : 1 ≤ i) (h2 : i < 32) : lN (2 ^ (i - 1)) <<< ((1 : Int32).toInt64 &&& 63) = lN (2 ^ (i + 1 - 1)) := by
  have h3 : ∀ i, i < 31 → lN (2 ^ i) <<< ((1 : Int32).toInt64 &&& 63) = lN (2 ^ (i + 1)) := by decide +kernel
  have h4 := h3 (i - 1) (by omega)
  rw [show i - 1 + 1 = i + 1 - 1 by omega] at h4
  exact h4
end
section
/-! the plain law of adler, of places, of put -/
set_option maxRecDepth 100000
/-- a byte read without sign -/
def sj_by (f : Nat → Int32) (j : Nat) : Nat := (f j).toBitVec.toNat % 256
theorem sj_by_lt (f : Nat → Int32) (j : Nat) : sj_by f j < 256 := Nat.mod_lt _ (by decide)
theorem sj_byI (f : Nat → Int32) (j : Nat) : f j &&& 255 = nI (sj_by f j) := pk_and (f j) (m := 255) 8 (by decide)
theorem sj_byL (f : Nat → Int32) (j : Nat) : (nI (sj_by f j)).toInt64 = lN (sj_by f j) := nI_l (by have := sj_by_lt f j; omega)
def sj_uA (f : Nat → Int32) (p : Nat) : Nat → Nat
  | 0 => 1
  | i + 1 => sj_uA f p i + sj_by f (p + i)
def sj_uB (f : Nat → Int32) (p : Nat) : Nat → Nat
  | 0 => 0
  | i + 1 => sj_uB f p i + (sj_uA f p i + sj_by f (p + i))
theorem sj_uA_le (f : Nat → Int32) (p : Nat) : ∀ i, sj_uA f p i ≤ 1 + 255 * i := by
  intro i
  induction i with
  | zero => exact Nat.le_refl 1
  | succ i ih =>
    have h := sj_by_lt f (p + i)
    show sj_uA f p i + sj_by f (p + i) ≤ _
    omega
theorem sj_uB_le (f : Nat → Int32) (p : Nat) : ∀ i, i ≤ 4096 → sj_uB f p i ≤ i * 1044481 := by
  intro i
  induction i with
  | zero => intro _; exact Nat.zero_le _
  | succ i ih =>
    intro hi
    have h := sj_uA_le f p (i + 1)
    have h1 := ih (by omega)
    have h2 : sj_uA f p (i + 1) = sj_uA f p i + sj_by f (p + i) := rfl
    show sj_uB f p i + (sj_uA f p i + sj_by f (p + i)) ≤ _
    omega
theorem sj_uA_app (f : Nat → Int32) (p k n : Nat) : sj_uA f p (k + n) + 1 = sj_uA f p k + sj_uA f (p + k) n := by
  induction n with
  | zero => rfl
  | succ n ih =>
    show sj_uA f p (k + n) + sj_by f (p + (k + n)) + 1 = sj_uA f p k + (sj_uA f (p + k) n + sj_by f (p + k + n))
    rw [← Nat.add_assoc p k n]
    omega
theorem sj_uB_app (f : Nat → Int32) (p k n : Nat) : sj_uB f p (k + n) + n = sj_uB f p k + n * sj_uA f p k + sj_uB f (p + k) n := by
  induction n with
  | zero => show sj_uB f p k + 0 = sj_uB f p k + 0 * _ + 0; omega
  | succ n ih =>
    have h := sj_uA_app f p k n
    show sj_uB f p (k + n) + (sj_uA f p (k + n) + sj_by f (p + (k + n))) + (n + 1) = sj_uB f p k + (n + 1) * sj_uA f p k + (sj_uB f (p + k) n + (sj_uA f (p + k) n + sj_by f (p + k + n)))
    rw [← Nat.add_assoc p k n, Nat.succ_mul]
    omega
def sj_av (f : Nat → Int32) (p n : Nat) : Nat := sj_uB f p n % 65521 * 65536 + sj_uA f p n % 65521
def sj_jA (a1 a2 : Nat) : Nat := (a1 + a2 + 65520) % 65521
def sj_jB (a1 b1 b2 n : Nat) : Nat := (n * a1 + b1 + b2 + 65521 - n) % 65521
theorem sj_mm (n a : Nat) : (n * (a % 65521)) % 65521 = (n * a) % 65521 := by rw [Nat.mul_mod, Nat.mod_mod, ← Nat.mul_mod]
theorem sj_av_join (f : Nat → Int32) (p k n : Nat) (hn : n ≤ 65520) : sj_jB (sj_uA f p k % 65521) (sj_uB f p k % 65521) (sj_uB f (p + k) n % 65521) n * 65536 + sj_jA (sj_uA f p k % 65521) (sj_uA f (p + k) n % 65521) = sj_av f p (k + n) := by
  have h1 := sj_uA_app f p k n
  have h2 := sj_uB_app f p k n
  have h3 := sj_mm n (sj_uA f p k)
  unfold sj_av sj_jA sj_jB
  generalize sj_uA f p (k + n) = A at h1 ⊢
  generalize sj_uB f p (k + n) = B at h2 ⊢
  generalize sj_uA f (p + k) n = a2 at h1 ⊢
  generalize sj_uB f (p + k) n = b2 at h2 ⊢
  generalize sj_uA f p k = a1 at h1 h2 h3 ⊢
  generalize sj_uB f p k = b1 at h2 ⊢
  generalize n * (a1 % 65521) = z at h3 ⊢
  generalize n * a1 = y at h2 h3
  have e1 : (a1 % 65521 + a2 % 65521 + 65520) % 65521 = A % 65521 := by omega
  have e2 : (z + b1 % 65521 + b2 % 65521 + 65521 - n) % 65521 = B % 65521 := by omega
  rw [e1, e2]
/-- from, first, count, many: a number taken modulo n + 1 -/
def sj_fr (x : Int32) (n : Nat) : Nat := x.toBitVec.toNat % 2 ^ 31 % (n + 1)
theorem sj_fr_le (x : Int32) (n : Nat) : sj_fr x n ≤ n := by
  have := Nat.mod_lt (x.toBitVec.toNat % 2 ^ 31) (show 0 < n + 1 by omega)
  unfold sj_fr
  omega
theorem sj_frI (x : Int32) (n : Nat) (hn : n ≤ 4096) : (x &&& 2147483647) - (x &&& 2147483647) / nI (n + 1) * nI (n + 1) = nI (sj_fr x n) := by
  rw [pk_and x (m := 2147483647) 31 (by decide), pk_rem (Nat.mod_lt _ (by decide)) (by omega) (by omega)]
  rfl
/-- put: byte k of the four words -/
def sj_wd (a b c d : Int32) (k : Nat) : Int32 := if k < 4 then a else if k < 8 then b else if k < 12 then c else d
def sj_bv (a b c d : Int32) (k : Nat) : Int32 := ((sj_wd a b c d k).toUInt32 >>> ((nI (24 - 8 * (k % 4))).toUInt32 &&& Int32.toUInt32 31)).toInt32.toInt8.toInt32
def sj_pw (f : Nat → Int32) (n : Nat) (a b c d : Int32) : Nat → Nat → Int32
  | 0 => f
  | k + 1 => upd (sj_pw f n a b c d k) (n + k) (sj_bv a b c d k)
def sj_pF (f : Nat → Int32) (n : Nat) (a b c d : Int32) : Nat → Int32 := if n ≤ 4080 then sj_pw f n a b c d 16 else f
def sj_pS (n : Nat) : Nat := if n ≤ 4080 then n + 16 else n
def sj_pR (n : Nat) : Int32 := if n ≤ 4080 then 1 else 0
theorem sj_i8 {x y : Int32} (h : ∀ i, i < 8 → bt x i = bt y i) : x.toInt8.toInt32 = y.toInt8.toInt32 := by
  have e : x.toInt8 = y.toInt8 := by
    apply Int8.toBitVec_inj.mp
    rw [Int32.toBitVec_toInt8, Int32.toBitVec_toInt8]
    apply BitVec.eq_of_getLsbD_eq
    intro i hi
    have h1 := h i hi
    unfold bt at h1
    rw [BitVec.getLsbD_signExtend, BitVec.getLsbD_signExtend, if_pos (by omega), if_pos (by omega), h1]
  rw [e]
theorem sj_sb (w : Int32) (n : Nat) (hn : n ≤ 24) : (w >>> (nI n &&& 31)).toInt8.toInt32 = ((w.toUInt32 >>> ((nI n).toUInt32 &&& Int32.toUInt32 31)).toInt32).toInt8.toInt32 := by
  apply sj_i8
  intro i hi
  rw [b_sshr n (by omega) w (by omega), b_ushr n (by omega) w i, if_pos (by omega)]
theorem sj_sb0 (w : Int32) : w.toInt8.toInt32 = ((w.toUInt32 >>> ((nI 0).toUInt32 &&& Int32.toUInt32 31)).toInt32).toInt8.toInt32 := by
  apply sj_i8
  intro i hi
  rw [b_ushr 0 (by omega) w i, Nat.zero_add]
end
section
/-! THE FORM OF THE CONTRACTS: a world of cells, the static table beside it; behind a call the world is told -/
set_option maxRecDepth 100000
abbrev vwCl : List vw_C := [(RX0, TX0, 2), (RX1, TX1, 2), (RX2, TX2, 1), (RX3, TX3, 2)]
/-- CRC32's table stands in its static field, apart from what may change -/
def sj_T (tb : Nat) (A : Nat → Prop) (U : State) (H : Heap) : Prop := va_Z "CRC32" "crc_table" "[I" (.ref tb) A U H ∧ va_T .int tb 256 (fun j => .int (sj_tb j)) A U H
theorem sj_T.moved {tb : Nat} {A : Nat → Prop} {u U : State} {H : Heap} (hvm : u.vm.Alike U.vm) (h : sj_T tb A u H) : sj_T tb A U H := ⟨h.1.moved hvm, h.2.moved hvm⟩
theorem sj_T.kept {tb : Nat} {A : Nat → Prop} {U : State} {H H1 : Heap} (h : sj_T tb A U H) (hq : ∀ a : Nat, a < H.size → ¬ A a → H1[a]? = H[a]?) : sj_T tb A U H1 := ⟨h.1.kept hq, h.2.kept hq⟩
theorem sj_T.narrow {tb : Nat} {A B : Nat → Prop} {U : State} {H : Heap} (h : sj_T tb A U H) (hAB : ∀ q, B q → A q) : sj_T tb B U H := ⟨h.1.narrow hAB, h.2.narrow hAB⟩
/-- a method's start -/
def sj_wd0 (D : va_G) (tb : Nat) (ws : va_W) (tys : List (ClassId × FieldType)) (sz : Nat) (U : State) : Prop := U.heap.size = sz ∧ va_P D vwCl ws U.heap ∧ va_K D vwCl tys U ∧ va_D (fun _ => True) ws ∧ sj_T tb (va_A ws sz) U U.heap
/-- a method's end -/
def sj_we (D : va_G) (A : Nat → Prop) (ws : va_W) (t : State) : Prop := va_P D vwCl ws t.heap ∧ va_D A ws
theorem sj_blind {D : va_G} {tb : Nat} {ws : va_W} {tys : List (ClassId × FieldType)} {sz : Nat} {av : List Value} : FrameBlind (va_Pc av (sj_wd0 D tb ws tys sz)) := by
  intro a U g mk q
  obtain ⟨q0, q1, qP, qK, qD, qT⟩ := q
  exact ⟨q0, q1, qP, va_K.moved (u := U) (U := U.calling g mk a) (Vm.Alike.refl U.vm) qK, qD, sj_T.moved (u := U) (U := U.calling g mk a) (Vm.Alike.refl U.vm) qT⟩
theorem sj_go {D : va_G} {tb : Nat} {A : Nat → Prop} {s : State} {H : Heap} {locs : List Loc} {ws wc : va_W} {tys tyc : List (ClassId × FieldType)} {av : List Value} (hK : va_K D vwCl tys s) (hP : va_P D vwCl ws H) (hD : va_D A ws) (hS : va_S A s.heap H locs) (hA : ∀ q, s.heap.size ≤ q → A q) (hT : sj_T tb A s s.heap) (isC : List Nat) (hC : isC.map (fun i => ws[i]?) = wc.map some) (hC2 : isC.filterMap (fun i => ws[i]?) = wc) (hn : va_nd isC = true) (tc : List Nat) (ht : tc.filterMap (fun i => tys[i]?) = tyc) : ∀ U : State, U.heap = H → s.WarmedH U.vm → va_Pc av (sj_wd0 D tb wc tyc H.size) av.toArray U := by
  intro U hU hW
  have hF := va_free (wc := wc) hD hS hA isC hC
  refine ⟨rfl, by rw [hU], by rw [hU]; exact hP.sub isC hC2, va_K.moved hW.alike (hK.sub tc ht), (hD.sub isC hn hC).weaken (fun _ _ _ _ => trivial), ?_⟩
  rw [hU]
  exact ((hT.kept hS.2.1).narrow hF).moved hW.alike
theorem sj_preS {D : va_G} {tb : Nat} {A : Nat → Prop} {s : State} {H : Heap} {locs : List Loc} {ws wc : va_W} {tys tyc : List (ClassId × FieldType)} {av : List Value} (hK : va_K D vwCl tys s) (hP : va_P D vwCl ws H) (hD : va_D A ws) (hS : va_S A s.heap H locs) (hA : ∀ q, s.heap.size ≤ q → A q) (hT : sj_T tb A s s.heap) (isC : List Nat) (hC : isC.map (fun i => ws[i]?) = wc.map some) (hC2 : isC.filterMap (fun i => ws[i]?) = wc) (hn : va_nd isC = true) (tc : List Nat) (ht : tc.filterMap (fun i => tys[i]?) = tyc) : PreS s H (va_Pc av (sj_wd0 D tb wc tyc H.size)) av :=
  ⟨sj_blind, sj_go hK hP hD hS hA hT isC hC hC2 hn tc ht⟩
theorem sj_preV {D : va_G} {tb : Nat} {A : Nat → Prop} {s : State} {H : Heap} {locs : List Loc} {ws wc : va_W} {tys tyc : List (ClassId × FieldType)} {b : Nat} {As : List Value} (hK : va_K D vwCl tys s) (hP : va_P D vwCl ws H) (hD : va_D A ws) (hS : va_S A s.heap H locs) (hA : ∀ q, s.heap.size ≤ q → A q) (hT : sj_T tb A s s.heap) (isC : List Nat) (hC : isC.map (fun i => ws[i]?) = wc.map some) (hC2 : isC.filterMap (fun i => ws[i]?) = wc) (hn : va_nd isC = true) (tc : List Nat) (ht : tc.filterMap (fun i => tys[i]?) = tyc) {ci q0 : Nat} {q : vw_C} {fs : List Value} (hc : vwCl[ci]? = some q) (he : ws[q0]? = some (b, .inr (ci, fs))) : PreV s H q.1 b (va_Pc (.ref b :: As) (sj_wd0 D tb wc tyc H.size)) As :=
  ⟨sj_blind, va_recv hK hP hc he, sj_go hK hP hD hS hA hT isC hC hC2 hn tc ht⟩
/-- contracts: no answer, an int, a long -/
abbrev sj_MV (l : Launch) (y : MethodName) (cc : ByteArray) (L : Nat) (rm : Room) (av : List Value) (D : va_G) (tb : Nat) (ws : va_W) (tys : List (ClassId × FieldType)) (sz : Nat) (ws' : va_W) (mc ms : Nat) : Prop :=
  Met l y (ws_ y cc L none) rm (va_Pc av (sj_wd0 D tb ws tys sz)) (va_Qv (fun _ : Unit => True) (fun _ t => sj_we D (va_A ws sz) ws' t) (va_A ws sz)) mc ms (va_A ws sz)
abbrev sj_MI (l : Launch) (y : MethodName) (cc : ByteArray) (L : Nat) (ret : FieldType) (rm : Room) (av : List Value) (D : va_G) (tb : Nat) (ws : va_W) (tys : List (ClassId × FieldType)) (sz : Nat) (V : Int32) (ws' : va_W) (mc ms : Nat) : Prop :=
  Met l y (ws_ y cc L (some ret)) rm (va_Pc av (sj_wd0 D tb ws tys sz)) (va_Qi (fun r (_ : Unit) => r = V) (fun _ t => sj_we D (va_A ws sz) ws' t) (va_A ws sz)) mc ms (va_A ws sz)
abbrev sj_ML (l : Launch) (y : MethodName) (cc : ByteArray) (L : Nat) (rm : Room) (av : List Value) (D : va_G) (tb : Nat) (ws : va_W) (tys : List (ClassId × FieldType)) (sz : Nat) (V : Int64) (ws' : va_W) (mc ms : Nat) : Prop :=
  Met l y (ws_ y cc L (some .long)) rm (va_Pc av (sj_wd0 D tb ws tys sz)) (va_Ql (fun r (_ : Unit) => r = V) (fun _ t => sj_we D (va_A ws sz) ws' t) (va_A ws sz)) mc ms (va_A ws sz)
section SJW
variable {p : Program} {l : Launch} {e : Env} {R : Room} {s : State} {m : MethodId} {args : Array Value} {below : List Frame} {meth : Method} {c : Code} {H : Heap} {locs : List Loc} {cells slots : Nat} {Q : State → Prop}
variable {cc : ByteArray} {pc : Nat} {ls : Array Slot} {rest st0 : List Value} {A : Nat → Prop} {D : va_G} {mc ms : Nat} {a : Array Value} {ws wc wr w1 wf : va_W} {tys : List (ClassId × FieldType)}
theorem sj_ti {x : Int32} (y : Int32) (h : x = y) (k : W p l e R s m args below meth c H locs cells slots Q (F0 m pc ls (.int y :: rest))) : W p l e R s m args below meth c H locs cells slots Q (F0 m pc ls (.int x :: rest)) := by
  subst h; exact k
theorem sj_tl {x : Int64} (y : Int64) (h : x = y) (k : W p l e R s m args below meth c H locs cells slots Q (F0 m pc ls (.long y :: rest))) : W p l e R s m args below meth c H locs cells slots Q (F0 m pc ls (.long x :: rest)) := by
  subst h; exact k
/-- a byte array read and written at a place that is a number -/
theorem sj_bald (hexec : p.tables.exec = Jvm.exec) (hb : c.code = cc) (hK : va_K D vwCl tys s) (hP : va_P D vwCl ws H) (q0 t0 : Nat) {aa : Nat} {cA : ClassId} {n : Nat} {f : Nat → Int32} (ha : ws[q0]? = some (aa, .inl (cA, n, .inl f))) (ht : tys[t0]? = some (cA, .byte)) {j : Nat} (hj : j < n) (hn : n ≤ 2147483647) (hdg : decode cc pc = .ok (.baload, 1))
    (kk : W p l e R s m args below meth c H locs cells slots Q (F0 m (pc + 1) ls (.int (f j) :: rest))) : W p l e R s m args below meth c H locs cells slots Q (F0 m pc ls (.int (nI j) :: .ref aa :: rest)) := by
  refine va_bald hexec hb hK hP q0 t0 ha ht (vp_in_nI hj (by omega)) hdg ?_
  rw [nI_clamp (by omega)]
  exact kk
theorem sj_bast (hexec : p.tables.exec = Jvm.exec) (hb : c.code = cc) (hK : va_K D vwCl tys s) (hP : va_P D vwCl ws H) (hD : va_D A ws) (hS : va_S A s.heap H locs) (q0 t0 : Nat) {aa : Nat} {cA : ClassId} {n : Nat} {f : Nat → Int32} (ha : ws[q0]? = some (aa, .inl (cA, n, .inl f))) (ht : tys[t0]? = some (cA, .byte)) {j : Nat} {x : Int32} (hj : j < n) (hn : n ≤ 2147483647) {g : Nat → Int32} (hg : upd f j x.toInt8.toInt32 = g) (hdg : decode cc pc = .ok (.bastore, 1))
    (kk : ∀ (H1 : Heap) (locs1 : List Loc), va_P D vwCl (ws.set q0 (aa, .inl (cA, n, .inl g))) H1 → va_D A (ws.set q0 (aa, .inl (cA, n, .inl g))) → va_S A s.heap H1 locs1 → W p l e R s m args below meth c H1 locs1 cells slots Q (F0 m (pc + 1) ls rest)) : W p l e R s m args below meth c H locs cells slots Q (F0 m pc ls (.int x :: .int (nI j) :: .ref aa :: rest)) := by
  refine va_bast hexec hb hK hP hD hS q0 t0 ha ht (vp_in_nI hj (by omega)) hdg (fun H1 locs1 h1 h2 h3 => ?_)
  rw [nI_clamp (by omega), vp_nar_byte, hg] at h1 h2
  exact kk H1 locs1 h1 h2 h3
theorem sj_lald (hexec : p.tables.exec = Jvm.exec) (hb : c.code = cc) (hK : va_K D vwCl tys s) (hP : va_P D vwCl ws H) (q0 t0 : Nat) {aa : Nat} {cA : ClassId} {n : Nat} {f : Nat → Int64} (ha : ws[q0]? = some (aa, .inl (cA, n, .inr (.inl f)))) (ht : tys[t0]? = some (cA, .long)) {j : Nat} (hj : j < n) (hn : n ≤ 2147483647) (hdg : decode cc pc = .ok (.laload, 1))
    (kk : W p l e R s m args below meth c H locs cells slots Q (F0 m (pc + 1) ls (.long (f j) :: rest))) : W p l e R s m args below meth c H locs cells slots Q (F0 m pc ls (.int (nI j) :: .ref aa :: rest)) := by
  refine va_lald hexec hb hK hP q0 t0 ha ht (vp_in_nI hj (by omega)) hdg ?_
  rw [nI_clamp (by omega)]
  exact kk
theorem sj_last (hexec : p.tables.exec = Jvm.exec) (hb : c.code = cc) (hK : va_K D vwCl tys s) (hP : va_P D vwCl ws H) (hD : va_D A ws) (hS : va_S A s.heap H locs) (q0 t0 : Nat) {aa : Nat} {cA : ClassId} {n : Nat} {f : Nat → Int64} (ha : ws[q0]? = some (aa, .inl (cA, n, .inr (.inl f)))) (ht : tys[t0]? = some (cA, .long)) {j : Nat} {x : Int64} (hj : j < n) (hn : n ≤ 2147483647) {g : Nat → Int64} (hg : vp_updL f j x = g) (hdg : decode cc pc = .ok (.lastore, 1))
    (kk : ∀ (H1 : Heap) (locs1 : List Loc), va_P D vwCl (ws.set q0 (aa, .inl (cA, n, .inr (.inl g)))) H1 → va_D A (ws.set q0 (aa, .inl (cA, n, .inr (.inl g)))) → va_S A s.heap H1 locs1 → W p l e R s m args below meth c H1 locs1 cells slots Q (F0 m (pc + 1) ls rest)) : W p l e R s m args below meth c H locs cells slots Q (F0 m pc ls (.long x :: .int (nI j) :: .ref aa :: rest)) := by
  refine va_last hexec hb hK hP hD hS q0 t0 ha ht (vp_in_nI hj (by omega)) hdg (fun H1 locs1 h1 h2 h3 => ?_)
  rw [nI_clamp (by omega), hg] at h1 h2
  exact kk H1 locs1 h1 h2 h3
/-- behind a call: the callee's cells isC give way to w1, the rest isR stays; pf puts them in the order wf -/
theorem sj_cv_ (hr : va_Run p l e R s m args below meth c H locs cells slots mc ms (F0 m pc ls st0) rest (va_Qv (fun _ : Unit => True) (fun _ t => sj_we D (va_A wc H.size) w1 t) (va_A wc H.size) a) (va_A wc H.size)) (hP : va_P D vwCl ws H) (hD : va_D A ws) (hS : va_S A s.heap H locs) (hA : ∀ q, s.heap.size ≤ q → A q) (isC isR : List Nat) (hC : isC.map (fun i => ws[i]?) = wc.map some) (hR : isR.map (fun i => ws[i]?) = wr.map some) (hn : va_nd isR = true) (hdis : ∀ i ∈ isR, i ∉ isC) (pf : List Nat) (h1 : pf.filterMap (fun i => (wr ++ w1)[i]?) = wf) (h2 : pf.map (fun i => (wr ++ w1)[i]?) = wf.map some) (h3 : va_nd pf = true)
    (kk : ∀ (H1 : Heap) (locs1 : List Loc), va_P D vwCl wf H1 → va_D A wf → va_S A s.heap H1 locs1 → W p l e R s m args below meth c H1 locs1 (cells + mc) (slots + ms) Q (F0 m (pc + 3) ls rest)) : W p l e R s m args below meth c H locs cells slots Q (F0 m pc ls st0) := by
  have hF := va_free (wc := wc) hD hS hA isC hC
  refine va_callv hr hS (fun q _ h => hF q h) hF (fun u t H1 locs1 ht hvm hw hB hz1 hk1 hS1 => ?_)
  obtain ⟨hP1, hD1⟩ := hB
  rw [ht] at hP1
  obtain ⟨hP, hD⟩ := va_join hP hD isC isR hC hR hn hdis hk1 hF hP1 hD1
  exact kk H1 locs1 (hP.sub pf h1) (hD.sub pf h3 h2) hS1
theorem sj_ci_ {V : Int32} (hr : va_Run p l e R s m args below meth c H locs cells slots mc ms (F0 m pc ls st0) rest (va_Qi (fun r (_ : Unit) => r = V) (fun _ t => sj_we D (va_A wc H.size) w1 t) (va_A wc H.size) a) (va_A wc H.size)) (hP : va_P D vwCl ws H) (hD : va_D A ws) (hS : va_S A s.heap H locs) (hA : ∀ q, s.heap.size ≤ q → A q) (isC isR : List Nat) (hC : isC.map (fun i => ws[i]?) = wc.map some) (hR : isR.map (fun i => ws[i]?) = wr.map some) (hn : va_nd isR = true) (hdis : ∀ i ∈ isR, i ∉ isC) (pf : List Nat) (h1 : pf.filterMap (fun i => (wr ++ w1)[i]?) = wf) (h2 : pf.map (fun i => (wr ++ w1)[i]?) = wf.map some) (h3 : va_nd pf = true)
    (kk : ∀ (H1 : Heap) (locs1 : List Loc), va_P D vwCl wf H1 → va_D A wf → va_S A s.heap H1 locs1 → W p l e R s m args below meth c H1 locs1 (cells + mc) (slots + ms) Q (F0 m (pc + 3) ls (.int V :: rest))) : W p l e R s m args below meth c H locs cells slots Q (F0 m pc ls st0) := by
  have hF := va_free (wc := wc) hD hS hA isC hC
  refine va_calli hr hS (fun q _ h => hF q h) hF (fun r u t H1 locs1 ht hvm hw hB hz1 hk1 hS1 => ?_)
  obtain ⟨hP1, hD1⟩ := hB
  rw [ht] at hP1
  subst hw
  obtain ⟨hP, hD⟩ := va_join hP hD isC isR hC hR hn hdis hk1 hF hP1 hD1
  exact kk H1 locs1 (hP.sub pf h1) (hD.sub pf h3 h2) hS1
theorem sj_cl_ {V : Int64} (hr : va_Run p l e R s m args below meth c H locs cells slots mc ms (F0 m pc ls st0) rest (va_Ql (fun r (_ : Unit) => r = V) (fun _ t => sj_we D (va_A wc H.size) w1 t) (va_A wc H.size) a) (va_A wc H.size)) (hP : va_P D vwCl ws H) (hD : va_D A ws) (hS : va_S A s.heap H locs) (hA : ∀ q, s.heap.size ≤ q → A q) (isC isR : List Nat) (hC : isC.map (fun i => ws[i]?) = wc.map some) (hR : isR.map (fun i => ws[i]?) = wr.map some) (hn : va_nd isR = true) (hdis : ∀ i ∈ isR, i ∉ isC) (pf : List Nat) (h1 : pf.filterMap (fun i => (wr ++ w1)[i]?) = wf) (h2 : pf.map (fun i => (wr ++ w1)[i]?) = wf.map some) (h3 : va_nd pf = true)
    (kk : ∀ (H1 : Heap) (locs1 : List Loc), va_P D vwCl wf H1 → va_D A wf → va_S A s.heap H1 locs1 → W p l e R s m args below meth c H1 locs1 (cells + mc) (slots + ms) Q (F0 m (pc + 3) ls (.long V :: rest))) : W p l e R s m args below meth c H locs cells slots Q (F0 m pc ls st0) := by
  have hF := va_free (wc := wc) hD hS hA isC hC
  refine va_calll hr hS (fun q _ h => hF q h) hF (fun r u t H1 locs1 ht hvm hw hB hz1 hk1 hS1 => ?_)
  obtain ⟨hP1, hD1⟩ := hB
  rw [ht] at hP1
  subst hw
  obtain ⟨hP, hD⟩ := va_join hP hD isC isR hC hR hn hdis hk1 hF hP1 hD1
  exact kk H1 locs1 (hP.sub pf h1) (hD.sub pf h3 h2) hS1
/-- a compare of longs and a branch on it -/
theorem sj_cmp0 {x y : Int64} : lg_cmp x y = 0 ↔ x = y := by
  unfold lg_cmp
  by_cases h : x > y
  · rw [if_pos h]
    exact ⟨fun z => absurd z (by decide), fun z => by subst z; exact absurd h (by simp)⟩
  · rw [if_neg h]
    by_cases h2 : x = y
    · rw [if_pos h2]; exact ⟨fun _ => h2, fun _ => rfl⟩
    · rw [if_neg h2]; exact ⟨fun z => absurd z (by decide), fun z => absurd z h2⟩
theorem sj_cmpL {x y : Int64} : lg_cmp x y < 0 ↔ x < y := by
  rw [← Int32.not_le, lg_cmp_ge, Int64.not_le]
theorem sj_cmpG {x y : Int64} : lg_cmp x y > 0 ↔ x > y := by
  unfold lg_cmp
  by_cases h : x > y
  · rw [if_pos h]; exact ⟨fun _ => h, fun _ => by decide⟩
  · rw [if_neg h]
    by_cases h2 : x = y
    · rw [if_pos h2]; exact ⟨fun z => absurd z (by decide), fun z => absurd z h⟩
    · rw [if_neg h2]; exact ⟨fun z => absurd z (by decide), fun z => absurd z h⟩
end SJW
end
section
/-! CRC32: its contracts -/
set_option maxRecDepth 100000
set_option maxHeartbeats 4000000 in
set_option maxRecDepth 100000 in
/-- CRC32(): v is 0 -/
theorem met_X2_init (l : Launch) (D : va_G) (tb sz : Nat) (h0 : Nat) (v0 : Int32) : sj_MV l yX2_init cX2_init 1 ({ frames := 1, cells := 0, slots := 0, locals := 12 }) [.ref h0] D tb [(h0, .inr (2, [.int v0]))] [] sz [(h0, .inr (2, [.int 0]))] 0 0 := by
  refine Met.ofW (cc := cX2_init) (maxL := 1) (ret := none) (by decide) rfl ?_
  intro p e s m args below meth c s₁ B hml hv
  obtain ⟨rfl, hsz, hP, hK, hD0, hT⟩ := hv
  have hx := B.exec
  have hb := B.bytes
  have hr := B.returns
  have hts := atoms_spec (ws := ws_ yX2_init cX2_init 1 none) B.pre
  have hts : ∀ w ∈ lw_all, w.before _ s = true := fun w h => hts w (List.mem_cons_of_mem _ h)
  have hown : s.vm.findClass RX2 = some m.cls := findClass_of_methodNamed B.named
  have hlocks := B.notSynchronized
  have hin : meth.name = "<init>" := (name_of_methodNamed B.named B.method).1
  subst hsz
  have hD := hD0.self (sz := s.heap.size)
  generalize hAe : va_A [(h0, .inr (2, [.int v0]))] s.heap.size = A at hD hT ⊢
  have hA : ∀ q : Nat, s.heap.size ≤ q → A q := fun q h => by rw [← hAe]; exact Or.inr h
  have hS : va_S A s.heap s.heap [] := va_S.rf
  have hP : va_P D vwCl [(h0, .inr (2, [.int v0]))] s.heap := hP
  have hl := lv_entry ([.ref h0]) (n := 1) (Nat.le_of_ble_eq_true rfl)
  rw [lg_entry_eq]
  generalize (lg_sl ([.ref h0]) ++ List.replicate (1 - (lg_sl ([.ref h0])).length) Slot.unset).toArray = ls at hl ⊢
  have hl : lv_has ls 1 [(0, .ref h0)] := hl
  refine lv_aload_n hx hb dX2_init_0 rfl (lv_at hl 0 rfl) ?_
  refine W.objInit hx hb hown (hts _ q64) (hts _ q17) (hts _ q18) rfl (by rw [hml]; exact hl.1) rfl dX2_init_1 (Nat.le_of_ble_eq_true rfl) (Nat.le_of_ble_eq_true rfl) ?_
  refine W.eq (g2 := F0 m 4 ls []) rfl ?_
  refine lv_aload_n hx hb dX2_init_4 rfl (lv_at hl 0 rfl) ?_
  refine lv_iconst (v := 0) hx hb dX2_init_5 (by decide) ?_
  refine va_put (D := D) (ci := 2) (v := .int 0) (ty := .int) (C := RX2) (T := TX2) (N := 1) hx hb hts in_X2 tyX2 tyX2_ok nmX2 hown hK hP hD hS 0 rfl rfl 0 (by decide) (hts _ q65) (fun _ h9 => h9) rfl (by decide +kernel) rfl rfl (Nat.le_of_ble_eq_true rfl) dX2_init_6 (fun H locs hP hD hS => ?_)
  have hP : va_P D vwCl [(h0, .inr (2, [.int 0]))] H := hP
  have hD : va_D A [(h0, .inr (2, [.int 0]))] := hD
  have hP9 := hP.sub (ws' := [(h0, .inr (2, [.int 0]))]) [0] rfl
  have hD9 := hD.sub (ws' := [(h0, .inr (2, [.int 0]))]) [0] (by decide) rfl
  exact W.vret hx hb hr (fun t ht hW => ⟨⟨(), rfl, trivial, by rw [ht]; exact hP9, hD9⟩, hS.F ht⟩) hS.2.2 dX2_init_9
set_option maxHeartbeats 4000000 in
set_option maxRecDepth 100000 in
/-- CRC32.getValue() -/
theorem met_X2_getValue (l : Launch) (D : va_G) (tb sz : Nat) (h0 : Nat) (x : BitVec 32) : sj_ML l yX2_getValue cX2_getValue 1 ({ frames := 0, cells := 0, slots := 0, locals := 0 }) [.ref h0] D tb [(h0, .inr (2, [.int (sj_i x)]))] [] sz (sj_l x) [(h0, .inr (2, [.int (sj_i x)]))] 0 0 := by
  refine Met.ofW (cc := cX2_getValue) (maxL := 1) (ret := (some .long)) (by decide) rfl ?_
  intro p e s m args below meth c s₁ B hml hv
  obtain ⟨rfl, hsz, hP, hK, hD0, hT⟩ := hv
  have hx := B.exec
  have hb := B.bytes
  have hr := B.returns
  have hts := atoms_spec (ws := ws_ yX2_getValue cX2_getValue 1 (some .long)) B.pre
  have hts : ∀ w ∈ lw_all, w.before _ s = true := fun w h => hts w (List.mem_cons_of_mem _ h)
  have hown : s.vm.findClass RX2 = some m.cls := findClass_of_methodNamed B.named
  have hlocks := B.notSynchronized
  subst hsz
  have hD := hD0.self (sz := s.heap.size)
  generalize hAe : va_A [(h0, .inr (2, [.int (sj_i x)]))] s.heap.size = A at hD hT ⊢
  have hA : ∀ q : Nat, s.heap.size ≤ q → A q := fun q h => by rw [← hAe]; exact Or.inr h
  have hS : va_S A s.heap s.heap [] := va_S.rf
  have hP : va_P D vwCl [(h0, .inr (2, [.int (sj_i x)]))] s.heap := hP
  have hl := lv_entry ([.ref h0]) (n := 1) (Nat.le_of_ble_eq_true rfl)
  rw [lg_entry_eq]
  generalize (lg_sl ([.ref h0]) ++ List.replicate (1 - (lg_sl ([.ref h0])).length) Slot.unset).toArray = ls at hl ⊢
  have hl : lv_has ls 1 [(0, .ref h0)] := hl
  refine lv_aload_n hx hb dX2_getValue_0 rfl (lv_at hl 0 rfl) ?_
  refine va_get (D := D) (ci := 2) (v := .int (sj_i x)) (C := RX2) (T := TX2) (N := 1) hx hb hts in_X2 hown hK hP 0 rfl rfl 0 (by decide) (hts _ q65) (fun _ h9 => h9) rfl dX2_getValue_1 ?_
  refine lv_i2l (v := (sj_i x).toInt64) hx hb dX2_getValue_4 (rfl) ?_
  refine lv_ldc2 hx hb hown (hts _ q79) dX2_getValue_5 ?_
  refine lv_land hx hb dX2_getValue_8 ?_
  refine sj_tl (sj_l x) (sj_gv x) ?_
  have hP9 := hP.sub (ws' := [(h0, .inr (2, [.int (sj_i x)]))]) [0] rfl
  have hD9 := hD.sub (ws' := [(h0, .inr (2, [.int (sj_i x)]))]) [0] (by decide) rfl
  exact W.lret (v := sj_l x) hx hb hr (fun t ht hW => ⟨⟨sj_l x, (), rfl, rfl, by rw [ht]; exact hP9, hD9⟩, hS.F ht⟩) hS.2.2 dX2_getValue_9
set_option maxHeartbeats 4000000 in
set_option maxRecDepth 100000 in
/-- update: the loop, k bytes left -/
theorem lp_X2_update {p : Program} {l : Launch} {e : Env} {R : Room} {s : State} {m : MethodId} {args : Array Value} {below : List Frame} {meth : Method} {c : Code} {cells slots : Nat} {Q : State → Prop} {D : va_G} {tb : Nat} {A : Nat → Prop} {H : Heap} {locs : List Loc} {h0 h1 : Nat} {cB : ClassId} {f : Nat → Int32} (hx : p.tables.exec = Jvm.exec) (hb : c.code = cX2_update) (hts : ∀ w ∈ lw_all, w.before args s = true) (hown : s.vm.findClass RX2 = some m.cls) (hK : va_K D vwCl [(cB, .byte)] s) (hP : va_P D vwCl [(h0, .inr (2, [.int 0])), (h1, .inl (cB, 4096, .inl f))] H) (hS : va_S A s.heap H locs) (hT : sj_T tb A s s.heap) (p0 n : Nat) (hn : p0 + n ≤ 4096)
    (kk : ∀ ls : Array Slot, lv_has ls 5 [(0, .ref h0), (4, .int (sj_i (sj_cf f p0 n sj_on)))] → W p l e R s m args below meth c H locs cells slots Q (F0 m 43 ls [])) :
    ∀ (k i : Nat), i + k = n → ∀ ls : Array Slot, lv_has ls 5 [(0, .ref h0), (1, .ref h1), (2, .int (nI (p0 + i))), (3, .int (nI k)), (4, .int (sj_i (sj_cf f p0 i sj_on)))] → W p l e R s m args below meth c H locs cells slots Q (F0 m 8 ls []) := by
  intro k
  induction k with
  | zero =>
    intro i hi ls hl
    refine lv_iinc (v := -1) (lv' := [(3, .int (-1)), (0, .ref h0), (1, .ref h1), (2, .int (nI (p0 + i))), (4, .int (sj_i (sj_cf f p0 i sj_on)))]) hx hb dX2_update_8 hl (k := 3) rfl (by decide) (by decide) rfl (fun ls hl => ?_)
    refine lv_iload_n hx hb dX2_update_11 rfl (lv_at hl 0 rfl) ?_
    refine lv_if_lt (tgt := 43) hx hb dX2_update_12 (by decide) (fun _ => ?_) (fun h9 => absurd (by decide) h9)
    have e : i = n := by omega
    subst e
    exact kk ls (lv_sub hl [1, 4] rfl)
  | succ k ih =>
    intro i hi ls hl
    refine lv_iinc (v := nI k) (lv' := [(3, .int (nI k)), (0, .ref h0), (1, .ref h1), (2, .int (nI (p0 + i))), (4, .int (sj_i (sj_cf f p0 i sj_on)))]) hx hb dX2_update_8 hl (k := 3) rfl (pk_m1 k) (by decide) rfl (fun ls hl => ?_)
    refine lv_iload_n hx hb dX2_update_11 rfl (lv_at hl 0 rfl) ?_
    refine lv_if_lt (tgt := 43) hx hb dX2_update_12 (by decide) (fun h9 => absurd h9 (nI_pos (by omega))) (fun _ => ?_)
    refine va_gets hx hb hT.1 hS hown (hts _ q73) (fun _ h9 => h9) dX2_update_15 ?_
    refine lv_iload hx hb dX2_update_18 (lv_at hl 4 rfl) ?_
    refine lv_aload_n hx hb dX2_update_20 rfl (lv_at hl 2 rfl) ?_
    refine lv_iload_n hx hb dX2_update_21 rfl (lv_at hl 3 rfl) ?_
    refine lv_iinc (v := nI (p0 + (i + 1))) (lv' := [(2, .int (nI (p0 + (i + 1)))), (3, .int (nI k)), (0, .ref h0), (1, .ref h1), (4, .int (sj_i (sj_cf f p0 i sj_on)))]) hx hb dX2_update_22 hl (k := 3) rfl (nI_1 (p0 + i)) (by decide) rfl (fun ls hl => ?_)
    refine sj_bald hx hb hK hP 1 0 rfl rfl (j := (p0 + i)) (by omega) (by decide) dX2_update_25 ?_
    refine lv_ixor hx hb dX2_update_26 ?_
    refine lv_sipush (v := 255) hx hb dX2_update_27 (by decide) ?_
    refine lv_iand hx hb dX2_update_30 ?_
    refine va_ti hx hb hT.2 hS (pk_andIn _ (m := 255) 8 (by decide) (by decide)) (v := .int (sj_i (sj_cn 8 (((sj_cf f p0 i sj_on) ^^^ (f (p0 + i)).toBitVec) &&& 255#32)))) (congrArg Value.int (sj_tv _)) dX2_update_31 ?_
    refine lv_iload hx hb dX2_update_32 (lv_at hl 4 rfl) ?_
    refine lv_bipush (v := 8) hx hb dX2_update_34 (by decide) ?_
    refine lv_iushr (v := sj_i ((sj_cf f p0 i sj_on) >>> 8)) hx hb dX2_update_36 (sj_us8 _) ?_
    refine lv_ixor hx hb dX2_update_37 ?_
    refine sj_ti (sj_i (sj_cf f p0 (i + 1) sj_on)) (sj_upd f p0 i _ _ rfl rfl) ?_
    refine lv_istore (lv' := [(4, .int (sj_i (sj_cf f p0 (i + 1) sj_on))), (2, .int (nI (p0 + (i + 1)))), (3, .int (nI k)), (0, .ref h0), (1, .ref h1)]) hx hb dX2_update_38 hl (by decide) rfl (fun ls hl => ?_)
    refine lv_goto (tgt := 8) hx hb dX2_update_40 (by decide) ?_
    exact ih (i + 1) (by omega) ls (lv_sub hl [3, 4, 1, 2, 0] rfl)
set_option maxHeartbeats 4000000 in
set_option maxRecDepth 100000 in
/-- CRC32.update(buf, p, n) at a fresh sum -/
theorem met_X2_update (l : Launch) (D : va_G) (tb sz : Nat) (h0 h1 : Nat) (cB : ClassId) (f : Nat → Int32) (p0 n : Nat) (hn : p0 + n ≤ 4096) : sj_MV l yX2_update cX2_update 5 ({ frames := 0, cells := 0, slots := 0, locals := 0 }) [.ref h0, .ref h1, .int (nI p0), .int (nI n)] D tb [(h0, .inr (2, [.int 0])), (h1, .inl (cB, 4096, .inl f))] [(cB, .byte)] sz [(h0, .inr (2, [.int (sj_i (sj_cv f p0 n))])), (h1, .inl (cB, 4096, .inl f))] 0 0 := by
  refine Met.ofW (cc := cX2_update) (maxL := 5) (ret := none) (by decide) rfl ?_
  intro p e s m args below meth c s₁ B hml hv
  obtain ⟨rfl, hsz, hP, hK, hD0, hT⟩ := hv
  have hx := B.exec
  have hb := B.bytes
  have hr := B.returns
  have hts := atoms_spec (ws := ws_ yX2_update cX2_update 5 none) B.pre
  have hts : ∀ w ∈ lw_all, w.before _ s = true := fun w h => hts w (List.mem_cons_of_mem _ h)
  have hown : s.vm.findClass RX2 = some m.cls := findClass_of_methodNamed B.named
  have hlocks := B.notSynchronized
  subst hsz
  have hD := hD0.self (sz := s.heap.size)
  generalize hAe : va_A [(h0, .inr (2, [.int 0])), (h1, .inl (cB, 4096, .inl f))] s.heap.size = A at hD hT ⊢
  have hA : ∀ q : Nat, s.heap.size ≤ q → A q := fun q h => by rw [← hAe]; exact Or.inr h
  have hS : va_S A s.heap s.heap [] := va_S.rf
  have hP : va_P D vwCl [(h0, .inr (2, [.int 0])), (h1, .inl (cB, 4096, .inl f))] s.heap := hP
  have hl := lv_entry ([.ref h0, .ref h1, .int (nI p0), .int (nI n)]) (n := 5) (Nat.le_of_ble_eq_true rfl)
  rw [lg_entry_eq]
  generalize (lg_sl ([.ref h0, .ref h1, .int (nI p0), .int (nI n)]) ++ List.replicate (5 - (lg_sl ([.ref h0, .ref h1, .int (nI p0), .int (nI n)])).length) Slot.unset).toArray = ls at hl ⊢
  have hl : lv_has ls 5 [(0, .ref h0), (1, .ref h1), (2, .int (nI p0)), (3, .int (nI n))] := hl
  refine lv_aload_n hx hb dX2_update_0 rfl (lv_at hl 0 rfl) ?_
  refine va_get (D := D) (ci := 2) (v := .int 0) (C := RX2) (T := TX2) (N := 1) hx hb hts in_X2 hown hK hP 0 rfl rfl 0 (by decide) (hts _ q65) (fun _ h9 => h9) rfl dX2_update_1 ?_
  refine lv_iconst (v := -1) hx hb dX2_update_4 (by decide) ?_
  refine lv_ixor hx hb dX2_update_5 ?_
  refine sj_ti (sj_i (sj_cf f p0 0 sj_on)) (show (0 : Int32) ^^^ -1 = sj_i sj_on from by decide) ?_
  refine lv_istore (lv' := [(4, .int (sj_i (sj_cf f p0 0 sj_on))), (0, .ref h0), (1, .ref h1), (2, .int (nI p0)), (3, .int (nI n))]) hx hb dX2_update_6 hl (by decide) rfl (fun ls hl => ?_)
  refine lp_X2_update hx hb hts hown hK hP hS hT p0 n hn ?_ n 0 (Nat.zero_add n) ls (lv_sub hl [1, 2, 3, 4, 0] rfl)
  intro ls hl
  refine lv_aload_n hx hb dX2_update_43 rfl (lv_at hl 0 rfl) ?_
  refine lv_iload hx hb dX2_update_44 (lv_at hl 1 rfl) ?_
  refine lv_iconst (v := -1) hx hb dX2_update_46 (by decide) ?_
  refine lv_ixor hx hb dX2_update_47 ?_
  refine sj_ti (sj_i (sj_cv f p0 n)) (rfl) ?_
  refine va_put (D := D) (ci := 2) (v := .int (sj_i (sj_cv f p0 n))) (ty := .int) (C := RX2) (T := TX2) (N := 1) hx hb hts in_X2 tyX2 tyX2_ok nmX2 hown hK hP hD hS 0 rfl rfl 0 (by decide) (hts _ q65) (fun _ h9 => h9) rfl (by decide +kernel) rfl rfl (Nat.le_of_ble_eq_true rfl) dX2_update_48 (fun H locs hP hD hS => ?_)
  have hP : va_P D vwCl [(h0, .inr (2, [.int (sj_i (sj_cv f p0 n))])), (h1, .inl (cB, 4096, .inl f))] H := hP
  have hD : va_D A [(h0, .inr (2, [.int (sj_i (sj_cv f p0 n))])), (h1, .inl (cB, 4096, .inl f))] := hD
  have hP9 := hP.sub (ws' := [(h0, .inr (2, [.int (sj_i (sj_cv f p0 n))])), (h1, .inl (cB, 4096, .inl f))]) [0, 1] rfl
  have hD9 := hD.sub (ws' := [(h0, .inr (2, [.int (sj_i (sj_cv f p0 n))])), (h1, .inl (cB, 4096, .inl f))]) [0, 1] (by decide) rfl
  exact W.vret hx hb hr (fun t ht hW => ⟨⟨(), rfl, trivial, by rw [ht]; exact hP9, hD9⟩, hS.F ht⟩) hS.2.2 dX2_update_51
end
section
/-! CRC32: matrices and combine -/
set_option maxRecDepth 100000
theorem sj_tmT {k i : Nat} {v : BitVec 32} (h : ¬ sj_l (v >>> i) &&& 1 = 0) : sj_l (sj_cn k (sj_lo v i)) ^^^ sj_l (sj_cn k (BitVec.twoPow 32 i)) = sj_l (sj_cn k (sj_lo v (i + 1))) := by
  have hb : (v >>> i).getLsbD 0 = true := by
    cases hc : (v >>> i).getLsbD 0
    · exact absurd ((sj_lb _).mpr hc) h
    · rfl
  rw [sj_lx, ← sj_cn_xor, ← sj_lo_T hb]
theorem sj_tmF {k i : Nat} {v : BitVec 32} (h : sj_l (v >>> i) &&& 1 = 0) : sj_lo v (i + 1) = sj_lo v i := sj_lo_F ((sj_lb _).mp h)
theorem sj_tmS {i : Nat} {v : BitVec 32} : sj_l (v >>> i) >>> ((1 : Int32).toInt64 &&& 63) = sj_l (v >>> (i + 1)) := by
  rw [sj_lsr, BitVec.shiftRight_add]
theorem sj_half1 {F N : Nat} {x z : BitVec 32} (h : sj_cn (F * N) x = z) (hN : N % 2 = 1) : sj_cn ((F + F) * (N / 2)) (sj_cn F x) = z := by
  rw [← sj_cn_add, ← h]
  congr 1
  have e : N = 1 + (N / 2 + N / 2) := by omega
  rw [Nat.add_mul, ← Nat.mul_add]
  calc F + F * (N / 2 + N / 2) = F * 1 + F * (N / 2 + N / 2) := by rw [Nat.mul_one]
    _ = F * (1 + (N / 2 + N / 2)) := by rw [← Nat.mul_add]
    _ = F * N := by rw [← e]
theorem sj_half0 {F N : Nat} {x z : BitVec 32} (h : sj_cn (F * N) x = z) (hN : N % 2 = 0) : sj_cn ((F + F) * (N / 2)) x = z := by
  rw [← h]
  congr 1
  have e : N = N / 2 + N / 2 := by omega
  rw [Nat.add_mul, ← Nat.mul_add, ← e]
theorem sj_bitN {N : Nat} (hN : N ≤ 4096) : lN N &&& 1 = lN (N % 2) := wb_a1 (by omega)
theorem sj_halfN {N : Nat} (hN : N ≤ 4096) : lN N >>> ((1 : Int32).toInt64 &&& 63) = lN (N / 2) := pf_shr (d := 1) (by decide) (by omega)
theorem sj_lN0 {N : Nat} (hN : N ≤ 4096) : lN N = 0 ↔ N = 0 := by
  rw [show (0 : Int64) = lN 0 from rfl, pk_lEQ (by omega) (by decide)]
set_option maxHeartbeats 4000000 in
set_option maxRecDepth 100000 in
/-- times: the loop at bit i -/
theorem lp_X2_times {p : Program} {l : Launch} {e : Env} {R : Room} {s : State} {m : MethodId} {args : Array Value} {below : List Frame} {meth : Method} {c : Code} {cells slots : Nat} {Q : State → Prop} {D : va_G} {H : Heap} {locs : List Loc} {h0 : Nat} {cJ : ClassId} {a : Nat → Int64} (hx : p.tables.exec = Jvm.exec) (hb : c.code = cX2_gf2_matrix_times) (hK : va_K D vwCl [(cJ, .long)] s) (hP : va_P D vwCl [(h0, .inl (cJ, 32, .inr (.inl a)))] H) (k : Nat) (ha : sj_rp a k) (v : BitVec 32)
    (kk : ∀ ls : Array Slot, lv_has ls 6 [(3, .long (sj_l (sj_cn k v)))] → W p l e R s m args below meth c H locs cells slots Q (F0 m 36 ls [])) :
    ∀ (n i : Nat), i ≤ 32 → 33 ≤ i + n → ∀ ls : Array Slot, lv_has ls 6 [(0, .ref h0), (1, .long (sj_l (v >>> i))), (3, .long (sj_l (sj_cn k (sj_lo v i)))), (5, .int (nI i))] → W p l e R s m args below meth c H locs cells slots Q (F0 m 5 ls []) := by
  intro n
  induction n with
  | zero =>
    intro i h1 h2
    exact absurd h2 (by omega)
  | succ n ih =>
    intro i h1 h2 ls hl
    have tail : i < 32 → ∀ ls : Array Slot, lv_has ls 6 [(0, .ref h0), (1, .long (sj_l (v >>> i))), (3, .long (sj_l (sj_cn k (sj_lo v (i + 1))))), (5, .int (nI i))] → W p l e R s m args below meth c H locs cells slots Q (F0 m 26 ls []) := by
      intro hi ls hl
      refine lv_lload_n hx hb dX2_gf2_matrix_times_26 rfl (lv_at hl 1 rfl) ?_
      refine lv_iconst (v := 1) hx hb dX2_gf2_matrix_times_27 (by decide) ?_
      refine lv_lshr (v := sj_l (v >>> (i + 1))) hx hb dX2_gf2_matrix_times_28 (sj_tmS) ?_
      refine lv_lstore_n (lv' := [(1, .long (sj_l (v >>> (i + 1)))), (0, .ref h0), (3, .long (sj_l (sj_cn k (sj_lo v (i + 1))))), (5, .int (nI i))]) hx hb dX2_gf2_matrix_times_29 rfl hl (by decide) rfl (fun ls hl => ?_)
      refine lv_iinc (v := nI (i + 1)) (lv' := [(5, .int (nI (i + 1))), (1, .long (sj_l (v >>> (i + 1)))), (0, .ref h0), (3, .long (sj_l (sj_cn k (sj_lo v (i + 1)))))]) hx hb dX2_gf2_matrix_times_30 hl (k := 3) rfl (nI_1 i) (by decide) rfl (fun ls hl => ?_)
      refine lv_goto (tgt := 5) hx hb dX2_gf2_matrix_times_33 (by decide) ?_
      exact ih (i + 1) (by omega) (by omega) ls (lv_sub hl [2, 1, 3, 0] rfl)
    refine lv_lload_n hx hb dX2_gf2_matrix_times_5 rfl (lv_at hl 1 rfl) ?_
    refine lv_lconst (v := 0) hx hb dX2_gf2_matrix_times_6 (by decide) ?_
    refine W.lcmp hx hb dX2_gf2_matrix_times_7 ?_
    refine lv_if_eq (tgt := 36) hx hb dX2_gf2_matrix_times_8 (by decide) (fun c1 => ?_) (fun c1 => ?_)
    · have e := sj_lo_all ((sj_l0 _).mp (sj_cmp0.mp c1))
      rw [e] at hl
      exact kk ls (lv_sub hl [2] rfl)
    · have hi : i < 32 := sj_lo_lt (fun z => c1 (sj_cmp0.mpr ((sj_l0 _).mpr z)))
      refine lv_lload_n hx hb dX2_gf2_matrix_times_11 rfl (lv_at hl 1 rfl) ?_
      refine lv_lconst (v := 1) hx hb dX2_gf2_matrix_times_12 (by decide) ?_
      refine lv_land hx hb dX2_gf2_matrix_times_13 ?_
      refine lv_lconst (v := 0) hx hb dX2_gf2_matrix_times_14 (by decide) ?_
      refine W.lcmp hx hb dX2_gf2_matrix_times_15 ?_
      refine lv_if_eq (tgt := 26) hx hb dX2_gf2_matrix_times_16 (by decide) (fun c2 => ?_) (fun c2 => ?_)
      · have e := sj_tmF (k := k) (sj_cmp0.mp c2)
        refine tail hi ls ?_
        rw [e]
        exact lv_sub hl [0, 1, 2, 3] rfl
      · refine lv_lload_n hx hb dX2_gf2_matrix_times_19 rfl (lv_at hl 2 rfl) ?_
        refine lv_aload_n hx hb dX2_gf2_matrix_times_20 rfl (lv_at hl 0 rfl) ?_
        refine lv_iload hx hb dX2_gf2_matrix_times_21 (lv_at hl 3 rfl) ?_
        refine sj_lald hx hb hK hP 0 0 rfl rfl (j := i) (by omega) (by decide) dX2_gf2_matrix_times_23 ?_
        refine sj_tl (sj_l (sj_cn k (BitVec.twoPow 32 i))) (ha i hi) ?_
        refine lv_lxor hx hb dX2_gf2_matrix_times_24 ?_
        refine sj_tl (sj_l (sj_cn k (sj_lo v (i + 1)))) (sj_tmT (fun z => c2 (sj_cmp0.mpr z))) ?_
        refine lv_lstore_n (lv' := [(3, .long (sj_l (sj_cn k (sj_lo v (i + 1))))), (0, .ref h0), (1, .long (sj_l (v >>> i))), (5, .int (nI i))]) hx hb dX2_gf2_matrix_times_25 rfl hl (by decide) rfl (fun ls hl => ?_)
        exact tail hi ls (lv_sub hl [1, 2, 0, 3] rfl)
theorem sj_cn0 (k : Nat) : sj_cn k 0#32 = 0#32 := by
  have h := sj_cn_xor k 0#32 0#32
  rw [BitVec.xor_self, BitVec.xor_self] at h
  exact h
theorem sj_z0 (k : Nat) (v : BitVec 32) : (0 : Int64) = sj_l (sj_cn k (sj_lo v 0)) := by
  rw [sj_lo0, sj_cn0]
  rfl
set_option maxHeartbeats 4000000 in
set_option maxRecDepth 100000 in
/-- gf2_matrix_times(mat, vec): mat holds the k-th power -/
theorem met_X2_times (l : Launch) (D : va_G) (tb sz : Nat) (h0 : Nat) (cJ : ClassId) (a : Nat → Int64) (k : Nat) (ha : sj_rp a k) (v : BitVec 32) : sj_ML l yX2_gf2_matrix_times cX2_gf2_matrix_times 6 ({ frames := 0, cells := 0, slots := 0, locals := 0 }) [.ref h0, .long (sj_l v)] D tb [(h0, .inl (cJ, 32, .inr (.inl a)))] [(cJ, .long)] sz (sj_l (sj_cn k v)) [(h0, .inl (cJ, 32, .inr (.inl a)))] 0 0 := by
  refine Met.ofW (cc := cX2_gf2_matrix_times) (maxL := 6) (ret := (some .long)) (by decide) rfl ?_
  intro p e s m args below meth c s₁ B hml hv
  obtain ⟨rfl, hsz, hP, hK, hD0, hT⟩ := hv
  have hx := B.exec
  have hb := B.bytes
  have hr := B.returns
  have hts := atoms_spec (ws := ws_ yX2_gf2_matrix_times cX2_gf2_matrix_times 6 (some .long)) B.pre
  have hts : ∀ w ∈ lw_all, w.before _ s = true := fun w h => hts w (List.mem_cons_of_mem _ h)
  have hown : s.vm.findClass RX2 = some m.cls := findClass_of_methodNamed B.named
  have hlocks := B.notSynchronized
  subst hsz
  have hD := hD0.self (sz := s.heap.size)
  generalize hAe : va_A [(h0, .inl (cJ, 32, .inr (.inl a)))] s.heap.size = A at hD hT ⊢
  have hA : ∀ q : Nat, s.heap.size ≤ q → A q := fun q h => by rw [← hAe]; exact Or.inr h
  have hS : va_S A s.heap s.heap [] := va_S.rf
  have hP : va_P D vwCl [(h0, .inl (cJ, 32, .inr (.inl a)))] s.heap := hP
  have hl := lv_entry ([.ref h0, .long (sj_l v)]) (n := 6) (Nat.le_of_ble_eq_true rfl)
  rw [lg_entry_eq]
  generalize (lg_sl ([.ref h0, .long (sj_l v)]) ++ List.replicate (6 - (lg_sl ([.ref h0, .long (sj_l v)])).length) Slot.unset).toArray = ls at hl ⊢
  have hl : lv_has ls 6 [(0, .ref h0), (1, .long (sj_l v))] := hl
  refine lv_lconst (v := 0) hx hb dX2_gf2_matrix_times_0 (by decide) ?_
  refine sj_tl (sj_l (sj_cn k (sj_lo v 0))) (sj_z0 k v) ?_
  refine lv_lstore_n (lv' := [(3, .long (sj_l (sj_cn k (sj_lo v 0)))), (0, .ref h0), (1, .long (sj_l v))]) hx hb dX2_gf2_matrix_times_1 rfl hl (by decide) rfl (fun ls hl => ?_)
  refine lv_iconst (v := nI 0) hx hb dX2_gf2_matrix_times_2 (by decide) ?_
  refine lv_istore (lv' := [(5, .int (nI 0)), (3, .long (sj_l (sj_cn k (sj_lo v 0)))), (0, .ref h0), (1, .long (sj_l v))]) hx hb dX2_gf2_matrix_times_3 hl (by decide) rfl (fun ls hl => ?_)
  rw [show sj_l v = sj_l (v >>> 0) from by rw [BitVec.ushiftRight_zero]] at hl
  refine lp_X2_times hx hb hK hP k ha v ?_ 33 0 (by omega) (by omega) ls (lv_sub hl [2, 3, 1, 0] rfl)
  intro ls hl
  refine lv_lload_n hx hb dX2_gf2_matrix_times_36 rfl (lv_at hl 0 rfl) ?_
  have hP9 := hP.sub (ws' := [(h0, .inl (cJ, 32, .inr (.inl a)))]) [0] rfl
  have hD9 := hD.sub (ws' := [(h0, .inl (cJ, 32, .inr (.inl a)))]) [0] (by decide) rfl
  exact W.lret (v := sj_l (sj_cn k v)) hx hb hr (fun t ht hW => ⟨⟨sj_l (sj_cn k v), (), rfl, rfl, by rw [ht]; exact hP9, hD9⟩, hS.F ht⟩) hS.2.2 dX2_gf2_matrix_times_37
set_option maxHeartbeats 4000000 in
set_option maxRecDepth 100000 in
/-- square: the loop at row i -/
theorem lp_X2_square {p : Program} {l : Launch} {e : Env} {s : State} {m : MethodId} {args : Array Value} {below : List Frame} {meth : Method} {c : Code} {Q : State → Prop} {D : va_G} {tb : Nat} {A : Nat → Prop} {h0 h1 : Nat} {cJ cK : ClassId} {a b : Nat → Int64} (hx : p.tables.exec = Jvm.exec) (hb : c.code = cX2_gf2_matrix_square) (hml : c.maxLocals = 3) (hts : ∀ w ∈ lw_all, w.before args s = true) (hown : s.vm.findClass RX2 = some m.cls) (hA : ∀ q : Nat, s.heap.size ≤ q → A q) (hK : va_K D vwCl [(cJ, .long), (cK, .long)] s) (hT : sj_T tb A s s.heap) (k : Nat) (ha : sj_rp b k)
    (kk : ∀ (H : Heap) (locs : List Loc), va_P D vwCl [(h0, .inl (cJ, 32, .inr (.inl (sj_sq a k 32)))), (h1, .inl (cK, 32, .inr (.inl b)))] H → va_D A [(h0, .inl (cJ, 32, .inr (.inl (sj_sq a k 32)))), (h1, .inl (cK, 32, .inr (.inl b)))] → va_S A s.heap H locs → ∀ ls : Array Slot, lv_has ls 3 [(0, .ref h0)] → W p l e (headSpec (ws_ yX2_gf2_matrix_square cX2_gf2_matrix_square 3 none) ({ frames := 1, cells := 0, slots := 0, locals := 25 })).room s m args below meth c H locs 0 0 Q (F0 m 24 ls [])) :
    ∀ (n i : Nat), i + n = 32 → ∀ (H : Heap) (locs : List Loc), va_P D vwCl [(h0, .inl (cJ, 32, .inr (.inl (sj_sq a k i)))), (h1, .inl (cK, 32, .inr (.inl b)))] H → va_D A [(h0, .inl (cJ, 32, .inr (.inl (sj_sq a k i)))), (h1, .inl (cK, 32, .inr (.inl b)))] → va_S A s.heap H locs → ∀ ls : Array Slot, lv_has ls 3 [(0, .ref h0), (1, .ref h1), (2, .int (nI i))] → W p l e (headSpec (ws_ yX2_gf2_matrix_square cX2_gf2_matrix_square 3 none) ({ frames := 1, cells := 0, slots := 0, locals := 25 })).room s m args below meth c H locs 0 0 Q (F0 m 2 ls []) := by
  intro n
  induction n with
  | zero =>
    intro i hi H locs hP hD hS ls hl
    refine lv_iload_n hx hb dX2_gf2_matrix_square_2 rfl (lv_at hl 2 rfl) ?_
    refine lv_bipush (v := nI 32) hx hb dX2_gf2_matrix_square_3 (by decide) ?_
    refine lv_icmp_ge (tgt := 24) hx hb dX2_gf2_matrix_square_5 (by decide) (fun _ => ?_) (fun h9 => absurd (nI_le (by omega) (by omega)) h9)
    have e : i = 32 := by omega
    subst e
    exact kk H locs hP hD hS ls (lv_sub hl [0] rfl)
  | succ n ih =>
    intro i hi H locs hP hD hS ls hl
    refine lv_iload_n hx hb dX2_gf2_matrix_square_2 rfl (lv_at hl 2 rfl) ?_
    refine lv_bipush (v := nI 32) hx hb dX2_gf2_matrix_square_3 (by decide) ?_
    refine lv_icmp_ge (tgt := 24) hx hb dX2_gf2_matrix_square_5 (by decide) (fun h9 => absurd h9 (nI_ge (show i < 32 by omega) (by omega))) (fun _ => ?_)
    refine lv_aload_n hx hb dX2_gf2_matrix_square_8 rfl (lv_at hl 0 rfl) ?_
    refine lv_iload_n hx hb dX2_gf2_matrix_square_9 rfl (lv_at hl 2 rfl) ?_
    refine lv_aload_n hx hb dX2_gf2_matrix_square_10 rfl (lv_at hl 1 rfl) ?_
    refine lv_aload_n hx hb dX2_gf2_matrix_square_11 rfl (lv_at hl 1 rfl) ?_
    refine lv_iload_n hx hb dX2_gf2_matrix_square_12 rfl (lv_at hl 2 rfl) ?_
    refine sj_lald hx hb hK hP 1 1 rfl rfl (j := i) (by omega) (by decide) dX2_gf2_matrix_square_13 ?_
    refine sj_tl (sj_l (sj_cn k (BitVec.twoPow 32 i))) (ha i (by omega)) ?_
    refine sj_cl_ (wr := [(h0, .inl (cJ, 32, .inr (.inl (sj_sq a k i))))]) (w1 := [(h1, .inl (cK, 32, .inr (.inl b)))]) (wf := [(h0, .inl (cJ, 32, .inr (.inl (sj_sq a k i)))), (h1, .inl (cK, 32, .inr (.inl b)))]) (va_runS (As := [.ref h1, .long (sj_l (sj_cn k (BitVec.twoPow 32 i)))]) (rest := [.int (nI i), .ref h0]) ⟨hx, hb, hml, hown, hts⟩ (met_X2_times l D tb H.size h1 cK b k ha _) (va_cwS 2 hts (lw_S q117 q118 q9 q119) rfl rfl rfl (by decide +kernel) ⟨Nat.le_of_ble_eq_true rfl, Nat.le_of_ble_eq_true rfl⟩) (sj_preS hK hP hD hS hA hT [1] rfl rfl (by decide) [1] rfl) rfl rfl hl.1 rfl (lv_room (Nat.le_of_ble_eq_true rfl)) dX2_gf2_matrix_square_14 ⟨Nat.le_of_ble_eq_true rfl, Nat.le_of_ble_eq_true rfl⟩) hP hD hS hA [1] [0] rfl rfl (by decide) (by decide) [0, 1] rfl rfl (by decide) (fun H locs hP hD hS => ?_)
    refine sj_last hx hb hK hP hD hS 0 0 rfl rfl (j := i) (by omega) (by decide) (g := sj_sq a k (i + 1)) (sj_sqS a k i) dX2_gf2_matrix_square_17 (fun H locs hP hD hS => ?_)
    have hP : va_P D vwCl [(h0, .inl (cJ, 32, .inr (.inl (sj_sq a k (i + 1))))), (h1, .inl (cK, 32, .inr (.inl b)))] H := hP
    have hD : va_D A [(h0, .inl (cJ, 32, .inr (.inl (sj_sq a k (i + 1))))), (h1, .inl (cK, 32, .inr (.inl b)))] := hD
    refine lv_iinc (v := nI (i + 1)) (lv' := [(2, .int (nI (i + 1))), (0, .ref h0), (1, .ref h1)]) hx hb dX2_gf2_matrix_square_18 hl (k := 2) rfl (nI_1 i) (by decide) rfl (fun ls hl => ?_)
    refine lv_goto (tgt := 2) hx hb dX2_gf2_matrix_square_21 (by decide) ?_
    exact ih (i + 1) (by omega) H locs hP hD hS ls (lv_sub hl [1, 2, 0] rfl)
set_option maxHeartbeats 4000000 in
set_option maxRecDepth 100000 in
/-- gf2_matrix_square(square, mat): mat holds the k-th power -/
theorem met_X2_square (l : Launch) (D : va_G) (tb sz : Nat) (h0 h1 : Nat) (cJ cK : ClassId) (a b : Nat → Int64) (k : Nat) (ha : sj_rp b k) : sj_MV l yX2_gf2_matrix_square cX2_gf2_matrix_square 3 ({ frames := 1, cells := 0, slots := 0, locals := 25 }) [.ref h0, .ref h1] D tb [(h0, .inl (cJ, 32, .inr (.inl a))), (h1, .inl (cK, 32, .inr (.inl b)))] [(cJ, .long), (cK, .long)] sz [(h0, .inl (cJ, 32, .inr (.inl (sj_sq a k 32)))), (h1, .inl (cK, 32, .inr (.inl b)))] 0 0 := by
  refine Met.ofW (cc := cX2_gf2_matrix_square) (maxL := 3) (ret := none) (by decide) rfl ?_
  intro p e s m args below meth c s₁ B hml hv
  obtain ⟨rfl, hsz, hP, hK, hD0, hT⟩ := hv
  have hx := B.exec
  have hb := B.bytes
  have hr := B.returns
  have hts := atoms_spec (ws := ws_ yX2_gf2_matrix_square cX2_gf2_matrix_square 3 none) B.pre
  have hts : ∀ w ∈ lw_all, w.before _ s = true := fun w h => hts w (List.mem_cons_of_mem _ h)
  have hown : s.vm.findClass RX2 = some m.cls := findClass_of_methodNamed B.named
  have hlocks := B.notSynchronized
  subst hsz
  have hD := hD0.self (sz := s.heap.size)
  generalize hAe : va_A [(h0, .inl (cJ, 32, .inr (.inl a))), (h1, .inl (cK, 32, .inr (.inl b)))] s.heap.size = A at hD hT ⊢
  have hA : ∀ q : Nat, s.heap.size ≤ q → A q := fun q h => by rw [← hAe]; exact Or.inr h
  have hS : va_S A s.heap s.heap [] := va_S.rf
  have hP : va_P D vwCl [(h0, .inl (cJ, 32, .inr (.inl a))), (h1, .inl (cK, 32, .inr (.inl b)))] s.heap := hP
  have hl := lv_entry ([.ref h0, .ref h1]) (n := 3) (Nat.le_of_ble_eq_true rfl)
  rw [lg_entry_eq]
  generalize (lg_sl ([.ref h0, .ref h1]) ++ List.replicate (3 - (lg_sl ([.ref h0, .ref h1])).length) Slot.unset).toArray = ls at hl ⊢
  have hl : lv_has ls 3 [(0, .ref h0), (1, .ref h1)] := hl
  refine lv_iconst (v := nI 0) hx hb dX2_gf2_matrix_square_0 (by decide) ?_
  refine lv_istore_n (lv' := [(2, .int (nI 0)), (0, .ref h0), (1, .ref h1)]) hx hb dX2_gf2_matrix_square_1 rfl hl (by decide) rfl (fun ls hl => ?_)
  have hP : va_P D vwCl [(h0, .inl (cJ, 32, .inr (.inl (sj_sq a k 0)))), (h1, .inl (cK, 32, .inr (.inl b)))] s.heap := by rw [sj_sq0]; exact hP
  have hD : va_D A [(h0, .inl (cJ, 32, .inr (.inl (sj_sq a k 0)))), (h1, .inl (cK, 32, .inr (.inl b)))] := by rw [sj_sq0]; exact hD
  refine lp_X2_square hx hb hml hts hown hA hK hT k ha ?_ 32 0 (Nat.zero_add 32) s.heap [] hP hD hS ls (lv_sub hl [1, 2, 0] rfl)
  intro H locs hP hD hS ls hl
  have hP9 := hP.sub (ws' := [(h0, .inl (cJ, 32, .inr (.inl (sj_sq a k 32)))), (h1, .inl (cK, 32, .inr (.inl b)))]) [0, 1] rfl
  have hD9 := hD.sub (ws' := [(h0, .inl (cJ, 32, .inr (.inl (sj_sq a k 32)))), (h1, .inl (cK, 32, .inr (.inl b)))]) [0, 1] (by decide) rfl
  exact W.vret hx hb hr (fun t ht hW => ⟨⟨(), rfl, trivial, by rw [ht]; exact hP9, hD9⟩, hS.F ht⟩) hS.2.2 dX2_gf2_matrix_square_24
end
section
/-! CRC32.combine -/
set_option maxRecDepth 100000
theorem sj_gt0 {x : Int64} : 0 < lg_cmp x 0 ↔ 0 < x := sj_cmpG
theorem sj_nilP {D : va_G} {H : Heap} : va_P D vwCl [] H := fun k q h => by simp at h
theorem sj_nilD {A : Nat → Prop} : va_D A [] := ⟨fun i j p q h => by simp at h, fun k q h => by simp at h⟩
set_option maxHeartbeats 4000000 in
set_option maxRecDepth 100000 in
/-- the matrix of one bit, row i -/
theorem lp_X2_odd {p : Program} {l : Launch} {e : Env} {R : Room} {s : State} {m : MethodId} {args : Array Value} {below : List Frame} {meth : Method} {c : Code} {cells slots : Nat} {Q : State → Prop} {D : va_G} {A : Nat → Prop} {u8 u9 : Nat} {cJ cK : ClassId} {x y z : Int64} (hx : p.tables.exec = Jvm.exec) (hb : c.code = cX2_combine) (hK : va_K D vwCl [(cJ, .long), (cK, .long)] s)
    (kk : ∀ (H : Heap) (locs : List Loc), va_P D vwCl [(u8, .inl (cJ, 32, .inr (.inl (fun _ => 0)))), (u9, .inl (cK, 32, .inr (.inl (sj_od 32))))] H → va_D A [(u8, .inl (cJ, 32, .inr (.inl (fun _ => 0)))), (u9, .inl (cK, 32, .inr (.inl (sj_od 32))))] → va_S A s.heap H locs → ∀ ls : Array Slot, lv_has ls 11 [(0, .long x), (2, .long y), (4, .long z), (8, .ref u8), (9, .ref u9)] → W p l e R s m args below meth c H locs cells slots Q (F0 m 60 ls [])) :
    ∀ (n i : Nat), i + n = 32 → 1 ≤ i → ∀ (H : Heap) (locs : List Loc), va_P D vwCl [(u8, .inl (cJ, 32, .inr (.inl (fun _ => 0)))), (u9, .inl (cK, 32, .inr (.inl (sj_od i))))] H → va_D A [(u8, .inl (cJ, 32, .inr (.inl (fun _ => 0)))), (u9, .inl (cK, 32, .inr (.inl (sj_od i))))] → va_S A s.heap H locs → ∀ ls : Array Slot, lv_has ls 11 [(0, .long x), (2, .long y), (4, .long z), (6, .long (lN (2 ^ (i - 1)))), (8, .ref u8), (9, .ref u9), (10, .int (nI i))] → W p l e R s m args below meth c H locs cells slots Q (F0 m 34 ls []) := by
  intro n
  induction n with
  | zero =>
    intro i hi h1 H locs hP hD hS ls hl
    refine lv_iload hx hb dX2_combine_34 (lv_at hl 6 rfl) ?_
    refine lv_bipush (v := nI 32) hx hb dX2_combine_36 (by decide) ?_
    refine lv_icmp_ge (tgt := 60) hx hb dX2_combine_38 (by decide) (fun _ => ?_) (fun h9 => absurd (nI_le (by omega) (by omega)) h9)
    have e : i = 32 := by omega
    subst e
    exact kk H locs hP hD hS ls (lv_sub hl [0, 1, 2, 4, 5] rfl)
  | succ n ih =>
    intro i hi h1 H locs hP hD hS ls hl
    refine lv_iload hx hb dX2_combine_34 (lv_at hl 6 rfl) ?_
    refine lv_bipush (v := nI 32) hx hb dX2_combine_36 (by decide) ?_
    refine lv_icmp_ge (tgt := 60) hx hb dX2_combine_38 (by decide) (fun h9 => absurd h9 (nI_ge (show i < 32 by omega) (by omega))) (fun _ => ?_)
    refine lv_aload hx hb dX2_combine_41 (lv_at hl 5 rfl) ?_
    refine lv_iload hx hb dX2_combine_43 (lv_at hl 6 rfl) ?_
    refine lv_lload hx hb dX2_combine_45 (lv_at hl 3 rfl) ?_
    refine sj_last hx hb hK hP hD hS 1 1 rfl rfl (j := i) (by omega) (by decide) (g := sj_od (i + 1)) (sj_odS h1) dX2_combine_47 (fun H locs hP hD hS => ?_)
    have hP : va_P D vwCl [(u8, .inl (cJ, 32, .inr (.inl (fun _ => 0)))), (u9, .inl (cK, 32, .inr (.inl (sj_od (i + 1)))))] H := hP
    have hD : va_D A [(u8, .inl (cJ, 32, .inr (.inl (fun _ => 0)))), (u9, .inl (cK, 32, .inr (.inl (sj_od (i + 1)))))] := hD
    refine lv_lload hx hb dX2_combine_48 (lv_at hl 3 rfl) ?_
    refine lv_iconst (v := 1) hx hb dX2_combine_50 (by decide) ?_
    refine lv_lshl (v := lN (2 ^ (i + 1 - 1))) hx hb dX2_combine_51 (sj_row h1 (by omega)) ?_
    refine lv_lstore (lv' := [(6, .long (lN (2 ^ (i + 1 - 1)))), (0, .long x), (2, .long y), (4, .long z), (8, .ref u8), (9, .ref u9), (10, .int (nI i))]) hx hb dX2_combine_52 hl (by decide) rfl (fun ls hl => ?_)
    refine lv_iinc (v := nI (i + 1)) (lv' := [(10, .int (nI (i + 1))), (6, .long (lN (2 ^ (i + 1 - 1)))), (0, .long x), (2, .long y), (4, .long z), (8, .ref u8), (9, .ref u9)]) hx hb dX2_combine_54 hl (k := 6) rfl (nI_1 i) (by decide) rfl (fun ls hl => ?_)
    refine lv_goto (tgt := 34) hx hb dX2_combine_57 (by decide) ?_
    exact ih (i + 1) (by omega) (by omega) H locs hP hD hS ls (lv_sub hl [2, 3, 4, 1, 5, 6, 0] rfl)
set_option maxHeartbeats 4000000 in
set_option maxRecDepth 100000 in
/-- combine: the loop with N zero bytes to add; the second array holds the E-th power -/
theorem lp_X2_comb {p : Program} {l : Launch} {e : Env} {s : State} {m : MethodId} {args : Array Value} {below : List Frame} {meth : Method} {c : Code} {Q : State → Prop} {D : va_G} {tb : Nat} {A : Nat → Prop} {u8 u9 : Nat} {cJ cK : ClassId} (hx : p.tables.exec = Jvm.exec) (hb : c.code = cX2_combine) (hml : c.maxLocals = 11) (hts : ∀ w ∈ lw_all, w.before args s = true) (hown : s.vm.findClass RX2 = some m.cls) (hA : ∀ q : Nat, s.heap.size ≤ q → A q) (hK : va_K D vwCl [(cJ, .long), (cK, .long)] s) (hT : sj_T tb A s s.heap) (y z : BitVec 32)
    (kk : ∀ (H : Heap) (locs : List Loc), va_S A s.heap H locs → ∀ ls : Array Slot, lv_has ls 11 [(0, .long (sj_l z)), (2, .long (sj_l y))] → W p l e (headSpec (ws_ yX2_combine cX2_combine 11 (some .long)) ({ frames := 2, cells := 2, slots := 64, locals := 47 })).room s m args below meth c H locs 2 64 Q (F0 m 149 ls [])) :
    ∀ (n N E : Nat) (x : BitVec 32) (a b : Nat → Int64), N ≤ n → 0 < N → N ≤ 4096 → sj_rp b E → sj_cn ((E + E) * N) x = z → ∀ (H : Heap) (locs : List Loc), va_P D vwCl [(u8, .inl (cJ, 32, .inr (.inl a))), (u9, .inl (cK, 32, .inr (.inl b)))] H → va_D A [(u8, .inl (cJ, 32, .inr (.inl a))), (u9, .inl (cK, 32, .inr (.inl b)))] → va_S A s.heap H locs → ∀ ls : Array Slot, lv_has ls 11 [(0, .long (sj_l x)), (2, .long (sj_l y)), (4, .long (lN N)), (8, .ref u8), (9, .ref u9)] → W p l e (headSpec (ws_ yX2_combine cX2_combine 11 (some .long)) ({ frames := 2, cells := 2, slots := 64, locals := 47 })).room s m args below meth c H locs 2 64 Q (F0 m 74 ls []) := by
  intro n
  induction n with
  | zero =>
    intro N E x a b h1 h2
    exact absurd h2 (by omega)
  | succ n ih =>
    intro N E x a b h1 h2 hN hE hz H locs hP hD hS ls hl
    have tail136 : ∀ x2 : BitVec 32, sj_cn ((((E + E) + (E + E)) + ((E + E) + (E + E))) * (N / 2 / 2)) x2 = z → ∀ (H : Heap) (locs : List Loc), va_P D vwCl [(u8, .inl (cJ, 32, .inr (.inl (sj_sq a E 32)))), (u9, .inl (cK, 32, .inr (.inl (sj_sq b (E + E) 32))))] H → va_D A [(u8, .inl (cJ, 32, .inr (.inl (sj_sq a E 32)))), (u9, .inl (cK, 32, .inr (.inl (sj_sq b (E + E) 32))))] → va_S A s.heap H locs → ∀ ls : Array Slot, lv_has ls 11 [(0, .long (sj_l x2)), (2, .long (sj_l y)), (4, .long (lN (N / 2))), (8, .ref u8), (9, .ref u9)] → W p l e (headSpec (ws_ yX2_combine cX2_combine 11 (some .long)) ({ frames := 2, cells := 2, slots := 64, locals := 47 })).room s m args below meth c H locs 2 64 Q (F0 m 136 ls []) := by
      intro x2 hz2 H locs hP hD hS ls hl
      refine lv_lload hx hb dX2_combine_136 (lv_at hl 2 rfl) ?_
      refine lv_iconst (v := 1) hx hb dX2_combine_138 (by decide) ?_
      refine lv_lshr (v := lN (N / 2 / 2)) hx hb dX2_combine_139 (sj_halfN (by omega)) ?_
      refine lv_lstore (lv' := [(4, .long (lN (N / 2 / 2))), (0, .long (sj_l x2)), (2, .long (sj_l y)), (8, .ref u8), (9, .ref u9)]) hx hb dX2_combine_140 hl (by decide) rfl (fun ls hl => ?_)
      refine lv_lload hx hb dX2_combine_142 (lv_at hl 0 rfl) ?_
      refine lv_lconst (v := 0) hx hb dX2_combine_144 (by decide) ?_
      refine W.lcmp hx hb dX2_combine_145 ?_
      refine lv_if_ne (tgt := 74) hx hb dX2_combine_146 (by decide) (fun c4 => ?_) (fun c4 => ?_)
      · have hne : ¬ N / 2 / 2 = 0 := fun z9 => c4 (sj_cmp0.mpr ((sj_lN0 (by omega)).mpr z9))
        exact ih (N / 2 / 2) ((E + E) + (E + E)) x2 (sj_sq a E 32) (sj_sq b (E + E) 32) (by omega) (by omega) (by omega) (sj_sqR b (E + E)) hz2 H locs hP hD hS ls (lv_sub hl [1, 2, 0, 3, 4] rfl)
      · have he : N / 2 / 2 = 0 := (sj_lN0 (by omega)).mp (sj_cmp0.mp c4)
        rw [he, Nat.mul_zero] at hz2
        have hz3 : x2 = z := hz2
        subst hz3
        exact kk H locs hS ls (lv_sub hl [1, 2] rfl)
    have tail97 : ∀ x1 : BitVec 32, sj_cn (((E + E) + (E + E)) * (N / 2)) x1 = z → ∀ (H : Heap) (locs : List Loc), va_P D vwCl [(u8, .inl (cJ, 32, .inr (.inl (sj_sq a E 32)))), (u9, .inl (cK, 32, .inr (.inl b)))] H → va_D A [(u8, .inl (cJ, 32, .inr (.inl (sj_sq a E 32)))), (u9, .inl (cK, 32, .inr (.inl b)))] → va_S A s.heap H locs → ∀ ls : Array Slot, lv_has ls 11 [(0, .long (sj_l x1)), (2, .long (sj_l y)), (4, .long (lN N)), (8, .ref u8), (9, .ref u9)] → W p l e (headSpec (ws_ yX2_combine cX2_combine 11 (some .long)) ({ frames := 2, cells := 2, slots := 64, locals := 47 })).room s m args below meth c H locs 2 64 Q (F0 m 97 ls []) := by
      intro x1 hz1 H locs hP hD hS ls hl
      refine lv_lload hx hb dX2_combine_97 (lv_at hl 2 rfl) ?_
      refine lv_iconst (v := 1) hx hb dX2_combine_99 (by decide) ?_
      refine lv_lshr (v := lN (N / 2)) hx hb dX2_combine_100 (sj_halfN hN) ?_
      refine lv_lstore (lv' := [(4, .long (lN (N / 2))), (0, .long (sj_l x1)), (2, .long (sj_l y)), (8, .ref u8), (9, .ref u9)]) hx hb dX2_combine_101 hl (by decide) rfl (fun ls hl => ?_)
      refine lv_lload hx hb dX2_combine_103 (lv_at hl 0 rfl) ?_
      refine lv_lconst (v := 0) hx hb dX2_combine_105 (by decide) ?_
      refine W.lcmp hx hb dX2_combine_106 ?_
      refine lv_if_ne (tgt := 113) hx hb dX2_combine_107 (by decide) (fun c2 => ?_) (fun c2 => ?_)
      · refine lv_aload hx hb dX2_combine_113 (lv_at hl 4 rfl) ?_
        refine lv_aload hx hb dX2_combine_115 (lv_at hl 3 rfl) ?_
        refine sj_cv_ (wr := []) (w1 := [(u9, .inl (cK, 32, .inr (.inl (sj_sq b (E + E) 32)))), (u8, .inl (cJ, 32, .inr (.inl (sj_sq a E 32))))]) (wf := [(u8, .inl (cJ, 32, .inr (.inl (sj_sq a E 32)))), (u9, .inl (cK, 32, .inr (.inl (sj_sq b (E + E) 32))))]) (va_runS (As := [.ref u9, .ref u8]) (rest := []) ⟨hx, hb, hml, hown, hts⟩ (met_X2_square l D tb H.size u9 u8 cK cJ b (sj_sq a E 32) (E + E) (sj_sqR a E)) (va_cwS 2 hts (lw_S q114 q115 q9 q116) rfl rfl rfl (by decide +kernel) ⟨Nat.le_of_ble_eq_true rfl, Nat.le_of_ble_eq_true rfl⟩) (sj_preS hK hP hD hS hA hT [1, 0] rfl rfl (by decide) [1, 0] rfl) rfl rfl hl.1 rfl (lv_room (Nat.le_of_ble_eq_true rfl)) dX2_combine_117 ⟨Nat.le_of_ble_eq_true rfl, Nat.le_of_ble_eq_true rfl⟩) hP hD hS hA [1, 0] [] rfl rfl (by decide) (by decide) [1, 0] rfl rfl (by decide) (fun H locs hP hD hS => ?_)
        refine lv_lload hx hb dX2_combine_120 (lv_at hl 0 rfl) ?_
        refine lv_lconst (v := 1) hx hb dX2_combine_122 (by decide) ?_
        refine lv_land hx hb dX2_combine_123 ?_
        refine sj_tl (lN (N / 2 % 2)) (sj_bitN (by omega)) ?_
        refine lv_lconst (v := 0) hx hb dX2_combine_124 (by decide) ?_
        refine W.lcmp hx hb dX2_combine_125 ?_
        refine lv_if_eq (tgt := 136) hx hb dX2_combine_126 (by decide) (fun c3 => ?_) (fun c3 => ?_)
        · exact tail136 x1 (sj_half0 hz1 ((sj_lN0 (by omega)).mp (sj_cmp0.mp c3))) H locs hP hD hS ls (lv_sub hl [1, 2, 0, 3, 4] rfl)
        · have ho : N / 2 % 2 = 1 := by
            have : ¬ N / 2 % 2 = 0 := fun z9 => c3 (sj_cmp0.mpr ((sj_lN0 (by omega)).mpr z9))
            omega
          refine lv_aload hx hb dX2_combine_129 (lv_at hl 4 rfl) ?_
          refine lv_lload_n hx hb dX2_combine_131 rfl (lv_at hl 1 rfl) ?_
          refine sj_cl_ (wr := [(u8, .inl (cJ, 32, .inr (.inl (sj_sq a E 32))))]) (w1 := [(u9, .inl (cK, 32, .inr (.inl (sj_sq b (E + E) 32))))]) (wf := [(u8, .inl (cJ, 32, .inr (.inl (sj_sq a E 32)))), (u9, .inl (cK, 32, .inr (.inl (sj_sq b (E + E) 32))))]) (va_runS (As := [.ref u9, .long (sj_l x1)]) (rest := []) ⟨hx, hb, hml, hown, hts⟩ (met_X2_times l D tb H.size u9 cK (sj_sq b (E + E) 32) ((E + E) + (E + E)) (sj_sqR b (E + E)) x1) (va_cwS 2 hts (lw_S q117 q118 q9 q119) rfl rfl rfl (by decide +kernel) ⟨Nat.le_of_ble_eq_true rfl, Nat.le_of_ble_eq_true rfl⟩) (sj_preS hK hP hD hS hA hT [1] rfl rfl (by decide) [1] rfl) rfl rfl hl.1 rfl (lv_room (Nat.le_of_ble_eq_true rfl)) dX2_combine_132 ⟨Nat.le_of_ble_eq_true rfl, Nat.le_of_ble_eq_true rfl⟩) hP hD hS hA [1] [0] rfl rfl (by decide) (by decide) [0, 1] rfl rfl (by decide) (fun H locs hP hD hS => ?_)
          refine lv_lstore_n (lv' := [(0, .long (sj_l (sj_cn ((E + E) + (E + E)) x1))), (4, .long (lN (N / 2))), (2, .long (sj_l y)), (8, .ref u8), (9, .ref u9)]) hx hb dX2_combine_135 rfl hl (by decide) rfl (fun ls hl => ?_)
          exact tail136 (sj_cn ((E + E) + (E + E)) x1) (sj_half1 hz1 ho) H locs hP hD hS ls (lv_sub hl [0, 2, 1, 3, 4] rfl)
      · have he : N / 2 = 0 := (sj_lN0 (by omega)).mp (sj_cmp0.mp c2)
        rw [he, Nat.mul_zero] at hz1
        have hz3 : x1 = z := hz1
        subst hz3
        refine lv_goto (tgt := 149) hx hb dX2_combine_110 (by decide) ?_
        exact kk H locs hS ls (lv_sub hl [1, 2] rfl)
    refine lv_aload hx hb dX2_combine_74 (lv_at hl 3 rfl) ?_
    refine lv_aload hx hb dX2_combine_76 (lv_at hl 4 rfl) ?_
    refine sj_cv_ (wr := []) (w1 := [(u8, .inl (cJ, 32, .inr (.inl (sj_sq a E 32)))), (u9, .inl (cK, 32, .inr (.inl b)))]) (wf := [(u8, .inl (cJ, 32, .inr (.inl (sj_sq a E 32)))), (u9, .inl (cK, 32, .inr (.inl b)))]) (va_runS (As := [.ref u8, .ref u9]) (rest := []) ⟨hx, hb, hml, hown, hts⟩ (met_X2_square l D tb H.size u8 u9 cJ cK a b E hE) (va_cwS 2 hts (lw_S q114 q115 q9 q116) rfl rfl rfl (by decide +kernel) ⟨Nat.le_of_ble_eq_true rfl, Nat.le_of_ble_eq_true rfl⟩) (sj_preS hK hP hD hS hA hT [0, 1] rfl rfl (by decide) [0, 1] rfl) rfl rfl hl.1 rfl (lv_room (Nat.le_of_ble_eq_true rfl)) dX2_combine_78 ⟨Nat.le_of_ble_eq_true rfl, Nat.le_of_ble_eq_true rfl⟩) hP hD hS hA [0, 1] [] rfl rfl (by decide) (by decide) [0, 1] rfl rfl (by decide) (fun H locs hP hD hS => ?_)
    refine lv_lload hx hb dX2_combine_81 (lv_at hl 2 rfl) ?_
    refine lv_lconst (v := 1) hx hb dX2_combine_83 (by decide) ?_
    refine lv_land hx hb dX2_combine_84 ?_
    refine sj_tl (lN (N % 2)) (sj_bitN hN) ?_
    refine lv_lconst (v := 0) hx hb dX2_combine_85 (by decide) ?_
    refine W.lcmp hx hb dX2_combine_86 ?_
    refine lv_if_eq (tgt := 97) hx hb dX2_combine_87 (by decide) (fun c1 => ?_) (fun c1 => ?_)
    · exact tail97 x (sj_half0 hz ((sj_lN0 (by omega)).mp (sj_cmp0.mp c1))) H locs hP hD hS ls (lv_sub hl [0, 1, 2, 3, 4] rfl)
    · have ho : N % 2 = 1 := by
        have : ¬ N % 2 = 0 := fun z9 => c1 (sj_cmp0.mpr ((sj_lN0 (by omega)).mpr z9))
        omega
      refine lv_aload hx hb dX2_combine_90 (lv_at hl 3 rfl) ?_
      refine lv_lload_n hx hb dX2_combine_92 rfl (lv_at hl 0 rfl) ?_
      refine sj_cl_ (wr := [(u9, .inl (cK, 32, .inr (.inl b)))]) (w1 := [(u8, .inl (cJ, 32, .inr (.inl (sj_sq a E 32))))]) (wf := [(u8, .inl (cJ, 32, .inr (.inl (sj_sq a E 32)))), (u9, .inl (cK, 32, .inr (.inl b)))]) (va_runS (As := [.ref u8, .long (sj_l x)]) (rest := []) ⟨hx, hb, hml, hown, hts⟩ (met_X2_times l D tb H.size u8 cJ (sj_sq a E 32) (E + E) (sj_sqR a E) x) (va_cwS 2 hts (lw_S q117 q118 q9 q119) rfl rfl rfl (by decide +kernel) ⟨Nat.le_of_ble_eq_true rfl, Nat.le_of_ble_eq_true rfl⟩) (sj_preS hK hP hD hS hA hT [0] rfl rfl (by decide) [0] rfl) rfl rfl hl.1 rfl (lv_room (Nat.le_of_ble_eq_true rfl)) dX2_combine_93 ⟨Nat.le_of_ble_eq_true rfl, Nat.le_of_ble_eq_true rfl⟩) hP hD hS hA [0] [1] rfl rfl (by decide) (by decide) [1, 0] rfl rfl (by decide) (fun H locs hP hD hS => ?_)
      refine lv_lstore_n (lv' := [(0, .long (sj_l (sj_cn (E + E) x))), (2, .long (sj_l y)), (4, .long (lN N)), (8, .ref u8), (9, .ref u9)]) hx hb dX2_combine_96 rfl hl (by decide) rfl (fun ls hl => ?_)
      exact tail97 (sj_cn (E + E) x) (sj_half1 hz ho) H locs hP hD hS ls (lv_sub hl [0, 1, 2, 3, 4] rfl)
set_option maxHeartbeats 4000000 in
set_option maxRecDepth 100000 in
/-- CRC32.combine: the sum x with n zero bytes behind it, and y -/
theorem met_X2_combine (l : Launch) (D : va_G) (tb sz : Nat) (x y : BitVec 32) (n : Nat) (hn : n ≤ 4096) (h0 : n = 0 → y = 0#32) : sj_ML l yX2_combine cX2_combine 11 ({ frames := 2, cells := 2, slots := 64, locals := 47 }) [.long (sj_l x), .long (sj_l y), .long (lN n)] D tb [] [] sz (sj_l (sj_cn (8 * n) x ^^^ y)) [] 2 64 := by
  refine Met.ofW (cc := cX2_combine) (maxL := 11) (ret := (some .long)) (by decide) rfl ?_
  intro p e s m args below meth c s₁ B hml hv
  obtain ⟨rfl, hsz, hP, hK, hD0, hT⟩ := hv
  have hx := B.exec
  have hb := B.bytes
  have hr := B.returns
  have hts := atoms_spec (ws := ws_ yX2_combine cX2_combine 11 (some .long)) B.pre
  have hts : ∀ w ∈ lw_all, w.before _ s = true := fun w h => hts w (List.mem_cons_of_mem _ h)
  have hown : s.vm.findClass RX2 = some m.cls := findClass_of_methodNamed B.named
  have hlocks := B.notSynchronized
  subst hsz
  have hD := hD0.self (sz := s.heap.size)
  generalize hAe : va_A [] s.heap.size = A at hD hT ⊢
  have hA : ∀ q : Nat, s.heap.size ≤ q → A q := fun q h => by rw [← hAe]; exact Or.inr h
  have hS : va_S A s.heap s.heap [] := va_S.rf
  have hP : va_P D vwCl [] s.heap := hP
  have hl := lv_entry ([.long (sj_l x), .long (sj_l y), .long (lN n)]) (n := 11) (Nat.le_of_ble_eq_true rfl)
  rw [lg_entry_eq]
  generalize (lg_sl ([.long (sj_l x), .long (sj_l y), .long (lN n)]) ++ List.replicate (11 - (lg_sl ([.long (sj_l x), .long (sj_l y), .long (lN n)])).length) Slot.unset).toArray = ls at hl ⊢
  have hl : lv_has ls 11 [(0, .long (sj_l x)), (2, .long (sj_l y)), (4, .long (lN n))] := hl
  refine lv_bipush (v := 32) hx hb dX2_combine_0 (by decide) ?_
  refine va_newa hx hb (atype := .long) (hts _ q120) (ty := .long) rfl hK hP hD hS hA (N' := 32) (a0 := (32, .inr (.inl (fun _ => 0)))) (fun _ => rfl) (by decide) (by decide) (Nat.le_of_ble_eq_true rfl) (Nat.le_of_ble_eq_true rfl) (Nat.le_of_ble_eq_true rfl) dX2_combine_2 (fun u8 cJ H hK hP hD hS => ?_)
  have hK : va_K D vwCl [(cJ, .long)] s := hK
  have hP : va_P D vwCl [(u8, .inl (cJ, 32, .inr (.inl (fun _ => 0))))] H := hP
  have hD : va_D A [(u8, .inl (cJ, 32, .inr (.inl (fun _ => 0))))] := hD
  refine lv_astore (lv' := [(8, .ref u8), (0, .long (sj_l x)), (2, .long (sj_l y)), (4, .long (lN n))]) hx hb dX2_combine_4 hl (by decide) rfl (fun ls hl => ?_)
  refine lv_bipush (v := 32) hx hb dX2_combine_6 (by decide) ?_
  refine va_newa hx hb (atype := .long) (hts _ q120) (ty := .long) rfl hK hP hD hS hA (N' := 32) (a0 := (32, .inr (.inl (fun _ => 0)))) (fun _ => rfl) (by decide) (by decide) (Nat.le_of_ble_eq_true rfl) (Nat.le_of_ble_eq_true rfl) (Nat.le_of_ble_eq_true rfl) dX2_combine_8 (fun u9 cK H hK hP hD hS => ?_)
  have hK : va_K D vwCl [(cJ, .long), (cK, .long)] s := hK
  have hP : va_P D vwCl [(u8, .inl (cJ, 32, .inr (.inl (fun _ => 0)))), (u9, .inl (cK, 32, .inr (.inl (fun _ => 0))))] H := hP
  have hD : va_D A [(u8, .inl (cJ, 32, .inr (.inl (fun _ => 0)))), (u9, .inl (cK, 32, .inr (.inl (fun _ => 0))))] := hD
  refine lv_astore (lv' := [(9, .ref u9), (8, .ref u8), (0, .long (sj_l x)), (2, .long (sj_l y)), (4, .long (lN n))]) hx hb dX2_combine_10 hl (by decide) rfl (fun ls hl => ?_)
  refine lv_lload hx hb dX2_combine_12 (lv_at hl 4 rfl) ?_
  refine lv_lconst (v := 0) hx hb dX2_combine_14 (by decide) ?_
  refine W.lcmp hx hb dX2_combine_15 ?_
  refine lv_if_gt (tgt := 21) hx hb dX2_combine_16 (by decide) (fun c0 => ?_) (fun c0 => ?_)
  · have hp : 0 < n := by
      rcases Nat.eq_zero_or_pos n with q | q
      · subst q; exact absurd (sj_gt0.mp c0) (by decide)
      · exact q
    refine lv_aload hx hb dX2_combine_21 (lv_at hl 0 rfl) ?_
    refine lv_iconst (v := nI 0) hx hb dX2_combine_23 (by decide) ?_
    refine lv_ldc2 hx hb hown (hts _ q113) dX2_combine_24 ?_
    refine sj_last hx hb hK hP hD hS 1 1 rfl rfl (j := 0) (by omega) (by decide) (g := sj_od 1) (sj_od1) dX2_combine_27 (fun H locs hP hD hS => ?_)
    have hP : va_P D vwCl [(u8, .inl (cJ, 32, .inr (.inl (fun _ => 0)))), (u9, .inl (cK, 32, .inr (.inl (sj_od 1))))] H := hP
    have hD : va_D A [(u8, .inl (cJ, 32, .inr (.inl (fun _ => 0)))), (u9, .inl (cK, 32, .inr (.inl (sj_od 1))))] := hD
    refine lv_lconst (v := lN (2 ^ (1 - 1))) hx hb dX2_combine_28 (by decide) ?_
    refine lv_lstore (lv' := [(6, .long (lN (2 ^ (1 - 1)))), (9, .ref u9), (8, .ref u8), (0, .long (sj_l x)), (2, .long (sj_l y)), (4, .long (lN n))]) hx hb dX2_combine_29 hl (by decide) rfl (fun ls hl => ?_)
    refine lv_iconst (v := nI 1) hx hb dX2_combine_31 (by decide) ?_
    refine lv_istore (lv' := [(10, .int (nI 1)), (6, .long (lN (2 ^ (1 - 1)))), (9, .ref u9), (8, .ref u8), (0, .long (sj_l x)), (2, .long (sj_l y)), (4, .long (lN n))]) hx hb dX2_combine_32 hl (by decide) rfl (fun ls hl => ?_)
    refine lp_X2_odd hx hb hK ?_ 31 1 (by decide) (by decide) H locs hP hD hS ls (lv_sub hl [4, 5, 6, 1, 3, 2, 0] rfl)
    intro H locs hP hD hS ls hl
    refine lv_aload hx hb dX2_combine_60 (lv_at hl 3 rfl) ?_
    refine lv_aload hx hb dX2_combine_62 (lv_at hl 4 rfl) ?_
    refine sj_cv_ (wr := []) (w1 := [(u8, .inl (cJ, 32, .inr (.inl (sj_sq (fun _ => 0) 1 32)))), (u9, .inl (cK, 32, .inr (.inl (sj_od 32))))]) (wf := [(u8, .inl (cJ, 32, .inr (.inl (sj_sq (fun _ => 0) 1 32)))), (u9, .inl (cK, 32, .inr (.inl (sj_od 32))))]) (va_runS (As := [.ref u8, .ref u9]) (rest := []) ⟨hx, hb, hml, hown, hts⟩ (met_X2_square l D tb H.size u8 u9 cJ cK (fun _ => 0) (sj_od 32) 1 sj_odR) (va_cwS 2 hts (lw_S q114 q115 q9 q116) rfl rfl rfl (by decide +kernel) ⟨Nat.le_of_ble_eq_true rfl, Nat.le_of_ble_eq_true rfl⟩) (sj_preS hK hP hD hS hA hT [0, 1] rfl rfl (by decide) [0, 1] rfl) rfl rfl hl.1 rfl (lv_room (Nat.le_of_ble_eq_true rfl)) dX2_combine_64 ⟨Nat.le_of_ble_eq_true rfl, Nat.le_of_ble_eq_true rfl⟩) hP hD hS hA [0, 1] [] rfl rfl (by decide) (by decide) [0, 1] rfl rfl (by decide) (fun H locs hP hD hS => ?_)
    refine lv_aload hx hb dX2_combine_67 (lv_at hl 4 rfl) ?_
    refine lv_aload hx hb dX2_combine_69 (lv_at hl 3 rfl) ?_
    refine sj_cv_ (wr := []) (w1 := [(u9, .inl (cK, 32, .inr (.inl (sj_sq (sj_od 32) (1 + 1) 32)))), (u8, .inl (cJ, 32, .inr (.inl (sj_sq (fun _ => 0) 1 32))))]) (wf := [(u8, .inl (cJ, 32, .inr (.inl (sj_sq (fun _ => 0) 1 32)))), (u9, .inl (cK, 32, .inr (.inl (sj_sq (sj_od 32) (1 + 1) 32))))]) (va_runS (As := [.ref u9, .ref u8]) (rest := []) ⟨hx, hb, hml, hown, hts⟩ (met_X2_square l D tb H.size u9 u8 cK cJ (sj_od 32) (sj_sq (fun _ => 0) 1 32) (1 + 1) (sj_sqR _ 1)) (va_cwS 2 hts (lw_S q114 q115 q9 q116) rfl rfl rfl (by decide +kernel) ⟨Nat.le_of_ble_eq_true rfl, Nat.le_of_ble_eq_true rfl⟩) (sj_preS hK hP hD hS hA hT [1, 0] rfl rfl (by decide) [1, 0] rfl) rfl rfl hl.1 rfl (lv_room (Nat.le_of_ble_eq_true rfl)) dX2_combine_71 ⟨Nat.le_of_ble_eq_true rfl, Nat.le_of_ble_eq_true rfl⟩) hP hD hS hA [1, 0] [] rfl rfl (by decide) (by decide) [1, 0] rfl rfl (by decide) (fun H locs hP hD hS => ?_)
    refine lp_X2_comb hx hb hml hts hown hA hK hT y (sj_cn (8 * n) x) ?_ n n ((1 + 1) + (1 + 1)) x _ _ (Nat.le_refl n) hp hn (sj_sqR _ (1 + 1)) rfl H locs hP hD hS ls (lv_sub hl [0, 1, 2, 3, 4] rfl)
    intro H locs hS ls hl
    refine lv_lload_n hx hb dX2_combine_149 rfl (lv_at hl 0 rfl) ?_
    refine lv_lload_n hx hb dX2_combine_150 rfl (lv_at hl 1 rfl) ?_
    refine lv_lxor hx hb dX2_combine_151 ?_
    refine sj_tl (sj_l (sj_cn (8 * n) x ^^^ y)) (sj_lx _ _) ?_
    refine lv_lstore_n (lv' := [(0, .long (sj_l (sj_cn (8 * n) x ^^^ y))), (2, .long (sj_l y))]) hx hb dX2_combine_152 rfl hl (by decide) rfl (fun ls hl => ?_)
    refine lv_lload_n hx hb dX2_combine_153 rfl (lv_at hl 0 rfl) ?_
    have hD9 : va_D A [] := sj_nilD
    exact W.lret (v := sj_l (sj_cn (8 * n) x ^^^ y)) hx hb hr (fun t ht hW => ⟨⟨sj_l (sj_cn (8 * n) x ^^^ y), (), rfl, rfl, by rw [ht]; exact sj_nilP, hD9⟩, hS.F ht⟩) hS.2.2 dX2_combine_154
  · have e : n = 0 := by
      rcases Nat.eq_zero_or_pos n with q | q
      · exact q
      · exact absurd (sj_gt0.mpr ((pk_lLT (a := 0) (b := n) (by decide) (by omega)).mpr q)) c0
    subst e
    have hy := h0 rfl
    subst hy
    refine lv_lload_n hx hb dX2_combine_19 rfl (lv_at hl 2 rfl) ?_
    have hP9 : va_P D vwCl [] H := sj_nilP
    have hD9 : va_D A [] := sj_nilD
    exact W.lret (v := sj_l x) hx hb hr (fun t ht hW => ⟨⟨sj_l x, (), rfl, by rw [BitVec.xor_zero]; rfl, by rw [ht]; exact sj_nilP, hD9⟩, hS.F ht⟩) hS.2.2 dX2_combine_20
end
section
/-! Adler32: its contracts -/
set_option maxRecDepth 100000
theorem sj_shl16 (b : Nat) : lN b <<< ((16 : Int32).toInt64 &&& 63) = lN (b * 65536) := wb_shl b (k := 16) (by decide)
theorem sj_or16 {a b : Nat} (ha : a < 65536) (hb : b < 65536) : lN (b * 65536) ||| lN a = lN (b * 65536 + a) := g_or (k := 16) (by decide) ha (by omega)
theorem sj_or16' {a b : Nat} (ha : a < 65536) (hb : b < 65536) : lN a ||| lN (b * 65536) = lN (b * 65536 + a) := by rw [Int64.or_comm, sj_or16 ha hb]
theorem sj_hi {a b : Nat} (ha : a < 65536) (hb : b < 65536) : lN (b * 65536 + a) >>> ((16 : Int32).toInt64 &&& 63) = lN b := by
  rw [pf_shr (d := 16) (by decide) (by omega)]
  congr 1
  omega
theorem sj_m16 {n : Nat} (hn : n < 2 ^ 64) : lN n &&& lN 65535 = lN (n % 65536) := wb_mask (k := 16) hn (by decide)
theorem sj_lo16 {a b : Nat} (ha : a < 65536) (hb : b < 65536) : lN (b * 65536 + a) &&& lN 65535 = lN a := by
  rw [sj_m16 (by omega)]
  congr 1
  omega
theorem sj_md {a : Nat} (ha : a < 2 ^ 63) : lN a - lN a / lN 65521 * lN 65521 = lN (a % 65521) := pk_lRem ha (by decide) (by decide)
theorem sj_uA63 (f : Nat → Int32) (p n : Nat) (hn : n ≤ 4096) : sj_uA f p n < 2 ^ 63 := by
  have := sj_uA_le f p n
  omega
theorem sj_uB63 (f : Nat → Int32) (p n : Nat) (hn : n ≤ 4096) : sj_uB f p n < 2 ^ 63 := by
  have := sj_uB_le f p n hn
  omega
theorem sj_ltL {a b : Nat} (ha : a < 2 ^ 63) (hb : b < 2 ^ 63) : lg_cmp (lN a) (lN b) < 0 ↔ a < b := by rw [sj_cmpL, pk_lLT ha hb]
set_option maxHeartbeats 4000000 in
set_option maxRecDepth 100000 in
/-- Adler32(): 1 and 0 -/
theorem met_X3_init (l : Launch) (D : va_G) (tb sz : Nat) (h0 : Nat) (v0 v1 : Int64) : sj_MV l yX3_init cX3_init 1 ({ frames := 1, cells := 0, slots := 0, locals := 12 }) [.ref h0] D tb [(h0, .inr (3, [.long v0, .long v1]))] [] sz [(h0, .inr (3, [.long (lN 1), .long (lN 0)]))] 0 0 := by
  refine Met.ofW (cc := cX3_init) (maxL := 1) (ret := none) (by decide) rfl ?_
  intro p e s m args below meth c s₁ B hml hv
  obtain ⟨rfl, hsz, hP, hK, hD0, hT⟩ := hv
  have hx := B.exec
  have hb := B.bytes
  have hr := B.returns
  have hts := atoms_spec (ws := ws_ yX3_init cX3_init 1 none) B.pre
  have hts : ∀ w ∈ lw_all, w.before _ s = true := fun w h => hts w (List.mem_cons_of_mem _ h)
  have hown : s.vm.findClass RX3 = some m.cls := findClass_of_methodNamed B.named
  have hlocks := B.notSynchronized
  have hin : meth.name = "<init>" := (name_of_methodNamed B.named B.method).1
  subst hsz
  have hD := hD0.self (sz := s.heap.size)
  generalize hAe : va_A [(h0, .inr (3, [.long v0, .long v1]))] s.heap.size = A at hD hT ⊢
  have hA : ∀ q : Nat, s.heap.size ≤ q → A q := fun q h => by rw [← hAe]; exact Or.inr h
  have hS : va_S A s.heap s.heap [] := va_S.rf
  have hP : va_P D vwCl [(h0, .inr (3, [.long v0, .long v1]))] s.heap := hP
  have hl := lv_entry ([.ref h0]) (n := 1) (Nat.le_of_ble_eq_true rfl)
  rw [lg_entry_eq]
  generalize (lg_sl ([.ref h0]) ++ List.replicate (1 - (lg_sl ([.ref h0])).length) Slot.unset).toArray = ls at hl ⊢
  have hl : lv_has ls 1 [(0, .ref h0)] := hl
  refine lv_aload_n hx hb dX3_init_0 rfl (lv_at hl 0 rfl) ?_
  refine W.objInit hx hb hown (hts _ q85) (hts _ q17) (hts _ q18) rfl (by rw [hml]; exact hl.1) rfl dX3_init_1 (Nat.le_of_ble_eq_true rfl) (Nat.le_of_ble_eq_true rfl) ?_
  refine W.eq (g2 := F0 m 4 ls []) rfl ?_
  refine lv_aload_n hx hb dX3_init_4 rfl (lv_at hl 0 rfl) ?_
  refine lv_lconst (v := lN 1) hx hb dX3_init_5 (by decide) ?_
  refine va_put (D := D) (ci := 3) (v := .long (lN 1)) (ty := .long) (C := RX3) (T := TX3) (N := 2) hx hb hts in_X3 tyX3 tyX3_ok nmX3 hown hK hP hD hS 0 rfl rfl 0 (by decide) (hts _ q86) (fun _ h9 => h9) rfl (by decide +kernel) rfl rfl (Nat.le_of_ble_eq_true rfl) dX3_init_6 (fun H locs hP hD hS => ?_)
  have hP : va_P D vwCl [(h0, .inr (3, [.long (lN 1), .long v1]))] H := hP
  have hD : va_D A [(h0, .inr (3, [.long (lN 1), .long v1]))] := hD
  refine lv_aload_n hx hb dX3_init_9 rfl (lv_at hl 0 rfl) ?_
  refine lv_lconst (v := lN 0) hx hb dX3_init_10 (by decide) ?_
  refine va_put (D := D) (ci := 3) (v := .long (lN 0)) (ty := .long) (C := RX3) (T := TX3) (N := 2) hx hb hts in_X3 tyX3 tyX3_ok nmX3 hown hK hP hD hS 0 rfl rfl 1 (by decide) (hts _ q87) (fun _ h9 => h9) rfl (by decide +kernel) rfl rfl (Nat.le_of_ble_eq_true rfl) dX3_init_11 (fun H locs hP hD hS => ?_)
  have hP : va_P D vwCl [(h0, .inr (3, [.long (lN 1), .long (lN 0)]))] H := hP
  have hD : va_D A [(h0, .inr (3, [.long (lN 1), .long (lN 0)]))] := hD
  have hP9 := hP.sub (ws' := [(h0, .inr (3, [.long (lN 1), .long (lN 0)]))]) [0] rfl
  have hD9 := hD.sub (ws' := [(h0, .inr (3, [.long (lN 1), .long (lN 0)]))]) [0] (by decide) rfl
  exact W.vret hx hb hr (fun t ht hW => ⟨⟨(), rfl, trivial, by rw [ht]; exact hP9, hD9⟩, hS.F ht⟩) hS.2.2 dX3_init_14
set_option maxHeartbeats 4000000 in
set_option maxRecDepth 100000 in
/-- Adler32.getValue() -/
theorem met_X3_getValue (l : Launch) (D : va_G) (tb sz : Nat) (h0 a b : Nat) (ha : a < 65536) (hb0 : b < 65536) : sj_ML l yX3_getValue cX3_getValue 1 ({ frames := 0, cells := 0, slots := 0, locals := 0 }) [.ref h0] D tb [(h0, .inr (3, [.long (lN a), .long (lN b)]))] [] sz (lN (b * 65536 + a)) [(h0, .inr (3, [.long (lN a), .long (lN b)]))] 0 0 := by
  refine Met.ofW (cc := cX3_getValue) (maxL := 1) (ret := (some .long)) (by decide) rfl ?_
  intro p e s m args below meth c s₁ B hml hv
  obtain ⟨rfl, hsz, hP, hK, hD0, hT⟩ := hv
  have hx := B.exec
  have hb := B.bytes
  have hr := B.returns
  have hts := atoms_spec (ws := ws_ yX3_getValue cX3_getValue 1 (some .long)) B.pre
  have hts : ∀ w ∈ lw_all, w.before _ s = true := fun w h => hts w (List.mem_cons_of_mem _ h)
  have hown : s.vm.findClass RX3 = some m.cls := findClass_of_methodNamed B.named
  have hlocks := B.notSynchronized
  subst hsz
  have hD := hD0.self (sz := s.heap.size)
  generalize hAe : va_A [(h0, .inr (3, [.long (lN a), .long (lN b)]))] s.heap.size = A at hD hT ⊢
  have hA : ∀ q : Nat, s.heap.size ≤ q → A q := fun q h => by rw [← hAe]; exact Or.inr h
  have hS : va_S A s.heap s.heap [] := va_S.rf
  have hP : va_P D vwCl [(h0, .inr (3, [.long (lN a), .long (lN b)]))] s.heap := hP
  have hl := lv_entry ([.ref h0]) (n := 1) (Nat.le_of_ble_eq_true rfl)
  rw [lg_entry_eq]
  generalize (lg_sl ([.ref h0]) ++ List.replicate (1 - (lg_sl ([.ref h0])).length) Slot.unset).toArray = ls at hl ⊢
  have hl : lv_has ls 1 [(0, .ref h0)] := hl
  refine lv_aload_n hx hb dX3_getValue_0 rfl (lv_at hl 0 rfl) ?_
  refine va_get (D := D) (ci := 3) (v := .long (lN b)) (C := RX3) (T := TX3) (N := 2) hx hb hts in_X3 hown hK hP 0 rfl rfl 1 (by decide) (hts _ q87) (fun _ h9 => h9) rfl dX3_getValue_1 ?_
  refine lv_bipush (v := 16) hx hb dX3_getValue_4 (by decide) ?_
  refine lv_lshl (v := lN (b * 65536)) hx hb dX3_getValue_6 (sj_shl16 b) ?_
  refine lv_aload_n hx hb dX3_getValue_7 rfl (lv_at hl 0 rfl) ?_
  refine va_get (D := D) (ci := 3) (v := .long (lN a)) (C := RX3) (T := TX3) (N := 2) hx hb hts in_X3 hown hK hP 0 rfl rfl 0 (by decide) (hts _ q86) (fun _ h9 => h9) rfl dX3_getValue_8 ?_
  refine lv_lor hx hb dX3_getValue_11 ?_
  refine sj_tl (lN (b * 65536 + a)) (sj_or16 ha hb0) ?_
  have hP9 := hP.sub (ws' := [(h0, .inr (3, [.long (lN a), .long (lN b)]))]) [0] rfl
  have hD9 := hD.sub (ws' := [(h0, .inr (3, [.long (lN a), .long (lN b)]))]) [0] (by decide) rfl
  exact W.lret (v := lN (b * 65536 + a)) hx hb hr (fun t ht hW => ⟨⟨lN (b * 65536 + a), (), rfl, rfl, by rw [ht]; exact hP9, hD9⟩, hS.F ht⟩) hS.2.2 dX3_getValue_12
set_option maxHeartbeats 4000000 in
set_option maxRecDepth 100000 in
/-- update: the loop, k bytes left -/
theorem lp_X3_update {p : Program} {l : Launch} {e : Env} {R : Room} {s : State} {m : MethodId} {args : Array Value} {below : List Frame} {meth : Method} {c : Code} {cells slots : Nat} {Q : State → Prop} {D : va_G} {A : Nat → Prop} {h0 h1 : Nat} {cB : ClassId} {f : Nat → Int32} (hx : p.tables.exec = Jvm.exec) (hb : c.code = cX3_update) (hts : ∀ w ∈ lw_all, w.before args s = true) (hown : s.vm.findClass RX3 = some m.cls) (hK : va_K D vwCl [(cB, .byte)] s) (p0 n : Nat) (hn : p0 + n ≤ 4096)
    (kk : ∀ (H : Heap) (locs : List Loc), va_P D vwCl [(h0, .inr (3, [.long (lN (sj_uA f p0 n)), .long (lN (sj_uB f p0 n))])), (h1, .inl (cB, 4096, .inl f))] H → va_D A [(h0, .inr (3, [.long (lN (sj_uA f p0 n)), .long (lN (sj_uB f p0 n))])), (h1, .inl (cB, 4096, .inl f))] → va_S A s.heap H locs → ∀ ls : Array Slot, lv_has ls 7 [(0, .ref h0)] → W p l e R s m args below meth c H locs cells slots Q (F0 m 219 ls [])) :
    ∀ (k i : Nat), i + k = n → ∀ (H : Heap) (locs : List Loc), va_P D vwCl [(h0, .inr (3, [.long (lN (sj_uA f p0 i)), .long (lN (sj_uB f p0 i))])), (h1, .inl (cB, 4096, .inl f))] H → va_D A [(h0, .inr (3, [.long (lN (sj_uA f p0 i)), .long (lN (sj_uB f p0 i))])), (h1, .inl (cB, 4096, .inl f))] → va_S A s.heap H locs → ∀ ls : Array Slot, lv_has ls 7 [(0, .ref h0), (1, .ref h1), (2, .int (nI (p0 + i))), (6, .int (nI k))] → W p l e R s m args below meth c H locs cells slots Q (F0 m 175 ls []) := by
  intro k
  induction k with
  | zero =>
    intro i hi H locs hP hD hS ls hl
    refine lv_iload hx hb dX3_update_175 (lv_at hl 3 rfl) ?_
    refine lv_iinc (v := -1) (lv' := [(6, .int (-1)), (0, .ref h0), (1, .ref h1), (2, .int (nI (p0 + i)))]) hx hb dX3_update_177 hl (k := 3) rfl (by decide) (by decide) rfl (fun ls hl => ?_)
    refine lv_if_le (tgt := 219) hx hb dX3_update_180 (by decide) (fun _ => ?_) (fun h9 => absurd (by decide) h9)
    have e : i = n := by omega
    subst e
    exact kk H locs hP hD hS ls (lv_sub hl [1] rfl)
  | succ k ih =>
    intro i hi H locs hP hD hS ls hl
    refine lv_iload hx hb dX3_update_175 (lv_at hl 3 rfl) ?_
    refine lv_iinc (v := nI k) (lv' := [(6, .int (nI k)), (0, .ref h0), (1, .ref h1), (2, .int (nI (p0 + i)))]) hx hb dX3_update_177 hl (k := 3) rfl (pk_m1 k) (by decide) rfl (fun ls hl => ?_)
    refine lv_if_le (tgt := 219) hx hb dX3_update_180 (by decide) (fun h9 => absurd h9 (nI_nle (Nat.succ_pos k) (by omega))) (fun _ => ?_)
    refine lv_aload_n hx hb dX3_update_183 rfl (lv_at hl 1 rfl) ?_
    refine lv_dup hx hb dX3_update_184 rfl ?_
    refine va_get (D := D) (ci := 3) (v := .long (lN (sj_uA f p0 i))) (C := RX3) (T := TX3) (N := 2) hx hb hts in_X3 hown hK hP 0 rfl rfl 0 (by decide) (hts _ q86) (fun _ h9 => h9) rfl dX3_update_185 ?_
    refine lv_aload_n hx hb dX3_update_188 rfl (lv_at hl 2 rfl) ?_
    refine lv_iload_n hx hb dX3_update_189 rfl (lv_at hl 3 rfl) ?_
    refine lv_iinc (v := nI (p0 + (i + 1))) (lv' := [(2, .int (nI (p0 + (i + 1)))), (6, .int (nI k)), (0, .ref h0), (1, .ref h1)]) hx hb dX3_update_190 hl (k := 3) rfl (nI_1 (p0 + i)) (by decide) rfl (fun ls hl => ?_)
    refine sj_bald hx hb hK hP 1 0 rfl rfl (j := (p0 + i)) (by omega) (by decide) dX3_update_193 ?_
    refine lv_sipush (v := 255) hx hb dX3_update_194 (by decide) ?_
    refine lv_iand hx hb dX3_update_197 ?_
    refine sj_ti (nI (sj_by f (p0 + i))) (sj_byI f _) ?_
    refine lv_i2l (v := lN (sj_by f (p0 + i))) hx hb dX3_update_198 (sj_byL f _) ?_
    refine lv_ladd hx hb dX3_update_199 ?_
    refine sj_tl (lN (sj_uA f p0 (i + 1))) (lN_add _ _) ?_
    refine va_put (D := D) (ci := 3) (v := .long (lN (sj_uA f p0 (i + 1)))) (ty := .long) (C := RX3) (T := TX3) (N := 2) hx hb hts in_X3 tyX3 tyX3_ok nmX3 hown hK hP hD hS 0 rfl rfl 0 (by decide) (hts _ q86) (fun _ h9 => h9) rfl (by decide +kernel) rfl rfl (Nat.le_of_ble_eq_true rfl) dX3_update_200 (fun H locs hP hD hS => ?_)
    have hP : va_P D vwCl [(h0, .inr (3, [.long (lN (sj_uA f p0 (i + 1))), .long (lN (sj_uB f p0 i))])), (h1, .inl (cB, 4096, .inl f))] H := hP
    have hD : va_D A [(h0, .inr (3, [.long (lN (sj_uA f p0 (i + 1))), .long (lN (sj_uB f p0 i))])), (h1, .inl (cB, 4096, .inl f))] := hD
    refine lv_aload_n hx hb dX3_update_203 rfl (lv_at hl 2 rfl) ?_
    refine lv_dup hx hb dX3_update_204 rfl ?_
    refine va_get (D := D) (ci := 3) (v := .long (lN (sj_uB f p0 i))) (C := RX3) (T := TX3) (N := 2) hx hb hts in_X3 hown hK hP 0 rfl rfl 1 (by decide) (hts _ q87) (fun _ h9 => h9) rfl dX3_update_205 ?_
    refine lv_aload_n hx hb dX3_update_208 rfl (lv_at hl 2 rfl) ?_
    refine va_get (D := D) (ci := 3) (v := .long (lN (sj_uA f p0 (i + 1)))) (C := RX3) (T := TX3) (N := 2) hx hb hts in_X3 hown hK hP 0 rfl rfl 0 (by decide) (hts _ q86) (fun _ h9 => h9) rfl dX3_update_209 ?_
    refine lv_ladd hx hb dX3_update_212 ?_
    refine sj_tl (lN (sj_uB f p0 (i + 1))) (lN_add _ _) ?_
    refine va_put (D := D) (ci := 3) (v := .long (lN (sj_uB f p0 (i + 1)))) (ty := .long) (C := RX3) (T := TX3) (N := 2) hx hb hts in_X3 tyX3 tyX3_ok nmX3 hown hK hP hD hS 0 rfl rfl 1 (by decide) (hts _ q87) (fun _ h9 => h9) rfl (by decide +kernel) rfl rfl (Nat.le_of_ble_eq_true rfl) dX3_update_213 (fun H locs hP hD hS => ?_)
    have hP : va_P D vwCl [(h0, .inr (3, [.long (lN (sj_uA f p0 (i + 1))), .long (lN (sj_uB f p0 (i + 1)))])), (h1, .inl (cB, 4096, .inl f))] H := hP
    have hD : va_D A [(h0, .inr (3, [.long (lN (sj_uA f p0 (i + 1))), .long (lN (sj_uB f p0 (i + 1)))])), (h1, .inl (cB, 4096, .inl f))] := hD
    refine lv_goto (tgt := 175) hx hb dX3_update_216 (by decide) ?_
    exact ih (i + 1) (by omega) H locs hP hD hS ls (lv_sub hl [2, 3, 0, 1] rfl)
set_option maxHeartbeats 4000000 in
set_option maxRecDepth 100000 in
/-- Adler32.update(buf, p, n) at a fresh sum -/
theorem met_X3_update (l : Launch) (D : va_G) (tb sz : Nat) (h0 h1 : Nat) (cB : ClassId) (f : Nat → Int32) (p0 n : Nat) (hn : p0 + n ≤ 4096) : sj_MV l yX3_update cX3_update 7 ({ frames := 0, cells := 0, slots := 0, locals := 0 }) [.ref h0, .ref h1, .int (nI p0), .int (nI n)] D tb [(h0, .inr (3, [.long (lN 1), .long (lN 0)])), (h1, .inl (cB, 4096, .inl f))] [(cB, .byte)] sz [(h0, .inr (3, [.long (lN (sj_uA f p0 n % 65521)), .long (lN (sj_uB f p0 n % 65521))])), (h1, .inl (cB, 4096, .inl f))] 0 0 := by
  refine Met.ofW (cc := cX3_update) (maxL := 7) (ret := none) (by decide) rfl ?_
  intro p e s m args below meth c s₁ B hml hv
  obtain ⟨rfl, hsz, hP, hK, hD0, hT⟩ := hv
  have hx := B.exec
  have hb := B.bytes
  have hr := B.returns
  have hts := atoms_spec (ws := ws_ yX3_update cX3_update 7 none) B.pre
  have hts : ∀ w ∈ lw_all, w.before _ s = true := fun w h => hts w (List.mem_cons_of_mem _ h)
  have hown : s.vm.findClass RX3 = some m.cls := findClass_of_methodNamed B.named
  have hlocks := B.notSynchronized
  subst hsz
  have hD := hD0.self (sz := s.heap.size)
  generalize hAe : va_A [(h0, .inr (3, [.long (lN 1), .long (lN 0)])), (h1, .inl (cB, 4096, .inl f))] s.heap.size = A at hD hT ⊢
  have hA : ∀ q : Nat, s.heap.size ≤ q → A q := fun q h => by rw [← hAe]; exact Or.inr h
  have hS : va_S A s.heap s.heap [] := va_S.rf
  have hP : va_P D vwCl [(h0, .inr (3, [.long (lN 1), .long (lN 0)])), (h1, .inl (cB, 4096, .inl f))] s.heap := hP
  have hl := lv_entry ([.ref h0, .ref h1, .int (nI p0), .int (nI n)]) (n := 7) (Nat.le_of_ble_eq_true rfl)
  rw [lg_entry_eq]
  generalize (lg_sl ([.ref h0, .ref h1, .int (nI p0), .int (nI n)]) ++ List.replicate (7 - (lg_sl ([.ref h0, .ref h1, .int (nI p0), .int (nI n)])).length) Slot.unset).toArray = ls at hl ⊢
  have hl : lv_has ls 7 [(0, .ref h0), (1, .ref h1), (2, .int (nI p0)), (3, .int (nI n))] := hl
  refine lv_iload_n hx hb dX3_update_0 rfl (lv_at hl 3 rfl) ?_
  refine lv_iconst (v := nI 1) hx hb dX3_update_1 (by decide) ?_
  refine lv_icmp_ne (tgt := 63) hx hb dX3_update_2 (by decide) (fun c0 => ?_) (fun c0 => ?_)
  · refine lv_iload_n hx hb dX3_update_63 rfl (lv_at hl 3 rfl) ?_
    refine lv_sipush (v := nI 5552) hx hb dX3_update_64 (by decide) ?_
    refine lv_idiv hx hb dX3_update_67 (by decide) ?_
    refine sj_ti (nI 0) ((pk_div (a := n) (d := 5552) (by omega) (by decide) (by decide)).trans (by rw [Nat.div_eq_of_lt (by omega)])) ?_
    refine lv_istore (lv' := [(4, .int (nI 0)), (0, .ref h0), (1, .ref h1), (2, .int (nI p0)), (3, .int (nI n))]) hx hb dX3_update_68 hl (by decide) rfl (fun ls hl => ?_)
    refine lv_iload_n hx hb dX3_update_70 rfl (lv_at hl 4 rfl) ?_
    refine lv_sipush (v := nI 5552) hx hb dX3_update_71 (by decide) ?_
    refine lv_irem hx hb dX3_update_74 (by decide) ?_
    refine sj_ti (nI n) ((pk_rem (a := n) (d := 5552) (by omega) (by decide) (by decide)).trans (by rw [Nat.mod_eq_of_lt (by omega)])) ?_
    refine lv_istore (lv' := [(5, .int (nI n)), (4, .int (nI 0)), (0, .ref h0), (1, .ref h1), (2, .int (nI p0)), (3, .int (nI n))]) hx hb dX3_update_75 hl (by decide) rfl (fun ls hl => ?_)
    refine lv_iload hx hb dX3_update_77 (lv_at hl 1 rfl) ?_
    refine lv_iinc (v := -1) (lv' := [(4, .int (-1)), (5, .int (nI n)), (0, .ref h0), (1, .ref h1), (2, .int (nI p0)), (3, .int (nI n))]) hx hb dX3_update_79 hl (k := 1) rfl (by decide) (by decide) rfl (fun ls hl => ?_)
    refine lv_if_le (tgt := 166) hx hb dX3_update_82 (by decide) (fun _ => ?_) (fun h9 => absurd (by decide) h9)
    refine lv_iload hx hb dX3_update_166 (lv_at hl 1 rfl) ?_
    refine lv_istore (lv' := [(6, .int (nI n)), (4, .int (-1)), (5, .int (nI n)), (0, .ref h0), (1, .ref h1), (2, .int (nI p0)), (3, .int (nI n))]) hx hb dX3_update_168 hl (by decide) rfl (fun ls hl => ?_)
    refine lv_iload_n hx hb dX3_update_170 rfl (lv_at hl 6 rfl) ?_
    refine lv_iload hx hb dX3_update_171 (lv_at hl 0 rfl) ?_
    refine lv_isub hx hb dX3_update_173 ?_
    refine lv_istore_n (lv' := [(3, .int ((nI n) - (nI n))), (6, .int (nI n)), (4, .int (-1)), (5, .int (nI n)), (0, .ref h0), (1, .ref h1), (2, .int (nI p0))]) hx hb dX3_update_174 rfl hl (by decide) rfl (fun ls hl => ?_)
    refine lp_X3_update hx hb hts hown hK p0 n hn ?_ n 0 (Nat.zero_add n) s.heap [] hP hD hS ls (lv_sub hl [4, 5, 6, 1] rfl)
    intro H locs hP hD hS ls hl
    refine lv_aload_n hx hb dX3_update_219 rfl (lv_at hl 0 rfl) ?_
    refine lv_dup hx hb dX3_update_220 rfl ?_
    refine va_get (D := D) (ci := 3) (v := .long (lN (sj_uA f p0 n))) (C := RX3) (T := TX3) (N := 2) hx hb hts in_X3 hown hK hP 0 rfl rfl 0 (by decide) (hts _ q86) (fun _ h9 => h9) rfl dX3_update_221 ?_
    refine lv_ldc2 hx hb hown (hts _ q97) dX3_update_224 ?_
    refine sj_tl (lN 65521) (rfl) ?_
    refine lv_lrem hx hb dX3_update_227 (by decide) ?_
    refine sj_tl (lN (sj_uA f p0 n % 65521)) (sj_md (sj_uA63 f p0 n (by omega))) ?_
    refine va_put (D := D) (ci := 3) (v := .long (lN (sj_uA f p0 n % 65521))) (ty := .long) (C := RX3) (T := TX3) (N := 2) hx hb hts in_X3 tyX3 tyX3_ok nmX3 hown hK hP hD hS 0 rfl rfl 0 (by decide) (hts _ q86) (fun _ h9 => h9) rfl (by decide +kernel) rfl rfl (Nat.le_of_ble_eq_true rfl) dX3_update_228 (fun H locs hP hD hS => ?_)
    have hP : va_P D vwCl [(h0, .inr (3, [.long (lN (sj_uA f p0 n % 65521)), .long (lN (sj_uB f p0 n))])), (h1, .inl (cB, 4096, .inl f))] H := hP
    have hD : va_D A [(h0, .inr (3, [.long (lN (sj_uA f p0 n % 65521)), .long (lN (sj_uB f p0 n))])), (h1, .inl (cB, 4096, .inl f))] := hD
    refine lv_aload_n hx hb dX3_update_231 rfl (lv_at hl 0 rfl) ?_
    refine lv_dup hx hb dX3_update_232 rfl ?_
    refine va_get (D := D) (ci := 3) (v := .long (lN (sj_uB f p0 n))) (C := RX3) (T := TX3) (N := 2) hx hb hts in_X3 hown hK hP 0 rfl rfl 1 (by decide) (hts _ q87) (fun _ h9 => h9) rfl dX3_update_233 ?_
    refine lv_ldc2 hx hb hown (hts _ q97) dX3_update_236 ?_
    refine sj_tl (lN 65521) (rfl) ?_
    refine lv_lrem hx hb dX3_update_239 (by decide) ?_
    refine sj_tl (lN (sj_uB f p0 n % 65521)) (sj_md (sj_uB63 f p0 n (by omega))) ?_
    refine va_put (D := D) (ci := 3) (v := .long (lN (sj_uB f p0 n % 65521))) (ty := .long) (C := RX3) (T := TX3) (N := 2) hx hb hts in_X3 tyX3 tyX3_ok nmX3 hown hK hP hD hS 0 rfl rfl 1 (by decide) (hts _ q87) (fun _ h9 => h9) rfl (by decide +kernel) rfl rfl (Nat.le_of_ble_eq_true rfl) dX3_update_240 (fun H locs hP hD hS => ?_)
    have hP : va_P D vwCl [(h0, .inr (3, [.long (lN (sj_uA f p0 n % 65521)), .long (lN (sj_uB f p0 n % 65521))])), (h1, .inl (cB, 4096, .inl f))] H := hP
    have hD : va_D A [(h0, .inr (3, [.long (lN (sj_uA f p0 n % 65521)), .long (lN (sj_uB f p0 n % 65521))])), (h1, .inl (cB, 4096, .inl f))] := hD
    have hP9 := hP.sub (ws' := [(h0, .inr (3, [.long (lN (sj_uA f p0 n % 65521)), .long (lN (sj_uB f p0 n % 65521))])), (h1, .inl (cB, 4096, .inl f))]) [0, 1] rfl
    have hD9 := hD.sub (ws' := [(h0, .inr (3, [.long (lN (sj_uA f p0 n % 65521)), .long (lN (sj_uB f p0 n % 65521))])), (h1, .inl (cB, 4096, .inl f))]) [0, 1] (by decide) rfl
    exact W.vret hx hb hr (fun t ht hW => ⟨⟨(), rfl, trivial, by rw [ht]; exact hP9, hD9⟩, hS.F ht⟩) hS.2.2 dX3_update_243
  · have e : n = 1 := (nI_eq (by omega) (by decide)).mp c0
    subst e
    refine lv_aload_n hx hb dX3_update_5 rfl (lv_at hl 0 rfl) ?_
    refine lv_dup hx hb dX3_update_6 rfl ?_
    refine va_get (D := D) (ci := 3) (v := .long (lN 1)) (C := RX3) (T := TX3) (N := 2) hx hb hts in_X3 hown hK hP 0 rfl rfl 0 (by decide) (hts _ q86) (fun _ h9 => h9) rfl dX3_update_7 ?_
    refine lv_aload_n hx hb dX3_update_10 rfl (lv_at hl 1 rfl) ?_
    refine lv_iload_n hx hb dX3_update_11 rfl (lv_at hl 2 rfl) ?_
    refine lv_iinc (v := nI (p0 + 1)) (lv' := [(2, .int (nI (p0 + 1))), (0, .ref h0), (1, .ref h1), (3, .int (nI 1))]) hx hb dX3_update_12 hl (k := 2) rfl (nI_1 p0) (by decide) rfl (fun ls hl => ?_)
    refine sj_bald hx hb hK hP 1 0 rfl rfl (j := p0) (by omega) (by decide) dX3_update_15 ?_
    refine lv_sipush (v := 255) hx hb dX3_update_16 (by decide) ?_
    refine lv_iand hx hb dX3_update_19 ?_
    refine sj_ti (nI (sj_by f p0)) (sj_byI f _) ?_
    refine lv_i2l (v := lN (sj_by f p0)) hx hb dX3_update_20 (sj_byL f _) ?_
    refine lv_ladd hx hb dX3_update_21 ?_
    refine sj_tl (lN (sj_uA f p0 1)) (lN_add 1 _) ?_
    refine va_put (D := D) (ci := 3) (v := .long (lN (sj_uA f p0 1))) (ty := .long) (C := RX3) (T := TX3) (N := 2) hx hb hts in_X3 tyX3 tyX3_ok nmX3 hown hK hP hD hS 0 rfl rfl 0 (by decide) (hts _ q86) (fun _ h9 => h9) rfl (by decide +kernel) rfl rfl (Nat.le_of_ble_eq_true rfl) dX3_update_22 (fun H locs hP hD hS => ?_)
    have hP : va_P D vwCl [(h0, .inr (3, [.long (lN (sj_uA f p0 1)), .long (lN 0)])), (h1, .inl (cB, 4096, .inl f))] H := hP
    have hD : va_D A [(h0, .inr (3, [.long (lN (sj_uA f p0 1)), .long (lN 0)])), (h1, .inl (cB, 4096, .inl f))] := hD
    refine lv_aload_n hx hb dX3_update_25 rfl (lv_at hl 1 rfl) ?_
    refine lv_dup hx hb dX3_update_26 rfl ?_
    refine va_get (D := D) (ci := 3) (v := .long (lN 0)) (C := RX3) (T := TX3) (N := 2) hx hb hts in_X3 hown hK hP 0 rfl rfl 1 (by decide) (hts _ q87) (fun _ h9 => h9) rfl dX3_update_27 ?_
    refine lv_aload_n hx hb dX3_update_30 rfl (lv_at hl 1 rfl) ?_
    refine va_get (D := D) (ci := 3) (v := .long (lN (sj_uA f p0 1))) (C := RX3) (T := TX3) (N := 2) hx hb hts in_X3 hown hK hP 0 rfl rfl 0 (by decide) (hts _ q86) (fun _ h9 => h9) rfl dX3_update_31 ?_
    refine lv_ladd hx hb dX3_update_34 ?_
    refine sj_tl (lN (sj_uB f p0 1)) (lN_add 0 _) ?_
    refine va_put (D := D) (ci := 3) (v := .long (lN (sj_uB f p0 1))) (ty := .long) (C := RX3) (T := TX3) (N := 2) hx hb hts in_X3 tyX3 tyX3_ok nmX3 hown hK hP hD hS 0 rfl rfl 1 (by decide) (hts _ q87) (fun _ h9 => h9) rfl (by decide +kernel) rfl rfl (Nat.le_of_ble_eq_true rfl) dX3_update_35 (fun H locs hP hD hS => ?_)
    have hP : va_P D vwCl [(h0, .inr (3, [.long (lN (sj_uA f p0 1)), .long (lN (sj_uB f p0 1))])), (h1, .inl (cB, 4096, .inl f))] H := hP
    have hD : va_D A [(h0, .inr (3, [.long (lN (sj_uA f p0 1)), .long (lN (sj_uB f p0 1))])), (h1, .inl (cB, 4096, .inl f))] := hD
    refine lv_aload_n hx hb dX3_update_38 rfl (lv_at hl 1 rfl) ?_
    refine lv_dup hx hb dX3_update_39 rfl ?_
    refine va_get (D := D) (ci := 3) (v := .long (lN (sj_uA f p0 1))) (C := RX3) (T := TX3) (N := 2) hx hb hts in_X3 hown hK hP 0 rfl rfl 0 (by decide) (hts _ q86) (fun _ h9 => h9) rfl dX3_update_40 ?_
    refine lv_ldc2 hx hb hown (hts _ q97) dX3_update_43 ?_
    refine sj_tl (lN 65521) (rfl) ?_
    refine lv_lrem hx hb dX3_update_46 (by decide) ?_
    refine sj_tl (lN (sj_uA f p0 1 % 65521)) (sj_md (sj_uA63 f p0 1 (by omega))) ?_
    refine va_put (D := D) (ci := 3) (v := .long (lN (sj_uA f p0 1 % 65521))) (ty := .long) (C := RX3) (T := TX3) (N := 2) hx hb hts in_X3 tyX3 tyX3_ok nmX3 hown hK hP hD hS 0 rfl rfl 0 (by decide) (hts _ q86) (fun _ h9 => h9) rfl (by decide +kernel) rfl rfl (Nat.le_of_ble_eq_true rfl) dX3_update_47 (fun H locs hP hD hS => ?_)
    have hP : va_P D vwCl [(h0, .inr (3, [.long (lN (sj_uA f p0 1 % 65521)), .long (lN (sj_uB f p0 1))])), (h1, .inl (cB, 4096, .inl f))] H := hP
    have hD : va_D A [(h0, .inr (3, [.long (lN (sj_uA f p0 1 % 65521)), .long (lN (sj_uB f p0 1))])), (h1, .inl (cB, 4096, .inl f))] := hD
    refine lv_aload_n hx hb dX3_update_50 rfl (lv_at hl 1 rfl) ?_
    refine lv_dup hx hb dX3_update_51 rfl ?_
    refine va_get (D := D) (ci := 3) (v := .long (lN (sj_uB f p0 1))) (C := RX3) (T := TX3) (N := 2) hx hb hts in_X3 hown hK hP 0 rfl rfl 1 (by decide) (hts _ q87) (fun _ h9 => h9) rfl dX3_update_52 ?_
    refine lv_ldc2 hx hb hown (hts _ q97) dX3_update_55 ?_
    refine sj_tl (lN 65521) (rfl) ?_
    refine lv_lrem hx hb dX3_update_58 (by decide) ?_
    refine sj_tl (lN (sj_uB f p0 1 % 65521)) (sj_md (sj_uB63 f p0 1 (by omega))) ?_
    refine va_put (D := D) (ci := 3) (v := .long (lN (sj_uB f p0 1 % 65521))) (ty := .long) (C := RX3) (T := TX3) (N := 2) hx hb hts in_X3 tyX3 tyX3_ok nmX3 hown hK hP hD hS 0 rfl rfl 1 (by decide) (hts _ q87) (fun _ h9 => h9) rfl (by decide +kernel) rfl rfl (Nat.le_of_ble_eq_true rfl) dX3_update_59 (fun H locs hP hD hS => ?_)
    have hP : va_P D vwCl [(h0, .inr (3, [.long (lN (sj_uA f p0 1 % 65521)), .long (lN (sj_uB f p0 1 % 65521))])), (h1, .inl (cB, 4096, .inl f))] H := hP
    have hD : va_D A [(h0, .inr (3, [.long (lN (sj_uA f p0 1 % 65521)), .long (lN (sj_uB f p0 1 % 65521))])), (h1, .inl (cB, 4096, .inl f))] := hD
    have hP9 := hP.sub (ws' := [(h0, .inr (3, [.long (lN (sj_uA f p0 1 % 65521)), .long (lN (sj_uB f p0 1 % 65521))])), (h1, .inl (cB, 4096, .inl f))]) [0, 1] rfl
    have hD9 := hD.sub (ws' := [(h0, .inr (3, [.long (lN (sj_uA f p0 1 % 65521)), .long (lN (sj_uB f p0 1 % 65521))])), (h1, .inl (cB, 4096, .inl f))]) [0, 1] (by decide) rfl
    exact W.vret hx hb hr (fun t ht hW => ⟨⟨(), rfl, trivial, by rw [ht]; exact hP9, hD9⟩, hS.F ht⟩) hS.2.2 dX3_update_62
set_option maxHeartbeats 4000000 in
set_option maxRecDepth 100000 in
/-- Adler32.combine -/
theorem met_X3_combine (l : Launch) (D : va_G) (tb sz : Nat) (a1 b1 a2 b2 n : Nat) (ha1 : a1 < 65521) (hb1 : b1 < 65521) (ha2 : a2 < 65521) (hb2 : b2 < 65521) (hn : n ≤ 4096) : sj_ML l yX3_combine cX3_combine 14 ({ frames := 0, cells := 0, slots := 0, locals := 0 }) [.long (lN (b1 * 65536 + a1)), .long (lN (b2 * 65536 + a2)), .long (lN n)] D tb [] [] sz (lN (sj_jB a1 b1 b2 n * 65536 + sj_jA a1 a2)) [] 0 0 := by
  refine Met.ofW (cc := cX3_combine) (maxL := 14) (ret := (some .long)) (by decide) rfl ?_
  intro p e s m args below meth c s₁ B hml hv
  obtain ⟨rfl, hsz, hP, hK, hD0, hT⟩ := hv
  have hx := B.exec
  have hb := B.bytes
  have hr := B.returns
  have hts := atoms_spec (ws := ws_ yX3_combine cX3_combine 14 (some .long)) B.pre
  have hts : ∀ w ∈ lw_all, w.before _ s = true := fun w h => hts w (List.mem_cons_of_mem _ h)
  have hown : s.vm.findClass RX3 = some m.cls := findClass_of_methodNamed B.named
  have hlocks := B.notSynchronized
  subst hsz
  have hD := hD0.self (sz := s.heap.size)
  generalize hAe : va_A [] s.heap.size = A at hD hT ⊢
  have hA : ∀ q : Nat, s.heap.size ≤ q → A q := fun q h => by rw [← hAe]; exact Or.inr h
  have hS : va_S A s.heap s.heap [] := va_S.rf
  have hP : va_P D vwCl [] s.heap := hP
  have hl := lv_entry ([.long (lN (b1 * 65536 + a1)), .long (lN (b2 * 65536 + a2)), .long (lN n)]) (n := 14) (Nat.le_of_ble_eq_true rfl)
  rw [lg_entry_eq]
  generalize (lg_sl ([.long (lN (b1 * 65536 + a1)), .long (lN (b2 * 65536 + a2)), .long (lN n)]) ++ List.replicate (14 - (lg_sl ([.long (lN (b1 * 65536 + a1)), .long (lN (b2 * 65536 + a2)), .long (lN n)])).length) Slot.unset).toArray = ls at hl ⊢
  have hl : lv_has ls 14 [(0, .long (lN (b1 * 65536 + a1))), (2, .long (lN (b2 * 65536 + a2))), (4, .long (lN n))] := hl
  have hna : n * a1 < 2 ^ 63 := Nat.lt_of_le_of_lt (Nat.mul_le_mul hn (Nat.le_of_lt ha1)) (by decide)
  have hjA : sj_jA a1 a2 < 65521 := Nat.mod_lt _ (by decide)
  have hjB : sj_jB a1 b1 b2 n < 65521 := Nat.mod_lt _ (by decide)
  generalize hjae : sj_jA a1 a2 = ja at hjA ⊢
  generalize hjbe : sj_jB a1 b1 b2 n = jb at hjB ⊢
  have k4 : ∀ ls : Array Slot, lv_has ls 14 [(8, .long (lN ja)), (10, .long (lN jb))] → W p l e (headSpec (ws_ yX3_combine cX3_combine 14 (some .long)) ({ frames := 0, cells := 0, slots := 0, locals := 0 })).room s m ([.long (lN (b1 * 65536 + a1)), .long (lN (b2 * 65536 + a2)), .long (lN n)] : List Value).toArray below meth c s.heap [] 0 0 (MQ below (va_Ql (fun r (_ : Unit) => r = lN (jb * 65536 + ja)) (fun _ t => sj_we D A [] t) A) ([.long (lN (b1 * 65536 + a1)), .long (lN (b2 * 65536 + a2)), .long (lN n)] : List Value).toArray s 0 0 A) (F0 m 140 ls []) := by
    intro ls hl
    refine lv_lload hx hb dX3_combine_140 (lv_at hl 0 rfl) ?_
    refine lv_lload hx hb dX3_combine_142 (lv_at hl 1 rfl) ?_
    refine lv_bipush (v := 16) hx hb dX3_combine_144 (by decide) ?_
    refine lv_lshl (v := lN (jb * 65536)) hx hb dX3_combine_146 (sj_shl16 _) ?_
    refine lv_lor hx hb dX3_combine_147 ?_
    refine sj_tl (lN (jb * 65536 + ja)) (sj_or16' (by omega) (by omega)) ?_
    exact W.lret (v := lN (jb * 65536 + ja)) hx hb hr (fun t ht hW => ⟨⟨lN (jb * 65536 + ja), (), rfl, rfl, by rw [ht]; exact sj_nilP, sj_nilD⟩, hS.F ht⟩) hS.2.2 dX3_combine_148
  have k3 : ∀ S : Nat, S < 131042 → S % 65521 = jb → ∀ ls : Array Slot, lv_has ls 14 [(6, .long (lN 65521)), (8, .long (lN ja)), (10, .long (lN S))] → W p l e (headSpec (ws_ yX3_combine cX3_combine 14 (some .long)) ({ frames := 0, cells := 0, slots := 0, locals := 0 })).room s m ([.long (lN (b1 * 65536 + a1)), .long (lN (b2 * 65536 + a2)), .long (lN n)] : List Value).toArray below meth c s.heap [] 0 0 (MQ below (va_Ql (fun r (_ : Unit) => r = lN (jb * 65536 + ja)) (fun _ t => sj_we D A [] t) A) ([.long (lN (b1 * 65536 + a1)), .long (lN (b2 * 65536 + a2)), .long (lN n)] : List Value).toArray s 0 0 A) (F0 m 125 ls []) := by
    intro S h1 h2 ls hl
    refine lv_lload hx hb dX3_combine_125 (lv_at hl 2 rfl) ?_
    refine lv_lload hx hb dX3_combine_127 (lv_at hl 0 rfl) ?_
    refine W.lcmp hx hb dX3_combine_129 ?_
    refine lv_if_lt (tgt := 140) hx hb dX3_combine_130 (by decide) (fun c0 => ?_) (fun c0 => ?_)
    · have hlt : S < 65521 := (sj_ltL (by omega) (by decide)).mp c0
      have e : S = jb := by omega
      subst e
      exact k4 ls (lv_sub hl [1, 2] rfl)
    · have hge : ¬ S < 65521 := fun z9 => c0 ((sj_ltL (by omega) (by decide)).mpr z9)
      refine lv_lload hx hb dX3_combine_133 (lv_at hl 2 rfl) ?_
      refine lv_lload hx hb dX3_combine_135 (lv_at hl 0 rfl) ?_
      refine lv_lsub hx hb dX3_combine_137 ?_
      refine sj_tl (lN (S - 65521)) (lN_sub (by omega)) ?_
      refine lv_lstore (lv' := [(10, .long (lN (S - 65521))), (6, .long (lN 65521)), (8, .long (lN ja))]) hx hb dX3_combine_138 hl (by decide) rfl (fun ls hl => ?_)
      have e : S - 65521 = jb := by omega
      rw [e] at hl
      exact k4 ls (lv_sub hl [2, 0] rfl)
  have k2 : ∀ S : Nat, S < 262084 → S % 65521 = jb → ∀ ls : Array Slot, lv_has ls 14 [(6, .long (lN 65521)), (8, .long (lN ja)), (10, .long (lN S))] → W p l e (headSpec (ws_ yX3_combine cX3_combine 14 (some .long)) ({ frames := 0, cells := 0, slots := 0, locals := 0 })).room s m ([.long (lN (b1 * 65536 + a1)), .long (lN (b2 * 65536 + a2)), .long (lN n)] : List Value).toArray below meth c s.heap [] 0 0 (MQ below (va_Ql (fun r (_ : Unit) => r = lN (jb * 65536 + ja)) (fun _ t => sj_we D A [] t) A) ([.long (lN (b1 * 65536 + a1)), .long (lN (b2 * 65536 + a2)), .long (lN n)] : List Value).toArray s 0 0 A) (F0 m 106 ls []) := by
    intro S h1 h2 ls hl
    refine lv_lload hx hb dX3_combine_106 (lv_at hl 2 rfl) ?_
    refine lv_lload hx hb dX3_combine_108 (lv_at hl 0 rfl) ?_
    refine lv_iconst (v := 1) hx hb dX3_combine_110 (by decide) ?_
    refine lv_lshl (v := lN 131042) hx hb dX3_combine_111 (by decide) ?_
    refine W.lcmp hx hb dX3_combine_112 ?_
    refine lv_if_lt (tgt := 125) hx hb dX3_combine_113 (by decide) (fun c0 => ?_) (fun c0 => ?_)
    · have hlt : S < 131042 := (sj_ltL (by omega) (by decide)).mp c0
      exact k3 S (by omega) (by omega) ls (lv_sub hl [0, 1, 2] rfl)
    · have hge : ¬ S < 131042 := fun z9 => c0 ((sj_ltL (by omega) (by decide)).mpr z9)
      refine lv_lload hx hb dX3_combine_116 (lv_at hl 2 rfl) ?_
      refine lv_lload hx hb dX3_combine_118 (lv_at hl 0 rfl) ?_
      refine lv_iconst (v := 1) hx hb dX3_combine_120 (by decide) ?_
      refine lv_lshl (v := lN 131042) hx hb dX3_combine_121 (by decide) ?_
      refine lv_lsub hx hb dX3_combine_122 ?_
      refine sj_tl (lN (S - 131042)) (lN_sub (by omega)) ?_
      refine lv_lstore (lv' := [(10, .long (lN (S - 131042))), (6, .long (lN 65521)), (8, .long (lN ja))]) hx hb dX3_combine_123 hl (by decide) rfl (fun ls hl => ?_)
      exact k3 (S - 131042) (by omega) (by omega) ls (lv_sub hl [1, 2, 0] rfl)
  have k1 : ∀ S T : Nat, S < 131042 → S % 65521 = ja → T < 262084 → T % 65521 = jb → ∀ ls : Array Slot, lv_has ls 14 [(6, .long (lN 65521)), (8, .long (lN S)), (10, .long (lN T))] → W p l e (headSpec (ws_ yX3_combine cX3_combine 14 (some .long)) ({ frames := 0, cells := 0, slots := 0, locals := 0 })).room s m ([.long (lN (b1 * 65536 + a1)), .long (lN (b2 * 65536 + a2)), .long (lN n)] : List Value).toArray below meth c s.heap [] 0 0 (MQ below (va_Ql (fun r (_ : Unit) => r = lN (jb * 65536 + ja)) (fun _ t => sj_we D A [] t) A) ([.long (lN (b1 * 65536 + a1)), .long (lN (b2 * 65536 + a2)), .long (lN n)] : List Value).toArray s 0 0 A) (F0 m 91 ls []) := by
    intro S T h1 h2 h3 h4 ls hl
    refine lv_lload hx hb dX3_combine_91 (lv_at hl 1 rfl) ?_
    refine lv_lload hx hb dX3_combine_93 (lv_at hl 0 rfl) ?_
    refine W.lcmp hx hb dX3_combine_95 ?_
    refine lv_if_lt (tgt := 106) hx hb dX3_combine_96 (by decide) (fun c0 => ?_) (fun c0 => ?_)
    · have hlt : S < 65521 := (sj_ltL (by omega) (by decide)).mp c0
      have e : S = ja := by omega
      subst e
      exact k2 T h3 h4 ls (lv_sub hl [0, 1, 2] rfl)
    · have hge : ¬ S < 65521 := fun z9 => c0 ((sj_ltL (by omega) (by decide)).mpr z9)
      refine lv_lload hx hb dX3_combine_99 (lv_at hl 1 rfl) ?_
      refine lv_lload hx hb dX3_combine_101 (lv_at hl 0 rfl) ?_
      refine lv_lsub hx hb dX3_combine_103 ?_
      refine sj_tl (lN (S - 65521)) (lN_sub (by omega)) ?_
      refine lv_lstore (lv' := [(8, .long (lN (S - 65521))), (6, .long (lN 65521)), (10, .long (lN T))]) hx hb dX3_combine_104 hl (by decide) rfl (fun ls hl => ?_)
      have e : S - 65521 = ja := by omega
      rw [e] at hl
      exact k2 T h3 h4 ls (lv_sub hl [1, 0, 2] rfl)
  have k0 : ∀ S T : Nat, S < 196563 → S % 65521 = ja → T < 262084 → T % 65521 = jb → ∀ ls : Array Slot, lv_has ls 14 [(6, .long (lN 65521)), (8, .long (lN S)), (10, .long (lN T))] → W p l e (headSpec (ws_ yX3_combine cX3_combine 14 (some .long)) ({ frames := 0, cells := 0, slots := 0, locals := 0 })).room s m ([.long (lN (b1 * 65536 + a1)), .long (lN (b2 * 65536 + a2)), .long (lN n)] : List Value).toArray below meth c s.heap [] 0 0 (MQ below (va_Ql (fun r (_ : Unit) => r = lN (jb * 65536 + ja)) (fun _ t => sj_we D A [] t) A) ([.long (lN (b1 * 65536 + a1)), .long (lN (b2 * 65536 + a2)), .long (lN n)] : List Value).toArray s 0 0 A) (F0 m 76 ls []) := by
    intro S T h1 h2 h3 h4 ls hl
    refine lv_lload hx hb dX3_combine_76 (lv_at hl 1 rfl) ?_
    refine lv_lload hx hb dX3_combine_78 (lv_at hl 0 rfl) ?_
    refine W.lcmp hx hb dX3_combine_80 ?_
    refine lv_if_lt (tgt := 91) hx hb dX3_combine_81 (by decide) (fun c0 => ?_) (fun c0 => ?_)
    · have hlt : S < 65521 := (sj_ltL (by omega) (by decide)).mp c0
      exact k1 S T (by omega) h2 h3 h4 ls (lv_sub hl [0, 1, 2] rfl)
    · have hge : ¬ S < 65521 := fun z9 => c0 ((sj_ltL (by omega) (by decide)).mpr z9)
      refine lv_lload hx hb dX3_combine_84 (lv_at hl 1 rfl) ?_
      refine lv_lload hx hb dX3_combine_86 (lv_at hl 0 rfl) ?_
      refine lv_lsub hx hb dX3_combine_88 ?_
      refine sj_tl (lN (S - 65521)) (lN_sub (by omega)) ?_
      refine lv_lstore (lv' := [(8, .long (lN (S - 65521))), (6, .long (lN 65521)), (10, .long (lN T))]) hx hb dX3_combine_89 hl (by decide) rfl (fun ls hl => ?_)
      exact k1 (S - 65521) T (by omega) (by omega) h3 h4 ls (lv_sub hl [1, 0, 2] rfl)
  refine lv_ldc2 hx hb hown (hts _ q97) dX3_combine_0 ?_
  refine sj_tl (lN 65521) (rfl) ?_
  refine lv_lstore (lv' := [(6, .long (lN 65521)), (0, .long (lN (b1 * 65536 + a1))), (2, .long (lN (b2 * 65536 + a2))), (4, .long (lN n))]) hx hb dX3_combine_3 hl (by decide) rfl (fun ls hl => ?_)
  refine lv_lload hx hb dX3_combine_5 (lv_at hl 3 rfl) ?_
  refine lv_lload hx hb dX3_combine_7 (lv_at hl 0 rfl) ?_
  refine lv_lrem hx hb dX3_combine_9 (by decide) ?_
  refine sj_tl (lN n) ((sj_md (by omega)).trans (by rw [Nat.mod_eq_of_lt (by omega)])) ?_
  refine lv_lstore (lv' := [(12, .long (lN n)), (6, .long (lN 65521)), (0, .long (lN (b1 * 65536 + a1))), (2, .long (lN (b2 * 65536 + a2))), (4, .long (lN n))]) hx hb dX3_combine_10 hl (by decide) rfl (fun ls hl => ?_)
  refine lv_lload_n hx hb dX3_combine_12 rfl (lv_at hl 2 rfl) ?_
  refine lv_ldc2 hx hb hown (hts _ q128) dX3_combine_13 ?_
  refine sj_tl (lN 65535) (rfl) ?_
  refine lv_land hx hb dX3_combine_16 ?_
  refine sj_tl (lN a1) (sj_lo16 (by omega) (by omega)) ?_
  refine lv_lstore (lv' := [(8, .long (lN a1)), (12, .long (lN n)), (6, .long (lN 65521)), (0, .long (lN (b1 * 65536 + a1))), (2, .long (lN (b2 * 65536 + a2))), (4, .long (lN n))]) hx hb dX3_combine_17 hl (by decide) rfl (fun ls hl => ?_)
  refine lv_lload hx hb dX3_combine_19 (lv_at hl 1 rfl) ?_
  refine lv_lload hx hb dX3_combine_21 (lv_at hl 0 rfl) ?_
  refine lv_lmul hx hb dX3_combine_23 ?_
  refine sj_tl (lN (n * a1)) (lN_mul n a1) ?_
  refine lv_lstore (lv' := [(10, .long (lN (n * a1))), (8, .long (lN a1)), (12, .long (lN n)), (6, .long (lN 65521)), (0, .long (lN (b1 * 65536 + a1))), (2, .long (lN (b2 * 65536 + a2))), (4, .long (lN n))]) hx hb dX3_combine_24 hl (by decide) rfl (fun ls hl => ?_)
  refine lv_lload hx hb dX3_combine_26 (lv_at hl 0 rfl) ?_
  refine lv_lload hx hb dX3_combine_28 (lv_at hl 3 rfl) ?_
  refine lv_lrem hx hb dX3_combine_30 (by decide) ?_
  refine sj_tl (lN (n * a1 % 65521)) (sj_md hna) ?_
  refine lv_lstore (lv' := [(10, .long (lN (n * a1 % 65521))), (8, .long (lN a1)), (12, .long (lN n)), (6, .long (lN 65521)), (0, .long (lN (b1 * 65536 + a1))), (2, .long (lN (b2 * 65536 + a2))), (4, .long (lN n))]) hx hb dX3_combine_31 hl (by decide) rfl (fun ls hl => ?_)
  refine lv_lload hx hb dX3_combine_33 (lv_at hl 1 rfl) ?_
  refine lv_lload_n hx hb dX3_combine_35 rfl (lv_at hl 5 rfl) ?_
  refine lv_ldc2 hx hb hown (hts _ q128) dX3_combine_36 ?_
  refine sj_tl (lN 65535) (rfl) ?_
  refine lv_land hx hb dX3_combine_39 ?_
  refine sj_tl (lN a2) (sj_lo16 (by omega) (by omega)) ?_
  refine lv_lload hx hb dX3_combine_40 (lv_at hl 3 rfl) ?_
  refine lv_ladd hx hb dX3_combine_42 ?_
  refine sj_tl (lN (a2 + 65521)) (lN_add _ _) ?_
  refine lv_lconst (v := lN 1) hx hb dX3_combine_43 (by decide) ?_
  refine lv_lsub hx hb dX3_combine_44 ?_
  refine sj_tl (lN (a2 + 65521 - 1)) (lN_sub (by omega)) ?_
  refine lv_ladd hx hb dX3_combine_45 ?_
  refine sj_tl (lN (a1 + (a2 + 65521 - 1))) (lN_add _ _) ?_
  refine lv_lstore (lv' := [(8, .long (lN (a1 + (a2 + 65521 - 1)))), (10, .long (lN (n * a1 % 65521))), (12, .long (lN n)), (6, .long (lN 65521)), (0, .long (lN (b1 * 65536 + a1))), (2, .long (lN (b2 * 65536 + a2))), (4, .long (lN n))]) hx hb dX3_combine_46 hl (by decide) rfl (fun ls hl => ?_)
  refine lv_lload hx hb dX3_combine_48 (lv_at hl 1 rfl) ?_
  refine lv_lload_n hx hb dX3_combine_50 rfl (lv_at hl 4 rfl) ?_
  refine lv_bipush (v := 16) hx hb dX3_combine_51 (by decide) ?_
  refine lv_lshr (v := lN b1) hx hb dX3_combine_53 (sj_hi (by omega) (by omega)) ?_
  refine lv_ldc2 hx hb hown (hts _ q128) dX3_combine_54 ?_
  refine sj_tl (lN 65535) (rfl) ?_
  refine lv_land hx hb dX3_combine_57 ?_
  refine sj_tl (lN b1) ((sj_m16 (by omega)).trans (by rw [Nat.mod_eq_of_lt (by omega)])) ?_
  refine lv_lload_n hx hb dX3_combine_58 rfl (lv_at hl 5 rfl) ?_
  refine lv_bipush (v := 16) hx hb dX3_combine_59 (by decide) ?_
  refine lv_lshr (v := lN b2) hx hb dX3_combine_61 (sj_hi (by omega) (by omega)) ?_
  refine lv_ldc2 hx hb hown (hts _ q128) dX3_combine_62 ?_
  refine sj_tl (lN 65535) (rfl) ?_
  refine lv_land hx hb dX3_combine_65 ?_
  refine sj_tl (lN b2) ((sj_m16 (by omega)).trans (by rw [Nat.mod_eq_of_lt (by omega)])) ?_
  refine lv_ladd hx hb dX3_combine_66 ?_
  refine sj_tl (lN (b1 + b2)) (lN_add _ _) ?_
  refine lv_lload hx hb dX3_combine_67 (lv_at hl 3 rfl) ?_
  refine lv_ladd hx hb dX3_combine_69 ?_
  refine sj_tl (lN (b1 + b2 + 65521)) (lN_add _ _) ?_
  refine lv_lload hx hb dX3_combine_70 (lv_at hl 2 rfl) ?_
  refine lv_lsub hx hb dX3_combine_72 ?_
  refine sj_tl (lN (b1 + b2 + 65521 - n)) (lN_sub (by omega)) ?_
  refine lv_ladd hx hb dX3_combine_73 ?_
  refine sj_tl (lN (n * a1 % 65521 + (b1 + b2 + 65521 - n))) (lN_add _ _) ?_
  refine lv_lstore (lv' := [(10, .long (lN (n * a1 % 65521 + (b1 + b2 + 65521 - n)))), (8, .long (lN (a1 + (a2 + 65521 - 1)))), (12, .long (lN n)), (6, .long (lN 65521)), (0, .long (lN (b1 * 65536 + a1))), (2, .long (lN (b2 * 65536 + a2))), (4, .long (lN n))]) hx hb dX3_combine_74 hl (by decide) rfl (fun ls hl => ?_)
  have e1 : (a1 + (a2 + 65521 - 1)) % 65521 = ja := by
    rw [← hjae]
    unfold sj_jA
    omega
  have e2 : (n * a1 % 65521 + (b1 + b2 + 65521 - n)) % 65521 = jb := by
    rw [← hjbe]
    unfold sj_jB
    omega
  have e3 : n * a1 % 65521 < 65521 := Nat.mod_lt _ (by decide)
  exact k0 (a1 + (a2 + 65521 - 1)) (n * a1 % 65521 + (b1 + b2 + 65521 - n)) (by omega) e1 (by omega) e2 ls (lv_sub hl [3, 1, 0] rfl)
end
section
/-! SumJoin: from, count, size, trim, word, put, the constructor -/
set_option maxRecDepth 100000
def sj_bb (w : Int32) (k : Nat) : Int32 := ((w.toUInt32 >>> ((nI k).toUInt32 &&& Int32.toUInt32 31)).toInt32).toInt8.toInt32
theorem sj_bb8 (w : Int32) (k : Nat) : (sj_bb w k).toInt8.toInt32 = sj_bb w k := by
  have h := pk_vb ((w.toUInt32 >>> ((nI k).toUInt32 &&& Int32.toUInt32 31)).toInt32)
  rw [vp_nar_byte] at h
  exact h
def sj_w4 (f : Nat → Int32) (p : Nat) (w : Int32) : Nat → Int32 := upd (upd (upd (upd f p (sj_bb w 24)) (p + 1) (sj_bb w 16)) (p + 2) (sj_bb w 8)) (p + 3) (sj_bb w 0)
theorem sj_w16 (f : Nat → Int32) (n : Nat) (a b c d : Int32) : sj_w4 (sj_w4 (sj_w4 (sj_w4 f n a) (n + 4) b) (n + 8) c) (n + 12) d = sj_pw f n a b c d 16 := rfl
set_option maxHeartbeats 4000000 in
set_option maxRecDepth 100000 in
/-- from(x) -/
theorem met_X0_from (l : Launch) (D : va_G) (tb sz : Nat) (h0 h1 n : Nat) (x : Int32) (hn : n ≤ 4096) : sj_MI l yX0_from cX0_from 2 .int ({ frames := 0, cells := 0, slots := 0, locals := 0 }) [.ref h0, .int x] D tb [(h0, .inr (0, [.ref h1, .int (nI n)]))] [] sz (nI (sj_fr x n)) [(h0, .inr (0, [.ref h1, .int (nI n)]))] 0 0 := by
  refine Met.ofW (cc := cX0_from) (maxL := 2) (ret := (some .int)) (by decide) rfl ?_
  intro p e s m args below meth c s₁ B hml hv
  obtain ⟨rfl, hsz, hP, hK, hD0, hT⟩ := hv
  have hx := B.exec
  have hb := B.bytes
  have hr := B.returns
  have hts := atoms_spec (ws := ws_ yX0_from cX0_from 2 (some .int)) B.pre
  have hts : ∀ w ∈ lw_all, w.before _ s = true := fun w h => hts w (List.mem_cons_of_mem _ h)
  have hown : s.vm.findClass RX0 = some m.cls := findClass_of_methodNamed B.named
  have hlocks := B.notSynchronized
  subst hsz
  have hD := hD0.self (sz := s.heap.size)
  generalize hAe : va_A [(h0, .inr (0, [.ref h1, .int (nI n)]))] s.heap.size = A at hD hT ⊢
  have hA : ∀ q : Nat, s.heap.size ≤ q → A q := fun q h => by rw [← hAe]; exact Or.inr h
  have hS : va_S A s.heap s.heap [] := va_S.rf
  have hP : va_P D vwCl [(h0, .inr (0, [.ref h1, .int (nI n)]))] s.heap := hP
  have hl := lv_entry ([.ref h0, .int x]) (n := 2) (Nat.le_of_ble_eq_true rfl)
  rw [lg_entry_eq]
  generalize (lg_sl ([.ref h0, .int x]) ++ List.replicate (2 - (lg_sl ([.ref h0, .int x])).length) Slot.unset).toArray = ls at hl ⊢
  have hl : lv_has ls 2 [(0, .ref h0), (1, .int x)] := hl
  refine lv_iload_n hx hb dX0_from_0 rfl (lv_at hl 1 rfl) ?_
  refine lv_ldc hx hb hown (hts _ q43) dX0_from_1 ?_
  refine lv_iand hx hb dX0_from_3 ?_
  refine lv_aload_n hx hb dX0_from_4 rfl (lv_at hl 0 rfl) ?_
  refine va_get (D := D) (ci := 0) (v := .int (nI n)) (C := RX0) (T := TX0) (N := 2) hx hb hts in_X0 hown hK hP 0 rfl rfl 1 (by decide) (hts _ q20) (fun _ h9 => h9) rfl dX0_from_5 ?_
  refine lv_iconst (v := nI 1) hx hb dX0_from_8 (by decide) ?_
  refine lv_iadd hx hb dX0_from_9 ?_
  refine sj_ti (nI (n + 1)) (nI_add n 1) ?_
  refine lv_irem hx hb dX0_from_10 (nI_ne0 (by omega) (by omega)) ?_
  refine sj_ti (nI (sj_fr x n)) (sj_frI x n hn) ?_
  have hP9 := hP.sub (ws' := [(h0, .inr (0, [.ref h1, .int (nI n)]))]) [0] rfl
  have hD9 := hD.sub (ws' := [(h0, .inr (0, [.ref h1, .int (nI n)]))]) [0] (by decide) rfl
  exact W.iret (v := nI (sj_fr x n)) hx hb hr (fun t ht hW => ⟨⟨nI (sj_fr x n), (), rfl, rfl, by rw [ht]; exact hP9, hD9⟩, hS.F ht⟩) hS.2.2 dX0_from_11
set_option maxHeartbeats 4000000 in
set_option maxRecDepth 100000 in
/-- count(p, y) -/
theorem met_X0_count (l : Launch) (D : va_G) (tb sz : Nat) (h0 h1 n p0 : Nat) (y : Int32) (hn : n ≤ 4096) (hp : p0 ≤ n) : sj_MI l yX0_count cX0_count 3 .int ({ frames := 0, cells := 0, slots := 0, locals := 0 }) [.ref h0, .int (nI p0), .int y] D tb [(h0, .inr (0, [.ref h1, .int (nI n)]))] [] sz (nI (sj_fr y (n - p0))) [(h0, .inr (0, [.ref h1, .int (nI n)]))] 0 0 := by
  refine Met.ofW (cc := cX0_count) (maxL := 3) (ret := (some .int)) (by decide) rfl ?_
  intro p e s m args below meth c s₁ B hml hv
  obtain ⟨rfl, hsz, hP, hK, hD0, hT⟩ := hv
  have hx := B.exec
  have hb := B.bytes
  have hr := B.returns
  have hts := atoms_spec (ws := ws_ yX0_count cX0_count 3 (some .int)) B.pre
  have hts : ∀ w ∈ lw_all, w.before _ s = true := fun w h => hts w (List.mem_cons_of_mem _ h)
  have hown : s.vm.findClass RX0 = some m.cls := findClass_of_methodNamed B.named
  have hlocks := B.notSynchronized
  subst hsz
  have hD := hD0.self (sz := s.heap.size)
  generalize hAe : va_A [(h0, .inr (0, [.ref h1, .int (nI n)]))] s.heap.size = A at hD hT ⊢
  have hA : ∀ q : Nat, s.heap.size ≤ q → A q := fun q h => by rw [← hAe]; exact Or.inr h
  have hS : va_S A s.heap s.heap [] := va_S.rf
  have hP : va_P D vwCl [(h0, .inr (0, [.ref h1, .int (nI n)]))] s.heap := hP
  have hl := lv_entry ([.ref h0, .int (nI p0), .int y]) (n := 3) (Nat.le_of_ble_eq_true rfl)
  rw [lg_entry_eq]
  generalize (lg_sl ([.ref h0, .int (nI p0), .int y]) ++ List.replicate (3 - (lg_sl ([.ref h0, .int (nI p0), .int y])).length) Slot.unset).toArray = ls at hl ⊢
  have hl : lv_has ls 3 [(0, .ref h0), (1, .int (nI p0)), (2, .int y)] := hl
  refine lv_iload_n hx hb dX0_count_0 rfl (lv_at hl 2 rfl) ?_
  refine lv_ldc hx hb hown (hts _ q43) dX0_count_1 ?_
  refine lv_iand hx hb dX0_count_3 ?_
  refine lv_aload_n hx hb dX0_count_4 rfl (lv_at hl 0 rfl) ?_
  refine va_get (D := D) (ci := 0) (v := .int (nI n)) (C := RX0) (T := TX0) (N := 2) hx hb hts in_X0 hown hK hP 0 rfl rfl 1 (by decide) (hts _ q20) (fun _ h9 => h9) rfl dX0_count_5 ?_
  refine lv_iload_n hx hb dX0_count_8 rfl (lv_at hl 1 rfl) ?_
  refine lv_isub hx hb dX0_count_9 ?_
  refine sj_ti (nI (n - p0)) (pk_sub hp) ?_
  refine lv_iconst (v := nI 1) hx hb dX0_count_10 (by decide) ?_
  refine lv_iadd hx hb dX0_count_11 ?_
  refine sj_ti (nI (n - p0 + 1)) (nI_add _ 1) ?_
  refine lv_irem hx hb dX0_count_12 (nI_ne0 (by omega) (by omega)) ?_
  refine sj_ti (nI (sj_fr y (n - p0))) (sj_frI y (n - p0) (by omega)) ?_
  have hP9 := hP.sub (ws' := [(h0, .inr (0, [.ref h1, .int (nI n)]))]) [0] rfl
  have hD9 := hD.sub (ws' := [(h0, .inr (0, [.ref h1, .int (nI n)]))]) [0] (by decide) rfl
  exact W.iret (v := nI (sj_fr y (n - p0))) hx hb hr (fun t ht hW => ⟨⟨nI (sj_fr y (n - p0)), (), rfl, rfl, by rw [ht]; exact hP9, hD9⟩, hS.F ht⟩) hS.2.2 dX0_count_13
set_option maxHeartbeats 4000000 in
set_option maxRecDepth 100000 in
/-- size() -/
theorem met_X0_size (l : Launch) (D : va_G) (tb sz : Nat) (h0 h1 n : Nat) : sj_MI l yX0_size cX0_size 1 .int ({ frames := 0, cells := 0, slots := 0, locals := 0 }) [.ref h0] D tb [(h0, .inr (0, [.ref h1, .int (nI n)]))] [] sz (nI n) [(h0, .inr (0, [.ref h1, .int (nI n)]))] 0 0 := by
  refine Met.ofW (cc := cX0_size) (maxL := 1) (ret := (some .int)) (by decide) rfl ?_
  intro p e s m args below meth c s₁ B hml hv
  obtain ⟨rfl, hsz, hP, hK, hD0, hT⟩ := hv
  have hx := B.exec
  have hb := B.bytes
  have hr := B.returns
  have hts := atoms_spec (ws := ws_ yX0_size cX0_size 1 (some .int)) B.pre
  have hts : ∀ w ∈ lw_all, w.before _ s = true := fun w h => hts w (List.mem_cons_of_mem _ h)
  have hown : s.vm.findClass RX0 = some m.cls := findClass_of_methodNamed B.named
  have hlocks := B.notSynchronized
  subst hsz
  have hD := hD0.self (sz := s.heap.size)
  generalize hAe : va_A [(h0, .inr (0, [.ref h1, .int (nI n)]))] s.heap.size = A at hD hT ⊢
  have hA : ∀ q : Nat, s.heap.size ≤ q → A q := fun q h => by rw [← hAe]; exact Or.inr h
  have hS : va_S A s.heap s.heap [] := va_S.rf
  have hP : va_P D vwCl [(h0, .inr (0, [.ref h1, .int (nI n)]))] s.heap := hP
  have hl := lv_entry ([.ref h0]) (n := 1) (Nat.le_of_ble_eq_true rfl)
  rw [lg_entry_eq]
  generalize (lg_sl ([.ref h0]) ++ List.replicate (1 - (lg_sl ([.ref h0])).length) Slot.unset).toArray = ls at hl ⊢
  have hl : lv_has ls 1 [(0, .ref h0)] := hl
  refine lv_aload_n hx hb dX0_size_0 rfl (lv_at hl 0 rfl) ?_
  refine va_get (D := D) (ci := 0) (v := .int (nI n)) (C := RX0) (T := TX0) (N := 2) hx hb hts in_X0 hown hK hP 0 rfl rfl 1 (by decide) (hts _ q20) (fun _ h9 => h9) rfl dX0_size_1 ?_
  have hP9 := hP.sub (ws' := [(h0, .inr (0, [.ref h1, .int (nI n)]))]) [0] rfl
  have hD9 := hD.sub (ws' := [(h0, .inr (0, [.ref h1, .int (nI n)]))]) [0] (by decide) rfl
  exact W.iret (v := nI n) hx hb hr (fun t ht hW => ⟨⟨nI n, (), rfl, rfl, by rw [ht]; exact hP9, hD9⟩, hS.F ht⟩) hS.2.2 dX0_size_4
set_option maxHeartbeats 4000000 in
set_option maxRecDepth 100000 in
/-- trim(x) -/
theorem met_X0_trim (l : Launch) (D : va_G) (tb sz : Nat) (h0 h1 n : Nat) (x : Int32) (hn : n ≤ 4096) : sj_MV l yX0_trim cX0_trim 2 ({ frames := 1, cells := 0, slots := 0, locals := 21 }) [.ref h0, .int x] D tb [(h0, .inr (0, [.ref h1, .int (nI n)]))] [] sz [(h0, .inr (0, [.ref h1, .int (nI (sj_fr x n))]))] 0 0 := by
  refine Met.ofW (cc := cX0_trim) (maxL := 2) (ret := none) (by decide) rfl ?_
  intro p e s m args below meth c s₁ B hml hv
  obtain ⟨rfl, hsz, hP, hK, hD0, hT⟩ := hv
  have hx := B.exec
  have hb := B.bytes
  have hr := B.returns
  have hts := atoms_spec (ws := ws_ yX0_trim cX0_trim 2 none) B.pre
  have hts : ∀ w ∈ lw_all, w.before _ s = true := fun w h => hts w (List.mem_cons_of_mem _ h)
  have hown : s.vm.findClass RX0 = some m.cls := findClass_of_methodNamed B.named
  have hlocks := B.notSynchronized
  subst hsz
  have hD := hD0.self (sz := s.heap.size)
  generalize hAe : va_A [(h0, .inr (0, [.ref h1, .int (nI n)]))] s.heap.size = A at hD hT ⊢
  have hA : ∀ q : Nat, s.heap.size ≤ q → A q := fun q h => by rw [← hAe]; exact Or.inr h
  have hS : va_S A s.heap s.heap [] := va_S.rf
  have hP : va_P D vwCl [(h0, .inr (0, [.ref h1, .int (nI n)]))] s.heap := hP
  have hl := lv_entry ([.ref h0, .int x]) (n := 2) (Nat.le_of_ble_eq_true rfl)
  rw [lg_entry_eq]
  generalize (lg_sl ([.ref h0, .int x]) ++ List.replicate (2 - (lg_sl ([.ref h0, .int x])).length) Slot.unset).toArray = ls at hl ⊢
  have hl : lv_has ls 2 [(0, .ref h0), (1, .int x)] := hl
  refine lv_aload_n hx hb dX0_trim_0 rfl (lv_at hl 0 rfl) ?_
  refine lv_aload_n hx hb dX0_trim_1 rfl (lv_at hl 0 rfl) ?_
  refine lv_iload_n hx hb dX0_trim_2 rfl (lv_at hl 1 rfl) ?_
  refine sj_ci_ (wr := []) (w1 := [(h0, .inr (0, [.ref h1, .int (nI n)]))]) (wf := [(h0, .inr (0, [.ref h1, .int (nI n)]))]) (va_runV (As := [.int x]) (rest := [.ref h0]) ⟨hx, hb, hml, hown, hts⟩ (met_X0_from l D tb s.heap.size h0 h1 n x hn) (cwV 1 hts (lw_V q39 q41 qs1 q7 q42) rfl rfl rfl (by decide +kernel) ⟨Nat.le_of_ble_eq_true rfl, Nat.le_of_ble_eq_true rfl⟩) (sj_preV hK hP hD hS hA hT [0] rfl rfl (by decide) [] rfl (ci := 0) (q0 := 0) rfl rfl) rfl rfl hl.1 rfl (lv_room (Nat.le_of_ble_eq_true rfl)) dX0_trim_3 ⟨Nat.le_of_ble_eq_true rfl, Nat.le_of_ble_eq_true rfl⟩) hP hD hS hA [0] [] rfl rfl (by decide) (by decide) [0] rfl rfl (by decide) (fun H locs hP hD hS => ?_)
  refine va_put (D := D) (ci := 0) (v := .int (nI (sj_fr x n))) (ty := .int) (C := RX0) (T := TX0) (N := 2) hx hb hts in_X0 tyX0 tyX0_ok nmX0 hown hK hP hD hS 0 rfl rfl 1 (by decide) (hts _ q20) (fun _ h9 => h9) rfl (by decide +kernel) rfl rfl (Nat.le_of_ble_eq_true rfl) dX0_trim_6 (fun H locs hP hD hS => ?_)
  have hP : va_P D vwCl [(h0, .inr (0, [.ref h1, .int (nI (sj_fr x n))]))] H := hP
  have hD : va_D A [(h0, .inr (0, [.ref h1, .int (nI (sj_fr x n))]))] := hD
  have hP9 := hP.sub (ws' := [(h0, .inr (0, [.ref h1, .int (nI (sj_fr x n))]))]) [0] rfl
  have hD9 := hD.sub (ws' := [(h0, .inr (0, [.ref h1, .int (nI (sj_fr x n))]))]) [0] (by decide) rfl
  exact W.vret hx hb hr (fun t ht hW => ⟨⟨(), rfl, trivial, by rw [ht]; exact hP9, hD9⟩, hS.F ht⟩) hS.2.2 dX0_trim_9
set_option maxHeartbeats 4000000 in
set_option maxRecDepth 100000 in
/-- word(p, w): four bytes -/
theorem met_X0_word (l : Launch) (D : va_G) (tb sz : Nat) (h0 h1 : Nat) (z : Int32) (cB : ClassId) (f : Nat → Int32) (p1 : Nat) (x : Int32) (hp : p1 + 4 ≤ 4096) : sj_MV l yX0_word cX0_word 3 ({ frames := 0, cells := 0, slots := 0, locals := 0 }) [.ref h0, .int (nI p1), .int x] D tb [(h0, .inr (0, [.ref h1, .int z])), (h1, .inl (cB, 4096, .inl f))] [(cB, .byte)] sz [(h0, .inr (0, [.ref h1, .int z])), (h1, .inl (cB, 4096, .inl (sj_w4 f p1 x)))] 0 0 := by
  refine Met.ofW (cc := cX0_word) (maxL := 3) (ret := none) (by decide) rfl ?_
  intro p e s m args below meth c s₁ B hml hv
  obtain ⟨rfl, hsz, hP, hK, hD0, hT⟩ := hv
  have hx := B.exec
  have hb := B.bytes
  have hr := B.returns
  have hts := atoms_spec (ws := ws_ yX0_word cX0_word 3 none) B.pre
  have hts : ∀ w ∈ lw_all, w.before _ s = true := fun w h => hts w (List.mem_cons_of_mem _ h)
  have hown : s.vm.findClass RX0 = some m.cls := findClass_of_methodNamed B.named
  have hlocks := B.notSynchronized
  subst hsz
  have hD := hD0.self (sz := s.heap.size)
  generalize hAe : va_A [(h0, .inr (0, [.ref h1, .int z])), (h1, .inl (cB, 4096, .inl f))] s.heap.size = A at hD hT ⊢
  have hA : ∀ q : Nat, s.heap.size ≤ q → A q := fun q h => by rw [← hAe]; exact Or.inr h
  have hS : va_S A s.heap s.heap [] := va_S.rf
  have hP : va_P D vwCl [(h0, .inr (0, [.ref h1, .int z])), (h1, .inl (cB, 4096, .inl f))] s.heap := hP
  have hl := lv_entry ([.ref h0, .int (nI p1), .int x]) (n := 3) (Nat.le_of_ble_eq_true rfl)
  rw [lg_entry_eq]
  generalize (lg_sl ([.ref h0, .int (nI p1), .int x]) ++ List.replicate (3 - (lg_sl ([.ref h0, .int (nI p1), .int x])).length) Slot.unset).toArray = ls at hl ⊢
  have hl : lv_has ls 3 [(0, .ref h0), (1, .int (nI p1)), (2, .int x)] := hl
  refine lv_aload_n hx hb dX0_word_0 rfl (lv_at hl 0 rfl) ?_
  refine va_get (D := D) (ci := 0) (v := .ref h1) (C := RX0) (T := TX0) (N := 2) hx hb hts in_X0 hown hK hP 0 rfl rfl 0 (by decide) (hts _ q19) (fun _ h9 => h9) rfl dX0_word_1 ?_
  refine lv_iload_n hx hb dX0_word_4 rfl (lv_at hl 1 rfl) ?_
  refine lv_iload_n hx hb dX0_word_5 rfl (lv_at hl 2 rfl) ?_
  refine lv_bipush (v := nI 24) hx hb dX0_word_6 (by decide) ?_
  refine lv_ishr hx hb dX0_word_8 ?_
  refine lv_i2b (v := sj_bb x 24) hx hb dX0_word_9 (sj_sb x 24 (by decide)) ?_
  refine sj_bast hx hb hK hP hD hS 1 0 rfl rfl (j := p1) (by omega) (by decide) (g := upd f p1 (sj_bb x 24)) (by rw [sj_bb8]) dX0_word_10 (fun H locs hP hD hS => ?_)
  have hP : va_P D vwCl [(h0, .inr (0, [.ref h1, .int z])), (h1, .inl (cB, 4096, .inl (upd f p1 (sj_bb x 24))))] H := hP
  have hD : va_D A [(h0, .inr (0, [.ref h1, .int z])), (h1, .inl (cB, 4096, .inl (upd f p1 (sj_bb x 24))))] := hD
  refine lv_aload_n hx hb dX0_word_11 rfl (lv_at hl 0 rfl) ?_
  refine va_get (D := D) (ci := 0) (v := .ref h1) (C := RX0) (T := TX0) (N := 2) hx hb hts in_X0 hown hK hP 0 rfl rfl 0 (by decide) (hts _ q19) (fun _ h9 => h9) rfl dX0_word_12 ?_
  refine lv_iload_n hx hb dX0_word_15 rfl (lv_at hl 1 rfl) ?_
  refine lv_iconst (v := nI 1) hx hb dX0_word_16 (by decide) ?_
  refine lv_iadd hx hb dX0_word_17 ?_
  refine sj_ti (nI (p1 + 1)) (nI_add p1 1) ?_
  refine lv_iload_n hx hb dX0_word_18 rfl (lv_at hl 2 rfl) ?_
  refine lv_bipush (v := nI 16) hx hb dX0_word_19 (by decide) ?_
  refine lv_ishr hx hb dX0_word_21 ?_
  refine lv_i2b (v := sj_bb x 16) hx hb dX0_word_22 (sj_sb x 16 (by decide)) ?_
  refine sj_bast hx hb hK hP hD hS 1 0 rfl rfl (j := (p1 + 1)) (by omega) (by decide) (g := upd (upd f p1 (sj_bb x 24)) (p1 + 1) (sj_bb x 16)) (by rw [sj_bb8]) dX0_word_23 (fun H locs hP hD hS => ?_)
  have hP : va_P D vwCl [(h0, .inr (0, [.ref h1, .int z])), (h1, .inl (cB, 4096, .inl (upd (upd f p1 (sj_bb x 24)) (p1 + 1) (sj_bb x 16))))] H := hP
  have hD : va_D A [(h0, .inr (0, [.ref h1, .int z])), (h1, .inl (cB, 4096, .inl (upd (upd f p1 (sj_bb x 24)) (p1 + 1) (sj_bb x 16))))] := hD
  refine lv_aload_n hx hb dX0_word_24 rfl (lv_at hl 0 rfl) ?_
  refine va_get (D := D) (ci := 0) (v := .ref h1) (C := RX0) (T := TX0) (N := 2) hx hb hts in_X0 hown hK hP 0 rfl rfl 0 (by decide) (hts _ q19) (fun _ h9 => h9) rfl dX0_word_25 ?_
  refine lv_iload_n hx hb dX0_word_28 rfl (lv_at hl 1 rfl) ?_
  refine lv_iconst (v := nI 2) hx hb dX0_word_29 (by decide) ?_
  refine lv_iadd hx hb dX0_word_30 ?_
  refine sj_ti (nI (p1 + 2)) (nI_add p1 2) ?_
  refine lv_iload_n hx hb dX0_word_31 rfl (lv_at hl 2 rfl) ?_
  refine lv_bipush (v := nI 8) hx hb dX0_word_32 (by decide) ?_
  refine lv_ishr hx hb dX0_word_34 ?_
  refine lv_i2b (v := sj_bb x 8) hx hb dX0_word_35 (sj_sb x 8 (by decide)) ?_
  refine sj_bast hx hb hK hP hD hS 1 0 rfl rfl (j := (p1 + 2)) (by omega) (by decide) (g := upd (upd (upd f p1 (sj_bb x 24)) (p1 + 1) (sj_bb x 16)) (p1 + 2) (sj_bb x 8)) (by rw [sj_bb8]) dX0_word_36 (fun H locs hP hD hS => ?_)
  have hP : va_P D vwCl [(h0, .inr (0, [.ref h1, .int z])), (h1, .inl (cB, 4096, .inl (upd (upd (upd f p1 (sj_bb x 24)) (p1 + 1) (sj_bb x 16)) (p1 + 2) (sj_bb x 8))))] H := hP
  have hD : va_D A [(h0, .inr (0, [.ref h1, .int z])), (h1, .inl (cB, 4096, .inl (upd (upd (upd f p1 (sj_bb x 24)) (p1 + 1) (sj_bb x 16)) (p1 + 2) (sj_bb x 8))))] := hD
  refine lv_aload_n hx hb dX0_word_37 rfl (lv_at hl 0 rfl) ?_
  refine va_get (D := D) (ci := 0) (v := .ref h1) (C := RX0) (T := TX0) (N := 2) hx hb hts in_X0 hown hK hP 0 rfl rfl 0 (by decide) (hts _ q19) (fun _ h9 => h9) rfl dX0_word_38 ?_
  refine lv_iload_n hx hb dX0_word_41 rfl (lv_at hl 1 rfl) ?_
  refine lv_iconst (v := nI 3) hx hb dX0_word_42 (by decide) ?_
  refine lv_iadd hx hb dX0_word_43 ?_
  refine sj_ti (nI (p1 + 3)) (nI_add p1 3) ?_
  refine lv_iload_n hx hb dX0_word_44 rfl (lv_at hl 2 rfl) ?_
  refine lv_i2b (v := sj_bb x 0) hx hb dX0_word_45 (sj_sb0 x) ?_
  refine sj_bast hx hb hK hP hD hS 1 0 rfl rfl (j := (p1 + 3)) (by omega) (by decide) (g := upd (upd (upd (upd f p1 (sj_bb x 24)) (p1 + 1) (sj_bb x 16)) (p1 + 2) (sj_bb x 8)) (p1 + 3) (sj_bb x 0)) (by rw [sj_bb8]) dX0_word_46 (fun H locs hP hD hS => ?_)
  have hP : va_P D vwCl [(h0, .inr (0, [.ref h1, .int z])), (h1, .inl (cB, 4096, .inl (upd (upd (upd (upd f p1 (sj_bb x 24)) (p1 + 1) (sj_bb x 16)) (p1 + 2) (sj_bb x 8)) (p1 + 3) (sj_bb x 0))))] H := hP
  have hD : va_D A [(h0, .inr (0, [.ref h1, .int z])), (h1, .inl (cB, 4096, .inl (upd (upd (upd (upd f p1 (sj_bb x 24)) (p1 + 1) (sj_bb x 16)) (p1 + 2) (sj_bb x 8)) (p1 + 3) (sj_bb x 0))))] := hD
  have hP9 := hP.sub (ws' := [(h0, .inr (0, [.ref h1, .int z])), (h1, .inl (cB, 4096, .inl (sj_w4 f p1 x)))]) [0, 1] rfl
  have hD9 := hD.sub (ws' := [(h0, .inr (0, [.ref h1, .int z])), (h1, .inl (cB, 4096, .inl (sj_w4 f p1 x)))]) [0, 1] (by decide) rfl
  exact W.vret hx hb hr (fun t ht hW => ⟨⟨(), rfl, trivial, by rw [ht]; exact hP9, hD9⟩, hS.F ht⟩) hS.2.2 dX0_word_47
set_option maxHeartbeats 4000000 in
set_option maxRecDepth 100000 in
/-- put: sixteen bytes, if there is room -/
theorem met_X0_put (l : Launch) (D : va_G) (tb sz : Nat) (h0 h1 n : Nat) (cB : ClassId) (f : Nat → Int32) (x1 x2 x3 x4 : Int32) (hn : n ≤ 4096) : sj_MI l yX0_put cX0_put 5 .boolean ({ frames := 1, cells := 0, slots := 0, locals := 22 }) [.ref h0, .int x1, .int x2, .int x3, .int x4] D tb [(h0, .inr (0, [.ref h1, .int (nI n)])), (h1, .inl (cB, 4096, .inl f))] [(cB, .byte)] sz (sj_pR n) [(h0, .inr (0, [.ref h1, .int (nI (sj_pS n))])), (h1, .inl (cB, 4096, .inl (sj_pF f n x1 x2 x3 x4)))] 0 0 := by
  refine Met.ofW (cc := cX0_put) (maxL := 5) (ret := (some .boolean)) (by decide) rfl ?_
  intro p e s m args below meth c s₁ B hml hv
  obtain ⟨rfl, hsz, hP, hK, hD0, hT⟩ := hv
  have hx := B.exec
  have hb := B.bytes
  have hr := B.returns
  have hts := atoms_spec (ws := ws_ yX0_put cX0_put 5 (some .boolean)) B.pre
  have hts : ∀ w ∈ lw_all, w.before _ s = true := fun w h => hts w (List.mem_cons_of_mem _ h)
  have hown : s.vm.findClass RX0 = some m.cls := findClass_of_methodNamed B.named
  have hlocks := B.notSynchronized
  subst hsz
  have hD := hD0.self (sz := s.heap.size)
  generalize hAe : va_A [(h0, .inr (0, [.ref h1, .int (nI n)])), (h1, .inl (cB, 4096, .inl f))] s.heap.size = A at hD hT ⊢
  have hA : ∀ q : Nat, s.heap.size ≤ q → A q := fun q h => by rw [← hAe]; exact Or.inr h
  have hS : va_S A s.heap s.heap [] := va_S.rf
  have hP : va_P D vwCl [(h0, .inr (0, [.ref h1, .int (nI n)])), (h1, .inl (cB, 4096, .inl f))] s.heap := hP
  have hl := lv_entry ([.ref h0, .int x1, .int x2, .int x3, .int x4]) (n := 5) (Nat.le_of_ble_eq_true rfl)
  rw [lg_entry_eq]
  generalize (lg_sl ([.ref h0, .int x1, .int x2, .int x3, .int x4]) ++ List.replicate (5 - (lg_sl ([.ref h0, .int x1, .int x2, .int x3, .int x4])).length) Slot.unset).toArray = ls at hl ⊢
  have hl : lv_has ls 5 [(0, .ref h0), (1, .int x1), (2, .int x2), (3, .int x3), (4, .int x4)] := hl
  refine lv_aload_n hx hb dX0_put_0 rfl (lv_at hl 0 rfl) ?_
  refine va_get (D := D) (ci := 0) (v := .int (nI n)) (C := RX0) (T := TX0) (N := 2) hx hb hts in_X0 hown hK hP 0 rfl rfl 1 (by decide) (hts _ q20) (fun _ h9 => h9) rfl dX0_put_1 ?_
  refine lv_aload_n hx hb dX0_put_4 rfl (lv_at hl 0 rfl) ?_
  refine va_get (D := D) (ci := 0) (v := .ref h1) (C := RX0) (T := TX0) (N := 2) hx hb hts in_X0 hown hK hP 0 rfl rfl 0 (by decide) (hts _ q19) (fun _ h9 => h9) rfl dX0_put_5 ?_
  refine va_alen (v := nI 4096) hx hb hK hP 1 0 rfl rfl rfl dX0_put_8 ?_
  refine lv_bipush (v := nI 16) hx hb dX0_put_9 (by decide) ?_
  refine lv_isub hx hb dX0_put_11 ?_
  refine sj_ti (nI 4080) (pk_sub (by decide)) ?_
  refine lv_icmp_le (tgt := 17) hx hb dX0_put_12 (by decide) (fun c0 => ?_) (fun c0 => ?_)
  · have hc : n ≤ 4080 := (nI_leI (by omega) (by decide)).mp c0
    refine lv_aload_n hx hb dX0_put_17 rfl (lv_at hl 0 rfl) ?_
    refine lv_aload_n hx hb dX0_put_18 rfl (lv_at hl 0 rfl) ?_
    refine va_get (D := D) (ci := 0) (v := .int (nI n)) (C := RX0) (T := TX0) (N := 2) hx hb hts in_X0 hown hK hP 0 rfl rfl 1 (by decide) (hts _ q20) (fun _ h9 => h9) rfl dX0_put_19 ?_
    refine lv_iload_n hx hb dX0_put_22 rfl (lv_at hl 1 rfl) ?_
    refine sj_cv_ (wr := []) (w1 := [(h0, .inr (0, [.ref h1, .int (nI n)])), (h1, .inl (cB, 4096, .inl (sj_w4 f n x1)))]) (wf := [(h0, .inr (0, [.ref h1, .int (nI n)])), (h1, .inl (cB, 4096, .inl (sj_w4 f n x1)))]) (va_runV (As := [.int (nI n), .int x1]) (rest := []) ⟨hx, hb, hml, hown, hts⟩ (met_X0_word l D tb s.heap.size h0 h1 (nI n) cB f n x1 (by omega)) (cwV 2 hts (lw_V q31 q33 qs0 q7 q34) rfl rfl rfl (by decide +kernel) ⟨Nat.le_of_ble_eq_true rfl, Nat.le_of_ble_eq_true rfl⟩) (sj_preV hK hP hD hS hA hT [0, 1] rfl rfl (by decide) [0] rfl (ci := 0) (q0 := 0) rfl rfl) rfl rfl hl.1 rfl (lv_room (Nat.le_of_ble_eq_true rfl)) dX0_put_23 ⟨Nat.le_of_ble_eq_true rfl, Nat.le_of_ble_eq_true rfl⟩) hP hD hS hA [0, 1] [] rfl rfl (by decide) (by decide) [0, 1] rfl rfl (by decide) (fun H locs hP hD hS => ?_)
    refine lv_aload_n hx hb dX0_put_26 rfl (lv_at hl 0 rfl) ?_
    refine lv_aload_n hx hb dX0_put_27 rfl (lv_at hl 0 rfl) ?_
    refine va_get (D := D) (ci := 0) (v := .int (nI n)) (C := RX0) (T := TX0) (N := 2) hx hb hts in_X0 hown hK hP 0 rfl rfl 1 (by decide) (hts _ q20) (fun _ h9 => h9) rfl dX0_put_28 ?_
    refine lv_iconst (v := nI 4) hx hb dX0_put_31 (by decide) ?_
    refine lv_iadd hx hb dX0_put_32 ?_
    refine sj_ti (nI (n + 4)) (nI_add n 4) ?_
    refine lv_iload_n hx hb dX0_put_33 rfl (lv_at hl 2 rfl) ?_
    refine sj_cv_ (wr := []) (w1 := [(h0, .inr (0, [.ref h1, .int (nI n)])), (h1, .inl (cB, 4096, .inl (sj_w4 (sj_w4 f n x1) (n + 4) x2)))]) (wf := [(h0, .inr (0, [.ref h1, .int (nI n)])), (h1, .inl (cB, 4096, .inl (sj_w4 (sj_w4 f n x1) (n + 4) x2)))]) (va_runV (As := [.int (nI (n + 4)), .int x2]) (rest := []) ⟨hx, hb, hml, hown, hts⟩ (met_X0_word l D tb H.size h0 h1 (nI n) cB (sj_w4 f n x1) (n + 4) x2 (by omega)) (cwV 2 hts (lw_V q31 q33 qs0 q7 q34) rfl rfl rfl (by decide +kernel) ⟨Nat.le_of_ble_eq_true rfl, Nat.le_of_ble_eq_true rfl⟩) (sj_preV hK hP hD hS hA hT [0, 1] rfl rfl (by decide) [0] rfl (ci := 0) (q0 := 0) rfl rfl) rfl rfl hl.1 rfl (lv_room (Nat.le_of_ble_eq_true rfl)) dX0_put_34 ⟨Nat.le_of_ble_eq_true rfl, Nat.le_of_ble_eq_true rfl⟩) hP hD hS hA [0, 1] [] rfl rfl (by decide) (by decide) [0, 1] rfl rfl (by decide) (fun H locs hP hD hS => ?_)
    refine lv_aload_n hx hb dX0_put_37 rfl (lv_at hl 0 rfl) ?_
    refine lv_aload_n hx hb dX0_put_38 rfl (lv_at hl 0 rfl) ?_
    refine va_get (D := D) (ci := 0) (v := .int (nI n)) (C := RX0) (T := TX0) (N := 2) hx hb hts in_X0 hown hK hP 0 rfl rfl 1 (by decide) (hts _ q20) (fun _ h9 => h9) rfl dX0_put_39 ?_
    refine lv_bipush (v := nI 8) hx hb dX0_put_42 (by decide) ?_
    refine lv_iadd hx hb dX0_put_44 ?_
    refine sj_ti (nI (n + 8)) (nI_add n 8) ?_
    refine lv_iload_n hx hb dX0_put_45 rfl (lv_at hl 3 rfl) ?_
    refine sj_cv_ (wr := []) (w1 := [(h0, .inr (0, [.ref h1, .int (nI n)])), (h1, .inl (cB, 4096, .inl (sj_w4 (sj_w4 (sj_w4 f n x1) (n + 4) x2) (n + 8) x3)))]) (wf := [(h0, .inr (0, [.ref h1, .int (nI n)])), (h1, .inl (cB, 4096, .inl (sj_w4 (sj_w4 (sj_w4 f n x1) (n + 4) x2) (n + 8) x3)))]) (va_runV (As := [.int (nI (n + 8)), .int x3]) (rest := []) ⟨hx, hb, hml, hown, hts⟩ (met_X0_word l D tb H.size h0 h1 (nI n) cB (sj_w4 (sj_w4 f n x1) (n + 4) x2) (n + 8) x3 (by omega)) (cwV 2 hts (lw_V q31 q33 qs0 q7 q34) rfl rfl rfl (by decide +kernel) ⟨Nat.le_of_ble_eq_true rfl, Nat.le_of_ble_eq_true rfl⟩) (sj_preV hK hP hD hS hA hT [0, 1] rfl rfl (by decide) [0] rfl (ci := 0) (q0 := 0) rfl rfl) rfl rfl hl.1 rfl (lv_room (Nat.le_of_ble_eq_true rfl)) dX0_put_46 ⟨Nat.le_of_ble_eq_true rfl, Nat.le_of_ble_eq_true rfl⟩) hP hD hS hA [0, 1] [] rfl rfl (by decide) (by decide) [0, 1] rfl rfl (by decide) (fun H locs hP hD hS => ?_)
    refine lv_aload_n hx hb dX0_put_49 rfl (lv_at hl 0 rfl) ?_
    refine lv_aload_n hx hb dX0_put_50 rfl (lv_at hl 0 rfl) ?_
    refine va_get (D := D) (ci := 0) (v := .int (nI n)) (C := RX0) (T := TX0) (N := 2) hx hb hts in_X0 hown hK hP 0 rfl rfl 1 (by decide) (hts _ q20) (fun _ h9 => h9) rfl dX0_put_51 ?_
    refine lv_bipush (v := nI 12) hx hb dX0_put_54 (by decide) ?_
    refine lv_iadd hx hb dX0_put_56 ?_
    refine sj_ti (nI (n + 12)) (nI_add n 12) ?_
    refine lv_iload hx hb dX0_put_57 (lv_at hl 4 rfl) ?_
    refine sj_cv_ (wr := []) (w1 := [(h0, .inr (0, [.ref h1, .int (nI n)])), (h1, .inl (cB, 4096, .inl (sj_w4 (sj_w4 (sj_w4 (sj_w4 f n x1) (n + 4) x2) (n + 8) x3) (n + 12) x4)))]) (wf := [(h0, .inr (0, [.ref h1, .int (nI n)])), (h1, .inl (cB, 4096, .inl (sj_w4 (sj_w4 (sj_w4 (sj_w4 f n x1) (n + 4) x2) (n + 8) x3) (n + 12) x4)))]) (va_runV (As := [.int (nI (n + 12)), .int x4]) (rest := []) ⟨hx, hb, hml, hown, hts⟩ (met_X0_word l D tb H.size h0 h1 (nI n) cB (sj_w4 (sj_w4 (sj_w4 f n x1) (n + 4) x2) (n + 8) x3) (n + 12) x4 (by omega)) (cwV 2 hts (lw_V q31 q33 qs0 q7 q34) rfl rfl rfl (by decide +kernel) ⟨Nat.le_of_ble_eq_true rfl, Nat.le_of_ble_eq_true rfl⟩) (sj_preV hK hP hD hS hA hT [0, 1] rfl rfl (by decide) [0] rfl (ci := 0) (q0 := 0) rfl rfl) rfl rfl hl.1 rfl (lv_room (Nat.le_of_ble_eq_true rfl)) dX0_put_59 ⟨Nat.le_of_ble_eq_true rfl, Nat.le_of_ble_eq_true rfl⟩) hP hD hS hA [0, 1] [] rfl rfl (by decide) (by decide) [0, 1] rfl rfl (by decide) (fun H locs hP hD hS => ?_)
    refine lv_aload_n hx hb dX0_put_62 rfl (lv_at hl 0 rfl) ?_
    refine lv_dup hx hb dX0_put_63 rfl ?_
    refine va_get (D := D) (ci := 0) (v := .int (nI n)) (C := RX0) (T := TX0) (N := 2) hx hb hts in_X0 hown hK hP 0 rfl rfl 1 (by decide) (hts _ q20) (fun _ h9 => h9) rfl dX0_put_64 ?_
    refine lv_bipush (v := nI 16) hx hb dX0_put_67 (by decide) ?_
    refine lv_iadd hx hb dX0_put_69 ?_
    refine sj_ti (nI (n + 16)) (nI_add n 16) ?_
    refine va_put (D := D) (ci := 0) (v := .int (nI (n + 16))) (ty := .int) (C := RX0) (T := TX0) (N := 2) hx hb hts in_X0 tyX0 tyX0_ok nmX0 hown hK hP hD hS 0 rfl rfl 1 (by decide) (hts _ q20) (fun _ h9 => h9) rfl (by decide +kernel) rfl rfl (Nat.le_of_ble_eq_true rfl) dX0_put_70 (fun H locs hP hD hS => ?_)
    have hP : va_P D vwCl [(h0, .inr (0, [.ref h1, .int (nI (n + 16))])), (h1, .inl (cB, 4096, .inl (sj_w4 (sj_w4 (sj_w4 (sj_w4 f n x1) (n + 4) x2) (n + 8) x3) (n + 12) x4)))] H := hP
    have hD : va_D A [(h0, .inr (0, [.ref h1, .int (nI (n + 16))])), (h1, .inl (cB, 4096, .inl (sj_w4 (sj_w4 (sj_w4 (sj_w4 f n x1) (n + 4) x2) (n + 8) x3) (n + 12) x4)))] := hD
    refine lv_iconst (v := 1) hx hb dX0_put_73 (by decide) ?_
    have hS9 : sj_pS n = n + 16 := if_pos hc
    have hF9 : sj_pF f n x1 x2 x3 x4 = sj_pw f n x1 x2 x3 x4 16 := if_pos hc
    have hP9 : va_P D vwCl [(h0, .inr (0, [.ref h1, .int (nI (sj_pS n))])), (h1, .inl (cB, 4096, .inl (sj_pF f n x1 x2 x3 x4)))] H := by
      rw [hS9, hF9]
      exact hP
    have hD9 : va_D A [(h0, .inr (0, [.ref h1, .int (nI (sj_pS n))])), (h1, .inl (cB, 4096, .inl (sj_pF f n x1 x2 x3 x4)))] := by
      rw [hS9, hF9]
      exact hD
    exact W.zret (v := 1) hx hb hr rfl (fun t ht hW => ⟨⟨1, (), rfl, (if_pos hc).symm, by rw [ht]; exact hP9, hD9⟩, hS.F ht⟩) hS.2.2 dX0_put_74
  · have hc : ¬ n ≤ 4080 := fun z9 => c0 ((nI_leI (by omega) (by decide)).mpr z9)
    refine lv_iconst (v := 0) hx hb dX0_put_15 (by decide) ?_
    have hS9 : sj_pS n = n := if_neg hc
    have hF9 : sj_pF f n x1 x2 x3 x4 = f := if_neg hc
    have hP9 : va_P D vwCl [(h0, .inr (0, [.ref h1, .int (nI (sj_pS n))])), (h1, .inl (cB, 4096, .inl (sj_pF f n x1 x2 x3 x4)))] s.heap := by
      rw [hS9, hF9]
      exact hP
    have hD9 : va_D A [(h0, .inr (0, [.ref h1, .int (nI (sj_pS n))])), (h1, .inl (cB, 4096, .inl (sj_pF f n x1 x2 x3 x4)))] := by
      rw [hS9, hF9]
      exact hD
    exact W.zret (v := 0) hx hb hr rfl (fun t ht hW => ⟨⟨0, (), rfl, (if_neg hc).symm, by rw [ht]; exact hP9, hD9⟩, hS.F ht⟩) hS.2.2 dX0_put_16
set_option maxHeartbeats 4000000 in
set_option maxRecDepth 100000 in
/-- SumJoin(): an empty text -/
theorem met_X0_init (l : Launch) (D : va_G) (tb sz : Nat) (h0 : Nat) : Met l yX0_init (ws_ yX0_init cX0_init 1 none) ({ frames := 1, cells := 1, slots := 4096, locals := 12 }) (va_Pc [.ref h0] (sj_wd0 D tb [(h0, .inr (0, [.null, .int 0]))] [] sz)) (va_Qv (fun _ : Nat × ClassId => True) (fun u t => va_P D vwCl [(h0, .inr (0, [.ref u.1, .int 0])), (u.1, .inl (u.2, 4096, .inl (fun _ => 0)))] t.heap ∧ va_K D vwCl [(u.2, .byte)] t ∧ va_D (va_A [(h0, .inr (0, [.null, .int 0]))] sz) [(h0, .inr (0, [.ref u.1, .int 0])), (u.1, .inl (u.2, 4096, .inl (fun _ => 0)))]) (va_A [(h0, .inr (0, [.null, .int 0]))] sz)) 1 4096 (va_A [(h0, .inr (0, [.null, .int 0]))] sz) := by
  refine Met.ofW (cc := cX0_init) (maxL := 1) (ret := none) (by decide) rfl ?_
  intro p e s m args below meth c s₁ B hml hv
  obtain ⟨rfl, hsz, hP, hK, hD0, hT⟩ := hv
  have hx := B.exec
  have hb := B.bytes
  have hr := B.returns
  have hts := atoms_spec (ws := ws_ yX0_init cX0_init 1 none) B.pre
  have hts : ∀ w ∈ lw_all, w.before _ s = true := fun w h => hts w (List.mem_cons_of_mem _ h)
  have hown : s.vm.findClass RX0 = some m.cls := findClass_of_methodNamed B.named
  have hlocks := B.notSynchronized
  have hin : meth.name = "<init>" := (name_of_methodNamed B.named B.method).1
  subst hsz
  have hD := hD0.self (sz := s.heap.size)
  generalize hAe : va_A [(h0, .inr (0, [.null, .int 0]))] s.heap.size = A at hD hT ⊢
  have hA : ∀ q : Nat, s.heap.size ≤ q → A q := fun q h => by rw [← hAe]; exact Or.inr h
  have hS : va_S A s.heap s.heap [] := va_S.rf
  have hP : va_P D vwCl [(h0, .inr (0, [.null, .int 0]))] s.heap := hP
  have hl := lv_entry ([.ref h0]) (n := 1) (Nat.le_of_ble_eq_true rfl)
  rw [lg_entry_eq]
  generalize (lg_sl ([.ref h0]) ++ List.replicate (1 - (lg_sl ([.ref h0])).length) Slot.unset).toArray = ls at hl ⊢
  have hl : lv_has ls 1 [(0, .ref h0)] := hl
  refine lv_aload_n hx hb dX0_init_0 rfl (lv_at hl 0 rfl) ?_
  refine W.objInit hx hb hown (hts _ q16) (hts _ q17) (hts _ q18) rfl (by rw [hml]; exact hl.1) rfl dX0_init_1 (Nat.le_of_ble_eq_true rfl) (Nat.le_of_ble_eq_true rfl) ?_
  refine W.eq (g2 := F0 m 4 ls []) rfl ?_
  refine lv_aload_n hx hb dX0_init_4 rfl (lv_at hl 0 rfl) ?_
  refine lv_sipush (v := 4096) hx hb dX0_init_5 (by decide) ?_
  refine va_newa hx hb (atype := .byte) (hts _ q26) (ty := .byte) rfl hK hP hD hS hA (N' := 4096) (a0 := (4096, .inl (fun _ => 0))) (fun _ => rfl) (by decide) (by decide) (Nat.le_of_ble_eq_true rfl) (Nat.le_of_ble_eq_true rfl) (Nat.le_of_ble_eq_true rfl) dX0_init_8 (fun q1 cB H hK hP hD hS => ?_)
  have hK : va_K D vwCl [(cB, .byte)] s := hK
  have hP : va_P D vwCl [(h0, .inr (0, [.null, .int 0])), (q1, .inl (cB, 4096, .inl (fun _ => 0)))] H := hP
  have hD : va_D A [(h0, .inr (0, [.null, .int 0])), (q1, .inl (cB, 4096, .inl (fun _ => 0)))] := hD
  refine va_putF (D := D) (ci := 0) (v := .ref q1) (ty := .array .byte) (C := RX0) (T := TX0) (N := 2) hx hb hts in_X0 tyX0 tyX0_ok nmX0 hown hK hP hD hS 0 rfl rfl 0 (by decide) (hts _ q19) (fun _ h9 => h9) rfl hin rfl (by decide +kernel) rfl rfl (Nat.le_of_ble_eq_true rfl) dX0_init_10 (fun H locs hP hD hS => ?_)
  have hP : va_P D vwCl [(h0, .inr (0, [.ref q1, .int 0])), (q1, .inl (cB, 4096, .inl (fun _ => 0)))] H := hP
  have hD : va_D A [(h0, .inr (0, [.ref q1, .int 0])), (q1, .inl (cB, 4096, .inl (fun _ => 0)))] := hD
  exact W.vret hx hb hr (fun t ht hW => ⟨⟨(q1, cB), rfl, trivial, by rw [ht]; exact hP, va_K.moved hW.alike hK, hD⟩, hS.F ht⟩) hS.2.2 dX0_init_13
end
section
/-! SumJoin: sum, crc, adler, joinCrc, joinAdler -/
set_option maxRecDepth 100000
theorem sj_fr2 (x y : Int32) (n : Nat) (hn : n ≤ 4096) : sj_fr x n + sj_fr y (n - sj_fr x n) ≤ 4096 := by
  have h1 := sj_fr_le x n
  have h2 := sj_fr_le y (n - sj_fr x n)
  omega
theorem sj_jC (f : Nat → Int32) (p c k : Nat) (hk : k ≤ c) : sj_l (sj_cn (8 * (c - k)) (sj_cv f p k) ^^^ sj_cv f (p + k) (c - k)) = sj_l (sj_cv f p c) := by
  rw [← sj_cv_join, show k + (c - k) = c by omega]
theorem sj_jAd (f : Nat → Int32) (p c k : Nat) (hk : k ≤ c) (hc : c ≤ 4096) : lN (sj_jB (sj_uA f p k % 65521) (sj_uB f p k % 65521) (sj_uB f (p + k) (c - k) % 65521) (c - k) * 65536 + sj_jA (sj_uA f p k % 65521) (sj_uA f (p + k) (c - k) % 65521)) = lN (sj_av f p c) := by
  rw [sj_av_join f p k (c - k) (by omega), show k + (c - k) = c by omega]
set_option maxHeartbeats 4000000 in
set_option maxRecDepth 100000 in
/-- sum(true, t, p, n) -/
theorem met_X0_sumC (l : Launch) (D : va_G) (tb sz : Nat) (h1 : Nat) (cB : ClassId) (f : Nat → Int32) (p0 n : Nat) (hn : p0 + n ≤ 4096) : sj_ML l yX0_sum cX0_sum 5 ({ frames := 2, cells := 1, slots := 1, locals := 32 }) [.int 1, .ref h1, .int (nI p0), .int (nI n)] D tb [(h1, .inl (cB, 4096, .inl f))] [(cB, .byte)] sz (sj_l (sj_cv f p0 n)) [(h1, .inl (cB, 4096, .inl f))] 1 1 := by
  refine Met.ofW (cc := cX0_sum) (maxL := 5) (ret := (some .long)) (by decide) rfl ?_
  intro p e s m args below meth c s₁ B hml hv
  obtain ⟨rfl, hsz, hP, hK, hD0, hT⟩ := hv
  have hx := B.exec
  have hb := B.bytes
  have hr := B.returns
  have hts := atoms_spec (ws := ws_ yX0_sum cX0_sum 5 (some .long)) B.pre
  have hts : ∀ w ∈ lw_all, w.before _ s = true := fun w h => hts w (List.mem_cons_of_mem _ h)
  have hown : s.vm.findClass RX0 = some m.cls := findClass_of_methodNamed B.named
  have hlocks := B.notSynchronized
  subst hsz
  have hD := hD0.self (sz := s.heap.size)
  generalize hAe : va_A [(h1, .inl (cB, 4096, .inl f))] s.heap.size = A at hD hT ⊢
  have hA : ∀ q : Nat, s.heap.size ≤ q → A q := fun q h => by rw [← hAe]; exact Or.inr h
  have hS : va_S A s.heap s.heap [] := va_S.rf
  have hP : va_P D vwCl [(h1, .inl (cB, 4096, .inl f))] s.heap := hP
  have hl := lv_entry ([.int 1, .ref h1, .int (nI p0), .int (nI n)]) (n := 5) (Nat.le_of_ble_eq_true rfl)
  rw [lg_entry_eq]
  generalize (lg_sl ([.int 1, .ref h1, .int (nI p0), .int (nI n)]) ++ List.replicate (5 - (lg_sl ([.int 1, .ref h1, .int (nI p0), .int (nI n)])).length) Slot.unset).toArray = ls at hl ⊢
  have hl : lv_has ls 5 [(0, .int 1), (1, .ref h1), (2, .int (nI p0)), (3, .int (nI n))] := hl
  refine lv_iload_n hx hb dX0_sum_0 rfl (lv_at hl 0 rfl) ?_
  refine lv_if_eq (tgt := 27) hx hb dX0_sum_1 (by decide) (fun h9 => absurd h9 (by decide)) (fun _ => ?_)
  refine va_new (ci := 2) (fs := [.int 0]) (C := RX2) (T := TX2) (N := 1) hx hb hts in_X2 tyX2 tyX2_ok hown (hts _ q59) (hts _ q60) (hts _ q9) hK hP hD hS hA rfl (fun j hj => by rcases (show j = 0 by omega) with rfl <;> rfl) (Nat.le_of_ble_eq_true rfl) (Nat.le_of_ble_eq_true rfl) dX0_sum_4 (fun u0 H hP hD hS => ?_)
  have hP : va_P D vwCl [(h1, .inl (cB, 4096, .inl f)), (u0, .inr (2, [.int 0]))] H := hP
  have hD : va_D A [(h1, .inl (cB, 4096, .inl f)), (u0, .inr (2, [.int 0]))] := hD
  refine lv_dup hx hb dX0_sum_7 rfl ?_
  refine sj_cv_ (wr := [(h1, .inl (cB, 4096, .inl f))]) (w1 := [(u0, .inr (2, [.int 0]))]) (wf := [(h1, .inl (cB, 4096, .inl f)), (u0, .inr (2, [.int 0]))]) (va_runI (As := []) (rest := [.ref u0]) ⟨hx, hb, hml, hown, hts⟩ (met_X2_init l D tb _ u0 0) (cwI 0 hts (lw_meth q63) rfl rfl rfl (hts _ q9) (hts _ q61) (hts _ q62) rfl (by decide +kernel) ⟨Nat.le_of_ble_eq_true rfl, Nat.le_of_ble_eq_true rfl⟩) (sj_preS hK hP hD hS hA hT [1] rfl rfl (by decide) [] rfl) rfl rfl hl.1 rfl (lv_room (Nat.le_of_ble_eq_true rfl)) dX0_sum_8 ⟨Nat.le_of_ble_eq_true rfl, Nat.le_of_ble_eq_true rfl⟩) hP hD hS hA [1] [0] rfl rfl (by decide) (by decide) [0, 1] rfl rfl (by decide) (fun H locs hP hD hS => ?_)
  refine lv_astore (lv' := [(4, .ref u0), (0, .int 1), (1, .ref h1), (2, .int (nI p0)), (3, .int (nI n))]) hx hb dX0_sum_11 hl (by decide) rfl (fun ls hl => ?_)
  refine lv_aload hx hb dX0_sum_13 (lv_at hl 0 rfl) ?_
  refine lv_aload_n hx hb dX0_sum_15 rfl (lv_at hl 2 rfl) ?_
  refine lv_iload_n hx hb dX0_sum_16 rfl (lv_at hl 3 rfl) ?_
  refine lv_iload_n hx hb dX0_sum_17 rfl (lv_at hl 4 rfl) ?_
  refine sj_cv_ (wr := []) (w1 := [(u0, .inr (2, [.int (sj_i (sj_cv f p0 n))])), (h1, .inl (cB, 4096, .inl f))]) (wf := [(h1, .inl (cB, 4096, .inl f)), (u0, .inr (2, [.int (sj_i (sj_cv f p0 n))]))]) (va_runV (As := [.ref h1, .int (nI p0), .int (nI n)]) (rest := []) ⟨hx, hb, hml, hown, hts⟩ (met_X2_update l D tb _ u0 h1 cB f p0 n hn) (cwV 3 hts (lw_V q69 q70 q71 q9 q72) rfl rfl rfl (by decide +kernel) ⟨Nat.le_of_ble_eq_true rfl, Nat.le_of_ble_eq_true rfl⟩) (sj_preV hK hP hD hS hA hT [1, 0] rfl rfl (by decide) [0] rfl (ci := 2) (q0 := 1) rfl rfl) rfl rfl hl.1 rfl (lv_room (Nat.le_of_ble_eq_true rfl)) dX0_sum_18 ⟨Nat.le_of_ble_eq_true rfl, Nat.le_of_ble_eq_true rfl⟩) hP hD hS hA [1, 0] [] rfl rfl (by decide) (by decide) [1, 0] rfl rfl (by decide) (fun H locs hP hD hS => ?_)
  refine lv_aload hx hb dX0_sum_21 (lv_at hl 0 rfl) ?_
  refine sj_cl_ (wr := [(h1, .inl (cB, 4096, .inl f))]) (w1 := [(u0, .inr (2, [.int (sj_i (sj_cv f p0 n))]))]) (wf := [(h1, .inl (cB, 4096, .inl f)), (u0, .inr (2, [.int (sj_i (sj_cv f p0 n))]))]) (va_runV (As := []) (rest := []) ⟨hx, hb, hml, hown, hts⟩ (met_X2_getValue l D tb _ u0 (sj_cv f p0 n)) (cwV 0 hts (lw_V q75 q76 q77 q9 q78) rfl rfl rfl (by decide +kernel) ⟨Nat.le_of_ble_eq_true rfl, Nat.le_of_ble_eq_true rfl⟩) (sj_preV hK hP hD hS hA hT [1] rfl rfl (by decide) [] rfl (ci := 2) (q0 := 1) rfl rfl) rfl rfl hl.1 rfl (lv_room (Nat.le_of_ble_eq_true rfl)) dX0_sum_23 ⟨Nat.le_of_ble_eq_true rfl, Nat.le_of_ble_eq_true rfl⟩) hP hD hS hA [1] [0] rfl rfl (by decide) (by decide) [0, 1] rfl rfl (by decide) (fun H locs hP hD hS => ?_)
  have hP9 := hP.sub (ws' := [(h1, .inl (cB, 4096, .inl f))]) [0] rfl
  have hD9 := hD.sub (ws' := [(h1, .inl (cB, 4096, .inl f))]) [0] (by decide) rfl
  exact W.lret (v := sj_l (sj_cv f p0 n)) hx hb hr (fun t ht hW => ⟨⟨sj_l (sj_cv f p0 n), (), rfl, rfl, by rw [ht]; exact hP9, hD9⟩, hS.F ht⟩) hS.2.2 dX0_sum_26
set_option maxHeartbeats 4000000 in
set_option maxRecDepth 100000 in
/-- sum(false, t, p, n) -/
theorem met_X0_sumA (l : Launch) (D : va_G) (tb sz : Nat) (h1 : Nat) (cB : ClassId) (f : Nat → Int32) (p0 n : Nat) (hn : p0 + n ≤ 4096) : sj_ML l yX0_sum cX0_sum 5 ({ frames := 2, cells := 1, slots := 2, locals := 32 }) [.int 0, .ref h1, .int (nI p0), .int (nI n)] D tb [(h1, .inl (cB, 4096, .inl f))] [(cB, .byte)] sz (lN (sj_uB f p0 n % 65521 * 65536 + sj_uA f p0 n % 65521)) [(h1, .inl (cB, 4096, .inl f))] 1 2 := by
  refine Met.ofW (cc := cX0_sum) (maxL := 5) (ret := (some .long)) (by decide) rfl ?_
  intro p e s m args below meth c s₁ B hml hv
  obtain ⟨rfl, hsz, hP, hK, hD0, hT⟩ := hv
  have hx := B.exec
  have hb := B.bytes
  have hr := B.returns
  have hts := atoms_spec (ws := ws_ yX0_sum cX0_sum 5 (some .long)) B.pre
  have hts : ∀ w ∈ lw_all, w.before _ s = true := fun w h => hts w (List.mem_cons_of_mem _ h)
  have hown : s.vm.findClass RX0 = some m.cls := findClass_of_methodNamed B.named
  have hlocks := B.notSynchronized
  subst hsz
  have hD := hD0.self (sz := s.heap.size)
  generalize hAe : va_A [(h1, .inl (cB, 4096, .inl f))] s.heap.size = A at hD hT ⊢
  have hA : ∀ q : Nat, s.heap.size ≤ q → A q := fun q h => by rw [← hAe]; exact Or.inr h
  have hS : va_S A s.heap s.heap [] := va_S.rf
  have hP : va_P D vwCl [(h1, .inl (cB, 4096, .inl f))] s.heap := hP
  have hl := lv_entry ([.int 0, .ref h1, .int (nI p0), .int (nI n)]) (n := 5) (Nat.le_of_ble_eq_true rfl)
  rw [lg_entry_eq]
  generalize (lg_sl ([.int 0, .ref h1, .int (nI p0), .int (nI n)]) ++ List.replicate (5 - (lg_sl ([.int 0, .ref h1, .int (nI p0), .int (nI n)])).length) Slot.unset).toArray = ls at hl ⊢
  have hl : lv_has ls 5 [(0, .int 0), (1, .ref h1), (2, .int (nI p0)), (3, .int (nI n))] := hl
  have hma : sj_uA f p0 n % 65521 < 65536 := Nat.lt_trans (Nat.mod_lt _ (by decide)) (by decide)
  have hmb : sj_uB f p0 n % 65521 < 65536 := Nat.lt_trans (Nat.mod_lt _ (by decide)) (by decide)
  refine lv_iload_n hx hb dX0_sum_0 rfl (lv_at hl 0 rfl) ?_
  refine lv_if_eq (tgt := 27) hx hb dX0_sum_1 (by decide) (fun _ => ?_) (fun h9 => absurd (by decide) h9)
  refine va_new (ci := 3) (fs := [.long 0, .long 0]) (C := RX3) (T := TX3) (N := 2) hx hb hts in_X3 tyX3 tyX3_ok hown (hts _ q80) (hts _ q81) (hts _ q10) hK hP hD hS hA rfl (fun j hj => by rcases (show j = 0 ∨ j = 1 by omega) with rfl | rfl <;> rfl) (Nat.le_of_ble_eq_true rfl) (Nat.le_of_ble_eq_true rfl) dX0_sum_27 (fun u0 H hP hD hS => ?_)
  have hP : va_P D vwCl [(h1, .inl (cB, 4096, .inl f)), (u0, .inr (3, [.long 0, .long 0]))] H := hP
  have hD : va_D A [(h1, .inl (cB, 4096, .inl f)), (u0, .inr (3, [.long 0, .long 0]))] := hD
  refine lv_dup hx hb dX0_sum_30 rfl ?_
  refine sj_cv_ (wr := [(h1, .inl (cB, 4096, .inl f))]) (w1 := [(u0, .inr (3, [.long (lN 1), .long (lN 0)]))]) (wf := [(h1, .inl (cB, 4096, .inl f)), (u0, .inr (3, [.long (lN 1), .long (lN 0)]))]) (va_runI (As := []) (rest := [.ref u0]) ⟨hx, hb, hml, hown, hts⟩ (met_X3_init l D tb _ u0 0 0) (cwI 0 hts (lw_meth q84) rfl rfl rfl (hts _ q10) (hts _ q82) (hts _ q83) rfl (by decide +kernel) ⟨Nat.le_of_ble_eq_true rfl, Nat.le_of_ble_eq_true rfl⟩) (sj_preS hK hP hD hS hA hT [1] rfl rfl (by decide) [] rfl) rfl rfl hl.1 rfl (lv_room (Nat.le_of_ble_eq_true rfl)) dX0_sum_31 ⟨Nat.le_of_ble_eq_true rfl, Nat.le_of_ble_eq_true rfl⟩) hP hD hS hA [1] [0] rfl rfl (by decide) (by decide) [0, 1] rfl rfl (by decide) (fun H locs hP hD hS => ?_)
  refine lv_astore (lv' := [(4, .ref u0), (0, .int 0), (1, .ref h1), (2, .int (nI p0)), (3, .int (nI n))]) hx hb dX0_sum_34 hl (by decide) rfl (fun ls hl => ?_)
  refine lv_aload hx hb dX0_sum_36 (lv_at hl 0 rfl) ?_
  refine lv_aload_n hx hb dX0_sum_38 rfl (lv_at hl 2 rfl) ?_
  refine lv_iload_n hx hb dX0_sum_39 rfl (lv_at hl 3 rfl) ?_
  refine lv_iload_n hx hb dX0_sum_40 rfl (lv_at hl 4 rfl) ?_
  refine sj_cv_ (wr := []) (w1 := [(u0, .inr (3, [.long (lN (sj_uA f p0 n % 65521)), .long (lN (sj_uB f p0 n % 65521))])), (h1, .inl (cB, 4096, .inl f))]) (wf := [(h1, .inl (cB, 4096, .inl f)), (u0, .inr (3, [.long (lN (sj_uA f p0 n % 65521)), .long (lN (sj_uB f p0 n % 65521))]))]) (va_runV (As := [.ref h1, .int (nI p0), .int (nI n)]) (rest := []) ⟨hx, hb, hml, hown, hts⟩ (met_X3_update l D tb _ u0 h1 cB f p0 n hn) (cwV 3 hts (lw_V q93 q94 q95 q10 q96) rfl rfl rfl (by decide +kernel) ⟨Nat.le_of_ble_eq_true rfl, Nat.le_of_ble_eq_true rfl⟩) (sj_preV hK hP hD hS hA hT [1, 0] rfl rfl (by decide) [0] rfl (ci := 3) (q0 := 1) rfl rfl) rfl rfl hl.1 rfl (lv_room (Nat.le_of_ble_eq_true rfl)) dX0_sum_41 ⟨Nat.le_of_ble_eq_true rfl, Nat.le_of_ble_eq_true rfl⟩) hP hD hS hA [1, 0] [] rfl rfl (by decide) (by decide) [1, 0] rfl rfl (by decide) (fun H locs hP hD hS => ?_)
  refine lv_aload hx hb dX0_sum_44 (lv_at hl 0 rfl) ?_
  refine sj_cl_ (wr := [(h1, .inl (cB, 4096, .inl f))]) (w1 := [(u0, .inr (3, [.long (lN (sj_uA f p0 n % 65521)), .long (lN (sj_uB f p0 n % 65521))]))]) (wf := [(h1, .inl (cB, 4096, .inl f)), (u0, .inr (3, [.long (lN (sj_uA f p0 n % 65521)), .long (lN (sj_uB f p0 n % 65521))]))]) (va_runV (As := []) (rest := []) ⟨hx, hb, hml, hown, hts⟩ (met_X3_getValue l D tb _ u0 (sj_uA f p0 n % 65521) (sj_uB f p0 n % 65521) hma hmb) (cwV 0 hts (lw_V q98 q99 q100 q10 q101) rfl rfl rfl (by decide +kernel) ⟨Nat.le_of_ble_eq_true rfl, Nat.le_of_ble_eq_true rfl⟩) (sj_preV hK hP hD hS hA hT [1] rfl rfl (by decide) [] rfl (ci := 3) (q0 := 1) rfl rfl) rfl rfl hl.1 rfl (lv_room (Nat.le_of_ble_eq_true rfl)) dX0_sum_46 ⟨Nat.le_of_ble_eq_true rfl, Nat.le_of_ble_eq_true rfl⟩) hP hD hS hA [1] [0] rfl rfl (by decide) (by decide) [0, 1] rfl rfl (by decide) (fun H locs hP hD hS => ?_)
  have hP9 := hP.sub (ws' := [(h1, .inl (cB, 4096, .inl f))]) [0] rfl
  have hD9 := hD.sub (ws' := [(h1, .inl (cB, 4096, .inl f))]) [0] (by decide) rfl
  exact W.lret (v := lN (sj_uB f p0 n % 65521 * 65536 + sj_uA f p0 n % 65521)) hx hb hr (fun t ht hW => ⟨⟨lN (sj_uB f p0 n % 65521 * 65536 + sj_uA f p0 n % 65521), (), rfl, rfl, by rw [ht]; exact hP9, hD9⟩, hS.F ht⟩) hS.2.2 dX0_sum_49
set_option maxHeartbeats 4000000 in
set_option maxRecDepth 100000 in
/-- crc(at, n) -/
theorem met_X0_crc (l : Launch) (D : va_G) (tb sz : Nat) (h0 h1 n : Nat) (cB : ClassId) (f : Nat → Int32) (x y : Int32) (hn : n ≤ 4096) : sj_ML l yX0_crc cX0_crc 4 ({ frames := 3, cells := 1, slots := 1, locals := 56 }) [.ref h0, .int x, .int y] D tb [(h0, .inr (0, [.ref h1, .int (nI n)])), (h1, .inl (cB, 4096, .inl f))] [(cB, .byte)] sz (sj_l (sj_cv f (sj_fr x n) (sj_fr y (n - sj_fr x n)))) [(h0, .inr (0, [.ref h1, .int (nI n)])), (h1, .inl (cB, 4096, .inl f))] 1 1 := by
  refine Met.ofW (cc := cX0_crc) (maxL := 4) (ret := (some .long)) (by decide) rfl ?_
  intro p e s m args below meth c s₁ B hml hv
  obtain ⟨rfl, hsz, hP, hK, hD0, hT⟩ := hv
  have hx := B.exec
  have hb := B.bytes
  have hr := B.returns
  have hts := atoms_spec (ws := ws_ yX0_crc cX0_crc 4 (some .long)) B.pre
  have hts : ∀ w ∈ lw_all, w.before _ s = true := fun w h => hts w (List.mem_cons_of_mem _ h)
  have hown : s.vm.findClass RX0 = some m.cls := findClass_of_methodNamed B.named
  have hlocks := B.notSynchronized
  subst hsz
  have hD := hD0.self (sz := s.heap.size)
  generalize hAe : va_A [(h0, .inr (0, [.ref h1, .int (nI n)])), (h1, .inl (cB, 4096, .inl f))] s.heap.size = A at hD hT ⊢
  have hA : ∀ q : Nat, s.heap.size ≤ q → A q := fun q h => by rw [← hAe]; exact Or.inr h
  have hS : va_S A s.heap s.heap [] := va_S.rf
  have hP : va_P D vwCl [(h0, .inr (0, [.ref h1, .int (nI n)])), (h1, .inl (cB, 4096, .inl f))] s.heap := hP
  have hl := lv_entry ([.ref h0, .int x, .int y]) (n := 4) (Nat.le_of_ble_eq_true rfl)
  rw [lg_entry_eq]
  generalize (lg_sl ([.ref h0, .int x, .int y]) ++ List.replicate (4 - (lg_sl ([.ref h0, .int x, .int y])).length) Slot.unset).toArray = ls at hl ⊢
  have hl : lv_has ls 4 [(0, .ref h0), (1, .int x), (2, .int y)] := hl
  have hp := sj_fr_le x n
  have hpn := sj_fr2 x y n hn
  refine lv_aload_n hx hb dX0_crc_0 rfl (lv_at hl 0 rfl) ?_
  refine lv_iload_n hx hb dX0_crc_1 rfl (lv_at hl 1 rfl) ?_
  refine sj_ci_ (wr := [(h1, .inl (cB, 4096, .inl f))]) (w1 := [(h0, .inr (0, [.ref h1, .int (nI n)]))]) (wf := [(h0, .inr (0, [.ref h1, .int (nI n)])), (h1, .inl (cB, 4096, .inl f))]) (va_runV (As := [.int x]) (rest := []) ⟨hx, hb, hml, hown, hts⟩ (met_X0_from l D tb _ h0 h1 n x hn) (cwV 1 hts (lw_V q39 q41 qs1 q7 q42) rfl rfl rfl (by decide +kernel) ⟨Nat.le_of_ble_eq_true rfl, Nat.le_of_ble_eq_true rfl⟩) (sj_preV hK hP hD hS hA hT [0] rfl rfl (by decide) [] rfl (ci := 0) (q0 := 0) rfl rfl) rfl rfl hl.1 rfl (lv_room (Nat.le_of_ble_eq_true rfl)) dX0_crc_2 ⟨Nat.le_of_ble_eq_true rfl, Nat.le_of_ble_eq_true rfl⟩) hP hD hS hA [0] [1] rfl rfl (by decide) (by decide) [1, 0] rfl rfl (by decide) (fun H locs hP hD hS => ?_)
  refine lv_istore_n (lv' := [(3, .int (nI (sj_fr x n))), (0, .ref h0), (1, .int x), (2, .int y)]) hx hb dX0_crc_5 rfl hl (by decide) rfl (fun ls hl => ?_)
  refine lv_iconst (v := 1) hx hb dX0_crc_6 (by decide) ?_
  refine lv_aload_n hx hb dX0_crc_7 rfl (lv_at hl 1 rfl) ?_
  refine va_get (D := D) (ci := 0) (v := .ref h1) (C := RX0) (T := TX0) (N := 2) hx hb hts in_X0 hown hK hP 0 rfl rfl 0 (by decide) (hts _ q19) (fun _ h9 => h9) rfl dX0_crc_8 ?_
  refine lv_iload_n hx hb dX0_crc_11 rfl (lv_at hl 0 rfl) ?_
  refine lv_aload_n hx hb dX0_crc_12 rfl (lv_at hl 1 rfl) ?_
  refine lv_iload_n hx hb dX0_crc_13 rfl (lv_at hl 0 rfl) ?_
  refine lv_iload_n hx hb dX0_crc_14 rfl (lv_at hl 3 rfl) ?_
  refine sj_ci_ (wr := [(h1, .inl (cB, 4096, .inl f))]) (w1 := [(h0, .inr (0, [.ref h1, .int (nI n)]))]) (wf := [(h0, .inr (0, [.ref h1, .int (nI n)])), (h1, .inl (cB, 4096, .inl f))]) (va_runV (As := [.int (nI (sj_fr x n)), .int y]) (rest := [.int (nI (sj_fr x n)), .ref h1, .int 1]) ⟨hx, hb, hml, hown, hts⟩ (met_X0_count l D tb _ h0 h1 n (sj_fr x n) y hn hp) (cwV 2 hts (lw_V q52 q54 qs2 q7 q55) rfl rfl rfl (by decide +kernel) ⟨Nat.le_of_ble_eq_true rfl, Nat.le_of_ble_eq_true rfl⟩) (sj_preV hK hP hD hS hA hT [0] rfl rfl (by decide) [] rfl (ci := 0) (q0 := 0) rfl rfl) rfl rfl hl.1 rfl (lv_room (Nat.le_of_ble_eq_true rfl)) dX0_crc_15 ⟨Nat.le_of_ble_eq_true rfl, Nat.le_of_ble_eq_true rfl⟩) hP hD hS hA [0] [1] rfl rfl (by decide) (by decide) [1, 0] rfl rfl (by decide) (fun H locs hP hD hS => ?_)
  refine sj_cl_ (wr := [(h0, .inr (0, [.ref h1, .int (nI n)]))]) (w1 := [(h1, .inl (cB, 4096, .inl f))]) (wf := [(h0, .inr (0, [.ref h1, .int (nI n)])), (h1, .inl (cB, 4096, .inl f))]) (va_runS (As := [.int 1, .ref h1, .int (nI (sj_fr x n)), .int (nI (sj_fr y (n - sj_fr x n)))]) (rest := []) ⟨hx, hb, hml, hown, hts⟩ (met_X0_sumC l D tb _ h1 cB f (sj_fr x n) (sj_fr y (n - sj_fr x n)) hpn) (va_cwS 4 hts (lw_S q56 q57 q7 q58) rfl rfl rfl (by decide +kernel) ⟨Nat.le_of_ble_eq_true rfl, Nat.le_of_ble_eq_true rfl⟩) (sj_preS hK hP hD hS hA hT [1] rfl rfl (by decide) [0] rfl) rfl rfl hl.1 rfl (lv_room (Nat.le_of_ble_eq_true rfl)) dX0_crc_18 ⟨Nat.le_of_ble_eq_true rfl, Nat.le_of_ble_eq_true rfl⟩) hP hD hS hA [1] [0] rfl rfl (by decide) (by decide) [0, 1] rfl rfl (by decide) (fun H locs hP hD hS => ?_)
  have hP9 := hP.sub (ws' := [(h0, .inr (0, [.ref h1, .int (nI n)])), (h1, .inl (cB, 4096, .inl f))]) [0, 1] rfl
  have hD9 := hD.sub (ws' := [(h0, .inr (0, [.ref h1, .int (nI n)])), (h1, .inl (cB, 4096, .inl f))]) [0, 1] (by decide) rfl
  exact W.lret (v := sj_l (sj_cv f (sj_fr x n) (sj_fr y (n - sj_fr x n)))) hx hb hr (fun t ht hW => ⟨⟨sj_l (sj_cv f (sj_fr x n) (sj_fr y (n - sj_fr x n))), (), rfl, rfl, by rw [ht]; exact hP9, hD9⟩, hS.F ht⟩) hS.2.2 dX0_crc_21
set_option maxHeartbeats 4000000 in
set_option maxRecDepth 100000 in
/-- adler(at, n) -/
theorem met_X0_adler (l : Launch) (D : va_G) (tb sz : Nat) (h0 h1 n : Nat) (cB : ClassId) (f : Nat → Int32) (x y : Int32) (hn : n ≤ 4096) : sj_ML l yX0_adler cX0_adler 4 ({ frames := 3, cells := 1, slots := 2, locals := 56 }) [.ref h0, .int x, .int y] D tb [(h0, .inr (0, [.ref h1, .int (nI n)])), (h1, .inl (cB, 4096, .inl f))] [(cB, .byte)] sz (lN (sj_av f (sj_fr x n) (sj_fr y (n - sj_fr x n)))) [(h0, .inr (0, [.ref h1, .int (nI n)])), (h1, .inl (cB, 4096, .inl f))] 1 2 := by
  refine Met.ofW (cc := cX0_adler) (maxL := 4) (ret := (some .long)) (by decide) rfl ?_
  intro p e s m args below meth c s₁ B hml hv
  obtain ⟨rfl, hsz, hP, hK, hD0, hT⟩ := hv
  have hx := B.exec
  have hb := B.bytes
  have hr := B.returns
  have hts := atoms_spec (ws := ws_ yX0_adler cX0_adler 4 (some .long)) B.pre
  have hts : ∀ w ∈ lw_all, w.before _ s = true := fun w h => hts w (List.mem_cons_of_mem _ h)
  have hown : s.vm.findClass RX0 = some m.cls := findClass_of_methodNamed B.named
  have hlocks := B.notSynchronized
  subst hsz
  have hD := hD0.self (sz := s.heap.size)
  generalize hAe : va_A [(h0, .inr (0, [.ref h1, .int (nI n)])), (h1, .inl (cB, 4096, .inl f))] s.heap.size = A at hD hT ⊢
  have hA : ∀ q : Nat, s.heap.size ≤ q → A q := fun q h => by rw [← hAe]; exact Or.inr h
  have hS : va_S A s.heap s.heap [] := va_S.rf
  have hP : va_P D vwCl [(h0, .inr (0, [.ref h1, .int (nI n)])), (h1, .inl (cB, 4096, .inl f))] s.heap := hP
  have hl := lv_entry ([.ref h0, .int x, .int y]) (n := 4) (Nat.le_of_ble_eq_true rfl)
  rw [lg_entry_eq]
  generalize (lg_sl ([.ref h0, .int x, .int y]) ++ List.replicate (4 - (lg_sl ([.ref h0, .int x, .int y])).length) Slot.unset).toArray = ls at hl ⊢
  have hl : lv_has ls 4 [(0, .ref h0), (1, .int x), (2, .int y)] := hl
  have hp := sj_fr_le x n
  have hpn := sj_fr2 x y n hn
  refine lv_aload_n hx hb dX0_adler_0 rfl (lv_at hl 0 rfl) ?_
  refine lv_iload_n hx hb dX0_adler_1 rfl (lv_at hl 1 rfl) ?_
  refine sj_ci_ (wr := [(h1, .inl (cB, 4096, .inl f))]) (w1 := [(h0, .inr (0, [.ref h1, .int (nI n)]))]) (wf := [(h0, .inr (0, [.ref h1, .int (nI n)])), (h1, .inl (cB, 4096, .inl f))]) (va_runV (As := [.int x]) (rest := []) ⟨hx, hb, hml, hown, hts⟩ (met_X0_from l D tb _ h0 h1 n x hn) (cwV 1 hts (lw_V q39 q41 qs1 q7 q42) rfl rfl rfl (by decide +kernel) ⟨Nat.le_of_ble_eq_true rfl, Nat.le_of_ble_eq_true rfl⟩) (sj_preV hK hP hD hS hA hT [0] rfl rfl (by decide) [] rfl (ci := 0) (q0 := 0) rfl rfl) rfl rfl hl.1 rfl (lv_room (Nat.le_of_ble_eq_true rfl)) dX0_adler_2 ⟨Nat.le_of_ble_eq_true rfl, Nat.le_of_ble_eq_true rfl⟩) hP hD hS hA [0] [1] rfl rfl (by decide) (by decide) [1, 0] rfl rfl (by decide) (fun H locs hP hD hS => ?_)
  refine lv_istore_n (lv' := [(3, .int (nI (sj_fr x n))), (0, .ref h0), (1, .int x), (2, .int y)]) hx hb dX0_adler_5 rfl hl (by decide) rfl (fun ls hl => ?_)
  refine lv_iconst (v := 0) hx hb dX0_adler_6 (by decide) ?_
  refine lv_aload_n hx hb dX0_adler_7 rfl (lv_at hl 1 rfl) ?_
  refine va_get (D := D) (ci := 0) (v := .ref h1) (C := RX0) (T := TX0) (N := 2) hx hb hts in_X0 hown hK hP 0 rfl rfl 0 (by decide) (hts _ q19) (fun _ h9 => h9) rfl dX0_adler_8 ?_
  refine lv_iload_n hx hb dX0_adler_11 rfl (lv_at hl 0 rfl) ?_
  refine lv_aload_n hx hb dX0_adler_12 rfl (lv_at hl 1 rfl) ?_
  refine lv_iload_n hx hb dX0_adler_13 rfl (lv_at hl 0 rfl) ?_
  refine lv_iload_n hx hb dX0_adler_14 rfl (lv_at hl 3 rfl) ?_
  refine sj_ci_ (wr := [(h1, .inl (cB, 4096, .inl f))]) (w1 := [(h0, .inr (0, [.ref h1, .int (nI n)]))]) (wf := [(h0, .inr (0, [.ref h1, .int (nI n)])), (h1, .inl (cB, 4096, .inl f))]) (va_runV (As := [.int (nI (sj_fr x n)), .int y]) (rest := [.int (nI (sj_fr x n)), .ref h1, .int 0]) ⟨hx, hb, hml, hown, hts⟩ (met_X0_count l D tb _ h0 h1 n (sj_fr x n) y hn hp) (cwV 2 hts (lw_V q52 q54 qs2 q7 q55) rfl rfl rfl (by decide +kernel) ⟨Nat.le_of_ble_eq_true rfl, Nat.le_of_ble_eq_true rfl⟩) (sj_preV hK hP hD hS hA hT [0] rfl rfl (by decide) [] rfl (ci := 0) (q0 := 0) rfl rfl) rfl rfl hl.1 rfl (lv_room (Nat.le_of_ble_eq_true rfl)) dX0_adler_15 ⟨Nat.le_of_ble_eq_true rfl, Nat.le_of_ble_eq_true rfl⟩) hP hD hS hA [0] [1] rfl rfl (by decide) (by decide) [1, 0] rfl rfl (by decide) (fun H locs hP hD hS => ?_)
  refine sj_cl_ (wr := [(h0, .inr (0, [.ref h1, .int (nI n)]))]) (w1 := [(h1, .inl (cB, 4096, .inl f))]) (wf := [(h0, .inr (0, [.ref h1, .int (nI n)])), (h1, .inl (cB, 4096, .inl f))]) (va_runS (As := [.int 0, .ref h1, .int (nI (sj_fr x n)), .int (nI (sj_fr y (n - sj_fr x n)))]) (rest := []) ⟨hx, hb, hml, hown, hts⟩ (met_X0_sumA l D tb _ h1 cB f (sj_fr x n) (sj_fr y (n - sj_fr x n)) hpn) (va_cwS 4 hts (lw_S q56 q57 q7 q58) rfl rfl rfl (by decide +kernel) ⟨Nat.le_of_ble_eq_true rfl, Nat.le_of_ble_eq_true rfl⟩) (sj_preS hK hP hD hS hA hT [1] rfl rfl (by decide) [0] rfl) rfl rfl hl.1 rfl (lv_room (Nat.le_of_ble_eq_true rfl)) dX0_adler_18 ⟨Nat.le_of_ble_eq_true rfl, Nat.le_of_ble_eq_true rfl⟩) hP hD hS hA [1] [0] rfl rfl (by decide) (by decide) [0, 1] rfl rfl (by decide) (fun H locs hP hD hS => ?_)
  have hP9 := hP.sub (ws' := [(h0, .inr (0, [.ref h1, .int (nI n)])), (h1, .inl (cB, 4096, .inl f))]) [0, 1] rfl
  have hD9 := hD.sub (ws' := [(h0, .inr (0, [.ref h1, .int (nI n)])), (h1, .inl (cB, 4096, .inl f))]) [0, 1] (by decide) rfl
  exact W.lret (v := lN (sj_uB f (sj_fr x n) (sj_fr y (n - sj_fr x n)) % 65521 * 65536 + sj_uA f (sj_fr x n) (sj_fr y (n - sj_fr x n)) % 65521)) hx hb hr (fun t ht hW => ⟨⟨lN (sj_uB f (sj_fr x n) (sj_fr y (n - sj_fr x n)) % 65521 * 65536 + sj_uA f (sj_fr x n) (sj_fr y (n - sj_fr x n)) % 65521), (), rfl, rfl, by rw [ht]; exact hP9, hD9⟩, hS.F ht⟩) hS.2.2 dX0_adler_21
set_option maxHeartbeats 4000000 in
set_option maxRecDepth 100000 in
/-- joinCrc(at, n, cut) -/
theorem met_X0_joinCrc (l : Launch) (D : va_G) (tb sz : Nat) (h0 h1 n : Nat) (cB : ClassId) (f : Nat → Int32) (x y z : Int32) (hn : n ≤ 4096) : sj_ML l yX0_joinCrc cX0_joinCrc 7 ({ frames := 3, cells := 4, slots := 66, locals := 77 }) [.ref h0, .int x, .int y, .int z] D tb [(h0, .inr (0, [.ref h1, .int (nI n)])), (h1, .inl (cB, 4096, .inl f))] [(cB, .byte)] sz (sj_l (sj_cv f (sj_fr x n) (sj_fr y (n - sj_fr x n)))) [(h0, .inr (0, [.ref h1, .int (nI n)])), (h1, .inl (cB, 4096, .inl f))] 4 66 := by
  refine Met.ofW (cc := cX0_joinCrc) (maxL := 7) (ret := (some .long)) (by decide) rfl ?_
  intro p e s m args below meth c s₁ B hml hv
  obtain ⟨rfl, hsz, hP, hK, hD0, hT⟩ := hv
  have hx := B.exec
  have hb := B.bytes
  have hr := B.returns
  have hts := atoms_spec (ws := ws_ yX0_joinCrc cX0_joinCrc 7 (some .long)) B.pre
  have hts : ∀ w ∈ lw_all, w.before _ s = true := fun w h => hts w (List.mem_cons_of_mem _ h)
  have hown : s.vm.findClass RX0 = some m.cls := findClass_of_methodNamed B.named
  have hlocks := B.notSynchronized
  subst hsz
  have hD := hD0.self (sz := s.heap.size)
  generalize hAe : va_A [(h0, .inr (0, [.ref h1, .int (nI n)])), (h1, .inl (cB, 4096, .inl f))] s.heap.size = A at hD hT ⊢
  have hA : ∀ q : Nat, s.heap.size ≤ q → A q := fun q h => by rw [← hAe]; exact Or.inr h
  have hS : va_S A s.heap s.heap [] := va_S.rf
  have hP : va_P D vwCl [(h0, .inr (0, [.ref h1, .int (nI n)])), (h1, .inl (cB, 4096, .inl f))] s.heap := hP
  have hl := lv_entry ([.ref h0, .int x, .int y, .int z]) (n := 7) (Nat.le_of_ble_eq_true rfl)
  rw [lg_entry_eq]
  generalize (lg_sl ([.ref h0, .int x, .int y, .int z]) ++ List.replicate (7 - (lg_sl ([.ref h0, .int x, .int y, .int z])).length) Slot.unset).toArray = ls at hl ⊢
  have hl : lv_has ls 7 [(0, .ref h0), (1, .int x), (2, .int y), (3, .int z)] := hl
  have hp := sj_fr_le x n
  have hpn := sj_fr2 x y n hn
  have hk := sj_fr_le z (sj_fr y (n - sj_fr x n))
  have hc4 : sj_fr y (n - sj_fr x n) ≤ 4096 := by omega
  refine lv_aload_n hx hb dX0_joinCrc_0 rfl (lv_at hl 0 rfl) ?_
  refine lv_iload_n hx hb dX0_joinCrc_1 rfl (lv_at hl 1 rfl) ?_
  refine sj_ci_ (wr := [(h1, .inl (cB, 4096, .inl f))]) (w1 := [(h0, .inr (0, [.ref h1, .int (nI n)]))]) (wf := [(h0, .inr (0, [.ref h1, .int (nI n)])), (h1, .inl (cB, 4096, .inl f))]) (va_runV (As := [.int x]) (rest := []) ⟨hx, hb, hml, hown, hts⟩ (met_X0_from l D tb _ h0 h1 n x hn) (cwV 1 hts (lw_V q39 q41 qs1 q7 q42) rfl rfl rfl (by decide +kernel) ⟨Nat.le_of_ble_eq_true rfl, Nat.le_of_ble_eq_true rfl⟩) (sj_preV hK hP hD hS hA hT [0] rfl rfl (by decide) [] rfl (ci := 0) (q0 := 0) rfl rfl) rfl rfl hl.1 rfl (lv_room (Nat.le_of_ble_eq_true rfl)) dX0_joinCrc_2 ⟨Nat.le_of_ble_eq_true rfl, Nat.le_of_ble_eq_true rfl⟩) hP hD hS hA [0] [1] rfl rfl (by decide) (by decide) [1, 0] rfl rfl (by decide) (fun H locs hP hD hS => ?_)
  refine lv_istore (lv' := [(4, .int (nI (sj_fr x n))), (0, .ref h0), (1, .int x), (2, .int y), (3, .int z)]) hx hb dX0_joinCrc_5 hl (by decide) rfl (fun ls hl => ?_)
  refine lv_aload_n hx hb dX0_joinCrc_7 rfl (lv_at hl 1 rfl) ?_
  refine lv_iload hx hb dX0_joinCrc_8 (lv_at hl 0 rfl) ?_
  refine lv_iload_n hx hb dX0_joinCrc_10 rfl (lv_at hl 3 rfl) ?_
  refine sj_ci_ (wr := [(h1, .inl (cB, 4096, .inl f))]) (w1 := [(h0, .inr (0, [.ref h1, .int (nI n)]))]) (wf := [(h0, .inr (0, [.ref h1, .int (nI n)])), (h1, .inl (cB, 4096, .inl f))]) (va_runV (As := [.int (nI (sj_fr x n)), .int y]) (rest := []) ⟨hx, hb, hml, hown, hts⟩ (met_X0_count l D tb _ h0 h1 n (sj_fr x n) y hn hp) (cwV 2 hts (lw_V q52 q54 qs2 q7 q55) rfl rfl rfl (by decide +kernel) ⟨Nat.le_of_ble_eq_true rfl, Nat.le_of_ble_eq_true rfl⟩) (sj_preV hK hP hD hS hA hT [0] rfl rfl (by decide) [] rfl (ci := 0) (q0 := 0) rfl rfl) rfl rfl hl.1 rfl (lv_room (Nat.le_of_ble_eq_true rfl)) dX0_joinCrc_11 ⟨Nat.le_of_ble_eq_true rfl, Nat.le_of_ble_eq_true rfl⟩) hP hD hS hA [0] [1] rfl rfl (by decide) (by decide) [1, 0] rfl rfl (by decide) (fun H locs hP hD hS => ?_)
  refine lv_istore (lv' := [(5, .int (nI (sj_fr y (n - sj_fr x n)))), (4, .int (nI (sj_fr x n))), (0, .ref h0), (1, .int x), (2, .int y), (3, .int z)]) hx hb dX0_joinCrc_14 hl (by decide) rfl (fun ls hl => ?_)
  refine lv_iload_n hx hb dX0_joinCrc_16 rfl (lv_at hl 5 rfl) ?_
  refine lv_ldc hx hb hown (hts _ q43) dX0_joinCrc_17 ?_
  refine lv_iand hx hb dX0_joinCrc_19 ?_
  refine lv_iload hx hb dX0_joinCrc_20 (lv_at hl 0 rfl) ?_
  refine lv_iconst (v := nI 1) hx hb dX0_joinCrc_22 (by decide) ?_
  refine lv_iadd hx hb dX0_joinCrc_23 ?_
  refine sj_ti (nI (sj_fr y (n - sj_fr x n) + 1)) (nI_add _ 1) ?_
  refine lv_irem hx hb dX0_joinCrc_24 (nI_ne0 (by omega) (by omega)) ?_
  refine sj_ti (nI (sj_fr z (sj_fr y (n - sj_fr x n)))) (sj_frI z (sj_fr y (n - sj_fr x n)) hc4) ?_
  refine lv_istore (lv' := [(6, .int (nI (sj_fr z (sj_fr y (n - sj_fr x n))))), (5, .int (nI (sj_fr y (n - sj_fr x n)))), (4, .int (nI (sj_fr x n))), (0, .ref h0), (1, .int x), (2, .int y), (3, .int z)]) hx hb dX0_joinCrc_25 hl (by decide) rfl (fun ls hl => ?_)
  refine lv_iconst (v := 1) hx hb dX0_joinCrc_27 (by decide) ?_
  refine lv_aload_n hx hb dX0_joinCrc_28 rfl (lv_at hl 3 rfl) ?_
  refine va_get (D := D) (ci := 0) (v := .ref h1) (C := RX0) (T := TX0) (N := 2) hx hb hts in_X0 hown hK hP 0 rfl rfl 0 (by decide) (hts _ q19) (fun _ h9 => h9) rfl dX0_joinCrc_29 ?_
  refine lv_iload hx hb dX0_joinCrc_32 (lv_at hl 2 rfl) ?_
  refine lv_iload hx hb dX0_joinCrc_34 (lv_at hl 0 rfl) ?_
  refine sj_cl_ (wr := [(h0, .inr (0, [.ref h1, .int (nI n)]))]) (w1 := [(h1, .inl (cB, 4096, .inl f))]) (wf := [(h0, .inr (0, [.ref h1, .int (nI n)])), (h1, .inl (cB, 4096, .inl f))]) (va_runS (As := [.int 1, .ref h1, .int (nI (sj_fr x n)), .int (nI (sj_fr z (sj_fr y (n - sj_fr x n))))]) (rest := []) ⟨hx, hb, hml, hown, hts⟩ (met_X0_sumC l D tb _ h1 cB f (sj_fr x n) (sj_fr z (sj_fr y (n - sj_fr x n))) (by omega)) (va_cwS 4 hts (lw_S q56 q57 q7 q58) rfl rfl rfl (by decide +kernel) ⟨Nat.le_of_ble_eq_true rfl, Nat.le_of_ble_eq_true rfl⟩) (sj_preS hK hP hD hS hA hT [1] rfl rfl (by decide) [0] rfl) rfl rfl hl.1 rfl (lv_room (Nat.le_of_ble_eq_true rfl)) dX0_joinCrc_36 ⟨Nat.le_of_ble_eq_true rfl, Nat.le_of_ble_eq_true rfl⟩) hP hD hS hA [1] [0] rfl rfl (by decide) (by decide) [0, 1] rfl rfl (by decide) (fun H locs hP hD hS => ?_)
  refine lv_iconst (v := 1) hx hb dX0_joinCrc_39 (by decide) ?_
  refine lv_aload_n hx hb dX0_joinCrc_40 rfl (lv_at hl 3 rfl) ?_
  refine va_get (D := D) (ci := 0) (v := .ref h1) (C := RX0) (T := TX0) (N := 2) hx hb hts in_X0 hown hK hP 0 rfl rfl 0 (by decide) (hts _ q19) (fun _ h9 => h9) rfl dX0_joinCrc_41 ?_
  refine lv_iload hx hb dX0_joinCrc_44 (lv_at hl 2 rfl) ?_
  refine lv_iload hx hb dX0_joinCrc_46 (lv_at hl 0 rfl) ?_
  refine lv_iadd hx hb dX0_joinCrc_48 ?_
  refine sj_ti (nI (sj_fr x n + sj_fr z (sj_fr y (n - sj_fr x n)))) (nI_add _ _) ?_
  refine lv_iload hx hb dX0_joinCrc_49 (lv_at hl 1 rfl) ?_
  refine lv_iload hx hb dX0_joinCrc_51 (lv_at hl 0 rfl) ?_
  refine lv_isub hx hb dX0_joinCrc_53 ?_
  refine sj_ti (nI (sj_fr y (n - sj_fr x n) - sj_fr z (sj_fr y (n - sj_fr x n)))) (pk_sub hk) ?_
  refine sj_cl_ (wr := [(h0, .inr (0, [.ref h1, .int (nI n)]))]) (w1 := [(h1, .inl (cB, 4096, .inl f))]) (wf := [(h0, .inr (0, [.ref h1, .int (nI n)])), (h1, .inl (cB, 4096, .inl f))]) (va_runS (As := [.int 1, .ref h1, .int (nI (sj_fr x n + sj_fr z (sj_fr y (n - sj_fr x n)))), .int (nI (sj_fr y (n - sj_fr x n) - sj_fr z (sj_fr y (n - sj_fr x n))))]) (rest := [.long (sj_l (sj_cv f (sj_fr x n) (sj_fr z (sj_fr y (n - sj_fr x n)))))]) ⟨hx, hb, hml, hown, hts⟩ (met_X0_sumC l D tb _ h1 cB f (sj_fr x n + sj_fr z (sj_fr y (n - sj_fr x n))) (sj_fr y (n - sj_fr x n) - sj_fr z (sj_fr y (n - sj_fr x n))) (by omega)) (va_cwS 4 hts (lw_S q56 q57 q7 q58) rfl rfl rfl (by decide +kernel) ⟨Nat.le_of_ble_eq_true rfl, Nat.le_of_ble_eq_true rfl⟩) (sj_preS hK hP hD hS hA hT [1] rfl rfl (by decide) [0] rfl) rfl rfl hl.1 rfl (lv_room (Nat.le_of_ble_eq_true rfl)) dX0_joinCrc_54 ⟨Nat.le_of_ble_eq_true rfl, Nat.le_of_ble_eq_true rfl⟩) hP hD hS hA [1] [0] rfl rfl (by decide) (by decide) [0, 1] rfl rfl (by decide) (fun H locs hP hD hS => ?_)
  refine lv_iload hx hb dX0_joinCrc_57 (lv_at hl 1 rfl) ?_
  refine lv_iload hx hb dX0_joinCrc_59 (lv_at hl 0 rfl) ?_
  refine lv_isub hx hb dX0_joinCrc_61 ?_
  refine sj_ti (nI (sj_fr y (n - sj_fr x n) - sj_fr z (sj_fr y (n - sj_fr x n)))) (pk_sub hk) ?_
  refine lv_i2l (v := lN (sj_fr y (n - sj_fr x n) - sj_fr z (sj_fr y (n - sj_fr x n)))) hx hb dX0_joinCrc_62 (nI_l (by omega)) ?_
  refine sj_cl_ (wr := [(h0, .inr (0, [.ref h1, .int (nI n)])), (h1, .inl (cB, 4096, .inl f))]) (w1 := []) (wf := [(h0, .inr (0, [.ref h1, .int (nI n)])), (h1, .inl (cB, 4096, .inl f))]) (va_runS (As := [.long (sj_l (sj_cv f (sj_fr x n) (sj_fr z (sj_fr y (n - sj_fr x n))))), .long (sj_l (sj_cv f (sj_fr x n + sj_fr z (sj_fr y (n - sj_fr x n))) (sj_fr y (n - sj_fr x n) - sj_fr z (sj_fr y (n - sj_fr x n))))), .long (lN (sj_fr y (n - sj_fr x n) - sj_fr z (sj_fr y (n - sj_fr x n))))]) (rest := []) ⟨hx, hb, hml, hown, hts⟩ (met_X2_combine l D tb _ _ _ (sj_fr y (n - sj_fr x n) - sj_fr z (sj_fr y (n - sj_fr x n))) (by omega) (fun z9 => by rw [z9]; exact sj_cv0 _ _)) (va_cwS 3 hts (lw_S q110 q111 q9 q112) rfl rfl rfl (by decide +kernel) ⟨Nat.le_of_ble_eq_true rfl, Nat.le_of_ble_eq_true rfl⟩) (sj_preS hK hP hD hS hA hT [] rfl rfl (by decide) [] rfl) rfl rfl hl.1 rfl (lv_room (Nat.le_of_ble_eq_true rfl)) dX0_joinCrc_63 ⟨Nat.le_of_ble_eq_true rfl, Nat.le_of_ble_eq_true rfl⟩) hP hD hS hA [] [0, 1] rfl rfl (by decide) (by decide) [0, 1] rfl rfl (by decide) (fun H locs hP hD hS => ?_)
  refine sj_tl (sj_l (sj_cv f (sj_fr x n) (sj_fr y (n - sj_fr x n)))) (sj_jC f _ _ _ hk) ?_
  have hP9 := hP.sub (ws' := [(h0, .inr (0, [.ref h1, .int (nI n)])), (h1, .inl (cB, 4096, .inl f))]) [0, 1] rfl
  have hD9 := hD.sub (ws' := [(h0, .inr (0, [.ref h1, .int (nI n)])), (h1, .inl (cB, 4096, .inl f))]) [0, 1] (by decide) rfl
  exact W.lret (v := sj_l (sj_cv f (sj_fr x n) (sj_fr y (n - sj_fr x n)))) hx hb hr (fun t ht hW => ⟨⟨sj_l (sj_cv f (sj_fr x n) (sj_fr y (n - sj_fr x n))), (), rfl, rfl, by rw [ht]; exact hP9, hD9⟩, hS.F ht⟩) hS.2.2 dX0_joinCrc_66
set_option maxHeartbeats 4000000 in
set_option maxRecDepth 100000 in
/-- joinAdler(at, n, cut) -/
theorem met_X0_joinAdler (l : Launch) (D : va_G) (tb sz : Nat) (h0 h1 n : Nat) (cB : ClassId) (f : Nat → Int32) (x y z : Int32) (hn : n ≤ 4096) : sj_ML l yX0_joinAdler cX0_joinAdler 7 ({ frames := 3, cells := 2, slots := 4, locals := 56 }) [.ref h0, .int x, .int y, .int z] D tb [(h0, .inr (0, [.ref h1, .int (nI n)])), (h1, .inl (cB, 4096, .inl f))] [(cB, .byte)] sz (lN (sj_av f (sj_fr x n) (sj_fr y (n - sj_fr x n)))) [(h0, .inr (0, [.ref h1, .int (nI n)])), (h1, .inl (cB, 4096, .inl f))] 2 4 := by
  refine Met.ofW (cc := cX0_joinAdler) (maxL := 7) (ret := (some .long)) (by decide) rfl ?_
  intro p e s m args below meth c s₁ B hml hv
  obtain ⟨rfl, hsz, hP, hK, hD0, hT⟩ := hv
  have hx := B.exec
  have hb := B.bytes
  have hr := B.returns
  have hts := atoms_spec (ws := ws_ yX0_joinAdler cX0_joinAdler 7 (some .long)) B.pre
  have hts : ∀ w ∈ lw_all, w.before _ s = true := fun w h => hts w (List.mem_cons_of_mem _ h)
  have hown : s.vm.findClass RX0 = some m.cls := findClass_of_methodNamed B.named
  have hlocks := B.notSynchronized
  subst hsz
  have hD := hD0.self (sz := s.heap.size)
  generalize hAe : va_A [(h0, .inr (0, [.ref h1, .int (nI n)])), (h1, .inl (cB, 4096, .inl f))] s.heap.size = A at hD hT ⊢
  have hA : ∀ q : Nat, s.heap.size ≤ q → A q := fun q h => by rw [← hAe]; exact Or.inr h
  have hS : va_S A s.heap s.heap [] := va_S.rf
  have hP : va_P D vwCl [(h0, .inr (0, [.ref h1, .int (nI n)])), (h1, .inl (cB, 4096, .inl f))] s.heap := hP
  have hl := lv_entry ([.ref h0, .int x, .int y, .int z]) (n := 7) (Nat.le_of_ble_eq_true rfl)
  rw [lg_entry_eq]
  generalize (lg_sl ([.ref h0, .int x, .int y, .int z]) ++ List.replicate (7 - (lg_sl ([.ref h0, .int x, .int y, .int z])).length) Slot.unset).toArray = ls at hl ⊢
  have hl : lv_has ls 7 [(0, .ref h0), (1, .int x), (2, .int y), (3, .int z)] := hl
  have hp := sj_fr_le x n
  have hpn := sj_fr2 x y n hn
  have hk := sj_fr_le z (sj_fr y (n - sj_fr x n))
  have hc4 : sj_fr y (n - sj_fr x n) ≤ 4096 := by omega
  refine lv_aload_n hx hb dX0_joinAdler_0 rfl (lv_at hl 0 rfl) ?_
  refine lv_iload_n hx hb dX0_joinAdler_1 rfl (lv_at hl 1 rfl) ?_
  refine sj_ci_ (wr := [(h1, .inl (cB, 4096, .inl f))]) (w1 := [(h0, .inr (0, [.ref h1, .int (nI n)]))]) (wf := [(h0, .inr (0, [.ref h1, .int (nI n)])), (h1, .inl (cB, 4096, .inl f))]) (va_runV (As := [.int x]) (rest := []) ⟨hx, hb, hml, hown, hts⟩ (met_X0_from l D tb _ h0 h1 n x hn) (cwV 1 hts (lw_V q39 q41 qs1 q7 q42) rfl rfl rfl (by decide +kernel) ⟨Nat.le_of_ble_eq_true rfl, Nat.le_of_ble_eq_true rfl⟩) (sj_preV hK hP hD hS hA hT [0] rfl rfl (by decide) [] rfl (ci := 0) (q0 := 0) rfl rfl) rfl rfl hl.1 rfl (lv_room (Nat.le_of_ble_eq_true rfl)) dX0_joinAdler_2 ⟨Nat.le_of_ble_eq_true rfl, Nat.le_of_ble_eq_true rfl⟩) hP hD hS hA [0] [1] rfl rfl (by decide) (by decide) [1, 0] rfl rfl (by decide) (fun H locs hP hD hS => ?_)
  refine lv_istore (lv' := [(4, .int (nI (sj_fr x n))), (0, .ref h0), (1, .int x), (2, .int y), (3, .int z)]) hx hb dX0_joinAdler_5 hl (by decide) rfl (fun ls hl => ?_)
  refine lv_aload_n hx hb dX0_joinAdler_7 rfl (lv_at hl 1 rfl) ?_
  refine lv_iload hx hb dX0_joinAdler_8 (lv_at hl 0 rfl) ?_
  refine lv_iload_n hx hb dX0_joinAdler_10 rfl (lv_at hl 3 rfl) ?_
  refine sj_ci_ (wr := [(h1, .inl (cB, 4096, .inl f))]) (w1 := [(h0, .inr (0, [.ref h1, .int (nI n)]))]) (wf := [(h0, .inr (0, [.ref h1, .int (nI n)])), (h1, .inl (cB, 4096, .inl f))]) (va_runV (As := [.int (nI (sj_fr x n)), .int y]) (rest := []) ⟨hx, hb, hml, hown, hts⟩ (met_X0_count l D tb _ h0 h1 n (sj_fr x n) y hn hp) (cwV 2 hts (lw_V q52 q54 qs2 q7 q55) rfl rfl rfl (by decide +kernel) ⟨Nat.le_of_ble_eq_true rfl, Nat.le_of_ble_eq_true rfl⟩) (sj_preV hK hP hD hS hA hT [0] rfl rfl (by decide) [] rfl (ci := 0) (q0 := 0) rfl rfl) rfl rfl hl.1 rfl (lv_room (Nat.le_of_ble_eq_true rfl)) dX0_joinAdler_11 ⟨Nat.le_of_ble_eq_true rfl, Nat.le_of_ble_eq_true rfl⟩) hP hD hS hA [0] [1] rfl rfl (by decide) (by decide) [1, 0] rfl rfl (by decide) (fun H locs hP hD hS => ?_)
  refine lv_istore (lv' := [(5, .int (nI (sj_fr y (n - sj_fr x n)))), (4, .int (nI (sj_fr x n))), (0, .ref h0), (1, .int x), (2, .int y), (3, .int z)]) hx hb dX0_joinAdler_14 hl (by decide) rfl (fun ls hl => ?_)
  refine lv_iload_n hx hb dX0_joinAdler_16 rfl (lv_at hl 5 rfl) ?_
  refine lv_ldc hx hb hown (hts _ q43) dX0_joinAdler_17 ?_
  refine lv_iand hx hb dX0_joinAdler_19 ?_
  refine lv_iload hx hb dX0_joinAdler_20 (lv_at hl 0 rfl) ?_
  refine lv_iconst (v := nI 1) hx hb dX0_joinAdler_22 (by decide) ?_
  refine lv_iadd hx hb dX0_joinAdler_23 ?_
  refine sj_ti (nI (sj_fr y (n - sj_fr x n) + 1)) (nI_add _ 1) ?_
  refine lv_irem hx hb dX0_joinAdler_24 (nI_ne0 (by omega) (by omega)) ?_
  refine sj_ti (nI (sj_fr z (sj_fr y (n - sj_fr x n)))) (sj_frI z (sj_fr y (n - sj_fr x n)) hc4) ?_
  refine lv_istore (lv' := [(6, .int (nI (sj_fr z (sj_fr y (n - sj_fr x n))))), (5, .int (nI (sj_fr y (n - sj_fr x n)))), (4, .int (nI (sj_fr x n))), (0, .ref h0), (1, .int x), (2, .int y), (3, .int z)]) hx hb dX0_joinAdler_25 hl (by decide) rfl (fun ls hl => ?_)
  refine lv_iconst (v := 0) hx hb dX0_joinAdler_27 (by decide) ?_
  refine lv_aload_n hx hb dX0_joinAdler_28 rfl (lv_at hl 3 rfl) ?_
  refine va_get (D := D) (ci := 0) (v := .ref h1) (C := RX0) (T := TX0) (N := 2) hx hb hts in_X0 hown hK hP 0 rfl rfl 0 (by decide) (hts _ q19) (fun _ h9 => h9) rfl dX0_joinAdler_29 ?_
  refine lv_iload hx hb dX0_joinAdler_32 (lv_at hl 2 rfl) ?_
  refine lv_iload hx hb dX0_joinAdler_34 (lv_at hl 0 rfl) ?_
  refine sj_cl_ (wr := [(h0, .inr (0, [.ref h1, .int (nI n)]))]) (w1 := [(h1, .inl (cB, 4096, .inl f))]) (wf := [(h0, .inr (0, [.ref h1, .int (nI n)])), (h1, .inl (cB, 4096, .inl f))]) (va_runS (As := [.int 0, .ref h1, .int (nI (sj_fr x n)), .int (nI (sj_fr z (sj_fr y (n - sj_fr x n))))]) (rest := []) ⟨hx, hb, hml, hown, hts⟩ (met_X0_sumA l D tb _ h1 cB f (sj_fr x n) (sj_fr z (sj_fr y (n - sj_fr x n))) (by omega)) (va_cwS 4 hts (lw_S q56 q57 q7 q58) rfl rfl rfl (by decide +kernel) ⟨Nat.le_of_ble_eq_true rfl, Nat.le_of_ble_eq_true rfl⟩) (sj_preS hK hP hD hS hA hT [1] rfl rfl (by decide) [0] rfl) rfl rfl hl.1 rfl (lv_room (Nat.le_of_ble_eq_true rfl)) dX0_joinAdler_36 ⟨Nat.le_of_ble_eq_true rfl, Nat.le_of_ble_eq_true rfl⟩) hP hD hS hA [1] [0] rfl rfl (by decide) (by decide) [0, 1] rfl rfl (by decide) (fun H locs hP hD hS => ?_)
  refine lv_iconst (v := 0) hx hb dX0_joinAdler_39 (by decide) ?_
  refine lv_aload_n hx hb dX0_joinAdler_40 rfl (lv_at hl 3 rfl) ?_
  refine va_get (D := D) (ci := 0) (v := .ref h1) (C := RX0) (T := TX0) (N := 2) hx hb hts in_X0 hown hK hP 0 rfl rfl 0 (by decide) (hts _ q19) (fun _ h9 => h9) rfl dX0_joinAdler_41 ?_
  refine lv_iload hx hb dX0_joinAdler_44 (lv_at hl 2 rfl) ?_
  refine lv_iload hx hb dX0_joinAdler_46 (lv_at hl 0 rfl) ?_
  refine lv_iadd hx hb dX0_joinAdler_48 ?_
  refine sj_ti (nI (sj_fr x n + sj_fr z (sj_fr y (n - sj_fr x n)))) (nI_add _ _) ?_
  refine lv_iload hx hb dX0_joinAdler_49 (lv_at hl 1 rfl) ?_
  refine lv_iload hx hb dX0_joinAdler_51 (lv_at hl 0 rfl) ?_
  refine lv_isub hx hb dX0_joinAdler_53 ?_
  refine sj_ti (nI (sj_fr y (n - sj_fr x n) - sj_fr z (sj_fr y (n - sj_fr x n)))) (pk_sub hk) ?_
  refine sj_cl_ (wr := [(h0, .inr (0, [.ref h1, .int (nI n)]))]) (w1 := [(h1, .inl (cB, 4096, .inl f))]) (wf := [(h0, .inr (0, [.ref h1, .int (nI n)])), (h1, .inl (cB, 4096, .inl f))]) (va_runS (As := [.int 0, .ref h1, .int (nI (sj_fr x n + sj_fr z (sj_fr y (n - sj_fr x n)))), .int (nI (sj_fr y (n - sj_fr x n) - sj_fr z (sj_fr y (n - sj_fr x n))))]) (rest := [.long (lN (sj_uB f (sj_fr x n) (sj_fr z (sj_fr y (n - sj_fr x n))) % 65521 * 65536 + sj_uA f (sj_fr x n) (sj_fr z (sj_fr y (n - sj_fr x n))) % 65521))]) ⟨hx, hb, hml, hown, hts⟩ (met_X0_sumA l D tb _ h1 cB f (sj_fr x n + sj_fr z (sj_fr y (n - sj_fr x n))) (sj_fr y (n - sj_fr x n) - sj_fr z (sj_fr y (n - sj_fr x n))) (by omega)) (va_cwS 4 hts (lw_S q56 q57 q7 q58) rfl rfl rfl (by decide +kernel) ⟨Nat.le_of_ble_eq_true rfl, Nat.le_of_ble_eq_true rfl⟩) (sj_preS hK hP hD hS hA hT [1] rfl rfl (by decide) [0] rfl) rfl rfl hl.1 rfl (lv_room (Nat.le_of_ble_eq_true rfl)) dX0_joinAdler_54 ⟨Nat.le_of_ble_eq_true rfl, Nat.le_of_ble_eq_true rfl⟩) hP hD hS hA [1] [0] rfl rfl (by decide) (by decide) [0, 1] rfl rfl (by decide) (fun H locs hP hD hS => ?_)
  refine lv_iload hx hb dX0_joinAdler_57 (lv_at hl 1 rfl) ?_
  refine lv_iload hx hb dX0_joinAdler_59 (lv_at hl 0 rfl) ?_
  refine lv_isub hx hb dX0_joinAdler_61 ?_
  refine sj_ti (nI (sj_fr y (n - sj_fr x n) - sj_fr z (sj_fr y (n - sj_fr x n)))) (pk_sub hk) ?_
  refine lv_i2l (v := lN (sj_fr y (n - sj_fr x n) - sj_fr z (sj_fr y (n - sj_fr x n)))) hx hb dX0_joinAdler_62 (nI_l (by omega)) ?_
  refine sj_cl_ (wr := [(h0, .inr (0, [.ref h1, .int (nI n)])), (h1, .inl (cB, 4096, .inl f))]) (w1 := []) (wf := [(h0, .inr (0, [.ref h1, .int (nI n)])), (h1, .inl (cB, 4096, .inl f))]) (va_runS (As := [.long (lN (sj_uB f (sj_fr x n) (sj_fr z (sj_fr y (n - sj_fr x n))) % 65521 * 65536 + sj_uA f (sj_fr x n) (sj_fr z (sj_fr y (n - sj_fr x n))) % 65521)), .long (lN (sj_uB f (sj_fr x n + sj_fr z (sj_fr y (n - sj_fr x n))) (sj_fr y (n - sj_fr x n) - sj_fr z (sj_fr y (n - sj_fr x n))) % 65521 * 65536 + sj_uA f (sj_fr x n + sj_fr z (sj_fr y (n - sj_fr x n))) (sj_fr y (n - sj_fr x n) - sj_fr z (sj_fr y (n - sj_fr x n))) % 65521)), .long (lN (sj_fr y (n - sj_fr x n) - sj_fr z (sj_fr y (n - sj_fr x n))))]) (rest := []) ⟨hx, hb, hml, hown, hts⟩ (met_X3_combine l D tb _ (sj_uA f (sj_fr x n) (sj_fr z (sj_fr y (n - sj_fr x n))) % 65521) (sj_uB f (sj_fr x n) (sj_fr z (sj_fr y (n - sj_fr x n))) % 65521) (sj_uA f (sj_fr x n + sj_fr z (sj_fr y (n - sj_fr x n))) (sj_fr y (n - sj_fr x n) - sj_fr z (sj_fr y (n - sj_fr x n))) % 65521) (sj_uB f (sj_fr x n + sj_fr z (sj_fr y (n - sj_fr x n))) (sj_fr y (n - sj_fr x n) - sj_fr z (sj_fr y (n - sj_fr x n))) % 65521) (sj_fr y (n - sj_fr x n) - sj_fr z (sj_fr y (n - sj_fr x n))) (Nat.mod_lt _ (by decide)) (Nat.mod_lt _ (by decide)) (Nat.mod_lt _ (by decide)) (Nat.mod_lt _ (by decide)) (by omega)) (va_cwS 3 hts (lw_S q125 q126 q10 q127) rfl rfl rfl (by decide +kernel) ⟨Nat.le_of_ble_eq_true rfl, Nat.le_of_ble_eq_true rfl⟩) (sj_preS hK hP hD hS hA hT [] rfl rfl (by decide) [] rfl) rfl rfl hl.1 rfl (lv_room (Nat.le_of_ble_eq_true rfl)) dX0_joinAdler_63 ⟨Nat.le_of_ble_eq_true rfl, Nat.le_of_ble_eq_true rfl⟩) hP hD hS hA [] [0, 1] rfl rfl (by decide) (by decide) [0, 1] rfl rfl (by decide) (fun H locs hP hD hS => ?_)
  refine sj_tl (lN (sj_av f (sj_fr x n) (sj_fr y (n - sj_fr x n)))) (sj_jAd f _ _ _ hk hc4) ?_
  have hP9 := hP.sub (ws' := [(h0, .inr (0, [.ref h1, .int (nI n)])), (h1, .inl (cB, 4096, .inl f))]) [0, 1] rfl
  have hD9 := hD.sub (ws' := [(h0, .inr (0, [.ref h1, .int (nI n)])), (h1, .inl (cB, 4096, .inl f))]) [0, 1] (by decide) rfl
  exact W.lret (v := lN (sj_av f (sj_fr x n) (sj_fr y (n - sj_fr x n)))) hx hb hr (fun t ht hW => ⟨⟨lN (sj_av f (sj_fr x n) (sj_fr y (n - sj_fr x n))), (), rfl, rfl, by rw [ht]; exact hP9, hD9⟩, hS.F ht⟩) hS.2.2 dX0_joinAdler_66
end
section
/-! SumJoinModel: its contracts -/
set_option maxRecDepth 100000
theorem sj_bv8 (a b c d : Int32) (k : Nat) : (sj_bv a b c d k).toInt8.toInt32 = sj_bv a b c d k := by
  have h := pk_vb (((sj_wd a b c d k).toUInt32 >>> ((nI (24 - 8 * (k % 4))).toUInt32 &&& Int32.toUInt32 31)).toInt32)
  rw [vp_nar_byte] at h
  exact h
theorem sj_pwS (f : Nat → Int32) (n : Nat) (a b c d : Int32) (k : Nat) : upd (sj_pw f n a b c d k) (n + k) ((sj_bv a b c d k).toInt8.toInt32) = sj_pw f n a b c d (k + 1) := by
  rw [sj_bv8]
  rfl
theorem sj_k3 {k : Nat} (hk : k < 16) : nI k &&& 3 = nI (k % 4) := pk_andN (by omega) (m := 3) 2 (by decide)
theorem sj_mA (f : Nat → Int32) (p i : Nat) (hi : i ≤ 4096) : lN (sj_uA f p i % 65521 + sj_by f (p + i)) - lN (sj_uA f p i % 65521 + sj_by f (p + i)) / lN 65521 * lN 65521 = lN (sj_uA f p (i + 1) % 65521) := by
  have h := sj_by_lt f (p + i)
  rw [sj_md (by omega), Nat.mod_add_mod]
  rfl
theorem sj_mB (f : Nat → Int32) (p i : Nat) (hi : i ≤ 4096) : lN (sj_uB f p i % 65521 + sj_uA f p (i + 1) % 65521) - lN (sj_uB f p i % 65521 + sj_uA f p (i + 1) % 65521) / lN 65521 * lN 65521 = lN (sj_uB f p (i + 1) % 65521) := by
  rw [sj_md (by omega), ← Nat.add_mod]
  rfl
set_option maxHeartbeats 4000000 in
set_option maxRecDepth 100000 in
/-- first(x) -/
theorem met_X1_first (l : Launch) (D : va_G) (tb sz : Nat) (h0 h1 n : Nat) (x : Int32) (hn : n ≤ 4096) : sj_MI l yX1_first cX1_first 2 .int ({ frames := 0, cells := 0, slots := 0, locals := 0 }) [.ref h0, .int x] D tb [(h0, .inr (1, [.ref h1, .int (nI n)]))] [] sz (nI (sj_fr x n)) [(h0, .inr (1, [.ref h1, .int (nI n)]))] 0 0 := by
  refine Met.ofW (cc := cX1_first) (maxL := 2) (ret := (some .int)) (by decide) rfl ?_
  intro p e s m args below meth c s₁ B hml hv
  obtain ⟨rfl, hsz, hP, hK, hD0, hT⟩ := hv
  have hx := B.exec
  have hb := B.bytes
  have hr := B.returns
  have hts := atoms_spec (ws := ws_ yX1_first cX1_first 2 (some .int)) B.pre
  have hts : ∀ w ∈ lw_all, w.before _ s = true := fun w h => hts w (List.mem_cons_of_mem _ h)
  have hown : s.vm.findClass RX1 = some m.cls := findClass_of_methodNamed B.named
  have hlocks := B.notSynchronized
  subst hsz
  have hD := hD0.self (sz := s.heap.size)
  generalize hAe : va_A [(h0, .inr (1, [.ref h1, .int (nI n)]))] s.heap.size = A at hD hT ⊢
  have hA : ∀ q : Nat, s.heap.size ≤ q → A q := fun q h => by rw [← hAe]; exact Or.inr h
  have hS : va_S A s.heap s.heap [] := va_S.rf
  have hP : va_P D vwCl [(h0, .inr (1, [.ref h1, .int (nI n)]))] s.heap := hP
  have hl := lv_entry ([.ref h0, .int x]) (n := 2) (Nat.le_of_ble_eq_true rfl)
  rw [lg_entry_eq]
  generalize (lg_sl ([.ref h0, .int x]) ++ List.replicate (2 - (lg_sl ([.ref h0, .int x])).length) Slot.unset).toArray = ls at hl ⊢
  have hl : lv_has ls 2 [(0, .ref h0), (1, .int x)] := hl
  refine lv_iload_n hx hb dX1_first_0 rfl (lv_at hl 1 rfl) ?_
  refine lv_ldc hx hb hown (hts _ q154) dX1_first_1 ?_
  refine lv_iand hx hb dX1_first_3 ?_
  refine lv_aload_n hx hb dX1_first_4 rfl (lv_at hl 0 rfl) ?_
  refine va_get (D := D) (ci := 1) (v := .int (nI n)) (C := RX1) (T := TX1) (N := 2) hx hb hts in_X1 hown hK hP 0 rfl rfl 1 (by decide) (hts _ q136) (fun _ h9 => h9) rfl dX1_first_5 ?_
  refine lv_iconst (v := nI 1) hx hb dX1_first_8 (by decide) ?_
  refine lv_iadd hx hb dX1_first_9 ?_
  refine sj_ti (nI (n + 1)) (nI_add n 1) ?_
  refine lv_irem hx hb dX1_first_10 (nI_ne0 (by omega) (by omega)) ?_
  refine sj_ti (nI (sj_fr x n)) (sj_frI x n hn) ?_
  have hP9 := hP.sub (ws' := [(h0, .inr (1, [.ref h1, .int (nI n)]))]) [0] rfl
  have hD9 := hD.sub (ws' := [(h0, .inr (1, [.ref h1, .int (nI n)]))]) [0] (by decide) rfl
  exact W.iret (v := nI (sj_fr x n)) hx hb hr (fun t ht hW => ⟨⟨nI (sj_fr x n), (), rfl, rfl, by rw [ht]; exact hP9, hD9⟩, hS.F ht⟩) hS.2.2 dX1_first_11
set_option maxHeartbeats 4000000 in
set_option maxRecDepth 100000 in
/-- many(p, y) -/
theorem met_X1_many (l : Launch) (D : va_G) (tb sz : Nat) (h0 h1 n p0 : Nat) (y : Int32) (hn : n ≤ 4096) (hp : p0 ≤ n) : sj_MI l yX1_many cX1_many 3 .int ({ frames := 0, cells := 0, slots := 0, locals := 0 }) [.ref h0, .int (nI p0), .int y] D tb [(h0, .inr (1, [.ref h1, .int (nI n)]))] [] sz (nI (sj_fr y (n - p0))) [(h0, .inr (1, [.ref h1, .int (nI n)]))] 0 0 := by
  refine Met.ofW (cc := cX1_many) (maxL := 3) (ret := (some .int)) (by decide) rfl ?_
  intro p e s m args below meth c s₁ B hml hv
  obtain ⟨rfl, hsz, hP, hK, hD0, hT⟩ := hv
  have hx := B.exec
  have hb := B.bytes
  have hr := B.returns
  have hts := atoms_spec (ws := ws_ yX1_many cX1_many 3 (some .int)) B.pre
  have hts : ∀ w ∈ lw_all, w.before _ s = true := fun w h => hts w (List.mem_cons_of_mem _ h)
  have hown : s.vm.findClass RX1 = some m.cls := findClass_of_methodNamed B.named
  have hlocks := B.notSynchronized
  subst hsz
  have hD := hD0.self (sz := s.heap.size)
  generalize hAe : va_A [(h0, .inr (1, [.ref h1, .int (nI n)]))] s.heap.size = A at hD hT ⊢
  have hA : ∀ q : Nat, s.heap.size ≤ q → A q := fun q h => by rw [← hAe]; exact Or.inr h
  have hS : va_S A s.heap s.heap [] := va_S.rf
  have hP : va_P D vwCl [(h0, .inr (1, [.ref h1, .int (nI n)]))] s.heap := hP
  have hl := lv_entry ([.ref h0, .int (nI p0), .int y]) (n := 3) (Nat.le_of_ble_eq_true rfl)
  rw [lg_entry_eq]
  generalize (lg_sl ([.ref h0, .int (nI p0), .int y]) ++ List.replicate (3 - (lg_sl ([.ref h0, .int (nI p0), .int y])).length) Slot.unset).toArray = ls at hl ⊢
  have hl : lv_has ls 3 [(0, .ref h0), (1, .int (nI p0)), (2, .int y)] := hl
  refine lv_iload_n hx hb dX1_many_0 rfl (lv_at hl 2 rfl) ?_
  refine lv_ldc hx hb hown (hts _ q154) dX1_many_1 ?_
  refine lv_iand hx hb dX1_many_3 ?_
  refine lv_aload_n hx hb dX1_many_4 rfl (lv_at hl 0 rfl) ?_
  refine va_get (D := D) (ci := 1) (v := .int (nI n)) (C := RX1) (T := TX1) (N := 2) hx hb hts in_X1 hown hK hP 0 rfl rfl 1 (by decide) (hts _ q136) (fun _ h9 => h9) rfl dX1_many_5 ?_
  refine lv_iload_n hx hb dX1_many_8 rfl (lv_at hl 1 rfl) ?_
  refine lv_isub hx hb dX1_many_9 ?_
  refine sj_ti (nI (n - p0)) (pk_sub hp) ?_
  refine lv_iconst (v := nI 1) hx hb dX1_many_10 (by decide) ?_
  refine lv_iadd hx hb dX1_many_11 ?_
  refine sj_ti (nI (n - p0 + 1)) (nI_add _ 1) ?_
  refine lv_irem hx hb dX1_many_12 (nI_ne0 (by omega) (by omega)) ?_
  refine sj_ti (nI (sj_fr y (n - p0))) (sj_frI y (n - p0) (by omega)) ?_
  have hP9 := hP.sub (ws' := [(h0, .inr (1, [.ref h1, .int (nI n)]))]) [0] rfl
  have hD9 := hD.sub (ws' := [(h0, .inr (1, [.ref h1, .int (nI n)]))]) [0] (by decide) rfl
  exact W.iret (v := nI (sj_fr y (n - p0))) hx hb hr (fun t ht hW => ⟨⟨nI (sj_fr y (n - p0)), (), rfl, rfl, by rw [ht]; exact hP9, hD9⟩, hS.F ht⟩) hS.2.2 dX1_many_13
set_option maxHeartbeats 4000000 in
set_option maxRecDepth 100000 in
/-- size() -/
theorem met_X1_size (l : Launch) (D : va_G) (tb sz : Nat) (h0 h1 n : Nat) : sj_MI l yX1_size cX1_size 1 .int ({ frames := 0, cells := 0, slots := 0, locals := 0 }) [.ref h0] D tb [(h0, .inr (1, [.ref h1, .int (nI n)]))] [] sz (nI n) [(h0, .inr (1, [.ref h1, .int (nI n)]))] 0 0 := by
  refine Met.ofW (cc := cX1_size) (maxL := 1) (ret := (some .int)) (by decide) rfl ?_
  intro p e s m args below meth c s₁ B hml hv
  obtain ⟨rfl, hsz, hP, hK, hD0, hT⟩ := hv
  have hx := B.exec
  have hb := B.bytes
  have hr := B.returns
  have hts := atoms_spec (ws := ws_ yX1_size cX1_size 1 (some .int)) B.pre
  have hts : ∀ w ∈ lw_all, w.before _ s = true := fun w h => hts w (List.mem_cons_of_mem _ h)
  have hown : s.vm.findClass RX1 = some m.cls := findClass_of_methodNamed B.named
  have hlocks := B.notSynchronized
  subst hsz
  have hD := hD0.self (sz := s.heap.size)
  generalize hAe : va_A [(h0, .inr (1, [.ref h1, .int (nI n)]))] s.heap.size = A at hD hT ⊢
  have hA : ∀ q : Nat, s.heap.size ≤ q → A q := fun q h => by rw [← hAe]; exact Or.inr h
  have hS : va_S A s.heap s.heap [] := va_S.rf
  have hP : va_P D vwCl [(h0, .inr (1, [.ref h1, .int (nI n)]))] s.heap := hP
  have hl := lv_entry ([.ref h0]) (n := 1) (Nat.le_of_ble_eq_true rfl)
  rw [lg_entry_eq]
  generalize (lg_sl ([.ref h0]) ++ List.replicate (1 - (lg_sl ([.ref h0])).length) Slot.unset).toArray = ls at hl ⊢
  have hl : lv_has ls 1 [(0, .ref h0)] := hl
  refine lv_aload_n hx hb dX1_size_0 rfl (lv_at hl 0 rfl) ?_
  refine va_get (D := D) (ci := 1) (v := .int (nI n)) (C := RX1) (T := TX1) (N := 2) hx hb hts in_X1 hown hK hP 0 rfl rfl 1 (by decide) (hts _ q136) (fun _ h9 => h9) rfl dX1_size_1 ?_
  have hP9 := hP.sub (ws' := [(h0, .inr (1, [.ref h1, .int (nI n)]))]) [0] rfl
  have hD9 := hD.sub (ws' := [(h0, .inr (1, [.ref h1, .int (nI n)]))]) [0] (by decide) rfl
  exact W.iret (v := nI n) hx hb hr (fun t ht hW => ⟨⟨nI n, (), rfl, rfl, by rw [ht]; exact hP9, hD9⟩, hS.F ht⟩) hS.2.2 dX1_size_4
set_option maxHeartbeats 4000000 in
set_option maxRecDepth 100000 in
/-- trim(x) -/
theorem met_X1_trim (l : Launch) (D : va_G) (tb sz : Nat) (h0 h1 n : Nat) (x : Int32) (hn : n ≤ 4096) : sj_MV l yX1_trim cX1_trim 2 ({ frames := 1, cells := 0, slots := 0, locals := 21 }) [.ref h0, .int x] D tb [(h0, .inr (1, [.ref h1, .int (nI n)]))] [] sz [(h0, .inr (1, [.ref h1, .int (nI (sj_fr x n))]))] 0 0 := by
  refine Met.ofW (cc := cX1_trim) (maxL := 2) (ret := none) (by decide) rfl ?_
  intro p e s m args below meth c s₁ B hml hv
  obtain ⟨rfl, hsz, hP, hK, hD0, hT⟩ := hv
  have hx := B.exec
  have hb := B.bytes
  have hr := B.returns
  have hts := atoms_spec (ws := ws_ yX1_trim cX1_trim 2 none) B.pre
  have hts : ∀ w ∈ lw_all, w.before _ s = true := fun w h => hts w (List.mem_cons_of_mem _ h)
  have hown : s.vm.findClass RX1 = some m.cls := findClass_of_methodNamed B.named
  have hlocks := B.notSynchronized
  subst hsz
  have hD := hD0.self (sz := s.heap.size)
  generalize hAe : va_A [(h0, .inr (1, [.ref h1, .int (nI n)]))] s.heap.size = A at hD hT ⊢
  have hA : ∀ q : Nat, s.heap.size ≤ q → A q := fun q h => by rw [← hAe]; exact Or.inr h
  have hS : va_S A s.heap s.heap [] := va_S.rf
  have hP : va_P D vwCl [(h0, .inr (1, [.ref h1, .int (nI n)]))] s.heap := hP
  have hl := lv_entry ([.ref h0, .int x]) (n := 2) (Nat.le_of_ble_eq_true rfl)
  rw [lg_entry_eq]
  generalize (lg_sl ([.ref h0, .int x]) ++ List.replicate (2 - (lg_sl ([.ref h0, .int x])).length) Slot.unset).toArray = ls at hl ⊢
  have hl : lv_has ls 2 [(0, .ref h0), (1, .int x)] := hl
  refine lv_aload_n hx hb dX1_trim_0 rfl (lv_at hl 0 rfl) ?_
  refine lv_aload_n hx hb dX1_trim_1 rfl (lv_at hl 0 rfl) ?_
  refine lv_iload_n hx hb dX1_trim_2 rfl (lv_at hl 1 rfl) ?_
  refine sj_ci_ (wr := []) (w1 := [(h0, .inr (1, [.ref h1, .int (nI n)]))]) (wf := [(h0, .inr (1, [.ref h1, .int (nI n)]))]) (va_runV (As := [.int x]) (rest := [.ref h0]) ⟨hx, hb, hml, hown, hts⟩ (met_X1_first l D tb _ h0 h1 n x hn) (cwV 1 hts (lw_V q150 q152 qs3 q8 q153) rfl rfl rfl (by decide +kernel) ⟨Nat.le_of_ble_eq_true rfl, Nat.le_of_ble_eq_true rfl⟩) (sj_preV hK hP hD hS hA hT [0] rfl rfl (by decide) [] rfl (ci := 1) (q0 := 0) rfl rfl) rfl rfl hl.1 rfl (lv_room (Nat.le_of_ble_eq_true rfl)) dX1_trim_3 ⟨Nat.le_of_ble_eq_true rfl, Nat.le_of_ble_eq_true rfl⟩) hP hD hS hA [0] [] rfl rfl (by decide) (by decide) [0] rfl rfl (by decide) (fun H locs hP hD hS => ?_)
  refine va_put (D := D) (ci := 1) (v := .int (nI (sj_fr x n))) (ty := .int) (C := RX1) (T := TX1) (N := 2) hx hb hts in_X1 tyX1 tyX1_ok nmX1 hown hK hP hD hS 0 rfl rfl 1 (by decide) (hts _ q136) (fun _ h9 => h9) rfl (by decide +kernel) rfl rfl (Nat.le_of_ble_eq_true rfl) dX1_trim_6 (fun H locs hP hD hS => ?_)
  have hP : va_P D vwCl [(h0, .inr (1, [.ref h1, .int (nI (sj_fr x n))]))] H := hP
  have hD : va_D A [(h0, .inr (1, [.ref h1, .int (nI (sj_fr x n))]))] := hD
  have hP9 := hP.sub (ws' := [(h0, .inr (1, [.ref h1, .int (nI (sj_fr x n))]))]) [0] rfl
  have hD9 := hD.sub (ws' := [(h0, .inr (1, [.ref h1, .int (nI (sj_fr x n))]))]) [0] (by decide) rfl
  exact W.vret hx hb hr (fun t ht hW => ⟨⟨(), rfl, trivial, by rw [ht]; exact hP9, hD9⟩, hS.F ht⟩) hS.2.2 dX1_trim_9
set_option maxHeartbeats 4000000 in
set_option maxRecDepth 100000 in
/-- SumJoinModel(): an empty text -/
theorem met_X1_init (l : Launch) (D : va_G) (tb sz : Nat) (h0 : Nat) : Met l yX1_init (ws_ yX1_init cX1_init 1 none) ({ frames := 1, cells := 1, slots := 4096, locals := 12 }) (va_Pc [.ref h0] (sj_wd0 D tb [(h0, .inr (1, [.null, .int 0]))] [] sz)) (va_Qv (fun _ : Nat × ClassId => True) (fun u t => va_P D vwCl [(h0, .inr (1, [.ref u.1, .int 0])), (u.1, .inl (u.2, 4096, .inl (fun _ => 0)))] t.heap ∧ va_K D vwCl [(u.2, .byte)] t ∧ va_D (va_A [(h0, .inr (1, [.null, .int 0]))] sz) [(h0, .inr (1, [.ref u.1, .int 0])), (u.1, .inl (u.2, 4096, .inl (fun _ => 0)))]) (va_A [(h0, .inr (1, [.null, .int 0]))] sz)) 1 4096 (va_A [(h0, .inr (1, [.null, .int 0]))] sz) := by
  refine Met.ofW (cc := cX1_init) (maxL := 1) (ret := none) (by decide) rfl ?_
  intro p e s m args below meth c s₁ B hml hv
  obtain ⟨rfl, hsz, hP, hK, hD0, hT⟩ := hv
  have hx := B.exec
  have hb := B.bytes
  have hr := B.returns
  have hts := atoms_spec (ws := ws_ yX1_init cX1_init 1 none) B.pre
  have hts : ∀ w ∈ lw_all, w.before _ s = true := fun w h => hts w (List.mem_cons_of_mem _ h)
  have hown : s.vm.findClass RX1 = some m.cls := findClass_of_methodNamed B.named
  have hlocks := B.notSynchronized
  have hin : meth.name = "<init>" := (name_of_methodNamed B.named B.method).1
  subst hsz
  have hD := hD0.self (sz := s.heap.size)
  generalize hAe : va_A [(h0, .inr (1, [.null, .int 0]))] s.heap.size = A at hD hT ⊢
  have hA : ∀ q : Nat, s.heap.size ≤ q → A q := fun q h => by rw [← hAe]; exact Or.inr h
  have hS : va_S A s.heap s.heap [] := va_S.rf
  have hP : va_P D vwCl [(h0, .inr (1, [.null, .int 0]))] s.heap := hP
  have hl := lv_entry ([.ref h0]) (n := 1) (Nat.le_of_ble_eq_true rfl)
  rw [lg_entry_eq]
  generalize (lg_sl ([.ref h0]) ++ List.replicate (1 - (lg_sl ([.ref h0])).length) Slot.unset).toArray = ls at hl ⊢
  have hl : lv_has ls 1 [(0, .ref h0)] := hl
  refine lv_aload_n hx hb dX1_init_0 rfl (lv_at hl 0 rfl) ?_
  refine W.objInit hx hb hown (hts _ q134) (hts _ q17) (hts _ q18) rfl (by rw [hml]; exact hl.1) rfl dX1_init_1 (Nat.le_of_ble_eq_true rfl) (Nat.le_of_ble_eq_true rfl) ?_
  refine W.eq (g2 := F0 m 4 ls []) rfl ?_
  refine lv_aload_n hx hb dX1_init_4 rfl (lv_at hl 0 rfl) ?_
  refine lv_sipush (v := 4096) hx hb dX1_init_5 (by decide) ?_
  refine va_newa hx hb (atype := .byte) (hts _ q26) (ty := .byte) rfl hK hP hD hS hA (N' := 4096) (a0 := (4096, .inl (fun _ => 0))) (fun _ => rfl) (by decide) (by decide) (Nat.le_of_ble_eq_true rfl) (Nat.le_of_ble_eq_true rfl) (Nat.le_of_ble_eq_true rfl) dX1_init_8 (fun q1 cB H hK hP hD hS => ?_)
  have hK : va_K D vwCl [(cB, .byte)] s := hK
  have hP : va_P D vwCl [(h0, .inr (1, [.null, .int 0])), (q1, .inl (cB, 4096, .inl (fun _ => 0)))] H := hP
  have hD : va_D A [(h0, .inr (1, [.null, .int 0])), (q1, .inl (cB, 4096, .inl (fun _ => 0)))] := hD
  refine va_putF (D := D) (ci := 1) (v := .ref q1) (ty := .array .byte) (C := RX1) (T := TX1) (N := 2) hx hb hts in_X1 tyX1 tyX1_ok nmX1 hown hK hP hD hS 0 rfl rfl 0 (by decide) (hts _ q135) (fun _ h9 => h9) rfl hin rfl (by decide +kernel) rfl rfl (Nat.le_of_ble_eq_true rfl) dX1_init_10 (fun H locs hP hD hS => ?_)
  have hP : va_P D vwCl [(h0, .inr (1, [.ref q1, .int 0])), (q1, .inl (cB, 4096, .inl (fun _ => 0)))] H := hP
  have hD : va_D A [(h0, .inr (1, [.ref q1, .int 0])), (q1, .inl (cB, 4096, .inl (fun _ => 0)))] := hD
  exact W.vret hx hb hr (fun t ht hW => ⟨⟨(q1, cB), rfl, trivial, by rw [ht]; exact hP, va_K.moved hW.alike hK, hD⟩, hS.F ht⟩) hS.2.2 dX1_init_13
set_option maxHeartbeats 4000000 in
set_option maxRecDepth 100000 in
/-- put: the loop at byte k -/
theorem lp_X1_put {p : Program} {l : Launch} {e : Env} {R : Room} {s : State} {m : MethodId} {args : Array Value} {below : List Frame} {meth : Method} {c : Code} {cells slots : Nat} {Q : State → Prop} {D : va_G} {A : Nat → Prop} {h0 h1 : Nat} {cB : ClassId} {f : Nat → Int32} {x1 x2 x3 x4 : Int32} (hx : p.tables.exec = Jvm.exec) (hb : c.code = cX1_put) (hts : ∀ w ∈ lw_all, w.before args s = true) (hown : s.vm.findClass RX1 = some m.cls) (hK : va_K D vwCl [(cB, .byte)] s) (n : Nat) (hn : n ≤ 4080)
    (kk : ∀ (H : Heap) (locs : List Loc), va_P D vwCl [(h0, .inr (1, [.ref h1, .int (nI n)])), (h1, .inl (cB, 4096, .inl (sj_pw f n x1 x2 x3 x4 16)))] H → va_D A [(h0, .inr (1, [.ref h1, .int (nI n)])), (h1, .inl (cB, 4096, .inl (sj_pw f n x1 x2 x3 x4 16)))] → va_S A s.heap H locs → ∀ ls : Array Slot, lv_has ls 7 [(0, .ref h0)] → W p l e R s m args below meth c H locs cells slots Q (F0 m 93 ls [])) :
    ∀ (j k : Nat), k + j = 16 → ∀ (H : Heap) (locs : List Loc), va_P D vwCl [(h0, .inr (1, [.ref h1, .int (nI n)])), (h1, .inl (cB, 4096, .inl (sj_pw f n x1 x2 x3 x4 k)))] H → va_D A [(h0, .inr (1, [.ref h1, .int (nI n)])), (h1, .inl (cB, 4096, .inl (sj_pw f n x1 x2 x3 x4 k)))] → va_S A s.heap H locs → ∀ ls : Array Slot, lv_has ls 7 [(0, .ref h0), (1, .int x1), (2, .int x2), (3, .int x3), (4, .int x4), (5, .int (nI k))] → W p l e R s m args below meth c H locs cells slots Q (F0 m 18 ls []) := by
  intro j
  induction j with
  | zero =>
    intro k hk H locs hP hD hS ls hl
    refine lv_iload hx hb dX1_put_18 (lv_at hl 5 rfl) ?_
    refine lv_bipush (v := nI 16) hx hb dX1_put_20 (by decide) ?_
    refine lv_icmp_ge (tgt := 93) hx hb dX1_put_22 (by decide) (fun _ => ?_) (fun h9 => absurd (nI_le (by omega) (by omega)) h9)
    have e : k = 16 := by omega
    subst e
    exact kk H locs hP hD hS ls (lv_sub hl [0] rfl)
  | succ j ih =>
    intro k hk H locs hP hD hS ls hl
    have tail : ∀ ls : Array Slot, lv_has ls 7 [(0, .ref h0), (1, .int x1), (2, .int x2), (3, .int x3), (4, .int x4), (5, .int (nI k))] → W p l e R s m args below meth c H locs cells slots Q (F0 m 59 ls [.int (sj_wd x1 x2 x3 x4 k)]) := by
      intro ls hl
      refine lv_istore (lv' := [(6, .int (sj_wd x1 x2 x3 x4 k)), (0, .ref h0), (1, .int x1), (2, .int x2), (3, .int x3), (4, .int x4), (5, .int (nI k))]) hx hb dX1_put_59 hl (by decide) rfl (fun ls hl => ?_)
      refine lv_aload_n hx hb dX1_put_61 rfl (lv_at hl 1 rfl) ?_
      refine va_get (D := D) (ci := 1) (v := .ref h1) (C := RX1) (T := TX1) (N := 2) hx hb hts in_X1 hown hK hP 0 rfl rfl 0 (by decide) (hts _ q135) (fun _ h9 => h9) rfl dX1_put_62 ?_
      refine lv_aload_n hx hb dX1_put_65 rfl (lv_at hl 1 rfl) ?_
      refine va_get (D := D) (ci := 1) (v := .int (nI n)) (C := RX1) (T := TX1) (N := 2) hx hb hts in_X1 hown hK hP 0 rfl rfl 1 (by decide) (hts _ q136) (fun _ h9 => h9) rfl dX1_put_66 ?_
      refine lv_iload hx hb dX1_put_69 (lv_at hl 6 rfl) ?_
      refine lv_iadd hx hb dX1_put_71 ?_
      refine sj_ti (nI (n + k)) (nI_add n k) ?_
      refine lv_iload hx hb dX1_put_72 (lv_at hl 0 rfl) ?_
      refine lv_bipush (v := nI 24) hx hb dX1_put_74 (by decide) ?_
      refine lv_bipush (v := nI 8) hx hb dX1_put_76 (by decide) ?_
      refine lv_iload hx hb dX1_put_78 (lv_at hl 6 rfl) ?_
      refine lv_iconst (v := 3) hx hb dX1_put_80 (by decide) ?_
      refine lv_iand hx hb dX1_put_81 ?_
      refine sj_ti (nI (k % 4)) (sj_k3 (by omega)) ?_
      refine lv_imul hx hb dX1_put_82 ?_
      refine sj_ti (nI (8 * (k % 4))) (pk_mul 8 _) ?_
      refine lv_isub hx hb dX1_put_83 ?_
      refine sj_ti (nI (24 - 8 * (k % 4))) (pk_sub (by omega)) ?_
      refine lv_iushr (v := ((sj_wd x1 x2 x3 x4 k).toUInt32 >>> ((nI (24 - 8 * (k % 4))).toUInt32 &&& Int32.toUInt32 31)).toInt32) hx hb dX1_put_84 (rfl) ?_
      refine lv_i2b (v := sj_bv x1 x2 x3 x4 k) hx hb dX1_put_85 (rfl) ?_
      refine sj_bast hx hb hK hP hD hS 1 0 rfl rfl (j := (n + k)) (by omega) (by decide) (g := sj_pw f n x1 x2 x3 x4 (k + 1)) (sj_pwS f n x1 x2 x3 x4 k) dX1_put_86 (fun H locs hP hD hS => ?_)
      have hP : va_P D vwCl [(h0, .inr (1, [.ref h1, .int (nI n)])), (h1, .inl (cB, 4096, .inl (sj_pw f n x1 x2 x3 x4 (k + 1))))] H := hP
      have hD : va_D A [(h0, .inr (1, [.ref h1, .int (nI n)])), (h1, .inl (cB, 4096, .inl (sj_pw f n x1 x2 x3 x4 (k + 1))))] := hD
      refine lv_iinc (v := nI (k + 1)) (lv' := [(5, .int (nI (k + 1))), (6, .int (sj_wd x1 x2 x3 x4 k)), (0, .ref h0), (1, .int x1), (2, .int x2), (3, .int x3), (4, .int x4)]) hx hb dX1_put_87 hl (k := 6) rfl (nI_1 k) (by decide) rfl (fun ls hl => ?_)
      refine lv_goto (tgt := 18) hx hb dX1_put_90 (by decide) ?_
      exact ih (k + 1) (by omega) H locs hP hD hS ls (lv_sub hl [2, 3, 4, 5, 6, 0] rfl)
    refine lv_iload hx hb dX1_put_18 (lv_at hl 5 rfl) ?_
    refine lv_bipush (v := nI 16) hx hb dX1_put_20 (by decide) ?_
    refine lv_icmp_ge (tgt := 93) hx hb dX1_put_22 (by decide) (fun h9 => absurd h9 (nI_ge (show k < 16 by omega) (by omega))) (fun _ => ?_)
    refine lv_iload hx hb dX1_put_25 (lv_at hl 5 rfl) ?_
    refine lv_iconst (v := nI 4) hx hb dX1_put_27 (by decide) ?_
    refine lv_icmp_ge (tgt := 35) hx hb dX1_put_28 (by decide) (fun c1 => ?_) (fun c1 => ?_)
    · have h4 : ¬ k < 4 := fun z9 => absurd c1 (nI_ge z9 (by omega))
      refine lv_iload hx hb dX1_put_35 (lv_at hl 5 rfl) ?_
      refine lv_bipush (v := nI 8) hx hb dX1_put_37 (by decide) ?_
      refine lv_icmp_ge (tgt := 46) hx hb dX1_put_39 (by decide) (fun c2 => ?_) (fun c2 => ?_)
      · have h8 : ¬ k < 8 := fun z9 => absurd c2 (nI_ge z9 (by omega))
        refine lv_iload hx hb dX1_put_46 (lv_at hl 5 rfl) ?_
        refine lv_bipush (v := nI 12) hx hb dX1_put_48 (by decide) ?_
        refine lv_icmp_ge (tgt := 57) hx hb dX1_put_50 (by decide) (fun c3 => ?_) (fun c3 => ?_)
        · have h12 : ¬ k < 12 := fun z9 => absurd c3 (nI_ge z9 (by omega))
          refine lv_iload hx hb dX1_put_57 (lv_at hl 4 rfl) ?_
          refine sj_ti (sj_wd x1 x2 x3 x4 k) (by unfold sj_wd; rw [if_neg h4, if_neg h8, if_neg h12]) ?_
          exact tail ls hl
        · have h12 : k < 12 := Nat.lt_of_not_le (fun z9 => c3 (nI_le z9 (by omega)))
          refine lv_iload_n hx hb dX1_put_53 rfl (lv_at hl 3 rfl) ?_
          refine lv_goto (tgt := 59) hx hb dX1_put_54 (by decide) ?_
          refine sj_ti (sj_wd x1 x2 x3 x4 k) (by unfold sj_wd; rw [if_neg h4, if_neg h8, if_pos h12]) ?_
          exact tail ls hl
      · have h8 : k < 8 := Nat.lt_of_not_le (fun z9 => c2 (nI_le z9 (by omega)))
        refine lv_iload_n hx hb dX1_put_42 rfl (lv_at hl 2 rfl) ?_
        refine lv_goto (tgt := 59) hx hb dX1_put_43 (by decide) ?_
        refine sj_ti (sj_wd x1 x2 x3 x4 k) (by unfold sj_wd; rw [if_neg h4, if_pos h8]) ?_
        exact tail ls hl
    · have h4 : k < 4 := Nat.lt_of_not_le (fun z9 => c1 (nI_le z9 (by omega)))
      refine lv_iload_n hx hb dX1_put_31 rfl (lv_at hl 1 rfl) ?_
      refine lv_goto (tgt := 59) hx hb dX1_put_32 (by decide) ?_
      refine sj_ti (sj_wd x1 x2 x3 x4 k) ((if_pos h4).symm) ?_
      exact tail ls hl
set_option maxHeartbeats 4000000 in
set_option maxRecDepth 100000 in
/-- put: sixteen bytes, if there is room -/
theorem met_X1_put (l : Launch) (D : va_G) (tb sz : Nat) (h0 h1 n : Nat) (cB : ClassId) (f : Nat → Int32) (x1 x2 x3 x4 : Int32) (hn : n ≤ 4096) : sj_MI l yX1_put cX1_put 7 .boolean ({ frames := 0, cells := 0, slots := 0, locals := 0 }) [.ref h0, .int x1, .int x2, .int x3, .int x4] D tb [(h0, .inr (1, [.ref h1, .int (nI n)])), (h1, .inl (cB, 4096, .inl f))] [(cB, .byte)] sz (sj_pR n) [(h0, .inr (1, [.ref h1, .int (nI (sj_pS n))])), (h1, .inl (cB, 4096, .inl (sj_pF f n x1 x2 x3 x4)))] 0 0 := by
  refine Met.ofW (cc := cX1_put) (maxL := 7) (ret := (some .boolean)) (by decide) rfl ?_
  intro p e s m args below meth c s₁ B hml hv
  obtain ⟨rfl, hsz, hP, hK, hD0, hT⟩ := hv
  have hx := B.exec
  have hb := B.bytes
  have hr := B.returns
  have hts := atoms_spec (ws := ws_ yX1_put cX1_put 7 (some .boolean)) B.pre
  have hts : ∀ w ∈ lw_all, w.before _ s = true := fun w h => hts w (List.mem_cons_of_mem _ h)
  have hown : s.vm.findClass RX1 = some m.cls := findClass_of_methodNamed B.named
  have hlocks := B.notSynchronized
  subst hsz
  have hD := hD0.self (sz := s.heap.size)
  generalize hAe : va_A [(h0, .inr (1, [.ref h1, .int (nI n)])), (h1, .inl (cB, 4096, .inl f))] s.heap.size = A at hD hT ⊢
  have hA : ∀ q : Nat, s.heap.size ≤ q → A q := fun q h => by rw [← hAe]; exact Or.inr h
  have hS : va_S A s.heap s.heap [] := va_S.rf
  have hP : va_P D vwCl [(h0, .inr (1, [.ref h1, .int (nI n)])), (h1, .inl (cB, 4096, .inl f))] s.heap := hP
  have hl := lv_entry ([.ref h0, .int x1, .int x2, .int x3, .int x4]) (n := 7) (Nat.le_of_ble_eq_true rfl)
  rw [lg_entry_eq]
  generalize (lg_sl ([.ref h0, .int x1, .int x2, .int x3, .int x4]) ++ List.replicate (7 - (lg_sl ([.ref h0, .int x1, .int x2, .int x3, .int x4])).length) Slot.unset).toArray = ls at hl ⊢
  have hl : lv_has ls 7 [(0, .ref h0), (1, .int x1), (2, .int x2), (3, .int x3), (4, .int x4)] := hl
  refine lv_aload_n hx hb dX1_put_0 rfl (lv_at hl 0 rfl) ?_
  refine va_get (D := D) (ci := 1) (v := .int (nI n)) (C := RX1) (T := TX1) (N := 2) hx hb hts in_X1 hown hK hP 0 rfl rfl 1 (by decide) (hts _ q136) (fun _ h9 => h9) rfl dX1_put_1 ?_
  refine lv_bipush (v := nI 16) hx hb dX1_put_4 (by decide) ?_
  refine lv_iadd hx hb dX1_put_6 ?_
  refine sj_ti (nI (n + 16)) (nI_add n 16) ?_
  refine lv_sipush (v := nI 4096) hx hb dX1_put_7 (by decide) ?_
  refine lv_icmp_le (tgt := 15) hx hb dX1_put_10 (by decide) (fun c0 => ?_) (fun c0 => ?_)
  · have hc : n ≤ 4080 := by
      have := (nI_leI (a := n + 16) (b := 4096) (by omega) (by decide)).mp c0
      omega
    refine lv_iconst (v := nI 0) hx hb dX1_put_15 (by decide) ?_
    refine lv_istore (lv' := [(5, .int (nI 0)), (0, .ref h0), (1, .int x1), (2, .int x2), (3, .int x3), (4, .int x4)]) hx hb dX1_put_16 hl (by decide) rfl (fun ls hl => ?_)
    refine lp_X1_put (h1 := h1) (f := f) hx hb hts hown hK n hc ?_ 16 0 (by decide) s.heap [] hP hD hS ls (lv_sub hl [1, 2, 3, 4, 5, 0] rfl)
    intro H locs hP hD hS ls hl
    refine lv_aload_n hx hb dX1_put_93 rfl (lv_at hl 0 rfl) ?_
    refine lv_aload_n hx hb dX1_put_94 rfl (lv_at hl 0 rfl) ?_
    refine va_get (D := D) (ci := 1) (v := .int (nI n)) (C := RX1) (T := TX1) (N := 2) hx hb hts in_X1 hown hK hP 0 rfl rfl 1 (by decide) (hts _ q136) (fun _ h9 => h9) rfl dX1_put_95 ?_
    refine lv_bipush (v := nI 16) hx hb dX1_put_98 (by decide) ?_
    refine lv_iadd hx hb dX1_put_100 ?_
    refine sj_ti (nI (n + 16)) (nI_add n 16) ?_
    refine va_put (D := D) (ci := 1) (v := .int (nI (n + 16))) (ty := .int) (C := RX1) (T := TX1) (N := 2) hx hb hts in_X1 tyX1 tyX1_ok nmX1 hown hK hP hD hS 0 rfl rfl 1 (by decide) (hts _ q136) (fun _ h9 => h9) rfl (by decide +kernel) rfl rfl (Nat.le_of_ble_eq_true rfl) dX1_put_101 (fun H locs hP hD hS => ?_)
    have hP : va_P D vwCl [(h0, .inr (1, [.ref h1, .int (nI (n + 16))])), (h1, .inl (cB, 4096, .inl (sj_pw f n x1 x2 x3 x4 16)))] H := hP
    have hD : va_D A [(h0, .inr (1, [.ref h1, .int (nI (n + 16))])), (h1, .inl (cB, 4096, .inl (sj_pw f n x1 x2 x3 x4 16)))] := hD
    refine lv_iconst (v := 1) hx hb dX1_put_104 (by decide) ?_
    have hS9 : sj_pS n = n + 16 := if_pos hc
    have hF9 : sj_pF f n x1 x2 x3 x4 = sj_pw f n x1 x2 x3 x4 16 := if_pos hc
    have hP9 : va_P D vwCl [(h0, .inr (1, [.ref h1, .int (nI (sj_pS n))])), (h1, .inl (cB, 4096, .inl (sj_pF f n x1 x2 x3 x4)))] H := by
      rw [hS9, hF9]
      exact hP
    have hD9 : va_D A [(h0, .inr (1, [.ref h1, .int (nI (sj_pS n))])), (h1, .inl (cB, 4096, .inl (sj_pF f n x1 x2 x3 x4)))] := by
      rw [hS9, hF9]
      exact hD
    exact W.zret (v := 1) hx hb hr rfl (fun t ht hW => ⟨⟨1, (), rfl, (if_pos hc).symm, by rw [ht]; exact hP9, hD9⟩, hS.F ht⟩) hS.2.2 dX1_put_105
  · have hc : ¬ n ≤ 4080 := fun z9 => c0 ((nI_leI (a := n + 16) (b := 4096) (by omega) (by decide)).mpr (by omega))
    refine lv_iconst (v := 0) hx hb dX1_put_13 (by decide) ?_
    have hS9 : sj_pS n = n := if_neg hc
    have hF9 : sj_pF f n x1 x2 x3 x4 = f := if_neg hc
    have hP9 : va_P D vwCl [(h0, .inr (1, [.ref h1, .int (nI (sj_pS n))])), (h1, .inl (cB, 4096, .inl (sj_pF f n x1 x2 x3 x4)))] s.heap := by
      rw [hS9, hF9]
      exact hP
    have hD9 : va_D A [(h0, .inr (1, [.ref h1, .int (nI (sj_pS n))])), (h1, .inl (cB, 4096, .inl (sj_pF f n x1 x2 x3 x4)))] := by
      rw [hS9, hF9]
      exact hD
    exact W.zret (v := 0) hx hb hr rfl (fun t ht hW => ⟨⟨0, (), rfl, (if_neg hc).symm, by rw [ht]; exact hP9, hD9⟩, hS.F ht⟩) hS.2.2 dX1_put_14
end
section
/-! SumJoinModel: sum, crc, adler, joinCrc, joinAdler -/
set_option maxRecDepth 100000
set_option maxHeartbeats 4000000 in
set_option maxRecDepth 100000 in
/-- sum: the bits of a byte, step k -/
theorem lp_X1_bits {p : Program} {l : Launch} {e : Env} {R : Room} {s : State} {m : MethodId} {args : Array Value} {below : List Frame} {meth : Method} {c : Code} {cells slots : Nat} {Q : State → Prop} {H : Heap} {locs : List Loc} {h0 : Nat} {y2 y3 y5 : Int32} (hx : p.tables.exec = Jvm.exec) (hb : c.code = cX1_sum) (hts : ∀ w ∈ lw_all, w.before args s = true) (hown : s.vm.findClass RX1 = some m.cls) (X : BitVec 32)
    (kk : ∀ ls : Array Slot, lv_has ls 9 [(0, .ref h0), (2, .int y2), (3, .int y3), (4, .int (sj_i (sj_cn 8 X))), (5, .int y5)] → W p l e R s m args below meth c H locs cells slots Q (F0 m 70 ls [])) :
    ∀ (j k : Nat), k + j = 8 → ∀ ls : Array Slot, lv_has ls 9 [(0, .ref h0), (2, .int y2), (3, .int y3), (4, .int (sj_i (sj_cn k X))), (5, .int y5), (6, .int (nI k))] → W p l e R s m args below meth c H locs cells slots Q (F0 m 37 ls []) := by
  intro j
  induction j with
  | zero =>
    intro k hk ls hl
    refine lv_iload hx hb dX1_sum_37 (lv_at hl 5 rfl) ?_
    refine lv_bipush (v := nI 8) hx hb dX1_sum_39 (by decide) ?_
    refine lv_icmp_ge (tgt := 70) hx hb dX1_sum_41 (by decide) (fun _ => ?_) (fun h9 => absurd (nI_le (by omega) (by omega)) h9)
    have e : k = 8 := by omega
    subst e
    exact kk ls (lv_sub hl [0, 1, 2, 3, 4] rfl)
  | succ j ih =>
    intro k hk ls hl
    refine lv_iload hx hb dX1_sum_37 (lv_at hl 5 rfl) ?_
    refine lv_bipush (v := nI 8) hx hb dX1_sum_39 (by decide) ?_
    refine lv_icmp_ge (tgt := 70) hx hb dX1_sum_41 (by decide) (fun h9 => absurd h9 (nI_ge (show k < 8 by omega) (by omega))) (fun _ => ?_)
    refine lv_iload hx hb dX1_sum_44 (lv_at hl 3 rfl) ?_
    refine lv_iconst (v := 1) hx hb dX1_sum_46 (by decide) ?_
    refine lv_iushr (v := sj_i (sj_cn k X >>> 1)) hx hb dX1_sum_47 (sj_us1 _) ?_
    refine lv_iload hx hb dX1_sum_48 (lv_at hl 3 rfl) ?_
    refine lv_iconst (v := 1) hx hb dX1_sum_50 (by decide) ?_
    refine lv_iand hx hb dX1_sum_51 ?_
    refine lv_if_eq (tgt := 60) hx hb dX1_sum_52 (by decide) (fun c1 => ?_) (fun c1 => ?_)
    · refine lv_iconst (v := 0) hx hb dX1_sum_60 (by decide) ?_
      refine lv_ixor hx hb dX1_sum_61 ?_
      refine sj_ti (sj_i (sj_cn (k + 1) X)) ((sj_stepF c1).trans (by rw [← sj_cn_s])) ?_
      refine lv_istore (lv' := [(4, .int (sj_i (sj_cn (k + 1) X))), (0, .ref h0), (2, .int y2), (3, .int y3), (5, .int y5), (6, .int (nI k))]) hx hb dX1_sum_62 hl (by decide) rfl (fun ls hl => ?_)
      refine lv_iinc (v := nI (k + 1)) (lv' := [(6, .int (nI (k + 1))), (4, .int (sj_i (sj_cn (k + 1) X))), (0, .ref h0), (2, .int y2), (3, .int y3), (5, .int y5)]) hx hb dX1_sum_64 hl (k := 5) rfl (nI_1 k) (by decide) rfl (fun ls hl => ?_)
      refine lv_goto (tgt := 37) hx hb dX1_sum_67 (by decide) ?_
      exact ih (k + 1) (by omega) ls (lv_sub hl [2, 3, 4, 1, 5, 0] rfl)
    · refine lv_ldc hx hb hown (hts _ q171) dX1_sum_55 ?_
      refine lv_goto (tgt := 61) hx hb dX1_sum_57 (by decide) ?_
      refine lv_ixor hx hb dX1_sum_61 ?_
      refine sj_ti (sj_i (sj_cn (k + 1) X)) ((sj_stepT c1).trans (by rw [← sj_cn_s])) ?_
      refine lv_istore (lv' := [(4, .int (sj_i (sj_cn (k + 1) X))), (0, .ref h0), (2, .int y2), (3, .int y3), (5, .int y5), (6, .int (nI k))]) hx hb dX1_sum_62 hl (by decide) rfl (fun ls hl => ?_)
      refine lv_iinc (v := nI (k + 1)) (lv' := [(6, .int (nI (k + 1))), (4, .int (sj_i (sj_cn (k + 1) X))), (0, .ref h0), (2, .int y2), (3, .int y3), (5, .int y5)]) hx hb dX1_sum_64 hl (k := 5) rfl (nI_1 k) (by decide) rfl (fun ls hl => ?_)
      refine lv_goto (tgt := 37) hx hb dX1_sum_67 (by decide) ?_
      exact ih (k + 1) (by omega) ls (lv_sub hl [2, 3, 4, 1, 5, 0] rfl)
set_option maxHeartbeats 4000000 in
set_option maxRecDepth 100000 in
/-- sum(true): the loop at byte i -/
theorem lp_X1_crc {p : Program} {l : Launch} {e : Env} {R : Room} {s : State} {m : MethodId} {args : Array Value} {below : List Frame} {meth : Method} {c : Code} {cells slots : Nat} {Q : State → Prop} {D : va_G} {H : Heap} {locs : List Loc} {h0 h1 : Nat} {z : Int32} {cB : ClassId} {f : Nat → Int32} (hx : p.tables.exec = Jvm.exec) (hb : c.code = cX1_sum) (hts : ∀ w ∈ lw_all, w.before args s = true) (hown : s.vm.findClass RX1 = some m.cls) (hK : va_K D vwCl [(cB, .byte)] s) (hP : va_P D vwCl [(h0, .inr (1, [.ref h1, .int z])), (h1, .inl (cB, 4096, .inl f))] H) (p0 n : Nat) (hn : p0 + n ≤ 4096)
    (kk : ∀ ls : Array Slot, lv_has ls 9 [(4, .int (sj_i (sj_cf f p0 n sj_on)))] → W p l e R s m args below meth c H locs cells slots Q (F0 m 76 ls [])) :
    ∀ (k i : Nat), i + k = n → ∀ ls : Array Slot, lv_has ls 9 [(0, .ref h0), (2, .int (nI p0)), (3, .int (nI n)), (4, .int (sj_i (sj_cf f p0 i sj_on))), (5, .int (nI (p0 + i)))] → W p l e R s m args below meth c H locs cells slots Q (F0 m 10 ls []) := by
  intro k
  induction k with
  | zero =>
    intro i hi ls hl
    refine lv_iload hx hb dX1_sum_10 (lv_at hl 4 rfl) ?_
    refine lv_iload_n hx hb dX1_sum_12 rfl (lv_at hl 1 rfl) ?_
    refine lv_iload_n hx hb dX1_sum_13 rfl (lv_at hl 2 rfl) ?_
    refine lv_iadd hx hb dX1_sum_14 ?_
    refine sj_ti (nI (p0 + n)) (nI_add _ _) ?_
    refine lv_icmp_ge (tgt := 76) hx hb dX1_sum_15 (by decide) (fun _ => ?_) (fun h9 => absurd (nI_le (by omega) (by omega)) h9)
    have e : i = n := by omega
    subst e
    exact kk ls (lv_sub hl [3] rfl)
  | succ k ih =>
    intro i hi ls hl
    refine lv_iload hx hb dX1_sum_10 (lv_at hl 4 rfl) ?_
    refine lv_iload_n hx hb dX1_sum_12 rfl (lv_at hl 1 rfl) ?_
    refine lv_iload_n hx hb dX1_sum_13 rfl (lv_at hl 2 rfl) ?_
    refine lv_iadd hx hb dX1_sum_14 ?_
    refine sj_ti (nI (p0 + n)) (nI_add _ _) ?_
    refine lv_icmp_ge (tgt := 76) hx hb dX1_sum_15 (by decide) (fun h9 => absurd h9 (nI_ge (show p0 + i < p0 + n by omega) (by omega))) (fun _ => ?_)
    refine lv_iload hx hb dX1_sum_18 (lv_at hl 3 rfl) ?_
    refine lv_aload_n hx hb dX1_sum_20 rfl (lv_at hl 0 rfl) ?_
    refine va_get (D := D) (ci := 1) (v := .ref h1) (C := RX1) (T := TX1) (N := 2) hx hb hts in_X1 hown hK hP 0 rfl rfl 0 (by decide) (hts _ q135) (fun _ h9 => h9) rfl dX1_sum_21 ?_
    refine lv_iload hx hb dX1_sum_24 (lv_at hl 4 rfl) ?_
    refine sj_bald hx hb hK hP 1 0 rfl rfl (j := (p0 + i)) (by omega) (by decide) dX1_sum_26 ?_
    refine lv_sipush (v := 255) hx hb dX1_sum_27 (by decide) ?_
    refine lv_iand hx hb dX1_sum_30 ?_
    refine lv_ixor hx hb dX1_sum_31 ?_
    refine sj_ti (sj_i (sj_cn 0 (sj_cf f p0 i sj_on ^^^ ((f (p0 + i)).toBitVec &&& 255#32)))) (rfl) ?_
    refine lv_istore (lv' := [(4, .int (sj_i (sj_cn 0 (sj_cf f p0 i sj_on ^^^ ((f (p0 + i)).toBitVec &&& 255#32))))), (0, .ref h0), (2, .int (nI p0)), (3, .int (nI n)), (5, .int (nI (p0 + i)))]) hx hb dX1_sum_32 hl (by decide) rfl (fun ls hl => ?_)
    refine lv_iconst (v := nI 0) hx hb dX1_sum_34 (by decide) ?_
    refine lv_istore (lv' := [(6, .int (nI 0)), (4, .int (sj_i (sj_cn 0 (sj_cf f p0 i sj_on ^^^ ((f (p0 + i)).toBitVec &&& 255#32))))), (0, .ref h0), (2, .int (nI p0)), (3, .int (nI n)), (5, .int (nI (p0 + i)))]) hx hb dX1_sum_35 hl (by decide) rfl (fun ls hl => ?_)
    refine lp_X1_bits hx hb hts hown (sj_cf f p0 i sj_on ^^^ ((f (p0 + i)).toBitVec &&& 255#32)) ?_ 8 0 (by decide) ls (lv_sub hl [2, 3, 4, 1, 5, 0] rfl)
    intro ls hl
    refine lv_iinc (v := nI (p0 + (i + 1))) (lv' := [(5, .int (nI (p0 + (i + 1)))), (0, .ref h0), (2, .int (nI p0)), (3, .int (nI n)), (4, .int (sj_i (sj_cn 8 (sj_cf f p0 i sj_on ^^^ ((f (p0 + i)).toBitVec &&& 255#32)))))]) hx hb dX1_sum_70 hl (k := 4) rfl (nI_1 (p0 + i)) (by decide) rfl (fun ls hl => ?_)
    refine lv_goto (tgt := 10) hx hb dX1_sum_73 (by decide) ?_
    exact ih (i + 1) (by omega) ls (lv_sub hl [1, 2, 3, 4, 0] rfl)
set_option maxHeartbeats 4000000 in
set_option maxRecDepth 100000 in
/-- sum(true, p, n) -/
theorem met_X1_sumC (l : Launch) (D : va_G) (tb sz : Nat) (h0 h1 : Nat) (z : Int32) (cB : ClassId) (f : Nat → Int32) (p0 n : Nat) (hn : p0 + n ≤ 4096) : sj_ML l yX1_sum cX1_sum 9 ({ frames := 0, cells := 0, slots := 0, locals := 0 }) [.ref h0, .int 1, .int (nI p0), .int (nI n)] D tb [(h0, .inr (1, [.ref h1, .int z])), (h1, .inl (cB, 4096, .inl f))] [(cB, .byte)] sz (sj_l (sj_cv f p0 n)) [(h0, .inr (1, [.ref h1, .int z])), (h1, .inl (cB, 4096, .inl f))] 0 0 := by
  refine Met.ofW (cc := cX1_sum) (maxL := 9) (ret := (some .long)) (by decide) rfl ?_
  intro p e s m args below meth c s₁ B hml hv
  obtain ⟨rfl, hsz, hP, hK, hD0, hT⟩ := hv
  have hx := B.exec
  have hb := B.bytes
  have hr := B.returns
  have hts := atoms_spec (ws := ws_ yX1_sum cX1_sum 9 (some .long)) B.pre
  have hts : ∀ w ∈ lw_all, w.before _ s = true := fun w h => hts w (List.mem_cons_of_mem _ h)
  have hown : s.vm.findClass RX1 = some m.cls := findClass_of_methodNamed B.named
  have hlocks := B.notSynchronized
  subst hsz
  have hD := hD0.self (sz := s.heap.size)
  generalize hAe : va_A [(h0, .inr (1, [.ref h1, .int z])), (h1, .inl (cB, 4096, .inl f))] s.heap.size = A at hD hT ⊢
  have hA : ∀ q : Nat, s.heap.size ≤ q → A q := fun q h => by rw [← hAe]; exact Or.inr h
  have hS : va_S A s.heap s.heap [] := va_S.rf
  have hP : va_P D vwCl [(h0, .inr (1, [.ref h1, .int z])), (h1, .inl (cB, 4096, .inl f))] s.heap := hP
  have hl := lv_entry ([.ref h0, .int 1, .int (nI p0), .int (nI n)]) (n := 9) (Nat.le_of_ble_eq_true rfl)
  rw [lg_entry_eq]
  generalize (lg_sl ([.ref h0, .int 1, .int (nI p0), .int (nI n)]) ++ List.replicate (9 - (lg_sl ([.ref h0, .int 1, .int (nI p0), .int (nI n)])).length) Slot.unset).toArray = ls at hl ⊢
  have hl : lv_has ls 9 [(0, .ref h0), (1, .int 1), (2, .int (nI p0)), (3, .int (nI n))] := hl
  refine lv_iload_n hx hb dX1_sum_0 rfl (lv_at hl 1 rfl) ?_
  refine lv_if_eq (tgt := 86) hx hb dX1_sum_1 (by decide) (fun h9 => absurd h9 (by decide)) (fun _ => ?_)
  refine lv_iconst (v := -1) hx hb dX1_sum_4 (by decide) ?_
  refine sj_ti (sj_i (sj_cf f p0 0 sj_on)) (show (-1 : Int32) = sj_i sj_on from by decide) ?_
  refine lv_istore (lv' := [(4, .int (sj_i (sj_cf f p0 0 sj_on))), (0, .ref h0), (1, .int 1), (2, .int (nI p0)), (3, .int (nI n))]) hx hb dX1_sum_5 hl (by decide) rfl (fun ls hl => ?_)
  refine lv_iload_n hx hb dX1_sum_7 rfl (lv_at hl 3 rfl) ?_
  refine lv_istore (lv' := [(5, .int (nI p0)), (4, .int (sj_i (sj_cf f p0 0 sj_on))), (0, .ref h0), (1, .int 1), (2, .int (nI p0)), (3, .int (nI n))]) hx hb dX1_sum_8 hl (by decide) rfl (fun ls hl => ?_)
  refine lp_X1_crc hx hb hts hown hK hP p0 n hn ?_ n 0 (Nat.zero_add n) ls (lv_sub hl [2, 4, 5, 1, 0] rfl)
  intro ls hl
  refine lv_iload hx hb dX1_sum_76 (lv_at hl 0 rfl) ?_
  refine lv_iconst (v := -1) hx hb dX1_sum_78 (by decide) ?_
  refine lv_ixor hx hb dX1_sum_79 ?_
  refine sj_ti (sj_i (sj_cv f p0 n)) (rfl) ?_
  refine lv_i2l (v := (sj_i (sj_cv f p0 n)).toInt64) hx hb dX1_sum_80 (rfl) ?_
  refine lv_ldc2 hx hb hown (hts _ q172) dX1_sum_81 ?_
  refine lv_land hx hb dX1_sum_84 ?_
  refine sj_tl (sj_l (sj_cv f p0 n)) (sj_gv _) ?_
  have hP9 := hP.sub (ws' := [(h0, .inr (1, [.ref h1, .int z])), (h1, .inl (cB, 4096, .inl f))]) [0, 1] rfl
  have hD9 := hD.sub (ws' := [(h0, .inr (1, [.ref h1, .int z])), (h1, .inl (cB, 4096, .inl f))]) [0, 1] (by decide) rfl
  exact W.lret (v := sj_l (sj_cv f p0 n)) hx hb hr (fun t ht hW => ⟨⟨sj_l (sj_cv f p0 n), (), rfl, rfl, by rw [ht]; exact hP9, hD9⟩, hS.F ht⟩) hS.2.2 dX1_sum_85
set_option maxHeartbeats 4000000 in
set_option maxRecDepth 100000 in
/-- sum(false): the loop at byte i -/
theorem lp_X1_adl {p : Program} {l : Launch} {e : Env} {R : Room} {s : State} {m : MethodId} {args : Array Value} {below : List Frame} {meth : Method} {c : Code} {cells slots : Nat} {Q : State → Prop} {D : va_G} {H : Heap} {locs : List Loc} {h0 h1 : Nat} {z : Int32} {cB : ClassId} {f : Nat → Int32} (hx : p.tables.exec = Jvm.exec) (hb : c.code = cX1_sum) (hts : ∀ w ∈ lw_all, w.before args s = true) (hown : s.vm.findClass RX1 = some m.cls) (hK : va_K D vwCl [(cB, .byte)] s) (hP : va_P D vwCl [(h0, .inr (1, [.ref h1, .int z])), (h1, .inl (cB, 4096, .inl f))] H) (p0 n : Nat) (hn : p0 + n ≤ 4096)
    (kk : ∀ ls : Array Slot, lv_has ls 9 [(4, .long (lN (sj_uA f p0 n % 65521))), (6, .long (lN (sj_uB f p0 n % 65521)))] → W p l e R s m args below meth c H locs cells slots Q (F0 m 141 ls [])) :
    ∀ (k i : Nat), i + k = n → ∀ ls : Array Slot, lv_has ls 9 [(0, .ref h0), (2, .int (nI p0)), (3, .int (nI n)), (4, .long (lN (sj_uA f p0 i % 65521))), (6, .long (lN (sj_uB f p0 i % 65521))), (8, .int (nI (p0 + i)))] → W p l e R s m args below meth c H locs cells slots Q (F0 m 95 ls []) := by
  intro k
  induction k with
  | zero =>
    intro i hi ls hl
    refine lv_iload hx hb dX1_sum_95 (lv_at hl 5 rfl) ?_
    refine lv_iload_n hx hb dX1_sum_97 rfl (lv_at hl 1 rfl) ?_
    refine lv_iload_n hx hb dX1_sum_98 rfl (lv_at hl 2 rfl) ?_
    refine lv_iadd hx hb dX1_sum_99 ?_
    refine sj_ti (nI (p0 + n)) (nI_add _ _) ?_
    refine lv_icmp_ge (tgt := 141) hx hb dX1_sum_100 (by decide) (fun _ => ?_) (fun h9 => absurd (nI_le (by omega) (by omega)) h9)
    have e : i = n := by omega
    subst e
    exact kk ls (lv_sub hl [3, 4] rfl)
  | succ k ih =>
    intro i hi ls hl
    refine lv_iload hx hb dX1_sum_95 (lv_at hl 5 rfl) ?_
    refine lv_iload_n hx hb dX1_sum_97 rfl (lv_at hl 1 rfl) ?_
    refine lv_iload_n hx hb dX1_sum_98 rfl (lv_at hl 2 rfl) ?_
    refine lv_iadd hx hb dX1_sum_99 ?_
    refine sj_ti (nI (p0 + n)) (nI_add _ _) ?_
    refine lv_icmp_ge (tgt := 141) hx hb dX1_sum_100 (by decide) (fun h9 => absurd h9 (nI_ge (show p0 + i < p0 + n by omega) (by omega))) (fun _ => ?_)
    refine lv_lload hx hb dX1_sum_103 (lv_at hl 3 rfl) ?_
    refine lv_aload_n hx hb dX1_sum_105 rfl (lv_at hl 0 rfl) ?_
    refine va_get (D := D) (ci := 1) (v := .ref h1) (C := RX1) (T := TX1) (N := 2) hx hb hts in_X1 hown hK hP 0 rfl rfl 0 (by decide) (hts _ q135) (fun _ h9 => h9) rfl dX1_sum_106 ?_
    refine lv_iload hx hb dX1_sum_109 (lv_at hl 5 rfl) ?_
    refine sj_bald hx hb hK hP 1 0 rfl rfl (j := (p0 + i)) (by omega) (by decide) dX1_sum_111 ?_
    refine lv_sipush (v := 255) hx hb dX1_sum_112 (by decide) ?_
    refine lv_iand hx hb dX1_sum_115 ?_
    refine sj_ti (nI (sj_by f (p0 + i))) (sj_byI f _) ?_
    refine lv_i2l (v := lN (sj_by f (p0 + i))) hx hb dX1_sum_116 (sj_byL f _) ?_
    refine lv_ladd hx hb dX1_sum_117 ?_
    refine sj_tl (lN (sj_uA f p0 i % 65521 + sj_by f (p0 + i))) (lN_add _ _) ?_
    refine lv_ldc2 hx hb hown (hts _ q173) dX1_sum_118 ?_
    refine sj_tl (lN 65521) (rfl) ?_
    refine lv_lrem hx hb dX1_sum_121 (by decide) ?_
    refine sj_tl (lN (sj_uA f p0 (i + 1) % 65521)) (sj_mA f p0 i (by omega)) ?_
    refine lv_lstore (lv' := [(4, .long (lN (sj_uA f p0 (i + 1) % 65521))), (0, .ref h0), (2, .int (nI p0)), (3, .int (nI n)), (6, .long (lN (sj_uB f p0 i % 65521))), (8, .int (nI (p0 + i)))]) hx hb dX1_sum_122 hl (by decide) rfl (fun ls hl => ?_)
    refine lv_lload hx hb dX1_sum_124 (lv_at hl 4 rfl) ?_
    refine lv_lload hx hb dX1_sum_126 (lv_at hl 0 rfl) ?_
    refine lv_ladd hx hb dX1_sum_128 ?_
    refine sj_tl (lN (sj_uB f p0 i % 65521 + sj_uA f p0 (i + 1) % 65521)) (lN_add _ _) ?_
    refine lv_ldc2 hx hb hown (hts _ q173) dX1_sum_129 ?_
    refine sj_tl (lN 65521) (rfl) ?_
    refine lv_lrem hx hb dX1_sum_132 (by decide) ?_
    refine sj_tl (lN (sj_uB f p0 (i + 1) % 65521)) (sj_mB f p0 i (by omega)) ?_
    refine lv_lstore (lv' := [(6, .long (lN (sj_uB f p0 (i + 1) % 65521))), (4, .long (lN (sj_uA f p0 (i + 1) % 65521))), (0, .ref h0), (2, .int (nI p0)), (3, .int (nI n)), (8, .int (nI (p0 + i)))]) hx hb dX1_sum_133 hl (by decide) rfl (fun ls hl => ?_)
    refine lv_iinc (v := nI (p0 + (i + 1))) (lv' := [(8, .int (nI (p0 + (i + 1)))), (6, .long (lN (sj_uB f p0 (i + 1) % 65521))), (4, .long (lN (sj_uA f p0 (i + 1) % 65521))), (0, .ref h0), (2, .int (nI p0)), (3, .int (nI n))]) hx hb dX1_sum_135 hl (k := 5) rfl (nI_1 (p0 + i)) (by decide) rfl (fun ls hl => ?_)
    refine lv_goto (tgt := 95) hx hb dX1_sum_138 (by decide) ?_
    exact ih (i + 1) (by omega) ls (lv_sub hl [3, 4, 5, 2, 1, 0] rfl)
set_option maxHeartbeats 4000000 in
set_option maxRecDepth 100000 in
/-- sum(false, p, n) -/
theorem met_X1_sumA (l : Launch) (D : va_G) (tb sz : Nat) (h0 h1 : Nat) (z : Int32) (cB : ClassId) (f : Nat → Int32) (p0 n : Nat) (hn : p0 + n ≤ 4096) : sj_ML l yX1_sum cX1_sum 9 ({ frames := 0, cells := 0, slots := 0, locals := 0 }) [.ref h0, .int 0, .int (nI p0), .int (nI n)] D tb [(h0, .inr (1, [.ref h1, .int z])), (h1, .inl (cB, 4096, .inl f))] [(cB, .byte)] sz (lN (sj_uB f p0 n % 65521 * 65536 + sj_uA f p0 n % 65521)) [(h0, .inr (1, [.ref h1, .int z])), (h1, .inl (cB, 4096, .inl f))] 0 0 := by
  refine Met.ofW (cc := cX1_sum) (maxL := 9) (ret := (some .long)) (by decide) rfl ?_
  intro p e s m args below meth c s₁ B hml hv
  obtain ⟨rfl, hsz, hP, hK, hD0, hT⟩ := hv
  have hx := B.exec
  have hb := B.bytes
  have hr := B.returns
  have hts := atoms_spec (ws := ws_ yX1_sum cX1_sum 9 (some .long)) B.pre
  have hts : ∀ w ∈ lw_all, w.before _ s = true := fun w h => hts w (List.mem_cons_of_mem _ h)
  have hown : s.vm.findClass RX1 = some m.cls := findClass_of_methodNamed B.named
  have hlocks := B.notSynchronized
  subst hsz
  have hD := hD0.self (sz := s.heap.size)
  generalize hAe : va_A [(h0, .inr (1, [.ref h1, .int z])), (h1, .inl (cB, 4096, .inl f))] s.heap.size = A at hD hT ⊢
  have hA : ∀ q : Nat, s.heap.size ≤ q → A q := fun q h => by rw [← hAe]; exact Or.inr h
  have hS : va_S A s.heap s.heap [] := va_S.rf
  have hP : va_P D vwCl [(h0, .inr (1, [.ref h1, .int z])), (h1, .inl (cB, 4096, .inl f))] s.heap := hP
  have hl := lv_entry ([.ref h0, .int 0, .int (nI p0), .int (nI n)]) (n := 9) (Nat.le_of_ble_eq_true rfl)
  rw [lg_entry_eq]
  generalize (lg_sl ([.ref h0, .int 0, .int (nI p0), .int (nI n)]) ++ List.replicate (9 - (lg_sl ([.ref h0, .int 0, .int (nI p0), .int (nI n)])).length) Slot.unset).toArray = ls at hl ⊢
  have hl : lv_has ls 9 [(0, .ref h0), (1, .int 0), (2, .int (nI p0)), (3, .int (nI n))] := hl
  have hma : sj_uA f p0 n % 65521 < 65536 := Nat.lt_trans (Nat.mod_lt _ (by decide)) (by decide)
  have hmb : sj_uB f p0 n % 65521 < 65536 := Nat.lt_trans (Nat.mod_lt _ (by decide)) (by decide)
  refine lv_iload_n hx hb dX1_sum_0 rfl (lv_at hl 1 rfl) ?_
  refine lv_if_eq (tgt := 86) hx hb dX1_sum_1 (by decide) (fun _ => ?_) (fun h9 => absurd (by decide) h9)
  refine lv_lconst (v := 1) hx hb dX1_sum_86 (by decide) ?_
  refine sj_tl (lN (sj_uA f p0 0 % 65521)) (rfl) ?_
  refine lv_lstore (lv' := [(4, .long (lN (sj_uA f p0 0 % 65521))), (0, .ref h0), (1, .int 0), (2, .int (nI p0)), (3, .int (nI n))]) hx hb dX1_sum_87 hl (by decide) rfl (fun ls hl => ?_)
  refine lv_lconst (v := 0) hx hb dX1_sum_89 (by decide) ?_
  refine sj_tl (lN (sj_uB f p0 0 % 65521)) (rfl) ?_
  refine lv_lstore (lv' := [(6, .long (lN (sj_uB f p0 0 % 65521))), (4, .long (lN (sj_uA f p0 0 % 65521))), (0, .ref h0), (1, .int 0), (2, .int (nI p0)), (3, .int (nI n))]) hx hb dX1_sum_90 hl (by decide) rfl (fun ls hl => ?_)
  refine lv_iload_n hx hb dX1_sum_92 rfl (lv_at hl 4 rfl) ?_
  refine lv_istore (lv' := [(8, .int (nI p0)), (6, .long (lN (sj_uB f p0 0 % 65521))), (4, .long (lN (sj_uA f p0 0 % 65521))), (0, .ref h0), (1, .int 0), (2, .int (nI p0)), (3, .int (nI n))]) hx hb dX1_sum_93 hl (by decide) rfl (fun ls hl => ?_)
  refine lp_X1_adl hx hb hts hown hK hP p0 n hn ?_ n 0 (Nat.zero_add n) ls (lv_sub hl [3, 5, 6, 2, 1, 0] rfl)
  intro ls hl
  refine lv_lload hx hb dX1_sum_141 (lv_at hl 1 rfl) ?_
  refine lv_bipush (v := 16) hx hb dX1_sum_143 (by decide) ?_
  refine lv_lshl (v := lN (sj_uB f p0 n % 65521 * 65536)) hx hb dX1_sum_145 (sj_shl16 _) ?_
  refine lv_lload hx hb dX1_sum_146 (lv_at hl 0 rfl) ?_
  refine lv_lor hx hb dX1_sum_148 ?_
  refine sj_tl (lN (sj_uB f p0 n % 65521 * 65536 + sj_uA f p0 n % 65521)) (sj_or16 hma hmb) ?_
  have hP9 := hP.sub (ws' := [(h0, .inr (1, [.ref h1, .int z])), (h1, .inl (cB, 4096, .inl f))]) [0, 1] rfl
  have hD9 := hD.sub (ws' := [(h0, .inr (1, [.ref h1, .int z])), (h1, .inl (cB, 4096, .inl f))]) [0, 1] (by decide) rfl
  exact W.lret (v := lN (sj_uB f p0 n % 65521 * 65536 + sj_uA f p0 n % 65521)) hx hb hr (fun t ht hW => ⟨⟨lN (sj_uB f p0 n % 65521 * 65536 + sj_uA f p0 n % 65521), (), rfl, rfl, by rw [ht]; exact hP9, hD9⟩, hS.F ht⟩) hS.2.2 dX1_sum_149
set_option maxHeartbeats 4000000 in
set_option maxRecDepth 100000 in
/-- crc(at, n) -/
theorem met_X1_crc (l : Launch) (D : va_G) (tb sz : Nat) (h0 h1 n : Nat) (cB : ClassId) (f : Nat → Int32) (x y : Int32) (hn : n ≤ 4096) : sj_ML l yX1_crc cX1_crc 4 ({ frames := 1, cells := 0, slots := 0, locals := 28 }) [.ref h0, .int x, .int y] D tb [(h0, .inr (1, [.ref h1, .int (nI n)])), (h1, .inl (cB, 4096, .inl f))] [(cB, .byte)] sz (sj_l (sj_cv f (sj_fr x n) (sj_fr y (n - sj_fr x n)))) [(h0, .inr (1, [.ref h1, .int (nI n)])), (h1, .inl (cB, 4096, .inl f))] 0 0 := by
  refine Met.ofW (cc := cX1_crc) (maxL := 4) (ret := (some .long)) (by decide) rfl ?_
  intro p e s m args below meth c s₁ B hml hv
  obtain ⟨rfl, hsz, hP, hK, hD0, hT⟩ := hv
  have hx := B.exec
  have hb := B.bytes
  have hr := B.returns
  have hts := atoms_spec (ws := ws_ yX1_crc cX1_crc 4 (some .long)) B.pre
  have hts : ∀ w ∈ lw_all, w.before _ s = true := fun w h => hts w (List.mem_cons_of_mem _ h)
  have hown : s.vm.findClass RX1 = some m.cls := findClass_of_methodNamed B.named
  have hlocks := B.notSynchronized
  subst hsz
  have hD := hD0.self (sz := s.heap.size)
  generalize hAe : va_A [(h0, .inr (1, [.ref h1, .int (nI n)])), (h1, .inl (cB, 4096, .inl f))] s.heap.size = A at hD hT ⊢
  have hA : ∀ q : Nat, s.heap.size ≤ q → A q := fun q h => by rw [← hAe]; exact Or.inr h
  have hS : va_S A s.heap s.heap [] := va_S.rf
  have hP : va_P D vwCl [(h0, .inr (1, [.ref h1, .int (nI n)])), (h1, .inl (cB, 4096, .inl f))] s.heap := hP
  have hl := lv_entry ([.ref h0, .int x, .int y]) (n := 4) (Nat.le_of_ble_eq_true rfl)
  rw [lg_entry_eq]
  generalize (lg_sl ([.ref h0, .int x, .int y]) ++ List.replicate (4 - (lg_sl ([.ref h0, .int x, .int y])).length) Slot.unset).toArray = ls at hl ⊢
  have hl : lv_has ls 4 [(0, .ref h0), (1, .int x), (2, .int y)] := hl
  have hp := sj_fr_le x n
  have hpn := sj_fr2 x y n hn
  refine lv_aload_n hx hb dX1_crc_0 rfl (lv_at hl 0 rfl) ?_
  refine lv_iload_n hx hb dX1_crc_1 rfl (lv_at hl 1 rfl) ?_
  refine sj_ci_ (wr := [(h1, .inl (cB, 4096, .inl f))]) (w1 := [(h0, .inr (1, [.ref h1, .int (nI n)]))]) (wf := [(h0, .inr (1, [.ref h1, .int (nI n)])), (h1, .inl (cB, 4096, .inl f))]) (va_runV (As := [.int x]) (rest := []) ⟨hx, hb, hml, hown, hts⟩ (met_X1_first l D tb _ h0 h1 n x hn) (cwV 1 hts (lw_V q150 q152 qs3 q8 q153) rfl rfl rfl (by decide +kernel) ⟨Nat.le_of_ble_eq_true rfl, Nat.le_of_ble_eq_true rfl⟩) (sj_preV hK hP hD hS hA hT [0] rfl rfl (by decide) [] rfl (ci := 1) (q0 := 0) rfl rfl) rfl rfl hl.1 rfl (lv_room (Nat.le_of_ble_eq_true rfl)) dX1_crc_2 ⟨Nat.le_of_ble_eq_true rfl, Nat.le_of_ble_eq_true rfl⟩) hP hD hS hA [0] [1] rfl rfl (by decide) (by decide) [1, 0] rfl rfl (by decide) (fun H locs hP hD hS => ?_)
  refine lv_istore_n (lv' := [(3, .int (nI (sj_fr x n))), (0, .ref h0), (1, .int x), (2, .int y)]) hx hb dX1_crc_5 rfl hl (by decide) rfl (fun ls hl => ?_)
  refine lv_aload_n hx hb dX1_crc_6 rfl (lv_at hl 1 rfl) ?_
  refine lv_iconst (v := 1) hx hb dX1_crc_7 (by decide) ?_
  refine lv_iload_n hx hb dX1_crc_8 rfl (lv_at hl 0 rfl) ?_
  refine lv_aload_n hx hb dX1_crc_9 rfl (lv_at hl 1 rfl) ?_
  refine lv_iload_n hx hb dX1_crc_10 rfl (lv_at hl 0 rfl) ?_
  refine lv_iload_n hx hb dX1_crc_11 rfl (lv_at hl 3 rfl) ?_
  refine sj_ci_ (wr := [(h1, .inl (cB, 4096, .inl f))]) (w1 := [(h0, .inr (1, [.ref h1, .int (nI n)]))]) (wf := [(h0, .inr (1, [.ref h1, .int (nI n)])), (h1, .inl (cB, 4096, .inl f))]) (va_runV (As := [.int (nI (sj_fr x n)), .int y]) (rest := [.int (nI (sj_fr x n)), .int 1, .ref h0]) ⟨hx, hb, hml, hown, hts⟩ (met_X1_many l D tb _ h0 h1 n (sj_fr x n) y hn hp) (cwV 2 hts (lw_V q163 q165 qs4 q8 q166) rfl rfl rfl (by decide +kernel) ⟨Nat.le_of_ble_eq_true rfl, Nat.le_of_ble_eq_true rfl⟩) (sj_preV hK hP hD hS hA hT [0] rfl rfl (by decide) [] rfl (ci := 1) (q0 := 0) rfl rfl) rfl rfl hl.1 rfl (lv_room (Nat.le_of_ble_eq_true rfl)) dX1_crc_12 ⟨Nat.le_of_ble_eq_true rfl, Nat.le_of_ble_eq_true rfl⟩) hP hD hS hA [0] [1] rfl rfl (by decide) (by decide) [1, 0] rfl rfl (by decide) (fun H locs hP hD hS => ?_)
  refine sj_cl_ (wr := []) (w1 := [(h0, .inr (1, [.ref h1, .int (nI n)])), (h1, .inl (cB, 4096, .inl f))]) (wf := [(h0, .inr (1, [.ref h1, .int (nI n)])), (h1, .inl (cB, 4096, .inl f))]) (va_runV (As := [.int 1, .int (nI (sj_fr x n)), .int (nI (sj_fr y (n - sj_fr x n)))]) (rest := []) ⟨hx, hb, hml, hown, hts⟩ (met_X1_sumC l D tb _ h0 h1 (nI n) cB f (sj_fr x n) (sj_fr y (n - sj_fr x n)) hpn) (cwV 3 hts (lw_V q167 q169 qs5 q8 q170) rfl rfl rfl (by decide +kernel) ⟨Nat.le_of_ble_eq_true rfl, Nat.le_of_ble_eq_true rfl⟩) (sj_preV hK hP hD hS hA hT [0, 1] rfl rfl (by decide) [0] rfl (ci := 1) (q0 := 0) rfl rfl) rfl rfl hl.1 rfl (lv_room (Nat.le_of_ble_eq_true rfl)) dX1_crc_15 ⟨Nat.le_of_ble_eq_true rfl, Nat.le_of_ble_eq_true rfl⟩) hP hD hS hA [0, 1] [] rfl rfl (by decide) (by decide) [0, 1] rfl rfl (by decide) (fun H locs hP hD hS => ?_)
  have hP9 := hP.sub (ws' := [(h0, .inr (1, [.ref h1, .int (nI n)])), (h1, .inl (cB, 4096, .inl f))]) [0, 1] rfl
  have hD9 := hD.sub (ws' := [(h0, .inr (1, [.ref h1, .int (nI n)])), (h1, .inl (cB, 4096, .inl f))]) [0, 1] (by decide) rfl
  exact W.lret (v := sj_l (sj_cv f (sj_fr x n) (sj_fr y (n - sj_fr x n)))) hx hb hr (fun t ht hW => ⟨⟨sj_l (sj_cv f (sj_fr x n) (sj_fr y (n - sj_fr x n))), (), rfl, rfl, by rw [ht]; exact hP9, hD9⟩, hS.F ht⟩) hS.2.2 dX1_crc_18
set_option maxHeartbeats 4000000 in
set_option maxRecDepth 100000 in
/-- adler(at, n) -/
theorem met_X1_adler (l : Launch) (D : va_G) (tb sz : Nat) (h0 h1 n : Nat) (cB : ClassId) (f : Nat → Int32) (x y : Int32) (hn : n ≤ 4096) : sj_ML l yX1_adler cX1_adler 4 ({ frames := 1, cells := 0, slots := 0, locals := 28 }) [.ref h0, .int x, .int y] D tb [(h0, .inr (1, [.ref h1, .int (nI n)])), (h1, .inl (cB, 4096, .inl f))] [(cB, .byte)] sz (lN (sj_av f (sj_fr x n) (sj_fr y (n - sj_fr x n)))) [(h0, .inr (1, [.ref h1, .int (nI n)])), (h1, .inl (cB, 4096, .inl f))] 0 0 := by
  refine Met.ofW (cc := cX1_adler) (maxL := 4) (ret := (some .long)) (by decide) rfl ?_
  intro p e s m args below meth c s₁ B hml hv
  obtain ⟨rfl, hsz, hP, hK, hD0, hT⟩ := hv
  have hx := B.exec
  have hb := B.bytes
  have hr := B.returns
  have hts := atoms_spec (ws := ws_ yX1_adler cX1_adler 4 (some .long)) B.pre
  have hts : ∀ w ∈ lw_all, w.before _ s = true := fun w h => hts w (List.mem_cons_of_mem _ h)
  have hown : s.vm.findClass RX1 = some m.cls := findClass_of_methodNamed B.named
  have hlocks := B.notSynchronized
  subst hsz
  have hD := hD0.self (sz := s.heap.size)
  generalize hAe : va_A [(h0, .inr (1, [.ref h1, .int (nI n)])), (h1, .inl (cB, 4096, .inl f))] s.heap.size = A at hD hT ⊢
  have hA : ∀ q : Nat, s.heap.size ≤ q → A q := fun q h => by rw [← hAe]; exact Or.inr h
  have hS : va_S A s.heap s.heap [] := va_S.rf
  have hP : va_P D vwCl [(h0, .inr (1, [.ref h1, .int (nI n)])), (h1, .inl (cB, 4096, .inl f))] s.heap := hP
  have hl := lv_entry ([.ref h0, .int x, .int y]) (n := 4) (Nat.le_of_ble_eq_true rfl)
  rw [lg_entry_eq]
  generalize (lg_sl ([.ref h0, .int x, .int y]) ++ List.replicate (4 - (lg_sl ([.ref h0, .int x, .int y])).length) Slot.unset).toArray = ls at hl ⊢
  have hl : lv_has ls 4 [(0, .ref h0), (1, .int x), (2, .int y)] := hl
  have hp := sj_fr_le x n
  have hpn := sj_fr2 x y n hn
  refine lv_aload_n hx hb dX1_adler_0 rfl (lv_at hl 0 rfl) ?_
  refine lv_iload_n hx hb dX1_adler_1 rfl (lv_at hl 1 rfl) ?_
  refine sj_ci_ (wr := [(h1, .inl (cB, 4096, .inl f))]) (w1 := [(h0, .inr (1, [.ref h1, .int (nI n)]))]) (wf := [(h0, .inr (1, [.ref h1, .int (nI n)])), (h1, .inl (cB, 4096, .inl f))]) (va_runV (As := [.int x]) (rest := []) ⟨hx, hb, hml, hown, hts⟩ (met_X1_first l D tb _ h0 h1 n x hn) (cwV 1 hts (lw_V q150 q152 qs3 q8 q153) rfl rfl rfl (by decide +kernel) ⟨Nat.le_of_ble_eq_true rfl, Nat.le_of_ble_eq_true rfl⟩) (sj_preV hK hP hD hS hA hT [0] rfl rfl (by decide) [] rfl (ci := 1) (q0 := 0) rfl rfl) rfl rfl hl.1 rfl (lv_room (Nat.le_of_ble_eq_true rfl)) dX1_adler_2 ⟨Nat.le_of_ble_eq_true rfl, Nat.le_of_ble_eq_true rfl⟩) hP hD hS hA [0] [1] rfl rfl (by decide) (by decide) [1, 0] rfl rfl (by decide) (fun H locs hP hD hS => ?_)
  refine lv_istore_n (lv' := [(3, .int (nI (sj_fr x n))), (0, .ref h0), (1, .int x), (2, .int y)]) hx hb dX1_adler_5 rfl hl (by decide) rfl (fun ls hl => ?_)
  refine lv_aload_n hx hb dX1_adler_6 rfl (lv_at hl 1 rfl) ?_
  refine lv_iconst (v := 0) hx hb dX1_adler_7 (by decide) ?_
  refine lv_iload_n hx hb dX1_adler_8 rfl (lv_at hl 0 rfl) ?_
  refine lv_aload_n hx hb dX1_adler_9 rfl (lv_at hl 1 rfl) ?_
  refine lv_iload_n hx hb dX1_adler_10 rfl (lv_at hl 0 rfl) ?_
  refine lv_iload_n hx hb dX1_adler_11 rfl (lv_at hl 3 rfl) ?_
  refine sj_ci_ (wr := [(h1, .inl (cB, 4096, .inl f))]) (w1 := [(h0, .inr (1, [.ref h1, .int (nI n)]))]) (wf := [(h0, .inr (1, [.ref h1, .int (nI n)])), (h1, .inl (cB, 4096, .inl f))]) (va_runV (As := [.int (nI (sj_fr x n)), .int y]) (rest := [.int (nI (sj_fr x n)), .int 0, .ref h0]) ⟨hx, hb, hml, hown, hts⟩ (met_X1_many l D tb _ h0 h1 n (sj_fr x n) y hn hp) (cwV 2 hts (lw_V q163 q165 qs4 q8 q166) rfl rfl rfl (by decide +kernel) ⟨Nat.le_of_ble_eq_true rfl, Nat.le_of_ble_eq_true rfl⟩) (sj_preV hK hP hD hS hA hT [0] rfl rfl (by decide) [] rfl (ci := 1) (q0 := 0) rfl rfl) rfl rfl hl.1 rfl (lv_room (Nat.le_of_ble_eq_true rfl)) dX1_adler_12 ⟨Nat.le_of_ble_eq_true rfl, Nat.le_of_ble_eq_true rfl⟩) hP hD hS hA [0] [1] rfl rfl (by decide) (by decide) [1, 0] rfl rfl (by decide) (fun H locs hP hD hS => ?_)
  refine sj_cl_ (wr := []) (w1 := [(h0, .inr (1, [.ref h1, .int (nI n)])), (h1, .inl (cB, 4096, .inl f))]) (wf := [(h0, .inr (1, [.ref h1, .int (nI n)])), (h1, .inl (cB, 4096, .inl f))]) (va_runV (As := [.int 0, .int (nI (sj_fr x n)), .int (nI (sj_fr y (n - sj_fr x n)))]) (rest := []) ⟨hx, hb, hml, hown, hts⟩ (met_X1_sumA l D tb _ h0 h1 (nI n) cB f (sj_fr x n) (sj_fr y (n - sj_fr x n)) hpn) (cwV 3 hts (lw_V q167 q169 qs5 q8 q170) rfl rfl rfl (by decide +kernel) ⟨Nat.le_of_ble_eq_true rfl, Nat.le_of_ble_eq_true rfl⟩) (sj_preV hK hP hD hS hA hT [0, 1] rfl rfl (by decide) [0] rfl (ci := 1) (q0 := 0) rfl rfl) rfl rfl hl.1 rfl (lv_room (Nat.le_of_ble_eq_true rfl)) dX1_adler_15 ⟨Nat.le_of_ble_eq_true rfl, Nat.le_of_ble_eq_true rfl⟩) hP hD hS hA [0, 1] [] rfl rfl (by decide) (by decide) [0, 1] rfl rfl (by decide) (fun H locs hP hD hS => ?_)
  have hP9 := hP.sub (ws' := [(h0, .inr (1, [.ref h1, .int (nI n)])), (h1, .inl (cB, 4096, .inl f))]) [0, 1] rfl
  have hD9 := hD.sub (ws' := [(h0, .inr (1, [.ref h1, .int (nI n)])), (h1, .inl (cB, 4096, .inl f))]) [0, 1] (by decide) rfl
  exact W.lret (v := lN (sj_uB f (sj_fr x n) (sj_fr y (n - sj_fr x n)) % 65521 * 65536 + sj_uA f (sj_fr x n) (sj_fr y (n - sj_fr x n)) % 65521)) hx hb hr (fun t ht hW => ⟨⟨lN (sj_uB f (sj_fr x n) (sj_fr y (n - sj_fr x n)) % 65521 * 65536 + sj_uA f (sj_fr x n) (sj_fr y (n - sj_fr x n)) % 65521), (), rfl, rfl, by rw [ht]; exact hP9, hD9⟩, hS.F ht⟩) hS.2.2 dX1_adler_18
set_option maxHeartbeats 4000000 in
set_option maxRecDepth 100000 in
/-- joinCrc(at, n, cut) -/
theorem met_X1_joinCrc (l : Launch) (D : va_G) (tb sz : Nat) (h0 h1 n : Nat) (cB : ClassId) (f : Nat → Int32) (x y z : Int32) (hn : n ≤ 4096) : sj_ML l yX1_joinCrc cX1_joinCrc 4 ({ frames := 2, cells := 0, slots := 0, locals := 51 }) [.ref h0, .int x, .int y, .int z] D tb [(h0, .inr (1, [.ref h1, .int (nI n)])), (h1, .inl (cB, 4096, .inl f))] [(cB, .byte)] sz (sj_l (sj_cv f (sj_fr x n) (sj_fr y (n - sj_fr x n)))) [(h0, .inr (1, [.ref h1, .int (nI n)])), (h1, .inl (cB, 4096, .inl f))] 0 0 := by
  refine Met.ofW (cc := cX1_joinCrc) (maxL := 4) (ret := (some .long)) (by decide) rfl ?_
  intro p e s m args below meth c s₁ B hml hv
  obtain ⟨rfl, hsz, hP, hK, hD0, hT⟩ := hv
  have hx := B.exec
  have hb := B.bytes
  have hr := B.returns
  have hts := atoms_spec (ws := ws_ yX1_joinCrc cX1_joinCrc 4 (some .long)) B.pre
  have hts : ∀ w ∈ lw_all, w.before _ s = true := fun w h => hts w (List.mem_cons_of_mem _ h)
  have hown : s.vm.findClass RX1 = some m.cls := findClass_of_methodNamed B.named
  have hlocks := B.notSynchronized
  subst hsz
  have hD := hD0.self (sz := s.heap.size)
  generalize hAe : va_A [(h0, .inr (1, [.ref h1, .int (nI n)])), (h1, .inl (cB, 4096, .inl f))] s.heap.size = A at hD hT ⊢
  have hA : ∀ q : Nat, s.heap.size ≤ q → A q := fun q h => by rw [← hAe]; exact Or.inr h
  have hS : va_S A s.heap s.heap [] := va_S.rf
  have hP : va_P D vwCl [(h0, .inr (1, [.ref h1, .int (nI n)])), (h1, .inl (cB, 4096, .inl f))] s.heap := hP
  have hl := lv_entry ([.ref h0, .int x, .int y, .int z]) (n := 4) (Nat.le_of_ble_eq_true rfl)
  rw [lg_entry_eq]
  generalize (lg_sl ([.ref h0, .int x, .int y, .int z]) ++ List.replicate (4 - (lg_sl ([.ref h0, .int x, .int y, .int z])).length) Slot.unset).toArray = ls at hl ⊢
  have hl : lv_has ls 4 [(0, .ref h0), (1, .int x), (2, .int y), (3, .int z)] := hl
  refine lv_aload_n hx hb dX1_joinCrc_0 rfl (lv_at hl 0 rfl) ?_
  refine lv_iload_n hx hb dX1_joinCrc_1 rfl (lv_at hl 1 rfl) ?_
  refine lv_iload_n hx hb dX1_joinCrc_2 rfl (lv_at hl 2 rfl) ?_
  refine sj_cl_ (wr := []) (w1 := [(h0, .inr (1, [.ref h1, .int (nI n)])), (h1, .inl (cB, 4096, .inl f))]) (wf := [(h0, .inr (1, [.ref h1, .int (nI n)])), (h1, .inl (cB, 4096, .inl f))]) (va_runV (As := [.int x, .int y]) (rest := []) ⟨hx, hb, hml, hown, hts⟩ (met_X1_crc l D tb _ h0 h1 n cB f x y hn) (cwV 2 hts (lw_V q182 q160 q161 q8 q162) rfl rfl rfl (by decide +kernel) ⟨Nat.le_of_ble_eq_true rfl, Nat.le_of_ble_eq_true rfl⟩) (sj_preV hK hP hD hS hA hT [0, 1] rfl rfl (by decide) [0] rfl (ci := 1) (q0 := 0) rfl rfl) rfl rfl hl.1 rfl (lv_room (Nat.le_of_ble_eq_true rfl)) dX1_joinCrc_3 ⟨Nat.le_of_ble_eq_true rfl, Nat.le_of_ble_eq_true rfl⟩) hP hD hS hA [0, 1] [] rfl rfl (by decide) (by decide) [0, 1] rfl rfl (by decide) (fun H locs hP hD hS => ?_)
  have hP9 := hP.sub (ws' := [(h0, .inr (1, [.ref h1, .int (nI n)])), (h1, .inl (cB, 4096, .inl f))]) [0, 1] rfl
  have hD9 := hD.sub (ws' := [(h0, .inr (1, [.ref h1, .int (nI n)])), (h1, .inl (cB, 4096, .inl f))]) [0, 1] (by decide) rfl
  exact W.lret (v := sj_l (sj_cv f (sj_fr x n) (sj_fr y (n - sj_fr x n)))) hx hb hr (fun t ht hW => ⟨⟨sj_l (sj_cv f (sj_fr x n) (sj_fr y (n - sj_fr x n))), (), rfl, rfl, by rw [ht]; exact hP9, hD9⟩, hS.F ht⟩) hS.2.2 dX1_joinCrc_6
set_option maxHeartbeats 4000000 in
set_option maxRecDepth 100000 in
/-- joinAdler(at, n, cut) -/
theorem met_X1_joinAdler (l : Launch) (D : va_G) (tb sz : Nat) (h0 h1 n : Nat) (cB : ClassId) (f : Nat → Int32) (x y z : Int32) (hn : n ≤ 4096) : sj_ML l yX1_joinAdler cX1_joinAdler 4 ({ frames := 2, cells := 0, slots := 0, locals := 51 }) [.ref h0, .int x, .int y, .int z] D tb [(h0, .inr (1, [.ref h1, .int (nI n)])), (h1, .inl (cB, 4096, .inl f))] [(cB, .byte)] sz (lN (sj_av f (sj_fr x n) (sj_fr y (n - sj_fr x n)))) [(h0, .inr (1, [.ref h1, .int (nI n)])), (h1, .inl (cB, 4096, .inl f))] 0 0 := by
  refine Met.ofW (cc := cX1_joinAdler) (maxL := 4) (ret := (some .long)) (by decide) rfl ?_
  intro p e s m args below meth c s₁ B hml hv
  obtain ⟨rfl, hsz, hP, hK, hD0, hT⟩ := hv
  have hx := B.exec
  have hb := B.bytes
  have hr := B.returns
  have hts := atoms_spec (ws := ws_ yX1_joinAdler cX1_joinAdler 4 (some .long)) B.pre
  have hts : ∀ w ∈ lw_all, w.before _ s = true := fun w h => hts w (List.mem_cons_of_mem _ h)
  have hown : s.vm.findClass RX1 = some m.cls := findClass_of_methodNamed B.named
  have hlocks := B.notSynchronized
  subst hsz
  have hD := hD0.self (sz := s.heap.size)
  generalize hAe : va_A [(h0, .inr (1, [.ref h1, .int (nI n)])), (h1, .inl (cB, 4096, .inl f))] s.heap.size = A at hD hT ⊢
  have hA : ∀ q : Nat, s.heap.size ≤ q → A q := fun q h => by rw [← hAe]; exact Or.inr h
  have hS : va_S A s.heap s.heap [] := va_S.rf
  have hP : va_P D vwCl [(h0, .inr (1, [.ref h1, .int (nI n)])), (h1, .inl (cB, 4096, .inl f))] s.heap := hP
  have hl := lv_entry ([.ref h0, .int x, .int y, .int z]) (n := 4) (Nat.le_of_ble_eq_true rfl)
  rw [lg_entry_eq]
  generalize (lg_sl ([.ref h0, .int x, .int y, .int z]) ++ List.replicate (4 - (lg_sl ([.ref h0, .int x, .int y, .int z])).length) Slot.unset).toArray = ls at hl ⊢
  have hl : lv_has ls 4 [(0, .ref h0), (1, .int x), (2, .int y), (3, .int z)] := hl
  refine lv_aload_n hx hb dX1_joinAdler_0 rfl (lv_at hl 0 rfl) ?_
  refine lv_iload_n hx hb dX1_joinAdler_1 rfl (lv_at hl 1 rfl) ?_
  refine lv_iload_n hx hb dX1_joinAdler_2 rfl (lv_at hl 2 rfl) ?_
  refine sj_cl_ (wr := []) (w1 := [(h0, .inr (1, [.ref h1, .int (nI n)])), (h1, .inl (cB, 4096, .inl f))]) (wf := [(h0, .inr (1, [.ref h1, .int (nI n)])), (h1, .inl (cB, 4096, .inl f))]) (va_runV (As := [.int x, .int y]) (rest := []) ⟨hx, hb, hml, hown, hts⟩ (met_X1_adler l D tb _ h0 h1 n cB f x y hn) (cwV 2 hts (lw_V q187 q175 q176 q8 q177) rfl rfl rfl (by decide +kernel) ⟨Nat.le_of_ble_eq_true rfl, Nat.le_of_ble_eq_true rfl⟩) (sj_preV hK hP hD hS hA hT [0, 1] rfl rfl (by decide) [0] rfl (ci := 1) (q0 := 0) rfl rfl) rfl rfl hl.1 rfl (lv_room (Nat.le_of_ble_eq_true rfl)) dX1_joinAdler_3 ⟨Nat.le_of_ble_eq_true rfl, Nat.le_of_ble_eq_true rfl⟩) hP hD hS hA [0, 1] [] rfl rfl (by decide) (by decide) [0, 1] rfl rfl (by decide) (fun H locs hP hD hS => ?_)
  have hP9 := hP.sub (ws' := [(h0, .inr (1, [.ref h1, .int (nI n)])), (h1, .inl (cB, 4096, .inl f))]) [0, 1] rfl
  have hD9 := hD.sub (ws' := [(h0, .inr (1, [.ref h1, .int (nI n)])), (h1, .inl (cB, 4096, .inl f))]) [0, 1] (by decide) rfl
  exact W.lret (v := lN (sj_av f (sj_fr x n) (sj_fr y (n - sj_fr x n)))) hx hb hr (fun t ht hW => ⟨⟨lN (sj_av f (sj_fr x n) (sj_fr y (n - sj_fr x n))), (), rfl, rfl, by rw [ht]; exact hP9, hD9⟩, hS.F ht⟩) hS.2.2 dX1_joinAdler_6
end
section
/-! the table of CRC32, out of the Statement's premises -/
set_option maxRecDepth 100000
theorem sj_flat : ∀ j, j < 256 → (flatC (Jvm.Cond.and given_1 narrow_1))[9 + j]? = some (Cond.eq (Term.elem (Term.static "CRC32" "crc_table" "[I") (Term.int (Int32.ofNat j))) (Term.int (sj_tb j))) := by decide +kernel
theorem sj_start {args : Array Value} {s : State} {A : Nat → Prop} (h : (Jvm.Cond.and given_1 narrow_1).before args s = true) (hl : (Cond.laysStatic "CRC32" "crc_table" "[I").before args s = true) (hini : (Cond.initialized "CRC32").before args s = true) (hA : ∀ a : Nat, a < s.heap.size → ¬ A a) : ∃ tb : Nat, sj_T tb A s s.heap := by
  have hs := flat_of_before _ h
  have harr : (Cond.arrayOf (Term.static "CRC32" "crc_table" "[I") .int).before args s = true := hs _ (List.mem_of_getElem? (i := 6) (by decide +kernel))
  have hlen : (Cond.eq (Term.length (Term.static "CRC32" "crc_table" "[I")) (Term.int 256)).before args s = true := hs _ (List.mem_of_getElem? (i := 8) (by decide +kernel))
  obtain ⟨tb, h1, h2⟩ := va_Tof (N := 256) (f := fun j => .int (sj_tb j)) (by decide) harr (va_eqt hlen) (fun j hj => va_eqt (hs _ (List.mem_of_getElem? (sj_flat j hj)))) hA
  exact ⟨tb, va_Zref hl hini h1 hA, h2⟩
end
section
set_option maxRecDepth 100000
/-! THE CLAIM OUT OF ONE WALK OF THE LAW'S BODY. Your part is whole_start (and what it stands on); all else here is the same for every law, but numbers. -/
def R_law : String := "SumJoinLaw"
def lw_P (b : Addr) (xs : List Int32) (args : Array Value) (s : State) : Prop := args = #[.ref b] ∧ s.IntsAt b xs ∧ xs.length ≤ 384 ∧ (Jvm.Cond.and given_1 narrow_1).before args s = true
def lw_Q (_ : Array Value) (s : State) (o : Outcome) (t : State) : Prop := o = .returned (some (.int 1)) ∧ Framed s o t [] 600000 7302250
def lw_Z (below : List Frame) (a : Array Value) (s : State) : State → Prop := fun t => ∃ o, t.status = .running ∧ Ended t below o ∧ lw_Q a s o t
/-- the law's own end, with 1 on the stack, nothing written that was there before, its room as the claim has it -/
theorem lw_ret {p : Program} {l : Launch} {e : Env} {s : State} {m : MethodId} {below : List Frame} {meth : Method} {c : Code} {b : Nat} (hx : p.tables.exec = Jvm.exec) (hb : c.code = code) (hr : meth.sig.returnType = ret) (hlocks : meth.locks = false) {pc : Nat} {H : Heap} {ls : Array Slot} (hdg : decode code pc = .ok (.ireturn, 1)) : W p l e room_1 s m #[Value.ref b] below meth c H [] 600000 7302250 (lw_Z below #[Value.ref b] s) (F0 m pc ls [.int 1]) := by
  intro T hT X
  obtain ⟨fs, hret, hrun, hended, hW, hframe⟩ := X.leave (v := some (.int 1)) (hlocks := hlocks) (fun h => by rw [hr] at h; cases h)
  have hmeth' : T.vm.method? m = some meth := X.method'
  refine ⟨T.setFrames fs, ?_, .returned (some (.int 1)), hrun, hended, rfl, ⟨_, rfl⟩, hW, hframe⟩
  jvm_step X.here [X.here.top, hx, hb, hdg, hmeth', hr, ret, narrow_b1]
  (try refine ⟨rfl, ?_⟩); (try refine ⟨rfl, ?_⟩)
  first | (intro acts; rw [hret _ acts rfl rfl rfl]) | rw [hret _ _ rfl rfl rfl]
  exact Steps.refl _
/-- what holds at the law's entry: the machine, the code, the tables' words (any of lw_tbl by 'hts w (by decide +kernel)'), the script of L ints xs at the cell b, what the Statement gives of the start (any of its parts by flat_of_before) -/
def lw_At (p : Program) (s : State) (m : MethodId) (meth : Method) (c : Code) (b L : Nat) (xs : Nat → Int32) : Prop :=
  p.tables.exec = Jvm.exec ∧ c.code = code ∧ meth.sig.returnType = ret ∧ c.maxLocals = 4 ∧ s.vm.findClass R_law = some m.cls ∧ (∀ w ∈ lw_tbl, w.before #[Value.ref b] s = true) ∧ va_X b L xs s s.heap ∧ b < s.heap.size ∧ meth.locks = false ∧ (Jvm.Cond.and given_1 narrow_1).before #[Value.ref b] s = true
end
section
/-! THE LAW -/
set_option maxRecDepth 100000
theorem sj_hd {L i : Nat} (hL : L ≤ 384) (hi : i ≤ 390) : nI L - nI 6 < nI i ↔ L < i + 6 := by
  rw [Int32.lt_iff_toInt_lt, pk_sub_toInt (by omega) (by decide), nI_toInt (by omega)]
  omega
theorem sj_pS_le {n : Nat} (hn : n ≤ 4096) : sj_pS n ≤ 4096 := by
  unfold sj_pS
  split <;> omega
section SJL
variable {p : Program} {l : Launch} {e : Env} {R : Room} {s : State} {m : MethodId} {args : Array Value} {below : List Frame} {meth : Method} {c : Code} {H : Heap} {locs : List Loc} {cells slots : Nat} {Q : State → Prop}
variable {cc : ByteArray} {pc : Nat} {ls : Array Slot} {rest : List Value} {A : Nat → Prop}
theorem sj_sld (hexec : p.tables.exec = Jvm.exec) (hb : c.code = cc) {b L : Nat} {xs : Nat → Int32} (hX : va_X b L xs s s.heap) (hbl : b < s.heap.size) (hbA : ¬ A b) (hS : va_S A s.heap H locs) {j : Nat} (hj : j < L) (hL : L ≤ 384) (hdg : decode cc pc = .ok (.iaload, 1))
    (kk : W p l e R s m args below meth c H locs cells slots Q (F0 m (pc + 1) ls (.int (xs j) :: rest))) : W p l e R s m args below meth c H locs cells slots Q (F0 m pc ls (.int (nI j) :: .ref b :: rest)) := by
  refine va_sld hexec hb hX hbl hbA hS (vp_in_nI hj (by omega)) hdg ?_
  rw [nI_clamp (by omega)]
  exact kk
end SJL
set_option maxHeartbeats 4000000 in
set_option maxRecDepth 100000 in
/-- THE LAW'S LOOP, t calls done: both sides hold the same text and size -/
theorem sj_loop {p : Program} {l : Launch} {e : Env} {s : State} {m : MethodId} {below : List Frame} {meth : Method} {c : Code} {D : va_G} {tb b L : Nat} {xs : Nat → Int32} {a0 t0 a1 t1 : Nat} {cB cC : ClassId} (hL : L ≤ 384) (C0 : lw_At p s m meth c b L xs) (hT : sj_T tb (fun q : Nat => s.heap.size ≤ q) s s.heap) (hK : va_K D vwCl [(cB, .byte), (cC, .byte)] s) :
    ∀ (k t n : Nat) (f : Nat → Int32), 6 * t ≤ L → 65 ≤ t + k → n ≤ 4096 → ∀ (H : Heap) (locs : List Loc), va_P D vwCl [(a0, .inr (0, [.ref t0, .int (nI n)])), (t0, .inl (cB, 4096, .inl f)), (a1, .inr (1, [.ref t1, .int (nI n)])), (t1, .inl (cC, 4096, .inl f))] H → va_D (fun q : Nat => s.heap.size ≤ q) [(a0, .inr (0, [.ref t0, .int (nI n)])), (t0, .inl (cB, 4096, .inl f)), (a1, .inr (1, [.ref t1, .int (nI n)])), (t1, .inl (cC, 4096, .inl f))] → va_S (fun q : Nat => s.heap.size ≤ q) s.heap H locs → ∀ ls : Array Slot, lv_has ls 4 [(0, .ref b), (1, .ref a0), (2, .ref a1), (3, .int (nI (6 * t)))] → W p l e room_1 s m #[Value.ref b] below meth c H locs (4 + 4 * t) (8196 + 66 * t) (lw_Z below #[Value.ref b] s) (F0 m 18 ls []) := by
  obtain ⟨hx, hb, hr, hml, hown, hts0, hX, hbl, hlocks, hgv⟩ := C0
  have hts : ∀ w ∈ lw_all, w.before #[Value.ref b] s = true := fun w h => hts0 w (lw_all_tbl h)
  have hA : ∀ q : Nat, s.heap.size ≤ q → (fun q : Nat => s.heap.size ≤ q) q := fun _ h => h
  have hbA : ¬ (fun q : Nat => s.heap.size ≤ q) b := Nat.not_le.mpr hbl
  intro k
  induction k with
  | zero =>
    intro t n f h1 h2
    exact absurd h1 (by omega)
  | succ k ih =>
    intro t n f h1 h2 hn H locs hP hD hS ls hl
    have nxt : 6 * t + 6 ≤ L → ∀ (n : Nat) (f : Nat → Int32), n ≤ 4096 → ∀ (H : Heap) (locs : List Loc), va_P D vwCl [(a0, .inr (0, [.ref t0, .int (nI n)])), (t0, .inl (cB, 4096, .inl f)), (a1, .inr (1, [.ref t1, .int (nI n)])), (t1, .inl (cC, 4096, .inl f))] H → va_D (fun q : Nat => s.heap.size ≤ q) [(a0, .inr (0, [.ref t0, .int (nI n)])), (t0, .inl (cB, 4096, .inl f)), (a1, .inr (1, [.ref t1, .int (nI n)])), (t1, .inl (cC, 4096, .inl f))] → va_S (fun q : Nat => s.heap.size ≤ q) s.heap H locs → ∀ ls : Array Slot, lv_has ls 4 [(0, .ref b), (1, .ref a0), (2, .ref a1), (3, .int (nI (6 * t)))] → W p l e room_1 s m #[Value.ref b] below meth c H locs (4 + 4 * (t + 1)) (8196 + 66 * (t + 1)) (lw_Z below #[Value.ref b] s) (F0 m 319 ls []) := by
      intro h3 n f hn H locs hP hD hS ls hl
      refine lv_iinc (v := nI (6 * (t + 1))) (lv' := [(3, .int (nI (6 * (t + 1)))), (0, .ref b), (1, .ref a0), (2, .ref a1)]) hx hb dL_law_319 hl (k := 3) rfl (nI_add (6 * t) 6) (by decide) rfl (fun ls hl => ?_)
      refine lv_goto (tgt := 18) hx hb dL_law_322 (by decide) ?_
      exact ih (t + 1) n f (by omega) (by omega) hn H locs hP hD hS ls (lv_sub hl [1, 2, 3, 0] rfl)
    refine lv_iload_n hx hb dL_law_18 rfl (lv_at hl 3 rfl) ?_
    refine lv_aload_n hx hb dL_law_19 rfl (lv_at hl 0 rfl) ?_
    refine va_slen hx hb hX hbl hbA hS dL_law_20 ?_
    refine lv_bipush (v := nI 6) hx hb dL_law_21 (by decide) ?_
    refine lv_isub hx hb dL_law_23 ?_
    refine lv_icmp_gt (tgt := 325) hx hb dL_law_24 (by decide) (fun c0 => ?_) (fun c0 => ?_)
    · refine lv_iconst (v := 1) hx hb dL_law_325 (by decide) ?_
      refine va_forget (fun q hq => hS.2.2 q hq) ?_
      refine W.widen (k := 600000) (n := 7302250) (by omega) (by omega) ?_
      exact lw_ret hx hb hr hlocks dL_law_326
    · have h3 : 6 * t + 6 ≤ L := Nat.le_of_not_lt (fun z9 => c0 ((sj_hd hL (by omega)).mpr z9))
      obtain ⟨j, hj, ej⟩ := pk_andE (xs (6 * t)) (m := 15) 4 (by decide)
      refine lv_aload_n hx hb dL_law_27 rfl (lv_at hl 0 rfl) ?_
      refine lv_iload_n hx hb dL_law_28 rfl (lv_at hl 3 rfl) ?_
      refine sj_sld hx hb hX hbl hbA hS (j := 6 * t) (by omega) hL dL_law_29 ?_
      refine lv_bipush (v := 15) hx hb dL_law_30 (by decide) ?_
      refine lv_iand hx hb dL_law_32 ?_
      refine sj_ti (nI j) (ej) ?_
      have hj : j < 16 := hj
      rcases (show j = 0 ∨ j = 1 ∨ j = 2 ∨ j = 3 ∨ j = 4 ∨ j = 5 ∨ j = 6 ∨ 7 ≤ j by omega) with ej0 | ej0 | ej0 | ej0 | ej0 | ej0 | ej0 | ej0
      · subst ej0
        refine lv_tableIn (off := 43) (tgt := 76) hx hb dL_law_33 (by decide) (by decide) (by decide) (by decide) ?_
        refine lv_aload_n hx hb dL_law_76 rfl (lv_at hl 1 rfl) ?_
        refine lv_aload_n hx hb dL_law_77 rfl (lv_at hl 0 rfl) ?_
        refine lv_iload_n hx hb dL_law_78 rfl (lv_at hl 3 rfl) ?_
        refine lv_iconst (v := nI 1) hx hb dL_law_79 (by decide) ?_
        refine lv_iadd hx hb dL_law_80 ?_
        refine sj_ti (nI (6 * t + 1)) (nI_add (6 * t) 1) ?_
        refine sj_sld hx hb hX hbl hbA hS (j := 6 * t + 1) (by omega) hL dL_law_81 ?_
        refine lv_aload_n hx hb dL_law_82 rfl (lv_at hl 0 rfl) ?_
        refine lv_iload_n hx hb dL_law_83 rfl (lv_at hl 3 rfl) ?_
        refine lv_iconst (v := nI 2) hx hb dL_law_84 (by decide) ?_
        refine lv_iadd hx hb dL_law_85 ?_
        refine sj_ti (nI (6 * t + 2)) (nI_add (6 * t) 2) ?_
        refine sj_sld hx hb hX hbl hbA hS (j := 6 * t + 2) (by omega) hL dL_law_86 ?_
        refine lv_aload_n hx hb dL_law_87 rfl (lv_at hl 0 rfl) ?_
        refine lv_iload_n hx hb dL_law_88 rfl (lv_at hl 3 rfl) ?_
        refine lv_iconst (v := nI 3) hx hb dL_law_89 (by decide) ?_
        refine lv_iadd hx hb dL_law_90 ?_
        refine sj_ti (nI (6 * t + 3)) (nI_add (6 * t) 3) ?_
        refine sj_sld hx hb hX hbl hbA hS (j := 6 * t + 3) (by omega) hL dL_law_91 ?_
        refine lv_aload_n hx hb dL_law_92 rfl (lv_at hl 0 rfl) ?_
        refine lv_iload_n hx hb dL_law_93 rfl (lv_at hl 3 rfl) ?_
        refine lv_iconst (v := nI 4) hx hb dL_law_94 (by decide) ?_
        refine lv_iadd hx hb dL_law_95 ?_
        refine sj_ti (nI (6 * t + 4)) (nI_add (6 * t) 4) ?_
        refine sj_sld hx hb hX hbl hbA hS (j := 6 * t + 4) (by omega) hL dL_law_96 ?_
        refine sj_ci_ (wr := [(a1, .inr (1, [.ref t1, .int (nI n)])), (t1, .inl (cC, 4096, .inl f))]) (w1 := [(a0, .inr (0, [.ref t0, .int (nI (sj_pS n))])), (t0, .inl (cB, 4096, .inl (sj_pF f n (xs (6 * t + 1)) (xs (6 * t + 2)) (xs (6 * t + 3)) (xs (6 * t + 4)))))]) (wf := [(a0, .inr (0, [.ref t0, .int (nI (sj_pS n))])), (t0, .inl (cB, 4096, .inl (sj_pF f n (xs (6 * t + 1)) (xs (6 * t + 2)) (xs (6 * t + 3)) (xs (6 * t + 4))))), (a1, .inr (1, [.ref t1, .int (nI n)])), (t1, .inl (cC, 4096, .inl f))]) (va_runV (As := [.int (xs (6 * t + 1)), .int (xs (6 * t + 2)), .int (xs (6 * t + 3)), .int (xs (6 * t + 4))]) (rest := []) ⟨hx, hb, hml, hown, hts⟩ (met_X0_put l D tb _ a0 t0 n cB f (xs (6 * t + 1)) (xs (6 * t + 2)) (xs (6 * t + 3)) (xs (6 * t + 4)) hn) (cwV 4 hts (lw_V q27 q28 q29 q7 q30) rfl rfl rfl (by decide +kernel) ⟨Nat.le_of_ble_eq_true rfl, Nat.le_of_ble_eq_true rfl⟩) (sj_preV hK hP hD hS hA hT [0, 1] rfl rfl (by decide) [0] rfl (ci := 0) (q0 := 0) rfl rfl) rfl rfl hl.1 rfl (lv_room (Nat.le_of_ble_eq_true rfl)) dL_law_97 ⟨(by show _ ≤ 600000; omega), (by show _ ≤ 7302250; omega)⟩) hP hD hS hA [0, 1] [2, 3] rfl rfl (by decide) (by decide) [2, 3, 0, 1] rfl rfl (by decide) (fun H locs hP hD hS => ?_)
        refine lv_aload_n hx hb dL_law_100 rfl (lv_at hl 2 rfl) ?_
        refine lv_aload_n hx hb dL_law_101 rfl (lv_at hl 0 rfl) ?_
        refine lv_iload_n hx hb dL_law_102 rfl (lv_at hl 3 rfl) ?_
        refine lv_iconst (v := nI 1) hx hb dL_law_103 (by decide) ?_
        refine lv_iadd hx hb dL_law_104 ?_
        refine sj_ti (nI (6 * t + 1)) (nI_add (6 * t) 1) ?_
        refine sj_sld hx hb hX hbl hbA hS (j := 6 * t + 1) (by omega) hL dL_law_105 ?_
        refine lv_aload_n hx hb dL_law_106 rfl (lv_at hl 0 rfl) ?_
        refine lv_iload_n hx hb dL_law_107 rfl (lv_at hl 3 rfl) ?_
        refine lv_iconst (v := nI 2) hx hb dL_law_108 (by decide) ?_
        refine lv_iadd hx hb dL_law_109 ?_
        refine sj_ti (nI (6 * t + 2)) (nI_add (6 * t) 2) ?_
        refine sj_sld hx hb hX hbl hbA hS (j := 6 * t + 2) (by omega) hL dL_law_110 ?_
        refine lv_aload_n hx hb dL_law_111 rfl (lv_at hl 0 rfl) ?_
        refine lv_iload_n hx hb dL_law_112 rfl (lv_at hl 3 rfl) ?_
        refine lv_iconst (v := nI 3) hx hb dL_law_113 (by decide) ?_
        refine lv_iadd hx hb dL_law_114 ?_
        refine sj_ti (nI (6 * t + 3)) (nI_add (6 * t) 3) ?_
        refine sj_sld hx hb hX hbl hbA hS (j := 6 * t + 3) (by omega) hL dL_law_115 ?_
        refine lv_aload_n hx hb dL_law_116 rfl (lv_at hl 0 rfl) ?_
        refine lv_iload_n hx hb dL_law_117 rfl (lv_at hl 3 rfl) ?_
        refine lv_iconst (v := nI 4) hx hb dL_law_118 (by decide) ?_
        refine lv_iadd hx hb dL_law_119 ?_
        refine sj_ti (nI (6 * t + 4)) (nI_add (6 * t) 4) ?_
        refine sj_sld hx hb hX hbl hbA hS (j := 6 * t + 4) (by omega) hL dL_law_120 ?_
        refine sj_ci_ (wr := [(a0, .inr (0, [.ref t0, .int (nI (sj_pS n))])), (t0, .inl (cB, 4096, .inl (sj_pF f n (xs (6 * t + 1)) (xs (6 * t + 2)) (xs (6 * t + 3)) (xs (6 * t + 4)))))]) (w1 := [(a1, .inr (1, [.ref t1, .int (nI (sj_pS n))])), (t1, .inl (cC, 4096, .inl (sj_pF f n (xs (6 * t + 1)) (xs (6 * t + 2)) (xs (6 * t + 3)) (xs (6 * t + 4)))))]) (wf := [(a0, .inr (0, [.ref t0, .int (nI (sj_pS n))])), (t0, .inl (cB, 4096, .inl (sj_pF f n (xs (6 * t + 1)) (xs (6 * t + 2)) (xs (6 * t + 3)) (xs (6 * t + 4))))), (a1, .inr (1, [.ref t1, .int (nI (sj_pS n))])), (t1, .inl (cC, 4096, .inl (sj_pF f n (xs (6 * t + 1)) (xs (6 * t + 2)) (xs (6 * t + 3)) (xs (6 * t + 4)))))]) (va_runV (As := [.int (xs (6 * t + 1)), .int (xs (6 * t + 2)), .int (xs (6 * t + 3)), .int (xs (6 * t + 4))]) (rest := [.int (sj_pR n)]) ⟨hx, hb, hml, hown, hts⟩ (met_X1_put l D tb _ a1 t1 n cC f (xs (6 * t + 1)) (xs (6 * t + 2)) (xs (6 * t + 3)) (xs (6 * t + 4)) hn) (cwV 4 hts (lw_V q142 q143 q144 q8 q145) rfl rfl rfl (by decide +kernel) ⟨Nat.le_of_ble_eq_true rfl, Nat.le_of_ble_eq_true rfl⟩) (sj_preV hK hP hD hS hA hT [2, 3] rfl rfl (by decide) [1] rfl (ci := 1) (q0 := 2) rfl rfl) rfl rfl hl.1 rfl (lv_room (Nat.le_of_ble_eq_true rfl)) dL_law_121 ⟨(by show _ ≤ 600000; omega), (by show _ ≤ 7302250; omega)⟩) hP hD hS hA [2, 3] [0, 1] rfl rfl (by decide) (by decide) [0, 1, 2, 3] rfl rfl (by decide) (fun H locs hP hD hS => ?_)
        refine lv_icmp_eq (tgt := 319) hx hb dL_law_124 (by decide) (fun _ => ?_) (fun h9 => absurd (rfl) h9)
        refine W.widen (k := 4 + 4 * (t + 1)) (n := 8196 + 66 * (t + 1)) (by omega) (by omega) ?_
        exact nxt h3 (sj_pS n) (sj_pF f n (xs (6 * t + 1)) (xs (6 * t + 2)) (xs (6 * t + 3)) (xs (6 * t + 4))) (sj_pS_le hn) H locs hP hD hS ls (lv_sub hl [0, 1, 2, 3] rfl)
      · subst ej0
        refine lv_tableIn (off := 96) (tgt := 129) hx hb dL_law_33 (by decide) (by decide) (by decide) (by decide) ?_
        refine lv_aload_n hx hb dL_law_129 rfl (lv_at hl 1 rfl) ?_
        refine lv_aload_n hx hb dL_law_130 rfl (lv_at hl 0 rfl) ?_
        refine lv_iload_n hx hb dL_law_131 rfl (lv_at hl 3 rfl) ?_
        refine lv_iconst (v := nI 1) hx hb dL_law_132 (by decide) ?_
        refine lv_iadd hx hb dL_law_133 ?_
        refine sj_ti (nI (6 * t + 1)) (nI_add (6 * t) 1) ?_
        refine sj_sld hx hb hX hbl hbA hS (j := 6 * t + 1) (by omega) hL dL_law_134 ?_
        refine sj_cv_ (wr := [(t0, .inl (cB, 4096, .inl f)), (a1, .inr (1, [.ref t1, .int (nI n)])), (t1, .inl (cC, 4096, .inl f))]) (w1 := [(a0, .inr (0, [.ref t0, .int (nI (sj_fr (xs (6 * t + 1)) n))]))]) (wf := [(a0, .inr (0, [.ref t0, .int (nI (sj_fr (xs (6 * t + 1)) n))])), (t0, .inl (cB, 4096, .inl f)), (a1, .inr (1, [.ref t1, .int (nI n)])), (t1, .inl (cC, 4096, .inl f))]) (va_runV (As := [.int (xs (6 * t + 1))]) (rest := []) ⟨hx, hb, hml, hown, hts⟩ (met_X0_trim l D tb _ a0 t0 n (xs (6 * t + 1)) hn) (cwV 1 hts (lw_V q35 q36 q37 q7 q38) rfl rfl rfl (by decide +kernel) ⟨Nat.le_of_ble_eq_true rfl, Nat.le_of_ble_eq_true rfl⟩) (sj_preV hK hP hD hS hA hT [0] rfl rfl (by decide) [] rfl (ci := 0) (q0 := 0) rfl rfl) rfl rfl hl.1 rfl (lv_room (Nat.le_of_ble_eq_true rfl)) dL_law_135 ⟨(by show _ ≤ 600000; omega), (by show _ ≤ 7302250; omega)⟩) hP hD hS hA [0] [1, 2, 3] rfl rfl (by decide) (by decide) [3, 0, 1, 2] rfl rfl (by decide) (fun H locs hP hD hS => ?_)
        refine lv_aload_n hx hb dL_law_138 rfl (lv_at hl 2 rfl) ?_
        refine lv_aload_n hx hb dL_law_139 rfl (lv_at hl 0 rfl) ?_
        refine lv_iload_n hx hb dL_law_140 rfl (lv_at hl 3 rfl) ?_
        refine lv_iconst (v := nI 1) hx hb dL_law_141 (by decide) ?_
        refine lv_iadd hx hb dL_law_142 ?_
        refine sj_ti (nI (6 * t + 1)) (nI_add (6 * t) 1) ?_
        refine sj_sld hx hb hX hbl hbA hS (j := 6 * t + 1) (by omega) hL dL_law_143 ?_
        refine sj_cv_ (wr := [(a0, .inr (0, [.ref t0, .int (nI (sj_fr (xs (6 * t + 1)) n))])), (t0, .inl (cB, 4096, .inl f)), (t1, .inl (cC, 4096, .inl f))]) (w1 := [(a1, .inr (1, [.ref t1, .int (nI (sj_fr (xs (6 * t + 1)) n))]))]) (wf := [(a0, .inr (0, [.ref t0, .int (nI (sj_fr (xs (6 * t + 1)) n))])), (t0, .inl (cB, 4096, .inl f)), (a1, .inr (1, [.ref t1, .int (nI (sj_fr (xs (6 * t + 1)) n))])), (t1, .inl (cC, 4096, .inl f))]) (va_runV (As := [.int (xs (6 * t + 1))]) (rest := []) ⟨hx, hb, hml, hown, hts⟩ (met_X1_trim l D tb _ a1 t1 n (xs (6 * t + 1)) hn) (cwV 1 hts (lw_V q146 q147 q148 q8 q149) rfl rfl rfl (by decide +kernel) ⟨Nat.le_of_ble_eq_true rfl, Nat.le_of_ble_eq_true rfl⟩) (sj_preV hK hP hD hS hA hT [2] rfl rfl (by decide) [] rfl (ci := 1) (q0 := 2) rfl rfl) rfl rfl hl.1 rfl (lv_room (Nat.le_of_ble_eq_true rfl)) dL_law_144 ⟨(by show _ ≤ 600000; omega), (by show _ ≤ 7302250; omega)⟩) hP hD hS hA [2] [0, 1, 3] rfl rfl (by decide) (by decide) [0, 1, 3, 2] rfl rfl (by decide) (fun H locs hP hD hS => ?_)
        refine lv_goto (tgt := 319) hx hb dL_law_147 (by decide) ?_
        refine W.widen (k := 4 + 4 * (t + 1)) (n := 8196 + 66 * (t + 1)) (by omega) (by omega) ?_
        exact nxt h3 (sj_fr (xs (6 * t + 1)) n) (f) (Nat.le_trans (sj_fr_le _ n) hn) H locs hP hD hS ls (lv_sub hl [0, 1, 2, 3] rfl)
      · subst ej0
        refine lv_tableIn (off := 117) (tgt := 150) hx hb dL_law_33 (by decide) (by decide) (by decide) (by decide) ?_
        refine lv_aload_n hx hb dL_law_150 rfl (lv_at hl 1 rfl) ?_
        refine sj_ci_ (wr := [(t0, .inl (cB, 4096, .inl f)), (a1, .inr (1, [.ref t1, .int (nI n)])), (t1, .inl (cC, 4096, .inl f))]) (w1 := [(a0, .inr (0, [.ref t0, .int (nI n)]))]) (wf := [(a0, .inr (0, [.ref t0, .int (nI n)])), (t0, .inl (cB, 4096, .inl f)), (a1, .inr (1, [.ref t1, .int (nI n)])), (t1, .inl (cC, 4096, .inl f))]) (va_runV (As := []) (rest := []) ⟨hx, hb, hml, hown, hts⟩ (met_X0_size l D tb _ a0 t0 n) (cwV 0 hts (lw_V q44 q45 q46 q7 q47) rfl rfl rfl (by decide +kernel) ⟨Nat.le_of_ble_eq_true rfl, Nat.le_of_ble_eq_true rfl⟩) (sj_preV hK hP hD hS hA hT [0] rfl rfl (by decide) [] rfl (ci := 0) (q0 := 0) rfl rfl) rfl rfl hl.1 rfl (lv_room (Nat.le_of_ble_eq_true rfl)) dL_law_151 ⟨(by show _ ≤ 600000; omega), (by show _ ≤ 7302250; omega)⟩) hP hD hS hA [0] [1, 2, 3] rfl rfl (by decide) (by decide) [3, 0, 1, 2] rfl rfl (by decide) (fun H locs hP hD hS => ?_)
        refine lv_aload_n hx hb dL_law_154 rfl (lv_at hl 2 rfl) ?_
        refine sj_ci_ (wr := [(a0, .inr (0, [.ref t0, .int (nI n)])), (t0, .inl (cB, 4096, .inl f)), (t1, .inl (cC, 4096, .inl f))]) (w1 := [(a1, .inr (1, [.ref t1, .int (nI n)]))]) (wf := [(a0, .inr (0, [.ref t0, .int (nI n)])), (t0, .inl (cB, 4096, .inl f)), (a1, .inr (1, [.ref t1, .int (nI n)])), (t1, .inl (cC, 4096, .inl f))]) (va_runV (As := []) (rest := [.int (nI n)]) ⟨hx, hb, hml, hown, hts⟩ (met_X1_size l D tb _ a1 t1 n) (cwV 0 hts (lw_V q155 q156 q157 q8 q158) rfl rfl rfl (by decide +kernel) ⟨Nat.le_of_ble_eq_true rfl, Nat.le_of_ble_eq_true rfl⟩) (sj_preV hK hP hD hS hA hT [2] rfl rfl (by decide) [] rfl (ci := 1) (q0 := 2) rfl rfl) rfl rfl hl.1 rfl (lv_room (Nat.le_of_ble_eq_true rfl)) dL_law_155 ⟨(by show _ ≤ 600000; omega), (by show _ ≤ 7302250; omega)⟩) hP hD hS hA [2] [0, 1, 3] rfl rfl (by decide) (by decide) [0, 1, 3, 2] rfl rfl (by decide) (fun H locs hP hD hS => ?_)
        refine lv_icmp_eq (tgt := 319) hx hb dL_law_158 (by decide) (fun _ => ?_) (fun h9 => absurd (rfl) h9)
        refine W.widen (k := 4 + 4 * (t + 1)) (n := 8196 + 66 * (t + 1)) (by omega) (by omega) ?_
        exact nxt h3 (n) (f) (hn) H locs hP hD hS ls (lv_sub hl [0, 1, 2, 3] rfl)
      · subst ej0
        refine lv_tableIn (off := 130) (tgt := 163) hx hb dL_law_33 (by decide) (by decide) (by decide) (by decide) ?_
        refine lv_aload_n hx hb dL_law_163 rfl (lv_at hl 1 rfl) ?_
        refine lv_aload_n hx hb dL_law_164 rfl (lv_at hl 0 rfl) ?_
        refine lv_iload_n hx hb dL_law_165 rfl (lv_at hl 3 rfl) ?_
        refine lv_iconst (v := nI 1) hx hb dL_law_166 (by decide) ?_
        refine lv_iadd hx hb dL_law_167 ?_
        refine sj_ti (nI (6 * t + 1)) (nI_add (6 * t) 1) ?_
        refine sj_sld hx hb hX hbl hbA hS (j := 6 * t + 1) (by omega) hL dL_law_168 ?_
        refine lv_aload_n hx hb dL_law_169 rfl (lv_at hl 0 rfl) ?_
        refine lv_iload_n hx hb dL_law_170 rfl (lv_at hl 3 rfl) ?_
        refine lv_iconst (v := nI 2) hx hb dL_law_171 (by decide) ?_
        refine lv_iadd hx hb dL_law_172 ?_
        refine sj_ti (nI (6 * t + 2)) (nI_add (6 * t) 2) ?_
        refine sj_sld hx hb hX hbl hbA hS (j := 6 * t + 2) (by omega) hL dL_law_173 ?_
        refine sj_cl_ (wr := [(a1, .inr (1, [.ref t1, .int (nI n)])), (t1, .inl (cC, 4096, .inl f))]) (w1 := [(a0, .inr (0, [.ref t0, .int (nI n)])), (t0, .inl (cB, 4096, .inl f))]) (wf := [(a0, .inr (0, [.ref t0, .int (nI n)])), (t0, .inl (cB, 4096, .inl f)), (a1, .inr (1, [.ref t1, .int (nI n)])), (t1, .inl (cC, 4096, .inl f))]) (va_runV (As := [.int (xs (6 * t + 1)), .int (xs (6 * t + 2))]) (rest := []) ⟨hx, hb, hml, hown, hts⟩ (met_X0_crc l D tb _ a0 t0 n cB f (xs (6 * t + 1)) (xs (6 * t + 2)) hn) (cwV 2 hts (lw_V q48 q49 q50 q7 q51) rfl rfl rfl (by decide +kernel) ⟨Nat.le_of_ble_eq_true rfl, Nat.le_of_ble_eq_true rfl⟩) (sj_preV hK hP hD hS hA hT [0, 1] rfl rfl (by decide) [0] rfl (ci := 0) (q0 := 0) rfl rfl) rfl rfl hl.1 rfl (lv_room (Nat.le_of_ble_eq_true rfl)) dL_law_174 ⟨(by show _ ≤ 600000; omega), (by show _ ≤ 7302250; omega)⟩) hP hD hS hA [0, 1] [2, 3] rfl rfl (by decide) (by decide) [2, 3, 0, 1] rfl rfl (by decide) (fun H locs hP hD hS => ?_)
        refine lv_aload_n hx hb dL_law_177 rfl (lv_at hl 2 rfl) ?_
        refine lv_aload_n hx hb dL_law_178 rfl (lv_at hl 0 rfl) ?_
        refine lv_iload_n hx hb dL_law_179 rfl (lv_at hl 3 rfl) ?_
        refine lv_iconst (v := nI 1) hx hb dL_law_180 (by decide) ?_
        refine lv_iadd hx hb dL_law_181 ?_
        refine sj_ti (nI (6 * t + 1)) (nI_add (6 * t) 1) ?_
        refine sj_sld hx hb hX hbl hbA hS (j := 6 * t + 1) (by omega) hL dL_law_182 ?_
        refine lv_aload_n hx hb dL_law_183 rfl (lv_at hl 0 rfl) ?_
        refine lv_iload_n hx hb dL_law_184 rfl (lv_at hl 3 rfl) ?_
        refine lv_iconst (v := nI 2) hx hb dL_law_185 (by decide) ?_
        refine lv_iadd hx hb dL_law_186 ?_
        refine sj_ti (nI (6 * t + 2)) (nI_add (6 * t) 2) ?_
        refine sj_sld hx hb hX hbl hbA hS (j := 6 * t + 2) (by omega) hL dL_law_187 ?_
        refine sj_cl_ (wr := [(a0, .inr (0, [.ref t0, .int (nI n)])), (t0, .inl (cB, 4096, .inl f))]) (w1 := [(a1, .inr (1, [.ref t1, .int (nI n)])), (t1, .inl (cC, 4096, .inl f))]) (wf := [(a0, .inr (0, [.ref t0, .int (nI n)])), (t0, .inl (cB, 4096, .inl f)), (a1, .inr (1, [.ref t1, .int (nI n)])), (t1, .inl (cC, 4096, .inl f))]) (va_runV (As := [.int (xs (6 * t + 1)), .int (xs (6 * t + 2))]) (rest := [.long (sj_l (sj_cv f (sj_fr (xs (6 * t + 1)) n) (sj_fr (xs (6 * t + 2)) (n - sj_fr (xs (6 * t + 1)) n))))]) ⟨hx, hb, hml, hown, hts⟩ (met_X1_crc l D tb _ a1 t1 n cC f (xs (6 * t + 1)) (xs (6 * t + 2)) hn) (cwV 2 hts (lw_V q159 q160 q161 q8 q162) rfl rfl rfl (by decide +kernel) ⟨Nat.le_of_ble_eq_true rfl, Nat.le_of_ble_eq_true rfl⟩) (sj_preV hK hP hD hS hA hT [2, 3] rfl rfl (by decide) [1] rfl (ci := 1) (q0 := 2) rfl rfl) rfl rfl hl.1 rfl (lv_room (Nat.le_of_ble_eq_true rfl)) dL_law_188 ⟨(by show _ ≤ 600000; omega), (by show _ ≤ 7302250; omega)⟩) hP hD hS hA [2, 3] [0, 1] rfl rfl (by decide) (by decide) [0, 1, 2, 3] rfl rfl (by decide) (fun H locs hP hD hS => ?_)
        refine W.lcmp hx hb dL_law_191 ?_
        refine lv_if_eq (tgt := 319) hx hb dL_law_192 (by decide) (fun _ => ?_) (fun h9 => absurd (sj_cmp0.mpr rfl) h9)
        refine W.widen (k := 4 + 4 * (t + 1)) (n := 8196 + 66 * (t + 1)) (by omega) (by omega) ?_
        exact nxt h3 (n) (f) (hn) H locs hP hD hS ls (lv_sub hl [0, 1, 2, 3] rfl)
      · subst ej0
        refine lv_tableIn (off := 164) (tgt := 197) hx hb dL_law_33 (by decide) (by decide) (by decide) (by decide) ?_
        refine lv_aload_n hx hb dL_law_197 rfl (lv_at hl 1 rfl) ?_
        refine lv_aload_n hx hb dL_law_198 rfl (lv_at hl 0 rfl) ?_
        refine lv_iload_n hx hb dL_law_199 rfl (lv_at hl 3 rfl) ?_
        refine lv_iconst (v := nI 1) hx hb dL_law_200 (by decide) ?_
        refine lv_iadd hx hb dL_law_201 ?_
        refine sj_ti (nI (6 * t + 1)) (nI_add (6 * t) 1) ?_
        refine sj_sld hx hb hX hbl hbA hS (j := 6 * t + 1) (by omega) hL dL_law_202 ?_
        refine lv_aload_n hx hb dL_law_203 rfl (lv_at hl 0 rfl) ?_
        refine lv_iload_n hx hb dL_law_204 rfl (lv_at hl 3 rfl) ?_
        refine lv_iconst (v := nI 2) hx hb dL_law_205 (by decide) ?_
        refine lv_iadd hx hb dL_law_206 ?_
        refine sj_ti (nI (6 * t + 2)) (nI_add (6 * t) 2) ?_
        refine sj_sld hx hb hX hbl hbA hS (j := 6 * t + 2) (by omega) hL dL_law_207 ?_
        refine sj_cl_ (wr := [(a1, .inr (1, [.ref t1, .int (nI n)])), (t1, .inl (cC, 4096, .inl f))]) (w1 := [(a0, .inr (0, [.ref t0, .int (nI n)])), (t0, .inl (cB, 4096, .inl f))]) (wf := [(a0, .inr (0, [.ref t0, .int (nI n)])), (t0, .inl (cB, 4096, .inl f)), (a1, .inr (1, [.ref t1, .int (nI n)])), (t1, .inl (cC, 4096, .inl f))]) (va_runV (As := [.int (xs (6 * t + 1)), .int (xs (6 * t + 2))]) (rest := []) ⟨hx, hb, hml, hown, hts⟩ (met_X0_adler l D tb _ a0 t0 n cB f (xs (6 * t + 1)) (xs (6 * t + 2)) hn) (cwV 2 hts (lw_V q102 q103 q104 q7 q105) rfl rfl rfl (by decide +kernel) ⟨Nat.le_of_ble_eq_true rfl, Nat.le_of_ble_eq_true rfl⟩) (sj_preV hK hP hD hS hA hT [0, 1] rfl rfl (by decide) [0] rfl (ci := 0) (q0 := 0) rfl rfl) rfl rfl hl.1 rfl (lv_room (Nat.le_of_ble_eq_true rfl)) dL_law_208 ⟨(by show _ ≤ 600000; omega), (by show _ ≤ 7302250; omega)⟩) hP hD hS hA [0, 1] [2, 3] rfl rfl (by decide) (by decide) [2, 3, 0, 1] rfl rfl (by decide) (fun H locs hP hD hS => ?_)
        refine lv_aload_n hx hb dL_law_211 rfl (lv_at hl 2 rfl) ?_
        refine lv_aload_n hx hb dL_law_212 rfl (lv_at hl 0 rfl) ?_
        refine lv_iload_n hx hb dL_law_213 rfl (lv_at hl 3 rfl) ?_
        refine lv_iconst (v := nI 1) hx hb dL_law_214 (by decide) ?_
        refine lv_iadd hx hb dL_law_215 ?_
        refine sj_ti (nI (6 * t + 1)) (nI_add (6 * t) 1) ?_
        refine sj_sld hx hb hX hbl hbA hS (j := 6 * t + 1) (by omega) hL dL_law_216 ?_
        refine lv_aload_n hx hb dL_law_217 rfl (lv_at hl 0 rfl) ?_
        refine lv_iload_n hx hb dL_law_218 rfl (lv_at hl 3 rfl) ?_
        refine lv_iconst (v := nI 2) hx hb dL_law_219 (by decide) ?_
        refine lv_iadd hx hb dL_law_220 ?_
        refine sj_ti (nI (6 * t + 2)) (nI_add (6 * t) 2) ?_
        refine sj_sld hx hb hX hbl hbA hS (j := 6 * t + 2) (by omega) hL dL_law_221 ?_
        refine sj_cl_ (wr := [(a0, .inr (0, [.ref t0, .int (nI n)])), (t0, .inl (cB, 4096, .inl f))]) (w1 := [(a1, .inr (1, [.ref t1, .int (nI n)])), (t1, .inl (cC, 4096, .inl f))]) (wf := [(a0, .inr (0, [.ref t0, .int (nI n)])), (t0, .inl (cB, 4096, .inl f)), (a1, .inr (1, [.ref t1, .int (nI n)])), (t1, .inl (cC, 4096, .inl f))]) (va_runV (As := [.int (xs (6 * t + 1)), .int (xs (6 * t + 2))]) (rest := [.long (lN (sj_av f (sj_fr (xs (6 * t + 1)) n) (sj_fr (xs (6 * t + 2)) (n - sj_fr (xs (6 * t + 1)) n))))]) ⟨hx, hb, hml, hown, hts⟩ (met_X1_adler l D tb _ a1 t1 n cC f (xs (6 * t + 1)) (xs (6 * t + 2)) hn) (cwV 2 hts (lw_V q174 q175 q176 q8 q177) rfl rfl rfl (by decide +kernel) ⟨Nat.le_of_ble_eq_true rfl, Nat.le_of_ble_eq_true rfl⟩) (sj_preV hK hP hD hS hA hT [2, 3] rfl rfl (by decide) [1] rfl (ci := 1) (q0 := 2) rfl rfl) rfl rfl hl.1 rfl (lv_room (Nat.le_of_ble_eq_true rfl)) dL_law_222 ⟨(by show _ ≤ 600000; omega), (by show _ ≤ 7302250; omega)⟩) hP hD hS hA [2, 3] [0, 1] rfl rfl (by decide) (by decide) [0, 1, 2, 3] rfl rfl (by decide) (fun H locs hP hD hS => ?_)
        refine W.lcmp hx hb dL_law_225 ?_
        refine lv_if_eq (tgt := 319) hx hb dL_law_226 (by decide) (fun _ => ?_) (fun h9 => absurd (sj_cmp0.mpr rfl) h9)
        refine W.widen (k := 4 + 4 * (t + 1)) (n := 8196 + 66 * (t + 1)) (by omega) (by omega) ?_
        exact nxt h3 (n) (f) (hn) H locs hP hD hS ls (lv_sub hl [0, 1, 2, 3] rfl)
      · subst ej0
        refine lv_tableIn (off := 198) (tgt := 231) hx hb dL_law_33 (by decide) (by decide) (by decide) (by decide) ?_
        refine lv_aload_n hx hb dL_law_231 rfl (lv_at hl 1 rfl) ?_
        refine lv_aload_n hx hb dL_law_232 rfl (lv_at hl 0 rfl) ?_
        refine lv_iload_n hx hb dL_law_233 rfl (lv_at hl 3 rfl) ?_
        refine lv_iconst (v := nI 1) hx hb dL_law_234 (by decide) ?_
        refine lv_iadd hx hb dL_law_235 ?_
        refine sj_ti (nI (6 * t + 1)) (nI_add (6 * t) 1) ?_
        refine sj_sld hx hb hX hbl hbA hS (j := 6 * t + 1) (by omega) hL dL_law_236 ?_
        refine lv_aload_n hx hb dL_law_237 rfl (lv_at hl 0 rfl) ?_
        refine lv_iload_n hx hb dL_law_238 rfl (lv_at hl 3 rfl) ?_
        refine lv_iconst (v := nI 2) hx hb dL_law_239 (by decide) ?_
        refine lv_iadd hx hb dL_law_240 ?_
        refine sj_ti (nI (6 * t + 2)) (nI_add (6 * t) 2) ?_
        refine sj_sld hx hb hX hbl hbA hS (j := 6 * t + 2) (by omega) hL dL_law_241 ?_
        refine lv_aload_n hx hb dL_law_242 rfl (lv_at hl 0 rfl) ?_
        refine lv_iload_n hx hb dL_law_243 rfl (lv_at hl 3 rfl) ?_
        refine lv_iconst (v := nI 3) hx hb dL_law_244 (by decide) ?_
        refine lv_iadd hx hb dL_law_245 ?_
        refine sj_ti (nI (6 * t + 3)) (nI_add (6 * t) 3) ?_
        refine sj_sld hx hb hX hbl hbA hS (j := 6 * t + 3) (by omega) hL dL_law_246 ?_
        refine sj_cl_ (wr := [(a1, .inr (1, [.ref t1, .int (nI n)])), (t1, .inl (cC, 4096, .inl f))]) (w1 := [(a0, .inr (0, [.ref t0, .int (nI n)])), (t0, .inl (cB, 4096, .inl f))]) (wf := [(a0, .inr (0, [.ref t0, .int (nI n)])), (t0, .inl (cB, 4096, .inl f)), (a1, .inr (1, [.ref t1, .int (nI n)])), (t1, .inl (cC, 4096, .inl f))]) (va_runV (As := [.int (xs (6 * t + 1)), .int (xs (6 * t + 2)), .int (xs (6 * t + 3))]) (rest := []) ⟨hx, hb, hml, hown, hts⟩ (met_X0_joinCrc l D tb _ a0 t0 n cB f (xs (6 * t + 1)) (xs (6 * t + 2)) (xs (6 * t + 3)) hn) (cwV 3 hts (lw_V q106 q107 q108 q7 q109) rfl rfl rfl (by decide +kernel) ⟨Nat.le_of_ble_eq_true rfl, Nat.le_of_ble_eq_true rfl⟩) (sj_preV hK hP hD hS hA hT [0, 1] rfl rfl (by decide) [0] rfl (ci := 0) (q0 := 0) rfl rfl) rfl rfl hl.1 rfl (lv_room (Nat.le_of_ble_eq_true rfl)) dL_law_247 ⟨(by show _ ≤ 600000; omega), (by show _ ≤ 7302250; omega)⟩) hP hD hS hA [0, 1] [2, 3] rfl rfl (by decide) (by decide) [2, 3, 0, 1] rfl rfl (by decide) (fun H locs hP hD hS => ?_)
        refine lv_aload_n hx hb dL_law_250 rfl (lv_at hl 2 rfl) ?_
        refine lv_aload_n hx hb dL_law_251 rfl (lv_at hl 0 rfl) ?_
        refine lv_iload_n hx hb dL_law_252 rfl (lv_at hl 3 rfl) ?_
        refine lv_iconst (v := nI 1) hx hb dL_law_253 (by decide) ?_
        refine lv_iadd hx hb dL_law_254 ?_
        refine sj_ti (nI (6 * t + 1)) (nI_add (6 * t) 1) ?_
        refine sj_sld hx hb hX hbl hbA hS (j := 6 * t + 1) (by omega) hL dL_law_255 ?_
        refine lv_aload_n hx hb dL_law_256 rfl (lv_at hl 0 rfl) ?_
        refine lv_iload_n hx hb dL_law_257 rfl (lv_at hl 3 rfl) ?_
        refine lv_iconst (v := nI 2) hx hb dL_law_258 (by decide) ?_
        refine lv_iadd hx hb dL_law_259 ?_
        refine sj_ti (nI (6 * t + 2)) (nI_add (6 * t) 2) ?_
        refine sj_sld hx hb hX hbl hbA hS (j := 6 * t + 2) (by omega) hL dL_law_260 ?_
        refine lv_aload_n hx hb dL_law_261 rfl (lv_at hl 0 rfl) ?_
        refine lv_iload_n hx hb dL_law_262 rfl (lv_at hl 3 rfl) ?_
        refine lv_iconst (v := nI 3) hx hb dL_law_263 (by decide) ?_
        refine lv_iadd hx hb dL_law_264 ?_
        refine sj_ti (nI (6 * t + 3)) (nI_add (6 * t) 3) ?_
        refine sj_sld hx hb hX hbl hbA hS (j := 6 * t + 3) (by omega) hL dL_law_265 ?_
        refine sj_cl_ (wr := [(a0, .inr (0, [.ref t0, .int (nI n)])), (t0, .inl (cB, 4096, .inl f))]) (w1 := [(a1, .inr (1, [.ref t1, .int (nI n)])), (t1, .inl (cC, 4096, .inl f))]) (wf := [(a0, .inr (0, [.ref t0, .int (nI n)])), (t0, .inl (cB, 4096, .inl f)), (a1, .inr (1, [.ref t1, .int (nI n)])), (t1, .inl (cC, 4096, .inl f))]) (va_runV (As := [.int (xs (6 * t + 1)), .int (xs (6 * t + 2)), .int (xs (6 * t + 3))]) (rest := [.long (sj_l (sj_cv f (sj_fr (xs (6 * t + 1)) n) (sj_fr (xs (6 * t + 2)) (n - sj_fr (xs (6 * t + 1)) n))))]) ⟨hx, hb, hml, hown, hts⟩ (met_X1_joinCrc l D tb _ a1 t1 n cC f (xs (6 * t + 1)) (xs (6 * t + 2)) (xs (6 * t + 3)) hn) (cwV 3 hts (lw_V q178 q179 q180 q8 q181) rfl rfl rfl (by decide +kernel) ⟨Nat.le_of_ble_eq_true rfl, Nat.le_of_ble_eq_true rfl⟩) (sj_preV hK hP hD hS hA hT [2, 3] rfl rfl (by decide) [1] rfl (ci := 1) (q0 := 2) rfl rfl) rfl rfl hl.1 rfl (lv_room (Nat.le_of_ble_eq_true rfl)) dL_law_266 ⟨(by show _ ≤ 600000; omega), (by show _ ≤ 7302250; omega)⟩) hP hD hS hA [2, 3] [0, 1] rfl rfl (by decide) (by decide) [0, 1, 2, 3] rfl rfl (by decide) (fun H locs hP hD hS => ?_)
        refine W.lcmp hx hb dL_law_269 ?_
        refine lv_if_eq (tgt := 319) hx hb dL_law_270 (by decide) (fun _ => ?_) (fun h9 => absurd (sj_cmp0.mpr rfl) h9)
        refine W.widen (k := 4 + 4 * (t + 1)) (n := 8196 + 66 * (t + 1)) (by omega) (by omega) ?_
        exact nxt h3 (n) (f) (hn) H locs hP hD hS ls (lv_sub hl [0, 1, 2, 3] rfl)
      · subst ej0
        refine lv_tableIn (off := 242) (tgt := 275) hx hb dL_law_33 (by decide) (by decide) (by decide) (by decide) ?_
        refine lv_aload_n hx hb dL_law_275 rfl (lv_at hl 1 rfl) ?_
        refine lv_aload_n hx hb dL_law_276 rfl (lv_at hl 0 rfl) ?_
        refine lv_iload_n hx hb dL_law_277 rfl (lv_at hl 3 rfl) ?_
        refine lv_iconst (v := nI 1) hx hb dL_law_278 (by decide) ?_
        refine lv_iadd hx hb dL_law_279 ?_
        refine sj_ti (nI (6 * t + 1)) (nI_add (6 * t) 1) ?_
        refine sj_sld hx hb hX hbl hbA hS (j := 6 * t + 1) (by omega) hL dL_law_280 ?_
        refine lv_aload_n hx hb dL_law_281 rfl (lv_at hl 0 rfl) ?_
        refine lv_iload_n hx hb dL_law_282 rfl (lv_at hl 3 rfl) ?_
        refine lv_iconst (v := nI 2) hx hb dL_law_283 (by decide) ?_
        refine lv_iadd hx hb dL_law_284 ?_
        refine sj_ti (nI (6 * t + 2)) (nI_add (6 * t) 2) ?_
        refine sj_sld hx hb hX hbl hbA hS (j := 6 * t + 2) (by omega) hL dL_law_285 ?_
        refine lv_aload_n hx hb dL_law_286 rfl (lv_at hl 0 rfl) ?_
        refine lv_iload_n hx hb dL_law_287 rfl (lv_at hl 3 rfl) ?_
        refine lv_iconst (v := nI 3) hx hb dL_law_288 (by decide) ?_
        refine lv_iadd hx hb dL_law_289 ?_
        refine sj_ti (nI (6 * t + 3)) (nI_add (6 * t) 3) ?_
        refine sj_sld hx hb hX hbl hbA hS (j := 6 * t + 3) (by omega) hL dL_law_290 ?_
        refine sj_cl_ (wr := [(a1, .inr (1, [.ref t1, .int (nI n)])), (t1, .inl (cC, 4096, .inl f))]) (w1 := [(a0, .inr (0, [.ref t0, .int (nI n)])), (t0, .inl (cB, 4096, .inl f))]) (wf := [(a0, .inr (0, [.ref t0, .int (nI n)])), (t0, .inl (cB, 4096, .inl f)), (a1, .inr (1, [.ref t1, .int (nI n)])), (t1, .inl (cC, 4096, .inl f))]) (va_runV (As := [.int (xs (6 * t + 1)), .int (xs (6 * t + 2)), .int (xs (6 * t + 3))]) (rest := []) ⟨hx, hb, hml, hown, hts⟩ (met_X0_joinAdler l D tb _ a0 t0 n cB f (xs (6 * t + 1)) (xs (6 * t + 2)) (xs (6 * t + 3)) hn) (cwV 3 hts (lw_V q121 q122 q123 q7 q124) rfl rfl rfl (by decide +kernel) ⟨Nat.le_of_ble_eq_true rfl, Nat.le_of_ble_eq_true rfl⟩) (sj_preV hK hP hD hS hA hT [0, 1] rfl rfl (by decide) [0] rfl (ci := 0) (q0 := 0) rfl rfl) rfl rfl hl.1 rfl (lv_room (Nat.le_of_ble_eq_true rfl)) dL_law_291 ⟨(by show _ ≤ 600000; omega), (by show _ ≤ 7302250; omega)⟩) hP hD hS hA [0, 1] [2, 3] rfl rfl (by decide) (by decide) [2, 3, 0, 1] rfl rfl (by decide) (fun H locs hP hD hS => ?_)
        refine lv_aload_n hx hb dL_law_294 rfl (lv_at hl 2 rfl) ?_
        refine lv_aload_n hx hb dL_law_295 rfl (lv_at hl 0 rfl) ?_
        refine lv_iload_n hx hb dL_law_296 rfl (lv_at hl 3 rfl) ?_
        refine lv_iconst (v := nI 1) hx hb dL_law_297 (by decide) ?_
        refine lv_iadd hx hb dL_law_298 ?_
        refine sj_ti (nI (6 * t + 1)) (nI_add (6 * t) 1) ?_
        refine sj_sld hx hb hX hbl hbA hS (j := 6 * t + 1) (by omega) hL dL_law_299 ?_
        refine lv_aload_n hx hb dL_law_300 rfl (lv_at hl 0 rfl) ?_
        refine lv_iload_n hx hb dL_law_301 rfl (lv_at hl 3 rfl) ?_
        refine lv_iconst (v := nI 2) hx hb dL_law_302 (by decide) ?_
        refine lv_iadd hx hb dL_law_303 ?_
        refine sj_ti (nI (6 * t + 2)) (nI_add (6 * t) 2) ?_
        refine sj_sld hx hb hX hbl hbA hS (j := 6 * t + 2) (by omega) hL dL_law_304 ?_
        refine lv_aload_n hx hb dL_law_305 rfl (lv_at hl 0 rfl) ?_
        refine lv_iload_n hx hb dL_law_306 rfl (lv_at hl 3 rfl) ?_
        refine lv_iconst (v := nI 3) hx hb dL_law_307 (by decide) ?_
        refine lv_iadd hx hb dL_law_308 ?_
        refine sj_ti (nI (6 * t + 3)) (nI_add (6 * t) 3) ?_
        refine sj_sld hx hb hX hbl hbA hS (j := 6 * t + 3) (by omega) hL dL_law_309 ?_
        refine sj_cl_ (wr := [(a0, .inr (0, [.ref t0, .int (nI n)])), (t0, .inl (cB, 4096, .inl f))]) (w1 := [(a1, .inr (1, [.ref t1, .int (nI n)])), (t1, .inl (cC, 4096, .inl f))]) (wf := [(a0, .inr (0, [.ref t0, .int (nI n)])), (t0, .inl (cB, 4096, .inl f)), (a1, .inr (1, [.ref t1, .int (nI n)])), (t1, .inl (cC, 4096, .inl f))]) (va_runV (As := [.int (xs (6 * t + 1)), .int (xs (6 * t + 2)), .int (xs (6 * t + 3))]) (rest := [.long (lN (sj_av f (sj_fr (xs (6 * t + 1)) n) (sj_fr (xs (6 * t + 2)) (n - sj_fr (xs (6 * t + 1)) n))))]) ⟨hx, hb, hml, hown, hts⟩ (met_X1_joinAdler l D tb _ a1 t1 n cC f (xs (6 * t + 1)) (xs (6 * t + 2)) (xs (6 * t + 3)) hn) (cwV 3 hts (lw_V q183 q184 q185 q8 q186) rfl rfl rfl (by decide +kernel) ⟨Nat.le_of_ble_eq_true rfl, Nat.le_of_ble_eq_true rfl⟩) (sj_preV hK hP hD hS hA hT [2, 3] rfl rfl (by decide) [1] rfl (ci := 1) (q0 := 2) rfl rfl) rfl rfl hl.1 rfl (lv_room (Nat.le_of_ble_eq_true rfl)) dL_law_310 ⟨(by show _ ≤ 600000; omega), (by show _ ≤ 7302250; omega)⟩) hP hD hS hA [2, 3] [0, 1] rfl rfl (by decide) (by decide) [0, 1, 2, 3] rfl rfl (by decide) (fun H locs hP hD hS => ?_)
        refine W.lcmp hx hb dL_law_313 ?_
        refine lv_if_eq (tgt := 319) hx hb dL_law_314 (by decide) (fun _ => ?_) (fun h9 => absurd (sj_cmp0.mpr rfl) h9)
        refine W.widen (k := 4 + 4 * (t + 1)) (n := 8196 + 66 * (t + 1)) (by omega) (by omega) ?_
        exact nxt h3 (n) (f) (hn) H locs hP hD hS ls (lv_sub hl [0, 1, 2, 3] rfl)
      · refine lv_tableOut (tgt := 319) hx hb dL_law_33 (Or.inr (by rw [nI_toInt (by omega)]; omega)) (by decide) ?_
        refine W.widen (k := 4 + 4 * (t + 1)) (n := 8196 + 66 * (t + 1)) (by omega) (by omega) ?_
        exact nxt h3 n f hn H locs hP hD hS ls (lv_sub hl [0, 1, 2, 3] rfl)
set_option maxHeartbeats 4000000 in
set_option maxRecDepth 100000 in
/-- THE LAW, from its entry -/
theorem whole_start {p : Program} {e : Env} {s : State} {m : MethodId} {below : List Frame} {meth : Method} {c : Code} (l : Launch) (hflags : l.flags = flags0) {b L : Nat} {xs : Nat → Int32} (hL : L ≤ 384) (C0 : lw_At p s m meth c b L xs) : W p l e room_1 s m #[Value.ref b] below meth c s.heap [] 0 0 (lw_Z below #[Value.ref b] s) (entryFrame m ([Value.ref b] : List Value).toArray 4) := by
  obtain ⟨hx, hb, hr, hml, hown, hts0, hX, hbl, hlocks, hgv⟩ := id C0
  have hts : ∀ w ∈ lw_all, w.before #[Value.ref b] s = true := fun w h => hts0 w (lw_all_tbl h)
  have hA : ∀ q : Nat, s.heap.size ≤ q → (fun q : Nat => s.heap.size ≤ q) q := fun _ h => h
  have hbA : ¬ (fun q : Nat => s.heap.size ≤ q) b := Nat.not_le.mpr hbl
  obtain ⟨tb, hT⟩ := sj_start (A := (fun q : Nat => s.heap.size ≤ q)) hgv (hts0 _ q74) (hts _ q9) (fun a h => Nat.not_le.mpr h)
  obtain ⟨k0, i0, hKn0⟩ := u_known (C := RX0) (T := TX0) (N := 2) (n := 2) hts in_X0 (hts _ q12)
  obtain ⟨k1, i1, hKn1⟩ := u_known (C := RX1) (T := TX1) (N := 2) (n := 2) hts in_X1 (hts _ q130)
  obtain ⟨k2, i2, hKn2⟩ := u_known (C := RX2) (T := TX2) (N := 1) (n := 1) hts in_X2 (hts _ q60)
  obtain ⟨k3, i3, hKn3⟩ := u_known (C := RX3) (T := TX3) (N := 2) (n := 2) hts in_X3 (hts _ q81)
  obtain ⟨D, hKc⟩ : ∃ D : va_G, ∀ (k : Nat) (q : vw_C), vwCl[k]? = some q → u_Kn s q.1 q.2.1 q.2.2 (D.1 k) (D.2 k) := by
    refine ⟨(fun k => if k = 0 then k0 else if k = 1 then k1 else if k = 2 then k2 else k3, fun k => if k = 0 then i0 else if k = 1 then i1 else if k = 2 then i2 else i3), ?_⟩
    intro k q hq
    match k, hq with
    | 0, hq => cases hq; exact hKn0
    | 1, hq => cases hq; exact hKn1
    | 2, hq => cases hq; exact hKn2
    | 3, hq => cases hq; exact hKn3
    | k + 4, hq => simp [vwCl] at hq
  have hS : va_S (fun q : Nat => s.heap.size ≤ q) s.heap s.heap [] := va_S.rf
  have hK : va_K D vwCl [] s := ⟨hKc, fun k q h => by simp at h⟩
  have hP : va_P D vwCl [] s.heap := sj_nilP
  have hD : va_D (fun q : Nat => s.heap.size ≤ q) [] := sj_nilD
  have hl := lv_entry ([.ref b]) (n := 4) (Nat.le_of_ble_eq_true rfl)
  rw [lg_entry_eq]
  generalize (lg_sl ([.ref b]) ++ List.replicate (4 - (lg_sl ([.ref b])).length) Slot.unset).toArray = ls at hl ⊢
  have hl : lv_has ls 4 [(0, .ref b)] := hl
  refine va_new (ci := 0) (fs := [.null, .int 0]) (C := RX0) (T := TX0) (N := 2) hx hb hts in_X0 tyX0 tyX0_ok hown (hts _ q11) (hts _ q12) (hts _ q7) hK hP hD hS hA rfl (fun j hj => by rcases (show j = 0 ∨ j = 1 by omega) with rfl | rfl <;> rfl) (Nat.le_of_ble_eq_true rfl) (Nat.le_of_ble_eq_true rfl) dL_law_0 (fun a0 H hP hD hS => ?_)
  have hP : va_P D vwCl [(a0, .inr (0, [.null, .int 0]))] H := hP
  have hD : va_D (fun q : Nat => s.heap.size ≤ q) [(a0, .inr (0, [.null, .int 0]))] := hD
  refine lv_dup hx hb dL_law_3 rfl ?_
  have hFc := va_free (wc := [(a0, .inr (0, [.null, .int 0]))]) hD hS hA [0] rfl
  refine va_callv (va_runI (As := []) (rest := [.ref a0]) ⟨hx, hb, hml, hown, hts⟩ (met_X0_init l D tb _ a0) (cwI 0 hts (lw_meth q15) rfl rfl rfl (hts _ q7) (hts _ q13) (hts _ q14) rfl (by decide +kernel) ⟨Nat.le_of_ble_eq_true rfl, Nat.le_of_ble_eq_true rfl⟩) (sj_preS hK hP hD hS hA hT [0] rfl rfl (by decide) [] rfl) rfl rfl hl.1 rfl (lv_room (Nat.le_of_ble_eq_true rfl)) dL_law_4 ⟨Nat.le_of_ble_eq_true rfl, Nat.le_of_ble_eq_true rfl⟩) hS (fun q _ h => hFc q h) hFc (fun u t H1 locs ht hvm hw hB hz1 hk1 hS => ?_)
  obtain ⟨t0, cB⟩ := u
  obtain ⟨hP1, hK1, hD1⟩ := hB
  rw [ht] at hP1
  have hK1 := va_K.moved hvm.symm hK1
  obtain ⟨hP, hD⟩ := va_join (wr := []) (w1 := [(a0, .inr (0, [.ref t0, .int 0])), (t0, .inl (cB, 4096, .inl (fun _ => 0)))]) hP hD [0] [] rfl rfl (by decide) (by decide) hk1 hFc hP1 hD1
  have hK := hK.app hK1
  generalize H1 = H at hP hS ⊢
  have hP : va_P D vwCl [(a0, .inr (0, [.ref t0, .int 0])), (t0, .inl (cB, 4096, .inl (fun _ => 0)))] H := hP
  have hD : va_D (fun q : Nat => s.heap.size ≤ q) [(a0, .inr (0, [.ref t0, .int 0])), (t0, .inl (cB, 4096, .inl (fun _ => 0)))] := hD
  have hK : va_K D vwCl [(cB, .byte)] s := hK
  refine lv_astore_n (lv' := [(1, .ref a0), (0, .ref b)]) hx hb dL_law_7 rfl hl (by decide) rfl (fun ls hl => ?_)
  refine va_new (ci := 1) (fs := [.null, .int 0]) (C := RX1) (T := TX1) (N := 2) hx hb hts in_X1 tyX1 tyX1_ok hown (hts _ q129) (hts _ q130) (hts _ q8) hK hP hD hS hA rfl (fun j hj => by rcases (show j = 0 ∨ j = 1 by omega) with rfl | rfl <;> rfl) (Nat.le_of_ble_eq_true rfl) (Nat.le_of_ble_eq_true rfl) dL_law_8 (fun a1 H hP hD hS => ?_)
  have hP : va_P D vwCl [(a0, .inr (0, [.ref t0, .int 0])), (t0, .inl (cB, 4096, .inl (fun _ => 0))), (a1, .inr (1, [.null, .int 0]))] H := hP
  have hD : va_D (fun q : Nat => s.heap.size ≤ q) [(a0, .inr (0, [.ref t0, .int 0])), (t0, .inl (cB, 4096, .inl (fun _ => 0))), (a1, .inr (1, [.null, .int 0]))] := hD
  refine lv_dup hx hb dL_law_11 rfl ?_
  have hFc := va_free (wc := [(a1, .inr (1, [.null, .int 0]))]) hD hS hA [2] rfl
  refine va_callv (va_runI (As := []) (rest := [.ref a1]) ⟨hx, hb, hml, hown, hts⟩ (met_X1_init l D tb _ a1) (cwI 0 hts (lw_meth q133) rfl rfl rfl (hts _ q8) (hts _ q131) (hts _ q132) rfl (by decide +kernel) ⟨Nat.le_of_ble_eq_true rfl, Nat.le_of_ble_eq_true rfl⟩) (sj_preS hK hP hD hS hA hT [2] rfl rfl (by decide) [] rfl) rfl rfl hl.1 rfl (lv_room (Nat.le_of_ble_eq_true rfl)) dL_law_12 ⟨Nat.le_of_ble_eq_true rfl, Nat.le_of_ble_eq_true rfl⟩) hS (fun q _ h => hFc q h) hFc (fun u t H1 locs ht hvm hw hB hz1 hk1 hS => ?_)
  obtain ⟨t1, cC⟩ := u
  obtain ⟨hP1, hK1, hD1⟩ := hB
  rw [ht] at hP1
  have hK1 := va_K.moved hvm.symm hK1
  obtain ⟨hP, hD⟩ := va_join (wr := [(a0, .inr (0, [.ref t0, .int 0])), (t0, .inl (cB, 4096, .inl (fun _ => 0)))]) (w1 := [(a1, .inr (1, [.ref t1, .int 0])), (t1, .inl (cC, 4096, .inl (fun _ => 0)))]) hP hD [2] [0, 1] rfl rfl (by decide) (by decide) hk1 hFc hP1 hD1
  have hK := hK.app hK1
  generalize H1 = H at hP hS ⊢
  have hP : va_P D vwCl [(a0, .inr (0, [.ref t0, .int 0])), (t0, .inl (cB, 4096, .inl (fun _ => 0))), (a1, .inr (1, [.ref t1, .int 0])), (t1, .inl (cC, 4096, .inl (fun _ => 0)))] H := hP
  have hD : va_D (fun q : Nat => s.heap.size ≤ q) [(a0, .inr (0, [.ref t0, .int 0])), (t0, .inl (cB, 4096, .inl (fun _ => 0))), (a1, .inr (1, [.ref t1, .int 0])), (t1, .inl (cC, 4096, .inl (fun _ => 0)))] := hD
  have hK : va_K D vwCl [(cB, .byte), (cC, .byte)] s := hK
  refine lv_astore_n (lv' := [(2, .ref a1), (1, .ref a0), (0, .ref b)]) hx hb dL_law_15 rfl hl (by decide) rfl (fun ls hl => ?_)
  refine lv_iconst (v := nI (6 * 0)) hx hb dL_law_16 (by decide) ?_
  refine lv_istore_n (lv' := [(3, .int (nI (6 * 0))), (2, .ref a1), (1, .ref a0), (0, .ref b)]) hx hb dL_law_17 rfl hl (by decide) rfl (fun ls hl => ?_)
  exact sj_loop hL C0 hT hK 65 0 0 (fun _ => 0) (by omega) (by omega) (by omega) H locs hP hD hS ls (lv_sub hl [3, 2, 1, 0] rfl)
end
section
set_option maxRecDepth 100000
set_option maxHeartbeats 4000000 in
theorem lw_walk (l : Launch) (hflags : l.flags = flags0) (b : Addr) (xs : List Int32) : MetFree l x (headSpec (Jvm.Cond.code x code maxLocals ret :: tables_1) room_1) (lw_P b xs) (fun _ _ _ _ _ => True) lw_Q := by
  refine MetFree.of_bodyS (code := code) (maxLocals := maxLocals) (ret := ret) (by decide) ?_ ?_
  · intro args s m h hn
    obtain ⟨meth, c, h1, h2, h3, h4, h5, h6, -, -⟩ := Cond.code_spec hn (atoms_spec (ws := Jvm.Cond.code x code maxLocals ret :: tables_1) h _ List.mem_cons_self)
    exact ⟨meth, c, h1, h2, h3, h4, h5, h6⟩
  · intro p e s m args below meth c s₁ B hml0 hP _
    obtain ⟨rfl, hx, hbd, hgv⟩ := hP
    obtain ⟨scr, harrAt, hlist, hof, hsmall⟩ := hx
    obtain ⟨hcb, hkn, -, -⟩ := State.arrayAt?_spec harrAt
    have hown : s.vm.findClass R_law = some m.cls := findClass_of_methodNamed B.named
    have hts0 : ∀ c ∈ (Jvm.Cond.code x code maxLocals ret :: tables_1), c.before #[Value.ref b] s = true := atoms_spec (ws := Jvm.Cond.code x code maxLocals ret :: tables_1) B.pre
    have hts : ∀ w ∈ lw_tbl, w.before #[Value.ref b] s = true := k2_hts_sels lw_privs (fun w hw => hts0 w (List.mem_cons_of_mem _ hw)) lw_privs_ok
    have hml : c.maxLocals = 4 := B.maxLocals_eq (hts0 _ List.mem_cons_self)
    have X₀ : Stand p l e room_1 s m #[Value.ref b] below meth c s₁ [] 0 0 := Stand.of_body B
    have hh0 : s₁.heap = s.heap := by rw [B.state]; rfl
    have hsz : scr.slots.size = xs.length := by rw [← Array.length_toList, hlist, List.length_map]
    have hval : ∀ j : Nat, j < xs.length → scr.slots[j]? = some (.int (xs.getD j 0)) := fun j hj => by
      rw [← Array.getElem?_toList, hlist]
      simp [hj]
    have hbl : b < s.heap.size := (Array.getElem?_eq_some_iff.mp hcb).1
    have hX : va_X b xs.length (fun j => xs.getD j 0) s s.heap := ⟨scr, hcb, hof, hkn, hsz, hval⟩
    have K : W p l e room_1 s m #[Value.ref b] below meth c s₁.heap [] 0 0 (lw_Z below #[Value.ref b] s) (entryFrame m ([Value.ref b] : List Value).toArray 4) := by
      rw [hh0]
      exact whole_start l hflags hbd ⟨B.exec, B.bytes, B.returns, hml, hown, hts, hX, hbl, B.notSynchronized, hgv⟩
    obtain ⟨t, a1, o, b1, b2, b3⟩ := K s₁ rfl X₀
    exact ⟨t, o, a1, b1, b2, b3⟩
theorem lw_pre_spec {args : Array Value} {s : State} (h : (Jvm.Cond.and given_1 narrow_1).before args s = true) (hr : rest_1_c.before args s = true) : ∃ (b : Addr) (xs : List Int32), lw_P b xs args s := by
  have hs := flat_of_before _ h
  have hq := flat_of_before _ hr
  have hc : (Cond.count 1).before args s = true := hs _ (by decide +kernel)
  have harr : (Cond.arrayOf (.arg 0) .int).before args s = true := hs _ (by decide +kernel)
  have hle : (Cond.le (.length (.arg 0)) (.int 384)).before args s = true := hs _ (by decide +kernel)
  have hlen : (Cond.isInt (.length (.arg 0))).before args s = true := hq _ (by decide +kernel)
  have hall : (Cond.all (.arg 0) (.isInt (.elem (.arg 0) (.index 0)))).before args s = true := hq _ (by decide +kernel)
  obtain ⟨b, xs, hb, hx⟩ := State.ints_of_pre rfl harr hlen hall
  have hsm : xs.length < 2 ^ 31 := hx.choose_spec.2.2.2
  have hev : (Term.length (.arg 0)).eval args s none [] s = some (.int xs.length.toInt32) := hx.length_eval hb
  have hv := Cond.le_ints hev (show (Term.int 384).eval args s none [] s = some (.int 384) from rfl)
  have hd : xs.length.toInt32 ≤ 384 := by
    simpa [Cond.before, Cond.holds, hv] using hle
  have hN : xs.length ≤ 384 := (Int32.ofNat_le_ofNat hsm (by decide)).mp (show Int32.ofNat xs.length ≤ Int32.ofNat 384 from hd)
  exact ⟨b, xs, Cond.one_arg hc (show args[0]? = some (.ref b) from hb), hx, hN, h⟩
theorem lw_comes (l : Launch) (hflags : l.flags = flags0) : Comes l x (Jvm.Cond.code x code maxLocals ret :: tables_1) room_1 (fun tb e args s => Calls_1 tb e args s ∧ rest_1 tb e args s ∧ Pre_1 tb e args s)
    (fun _ _ args s o t => lw_Q args s o t) := by
  intro p e ha hc hk s m args below hf hfit hheap happ hpre
  obtain ⟨b, xs, hP⟩ := lw_pre_spec hpre.2.2 hpre.2.1
  obtain ⟨k, o, h1, h2, h3, hQ⟩ := lw_walk l hflags b xs p e ha hc hk s m args below hf ((Spec.applies_iff_loose hf).mp happ).1 hP trivial
  exact ⟨k, o, h1, h2, h3, hQ⟩
theorem lw_frame {s t : State} {o : Outcome} {args : Array Value} (h : Framed s o t [] 600000 7302250) :
    Framed s o t (fieldLocs frame_1_writes args s ++ arrayLocs frame_1_arrays args s ++ staticLocs frame_1_statics s) 600000 7302250 := h
theorem lw_limb (L : Cond) (hL : ∀ (args : Array Value) (s t : State), L.after args s (.returned (some (.int 1))) t = true) :
    ArmFor flags0 classFile x code maxLocals ret World_1 tables_1 room_1 Calls_1 rest_1 Pre_1
      (fun tb e a s o t => postC L tb e a s o t ∧ Framed s o t (fieldLocs frame_1_writes a s ++ arrayLocs frame_1_arrays a s ++ staticLocs frame_1_statics s) 600000 7302250) := by
  intro l hflags _ _ p e ha hc hk s m args below hf hfit hheap happ hpre
  obtain ⟨k, o, h1, h2, h3, rfl, hF⟩ := lw_comes l hflags p e ha hc hk s m args below hf hfit hheap happ hpre
  exact ⟨k, _, h1, h2, h3, hL args s _, lw_frame hF⟩
theorem i_vc : Claimed_1_1 ∧ Claimed_1_2 := ⟨lw_limb limb_1_1 (fun args s t => by simp [limb_1_1, Cond.after, Cond.holds, Cond.value]), lw_limb limb_1_2 (fun args s t => Cond.after_iff.mpr (by
  first | (rw [show limb_1_2 = Cond.eq .result (.int 1) from rfl, Cond.eq_ints (x := 1) (y := 1) rfl rfl]; simp; done) | (simp [limb_1_2, Cond.value, Term.eval]; done)))⟩
end
