section
-- ===== PART A: goes FIRST, ahead of the names: the tables' words, and 'selects' of the private methods out of them =====
/-- a private method of a class that the tables say can be made, by its rows of tables_1 -/
def lw_okq (q : MethodName × Nat) : Prop := (q.1.cls ≠ "java/lang/invoke/MethodHandle" ∧ q.1.cls ≠ "java/lang/invoke/VarHandle") ∧ Cond.instantiable q.1.cls q.2 ∈ tables_1 ∧ Cond.privateMethod q.1 ∈ tables_1 ∧ Cond.instanceMethod q.1 ∈ tables_1
set_option maxRecDepth 100000
theorem lw_p0 : lw_okq (⟨"TurnDesk", "at", "(I)LCoordinate;"⟩, 2) := ⟨⟨by decide +kernel, by decide +kernel⟩, List.mem_of_getElem? (i := 9) rfl, List.mem_of_getElem? (i := 62) rfl, List.mem_of_getElem? (i := 63) rfl⟩
theorem lw_p1 : lw_okq (⟨"DD", "init", "(D)V"⟩, 2) := ⟨⟨by decide +kernel, by decide +kernel⟩, List.mem_of_getElem? (i := 95) rfl, List.mem_of_getElem? (i := 101) rfl, List.mem_of_getElem? (i := 102) rfl⟩
theorem lw_p2 : lw_okq (⟨"DD", "selfMultiply", "(DD)LDD;"⟩, 2) := ⟨⟨by decide +kernel, by decide +kernel⟩, List.mem_of_getElem? (i := 95) rfl, List.mem_of_getElem? (i := 120) rfl, List.mem_of_getElem? (i := 121) rfl⟩
theorem lw_p3 : lw_okq (⟨"DD", "selfAdd", "(DD)LDD;"⟩, 2) := ⟨⟨by decide +kernel, by decide +kernel⟩, List.mem_of_getElem? (i := 95) rfl, List.mem_of_getElem? (i := 136) rfl, List.mem_of_getElem? (i := 137) rfl⟩
theorem lw_p4 : lw_okq (⟨"TurnDesk", "place", "(LCoordinate;)I"⟩, 2) := ⟨⟨by decide +kernel, by decide +kernel⟩, List.mem_of_getElem? (i := 9) rfl, List.mem_of_getElem? (i := 148) rfl, List.mem_of_getElem? (i := 149) rfl⟩
def lw_privs_1 : List (MethodName × Nat) := [(⟨"TurnDesk", "at", "(I)LCoordinate;"⟩, 2), (⟨"DD", "init", "(D)V"⟩, 2), (⟨"DD", "selfMultiply", "(DD)LDD;"⟩, 2), (⟨"DD", "selfAdd", "(DD)LDD;"⟩, 2), (⟨"TurnDesk", "place", "(LCoordinate;)I"⟩, 2)]
theorem lw_r1 : ∀ q ∈ lw_privs_1, lw_okq q := List.forall_mem_cons.mpr ⟨lw_p0, List.forall_mem_cons.mpr ⟨lw_p1, List.forall_mem_cons.mpr ⟨lw_p2, List.forall_mem_cons.mpr ⟨lw_p3, List.forall_mem_cons.mpr ⟨lw_p4, fun _ h => absurd h List.not_mem_nil⟩⟩⟩⟩⟩
def lw_privs : List (MethodName × Nat) := lw_privs_1
def lw_tbl : List Cond := k2_sels lw_privs ++ tables_1
theorem lw_privs_ok : ∀ q ∈ lw_privs, lw_okq q := lw_r1
-- ===== ONE list of words for every method: the tables' words that hold all through a run =====
def lw_all : List Cond := lw_tbl.filter goodWord
/-- a word of the tables by its place: claim/WORDS.tsv -/
theorem lw_w {w : Cond} (i : Nat) (h : lw_tbl[i]? = some w) (g : goodWord w = true) : w ∈ lw_all := List.mem_filter.mpr ⟨List.mem_of_getElem? h, g⟩
theorem lw_all_tbl {w : Cond} (h : w ∈ lw_all) : w ∈ lw_tbl := (List.mem_filter.mp h).1
theorem lw_self : GoodIn lw_all lw_all := fun w h => ⟨h, good_of_word (List.mem_filter.mp h).2⟩
/-- a class's field words, by their places -/
theorem lw_in (ws : List Cond) (ps : List Nat) (hp : ws = ps.filterMap (fun i => lw_tbl[i]?)) (hg : ws.all goodWord = true) : ∀ w ∈ ws, w ∈ lw_all := by
  intro w h
  have h1 := List.all_eq_true.mp hg w h
  rw [hp] at h
  obtain ⟨i, -, hi⟩ := List.mem_filterMap.mp h
  exact lw_w i hi h1
/-- the words of a contract for the method y with code b, L locals, answer r -/
abbrev ws_ (y : MethodName) (b : ByteArray) (L : Nat) (r : Option FieldType) : List Cond := Cond.code y b L r :: lw_all
theorem lw_meth {y : MethodName} {b : ByteArray} {L : Nat} {r : Option FieldType} (h : Cond.code y b L r ∈ lw_all) : GoodIn lw_all (ws_ y b L r) := by
  intro w hw
  rcases List.mem_cons.mp hw with e | e
  · rw [e]
    exact lw_self _ h
  · exact lw_self _ e
theorem lw_app {a c : List Cond} (ha : ∀ w ∈ a, w ∈ lw_all) (hc : GoodIn lw_all c) : GoodIn lw_all (a ++ c) := by
  intro w hw
  rcases List.mem_append.mp hw with e | e
  · exact lw_self w (ha w e)
  · exact hc w e
/-- what a call through an object asks: cwV n hts (lw_V ..) -/
theorem lw_V {own : String} {idx : Nat} {C : String} {y : MethodName} {b : ByteArray} {L : Nat} {r : Option FieldType} (h1 : Cond.methodLink own idx y ∈ lw_all) (h2 : Cond.instanceMethod y ∈ lw_all) (h3 : Cond.selects C y y ∈ lw_all) (h4 : Cond.initialized C ∈ lw_all) (h5 : Cond.code y b L r ∈ lw_all) : GoodIn lw_all (wsV own idx C y (ws_ y b L r)) := by
  refine lw_app ?_ (lw_meth h5)
  intro w hw
  simp only [List.mem_cons, List.not_mem_nil, or_false] at hw
  rcases hw with e | e | e | e
  · rw [e]; exact h1
  · rw [e]; exact h2
  · rw [e]; exact h3
  · rw [e]; exact h4
/-- what a static call asks: va_cwS n hts (lw_S ..) -/
theorem lw_S {own : String} {idx : Nat} {y : MethodName} {b : ByteArray} {L : Nat} {r : Option FieldType} (h1 : Cond.methodLink own idx y ∈ lw_all) (h2 : Cond.static y ∈ lw_all) (h3 : Cond.initialized y.cls ∈ lw_all) (h4 : Cond.code y b L r ∈ lw_all) : GoodIn lw_all (va_wsS own idx y (ws_ y b L r)) := by
  refine lw_app ?_ (lw_meth h4)
  intro w hw
  simp only [List.mem_cons, List.not_mem_nil, or_false] at hw
  rcases hw with e | e | e
  · rw [e]; exact h1
  · rw [e]; exact h2
  · rw [e]; exact h3
/-- the words of a contract for a method WITH HANDLERS (hh: its table) -/
abbrev wsW_ (y : MethodName) (b : ByteArray) (L : Nat) (r : Option FieldType) (hh : List (Nat × Nat × Nat × Nat)) : List Cond := Cond.codeWith y b L r hh :: lw_all
theorem lw_methW {y : MethodName} {b : ByteArray} {L : Nat} {r : Option FieldType} {hh : List (Nat × Nat × Nat × Nat)} (h : Cond.codeWith y b L r hh ∈ lw_all) : GoodIn lw_all (wsW_ y b L r hh) := by
  intro w hw
  rcases List.mem_cons.mp hw with e | e
  · rw [e]
    exact lw_self _ h
  · exact lw_self _ e
/-- any list of words by their places (lw_in), good -/
theorem lw_good {ws : List Cond} (h : ∀ w ∈ ws, w ∈ lw_all) : GoodIn lw_all ws := fun w hw => lw_self w (h w hw)
/-- what a call of a method with handlers asks: vx_cwVW n hts (lw_VW ..), vx_cwSW n hts (lw_SW ..) -/
theorem lw_VW {own : String} {idx : Nat} {C : String} {y : MethodName} {b : ByteArray} {L : Nat} {r : Option FieldType} {hh : List (Nat × Nat × Nat × Nat)} (h1 : Cond.methodLink own idx y ∈ lw_all) (h2 : Cond.instanceMethod y ∈ lw_all) (h3 : Cond.selects C y y ∈ lw_all) (h4 : Cond.initialized C ∈ lw_all) (h5 : Cond.codeWith y b L r hh ∈ lw_all) : GoodIn lw_all (wsV own idx C y (wsW_ y b L r hh)) := by
  refine lw_app ?_ (lw_methW h5)
  intro w hw
  simp only [List.mem_cons, List.not_mem_nil, or_false] at hw
  rcases hw with e | e | e | e
  · rw [e]; exact h1
  · rw [e]; exact h2
  · rw [e]; exact h3
  · rw [e]; exact h4
theorem lw_SW {own : String} {idx : Nat} {y : MethodName} {b : ByteArray} {L : Nat} {r : Option FieldType} {hh : List (Nat × Nat × Nat × Nat)} (h1 : Cond.methodLink own idx y ∈ lw_all) (h2 : Cond.static y ∈ lw_all) (h3 : Cond.initialized y.cls ∈ lw_all) (h4 : Cond.codeWith y b L r hh ∈ lw_all) : GoodIn lw_all (va_wsS own idx y (wsW_ y b L r hh)) := by
  refine lw_app ?_ (lw_methW h4)
  intro w hw
  simp only [List.mem_cons, List.not_mem_nil, or_false] at hw
  rcases hw with e | e | e
  · rw [e]; exact h1
  · rw [e]; exact h2
  · rw [e]; exact h3
/-- a word by its place in its run of the tables -/
theorem lw_at {r : List Cond} (hr : ∀ w ∈ r, w ∈ lw_tbl) {w : Cond} (i : Nat) (h : r[i]? = some w) : w ∈ lw_tbl := hr w (List.mem_of_getElem? h)
theorem lw_g {w : Cond} (h : w ∈ lw_tbl) (g : goodWord w = true) : w ∈ lw_all := List.mem_filter.mpr ⟨h, g⟩
theorem lw_ms : ∀ w ∈ k2_sels lw_privs, w ∈ lw_tbl := fun w h => show w ∈ k2_sels lw_privs ++ tables_1 from List.mem_append_left _ h
theorem lw_m0 : ∀ w ∈ tables_1, w ∈ lw_tbl := fun w h => show w ∈ k2_sels lw_privs ++ tables_1 from List.mem_append_right (k2_sels lw_privs) h
theorem qs0 : (Cond.selects "TurnDesk" ⟨"TurnDesk", "at", "(I)LCoordinate;"⟩ ⟨"TurnDesk", "at", "(I)LCoordinate;"⟩) ∈ lw_all := lw_g (lw_at lw_ms 0 rfl) rfl
theorem qs1 : (Cond.selects "DD" ⟨"DD", "init", "(D)V"⟩ ⟨"DD", "init", "(D)V"⟩) ∈ lw_all := lw_g (lw_at lw_ms 1 rfl) rfl
theorem qs2 : (Cond.selects "DD" ⟨"DD", "selfMultiply", "(DD)LDD;"⟩ ⟨"DD", "selfMultiply", "(DD)LDD;"⟩) ∈ lw_all := lw_g (lw_at lw_ms 2 rfl) rfl
theorem qs3 : (Cond.selects "DD" ⟨"DD", "selfAdd", "(DD)LDD;"⟩ ⟨"DD", "selfAdd", "(DD)LDD;"⟩) ∈ lw_all := lw_g (lw_at lw_ms 3 rfl) rfl
theorem qs4 : (Cond.selects "TurnDesk" ⟨"TurnDesk", "place", "(LCoordinate;)I"⟩ ⟨"TurnDesk", "place", "(LCoordinate;)I"⟩) ∈ lw_all := lw_g (lw_at lw_ms 4 rfl) rfl
/-! DECODE ROWS BY BYTES: one lemma an opcode; a method's code is cut into short pieces once, and a row reads its own piece alone. -/
set_option maxRecDepth 100000
/-- the code has just these bytes from pc on -/
def DkAt (code : ByteArray) (pc : Nat) (bs : List UInt8) : Prop := ∀ (j : Nat) (b : UInt8), bs[j]? = some b → code.data.toList[pc + j]? = some b
/-- the piece W has the bytes bs from its place j on -/
def dkIn (W : List UInt8) (j : Nat) (bs : List UInt8) : Bool := decide ((W.drop j).take bs.length = bs)
theorem dk_seg {l W T : List UInt8} {o o2 : Nat} (h : l.drop o = W ++ T) (n : Nat) (hn : W.length = n) (ho : o + n = o2) : l.drop o2 = T := by
  subst ho
  rw [← List.drop_drop, h, List.drop_left' hn]
theorem dk_at {code : ByteArray} {W T bs : List UInt8} {o pc : Nat} (h : code.data.toList.drop o = W ++ T) (j : Nat) (hp : o + j = pc) (hw : dkIn W j bs = true) : DkAt code pc bs := by
  subst hp
  intro i b e
  have h1 := of_decide_eq_true hw
  have h2 : i < bs.length := (List.getElem?_eq_some_iff.mp e).1
  have h3 : W[j + i]? = some b := by
    rw [← h1, List.getElem?_take, if_pos h2, List.getElem?_drop] at e
    exact e
  have h4 : j + i < W.length := (List.getElem?_eq_some_iff.mp h3).1
  have h5 : (code.data.toList.drop o)[j + i]? = some b := by
    rw [h, List.getElem?_append_left h4]
    exact h3
  rw [List.getElem?_drop, ← Nat.add_assoc] at h5
  exact h5
theorem dk_u1 {A : ByteArray} {p : Nat} {b : UInt8} (h : A.data.toList[p]? = some b) : (Reader.u1 : Reader DecodeError Nat) A p = .ok (b.toNat, p + 1) := by
  obtain ⟨h1, h2⟩ := List.getElem?_eq_some_iff.mp h
  have h3 : p < A.size := by simpa using h1
  have h4 : A[p]'h3 = b := h2
  have e : (Reader.u1 : Reader DecodeError Nat) A p = (if h : p < A.size then .ok (A[p].toNat, p + 1) else .error (HasTruncated.truncated p)) := by
    show (do if h : p < A.size then do set (p + 1); Pure.pure A[p].toNat else MonadExcept.throw (HasTruncated.truncated p) : Reader DecodeError Nat) A p = _
    by_cases hi : p < A.size
    · rw [dif_pos hi, dif_pos hi]; rfl
    · rw [dif_neg hi, dif_neg hi]; rfl
  rw [e, dif_pos h3, h4]
theorem dk_bind {α β : Type} {r : Reader DecodeError α} {f : α → Reader DecodeError β} {A : ByteArray} {p s : Nat} {a : α} (h : r A p = .ok (a, s)) : (r >>= f) A p = f a A s := by
  show (do let (a, s) ← r A p; f a A s : Except DecodeError (β × Nat)) = _
  rw [h]
  rfl
theorem dk_map {α β : Type} {r : Reader DecodeError α} {g : α → β} {A : ByteArray} {p s : Nat} {a : α} (h : r A p = .ok (a, s)) : (g <$> r) A p = .ok (g a, s) := by
  show (do let (a, s) ← r A p; .ok (g a, s) : Except DecodeError (β × Nat)) = _
  rw [h]
  rfl
theorem dk_u2 {A : ByteArray} {p : Nat} {a b : UInt8} (h : A.data.toList[p]? = some a) (h2 : A.data.toList[p + 1]? = some b) : (Reader.u2 : Reader DecodeError Nat) A p = .ok (a.toNat * 256 + b.toNat, p + 2) := by
  show (Reader.u1 >>= fun hi => Reader.u1 >>= fun lo => Pure.pure (hi * 256 + lo) : Reader DecodeError Nat) A p = _
  rw [dk_bind (dk_u1 h), dk_bind (dk_u1 h2)]
  rfl
theorem dk_of {code : ByteArray} {pc n : Nat} {i : Instr} (h : Decoder.instr pc code pc = .ok (i, pc + n)) : decode code pc = .ok (i, n) := by
  have e : decode code pc = (match Decoder.instr pc code pc with | .error x => .error x | .ok (j, s) => .ok (j, s - pc)) := by
    show (do let (j, s) ← Decoder.instr pc code pc; Pure.pure (j, s - pc) : Except DecodeError (Instr × Nat)) = _
    cases Decoder.instr pc code pc <;> rfl
  rw [e, h]
  show Except.ok (i, pc + n - pc) = _
  rw [Nat.add_sub_cancel_left]
theorem dk_2 {code : ByteArray} {pc : Nat} (h : DkAt code pc [2]) : decode code pc = .ok (.iconst (-1), 1) := dk_of ((dk_bind (dk_u1 (h 0 _ rfl))).trans rfl)
theorem dk_3 {code : ByteArray} {pc : Nat} (h : DkAt code pc [3]) : decode code pc = .ok (.iconst 0, 1) := dk_of ((dk_bind (dk_u1 (h 0 _ rfl))).trans rfl)
theorem dk_4 {code : ByteArray} {pc : Nat} (h : DkAt code pc [4]) : decode code pc = .ok (.iconst 1, 1) := dk_of ((dk_bind (dk_u1 (h 0 _ rfl))).trans rfl)
theorem dk_5 {code : ByteArray} {pc : Nat} (h : DkAt code pc [5]) : decode code pc = .ok (.iconst 2, 1) := dk_of ((dk_bind (dk_u1 (h 0 _ rfl))).trans rfl)
theorem dk_6 {code : ByteArray} {pc : Nat} (h : DkAt code pc [6]) : decode code pc = .ok (.iconst 3, 1) := dk_of ((dk_bind (dk_u1 (h 0 _ rfl))).trans rfl)
theorem dk_7 {code : ByteArray} {pc : Nat} (h : DkAt code pc [7]) : decode code pc = .ok (.iconst 4, 1) := dk_of ((dk_bind (dk_u1 (h 0 _ rfl))).trans rfl)
theorem dk_9 {code : ByteArray} {pc : Nat} (h : DkAt code pc [9]) : decode code pc = .ok (.lconst 0, 1) := dk_of ((dk_bind (dk_u1 (h 0 _ rfl))).trans rfl)
theorem dk_14 {code : ByteArray} {pc : Nat} (h : DkAt code pc [14]) : decode code pc = .ok (.dconst 0, 1) := dk_of ((dk_bind (dk_u1 (h 0 _ rfl))).trans rfl)
theorem dk_16 {code : ByteArray} {pc : Nat} (a : UInt8) (h : DkAt code pc [16, a]) : decode code pc = .ok (.bipush (Reader.signed 8 a.toNat), 2) := dk_of ((dk_bind (dk_u1 (h 0 _ rfl))).trans ((dk_bind (dk_map (dk_u1 (h 1 _ rfl)))).trans rfl))
theorem dk_18 {code : ByteArray} {pc : Nat} (a : UInt8) (h : DkAt code pc [18, a]) : decode code pc = .ok (.ldc a.toNat, 2) := dk_of ((dk_bind (dk_u1 (h 0 _ rfl))).trans ((dk_bind (dk_u1 (h 1 _ rfl))).trans rfl))
theorem dk_20 {code : ByteArray} {pc : Nat} (a b : UInt8) (h : DkAt code pc [20, a, b]) : decode code pc = .ok (.ldc2_w (a.toNat * 256 + b.toNat), 3) := dk_of ((dk_bind (dk_u1 (h 0 _ rfl))).trans ((dk_bind (dk_u2 (h 1 _ rfl) (h 2 _ rfl))).trans rfl))
theorem dk_21 {code : ByteArray} {pc : Nat} (a : UInt8) (h : DkAt code pc [21, a]) : decode code pc = .ok (.iload a.toNat, 2) := dk_of ((dk_bind (dk_u1 (h 0 _ rfl))).trans ((dk_bind (dk_u1 (h 1 _ rfl))).trans rfl))
theorem dk_22 {code : ByteArray} {pc : Nat} (a : UInt8) (h : DkAt code pc [22, a]) : decode code pc = .ok (.lload a.toNat, 2) := dk_of ((dk_bind (dk_u1 (h 0 _ rfl))).trans ((dk_bind (dk_u1 (h 1 _ rfl))).trans rfl))
theorem dk_24 {code : ByteArray} {pc : Nat} (a : UInt8) (h : DkAt code pc [24, a]) : decode code pc = .ok (.dload a.toNat, 2) := dk_of ((dk_bind (dk_u1 (h 0 _ rfl))).trans ((dk_bind (dk_u1 (h 1 _ rfl))).trans rfl))
theorem dk_25 {code : ByteArray} {pc : Nat} (a : UInt8) (h : DkAt code pc [25, a]) : decode code pc = .ok (.aload a.toNat, 2) := dk_of ((dk_bind (dk_u1 (h 0 _ rfl))).trans ((dk_bind (dk_u1 (h 1 _ rfl))).trans rfl))
theorem dk_26 {code : ByteArray} {pc : Nat} (h : DkAt code pc [26]) : decode code pc = .ok (.iload_n 0, 1) := dk_of ((dk_bind (dk_u1 (h 0 _ rfl))).trans rfl)
theorem dk_27 {code : ByteArray} {pc : Nat} (h : DkAt code pc [27]) : decode code pc = .ok (.iload_n 1, 1) := dk_of ((dk_bind (dk_u1 (h 0 _ rfl))).trans rfl)
theorem dk_28 {code : ByteArray} {pc : Nat} (h : DkAt code pc [28]) : decode code pc = .ok (.iload_n 2, 1) := dk_of ((dk_bind (dk_u1 (h 0 _ rfl))).trans rfl)
theorem dk_29 {code : ByteArray} {pc : Nat} (h : DkAt code pc [29]) : decode code pc = .ok (.iload_n 3, 1) := dk_of ((dk_bind (dk_u1 (h 0 _ rfl))).trans rfl)
theorem dk_30 {code : ByteArray} {pc : Nat} (h : DkAt code pc [30]) : decode code pc = .ok (.lload_n 0, 1) := dk_of ((dk_bind (dk_u1 (h 0 _ rfl))).trans rfl)
theorem dk_32 {code : ByteArray} {pc : Nat} (h : DkAt code pc [32]) : decode code pc = .ok (.lload_n 2, 1) := dk_of ((dk_bind (dk_u1 (h 0 _ rfl))).trans rfl)
theorem dk_33 {code : ByteArray} {pc : Nat} (h : DkAt code pc [33]) : decode code pc = .ok (.lload_n 3, 1) := dk_of ((dk_bind (dk_u1 (h 0 _ rfl))).trans rfl)
theorem dk_38 {code : ByteArray} {pc : Nat} (h : DkAt code pc [38]) : decode code pc = .ok (.dload_n 0, 1) := dk_of ((dk_bind (dk_u1 (h 0 _ rfl))).trans rfl)
theorem dk_39 {code : ByteArray} {pc : Nat} (h : DkAt code pc [39]) : decode code pc = .ok (.dload_n 1, 1) := dk_of ((dk_bind (dk_u1 (h 0 _ rfl))).trans rfl)
theorem dk_40 {code : ByteArray} {pc : Nat} (h : DkAt code pc [40]) : decode code pc = .ok (.dload_n 2, 1) := dk_of ((dk_bind (dk_u1 (h 0 _ rfl))).trans rfl)
theorem dk_41 {code : ByteArray} {pc : Nat} (h : DkAt code pc [41]) : decode code pc = .ok (.dload_n 3, 1) := dk_of ((dk_bind (dk_u1 (h 0 _ rfl))).trans rfl)
theorem dk_42 {code : ByteArray} {pc : Nat} (h : DkAt code pc [42]) : decode code pc = .ok (.aload_n 0, 1) := dk_of ((dk_bind (dk_u1 (h 0 _ rfl))).trans rfl)
theorem dk_43 {code : ByteArray} {pc : Nat} (h : DkAt code pc [43]) : decode code pc = .ok (.aload_n 1, 1) := dk_of ((dk_bind (dk_u1 (h 0 _ rfl))).trans rfl)
theorem dk_44 {code : ByteArray} {pc : Nat} (h : DkAt code pc [44]) : decode code pc = .ok (.aload_n 2, 1) := dk_of ((dk_bind (dk_u1 (h 0 _ rfl))).trans rfl)
theorem dk_45 {code : ByteArray} {pc : Nat} (h : DkAt code pc [45]) : decode code pc = .ok (.aload_n 3, 1) := dk_of ((dk_bind (dk_u1 (h 0 _ rfl))).trans rfl)
theorem dk_46 {code : ByteArray} {pc : Nat} (h : DkAt code pc [46]) : decode code pc = .ok (.iaload, 1) := dk_of ((dk_bind (dk_u1 (h 0 _ rfl))).trans rfl)
theorem dk_47 {code : ByteArray} {pc : Nat} (h : DkAt code pc [47]) : decode code pc = .ok (.laload, 1) := dk_of ((dk_bind (dk_u1 (h 0 _ rfl))).trans rfl)
theorem dk_50 {code : ByteArray} {pc : Nat} (h : DkAt code pc [50]) : decode code pc = .ok (.aaload, 1) := dk_of ((dk_bind (dk_u1 (h 0 _ rfl))).trans rfl)
theorem dk_54 {code : ByteArray} {pc : Nat} (a : UInt8) (h : DkAt code pc [54, a]) : decode code pc = .ok (.istore a.toNat, 2) := dk_of ((dk_bind (dk_u1 (h 0 _ rfl))).trans ((dk_bind (dk_u1 (h 1 _ rfl))).trans rfl))
theorem dk_55 {code : ByteArray} {pc : Nat} (a : UInt8) (h : DkAt code pc [55, a]) : decode code pc = .ok (.lstore a.toNat, 2) := dk_of ((dk_bind (dk_u1 (h 0 _ rfl))).trans ((dk_bind (dk_u1 (h 1 _ rfl))).trans rfl))
theorem dk_57 {code : ByteArray} {pc : Nat} (a : UInt8) (h : DkAt code pc [57, a]) : decode code pc = .ok (.dstore a.toNat, 2) := dk_of ((dk_bind (dk_u1 (h 0 _ rfl))).trans ((dk_bind (dk_u1 (h 1 _ rfl))).trans rfl))
theorem dk_58 {code : ByteArray} {pc : Nat} (a : UInt8) (h : DkAt code pc [58, a]) : decode code pc = .ok (.astore a.toNat, 2) := dk_of ((dk_bind (dk_u1 (h 0 _ rfl))).trans ((dk_bind (dk_u1 (h 1 _ rfl))).trans rfl))
theorem dk_62 {code : ByteArray} {pc : Nat} (h : DkAt code pc [62]) : decode code pc = .ok (.istore_n 3, 1) := dk_of ((dk_bind (dk_u1 (h 0 _ rfl))).trans rfl)
theorem dk_74 {code : ByteArray} {pc : Nat} (h : DkAt code pc [74]) : decode code pc = .ok (.dstore_n 3, 1) := dk_of ((dk_bind (dk_u1 (h 0 _ rfl))).trans rfl)
theorem dk_76 {code : ByteArray} {pc : Nat} (h : DkAt code pc [76]) : decode code pc = .ok (.astore_n 1, 1) := dk_of ((dk_bind (dk_u1 (h 0 _ rfl))).trans rfl)
theorem dk_77 {code : ByteArray} {pc : Nat} (h : DkAt code pc [77]) : decode code pc = .ok (.astore_n 2, 1) := dk_of ((dk_bind (dk_u1 (h 0 _ rfl))).trans rfl)
theorem dk_78 {code : ByteArray} {pc : Nat} (h : DkAt code pc [78]) : decode code pc = .ok (.astore_n 3, 1) := dk_of ((dk_bind (dk_u1 (h 0 _ rfl))).trans rfl)
theorem dk_80 {code : ByteArray} {pc : Nat} (h : DkAt code pc [80]) : decode code pc = .ok (.lastore, 1) := dk_of ((dk_bind (dk_u1 (h 0 _ rfl))).trans rfl)
theorem dk_83 {code : ByteArray} {pc : Nat} (h : DkAt code pc [83]) : decode code pc = .ok (.aastore, 1) := dk_of ((dk_bind (dk_u1 (h 0 _ rfl))).trans rfl)
theorem dk_89 {code : ByteArray} {pc : Nat} (h : DkAt code pc [89]) : decode code pc = .ok (.dup, 1) := dk_of ((dk_bind (dk_u1 (h 0 _ rfl))).trans rfl)
theorem dk_96 {code : ByteArray} {pc : Nat} (h : DkAt code pc [96]) : decode code pc = .ok (.iadd, 1) := dk_of ((dk_bind (dk_u1 (h 0 _ rfl))).trans rfl)
theorem dk_97 {code : ByteArray} {pc : Nat} (h : DkAt code pc [97]) : decode code pc = .ok (.ladd, 1) := dk_of ((dk_bind (dk_u1 (h 0 _ rfl))).trans rfl)
theorem dk_99 {code : ByteArray} {pc : Nat} (h : DkAt code pc [99]) : decode code pc = .ok (.dadd, 1) := dk_of ((dk_bind (dk_u1 (h 0 _ rfl))).trans rfl)
theorem dk_100 {code : ByteArray} {pc : Nat} (h : DkAt code pc [100]) : decode code pc = .ok (.isub, 1) := dk_of ((dk_bind (dk_u1 (h 0 _ rfl))).trans rfl)
theorem dk_101 {code : ByteArray} {pc : Nat} (h : DkAt code pc [101]) : decode code pc = .ok (.lsub, 1) := dk_of ((dk_bind (dk_u1 (h 0 _ rfl))).trans rfl)
theorem dk_103 {code : ByteArray} {pc : Nat} (h : DkAt code pc [103]) : decode code pc = .ok (.dsub, 1) := dk_of ((dk_bind (dk_u1 (h 0 _ rfl))).trans rfl)
theorem dk_105 {code : ByteArray} {pc : Nat} (h : DkAt code pc [105]) : decode code pc = .ok (.lmul, 1) := dk_of ((dk_bind (dk_u1 (h 0 _ rfl))).trans rfl)
theorem dk_107 {code : ByteArray} {pc : Nat} (h : DkAt code pc [107]) : decode code pc = .ok (.dmul, 1) := dk_of ((dk_bind (dk_u1 (h 0 _ rfl))).trans rfl)
theorem dk_112 {code : ByteArray} {pc : Nat} (h : DkAt code pc [112]) : decode code pc = .ok (.irem, 1) := dk_of ((dk_bind (dk_u1 (h 0 _ rfl))).trans rfl)
theorem dk_116 {code : ByteArray} {pc : Nat} (h : DkAt code pc [116]) : decode code pc = .ok (.ineg, 1) := dk_of ((dk_bind (dk_u1 (h 0 _ rfl))).trans rfl)
theorem dk_119 {code : ByteArray} {pc : Nat} (h : DkAt code pc [119]) : decode code pc = .ok (.dneg, 1) := dk_of ((dk_bind (dk_u1 (h 0 _ rfl))).trans rfl)
theorem dk_122 {code : ByteArray} {pc : Nat} (h : DkAt code pc [122]) : decode code pc = .ok (.ishr, 1) := dk_of ((dk_bind (dk_u1 (h 0 _ rfl))).trans rfl)
theorem dk_123 {code : ByteArray} {pc : Nat} (h : DkAt code pc [123]) : decode code pc = .ok (.lshr, 1) := dk_of ((dk_bind (dk_u1 (h 0 _ rfl))).trans rfl)
theorem dk_126 {code : ByteArray} {pc : Nat} (h : DkAt code pc [126]) : decode code pc = .ok (.iand, 1) := dk_of ((dk_bind (dk_u1 (h 0 _ rfl))).trans rfl)
theorem dk_132 {code : ByteArray} {pc : Nat} (a b : UInt8) (h : DkAt code pc [132, a, b]) : decode code pc = .ok (.iinc a.toNat (Reader.signed 8 b.toNat), 3) := dk_of ((dk_bind (dk_u1 (h 0 _ rfl))).trans ((dk_bind (dk_u1 (h 1 _ rfl))).trans ((dk_bind (dk_map (dk_u1 (h 2 _ rfl)))).trans rfl)))
theorem dk_133 {code : ByteArray} {pc : Nat} (h : DkAt code pc [133]) : decode code pc = .ok (.i2l, 1) := dk_of ((dk_bind (dk_u1 (h 0 _ rfl))).trans rfl)
theorem dk_135 {code : ByteArray} {pc : Nat} (h : DkAt code pc [135]) : decode code pc = .ok (.i2d, 1) := dk_of ((dk_bind (dk_u1 (h 0 _ rfl))).trans rfl)
theorem dk_138 {code : ByteArray} {pc : Nat} (h : DkAt code pc [138]) : decode code pc = .ok (.l2d, 1) := dk_of ((dk_bind (dk_u1 (h 0 _ rfl))).trans rfl)
theorem dk_143 {code : ByteArray} {pc : Nat} (h : DkAt code pc [143]) : decode code pc = .ok (.d2l, 1) := dk_of ((dk_bind (dk_u1 (h 0 _ rfl))).trans rfl)
theorem dk_148 {code : ByteArray} {pc : Nat} (h : DkAt code pc [148]) : decode code pc = .ok (.lcmp, 1) := dk_of ((dk_bind (dk_u1 (h 0 _ rfl))).trans rfl)
theorem dk_151 {code : ByteArray} {pc : Nat} (h : DkAt code pc [151]) : decode code pc = .ok (.dcmp .l, 1) := dk_of ((dk_bind (dk_u1 (h 0 _ rfl))).trans rfl)
theorem dk_152 {code : ByteArray} {pc : Nat} (h : DkAt code pc [152]) : decode code pc = .ok (.dcmp .g, 1) := dk_of ((dk_bind (dk_u1 (h 0 _ rfl))).trans rfl)
theorem dk_153 {code : ByteArray} {pc : Nat} (a b : UInt8) (h : DkAt code pc [153, a, b]) : decode code pc = .ok (.ifCond .eq (Reader.signed 16 (a.toNat * 256 + b.toNat)), 3) := dk_of ((dk_bind (dk_u1 (h 0 _ rfl))).trans ((dk_bind (dk_map (dk_u2 (h 1 _ rfl) (h 2 _ rfl)))).trans rfl))
theorem dk_154 {code : ByteArray} {pc : Nat} (a b : UInt8) (h : DkAt code pc [154, a, b]) : decode code pc = .ok (.ifCond .ne (Reader.signed 16 (a.toNat * 256 + b.toNat)), 3) := dk_of ((dk_bind (dk_u1 (h 0 _ rfl))).trans ((dk_bind (dk_map (dk_u2 (h 1 _ rfl) (h 2 _ rfl)))).trans rfl))
theorem dk_155 {code : ByteArray} {pc : Nat} (a b : UInt8) (h : DkAt code pc [155, a, b]) : decode code pc = .ok (.ifCond .lt (Reader.signed 16 (a.toNat * 256 + b.toNat)), 3) := dk_of ((dk_bind (dk_u1 (h 0 _ rfl))).trans ((dk_bind (dk_map (dk_u2 (h 1 _ rfl) (h 2 _ rfl)))).trans rfl))
theorem dk_156 {code : ByteArray} {pc : Nat} (a b : UInt8) (h : DkAt code pc [156, a, b]) : decode code pc = .ok (.ifCond .ge (Reader.signed 16 (a.toNat * 256 + b.toNat)), 3) := dk_of ((dk_bind (dk_u1 (h 0 _ rfl))).trans ((dk_bind (dk_map (dk_u2 (h 1 _ rfl) (h 2 _ rfl)))).trans rfl))
theorem dk_157 {code : ByteArray} {pc : Nat} (a b : UInt8) (h : DkAt code pc [157, a, b]) : decode code pc = .ok (.ifCond .gt (Reader.signed 16 (a.toNat * 256 + b.toNat)), 3) := dk_of ((dk_bind (dk_u1 (h 0 _ rfl))).trans ((dk_bind (dk_map (dk_u2 (h 1 _ rfl) (h 2 _ rfl)))).trans rfl))
theorem dk_158 {code : ByteArray} {pc : Nat} (a b : UInt8) (h : DkAt code pc [158, a, b]) : decode code pc = .ok (.ifCond .le (Reader.signed 16 (a.toNat * 256 + b.toNat)), 3) := dk_of ((dk_bind (dk_u1 (h 0 _ rfl))).trans ((dk_bind (dk_map (dk_u2 (h 1 _ rfl) (h 2 _ rfl)))).trans rfl))
theorem dk_159 {code : ByteArray} {pc : Nat} (a b : UInt8) (h : DkAt code pc [159, a, b]) : decode code pc = .ok (.if_icmp .eq (Reader.signed 16 (a.toNat * 256 + b.toNat)), 3) := dk_of ((dk_bind (dk_u1 (h 0 _ rfl))).trans ((dk_bind (dk_map (dk_u2 (h 1 _ rfl) (h 2 _ rfl)))).trans rfl))
theorem dk_160 {code : ByteArray} {pc : Nat} (a b : UInt8) (h : DkAt code pc [160, a, b]) : decode code pc = .ok (.if_icmp .ne (Reader.signed 16 (a.toNat * 256 + b.toNat)), 3) := dk_of ((dk_bind (dk_u1 (h 0 _ rfl))).trans ((dk_bind (dk_map (dk_u2 (h 1 _ rfl) (h 2 _ rfl)))).trans rfl))
theorem dk_161 {code : ByteArray} {pc : Nat} (a b : UInt8) (h : DkAt code pc [161, a, b]) : decode code pc = .ok (.if_icmp .lt (Reader.signed 16 (a.toNat * 256 + b.toNat)), 3) := dk_of ((dk_bind (dk_u1 (h 0 _ rfl))).trans ((dk_bind (dk_map (dk_u2 (h 1 _ rfl) (h 2 _ rfl)))).trans rfl))
theorem dk_162 {code : ByteArray} {pc : Nat} (a b : UInt8) (h : DkAt code pc [162, a, b]) : decode code pc = .ok (.if_icmp .ge (Reader.signed 16 (a.toNat * 256 + b.toNat)), 3) := dk_of ((dk_bind (dk_u1 (h 0 _ rfl))).trans ((dk_bind (dk_map (dk_u2 (h 1 _ rfl) (h 2 _ rfl)))).trans rfl))
theorem dk_163 {code : ByteArray} {pc : Nat} (a b : UInt8) (h : DkAt code pc [163, a, b]) : decode code pc = .ok (.if_icmp .gt (Reader.signed 16 (a.toNat * 256 + b.toNat)), 3) := dk_of ((dk_bind (dk_u1 (h 0 _ rfl))).trans ((dk_bind (dk_map (dk_u2 (h 1 _ rfl) (h 2 _ rfl)))).trans rfl))
theorem dk_167 {code : ByteArray} {pc : Nat} (a b : UInt8) (h : DkAt code pc [167, a, b]) : decode code pc = .ok (.goto (Reader.signed 16 (a.toNat * 256 + b.toNat)), 3) := dk_of ((dk_bind (dk_u1 (h 0 _ rfl))).trans ((dk_bind (dk_map (dk_u2 (h 1 _ rfl) (h 2 _ rfl)))).trans rfl))
theorem dk_172 {code : ByteArray} {pc : Nat} (h : DkAt code pc [172]) : decode code pc = .ok (.ireturn, 1) := dk_of ((dk_bind (dk_u1 (h 0 _ rfl))).trans rfl)
theorem dk_176 {code : ByteArray} {pc : Nat} (h : DkAt code pc [176]) : decode code pc = .ok (.areturn, 1) := dk_of ((dk_bind (dk_u1 (h 0 _ rfl))).trans rfl)
theorem dk_177 {code : ByteArray} {pc : Nat} (h : DkAt code pc [177]) : decode code pc = .ok (.return_, 1) := dk_of ((dk_bind (dk_u1 (h 0 _ rfl))).trans rfl)
theorem dk_180 {code : ByteArray} {pc : Nat} (a b : UInt8) (h : DkAt code pc [180, a, b]) : decode code pc = .ok (.getfield (a.toNat * 256 + b.toNat), 3) := dk_of ((dk_bind (dk_u1 (h 0 _ rfl))).trans ((dk_bind (dk_u2 (h 1 _ rfl) (h 2 _ rfl))).trans rfl))
theorem dk_181 {code : ByteArray} {pc : Nat} (a b : UInt8) (h : DkAt code pc [181, a, b]) : decode code pc = .ok (.putfield (a.toNat * 256 + b.toNat), 3) := dk_of ((dk_bind (dk_u1 (h 0 _ rfl))).trans ((dk_bind (dk_u2 (h 1 _ rfl) (h 2 _ rfl))).trans rfl))
theorem dk_182 {code : ByteArray} {pc : Nat} (a b : UInt8) (h : DkAt code pc [182, a, b]) : decode code pc = .ok (.invokevirtual (a.toNat * 256 + b.toNat), 3) := dk_of ((dk_bind (dk_u1 (h 0 _ rfl))).trans ((dk_bind (dk_u2 (h 1 _ rfl) (h 2 _ rfl))).trans rfl))
theorem dk_183 {code : ByteArray} {pc : Nat} (a b : UInt8) (h : DkAt code pc [183, a, b]) : decode code pc = .ok (.invokespecial (a.toNat * 256 + b.toNat), 3) := dk_of ((dk_bind (dk_u1 (h 0 _ rfl))).trans ((dk_bind (dk_u2 (h 1 _ rfl) (h 2 _ rfl))).trans rfl))
theorem dk_184 {code : ByteArray} {pc : Nat} (a b : UInt8) (h : DkAt code pc [184, a, b]) : decode code pc = .ok (.invokestatic (a.toNat * 256 + b.toNat), 3) := dk_of ((dk_bind (dk_u1 (h 0 _ rfl))).trans ((dk_bind (dk_u2 (h 1 _ rfl) (h 2 _ rfl))).trans rfl))
theorem dk_187 {code : ByteArray} {pc : Nat} (a b : UInt8) (h : DkAt code pc [187, a, b]) : decode code pc = .ok (.new (a.toNat * 256 + b.toNat), 3) := dk_of ((dk_bind (dk_u1 (h 0 _ rfl))).trans ((dk_bind (dk_u2 (h 1 _ rfl) (h 2 _ rfl))).trans rfl))
theorem dk_188_11 {code : ByteArray} {pc : Nat} (h : DkAt code pc [188, 11]) : decode code pc = .ok (.newarray .long, 2) := dk_of ((dk_bind (dk_u1 (h 0 _ rfl))).trans ((dk_bind (dk_u1 (h 1 _ rfl))).trans rfl))
theorem dk_189 {code : ByteArray} {pc : Nat} (a b : UInt8) (h : DkAt code pc [189, a, b]) : decode code pc = .ok (.anewarray (a.toNat * 256 + b.toNat), 3) := dk_of ((dk_bind (dk_u1 (h 0 _ rfl))).trans ((dk_bind (dk_u2 (h 1 _ rfl) (h 2 _ rfl))).trans rfl))
theorem dk_190 {code : ByteArray} {pc : Nat} (h : DkAt code pc [190]) : decode code pc = .ok (.arraylength, 1) := dk_of ((dk_bind (dk_u1 (h 0 _ rfl))).trans rfl)
end
section
/-! java/lang/Object -/
set_option maxRecDepth 100000
def RJ1 : String := "java/lang/Object"
abbrev cJ1_init : ByteArray := object_method_1_code
def yJ1_init : MethodName := ⟨RJ1, "<init>", "()V"⟩
theorem dJ1_init_0 : decode cJ1_init 0 = .ok (.return_, 1) := by decide +kernel
theorem q19 : (Jvm.Cond.instanceMethod ({ cls := "java/lang/Object", name := "<init>", desc := "()V" } : Jvm.MethodName)) ∈ lw_all := lw_g (lw_at lw_m0 14 rfl) rfl
theorem q20 : (Jvm.Cond.code ({ cls := "java/lang/Object", name := "<init>", desc := "()V" } : Jvm.MethodName) object_method_1_code (1 : Nat) (Option.none : Option Jvm.ClassFile.FieldType)) ∈ lw_all := lw_g (lw_at lw_m0 15 rfl) rfl
/-! java/lang/Double -/
set_option maxRecDepth 100000
def RJ0 : String := "java/lang/Double"
abbrev cJ0_isNaN : ByteArray := prog_9_method_6_code
def yJ0_isNaN : MethodName := ⟨RJ0, "isNaN", "(D)Z"⟩
def dkwJ0_isNaN_0 : List UInt8 := [38, 38, 151, 153, 0, 7, 4, 167, 0, 4, 3, 172]
abbrev dktJ0_isNaN_0 : List UInt8 := dkwJ0_isNaN_0 ++ []
theorem dksJ0_isNaN_0 : cJ0_isNaN.data.toList.drop 0 = dktJ0_isNaN_0 := by decide +kernel
theorem dJ0_isNaN_0 : decode cJ0_isNaN 0 = .ok (.dload_n 0, 1) := dk_38 (dk_at dksJ0_isNaN_0 0 rfl rfl)
theorem dJ0_isNaN_1 : decode cJ0_isNaN 1 = .ok (.dload_n 0, 1) := dk_38 (dk_at dksJ0_isNaN_0 1 rfl rfl)
theorem dJ0_isNaN_2 : decode cJ0_isNaN 2 = .ok (.dcmp .l, 1) := dk_151 (dk_at dksJ0_isNaN_0 2 rfl rfl)
theorem dJ0_isNaN_3 : decode cJ0_isNaN 3 = .ok (.ifCond .eq 7, 3) := dk_153 0 7 (dk_at dksJ0_isNaN_0 3 rfl rfl)
theorem dJ0_isNaN_6 : decode cJ0_isNaN 6 = .ok (.iconst 1, 1) := dk_4 (dk_at dksJ0_isNaN_0 6 rfl rfl)
theorem dJ0_isNaN_7 : decode cJ0_isNaN 7 = .ok (.goto 4, 3) := dk_167 0 4 (dk_at dksJ0_isNaN_0 7 rfl rfl)
theorem dJ0_isNaN_10 : decode cJ0_isNaN 10 = .ok (.iconst 0, 1) := dk_3 (dk_at dksJ0_isNaN_0 10 rfl rfl)
theorem dJ0_isNaN_11 : decode cJ0_isNaN 11 = .ok (.ireturn, 1) := dk_172 (dk_at dksJ0_isNaN_0 11 rfl rfl)
theorem q11 : (Jvm.Cond.initialized "java/lang/Double") ∈ lw_all := lw_g (lw_at lw_m0 6 rfl) rfl
theorem q138 : (Jvm.Cond.static ({ cls := "java/lang/Double", name := "isNaN", desc := "(D)Z" } : Jvm.MethodName)) ∈ lw_all := lw_g (lw_at lw_m0 133 rfl) rfl
theorem q139 : (Jvm.Cond.code ({ cls := "java/lang/Double", name := "isNaN", desc := "(D)Z" } : Jvm.MethodName) prog_9_method_6_code (2 : Nat) (Option.some Jvm.ClassFile.FieldType.boolean)) ∈ lw_all := lw_g (lw_at lw_m0 134 rfl) rfl
/-! Coordinate -/
set_option maxRecDepth 100000
def RX2 : String := "Coordinate"
def TX2 : u_T := fun k => match k with
  | 0 => ("Coordinate", "x", "D", false)
  | 1 => ("Coordinate", "y", "D", false)
  | _ => ("Coordinate", "z", "D", false)
def tyX2 : Nat → FieldType := fun k => match k with
  | 0 => .double
  | 1 => .double
  | _ => .double
abbrev wsX20 : List Cond := u_ws RX2 TX2 3
theorem nmX2 : ∀ a, a < 3 → ∀ b, b < 3 → a ≠ b → (TX2 a).2.1 ≠ (TX2 b).2.1 := by decide +kernel
theorem tyX2_ok : ∀ k, k < 3 → parseFieldDescriptor (TX2 k).2.2.1 = some (tyX2 k) := by decide +kernel
abbrev cX2_init : ByteArray := prog_2_method_2_code
def yX2_init : MethodName := ⟨RX2, "<init>", "(DD)V"⟩
def dkwX2_init_0 : List UInt8 := [42, 39, 41, 20, 0, 21, 183, 0, 23, 177]
abbrev dktX2_init_0 : List UInt8 := dkwX2_init_0 ++ []
theorem dksX2_init_0 : cX2_init.data.toList.drop 0 = dktX2_init_0 := by decide +kernel
theorem dX2_init_0 : decode cX2_init 0 = .ok (.aload_n 0, 1) := dk_42 (dk_at dksX2_init_0 0 rfl rfl)
theorem dX2_init_1 : decode cX2_init 1 = .ok (.dload_n 1, 1) := dk_39 (dk_at dksX2_init_0 1 rfl rfl)
theorem dX2_init_2 : decode cX2_init 2 = .ok (.dload_n 3, 1) := dk_41 (dk_at dksX2_init_0 2 rfl rfl)
theorem dX2_init_3 : decode cX2_init 3 = .ok (.ldc2_w 21, 3) := dk_20 0 21 (dk_at dksX2_init_0 3 rfl rfl)
theorem dX2_init_6 : decode cX2_init 6 = .ok (.invokespecial 23, 3) := dk_183 0 23 (dk_at dksX2_init_0 6 rfl rfl)
theorem dX2_init_9 : decode cX2_init 9 = .ok (.return_, 1) := dk_177 (dk_at dksX2_init_0 9 rfl rfl)
abbrev cX2_init_2 : ByteArray := prog_2_method_1_code
def yX2_init_2 : MethodName := ⟨RX2, "<init>", "(DDD)V"⟩
def dkwX2_init_2_0 : List UInt8 := [42, 183, 0, 3, 42, 39, 181, 0, 9, 42, 41, 181, 0, 15, 42, 24, 5, 181, 0, 18, 177]
abbrev dktX2_init_2_0 : List UInt8 := dkwX2_init_2_0 ++ []
theorem dksX2_init_2_0 : cX2_init_2.data.toList.drop 0 = dktX2_init_2_0 := by decide +kernel
theorem dX2_init_2_0 : decode cX2_init_2 0 = .ok (.aload_n 0, 1) := dk_42 (dk_at dksX2_init_2_0 0 rfl rfl)
theorem dX2_init_2_1 : decode cX2_init_2 1 = .ok (.invokespecial 3, 3) := dk_183 0 3 (dk_at dksX2_init_2_0 1 rfl rfl)
theorem dX2_init_2_4 : decode cX2_init_2 4 = .ok (.aload_n 0, 1) := dk_42 (dk_at dksX2_init_2_0 4 rfl rfl)
theorem dX2_init_2_5 : decode cX2_init_2 5 = .ok (.dload_n 1, 1) := dk_39 (dk_at dksX2_init_2_0 5 rfl rfl)
theorem dX2_init_2_6 : decode cX2_init_2 6 = .ok (.putfield 9, 3) := dk_181 0 9 (dk_at dksX2_init_2_0 6 rfl rfl)
theorem dX2_init_2_9 : decode cX2_init_2 9 = .ok (.aload_n 0, 1) := dk_42 (dk_at dksX2_init_2_0 9 rfl rfl)
theorem dX2_init_2_10 : decode cX2_init_2 10 = .ok (.dload_n 3, 1) := dk_41 (dk_at dksX2_init_2_0 10 rfl rfl)
theorem dX2_init_2_11 : decode cX2_init_2 11 = .ok (.putfield 15, 3) := dk_181 0 15 (dk_at dksX2_init_2_0 11 rfl rfl)
theorem dX2_init_2_14 : decode cX2_init_2 14 = .ok (.aload_n 0, 1) := dk_42 (dk_at dksX2_init_2_0 14 rfl rfl)
theorem dX2_init_2_15 : decode cX2_init_2 15 = .ok (.dload 5, 2) := dk_24 5 (dk_at dksX2_init_2_0 15 rfl rfl)
theorem dX2_init_2_17 : decode cX2_init_2 17 = .ok (.putfield 18, 3) := dk_181 0 18 (dk_at dksX2_init_2_0 17 rfl rfl)
theorem dX2_init_2_20 : decode cX2_init_2 20 = .ok (.return_, 1) := dk_177 (dk_at dksX2_init_2_0 20 rfl rfl)
theorem q7 : (Jvm.Cond.initialized "Coordinate") ∈ lw_all := lw_g (lw_at lw_m0 2 rfl) rfl
theorem q37 : (Jvm.Cond.instantiable "Coordinate" (3 : Nat)) ∈ lw_all := lw_g (lw_at lw_m0 32 rfl) rfl
theorem q39 : (Jvm.Cond.instanceMethod ({ cls := "Coordinate", name := "<init>", desc := "(DD)V" } : Jvm.MethodName)) ∈ lw_all := lw_g (lw_at lw_m0 34 rfl) rfl
theorem q40 : (Jvm.Cond.code ({ cls := "Coordinate", name := "<init>", desc := "(DD)V" } : Jvm.MethodName) prog_2_method_2_code (5 : Nat) (Option.none : Option Jvm.ClassFile.FieldType)) ∈ lw_all := lw_g (lw_at lw_m0 35 rfl) rfl
theorem q41 : (Jvm.Cond.constantDouble "Coordinate" (21 : Nat) (9221120237041090560 : UInt64)) ∈ lw_all := lw_g (lw_at lw_m0 36 rfl) rfl
theorem q42 : (Jvm.Cond.methodLink "Coordinate" (23 : Nat) ({ cls := "Coordinate", name := "<init>", desc := "(DDD)V" } : Jvm.MethodName)) ∈ lw_all := lw_g (lw_at lw_m0 37 rfl) rfl
theorem q43 : (Jvm.Cond.instanceMethod ({ cls := "Coordinate", name := "<init>", desc := "(DDD)V" } : Jvm.MethodName)) ∈ lw_all := lw_g (lw_at lw_m0 38 rfl) rfl
theorem q44 : (Jvm.Cond.code ({ cls := "Coordinate", name := "<init>", desc := "(DDD)V" } : Jvm.MethodName) prog_2_method_1_code (7 : Nat) (Option.none : Option Jvm.ClassFile.FieldType)) ∈ lw_all := lw_g (lw_at lw_m0 39 rfl) rfl
theorem q45 : (Jvm.Cond.methodLink "Coordinate" (3 : Nat) ({ cls := "java/lang/Object", name := "<init>", desc := "()V" } : Jvm.MethodName)) ∈ lw_all := lw_g (lw_at lw_m0 40 rfl) rfl
theorem q47 : (Jvm.Cond.fieldLink "Coordinate" (9 : Nat) "Coordinate" "x" "D") ∈ lw_all := lw_g (lw_at lw_m0 42 rfl) rfl
theorem q51 : (Jvm.Cond.fieldLink "Coordinate" (15 : Nat) "Coordinate" "y" "D") ∈ lw_all := lw_g (lw_at lw_m0 46 rfl) rfl
theorem q54 : (Jvm.Cond.fieldLink "Coordinate" (18 : Nat) "Coordinate" "z" "D") ∈ lw_all := lw_g (lw_at lw_m0 49 rfl) rfl
theorem q55 : (Jvm.Cond.lays "Coordinate" "Coordinate" "x" "D") ∈ lw_all := lw_g (lw_at lw_m0 50 rfl) rfl
theorem q56 : (Jvm.Cond.soleField "Coordinate" "x") ∈ lw_all := lw_g (lw_at lw_m0 51 rfl) rfl
theorem q57 : (Jvm.Cond.lays "Coordinate" "Coordinate" "y" "D") ∈ lw_all := lw_g (lw_at lw_m0 52 rfl) rfl
theorem q58 : (Jvm.Cond.soleField "Coordinate" "y") ∈ lw_all := lw_g (lw_at lw_m0 53 rfl) rfl
theorem q59 : (Jvm.Cond.lays "Coordinate" "Coordinate" "z" "D") ∈ lw_all := lw_g (lw_at lw_m0 54 rfl) rfl
theorem q60 : (Jvm.Cond.soleField "Coordinate" "z") ∈ lw_all := lw_g (lw_at lw_m0 55 rfl) rfl
theorem q61 : (Jvm.Cond.superclass "Coordinate" "java/lang/Object") ∈ lw_all := lw_g (lw_at lw_m0 56 rfl) rfl
theorem in_X2 : ∀ w ∈ wsX20, w ∈ lw_all := lw_in wsX20 [55, 57, 59] (by decide +kernel) (by decide +kernel)
/-! Orientation -/
set_option maxRecDepth 100000
def RX3 : String := "Orientation"
abbrev cX3_index : ByteArray := prog_5_method_2_code
def yX3_index : MethodName := ⟨RX3, "index", "(LCoordinate;LCoordinate;LCoordinate;)I"⟩
def dkwX3_index_0 : List UInt8 := [42, 43, 44, 184, 0, 9, 172]
abbrev dktX3_index_0 : List UInt8 := dkwX3_index_0 ++ []
theorem dksX3_index_0 : cX3_index.data.toList.drop 0 = dktX3_index_0 := by decide +kernel
theorem dX3_index_0 : decode cX3_index 0 = .ok (.aload_n 0, 1) := dk_42 (dk_at dksX3_index_0 0 rfl rfl)
theorem dX3_index_1 : decode cX3_index 1 = .ok (.aload_n 1, 1) := dk_43 (dk_at dksX3_index_0 1 rfl rfl)
theorem dX3_index_2 : decode cX3_index 2 = .ok (.aload_n 2, 1) := dk_44 (dk_at dksX3_index_0 2 rfl rfl)
theorem dX3_index_3 : decode cX3_index 3 = .ok (.invokestatic 9, 3) := dk_184 0 9 (dk_at dksX3_index_0 3 rfl rfl)
theorem dX3_index_6 : decode cX3_index 6 = .ok (.ireturn, 1) := dk_172 (dk_at dksX3_index_0 6 rfl rfl)
theorem q8 : (Jvm.Cond.initialized "Orientation") ∈ lw_all := lw_g (lw_at lw_m0 3 rfl) rfl
theorem q81 : (Jvm.Cond.static ({ cls := "Orientation", name := "index", desc := "(LCoordinate;LCoordinate;LCoordinate;)I" } : Jvm.MethodName)) ∈ lw_all := lw_g (lw_at lw_m0 76 rfl) rfl
theorem q82 : (Jvm.Cond.code ({ cls := "Orientation", name := "index", desc := "(LCoordinate;LCoordinate;LCoordinate;)I" } : Jvm.MethodName) prog_5_method_2_code (3 : Nat) (Option.some Jvm.ClassFile.FieldType.int)) ∈ lw_all := lw_g (lw_at lw_m0 77 rfl) rfl
theorem q83 : (Jvm.Cond.methodLink "Orientation" (9 : Nat) ({ cls := "CGAlgorithmsDD", name := "orientationIndex", desc := "(LCoordinate;LCoordinate;LCoordinate;)I" } : Jvm.MethodName)) ∈ lw_all := lw_g (lw_at lw_m0 78 rfl) rfl
/-! CGAlgorithmsDD -/
set_option maxRecDepth 100000
def RX4 : String := "CGAlgorithmsDD"
abbrev cX4_orientationIndex : ByteArray := prog_1_method_1_code
def yX4_orientationIndex : MethodName := ⟨RX4, "orientationIndex", "(LCoordinate;LCoordinate;LCoordinate;)I"⟩
def dkwX4_orientationIndex_1 : List UInt8 := [184, 0, 10, 172]
abbrev dktX4_orientationIndex_1 : List UInt8 := dkwX4_orientationIndex_1 ++ []
def dkwX4_orientationIndex_0 : List UInt8 := [42, 180, 0, 1, 42, 180, 0, 7, 43, 180, 0, 1, 43, 180, 0, 7, 44, 180, 0, 1, 44, 180, 0, 7]
abbrev dktX4_orientationIndex_0 : List UInt8 := dkwX4_orientationIndex_0 ++ dktX4_orientationIndex_1
theorem dksX4_orientationIndex_0 : cX4_orientationIndex.data.toList.drop 0 = dktX4_orientationIndex_0 := by decide +kernel
theorem dksX4_orientationIndex_1 : cX4_orientationIndex.data.toList.drop 24 = dktX4_orientationIndex_1 := dk_seg dksX4_orientationIndex_0 24 rfl rfl
theorem dX4_orientationIndex_0 : decode cX4_orientationIndex 0 = .ok (.aload_n 0, 1) := dk_42 (dk_at dksX4_orientationIndex_0 0 rfl rfl)
theorem dX4_orientationIndex_1 : decode cX4_orientationIndex 1 = .ok (.getfield 1, 3) := dk_180 0 1 (dk_at dksX4_orientationIndex_0 1 rfl rfl)
theorem dX4_orientationIndex_4 : decode cX4_orientationIndex 4 = .ok (.aload_n 0, 1) := dk_42 (dk_at dksX4_orientationIndex_0 4 rfl rfl)
theorem dX4_orientationIndex_5 : decode cX4_orientationIndex 5 = .ok (.getfield 7, 3) := dk_180 0 7 (dk_at dksX4_orientationIndex_0 5 rfl rfl)
theorem dX4_orientationIndex_8 : decode cX4_orientationIndex 8 = .ok (.aload_n 1, 1) := dk_43 (dk_at dksX4_orientationIndex_0 8 rfl rfl)
theorem dX4_orientationIndex_9 : decode cX4_orientationIndex 9 = .ok (.getfield 1, 3) := dk_180 0 1 (dk_at dksX4_orientationIndex_0 9 rfl rfl)
theorem dX4_orientationIndex_12 : decode cX4_orientationIndex 12 = .ok (.aload_n 1, 1) := dk_43 (dk_at dksX4_orientationIndex_0 12 rfl rfl)
theorem dX4_orientationIndex_13 : decode cX4_orientationIndex 13 = .ok (.getfield 7, 3) := dk_180 0 7 (dk_at dksX4_orientationIndex_0 13 rfl rfl)
theorem dX4_orientationIndex_16 : decode cX4_orientationIndex 16 = .ok (.aload_n 2, 1) := dk_44 (dk_at dksX4_orientationIndex_0 16 rfl rfl)
theorem dX4_orientationIndex_17 : decode cX4_orientationIndex 17 = .ok (.getfield 1, 3) := dk_180 0 1 (dk_at dksX4_orientationIndex_0 17 rfl rfl)
theorem dX4_orientationIndex_20 : decode cX4_orientationIndex 20 = .ok (.aload_n 2, 1) := dk_44 (dk_at dksX4_orientationIndex_0 20 rfl rfl)
theorem dX4_orientationIndex_21 : decode cX4_orientationIndex 21 = .ok (.getfield 7, 3) := dk_180 0 7 (dk_at dksX4_orientationIndex_0 21 rfl rfl)
theorem dX4_orientationIndex_24 : decode cX4_orientationIndex 24 = .ok (.invokestatic 10, 3) := dk_184 0 10 (dk_at dksX4_orientationIndex_1 0 rfl rfl)
theorem dX4_orientationIndex_27 : decode cX4_orientationIndex 27 = .ok (.ireturn, 1) := dk_172 (dk_at dksX4_orientationIndex_1 3 rfl rfl)
abbrev cX4_orientationIndex_2 : ByteArray := prog_1_method_2_code
def yX4_orientationIndex_2 : MethodName := ⟨RX4, "orientationIndex", "(DDDDDD)I"⟩
def dkwX4_orientationIndex_2_3 : List UInt8 := [58, 16, 25, 13, 25, 16, 182, 0, 28, 25, 14, 25, 15, 182, 0, 28, 182, 0, 32, 182, 0, 35, 172]
abbrev dktX4_orientationIndex_2_3 : List UInt8 := dkwX4_orientationIndex_2_3 ++ []
def dkwX4_orientationIndex_2_2 : List UInt8 := [24, 8, 184, 0, 19, 24, 4, 119, 182, 0, 25, 58, 15, 24, 10, 184, 0, 19, 24, 6, 119, 182, 0, 25]
abbrev dktX4_orientationIndex_2_2 : List UInt8 := dkwX4_orientationIndex_2_2 ++ dktX4_orientationIndex_2_3
def dkwX4_orientationIndex_2_1 : List UInt8 := [24, 4, 184, 0, 19, 38, 119, 182, 0, 25, 58, 13, 24, 6, 184, 0, 19, 40, 119, 182, 0, 25, 58, 14]
abbrev dktX4_orientationIndex_2_1 : List UInt8 := dkwX4_orientationIndex_2_1 ++ dktX4_orientationIndex_2_2
def dkwX4_orientationIndex_2_0 : List UInt8 := [38, 40, 24, 4, 24, 6, 24, 8, 24, 10, 184, 0, 16, 54, 12, 21, 12, 4, 163, 0, 6, 21, 12, 172]
abbrev dktX4_orientationIndex_2_0 : List UInt8 := dkwX4_orientationIndex_2_0 ++ dktX4_orientationIndex_2_1
theorem dksX4_orientationIndex_2_0 : cX4_orientationIndex_2.data.toList.drop 0 = dktX4_orientationIndex_2_0 := by decide +kernel
theorem dksX4_orientationIndex_2_1 : cX4_orientationIndex_2.data.toList.drop 24 = dktX4_orientationIndex_2_1 := dk_seg dksX4_orientationIndex_2_0 24 rfl rfl
theorem dksX4_orientationIndex_2_2 : cX4_orientationIndex_2.data.toList.drop 48 = dktX4_orientationIndex_2_2 := dk_seg dksX4_orientationIndex_2_1 24 rfl rfl
theorem dksX4_orientationIndex_2_3 : cX4_orientationIndex_2.data.toList.drop 72 = dktX4_orientationIndex_2_3 := dk_seg dksX4_orientationIndex_2_2 24 rfl rfl
theorem dX4_orientationIndex_2_0 : decode cX4_orientationIndex_2 0 = .ok (.dload_n 0, 1) := dk_38 (dk_at dksX4_orientationIndex_2_0 0 rfl rfl)
theorem dX4_orientationIndex_2_1 : decode cX4_orientationIndex_2 1 = .ok (.dload_n 2, 1) := dk_40 (dk_at dksX4_orientationIndex_2_0 1 rfl rfl)
theorem dX4_orientationIndex_2_2 : decode cX4_orientationIndex_2 2 = .ok (.dload 4, 2) := dk_24 4 (dk_at dksX4_orientationIndex_2_0 2 rfl rfl)
theorem dX4_orientationIndex_2_4 : decode cX4_orientationIndex_2 4 = .ok (.dload 6, 2) := dk_24 6 (dk_at dksX4_orientationIndex_2_0 4 rfl rfl)
theorem dX4_orientationIndex_2_6 : decode cX4_orientationIndex_2 6 = .ok (.dload 8, 2) := dk_24 8 (dk_at dksX4_orientationIndex_2_0 6 rfl rfl)
theorem dX4_orientationIndex_2_8 : decode cX4_orientationIndex_2 8 = .ok (.dload 10, 2) := dk_24 10 (dk_at dksX4_orientationIndex_2_0 8 rfl rfl)
theorem dX4_orientationIndex_2_10 : decode cX4_orientationIndex_2 10 = .ok (.invokestatic 16, 3) := dk_184 0 16 (dk_at dksX4_orientationIndex_2_0 10 rfl rfl)
theorem dX4_orientationIndex_2_13 : decode cX4_orientationIndex_2 13 = .ok (.istore 12, 2) := dk_54 12 (dk_at dksX4_orientationIndex_2_0 13 rfl rfl)
theorem dX4_orientationIndex_2_15 : decode cX4_orientationIndex_2 15 = .ok (.iload 12, 2) := dk_21 12 (dk_at dksX4_orientationIndex_2_0 15 rfl rfl)
theorem dX4_orientationIndex_2_17 : decode cX4_orientationIndex_2 17 = .ok (.iconst 1, 1) := dk_4 (dk_at dksX4_orientationIndex_2_0 17 rfl rfl)
theorem dX4_orientationIndex_2_18 : decode cX4_orientationIndex_2 18 = .ok (.if_icmp .gt 6, 3) := dk_163 0 6 (dk_at dksX4_orientationIndex_2_0 18 rfl rfl)
theorem dX4_orientationIndex_2_21 : decode cX4_orientationIndex_2 21 = .ok (.iload 12, 2) := dk_21 12 (dk_at dksX4_orientationIndex_2_0 21 rfl rfl)
theorem dX4_orientationIndex_2_23 : decode cX4_orientationIndex_2 23 = .ok (.ireturn, 1) := dk_172 (dk_at dksX4_orientationIndex_2_0 23 rfl rfl)
theorem dX4_orientationIndex_2_24 : decode cX4_orientationIndex_2 24 = .ok (.dload 4, 2) := dk_24 4 (dk_at dksX4_orientationIndex_2_1 0 rfl rfl)
theorem dX4_orientationIndex_2_26 : decode cX4_orientationIndex_2 26 = .ok (.invokestatic 19, 3) := dk_184 0 19 (dk_at dksX4_orientationIndex_2_1 2 rfl rfl)
theorem dX4_orientationIndex_2_29 : decode cX4_orientationIndex_2 29 = .ok (.dload_n 0, 1) := dk_38 (dk_at dksX4_orientationIndex_2_1 5 rfl rfl)
theorem dX4_orientationIndex_2_30 : decode cX4_orientationIndex_2 30 = .ok (.dneg, 1) := dk_119 (dk_at dksX4_orientationIndex_2_1 6 rfl rfl)
theorem dX4_orientationIndex_2_31 : decode cX4_orientationIndex_2 31 = .ok (.invokevirtual 25, 3) := dk_182 0 25 (dk_at dksX4_orientationIndex_2_1 7 rfl rfl)
theorem dX4_orientationIndex_2_34 : decode cX4_orientationIndex_2 34 = .ok (.astore 13, 2) := dk_58 13 (dk_at dksX4_orientationIndex_2_1 10 rfl rfl)
theorem dX4_orientationIndex_2_36 : decode cX4_orientationIndex_2 36 = .ok (.dload 6, 2) := dk_24 6 (dk_at dksX4_orientationIndex_2_1 12 rfl rfl)
theorem dX4_orientationIndex_2_38 : decode cX4_orientationIndex_2 38 = .ok (.invokestatic 19, 3) := dk_184 0 19 (dk_at dksX4_orientationIndex_2_1 14 rfl rfl)
theorem dX4_orientationIndex_2_41 : decode cX4_orientationIndex_2 41 = .ok (.dload_n 2, 1) := dk_40 (dk_at dksX4_orientationIndex_2_1 17 rfl rfl)
theorem dX4_orientationIndex_2_42 : decode cX4_orientationIndex_2 42 = .ok (.dneg, 1) := dk_119 (dk_at dksX4_orientationIndex_2_1 18 rfl rfl)
theorem dX4_orientationIndex_2_43 : decode cX4_orientationIndex_2 43 = .ok (.invokevirtual 25, 3) := dk_182 0 25 (dk_at dksX4_orientationIndex_2_1 19 rfl rfl)
theorem dX4_orientationIndex_2_46 : decode cX4_orientationIndex_2 46 = .ok (.astore 14, 2) := dk_58 14 (dk_at dksX4_orientationIndex_2_1 22 rfl rfl)
theorem dX4_orientationIndex_2_48 : decode cX4_orientationIndex_2 48 = .ok (.dload 8, 2) := dk_24 8 (dk_at dksX4_orientationIndex_2_2 0 rfl rfl)
theorem dX4_orientationIndex_2_50 : decode cX4_orientationIndex_2 50 = .ok (.invokestatic 19, 3) := dk_184 0 19 (dk_at dksX4_orientationIndex_2_2 2 rfl rfl)
theorem dX4_orientationIndex_2_53 : decode cX4_orientationIndex_2 53 = .ok (.dload 4, 2) := dk_24 4 (dk_at dksX4_orientationIndex_2_2 5 rfl rfl)
theorem dX4_orientationIndex_2_55 : decode cX4_orientationIndex_2 55 = .ok (.dneg, 1) := dk_119 (dk_at dksX4_orientationIndex_2_2 7 rfl rfl)
theorem dX4_orientationIndex_2_56 : decode cX4_orientationIndex_2 56 = .ok (.invokevirtual 25, 3) := dk_182 0 25 (dk_at dksX4_orientationIndex_2_2 8 rfl rfl)
theorem dX4_orientationIndex_2_59 : decode cX4_orientationIndex_2 59 = .ok (.astore 15, 2) := dk_58 15 (dk_at dksX4_orientationIndex_2_2 11 rfl rfl)
theorem dX4_orientationIndex_2_61 : decode cX4_orientationIndex_2 61 = .ok (.dload 10, 2) := dk_24 10 (dk_at dksX4_orientationIndex_2_2 13 rfl rfl)
theorem dX4_orientationIndex_2_63 : decode cX4_orientationIndex_2 63 = .ok (.invokestatic 19, 3) := dk_184 0 19 (dk_at dksX4_orientationIndex_2_2 15 rfl rfl)
theorem dX4_orientationIndex_2_66 : decode cX4_orientationIndex_2 66 = .ok (.dload 6, 2) := dk_24 6 (dk_at dksX4_orientationIndex_2_2 18 rfl rfl)
theorem dX4_orientationIndex_2_68 : decode cX4_orientationIndex_2 68 = .ok (.dneg, 1) := dk_119 (dk_at dksX4_orientationIndex_2_2 20 rfl rfl)
theorem dX4_orientationIndex_2_69 : decode cX4_orientationIndex_2 69 = .ok (.invokevirtual 25, 3) := dk_182 0 25 (dk_at dksX4_orientationIndex_2_2 21 rfl rfl)
theorem dX4_orientationIndex_2_72 : decode cX4_orientationIndex_2 72 = .ok (.astore 16, 2) := dk_58 16 (dk_at dksX4_orientationIndex_2_3 0 rfl rfl)
theorem dX4_orientationIndex_2_74 : decode cX4_orientationIndex_2 74 = .ok (.aload 13, 2) := dk_25 13 (dk_at dksX4_orientationIndex_2_3 2 rfl rfl)
theorem dX4_orientationIndex_2_76 : decode cX4_orientationIndex_2 76 = .ok (.aload 16, 2) := dk_25 16 (dk_at dksX4_orientationIndex_2_3 4 rfl rfl)
theorem dX4_orientationIndex_2_78 : decode cX4_orientationIndex_2 78 = .ok (.invokevirtual 28, 3) := dk_182 0 28 (dk_at dksX4_orientationIndex_2_3 6 rfl rfl)
theorem dX4_orientationIndex_2_81 : decode cX4_orientationIndex_2 81 = .ok (.aload 14, 2) := dk_25 14 (dk_at dksX4_orientationIndex_2_3 9 rfl rfl)
theorem dX4_orientationIndex_2_83 : decode cX4_orientationIndex_2 83 = .ok (.aload 15, 2) := dk_25 15 (dk_at dksX4_orientationIndex_2_3 11 rfl rfl)
theorem dX4_orientationIndex_2_85 : decode cX4_orientationIndex_2 85 = .ok (.invokevirtual 28, 3) := dk_182 0 28 (dk_at dksX4_orientationIndex_2_3 13 rfl rfl)
theorem dX4_orientationIndex_2_88 : decode cX4_orientationIndex_2 88 = .ok (.invokevirtual 32, 3) := dk_182 0 32 (dk_at dksX4_orientationIndex_2_3 16 rfl rfl)
theorem dX4_orientationIndex_2_91 : decode cX4_orientationIndex_2 91 = .ok (.invokevirtual 35, 3) := dk_182 0 35 (dk_at dksX4_orientationIndex_2_3 19 rfl rfl)
theorem dX4_orientationIndex_2_94 : decode cX4_orientationIndex_2 94 = .ok (.ireturn, 1) := dk_172 (dk_at dksX4_orientationIndex_2_3 22 rfl rfl)
abbrev cX4_orientationIndexFilter : ByteArray := prog_1_method_3_code
def yX4_orientationIndexFilter : MethodName := ⟨RX4, "orientationIndexFilter", "(DDDDDD)I"⟩
def dkwX4_orientationIndexFilter_5 : List UInt8 := [24, 20, 151, 155, 0, 9, 24, 18, 184, 0, 39, 172, 5, 172]
abbrev dktX4_orientationIndexFilter_5 : List UInt8 := dkwX4_orientationIndexFilter_5 ++ []
def dkwX4_orientationIndexFilter_4 : List UInt8 := [184, 0, 39, 172, 20, 0, 42, 24, 12, 107, 57, 20, 24, 18, 24, 20, 151, 156, 0, 12, 24, 18, 119]
abbrev dktX4_orientationIndexFilter_4 : List UInt8 := dkwX4_orientationIndexFilter_4 ++ dktX4_orientationIndexFilter_5
def dkwX4_orientationIndexFilter_3 : List UInt8 := [151, 155, 0, 9, 24, 18, 184, 0, 39, 172, 24, 14, 119, 24, 16, 103, 57, 12, 167, 0, 9, 24, 18]
abbrev dktX4_orientationIndexFilter_3 : List UInt8 := dkwX4_orientationIndexFilter_3 ++ dktX4_orientationIndexFilter_4
def dkwX4_orientationIndexFilter_2 : List UInt8 := [184, 0, 39, 172, 24, 14, 24, 16, 99, 57, 12, 167, 0, 40, 24, 14, 14, 152, 156, 0, 27, 24, 16, 14]
abbrev dktX4_orientationIndexFilter_2 : List UInt8 := dkwX4_orientationIndexFilter_2 ++ dktX4_orientationIndexFilter_3
def dkwX4_orientationIndexFilter_1 : List UInt8 := [24, 14, 24, 16, 103, 57, 18, 24, 14, 14, 151, 158, 0, 26, 24, 16, 14, 152, 157, 0, 9, 24, 18]
abbrev dktX4_orientationIndexFilter_1 : List UInt8 := dkwX4_orientationIndexFilter_1 ++ dktX4_orientationIndexFilter_2
def dkwX4_orientationIndexFilter_0 : List UInt8 := [38, 24, 8, 103, 24, 6, 24, 10, 103, 107, 57, 14, 40, 24, 10, 103, 24, 4, 24, 8, 103, 107, 57, 16]
abbrev dktX4_orientationIndexFilter_0 : List UInt8 := dkwX4_orientationIndexFilter_0 ++ dktX4_orientationIndexFilter_1
theorem dksX4_orientationIndexFilter_0 : cX4_orientationIndexFilter.data.toList.drop 0 = dktX4_orientationIndexFilter_0 := by decide +kernel
theorem dksX4_orientationIndexFilter_1 : cX4_orientationIndexFilter.data.toList.drop 24 = dktX4_orientationIndexFilter_1 := dk_seg dksX4_orientationIndexFilter_0 24 rfl rfl
theorem dksX4_orientationIndexFilter_2 : cX4_orientationIndexFilter.data.toList.drop 47 = dktX4_orientationIndexFilter_2 := dk_seg dksX4_orientationIndexFilter_1 23 rfl rfl
theorem dksX4_orientationIndexFilter_3 : cX4_orientationIndexFilter.data.toList.drop 71 = dktX4_orientationIndexFilter_3 := dk_seg dksX4_orientationIndexFilter_2 24 rfl rfl
theorem dksX4_orientationIndexFilter_4 : cX4_orientationIndexFilter.data.toList.drop 94 = dktX4_orientationIndexFilter_4 := dk_seg dksX4_orientationIndexFilter_3 23 rfl rfl
theorem dksX4_orientationIndexFilter_5 : cX4_orientationIndexFilter.data.toList.drop 117 = dktX4_orientationIndexFilter_5 := dk_seg dksX4_orientationIndexFilter_4 23 rfl rfl
theorem dX4_orientationIndexFilter_0 : decode cX4_orientationIndexFilter 0 = .ok (.dload_n 0, 1) := dk_38 (dk_at dksX4_orientationIndexFilter_0 0 rfl rfl)
theorem dX4_orientationIndexFilter_1 : decode cX4_orientationIndexFilter 1 = .ok (.dload 8, 2) := dk_24 8 (dk_at dksX4_orientationIndexFilter_0 1 rfl rfl)
theorem dX4_orientationIndexFilter_3 : decode cX4_orientationIndexFilter 3 = .ok (.dsub, 1) := dk_103 (dk_at dksX4_orientationIndexFilter_0 3 rfl rfl)
theorem dX4_orientationIndexFilter_4 : decode cX4_orientationIndexFilter 4 = .ok (.dload 6, 2) := dk_24 6 (dk_at dksX4_orientationIndexFilter_0 4 rfl rfl)
theorem dX4_orientationIndexFilter_6 : decode cX4_orientationIndexFilter 6 = .ok (.dload 10, 2) := dk_24 10 (dk_at dksX4_orientationIndexFilter_0 6 rfl rfl)
theorem dX4_orientationIndexFilter_8 : decode cX4_orientationIndexFilter 8 = .ok (.dsub, 1) := dk_103 (dk_at dksX4_orientationIndexFilter_0 8 rfl rfl)
theorem dX4_orientationIndexFilter_9 : decode cX4_orientationIndexFilter 9 = .ok (.dmul, 1) := dk_107 (dk_at dksX4_orientationIndexFilter_0 9 rfl rfl)
theorem dX4_orientationIndexFilter_10 : decode cX4_orientationIndexFilter 10 = .ok (.dstore 14, 2) := dk_57 14 (dk_at dksX4_orientationIndexFilter_0 10 rfl rfl)
theorem dX4_orientationIndexFilter_12 : decode cX4_orientationIndexFilter 12 = .ok (.dload_n 2, 1) := dk_40 (dk_at dksX4_orientationIndexFilter_0 12 rfl rfl)
theorem dX4_orientationIndexFilter_13 : decode cX4_orientationIndexFilter 13 = .ok (.dload 10, 2) := dk_24 10 (dk_at dksX4_orientationIndexFilter_0 13 rfl rfl)
theorem dX4_orientationIndexFilter_15 : decode cX4_orientationIndexFilter 15 = .ok (.dsub, 1) := dk_103 (dk_at dksX4_orientationIndexFilter_0 15 rfl rfl)
theorem dX4_orientationIndexFilter_16 : decode cX4_orientationIndexFilter 16 = .ok (.dload 4, 2) := dk_24 4 (dk_at dksX4_orientationIndexFilter_0 16 rfl rfl)
theorem dX4_orientationIndexFilter_18 : decode cX4_orientationIndexFilter 18 = .ok (.dload 8, 2) := dk_24 8 (dk_at dksX4_orientationIndexFilter_0 18 rfl rfl)
theorem dX4_orientationIndexFilter_20 : decode cX4_orientationIndexFilter 20 = .ok (.dsub, 1) := dk_103 (dk_at dksX4_orientationIndexFilter_0 20 rfl rfl)
theorem dX4_orientationIndexFilter_21 : decode cX4_orientationIndexFilter 21 = .ok (.dmul, 1) := dk_107 (dk_at dksX4_orientationIndexFilter_0 21 rfl rfl)
theorem dX4_orientationIndexFilter_22 : decode cX4_orientationIndexFilter 22 = .ok (.dstore 16, 2) := dk_57 16 (dk_at dksX4_orientationIndexFilter_0 22 rfl rfl)
theorem dX4_orientationIndexFilter_24 : decode cX4_orientationIndexFilter 24 = .ok (.dload 14, 2) := dk_24 14 (dk_at dksX4_orientationIndexFilter_1 0 rfl rfl)
theorem dX4_orientationIndexFilter_26 : decode cX4_orientationIndexFilter 26 = .ok (.dload 16, 2) := dk_24 16 (dk_at dksX4_orientationIndexFilter_1 2 rfl rfl)
theorem dX4_orientationIndexFilter_28 : decode cX4_orientationIndexFilter 28 = .ok (.dsub, 1) := dk_103 (dk_at dksX4_orientationIndexFilter_1 4 rfl rfl)
theorem dX4_orientationIndexFilter_29 : decode cX4_orientationIndexFilter 29 = .ok (.dstore 18, 2) := dk_57 18 (dk_at dksX4_orientationIndexFilter_1 5 rfl rfl)
theorem dX4_orientationIndexFilter_31 : decode cX4_orientationIndexFilter 31 = .ok (.dload 14, 2) := dk_24 14 (dk_at dksX4_orientationIndexFilter_1 7 rfl rfl)
theorem dX4_orientationIndexFilter_33 : decode cX4_orientationIndexFilter 33 = .ok (.dconst 0, 1) := dk_14 (dk_at dksX4_orientationIndexFilter_1 9 rfl rfl)
theorem dX4_orientationIndexFilter_34 : decode cX4_orientationIndexFilter 34 = .ok (.dcmp .l, 1) := dk_151 (dk_at dksX4_orientationIndexFilter_1 10 rfl rfl)
theorem dX4_orientationIndexFilter_35 : decode cX4_orientationIndexFilter 35 = .ok (.ifCond .le 26, 3) := dk_158 0 26 (dk_at dksX4_orientationIndexFilter_1 11 rfl rfl)
theorem dX4_orientationIndexFilter_38 : decode cX4_orientationIndexFilter 38 = .ok (.dload 16, 2) := dk_24 16 (dk_at dksX4_orientationIndexFilter_1 14 rfl rfl)
theorem dX4_orientationIndexFilter_40 : decode cX4_orientationIndexFilter 40 = .ok (.dconst 0, 1) := dk_14 (dk_at dksX4_orientationIndexFilter_1 16 rfl rfl)
theorem dX4_orientationIndexFilter_41 : decode cX4_orientationIndexFilter 41 = .ok (.dcmp .g, 1) := dk_152 (dk_at dksX4_orientationIndexFilter_1 17 rfl rfl)
theorem dX4_orientationIndexFilter_42 : decode cX4_orientationIndexFilter 42 = .ok (.ifCond .gt 9, 3) := dk_157 0 9 (dk_at dksX4_orientationIndexFilter_1 18 rfl rfl)
theorem dX4_orientationIndexFilter_45 : decode cX4_orientationIndexFilter 45 = .ok (.dload 18, 2) := dk_24 18 (dk_at dksX4_orientationIndexFilter_1 21 rfl rfl)
theorem dX4_orientationIndexFilter_47 : decode cX4_orientationIndexFilter 47 = .ok (.invokestatic 39, 3) := dk_184 0 39 (dk_at dksX4_orientationIndexFilter_2 0 rfl rfl)
theorem dX4_orientationIndexFilter_50 : decode cX4_orientationIndexFilter 50 = .ok (.ireturn, 1) := dk_172 (dk_at dksX4_orientationIndexFilter_2 3 rfl rfl)
theorem dX4_orientationIndexFilter_51 : decode cX4_orientationIndexFilter 51 = .ok (.dload 14, 2) := dk_24 14 (dk_at dksX4_orientationIndexFilter_2 4 rfl rfl)
theorem dX4_orientationIndexFilter_53 : decode cX4_orientationIndexFilter 53 = .ok (.dload 16, 2) := dk_24 16 (dk_at dksX4_orientationIndexFilter_2 6 rfl rfl)
theorem dX4_orientationIndexFilter_55 : decode cX4_orientationIndexFilter 55 = .ok (.dadd, 1) := dk_99 (dk_at dksX4_orientationIndexFilter_2 8 rfl rfl)
theorem dX4_orientationIndexFilter_56 : decode cX4_orientationIndexFilter 56 = .ok (.dstore 12, 2) := dk_57 12 (dk_at dksX4_orientationIndexFilter_2 9 rfl rfl)
theorem dX4_orientationIndexFilter_58 : decode cX4_orientationIndexFilter 58 = .ok (.goto 40, 3) := dk_167 0 40 (dk_at dksX4_orientationIndexFilter_2 11 rfl rfl)
theorem dX4_orientationIndexFilter_61 : decode cX4_orientationIndexFilter 61 = .ok (.dload 14, 2) := dk_24 14 (dk_at dksX4_orientationIndexFilter_2 14 rfl rfl)
theorem dX4_orientationIndexFilter_63 : decode cX4_orientationIndexFilter 63 = .ok (.dconst 0, 1) := dk_14 (dk_at dksX4_orientationIndexFilter_2 16 rfl rfl)
theorem dX4_orientationIndexFilter_64 : decode cX4_orientationIndexFilter 64 = .ok (.dcmp .g, 1) := dk_152 (dk_at dksX4_orientationIndexFilter_2 17 rfl rfl)
theorem dX4_orientationIndexFilter_65 : decode cX4_orientationIndexFilter 65 = .ok (.ifCond .ge 27, 3) := dk_156 0 27 (dk_at dksX4_orientationIndexFilter_2 18 rfl rfl)
theorem dX4_orientationIndexFilter_68 : decode cX4_orientationIndexFilter 68 = .ok (.dload 16, 2) := dk_24 16 (dk_at dksX4_orientationIndexFilter_2 21 rfl rfl)
theorem dX4_orientationIndexFilter_70 : decode cX4_orientationIndexFilter 70 = .ok (.dconst 0, 1) := dk_14 (dk_at dksX4_orientationIndexFilter_2 23 rfl rfl)
theorem dX4_orientationIndexFilter_71 : decode cX4_orientationIndexFilter 71 = .ok (.dcmp .l, 1) := dk_151 (dk_at dksX4_orientationIndexFilter_3 0 rfl rfl)
theorem dX4_orientationIndexFilter_72 : decode cX4_orientationIndexFilter 72 = .ok (.ifCond .lt 9, 3) := dk_155 0 9 (dk_at dksX4_orientationIndexFilter_3 1 rfl rfl)
theorem dX4_orientationIndexFilter_75 : decode cX4_orientationIndexFilter 75 = .ok (.dload 18, 2) := dk_24 18 (dk_at dksX4_orientationIndexFilter_3 4 rfl rfl)
theorem dX4_orientationIndexFilter_77 : decode cX4_orientationIndexFilter 77 = .ok (.invokestatic 39, 3) := dk_184 0 39 (dk_at dksX4_orientationIndexFilter_3 6 rfl rfl)
theorem dX4_orientationIndexFilter_80 : decode cX4_orientationIndexFilter 80 = .ok (.ireturn, 1) := dk_172 (dk_at dksX4_orientationIndexFilter_3 9 rfl rfl)
theorem dX4_orientationIndexFilter_81 : decode cX4_orientationIndexFilter 81 = .ok (.dload 14, 2) := dk_24 14 (dk_at dksX4_orientationIndexFilter_3 10 rfl rfl)
theorem dX4_orientationIndexFilter_83 : decode cX4_orientationIndexFilter 83 = .ok (.dneg, 1) := dk_119 (dk_at dksX4_orientationIndexFilter_3 12 rfl rfl)
theorem dX4_orientationIndexFilter_84 : decode cX4_orientationIndexFilter 84 = .ok (.dload 16, 2) := dk_24 16 (dk_at dksX4_orientationIndexFilter_3 13 rfl rfl)
theorem dX4_orientationIndexFilter_86 : decode cX4_orientationIndexFilter 86 = .ok (.dsub, 1) := dk_103 (dk_at dksX4_orientationIndexFilter_3 15 rfl rfl)
theorem dX4_orientationIndexFilter_87 : decode cX4_orientationIndexFilter 87 = .ok (.dstore 12, 2) := dk_57 12 (dk_at dksX4_orientationIndexFilter_3 16 rfl rfl)
theorem dX4_orientationIndexFilter_89 : decode cX4_orientationIndexFilter 89 = .ok (.goto 9, 3) := dk_167 0 9 (dk_at dksX4_orientationIndexFilter_3 18 rfl rfl)
theorem dX4_orientationIndexFilter_92 : decode cX4_orientationIndexFilter 92 = .ok (.dload 18, 2) := dk_24 18 (dk_at dksX4_orientationIndexFilter_3 21 rfl rfl)
theorem dX4_orientationIndexFilter_94 : decode cX4_orientationIndexFilter 94 = .ok (.invokestatic 39, 3) := dk_184 0 39 (dk_at dksX4_orientationIndexFilter_4 0 rfl rfl)
theorem dX4_orientationIndexFilter_97 : decode cX4_orientationIndexFilter 97 = .ok (.ireturn, 1) := dk_172 (dk_at dksX4_orientationIndexFilter_4 3 rfl rfl)
theorem dX4_orientationIndexFilter_98 : decode cX4_orientationIndexFilter 98 = .ok (.ldc2_w 42, 3) := dk_20 0 42 (dk_at dksX4_orientationIndexFilter_4 4 rfl rfl)
theorem dX4_orientationIndexFilter_101 : decode cX4_orientationIndexFilter 101 = .ok (.dload 12, 2) := dk_24 12 (dk_at dksX4_orientationIndexFilter_4 7 rfl rfl)
theorem dX4_orientationIndexFilter_103 : decode cX4_orientationIndexFilter 103 = .ok (.dmul, 1) := dk_107 (dk_at dksX4_orientationIndexFilter_4 9 rfl rfl)
theorem dX4_orientationIndexFilter_104 : decode cX4_orientationIndexFilter 104 = .ok (.dstore 20, 2) := dk_57 20 (dk_at dksX4_orientationIndexFilter_4 10 rfl rfl)
theorem dX4_orientationIndexFilter_106 : decode cX4_orientationIndexFilter 106 = .ok (.dload 18, 2) := dk_24 18 (dk_at dksX4_orientationIndexFilter_4 12 rfl rfl)
theorem dX4_orientationIndexFilter_108 : decode cX4_orientationIndexFilter 108 = .ok (.dload 20, 2) := dk_24 20 (dk_at dksX4_orientationIndexFilter_4 14 rfl rfl)
theorem dX4_orientationIndexFilter_110 : decode cX4_orientationIndexFilter 110 = .ok (.dcmp .l, 1) := dk_151 (dk_at dksX4_orientationIndexFilter_4 16 rfl rfl)
theorem dX4_orientationIndexFilter_111 : decode cX4_orientationIndexFilter 111 = .ok (.ifCond .ge 12, 3) := dk_156 0 12 (dk_at dksX4_orientationIndexFilter_4 17 rfl rfl)
theorem dX4_orientationIndexFilter_114 : decode cX4_orientationIndexFilter 114 = .ok (.dload 18, 2) := dk_24 18 (dk_at dksX4_orientationIndexFilter_4 20 rfl rfl)
theorem dX4_orientationIndexFilter_116 : decode cX4_orientationIndexFilter 116 = .ok (.dneg, 1) := dk_119 (dk_at dksX4_orientationIndexFilter_4 22 rfl rfl)
theorem dX4_orientationIndexFilter_117 : decode cX4_orientationIndexFilter 117 = .ok (.dload 20, 2) := dk_24 20 (dk_at dksX4_orientationIndexFilter_5 0 rfl rfl)
theorem dX4_orientationIndexFilter_119 : decode cX4_orientationIndexFilter 119 = .ok (.dcmp .l, 1) := dk_151 (dk_at dksX4_orientationIndexFilter_5 2 rfl rfl)
theorem dX4_orientationIndexFilter_120 : decode cX4_orientationIndexFilter 120 = .ok (.ifCond .lt 9, 3) := dk_155 0 9 (dk_at dksX4_orientationIndexFilter_5 3 rfl rfl)
theorem dX4_orientationIndexFilter_123 : decode cX4_orientationIndexFilter 123 = .ok (.dload 18, 2) := dk_24 18 (dk_at dksX4_orientationIndexFilter_5 6 rfl rfl)
theorem dX4_orientationIndexFilter_125 : decode cX4_orientationIndexFilter 125 = .ok (.invokestatic 39, 3) := dk_184 0 39 (dk_at dksX4_orientationIndexFilter_5 8 rfl rfl)
theorem dX4_orientationIndexFilter_128 : decode cX4_orientationIndexFilter 128 = .ok (.ireturn, 1) := dk_172 (dk_at dksX4_orientationIndexFilter_5 11 rfl rfl)
theorem dX4_orientationIndexFilter_129 : decode cX4_orientationIndexFilter 129 = .ok (.iconst 2, 1) := dk_5 (dk_at dksX4_orientationIndexFilter_5 12 rfl rfl)
theorem dX4_orientationIndexFilter_130 : decode cX4_orientationIndexFilter 130 = .ok (.ireturn, 1) := dk_172 (dk_at dksX4_orientationIndexFilter_5 13 rfl rfl)
abbrev cX4_signum : ByteArray := prog_1_method_4_code
def yX4_signum : MethodName := ⟨RX4, "signum", "(D)I"⟩
def dkwX4_signum_0 : List UInt8 := [38, 14, 151, 158, 0, 5, 4, 172, 38, 14, 152, 156, 0, 5, 2, 172, 3, 172]
abbrev dktX4_signum_0 : List UInt8 := dkwX4_signum_0 ++ []
theorem dksX4_signum_0 : cX4_signum.data.toList.drop 0 = dktX4_signum_0 := by decide +kernel
theorem dX4_signum_0 : decode cX4_signum 0 = .ok (.dload_n 0, 1) := dk_38 (dk_at dksX4_signum_0 0 rfl rfl)
theorem dX4_signum_1 : decode cX4_signum 1 = .ok (.dconst 0, 1) := dk_14 (dk_at dksX4_signum_0 1 rfl rfl)
theorem dX4_signum_2 : decode cX4_signum 2 = .ok (.dcmp .l, 1) := dk_151 (dk_at dksX4_signum_0 2 rfl rfl)
theorem dX4_signum_3 : decode cX4_signum 3 = .ok (.ifCond .le 5, 3) := dk_158 0 5 (dk_at dksX4_signum_0 3 rfl rfl)
theorem dX4_signum_6 : decode cX4_signum 6 = .ok (.iconst 1, 1) := dk_4 (dk_at dksX4_signum_0 6 rfl rfl)
theorem dX4_signum_7 : decode cX4_signum 7 = .ok (.ireturn, 1) := dk_172 (dk_at dksX4_signum_0 7 rfl rfl)
theorem dX4_signum_8 : decode cX4_signum 8 = .ok (.dload_n 0, 1) := dk_38 (dk_at dksX4_signum_0 8 rfl rfl)
theorem dX4_signum_9 : decode cX4_signum 9 = .ok (.dconst 0, 1) := dk_14 (dk_at dksX4_signum_0 9 rfl rfl)
theorem dX4_signum_10 : decode cX4_signum 10 = .ok (.dcmp .g, 1) := dk_152 (dk_at dksX4_signum_0 10 rfl rfl)
theorem dX4_signum_11 : decode cX4_signum 11 = .ok (.ifCond .ge 5, 3) := dk_156 0 5 (dk_at dksX4_signum_0 11 rfl rfl)
theorem dX4_signum_14 : decode cX4_signum 14 = .ok (.iconst (-1), 1) := dk_2 (dk_at dksX4_signum_0 14 rfl rfl)
theorem dX4_signum_15 : decode cX4_signum 15 = .ok (.ireturn, 1) := dk_172 (dk_at dksX4_signum_0 15 rfl rfl)
theorem dX4_signum_16 : decode cX4_signum 16 = .ok (.iconst 0, 1) := dk_3 (dk_at dksX4_signum_0 16 rfl rfl)
theorem dX4_signum_17 : decode cX4_signum 17 = .ok (.ireturn, 1) := dk_172 (dk_at dksX4_signum_0 17 rfl rfl)
theorem q9 : (Jvm.Cond.initialized "CGAlgorithmsDD") ∈ lw_all := lw_g (lw_at lw_m0 4 rfl) rfl
theorem q46 : (Jvm.Cond.fieldLink "CGAlgorithmsDD" (1 : Nat) "Coordinate" "x" "D") ∈ lw_all := lw_g (lw_at lw_m0 41 rfl) rfl
theorem q50 : (Jvm.Cond.fieldLink "CGAlgorithmsDD" (7 : Nat) "Coordinate" "y" "D") ∈ lw_all := lw_g (lw_at lw_m0 45 rfl) rfl
theorem q84 : (Jvm.Cond.static ({ cls := "CGAlgorithmsDD", name := "orientationIndex", desc := "(LCoordinate;LCoordinate;LCoordinate;)I" } : Jvm.MethodName)) ∈ lw_all := lw_g (lw_at lw_m0 79 rfl) rfl
theorem q85 : (Jvm.Cond.code ({ cls := "CGAlgorithmsDD", name := "orientationIndex", desc := "(LCoordinate;LCoordinate;LCoordinate;)I" } : Jvm.MethodName) prog_1_method_1_code (3 : Nat) (Option.some Jvm.ClassFile.FieldType.int)) ∈ lw_all := lw_g (lw_at lw_m0 80 rfl) rfl
theorem q86 : (Jvm.Cond.methodLink "CGAlgorithmsDD" (10 : Nat) ({ cls := "CGAlgorithmsDD", name := "orientationIndex", desc := "(DDDDDD)I" } : Jvm.MethodName)) ∈ lw_all := lw_g (lw_at lw_m0 81 rfl) rfl
theorem q87 : (Jvm.Cond.static ({ cls := "CGAlgorithmsDD", name := "orientationIndex", desc := "(DDDDDD)I" } : Jvm.MethodName)) ∈ lw_all := lw_g (lw_at lw_m0 82 rfl) rfl
theorem q88 : (Jvm.Cond.code ({ cls := "CGAlgorithmsDD", name := "orientationIndex", desc := "(DDDDDD)I" } : Jvm.MethodName) prog_1_method_2_code (17 : Nat) (Option.some Jvm.ClassFile.FieldType.int)) ∈ lw_all := lw_g (lw_at lw_m0 83 rfl) rfl
theorem q89 : (Jvm.Cond.methodLink "CGAlgorithmsDD" (16 : Nat) ({ cls := "CGAlgorithmsDD", name := "orientationIndexFilter", desc := "(DDDDDD)I" } : Jvm.MethodName)) ∈ lw_all := lw_g (lw_at lw_m0 84 rfl) rfl
theorem q90 : (Jvm.Cond.static ({ cls := "CGAlgorithmsDD", name := "orientationIndexFilter", desc := "(DDDDDD)I" } : Jvm.MethodName)) ∈ lw_all := lw_g (lw_at lw_m0 85 rfl) rfl
theorem q91 : (Jvm.Cond.code ({ cls := "CGAlgorithmsDD", name := "orientationIndexFilter", desc := "(DDDDDD)I" } : Jvm.MethodName) prog_1_method_3_code (22 : Nat) (Option.some Jvm.ClassFile.FieldType.int)) ∈ lw_all := lw_g (lw_at lw_m0 86 rfl) rfl
theorem q92 : (Jvm.Cond.methodLink "CGAlgorithmsDD" (39 : Nat) ({ cls := "CGAlgorithmsDD", name := "signum", desc := "(D)I" } : Jvm.MethodName)) ∈ lw_all := lw_g (lw_at lw_m0 87 rfl) rfl
theorem q93 : (Jvm.Cond.static ({ cls := "CGAlgorithmsDD", name := "signum", desc := "(D)I" } : Jvm.MethodName)) ∈ lw_all := lw_g (lw_at lw_m0 88 rfl) rfl
theorem q94 : (Jvm.Cond.code ({ cls := "CGAlgorithmsDD", name := "signum", desc := "(D)I" } : Jvm.MethodName) prog_1_method_4_code (2 : Nat) (Option.some Jvm.ClassFile.FieldType.int)) ∈ lw_all := lw_g (lw_at lw_m0 89 rfl) rfl
theorem q95 : (Jvm.Cond.constantDouble "CGAlgorithmsDD" (42 : Nat) (4382569440205035030 : UInt64)) ∈ lw_all := lw_g (lw_at lw_m0 90 rfl) rfl
theorem q96 : (Jvm.Cond.methodLink "CGAlgorithmsDD" (19 : Nat) ({ cls := "DD", name := "valueOf", desc := "(D)LDD;" } : Jvm.MethodName)) ∈ lw_all := lw_g (lw_at lw_m0 91 rfl) rfl
theorem q116 : (Jvm.Cond.methodLink "CGAlgorithmsDD" (25 : Nat) ({ cls := "DD", name := "selfAdd", desc := "(D)LDD;" } : Jvm.MethodName)) ∈ lw_all := lw_g (lw_at lw_m0 111 rfl) rfl
theorem q120 : (Jvm.Cond.methodLink "CGAlgorithmsDD" (28 : Nat) ({ cls := "DD", name := "selfMultiply", desc := "(LDD;)LDD;" } : Jvm.MethodName)) ∈ lw_all := lw_g (lw_at lw_m0 115 rfl) rfl
theorem q129 : (Jvm.Cond.methodLink "CGAlgorithmsDD" (32 : Nat) ({ cls := "DD", name := "selfSubtract", desc := "(LDD;)LDD;" } : Jvm.MethodName)) ∈ lw_all := lw_g (lw_at lw_m0 124 rfl) rfl
theorem q144 : (Jvm.Cond.methodLink "CGAlgorithmsDD" (35 : Nat) ({ cls := "DD", name := "signum", desc := "()I" } : Jvm.MethodName)) ∈ lw_all := lw_g (lw_at lw_m0 139 rfl) rfl
/-! DD -/
set_option maxRecDepth 100000
def RX5 : String := "DD"
def TX5 : u_T := fun k => match k with
  | 0 => ("DD", "hi", "D", false)
  | _ => ("DD", "lo", "D", false)
def tyX5 : Nat → FieldType := fun k => match k with
  | 0 => .double
  | _ => .double
abbrev wsX50 : List Cond := u_ws RX5 TX5 2
theorem nmX5 : ∀ a, a < 2 → ∀ b, b < 2 → a ≠ b → (TX5 a).2.1 ≠ (TX5 b).2.1 := by decide +kernel
theorem tyX5_ok : ∀ k, k < 2 → parseFieldDescriptor (TX5 k).2.2.1 = some (tyX5 k) := by decide +kernel
abbrev cX5_valueOf : ByteArray := prog_3_method_1_code
def yX5_valueOf : MethodName := ⟨RX5, "valueOf", "(D)LDD;"⟩
def dkwX5_valueOf_0 : List UInt8 := [187, 0, 1, 89, 38, 183, 0, 3, 176]
abbrev dktX5_valueOf_0 : List UInt8 := dkwX5_valueOf_0 ++ []
theorem dksX5_valueOf_0 : cX5_valueOf.data.toList.drop 0 = dktX5_valueOf_0 := by decide +kernel
theorem dX5_valueOf_0 : decode cX5_valueOf 0 = .ok (.new 1, 3) := dk_187 0 1 (dk_at dksX5_valueOf_0 0 rfl rfl)
theorem dX5_valueOf_3 : decode cX5_valueOf 3 = .ok (.dup, 1) := dk_89 (dk_at dksX5_valueOf_0 3 rfl rfl)
theorem dX5_valueOf_4 : decode cX5_valueOf 4 = .ok (.dload_n 0, 1) := dk_38 (dk_at dksX5_valueOf_0 4 rfl rfl)
theorem dX5_valueOf_5 : decode cX5_valueOf 5 = .ok (.invokespecial 3, 3) := dk_183 0 3 (dk_at dksX5_valueOf_0 5 rfl rfl)
theorem dX5_valueOf_8 : decode cX5_valueOf 8 = .ok (.areturn, 1) := dk_176 (dk_at dksX5_valueOf_0 8 rfl rfl)
abbrev cX5_init : ByteArray := prog_3_method_2_code
def yX5_init : MethodName := ⟨RX5, "<init>", "(D)V"⟩
def dkwX5_init_0 : List UInt8 := [42, 183, 0, 7, 42, 14, 181, 0, 12, 42, 14, 181, 0, 16, 42, 39, 182, 0, 19, 177]
abbrev dktX5_init_0 : List UInt8 := dkwX5_init_0 ++ []
theorem dksX5_init_0 : cX5_init.data.toList.drop 0 = dktX5_init_0 := by decide +kernel
theorem dX5_init_0 : decode cX5_init 0 = .ok (.aload_n 0, 1) := dk_42 (dk_at dksX5_init_0 0 rfl rfl)
theorem dX5_init_1 : decode cX5_init 1 = .ok (.invokespecial 7, 3) := dk_183 0 7 (dk_at dksX5_init_0 1 rfl rfl)
theorem dX5_init_4 : decode cX5_init 4 = .ok (.aload_n 0, 1) := dk_42 (dk_at dksX5_init_0 4 rfl rfl)
theorem dX5_init_5 : decode cX5_init 5 = .ok (.dconst 0, 1) := dk_14 (dk_at dksX5_init_0 5 rfl rfl)
theorem dX5_init_6 : decode cX5_init 6 = .ok (.putfield 12, 3) := dk_181 0 12 (dk_at dksX5_init_0 6 rfl rfl)
theorem dX5_init_9 : decode cX5_init 9 = .ok (.aload_n 0, 1) := dk_42 (dk_at dksX5_init_0 9 rfl rfl)
theorem dX5_init_10 : decode cX5_init 10 = .ok (.dconst 0, 1) := dk_14 (dk_at dksX5_init_0 10 rfl rfl)
theorem dX5_init_11 : decode cX5_init 11 = .ok (.putfield 16, 3) := dk_181 0 16 (dk_at dksX5_init_0 11 rfl rfl)
theorem dX5_init_14 : decode cX5_init 14 = .ok (.aload_n 0, 1) := dk_42 (dk_at dksX5_init_0 14 rfl rfl)
theorem dX5_init_15 : decode cX5_init 15 = .ok (.dload_n 1, 1) := dk_39 (dk_at dksX5_init_0 15 rfl rfl)
theorem dX5_init_16 : decode cX5_init 16 = .ok (.invokevirtual 19, 3) := dk_182 0 19 (dk_at dksX5_init_0 16 rfl rfl)
theorem dX5_init_19 : decode cX5_init 19 = .ok (.return_, 1) := dk_177 (dk_at dksX5_init_0 19 rfl rfl)
abbrev cX5_init_2 : ByteArray := prog_3_method_3_code
def yX5_init_2 : MethodName := ⟨RX5, "init", "(D)V"⟩
def dkwX5_init_2_0 : List UInt8 := [42, 39, 181, 0, 12, 42, 14, 181, 0, 16, 177]
abbrev dktX5_init_2_0 : List UInt8 := dkwX5_init_2_0 ++ []
theorem dksX5_init_2_0 : cX5_init_2.data.toList.drop 0 = dktX5_init_2_0 := by decide +kernel
theorem dX5_init_2_0 : decode cX5_init_2 0 = .ok (.aload_n 0, 1) := dk_42 (dk_at dksX5_init_2_0 0 rfl rfl)
theorem dX5_init_2_1 : decode cX5_init_2 1 = .ok (.dload_n 1, 1) := dk_39 (dk_at dksX5_init_2_0 1 rfl rfl)
theorem dX5_init_2_2 : decode cX5_init_2 2 = .ok (.putfield 12, 3) := dk_181 0 12 (dk_at dksX5_init_2_0 2 rfl rfl)
theorem dX5_init_2_5 : decode cX5_init_2 5 = .ok (.aload_n 0, 1) := dk_42 (dk_at dksX5_init_2_0 5 rfl rfl)
theorem dX5_init_2_6 : decode cX5_init_2 6 = .ok (.dconst 0, 1) := dk_14 (dk_at dksX5_init_2_0 6 rfl rfl)
theorem dX5_init_2_7 : decode cX5_init_2 7 = .ok (.putfield 16, 3) := dk_181 0 16 (dk_at dksX5_init_2_0 7 rfl rfl)
theorem dX5_init_2_10 : decode cX5_init_2 10 = .ok (.return_, 1) := dk_177 (dk_at dksX5_init_2_0 10 rfl rfl)
abbrev cX5_selfAdd : ByteArray := prog_3_method_4_code
def yX5_selfAdd : MethodName := ⟨RX5, "selfAdd", "(D)LDD;"⟩
def dkwX5_selfAdd_3 : List UInt8 := [24, 5, 41, 42, 180, 0, 12, 103, 99, 181, 0, 16, 42, 176]
abbrev dktX5_selfAdd_3 : List UInt8 := dkwX5_selfAdd_3 ++ []
def dkwX5_selfAdd_2 : List UInt8 := [24, 7, 24, 13, 99, 74, 24, 13, 24, 7, 41, 103, 99, 57, 5, 42, 41, 24, 5, 99, 181, 0, 12, 42]
abbrev dktX5_selfAdd_2 : List UInt8 := dkwX5_selfAdd_2 ++ dktX5_selfAdd_3
def dkwX5_selfAdd_1 : List UInt8 := [39, 24, 11, 103, 42, 180, 0, 12, 24, 9, 103, 99, 57, 9, 24, 9, 42, 180, 0, 16, 99, 57, 13]
abbrev dktX5_selfAdd_1 : List UInt8 := dkwX5_selfAdd_1 ++ dktX5_selfAdd_2
def dkwX5_selfAdd_0 : List UInt8 := [42, 180, 0, 12, 39, 99, 57, 7, 24, 7, 42, 180, 0, 12, 103, 57, 11, 24, 7, 24, 11, 103, 57, 9]
abbrev dktX5_selfAdd_0 : List UInt8 := dkwX5_selfAdd_0 ++ dktX5_selfAdd_1
theorem dksX5_selfAdd_0 : cX5_selfAdd.data.toList.drop 0 = dktX5_selfAdd_0 := by decide +kernel
theorem dksX5_selfAdd_1 : cX5_selfAdd.data.toList.drop 24 = dktX5_selfAdd_1 := dk_seg dksX5_selfAdd_0 24 rfl rfl
theorem dksX5_selfAdd_2 : cX5_selfAdd.data.toList.drop 47 = dktX5_selfAdd_2 := dk_seg dksX5_selfAdd_1 23 rfl rfl
theorem dksX5_selfAdd_3 : cX5_selfAdd.data.toList.drop 71 = dktX5_selfAdd_3 := dk_seg dksX5_selfAdd_2 24 rfl rfl
theorem dX5_selfAdd_0 : decode cX5_selfAdd 0 = .ok (.aload_n 0, 1) := dk_42 (dk_at dksX5_selfAdd_0 0 rfl rfl)
theorem dX5_selfAdd_1 : decode cX5_selfAdd 1 = .ok (.getfield 12, 3) := dk_180 0 12 (dk_at dksX5_selfAdd_0 1 rfl rfl)
theorem dX5_selfAdd_4 : decode cX5_selfAdd 4 = .ok (.dload_n 1, 1) := dk_39 (dk_at dksX5_selfAdd_0 4 rfl rfl)
theorem dX5_selfAdd_5 : decode cX5_selfAdd 5 = .ok (.dadd, 1) := dk_99 (dk_at dksX5_selfAdd_0 5 rfl rfl)
theorem dX5_selfAdd_6 : decode cX5_selfAdd 6 = .ok (.dstore 7, 2) := dk_57 7 (dk_at dksX5_selfAdd_0 6 rfl rfl)
theorem dX5_selfAdd_8 : decode cX5_selfAdd 8 = .ok (.dload 7, 2) := dk_24 7 (dk_at dksX5_selfAdd_0 8 rfl rfl)
theorem dX5_selfAdd_10 : decode cX5_selfAdd 10 = .ok (.aload_n 0, 1) := dk_42 (dk_at dksX5_selfAdd_0 10 rfl rfl)
theorem dX5_selfAdd_11 : decode cX5_selfAdd 11 = .ok (.getfield 12, 3) := dk_180 0 12 (dk_at dksX5_selfAdd_0 11 rfl rfl)
theorem dX5_selfAdd_14 : decode cX5_selfAdd 14 = .ok (.dsub, 1) := dk_103 (dk_at dksX5_selfAdd_0 14 rfl rfl)
theorem dX5_selfAdd_15 : decode cX5_selfAdd 15 = .ok (.dstore 11, 2) := dk_57 11 (dk_at dksX5_selfAdd_0 15 rfl rfl)
theorem dX5_selfAdd_17 : decode cX5_selfAdd 17 = .ok (.dload 7, 2) := dk_24 7 (dk_at dksX5_selfAdd_0 17 rfl rfl)
theorem dX5_selfAdd_19 : decode cX5_selfAdd 19 = .ok (.dload 11, 2) := dk_24 11 (dk_at dksX5_selfAdd_0 19 rfl rfl)
theorem dX5_selfAdd_21 : decode cX5_selfAdd 21 = .ok (.dsub, 1) := dk_103 (dk_at dksX5_selfAdd_0 21 rfl rfl)
theorem dX5_selfAdd_22 : decode cX5_selfAdd 22 = .ok (.dstore 9, 2) := dk_57 9 (dk_at dksX5_selfAdd_0 22 rfl rfl)
theorem dX5_selfAdd_24 : decode cX5_selfAdd 24 = .ok (.dload_n 1, 1) := dk_39 (dk_at dksX5_selfAdd_1 0 rfl rfl)
theorem dX5_selfAdd_25 : decode cX5_selfAdd 25 = .ok (.dload 11, 2) := dk_24 11 (dk_at dksX5_selfAdd_1 1 rfl rfl)
theorem dX5_selfAdd_27 : decode cX5_selfAdd 27 = .ok (.dsub, 1) := dk_103 (dk_at dksX5_selfAdd_1 3 rfl rfl)
theorem dX5_selfAdd_28 : decode cX5_selfAdd 28 = .ok (.aload_n 0, 1) := dk_42 (dk_at dksX5_selfAdd_1 4 rfl rfl)
theorem dX5_selfAdd_29 : decode cX5_selfAdd 29 = .ok (.getfield 12, 3) := dk_180 0 12 (dk_at dksX5_selfAdd_1 5 rfl rfl)
theorem dX5_selfAdd_32 : decode cX5_selfAdd 32 = .ok (.dload 9, 2) := dk_24 9 (dk_at dksX5_selfAdd_1 8 rfl rfl)
theorem dX5_selfAdd_34 : decode cX5_selfAdd 34 = .ok (.dsub, 1) := dk_103 (dk_at dksX5_selfAdd_1 10 rfl rfl)
theorem dX5_selfAdd_35 : decode cX5_selfAdd 35 = .ok (.dadd, 1) := dk_99 (dk_at dksX5_selfAdd_1 11 rfl rfl)
theorem dX5_selfAdd_36 : decode cX5_selfAdd 36 = .ok (.dstore 9, 2) := dk_57 9 (dk_at dksX5_selfAdd_1 12 rfl rfl)
theorem dX5_selfAdd_38 : decode cX5_selfAdd 38 = .ok (.dload 9, 2) := dk_24 9 (dk_at dksX5_selfAdd_1 14 rfl rfl)
theorem dX5_selfAdd_40 : decode cX5_selfAdd 40 = .ok (.aload_n 0, 1) := dk_42 (dk_at dksX5_selfAdd_1 16 rfl rfl)
theorem dX5_selfAdd_41 : decode cX5_selfAdd 41 = .ok (.getfield 16, 3) := dk_180 0 16 (dk_at dksX5_selfAdd_1 17 rfl rfl)
theorem dX5_selfAdd_44 : decode cX5_selfAdd 44 = .ok (.dadd, 1) := dk_99 (dk_at dksX5_selfAdd_1 20 rfl rfl)
theorem dX5_selfAdd_45 : decode cX5_selfAdd 45 = .ok (.dstore 13, 2) := dk_57 13 (dk_at dksX5_selfAdd_1 21 rfl rfl)
theorem dX5_selfAdd_47 : decode cX5_selfAdd 47 = .ok (.dload 7, 2) := dk_24 7 (dk_at dksX5_selfAdd_2 0 rfl rfl)
theorem dX5_selfAdd_49 : decode cX5_selfAdd 49 = .ok (.dload 13, 2) := dk_24 13 (dk_at dksX5_selfAdd_2 2 rfl rfl)
theorem dX5_selfAdd_51 : decode cX5_selfAdd 51 = .ok (.dadd, 1) := dk_99 (dk_at dksX5_selfAdd_2 4 rfl rfl)
theorem dX5_selfAdd_52 : decode cX5_selfAdd 52 = .ok (.dstore_n 3, 1) := dk_74 (dk_at dksX5_selfAdd_2 5 rfl rfl)
theorem dX5_selfAdd_53 : decode cX5_selfAdd 53 = .ok (.dload 13, 2) := dk_24 13 (dk_at dksX5_selfAdd_2 6 rfl rfl)
theorem dX5_selfAdd_55 : decode cX5_selfAdd 55 = .ok (.dload 7, 2) := dk_24 7 (dk_at dksX5_selfAdd_2 8 rfl rfl)
theorem dX5_selfAdd_57 : decode cX5_selfAdd 57 = .ok (.dload_n 3, 1) := dk_41 (dk_at dksX5_selfAdd_2 10 rfl rfl)
theorem dX5_selfAdd_58 : decode cX5_selfAdd 58 = .ok (.dsub, 1) := dk_103 (dk_at dksX5_selfAdd_2 11 rfl rfl)
theorem dX5_selfAdd_59 : decode cX5_selfAdd 59 = .ok (.dadd, 1) := dk_99 (dk_at dksX5_selfAdd_2 12 rfl rfl)
theorem dX5_selfAdd_60 : decode cX5_selfAdd 60 = .ok (.dstore 5, 2) := dk_57 5 (dk_at dksX5_selfAdd_2 13 rfl rfl)
theorem dX5_selfAdd_62 : decode cX5_selfAdd 62 = .ok (.aload_n 0, 1) := dk_42 (dk_at dksX5_selfAdd_2 15 rfl rfl)
theorem dX5_selfAdd_63 : decode cX5_selfAdd 63 = .ok (.dload_n 3, 1) := dk_41 (dk_at dksX5_selfAdd_2 16 rfl rfl)
theorem dX5_selfAdd_64 : decode cX5_selfAdd 64 = .ok (.dload 5, 2) := dk_24 5 (dk_at dksX5_selfAdd_2 17 rfl rfl)
theorem dX5_selfAdd_66 : decode cX5_selfAdd 66 = .ok (.dadd, 1) := dk_99 (dk_at dksX5_selfAdd_2 19 rfl rfl)
theorem dX5_selfAdd_67 : decode cX5_selfAdd 67 = .ok (.putfield 12, 3) := dk_181 0 12 (dk_at dksX5_selfAdd_2 20 rfl rfl)
theorem dX5_selfAdd_70 : decode cX5_selfAdd 70 = .ok (.aload_n 0, 1) := dk_42 (dk_at dksX5_selfAdd_2 23 rfl rfl)
theorem dX5_selfAdd_71 : decode cX5_selfAdd 71 = .ok (.dload 5, 2) := dk_24 5 (dk_at dksX5_selfAdd_3 0 rfl rfl)
theorem dX5_selfAdd_73 : decode cX5_selfAdd 73 = .ok (.dload_n 3, 1) := dk_41 (dk_at dksX5_selfAdd_3 2 rfl rfl)
theorem dX5_selfAdd_74 : decode cX5_selfAdd 74 = .ok (.aload_n 0, 1) := dk_42 (dk_at dksX5_selfAdd_3 3 rfl rfl)
theorem dX5_selfAdd_75 : decode cX5_selfAdd 75 = .ok (.getfield 12, 3) := dk_180 0 12 (dk_at dksX5_selfAdd_3 4 rfl rfl)
theorem dX5_selfAdd_78 : decode cX5_selfAdd 78 = .ok (.dsub, 1) := dk_103 (dk_at dksX5_selfAdd_3 7 rfl rfl)
theorem dX5_selfAdd_79 : decode cX5_selfAdd 79 = .ok (.dadd, 1) := dk_99 (dk_at dksX5_selfAdd_3 8 rfl rfl)
theorem dX5_selfAdd_80 : decode cX5_selfAdd 80 = .ok (.putfield 16, 3) := dk_181 0 16 (dk_at dksX5_selfAdd_3 9 rfl rfl)
theorem dX5_selfAdd_83 : decode cX5_selfAdd 83 = .ok (.aload_n 0, 1) := dk_42 (dk_at dksX5_selfAdd_3 12 rfl rfl)
theorem dX5_selfAdd_84 : decode cX5_selfAdd 84 = .ok (.areturn, 1) := dk_176 (dk_at dksX5_selfAdd_3 13 rfl rfl)
abbrev cX5_selfMultiply : ByteArray := prog_3_method_7_code
def yX5_selfMultiply : MethodName := ⟨RX5, "selfMultiply", "(LDD;)LDD;"⟩
def dkwX5_selfMultiply_0 : List UInt8 := [42, 43, 180, 0, 12, 43, 180, 0, 16, 182, 0, 30, 176]
abbrev dktX5_selfMultiply_0 : List UInt8 := dkwX5_selfMultiply_0 ++ []
theorem dksX5_selfMultiply_0 : cX5_selfMultiply.data.toList.drop 0 = dktX5_selfMultiply_0 := by decide +kernel
theorem dX5_selfMultiply_0 : decode cX5_selfMultiply 0 = .ok (.aload_n 0, 1) := dk_42 (dk_at dksX5_selfMultiply_0 0 rfl rfl)
theorem dX5_selfMultiply_1 : decode cX5_selfMultiply 1 = .ok (.aload_n 1, 1) := dk_43 (dk_at dksX5_selfMultiply_0 1 rfl rfl)
theorem dX5_selfMultiply_2 : decode cX5_selfMultiply 2 = .ok (.getfield 12, 3) := dk_180 0 12 (dk_at dksX5_selfMultiply_0 2 rfl rfl)
theorem dX5_selfMultiply_5 : decode cX5_selfMultiply 5 = .ok (.aload_n 1, 1) := dk_43 (dk_at dksX5_selfMultiply_0 5 rfl rfl)
theorem dX5_selfMultiply_6 : decode cX5_selfMultiply 6 = .ok (.getfield 16, 3) := dk_180 0 16 (dk_at dksX5_selfMultiply_0 6 rfl rfl)
theorem dX5_selfMultiply_9 : decode cX5_selfMultiply 9 = .ok (.invokevirtual 30, 3) := dk_182 0 30 (dk_at dksX5_selfMultiply_0 9 rfl rfl)
theorem dX5_selfMultiply_12 : decode cX5_selfMultiply 12 = .ok (.areturn, 1) := dk_176 (dk_at dksX5_selfMultiply_0 12 rfl rfl)
abbrev cX5_selfMultiply_2 : ByteArray := prog_3_method_8_code
def yX5_selfMultiply_2 : MethodName := ⟨RX5, "selfMultiply", "(DD)LDD;"⟩
def dkwX5_selfMultiply_2_6 : List UInt8 := [181, 0, 16, 42, 176]
abbrev dktX5_selfMultiply_2_6 : List UInt8 := dkwX5_selfMultiply_2_6 ++ []
def dkwX5_selfMultiply_2_5 : List UInt8 := [24, 13, 24, 17, 103, 57, 5, 24, 15, 24, 5, 99, 57, 19, 42, 24, 17, 181, 0, 12, 42, 24, 19]
abbrev dktX5_selfMultiply_2_5 : List UInt8 := dkwX5_selfMultiply_2_5 ++ dktX5_selfMultiply_2_6
def dkwX5_selfMultiply_2_4 : List UInt8 := [42, 180, 0, 12, 41, 107, 42, 180, 0, 16, 39, 107, 99, 99, 57, 15, 24, 13, 24, 15, 99, 57, 17]
abbrev dktX5_selfMultiply_2_4 : List UInt8 := dkwX5_selfMultiply_2_4 ++ dktX5_selfMultiply_2_5
def dkwX5_selfMultiply_2_3 : List UInt8 := [24, 9, 107, 24, 13, 103, 24, 5, 24, 11, 107, 99, 24, 7, 24, 9, 107, 99, 24, 7, 24, 11, 107, 99]
abbrev dktX5_selfMultiply_2_3 : List UInt8 := dkwX5_selfMultiply_2_3 ++ dktX5_selfMultiply_2_4
def dkwX5_selfMultiply_2_2 : List UInt8 := [42, 180, 0, 12, 39, 107, 57, 13, 24, 15, 24, 9, 103, 57, 9, 39, 24, 9, 103, 57, 11, 24, 5]
abbrev dktX5_selfMultiply_2_2 : List UInt8 := dkwX5_selfMultiply_2_2 ++ dktX5_selfMultiply_2_3
def dkwX5_selfMultiply_2_1 : List UInt8 := [57, 15, 24, 13, 24, 5, 103, 57, 5, 42, 180, 0, 12, 24, 5, 103, 57, 7, 24, 15, 39, 103, 57, 9]
abbrev dktX5_selfMultiply_2_1 : List UInt8 := dkwX5_selfMultiply_2_1 ++ dktX5_selfMultiply_2_2
def dkwX5_selfMultiply_2_0 : List UInt8 := [20, 0, 33, 42, 180, 0, 12, 107, 57, 13, 24, 13, 42, 180, 0, 12, 103, 57, 5, 20, 0, 33, 39, 107]
abbrev dktX5_selfMultiply_2_0 : List UInt8 := dkwX5_selfMultiply_2_0 ++ dktX5_selfMultiply_2_1
theorem dksX5_selfMultiply_2_0 : cX5_selfMultiply_2.data.toList.drop 0 = dktX5_selfMultiply_2_0 := by decide +kernel
theorem dksX5_selfMultiply_2_1 : cX5_selfMultiply_2.data.toList.drop 24 = dktX5_selfMultiply_2_1 := dk_seg dksX5_selfMultiply_2_0 24 rfl rfl
theorem dksX5_selfMultiply_2_2 : cX5_selfMultiply_2.data.toList.drop 48 = dktX5_selfMultiply_2_2 := dk_seg dksX5_selfMultiply_2_1 24 rfl rfl
theorem dksX5_selfMultiply_2_3 : cX5_selfMultiply_2.data.toList.drop 71 = dktX5_selfMultiply_2_3 := dk_seg dksX5_selfMultiply_2_2 23 rfl rfl
theorem dksX5_selfMultiply_2_4 : cX5_selfMultiply_2.data.toList.drop 95 = dktX5_selfMultiply_2_4 := dk_seg dksX5_selfMultiply_2_3 24 rfl rfl
theorem dksX5_selfMultiply_2_5 : cX5_selfMultiply_2.data.toList.drop 118 = dktX5_selfMultiply_2_5 := dk_seg dksX5_selfMultiply_2_4 23 rfl rfl
theorem dksX5_selfMultiply_2_6 : cX5_selfMultiply_2.data.toList.drop 141 = dktX5_selfMultiply_2_6 := dk_seg dksX5_selfMultiply_2_5 23 rfl rfl
theorem dX5_selfMultiply_2_0 : decode cX5_selfMultiply_2 0 = .ok (.ldc2_w 33, 3) := dk_20 0 33 (dk_at dksX5_selfMultiply_2_0 0 rfl rfl)
theorem dX5_selfMultiply_2_3 : decode cX5_selfMultiply_2 3 = .ok (.aload_n 0, 1) := dk_42 (dk_at dksX5_selfMultiply_2_0 3 rfl rfl)
theorem dX5_selfMultiply_2_4 : decode cX5_selfMultiply_2 4 = .ok (.getfield 12, 3) := dk_180 0 12 (dk_at dksX5_selfMultiply_2_0 4 rfl rfl)
theorem dX5_selfMultiply_2_7 : decode cX5_selfMultiply_2 7 = .ok (.dmul, 1) := dk_107 (dk_at dksX5_selfMultiply_2_0 7 rfl rfl)
theorem dX5_selfMultiply_2_8 : decode cX5_selfMultiply_2 8 = .ok (.dstore 13, 2) := dk_57 13 (dk_at dksX5_selfMultiply_2_0 8 rfl rfl)
theorem dX5_selfMultiply_2_10 : decode cX5_selfMultiply_2 10 = .ok (.dload 13, 2) := dk_24 13 (dk_at dksX5_selfMultiply_2_0 10 rfl rfl)
theorem dX5_selfMultiply_2_12 : decode cX5_selfMultiply_2 12 = .ok (.aload_n 0, 1) := dk_42 (dk_at dksX5_selfMultiply_2_0 12 rfl rfl)
theorem dX5_selfMultiply_2_13 : decode cX5_selfMultiply_2 13 = .ok (.getfield 12, 3) := dk_180 0 12 (dk_at dksX5_selfMultiply_2_0 13 rfl rfl)
theorem dX5_selfMultiply_2_16 : decode cX5_selfMultiply_2 16 = .ok (.dsub, 1) := dk_103 (dk_at dksX5_selfMultiply_2_0 16 rfl rfl)
theorem dX5_selfMultiply_2_17 : decode cX5_selfMultiply_2 17 = .ok (.dstore 5, 2) := dk_57 5 (dk_at dksX5_selfMultiply_2_0 17 rfl rfl)
theorem dX5_selfMultiply_2_19 : decode cX5_selfMultiply_2 19 = .ok (.ldc2_w 33, 3) := dk_20 0 33 (dk_at dksX5_selfMultiply_2_0 19 rfl rfl)
theorem dX5_selfMultiply_2_22 : decode cX5_selfMultiply_2 22 = .ok (.dload_n 1, 1) := dk_39 (dk_at dksX5_selfMultiply_2_0 22 rfl rfl)
theorem dX5_selfMultiply_2_23 : decode cX5_selfMultiply_2 23 = .ok (.dmul, 1) := dk_107 (dk_at dksX5_selfMultiply_2_0 23 rfl rfl)
theorem dX5_selfMultiply_2_24 : decode cX5_selfMultiply_2 24 = .ok (.dstore 15, 2) := dk_57 15 (dk_at dksX5_selfMultiply_2_1 0 rfl rfl)
theorem dX5_selfMultiply_2_26 : decode cX5_selfMultiply_2 26 = .ok (.dload 13, 2) := dk_24 13 (dk_at dksX5_selfMultiply_2_1 2 rfl rfl)
theorem dX5_selfMultiply_2_28 : decode cX5_selfMultiply_2 28 = .ok (.dload 5, 2) := dk_24 5 (dk_at dksX5_selfMultiply_2_1 4 rfl rfl)
theorem dX5_selfMultiply_2_30 : decode cX5_selfMultiply_2 30 = .ok (.dsub, 1) := dk_103 (dk_at dksX5_selfMultiply_2_1 6 rfl rfl)
theorem dX5_selfMultiply_2_31 : decode cX5_selfMultiply_2 31 = .ok (.dstore 5, 2) := dk_57 5 (dk_at dksX5_selfMultiply_2_1 7 rfl rfl)
theorem dX5_selfMultiply_2_33 : decode cX5_selfMultiply_2 33 = .ok (.aload_n 0, 1) := dk_42 (dk_at dksX5_selfMultiply_2_1 9 rfl rfl)
theorem dX5_selfMultiply_2_34 : decode cX5_selfMultiply_2 34 = .ok (.getfield 12, 3) := dk_180 0 12 (dk_at dksX5_selfMultiply_2_1 10 rfl rfl)
theorem dX5_selfMultiply_2_37 : decode cX5_selfMultiply_2 37 = .ok (.dload 5, 2) := dk_24 5 (dk_at dksX5_selfMultiply_2_1 13 rfl rfl)
theorem dX5_selfMultiply_2_39 : decode cX5_selfMultiply_2 39 = .ok (.dsub, 1) := dk_103 (dk_at dksX5_selfMultiply_2_1 15 rfl rfl)
theorem dX5_selfMultiply_2_40 : decode cX5_selfMultiply_2 40 = .ok (.dstore 7, 2) := dk_57 7 (dk_at dksX5_selfMultiply_2_1 16 rfl rfl)
theorem dX5_selfMultiply_2_42 : decode cX5_selfMultiply_2 42 = .ok (.dload 15, 2) := dk_24 15 (dk_at dksX5_selfMultiply_2_1 18 rfl rfl)
theorem dX5_selfMultiply_2_44 : decode cX5_selfMultiply_2 44 = .ok (.dload_n 1, 1) := dk_39 (dk_at dksX5_selfMultiply_2_1 20 rfl rfl)
theorem dX5_selfMultiply_2_45 : decode cX5_selfMultiply_2 45 = .ok (.dsub, 1) := dk_103 (dk_at dksX5_selfMultiply_2_1 21 rfl rfl)
theorem dX5_selfMultiply_2_46 : decode cX5_selfMultiply_2 46 = .ok (.dstore 9, 2) := dk_57 9 (dk_at dksX5_selfMultiply_2_1 22 rfl rfl)
theorem dX5_selfMultiply_2_48 : decode cX5_selfMultiply_2 48 = .ok (.aload_n 0, 1) := dk_42 (dk_at dksX5_selfMultiply_2_2 0 rfl rfl)
theorem dX5_selfMultiply_2_49 : decode cX5_selfMultiply_2 49 = .ok (.getfield 12, 3) := dk_180 0 12 (dk_at dksX5_selfMultiply_2_2 1 rfl rfl)
theorem dX5_selfMultiply_2_52 : decode cX5_selfMultiply_2 52 = .ok (.dload_n 1, 1) := dk_39 (dk_at dksX5_selfMultiply_2_2 4 rfl rfl)
theorem dX5_selfMultiply_2_53 : decode cX5_selfMultiply_2 53 = .ok (.dmul, 1) := dk_107 (dk_at dksX5_selfMultiply_2_2 5 rfl rfl)
theorem dX5_selfMultiply_2_54 : decode cX5_selfMultiply_2 54 = .ok (.dstore 13, 2) := dk_57 13 (dk_at dksX5_selfMultiply_2_2 6 rfl rfl)
theorem dX5_selfMultiply_2_56 : decode cX5_selfMultiply_2 56 = .ok (.dload 15, 2) := dk_24 15 (dk_at dksX5_selfMultiply_2_2 8 rfl rfl)
theorem dX5_selfMultiply_2_58 : decode cX5_selfMultiply_2 58 = .ok (.dload 9, 2) := dk_24 9 (dk_at dksX5_selfMultiply_2_2 10 rfl rfl)
theorem dX5_selfMultiply_2_60 : decode cX5_selfMultiply_2 60 = .ok (.dsub, 1) := dk_103 (dk_at dksX5_selfMultiply_2_2 12 rfl rfl)
theorem dX5_selfMultiply_2_61 : decode cX5_selfMultiply_2 61 = .ok (.dstore 9, 2) := dk_57 9 (dk_at dksX5_selfMultiply_2_2 13 rfl rfl)
theorem dX5_selfMultiply_2_63 : decode cX5_selfMultiply_2 63 = .ok (.dload_n 1, 1) := dk_39 (dk_at dksX5_selfMultiply_2_2 15 rfl rfl)
theorem dX5_selfMultiply_2_64 : decode cX5_selfMultiply_2 64 = .ok (.dload 9, 2) := dk_24 9 (dk_at dksX5_selfMultiply_2_2 16 rfl rfl)
theorem dX5_selfMultiply_2_66 : decode cX5_selfMultiply_2 66 = .ok (.dsub, 1) := dk_103 (dk_at dksX5_selfMultiply_2_2 18 rfl rfl)
theorem dX5_selfMultiply_2_67 : decode cX5_selfMultiply_2 67 = .ok (.dstore 11, 2) := dk_57 11 (dk_at dksX5_selfMultiply_2_2 19 rfl rfl)
theorem dX5_selfMultiply_2_69 : decode cX5_selfMultiply_2 69 = .ok (.dload 5, 2) := dk_24 5 (dk_at dksX5_selfMultiply_2_2 21 rfl rfl)
theorem dX5_selfMultiply_2_71 : decode cX5_selfMultiply_2 71 = .ok (.dload 9, 2) := dk_24 9 (dk_at dksX5_selfMultiply_2_3 0 rfl rfl)
theorem dX5_selfMultiply_2_73 : decode cX5_selfMultiply_2 73 = .ok (.dmul, 1) := dk_107 (dk_at dksX5_selfMultiply_2_3 2 rfl rfl)
theorem dX5_selfMultiply_2_74 : decode cX5_selfMultiply_2 74 = .ok (.dload 13, 2) := dk_24 13 (dk_at dksX5_selfMultiply_2_3 3 rfl rfl)
theorem dX5_selfMultiply_2_76 : decode cX5_selfMultiply_2 76 = .ok (.dsub, 1) := dk_103 (dk_at dksX5_selfMultiply_2_3 5 rfl rfl)
theorem dX5_selfMultiply_2_77 : decode cX5_selfMultiply_2 77 = .ok (.dload 5, 2) := dk_24 5 (dk_at dksX5_selfMultiply_2_3 6 rfl rfl)
theorem dX5_selfMultiply_2_79 : decode cX5_selfMultiply_2 79 = .ok (.dload 11, 2) := dk_24 11 (dk_at dksX5_selfMultiply_2_3 8 rfl rfl)
theorem dX5_selfMultiply_2_81 : decode cX5_selfMultiply_2 81 = .ok (.dmul, 1) := dk_107 (dk_at dksX5_selfMultiply_2_3 10 rfl rfl)
theorem dX5_selfMultiply_2_82 : decode cX5_selfMultiply_2 82 = .ok (.dadd, 1) := dk_99 (dk_at dksX5_selfMultiply_2_3 11 rfl rfl)
theorem dX5_selfMultiply_2_83 : decode cX5_selfMultiply_2 83 = .ok (.dload 7, 2) := dk_24 7 (dk_at dksX5_selfMultiply_2_3 12 rfl rfl)
theorem dX5_selfMultiply_2_85 : decode cX5_selfMultiply_2 85 = .ok (.dload 9, 2) := dk_24 9 (dk_at dksX5_selfMultiply_2_3 14 rfl rfl)
theorem dX5_selfMultiply_2_87 : decode cX5_selfMultiply_2 87 = .ok (.dmul, 1) := dk_107 (dk_at dksX5_selfMultiply_2_3 16 rfl rfl)
theorem dX5_selfMultiply_2_88 : decode cX5_selfMultiply_2 88 = .ok (.dadd, 1) := dk_99 (dk_at dksX5_selfMultiply_2_3 17 rfl rfl)
theorem dX5_selfMultiply_2_89 : decode cX5_selfMultiply_2 89 = .ok (.dload 7, 2) := dk_24 7 (dk_at dksX5_selfMultiply_2_3 18 rfl rfl)
theorem dX5_selfMultiply_2_91 : decode cX5_selfMultiply_2 91 = .ok (.dload 11, 2) := dk_24 11 (dk_at dksX5_selfMultiply_2_3 20 rfl rfl)
theorem dX5_selfMultiply_2_93 : decode cX5_selfMultiply_2 93 = .ok (.dmul, 1) := dk_107 (dk_at dksX5_selfMultiply_2_3 22 rfl rfl)
theorem dX5_selfMultiply_2_94 : decode cX5_selfMultiply_2 94 = .ok (.dadd, 1) := dk_99 (dk_at dksX5_selfMultiply_2_3 23 rfl rfl)
theorem dX5_selfMultiply_2_95 : decode cX5_selfMultiply_2 95 = .ok (.aload_n 0, 1) := dk_42 (dk_at dksX5_selfMultiply_2_4 0 rfl rfl)
theorem dX5_selfMultiply_2_96 : decode cX5_selfMultiply_2 96 = .ok (.getfield 12, 3) := dk_180 0 12 (dk_at dksX5_selfMultiply_2_4 1 rfl rfl)
theorem dX5_selfMultiply_2_99 : decode cX5_selfMultiply_2 99 = .ok (.dload_n 3, 1) := dk_41 (dk_at dksX5_selfMultiply_2_4 4 rfl rfl)
theorem dX5_selfMultiply_2_100 : decode cX5_selfMultiply_2 100 = .ok (.dmul, 1) := dk_107 (dk_at dksX5_selfMultiply_2_4 5 rfl rfl)
theorem dX5_selfMultiply_2_101 : decode cX5_selfMultiply_2 101 = .ok (.aload_n 0, 1) := dk_42 (dk_at dksX5_selfMultiply_2_4 6 rfl rfl)
theorem dX5_selfMultiply_2_102 : decode cX5_selfMultiply_2 102 = .ok (.getfield 16, 3) := dk_180 0 16 (dk_at dksX5_selfMultiply_2_4 7 rfl rfl)
theorem dX5_selfMultiply_2_105 : decode cX5_selfMultiply_2 105 = .ok (.dload_n 1, 1) := dk_39 (dk_at dksX5_selfMultiply_2_4 10 rfl rfl)
theorem dX5_selfMultiply_2_106 : decode cX5_selfMultiply_2 106 = .ok (.dmul, 1) := dk_107 (dk_at dksX5_selfMultiply_2_4 11 rfl rfl)
theorem dX5_selfMultiply_2_107 : decode cX5_selfMultiply_2 107 = .ok (.dadd, 1) := dk_99 (dk_at dksX5_selfMultiply_2_4 12 rfl rfl)
theorem dX5_selfMultiply_2_108 : decode cX5_selfMultiply_2 108 = .ok (.dadd, 1) := dk_99 (dk_at dksX5_selfMultiply_2_4 13 rfl rfl)
theorem dX5_selfMultiply_2_109 : decode cX5_selfMultiply_2 109 = .ok (.dstore 15, 2) := dk_57 15 (dk_at dksX5_selfMultiply_2_4 14 rfl rfl)
theorem dX5_selfMultiply_2_111 : decode cX5_selfMultiply_2 111 = .ok (.dload 13, 2) := dk_24 13 (dk_at dksX5_selfMultiply_2_4 16 rfl rfl)
theorem dX5_selfMultiply_2_113 : decode cX5_selfMultiply_2 113 = .ok (.dload 15, 2) := dk_24 15 (dk_at dksX5_selfMultiply_2_4 18 rfl rfl)
theorem dX5_selfMultiply_2_115 : decode cX5_selfMultiply_2 115 = .ok (.dadd, 1) := dk_99 (dk_at dksX5_selfMultiply_2_4 20 rfl rfl)
theorem dX5_selfMultiply_2_116 : decode cX5_selfMultiply_2 116 = .ok (.dstore 17, 2) := dk_57 17 (dk_at dksX5_selfMultiply_2_4 21 rfl rfl)
theorem dX5_selfMultiply_2_118 : decode cX5_selfMultiply_2 118 = .ok (.dload 13, 2) := dk_24 13 (dk_at dksX5_selfMultiply_2_5 0 rfl rfl)
theorem dX5_selfMultiply_2_120 : decode cX5_selfMultiply_2 120 = .ok (.dload 17, 2) := dk_24 17 (dk_at dksX5_selfMultiply_2_5 2 rfl rfl)
theorem dX5_selfMultiply_2_122 : decode cX5_selfMultiply_2 122 = .ok (.dsub, 1) := dk_103 (dk_at dksX5_selfMultiply_2_5 4 rfl rfl)
theorem dX5_selfMultiply_2_123 : decode cX5_selfMultiply_2 123 = .ok (.dstore 5, 2) := dk_57 5 (dk_at dksX5_selfMultiply_2_5 5 rfl rfl)
theorem dX5_selfMultiply_2_125 : decode cX5_selfMultiply_2 125 = .ok (.dload 15, 2) := dk_24 15 (dk_at dksX5_selfMultiply_2_5 7 rfl rfl)
theorem dX5_selfMultiply_2_127 : decode cX5_selfMultiply_2 127 = .ok (.dload 5, 2) := dk_24 5 (dk_at dksX5_selfMultiply_2_5 9 rfl rfl)
theorem dX5_selfMultiply_2_129 : decode cX5_selfMultiply_2 129 = .ok (.dadd, 1) := dk_99 (dk_at dksX5_selfMultiply_2_5 11 rfl rfl)
theorem dX5_selfMultiply_2_130 : decode cX5_selfMultiply_2 130 = .ok (.dstore 19, 2) := dk_57 19 (dk_at dksX5_selfMultiply_2_5 12 rfl rfl)
theorem dX5_selfMultiply_2_132 : decode cX5_selfMultiply_2 132 = .ok (.aload_n 0, 1) := dk_42 (dk_at dksX5_selfMultiply_2_5 14 rfl rfl)
theorem dX5_selfMultiply_2_133 : decode cX5_selfMultiply_2 133 = .ok (.dload 17, 2) := dk_24 17 (dk_at dksX5_selfMultiply_2_5 15 rfl rfl)
theorem dX5_selfMultiply_2_135 : decode cX5_selfMultiply_2 135 = .ok (.putfield 12, 3) := dk_181 0 12 (dk_at dksX5_selfMultiply_2_5 17 rfl rfl)
theorem dX5_selfMultiply_2_138 : decode cX5_selfMultiply_2 138 = .ok (.aload_n 0, 1) := dk_42 (dk_at dksX5_selfMultiply_2_5 20 rfl rfl)
theorem dX5_selfMultiply_2_139 : decode cX5_selfMultiply_2 139 = .ok (.dload 19, 2) := dk_24 19 (dk_at dksX5_selfMultiply_2_5 21 rfl rfl)
theorem dX5_selfMultiply_2_141 : decode cX5_selfMultiply_2 141 = .ok (.putfield 16, 3) := dk_181 0 16 (dk_at dksX5_selfMultiply_2_6 0 rfl rfl)
theorem dX5_selfMultiply_2_144 : decode cX5_selfMultiply_2 144 = .ok (.aload_n 0, 1) := dk_42 (dk_at dksX5_selfMultiply_2_6 3 rfl rfl)
theorem dX5_selfMultiply_2_145 : decode cX5_selfMultiply_2 145 = .ok (.areturn, 1) := dk_176 (dk_at dksX5_selfMultiply_2_6 4 rfl rfl)
abbrev cX5_selfSubtract : ByteArray := prog_3_method_6_code
def yX5_selfSubtract : MethodName := ⟨RX5, "selfSubtract", "(LDD;)LDD;"⟩
def dkwX5_selfSubtract_0 : List UInt8 := [42, 182, 0, 22, 153, 0, 5, 42, 176, 42, 43, 180, 0, 12, 119, 43, 180, 0, 16, 119, 182, 0, 26, 176]
abbrev dktX5_selfSubtract_0 : List UInt8 := dkwX5_selfSubtract_0 ++ []
theorem dksX5_selfSubtract_0 : cX5_selfSubtract.data.toList.drop 0 = dktX5_selfSubtract_0 := by decide +kernel
theorem dX5_selfSubtract_0 : decode cX5_selfSubtract 0 = .ok (.aload_n 0, 1) := dk_42 (dk_at dksX5_selfSubtract_0 0 rfl rfl)
theorem dX5_selfSubtract_1 : decode cX5_selfSubtract 1 = .ok (.invokevirtual 22, 3) := dk_182 0 22 (dk_at dksX5_selfSubtract_0 1 rfl rfl)
theorem dX5_selfSubtract_4 : decode cX5_selfSubtract 4 = .ok (.ifCond .eq 5, 3) := dk_153 0 5 (dk_at dksX5_selfSubtract_0 4 rfl rfl)
theorem dX5_selfSubtract_7 : decode cX5_selfSubtract 7 = .ok (.aload_n 0, 1) := dk_42 (dk_at dksX5_selfSubtract_0 7 rfl rfl)
theorem dX5_selfSubtract_8 : decode cX5_selfSubtract 8 = .ok (.areturn, 1) := dk_176 (dk_at dksX5_selfSubtract_0 8 rfl rfl)
theorem dX5_selfSubtract_9 : decode cX5_selfSubtract 9 = .ok (.aload_n 0, 1) := dk_42 (dk_at dksX5_selfSubtract_0 9 rfl rfl)
theorem dX5_selfSubtract_10 : decode cX5_selfSubtract 10 = .ok (.aload_n 1, 1) := dk_43 (dk_at dksX5_selfSubtract_0 10 rfl rfl)
theorem dX5_selfSubtract_11 : decode cX5_selfSubtract 11 = .ok (.getfield 12, 3) := dk_180 0 12 (dk_at dksX5_selfSubtract_0 11 rfl rfl)
theorem dX5_selfSubtract_14 : decode cX5_selfSubtract 14 = .ok (.dneg, 1) := dk_119 (dk_at dksX5_selfSubtract_0 14 rfl rfl)
theorem dX5_selfSubtract_15 : decode cX5_selfSubtract 15 = .ok (.aload_n 1, 1) := dk_43 (dk_at dksX5_selfSubtract_0 15 rfl rfl)
theorem dX5_selfSubtract_16 : decode cX5_selfSubtract 16 = .ok (.getfield 16, 3) := dk_180 0 16 (dk_at dksX5_selfSubtract_0 16 rfl rfl)
theorem dX5_selfSubtract_19 : decode cX5_selfSubtract 19 = .ok (.dneg, 1) := dk_119 (dk_at dksX5_selfSubtract_0 19 rfl rfl)
theorem dX5_selfSubtract_20 : decode cX5_selfSubtract 20 = .ok (.invokevirtual 26, 3) := dk_182 0 26 (dk_at dksX5_selfSubtract_0 20 rfl rfl)
theorem dX5_selfSubtract_23 : decode cX5_selfSubtract 23 = .ok (.areturn, 1) := dk_176 (dk_at dksX5_selfSubtract_0 23 rfl rfl)
abbrev cX5_isNaN : ByteArray := prog_3_method_10_code
def yX5_isNaN : MethodName := ⟨RX5, "isNaN", "()Z"⟩
def dkwX5_isNaN_0 : List UInt8 := [42, 180, 0, 12, 184, 0, 35, 172]
abbrev dktX5_isNaN_0 : List UInt8 := dkwX5_isNaN_0 ++ []
theorem dksX5_isNaN_0 : cX5_isNaN.data.toList.drop 0 = dktX5_isNaN_0 := by decide +kernel
theorem dX5_isNaN_0 : decode cX5_isNaN 0 = .ok (.aload_n 0, 1) := dk_42 (dk_at dksX5_isNaN_0 0 rfl rfl)
theorem dX5_isNaN_1 : decode cX5_isNaN 1 = .ok (.getfield 12, 3) := dk_180 0 12 (dk_at dksX5_isNaN_0 1 rfl rfl)
theorem dX5_isNaN_4 : decode cX5_isNaN 4 = .ok (.invokestatic 35, 3) := dk_184 0 35 (dk_at dksX5_isNaN_0 4 rfl rfl)
theorem dX5_isNaN_7 : decode cX5_isNaN 7 = .ok (.ireturn, 1) := dk_172 (dk_at dksX5_isNaN_0 7 rfl rfl)
abbrev cX5_selfAdd_2 : ByteArray := prog_3_method_5_code
def yX5_selfAdd_2 : MethodName := ⟨RX5, "selfAdd", "(DD)LDD;"⟩
def dkwX5_selfAdd_2_5 : List UInt8 := [24, 21, 103, 99, 57, 23, 42, 24, 21, 181, 0, 12, 42, 24, 23, 181, 0, 16, 42, 176]
abbrev dktX5_selfAdd_2_5 : List UInt8 := dkwX5_selfAdd_2_5 ++ []
def dkwX5_selfAdd_2_4 : List UInt8 := [24, 5, 103, 99, 57, 7, 24, 11, 24, 7, 99, 57, 17, 24, 5, 24, 17, 99, 57, 21, 24, 17, 24, 5]
abbrev dktX5_selfAdd_2_4 : List UInt8 := dkwX5_selfAdd_2_4 ++ dktX5_selfAdd_2_5
def dkwX5_selfAdd_2_3 : List UInt8 := [24, 11, 103, 99, 57, 11, 24, 15, 24, 9, 99, 57, 17, 24, 13, 24, 17, 99, 57, 5, 24, 17, 24, 13]
abbrev dktX5_selfAdd_2_3 : List UInt8 := dkwX5_selfAdd_2_3 ++ dktX5_selfAdd_2_4
def dkwX5_selfAdd_2_2 : List UInt8 := [57, 11, 39, 24, 17, 103, 42, 180, 0, 12, 24, 15, 103, 99, 57, 15, 41, 24, 19, 103, 42, 180, 0, 16]
abbrev dktX5_selfAdd_2_2 : List UInt8 := dkwX5_selfAdd_2_2 ++ dktX5_selfAdd_2_3
def dkwX5_selfAdd_2_1 : List UInt8 := [57, 17, 24, 9, 42, 180, 0, 16, 103, 57, 19, 24, 13, 24, 17, 103, 57, 15, 24, 9, 24, 19, 103]
abbrev dktX5_selfAdd_2_1 : List UInt8 := dkwX5_selfAdd_2_1 ++ dktX5_selfAdd_2_2
def dkwX5_selfAdd_2_0 : List UInt8 := [42, 180, 0, 12, 39, 99, 57, 13, 42, 180, 0, 16, 41, 99, 57, 9, 24, 13, 42, 180, 0, 12, 103]
abbrev dktX5_selfAdd_2_0 : List UInt8 := dkwX5_selfAdd_2_0 ++ dktX5_selfAdd_2_1
theorem dksX5_selfAdd_2_0 : cX5_selfAdd_2.data.toList.drop 0 = dktX5_selfAdd_2_0 := by decide +kernel
theorem dksX5_selfAdd_2_1 : cX5_selfAdd_2.data.toList.drop 23 = dktX5_selfAdd_2_1 := dk_seg dksX5_selfAdd_2_0 23 rfl rfl
theorem dksX5_selfAdd_2_2 : cX5_selfAdd_2.data.toList.drop 46 = dktX5_selfAdd_2_2 := dk_seg dksX5_selfAdd_2_1 23 rfl rfl
theorem dksX5_selfAdd_2_3 : cX5_selfAdd_2.data.toList.drop 70 = dktX5_selfAdd_2_3 := dk_seg dksX5_selfAdd_2_2 24 rfl rfl
theorem dksX5_selfAdd_2_4 : cX5_selfAdd_2.data.toList.drop 94 = dktX5_selfAdd_2_4 := dk_seg dksX5_selfAdd_2_3 24 rfl rfl
theorem dksX5_selfAdd_2_5 : cX5_selfAdd_2.data.toList.drop 118 = dktX5_selfAdd_2_5 := dk_seg dksX5_selfAdd_2_4 24 rfl rfl
theorem dX5_selfAdd_2_0 : decode cX5_selfAdd_2 0 = .ok (.aload_n 0, 1) := dk_42 (dk_at dksX5_selfAdd_2_0 0 rfl rfl)
theorem dX5_selfAdd_2_1 : decode cX5_selfAdd_2 1 = .ok (.getfield 12, 3) := dk_180 0 12 (dk_at dksX5_selfAdd_2_0 1 rfl rfl)
theorem dX5_selfAdd_2_4 : decode cX5_selfAdd_2 4 = .ok (.dload_n 1, 1) := dk_39 (dk_at dksX5_selfAdd_2_0 4 rfl rfl)
theorem dX5_selfAdd_2_5 : decode cX5_selfAdd_2 5 = .ok (.dadd, 1) := dk_99 (dk_at dksX5_selfAdd_2_0 5 rfl rfl)
theorem dX5_selfAdd_2_6 : decode cX5_selfAdd_2 6 = .ok (.dstore 13, 2) := dk_57 13 (dk_at dksX5_selfAdd_2_0 6 rfl rfl)
theorem dX5_selfAdd_2_8 : decode cX5_selfAdd_2 8 = .ok (.aload_n 0, 1) := dk_42 (dk_at dksX5_selfAdd_2_0 8 rfl rfl)
theorem dX5_selfAdd_2_9 : decode cX5_selfAdd_2 9 = .ok (.getfield 16, 3) := dk_180 0 16 (dk_at dksX5_selfAdd_2_0 9 rfl rfl)
theorem dX5_selfAdd_2_12 : decode cX5_selfAdd_2 12 = .ok (.dload_n 3, 1) := dk_41 (dk_at dksX5_selfAdd_2_0 12 rfl rfl)
theorem dX5_selfAdd_2_13 : decode cX5_selfAdd_2 13 = .ok (.dadd, 1) := dk_99 (dk_at dksX5_selfAdd_2_0 13 rfl rfl)
theorem dX5_selfAdd_2_14 : decode cX5_selfAdd_2 14 = .ok (.dstore 9, 2) := dk_57 9 (dk_at dksX5_selfAdd_2_0 14 rfl rfl)
theorem dX5_selfAdd_2_16 : decode cX5_selfAdd_2 16 = .ok (.dload 13, 2) := dk_24 13 (dk_at dksX5_selfAdd_2_0 16 rfl rfl)
theorem dX5_selfAdd_2_18 : decode cX5_selfAdd_2 18 = .ok (.aload_n 0, 1) := dk_42 (dk_at dksX5_selfAdd_2_0 18 rfl rfl)
theorem dX5_selfAdd_2_19 : decode cX5_selfAdd_2 19 = .ok (.getfield 12, 3) := dk_180 0 12 (dk_at dksX5_selfAdd_2_0 19 rfl rfl)
theorem dX5_selfAdd_2_22 : decode cX5_selfAdd_2 22 = .ok (.dsub, 1) := dk_103 (dk_at dksX5_selfAdd_2_0 22 rfl rfl)
theorem dX5_selfAdd_2_23 : decode cX5_selfAdd_2 23 = .ok (.dstore 17, 2) := dk_57 17 (dk_at dksX5_selfAdd_2_1 0 rfl rfl)
theorem dX5_selfAdd_2_25 : decode cX5_selfAdd_2 25 = .ok (.dload 9, 2) := dk_24 9 (dk_at dksX5_selfAdd_2_1 2 rfl rfl)
theorem dX5_selfAdd_2_27 : decode cX5_selfAdd_2 27 = .ok (.aload_n 0, 1) := dk_42 (dk_at dksX5_selfAdd_2_1 4 rfl rfl)
theorem dX5_selfAdd_2_28 : decode cX5_selfAdd_2 28 = .ok (.getfield 16, 3) := dk_180 0 16 (dk_at dksX5_selfAdd_2_1 5 rfl rfl)
theorem dX5_selfAdd_2_31 : decode cX5_selfAdd_2 31 = .ok (.dsub, 1) := dk_103 (dk_at dksX5_selfAdd_2_1 8 rfl rfl)
theorem dX5_selfAdd_2_32 : decode cX5_selfAdd_2 32 = .ok (.dstore 19, 2) := dk_57 19 (dk_at dksX5_selfAdd_2_1 9 rfl rfl)
theorem dX5_selfAdd_2_34 : decode cX5_selfAdd_2 34 = .ok (.dload 13, 2) := dk_24 13 (dk_at dksX5_selfAdd_2_1 11 rfl rfl)
theorem dX5_selfAdd_2_36 : decode cX5_selfAdd_2 36 = .ok (.dload 17, 2) := dk_24 17 (dk_at dksX5_selfAdd_2_1 13 rfl rfl)
theorem dX5_selfAdd_2_38 : decode cX5_selfAdd_2 38 = .ok (.dsub, 1) := dk_103 (dk_at dksX5_selfAdd_2_1 15 rfl rfl)
theorem dX5_selfAdd_2_39 : decode cX5_selfAdd_2 39 = .ok (.dstore 15, 2) := dk_57 15 (dk_at dksX5_selfAdd_2_1 16 rfl rfl)
theorem dX5_selfAdd_2_41 : decode cX5_selfAdd_2 41 = .ok (.dload 9, 2) := dk_24 9 (dk_at dksX5_selfAdd_2_1 18 rfl rfl)
theorem dX5_selfAdd_2_43 : decode cX5_selfAdd_2 43 = .ok (.dload 19, 2) := dk_24 19 (dk_at dksX5_selfAdd_2_1 20 rfl rfl)
theorem dX5_selfAdd_2_45 : decode cX5_selfAdd_2 45 = .ok (.dsub, 1) := dk_103 (dk_at dksX5_selfAdd_2_1 22 rfl rfl)
theorem dX5_selfAdd_2_46 : decode cX5_selfAdd_2 46 = .ok (.dstore 11, 2) := dk_57 11 (dk_at dksX5_selfAdd_2_2 0 rfl rfl)
theorem dX5_selfAdd_2_48 : decode cX5_selfAdd_2 48 = .ok (.dload_n 1, 1) := dk_39 (dk_at dksX5_selfAdd_2_2 2 rfl rfl)
theorem dX5_selfAdd_2_49 : decode cX5_selfAdd_2 49 = .ok (.dload 17, 2) := dk_24 17 (dk_at dksX5_selfAdd_2_2 3 rfl rfl)
theorem dX5_selfAdd_2_51 : decode cX5_selfAdd_2 51 = .ok (.dsub, 1) := dk_103 (dk_at dksX5_selfAdd_2_2 5 rfl rfl)
theorem dX5_selfAdd_2_52 : decode cX5_selfAdd_2 52 = .ok (.aload_n 0, 1) := dk_42 (dk_at dksX5_selfAdd_2_2 6 rfl rfl)
theorem dX5_selfAdd_2_53 : decode cX5_selfAdd_2 53 = .ok (.getfield 12, 3) := dk_180 0 12 (dk_at dksX5_selfAdd_2_2 7 rfl rfl)
theorem dX5_selfAdd_2_56 : decode cX5_selfAdd_2 56 = .ok (.dload 15, 2) := dk_24 15 (dk_at dksX5_selfAdd_2_2 10 rfl rfl)
theorem dX5_selfAdd_2_58 : decode cX5_selfAdd_2 58 = .ok (.dsub, 1) := dk_103 (dk_at dksX5_selfAdd_2_2 12 rfl rfl)
theorem dX5_selfAdd_2_59 : decode cX5_selfAdd_2 59 = .ok (.dadd, 1) := dk_99 (dk_at dksX5_selfAdd_2_2 13 rfl rfl)
theorem dX5_selfAdd_2_60 : decode cX5_selfAdd_2 60 = .ok (.dstore 15, 2) := dk_57 15 (dk_at dksX5_selfAdd_2_2 14 rfl rfl)
theorem dX5_selfAdd_2_62 : decode cX5_selfAdd_2 62 = .ok (.dload_n 3, 1) := dk_41 (dk_at dksX5_selfAdd_2_2 16 rfl rfl)
theorem dX5_selfAdd_2_63 : decode cX5_selfAdd_2 63 = .ok (.dload 19, 2) := dk_24 19 (dk_at dksX5_selfAdd_2_2 17 rfl rfl)
theorem dX5_selfAdd_2_65 : decode cX5_selfAdd_2 65 = .ok (.dsub, 1) := dk_103 (dk_at dksX5_selfAdd_2_2 19 rfl rfl)
theorem dX5_selfAdd_2_66 : decode cX5_selfAdd_2 66 = .ok (.aload_n 0, 1) := dk_42 (dk_at dksX5_selfAdd_2_2 20 rfl rfl)
theorem dX5_selfAdd_2_67 : decode cX5_selfAdd_2 67 = .ok (.getfield 16, 3) := dk_180 0 16 (dk_at dksX5_selfAdd_2_2 21 rfl rfl)
theorem dX5_selfAdd_2_70 : decode cX5_selfAdd_2 70 = .ok (.dload 11, 2) := dk_24 11 (dk_at dksX5_selfAdd_2_3 0 rfl rfl)
theorem dX5_selfAdd_2_72 : decode cX5_selfAdd_2 72 = .ok (.dsub, 1) := dk_103 (dk_at dksX5_selfAdd_2_3 2 rfl rfl)
theorem dX5_selfAdd_2_73 : decode cX5_selfAdd_2 73 = .ok (.dadd, 1) := dk_99 (dk_at dksX5_selfAdd_2_3 3 rfl rfl)
theorem dX5_selfAdd_2_74 : decode cX5_selfAdd_2 74 = .ok (.dstore 11, 2) := dk_57 11 (dk_at dksX5_selfAdd_2_3 4 rfl rfl)
theorem dX5_selfAdd_2_76 : decode cX5_selfAdd_2 76 = .ok (.dload 15, 2) := dk_24 15 (dk_at dksX5_selfAdd_2_3 6 rfl rfl)
theorem dX5_selfAdd_2_78 : decode cX5_selfAdd_2 78 = .ok (.dload 9, 2) := dk_24 9 (dk_at dksX5_selfAdd_2_3 8 rfl rfl)
theorem dX5_selfAdd_2_80 : decode cX5_selfAdd_2 80 = .ok (.dadd, 1) := dk_99 (dk_at dksX5_selfAdd_2_3 10 rfl rfl)
theorem dX5_selfAdd_2_81 : decode cX5_selfAdd_2 81 = .ok (.dstore 17, 2) := dk_57 17 (dk_at dksX5_selfAdd_2_3 11 rfl rfl)
theorem dX5_selfAdd_2_83 : decode cX5_selfAdd_2 83 = .ok (.dload 13, 2) := dk_24 13 (dk_at dksX5_selfAdd_2_3 13 rfl rfl)
theorem dX5_selfAdd_2_85 : decode cX5_selfAdd_2 85 = .ok (.dload 17, 2) := dk_24 17 (dk_at dksX5_selfAdd_2_3 15 rfl rfl)
theorem dX5_selfAdd_2_87 : decode cX5_selfAdd_2 87 = .ok (.dadd, 1) := dk_99 (dk_at dksX5_selfAdd_2_3 17 rfl rfl)
theorem dX5_selfAdd_2_88 : decode cX5_selfAdd_2 88 = .ok (.dstore 5, 2) := dk_57 5 (dk_at dksX5_selfAdd_2_3 18 rfl rfl)
theorem dX5_selfAdd_2_90 : decode cX5_selfAdd_2 90 = .ok (.dload 17, 2) := dk_24 17 (dk_at dksX5_selfAdd_2_3 20 rfl rfl)
theorem dX5_selfAdd_2_92 : decode cX5_selfAdd_2 92 = .ok (.dload 13, 2) := dk_24 13 (dk_at dksX5_selfAdd_2_3 22 rfl rfl)
theorem dX5_selfAdd_2_94 : decode cX5_selfAdd_2 94 = .ok (.dload 5, 2) := dk_24 5 (dk_at dksX5_selfAdd_2_4 0 rfl rfl)
theorem dX5_selfAdd_2_96 : decode cX5_selfAdd_2 96 = .ok (.dsub, 1) := dk_103 (dk_at dksX5_selfAdd_2_4 2 rfl rfl)
theorem dX5_selfAdd_2_97 : decode cX5_selfAdd_2 97 = .ok (.dadd, 1) := dk_99 (dk_at dksX5_selfAdd_2_4 3 rfl rfl)
theorem dX5_selfAdd_2_98 : decode cX5_selfAdd_2 98 = .ok (.dstore 7, 2) := dk_57 7 (dk_at dksX5_selfAdd_2_4 4 rfl rfl)
theorem dX5_selfAdd_2_100 : decode cX5_selfAdd_2 100 = .ok (.dload 11, 2) := dk_24 11 (dk_at dksX5_selfAdd_2_4 6 rfl rfl)
theorem dX5_selfAdd_2_102 : decode cX5_selfAdd_2 102 = .ok (.dload 7, 2) := dk_24 7 (dk_at dksX5_selfAdd_2_4 8 rfl rfl)
theorem dX5_selfAdd_2_104 : decode cX5_selfAdd_2 104 = .ok (.dadd, 1) := dk_99 (dk_at dksX5_selfAdd_2_4 10 rfl rfl)
theorem dX5_selfAdd_2_105 : decode cX5_selfAdd_2 105 = .ok (.dstore 17, 2) := dk_57 17 (dk_at dksX5_selfAdd_2_4 11 rfl rfl)
theorem dX5_selfAdd_2_107 : decode cX5_selfAdd_2 107 = .ok (.dload 5, 2) := dk_24 5 (dk_at dksX5_selfAdd_2_4 13 rfl rfl)
theorem dX5_selfAdd_2_109 : decode cX5_selfAdd_2 109 = .ok (.dload 17, 2) := dk_24 17 (dk_at dksX5_selfAdd_2_4 15 rfl rfl)
theorem dX5_selfAdd_2_111 : decode cX5_selfAdd_2 111 = .ok (.dadd, 1) := dk_99 (dk_at dksX5_selfAdd_2_4 17 rfl rfl)
theorem dX5_selfAdd_2_112 : decode cX5_selfAdd_2 112 = .ok (.dstore 21, 2) := dk_57 21 (dk_at dksX5_selfAdd_2_4 18 rfl rfl)
theorem dX5_selfAdd_2_114 : decode cX5_selfAdd_2 114 = .ok (.dload 17, 2) := dk_24 17 (dk_at dksX5_selfAdd_2_4 20 rfl rfl)
theorem dX5_selfAdd_2_116 : decode cX5_selfAdd_2 116 = .ok (.dload 5, 2) := dk_24 5 (dk_at dksX5_selfAdd_2_4 22 rfl rfl)
theorem dX5_selfAdd_2_118 : decode cX5_selfAdd_2 118 = .ok (.dload 21, 2) := dk_24 21 (dk_at dksX5_selfAdd_2_5 0 rfl rfl)
theorem dX5_selfAdd_2_120 : decode cX5_selfAdd_2 120 = .ok (.dsub, 1) := dk_103 (dk_at dksX5_selfAdd_2_5 2 rfl rfl)
theorem dX5_selfAdd_2_121 : decode cX5_selfAdd_2 121 = .ok (.dadd, 1) := dk_99 (dk_at dksX5_selfAdd_2_5 3 rfl rfl)
theorem dX5_selfAdd_2_122 : decode cX5_selfAdd_2 122 = .ok (.dstore 23, 2) := dk_57 23 (dk_at dksX5_selfAdd_2_5 4 rfl rfl)
theorem dX5_selfAdd_2_124 : decode cX5_selfAdd_2 124 = .ok (.aload_n 0, 1) := dk_42 (dk_at dksX5_selfAdd_2_5 6 rfl rfl)
theorem dX5_selfAdd_2_125 : decode cX5_selfAdd_2 125 = .ok (.dload 21, 2) := dk_24 21 (dk_at dksX5_selfAdd_2_5 7 rfl rfl)
theorem dX5_selfAdd_2_127 : decode cX5_selfAdd_2 127 = .ok (.putfield 12, 3) := dk_181 0 12 (dk_at dksX5_selfAdd_2_5 9 rfl rfl)
theorem dX5_selfAdd_2_130 : decode cX5_selfAdd_2 130 = .ok (.aload_n 0, 1) := dk_42 (dk_at dksX5_selfAdd_2_5 12 rfl rfl)
theorem dX5_selfAdd_2_131 : decode cX5_selfAdd_2 131 = .ok (.dload 23, 2) := dk_24 23 (dk_at dksX5_selfAdd_2_5 13 rfl rfl)
theorem dX5_selfAdd_2_133 : decode cX5_selfAdd_2 133 = .ok (.putfield 16, 3) := dk_181 0 16 (dk_at dksX5_selfAdd_2_5 15 rfl rfl)
theorem dX5_selfAdd_2_136 : decode cX5_selfAdd_2 136 = .ok (.aload_n 0, 1) := dk_42 (dk_at dksX5_selfAdd_2_5 18 rfl rfl)
theorem dX5_selfAdd_2_137 : decode cX5_selfAdd_2 137 = .ok (.areturn, 1) := dk_176 (dk_at dksX5_selfAdd_2_5 19 rfl rfl)
abbrev cX5_signum : ByteArray := prog_3_method_9_code
def yX5_signum : MethodName := ⟨RX5, "signum", "()I"⟩
def dkwX5_signum_1 : List UInt8 := [180, 0, 16, 14, 151, 158, 0, 5, 4, 172, 42, 180, 0, 16, 14, 152, 156, 0, 5, 2, 172, 3, 172]
abbrev dktX5_signum_1 : List UInt8 := dkwX5_signum_1 ++ []
def dkwX5_signum_0 : List UInt8 := [42, 180, 0, 12, 14, 151, 158, 0, 5, 4, 172, 42, 180, 0, 12, 14, 152, 156, 0, 5, 2, 172, 42]
abbrev dktX5_signum_0 : List UInt8 := dkwX5_signum_0 ++ dktX5_signum_1
theorem dksX5_signum_0 : cX5_signum.data.toList.drop 0 = dktX5_signum_0 := by decide +kernel
theorem dksX5_signum_1 : cX5_signum.data.toList.drop 23 = dktX5_signum_1 := dk_seg dksX5_signum_0 23 rfl rfl
theorem dX5_signum_0 : decode cX5_signum 0 = .ok (.aload_n 0, 1) := dk_42 (dk_at dksX5_signum_0 0 rfl rfl)
theorem dX5_signum_1 : decode cX5_signum 1 = .ok (.getfield 12, 3) := dk_180 0 12 (dk_at dksX5_signum_0 1 rfl rfl)
theorem dX5_signum_4 : decode cX5_signum 4 = .ok (.dconst 0, 1) := dk_14 (dk_at dksX5_signum_0 4 rfl rfl)
theorem dX5_signum_5 : decode cX5_signum 5 = .ok (.dcmp .l, 1) := dk_151 (dk_at dksX5_signum_0 5 rfl rfl)
theorem dX5_signum_6 : decode cX5_signum 6 = .ok (.ifCond .le 5, 3) := dk_158 0 5 (dk_at dksX5_signum_0 6 rfl rfl)
theorem dX5_signum_9 : decode cX5_signum 9 = .ok (.iconst 1, 1) := dk_4 (dk_at dksX5_signum_0 9 rfl rfl)
theorem dX5_signum_10 : decode cX5_signum 10 = .ok (.ireturn, 1) := dk_172 (dk_at dksX5_signum_0 10 rfl rfl)
theorem dX5_signum_11 : decode cX5_signum 11 = .ok (.aload_n 0, 1) := dk_42 (dk_at dksX5_signum_0 11 rfl rfl)
theorem dX5_signum_12 : decode cX5_signum 12 = .ok (.getfield 12, 3) := dk_180 0 12 (dk_at dksX5_signum_0 12 rfl rfl)
theorem dX5_signum_15 : decode cX5_signum 15 = .ok (.dconst 0, 1) := dk_14 (dk_at dksX5_signum_0 15 rfl rfl)
theorem dX5_signum_16 : decode cX5_signum 16 = .ok (.dcmp .g, 1) := dk_152 (dk_at dksX5_signum_0 16 rfl rfl)
theorem dX5_signum_17 : decode cX5_signum 17 = .ok (.ifCond .ge 5, 3) := dk_156 0 5 (dk_at dksX5_signum_0 17 rfl rfl)
theorem dX5_signum_20 : decode cX5_signum 20 = .ok (.iconst (-1), 1) := dk_2 (dk_at dksX5_signum_0 20 rfl rfl)
theorem dX5_signum_21 : decode cX5_signum 21 = .ok (.ireturn, 1) := dk_172 (dk_at dksX5_signum_0 21 rfl rfl)
theorem dX5_signum_22 : decode cX5_signum 22 = .ok (.aload_n 0, 1) := dk_42 (dk_at dksX5_signum_0 22 rfl rfl)
theorem dX5_signum_23 : decode cX5_signum 23 = .ok (.getfield 16, 3) := dk_180 0 16 (dk_at dksX5_signum_1 0 rfl rfl)
theorem dX5_signum_26 : decode cX5_signum 26 = .ok (.dconst 0, 1) := dk_14 (dk_at dksX5_signum_1 3 rfl rfl)
theorem dX5_signum_27 : decode cX5_signum 27 = .ok (.dcmp .l, 1) := dk_151 (dk_at dksX5_signum_1 4 rfl rfl)
theorem dX5_signum_28 : decode cX5_signum 28 = .ok (.ifCond .le 5, 3) := dk_158 0 5 (dk_at dksX5_signum_1 5 rfl rfl)
theorem dX5_signum_31 : decode cX5_signum 31 = .ok (.iconst 1, 1) := dk_4 (dk_at dksX5_signum_1 8 rfl rfl)
theorem dX5_signum_32 : decode cX5_signum 32 = .ok (.ireturn, 1) := dk_172 (dk_at dksX5_signum_1 9 rfl rfl)
theorem dX5_signum_33 : decode cX5_signum 33 = .ok (.aload_n 0, 1) := dk_42 (dk_at dksX5_signum_1 10 rfl rfl)
theorem dX5_signum_34 : decode cX5_signum 34 = .ok (.getfield 16, 3) := dk_180 0 16 (dk_at dksX5_signum_1 11 rfl rfl)
theorem dX5_signum_37 : decode cX5_signum 37 = .ok (.dconst 0, 1) := dk_14 (dk_at dksX5_signum_1 14 rfl rfl)
theorem dX5_signum_38 : decode cX5_signum 38 = .ok (.dcmp .g, 1) := dk_152 (dk_at dksX5_signum_1 15 rfl rfl)
theorem dX5_signum_39 : decode cX5_signum 39 = .ok (.ifCond .ge 5, 3) := dk_156 0 5 (dk_at dksX5_signum_1 16 rfl rfl)
theorem dX5_signum_42 : decode cX5_signum 42 = .ok (.iconst (-1), 1) := dk_2 (dk_at dksX5_signum_1 19 rfl rfl)
theorem dX5_signum_43 : decode cX5_signum 43 = .ok (.ireturn, 1) := dk_172 (dk_at dksX5_signum_1 20 rfl rfl)
theorem dX5_signum_44 : decode cX5_signum 44 = .ok (.iconst 0, 1) := dk_3 (dk_at dksX5_signum_1 21 rfl rfl)
theorem dX5_signum_45 : decode cX5_signum 45 = .ok (.ireturn, 1) := dk_172 (dk_at dksX5_signum_1 22 rfl rfl)
theorem q10 : (Jvm.Cond.initialized "DD") ∈ lw_all := lw_g (lw_at lw_m0 5 rfl) rfl
theorem q97 : (Jvm.Cond.static ({ cls := "DD", name := "valueOf", desc := "(D)LDD;" } : Jvm.MethodName)) ∈ lw_all := lw_g (lw_at lw_m0 92 rfl) rfl
theorem q98 : (Jvm.Cond.code ({ cls := "DD", name := "valueOf", desc := "(D)LDD;" } : Jvm.MethodName) prog_3_method_1_code (2 : Nat) (Option.some (Jvm.ClassFile.FieldType.object "DD"))) ∈ lw_all := lw_g (lw_at lw_m0 93 rfl) rfl
theorem q99 : (Jvm.Cond.classLink "DD" (1 : Nat) "DD") ∈ lw_all := lw_g (lw_at lw_m0 94 rfl) rfl
theorem q100 : (Jvm.Cond.instantiable "DD" (2 : Nat)) ∈ lw_all := lw_g (lw_at lw_m0 95 rfl) rfl
theorem q101 : (Jvm.Cond.methodLink "DD" (3 : Nat) ({ cls := "DD", name := "<init>", desc := "(D)V" } : Jvm.MethodName)) ∈ lw_all := lw_g (lw_at lw_m0 96 rfl) rfl
theorem q102 : (Jvm.Cond.instanceMethod ({ cls := "DD", name := "<init>", desc := "(D)V" } : Jvm.MethodName)) ∈ lw_all := lw_g (lw_at lw_m0 97 rfl) rfl
theorem q103 : (Jvm.Cond.code ({ cls := "DD", name := "<init>", desc := "(D)V" } : Jvm.MethodName) prog_3_method_2_code (3 : Nat) (Option.none : Option Jvm.ClassFile.FieldType)) ∈ lw_all := lw_g (lw_at lw_m0 98 rfl) rfl
theorem q104 : (Jvm.Cond.methodLink "DD" (7 : Nat) ({ cls := "java/lang/Object", name := "<init>", desc := "()V" } : Jvm.MethodName)) ∈ lw_all := lw_g (lw_at lw_m0 99 rfl) rfl
theorem q105 : (Jvm.Cond.methodLink "DD" (19 : Nat) ({ cls := "DD", name := "init", desc := "(D)V" } : Jvm.MethodName)) ∈ lw_all := lw_g (lw_at lw_m0 100 rfl) rfl
theorem q106 : (Jvm.Cond.privateMethod ({ cls := "DD", name := "init", desc := "(D)V" } : Jvm.MethodName)) ∈ lw_tbl := lw_at lw_m0 101 rfl
theorem q107 : (Jvm.Cond.instanceMethod ({ cls := "DD", name := "init", desc := "(D)V" } : Jvm.MethodName)) ∈ lw_all := lw_g (lw_at lw_m0 102 rfl) rfl
theorem q108 : (Jvm.Cond.code ({ cls := "DD", name := "init", desc := "(D)V" } : Jvm.MethodName) prog_3_method_3_code (3 : Nat) (Option.none : Option Jvm.ClassFile.FieldType)) ∈ lw_all := lw_g (lw_at lw_m0 103 rfl) rfl
theorem q109 : (Jvm.Cond.fieldLink "DD" (12 : Nat) "DD" "hi" "D") ∈ lw_all := lw_g (lw_at lw_m0 104 rfl) rfl
theorem q110 : (Jvm.Cond.fieldLink "DD" (16 : Nat) "DD" "lo" "D") ∈ lw_all := lw_g (lw_at lw_m0 105 rfl) rfl
theorem q111 : (Jvm.Cond.lays "DD" "DD" "hi" "D") ∈ lw_all := lw_g (lw_at lw_m0 106 rfl) rfl
theorem q112 : (Jvm.Cond.soleField "DD" "hi") ∈ lw_all := lw_g (lw_at lw_m0 107 rfl) rfl
theorem q113 : (Jvm.Cond.lays "DD" "DD" "lo" "D") ∈ lw_all := lw_g (lw_at lw_m0 108 rfl) rfl
theorem q114 : (Jvm.Cond.soleField "DD" "lo") ∈ lw_all := lw_g (lw_at lw_m0 109 rfl) rfl
theorem q115 : (Jvm.Cond.superclass "DD" "java/lang/Object") ∈ lw_all := lw_g (lw_at lw_m0 110 rfl) rfl
theorem q117 : (Jvm.Cond.instanceMethod ({ cls := "DD", name := "selfAdd", desc := "(D)LDD;" } : Jvm.MethodName)) ∈ lw_all := lw_g (lw_at lw_m0 112 rfl) rfl
theorem q118 : (Jvm.Cond.selects "DD" ({ cls := "DD", name := "selfAdd", desc := "(D)LDD;" } : Jvm.MethodName) ({ cls := "DD", name := "selfAdd", desc := "(D)LDD;" } : Jvm.MethodName)) ∈ lw_all := lw_g (lw_at lw_m0 113 rfl) rfl
theorem q119 : (Jvm.Cond.code ({ cls := "DD", name := "selfAdd", desc := "(D)LDD;" } : Jvm.MethodName) prog_3_method_4_code (15 : Nat) (Option.some (Jvm.ClassFile.FieldType.object "DD"))) ∈ lw_all := lw_g (lw_at lw_m0 114 rfl) rfl
theorem q121 : (Jvm.Cond.instanceMethod ({ cls := "DD", name := "selfMultiply", desc := "(LDD;)LDD;" } : Jvm.MethodName)) ∈ lw_all := lw_g (lw_at lw_m0 116 rfl) rfl
theorem q122 : (Jvm.Cond.selects "DD" ({ cls := "DD", name := "selfMultiply", desc := "(LDD;)LDD;" } : Jvm.MethodName) ({ cls := "DD", name := "selfMultiply", desc := "(LDD;)LDD;" } : Jvm.MethodName)) ∈ lw_all := lw_g (lw_at lw_m0 117 rfl) rfl
theorem q123 : (Jvm.Cond.code ({ cls := "DD", name := "selfMultiply", desc := "(LDD;)LDD;" } : Jvm.MethodName) prog_3_method_7_code (2 : Nat) (Option.some (Jvm.ClassFile.FieldType.object "DD"))) ∈ lw_all := lw_g (lw_at lw_m0 118 rfl) rfl
theorem q124 : (Jvm.Cond.methodLink "DD" (30 : Nat) ({ cls := "DD", name := "selfMultiply", desc := "(DD)LDD;" } : Jvm.MethodName)) ∈ lw_all := lw_g (lw_at lw_m0 119 rfl) rfl
theorem q125 : (Jvm.Cond.privateMethod ({ cls := "DD", name := "selfMultiply", desc := "(DD)LDD;" } : Jvm.MethodName)) ∈ lw_tbl := lw_at lw_m0 120 rfl
theorem q126 : (Jvm.Cond.instanceMethod ({ cls := "DD", name := "selfMultiply", desc := "(DD)LDD;" } : Jvm.MethodName)) ∈ lw_all := lw_g (lw_at lw_m0 121 rfl) rfl
theorem q127 : (Jvm.Cond.code ({ cls := "DD", name := "selfMultiply", desc := "(DD)LDD;" } : Jvm.MethodName) prog_3_method_8_code (21 : Nat) (Option.some (Jvm.ClassFile.FieldType.object "DD"))) ∈ lw_all := lw_g (lw_at lw_m0 122 rfl) rfl
theorem q128 : (Jvm.Cond.constantDouble "DD" (33 : Nat) (4728779608772575232 : UInt64)) ∈ lw_all := lw_g (lw_at lw_m0 123 rfl) rfl
theorem q130 : (Jvm.Cond.instanceMethod ({ cls := "DD", name := "selfSubtract", desc := "(LDD;)LDD;" } : Jvm.MethodName)) ∈ lw_all := lw_g (lw_at lw_m0 125 rfl) rfl
theorem q131 : (Jvm.Cond.selects "DD" ({ cls := "DD", name := "selfSubtract", desc := "(LDD;)LDD;" } : Jvm.MethodName) ({ cls := "DD", name := "selfSubtract", desc := "(LDD;)LDD;" } : Jvm.MethodName)) ∈ lw_all := lw_g (lw_at lw_m0 126 rfl) rfl
theorem q132 : (Jvm.Cond.code ({ cls := "DD", name := "selfSubtract", desc := "(LDD;)LDD;" } : Jvm.MethodName) prog_3_method_6_code (2 : Nat) (Option.some (Jvm.ClassFile.FieldType.object "DD"))) ∈ lw_all := lw_g (lw_at lw_m0 127 rfl) rfl
theorem q133 : (Jvm.Cond.methodLink "DD" (22 : Nat) ({ cls := "DD", name := "isNaN", desc := "()Z" } : Jvm.MethodName)) ∈ lw_all := lw_g (lw_at lw_m0 128 rfl) rfl
theorem q134 : (Jvm.Cond.instanceMethod ({ cls := "DD", name := "isNaN", desc := "()Z" } : Jvm.MethodName)) ∈ lw_all := lw_g (lw_at lw_m0 129 rfl) rfl
theorem q135 : (Jvm.Cond.selects "DD" ({ cls := "DD", name := "isNaN", desc := "()Z" } : Jvm.MethodName) ({ cls := "DD", name := "isNaN", desc := "()Z" } : Jvm.MethodName)) ∈ lw_all := lw_g (lw_at lw_m0 130 rfl) rfl
theorem q136 : (Jvm.Cond.code ({ cls := "DD", name := "isNaN", desc := "()Z" } : Jvm.MethodName) prog_3_method_10_code (1 : Nat) (Option.some Jvm.ClassFile.FieldType.boolean)) ∈ lw_all := lw_g (lw_at lw_m0 131 rfl) rfl
theorem q137 : (Jvm.Cond.methodLink "DD" (35 : Nat) ({ cls := "java/lang/Double", name := "isNaN", desc := "(D)Z" } : Jvm.MethodName)) ∈ lw_all := lw_g (lw_at lw_m0 132 rfl) rfl
theorem q140 : (Jvm.Cond.methodLink "DD" (26 : Nat) ({ cls := "DD", name := "selfAdd", desc := "(DD)LDD;" } : Jvm.MethodName)) ∈ lw_all := lw_g (lw_at lw_m0 135 rfl) rfl
theorem q141 : (Jvm.Cond.privateMethod ({ cls := "DD", name := "selfAdd", desc := "(DD)LDD;" } : Jvm.MethodName)) ∈ lw_tbl := lw_at lw_m0 136 rfl
theorem q142 : (Jvm.Cond.instanceMethod ({ cls := "DD", name := "selfAdd", desc := "(DD)LDD;" } : Jvm.MethodName)) ∈ lw_all := lw_g (lw_at lw_m0 137 rfl) rfl
theorem q143 : (Jvm.Cond.code ({ cls := "DD", name := "selfAdd", desc := "(DD)LDD;" } : Jvm.MethodName) prog_3_method_5_code (25 : Nat) (Option.some (Jvm.ClassFile.FieldType.object "DD"))) ∈ lw_all := lw_g (lw_at lw_m0 138 rfl) rfl
theorem q145 : (Jvm.Cond.instanceMethod ({ cls := "DD", name := "signum", desc := "()I" } : Jvm.MethodName)) ∈ lw_all := lw_g (lw_at lw_m0 140 rfl) rfl
theorem q146 : (Jvm.Cond.selects "DD" ({ cls := "DD", name := "signum", desc := "()I" } : Jvm.MethodName) ({ cls := "DD", name := "signum", desc := "()I" } : Jvm.MethodName)) ∈ lw_all := lw_g (lw_at lw_m0 141 rfl) rfl
theorem q147 : (Jvm.Cond.code ({ cls := "DD", name := "signum", desc := "()I" } : Jvm.MethodName) prog_3_method_9_code (1 : Nat) (Option.some Jvm.ClassFile.FieldType.int)) ∈ lw_all := lw_g (lw_at lw_m0 142 rfl) rfl
theorem in_X5 : ∀ w ∈ wsX50, w ∈ lw_all := lw_in wsX50 [111, 113] (by decide +kernel) (by decide +kernel)
end
section
/-! RayCrossingCounter -/
set_option maxRecDepth 100000
def RX6 : String := "RayCrossingCounter"
def TX6 : u_T := fun k => match k with
  | 0 => ("RayCrossingCounter", "p", "LCoordinate;", false)
  | 1 => ("RayCrossingCounter", "crossingCount", "I", false)
  | _ => ("RayCrossingCounter", "isPointOnSegment", "Z", false)
def tyX6 : Nat → FieldType := fun k => match k with
  | 0 => .object "Coordinate"
  | 1 => .int
  | _ => .boolean
abbrev wsX60 : List Cond := u_ws RX6 TX6 3
theorem nmX6 : ∀ a, a < 3 → ∀ b, b < 3 → a ≠ b → (TX6 a).2.1 ≠ (TX6 b).2.1 := by decide +kernel
theorem tyX6_ok : ∀ k, k < 3 → parseFieldDescriptor (TX6 k).2.2.1 = some (tyX6 k) := by decide +kernel
abbrev cX6_locatePointInRing : ByteArray := prog_6_method_1_code
def yX6_locatePointInRing : MethodName := ⟨RX6, "locatePointInRing", "(LCoordinate;[LCoordinate;)I"⟩
def dkwX6_locatePointInRing_2 : List UInt8 := [172, 132, 3, 1, 167, 255, 215, 44, 182, 0, 15, 172]
abbrev dktX6_locatePointInRing_2 : List UInt8 := dkwX6_locatePointInRing_2 ++ []
def dkwX6_locatePointInRing_1 : List UInt8 := [4, 100, 50, 58, 5, 44, 25, 4, 25, 5, 182, 0, 7, 44, 182, 0, 11, 153, 0, 8, 44, 182, 0, 15]
abbrev dktX6_locatePointInRing_1 : List UInt8 := dkwX6_locatePointInRing_1 ++ dktX6_locatePointInRing_2
def dkwX6_locatePointInRing_0 : List UInt8 := [187, 0, 1, 89, 42, 183, 0, 3, 77, 4, 62, 29, 43, 190, 162, 0, 41, 43, 29, 50, 58, 4, 43, 29]
abbrev dktX6_locatePointInRing_0 : List UInt8 := dkwX6_locatePointInRing_0 ++ dktX6_locatePointInRing_1
theorem dksX6_locatePointInRing_0 : cX6_locatePointInRing.data.toList.drop 0 = dktX6_locatePointInRing_0 := by decide +kernel
theorem dksX6_locatePointInRing_1 : cX6_locatePointInRing.data.toList.drop 24 = dktX6_locatePointInRing_1 := dk_seg dksX6_locatePointInRing_0 24 rfl rfl
theorem dksX6_locatePointInRing_2 : cX6_locatePointInRing.data.toList.drop 48 = dktX6_locatePointInRing_2 := dk_seg dksX6_locatePointInRing_1 24 rfl rfl
theorem dX6_locatePointInRing_0 : decode cX6_locatePointInRing 0 = .ok (.new 1, 3) := dk_187 0 1 (dk_at dksX6_locatePointInRing_0 0 rfl rfl)
theorem dX6_locatePointInRing_3 : decode cX6_locatePointInRing 3 = .ok (.dup, 1) := dk_89 (dk_at dksX6_locatePointInRing_0 3 rfl rfl)
theorem dX6_locatePointInRing_4 : decode cX6_locatePointInRing 4 = .ok (.aload_n 0, 1) := dk_42 (dk_at dksX6_locatePointInRing_0 4 rfl rfl)
theorem dX6_locatePointInRing_5 : decode cX6_locatePointInRing 5 = .ok (.invokespecial 3, 3) := dk_183 0 3 (dk_at dksX6_locatePointInRing_0 5 rfl rfl)
theorem dX6_locatePointInRing_8 : decode cX6_locatePointInRing 8 = .ok (.astore_n 2, 1) := dk_77 (dk_at dksX6_locatePointInRing_0 8 rfl rfl)
theorem dX6_locatePointInRing_9 : decode cX6_locatePointInRing 9 = .ok (.iconst 1, 1) := dk_4 (dk_at dksX6_locatePointInRing_0 9 rfl rfl)
theorem dX6_locatePointInRing_10 : decode cX6_locatePointInRing 10 = .ok (.istore_n 3, 1) := dk_62 (dk_at dksX6_locatePointInRing_0 10 rfl rfl)
theorem dX6_locatePointInRing_11 : decode cX6_locatePointInRing 11 = .ok (.iload_n 3, 1) := dk_29 (dk_at dksX6_locatePointInRing_0 11 rfl rfl)
theorem dX6_locatePointInRing_12 : decode cX6_locatePointInRing 12 = .ok (.aload_n 1, 1) := dk_43 (dk_at dksX6_locatePointInRing_0 12 rfl rfl)
theorem dX6_locatePointInRing_13 : decode cX6_locatePointInRing 13 = .ok (.arraylength, 1) := dk_190 (dk_at dksX6_locatePointInRing_0 13 rfl rfl)
theorem dX6_locatePointInRing_14 : decode cX6_locatePointInRing 14 = .ok (.if_icmp .ge 41, 3) := dk_162 0 41 (dk_at dksX6_locatePointInRing_0 14 rfl rfl)
theorem dX6_locatePointInRing_17 : decode cX6_locatePointInRing 17 = .ok (.aload_n 1, 1) := dk_43 (dk_at dksX6_locatePointInRing_0 17 rfl rfl)
theorem dX6_locatePointInRing_18 : decode cX6_locatePointInRing 18 = .ok (.iload_n 3, 1) := dk_29 (dk_at dksX6_locatePointInRing_0 18 rfl rfl)
theorem dX6_locatePointInRing_19 : decode cX6_locatePointInRing 19 = .ok (.aaload, 1) := dk_50 (dk_at dksX6_locatePointInRing_0 19 rfl rfl)
theorem dX6_locatePointInRing_20 : decode cX6_locatePointInRing 20 = .ok (.astore 4, 2) := dk_58 4 (dk_at dksX6_locatePointInRing_0 20 rfl rfl)
theorem dX6_locatePointInRing_22 : decode cX6_locatePointInRing 22 = .ok (.aload_n 1, 1) := dk_43 (dk_at dksX6_locatePointInRing_0 22 rfl rfl)
theorem dX6_locatePointInRing_23 : decode cX6_locatePointInRing 23 = .ok (.iload_n 3, 1) := dk_29 (dk_at dksX6_locatePointInRing_0 23 rfl rfl)
theorem dX6_locatePointInRing_24 : decode cX6_locatePointInRing 24 = .ok (.iconst 1, 1) := dk_4 (dk_at dksX6_locatePointInRing_1 0 rfl rfl)
theorem dX6_locatePointInRing_25 : decode cX6_locatePointInRing 25 = .ok (.isub, 1) := dk_100 (dk_at dksX6_locatePointInRing_1 1 rfl rfl)
theorem dX6_locatePointInRing_26 : decode cX6_locatePointInRing 26 = .ok (.aaload, 1) := dk_50 (dk_at dksX6_locatePointInRing_1 2 rfl rfl)
theorem dX6_locatePointInRing_27 : decode cX6_locatePointInRing 27 = .ok (.astore 5, 2) := dk_58 5 (dk_at dksX6_locatePointInRing_1 3 rfl rfl)
theorem dX6_locatePointInRing_29 : decode cX6_locatePointInRing 29 = .ok (.aload_n 2, 1) := dk_44 (dk_at dksX6_locatePointInRing_1 5 rfl rfl)
theorem dX6_locatePointInRing_30 : decode cX6_locatePointInRing 30 = .ok (.aload 4, 2) := dk_25 4 (dk_at dksX6_locatePointInRing_1 6 rfl rfl)
theorem dX6_locatePointInRing_32 : decode cX6_locatePointInRing 32 = .ok (.aload 5, 2) := dk_25 5 (dk_at dksX6_locatePointInRing_1 8 rfl rfl)
theorem dX6_locatePointInRing_34 : decode cX6_locatePointInRing 34 = .ok (.invokevirtual 7, 3) := dk_182 0 7 (dk_at dksX6_locatePointInRing_1 10 rfl rfl)
theorem dX6_locatePointInRing_37 : decode cX6_locatePointInRing 37 = .ok (.aload_n 2, 1) := dk_44 (dk_at dksX6_locatePointInRing_1 13 rfl rfl)
theorem dX6_locatePointInRing_38 : decode cX6_locatePointInRing 38 = .ok (.invokevirtual 11, 3) := dk_182 0 11 (dk_at dksX6_locatePointInRing_1 14 rfl rfl)
theorem dX6_locatePointInRing_41 : decode cX6_locatePointInRing 41 = .ok (.ifCond .eq 8, 3) := dk_153 0 8 (dk_at dksX6_locatePointInRing_1 17 rfl rfl)
theorem dX6_locatePointInRing_44 : decode cX6_locatePointInRing 44 = .ok (.aload_n 2, 1) := dk_44 (dk_at dksX6_locatePointInRing_1 20 rfl rfl)
theorem dX6_locatePointInRing_45 : decode cX6_locatePointInRing 45 = .ok (.invokevirtual 15, 3) := dk_182 0 15 (dk_at dksX6_locatePointInRing_1 21 rfl rfl)
theorem dX6_locatePointInRing_48 : decode cX6_locatePointInRing 48 = .ok (.ireturn, 1) := dk_172 (dk_at dksX6_locatePointInRing_2 0 rfl rfl)
theorem dX6_locatePointInRing_49 : decode cX6_locatePointInRing 49 = .ok (.iinc 3 1, 3) := dk_132 3 1 (dk_at dksX6_locatePointInRing_2 1 rfl rfl)
theorem dX6_locatePointInRing_52 : decode cX6_locatePointInRing 52 = .ok (.goto (-41), 3) := dk_167 255 215 (dk_at dksX6_locatePointInRing_2 4 rfl rfl)
theorem dX6_locatePointInRing_55 : decode cX6_locatePointInRing 55 = .ok (.aload_n 2, 1) := dk_44 (dk_at dksX6_locatePointInRing_2 7 rfl rfl)
theorem dX6_locatePointInRing_56 : decode cX6_locatePointInRing 56 = .ok (.invokevirtual 15, 3) := dk_182 0 15 (dk_at dksX6_locatePointInRing_2 8 rfl rfl)
theorem dX6_locatePointInRing_59 : decode cX6_locatePointInRing 59 = .ok (.ireturn, 1) := dk_172 (dk_at dksX6_locatePointInRing_2 11 rfl rfl)
abbrev cX6_init : ByteArray := prog_6_method_2_code
def yX6_init : MethodName := ⟨RX6, "<init>", "(LCoordinate;)V"⟩
def dkwX6_init_0 : List UInt8 := [42, 183, 0, 19, 42, 3, 181, 0, 24, 42, 3, 181, 0, 28, 42, 43, 181, 0, 32, 177]
abbrev dktX6_init_0 : List UInt8 := dkwX6_init_0 ++ []
theorem dksX6_init_0 : cX6_init.data.toList.drop 0 = dktX6_init_0 := by decide +kernel
theorem dX6_init_0 : decode cX6_init 0 = .ok (.aload_n 0, 1) := dk_42 (dk_at dksX6_init_0 0 rfl rfl)
theorem dX6_init_1 : decode cX6_init 1 = .ok (.invokespecial 19, 3) := dk_183 0 19 (dk_at dksX6_init_0 1 rfl rfl)
theorem dX6_init_4 : decode cX6_init 4 = .ok (.aload_n 0, 1) := dk_42 (dk_at dksX6_init_0 4 rfl rfl)
theorem dX6_init_5 : decode cX6_init 5 = .ok (.iconst 0, 1) := dk_3 (dk_at dksX6_init_0 5 rfl rfl)
theorem dX6_init_6 : decode cX6_init 6 = .ok (.putfield 24, 3) := dk_181 0 24 (dk_at dksX6_init_0 6 rfl rfl)
theorem dX6_init_9 : decode cX6_init 9 = .ok (.aload_n 0, 1) := dk_42 (dk_at dksX6_init_0 9 rfl rfl)
theorem dX6_init_10 : decode cX6_init 10 = .ok (.iconst 0, 1) := dk_3 (dk_at dksX6_init_0 10 rfl rfl)
theorem dX6_init_11 : decode cX6_init 11 = .ok (.putfield 28, 3) := dk_181 0 28 (dk_at dksX6_init_0 11 rfl rfl)
theorem dX6_init_14 : decode cX6_init 14 = .ok (.aload_n 0, 1) := dk_42 (dk_at dksX6_init_0 14 rfl rfl)
theorem dX6_init_15 : decode cX6_init 15 = .ok (.aload_n 1, 1) := dk_43 (dk_at dksX6_init_0 15 rfl rfl)
theorem dX6_init_16 : decode cX6_init 16 = .ok (.putfield 32, 3) := dk_181 0 32 (dk_at dksX6_init_0 16 rfl rfl)
theorem dX6_init_19 : decode cX6_init 19 = .ok (.return_, 1) := dk_177 (dk_at dksX6_init_0 19 rfl rfl)
abbrev cX6_countSegment : ByteArray := prog_6_method_3_code
def yX6_countSegment : MethodName := ⟨RX6, "countSegment", "(LCoordinate;LCoordinate;)V"⟩
def dkwX6_countSegment_11 : List UInt8 := [160, 0, 13, 42, 89, 180, 0, 24, 4, 96, 181, 0, 24, 177]
abbrev dktX6_countSegment_11 : List UInt8 := dkwX6_countSegment_11 ++ []
def dkwX6_countSegment_10 : List UInt8 := [42, 4, 181, 0, 28, 177, 44, 180, 0, 42, 43, 180, 0, 42, 152, 156, 0, 6, 29, 116, 62, 29, 4]
abbrev dktX6_countSegment_10 : List UInt8 := dkwX6_countSegment_10 ++ dktX6_countSegment_11
def dkwX6_countSegment_9 : List UInt8 := [180, 0, 32, 180, 0, 42, 152, 157, 0, 53, 43, 44, 42, 180, 0, 32, 184, 0, 45, 62, 29, 154, 0, 9]
abbrev dktX6_countSegment_9 : List UInt8 := dkwX6_countSegment_9 ++ dktX6_countSegment_10
def dkwX6_countSegment_8 : List UInt8 := [158, 0, 33, 44, 180, 0, 42, 42, 180, 0, 32, 180, 0, 42, 151, 158, 0, 68, 43, 180, 0, 42, 42]
abbrev dktX6_countSegment_8 : List UInt8 := dkwX6_countSegment_8 ++ dktX6_countSegment_9
def dkwX6_countSegment_7 : List UInt8 := [180, 0, 32, 180, 0, 42, 151, 158, 0, 18, 44, 180, 0, 42, 42, 180, 0, 32, 180, 0, 42, 152]
abbrev dktX6_countSegment_7 : List UInt8 := dkwX6_countSegment_7 ++ dktX6_countSegment_8
def dkwX6_countSegment_6 : List UInt8 := [180, 0, 32, 180, 0, 36, 24, 5, 152, 157, 0, 8, 42, 4, 181, 0, 28, 177, 43, 180, 0, 42, 42]
abbrev dktX6_countSegment_6 : List UInt8 := dkwX6_countSegment_6 ++ dktX6_countSegment_7
def dkwX6_countSegment_5 : List UInt8 := [180, 0, 36, 74, 43, 180, 0, 36, 57, 5, 42, 180, 0, 32, 180, 0, 36, 41, 151, 155, 0, 21, 42]
abbrev dktX6_countSegment_5 : List UInt8 := dkwX6_countSegment_5 ++ dktX6_countSegment_6
def dkwX6_countSegment_4 : List UInt8 := [154, 0, 63, 43, 180, 0, 36, 74, 44, 180, 0, 36, 57, 5, 41, 24, 5, 151, 158, 0, 14, 44]
abbrev dktX6_countSegment_4 : List UInt8 := dkwX6_countSegment_4 ++ dktX6_countSegment_5
def dkwX6_countSegment_3 : List UInt8 := [42, 180, 0, 32, 180, 0, 42, 151, 154, 0, 78, 44, 180, 0, 42, 42, 180, 0, 32, 180, 0, 42, 151]
abbrev dktX6_countSegment_3 : List UInt8 := dkwX6_countSegment_3 ++ dktX6_countSegment_4
def dkwX6_countSegment_2 : List UInt8 := [180, 0, 32, 180, 0, 42, 44, 180, 0, 42, 151, 154, 0, 9, 42, 4, 181, 0, 28, 177, 43, 180, 0, 42]
abbrev dktX6_countSegment_2 : List UInt8 := dkwX6_countSegment_2 ++ dktX6_countSegment_3
def dkwX6_countSegment_1 : List UInt8 := [180, 0, 36, 152, 156, 0, 4, 177, 42, 180, 0, 32, 180, 0, 36, 44, 180, 0, 36, 151, 154, 0, 24, 42]
abbrev dktX6_countSegment_1 : List UInt8 := dkwX6_countSegment_1 ++ dktX6_countSegment_2
def dkwX6_countSegment_0 : List UInt8 := [43, 180, 0, 36, 42, 180, 0, 32, 180, 0, 36, 152, 156, 0, 19, 44, 180, 0, 36, 42, 180, 0, 32]
abbrev dktX6_countSegment_0 : List UInt8 := dkwX6_countSegment_0 ++ dktX6_countSegment_1
theorem dksX6_countSegment_0 : cX6_countSegment.data.toList.drop 0 = dktX6_countSegment_0 := by decide +kernel
theorem dksX6_countSegment_1 : cX6_countSegment.data.toList.drop 23 = dktX6_countSegment_1 := dk_seg dksX6_countSegment_0 23 rfl rfl
theorem dksX6_countSegment_2 : cX6_countSegment.data.toList.drop 47 = dktX6_countSegment_2 := dk_seg dksX6_countSegment_1 24 rfl rfl
theorem dksX6_countSegment_3 : cX6_countSegment.data.toList.drop 71 = dktX6_countSegment_3 := dk_seg dksX6_countSegment_2 24 rfl rfl
theorem dksX6_countSegment_4 : cX6_countSegment.data.toList.drop 94 = dktX6_countSegment_4 := dk_seg dksX6_countSegment_3 23 rfl rfl
theorem dksX6_countSegment_5 : cX6_countSegment.data.toList.drop 116 = dktX6_countSegment_5 := dk_seg dksX6_countSegment_4 22 rfl rfl
theorem dksX6_countSegment_6 : cX6_countSegment.data.toList.drop 139 = dktX6_countSegment_6 := dk_seg dksX6_countSegment_5 23 rfl rfl
theorem dksX6_countSegment_7 : cX6_countSegment.data.toList.drop 162 = dktX6_countSegment_7 := dk_seg dksX6_countSegment_6 23 rfl rfl
theorem dksX6_countSegment_8 : cX6_countSegment.data.toList.drop 184 = dktX6_countSegment_8 := dk_seg dksX6_countSegment_7 22 rfl rfl
theorem dksX6_countSegment_9 : cX6_countSegment.data.toList.drop 207 = dktX6_countSegment_9 := dk_seg dksX6_countSegment_8 23 rfl rfl
theorem dksX6_countSegment_10 : cX6_countSegment.data.toList.drop 231 = dktX6_countSegment_10 := dk_seg dksX6_countSegment_9 24 rfl rfl
theorem dksX6_countSegment_11 : cX6_countSegment.data.toList.drop 254 = dktX6_countSegment_11 := dk_seg dksX6_countSegment_10 23 rfl rfl
theorem dX6_countSegment_0 : decode cX6_countSegment 0 = .ok (.aload_n 1, 1) := dk_43 (dk_at dksX6_countSegment_0 0 rfl rfl)
theorem dX6_countSegment_1 : decode cX6_countSegment 1 = .ok (.getfield 36, 3) := dk_180 0 36 (dk_at dksX6_countSegment_0 1 rfl rfl)
theorem dX6_countSegment_4 : decode cX6_countSegment 4 = .ok (.aload_n 0, 1) := dk_42 (dk_at dksX6_countSegment_0 4 rfl rfl)
theorem dX6_countSegment_5 : decode cX6_countSegment 5 = .ok (.getfield 32, 3) := dk_180 0 32 (dk_at dksX6_countSegment_0 5 rfl rfl)
theorem dX6_countSegment_8 : decode cX6_countSegment 8 = .ok (.getfield 36, 3) := dk_180 0 36 (dk_at dksX6_countSegment_0 8 rfl rfl)
theorem dX6_countSegment_11 : decode cX6_countSegment 11 = .ok (.dcmp .g, 1) := dk_152 (dk_at dksX6_countSegment_0 11 rfl rfl)
theorem dX6_countSegment_12 : decode cX6_countSegment 12 = .ok (.ifCond .ge 19, 3) := dk_156 0 19 (dk_at dksX6_countSegment_0 12 rfl rfl)
theorem dX6_countSegment_15 : decode cX6_countSegment 15 = .ok (.aload_n 2, 1) := dk_44 (dk_at dksX6_countSegment_0 15 rfl rfl)
theorem dX6_countSegment_16 : decode cX6_countSegment 16 = .ok (.getfield 36, 3) := dk_180 0 36 (dk_at dksX6_countSegment_0 16 rfl rfl)
theorem dX6_countSegment_19 : decode cX6_countSegment 19 = .ok (.aload_n 0, 1) := dk_42 (dk_at dksX6_countSegment_0 19 rfl rfl)
theorem dX6_countSegment_20 : decode cX6_countSegment 20 = .ok (.getfield 32, 3) := dk_180 0 32 (dk_at dksX6_countSegment_0 20 rfl rfl)
theorem dX6_countSegment_23 : decode cX6_countSegment 23 = .ok (.getfield 36, 3) := dk_180 0 36 (dk_at dksX6_countSegment_1 0 rfl rfl)
theorem dX6_countSegment_26 : decode cX6_countSegment 26 = .ok (.dcmp .g, 1) := dk_152 (dk_at dksX6_countSegment_1 3 rfl rfl)
theorem dX6_countSegment_27 : decode cX6_countSegment 27 = .ok (.ifCond .ge 4, 3) := dk_156 0 4 (dk_at dksX6_countSegment_1 4 rfl rfl)
theorem dX6_countSegment_30 : decode cX6_countSegment 30 = .ok (.return_, 1) := dk_177 (dk_at dksX6_countSegment_1 7 rfl rfl)
theorem dX6_countSegment_31 : decode cX6_countSegment 31 = .ok (.aload_n 0, 1) := dk_42 (dk_at dksX6_countSegment_1 8 rfl rfl)
theorem dX6_countSegment_32 : decode cX6_countSegment 32 = .ok (.getfield 32, 3) := dk_180 0 32 (dk_at dksX6_countSegment_1 9 rfl rfl)
theorem dX6_countSegment_35 : decode cX6_countSegment 35 = .ok (.getfield 36, 3) := dk_180 0 36 (dk_at dksX6_countSegment_1 12 rfl rfl)
theorem dX6_countSegment_38 : decode cX6_countSegment 38 = .ok (.aload_n 2, 1) := dk_44 (dk_at dksX6_countSegment_1 15 rfl rfl)
theorem dX6_countSegment_39 : decode cX6_countSegment 39 = .ok (.getfield 36, 3) := dk_180 0 36 (dk_at dksX6_countSegment_1 16 rfl rfl)
theorem dX6_countSegment_42 : decode cX6_countSegment 42 = .ok (.dcmp .l, 1) := dk_151 (dk_at dksX6_countSegment_1 19 rfl rfl)
theorem dX6_countSegment_43 : decode cX6_countSegment 43 = .ok (.ifCond .ne 24, 3) := dk_154 0 24 (dk_at dksX6_countSegment_1 20 rfl rfl)
theorem dX6_countSegment_46 : decode cX6_countSegment 46 = .ok (.aload_n 0, 1) := dk_42 (dk_at dksX6_countSegment_1 23 rfl rfl)
theorem dX6_countSegment_47 : decode cX6_countSegment 47 = .ok (.getfield 32, 3) := dk_180 0 32 (dk_at dksX6_countSegment_2 0 rfl rfl)
theorem dX6_countSegment_50 : decode cX6_countSegment 50 = .ok (.getfield 42, 3) := dk_180 0 42 (dk_at dksX6_countSegment_2 3 rfl rfl)
theorem dX6_countSegment_53 : decode cX6_countSegment 53 = .ok (.aload_n 2, 1) := dk_44 (dk_at dksX6_countSegment_2 6 rfl rfl)
theorem dX6_countSegment_54 : decode cX6_countSegment 54 = .ok (.getfield 42, 3) := dk_180 0 42 (dk_at dksX6_countSegment_2 7 rfl rfl)
theorem dX6_countSegment_57 : decode cX6_countSegment 57 = .ok (.dcmp .l, 1) := dk_151 (dk_at dksX6_countSegment_2 10 rfl rfl)
theorem dX6_countSegment_58 : decode cX6_countSegment 58 = .ok (.ifCond .ne 9, 3) := dk_154 0 9 (dk_at dksX6_countSegment_2 11 rfl rfl)
theorem dX6_countSegment_61 : decode cX6_countSegment 61 = .ok (.aload_n 0, 1) := dk_42 (dk_at dksX6_countSegment_2 14 rfl rfl)
theorem dX6_countSegment_62 : decode cX6_countSegment 62 = .ok (.iconst 1, 1) := dk_4 (dk_at dksX6_countSegment_2 15 rfl rfl)
theorem dX6_countSegment_63 : decode cX6_countSegment 63 = .ok (.putfield 28, 3) := dk_181 0 28 (dk_at dksX6_countSegment_2 16 rfl rfl)
theorem dX6_countSegment_66 : decode cX6_countSegment 66 = .ok (.return_, 1) := dk_177 (dk_at dksX6_countSegment_2 19 rfl rfl)
theorem dX6_countSegment_67 : decode cX6_countSegment 67 = .ok (.aload_n 1, 1) := dk_43 (dk_at dksX6_countSegment_2 20 rfl rfl)
theorem dX6_countSegment_68 : decode cX6_countSegment 68 = .ok (.getfield 42, 3) := dk_180 0 42 (dk_at dksX6_countSegment_2 21 rfl rfl)
theorem dX6_countSegment_71 : decode cX6_countSegment 71 = .ok (.aload_n 0, 1) := dk_42 (dk_at dksX6_countSegment_3 0 rfl rfl)
theorem dX6_countSegment_72 : decode cX6_countSegment 72 = .ok (.getfield 32, 3) := dk_180 0 32 (dk_at dksX6_countSegment_3 1 rfl rfl)
theorem dX6_countSegment_75 : decode cX6_countSegment 75 = .ok (.getfield 42, 3) := dk_180 0 42 (dk_at dksX6_countSegment_3 4 rfl rfl)
theorem dX6_countSegment_78 : decode cX6_countSegment 78 = .ok (.dcmp .l, 1) := dk_151 (dk_at dksX6_countSegment_3 7 rfl rfl)
theorem dX6_countSegment_79 : decode cX6_countSegment 79 = .ok (.ifCond .ne 78, 3) := dk_154 0 78 (dk_at dksX6_countSegment_3 8 rfl rfl)
theorem dX6_countSegment_82 : decode cX6_countSegment 82 = .ok (.aload_n 2, 1) := dk_44 (dk_at dksX6_countSegment_3 11 rfl rfl)
theorem dX6_countSegment_83 : decode cX6_countSegment 83 = .ok (.getfield 42, 3) := dk_180 0 42 (dk_at dksX6_countSegment_3 12 rfl rfl)
theorem dX6_countSegment_86 : decode cX6_countSegment 86 = .ok (.aload_n 0, 1) := dk_42 (dk_at dksX6_countSegment_3 15 rfl rfl)
theorem dX6_countSegment_87 : decode cX6_countSegment 87 = .ok (.getfield 32, 3) := dk_180 0 32 (dk_at dksX6_countSegment_3 16 rfl rfl)
theorem dX6_countSegment_90 : decode cX6_countSegment 90 = .ok (.getfield 42, 3) := dk_180 0 42 (dk_at dksX6_countSegment_3 19 rfl rfl)
theorem dX6_countSegment_93 : decode cX6_countSegment 93 = .ok (.dcmp .l, 1) := dk_151 (dk_at dksX6_countSegment_3 22 rfl rfl)
theorem dX6_countSegment_94 : decode cX6_countSegment 94 = .ok (.ifCond .ne 63, 3) := dk_154 0 63 (dk_at dksX6_countSegment_4 0 rfl rfl)
theorem dX6_countSegment_97 : decode cX6_countSegment 97 = .ok (.aload_n 1, 1) := dk_43 (dk_at dksX6_countSegment_4 3 rfl rfl)
theorem dX6_countSegment_98 : decode cX6_countSegment 98 = .ok (.getfield 36, 3) := dk_180 0 36 (dk_at dksX6_countSegment_4 4 rfl rfl)
theorem dX6_countSegment_101 : decode cX6_countSegment 101 = .ok (.dstore_n 3, 1) := dk_74 (dk_at dksX6_countSegment_4 7 rfl rfl)
theorem dX6_countSegment_102 : decode cX6_countSegment 102 = .ok (.aload_n 2, 1) := dk_44 (dk_at dksX6_countSegment_4 8 rfl rfl)
theorem dX6_countSegment_103 : decode cX6_countSegment 103 = .ok (.getfield 36, 3) := dk_180 0 36 (dk_at dksX6_countSegment_4 9 rfl rfl)
theorem dX6_countSegment_106 : decode cX6_countSegment 106 = .ok (.dstore 5, 2) := dk_57 5 (dk_at dksX6_countSegment_4 12 rfl rfl)
theorem dX6_countSegment_108 : decode cX6_countSegment 108 = .ok (.dload_n 3, 1) := dk_41 (dk_at dksX6_countSegment_4 14 rfl rfl)
theorem dX6_countSegment_109 : decode cX6_countSegment 109 = .ok (.dload 5, 2) := dk_24 5 (dk_at dksX6_countSegment_4 15 rfl rfl)
theorem dX6_countSegment_111 : decode cX6_countSegment 111 = .ok (.dcmp .l, 1) := dk_151 (dk_at dksX6_countSegment_4 17 rfl rfl)
theorem dX6_countSegment_112 : decode cX6_countSegment 112 = .ok (.ifCond .le 14, 3) := dk_158 0 14 (dk_at dksX6_countSegment_4 18 rfl rfl)
theorem dX6_countSegment_115 : decode cX6_countSegment 115 = .ok (.aload_n 2, 1) := dk_44 (dk_at dksX6_countSegment_4 21 rfl rfl)
theorem dX6_countSegment_116 : decode cX6_countSegment 116 = .ok (.getfield 36, 3) := dk_180 0 36 (dk_at dksX6_countSegment_5 0 rfl rfl)
theorem dX6_countSegment_119 : decode cX6_countSegment 119 = .ok (.dstore_n 3, 1) := dk_74 (dk_at dksX6_countSegment_5 3 rfl rfl)
theorem dX6_countSegment_120 : decode cX6_countSegment 120 = .ok (.aload_n 1, 1) := dk_43 (dk_at dksX6_countSegment_5 4 rfl rfl)
theorem dX6_countSegment_121 : decode cX6_countSegment 121 = .ok (.getfield 36, 3) := dk_180 0 36 (dk_at dksX6_countSegment_5 5 rfl rfl)
theorem dX6_countSegment_124 : decode cX6_countSegment 124 = .ok (.dstore 5, 2) := dk_57 5 (dk_at dksX6_countSegment_5 8 rfl rfl)
theorem dX6_countSegment_126 : decode cX6_countSegment 126 = .ok (.aload_n 0, 1) := dk_42 (dk_at dksX6_countSegment_5 10 rfl rfl)
theorem dX6_countSegment_127 : decode cX6_countSegment 127 = .ok (.getfield 32, 3) := dk_180 0 32 (dk_at dksX6_countSegment_5 11 rfl rfl)
theorem dX6_countSegment_130 : decode cX6_countSegment 130 = .ok (.getfield 36, 3) := dk_180 0 36 (dk_at dksX6_countSegment_5 14 rfl rfl)
theorem dX6_countSegment_133 : decode cX6_countSegment 133 = .ok (.dload_n 3, 1) := dk_41 (dk_at dksX6_countSegment_5 17 rfl rfl)
theorem dX6_countSegment_134 : decode cX6_countSegment 134 = .ok (.dcmp .l, 1) := dk_151 (dk_at dksX6_countSegment_5 18 rfl rfl)
theorem dX6_countSegment_135 : decode cX6_countSegment 135 = .ok (.ifCond .lt 21, 3) := dk_155 0 21 (dk_at dksX6_countSegment_5 19 rfl rfl)
theorem dX6_countSegment_138 : decode cX6_countSegment 138 = .ok (.aload_n 0, 1) := dk_42 (dk_at dksX6_countSegment_5 22 rfl rfl)
theorem dX6_countSegment_139 : decode cX6_countSegment 139 = .ok (.getfield 32, 3) := dk_180 0 32 (dk_at dksX6_countSegment_6 0 rfl rfl)
theorem dX6_countSegment_142 : decode cX6_countSegment 142 = .ok (.getfield 36, 3) := dk_180 0 36 (dk_at dksX6_countSegment_6 3 rfl rfl)
theorem dX6_countSegment_145 : decode cX6_countSegment 145 = .ok (.dload 5, 2) := dk_24 5 (dk_at dksX6_countSegment_6 6 rfl rfl)
theorem dX6_countSegment_147 : decode cX6_countSegment 147 = .ok (.dcmp .g, 1) := dk_152 (dk_at dksX6_countSegment_6 8 rfl rfl)
theorem dX6_countSegment_148 : decode cX6_countSegment 148 = .ok (.ifCond .gt 8, 3) := dk_157 0 8 (dk_at dksX6_countSegment_6 9 rfl rfl)
theorem dX6_countSegment_151 : decode cX6_countSegment 151 = .ok (.aload_n 0, 1) := dk_42 (dk_at dksX6_countSegment_6 12 rfl rfl)
theorem dX6_countSegment_152 : decode cX6_countSegment 152 = .ok (.iconst 1, 1) := dk_4 (dk_at dksX6_countSegment_6 13 rfl rfl)
theorem dX6_countSegment_153 : decode cX6_countSegment 153 = .ok (.putfield 28, 3) := dk_181 0 28 (dk_at dksX6_countSegment_6 14 rfl rfl)
theorem dX6_countSegment_156 : decode cX6_countSegment 156 = .ok (.return_, 1) := dk_177 (dk_at dksX6_countSegment_6 17 rfl rfl)
theorem dX6_countSegment_157 : decode cX6_countSegment 157 = .ok (.aload_n 1, 1) := dk_43 (dk_at dksX6_countSegment_6 18 rfl rfl)
theorem dX6_countSegment_158 : decode cX6_countSegment 158 = .ok (.getfield 42, 3) := dk_180 0 42 (dk_at dksX6_countSegment_6 19 rfl rfl)
theorem dX6_countSegment_161 : decode cX6_countSegment 161 = .ok (.aload_n 0, 1) := dk_42 (dk_at dksX6_countSegment_6 22 rfl rfl)
theorem dX6_countSegment_162 : decode cX6_countSegment 162 = .ok (.getfield 32, 3) := dk_180 0 32 (dk_at dksX6_countSegment_7 0 rfl rfl)
theorem dX6_countSegment_165 : decode cX6_countSegment 165 = .ok (.getfield 42, 3) := dk_180 0 42 (dk_at dksX6_countSegment_7 3 rfl rfl)
theorem dX6_countSegment_168 : decode cX6_countSegment 168 = .ok (.dcmp .l, 1) := dk_151 (dk_at dksX6_countSegment_7 6 rfl rfl)
theorem dX6_countSegment_169 : decode cX6_countSegment 169 = .ok (.ifCond .le 18, 3) := dk_158 0 18 (dk_at dksX6_countSegment_7 7 rfl rfl)
theorem dX6_countSegment_172 : decode cX6_countSegment 172 = .ok (.aload_n 2, 1) := dk_44 (dk_at dksX6_countSegment_7 10 rfl rfl)
theorem dX6_countSegment_173 : decode cX6_countSegment 173 = .ok (.getfield 42, 3) := dk_180 0 42 (dk_at dksX6_countSegment_7 11 rfl rfl)
theorem dX6_countSegment_176 : decode cX6_countSegment 176 = .ok (.aload_n 0, 1) := dk_42 (dk_at dksX6_countSegment_7 14 rfl rfl)
theorem dX6_countSegment_177 : decode cX6_countSegment 177 = .ok (.getfield 32, 3) := dk_180 0 32 (dk_at dksX6_countSegment_7 15 rfl rfl)
theorem dX6_countSegment_180 : decode cX6_countSegment 180 = .ok (.getfield 42, 3) := dk_180 0 42 (dk_at dksX6_countSegment_7 18 rfl rfl)
theorem dX6_countSegment_183 : decode cX6_countSegment 183 = .ok (.dcmp .g, 1) := dk_152 (dk_at dksX6_countSegment_7 21 rfl rfl)
theorem dX6_countSegment_184 : decode cX6_countSegment 184 = .ok (.ifCond .le 33, 3) := dk_158 0 33 (dk_at dksX6_countSegment_8 0 rfl rfl)
theorem dX6_countSegment_187 : decode cX6_countSegment 187 = .ok (.aload_n 2, 1) := dk_44 (dk_at dksX6_countSegment_8 3 rfl rfl)
theorem dX6_countSegment_188 : decode cX6_countSegment 188 = .ok (.getfield 42, 3) := dk_180 0 42 (dk_at dksX6_countSegment_8 4 rfl rfl)
theorem dX6_countSegment_191 : decode cX6_countSegment 191 = .ok (.aload_n 0, 1) := dk_42 (dk_at dksX6_countSegment_8 7 rfl rfl)
theorem dX6_countSegment_192 : decode cX6_countSegment 192 = .ok (.getfield 32, 3) := dk_180 0 32 (dk_at dksX6_countSegment_8 8 rfl rfl)
theorem dX6_countSegment_195 : decode cX6_countSegment 195 = .ok (.getfield 42, 3) := dk_180 0 42 (dk_at dksX6_countSegment_8 11 rfl rfl)
theorem dX6_countSegment_198 : decode cX6_countSegment 198 = .ok (.dcmp .l, 1) := dk_151 (dk_at dksX6_countSegment_8 14 rfl rfl)
theorem dX6_countSegment_199 : decode cX6_countSegment 199 = .ok (.ifCond .le 68, 3) := dk_158 0 68 (dk_at dksX6_countSegment_8 15 rfl rfl)
theorem dX6_countSegment_202 : decode cX6_countSegment 202 = .ok (.aload_n 1, 1) := dk_43 (dk_at dksX6_countSegment_8 18 rfl rfl)
theorem dX6_countSegment_203 : decode cX6_countSegment 203 = .ok (.getfield 42, 3) := dk_180 0 42 (dk_at dksX6_countSegment_8 19 rfl rfl)
theorem dX6_countSegment_206 : decode cX6_countSegment 206 = .ok (.aload_n 0, 1) := dk_42 (dk_at dksX6_countSegment_8 22 rfl rfl)
theorem dX6_countSegment_207 : decode cX6_countSegment 207 = .ok (.getfield 32, 3) := dk_180 0 32 (dk_at dksX6_countSegment_9 0 rfl rfl)
theorem dX6_countSegment_210 : decode cX6_countSegment 210 = .ok (.getfield 42, 3) := dk_180 0 42 (dk_at dksX6_countSegment_9 3 rfl rfl)
theorem dX6_countSegment_213 : decode cX6_countSegment 213 = .ok (.dcmp .g, 1) := dk_152 (dk_at dksX6_countSegment_9 6 rfl rfl)
theorem dX6_countSegment_214 : decode cX6_countSegment 214 = .ok (.ifCond .gt 53, 3) := dk_157 0 53 (dk_at dksX6_countSegment_9 7 rfl rfl)
theorem dX6_countSegment_217 : decode cX6_countSegment 217 = .ok (.aload_n 1, 1) := dk_43 (dk_at dksX6_countSegment_9 10 rfl rfl)
theorem dX6_countSegment_218 : decode cX6_countSegment 218 = .ok (.aload_n 2, 1) := dk_44 (dk_at dksX6_countSegment_9 11 rfl rfl)
theorem dX6_countSegment_219 : decode cX6_countSegment 219 = .ok (.aload_n 0, 1) := dk_42 (dk_at dksX6_countSegment_9 12 rfl rfl)
theorem dX6_countSegment_220 : decode cX6_countSegment 220 = .ok (.getfield 32, 3) := dk_180 0 32 (dk_at dksX6_countSegment_9 13 rfl rfl)
theorem dX6_countSegment_223 : decode cX6_countSegment 223 = .ok (.invokestatic 45, 3) := dk_184 0 45 (dk_at dksX6_countSegment_9 16 rfl rfl)
theorem dX6_countSegment_226 : decode cX6_countSegment 226 = .ok (.istore_n 3, 1) := dk_62 (dk_at dksX6_countSegment_9 19 rfl rfl)
theorem dX6_countSegment_227 : decode cX6_countSegment 227 = .ok (.iload_n 3, 1) := dk_29 (dk_at dksX6_countSegment_9 20 rfl rfl)
theorem dX6_countSegment_228 : decode cX6_countSegment 228 = .ok (.ifCond .ne 9, 3) := dk_154 0 9 (dk_at dksX6_countSegment_9 21 rfl rfl)
theorem dX6_countSegment_231 : decode cX6_countSegment 231 = .ok (.aload_n 0, 1) := dk_42 (dk_at dksX6_countSegment_10 0 rfl rfl)
theorem dX6_countSegment_232 : decode cX6_countSegment 232 = .ok (.iconst 1, 1) := dk_4 (dk_at dksX6_countSegment_10 1 rfl rfl)
theorem dX6_countSegment_233 : decode cX6_countSegment 233 = .ok (.putfield 28, 3) := dk_181 0 28 (dk_at dksX6_countSegment_10 2 rfl rfl)
theorem dX6_countSegment_236 : decode cX6_countSegment 236 = .ok (.return_, 1) := dk_177 (dk_at dksX6_countSegment_10 5 rfl rfl)
theorem dX6_countSegment_237 : decode cX6_countSegment 237 = .ok (.aload_n 2, 1) := dk_44 (dk_at dksX6_countSegment_10 6 rfl rfl)
theorem dX6_countSegment_238 : decode cX6_countSegment 238 = .ok (.getfield 42, 3) := dk_180 0 42 (dk_at dksX6_countSegment_10 7 rfl rfl)
theorem dX6_countSegment_241 : decode cX6_countSegment 241 = .ok (.aload_n 1, 1) := dk_43 (dk_at dksX6_countSegment_10 10 rfl rfl)
theorem dX6_countSegment_242 : decode cX6_countSegment 242 = .ok (.getfield 42, 3) := dk_180 0 42 (dk_at dksX6_countSegment_10 11 rfl rfl)
theorem dX6_countSegment_245 : decode cX6_countSegment 245 = .ok (.dcmp .g, 1) := dk_152 (dk_at dksX6_countSegment_10 14 rfl rfl)
theorem dX6_countSegment_246 : decode cX6_countSegment 246 = .ok (.ifCond .ge 6, 3) := dk_156 0 6 (dk_at dksX6_countSegment_10 15 rfl rfl)
theorem dX6_countSegment_249 : decode cX6_countSegment 249 = .ok (.iload_n 3, 1) := dk_29 (dk_at dksX6_countSegment_10 18 rfl rfl)
theorem dX6_countSegment_250 : decode cX6_countSegment 250 = .ok (.ineg, 1) := dk_116 (dk_at dksX6_countSegment_10 19 rfl rfl)
theorem dX6_countSegment_251 : decode cX6_countSegment 251 = .ok (.istore_n 3, 1) := dk_62 (dk_at dksX6_countSegment_10 20 rfl rfl)
theorem dX6_countSegment_252 : decode cX6_countSegment 252 = .ok (.iload_n 3, 1) := dk_29 (dk_at dksX6_countSegment_10 21 rfl rfl)
theorem dX6_countSegment_253 : decode cX6_countSegment 253 = .ok (.iconst 1, 1) := dk_4 (dk_at dksX6_countSegment_10 22 rfl rfl)
theorem dX6_countSegment_254 : decode cX6_countSegment 254 = .ok (.if_icmp .ne 13, 3) := dk_160 0 13 (dk_at dksX6_countSegment_11 0 rfl rfl)
theorem dX6_countSegment_257 : decode cX6_countSegment 257 = .ok (.aload_n 0, 1) := dk_42 (dk_at dksX6_countSegment_11 3 rfl rfl)
theorem dX6_countSegment_258 : decode cX6_countSegment 258 = .ok (.dup, 1) := dk_89 (dk_at dksX6_countSegment_11 4 rfl rfl)
theorem dX6_countSegment_259 : decode cX6_countSegment 259 = .ok (.getfield 24, 3) := dk_180 0 24 (dk_at dksX6_countSegment_11 5 rfl rfl)
theorem dX6_countSegment_262 : decode cX6_countSegment 262 = .ok (.iconst 1, 1) := dk_4 (dk_at dksX6_countSegment_11 8 rfl rfl)
theorem dX6_countSegment_263 : decode cX6_countSegment 263 = .ok (.iadd, 1) := dk_96 (dk_at dksX6_countSegment_11 9 rfl rfl)
theorem dX6_countSegment_264 : decode cX6_countSegment 264 = .ok (.putfield 24, 3) := dk_181 0 24 (dk_at dksX6_countSegment_11 10 rfl rfl)
theorem dX6_countSegment_267 : decode cX6_countSegment 267 = .ok (.return_, 1) := dk_177 (dk_at dksX6_countSegment_11 13 rfl rfl)
abbrev cX6_isOnSegment : ByteArray := prog_6_method_4_code
def yX6_isOnSegment : MethodName := ⟨RX6, "isOnSegment", "()Z"⟩
theorem dX6_isOnSegment_0 : decode cX6_isOnSegment 0 = .ok (.aload_n 0, 1) := by decide +kernel
theorem dX6_isOnSegment_1 : decode cX6_isOnSegment 1 = .ok (.getfield 28, 3) := by decide +kernel
theorem dX6_isOnSegment_4 : decode cX6_isOnSegment 4 = .ok (.ireturn, 1) := by decide +kernel
abbrev cX6_getLocation : ByteArray := prog_6_method_5_code
def yX6_getLocation : MethodName := ⟨RX6, "getLocation", "()I"⟩
def dkwX6_getLocation_0 : List UInt8 := [42, 180, 0, 28, 153, 0, 5, 4, 172, 42, 180, 0, 24, 5, 112, 4, 160, 0, 5, 3, 172, 5, 172]
abbrev dktX6_getLocation_0 : List UInt8 := dkwX6_getLocation_0 ++ []
theorem dksX6_getLocation_0 : cX6_getLocation.data.toList.drop 0 = dktX6_getLocation_0 := by decide +kernel
theorem dX6_getLocation_0 : decode cX6_getLocation 0 = .ok (.aload_n 0, 1) := dk_42 (dk_at dksX6_getLocation_0 0 rfl rfl)
theorem dX6_getLocation_1 : decode cX6_getLocation 1 = .ok (.getfield 28, 3) := dk_180 0 28 (dk_at dksX6_getLocation_0 1 rfl rfl)
theorem dX6_getLocation_4 : decode cX6_getLocation 4 = .ok (.ifCond .eq 5, 3) := dk_153 0 5 (dk_at dksX6_getLocation_0 4 rfl rfl)
theorem dX6_getLocation_7 : decode cX6_getLocation 7 = .ok (.iconst 1, 1) := dk_4 (dk_at dksX6_getLocation_0 7 rfl rfl)
theorem dX6_getLocation_8 : decode cX6_getLocation 8 = .ok (.ireturn, 1) := dk_172 (dk_at dksX6_getLocation_0 8 rfl rfl)
theorem dX6_getLocation_9 : decode cX6_getLocation 9 = .ok (.aload_n 0, 1) := dk_42 (dk_at dksX6_getLocation_0 9 rfl rfl)
theorem dX6_getLocation_10 : decode cX6_getLocation 10 = .ok (.getfield 24, 3) := dk_180 0 24 (dk_at dksX6_getLocation_0 10 rfl rfl)
theorem dX6_getLocation_13 : decode cX6_getLocation 13 = .ok (.iconst 2, 1) := dk_5 (dk_at dksX6_getLocation_0 13 rfl rfl)
theorem dX6_getLocation_14 : decode cX6_getLocation 14 = .ok (.irem, 1) := dk_112 (dk_at dksX6_getLocation_0 14 rfl rfl)
theorem dX6_getLocation_15 : decode cX6_getLocation 15 = .ok (.iconst 1, 1) := dk_4 (dk_at dksX6_getLocation_0 15 rfl rfl)
theorem dX6_getLocation_16 : decode cX6_getLocation 16 = .ok (.if_icmp .ne 5, 3) := dk_160 0 5 (dk_at dksX6_getLocation_0 16 rfl rfl)
theorem dX6_getLocation_19 : decode cX6_getLocation 19 = .ok (.iconst 0, 1) := dk_3 (dk_at dksX6_getLocation_0 19 rfl rfl)
theorem dX6_getLocation_20 : decode cX6_getLocation 20 = .ok (.ireturn, 1) := dk_172 (dk_at dksX6_getLocation_0 20 rfl rfl)
theorem dX6_getLocation_21 : decode cX6_getLocation 21 = .ok (.iconst 2, 1) := dk_5 (dk_at dksX6_getLocation_0 21 rfl rfl)
theorem dX6_getLocation_22 : decode cX6_getLocation 22 = .ok (.ireturn, 1) := dk_172 (dk_at dksX6_getLocation_0 22 rfl rfl)
theorem q12 : (Jvm.Cond.initialized "RayCrossingCounter") ∈ lw_all := lw_g (lw_at lw_m0 7 rfl) rfl
theorem q48 : (Jvm.Cond.fieldLink "RayCrossingCounter" (36 : Nat) "Coordinate" "x" "D") ∈ lw_all := lw_g (lw_at lw_m0 43 rfl) rfl
theorem q52 : (Jvm.Cond.fieldLink "RayCrossingCounter" (42 : Nat) "Coordinate" "y" "D") ∈ lw_all := lw_g (lw_at lw_m0 47 rfl) rfl
theorem q157 : (Jvm.Cond.static ({ cls := "RayCrossingCounter", name := "locatePointInRing", desc := "(LCoordinate;[LCoordinate;)I" } : Jvm.MethodName)) ∈ lw_all := lw_g (lw_at lw_m0 152 rfl) rfl
theorem q158 : (Jvm.Cond.code ({ cls := "RayCrossingCounter", name := "locatePointInRing", desc := "(LCoordinate;[LCoordinate;)I" } : Jvm.MethodName) prog_6_method_1_code (6 : Nat) (Option.some Jvm.ClassFile.FieldType.int)) ∈ lw_all := lw_g (lw_at lw_m0 153 rfl) rfl
theorem q159 : (Jvm.Cond.classLink "RayCrossingCounter" (1 : Nat) "RayCrossingCounter") ∈ lw_all := lw_g (lw_at lw_m0 154 rfl) rfl
theorem q160 : (Jvm.Cond.instantiable "RayCrossingCounter" (3 : Nat)) ∈ lw_all := lw_g (lw_at lw_m0 155 rfl) rfl
theorem q161 : (Jvm.Cond.methodLink "RayCrossingCounter" (3 : Nat) ({ cls := "RayCrossingCounter", name := "<init>", desc := "(LCoordinate;)V" } : Jvm.MethodName)) ∈ lw_all := lw_g (lw_at lw_m0 156 rfl) rfl
theorem q162 : (Jvm.Cond.instanceMethod ({ cls := "RayCrossingCounter", name := "<init>", desc := "(LCoordinate;)V" } : Jvm.MethodName)) ∈ lw_all := lw_g (lw_at lw_m0 157 rfl) rfl
theorem q163 : (Jvm.Cond.code ({ cls := "RayCrossingCounter", name := "<init>", desc := "(LCoordinate;)V" } : Jvm.MethodName) prog_6_method_2_code (2 : Nat) (Option.none : Option Jvm.ClassFile.FieldType)) ∈ lw_all := lw_g (lw_at lw_m0 158 rfl) rfl
theorem q164 : (Jvm.Cond.methodLink "RayCrossingCounter" (19 : Nat) ({ cls := "java/lang/Object", name := "<init>", desc := "()V" } : Jvm.MethodName)) ∈ lw_all := lw_g (lw_at lw_m0 159 rfl) rfl
theorem q165 : (Jvm.Cond.fieldLink "RayCrossingCounter" (32 : Nat) "RayCrossingCounter" "p" "LCoordinate;") ∈ lw_all := lw_g (lw_at lw_m0 160 rfl) rfl
theorem q166 : (Jvm.Cond.fieldLink "RayCrossingCounter" (24 : Nat) "RayCrossingCounter" "crossingCount" "I") ∈ lw_all := lw_g (lw_at lw_m0 161 rfl) rfl
theorem q167 : (Jvm.Cond.fieldLink "RayCrossingCounter" (28 : Nat) "RayCrossingCounter" "isPointOnSegment" "Z") ∈ lw_all := lw_g (lw_at lw_m0 162 rfl) rfl
theorem q168 : (Jvm.Cond.lays "RayCrossingCounter" "RayCrossingCounter" "p" "LCoordinate;") ∈ lw_all := lw_g (lw_at lw_m0 163 rfl) rfl
theorem q169 : (Jvm.Cond.soleField "RayCrossingCounter" "p") ∈ lw_all := lw_g (lw_at lw_m0 164 rfl) rfl
theorem q170 : (Jvm.Cond.lays "RayCrossingCounter" "RayCrossingCounter" "crossingCount" "I") ∈ lw_all := lw_g (lw_at lw_m0 165 rfl) rfl
theorem q171 : (Jvm.Cond.soleField "RayCrossingCounter" "crossingCount") ∈ lw_all := lw_g (lw_at lw_m0 166 rfl) rfl
theorem q172 : (Jvm.Cond.lays "RayCrossingCounter" "RayCrossingCounter" "isPointOnSegment" "Z") ∈ lw_all := lw_g (lw_at lw_m0 167 rfl) rfl
theorem q173 : (Jvm.Cond.soleField "RayCrossingCounter" "isPointOnSegment") ∈ lw_all := lw_g (lw_at lw_m0 168 rfl) rfl
theorem q174 : (Jvm.Cond.superclass "RayCrossingCounter" "java/lang/Object") ∈ lw_all := lw_g (lw_at lw_m0 169 rfl) rfl
theorem q175 : (Jvm.Cond.methodLink "RayCrossingCounter" (7 : Nat) ({ cls := "RayCrossingCounter", name := "countSegment", desc := "(LCoordinate;LCoordinate;)V" } : Jvm.MethodName)) ∈ lw_all := lw_g (lw_at lw_m0 170 rfl) rfl
theorem q176 : (Jvm.Cond.instanceMethod ({ cls := "RayCrossingCounter", name := "countSegment", desc := "(LCoordinate;LCoordinate;)V" } : Jvm.MethodName)) ∈ lw_all := lw_g (lw_at lw_m0 171 rfl) rfl
theorem q177 : (Jvm.Cond.selects "RayCrossingCounter" ({ cls := "RayCrossingCounter", name := "countSegment", desc := "(LCoordinate;LCoordinate;)V" } : Jvm.MethodName) ({ cls := "RayCrossingCounter", name := "countSegment", desc := "(LCoordinate;LCoordinate;)V" } : Jvm.MethodName)) ∈ lw_all := lw_g (lw_at lw_m0 172 rfl) rfl
theorem q178 : (Jvm.Cond.code ({ cls := "RayCrossingCounter", name := "countSegment", desc := "(LCoordinate;LCoordinate;)V" } : Jvm.MethodName) prog_6_method_3_code (7 : Nat) (Option.none : Option Jvm.ClassFile.FieldType)) ∈ lw_all := lw_g (lw_at lw_m0 173 rfl) rfl
theorem q179 : (Jvm.Cond.methodLink "RayCrossingCounter" (45 : Nat) ({ cls := "Orientation", name := "index", desc := "(LCoordinate;LCoordinate;LCoordinate;)I" } : Jvm.MethodName)) ∈ lw_all := lw_g (lw_at lw_m0 174 rfl) rfl
theorem q180 : (Jvm.Cond.methodLink "RayCrossingCounter" (11 : Nat) ({ cls := "RayCrossingCounter", name := "isOnSegment", desc := "()Z" } : Jvm.MethodName)) ∈ lw_all := lw_g (lw_at lw_m0 175 rfl) rfl
theorem q181 : (Jvm.Cond.instanceMethod ({ cls := "RayCrossingCounter", name := "isOnSegment", desc := "()Z" } : Jvm.MethodName)) ∈ lw_all := lw_g (lw_at lw_m0 176 rfl) rfl
theorem q182 : (Jvm.Cond.selects "RayCrossingCounter" ({ cls := "RayCrossingCounter", name := "isOnSegment", desc := "()Z" } : Jvm.MethodName) ({ cls := "RayCrossingCounter", name := "isOnSegment", desc := "()Z" } : Jvm.MethodName)) ∈ lw_all := lw_g (lw_at lw_m0 177 rfl) rfl
theorem q183 : (Jvm.Cond.code ({ cls := "RayCrossingCounter", name := "isOnSegment", desc := "()Z" } : Jvm.MethodName) prog_6_method_4_code (1 : Nat) (Option.some Jvm.ClassFile.FieldType.boolean)) ∈ lw_all := lw_g (lw_at lw_m0 178 rfl) rfl
theorem q184 : (Jvm.Cond.methodLink "RayCrossingCounter" (15 : Nat) ({ cls := "RayCrossingCounter", name := "getLocation", desc := "()I" } : Jvm.MethodName)) ∈ lw_all := lw_g (lw_at lw_m0 179 rfl) rfl
theorem q185 : (Jvm.Cond.instanceMethod ({ cls := "RayCrossingCounter", name := "getLocation", desc := "()I" } : Jvm.MethodName)) ∈ lw_all := lw_g (lw_at lw_m0 180 rfl) rfl
theorem q186 : (Jvm.Cond.selects "RayCrossingCounter" ({ cls := "RayCrossingCounter", name := "getLocation", desc := "()I" } : Jvm.MethodName) ({ cls := "RayCrossingCounter", name := "getLocation", desc := "()I" } : Jvm.MethodName)) ∈ lw_all := lw_g (lw_at lw_m0 181 rfl) rfl
theorem q187 : (Jvm.Cond.code ({ cls := "RayCrossingCounter", name := "getLocation", desc := "()I" } : Jvm.MethodName) prog_6_method_5_code (1 : Nat) (Option.some Jvm.ClassFile.FieldType.int)) ∈ lw_all := lw_g (lw_at lw_m0 182 rfl) rfl
theorem in_X6 : ∀ w ∈ wsX60, w ∈ lw_all := lw_in wsX60 [168, 170, 172] (by decide +kernel) (by decide +kernel)
/-! TurnDesk -/
set_option maxRecDepth 100000
def RX1 : String := "TurnDesk"
def TX1 : u_T := fun k => match k with
  | 0 => ("TurnDesk", "points", "[LCoordinate;", true)
  | _ => ("TurnDesk", "n", "I", false)
def tyX1 : Nat → FieldType := fun k => match k with
  | 0 => .array (.object "Coordinate")
  | _ => .int
abbrev wsX10 : List Cond := u_ws RX1 TX1 2
theorem nmX1 : ∀ a, a < 2 → ∀ b, b < 2 → a ≠ b → (TX1 a).2.1 ≠ (TX1 b).2.1 := by decide +kernel
theorem tyX1_ok : ∀ k, k < 2 → parseFieldDescriptor (TX1 k).2.2.1 = some (tyX1 k) := by decide +kernel
abbrev cX1_init : ByteArray := prog_7_method_1_code
def yX1_init : MethodName := ⟨RX1, "<init>", "()V"⟩
def dkwX1_init_0 : List UInt8 := [42, 183, 0, 1, 42, 16, 16, 189, 0, 7, 181, 0, 9, 177]
abbrev dktX1_init_0 : List UInt8 := dkwX1_init_0 ++ []
theorem dksX1_init_0 : cX1_init.data.toList.drop 0 = dktX1_init_0 := by decide +kernel
theorem dX1_init_0 : decode cX1_init 0 = .ok (.aload_n 0, 1) := dk_42 (dk_at dksX1_init_0 0 rfl rfl)
theorem dX1_init_1 : decode cX1_init 1 = .ok (.invokespecial 1, 3) := dk_183 0 1 (dk_at dksX1_init_0 1 rfl rfl)
theorem dX1_init_4 : decode cX1_init 4 = .ok (.aload_n 0, 1) := dk_42 (dk_at dksX1_init_0 4 rfl rfl)
theorem dX1_init_5 : decode cX1_init 5 = .ok (.bipush 16, 2) := dk_16 16 (dk_at dksX1_init_0 5 rfl rfl)
theorem dX1_init_7 : decode cX1_init 7 = .ok (.anewarray 7, 3) := dk_189 0 7 (dk_at dksX1_init_0 7 rfl rfl)
theorem dX1_init_10 : decode cX1_init 10 = .ok (.putfield 9, 3) := dk_181 0 9 (dk_at dksX1_init_0 10 rfl rfl)
theorem dX1_init_13 : decode cX1_init 13 = .ok (.return_, 1) := dk_177 (dk_at dksX1_init_0 13 rfl rfl)
abbrev cX1_put : ByteArray := prog_7_method_4_code
def yX1_put : MethodName := ⟨RX1, "put", "(II)Z"⟩
def dkwX1_put_1 : List UInt8 := [83, 42, 89, 180, 0, 18, 4, 96, 181, 0, 18, 4, 172]
abbrev dktX1_put_1 : List UInt8 := dkwX1_put_1 ++ []
def dkwX1_put_0 : List UInt8 := [42, 180, 0, 18, 16, 15, 161, 0, 5, 3, 172, 42, 180, 0, 9, 42, 180, 0, 18, 27, 28, 184, 0, 22]
abbrev dktX1_put_0 : List UInt8 := dkwX1_put_0 ++ dktX1_put_1
theorem dksX1_put_0 : cX1_put.data.toList.drop 0 = dktX1_put_0 := by decide +kernel
theorem dksX1_put_1 : cX1_put.data.toList.drop 24 = dktX1_put_1 := dk_seg dksX1_put_0 24 rfl rfl
theorem dX1_put_0 : decode cX1_put 0 = .ok (.aload_n 0, 1) := dk_42 (dk_at dksX1_put_0 0 rfl rfl)
theorem dX1_put_1 : decode cX1_put 1 = .ok (.getfield 18, 3) := dk_180 0 18 (dk_at dksX1_put_0 1 rfl rfl)
theorem dX1_put_4 : decode cX1_put 4 = .ok (.bipush 15, 2) := dk_16 15 (dk_at dksX1_put_0 4 rfl rfl)
theorem dX1_put_6 : decode cX1_put 6 = .ok (.if_icmp .lt 5, 3) := dk_161 0 5 (dk_at dksX1_put_0 6 rfl rfl)
theorem dX1_put_9 : decode cX1_put 9 = .ok (.iconst 0, 1) := dk_3 (dk_at dksX1_put_0 9 rfl rfl)
theorem dX1_put_10 : decode cX1_put 10 = .ok (.ireturn, 1) := dk_172 (dk_at dksX1_put_0 10 rfl rfl)
theorem dX1_put_11 : decode cX1_put 11 = .ok (.aload_n 0, 1) := dk_42 (dk_at dksX1_put_0 11 rfl rfl)
theorem dX1_put_12 : decode cX1_put 12 = .ok (.getfield 9, 3) := dk_180 0 9 (dk_at dksX1_put_0 12 rfl rfl)
theorem dX1_put_15 : decode cX1_put 15 = .ok (.aload_n 0, 1) := dk_42 (dk_at dksX1_put_0 15 rfl rfl)
theorem dX1_put_16 : decode cX1_put 16 = .ok (.getfield 18, 3) := dk_180 0 18 (dk_at dksX1_put_0 16 rfl rfl)
theorem dX1_put_19 : decode cX1_put 19 = .ok (.iload_n 1, 1) := dk_27 (dk_at dksX1_put_0 19 rfl rfl)
theorem dX1_put_20 : decode cX1_put 20 = .ok (.iload_n 2, 1) := dk_28 (dk_at dksX1_put_0 20 rfl rfl)
theorem dX1_put_21 : decode cX1_put 21 = .ok (.invokestatic 22, 3) := dk_184 0 22 (dk_at dksX1_put_0 21 rfl rfl)
theorem dX1_put_24 : decode cX1_put 24 = .ok (.aastore, 1) := dk_83 (dk_at dksX1_put_1 0 rfl rfl)
theorem dX1_put_25 : decode cX1_put 25 = .ok (.aload_n 0, 1) := dk_42 (dk_at dksX1_put_1 1 rfl rfl)
theorem dX1_put_26 : decode cX1_put 26 = .ok (.dup, 1) := dk_89 (dk_at dksX1_put_1 2 rfl rfl)
theorem dX1_put_27 : decode cX1_put 27 = .ok (.getfield 18, 3) := dk_180 0 18 (dk_at dksX1_put_1 3 rfl rfl)
theorem dX1_put_30 : decode cX1_put 30 = .ok (.iconst 1, 1) := dk_4 (dk_at dksX1_put_1 6 rfl rfl)
theorem dX1_put_31 : decode cX1_put 31 = .ok (.iadd, 1) := dk_96 (dk_at dksX1_put_1 7 rfl rfl)
theorem dX1_put_32 : decode cX1_put 32 = .ok (.putfield 18, 3) := dk_181 0 18 (dk_at dksX1_put_1 8 rfl rfl)
theorem dX1_put_35 : decode cX1_put 35 = .ok (.iconst 1, 1) := dk_4 (dk_at dksX1_put_1 11 rfl rfl)
theorem dX1_put_36 : decode cX1_put 36 = .ok (.ireturn, 1) := dk_172 (dk_at dksX1_put_1 12 rfl rfl)
abbrev cX1_point : ByteArray := prog_7_method_3_code
def yX1_point : MethodName := ⟨RX1, "point", "(II)LCoordinate;"⟩
def dkwX1_point_0 : List UInt8 := [187, 0, 7, 89, 26, 5, 122, 135, 27, 5, 122, 135, 183, 0, 15, 176]
abbrev dktX1_point_0 : List UInt8 := dkwX1_point_0 ++ []
theorem dksX1_point_0 : cX1_point.data.toList.drop 0 = dktX1_point_0 := by decide +kernel
theorem dX1_point_0 : decode cX1_point 0 = .ok (.new 7, 3) := dk_187 0 7 (dk_at dksX1_point_0 0 rfl rfl)
theorem dX1_point_3 : decode cX1_point 3 = .ok (.dup, 1) := dk_89 (dk_at dksX1_point_0 3 rfl rfl)
theorem dX1_point_4 : decode cX1_point 4 = .ok (.iload_n 0, 1) := dk_26 (dk_at dksX1_point_0 4 rfl rfl)
theorem dX1_point_5 : decode cX1_point 5 = .ok (.iconst 2, 1) := dk_5 (dk_at dksX1_point_0 5 rfl rfl)
theorem dX1_point_6 : decode cX1_point 6 = .ok (.ishr, 1) := dk_122 (dk_at dksX1_point_0 6 rfl rfl)
theorem dX1_point_7 : decode cX1_point 7 = .ok (.i2d, 1) := dk_135 (dk_at dksX1_point_0 7 rfl rfl)
theorem dX1_point_8 : decode cX1_point 8 = .ok (.iload_n 1, 1) := dk_27 (dk_at dksX1_point_0 8 rfl rfl)
theorem dX1_point_9 : decode cX1_point 9 = .ok (.iconst 2, 1) := dk_5 (dk_at dksX1_point_0 9 rfl rfl)
theorem dX1_point_10 : decode cX1_point 10 = .ok (.ishr, 1) := dk_122 (dk_at dksX1_point_0 10 rfl rfl)
theorem dX1_point_11 : decode cX1_point 11 = .ok (.i2d, 1) := dk_135 (dk_at dksX1_point_0 11 rfl rfl)
theorem dX1_point_12 : decode cX1_point 12 = .ok (.invokespecial 15, 3) := dk_183 0 15 (dk_at dksX1_point_0 12 rfl rfl)
theorem dX1_point_15 : decode cX1_point 15 = .ok (.areturn, 1) := dk_176 (dk_at dksX1_point_0 15 rfl rfl)
abbrev cX1_between : ByteArray := prog_7_method_5_code
def yX1_between : MethodName := ⟨RX1, "between", "(III)Z"⟩
def dkwX1_between_5 : List UInt8 := [183, 0, 15, 83, 42, 89, 180, 0, 18, 4, 96, 181, 0, 18, 4, 172]
abbrev dktX1_between_5 : List UInt8 := dkwX1_between_5 ++ []
def dkwX1_between_4 : List UInt8 := [55, 8, 42, 180, 0, 9, 42, 180, 0, 18, 187, 0, 7, 89, 22, 6, 6, 123, 138, 22, 8, 6, 123, 138]
abbrev dktX1_between_4 : List UInt8 := dkwX1_between_4 ++ dktX1_between_5
def dkwX1_between_3 : List UInt8 := [20, 0, 34, 105, 25, 5, 180, 0, 36, 143, 25, 4, 180, 0, 36, 143, 101, 29, 16, 7, 126, 133, 105, 97]
abbrev dktX1_between_3 : List UInt8 := dkwX1_between_3 ++ dktX1_between_4
def dkwX1_between_2 : List UInt8 := [143, 25, 4, 180, 0, 30, 143, 101, 29, 16, 7, 126, 133, 105, 97, 55, 6, 25, 4, 180, 0, 36, 143]
abbrev dktX1_between_2 : List UInt8 := dkwX1_between_2 ++ dktX1_between_3
def dkwX1_between_1 : List UInt8 := [58, 4, 42, 28, 182, 0, 26, 58, 5, 25, 4, 180, 0, 30, 143, 20, 0, 34, 105, 25, 5, 180, 0, 30]
abbrev dktX1_between_1 : List UInt8 := dkwX1_between_1 ++ dktX1_between_2
def dkwX1_between_0 : List UInt8 := [42, 180, 0, 18, 5, 161, 0, 12, 42, 180, 0, 18, 16, 15, 161, 0, 5, 3, 172, 42, 27, 182, 0, 26]
abbrev dktX1_between_0 : List UInt8 := dkwX1_between_0 ++ dktX1_between_1
theorem dksX1_between_0 : cX1_between.data.toList.drop 0 = dktX1_between_0 := by decide +kernel
theorem dksX1_between_1 : cX1_between.data.toList.drop 24 = dktX1_between_1 := dk_seg dksX1_between_0 24 rfl rfl
theorem dksX1_between_2 : cX1_between.data.toList.drop 48 = dktX1_between_2 := dk_seg dksX1_between_1 24 rfl rfl
theorem dksX1_between_3 : cX1_between.data.toList.drop 71 = dktX1_between_3 := dk_seg dksX1_between_2 23 rfl rfl
theorem dksX1_between_4 : cX1_between.data.toList.drop 95 = dktX1_between_4 := dk_seg dksX1_between_3 24 rfl rfl
theorem dksX1_between_5 : cX1_between.data.toList.drop 119 = dktX1_between_5 := dk_seg dksX1_between_4 24 rfl rfl
theorem dX1_between_0 : decode cX1_between 0 = .ok (.aload_n 0, 1) := dk_42 (dk_at dksX1_between_0 0 rfl rfl)
theorem dX1_between_1 : decode cX1_between 1 = .ok (.getfield 18, 3) := dk_180 0 18 (dk_at dksX1_between_0 1 rfl rfl)
theorem dX1_between_4 : decode cX1_between 4 = .ok (.iconst 2, 1) := dk_5 (dk_at dksX1_between_0 4 rfl rfl)
theorem dX1_between_5 : decode cX1_between 5 = .ok (.if_icmp .lt 12, 3) := dk_161 0 12 (dk_at dksX1_between_0 5 rfl rfl)
theorem dX1_between_8 : decode cX1_between 8 = .ok (.aload_n 0, 1) := dk_42 (dk_at dksX1_between_0 8 rfl rfl)
theorem dX1_between_9 : decode cX1_between 9 = .ok (.getfield 18, 3) := dk_180 0 18 (dk_at dksX1_between_0 9 rfl rfl)
theorem dX1_between_12 : decode cX1_between 12 = .ok (.bipush 15, 2) := dk_16 15 (dk_at dksX1_between_0 12 rfl rfl)
theorem dX1_between_14 : decode cX1_between 14 = .ok (.if_icmp .lt 5, 3) := dk_161 0 5 (dk_at dksX1_between_0 14 rfl rfl)
theorem dX1_between_17 : decode cX1_between 17 = .ok (.iconst 0, 1) := dk_3 (dk_at dksX1_between_0 17 rfl rfl)
theorem dX1_between_18 : decode cX1_between 18 = .ok (.ireturn, 1) := dk_172 (dk_at dksX1_between_0 18 rfl rfl)
theorem dX1_between_19 : decode cX1_between 19 = .ok (.aload_n 0, 1) := dk_42 (dk_at dksX1_between_0 19 rfl rfl)
theorem dX1_between_20 : decode cX1_between 20 = .ok (.iload_n 1, 1) := dk_27 (dk_at dksX1_between_0 20 rfl rfl)
theorem dX1_between_21 : decode cX1_between 21 = .ok (.invokevirtual 26, 3) := dk_182 0 26 (dk_at dksX1_between_0 21 rfl rfl)
theorem dX1_between_24 : decode cX1_between 24 = .ok (.astore 4, 2) := dk_58 4 (dk_at dksX1_between_1 0 rfl rfl)
theorem dX1_between_26 : decode cX1_between 26 = .ok (.aload_n 0, 1) := dk_42 (dk_at dksX1_between_1 2 rfl rfl)
theorem dX1_between_27 : decode cX1_between 27 = .ok (.iload_n 2, 1) := dk_28 (dk_at dksX1_between_1 3 rfl rfl)
theorem dX1_between_28 : decode cX1_between 28 = .ok (.invokevirtual 26, 3) := dk_182 0 26 (dk_at dksX1_between_1 4 rfl rfl)
theorem dX1_between_31 : decode cX1_between 31 = .ok (.astore 5, 2) := dk_58 5 (dk_at dksX1_between_1 7 rfl rfl)
theorem dX1_between_33 : decode cX1_between 33 = .ok (.aload 4, 2) := dk_25 4 (dk_at dksX1_between_1 9 rfl rfl)
theorem dX1_between_35 : decode cX1_between 35 = .ok (.getfield 30, 3) := dk_180 0 30 (dk_at dksX1_between_1 11 rfl rfl)
theorem dX1_between_38 : decode cX1_between 38 = .ok (.d2l, 1) := dk_143 (dk_at dksX1_between_1 14 rfl rfl)
theorem dX1_between_39 : decode cX1_between 39 = .ok (.ldc2_w 34, 3) := dk_20 0 34 (dk_at dksX1_between_1 15 rfl rfl)
theorem dX1_between_42 : decode cX1_between 42 = .ok (.lmul, 1) := dk_105 (dk_at dksX1_between_1 18 rfl rfl)
theorem dX1_between_43 : decode cX1_between 43 = .ok (.aload 5, 2) := dk_25 5 (dk_at dksX1_between_1 19 rfl rfl)
theorem dX1_between_45 : decode cX1_between 45 = .ok (.getfield 30, 3) := dk_180 0 30 (dk_at dksX1_between_1 21 rfl rfl)
theorem dX1_between_48 : decode cX1_between 48 = .ok (.d2l, 1) := dk_143 (dk_at dksX1_between_2 0 rfl rfl)
theorem dX1_between_49 : decode cX1_between 49 = .ok (.aload 4, 2) := dk_25 4 (dk_at dksX1_between_2 1 rfl rfl)
theorem dX1_between_51 : decode cX1_between 51 = .ok (.getfield 30, 3) := dk_180 0 30 (dk_at dksX1_between_2 3 rfl rfl)
theorem dX1_between_54 : decode cX1_between 54 = .ok (.d2l, 1) := dk_143 (dk_at dksX1_between_2 6 rfl rfl)
theorem dX1_between_55 : decode cX1_between 55 = .ok (.lsub, 1) := dk_101 (dk_at dksX1_between_2 7 rfl rfl)
theorem dX1_between_56 : decode cX1_between 56 = .ok (.iload_n 3, 1) := dk_29 (dk_at dksX1_between_2 8 rfl rfl)
theorem dX1_between_57 : decode cX1_between 57 = .ok (.bipush 7, 2) := dk_16 7 (dk_at dksX1_between_2 9 rfl rfl)
theorem dX1_between_59 : decode cX1_between 59 = .ok (.iand, 1) := dk_126 (dk_at dksX1_between_2 11 rfl rfl)
theorem dX1_between_60 : decode cX1_between 60 = .ok (.i2l, 1) := dk_133 (dk_at dksX1_between_2 12 rfl rfl)
theorem dX1_between_61 : decode cX1_between 61 = .ok (.lmul, 1) := dk_105 (dk_at dksX1_between_2 13 rfl rfl)
theorem dX1_between_62 : decode cX1_between 62 = .ok (.ladd, 1) := dk_97 (dk_at dksX1_between_2 14 rfl rfl)
theorem dX1_between_63 : decode cX1_between 63 = .ok (.lstore 6, 2) := dk_55 6 (dk_at dksX1_between_2 15 rfl rfl)
theorem dX1_between_65 : decode cX1_between 65 = .ok (.aload 4, 2) := dk_25 4 (dk_at dksX1_between_2 17 rfl rfl)
theorem dX1_between_67 : decode cX1_between 67 = .ok (.getfield 36, 3) := dk_180 0 36 (dk_at dksX1_between_2 19 rfl rfl)
theorem dX1_between_70 : decode cX1_between 70 = .ok (.d2l, 1) := dk_143 (dk_at dksX1_between_2 22 rfl rfl)
theorem dX1_between_71 : decode cX1_between 71 = .ok (.ldc2_w 34, 3) := dk_20 0 34 (dk_at dksX1_between_3 0 rfl rfl)
theorem dX1_between_74 : decode cX1_between 74 = .ok (.lmul, 1) := dk_105 (dk_at dksX1_between_3 3 rfl rfl)
theorem dX1_between_75 : decode cX1_between 75 = .ok (.aload 5, 2) := dk_25 5 (dk_at dksX1_between_3 4 rfl rfl)
theorem dX1_between_77 : decode cX1_between 77 = .ok (.getfield 36, 3) := dk_180 0 36 (dk_at dksX1_between_3 6 rfl rfl)
theorem dX1_between_80 : decode cX1_between 80 = .ok (.d2l, 1) := dk_143 (dk_at dksX1_between_3 9 rfl rfl)
theorem dX1_between_81 : decode cX1_between 81 = .ok (.aload 4, 2) := dk_25 4 (dk_at dksX1_between_3 10 rfl rfl)
theorem dX1_between_83 : decode cX1_between 83 = .ok (.getfield 36, 3) := dk_180 0 36 (dk_at dksX1_between_3 12 rfl rfl)
theorem dX1_between_86 : decode cX1_between 86 = .ok (.d2l, 1) := dk_143 (dk_at dksX1_between_3 15 rfl rfl)
theorem dX1_between_87 : decode cX1_between 87 = .ok (.lsub, 1) := dk_101 (dk_at dksX1_between_3 16 rfl rfl)
theorem dX1_between_88 : decode cX1_between 88 = .ok (.iload_n 3, 1) := dk_29 (dk_at dksX1_between_3 17 rfl rfl)
theorem dX1_between_89 : decode cX1_between 89 = .ok (.bipush 7, 2) := dk_16 7 (dk_at dksX1_between_3 18 rfl rfl)
theorem dX1_between_91 : decode cX1_between 91 = .ok (.iand, 1) := dk_126 (dk_at dksX1_between_3 20 rfl rfl)
theorem dX1_between_92 : decode cX1_between 92 = .ok (.i2l, 1) := dk_133 (dk_at dksX1_between_3 21 rfl rfl)
theorem dX1_between_93 : decode cX1_between 93 = .ok (.lmul, 1) := dk_105 (dk_at dksX1_between_3 22 rfl rfl)
theorem dX1_between_94 : decode cX1_between 94 = .ok (.ladd, 1) := dk_97 (dk_at dksX1_between_3 23 rfl rfl)
theorem dX1_between_95 : decode cX1_between 95 = .ok (.lstore 8, 2) := dk_55 8 (dk_at dksX1_between_4 0 rfl rfl)
theorem dX1_between_97 : decode cX1_between 97 = .ok (.aload_n 0, 1) := dk_42 (dk_at dksX1_between_4 2 rfl rfl)
theorem dX1_between_98 : decode cX1_between 98 = .ok (.getfield 9, 3) := dk_180 0 9 (dk_at dksX1_between_4 3 rfl rfl)
theorem dX1_between_101 : decode cX1_between 101 = .ok (.aload_n 0, 1) := dk_42 (dk_at dksX1_between_4 6 rfl rfl)
theorem dX1_between_102 : decode cX1_between 102 = .ok (.getfield 18, 3) := dk_180 0 18 (dk_at dksX1_between_4 7 rfl rfl)
theorem dX1_between_105 : decode cX1_between 105 = .ok (.new 7, 3) := dk_187 0 7 (dk_at dksX1_between_4 10 rfl rfl)
theorem dX1_between_108 : decode cX1_between 108 = .ok (.dup, 1) := dk_89 (dk_at dksX1_between_4 13 rfl rfl)
theorem dX1_between_109 : decode cX1_between 109 = .ok (.lload 6, 2) := dk_22 6 (dk_at dksX1_between_4 14 rfl rfl)
theorem dX1_between_111 : decode cX1_between 111 = .ok (.iconst 3, 1) := dk_6 (dk_at dksX1_between_4 16 rfl rfl)
theorem dX1_between_112 : decode cX1_between 112 = .ok (.lshr, 1) := dk_123 (dk_at dksX1_between_4 17 rfl rfl)
theorem dX1_between_113 : decode cX1_between 113 = .ok (.l2d, 1) := dk_138 (dk_at dksX1_between_4 18 rfl rfl)
theorem dX1_between_114 : decode cX1_between 114 = .ok (.lload 8, 2) := dk_22 8 (dk_at dksX1_between_4 19 rfl rfl)
theorem dX1_between_116 : decode cX1_between 116 = .ok (.iconst 3, 1) := dk_6 (dk_at dksX1_between_4 21 rfl rfl)
theorem dX1_between_117 : decode cX1_between 117 = .ok (.lshr, 1) := dk_123 (dk_at dksX1_between_4 22 rfl rfl)
theorem dX1_between_118 : decode cX1_between 118 = .ok (.l2d, 1) := dk_138 (dk_at dksX1_between_4 23 rfl rfl)
theorem dX1_between_119 : decode cX1_between 119 = .ok (.invokespecial 15, 3) := dk_183 0 15 (dk_at dksX1_between_5 0 rfl rfl)
theorem dX1_between_122 : decode cX1_between 122 = .ok (.aastore, 1) := dk_83 (dk_at dksX1_between_5 3 rfl rfl)
theorem dX1_between_123 : decode cX1_between 123 = .ok (.aload_n 0, 1) := dk_42 (dk_at dksX1_between_5 4 rfl rfl)
theorem dX1_between_124 : decode cX1_between 124 = .ok (.dup, 1) := dk_89 (dk_at dksX1_between_5 5 rfl rfl)
theorem dX1_between_125 : decode cX1_between 125 = .ok (.getfield 18, 3) := dk_180 0 18 (dk_at dksX1_between_5 6 rfl rfl)
theorem dX1_between_128 : decode cX1_between 128 = .ok (.iconst 1, 1) := dk_4 (dk_at dksX1_between_5 9 rfl rfl)
theorem dX1_between_129 : decode cX1_between 129 = .ok (.iadd, 1) := dk_96 (dk_at dksX1_between_5 10 rfl rfl)
theorem dX1_between_130 : decode cX1_between 130 = .ok (.putfield 18, 3) := dk_181 0 18 (dk_at dksX1_between_5 11 rfl rfl)
theorem dX1_between_133 : decode cX1_between 133 = .ok (.iconst 1, 1) := dk_4 (dk_at dksX1_between_5 14 rfl rfl)
theorem dX1_between_134 : decode cX1_between 134 = .ok (.ireturn, 1) := dk_172 (dk_at dksX1_between_5 15 rfl rfl)
abbrev cX1_at : ByteArray := prog_7_method_7_code
def yX1_at : MethodName := ⟨RX1, "at", "(I)LCoordinate;"⟩
def dkwX1_at_0 : List UInt8 := [42, 180, 0, 9, 27, 18, 39, 126, 42, 180, 0, 18, 112, 50, 176]
abbrev dktX1_at_0 : List UInt8 := dkwX1_at_0 ++ []
theorem dksX1_at_0 : cX1_at.data.toList.drop 0 = dktX1_at_0 := by decide +kernel
theorem dX1_at_0 : decode cX1_at 0 = .ok (.aload_n 0, 1) := dk_42 (dk_at dksX1_at_0 0 rfl rfl)
theorem dX1_at_1 : decode cX1_at 1 = .ok (.getfield 9, 3) := dk_180 0 9 (dk_at dksX1_at_0 1 rfl rfl)
theorem dX1_at_4 : decode cX1_at 4 = .ok (.iload_n 1, 1) := dk_27 (dk_at dksX1_at_0 4 rfl rfl)
theorem dX1_at_5 : decode cX1_at 5 = .ok (.ldc 39, 2) := dk_18 39 (dk_at dksX1_at_0 5 rfl rfl)
theorem dX1_at_7 : decode cX1_at 7 = .ok (.iand, 1) := dk_126 (dk_at dksX1_at_0 7 rfl rfl)
theorem dX1_at_8 : decode cX1_at 8 = .ok (.aload_n 0, 1) := dk_42 (dk_at dksX1_at_0 8 rfl rfl)
theorem dX1_at_9 : decode cX1_at 9 = .ok (.getfield 18, 3) := dk_180 0 18 (dk_at dksX1_at_0 9 rfl rfl)
theorem dX1_at_12 : decode cX1_at 12 = .ok (.irem, 1) := dk_112 (dk_at dksX1_at_0 12 rfl rfl)
theorem dX1_at_13 : decode cX1_at 13 = .ok (.aaload, 1) := dk_50 (dk_at dksX1_at_0 13 rfl rfl)
theorem dX1_at_14 : decode cX1_at 14 = .ok (.areturn, 1) := dk_176 (dk_at dksX1_at_0 14 rfl rfl)
abbrev cX1_wipe : ByteArray := prog_7_method_6_code
def yX1_wipe : MethodName := ⟨RX1, "wipe", "()V"⟩
def dkwX1_wipe_0 : List UInt8 := [42, 3, 181, 0, 18, 177]
abbrev dktX1_wipe_0 : List UInt8 := dkwX1_wipe_0 ++ []
theorem dksX1_wipe_0 : cX1_wipe.data.toList.drop 0 = dktX1_wipe_0 := by decide +kernel
theorem dX1_wipe_0 : decode cX1_wipe 0 = .ok (.aload_n 0, 1) := dk_42 (dk_at dksX1_wipe_0 0 rfl rfl)
theorem dX1_wipe_1 : decode cX1_wipe 1 = .ok (.iconst 0, 1) := dk_3 (dk_at dksX1_wipe_0 1 rfl rfl)
theorem dX1_wipe_2 : decode cX1_wipe 2 = .ok (.putfield 18, 3) := dk_181 0 18 (dk_at dksX1_wipe_0 2 rfl rfl)
theorem dX1_wipe_5 : decode cX1_wipe 5 = .ok (.return_, 1) := dk_177 (dk_at dksX1_wipe_0 5 rfl rfl)
abbrev cX1_turn : ByteArray := prog_7_method_8_code
def yX1_turn : MethodName := ⟨RX1, "turn", "(III)I"⟩
def dkwX1_turn_1 : List UInt8 := [182, 0, 26, 184, 0, 40, 172]
abbrev dktX1_turn_1 : List UInt8 := dkwX1_turn_1 ++ []
def dkwX1_turn_0 : List UInt8 := [42, 180, 0, 18, 154, 0, 8, 16, 247, 167, 0, 21, 42, 27, 182, 0, 26, 42, 28, 182, 0, 26, 42, 29]
abbrev dktX1_turn_0 : List UInt8 := dkwX1_turn_0 ++ dktX1_turn_1
theorem dksX1_turn_0 : cX1_turn.data.toList.drop 0 = dktX1_turn_0 := by decide +kernel
theorem dksX1_turn_1 : cX1_turn.data.toList.drop 24 = dktX1_turn_1 := dk_seg dksX1_turn_0 24 rfl rfl
theorem dX1_turn_0 : decode cX1_turn 0 = .ok (.aload_n 0, 1) := dk_42 (dk_at dksX1_turn_0 0 rfl rfl)
theorem dX1_turn_1 : decode cX1_turn 1 = .ok (.getfield 18, 3) := dk_180 0 18 (dk_at dksX1_turn_0 1 rfl rfl)
theorem dX1_turn_4 : decode cX1_turn 4 = .ok (.ifCond .ne 8, 3) := dk_154 0 8 (dk_at dksX1_turn_0 4 rfl rfl)
theorem dX1_turn_7 : decode cX1_turn 7 = .ok (.bipush (-9), 2) := dk_16 247 (dk_at dksX1_turn_0 7 rfl rfl)
theorem dX1_turn_9 : decode cX1_turn 9 = .ok (.goto 21, 3) := dk_167 0 21 (dk_at dksX1_turn_0 9 rfl rfl)
theorem dX1_turn_12 : decode cX1_turn 12 = .ok (.aload_n 0, 1) := dk_42 (dk_at dksX1_turn_0 12 rfl rfl)
theorem dX1_turn_13 : decode cX1_turn 13 = .ok (.iload_n 1, 1) := dk_27 (dk_at dksX1_turn_0 13 rfl rfl)
theorem dX1_turn_14 : decode cX1_turn 14 = .ok (.invokevirtual 26, 3) := dk_182 0 26 (dk_at dksX1_turn_0 14 rfl rfl)
theorem dX1_turn_17 : decode cX1_turn 17 = .ok (.aload_n 0, 1) := dk_42 (dk_at dksX1_turn_0 17 rfl rfl)
theorem dX1_turn_18 : decode cX1_turn 18 = .ok (.iload_n 2, 1) := dk_28 (dk_at dksX1_turn_0 18 rfl rfl)
theorem dX1_turn_19 : decode cX1_turn 19 = .ok (.invokevirtual 26, 3) := dk_182 0 26 (dk_at dksX1_turn_0 19 rfl rfl)
theorem dX1_turn_22 : decode cX1_turn 22 = .ok (.aload_n 0, 1) := dk_42 (dk_at dksX1_turn_0 22 rfl rfl)
theorem dX1_turn_23 : decode cX1_turn 23 = .ok (.iload_n 3, 1) := dk_29 (dk_at dksX1_turn_0 23 rfl rfl)
theorem dX1_turn_24 : decode cX1_turn 24 = .ok (.invokevirtual 26, 3) := dk_182 0 26 (dk_at dksX1_turn_1 0 rfl rfl)
theorem dX1_turn_27 : decode cX1_turn 27 = .ok (.invokestatic 40, 3) := dk_184 0 40 (dk_at dksX1_turn_1 3 rfl rfl)
theorem dX1_turn_30 : decode cX1_turn 30 = .ok (.ireturn, 1) := dk_172 (dk_at dksX1_turn_1 6 rfl rfl)
abbrev cX1_within : ByteArray := prog_7_method_9_code
def yX1_within : MethodName := ⟨RX1, "within", "(II)I"⟩
def dkwX1_within_0 : List UInt8 := [42, 180, 0, 18, 6, 162, 0, 8, 16, 247, 167, 0, 12, 42, 27, 28, 184, 0, 22, 182, 0, 46, 172]
abbrev dktX1_within_0 : List UInt8 := dkwX1_within_0 ++ []
theorem dksX1_within_0 : cX1_within.data.toList.drop 0 = dktX1_within_0 := by decide +kernel
theorem dX1_within_0 : decode cX1_within 0 = .ok (.aload_n 0, 1) := dk_42 (dk_at dksX1_within_0 0 rfl rfl)
theorem dX1_within_1 : decode cX1_within 1 = .ok (.getfield 18, 3) := dk_180 0 18 (dk_at dksX1_within_0 1 rfl rfl)
theorem dX1_within_4 : decode cX1_within 4 = .ok (.iconst 3, 1) := dk_6 (dk_at dksX1_within_0 4 rfl rfl)
theorem dX1_within_5 : decode cX1_within 5 = .ok (.if_icmp .ge 8, 3) := dk_162 0 8 (dk_at dksX1_within_0 5 rfl rfl)
theorem dX1_within_8 : decode cX1_within 8 = .ok (.bipush (-9), 2) := dk_16 247 (dk_at dksX1_within_0 8 rfl rfl)
theorem dX1_within_10 : decode cX1_within 10 = .ok (.goto 12, 3) := dk_167 0 12 (dk_at dksX1_within_0 10 rfl rfl)
theorem dX1_within_13 : decode cX1_within 13 = .ok (.aload_n 0, 1) := dk_42 (dk_at dksX1_within_0 13 rfl rfl)
theorem dX1_within_14 : decode cX1_within 14 = .ok (.iload_n 1, 1) := dk_27 (dk_at dksX1_within_0 14 rfl rfl)
theorem dX1_within_15 : decode cX1_within 15 = .ok (.iload_n 2, 1) := dk_28 (dk_at dksX1_within_0 15 rfl rfl)
theorem dX1_within_16 : decode cX1_within 16 = .ok (.invokestatic 22, 3) := dk_184 0 22 (dk_at dksX1_within_0 16 rfl rfl)
theorem dX1_within_19 : decode cX1_within 19 = .ok (.invokevirtual 46, 3) := dk_182 0 46 (dk_at dksX1_within_0 19 rfl rfl)
theorem dX1_within_22 : decode cX1_within 22 = .ok (.ireturn, 1) := dk_172 (dk_at dksX1_within_0 22 rfl rfl)
abbrev cX1_place : ByteArray := prog_7_method_11_code
def yX1_place : MethodName := ⟨RX1, "place", "(LCoordinate;)I"⟩
def dkwX1_place_3 : List UInt8 := [172]
abbrev dktX1_place_3 : List UInt8 := dkwX1_place_3 ++ []
def dkwX1_place_2 : List UInt8 := [43, 44, 184, 0, 50, 62, 29, 154, 0, 7, 3, 167, 0, 13, 29, 4, 160, 0, 7, 4, 167, 0, 4, 5]
abbrev dktX1_place_2 : List UInt8 := dkwX1_place_2 ++ dktX1_place_3
def dkwX1_place_1 : List UInt8 := [180, 0, 9, 29, 50, 83, 132, 3, 1, 167, 255, 236, 44, 42, 180, 0, 18, 42, 180, 0, 9, 3, 50, 83]
abbrev dktX1_place_1 : List UInt8 := dkwX1_place_1 ++ dktX1_place_2
def dkwX1_place_0 : List UInt8 := [42, 180, 0, 18, 4, 96, 189, 0, 7, 77, 3, 62, 29, 42, 180, 0, 18, 162, 0, 18, 44, 29, 42]
abbrev dktX1_place_0 : List UInt8 := dkwX1_place_0 ++ dktX1_place_1
theorem dksX1_place_0 : cX1_place.data.toList.drop 0 = dktX1_place_0 := by decide +kernel
theorem dksX1_place_1 : cX1_place.data.toList.drop 23 = dktX1_place_1 := dk_seg dksX1_place_0 23 rfl rfl
theorem dksX1_place_2 : cX1_place.data.toList.drop 47 = dktX1_place_2 := dk_seg dksX1_place_1 24 rfl rfl
theorem dksX1_place_3 : cX1_place.data.toList.drop 71 = dktX1_place_3 := dk_seg dksX1_place_2 24 rfl rfl
theorem dX1_place_0 : decode cX1_place 0 = .ok (.aload_n 0, 1) := dk_42 (dk_at dksX1_place_0 0 rfl rfl)
theorem dX1_place_1 : decode cX1_place 1 = .ok (.getfield 18, 3) := dk_180 0 18 (dk_at dksX1_place_0 1 rfl rfl)
theorem dX1_place_4 : decode cX1_place 4 = .ok (.iconst 1, 1) := dk_4 (dk_at dksX1_place_0 4 rfl rfl)
theorem dX1_place_5 : decode cX1_place 5 = .ok (.iadd, 1) := dk_96 (dk_at dksX1_place_0 5 rfl rfl)
theorem dX1_place_6 : decode cX1_place 6 = .ok (.anewarray 7, 3) := dk_189 0 7 (dk_at dksX1_place_0 6 rfl rfl)
theorem dX1_place_9 : decode cX1_place 9 = .ok (.astore_n 2, 1) := dk_77 (dk_at dksX1_place_0 9 rfl rfl)
theorem dX1_place_10 : decode cX1_place 10 = .ok (.iconst 0, 1) := dk_3 (dk_at dksX1_place_0 10 rfl rfl)
theorem dX1_place_11 : decode cX1_place 11 = .ok (.istore_n 3, 1) := dk_62 (dk_at dksX1_place_0 11 rfl rfl)
theorem dX1_place_12 : decode cX1_place 12 = .ok (.iload_n 3, 1) := dk_29 (dk_at dksX1_place_0 12 rfl rfl)
theorem dX1_place_13 : decode cX1_place 13 = .ok (.aload_n 0, 1) := dk_42 (dk_at dksX1_place_0 13 rfl rfl)
theorem dX1_place_14 : decode cX1_place 14 = .ok (.getfield 18, 3) := dk_180 0 18 (dk_at dksX1_place_0 14 rfl rfl)
theorem dX1_place_17 : decode cX1_place 17 = .ok (.if_icmp .ge 18, 3) := dk_162 0 18 (dk_at dksX1_place_0 17 rfl rfl)
theorem dX1_place_20 : decode cX1_place 20 = .ok (.aload_n 2, 1) := dk_44 (dk_at dksX1_place_0 20 rfl rfl)
theorem dX1_place_21 : decode cX1_place 21 = .ok (.iload_n 3, 1) := dk_29 (dk_at dksX1_place_0 21 rfl rfl)
theorem dX1_place_22 : decode cX1_place 22 = .ok (.aload_n 0, 1) := dk_42 (dk_at dksX1_place_0 22 rfl rfl)
theorem dX1_place_23 : decode cX1_place 23 = .ok (.getfield 9, 3) := dk_180 0 9 (dk_at dksX1_place_1 0 rfl rfl)
theorem dX1_place_26 : decode cX1_place 26 = .ok (.iload_n 3, 1) := dk_29 (dk_at dksX1_place_1 3 rfl rfl)
theorem dX1_place_27 : decode cX1_place 27 = .ok (.aaload, 1) := dk_50 (dk_at dksX1_place_1 4 rfl rfl)
theorem dX1_place_28 : decode cX1_place 28 = .ok (.aastore, 1) := dk_83 (dk_at dksX1_place_1 5 rfl rfl)
theorem dX1_place_29 : decode cX1_place 29 = .ok (.iinc 3 1, 3) := dk_132 3 1 (dk_at dksX1_place_1 6 rfl rfl)
theorem dX1_place_32 : decode cX1_place 32 = .ok (.goto (-20), 3) := dk_167 255 236 (dk_at dksX1_place_1 9 rfl rfl)
theorem dX1_place_35 : decode cX1_place 35 = .ok (.aload_n 2, 1) := dk_44 (dk_at dksX1_place_1 12 rfl rfl)
theorem dX1_place_36 : decode cX1_place 36 = .ok (.aload_n 0, 1) := dk_42 (dk_at dksX1_place_1 13 rfl rfl)
theorem dX1_place_37 : decode cX1_place 37 = .ok (.getfield 18, 3) := dk_180 0 18 (dk_at dksX1_place_1 14 rfl rfl)
theorem dX1_place_40 : decode cX1_place 40 = .ok (.aload_n 0, 1) := dk_42 (dk_at dksX1_place_1 17 rfl rfl)
theorem dX1_place_41 : decode cX1_place 41 = .ok (.getfield 9, 3) := dk_180 0 9 (dk_at dksX1_place_1 18 rfl rfl)
theorem dX1_place_44 : decode cX1_place 44 = .ok (.iconst 0, 1) := dk_3 (dk_at dksX1_place_1 21 rfl rfl)
theorem dX1_place_45 : decode cX1_place 45 = .ok (.aaload, 1) := dk_50 (dk_at dksX1_place_1 22 rfl rfl)
theorem dX1_place_46 : decode cX1_place 46 = .ok (.aastore, 1) := dk_83 (dk_at dksX1_place_1 23 rfl rfl)
theorem dX1_place_47 : decode cX1_place 47 = .ok (.aload_n 1, 1) := dk_43 (dk_at dksX1_place_2 0 rfl rfl)
theorem dX1_place_48 : decode cX1_place 48 = .ok (.aload_n 2, 1) := dk_44 (dk_at dksX1_place_2 1 rfl rfl)
theorem dX1_place_49 : decode cX1_place 49 = .ok (.invokestatic 50, 3) := dk_184 0 50 (dk_at dksX1_place_2 2 rfl rfl)
theorem dX1_place_52 : decode cX1_place 52 = .ok (.istore_n 3, 1) := dk_62 (dk_at dksX1_place_2 5 rfl rfl)
theorem dX1_place_53 : decode cX1_place 53 = .ok (.iload_n 3, 1) := dk_29 (dk_at dksX1_place_2 6 rfl rfl)
theorem dX1_place_54 : decode cX1_place 54 = .ok (.ifCond .ne 7, 3) := dk_154 0 7 (dk_at dksX1_place_2 7 rfl rfl)
theorem dX1_place_57 : decode cX1_place 57 = .ok (.iconst 0, 1) := dk_3 (dk_at dksX1_place_2 10 rfl rfl)
theorem dX1_place_58 : decode cX1_place 58 = .ok (.goto 13, 3) := dk_167 0 13 (dk_at dksX1_place_2 11 rfl rfl)
theorem dX1_place_61 : decode cX1_place 61 = .ok (.iload_n 3, 1) := dk_29 (dk_at dksX1_place_2 14 rfl rfl)
theorem dX1_place_62 : decode cX1_place 62 = .ok (.iconst 1, 1) := dk_4 (dk_at dksX1_place_2 15 rfl rfl)
theorem dX1_place_63 : decode cX1_place 63 = .ok (.if_icmp .ne 7, 3) := dk_160 0 7 (dk_at dksX1_place_2 16 rfl rfl)
theorem dX1_place_66 : decode cX1_place 66 = .ok (.iconst 1, 1) := dk_4 (dk_at dksX1_place_2 19 rfl rfl)
theorem dX1_place_67 : decode cX1_place 67 = .ok (.goto 4, 3) := dk_167 0 4 (dk_at dksX1_place_2 20 rfl rfl)
theorem dX1_place_70 : decode cX1_place 70 = .ok (.iconst 2, 1) := dk_5 (dk_at dksX1_place_2 23 rfl rfl)
theorem dX1_place_71 : decode cX1_place 71 = .ok (.ireturn, 1) := dk_172 (dk_at dksX1_place_3 0 rfl rfl)
abbrev cX1_own : ByteArray := prog_7_method_10_code
def yX1_own : MethodName := ⟨RX1, "own", "(II)I"⟩
def dkwX1_own_2 : List UInt8 := [143, 25, 4, 180, 0, 36, 143, 97, 4, 123, 138, 183, 0, 15, 182, 0, 46, 172]
abbrev dktX1_own_2 : List UInt8 := dkwX1_own_2 ++ []
def dkwX1_own_1 : List UInt8 := [42, 187, 0, 7, 89, 45, 180, 0, 30, 143, 25, 4, 180, 0, 30, 143, 97, 4, 123, 138, 45, 180, 0, 36]
abbrev dktX1_own_1 : List UInt8 := dkwX1_own_1 ++ dktX1_own_2
def dkwX1_own_0 : List UInt8 := [42, 180, 0, 18, 6, 162, 0, 6, 16, 247, 172, 42, 27, 182, 0, 26, 78, 42, 28, 182, 0, 26, 58, 4]
abbrev dktX1_own_0 : List UInt8 := dkwX1_own_0 ++ dktX1_own_1
theorem dksX1_own_0 : cX1_own.data.toList.drop 0 = dktX1_own_0 := by decide +kernel
theorem dksX1_own_1 : cX1_own.data.toList.drop 24 = dktX1_own_1 := dk_seg dksX1_own_0 24 rfl rfl
theorem dksX1_own_2 : cX1_own.data.toList.drop 48 = dktX1_own_2 := dk_seg dksX1_own_1 24 rfl rfl
theorem dX1_own_0 : decode cX1_own 0 = .ok (.aload_n 0, 1) := dk_42 (dk_at dksX1_own_0 0 rfl rfl)
theorem dX1_own_1 : decode cX1_own 1 = .ok (.getfield 18, 3) := dk_180 0 18 (dk_at dksX1_own_0 1 rfl rfl)
theorem dX1_own_4 : decode cX1_own 4 = .ok (.iconst 3, 1) := dk_6 (dk_at dksX1_own_0 4 rfl rfl)
theorem dX1_own_5 : decode cX1_own 5 = .ok (.if_icmp .ge 6, 3) := dk_162 0 6 (dk_at dksX1_own_0 5 rfl rfl)
theorem dX1_own_8 : decode cX1_own 8 = .ok (.bipush (-9), 2) := dk_16 247 (dk_at dksX1_own_0 8 rfl rfl)
theorem dX1_own_10 : decode cX1_own 10 = .ok (.ireturn, 1) := dk_172 (dk_at dksX1_own_0 10 rfl rfl)
theorem dX1_own_11 : decode cX1_own 11 = .ok (.aload_n 0, 1) := dk_42 (dk_at dksX1_own_0 11 rfl rfl)
theorem dX1_own_12 : decode cX1_own 12 = .ok (.iload_n 1, 1) := dk_27 (dk_at dksX1_own_0 12 rfl rfl)
theorem dX1_own_13 : decode cX1_own 13 = .ok (.invokevirtual 26, 3) := dk_182 0 26 (dk_at dksX1_own_0 13 rfl rfl)
theorem dX1_own_16 : decode cX1_own 16 = .ok (.astore_n 3, 1) := dk_78 (dk_at dksX1_own_0 16 rfl rfl)
theorem dX1_own_17 : decode cX1_own 17 = .ok (.aload_n 0, 1) := dk_42 (dk_at dksX1_own_0 17 rfl rfl)
theorem dX1_own_18 : decode cX1_own 18 = .ok (.iload_n 2, 1) := dk_28 (dk_at dksX1_own_0 18 rfl rfl)
theorem dX1_own_19 : decode cX1_own 19 = .ok (.invokevirtual 26, 3) := dk_182 0 26 (dk_at dksX1_own_0 19 rfl rfl)
theorem dX1_own_22 : decode cX1_own 22 = .ok (.astore 4, 2) := dk_58 4 (dk_at dksX1_own_0 22 rfl rfl)
theorem dX1_own_24 : decode cX1_own 24 = .ok (.aload_n 0, 1) := dk_42 (dk_at dksX1_own_1 0 rfl rfl)
theorem dX1_own_25 : decode cX1_own 25 = .ok (.new 7, 3) := dk_187 0 7 (dk_at dksX1_own_1 1 rfl rfl)
theorem dX1_own_28 : decode cX1_own 28 = .ok (.dup, 1) := dk_89 (dk_at dksX1_own_1 4 rfl rfl)
theorem dX1_own_29 : decode cX1_own 29 = .ok (.aload_n 3, 1) := dk_45 (dk_at dksX1_own_1 5 rfl rfl)
theorem dX1_own_30 : decode cX1_own 30 = .ok (.getfield 30, 3) := dk_180 0 30 (dk_at dksX1_own_1 6 rfl rfl)
theorem dX1_own_33 : decode cX1_own 33 = .ok (.d2l, 1) := dk_143 (dk_at dksX1_own_1 9 rfl rfl)
theorem dX1_own_34 : decode cX1_own 34 = .ok (.aload 4, 2) := dk_25 4 (dk_at dksX1_own_1 10 rfl rfl)
theorem dX1_own_36 : decode cX1_own 36 = .ok (.getfield 30, 3) := dk_180 0 30 (dk_at dksX1_own_1 12 rfl rfl)
theorem dX1_own_39 : decode cX1_own 39 = .ok (.d2l, 1) := dk_143 (dk_at dksX1_own_1 15 rfl rfl)
theorem dX1_own_40 : decode cX1_own 40 = .ok (.ladd, 1) := dk_97 (dk_at dksX1_own_1 16 rfl rfl)
theorem dX1_own_41 : decode cX1_own 41 = .ok (.iconst 1, 1) := dk_4 (dk_at dksX1_own_1 17 rfl rfl)
theorem dX1_own_42 : decode cX1_own 42 = .ok (.lshr, 1) := dk_123 (dk_at dksX1_own_1 18 rfl rfl)
theorem dX1_own_43 : decode cX1_own 43 = .ok (.l2d, 1) := dk_138 (dk_at dksX1_own_1 19 rfl rfl)
theorem dX1_own_44 : decode cX1_own 44 = .ok (.aload_n 3, 1) := dk_45 (dk_at dksX1_own_1 20 rfl rfl)
theorem dX1_own_45 : decode cX1_own 45 = .ok (.getfield 36, 3) := dk_180 0 36 (dk_at dksX1_own_1 21 rfl rfl)
theorem dX1_own_48 : decode cX1_own 48 = .ok (.d2l, 1) := dk_143 (dk_at dksX1_own_2 0 rfl rfl)
theorem dX1_own_49 : decode cX1_own 49 = .ok (.aload 4, 2) := dk_25 4 (dk_at dksX1_own_2 1 rfl rfl)
theorem dX1_own_51 : decode cX1_own 51 = .ok (.getfield 36, 3) := dk_180 0 36 (dk_at dksX1_own_2 3 rfl rfl)
theorem dX1_own_54 : decode cX1_own 54 = .ok (.d2l, 1) := dk_143 (dk_at dksX1_own_2 6 rfl rfl)
theorem dX1_own_55 : decode cX1_own 55 = .ok (.ladd, 1) := dk_97 (dk_at dksX1_own_2 7 rfl rfl)
theorem dX1_own_56 : decode cX1_own 56 = .ok (.iconst 1, 1) := dk_4 (dk_at dksX1_own_2 8 rfl rfl)
theorem dX1_own_57 : decode cX1_own 57 = .ok (.lshr, 1) := dk_123 (dk_at dksX1_own_2 9 rfl rfl)
theorem dX1_own_58 : decode cX1_own 58 = .ok (.l2d, 1) := dk_138 (dk_at dksX1_own_2 10 rfl rfl)
theorem dX1_own_59 : decode cX1_own 59 = .ok (.invokespecial 15, 3) := dk_183 0 15 (dk_at dksX1_own_2 11 rfl rfl)
theorem dX1_own_62 : decode cX1_own 62 = .ok (.invokevirtual 46, 3) := dk_182 0 46 (dk_at dksX1_own_2 14 rfl rfl)
theorem dX1_own_65 : decode cX1_own 65 = .ok (.ireturn, 1) := dk_172 (dk_at dksX1_own_2 17 rfl rfl)
theorem q6 : (Jvm.Cond.initialized "TurnDesk") ∈ lw_all := lw_g (lw_at lw_m0 1 rfl) rfl
theorem q14 : (Jvm.Cond.instantiable "TurnDesk" (2 : Nat)) ∈ lw_all := lw_g (lw_at lw_m0 9 rfl) rfl
theorem q16 : (Jvm.Cond.instanceMethod ({ cls := "TurnDesk", name := "<init>", desc := "()V" } : Jvm.MethodName)) ∈ lw_all := lw_g (lw_at lw_m0 11 rfl) rfl
theorem q17 : (Jvm.Cond.code ({ cls := "TurnDesk", name := "<init>", desc := "()V" } : Jvm.MethodName) prog_7_method_1_code (1 : Nat) (Option.none : Option Jvm.ClassFile.FieldType)) ∈ lw_all := lw_g (lw_at lw_m0 12 rfl) rfl
theorem q18 : (Jvm.Cond.methodLink "TurnDesk" (1 : Nat) ({ cls := "java/lang/Object", name := "<init>", desc := "()V" } : Jvm.MethodName)) ∈ lw_all := lw_g (lw_at lw_m0 13 rfl) rfl
theorem q21 : (Jvm.Cond.classLink "TurnDesk" (7 : Nat) "Coordinate") ∈ lw_all := lw_g (lw_at lw_m0 16 rfl) rfl
theorem q23 : (Jvm.Cond.fieldLink "TurnDesk" (9 : Nat) "TurnDesk" "points" "[LCoordinate;") ∈ lw_all := lw_g (lw_at lw_m0 18 rfl) rfl
theorem q24 : (Jvm.Cond.fieldLink "TurnDesk" (18 : Nat) "TurnDesk" "n" "I") ∈ lw_all := lw_g (lw_at lw_m0 19 rfl) rfl
theorem q25 : (Jvm.Cond.laysFinal "TurnDesk" "TurnDesk" "points" "[LCoordinate;") ∈ lw_all := lw_g (lw_at lw_m0 20 rfl) rfl
theorem q26 : (Jvm.Cond.soleField "TurnDesk" "points") ∈ lw_all := lw_g (lw_at lw_m0 21 rfl) rfl
theorem q27 : (Jvm.Cond.lays "TurnDesk" "TurnDesk" "n" "I") ∈ lw_all := lw_g (lw_at lw_m0 22 rfl) rfl
theorem q28 : (Jvm.Cond.soleField "TurnDesk" "n") ∈ lw_all := lw_g (lw_at lw_m0 23 rfl) rfl
theorem q29 : (Jvm.Cond.superclass "TurnDesk" "java/lang/Object") ∈ lw_all := lw_g (lw_at lw_m0 24 rfl) rfl
theorem q31 : (Jvm.Cond.instanceMethod ({ cls := "TurnDesk", name := "put", desc := "(II)Z" } : Jvm.MethodName)) ∈ lw_all := lw_g (lw_at lw_m0 26 rfl) rfl
theorem q32 : (Jvm.Cond.selects "TurnDesk" ({ cls := "TurnDesk", name := "put", desc := "(II)Z" } : Jvm.MethodName) ({ cls := "TurnDesk", name := "put", desc := "(II)Z" } : Jvm.MethodName)) ∈ lw_all := lw_g (lw_at lw_m0 27 rfl) rfl
theorem q33 : (Jvm.Cond.code ({ cls := "TurnDesk", name := "put", desc := "(II)Z" } : Jvm.MethodName) prog_7_method_4_code (3 : Nat) (Option.some Jvm.ClassFile.FieldType.boolean)) ∈ lw_all := lw_g (lw_at lw_m0 28 rfl) rfl
theorem q34 : (Jvm.Cond.methodLink "TurnDesk" (22 : Nat) ({ cls := "TurnDesk", name := "point", desc := "(II)LCoordinate;" } : Jvm.MethodName)) ∈ lw_all := lw_g (lw_at lw_m0 29 rfl) rfl
theorem q35 : (Jvm.Cond.static ({ cls := "TurnDesk", name := "point", desc := "(II)LCoordinate;" } : Jvm.MethodName)) ∈ lw_all := lw_g (lw_at lw_m0 30 rfl) rfl
theorem q36 : (Jvm.Cond.code ({ cls := "TurnDesk", name := "point", desc := "(II)LCoordinate;" } : Jvm.MethodName) prog_7_method_3_code (2 : Nat) (Option.some (Jvm.ClassFile.FieldType.object "Coordinate"))) ∈ lw_all := lw_g (lw_at lw_m0 31 rfl) rfl
theorem q38 : (Jvm.Cond.methodLink "TurnDesk" (15 : Nat) ({ cls := "Coordinate", name := "<init>", desc := "(DD)V" } : Jvm.MethodName)) ∈ lw_all := lw_g (lw_at lw_m0 33 rfl) rfl
theorem q49 : (Jvm.Cond.fieldLink "TurnDesk" (30 : Nat) "Coordinate" "x" "D") ∈ lw_all := lw_g (lw_at lw_m0 44 rfl) rfl
theorem q53 : (Jvm.Cond.fieldLink "TurnDesk" (36 : Nat) "Coordinate" "y" "D") ∈ lw_all := lw_g (lw_at lw_m0 48 rfl) rfl
theorem q63 : (Jvm.Cond.instanceMethod ({ cls := "TurnDesk", name := "between", desc := "(III)Z" } : Jvm.MethodName)) ∈ lw_all := lw_g (lw_at lw_m0 58 rfl) rfl
theorem q64 : (Jvm.Cond.selects "TurnDesk" ({ cls := "TurnDesk", name := "between", desc := "(III)Z" } : Jvm.MethodName) ({ cls := "TurnDesk", name := "between", desc := "(III)Z" } : Jvm.MethodName)) ∈ lw_all := lw_g (lw_at lw_m0 59 rfl) rfl
theorem q65 : (Jvm.Cond.code ({ cls := "TurnDesk", name := "between", desc := "(III)Z" } : Jvm.MethodName) prog_7_method_5_code (10 : Nat) (Option.some Jvm.ClassFile.FieldType.boolean)) ∈ lw_all := lw_g (lw_at lw_m0 60 rfl) rfl
theorem q66 : (Jvm.Cond.methodLink "TurnDesk" (26 : Nat) ({ cls := "TurnDesk", name := "at", desc := "(I)LCoordinate;" } : Jvm.MethodName)) ∈ lw_all := lw_g (lw_at lw_m0 61 rfl) rfl
theorem q67 : (Jvm.Cond.privateMethod ({ cls := "TurnDesk", name := "at", desc := "(I)LCoordinate;" } : Jvm.MethodName)) ∈ lw_tbl := lw_at lw_m0 62 rfl
theorem q68 : (Jvm.Cond.instanceMethod ({ cls := "TurnDesk", name := "at", desc := "(I)LCoordinate;" } : Jvm.MethodName)) ∈ lw_all := lw_g (lw_at lw_m0 63 rfl) rfl
theorem q69 : (Jvm.Cond.code ({ cls := "TurnDesk", name := "at", desc := "(I)LCoordinate;" } : Jvm.MethodName) prog_7_method_7_code (2 : Nat) (Option.some (Jvm.ClassFile.FieldType.object "Coordinate"))) ∈ lw_all := lw_g (lw_at lw_m0 64 rfl) rfl
theorem q70 : (Jvm.Cond.constant "TurnDesk" (39 : Nat) (2147483647 : Int32)) ∈ lw_all := lw_g (lw_at lw_m0 65 rfl) rfl
theorem q71 : (Jvm.Cond.constantLong "TurnDesk" (34 : Nat) (8 : Int64)) ∈ lw_all := lw_g (lw_at lw_m0 66 rfl) rfl
theorem q73 : (Jvm.Cond.instanceMethod ({ cls := "TurnDesk", name := "wipe", desc := "()V" } : Jvm.MethodName)) ∈ lw_all := lw_g (lw_at lw_m0 68 rfl) rfl
theorem q74 : (Jvm.Cond.selects "TurnDesk" ({ cls := "TurnDesk", name := "wipe", desc := "()V" } : Jvm.MethodName) ({ cls := "TurnDesk", name := "wipe", desc := "()V" } : Jvm.MethodName)) ∈ lw_all := lw_g (lw_at lw_m0 69 rfl) rfl
theorem q75 : (Jvm.Cond.code ({ cls := "TurnDesk", name := "wipe", desc := "()V" } : Jvm.MethodName) prog_7_method_6_code (1 : Nat) (Option.none : Option Jvm.ClassFile.FieldType)) ∈ lw_all := lw_g (lw_at lw_m0 70 rfl) rfl
theorem q77 : (Jvm.Cond.instanceMethod ({ cls := "TurnDesk", name := "turn", desc := "(III)I" } : Jvm.MethodName)) ∈ lw_all := lw_g (lw_at lw_m0 72 rfl) rfl
theorem q78 : (Jvm.Cond.selects "TurnDesk" ({ cls := "TurnDesk", name := "turn", desc := "(III)I" } : Jvm.MethodName) ({ cls := "TurnDesk", name := "turn", desc := "(III)I" } : Jvm.MethodName)) ∈ lw_all := lw_g (lw_at lw_m0 73 rfl) rfl
theorem q79 : (Jvm.Cond.code ({ cls := "TurnDesk", name := "turn", desc := "(III)I" } : Jvm.MethodName) prog_7_method_8_code (4 : Nat) (Option.some Jvm.ClassFile.FieldType.int)) ∈ lw_all := lw_g (lw_at lw_m0 74 rfl) rfl
theorem q80 : (Jvm.Cond.methodLink "TurnDesk" (40 : Nat) ({ cls := "Orientation", name := "index", desc := "(LCoordinate;LCoordinate;LCoordinate;)I" } : Jvm.MethodName)) ∈ lw_all := lw_g (lw_at lw_m0 75 rfl) rfl
theorem q149 : (Jvm.Cond.instanceMethod ({ cls := "TurnDesk", name := "within", desc := "(II)I" } : Jvm.MethodName)) ∈ lw_all := lw_g (lw_at lw_m0 144 rfl) rfl
theorem q150 : (Jvm.Cond.selects "TurnDesk" ({ cls := "TurnDesk", name := "within", desc := "(II)I" } : Jvm.MethodName) ({ cls := "TurnDesk", name := "within", desc := "(II)I" } : Jvm.MethodName)) ∈ lw_all := lw_g (lw_at lw_m0 145 rfl) rfl
theorem q151 : (Jvm.Cond.code ({ cls := "TurnDesk", name := "within", desc := "(II)I" } : Jvm.MethodName) prog_7_method_9_code (3 : Nat) (Option.some Jvm.ClassFile.FieldType.int)) ∈ lw_all := lw_g (lw_at lw_m0 146 rfl) rfl
theorem q152 : (Jvm.Cond.methodLink "TurnDesk" (46 : Nat) ({ cls := "TurnDesk", name := "place", desc := "(LCoordinate;)I" } : Jvm.MethodName)) ∈ lw_all := lw_g (lw_at lw_m0 147 rfl) rfl
theorem q153 : (Jvm.Cond.privateMethod ({ cls := "TurnDesk", name := "place", desc := "(LCoordinate;)I" } : Jvm.MethodName)) ∈ lw_tbl := lw_at lw_m0 148 rfl
theorem q154 : (Jvm.Cond.instanceMethod ({ cls := "TurnDesk", name := "place", desc := "(LCoordinate;)I" } : Jvm.MethodName)) ∈ lw_all := lw_g (lw_at lw_m0 149 rfl) rfl
theorem q155 : (Jvm.Cond.code ({ cls := "TurnDesk", name := "place", desc := "(LCoordinate;)I" } : Jvm.MethodName) prog_7_method_11_code (4 : Nat) (Option.some Jvm.ClassFile.FieldType.int)) ∈ lw_all := lw_g (lw_at lw_m0 150 rfl) rfl
theorem q156 : (Jvm.Cond.methodLink "TurnDesk" (50 : Nat) ({ cls := "RayCrossingCounter", name := "locatePointInRing", desc := "(LCoordinate;[LCoordinate;)I" } : Jvm.MethodName)) ∈ lw_all := lw_g (lw_at lw_m0 151 rfl) rfl
theorem q208 : (Jvm.Cond.instanceMethod ({ cls := "TurnDesk", name := "own", desc := "(II)I" } : Jvm.MethodName)) ∈ lw_all := lw_g (lw_at lw_m0 203 rfl) rfl
theorem q209 : (Jvm.Cond.selects "TurnDesk" ({ cls := "TurnDesk", name := "own", desc := "(II)I" } : Jvm.MethodName) ({ cls := "TurnDesk", name := "own", desc := "(II)I" } : Jvm.MethodName)) ∈ lw_all := lw_g (lw_at lw_m0 204 rfl) rfl
theorem q210 : (Jvm.Cond.code ({ cls := "TurnDesk", name := "own", desc := "(II)I" } : Jvm.MethodName) prog_7_method_10_code (5 : Nat) (Option.some Jvm.ClassFile.FieldType.int)) ∈ lw_all := lw_g (lw_at lw_m0 205 rfl) rfl
theorem in_X1 : ∀ w ∈ wsX10, w ∈ lw_all := lw_in wsX10 [25, 27] (by decide +kernel) (by decide +kernel)
/-! TurnDeskLaw -/
set_option maxRecDepth 100000
def RX0 : String := "TurnDeskLaw"
abbrev cX0_get : ByteArray := method_2_code
def yX0_get : MethodName := ⟨RX0, "get", "([II)I"⟩
def dkwX0_get_0 : List UInt8 := [27, 16, 60, 162, 0, 15, 27, 42, 190, 162, 0, 9, 42, 27, 46, 167, 0, 4, 3, 172]
abbrev dktX0_get_0 : List UInt8 := dkwX0_get_0 ++ []
theorem dksX0_get_0 : cX0_get.data.toList.drop 0 = dktX0_get_0 := by decide +kernel
theorem dX0_get_0 : decode cX0_get 0 = .ok (.iload_n 1, 1) := dk_27 (dk_at dksX0_get_0 0 rfl rfl)
theorem dX0_get_1 : decode cX0_get 1 = .ok (.bipush 60, 2) := dk_16 60 (dk_at dksX0_get_0 1 rfl rfl)
theorem dX0_get_3 : decode cX0_get 3 = .ok (.if_icmp .ge 15, 3) := dk_162 0 15 (dk_at dksX0_get_0 3 rfl rfl)
theorem dX0_get_6 : decode cX0_get 6 = .ok (.iload_n 1, 1) := dk_27 (dk_at dksX0_get_0 6 rfl rfl)
theorem dX0_get_7 : decode cX0_get 7 = .ok (.aload_n 0, 1) := dk_42 (dk_at dksX0_get_0 7 rfl rfl)
theorem dX0_get_8 : decode cX0_get 8 = .ok (.arraylength, 1) := dk_190 (dk_at dksX0_get_0 8 rfl rfl)
theorem dX0_get_9 : decode cX0_get 9 = .ok (.if_icmp .ge 9, 3) := dk_162 0 9 (dk_at dksX0_get_0 9 rfl rfl)
theorem dX0_get_12 : decode cX0_get 12 = .ok (.aload_n 0, 1) := dk_42 (dk_at dksX0_get_0 12 rfl rfl)
theorem dX0_get_13 : decode cX0_get 13 = .ok (.iload_n 1, 1) := dk_27 (dk_at dksX0_get_0 13 rfl rfl)
theorem dX0_get_14 : decode cX0_get 14 = .ok (.iaload, 1) := dk_46 (dk_at dksX0_get_0 14 rfl rfl)
theorem dX0_get_15 : decode cX0_get 15 = .ok (.goto 4, 3) := dk_167 0 4 (dk_at dksX0_get_0 15 rfl rfl)
theorem dX0_get_18 : decode cX0_get 18 = .ok (.iconst 0, 1) := dk_3 (dk_at dksX0_get_0 18 rfl rfl)
theorem dX0_get_19 : decode cX0_get 19 = .ok (.ireturn, 1) := dk_172 (dk_at dksX0_get_0 19 rfl rfl)
abbrev cX0_pick : ByteArray := method_3_code
def yX0_pick : MethodName := ⟨RX0, "pick", "(II)I"⟩
def dkwX0_pick_0 : List UInt8 := [26, 18, 7, 126, 27, 112, 172]
abbrev dktX0_pick_0 : List UInt8 := dkwX0_pick_0 ++ []
theorem dksX0_pick_0 : cX0_pick.data.toList.drop 0 = dktX0_pick_0 := by decide +kernel
theorem dX0_pick_0 : decode cX0_pick 0 = .ok (.iload_n 0, 1) := dk_26 (dk_at dksX0_pick_0 0 rfl rfl)
theorem dX0_pick_1 : decode cX0_pick 1 = .ok (.ldc 7, 2) := dk_18 7 (dk_at dksX0_pick_0 1 rfl rfl)
theorem dX0_pick_3 : decode cX0_pick 3 = .ok (.iand, 1) := dk_126 (dk_at dksX0_pick_0 3 rfl rfl)
theorem dX0_pick_4 : decode cX0_pick 4 = .ok (.iload_n 1, 1) := dk_27 (dk_at dksX0_pick_0 4 rfl rfl)
theorem dX0_pick_5 : decode cX0_pick 5 = .ok (.irem, 1) := dk_112 (dk_at dksX0_pick_0 5 rfl rfl)
theorem dX0_pick_6 : decode cX0_pick 6 = .ok (.ireturn, 1) := dk_172 (dk_at dksX0_pick_0 6 rfl rfl)
abbrev cX0_place : ByteArray := method_5_code
def yX0_place : MethodName := ⟨RX0, "place", "([J[JIJJ)I"⟩
def dkwX0_place_7 : List UInt8 := [21, 7, 153, 0, 7, 3, 167, 0, 4, 5, 172]
abbrev dktX0_place_7 : List UInt8 := dkwX0_place_7 ++ []
def dkwX0_place_6 : List UInt8 := [21, 10, 158, 0, 15, 21, 7, 154, 0, 7, 4, 167, 0, 4, 3, 54, 7, 132, 8, 1, 167, 255, 102]
abbrev dktX0_place_6 : List UInt8 := dkwX0_place_6 ++ dktX0_place_7
def dkwX0_place_5 : List UInt8 := [21, 10, 155, 0, 26, 42, 21, 9, 47, 33, 148, 157, 0, 29, 33, 42, 21, 8, 47, 148, 156, 0, 20]
abbrev dktX0_place_5 : List UInt8 := dkwX0_place_5 ++ dktX0_place_6
def dkwX0_place_4 : List UInt8 := [157, 0, 5, 4, 172, 42, 21, 8, 47, 33, 148, 157, 0, 17, 33, 42, 21, 9, 47, 148, 156, 0, 8]
abbrev dktX0_place_4 : List UInt8 := dkwX0_place_4 ++ dktX0_place_5
def dkwX0_place_3 : List UInt8 := [105, 9, 148, 157, 0, 25, 22, 5, 43, 21, 8, 47, 101, 22, 5, 43, 21, 9, 47, 101, 105, 9, 148]
abbrev dktX0_place_3 : List UInt8 := dkwX0_place_3 ++ dktX0_place_4
def dkwX0_place_2 : List UInt8 := [22, 5, 184, 0, 8, 54, 10, 21, 10, 154, 0, 43, 33, 42, 21, 8, 47, 101, 33, 42, 21, 9, 47, 101]
abbrev dktX0_place_2 : List UInt8 := dkwX0_place_2 ++ dktX0_place_3
def dkwX0_place_1 : List UInt8 := [21, 8, 4, 96, 54, 9, 42, 21, 8, 47, 43, 21, 8, 47, 42, 21, 9, 47, 43, 21, 9, 47, 33]
abbrev dktX0_place_1 : List UInt8 := dkwX0_place_1 ++ dktX0_place_2
def dkwX0_place_0 : List UInt8 := [3, 54, 7, 3, 54, 8, 21, 8, 28, 162, 0, 154, 21, 8, 4, 96, 28, 160, 0, 7, 3, 167, 0, 7]
abbrev dktX0_place_0 : List UInt8 := dkwX0_place_0 ++ dktX0_place_1
theorem dksX0_place_0 : cX0_place.data.toList.drop 0 = dktX0_place_0 := by decide +kernel
theorem dksX0_place_1 : cX0_place.data.toList.drop 24 = dktX0_place_1 := dk_seg dksX0_place_0 24 rfl rfl
theorem dksX0_place_2 : cX0_place.data.toList.drop 47 = dktX0_place_2 := dk_seg dksX0_place_1 23 rfl rfl
theorem dksX0_place_3 : cX0_place.data.toList.drop 71 = dktX0_place_3 := dk_seg dksX0_place_2 24 rfl rfl
theorem dksX0_place_4 : cX0_place.data.toList.drop 94 = dktX0_place_4 := dk_seg dksX0_place_3 23 rfl rfl
theorem dksX0_place_5 : cX0_place.data.toList.drop 117 = dktX0_place_5 := dk_seg dksX0_place_4 23 rfl rfl
theorem dksX0_place_6 : cX0_place.data.toList.drop 140 = dktX0_place_6 := dk_seg dksX0_place_5 23 rfl rfl
theorem dksX0_place_7 : cX0_place.data.toList.drop 163 = dktX0_place_7 := dk_seg dksX0_place_6 23 rfl rfl
theorem dX0_place_0 : decode cX0_place 0 = .ok (.iconst 0, 1) := dk_3 (dk_at dksX0_place_0 0 rfl rfl)
theorem dX0_place_1 : decode cX0_place 1 = .ok (.istore 7, 2) := dk_54 7 (dk_at dksX0_place_0 1 rfl rfl)
theorem dX0_place_3 : decode cX0_place 3 = .ok (.iconst 0, 1) := dk_3 (dk_at dksX0_place_0 3 rfl rfl)
theorem dX0_place_4 : decode cX0_place 4 = .ok (.istore 8, 2) := dk_54 8 (dk_at dksX0_place_0 4 rfl rfl)
theorem dX0_place_6 : decode cX0_place 6 = .ok (.iload 8, 2) := dk_21 8 (dk_at dksX0_place_0 6 rfl rfl)
theorem dX0_place_8 : decode cX0_place 8 = .ok (.iload_n 2, 1) := dk_28 (dk_at dksX0_place_0 8 rfl rfl)
theorem dX0_place_9 : decode cX0_place 9 = .ok (.if_icmp .ge 154, 3) := dk_162 0 154 (dk_at dksX0_place_0 9 rfl rfl)
theorem dX0_place_12 : decode cX0_place 12 = .ok (.iload 8, 2) := dk_21 8 (dk_at dksX0_place_0 12 rfl rfl)
theorem dX0_place_14 : decode cX0_place 14 = .ok (.iconst 1, 1) := dk_4 (dk_at dksX0_place_0 14 rfl rfl)
theorem dX0_place_15 : decode cX0_place 15 = .ok (.iadd, 1) := dk_96 (dk_at dksX0_place_0 15 rfl rfl)
theorem dX0_place_16 : decode cX0_place 16 = .ok (.iload_n 2, 1) := dk_28 (dk_at dksX0_place_0 16 rfl rfl)
theorem dX0_place_17 : decode cX0_place 17 = .ok (.if_icmp .ne 7, 3) := dk_160 0 7 (dk_at dksX0_place_0 17 rfl rfl)
theorem dX0_place_20 : decode cX0_place 20 = .ok (.iconst 0, 1) := dk_3 (dk_at dksX0_place_0 20 rfl rfl)
theorem dX0_place_21 : decode cX0_place 21 = .ok (.goto 7, 3) := dk_167 0 7 (dk_at dksX0_place_0 21 rfl rfl)
theorem dX0_place_24 : decode cX0_place 24 = .ok (.iload 8, 2) := dk_21 8 (dk_at dksX0_place_1 0 rfl rfl)
theorem dX0_place_26 : decode cX0_place 26 = .ok (.iconst 1, 1) := dk_4 (dk_at dksX0_place_1 2 rfl rfl)
theorem dX0_place_27 : decode cX0_place 27 = .ok (.iadd, 1) := dk_96 (dk_at dksX0_place_1 3 rfl rfl)
theorem dX0_place_28 : decode cX0_place 28 = .ok (.istore 9, 2) := dk_54 9 (dk_at dksX0_place_1 4 rfl rfl)
theorem dX0_place_30 : decode cX0_place 30 = .ok (.aload_n 0, 1) := dk_42 (dk_at dksX0_place_1 6 rfl rfl)
theorem dX0_place_31 : decode cX0_place 31 = .ok (.iload 8, 2) := dk_21 8 (dk_at dksX0_place_1 7 rfl rfl)
theorem dX0_place_33 : decode cX0_place 33 = .ok (.laload, 1) := dk_47 (dk_at dksX0_place_1 9 rfl rfl)
theorem dX0_place_34 : decode cX0_place 34 = .ok (.aload_n 1, 1) := dk_43 (dk_at dksX0_place_1 10 rfl rfl)
theorem dX0_place_35 : decode cX0_place 35 = .ok (.iload 8, 2) := dk_21 8 (dk_at dksX0_place_1 11 rfl rfl)
theorem dX0_place_37 : decode cX0_place 37 = .ok (.laload, 1) := dk_47 (dk_at dksX0_place_1 13 rfl rfl)
theorem dX0_place_38 : decode cX0_place 38 = .ok (.aload_n 0, 1) := dk_42 (dk_at dksX0_place_1 14 rfl rfl)
theorem dX0_place_39 : decode cX0_place 39 = .ok (.iload 9, 2) := dk_21 9 (dk_at dksX0_place_1 15 rfl rfl)
theorem dX0_place_41 : decode cX0_place 41 = .ok (.laload, 1) := dk_47 (dk_at dksX0_place_1 17 rfl rfl)
theorem dX0_place_42 : decode cX0_place 42 = .ok (.aload_n 1, 1) := dk_43 (dk_at dksX0_place_1 18 rfl rfl)
theorem dX0_place_43 : decode cX0_place 43 = .ok (.iload 9, 2) := dk_21 9 (dk_at dksX0_place_1 19 rfl rfl)
theorem dX0_place_45 : decode cX0_place 45 = .ok (.laload, 1) := dk_47 (dk_at dksX0_place_1 21 rfl rfl)
theorem dX0_place_46 : decode cX0_place 46 = .ok (.lload_n 3, 1) := dk_33 (dk_at dksX0_place_1 22 rfl rfl)
theorem dX0_place_47 : decode cX0_place 47 = .ok (.lload 5, 2) := dk_22 5 (dk_at dksX0_place_2 0 rfl rfl)
theorem dX0_place_49 : decode cX0_place 49 = .ok (.invokestatic 8, 3) := dk_184 0 8 (dk_at dksX0_place_2 2 rfl rfl)
theorem dX0_place_52 : decode cX0_place 52 = .ok (.istore 10, 2) := dk_54 10 (dk_at dksX0_place_2 5 rfl rfl)
theorem dX0_place_54 : decode cX0_place 54 = .ok (.iload 10, 2) := dk_21 10 (dk_at dksX0_place_2 7 rfl rfl)
theorem dX0_place_56 : decode cX0_place 56 = .ok (.ifCond .ne 43, 3) := dk_154 0 43 (dk_at dksX0_place_2 9 rfl rfl)
theorem dX0_place_59 : decode cX0_place 59 = .ok (.lload_n 3, 1) := dk_33 (dk_at dksX0_place_2 12 rfl rfl)
theorem dX0_place_60 : decode cX0_place 60 = .ok (.aload_n 0, 1) := dk_42 (dk_at dksX0_place_2 13 rfl rfl)
theorem dX0_place_61 : decode cX0_place 61 = .ok (.iload 8, 2) := dk_21 8 (dk_at dksX0_place_2 14 rfl rfl)
theorem dX0_place_63 : decode cX0_place 63 = .ok (.laload, 1) := dk_47 (dk_at dksX0_place_2 16 rfl rfl)
theorem dX0_place_64 : decode cX0_place 64 = .ok (.lsub, 1) := dk_101 (dk_at dksX0_place_2 17 rfl rfl)
theorem dX0_place_65 : decode cX0_place 65 = .ok (.lload_n 3, 1) := dk_33 (dk_at dksX0_place_2 18 rfl rfl)
theorem dX0_place_66 : decode cX0_place 66 = .ok (.aload_n 0, 1) := dk_42 (dk_at dksX0_place_2 19 rfl rfl)
theorem dX0_place_67 : decode cX0_place 67 = .ok (.iload 9, 2) := dk_21 9 (dk_at dksX0_place_2 20 rfl rfl)
theorem dX0_place_69 : decode cX0_place 69 = .ok (.laload, 1) := dk_47 (dk_at dksX0_place_2 22 rfl rfl)
theorem dX0_place_70 : decode cX0_place 70 = .ok (.lsub, 1) := dk_101 (dk_at dksX0_place_2 23 rfl rfl)
theorem dX0_place_71 : decode cX0_place 71 = .ok (.lmul, 1) := dk_105 (dk_at dksX0_place_3 0 rfl rfl)
theorem dX0_place_72 : decode cX0_place 72 = .ok (.lconst 0, 1) := dk_9 (dk_at dksX0_place_3 1 rfl rfl)
theorem dX0_place_73 : decode cX0_place 73 = .ok (.lcmp, 1) := dk_148 (dk_at dksX0_place_3 2 rfl rfl)
theorem dX0_place_74 : decode cX0_place 74 = .ok (.ifCond .gt 25, 3) := dk_157 0 25 (dk_at dksX0_place_3 3 rfl rfl)
theorem dX0_place_77 : decode cX0_place 77 = .ok (.lload 5, 2) := dk_22 5 (dk_at dksX0_place_3 6 rfl rfl)
theorem dX0_place_79 : decode cX0_place 79 = .ok (.aload_n 1, 1) := dk_43 (dk_at dksX0_place_3 8 rfl rfl)
theorem dX0_place_80 : decode cX0_place 80 = .ok (.iload 8, 2) := dk_21 8 (dk_at dksX0_place_3 9 rfl rfl)
theorem dX0_place_82 : decode cX0_place 82 = .ok (.laload, 1) := dk_47 (dk_at dksX0_place_3 11 rfl rfl)
theorem dX0_place_83 : decode cX0_place 83 = .ok (.lsub, 1) := dk_101 (dk_at dksX0_place_3 12 rfl rfl)
theorem dX0_place_84 : decode cX0_place 84 = .ok (.lload 5, 2) := dk_22 5 (dk_at dksX0_place_3 13 rfl rfl)
theorem dX0_place_86 : decode cX0_place 86 = .ok (.aload_n 1, 1) := dk_43 (dk_at dksX0_place_3 15 rfl rfl)
theorem dX0_place_87 : decode cX0_place 87 = .ok (.iload 9, 2) := dk_21 9 (dk_at dksX0_place_3 16 rfl rfl)
theorem dX0_place_89 : decode cX0_place 89 = .ok (.laload, 1) := dk_47 (dk_at dksX0_place_3 18 rfl rfl)
theorem dX0_place_90 : decode cX0_place 90 = .ok (.lsub, 1) := dk_101 (dk_at dksX0_place_3 19 rfl rfl)
theorem dX0_place_91 : decode cX0_place 91 = .ok (.lmul, 1) := dk_105 (dk_at dksX0_place_3 20 rfl rfl)
theorem dX0_place_92 : decode cX0_place 92 = .ok (.lconst 0, 1) := dk_9 (dk_at dksX0_place_3 21 rfl rfl)
theorem dX0_place_93 : decode cX0_place 93 = .ok (.lcmp, 1) := dk_148 (dk_at dksX0_place_3 22 rfl rfl)
theorem dX0_place_94 : decode cX0_place 94 = .ok (.ifCond .gt 5, 3) := dk_157 0 5 (dk_at dksX0_place_4 0 rfl rfl)
theorem dX0_place_97 : decode cX0_place 97 = .ok (.iconst 1, 1) := dk_4 (dk_at dksX0_place_4 3 rfl rfl)
theorem dX0_place_98 : decode cX0_place 98 = .ok (.ireturn, 1) := dk_172 (dk_at dksX0_place_4 4 rfl rfl)
theorem dX0_place_99 : decode cX0_place 99 = .ok (.aload_n 0, 1) := dk_42 (dk_at dksX0_place_4 5 rfl rfl)
theorem dX0_place_100 : decode cX0_place 100 = .ok (.iload 8, 2) := dk_21 8 (dk_at dksX0_place_4 6 rfl rfl)
theorem dX0_place_102 : decode cX0_place 102 = .ok (.laload, 1) := dk_47 (dk_at dksX0_place_4 8 rfl rfl)
theorem dX0_place_103 : decode cX0_place 103 = .ok (.lload_n 3, 1) := dk_33 (dk_at dksX0_place_4 9 rfl rfl)
theorem dX0_place_104 : decode cX0_place 104 = .ok (.lcmp, 1) := dk_148 (dk_at dksX0_place_4 10 rfl rfl)
theorem dX0_place_105 : decode cX0_place 105 = .ok (.ifCond .gt 17, 3) := dk_157 0 17 (dk_at dksX0_place_4 11 rfl rfl)
theorem dX0_place_108 : decode cX0_place 108 = .ok (.lload_n 3, 1) := dk_33 (dk_at dksX0_place_4 14 rfl rfl)
theorem dX0_place_109 : decode cX0_place 109 = .ok (.aload_n 0, 1) := dk_42 (dk_at dksX0_place_4 15 rfl rfl)
theorem dX0_place_110 : decode cX0_place 110 = .ok (.iload 9, 2) := dk_21 9 (dk_at dksX0_place_4 16 rfl rfl)
theorem dX0_place_112 : decode cX0_place 112 = .ok (.laload, 1) := dk_47 (dk_at dksX0_place_4 18 rfl rfl)
theorem dX0_place_113 : decode cX0_place 113 = .ok (.lcmp, 1) := dk_148 (dk_at dksX0_place_4 19 rfl rfl)
theorem dX0_place_114 : decode cX0_place 114 = .ok (.ifCond .ge 8, 3) := dk_156 0 8 (dk_at dksX0_place_4 20 rfl rfl)
theorem dX0_place_117 : decode cX0_place 117 = .ok (.iload 10, 2) := dk_21 10 (dk_at dksX0_place_5 0 rfl rfl)
theorem dX0_place_119 : decode cX0_place 119 = .ok (.ifCond .lt 26, 3) := dk_155 0 26 (dk_at dksX0_place_5 2 rfl rfl)
theorem dX0_place_122 : decode cX0_place 122 = .ok (.aload_n 0, 1) := dk_42 (dk_at dksX0_place_5 5 rfl rfl)
theorem dX0_place_123 : decode cX0_place 123 = .ok (.iload 9, 2) := dk_21 9 (dk_at dksX0_place_5 6 rfl rfl)
theorem dX0_place_125 : decode cX0_place 125 = .ok (.laload, 1) := dk_47 (dk_at dksX0_place_5 8 rfl rfl)
theorem dX0_place_126 : decode cX0_place 126 = .ok (.lload_n 3, 1) := dk_33 (dk_at dksX0_place_5 9 rfl rfl)
theorem dX0_place_127 : decode cX0_place 127 = .ok (.lcmp, 1) := dk_148 (dk_at dksX0_place_5 10 rfl rfl)
theorem dX0_place_128 : decode cX0_place 128 = .ok (.ifCond .gt 29, 3) := dk_157 0 29 (dk_at dksX0_place_5 11 rfl rfl)
theorem dX0_place_131 : decode cX0_place 131 = .ok (.lload_n 3, 1) := dk_33 (dk_at dksX0_place_5 14 rfl rfl)
theorem dX0_place_132 : decode cX0_place 132 = .ok (.aload_n 0, 1) := dk_42 (dk_at dksX0_place_5 15 rfl rfl)
theorem dX0_place_133 : decode cX0_place 133 = .ok (.iload 8, 2) := dk_21 8 (dk_at dksX0_place_5 16 rfl rfl)
theorem dX0_place_135 : decode cX0_place 135 = .ok (.laload, 1) := dk_47 (dk_at dksX0_place_5 18 rfl rfl)
theorem dX0_place_136 : decode cX0_place 136 = .ok (.lcmp, 1) := dk_148 (dk_at dksX0_place_5 19 rfl rfl)
theorem dX0_place_137 : decode cX0_place 137 = .ok (.ifCond .ge 20, 3) := dk_156 0 20 (dk_at dksX0_place_5 20 rfl rfl)
theorem dX0_place_140 : decode cX0_place 140 = .ok (.iload 10, 2) := dk_21 10 (dk_at dksX0_place_6 0 rfl rfl)
theorem dX0_place_142 : decode cX0_place 142 = .ok (.ifCond .le 15, 3) := dk_158 0 15 (dk_at dksX0_place_6 2 rfl rfl)
theorem dX0_place_145 : decode cX0_place 145 = .ok (.iload 7, 2) := dk_21 7 (dk_at dksX0_place_6 5 rfl rfl)
theorem dX0_place_147 : decode cX0_place 147 = .ok (.ifCond .ne 7, 3) := dk_154 0 7 (dk_at dksX0_place_6 7 rfl rfl)
theorem dX0_place_150 : decode cX0_place 150 = .ok (.iconst 1, 1) := dk_4 (dk_at dksX0_place_6 10 rfl rfl)
theorem dX0_place_151 : decode cX0_place 151 = .ok (.goto 4, 3) := dk_167 0 4 (dk_at dksX0_place_6 11 rfl rfl)
theorem dX0_place_154 : decode cX0_place 154 = .ok (.iconst 0, 1) := dk_3 (dk_at dksX0_place_6 14 rfl rfl)
theorem dX0_place_155 : decode cX0_place 155 = .ok (.istore 7, 2) := dk_54 7 (dk_at dksX0_place_6 15 rfl rfl)
theorem dX0_place_157 : decode cX0_place 157 = .ok (.iinc 8 1, 3) := dk_132 8 1 (dk_at dksX0_place_6 17 rfl rfl)
theorem dX0_place_160 : decode cX0_place 160 = .ok (.goto (-154), 3) := dk_167 255 102 (dk_at dksX0_place_6 20 rfl rfl)
theorem dX0_place_163 : decode cX0_place 163 = .ok (.iload 7, 2) := dk_21 7 (dk_at dksX0_place_7 0 rfl rfl)
theorem dX0_place_165 : decode cX0_place 165 = .ok (.ifCond .eq 7, 3) := dk_153 0 7 (dk_at dksX0_place_7 2 rfl rfl)
theorem dX0_place_168 : decode cX0_place 168 = .ok (.iconst 0, 1) := dk_3 (dk_at dksX0_place_7 5 rfl rfl)
theorem dX0_place_169 : decode cX0_place 169 = .ok (.goto 4, 3) := dk_167 0 4 (dk_at dksX0_place_7 6 rfl rfl)
theorem dX0_place_172 : decode cX0_place 172 = .ok (.iconst 2, 1) := dk_5 (dk_at dksX0_place_7 9 rfl rfl)
theorem dX0_place_173 : decode cX0_place 173 = .ok (.ireturn, 1) := dk_172 (dk_at dksX0_place_7 10 rfl rfl)
abbrev cX0_side : ByteArray := method_4_code
def yX0_side : MethodName := ⟨RX0, "side", "(JJJJJJ)I"⟩
def dkwX0_side_2 : List UInt8 := [156, 0, 7, 2, 167, 0, 4, 3, 172]
abbrev dktX0_side_2 : List UInt8 := dkwX0_side_2 ++ []
def dkwX0_side_1 : List UInt8 := [105, 97, 22, 10, 30, 105, 101, 55, 12, 22, 12, 9, 148, 158, 0, 7, 4, 167, 0, 15, 22, 12, 9, 148]
abbrev dktX0_side_1 : List UInt8 := dkwX0_side_1 ++ dktX0_side_2
def dkwX0_side_0 : List UInt8 := [30, 22, 6, 105, 32, 22, 4, 105, 101, 22, 4, 22, 10, 105, 97, 22, 6, 22, 8, 105, 101, 22, 8, 32]
abbrev dktX0_side_0 : List UInt8 := dkwX0_side_0 ++ dktX0_side_1
theorem dksX0_side_0 : cX0_side.data.toList.drop 0 = dktX0_side_0 := by decide +kernel
theorem dksX0_side_1 : cX0_side.data.toList.drop 24 = dktX0_side_1 := dk_seg dksX0_side_0 24 rfl rfl
theorem dksX0_side_2 : cX0_side.data.toList.drop 48 = dktX0_side_2 := dk_seg dksX0_side_1 24 rfl rfl
theorem dX0_side_0 : decode cX0_side 0 = .ok (.lload_n 0, 1) := dk_30 (dk_at dksX0_side_0 0 rfl rfl)
theorem dX0_side_1 : decode cX0_side 1 = .ok (.lload 6, 2) := dk_22 6 (dk_at dksX0_side_0 1 rfl rfl)
theorem dX0_side_3 : decode cX0_side 3 = .ok (.lmul, 1) := dk_105 (dk_at dksX0_side_0 3 rfl rfl)
theorem dX0_side_4 : decode cX0_side 4 = .ok (.lload_n 2, 1) := dk_32 (dk_at dksX0_side_0 4 rfl rfl)
theorem dX0_side_5 : decode cX0_side 5 = .ok (.lload 4, 2) := dk_22 4 (dk_at dksX0_side_0 5 rfl rfl)
theorem dX0_side_7 : decode cX0_side 7 = .ok (.lmul, 1) := dk_105 (dk_at dksX0_side_0 7 rfl rfl)
theorem dX0_side_8 : decode cX0_side 8 = .ok (.lsub, 1) := dk_101 (dk_at dksX0_side_0 8 rfl rfl)
theorem dX0_side_9 : decode cX0_side 9 = .ok (.lload 4, 2) := dk_22 4 (dk_at dksX0_side_0 9 rfl rfl)
theorem dX0_side_11 : decode cX0_side 11 = .ok (.lload 10, 2) := dk_22 10 (dk_at dksX0_side_0 11 rfl rfl)
theorem dX0_side_13 : decode cX0_side 13 = .ok (.lmul, 1) := dk_105 (dk_at dksX0_side_0 13 rfl rfl)
theorem dX0_side_14 : decode cX0_side 14 = .ok (.ladd, 1) := dk_97 (dk_at dksX0_side_0 14 rfl rfl)
theorem dX0_side_15 : decode cX0_side 15 = .ok (.lload 6, 2) := dk_22 6 (dk_at dksX0_side_0 15 rfl rfl)
theorem dX0_side_17 : decode cX0_side 17 = .ok (.lload 8, 2) := dk_22 8 (dk_at dksX0_side_0 17 rfl rfl)
theorem dX0_side_19 : decode cX0_side 19 = .ok (.lmul, 1) := dk_105 (dk_at dksX0_side_0 19 rfl rfl)
theorem dX0_side_20 : decode cX0_side 20 = .ok (.lsub, 1) := dk_101 (dk_at dksX0_side_0 20 rfl rfl)
theorem dX0_side_21 : decode cX0_side 21 = .ok (.lload 8, 2) := dk_22 8 (dk_at dksX0_side_0 21 rfl rfl)
theorem dX0_side_23 : decode cX0_side 23 = .ok (.lload_n 2, 1) := dk_32 (dk_at dksX0_side_0 23 rfl rfl)
theorem dX0_side_24 : decode cX0_side 24 = .ok (.lmul, 1) := dk_105 (dk_at dksX0_side_1 0 rfl rfl)
theorem dX0_side_25 : decode cX0_side 25 = .ok (.ladd, 1) := dk_97 (dk_at dksX0_side_1 1 rfl rfl)
theorem dX0_side_26 : decode cX0_side 26 = .ok (.lload 10, 2) := dk_22 10 (dk_at dksX0_side_1 2 rfl rfl)
theorem dX0_side_28 : decode cX0_side 28 = .ok (.lload_n 0, 1) := dk_30 (dk_at dksX0_side_1 4 rfl rfl)
theorem dX0_side_29 : decode cX0_side 29 = .ok (.lmul, 1) := dk_105 (dk_at dksX0_side_1 5 rfl rfl)
theorem dX0_side_30 : decode cX0_side 30 = .ok (.lsub, 1) := dk_101 (dk_at dksX0_side_1 6 rfl rfl)
theorem dX0_side_31 : decode cX0_side 31 = .ok (.lstore 12, 2) := dk_55 12 (dk_at dksX0_side_1 7 rfl rfl)
theorem dX0_side_33 : decode cX0_side 33 = .ok (.lload 12, 2) := dk_22 12 (dk_at dksX0_side_1 9 rfl rfl)
theorem dX0_side_35 : decode cX0_side 35 = .ok (.lconst 0, 1) := dk_9 (dk_at dksX0_side_1 11 rfl rfl)
theorem dX0_side_36 : decode cX0_side 36 = .ok (.lcmp, 1) := dk_148 (dk_at dksX0_side_1 12 rfl rfl)
theorem dX0_side_37 : decode cX0_side 37 = .ok (.ifCond .le 7, 3) := dk_158 0 7 (dk_at dksX0_side_1 13 rfl rfl)
theorem dX0_side_40 : decode cX0_side 40 = .ok (.iconst 1, 1) := dk_4 (dk_at dksX0_side_1 16 rfl rfl)
theorem dX0_side_41 : decode cX0_side 41 = .ok (.goto 15, 3) := dk_167 0 15 (dk_at dksX0_side_1 17 rfl rfl)
theorem dX0_side_44 : decode cX0_side 44 = .ok (.lload 12, 2) := dk_22 12 (dk_at dksX0_side_1 20 rfl rfl)
theorem dX0_side_46 : decode cX0_side 46 = .ok (.lconst 0, 1) := dk_9 (dk_at dksX0_side_1 22 rfl rfl)
theorem dX0_side_47 : decode cX0_side 47 = .ok (.lcmp, 1) := dk_148 (dk_at dksX0_side_1 23 rfl rfl)
theorem dX0_side_48 : decode cX0_side 48 = .ok (.ifCond .ge 7, 3) := dk_156 0 7 (dk_at dksX0_side_2 0 rfl rfl)
theorem dX0_side_51 : decode cX0_side 51 = .ok (.iconst (-1), 1) := dk_2 (dk_at dksX0_side_2 3 rfl rfl)
theorem dX0_side_52 : decode cX0_side 52 = .ok (.goto 4, 3) := dk_167 0 4 (dk_at dksX0_side_2 4 rfl rfl)
theorem dX0_side_55 : decode cX0_side 55 = .ok (.iconst 0, 1) := dk_3 (dk_at dksX0_side_2 7 rfl rfl)
theorem dX0_side_56 : decode cX0_side 56 = .ok (.ireturn, 1) := dk_172 (dk_at dksX0_side_2 8 rfl rfl)
abbrev cX0_turnHolds : ByteArray := method_6_code
def yX0_turnHolds : MethodName := ⟨RX0, "turnHolds", "(LTurnDesk;[J[JIIII)Z"⟩
def dkwX0_turnHolds_3 : List UInt8 := [21, 7, 160, 0, 7, 4, 167, 0, 4, 3, 172]
abbrev dktX0_turnHolds_3 : List UInt8 := dkwX0_turnHolds_3 ++ []
def dkwX0_turnHolds_2 : List UInt8 := [43, 21, 10, 47, 44, 21, 10, 47, 184, 0, 8, 54, 7, 42, 21, 4, 21, 5, 21, 6, 182, 0, 18]
abbrev dktX0_turnHolds_2 : List UInt8 := dkwX0_turnHolds_2 ++ dktX0_turnHolds_3
def dkwX0_turnHolds_1 : List UInt8 := [21, 6, 29, 184, 0, 14, 54, 10, 43, 21, 8, 47, 44, 21, 8, 47, 43, 21, 9, 47, 44, 21, 9, 47]
abbrev dktX0_turnHolds_1 : List UInt8 := dkwX0_turnHolds_1 ++ dktX0_turnHolds_2
def dkwX0_turnHolds_0 : List UInt8 := [16, 247, 54, 7, 29, 158, 0, 56, 21, 4, 29, 184, 0, 14, 54, 8, 21, 5, 29, 184, 0, 14, 54, 9]
abbrev dktX0_turnHolds_0 : List UInt8 := dkwX0_turnHolds_0 ++ dktX0_turnHolds_1
theorem dksX0_turnHolds_0 : cX0_turnHolds.data.toList.drop 0 = dktX0_turnHolds_0 := by decide +kernel
theorem dksX0_turnHolds_1 : cX0_turnHolds.data.toList.drop 24 = dktX0_turnHolds_1 := dk_seg dksX0_turnHolds_0 24 rfl rfl
theorem dksX0_turnHolds_2 : cX0_turnHolds.data.toList.drop 48 = dktX0_turnHolds_2 := dk_seg dksX0_turnHolds_1 24 rfl rfl
theorem dksX0_turnHolds_3 : cX0_turnHolds.data.toList.drop 71 = dktX0_turnHolds_3 := dk_seg dksX0_turnHolds_2 23 rfl rfl
theorem dX0_turnHolds_0 : decode cX0_turnHolds 0 = .ok (.bipush (-9), 2) := dk_16 247 (dk_at dksX0_turnHolds_0 0 rfl rfl)
theorem dX0_turnHolds_2 : decode cX0_turnHolds 2 = .ok (.istore 7, 2) := dk_54 7 (dk_at dksX0_turnHolds_0 2 rfl rfl)
theorem dX0_turnHolds_4 : decode cX0_turnHolds 4 = .ok (.iload_n 3, 1) := dk_29 (dk_at dksX0_turnHolds_0 4 rfl rfl)
theorem dX0_turnHolds_5 : decode cX0_turnHolds 5 = .ok (.ifCond .le 56, 3) := dk_158 0 56 (dk_at dksX0_turnHolds_0 5 rfl rfl)
theorem dX0_turnHolds_8 : decode cX0_turnHolds 8 = .ok (.iload 4, 2) := dk_21 4 (dk_at dksX0_turnHolds_0 8 rfl rfl)
theorem dX0_turnHolds_10 : decode cX0_turnHolds 10 = .ok (.iload_n 3, 1) := dk_29 (dk_at dksX0_turnHolds_0 10 rfl rfl)
theorem dX0_turnHolds_11 : decode cX0_turnHolds 11 = .ok (.invokestatic 14, 3) := dk_184 0 14 (dk_at dksX0_turnHolds_0 11 rfl rfl)
theorem dX0_turnHolds_14 : decode cX0_turnHolds 14 = .ok (.istore 8, 2) := dk_54 8 (dk_at dksX0_turnHolds_0 14 rfl rfl)
theorem dX0_turnHolds_16 : decode cX0_turnHolds 16 = .ok (.iload 5, 2) := dk_21 5 (dk_at dksX0_turnHolds_0 16 rfl rfl)
theorem dX0_turnHolds_18 : decode cX0_turnHolds 18 = .ok (.iload_n 3, 1) := dk_29 (dk_at dksX0_turnHolds_0 18 rfl rfl)
theorem dX0_turnHolds_19 : decode cX0_turnHolds 19 = .ok (.invokestatic 14, 3) := dk_184 0 14 (dk_at dksX0_turnHolds_0 19 rfl rfl)
theorem dX0_turnHolds_22 : decode cX0_turnHolds 22 = .ok (.istore 9, 2) := dk_54 9 (dk_at dksX0_turnHolds_0 22 rfl rfl)
theorem dX0_turnHolds_24 : decode cX0_turnHolds 24 = .ok (.iload 6, 2) := dk_21 6 (dk_at dksX0_turnHolds_1 0 rfl rfl)
theorem dX0_turnHolds_26 : decode cX0_turnHolds 26 = .ok (.iload_n 3, 1) := dk_29 (dk_at dksX0_turnHolds_1 2 rfl rfl)
theorem dX0_turnHolds_27 : decode cX0_turnHolds 27 = .ok (.invokestatic 14, 3) := dk_184 0 14 (dk_at dksX0_turnHolds_1 3 rfl rfl)
theorem dX0_turnHolds_30 : decode cX0_turnHolds 30 = .ok (.istore 10, 2) := dk_54 10 (dk_at dksX0_turnHolds_1 6 rfl rfl)
theorem dX0_turnHolds_32 : decode cX0_turnHolds 32 = .ok (.aload_n 1, 1) := dk_43 (dk_at dksX0_turnHolds_1 8 rfl rfl)
theorem dX0_turnHolds_33 : decode cX0_turnHolds 33 = .ok (.iload 8, 2) := dk_21 8 (dk_at dksX0_turnHolds_1 9 rfl rfl)
theorem dX0_turnHolds_35 : decode cX0_turnHolds 35 = .ok (.laload, 1) := dk_47 (dk_at dksX0_turnHolds_1 11 rfl rfl)
theorem dX0_turnHolds_36 : decode cX0_turnHolds 36 = .ok (.aload_n 2, 1) := dk_44 (dk_at dksX0_turnHolds_1 12 rfl rfl)
theorem dX0_turnHolds_37 : decode cX0_turnHolds 37 = .ok (.iload 8, 2) := dk_21 8 (dk_at dksX0_turnHolds_1 13 rfl rfl)
theorem dX0_turnHolds_39 : decode cX0_turnHolds 39 = .ok (.laload, 1) := dk_47 (dk_at dksX0_turnHolds_1 15 rfl rfl)
theorem dX0_turnHolds_40 : decode cX0_turnHolds 40 = .ok (.aload_n 1, 1) := dk_43 (dk_at dksX0_turnHolds_1 16 rfl rfl)
theorem dX0_turnHolds_41 : decode cX0_turnHolds 41 = .ok (.iload 9, 2) := dk_21 9 (dk_at dksX0_turnHolds_1 17 rfl rfl)
theorem dX0_turnHolds_43 : decode cX0_turnHolds 43 = .ok (.laload, 1) := dk_47 (dk_at dksX0_turnHolds_1 19 rfl rfl)
theorem dX0_turnHolds_44 : decode cX0_turnHolds 44 = .ok (.aload_n 2, 1) := dk_44 (dk_at dksX0_turnHolds_1 20 rfl rfl)
theorem dX0_turnHolds_45 : decode cX0_turnHolds 45 = .ok (.iload 9, 2) := dk_21 9 (dk_at dksX0_turnHolds_1 21 rfl rfl)
theorem dX0_turnHolds_47 : decode cX0_turnHolds 47 = .ok (.laload, 1) := dk_47 (dk_at dksX0_turnHolds_1 23 rfl rfl)
theorem dX0_turnHolds_48 : decode cX0_turnHolds 48 = .ok (.aload_n 1, 1) := dk_43 (dk_at dksX0_turnHolds_2 0 rfl rfl)
theorem dX0_turnHolds_49 : decode cX0_turnHolds 49 = .ok (.iload 10, 2) := dk_21 10 (dk_at dksX0_turnHolds_2 1 rfl rfl)
theorem dX0_turnHolds_51 : decode cX0_turnHolds 51 = .ok (.laload, 1) := dk_47 (dk_at dksX0_turnHolds_2 3 rfl rfl)
theorem dX0_turnHolds_52 : decode cX0_turnHolds 52 = .ok (.aload_n 2, 1) := dk_44 (dk_at dksX0_turnHolds_2 4 rfl rfl)
theorem dX0_turnHolds_53 : decode cX0_turnHolds 53 = .ok (.iload 10, 2) := dk_21 10 (dk_at dksX0_turnHolds_2 5 rfl rfl)
theorem dX0_turnHolds_55 : decode cX0_turnHolds 55 = .ok (.laload, 1) := dk_47 (dk_at dksX0_turnHolds_2 7 rfl rfl)
theorem dX0_turnHolds_56 : decode cX0_turnHolds 56 = .ok (.invokestatic 8, 3) := dk_184 0 8 (dk_at dksX0_turnHolds_2 8 rfl rfl)
theorem dX0_turnHolds_59 : decode cX0_turnHolds 59 = .ok (.istore 7, 2) := dk_54 7 (dk_at dksX0_turnHolds_2 11 rfl rfl)
theorem dX0_turnHolds_61 : decode cX0_turnHolds 61 = .ok (.aload_n 0, 1) := dk_42 (dk_at dksX0_turnHolds_2 13 rfl rfl)
theorem dX0_turnHolds_62 : decode cX0_turnHolds 62 = .ok (.iload 4, 2) := dk_21 4 (dk_at dksX0_turnHolds_2 14 rfl rfl)
theorem dX0_turnHolds_64 : decode cX0_turnHolds 64 = .ok (.iload 5, 2) := dk_21 5 (dk_at dksX0_turnHolds_2 16 rfl rfl)
theorem dX0_turnHolds_66 : decode cX0_turnHolds 66 = .ok (.iload 6, 2) := dk_21 6 (dk_at dksX0_turnHolds_2 18 rfl rfl)
theorem dX0_turnHolds_68 : decode cX0_turnHolds 68 = .ok (.invokevirtual 18, 3) := dk_182 0 18 (dk_at dksX0_turnHolds_2 20 rfl rfl)
theorem dX0_turnHolds_71 : decode cX0_turnHolds 71 = .ok (.iload 7, 2) := dk_21 7 (dk_at dksX0_turnHolds_3 0 rfl rfl)
theorem dX0_turnHolds_73 : decode cX0_turnHolds 73 = .ok (.if_icmp .ne 7, 3) := dk_160 0 7 (dk_at dksX0_turnHolds_3 2 rfl rfl)
theorem dX0_turnHolds_76 : decode cX0_turnHolds 76 = .ok (.iconst 1, 1) := dk_4 (dk_at dksX0_turnHolds_3 5 rfl rfl)
theorem dX0_turnHolds_77 : decode cX0_turnHolds 77 = .ok (.goto 4, 3) := dk_167 0 4 (dk_at dksX0_turnHolds_3 6 rfl rfl)
theorem dX0_turnHolds_80 : decode cX0_turnHolds 80 = .ok (.iconst 0, 1) := dk_3 (dk_at dksX0_turnHolds_3 9 rfl rfl)
theorem dX0_turnHolds_81 : decode cX0_turnHolds 81 = .ok (.ireturn, 1) := dk_172 (dk_at dksX0_turnHolds_3 10 rfl rfl)
abbrev cX0_ownHolds : ByteArray := method_7_code
def yX0_ownHolds : MethodName := ⟨RX0, "ownHolds", "(LTurnDesk;[J[JIII)Z"⟩
def dkwX0_ownHolds_3 : List UInt8 := [167, 0, 4, 3, 172]
abbrev dktX0_ownHolds_3 : List UInt8 := dkwX0_ownHolds_3 ++ []
def dkwX0_ownHolds_2 : List UInt8 := [97, 4, 123, 184, 0, 24, 54, 6, 42, 21, 4, 21, 5, 182, 0, 28, 21, 6, 160, 0, 7, 4]
abbrev dktX0_ownHolds_2 : List UInt8 := dkwX0_ownHolds_2 ++ dktX0_ownHolds_3
def dkwX0_ownHolds_1 : List UInt8 := [54, 8, 43, 44, 29, 43, 21, 7, 47, 43, 21, 8, 47, 97, 4, 123, 44, 21, 7, 47, 44, 21, 8, 47]
abbrev dktX0_ownHolds_1 : List UInt8 := dkwX0_ownHolds_1 ++ dktX0_ownHolds_2
def dkwX0_ownHolds_0 : List UInt8 := [16, 247, 54, 6, 29, 6, 161, 0, 49, 21, 4, 29, 184, 0, 14, 54, 7, 21, 5, 29, 184, 0, 14]
abbrev dktX0_ownHolds_0 : List UInt8 := dkwX0_ownHolds_0 ++ dktX0_ownHolds_1
theorem dksX0_ownHolds_0 : cX0_ownHolds.data.toList.drop 0 = dktX0_ownHolds_0 := by decide +kernel
theorem dksX0_ownHolds_1 : cX0_ownHolds.data.toList.drop 23 = dktX0_ownHolds_1 := dk_seg dksX0_ownHolds_0 23 rfl rfl
theorem dksX0_ownHolds_2 : cX0_ownHolds.data.toList.drop 47 = dktX0_ownHolds_2 := dk_seg dksX0_ownHolds_1 24 rfl rfl
theorem dksX0_ownHolds_3 : cX0_ownHolds.data.toList.drop 69 = dktX0_ownHolds_3 := dk_seg dksX0_ownHolds_2 22 rfl rfl
theorem dX0_ownHolds_0 : decode cX0_ownHolds 0 = .ok (.bipush (-9), 2) := dk_16 247 (dk_at dksX0_ownHolds_0 0 rfl rfl)
theorem dX0_ownHolds_2 : decode cX0_ownHolds 2 = .ok (.istore 6, 2) := dk_54 6 (dk_at dksX0_ownHolds_0 2 rfl rfl)
theorem dX0_ownHolds_4 : decode cX0_ownHolds 4 = .ok (.iload_n 3, 1) := dk_29 (dk_at dksX0_ownHolds_0 4 rfl rfl)
theorem dX0_ownHolds_5 : decode cX0_ownHolds 5 = .ok (.iconst 3, 1) := dk_6 (dk_at dksX0_ownHolds_0 5 rfl rfl)
theorem dX0_ownHolds_6 : decode cX0_ownHolds 6 = .ok (.if_icmp .lt 49, 3) := dk_161 0 49 (dk_at dksX0_ownHolds_0 6 rfl rfl)
theorem dX0_ownHolds_9 : decode cX0_ownHolds 9 = .ok (.iload 4, 2) := dk_21 4 (dk_at dksX0_ownHolds_0 9 rfl rfl)
theorem dX0_ownHolds_11 : decode cX0_ownHolds 11 = .ok (.iload_n 3, 1) := dk_29 (dk_at dksX0_ownHolds_0 11 rfl rfl)
theorem dX0_ownHolds_12 : decode cX0_ownHolds 12 = .ok (.invokestatic 14, 3) := dk_184 0 14 (dk_at dksX0_ownHolds_0 12 rfl rfl)
theorem dX0_ownHolds_15 : decode cX0_ownHolds 15 = .ok (.istore 7, 2) := dk_54 7 (dk_at dksX0_ownHolds_0 15 rfl rfl)
theorem dX0_ownHolds_17 : decode cX0_ownHolds 17 = .ok (.iload 5, 2) := dk_21 5 (dk_at dksX0_ownHolds_0 17 rfl rfl)
theorem dX0_ownHolds_19 : decode cX0_ownHolds 19 = .ok (.iload_n 3, 1) := dk_29 (dk_at dksX0_ownHolds_0 19 rfl rfl)
theorem dX0_ownHolds_20 : decode cX0_ownHolds 20 = .ok (.invokestatic 14, 3) := dk_184 0 14 (dk_at dksX0_ownHolds_0 20 rfl rfl)
theorem dX0_ownHolds_23 : decode cX0_ownHolds 23 = .ok (.istore 8, 2) := dk_54 8 (dk_at dksX0_ownHolds_1 0 rfl rfl)
theorem dX0_ownHolds_25 : decode cX0_ownHolds 25 = .ok (.aload_n 1, 1) := dk_43 (dk_at dksX0_ownHolds_1 2 rfl rfl)
theorem dX0_ownHolds_26 : decode cX0_ownHolds 26 = .ok (.aload_n 2, 1) := dk_44 (dk_at dksX0_ownHolds_1 3 rfl rfl)
theorem dX0_ownHolds_27 : decode cX0_ownHolds 27 = .ok (.iload_n 3, 1) := dk_29 (dk_at dksX0_ownHolds_1 4 rfl rfl)
theorem dX0_ownHolds_28 : decode cX0_ownHolds 28 = .ok (.aload_n 1, 1) := dk_43 (dk_at dksX0_ownHolds_1 5 rfl rfl)
theorem dX0_ownHolds_29 : decode cX0_ownHolds 29 = .ok (.iload 7, 2) := dk_21 7 (dk_at dksX0_ownHolds_1 6 rfl rfl)
theorem dX0_ownHolds_31 : decode cX0_ownHolds 31 = .ok (.laload, 1) := dk_47 (dk_at dksX0_ownHolds_1 8 rfl rfl)
theorem dX0_ownHolds_32 : decode cX0_ownHolds 32 = .ok (.aload_n 1, 1) := dk_43 (dk_at dksX0_ownHolds_1 9 rfl rfl)
theorem dX0_ownHolds_33 : decode cX0_ownHolds 33 = .ok (.iload 8, 2) := dk_21 8 (dk_at dksX0_ownHolds_1 10 rfl rfl)
theorem dX0_ownHolds_35 : decode cX0_ownHolds 35 = .ok (.laload, 1) := dk_47 (dk_at dksX0_ownHolds_1 12 rfl rfl)
theorem dX0_ownHolds_36 : decode cX0_ownHolds 36 = .ok (.ladd, 1) := dk_97 (dk_at dksX0_ownHolds_1 13 rfl rfl)
theorem dX0_ownHolds_37 : decode cX0_ownHolds 37 = .ok (.iconst 1, 1) := dk_4 (dk_at dksX0_ownHolds_1 14 rfl rfl)
theorem dX0_ownHolds_38 : decode cX0_ownHolds 38 = .ok (.lshr, 1) := dk_123 (dk_at dksX0_ownHolds_1 15 rfl rfl)
theorem dX0_ownHolds_39 : decode cX0_ownHolds 39 = .ok (.aload_n 2, 1) := dk_44 (dk_at dksX0_ownHolds_1 16 rfl rfl)
theorem dX0_ownHolds_40 : decode cX0_ownHolds 40 = .ok (.iload 7, 2) := dk_21 7 (dk_at dksX0_ownHolds_1 17 rfl rfl)
theorem dX0_ownHolds_42 : decode cX0_ownHolds 42 = .ok (.laload, 1) := dk_47 (dk_at dksX0_ownHolds_1 19 rfl rfl)
theorem dX0_ownHolds_43 : decode cX0_ownHolds 43 = .ok (.aload_n 2, 1) := dk_44 (dk_at dksX0_ownHolds_1 20 rfl rfl)
theorem dX0_ownHolds_44 : decode cX0_ownHolds 44 = .ok (.iload 8, 2) := dk_21 8 (dk_at dksX0_ownHolds_1 21 rfl rfl)
theorem dX0_ownHolds_46 : decode cX0_ownHolds 46 = .ok (.laload, 1) := dk_47 (dk_at dksX0_ownHolds_1 23 rfl rfl)
theorem dX0_ownHolds_47 : decode cX0_ownHolds 47 = .ok (.ladd, 1) := dk_97 (dk_at dksX0_ownHolds_2 0 rfl rfl)
theorem dX0_ownHolds_48 : decode cX0_ownHolds 48 = .ok (.iconst 1, 1) := dk_4 (dk_at dksX0_ownHolds_2 1 rfl rfl)
theorem dX0_ownHolds_49 : decode cX0_ownHolds 49 = .ok (.lshr, 1) := dk_123 (dk_at dksX0_ownHolds_2 2 rfl rfl)
theorem dX0_ownHolds_50 : decode cX0_ownHolds 50 = .ok (.invokestatic 24, 3) := dk_184 0 24 (dk_at dksX0_ownHolds_2 3 rfl rfl)
theorem dX0_ownHolds_53 : decode cX0_ownHolds 53 = .ok (.istore 6, 2) := dk_54 6 (dk_at dksX0_ownHolds_2 6 rfl rfl)
theorem dX0_ownHolds_55 : decode cX0_ownHolds 55 = .ok (.aload_n 0, 1) := dk_42 (dk_at dksX0_ownHolds_2 8 rfl rfl)
theorem dX0_ownHolds_56 : decode cX0_ownHolds 56 = .ok (.iload 4, 2) := dk_21 4 (dk_at dksX0_ownHolds_2 9 rfl rfl)
theorem dX0_ownHolds_58 : decode cX0_ownHolds 58 = .ok (.iload 5, 2) := dk_21 5 (dk_at dksX0_ownHolds_2 11 rfl rfl)
theorem dX0_ownHolds_60 : decode cX0_ownHolds 60 = .ok (.invokevirtual 28, 3) := dk_182 0 28 (dk_at dksX0_ownHolds_2 13 rfl rfl)
theorem dX0_ownHolds_63 : decode cX0_ownHolds 63 = .ok (.iload 6, 2) := dk_21 6 (dk_at dksX0_ownHolds_2 16 rfl rfl)
theorem dX0_ownHolds_65 : decode cX0_ownHolds 65 = .ok (.if_icmp .ne 7, 3) := dk_160 0 7 (dk_at dksX0_ownHolds_2 18 rfl rfl)
theorem dX0_ownHolds_68 : decode cX0_ownHolds 68 = .ok (.iconst 1, 1) := dk_4 (dk_at dksX0_ownHolds_2 21 rfl rfl)
theorem dX0_ownHolds_69 : decode cX0_ownHolds 69 = .ok (.goto 4, 3) := dk_167 0 4 (dk_at dksX0_ownHolds_3 0 rfl rfl)
theorem dX0_ownHolds_72 : decode cX0_ownHolds 72 = .ok (.iconst 0, 1) := dk_3 (dk_at dksX0_ownHolds_3 3 rfl rfl)
theorem dX0_ownHolds_73 : decode cX0_ownHolds 73 = .ok (.ireturn, 1) := dk_172 (dk_at dksX0_ownHolds_3 4 rfl rfl)
theorem q5 : (Jvm.Cond.initialized "TurnDeskLaw") ∈ lw_all := lw_g (lw_at lw_m0 0 rfl) rfl
theorem q13 : (Jvm.Cond.classLink "TurnDeskLaw" (19 : Nat) "TurnDesk") ∈ lw_all := lw_g (lw_at lw_m0 8 rfl) rfl
theorem q15 : (Jvm.Cond.methodLink "TurnDeskLaw" (31 : Nat) ({ cls := "TurnDesk", name := "<init>", desc := "()V" } : Jvm.MethodName)) ∈ lw_all := lw_g (lw_at lw_m0 10 rfl) rfl
theorem q30 : (Jvm.Cond.methodLink "TurnDeskLaw" (36 : Nat) ({ cls := "TurnDesk", name := "put", desc := "(II)Z" } : Jvm.MethodName)) ∈ lw_all := lw_g (lw_at lw_m0 25 rfl) rfl
theorem q62 : (Jvm.Cond.methodLink "TurnDeskLaw" (40 : Nat) ({ cls := "TurnDesk", name := "between", desc := "(III)Z" } : Jvm.MethodName)) ∈ lw_all := lw_g (lw_at lw_m0 57 rfl) rfl
theorem q72 : (Jvm.Cond.methodLink "TurnDeskLaw" (46 : Nat) ({ cls := "TurnDesk", name := "wipe", desc := "()V" } : Jvm.MethodName)) ∈ lw_all := lw_g (lw_at lw_m0 67 rfl) rfl
theorem q76 : (Jvm.Cond.methodLink "TurnDeskLaw" (18 : Nat) ({ cls := "TurnDesk", name := "turn", desc := "(III)I" } : Jvm.MethodName)) ∈ lw_all := lw_g (lw_at lw_m0 71 rfl) rfl
theorem q148 : (Jvm.Cond.methodLink "TurnDeskLaw" (53 : Nat) ({ cls := "TurnDesk", name := "within", desc := "(II)I" } : Jvm.MethodName)) ∈ lw_all := lw_g (lw_at lw_m0 143 rfl) rfl
theorem q188 : (Jvm.Cond.methodLink "TurnDeskLaw" (32 : Nat) ({ cls := "TurnDeskLaw", name := "get", desc := "([II)I" } : Jvm.MethodName)) ∈ lw_all := lw_g (lw_at lw_m0 183 rfl) rfl
theorem q189 : (Jvm.Cond.static ({ cls := "TurnDeskLaw", name := "get", desc := "([II)I" } : Jvm.MethodName)) ∈ lw_all := lw_g (lw_at lw_m0 184 rfl) rfl
theorem q190 : (Jvm.Cond.code ({ cls := "TurnDeskLaw", name := "get", desc := "([II)I" } : Jvm.MethodName) method_2_code (2 : Nat) (Option.some Jvm.ClassFile.FieldType.int)) ∈ lw_all := lw_g (lw_at lw_m0 185 rfl) rfl
theorem q191 : (Jvm.Cond.methodLink "TurnDeskLaw" (14 : Nat) ({ cls := "TurnDeskLaw", name := "pick", desc := "(II)I" } : Jvm.MethodName)) ∈ lw_all := lw_g (lw_at lw_m0 186 rfl) rfl
theorem q192 : (Jvm.Cond.static ({ cls := "TurnDeskLaw", name := "pick", desc := "(II)I" } : Jvm.MethodName)) ∈ lw_all := lw_g (lw_at lw_m0 187 rfl) rfl
theorem q193 : (Jvm.Cond.code ({ cls := "TurnDeskLaw", name := "pick", desc := "(II)I" } : Jvm.MethodName) method_3_code (2 : Nat) (Option.some Jvm.ClassFile.FieldType.int)) ∈ lw_all := lw_g (lw_at lw_m0 188 rfl) rfl
theorem q194 : (Jvm.Cond.constant "TurnDeskLaw" (7 : Nat) (2147483647 : Int32)) ∈ lw_all := lw_g (lw_at lw_m0 189 rfl) rfl
theorem q195 : (Jvm.Cond.methodLink "TurnDeskLaw" (24 : Nat) ({ cls := "TurnDeskLaw", name := "place", desc := "([J[JIJJ)I" } : Jvm.MethodName)) ∈ lw_all := lw_g (lw_at lw_m0 190 rfl) rfl
theorem q196 : (Jvm.Cond.static ({ cls := "TurnDeskLaw", name := "place", desc := "([J[JIJJ)I" } : Jvm.MethodName)) ∈ lw_all := lw_g (lw_at lw_m0 191 rfl) rfl
theorem q197 : (Jvm.Cond.code ({ cls := "TurnDeskLaw", name := "place", desc := "([J[JIJJ)I" } : Jvm.MethodName) method_5_code (11 : Nat) (Option.some Jvm.ClassFile.FieldType.int)) ∈ lw_all := lw_g (lw_at lw_m0 192 rfl) rfl
theorem q198 : (Jvm.Cond.methodLink "TurnDeskLaw" (8 : Nat) ({ cls := "TurnDeskLaw", name := "side", desc := "(JJJJJJ)I" } : Jvm.MethodName)) ∈ lw_all := lw_g (lw_at lw_m0 193 rfl) rfl
theorem q199 : (Jvm.Cond.static ({ cls := "TurnDeskLaw", name := "side", desc := "(JJJJJJ)I" } : Jvm.MethodName)) ∈ lw_all := lw_g (lw_at lw_m0 194 rfl) rfl
theorem q200 : (Jvm.Cond.code ({ cls := "TurnDeskLaw", name := "side", desc := "(JJJJJJ)I" } : Jvm.MethodName) method_4_code (14 : Nat) (Option.some Jvm.ClassFile.FieldType.int)) ∈ lw_all := lw_g (lw_at lw_m0 195 rfl) rfl
theorem q201 : (Jvm.Cond.methodLink "TurnDeskLaw" (49 : Nat) ({ cls := "TurnDeskLaw", name := "turnHolds", desc := "(LTurnDesk;[J[JIIII)Z" } : Jvm.MethodName)) ∈ lw_all := lw_g (lw_at lw_m0 196 rfl) rfl
theorem q202 : (Jvm.Cond.static ({ cls := "TurnDeskLaw", name := "turnHolds", desc := "(LTurnDesk;[J[JIIII)Z" } : Jvm.MethodName)) ∈ lw_all := lw_g (lw_at lw_m0 197 rfl) rfl
theorem q203 : (Jvm.Cond.code ({ cls := "TurnDeskLaw", name := "turnHolds", desc := "(LTurnDesk;[J[JIIII)Z" } : Jvm.MethodName) method_6_code (11 : Nat) (Option.some Jvm.ClassFile.FieldType.boolean)) ∈ lw_all := lw_g (lw_at lw_m0 198 rfl) rfl
theorem q204 : (Jvm.Cond.methodLink "TurnDeskLaw" (56 : Nat) ({ cls := "TurnDeskLaw", name := "ownHolds", desc := "(LTurnDesk;[J[JIII)Z" } : Jvm.MethodName)) ∈ lw_all := lw_g (lw_at lw_m0 199 rfl) rfl
theorem q205 : (Jvm.Cond.static ({ cls := "TurnDeskLaw", name := "ownHolds", desc := "(LTurnDesk;[J[JIII)Z" } : Jvm.MethodName)) ∈ lw_all := lw_g (lw_at lw_m0 200 rfl) rfl
theorem q206 : (Jvm.Cond.code ({ cls := "TurnDeskLaw", name := "ownHolds", desc := "(LTurnDesk;[J[JIII)Z" } : Jvm.MethodName) method_7_code (9 : Nat) (Option.some Jvm.ClassFile.FieldType.boolean)) ∈ lw_all := lw_g (lw_at lw_m0 201 rfl) rfl
theorem q207 : (Jvm.Cond.methodLink "TurnDeskLaw" (28 : Nat) ({ cls := "TurnDesk", name := "own", desc := "(II)I" } : Jvm.MethodName)) ∈ lw_all := lw_g (lw_at lw_m0 202 rfl) rfl
theorem q211 : (Jvm.Cond.constantLong "TurnDeskLaw" (44 : Nat) (8 : Int64)) ∈ lw_all := lw_g (lw_at lw_m0 206 rfl) rfl
/-! the law's own entry -/
set_option maxRecDepth 100000
abbrev cL_law : ByteArray := code
def dkwL_law_21 : List UInt8 := [184, 0, 56, 154, 0, 5, 3, 172, 132, 7, 1, 167, 255, 206, 4, 172]
abbrev dktL_law_21 : List UInt8 := dkwL_law_21 ++ []
def dkwL_law_20 : List UInt8 := [4, 96, 21, 7, 5, 96, 184, 0, 49, 153, 0, 20, 43, 44, 45, 21, 4, 21, 7, 21, 7, 4, 96]
abbrev dktL_law_20 : List UInt8 := dkwL_law_20 ++ dktL_law_21
def dkwL_law_19 : List UInt8 := [153, 0, 5, 3, 172, 3, 54, 7, 21, 7, 21, 4, 163, 0, 49, 43, 44, 45, 21, 4, 21, 7, 21, 7]
abbrev dktL_law_19 : List UInt8 := dkwL_law_19 ++ dktL_law_20
def dkwL_law_18 : List UInt8 := [184, 0, 32, 42, 16, 59, 184, 0, 32, 182, 0, 36, 153, 0, 14, 25, 6, 3, 4, 5, 182, 0, 18]
abbrev dktL_law_18 : List UInt8 := dkwL_law_18 ++ dktL_law_19
def dkwL_law_17 : List UInt8 := [183, 0, 31, 58, 6, 25, 6, 3, 4, 5, 182, 0, 18, 16, 247, 160, 0, 34, 25, 6, 42, 16, 58]
abbrev dktL_law_17 : List UInt8 := dkwL_law_17 ++ dktL_law_18
def dkwL_law_16 : List UInt8 := [21, 4, 21, 7, 21, 8, 184, 0, 56, 154, 0, 5, 3, 172, 132, 5, 3, 167, 254, 144, 187, 0, 19, 89]
abbrev dktL_law_16 : List UInt8 := dkwL_law_16 ++ dktL_law_17
def dkwL_law_15 : List UInt8 := [133, 21, 8, 5, 122, 133, 184, 0, 24, 159, 0, 5, 3, 172, 132, 5, 3, 167, 0, 23, 43, 44, 45]
abbrev dktL_law_15 : List UInt8 := dkwL_law_15 ++ dktL_law_16
def dkwL_law_14 : List UInt8 := [21, 8, 182, 0, 53, 21, 4, 6, 162, 0, 8, 16, 247, 167, 0, 20, 44, 45, 21, 4, 21, 7, 5, 122]
abbrev dktL_law_14 : List UInt8 := dkwL_law_14 ++ dktL_law_15
def dkwL_law_13 : List UInt8 := [184, 0, 49, 154, 0, 5, 3, 172, 132, 5, 4, 167, 0, 76, 21, 6, 7, 160, 0, 50, 43, 21, 7]
abbrev dktL_law_13 : List UInt8 := dkwL_law_13 ++ dktL_law_14
def dkwL_law_12 : List UInt8 := [132, 5, 1, 167, 0, 107, 21, 6, 6, 160, 0, 28, 43, 44, 45, 21, 4, 21, 7, 21, 8, 21, 9]
abbrev dktL_law_12 : List UInt8 := dkwL_law_12 ++ dktL_law_13
def dkwL_law_11 : List UInt8 := [123, 80, 132, 4, 1, 132, 5, 4, 167, 0, 126, 21, 6, 5, 160, 0, 16, 43, 182, 0, 46, 3, 54, 4]
abbrev dktL_law_11 : List UInt8 := dkwL_law_11 ++ dktL_law_12
def dkwL_law_10 : List UInt8 := [80, 45, 21, 4, 20, 0, 44, 22, 13, 101, 45, 21, 11, 47, 105, 22, 13, 45, 21, 12, 47, 105, 97, 6]
abbrev dktL_law_10 : List UInt8 := dkwL_law_10 ++ dktL_law_11
def dkwL_law_9 : List UInt8 := [44, 21, 4, 20, 0, 44, 22, 13, 101, 44, 21, 11, 47, 105, 22, 13, 44, 21, 12, 47, 105, 97, 6, 123]
abbrev dktL_law_9 : List UInt8 := dkwL_law_9 ++ dktL_law_10
def dkwL_law_8 : List UInt8 := [21, 4, 184, 0, 14, 54, 11, 21, 8, 21, 4, 184, 0, 14, 54, 12, 21, 9, 16, 7, 126, 133, 55, 13]
abbrev dktL_law_8 : List UInt8 := dkwL_law_8 ++ dktL_law_9
def dkwL_law_7 : List UInt8 := [21, 7, 21, 8, 21, 9, 182, 0, 40, 21, 10, 159, 0, 5, 3, 172, 21, 10, 153, 0, 82, 21, 7]
abbrev dktL_law_7 : List UInt8 := dkwL_law_7 ++ dktL_law_8
def dkwL_law_6 : List UInt8 := [160, 0, 130, 21, 4, 5, 161, 0, 14, 21, 4, 16, 15, 162, 0, 7, 4, 167, 0, 4, 3, 54, 10, 43]
abbrev dktL_law_6 : List UInt8 := dkwL_law_6 ++ dktL_law_7
def dkwL_law_5 : List UInt8 := [80, 45, 21, 4, 21, 8, 5, 122, 133, 80, 132, 4, 1, 132, 5, 3, 167, 1, 3, 21, 6, 4]
abbrev dktL_law_5 : List UInt8 := dkwL_law_5 ++ dktL_law_6
def dkwL_law_4 : List UInt8 := [167, 0, 4, 3, 159, 0, 5, 3, 172, 21, 4, 16, 15, 162, 0, 24, 44, 21, 4, 21, 7, 5, 122, 133]
abbrev dktL_law_4 : List UInt8 := dkwL_law_4 ++ dktL_law_5
def dkwL_law_3 : List UInt8 := [54, 9, 21, 6, 154, 0, 62, 43, 21, 7, 21, 8, 182, 0, 36, 21, 4, 16, 15, 162, 0, 7, 4]
abbrev dktL_law_3 : List UInt8 := dkwL_law_3 ++ dktL_law_4
def dkwL_law_2 : List UInt8 := [184, 0, 32, 54, 7, 42, 21, 5, 5, 96, 184, 0, 32, 54, 8, 42, 21, 5, 6, 96, 184, 0, 32]
abbrev dktL_law_2 : List UInt8 := dkwL_law_2 ++ dktL_law_3
def dkwL_law_1 : List UInt8 := [21, 5, 16, 60, 162, 1, 111, 42, 21, 5, 184, 0, 32, 16, 7, 126, 54, 6, 42, 21, 5, 4, 96]
abbrev dktL_law_1 : List UInt8 := dkwL_law_1 ++ dktL_law_2
def dkwL_law_0 : List UInt8 := [187, 0, 19, 89, 183, 0, 31, 76, 16, 15, 188, 11, 77, 16, 15, 188, 11, 78, 3, 54, 4, 3, 54, 5]
abbrev dktL_law_0 : List UInt8 := dkwL_law_0 ++ dktL_law_1
theorem dksL_law_0 : cL_law.data.toList.drop 0 = dktL_law_0 := by decide +kernel
theorem dksL_law_1 : cL_law.data.toList.drop 24 = dktL_law_1 := dk_seg dksL_law_0 24 rfl rfl
theorem dksL_law_2 : cL_law.data.toList.drop 47 = dktL_law_2 := dk_seg dksL_law_1 23 rfl rfl
theorem dksL_law_3 : cL_law.data.toList.drop 70 = dktL_law_3 := dk_seg dksL_law_2 23 rfl rfl
theorem dksL_law_4 : cL_law.data.toList.drop 93 = dktL_law_4 := dk_seg dksL_law_3 23 rfl rfl
theorem dksL_law_5 : cL_law.data.toList.drop 117 = dktL_law_5 := dk_seg dksL_law_4 24 rfl rfl
theorem dksL_law_6 : cL_law.data.toList.drop 139 = dktL_law_6 := dk_seg dksL_law_5 22 rfl rfl
theorem dksL_law_7 : cL_law.data.toList.drop 163 = dktL_law_7 := dk_seg dksL_law_6 24 rfl rfl
theorem dksL_law_8 : cL_law.data.toList.drop 186 = dktL_law_8 := dk_seg dksL_law_7 23 rfl rfl
theorem dksL_law_9 : cL_law.data.toList.drop 210 = dktL_law_9 := dk_seg dksL_law_8 24 rfl rfl
theorem dksL_law_10 : cL_law.data.toList.drop 234 = dktL_law_10 := dk_seg dksL_law_9 24 rfl rfl
theorem dksL_law_11 : cL_law.data.toList.drop 258 = dktL_law_11 := dk_seg dksL_law_10 24 rfl rfl
theorem dksL_law_12 : cL_law.data.toList.drop 282 = dktL_law_12 := dk_seg dksL_law_11 24 rfl rfl
theorem dksL_law_13 : cL_law.data.toList.drop 305 = dktL_law_13 := dk_seg dksL_law_12 23 rfl rfl
theorem dksL_law_14 : cL_law.data.toList.drop 328 = dktL_law_14 := dk_seg dksL_law_13 23 rfl rfl
theorem dksL_law_15 : cL_law.data.toList.drop 352 = dktL_law_15 := dk_seg dksL_law_14 24 rfl rfl
theorem dksL_law_16 : cL_law.data.toList.drop 375 = dktL_law_16 := dk_seg dksL_law_15 23 rfl rfl
theorem dksL_law_17 : cL_law.data.toList.drop 399 = dktL_law_17 := dk_seg dksL_law_16 24 rfl rfl
theorem dksL_law_18 : cL_law.data.toList.drop 422 = dktL_law_18 := dk_seg dksL_law_17 23 rfl rfl
theorem dksL_law_19 : cL_law.data.toList.drop 445 = dktL_law_19 := dk_seg dksL_law_18 23 rfl rfl
theorem dksL_law_20 : cL_law.data.toList.drop 469 = dktL_law_20 := dk_seg dksL_law_19 24 rfl rfl
theorem dksL_law_21 : cL_law.data.toList.drop 492 = dktL_law_21 := dk_seg dksL_law_20 23 rfl rfl
theorem dL_law_0 : decode cL_law 0 = .ok (.new 19, 3) := dk_187 0 19 (dk_at dksL_law_0 0 rfl rfl)
theorem dL_law_3 : decode cL_law 3 = .ok (.dup, 1) := dk_89 (dk_at dksL_law_0 3 rfl rfl)
theorem dL_law_4 : decode cL_law 4 = .ok (.invokespecial 31, 3) := dk_183 0 31 (dk_at dksL_law_0 4 rfl rfl)
theorem dL_law_7 : decode cL_law 7 = .ok (.astore_n 1, 1) := dk_76 (dk_at dksL_law_0 7 rfl rfl)
theorem dL_law_8 : decode cL_law 8 = .ok (.bipush 15, 2) := dk_16 15 (dk_at dksL_law_0 8 rfl rfl)
theorem dL_law_10 : decode cL_law 10 = .ok (.newarray .long, 2) := dk_188_11 (dk_at dksL_law_0 10 rfl rfl)
theorem dL_law_12 : decode cL_law 12 = .ok (.astore_n 2, 1) := dk_77 (dk_at dksL_law_0 12 rfl rfl)
theorem dL_law_13 : decode cL_law 13 = .ok (.bipush 15, 2) := dk_16 15 (dk_at dksL_law_0 13 rfl rfl)
theorem dL_law_15 : decode cL_law 15 = .ok (.newarray .long, 2) := dk_188_11 (dk_at dksL_law_0 15 rfl rfl)
theorem dL_law_17 : decode cL_law 17 = .ok (.astore_n 3, 1) := dk_78 (dk_at dksL_law_0 17 rfl rfl)
theorem dL_law_18 : decode cL_law 18 = .ok (.iconst 0, 1) := dk_3 (dk_at dksL_law_0 18 rfl rfl)
theorem dL_law_19 : decode cL_law 19 = .ok (.istore 4, 2) := dk_54 4 (dk_at dksL_law_0 19 rfl rfl)
theorem dL_law_21 : decode cL_law 21 = .ok (.iconst 0, 1) := dk_3 (dk_at dksL_law_0 21 rfl rfl)
theorem dL_law_22 : decode cL_law 22 = .ok (.istore 5, 2) := dk_54 5 (dk_at dksL_law_0 22 rfl rfl)
theorem dL_law_24 : decode cL_law 24 = .ok (.iload 5, 2) := dk_21 5 (dk_at dksL_law_1 0 rfl rfl)
theorem dL_law_26 : decode cL_law 26 = .ok (.bipush 60, 2) := dk_16 60 (dk_at dksL_law_1 2 rfl rfl)
theorem dL_law_28 : decode cL_law 28 = .ok (.if_icmp .ge 367, 3) := dk_162 1 111 (dk_at dksL_law_1 4 rfl rfl)
theorem dL_law_31 : decode cL_law 31 = .ok (.aload_n 0, 1) := dk_42 (dk_at dksL_law_1 7 rfl rfl)
theorem dL_law_32 : decode cL_law 32 = .ok (.iload 5, 2) := dk_21 5 (dk_at dksL_law_1 8 rfl rfl)
theorem dL_law_34 : decode cL_law 34 = .ok (.invokestatic 32, 3) := dk_184 0 32 (dk_at dksL_law_1 10 rfl rfl)
theorem dL_law_37 : decode cL_law 37 = .ok (.bipush 7, 2) := dk_16 7 (dk_at dksL_law_1 13 rfl rfl)
theorem dL_law_39 : decode cL_law 39 = .ok (.iand, 1) := dk_126 (dk_at dksL_law_1 15 rfl rfl)
theorem dL_law_40 : decode cL_law 40 = .ok (.istore 6, 2) := dk_54 6 (dk_at dksL_law_1 16 rfl rfl)
theorem dL_law_42 : decode cL_law 42 = .ok (.aload_n 0, 1) := dk_42 (dk_at dksL_law_1 18 rfl rfl)
theorem dL_law_43 : decode cL_law 43 = .ok (.iload 5, 2) := dk_21 5 (dk_at dksL_law_1 19 rfl rfl)
theorem dL_law_45 : decode cL_law 45 = .ok (.iconst 1, 1) := dk_4 (dk_at dksL_law_1 21 rfl rfl)
theorem dL_law_46 : decode cL_law 46 = .ok (.iadd, 1) := dk_96 (dk_at dksL_law_1 22 rfl rfl)
theorem dL_law_47 : decode cL_law 47 = .ok (.invokestatic 32, 3) := dk_184 0 32 (dk_at dksL_law_2 0 rfl rfl)
theorem dL_law_50 : decode cL_law 50 = .ok (.istore 7, 2) := dk_54 7 (dk_at dksL_law_2 3 rfl rfl)
theorem dL_law_52 : decode cL_law 52 = .ok (.aload_n 0, 1) := dk_42 (dk_at dksL_law_2 5 rfl rfl)
theorem dL_law_53 : decode cL_law 53 = .ok (.iload 5, 2) := dk_21 5 (dk_at dksL_law_2 6 rfl rfl)
theorem dL_law_55 : decode cL_law 55 = .ok (.iconst 2, 1) := dk_5 (dk_at dksL_law_2 8 rfl rfl)
theorem dL_law_56 : decode cL_law 56 = .ok (.iadd, 1) := dk_96 (dk_at dksL_law_2 9 rfl rfl)
theorem dL_law_57 : decode cL_law 57 = .ok (.invokestatic 32, 3) := dk_184 0 32 (dk_at dksL_law_2 10 rfl rfl)
theorem dL_law_60 : decode cL_law 60 = .ok (.istore 8, 2) := dk_54 8 (dk_at dksL_law_2 13 rfl rfl)
theorem dL_law_62 : decode cL_law 62 = .ok (.aload_n 0, 1) := dk_42 (dk_at dksL_law_2 15 rfl rfl)
theorem dL_law_63 : decode cL_law 63 = .ok (.iload 5, 2) := dk_21 5 (dk_at dksL_law_2 16 rfl rfl)
theorem dL_law_65 : decode cL_law 65 = .ok (.iconst 3, 1) := dk_6 (dk_at dksL_law_2 18 rfl rfl)
theorem dL_law_66 : decode cL_law 66 = .ok (.iadd, 1) := dk_96 (dk_at dksL_law_2 19 rfl rfl)
theorem dL_law_67 : decode cL_law 67 = .ok (.invokestatic 32, 3) := dk_184 0 32 (dk_at dksL_law_2 20 rfl rfl)
theorem dL_law_70 : decode cL_law 70 = .ok (.istore 9, 2) := dk_54 9 (dk_at dksL_law_3 0 rfl rfl)
theorem dL_law_72 : decode cL_law 72 = .ok (.iload 6, 2) := dk_21 6 (dk_at dksL_law_3 2 rfl rfl)
theorem dL_law_74 : decode cL_law 74 = .ok (.ifCond .ne 62, 3) := dk_154 0 62 (dk_at dksL_law_3 4 rfl rfl)
theorem dL_law_77 : decode cL_law 77 = .ok (.aload_n 1, 1) := dk_43 (dk_at dksL_law_3 7 rfl rfl)
theorem dL_law_78 : decode cL_law 78 = .ok (.iload 7, 2) := dk_21 7 (dk_at dksL_law_3 8 rfl rfl)
theorem dL_law_80 : decode cL_law 80 = .ok (.iload 8, 2) := dk_21 8 (dk_at dksL_law_3 10 rfl rfl)
theorem dL_law_82 : decode cL_law 82 = .ok (.invokevirtual 36, 3) := dk_182 0 36 (dk_at dksL_law_3 12 rfl rfl)
theorem dL_law_85 : decode cL_law 85 = .ok (.iload 4, 2) := dk_21 4 (dk_at dksL_law_3 15 rfl rfl)
theorem dL_law_87 : decode cL_law 87 = .ok (.bipush 15, 2) := dk_16 15 (dk_at dksL_law_3 17 rfl rfl)
theorem dL_law_89 : decode cL_law 89 = .ok (.if_icmp .ge 7, 3) := dk_162 0 7 (dk_at dksL_law_3 19 rfl rfl)
theorem dL_law_92 : decode cL_law 92 = .ok (.iconst 1, 1) := dk_4 (dk_at dksL_law_3 22 rfl rfl)
theorem dL_law_93 : decode cL_law 93 = .ok (.goto 4, 3) := dk_167 0 4 (dk_at dksL_law_4 0 rfl rfl)
theorem dL_law_96 : decode cL_law 96 = .ok (.iconst 0, 1) := dk_3 (dk_at dksL_law_4 3 rfl rfl)
theorem dL_law_97 : decode cL_law 97 = .ok (.if_icmp .eq 5, 3) := dk_159 0 5 (dk_at dksL_law_4 4 rfl rfl)
theorem dL_law_100 : decode cL_law 100 = .ok (.iconst 0, 1) := dk_3 (dk_at dksL_law_4 7 rfl rfl)
theorem dL_law_101 : decode cL_law 101 = .ok (.ireturn, 1) := dk_172 (dk_at dksL_law_4 8 rfl rfl)
theorem dL_law_102 : decode cL_law 102 = .ok (.iload 4, 2) := dk_21 4 (dk_at dksL_law_4 9 rfl rfl)
theorem dL_law_104 : decode cL_law 104 = .ok (.bipush 15, 2) := dk_16 15 (dk_at dksL_law_4 11 rfl rfl)
theorem dL_law_106 : decode cL_law 106 = .ok (.if_icmp .ge 24, 3) := dk_162 0 24 (dk_at dksL_law_4 13 rfl rfl)
theorem dL_law_109 : decode cL_law 109 = .ok (.aload_n 2, 1) := dk_44 (dk_at dksL_law_4 16 rfl rfl)
theorem dL_law_110 : decode cL_law 110 = .ok (.iload 4, 2) := dk_21 4 (dk_at dksL_law_4 17 rfl rfl)
theorem dL_law_112 : decode cL_law 112 = .ok (.iload 7, 2) := dk_21 7 (dk_at dksL_law_4 19 rfl rfl)
theorem dL_law_114 : decode cL_law 114 = .ok (.iconst 2, 1) := dk_5 (dk_at dksL_law_4 21 rfl rfl)
theorem dL_law_115 : decode cL_law 115 = .ok (.ishr, 1) := dk_122 (dk_at dksL_law_4 22 rfl rfl)
theorem dL_law_116 : decode cL_law 116 = .ok (.i2l, 1) := dk_133 (dk_at dksL_law_4 23 rfl rfl)
theorem dL_law_117 : decode cL_law 117 = .ok (.lastore, 1) := dk_80 (dk_at dksL_law_5 0 rfl rfl)
theorem dL_law_118 : decode cL_law 118 = .ok (.aload_n 3, 1) := dk_45 (dk_at dksL_law_5 1 rfl rfl)
theorem dL_law_119 : decode cL_law 119 = .ok (.iload 4, 2) := dk_21 4 (dk_at dksL_law_5 2 rfl rfl)
theorem dL_law_121 : decode cL_law 121 = .ok (.iload 8, 2) := dk_21 8 (dk_at dksL_law_5 4 rfl rfl)
theorem dL_law_123 : decode cL_law 123 = .ok (.iconst 2, 1) := dk_5 (dk_at dksL_law_5 6 rfl rfl)
theorem dL_law_124 : decode cL_law 124 = .ok (.ishr, 1) := dk_122 (dk_at dksL_law_5 7 rfl rfl)
theorem dL_law_125 : decode cL_law 125 = .ok (.i2l, 1) := dk_133 (dk_at dksL_law_5 8 rfl rfl)
theorem dL_law_126 : decode cL_law 126 = .ok (.lastore, 1) := dk_80 (dk_at dksL_law_5 9 rfl rfl)
theorem dL_law_127 : decode cL_law 127 = .ok (.iinc 4 1, 3) := dk_132 4 1 (dk_at dksL_law_5 10 rfl rfl)
theorem dL_law_130 : decode cL_law 130 = .ok (.iinc 5 3, 3) := dk_132 5 3 (dk_at dksL_law_5 13 rfl rfl)
theorem dL_law_133 : decode cL_law 133 = .ok (.goto 259, 3) := dk_167 1 3 (dk_at dksL_law_5 16 rfl rfl)
theorem dL_law_136 : decode cL_law 136 = .ok (.iload 6, 2) := dk_21 6 (dk_at dksL_law_5 19 rfl rfl)
theorem dL_law_138 : decode cL_law 138 = .ok (.iconst 1, 1) := dk_4 (dk_at dksL_law_5 21 rfl rfl)
theorem dL_law_139 : decode cL_law 139 = .ok (.if_icmp .ne 130, 3) := dk_160 0 130 (dk_at dksL_law_6 0 rfl rfl)
theorem dL_law_142 : decode cL_law 142 = .ok (.iload 4, 2) := dk_21 4 (dk_at dksL_law_6 3 rfl rfl)
theorem dL_law_144 : decode cL_law 144 = .ok (.iconst 2, 1) := dk_5 (dk_at dksL_law_6 5 rfl rfl)
theorem dL_law_145 : decode cL_law 145 = .ok (.if_icmp .lt 14, 3) := dk_161 0 14 (dk_at dksL_law_6 6 rfl rfl)
theorem dL_law_148 : decode cL_law 148 = .ok (.iload 4, 2) := dk_21 4 (dk_at dksL_law_6 9 rfl rfl)
theorem dL_law_150 : decode cL_law 150 = .ok (.bipush 15, 2) := dk_16 15 (dk_at dksL_law_6 11 rfl rfl)
theorem dL_law_152 : decode cL_law 152 = .ok (.if_icmp .ge 7, 3) := dk_162 0 7 (dk_at dksL_law_6 13 rfl rfl)
theorem dL_law_155 : decode cL_law 155 = .ok (.iconst 1, 1) := dk_4 (dk_at dksL_law_6 16 rfl rfl)
theorem dL_law_156 : decode cL_law 156 = .ok (.goto 4, 3) := dk_167 0 4 (dk_at dksL_law_6 17 rfl rfl)
theorem dL_law_159 : decode cL_law 159 = .ok (.iconst 0, 1) := dk_3 (dk_at dksL_law_6 20 rfl rfl)
theorem dL_law_160 : decode cL_law 160 = .ok (.istore 10, 2) := dk_54 10 (dk_at dksL_law_6 21 rfl rfl)
theorem dL_law_162 : decode cL_law 162 = .ok (.aload_n 1, 1) := dk_43 (dk_at dksL_law_6 23 rfl rfl)
theorem dL_law_163 : decode cL_law 163 = .ok (.iload 7, 2) := dk_21 7 (dk_at dksL_law_7 0 rfl rfl)
theorem dL_law_165 : decode cL_law 165 = .ok (.iload 8, 2) := dk_21 8 (dk_at dksL_law_7 2 rfl rfl)
theorem dL_law_167 : decode cL_law 167 = .ok (.iload 9, 2) := dk_21 9 (dk_at dksL_law_7 4 rfl rfl)
theorem dL_law_169 : decode cL_law 169 = .ok (.invokevirtual 40, 3) := dk_182 0 40 (dk_at dksL_law_7 6 rfl rfl)
theorem dL_law_172 : decode cL_law 172 = .ok (.iload 10, 2) := dk_21 10 (dk_at dksL_law_7 9 rfl rfl)
theorem dL_law_174 : decode cL_law 174 = .ok (.if_icmp .eq 5, 3) := dk_159 0 5 (dk_at dksL_law_7 11 rfl rfl)
theorem dL_law_177 : decode cL_law 177 = .ok (.iconst 0, 1) := dk_3 (dk_at dksL_law_7 14 rfl rfl)
theorem dL_law_178 : decode cL_law 178 = .ok (.ireturn, 1) := dk_172 (dk_at dksL_law_7 15 rfl rfl)
theorem dL_law_179 : decode cL_law 179 = .ok (.iload 10, 2) := dk_21 10 (dk_at dksL_law_7 16 rfl rfl)
theorem dL_law_181 : decode cL_law 181 = .ok (.ifCond .eq 82, 3) := dk_153 0 82 (dk_at dksL_law_7 18 rfl rfl)
theorem dL_law_184 : decode cL_law 184 = .ok (.iload 7, 2) := dk_21 7 (dk_at dksL_law_7 21 rfl rfl)
theorem dL_law_186 : decode cL_law 186 = .ok (.iload 4, 2) := dk_21 4 (dk_at dksL_law_8 0 rfl rfl)
theorem dL_law_188 : decode cL_law 188 = .ok (.invokestatic 14, 3) := dk_184 0 14 (dk_at dksL_law_8 2 rfl rfl)
theorem dL_law_191 : decode cL_law 191 = .ok (.istore 11, 2) := dk_54 11 (dk_at dksL_law_8 5 rfl rfl)
theorem dL_law_193 : decode cL_law 193 = .ok (.iload 8, 2) := dk_21 8 (dk_at dksL_law_8 7 rfl rfl)
theorem dL_law_195 : decode cL_law 195 = .ok (.iload 4, 2) := dk_21 4 (dk_at dksL_law_8 9 rfl rfl)
theorem dL_law_197 : decode cL_law 197 = .ok (.invokestatic 14, 3) := dk_184 0 14 (dk_at dksL_law_8 11 rfl rfl)
theorem dL_law_200 : decode cL_law 200 = .ok (.istore 12, 2) := dk_54 12 (dk_at dksL_law_8 14 rfl rfl)
theorem dL_law_202 : decode cL_law 202 = .ok (.iload 9, 2) := dk_21 9 (dk_at dksL_law_8 16 rfl rfl)
theorem dL_law_204 : decode cL_law 204 = .ok (.bipush 7, 2) := dk_16 7 (dk_at dksL_law_8 18 rfl rfl)
theorem dL_law_206 : decode cL_law 206 = .ok (.iand, 1) := dk_126 (dk_at dksL_law_8 20 rfl rfl)
theorem dL_law_207 : decode cL_law 207 = .ok (.i2l, 1) := dk_133 (dk_at dksL_law_8 21 rfl rfl)
theorem dL_law_208 : decode cL_law 208 = .ok (.lstore 13, 2) := dk_55 13 (dk_at dksL_law_8 22 rfl rfl)
theorem dL_law_210 : decode cL_law 210 = .ok (.aload_n 2, 1) := dk_44 (dk_at dksL_law_9 0 rfl rfl)
theorem dL_law_211 : decode cL_law 211 = .ok (.iload 4, 2) := dk_21 4 (dk_at dksL_law_9 1 rfl rfl)
theorem dL_law_213 : decode cL_law 213 = .ok (.ldc2_w 44, 3) := dk_20 0 44 (dk_at dksL_law_9 3 rfl rfl)
theorem dL_law_216 : decode cL_law 216 = .ok (.lload 13, 2) := dk_22 13 (dk_at dksL_law_9 6 rfl rfl)
theorem dL_law_218 : decode cL_law 218 = .ok (.lsub, 1) := dk_101 (dk_at dksL_law_9 8 rfl rfl)
theorem dL_law_219 : decode cL_law 219 = .ok (.aload_n 2, 1) := dk_44 (dk_at dksL_law_9 9 rfl rfl)
theorem dL_law_220 : decode cL_law 220 = .ok (.iload 11, 2) := dk_21 11 (dk_at dksL_law_9 10 rfl rfl)
theorem dL_law_222 : decode cL_law 222 = .ok (.laload, 1) := dk_47 (dk_at dksL_law_9 12 rfl rfl)
theorem dL_law_223 : decode cL_law 223 = .ok (.lmul, 1) := dk_105 (dk_at dksL_law_9 13 rfl rfl)
theorem dL_law_224 : decode cL_law 224 = .ok (.lload 13, 2) := dk_22 13 (dk_at dksL_law_9 14 rfl rfl)
theorem dL_law_226 : decode cL_law 226 = .ok (.aload_n 2, 1) := dk_44 (dk_at dksL_law_9 16 rfl rfl)
theorem dL_law_227 : decode cL_law 227 = .ok (.iload 12, 2) := dk_21 12 (dk_at dksL_law_9 17 rfl rfl)
theorem dL_law_229 : decode cL_law 229 = .ok (.laload, 1) := dk_47 (dk_at dksL_law_9 19 rfl rfl)
theorem dL_law_230 : decode cL_law 230 = .ok (.lmul, 1) := dk_105 (dk_at dksL_law_9 20 rfl rfl)
theorem dL_law_231 : decode cL_law 231 = .ok (.ladd, 1) := dk_97 (dk_at dksL_law_9 21 rfl rfl)
theorem dL_law_232 : decode cL_law 232 = .ok (.iconst 3, 1) := dk_6 (dk_at dksL_law_9 22 rfl rfl)
theorem dL_law_233 : decode cL_law 233 = .ok (.lshr, 1) := dk_123 (dk_at dksL_law_9 23 rfl rfl)
theorem dL_law_234 : decode cL_law 234 = .ok (.lastore, 1) := dk_80 (dk_at dksL_law_10 0 rfl rfl)
theorem dL_law_235 : decode cL_law 235 = .ok (.aload_n 3, 1) := dk_45 (dk_at dksL_law_10 1 rfl rfl)
theorem dL_law_236 : decode cL_law 236 = .ok (.iload 4, 2) := dk_21 4 (dk_at dksL_law_10 2 rfl rfl)
theorem dL_law_238 : decode cL_law 238 = .ok (.ldc2_w 44, 3) := dk_20 0 44 (dk_at dksL_law_10 4 rfl rfl)
theorem dL_law_241 : decode cL_law 241 = .ok (.lload 13, 2) := dk_22 13 (dk_at dksL_law_10 7 rfl rfl)
theorem dL_law_243 : decode cL_law 243 = .ok (.lsub, 1) := dk_101 (dk_at dksL_law_10 9 rfl rfl)
theorem dL_law_244 : decode cL_law 244 = .ok (.aload_n 3, 1) := dk_45 (dk_at dksL_law_10 10 rfl rfl)
theorem dL_law_245 : decode cL_law 245 = .ok (.iload 11, 2) := dk_21 11 (dk_at dksL_law_10 11 rfl rfl)
theorem dL_law_247 : decode cL_law 247 = .ok (.laload, 1) := dk_47 (dk_at dksL_law_10 13 rfl rfl)
theorem dL_law_248 : decode cL_law 248 = .ok (.lmul, 1) := dk_105 (dk_at dksL_law_10 14 rfl rfl)
theorem dL_law_249 : decode cL_law 249 = .ok (.lload 13, 2) := dk_22 13 (dk_at dksL_law_10 15 rfl rfl)
theorem dL_law_251 : decode cL_law 251 = .ok (.aload_n 3, 1) := dk_45 (dk_at dksL_law_10 17 rfl rfl)
theorem dL_law_252 : decode cL_law 252 = .ok (.iload 12, 2) := dk_21 12 (dk_at dksL_law_10 18 rfl rfl)
theorem dL_law_254 : decode cL_law 254 = .ok (.laload, 1) := dk_47 (dk_at dksL_law_10 20 rfl rfl)
theorem dL_law_255 : decode cL_law 255 = .ok (.lmul, 1) := dk_105 (dk_at dksL_law_10 21 rfl rfl)
theorem dL_law_256 : decode cL_law 256 = .ok (.ladd, 1) := dk_97 (dk_at dksL_law_10 22 rfl rfl)
theorem dL_law_257 : decode cL_law 257 = .ok (.iconst 3, 1) := dk_6 (dk_at dksL_law_10 23 rfl rfl)
theorem dL_law_258 : decode cL_law 258 = .ok (.lshr, 1) := dk_123 (dk_at dksL_law_11 0 rfl rfl)
theorem dL_law_259 : decode cL_law 259 = .ok (.lastore, 1) := dk_80 (dk_at dksL_law_11 1 rfl rfl)
theorem dL_law_260 : decode cL_law 260 = .ok (.iinc 4 1, 3) := dk_132 4 1 (dk_at dksL_law_11 2 rfl rfl)
theorem dL_law_263 : decode cL_law 263 = .ok (.iinc 5 4, 3) := dk_132 5 4 (dk_at dksL_law_11 5 rfl rfl)
theorem dL_law_266 : decode cL_law 266 = .ok (.goto 126, 3) := dk_167 0 126 (dk_at dksL_law_11 8 rfl rfl)
theorem dL_law_269 : decode cL_law 269 = .ok (.iload 6, 2) := dk_21 6 (dk_at dksL_law_11 11 rfl rfl)
theorem dL_law_271 : decode cL_law 271 = .ok (.iconst 2, 1) := dk_5 (dk_at dksL_law_11 13 rfl rfl)
theorem dL_law_272 : decode cL_law 272 = .ok (.if_icmp .ne 16, 3) := dk_160 0 16 (dk_at dksL_law_11 14 rfl rfl)
theorem dL_law_275 : decode cL_law 275 = .ok (.aload_n 1, 1) := dk_43 (dk_at dksL_law_11 17 rfl rfl)
theorem dL_law_276 : decode cL_law 276 = .ok (.invokevirtual 46, 3) := dk_182 0 46 (dk_at dksL_law_11 18 rfl rfl)
theorem dL_law_279 : decode cL_law 279 = .ok (.iconst 0, 1) := dk_3 (dk_at dksL_law_11 21 rfl rfl)
theorem dL_law_280 : decode cL_law 280 = .ok (.istore 4, 2) := dk_54 4 (dk_at dksL_law_11 22 rfl rfl)
theorem dL_law_282 : decode cL_law 282 = .ok (.iinc 5 1, 3) := dk_132 5 1 (dk_at dksL_law_12 0 rfl rfl)
theorem dL_law_285 : decode cL_law 285 = .ok (.goto 107, 3) := dk_167 0 107 (dk_at dksL_law_12 3 rfl rfl)
theorem dL_law_288 : decode cL_law 288 = .ok (.iload 6, 2) := dk_21 6 (dk_at dksL_law_12 6 rfl rfl)
theorem dL_law_290 : decode cL_law 290 = .ok (.iconst 3, 1) := dk_6 (dk_at dksL_law_12 8 rfl rfl)
theorem dL_law_291 : decode cL_law 291 = .ok (.if_icmp .ne 28, 3) := dk_160 0 28 (dk_at dksL_law_12 9 rfl rfl)
theorem dL_law_294 : decode cL_law 294 = .ok (.aload_n 1, 1) := dk_43 (dk_at dksL_law_12 12 rfl rfl)
theorem dL_law_295 : decode cL_law 295 = .ok (.aload_n 2, 1) := dk_44 (dk_at dksL_law_12 13 rfl rfl)
theorem dL_law_296 : decode cL_law 296 = .ok (.aload_n 3, 1) := dk_45 (dk_at dksL_law_12 14 rfl rfl)
theorem dL_law_297 : decode cL_law 297 = .ok (.iload 4, 2) := dk_21 4 (dk_at dksL_law_12 15 rfl rfl)
theorem dL_law_299 : decode cL_law 299 = .ok (.iload 7, 2) := dk_21 7 (dk_at dksL_law_12 17 rfl rfl)
theorem dL_law_301 : decode cL_law 301 = .ok (.iload 8, 2) := dk_21 8 (dk_at dksL_law_12 19 rfl rfl)
theorem dL_law_303 : decode cL_law 303 = .ok (.iload 9, 2) := dk_21 9 (dk_at dksL_law_12 21 rfl rfl)
theorem dL_law_305 : decode cL_law 305 = .ok (.invokestatic 49, 3) := dk_184 0 49 (dk_at dksL_law_13 0 rfl rfl)
theorem dL_law_308 : decode cL_law 308 = .ok (.ifCond .ne 5, 3) := dk_154 0 5 (dk_at dksL_law_13 3 rfl rfl)
theorem dL_law_311 : decode cL_law 311 = .ok (.iconst 0, 1) := dk_3 (dk_at dksL_law_13 6 rfl rfl)
theorem dL_law_312 : decode cL_law 312 = .ok (.ireturn, 1) := dk_172 (dk_at dksL_law_13 7 rfl rfl)
theorem dL_law_313 : decode cL_law 313 = .ok (.iinc 5 4, 3) := dk_132 5 4 (dk_at dksL_law_13 8 rfl rfl)
theorem dL_law_316 : decode cL_law 316 = .ok (.goto 76, 3) := dk_167 0 76 (dk_at dksL_law_13 11 rfl rfl)
theorem dL_law_319 : decode cL_law 319 = .ok (.iload 6, 2) := dk_21 6 (dk_at dksL_law_13 14 rfl rfl)
theorem dL_law_321 : decode cL_law 321 = .ok (.iconst 4, 1) := dk_7 (dk_at dksL_law_13 16 rfl rfl)
theorem dL_law_322 : decode cL_law 322 = .ok (.if_icmp .ne 50, 3) := dk_160 0 50 (dk_at dksL_law_13 17 rfl rfl)
theorem dL_law_325 : decode cL_law 325 = .ok (.aload_n 1, 1) := dk_43 (dk_at dksL_law_13 20 rfl rfl)
theorem dL_law_326 : decode cL_law 326 = .ok (.iload 7, 2) := dk_21 7 (dk_at dksL_law_13 21 rfl rfl)
theorem dL_law_328 : decode cL_law 328 = .ok (.iload 8, 2) := dk_21 8 (dk_at dksL_law_14 0 rfl rfl)
theorem dL_law_330 : decode cL_law 330 = .ok (.invokevirtual 53, 3) := dk_182 0 53 (dk_at dksL_law_14 2 rfl rfl)
theorem dL_law_333 : decode cL_law 333 = .ok (.iload 4, 2) := dk_21 4 (dk_at dksL_law_14 5 rfl rfl)
theorem dL_law_335 : decode cL_law 335 = .ok (.iconst 3, 1) := dk_6 (dk_at dksL_law_14 7 rfl rfl)
theorem dL_law_336 : decode cL_law 336 = .ok (.if_icmp .ge 8, 3) := dk_162 0 8 (dk_at dksL_law_14 8 rfl rfl)
theorem dL_law_339 : decode cL_law 339 = .ok (.bipush (-9), 2) := dk_16 247 (dk_at dksL_law_14 11 rfl rfl)
theorem dL_law_341 : decode cL_law 341 = .ok (.goto 20, 3) := dk_167 0 20 (dk_at dksL_law_14 13 rfl rfl)
theorem dL_law_344 : decode cL_law 344 = .ok (.aload_n 2, 1) := dk_44 (dk_at dksL_law_14 16 rfl rfl)
theorem dL_law_345 : decode cL_law 345 = .ok (.aload_n 3, 1) := dk_45 (dk_at dksL_law_14 17 rfl rfl)
theorem dL_law_346 : decode cL_law 346 = .ok (.iload 4, 2) := dk_21 4 (dk_at dksL_law_14 18 rfl rfl)
theorem dL_law_348 : decode cL_law 348 = .ok (.iload 7, 2) := dk_21 7 (dk_at dksL_law_14 20 rfl rfl)
theorem dL_law_350 : decode cL_law 350 = .ok (.iconst 2, 1) := dk_5 (dk_at dksL_law_14 22 rfl rfl)
theorem dL_law_351 : decode cL_law 351 = .ok (.ishr, 1) := dk_122 (dk_at dksL_law_14 23 rfl rfl)
theorem dL_law_352 : decode cL_law 352 = .ok (.i2l, 1) := dk_133 (dk_at dksL_law_15 0 rfl rfl)
theorem dL_law_353 : decode cL_law 353 = .ok (.iload 8, 2) := dk_21 8 (dk_at dksL_law_15 1 rfl rfl)
theorem dL_law_355 : decode cL_law 355 = .ok (.iconst 2, 1) := dk_5 (dk_at dksL_law_15 3 rfl rfl)
theorem dL_law_356 : decode cL_law 356 = .ok (.ishr, 1) := dk_122 (dk_at dksL_law_15 4 rfl rfl)
theorem dL_law_357 : decode cL_law 357 = .ok (.i2l, 1) := dk_133 (dk_at dksL_law_15 5 rfl rfl)
theorem dL_law_358 : decode cL_law 358 = .ok (.invokestatic 24, 3) := dk_184 0 24 (dk_at dksL_law_15 6 rfl rfl)
theorem dL_law_361 : decode cL_law 361 = .ok (.if_icmp .eq 5, 3) := dk_159 0 5 (dk_at dksL_law_15 9 rfl rfl)
theorem dL_law_364 : decode cL_law 364 = .ok (.iconst 0, 1) := dk_3 (dk_at dksL_law_15 12 rfl rfl)
theorem dL_law_365 : decode cL_law 365 = .ok (.ireturn, 1) := dk_172 (dk_at dksL_law_15 13 rfl rfl)
theorem dL_law_366 : decode cL_law 366 = .ok (.iinc 5 3, 3) := dk_132 5 3 (dk_at dksL_law_15 14 rfl rfl)
theorem dL_law_369 : decode cL_law 369 = .ok (.goto 23, 3) := dk_167 0 23 (dk_at dksL_law_15 17 rfl rfl)
theorem dL_law_372 : decode cL_law 372 = .ok (.aload_n 1, 1) := dk_43 (dk_at dksL_law_15 20 rfl rfl)
theorem dL_law_373 : decode cL_law 373 = .ok (.aload_n 2, 1) := dk_44 (dk_at dksL_law_15 21 rfl rfl)
theorem dL_law_374 : decode cL_law 374 = .ok (.aload_n 3, 1) := dk_45 (dk_at dksL_law_15 22 rfl rfl)
theorem dL_law_375 : decode cL_law 375 = .ok (.iload 4, 2) := dk_21 4 (dk_at dksL_law_16 0 rfl rfl)
theorem dL_law_377 : decode cL_law 377 = .ok (.iload 7, 2) := dk_21 7 (dk_at dksL_law_16 2 rfl rfl)
theorem dL_law_379 : decode cL_law 379 = .ok (.iload 8, 2) := dk_21 8 (dk_at dksL_law_16 4 rfl rfl)
theorem dL_law_381 : decode cL_law 381 = .ok (.invokestatic 56, 3) := dk_184 0 56 (dk_at dksL_law_16 6 rfl rfl)
theorem dL_law_384 : decode cL_law 384 = .ok (.ifCond .ne 5, 3) := dk_154 0 5 (dk_at dksL_law_16 9 rfl rfl)
theorem dL_law_387 : decode cL_law 387 = .ok (.iconst 0, 1) := dk_3 (dk_at dksL_law_16 12 rfl rfl)
theorem dL_law_388 : decode cL_law 388 = .ok (.ireturn, 1) := dk_172 (dk_at dksL_law_16 13 rfl rfl)
theorem dL_law_389 : decode cL_law 389 = .ok (.iinc 5 3, 3) := dk_132 5 3 (dk_at dksL_law_16 14 rfl rfl)
theorem dL_law_392 : decode cL_law 392 = .ok (.goto (-368), 3) := dk_167 254 144 (dk_at dksL_law_16 17 rfl rfl)
theorem dL_law_395 : decode cL_law 395 = .ok (.new 19, 3) := dk_187 0 19 (dk_at dksL_law_16 20 rfl rfl)
theorem dL_law_398 : decode cL_law 398 = .ok (.dup, 1) := dk_89 (dk_at dksL_law_16 23 rfl rfl)
theorem dL_law_399 : decode cL_law 399 = .ok (.invokespecial 31, 3) := dk_183 0 31 (dk_at dksL_law_17 0 rfl rfl)
theorem dL_law_402 : decode cL_law 402 = .ok (.astore 6, 2) := dk_58 6 (dk_at dksL_law_17 3 rfl rfl)
theorem dL_law_404 : decode cL_law 404 = .ok (.aload 6, 2) := dk_25 6 (dk_at dksL_law_17 5 rfl rfl)
theorem dL_law_406 : decode cL_law 406 = .ok (.iconst 0, 1) := dk_3 (dk_at dksL_law_17 7 rfl rfl)
theorem dL_law_407 : decode cL_law 407 = .ok (.iconst 1, 1) := dk_4 (dk_at dksL_law_17 8 rfl rfl)
theorem dL_law_408 : decode cL_law 408 = .ok (.iconst 2, 1) := dk_5 (dk_at dksL_law_17 9 rfl rfl)
theorem dL_law_409 : decode cL_law 409 = .ok (.invokevirtual 18, 3) := dk_182 0 18 (dk_at dksL_law_17 10 rfl rfl)
theorem dL_law_412 : decode cL_law 412 = .ok (.bipush (-9), 2) := dk_16 247 (dk_at dksL_law_17 13 rfl rfl)
theorem dL_law_414 : decode cL_law 414 = .ok (.if_icmp .ne 34, 3) := dk_160 0 34 (dk_at dksL_law_17 15 rfl rfl)
theorem dL_law_417 : decode cL_law 417 = .ok (.aload 6, 2) := dk_25 6 (dk_at dksL_law_17 18 rfl rfl)
theorem dL_law_419 : decode cL_law 419 = .ok (.aload_n 0, 1) := dk_42 (dk_at dksL_law_17 20 rfl rfl)
theorem dL_law_420 : decode cL_law 420 = .ok (.bipush 58, 2) := dk_16 58 (dk_at dksL_law_17 21 rfl rfl)
theorem dL_law_422 : decode cL_law 422 = .ok (.invokestatic 32, 3) := dk_184 0 32 (dk_at dksL_law_18 0 rfl rfl)
theorem dL_law_425 : decode cL_law 425 = .ok (.aload_n 0, 1) := dk_42 (dk_at dksL_law_18 3 rfl rfl)
theorem dL_law_426 : decode cL_law 426 = .ok (.bipush 59, 2) := dk_16 59 (dk_at dksL_law_18 4 rfl rfl)
theorem dL_law_428 : decode cL_law 428 = .ok (.invokestatic 32, 3) := dk_184 0 32 (dk_at dksL_law_18 6 rfl rfl)
theorem dL_law_431 : decode cL_law 431 = .ok (.invokevirtual 36, 3) := dk_182 0 36 (dk_at dksL_law_18 9 rfl rfl)
theorem dL_law_434 : decode cL_law 434 = .ok (.ifCond .eq 14, 3) := dk_153 0 14 (dk_at dksL_law_18 12 rfl rfl)
theorem dL_law_437 : decode cL_law 437 = .ok (.aload 6, 2) := dk_25 6 (dk_at dksL_law_18 15 rfl rfl)
theorem dL_law_439 : decode cL_law 439 = .ok (.iconst 0, 1) := dk_3 (dk_at dksL_law_18 17 rfl rfl)
theorem dL_law_440 : decode cL_law 440 = .ok (.iconst 1, 1) := dk_4 (dk_at dksL_law_18 18 rfl rfl)
theorem dL_law_441 : decode cL_law 441 = .ok (.iconst 2, 1) := dk_5 (dk_at dksL_law_18 19 rfl rfl)
theorem dL_law_442 : decode cL_law 442 = .ok (.invokevirtual 18, 3) := dk_182 0 18 (dk_at dksL_law_18 20 rfl rfl)
theorem dL_law_445 : decode cL_law 445 = .ok (.ifCond .eq 5, 3) := dk_153 0 5 (dk_at dksL_law_19 0 rfl rfl)
theorem dL_law_448 : decode cL_law 448 = .ok (.iconst 0, 1) := dk_3 (dk_at dksL_law_19 3 rfl rfl)
theorem dL_law_449 : decode cL_law 449 = .ok (.ireturn, 1) := dk_172 (dk_at dksL_law_19 4 rfl rfl)
theorem dL_law_450 : decode cL_law 450 = .ok (.iconst 0, 1) := dk_3 (dk_at dksL_law_19 5 rfl rfl)
theorem dL_law_451 : decode cL_law 451 = .ok (.istore 7, 2) := dk_54 7 (dk_at dksL_law_19 6 rfl rfl)
theorem dL_law_453 : decode cL_law 453 = .ok (.iload 7, 2) := dk_21 7 (dk_at dksL_law_19 8 rfl rfl)
theorem dL_law_455 : decode cL_law 455 = .ok (.iload 4, 2) := dk_21 4 (dk_at dksL_law_19 10 rfl rfl)
theorem dL_law_457 : decode cL_law 457 = .ok (.if_icmp .gt 49, 3) := dk_163 0 49 (dk_at dksL_law_19 12 rfl rfl)
theorem dL_law_460 : decode cL_law 460 = .ok (.aload_n 1, 1) := dk_43 (dk_at dksL_law_19 15 rfl rfl)
theorem dL_law_461 : decode cL_law 461 = .ok (.aload_n 2, 1) := dk_44 (dk_at dksL_law_19 16 rfl rfl)
theorem dL_law_462 : decode cL_law 462 = .ok (.aload_n 3, 1) := dk_45 (dk_at dksL_law_19 17 rfl rfl)
theorem dL_law_463 : decode cL_law 463 = .ok (.iload 4, 2) := dk_21 4 (dk_at dksL_law_19 18 rfl rfl)
theorem dL_law_465 : decode cL_law 465 = .ok (.iload 7, 2) := dk_21 7 (dk_at dksL_law_19 20 rfl rfl)
theorem dL_law_467 : decode cL_law 467 = .ok (.iload 7, 2) := dk_21 7 (dk_at dksL_law_19 22 rfl rfl)
theorem dL_law_469 : decode cL_law 469 = .ok (.iconst 1, 1) := dk_4 (dk_at dksL_law_20 0 rfl rfl)
theorem dL_law_470 : decode cL_law 470 = .ok (.iadd, 1) := dk_96 (dk_at dksL_law_20 1 rfl rfl)
theorem dL_law_471 : decode cL_law 471 = .ok (.iload 7, 2) := dk_21 7 (dk_at dksL_law_20 2 rfl rfl)
theorem dL_law_473 : decode cL_law 473 = .ok (.iconst 2, 1) := dk_5 (dk_at dksL_law_20 4 rfl rfl)
theorem dL_law_474 : decode cL_law 474 = .ok (.iadd, 1) := dk_96 (dk_at dksL_law_20 5 rfl rfl)
theorem dL_law_475 : decode cL_law 475 = .ok (.invokestatic 49, 3) := dk_184 0 49 (dk_at dksL_law_20 6 rfl rfl)
theorem dL_law_478 : decode cL_law 478 = .ok (.ifCond .eq 20, 3) := dk_153 0 20 (dk_at dksL_law_20 9 rfl rfl)
theorem dL_law_481 : decode cL_law 481 = .ok (.aload_n 1, 1) := dk_43 (dk_at dksL_law_20 12 rfl rfl)
theorem dL_law_482 : decode cL_law 482 = .ok (.aload_n 2, 1) := dk_44 (dk_at dksL_law_20 13 rfl rfl)
theorem dL_law_483 : decode cL_law 483 = .ok (.aload_n 3, 1) := dk_45 (dk_at dksL_law_20 14 rfl rfl)
theorem dL_law_484 : decode cL_law 484 = .ok (.iload 4, 2) := dk_21 4 (dk_at dksL_law_20 15 rfl rfl)
theorem dL_law_486 : decode cL_law 486 = .ok (.iload 7, 2) := dk_21 7 (dk_at dksL_law_20 17 rfl rfl)
theorem dL_law_488 : decode cL_law 488 = .ok (.iload 7, 2) := dk_21 7 (dk_at dksL_law_20 19 rfl rfl)
theorem dL_law_490 : decode cL_law 490 = .ok (.iconst 1, 1) := dk_4 (dk_at dksL_law_20 21 rfl rfl)
theorem dL_law_491 : decode cL_law 491 = .ok (.iadd, 1) := dk_96 (dk_at dksL_law_20 22 rfl rfl)
theorem dL_law_492 : decode cL_law 492 = .ok (.invokestatic 56, 3) := dk_184 0 56 (dk_at dksL_law_21 0 rfl rfl)
theorem dL_law_495 : decode cL_law 495 = .ok (.ifCond .ne 5, 3) := dk_154 0 5 (dk_at dksL_law_21 3 rfl rfl)
theorem dL_law_498 : decode cL_law 498 = .ok (.iconst 0, 1) := dk_3 (dk_at dksL_law_21 6 rfl rfl)
theorem dL_law_499 : decode cL_law 499 = .ok (.ireturn, 1) := dk_172 (dk_at dksL_law_21 7 rfl rfl)
theorem dL_law_500 : decode cL_law 500 = .ok (.iinc 7 1, 3) := dk_132 7 1 (dk_at dksL_law_21 8 rfl rfl)
theorem dL_law_503 : decode cL_law 503 = .ok (.goto (-50), 3) := dk_167 255 206 (dk_at dksL_law_21 11 rfl rfl)
theorem dL_law_506 : decode cL_law 506 = .ok (.iconst 1, 1) := dk_4 (dk_at dksL_law_21 14 rfl rfl)
theorem dL_law_507 : decode cL_law 507 = .ok (.ireturn, 1) := dk_172 (dk_at dksL_law_21 15 rfl rfl)
theorem q22 : (Jvm.Cond.arrayOver (Jvm.ClassFile.FieldType.object "Coordinate")) ∈ lw_tbl := lw_at lw_m0 17 rfl
set_option maxRecDepth 100000
theorem q212 : (Jvm.Cond.arrayClass Jvm.ClassFile.FieldType.long) ∈ lw_all := lw_g (lw_at lw_m0 207 rfl) rfl
end
section
/-! ROUNDING OF NATURALS AND WHOLE NUMBERS to 53 digits, as a function; our own small float law (the library's is not among what a round imports) -/
theorem nr_exact (M : Nat) {B : Nat} (hB : 0 < B) : FP.Core.nearest (M * B) B = M := by
  unfold FP.Core.nearest
  rw [Nat.mul_mod_left, Nat.mul_div_cancel _ hB, if_pos (by omega)]
theorem nr_mono {A A' B : Nat} (h : A ≤ A') : FP.Core.nearest A B ≤ FP.Core.nearest A' B := by
  have hq : A / B ≤ A' / B := Nat.div_le_div_right h
  have d1 := Nat.div_add_mod A B
  have d2 := Nat.div_add_mod A' B
  have hr : A / B = A' / B → A % B ≤ A' % B := by
    intro e
    rw [e] at d1
    omega
  unfold FP.Core.nearest
  generalize A / B = k at *
  generalize A' / B = k' at *
  generalize A % B = r at *
  generalize A' % B = r' at *
  clear d1 d2
  repeat' split
  all_goals omega
theorem nr_le {A B M : Nat} (hB : 0 < B) (h : A ≤ M * B) : FP.Core.nearest A B ≤ M := Nat.le_trans (nr_mono h) (Nat.le_of_eq (nr_exact M hB))
theorem nr_ge {A B M : Nat} (hB : 0 < B) (h : M * B ≤ A) : M ≤ FP.Core.nearest A B := Nat.le_trans (Nat.le_of_eq (nr_exact M hB).symm) (nr_mono h)
theorem nr_near (A : Nat) {B : Nat} (hB : 0 < B) : 2 * (FP.Core.nearest A B * B) ≤ 2 * A + B ∧ 2 * A ≤ 2 * (FP.Core.nearest A B * B) + B := by
  have d := Nat.div_add_mod A B
  have hlt := Nat.mod_lt A hB
  unfold FP.Core.nearest
  generalize A / B = k at *
  generalize A % B = r at *
  have e : (k + 1) * B = k * B + B := by rw [Nat.add_mul, Nat.one_mul]
  have ec : B * k = k * B := Nat.mul_comm _ _
  rw [ec] at d
  split
  · generalize k * B = y at *
    omega
  · split
    · rw [e]
      generalize k * B = y at *
      omega
    · rcases (by omega : k % 2 = 0 ∨ k % 2 = 1) with h | h
      · rw [h, Nat.add_zero]
        generalize k * B = y at *
        omega
      · rw [h, e]
        generalize k * B = y at *
        omega
theorem nr_scale (A : Nat) {B t : Nat} (ht : 0 < t) : FP.Core.nearest (A * t) (B * t) = FP.Core.nearest A B := by
  unfold FP.Core.nearest
  rw [Nat.mul_mod_mul_right, Nat.mul_div_mul_right _ _ ht, ← Nat.mul_assoc]
  have e1 : 2 * (A % B) * t < B * t ↔ 2 * (A % B) < B := ⟨fun h => Nat.lt_of_mul_lt_mul_right h, fun h => Nat.mul_lt_mul_of_pos_right h ht⟩
  have e2 : B * t < 2 * (A % B) * t ↔ B < 2 * (A % B) := ⟨fun h => Nat.lt_of_mul_lt_mul_right h, fun h => Nat.mul_lt_mul_of_pos_right h ht⟩
  simp only [e1, e2]
theorem log2_scale {c : Nat} (h : c ≠ 0) (j : Nat) : (c * 2 ^ j).log2 = c.log2 + j := by
  have hp := Nat.two_pow_pos j
  have hn : c * 2 ^ j ≠ 0 := Nat.ne_of_gt (Nat.mul_pos (by omega) hp)
  have h1 : (c * 2 ^ j).log2 < c.log2 + 1 + j := (Nat.log2_lt hn).mpr (by rw [Nat.pow_add]; exact Nat.mul_lt_mul_of_pos_right Nat.lt_log2_self hp)
  have h2 : c.log2 + j ≤ (c * 2 ^ j).log2 := (Nat.le_log2 hn).mpr (by rw [Nat.pow_add]; exact Nat.mul_le_mul_right _ (Nat.log2_self_le h))
  omega
theorem sg_mul (s : Bool) (c k : Nat) : FP.Core.signed s (c * k) = FP.Core.signed s c * (k : Int) := by
  unfold FP.Core.signed
  cases s <;> simp [Int.neg_mul]
theorem sg_abs (i : Int) : FP.Core.signed (decide (i < 0)) i.natAbs = i := by
  unfold FP.Core.signed
  by_cases h : i < 0 <;> simp [h] <;> omega
theorem sg_natAbs (s : Bool) (c : Nat) : (FP.Core.signed s c).natAbs = c := by
  unfold FP.Core.signed
  cases s <;> simp
def rdN (n : Nat) : Nat := FP.Core.nearest n (2 ^ (n.log2 - 52)) * 2 ^ (n.log2 - 52)
def rd (i : Int) : Int := FP.Core.signed (decide (i < 0)) (rdN i.natAbs)
theorem rdN_small {n : Nat} (h : n < 2 ^ 53) : rdN n = n := by
  have hl : n.log2 - 52 = 0 := by
    by_cases h0 : n = 0
    · subst h0; rfl
    · have := (Nat.log2_lt h0).mpr h
      omega
  have h1 := nr_exact n (B := 1) (by decide)
  rw [Nat.mul_one] at h1
  unfold rdN
  rw [hl, show (2 : Nat) ^ 0 = 1 from rfl, h1, Nat.mul_one]
theorem log2_mono {m n : Nat} (hm : m ≠ 0) (h : m ≤ n) : m.log2 ≤ n.log2 := by
  have h1 := Nat.log2_self_le hm
  exact (Nat.le_log2 (by omega)).mpr (by omega)
theorem rdN_le {n : Nat} : rdN n ≤ 2 ^ (n.log2 + 1) := by
  have h1 : n < 2 ^ (n.log2 + 1) := Nat.lt_log2_self
  unfold rdN
  have e : (2 : Nat) ^ (n.log2 + 1) = 2 ^ (n.log2 + 1 - (n.log2 - 52)) * 2 ^ (n.log2 - 52) := by rw [← Nat.pow_add]; congr 1; omega
  refine Nat.le_trans (Nat.mul_le_mul_right _ (nr_le (M := 2 ^ (n.log2 + 1 - (n.log2 - 52))) (Nat.two_pow_pos _) ?_)) (Nat.le_of_eq e.symm)
  rw [← e]
  omega
theorem rdN_ge {n : Nat} (h0 : n ≠ 0) : 2 ^ n.log2 ≤ rdN n := by
  have h1 := Nat.log2_self_le h0
  unfold rdN
  have e : (2 : Nat) ^ n.log2 = 2 ^ (n.log2 - (n.log2 - 52)) * 2 ^ (n.log2 - 52) := by rw [← Nat.pow_add]; congr 1; omega
  refine Nat.le_trans (Nat.le_of_eq e) (Nat.mul_le_mul_right _ (nr_ge (Nat.two_pow_pos _) ?_))
  rw [← e]
  exact h1
theorem rdN_zero : rdN 0 = 0 := rdN_small (by decide)
theorem rdN_mono {m n : Nat} (h : m ≤ n) : rdN m ≤ rdN n := by
  by_cases h0 : m = 0
  · subst h0; rw [rdN_zero]; omega
  have hl := log2_mono h0 h
  by_cases e : m.log2 = n.log2
  · unfold rdN
    rw [e]
    exact Nat.mul_le_mul_right _ (nr_mono h)
  · refine Nat.le_trans rdN_le (Nat.le_trans (Nat.pow_le_pow_right (by decide) (by omega)) (rdN_ge (by omega)))
theorem rdN_dvd {n k : Nat} (h : 2 ^ (52 + k) ≤ n) : ∃ m, rdN n = m * 2 ^ k := by
  have h0 : n ≠ 0 := by have := Nat.two_pow_pos (52 + k); omega
  have h1 : 52 + k ≤ n.log2 := (Nat.le_log2 h0).mpr h
  refine ⟨FP.Core.nearest n (2 ^ (n.log2 - 52)) * 2 ^ (n.log2 - 52 - k), ?_⟩
  unfold rdN
  rw [Nat.mul_assoc, ← Nat.pow_add]
  congr 2
  omega
theorem rdN_near {n j : Nat} (h : n < 2 ^ (53 + j)) : 2 * rdN n ≤ 2 * n + 2 ^ j ∧ 2 * n ≤ 2 * rdN n + 2 ^ j := by
  by_cases h0 : n = 0
  · subst h0
    rw [rdN_zero]
    have := Nat.two_pow_pos j
    generalize 2 ^ j = J at this ⊢
    omega
  have hl : n.log2 < 53 + j := (Nat.log2_lt h0).mpr h
  have hk : 2 ^ (n.log2 - 52) ≤ 2 ^ j := Nat.pow_le_pow_right (by decide) (by omega)
  have hs := nr_near n (B := 2 ^ (n.log2 - 52)) (Nat.two_pow_pos _)
  unfold rdN
  generalize 2 ^ (n.log2 - 52) = B at *
  generalize 2 ^ j = J at *
  generalize FP.Core.nearest n B * B = y at *
  omega
theorem rdN_exact {m k : Nat} (hm : m < 2 ^ 53) : rdN (m * 2 ^ k) = m * 2 ^ k := by
  by_cases h0 : m = 0
  · subst h0; rw [Nat.zero_mul]; exact rdN_zero
  have hp := Nat.two_pow_pos k
  have hn : m * 2 ^ k ≠ 0 := Nat.ne_of_gt (Nat.mul_pos (by omega) hp)
  have hl : (m * 2 ^ k).log2 < 53 + k := (Nat.log2_lt hn).mpr (by rw [Nat.pow_add]; exact Nat.mul_lt_mul_of_pos_right hm hp)
  unfold rdN
  have e : m * 2 ^ k = m * 2 ^ (k - ((m * 2 ^ k).log2 - 52)) * 2 ^ ((m * 2 ^ k).log2 - 52) := by
    rw [Nat.mul_assoc, ← Nat.pow_add]
    congr 2
    omega
  generalize (m * 2 ^ k).log2 - 52 = j at *
  rw [e, nr_exact _ (Nat.two_pow_pos _)]
/-! on Int -/
theorem rd_nonneg {i : Int} (h : 0 ≤ i) : rd i = (rdN i.toNat : Int) := by
  unfold rd FP.Core.signed
  rw [show i.natAbs = i.toNat by omega]
  simp [show ¬ i < 0 by omega]
theorem rd_neg (i : Int) : rd (-i) = -rd i := by
  unfold rd FP.Core.signed
  rw [Int.natAbs_neg]
  by_cases h0 : i = 0
  · subst h0
    rw [show (0 : Int).natAbs = 0 from rfl, rdN_zero]
    decide
  · by_cases h : i < 0
    · simp [h, show ¬ (0 < i) by omega]
    · simp [h, show 0 < i by omega]
theorem rd_nonpos {i : Int} (h : i ≤ 0) : rd i = -(rdN (-i).toNat : Int) := by
  have := rd_nonneg (i := -i) (by omega)
  rw [rd_neg] at this
  omega
theorem rd_small {i : Int} (h : i.natAbs < 2 ^ 53) : rd i = i := by
  rcases Int.le_total 0 i with h0 | h0
  · rw [rd_nonneg h0, rdN_small (by omega)]; omega
  · rw [rd_nonpos h0, rdN_small (by omega)]; omega
theorem rd_mono {i j : Int} (h : i ≤ j) : rd i ≤ rd j := by
  rcases Int.le_total 0 i with h0 | h0
  · rw [rd_nonneg h0, rd_nonneg (by omega)]
    have := rdN_mono (m := i.toNat) (n := j.toNat) (by omega)
    omega
  · rw [rd_nonpos h0]
    rcases Int.le_total 0 j with h1 | h1
    · rw [rd_nonneg h1]; omega
    · rw [rd_nonpos h1]
      have := rdN_mono (m := (-j).toNat) (n := (-i).toNat) (by omega)
      omega
theorem rd_near {i : Int} {j : Nat} (h : i.natAbs < 2 ^ (53 + j)) : 2 * rd i ≤ 2 * i + ((2 ^ j : Nat) : Int) ∧ 2 * i ≤ 2 * rd i + ((2 ^ j : Nat) : Int) := by
  rcases Int.le_total 0 i with h0 | h0
  · have := rdN_near (n := i.toNat) (j := j) (by omega)
    rw [rd_nonneg h0]
    generalize 2 ^ j = J at *
    omega
  · have := rdN_near (n := (-i).toNat) (j := j) (by omega)
    rw [rd_nonpos h0]
    generalize 2 ^ j = J at *
    omega
theorem rd_dvd {i : Int} {k : Nat} (h : 2 ^ (52 + k) ≤ i.natAbs) : ∃ m : Int, rd i = m * ((2 ^ k : Nat) : Int) := by
  obtain ⟨m, hm⟩ := rdN_dvd h
  refine ⟨FP.Core.signed (decide (i < 0)) m, ?_⟩
  unfold rd
  rw [hm, sg_mul]
theorem rd_exact {m : Int} {k : Nat} (hm : m.natAbs < 2 ^ 53) : rd (m * ((2 ^ k : Nat) : Int)) = m * ((2 ^ k : Nat) : Int) := by
  have hp : (0 : Int) < ((2 ^ k : Nat) : Int) := by have := Nat.two_pow_pos k; omega
  have e : (m * ((2 ^ k : Nat) : Int)).natAbs = m.natAbs * 2 ^ k := by rw [Int.natAbs_mul, Int.natAbs_natCast]
  rcases Int.le_total 0 m with h0 | h0
  · have h1 := Int.mul_nonneg h0 (Int.le_of_lt hp)
    rw [rd_nonneg h1, show (m * ((2 ^ k : Nat) : Int)).toNat = m.natAbs * 2 ^ k by omega, rdN_exact hm, ← e]
    omega
  · have h1 := Int.mul_nonneg (a := -m) (by omega) (Int.le_of_lt hp)
    rw [Int.neg_mul] at h1
    rw [rd_nonpos (by omega), show (-(m * ((2 ^ k : Nat) : Int))).toNat = m.natAbs * 2 ^ k by omega, rdN_exact hm, ← e]
    omega
theorem rd_sign {i : Int} : (0 < i → 0 < rd i) ∧ (i < 0 → rd i < 0) ∧ (i = 0 → rd i = 0) := by
  have h1 : rd 1 = 1 := rd_small (by decide)
  have h2 : rd (-1) = -1 := rd_small (by decide)
  have h3 : rd 0 = 0 := rd_small (by decide)
  refine ⟨fun h => ?_, fun h => ?_, fun h => by rw [h]; exact h3⟩
  · have := rd_mono (i := 1) (j := i) (by omega); omega
  · have := rd_mono (i := i) (j := -1) (by omega); omega
/-- a rounded number is its own rounding -/
theorem rdN_rdN (n : Nat) : rdN (rdN n) = rdN n := by
  by_cases h0 : n = 0
  · subst h0; rw [rdN_zero, rdN_zero]
  have hle : FP.Core.nearest n (2 ^ (n.log2 - 52)) ≤ 2 ^ 53 := by
    refine nr_le (Nat.two_pow_pos _) ?_
    rw [← Nat.pow_add]
    have h1 : n < 2 ^ (n.log2 + 1) := Nat.lt_log2_self
    have h2 : (2 : Nat) ^ (n.log2 + 1) ≤ 2 ^ (53 + (n.log2 - 52)) := Nat.pow_le_pow_right (by decide) (by omega)
    omega
  by_cases hlt : FP.Core.nearest n (2 ^ (n.log2 - 52)) < 2 ^ 53
  · exact rdN_exact hlt
  · have e : rdN n = 1 * 2 ^ (53 + (n.log2 - 52)) := by
      unfold rdN
      rw [show FP.Core.nearest n (2 ^ (n.log2 - 52)) = 2 ^ 53 by omega, ← Nat.pow_add, Nat.one_mul]
    rw [e]
    exact rdN_exact (by decide)
theorem rd_rd (i : Int) : rd (rd i) = rd i := by
  rcases Int.le_total 0 i with h0 | h0
  · rw [rd_nonneg h0, rd_nonneg (by omega), Int.toNat_natCast, rdN_rdN]
  · rw [rd_nonpos h0, rd_neg, rd_nonneg (by omega), Int.toNat_natCast, rdN_rdN]
theorem rdN_scale (n j : Nat) (h : n = 0 ∨ n < 2 ^ 52 → rdN (n * 2 ^ j) = n * 2 ^ j) : rdN (n * 2 ^ j) = rdN n * 2 ^ j := by
  by_cases hs : n < 2 ^ 52
  · rw [h (Or.inr hs), rdN_small (by omega)]
  · have h0 : n ≠ 0 := by omega
    have hl : 52 ≤ n.log2 := (Nat.le_log2 h0).mpr (by omega)
    unfold rdN
    rw [log2_scale h0, show n.log2 + j - 52 = n.log2 - 52 + j by omega, Nat.pow_add, nr_scale _ (Nat.two_pow_pos _), Nat.mul_assoc]
theorem rdN_sc (n j : Nat) : rdN (n * 2 ^ j) = rdN n * 2 ^ j := rdN_scale n j (fun h => rdN_exact (by omega))
theorem rd_sc (i : Int) (j : Nat) : rd (i * ((2 ^ j : Nat) : Int)) = rd i * ((2 ^ j : Nat) : Int) := by
  have hp : (0 : Int) < ((2 ^ j : Nat) : Int) := by have := Nat.two_pow_pos j; omega
  have e : (i * ((2 ^ j : Nat) : Int)).natAbs = i.natAbs * 2 ^ j := by rw [Int.natAbs_mul, Int.natAbs_natCast]
  rcases Int.le_total 0 i with h0 | h0
  · have h1 := Int.mul_nonneg h0 (Int.le_of_lt hp)
    rw [rd_nonneg h1, rd_nonneg h0, show (i * ((2 ^ j : Nat) : Int)).toNat = i.toNat * 2 ^ j by rw [show i.toNat = i.natAbs by omega, ← e]; omega, rdN_sc]
    exact Int.natCast_mul _ _
  · have h1 := Int.mul_nonneg (a := -i) (by omega) (Int.le_of_lt hp)
    rw [Int.neg_mul] at h1
    rw [rd_nonpos (by omega), rd_nonpos h0, show (-(i * ((2 ^ j : Nat) : Int))).toNat = (-i).toNat * 2 ^ j by rw [show (-i).toNat = i.natAbs by omega, ← e]; omega, rdN_sc, Int.natCast_mul, Int.neg_mul]
end
section
/-! OUR FLOAT LAW: what a double's bits hold, in units of 2^-1074; the operations round with rd -/
def DV (z : Int) (a : UInt64) : Prop := ∃ (s : Bool) (c : Nat) (q : Int), FP.Core.decode FP.Core.b64 a.toNat = .fin s c q ∧ c < 2 ^ 53 ∧ -1074 ≤ q ∧ q ≤ 971 ∧ FP.Core.signed s (c * 2 ^ (q + 1074).toNat) = z
/-- the double a is the whole number i -/
def DI (i : Int) (a : UInt64) : Prop := DV (i * ((2 ^ 1074 : Nat) : Int)) a
/-- a datum that the format has -/
def Fit (d : FP.Core.Datum) : Prop := ∃ (s : Bool) (c : Nat) (q : Int), d = .fin s c q ∧ c < 2 ^ 53 ∧ -1074 ≤ q ∧ q ≤ 971 ∧ (q = -1074 ∨ 2 ^ 52 ≤ c)
theorem b64_tails : FP.Core.b64.tails = 4503599627370496 := by decide
theorem b64_exps : FP.Core.b64.exps = 2048 := by decide
theorem b64_qmin : FP.Core.b64.qmin = -1074 := by decide
theorem b64_qmax : FP.Core.b64.qmax = 971 := by decide
theorem fl_decode {d : FP.Core.Datum} (h : Fit d) : FP.Core.decode FP.Core.b64 (UInt64.ofNat (FP.Core.encode FP.Core.b64 d)).toNat = d := by
  obtain ⟨s, c, q, rfl, hc, h1, h2, h3⟩ := h
  have key : ∀ n : Nat, FP.Core.encode FP.Core.b64 (.fin s c q) = n → n < 2 ^ 64 ∧ FP.Core.decode FP.Core.b64 n = .fin s c q := by
    intro n hn
    unfold FP.Core.encode FP.Core.assemble at hn
    simp only [b64_tails, b64_exps, b64_qmin] at hn
    unfold FP.Core.decode FP.Core.fieldT FP.Core.fieldE FP.Core.fieldS
    simp only [b64_tails, b64_exps, b64_qmin]
    by_cases hlt : c < 4503599627370496
    · rw [if_pos hlt] at hn
      have hq : q = -1074 := by omega
      cases s
      · simp only [Bool.toNat_false] at hn
        have e1 : n % 4503599627370496 = c := by omega
        have e2 : n / 4503599627370496 % 2048 = 0 := by omega
        have e3 : n / 4503599627370496 / 2048 % 2 = 0 := by omega
        refine ⟨by omega, ?_⟩
        rw [e1, e2, e3, hq]
        rfl
      · simp only [Bool.toNat_true] at hn
        have e1 : n % 4503599627370496 = c := by omega
        have e2 : n / 4503599627370496 % 2048 = 0 := by omega
        have e3 : n / 4503599627370496 / 2048 % 2 = 1 := by omega
        refine ⟨by omega, ?_⟩
        rw [e1, e2, e3, hq]
        rfl
    · rw [if_neg hlt] at hn
      obtain ⟨E, hE⟩ : ∃ E : Nat, (q - -1074).toNat = E := ⟨_, rfl⟩
      rw [hE] at hn
      have hEq : q = -1074 + ((E + 1 : Nat) : Int) - 1 := by omega
      have hE2 : E ≤ 2045 := by omega
      cases s
      · simp only [Bool.toNat_false] at hn
        have e1 : n % 4503599627370496 = c - 4503599627370496 := by omega
        have e2 : n / 4503599627370496 % 2048 = E + 1 := by omega
        have e3 : n / 4503599627370496 / 2048 % 2 = 0 := by omega
        refine ⟨by omega, ?_⟩
        rw [e1, e2, e3, if_neg (by omega), if_neg (by omega), show 4503599627370496 + (c - 4503599627370496) = c by omega, show (-1074 : Int) + (((E + 1 : Nat) : Int) - 1) = q by omega]
        rfl
      · simp only [Bool.toNat_true] at hn
        have e1 : n % 4503599627370496 = c - 4503599627370496 := by omega
        have e2 : n / 4503599627370496 % 2048 = E + 1 := by omega
        have e3 : n / 4503599627370496 / 2048 % 2 = 1 := by omega
        refine ⟨by omega, ?_⟩
        rw [e1, e2, e3, if_neg (by omega), if_neg (by omega), show 4503599627370496 + (c - 4503599627370496) = c by omega, show (-1074 : Int) + (((E + 1 : Nat) : Int) - 1) = q by omega]
        rfl
  obtain ⟨k1, k2⟩ := key _ rfl
  rw [UInt64.toNat_ofNat_of_lt' k1]
  exact k2
/-- rounding a datum whose last digit isn't below the format's -/
theorem fl_round {s : Bool} {c : Nat} {q : Int} (hq : c = 0 ∨ -1074 ≤ q) (hM : c * 2 ^ (q + 1074).toNat < 2 ^ 1200) :
    ∃ (c' : Nat) (q' : Int), FP.Core.round FP.Core.b64 (.fin s c q) = .fin s c' q' ∧ Fit (.fin s c' q') ∧ c' * 2 ^ (q' + 1074).toNat = rdN (c * 2 ^ (q + 1074).toNat) := by
  show ∃ (c' : Nat) (q' : Int), FP.Core.roundRatio FP.Core.b64 s c 1 q = .fin s c' q' ∧ _
  unfold FP.Core.roundRatio
  by_cases h0 : c = 0
  · subst h0
    refine ⟨0, -1074, by rw [if_pos rfl, b64_qmin], ⟨_, _, _, rfl, by omega, by omega, by omega, Or.inl rfl⟩, ?_⟩
    rw [Nat.zero_mul, Nat.zero_mul, rdN_zero]
  · have hq1 : -1074 ≤ q := by omega
    obtain ⟨j, hj⟩ : ∃ j : Nat, (q + 1074).toNat = j := ⟨_, rfl⟩
    have hqj : q = (j : Int) - 1074 := by omega
    rw [hj] at hM ⊢
    rw [if_neg h0]
    have hlog := log2_scale h0 j
    have hp := Nat.two_pow_pos j
    have hn0 : c * 2 ^ j ≠ 0 := Nat.ne_of_gt (Nat.mul_pos (by omega) hp)
    have hL : c.log2 + j < 1200 := by
      rw [← hlog]
      exact (Nat.log2_lt hn0).mpr hM
    have hlow := Nat.log2_self_le h0
    have hlead : FP.Core.leading c 1 = (c.log2 : Int) := by
      unfold FP.Core.leading
      have e1 : (1 : Nat).log2 = 0 := by decide
      simp only [e1]
      rw [show ((c.log2 : Int) - ((0 : Nat) : Int)) = (c.log2 : Int) by omega, if_pos]
      rw [show ((c.log2 : Int)).toNat = c.log2 by omega, show (-(c.log2 : Int)).toNat = 0 by omega]
      omega
    obtain ⟨k, hk⟩ : ∃ k : Nat, c.log2 + j - 52 = k := ⟨_, rfl⟩
    have hquant : FP.Core.quantum FP.Core.b64 c 1 q = (k : Int) - 1074 := by
      unfold FP.Core.quantum
      rw [hlead, b64_qmin]
      show max (-1074) ((c.log2 : Int) + q - ((53 : Nat) - 1 : Int)) = _
      omega
    rw [hquant]
    unfold FP.Core.roundAt FP.Core.unitsNum FP.Core.unitsDen
    have hnear : FP.Core.nearest (c * 2 ^ (q - ((k : Int) - 1074)).toNat) (1 * 2 ^ ((k : Int) - 1074 - q).toNat) = FP.Core.nearest (c * 2 ^ j) (2 ^ k) := by
      rw [show (q - ((k : Int) - 1074)).toNat = j - k by omega, show ((k : Int) - 1074 - q).toNat = k - j by omega, Nat.one_mul]
      rcases Nat.le_total k j with hkj | hkj
      · rw [← nr_scale (c * 2 ^ (j - k)) (Nat.two_pow_pos k), Nat.mul_assoc, ← Nat.pow_add, ← Nat.pow_add, show j - k + k = j by omega, show k - j + k = k by omega]
      · rw [← nr_scale (c * 2 ^ (j - k)) (Nat.two_pow_pos j), Nat.mul_assoc, ← Nat.pow_add, ← Nat.pow_add, show j - k + j = j by omega, show k - j + j = k by omega]
    rw [hnear]
    have hrd : rdN (c * 2 ^ j) = FP.Core.nearest (c * 2 ^ j) (2 ^ k) * 2 ^ k := by
      unfold rdN
      rw [hlog, hk]
    have hle : FP.Core.nearest (c * 2 ^ j) (2 ^ k) ≤ 2 ^ 53 := by
      refine nr_le (Nat.two_pow_pos _) ?_
      rw [← Nat.pow_add]
      have h1 : c * 2 ^ j < 2 ^ ((c * 2 ^ j).log2 + 1) := Nat.lt_log2_self
      have h2 : (2 : Nat) ^ ((c * 2 ^ j).log2 + 1) ≤ 2 ^ (53 + k) := Nat.pow_le_pow_right (by decide) (by omega)
      omega
    have hge : k ≠ 0 → 2 ^ 52 ≤ FP.Core.nearest (c * 2 ^ j) (2 ^ k) := by
      intro hk0
      refine nr_ge (Nat.two_pow_pos _) ?_
      rw [← Nat.pow_add, show 52 + k = (c * 2 ^ j).log2 by omega]
      exact Nat.log2_self_le hn0
    rw [hrd]
    generalize FP.Core.nearest (c * 2 ^ j) (2 ^ k) = M at *
    unfold FP.Core.settle FP.Core.bound
    rw [b64_qmax, b64_tails]
    show ∃ (c' : Nat) (q' : Int), (if M < 2 ^ 53 then _ else _) = _ ∧ _
    by_cases hM2 : M < 2 ^ 53
    · refine ⟨M, (k : Int) - 1074, ?_, ⟨_, _, _, rfl, hM2, by omega, by omega, ?_⟩, ?_⟩
      · rw [if_pos hM2, if_pos (by omega)]
      · by_cases hk0 : k = 0
        · left; omega
        · right; exact hge hk0
      · rw [show ((k : Int) - 1074 + 1074).toNat = k by omega]
    · refine ⟨4503599627370496, (k : Int) - 1074 + 1, ?_, ⟨_, _, _, rfl, by omega, by omega, by omega, Or.inr (by omega)⟩, ?_⟩
      · rw [if_neg hM2, if_pos (by omega)]
      · rw [show ((k : Int) - 1074 + 1 + 1074).toNat = k + 1 by omega, show M = 2 ^ 53 by omega, Nat.pow_succ 2 k]
        omega
/-- an operation whose exact result is the datum d -/
theorem fl_op {s : Bool} {c : Nat} {q : Int} {d : FP.Core.Datum} (hd : d = .fin s c q) (hq : c = 0 ∨ -1074 ≤ q) (hM : c * 2 ^ (q + 1074).toNat < 2 ^ 1200) :
    DV (FP.Core.signed s (rdN (c * 2 ^ (q + 1074).toNat))) (UInt64.ofNat (FP.Core.encode FP.Core.b64 (FP.Core.round FP.Core.b64 d))) := by
  subst hd
  obtain ⟨c', q', h1, h2, h3⟩ := fl_round (s := s) hq hM
  rw [h1]
  have h4 := fl_decode h2
  obtain ⟨s2, c2, q2, e, g1, g2, g3, g4⟩ := h2
  cases e
  exact ⟨_, _, _, h4, g1, g2, g3, by rw [h3]⟩
end
section
/-! the operations of doubles, by DV and DI -/
theorem nat_xor {a : Nat} (h : a < 18446744073709551616) : a ^^^ 2 ^ 63 = (a + 9223372036854775808) % 18446744073709551616 := by
  have h1 : (a ^^^ 2 ^ 63) % 2 ^ 63 = a % 2 ^ 63 := by rw [Nat.xor_mod_two_pow, Nat.mod_self, Nat.xor_zero]
  have h2 : (a ^^^ 2 ^ 63) / 2 ^ 63 = (a / 2 ^ 63) ^^^ 1 := by rw [Nat.xor_div_two_pow, Nat.div_self (Nat.two_pow_pos 63)]
  have h3 : a / 2 ^ 63 = 0 ∨ a / 2 ^ 63 = 1 := by omega
  generalize a ^^^ 2 ^ 63 = t at h1 h2
  rcases h3 with h3 | h3
  · rw [h3] at h2
    have h2 : t / 2 ^ 63 = 1 := h2
    omega
  · rw [h3] at h2
    have h2 : t / 2 ^ 63 = 0 := h2
    omega
theorem sg_zero (s : Bool) : FP.Core.signed s 0 = 0 := by cases s <;> rfl
theorem sg_not (s : Bool) (n : Nat) : FP.Core.signed (!s) n = -FP.Core.signed s n := by cases s <;> simp [FP.Core.signed]
theorem sg_xor (s t : Bool) (n m : Nat) : FP.Core.signed (s != t) (n * m) = FP.Core.signed s n * FP.Core.signed t m := by
  cases s <;> cases t <;> simp [FP.Core.signed, Int.neg_mul, Int.mul_neg]
theorem rd_signed (b : Bool) (n : Nat) : rd (FP.Core.signed b n) = FP.Core.signed b (rdN n) := by
  cases b
  · show rd (n : Int) = (rdN n : Int)
    rw [rd_nonneg (by omega), Int.toNat_natCast]
  · show rd (-(n : Int)) = -(rdN n : Int)
    rw [rd_neg, rd_nonneg (by omega), Int.toNat_natCast]
theorem sumSign_val (s t : Bool) (v : Int) : FP.Core.signed (FP.Core.sumSign s t v) v.natAbs = v := by
  unfold FP.Core.sumSign
  by_cases h : v = 0
  · subst h
    rw [if_pos rfl]
    exact sg_zero _
  · rw [if_neg h]
    exact sg_abs v
theorem fl_sumD {s t : Bool} {c d : Nat} {q r z w : Int} (hq : -1074 ≤ q) (hr : -1074 ≤ r) (hz : FP.Core.signed s (c * 2 ^ (q + 1074).toNat) = z) (hw : FP.Core.signed t (d * 2 ^ (r + 1074).toNat) = w) (hM : (z + w).natAbs < 2 ^ 1200) :
    DV (rd (z + w)) (UInt64.ofNat (FP.Core.encode FP.Core.b64 (FP.Core.round FP.Core.b64 (FP.Core.exactSum (.fin s c q) (.fin t d r))))) := by
  obtain ⟨e, he⟩ : ∃ e : Int, min q r = e := ⟨_, rfl⟩
  have hv : FP.Core.sumUnits s c q t d r e * ((2 ^ (e + 1074).toNat : Nat) : Int) = z + w := by
    unfold FP.Core.sumUnits FP.Core.inUnits
    rw [Int.add_mul, ← sg_mul, ← sg_mul, Nat.mul_assoc, Nat.mul_assoc, ← Nat.pow_add, ← Nat.pow_add, show (q - e).toNat + (e + 1074).toNat = (q + 1074).toNat by omega, show (r - e).toNat + (e + 1074).toNat = (r + 1074).toNat by omega, hz, hw]
  have hd : FP.Core.exactSum (.fin s c q) (.fin t d r) = .fin (FP.Core.sumSign s t (FP.Core.sumUnits s c q t d r e)) (FP.Core.sumUnits s c q t d r e).natAbs e := by
    rw [← he]
    rfl
  generalize FP.Core.sumUnits s c q t d r e = v at *
  have hab : v.natAbs * 2 ^ (e + 1074).toNat = (z + w).natAbs := by rw [← hv, Int.natAbs_mul, Int.natAbs_natCast]
  have h := fl_op hd (Or.inr (by omega)) (by rw [hab]; exact hM)
  rw [← rd_signed, sg_mul, sumSign_val, hv] at h
  exact h
theorem fl_add {z w : Int} {a b : UInt64} (ha : DV z a) (hb : DV w b) (hM : (z + w).natAbs < 2 ^ 1200) : DV (rd (z + w)) (FP.dadd a b) := by
  obtain ⟨s, c, q, e1, -, hq, -, hz⟩ := ha
  obtain ⟨t, d, r, e2, -, hr, -, hw⟩ := hb
  show DV _ (UInt64.ofNat (FP.Core.encode FP.Core.b64 (FP.Core.round FP.Core.b64 (FP.Core.exactSum (FP.Core.decode FP.Core.b64 a.toNat) (FP.Core.decode FP.Core.b64 b.toNat)))))
  rw [e1, e2]
  exact fl_sumD hq hr hz hw hM
theorem fl_sub {z w : Int} {a b : UInt64} (ha : DV z a) (hb : DV w b) (hM : (z - w).natAbs < 2 ^ 1200) : DV (rd (z - w)) (FP.dsub a b) := by
  obtain ⟨s, c, q, e1, -, hq, -, hz⟩ := ha
  obtain ⟨t, d, r, e2, -, hr, -, hw⟩ := hb
  show DV _ (UInt64.ofNat (FP.Core.encode FP.Core.b64 (FP.Core.round FP.Core.b64 (FP.Core.exactSum (FP.Core.decode FP.Core.b64 a.toNat) (FP.Core.negate (FP.Core.decode FP.Core.b64 b.toNat))))))
  rw [e1, e2]
  have h := fl_sumD (s := s) (t := !t) (c := c) (d := d) (w := -w) hq hr hz (by rw [sg_not, hw]) (by rw [← Int.sub_eq_add_neg]; exact hM)
  rw [← Int.sub_eq_add_neg] at h
  exact h
theorem fl_mulD {s t : Bool} {c d : Nat} {q r : Int} (hq : c * d = 0 ∨ -1074 ≤ q + r) (hM : c * d * 2 ^ (q + r + 1074).toNat < 2 ^ 1200) :
    DV (FP.Core.signed (s != t) (rdN (c * d * 2 ^ (q + r + 1074).toNat))) (UInt64.ofNat (FP.Core.encode FP.Core.b64 (FP.Core.round FP.Core.b64 (FP.Core.exactProduct (.fin s c q) (.fin t d r))))) := fl_op rfl hq hM
theorem dv_zero {z : Int} {a : UInt64} (h : DV z a) (hz : z = 0) : ∃ (s : Bool) (q : Int), FP.Core.decode FP.Core.b64 a.toNat = .fin s 0 q := by
  obtain ⟨s, c, q, e1, -, hq, -, hv⟩ := h
  have h1 := congrArg Int.natAbs hv
  rw [sg_natAbs, hz] at h1
  have h2 : c * 2 ^ (q + 1074).toNat = 0 := h1
  rcases Nat.mul_eq_zero.mp h2 with h3 | h3
  · exact ⟨s, q, by rw [e1, h3]⟩
  · have := Nat.two_pow_pos (q + 1074).toNat
    omega
/-- a whole number's double: its sign, and its last digit stands not deep -/
theorem di_parts {i : Int} {a : UInt64} (h : DI i a) : ∃ (s : Bool) (c : Nat) (q : Int) (n : Nat), FP.Core.decode FP.Core.b64 a.toNat = .fin s c q ∧ c < 2 ^ 53 ∧ -1074 ≤ q ∧ q ≤ 971 ∧ i = FP.Core.signed s n ∧ c * 2 ^ (q + 1074).toNat = n * 2 ^ 1074 ∧ (c = 0 ∨ -53 < q) := by
  obtain ⟨s, c, q, e1, hc, hq, hq2, hv⟩ := h
  have hp : (0 : Int) < ((2 ^ 1074 : Nat) : Int) := by
    have := Nat.two_pow_pos 1074
    omega
  have h1 := congrArg Int.natAbs hv
  rw [sg_natAbs, Int.natAbs_mul, Int.natAbs_natCast] at h1
  refine ⟨s, c, q, i.natAbs, e1, hc, hq, hq2, ?_, h1, ?_⟩
  · rw [h1, sg_mul] at hv
    exact (Int.eq_of_mul_eq_mul_right (by omega) hv).symm
  · by_cases h0 : c = 0
    · exact Or.inl h0
    · right
      have h2 : i.natAbs ≠ 0 := by
        intro hz
        rw [hz, Nat.zero_mul] at h1
        rcases Nat.mul_eq_zero.mp h1 with h3 | h3
        · exact h0 h3
        · have := Nat.two_pow_pos (q + 1074).toNat
          omega
      have h3 : 2 ^ 1074 ≤ c * 2 ^ (q + 1074).toNat := by
        rw [h1]
        exact Nat.le_mul_of_pos_left _ (by omega)
      have h4 : c * 2 ^ (q + 1074).toNat < 2 ^ (53 + (q + 1074).toNat) := by
        rw [Nat.pow_add]
        exact Nat.mul_lt_mul_of_pos_right hc (Nat.two_pow_pos _)
      have h5 : 1074 < 53 + (q + 1074).toNat := (Nat.pow_lt_pow_iff_right (by decide : 1 < 2)).mp (Nat.lt_of_le_of_lt h3 h4)
      omega
theorem pow1074 : (2 : Nat) ^ 1074 * 2 ^ 63 ≤ 2 ^ 1200 := by
  rw [← Nat.pow_add]
  exact Nat.pow_le_pow_right (by decide) (by decide)
theorem small_1200 {i : Int} (h : i.natAbs < 2 ^ 63) : (i * ((2 ^ 1074 : Nat) : Int)).natAbs < 2 ^ 1200 := by
  rw [Int.natAbs_mul, Int.natAbs_natCast, Nat.mul_comm]
  refine Nat.lt_of_lt_of_le ?_ pow1074
  exact Nat.mul_lt_mul_of_pos_left h (Nat.two_pow_pos 1074)
theorem dadd_rd {i j : Int} {a b : UInt64} (ha : DI i a) (hb : DI j b) (h : (i + j).natAbs < 2 ^ 63) : DI (rd (i + j)) (FP.dadd a b) := by
  have h1 := fl_add ha hb (by rw [← Int.add_mul]; exact small_1200 h)
  rw [← Int.add_mul, rd_sc] at h1
  exact h1
theorem dsub_rd {i j : Int} {a b : UInt64} (ha : DI i a) (hb : DI j b) (h : (i - j).natAbs < 2 ^ 63) : DI (rd (i - j)) (FP.dsub a b) := by
  have h1 := fl_sub ha hb (by rw [← Int.sub_mul]; exact small_1200 h)
  rw [← Int.sub_mul, rd_sc] at h1
  exact h1
theorem dmul_rd {i j : Int} {a b : UInt64} (ha : DI i a) (hb : DI j b) (h : (i * j).natAbs < 2 ^ 63) : DI (rd (i * j)) (FP.dmul a b) := by
  obtain ⟨s, c, q, n, e1, -, hq, -, hi, hn, hq3⟩ := di_parts ha
  obtain ⟨t, d, r, m, e2, -, hr, -, hj, hm, hr3⟩ := di_parts hb
  show DV _ (UInt64.ofNat (FP.Core.encode FP.Core.b64 (FP.Core.round FP.Core.b64 (FP.Core.exactProduct (FP.Core.decode FP.Core.b64 a.toNat) (FP.Core.decode FP.Core.b64 b.toNat)))))
  rw [e1, e2]
  have hij : i * j = FP.Core.signed (s != t) (n * m) := by rw [sg_xor, ← hi, ← hj]
  have hab : (i * j).natAbs = n * m := by rw [hij, sg_natAbs]
  have hp := Nat.two_pow_pos 1074
  have hM : c * d * 2 ^ (q + r + 1074).toNat = n * m * 2 ^ 1074 := by
    by_cases h0 : c = 0
    · subst h0
      rw [Nat.zero_mul] at hn
      have : n = 0 := by rcases Nat.mul_eq_zero.mp hn.symm with h1 | h1 <;> omega
      subst this
      simp only [Nat.zero_mul]
    by_cases h1 : d = 0
    · subst h1
      rw [Nat.zero_mul] at hm
      have : m = 0 := by rcases Nat.mul_eq_zero.mp hm.symm with h1 | h1 <;> omega
      subst this
      simp only [Nat.zero_mul, Nat.mul_zero]
    refine Nat.eq_of_mul_eq_mul_right hp ?_
    calc c * d * 2 ^ (q + r + 1074).toNat * 2 ^ 1074 = c * d * (2 ^ (q + 1074).toNat * 2 ^ (r + 1074).toNat) := by
          rw [Nat.mul_assoc (c * d), ← Nat.pow_add, ← Nat.pow_add, show (q + r + 1074).toNat + 1074 = (q + 1074).toNat + (r + 1074).toNat by omega]
      _ = (c * 2 ^ (q + 1074).toNat) * (d * 2 ^ (r + 1074).toNat) := Nat.mul_mul_mul_comm _ _ _ _
      _ = (n * 2 ^ 1074) * (m * 2 ^ 1074) := by rw [hn, hm]
      _ = n * m * 2 ^ 1074 * 2 ^ 1074 := by rw [Nat.mul_mul_mul_comm, Nat.mul_assoc (n * m)]
  have hb2 := small_1200 h
  rw [Int.natAbs_mul, Int.natAbs_natCast, hab] at hb2
  have h1 := fl_mulD (s := s) (t := t) (c := c) (d := d) (q := q) (r := r) (by
    rcases hq3 with h0 | h0
    · left; rw [h0, Nat.zero_mul]
    · rcases hr3 with h1 | h1
      · left; rw [h1, Nat.mul_zero]
      · right; omega) (by rw [hM]; exact hb2)
  rw [hM, rdN_sc, sg_mul, ← rd_signed, ← hij] at h1
  exact h1
theorem fl_neg {z : Int} {a : UInt64} (ha : DV z a) : DV (-z) (FP.dneg a) := by
  obtain ⟨s, c, q, e1, hc, hq, hq2, hz⟩ := ha
  have hx : (FP.dneg a).toNat = (a.toNat + 9223372036854775808) % 18446744073709551616 := by
    unfold FP.dneg
    rw [UInt64.toNat_xor]
    exact nat_xor a.toNat_lt
  refine ⟨!s, c, q, ?_, hc, hq, hq2, by rw [sg_not, hz]⟩
  rw [hx]
  have hlt := a.toNat_lt
  generalize a.toNat = n at *
  unfold FP.Core.decode FP.Core.fieldT FP.Core.fieldE FP.Core.fieldS at e1 ⊢
  simp only [b64_tails, b64_exps, b64_qmin] at e1 ⊢
  obtain ⟨n2, hn2⟩ : ∃ n2, (n + 9223372036854775808) % 18446744073709551616 = n2 := ⟨_, rfl⟩
  rw [hn2]
  have f1 : n2 % 4503599627370496 = n % 4503599627370496 := by omega
  have f2 : n2 / 4503599627370496 % 2048 = n / 4503599627370496 % 2048 := by omega
  have f3 : (n2 / 4503599627370496 / 2048 % 2 == 1) = !(n / 4503599627370496 / 2048 % 2 == 1) := by
    rcases (by omega : n / 4503599627370496 / 2048 % 2 = 0 ∧ n2 / 4503599627370496 / 2048 % 2 = 1 ∨ n / 4503599627370496 / 2048 % 2 = 1 ∧ n2 / 4503599627370496 / 2048 % 2 = 0) with ⟨u, v⟩ | ⟨u, v⟩ <;> rw [u, v] <;> rfl
  rw [f1, f2, f3]
  split at e1
  · split at e1 <;> cases e1
  · rename_i g1
    rw [if_neg g1]
    split at e1
    · rename_i g2
      rw [if_pos g2]
      cases e1
      rfl
    · rename_i g2
      rw [if_neg g2]
      cases e1
      rfl
theorem dneg_di {i : Int} {a : UInt64} (ha : DI i a) : DI (-i) (FP.dneg a) := by
  have h := fl_neg ha
  rw [← Int.neg_mul] at h
  exact h
theorem cmp_int (a b : Int) : compare a b = if a < b then .lt else if a = b then .eq else .gt := rfl
theorem cmp_scale {a b k : Int} (hk : 0 < k) : compare (a * k) (b * k) = compare a b := by
  rw [cmp_int, cmp_int]
  have e1 : a * k < b * k ↔ a < b := ⟨fun h => Int.lt_of_mul_lt_mul_right h (Int.le_of_lt hk), fun h => Int.mul_lt_mul_of_pos_right h hk⟩
  have e2 : a * k = b * k ↔ a = b := ⟨fun h => Int.eq_of_mul_eq_mul_right (by omega) h, fun h => by rw [h]⟩
  simp only [e1, e2]
theorem fl_cmp {z w : Int} {a b : UInt64} (ha : DV z a) (hb : DV w b) : FP.dcmp a b = some (compare z w) := by
  obtain ⟨s, c, q, e1, -, hq, -, hz⟩ := ha
  obtain ⟨t, d, r, e2, -, hr, -, hw⟩ := hb
  show FP.Core.order (FP.Core.decode FP.Core.b64 a.toNat) (FP.Core.decode FP.Core.b64 b.toNat) = _
  rw [e1, e2]
  show some (compare (FP.Core.signed s (FP.Core.inUnits c q (min q r))) (FP.Core.signed t (FP.Core.inUnits d r (min q r)))) = _
  obtain ⟨e, he⟩ : ∃ e : Int, min q r = e := ⟨_, rfl⟩
  rw [he]
  have hp : (0 : Int) < ((2 ^ (e + 1074).toNat : Nat) : Int) := by
    have := Nat.two_pow_pos (e + 1074).toNat
    generalize 2 ^ (e + 1074).toNat = P at *
    omega
  rw [← cmp_scale hp]
  unfold FP.Core.inUnits
  rw [← sg_mul, ← sg_mul, Nat.mul_assoc, Nat.mul_assoc, ← Nat.pow_add, ← Nat.pow_add, show (q - e).toNat + (e + 1074).toNat = (q + 1074).toNat by omega, show (r - e).toNat + (e + 1074).toNat = (r + 1074).toNat by omega, hz, hw]
theorem di_cmp {i j : Int} {a b : UInt64} (ha : DI i a) (hb : DI j b) : FP.dcmp a b = some (compare i j) := by
  have hp : (0 : Int) < ((2 ^ 1074 : Nat) : Int) := by
    have := Nat.two_pow_pos 1074
    omega
  rw [fl_cmp ha hb, cmp_scale hp]
theorem n64_of {z : Int} {a : UInt64} (h : DV z a) : vf_n64 a := by
  obtain ⟨s, c, q, e1, hc, hq, hq2, hz⟩ := h
  unfold vf_n64
  rw [UInt64.le_iff_toNat_le, UInt64.toNat_and]
  have hm : a.toNat &&& (0x7fffffffffffffff : UInt64).toNat = a.toNat % 2 ^ 63 := Nat.and_two_pow_sub_one_eq_mod a.toNat 63
  rw [hm]
  unfold FP.Core.decode FP.Core.fieldT FP.Core.fieldE FP.Core.fieldS at e1
  simp only [b64_tails, b64_exps, b64_qmin] at e1
  show a.toNat % 2 ^ 63 ≤ 9218868437227405312
  generalize a.toNat = n at *
  split at e1
  · split at e1 <;> cases e1
  · rename_i g1
    omega
theorem di_zero : DI 0 FP.dconst0 := by
  refine ⟨false, 0, -1074, by decide +kernel, by decide, by decide, by decide, ?_⟩
  rw [Nat.zero_mul, Int.zero_mul]
  rfl
theorem fromInt_di {i : Int} (h : i.natAbs < 2 ^ 53) : DI i (UInt64.ofNat (FP.Core.fromInt FP.Core.b64 i)) := by
  have hb : i.natAbs < 2 ^ 63 := by omega
  have h1 := fl_op (s := decide (i < 0)) (c := i.natAbs) (q := 0) (d := FP.Core.ofInt i) rfl (Or.inr (by decide)) (by
    have := small_1200 hb
    rw [Int.natAbs_mul, Int.natAbs_natCast] at this
    exact this)
  rw [show ((0 : Int) + 1074).toNat = 1074 from rfl, rdN_exact h, sg_mul, sg_abs] at h1
  exact h1
theorem l2d_di {x : Int64} (h : x.toInt.natAbs < 2 ^ 53) : DI x.toInt (FP.l2d x) := fromInt_di h
theorem i2d_l2d (x : Int32) : FP.i2d x = FP.l2d x.toInt64 := by
  show UInt64.ofNat (FP.Core.fromInt FP.Core.b64 x.toInt) = UInt64.ofNat (FP.Core.fromInt FP.Core.b64 x.toInt64.toInt)
  rw [Int32.toInt_toInt64]
theorem d2l_di {i : Int} {a : UInt64} (ha : DI i a) (h : i.natAbs < 2 ^ 63) : FP.d2l a = Int64.ofInt i := by
  obtain ⟨s, c, q, n, e1, -, hq, -, hi, hn, hq3⟩ := di_parts ha
  show Int64.ofInt (FP.Core.toInt (-2 ^ 63) (2 ^ 63 - 1) (FP.Core.decode FP.Core.b64 a.toNat)) = _
  rw [e1]
  show Int64.ofInt (max (-2 ^ 63) (min (2 ^ 63 - 1) (FP.Core.signed s (c * 2 ^ q.toNat / 2 ^ (-q).toNat)))) = _
  have hp := Nat.two_pow_pos 1074
  have hdiv : c * 2 ^ q.toNat / 2 ^ (-q).toNat = n := by
    refine Nat.div_eq_of_eq_mul_left (Nat.two_pow_pos _) ?_
    refine Nat.eq_of_mul_eq_mul_right hp ?_
    rcases Int.le_total 0 q with h0 | h0
    · rw [show (-q).toNat = 0 by omega, Nat.mul_assoc c, ← Nat.pow_add, show q.toNat + 1074 = (q + 1074).toNat by omega, hn, Nat.pow_zero, Nat.mul_one]
    · rw [show q.toNat = 0 by omega, Nat.pow_zero, Nat.mul_one]
      have e : (2 : Nat) ^ 1074 = 2 ^ (q + 1074).toNat * 2 ^ (-q).toNat := by rw [← Nat.pow_add]; congr 1; omega
      calc c * 2 ^ 1074 = c * 2 ^ (q + 1074).toNat * 2 ^ (-q).toNat := by rw [e, Nat.mul_assoc]
        _ = n * 2 ^ (-q).toNat * 2 ^ 1074 := by rw [hn, Nat.mul_assoc, Nat.mul_assoc, Nat.mul_comm (2 ^ 1074)]
  rw [hdiv, ← hi]
  congr 1
  omega
theorem d2l_l2d {x : Int64} (h : x.toInt.natAbs < 2 ^ 53) : FP.d2l (FP.l2d x) = x := by
  rw [d2l_di (l2d_di h) (by omega), Int64.ofInt_toInt]
end
section
/-! DEKKER's split and product, in whole numbers -/
theorem abs_mul_le {a b : Int} {x y : Nat} (ha : a.natAbs ≤ x) (hb : b.natAbs ≤ y) : (a * b).natAbs ≤ x * y := by
  rw [Int.natAbs_mul]
  exact Nat.mul_le_mul ha hb
theorem nat_of_abs {z : Int} {n : Nat} (h : (n : Int) ≤ z) : n ≤ z.natAbs := by omega
/-- the upper part of a number of 30 bits has 26 bits (nearly): a number of 27 + i bits -/
theorem split_band {A : Int} {k : Nat} {L M : Int} (hk : ((2 ^ (52 + k) : Nat) : Int) = 134217728 * L) (hLe : rd (134217729 * L) = 134217729 * L) (hM : M = ((2 ^ k : Nat) : Int)) (hL : 0 ≤ L) (h1 : L ≤ A) (h3 : 2 * (134217729 * A) ≤ 2 * rd (134217729 * A) + 32) :
    ∃ m1 m2 : Int, rd (134217729 * A) = m1 * M ∧ rd (rd (134217729 * A) - A) = m2 * M := by
  subst hM
  have g1 := rd_dvd (i := 134217729 * A) (k := k) (nat_of_abs (by rw [hk]; omega))
  obtain ⟨m1, e1⟩ := g1
  have g2 : ((2 ^ (52 + k) : Nat) : Int) ≤ rd (134217729 * A) - A := by
    rw [hk]
    by_cases e : A = L
    · rw [e, hLe]
      omega
    · omega
  obtain ⟨m2, e2⟩ := rd_dvd (nat_of_abs g2)
  exact ⟨m1, m2, e1, e2⟩
theorem split_top {C h m1 m2 M T A : Int} (e1 : C = m1 * M) (e2 : h = m2 * M) : C - h = (m1 - m2) * M := by rw [Int.sub_mul, ← e1, ← e2]
theorem split_pos (A : Int) (h0 : 0 ≤ A) (hA : A < 1073741824) : ∃ C h : Int, rd (134217729 * A) = C ∧ rd (C - A) = h ∧ 0 ≤ C ∧ C < 288230376151711744 ∧ 0 ≤ C - A ∧ C - A < 288230376151711744 ∧ 0 ≤ h ∧ h < 288230376151711744 ∧ A - (C - h) ≤ 16 ∧ -16 ≤ A - (C - h) ∧ ∃ (m : Int) (k : Nat), C - h = m * ((2 ^ k : Nat) : Int) ∧ -67108896 ≤ m ∧ m ≤ 67108896 := by
  have n1 := rd_near (i := 134217729 * A) (j := 5) (by omega)
  have p1 : 0 ≤ rd (134217729 * A) := by
    have := rd_mono (i := 0) (j := 134217729 * A) (by omega)
    rw [rd_sign.2.2 rfl] at this
    exact this
  obtain ⟨C, hC⟩ : ∃ C, rd (134217729 * A) = C := ⟨_, rfl⟩
  have q1 : 2 * C ≤ 2 * (134217729 * A) + 32 := by rw [← hC]; exact n1.1
  have q2 : 2 * (134217729 * A) ≤ 2 * C + 32 := by rw [← hC]; exact n1.2
  have hCA : 0 ≤ C - A := by
    by_cases z : A = 0
    · subst z
      rw [← hC]
      omega
    · omega
  have n2 := rd_near (i := C - A) (j := 5) (by omega)
  have p2 : 0 ≤ rd (C - A) := by
    have := rd_mono (i := 0) (j := C - A) hCA
    rw [rd_sign.2.2 rfl] at this
    exact this
  obtain ⟨h, hh⟩ : ∃ h, rd (C - A) = h := ⟨_, rfl⟩
  have q3 : 2 * h ≤ 2 * (C - A) + 32 := by rw [← hh]; exact n2.1
  have q4 : 2 * (C - A) ≤ 2 * h + 32 := by rw [← hh]; exact n2.2
  refine ⟨C, h, hC, hh, by omega, by omega, hCA, by omega, by omega, by omega, by omega, by omega, ?_⟩
  have band : ∀ (k : Nat) (L M : Int), ((2 ^ (52 + k) : Nat) : Int) = 134217728 * L → rd (134217729 * L) = 134217729 * L → M = ((2 ^ k : Nat) : Int) → 0 ≤ L → L ≤ A → ∃ m : Int, C - h = m * M := by
    intro k L M g1 g2 g3 g4 g5
    obtain ⟨m1, m2, e1, e2⟩ := split_band g1 g2 g3 g4 g5 (by rw [hC]; exact q2)
    rw [hC] at e1 e2
    rw [hh] at e2
    exact ⟨m1 - m2, by rw [Int.sub_mul, ← e1, ← e2]⟩
  clear n1 n2 p1 p2 hC hh hCA
  by_cases g0 : A < 67108864
  · exact ⟨C - h, 0, by simp, by omega, by omega⟩
  · by_cases g1 : A < 134217728
    · obtain ⟨m, e⟩ := band 1 67108864 2 rfl (rd_exact (m := 134217729) (k := 26) (by decide)) rfl (by decide) (by omega)
      exact ⟨m, 1, e, by omega, by omega⟩
    · by_cases g2 : A < 268435456
      · obtain ⟨m, e⟩ := band 2 134217728 4 rfl (rd_exact (m := 134217729) (k := 27) (by decide)) rfl (by decide) (by omega)
        exact ⟨m, 2, e, by omega, by omega⟩
      · by_cases g3 : A < 536870912
        · obtain ⟨m, e⟩ := band 3 268435456 8 rfl (rd_exact (m := 134217729) (k := 28) (by decide)) rfl (by decide) (by omega)
          exact ⟨m, 3, e, by omega, by omega⟩
        · obtain ⟨m, e⟩ := band 4 536870912 16 rfl (rd_exact (m := 134217729) (k := 29) (by decide)) rfl (by decide) (by omega)
          exact ⟨m, 4, e, by omega, by omega⟩
theorem split_law (A : Int) (h0 : -1073741824 < A) (hA : A < 1073741824) : ∃ C h : Int, rd (134217729 * A) = C ∧ rd (C - A) = h ∧ C < 288230376151711744 ∧ -288230376151711744 < C ∧ C - A < 288230376151711744 ∧ -288230376151711744 < C - A ∧ h < 288230376151711744 ∧ -288230376151711744 < h ∧ A - (C - h) ≤ 16 ∧ -16 ≤ A - (C - h) ∧ ∃ (m : Int) (k : Nat), C - h = m * ((2 ^ k : Nat) : Int) ∧ -67108896 ≤ m ∧ m ≤ 67108896 := by
  by_cases hn : 0 ≤ A
  · obtain ⟨C, h, e1, e2, b1, b2, b3, b4, b5, b6, b7, b8, m, k, e3, b9, b10⟩ := split_pos A hn hA
    exact ⟨C, h, e1, e2, b2, by omega, b4, by omega, b6, by omega, b7, b8, m, k, e3, b9, b10⟩
  · obtain ⟨C, h, e1, e2, b1, b2, b3, b4, b5, b6, b7, b8, m, k, e3, b9, b10⟩ := split_pos (-A) (by omega) (by omega)
    have f1 : rd (134217729 * A) = -C := by rw [← e1, ← rd_neg]; congr 1; omega
    have f2 : rd (-C - A) = -h := by rw [← e2, ← rd_neg]; congr 1; omega
    have f3 : -C - -h = -m * ((2 ^ k : Nat) : Int) := by rw [Int.neg_mul, ← e3]; omega
    exact ⟨-C, -h, f1, f2, by omega, by omega, by omega, by omega, by omega, by omega, by omega, by omega, -m, k, f3, by omega, by omega⟩
/-- the product in two parts, and each step on the way -/
theorem mul_law (A B : Int) (hA1 : -1073741824 < A) (hA2 : A < 1073741824) (hB1 : -1073741824 < B) (hB2 : B < 1073741824) : ∃ C h x t C' h' y u P1 P2 P3 P4 P AB : Int,
    rd (134217729 * A) = C ∧ rd (C - A) = h ∧ C - h = x ∧ A - x = t ∧ rd (134217729 * B) = C' ∧ rd (C' - B) = h' ∧ C' - h' = y ∧ B - y = u ∧
    x * y = P1 ∧ x * u = P2 ∧ t * y = P3 ∧ t * u = P4 ∧ A * B = AB ∧ rd AB = P ∧ P1 + P2 + P3 + P4 = AB ∧ rd P1 = P1 ∧
    (134217729 * A).natAbs < 2 ^ 63 ∧ (C - A).natAbs < 2 ^ 63 ∧ x.natAbs < 2 ^ 53 ∧ t.natAbs < 2 ^ 53 ∧ (134217729 * B).natAbs < 2 ^ 63 ∧ (C' - B).natAbs < 2 ^ 63 ∧ y.natAbs < 2 ^ 53 ∧ u.natAbs < 2 ^ 53 ∧
    P1.natAbs < 2 ^ 63 ∧ (P1 - P).natAbs < 2 ^ 53 ∧ P2.natAbs < 2 ^ 53 ∧ (P1 - P + P2).natAbs < 2 ^ 53 ∧ P3.natAbs < 2 ^ 53 ∧ (P1 - P + P2 + P3).natAbs < 2 ^ 53 ∧ P4.natAbs < 2 ^ 53 ∧ AB.natAbs < 2 ^ 63 ∧ (AB - P).natAbs < 2 ^ 53 := by
  obtain ⟨C, h, c1, c2, c3, c4, c5, c6, c7, c8, c9, c10, m, k, e3, b9, b10⟩ := split_law A hA1 hA2
  obtain ⟨C', h', d1, d2, d3, d4, d5, d6, d7, d8, d9, d10, n, j, f3, g9, g10⟩ := split_law B hB1 hB2
  have r1 : (134217729 * A).natAbs < 2 ^ 63 := by clear c1 c2 d1 d2 e3 f3; omega
  have r2 : (134217729 * B).natAbs < 2 ^ 63 := by clear c1 c2 d1 d2 e3 f3; omega
  have r3 : (C - A).natAbs < 2 ^ 63 := by clear c1 c2 d1 d2 e3 f3; omega
  have r4 : (C' - B).natAbs < 2 ^ 63 := by clear c1 c2 d1 d2 e3 f3; omega
  obtain ⟨x, hx⟩ : ∃ x, C - h = x := ⟨_, rfl⟩
  obtain ⟨y, hy⟩ : ∃ y, C' - h' = y := ⟨_, rfl⟩
  rw [hx] at c9 c10 e3
  rw [hy] at d9 d10 f3
  obtain ⟨t, ht⟩ : ∃ t, A - x = t := ⟨_, rfl⟩
  obtain ⟨u, hu⟩ : ∃ u, B - y = u := ⟨_, rfl⟩
  rw [ht] at c9 c10
  rw [hu] at d9 d10
  have lx : x.natAbs ≤ 1073741839 := by clear c1 c2 d1 d2 e3 f3 r1 r2 r3 r4 hx hy; omega
  have ly : y.natAbs ≤ 1073741839 := by clear c1 c2 d1 d2 e3 f3 r1 r2 r3 r4 hx hy; omega
  have lt : t.natAbs ≤ 16 := by clear c1 c2 d1 d2 e3 f3 r1 r2 r3 r4 hx hy; omega
  have lu : u.natAbs ≤ 16 := by clear c1 c2 d1 d2 e3 f3 r1 r2 r3 r4 hx hy; omega
  have lA : A.natAbs ≤ 1073741823 := by clear c1 c2 d1 d2 e3 f3 r1 r2 r3 r4 hx hy; omega
  have lB : B.natAbs ≤ 1073741823 := by clear c1 c2 d1 d2 e3 f3 r1 r2 r3 r4 hx hy; omega
  have lm : m.natAbs ≤ 67108896 := by clear c1 c2 d1 d2 e3 f3 r1 r2 r3 r4 hx hy; omega
  have ln : n.natAbs ≤ 67108896 := by clear c1 c2 d1 d2 e3 f3 r1 r2 r3 r4 hx hy; omega
  have hAB := abs_mul_le lA lB
  have b1 := abs_mul_le lx ly
  have b2 := abs_mul_le lx lu
  have b3 := abs_mul_le lt ly
  have b4 := abs_mul_le lt lu
  have hex : rd (x * y) = x * y := by
    have e : x * y = m * n * ((2 ^ (k + j) : Nat) : Int) := by
      rw [e3, f3, Nat.pow_add, Int.natCast_mul]
      ac_rfl
    have b5 := abs_mul_le lm ln
    rw [e]
    exact rd_exact (Nat.lt_of_le_of_lt b5 (by decide))
  have hsum : x * y + x * u + t * y + t * u = A * B := by
    have e1 : A * B = (x + t) * (y + u) := by
      rw [show x + t = A by omega, show y + u = B by omega]
    rw [e1, Int.add_mul, Int.mul_add, Int.mul_add]
    generalize x * y = z1
    generalize x * u = z2
    generalize t * y = z3
    generalize t * u = z4
    omega
  have nP := rd_near (i := A * B) (j := 7) (Nat.lt_of_le_of_lt hAB (by decide))
  have nP1 : 2 * rd (A * B) ≤ 2 * (A * B) + 128 := nP.1
  have nP2 : 2 * (A * B) ≤ 2 * rd (A * B) + 128 := nP.2
  clear nP
  obtain ⟨AB, hAB2⟩ : ∃ AB, A * B = AB := ⟨_, rfl⟩
  obtain ⟨P1, hP1⟩ : ∃ P1, x * y = P1 := ⟨_, rfl⟩
  obtain ⟨P2, hP2⟩ : ∃ P2, x * u = P2 := ⟨_, rfl⟩
  obtain ⟨P3, hP3⟩ : ∃ P3, t * y = P3 := ⟨_, rfl⟩
  obtain ⟨P4, hP4⟩ : ∃ P4, t * u = P4 := ⟨_, rfl⟩
  rw [hAB2] at hAB nP1 nP2 hsum
  rw [hP1] at b1 hsum hex
  rw [hP2] at b2 hsum
  rw [hP3] at b3 hsum
  rw [hP4] at b4 hsum
  obtain ⟨P, hP⟩ : ∃ P, rd AB = P := ⟨_, rfl⟩
  rw [hP] at nP1 nP2
  refine ⟨C, h, x, t, C', h', y, u, P1, P2, P3, P4, P, AB, c1, c2, hx, ht, d1, d2, hy, hu, hP1, hP2, hP3, hP4, hAB2, hP, hsum, hex, r1, r3, Nat.lt_of_le_of_lt lx (by decide), Nat.lt_of_le_of_lt lt (by decide), r2, r4, Nat.lt_of_le_of_lt ly (by decide), Nat.lt_of_le_of_lt lu (by decide), Nat.lt_of_le_of_lt b1 (by decide), ?_, Nat.lt_of_le_of_lt b2 (by decide), ?_, Nat.lt_of_le_of_lt b3 (by decide), ?_, Nat.lt_of_le_of_lt b4 (by decide), Nat.lt_of_le_of_lt hAB (by decide), ?_⟩
  all_goals
    clear c1 c2 c3 c4 c5 c6 c7 c8 d1 d2 d3 d4 d5 d6 d7 d8 e3 f3 b9 b10 g9 g10 r1 r2 r3 r4 hx hy ht hu lx ly lt lu lA lB lm ln hP1 hP2 hP3 hP4 hAB2 hP hex
    omega
end
section
/-! THE FILTER's law, in whole numbers -/
/-- the sign of a whole number, as the program answers it -/
def sgI (d : Int) : Int32 := if 0 < d then 1 else if d < 0 then -1 else 0
theorem rd_pos_of {L R : Int} (h : 0 < rd (rd L - rd R)) : R < L := by
  have h1 : rd R < rd L := by
    rcases Int.lt_trichotomy (rd L - rd R) 0 with g | g | g
    · have := rd_sign.2.1 g; omega
    · have := rd_sign.2.2 g; omega
    · omega
  exact Int.lt_of_not_ge fun h2 => by have := rd_mono h2; omega
theorem rd_neg_of {L R : Int} (h : rd (rd L - rd R) < 0) : L < R := by
  have h1 : rd L < rd R := by
    rcases Int.lt_trichotomy (rd L - rd R) 0 with g | g | g
    · omega
    · have := rd_sign.2.2 g; omega
    · have := rd_sign.1 g; omega
  exact Int.lt_of_not_ge fun h2 => by have := rd_mono h2; omega
/-- the sign of the rounded difference is the exact one's where it isn't nought -/
theorem rd_sgI {L R : Int} (h : rd (rd L - rd R) ≠ 0) : sgI (rd (rd L - rd R)) = sgI (L - R) := by
  unfold sgI
  rcases Int.lt_trichotomy (rd (rd L - rd R)) 0 with g | g | g
  · have := rd_neg_of g
    rw [if_neg (by omega), if_pos g, if_neg (by omega), if_pos (by omega)]
  · exact absurd g h
  · have := rd_pos_of g
    rw [if_pos g, if_pos (by omega)]
theorem rd_abs {L : Int} (h : L.natAbs < 2 ^ 61) : (rd L).natAbs < 2 ^ 62 := by
  have := rd_near (i := L) (j := 8) (by omega)
  omega
theorem rd_small_back {D : Int} (h : (rd D).natAbs ≤ 16384) : rd D = D := by
  refine rd_small ?_
  refine Nat.lt_of_not_le fun g => ?_
  have e : rd 9007199254740992 = 9007199254740992 := rd_exact (m := 1) (k := 53) (by decide)
  have e2 : rd (-9007199254740992) = -9007199254740992 := by rw [rd_neg, e]
  rcases Int.le_total 0 D with g0 | g0
  · have := rd_mono (i := 9007199254740992) (j := D) (by omega)
    omega
  · have := rd_mono (i := D) (j := -9007199254740992) (by omega)
    omega
/-- where the rounded difference is small, so is the exact one -/
theorem rd_small_diff {L R : Int} (hL : L.natAbs < 2 ^ 61) (hR : R.natAbs < 2 ^ 61) (h : (rd (rd L - rd R)).natAbs ≤ 16384) : (L - R).natAbs < 2 ^ 15 := by
  have e := rd_small_back h
  rw [e] at h
  have n1 := rd_near (i := L) (j := 8) (by omega)
  have n2 := rd_near (i := R) (j := 8) (by omega)
  have a1 : 2 * rd L ≤ 2 * L + 256 := n1.1
  have a2 : 2 * L ≤ 2 * rd L + 256 := n1.2
  have a3 : 2 * rd R ≤ 2 * R + 256 := n2.1
  have a4 : 2 * R ≤ 2 * rd R + 256 := n2.2
  clear n1 n2 e hL hR
  omega
theorem eps_law {k : Int} {v : UInt64} (hv : DI k v) (h1 : 0 < k) (h2 : k.natAbs < 2 ^ 63) : ∃ z : Int, DV z (FP.dmul 4382569440205035030 v) ∧ 0 < z ∧ z ≤ 16384 * ((2 ^ 1074 : Nat) : Int) := by
  obtain ⟨s, c, q, n, e1, hc, hq, -, hi, hn, hq3⟩ := di_parts hv
  have hs : s = false := by
    cases s
    · rfl
    · have : k = -(n : Int) := hi
      omega
  subst hs
  have hkn : k = (n : Int) := hi
  have hn0 : 0 < n := by omega
  have hn2 : n < 2 ^ 63 := by omega
  have hc0 : c ≠ 0 := by
    intro z
    subst z
    rw [Nat.zero_mul] at hn
    have hp := Nat.two_pow_pos 1074
    have := Nat.mul_pos hn0 hp
    omega
  have hq4 : -53 < q := by omega
  obtain ⟨ce, e2, hce⟩ : ∃ ce : Nat, FP.Core.decode FP.Core.b64 (4382569440205035030 : UInt64).toNat = .fin false ce (-102) ∧ 0 < ce ∧ ce < 2 ^ 53 := ⟨5070602400912918, by decide +kernel, by decide, by decide⟩
  have hM2 : ce * c * 2 ^ (-102 + q + 1074).toNat < 2 ^ 1088 := by
    have hx : ce * c * 2 ^ (-102 + q + 1074).toNat * 2 ^ 102 = ce * n * 2 ^ 1074 := by
      rw [Nat.mul_assoc, ← Nat.pow_add, show (-102 + q + 1074).toNat + 102 = (q + 1074).toNat by omega, Nat.mul_assoc, hn, Nat.mul_assoc]
    have h3 : ce * n < 2 ^ 53 * 2 ^ 63 := Nat.mul_lt_mul'' hce.2 hn2
    have h4 : ce * n * 2 ^ 1074 < 2 ^ 53 * 2 ^ 63 * 2 ^ 1074 := Nat.mul_lt_mul_of_pos_right h3 (Nat.two_pow_pos 1074)
    rw [← hx, ← Nat.pow_add, ← Nat.pow_add, show 53 + 63 + 1074 = 1088 + 102 from rfl, Nat.pow_add] at h4
    exact Nat.lt_of_mul_lt_mul_right h4
  have hM1 : 1 ≤ ce * c * 2 ^ (-102 + q + 1074).toNat := Nat.mul_pos (Nat.mul_pos hce.1 (by omega)) (Nat.two_pow_pos _)
  have hbig : (2 : Nat) ^ 1088 ≤ 2 ^ 1200 := Nat.pow_le_pow_right (by decide) (by decide)
  have h5 := fl_mulD (s := false) (t := false) (c := ce) (d := c) (q := -102) (r := q) (Or.inr (by omega)) (Nat.lt_of_lt_of_le hM2 hbig)
  have hlow := rdN_mono hM1
  rw [rdN_small (n := 1) (by decide)] at hlow
  have hup := rdN_mono (Nat.le_of_lt hM2)
  have e3 : rdN (2 ^ 1088) = 2 ^ 1088 := by
    have := rdN_exact (m := 1) (k := 1088) (by decide)
    rw [Nat.one_mul] at this
    exact this
  rw [e3] at hup
  generalize ce * c * 2 ^ (-102 + q + 1074).toNat = M at *
  refine ⟨(rdN M : Int), ?_, by omega, ?_⟩
  · show DV _ (UInt64.ofNat (FP.Core.encode FP.Core.b64 (FP.Core.round FP.Core.b64 (FP.Core.exactProduct (FP.Core.decode FP.Core.b64 (4382569440205035030 : UInt64).toNat) (FP.Core.decode FP.Core.b64 v.toNat)))))
    rw [e1, e2]
    exact h5
  · have h6 : (2 : Nat) ^ 1088 = 16384 * 2 ^ 1074 := by rw [show (1088 : Nat) = 14 + 1074 from rfl, Nat.pow_add]
    rw [h6] at hup
    have h7 : ((16384 * 2 ^ 1074 : Nat) : Int) = 16384 * ((2 ^ 1074 : Nat) : Int) := Int.natCast_mul _ _
    rw [← h7]
    exact Int.ofNat_le.mpr hup
theorem lt_of_scaled {d z P B : Int} (hP : 0 < P) (h1 : d * P < z) (h2 : z ≤ B * P) : d < B := by
  have h3 : d * P < B * P := by omega
  exact Int.lt_of_mul_lt_mul_right h3 (Int.le_of_lt hP)
theorem pos_of_scaled {d z P : Int} (hP : 0 < P) (h1 : 0 < z) (h2 : z ≤ d * P) : 0 < d := by
  refine Int.lt_of_not_ge fun h => ?_
  have := Int.mul_nonneg (a := -d) (b := P) (by omega) (Int.le_of_lt hP)
  rw [Int.neg_mul] at this
  omega
theorem p1074 : (0 : Int) < ((2 ^ 1074 : Nat) : Int) := by
  have := Nat.two_pow_pos 1074
  omega
end
section
/-! OUR OWN HELPERS for the walks: the classes, a contract's start, facts on cells that ride through calls, float rows by DI -/
abbrev vwCl : List vw_C := [(RX1, TX1, 2), (RX2, TX2, 3), (RX5, TX5, 2), (RX6, TX6, 3)]
/-- what is known of the tables -/
def Kn (D : va_G) (tys : List (ClassId × FieldType)) (U : State) : Prop := va_K D vwCl tys U ∧ va_AO "Coordinate" U
theorem Kn.moved {D : va_G} {tys : List (ClassId × FieldType)} {u U : State} (hvm : u.vm.Alike U.vm) (h : Kn D tys u) : Kn D tys U := ⟨va_K.moved hvm h.1, va_AO.moved hvm h.2⟩
theorem Kn.sub {D : va_G} {tys tys' : List (ClassId × FieldType)} {U : State} (h : Kn D tys U) (is : List Nat) (hs : is.filterMap (fun i => tys[i]?) = tys') : Kn D tys' U := ⟨h.1.sub is hs, h.2⟩
/-- a contract's start: the arguments, the heap's size, a picture of the heap, the tables -/
def gPc (D : va_G) (tys : List (ClassId × FieldType)) (av : List Value) (sz : Nat) (Ph : Heap → Prop) : Array Value → State → Prop := va_Pc av (fun U => U.heap.size = sz ∧ Ph U.heap ∧ Kn D tys U)
theorem gBlind {D : va_G} {tys : List (ClassId × FieldType)} {av : List Value} {sz : Nat} {Ph : Heap → Prop} : FrameBlind (gPc D tys av sz Ph) := fun a U g mk q => ⟨q.1, q.2.1, q.2.2.1, Kn.moved (u := U) (U := U.calling g mk a) (Vm.Alike.refl U.vm) q.2.2.2⟩
theorem gS {D : va_G} {tys : List (ClassId × FieldType)} {As : List Value} {sz : Nat} {Ph : Heap → Prop} {s : State} {H : Heap} (hsz : H.size = sz) (hP : Ph H) (hK : Kn D tys s) : PreS s H (gPc D tys As sz Ph) As :=
  ⟨gBlind, fun U hU hW => ⟨rfl, by rw [hU]; exact hsz, by rw [hU]; exact hP, hK.moved hW.alike⟩⟩
theorem gV {D : va_G} {tys : List (ClassId × FieldType)} {As : List Value} {sz : Nat} {Ph : Heap → Prop} {s : State} {H : Heap} {C : String} {b : Nat} (hr : ∃ cell : Cell, H[b]? = some cell ∧ cell.vm.isStatics = false ∧ s.vm.findClass C = some cell.cls) (hsz : H.size = sz) (hP : Ph H) (hK : Kn D tys s) : PreV s H C b (gPc D tys (.ref b :: As) sz Ph) As :=
  ⟨gBlind, hr, fun U hU hW => ⟨rfl, by rw [hU]; exact hsz, by rw [hU]; exact hP, hK.moved hW.alike⟩⟩
/-- which old cells a method may write: none, one, two -/
def Fr0 (sz : Nat) : Nat → Prop := fun q => sz ≤ q
def Fr1 (a sz : Nat) : Nat → Prop := fun q => q = a ∨ sz ≤ q
def Fr2 (a b sz : Nat) : Nat → Prop := fun q => q = a ∨ q = b ∨ sz ≤ q
/-- one cell -/
abbrev C1 (D : va_G) (a : Nat) (e : va_E) (H : Heap) : Prop := va_P D vwCl [(a, e)] H
theorem C1.lt {D : va_G} {a : Nat} {e : va_E} {H : Heap} (h : C1 D a e H) : a < H.size := (h 0 _ rfl).lt
theorem C1.of {D : va_G} {a : Nat} {e : va_E} {H : Heap} (h : va_at D vwCl (a, e) H) : C1 D a e H := by
  intro k q hk
  have hz : k < 1 := (List.getElem?_eq_some_iff.mp hk).1
  rw [show k = 0 by omega] at hk
  cases hk
  exact h
theorem C1.at {D : va_G} {a : Nat} {e : va_E} {H : Heap} (h : C1 D a e H) : va_at D vwCl (a, e) H := h 0 _ rfl
theorem C1.keep {D : va_G} {a : Nat} {e : va_E} {H H1 : Heap} {A : Nat → Prop} (h : C1 D a e H) (hk : ∀ q : Nat, q < H.size → ¬ A q → H1[q]? = H[q]?) (hn : ¬ A a) : C1 D a e H1 := C1.of (h.at.kept (hk a h.lt hn))
theorem C1.keep0 {D : va_G} {a : Nat} {e : va_E} {H H1 : Heap} (h : C1 D a e H) (hk : ∀ q : Nat, q < H.size → ¬ Fr0 H.size q → H1[q]? = H[q]?) : C1 D a e H1 := h.keep hk (Nat.not_le.mpr h.lt)
theorem C1.keep1 {D : va_G} {a b : Nat} {e : va_E} {H H1 : Heap} (h : C1 D a e H) (hk : ∀ q : Nat, q < H.size → ¬ Fr1 b H.size q → H1[q]? = H[q]?) (hne : a ≠ b) : C1 D a e H1 := h.keep hk (fun q => q.elim hne (Nat.not_le.mpr h.lt))
theorem va_D1 {A : Nat → Prop} {a : Nat} {e : va_E} (h : A a) : va_D A [(a, e)] := by
  have key : ∀ (k : Nat) (q : Nat × va_E), ([(a, e)] : va_W)[k]? = some q → k = 0 ∧ q = (a, e) := by
    intro k q hk
    have hz : k < 1 := (List.getElem?_eq_some_iff.mp hk).1
    have h0 : k = 0 := by omega
    rw [h0] at hk
    cases hk
    exact ⟨h0, rfl⟩
  exact ⟨fun i j p q hi hj _ => by rw [(key i p hi).1, (key j q hj).1], fun k q hk => by rw [(key k q hk).2]; exact h⟩
theorem va_D0 {A : Nat → Prop} : va_D A [] := ⟨fun i j p q hi _ _ => by simp at hi, fun k q hk => by simp at hk⟩
theorem va_P0 {D : va_G} {cl : List vw_C} {H : Heap} : va_P D cl [] H := fun k q hk => by simp at hk
theorem va_D2 {A : Nat → Prop} {a b : Nat} {e f : va_E} (ha : A a) (hb : A b) (hne : a ≠ b) : va_D A [(a, e), (b, f)] := by
  refine va_D.app (w1 := [(a, e)]) (w2 := [(b, f)]) (va_D1 ha) (va_D1 hb) (fun i j p q hi hj => ?_)
  have hz : i < 1 := (List.getElem?_eq_some_iff.mp hi).1
  rw [show i = 0 by omega] at hi
  cases hi
  have hz : j < 1 := (List.getElem?_eq_some_iff.mp hj).1
  rw [show j = 0 by omega] at hj
  cases hj
  exact hne
theorem add_ex {i j k : Int} {a b : UInt64} (ha : DI i a) (hb : DI j b) (he : i + j = k) (h : k.natAbs < 2 ^ 53) : DI k (FP.dadd a b) := by
  have := dadd_rd ha hb (by omega)
  rw [he, rd_small h] at this
  exact this
theorem sub_ex {i j k : Int} {a b : UInt64} (ha : DI i a) (hb : DI j b) (he : i - j = k) (h : k.natAbs < 2 ^ 53) : DI k (FP.dsub a b) := by
  have := dsub_rd ha hb (by omega)
  rw [he, rd_small h] at this
  exact this
theorem mul_ex {i j k : Int} {a b : UInt64} (ha : DI i a) (hb : DI j b) (he : i * j = k) (h : k.natAbs < 2 ^ 53) : DI k (FP.dmul a b) := by
  have := dmul_rd ha hb (by rw [he]; omega)
  rw [he, rd_small h] at this
  exact this
theorem add_rd {i j k r : Int} {a b : UInt64} (ha : DI i a) (hb : DI j b) (he : i + j = k) (h : k.natAbs < 2 ^ 63) (hr : rd k = r) : DI r (FP.dadd a b) := by
  have := dadd_rd ha hb (by rw [he]; exact h)
  rw [he, hr] at this
  exact this
theorem sub_rd {i j k r : Int} {a b : UInt64} (ha : DI i a) (hb : DI j b) (he : i - j = k) (h : k.natAbs < 2 ^ 63) (hr : rd k = r) : DI r (FP.dsub a b) := by
  have := dsub_rd ha hb (by rw [he]; exact h)
  rw [he, hr] at this
  exact this
theorem mul_rd {i j k r : Int} {a b : UInt64} (ha : DI i a) (hb : DI j b) (he : i * j = k) (h : k.natAbs < 2 ^ 63) (hr : rd k = r) : DI r (FP.dmul a b) := by
  have := dmul_rd ha hb (by rw [he]; exact h)
  rw [he, hr] at this
  exact this
theorem neg_di {i k : Int} {a : UInt64} (ha : DI i a) (he : -i = k) : DI k (FP.dneg a) := he ▸ dneg_di ha
section FX
variable {p : Program} {l : Launch} {e : Env} {R : Room} {s : State} {m : MethodId} {args : Array Value} {below : List Frame} {meth : Method} {c : Code} {H : Heap} {locs : List Loc} {cells slots : Nat} {Q : State → Prop}
variable {cc : ByteArray} {pc : Nat} {ls : Array Slot} {rest : List Value}
theorem fx_dadd (hx : p.tables.exec = Jvm.exec) (hb : c.code = cc) {x y v : UInt64} {z : Int} (hdg : decode cc pc = .ok (.dadd, 1)) (ev : FP.dadd x y = v) (hv : DV z v) (k : W p l e R s m args below meth c H locs cells slots Q (F0 m (pc + 1) ls (.double v :: rest))) : W p l e R s m args below meth c H locs cells slots Q (F0 m pc ls (.double y :: .double x :: rest)) := by
  subst ev
  exact lv_dadd hx hb hdg (n64_of hv) k
theorem fx_dsub (hx : p.tables.exec = Jvm.exec) (hb : c.code = cc) {x y v : UInt64} {z : Int} (hdg : decode cc pc = .ok (.dsub, 1)) (ev : FP.dsub x y = v) (hv : DV z v) (k : W p l e R s m args below meth c H locs cells slots Q (F0 m (pc + 1) ls (.double v :: rest))) : W p l e R s m args below meth c H locs cells slots Q (F0 m pc ls (.double y :: .double x :: rest)) := by
  subst ev
  exact lv_dsub hx hb hdg (n64_of hv) k
theorem fx_dmul (hx : p.tables.exec = Jvm.exec) (hb : c.code = cc) {x y v : UInt64} {z : Int} (hdg : decode cc pc = .ok (.dmul, 1)) (ev : FP.dmul x y = v) (hv : DV z v) (k : W p l e R s m args below meth c H locs cells slots Q (F0 m (pc + 1) ls (.double v :: rest))) : W p l e R s m args below meth c H locs cells slots Q (F0 m pc ls (.double y :: .double x :: rest)) := by
  subst ev
  exact lv_dmul hx hb hdg (n64_of hv) k
theorem fx_dneg (hx : p.tables.exec = Jvm.exec) (hb : c.code = cc) {x v : UInt64} (hdg : decode cc pc = .ok (.dneg, 1)) (ev : FP.dneg x = v) (k : W p l e R s m args below meth c H locs cells slots Q (F0 m (pc + 1) ls (.double v :: rest))) : W p l e R s m args below meth c H locs cells slots Q (F0 m pc ls (.double x :: rest)) := by
  subst ev
  exact lv_dneg hx hb hdg k
theorem cmpValue_of {i j : Int} {o : Option Ordering} (op : CmpOp) (ho : o = some (compare i j)) : Op.cmpValue o op = if j < i then 1 else if i = j then 0 else -1 := by
  rw [ho, cmp_int]
  by_cases h1 : i < j
  · rw [if_pos h1, if_neg (by omega), if_neg (by omega)]
    rfl
  · by_cases h2 : i = j
    · rw [if_neg h1, if_pos h2, if_neg (by omega), if_pos h2]
      rfl
    · rw [if_neg h1, if_neg h2, if_pos (by omega)]
      rfl
/-- dcmp and the branch behind it, by the numbers -/
theorem fx_le (hx : p.tables.exec = Jvm.exec) (hb : c.code = cc) {x y : UInt64} {i j : Int} {op : CmpOp} (hc : FP.dcmp x y = some (compare i j)) (d1 : decode cc pc = .ok (.dcmp op, 1)) {off : Int} {tgt : Nat} (d2 : decode cc (pc + 1) = .ok (.ifCond .le off, 3)) (ht : ((pc + 1 : Nat) : Int) + off = (tgt : Int)) (kt : i ≤ j → W p l e R s m args below meth c H locs cells slots Q (F0 m tgt ls rest)) (kf : j < i → W p l e R s m args below meth c H locs cells slots Q (F0 m (pc + 1 + 3) ls rest)) : W p l e R s m args below meth c H locs cells slots Q (F0 m pc ls (.double y :: .double x :: rest)) := by
  refine lv_dcmp hx hb d1 ?_
  rw [cmpValue_of op hc]
  refine lv_if_le hx hb d2 ht (fun h => kt ?_) (fun h => kf ?_)
  · revert h
    by_cases h1 : j < i
    · rw [if_pos h1]; intro h; exact absurd h (by decide)
    · intro; omega
  · revert h
    by_cases h1 : j < i
    · intro; exact h1
    · rw [if_neg h1]
      by_cases h2 : i = j
      · rw [if_pos h2]; intro h; exact absurd (by decide) h
      · rw [if_neg h2]; intro h; exact absurd (by decide) h
theorem fx_ge (hx : p.tables.exec = Jvm.exec) (hb : c.code = cc) {x y : UInt64} {i j : Int} {op : CmpOp} (hc : FP.dcmp x y = some (compare i j)) (d1 : decode cc pc = .ok (.dcmp op, 1)) {off : Int} {tgt : Nat} (d2 : decode cc (pc + 1) = .ok (.ifCond .ge off, 3)) (ht : ((pc + 1 : Nat) : Int) + off = (tgt : Int)) (kt : j ≤ i → W p l e R s m args below meth c H locs cells slots Q (F0 m tgt ls rest)) (kf : i < j → W p l e R s m args below meth c H locs cells slots Q (F0 m (pc + 1 + 3) ls rest)) : W p l e R s m args below meth c H locs cells slots Q (F0 m pc ls (.double y :: .double x :: rest)) := by
  refine lv_dcmp hx hb d1 ?_
  rw [cmpValue_of op hc]
  refine lv_if_ge hx hb d2 ht (fun h => kt ?_) (fun h => kf ?_)
  · revert h
    by_cases h1 : j < i
    · intro; omega
    · rw [if_neg h1]
      by_cases h2 : i = j
      · intro; omega
      · rw [if_neg h2]; intro h; exact absurd h (by decide)
  · revert h
    by_cases h1 : j < i
    · rw [if_pos h1]; intro h; exact absurd (by decide) h
    · rw [if_neg h1]
      by_cases h2 : i = j
      · rw [if_pos h2]; intro h; exact absurd (by decide) h
      · intro; omega
theorem fx_gt (hx : p.tables.exec = Jvm.exec) (hb : c.code = cc) {x y : UInt64} {i j : Int} {op : CmpOp} (hc : FP.dcmp x y = some (compare i j)) (d1 : decode cc pc = .ok (.dcmp op, 1)) {off : Int} {tgt : Nat} (d2 : decode cc (pc + 1) = .ok (.ifCond .gt off, 3)) (ht : ((pc + 1 : Nat) : Int) + off = (tgt : Int)) (kt : j < i → W p l e R s m args below meth c H locs cells slots Q (F0 m tgt ls rest)) (kf : i ≤ j → W p l e R s m args below meth c H locs cells slots Q (F0 m (pc + 1 + 3) ls rest)) : W p l e R s m args below meth c H locs cells slots Q (F0 m pc ls (.double y :: .double x :: rest)) := by
  refine lv_dcmp hx hb d1 ?_
  rw [cmpValue_of op hc]
  refine lv_if_gt hx hb d2 ht (fun h => kt ?_) (fun h => kf ?_)
  · revert h
    by_cases h1 : j < i
    · intro; exact h1
    · rw [if_neg h1]
      by_cases h2 : i = j
      · rw [if_pos h2]; intro h; exact absurd h (by decide)
      · rw [if_neg h2]; intro h; exact absurd h (by decide)
  · revert h
    by_cases h1 : j < i
    · rw [if_pos h1]; intro h; exact absurd (by decide) h
    · intro; omega
theorem fx_lt (hx : p.tables.exec = Jvm.exec) (hb : c.code = cc) {x y : UInt64} {i j : Int} {op : CmpOp} (hc : FP.dcmp x y = some (compare i j)) (d1 : decode cc pc = .ok (.dcmp op, 1)) {off : Int} {tgt : Nat} (d2 : decode cc (pc + 1) = .ok (.ifCond .lt off, 3)) (ht : ((pc + 1 : Nat) : Int) + off = (tgt : Int)) (kt : i < j → W p l e R s m args below meth c H locs cells slots Q (F0 m tgt ls rest)) (kf : j ≤ i → W p l e R s m args below meth c H locs cells slots Q (F0 m (pc + 1 + 3) ls rest)) : W p l e R s m args below meth c H locs cells slots Q (F0 m pc ls (.double y :: .double x :: rest)) := by
  refine lv_dcmp hx hb d1 ?_
  rw [cmpValue_of op hc]
  refine lv_if_lt hx hb d2 ht (fun h => kt ?_) (fun h => kf ?_)
  · revert h
    by_cases h1 : j < i
    · rw [if_pos h1]; intro h; exact absurd h (by decide)
    · rw [if_neg h1]
      by_cases h2 : i = j
      · rw [if_pos h2]; intro h; exact absurd h (by decide)
      · intro; omega
  · revert h
    by_cases h1 : j < i
    · intro; omega
    · rw [if_neg h1]
      by_cases h2 : i = j
      · intro; omega
      · rw [if_neg h2]; intro h; exact absurd (by decide) h
theorem fx_ne (hx : p.tables.exec = Jvm.exec) (hb : c.code = cc) {x y : UInt64} {i j : Int} {op : CmpOp} (hc : FP.dcmp x y = some (compare i j)) (d1 : decode cc pc = .ok (.dcmp op, 1)) {off : Int} {tgt : Nat} (d2 : decode cc (pc + 1) = .ok (.ifCond .ne off, 3)) (ht : ((pc + 1 : Nat) : Int) + off = (tgt : Int)) (kt : i ≠ j → W p l e R s m args below meth c H locs cells slots Q (F0 m tgt ls rest)) (kf : i = j → W p l e R s m args below meth c H locs cells slots Q (F0 m (pc + 1 + 3) ls rest)) : W p l e R s m args below meth c H locs cells slots Q (F0 m pc ls (.double y :: .double x :: rest)) := by
  refine lv_dcmp hx hb d1 ?_
  rw [cmpValue_of op hc]
  refine lv_if_ne hx hb d2 ht (fun h => kt ?_) (fun h => kf ?_)
  · intro h2
    apply h
    rw [if_neg (by omega), if_pos h2]
  · revert h
    by_cases h1 : j < i
    · rw [if_pos h1]; intro h; exact absurd h (by decide)
    · rw [if_neg h1]
      by_cases h2 : i = j
      · intro; exact h2
      · rw [if_neg h2]; intro h; exact absurd h (by decide)
theorem fx_eq (hx : p.tables.exec = Jvm.exec) (hb : c.code = cc) {x y : UInt64} {i j : Int} {op : CmpOp} (hc : FP.dcmp x y = some (compare i j)) (d1 : decode cc pc = .ok (.dcmp op, 1)) {off : Int} {tgt : Nat} (d2 : decode cc (pc + 1) = .ok (.ifCond .eq off, 3)) (ht : ((pc + 1 : Nat) : Int) + off = (tgt : Int)) (kt : i = j → W p l e R s m args below meth c H locs cells slots Q (F0 m tgt ls rest)) (kf : i ≠ j → W p l e R s m args below meth c H locs cells slots Q (F0 m (pc + 1 + 3) ls rest)) : W p l e R s m args below meth c H locs cells slots Q (F0 m pc ls (.double y :: .double x :: rest)) := by
  refine lv_dcmp hx hb d1 ?_
  rw [cmpValue_of op hc]
  refine lv_if_eq hx hb d2 ht (fun h => kt ?_) (fun h => kf ?_)
  · revert h
    by_cases h1 : j < i
    · rw [if_pos h1]; intro h; exact absurd h (by decide)
    · rw [if_neg h1]
      by_cases h2 : i = j
      · intro; exact h2
      · rw [if_neg h2]; intro h; exact absurd h (by decide)
  · intro h2
    apply h
    rw [if_neg (by omega), if_pos h2]
end FX
end
section
/-! WALKS of DD: printed by wip/D-29928w/dd.py -/
set_option maxHeartbeats 4000000 in
set_option maxRecDepth 100000 in
/-- DD.init: the fields are x and 0 -/
theorem m_DD_init2 (l : Launch) (D : va_G) (tys : List (ClassId × FieldType)) (h0 sz : Nat) (a b x : UInt64) : Met l yX5_init_2 (ws_ yX5_init_2 cX5_init_2 3 none) ({ frames := 0, cells := 0, slots := 0, locals := 0 }) (gPc D tys [.ref h0, .double x] sz (fun H => C1 D h0 (.inr (2, [.double a, .double b])) H)) (va_Qv (fun _ : Unit => True) (fun _ t => C1 D h0 (.inr (2, [.double x, .double FP.dconst0])) t.heap) (Fr1 h0 sz)) 0 0 (Fr1 h0 sz) := by
  refine Met.ofW (cc := cX5_init_2) (maxL := 3) (ret := none) (by decide) rfl ?_
  intro p e s m args below meth c s₁ B hml hv
  obtain ⟨rfl, hsz, hP, hK⟩ := hv
  have hx := B.exec
  have hb := B.bytes
  have hr := B.returns
  have hts := atoms_spec (ws := ws_ yX5_init_2 cX5_init_2 3 none) B.pre
  have hts : ∀ w ∈ lw_all, w.before _ s = true := fun w h => hts w (List.mem_cons_of_mem _ h)
  have hown : s.vm.findClass RX5 = some m.cls := findClass_of_methodNamed B.named
  have hlocks := B.notSynchronized
  have hin : meth.name = yX5_init_2.name := (name_of_methodNamed B.named B.method).1
  subst hsz
  obtain ⟨A, hAe⟩ : ∃ A, A = Fr1 h0 s.heap.size := ⟨_, rfl⟩
  rw [← hAe]
  have hA : ∀ q : Nat, s.heap.size ≤ q → A q := fun q h => by rw [hAe]; exact Or.inr h
  have hS : va_S A s.heap s.heap [] := va_S.rf
  have hl := lv_entry ([.ref h0, .double x]) (n := 3) (Nat.le_of_ble_eq_true rfl)
  rw [lg_entry_eq]
  generalize (lg_sl ([.ref h0, .double x]) ++ List.replicate (3 - (lg_sl ([.ref h0, .double x])).length) Slot.unset).toArray = ls at hl ⊢
  have hD : va_D A [(h0, .inr (2, [.double a, .double b]))] := va_D1 (by rw [hAe]; exact Or.inl rfl)
  have hl : lv_has ls 3 [(0, .ref h0), (1, .double x)] := hl
  refine lv_aload_n hx hb dX5_init_2_0 rfl (lv_at hl 0 rfl) ?_
  refine lv_dload_n hx hb dX5_init_2_1 rfl (lv_at hl 1 rfl) ?_
  refine va_put (D := D) (ci := 2) (v := .double x) (ty := .double) (C := RX5) (T := TX5) (N := 2) hx hb hts in_X5 tyX5 tyX5_ok nmX5 hown hK.1 hP hD hS 0 rfl rfl 0 (by decide) (hts _ q109) (fun _ h9 => h9) rfl (by decide +kernel) rfl rfl (Nat.le_of_ble_eq_true rfl) dX5_init_2_2 (fun H locs hP hD hS => ?_)
  have hP : va_P D vwCl [(h0, .inr (2, [.double x, .double b]))] H := hP
  have hD : va_D A [(h0, .inr (2, [.double x, .double b]))] := hD
  refine lv_aload_n hx hb dX5_init_2_5 rfl (lv_at hl 0 rfl) ?_
  refine lv_dconst0 hx hb dX5_init_2_6 ?_
  refine va_put (D := D) (ci := 2) (v := .double FP.dconst0) (ty := .double) (C := RX5) (T := TX5) (N := 2) hx hb hts in_X5 tyX5 tyX5_ok nmX5 hown hK.1 hP hD hS 0 rfl rfl 1 (by decide) (hts _ q110) (fun _ h9 => h9) rfl (by decide +kernel) rfl rfl (Nat.le_of_ble_eq_true rfl) dX5_init_2_7 (fun H locs hP hD hS => ?_)
  have hP : va_P D vwCl [(h0, .inr (2, [.double x, .double FP.dconst0]))] H := hP
  have hD : va_D A [(h0, .inr (2, [.double x, .double FP.dconst0]))] := hD
  exact W.vret hx hb hr (fun t ht hW => ⟨⟨(), rfl, trivial, by subst ht; exact hP⟩, hS.F ht⟩) hS.2.2 dX5_init_2_10
set_option maxHeartbeats 4000000 in
set_option maxRecDepth 100000 in
/-- DD(x): the fields are x and 0 -/
theorem m_DD_init (l : Launch) (D : va_G) (tys : List (ClassId × FieldType)) (h0 sz : Nat) (a b x : UInt64) : Met l yX5_init (ws_ yX5_init cX5_init 3 none) ({ frames := 1, cells := 0, slots := 0, locals := 22 }) (gPc D tys [.ref h0, .double x] sz (fun H => C1 D h0 (.inr (2, [.double a, .double b])) H)) (va_Qv (fun _ : Unit => True) (fun _ t => C1 D h0 (.inr (2, [.double x, .double FP.dconst0])) t.heap) (Fr1 h0 sz)) 0 0 (Fr1 h0 sz) := by
  refine Met.ofW (cc := cX5_init) (maxL := 3) (ret := none) (by decide) rfl ?_
  intro p e s m args below meth c s₁ B hml hv
  obtain ⟨rfl, hsz, hP, hK⟩ := hv
  have hx := B.exec
  have hb := B.bytes
  have hr := B.returns
  have hts := atoms_spec (ws := ws_ yX5_init cX5_init 3 none) B.pre
  have hts : ∀ w ∈ lw_all, w.before _ s = true := fun w h => hts w (List.mem_cons_of_mem _ h)
  have hown : s.vm.findClass RX5 = some m.cls := findClass_of_methodNamed B.named
  have hlocks := B.notSynchronized
  have hin : meth.name = yX5_init.name := (name_of_methodNamed B.named B.method).1
  subst hsz
  obtain ⟨A, hAe⟩ : ∃ A, A = Fr1 h0 s.heap.size := ⟨_, rfl⟩
  rw [← hAe]
  have hA : ∀ q : Nat, s.heap.size ≤ q → A q := fun q h => by rw [hAe]; exact Or.inr h
  have hS : va_S A s.heap s.heap [] := va_S.rf
  have hl := lv_entry ([.ref h0, .double x]) (n := 3) (Nat.le_of_ble_eq_true rfl)
  rw [lg_entry_eq]
  generalize (lg_sl ([.ref h0, .double x]) ++ List.replicate (3 - (lg_sl ([.ref h0, .double x])).length) Slot.unset).toArray = ls at hl ⊢
  have hAa : A h0 := by rw [hAe]; exact Or.inl rfl
  have hD : va_D A [(h0, .inr (2, [.double a, .double b]))] := va_D1 hAa
  have hl : lv_has ls 3 [(0, .ref h0), (1, .double x)] := hl
  refine lv_aload_n hx hb dX5_init_0 rfl (lv_at hl 0 rfl) ?_
  refine W.objInit hx hb hown (hts _ q104) (hts _ q19) (hts _ q20) rfl (by rw [hml]; exact hl.1) rfl dX5_init_1 (Nat.le_of_ble_eq_true rfl) (Nat.le_of_ble_eq_true rfl) ?_
  refine W.eq (g2 := F0 m 4 ls []) rfl ?_
  refine lv_aload_n hx hb dX5_init_4 rfl (lv_at hl 0 rfl) ?_
  refine lv_dconst0 hx hb dX5_init_5 ?_
  refine va_put (D := D) (ci := 2) (v := .double FP.dconst0) (ty := .double) (C := RX5) (T := TX5) (N := 2) hx hb hts in_X5 tyX5 tyX5_ok nmX5 hown hK.1 hP hD hS 0 rfl rfl 0 (by decide) (hts _ q109) (fun _ h9 => h9) rfl (by decide +kernel) rfl rfl (Nat.le_of_ble_eq_true rfl) dX5_init_6 (fun H locs hP hD hS => ?_)
  have hP : va_P D vwCl [(h0, .inr (2, [.double FP.dconst0, .double b]))] H := hP
  have hD : va_D A [(h0, .inr (2, [.double FP.dconst0, .double b]))] := hD
  refine lv_aload_n hx hb dX5_init_9 rfl (lv_at hl 0 rfl) ?_
  refine lv_dconst0 hx hb dX5_init_10 ?_
  refine va_put (D := D) (ci := 2) (v := .double FP.dconst0) (ty := .double) (C := RX5) (T := TX5) (N := 2) hx hb hts in_X5 tyX5 tyX5_ok nmX5 hown hK.1 hP hD hS 0 rfl rfl 1 (by decide) (hts _ q110) (fun _ h9 => h9) rfl (by decide +kernel) rfl rfl (Nat.le_of_ble_eq_true rfl) dX5_init_11 (fun H locs hP hD hS => ?_)
  have hP : va_P D vwCl [(h0, .inr (2, [.double FP.dconst0, .double FP.dconst0]))] H := hP
  have hD : va_D A [(h0, .inr (2, [.double FP.dconst0, .double FP.dconst0]))] := hD
  refine lv_aload_n hx hb dX5_init_14 rfl (lv_at hl 0 rfl) ?_
  refine lv_dload_n hx hb dX5_init_15 rfl (lv_at hl 1 rfl) ?_
  refine va_callv (va_runV (As := [.double x]) (rest := []) ⟨hx, hb, hml, hown, hts⟩ (m_DD_init2 l D tys h0 _ FP.dconst0 FP.dconst0 x) (cwV 1 hts (lw_V q105 q107 qs1 q10 q108) rfl rfl rfl (by decide +kernel) ⟨Nat.le_of_ble_eq_true rfl, Nat.le_of_ble_eq_true rfl⟩) (gV (va_recv hK.1 hP (ci := 2) (q0 := 0) rfl rfl) rfl hP hK) rfl rfl hl.1 rfl (lv_room (Nat.le_of_ble_eq_true rfl)) dX5_init_16 ⟨Nat.le_of_ble_eq_true rfl, Nat.le_of_ble_eq_true rfl⟩) hS (fun q h1 h2 => h2.elim (fun e => e ▸ hAa) (fun h => absurd h (Nat.not_le.mpr h1))) (fun q h => h.elim (fun e => e ▸ hAa) (fun h => hA q (Nat.le_trans hS.1 h))) (fun u t H1 locs ht hvm hw hB hz hk hS => ?_)
  rw [ht] at hB
  exact W.vret hx hb hr (fun t ht hW => ⟨⟨(), rfl, trivial, by subst ht; exact hB⟩, hS.F ht⟩) hS.2.2 dX5_init_19
set_option maxHeartbeats 4000000 in
set_option maxRecDepth 100000 in
/-- DD.valueOf(x): a new one -/
theorem m_DD_valueOf (l : Launch) (D : va_G) (tys : List (ClassId × FieldType)) (sz : Nat) (x : UInt64) : Met l yX5_valueOf (ws_ yX5_valueOf cX5_valueOf 2 (some (.object "DD"))) ({ frames := 2, cells := 1, slots := 2, locals := 44 }) (gPc D tys [.double x] sz (fun _ => True)) (va_Qr (fun _ : Unit => True) (fun _ ra t => sz ≤ ra ∧ C1 D ra (.inr (2, [.double x, .double FP.dconst0])) t.heap) (Fr0 sz)) 1 2 (Fr0 sz) := by
  refine Met.ofW (cc := cX5_valueOf) (maxL := 2) (ret := (some (.object "DD"))) (by decide) rfl ?_
  intro p e s m args below meth c s₁ B hml hv
  obtain ⟨rfl, hsz, -, hK⟩ := hv
  have hx := B.exec
  have hb := B.bytes
  have hr := B.returns
  have hts := atoms_spec (ws := ws_ yX5_valueOf cX5_valueOf 2 (some (.object "DD"))) B.pre
  have hts : ∀ w ∈ lw_all, w.before _ s = true := fun w h => hts w (List.mem_cons_of_mem _ h)
  have hown : s.vm.findClass RX5 = some m.cls := findClass_of_methodNamed B.named
  have hlocks := B.notSynchronized
  have hin : meth.name = yX5_valueOf.name := (name_of_methodNamed B.named B.method).1
  subst hsz
  obtain ⟨A, hAe⟩ : ∃ A, A = Fr0 s.heap.size := ⟨_, rfl⟩
  rw [← hAe]
  have hA : ∀ q : Nat, s.heap.size ≤ q → A q := fun q h => by rw [hAe]; exact h
  have hS : va_S A s.heap s.heap [] := va_S.rf
  have hl := lv_entry ([.double x]) (n := 2) (Nat.le_of_ble_eq_true rfl)
  rw [lg_entry_eq]
  generalize (lg_sl ([.double x]) ++ List.replicate (2 - (lg_sl ([.double x])).length) Slot.unset).toArray = ls at hl ⊢
  have hl : lv_has ls 2 [(0, .double x)] := hl
  refine va_new (D := D) (ci := 2) (fs := [.double 0, .double 0]) (C := RX5) (T := TX5) (N := 2) hx hb hts in_X5 tyX5 tyX5_ok hown (hts _ q99) (hts _ q100) (hts _ q10) hK.1 (va_P0 (H := _)) va_D0 hS hA rfl (fun j hj => by rcases (show j = 0 ∨ j = 1 by omega) with rfl | rfl <;> rfl) (Nat.le_of_ble_eq_true rfl) (Nat.le_of_ble_eq_true rfl) dX5_valueOf_0 (fun q1 H hP hD hS => ?_)
  have hP : C1 D q1 (.inr (2, [.double 0, .double 0])) H := hP
  have hq1 : s.heap.size ≤ q1 := by
    have h1 : A q1 := hD.2 0 _ rfl
    rw [hAe] at h1
    exact h1
  refine lv_dup hx hb dX5_valueOf_3 rfl ?_
  refine lv_dload_n hx hb dX5_valueOf_4 rfl (lv_at hl 0 rfl) ?_
  have hAa : A q1 := hA q1 hq1
  refine va_callv (va_runI (As := [.double x]) (rest := [.ref q1]) ⟨hx, hb, hml, hown, hts⟩ (m_DD_init l D tys q1 _ 0 0 x) (cwI 1 hts (lw_meth q103) rfl rfl rfl (hts _ q10) (hts _ q101) (hts _ q102) rfl (by decide +kernel) ⟨Nat.le_of_ble_eq_true rfl, Nat.le_of_ble_eq_true rfl⟩) (gS rfl hP hK) rfl rfl hl.1 rfl (lv_room (Nat.le_of_ble_eq_true rfl)) dX5_valueOf_5 ⟨Nat.le_of_ble_eq_true rfl, Nat.le_of_ble_eq_true rfl⟩) hS (fun q h1 h2 => h2.elim (fun e => e ▸ hAa) (fun h => absurd h (Nat.not_le.mpr h1))) (fun q h => h.elim (fun e => e ▸ hAa) (fun h => hA q (Nat.le_trans hS.1 h))) (fun u t H1 locs ht hvm hw hB hz hk hS => ?_)
  rw [ht] at hB
  exact W.aret (v := .ref q1) hx hb hr (Or.inl ⟨_, rfl⟩) (Or.inr ⟨_, rfl⟩) (fun t ht hW => ⟨⟨(), q1, rfl, trivial, hq1, by subst ht; exact hB⟩, hS.F ht⟩) hS.2.2 dX5_valueOf_8
end
section
/-! WALKS of DD, the arithmetic: printed by wip/D-29928w/dd2.py -/
theorem dsplit : DI 134217729 4728779608772575232 := ⟨false, 4503599660924928, -25, by decide +kernel, by decide, by decide, by decide, by decide +kernel⟩
set_option maxHeartbeats 4000000 in
set_option maxRecDepth 100000 in
/-- DD.selfAdd(y) of whole numbers -/
theorem m_DD_selfAdd (l : Launch) (D : va_G) (tys : List (ClassId × FieldType)) (h0 sz : Nat) (hi lo y : UInt64) (a b : Int) (hhi : DI a hi) (hlo : DI 0 lo) (hy : DI b y) (ba : a.natAbs < 2 ^ 50) (bb : b.natAbs < 2 ^ 50) : Met l yX5_selfAdd (ws_ yX5_selfAdd cX5_selfAdd 15 (some (.object "DD"))) ({ frames := 0, cells := 0, slots := 0, locals := 0 }) (gPc D tys [.ref h0, .double y] sz (fun H => C1 D h0 (.inr (2, [.double hi, .double lo])) H)) (va_Qr (fun u : UInt64 × UInt64 => DI (a + b) u.1 ∧ DI (0) u.2) (fun u ra t => ra = h0 ∧ C1 D h0 (.inr (2, [.double u.1, .double u.2])) t.heap) (Fr1 h0 sz)) 0 0 (Fr1 h0 sz) := by
  refine Met.ofW (cc := cX5_selfAdd) (maxL := 15) (ret := (some (.object "DD"))) (by decide) rfl ?_
  intro p e s m args below meth c s₁ B hml hv
  obtain ⟨rfl, hsz, hP, hK⟩ := hv
  have hx := B.exec
  have hb := B.bytes
  have hr := B.returns
  have hts := atoms_spec (ws := ws_ yX5_selfAdd cX5_selfAdd 15 (some (.object "DD"))) B.pre
  have hts : ∀ w ∈ lw_all, w.before _ s = true := fun w h => hts w (List.mem_cons_of_mem _ h)
  have hown : s.vm.findClass RX5 = some m.cls := findClass_of_methodNamed B.named
  have hlocks := B.notSynchronized
  have hin : meth.name = yX5_selfAdd.name := (name_of_methodNamed B.named B.method).1
  subst hsz
  obtain ⟨A, hAe⟩ : ∃ A, A = Fr1 h0 s.heap.size := ⟨_, rfl⟩
  rw [← hAe]
  have hA : ∀ q : Nat, s.heap.size ≤ q → A q := fun q h => by rw [hAe]; exact Or.inr h
  have hS : va_S A s.heap s.heap [] := va_S.rf
  have hl := lv_entry ([.ref h0, .double y]) (n := 15) (Nat.le_of_ble_eq_true rfl)
  rw [lg_entry_eq]
  generalize (lg_sl ([.ref h0, .double y]) ++ List.replicate (15 - (lg_sl ([.ref h0, .double y])).length) Slot.unset).toArray = ls at hl ⊢
  have hAa : A h0 := by rw [hAe]; exact Or.inl rfl
  have hl : lv_has ls 15 [(0, .ref h0), (1, .double y)] := hl
  have hD : va_D A [(h0, .inr (2, [.double hi, .double lo]))] := va_D1 hAa
  refine lv_aload_n hx hb dX5_selfAdd_0 rfl (lv_at hl 0 rfl) ?_
  refine va_get (D := D) (ci := 2) (v := .double hi) (C := RX5) (T := TX5) (N := 2) hx hb hts in_X5 hown hK.1 hP 0 rfl rfl 0 (by decide) (hts _ q109) (fun _ h9 => h9) rfl dX5_selfAdd_1 ?_
  refine lv_dload_n hx hb dX5_selfAdd_4 rfl (lv_at hl 1 rfl) ?_
  obtain ⟨v1, ev1, hv1⟩ : ∃ v, FP.dadd hi y = v ∧ DI (a + b) v := ⟨_, rfl, add_ex hhi hy (by omega) (by omega)⟩
  refine fx_dadd hx hb dX5_selfAdd_5 ev1 hv1 ?_
  refine lv_dstore (lv' := [(7, .double v1), (0, .ref h0), (1, .double y)]) hx hb dX5_selfAdd_6 hl (by decide) rfl (fun ls hl => ?_)
  refine lv_dload hx hb dX5_selfAdd_8 (lv_at hl 0 rfl) ?_
  refine lv_aload_n hx hb dX5_selfAdd_10 rfl (lv_at hl 1 rfl) ?_
  refine va_get (D := D) (ci := 2) (v := .double hi) (C := RX5) (T := TX5) (N := 2) hx hb hts in_X5 hown hK.1 hP 0 rfl rfl 0 (by decide) (hts _ q109) (fun _ h9 => h9) rfl dX5_selfAdd_11 ?_
  obtain ⟨v2, ev2, hv2⟩ : ∃ v, FP.dsub v1 hi = v ∧ DI b v := ⟨_, rfl, sub_ex hv1 hhi (by omega) (by omega)⟩
  refine fx_dsub hx hb dX5_selfAdd_14 ev2 hv2 ?_
  refine lv_dstore (lv' := [(11, .double v2), (7, .double v1), (0, .ref h0), (1, .double y)]) hx hb dX5_selfAdd_15 hl (by decide) rfl (fun ls hl => ?_)
  refine lv_dload hx hb dX5_selfAdd_17 (lv_at hl 1 rfl) ?_
  refine lv_dload hx hb dX5_selfAdd_19 (lv_at hl 0 rfl) ?_
  obtain ⟨v3, ev3, hv3⟩ : ∃ v, FP.dsub v1 v2 = v ∧ DI a v := ⟨_, rfl, sub_ex hv1 hv2 (by omega) (by omega)⟩
  refine fx_dsub hx hb dX5_selfAdd_21 ev3 hv3 ?_
  refine lv_dstore (lv' := [(9, .double v3), (11, .double v2), (7, .double v1), (0, .ref h0), (1, .double y)]) hx hb dX5_selfAdd_22 hl (by decide) rfl (fun ls hl => ?_)
  refine lv_dload_n hx hb dX5_selfAdd_24 rfl (lv_at hl 4 rfl) ?_
  refine lv_dload hx hb dX5_selfAdd_25 (lv_at hl 1 rfl) ?_
  obtain ⟨v4, ev4, hv4⟩ : ∃ v, FP.dsub y v2 = v ∧ DI 0 v := ⟨_, rfl, sub_ex hy hv2 (by omega) (by omega)⟩
  refine fx_dsub hx hb dX5_selfAdd_27 ev4 hv4 ?_
  refine lv_aload_n hx hb dX5_selfAdd_28 rfl (lv_at hl 3 rfl) ?_
  refine va_get (D := D) (ci := 2) (v := .double hi) (C := RX5) (T := TX5) (N := 2) hx hb hts in_X5 hown hK.1 hP 0 rfl rfl 0 (by decide) (hts _ q109) (fun _ h9 => h9) rfl dX5_selfAdd_29 ?_
  refine lv_dload hx hb dX5_selfAdd_32 (lv_at hl 0 rfl) ?_
  obtain ⟨v5, ev5, hv5⟩ : ∃ v, FP.dsub hi v3 = v ∧ DI 0 v := ⟨_, rfl, sub_ex hhi hv3 (by omega) (by omega)⟩
  refine fx_dsub hx hb dX5_selfAdd_34 ev5 hv5 ?_
  obtain ⟨v6, ev6, hv6⟩ : ∃ v, FP.dadd v4 v5 = v ∧ DI 0 v := ⟨_, rfl, add_ex hv4 hv5 (by omega) (by omega)⟩
  refine fx_dadd hx hb dX5_selfAdd_35 ev6 hv6 ?_
  refine lv_dstore (lv' := [(9, .double v6), (11, .double v2), (7, .double v1), (0, .ref h0), (1, .double y)]) hx hb dX5_selfAdd_36 hl (by decide) rfl (fun ls hl => ?_)
  refine lv_dload hx hb dX5_selfAdd_38 (lv_at hl 0 rfl) ?_
  refine lv_aload_n hx hb dX5_selfAdd_40 rfl (lv_at hl 3 rfl) ?_
  refine va_get (D := D) (ci := 2) (v := .double lo) (C := RX5) (T := TX5) (N := 2) hx hb hts in_X5 hown hK.1 hP 0 rfl rfl 1 (by decide) (hts _ q110) (fun _ h9 => h9) rfl dX5_selfAdd_41 ?_
  obtain ⟨v7, ev7, hv7⟩ : ∃ v, FP.dadd v6 lo = v ∧ DI 0 v := ⟨_, rfl, add_ex hv6 hlo (by omega) (by omega)⟩
  refine fx_dadd hx hb dX5_selfAdd_44 ev7 hv7 ?_
  refine lv_dstore (lv' := [(13, .double v7), (9, .double v6), (11, .double v2), (7, .double v1), (0, .ref h0), (1, .double y)]) hx hb dX5_selfAdd_45 hl (by decide) rfl (fun ls hl => ?_)
  refine lv_dload hx hb dX5_selfAdd_47 (lv_at hl 3 rfl) ?_
  refine lv_dload hx hb dX5_selfAdd_49 (lv_at hl 0 rfl) ?_
  obtain ⟨v8, ev8, hv8⟩ : ∃ v, FP.dadd v1 v7 = v ∧ DI (a + b) v := ⟨_, rfl, add_ex hv1 hv7 (by omega) (by omega)⟩
  refine fx_dadd hx hb dX5_selfAdd_51 ev8 hv8 ?_
  refine lv_dstore_n (lv' := [(3, .double v8), (13, .double v7), (9, .double v6), (11, .double v2), (7, .double v1), (0, .ref h0), (1, .double y)]) hx hb dX5_selfAdd_52 rfl hl (by decide) rfl (fun ls hl => ?_)
  refine lv_dload hx hb dX5_selfAdd_53 (lv_at hl 1 rfl) ?_
  refine lv_dload hx hb dX5_selfAdd_55 (lv_at hl 4 rfl) ?_
  refine lv_dload_n hx hb dX5_selfAdd_57 rfl (lv_at hl 0 rfl) ?_
  obtain ⟨v9, ev9, hv9⟩ : ∃ v, FP.dsub v1 v8 = v ∧ DI 0 v := ⟨_, rfl, sub_ex hv1 hv8 (by omega) (by omega)⟩
  refine fx_dsub hx hb dX5_selfAdd_58 ev9 hv9 ?_
  obtain ⟨v10, ev10, hv10⟩ : ∃ v, FP.dadd v7 v9 = v ∧ DI 0 v := ⟨_, rfl, add_ex hv7 hv9 (by omega) (by omega)⟩
  refine fx_dadd hx hb dX5_selfAdd_59 ev10 hv10 ?_
  refine lv_dstore (lv' := [(5, .double v10), (3, .double v8), (13, .double v7), (9, .double v6), (11, .double v2), (7, .double v1), (0, .ref h0), (1, .double y)]) hx hb dX5_selfAdd_60 hl (by decide) rfl (fun ls hl => ?_)
  refine lv_aload_n hx hb dX5_selfAdd_62 rfl (lv_at hl 6 rfl) ?_
  refine lv_dload_n hx hb dX5_selfAdd_63 rfl (lv_at hl 1 rfl) ?_
  refine lv_dload hx hb dX5_selfAdd_64 (lv_at hl 0 rfl) ?_
  obtain ⟨v11, ev11, hv11⟩ : ∃ v, FP.dadd v8 v10 = v ∧ DI (a + b) v := ⟨_, rfl, add_ex hv8 hv10 (by omega) (by omega)⟩
  refine fx_dadd hx hb dX5_selfAdd_66 ev11 hv11 ?_
  refine va_put (D := D) (ci := 2) (v := .double v11) (ty := .double) (C := RX5) (T := TX5) (N := 2) hx hb hts in_X5 tyX5 tyX5_ok nmX5 hown hK.1 hP hD hS 0 rfl rfl 0 (by decide) (hts _ q109) (fun _ h9 => h9) rfl (by decide +kernel) rfl rfl (Nat.le_of_ble_eq_true rfl) dX5_selfAdd_67 (fun H locs hP hD hS => ?_)
  have hP : va_P D vwCl [(h0, .inr (2, [.double v11, .double lo]))] H := hP
  have hD : va_D A [(h0, .inr (2, [.double v11, .double lo]))] := hD
  refine lv_aload_n hx hb dX5_selfAdd_70 rfl (lv_at hl 6 rfl) ?_
  refine lv_dload hx hb dX5_selfAdd_71 (lv_at hl 0 rfl) ?_
  refine lv_dload_n hx hb dX5_selfAdd_73 rfl (lv_at hl 1 rfl) ?_
  refine lv_aload_n hx hb dX5_selfAdd_74 rfl (lv_at hl 6 rfl) ?_
  refine va_get (D := D) (ci := 2) (v := .double v11) (C := RX5) (T := TX5) (N := 2) hx hb hts in_X5 hown hK.1 hP 0 rfl rfl 0 (by decide) (hts _ q109) (fun _ h9 => h9) rfl dX5_selfAdd_75 ?_
  obtain ⟨v12, ev12, hv12⟩ : ∃ v, FP.dsub v8 v11 = v ∧ DI 0 v := ⟨_, rfl, sub_ex hv8 hv11 (by omega) (by omega)⟩
  refine fx_dsub hx hb dX5_selfAdd_78 ev12 hv12 ?_
  obtain ⟨v13, ev13, hv13⟩ : ∃ v, FP.dadd v10 v12 = v ∧ DI 0 v := ⟨_, rfl, add_ex hv10 hv12 (by omega) (by omega)⟩
  refine fx_dadd hx hb dX5_selfAdd_79 ev13 hv13 ?_
  refine va_put (D := D) (ci := 2) (v := .double v13) (ty := .double) (C := RX5) (T := TX5) (N := 2) hx hb hts in_X5 tyX5 tyX5_ok nmX5 hown hK.1 hP hD hS 0 rfl rfl 1 (by decide) (hts _ q110) (fun _ h9 => h9) rfl (by decide +kernel) rfl rfl (Nat.le_of_ble_eq_true rfl) dX5_selfAdd_80 (fun H locs hP hD hS => ?_)
  have hP : va_P D vwCl [(h0, .inr (2, [.double v11, .double v13]))] H := hP
  have hD : va_D A [(h0, .inr (2, [.double v11, .double v13]))] := hD
  refine lv_aload_n hx hb dX5_selfAdd_83 rfl (lv_at hl 6 rfl) ?_
  exact W.aret (v := .ref h0) hx hb hr (Or.inl ⟨_, rfl⟩) (Or.inr ⟨_, rfl⟩) (fun t ht hW => ⟨⟨(v11, v13), h0, rfl, ⟨hv11, hv13⟩, rfl, by subst ht; exact hP⟩, hS.F ht⟩) hS.2.2 dX5_selfAdd_84
set_option maxHeartbeats 4000000 in
set_option maxRecDepth 100000 in
/-- DD.selfAdd(yhi, ylo): two numbers in parts whose sum is small -/
theorem m_DD_selfAdd2 (l : Launch) (D : va_G) (tys : List (ClassId × FieldType)) (h0 sz : Nat) (hi lo yh yl : UInt64) (ka kb kc kd : Int) (hhi : DI ka hi) (hlo : DI kb lo) (hyh : DI kc yh) (hyl : DI kd yl) (ra : rd ka = ka) (rc : rd kc = kc) (ba : ka.natAbs < 2 ^ 63) (bc : kc.natAbs < 2 ^ 63) (bs : (ka + kc).natAbs < 2 ^ 50) (bb : kb.natAbs < 2 ^ 50) (bd : kd.natAbs < 2 ^ 50) : Met l yX5_selfAdd_2 (ws_ yX5_selfAdd_2 cX5_selfAdd_2 25 (some (.object "DD"))) ({ frames := 0, cells := 0, slots := 0, locals := 0 }) (gPc D tys [.ref h0, .double yh, .double yl] sz (fun H => C1 D h0 (.inr (2, [.double hi, .double lo])) H)) (va_Qr (fun u : UInt64 × UInt64 => DI (ka + kc + kb + kd) u.1 ∧ DI (0) u.2) (fun u ra t => ra = h0 ∧ C1 D h0 (.inr (2, [.double u.1, .double u.2])) t.heap) (Fr1 h0 sz)) 0 0 (Fr1 h0 sz) := by
  refine Met.ofW (cc := cX5_selfAdd_2) (maxL := 25) (ret := (some (.object "DD"))) (by decide) rfl ?_
  intro p e s m args below meth c s₁ B hml hv
  obtain ⟨rfl, hsz, hP, hK⟩ := hv
  have hx := B.exec
  have hb := B.bytes
  have hr := B.returns
  have hts := atoms_spec (ws := ws_ yX5_selfAdd_2 cX5_selfAdd_2 25 (some (.object "DD"))) B.pre
  have hts : ∀ w ∈ lw_all, w.before _ s = true := fun w h => hts w (List.mem_cons_of_mem _ h)
  have hown : s.vm.findClass RX5 = some m.cls := findClass_of_methodNamed B.named
  have hlocks := B.notSynchronized
  have hin : meth.name = yX5_selfAdd_2.name := (name_of_methodNamed B.named B.method).1
  subst hsz
  obtain ⟨A, hAe⟩ : ∃ A, A = Fr1 h0 s.heap.size := ⟨_, rfl⟩
  rw [← hAe]
  have hA : ∀ q : Nat, s.heap.size ≤ q → A q := fun q h => by rw [hAe]; exact Or.inr h
  have hS : va_S A s.heap s.heap [] := va_S.rf
  have hl := lv_entry ([.ref h0, .double yh, .double yl]) (n := 25) (Nat.le_of_ble_eq_true rfl)
  rw [lg_entry_eq]
  generalize (lg_sl ([.ref h0, .double yh, .double yl]) ++ List.replicate (25 - (lg_sl ([.ref h0, .double yh, .double yl])).length) Slot.unset).toArray = ls at hl ⊢
  have hAa : A h0 := by rw [hAe]; exact Or.inl rfl
  have hl : lv_has ls 25 [(0, .ref h0), (1, .double yh), (3, .double yl)] := hl
  have hD : va_D A [(h0, .inr (2, [.double hi, .double lo]))] := va_D1 hAa
  refine lv_aload_n hx hb dX5_selfAdd_2_0 rfl (lv_at hl 0 rfl) ?_
  refine va_get (D := D) (ci := 2) (v := .double hi) (C := RX5) (T := TX5) (N := 2) hx hb hts in_X5 hown hK.1 hP 0 rfl rfl 0 (by decide) (hts _ q109) (fun _ h9 => h9) rfl dX5_selfAdd_2_1 ?_
  refine lv_dload_n hx hb dX5_selfAdd_2_4 rfl (lv_at hl 1 rfl) ?_
  obtain ⟨v1, ev1, hv1⟩ : ∃ v, FP.dadd hi yh = v ∧ DI (ka + kc) v := ⟨_, rfl, add_ex hhi hyh (by omega) (by omega)⟩
  refine fx_dadd hx hb dX5_selfAdd_2_5 ev1 hv1 ?_
  refine lv_dstore (lv' := [(13, .double v1), (0, .ref h0), (1, .double yh), (3, .double yl)]) hx hb dX5_selfAdd_2_6 hl (by decide) rfl (fun ls hl => ?_)
  refine lv_aload_n hx hb dX5_selfAdd_2_8 rfl (lv_at hl 1 rfl) ?_
  refine va_get (D := D) (ci := 2) (v := .double lo) (C := RX5) (T := TX5) (N := 2) hx hb hts in_X5 hown hK.1 hP 0 rfl rfl 1 (by decide) (hts _ q110) (fun _ h9 => h9) rfl dX5_selfAdd_2_9 ?_
  refine lv_dload_n hx hb dX5_selfAdd_2_12 rfl (lv_at hl 3 rfl) ?_
  obtain ⟨v2, ev2, hv2⟩ : ∃ v, FP.dadd lo yl = v ∧ DI (kb + kd) v := ⟨_, rfl, add_ex hlo hyl (by omega) (by omega)⟩
  refine fx_dadd hx hb dX5_selfAdd_2_13 ev2 hv2 ?_
  refine lv_dstore (lv' := [(9, .double v2), (13, .double v1), (0, .ref h0), (1, .double yh), (3, .double yl)]) hx hb dX5_selfAdd_2_14 hl (by decide) rfl (fun ls hl => ?_)
  refine lv_dload hx hb dX5_selfAdd_2_16 (lv_at hl 1 rfl) ?_
  refine lv_aload_n hx hb dX5_selfAdd_2_18 rfl (lv_at hl 2 rfl) ?_
  refine va_get (D := D) (ci := 2) (v := .double hi) (C := RX5) (T := TX5) (N := 2) hx hb hts in_X5 hown hK.1 hP 0 rfl rfl 0 (by decide) (hts _ q109) (fun _ h9 => h9) rfl dX5_selfAdd_2_19 ?_
  obtain ⟨v3, ev3, hv3⟩ : ∃ v, FP.dsub v1 hi = v ∧ DI kc v := ⟨_, rfl, sub_rd hv1 hhi (k := kc) (by omega) bc rc⟩
  refine fx_dsub hx hb dX5_selfAdd_2_22 ev3 hv3 ?_
  refine lv_dstore (lv' := [(17, .double v3), (9, .double v2), (13, .double v1), (0, .ref h0), (1, .double yh), (3, .double yl)]) hx hb dX5_selfAdd_2_23 hl (by decide) rfl (fun ls hl => ?_)
  refine lv_dload hx hb dX5_selfAdd_2_25 (lv_at hl 1 rfl) ?_
  refine lv_aload_n hx hb dX5_selfAdd_2_27 rfl (lv_at hl 3 rfl) ?_
  refine va_get (D := D) (ci := 2) (v := .double lo) (C := RX5) (T := TX5) (N := 2) hx hb hts in_X5 hown hK.1 hP 0 rfl rfl 1 (by decide) (hts _ q110) (fun _ h9 => h9) rfl dX5_selfAdd_2_28 ?_
  obtain ⟨v4, ev4, hv4⟩ : ∃ v, FP.dsub v2 lo = v ∧ DI kd v := ⟨_, rfl, sub_ex hv2 hlo (by omega) (by omega)⟩
  refine fx_dsub hx hb dX5_selfAdd_2_31 ev4 hv4 ?_
  refine lv_dstore (lv' := [(19, .double v4), (17, .double v3), (9, .double v2), (13, .double v1), (0, .ref h0), (1, .double yh), (3, .double yl)]) hx hb dX5_selfAdd_2_32 hl (by decide) rfl (fun ls hl => ?_)
  refine lv_dload hx hb dX5_selfAdd_2_34 (lv_at hl 3 rfl) ?_
  refine lv_dload hx hb dX5_selfAdd_2_36 (lv_at hl 1 rfl) ?_
  obtain ⟨v5, ev5, hv5⟩ : ∃ v, FP.dsub v1 v3 = v ∧ DI ka v := ⟨_, rfl, sub_rd hv1 hv3 (k := ka) (by omega) ba ra⟩
  refine fx_dsub hx hb dX5_selfAdd_2_38 ev5 hv5 ?_
  refine lv_dstore (lv' := [(15, .double v5), (19, .double v4), (17, .double v3), (9, .double v2), (13, .double v1), (0, .ref h0), (1, .double yh), (3, .double yl)]) hx hb dX5_selfAdd_2_39 hl (by decide) rfl (fun ls hl => ?_)
  refine lv_dload hx hb dX5_selfAdd_2_41 (lv_at hl 3 rfl) ?_
  refine lv_dload hx hb dX5_selfAdd_2_43 (lv_at hl 1 rfl) ?_
  obtain ⟨v6, ev6, hv6⟩ : ∃ v, FP.dsub v2 v4 = v ∧ DI kb v := ⟨_, rfl, sub_ex hv2 hv4 (by omega) (by omega)⟩
  refine fx_dsub hx hb dX5_selfAdd_2_45 ev6 hv6 ?_
  refine lv_dstore (lv' := [(11, .double v6), (15, .double v5), (19, .double v4), (17, .double v3), (9, .double v2), (13, .double v1), (0, .ref h0), (1, .double yh), (3, .double yl)]) hx hb dX5_selfAdd_2_46 hl (by decide) rfl (fun ls hl => ?_)
  refine lv_dload_n hx hb dX5_selfAdd_2_48 rfl (lv_at hl 7 rfl) ?_
  refine lv_dload hx hb dX5_selfAdd_2_49 (lv_at hl 3 rfl) ?_
  obtain ⟨v7, ev7, hv7⟩ : ∃ v, FP.dsub yh v3 = v ∧ DI 0 v := ⟨_, rfl, sub_ex hyh hv3 (by omega) (by omega)⟩
  refine fx_dsub hx hb dX5_selfAdd_2_51 ev7 hv7 ?_
  refine lv_aload_n hx hb dX5_selfAdd_2_52 rfl (lv_at hl 6 rfl) ?_
  refine va_get (D := D) (ci := 2) (v := .double hi) (C := RX5) (T := TX5) (N := 2) hx hb hts in_X5 hown hK.1 hP 0 rfl rfl 0 (by decide) (hts _ q109) (fun _ h9 => h9) rfl dX5_selfAdd_2_53 ?_
  refine lv_dload hx hb dX5_selfAdd_2_56 (lv_at hl 1 rfl) ?_
  obtain ⟨v8, ev8, hv8⟩ : ∃ v, FP.dsub hi v5 = v ∧ DI 0 v := ⟨_, rfl, sub_ex hhi hv5 (by omega) (by omega)⟩
  refine fx_dsub hx hb dX5_selfAdd_2_58 ev8 hv8 ?_
  obtain ⟨v9, ev9, hv9⟩ : ∃ v, FP.dadd v7 v8 = v ∧ DI 0 v := ⟨_, rfl, add_ex hv7 hv8 (by omega) (by omega)⟩
  refine fx_dadd hx hb dX5_selfAdd_2_59 ev9 hv9 ?_
  refine lv_dstore (lv' := [(15, .double v9), (11, .double v6), (19, .double v4), (17, .double v3), (9, .double v2), (13, .double v1), (0, .ref h0), (1, .double yh), (3, .double yl)]) hx hb dX5_selfAdd_2_60 hl (by decide) rfl (fun ls hl => ?_)
  refine lv_dload_n hx hb dX5_selfAdd_2_62 rfl (lv_at hl 8 rfl) ?_
  refine lv_dload hx hb dX5_selfAdd_2_63 (lv_at hl 2 rfl) ?_
  obtain ⟨v10, ev10, hv10⟩ : ∃ v, FP.dsub yl v4 = v ∧ DI 0 v := ⟨_, rfl, sub_ex hyl hv4 (by omega) (by omega)⟩
  refine fx_dsub hx hb dX5_selfAdd_2_65 ev10 hv10 ?_
  refine lv_aload_n hx hb dX5_selfAdd_2_66 rfl (lv_at hl 6 rfl) ?_
  refine va_get (D := D) (ci := 2) (v := .double lo) (C := RX5) (T := TX5) (N := 2) hx hb hts in_X5 hown hK.1 hP 0 rfl rfl 1 (by decide) (hts _ q110) (fun _ h9 => h9) rfl dX5_selfAdd_2_67 ?_
  refine lv_dload hx hb dX5_selfAdd_2_70 (lv_at hl 1 rfl) ?_
  obtain ⟨v11, ev11, hv11⟩ : ∃ v, FP.dsub lo v6 = v ∧ DI 0 v := ⟨_, rfl, sub_ex hlo hv6 (by omega) (by omega)⟩
  refine fx_dsub hx hb dX5_selfAdd_2_72 ev11 hv11 ?_
  obtain ⟨v12, ev12, hv12⟩ : ∃ v, FP.dadd v10 v11 = v ∧ DI 0 v := ⟨_, rfl, add_ex hv10 hv11 (by omega) (by omega)⟩
  refine fx_dadd hx hb dX5_selfAdd_2_73 ev12 hv12 ?_
  refine lv_dstore (lv' := [(11, .double v12), (15, .double v9), (19, .double v4), (17, .double v3), (9, .double v2), (13, .double v1), (0, .ref h0), (1, .double yh), (3, .double yl)]) hx hb dX5_selfAdd_2_74 hl (by decide) rfl (fun ls hl => ?_)
  refine lv_dload hx hb dX5_selfAdd_2_76 (lv_at hl 1 rfl) ?_
  refine lv_dload hx hb dX5_selfAdd_2_78 (lv_at hl 4 rfl) ?_
  obtain ⟨v13, ev13, hv13⟩ : ∃ v, FP.dadd v9 v2 = v ∧ DI (kb + kd) v := ⟨_, rfl, add_ex hv9 hv2 (by omega) (by omega)⟩
  refine fx_dadd hx hb dX5_selfAdd_2_80 ev13 hv13 ?_
  refine lv_dstore (lv' := [(17, .double v13), (11, .double v12), (15, .double v9), (19, .double v4), (9, .double v2), (13, .double v1), (0, .ref h0), (1, .double yh), (3, .double yl)]) hx hb dX5_selfAdd_2_81 hl (by decide) rfl (fun ls hl => ?_)
  refine lv_dload hx hb dX5_selfAdd_2_83 (lv_at hl 5 rfl) ?_
  refine lv_dload hx hb dX5_selfAdd_2_85 (lv_at hl 0 rfl) ?_
  obtain ⟨v14, ev14, hv14⟩ : ∃ v, FP.dadd v1 v13 = v ∧ DI (ka + kc + kb + kd) v := ⟨_, rfl, add_ex hv1 hv13 (by omega) (by omega)⟩
  refine fx_dadd hx hb dX5_selfAdd_2_87 ev14 hv14 ?_
  refine lv_dstore (lv' := [(5, .double v14), (17, .double v13), (11, .double v12), (15, .double v9), (19, .double v4), (9, .double v2), (13, .double v1), (0, .ref h0), (1, .double yh), (3, .double yl)]) hx hb dX5_selfAdd_2_88 hl (by decide) rfl (fun ls hl => ?_)
  refine lv_dload hx hb dX5_selfAdd_2_90 (lv_at hl 1 rfl) ?_
  refine lv_dload hx hb dX5_selfAdd_2_92 (lv_at hl 6 rfl) ?_
  refine lv_dload hx hb dX5_selfAdd_2_94 (lv_at hl 0 rfl) ?_
  obtain ⟨v15, ev15, hv15⟩ : ∃ v, FP.dsub v1 v14 = v ∧ DI (-(kb + kd)) v := ⟨_, rfl, sub_ex hv1 hv14 (by omega) (by omega)⟩
  refine fx_dsub hx hb dX5_selfAdd_2_96 ev15 hv15 ?_
  obtain ⟨v16, ev16, hv16⟩ : ∃ v, FP.dadd v13 v15 = v ∧ DI 0 v := ⟨_, rfl, add_ex hv13 hv15 (by omega) (by omega)⟩
  refine fx_dadd hx hb dX5_selfAdd_2_97 ev16 hv16 ?_
  refine lv_dstore (lv' := [(7, .double v16), (5, .double v14), (17, .double v13), (11, .double v12), (15, .double v9), (19, .double v4), (9, .double v2), (13, .double v1), (0, .ref h0), (1, .double yh), (3, .double yl)]) hx hb dX5_selfAdd_2_98 hl (by decide) rfl (fun ls hl => ?_)
  refine lv_dload hx hb dX5_selfAdd_2_100 (lv_at hl 3 rfl) ?_
  refine lv_dload hx hb dX5_selfAdd_2_102 (lv_at hl 0 rfl) ?_
  obtain ⟨v17, ev17, hv17⟩ : ∃ v, FP.dadd v12 v16 = v ∧ DI 0 v := ⟨_, rfl, add_ex hv12 hv16 (by omega) (by omega)⟩
  refine fx_dadd hx hb dX5_selfAdd_2_104 ev17 hv17 ?_
  refine lv_dstore (lv' := [(17, .double v17), (7, .double v16), (5, .double v14), (11, .double v12), (15, .double v9), (19, .double v4), (9, .double v2), (13, .double v1), (0, .ref h0), (1, .double yh), (3, .double yl)]) hx hb dX5_selfAdd_2_105 hl (by decide) rfl (fun ls hl => ?_)
  refine lv_dload hx hb dX5_selfAdd_2_107 (lv_at hl 2 rfl) ?_
  refine lv_dload hx hb dX5_selfAdd_2_109 (lv_at hl 0 rfl) ?_
  obtain ⟨v18, ev18, hv18⟩ : ∃ v, FP.dadd v14 v17 = v ∧ DI (ka + kc + kb + kd) v := ⟨_, rfl, add_ex hv14 hv17 (by omega) (by omega)⟩
  refine fx_dadd hx hb dX5_selfAdd_2_111 ev18 hv18 ?_
  refine lv_dstore (lv' := [(21, .double v18), (17, .double v17), (7, .double v16), (5, .double v14), (11, .double v12), (15, .double v9), (19, .double v4), (9, .double v2), (13, .double v1), (0, .ref h0), (1, .double yh), (3, .double yl)]) hx hb dX5_selfAdd_2_112 hl (by decide) rfl (fun ls hl => ?_)
  refine lv_dload hx hb dX5_selfAdd_2_114 (lv_at hl 1 rfl) ?_
  refine lv_dload hx hb dX5_selfAdd_2_116 (lv_at hl 3 rfl) ?_
  refine lv_dload hx hb dX5_selfAdd_2_118 (lv_at hl 0 rfl) ?_
  obtain ⟨v19, ev19, hv19⟩ : ∃ v, FP.dsub v14 v18 = v ∧ DI 0 v := ⟨_, rfl, sub_ex hv14 hv18 (by omega) (by omega)⟩
  refine fx_dsub hx hb dX5_selfAdd_2_120 ev19 hv19 ?_
  obtain ⟨v20, ev20, hv20⟩ : ∃ v, FP.dadd v17 v19 = v ∧ DI 0 v := ⟨_, rfl, add_ex hv17 hv19 (by omega) (by omega)⟩
  refine fx_dadd hx hb dX5_selfAdd_2_121 ev20 hv20 ?_
  refine lv_dstore (lv' := [(23, .double v20), (21, .double v18), (17, .double v17), (7, .double v16), (5, .double v14), (11, .double v12), (15, .double v9), (19, .double v4), (9, .double v2), (13, .double v1), (0, .ref h0), (1, .double yh), (3, .double yl)]) hx hb dX5_selfAdd_2_122 hl (by decide) rfl (fun ls hl => ?_)
  refine lv_aload_n hx hb dX5_selfAdd_2_124 rfl (lv_at hl 10 rfl) ?_
  refine lv_dload hx hb dX5_selfAdd_2_125 (lv_at hl 1 rfl) ?_
  refine va_put (D := D) (ci := 2) (v := .double v18) (ty := .double) (C := RX5) (T := TX5) (N := 2) hx hb hts in_X5 tyX5 tyX5_ok nmX5 hown hK.1 hP hD hS 0 rfl rfl 0 (by decide) (hts _ q109) (fun _ h9 => h9) rfl (by decide +kernel) rfl rfl (Nat.le_of_ble_eq_true rfl) dX5_selfAdd_2_127 (fun H locs hP hD hS => ?_)
  have hP : va_P D vwCl [(h0, .inr (2, [.double v18, .double lo]))] H := hP
  have hD : va_D A [(h0, .inr (2, [.double v18, .double lo]))] := hD
  refine lv_aload_n hx hb dX5_selfAdd_2_130 rfl (lv_at hl 10 rfl) ?_
  refine lv_dload hx hb dX5_selfAdd_2_131 (lv_at hl 0 rfl) ?_
  refine va_put (D := D) (ci := 2) (v := .double v20) (ty := .double) (C := RX5) (T := TX5) (N := 2) hx hb hts in_X5 tyX5 tyX5_ok nmX5 hown hK.1 hP hD hS 0 rfl rfl 1 (by decide) (hts _ q110) (fun _ h9 => h9) rfl (by decide +kernel) rfl rfl (Nat.le_of_ble_eq_true rfl) dX5_selfAdd_2_133 (fun H locs hP hD hS => ?_)
  have hP : va_P D vwCl [(h0, .inr (2, [.double v18, .double v20]))] H := hP
  have hD : va_D A [(h0, .inr (2, [.double v18, .double v20]))] := hD
  refine lv_aload_n hx hb dX5_selfAdd_2_136 rfl (lv_at hl 10 rfl) ?_
  exact W.aret (v := .ref h0) hx hb hr (Or.inl ⟨_, rfl⟩) (Or.inr ⟨_, rfl⟩) (fun t ht hW => ⟨⟨(v18, v20), h0, rfl, ⟨hv18, hv20⟩, rfl, by subst ht; exact hP⟩, hS.F ht⟩) hS.2.2 dX5_selfAdd_2_137
set_option maxHeartbeats 4000000 in
set_option maxRecDepth 100000 in
/-- DD.selfMultiply(yhi, ylo) of whole numbers of 30 bits: the product, in its two parts -/
theorem m_DD_selfMul2 (l : Launch) (D : va_G) (tys : List (ClassId × FieldType)) (h0 sz : Nat) (hi lo yh yl : UInt64) (A0 B0 : Int) (hhi : DI A0 hi) (hlo : DI 0 lo) (hyh : DI B0 yh) (hyl : DI 0 yl) (ba1 : -1073741824 < A0) (ba2 : A0 < 1073741824) (bb1 : -1073741824 < B0) (bb2 : B0 < 1073741824) : Met l yX5_selfMultiply_2 (ws_ yX5_selfMultiply_2 cX5_selfMultiply_2 21 (some (.object "DD"))) ({ frames := 0, cells := 0, slots := 0, locals := 0 }) (gPc D tys [.ref h0, .double yh, .double yl] sz (fun H => C1 D h0 (.inr (2, [.double hi, .double lo])) H)) (va_Qr (fun u : UInt64 × UInt64 => DI (rd (A0 * B0)) u.1 ∧ DI (A0 * B0 - rd (A0 * B0)) u.2) (fun u ra t => ra = h0 ∧ C1 D h0 (.inr (2, [.double u.1, .double u.2])) t.heap) (Fr1 h0 sz)) 0 0 (Fr1 h0 sz) := by
  refine Met.ofW (cc := cX5_selfMultiply_2) (maxL := 21) (ret := (some (.object "DD"))) (by decide) rfl ?_
  intro p e s m args below meth c s₁ B hml hv
  obtain ⟨rfl, hsz, hP, hK⟩ := hv
  have hx := B.exec
  have hb := B.bytes
  have hr := B.returns
  have hts := atoms_spec (ws := ws_ yX5_selfMultiply_2 cX5_selfMultiply_2 21 (some (.object "DD"))) B.pre
  have hts : ∀ w ∈ lw_all, w.before _ s = true := fun w h => hts w (List.mem_cons_of_mem _ h)
  have hown : s.vm.findClass RX5 = some m.cls := findClass_of_methodNamed B.named
  have hlocks := B.notSynchronized
  have hin : meth.name = yX5_selfMultiply_2.name := (name_of_methodNamed B.named B.method).1
  subst hsz
  obtain ⟨A, hAe⟩ : ∃ A, A = Fr1 h0 s.heap.size := ⟨_, rfl⟩
  rw [← hAe]
  have hA : ∀ q : Nat, s.heap.size ≤ q → A q := fun q h => by rw [hAe]; exact Or.inr h
  have hS : va_S A s.heap s.heap [] := va_S.rf
  have hl := lv_entry ([.ref h0, .double yh, .double yl]) (n := 21) (Nat.le_of_ble_eq_true rfl)
  rw [lg_entry_eq]
  generalize (lg_sl ([.ref h0, .double yh, .double yl]) ++ List.replicate (21 - (lg_sl ([.ref h0, .double yh, .double yl])).length) Slot.unset).toArray = ls at hl ⊢
  have hAa : A h0 := by rw [hAe]; exact Or.inl rfl
  have hl : lv_has ls 21 [(0, .ref h0), (1, .double yh), (3, .double yl)] := hl
  have hD : va_D A [(h0, .inr (2, [.double hi, .double lo]))] := va_D1 hAa
  obtain ⟨C, h, x, t, C', h', y, u, P1, P2, P3, P4, P, AB, g1, g2, g3, g4, g5, g6, g7, g8, p1, p2, p3, p4, p5, p6, psum, pex, r1, r2, r3, r4, r5, r6, r7, r8, r9, r10, r11, r12, r13, r14, r15, r16, r17⟩ := mul_law A0 B0 ba1 ba2 bb1 bb2
  have hsp : DI 134217729 4728779608772575232 := dsplit
  refine lv_ldc2d hx hb hown (hts _ q128) dX5_selfMultiply_2_0 ?_
  refine lv_aload_n hx hb dX5_selfMultiply_2_3 rfl (lv_at hl 0 rfl) ?_
  refine va_get (D := D) (ci := 2) (v := .double hi) (C := RX5) (T := TX5) (N := 2) hx hb hts in_X5 hown hK.1 hP 0 rfl rfl 0 (by decide) (hts _ q109) (fun _ h9 => h9) rfl dX5_selfMultiply_2_4 ?_
  obtain ⟨v1, ev1, hv1⟩ : ∃ v, FP.dmul 4728779608772575232 hi = v ∧ DI C v := ⟨_, rfl, mul_rd hsp hhi rfl r1 g1⟩
  refine fx_dmul hx hb dX5_selfMultiply_2_7 ev1 hv1 ?_
  refine lv_dstore (lv' := [(13, .double v1), (0, .ref h0), (1, .double yh), (3, .double yl)]) hx hb dX5_selfMultiply_2_8 hl (by decide) rfl (fun ls hl => ?_)
  refine lv_dload hx hb dX5_selfMultiply_2_10 (lv_at hl 0 rfl) ?_
  refine lv_aload_n hx hb dX5_selfMultiply_2_12 rfl (lv_at hl 1 rfl) ?_
  refine va_get (D := D) (ci := 2) (v := .double hi) (C := RX5) (T := TX5) (N := 2) hx hb hts in_X5 hown hK.1 hP 0 rfl rfl 0 (by decide) (hts _ q109) (fun _ h9 => h9) rfl dX5_selfMultiply_2_13 ?_
  obtain ⟨v2, ev2, hv2⟩ : ∃ v, FP.dsub v1 hi = v ∧ DI h v := ⟨_, rfl, sub_rd hv1 hhi rfl r2 g2⟩
  refine fx_dsub hx hb dX5_selfMultiply_2_16 ev2 hv2 ?_
  refine lv_dstore (lv' := [(5, .double v2), (13, .double v1), (0, .ref h0), (1, .double yh), (3, .double yl)]) hx hb dX5_selfMultiply_2_17 hl (by decide) rfl (fun ls hl => ?_)
  refine lv_ldc2d hx hb hown (hts _ q128) dX5_selfMultiply_2_19 ?_
  refine lv_dload_n hx hb dX5_selfMultiply_2_22 rfl (lv_at hl 3 rfl) ?_
  obtain ⟨v3, ev3, hv3⟩ : ∃ v, FP.dmul 4728779608772575232 yh = v ∧ DI C' v := ⟨_, rfl, mul_rd hsp hyh rfl r5 g5⟩
  refine fx_dmul hx hb dX5_selfMultiply_2_23 ev3 hv3 ?_
  refine lv_dstore (lv' := [(15, .double v3), (5, .double v2), (13, .double v1), (0, .ref h0), (1, .double yh), (3, .double yl)]) hx hb dX5_selfMultiply_2_24 hl (by decide) rfl (fun ls hl => ?_)
  refine lv_dload hx hb dX5_selfMultiply_2_26 (lv_at hl 2 rfl) ?_
  refine lv_dload hx hb dX5_selfMultiply_2_28 (lv_at hl 1 rfl) ?_
  obtain ⟨v4, ev4, hv4⟩ : ∃ v, FP.dsub v1 v2 = v ∧ DI x v := ⟨_, rfl, sub_ex hv1 hv2 g3 r3⟩
  refine fx_dsub hx hb dX5_selfMultiply_2_30 ev4 hv4 ?_
  refine lv_dstore (lv' := [(5, .double v4), (15, .double v3), (13, .double v1), (0, .ref h0), (1, .double yh), (3, .double yl)]) hx hb dX5_selfMultiply_2_31 hl (by decide) rfl (fun ls hl => ?_)
  refine lv_aload_n hx hb dX5_selfMultiply_2_33 rfl (lv_at hl 3 rfl) ?_
  refine va_get (D := D) (ci := 2) (v := .double hi) (C := RX5) (T := TX5) (N := 2) hx hb hts in_X5 hown hK.1 hP 0 rfl rfl 0 (by decide) (hts _ q109) (fun _ h9 => h9) rfl dX5_selfMultiply_2_34 ?_
  refine lv_dload hx hb dX5_selfMultiply_2_37 (lv_at hl 0 rfl) ?_
  obtain ⟨v5, ev5, hv5⟩ : ∃ v, FP.dsub hi v4 = v ∧ DI t v := ⟨_, rfl, sub_ex hhi hv4 g4 r4⟩
  refine fx_dsub hx hb dX5_selfMultiply_2_39 ev5 hv5 ?_
  refine lv_dstore (lv' := [(7, .double v5), (5, .double v4), (15, .double v3), (13, .double v1), (0, .ref h0), (1, .double yh), (3, .double yl)]) hx hb dX5_selfMultiply_2_40 hl (by decide) rfl (fun ls hl => ?_)
  refine lv_dload hx hb dX5_selfMultiply_2_42 (lv_at hl 2 rfl) ?_
  refine lv_dload_n hx hb dX5_selfMultiply_2_44 rfl (lv_at hl 5 rfl) ?_
  obtain ⟨v6, ev6, hv6⟩ : ∃ v, FP.dsub v3 yh = v ∧ DI h' v := ⟨_, rfl, sub_rd hv3 hyh rfl r6 g6⟩
  refine fx_dsub hx hb dX5_selfMultiply_2_45 ev6 hv6 ?_
  refine lv_dstore (lv' := [(9, .double v6), (7, .double v5), (5, .double v4), (15, .double v3), (13, .double v1), (0, .ref h0), (1, .double yh), (3, .double yl)]) hx hb dX5_selfMultiply_2_46 hl (by decide) rfl (fun ls hl => ?_)
  refine lv_aload_n hx hb dX5_selfMultiply_2_48 rfl (lv_at hl 5 rfl) ?_
  refine va_get (D := D) (ci := 2) (v := .double hi) (C := RX5) (T := TX5) (N := 2) hx hb hts in_X5 hown hK.1 hP 0 rfl rfl 0 (by decide) (hts _ q109) (fun _ h9 => h9) rfl dX5_selfMultiply_2_49 ?_
  refine lv_dload_n hx hb dX5_selfMultiply_2_52 rfl (lv_at hl 6 rfl) ?_
  obtain ⟨v7, ev7, hv7⟩ : ∃ v, FP.dmul hi yh = v ∧ DI P v := ⟨_, rfl, mul_rd hhi hyh p5 r16 p6⟩
  refine fx_dmul hx hb dX5_selfMultiply_2_53 ev7 hv7 ?_
  refine lv_dstore (lv' := [(13, .double v7), (9, .double v6), (7, .double v5), (5, .double v4), (15, .double v3), (0, .ref h0), (1, .double yh), (3, .double yl)]) hx hb dX5_selfMultiply_2_54 hl (by decide) rfl (fun ls hl => ?_)
  refine lv_dload hx hb dX5_selfMultiply_2_56 (lv_at hl 4 rfl) ?_
  refine lv_dload hx hb dX5_selfMultiply_2_58 (lv_at hl 1 rfl) ?_
  obtain ⟨v8, ev8, hv8⟩ : ∃ v, FP.dsub v3 v6 = v ∧ DI y v := ⟨_, rfl, sub_ex hv3 hv6 g7 r7⟩
  refine fx_dsub hx hb dX5_selfMultiply_2_60 ev8 hv8 ?_
  refine lv_dstore (lv' := [(9, .double v8), (13, .double v7), (7, .double v5), (5, .double v4), (15, .double v3), (0, .ref h0), (1, .double yh), (3, .double yl)]) hx hb dX5_selfMultiply_2_61 hl (by decide) rfl (fun ls hl => ?_)
  refine lv_dload_n hx hb dX5_selfMultiply_2_63 rfl (lv_at hl 6 rfl) ?_
  refine lv_dload hx hb dX5_selfMultiply_2_64 (lv_at hl 0 rfl) ?_
  obtain ⟨v9, ev9, hv9⟩ : ∃ v, FP.dsub yh v8 = v ∧ DI u v := ⟨_, rfl, sub_ex hyh hv8 g8 r8⟩
  refine fx_dsub hx hb dX5_selfMultiply_2_66 ev9 hv9 ?_
  refine lv_dstore (lv' := [(11, .double v9), (9, .double v8), (13, .double v7), (7, .double v5), (5, .double v4), (15, .double v3), (0, .ref h0), (1, .double yh), (3, .double yl)]) hx hb dX5_selfMultiply_2_67 hl (by decide) rfl (fun ls hl => ?_)
  refine lv_dload hx hb dX5_selfMultiply_2_69 (lv_at hl 4 rfl) ?_
  refine lv_dload hx hb dX5_selfMultiply_2_71 (lv_at hl 1 rfl) ?_
  obtain ⟨v10, ev10, hv10⟩ : ∃ v, FP.dmul v4 v8 = v ∧ DI P1 v := ⟨_, rfl, mul_rd hv4 hv8 p1 r9 pex⟩
  refine fx_dmul hx hb dX5_selfMultiply_2_73 ev10 hv10 ?_
  refine lv_dload hx hb dX5_selfMultiply_2_74 (lv_at hl 2 rfl) ?_
  obtain ⟨v11, ev11, hv11⟩ : ∃ v, FP.dsub v10 v7 = v ∧ DI (P1 - P) v := ⟨_, rfl, sub_ex hv10 hv7 rfl r10⟩
  refine fx_dsub hx hb dX5_selfMultiply_2_76 ev11 hv11 ?_
  refine lv_dload hx hb dX5_selfMultiply_2_77 (lv_at hl 4 rfl) ?_
  refine lv_dload hx hb dX5_selfMultiply_2_79 (lv_at hl 0 rfl) ?_
  obtain ⟨v12, ev12, hv12⟩ : ∃ v, FP.dmul v4 v9 = v ∧ DI P2 v := ⟨_, rfl, mul_ex hv4 hv9 p2 r11⟩
  refine fx_dmul hx hb dX5_selfMultiply_2_81 ev12 hv12 ?_
  obtain ⟨v13, ev13, hv13⟩ : ∃ v, FP.dadd v11 v12 = v ∧ DI (P1 - P + P2) v := ⟨_, rfl, add_ex hv11 hv12 rfl r12⟩
  refine fx_dadd hx hb dX5_selfMultiply_2_82 ev13 hv13 ?_
  refine lv_dload hx hb dX5_selfMultiply_2_83 (lv_at hl 3 rfl) ?_
  refine lv_dload hx hb dX5_selfMultiply_2_85 (lv_at hl 1 rfl) ?_
  obtain ⟨v14, ev14, hv14⟩ : ∃ v, FP.dmul v5 v8 = v ∧ DI P3 v := ⟨_, rfl, mul_ex hv5 hv8 p3 r13⟩
  refine fx_dmul hx hb dX5_selfMultiply_2_87 ev14 hv14 ?_
  obtain ⟨v15, ev15, hv15⟩ : ∃ v, FP.dadd v13 v14 = v ∧ DI (P1 - P + P2 + P3) v := ⟨_, rfl, add_ex hv13 hv14 rfl r14⟩
  refine fx_dadd hx hb dX5_selfMultiply_2_88 ev15 hv15 ?_
  refine lv_dload hx hb dX5_selfMultiply_2_89 (lv_at hl 3 rfl) ?_
  refine lv_dload hx hb dX5_selfMultiply_2_91 (lv_at hl 0 rfl) ?_
  obtain ⟨v16, ev16, hv16⟩ : ∃ v, FP.dmul v5 v9 = v ∧ DI P4 v := ⟨_, rfl, mul_ex hv5 hv9 p4 r15⟩
  refine fx_dmul hx hb dX5_selfMultiply_2_93 ev16 hv16 ?_
  obtain ⟨v17, ev17, hv17⟩ : ∃ v, FP.dadd v15 v16 = v ∧ DI (AB - P) v := ⟨_, rfl, add_ex hv15 hv16 (by clear r1 r2 r3 r4 r5 r6 r7 r8 r9 r10 r11 r12 r13 r14 r15 r16 r17; omega) r17⟩
  refine fx_dadd hx hb dX5_selfMultiply_2_94 ev17 hv17 ?_
  refine lv_aload_n hx hb dX5_selfMultiply_2_95 rfl (lv_at hl 6 rfl) ?_
  refine va_get (D := D) (ci := 2) (v := .double hi) (C := RX5) (T := TX5) (N := 2) hx hb hts in_X5 hown hK.1 hP 0 rfl rfl 0 (by decide) (hts _ q109) (fun _ h9 => h9) rfl dX5_selfMultiply_2_96 ?_
  refine lv_dload_n hx hb dX5_selfMultiply_2_99 rfl (lv_at hl 8 rfl) ?_
  obtain ⟨v18, ev18, hv18⟩ : ∃ v, FP.dmul hi yl = v ∧ DI 0 v := ⟨_, rfl, mul_ex hhi hyl (Int.mul_zero _) (by decide)⟩
  refine fx_dmul hx hb dX5_selfMultiply_2_100 ev18 hv18 ?_
  refine lv_aload_n hx hb dX5_selfMultiply_2_101 rfl (lv_at hl 6 rfl) ?_
  refine va_get (D := D) (ci := 2) (v := .double lo) (C := RX5) (T := TX5) (N := 2) hx hb hts in_X5 hown hK.1 hP 0 rfl rfl 1 (by decide) (hts _ q110) (fun _ h9 => h9) rfl dX5_selfMultiply_2_102 ?_
  refine lv_dload_n hx hb dX5_selfMultiply_2_105 rfl (lv_at hl 7 rfl) ?_
  obtain ⟨v19, ev19, hv19⟩ : ∃ v, FP.dmul lo yh = v ∧ DI 0 v := ⟨_, rfl, mul_ex hlo hyh (Int.zero_mul _) (by decide)⟩
  refine fx_dmul hx hb dX5_selfMultiply_2_106 ev19 hv19 ?_
  obtain ⟨v20, ev20, hv20⟩ : ∃ v, FP.dadd v18 v19 = v ∧ DI 0 v := ⟨_, rfl, add_ex hv18 hv19 rfl (by decide)⟩
  refine fx_dadd hx hb dX5_selfMultiply_2_107 ev20 hv20 ?_
  obtain ⟨v21, ev21, hv21⟩ : ∃ v, FP.dadd v17 v20 = v ∧ DI (AB - P) v := ⟨_, rfl, add_ex hv17 hv20 (Int.add_zero _) r17⟩
  refine fx_dadd hx hb dX5_selfMultiply_2_108 ev21 hv21 ?_
  refine lv_dstore (lv' := [(15, .double v21), (11, .double v9), (9, .double v8), (13, .double v7), (7, .double v5), (5, .double v4), (0, .ref h0), (1, .double yh), (3, .double yl)]) hx hb dX5_selfMultiply_2_109 hl (by decide) rfl (fun ls hl => ?_)
  refine lv_dload hx hb dX5_selfMultiply_2_111 (lv_at hl 3 rfl) ?_
  refine lv_dload hx hb dX5_selfMultiply_2_113 (lv_at hl 0 rfl) ?_
  obtain ⟨v22, ev22, hv22⟩ : ∃ v, FP.dadd v7 v21 = v ∧ DI P v := ⟨_, rfl, add_rd hv7 hv21 (k := AB) (by clear r1 r2 r3 r4 r5 r6 r7 r8 r9 r10 r11 r12 r13 r14 r15 r16 r17; omega) r16 p6⟩
  refine fx_dadd hx hb dX5_selfMultiply_2_115 ev22 hv22 ?_
  refine lv_dstore (lv' := [(17, .double v22), (15, .double v21), (11, .double v9), (9, .double v8), (13, .double v7), (7, .double v5), (5, .double v4), (0, .ref h0), (1, .double yh), (3, .double yl)]) hx hb dX5_selfMultiply_2_116 hl (by decide) rfl (fun ls hl => ?_)
  refine lv_dload hx hb dX5_selfMultiply_2_118 (lv_at hl 4 rfl) ?_
  refine lv_dload hx hb dX5_selfMultiply_2_120 (lv_at hl 0 rfl) ?_
  obtain ⟨v23, ev23, hv23⟩ : ∃ v, FP.dsub v7 v22 = v ∧ DI 0 v := ⟨_, rfl, sub_ex hv7 hv22 (Int.sub_self _) (by decide)⟩
  refine fx_dsub hx hb dX5_selfMultiply_2_122 ev23 hv23 ?_
  refine lv_dstore (lv' := [(5, .double v23), (17, .double v22), (15, .double v21), (11, .double v9), (9, .double v8), (13, .double v7), (7, .double v5), (0, .ref h0), (1, .double yh), (3, .double yl)]) hx hb dX5_selfMultiply_2_123 hl (by decide) rfl (fun ls hl => ?_)
  refine lv_dload hx hb dX5_selfMultiply_2_125 (lv_at hl 2 rfl) ?_
  refine lv_dload hx hb dX5_selfMultiply_2_127 (lv_at hl 0 rfl) ?_
  obtain ⟨v24, ev24, hv24⟩ : ∃ v, FP.dadd v21 v23 = v ∧ DI (AB - P) v := ⟨_, rfl, add_ex hv21 hv23 (Int.add_zero _) r17⟩
  refine fx_dadd hx hb dX5_selfMultiply_2_129 ev24 hv24 ?_
  refine lv_dstore (lv' := [(19, .double v24), (5, .double v23), (17, .double v22), (15, .double v21), (11, .double v9), (9, .double v8), (13, .double v7), (7, .double v5), (0, .ref h0), (1, .double yh), (3, .double yl)]) hx hb dX5_selfMultiply_2_130 hl (by decide) rfl (fun ls hl => ?_)
  refine lv_aload_n hx hb dX5_selfMultiply_2_132 rfl (lv_at hl 8 rfl) ?_
  refine lv_dload hx hb dX5_selfMultiply_2_133 (lv_at hl 2 rfl) ?_
  refine va_put (D := D) (ci := 2) (v := .double v22) (ty := .double) (C := RX5) (T := TX5) (N := 2) hx hb hts in_X5 tyX5 tyX5_ok nmX5 hown hK.1 hP hD hS 0 rfl rfl 0 (by decide) (hts _ q109) (fun _ h9 => h9) rfl (by decide +kernel) rfl rfl (Nat.le_of_ble_eq_true rfl) dX5_selfMultiply_2_135 (fun H locs hP hD hS => ?_)
  have hP : va_P D vwCl [(h0, .inr (2, [.double v22, .double lo]))] H := hP
  have hD : va_D A [(h0, .inr (2, [.double v22, .double lo]))] := hD
  refine lv_aload_n hx hb dX5_selfMultiply_2_138 rfl (lv_at hl 8 rfl) ?_
  refine lv_dload hx hb dX5_selfMultiply_2_139 (lv_at hl 0 rfl) ?_
  refine va_put (D := D) (ci := 2) (v := .double v24) (ty := .double) (C := RX5) (T := TX5) (N := 2) hx hb hts in_X5 tyX5 tyX5_ok nmX5 hown hK.1 hP hD hS 0 rfl rfl 1 (by decide) (hts _ q110) (fun _ h9 => h9) rfl (by decide +kernel) rfl rfl (Nat.le_of_ble_eq_true rfl) dX5_selfMultiply_2_141 (fun H locs hP hD hS => ?_)
  have hP : va_P D vwCl [(h0, .inr (2, [.double v22, .double v24]))] H := hP
  have hD : va_D A [(h0, .inr (2, [.double v22, .double v24]))] := hD
  refine lv_aload_n hx hb dX5_selfMultiply_2_144 rfl (lv_at hl 8 rfl) ?_
  rw [← p6, ← p5] at hv22 hv24
  exact W.aret (v := .ref h0) hx hb hr (Or.inl ⟨_, rfl⟩) (Or.inr ⟨_, rfl⟩) (fun t ht hW => ⟨⟨(v22, v24), h0, rfl, ⟨hv22, hv24⟩, rfl, by subst ht; exact hP⟩, hS.F ht⟩) hS.2.2 dX5_selfMultiply_2_145
end
section
/-! WALKS of DD, the rest: printed by wip/D-29928w/dd3.py -/
set_option maxHeartbeats 4000000 in
set_option maxRecDepth 100000 in
/-- Double.isNaN of a whole number: no -/
theorem m_Dbl_isNaN (l : Launch) (D : va_G) (tys : List (ClassId × FieldType)) (sz : Nat) (x : UInt64) (k : Int) (hk : DI k x) : Met l yJ0_isNaN (ws_ yJ0_isNaN cJ0_isNaN 2 (some .boolean)) ({ frames := 0, cells := 0, slots := 0, locals := 0 }) (gPc D tys [.double x] sz (fun _ => True)) (va_Qi (fun (r : Int32) (_ : Unit) => r = 0) (fun _ _ => True) (Fr0 sz)) 0 0 (Fr0 sz) := by
  refine Met.ofW (cc := cJ0_isNaN) (maxL := 2) (ret := (some .boolean)) (by decide) rfl ?_
  intro p e s m args below meth c s₁ B hml hv
  obtain ⟨rfl, hsz, -, hK⟩ := hv
  have hx := B.exec
  have hb := B.bytes
  have hr := B.returns
  have hts := atoms_spec (ws := ws_ yJ0_isNaN cJ0_isNaN 2 (some .boolean)) B.pre
  have hts : ∀ w ∈ lw_all, w.before _ s = true := fun w h => hts w (List.mem_cons_of_mem _ h)
  have hown : s.vm.findClass RJ0 = some m.cls := findClass_of_methodNamed B.named
  have hlocks := B.notSynchronized
  have hin : meth.name = yJ0_isNaN.name := (name_of_methodNamed B.named B.method).1
  subst hsz
  obtain ⟨A, hAe⟩ : ∃ A, A = Fr0 s.heap.size := ⟨_, rfl⟩
  rw [← hAe]
  have hA : ∀ q : Nat, s.heap.size ≤ q → A q := fun q h => by rw [hAe]; exact h
  have hS : va_S A s.heap s.heap [] := va_S.rf
  have hl := lv_entry ([.double x]) (n := 2) (Nat.le_of_ble_eq_true rfl)
  rw [lg_entry_eq]
  generalize (lg_sl ([.double x]) ++ List.replicate (2 - (lg_sl ([.double x])).length) Slot.unset).toArray = ls at hl ⊢
  have hl : lv_has ls 2 [(0, .double x)] := hl
  refine lv_dload_n hx hb dJ0_isNaN_0 rfl (lv_at hl 0 rfl) ?_
  refine lv_dload_n hx hb dJ0_isNaN_1 rfl (lv_at hl 0 rfl) ?_
  refine fx_eq (tgt := 10) hx hb (di_cmp hk hk) dJ0_isNaN_2 dJ0_isNaN_3 (by decide) (fun c1 => ?_) (fun c1 => ?_)
  · refine lv_iconst (v := 0) hx hb dJ0_isNaN_10 (by decide) ?_
    exact W.zret (v := 0) hx hb hr rfl (fun t ht hW => ⟨⟨0, (), rfl, rfl, trivial⟩, hS.F ht⟩) hS.2.2 dJ0_isNaN_11
  · exact absurd rfl c1
set_option maxHeartbeats 4000000 in
set_option maxRecDepth 100000 in
/-- DD.isNaN of a whole number: no -/
theorem m_DD_isNaN (l : Launch) (D : va_G) (tys : List (ClassId × FieldType)) (h0 sz : Nat) (hi lo : UInt64) (k : Int) (hk0 : DI k hi) : Met l yX5_isNaN (ws_ yX5_isNaN cX5_isNaN 1 (some .boolean)) ({ frames := 1, cells := 0, slots := 0, locals := 21 }) (gPc D tys [.ref h0] sz (fun H => C1 D h0 (.inr (2, [.double hi, .double lo])) H)) (va_Qi (fun (r : Int32) (_ : Unit) => r = 0) (fun _ _ => True) (Fr0 sz)) 0 0 (Fr0 sz) := by
  refine Met.ofW (cc := cX5_isNaN) (maxL := 1) (ret := (some .boolean)) (by decide) rfl ?_
  intro p e s m args below meth c s₁ B hml hv
  obtain ⟨rfl, hsz, hP, hK⟩ := hv
  have hx := B.exec
  have hb := B.bytes
  have hr := B.returns
  have hts := atoms_spec (ws := ws_ yX5_isNaN cX5_isNaN 1 (some .boolean)) B.pre
  have hts : ∀ w ∈ lw_all, w.before _ s = true := fun w h => hts w (List.mem_cons_of_mem _ h)
  have hown : s.vm.findClass RX5 = some m.cls := findClass_of_methodNamed B.named
  have hlocks := B.notSynchronized
  have hin : meth.name = yX5_isNaN.name := (name_of_methodNamed B.named B.method).1
  subst hsz
  obtain ⟨A, hAe⟩ : ∃ A, A = Fr0 s.heap.size := ⟨_, rfl⟩
  rw [← hAe]
  have hA : ∀ q : Nat, s.heap.size ≤ q → A q := fun q h => by rw [hAe]; exact h
  have hS : va_S A s.heap s.heap [] := va_S.rf
  have hl := lv_entry ([.ref h0]) (n := 1) (Nat.le_of_ble_eq_true rfl)
  rw [lg_entry_eq]
  generalize (lg_sl ([.ref h0]) ++ List.replicate (1 - (lg_sl ([.ref h0])).length) Slot.unset).toArray = ls at hl ⊢
  have hl : lv_has ls 1 [(0, .ref h0)] := hl
  refine lv_aload_n hx hb dX5_isNaN_0 rfl (lv_at hl 0 rfl) ?_
  refine va_get (D := D) (ci := 2) (v := .double hi) (C := RX5) (T := TX5) (N := 2) hx hb hts in_X5 hown hK.1 hP 0 rfl rfl 0 (by decide) (hts _ q109) (fun _ h9 => h9) rfl dX5_isNaN_1 ?_
  refine va_calli (va_runS (As := [.double hi]) (rest := []) ⟨hx, hb, hml, hown, hts⟩ (m_Dbl_isNaN l D tys _ hi k hk0) (va_cwS 1 hts (lw_S q137 q138 q11 q139) rfl rfl rfl (by decide +kernel) ⟨Nat.le_of_ble_eq_true rfl, Nat.le_of_ble_eq_true rfl⟩) (gS rfl trivial hK) rfl rfl hl.1 rfl (lv_room (Nat.le_of_ble_eq_true rfl)) dX5_isNaN_4 ⟨Nat.le_of_ble_eq_true rfl, Nat.le_of_ble_eq_true rfl⟩) hS (fun q h1 h2 => absurd h2 (Nat.not_le.mpr h1)) (fun q h => hA q (Nat.le_trans hS.1 h)) (fun r u t H1 locs ht hvm hw hB hz hk hS => ?_)
  have hw : r = 0 := hw
  subst hw
  exact W.zret (v := 0) hx hb hr rfl (fun t ht hW => ⟨⟨0, (), rfl, rfl, trivial⟩, hS.F ht⟩) hS.2.2 dX5_isNaN_7
set_option maxHeartbeats 4000000 in
set_option maxRecDepth 100000 in
/-- DD.signum of a whole number -/
theorem m_DD_signum (l : Launch) (D : va_G) (tys : List (ClassId × FieldType)) (h0 sz : Nat) (hi lo : UInt64) (k : Int) (hk : DI k hi) (hlo : DI 0 lo) : Met l yX5_signum (ws_ yX5_signum cX5_signum 1 (some .int)) ({ frames := 0, cells := 0, slots := 0, locals := 0 }) (gPc D tys [.ref h0] sz (fun H => C1 D h0 (.inr (2, [.double hi, .double lo])) H)) (va_Qi (fun (r : Int32) (_ : Unit) => r = sgI k) (fun _ _ => True) (Fr0 sz)) 0 0 (Fr0 sz) := by
  refine Met.ofW (cc := cX5_signum) (maxL := 1) (ret := (some .int)) (by decide) rfl ?_
  intro p e s m args below meth c s₁ B hml hv
  obtain ⟨rfl, hsz, hP, hK⟩ := hv
  have hx := B.exec
  have hb := B.bytes
  have hr := B.returns
  have hts := atoms_spec (ws := ws_ yX5_signum cX5_signum 1 (some .int)) B.pre
  have hts : ∀ w ∈ lw_all, w.before _ s = true := fun w h => hts w (List.mem_cons_of_mem _ h)
  have hown : s.vm.findClass RX5 = some m.cls := findClass_of_methodNamed B.named
  have hlocks := B.notSynchronized
  have hin : meth.name = yX5_signum.name := (name_of_methodNamed B.named B.method).1
  subst hsz
  obtain ⟨A, hAe⟩ : ∃ A, A = Fr0 s.heap.size := ⟨_, rfl⟩
  rw [← hAe]
  have hA : ∀ q : Nat, s.heap.size ≤ q → A q := fun q h => by rw [hAe]; exact h
  have hS : va_S A s.heap s.heap [] := va_S.rf
  have hl := lv_entry ([.ref h0]) (n := 1) (Nat.le_of_ble_eq_true rfl)
  rw [lg_entry_eq]
  generalize (lg_sl ([.ref h0]) ++ List.replicate (1 - (lg_sl ([.ref h0])).length) Slot.unset).toArray = ls at hl ⊢
  have hl : lv_has ls 1 [(0, .ref h0)] := hl
  refine lv_aload_n hx hb dX5_signum_0 rfl (lv_at hl 0 rfl) ?_
  refine va_get (D := D) (ci := 2) (v := .double hi) (C := RX5) (T := TX5) (N := 2) hx hb hts in_X5 hown hK.1 hP 0 rfl rfl 0 (by decide) (hts _ q109) (fun _ h9 => h9) rfl dX5_signum_1 ?_
  refine lv_dconst0 hx hb dX5_signum_4 ?_
  refine fx_le (tgt := 11) hx hb (di_cmp hk di_zero) dX5_signum_5 dX5_signum_6 (by decide) (fun c1 => ?_) (fun c1 => ?_)
  · refine lv_aload_n hx hb dX5_signum_11 rfl (lv_at hl 0 rfl) ?_
    refine va_get (D := D) (ci := 2) (v := .double hi) (C := RX5) (T := TX5) (N := 2) hx hb hts in_X5 hown hK.1 hP 0 rfl rfl 0 (by decide) (hts _ q109) (fun _ h9 => h9) rfl dX5_signum_12 ?_
    refine lv_dconst0 hx hb dX5_signum_15 ?_
    refine fx_ge (tgt := 22) hx hb (di_cmp hk di_zero) dX5_signum_16 dX5_signum_17 (by decide) (fun c2 => ?_) (fun c2 => ?_)
    · refine lv_aload_n hx hb dX5_signum_22 rfl (lv_at hl 0 rfl) ?_
      refine va_get (D := D) (ci := 2) (v := .double lo) (C := RX5) (T := TX5) (N := 2) hx hb hts in_X5 hown hK.1 hP 0 rfl rfl 1 (by decide) (hts _ q110) (fun _ h9 => h9) rfl dX5_signum_23 ?_
      refine lv_dconst0 hx hb dX5_signum_26 ?_
      refine fx_le (tgt := 33) hx hb (di_cmp hlo di_zero) dX5_signum_27 dX5_signum_28 (by decide) (fun c3 => ?_) (fun c3 => ?_)
      · refine lv_aload_n hx hb dX5_signum_33 rfl (lv_at hl 0 rfl) ?_
        refine va_get (D := D) (ci := 2) (v := .double lo) (C := RX5) (T := TX5) (N := 2) hx hb hts in_X5 hown hK.1 hP 0 rfl rfl 1 (by decide) (hts _ q110) (fun _ h9 => h9) rfl dX5_signum_34 ?_
        refine lv_dconst0 hx hb dX5_signum_37 ?_
        refine fx_ge (tgt := 44) hx hb (di_cmp hlo di_zero) dX5_signum_38 dX5_signum_39 (by decide) (fun c4 => ?_) (fun c4 => ?_)
        · refine lv_iconst (v := 0) hx hb dX5_signum_44 (by decide) ?_
          exact W.iret (v := 0) hx hb hr (fun t ht hW => ⟨⟨0, (), rfl, by unfold sgI; rw [if_neg (by omega), if_neg (by omega)], trivial⟩, hS.F ht⟩) hS.2.2 dX5_signum_45
        · exact absurd c4 (by omega)
      · exact absurd c3 (by omega)
    · refine lv_iconst (v := (-1)) hx hb dX5_signum_20 (by decide) ?_
      exact W.iret (v := (-1)) hx hb hr (fun t ht hW => ⟨⟨(-1), (), rfl, by unfold sgI; rw [if_neg (by omega), if_pos c2], trivial⟩, hS.F ht⟩) hS.2.2 dX5_signum_21
  · refine lv_iconst (v := 1) hx hb dX5_signum_9 (by decide) ?_
    exact W.iret (v := 1) hx hb hr (fun t ht hW => ⟨⟨1, (), rfl, by unfold sgI; rw [if_pos c1], trivial⟩, hS.F ht⟩) hS.2.2 dX5_signum_10
set_option maxHeartbeats 4000000 in
set_option maxRecDepth 100000 in
/-- DD.selfMultiply(y) of whole numbers of 30 bits: the product, in its two parts -/
theorem m_DD_selfMul (l : Launch) (D : va_G) (tys : List (ClassId × FieldType)) (h0 h1 sz : Nat) (hi lo yh yl : UInt64) (A0 B0 : Int) (hhi : DI A0 hi) (hlo : DI 0 lo) (hyh : DI B0 yh) (hyl : DI 0 yl) (ba1 : -1073741824 < A0) (ba2 : A0 < 1073741824) (bb1 : -1073741824 < B0) (bb2 : B0 < 1073741824) : Met l yX5_selfMultiply (ws_ yX5_selfMultiply cX5_selfMultiply 2 (some (.object "DD"))) ({ frames := 1, cells := 0, slots := 0, locals := 40 }) (gPc D tys [.ref h0, .ref h1] sz (fun H => C1 D h0 (.inr (2, [.double hi, .double lo])) H ∧ C1 D h1 (.inr (2, [.double yh, .double yl])) H)) (va_Qr (fun u : UInt64 × UInt64 => DI (rd (A0 * B0)) u.1 ∧ DI (A0 * B0 - rd (A0 * B0)) u.2) (fun u ra t => ra = h0 ∧ C1 D h0 (.inr (2, [.double u.1, .double u.2])) t.heap) (Fr1 h0 sz)) 0 0 (Fr1 h0 sz) := by
  refine Met.ofW (cc := cX5_selfMultiply) (maxL := 2) (ret := (some (.object "DD"))) (by decide) rfl ?_
  intro p e s m args below meth c s₁ B hml hv
  obtain ⟨rfl, hsz, ⟨hP, hP1⟩, hK⟩ := hv
  have hx := B.exec
  have hb := B.bytes
  have hr := B.returns
  have hts := atoms_spec (ws := ws_ yX5_selfMultiply cX5_selfMultiply 2 (some (.object "DD"))) B.pre
  have hts : ∀ w ∈ lw_all, w.before _ s = true := fun w h => hts w (List.mem_cons_of_mem _ h)
  have hown : s.vm.findClass RX5 = some m.cls := findClass_of_methodNamed B.named
  have hlocks := B.notSynchronized
  have hin : meth.name = yX5_selfMultiply.name := (name_of_methodNamed B.named B.method).1
  subst hsz
  obtain ⟨A, hAe⟩ : ∃ A, A = Fr1 h0 s.heap.size := ⟨_, rfl⟩
  rw [← hAe]
  have hA : ∀ q : Nat, s.heap.size ≤ q → A q := fun q h => by rw [hAe]; exact Or.inr h
  have hS : va_S A s.heap s.heap [] := va_S.rf
  have hl := lv_entry ([.ref h0, .ref h1]) (n := 2) (Nat.le_of_ble_eq_true rfl)
  rw [lg_entry_eq]
  generalize (lg_sl ([.ref h0, .ref h1]) ++ List.replicate (2 - (lg_sl ([.ref h0, .ref h1])).length) Slot.unset).toArray = ls at hl ⊢
  have hAa : A h0 := by rw [hAe]; exact Or.inl rfl
  have hl : lv_has ls 2 [(0, .ref h0), (1, .ref h1)] := hl
  refine lv_aload_n hx hb dX5_selfMultiply_0 rfl (lv_at hl 0 rfl) ?_
  refine lv_aload_n hx hb dX5_selfMultiply_1 rfl (lv_at hl 1 rfl) ?_
  refine va_get (D := D) (ci := 2) (v := .double yh) (C := RX5) (T := TX5) (N := 2) hx hb hts in_X5 hown hK.1 hP1 0 rfl rfl 0 (by decide) (hts _ q109) (fun _ h9 => h9) rfl dX5_selfMultiply_2 ?_
  refine lv_aload_n hx hb dX5_selfMultiply_5 rfl (lv_at hl 1 rfl) ?_
  refine va_get (D := D) (ci := 2) (v := .double yl) (C := RX5) (T := TX5) (N := 2) hx hb hts in_X5 hown hK.1 hP1 0 rfl rfl 1 (by decide) (hts _ q110) (fun _ h9 => h9) rfl dX5_selfMultiply_6 ?_
  refine va_callr (va_runV (As := [.double yh, .double yl]) (rest := []) ⟨hx, hb, hml, hown, hts⟩ (m_DD_selfMul2 l D tys h0 _ hi lo yh yl A0 B0 hhi hlo hyh hyl ba1 ba2 bb1 bb2) (cwV 2 hts (lw_V q124 q126 qs2 q10 q127) rfl rfl rfl (by decide +kernel) ⟨Nat.le_of_ble_eq_true rfl, Nat.le_of_ble_eq_true rfl⟩) (gV (va_recv hK.1 hP (ci := 2) (q0 := 0) rfl rfl) rfl hP hK) rfl rfl hl.1 rfl (lv_room (Nat.le_of_ble_eq_true rfl)) dX5_selfMultiply_9 ⟨Nat.le_of_ble_eq_true rfl, Nat.le_of_ble_eq_true rfl⟩) hS (fun q h1 h2 => h2.elim (fun e => e ▸ hAa) (fun h => absurd h (Nat.not_le.mpr h1))) (fun q h => h.elim (fun e => e ▸ hAa) (fun h => hA q (Nat.le_trans hS.1 h))) (fun u ra t H1 locs ht hvm hw hB hz hk hS => ?_)
  obtain ⟨rfl, hB⟩ := hB
  rw [ht] at hB
  exact W.aret (v := .ref ra) hx hb hr (Or.inl ⟨_, rfl⟩) (Or.inr ⟨_, rfl⟩) (fun t ht hW => ⟨⟨u, ra, rfl, hw, rfl, by subst ht; exact hB⟩, hS.F ht⟩) hS.2.2 dX5_selfMultiply_12
set_option maxHeartbeats 4000000 in
set_option maxRecDepth 100000 in
/-- DD.selfSubtract(y): two numbers in parts that lie near each other -/
theorem m_DD_selfSub (l : Launch) (D : va_G) (tys : List (ClassId × FieldType)) (h0 h1 sz : Nat) (hi lo yh yl : UInt64) (ka kb kc kd : Int) (hhi : DI ka hi) (hlo : DI kb lo) (hyh : DI kc yh) (hyl : DI kd yl) (ra0 : rd ka = ka) (rc : rd kc = kc) (ba : ka.natAbs < 2 ^ 63) (bc : kc.natAbs < 2 ^ 63) (bs : (ka - kc).natAbs < 2 ^ 50) (bb : kb.natAbs < 2 ^ 50) (bd : kd.natAbs < 2 ^ 50) : Met l yX5_selfSubtract (ws_ yX5_selfSubtract cX5_selfSubtract 2 (some (.object "DD"))) ({ frames := 2, cells := 0, slots := 0, locals := 44 }) (gPc D tys [.ref h0, .ref h1] sz (fun H => C1 D h0 (.inr (2, [.double hi, .double lo])) H ∧ C1 D h1 (.inr (2, [.double yh, .double yl])) H)) (va_Qr (fun u : UInt64 × UInt64 => DI (ka - kc + kb - kd) u.1 ∧ DI (0) u.2) (fun u ra t => ra = h0 ∧ C1 D h0 (.inr (2, [.double u.1, .double u.2])) t.heap) (Fr1 h0 sz)) 0 0 (Fr1 h0 sz) := by
  refine Met.ofW (cc := cX5_selfSubtract) (maxL := 2) (ret := (some (.object "DD"))) (by decide) rfl ?_
  intro p e s m args below meth c s₁ B hml hv
  obtain ⟨rfl, hsz, ⟨hP, hP1⟩, hK⟩ := hv
  have hx := B.exec
  have hb := B.bytes
  have hr := B.returns
  have hts := atoms_spec (ws := ws_ yX5_selfSubtract cX5_selfSubtract 2 (some (.object "DD"))) B.pre
  have hts : ∀ w ∈ lw_all, w.before _ s = true := fun w h => hts w (List.mem_cons_of_mem _ h)
  have hown : s.vm.findClass RX5 = some m.cls := findClass_of_methodNamed B.named
  have hlocks := B.notSynchronized
  have hin : meth.name = yX5_selfSubtract.name := (name_of_methodNamed B.named B.method).1
  subst hsz
  obtain ⟨A, hAe⟩ : ∃ A, A = Fr1 h0 s.heap.size := ⟨_, rfl⟩
  rw [← hAe]
  have hA : ∀ q : Nat, s.heap.size ≤ q → A q := fun q h => by rw [hAe]; exact Or.inr h
  have hS : va_S A s.heap s.heap [] := va_S.rf
  have hl := lv_entry ([.ref h0, .ref h1]) (n := 2) (Nat.le_of_ble_eq_true rfl)
  rw [lg_entry_eq]
  generalize (lg_sl ([.ref h0, .ref h1]) ++ List.replicate (2 - (lg_sl ([.ref h0, .ref h1])).length) Slot.unset).toArray = ls at hl ⊢
  have hAa : A h0 := by rw [hAe]; exact Or.inl rfl
  have hl : lv_has ls 2 [(0, .ref h0), (1, .ref h1)] := hl
  refine lv_aload_n hx hb dX5_selfSubtract_0 rfl (lv_at hl 0 rfl) ?_
  refine va_calli (va_runV (As := []) (rest := []) ⟨hx, hb, hml, hown, hts⟩ (m_DD_isNaN l D tys h0 _ hi lo ka hhi) (cwV 0 hts (lw_V q133 q134 q135 q10 q136) rfl rfl rfl (by decide +kernel) ⟨Nat.le_of_ble_eq_true rfl, Nat.le_of_ble_eq_true rfl⟩) (gV (va_recv hK.1 hP (ci := 2) (q0 := 0) rfl rfl) rfl hP hK) rfl rfl hl.1 rfl (lv_room (Nat.le_of_ble_eq_true rfl)) dX5_selfSubtract_1 ⟨Nat.le_of_ble_eq_true rfl, Nat.le_of_ble_eq_true rfl⟩) hS (fun q h1 h2 => absurd h2 (Nat.not_le.mpr h1)) (fun q h => hA q (Nat.le_trans hS.1 h)) (fun r u t H1 locs ht hvm hw hB hz hk hS => ?_)
  have hw : r = 0 := hw
  subst hw
  have hP := hP.keep0 hk
  have hP1 := hP1.keep0 hk
  refine lv_if_eq (tgt := 9) hx hb dX5_selfSubtract_4 (by decide) (fun c1 => ?_) (fun c1 => ?_)
  · refine lv_aload_n hx hb dX5_selfSubtract_9 rfl (lv_at hl 0 rfl) ?_
    refine lv_aload_n hx hb dX5_selfSubtract_10 rfl (lv_at hl 1 rfl) ?_
    refine va_get (D := D) (ci := 2) (v := .double yh) (C := RX5) (T := TX5) (N := 2) hx hb hts in_X5 hown hK.1 hP1 0 rfl rfl 0 (by decide) (hts _ q109) (fun _ h9 => h9) rfl dX5_selfSubtract_11 ?_
    obtain ⟨v1, ev1, hv1⟩ : ∃ v, FP.dneg yh = v ∧ DI (-kc) v := ⟨_, rfl, neg_di hyh (by omega)⟩
    refine fx_dneg hx hb dX5_selfSubtract_14 ev1 ?_
    refine lv_aload_n hx hb dX5_selfSubtract_15 rfl (lv_at hl 1 rfl) ?_
    refine va_get (D := D) (ci := 2) (v := .double yl) (C := RX5) (T := TX5) (N := 2) hx hb hts in_X5 hown hK.1 hP1 0 rfl rfl 1 (by decide) (hts _ q110) (fun _ h9 => h9) rfl dX5_selfSubtract_16 ?_
    obtain ⟨v2, ev2, hv2⟩ : ∃ v, FP.dneg yl = v ∧ DI (-kd) v := ⟨_, rfl, neg_di hyl (by omega)⟩
    refine fx_dneg hx hb dX5_selfSubtract_19 ev2 ?_
    refine va_callr (va_runV (As := [.double v1, .double v2]) (rest := []) ⟨hx, hb, hml, hown, hts⟩ (m_DD_selfAdd2 l D tys h0 _ hi lo v1 v2 ka kb (-kc) (-kd) hhi hlo hv1 hv2 ra0 (by rw [rd_neg, rc]) ba (by omega) (by omega) bb (by omega)) (cwV 2 hts (lw_V q140 q142 qs3 q10 q143) rfl rfl rfl (by decide +kernel) ⟨Nat.le_of_ble_eq_true rfl, Nat.le_of_ble_eq_true rfl⟩) (gV (va_recv hK.1 hP (ci := 2) (q0 := 0) rfl rfl) rfl hP hK) rfl rfl hl.1 rfl (lv_room (Nat.le_of_ble_eq_true rfl)) dX5_selfSubtract_20 ⟨Nat.le_of_ble_eq_true rfl, Nat.le_of_ble_eq_true rfl⟩) hS (fun q h1 h2 => h2.elim (fun e => e ▸ hAa) (fun h => absurd h (Nat.not_le.mpr h1))) (fun q h => h.elim (fun e => e ▸ hAa) (fun h => hA q (Nat.le_trans hS.1 h))) (fun u ra t H1 locs ht hvm hw hB hz hk hS => ?_)
    have hw : DI (ka - kc + kb - kd) u.1 ∧ DI 0 u.2 := by
      rw [show ka - kc + kb - kd = ka + -kc + kb + -kd by omega]
      exact hw
    obtain ⟨rfl, hB⟩ := hB
    rw [ht] at hB
    exact W.aret (v := .ref ra) hx hb hr (Or.inl ⟨_, rfl⟩) (Or.inr ⟨_, rfl⟩) (fun t ht hW => ⟨⟨u, ra, rfl, hw, rfl, by subst ht; exact hB⟩, hS.F ht⟩) hS.2.2 dX5_selfSubtract_23
  · exact absurd rfl c1
end
section
/-! WALKS of CGAlgorithmsDD and Orientation: printed by wip/D-29928w/cg.py -/
/-- twice the area of the three points, with its sign: as the law writes it -/
def crossI (ax ay bx by' cx cy : Int) : Int := ax * by' - ay * bx + bx * cy - by' * cx + cx * ay - cy * ax
theorem cross_filter (ax ay bx by' cx cy : Int) : (ax - cx) * (by' - cy) - (ay - cy) * (bx - cx) = crossI ax ay bx by' cx cy := by
  unfold crossI
  grind
theorem cross_dd (ax ay bx by' cx cy : Int) : (bx + -ax) * (cy + -by') - (by' + -ay) * (cx + -bx) = crossI ax ay bx by' cx cy := by
  unfold crossI
  grind
theorem sgI_le (d : Int) : ¬ (1 : Int32) < sgI d := by
  unfold sgI
  by_cases h1 : 0 < d
  · rw [if_pos h1]; decide
  · rw [if_neg h1]
    by_cases h2 : d < 0
    · rw [if_pos h2]; decide
    · rw [if_neg h2]; decide
/-- the two products lie near each other, and so do their upper parts -/
theorem near_ok {P Q : Int} (hP : P.natAbs < 2 ^ 61) (hQ : Q.natAbs < 2 ^ 61) (h : (P - Q).natAbs < 2 ^ 15) : (rd P).natAbs < 2 ^ 63 ∧ (rd Q).natAbs < 2 ^ 63 ∧ (rd P - rd Q).natAbs < 2 ^ 50 ∧ (P - rd P).natAbs < 2 ^ 50 ∧ (Q - rd Q).natAbs < 2 ^ 50 := by
  have n1 := rd_near (i := P) (j := 8) (by omega)
  have n2 := rd_near (i := Q) (j := 8) (by omega)
  have a1 : 2 * rd P ≤ 2 * P + 256 := n1.1
  have a2 : 2 * P ≤ 2 * rd P + 256 := n1.2
  have a3 : 2 * rd Q ≤ 2 * Q + 256 := n2.1
  have a4 : 2 * Q ≤ 2 * rd Q + 256 := n2.2
  clear n1 n2
  refine ⟨?_, ?_, ?_, ?_, ?_⟩
  · clear h hQ a3 a4; omega
  · clear h hP a1 a2; omega
  · clear hP hQ; omega
  · clear h hP hQ a3 a4; omega
  · clear h hP hQ a1 a2; omega
theorem rd_p {i : Int} (h : 0 < i) : 0 < rd i := rd_sign.1 h
theorem rd_m {i : Int} (h : i < 0) : rd i < 0 := rd_sign.2.1 h
theorem rd_abs61 {L : Int} (h : L.natAbs < 2 ^ 61) : -2305843009213693952 ≤ rd L ∧ rd L ≤ 2305843009213693952 := by
  have e : rd 2305843009213693952 = 2305843009213693952 := rd_exact (m := 1) (k := 61) (by decide)
  have h1 := rd_mono (i := L) (j := 2305843009213693952) (by omega)
  have h2 := rd_mono (i := -2305843009213693952) (j := L) (by omega)
  rw [rd_neg, e] at h2
  rw [e] at h1
  exact ⟨h2, h1⟩
def B29 (a : Int) : Prop := -536870912 ≤ a ∧ a < 536870912
theorem B29.neg50 {a : Int} (h : B29 a) : (-a).natAbs < 2 ^ 50 := by unfold B29 at h; omega
theorem B29.abs50 {a : Int} (h : B29 a) : a.natAbs < 2 ^ 50 := by unfold B29 at h; omega
theorem B29.abs53 {a : Int} (h : B29 a) : a.natAbs < 2 ^ 53 := by unfold B29 at h; omega
theorem B29.d1 {a b : Int} (h : B29 a) (g : B29 b) : -1073741824 < a + -b := by unfold B29 at h g; omega
theorem B29.d2 {a b : Int} (h : B29 a) (g : B29 b) : a + -b < 1073741824 := by unfold B29 at h g; omega
theorem B29.d3 {a b : Int} (h : B29 a) (g : B29 b) : (a + -b).natAbs ≤ 1073741824 := by unfold B29 at h g; omega
theorem B29.d4 {a b : Int} (h : B29 a) (g : B29 b) : (a - b).natAbs ≤ 1073741824 := by unfold B29 at h g; omega
theorem B29.d5 {a b : Int} (h : B29 a) (g : B29 b) : (a - b).natAbs < 2 ^ 53 := by unfold B29 at h g; omega
theorem prod_bd {a b : Int} (ha : a.natAbs ≤ 1073741824) (hb : b.natAbs ≤ 1073741824) : (a * b).natAbs < 2 ^ 61 := Nat.lt_of_le_of_lt (abs_mul_le ha hb) (by decide)
set_option maxHeartbeats 4000000 in
set_option maxRecDepth 100000 in
/-- the sign of a whole number -/
theorem m_CG_signum (l : Launch) (D : va_G) (tys : List (ClassId × FieldType)) (sz : Nat) (x : UInt64) (k : Int) (hk : DI k x) : Met l yX4_signum (ws_ yX4_signum cX4_signum 2 (some .int)) ({ frames := 0, cells := 0, slots := 0, locals := 0 }) (gPc D tys [.double x] sz (fun _ => True)) (va_Qi (fun (r : Int32) (_ : Unit) => r = sgI k) (fun _ _ => True) (Fr0 sz)) 0 0 (Fr0 sz) := by
  refine Met.ofW (cc := cX4_signum) (maxL := 2) (ret := (some .int)) (by decide) rfl ?_
  intro p e s m args below meth c s₁ B hml hv
  obtain ⟨rfl, hsz, -, hK⟩ := hv
  have hx := B.exec
  have hb := B.bytes
  have hr := B.returns
  have hts := atoms_spec (ws := ws_ yX4_signum cX4_signum 2 (some .int)) B.pre
  have hts : ∀ w ∈ lw_all, w.before _ s = true := fun w h => hts w (List.mem_cons_of_mem _ h)
  have hown : s.vm.findClass RX4 = some m.cls := findClass_of_methodNamed B.named
  have hlocks := B.notSynchronized
  have hin : meth.name = yX4_signum.name := (name_of_methodNamed B.named B.method).1
  subst hsz
  obtain ⟨A, hAe⟩ : ∃ A, A = Fr0 s.heap.size := ⟨_, rfl⟩
  rw [← hAe]
  have hA : ∀ q : Nat, s.heap.size ≤ q → A q := fun q h => by rw [hAe]; exact h
  have hS : va_S A s.heap s.heap [] := va_S.rf
  have hl := lv_entry ([.double x]) (n := 2) (Nat.le_of_ble_eq_true rfl)
  rw [lg_entry_eq]
  generalize (lg_sl ([.double x]) ++ List.replicate (2 - (lg_sl ([.double x])).length) Slot.unset).toArray = ls at hl ⊢
  have hl : lv_has ls 2 [(0, .double x)] := hl
  refine lv_dload_n hx hb dX4_signum_0 rfl (lv_at hl 0 rfl) ?_
  refine lv_dconst0 hx hb dX4_signum_1 ?_
  refine fx_le (tgt := 8) hx hb (di_cmp hk di_zero) dX4_signum_2 dX4_signum_3 (by decide) (fun c1 => ?_) (fun c1 => ?_)
  · refine lv_dload_n hx hb dX4_signum_8 rfl (lv_at hl 0 rfl) ?_
    refine lv_dconst0 hx hb dX4_signum_9 ?_
    refine fx_ge (tgt := 16) hx hb (di_cmp hk di_zero) dX4_signum_10 dX4_signum_11 (by decide) (fun c2 => ?_) (fun c2 => ?_)
    · refine lv_iconst (v := 0) hx hb dX4_signum_16 (by decide) ?_
      exact W.iret (v := 0) hx hb hr (fun t ht hW => ⟨⟨0, (), rfl, by unfold sgI; rw [if_neg (by omega), if_neg (by omega)], trivial⟩, hS.F ht⟩) hS.2.2 dX4_signum_17
    · refine lv_iconst (v := (-1)) hx hb dX4_signum_14 (by decide) ?_
      exact W.iret (v := (-1)) hx hb hr (fun t ht hW => ⟨⟨(-1), (), rfl, by unfold sgI; rw [if_neg (by omega), if_pos c2], trivial⟩, hS.F ht⟩) hS.2.2 dX4_signum_15
  · refine lv_iconst (v := 1) hx hb dX4_signum_6 (by decide) ?_
    exact W.iret (v := 1) hx hb hr (fun t ht hW => ⟨⟨1, (), rfl, by unfold sgI; rw [if_pos c1], trivial⟩, hS.F ht⟩) hS.2.2 dX4_signum_7
set_option maxHeartbeats 4000000 in
set_option maxRecDepth 100000 in
/-- the filter: the sign, or 2 where the number is small -/
theorem m_CG_filter (l : Launch) (D : va_G) (tys : List (ClassId × FieldType)) (sz : Nat) (x1 y1 x2 y2 x3 y3 : UInt64) (ax ay bx by' cx cy : Int) (h1 : DI ax x1) (h2 : DI ay y1) (h3 : DI bx x2) (h4 : DI by' y2) (h5 : DI cx x3) (h6 : DI cy y3) (b1 : B29 ax) (b2 : B29 ay) (b3 : B29 bx) (b4 : B29 by') (b5 : B29 cx) (b6 : B29 cy) : Met l yX4_orientationIndexFilter (ws_ yX4_orientationIndexFilter cX4_orientationIndexFilter 22 (some .int)) ({ frames := 1, cells := 0, slots := 0, locals := 21 }) (gPc D tys [.double x1, .double y1, .double x2, .double y2, .double x3, .double y3] sz (fun _ => True)) (va_Qi (fun (r : Int32) (_ : Unit) => r = sgI (crossI ax ay bx by' cx cy) ∨ (r = 2 ∧ (crossI ax ay bx by' cx cy).natAbs < 2 ^ 15)) (fun _ _ => True) (Fr0 sz)) 0 0 (Fr0 sz) := by
  refine Met.ofW (cc := cX4_orientationIndexFilter) (maxL := 22) (ret := (some .int)) (by decide) rfl ?_
  intro p e s m args below meth c s₁ B hml hv
  obtain ⟨rfl, hsz, -, hK⟩ := hv
  have hx := B.exec
  have hb := B.bytes
  have hr := B.returns
  have hts := atoms_spec (ws := ws_ yX4_orientationIndexFilter cX4_orientationIndexFilter 22 (some .int)) B.pre
  have hts : ∀ w ∈ lw_all, w.before _ s = true := fun w h => hts w (List.mem_cons_of_mem _ h)
  have hown : s.vm.findClass RX4 = some m.cls := findClass_of_methodNamed B.named
  have hlocks := B.notSynchronized
  have hin : meth.name = yX4_orientationIndexFilter.name := (name_of_methodNamed B.named B.method).1
  subst hsz
  obtain ⟨A, hAe⟩ : ∃ A, A = Fr0 s.heap.size := ⟨_, rfl⟩
  rw [← hAe]
  have hA : ∀ q : Nat, s.heap.size ≤ q → A q := fun q h => by rw [hAe]; exact h
  have hS : va_S A s.heap s.heap [] := va_S.rf
  have hl := lv_entry ([.double x1, .double y1, .double x2, .double y2, .double x3, .double y3]) (n := 22) (Nat.le_of_ble_eq_true rfl)
  rw [lg_entry_eq]
  generalize (lg_sl ([.double x1, .double y1, .double x2, .double y2, .double x3, .double y3]) ++ List.replicate (22 - (lg_sl ([.double x1, .double y1, .double x2, .double y2, .double x3, .double y3])).length) Slot.unset).toArray = ls at hl ⊢
  have hl : lv_has ls 22 [(0, .double x1), (2, .double y1), (4, .double x2), (6, .double y2), (8, .double x3), (10, .double y3)] := hl
  obtain ⟨L, eL⟩ : ∃ L : Int, (ax - cx) * (by' - cy) = L := ⟨_, rfl⟩
  obtain ⟨R, eR⟩ : ∃ R : Int, (ay - cy) * (bx - cx) = R := ⟨_, rfl⟩
  have hLb : L.natAbs < 2 ^ 61 := by rw [← eL]; exact prod_bd (b1.d4 b5) (b4.d4 b6)
  have hRb : R.natAbs < 2 ^ 61 := by rw [← eR]; exact prod_bd (b2.d4 b6) (b3.d4 b5)
  have hcr : crossI ax ay bx by' cx cy = L - R := by rw [← eL, ← eR]; exact (cross_filter ax ay bx by' cx cy).symm
  rw [hcr]
  have hLa := rd_abs61 hLb
  have hRa := rd_abs61 hRb
  obtain ⟨dd, ed⟩ : ∃ dd : Int, rd (rd L - rd R) = dd := ⟨_, rfl⟩
  refine lv_dload_n hx hb dX4_orientationIndexFilter_0 rfl (lv_at hl 0 rfl) ?_
  refine lv_dload hx hb dX4_orientationIndexFilter_1 (lv_at hl 4 rfl) ?_
  obtain ⟨v1, ev1, hv1⟩ : ∃ v, FP.dsub x1 x3 = v ∧ DI (ax - cx) v := ⟨_, rfl, sub_ex h1 h5 rfl (b1.d5 b5)⟩
  refine fx_dsub hx hb dX4_orientationIndexFilter_3 ev1 hv1 ?_
  refine lv_dload hx hb dX4_orientationIndexFilter_4 (lv_at hl 3 rfl) ?_
  refine lv_dload hx hb dX4_orientationIndexFilter_6 (lv_at hl 5 rfl) ?_
  obtain ⟨v2, ev2, hv2⟩ : ∃ v, FP.dsub y2 y3 = v ∧ DI (by' - cy) v := ⟨_, rfl, sub_ex h4 h6 rfl (b4.d5 b6)⟩
  refine fx_dsub hx hb dX4_orientationIndexFilter_8 ev2 hv2 ?_
  obtain ⟨v3, ev3, hv3⟩ : ∃ v, FP.dmul v1 v2 = v ∧ DI (rd L) v := ⟨_, rfl, mul_rd hv1 hv2 eL (by omega) rfl⟩
  refine fx_dmul hx hb dX4_orientationIndexFilter_9 ev3 hv3 ?_
  refine lv_dstore (lv' := [(14, .double v3), (0, .double x1), (2, .double y1), (4, .double x2), (6, .double y2), (8, .double x3), (10, .double y3)]) hx hb dX4_orientationIndexFilter_10 hl (by decide) rfl (fun ls hl => ?_)
  refine lv_dload_n hx hb dX4_orientationIndexFilter_12 rfl (lv_at hl 2 rfl) ?_
  refine lv_dload hx hb dX4_orientationIndexFilter_13 (lv_at hl 6 rfl) ?_
  obtain ⟨v4, ev4, hv4⟩ : ∃ v, FP.dsub y1 y3 = v ∧ DI (ay - cy) v := ⟨_, rfl, sub_ex h2 h6 rfl (b2.d5 b6)⟩
  refine fx_dsub hx hb dX4_orientationIndexFilter_15 ev4 hv4 ?_
  refine lv_dload hx hb dX4_orientationIndexFilter_16 (lv_at hl 3 rfl) ?_
  refine lv_dload hx hb dX4_orientationIndexFilter_18 (lv_at hl 5 rfl) ?_
  obtain ⟨v5, ev5, hv5⟩ : ∃ v, FP.dsub x2 x3 = v ∧ DI (bx - cx) v := ⟨_, rfl, sub_ex h3 h5 rfl (b3.d5 b5)⟩
  refine fx_dsub hx hb dX4_orientationIndexFilter_20 ev5 hv5 ?_
  obtain ⟨v6, ev6, hv6⟩ : ∃ v, FP.dmul v4 v5 = v ∧ DI (rd R) v := ⟨_, rfl, mul_rd hv4 hv5 eR (by omega) rfl⟩
  refine fx_dmul hx hb dX4_orientationIndexFilter_21 ev6 hv6 ?_
  refine lv_dstore (lv' := [(16, .double v6), (14, .double v3), (0, .double x1), (2, .double y1), (4, .double x2), (6, .double y2), (8, .double x3), (10, .double y3)]) hx hb dX4_orientationIndexFilter_22 hl (by decide) rfl (fun ls hl => ?_)
  refine lv_dload hx hb dX4_orientationIndexFilter_24 (lv_at hl 1 rfl) ?_
  refine lv_dload hx hb dX4_orientationIndexFilter_26 (lv_at hl 0 rfl) ?_
  obtain ⟨v7, ev7, hv7⟩ : ∃ v, FP.dsub v3 v6 = v ∧ DI dd v := ⟨_, rfl, sub_rd hv3 hv6 rfl (by omega) ed⟩
  refine fx_dsub hx hb dX4_orientationIndexFilter_28 ev7 hv7 ?_
  refine lv_dstore (lv' := [(18, .double v7), (16, .double v6), (14, .double v3), (0, .double x1), (2, .double y1), (4, .double x2), (6, .double y2), (8, .double x3), (10, .double y3)]) hx hb dX4_orientationIndexFilter_29 hl (by decide) rfl (fun ls hl => ?_)
  refine lv_dload hx hb dX4_orientationIndexFilter_31 (lv_at hl 2 rfl) ?_
  refine lv_dconst0 hx hb dX4_orientationIndexFilter_33 ?_
  refine fx_le (tgt := 61) hx hb (di_cmp hv3 di_zero) dX4_orientationIndexFilter_34 dX4_orientationIndexFilter_35 (by decide) (fun c1 => ?_) (fun c1 => ?_)
  · refine lv_dload hx hb dX4_orientationIndexFilter_61 (lv_at hl 2 rfl) ?_
    refine lv_dconst0 hx hb dX4_orientationIndexFilter_63 ?_
    refine fx_ge (tgt := 92) hx hb (di_cmp hv3 di_zero) dX4_orientationIndexFilter_64 dX4_orientationIndexFilter_65 (by decide) (fun c2 => ?_) (fun c2 => ?_)
    · refine lv_dload hx hb dX4_orientationIndexFilter_92 (lv_at hl 0 rfl) ?_
      have hL0 : L = 0 := by
        rcases Int.lt_trichotomy L 0 with g | g | g
        · have := rd_sign.2.1 g; omega
        · exact g
        · have := rd_sign.1 g; omega
      have hne0 : dd ≠ 0 ∨ L = R := by
        rcases Int.lt_trichotomy R 0 with g | g | g
        · have g1 := rd_sign.2.1 g; have g2 := rd_p (i := rd L - rd R) (by omega); left; omega
        · right; omega
        · have g1 := rd_sign.1 g; have g2 := rd_m (i := rd L - rd R) (by omega); left; omega
      refine va_calli (va_runS (As := [.double v7]) (rest := []) ⟨hx, hb, hml, hown, hts⟩ (m_CG_signum l D tys _ v7 dd hv7) (va_cwS 1 hts (lw_S q92 q93 q9 q94) rfl rfl rfl (by decide +kernel) ⟨Nat.le_of_ble_eq_true rfl, Nat.le_of_ble_eq_true rfl⟩) (gS rfl trivial hK) rfl rfl hl.1 rfl (lv_room (Nat.le_of_ble_eq_true rfl)) dX4_orientationIndexFilter_94 ⟨Nat.le_of_ble_eq_true rfl, Nat.le_of_ble_eq_true rfl⟩) hS (fun q h1 h2 => absurd h2 (Nat.not_le.mpr h1)) (fun q h => hA q (Nat.le_trans hS.1 h)) (fun r u t H1 locs ht hvm hw hB hz hk hS => ?_)
      have hw : r = sgI dd := hw
      have hne : dd ≠ 0 ∨ L = R := hne0
      have hfin : sgI dd = sgI (L - R) := by
        rcases hne with g | g
        · rw [← ed]; exact rd_sgI (by rw [ed]; exact g)
        · have e0 : dd = 0 := by rw [← ed, g, Int.sub_self]; exact rd_sign.2.2 rfl
          rw [e0, g, Int.sub_self]
      exact W.iret (v := r) hx hb hr (fun t ht hW => ⟨⟨r, (), rfl, Or.inl (hw.trans hfin), trivial⟩, hS.F ht⟩) hS.2.2 dX4_orientationIndexFilter_97
    · refine lv_dload hx hb dX4_orientationIndexFilter_68 (lv_at hl 1 rfl) ?_
      refine lv_dconst0 hx hb dX4_orientationIndexFilter_70 ?_
      refine fx_lt (tgt := 81) hx hb (di_cmp hv6 di_zero) dX4_orientationIndexFilter_71 dX4_orientationIndexFilter_72 (by decide) (fun c3 => ?_) (fun c3 => ?_)
      · refine lv_dload hx hb dX4_orientationIndexFilter_81 (lv_at hl 2 rfl) ?_
        obtain ⟨v8, ev8, hv8⟩ : ∃ v, FP.dneg v3 = v ∧ DI (-rd L) v := ⟨_, rfl, neg_di hv3 (by omega)⟩
        refine fx_dneg hx hb dX4_orientationIndexFilter_83 ev8 ?_
        refine lv_dload hx hb dX4_orientationIndexFilter_84 (lv_at hl 1 rfl) ?_
        obtain ⟨v9, ev9, hv9⟩ : ∃ v, FP.dsub v8 v6 = v ∧ DI (rd (-rd L - rd R)) v := ⟨_, rfl, sub_rd hv8 hv6 rfl (by omega) rfl⟩
        refine fx_dsub hx hb dX4_orientationIndexFilter_86 ev9 hv9 ?_
        have hpos : 0 < rd (-rd L - rd R) := rd_p (by omega)
        have hsb : (rd (-rd L - rd R)).natAbs < 2 ^ 63 := by
          have := rd_near (i := -rd L - rd R) (j := 10) (by omega)
          have n1 : 2 * rd (-rd L - rd R) ≤ 2 * (-rd L - rd R) + 1024 := this.1
          omega
        refine lv_dstore (lv' := [(12, .double v9), (18, .double v7), (16, .double v6), (14, .double v3), (0, .double x1), (2, .double y1), (4, .double x2), (6, .double y2), (8, .double x3), (10, .double y3)]) hx hb dX4_orientationIndexFilter_87 hl (by decide) rfl (fun ls hl => ?_)
        refine lv_goto (tgt := 98) hx hb dX4_orientationIndexFilter_89 (by decide) ?_
        refine lv_ldc2d hx hb hown (hts _ q95) dX4_orientationIndexFilter_98 ?_
        refine lv_dload hx hb dX4_orientationIndexFilter_101 (lv_at hl 0 rfl) ?_
        obtain ⟨z, hz1, hz2, hz3⟩ := eps_law hv9 hpos (by omega)
        obtain ⟨er, eer⟩ : ∃ er, FP.dmul 4382569440205035030 v9 = er := ⟨_, rfl⟩
        rw [eer] at hz1
        refine fx_dmul hx hb dX4_orientationIndexFilter_103 eer hz1 ?_
        refine lv_dstore (lv' := [(20, .double er), (12, .double v9), (18, .double v7), (16, .double v6), (14, .double v3), (0, .double x1), (2, .double y1), (4, .double x2), (6, .double y2), (8, .double x3), (10, .double y3)]) hx hb dX4_orientationIndexFilter_104 hl (by decide) rfl (fun ls hl => ?_)
        refine lv_dload hx hb dX4_orientationIndexFilter_106 (lv_at hl 2 rfl) ?_
        refine lv_dload hx hb dX4_orientationIndexFilter_108 (lv_at hl 0 rfl) ?_
        refine fx_ge (tgt := 123) hx hb (fl_cmp hv7 hz1) dX4_orientationIndexFilter_110 dX4_orientationIndexFilter_111 (by decide) (fun c8 => ?_) (fun c8 => ?_)
        · refine lv_dload hx hb dX4_orientationIndexFilter_123 (lv_at hl 2 rfl) ?_
          refine va_calli (va_runS (As := [.double v7]) (rest := []) ⟨hx, hb, hml, hown, hts⟩ (m_CG_signum l D tys _ v7 dd hv7) (va_cwS 1 hts (lw_S q92 q93 q9 q94) rfl rfl rfl (by decide +kernel) ⟨Nat.le_of_ble_eq_true rfl, Nat.le_of_ble_eq_true rfl⟩) (gS rfl trivial hK) rfl rfl hl.1 rfl (lv_room (Nat.le_of_ble_eq_true rfl)) dX4_orientationIndexFilter_125 ⟨Nat.le_of_ble_eq_true rfl, Nat.le_of_ble_eq_true rfl⟩) hS (fun q h1 h2 => absurd h2 (Nat.not_le.mpr h1)) (fun q h => hA q (Nat.le_trans hS.1 h)) (fun r u t H1 locs ht hvm hw hB hz hk hS => ?_)
          have hw : r = sgI dd := hw
          have hne : dd ≠ 0 ∨ L = R := Or.inl (by have := pos_of_scaled p1074 hz2 c8; omega)
          have hfin : sgI dd = sgI (L - R) := by
            rcases hne with g | g
            · rw [← ed]; exact rd_sgI (by rw [ed]; exact g)
            · have e0 : dd = 0 := by rw [← ed, g, Int.sub_self]; exact rd_sign.2.2 rfl
              rw [e0, g, Int.sub_self]
          exact W.iret (v := r) hx hb hr (fun t ht hW => ⟨⟨r, (), rfl, Or.inl (hw.trans hfin), trivial⟩, hS.F ht⟩) hS.2.2 dX4_orientationIndexFilter_128
        · refine lv_dload hx hb dX4_orientationIndexFilter_114 (lv_at hl 2 rfl) ?_
          obtain ⟨v10, ev10, hv10⟩ : ∃ v, FP.dneg v7 = v ∧ DI (-dd) v := ⟨_, rfl, neg_di hv7 (by omega)⟩
          refine fx_dneg hx hb dX4_orientationIndexFilter_116 ev10 ?_
          refine lv_dload hx hb dX4_orientationIndexFilter_117 (lv_at hl 0 rfl) ?_
          refine fx_lt (tgt := 129) hx hb (fl_cmp hv10 hz1) dX4_orientationIndexFilter_119 dX4_orientationIndexFilter_120 (by decide) (fun c9 => ?_) (fun c9 => ?_)
          · refine lv_iconst (v := 2) hx hb dX4_orientationIndexFilter_129 (by decide) ?_
            have g1 := lt_of_scaled p1074 c8 hz3
            have g2 := lt_of_scaled p1074 c9 hz3
            have g3 : (L - R).natAbs < 2 ^ 15 := rd_small_diff hLb hRb (by rw [ed]; omega)
            exact W.iret (v := 2) hx hb hr (fun t ht hW => ⟨⟨2, (), rfl, Or.inr ⟨rfl, g3⟩, trivial⟩, hS.F ht⟩) hS.2.2 dX4_orientationIndexFilter_130
          · refine lv_dload hx hb dX4_orientationIndexFilter_123 (lv_at hl 2 rfl) ?_
            refine va_calli (va_runS (As := [.double v7]) (rest := []) ⟨hx, hb, hml, hown, hts⟩ (m_CG_signum l D tys _ v7 dd hv7) (va_cwS 1 hts (lw_S q92 q93 q9 q94) rfl rfl rfl (by decide +kernel) ⟨Nat.le_of_ble_eq_true rfl, Nat.le_of_ble_eq_true rfl⟩) (gS rfl trivial hK) rfl rfl hl.1 rfl (lv_room (Nat.le_of_ble_eq_true rfl)) dX4_orientationIndexFilter_125 ⟨Nat.le_of_ble_eq_true rfl, Nat.le_of_ble_eq_true rfl⟩) hS (fun q h1 h2 => absurd h2 (Nat.not_le.mpr h1)) (fun q h => hA q (Nat.le_trans hS.1 h)) (fun r u t H1 locs ht hvm hw hB hz hk hS => ?_)
            have hw : r = sgI dd := hw
            have hne : dd ≠ 0 ∨ L = R := Or.inl (by have := pos_of_scaled p1074 hz2 c9; omega)
            have hfin : sgI dd = sgI (L - R) := by
              rcases hne with g | g
              · rw [← ed]; exact rd_sgI (by rw [ed]; exact g)
              · have e0 : dd = 0 := by rw [← ed, g, Int.sub_self]; exact rd_sign.2.2 rfl
                rw [e0, g, Int.sub_self]
            exact W.iret (v := r) hx hb hr (fun t ht hW => ⟨⟨r, (), rfl, Or.inl (hw.trans hfin), trivial⟩, hS.F ht⟩) hS.2.2 dX4_orientationIndexFilter_128
      · refine lv_dload hx hb dX4_orientationIndexFilter_75 (lv_at hl 0 rfl) ?_
        refine va_calli (va_runS (As := [.double v7]) (rest := []) ⟨hx, hb, hml, hown, hts⟩ (m_CG_signum l D tys _ v7 dd hv7) (va_cwS 1 hts (lw_S q92 q93 q9 q94) rfl rfl rfl (by decide +kernel) ⟨Nat.le_of_ble_eq_true rfl, Nat.le_of_ble_eq_true rfl⟩) (gS rfl trivial hK) rfl rfl hl.1 rfl (lv_room (Nat.le_of_ble_eq_true rfl)) dX4_orientationIndexFilter_77 ⟨Nat.le_of_ble_eq_true rfl, Nat.le_of_ble_eq_true rfl⟩) hS (fun q h1 h2 => absurd h2 (Nat.not_le.mpr h1)) (fun q h => hA q (Nat.le_trans hS.1 h)) (fun r u t H1 locs ht hvm hw hB hz hk hS => ?_)
        have hw : r = sgI dd := hw
        have hne : dd ≠ 0 ∨ L = R := Or.inl (by have := rd_m (i := rd L - rd R) (by omega); omega)
        have hfin : sgI dd = sgI (L - R) := by
          rcases hne with g | g
          · rw [← ed]; exact rd_sgI (by rw [ed]; exact g)
          · have e0 : dd = 0 := by rw [← ed, g, Int.sub_self]; exact rd_sign.2.2 rfl
            rw [e0, g, Int.sub_self]
        exact W.iret (v := r) hx hb hr (fun t ht hW => ⟨⟨r, (), rfl, Or.inl (hw.trans hfin), trivial⟩, hS.F ht⟩) hS.2.2 dX4_orientationIndexFilter_80
  · refine lv_dload hx hb dX4_orientationIndexFilter_38 (lv_at hl 1 rfl) ?_
    refine lv_dconst0 hx hb dX4_orientationIndexFilter_40 ?_
    refine fx_gt (tgt := 51) hx hb (di_cmp hv6 di_zero) dX4_orientationIndexFilter_41 dX4_orientationIndexFilter_42 (by decide) (fun c2 => ?_) (fun c2 => ?_)
    · refine lv_dload hx hb dX4_orientationIndexFilter_51 (lv_at hl 2 rfl) ?_
      refine lv_dload hx hb dX4_orientationIndexFilter_53 (lv_at hl 1 rfl) ?_
      obtain ⟨v11, ev11, hv11⟩ : ∃ v, FP.dadd v3 v6 = v ∧ DI (rd (rd L + rd R)) v := ⟨_, rfl, add_rd hv3 hv6 rfl (by omega) rfl⟩
      refine fx_dadd hx hb dX4_orientationIndexFilter_55 ev11 hv11 ?_
      have hpos : 0 < rd (rd L + rd R) := rd_p (by omega)
      have hsb : (rd (rd L + rd R)).natAbs < 2 ^ 63 := by
        have := rd_near (i := rd L + rd R) (j := 10) (by omega)
        have n1 : 2 * rd (rd L + rd R) ≤ 2 * (rd L + rd R) + 1024 := this.1
        omega
      refine lv_dstore (lv' := [(12, .double v11), (18, .double v7), (16, .double v6), (14, .double v3), (0, .double x1), (2, .double y1), (4, .double x2), (6, .double y2), (8, .double x3), (10, .double y3)]) hx hb dX4_orientationIndexFilter_56 hl (by decide) rfl (fun ls hl => ?_)
      refine lv_goto (tgt := 98) hx hb dX4_orientationIndexFilter_58 (by decide) ?_
      refine lv_ldc2d hx hb hown (hts _ q95) dX4_orientationIndexFilter_98 ?_
      refine lv_dload hx hb dX4_orientationIndexFilter_101 (lv_at hl 0 rfl) ?_
      obtain ⟨z, hz1, hz2, hz3⟩ := eps_law hv11 hpos (by omega)
      obtain ⟨er, eer⟩ : ∃ er, FP.dmul 4382569440205035030 v11 = er := ⟨_, rfl⟩
      rw [eer] at hz1
      refine fx_dmul hx hb dX4_orientationIndexFilter_103 eer hz1 ?_
      refine lv_dstore (lv' := [(20, .double er), (12, .double v11), (18, .double v7), (16, .double v6), (14, .double v3), (0, .double x1), (2, .double y1), (4, .double x2), (6, .double y2), (8, .double x3), (10, .double y3)]) hx hb dX4_orientationIndexFilter_104 hl (by decide) rfl (fun ls hl => ?_)
      refine lv_dload hx hb dX4_orientationIndexFilter_106 (lv_at hl 2 rfl) ?_
      refine lv_dload hx hb dX4_orientationIndexFilter_108 (lv_at hl 0 rfl) ?_
      refine fx_ge (tgt := 123) hx hb (fl_cmp hv7 hz1) dX4_orientationIndexFilter_110 dX4_orientationIndexFilter_111 (by decide) (fun c8 => ?_) (fun c8 => ?_)
      · refine lv_dload hx hb dX4_orientationIndexFilter_123 (lv_at hl 2 rfl) ?_
        refine va_calli (va_runS (As := [.double v7]) (rest := []) ⟨hx, hb, hml, hown, hts⟩ (m_CG_signum l D tys _ v7 dd hv7) (va_cwS 1 hts (lw_S q92 q93 q9 q94) rfl rfl rfl (by decide +kernel) ⟨Nat.le_of_ble_eq_true rfl, Nat.le_of_ble_eq_true rfl⟩) (gS rfl trivial hK) rfl rfl hl.1 rfl (lv_room (Nat.le_of_ble_eq_true rfl)) dX4_orientationIndexFilter_125 ⟨Nat.le_of_ble_eq_true rfl, Nat.le_of_ble_eq_true rfl⟩) hS (fun q h1 h2 => absurd h2 (Nat.not_le.mpr h1)) (fun q h => hA q (Nat.le_trans hS.1 h)) (fun r u t H1 locs ht hvm hw hB hz hk hS => ?_)
        have hw : r = sgI dd := hw
        have hne : dd ≠ 0 ∨ L = R := Or.inl (by have := pos_of_scaled p1074 hz2 c8; omega)
        have hfin : sgI dd = sgI (L - R) := by
          rcases hne with g | g
          · rw [← ed]; exact rd_sgI (by rw [ed]; exact g)
          · have e0 : dd = 0 := by rw [← ed, g, Int.sub_self]; exact rd_sign.2.2 rfl
            rw [e0, g, Int.sub_self]
        exact W.iret (v := r) hx hb hr (fun t ht hW => ⟨⟨r, (), rfl, Or.inl (hw.trans hfin), trivial⟩, hS.F ht⟩) hS.2.2 dX4_orientationIndexFilter_128
      · refine lv_dload hx hb dX4_orientationIndexFilter_114 (lv_at hl 2 rfl) ?_
        obtain ⟨v12, ev12, hv12⟩ : ∃ v, FP.dneg v7 = v ∧ DI (-dd) v := ⟨_, rfl, neg_di hv7 (by omega)⟩
        refine fx_dneg hx hb dX4_orientationIndexFilter_116 ev12 ?_
        refine lv_dload hx hb dX4_orientationIndexFilter_117 (lv_at hl 0 rfl) ?_
        refine fx_lt (tgt := 129) hx hb (fl_cmp hv12 hz1) dX4_orientationIndexFilter_119 dX4_orientationIndexFilter_120 (by decide) (fun c9 => ?_) (fun c9 => ?_)
        · refine lv_iconst (v := 2) hx hb dX4_orientationIndexFilter_129 (by decide) ?_
          have g1 := lt_of_scaled p1074 c8 hz3
          have g2 := lt_of_scaled p1074 c9 hz3
          have g3 : (L - R).natAbs < 2 ^ 15 := rd_small_diff hLb hRb (by rw [ed]; omega)
          exact W.iret (v := 2) hx hb hr (fun t ht hW => ⟨⟨2, (), rfl, Or.inr ⟨rfl, g3⟩, trivial⟩, hS.F ht⟩) hS.2.2 dX4_orientationIndexFilter_130
        · refine lv_dload hx hb dX4_orientationIndexFilter_123 (lv_at hl 2 rfl) ?_
          refine va_calli (va_runS (As := [.double v7]) (rest := []) ⟨hx, hb, hml, hown, hts⟩ (m_CG_signum l D tys _ v7 dd hv7) (va_cwS 1 hts (lw_S q92 q93 q9 q94) rfl rfl rfl (by decide +kernel) ⟨Nat.le_of_ble_eq_true rfl, Nat.le_of_ble_eq_true rfl⟩) (gS rfl trivial hK) rfl rfl hl.1 rfl (lv_room (Nat.le_of_ble_eq_true rfl)) dX4_orientationIndexFilter_125 ⟨Nat.le_of_ble_eq_true rfl, Nat.le_of_ble_eq_true rfl⟩) hS (fun q h1 h2 => absurd h2 (Nat.not_le.mpr h1)) (fun q h => hA q (Nat.le_trans hS.1 h)) (fun r u t H1 locs ht hvm hw hB hz hk hS => ?_)
          have hw : r = sgI dd := hw
          have hne : dd ≠ 0 ∨ L = R := Or.inl (by have := pos_of_scaled p1074 hz2 c9; omega)
          have hfin : sgI dd = sgI (L - R) := by
            rcases hne with g | g
            · rw [← ed]; exact rd_sgI (by rw [ed]; exact g)
            · have e0 : dd = 0 := by rw [← ed, g, Int.sub_self]; exact rd_sign.2.2 rfl
              rw [e0, g, Int.sub_self]
          exact W.iret (v := r) hx hb hr (fun t ht hW => ⟨⟨r, (), rfl, Or.inl (hw.trans hfin), trivial⟩, hS.F ht⟩) hS.2.2 dX4_orientationIndexFilter_128
    · refine lv_dload hx hb dX4_orientationIndexFilter_45 (lv_at hl 0 rfl) ?_
      refine va_calli (va_runS (As := [.double v7]) (rest := []) ⟨hx, hb, hml, hown, hts⟩ (m_CG_signum l D tys _ v7 dd hv7) (va_cwS 1 hts (lw_S q92 q93 q9 q94) rfl rfl rfl (by decide +kernel) ⟨Nat.le_of_ble_eq_true rfl, Nat.le_of_ble_eq_true rfl⟩) (gS rfl trivial hK) rfl rfl hl.1 rfl (lv_room (Nat.le_of_ble_eq_true rfl)) dX4_orientationIndexFilter_47 ⟨Nat.le_of_ble_eq_true rfl, Nat.le_of_ble_eq_true rfl⟩) hS (fun q h1 h2 => absurd h2 (Nat.not_le.mpr h1)) (fun q h => hA q (Nat.le_trans hS.1 h)) (fun r u t H1 locs ht hvm hw hB hz hk hS => ?_)
      have hw : r = sgI dd := hw
      have hne : dd ≠ 0 ∨ L = R := Or.inl (by have := rd_p (i := rd L - rd R) (by omega); omega)
      have hfin : sgI dd = sgI (L - R) := by
        rcases hne with g | g
        · rw [← ed]; exact rd_sgI (by rw [ed]; exact g)
        · have e0 : dd = 0 := by rw [← ed, g, Int.sub_self]; exact rd_sign.2.2 rfl
          rw [e0, g, Int.sub_self]
      exact W.iret (v := r) hx hb hr (fun t ht hW => ⟨⟨r, (), rfl, Or.inl (hw.trans hfin), trivial⟩, hS.F ht⟩) hS.2.2 dX4_orientationIndexFilter_50
end
section
/-! WALKS of CGAlgorithmsDD.orientationIndex and Orientation.index: printed by wip/D-29928w/cg2.py -/
/-- a coordinate's cell -/
abbrev Co (x y : Int64) : va_E := .inr (1, [.double (FP.l2d x), .double (FP.l2d y), .double 9221120237041090560])
abbrev C64 (ax ay bx by' cx cy : Int64) : Int := crossI ax.toInt ay.toInt bx.toInt by'.toInt cx.toInt cy.toInt
theorem fourth_eq (P Q p q : Int) : p - q + (P - p) - (Q - q) = P - Q := by omega
/-- a coordinate in range -/
def Bd (x : Int64) : Prop := B29 x.toInt
set_option maxHeartbeats 4000000 in
set_option maxRecDepth 100000 in
/-- the turn of three points, exact -/
theorem m_CG_orient6 (l : Launch) (D : va_G) (tys : List (ClassId × FieldType)) (sz : Nat) (x1 y1 x2 y2 x3 y3 : UInt64) (ax ay bx by' cx cy : Int) (h1 : DI ax x1) (h2 : DI ay y1) (h3 : DI bx x2) (h4 : DI by' y2) (h5 : DI cx x3) (h6 : DI cy y3) (b1 : B29 ax) (b2 : B29 ay) (b3 : B29 bx) (b4 : B29 by') (b5 : B29 cx) (b6 : B29 cy) : Met l yX4_orientationIndex_2 (ws_ yX4_orientationIndex_2 cX4_orientationIndex_2 17 (some .int)) ({ frames := 3, cells := 4, slots := 8, locals := 65 }) (gPc D tys [.double x1, .double y1, .double x2, .double y2, .double x3, .double y3] sz (fun _ => True)) (va_Qi (fun (r : Int32) (_ : Unit) => r = sgI (crossI ax ay bx by' cx cy)) (fun _ _ => True) (Fr0 sz)) 4 8 (Fr0 sz) := by
  refine Met.ofW (cc := cX4_orientationIndex_2) (maxL := 17) (ret := (some .int)) (by decide) rfl ?_
  intro p e s m args below meth c s₁ B hml hv
  obtain ⟨rfl, hsz, -, hK⟩ := hv
  have hx := B.exec
  have hb := B.bytes
  have hr := B.returns
  have hts := atoms_spec (ws := ws_ yX4_orientationIndex_2 cX4_orientationIndex_2 17 (some .int)) B.pre
  have hts : ∀ w ∈ lw_all, w.before _ s = true := fun w h => hts w (List.mem_cons_of_mem _ h)
  have hown : s.vm.findClass RX4 = some m.cls := findClass_of_methodNamed B.named
  have hlocks := B.notSynchronized
  have hin : meth.name = yX4_orientationIndex_2.name := (name_of_methodNamed B.named B.method).1
  subst hsz
  obtain ⟨A, hAe⟩ : ∃ A, A = Fr0 s.heap.size := ⟨_, rfl⟩
  rw [← hAe]
  have hA : ∀ q : Nat, s.heap.size ≤ q → A q := fun q h => by rw [hAe]; exact h
  have hS : va_S A s.heap s.heap [] := va_S.rf
  have hl := lv_entry ([.double x1, .double y1, .double x2, .double y2, .double x3, .double y3]) (n := 17) (Nat.le_of_ble_eq_true rfl)
  rw [lg_entry_eq]
  generalize (lg_sl ([.double x1, .double y1, .double x2, .double y2, .double x3, .double y3]) ++ List.replicate (17 - (lg_sl ([.double x1, .double y1, .double x2, .double y2, .double x3, .double y3])).length) Slot.unset).toArray = ls at hl ⊢
  have hl : lv_has ls 17 [(0, .double x1), (2, .double y1), (4, .double x2), (6, .double y2), (8, .double x3), (10, .double y3)] := hl
  refine lv_dload_n hx hb dX4_orientationIndex_2_0 rfl (lv_at hl 0 rfl) ?_
  refine lv_dload_n hx hb dX4_orientationIndex_2_1 rfl (lv_at hl 1 rfl) ?_
  refine lv_dload hx hb dX4_orientationIndex_2_2 (lv_at hl 2 rfl) ?_
  refine lv_dload hx hb dX4_orientationIndex_2_4 (lv_at hl 3 rfl) ?_
  refine lv_dload hx hb dX4_orientationIndex_2_6 (lv_at hl 4 rfl) ?_
  refine lv_dload hx hb dX4_orientationIndex_2_8 (lv_at hl 5 rfl) ?_
  refine va_calli (va_runS (As := [.double x1, .double y1, .double x2, .double y2, .double x3, .double y3]) (rest := []) ⟨hx, hb, hml, hown, hts⟩ (m_CG_filter l D tys _ x1 y1 x2 y2 x3 y3 ax ay bx by' cx cy h1 h2 h3 h4 h5 h6 b1 b2 b3 b4 b5 b6) (va_cwS 6 hts (lw_S q89 q90 q9 q91) rfl rfl rfl (by decide +kernel) ⟨Nat.le_of_ble_eq_true rfl, Nat.le_of_ble_eq_true rfl⟩) (gS rfl trivial hK) rfl rfl hl.1 rfl (lv_room (Nat.le_of_ble_eq_true rfl)) dX4_orientationIndex_2_10 ⟨Nat.le_of_ble_eq_true rfl, Nat.le_of_ble_eq_true rfl⟩) hS (fun q h1 h2 => absurd h2 (Nat.not_le.mpr h1)) (fun q h => hA q (Nat.le_trans hS.1 h)) (fun r u t H1 locs ht hvm hw hB hz hk hS => ?_)
  refine lv_istore (lv' := [(12, .int r), (0, .double x1), (2, .double y1), (4, .double x2), (6, .double y2), (8, .double x3), (10, .double y3)]) hx hb dX4_orientationIndex_2_13 hl (by decide) rfl (fun ls hl => ?_)
  refine lv_iload hx hb dX4_orientationIndex_2_15 (lv_at hl 0 rfl) ?_
  refine lv_iconst (v := 1) hx hb dX4_orientationIndex_2_17 (by decide) ?_
  refine lv_icmp_gt (tgt := 24) hx hb dX4_orientationIndex_2_18 (by decide) (fun c1 => ?_) (fun c1 => ?_)
  · have hsm : (crossI ax ay bx by' cx cy).natAbs < 2 ^ 15 := by
      rcases hw with g | ⟨-, g⟩
      · exact absurd (by rw [← g]; exact c1) (sgI_le (crossI ax ay bx by' cx cy))
      · exact g
    refine lv_dload hx hb dX4_orientationIndex_2_24 (lv_at hl 3 rfl) ?_
    have hS0 := hS.1
    refine va_callr (va_runS (As := [.double x2]) (rest := []) ⟨hx, hb, hml, hown, hts⟩ (m_DD_valueOf l D tys _ x2) (va_cwS 1 hts (lw_S q96 q97 q10 q98) rfl rfl rfl (by decide +kernel) ⟨Nat.le_of_ble_eq_true rfl, Nat.le_of_ble_eq_true rfl⟩) (gS rfl trivial hK) rfl rfl hl.1 rfl (lv_room (Nat.le_of_ble_eq_true rfl)) dX4_orientationIndex_2_26 ⟨Nat.le_of_ble_eq_true rfl, Nat.le_of_ble_eq_true rfl⟩) hS (fun q h1 h2 => absurd h2 (Nat.not_le.mpr h1)) (fun q h => hA q (Nat.le_trans hS.1 h)) (fun u1 q1 t H1a locs ht hvm hw1 hB hz hk hS => ?_)
    obtain ⟨hq1, hB⟩ := hB
    rw [ht] at hB
    have hAq1 : A q1 := hA q1 (Nat.le_trans hS0 hq1)
    refine lv_dload_n hx hb dX4_orientationIndex_2_29 rfl (lv_at hl 1 rfl) ?_
    obtain ⟨v1, ev1, hv1⟩ : ∃ v, FP.dneg x1 = v ∧ DI (-ax) v := ⟨_, rfl, neg_di h1 (by omega)⟩
    refine fx_dneg hx hb dX4_orientationIndex_2_30 ev1 ?_
    refine va_callr (va_runV (As := [.double v1]) (rest := []) ⟨hx, hb, hml, hown, hts⟩ (m_DD_selfAdd l D tys q1 _ x2 FP.dconst0 v1 bx (-ax) h3 di_zero hv1 b3.abs50 b1.neg50) (cwV 1 hts (lw_V q116 q117 q118 q10 q119) rfl rfl rfl (by decide +kernel) ⟨Nat.le_of_ble_eq_true rfl, Nat.le_of_ble_eq_true rfl⟩) (gV (va_recv hK.1 hB (ci := 2) (q0 := 0) rfl rfl) rfl hB hK) rfl rfl hl.1 rfl (lv_room (Nat.le_of_ble_eq_true rfl)) dX4_orientationIndex_2_31 ⟨Nat.le_of_ble_eq_true rfl, Nat.le_of_ble_eq_true rfl⟩) hS (fun q h1 h2 => h2.elim (fun e => e ▸ hAq1) (fun h => absurd h (Nat.not_le.mpr h1))) (fun q h => h.elim (fun e => e ▸ hAq1) (fun h => hA q (Nat.le_trans hS.1 h))) (fun u1 ra t H1b locs ht hvm hw1 hB hz hk hS => ?_)
    obtain ⟨hra, hP1⟩ := hB
    rw [ht] at hP1
    rw [hra]
    refine lv_astore (lv' := [(13, .ref q1), (12, .int r), (0, .double x1), (2, .double y1), (4, .double x2), (6, .double y2), (8, .double x3), (10, .double y3)]) hx hb dX4_orientationIndex_2_34 hl (by decide) rfl (fun ls hl => ?_)
    refine lv_dload hx hb dX4_orientationIndex_2_36 (lv_at hl 5 rfl) ?_
    have hS0 := hS.1
    refine va_callr (va_runS (As := [.double y2]) (rest := []) ⟨hx, hb, hml, hown, hts⟩ (m_DD_valueOf l D tys _ y2) (va_cwS 1 hts (lw_S q96 q97 q10 q98) rfl rfl rfl (by decide +kernel) ⟨Nat.le_of_ble_eq_true rfl, Nat.le_of_ble_eq_true rfl⟩) (gS rfl trivial hK) rfl rfl hl.1 rfl (lv_room (Nat.le_of_ble_eq_true rfl)) dX4_orientationIndex_2_38 ⟨Nat.le_of_ble_eq_true rfl, Nat.le_of_ble_eq_true rfl⟩) hS (fun q h1 h2 => absurd h2 (Nat.not_le.mpr h1)) (fun q h => hA q (Nat.le_trans hS.1 h)) (fun u2 q2 t H2a locs ht hvm hw2 hB hz hk hS => ?_)
    obtain ⟨hq2, hB⟩ := hB
    rw [ht] at hB
    have hn12 : q1 ≠ q2 := Nat.ne_of_lt (Nat.lt_of_lt_of_le hP1.lt hq2)
    have hP1 := hP1.keep0 hk
    have hAq2 : A q2 := hA q2 (Nat.le_trans hS0 hq2)
    refine lv_dload_n hx hb dX4_orientationIndex_2_41 rfl (lv_at hl 3 rfl) ?_
    obtain ⟨v2, ev2, hv2⟩ : ∃ v, FP.dneg y1 = v ∧ DI (-ay) v := ⟨_, rfl, neg_di h2 (by omega)⟩
    refine fx_dneg hx hb dX4_orientationIndex_2_42 ev2 ?_
    refine va_callr (va_runV (As := [.double v2]) (rest := []) ⟨hx, hb, hml, hown, hts⟩ (m_DD_selfAdd l D tys q2 _ y2 FP.dconst0 v2 by' (-ay) h4 di_zero hv2 b4.abs50 b2.neg50) (cwV 1 hts (lw_V q116 q117 q118 q10 q119) rfl rfl rfl (by decide +kernel) ⟨Nat.le_of_ble_eq_true rfl, Nat.le_of_ble_eq_true rfl⟩) (gV (va_recv hK.1 hB (ci := 2) (q0 := 0) rfl rfl) rfl hB hK) rfl rfl hl.1 rfl (lv_room (Nat.le_of_ble_eq_true rfl)) dX4_orientationIndex_2_43 ⟨Nat.le_of_ble_eq_true rfl, Nat.le_of_ble_eq_true rfl⟩) hS (fun q h1 h2 => h2.elim (fun e => e ▸ hAq2) (fun h => absurd h (Nat.not_le.mpr h1))) (fun q h => h.elim (fun e => e ▸ hAq2) (fun h => hA q (Nat.le_trans hS.1 h))) (fun u2 ra t H2b locs ht hvm hw2 hB hz hk hS => ?_)
    obtain ⟨hra, hP2⟩ := hB
    rw [ht] at hP2
    rw [hra]
    have hP1 := hP1.keep1 hk hn12
    refine lv_astore (lv' := [(14, .ref q2), (13, .ref q1), (12, .int r), (0, .double x1), (2, .double y1), (4, .double x2), (6, .double y2), (8, .double x3), (10, .double y3)]) hx hb dX4_orientationIndex_2_46 hl (by decide) rfl (fun ls hl => ?_)
    refine lv_dload hx hb dX4_orientationIndex_2_48 (lv_at hl 7 rfl) ?_
    have hS0 := hS.1
    refine va_callr (va_runS (As := [.double x3]) (rest := []) ⟨hx, hb, hml, hown, hts⟩ (m_DD_valueOf l D tys _ x3) (va_cwS 1 hts (lw_S q96 q97 q10 q98) rfl rfl rfl (by decide +kernel) ⟨Nat.le_of_ble_eq_true rfl, Nat.le_of_ble_eq_true rfl⟩) (gS rfl trivial hK) rfl rfl hl.1 rfl (lv_room (Nat.le_of_ble_eq_true rfl)) dX4_orientationIndex_2_50 ⟨Nat.le_of_ble_eq_true rfl, Nat.le_of_ble_eq_true rfl⟩) hS (fun q h1 h2 => absurd h2 (Nat.not_le.mpr h1)) (fun q h => hA q (Nat.le_trans hS.1 h)) (fun u3 q3 t H3a locs ht hvm hw3 hB hz hk hS => ?_)
    obtain ⟨hq3, hB⟩ := hB
    rw [ht] at hB
    have hn13 : q1 ≠ q3 := Nat.ne_of_lt (Nat.lt_of_lt_of_le hP1.lt hq3)
    have hn23 : q2 ≠ q3 := Nat.ne_of_lt (Nat.lt_of_lt_of_le hP2.lt hq3)
    have hP1 := hP1.keep0 hk
    have hP2 := hP2.keep0 hk
    have hAq3 : A q3 := hA q3 (Nat.le_trans hS0 hq3)
    refine lv_dload hx hb dX4_orientationIndex_2_53 (lv_at hl 5 rfl) ?_
    obtain ⟨v3, ev3, hv3⟩ : ∃ v, FP.dneg x2 = v ∧ DI (-bx) v := ⟨_, rfl, neg_di h3 (by omega)⟩
    refine fx_dneg hx hb dX4_orientationIndex_2_55 ev3 ?_
    refine va_callr (va_runV (As := [.double v3]) (rest := []) ⟨hx, hb, hml, hown, hts⟩ (m_DD_selfAdd l D tys q3 _ x3 FP.dconst0 v3 cx (-bx) h5 di_zero hv3 b5.abs50 b3.neg50) (cwV 1 hts (lw_V q116 q117 q118 q10 q119) rfl rfl rfl (by decide +kernel) ⟨Nat.le_of_ble_eq_true rfl, Nat.le_of_ble_eq_true rfl⟩) (gV (va_recv hK.1 hB (ci := 2) (q0 := 0) rfl rfl) rfl hB hK) rfl rfl hl.1 rfl (lv_room (Nat.le_of_ble_eq_true rfl)) dX4_orientationIndex_2_56 ⟨Nat.le_of_ble_eq_true rfl, Nat.le_of_ble_eq_true rfl⟩) hS (fun q h1 h2 => h2.elim (fun e => e ▸ hAq3) (fun h => absurd h (Nat.not_le.mpr h1))) (fun q h => h.elim (fun e => e ▸ hAq3) (fun h => hA q (Nat.le_trans hS.1 h))) (fun u3 ra t H3b locs ht hvm hw3 hB hz hk hS => ?_)
    obtain ⟨hra, hP3⟩ := hB
    rw [ht] at hP3
    rw [hra]
    have hP1 := hP1.keep1 hk hn13
    have hP2 := hP2.keep1 hk hn23
    refine lv_astore (lv' := [(15, .ref q3), (14, .ref q2), (13, .ref q1), (12, .int r), (0, .double x1), (2, .double y1), (4, .double x2), (6, .double y2), (8, .double x3), (10, .double y3)]) hx hb dX4_orientationIndex_2_59 hl (by decide) rfl (fun ls hl => ?_)
    refine lv_dload hx hb dX4_orientationIndex_2_61 (lv_at hl 9 rfl) ?_
    have hS0 := hS.1
    refine va_callr (va_runS (As := [.double y3]) (rest := []) ⟨hx, hb, hml, hown, hts⟩ (m_DD_valueOf l D tys _ y3) (va_cwS 1 hts (lw_S q96 q97 q10 q98) rfl rfl rfl (by decide +kernel) ⟨Nat.le_of_ble_eq_true rfl, Nat.le_of_ble_eq_true rfl⟩) (gS rfl trivial hK) rfl rfl hl.1 rfl (lv_room (Nat.le_of_ble_eq_true rfl)) dX4_orientationIndex_2_63 ⟨Nat.le_of_ble_eq_true rfl, Nat.le_of_ble_eq_true rfl⟩) hS (fun q h1 h2 => absurd h2 (Nat.not_le.mpr h1)) (fun q h => hA q (Nat.le_trans hS.1 h)) (fun u4 q4 t H4a locs ht hvm hw4 hB hz hk hS => ?_)
    obtain ⟨hq4, hB⟩ := hB
    rw [ht] at hB
    have hn14 : q1 ≠ q4 := Nat.ne_of_lt (Nat.lt_of_lt_of_le hP1.lt hq4)
    have hn24 : q2 ≠ q4 := Nat.ne_of_lt (Nat.lt_of_lt_of_le hP2.lt hq4)
    have hn34 : q3 ≠ q4 := Nat.ne_of_lt (Nat.lt_of_lt_of_le hP3.lt hq4)
    have hP1 := hP1.keep0 hk
    have hP2 := hP2.keep0 hk
    have hP3 := hP3.keep0 hk
    have hAq4 : A q4 := hA q4 (Nat.le_trans hS0 hq4)
    refine lv_dload hx hb dX4_orientationIndex_2_66 (lv_at hl 7 rfl) ?_
    obtain ⟨v4, ev4, hv4⟩ : ∃ v, FP.dneg y2 = v ∧ DI (-by') v := ⟨_, rfl, neg_di h4 (by omega)⟩
    refine fx_dneg hx hb dX4_orientationIndex_2_68 ev4 ?_
    refine va_callr (va_runV (As := [.double v4]) (rest := []) ⟨hx, hb, hml, hown, hts⟩ (m_DD_selfAdd l D tys q4 _ y3 FP.dconst0 v4 cy (-by') h6 di_zero hv4 b6.abs50 b4.neg50) (cwV 1 hts (lw_V q116 q117 q118 q10 q119) rfl rfl rfl (by decide +kernel) ⟨Nat.le_of_ble_eq_true rfl, Nat.le_of_ble_eq_true rfl⟩) (gV (va_recv hK.1 hB (ci := 2) (q0 := 0) rfl rfl) rfl hB hK) rfl rfl hl.1 rfl (lv_room (Nat.le_of_ble_eq_true rfl)) dX4_orientationIndex_2_69 ⟨Nat.le_of_ble_eq_true rfl, Nat.le_of_ble_eq_true rfl⟩) hS (fun q h1 h2 => h2.elim (fun e => e ▸ hAq4) (fun h => absurd h (Nat.not_le.mpr h1))) (fun q h => h.elim (fun e => e ▸ hAq4) (fun h => hA q (Nat.le_trans hS.1 h))) (fun u4 ra t H4b locs ht hvm hw4 hB hz hk hS => ?_)
    obtain ⟨hra, hP4⟩ := hB
    rw [ht] at hP4
    rw [hra]
    have hP1 := hP1.keep1 hk hn14
    have hP2 := hP2.keep1 hk hn24
    have hP3 := hP3.keep1 hk hn34
    refine lv_astore (lv' := [(16, .ref q4), (15, .ref q3), (14, .ref q2), (13, .ref q1), (12, .int r), (0, .double x1), (2, .double y1), (4, .double x2), (6, .double y2), (8, .double x3), (10, .double y3)]) hx hb dX4_orientationIndex_2_72 hl (by decide) rfl (fun ls hl => ?_)
    refine lv_aload hx hb dX4_orientationIndex_2_74 (lv_at hl 3 rfl) ?_
    refine lv_aload hx hb dX4_orientationIndex_2_76 (lv_at hl 0 rfl) ?_
    refine va_callr (va_runV (As := [.ref q4]) (rest := []) ⟨hx, hb, hml, hown, hts⟩ (m_DD_selfMul l D tys q1 q4 _ u1.1 u1.2 u4.1 u4.2 (bx + -ax) (cy + -by') hw1.1 hw1.2 hw4.1 hw4.2 (b3.d1 b1) (b3.d2 b1) (b6.d1 b4) (b6.d2 b4)) (cwV 1 hts (lw_V q120 q121 q122 q10 q123) rfl rfl rfl (by decide +kernel) ⟨Nat.le_of_ble_eq_true rfl, Nat.le_of_ble_eq_true rfl⟩) (gV (va_recv hK.1 hP1 (ci := 2) (q0 := 0) rfl rfl) rfl ⟨hP1, hP4⟩ hK) rfl rfl hl.1 rfl (lv_room (Nat.le_of_ble_eq_true rfl)) dX4_orientationIndex_2_78 ⟨Nat.le_of_ble_eq_true rfl, Nat.le_of_ble_eq_true rfl⟩) hS (fun q h1 h2 => h2.elim (fun e => e ▸ hAq1) (fun h => absurd h (Nat.not_le.mpr h1))) (fun q h => h.elim (fun e => e ▸ hAq1) (fun h => hA q (Nat.le_trans hS.1 h))) (fun u5 ra t H5 locs ht hvm hw5 hB hz hk hS => ?_)
    obtain ⟨hra, hP1⟩ := hB
    rw [ht] at hP1
    rw [hra]
    have hP2 := hP2.keep1 hk hn12.symm
    have hP3 := hP3.keep1 hk hn13.symm
    refine lv_aload hx hb dX4_orientationIndex_2_81 (lv_at hl 2 rfl) ?_
    refine lv_aload hx hb dX4_orientationIndex_2_83 (lv_at hl 1 rfl) ?_
    refine va_callr (va_runV (As := [.ref q3]) (rest := [.ref q1]) ⟨hx, hb, hml, hown, hts⟩ (m_DD_selfMul l D tys q2 q3 _ u2.1 u2.2 u3.1 u3.2 (by' + -ay) (cx + -bx) hw2.1 hw2.2 hw3.1 hw3.2 (b4.d1 b2) (b4.d2 b2) (b5.d1 b3) (b5.d2 b3)) (cwV 1 hts (lw_V q120 q121 q122 q10 q123) rfl rfl rfl (by decide +kernel) ⟨Nat.le_of_ble_eq_true rfl, Nat.le_of_ble_eq_true rfl⟩) (gV (va_recv hK.1 hP2 (ci := 2) (q0 := 0) rfl rfl) rfl ⟨hP2, hP3⟩ hK) rfl rfl hl.1 rfl (lv_room (Nat.le_of_ble_eq_true rfl)) dX4_orientationIndex_2_85 ⟨Nat.le_of_ble_eq_true rfl, Nat.le_of_ble_eq_true rfl⟩) hS (fun q h1 h2 => h2.elim (fun e => e ▸ hAq2) (fun h => absurd h (Nat.not_le.mpr h1))) (fun q h => h.elim (fun e => e ▸ hAq2) (fun h => hA q (Nat.le_trans hS.1 h))) (fun u6 ra t H6 locs ht hvm hw6 hB hz hk hS => ?_)
    obtain ⟨hra, hP2⟩ := hB
    rw [ht] at hP2
    rw [hra]
    have hP1 := hP1.keep1 hk hn12
    have hcd := cross_dd ax ay bx by' cx cy
    obtain ⟨P, eP⟩ : ∃ P : Int, (bx + -ax) * (cy + -by') = P := ⟨_, rfl⟩
    obtain ⟨Q, eQ⟩ : ∃ Q : Int, (by' + -ay) * (cx + -bx) = Q := ⟨_, rfl⟩
    have hPb : P.natAbs < 2 ^ 61 := by rw [← eP]; exact prod_bd (b3.d3 b1) (b6.d3 b4)
    have hQb : Q.natAbs < 2 ^ 61 := by rw [← eQ]; exact prod_bd (b4.d3 b2) (b5.d3 b3)
    rw [eP, eQ] at hcd
    rw [eP] at hw5
    rw [eQ] at hw6
    rw [← hcd] at hsm ⊢
    obtain ⟨n1, n2, n3, n4, n5⟩ := near_ok hPb hQb hsm
    refine va_callr (va_runV (As := [.ref q2]) (rest := []) ⟨hx, hb, hml, hown, hts⟩ (m_DD_selfSub l D tys q1 q2 _ u5.1 u5.2 u6.1 u6.2 (rd P) (P - rd P) (rd Q) (Q - rd Q) hw5.1 hw5.2 hw6.1 hw6.2 (rd_rd P) (rd_rd Q) n1 n2 n3 n4 n5) (cwV 1 hts (lw_V q129 q130 q131 q10 q132) rfl rfl rfl (by decide +kernel) ⟨Nat.le_of_ble_eq_true rfl, Nat.le_of_ble_eq_true rfl⟩) (gV (va_recv hK.1 hP1 (ci := 2) (q0 := 0) rfl rfl) rfl ⟨hP1, hP2⟩ hK) rfl rfl hl.1 rfl (lv_room (Nat.le_of_ble_eq_true rfl)) dX4_orientationIndex_2_88 ⟨Nat.le_of_ble_eq_true rfl, Nat.le_of_ble_eq_true rfl⟩) hS (fun q h1 h2 => h2.elim (fun e => e ▸ hAq1) (fun h => absurd h (Nat.not_le.mpr h1))) (fun q h => h.elim (fun e => e ▸ hAq1) (fun h => hA q (Nat.le_trans hS.1 h))) (fun u7 ra t H7 locs ht hvm hw7 hB hz hk hS => ?_)
    obtain ⟨hra, hP1⟩ := hB
    rw [ht] at hP1
    rw [hra]
    have hd7 : DI (P - Q) u7.1 := by
      have := hw7.1
      rw [fourth_eq] at this
      exact this
    refine va_calli (va_runV (As := []) (rest := []) ⟨hx, hb, hml, hown, hts⟩ (m_DD_signum l D tys q1 _ u7.1 u7.2 (P - Q) hd7 hw7.2) (cwV 0 hts (lw_V q144 q145 q146 q10 q147) rfl rfl rfl (by decide +kernel) ⟨Nat.le_of_ble_eq_true rfl, Nat.le_of_ble_eq_true rfl⟩) (gV (va_recv hK.1 hP1 (ci := 2) (q0 := 0) rfl rfl) rfl hP1 hK) rfl rfl hl.1 rfl (lv_room (Nat.le_of_ble_eq_true rfl)) dX4_orientationIndex_2_91 ⟨Nat.le_of_ble_eq_true rfl, Nat.le_of_ble_eq_true rfl⟩) hS (fun q h1 h2 => absurd h2 (Nat.not_le.mpr h1)) (fun q h => hA q (Nat.le_trans hS.1 h)) (fun r8 u8 t H8 locs ht hvm hw8 hB hz hk hS => ?_)
    exact W.iret (v := r8) hx hb hr (fun t ht hW => ⟨⟨r8, (), rfl, hw8, trivial⟩, hS.F ht⟩) hS.2.2 dX4_orientationIndex_2_94
  · refine lv_iload hx hb dX4_orientationIndex_2_21 (lv_at hl 0 rfl) ?_
    have hr1 : r = sgI (crossI ax ay bx by' cx cy) := by
      rcases hw with g | ⟨g, -⟩
      · exact g
      · exact absurd (by rw [g]; decide) c1
    refine W.widen (k := 4) (n := 8) (Nat.le_of_ble_eq_true rfl) (Nat.le_of_ble_eq_true rfl) ?_
    exact W.iret (v := r) hx hb hr (fun t ht hW => ⟨⟨r, (), rfl, hr1, trivial⟩, hS.F ht⟩) hS.2.2 dX4_orientationIndex_2_23
set_option maxHeartbeats 4000000 in
set_option maxRecDepth 100000 in
/-- the turn of three coordinates -/
theorem m_CG_orient3 (l : Launch) (D : va_G) (tys : List (ClassId × FieldType)) (a1 a2 a3 sz : Nat) (x1 y1 x2 y2 x3 y3 : Int64) (b1 : Bd x1) (b2 : Bd y1) (b3 : Bd x2) (b4 : Bd y2) (b5 : Bd x3) (b6 : Bd y3) : Met l yX4_orientationIndex (ws_ yX4_orientationIndex cX4_orientationIndex 3 (some .int)) ({ frames := 4, cells := 4, slots := 8, locals := 101 }) (gPc D tys [.ref a1, .ref a2, .ref a3] sz (fun H => C1 D a1 (Co x1 y1) H ∧ C1 D a2 (Co x2 y2) H ∧ C1 D a3 (Co x3 y3) H)) (va_Qi (fun (r : Int32) (_ : Unit) => r = sgI (C64 x1 y1 x2 y2 x3 y3)) (fun _ _ => True) (Fr0 sz)) 4 8 (Fr0 sz) := by
  refine Met.ofW (cc := cX4_orientationIndex) (maxL := 3) (ret := (some .int)) (by decide) rfl ?_
  intro p e s m args below meth c s₁ B hml hv
  obtain ⟨rfl, hsz, ⟨hP1, hP2, hP3⟩, hK⟩ := hv
  have hx := B.exec
  have hb := B.bytes
  have hr := B.returns
  have hts := atoms_spec (ws := ws_ yX4_orientationIndex cX4_orientationIndex 3 (some .int)) B.pre
  have hts : ∀ w ∈ lw_all, w.before _ s = true := fun w h => hts w (List.mem_cons_of_mem _ h)
  have hown : s.vm.findClass RX4 = some m.cls := findClass_of_methodNamed B.named
  have hlocks := B.notSynchronized
  have hin : meth.name = yX4_orientationIndex.name := (name_of_methodNamed B.named B.method).1
  subst hsz
  obtain ⟨A, hAe⟩ : ∃ A, A = Fr0 s.heap.size := ⟨_, rfl⟩
  rw [← hAe]
  have hA : ∀ q : Nat, s.heap.size ≤ q → A q := fun q h => by rw [hAe]; exact h
  have hS : va_S A s.heap s.heap [] := va_S.rf
  have hl := lv_entry ([.ref a1, .ref a2, .ref a3]) (n := 3) (Nat.le_of_ble_eq_true rfl)
  rw [lg_entry_eq]
  generalize (lg_sl ([.ref a1, .ref a2, .ref a3]) ++ List.replicate (3 - (lg_sl ([.ref a1, .ref a2, .ref a3])).length) Slot.unset).toArray = ls at hl ⊢
  have hl : lv_has ls 3 [(0, .ref a1), (1, .ref a2), (2, .ref a3)] := hl
  refine lv_aload_n hx hb dX4_orientationIndex_0 rfl (lv_at hl 0 rfl) ?_
  refine va_get (D := D) (ci := 1) (v := .double (FP.l2d x1)) (C := RX2) (T := TX2) (N := 3) hx hb hts in_X2 hown hK.1 hP1 0 rfl rfl 0 (by decide) (hts _ q46) (fun _ h9 => h9) rfl dX4_orientationIndex_1 ?_
  refine lv_aload_n hx hb dX4_orientationIndex_4 rfl (lv_at hl 0 rfl) ?_
  refine va_get (D := D) (ci := 1) (v := .double (FP.l2d y1)) (C := RX2) (T := TX2) (N := 3) hx hb hts in_X2 hown hK.1 hP1 0 rfl rfl 1 (by decide) (hts _ q50) (fun _ h9 => h9) rfl dX4_orientationIndex_5 ?_
  refine lv_aload_n hx hb dX4_orientationIndex_8 rfl (lv_at hl 1 rfl) ?_
  refine va_get (D := D) (ci := 1) (v := .double (FP.l2d x2)) (C := RX2) (T := TX2) (N := 3) hx hb hts in_X2 hown hK.1 hP2 0 rfl rfl 0 (by decide) (hts _ q46) (fun _ h9 => h9) rfl dX4_orientationIndex_9 ?_
  refine lv_aload_n hx hb dX4_orientationIndex_12 rfl (lv_at hl 1 rfl) ?_
  refine va_get (D := D) (ci := 1) (v := .double (FP.l2d y2)) (C := RX2) (T := TX2) (N := 3) hx hb hts in_X2 hown hK.1 hP2 0 rfl rfl 1 (by decide) (hts _ q50) (fun _ h9 => h9) rfl dX4_orientationIndex_13 ?_
  refine lv_aload_n hx hb dX4_orientationIndex_16 rfl (lv_at hl 2 rfl) ?_
  refine va_get (D := D) (ci := 1) (v := .double (FP.l2d x3)) (C := RX2) (T := TX2) (N := 3) hx hb hts in_X2 hown hK.1 hP3 0 rfl rfl 0 (by decide) (hts _ q46) (fun _ h9 => h9) rfl dX4_orientationIndex_17 ?_
  refine lv_aload_n hx hb dX4_orientationIndex_20 rfl (lv_at hl 2 rfl) ?_
  refine va_get (D := D) (ci := 1) (v := .double (FP.l2d y3)) (C := RX2) (T := TX2) (N := 3) hx hb hts in_X2 hown hK.1 hP3 0 rfl rfl 1 (by decide) (hts _ q50) (fun _ h9 => h9) rfl dX4_orientationIndex_21 ?_
  refine va_calli (va_runS (As := [.double (FP.l2d x1), .double (FP.l2d y1), .double (FP.l2d x2), .double (FP.l2d y2), .double (FP.l2d x3), .double (FP.l2d y3)]) (rest := []) ⟨hx, hb, hml, hown, hts⟩ (m_CG_orient6 l D tys _ (FP.l2d x1) (FP.l2d y1) (FP.l2d x2) (FP.l2d y2) (FP.l2d x3) (FP.l2d y3) x1.toInt y1.toInt x2.toInt y2.toInt x3.toInt y3.toInt (l2d_di (B29.abs53 b1)) (l2d_di (B29.abs53 b2)) (l2d_di (B29.abs53 b3)) (l2d_di (B29.abs53 b4)) (l2d_di (B29.abs53 b5)) (l2d_di (B29.abs53 b6)) b1 b2 b3 b4 b5 b6) (va_cwS 6 hts (lw_S q86 q87 q9 q88) rfl rfl rfl (by decide +kernel) ⟨Nat.le_of_ble_eq_true rfl, Nat.le_of_ble_eq_true rfl⟩) (gS rfl trivial hK) rfl rfl hl.1 rfl (lv_room (Nat.le_of_ble_eq_true rfl)) dX4_orientationIndex_24 ⟨Nat.le_of_ble_eq_true rfl, Nat.le_of_ble_eq_true rfl⟩) hS (fun q h1 h2 => absurd h2 (Nat.not_le.mpr h1)) (fun q h => hA q (Nat.le_trans hS.1 h)) (fun r u t H1 locs ht hvm hw hB hz hk hS => ?_)
  exact W.iret (v := r) hx hb hr (fun t ht hW => ⟨⟨r, (), rfl, hw, trivial⟩, hS.F ht⟩) hS.2.2 dX4_orientationIndex_27
set_option maxHeartbeats 4000000 in
set_option maxRecDepth 100000 in
/-- Orientation.index -/
theorem m_Or_index (l : Launch) (D : va_G) (tys : List (ClassId × FieldType)) (a1 a2 a3 sz : Nat) (x1 y1 x2 y2 x3 y3 : Int64) (b1 : Bd x1) (b2 : Bd y1) (b3 : Bd x2) (b4 : Bd y2) (b5 : Bd x3) (b6 : Bd y3) : Met l yX3_index (ws_ yX3_index cX3_index 3 (some .int)) ({ frames := 5, cells := 4, slots := 8, locals := 123 }) (gPc D tys [.ref a1, .ref a2, .ref a3] sz (fun H => C1 D a1 (Co x1 y1) H ∧ C1 D a2 (Co x2 y2) H ∧ C1 D a3 (Co x3 y3) H)) (va_Qi (fun (r : Int32) (_ : Unit) => r = sgI (C64 x1 y1 x2 y2 x3 y3)) (fun _ _ => True) (Fr0 sz)) 4 8 (Fr0 sz) := by
  refine Met.ofW (cc := cX3_index) (maxL := 3) (ret := (some .int)) (by decide) rfl ?_
  intro p e s m args below meth c s₁ B hml hv
  obtain ⟨rfl, hsz, ⟨hP1, hP2, hP3⟩, hK⟩ := hv
  have hx := B.exec
  have hb := B.bytes
  have hr := B.returns
  have hts := atoms_spec (ws := ws_ yX3_index cX3_index 3 (some .int)) B.pre
  have hts : ∀ w ∈ lw_all, w.before _ s = true := fun w h => hts w (List.mem_cons_of_mem _ h)
  have hown : s.vm.findClass RX3 = some m.cls := findClass_of_methodNamed B.named
  have hlocks := B.notSynchronized
  have hin : meth.name = yX3_index.name := (name_of_methodNamed B.named B.method).1
  subst hsz
  obtain ⟨A, hAe⟩ : ∃ A, A = Fr0 s.heap.size := ⟨_, rfl⟩
  rw [← hAe]
  have hA : ∀ q : Nat, s.heap.size ≤ q → A q := fun q h => by rw [hAe]; exact h
  have hS : va_S A s.heap s.heap [] := va_S.rf
  have hl := lv_entry ([.ref a1, .ref a2, .ref a3]) (n := 3) (Nat.le_of_ble_eq_true rfl)
  rw [lg_entry_eq]
  generalize (lg_sl ([.ref a1, .ref a2, .ref a3]) ++ List.replicate (3 - (lg_sl ([.ref a1, .ref a2, .ref a3])).length) Slot.unset).toArray = ls at hl ⊢
  have hl : lv_has ls 3 [(0, .ref a1), (1, .ref a2), (2, .ref a3)] := hl
  refine lv_aload_n hx hb dX3_index_0 rfl (lv_at hl 0 rfl) ?_
  refine lv_aload_n hx hb dX3_index_1 rfl (lv_at hl 1 rfl) ?_
  refine lv_aload_n hx hb dX3_index_2 rfl (lv_at hl 2 rfl) ?_
  refine va_calli (va_runS (As := [.ref a1, .ref a2, .ref a3]) (rest := []) ⟨hx, hb, hml, hown, hts⟩ (m_CG_orient3 l D tys a1 a2 a3 _ x1 y1 x2 y2 x3 y3 b1 b2 b3 b4 b5 b6) (va_cwS 3 hts (lw_S q83 q84 q9 q85) rfl rfl rfl (by decide +kernel) ⟨Nat.le_of_ble_eq_true rfl, Nat.le_of_ble_eq_true rfl⟩) (gS rfl ⟨hP1, hP2, hP3⟩ hK) rfl rfl hl.1 rfl (lv_room (Nat.le_of_ble_eq_true rfl)) dX3_index_3 ⟨Nat.le_of_ble_eq_true rfl, Nat.le_of_ble_eq_true rfl⟩) hS (fun q h1 h2 => absurd h2 (Nat.not_le.mpr h1)) (fun q h => hA q (Nat.le_trans hS.1 h)) (fun r u t H1 locs ht hvm hw hB hz hk hS => ?_)
  exact W.iret (v := r) hx hb hr (fun t ht hW => ⟨⟨r, (), rfl, hw, trivial⟩, hS.F ht⟩) hS.2.2 dX3_index_6
end
section
/-! WALKS of RayCrossingCounter: printed by wip/D-29928w/ray.py -/
section CUT
variable {p : Program} {l : Launch} {e : Env} {R : Room} {s : State} {m : MethodId} {args : Array Value} {below : List Frame} {meth : Method} {c : Code} {H : Heap} {locs : List Loc} {cells slots : Nat} {Q : State → Prop}
/-- a place in the code that several ways come to -/
theorem cut {F : Prop} {pc : Nat} {ls : Array Slot} {st : List Value} {g : JFrame} (t : F → W p l e R s m args below meth c H locs cells slots Q (F0 m pc ls st)) (k : (F → W p l e R s m args below meth c H locs cells slots Q (F0 m pc ls st)) → W p l e R s m args below meth c H locs cells slots Q g) : W p l e R s m args below meth c H locs cells slots Q g := k t
end CUT
theorem C1.keepS {D : va_G} {a : Nat} {e : va_E} {H0 H : Heap} {A : Nat → Prop} {locs : List Loc} (h : C1 D a e H0) (hA : A = Fr0 H0.size) (hS : va_S A H0 H locs) : C1 D a e H := C1.of (h.at.kept (hS.2.1 a h.lt (by rw [hA]; exact Nat.not_le.mpr h.lt)))
theorem Bd.di {x : Int64} (h : Bd x) : DI x.toInt (FP.l2d x) := l2d_di (B29.abs53 h)
theorem sgI_0 {d : Int} : sgI d = 0 ↔ d = 0 := by
  unfold sgI
  rcases Int.lt_trichotomy d 0 with h | h | h
  · rw [if_neg (by omega), if_pos h]; exact ⟨fun q => absurd q (by decide), fun q => by omega⟩
  · rw [if_neg (by omega), if_neg (by omega)]; exact ⟨fun _ => h, fun _ => rfl⟩
  · rw [if_pos h]; exact ⟨fun q => absurd q (by decide), fun q => by omega⟩
theorem sgI_1 {d : Int} : sgI d = 1 ↔ 0 < d := by
  unfold sgI
  rcases Int.lt_trichotomy d 0 with h | h | h
  · rw [if_neg (by omega), if_pos h]; exact ⟨fun q => absurd q (by decide), fun q => by omega⟩
  · rw [if_neg (by omega), if_neg (by omega)]; exact ⟨fun q => absurd q (by decide), fun q => by omega⟩
  · rw [if_pos h]; exact ⟨fun _ => h, fun _ => rfl⟩
theorem sgI_m {d : Int} : -sgI d = 1 ↔ d < 0 := by
  unfold sgI
  rcases Int.lt_trichotomy d 0 with h | h | h
  · rw [if_neg (by omega), if_pos h]; exact ⟨fun _ => h, fun _ => by decide⟩
  · rw [if_neg (by omega), if_neg (by omega)]; exact ⟨fun q => absurd q (by decide), fun q => by omega⟩
  · rw [if_pos h]; exact ⟨fun q => absurd q (by decide), fun q => by omega⟩
/-- what one segment does to the counter: 1 the point lies on it, 2 it is crossed, 0 neither -/
def segR (x1 y1 x2 y2 px py : Int) : Nat :=
  if x1 < px ∧ x2 < px then 0
  else if px = x2 ∧ py = y2 then 1
  else if y1 = py ∧ y2 = py then (if (x1 ≤ px ∧ px ≤ x2) ∨ (x2 ≤ px ∧ px ≤ x1) then 1 else 0)
  else if (py < y1 ∧ y2 ≤ py) ∨ (py < y2 ∧ y1 ≤ py) then
    (if crossI x1 y1 x2 y2 px py = 0 then 1 else if y2 < y1 then (if crossI x1 y1 x2 y2 px py < 0 then 2 else 0) else (if 0 < crossI x1 y1 x2 y2 px py then 2 else 0))
  else 0
abbrev seg64 (x1 y1 x2 y2 px py : Int64) : Nat := segR x1.toInt y1.toInt x2.toInt y2.toInt px.toInt py.toInt
abbrev Ry (ap : Nat) (cnt fl : Int32) : va_E := .inr (3, [.ref ap, .int cnt, .int fl])
set_option maxHeartbeats 4000000 in
set_option maxRecDepth 100000 in
/-- new RayCrossingCounter(p) -/
theorem m_Ray_init (l : Launch) (D : va_G) (tys : List (ClassId × FieldType)) (h0 ap sz : Nat) : Met l yX6_init (ws_ yX6_init cX6_init 2 none) ({ frames := 1, cells := 0, slots := 0, locals := 12 }) (gPc D tys [.ref h0, .ref ap] sz (fun H => C1 D h0 (.inr (3, [.null, .int 0, .int 0])) H)) (va_Qv (fun _ : Unit => True) (fun _ t => C1 D h0 (Ry ap 0 0) t.heap) (Fr1 h0 sz)) 0 0 (Fr1 h0 sz) := by
  refine Met.ofW (cc := cX6_init) (maxL := 2) (ret := none) (by decide) rfl ?_
  intro p e s m args below meth c s₁ B hml hv
  obtain ⟨rfl, hsz, hP, hK⟩ := hv
  have hx := B.exec
  have hb := B.bytes
  have hr := B.returns
  have hts := atoms_spec (ws := ws_ yX6_init cX6_init 2 none) B.pre
  have hts : ∀ w ∈ lw_all, w.before _ s = true := fun w h => hts w (List.mem_cons_of_mem _ h)
  have hown : s.vm.findClass RX6 = some m.cls := findClass_of_methodNamed B.named
  have hlocks := B.notSynchronized
  have hin : meth.name = yX6_init.name := (name_of_methodNamed B.named B.method).1
  subst hsz
  obtain ⟨A, hAe⟩ : ∃ A, A = Fr1 h0 s.heap.size := ⟨_, rfl⟩
  rw [← hAe]
  have hA : ∀ q : Nat, s.heap.size ≤ q → A q := fun q h => by rw [hAe]; exact Or.inr h
  have hS : va_S A s.heap s.heap [] := va_S.rf
  have hl := lv_entry ([.ref h0, .ref ap]) (n := 2) (Nat.le_of_ble_eq_true rfl)
  rw [lg_entry_eq]
  generalize (lg_sl ([.ref h0, .ref ap]) ++ List.replicate (2 - (lg_sl ([.ref h0, .ref ap])).length) Slot.unset).toArray = ls at hl ⊢
  have hAa : A h0 := by rw [hAe]; exact Or.inl rfl
  have hl : lv_has ls 2 [(0, .ref h0), (1, .ref ap)] := hl
  have hD : va_D A [(h0, .inr (3, [.null, .int 0, .int 0]))] := va_D1 hAa
  refine lv_aload_n hx hb dX6_init_0 rfl (lv_at hl 0 rfl) ?_
  refine W.objInit hx hb hown (hts _ q164) (hts _ q19) (hts _ q20) rfl (by rw [hml]; exact hl.1) rfl dX6_init_1 (Nat.le_of_ble_eq_true rfl) (Nat.le_of_ble_eq_true rfl) ?_
  refine W.eq (g2 := F0 m 4 ls []) rfl ?_
  refine lv_aload_n hx hb dX6_init_4 rfl (lv_at hl 0 rfl) ?_
  refine lv_iconst (v := 0) hx hb dX6_init_5 (by decide) ?_
  refine va_put (D := D) (ci := 3) (v := .int 0) (ty := .int) (C := RX6) (T := TX6) (N := 3) hx hb hts in_X6 tyX6 tyX6_ok nmX6 hown hK.1 hP hD hS 0 rfl rfl 1 (by decide) (hts _ q166) (fun _ h9 => h9) rfl (by decide +kernel) rfl rfl (Nat.le_of_ble_eq_true rfl) dX6_init_6 (fun H locs hP hD hS => ?_)
  have hP : va_P D vwCl [(h0, .inr (3, [.null, .int 0, .int 0]))] H := hP
  have hD : va_D A [(h0, .inr (3, [.null, .int 0, .int 0]))] := hD
  refine lv_aload_n hx hb dX6_init_9 rfl (lv_at hl 0 rfl) ?_
  refine lv_iconst (v := 0) hx hb dX6_init_10 (by decide) ?_
  refine va_put (D := D) (ci := 3) (v := .int 0) (ty := .boolean) (C := RX6) (T := TX6) (N := 3) hx hb hts in_X6 tyX6 tyX6_ok nmX6 hown hK.1 hP hD hS 0 rfl rfl 2 (by decide) (hts _ q167) (fun _ h9 => h9) rfl (by decide +kernel) rfl rfl (Nat.le_of_ble_eq_true rfl) dX6_init_11 (fun H locs hP hD hS => ?_)
  have hP : va_P D vwCl [(h0, .inr (3, [.null, .int 0, .int 0]))] H := hP
  have hD : va_D A [(h0, .inr (3, [.null, .int 0, .int 0]))] := hD
  refine lv_aload_n hx hb dX6_init_14 rfl (lv_at hl 0 rfl) ?_
  refine lv_aload_n hx hb dX6_init_15 rfl (lv_at hl 1 rfl) ?_
  refine va_put (D := D) (ci := 3) (v := .ref ap) (ty := (.object "Coordinate")) (C := RX6) (T := TX6) (N := 3) hx hb hts in_X6 tyX6 tyX6_ok nmX6 hown hK.1 hP hD hS 0 rfl rfl 0 (by decide) (hts _ q165) (fun _ h9 => h9) rfl (by decide +kernel) rfl rfl (Nat.le_of_ble_eq_true rfl) dX6_init_16 (fun H locs hP hD hS => ?_)
  have hP : va_P D vwCl [(h0, .inr (3, [.ref ap, .int 0, .int 0]))] H := hP
  have hD : va_D A [(h0, .inr (3, [.ref ap, .int 0, .int 0]))] := hD
  exact W.vret hx hb hr (fun t ht hW => ⟨⟨(), rfl, trivial, by show C1 D h0 _ t.heap; rw [ht]; exact hP⟩, hS.F ht⟩) hS.2.2 dX6_init_19
set_option maxHeartbeats 4000000 in
set_option maxRecDepth 100000 in
/-- isOnSegment -/
theorem m_Ray_isOn (l : Launch) (D : va_G) (tys : List (ClassId × FieldType)) (h0 ap sz : Nat) (cn fl : Int32) (hfl : fl = 0 ∨ fl = 1) : Met l yX6_isOnSegment (ws_ yX6_isOnSegment cX6_isOnSegment 1 (some .boolean)) ({ frames := 0, cells := 0, slots := 0, locals := 0 }) (gPc D tys [.ref h0] sz (fun H => C1 D h0 (Ry ap cn fl) H)) (va_Qi (fun (r : Int32) (_ : Unit) => r = fl) (fun _ _ => True) (Fr0 sz)) 0 0 (Fr0 sz) := by
  refine Met.ofW (cc := cX6_isOnSegment) (maxL := 1) (ret := (some .boolean)) (by decide) rfl ?_
  intro p e s m args below meth c s₁ B hml hv
  obtain ⟨rfl, hsz, hP, hK⟩ := hv
  have hx := B.exec
  have hb := B.bytes
  have hr := B.returns
  have hts := atoms_spec (ws := ws_ yX6_isOnSegment cX6_isOnSegment 1 (some .boolean)) B.pre
  have hts : ∀ w ∈ lw_all, w.before _ s = true := fun w h => hts w (List.mem_cons_of_mem _ h)
  have hown : s.vm.findClass RX6 = some m.cls := findClass_of_methodNamed B.named
  have hlocks := B.notSynchronized
  have hin : meth.name = yX6_isOnSegment.name := (name_of_methodNamed B.named B.method).1
  subst hsz
  obtain ⟨A, hAe⟩ : ∃ A, A = Fr0 s.heap.size := ⟨_, rfl⟩
  rw [← hAe]
  have hA : ∀ q : Nat, s.heap.size ≤ q → A q := fun q h => by rw [hAe]; exact h
  have hS : va_S A s.heap s.heap [] := va_S.rf
  have hl := lv_entry ([.ref h0]) (n := 1) (Nat.le_of_ble_eq_true rfl)
  rw [lg_entry_eq]
  generalize (lg_sl ([.ref h0]) ++ List.replicate (1 - (lg_sl ([.ref h0])).length) Slot.unset).toArray = ls at hl ⊢
  have hl : lv_has ls 1 [(0, .ref h0)] := hl
  refine lv_aload_n hx hb dX6_isOnSegment_0 rfl (lv_at hl 0 rfl) ?_
  refine va_get (D := D) (ci := 3) (v := .int fl) (C := RX6) (T := TX6) (N := 3) hx hb hts in_X6 hown hK.1 hP 0 rfl rfl 2 (by decide) (hts _ q167) (fun _ h9 => h9) rfl dX6_isOnSegment_1 ?_
  exact W.zret (v := fl) hx hb hr (by rcases hfl with rfl | rfl <;> rfl) (fun t ht hW => ⟨⟨fl, (), rfl, rfl, trivial⟩, hS.F ht⟩) hS.2.2 dX6_isOnSegment_4
set_option maxHeartbeats 4000000 in
set_option maxRecDepth 100000 in
/-- getLocation -/
theorem m_Ray_loc (l : Launch) (D : va_G) (tys : List (ClassId × FieldType)) (h0 ap sz : Nat) (k : Nat) (fl : Int32) (hk : k < 2 ^ 31) : Met l yX6_getLocation (ws_ yX6_getLocation cX6_getLocation 1 (some .int)) ({ frames := 0, cells := 0, slots := 0, locals := 0 }) (gPc D tys [.ref h0] sz (fun H => C1 D h0 (Ry ap (nI k) fl) H)) (va_Qi (fun (r : Int32) (_ : Unit) => r = if fl = 0 then (if k % 2 = 1 then 0 else 2) else 1) (fun _ _ => True) (Fr0 sz)) 0 0 (Fr0 sz) := by
  refine Met.ofW (cc := cX6_getLocation) (maxL := 1) (ret := (some .int)) (by decide) rfl ?_
  intro p e s m args below meth c s₁ B hml hv
  obtain ⟨rfl, hsz, hP, hK⟩ := hv
  have hx := B.exec
  have hb := B.bytes
  have hr := B.returns
  have hts := atoms_spec (ws := ws_ yX6_getLocation cX6_getLocation 1 (some .int)) B.pre
  have hts : ∀ w ∈ lw_all, w.before _ s = true := fun w h => hts w (List.mem_cons_of_mem _ h)
  have hown : s.vm.findClass RX6 = some m.cls := findClass_of_methodNamed B.named
  have hlocks := B.notSynchronized
  have hin : meth.name = yX6_getLocation.name := (name_of_methodNamed B.named B.method).1
  subst hsz
  obtain ⟨A, hAe⟩ : ∃ A, A = Fr0 s.heap.size := ⟨_, rfl⟩
  rw [← hAe]
  have hA : ∀ q : Nat, s.heap.size ≤ q → A q := fun q h => by rw [hAe]; exact h
  have hS : va_S A s.heap s.heap [] := va_S.rf
  have hl := lv_entry ([.ref h0]) (n := 1) (Nat.le_of_ble_eq_true rfl)
  rw [lg_entry_eq]
  generalize (lg_sl ([.ref h0]) ++ List.replicate (1 - (lg_sl ([.ref h0])).length) Slot.unset).toArray = ls at hl ⊢
  have hl : lv_has ls 1 [(0, .ref h0)] := hl
  refine lv_aload_n hx hb dX6_getLocation_0 rfl (lv_at hl 0 rfl) ?_
  refine va_get (D := D) (ci := 3) (v := .int fl) (C := RX6) (T := TX6) (N := 3) hx hb hts in_X6 hown hK.1 hP 0 rfl rfl 2 (by decide) (hts _ q167) (fun _ h9 => h9) rfl dX6_getLocation_1 ?_
  refine lv_if_eq (tgt := 9) hx hb dX6_getLocation_4 (by decide) (fun c1 => ?_) (fun c1 => ?_)
  · refine lv_aload_n hx hb dX6_getLocation_9 rfl (lv_at hl 0 rfl) ?_
    refine va_get (D := D) (ci := 3) (v := .int (nI k)) (C := RX6) (T := TX6) (N := 3) hx hb hts in_X6 hown hK.1 hP 0 rfl rfl 1 (by decide) (hts _ q166) (fun _ h9 => h9) rfl dX6_getLocation_10 ?_
    refine lv_iconst (v := 2) hx hb dX6_getLocation_13 (by decide) ?_
    refine lv_irem hx hb dX6_getLocation_14 (by decide) ?_
    rw [show nI k - nI k / 2 * 2 = nI (k % 2) from pk_rem (d := 2) hk (by decide) (by decide)]
    refine lv_iconst (v := 1) hx hb dX6_getLocation_15 (by decide) ?_
    refine lv_icmp_ne (tgt := 21) hx hb dX6_getLocation_16 (by decide) (fun c2 => ?_) (fun c2 => ?_)
    · refine lv_iconst (v := 2) hx hb dX6_getLocation_21 (by decide) ?_
      exact W.iret (v := 2) hx hb hr (fun t ht hW => ⟨⟨2, (), rfl, by rw [if_pos c1, if_neg (fun h => c2 (by rw [h]; rfl))], trivial⟩, hS.F ht⟩) hS.2.2 dX6_getLocation_22
    · refine lv_iconst (v := 0) hx hb dX6_getLocation_19 (by decide) ?_
      have hk2 : k % 2 = 1 := by
        rcases (by omega : k % 2 = 0 ∨ k % 2 = 1) with h | h
        · rw [h] at c2; exact absurd c2 (by decide)
        · exact h
      exact W.iret (v := 0) hx hb hr (fun t ht hW => ⟨⟨0, (), rfl, by rw [if_pos c1, if_pos hk2], trivial⟩, hS.F ht⟩) hS.2.2 dX6_getLocation_20
  · refine lv_iconst (v := 1) hx hb dX6_getLocation_7 (by decide) ?_
    exact W.iret (v := 1) hx hb hr (fun t ht hW => ⟨⟨1, (), rfl, by rw [if_neg c1], trivial⟩, hS.F ht⟩) hS.2.2 dX6_getLocation_8
set_option maxHeartbeats 4000000 in
set_option maxRecDepth 100000 in
/-- countSegment, from a counter that has met no segment with the point on it -/
theorem m_Ray_seg (l : Launch) (D : va_G) (tys : List (ClassId × FieldType)) (h0 ap a1 a2 sz : Nat) (cn : Int32) (x1 y1 x2 y2 px py : Int64) (b1 : Bd x1) (b2 : Bd y1) (b3 : Bd x2) (b4 : Bd y2) (b5 : Bd px) (b6 : Bd py) : Met l yX6_countSegment (ws_ yX6_countSegment cX6_countSegment 7 none) ({ frames := 6, cells := 4, slots := 8, locals := 145 }) (gPc D tys [.ref h0, .ref a1, .ref a2] sz (fun H => C1 D h0 (Ry ap cn 0) H ∧ C1 D a1 (Co x1 y1) H ∧ C1 D a2 (Co x2 y2) H ∧ C1 D ap (Co px py) H)) (va_Qv (fun u : Int32 × Int32 => (u.1 = if seg64 x1 y1 x2 y2 px py = 2 then cn + 1 else cn) ∧ (u.2 = if seg64 x1 y1 x2 y2 px py = 1 then 1 else 0)) (fun u t => C1 D h0 (Ry ap u.1 u.2) t.heap) (Fr1 h0 sz)) 4 8 (Fr1 h0 sz) := by
  refine Met.ofW (cc := cX6_countSegment) (maxL := 7) (ret := none) (by decide) rfl ?_
  intro p e s m args below meth c s₁ B hml hv
  obtain ⟨rfl, hsz, ⟨hP, hP1, hP2, hPp⟩, hK⟩ := hv
  have hx := B.exec
  have hb := B.bytes
  have hr := B.returns
  have hts := atoms_spec (ws := ws_ yX6_countSegment cX6_countSegment 7 none) B.pre
  have hts : ∀ w ∈ lw_all, w.before _ s = true := fun w h => hts w (List.mem_cons_of_mem _ h)
  have hown : s.vm.findClass RX6 = some m.cls := findClass_of_methodNamed B.named
  have hlocks := B.notSynchronized
  have hin : meth.name = yX6_countSegment.name := (name_of_methodNamed B.named B.method).1
  subst hsz
  obtain ⟨A, hAe⟩ : ∃ A, A = Fr1 h0 s.heap.size := ⟨_, rfl⟩
  rw [← hAe]
  have hA : ∀ q : Nat, s.heap.size ≤ q → A q := fun q h => by rw [hAe]; exact Or.inr h
  have hS : va_S A s.heap s.heap [] := va_S.rf
  have hl := lv_entry ([.ref h0, .ref a1, .ref a2]) (n := 7) (Nat.le_of_ble_eq_true rfl)
  rw [lg_entry_eq]
  generalize (lg_sl ([.ref h0, .ref a1, .ref a2]) ++ List.replicate (7 - (lg_sl ([.ref h0, .ref a1, .ref a2])).length) Slot.unset).toArray = ls at hl ⊢
  have hAa : A h0 := by rw [hAe]; exact Or.inl rfl
  have hl : lv_has ls 7 [(0, .ref h0), (1, .ref a1), (2, .ref a2)] := hl
  have hD : va_D A [(h0, Ry ap cn 0)] := va_D1 hAa
  have dx1 := b1.di
  have dy1 := b2.di
  have dx2 := b3.di
  have dy2 := b4.di
  have dpx := b5.di
  have dpy := b6.di
  refine cut (F := ¬ (x1.toInt < px.toInt ∧ x2.toInt < px.toInt)) (pc := 31) (ls := ls) (st := []) (fun t31f => ?_) (fun t31 => ?_)
  · refine cut (F := ¬ (px.toInt = x2.toInt ∧ py.toInt = y2.toInt)) (pc := 67) (ls := ls) (st := []) (fun t67f => ?_) (fun t67 => ?_)
    · refine cut (F := ¬ (y1.toInt = py.toInt ∧ y2.toInt = py.toInt)) (pc := 157) (ls := ls) (st := []) (fun t157f => ?_) (fun t157 => ?_)
      · refine cut (F := (py.toInt < y1.toInt ∧ y2.toInt ≤ py.toInt) ∨ (py.toInt < y2.toInt ∧ y1.toInt ≤ py.toInt)) (pc := 217) (ls := ls) (st := []) (fun t217f => ?_) (fun t217 => ?_)
        · refine lv_aload_n hx hb dX6_countSegment_217 rfl (lv_at hl 1 rfl) ?_
          refine lv_aload_n hx hb dX6_countSegment_218 rfl (lv_at hl 2 rfl) ?_
          refine lv_aload_n hx hb dX6_countSegment_219 rfl (lv_at hl 0 rfl) ?_
          refine va_get (D := D) (ci := 3) (v := .ref ap) (C := RX6) (T := TX6) (N := 3) hx hb hts in_X6 hown hK.1 hP 0 rfl rfl 0 (by decide) (hts _ q165) (fun _ h9 => h9) rfl dX6_countSegment_220 ?_
          refine va_calli (va_runS (As := [.ref a1, .ref a2, .ref ap]) (rest := []) ⟨hx, hb, hml, hown, hts⟩ (m_Or_index l D tys a1 a2 ap _ x1 y1 x2 y2 px py b1 b2 b3 b4 b5 b6) (va_cwS 3 hts (lw_S q179 q81 q8 q82) rfl rfl rfl (by decide +kernel) ⟨Nat.le_of_ble_eq_true rfl, Nat.le_of_ble_eq_true rfl⟩) (gS rfl ⟨hP1, hP2, hPp⟩ hK) rfl rfl hl.1 rfl (lv_room (Nat.le_of_ble_eq_true rfl)) dX6_countSegment_223 ⟨Nat.le_of_ble_eq_true rfl, Nat.le_of_ble_eq_true rfl⟩) hS (fun q h1 h2 => absurd h2 (Nat.not_le.mpr h1)) (fun q h => hA q (Nat.le_trans hS.1 h)) (fun r u t H1 locs ht hvm hw hB hz hk hS => ?_)
          have hw : r = sgI (C64 x1 y1 x2 y2 px py) := hw
          have hP := hP.keep0 hk
          have hP1 := hP1.keep0 hk
          have hP2 := hP2.keep0 hk
          have hPp := hPp.keep0 hk
          refine lv_istore_n (lv' := [(3, .int r), (0, .ref h0), (1, .ref a1), (2, .ref a2)]) hx hb dX6_countSegment_226 rfl hl (by decide) rfl (fun ls hl => ?_)
          refine lv_iload_n hx hb dX6_countSegment_227 rfl (lv_at hl 0 rfl) ?_
          refine lv_if_ne (tgt := 237) hx hb dX6_countSegment_228 (by decide) (fun c9 => ?_) (fun c9 => ?_)
          · refine lv_aload_n hx hb dX6_countSegment_237 rfl (lv_at hl 3 rfl) ?_
            refine va_get (D := D) (ci := 1) (v := .double (FP.l2d y2)) (C := RX2) (T := TX2) (N := 3) hx hb hts in_X2 hown hK.1 hP2 0 rfl rfl 1 (by decide) (hts _ q52) (fun _ h9 => h9) rfl dX6_countSegment_238 ?_
            refine lv_aload_n hx hb dX6_countSegment_241 rfl (lv_at hl 2 rfl) ?_
            refine va_get (D := D) (ci := 1) (v := .double (FP.l2d y1)) (C := RX2) (T := TX2) (N := 3) hx hb hts in_X2 hown hK.1 hP1 0 rfl rfl 1 (by decide) (hts _ q52) (fun _ h9 => h9) rfl dX6_countSegment_242 ?_
            have hcn : ¬ C64 x1 y1 x2 y2 px py = 0 := fun h => c9 (by rw [hw]; exact sgI_0.mpr h)
            unfold C64 at hcn
            refine fx_ge (tgt := 252) hx hb (di_cmp dy2 dy1) dX6_countSegment_245 dX6_countSegment_246 (by decide) (fun c10 => ?_) (fun c10 => ?_)
            · refine lv_iload_n hx hb dX6_countSegment_252 rfl (lv_at hl 0 rfl) ?_
              refine lv_iconst (v := 1) hx hb dX6_countSegment_253 (by decide) ?_
              refine lv_icmp_ne (tgt := 267) hx hb dX6_countSegment_254 (by decide) (fun c11 => ?_) (fun c11 => ?_)
              · have hc1 : ¬ 0 < C64 x1 y1 x2 y2 px py := fun h => c11 (by rw [hw]; exact sgI_1.mpr h)
                unfold C64 at hc1
                have hsg : seg64 x1 y1 x2 y2 px py = 0 := by
                  unfold seg64 segR
                  repeat' split
                  all_goals omega
                exact W.vret hx hb hr (fun t ht hW => ⟨⟨(cn, 0), rfl, ⟨by rw [hsg]; rfl, by rw [hsg]; rfl⟩, by show C1 D h0 _ t.heap; rw [ht]; exact hP⟩, hS.F ht⟩) hS.2.2 dX6_countSegment_267
              · have hc1 := sgI_1.mp (hw ▸ c11)
                unfold C64 at hc1
                refine lv_aload_n hx hb dX6_countSegment_257 rfl (lv_at hl 1 rfl) ?_
                refine lv_dup hx hb dX6_countSegment_258 rfl ?_
                refine va_get (D := D) (ci := 3) (v := .int cn) (C := RX6) (T := TX6) (N := 3) hx hb hts in_X6 hown hK.1 hP 0 rfl rfl 1 (by decide) (hts _ q166) (fun _ h9 => h9) rfl dX6_countSegment_259 ?_
                refine lv_iconst (v := 1) hx hb dX6_countSegment_262 (by decide) ?_
                refine lv_iadd hx hb dX6_countSegment_263 ?_
                refine va_put (D := D) (ci := 3) (v := .int (cn + 1)) (ty := .int) (C := RX6) (T := TX6) (N := 3) hx hb hts in_X6 tyX6 tyX6_ok nmX6 hown hK.1 hP hD hS 0 rfl rfl 1 (by decide) (hts _ q166) (fun _ h9 => h9) rfl (by decide +kernel) rfl rfl (Nat.le_of_ble_eq_true rfl) dX6_countSegment_264 (fun H locs hP hD hS => ?_)
                have hP : va_P D vwCl [(h0, .inr (3, [.ref ap, .int (cn + 1), .int 0]))] H := hP
                have hD : va_D A [(h0, .inr (3, [.ref ap, .int (cn + 1), .int 0]))] := hD
                have hsg : seg64 x1 y1 x2 y2 px py = 2 := by
                  unfold seg64 segR
                  repeat' split
                  all_goals omega
                exact W.vret hx hb hr (fun t ht hW => ⟨⟨((cn + 1), 0), rfl, ⟨by rw [hsg]; rfl, by rw [hsg]; rfl⟩, by show C1 D h0 _ t.heap; rw [ht]; exact hP⟩, hS.F ht⟩) hS.2.2 dX6_countSegment_267
            · refine lv_iload_n hx hb dX6_countSegment_249 rfl (lv_at hl 0 rfl) ?_
              refine lv_ineg hx hb dX6_countSegment_250 ?_
              refine lv_istore_n (lv' := [(3, .int (-r)), (0, .ref h0), (1, .ref a1), (2, .ref a2)]) hx hb dX6_countSegment_251 rfl hl (by decide) rfl (fun ls hl => ?_)
              refine lv_iload_n hx hb dX6_countSegment_252 rfl (lv_at hl 0 rfl) ?_
              refine lv_iconst (v := 1) hx hb dX6_countSegment_253 (by decide) ?_
              refine lv_icmp_ne (tgt := 267) hx hb dX6_countSegment_254 (by decide) (fun c11 => ?_) (fun c11 => ?_)
              · have hc1 : ¬ C64 x1 y1 x2 y2 px py < 0 := fun h => c11 (by rw [hw]; exact sgI_m.mpr h)
                unfold C64 at hc1
                have hsg : seg64 x1 y1 x2 y2 px py = 0 := by
                  unfold seg64 segR
                  repeat' split
                  all_goals omega
                exact W.vret hx hb hr (fun t ht hW => ⟨⟨(cn, 0), rfl, ⟨by rw [hsg]; rfl, by rw [hsg]; rfl⟩, by show C1 D h0 _ t.heap; rw [ht]; exact hP⟩, hS.F ht⟩) hS.2.2 dX6_countSegment_267
              · have hc1 := sgI_m.mp (hw ▸ c11)
                unfold C64 at hc1
                refine lv_aload_n hx hb dX6_countSegment_257 rfl (lv_at hl 1 rfl) ?_
                refine lv_dup hx hb dX6_countSegment_258 rfl ?_
                refine va_get (D := D) (ci := 3) (v := .int cn) (C := RX6) (T := TX6) (N := 3) hx hb hts in_X6 hown hK.1 hP 0 rfl rfl 1 (by decide) (hts _ q166) (fun _ h9 => h9) rfl dX6_countSegment_259 ?_
                refine lv_iconst (v := 1) hx hb dX6_countSegment_262 (by decide) ?_
                refine lv_iadd hx hb dX6_countSegment_263 ?_
                refine va_put (D := D) (ci := 3) (v := .int (cn + 1)) (ty := .int) (C := RX6) (T := TX6) (N := 3) hx hb hts in_X6 tyX6 tyX6_ok nmX6 hown hK.1 hP hD hS 0 rfl rfl 1 (by decide) (hts _ q166) (fun _ h9 => h9) rfl (by decide +kernel) rfl rfl (Nat.le_of_ble_eq_true rfl) dX6_countSegment_264 (fun H locs hP hD hS => ?_)
                have hP : va_P D vwCl [(h0, .inr (3, [.ref ap, .int (cn + 1), .int 0]))] H := hP
                have hD : va_D A [(h0, .inr (3, [.ref ap, .int (cn + 1), .int 0]))] := hD
                have hsg : seg64 x1 y1 x2 y2 px py = 2 := by
                  unfold seg64 segR
                  repeat' split
                  all_goals omega
                exact W.vret hx hb hr (fun t ht hW => ⟨⟨((cn + 1), 0), rfl, ⟨by rw [hsg]; rfl, by rw [hsg]; rfl⟩, by show C1 D h0 _ t.heap; rw [ht]; exact hP⟩, hS.F ht⟩) hS.2.2 dX6_countSegment_267
          · refine lv_aload_n hx hb dX6_countSegment_231 rfl (lv_at hl 1 rfl) ?_
            refine lv_iconst (v := 1) hx hb dX6_countSegment_232 (by decide) ?_
            refine va_put (D := D) (ci := 3) (v := .int 1) (ty := .boolean) (C := RX6) (T := TX6) (N := 3) hx hb hts in_X6 tyX6 tyX6_ok nmX6 hown hK.1 hP hD hS 0 rfl rfl 2 (by decide) (hts _ q167) (fun _ h9 => h9) rfl (by decide +kernel) rfl rfl (Nat.le_of_ble_eq_true rfl) dX6_countSegment_233 (fun H locs hP hD hS => ?_)
            have hP : va_P D vwCl [(h0, .inr (3, [.ref ap, .int cn, .int 1]))] H := hP
            have hD : va_D A [(h0, .inr (3, [.ref ap, .int cn, .int 1]))] := hD
            have hc0 : C64 x1 y1 x2 y2 px py = 0 := sgI_0.mp (by rw [← hw]; exact c9)
            unfold C64 at hc0
            have hsg : seg64 x1 y1 x2 y2 px py = 1 := by
              unfold seg64 segR
              repeat' split
              all_goals omega
            exact W.vret hx hb hr (fun t ht hW => ⟨⟨(cn, 1), rfl, ⟨by rw [hsg]; rfl, by rw [hsg]; rfl⟩, by show C1 D h0 _ t.heap; rw [ht]; exact hP⟩, hS.F ht⟩) hS.2.2 dX6_countSegment_236
        refine cut (F := ¬ (py.toInt < y1.toInt ∧ y2.toInt ≤ py.toInt)) (pc := 187) (ls := ls) (st := []) (fun t187f => ?_) (fun t187 => ?_)
        · refine lv_aload_n hx hb dX6_countSegment_187 rfl (lv_at hl 2 rfl) ?_
          refine va_get (D := D) (ci := 1) (v := .double (FP.l2d y2)) (C := RX2) (T := TX2) (N := 3) hx hb hts in_X2 hown hK.1 hP2 0 rfl rfl 1 (by decide) (hts _ q52) (fun _ h9 => h9) rfl dX6_countSegment_188 ?_
          refine lv_aload_n hx hb dX6_countSegment_191 rfl (lv_at hl 0 rfl) ?_
          refine va_get (D := D) (ci := 3) (v := .ref ap) (C := RX6) (T := TX6) (N := 3) hx hb hts in_X6 hown hK.1 hP 0 rfl rfl 0 (by decide) (hts _ q165) (fun _ h9 => h9) rfl dX6_countSegment_192 ?_
          refine va_get (D := D) (ci := 1) (v := .double (FP.l2d py)) (C := RX2) (T := TX2) (N := 3) hx hb hts in_X2 hown hK.1 hPp 0 rfl rfl 1 (by decide) (hts _ q52) (fun _ h9 => h9) rfl dX6_countSegment_195 ?_
          refine fx_le (tgt := 267) hx hb (di_cmp dy2 dpy) dX6_countSegment_198 dX6_countSegment_199 (by decide) (fun c7 => ?_) (fun c7 => ?_)
          · have hsg : seg64 x1 y1 x2 y2 px py = 0 := by
              unfold seg64 segR
              repeat' split
              all_goals omega
            refine W.widen (k := 4) (n := 8) (Nat.le_of_ble_eq_true rfl) (Nat.le_of_ble_eq_true rfl) ?_
            exact W.vret hx hb hr (fun t ht hW => ⟨⟨(cn, 0), rfl, ⟨by rw [hsg]; rfl, by rw [hsg]; rfl⟩, by show C1 D h0 _ t.heap; rw [ht]; exact hP⟩, hS.F ht⟩) hS.2.2 dX6_countSegment_267
          · refine lv_aload_n hx hb dX6_countSegment_202 rfl (lv_at hl 1 rfl) ?_
            refine va_get (D := D) (ci := 1) (v := .double (FP.l2d y1)) (C := RX2) (T := TX2) (N := 3) hx hb hts in_X2 hown hK.1 hP1 0 rfl rfl 1 (by decide) (hts _ q52) (fun _ h9 => h9) rfl dX6_countSegment_203 ?_
            refine lv_aload_n hx hb dX6_countSegment_206 rfl (lv_at hl 0 rfl) ?_
            refine va_get (D := D) (ci := 3) (v := .ref ap) (C := RX6) (T := TX6) (N := 3) hx hb hts in_X6 hown hK.1 hP 0 rfl rfl 0 (by decide) (hts _ q165) (fun _ h9 => h9) rfl dX6_countSegment_207 ?_
            refine va_get (D := D) (ci := 1) (v := .double (FP.l2d py)) (C := RX2) (T := TX2) (N := 3) hx hb hts in_X2 hown hK.1 hPp 0 rfl rfl 1 (by decide) (hts _ q52) (fun _ h9 => h9) rfl dX6_countSegment_210 ?_
            refine fx_gt (tgt := 267) hx hb (di_cmp dy1 dpy) dX6_countSegment_213 dX6_countSegment_214 (by decide) (fun c8 => ?_) (fun c8 => ?_)
            · have hsg : seg64 x1 y1 x2 y2 px py = 0 := by
                unfold seg64 segR
                repeat' split
                all_goals omega
              refine W.widen (k := 4) (n := 8) (Nat.le_of_ble_eq_true rfl) (Nat.le_of_ble_eq_true rfl) ?_
              exact W.vret hx hb hr (fun t ht hW => ⟨⟨(cn, 0), rfl, ⟨by rw [hsg]; rfl, by rw [hsg]; rfl⟩, by show C1 D h0 _ t.heap; rw [ht]; exact hP⟩, hS.F ht⟩) hS.2.2 dX6_countSegment_267
            · exact t217 (by omega)
        refine lv_aload_n hx hb dX6_countSegment_157 rfl (lv_at hl 1 rfl) ?_
        refine va_get (D := D) (ci := 1) (v := .double (FP.l2d y1)) (C := RX2) (T := TX2) (N := 3) hx hb hts in_X2 hown hK.1 hP1 0 rfl rfl 1 (by decide) (hts _ q52) (fun _ h9 => h9) rfl dX6_countSegment_158 ?_
        refine lv_aload_n hx hb dX6_countSegment_161 rfl (lv_at hl 0 rfl) ?_
        refine va_get (D := D) (ci := 3) (v := .ref ap) (C := RX6) (T := TX6) (N := 3) hx hb hts in_X6 hown hK.1 hP 0 rfl rfl 0 (by decide) (hts _ q165) (fun _ h9 => h9) rfl dX6_countSegment_162 ?_
        refine va_get (D := D) (ci := 1) (v := .double (FP.l2d py)) (C := RX2) (T := TX2) (N := 3) hx hb hts in_X2 hown hK.1 hPp 0 rfl rfl 1 (by decide) (hts _ q52) (fun _ h9 => h9) rfl dX6_countSegment_165 ?_
        refine fx_le (tgt := 187) hx hb (di_cmp dy1 dpy) dX6_countSegment_168 dX6_countSegment_169 (by decide) (fun c5 => ?_) (fun c5 => ?_)
        · exact t187 (by omega)
        · refine lv_aload_n hx hb dX6_countSegment_172 rfl (lv_at hl 2 rfl) ?_
          refine va_get (D := D) (ci := 1) (v := .double (FP.l2d y2)) (C := RX2) (T := TX2) (N := 3) hx hb hts in_X2 hown hK.1 hP2 0 rfl rfl 1 (by decide) (hts _ q52) (fun _ h9 => h9) rfl dX6_countSegment_173 ?_
          refine lv_aload_n hx hb dX6_countSegment_176 rfl (lv_at hl 0 rfl) ?_
          refine va_get (D := D) (ci := 3) (v := .ref ap) (C := RX6) (T := TX6) (N := 3) hx hb hts in_X6 hown hK.1 hP 0 rfl rfl 0 (by decide) (hts _ q165) (fun _ h9 => h9) rfl dX6_countSegment_177 ?_
          refine va_get (D := D) (ci := 1) (v := .double (FP.l2d py)) (C := RX2) (T := TX2) (N := 3) hx hb hts in_X2 hown hK.1 hPp 0 rfl rfl 1 (by decide) (hts _ q52) (fun _ h9 => h9) rfl dX6_countSegment_180 ?_
          refine fx_le (tgt := 217) hx hb (di_cmp dy2 dpy) dX6_countSegment_183 dX6_countSegment_184 (by decide) (fun c6 => ?_) (fun c6 => ?_)
          · exact t217 (by omega)
          · exact t187 (by omega)
      refine lv_aload_n hx hb dX6_countSegment_67 rfl (lv_at hl 1 rfl) ?_
      refine va_get (D := D) (ci := 1) (v := .double (FP.l2d y1)) (C := RX2) (T := TX2) (N := 3) hx hb hts in_X2 hown hK.1 hP1 0 rfl rfl 1 (by decide) (hts _ q52) (fun _ h9 => h9) rfl dX6_countSegment_68 ?_
      refine lv_aload_n hx hb dX6_countSegment_71 rfl (lv_at hl 0 rfl) ?_
      refine va_get (D := D) (ci := 3) (v := .ref ap) (C := RX6) (T := TX6) (N := 3) hx hb hts in_X6 hown hK.1 hP 0 rfl rfl 0 (by decide) (hts _ q165) (fun _ h9 => h9) rfl dX6_countSegment_72 ?_
      refine va_get (D := D) (ci := 1) (v := .double (FP.l2d py)) (C := RX2) (T := TX2) (N := 3) hx hb hts in_X2 hown hK.1 hPp 0 rfl rfl 1 (by decide) (hts _ q52) (fun _ h9 => h9) rfl dX6_countSegment_75 ?_
      refine fx_ne (tgt := 157) hx hb (di_cmp dy1 dpy) dX6_countSegment_78 dX6_countSegment_79 (by decide) (fun c15 => ?_) (fun c15 => ?_)
      · exact t157 (by omega)
      · refine lv_aload_n hx hb dX6_countSegment_82 rfl (lv_at hl 2 rfl) ?_
        refine va_get (D := D) (ci := 1) (v := .double (FP.l2d y2)) (C := RX2) (T := TX2) (N := 3) hx hb hts in_X2 hown hK.1 hP2 0 rfl rfl 1 (by decide) (hts _ q52) (fun _ h9 => h9) rfl dX6_countSegment_83 ?_
        refine lv_aload_n hx hb dX6_countSegment_86 rfl (lv_at hl 0 rfl) ?_
        refine va_get (D := D) (ci := 3) (v := .ref ap) (C := RX6) (T := TX6) (N := 3) hx hb hts in_X6 hown hK.1 hP 0 rfl rfl 0 (by decide) (hts _ q165) (fun _ h9 => h9) rfl dX6_countSegment_87 ?_
        refine va_get (D := D) (ci := 1) (v := .double (FP.l2d py)) (C := RX2) (T := TX2) (N := 3) hx hb hts in_X2 hown hK.1 hPp 0 rfl rfl 1 (by decide) (hts _ q52) (fun _ h9 => h9) rfl dX6_countSegment_90 ?_
        refine fx_ne (tgt := 157) hx hb (di_cmp dy2 dpy) dX6_countSegment_93 dX6_countSegment_94 (by decide) (fun c16 => ?_) (fun c16 => ?_)
        · exact t157 (by omega)
        · refine lv_aload_n hx hb dX6_countSegment_97 rfl (lv_at hl 1 rfl) ?_
          refine va_get (D := D) (ci := 1) (v := .double (FP.l2d x1)) (C := RX2) (T := TX2) (N := 3) hx hb hts in_X2 hown hK.1 hP1 0 rfl rfl 0 (by decide) (hts _ q48) (fun _ h9 => h9) rfl dX6_countSegment_98 ?_
          refine lv_dstore_n (lv' := [(3, .double (FP.l2d x1)), (0, .ref h0), (1, .ref a1), (2, .ref a2)]) hx hb dX6_countSegment_101 rfl hl (by decide) rfl (fun ls hl => ?_)
          refine lv_aload_n hx hb dX6_countSegment_102 rfl (lv_at hl 3 rfl) ?_
          refine va_get (D := D) (ci := 1) (v := .double (FP.l2d x2)) (C := RX2) (T := TX2) (N := 3) hx hb hts in_X2 hown hK.1 hP2 0 rfl rfl 0 (by decide) (hts _ q48) (fun _ h9 => h9) rfl dX6_countSegment_103 ?_
          refine lv_dstore (lv' := [(5, .double (FP.l2d x2)), (3, .double (FP.l2d x1)), (0, .ref h0), (1, .ref a1), (2, .ref a2)]) hx hb dX6_countSegment_106 hl (by decide) rfl (fun ls hl => ?_)
          refine lv_dload_n hx hb dX6_countSegment_108 rfl (lv_at hl 1 rfl) ?_
          refine lv_dload hx hb dX6_countSegment_109 (lv_at hl 0 rfl) ?_
          refine fx_le (tgt := 126) hx hb (di_cmp dx1 dx2) dX6_countSegment_111 dX6_countSegment_112 (by decide) (fun c14 => ?_) (fun c14 => ?_)
          · refine lv_aload_n hx hb dX6_countSegment_126 rfl (lv_at hl 2 rfl) ?_
            refine va_get (D := D) (ci := 3) (v := .ref ap) (C := RX6) (T := TX6) (N := 3) hx hb hts in_X6 hown hK.1 hP 0 rfl rfl 0 (by decide) (hts _ q165) (fun _ h9 => h9) rfl dX6_countSegment_127 ?_
            refine va_get (D := D) (ci := 1) (v := .double (FP.l2d px)) (C := RX2) (T := TX2) (N := 3) hx hb hts in_X2 hown hK.1 hPp 0 rfl rfl 0 (by decide) (hts _ q48) (fun _ h9 => h9) rfl dX6_countSegment_130 ?_
            refine lv_dload_n hx hb dX6_countSegment_133 rfl (lv_at hl 1 rfl) ?_
            refine fx_lt (tgt := 156) hx hb (di_cmp dpx dx1) dX6_countSegment_134 dX6_countSegment_135 (by decide) (fun c12 => ?_) (fun c12 => ?_)
            · have hsg : seg64 x1 y1 x2 y2 px py = 0 := by
                unfold seg64 segR
                repeat' split
                all_goals omega
              refine W.widen (k := 4) (n := 8) (Nat.le_of_ble_eq_true rfl) (Nat.le_of_ble_eq_true rfl) ?_
              exact W.vret hx hb hr (fun t ht hW => ⟨⟨(cn, 0), rfl, ⟨by rw [hsg]; rfl, by rw [hsg]; rfl⟩, by show C1 D h0 _ t.heap; rw [ht]; exact hP⟩, hS.F ht⟩) hS.2.2 dX6_countSegment_156
            · refine lv_aload_n hx hb dX6_countSegment_138 rfl (lv_at hl 2 rfl) ?_
              refine va_get (D := D) (ci := 3) (v := .ref ap) (C := RX6) (T := TX6) (N := 3) hx hb hts in_X6 hown hK.1 hP 0 rfl rfl 0 (by decide) (hts _ q165) (fun _ h9 => h9) rfl dX6_countSegment_139 ?_
              refine va_get (D := D) (ci := 1) (v := .double (FP.l2d px)) (C := RX2) (T := TX2) (N := 3) hx hb hts in_X2 hown hK.1 hPp 0 rfl rfl 0 (by decide) (hts _ q48) (fun _ h9 => h9) rfl dX6_countSegment_142 ?_
              refine lv_dload hx hb dX6_countSegment_145 (lv_at hl 0 rfl) ?_
              refine fx_gt (tgt := 156) hx hb (di_cmp dpx dx2) dX6_countSegment_147 dX6_countSegment_148 (by decide) (fun c13 => ?_) (fun c13 => ?_)
              · have hsg : seg64 x1 y1 x2 y2 px py = 0 := by
                  unfold seg64 segR
                  repeat' split
                  all_goals omega
                refine W.widen (k := 4) (n := 8) (Nat.le_of_ble_eq_true rfl) (Nat.le_of_ble_eq_true rfl) ?_
                exact W.vret hx hb hr (fun t ht hW => ⟨⟨(cn, 0), rfl, ⟨by rw [hsg]; rfl, by rw [hsg]; rfl⟩, by show C1 D h0 _ t.heap; rw [ht]; exact hP⟩, hS.F ht⟩) hS.2.2 dX6_countSegment_156
              · refine lv_aload_n hx hb dX6_countSegment_151 rfl (lv_at hl 2 rfl) ?_
                refine lv_iconst (v := 1) hx hb dX6_countSegment_152 (by decide) ?_
                refine va_put (D := D) (ci := 3) (v := .int 1) (ty := .boolean) (C := RX6) (T := TX6) (N := 3) hx hb hts in_X6 tyX6 tyX6_ok nmX6 hown hK.1 hP hD hS 0 rfl rfl 2 (by decide) (hts _ q167) (fun _ h9 => h9) rfl (by decide +kernel) rfl rfl (Nat.le_of_ble_eq_true rfl) dX6_countSegment_153 (fun H locs hP hD hS => ?_)
                have hP : va_P D vwCl [(h0, .inr (3, [.ref ap, .int cn, .int 1]))] H := hP
                have hD : va_D A [(h0, .inr (3, [.ref ap, .int cn, .int 1]))] := hD
                have hsg : seg64 x1 y1 x2 y2 px py = 1 := by
                  unfold seg64 segR
                  repeat' split
                  all_goals omega
                refine W.widen (k := 4) (n := 8) (Nat.le_of_ble_eq_true rfl) (Nat.le_of_ble_eq_true rfl) ?_
                exact W.vret hx hb hr (fun t ht hW => ⟨⟨(cn, 1), rfl, ⟨by rw [hsg]; rfl, by rw [hsg]; rfl⟩, by show C1 D h0 _ t.heap; rw [ht]; exact hP⟩, hS.F ht⟩) hS.2.2 dX6_countSegment_156
          · refine lv_aload_n hx hb dX6_countSegment_115 rfl (lv_at hl 4 rfl) ?_
            refine va_get (D := D) (ci := 1) (v := .double (FP.l2d x2)) (C := RX2) (T := TX2) (N := 3) hx hb hts in_X2 hown hK.1 hP2 0 rfl rfl 0 (by decide) (hts _ q48) (fun _ h9 => h9) rfl dX6_countSegment_116 ?_
            refine lv_dstore_n (lv' := [(3, .double (FP.l2d x2)), (5, .double (FP.l2d x2)), (0, .ref h0), (1, .ref a1), (2, .ref a2)]) hx hb dX6_countSegment_119 rfl hl (by decide) rfl (fun ls hl => ?_)
            refine lv_aload_n hx hb dX6_countSegment_120 rfl (lv_at hl 3 rfl) ?_
            refine va_get (D := D) (ci := 1) (v := .double (FP.l2d x1)) (C := RX2) (T := TX2) (N := 3) hx hb hts in_X2 hown hK.1 hP1 0 rfl rfl 0 (by decide) (hts _ q48) (fun _ h9 => h9) rfl dX6_countSegment_121 ?_
            refine lv_dstore (lv' := [(5, .double (FP.l2d x1)), (3, .double (FP.l2d x2)), (0, .ref h0), (1, .ref a1), (2, .ref a2)]) hx hb dX6_countSegment_124 hl (by decide) rfl (fun ls hl => ?_)
            refine lv_aload_n hx hb dX6_countSegment_126 rfl (lv_at hl 2 rfl) ?_
            refine va_get (D := D) (ci := 3) (v := .ref ap) (C := RX6) (T := TX6) (N := 3) hx hb hts in_X6 hown hK.1 hP 0 rfl rfl 0 (by decide) (hts _ q165) (fun _ h9 => h9) rfl dX6_countSegment_127 ?_
            refine va_get (D := D) (ci := 1) (v := .double (FP.l2d px)) (C := RX2) (T := TX2) (N := 3) hx hb hts in_X2 hown hK.1 hPp 0 rfl rfl 0 (by decide) (hts _ q48) (fun _ h9 => h9) rfl dX6_countSegment_130 ?_
            refine lv_dload_n hx hb dX6_countSegment_133 rfl (lv_at hl 1 rfl) ?_
            refine fx_lt (tgt := 156) hx hb (di_cmp dpx dx2) dX6_countSegment_134 dX6_countSegment_135 (by decide) (fun c12 => ?_) (fun c12 => ?_)
            · have hsg : seg64 x1 y1 x2 y2 px py = 0 := by
                unfold seg64 segR
                repeat' split
                all_goals omega
              refine W.widen (k := 4) (n := 8) (Nat.le_of_ble_eq_true rfl) (Nat.le_of_ble_eq_true rfl) ?_
              exact W.vret hx hb hr (fun t ht hW => ⟨⟨(cn, 0), rfl, ⟨by rw [hsg]; rfl, by rw [hsg]; rfl⟩, by show C1 D h0 _ t.heap; rw [ht]; exact hP⟩, hS.F ht⟩) hS.2.2 dX6_countSegment_156
            · refine lv_aload_n hx hb dX6_countSegment_138 rfl (lv_at hl 2 rfl) ?_
              refine va_get (D := D) (ci := 3) (v := .ref ap) (C := RX6) (T := TX6) (N := 3) hx hb hts in_X6 hown hK.1 hP 0 rfl rfl 0 (by decide) (hts _ q165) (fun _ h9 => h9) rfl dX6_countSegment_139 ?_
              refine va_get (D := D) (ci := 1) (v := .double (FP.l2d px)) (C := RX2) (T := TX2) (N := 3) hx hb hts in_X2 hown hK.1 hPp 0 rfl rfl 0 (by decide) (hts _ q48) (fun _ h9 => h9) rfl dX6_countSegment_142 ?_
              refine lv_dload hx hb dX6_countSegment_145 (lv_at hl 0 rfl) ?_
              refine fx_gt (tgt := 156) hx hb (di_cmp dpx dx1) dX6_countSegment_147 dX6_countSegment_148 (by decide) (fun c13 => ?_) (fun c13 => ?_)
              · have hsg : seg64 x1 y1 x2 y2 px py = 0 := by
                  unfold seg64 segR
                  repeat' split
                  all_goals omega
                refine W.widen (k := 4) (n := 8) (Nat.le_of_ble_eq_true rfl) (Nat.le_of_ble_eq_true rfl) ?_
                exact W.vret hx hb hr (fun t ht hW => ⟨⟨(cn, 0), rfl, ⟨by rw [hsg]; rfl, by rw [hsg]; rfl⟩, by show C1 D h0 _ t.heap; rw [ht]; exact hP⟩, hS.F ht⟩) hS.2.2 dX6_countSegment_156
              · refine lv_aload_n hx hb dX6_countSegment_151 rfl (lv_at hl 2 rfl) ?_
                refine lv_iconst (v := 1) hx hb dX6_countSegment_152 (by decide) ?_
                refine va_put (D := D) (ci := 3) (v := .int 1) (ty := .boolean) (C := RX6) (T := TX6) (N := 3) hx hb hts in_X6 tyX6 tyX6_ok nmX6 hown hK.1 hP hD hS 0 rfl rfl 2 (by decide) (hts _ q167) (fun _ h9 => h9) rfl (by decide +kernel) rfl rfl (Nat.le_of_ble_eq_true rfl) dX6_countSegment_153 (fun H locs hP hD hS => ?_)
                have hP : va_P D vwCl [(h0, .inr (3, [.ref ap, .int cn, .int 1]))] H := hP
                have hD : va_D A [(h0, .inr (3, [.ref ap, .int cn, .int 1]))] := hD
                have hsg : seg64 x1 y1 x2 y2 px py = 1 := by
                  unfold seg64 segR
                  repeat' split
                  all_goals omega
                refine W.widen (k := 4) (n := 8) (Nat.le_of_ble_eq_true rfl) (Nat.le_of_ble_eq_true rfl) ?_
                exact W.vret hx hb hr (fun t ht hW => ⟨⟨(cn, 1), rfl, ⟨by rw [hsg]; rfl, by rw [hsg]; rfl⟩, by show C1 D h0 _ t.heap; rw [ht]; exact hP⟩, hS.F ht⟩) hS.2.2 dX6_countSegment_156
    refine lv_aload_n hx hb dX6_countSegment_31 rfl (lv_at hl 0 rfl) ?_
    refine va_get (D := D) (ci := 3) (v := .ref ap) (C := RX6) (T := TX6) (N := 3) hx hb hts in_X6 hown hK.1 hP 0 rfl rfl 0 (by decide) (hts _ q165) (fun _ h9 => h9) rfl dX6_countSegment_32 ?_
    refine va_get (D := D) (ci := 1) (v := .double (FP.l2d px)) (C := RX2) (T := TX2) (N := 3) hx hb hts in_X2 hown hK.1 hPp 0 rfl rfl 0 (by decide) (hts _ q48) (fun _ h9 => h9) rfl dX6_countSegment_35 ?_
    refine lv_aload_n hx hb dX6_countSegment_38 rfl (lv_at hl 2 rfl) ?_
    refine va_get (D := D) (ci := 1) (v := .double (FP.l2d x2)) (C := RX2) (T := TX2) (N := 3) hx hb hts in_X2 hown hK.1 hP2 0 rfl rfl 0 (by decide) (hts _ q48) (fun _ h9 => h9) rfl dX6_countSegment_39 ?_
    refine fx_ne (tgt := 67) hx hb (di_cmp dpx dx2) dX6_countSegment_42 dX6_countSegment_43 (by decide) (fun c17 => ?_) (fun c17 => ?_)
    · exact t67 (by omega)
    · refine lv_aload_n hx hb dX6_countSegment_46 rfl (lv_at hl 0 rfl) ?_
      refine va_get (D := D) (ci := 3) (v := .ref ap) (C := RX6) (T := TX6) (N := 3) hx hb hts in_X6 hown hK.1 hP 0 rfl rfl 0 (by decide) (hts _ q165) (fun _ h9 => h9) rfl dX6_countSegment_47 ?_
      refine va_get (D := D) (ci := 1) (v := .double (FP.l2d py)) (C := RX2) (T := TX2) (N := 3) hx hb hts in_X2 hown hK.1 hPp 0 rfl rfl 1 (by decide) (hts _ q52) (fun _ h9 => h9) rfl dX6_countSegment_50 ?_
      refine lv_aload_n hx hb dX6_countSegment_53 rfl (lv_at hl 2 rfl) ?_
      refine va_get (D := D) (ci := 1) (v := .double (FP.l2d y2)) (C := RX2) (T := TX2) (N := 3) hx hb hts in_X2 hown hK.1 hP2 0 rfl rfl 1 (by decide) (hts _ q52) (fun _ h9 => h9) rfl dX6_countSegment_54 ?_
      refine fx_ne (tgt := 67) hx hb (di_cmp dpy dy2) dX6_countSegment_57 dX6_countSegment_58 (by decide) (fun c18 => ?_) (fun c18 => ?_)
      · exact t67 (by omega)
      · refine lv_aload_n hx hb dX6_countSegment_61 rfl (lv_at hl 0 rfl) ?_
        refine lv_iconst (v := 1) hx hb dX6_countSegment_62 (by decide) ?_
        refine va_put (D := D) (ci := 3) (v := .int 1) (ty := .boolean) (C := RX6) (T := TX6) (N := 3) hx hb hts in_X6 tyX6 tyX6_ok nmX6 hown hK.1 hP hD hS 0 rfl rfl 2 (by decide) (hts _ q167) (fun _ h9 => h9) rfl (by decide +kernel) rfl rfl (Nat.le_of_ble_eq_true rfl) dX6_countSegment_63 (fun H locs hP hD hS => ?_)
        have hP : va_P D vwCl [(h0, .inr (3, [.ref ap, .int cn, .int 1]))] H := hP
        have hD : va_D A [(h0, .inr (3, [.ref ap, .int cn, .int 1]))] := hD
        have hsg : seg64 x1 y1 x2 y2 px py = 1 := by
          unfold seg64 segR
          repeat' split
          all_goals omega
        refine W.widen (k := 4) (n := 8) (Nat.le_of_ble_eq_true rfl) (Nat.le_of_ble_eq_true rfl) ?_
        exact W.vret hx hb hr (fun t ht hW => ⟨⟨(cn, 1), rfl, ⟨by rw [hsg]; rfl, by rw [hsg]; rfl⟩, by show C1 D h0 _ t.heap; rw [ht]; exact hP⟩, hS.F ht⟩) hS.2.2 dX6_countSegment_66
  refine lv_aload_n hx hb dX6_countSegment_0 rfl (lv_at hl 1 rfl) ?_
  refine va_get (D := D) (ci := 1) (v := .double (FP.l2d x1)) (C := RX2) (T := TX2) (N := 3) hx hb hts in_X2 hown hK.1 hP1 0 rfl rfl 0 (by decide) (hts _ q48) (fun _ h9 => h9) rfl dX6_countSegment_1 ?_
  refine lv_aload_n hx hb dX6_countSegment_4 rfl (lv_at hl 0 rfl) ?_
  refine va_get (D := D) (ci := 3) (v := .ref ap) (C := RX6) (T := TX6) (N := 3) hx hb hts in_X6 hown hK.1 hP 0 rfl rfl 0 (by decide) (hts _ q165) (fun _ h9 => h9) rfl dX6_countSegment_5 ?_
  refine va_get (D := D) (ci := 1) (v := .double (FP.l2d px)) (C := RX2) (T := TX2) (N := 3) hx hb hts in_X2 hown hK.1 hPp 0 rfl rfl 0 (by decide) (hts _ q48) (fun _ h9 => h9) rfl dX6_countSegment_8 ?_
  refine fx_ge (tgt := 31) hx hb (di_cmp dx1 dpx) dX6_countSegment_11 dX6_countSegment_12 (by decide) (fun c19 => ?_) (fun c19 => ?_)
  · exact t31 (by omega)
  · refine lv_aload_n hx hb dX6_countSegment_15 rfl (lv_at hl 2 rfl) ?_
    refine va_get (D := D) (ci := 1) (v := .double (FP.l2d x2)) (C := RX2) (T := TX2) (N := 3) hx hb hts in_X2 hown hK.1 hP2 0 rfl rfl 0 (by decide) (hts _ q48) (fun _ h9 => h9) rfl dX6_countSegment_16 ?_
    refine lv_aload_n hx hb dX6_countSegment_19 rfl (lv_at hl 0 rfl) ?_
    refine va_get (D := D) (ci := 3) (v := .ref ap) (C := RX6) (T := TX6) (N := 3) hx hb hts in_X6 hown hK.1 hP 0 rfl rfl 0 (by decide) (hts _ q165) (fun _ h9 => h9) rfl dX6_countSegment_20 ?_
    refine va_get (D := D) (ci := 1) (v := .double (FP.l2d px)) (C := RX2) (T := TX2) (N := 3) hx hb hts in_X2 hown hK.1 hPp 0 rfl rfl 0 (by decide) (hts _ q48) (fun _ h9 => h9) rfl dX6_countSegment_23 ?_
    refine fx_ge (tgt := 31) hx hb (di_cmp dx2 dpx) dX6_countSegment_26 dX6_countSegment_27 (by decide) (fun c20 => ?_) (fun c20 => ?_)
    · exact t31 (by omega)
    · have hsg : seg64 x1 y1 x2 y2 px py = 0 := by
        unfold seg64 segR
        repeat' split
        all_goals omega
      refine W.widen (k := 4) (n := 8) (Nat.le_of_ble_eq_true rfl) (Nat.le_of_ble_eq_true rfl) ?_
      exact W.vret hx hb hr (fun t ht hW => ⟨⟨(cn, 0), rfl, ⟨by rw [hsg]; rfl, by rw [hsg]; rfl⟩, by show C1 D h0 _ t.heap; rw [ht]; exact hP⟩, hS.F ht⟩) hS.2.2 dX6_countSegment_30
end
section
/-! WALK of RayCrossingCounter.locatePointInRing: printed by wip/D-29928w/ray2.py -/
def cntE (g : Nat → Nat) (v : Nat) : Nat → Nat
  | 0 => 0
  | n + 1 => cntE g v n + (if g n = v then 1 else 0)
theorem cntE_le (g : Nat → Nat) (v : Nat) : ∀ n, cntE g v n ≤ n
  | 0 => Nat.le_refl 0
  | n + 1 => by
    have := cntE_le g v n
    show cntE g v n + (if g n = v then 1 else 0) ≤ n + 1
    split <;> omega
/-- the answer over a ring of n edges, g i what the edge i does to the counter -/
def RS (g : Nat → Nat) (n : Nat) (r : Int32) : Prop := ((∀ i, i < n → g i ≠ 1) ∧ r = if cntE g 2 n % 2 = 1 then 0 else 2) ∨ ((∃ i, i < n ∧ g i = 1) ∧ r = 1)
abbrev Ar (cA : ClassId) (n : Nat) (f : Nat → Option Nat) : va_E := .inl (cA, n, .inr (.inr (.inr (.inr f))))
section FXA
variable {p : Program} {l : Launch} {e : Env} {R : Room} {s : State} {m : MethodId} {args : Array Value} {below : List Frame} {meth : Method} {c : Code} {H : Heap} {locs : List Loc} {cells slots : Nat} {Q : State → Prop}
variable {cc : ByteArray} {pc : Nat} {ls : Array Slot} {rest : List Value} {D : va_G} {a : Nat} {tys : List (ClassId × FieldType)}
/-- a coordinate out of an array of them -/
theorem fx_aald (hexec : p.tables.exec = Jvm.exec) (hb : c.code = cc) (hK : Kn D tys s) {cA : ClassId} {n j b t0 : Nat} {f : Nat → Option Nat} (hP : C1 D a (Ar cA n f) H) (ht : tys[t0]? = some (cA, .object "Coordinate")) (hj : j < n) (hn : n < 2 ^ 31) (hfj : f j = some b) {i : Int32} (hi : i = nI j) (hdg : decode cc pc = .ok (.aaload, 1))
    (kk : W p l e R s m args below meth c H locs cells slots Q (F0 m (pc + 1) ls (.ref b :: rest))) : W p l e R s m args below meth c H locs cells slots Q (F0 m pc ls (.int i :: .ref a :: rest)) := by
  subst hi
  refine va_aldq hexec hb hK.1 hP 0 t0 rfl ht (vp_in_nI hj hn) hdg ?_
  rw [nI_clamp (by omega), hfj]
  exact kk
end FXA
abbrev gE (X Y : Nat → Int64) (px py : Int64) : Nat → Nat := fun i => seg64 (X (i + 1)) (Y (i + 1)) (X i) (Y i) px py
set_option maxHeartbeats 4000000 in
set_option maxRecDepth 100000 in
/-- the loop: k edges counted -/
theorem loc_loop {p : Program} {l : Launch} {e : Env} {s : State} {m : MethodId} {below : List Frame} {meth : Method} {c : Code} {args : Array Value} {D : va_G} {tys : List (ClassId × FieldType)} {A : Nat → Prop} {ap aR n t0 : Nat} {cA : ClassId} {f : Nat → Option Nat} {ad : Nat → Nat} {X Y : Nat → Int64} {px py : Int64} (hn : n ≤ 15) (ht0 : tys[t0]? = some (cA, .object "Coordinate")) (hf : ∀ j, j ≤ n → f j = some (ad j)) (bX : ∀ j, j ≤ n → Bd (X j)) (bY : ∀ j, j ≤ n → Bd (Y j)) (bp : Bd px) (bq : Bd py)
    (hx : p.tables.exec = Jvm.exec) (hb : c.code = cX6_locatePointInRing) (hr : meth.sig.returnType = some .int) (hlocks : meth.locks = false) (hml : c.maxLocals = 6) (hown : s.vm.findClass RX6 = some m.cls) (hts : ∀ w ∈ lw_all, w.before args s = true) (hAe : A = Fr0 s.heap.size) (hA : ∀ q : Nat, s.heap.size ≤ q → A q) (hK : Kn D tys s)
    (hPp0 : C1 D ap (Co px py) s.heap) (hR0 : C1 D aR (Ar cA (n + 1) f) s.heap) (hC0 : ∀ j, j ≤ n → C1 D (ad j) (Co (X j) (Y j)) s.heap) :
    ∀ (fuel k : Nat), k + fuel = n → (∀ i, i < k → gE X Y px py i ≠ 1) → ∀ (q : Nat) (H : Heap) (locs : List Loc), C1 D q (Ry ap (nI (cntE (gE X Y px py) 2 k)) 0) H → A q → va_S A s.heap H locs → ∀ (ls : Array Slot), lv_has ls 6 [(0, .ref ap), (1, .ref aR), (2, .ref q), (3, .int (nI (k + 1)))] →
      W p l e (headSpec (ws_ yX6_locatePointInRing cX6_locatePointInRing 6 (some .int)) ({ frames := 7, cells := 61, slots := 123, locals := 171 })).room s m args below meth c H locs (1 + 4 * k) (3 + 8 * k) (MQ below (va_Qi (fun (r : Int32) (_ : Unit) => RS (gE X Y px py) n r) (fun _ _ => True) A) args s 61 123 A) (F0 m 11 ls []) := by
  intro fuel
  induction fuel with
  | zero =>
    intro k hk hno q H locs hP hAq hS ls hl
    have hkn : k = n := by omega
    subst hkn
    have hR := hR0.keepS hAe hS
    refine lv_iload_n hx hb dX6_locatePointInRing_11 rfl (lv_at hl 3 rfl) ?_
    refine lv_aload_n hx hb dX6_locatePointInRing_12 rfl (lv_at hl 1 rfl) ?_
    refine va_alen (v := nI (k + 1)) hx hb hK.1 hR 0 t0 rfl ht0 rfl dX6_locatePointInRing_13 ?_
    refine lv_icmp_ge (tgt := 55) hx hb dX6_locatePointInRing_14 (by decide) (fun c1 => ?_) (fun c1 => ?_)
    · refine lv_aload_n hx hb dX6_locatePointInRing_55 rfl (lv_at hl 2 rfl) ?_
      refine va_calli (va_runV (As := []) (rest := []) ⟨hx, hb, hml, hown, hts⟩ (m_Ray_loc l D tys q ap _ (cntE (gE X Y px py) 2 k) 0 (by have := cntE_le (gE X Y px py) 2 k; omega)) (cwV 0 hts (lw_V q184 q185 q186 q12 q187) rfl rfl rfl (by decide +kernel) ⟨Nat.le_of_ble_eq_true rfl, Nat.le_of_ble_eq_true rfl⟩) (gV (va_recv hK.1 hP (ci := 3) (q0 := 0) rfl rfl) rfl hP hK) rfl rfl hl.1 rfl (lv_room (Nat.le_of_ble_eq_true rfl)) dX6_locatePointInRing_56 ⟨by show 1 + 4 * k + 0 ≤ 61; omega, by show 3 + 8 * k + 0 ≤ 123; omega⟩) hS (fun q h1 h2 => absurd h2 (Nat.not_le.mpr h1)) (fun q h => hA q (Nat.le_trans hS.1 h)) (fun r u t H1 locs ht hvm hw hB hz hk1 hS => ?_)
      refine W.widen (k := 61) (n := 123) (by omega) (by omega) ?_
      exact W.iret (v := r) hx hb hr (fun t ht hW => ⟨⟨r, (), rfl, Or.inl ⟨hno, by rw [hw]; exact if_pos rfl⟩, trivial⟩, hS.F ht⟩) hS.2.2 dX6_locatePointInRing_59
    · exact absurd (nI_le (Nat.le_refl _) (by omega)) c1
  | succ fuel ih =>
    intro k hk hno q H locs hP hAq hS ls hl
    have hkn : k < n := by omega
    have hR := hR0.keepS hAe hS
    refine lv_iload_n hx hb dX6_locatePointInRing_11 rfl (lv_at hl 3 rfl) ?_
    refine lv_aload_n hx hb dX6_locatePointInRing_12 rfl (lv_at hl 1 rfl) ?_
    refine va_alen (v := nI (n + 1)) hx hb hK.1 hR 0 t0 rfl ht0 rfl dX6_locatePointInRing_13 ?_
    refine lv_icmp_ge (tgt := 55) hx hb dX6_locatePointInRing_14 (by decide) (fun c1 => ?_) (fun c1 => ?_)
    · exact absurd c1 (nI_ge (by omega) (by omega))
    · refine lv_aload_n hx hb dX6_locatePointInRing_17 rfl (lv_at hl 1 rfl) ?_
      refine lv_iload_n hx hb dX6_locatePointInRing_18 rfl (lv_at hl 3 rfl) ?_
      refine fx_aald hx hb hK hR ht0 (j := k + 1) (by omega) (by omega) (hf (k + 1) (by omega)) rfl dX6_locatePointInRing_19 ?_
      refine lv_astore (lv' := [(4, .ref (ad (k + 1))), (0, .ref ap), (1, .ref aR), (2, .ref q), (3, .int (nI (k + 1)))]) hx hb dX6_locatePointInRing_20 hl (by decide) rfl (fun ls hl => ?_)
      refine lv_aload_n hx hb dX6_locatePointInRing_22 rfl (lv_at hl 2 rfl) ?_
      refine lv_iload_n hx hb dX6_locatePointInRing_23 rfl (lv_at hl 4 rfl) ?_
      refine lv_iconst (v := 1) hx hb dX6_locatePointInRing_24 (by decide) ?_
      refine lv_isub hx hb dX6_locatePointInRing_25 ?_
      refine fx_aald hx hb hK hR ht0 (j := k) (by omega) (by omega) (hf (k) (by omega)) (nI_pred k) dX6_locatePointInRing_26 ?_
      refine lv_astore (lv' := [(5, .ref (ad (k))), (4, .ref (ad (k + 1))), (0, .ref ap), (1, .ref aR), (2, .ref q), (3, .int (nI (k + 1)))]) hx hb dX6_locatePointInRing_27 hl (by decide) rfl (fun ls hl => ?_)
      refine lv_aload_n hx hb dX6_locatePointInRing_29 rfl (lv_at hl 4 rfl) ?_
      refine lv_aload hx hb dX6_locatePointInRing_30 (lv_at hl 1 rfl) ?_
      refine lv_aload hx hb dX6_locatePointInRing_32 (lv_at hl 0 rfl) ?_
      have hPp := hPp0.keepS hAe hS
      have hC1 := (hC0 (k + 1) (by omega)).keepS hAe hS
      have hC2 := (hC0 k (by omega)).keepS hAe hS
      refine va_callv (va_runV (As := [.ref (ad (k + 1)), .ref (ad (k))]) (rest := []) ⟨hx, hb, hml, hown, hts⟩ (m_Ray_seg l D tys q ap (ad (k + 1)) (ad k) _ (nI (cntE (gE X Y px py) 2 k)) (X (k + 1)) (Y (k + 1)) (X k) (Y k) px py (bX _ (by omega)) (bY _ (by omega)) (bX _ (by omega)) (bY _ (by omega)) bp bq) (cwV 2 hts (lw_V q175 q176 q177 q12 q178) rfl rfl rfl (by decide +kernel) ⟨Nat.le_of_ble_eq_true rfl, Nat.le_of_ble_eq_true rfl⟩) (gV (va_recv hK.1 hP (ci := 3) (q0 := 0) rfl rfl) rfl ⟨hP, hC1, hC2, hPp⟩ hK) rfl rfl hl.1 rfl (lv_room (Nat.le_of_ble_eq_true rfl)) dX6_locatePointInRing_34 ⟨by show 1 + 4 * k + 4 ≤ 61; omega, by show 3 + 8 * k + 8 ≤ 123; omega⟩) hS (fun q h1 h2 => h2.elim (fun e => e ▸ hAq) (fun h => absurd h (Nat.not_le.mpr h1))) (fun q h => h.elim (fun e => e ▸ hAq) (fun h => hA q (Nat.le_trans hS.1 h))) (fun u t H1 locs ht hvm hw hB hz hk1 hS => ?_)
      have hP : C1 D q (Ry ap u.1 u.2) H1 := by rw [← ht]; exact hB
      have hc1 : u.1 = nI (cntE (gE X Y px py) 2 (k + 1)) := by
        rw [hw.1]
        show (if gE X Y px py k = 2 then _ else _) = nI (cntE (gE X Y px py) 2 k + (if gE X Y px py k = 2 then 1 else 0))
        by_cases h : gE X Y px py k = 2
        · rw [if_pos h, if_pos h, nI_1]
        · rw [if_neg h, if_neg h, Nat.add_zero]
      have hc2 : u.2 = if gE X Y px py k = 1 then 1 else 0 := hw.2
      have hfl : u.2 = 0 ∨ u.2 = 1 := by rw [hc2]; by_cases h : gE X Y px py k = 1 <;> simp [h]
      rw [hc1] at hP
      refine lv_aload_n hx hb dX6_locatePointInRing_37 rfl (lv_at hl 4 rfl) ?_
      refine va_calli (va_runV (As := []) (rest := []) ⟨hx, hb, hml, hown, hts⟩ (m_Ray_isOn l D tys q ap _ (nI (cntE (gE X Y px py) 2 (k + 1))) u.2 hfl) (cwV 0 hts (lw_V q180 q181 q182 q12 q183) rfl rfl rfl (by decide +kernel) ⟨Nat.le_of_ble_eq_true rfl, Nat.le_of_ble_eq_true rfl⟩) (gV (va_recv hK.1 hP (ci := 3) (q0 := 0) rfl rfl) rfl hP hK) rfl rfl hl.1 rfl (lv_room (Nat.le_of_ble_eq_true rfl)) dX6_locatePointInRing_38 ⟨by show 1 + 4 * k + 4 + 0 ≤ 61; omega, by show 3 + 8 * k + 8 + 0 ≤ 123; omega⟩) hS (fun q h1 h2 => absurd h2 (Nat.not_le.mpr h1)) (fun q h => hA q (Nat.le_trans hS.1 h)) (fun r2 u2 t H2 locs ht hvm hw2 hB hz hk2 hS => ?_)
      have hP := hP.keep0 hk2
      have hw2 : r2 = u.2 := hw2
      refine lv_if_eq (tgt := 49) hx hb dX6_locatePointInRing_41 (by decide) (fun c2 => ?_) (fun c2 => ?_)
      · have hno1 : gE X Y px py k ≠ 1 := by
          intro h
          rw [hw2, hc2, if_pos h] at c2
          exact absurd c2 (by decide)
        have hu0 : u.2 = 0 := by rw [hc2, if_neg hno1]
        rw [hu0] at hP
        refine lv_iinc (v := nI (k + 1 + 1)) (lv' := [(3, .int (nI (k + 1 + 1))), (5, .ref (ad (k))), (4, .ref (ad (k + 1))), (0, .ref ap), (1, .ref aR), (2, .ref q)]) hx hb dX6_locatePointInRing_49 hl (k := 5) rfl (nI_1 (k + 1)) (by decide) rfl (fun ls hl => ?_)
        refine lv_goto (tgt := 11) hx hb dX6_locatePointInRing_52 (by decide) ?_
        refine W.widen (k := 1 + 4 * (k + 1)) (n := 3 + 8 * (k + 1)) (by omega) (by omega) ?_
        exact ih (k + 1) (by omega) (fun i hi => by rcases Nat.lt_succ_iff_lt_or_eq.mp hi with h | h; exact hno i h; rw [h]; exact hno1) q _ _ hP hAq hS ls (lv_sub hl [3, 4, 5, 0] rfl)
      · have hyes : gE X Y px py k = 1 := by
          by_cases h : gE X Y px py k = 1
          · exact h
          · rw [hw2, hc2, if_neg h] at c2
            exact absurd rfl c2
        have hu1 : u.2 = 1 := by rw [hc2, if_pos hyes]
        refine lv_aload_n hx hb dX6_locatePointInRing_44 rfl (lv_at hl 4 rfl) ?_
        refine va_calli (va_runV (As := []) (rest := []) ⟨hx, hb, hml, hown, hts⟩ (m_Ray_loc l D tys q ap _ (cntE (gE X Y px py) 2 (k + 1)) u.2 (by have := cntE_le (gE X Y px py) 2 (k + 1); omega)) (cwV 0 hts (lw_V q184 q185 q186 q12 q187) rfl rfl rfl (by decide +kernel) ⟨Nat.le_of_ble_eq_true rfl, Nat.le_of_ble_eq_true rfl⟩) (gV (va_recv hK.1 hP (ci := 3) (q0 := 0) rfl rfl) rfl hP hK) rfl rfl hl.1 rfl (lv_room (Nat.le_of_ble_eq_true rfl)) dX6_locatePointInRing_45 ⟨by show 1 + 4 * k + 4 + 0 + 0 ≤ 61; omega, by show 3 + 8 * k + 8 + 0 + 0 ≤ 123; omega⟩) hS (fun q h1 h2 => absurd h2 (Nat.not_le.mpr h1)) (fun q h => hA q (Nat.le_trans hS.1 h)) (fun r3 u3 t H3 locs ht hvm hw3 hB hz hk3 hS => ?_)
        refine W.widen (k := 61) (n := 123) (by omega) (by omega) ?_
        exact W.iret (v := r3) hx hb hr (fun t ht hW => ⟨⟨r3, (), rfl, Or.inr ⟨⟨k, hkn, hyes⟩, by rw [hw3, hu1]; exact if_neg (by decide)⟩, trivial⟩, hS.F ht⟩) hS.2.2 dX6_locatePointInRing_48
set_option maxHeartbeats 4000000 in
set_option maxRecDepth 100000 in
/-- locatePointInRing -/
theorem m_Ray_locate (l : Launch) (D : va_G) (tys : List (ClassId × FieldType)) (ap aR sz n t0 : Nat) (cA : ClassId) (f : Nat → Option Nat) (ad : Nat → Nat) (X Y : Nat → Int64) (px py : Int64) (hn : n ≤ 15) (ht0 : tys[t0]? = some (cA, .object "Coordinate")) (hf : ∀ j, j ≤ n → f j = some (ad j)) (bX : ∀ j, j ≤ n → Bd (X j)) (bY : ∀ j, j ≤ n → Bd (Y j)) (bp : Bd px) (bq : Bd py) : Met l yX6_locatePointInRing (ws_ yX6_locatePointInRing cX6_locatePointInRing 6 (some .int)) ({ frames := 7, cells := 61, slots := 123, locals := 171 }) (gPc D tys [.ref ap, .ref aR] sz (fun H => C1 D ap (Co px py) H ∧ C1 D aR (Ar cA (n + 1) f) H ∧ ∀ j, j ≤ n → C1 D (ad j) (Co (X j) (Y j)) H)) (va_Qi (fun (r : Int32) (_ : Unit) => RS (gE X Y px py) n r) (fun _ _ => True) (Fr0 sz)) 61 123 (Fr0 sz) := by
  refine Met.ofW (cc := cX6_locatePointInRing) (maxL := 6) (ret := (some .int)) (by decide) rfl ?_
  intro p e s m args below meth c s₁ B hml hv
  obtain ⟨rfl, hsz, ⟨hPp0, hR0, hC0⟩, hK⟩ := hv
  have hx := B.exec
  have hb := B.bytes
  have hr := B.returns
  have hts := atoms_spec (ws := ws_ yX6_locatePointInRing cX6_locatePointInRing 6 (some .int)) B.pre
  have hts : ∀ w ∈ lw_all, w.before _ s = true := fun w h => hts w (List.mem_cons_of_mem _ h)
  have hown : s.vm.findClass RX6 = some m.cls := findClass_of_methodNamed B.named
  have hlocks := B.notSynchronized
  have hin : meth.name = yX6_locatePointInRing.name := (name_of_methodNamed B.named B.method).1
  subst hsz
  obtain ⟨A, hAe⟩ : ∃ A, A = Fr0 s.heap.size := ⟨_, rfl⟩
  rw [← hAe]
  have hA : ∀ q : Nat, s.heap.size ≤ q → A q := fun q h => by rw [hAe]; exact h
  have hS : va_S A s.heap s.heap [] := va_S.rf
  have hl := lv_entry ([.ref ap, .ref aR]) (n := 6) (Nat.le_of_ble_eq_true rfl)
  rw [lg_entry_eq]
  generalize (lg_sl ([.ref ap, .ref aR]) ++ List.replicate (6 - (lg_sl ([.ref ap, .ref aR])).length) Slot.unset).toArray = ls at hl ⊢
  have hl : lv_has ls 6 [(0, .ref ap), (1, .ref aR)] := hl
  refine va_new (D := D) (ci := 3) (fs := [.null, .int 0, .int 0]) (C := RX6) (T := TX6) (N := 3) hx hb hts in_X6 tyX6 tyX6_ok hown (hts _ q159) (hts _ q160) (hts _ q12) hK.1 (va_P0 (H := _)) va_D0 hS hA rfl (fun j hj => by rcases (show j = 0 ∨ j = 1 ∨ j = 2 by omega) with rfl | rfl | rfl <;> rfl) (Nat.le_of_ble_eq_true rfl) (Nat.le_of_ble_eq_true rfl) dX6_locatePointInRing_0 (fun q H hP hD hS => ?_)
  have hP : C1 D q (.inr (3, [.null, .int 0, .int 0])) H := hP
  have hAq : A q := hD.2 0 _ rfl
  refine lv_dup hx hb dX6_locatePointInRing_3 rfl ?_
  refine lv_aload_n hx hb dX6_locatePointInRing_4 rfl (lv_at hl 0 rfl) ?_
  refine va_callv (va_runI (As := [.ref ap]) (rest := [.ref q]) ⟨hx, hb, hml, hown, hts⟩ (m_Ray_init l D tys q ap _) (cwI 1 hts (lw_meth q163) rfl rfl rfl (hts _ q12) (hts _ q161) (hts _ q162) rfl (by decide +kernel) ⟨Nat.le_of_ble_eq_true rfl, Nat.le_of_ble_eq_true rfl⟩) (gS rfl hP hK) rfl rfl hl.1 rfl (lv_room (Nat.le_of_ble_eq_true rfl)) dX6_locatePointInRing_5 ⟨Nat.le_of_ble_eq_true rfl, Nat.le_of_ble_eq_true rfl⟩) hS (fun q h1 h2 => h2.elim (fun e => e ▸ hAq) (fun h => absurd h (Nat.not_le.mpr h1))) (fun q h => h.elim (fun e => e ▸ hAq) (fun h => hA q (Nat.le_trans hS.1 h))) (fun u t H1 locs ht hvm hw hB hz hk hS => ?_)
  have hP : C1 D q (Ry ap 0 0) H1 := by rw [← ht]; exact hB
  refine lv_astore_n (lv' := [(2, .ref q), (0, .ref ap), (1, .ref aR)]) hx hb dX6_locatePointInRing_8 rfl hl (by decide) rfl (fun ls hl => ?_)
  refine lv_iconst (v := 1) hx hb dX6_locatePointInRing_9 (by decide) ?_
  refine lv_istore_n (lv' := [(3, .int 1), (2, .ref q), (0, .ref ap), (1, .ref aR)]) hx hb dX6_locatePointInRing_10 rfl hl (by decide) rfl (fun ls hl => ?_)
  exact loc_loop hn ht0 hf bX bY bp bq hx hb hr hlocks hml hown hts hAe hA hK hPp0 hR0 hC0 n 0 (by omega) (fun i hi => absurd hi (Nat.not_lt_zero i)) q _ _ hP hAq hS ls (lv_sub hl [2, 3, 1, 0] rfl)
end
section
/-! WALKS of Coordinate and TurnDesk, the leaves: printed by wip/D-29928w/desk.py -/
abbrev Dk (pa : Nat) (n : Int32) : va_E := .inr (0, [.ref pa, .int n])
/-- which point a number names -/
def pkN (i : Int32) (n : Nat) : Nat := i.toBitVec.toNat % 2 ^ 31 % n
theorem pkN_lt (i : Int32) {n : Nat} (h : 0 < n) : pkN i n < n := Nat.mod_lt _ h
theorem pkN_eq (i : Int32) {n : Nat} (h : 0 < n) (hn : n ≤ 15) : (i &&& 2147483647) - (i &&& 2147483647) / nI n * nI n = nI (pkN i n) := by
  rw [pk_and i 31 (by decide +kernel)]
  exact pk_rem (Nat.mod_lt _ (by decide)) h (by omega)
/-- a number divided by four and floored -/
abbrev qt (x : Int32) : Int64 := (x >>> ((2 : Int32) &&& 31)).toInt64
theorem qt_eq (x : Int32) : FP.i2d (x >>> ((2 : Int32) &&& 31)) = FP.l2d (qt x) := i2d_l2d _
theorem va_D.re {A : Nat → Prop} {ws ws' : va_W} (h : va_D A ws) (ha : ws'.map Prod.fst = ws.map Prod.fst) : va_D A ws' := by
  have key : ∀ (k : Nat) (q : Nat × va_E), ws'[k]? = some q → ∃ q0, ws[k]? = some q0 ∧ q0.1 = q.1 := by
    intro k q hk
    have h1 : (ws'.map Prod.fst)[k]? = some q.1 := by rw [List.getElem?_map, hk]; rfl
    rw [ha, List.getElem?_map] at h1
    cases h2 : ws[k]? with
    | none => rw [h2] at h1; cases h1
    | some q0 => rw [h2] at h1; exact ⟨q0, rfl, Option.some.inj h1⟩
  refine ⟨fun i j p q hi hj e => ?_, fun k q hk => ?_⟩
  · obtain ⟨p0, h1, h2⟩ := key i p hi
    obtain ⟨q0, h3, h4⟩ := key j q hj
    exact h.1 i j p0 q0 h1 h3 (by rw [h2, h4]; exact e)
  · obtain ⟨q0, h1, h2⟩ := key k q hk
    rw [← h2]
    exact h.2 k q0 h1
theorem va_D3 {A : Nat → Prop} {a b d : Nat} {e f g : va_E} (ha : A a) (hb : A b) (hd : A d) (h1 : a ≠ b) (h2 : a ≠ d) (h3 : b ≠ d) : va_D A [(a, e), (b, f), (d, g)] := by
  refine va_D.app (w1 := [(a, e), (b, f)]) (w2 := [(d, g)]) (va_D2 ha hb h1) (va_D1 hd) (fun i j p q hi hj => ?_)
  have hz : j < 1 := (List.getElem?_eq_some_iff.mp hj).1
  rw [show j = 0 by omega] at hj
  cases hj
  have hz : i < 2 := (List.getElem?_eq_some_iff.mp hi).1
  rcases (by omega : i = 0 ∨ i = 1) with rfl | rfl
  · cases hi; exact h2
  · cases hi; exact h3
theorem C1.two {D : va_G} {a b : Nat} {e f : va_E} {H : Heap} (h1 : C1 D a e H) (h2 : C1 D b f H) : va_P D vwCl [(a, e), (b, f)] H := va_P.app h1 h2
theorem C1.three {D : va_G} {a b d : Nat} {e f g : va_E} {H : Heap} (h1 : C1 D a e H) (h2 : C1 D b f H) (h3 : C1 D d g H) : va_P D vwCl [(a, e), (b, f), (d, g)] H := va_P.app (h1.two h2) h3
section FXB
variable {p : Program} {l : Launch} {e : Env} {R : Room} {s : State} {m : MethodId} {args : Array Value} {below : List Frame} {meth : Method} {c : Code} {H : Heap} {locs : List Loc} {cells slots : Nat} {Q : State → Prop}
variable {cc : ByteArray} {pc : Nat} {ls : Array Slot} {rest : List Value} {D : va_G} {a : Nat} {tys : List (ClassId × FieldType)} {A : Nat → Prop} {H0 : Heap}
/-- a coordinate into an array of them, the coordinate's cell anywhere -/
theorem fx_aast (hexec : p.tables.exec = Jvm.exec) (hb : c.code = cc) (hK : Kn D tys s) {cA : ClassId} {n j v t0 : Nat} {vs : List Value} {f : Nat → Option Nat} (hP : C1 D a (Ar cA n f) H) (hS : va_S A H0 H locs) (hAa : A a) (ht : tys[t0]? = some (cA, .object "Coordinate")) (hv : C1 D v (.inr (1, vs)) H) (hj : j < n) (hn : n < 2 ^ 31) {i : Int32} (hi : i = nI j) (hdg : decode cc pc = .ok (.aastore, 1))
    (kk : ∀ (H1 : Heap) (locs1 : List Loc), C1 D a (Ar cA n (va_up f j (some v))) H1 → (∀ q : Nat, q ≠ a → H1[q]? = H[q]?) → H1.size = H.size → va_S A H0 H1 locs1 → W p l e R s m args below meth c H1 locs1 cells slots Q (F0 m (pc + 1) ls rest)) : W p l e R s m args below meth c H locs cells slots Q (F0 m pc ls (.ref v :: .int i :: .ref a :: rest)) := by
  subst hi
  have hin : vp_in (nI j) n := vp_in_nI hj hn
  have hlt : (nI j).toNatClampNeg < n := Nat.not_le.mp fun q => hin (Or.inr q)
  obtain ⟨r', hr', cellV, g1, g2, g3, -⟩ := hv 0 _ rfl
  have hcls := (hK.1.1 1 (RX2, TX2, 3) rfl).2
  obtain ⟨kA, comp, k1, k2, k3, -⟩ := (hK.1.2 t0 _ ht).2
  have hcomp : comp = D.1 1 := Option.some.inj (k3.symm.trans hcls.1)
  subst hcomp
  obtain ⟨kC, hkC, -⟩ := hcls.2
  refine W.aast hexec hb (hP 0 _ rfl) (fun q h => by cases h) (fun h => by cases h) k1 k2 rfl hkC ⟨fun q => hin (Or.inl q), by show _ < (arrV _ _ _).slots.size; rw [arrV_size]; exact hlt⟩ g1 (fun q h => by rw [g3] at h; cases h) (by rw [g2]; exact hkC) (by rw [g2]; exact va_assign hcls) rfl rfl hdg fun H1 he z oq => ?_
  refine kk H1 _ (C1.of ?_) oq z (hS.put z oq hAa)
  show H1[a]? = some (vp_cell _ _)
  rw [he, vp_cell_q, vp_cell_q, arrV_store, nI_clamp (by omega)]
  congr 2
  funext q
  by_cases hq : q = j
  · subst hq
    simp [updV, va_up, va_rf]
  · simp [updV, va_up, hq]
end FXB
set_option maxHeartbeats 4000000 in
set_option maxRecDepth 100000 in
/-- new Coordinate(x, y, z) -/
theorem m_Co_init3 (l : Launch) (D : va_G) (tys : List (ClassId × FieldType)) (h0 sz : Nat) (x y z : UInt64) : Met l yX2_init_2 (ws_ yX2_init_2 cX2_init_2 7 none) ({ frames := 1, cells := 0, slots := 0, locals := 12 }) (gPc D tys [.ref h0, .double x, .double y, .double z] sz (fun H => C1 D h0 (.inr (1, [.double 0, .double 0, .double 0])) H)) (va_Qv (fun _ : Unit => True) (fun _ t => C1 D h0 (.inr (1, [.double x, .double y, .double z])) t.heap) (Fr1 h0 sz)) 0 0 (Fr1 h0 sz) := by
  refine Met.ofW (cc := cX2_init_2) (maxL := 7) (ret := none) (by decide) rfl ?_
  intro p e s m args below meth c s₁ B hml hv
  obtain ⟨rfl, hsz, hP, hK⟩ := hv
  have hx := B.exec
  have hb := B.bytes
  have hr := B.returns
  have hts := atoms_spec (ws := ws_ yX2_init_2 cX2_init_2 7 none) B.pre
  have hts : ∀ w ∈ lw_all, w.before _ s = true := fun w h => hts w (List.mem_cons_of_mem _ h)
  have hown : s.vm.findClass RX2 = some m.cls := findClass_of_methodNamed B.named
  have hlocks := B.notSynchronized
  have hin : meth.name = yX2_init_2.name := (name_of_methodNamed B.named B.method).1
  subst hsz
  obtain ⟨A, hAe⟩ : ∃ A, A = Fr1 h0 s.heap.size := ⟨_, rfl⟩
  rw [← hAe]
  have hA : ∀ q : Nat, s.heap.size ≤ q → A q := fun q h => by rw [hAe]; exact Or.inr h
  have hS : va_S A s.heap s.heap [] := va_S.rf
  have hl := lv_entry ([.ref h0, .double x, .double y, .double z]) (n := 7) (Nat.le_of_ble_eq_true rfl)
  rw [lg_entry_eq]
  generalize (lg_sl ([.ref h0, .double x, .double y, .double z]) ++ List.replicate (7 - (lg_sl ([.ref h0, .double x, .double y, .double z])).length) Slot.unset).toArray = ls at hl ⊢
  have hAa : A h0 := by rw [hAe]; exact Or.inl rfl
  have hl : lv_has ls 7 [(0, .ref h0), (1, .double x), (3, .double y), (5, .double z)] := hl
  have hD : va_D A [(h0, .inr (1, [.double 0, .double 0, .double 0]))] := va_D1 hAa
  refine lv_aload_n hx hb dX2_init_2_0 rfl (lv_at hl 0 rfl) ?_
  refine W.objInit hx hb hown (hts _ q45) (hts _ q19) (hts _ q20) rfl (by rw [hml]; exact hl.1) rfl dX2_init_2_1 (Nat.le_of_ble_eq_true rfl) (Nat.le_of_ble_eq_true rfl) ?_
  refine W.eq (g2 := F0 m 4 ls []) rfl ?_
  refine lv_aload_n hx hb dX2_init_2_4 rfl (lv_at hl 0 rfl) ?_
  refine lv_dload_n hx hb dX2_init_2_5 rfl (lv_at hl 1 rfl) ?_
  refine va_put (D := D) (ci := 1) (v := .double x) (ty := .double) (C := RX2) (T := TX2) (N := 3) hx hb hts in_X2 tyX2 tyX2_ok nmX2 hown hK.1 hP hD hS 0 rfl rfl 0 (by decide) (hts _ q47) (fun _ h9 => h9) rfl (by decide +kernel) rfl rfl (Nat.le_of_ble_eq_true rfl) dX2_init_2_6 (fun H locs hP hD hS => ?_)
  have hP : va_P D vwCl [(h0, .inr (1, [.double x, .double 0, .double 0]))] H := hP
  have hD : va_D A [(h0, .inr (1, [.double x, .double 0, .double 0]))] := hD
  refine lv_aload_n hx hb dX2_init_2_9 rfl (lv_at hl 0 rfl) ?_
  refine lv_dload_n hx hb dX2_init_2_10 rfl (lv_at hl 2 rfl) ?_
  refine va_put (D := D) (ci := 1) (v := .double y) (ty := .double) (C := RX2) (T := TX2) (N := 3) hx hb hts in_X2 tyX2 tyX2_ok nmX2 hown hK.1 hP hD hS 0 rfl rfl 1 (by decide) (hts _ q51) (fun _ h9 => h9) rfl (by decide +kernel) rfl rfl (Nat.le_of_ble_eq_true rfl) dX2_init_2_11 (fun H locs hP hD hS => ?_)
  have hP : va_P D vwCl [(h0, .inr (1, [.double x, .double y, .double 0]))] H := hP
  have hD : va_D A [(h0, .inr (1, [.double x, .double y, .double 0]))] := hD
  refine lv_aload_n hx hb dX2_init_2_14 rfl (lv_at hl 0 rfl) ?_
  refine lv_dload hx hb dX2_init_2_15 (lv_at hl 3 rfl) ?_
  refine va_put (D := D) (ci := 1) (v := .double z) (ty := .double) (C := RX2) (T := TX2) (N := 3) hx hb hts in_X2 tyX2 tyX2_ok nmX2 hown hK.1 hP hD hS 0 rfl rfl 2 (by decide) (hts _ q54) (fun _ h9 => h9) rfl (by decide +kernel) rfl rfl (Nat.le_of_ble_eq_true rfl) dX2_init_2_17 (fun H locs hP hD hS => ?_)
  have hP : va_P D vwCl [(h0, .inr (1, [.double x, .double y, .double z]))] H := hP
  have hD : va_D A [(h0, .inr (1, [.double x, .double y, .double z]))] := hD
  exact W.vret hx hb hr (fun t ht hW => ⟨⟨(), rfl, trivial, by show C1 D h0 _ t.heap; rw [ht]; exact hP⟩, hS.F ht⟩) hS.2.2 dX2_init_2_20
set_option maxHeartbeats 4000000 in
set_option maxRecDepth 100000 in
/-- new Coordinate(x, y) -/
theorem m_Co_init2 (l : Launch) (D : va_G) (tys : List (ClassId × FieldType)) (h0 sz : Nat) (x y : UInt64) : Met l yX2_init (ws_ yX2_init cX2_init 5 none) ({ frames := 2, cells := 0, slots := 0, locals := 38 }) (gPc D tys [.ref h0, .double x, .double y] sz (fun H => C1 D h0 (.inr (1, [.double 0, .double 0, .double 0])) H)) (va_Qv (fun _ : Unit => True) (fun _ t => C1 D h0 (.inr (1, [.double x, .double y, .double 9221120237041090560])) t.heap) (Fr1 h0 sz)) 0 0 (Fr1 h0 sz) := by
  refine Met.ofW (cc := cX2_init) (maxL := 5) (ret := none) (by decide) rfl ?_
  intro p e s m args below meth c s₁ B hml hv
  obtain ⟨rfl, hsz, hP, hK⟩ := hv
  have hx := B.exec
  have hb := B.bytes
  have hr := B.returns
  have hts := atoms_spec (ws := ws_ yX2_init cX2_init 5 none) B.pre
  have hts : ∀ w ∈ lw_all, w.before _ s = true := fun w h => hts w (List.mem_cons_of_mem _ h)
  have hown : s.vm.findClass RX2 = some m.cls := findClass_of_methodNamed B.named
  have hlocks := B.notSynchronized
  have hin : meth.name = yX2_init.name := (name_of_methodNamed B.named B.method).1
  subst hsz
  obtain ⟨A, hAe⟩ : ∃ A, A = Fr1 h0 s.heap.size := ⟨_, rfl⟩
  rw [← hAe]
  have hA : ∀ q : Nat, s.heap.size ≤ q → A q := fun q h => by rw [hAe]; exact Or.inr h
  have hS : va_S A s.heap s.heap [] := va_S.rf
  have hl := lv_entry ([.ref h0, .double x, .double y]) (n := 5) (Nat.le_of_ble_eq_true rfl)
  rw [lg_entry_eq]
  generalize (lg_sl ([.ref h0, .double x, .double y]) ++ List.replicate (5 - (lg_sl ([.ref h0, .double x, .double y])).length) Slot.unset).toArray = ls at hl ⊢
  have hAa : A h0 := by rw [hAe]; exact Or.inl rfl
  have hl : lv_has ls 5 [(0, .ref h0), (1, .double x), (3, .double y)] := hl
  refine lv_aload_n hx hb dX2_init_0 rfl (lv_at hl 0 rfl) ?_
  refine lv_dload_n hx hb dX2_init_1 rfl (lv_at hl 1 rfl) ?_
  refine lv_dload_n hx hb dX2_init_2 rfl (lv_at hl 2 rfl) ?_
  refine lv_ldc2d hx hb hown (hts _ q41) dX2_init_3 ?_
  refine va_callv (va_runI (As := [.double x, .double y, .double 9221120237041090560]) (rest := []) ⟨hx, hb, hml, hown, hts⟩ (m_Co_init3 l D tys h0 _ x y 9221120237041090560) (cwI 3 hts (lw_meth q44) rfl rfl rfl (hts _ q7) (hts _ q42) (hts _ q43) rfl (by decide +kernel) ⟨Nat.le_of_ble_eq_true rfl, Nat.le_of_ble_eq_true rfl⟩) (gS rfl hP hK) rfl rfl hl.1 rfl (lv_room (Nat.le_of_ble_eq_true rfl)) dX2_init_6 ⟨Nat.le_of_ble_eq_true rfl, Nat.le_of_ble_eq_true rfl⟩) hS (fun q h1 h2 => h2.elim (fun e => e ▸ hAa) (fun h => absurd h (Nat.not_le.mpr h1))) (fun q h => h.elim (fun e => e ▸ hAa) (fun h => hA q (Nat.le_trans hS.1 h))) (fun u t H1 locs ht hvm hw hB hz hk hS => ?_)
  have hP : C1 D h0 (.inr (1, [.double x, .double y, .double 9221120237041090560])) H1 := by rw [← ht]; exact hB
  exact W.vret hx hb hr (fun t ht hW => ⟨⟨(), rfl, trivial, by show C1 D h0 _ t.heap; rw [ht]; exact hP⟩, hS.F ht⟩) hS.2.2 dX2_init_9
set_option maxHeartbeats 4000000 in
set_option maxRecDepth 100000 in
/-- TurnDesk.point: a new coordinate -/
theorem m_TD_point (l : Launch) (D : va_G) (tys : List (ClassId × FieldType)) (sz : Nat) (x y : Int32) : Met l yX1_point (ws_ yX1_point cX1_point 2 (some (.object "Coordinate"))) ({ frames := 3, cells := 1, slots := 3, locals := 62 }) (gPc D tys [.int x, .int y] sz (fun _ => True)) (va_Qr (fun _ : Unit => True) (fun _ ra t => sz ≤ ra ∧ C1 D ra (Co (qt x) (qt y)) t.heap) (Fr0 sz)) 1 3 (Fr0 sz) := by
  refine Met.ofW (cc := cX1_point) (maxL := 2) (ret := (some (.object "Coordinate"))) (by decide) rfl ?_
  intro p e s m args below meth c s₁ B hml hv
  obtain ⟨rfl, hsz, -, hK⟩ := hv
  have hx := B.exec
  have hb := B.bytes
  have hr := B.returns
  have hts := atoms_spec (ws := ws_ yX1_point cX1_point 2 (some (.object "Coordinate"))) B.pre
  have hts : ∀ w ∈ lw_all, w.before _ s = true := fun w h => hts w (List.mem_cons_of_mem _ h)
  have hown : s.vm.findClass RX1 = some m.cls := findClass_of_methodNamed B.named
  have hlocks := B.notSynchronized
  have hin : meth.name = yX1_point.name := (name_of_methodNamed B.named B.method).1
  subst hsz
  obtain ⟨A, hAe⟩ : ∃ A, A = Fr0 s.heap.size := ⟨_, rfl⟩
  rw [← hAe]
  have hA : ∀ q : Nat, s.heap.size ≤ q → A q := fun q h => by rw [hAe]; exact h
  have hS : va_S A s.heap s.heap [] := va_S.rf
  have hl := lv_entry ([.int x, .int y]) (n := 2) (Nat.le_of_ble_eq_true rfl)
  rw [lg_entry_eq]
  generalize (lg_sl ([.int x, .int y]) ++ List.replicate (2 - (lg_sl ([.int x, .int y])).length) Slot.unset).toArray = ls at hl ⊢
  have hl : lv_has ls 2 [(0, .int x), (1, .int y)] := hl
  refine va_new (D := D) (ci := 1) (fs := [.double 0, .double 0, .double 0]) (C := RX2) (T := TX2) (N := 3) hx hb hts in_X2 tyX2 tyX2_ok hown (hts _ q21) (hts _ q37) (hts _ q7) hK.1 (va_P0 (H := _)) va_D0 hS hA rfl (fun j hj => by rcases (show j = 0 ∨ j = 1 ∨ j = 2 by omega) with rfl | rfl | rfl <;> rfl) (Nat.le_of_ble_eq_true rfl) (Nat.le_of_ble_eq_true rfl) dX1_point_0 (fun q H hP hD hS => ?_)
  have hP : C1 D q (.inr (1, [.double 0, .double 0, .double 0])) H := hP
  have hAq : A q := hD.2 0 _ rfl
  refine lv_dup hx hb dX1_point_3 rfl ?_
  refine lv_iload_n hx hb dX1_point_4 rfl (lv_at hl 0 rfl) ?_
  refine lv_iconst (v := 2) hx hb dX1_point_5 (by decide) ?_
  refine lv_ishr hx hb dX1_point_6 ?_
  refine lv_i2d hx hb dX1_point_7 ?_
  refine lv_iload_n hx hb dX1_point_8 rfl (lv_at hl 1 rfl) ?_
  refine lv_iconst (v := 2) hx hb dX1_point_9 (by decide) ?_
  refine lv_ishr hx hb dX1_point_10 ?_
  refine lv_i2d hx hb dX1_point_11 ?_
  rw [qt_eq, qt_eq]
  refine va_callv (va_runI (As := [.double (FP.l2d (qt x)), .double (FP.l2d (qt y))]) (rest := [.ref q]) ⟨hx, hb, hml, hown, hts⟩ (m_Co_init2 l D tys q _ (FP.l2d (qt x)) (FP.l2d (qt y))) (cwI 2 hts (lw_meth q40) rfl rfl rfl (hts _ q7) (hts _ q38) (hts _ q39) rfl (by decide +kernel) ⟨Nat.le_of_ble_eq_true rfl, Nat.le_of_ble_eq_true rfl⟩) (gS rfl hP hK) rfl rfl hl.1 rfl (lv_room (Nat.le_of_ble_eq_true rfl)) dX1_point_12 ⟨Nat.le_of_ble_eq_true rfl, Nat.le_of_ble_eq_true rfl⟩) hS (fun q h1 h2 => h2.elim (fun e => e ▸ hAq) (fun h => absurd h (Nat.not_le.mpr h1))) (fun q h => h.elim (fun e => e ▸ hAq) (fun h => hA q (Nat.le_trans hS.1 h))) (fun u t H1 locs ht hvm hw hB hz hk hS => ?_)
  have hP : C1 D q (Co (qt x) (qt y)) H1 := by rw [← ht]; exact hB
  have hq0 : s.heap.size ≤ q := by rw [hAe] at hAq; exact hAq
  exact W.aret (v := .ref q) hx hb hr (Or.inl ⟨_, rfl⟩) (Or.inr ⟨_, rfl⟩) (fun t ht hW => ⟨⟨(), q, rfl, trivial, hq0, by rw [ht]; exact hP⟩, hS.F ht⟩) hS.2.2 dX1_point_15
set_option maxHeartbeats 4000000 in
set_option maxRecDepth 100000 in
/-- new TurnDesk -/
theorem m_TD_init (l : Launch) (D : va_G) (tys : List (ClassId × FieldType)) (h0 sz : Nat) : Met l yX1_init (ws_ yX1_init cX1_init 1 none) ({ frames := 1, cells := 1, slots := 16, locals := 12 }) (gPc D tys [.ref h0] sz (fun H => C1 D h0 (.inr (0, [.null, .int 0])) H)) (va_Qv (fun _ : Nat × ClassId => True) (fun u t => sz ≤ u.1 ∧ C1 D h0 (Dk u.1 0) t.heap ∧ C1 D u.1 (Ar u.2 16 (fun _ => none)) t.heap ∧ Kn D (tys ++ [(u.2, .object "Coordinate")]) t) (Fr1 h0 sz)) 1 16 (Fr1 h0 sz) := by
  refine Met.ofW (cc := cX1_init) (maxL := 1) (ret := none) (by decide) rfl ?_
  intro p e s m args below meth c s₁ B hml hv
  obtain ⟨rfl, hsz, hP, hK⟩ := hv
  have hx := B.exec
  have hb := B.bytes
  have hr := B.returns
  have hts := atoms_spec (ws := ws_ yX1_init cX1_init 1 none) B.pre
  have hts : ∀ w ∈ lw_all, w.before _ s = true := fun w h => hts w (List.mem_cons_of_mem _ h)
  have hown : s.vm.findClass RX1 = some m.cls := findClass_of_methodNamed B.named
  have hlocks := B.notSynchronized
  have hin : meth.name = yX1_init.name := (name_of_methodNamed B.named B.method).1
  subst hsz
  obtain ⟨A, hAe⟩ : ∃ A, A = Fr1 h0 s.heap.size := ⟨_, rfl⟩
  rw [← hAe]
  have hA : ∀ q : Nat, s.heap.size ≤ q → A q := fun q h => by rw [hAe]; exact Or.inr h
  have hS : va_S A s.heap s.heap [] := va_S.rf
  have hl := lv_entry ([.ref h0]) (n := 1) (Nat.le_of_ble_eq_true rfl)
  rw [lg_entry_eq]
  generalize (lg_sl ([.ref h0]) ++ List.replicate (1 - (lg_sl ([.ref h0])).length) Slot.unset).toArray = ls at hl ⊢
  have hAa : A h0 := by rw [hAe]; exact Or.inl rfl
  have hl : lv_has ls 1 [(0, .ref h0)] := hl
  have hD : va_D A [(h0, .inr (0, [.null, .int 0]))] := va_D1 hAa
  refine lv_aload_n hx hb dX1_init_0 rfl (lv_at hl 0 rfl) ?_
  refine W.objInit hx hb hown (hts _ q18) (hts _ q19) (hts _ q20) rfl (by rw [hml]; exact hl.1) rfl dX1_init_1 (Nat.le_of_ble_eq_true rfl) (Nat.le_of_ble_eq_true rfl) ?_
  refine W.eq (g2 := F0 m 4 ls []) rfl ?_
  refine lv_aload_n hx hb dX1_init_4 rfl (lv_at hl 0 rfl) ?_
  refine lv_bipush (v := 16) hx hb dX1_init_5 (by decide) ?_
  have hlt0 := hP.lt
  refine va_newq hx hb hown (hts _ q21) hK.2 hK.1 hP hD hS hA (N' := 16) (by decide) (by decide) (by decide) (Nat.le_of_ble_eq_true rfl) (Nat.le_of_ble_eq_true rfl) dX1_init_7 (fun q cA H hK1 hP hD hS => ?_)
  have hP : va_P D vwCl [(h0, .inr (0, [.null, .int 0])), (q, Ar cA 16 (fun _ => none))] H := hP
  have hD : va_D A [(h0, .inr (0, [.null, .int 0])), (q, Ar cA 16 (fun _ => none))] := hD
  have hqn : q ≠ h0 := fun h => absurd (hD.1 1 0 _ _ rfl rfl h) (by decide)
  have hAq : A q := hD.2 1 _ rfl
  refine va_putF (D := D) (ci := 0) (v := .ref q) (ty := (.array (.object "Coordinate"))) (C := RX1) (T := TX1) (N := 2) hx hb hts in_X1 tyX1 tyX1_ok nmX1 hown hK.1 hP hD hS 0 rfl rfl 0 (by decide) (hts _ q23) (fun _ h9 => h9) rfl hin rfl (by decide +kernel) rfl rfl (Nat.le_of_ble_eq_true rfl) dX1_init_10 (fun H locs hP hD hS => ?_)
  have hP : va_P D vwCl [(h0, .inr (0, [.ref q, .int 0])), (q, Ar cA 16 (fun _ => none))] H := hP
  have hD : va_D A [(h0, .inr (0, [.ref q, .int 0])), (q, Ar cA 16 (fun _ => none))] := hD
  have hq0 : s.heap.size ≤ q := by
    rw [hAe] at hAq
    rcases hAq with h | h
    · exact absurd h hqn
    · exact h
  exact W.vret hx hb hr (fun t ht hW => ⟨⟨(q, cA), rfl, trivial, hq0, by rw [ht]; exact hP.sub [0] rfl, by rw [ht]; exact hP.sub [1] rfl, Kn.moved hW.alike ⟨hK1, hK.2⟩⟩, hS.F ht⟩) hS.2.2 dX1_init_13
set_option maxHeartbeats 4000000 in
set_option maxRecDepth 100000 in
/-- wipe -/
theorem m_TD_wipe (l : Launch) (D : va_G) (tys : List (ClassId × FieldType)) (h0 pa sz : Nat) (n : Int32) : Met l yX1_wipe (ws_ yX1_wipe cX1_wipe 1 none) ({ frames := 0, cells := 0, slots := 0, locals := 0 }) (gPc D tys [.ref h0] sz (fun H => C1 D h0 (Dk pa n) H)) (va_Qv (fun _ : Unit => True) (fun _ t => C1 D h0 (Dk pa 0) t.heap) (Fr1 h0 sz)) 0 0 (Fr1 h0 sz) := by
  refine Met.ofW (cc := cX1_wipe) (maxL := 1) (ret := none) (by decide) rfl ?_
  intro p e s m args below meth c s₁ B hml hv
  obtain ⟨rfl, hsz, hP, hK⟩ := hv
  have hx := B.exec
  have hb := B.bytes
  have hr := B.returns
  have hts := atoms_spec (ws := ws_ yX1_wipe cX1_wipe 1 none) B.pre
  have hts : ∀ w ∈ lw_all, w.before _ s = true := fun w h => hts w (List.mem_cons_of_mem _ h)
  have hown : s.vm.findClass RX1 = some m.cls := findClass_of_methodNamed B.named
  have hlocks := B.notSynchronized
  have hin : meth.name = yX1_wipe.name := (name_of_methodNamed B.named B.method).1
  subst hsz
  obtain ⟨A, hAe⟩ : ∃ A, A = Fr1 h0 s.heap.size := ⟨_, rfl⟩
  rw [← hAe]
  have hA : ∀ q : Nat, s.heap.size ≤ q → A q := fun q h => by rw [hAe]; exact Or.inr h
  have hS : va_S A s.heap s.heap [] := va_S.rf
  have hl := lv_entry ([.ref h0]) (n := 1) (Nat.le_of_ble_eq_true rfl)
  rw [lg_entry_eq]
  generalize (lg_sl ([.ref h0]) ++ List.replicate (1 - (lg_sl ([.ref h0])).length) Slot.unset).toArray = ls at hl ⊢
  have hAa : A h0 := by rw [hAe]; exact Or.inl rfl
  have hl : lv_has ls 1 [(0, .ref h0)] := hl
  have hD : va_D A [(h0, Dk pa n)] := va_D1 hAa
  refine lv_aload_n hx hb dX1_wipe_0 rfl (lv_at hl 0 rfl) ?_
  refine lv_iconst (v := 0) hx hb dX1_wipe_1 (by decide) ?_
  refine va_put (D := D) (ci := 0) (v := .int 0) (ty := .int) (C := RX1) (T := TX1) (N := 2) hx hb hts in_X1 tyX1 tyX1_ok nmX1 hown hK.1 hP hD hS 0 rfl rfl 1 (by decide) (hts _ q24) (fun _ h9 => h9) rfl (by decide +kernel) rfl rfl (Nat.le_of_ble_eq_true rfl) dX1_wipe_2 (fun H locs hP hD hS => ?_)
  have hP : va_P D vwCl [(h0, .inr (0, [.ref pa, .int 0]))] H := hP
  have hD : va_D A [(h0, .inr (0, [.ref pa, .int 0]))] := hD
  exact W.vret hx hb hr (fun t ht hW => ⟨⟨(), rfl, trivial, by show C1 D h0 _ t.heap; rw [ht]; exact hP⟩, hS.F ht⟩) hS.2.2 dX1_wipe_5
set_option maxHeartbeats 4000000 in
set_option maxRecDepth 100000 in
/-- at -/
theorem m_TD_at (l : Launch) (D : va_G) (tys : List (ClassId × FieldType)) (h0 pa sz n t0 : Nat) (dA : ClassId) (f : Nat → Option Nat) (ad : Nat → Nat) (i : Int32) (hn : n ≤ 15) (ht0 : tys[t0]? = some (dA, .object "Coordinate")) (hf : ∀ j, j < n → f j = some (ad j)) (hn0 : 0 < n) : Met l yX1_at (ws_ yX1_at cX1_at 2 (some (.object "Coordinate"))) ({ frames := 0, cells := 0, slots := 0, locals := 0 }) (gPc D tys [.ref h0, .int i] sz (fun H => C1 D h0 (Dk pa (nI n)) H ∧ C1 D pa (Ar dA 16 f) H)) (va_Qr (fun _ : Unit => True) (fun _ ra t => ra = ad (pkN i n)) (Fr0 sz)) 0 0 (Fr0 sz) := by
  refine Met.ofW (cc := cX1_at) (maxL := 2) (ret := (some (.object "Coordinate"))) (by decide) rfl ?_
  intro p e s m args below meth c s₁ B hml hv
  obtain ⟨rfl, hsz, ⟨hP, hPa⟩, hK⟩ := hv
  have hx := B.exec
  have hb := B.bytes
  have hr := B.returns
  have hts := atoms_spec (ws := ws_ yX1_at cX1_at 2 (some (.object "Coordinate"))) B.pre
  have hts : ∀ w ∈ lw_all, w.before _ s = true := fun w h => hts w (List.mem_cons_of_mem _ h)
  have hown : s.vm.findClass RX1 = some m.cls := findClass_of_methodNamed B.named
  have hlocks := B.notSynchronized
  have hin : meth.name = yX1_at.name := (name_of_methodNamed B.named B.method).1
  subst hsz
  obtain ⟨A, hAe⟩ : ∃ A, A = Fr0 s.heap.size := ⟨_, rfl⟩
  rw [← hAe]
  have hA : ∀ q : Nat, s.heap.size ≤ q → A q := fun q h => by rw [hAe]; exact h
  have hS : va_S A s.heap s.heap [] := va_S.rf
  have hl := lv_entry ([.ref h0, .int i]) (n := 2) (Nat.le_of_ble_eq_true rfl)
  rw [lg_entry_eq]
  generalize (lg_sl ([.ref h0, .int i]) ++ List.replicate (2 - (lg_sl ([.ref h0, .int i])).length) Slot.unset).toArray = ls at hl ⊢
  have hl : lv_has ls 2 [(0, .ref h0), (1, .int i)] := hl
  refine lv_aload_n hx hb dX1_at_0 rfl (lv_at hl 0 rfl) ?_
  refine va_get (D := D) (ci := 0) (v := .ref pa) (C := RX1) (T := TX1) (N := 2) hx hb hts in_X1 hown hK.1 hP 0 rfl rfl 0 (by decide) (hts _ q23) (fun _ h9 => h9) rfl dX1_at_1 ?_
  refine lv_iload_n hx hb dX1_at_4 rfl (lv_at hl 1 rfl) ?_
  refine lv_ldc hx hb hown (hts _ q70) dX1_at_5 ?_
  refine lv_iand hx hb dX1_at_7 ?_
  refine lv_aload_n hx hb dX1_at_8 rfl (lv_at hl 0 rfl) ?_
  refine va_get (D := D) (ci := 0) (v := .int (nI n)) (C := RX1) (T := TX1) (N := 2) hx hb hts in_X1 hown hK.1 hP 0 rfl rfl 1 (by decide) (hts _ q24) (fun _ h9 => h9) rfl dX1_at_9 ?_
  refine lv_irem hx hb dX1_at_12 (nI_ne0 hn0 (by omega)) ?_
  rw [pkN_eq i hn0 hn]
  have hpl := pkN_lt i hn0
  refine fx_aald hx hb hK hPa ht0 (j := pkN i n) (by omega) (by omega) (hf _ hpl) rfl dX1_at_13 ?_
  exact W.aret (v := .ref (ad (pkN i n))) hx hb hr (Or.inl ⟨_, rfl⟩) (Or.inr ⟨_, rfl⟩) (fun t ht hW => ⟨⟨(), _, rfl, trivial, rfl⟩, hS.F ht⟩) hS.2.2 dX1_at_14
end
section
/-! WALKS of TurnDesk.turn, put, between: printed by wip/D-29928w/desk2.py -/
/-- a point so many eighths of the way -/
abbrev bw (a b : Int64) (k : Int32) : Int64 := (a * 8 + (b - a) * (k &&& 7).toInt64) >>> ((3 : Int32).toInt64 &&& 63)
set_option maxHeartbeats 4000000 in
set_option maxRecDepth 100000 in
/-- turn -/
theorem m_TD_turn (l : Launch) (D : va_G) (tys : List (ClassId × FieldType)) (h0 pa sz n t0 : Nat) (dA : ClassId) (f : Nat → Option Nat) (ad : Nat → Nat) (X Y : Nat → Int64) (i j k : Int32) (hn : n ≤ 15) (ht0 : tys[t0]? = some (dA, .object "Coordinate")) (hf : ∀ j, j < n → f j = some (ad j)) (bX : ∀ j, j < n → Bd (X j)) (bY : ∀ j, j < n → Bd (Y j)) : Met l yX1_turn (ws_ yX1_turn cX1_turn 4 (some .int)) ({ frames := 6, cells := 4, slots := 8, locals := 145 }) (gPc D tys [.ref h0, .int i, .int j, .int k] sz (fun H => C1 D h0 (Dk pa (nI n)) H ∧ C1 D pa (Ar dA 16 f) H ∧ ∀ j, j < n → C1 D (ad j) (Co (X j) (Y j)) H)) (va_Qi (fun (r : Int32) (_ : Unit) => r = if n = 0 then -9 else sgI (C64 (X (pkN i n)) (Y (pkN i n)) (X (pkN j n)) (Y (pkN j n)) (X (pkN k n)) (Y (pkN k n)))) (fun _ _ => True) (Fr0 sz)) 4 8 (Fr0 sz) := by
  refine Met.ofW (cc := cX1_turn) (maxL := 4) (ret := (some .int)) (by decide) rfl ?_
  intro p e s m args below meth c s₁ B hml hv
  obtain ⟨rfl, hsz, ⟨hP, hPa, hC⟩, hK⟩ := hv
  have hx := B.exec
  have hb := B.bytes
  have hr := B.returns
  have hts := atoms_spec (ws := ws_ yX1_turn cX1_turn 4 (some .int)) B.pre
  have hts : ∀ w ∈ lw_all, w.before _ s = true := fun w h => hts w (List.mem_cons_of_mem _ h)
  have hown : s.vm.findClass RX1 = some m.cls := findClass_of_methodNamed B.named
  have hlocks := B.notSynchronized
  have hin : meth.name = yX1_turn.name := (name_of_methodNamed B.named B.method).1
  subst hsz
  obtain ⟨A, hAe⟩ : ∃ A, A = Fr0 s.heap.size := ⟨_, rfl⟩
  rw [← hAe]
  have hA : ∀ q : Nat, s.heap.size ≤ q → A q := fun q h => by rw [hAe]; exact h
  have hS : va_S A s.heap s.heap [] := va_S.rf
  have hl := lv_entry ([.ref h0, .int i, .int j, .int k]) (n := 4) (Nat.le_of_ble_eq_true rfl)
  rw [lg_entry_eq]
  generalize (lg_sl ([.ref h0, .int i, .int j, .int k]) ++ List.replicate (4 - (lg_sl ([.ref h0, .int i, .int j, .int k])).length) Slot.unset).toArray = ls at hl ⊢
  have hl : lv_has ls 4 [(0, .ref h0), (1, .int i), (2, .int j), (3, .int k)] := hl
  refine lv_aload_n hx hb dX1_turn_0 rfl (lv_at hl 0 rfl) ?_
  refine va_get (D := D) (ci := 0) (v := .int (nI n)) (C := RX1) (T := TX1) (N := 2) hx hb hts in_X1 hown hK.1 hP 0 rfl rfl 1 (by decide) (hts _ q24) (fun _ h9 => h9) rfl dX1_turn_1 ?_
  refine lv_if_ne (tgt := 12) hx hb dX1_turn_4 (by decide) (fun c1 => ?_) (fun c1 => ?_)
  · have hn0 : 0 < n := by
      rcases Nat.eq_zero_or_pos n with h | h
      · exact absurd (by rw [h]; rfl) c1
      · exact h
    refine lv_aload_n hx hb dX1_turn_12 rfl (lv_at hl 0 rfl) ?_
    refine lv_iload_n hx hb dX1_turn_13 rfl (lv_at hl 1 rfl) ?_
    refine va_callr (va_runV (As := [.int i]) (rest := []) ⟨hx, hb, hml, hown, hts⟩ (m_TD_at l D tys h0 pa _ n t0 dA f ad i hn ht0 hf hn0) (cwV 1 hts (lw_V q66 q68 qs0 q6 q69) rfl rfl rfl (by decide +kernel) ⟨Nat.le_of_ble_eq_true rfl, Nat.le_of_ble_eq_true rfl⟩) (gV (va_recv hK.1 hP (ci := 0) (q0 := 0) rfl rfl) rfl ⟨hP, hPa⟩ hK) rfl rfl hl.1 rfl (lv_room (Nat.le_of_ble_eq_true rfl)) dX1_turn_14 ⟨Nat.le_of_ble_eq_true rfl, Nat.le_of_ble_eq_true rfl⟩) hS (fun q h1 h2 => absurd h2 (Nat.not_le.mpr h1)) (fun q h => hA q (Nat.le_trans hS.1 h)) (fun u1 ra1 t H1 locs ht hvm hw hB hz hk hS => ?_)
    have hB : ra1 = ad (pkN i n) := hB
    rw [hB]
    have hP := hP.keep0 hk
    have hPa := hPa.keep0 hk
    refine lv_aload_n hx hb dX1_turn_17 rfl (lv_at hl 0 rfl) ?_
    refine lv_iload_n hx hb dX1_turn_18 rfl (lv_at hl 2 rfl) ?_
    refine va_callr (va_runV (As := [.int j]) (rest := [.ref (ad (pkN i n))]) ⟨hx, hb, hml, hown, hts⟩ (m_TD_at l D tys h0 pa _ n t0 dA f ad j hn ht0 hf hn0) (cwV 1 hts (lw_V q66 q68 qs0 q6 q69) rfl rfl rfl (by decide +kernel) ⟨Nat.le_of_ble_eq_true rfl, Nat.le_of_ble_eq_true rfl⟩) (gV (va_recv hK.1 hP (ci := 0) (q0 := 0) rfl rfl) rfl ⟨hP, hPa⟩ hK) rfl rfl hl.1 rfl (lv_room (Nat.le_of_ble_eq_true rfl)) dX1_turn_19 ⟨Nat.le_of_ble_eq_true rfl, Nat.le_of_ble_eq_true rfl⟩) hS (fun q h1 h2 => absurd h2 (Nat.not_le.mpr h1)) (fun q h => hA q (Nat.le_trans hS.1 h)) (fun u2 ra2 t H2 locs ht hvm hw hB hz hk hS => ?_)
    have hB : ra2 = ad (pkN j n) := hB
    rw [hB]
    have hP := hP.keep0 hk
    have hPa := hPa.keep0 hk
    refine lv_aload_n hx hb dX1_turn_22 rfl (lv_at hl 0 rfl) ?_
    refine lv_iload_n hx hb dX1_turn_23 rfl (lv_at hl 3 rfl) ?_
    refine va_callr (va_runV (As := [.int k]) (rest := [.ref (ad (pkN j n)), .ref (ad (pkN i n))]) ⟨hx, hb, hml, hown, hts⟩ (m_TD_at l D tys h0 pa _ n t0 dA f ad k hn ht0 hf hn0) (cwV 1 hts (lw_V q66 q68 qs0 q6 q69) rfl rfl rfl (by decide +kernel) ⟨Nat.le_of_ble_eq_true rfl, Nat.le_of_ble_eq_true rfl⟩) (gV (va_recv hK.1 hP (ci := 0) (q0 := 0) rfl rfl) rfl ⟨hP, hPa⟩ hK) rfl rfl hl.1 rfl (lv_room (Nat.le_of_ble_eq_true rfl)) dX1_turn_24 ⟨Nat.le_of_ble_eq_true rfl, Nat.le_of_ble_eq_true rfl⟩) hS (fun q h1 h2 => absurd h2 (Nat.not_le.mpr h1)) (fun q h => hA q (Nat.le_trans hS.1 h)) (fun u3 ra3 t H3 locs ht hvm hw hB hz hk hS => ?_)
    have hB : ra3 = ad (pkN k n) := hB
    rw [hB]
    have hP := hP.keep0 hk
    have hPa := hPa.keep0 hk
    have hCi := (hC _ (pkN_lt i hn0)).keepS hAe hS
    have hCj := (hC _ (pkN_lt j hn0)).keepS hAe hS
    have hCk := (hC _ (pkN_lt k hn0)).keepS hAe hS
    refine va_calli (va_runS (As := [.ref (ad (pkN i n)), .ref (ad (pkN j n)), .ref (ad (pkN k n))]) (rest := []) ⟨hx, hb, hml, hown, hts⟩ (m_Or_index l D tys _ _ _ _ (X (pkN i n)) (Y (pkN i n)) (X (pkN j n)) (Y (pkN j n)) (X (pkN k n)) (Y (pkN k n)) (bX _ (pkN_lt i hn0)) (bY _ (pkN_lt i hn0)) (bX _ (pkN_lt j hn0)) (bY _ (pkN_lt j hn0)) (bX _ (pkN_lt k hn0)) (bY _ (pkN_lt k hn0))) (va_cwS 3 hts (lw_S q80 q81 q8 q82) rfl rfl rfl (by decide +kernel) ⟨Nat.le_of_ble_eq_true rfl, Nat.le_of_ble_eq_true rfl⟩) (gS rfl ⟨hCi, hCj, hCk⟩ hK) rfl rfl hl.1 rfl (lv_room (Nat.le_of_ble_eq_true rfl)) dX1_turn_27 ⟨Nat.le_of_ble_eq_true rfl, Nat.le_of_ble_eq_true rfl⟩) hS (fun q h1 h2 => absurd h2 (Nat.not_le.mpr h1)) (fun q h => hA q (Nat.le_trans hS.1 h)) (fun r u t H4 locs ht hvm hw hB hz hk hS => ?_)
    exact W.iret (v := r) hx hb hr (fun t ht hW => ⟨⟨r, (), rfl, by rw [if_neg (by omega)]; exact hw, trivial⟩, hS.F ht⟩) hS.2.2 dX1_turn_30
  · refine lv_bipush (v := (-9)) hx hb dX1_turn_7 (by decide) ?_
    refine lv_goto (tgt := 30) hx hb dX1_turn_9 (by decide) ?_
    have hn0 : n = 0 := by
      rcases Nat.eq_zero_or_pos n with h | h
      · exact h
      · exact absurd c1 (nI_ne0 h (by omega))
    refine W.widen (k := 4) (n := 8) (Nat.le_of_ble_eq_true rfl) (Nat.le_of_ble_eq_true rfl) ?_
    exact W.iret (v := (-9)) hx hb hr (fun t ht hW => ⟨⟨(-9), (), rfl, by rw [if_pos hn0], trivial⟩, hS.F ht⟩) hS.2.2 dX1_turn_30
set_option maxHeartbeats 4000000 in
set_option maxRecDepth 100000 in
/-- put refused -/
theorem m_TD_putNo (l : Launch) (D : va_G) (tys : List (ClassId × FieldType)) (h0 pa sz n t0 : Nat) (dA : ClassId) (f : Nat → Option Nat) (ad : Nat → Nat) (x y : Int32) (hn : n = 15) : Met l yX1_put (ws_ yX1_put cX1_put 3 (some .boolean)) ({ frames := 4, cells := 0, slots := 0, locals := 83 }) (gPc D tys [.ref h0, .int x, .int y] sz (fun H => C1 D h0 (Dk pa (nI n)) H ∧ C1 D pa (Ar dA 16 f) H)) (va_Qi (fun (r : Int32) (_ : Unit) => r = 0) (fun _ _ => True) (Fr0 sz)) 0 0 (Fr0 sz) := by
  refine Met.ofW (cc := cX1_put) (maxL := 3) (ret := (some .boolean)) (by decide) rfl ?_
  intro p e s m args below meth c s₁ B hml hv
  obtain ⟨rfl, hsz, ⟨hP, hPa⟩, hK⟩ := hv
  have hx := B.exec
  have hb := B.bytes
  have hr := B.returns
  have hts := atoms_spec (ws := ws_ yX1_put cX1_put 3 (some .boolean)) B.pre
  have hts : ∀ w ∈ lw_all, w.before _ s = true := fun w h => hts w (List.mem_cons_of_mem _ h)
  have hown : s.vm.findClass RX1 = some m.cls := findClass_of_methodNamed B.named
  have hlocks := B.notSynchronized
  have hin : meth.name = yX1_put.name := (name_of_methodNamed B.named B.method).1
  subst hsz
  obtain ⟨A, hAe⟩ : ∃ A, A = Fr0 s.heap.size := ⟨_, rfl⟩
  rw [← hAe]
  have hA : ∀ q : Nat, s.heap.size ≤ q → A q := fun q h => by rw [hAe]; exact h
  have hS : va_S A s.heap s.heap [] := va_S.rf
  have hl := lv_entry ([.ref h0, .int x, .int y]) (n := 3) (Nat.le_of_ble_eq_true rfl)
  rw [lg_entry_eq]
  generalize (lg_sl ([.ref h0, .int x, .int y]) ++ List.replicate (3 - (lg_sl ([.ref h0, .int x, .int y])).length) Slot.unset).toArray = ls at hl ⊢
  have hl : lv_has ls 3 [(0, .ref h0), (1, .int x), (2, .int y)] := hl
  refine lv_aload_n hx hb dX1_put_0 rfl (lv_at hl 0 rfl) ?_
  refine va_get (D := D) (ci := 0) (v := .int (nI n)) (C := RX1) (T := TX1) (N := 2) hx hb hts in_X1 hown hK.1 hP 0 rfl rfl 1 (by decide) (hts _ q24) (fun _ h9 => h9) rfl dX1_put_1 ?_
  refine lv_bipush (v := 15) hx hb dX1_put_4 (by decide) ?_
  subst hn
  refine lv_icmp_lt (tgt := 11) hx hb dX1_put_6 (by decide) (fun c1 => ?_) (fun c1 => ?_)
  · exact absurd c1 (by decide)
  · refine lv_iconst (v := 0) hx hb dX1_put_9 (by decide) ?_
    exact W.zret (v := 0) hx hb hr rfl (fun t ht hW => ⟨⟨0, (), rfl, rfl, trivial⟩, hS.F ht⟩) hS.2.2 dX1_put_10
set_option maxHeartbeats 4000000 in
set_option maxRecDepth 100000 in
/-- put taken -/
theorem m_TD_put (l : Launch) (D : va_G) (tys : List (ClassId × FieldType)) (h0 pa sz n t0 : Nat) (dA : ClassId) (f : Nat → Option Nat) (ad : Nat → Nat) (x y : Int32) (hn : n < 15) (ht0 : tys[t0]? = some (dA, .object "Coordinate")) (hne : h0 ≠ pa) : Met l yX1_put (ws_ yX1_put cX1_put 3 (some .boolean)) ({ frames := 4, cells := 1, slots := 3, locals := 83 }) (gPc D tys [.ref h0, .int x, .int y] sz (fun H => C1 D h0 (Dk pa (nI n)) H ∧ C1 D pa (Ar dA 16 f) H)) (va_Qi (fun (r : Int32) (_ : Nat) => r = 1) (fun u t => sz ≤ u ∧ C1 D h0 (Dk pa (nI (n + 1))) t.heap ∧ C1 D pa (Ar dA 16 (va_up f n (some u))) t.heap ∧ C1 D u (Co (qt x) (qt y)) t.heap) (Fr2 h0 pa sz)) 1 3 (Fr2 h0 pa sz) := by
  refine Met.ofW (cc := cX1_put) (maxL := 3) (ret := (some .boolean)) (by decide) rfl ?_
  intro p e s m args below meth c s₁ B hml hv
  obtain ⟨rfl, hsz, ⟨hP, hPa⟩, hK⟩ := hv
  have hx := B.exec
  have hb := B.bytes
  have hr := B.returns
  have hts := atoms_spec (ws := ws_ yX1_put cX1_put 3 (some .boolean)) B.pre
  have hts : ∀ w ∈ lw_all, w.before _ s = true := fun w h => hts w (List.mem_cons_of_mem _ h)
  have hown : s.vm.findClass RX1 = some m.cls := findClass_of_methodNamed B.named
  have hlocks := B.notSynchronized
  have hin : meth.name = yX1_put.name := (name_of_methodNamed B.named B.method).1
  subst hsz
  obtain ⟨A, hAe⟩ : ∃ A, A = Fr2 h0 pa s.heap.size := ⟨_, rfl⟩
  rw [← hAe]
  have hA : ∀ q : Nat, s.heap.size ≤ q → A q := fun q h => by rw [hAe]; exact Or.inr (Or.inr h)
  have hS : va_S A s.heap s.heap [] := va_S.rf
  have hl := lv_entry ([.ref h0, .int x, .int y]) (n := 3) (Nat.le_of_ble_eq_true rfl)
  rw [lg_entry_eq]
  generalize (lg_sl ([.ref h0, .int x, .int y]) ++ List.replicate (3 - (lg_sl ([.ref h0, .int x, .int y])).length) Slot.unset).toArray = ls at hl ⊢
  have hAa : A h0 := by rw [hAe]; exact Or.inl rfl
  have hAb : A pa := by rw [hAe]; exact Or.inr (Or.inl rfl)
  have hl : lv_has ls 3 [(0, .ref h0), (1, .int x), (2, .int y)] := hl
  refine lv_aload_n hx hb dX1_put_0 rfl (lv_at hl 0 rfl) ?_
  refine va_get (D := D) (ci := 0) (v := .int (nI n)) (C := RX1) (T := TX1) (N := 2) hx hb hts in_X1 hown hK.1 hP 0 rfl rfl 1 (by decide) (hts _ q24) (fun _ h9 => h9) rfl dX1_put_1 ?_
  refine lv_bipush (v := 15) hx hb dX1_put_4 (by decide) ?_
  refine lv_icmp_lt (tgt := 11) hx hb dX1_put_6 (by decide) (fun c1 => ?_) (fun c1 => ?_)
  · refine lv_aload_n hx hb dX1_put_11 rfl (lv_at hl 0 rfl) ?_
    refine va_get (D := D) (ci := 0) (v := .ref pa) (C := RX1) (T := TX1) (N := 2) hx hb hts in_X1 hown hK.1 hP 0 rfl rfl 0 (by decide) (hts _ q23) (fun _ h9 => h9) rfl dX1_put_12 ?_
    refine lv_aload_n hx hb dX1_put_15 rfl (lv_at hl 0 rfl) ?_
    refine va_get (D := D) (ci := 0) (v := .int (nI n)) (C := RX1) (T := TX1) (N := 2) hx hb hts in_X1 hown hK.1 hP 0 rfl rfl 1 (by decide) (hts _ q24) (fun _ h9 => h9) rfl dX1_put_16 ?_
    refine lv_iload_n hx hb dX1_put_19 rfl (lv_at hl 1 rfl) ?_
    refine lv_iload_n hx hb dX1_put_20 rfl (lv_at hl 2 rfl) ?_
    refine va_callr (va_runS (As := [.int x, .int y]) (rest := [.int (nI n), .ref pa]) ⟨hx, hb, hml, hown, hts⟩ (m_TD_point l D tys _ x y) (va_cwS 2 hts (lw_S q34 q35 q6 q36) rfl rfl rfl (by decide +kernel) ⟨Nat.le_of_ble_eq_true rfl, Nat.le_of_ble_eq_true rfl⟩) (gS rfl trivial hK) rfl rfl hl.1 rfl (lv_room (Nat.le_of_ble_eq_true rfl)) dX1_put_21 ⟨Nat.le_of_ble_eq_true rfl, Nat.le_of_ble_eq_true rfl⟩) hS (fun q h1 h2 => absurd h2 (Nat.not_le.mpr h1)) (fun q h => hA q (Nat.le_trans hS.1 h)) (fun u q t H1 locs ht hvm hw hB hz hk hS => ?_)
    obtain ⟨hq0, hC⟩ := hB
    rw [ht] at hC
    have hn1 : h0 ≠ q := Nat.ne_of_lt (Nat.lt_of_lt_of_le hP.lt hq0)
    have hn2 : pa ≠ q := Nat.ne_of_lt (Nat.lt_of_lt_of_le hPa.lt hq0)
    have hAq : A q := hA q hq0
    have hP := hP.keep0 hk
    have hPa := hPa.keep0 hk
    have hP3 := hP.three hPa hC
    have hD3 : va_D A [(h0, Dk pa (nI n)), (pa, Ar dA 16 f), (q, Co (qt x) (qt y))] := va_D3 hAa hAb hAq hne hn1 hn2
    refine va_astq (D := D) (r := (RX2, TX2, 3)) hx hb hK.1 hP3 hD3 hS 1 t0 2 1 rfl ht0 rfl rfl (vp_in_nI (by omega) (by decide)) dX1_put_24 (fun H locs hP hD hS => ?_)
    rw [nI_clamp (show n < 2 ^ 31 by omega)] at hP
    have hP : va_P D vwCl [(h0, Dk pa (nI n)), (pa, Ar dA 16 (va_up f n (some q))), (q, Co (qt x) (qt y))] H := hP
    have hD : va_D A [(h0, Dk pa (nI n)), (pa, Ar dA 16 (va_up f n (some q))), (q, Co (qt x) (qt y))] := hD.re rfl
    refine lv_aload_n hx hb dX1_put_25 rfl (lv_at hl 0 rfl) ?_
    refine lv_dup hx hb dX1_put_26 rfl ?_
    refine va_get (D := D) (ci := 0) (v := .int (nI n)) (C := RX1) (T := TX1) (N := 2) hx hb hts in_X1 hown hK.1 hP 0 rfl rfl 1 (by decide) (hts _ q24) (fun _ h9 => h9) rfl dX1_put_27 ?_
    refine lv_iconst (v := 1) hx hb dX1_put_30 (by decide) ?_
    refine lv_iadd hx hb dX1_put_31 ?_
    refine va_put (D := D) (ci := 0) (v := .int ((nI n) + 1)) (ty := .int) (C := RX1) (T := TX1) (N := 2) hx hb hts in_X1 tyX1 tyX1_ok nmX1 hown hK.1 hP hD hS 0 rfl rfl 1 (by decide) (hts _ q24) (fun _ h9 => h9) rfl (by decide +kernel) rfl rfl (Nat.le_of_ble_eq_true rfl) dX1_put_32 (fun H locs hP hD hS => ?_)
    have hP : va_P D vwCl [(h0, .inr (0, [.ref pa, .int ((nI n) + 1)])), (pa, Ar dA 16 (va_up f n (some q))), (q, Co (qt x) (qt y))] H := hP
    have hD : va_D A [(h0, .inr (0, [.ref pa, .int ((nI n) + 1)])), (pa, Ar dA 16 (va_up f n (some q))), (q, Co (qt x) (qt y))] := hD
    refine lv_iconst (v := 1) hx hb dX1_put_35 (by decide) ?_
    have hPf : va_P D vwCl [(h0, Dk pa (nI (n + 1))), (pa, Ar dA 16 (va_up f n (some q))), (q, Co (qt x) (qt y))] H := by rw [← nI_1]; exact hP
    exact W.zret (v := 1) hx hb hr rfl (fun t ht hW => ⟨⟨1, q, rfl, rfl, hq0, by rw [ht]; exact hPf.sub [0] rfl, by rw [ht]; exact hPf.sub [1] rfl, by rw [ht]; exact hPf.sub [2] rfl⟩, hS.F ht⟩) hS.2.2 dX1_put_36
  · exact absurd (show nI n < nI 15 from nI_lt hn (by decide)) c1
set_option maxHeartbeats 4000000 in
set_option maxRecDepth 100000 in
/-- between refused -/
theorem m_TD_btwNo (l : Launch) (D : va_G) (tys : List (ClassId × FieldType)) (h0 pa sz n t0 : Nat) (dA : ClassId) (f : Nat → Option Nat) (ad : Nat → Nat) (X Y : Nat → Int64) (i j k : Int32) (hn : n < 2 ∨ n = 15) : Met l yX1_between (ws_ yX1_between cX1_between 10 (some .boolean)) ({ frames := 3, cells := 0, slots := 0, locals := 62 }) (gPc D tys [.ref h0, .int i, .int j, .int k] sz (fun H => C1 D h0 (Dk pa (nI n)) H ∧ C1 D pa (Ar dA 16 f) H ∧ ∀ j, j < n → C1 D (ad j) (Co (X j) (Y j)) H)) (va_Qi (fun (r : Int32) (_ : Unit) => r = 0) (fun _ _ => True) (Fr0 sz)) 0 0 (Fr0 sz) := by
  refine Met.ofW (cc := cX1_between) (maxL := 10) (ret := (some .boolean)) (by decide) rfl ?_
  intro p e s m args below meth c s₁ B hml hv
  obtain ⟨rfl, hsz, ⟨hP, hPa, hC0⟩, hK⟩ := hv
  have hx := B.exec
  have hb := B.bytes
  have hr := B.returns
  have hts := atoms_spec (ws := ws_ yX1_between cX1_between 10 (some .boolean)) B.pre
  have hts : ∀ w ∈ lw_all, w.before _ s = true := fun w h => hts w (List.mem_cons_of_mem _ h)
  have hown : s.vm.findClass RX1 = some m.cls := findClass_of_methodNamed B.named
  have hlocks := B.notSynchronized
  have hin : meth.name = yX1_between.name := (name_of_methodNamed B.named B.method).1
  subst hsz
  obtain ⟨A, hAe⟩ : ∃ A, A = Fr0 s.heap.size := ⟨_, rfl⟩
  rw [← hAe]
  have hA : ∀ q : Nat, s.heap.size ≤ q → A q := fun q h => by rw [hAe]; exact h
  have hS : va_S A s.heap s.heap [] := va_S.rf
  have hl := lv_entry ([.ref h0, .int i, .int j, .int k]) (n := 10) (Nat.le_of_ble_eq_true rfl)
  rw [lg_entry_eq]
  generalize (lg_sl ([.ref h0, .int i, .int j, .int k]) ++ List.replicate (10 - (lg_sl ([.ref h0, .int i, .int j, .int k])).length) Slot.unset).toArray = ls at hl ⊢
  have hl : lv_has ls 10 [(0, .ref h0), (1, .int i), (2, .int j), (3, .int k)] := hl
  refine lv_aload_n hx hb dX1_between_0 rfl (lv_at hl 0 rfl) ?_
  refine va_get (D := D) (ci := 0) (v := .int (nI n)) (C := RX1) (T := TX1) (N := 2) hx hb hts in_X1 hown hK.1 hP 0 rfl rfl 1 (by decide) (hts _ q24) (fun _ h9 => h9) rfl dX1_between_1 ?_
  refine lv_iconst (v := 2) hx hb dX1_between_4 (by decide) ?_
  refine lv_icmp_lt (tgt := 17) hx hb dX1_between_5 (by decide) (fun c1 => ?_) (fun c1 => ?_)
  · refine lv_iconst (v := 0) hx hb dX1_between_17 (by decide) ?_
    exact W.zret (v := 0) hx hb hr rfl (fun t ht hW => ⟨⟨0, (), rfl, rfl, trivial⟩, hS.F ht⟩) hS.2.2 dX1_between_18
  · refine lv_aload_n hx hb dX1_between_8 rfl (lv_at hl 0 rfl) ?_
    refine va_get (D := D) (ci := 0) (v := .int (nI n)) (C := RX1) (T := TX1) (N := 2) hx hb hts in_X1 hown hK.1 hP 0 rfl rfl 1 (by decide) (hts _ q24) (fun _ h9 => h9) rfl dX1_between_9 ?_
    refine lv_bipush (v := 15) hx hb dX1_between_12 (by decide) ?_
    refine lv_icmp_lt (tgt := 19) hx hb dX1_between_14 (by decide) (fun c2 => ?_) (fun c2 => ?_)
    · rcases hn with h | h
      · exact absurd (show nI n < nI 2 from nI_lt h (by decide)) c1
      · rw [h] at c2
        exact absurd c2 (by decide)
    · refine lv_iconst (v := 0) hx hb dX1_between_17 (by decide) ?_
      exact W.zret (v := 0) hx hb hr rfl (fun t ht hW => ⟨⟨0, (), rfl, rfl, trivial⟩, hS.F ht⟩) hS.2.2 dX1_between_18
set_option maxHeartbeats 4000000 in
set_option maxRecDepth 100000 in
/-- between taken -/
theorem m_TD_btw (l : Launch) (D : va_G) (tys : List (ClassId × FieldType)) (h0 pa sz n t0 : Nat) (dA : ClassId) (f : Nat → Option Nat) (ad : Nat → Nat) (X Y : Nat → Int64) (i j k : Int32) (hn2 : 2 ≤ n) (hn15 : n < 15) (ht0 : tys[t0]? = some (dA, .object "Coordinate")) (hf : ∀ j, j < n → f j = some (ad j)) (hne : h0 ≠ pa) (bX : ∀ j, j < n → Bd (X j)) (bY : ∀ j, j < n → Bd (Y j)) : Met l yX1_between (ws_ yX1_between cX1_between 10 (some .boolean)) ({ frames := 3, cells := 1, slots := 3, locals := 62 }) (gPc D tys [.ref h0, .int i, .int j, .int k] sz (fun H => C1 D h0 (Dk pa (nI n)) H ∧ C1 D pa (Ar dA 16 f) H ∧ ∀ j, j < n → C1 D (ad j) (Co (X j) (Y j)) H)) (va_Qi (fun (r : Int32) (_ : Nat) => r = 1) (fun u t => sz ≤ u ∧ C1 D h0 (Dk pa (nI (n + 1))) t.heap ∧ C1 D pa (Ar dA 16 (va_up f n (some u))) t.heap ∧ C1 D u (Co (bw (X (pkN i n)) (X (pkN j n)) k) (bw (Y (pkN i n)) (Y (pkN j n)) k)) t.heap) (Fr2 h0 pa sz)) 1 3 (Fr2 h0 pa sz) := by
  refine Met.ofW (cc := cX1_between) (maxL := 10) (ret := (some .boolean)) (by decide) rfl ?_
  intro p e s m args below meth c s₁ B hml hv
  obtain ⟨rfl, hsz, ⟨hP, hPa, hC0⟩, hK⟩ := hv
  have hx := B.exec
  have hb := B.bytes
  have hr := B.returns
  have hts := atoms_spec (ws := ws_ yX1_between cX1_between 10 (some .boolean)) B.pre
  have hts : ∀ w ∈ lw_all, w.before _ s = true := fun w h => hts w (List.mem_cons_of_mem _ h)
  have hown : s.vm.findClass RX1 = some m.cls := findClass_of_methodNamed B.named
  have hlocks := B.notSynchronized
  have hin : meth.name = yX1_between.name := (name_of_methodNamed B.named B.method).1
  subst hsz
  obtain ⟨A, hAe⟩ : ∃ A, A = Fr2 h0 pa s.heap.size := ⟨_, rfl⟩
  rw [← hAe]
  have hA : ∀ q : Nat, s.heap.size ≤ q → A q := fun q h => by rw [hAe]; exact Or.inr (Or.inr h)
  have hS : va_S A s.heap s.heap [] := va_S.rf
  have hl := lv_entry ([.ref h0, .int i, .int j, .int k]) (n := 10) (Nat.le_of_ble_eq_true rfl)
  rw [lg_entry_eq]
  generalize (lg_sl ([.ref h0, .int i, .int j, .int k]) ++ List.replicate (10 - (lg_sl ([.ref h0, .int i, .int j, .int k])).length) Slot.unset).toArray = ls at hl ⊢
  have hAa : A h0 := by rw [hAe]; exact Or.inl rfl
  have hAb : A pa := by rw [hAe]; exact Or.inr (Or.inl rfl)
  have hl : lv_has ls 10 [(0, .ref h0), (1, .int i), (2, .int j), (3, .int k)] := hl
  have hn : n ≤ 15 := by omega
  have hn0 : 0 < n := by omega
  refine lv_aload_n hx hb dX1_between_0 rfl (lv_at hl 0 rfl) ?_
  refine va_get (D := D) (ci := 0) (v := .int (nI n)) (C := RX1) (T := TX1) (N := 2) hx hb hts in_X1 hown hK.1 hP 0 rfl rfl 1 (by decide) (hts _ q24) (fun _ h9 => h9) rfl dX1_between_1 ?_
  refine lv_iconst (v := 2) hx hb dX1_between_4 (by decide) ?_
  refine lv_icmp_lt (tgt := 17) hx hb dX1_between_5 (by decide) (fun c1 => ?_) (fun c1 => ?_)
  · exact absurd c1 (show ¬ nI n < nI 2 from nI_nlt hn2 (by omega))
  · refine lv_aload_n hx hb dX1_between_8 rfl (lv_at hl 0 rfl) ?_
    refine va_get (D := D) (ci := 0) (v := .int (nI n)) (C := RX1) (T := TX1) (N := 2) hx hb hts in_X1 hown hK.1 hP 0 rfl rfl 1 (by decide) (hts _ q24) (fun _ h9 => h9) rfl dX1_between_9 ?_
    refine lv_bipush (v := 15) hx hb dX1_between_12 (by decide) ?_
    refine lv_icmp_lt (tgt := 19) hx hb dX1_between_14 (by decide) (fun c2 => ?_) (fun c2 => ?_)
    · have hCi := hC0 _ (pkN_lt i hn0)
      have hCj := hC0 _ (pkN_lt j hn0)
      refine lv_aload_n hx hb dX1_between_19 rfl (lv_at hl 0 rfl) ?_
      refine lv_iload_n hx hb dX1_between_20 rfl (lv_at hl 1 rfl) ?_
      refine va_callr (va_runV (As := [.int i]) (rest := []) ⟨hx, hb, hml, hown, hts⟩ (m_TD_at l D tys h0 pa _ n t0 dA f ad i hn ht0 hf hn0) (cwV 1 hts (lw_V q66 q68 qs0 q6 q69) rfl rfl rfl (by decide +kernel) ⟨Nat.le_of_ble_eq_true rfl, Nat.le_of_ble_eq_true rfl⟩) (gV (va_recv hK.1 hP (ci := 0) (q0 := 0) rfl rfl) rfl ⟨hP, hPa⟩ hK) rfl rfl hl.1 rfl (lv_room (Nat.le_of_ble_eq_true rfl)) dX1_between_21 ⟨Nat.le_of_ble_eq_true rfl, Nat.le_of_ble_eq_true rfl⟩) hS (fun q h1 h2 => absurd h2 (Nat.not_le.mpr h1)) (fun q h => hA q (Nat.le_trans hS.1 h)) (fun u1 ra1 t H1 locs ht hvm hw hB hz hk hS => ?_)
      have hB : ra1 = ad (pkN i n) := hB
      rw [hB]
      have hP := hP.keep0 hk
      have hPa := hPa.keep0 hk
      have hCi := hCi.keep0 hk
      have hCj := hCj.keep0 hk
      refine lv_astore (lv' := [(4, .ref (ad (pkN i n))), (0, .ref h0), (1, .int i), (2, .int j), (3, .int k)]) hx hb dX1_between_24 hl (by decide) rfl (fun ls hl => ?_)
      refine lv_aload_n hx hb dX1_between_26 rfl (lv_at hl 1 rfl) ?_
      refine lv_iload_n hx hb dX1_between_27 rfl (lv_at hl 3 rfl) ?_
      refine va_callr (va_runV (As := [.int j]) (rest := []) ⟨hx, hb, hml, hown, hts⟩ (m_TD_at l D tys h0 pa _ n t0 dA f ad j hn ht0 hf hn0) (cwV 1 hts (lw_V q66 q68 qs0 q6 q69) rfl rfl rfl (by decide +kernel) ⟨Nat.le_of_ble_eq_true rfl, Nat.le_of_ble_eq_true rfl⟩) (gV (va_recv hK.1 hP (ci := 0) (q0 := 0) rfl rfl) rfl ⟨hP, hPa⟩ hK) rfl rfl hl.1 rfl (lv_room (Nat.le_of_ble_eq_true rfl)) dX1_between_28 ⟨Nat.le_of_ble_eq_true rfl, Nat.le_of_ble_eq_true rfl⟩) hS (fun q h1 h2 => absurd h2 (Nat.not_le.mpr h1)) (fun q h => hA q (Nat.le_trans hS.1 h)) (fun u2 ra2 t H2 locs ht hvm hw hB hz hk hS => ?_)
      have hB : ra2 = ad (pkN j n) := hB
      rw [hB]
      have hP := hP.keep0 hk
      have hPa := hPa.keep0 hk
      have hCi := hCi.keep0 hk
      have hCj := hCj.keep0 hk
      refine lv_astore (lv' := [(5, .ref (ad (pkN j n))), (4, .ref (ad (pkN i n))), (0, .ref h0), (1, .int i), (2, .int j), (3, .int k)]) hx hb dX1_between_31 hl (by decide) rfl (fun ls hl => ?_)
      refine lv_aload hx hb dX1_between_33 (lv_at hl 1 rfl) ?_
      refine va_get (D := D) (ci := 1) (v := .double (FP.l2d (X (pkN i n)))) (C := RX2) (T := TX2) (N := 3) hx hb hts in_X2 hown hK.1 hCi 0 rfl rfl 0 (by decide) (hts _ q49) (fun _ h9 => h9) rfl dX1_between_35 ?_
      refine lv_d2l hx hb dX1_between_38 ?_
      rw [d2l_l2d (B29.abs53 (bX _ (pkN_lt i hn0)))]
      refine lv_ldc2 hx hb hown (hts _ q71) dX1_between_39 ?_
      refine lv_lmul hx hb dX1_between_42 ?_
      refine lv_aload hx hb dX1_between_43 (lv_at hl 0 rfl) ?_
      refine va_get (D := D) (ci := 1) (v := .double (FP.l2d (X (pkN j n)))) (C := RX2) (T := TX2) (N := 3) hx hb hts in_X2 hown hK.1 hCj 0 rfl rfl 0 (by decide) (hts _ q49) (fun _ h9 => h9) rfl dX1_between_45 ?_
      refine lv_d2l hx hb dX1_between_48 ?_
      rw [d2l_l2d (B29.abs53 (bX _ (pkN_lt j hn0)))]
      refine lv_aload hx hb dX1_between_49 (lv_at hl 1 rfl) ?_
      refine va_get (D := D) (ci := 1) (v := .double (FP.l2d (X (pkN i n)))) (C := RX2) (T := TX2) (N := 3) hx hb hts in_X2 hown hK.1 hCi 0 rfl rfl 0 (by decide) (hts _ q49) (fun _ h9 => h9) rfl dX1_between_51 ?_
      refine lv_d2l hx hb dX1_between_54 ?_
      rw [d2l_l2d (B29.abs53 (bX _ (pkN_lt i hn0)))]
      refine lv_lsub hx hb dX1_between_55 ?_
      refine lv_iload_n hx hb dX1_between_56 rfl (lv_at hl 5 rfl) ?_
      refine lv_bipush (v := 7) hx hb dX1_between_57 (by decide) ?_
      refine lv_iand hx hb dX1_between_59 ?_
      refine lv_i2l hx hb dX1_between_60 rfl ?_
      refine lv_lmul hx hb dX1_between_61 ?_
      refine lv_ladd hx hb dX1_between_62 ?_
      refine lv_topl (fun lx elx => ?_)
      refine lv_lstore (lv' := [(6, .long lx), (5, .ref (ad (pkN j n))), (4, .ref (ad (pkN i n))), (0, .ref h0), (1, .int i), (2, .int j), (3, .int k)]) hx hb dX1_between_63 hl (by decide) rfl (fun ls hl => ?_)
      refine lv_aload hx hb dX1_between_65 (lv_at hl 2 rfl) ?_
      refine va_get (D := D) (ci := 1) (v := .double (FP.l2d (Y (pkN i n)))) (C := RX2) (T := TX2) (N := 3) hx hb hts in_X2 hown hK.1 hCi 0 rfl rfl 1 (by decide) (hts _ q53) (fun _ h9 => h9) rfl dX1_between_67 ?_
      refine lv_d2l hx hb dX1_between_70 ?_
      rw [d2l_l2d (B29.abs53 (bY _ (pkN_lt i hn0)))]
      refine lv_ldc2 hx hb hown (hts _ q71) dX1_between_71 ?_
      refine lv_lmul hx hb dX1_between_74 ?_
      refine lv_aload hx hb dX1_between_75 (lv_at hl 1 rfl) ?_
      refine va_get (D := D) (ci := 1) (v := .double (FP.l2d (Y (pkN j n)))) (C := RX2) (T := TX2) (N := 3) hx hb hts in_X2 hown hK.1 hCj 0 rfl rfl 1 (by decide) (hts _ q53) (fun _ h9 => h9) rfl dX1_between_77 ?_
      refine lv_d2l hx hb dX1_between_80 ?_
      rw [d2l_l2d (B29.abs53 (bY _ (pkN_lt j hn0)))]
      refine lv_aload hx hb dX1_between_81 (lv_at hl 2 rfl) ?_
      refine va_get (D := D) (ci := 1) (v := .double (FP.l2d (Y (pkN i n)))) (C := RX2) (T := TX2) (N := 3) hx hb hts in_X2 hown hK.1 hCi 0 rfl rfl 1 (by decide) (hts _ q53) (fun _ h9 => h9) rfl dX1_between_83 ?_
      refine lv_d2l hx hb dX1_between_86 ?_
      rw [d2l_l2d (B29.abs53 (bY _ (pkN_lt i hn0)))]
      refine lv_lsub hx hb dX1_between_87 ?_
      refine lv_iload_n hx hb dX1_between_88 rfl (lv_at hl 6 rfl) ?_
      refine lv_bipush (v := 7) hx hb dX1_between_89 (by decide) ?_
      refine lv_iand hx hb dX1_between_91 ?_
      refine lv_i2l hx hb dX1_between_92 rfl ?_
      refine lv_lmul hx hb dX1_between_93 ?_
      refine lv_ladd hx hb dX1_between_94 ?_
      refine lv_topl (fun ly ely => ?_)
      refine lv_lstore (lv' := [(8, .long ly), (6, .long lx), (5, .ref (ad (pkN j n))), (4, .ref (ad (pkN i n))), (0, .ref h0), (1, .int i), (2, .int j), (3, .int k)]) hx hb dX1_between_95 hl (by decide) rfl (fun ls hl => ?_)
      refine lv_aload_n hx hb dX1_between_97 rfl (lv_at hl 4 rfl) ?_
      refine va_get (D := D) (ci := 0) (v := .ref pa) (C := RX1) (T := TX1) (N := 2) hx hb hts in_X1 hown hK.1 hP 0 rfl rfl 0 (by decide) (hts _ q23) (fun _ h9 => h9) rfl dX1_between_98 ?_
      refine lv_aload_n hx hb dX1_between_101 rfl (lv_at hl 4 rfl) ?_
      refine va_get (D := D) (ci := 0) (v := .int (nI n)) (C := RX1) (T := TX1) (N := 2) hx hb hts in_X1 hown hK.1 hP 0 rfl rfl 1 (by decide) (hts _ q24) (fun _ h9 => h9) rfl dX1_between_102 ?_
      have hP2 := hP.two hPa
      have hD2 : va_D A [(h0, Dk pa (nI n)), (pa, Ar dA 16 f)] := va_D2 hAa hAb hne
      refine va_new (D := D) (ci := 1) (fs := [.double 0, .double 0, .double 0]) (C := RX2) (T := TX2) (N := 3) hx hb hts in_X2 tyX2 tyX2_ok hown (hts _ q21) (hts _ q37) (hts _ q7) hK.1 hP2 hD2 hS hA rfl (fun j hj => by rcases (show j = 0 ∨ j = 1 ∨ j = 2 by omega) with rfl | rfl | rfl <;> rfl) (Nat.le_of_ble_eq_true rfl) (Nat.le_of_ble_eq_true rfl) dX1_between_105 (fun q H hP hD hS => ?_)
      have hn1 : h0 ≠ q := fun h => absurd (hD.1 0 2 _ _ rfl rfl h) (by decide)
      have hn3 : pa ≠ q := fun h => absurd (hD.1 1 2 _ _ rfl rfl h) (by decide)
      have hAq : A q := hD.2 2 _ rfl
      have hC : C1 D q (.inr (1, [.double 0, .double 0, .double 0])) H := hP.sub [2] rfl
      have hPa : C1 D pa (Ar dA 16 f) H := hP.sub [1] rfl
      have hP : C1 D h0 (Dk pa (nI n)) H := hP.sub [0] rfl
      have hq0 : s.heap.size ≤ q := by
        rw [hAe] at hAq
        rcases hAq with h | h | h
        · exact absurd h.symm hn1
        · exact absurd h.symm hn3
        · exact h
      refine lv_dup hx hb dX1_between_108 rfl ?_
      refine lv_lload hx hb dX1_between_109 (lv_at hl 1 rfl) ?_
      refine lv_iconst (v := 3) hx hb dX1_between_111 (by decide) ?_
      refine lv_lshr hx hb dX1_between_112 rfl ?_
      refine lv_l2d hx hb dX1_between_113 ?_
      refine lv_lload hx hb dX1_between_114 (lv_at hl 0 rfl) ?_
      refine lv_iconst (v := 3) hx hb dX1_between_116 (by decide) ?_
      refine lv_lshr hx hb dX1_between_117 rfl ?_
      refine lv_l2d hx hb dX1_between_118 ?_
      refine va_callv (va_runI (As := [.double (FP.l2d (lx >>> ((3 : Int32).toInt64 &&& 63))), .double (FP.l2d (ly >>> ((3 : Int32).toInt64 &&& 63)))]) (rest := [.ref q, .int (nI n), .ref pa]) ⟨hx, hb, hml, hown, hts⟩ (m_Co_init2 l D tys q _ (FP.l2d (lx >>> ((3 : Int32).toInt64 &&& 63))) (FP.l2d (ly >>> ((3 : Int32).toInt64 &&& 63)))) (cwI 2 hts (lw_meth q40) rfl rfl rfl (hts _ q7) (hts _ q38) (hts _ q39) rfl (by decide +kernel) ⟨Nat.le_of_ble_eq_true rfl, Nat.le_of_ble_eq_true rfl⟩) (gS rfl hC hK) rfl rfl hl.1 rfl (lv_room (Nat.le_of_ble_eq_true rfl)) dX1_between_119 ⟨Nat.le_of_ble_eq_true rfl, Nat.le_of_ble_eq_true rfl⟩) hS (fun q h1 h2 => h2.elim (fun e => e ▸ hAq) (fun h => absurd h (Nat.not_le.mpr h1))) (fun q h => h.elim (fun e => e ▸ hAq) (fun h => hA q (Nat.le_trans hS.1 h))) (fun u t H3 locs ht hvm hw hB hz hk hS => ?_)
      have hC : C1 D q (Co (bw (X (pkN i n)) (X (pkN j n)) k) (bw (Y (pkN i n)) (Y (pkN j n)) k)) H3 := by rw [← ht]; rw [elx, ely] at hB; exact hB
      have hP := hP.keep1 hk hn1
      have hPa := hPa.keep1 hk hn3
      have hn2 := hn3
      have hP3 := hP.three hPa hC
      have hD3 : va_D A [(h0, Dk pa (nI n)), (pa, Ar dA 16 f), (q, Co (bw (X (pkN i n)) (X (pkN j n)) k) (bw (Y (pkN i n)) (Y (pkN j n)) k))] := va_D3 hAa hAb hAq hne hn1 hn2
      refine va_astq (D := D) (r := (RX2, TX2, 3)) hx hb hK.1 hP3 hD3 hS 1 t0 2 1 rfl ht0 rfl rfl (vp_in_nI (by omega) (by decide)) dX1_between_122 (fun H locs hP hD hS => ?_)
      rw [nI_clamp (show n < 2 ^ 31 by omega)] at hP
      have hP : va_P D vwCl [(h0, Dk pa (nI n)), (pa, Ar dA 16 (va_up f n (some q))), (q, Co (bw (X (pkN i n)) (X (pkN j n)) k) (bw (Y (pkN i n)) (Y (pkN j n)) k))] H := hP
      have hD : va_D A [(h0, Dk pa (nI n)), (pa, Ar dA 16 (va_up f n (some q))), (q, Co (bw (X (pkN i n)) (X (pkN j n)) k) (bw (Y (pkN i n)) (Y (pkN j n)) k))] := hD.re rfl
      refine lv_aload_n hx hb dX1_between_123 rfl (lv_at hl 4 rfl) ?_
      refine lv_dup hx hb dX1_between_124 rfl ?_
      refine va_get (D := D) (ci := 0) (v := .int (nI n)) (C := RX1) (T := TX1) (N := 2) hx hb hts in_X1 hown hK.1 hP 0 rfl rfl 1 (by decide) (hts _ q24) (fun _ h9 => h9) rfl dX1_between_125 ?_
      refine lv_iconst (v := 1) hx hb dX1_between_128 (by decide) ?_
      refine lv_iadd hx hb dX1_between_129 ?_
      refine va_put (D := D) (ci := 0) (v := .int ((nI n) + 1)) (ty := .int) (C := RX1) (T := TX1) (N := 2) hx hb hts in_X1 tyX1 tyX1_ok nmX1 hown hK.1 hP hD hS 0 rfl rfl 1 (by decide) (hts _ q24) (fun _ h9 => h9) rfl (by decide +kernel) rfl rfl (Nat.le_of_ble_eq_true rfl) dX1_between_130 (fun H locs hP hD hS => ?_)
      have hP : va_P D vwCl [(h0, .inr (0, [.ref pa, .int ((nI n) + 1)])), (pa, Ar dA 16 (va_up f n (some q))), (q, Co (bw (X (pkN i n)) (X (pkN j n)) k) (bw (Y (pkN i n)) (Y (pkN j n)) k))] H := hP
      have hD : va_D A [(h0, .inr (0, [.ref pa, .int ((nI n) + 1)])), (pa, Ar dA 16 (va_up f n (some q))), (q, Co (bw (X (pkN i n)) (X (pkN j n)) k) (bw (Y (pkN i n)) (Y (pkN j n)) k))] := hD
      refine lv_iconst (v := 1) hx hb dX1_between_133 (by decide) ?_
      have hPf : va_P D vwCl [(h0, Dk pa (nI (n + 1))), (pa, Ar dA 16 (va_up f n (some q))), (q, Co (bw (X (pkN i n)) (X (pkN j n)) k) (bw (Y (pkN i n)) (Y (pkN j n)) k))] H := by rw [← nI_1]; exact hP
      exact W.zret (v := 1) hx hb hr rfl (fun t ht hW => ⟨⟨1, q, rfl, rfl, hq0, by rw [ht]; exact hPf.sub [0] rfl, by rw [ht]; exact hPf.sub [1] rfl, by rw [ht]; exact hPf.sub [2] rfl⟩, hS.F ht⟩) hS.2.2 dX1_between_134
    · exact absurd (show nI n < nI 15 from nI_lt hn15 (by decide)) c2
end
section
/-! numbers in range; WALKS of TurnDesk.place, within, own: printed by wip/D-29928w/desk3.py -/
theorem shr64 (a s : Int64) (k : Nat) (hs : (s.toBitVec.smod 64).toNat = k) : (a >>> s).toInt = a.toInt / ((2 ^ k : Nat) : Int) := by
  show (a.toBitVec.sshiftRight (s.toBitVec.smod 64).toNat).toInt = _
  rw [hs, BitVec.toInt_sshiftRight, Int.shiftRight_eq_div_pow]
  rfl
theorem t_add {a b : Int64} (h : -4611686018427387904 ≤ a.toInt + b.toInt) (h' : a.toInt + b.toInt < 4611686018427387904) : (a + b).toInt = a.toInt + b.toInt := by
  rw [Int64.toInt_add]
  exact Int.bmod_eq_of_le (by omega) (by omega)
theorem t_sub {a b : Int64} (h : -4611686018427387904 ≤ a.toInt - b.toInt) (h' : a.toInt - b.toInt < 4611686018427387904) : (a - b).toInt = a.toInt - b.toInt := by
  rw [Int64.toInt_sub]
  exact Int.bmod_eq_of_le (by omega) (by omega)
theorem t_mul {a b : Int64} (h : -4611686018427387904 ≤ a.toInt * b.toInt) (h' : a.toInt * b.toInt < 4611686018427387904) : (a * b).toInt = a.toInt * b.toInt := by
  rw [Int64.toInt_mul]
  exact Int.bmod_eq_of_le (by omega) (by omega)
theorem qt_bd (x : Int32) : Bd (qt x) := by
  unfold Bd B29 qt
  rw [Int32.toInt_toInt64, pk_shr x ((2 : Int32) &&& 31) 2 (by decide +kernel), Int.shiftRight_eq_div_pow]
  have h1 := x.toInt_lt
  have h2 := x.le_toInt
  have h3 : ((2 ^ 2 : Nat) : Int) = 4 := rfl
  rw [h3]
  omega
/-- the floored middle -/
abbrev md (a b : Int64) : Int64 := (a + b) >>> ((1 : Int32).toInt64 &&& 63)
theorem md_bd {a b : Int64} (ha : Bd a) (hb : Bd b) : Bd (md a b) := by
  unfold Bd B29 at *
  unfold md
  rw [shr64 _ _ 1 (by decide +kernel), t_add (by omega) (by omega)]
  have h3 : ((2 ^ 1 : Nat) : Int) = 2 := rfl
  rw [h3]
  omega
theorem and7 (k : Int32) : ∃ w : Nat, w < 8 ∧ (k &&& 7).toInt64.toInt = (w : Int) := by
  obtain ⟨j, h1, h2⟩ := pk_andE k (m := 7) 3 (by decide +kernel)
  exact ⟨j, h1, by rw [Int32.toInt_toInt64, h2, nI_toInt (by omega)]⟩
theorem bw_val {a b : Int64} {k : Int32} (ha : Bd a) (hb : Bd b) : ∃ w : Nat, w < 8 ∧ (bw a b k).toInt = (a.toInt * 8 + (b.toInt - a.toInt) * (w : Int)) / 8 := by
  obtain ⟨w, hw, e⟩ := and7 k
  refine ⟨w, hw, ?_⟩
  unfold Bd B29 at ha hb
  unfold bw
  have e8 : (8 : Int64).toInt = 8 := by decide
  have e1 : (a * 8).toInt = a.toInt * 8 := by rw [t_mul] <;> rw [e8] <;> omega
  have e2 : (b - a).toInt = b.toInt - a.toInt := t_sub (by omega) (by omega)
  have e3 : ((b - a) * (k &&& 7).toInt64).toInt = (b.toInt - a.toInt) * (w : Int) := by
    rw [t_mul] <;> rw [e2, e]
    all_goals (rcases (by omega : w = 0 ∨ w = 1 ∨ w = 2 ∨ w = 3 ∨ w = 4 ∨ w = 5 ∨ w = 6 ∨ w = 7) with rfl | rfl | rfl | rfl | rfl | rfl | rfl | rfl <;> omega)
  have h3 : ((2 ^ 3 : Nat) : Int) = 8 := rfl
  rw [shr64 _ _ 3 (by decide +kernel), h3, t_add, e1, e3] <;> rw [e1, e3]
  all_goals (rcases (by omega : w = 0 ∨ w = 1 ∨ w = 2 ∨ w = 3 ∨ w = 4 ∨ w = 5 ∨ w = 6 ∨ w = 7) with rfl | rfl | rfl | rfl | rfl | rfl | rfl | rfl <;> omega)
theorem bw_bd {a b : Int64} (k : Int32) (ha : Bd a) (hb : Bd b) : Bd (bw a b k) := by
  obtain ⟨w, hw, e⟩ := bw_val (k := k) ha hb
  unfold Bd B29 at *
  rw [e]
  rcases (by omega : w = 0 ∨ w = 1 ∨ w = 2 ∨ w = 3 ∨ w = 4 ∨ w = 5 ∨ w = 6 ∨ w = 7) with rfl | rfl | rfl | rfl | rfl | rfl | rfl | rfl <;> omega
/-- round the ring: behind the last point the first again -/
def rg {α : Type} (f : Nat → α) (n : Nat) : Nat → α := fun j => if j < n then f j else f 0
theorem rg_lt {α : Type} {f : Nat → α} {n j : Nat} (h : j < n) : rg f n j = f j := if_pos h
theorem rg_n {α : Type} {f : Nat → α} {n : Nat} : rg f n n = f 0 := if_neg (Nat.lt_irrefl n)
theorem RS_012 {g : Nat → Nat} {n : Nat} {r : Int32} (h : RS g n r) : r = 0 ∨ r = 1 ∨ r = 2 := by
  rcases h with ⟨-, h⟩ | ⟨-, h⟩
  · by_cases c : cntE g 2 n % 2 = 1
    · rw [if_pos c] at h; exact Or.inl h
    · rw [if_neg c] at h; exact Or.inr (Or.inr h)
  · exact Or.inr (Or.inl h)
set_option maxHeartbeats 4000000 in
set_option maxRecDepth 100000 in
/-- the copying loop of place: k points copied -/
theorem plc_loop {p : Program} {l : Launch} {e : Env} {R : Room} {s : State} {m : MethodId} {below : List Frame} {meth : Method} {c : Code} {args : Array Value} {D : va_G} {tys : List (ClassId × FieldType)} {A : Nat → Prop} {cells slots : Nat} {Q : State → Prop} {h0 ap pa aR n t0 t1 : Nat} {dA cA : ClassId} {f : Nat → Option Nat} {ad : Nat → Nat} {X Y : Nat → Int64}
    (hx : p.tables.exec = Jvm.exec) (hb : c.code = cX1_place) (hown : s.vm.findClass RX1 = some m.cls) (hts : ∀ w ∈ lw_all, w.before args s = true) (hAe : A = Fr0 s.heap.size) (hAR : A aR) (hK : Kn D tys s) (hn : n ≤ 15) (ht0 : tys[t0]? = some (dA, .object "Coordinate")) (ht1 : tys[t1]? = some (cA, .object "Coordinate")) (hf : ∀ j, j < n → f j = some (ad j))
    (hP0 : C1 D h0 (Dk pa (nI n)) s.heap) (hPa0 : C1 D pa (Ar dA 16 f) s.heap) (hC0 : ∀ j, j < n → C1 D (ad j) (Co (X j) (Y j)) s.heap)
    (hexit : ∀ (fr : Nat → Option Nat) (H : Heap) (locs : List Loc) (ls : Array Slot), C1 D aR (Ar cA (n + 1) fr) H → (∀ j, j < n → fr j = some (ad j)) → va_S A s.heap H locs → lv_has ls 4 [(0, .ref h0), (1, .ref ap), (2, .ref aR), (3, .int (nI n))] → W p l e R s m args below meth c H locs cells slots Q (F0 m 35 ls [])) :
    ∀ (fuel k : Nat), k + fuel = n → ∀ (fr : Nat → Option Nat) (H : Heap) (locs : List Loc), C1 D aR (Ar cA (n + 1) fr) H → (∀ j, j < k → fr j = some (ad j)) → va_S A s.heap H locs → ∀ (ls : Array Slot), lv_has ls 4 [(0, .ref h0), (1, .ref ap), (2, .ref aR), (3, .int (nI k))] → W p l e R s m args below meth c H locs cells slots Q (F0 m 12 ls []) := by
  intro fuel
  induction fuel with
  | zero =>
    intro k hk fr H locs hR hfr hS ls hl
    have hkn : k = n := by omega
    subst hkn
    have hP := hP0.keepS hAe hS
    refine lv_iload_n hx hb dX1_place_12 rfl (lv_at hl 3 rfl) ?_
    refine lv_aload_n hx hb dX1_place_13 rfl (lv_at hl 0 rfl) ?_
    refine va_get (D := D) (ci := 0) (v := .int (nI k)) (C := RX1) (T := TX1) (N := 2) hx hb hts in_X1 hown hK.1 hP 0 rfl rfl 1 (by decide) (hts _ q24) (fun _ h9 => h9) rfl dX1_place_14 ?_
    refine lv_icmp_ge (tgt := 35) hx hb dX1_place_17 (by decide) (fun c1 => ?_) (fun c1 => ?_)
    · exact hexit fr H locs ls hR hfr hS hl
    · exact absurd (nI_le (Nat.le_refl _) (by omega)) c1
  | succ fuel ih =>
    intro k hk fr H locs hR hfr hS ls hl
    have hkn : k < n := by omega
    have hP := hP0.keepS hAe hS
    have hPa := hPa0.keepS hAe hS
    refine lv_iload_n hx hb dX1_place_12 rfl (lv_at hl 3 rfl) ?_
    refine lv_aload_n hx hb dX1_place_13 rfl (lv_at hl 0 rfl) ?_
    refine va_get (D := D) (ci := 0) (v := .int (nI n)) (C := RX1) (T := TX1) (N := 2) hx hb hts in_X1 hown hK.1 hP 0 rfl rfl 1 (by decide) (hts _ q24) (fun _ h9 => h9) rfl dX1_place_14 ?_
    refine lv_icmp_ge (tgt := 35) hx hb dX1_place_17 (by decide) (fun c1 => ?_) (fun c1 => ?_)
    · exact absurd c1 (nI_ge hkn (by omega))
    · refine lv_aload_n hx hb dX1_place_20 rfl (lv_at hl 2 rfl) ?_
      refine lv_iload_n hx hb dX1_place_21 rfl (lv_at hl 3 rfl) ?_
      refine lv_aload_n hx hb dX1_place_22 rfl (lv_at hl 0 rfl) ?_
      refine va_get (D := D) (ci := 0) (v := .ref pa) (C := RX1) (T := TX1) (N := 2) hx hb hts in_X1 hown hK.1 hP 0 rfl rfl 0 (by decide) (hts _ q23) (fun _ h9 => h9) rfl dX1_place_23 ?_
      refine lv_iload_n hx hb dX1_place_26 rfl (lv_at hl 3 rfl) ?_
      refine fx_aald hx hb hK hPa ht0 (j := k) (by omega) (by decide) (hf k hkn) rfl dX1_place_27 ?_
      have hC := (hC0 k hkn).keepS hAe hS
      refine fx_aast hx hb hK hR hS hAR ht1 hC (j := k) (by omega) (by omega) rfl dX1_place_28 (fun H1 locs1 hR1 hoq hsz hS1 => ?_)
      refine lv_iinc (v := nI (k + 1)) (lv' := [(3, .int (nI (k + 1))), (0, .ref h0), (1, .ref ap), (2, .ref aR)]) hx hb dX1_place_29 hl (k := 3) rfl (nI_1 k) (by decide) rfl (fun ls hl => ?_)
      refine lv_goto (tgt := 12) hx hb dX1_place_32 (by decide) ?_
      refine ih (k + 1) (by omega) _ H1 locs1 hR1 (fun j hj => ?_) hS1 ls (lv_sub hl [1, 2, 3, 0] rfl)
      show (if j = k then _ else _) = _
      by_cases h : j = k
      · rw [if_pos h, h]
      · rw [if_neg h]; exact hfr j (by omega)
set_option maxHeartbeats 4000000 in
set_option maxRecDepth 100000 in
/-- place -/
theorem m_TD_place (l : Launch) (D : va_G) (tys : List (ClassId × FieldType)) (h0 ap pa sz n t0 : Nat) (dA : ClassId) (f : Nat → Option Nat) (ad : Nat → Nat) (X Y : Nat → Int64) (px py : Int64) (hn : n ≤ 15) (ht0 : tys[t0]? = some (dA, .object "Coordinate")) (hf : ∀ j, j < n → f j = some (ad j)) (bX : ∀ j, j < n → Bd (X j)) (bY : ∀ j, j < n → Bd (Y j)) (hn0 : 0 < n) (bp : Bd px) (bq : Bd py) : Met l yX1_place (ws_ yX1_place cX1_place 4 (some .int)) ({ frames := 8, cells := 62, slots := 139, locals := 196 }) (gPc D tys [.ref h0, .ref ap] sz (fun H => (C1 D h0 (Dk pa (nI n)) H ∧ C1 D pa (Ar dA 16 f) H ∧ ∀ j, j < n → C1 D (ad j) (Co (X j) (Y j)) H) ∧ C1 D ap (Co px py) H)) (va_Qi (fun (r : Int32) (_ : Unit) => RS (gE (rg X n) (rg Y n) px py) n r) (fun _ _ => True) (Fr0 sz)) 62 139 (Fr0 sz) := by
  refine Met.ofW (cc := cX1_place) (maxL := 4) (ret := (some .int)) (by decide) rfl ?_
  intro p e s m args below meth c s₁ B hml hv
  obtain ⟨rfl, hsz, ⟨⟨hP0, hPa0, hC0⟩, hPp0⟩, hK⟩ := hv
  have hx := B.exec
  have hb := B.bytes
  have hr := B.returns
  have hts := atoms_spec (ws := ws_ yX1_place cX1_place 4 (some .int)) B.pre
  have hts : ∀ w ∈ lw_all, w.before _ s = true := fun w h => hts w (List.mem_cons_of_mem _ h)
  have hown : s.vm.findClass RX1 = some m.cls := findClass_of_methodNamed B.named
  have hlocks := B.notSynchronized
  have hin : meth.name = yX1_place.name := (name_of_methodNamed B.named B.method).1
  subst hsz
  obtain ⟨A, hAe⟩ : ∃ A, A = Fr0 s.heap.size := ⟨_, rfl⟩
  rw [← hAe]
  have hA : ∀ q : Nat, s.heap.size ≤ q → A q := fun q h => by rw [hAe]; exact h
  have hS : va_S A s.heap s.heap [] := va_S.rf
  have hl := lv_entry ([.ref h0, .ref ap]) (n := 4) (Nat.le_of_ble_eq_true rfl)
  rw [lg_entry_eq]
  generalize (lg_sl ([.ref h0, .ref ap]) ++ List.replicate (4 - (lg_sl ([.ref h0, .ref ap])).length) Slot.unset).toArray = ls at hl ⊢
  have hl : lv_has ls 4 [(0, .ref h0), (1, .ref ap)] := hl
  refine lv_aload_n hx hb dX1_place_0 rfl (lv_at hl 0 rfl) ?_
  refine va_get (D := D) (ci := 0) (v := .int (nI n)) (C := RX1) (T := TX1) (N := 2) hx hb hts in_X1 hown hK.1 hP0 0 rfl rfl 1 (by decide) (hts _ q24) (fun _ h9 => h9) rfl dX1_place_1 ?_
  refine lv_iconst (v := 1) hx hb dX1_place_4 (by decide) ?_
  refine lv_iadd hx hb dX1_place_5 ?_
  rw [nI_1]
  refine va_newq hx hb hown (hts _ q21) hK.2 hK.1 (va_P0 (H := _)) va_D0 hS hA (N' := n + 1) (nI_pos (by omega)) (nI_clamp (by omega)) (by omega) (Nat.le_of_ble_eq_true rfl) (by show 0 + (n + 1) ≤ 139; omega) dX1_place_6 (fun aR cA H hK1 hR hD hS => ?_)
  have hR : C1 D aR (Ar cA (n + 1) (fun _ => none)) H := hR
  have hAR : A aR := hD.2 0 _ rfl
  have hKt : Kn D (tys ++ [(cA, .object "Coordinate")]) s := ⟨hK1, hK.2⟩
  have ht0t : (tys ++ [(cA, FieldType.object "Coordinate")])[t0]? = some (dA, .object "Coordinate") := by rw [List.getElem?_append_left (List.getElem?_eq_some_iff.mp ht0).1]; exact ht0
  have ht1t : (tys ++ [(cA, FieldType.object "Coordinate")])[tys.length]? = some (cA, .object "Coordinate") := by simp
  refine W.widen (k := 1) (n := 16) (by decide) (by omega) ?_
  refine lv_astore_n (lv' := [(2, .ref aR), (0, .ref h0), (1, .ref ap)]) hx hb dX1_place_9 rfl hl (by decide) rfl (fun ls hl => ?_)
  refine lv_iconst (v := 0) hx hb dX1_place_10 (by decide) ?_
  refine lv_istore_n (lv' := [(3, .int 0), (2, .ref aR), (0, .ref h0), (1, .ref ap)]) hx hb dX1_place_11 rfl hl (by decide) rfl (fun ls hl => ?_)
  refine plc_loop hx hb hown hts hAe hAR hKt hn ht0t ht1t hf hP0 hPa0 hC0 ?_ n 0 (by omega) _ _ _ hR (fun j hj => absurd hj (Nat.not_lt_zero j)) hS ls (lv_sub hl [2, 3, 1, 0] rfl)
  intro fr H locs ls hR hfr hS hl
  have hP := hP0.keepS hAe hS
  have hPa := hPa0.keepS hAe hS
  refine lv_aload_n hx hb dX1_place_35 rfl (lv_at hl 2 rfl) ?_
  refine lv_aload_n hx hb dX1_place_36 rfl (lv_at hl 0 rfl) ?_
  refine va_get (D := D) (ci := 0) (v := .int (nI n)) (C := RX1) (T := TX1) (N := 2) hx hb hts in_X1 hown hK.1 hP 0 rfl rfl 1 (by decide) (hts _ q24) (fun _ h9 => h9) rfl dX1_place_37 ?_
  refine lv_aload_n hx hb dX1_place_40 rfl (lv_at hl 0 rfl) ?_
  refine va_get (D := D) (ci := 0) (v := .ref pa) (C := RX1) (T := TX1) (N := 2) hx hb hts in_X1 hown hK.1 hP 0 rfl rfl 0 (by decide) (hts _ q23) (fun _ h9 => h9) rfl dX1_place_41 ?_
  refine lv_iconst (v := 0) hx hb dX1_place_44 (by decide) ?_
  refine fx_aald hx hb hKt hPa ht0t (j := 0) (by omega) (by decide) (hf 0 hn0) rfl dX1_place_45 ?_
  have hC := (hC0 0 hn0).keepS hAe hS
  refine fx_aast hx hb hKt hR hS hAR ht1t hC (j := n) (by omega) (by omega) rfl dX1_place_46 (fun H locs hR hoq hsz hS => ?_)
  refine lv_aload_n hx hb dX1_place_47 rfl (lv_at hl 1 rfl) ?_
  refine lv_aload_n hx hb dX1_place_48 rfl (lv_at hl 2 rfl) ?_
  have hPp := hPp0.keepS hAe hS
  have hCr : ∀ j, j ≤ n → C1 D (rg ad n j) (Co (rg X n j) (rg Y n j)) H := by
    intro j hj
    by_cases h : j < n
    · rw [rg_lt h, rg_lt h, rg_lt h]; exact (hC0 j h).keepS hAe hS
    · rw [show j = n by omega, rg_n, rg_n, rg_n]; exact (hC0 0 hn0).keepS hAe hS
  have hfr2 : ∀ j, j ≤ n → va_up fr n (some (ad 0)) j = some (rg ad n j) := by
    intro j hj
    show (if j = n then _ else _) = _
    by_cases h : j = n
    · rw [if_pos h, h, rg_n]
    · rw [if_neg h, rg_lt (by omega)]; exact hfr j (by omega)
  have bXr : ∀ j, j ≤ n → Bd (rg X n j) := by
    intro j hj
    by_cases h : j < n
    · rw [rg_lt h]; exact bX j h
    · rw [show j = n by omega, rg_n]; exact bX 0 hn0
  have bYr : ∀ j, j ≤ n → Bd (rg Y n j) := by
    intro j hj
    by_cases h : j < n
    · rw [rg_lt h]; exact bY j h
    · rw [show j = n by omega, rg_n]; exact bY 0 hn0
  refine va_calli (va_runS (As := [.ref ap, .ref aR]) (rest := []) ⟨hx, hb, hml, hown, hts⟩ (m_Ray_locate l D (tys ++ [(cA, .object "Coordinate")]) ap aR _ n tys.length cA (va_up fr n (some (ad 0))) (rg ad n) (rg X n) (rg Y n) px py hn ht1t hfr2 bXr bYr bp bq) (va_cwS 2 hts (lw_S q156 q157 q12 q158) rfl rfl rfl (by decide +kernel) ⟨Nat.le_of_ble_eq_true rfl, Nat.le_of_ble_eq_true rfl⟩) (gS rfl ⟨hPp, hR, hCr⟩ hKt) rfl rfl hl.1 rfl (lv_room (Nat.le_of_ble_eq_true rfl)) dX1_place_49 ⟨Nat.le_of_ble_eq_true rfl, Nat.le_of_ble_eq_true rfl⟩) hS (fun q h1 h2 => absurd h2 (Nat.not_le.mpr h1)) (fun q h => hA q (Nat.le_trans hS.1 h)) (fun r u t H5 locs ht hvm hw hB hz hk hS => ?_)
  have hr012 := RS_012 hw
  refine lv_istore_n (lv' := [(3, .int r), (0, .ref h0), (1, .ref ap), (2, .ref aR)]) hx hb dX1_place_52 rfl hl (by decide) rfl (fun ls hl => ?_)
  refine lv_iload_n hx hb dX1_place_53 rfl (lv_at hl 0 rfl) ?_
  refine lv_if_ne (tgt := 61) hx hb dX1_place_54 (by decide) (fun c2 => ?_) (fun c2 => ?_)
  · refine lv_iload_n hx hb dX1_place_61 rfl (lv_at hl 0 rfl) ?_
    refine lv_iconst (v := 1) hx hb dX1_place_62 (by decide) ?_
    refine lv_icmp_ne (tgt := 70) hx hb dX1_place_63 (by decide) (fun c3 => ?_) (fun c3 => ?_)
    · refine lv_iconst (v := 2) hx hb dX1_place_70 (by decide) ?_
      have hr2 : r = 2 := by rcases hr012 with h | h | h; exact absurd h c2; exact absurd h c3; exact h
      subst hr2
      exact W.iret (v := 2) hx hb hr (fun t ht hW => ⟨⟨2, (), rfl, hw, trivial⟩, hS.F ht⟩) hS.2.2 dX1_place_71
    · subst c3
      refine lv_iconst (v := 1) hx hb dX1_place_66 (by decide) ?_
      refine lv_goto (tgt := 71) hx hb dX1_place_67 (by decide) ?_
      exact W.iret (v := 1) hx hb hr (fun t ht hW => ⟨⟨1, (), rfl, hw, trivial⟩, hS.F ht⟩) hS.2.2 dX1_place_71
  · subst c2
    refine lv_iconst (v := 0) hx hb dX1_place_57 (by decide) ?_
    refine lv_goto (tgt := 71) hx hb dX1_place_58 (by decide) ?_
    exact W.iret (v := 0) hx hb hr (fun t ht hW => ⟨⟨0, (), rfl, hw, trivial⟩, hS.F ht⟩) hS.2.2 dX1_place_71
set_option maxHeartbeats 4000000 in
set_option maxRecDepth 100000 in
/-- within -/
theorem m_TD_within (l : Launch) (D : va_G) (tys : List (ClassId × FieldType)) (h0 pa sz n t0 : Nat) (dA : ClassId) (f : Nat → Option Nat) (ad : Nat → Nat) (X Y : Nat → Int64) (x y : Int32) (hn : n ≤ 15) (ht0 : tys[t0]? = some (dA, .object "Coordinate")) (hf : ∀ j, j < n → f j = some (ad j)) (bX : ∀ j, j < n → Bd (X j)) (bY : ∀ j, j < n → Bd (Y j)) : Met l yX1_within (ws_ yX1_within cX1_within 3 (some .int)) ({ frames := 9, cells := 63, slots := 142, locals := 219 }) (gPc D tys [.ref h0, .int x, .int y] sz (fun H => C1 D h0 (Dk pa (nI n)) H ∧ C1 D pa (Ar dA 16 f) H ∧ ∀ j, j < n → C1 D (ad j) (Co (X j) (Y j)) H)) (va_Qi (fun (r : Int32) (_ : Unit) => (n < 3 ∧ r = -9) ∨ (3 ≤ n ∧ RS (gE (rg X n) (rg Y n) (qt x) (qt y)) n r)) (fun _ _ => True) (Fr0 sz)) 63 142 (Fr0 sz) := by
  refine Met.ofW (cc := cX1_within) (maxL := 3) (ret := (some .int)) (by decide) rfl ?_
  intro p e s m args below meth c s₁ B hml hv
  obtain ⟨rfl, hsz, ⟨hP0, hPa0, hC0⟩, hK⟩ := hv
  have hx := B.exec
  have hb := B.bytes
  have hr := B.returns
  have hts := atoms_spec (ws := ws_ yX1_within cX1_within 3 (some .int)) B.pre
  have hts : ∀ w ∈ lw_all, w.before _ s = true := fun w h => hts w (List.mem_cons_of_mem _ h)
  have hown : s.vm.findClass RX1 = some m.cls := findClass_of_methodNamed B.named
  have hlocks := B.notSynchronized
  have hin : meth.name = yX1_within.name := (name_of_methodNamed B.named B.method).1
  subst hsz
  obtain ⟨A, hAe⟩ : ∃ A, A = Fr0 s.heap.size := ⟨_, rfl⟩
  rw [← hAe]
  have hA : ∀ q : Nat, s.heap.size ≤ q → A q := fun q h => by rw [hAe]; exact h
  have hS : va_S A s.heap s.heap [] := va_S.rf
  have hl := lv_entry ([.ref h0, .int x, .int y]) (n := 3) (Nat.le_of_ble_eq_true rfl)
  rw [lg_entry_eq]
  generalize (lg_sl ([.ref h0, .int x, .int y]) ++ List.replicate (3 - (lg_sl ([.ref h0, .int x, .int y])).length) Slot.unset).toArray = ls at hl ⊢
  have hl : lv_has ls 3 [(0, .ref h0), (1, .int x), (2, .int y)] := hl
  refine lv_aload_n hx hb dX1_within_0 rfl (lv_at hl 0 rfl) ?_
  refine va_get (D := D) (ci := 0) (v := .int (nI n)) (C := RX1) (T := TX1) (N := 2) hx hb hts in_X1 hown hK.1 hP0 0 rfl rfl 1 (by decide) (hts _ q24) (fun _ h9 => h9) rfl dX1_within_1 ?_
  refine lv_iconst (v := 3) hx hb dX1_within_4 (by decide) ?_
  refine lv_icmp_ge (tgt := 13) hx hb dX1_within_5 (by decide) (fun c1 => ?_) (fun c1 => ?_)
  · have hn3 : 3 ≤ n := by
      rcases Nat.lt_or_ge n 3 with h | h
      · exact absurd c1 (show ¬ nI 3 ≤ nI n from nI_ge h (by decide))
      · exact h
    refine lv_aload_n hx hb dX1_within_13 rfl (lv_at hl 0 rfl) ?_
    refine lv_iload_n hx hb dX1_within_14 rfl (lv_at hl 1 rfl) ?_
    refine lv_iload_n hx hb dX1_within_15 rfl (lv_at hl 2 rfl) ?_
    refine va_callr (va_runS (As := [.int x, .int y]) (rest := [.ref h0]) ⟨hx, hb, hml, hown, hts⟩ (m_TD_point l D tys _ x y) (va_cwS 2 hts (lw_S q34 q35 q6 q36) rfl rfl rfl (by decide +kernel) ⟨Nat.le_of_ble_eq_true rfl, Nat.le_of_ble_eq_true rfl⟩) (gS rfl trivial hK) rfl rfl hl.1 rfl (lv_room (Nat.le_of_ble_eq_true rfl)) dX1_within_16 ⟨Nat.le_of_ble_eq_true rfl, Nat.le_of_ble_eq_true rfl⟩) hS (fun q h1 h2 => absurd h2 (Nat.not_le.mpr h1)) (fun q h => hA q (Nat.le_trans hS.1 h)) (fun u q t H1 locs ht hvm hw hB hz hk hS => ?_)
    obtain ⟨hq0, hQ⟩ := hB
    rw [ht] at hQ
    have hP := hP0.keepS hAe hS
    have hPa := hPa0.keepS hAe hS
    have hC := fun j hj => (hC0 j hj).keepS hAe hS
    refine va_calli (va_runV (As := [.ref q]) (rest := []) ⟨hx, hb, hml, hown, hts⟩ (m_TD_place l D tys h0 q pa _ n t0 dA f ad X Y (qt x) (qt y) hn ht0 hf bX bY (by omega) (qt_bd x) (qt_bd y)) (cwV 1 hts (lw_V q152 q154 qs4 q6 q155) rfl rfl rfl (by decide +kernel) ⟨Nat.le_of_ble_eq_true rfl, Nat.le_of_ble_eq_true rfl⟩) (gV (va_recv hK.1 hP (ci := 0) (q0 := 0) rfl rfl) rfl ⟨⟨hP, hPa, hC⟩, hQ⟩ hK) rfl rfl hl.1 rfl (lv_room (Nat.le_of_ble_eq_true rfl)) dX1_within_19 ⟨Nat.le_of_ble_eq_true rfl, Nat.le_of_ble_eq_true rfl⟩) hS (fun q h1 h2 => absurd h2 (Nat.not_le.mpr h1)) (fun q h => hA q (Nat.le_trans hS.1 h)) (fun r u2 t H2 locs ht hvm hw hB hz hk hS => ?_)
    exact W.iret (v := r) hx hb hr (fun t ht hW => ⟨⟨r, (), rfl, Or.inr ⟨hn3, hw⟩, trivial⟩, hS.F ht⟩) hS.2.2 dX1_within_22
  · have hn3 : n < 3 := by
      rcases Nat.lt_or_ge n 3 with h | h
      · exact h
      · exact absurd (show nI 3 ≤ nI n from nI_le h (by omega)) c1
    refine W.widen (k := 63) (n := 142) (Nat.le_of_ble_eq_true rfl) (Nat.le_of_ble_eq_true rfl) ?_
    refine lv_bipush (v := (-9)) hx hb dX1_within_8 (by decide) ?_
    refine lv_goto (tgt := 22) hx hb dX1_within_10 (by decide) ?_
    exact W.iret (v := (-9)) hx hb hr (fun t ht hW => ⟨⟨(-9), (), rfl, Or.inl ⟨hn3, rfl⟩, trivial⟩, hS.F ht⟩) hS.2.2 dX1_within_22
set_option maxHeartbeats 4000000 in
set_option maxRecDepth 100000 in
/-- own -/
theorem m_TD_own (l : Launch) (D : va_G) (tys : List (ClassId × FieldType)) (h0 pa sz n t0 : Nat) (dA : ClassId) (f : Nat → Option Nat) (ad : Nat → Nat) (X Y : Nat → Int64) (i j : Int32) (hn : n ≤ 15) (ht0 : tys[t0]? = some (dA, .object "Coordinate")) (hf : ∀ j, j < n → f j = some (ad j)) (bX : ∀ j, j < n → Bd (X j)) (bY : ∀ j, j < n → Bd (Y j)) : Met l yX1_own (ws_ yX1_own cX1_own 5 (some .int)) ({ frames := 9, cells := 63, slots := 142, locals := 219 }) (gPc D tys [.ref h0, .int i, .int j] sz (fun H => C1 D h0 (Dk pa (nI n)) H ∧ C1 D pa (Ar dA 16 f) H ∧ ∀ j, j < n → C1 D (ad j) (Co (X j) (Y j)) H)) (va_Qi (fun (r : Int32) (_ : Unit) => (n < 3 ∧ r = -9) ∨ (3 ≤ n ∧ RS (gE (rg X n) (rg Y n) (md (X (pkN i n)) (X (pkN j n))) (md (Y (pkN i n)) (Y (pkN j n)))) n r)) (fun _ _ => True) (Fr0 sz)) 63 142 (Fr0 sz) := by
  refine Met.ofW (cc := cX1_own) (maxL := 5) (ret := (some .int)) (by decide) rfl ?_
  intro p e s m args below meth c s₁ B hml hv
  obtain ⟨rfl, hsz, ⟨hP0, hPa0, hC0⟩, hK⟩ := hv
  have hx := B.exec
  have hb := B.bytes
  have hr := B.returns
  have hts := atoms_spec (ws := ws_ yX1_own cX1_own 5 (some .int)) B.pre
  have hts : ∀ w ∈ lw_all, w.before _ s = true := fun w h => hts w (List.mem_cons_of_mem _ h)
  have hown : s.vm.findClass RX1 = some m.cls := findClass_of_methodNamed B.named
  have hlocks := B.notSynchronized
  have hin : meth.name = yX1_own.name := (name_of_methodNamed B.named B.method).1
  subst hsz
  obtain ⟨A, hAe⟩ : ∃ A, A = Fr0 s.heap.size := ⟨_, rfl⟩
  rw [← hAe]
  have hA : ∀ q : Nat, s.heap.size ≤ q → A q := fun q h => by rw [hAe]; exact h
  have hS : va_S A s.heap s.heap [] := va_S.rf
  have hl := lv_entry ([.ref h0, .int i, .int j]) (n := 5) (Nat.le_of_ble_eq_true rfl)
  rw [lg_entry_eq]
  generalize (lg_sl ([.ref h0, .int i, .int j]) ++ List.replicate (5 - (lg_sl ([.ref h0, .int i, .int j])).length) Slot.unset).toArray = ls at hl ⊢
  have hl : lv_has ls 5 [(0, .ref h0), (1, .int i), (2, .int j)] := hl
  refine lv_aload_n hx hb dX1_own_0 rfl (lv_at hl 0 rfl) ?_
  refine va_get (D := D) (ci := 0) (v := .int (nI n)) (C := RX1) (T := TX1) (N := 2) hx hb hts in_X1 hown hK.1 hP0 0 rfl rfl 1 (by decide) (hts _ q24) (fun _ h9 => h9) rfl dX1_own_1 ?_
  refine lv_iconst (v := 3) hx hb dX1_own_4 (by decide) ?_
  refine lv_icmp_ge (tgt := 11) hx hb dX1_own_5 (by decide) (fun c1 => ?_) (fun c1 => ?_)
  · have hn3 : 3 ≤ n := by
      rcases Nat.lt_or_ge n 3 with h | h
      · exact absurd c1 (show ¬ nI 3 ≤ nI n from nI_ge h (by decide))
      · exact h
    have hn0 : 0 < n := by omega
    have hP := hP0.keepS hAe hS
    have hPa := hPa0.keepS hAe hS
    have hC := fun j hj => (hC0 j hj).keepS hAe hS
    refine lv_aload_n hx hb dX1_own_11 rfl (lv_at hl 0 rfl) ?_
    refine lv_iload_n hx hb dX1_own_12 rfl (lv_at hl 1 rfl) ?_
    refine va_callr (va_runV (As := [.int i]) (rest := []) ⟨hx, hb, hml, hown, hts⟩ (m_TD_at l D tys h0 pa _ n t0 dA f ad i hn ht0 hf hn0) (cwV 1 hts (lw_V q66 q68 qs0 q6 q69) rfl rfl rfl (by decide +kernel) ⟨Nat.le_of_ble_eq_true rfl, Nat.le_of_ble_eq_true rfl⟩) (gV (va_recv hK.1 hP (ci := 0) (q0 := 0) rfl rfl) rfl ⟨hP, hPa⟩ hK) rfl rfl hl.1 rfl (lv_room (Nat.le_of_ble_eq_true rfl)) dX1_own_13 ⟨Nat.le_of_ble_eq_true rfl, Nat.le_of_ble_eq_true rfl⟩) hS (fun q h1 h2 => absurd h2 (Nat.not_le.mpr h1)) (fun q h => hA q (Nat.le_trans hS.1 h)) (fun u1 ra1 t H1 locs ht hvm hw hB hz hk hS => ?_)
    have hB : ra1 = ad (pkN i n) := hB
    rw [hB]
    have hP := hP0.keepS hAe hS
    have hPa := hPa0.keepS hAe hS
    have hC := fun j hj => (hC0 j hj).keepS hAe hS
    refine lv_astore_n (lv' := [(3, .ref (ad (pkN i n))), (0, .ref h0), (1, .int i), (2, .int j)]) hx hb dX1_own_16 rfl hl (by decide) rfl (fun ls hl => ?_)
    refine lv_aload_n hx hb dX1_own_17 rfl (lv_at hl 1 rfl) ?_
    refine lv_iload_n hx hb dX1_own_18 rfl (lv_at hl 3 rfl) ?_
    refine va_callr (va_runV (As := [.int j]) (rest := []) ⟨hx, hb, hml, hown, hts⟩ (m_TD_at l D tys h0 pa _ n t0 dA f ad j hn ht0 hf hn0) (cwV 1 hts (lw_V q66 q68 qs0 q6 q69) rfl rfl rfl (by decide +kernel) ⟨Nat.le_of_ble_eq_true rfl, Nat.le_of_ble_eq_true rfl⟩) (gV (va_recv hK.1 hP (ci := 0) (q0 := 0) rfl rfl) rfl ⟨hP, hPa⟩ hK) rfl rfl hl.1 rfl (lv_room (Nat.le_of_ble_eq_true rfl)) dX1_own_19 ⟨Nat.le_of_ble_eq_true rfl, Nat.le_of_ble_eq_true rfl⟩) hS (fun q h1 h2 => absurd h2 (Nat.not_le.mpr h1)) (fun q h => hA q (Nat.le_trans hS.1 h)) (fun u2 ra2 t H2 locs ht hvm hw hB hz hk hS => ?_)
    have hB : ra2 = ad (pkN j n) := hB
    rw [hB]
    have hP := hP0.keepS hAe hS
    have hPa := hPa0.keepS hAe hS
    have hC := fun j hj => (hC0 j hj).keepS hAe hS
    refine lv_astore (lv' := [(4, .ref (ad (pkN j n))), (3, .ref (ad (pkN i n))), (0, .ref h0), (1, .int i), (2, .int j)]) hx hb dX1_own_22 hl (by decide) rfl (fun ls hl => ?_)
    refine lv_aload_n hx hb dX1_own_24 rfl (lv_at hl 2 rfl) ?_
    refine va_new (D := D) (ci := 1) (fs := [.double 0, .double 0, .double 0]) (C := RX2) (T := TX2) (N := 3) hx hb hts in_X2 tyX2 tyX2_ok hown (hts _ q21) (hts _ q37) (hts _ q7) hK.1 (va_P0 (H := _)) va_D0 hS hA rfl (fun j hj => by rcases (show j = 0 ∨ j = 1 ∨ j = 2 by omega) with rfl | rfl | rfl <;> rfl) (Nat.le_of_ble_eq_true rfl) (Nat.le_of_ble_eq_true rfl) dX1_own_25 (fun q H hP hD hS => ?_)
    have hP : C1 D q (.inr (1, [.double 0, .double 0, .double 0])) H := hP
    have hQ := hP
    have hAq : A q := hD.2 0 _ rfl
    have hP := hP0.keepS hAe hS
    have hPa := hPa0.keepS hAe hS
    have hC := fun j hj => (hC0 j hj).keepS hAe hS
    have hCi := hC _ (pkN_lt i hn0)
    have hCj := hC _ (pkN_lt j hn0)
    refine lv_dup hx hb dX1_own_28 rfl ?_
    refine lv_aload_n hx hb dX1_own_29 rfl (lv_at hl 1 rfl) ?_
    refine va_get (D := D) (ci := 1) (v := .double (FP.l2d (X (pkN i n)))) (C := RX2) (T := TX2) (N := 3) hx hb hts in_X2 hown hK.1 hCi 0 rfl rfl 0 (by decide) (hts _ q49) (fun _ h9 => h9) rfl dX1_own_30 ?_
    refine lv_d2l hx hb dX1_own_33 ?_
    rw [d2l_l2d (B29.abs53 (bX _ (pkN_lt i hn0)))]
    refine lv_aload hx hb dX1_own_34 (lv_at hl 0 rfl) ?_
    refine va_get (D := D) (ci := 1) (v := .double (FP.l2d (X (pkN j n)))) (C := RX2) (T := TX2) (N := 3) hx hb hts in_X2 hown hK.1 hCj 0 rfl rfl 0 (by decide) (hts _ q49) (fun _ h9 => h9) rfl dX1_own_36 ?_
    refine lv_d2l hx hb dX1_own_39 ?_
    rw [d2l_l2d (B29.abs53 (bX _ (pkN_lt j hn0)))]
    refine lv_ladd hx hb dX1_own_40 ?_
    refine lv_iconst (v := 1) hx hb dX1_own_41 (by decide) ?_
    refine lv_lshr hx hb dX1_own_42 rfl ?_
    refine lv_l2d hx hb dX1_own_43 ?_
    refine lv_aload_n hx hb dX1_own_44 rfl (lv_at hl 1 rfl) ?_
    refine va_get (D := D) (ci := 1) (v := .double (FP.l2d (Y (pkN i n)))) (C := RX2) (T := TX2) (N := 3) hx hb hts in_X2 hown hK.1 hCi 0 rfl rfl 1 (by decide) (hts _ q53) (fun _ h9 => h9) rfl dX1_own_45 ?_
    refine lv_d2l hx hb dX1_own_48 ?_
    rw [d2l_l2d (B29.abs53 (bY _ (pkN_lt i hn0)))]
    refine lv_aload hx hb dX1_own_49 (lv_at hl 0 rfl) ?_
    refine va_get (D := D) (ci := 1) (v := .double (FP.l2d (Y (pkN j n)))) (C := RX2) (T := TX2) (N := 3) hx hb hts in_X2 hown hK.1 hCj 0 rfl rfl 1 (by decide) (hts _ q53) (fun _ h9 => h9) rfl dX1_own_51 ?_
    refine lv_d2l hx hb dX1_own_54 ?_
    rw [d2l_l2d (B29.abs53 (bY _ (pkN_lt j hn0)))]
    refine lv_ladd hx hb dX1_own_55 ?_
    refine lv_iconst (v := 1) hx hb dX1_own_56 (by decide) ?_
    refine lv_lshr hx hb dX1_own_57 rfl ?_
    refine lv_l2d hx hb dX1_own_58 ?_
    refine va_callv (va_runI (As := [.double (FP.l2d (((X (pkN i n)) + (X (pkN j n))) >>> ((1 : Int32).toInt64 &&& 63))), .double (FP.l2d (((Y (pkN i n)) + (Y (pkN j n))) >>> ((1 : Int32).toInt64 &&& 63)))]) (rest := [.ref q, .ref h0]) ⟨hx, hb, hml, hown, hts⟩ (m_Co_init2 l D tys q _ (FP.l2d (((X (pkN i n)) + (X (pkN j n))) >>> ((1 : Int32).toInt64 &&& 63))) (FP.l2d (((Y (pkN i n)) + (Y (pkN j n))) >>> ((1 : Int32).toInt64 &&& 63)))) (cwI 2 hts (lw_meth q40) rfl rfl rfl (hts _ q7) (hts _ q38) (hts _ q39) rfl (by decide +kernel) ⟨Nat.le_of_ble_eq_true rfl, Nat.le_of_ble_eq_true rfl⟩) (gS rfl hQ hK) rfl rfl hl.1 rfl (lv_room (Nat.le_of_ble_eq_true rfl)) dX1_own_59 ⟨Nat.le_of_ble_eq_true rfl, Nat.le_of_ble_eq_true rfl⟩) hS (fun q h1 h2 => h2.elim (fun e => e ▸ hAq) (fun h => absurd h (Nat.not_le.mpr h1))) (fun q h => h.elim (fun e => e ▸ hAq) (fun h => hA q (Nat.le_trans hS.1 h))) (fun u t H4 locs ht hvm hw hB hz hk hS => ?_)
    have hQ : C1 D q (Co (md (X (pkN i n)) (X (pkN j n))) (md (Y (pkN i n)) (Y (pkN j n)))) H4 := by rw [← ht]; exact hB
    have hP := hP0.keepS hAe hS
    have hPa := hPa0.keepS hAe hS
    have hC := fun j hj => (hC0 j hj).keepS hAe hS
    refine va_calli (va_runV (As := [.ref q]) (rest := []) ⟨hx, hb, hml, hown, hts⟩ (m_TD_place l D tys h0 q pa _ n t0 dA f ad X Y (md (X (pkN i n)) (X (pkN j n))) (md (Y (pkN i n)) (Y (pkN j n))) hn ht0 hf bX bY hn0 (md_bd (bX _ (pkN_lt i hn0)) (bX _ (pkN_lt j hn0))) (md_bd (bY _ (pkN_lt i hn0)) (bY _ (pkN_lt j hn0)))) (cwV 1 hts (lw_V q152 q154 qs4 q6 q155) rfl rfl rfl (by decide +kernel) ⟨Nat.le_of_ble_eq_true rfl, Nat.le_of_ble_eq_true rfl⟩) (gV (va_recv hK.1 hP (ci := 0) (q0 := 0) rfl rfl) rfl ⟨⟨hP, hPa, hC⟩, hQ⟩ hK) rfl rfl hl.1 rfl (lv_room (Nat.le_of_ble_eq_true rfl)) dX1_own_62 ⟨Nat.le_of_ble_eq_true rfl, Nat.le_of_ble_eq_true rfl⟩) hS (fun q h1 h2 => absurd h2 (Nat.not_le.mpr h1)) (fun q h => hA q (Nat.le_trans hS.1 h)) (fun r u2 t H5 locs ht hvm hw hB hz hk hS => ?_)
    exact W.iret (v := r) hx hb hr (fun t ht hW => ⟨⟨r, (), rfl, Or.inr ⟨hn3, hw⟩, trivial⟩, hS.F ht⟩) hS.2.2 dX1_own_65
  · have hn3 : n < 3 := by
      rcases Nat.lt_or_ge n 3 with h | h
      · exact h
      · exact absurd (show nI 3 ≤ nI n from nI_le h (by omega)) c1
    refine W.widen (k := 63) (n := 142) (Nat.le_of_ble_eq_true rfl) (Nat.le_of_ble_eq_true rfl) ?_
    refine lv_bipush (v := (-9)) hx hb dX1_own_8 (by decide) ?_
    exact W.iret (v := (-9)) hx hb hr (fun t ht hW => ⟨⟨(-9), (), rfl, Or.inl ⟨hn3, rfl⟩, trivial⟩, hS.F ht⟩) hS.2.2 dX1_own_10
end
section
/-! THE RING's law, no program in sight: printed by wip/D-29928w/ring.py. The ray to the right (the desk) and the ray straight up (the law) cross a closed ring an equally odd or even number of times -/
/-- what one edge says to the law: 1 the point lies on it, 2 it counts, 0 neither -/
def lawR (xi yi xj yj px py : Int) : Nat :=
  if crossI xi yi xj yj px py = 0 ∧ (px - xi) * (px - xj) ≤ 0 ∧ (py - yi) * (py - yj) ≤ 0 then 1
  else if (xi ≤ px ∧ px < xj ∧ crossI xi yi xj yj px py < 0) ∨ (xj ≤ px ∧ px < xi ∧ 0 < crossI xi yi xj yj px py) then 2
  else 0
/-- the quarter right of the point and above it -/
def fq (x y px py : Int) : Nat := if px < x ∧ py < y then 1 else 0
theorem cross_rel (px py ax ay bx by' : Int) : crossI (px + ax) (py + ay) (px + bx) (py + by') px py = ax * by' - ay * bx := by
  unfold crossI
  grind
theorem cross_rev (px py ax ay bx by' : Int) : crossI (px + bx) (py + by') (px + ax) (py + ay) px py = ay * bx - ax * by' := by
  unfold crossI
  grind
theorem neg_prod (p a b : Int) : (p - (p + a)) * (p - (p + b)) = a * b := by grind
def Edge (xa ya xb yb px py : Int) : Prop :=
  (segR xb yb xa ya px py = 1 → lawR xa ya xb yb px py = 1) ∧ (lawR xa ya xb yb px py = 1 → segR xb yb xa ya px py = 1 ∨ (px = xb ∧ py = yb)) ∧ (px = xa ∧ py = ya → segR xb yb xa ya px py = 1) ∧
  (segR xb yb xa ya px py ≠ 1 → lawR xa ya xb yb px py ≠ 1 → ((if segR xb yb xa ya px py = 2 then 1 else 0) + (if lawR xa ya xb yb px py = 2 then 1 else 0) + fq xa ya px py + fq xb yb px py) % 2 = 0)
theorem segR_rel (px py ax ay bx by' : Int) : segR (px + bx) (py + by') (px + ax) (py + ay) px py = (if bx < 0 ∧ ax < 0 then 0 else if ax = 0 ∧ ay = 0 then 1 else if by' = 0 ∧ ay = 0 then (if (bx ≤ 0 ∧ 0 ≤ ax) ∨ (ax ≤ 0 ∧ 0 ≤ bx) then 1 else 0) else if (0 < by' ∧ ay ≤ 0) ∨ (0 < ay ∧ by' ≤ 0) then (if ay * bx - ax * by' = 0 then 1 else if ay < by' then (if ay * bx - ax * by' < 0 then 2 else 0) else (if 0 < ay * bx - ax * by' then 2 else 0)) else 0) := by
  unfold segR
  rw [cross_rev]
  have e1 : (px + bx < px ∧ px + ax < px) ↔ (bx < 0 ∧ ax < 0) := by omega
  have e2 : (px = px + ax ∧ py = py + ay) ↔ (ax = 0 ∧ ay = 0) := by omega
  have e3 : (py + by' = py ∧ py + ay = py) ↔ (by' = 0 ∧ ay = 0) := by omega
  have e4 : ((px + bx ≤ px ∧ px ≤ px + ax) ∨ (px + ax ≤ px ∧ px ≤ px + bx)) ↔ ((bx ≤ 0 ∧ 0 ≤ ax) ∨ (ax ≤ 0 ∧ 0 ≤ bx)) := by omega
  have e5 : ((py < py + by' ∧ py + ay ≤ py) ∨ (py < py + ay ∧ py + by' ≤ py)) ↔ ((0 < by' ∧ ay ≤ 0) ∨ (0 < ay ∧ by' ≤ 0)) := by omega
  have e6 : (py + ay < py + by') ↔ (ay < by') := by omega
  simp only [e1, e2, e3, e4, e5, e6]
theorem lawR_rel (px py ax ay bx by' : Int) : lawR (px + ax) (py + ay) (px + bx) (py + by') px py = (if ax * by' - ay * bx = 0 ∧ ax * bx ≤ 0 ∧ ay * by' ≤ 0 then 1 else if (ax ≤ 0 ∧ 0 < bx ∧ ax * by' - ay * bx < 0) ∨ (bx ≤ 0 ∧ 0 < ax ∧ 0 < ax * by' - ay * bx) then 2 else 0) := by
  unfold lawR
  rw [cross_rel, neg_prod, neg_prod]
  have e1 : (px + ax ≤ px ∧ px < px + bx ∧ ax * by' - ay * bx < 0) ↔ (ax ≤ 0 ∧ 0 < bx ∧ ax * by' - ay * bx < 0) := by
    generalize ax * by' - ay * bx = c
    omega
  have e2 : (px + bx ≤ px ∧ px < px + ax ∧ 0 < ax * by' - ay * bx) ↔ (bx ≤ 0 ∧ 0 < ax ∧ 0 < ax * by' - ay * bx) := by
    generalize ax * by' - ay * bx = c
    omega
  simp only [e1, e2]
theorem fq_rel (px py ax ay : Int) : fq (px + ax) (py + ay) px py = if 0 < ax ∧ 0 < ay then 1 else 0 := by
  unfold fq
  have e1 : (px < px + ax ∧ py < py + ay) ↔ (0 < ax ∧ 0 < ay) := by omega
  simp only [e1]
theorem mpp {a b : Int} (h : 0 < a) (g : 0 < b) : 0 < a * b := Int.mul_pos h g
theorem mpn {a b : Int} (h : 0 < a) (g : b < 0) : a * b < 0 := Int.mul_neg_of_pos_of_neg h g
theorem mnp {a b : Int} (h : a < 0) (g : 0 < b) : a * b < 0 := Int.mul_neg_of_neg_of_pos h g
theorem mnn {a b : Int} (h : a < 0) (g : b < 0) : 0 < a * b := Int.mul_pos_of_neg_of_neg h g
/-- what is to be shown of an edge, by its two answers and the two quarters -/
def EdgeN (px py ax ay bx by' : Int) (s t f g : Nat) : Prop := (s = 1 → t = 1) ∧ (t = 1 → s = 1 ∨ (px = px + bx ∧ py = py + by')) ∧ (px = px + ax ∧ py = py + ay → s = 1) ∧ (s ≠ 1 → t ≠ 1 → ((if s = 2 then 1 else 0) + (if t = 2 then 1 else 0) + f + g) % 2 = 0)
theorem edge_nnnn (px py ax ay bx by' u v w z : Int) (hax : ax < 0) (hay : ay < 0) (hbx : bx < 0) (hby : by' < 0) (p1 : 0 < u) (p2 : 0 < v) (p3 : 0 < w) (p4 : 0 < z) : EdgeN px py ax ay bx by' (if bx < 0 ∧ ax < 0 then 0 else if ax = 0 ∧ ay = 0 then 1 else if by' = 0 ∧ ay = 0 then (if (bx ≤ 0 ∧ 0 ≤ ax) ∨ (ax ≤ 0 ∧ 0 ≤ bx) then 1 else 0) else if (0 < by' ∧ ay ≤ 0) ∨ (0 < ay ∧ by' ≤ 0) then (if v - u = 0 then 1 else if ay < by' then (if v - u < 0 then 2 else 0) else (if 0 < v - u then 2 else 0)) else 0) (if u - v = 0 ∧ w ≤ 0 ∧ z ≤ 0 then 1 else if (ax ≤ 0 ∧ 0 < bx ∧ u - v < 0) ∨ (bx ≤ 0 ∧ 0 < ax ∧ 0 < u - v) then 2 else 0) (if 0 < ax ∧ 0 < ay then 1 else 0) (if 0 < bx ∧ 0 < by' then 1 else 0) := by
  rcases Int.lt_trichotomy (u - v) 0 with hc | hc | hc
  · rw [if_pos (by omega), if_neg (by omega), if_neg (by omega), if_neg (by omega), if_neg (by omega)]
    exact ⟨by decide, fun h => by first | exact Or.inl rfl | exact absurd h (by decide) | exact Or.inr ⟨by omega, by omega⟩, fun h => by first | rfl | (exfalso; omega), by decide⟩
  · rw [if_pos (by omega), if_neg (by omega), if_neg (by omega), if_neg (by omega), if_neg (by omega)]
    exact ⟨by decide, fun h => by first | exact Or.inl rfl | exact absurd h (by decide) | exact Or.inr ⟨by omega, by omega⟩, fun h => by first | rfl | (exfalso; omega), by decide⟩
  · rw [if_pos (by omega), if_neg (by omega), if_neg (by omega), if_neg (by omega), if_neg (by omega)]
    exact ⟨by decide, fun h => by first | exact Or.inl rfl | exact absurd h (by decide) | exact Or.inr ⟨by omega, by omega⟩, fun h => by first | rfl | (exfalso; omega), by decide⟩
theorem edge_nnnz (px py ax ay bx by' u v w z : Int) (hax : ax < 0) (hay : ay < 0) (hbx : bx < 0) (hby : by' = 0) (p1 : u = 0) (p2 : 0 < v) (p3 : 0 < w) (p4 : z = 0) : EdgeN px py ax ay bx by' (if bx < 0 ∧ ax < 0 then 0 else if ax = 0 ∧ ay = 0 then 1 else if by' = 0 ∧ ay = 0 then (if (bx ≤ 0 ∧ 0 ≤ ax) ∨ (ax ≤ 0 ∧ 0 ≤ bx) then 1 else 0) else if (0 < by' ∧ ay ≤ 0) ∨ (0 < ay ∧ by' ≤ 0) then (if v - u = 0 then 1 else if ay < by' then (if v - u < 0 then 2 else 0) else (if 0 < v - u then 2 else 0)) else 0) (if u - v = 0 ∧ w ≤ 0 ∧ z ≤ 0 then 1 else if (ax ≤ 0 ∧ 0 < bx ∧ u - v < 0) ∨ (bx ≤ 0 ∧ 0 < ax ∧ 0 < u - v) then 2 else 0) (if 0 < ax ∧ 0 < ay then 1 else 0) (if 0 < bx ∧ 0 < by' then 1 else 0) := by
  rcases Int.lt_trichotomy (u - v) 0 with hc | hc | hc
  · rw [if_pos (by omega), if_neg (by omega), if_neg (by omega), if_neg (by omega), if_neg (by omega)]
    exact ⟨by decide, fun h => by first | exact Or.inl rfl | exact absurd h (by decide) | exact Or.inr ⟨by omega, by omega⟩, fun h => by first | rfl | (exfalso; omega), by decide⟩
  · exact absurd hc (by omega)
  · exact absurd hc (by omega)
theorem edge_nnnp (px py ax ay bx by' u v w z : Int) (hax : ax < 0) (hay : ay < 0) (hbx : bx < 0) (hby : 0 < by') (p1 : u < 0) (p2 : 0 < v) (p3 : 0 < w) (p4 : z < 0) : EdgeN px py ax ay bx by' (if bx < 0 ∧ ax < 0 then 0 else if ax = 0 ∧ ay = 0 then 1 else if by' = 0 ∧ ay = 0 then (if (bx ≤ 0 ∧ 0 ≤ ax) ∨ (ax ≤ 0 ∧ 0 ≤ bx) then 1 else 0) else if (0 < by' ∧ ay ≤ 0) ∨ (0 < ay ∧ by' ≤ 0) then (if v - u = 0 then 1 else if ay < by' then (if v - u < 0 then 2 else 0) else (if 0 < v - u then 2 else 0)) else 0) (if u - v = 0 ∧ w ≤ 0 ∧ z ≤ 0 then 1 else if (ax ≤ 0 ∧ 0 < bx ∧ u - v < 0) ∨ (bx ≤ 0 ∧ 0 < ax ∧ 0 < u - v) then 2 else 0) (if 0 < ax ∧ 0 < ay then 1 else 0) (if 0 < bx ∧ 0 < by' then 1 else 0) := by
  rcases Int.lt_trichotomy (u - v) 0 with hc | hc | hc
  · rw [if_pos (by omega), if_neg (by omega), if_neg (by omega), if_neg (by omega), if_neg (by omega)]
    exact ⟨by decide, fun h => by first | exact Or.inl rfl | exact absurd h (by decide) | exact Or.inr ⟨by omega, by omega⟩, fun h => by first | rfl | (exfalso; omega), by decide⟩
  · exact absurd hc (by omega)
  · exact absurd hc (by omega)
theorem edge_nnzn (px py ax ay bx by' u v w z : Int) (hax : ax < 0) (hay : ay < 0) (hbx : bx = 0) (hby : by' < 0) (p1 : 0 < u) (p2 : v = 0) (p3 : w = 0) (p4 : 0 < z) : EdgeN px py ax ay bx by' (if bx < 0 ∧ ax < 0 then 0 else if ax = 0 ∧ ay = 0 then 1 else if by' = 0 ∧ ay = 0 then (if (bx ≤ 0 ∧ 0 ≤ ax) ∨ (ax ≤ 0 ∧ 0 ≤ bx) then 1 else 0) else if (0 < by' ∧ ay ≤ 0) ∨ (0 < ay ∧ by' ≤ 0) then (if v - u = 0 then 1 else if ay < by' then (if v - u < 0 then 2 else 0) else (if 0 < v - u then 2 else 0)) else 0) (if u - v = 0 ∧ w ≤ 0 ∧ z ≤ 0 then 1 else if (ax ≤ 0 ∧ 0 < bx ∧ u - v < 0) ∨ (bx ≤ 0 ∧ 0 < ax ∧ 0 < u - v) then 2 else 0) (if 0 < ax ∧ 0 < ay then 1 else 0) (if 0 < bx ∧ 0 < by' then 1 else 0) := by
  rcases Int.lt_trichotomy (u - v) 0 with hc | hc | hc
  · exact absurd hc (by omega)
  · exact absurd hc (by omega)
  · rw [if_neg (by omega), if_neg (by omega), if_neg (by omega), if_neg (by omega), if_neg (by omega), if_neg (by omega), if_neg (by omega), if_neg (by omega)]
    exact ⟨by decide, fun h => by first | exact Or.inl rfl | exact absurd h (by decide) | exact Or.inr ⟨by omega, by omega⟩, fun h => by first | rfl | (exfalso; omega), by decide⟩
theorem edge_nnzz (px py ax ay bx by' u v w z : Int) (hax : ax < 0) (hay : ay < 0) (hbx : bx = 0) (hby : by' = 0) (p1 : u = 0) (p2 : v = 0) (p3 : w = 0) (p4 : z = 0) : EdgeN px py ax ay bx by' (if bx < 0 ∧ ax < 0 then 0 else if ax = 0 ∧ ay = 0 then 1 else if by' = 0 ∧ ay = 0 then (if (bx ≤ 0 ∧ 0 ≤ ax) ∨ (ax ≤ 0 ∧ 0 ≤ bx) then 1 else 0) else if (0 < by' ∧ ay ≤ 0) ∨ (0 < ay ∧ by' ≤ 0) then (if v - u = 0 then 1 else if ay < by' then (if v - u < 0 then 2 else 0) else (if 0 < v - u then 2 else 0)) else 0) (if u - v = 0 ∧ w ≤ 0 ∧ z ≤ 0 then 1 else if (ax ≤ 0 ∧ 0 < bx ∧ u - v < 0) ∨ (bx ≤ 0 ∧ 0 < ax ∧ 0 < u - v) then 2 else 0) (if 0 < ax ∧ 0 < ay then 1 else 0) (if 0 < bx ∧ 0 < by' then 1 else 0) := by
  rcases Int.lt_trichotomy (u - v) 0 with hc | hc | hc
  · exact absurd hc (by omega)
  · rw [if_neg (by omega), if_neg (by omega), if_neg (by omega), if_neg (by omega), if_pos (by omega), if_neg (by omega), if_neg (by omega)]
    exact ⟨by decide, fun h => by first | exact Or.inl rfl | exact absurd h (by decide) | exact Or.inr ⟨by omega, by omega⟩, fun h => by first | rfl | (exfalso; omega), by decide⟩
  · exact absurd hc (by omega)
theorem edge_nnzp (px py ax ay bx by' u v w z : Int) (hax : ax < 0) (hay : ay < 0) (hbx : bx = 0) (hby : 0 < by') (p1 : u < 0) (p2 : v = 0) (p3 : w = 0) (p4 : z < 0) : EdgeN px py ax ay bx by' (if bx < 0 ∧ ax < 0 then 0 else if ax = 0 ∧ ay = 0 then 1 else if by' = 0 ∧ ay = 0 then (if (bx ≤ 0 ∧ 0 ≤ ax) ∨ (ax ≤ 0 ∧ 0 ≤ bx) then 1 else 0) else if (0 < by' ∧ ay ≤ 0) ∨ (0 < ay ∧ by' ≤ 0) then (if v - u = 0 then 1 else if ay < by' then (if v - u < 0 then 2 else 0) else (if 0 < v - u then 2 else 0)) else 0) (if u - v = 0 ∧ w ≤ 0 ∧ z ≤ 0 then 1 else if (ax ≤ 0 ∧ 0 < bx ∧ u - v < 0) ∨ (bx ≤ 0 ∧ 0 < ax ∧ 0 < u - v) then 2 else 0) (if 0 < ax ∧ 0 < ay then 1 else 0) (if 0 < bx ∧ 0 < by' then 1 else 0) := by
  rcases Int.lt_trichotomy (u - v) 0 with hc | hc | hc
  · rw [if_neg (by omega), if_neg (by omega), if_neg (by omega), if_pos (by omega), if_neg (by omega), if_pos (by omega), if_neg (by omega), if_neg (by omega), if_neg (by omega), if_neg (by omega), if_neg (by omega)]
    exact ⟨by decide, fun h => by first | exact Or.inl rfl | exact absurd h (by decide) | exact Or.inr ⟨by omega, by omega⟩, fun h => by first | rfl | (exfalso; omega), by decide⟩
  · exact absurd hc (by omega)
  · exact absurd hc (by omega)
theorem edge_nnpn (px py ax ay bx by' u v w z : Int) (hax : ax < 0) (hay : ay < 0) (hbx : 0 < bx) (hby : by' < 0) (p1 : 0 < u) (p2 : v < 0) (p3 : w < 0) (p4 : 0 < z) : EdgeN px py ax ay bx by' (if bx < 0 ∧ ax < 0 then 0 else if ax = 0 ∧ ay = 0 then 1 else if by' = 0 ∧ ay = 0 then (if (bx ≤ 0 ∧ 0 ≤ ax) ∨ (ax ≤ 0 ∧ 0 ≤ bx) then 1 else 0) else if (0 < by' ∧ ay ≤ 0) ∨ (0 < ay ∧ by' ≤ 0) then (if v - u = 0 then 1 else if ay < by' then (if v - u < 0 then 2 else 0) else (if 0 < v - u then 2 else 0)) else 0) (if u - v = 0 ∧ w ≤ 0 ∧ z ≤ 0 then 1 else if (ax ≤ 0 ∧ 0 < bx ∧ u - v < 0) ∨ (bx ≤ 0 ∧ 0 < ax ∧ 0 < u - v) then 2 else 0) (if 0 < ax ∧ 0 < ay then 1 else 0) (if 0 < bx ∧ 0 < by' then 1 else 0) := by
  rcases Int.lt_trichotomy (u - v) 0 with hc | hc | hc
  · exact absurd hc (by omega)
  · exact absurd hc (by omega)
  · rw [if_neg (by omega), if_neg (by omega), if_neg (by omega), if_neg (by omega), if_neg (by omega), if_neg (by omega), if_neg (by omega), if_neg (by omega)]
    exact ⟨by decide, fun h => by first | exact Or.inl rfl | exact absurd h (by decide) | exact Or.inr ⟨by omega, by omega⟩, fun h => by first | rfl | (exfalso; omega), by decide⟩
theorem edge_nnpz (px py ax ay bx by' u v w z : Int) (hax : ax < 0) (hay : ay < 0) (hbx : 0 < bx) (hby : by' = 0) (p1 : u = 0) (p2 : v < 0) (p3 : w < 0) (p4 : z = 0) : EdgeN px py ax ay bx by' (if bx < 0 ∧ ax < 0 then 0 else if ax = 0 ∧ ay = 0 then 1 else if by' = 0 ∧ ay = 0 then (if (bx ≤ 0 ∧ 0 ≤ ax) ∨ (ax ≤ 0 ∧ 0 ≤ bx) then 1 else 0) else if (0 < by' ∧ ay ≤ 0) ∨ (0 < ay ∧ by' ≤ 0) then (if v - u = 0 then 1 else if ay < by' then (if v - u < 0 then 2 else 0) else (if 0 < v - u then 2 else 0)) else 0) (if u - v = 0 ∧ w ≤ 0 ∧ z ≤ 0 then 1 else if (ax ≤ 0 ∧ 0 < bx ∧ u - v < 0) ∨ (bx ≤ 0 ∧ 0 < ax ∧ 0 < u - v) then 2 else 0) (if 0 < ax ∧ 0 < ay then 1 else 0) (if 0 < bx ∧ 0 < by' then 1 else 0) := by
  rcases Int.lt_trichotomy (u - v) 0 with hc | hc | hc
  · exact absurd hc (by omega)
  · exact absurd hc (by omega)
  · rw [if_neg (by omega), if_neg (by omega), if_neg (by omega), if_neg (by omega), if_neg (by omega), if_neg (by omega), if_neg (by omega), if_neg (by omega)]
    exact ⟨by decide, fun h => by first | exact Or.inl rfl | exact absurd h (by decide) | exact Or.inr ⟨by omega, by omega⟩, fun h => by first | rfl | (exfalso; omega), by decide⟩
theorem edge_nnpp (px py ax ay bx by' u v w z : Int) (hax : ax < 0) (hay : ay < 0) (hbx : 0 < bx) (hby : 0 < by') (p1 : u < 0) (p2 : v < 0) (p3 : w < 0) (p4 : z < 0) : EdgeN px py ax ay bx by' (if bx < 0 ∧ ax < 0 then 0 else if ax = 0 ∧ ay = 0 then 1 else if by' = 0 ∧ ay = 0 then (if (bx ≤ 0 ∧ 0 ≤ ax) ∨ (ax ≤ 0 ∧ 0 ≤ bx) then 1 else 0) else if (0 < by' ∧ ay ≤ 0) ∨ (0 < ay ∧ by' ≤ 0) then (if v - u = 0 then 1 else if ay < by' then (if v - u < 0 then 2 else 0) else (if 0 < v - u then 2 else 0)) else 0) (if u - v = 0 ∧ w ≤ 0 ∧ z ≤ 0 then 1 else if (ax ≤ 0 ∧ 0 < bx ∧ u - v < 0) ∨ (bx ≤ 0 ∧ 0 < ax ∧ 0 < u - v) then 2 else 0) (if 0 < ax ∧ 0 < ay then 1 else 0) (if 0 < bx ∧ 0 < by' then 1 else 0) := by
  rcases Int.lt_trichotomy (u - v) 0 with hc | hc | hc
  · rw [if_neg (by omega), if_neg (by omega), if_neg (by omega), if_pos (by omega), if_neg (by omega), if_pos (by omega), if_neg (by omega), if_neg (by omega), if_pos (by omega), if_neg (by omega), if_pos (by omega)]
    exact ⟨by decide, fun h => by first | exact Or.inl rfl | exact absurd h (by decide) | exact Or.inr ⟨by omega, by omega⟩, fun h => by first | rfl | (exfalso; omega), by decide⟩
  · rw [if_neg (by omega), if_neg (by omega), if_neg (by omega), if_pos (by omega), if_pos (by omega), if_pos (by omega), if_neg (by omega), if_pos (by omega)]
    exact ⟨by decide, fun h => by first | exact Or.inl rfl | exact absurd h (by decide) | exact Or.inr ⟨by omega, by omega⟩, fun h => by first | rfl | (exfalso; omega), by decide⟩
  · rw [if_neg (by omega), if_neg (by omega), if_neg (by omega), if_pos (by omega), if_neg (by omega), if_pos (by omega), if_pos (by omega), if_neg (by omega), if_neg (by omega), if_neg (by omega), if_pos (by omega)]
    exact ⟨by decide, fun h => by first | exact Or.inl rfl | exact absurd h (by decide) | exact Or.inr ⟨by omega, by omega⟩, fun h => by first | rfl | (exfalso; omega), by decide⟩
theorem edge_nznn (px py ax ay bx by' u v w z : Int) (hax : ax < 0) (hay : ay = 0) (hbx : bx < 0) (hby : by' < 0) (p1 : 0 < u) (p2 : v = 0) (p3 : 0 < w) (p4 : z = 0) : EdgeN px py ax ay bx by' (if bx < 0 ∧ ax < 0 then 0 else if ax = 0 ∧ ay = 0 then 1 else if by' = 0 ∧ ay = 0 then (if (bx ≤ 0 ∧ 0 ≤ ax) ∨ (ax ≤ 0 ∧ 0 ≤ bx) then 1 else 0) else if (0 < by' ∧ ay ≤ 0) ∨ (0 < ay ∧ by' ≤ 0) then (if v - u = 0 then 1 else if ay < by' then (if v - u < 0 then 2 else 0) else (if 0 < v - u then 2 else 0)) else 0) (if u - v = 0 ∧ w ≤ 0 ∧ z ≤ 0 then 1 else if (ax ≤ 0 ∧ 0 < bx ∧ u - v < 0) ∨ (bx ≤ 0 ∧ 0 < ax ∧ 0 < u - v) then 2 else 0) (if 0 < ax ∧ 0 < ay then 1 else 0) (if 0 < bx ∧ 0 < by' then 1 else 0) := by
  rcases Int.lt_trichotomy (u - v) 0 with hc | hc | hc
  · exact absurd hc (by omega)
  · exact absurd hc (by omega)
  · rw [if_pos (by omega), if_neg (by omega), if_neg (by omega), if_neg (by omega), if_neg (by omega)]
    exact ⟨by decide, fun h => by first | exact Or.inl rfl | exact absurd h (by decide) | exact Or.inr ⟨by omega, by omega⟩, fun h => by first | rfl | (exfalso; omega), by decide⟩
theorem edge_nznz (px py ax ay bx by' u v w z : Int) (hax : ax < 0) (hay : ay = 0) (hbx : bx < 0) (hby : by' = 0) (p1 : u = 0) (p2 : v = 0) (p3 : 0 < w) (p4 : z = 0) : EdgeN px py ax ay bx by' (if bx < 0 ∧ ax < 0 then 0 else if ax = 0 ∧ ay = 0 then 1 else if by' = 0 ∧ ay = 0 then (if (bx ≤ 0 ∧ 0 ≤ ax) ∨ (ax ≤ 0 ∧ 0 ≤ bx) then 1 else 0) else if (0 < by' ∧ ay ≤ 0) ∨ (0 < ay ∧ by' ≤ 0) then (if v - u = 0 then 1 else if ay < by' then (if v - u < 0 then 2 else 0) else (if 0 < v - u then 2 else 0)) else 0) (if u - v = 0 ∧ w ≤ 0 ∧ z ≤ 0 then 1 else if (ax ≤ 0 ∧ 0 < bx ∧ u - v < 0) ∨ (bx ≤ 0 ∧ 0 < ax ∧ 0 < u - v) then 2 else 0) (if 0 < ax ∧ 0 < ay then 1 else 0) (if 0 < bx ∧ 0 < by' then 1 else 0) := by
  rcases Int.lt_trichotomy (u - v) 0 with hc | hc | hc
  · exact absurd hc (by omega)
  · rw [if_pos (by omega), if_neg (by omega), if_neg (by omega), if_neg (by omega), if_neg (by omega)]
    exact ⟨by decide, fun h => by first | exact Or.inl rfl | exact absurd h (by decide) | exact Or.inr ⟨by omega, by omega⟩, fun h => by first | rfl | (exfalso; omega), by decide⟩
  · exact absurd hc (by omega)
theorem edge_nznp (px py ax ay bx by' u v w z : Int) (hax : ax < 0) (hay : ay = 0) (hbx : bx < 0) (hby : 0 < by') (p1 : u < 0) (p2 : v = 0) (p3 : 0 < w) (p4 : z = 0) : EdgeN px py ax ay bx by' (if bx < 0 ∧ ax < 0 then 0 else if ax = 0 ∧ ay = 0 then 1 else if by' = 0 ∧ ay = 0 then (if (bx ≤ 0 ∧ 0 ≤ ax) ∨ (ax ≤ 0 ∧ 0 ≤ bx) then 1 else 0) else if (0 < by' ∧ ay ≤ 0) ∨ (0 < ay ∧ by' ≤ 0) then (if v - u = 0 then 1 else if ay < by' then (if v - u < 0 then 2 else 0) else (if 0 < v - u then 2 else 0)) else 0) (if u - v = 0 ∧ w ≤ 0 ∧ z ≤ 0 then 1 else if (ax ≤ 0 ∧ 0 < bx ∧ u - v < 0) ∨ (bx ≤ 0 ∧ 0 < ax ∧ 0 < u - v) then 2 else 0) (if 0 < ax ∧ 0 < ay then 1 else 0) (if 0 < bx ∧ 0 < by' then 1 else 0) := by
  rcases Int.lt_trichotomy (u - v) 0 with hc | hc | hc
  · rw [if_pos (by omega), if_neg (by omega), if_neg (by omega), if_neg (by omega), if_neg (by omega)]
    exact ⟨by decide, fun h => by first | exact Or.inl rfl | exact absurd h (by decide) | exact Or.inr ⟨by omega, by omega⟩, fun h => by first | rfl | (exfalso; omega), by decide⟩
  · exact absurd hc (by omega)
  · exact absurd hc (by omega)
theorem edge_nzzn (px py ax ay bx by' u v w z : Int) (hax : ax < 0) (hay : ay = 0) (hbx : bx = 0) (hby : by' < 0) (p1 : 0 < u) (p2 : v = 0) (p3 : w = 0) (p4 : z = 0) : EdgeN px py ax ay bx by' (if bx < 0 ∧ ax < 0 then 0 else if ax = 0 ∧ ay = 0 then 1 else if by' = 0 ∧ ay = 0 then (if (bx ≤ 0 ∧ 0 ≤ ax) ∨ (ax ≤ 0 ∧ 0 ≤ bx) then 1 else 0) else if (0 < by' ∧ ay ≤ 0) ∨ (0 < ay ∧ by' ≤ 0) then (if v - u = 0 then 1 else if ay < by' then (if v - u < 0 then 2 else 0) else (if 0 < v - u then 2 else 0)) else 0) (if u - v = 0 ∧ w ≤ 0 ∧ z ≤ 0 then 1 else if (ax ≤ 0 ∧ 0 < bx ∧ u - v < 0) ∨ (bx ≤ 0 ∧ 0 < ax ∧ 0 < u - v) then 2 else 0) (if 0 < ax ∧ 0 < ay then 1 else 0) (if 0 < bx ∧ 0 < by' then 1 else 0) := by
  rcases Int.lt_trichotomy (u - v) 0 with hc | hc | hc
  · exact absurd hc (by omega)
  · exact absurd hc (by omega)
  · rw [if_neg (by omega), if_neg (by omega), if_neg (by omega), if_neg (by omega), if_neg (by omega), if_neg (by omega), if_neg (by omega), if_neg (by omega)]
    exact ⟨by decide, fun h => by first | exact Or.inl rfl | exact absurd h (by decide) | exact Or.inr ⟨by omega, by omega⟩, fun h => by first | rfl | (exfalso; omega), by decide⟩
theorem edge_nzzz (px py ax ay bx by' u v w z : Int) (hax : ax < 0) (hay : ay = 0) (hbx : bx = 0) (hby : by' = 0) (p1 : u = 0) (p2 : v = 0) (p3 : w = 0) (p4 : z = 0) : EdgeN px py ax ay bx by' (if bx < 0 ∧ ax < 0 then 0 else if ax = 0 ∧ ay = 0 then 1 else if by' = 0 ∧ ay = 0 then (if (bx ≤ 0 ∧ 0 ≤ ax) ∨ (ax ≤ 0 ∧ 0 ≤ bx) then 1 else 0) else if (0 < by' ∧ ay ≤ 0) ∨ (0 < ay ∧ by' ≤ 0) then (if v - u = 0 then 1 else if ay < by' then (if v - u < 0 then 2 else 0) else (if 0 < v - u then 2 else 0)) else 0) (if u - v = 0 ∧ w ≤ 0 ∧ z ≤ 0 then 1 else if (ax ≤ 0 ∧ 0 < bx ∧ u - v < 0) ∨ (bx ≤ 0 ∧ 0 < ax ∧ 0 < u - v) then 2 else 0) (if 0 < ax ∧ 0 < ay then 1 else 0) (if 0 < bx ∧ 0 < by' then 1 else 0) := by
  rcases Int.lt_trichotomy (u - v) 0 with hc | hc | hc
  · exact absurd hc (by omega)
  · rw [if_neg (by omega), if_neg (by omega), if_pos (by omega), if_pos (by omega), if_pos (by omega), if_neg (by omega), if_neg (by omega)]
    exact ⟨by decide, fun h => by first | exact Or.inl rfl | exact absurd h (by decide) | exact Or.inr ⟨by omega, by omega⟩, fun h => by first | rfl | (exfalso; omega), by decide⟩
  · exact absurd hc (by omega)
theorem edge_nzzp (px py ax ay bx by' u v w z : Int) (hax : ax < 0) (hay : ay = 0) (hbx : bx = 0) (hby : 0 < by') (p1 : u < 0) (p2 : v = 0) (p3 : w = 0) (p4 : z = 0) : EdgeN px py ax ay bx by' (if bx < 0 ∧ ax < 0 then 0 else if ax = 0 ∧ ay = 0 then 1 else if by' = 0 ∧ ay = 0 then (if (bx ≤ 0 ∧ 0 ≤ ax) ∨ (ax ≤ 0 ∧ 0 ≤ bx) then 1 else 0) else if (0 < by' ∧ ay ≤ 0) ∨ (0 < ay ∧ by' ≤ 0) then (if v - u = 0 then 1 else if ay < by' then (if v - u < 0 then 2 else 0) else (if 0 < v - u then 2 else 0)) else 0) (if u - v = 0 ∧ w ≤ 0 ∧ z ≤ 0 then 1 else if (ax ≤ 0 ∧ 0 < bx ∧ u - v < 0) ∨ (bx ≤ 0 ∧ 0 < ax ∧ 0 < u - v) then 2 else 0) (if 0 < ax ∧ 0 < ay then 1 else 0) (if 0 < bx ∧ 0 < by' then 1 else 0) := by
  rcases Int.lt_trichotomy (u - v) 0 with hc | hc | hc
  · rw [if_neg (by omega), if_neg (by omega), if_neg (by omega), if_pos (by omega), if_neg (by omega), if_pos (by omega), if_neg (by omega), if_neg (by omega), if_neg (by omega), if_neg (by omega), if_neg (by omega)]
    exact ⟨by decide, fun h => by first | exact Or.inl rfl | exact absurd h (by decide) | exact Or.inr ⟨by omega, by omega⟩, fun h => by first | rfl | (exfalso; omega), by decide⟩
  · exact absurd hc (by omega)
  · exact absurd hc (by omega)
theorem edge_nzpn (px py ax ay bx by' u v w z : Int) (hax : ax < 0) (hay : ay = 0) (hbx : 0 < bx) (hby : by' < 0) (p1 : 0 < u) (p2 : v = 0) (p3 : w < 0) (p4 : z = 0) : EdgeN px py ax ay bx by' (if bx < 0 ∧ ax < 0 then 0 else if ax = 0 ∧ ay = 0 then 1 else if by' = 0 ∧ ay = 0 then (if (bx ≤ 0 ∧ 0 ≤ ax) ∨ (ax ≤ 0 ∧ 0 ≤ bx) then 1 else 0) else if (0 < by' ∧ ay ≤ 0) ∨ (0 < ay ∧ by' ≤ 0) then (if v - u = 0 then 1 else if ay < by' then (if v - u < 0 then 2 else 0) else (if 0 < v - u then 2 else 0)) else 0) (if u - v = 0 ∧ w ≤ 0 ∧ z ≤ 0 then 1 else if (ax ≤ 0 ∧ 0 < bx ∧ u - v < 0) ∨ (bx ≤ 0 ∧ 0 < ax ∧ 0 < u - v) then 2 else 0) (if 0 < ax ∧ 0 < ay then 1 else 0) (if 0 < bx ∧ 0 < by' then 1 else 0) := by
  rcases Int.lt_trichotomy (u - v) 0 with hc | hc | hc
  · exact absurd hc (by omega)
  · exact absurd hc (by omega)
  · rw [if_neg (by omega), if_neg (by omega), if_neg (by omega), if_neg (by omega), if_neg (by omega), if_neg (by omega), if_neg (by omega), if_neg (by omega)]
    exact ⟨by decide, fun h => by first | exact Or.inl rfl | exact absurd h (by decide) | exact Or.inr ⟨by omega, by omega⟩, fun h => by first | rfl | (exfalso; omega), by decide⟩
theorem edge_nzpz (px py ax ay bx by' u v w z : Int) (hax : ax < 0) (hay : ay = 0) (hbx : 0 < bx) (hby : by' = 0) (p1 : u = 0) (p2 : v = 0) (p3 : w < 0) (p4 : z = 0) : EdgeN px py ax ay bx by' (if bx < 0 ∧ ax < 0 then 0 else if ax = 0 ∧ ay = 0 then 1 else if by' = 0 ∧ ay = 0 then (if (bx ≤ 0 ∧ 0 ≤ ax) ∨ (ax ≤ 0 ∧ 0 ≤ bx) then 1 else 0) else if (0 < by' ∧ ay ≤ 0) ∨ (0 < ay ∧ by' ≤ 0) then (if v - u = 0 then 1 else if ay < by' then (if v - u < 0 then 2 else 0) else (if 0 < v - u then 2 else 0)) else 0) (if u - v = 0 ∧ w ≤ 0 ∧ z ≤ 0 then 1 else if (ax ≤ 0 ∧ 0 < bx ∧ u - v < 0) ∨ (bx ≤ 0 ∧ 0 < ax ∧ 0 < u - v) then 2 else 0) (if 0 < ax ∧ 0 < ay then 1 else 0) (if 0 < bx ∧ 0 < by' then 1 else 0) := by
  rcases Int.lt_trichotomy (u - v) 0 with hc | hc | hc
  · exact absurd hc (by omega)
  · rw [if_neg (by omega), if_neg (by omega), if_pos (by omega), if_pos (by omega), if_pos (by omega), if_neg (by omega), if_neg (by omega)]
    exact ⟨by decide, fun h => by first | exact Or.inl rfl | exact absurd h (by decide) | exact Or.inr ⟨by omega, by omega⟩, fun h => by first | rfl | (exfalso; omega), by decide⟩
  · exact absurd hc (by omega)
theorem edge_nzpp (px py ax ay bx by' u v w z : Int) (hax : ax < 0) (hay : ay = 0) (hbx : 0 < bx) (hby : 0 < by') (p1 : u < 0) (p2 : v = 0) (p3 : w < 0) (p4 : z = 0) : EdgeN px py ax ay bx by' (if bx < 0 ∧ ax < 0 then 0 else if ax = 0 ∧ ay = 0 then 1 else if by' = 0 ∧ ay = 0 then (if (bx ≤ 0 ∧ 0 ≤ ax) ∨ (ax ≤ 0 ∧ 0 ≤ bx) then 1 else 0) else if (0 < by' ∧ ay ≤ 0) ∨ (0 < ay ∧ by' ≤ 0) then (if v - u = 0 then 1 else if ay < by' then (if v - u < 0 then 2 else 0) else (if 0 < v - u then 2 else 0)) else 0) (if u - v = 0 ∧ w ≤ 0 ∧ z ≤ 0 then 1 else if (ax ≤ 0 ∧ 0 < bx ∧ u - v < 0) ∨ (bx ≤ 0 ∧ 0 < ax ∧ 0 < u - v) then 2 else 0) (if 0 < ax ∧ 0 < ay then 1 else 0) (if 0 < bx ∧ 0 < by' then 1 else 0) := by
  rcases Int.lt_trichotomy (u - v) 0 with hc | hc | hc
  · rw [if_neg (by omega), if_neg (by omega), if_neg (by omega), if_pos (by omega), if_neg (by omega), if_pos (by omega), if_neg (by omega), if_neg (by omega), if_pos (by omega), if_neg (by omega), if_pos (by omega)]
    exact ⟨by decide, fun h => by first | exact Or.inl rfl | exact absurd h (by decide) | exact Or.inr ⟨by omega, by omega⟩, fun h => by first | rfl | (exfalso; omega), by decide⟩
  · exact absurd hc (by omega)
  · exact absurd hc (by omega)
theorem edge_npnn (px py ax ay bx by' u v w z : Int) (hax : ax < 0) (hay : 0 < ay) (hbx : bx < 0) (hby : by' < 0) (p1 : 0 < u) (p2 : v < 0) (p3 : 0 < w) (p4 : z < 0) : EdgeN px py ax ay bx by' (if bx < 0 ∧ ax < 0 then 0 else if ax = 0 ∧ ay = 0 then 1 else if by' = 0 ∧ ay = 0 then (if (bx ≤ 0 ∧ 0 ≤ ax) ∨ (ax ≤ 0 ∧ 0 ≤ bx) then 1 else 0) else if (0 < by' ∧ ay ≤ 0) ∨ (0 < ay ∧ by' ≤ 0) then (if v - u = 0 then 1 else if ay < by' then (if v - u < 0 then 2 else 0) else (if 0 < v - u then 2 else 0)) else 0) (if u - v = 0 ∧ w ≤ 0 ∧ z ≤ 0 then 1 else if (ax ≤ 0 ∧ 0 < bx ∧ u - v < 0) ∨ (bx ≤ 0 ∧ 0 < ax ∧ 0 < u - v) then 2 else 0) (if 0 < ax ∧ 0 < ay then 1 else 0) (if 0 < bx ∧ 0 < by' then 1 else 0) := by
  rcases Int.lt_trichotomy (u - v) 0 with hc | hc | hc
  · exact absurd hc (by omega)
  · exact absurd hc (by omega)
  · rw [if_pos (by omega), if_neg (by omega), if_neg (by omega), if_neg (by omega), if_neg (by omega)]
    exact ⟨by decide, fun h => by first | exact Or.inl rfl | exact absurd h (by decide) | exact Or.inr ⟨by omega, by omega⟩, fun h => by first | rfl | (exfalso; omega), by decide⟩
theorem edge_npnz (px py ax ay bx by' u v w z : Int) (hax : ax < 0) (hay : 0 < ay) (hbx : bx < 0) (hby : by' = 0) (p1 : u = 0) (p2 : v < 0) (p3 : 0 < w) (p4 : z = 0) : EdgeN px py ax ay bx by' (if bx < 0 ∧ ax < 0 then 0 else if ax = 0 ∧ ay = 0 then 1 else if by' = 0 ∧ ay = 0 then (if (bx ≤ 0 ∧ 0 ≤ ax) ∨ (ax ≤ 0 ∧ 0 ≤ bx) then 1 else 0) else if (0 < by' ∧ ay ≤ 0) ∨ (0 < ay ∧ by' ≤ 0) then (if v - u = 0 then 1 else if ay < by' then (if v - u < 0 then 2 else 0) else (if 0 < v - u then 2 else 0)) else 0) (if u - v = 0 ∧ w ≤ 0 ∧ z ≤ 0 then 1 else if (ax ≤ 0 ∧ 0 < bx ∧ u - v < 0) ∨ (bx ≤ 0 ∧ 0 < ax ∧ 0 < u - v) then 2 else 0) (if 0 < ax ∧ 0 < ay then 1 else 0) (if 0 < bx ∧ 0 < by' then 1 else 0) := by
  rcases Int.lt_trichotomy (u - v) 0 with hc | hc | hc
  · exact absurd hc (by omega)
  · exact absurd hc (by omega)
  · rw [if_pos (by omega), if_neg (by omega), if_neg (by omega), if_neg (by omega), if_neg (by omega)]
    exact ⟨by decide, fun h => by first | exact Or.inl rfl | exact absurd h (by decide) | exact Or.inr ⟨by omega, by omega⟩, fun h => by first | rfl | (exfalso; omega), by decide⟩
theorem edge_npnp (px py ax ay bx by' u v w z : Int) (hax : ax < 0) (hay : 0 < ay) (hbx : bx < 0) (hby : 0 < by') (p1 : u < 0) (p2 : v < 0) (p3 : 0 < w) (p4 : 0 < z) : EdgeN px py ax ay bx by' (if bx < 0 ∧ ax < 0 then 0 else if ax = 0 ∧ ay = 0 then 1 else if by' = 0 ∧ ay = 0 then (if (bx ≤ 0 ∧ 0 ≤ ax) ∨ (ax ≤ 0 ∧ 0 ≤ bx) then 1 else 0) else if (0 < by' ∧ ay ≤ 0) ∨ (0 < ay ∧ by' ≤ 0) then (if v - u = 0 then 1 else if ay < by' then (if v - u < 0 then 2 else 0) else (if 0 < v - u then 2 else 0)) else 0) (if u - v = 0 ∧ w ≤ 0 ∧ z ≤ 0 then 1 else if (ax ≤ 0 ∧ 0 < bx ∧ u - v < 0) ∨ (bx ≤ 0 ∧ 0 < ax ∧ 0 < u - v) then 2 else 0) (if 0 < ax ∧ 0 < ay then 1 else 0) (if 0 < bx ∧ 0 < by' then 1 else 0) := by
  rcases Int.lt_trichotomy (u - v) 0 with hc | hc | hc
  · rw [if_pos (by omega), if_neg (by omega), if_neg (by omega), if_neg (by omega), if_neg (by omega)]
    exact ⟨by decide, fun h => by first | exact Or.inl rfl | exact absurd h (by decide) | exact Or.inr ⟨by omega, by omega⟩, fun h => by first | rfl | (exfalso; omega), by decide⟩
  · rw [if_pos (by omega), if_neg (by omega), if_neg (by omega), if_neg (by omega), if_neg (by omega)]
    exact ⟨by decide, fun h => by first | exact Or.inl rfl | exact absurd h (by decide) | exact Or.inr ⟨by omega, by omega⟩, fun h => by first | rfl | (exfalso; omega), by decide⟩
  · rw [if_pos (by omega), if_neg (by omega), if_neg (by omega), if_neg (by omega), if_neg (by omega)]
    exact ⟨by decide, fun h => by first | exact Or.inl rfl | exact absurd h (by decide) | exact Or.inr ⟨by omega, by omega⟩, fun h => by first | rfl | (exfalso; omega), by decide⟩
theorem edge_npzn (px py ax ay bx by' u v w z : Int) (hax : ax < 0) (hay : 0 < ay) (hbx : bx = 0) (hby : by' < 0) (p1 : 0 < u) (p2 : v = 0) (p3 : w = 0) (p4 : z < 0) : EdgeN px py ax ay bx by' (if bx < 0 ∧ ax < 0 then 0 else if ax = 0 ∧ ay = 0 then 1 else if by' = 0 ∧ ay = 0 then (if (bx ≤ 0 ∧ 0 ≤ ax) ∨ (ax ≤ 0 ∧ 0 ≤ bx) then 1 else 0) else if (0 < by' ∧ ay ≤ 0) ∨ (0 < ay ∧ by' ≤ 0) then (if v - u = 0 then 1 else if ay < by' then (if v - u < 0 then 2 else 0) else (if 0 < v - u then 2 else 0)) else 0) (if u - v = 0 ∧ w ≤ 0 ∧ z ≤ 0 then 1 else if (ax ≤ 0 ∧ 0 < bx ∧ u - v < 0) ∨ (bx ≤ 0 ∧ 0 < ax ∧ 0 < u - v) then 2 else 0) (if 0 < ax ∧ 0 < ay then 1 else 0) (if 0 < bx ∧ 0 < by' then 1 else 0) := by
  rcases Int.lt_trichotomy (u - v) 0 with hc | hc | hc
  · exact absurd hc (by omega)
  · exact absurd hc (by omega)
  · rw [if_neg (by omega), if_neg (by omega), if_neg (by omega), if_pos (by omega), if_neg (by omega), if_neg (by omega), if_neg (by omega), if_neg (by omega), if_neg (by omega), if_neg (by omega), if_neg (by omega)]
    exact ⟨by decide, fun h => by first | exact Or.inl rfl | exact absurd h (by decide) | exact Or.inr ⟨by omega, by omega⟩, fun h => by first | rfl | (exfalso; omega), by decide⟩
theorem edge_npzz (px py ax ay bx by' u v w z : Int) (hax : ax < 0) (hay : 0 < ay) (hbx : bx = 0) (hby : by' = 0) (p1 : u = 0) (p2 : v = 0) (p3 : w = 0) (p4 : z = 0) : EdgeN px py ax ay bx by' (if bx < 0 ∧ ax < 0 then 0 else if ax = 0 ∧ ay = 0 then 1 else if by' = 0 ∧ ay = 0 then (if (bx ≤ 0 ∧ 0 ≤ ax) ∨ (ax ≤ 0 ∧ 0 ≤ bx) then 1 else 0) else if (0 < by' ∧ ay ≤ 0) ∨ (0 < ay ∧ by' ≤ 0) then (if v - u = 0 then 1 else if ay < by' then (if v - u < 0 then 2 else 0) else (if 0 < v - u then 2 else 0)) else 0) (if u - v = 0 ∧ w ≤ 0 ∧ z ≤ 0 then 1 else if (ax ≤ 0 ∧ 0 < bx ∧ u - v < 0) ∨ (bx ≤ 0 ∧ 0 < ax ∧ 0 < u - v) then 2 else 0) (if 0 < ax ∧ 0 < ay then 1 else 0) (if 0 < bx ∧ 0 < by' then 1 else 0) := by
  rcases Int.lt_trichotomy (u - v) 0 with hc | hc | hc
  · exact absurd hc (by omega)
  · rw [if_neg (by omega), if_neg (by omega), if_neg (by omega), if_pos (by omega), if_pos (by omega), if_pos (by omega), if_neg (by omega), if_neg (by omega)]
    exact ⟨by decide, fun h => by first | exact Or.inl rfl | exact absurd h (by decide) | exact Or.inr ⟨by omega, by omega⟩, fun h => by first | rfl | (exfalso; omega), by decide⟩
  · exact absurd hc (by omega)
theorem edge_npzp (px py ax ay bx by' u v w z : Int) (hax : ax < 0) (hay : 0 < ay) (hbx : bx = 0) (hby : 0 < by') (p1 : u < 0) (p2 : v = 0) (p3 : w = 0) (p4 : 0 < z) : EdgeN px py ax ay bx by' (if bx < 0 ∧ ax < 0 then 0 else if ax = 0 ∧ ay = 0 then 1 else if by' = 0 ∧ ay = 0 then (if (bx ≤ 0 ∧ 0 ≤ ax) ∨ (ax ≤ 0 ∧ 0 ≤ bx) then 1 else 0) else if (0 < by' ∧ ay ≤ 0) ∨ (0 < ay ∧ by' ≤ 0) then (if v - u = 0 then 1 else if ay < by' then (if v - u < 0 then 2 else 0) else (if 0 < v - u then 2 else 0)) else 0) (if u - v = 0 ∧ w ≤ 0 ∧ z ≤ 0 then 1 else if (ax ≤ 0 ∧ 0 < bx ∧ u - v < 0) ∨ (bx ≤ 0 ∧ 0 < ax ∧ 0 < u - v) then 2 else 0) (if 0 < ax ∧ 0 < ay then 1 else 0) (if 0 < bx ∧ 0 < by' then 1 else 0) := by
  rcases Int.lt_trichotomy (u - v) 0 with hc | hc | hc
  · rw [if_neg (by omega), if_neg (by omega), if_neg (by omega), if_neg (by omega), if_neg (by omega), if_neg (by omega), if_neg (by omega), if_neg (by omega)]
    exact ⟨by decide, fun h => by first | exact Or.inl rfl | exact absurd h (by decide) | exact Or.inr ⟨by omega, by omega⟩, fun h => by first | rfl | (exfalso; omega), by decide⟩
  · exact absurd hc (by omega)
  · exact absurd hc (by omega)
theorem edge_nppn (px py ax ay bx by' u v w z : Int) (hax : ax < 0) (hay : 0 < ay) (hbx : 0 < bx) (hby : by' < 0) (p1 : 0 < u) (p2 : 0 < v) (p3 : w < 0) (p4 : z < 0) : EdgeN px py ax ay bx by' (if bx < 0 ∧ ax < 0 then 0 else if ax = 0 ∧ ay = 0 then 1 else if by' = 0 ∧ ay = 0 then (if (bx ≤ 0 ∧ 0 ≤ ax) ∨ (ax ≤ 0 ∧ 0 ≤ bx) then 1 else 0) else if (0 < by' ∧ ay ≤ 0) ∨ (0 < ay ∧ by' ≤ 0) then (if v - u = 0 then 1 else if ay < by' then (if v - u < 0 then 2 else 0) else (if 0 < v - u then 2 else 0)) else 0) (if u - v = 0 ∧ w ≤ 0 ∧ z ≤ 0 then 1 else if (ax ≤ 0 ∧ 0 < bx ∧ u - v < 0) ∨ (bx ≤ 0 ∧ 0 < ax ∧ 0 < u - v) then 2 else 0) (if 0 < ax ∧ 0 < ay then 1 else 0) (if 0 < bx ∧ 0 < by' then 1 else 0) := by
  rcases Int.lt_trichotomy (u - v) 0 with hc | hc | hc
  · rw [if_neg (by omega), if_neg (by omega), if_neg (by omega), if_pos (by omega), if_neg (by omega), if_neg (by omega), if_pos (by omega), if_neg (by omega), if_pos (by omega), if_neg (by omega), if_neg (by omega)]
    exact ⟨by decide, fun h => by first | exact Or.inl rfl | exact absurd h (by decide) | exact Or.inr ⟨by omega, by omega⟩, fun h => by first | rfl | (exfalso; omega), by decide⟩
  · rw [if_neg (by omega), if_neg (by omega), if_neg (by omega), if_pos (by omega), if_pos (by omega), if_pos (by omega), if_neg (by omega), if_neg (by omega)]
    exact ⟨by decide, fun h => by first | exact Or.inl rfl | exact absurd h (by decide) | exact Or.inr ⟨by omega, by omega⟩, fun h => by first | rfl | (exfalso; omega), by decide⟩
  · rw [if_neg (by omega), if_neg (by omega), if_neg (by omega), if_pos (by omega), if_neg (by omega), if_neg (by omega), if_neg (by omega), if_neg (by omega), if_neg (by omega), if_neg (by omega), if_neg (by omega)]
    exact ⟨by decide, fun h => by first | exact Or.inl rfl | exact absurd h (by decide) | exact Or.inr ⟨by omega, by omega⟩, fun h => by first | rfl | (exfalso; omega), by decide⟩
theorem edge_nppz (px py ax ay bx by' u v w z : Int) (hax : ax < 0) (hay : 0 < ay) (hbx : 0 < bx) (hby : by' = 0) (p1 : u = 0) (p2 : 0 < v) (p3 : w < 0) (p4 : z = 0) : EdgeN px py ax ay bx by' (if bx < 0 ∧ ax < 0 then 0 else if ax = 0 ∧ ay = 0 then 1 else if by' = 0 ∧ ay = 0 then (if (bx ≤ 0 ∧ 0 ≤ ax) ∨ (ax ≤ 0 ∧ 0 ≤ bx) then 1 else 0) else if (0 < by' ∧ ay ≤ 0) ∨ (0 < ay ∧ by' ≤ 0) then (if v - u = 0 then 1 else if ay < by' then (if v - u < 0 then 2 else 0) else (if 0 < v - u then 2 else 0)) else 0) (if u - v = 0 ∧ w ≤ 0 ∧ z ≤ 0 then 1 else if (ax ≤ 0 ∧ 0 < bx ∧ u - v < 0) ∨ (bx ≤ 0 ∧ 0 < ax ∧ 0 < u - v) then 2 else 0) (if 0 < ax ∧ 0 < ay then 1 else 0) (if 0 < bx ∧ 0 < by' then 1 else 0) := by
  rcases Int.lt_trichotomy (u - v) 0 with hc | hc | hc
  · rw [if_neg (by omega), if_neg (by omega), if_neg (by omega), if_pos (by omega), if_neg (by omega), if_neg (by omega), if_pos (by omega), if_neg (by omega), if_pos (by omega), if_neg (by omega), if_neg (by omega)]
    exact ⟨by decide, fun h => by first | exact Or.inl rfl | exact absurd h (by decide) | exact Or.inr ⟨by omega, by omega⟩, fun h => by first | rfl | (exfalso; omega), by decide⟩
  · exact absurd hc (by omega)
  · exact absurd hc (by omega)
theorem edge_nppp (px py ax ay bx by' u v w z : Int) (hax : ax < 0) (hay : 0 < ay) (hbx : 0 < bx) (hby : 0 < by') (p1 : u < 0) (p2 : 0 < v) (p3 : w < 0) (p4 : 0 < z) : EdgeN px py ax ay bx by' (if bx < 0 ∧ ax < 0 then 0 else if ax = 0 ∧ ay = 0 then 1 else if by' = 0 ∧ ay = 0 then (if (bx ≤ 0 ∧ 0 ≤ ax) ∨ (ax ≤ 0 ∧ 0 ≤ bx) then 1 else 0) else if (0 < by' ∧ ay ≤ 0) ∨ (0 < ay ∧ by' ≤ 0) then (if v - u = 0 then 1 else if ay < by' then (if v - u < 0 then 2 else 0) else (if 0 < v - u then 2 else 0)) else 0) (if u - v = 0 ∧ w ≤ 0 ∧ z ≤ 0 then 1 else if (ax ≤ 0 ∧ 0 < bx ∧ u - v < 0) ∨ (bx ≤ 0 ∧ 0 < ax ∧ 0 < u - v) then 2 else 0) (if 0 < ax ∧ 0 < ay then 1 else 0) (if 0 < bx ∧ 0 < by' then 1 else 0) := by
  rcases Int.lt_trichotomy (u - v) 0 with hc | hc | hc
  · rw [if_neg (by omega), if_neg (by omega), if_neg (by omega), if_neg (by omega), if_neg (by omega), if_pos (by omega), if_neg (by omega), if_pos (by omega)]
    exact ⟨by decide, fun h => by first | exact Or.inl rfl | exact absurd h (by decide) | exact Or.inr ⟨by omega, by omega⟩, fun h => by first | rfl | (exfalso; omega), by decide⟩
  · exact absurd hc (by omega)
  · exact absurd hc (by omega)
theorem edge_znnn (px py ax ay bx by' u v w z : Int) (hax : ax = 0) (hay : ay < 0) (hbx : bx < 0) (hby : by' < 0) (p1 : u = 0) (p2 : 0 < v) (p3 : w = 0) (p4 : 0 < z) : EdgeN px py ax ay bx by' (if bx < 0 ∧ ax < 0 then 0 else if ax = 0 ∧ ay = 0 then 1 else if by' = 0 ∧ ay = 0 then (if (bx ≤ 0 ∧ 0 ≤ ax) ∨ (ax ≤ 0 ∧ 0 ≤ bx) then 1 else 0) else if (0 < by' ∧ ay ≤ 0) ∨ (0 < ay ∧ by' ≤ 0) then (if v - u = 0 then 1 else if ay < by' then (if v - u < 0 then 2 else 0) else (if 0 < v - u then 2 else 0)) else 0) (if u - v = 0 ∧ w ≤ 0 ∧ z ≤ 0 then 1 else if (ax ≤ 0 ∧ 0 < bx ∧ u - v < 0) ∨ (bx ≤ 0 ∧ 0 < ax ∧ 0 < u - v) then 2 else 0) (if 0 < ax ∧ 0 < ay then 1 else 0) (if 0 < bx ∧ 0 < by' then 1 else 0) := by
  rcases Int.lt_trichotomy (u - v) 0 with hc | hc | hc
  · rw [if_neg (by omega), if_neg (by omega), if_neg (by omega), if_neg (by omega), if_neg (by omega), if_neg (by omega), if_neg (by omega), if_neg (by omega)]
    exact ⟨by decide, fun h => by first | exact Or.inl rfl | exact absurd h (by decide) | exact Or.inr ⟨by omega, by omega⟩, fun h => by first | rfl | (exfalso; omega), by decide⟩
  · exact absurd hc (by omega)
  · exact absurd hc (by omega)
theorem edge_znnz (px py ax ay bx by' u v w z : Int) (hax : ax = 0) (hay : ay < 0) (hbx : bx < 0) (hby : by' = 0) (p1 : u = 0) (p2 : 0 < v) (p3 : w = 0) (p4 : z = 0) : EdgeN px py ax ay bx by' (if bx < 0 ∧ ax < 0 then 0 else if ax = 0 ∧ ay = 0 then 1 else if by' = 0 ∧ ay = 0 then (if (bx ≤ 0 ∧ 0 ≤ ax) ∨ (ax ≤ 0 ∧ 0 ≤ bx) then 1 else 0) else if (0 < by' ∧ ay ≤ 0) ∨ (0 < ay ∧ by' ≤ 0) then (if v - u = 0 then 1 else if ay < by' then (if v - u < 0 then 2 else 0) else (if 0 < v - u then 2 else 0)) else 0) (if u - v = 0 ∧ w ≤ 0 ∧ z ≤ 0 then 1 else if (ax ≤ 0 ∧ 0 < bx ∧ u - v < 0) ∨ (bx ≤ 0 ∧ 0 < ax ∧ 0 < u - v) then 2 else 0) (if 0 < ax ∧ 0 < ay then 1 else 0) (if 0 < bx ∧ 0 < by' then 1 else 0) := by
  rcases Int.lt_trichotomy (u - v) 0 with hc | hc | hc
  · rw [if_neg (by omega), if_neg (by omega), if_neg (by omega), if_neg (by omega), if_neg (by omega), if_neg (by omega), if_neg (by omega), if_neg (by omega)]
    exact ⟨by decide, fun h => by first | exact Or.inl rfl | exact absurd h (by decide) | exact Or.inr ⟨by omega, by omega⟩, fun h => by first | rfl | (exfalso; omega), by decide⟩
  · exact absurd hc (by omega)
  · exact absurd hc (by omega)
theorem edge_znnp (px py ax ay bx by' u v w z : Int) (hax : ax = 0) (hay : ay < 0) (hbx : bx < 0) (hby : 0 < by') (p1 : u = 0) (p2 : 0 < v) (p3 : w = 0) (p4 : z < 0) : EdgeN px py ax ay bx by' (if bx < 0 ∧ ax < 0 then 0 else if ax = 0 ∧ ay = 0 then 1 else if by' = 0 ∧ ay = 0 then (if (bx ≤ 0 ∧ 0 ≤ ax) ∨ (ax ≤ 0 ∧ 0 ≤ bx) then 1 else 0) else if (0 < by' ∧ ay ≤ 0) ∨ (0 < ay ∧ by' ≤ 0) then (if v - u = 0 then 1 else if ay < by' then (if v - u < 0 then 2 else 0) else (if 0 < v - u then 2 else 0)) else 0) (if u - v = 0 ∧ w ≤ 0 ∧ z ≤ 0 then 1 else if (ax ≤ 0 ∧ 0 < bx ∧ u - v < 0) ∨ (bx ≤ 0 ∧ 0 < ax ∧ 0 < u - v) then 2 else 0) (if 0 < ax ∧ 0 < ay then 1 else 0) (if 0 < bx ∧ 0 < by' then 1 else 0) := by
  rcases Int.lt_trichotomy (u - v) 0 with hc | hc | hc
  · rw [if_neg (by omega), if_neg (by omega), if_neg (by omega), if_pos (by omega), if_neg (by omega), if_pos (by omega), if_neg (by omega), if_neg (by omega), if_neg (by omega), if_neg (by omega), if_neg (by omega)]
    exact ⟨by decide, fun h => by first | exact Or.inl rfl | exact absurd h (by decide) | exact Or.inr ⟨by omega, by omega⟩, fun h => by first | rfl | (exfalso; omega), by decide⟩
  · exact absurd hc (by omega)
  · exact absurd hc (by omega)
theorem edge_znzn (px py ax ay bx by' u v w z : Int) (hax : ax = 0) (hay : ay < 0) (hbx : bx = 0) (hby : by' < 0) (p1 : u = 0) (p2 : v = 0) (p3 : w = 0) (p4 : 0 < z) : EdgeN px py ax ay bx by' (if bx < 0 ∧ ax < 0 then 0 else if ax = 0 ∧ ay = 0 then 1 else if by' = 0 ∧ ay = 0 then (if (bx ≤ 0 ∧ 0 ≤ ax) ∨ (ax ≤ 0 ∧ 0 ≤ bx) then 1 else 0) else if (0 < by' ∧ ay ≤ 0) ∨ (0 < ay ∧ by' ≤ 0) then (if v - u = 0 then 1 else if ay < by' then (if v - u < 0 then 2 else 0) else (if 0 < v - u then 2 else 0)) else 0) (if u - v = 0 ∧ w ≤ 0 ∧ z ≤ 0 then 1 else if (ax ≤ 0 ∧ 0 < bx ∧ u - v < 0) ∨ (bx ≤ 0 ∧ 0 < ax ∧ 0 < u - v) then 2 else 0) (if 0 < ax ∧ 0 < ay then 1 else 0) (if 0 < bx ∧ 0 < by' then 1 else 0) := by
  rcases Int.lt_trichotomy (u - v) 0 with hc | hc | hc
  · exact absurd hc (by omega)
  · rw [if_neg (by omega), if_neg (by omega), if_neg (by omega), if_neg (by omega), if_neg (by omega), if_neg (by omega), if_neg (by omega), if_neg (by omega)]
    exact ⟨by decide, fun h => by first | exact Or.inl rfl | exact absurd h (by decide) | exact Or.inr ⟨by omega, by omega⟩, fun h => by first | rfl | (exfalso; omega), by decide⟩
  · exact absurd hc (by omega)
theorem edge_znzz (px py ax ay bx by' u v w z : Int) (hax : ax = 0) (hay : ay < 0) (hbx : bx = 0) (hby : by' = 0) (p1 : u = 0) (p2 : v = 0) (p3 : w = 0) (p4 : z = 0) : EdgeN px py ax ay bx by' (if bx < 0 ∧ ax < 0 then 0 else if ax = 0 ∧ ay = 0 then 1 else if by' = 0 ∧ ay = 0 then (if (bx ≤ 0 ∧ 0 ≤ ax) ∨ (ax ≤ 0 ∧ 0 ≤ bx) then 1 else 0) else if (0 < by' ∧ ay ≤ 0) ∨ (0 < ay ∧ by' ≤ 0) then (if v - u = 0 then 1 else if ay < by' then (if v - u < 0 then 2 else 0) else (if 0 < v - u then 2 else 0)) else 0) (if u - v = 0 ∧ w ≤ 0 ∧ z ≤ 0 then 1 else if (ax ≤ 0 ∧ 0 < bx ∧ u - v < 0) ∨ (bx ≤ 0 ∧ 0 < ax ∧ 0 < u - v) then 2 else 0) (if 0 < ax ∧ 0 < ay then 1 else 0) (if 0 < bx ∧ 0 < by' then 1 else 0) := by
  rcases Int.lt_trichotomy (u - v) 0 with hc | hc | hc
  · exact absurd hc (by omega)
  · rw [if_neg (by omega), if_neg (by omega), if_neg (by omega), if_neg (by omega), if_pos (by omega), if_neg (by omega), if_neg (by omega)]
    exact ⟨by decide, fun h => by first | exact Or.inl rfl | exact absurd h (by decide) | exact Or.inr ⟨by omega, by omega⟩, fun h => by first | rfl | (exfalso; omega), by decide⟩
  · exact absurd hc (by omega)
theorem edge_znzp (px py ax ay bx by' u v w z : Int) (hax : ax = 0) (hay : ay < 0) (hbx : bx = 0) (hby : 0 < by') (p1 : u = 0) (p2 : v = 0) (p3 : w = 0) (p4 : z < 0) : EdgeN px py ax ay bx by' (if bx < 0 ∧ ax < 0 then 0 else if ax = 0 ∧ ay = 0 then 1 else if by' = 0 ∧ ay = 0 then (if (bx ≤ 0 ∧ 0 ≤ ax) ∨ (ax ≤ 0 ∧ 0 ≤ bx) then 1 else 0) else if (0 < by' ∧ ay ≤ 0) ∨ (0 < ay ∧ by' ≤ 0) then (if v - u = 0 then 1 else if ay < by' then (if v - u < 0 then 2 else 0) else (if 0 < v - u then 2 else 0)) else 0) (if u - v = 0 ∧ w ≤ 0 ∧ z ≤ 0 then 1 else if (ax ≤ 0 ∧ 0 < bx ∧ u - v < 0) ∨ (bx ≤ 0 ∧ 0 < ax ∧ 0 < u - v) then 2 else 0) (if 0 < ax ∧ 0 < ay then 1 else 0) (if 0 < bx ∧ 0 < by' then 1 else 0) := by
  rcases Int.lt_trichotomy (u - v) 0 with hc | hc | hc
  · exact absurd hc (by omega)
  · rw [if_neg (by omega), if_neg (by omega), if_neg (by omega), if_pos (by omega), if_pos (by omega), if_pos (by omega), if_neg (by omega), if_neg (by omega)]
    exact ⟨by decide, fun h => by first | exact Or.inl rfl | exact absurd h (by decide) | exact Or.inr ⟨by omega, by omega⟩, fun h => by first | rfl | (exfalso; omega), by decide⟩
  · exact absurd hc (by omega)
theorem edge_znpn (px py ax ay bx by' u v w z : Int) (hax : ax = 0) (hay : ay < 0) (hbx : 0 < bx) (hby : by' < 0) (p1 : u = 0) (p2 : v < 0) (p3 : w = 0) (p4 : 0 < z) : EdgeN px py ax ay bx by' (if bx < 0 ∧ ax < 0 then 0 else if ax = 0 ∧ ay = 0 then 1 else if by' = 0 ∧ ay = 0 then (if (bx ≤ 0 ∧ 0 ≤ ax) ∨ (ax ≤ 0 ∧ 0 ≤ bx) then 1 else 0) else if (0 < by' ∧ ay ≤ 0) ∨ (0 < ay ∧ by' ≤ 0) then (if v - u = 0 then 1 else if ay < by' then (if v - u < 0 then 2 else 0) else (if 0 < v - u then 2 else 0)) else 0) (if u - v = 0 ∧ w ≤ 0 ∧ z ≤ 0 then 1 else if (ax ≤ 0 ∧ 0 < bx ∧ u - v < 0) ∨ (bx ≤ 0 ∧ 0 < ax ∧ 0 < u - v) then 2 else 0) (if 0 < ax ∧ 0 < ay then 1 else 0) (if 0 < bx ∧ 0 < by' then 1 else 0) := by
  rcases Int.lt_trichotomy (u - v) 0 with hc | hc | hc
  · exact absurd hc (by omega)
  · exact absurd hc (by omega)
  · rw [if_neg (by omega), if_neg (by omega), if_neg (by omega), if_neg (by omega), if_neg (by omega), if_neg (by omega), if_neg (by omega), if_neg (by omega)]
    exact ⟨by decide, fun h => by first | exact Or.inl rfl | exact absurd h (by decide) | exact Or.inr ⟨by omega, by omega⟩, fun h => by first | rfl | (exfalso; omega), by decide⟩
theorem edge_znpz (px py ax ay bx by' u v w z : Int) (hax : ax = 0) (hay : ay < 0) (hbx : 0 < bx) (hby : by' = 0) (p1 : u = 0) (p2 : v < 0) (p3 : w = 0) (p4 : z = 0) : EdgeN px py ax ay bx by' (if bx < 0 ∧ ax < 0 then 0 else if ax = 0 ∧ ay = 0 then 1 else if by' = 0 ∧ ay = 0 then (if (bx ≤ 0 ∧ 0 ≤ ax) ∨ (ax ≤ 0 ∧ 0 ≤ bx) then 1 else 0) else if (0 < by' ∧ ay ≤ 0) ∨ (0 < ay ∧ by' ≤ 0) then (if v - u = 0 then 1 else if ay < by' then (if v - u < 0 then 2 else 0) else (if 0 < v - u then 2 else 0)) else 0) (if u - v = 0 ∧ w ≤ 0 ∧ z ≤ 0 then 1 else if (ax ≤ 0 ∧ 0 < bx ∧ u - v < 0) ∨ (bx ≤ 0 ∧ 0 < ax ∧ 0 < u - v) then 2 else 0) (if 0 < ax ∧ 0 < ay then 1 else 0) (if 0 < bx ∧ 0 < by' then 1 else 0) := by
  rcases Int.lt_trichotomy (u - v) 0 with hc | hc | hc
  · exact absurd hc (by omega)
  · exact absurd hc (by omega)
  · rw [if_neg (by omega), if_neg (by omega), if_neg (by omega), if_neg (by omega), if_neg (by omega), if_neg (by omega), if_neg (by omega), if_neg (by omega)]
    exact ⟨by decide, fun h => by first | exact Or.inl rfl | exact absurd h (by decide) | exact Or.inr ⟨by omega, by omega⟩, fun h => by first | rfl | (exfalso; omega), by decide⟩
theorem edge_znpp (px py ax ay bx by' u v w z : Int) (hax : ax = 0) (hay : ay < 0) (hbx : 0 < bx) (hby : 0 < by') (p1 : u = 0) (p2 : v < 0) (p3 : w = 0) (p4 : z < 0) : EdgeN px py ax ay bx by' (if bx < 0 ∧ ax < 0 then 0 else if ax = 0 ∧ ay = 0 then 1 else if by' = 0 ∧ ay = 0 then (if (bx ≤ 0 ∧ 0 ≤ ax) ∨ (ax ≤ 0 ∧ 0 ≤ bx) then 1 else 0) else if (0 < by' ∧ ay ≤ 0) ∨ (0 < ay ∧ by' ≤ 0) then (if v - u = 0 then 1 else if ay < by' then (if v - u < 0 then 2 else 0) else (if 0 < v - u then 2 else 0)) else 0) (if u - v = 0 ∧ w ≤ 0 ∧ z ≤ 0 then 1 else if (ax ≤ 0 ∧ 0 < bx ∧ u - v < 0) ∨ (bx ≤ 0 ∧ 0 < ax ∧ 0 < u - v) then 2 else 0) (if 0 < ax ∧ 0 < ay then 1 else 0) (if 0 < bx ∧ 0 < by' then 1 else 0) := by
  rcases Int.lt_trichotomy (u - v) 0 with hc | hc | hc
  · exact absurd hc (by omega)
  · exact absurd hc (by omega)
  · rw [if_neg (by omega), if_neg (by omega), if_neg (by omega), if_pos (by omega), if_neg (by omega), if_pos (by omega), if_pos (by omega), if_neg (by omega), if_neg (by omega), if_neg (by omega), if_pos (by omega)]
    exact ⟨by decide, fun h => by first | exact Or.inl rfl | exact absurd h (by decide) | exact Or.inr ⟨by omega, by omega⟩, fun h => by first | rfl | (exfalso; omega), by decide⟩
theorem edge_zznn (px py ax ay bx by' u v w z : Int) (hax : ax = 0) (hay : ay = 0) (hbx : bx < 0) (hby : by' < 0) (p1 : u = 0) (p2 : v = 0) (p3 : w = 0) (p4 : z = 0) : EdgeN px py ax ay bx by' (if bx < 0 ∧ ax < 0 then 0 else if ax = 0 ∧ ay = 0 then 1 else if by' = 0 ∧ ay = 0 then (if (bx ≤ 0 ∧ 0 ≤ ax) ∨ (ax ≤ 0 ∧ 0 ≤ bx) then 1 else 0) else if (0 < by' ∧ ay ≤ 0) ∨ (0 < ay ∧ by' ≤ 0) then (if v - u = 0 then 1 else if ay < by' then (if v - u < 0 then 2 else 0) else (if 0 < v - u then 2 else 0)) else 0) (if u - v = 0 ∧ w ≤ 0 ∧ z ≤ 0 then 1 else if (ax ≤ 0 ∧ 0 < bx ∧ u - v < 0) ∨ (bx ≤ 0 ∧ 0 < ax ∧ 0 < u - v) then 2 else 0) (if 0 < ax ∧ 0 < ay then 1 else 0) (if 0 < bx ∧ 0 < by' then 1 else 0) := by
  rcases Int.lt_trichotomy (u - v) 0 with hc | hc | hc
  · exact absurd hc (by omega)
  · rw [if_neg (by omega), if_pos (by omega), if_pos (by omega), if_neg (by omega), if_neg (by omega)]
    exact ⟨by decide, fun h => by first | exact Or.inl rfl | exact absurd h (by decide) | exact Or.inr ⟨by omega, by omega⟩, fun h => by first | rfl | (exfalso; omega), by decide⟩
  · exact absurd hc (by omega)
theorem edge_zznz (px py ax ay bx by' u v w z : Int) (hax : ax = 0) (hay : ay = 0) (hbx : bx < 0) (hby : by' = 0) (p1 : u = 0) (p2 : v = 0) (p3 : w = 0) (p4 : z = 0) : EdgeN px py ax ay bx by' (if bx < 0 ∧ ax < 0 then 0 else if ax = 0 ∧ ay = 0 then 1 else if by' = 0 ∧ ay = 0 then (if (bx ≤ 0 ∧ 0 ≤ ax) ∨ (ax ≤ 0 ∧ 0 ≤ bx) then 1 else 0) else if (0 < by' ∧ ay ≤ 0) ∨ (0 < ay ∧ by' ≤ 0) then (if v - u = 0 then 1 else if ay < by' then (if v - u < 0 then 2 else 0) else (if 0 < v - u then 2 else 0)) else 0) (if u - v = 0 ∧ w ≤ 0 ∧ z ≤ 0 then 1 else if (ax ≤ 0 ∧ 0 < bx ∧ u - v < 0) ∨ (bx ≤ 0 ∧ 0 < ax ∧ 0 < u - v) then 2 else 0) (if 0 < ax ∧ 0 < ay then 1 else 0) (if 0 < bx ∧ 0 < by' then 1 else 0) := by
  rcases Int.lt_trichotomy (u - v) 0 with hc | hc | hc
  · exact absurd hc (by omega)
  · rw [if_neg (by omega), if_pos (by omega), if_pos (by omega), if_neg (by omega), if_neg (by omega)]
    exact ⟨by decide, fun h => by first | exact Or.inl rfl | exact absurd h (by decide) | exact Or.inr ⟨by omega, by omega⟩, fun h => by first | rfl | (exfalso; omega), by decide⟩
  · exact absurd hc (by omega)
theorem edge_zznp (px py ax ay bx by' u v w z : Int) (hax : ax = 0) (hay : ay = 0) (hbx : bx < 0) (hby : 0 < by') (p1 : u = 0) (p2 : v = 0) (p3 : w = 0) (p4 : z = 0) : EdgeN px py ax ay bx by' (if bx < 0 ∧ ax < 0 then 0 else if ax = 0 ∧ ay = 0 then 1 else if by' = 0 ∧ ay = 0 then (if (bx ≤ 0 ∧ 0 ≤ ax) ∨ (ax ≤ 0 ∧ 0 ≤ bx) then 1 else 0) else if (0 < by' ∧ ay ≤ 0) ∨ (0 < ay ∧ by' ≤ 0) then (if v - u = 0 then 1 else if ay < by' then (if v - u < 0 then 2 else 0) else (if 0 < v - u then 2 else 0)) else 0) (if u - v = 0 ∧ w ≤ 0 ∧ z ≤ 0 then 1 else if (ax ≤ 0 ∧ 0 < bx ∧ u - v < 0) ∨ (bx ≤ 0 ∧ 0 < ax ∧ 0 < u - v) then 2 else 0) (if 0 < ax ∧ 0 < ay then 1 else 0) (if 0 < bx ∧ 0 < by' then 1 else 0) := by
  rcases Int.lt_trichotomy (u - v) 0 with hc | hc | hc
  · exact absurd hc (by omega)
  · rw [if_neg (by omega), if_pos (by omega), if_pos (by omega), if_neg (by omega), if_neg (by omega)]
    exact ⟨by decide, fun h => by first | exact Or.inl rfl | exact absurd h (by decide) | exact Or.inr ⟨by omega, by omega⟩, fun h => by first | rfl | (exfalso; omega), by decide⟩
  · exact absurd hc (by omega)
theorem edge_zzzn (px py ax ay bx by' u v w z : Int) (hax : ax = 0) (hay : ay = 0) (hbx : bx = 0) (hby : by' < 0) (p1 : u = 0) (p2 : v = 0) (p3 : w = 0) (p4 : z = 0) : EdgeN px py ax ay bx by' (if bx < 0 ∧ ax < 0 then 0 else if ax = 0 ∧ ay = 0 then 1 else if by' = 0 ∧ ay = 0 then (if (bx ≤ 0 ∧ 0 ≤ ax) ∨ (ax ≤ 0 ∧ 0 ≤ bx) then 1 else 0) else if (0 < by' ∧ ay ≤ 0) ∨ (0 < ay ∧ by' ≤ 0) then (if v - u = 0 then 1 else if ay < by' then (if v - u < 0 then 2 else 0) else (if 0 < v - u then 2 else 0)) else 0) (if u - v = 0 ∧ w ≤ 0 ∧ z ≤ 0 then 1 else if (ax ≤ 0 ∧ 0 < bx ∧ u - v < 0) ∨ (bx ≤ 0 ∧ 0 < ax ∧ 0 < u - v) then 2 else 0) (if 0 < ax ∧ 0 < ay then 1 else 0) (if 0 < bx ∧ 0 < by' then 1 else 0) := by
  rcases Int.lt_trichotomy (u - v) 0 with hc | hc | hc
  · exact absurd hc (by omega)
  · rw [if_neg (by omega), if_pos (by omega), if_pos (by omega), if_neg (by omega), if_neg (by omega)]
    exact ⟨by decide, fun h => by first | exact Or.inl rfl | exact absurd h (by decide) | exact Or.inr ⟨by omega, by omega⟩, fun h => by first | rfl | (exfalso; omega), by decide⟩
  · exact absurd hc (by omega)
theorem edge_zzzz (px py ax ay bx by' u v w z : Int) (hax : ax = 0) (hay : ay = 0) (hbx : bx = 0) (hby : by' = 0) (p1 : u = 0) (p2 : v = 0) (p3 : w = 0) (p4 : z = 0) : EdgeN px py ax ay bx by' (if bx < 0 ∧ ax < 0 then 0 else if ax = 0 ∧ ay = 0 then 1 else if by' = 0 ∧ ay = 0 then (if (bx ≤ 0 ∧ 0 ≤ ax) ∨ (ax ≤ 0 ∧ 0 ≤ bx) then 1 else 0) else if (0 < by' ∧ ay ≤ 0) ∨ (0 < ay ∧ by' ≤ 0) then (if v - u = 0 then 1 else if ay < by' then (if v - u < 0 then 2 else 0) else (if 0 < v - u then 2 else 0)) else 0) (if u - v = 0 ∧ w ≤ 0 ∧ z ≤ 0 then 1 else if (ax ≤ 0 ∧ 0 < bx ∧ u - v < 0) ∨ (bx ≤ 0 ∧ 0 < ax ∧ 0 < u - v) then 2 else 0) (if 0 < ax ∧ 0 < ay then 1 else 0) (if 0 < bx ∧ 0 < by' then 1 else 0) := by
  rcases Int.lt_trichotomy (u - v) 0 with hc | hc | hc
  · exact absurd hc (by omega)
  · rw [if_neg (by omega), if_pos (by omega), if_pos (by omega), if_neg (by omega), if_neg (by omega)]
    exact ⟨by decide, fun h => by first | exact Or.inl rfl | exact absurd h (by decide) | exact Or.inr ⟨by omega, by omega⟩, fun h => by first | rfl | (exfalso; omega), by decide⟩
  · exact absurd hc (by omega)
theorem edge_zzzp (px py ax ay bx by' u v w z : Int) (hax : ax = 0) (hay : ay = 0) (hbx : bx = 0) (hby : 0 < by') (p1 : u = 0) (p2 : v = 0) (p3 : w = 0) (p4 : z = 0) : EdgeN px py ax ay bx by' (if bx < 0 ∧ ax < 0 then 0 else if ax = 0 ∧ ay = 0 then 1 else if by' = 0 ∧ ay = 0 then (if (bx ≤ 0 ∧ 0 ≤ ax) ∨ (ax ≤ 0 ∧ 0 ≤ bx) then 1 else 0) else if (0 < by' ∧ ay ≤ 0) ∨ (0 < ay ∧ by' ≤ 0) then (if v - u = 0 then 1 else if ay < by' then (if v - u < 0 then 2 else 0) else (if 0 < v - u then 2 else 0)) else 0) (if u - v = 0 ∧ w ≤ 0 ∧ z ≤ 0 then 1 else if (ax ≤ 0 ∧ 0 < bx ∧ u - v < 0) ∨ (bx ≤ 0 ∧ 0 < ax ∧ 0 < u - v) then 2 else 0) (if 0 < ax ∧ 0 < ay then 1 else 0) (if 0 < bx ∧ 0 < by' then 1 else 0) := by
  rcases Int.lt_trichotomy (u - v) 0 with hc | hc | hc
  · exact absurd hc (by omega)
  · rw [if_neg (by omega), if_pos (by omega), if_pos (by omega), if_neg (by omega), if_neg (by omega)]
    exact ⟨by decide, fun h => by first | exact Or.inl rfl | exact absurd h (by decide) | exact Or.inr ⟨by omega, by omega⟩, fun h => by first | rfl | (exfalso; omega), by decide⟩
  · exact absurd hc (by omega)
theorem edge_zzpn (px py ax ay bx by' u v w z : Int) (hax : ax = 0) (hay : ay = 0) (hbx : 0 < bx) (hby : by' < 0) (p1 : u = 0) (p2 : v = 0) (p3 : w = 0) (p4 : z = 0) : EdgeN px py ax ay bx by' (if bx < 0 ∧ ax < 0 then 0 else if ax = 0 ∧ ay = 0 then 1 else if by' = 0 ∧ ay = 0 then (if (bx ≤ 0 ∧ 0 ≤ ax) ∨ (ax ≤ 0 ∧ 0 ≤ bx) then 1 else 0) else if (0 < by' ∧ ay ≤ 0) ∨ (0 < ay ∧ by' ≤ 0) then (if v - u = 0 then 1 else if ay < by' then (if v - u < 0 then 2 else 0) else (if 0 < v - u then 2 else 0)) else 0) (if u - v = 0 ∧ w ≤ 0 ∧ z ≤ 0 then 1 else if (ax ≤ 0 ∧ 0 < bx ∧ u - v < 0) ∨ (bx ≤ 0 ∧ 0 < ax ∧ 0 < u - v) then 2 else 0) (if 0 < ax ∧ 0 < ay then 1 else 0) (if 0 < bx ∧ 0 < by' then 1 else 0) := by
  rcases Int.lt_trichotomy (u - v) 0 with hc | hc | hc
  · exact absurd hc (by omega)
  · rw [if_neg (by omega), if_pos (by omega), if_pos (by omega), if_neg (by omega), if_neg (by omega)]
    exact ⟨by decide, fun h => by first | exact Or.inl rfl | exact absurd h (by decide) | exact Or.inr ⟨by omega, by omega⟩, fun h => by first | rfl | (exfalso; omega), by decide⟩
  · exact absurd hc (by omega)
theorem edge_zzpz (px py ax ay bx by' u v w z : Int) (hax : ax = 0) (hay : ay = 0) (hbx : 0 < bx) (hby : by' = 0) (p1 : u = 0) (p2 : v = 0) (p3 : w = 0) (p4 : z = 0) : EdgeN px py ax ay bx by' (if bx < 0 ∧ ax < 0 then 0 else if ax = 0 ∧ ay = 0 then 1 else if by' = 0 ∧ ay = 0 then (if (bx ≤ 0 ∧ 0 ≤ ax) ∨ (ax ≤ 0 ∧ 0 ≤ bx) then 1 else 0) else if (0 < by' ∧ ay ≤ 0) ∨ (0 < ay ∧ by' ≤ 0) then (if v - u = 0 then 1 else if ay < by' then (if v - u < 0 then 2 else 0) else (if 0 < v - u then 2 else 0)) else 0) (if u - v = 0 ∧ w ≤ 0 ∧ z ≤ 0 then 1 else if (ax ≤ 0 ∧ 0 < bx ∧ u - v < 0) ∨ (bx ≤ 0 ∧ 0 < ax ∧ 0 < u - v) then 2 else 0) (if 0 < ax ∧ 0 < ay then 1 else 0) (if 0 < bx ∧ 0 < by' then 1 else 0) := by
  rcases Int.lt_trichotomy (u - v) 0 with hc | hc | hc
  · exact absurd hc (by omega)
  · rw [if_neg (by omega), if_pos (by omega), if_pos (by omega), if_neg (by omega), if_neg (by omega)]
    exact ⟨by decide, fun h => by first | exact Or.inl rfl | exact absurd h (by decide) | exact Or.inr ⟨by omega, by omega⟩, fun h => by first | rfl | (exfalso; omega), by decide⟩
  · exact absurd hc (by omega)
theorem edge_zzpp (px py ax ay bx by' u v w z : Int) (hax : ax = 0) (hay : ay = 0) (hbx : 0 < bx) (hby : 0 < by') (p1 : u = 0) (p2 : v = 0) (p3 : w = 0) (p4 : z = 0) : EdgeN px py ax ay bx by' (if bx < 0 ∧ ax < 0 then 0 else if ax = 0 ∧ ay = 0 then 1 else if by' = 0 ∧ ay = 0 then (if (bx ≤ 0 ∧ 0 ≤ ax) ∨ (ax ≤ 0 ∧ 0 ≤ bx) then 1 else 0) else if (0 < by' ∧ ay ≤ 0) ∨ (0 < ay ∧ by' ≤ 0) then (if v - u = 0 then 1 else if ay < by' then (if v - u < 0 then 2 else 0) else (if 0 < v - u then 2 else 0)) else 0) (if u - v = 0 ∧ w ≤ 0 ∧ z ≤ 0 then 1 else if (ax ≤ 0 ∧ 0 < bx ∧ u - v < 0) ∨ (bx ≤ 0 ∧ 0 < ax ∧ 0 < u - v) then 2 else 0) (if 0 < ax ∧ 0 < ay then 1 else 0) (if 0 < bx ∧ 0 < by' then 1 else 0) := by
  rcases Int.lt_trichotomy (u - v) 0 with hc | hc | hc
  · exact absurd hc (by omega)
  · rw [if_neg (by omega), if_pos (by omega), if_pos (by omega), if_neg (by omega), if_pos (by omega)]
    exact ⟨by decide, fun h => by first | exact Or.inl rfl | exact absurd h (by decide) | exact Or.inr ⟨by omega, by omega⟩, fun h => by first | rfl | (exfalso; omega), by decide⟩
  · exact absurd hc (by omega)
theorem edge_zpnn (px py ax ay bx by' u v w z : Int) (hax : ax = 0) (hay : 0 < ay) (hbx : bx < 0) (hby : by' < 0) (p1 : u = 0) (p2 : v < 0) (p3 : w = 0) (p4 : z < 0) : EdgeN px py ax ay bx by' (if bx < 0 ∧ ax < 0 then 0 else if ax = 0 ∧ ay = 0 then 1 else if by' = 0 ∧ ay = 0 then (if (bx ≤ 0 ∧ 0 ≤ ax) ∨ (ax ≤ 0 ∧ 0 ≤ bx) then 1 else 0) else if (0 < by' ∧ ay ≤ 0) ∨ (0 < ay ∧ by' ≤ 0) then (if v - u = 0 then 1 else if ay < by' then (if v - u < 0 then 2 else 0) else (if 0 < v - u then 2 else 0)) else 0) (if u - v = 0 ∧ w ≤ 0 ∧ z ≤ 0 then 1 else if (ax ≤ 0 ∧ 0 < bx ∧ u - v < 0) ∨ (bx ≤ 0 ∧ 0 < ax ∧ 0 < u - v) then 2 else 0) (if 0 < ax ∧ 0 < ay then 1 else 0) (if 0 < bx ∧ 0 < by' then 1 else 0) := by
  rcases Int.lt_trichotomy (u - v) 0 with hc | hc | hc
  · exact absurd hc (by omega)
  · exact absurd hc (by omega)
  · rw [if_neg (by omega), if_neg (by omega), if_neg (by omega), if_pos (by omega), if_neg (by omega), if_neg (by omega), if_neg (by omega), if_neg (by omega), if_neg (by omega), if_neg (by omega), if_neg (by omega)]
    exact ⟨by decide, fun h => by first | exact Or.inl rfl | exact absurd h (by decide) | exact Or.inr ⟨by omega, by omega⟩, fun h => by first | rfl | (exfalso; omega), by decide⟩
theorem edge_zpnz (px py ax ay bx by' u v w z : Int) (hax : ax = 0) (hay : 0 < ay) (hbx : bx < 0) (hby : by' = 0) (p1 : u = 0) (p2 : v < 0) (p3 : w = 0) (p4 : z = 0) : EdgeN px py ax ay bx by' (if bx < 0 ∧ ax < 0 then 0 else if ax = 0 ∧ ay = 0 then 1 else if by' = 0 ∧ ay = 0 then (if (bx ≤ 0 ∧ 0 ≤ ax) ∨ (ax ≤ 0 ∧ 0 ≤ bx) then 1 else 0) else if (0 < by' ∧ ay ≤ 0) ∨ (0 < ay ∧ by' ≤ 0) then (if v - u = 0 then 1 else if ay < by' then (if v - u < 0 then 2 else 0) else (if 0 < v - u then 2 else 0)) else 0) (if u - v = 0 ∧ w ≤ 0 ∧ z ≤ 0 then 1 else if (ax ≤ 0 ∧ 0 < bx ∧ u - v < 0) ∨ (bx ≤ 0 ∧ 0 < ax ∧ 0 < u - v) then 2 else 0) (if 0 < ax ∧ 0 < ay then 1 else 0) (if 0 < bx ∧ 0 < by' then 1 else 0) := by
  rcases Int.lt_trichotomy (u - v) 0 with hc | hc | hc
  · exact absurd hc (by omega)
  · exact absurd hc (by omega)
  · rw [if_neg (by omega), if_neg (by omega), if_neg (by omega), if_pos (by omega), if_neg (by omega), if_neg (by omega), if_neg (by omega), if_neg (by omega), if_neg (by omega), if_neg (by omega), if_neg (by omega)]
    exact ⟨by decide, fun h => by first | exact Or.inl rfl | exact absurd h (by decide) | exact Or.inr ⟨by omega, by omega⟩, fun h => by first | rfl | (exfalso; omega), by decide⟩
theorem edge_zpnp (px py ax ay bx by' u v w z : Int) (hax : ax = 0) (hay : 0 < ay) (hbx : bx < 0) (hby : 0 < by') (p1 : u = 0) (p2 : v < 0) (p3 : w = 0) (p4 : 0 < z) : EdgeN px py ax ay bx by' (if bx < 0 ∧ ax < 0 then 0 else if ax = 0 ∧ ay = 0 then 1 else if by' = 0 ∧ ay = 0 then (if (bx ≤ 0 ∧ 0 ≤ ax) ∨ (ax ≤ 0 ∧ 0 ≤ bx) then 1 else 0) else if (0 < by' ∧ ay ≤ 0) ∨ (0 < ay ∧ by' ≤ 0) then (if v - u = 0 then 1 else if ay < by' then (if v - u < 0 then 2 else 0) else (if 0 < v - u then 2 else 0)) else 0) (if u - v = 0 ∧ w ≤ 0 ∧ z ≤ 0 then 1 else if (ax ≤ 0 ∧ 0 < bx ∧ u - v < 0) ∨ (bx ≤ 0 ∧ 0 < ax ∧ 0 < u - v) then 2 else 0) (if 0 < ax ∧ 0 < ay then 1 else 0) (if 0 < bx ∧ 0 < by' then 1 else 0) := by
  rcases Int.lt_trichotomy (u - v) 0 with hc | hc | hc
  · exact absurd hc (by omega)
  · exact absurd hc (by omega)
  · rw [if_neg (by omega), if_neg (by omega), if_neg (by omega), if_neg (by omega), if_neg (by omega), if_neg (by omega), if_neg (by omega), if_neg (by omega)]
    exact ⟨by decide, fun h => by first | exact Or.inl rfl | exact absurd h (by decide) | exact Or.inr ⟨by omega, by omega⟩, fun h => by first | rfl | (exfalso; omega), by decide⟩
theorem edge_zpzn (px py ax ay bx by' u v w z : Int) (hax : ax = 0) (hay : 0 < ay) (hbx : bx = 0) (hby : by' < 0) (p1 : u = 0) (p2 : v = 0) (p3 : w = 0) (p4 : z < 0) : EdgeN px py ax ay bx by' (if bx < 0 ∧ ax < 0 then 0 else if ax = 0 ∧ ay = 0 then 1 else if by' = 0 ∧ ay = 0 then (if (bx ≤ 0 ∧ 0 ≤ ax) ∨ (ax ≤ 0 ∧ 0 ≤ bx) then 1 else 0) else if (0 < by' ∧ ay ≤ 0) ∨ (0 < ay ∧ by' ≤ 0) then (if v - u = 0 then 1 else if ay < by' then (if v - u < 0 then 2 else 0) else (if 0 < v - u then 2 else 0)) else 0) (if u - v = 0 ∧ w ≤ 0 ∧ z ≤ 0 then 1 else if (ax ≤ 0 ∧ 0 < bx ∧ u - v < 0) ∨ (bx ≤ 0 ∧ 0 < ax ∧ 0 < u - v) then 2 else 0) (if 0 < ax ∧ 0 < ay then 1 else 0) (if 0 < bx ∧ 0 < by' then 1 else 0) := by
  rcases Int.lt_trichotomy (u - v) 0 with hc | hc | hc
  · exact absurd hc (by omega)
  · rw [if_neg (by omega), if_neg (by omega), if_neg (by omega), if_pos (by omega), if_pos (by omega), if_pos (by omega), if_neg (by omega), if_neg (by omega)]
    exact ⟨by decide, fun h => by first | exact Or.inl rfl | exact absurd h (by decide) | exact Or.inr ⟨by omega, by omega⟩, fun h => by first | rfl | (exfalso; omega), by decide⟩
  · exact absurd hc (by omega)
theorem edge_zpzz (px py ax ay bx by' u v w z : Int) (hax : ax = 0) (hay : 0 < ay) (hbx : bx = 0) (hby : by' = 0) (p1 : u = 0) (p2 : v = 0) (p3 : w = 0) (p4 : z = 0) : EdgeN px py ax ay bx by' (if bx < 0 ∧ ax < 0 then 0 else if ax = 0 ∧ ay = 0 then 1 else if by' = 0 ∧ ay = 0 then (if (bx ≤ 0 ∧ 0 ≤ ax) ∨ (ax ≤ 0 ∧ 0 ≤ bx) then 1 else 0) else if (0 < by' ∧ ay ≤ 0) ∨ (0 < ay ∧ by' ≤ 0) then (if v - u = 0 then 1 else if ay < by' then (if v - u < 0 then 2 else 0) else (if 0 < v - u then 2 else 0)) else 0) (if u - v = 0 ∧ w ≤ 0 ∧ z ≤ 0 then 1 else if (ax ≤ 0 ∧ 0 < bx ∧ u - v < 0) ∨ (bx ≤ 0 ∧ 0 < ax ∧ 0 < u - v) then 2 else 0) (if 0 < ax ∧ 0 < ay then 1 else 0) (if 0 < bx ∧ 0 < by' then 1 else 0) := by
  rcases Int.lt_trichotomy (u - v) 0 with hc | hc | hc
  · exact absurd hc (by omega)
  · rw [if_neg (by omega), if_neg (by omega), if_neg (by omega), if_pos (by omega), if_pos (by omega), if_pos (by omega), if_neg (by omega), if_neg (by omega)]
    exact ⟨by decide, fun h => by first | exact Or.inl rfl | exact absurd h (by decide) | exact Or.inr ⟨by omega, by omega⟩, fun h => by first | rfl | (exfalso; omega), by decide⟩
  · exact absurd hc (by omega)
theorem edge_zpzp (px py ax ay bx by' u v w z : Int) (hax : ax = 0) (hay : 0 < ay) (hbx : bx = 0) (hby : 0 < by') (p1 : u = 0) (p2 : v = 0) (p3 : w = 0) (p4 : 0 < z) : EdgeN px py ax ay bx by' (if bx < 0 ∧ ax < 0 then 0 else if ax = 0 ∧ ay = 0 then 1 else if by' = 0 ∧ ay = 0 then (if (bx ≤ 0 ∧ 0 ≤ ax) ∨ (ax ≤ 0 ∧ 0 ≤ bx) then 1 else 0) else if (0 < by' ∧ ay ≤ 0) ∨ (0 < ay ∧ by' ≤ 0) then (if v - u = 0 then 1 else if ay < by' then (if v - u < 0 then 2 else 0) else (if 0 < v - u then 2 else 0)) else 0) (if u - v = 0 ∧ w ≤ 0 ∧ z ≤ 0 then 1 else if (ax ≤ 0 ∧ 0 < bx ∧ u - v < 0) ∨ (bx ≤ 0 ∧ 0 < ax ∧ 0 < u - v) then 2 else 0) (if 0 < ax ∧ 0 < ay then 1 else 0) (if 0 < bx ∧ 0 < by' then 1 else 0) := by
  rcases Int.lt_trichotomy (u - v) 0 with hc | hc | hc
  · exact absurd hc (by omega)
  · rw [if_neg (by omega), if_neg (by omega), if_neg (by omega), if_neg (by omega), if_neg (by omega), if_neg (by omega), if_neg (by omega), if_neg (by omega)]
    exact ⟨by decide, fun h => by first | exact Or.inl rfl | exact absurd h (by decide) | exact Or.inr ⟨by omega, by omega⟩, fun h => by first | rfl | (exfalso; omega), by decide⟩
  · exact absurd hc (by omega)
theorem edge_zppn (px py ax ay bx by' u v w z : Int) (hax : ax = 0) (hay : 0 < ay) (hbx : 0 < bx) (hby : by' < 0) (p1 : u = 0) (p2 : 0 < v) (p3 : w = 0) (p4 : z < 0) : EdgeN px py ax ay bx by' (if bx < 0 ∧ ax < 0 then 0 else if ax = 0 ∧ ay = 0 then 1 else if by' = 0 ∧ ay = 0 then (if (bx ≤ 0 ∧ 0 ≤ ax) ∨ (ax ≤ 0 ∧ 0 ≤ bx) then 1 else 0) else if (0 < by' ∧ ay ≤ 0) ∨ (0 < ay ∧ by' ≤ 0) then (if v - u = 0 then 1 else if ay < by' then (if v - u < 0 then 2 else 0) else (if 0 < v - u then 2 else 0)) else 0) (if u - v = 0 ∧ w ≤ 0 ∧ z ≤ 0 then 1 else if (ax ≤ 0 ∧ 0 < bx ∧ u - v < 0) ∨ (bx ≤ 0 ∧ 0 < ax ∧ 0 < u - v) then 2 else 0) (if 0 < ax ∧ 0 < ay then 1 else 0) (if 0 < bx ∧ 0 < by' then 1 else 0) := by
  rcases Int.lt_trichotomy (u - v) 0 with hc | hc | hc
  · rw [if_neg (by omega), if_neg (by omega), if_neg (by omega), if_pos (by omega), if_neg (by omega), if_neg (by omega), if_pos (by omega), if_neg (by omega), if_pos (by omega), if_neg (by omega), if_neg (by omega)]
    exact ⟨by decide, fun h => by first | exact Or.inl rfl | exact absurd h (by decide) | exact Or.inr ⟨by omega, by omega⟩, fun h => by first | rfl | (exfalso; omega), by decide⟩
  · exact absurd hc (by omega)
  · exact absurd hc (by omega)
theorem edge_zppz (px py ax ay bx by' u v w z : Int) (hax : ax = 0) (hay : 0 < ay) (hbx : 0 < bx) (hby : by' = 0) (p1 : u = 0) (p2 : 0 < v) (p3 : w = 0) (p4 : z = 0) : EdgeN px py ax ay bx by' (if bx < 0 ∧ ax < 0 then 0 else if ax = 0 ∧ ay = 0 then 1 else if by' = 0 ∧ ay = 0 then (if (bx ≤ 0 ∧ 0 ≤ ax) ∨ (ax ≤ 0 ∧ 0 ≤ bx) then 1 else 0) else if (0 < by' ∧ ay ≤ 0) ∨ (0 < ay ∧ by' ≤ 0) then (if v - u = 0 then 1 else if ay < by' then (if v - u < 0 then 2 else 0) else (if 0 < v - u then 2 else 0)) else 0) (if u - v = 0 ∧ w ≤ 0 ∧ z ≤ 0 then 1 else if (ax ≤ 0 ∧ 0 < bx ∧ u - v < 0) ∨ (bx ≤ 0 ∧ 0 < ax ∧ 0 < u - v) then 2 else 0) (if 0 < ax ∧ 0 < ay then 1 else 0) (if 0 < bx ∧ 0 < by' then 1 else 0) := by
  rcases Int.lt_trichotomy (u - v) 0 with hc | hc | hc
  · rw [if_neg (by omega), if_neg (by omega), if_neg (by omega), if_pos (by omega), if_neg (by omega), if_neg (by omega), if_pos (by omega), if_neg (by omega), if_pos (by omega), if_neg (by omega), if_neg (by omega)]
    exact ⟨by decide, fun h => by first | exact Or.inl rfl | exact absurd h (by decide) | exact Or.inr ⟨by omega, by omega⟩, fun h => by first | rfl | (exfalso; omega), by decide⟩
  · exact absurd hc (by omega)
  · exact absurd hc (by omega)
theorem edge_zppp (px py ax ay bx by' u v w z : Int) (hax : ax = 0) (hay : 0 < ay) (hbx : 0 < bx) (hby : 0 < by') (p1 : u = 0) (p2 : 0 < v) (p3 : w = 0) (p4 : 0 < z) : EdgeN px py ax ay bx by' (if bx < 0 ∧ ax < 0 then 0 else if ax = 0 ∧ ay = 0 then 1 else if by' = 0 ∧ ay = 0 then (if (bx ≤ 0 ∧ 0 ≤ ax) ∨ (ax ≤ 0 ∧ 0 ≤ bx) then 1 else 0) else if (0 < by' ∧ ay ≤ 0) ∨ (0 < ay ∧ by' ≤ 0) then (if v - u = 0 then 1 else if ay < by' then (if v - u < 0 then 2 else 0) else (if 0 < v - u then 2 else 0)) else 0) (if u - v = 0 ∧ w ≤ 0 ∧ z ≤ 0 then 1 else if (ax ≤ 0 ∧ 0 < bx ∧ u - v < 0) ∨ (bx ≤ 0 ∧ 0 < ax ∧ 0 < u - v) then 2 else 0) (if 0 < ax ∧ 0 < ay then 1 else 0) (if 0 < bx ∧ 0 < by' then 1 else 0) := by
  rcases Int.lt_trichotomy (u - v) 0 with hc | hc | hc
  · rw [if_neg (by omega), if_neg (by omega), if_neg (by omega), if_neg (by omega), if_neg (by omega), if_pos (by omega), if_neg (by omega), if_pos (by omega)]
    exact ⟨by decide, fun h => by first | exact Or.inl rfl | exact absurd h (by decide) | exact Or.inr ⟨by omega, by omega⟩, fun h => by first | rfl | (exfalso; omega), by decide⟩
  · exact absurd hc (by omega)
  · exact absurd hc (by omega)
theorem edge_pnnn (px py ax ay bx by' u v w z : Int) (hax : 0 < ax) (hay : ay < 0) (hbx : bx < 0) (hby : by' < 0) (p1 : u < 0) (p2 : 0 < v) (p3 : w < 0) (p4 : 0 < z) : EdgeN px py ax ay bx by' (if bx < 0 ∧ ax < 0 then 0 else if ax = 0 ∧ ay = 0 then 1 else if by' = 0 ∧ ay = 0 then (if (bx ≤ 0 ∧ 0 ≤ ax) ∨ (ax ≤ 0 ∧ 0 ≤ bx) then 1 else 0) else if (0 < by' ∧ ay ≤ 0) ∨ (0 < ay ∧ by' ≤ 0) then (if v - u = 0 then 1 else if ay < by' then (if v - u < 0 then 2 else 0) else (if 0 < v - u then 2 else 0)) else 0) (if u - v = 0 ∧ w ≤ 0 ∧ z ≤ 0 then 1 else if (ax ≤ 0 ∧ 0 < bx ∧ u - v < 0) ∨ (bx ≤ 0 ∧ 0 < ax ∧ 0 < u - v) then 2 else 0) (if 0 < ax ∧ 0 < ay then 1 else 0) (if 0 < bx ∧ 0 < by' then 1 else 0) := by
  rcases Int.lt_trichotomy (u - v) 0 with hc | hc | hc
  · rw [if_neg (by omega), if_neg (by omega), if_neg (by omega), if_neg (by omega), if_neg (by omega), if_neg (by omega), if_neg (by omega), if_neg (by omega)]
    exact ⟨by decide, fun h => by first | exact Or.inl rfl | exact absurd h (by decide) | exact Or.inr ⟨by omega, by omega⟩, fun h => by first | rfl | (exfalso; omega), by decide⟩
  · exact absurd hc (by omega)
  · exact absurd hc (by omega)
theorem edge_pnnz (px py ax ay bx by' u v w z : Int) (hax : 0 < ax) (hay : ay < 0) (hbx : bx < 0) (hby : by' = 0) (p1 : u = 0) (p2 : 0 < v) (p3 : w < 0) (p4 : z = 0) : EdgeN px py ax ay bx by' (if bx < 0 ∧ ax < 0 then 0 else if ax = 0 ∧ ay = 0 then 1 else if by' = 0 ∧ ay = 0 then (if (bx ≤ 0 ∧ 0 ≤ ax) ∨ (ax ≤ 0 ∧ 0 ≤ bx) then 1 else 0) else if (0 < by' ∧ ay ≤ 0) ∨ (0 < ay ∧ by' ≤ 0) then (if v - u = 0 then 1 else if ay < by' then (if v - u < 0 then 2 else 0) else (if 0 < v - u then 2 else 0)) else 0) (if u - v = 0 ∧ w ≤ 0 ∧ z ≤ 0 then 1 else if (ax ≤ 0 ∧ 0 < bx ∧ u - v < 0) ∨ (bx ≤ 0 ∧ 0 < ax ∧ 0 < u - v) then 2 else 0) (if 0 < ax ∧ 0 < ay then 1 else 0) (if 0 < bx ∧ 0 < by' then 1 else 0) := by
  rcases Int.lt_trichotomy (u - v) 0 with hc | hc | hc
  · rw [if_neg (by omega), if_neg (by omega), if_neg (by omega), if_neg (by omega), if_neg (by omega), if_neg (by omega), if_neg (by omega), if_neg (by omega)]
    exact ⟨by decide, fun h => by first | exact Or.inl rfl | exact absurd h (by decide) | exact Or.inr ⟨by omega, by omega⟩, fun h => by first | rfl | (exfalso; omega), by decide⟩
  · exact absurd hc (by omega)
  · exact absurd hc (by omega)
theorem edge_pnnp (px py ax ay bx by' u v w z : Int) (hax : 0 < ax) (hay : ay < 0) (hbx : bx < 0) (hby : 0 < by') (p1 : 0 < u) (p2 : 0 < v) (p3 : w < 0) (p4 : z < 0) : EdgeN px py ax ay bx by' (if bx < 0 ∧ ax < 0 then 0 else if ax = 0 ∧ ay = 0 then 1 else if by' = 0 ∧ ay = 0 then (if (bx ≤ 0 ∧ 0 ≤ ax) ∨ (ax ≤ 0 ∧ 0 ≤ bx) then 1 else 0) else if (0 < by' ∧ ay ≤ 0) ∨ (0 < ay ∧ by' ≤ 0) then (if v - u = 0 then 1 else if ay < by' then (if v - u < 0 then 2 else 0) else (if 0 < v - u then 2 else 0)) else 0) (if u - v = 0 ∧ w ≤ 0 ∧ z ≤ 0 then 1 else if (ax ≤ 0 ∧ 0 < bx ∧ u - v < 0) ∨ (bx ≤ 0 ∧ 0 < ax ∧ 0 < u - v) then 2 else 0) (if 0 < ax ∧ 0 < ay then 1 else 0) (if 0 < bx ∧ 0 < by' then 1 else 0) := by
  rcases Int.lt_trichotomy (u - v) 0 with hc | hc | hc
  · rw [if_neg (by omega), if_neg (by omega), if_neg (by omega), if_pos (by omega), if_neg (by omega), if_pos (by omega), if_neg (by omega), if_neg (by omega), if_neg (by omega), if_neg (by omega), if_neg (by omega)]
    exact ⟨by decide, fun h => by first | exact Or.inl rfl | exact absurd h (by decide) | exact Or.inr ⟨by omega, by omega⟩, fun h => by first | rfl | (exfalso; omega), by decide⟩
  · rw [if_neg (by omega), if_neg (by omega), if_neg (by omega), if_pos (by omega), if_pos (by omega), if_pos (by omega), if_neg (by omega), if_neg (by omega)]
    exact ⟨by decide, fun h => by first | exact Or.inl rfl | exact absurd h (by decide) | exact Or.inr ⟨by omega, by omega⟩, fun h => by first | rfl | (exfalso; omega), by decide⟩
  · rw [if_neg (by omega), if_neg (by omega), if_neg (by omega), if_pos (by omega), if_neg (by omega), if_pos (by omega), if_pos (by omega), if_neg (by omega), if_pos (by omega), if_neg (by omega), if_neg (by omega)]
    exact ⟨by decide, fun h => by first | exact Or.inl rfl | exact absurd h (by decide) | exact Or.inr ⟨by omega, by omega⟩, fun h => by first | rfl | (exfalso; omega), by decide⟩
theorem edge_pnzn (px py ax ay bx by' u v w z : Int) (hax : 0 < ax) (hay : ay < 0) (hbx : bx = 0) (hby : by' < 0) (p1 : u < 0) (p2 : v = 0) (p3 : w = 0) (p4 : 0 < z) : EdgeN px py ax ay bx by' (if bx < 0 ∧ ax < 0 then 0 else if ax = 0 ∧ ay = 0 then 1 else if by' = 0 ∧ ay = 0 then (if (bx ≤ 0 ∧ 0 ≤ ax) ∨ (ax ≤ 0 ∧ 0 ≤ bx) then 1 else 0) else if (0 < by' ∧ ay ≤ 0) ∨ (0 < ay ∧ by' ≤ 0) then (if v - u = 0 then 1 else if ay < by' then (if v - u < 0 then 2 else 0) else (if 0 < v - u then 2 else 0)) else 0) (if u - v = 0 ∧ w ≤ 0 ∧ z ≤ 0 then 1 else if (ax ≤ 0 ∧ 0 < bx ∧ u - v < 0) ∨ (bx ≤ 0 ∧ 0 < ax ∧ 0 < u - v) then 2 else 0) (if 0 < ax ∧ 0 < ay then 1 else 0) (if 0 < bx ∧ 0 < by' then 1 else 0) := by
  rcases Int.lt_trichotomy (u - v) 0 with hc | hc | hc
  · rw [if_neg (by omega), if_neg (by omega), if_neg (by omega), if_neg (by omega), if_neg (by omega), if_neg (by omega), if_neg (by omega), if_neg (by omega)]
    exact ⟨by decide, fun h => by first | exact Or.inl rfl | exact absurd h (by decide) | exact Or.inr ⟨by omega, by omega⟩, fun h => by first | rfl | (exfalso; omega), by decide⟩
  · exact absurd hc (by omega)
  · exact absurd hc (by omega)
theorem edge_pnzz (px py ax ay bx by' u v w z : Int) (hax : 0 < ax) (hay : ay < 0) (hbx : bx = 0) (hby : by' = 0) (p1 : u = 0) (p2 : v = 0) (p3 : w = 0) (p4 : z = 0) : EdgeN px py ax ay bx by' (if bx < 0 ∧ ax < 0 then 0 else if ax = 0 ∧ ay = 0 then 1 else if by' = 0 ∧ ay = 0 then (if (bx ≤ 0 ∧ 0 ≤ ax) ∨ (ax ≤ 0 ∧ 0 ≤ bx) then 1 else 0) else if (0 < by' ∧ ay ≤ 0) ∨ (0 < ay ∧ by' ≤ 0) then (if v - u = 0 then 1 else if ay < by' then (if v - u < 0 then 2 else 0) else (if 0 < v - u then 2 else 0)) else 0) (if u - v = 0 ∧ w ≤ 0 ∧ z ≤ 0 then 1 else if (ax ≤ 0 ∧ 0 < bx ∧ u - v < 0) ∨ (bx ≤ 0 ∧ 0 < ax ∧ 0 < u - v) then 2 else 0) (if 0 < ax ∧ 0 < ay then 1 else 0) (if 0 < bx ∧ 0 < by' then 1 else 0) := by
  rcases Int.lt_trichotomy (u - v) 0 with hc | hc | hc
  · exact absurd hc (by omega)
  · rw [if_neg (by omega), if_neg (by omega), if_neg (by omega), if_neg (by omega), if_pos (by omega), if_neg (by omega), if_neg (by omega)]
    exact ⟨by decide, fun h => by first | exact Or.inl rfl | exact absurd h (by decide) | exact Or.inr ⟨by omega, by omega⟩, fun h => by first | rfl | (exfalso; omega), by decide⟩
  · exact absurd hc (by omega)
theorem edge_pnzp (px py ax ay bx by' u v w z : Int) (hax : 0 < ax) (hay : ay < 0) (hbx : bx = 0) (hby : 0 < by') (p1 : 0 < u) (p2 : v = 0) (p3 : w = 0) (p4 : z < 0) : EdgeN px py ax ay bx by' (if bx < 0 ∧ ax < 0 then 0 else if ax = 0 ∧ ay = 0 then 1 else if by' = 0 ∧ ay = 0 then (if (bx ≤ 0 ∧ 0 ≤ ax) ∨ (ax ≤ 0 ∧ 0 ≤ bx) then 1 else 0) else if (0 < by' ∧ ay ≤ 0) ∨ (0 < ay ∧ by' ≤ 0) then (if v - u = 0 then 1 else if ay < by' then (if v - u < 0 then 2 else 0) else (if 0 < v - u then 2 else 0)) else 0) (if u - v = 0 ∧ w ≤ 0 ∧ z ≤ 0 then 1 else if (ax ≤ 0 ∧ 0 < bx ∧ u - v < 0) ∨ (bx ≤ 0 ∧ 0 < ax ∧ 0 < u - v) then 2 else 0) (if 0 < ax ∧ 0 < ay then 1 else 0) (if 0 < bx ∧ 0 < by' then 1 else 0) := by
  rcases Int.lt_trichotomy (u - v) 0 with hc | hc | hc
  · exact absurd hc (by omega)
  · exact absurd hc (by omega)
  · rw [if_neg (by omega), if_neg (by omega), if_neg (by omega), if_pos (by omega), if_neg (by omega), if_pos (by omega), if_pos (by omega), if_neg (by omega), if_pos (by omega), if_neg (by omega), if_neg (by omega)]
    exact ⟨by decide, fun h => by first | exact Or.inl rfl | exact absurd h (by decide) | exact Or.inr ⟨by omega, by omega⟩, fun h => by first | rfl | (exfalso; omega), by decide⟩
theorem edge_pnpn (px py ax ay bx by' u v w z : Int) (hax : 0 < ax) (hay : ay < 0) (hbx : 0 < bx) (hby : by' < 0) (p1 : u < 0) (p2 : v < 0) (p3 : 0 < w) (p4 : 0 < z) : EdgeN px py ax ay bx by' (if bx < 0 ∧ ax < 0 then 0 else if ax = 0 ∧ ay = 0 then 1 else if by' = 0 ∧ ay = 0 then (if (bx ≤ 0 ∧ 0 ≤ ax) ∨ (ax ≤ 0 ∧ 0 ≤ bx) then 1 else 0) else if (0 < by' ∧ ay ≤ 0) ∨ (0 < ay ∧ by' ≤ 0) then (if v - u = 0 then 1 else if ay < by' then (if v - u < 0 then 2 else 0) else (if 0 < v - u then 2 else 0)) else 0) (if u - v = 0 ∧ w ≤ 0 ∧ z ≤ 0 then 1 else if (ax ≤ 0 ∧ 0 < bx ∧ u - v < 0) ∨ (bx ≤ 0 ∧ 0 < ax ∧ 0 < u - v) then 2 else 0) (if 0 < ax ∧ 0 < ay then 1 else 0) (if 0 < bx ∧ 0 < by' then 1 else 0) := by
  rcases Int.lt_trichotomy (u - v) 0 with hc | hc | hc
  · rw [if_neg (by omega), if_neg (by omega), if_neg (by omega), if_neg (by omega), if_neg (by omega), if_neg (by omega), if_neg (by omega), if_neg (by omega)]
    exact ⟨by decide, fun h => by first | exact Or.inl rfl | exact absurd h (by decide) | exact Or.inr ⟨by omega, by omega⟩, fun h => by first | rfl | (exfalso; omega), by decide⟩
  · rw [if_neg (by omega), if_neg (by omega), if_neg (by omega), if_neg (by omega), if_neg (by omega), if_neg (by omega), if_neg (by omega), if_neg (by omega)]
    exact ⟨by decide, fun h => by first | exact Or.inl rfl | exact absurd h (by decide) | exact Or.inr ⟨by omega, by omega⟩, fun h => by first | rfl | (exfalso; omega), by decide⟩
  · rw [if_neg (by omega), if_neg (by omega), if_neg (by omega), if_neg (by omega), if_neg (by omega), if_neg (by omega), if_neg (by omega), if_neg (by omega)]
    exact ⟨by decide, fun h => by first | exact Or.inl rfl | exact absurd h (by decide) | exact Or.inr ⟨by omega, by omega⟩, fun h => by first | rfl | (exfalso; omega), by decide⟩
theorem edge_pnpz (px py ax ay bx by' u v w z : Int) (hax : 0 < ax) (hay : ay < 0) (hbx : 0 < bx) (hby : by' = 0) (p1 : u = 0) (p2 : v < 0) (p3 : 0 < w) (p4 : z = 0) : EdgeN px py ax ay bx by' (if bx < 0 ∧ ax < 0 then 0 else if ax = 0 ∧ ay = 0 then 1 else if by' = 0 ∧ ay = 0 then (if (bx ≤ 0 ∧ 0 ≤ ax) ∨ (ax ≤ 0 ∧ 0 ≤ bx) then 1 else 0) else if (0 < by' ∧ ay ≤ 0) ∨ (0 < ay ∧ by' ≤ 0) then (if v - u = 0 then 1 else if ay < by' then (if v - u < 0 then 2 else 0) else (if 0 < v - u then 2 else 0)) else 0) (if u - v = 0 ∧ w ≤ 0 ∧ z ≤ 0 then 1 else if (ax ≤ 0 ∧ 0 < bx ∧ u - v < 0) ∨ (bx ≤ 0 ∧ 0 < ax ∧ 0 < u - v) then 2 else 0) (if 0 < ax ∧ 0 < ay then 1 else 0) (if 0 < bx ∧ 0 < by' then 1 else 0) := by
  rcases Int.lt_trichotomy (u - v) 0 with hc | hc | hc
  · exact absurd hc (by omega)
  · exact absurd hc (by omega)
  · rw [if_neg (by omega), if_neg (by omega), if_neg (by omega), if_neg (by omega), if_neg (by omega), if_neg (by omega), if_neg (by omega), if_neg (by omega)]
    exact ⟨by decide, fun h => by first | exact Or.inl rfl | exact absurd h (by decide) | exact Or.inr ⟨by omega, by omega⟩, fun h => by first | rfl | (exfalso; omega), by decide⟩
theorem edge_pnpp (px py ax ay bx by' u v w z : Int) (hax : 0 < ax) (hay : ay < 0) (hbx : 0 < bx) (hby : 0 < by') (p1 : 0 < u) (p2 : v < 0) (p3 : 0 < w) (p4 : z < 0) : EdgeN px py ax ay bx by' (if bx < 0 ∧ ax < 0 then 0 else if ax = 0 ∧ ay = 0 then 1 else if by' = 0 ∧ ay = 0 then (if (bx ≤ 0 ∧ 0 ≤ ax) ∨ (ax ≤ 0 ∧ 0 ≤ bx) then 1 else 0) else if (0 < by' ∧ ay ≤ 0) ∨ (0 < ay ∧ by' ≤ 0) then (if v - u = 0 then 1 else if ay < by' then (if v - u < 0 then 2 else 0) else (if 0 < v - u then 2 else 0)) else 0) (if u - v = 0 ∧ w ≤ 0 ∧ z ≤ 0 then 1 else if (ax ≤ 0 ∧ 0 < bx ∧ u - v < 0) ∨ (bx ≤ 0 ∧ 0 < ax ∧ 0 < u - v) then 2 else 0) (if 0 < ax ∧ 0 < ay then 1 else 0) (if 0 < bx ∧ 0 < by' then 1 else 0) := by
  rcases Int.lt_trichotomy (u - v) 0 with hc | hc | hc
  · exact absurd hc (by omega)
  · exact absurd hc (by omega)
  · rw [if_neg (by omega), if_neg (by omega), if_neg (by omega), if_pos (by omega), if_neg (by omega), if_pos (by omega), if_pos (by omega), if_neg (by omega), if_neg (by omega), if_neg (by omega), if_pos (by omega)]
    exact ⟨by decide, fun h => by first | exact Or.inl rfl | exact absurd h (by decide) | exact Or.inr ⟨by omega, by omega⟩, fun h => by first | rfl | (exfalso; omega), by decide⟩
theorem edge_pznn (px py ax ay bx by' u v w z : Int) (hax : 0 < ax) (hay : ay = 0) (hbx : bx < 0) (hby : by' < 0) (p1 : u < 0) (p2 : v = 0) (p3 : w < 0) (p4 : z = 0) : EdgeN px py ax ay bx by' (if bx < 0 ∧ ax < 0 then 0 else if ax = 0 ∧ ay = 0 then 1 else if by' = 0 ∧ ay = 0 then (if (bx ≤ 0 ∧ 0 ≤ ax) ∨ (ax ≤ 0 ∧ 0 ≤ bx) then 1 else 0) else if (0 < by' ∧ ay ≤ 0) ∨ (0 < ay ∧ by' ≤ 0) then (if v - u = 0 then 1 else if ay < by' then (if v - u < 0 then 2 else 0) else (if 0 < v - u then 2 else 0)) else 0) (if u - v = 0 ∧ w ≤ 0 ∧ z ≤ 0 then 1 else if (ax ≤ 0 ∧ 0 < bx ∧ u - v < 0) ∨ (bx ≤ 0 ∧ 0 < ax ∧ 0 < u - v) then 2 else 0) (if 0 < ax ∧ 0 < ay then 1 else 0) (if 0 < bx ∧ 0 < by' then 1 else 0) := by
  rcases Int.lt_trichotomy (u - v) 0 with hc | hc | hc
  · rw [if_neg (by omega), if_neg (by omega), if_neg (by omega), if_neg (by omega), if_neg (by omega), if_neg (by omega), if_neg (by omega), if_neg (by omega)]
    exact ⟨by decide, fun h => by first | exact Or.inl rfl | exact absurd h (by decide) | exact Or.inr ⟨by omega, by omega⟩, fun h => by first | rfl | (exfalso; omega), by decide⟩
  · exact absurd hc (by omega)
  · exact absurd hc (by omega)
theorem edge_pznz (px py ax ay bx by' u v w z : Int) (hax : 0 < ax) (hay : ay = 0) (hbx : bx < 0) (hby : by' = 0) (p1 : u = 0) (p2 : v = 0) (p3 : w < 0) (p4 : z = 0) : EdgeN px py ax ay bx by' (if bx < 0 ∧ ax < 0 then 0 else if ax = 0 ∧ ay = 0 then 1 else if by' = 0 ∧ ay = 0 then (if (bx ≤ 0 ∧ 0 ≤ ax) ∨ (ax ≤ 0 ∧ 0 ≤ bx) then 1 else 0) else if (0 < by' ∧ ay ≤ 0) ∨ (0 < ay ∧ by' ≤ 0) then (if v - u = 0 then 1 else if ay < by' then (if v - u < 0 then 2 else 0) else (if 0 < v - u then 2 else 0)) else 0) (if u - v = 0 ∧ w ≤ 0 ∧ z ≤ 0 then 1 else if (ax ≤ 0 ∧ 0 < bx ∧ u - v < 0) ∨ (bx ≤ 0 ∧ 0 < ax ∧ 0 < u - v) then 2 else 0) (if 0 < ax ∧ 0 < ay then 1 else 0) (if 0 < bx ∧ 0 < by' then 1 else 0) := by
  rcases Int.lt_trichotomy (u - v) 0 with hc | hc | hc
  · exact absurd hc (by omega)
  · rw [if_neg (by omega), if_neg (by omega), if_pos (by omega), if_pos (by omega), if_pos (by omega), if_neg (by omega), if_neg (by omega)]
    exact ⟨by decide, fun h => by first | exact Or.inl rfl | exact absurd h (by decide) | exact Or.inr ⟨by omega, by omega⟩, fun h => by first | rfl | (exfalso; omega), by decide⟩
  · exact absurd hc (by omega)
theorem edge_pznp (px py ax ay bx by' u v w z : Int) (hax : 0 < ax) (hay : ay = 0) (hbx : bx < 0) (hby : 0 < by') (p1 : 0 < u) (p2 : v = 0) (p3 : w < 0) (p4 : z = 0) : EdgeN px py ax ay bx by' (if bx < 0 ∧ ax < 0 then 0 else if ax = 0 ∧ ay = 0 then 1 else if by' = 0 ∧ ay = 0 then (if (bx ≤ 0 ∧ 0 ≤ ax) ∨ (ax ≤ 0 ∧ 0 ≤ bx) then 1 else 0) else if (0 < by' ∧ ay ≤ 0) ∨ (0 < ay ∧ by' ≤ 0) then (if v - u = 0 then 1 else if ay < by' then (if v - u < 0 then 2 else 0) else (if 0 < v - u then 2 else 0)) else 0) (if u - v = 0 ∧ w ≤ 0 ∧ z ≤ 0 then 1 else if (ax ≤ 0 ∧ 0 < bx ∧ u - v < 0) ∨ (bx ≤ 0 ∧ 0 < ax ∧ 0 < u - v) then 2 else 0) (if 0 < ax ∧ 0 < ay then 1 else 0) (if 0 < bx ∧ 0 < by' then 1 else 0) := by
  rcases Int.lt_trichotomy (u - v) 0 with hc | hc | hc
  · exact absurd hc (by omega)
  · exact absurd hc (by omega)
  · rw [if_neg (by omega), if_neg (by omega), if_neg (by omega), if_pos (by omega), if_neg (by omega), if_pos (by omega), if_pos (by omega), if_neg (by omega), if_pos (by omega), if_neg (by omega), if_neg (by omega)]
    exact ⟨by decide, fun h => by first | exact Or.inl rfl | exact absurd h (by decide) | exact Or.inr ⟨by omega, by omega⟩, fun h => by first | rfl | (exfalso; omega), by decide⟩
theorem edge_pzzn (px py ax ay bx by' u v w z : Int) (hax : 0 < ax) (hay : ay = 0) (hbx : bx = 0) (hby : by' < 0) (p1 : u < 0) (p2 : v = 0) (p3 : w = 0) (p4 : z = 0) : EdgeN px py ax ay bx by' (if bx < 0 ∧ ax < 0 then 0 else if ax = 0 ∧ ay = 0 then 1 else if by' = 0 ∧ ay = 0 then (if (bx ≤ 0 ∧ 0 ≤ ax) ∨ (ax ≤ 0 ∧ 0 ≤ bx) then 1 else 0) else if (0 < by' ∧ ay ≤ 0) ∨ (0 < ay ∧ by' ≤ 0) then (if v - u = 0 then 1 else if ay < by' then (if v - u < 0 then 2 else 0) else (if 0 < v - u then 2 else 0)) else 0) (if u - v = 0 ∧ w ≤ 0 ∧ z ≤ 0 then 1 else if (ax ≤ 0 ∧ 0 < bx ∧ u - v < 0) ∨ (bx ≤ 0 ∧ 0 < ax ∧ 0 < u - v) then 2 else 0) (if 0 < ax ∧ 0 < ay then 1 else 0) (if 0 < bx ∧ 0 < by' then 1 else 0) := by
  rcases Int.lt_trichotomy (u - v) 0 with hc | hc | hc
  · rw [if_neg (by omega), if_neg (by omega), if_neg (by omega), if_neg (by omega), if_neg (by omega), if_neg (by omega), if_neg (by omega), if_neg (by omega)]
    exact ⟨by decide, fun h => by first | exact Or.inl rfl | exact absurd h (by decide) | exact Or.inr ⟨by omega, by omega⟩, fun h => by first | rfl | (exfalso; omega), by decide⟩
  · exact absurd hc (by omega)
  · exact absurd hc (by omega)
theorem edge_pzzz (px py ax ay bx by' u v w z : Int) (hax : 0 < ax) (hay : ay = 0) (hbx : bx = 0) (hby : by' = 0) (p1 : u = 0) (p2 : v = 0) (p3 : w = 0) (p4 : z = 0) : EdgeN px py ax ay bx by' (if bx < 0 ∧ ax < 0 then 0 else if ax = 0 ∧ ay = 0 then 1 else if by' = 0 ∧ ay = 0 then (if (bx ≤ 0 ∧ 0 ≤ ax) ∨ (ax ≤ 0 ∧ 0 ≤ bx) then 1 else 0) else if (0 < by' ∧ ay ≤ 0) ∨ (0 < ay ∧ by' ≤ 0) then (if v - u = 0 then 1 else if ay < by' then (if v - u < 0 then 2 else 0) else (if 0 < v - u then 2 else 0)) else 0) (if u - v = 0 ∧ w ≤ 0 ∧ z ≤ 0 then 1 else if (ax ≤ 0 ∧ 0 < bx ∧ u - v < 0) ∨ (bx ≤ 0 ∧ 0 < ax ∧ 0 < u - v) then 2 else 0) (if 0 < ax ∧ 0 < ay then 1 else 0) (if 0 < bx ∧ 0 < by' then 1 else 0) := by
  rcases Int.lt_trichotomy (u - v) 0 with hc | hc | hc
  · exact absurd hc (by omega)
  · rw [if_neg (by omega), if_neg (by omega), if_pos (by omega), if_pos (by omega), if_pos (by omega), if_neg (by omega), if_neg (by omega)]
    exact ⟨by decide, fun h => by first | exact Or.inl rfl | exact absurd h (by decide) | exact Or.inr ⟨by omega, by omega⟩, fun h => by first | rfl | (exfalso; omega), by decide⟩
  · exact absurd hc (by omega)
theorem edge_pzzp (px py ax ay bx by' u v w z : Int) (hax : 0 < ax) (hay : ay = 0) (hbx : bx = 0) (hby : 0 < by') (p1 : 0 < u) (p2 : v = 0) (p3 : w = 0) (p4 : z = 0) : EdgeN px py ax ay bx by' (if bx < 0 ∧ ax < 0 then 0 else if ax = 0 ∧ ay = 0 then 1 else if by' = 0 ∧ ay = 0 then (if (bx ≤ 0 ∧ 0 ≤ ax) ∨ (ax ≤ 0 ∧ 0 ≤ bx) then 1 else 0) else if (0 < by' ∧ ay ≤ 0) ∨ (0 < ay ∧ by' ≤ 0) then (if v - u = 0 then 1 else if ay < by' then (if v - u < 0 then 2 else 0) else (if 0 < v - u then 2 else 0)) else 0) (if u - v = 0 ∧ w ≤ 0 ∧ z ≤ 0 then 1 else if (ax ≤ 0 ∧ 0 < bx ∧ u - v < 0) ∨ (bx ≤ 0 ∧ 0 < ax ∧ 0 < u - v) then 2 else 0) (if 0 < ax ∧ 0 < ay then 1 else 0) (if 0 < bx ∧ 0 < by' then 1 else 0) := by
  rcases Int.lt_trichotomy (u - v) 0 with hc | hc | hc
  · exact absurd hc (by omega)
  · exact absurd hc (by omega)
  · rw [if_neg (by omega), if_neg (by omega), if_neg (by omega), if_pos (by omega), if_neg (by omega), if_pos (by omega), if_pos (by omega), if_neg (by omega), if_pos (by omega), if_neg (by omega), if_neg (by omega)]
    exact ⟨by decide, fun h => by first | exact Or.inl rfl | exact absurd h (by decide) | exact Or.inr ⟨by omega, by omega⟩, fun h => by first | rfl | (exfalso; omega), by decide⟩
theorem edge_pzpn (px py ax ay bx by' u v w z : Int) (hax : 0 < ax) (hay : ay = 0) (hbx : 0 < bx) (hby : by' < 0) (p1 : u < 0) (p2 : v = 0) (p3 : 0 < w) (p4 : z = 0) : EdgeN px py ax ay bx by' (if bx < 0 ∧ ax < 0 then 0 else if ax = 0 ∧ ay = 0 then 1 else if by' = 0 ∧ ay = 0 then (if (bx ≤ 0 ∧ 0 ≤ ax) ∨ (ax ≤ 0 ∧ 0 ≤ bx) then 1 else 0) else if (0 < by' ∧ ay ≤ 0) ∨ (0 < ay ∧ by' ≤ 0) then (if v - u = 0 then 1 else if ay < by' then (if v - u < 0 then 2 else 0) else (if 0 < v - u then 2 else 0)) else 0) (if u - v = 0 ∧ w ≤ 0 ∧ z ≤ 0 then 1 else if (ax ≤ 0 ∧ 0 < bx ∧ u - v < 0) ∨ (bx ≤ 0 ∧ 0 < ax ∧ 0 < u - v) then 2 else 0) (if 0 < ax ∧ 0 < ay then 1 else 0) (if 0 < bx ∧ 0 < by' then 1 else 0) := by
  rcases Int.lt_trichotomy (u - v) 0 with hc | hc | hc
  · rw [if_neg (by omega), if_neg (by omega), if_neg (by omega), if_neg (by omega), if_neg (by omega), if_neg (by omega), if_neg (by omega), if_neg (by omega)]
    exact ⟨by decide, fun h => by first | exact Or.inl rfl | exact absurd h (by decide) | exact Or.inr ⟨by omega, by omega⟩, fun h => by first | rfl | (exfalso; omega), by decide⟩
  · exact absurd hc (by omega)
  · exact absurd hc (by omega)
theorem edge_pzpz (px py ax ay bx by' u v w z : Int) (hax : 0 < ax) (hay : ay = 0) (hbx : 0 < bx) (hby : by' = 0) (p1 : u = 0) (p2 : v = 0) (p3 : 0 < w) (p4 : z = 0) : EdgeN px py ax ay bx by' (if bx < 0 ∧ ax < 0 then 0 else if ax = 0 ∧ ay = 0 then 1 else if by' = 0 ∧ ay = 0 then (if (bx ≤ 0 ∧ 0 ≤ ax) ∨ (ax ≤ 0 ∧ 0 ≤ bx) then 1 else 0) else if (0 < by' ∧ ay ≤ 0) ∨ (0 < ay ∧ by' ≤ 0) then (if v - u = 0 then 1 else if ay < by' then (if v - u < 0 then 2 else 0) else (if 0 < v - u then 2 else 0)) else 0) (if u - v = 0 ∧ w ≤ 0 ∧ z ≤ 0 then 1 else if (ax ≤ 0 ∧ 0 < bx ∧ u - v < 0) ∨ (bx ≤ 0 ∧ 0 < ax ∧ 0 < u - v) then 2 else 0) (if 0 < ax ∧ 0 < ay then 1 else 0) (if 0 < bx ∧ 0 < by' then 1 else 0) := by
  rcases Int.lt_trichotomy (u - v) 0 with hc | hc | hc
  · exact absurd hc (by omega)
  · rw [if_neg (by omega), if_neg (by omega), if_pos (by omega), if_neg (by omega), if_neg (by omega), if_neg (by omega), if_neg (by omega), if_neg (by omega)]
    exact ⟨by decide, fun h => by first | exact Or.inl rfl | exact absurd h (by decide) | exact Or.inr ⟨by omega, by omega⟩, fun h => by first | rfl | (exfalso; omega), by decide⟩
  · exact absurd hc (by omega)
theorem edge_pzpp (px py ax ay bx by' u v w z : Int) (hax : 0 < ax) (hay : ay = 0) (hbx : 0 < bx) (hby : 0 < by') (p1 : 0 < u) (p2 : v = 0) (p3 : 0 < w) (p4 : z = 0) : EdgeN px py ax ay bx by' (if bx < 0 ∧ ax < 0 then 0 else if ax = 0 ∧ ay = 0 then 1 else if by' = 0 ∧ ay = 0 then (if (bx ≤ 0 ∧ 0 ≤ ax) ∨ (ax ≤ 0 ∧ 0 ≤ bx) then 1 else 0) else if (0 < by' ∧ ay ≤ 0) ∨ (0 < ay ∧ by' ≤ 0) then (if v - u = 0 then 1 else if ay < by' then (if v - u < 0 then 2 else 0) else (if 0 < v - u then 2 else 0)) else 0) (if u - v = 0 ∧ w ≤ 0 ∧ z ≤ 0 then 1 else if (ax ≤ 0 ∧ 0 < bx ∧ u - v < 0) ∨ (bx ≤ 0 ∧ 0 < ax ∧ 0 < u - v) then 2 else 0) (if 0 < ax ∧ 0 < ay then 1 else 0) (if 0 < bx ∧ 0 < by' then 1 else 0) := by
  rcases Int.lt_trichotomy (u - v) 0 with hc | hc | hc
  · exact absurd hc (by omega)
  · exact absurd hc (by omega)
  · rw [if_neg (by omega), if_neg (by omega), if_neg (by omega), if_pos (by omega), if_neg (by omega), if_pos (by omega), if_pos (by omega), if_neg (by omega), if_neg (by omega), if_neg (by omega), if_pos (by omega)]
    exact ⟨by decide, fun h => by first | exact Or.inl rfl | exact absurd h (by decide) | exact Or.inr ⟨by omega, by omega⟩, fun h => by first | rfl | (exfalso; omega), by decide⟩
theorem edge_ppnn (px py ax ay bx by' u v w z : Int) (hax : 0 < ax) (hay : 0 < ay) (hbx : bx < 0) (hby : by' < 0) (p1 : u < 0) (p2 : v < 0) (p3 : w < 0) (p4 : z < 0) : EdgeN px py ax ay bx by' (if bx < 0 ∧ ax < 0 then 0 else if ax = 0 ∧ ay = 0 then 1 else if by' = 0 ∧ ay = 0 then (if (bx ≤ 0 ∧ 0 ≤ ax) ∨ (ax ≤ 0 ∧ 0 ≤ bx) then 1 else 0) else if (0 < by' ∧ ay ≤ 0) ∨ (0 < ay ∧ by' ≤ 0) then (if v - u = 0 then 1 else if ay < by' then (if v - u < 0 then 2 else 0) else (if 0 < v - u then 2 else 0)) else 0) (if u - v = 0 ∧ w ≤ 0 ∧ z ≤ 0 then 1 else if (ax ≤ 0 ∧ 0 < bx ∧ u - v < 0) ∨ (bx ≤ 0 ∧ 0 < ax ∧ 0 < u - v) then 2 else 0) (if 0 < ax ∧ 0 < ay then 1 else 0) (if 0 < bx ∧ 0 < by' then 1 else 0) := by
  rcases Int.lt_trichotomy (u - v) 0 with hc | hc | hc
  · rw [if_neg (by omega), if_neg (by omega), if_neg (by omega), if_pos (by omega), if_neg (by omega), if_neg (by omega), if_pos (by omega), if_neg (by omega), if_neg (by omega), if_pos (by omega), if_neg (by omega)]
    exact ⟨by decide, fun h => by first | exact Or.inl rfl | exact absurd h (by decide) | exact Or.inr ⟨by omega, by omega⟩, fun h => by first | rfl | (exfalso; omega), by decide⟩
  · rw [if_neg (by omega), if_neg (by omega), if_neg (by omega), if_pos (by omega), if_pos (by omega), if_pos (by omega), if_pos (by omega), if_neg (by omega)]
    exact ⟨by decide, fun h => by first | exact Or.inl rfl | exact absurd h (by decide) | exact Or.inr ⟨by omega, by omega⟩, fun h => by first | rfl | (exfalso; omega), by decide⟩
  · rw [if_neg (by omega), if_neg (by omega), if_neg (by omega), if_pos (by omega), if_neg (by omega), if_neg (by omega), if_neg (by omega), if_neg (by omega), if_pos (by omega), if_pos (by omega), if_neg (by omega)]
    exact ⟨by decide, fun h => by first | exact Or.inl rfl | exact absurd h (by decide) | exact Or.inr ⟨by omega, by omega⟩, fun h => by first | rfl | (exfalso; omega), by decide⟩
theorem edge_ppnz (px py ax ay bx by' u v w z : Int) (hax : 0 < ax) (hay : 0 < ay) (hbx : bx < 0) (hby : by' = 0) (p1 : u = 0) (p2 : v < 0) (p3 : w < 0) (p4 : z = 0) : EdgeN px py ax ay bx by' (if bx < 0 ∧ ax < 0 then 0 else if ax = 0 ∧ ay = 0 then 1 else if by' = 0 ∧ ay = 0 then (if (bx ≤ 0 ∧ 0 ≤ ax) ∨ (ax ≤ 0 ∧ 0 ≤ bx) then 1 else 0) else if (0 < by' ∧ ay ≤ 0) ∨ (0 < ay ∧ by' ≤ 0) then (if v - u = 0 then 1 else if ay < by' then (if v - u < 0 then 2 else 0) else (if 0 < v - u then 2 else 0)) else 0) (if u - v = 0 ∧ w ≤ 0 ∧ z ≤ 0 then 1 else if (ax ≤ 0 ∧ 0 < bx ∧ u - v < 0) ∨ (bx ≤ 0 ∧ 0 < ax ∧ 0 < u - v) then 2 else 0) (if 0 < ax ∧ 0 < ay then 1 else 0) (if 0 < bx ∧ 0 < by' then 1 else 0) := by
  rcases Int.lt_trichotomy (u - v) 0 with hc | hc | hc
  · exact absurd hc (by omega)
  · exact absurd hc (by omega)
  · rw [if_neg (by omega), if_neg (by omega), if_neg (by omega), if_pos (by omega), if_neg (by omega), if_neg (by omega), if_neg (by omega), if_neg (by omega), if_pos (by omega), if_pos (by omega), if_neg (by omega)]
    exact ⟨by decide, fun h => by first | exact Or.inl rfl | exact absurd h (by decide) | exact Or.inr ⟨by omega, by omega⟩, fun h => by first | rfl | (exfalso; omega), by decide⟩
theorem edge_ppnp (px py ax ay bx by' u v w z : Int) (hax : 0 < ax) (hay : 0 < ay) (hbx : bx < 0) (hby : 0 < by') (p1 : 0 < u) (p2 : v < 0) (p3 : w < 0) (p4 : 0 < z) : EdgeN px py ax ay bx by' (if bx < 0 ∧ ax < 0 then 0 else if ax = 0 ∧ ay = 0 then 1 else if by' = 0 ∧ ay = 0 then (if (bx ≤ 0 ∧ 0 ≤ ax) ∨ (ax ≤ 0 ∧ 0 ≤ bx) then 1 else 0) else if (0 < by' ∧ ay ≤ 0) ∨ (0 < ay ∧ by' ≤ 0) then (if v - u = 0 then 1 else if ay < by' then (if v - u < 0 then 2 else 0) else (if 0 < v - u then 2 else 0)) else 0) (if u - v = 0 ∧ w ≤ 0 ∧ z ≤ 0 then 1 else if (ax ≤ 0 ∧ 0 < bx ∧ u - v < 0) ∨ (bx ≤ 0 ∧ 0 < ax ∧ 0 < u - v) then 2 else 0) (if 0 < ax ∧ 0 < ay then 1 else 0) (if 0 < bx ∧ 0 < by' then 1 else 0) := by
  rcases Int.lt_trichotomy (u - v) 0 with hc | hc | hc
  · exact absurd hc (by omega)
  · exact absurd hc (by omega)
  · rw [if_neg (by omega), if_neg (by omega), if_neg (by omega), if_neg (by omega), if_neg (by omega), if_pos (by omega), if_pos (by omega), if_neg (by omega)]
    exact ⟨by decide, fun h => by first | exact Or.inl rfl | exact absurd h (by decide) | exact Or.inr ⟨by omega, by omega⟩, fun h => by first | rfl | (exfalso; omega), by decide⟩
theorem edge_ppzn (px py ax ay bx by' u v w z : Int) (hax : 0 < ax) (hay : 0 < ay) (hbx : bx = 0) (hby : by' < 0) (p1 : u < 0) (p2 : v = 0) (p3 : w = 0) (p4 : z < 0) : EdgeN px py ax ay bx by' (if bx < 0 ∧ ax < 0 then 0 else if ax = 0 ∧ ay = 0 then 1 else if by' = 0 ∧ ay = 0 then (if (bx ≤ 0 ∧ 0 ≤ ax) ∨ (ax ≤ 0 ∧ 0 ≤ bx) then 1 else 0) else if (0 < by' ∧ ay ≤ 0) ∨ (0 < ay ∧ by' ≤ 0) then (if v - u = 0 then 1 else if ay < by' then (if v - u < 0 then 2 else 0) else (if 0 < v - u then 2 else 0)) else 0) (if u - v = 0 ∧ w ≤ 0 ∧ z ≤ 0 then 1 else if (ax ≤ 0 ∧ 0 < bx ∧ u - v < 0) ∨ (bx ≤ 0 ∧ 0 < ax ∧ 0 < u - v) then 2 else 0) (if 0 < ax ∧ 0 < ay then 1 else 0) (if 0 < bx ∧ 0 < by' then 1 else 0) := by
  rcases Int.lt_trichotomy (u - v) 0 with hc | hc | hc
  · rw [if_neg (by omega), if_neg (by omega), if_neg (by omega), if_pos (by omega), if_neg (by omega), if_neg (by omega), if_pos (by omega), if_neg (by omega), if_neg (by omega), if_pos (by omega), if_neg (by omega)]
    exact ⟨by decide, fun h => by first | exact Or.inl rfl | exact absurd h (by decide) | exact Or.inr ⟨by omega, by omega⟩, fun h => by first | rfl | (exfalso; omega), by decide⟩
  · exact absurd hc (by omega)
  · exact absurd hc (by omega)
theorem edge_ppzz (px py ax ay bx by' u v w z : Int) (hax : 0 < ax) (hay : 0 < ay) (hbx : bx = 0) (hby : by' = 0) (p1 : u = 0) (p2 : v = 0) (p3 : w = 0) (p4 : z = 0) : EdgeN px py ax ay bx by' (if bx < 0 ∧ ax < 0 then 0 else if ax = 0 ∧ ay = 0 then 1 else if by' = 0 ∧ ay = 0 then (if (bx ≤ 0 ∧ 0 ≤ ax) ∨ (ax ≤ 0 ∧ 0 ≤ bx) then 1 else 0) else if (0 < by' ∧ ay ≤ 0) ∨ (0 < ay ∧ by' ≤ 0) then (if v - u = 0 then 1 else if ay < by' then (if v - u < 0 then 2 else 0) else (if 0 < v - u then 2 else 0)) else 0) (if u - v = 0 ∧ w ≤ 0 ∧ z ≤ 0 then 1 else if (ax ≤ 0 ∧ 0 < bx ∧ u - v < 0) ∨ (bx ≤ 0 ∧ 0 < ax ∧ 0 < u - v) then 2 else 0) (if 0 < ax ∧ 0 < ay then 1 else 0) (if 0 < bx ∧ 0 < by' then 1 else 0) := by
  rcases Int.lt_trichotomy (u - v) 0 with hc | hc | hc
  · exact absurd hc (by omega)
  · rw [if_neg (by omega), if_neg (by omega), if_neg (by omega), if_pos (by omega), if_pos (by omega), if_pos (by omega), if_pos (by omega), if_neg (by omega)]
    exact ⟨by decide, fun h => by first | exact Or.inl rfl | exact absurd h (by decide) | exact Or.inr ⟨by omega, by omega⟩, fun h => by first | rfl | (exfalso; omega), by decide⟩
  · exact absurd hc (by omega)
theorem edge_ppzp (px py ax ay bx by' u v w z : Int) (hax : 0 < ax) (hay : 0 < ay) (hbx : bx = 0) (hby : 0 < by') (p1 : 0 < u) (p2 : v = 0) (p3 : w = 0) (p4 : 0 < z) : EdgeN px py ax ay bx by' (if bx < 0 ∧ ax < 0 then 0 else if ax = 0 ∧ ay = 0 then 1 else if by' = 0 ∧ ay = 0 then (if (bx ≤ 0 ∧ 0 ≤ ax) ∨ (ax ≤ 0 ∧ 0 ≤ bx) then 1 else 0) else if (0 < by' ∧ ay ≤ 0) ∨ (0 < ay ∧ by' ≤ 0) then (if v - u = 0 then 1 else if ay < by' then (if v - u < 0 then 2 else 0) else (if 0 < v - u then 2 else 0)) else 0) (if u - v = 0 ∧ w ≤ 0 ∧ z ≤ 0 then 1 else if (ax ≤ 0 ∧ 0 < bx ∧ u - v < 0) ∨ (bx ≤ 0 ∧ 0 < ax ∧ 0 < u - v) then 2 else 0) (if 0 < ax ∧ 0 < ay then 1 else 0) (if 0 < bx ∧ 0 < by' then 1 else 0) := by
  rcases Int.lt_trichotomy (u - v) 0 with hc | hc | hc
  · exact absurd hc (by omega)
  · exact absurd hc (by omega)
  · rw [if_neg (by omega), if_neg (by omega), if_neg (by omega), if_neg (by omega), if_neg (by omega), if_pos (by omega), if_pos (by omega), if_neg (by omega)]
    exact ⟨by decide, fun h => by first | exact Or.inl rfl | exact absurd h (by decide) | exact Or.inr ⟨by omega, by omega⟩, fun h => by first | rfl | (exfalso; omega), by decide⟩
theorem edge_pppn (px py ax ay bx by' u v w z : Int) (hax : 0 < ax) (hay : 0 < ay) (hbx : 0 < bx) (hby : by' < 0) (p1 : u < 0) (p2 : 0 < v) (p3 : 0 < w) (p4 : z < 0) : EdgeN px py ax ay bx by' (if bx < 0 ∧ ax < 0 then 0 else if ax = 0 ∧ ay = 0 then 1 else if by' = 0 ∧ ay = 0 then (if (bx ≤ 0 ∧ 0 ≤ ax) ∨ (ax ≤ 0 ∧ 0 ≤ bx) then 1 else 0) else if (0 < by' ∧ ay ≤ 0) ∨ (0 < ay ∧ by' ≤ 0) then (if v - u = 0 then 1 else if ay < by' then (if v - u < 0 then 2 else 0) else (if 0 < v - u then 2 else 0)) else 0) (if u - v = 0 ∧ w ≤ 0 ∧ z ≤ 0 then 1 else if (ax ≤ 0 ∧ 0 < bx ∧ u - v < 0) ∨ (bx ≤ 0 ∧ 0 < ax ∧ 0 < u - v) then 2 else 0) (if 0 < ax ∧ 0 < ay then 1 else 0) (if 0 < bx ∧ 0 < by' then 1 else 0) := by
  rcases Int.lt_trichotomy (u - v) 0 with hc | hc | hc
  · rw [if_neg (by omega), if_neg (by omega), if_neg (by omega), if_pos (by omega), if_neg (by omega), if_neg (by omega), if_pos (by omega), if_neg (by omega), if_neg (by omega), if_pos (by omega), if_neg (by omega)]
    exact ⟨by decide, fun h => by first | exact Or.inl rfl | exact absurd h (by decide) | exact Or.inr ⟨by omega, by omega⟩, fun h => by first | rfl | (exfalso; omega), by decide⟩
  · exact absurd hc (by omega)
  · exact absurd hc (by omega)
theorem edge_pppz (px py ax ay bx by' u v w z : Int) (hax : 0 < ax) (hay : 0 < ay) (hbx : 0 < bx) (hby : by' = 0) (p1 : u = 0) (p2 : 0 < v) (p3 : 0 < w) (p4 : z = 0) : EdgeN px py ax ay bx by' (if bx < 0 ∧ ax < 0 then 0 else if ax = 0 ∧ ay = 0 then 1 else if by' = 0 ∧ ay = 0 then (if (bx ≤ 0 ∧ 0 ≤ ax) ∨ (ax ≤ 0 ∧ 0 ≤ bx) then 1 else 0) else if (0 < by' ∧ ay ≤ 0) ∨ (0 < ay ∧ by' ≤ 0) then (if v - u = 0 then 1 else if ay < by' then (if v - u < 0 then 2 else 0) else (if 0 < v - u then 2 else 0)) else 0) (if u - v = 0 ∧ w ≤ 0 ∧ z ≤ 0 then 1 else if (ax ≤ 0 ∧ 0 < bx ∧ u - v < 0) ∨ (bx ≤ 0 ∧ 0 < ax ∧ 0 < u - v) then 2 else 0) (if 0 < ax ∧ 0 < ay then 1 else 0) (if 0 < bx ∧ 0 < by' then 1 else 0) := by
  rcases Int.lt_trichotomy (u - v) 0 with hc | hc | hc
  · rw [if_neg (by omega), if_neg (by omega), if_neg (by omega), if_pos (by omega), if_neg (by omega), if_neg (by omega), if_pos (by omega), if_neg (by omega), if_neg (by omega), if_pos (by omega), if_neg (by omega)]
    exact ⟨by decide, fun h => by first | exact Or.inl rfl | exact absurd h (by decide) | exact Or.inr ⟨by omega, by omega⟩, fun h => by first | rfl | (exfalso; omega), by decide⟩
  · exact absurd hc (by omega)
  · exact absurd hc (by omega)
theorem edge_pppp (px py ax ay bx by' u v w z : Int) (hax : 0 < ax) (hay : 0 < ay) (hbx : 0 < bx) (hby : 0 < by') (p1 : 0 < u) (p2 : 0 < v) (p3 : 0 < w) (p4 : 0 < z) : EdgeN px py ax ay bx by' (if bx < 0 ∧ ax < 0 then 0 else if ax = 0 ∧ ay = 0 then 1 else if by' = 0 ∧ ay = 0 then (if (bx ≤ 0 ∧ 0 ≤ ax) ∨ (ax ≤ 0 ∧ 0 ≤ bx) then 1 else 0) else if (0 < by' ∧ ay ≤ 0) ∨ (0 < ay ∧ by' ≤ 0) then (if v - u = 0 then 1 else if ay < by' then (if v - u < 0 then 2 else 0) else (if 0 < v - u then 2 else 0)) else 0) (if u - v = 0 ∧ w ≤ 0 ∧ z ≤ 0 then 1 else if (ax ≤ 0 ∧ 0 < bx ∧ u - v < 0) ∨ (bx ≤ 0 ∧ 0 < ax ∧ 0 < u - v) then 2 else 0) (if 0 < ax ∧ 0 < ay then 1 else 0) (if 0 < bx ∧ 0 < by' then 1 else 0) := by
  rcases Int.lt_trichotomy (u - v) 0 with hc | hc | hc
  · rw [if_neg (by omega), if_neg (by omega), if_neg (by omega), if_neg (by omega), if_neg (by omega), if_neg (by omega), if_pos (by omega), if_pos (by omega)]
    exact ⟨by decide, fun h => by first | exact Or.inl rfl | exact absurd h (by decide) | exact Or.inr ⟨by omega, by omega⟩, fun h => by first | rfl | (exfalso; omega), by decide⟩
  · rw [if_neg (by omega), if_neg (by omega), if_neg (by omega), if_neg (by omega), if_neg (by omega), if_neg (by omega), if_pos (by omega), if_pos (by omega)]
    exact ⟨by decide, fun h => by first | exact Or.inl rfl | exact absurd h (by decide) | exact Or.inr ⟨by omega, by omega⟩, fun h => by first | rfl | (exfalso; omega), by decide⟩
  · rw [if_neg (by omega), if_neg (by omega), if_neg (by omega), if_neg (by omega), if_neg (by omega), if_neg (by omega), if_pos (by omega), if_pos (by omega)]
    exact ⟨by decide, fun h => by first | exact Or.inl rfl | exact absurd h (by decide) | exact Or.inr ⟨by omega, by omega⟩, fun h => by first | rfl | (exfalso; omega), by decide⟩
theorem edge_rel (px py ax ay bx by' : Int) : Edge (px + ax) (py + ay) (px + bx) (py + by') px py := by
  unfold Edge
  rw [segR_rel, lawR_rel, fq_rel, fq_rel]
  show EdgeN px py ax ay bx by' _ _ _ _
  rcases Int.lt_trichotomy ax 0 with hax | hax | hax
  · rcases Int.lt_trichotomy ay 0 with hay | hay | hay
    · rcases Int.lt_trichotomy bx 0 with hbx | hbx | hbx
      · rcases Int.lt_trichotomy by' 0 with hby | hby | hby
        · have p1 := mnn hax hby
          have p2 := mnn hay hbx
          have p3 := mnn hax hbx
          have p4 := mnn hay hby
          exact edge_nnnn _ _ _ _ _ _ _ _ _ _ hax hay hbx hby p1 p2 p3 p4
        · have p1 : ax * by' = 0 := by rw [hby, Int.mul_zero]
          have p2 := mnn hay hbx
          have p3 := mnn hax hbx
          have p4 : ay * by' = 0 := by rw [hby, Int.mul_zero]
          exact edge_nnnz _ _ _ _ _ _ _ _ _ _ hax hay hbx hby p1 p2 p3 p4
        · have p1 := mnp hax hby
          have p2 := mnn hay hbx
          have p3 := mnn hax hbx
          have p4 := mnp hay hby
          exact edge_nnnp _ _ _ _ _ _ _ _ _ _ hax hay hbx hby p1 p2 p3 p4
      · rcases Int.lt_trichotomy by' 0 with hby | hby | hby
        · have p1 := mnn hax hby
          have p2 : ay * bx = 0 := by rw [hbx, Int.mul_zero]
          have p3 : ax * bx = 0 := by rw [hbx, Int.mul_zero]
          have p4 := mnn hay hby
          exact edge_nnzn _ _ _ _ _ _ _ _ _ _ hax hay hbx hby p1 p2 p3 p4
        · have p1 : ax * by' = 0 := by rw [hby, Int.mul_zero]
          have p2 : ay * bx = 0 := by rw [hbx, Int.mul_zero]
          have p3 : ax * bx = 0 := by rw [hbx, Int.mul_zero]
          have p4 : ay * by' = 0 := by rw [hby, Int.mul_zero]
          exact edge_nnzz _ _ _ _ _ _ _ _ _ _ hax hay hbx hby p1 p2 p3 p4
        · have p1 := mnp hax hby
          have p2 : ay * bx = 0 := by rw [hbx, Int.mul_zero]
          have p3 : ax * bx = 0 := by rw [hbx, Int.mul_zero]
          have p4 := mnp hay hby
          exact edge_nnzp _ _ _ _ _ _ _ _ _ _ hax hay hbx hby p1 p2 p3 p4
      · rcases Int.lt_trichotomy by' 0 with hby | hby | hby
        · have p1 := mnn hax hby
          have p2 := mnp hay hbx
          have p3 := mnp hax hbx
          have p4 := mnn hay hby
          exact edge_nnpn _ _ _ _ _ _ _ _ _ _ hax hay hbx hby p1 p2 p3 p4
        · have p1 : ax * by' = 0 := by rw [hby, Int.mul_zero]
          have p2 := mnp hay hbx
          have p3 := mnp hax hbx
          have p4 : ay * by' = 0 := by rw [hby, Int.mul_zero]
          exact edge_nnpz _ _ _ _ _ _ _ _ _ _ hax hay hbx hby p1 p2 p3 p4
        · have p1 := mnp hax hby
          have p2 := mnp hay hbx
          have p3 := mnp hax hbx
          have p4 := mnp hay hby
          exact edge_nnpp _ _ _ _ _ _ _ _ _ _ hax hay hbx hby p1 p2 p3 p4
    · rcases Int.lt_trichotomy bx 0 with hbx | hbx | hbx
      · rcases Int.lt_trichotomy by' 0 with hby | hby | hby
        · have p1 := mnn hax hby
          have p2 : ay * bx = 0 := by rw [hay, Int.zero_mul]
          have p3 := mnn hax hbx
          have p4 : ay * by' = 0 := by rw [hay, Int.zero_mul]
          exact edge_nznn _ _ _ _ _ _ _ _ _ _ hax hay hbx hby p1 p2 p3 p4
        · have p1 : ax * by' = 0 := by rw [hby, Int.mul_zero]
          have p2 : ay * bx = 0 := by rw [hay, Int.zero_mul]
          have p3 := mnn hax hbx
          have p4 : ay * by' = 0 := by rw [hay, Int.zero_mul]
          exact edge_nznz _ _ _ _ _ _ _ _ _ _ hax hay hbx hby p1 p2 p3 p4
        · have p1 := mnp hax hby
          have p2 : ay * bx = 0 := by rw [hay, Int.zero_mul]
          have p3 := mnn hax hbx
          have p4 : ay * by' = 0 := by rw [hay, Int.zero_mul]
          exact edge_nznp _ _ _ _ _ _ _ _ _ _ hax hay hbx hby p1 p2 p3 p4
      · rcases Int.lt_trichotomy by' 0 with hby | hby | hby
        · have p1 := mnn hax hby
          have p2 : ay * bx = 0 := by rw [hay, Int.zero_mul]
          have p3 : ax * bx = 0 := by rw [hbx, Int.mul_zero]
          have p4 : ay * by' = 0 := by rw [hay, Int.zero_mul]
          exact edge_nzzn _ _ _ _ _ _ _ _ _ _ hax hay hbx hby p1 p2 p3 p4
        · have p1 : ax * by' = 0 := by rw [hby, Int.mul_zero]
          have p2 : ay * bx = 0 := by rw [hay, Int.zero_mul]
          have p3 : ax * bx = 0 := by rw [hbx, Int.mul_zero]
          have p4 : ay * by' = 0 := by rw [hay, Int.zero_mul]
          exact edge_nzzz _ _ _ _ _ _ _ _ _ _ hax hay hbx hby p1 p2 p3 p4
        · have p1 := mnp hax hby
          have p2 : ay * bx = 0 := by rw [hay, Int.zero_mul]
          have p3 : ax * bx = 0 := by rw [hbx, Int.mul_zero]
          have p4 : ay * by' = 0 := by rw [hay, Int.zero_mul]
          exact edge_nzzp _ _ _ _ _ _ _ _ _ _ hax hay hbx hby p1 p2 p3 p4
      · rcases Int.lt_trichotomy by' 0 with hby | hby | hby
        · have p1 := mnn hax hby
          have p2 : ay * bx = 0 := by rw [hay, Int.zero_mul]
          have p3 := mnp hax hbx
          have p4 : ay * by' = 0 := by rw [hay, Int.zero_mul]
          exact edge_nzpn _ _ _ _ _ _ _ _ _ _ hax hay hbx hby p1 p2 p3 p4
        · have p1 : ax * by' = 0 := by rw [hby, Int.mul_zero]
          have p2 : ay * bx = 0 := by rw [hay, Int.zero_mul]
          have p3 := mnp hax hbx
          have p4 : ay * by' = 0 := by rw [hay, Int.zero_mul]
          exact edge_nzpz _ _ _ _ _ _ _ _ _ _ hax hay hbx hby p1 p2 p3 p4
        · have p1 := mnp hax hby
          have p2 : ay * bx = 0 := by rw [hay, Int.zero_mul]
          have p3 := mnp hax hbx
          have p4 : ay * by' = 0 := by rw [hay, Int.zero_mul]
          exact edge_nzpp _ _ _ _ _ _ _ _ _ _ hax hay hbx hby p1 p2 p3 p4
    · rcases Int.lt_trichotomy bx 0 with hbx | hbx | hbx
      · rcases Int.lt_trichotomy by' 0 with hby | hby | hby
        · have p1 := mnn hax hby
          have p2 := mpn hay hbx
          have p3 := mnn hax hbx
          have p4 := mpn hay hby
          exact edge_npnn _ _ _ _ _ _ _ _ _ _ hax hay hbx hby p1 p2 p3 p4
        · have p1 : ax * by' = 0 := by rw [hby, Int.mul_zero]
          have p2 := mpn hay hbx
          have p3 := mnn hax hbx
          have p4 : ay * by' = 0 := by rw [hby, Int.mul_zero]
          exact edge_npnz _ _ _ _ _ _ _ _ _ _ hax hay hbx hby p1 p2 p3 p4
        · have p1 := mnp hax hby
          have p2 := mpn hay hbx
          have p3 := mnn hax hbx
          have p4 := mpp hay hby
          exact edge_npnp _ _ _ _ _ _ _ _ _ _ hax hay hbx hby p1 p2 p3 p4
      · rcases Int.lt_trichotomy by' 0 with hby | hby | hby
        · have p1 := mnn hax hby
          have p2 : ay * bx = 0 := by rw [hbx, Int.mul_zero]
          have p3 : ax * bx = 0 := by rw [hbx, Int.mul_zero]
          have p4 := mpn hay hby
          exact edge_npzn _ _ _ _ _ _ _ _ _ _ hax hay hbx hby p1 p2 p3 p4
        · have p1 : ax * by' = 0 := by rw [hby, Int.mul_zero]
          have p2 : ay * bx = 0 := by rw [hbx, Int.mul_zero]
          have p3 : ax * bx = 0 := by rw [hbx, Int.mul_zero]
          have p4 : ay * by' = 0 := by rw [hby, Int.mul_zero]
          exact edge_npzz _ _ _ _ _ _ _ _ _ _ hax hay hbx hby p1 p2 p3 p4
        · have p1 := mnp hax hby
          have p2 : ay * bx = 0 := by rw [hbx, Int.mul_zero]
          have p3 : ax * bx = 0 := by rw [hbx, Int.mul_zero]
          have p4 := mpp hay hby
          exact edge_npzp _ _ _ _ _ _ _ _ _ _ hax hay hbx hby p1 p2 p3 p4
      · rcases Int.lt_trichotomy by' 0 with hby | hby | hby
        · have p1 := mnn hax hby
          have p2 := mpp hay hbx
          have p3 := mnp hax hbx
          have p4 := mpn hay hby
          exact edge_nppn _ _ _ _ _ _ _ _ _ _ hax hay hbx hby p1 p2 p3 p4
        · have p1 : ax * by' = 0 := by rw [hby, Int.mul_zero]
          have p2 := mpp hay hbx
          have p3 := mnp hax hbx
          have p4 : ay * by' = 0 := by rw [hby, Int.mul_zero]
          exact edge_nppz _ _ _ _ _ _ _ _ _ _ hax hay hbx hby p1 p2 p3 p4
        · have p1 := mnp hax hby
          have p2 := mpp hay hbx
          have p3 := mnp hax hbx
          have p4 := mpp hay hby
          exact edge_nppp _ _ _ _ _ _ _ _ _ _ hax hay hbx hby p1 p2 p3 p4
  · rcases Int.lt_trichotomy ay 0 with hay | hay | hay
    · rcases Int.lt_trichotomy bx 0 with hbx | hbx | hbx
      · rcases Int.lt_trichotomy by' 0 with hby | hby | hby
        · have p1 : ax * by' = 0 := by rw [hax, Int.zero_mul]
          have p2 := mnn hay hbx
          have p3 : ax * bx = 0 := by rw [hax, Int.zero_mul]
          have p4 := mnn hay hby
          exact edge_znnn _ _ _ _ _ _ _ _ _ _ hax hay hbx hby p1 p2 p3 p4
        · have p1 : ax * by' = 0 := by rw [hax, Int.zero_mul]
          have p2 := mnn hay hbx
          have p3 : ax * bx = 0 := by rw [hax, Int.zero_mul]
          have p4 : ay * by' = 0 := by rw [hby, Int.mul_zero]
          exact edge_znnz _ _ _ _ _ _ _ _ _ _ hax hay hbx hby p1 p2 p3 p4
        · have p1 : ax * by' = 0 := by rw [hax, Int.zero_mul]
          have p2 := mnn hay hbx
          have p3 : ax * bx = 0 := by rw [hax, Int.zero_mul]
          have p4 := mnp hay hby
          exact edge_znnp _ _ _ _ _ _ _ _ _ _ hax hay hbx hby p1 p2 p3 p4
      · rcases Int.lt_trichotomy by' 0 with hby | hby | hby
        · have p1 : ax * by' = 0 := by rw [hax, Int.zero_mul]
          have p2 : ay * bx = 0 := by rw [hbx, Int.mul_zero]
          have p3 : ax * bx = 0 := by rw [hax, Int.zero_mul]
          have p4 := mnn hay hby
          exact edge_znzn _ _ _ _ _ _ _ _ _ _ hax hay hbx hby p1 p2 p3 p4
        · have p1 : ax * by' = 0 := by rw [hax, Int.zero_mul]
          have p2 : ay * bx = 0 := by rw [hbx, Int.mul_zero]
          have p3 : ax * bx = 0 := by rw [hax, Int.zero_mul]
          have p4 : ay * by' = 0 := by rw [hby, Int.mul_zero]
          exact edge_znzz _ _ _ _ _ _ _ _ _ _ hax hay hbx hby p1 p2 p3 p4
        · have p1 : ax * by' = 0 := by rw [hax, Int.zero_mul]
          have p2 : ay * bx = 0 := by rw [hbx, Int.mul_zero]
          have p3 : ax * bx = 0 := by rw [hax, Int.zero_mul]
          have p4 := mnp hay hby
          exact edge_znzp _ _ _ _ _ _ _ _ _ _ hax hay hbx hby p1 p2 p3 p4
      · rcases Int.lt_trichotomy by' 0 with hby | hby | hby
        · have p1 : ax * by' = 0 := by rw [hax, Int.zero_mul]
          have p2 := mnp hay hbx
          have p3 : ax * bx = 0 := by rw [hax, Int.zero_mul]
          have p4 := mnn hay hby
          exact edge_znpn _ _ _ _ _ _ _ _ _ _ hax hay hbx hby p1 p2 p3 p4
        · have p1 : ax * by' = 0 := by rw [hax, Int.zero_mul]
          have p2 := mnp hay hbx
          have p3 : ax * bx = 0 := by rw [hax, Int.zero_mul]
          have p4 : ay * by' = 0 := by rw [hby, Int.mul_zero]
          exact edge_znpz _ _ _ _ _ _ _ _ _ _ hax hay hbx hby p1 p2 p3 p4
        · have p1 : ax * by' = 0 := by rw [hax, Int.zero_mul]
          have p2 := mnp hay hbx
          have p3 : ax * bx = 0 := by rw [hax, Int.zero_mul]
          have p4 := mnp hay hby
          exact edge_znpp _ _ _ _ _ _ _ _ _ _ hax hay hbx hby p1 p2 p3 p4
    · rcases Int.lt_trichotomy bx 0 with hbx | hbx | hbx
      · rcases Int.lt_trichotomy by' 0 with hby | hby | hby
        · have p1 : ax * by' = 0 := by rw [hax, Int.zero_mul]
          have p2 : ay * bx = 0 := by rw [hay, Int.zero_mul]
          have p3 : ax * bx = 0 := by rw [hax, Int.zero_mul]
          have p4 : ay * by' = 0 := by rw [hay, Int.zero_mul]
          exact edge_zznn _ _ _ _ _ _ _ _ _ _ hax hay hbx hby p1 p2 p3 p4
        · have p1 : ax * by' = 0 := by rw [hax, Int.zero_mul]
          have p2 : ay * bx = 0 := by rw [hay, Int.zero_mul]
          have p3 : ax * bx = 0 := by rw [hax, Int.zero_mul]
          have p4 : ay * by' = 0 := by rw [hay, Int.zero_mul]
          exact edge_zznz _ _ _ _ _ _ _ _ _ _ hax hay hbx hby p1 p2 p3 p4
        · have p1 : ax * by' = 0 := by rw [hax, Int.zero_mul]
          have p2 : ay * bx = 0 := by rw [hay, Int.zero_mul]
          have p3 : ax * bx = 0 := by rw [hax, Int.zero_mul]
          have p4 : ay * by' = 0 := by rw [hay, Int.zero_mul]
          exact edge_zznp _ _ _ _ _ _ _ _ _ _ hax hay hbx hby p1 p2 p3 p4
      · rcases Int.lt_trichotomy by' 0 with hby | hby | hby
        · have p1 : ax * by' = 0 := by rw [hax, Int.zero_mul]
          have p2 : ay * bx = 0 := by rw [hay, Int.zero_mul]
          have p3 : ax * bx = 0 := by rw [hax, Int.zero_mul]
          have p4 : ay * by' = 0 := by rw [hay, Int.zero_mul]
          exact edge_zzzn _ _ _ _ _ _ _ _ _ _ hax hay hbx hby p1 p2 p3 p4
        · have p1 : ax * by' = 0 := by rw [hax, Int.zero_mul]
          have p2 : ay * bx = 0 := by rw [hay, Int.zero_mul]
          have p3 : ax * bx = 0 := by rw [hax, Int.zero_mul]
          have p4 : ay * by' = 0 := by rw [hay, Int.zero_mul]
          exact edge_zzzz _ _ _ _ _ _ _ _ _ _ hax hay hbx hby p1 p2 p3 p4
        · have p1 : ax * by' = 0 := by rw [hax, Int.zero_mul]
          have p2 : ay * bx = 0 := by rw [hay, Int.zero_mul]
          have p3 : ax * bx = 0 := by rw [hax, Int.zero_mul]
          have p4 : ay * by' = 0 := by rw [hay, Int.zero_mul]
          exact edge_zzzp _ _ _ _ _ _ _ _ _ _ hax hay hbx hby p1 p2 p3 p4
      · rcases Int.lt_trichotomy by' 0 with hby | hby | hby
        · have p1 : ax * by' = 0 := by rw [hax, Int.zero_mul]
          have p2 : ay * bx = 0 := by rw [hay, Int.zero_mul]
          have p3 : ax * bx = 0 := by rw [hax, Int.zero_mul]
          have p4 : ay * by' = 0 := by rw [hay, Int.zero_mul]
          exact edge_zzpn _ _ _ _ _ _ _ _ _ _ hax hay hbx hby p1 p2 p3 p4
        · have p1 : ax * by' = 0 := by rw [hax, Int.zero_mul]
          have p2 : ay * bx = 0 := by rw [hay, Int.zero_mul]
          have p3 : ax * bx = 0 := by rw [hax, Int.zero_mul]
          have p4 : ay * by' = 0 := by rw [hay, Int.zero_mul]
          exact edge_zzpz _ _ _ _ _ _ _ _ _ _ hax hay hbx hby p1 p2 p3 p4
        · have p1 : ax * by' = 0 := by rw [hax, Int.zero_mul]
          have p2 : ay * bx = 0 := by rw [hay, Int.zero_mul]
          have p3 : ax * bx = 0 := by rw [hax, Int.zero_mul]
          have p4 : ay * by' = 0 := by rw [hay, Int.zero_mul]
          exact edge_zzpp _ _ _ _ _ _ _ _ _ _ hax hay hbx hby p1 p2 p3 p4
    · rcases Int.lt_trichotomy bx 0 with hbx | hbx | hbx
      · rcases Int.lt_trichotomy by' 0 with hby | hby | hby
        · have p1 : ax * by' = 0 := by rw [hax, Int.zero_mul]
          have p2 := mpn hay hbx
          have p3 : ax * bx = 0 := by rw [hax, Int.zero_mul]
          have p4 := mpn hay hby
          exact edge_zpnn _ _ _ _ _ _ _ _ _ _ hax hay hbx hby p1 p2 p3 p4
        · have p1 : ax * by' = 0 := by rw [hax, Int.zero_mul]
          have p2 := mpn hay hbx
          have p3 : ax * bx = 0 := by rw [hax, Int.zero_mul]
          have p4 : ay * by' = 0 := by rw [hby, Int.mul_zero]
          exact edge_zpnz _ _ _ _ _ _ _ _ _ _ hax hay hbx hby p1 p2 p3 p4
        · have p1 : ax * by' = 0 := by rw [hax, Int.zero_mul]
          have p2 := mpn hay hbx
          have p3 : ax * bx = 0 := by rw [hax, Int.zero_mul]
          have p4 := mpp hay hby
          exact edge_zpnp _ _ _ _ _ _ _ _ _ _ hax hay hbx hby p1 p2 p3 p4
      · rcases Int.lt_trichotomy by' 0 with hby | hby | hby
        · have p1 : ax * by' = 0 := by rw [hax, Int.zero_mul]
          have p2 : ay * bx = 0 := by rw [hbx, Int.mul_zero]
          have p3 : ax * bx = 0 := by rw [hax, Int.zero_mul]
          have p4 := mpn hay hby
          exact edge_zpzn _ _ _ _ _ _ _ _ _ _ hax hay hbx hby p1 p2 p3 p4
        · have p1 : ax * by' = 0 := by rw [hax, Int.zero_mul]
          have p2 : ay * bx = 0 := by rw [hbx, Int.mul_zero]
          have p3 : ax * bx = 0 := by rw [hax, Int.zero_mul]
          have p4 : ay * by' = 0 := by rw [hby, Int.mul_zero]
          exact edge_zpzz _ _ _ _ _ _ _ _ _ _ hax hay hbx hby p1 p2 p3 p4
        · have p1 : ax * by' = 0 := by rw [hax, Int.zero_mul]
          have p2 : ay * bx = 0 := by rw [hbx, Int.mul_zero]
          have p3 : ax * bx = 0 := by rw [hax, Int.zero_mul]
          have p4 := mpp hay hby
          exact edge_zpzp _ _ _ _ _ _ _ _ _ _ hax hay hbx hby p1 p2 p3 p4
      · rcases Int.lt_trichotomy by' 0 with hby | hby | hby
        · have p1 : ax * by' = 0 := by rw [hax, Int.zero_mul]
          have p2 := mpp hay hbx
          have p3 : ax * bx = 0 := by rw [hax, Int.zero_mul]
          have p4 := mpn hay hby
          exact edge_zppn _ _ _ _ _ _ _ _ _ _ hax hay hbx hby p1 p2 p3 p4
        · have p1 : ax * by' = 0 := by rw [hax, Int.zero_mul]
          have p2 := mpp hay hbx
          have p3 : ax * bx = 0 := by rw [hax, Int.zero_mul]
          have p4 : ay * by' = 0 := by rw [hby, Int.mul_zero]
          exact edge_zppz _ _ _ _ _ _ _ _ _ _ hax hay hbx hby p1 p2 p3 p4
        · have p1 : ax * by' = 0 := by rw [hax, Int.zero_mul]
          have p2 := mpp hay hbx
          have p3 : ax * bx = 0 := by rw [hax, Int.zero_mul]
          have p4 := mpp hay hby
          exact edge_zppp _ _ _ _ _ _ _ _ _ _ hax hay hbx hby p1 p2 p3 p4
  · rcases Int.lt_trichotomy ay 0 with hay | hay | hay
    · rcases Int.lt_trichotomy bx 0 with hbx | hbx | hbx
      · rcases Int.lt_trichotomy by' 0 with hby | hby | hby
        · have p1 := mpn hax hby
          have p2 := mnn hay hbx
          have p3 := mpn hax hbx
          have p4 := mnn hay hby
          exact edge_pnnn _ _ _ _ _ _ _ _ _ _ hax hay hbx hby p1 p2 p3 p4
        · have p1 : ax * by' = 0 := by rw [hby, Int.mul_zero]
          have p2 := mnn hay hbx
          have p3 := mpn hax hbx
          have p4 : ay * by' = 0 := by rw [hby, Int.mul_zero]
          exact edge_pnnz _ _ _ _ _ _ _ _ _ _ hax hay hbx hby p1 p2 p3 p4
        · have p1 := mpp hax hby
          have p2 := mnn hay hbx
          have p3 := mpn hax hbx
          have p4 := mnp hay hby
          exact edge_pnnp _ _ _ _ _ _ _ _ _ _ hax hay hbx hby p1 p2 p3 p4
      · rcases Int.lt_trichotomy by' 0 with hby | hby | hby
        · have p1 := mpn hax hby
          have p2 : ay * bx = 0 := by rw [hbx, Int.mul_zero]
          have p3 : ax * bx = 0 := by rw [hbx, Int.mul_zero]
          have p4 := mnn hay hby
          exact edge_pnzn _ _ _ _ _ _ _ _ _ _ hax hay hbx hby p1 p2 p3 p4
        · have p1 : ax * by' = 0 := by rw [hby, Int.mul_zero]
          have p2 : ay * bx = 0 := by rw [hbx, Int.mul_zero]
          have p3 : ax * bx = 0 := by rw [hbx, Int.mul_zero]
          have p4 : ay * by' = 0 := by rw [hby, Int.mul_zero]
          exact edge_pnzz _ _ _ _ _ _ _ _ _ _ hax hay hbx hby p1 p2 p3 p4
        · have p1 := mpp hax hby
          have p2 : ay * bx = 0 := by rw [hbx, Int.mul_zero]
          have p3 : ax * bx = 0 := by rw [hbx, Int.mul_zero]
          have p4 := mnp hay hby
          exact edge_pnzp _ _ _ _ _ _ _ _ _ _ hax hay hbx hby p1 p2 p3 p4
      · rcases Int.lt_trichotomy by' 0 with hby | hby | hby
        · have p1 := mpn hax hby
          have p2 := mnp hay hbx
          have p3 := mpp hax hbx
          have p4 := mnn hay hby
          exact edge_pnpn _ _ _ _ _ _ _ _ _ _ hax hay hbx hby p1 p2 p3 p4
        · have p1 : ax * by' = 0 := by rw [hby, Int.mul_zero]
          have p2 := mnp hay hbx
          have p3 := mpp hax hbx
          have p4 : ay * by' = 0 := by rw [hby, Int.mul_zero]
          exact edge_pnpz _ _ _ _ _ _ _ _ _ _ hax hay hbx hby p1 p2 p3 p4
        · have p1 := mpp hax hby
          have p2 := mnp hay hbx
          have p3 := mpp hax hbx
          have p4 := mnp hay hby
          exact edge_pnpp _ _ _ _ _ _ _ _ _ _ hax hay hbx hby p1 p2 p3 p4
    · rcases Int.lt_trichotomy bx 0 with hbx | hbx | hbx
      · rcases Int.lt_trichotomy by' 0 with hby | hby | hby
        · have p1 := mpn hax hby
          have p2 : ay * bx = 0 := by rw [hay, Int.zero_mul]
          have p3 := mpn hax hbx
          have p4 : ay * by' = 0 := by rw [hay, Int.zero_mul]
          exact edge_pznn _ _ _ _ _ _ _ _ _ _ hax hay hbx hby p1 p2 p3 p4
        · have p1 : ax * by' = 0 := by rw [hby, Int.mul_zero]
          have p2 : ay * bx = 0 := by rw [hay, Int.zero_mul]
          have p3 := mpn hax hbx
          have p4 : ay * by' = 0 := by rw [hay, Int.zero_mul]
          exact edge_pznz _ _ _ _ _ _ _ _ _ _ hax hay hbx hby p1 p2 p3 p4
        · have p1 := mpp hax hby
          have p2 : ay * bx = 0 := by rw [hay, Int.zero_mul]
          have p3 := mpn hax hbx
          have p4 : ay * by' = 0 := by rw [hay, Int.zero_mul]
          exact edge_pznp _ _ _ _ _ _ _ _ _ _ hax hay hbx hby p1 p2 p3 p4
      · rcases Int.lt_trichotomy by' 0 with hby | hby | hby
        · have p1 := mpn hax hby
          have p2 : ay * bx = 0 := by rw [hay, Int.zero_mul]
          have p3 : ax * bx = 0 := by rw [hbx, Int.mul_zero]
          have p4 : ay * by' = 0 := by rw [hay, Int.zero_mul]
          exact edge_pzzn _ _ _ _ _ _ _ _ _ _ hax hay hbx hby p1 p2 p3 p4
        · have p1 : ax * by' = 0 := by rw [hby, Int.mul_zero]
          have p2 : ay * bx = 0 := by rw [hay, Int.zero_mul]
          have p3 : ax * bx = 0 := by rw [hbx, Int.mul_zero]
          have p4 : ay * by' = 0 := by rw [hay, Int.zero_mul]
          exact edge_pzzz _ _ _ _ _ _ _ _ _ _ hax hay hbx hby p1 p2 p3 p4
        · have p1 := mpp hax hby
          have p2 : ay * bx = 0 := by rw [hay, Int.zero_mul]
          have p3 : ax * bx = 0 := by rw [hbx, Int.mul_zero]
          have p4 : ay * by' = 0 := by rw [hay, Int.zero_mul]
          exact edge_pzzp _ _ _ _ _ _ _ _ _ _ hax hay hbx hby p1 p2 p3 p4
      · rcases Int.lt_trichotomy by' 0 with hby | hby | hby
        · have p1 := mpn hax hby
          have p2 : ay * bx = 0 := by rw [hay, Int.zero_mul]
          have p3 := mpp hax hbx
          have p4 : ay * by' = 0 := by rw [hay, Int.zero_mul]
          exact edge_pzpn _ _ _ _ _ _ _ _ _ _ hax hay hbx hby p1 p2 p3 p4
        · have p1 : ax * by' = 0 := by rw [hby, Int.mul_zero]
          have p2 : ay * bx = 0 := by rw [hay, Int.zero_mul]
          have p3 := mpp hax hbx
          have p4 : ay * by' = 0 := by rw [hay, Int.zero_mul]
          exact edge_pzpz _ _ _ _ _ _ _ _ _ _ hax hay hbx hby p1 p2 p3 p4
        · have p1 := mpp hax hby
          have p2 : ay * bx = 0 := by rw [hay, Int.zero_mul]
          have p3 := mpp hax hbx
          have p4 : ay * by' = 0 := by rw [hay, Int.zero_mul]
          exact edge_pzpp _ _ _ _ _ _ _ _ _ _ hax hay hbx hby p1 p2 p3 p4
    · rcases Int.lt_trichotomy bx 0 with hbx | hbx | hbx
      · rcases Int.lt_trichotomy by' 0 with hby | hby | hby
        · have p1 := mpn hax hby
          have p2 := mpn hay hbx
          have p3 := mpn hax hbx
          have p4 := mpn hay hby
          exact edge_ppnn _ _ _ _ _ _ _ _ _ _ hax hay hbx hby p1 p2 p3 p4
        · have p1 : ax * by' = 0 := by rw [hby, Int.mul_zero]
          have p2 := mpn hay hbx
          have p3 := mpn hax hbx
          have p4 : ay * by' = 0 := by rw [hby, Int.mul_zero]
          exact edge_ppnz _ _ _ _ _ _ _ _ _ _ hax hay hbx hby p1 p2 p3 p4
        · have p1 := mpp hax hby
          have p2 := mpn hay hbx
          have p3 := mpn hax hbx
          have p4 := mpp hay hby
          exact edge_ppnp _ _ _ _ _ _ _ _ _ _ hax hay hbx hby p1 p2 p3 p4
      · rcases Int.lt_trichotomy by' 0 with hby | hby | hby
        · have p1 := mpn hax hby
          have p2 : ay * bx = 0 := by rw [hbx, Int.mul_zero]
          have p3 : ax * bx = 0 := by rw [hbx, Int.mul_zero]
          have p4 := mpn hay hby
          exact edge_ppzn _ _ _ _ _ _ _ _ _ _ hax hay hbx hby p1 p2 p3 p4
        · have p1 : ax * by' = 0 := by rw [hby, Int.mul_zero]
          have p2 : ay * bx = 0 := by rw [hbx, Int.mul_zero]
          have p3 : ax * bx = 0 := by rw [hbx, Int.mul_zero]
          have p4 : ay * by' = 0 := by rw [hby, Int.mul_zero]
          exact edge_ppzz _ _ _ _ _ _ _ _ _ _ hax hay hbx hby p1 p2 p3 p4
        · have p1 := mpp hax hby
          have p2 : ay * bx = 0 := by rw [hbx, Int.mul_zero]
          have p3 : ax * bx = 0 := by rw [hbx, Int.mul_zero]
          have p4 := mpp hay hby
          exact edge_ppzp _ _ _ _ _ _ _ _ _ _ hax hay hbx hby p1 p2 p3 p4
      · rcases Int.lt_trichotomy by' 0 with hby | hby | hby
        · have p1 := mpn hax hby
          have p2 := mpp hay hbx
          have p3 := mpp hax hbx
          have p4 := mpn hay hby
          exact edge_pppn _ _ _ _ _ _ _ _ _ _ hax hay hbx hby p1 p2 p3 p4
        · have p1 : ax * by' = 0 := by rw [hby, Int.mul_zero]
          have p2 := mpp hay hbx
          have p3 := mpp hax hbx
          have p4 : ay * by' = 0 := by rw [hby, Int.mul_zero]
          exact edge_pppz _ _ _ _ _ _ _ _ _ _ hax hay hbx hby p1 p2 p3 p4
        · have p1 := mpp hax hby
          have p2 := mpp hay hbx
          have p3 := mpp hax hbx
          have p4 := mpp hay hby
          exact edge_pppp _ _ _ _ _ _ _ _ _ _ hax hay hbx hby p1 p2 p3 p4
theorem edge_all (xa ya xb yb px py : Int) : Edge xa ya xb yb px py := by
  have h := edge_rel px py (xa - px) (ya - py) (xb - px) (yb - py)
  rw [show px + (xa - px) = xa by omega, show py + (ya - py) = ya by omega, show px + (xb - px) = xb by omega, show py + (yb - py) = yb by omega] at h
  exact h
theorem par_step {c d f0 fk fk1 s t : Nat} (h : (c + d + f0 + fk) % 2 = 0) (e : (s + t + fk + fk1) % 2 = 0) : (c + s + (d + t) + f0 + fk1) % 2 = 0 := by omega
/-- the ring's law: both answers are one -/
theorem ring_law (Qx Qy : Nat → Int) (px py : Int) {n : Nat} (hn : 0 < n) (hx : Qx n = Qx 0) (hy : Qy n = Qy 0) {r1 r2 : Int32}
    (h1 : RS (fun i => segR (Qx (i + 1)) (Qy (i + 1)) (Qx i) (Qy i) px py) n r1) (h2 : RS (fun i => lawR (Qx i) (Qy i) (Qx (i + 1)) (Qy (i + 1)) px py) n r2) : r1 = r2 := by
  have E := fun i => edge_all (Qx i) (Qy i) (Qx (i + 1)) (Qy (i + 1)) px py
  have iff : (∃ i, i < n ∧ segR (Qx (i + 1)) (Qy (i + 1)) (Qx i) (Qy i) px py = 1) ↔ (∃ i, i < n ∧ lawR (Qx i) (Qy i) (Qx (i + 1)) (Qy (i + 1)) px py = 1) := by
    constructor
    · rintro ⟨i, hi, h⟩
      exact ⟨i, hi, (E i).1 h⟩
    · rintro ⟨i, hi, h⟩
      rcases (E i).2.1 h with g | ⟨g1, g2⟩
      · exact ⟨i, hi, g⟩
      · by_cases hl : i + 1 < n
        · exact ⟨i + 1, hl, (E (i + 1)).2.2.1 ⟨g1, g2⟩⟩
        · have e : i + 1 = n := by omega
          rw [e, hx] at g1
          rw [e, hy] at g2
          exact ⟨0, hn, (E 0).2.2.1 ⟨g1, g2⟩⟩
  rcases h1 with ⟨a1, e1⟩ | ⟨a1, e1⟩ <;> rcases h2 with ⟨a2, e2⟩ | ⟨a2, e2⟩
  · have par : ∀ k, k ≤ n → (cntE (fun i => segR (Qx (i + 1)) (Qy (i + 1)) (Qx i) (Qy i) px py) 2 k + cntE (fun i => lawR (Qx i) (Qy i) (Qx (i + 1)) (Qy (i + 1)) px py) 2 k + fq (Qx 0) (Qy 0) px py + fq (Qx k) (Qy k) px py) % 2 = 0 := by
      intro k
      induction k with
      | zero =>
        intro _
        show (0 + 0 + _ + _) % 2 = 0
        omega
      | succ k ih =>
        intro hk
        exact par_step (ih (by omega)) ((E k).2.2.2 (a1 k (by omega)) (a2 k (by omega)))
    have h := par n (Nat.le_refl n)
    rw [hx, hy] at h
    rw [e1, e2]
    generalize cntE (fun i => segR (Qx (i + 1)) (Qy (i + 1)) (Qx i) (Qy i) px py) 2 n = c at *
    generalize cntE (fun i => lawR (Qx i) (Qy i) (Qx (i + 1)) (Qy (i + 1)) px py) 2 n = d at *
    have hcd : c % 2 = 1 ↔ d % 2 = 1 := by omega
    by_cases g : c % 2 = 1
    · rw [if_pos g, if_pos (hcd.mp g)]
    · rw [if_neg g, if_neg (fun q => g (hcd.mpr q))]
  · obtain ⟨i, hi, g⟩ := iff.mpr a2
    exact absurd g (a1 i hi)
  · obtain ⟨i, hi, g⟩ := iff.mp a1
    exact absurd g (a2 i hi)
  · rw [e1, e2]
end
section
/-! WALKS of the law's own small methods: get, pick, side, place: printed by wip/D-29928w/law1.py -/
theorem lgs (x y : Int64) : lg_cmp x y = sgI (x.toInt - y.toInt) := by
  unfold lg_cmp sgI
  simp only [gt_iff_lt, Int64.lt_iff_toInt_lt, ← Int64.toInt_inj]
  rcases Int.lt_trichotomy (x.toInt - y.toInt) 0 with h | h | h
  · rw [if_neg (by omega), if_neg (by omega), if_neg (by omega), if_pos h]
  · rw [if_neg (by omega), if_pos (by omega), if_neg (by omega), if_neg (by omega)]
  · rw [if_pos (by omega), if_pos h]
theorem sgI_cases (d : Int) : (d < 0 ∧ sgI d = -1) ∨ (d = 0 ∧ sgI d = 0) ∨ (0 < d ∧ sgI d = 1) := by
  unfold sgI
  rcases Int.lt_trichotomy d 0 with h | h | h
  · rw [if_neg (by omega), if_pos h]; exact Or.inl ⟨h, rfl⟩
  · rw [if_neg (by omega), if_neg (by omega)]; exact Or.inr (Or.inl ⟨h, rfl⟩)
  · rw [if_pos h]; exact Or.inr (Or.inr ⟨h, rfl⟩)
theorem sgI_le0 {d : Int} : sgI d ≤ 0 ↔ d ≤ 0 := by
  rcases sgI_cases d with ⟨h, e⟩ | ⟨h, e⟩ | ⟨h, e⟩ <;> rw [e]
  · exact ⟨fun _ => by omega, fun _ => by decide⟩
  · exact ⟨fun _ => by omega, fun _ => by decide⟩
  · exact ⟨fun q => absurd q (by decide), fun q => by omega⟩
theorem sgI_ge0 {d : Int} : 0 ≤ sgI d ↔ 0 ≤ d := by
  rcases sgI_cases d with ⟨h, e⟩ | ⟨h, e⟩ | ⟨h, e⟩ <;> rw [e]
  · exact ⟨fun q => absurd q (by decide), fun q => by omega⟩
  · exact ⟨fun _ => by omega, fun _ => by decide⟩
  · exact ⟨fun _ => by omega, fun _ => by decide⟩
theorem sgI_gt0 {d : Int} : 0 < sgI d ↔ 0 < d := by
  rcases sgI_cases d with ⟨h, e⟩ | ⟨h, e⟩ | ⟨h, e⟩ <;> rw [e]
  · exact ⟨fun q => absurd q (by decide), fun q => by omega⟩
  · exact ⟨fun q => absurd q (by decide), fun q => by omega⟩
  · exact ⟨fun _ => h, fun _ => by decide⟩
theorem sgI_lt0 {d : Int} : sgI d < 0 ↔ d < 0 := by
  rcases sgI_cases d with ⟨h, e⟩ | ⟨h, e⟩ | ⟨h, e⟩ <;> rw [e]
  · exact ⟨fun _ => h, fun _ => by decide⟩
  · exact ⟨fun q => absurd q (by decide), fun q => by omega⟩
  · exact ⟨fun q => absurd q (by decide), fun q => by omega⟩
abbrev La (cL : ClassId) (n : Nat) (f : Nat → Int64) : va_E := .inl (cL, n, .inr (.inl f))
section FXL
variable {p : Program} {l : Launch} {e : Env} {R : Room} {s : State} {m : MethodId} {args : Array Value} {below : List Frame} {meth : Method} {c : Code} {H : Heap} {locs : List Loc} {cells slots : Nat} {Q : State → Prop}
variable {cc : ByteArray} {pc : Nat} {ls : Array Slot} {rest : List Value} {D : va_G} {a : Nat} {tys : List (ClassId × FieldType)}
/-- lcmp and the branch behind it, by the numbers -/
theorem fx_lgt (hx : p.tables.exec = Jvm.exec) (hb : c.code = cc) {x y : Int64} (d1 : decode cc pc = .ok (.lcmp, 1)) {off : Int} {tgt : Nat} (d2 : decode cc (pc + 1) = .ok (.ifCond .gt off, 3)) (ht : ((pc + 1 : Nat) : Int) + off = (tgt : Int)) (kt : y.toInt < x.toInt → W p l e R s m args below meth c H locs cells slots Q (F0 m tgt ls rest)) (kf : x.toInt ≤ y.toInt → W p l e R s m args below meth c H locs cells slots Q (F0 m (pc + 1 + 3) ls rest)) : W p l e R s m args below meth c H locs cells slots Q (F0 m pc ls (.long y :: .long x :: rest)) := by
  refine W.lcmp hx hb d1 ?_
  rw [lgs]
  refine lv_if_gt hx hb d2 ht (fun h => kt ?_) (fun h => kf ?_)
  · have := sgI_gt0.mp h
    omega
  · have h2 : ¬ 0 < x.toInt - y.toInt := fun q => h (sgI_gt0.mpr q)
    omega
theorem fx_lge (hx : p.tables.exec = Jvm.exec) (hb : c.code = cc) {x y : Int64} (d1 : decode cc pc = .ok (.lcmp, 1)) {off : Int} {tgt : Nat} (d2 : decode cc (pc + 1) = .ok (.ifCond .ge off, 3)) (ht : ((pc + 1 : Nat) : Int) + off = (tgt : Int)) (kt : y.toInt ≤ x.toInt → W p l e R s m args below meth c H locs cells slots Q (F0 m tgt ls rest)) (kf : x.toInt < y.toInt → W p l e R s m args below meth c H locs cells slots Q (F0 m (pc + 1 + 3) ls rest)) : W p l e R s m args below meth c H locs cells slots Q (F0 m pc ls (.long y :: .long x :: rest)) := by
  refine W.lcmp hx hb d1 ?_
  rw [lgs]
  refine lv_if_ge hx hb d2 ht (fun h => kt ?_) (fun h => kf ?_)
  · have := sgI_ge0.mp h
    omega
  · have h2 : ¬ 0 ≤ x.toInt - y.toInt := fun q => h (sgI_ge0.mpr q)
    omega
theorem fx_lle (hx : p.tables.exec = Jvm.exec) (hb : c.code = cc) {x y : Int64} (d1 : decode cc pc = .ok (.lcmp, 1)) {off : Int} {tgt : Nat} (d2 : decode cc (pc + 1) = .ok (.ifCond .le off, 3)) (ht : ((pc + 1 : Nat) : Int) + off = (tgt : Int)) (kt : x.toInt ≤ y.toInt → W p l e R s m args below meth c H locs cells slots Q (F0 m tgt ls rest)) (kf : y.toInt < x.toInt → W p l e R s m args below meth c H locs cells slots Q (F0 m (pc + 1 + 3) ls rest)) : W p l e R s m args below meth c H locs cells slots Q (F0 m pc ls (.long y :: .long x :: rest)) := by
  refine W.lcmp hx hb d1 ?_
  rw [lgs]
  refine lv_if_le hx hb d2 ht (fun h => kt ?_) (fun h => kf ?_)
  · have := sgI_le0.mp h
    omega
  · have h2 : ¬ x.toInt - y.toInt ≤ 0 := fun q => h (sgI_le0.mpr q)
    omega
/-- a long out of an array of them -/
theorem fx_lald (hexec : p.tables.exec = Jvm.exec) (hb : c.code = cc) (hK : Kn D tys s) {cL : ClassId} {n j t0 : Nat} {f : Nat → Int64} (hP : C1 D a (La cL n f) H) (ht : tys[t0]? = some (cL, .long)) (hj : j < n) (hn : n < 2 ^ 31) {i : Int32} (hi : i = nI j) (hdg : decode cc pc = .ok (.laload, 1))
    (kk : W p l e R s m args below meth c H locs cells slots Q (F0 m (pc + 1) ls (.long (f j) :: rest))) : W p l e R s m args below meth c H locs cells slots Q (F0 m pc ls (.int i :: .ref a :: rest)) := by
  subst hi
  refine va_lald hexec hb hK.1 hP 0 t0 rfl ht (vp_in_nI hj hn) hdg ?_
  rw [nI_clamp (by omega)]
  exact kk
end FXL
theorem mul_bd {a b : Int64} (ha : Bd a) (hb : Bd b) : (a * b).toInt = a.toInt * b.toInt ∧ -288230376151711744 ≤ a.toInt * b.toInt ∧ a.toInt * b.toInt ≤ 288230376151711744 := by
  have h : (a.toInt * b.toInt).natAbs ≤ 536870912 * 536870912 := abs_mul_le (by unfold Bd B29 at ha; omega) (by unfold Bd B29 at hb; omega)
  refine ⟨t_mul (by omega) (by omega), by omega, by omega⟩
theorem side_val {ax ay bx by' cx cy : Int64} (b1 : Bd ax) (b2 : Bd ay) (b3 : Bd bx) (b4 : Bd by') (b5 : Bd cx) (b6 : Bd cy) : (ax * by' - ay * bx + bx * cy - by' * cx + cx * ay - cy * ax).toInt = C64 ax ay bx by' cx cy := by
  obtain ⟨e1, l1, u1⟩ := mul_bd b1 b4
  obtain ⟨e2, l2, u2⟩ := mul_bd b2 b3
  obtain ⟨e3, l3, u3⟩ := mul_bd b3 b6
  obtain ⟨e4, l4, u4⟩ := mul_bd b4 b5
  obtain ⟨e5, l5, u5⟩ := mul_bd b5 b2
  obtain ⟨e6, l6, u6⟩ := mul_bd b6 b1
  unfold C64 crossI
  generalize ax.toInt * by'.toInt = p1 at *
  generalize ay.toInt * bx.toInt = p2 at *
  generalize bx.toInt * cy.toInt = p3 at *
  generalize by'.toInt * cx.toInt = p4 at *
  generalize cx.toInt * ay.toInt = p5 at *
  generalize cy.toInt * ax.toInt = p6 at *
  have s1 : (ax * by' - ay * bx).toInt = p1 - p2 := by rw [t_sub] <;> rw [e1, e2] <;> omega
  have s2 : (ax * by' - ay * bx + bx * cy).toInt = p1 - p2 + p3 := by rw [t_add] <;> rw [s1, e3] <;> omega
  have s3 : (ax * by' - ay * bx + bx * cy - by' * cx).toInt = p1 - p2 + p3 - p4 := by rw [t_sub] <;> rw [s2, e4] <;> omega
  have s4 : (ax * by' - ay * bx + bx * cy - by' * cx + cx * ay).toInt = p1 - p2 + p3 - p4 + p5 := by rw [t_add] <;> rw [s3, e5] <;> omega
  rw [t_sub] <;> rw [s4, e6] <;> omega
theorem box_val {p a b : Int64} (bp : Bd p) (ba : Bd a) (bb : Bd b) : ((p - a) * (p - b)).toInt = (p.toInt - a.toInt) * (p.toInt - b.toInt) := by
  unfold Bd B29 at *
  have e1 : (p - a).toInt = p.toInt - a.toInt := t_sub (by omega) (by omega)
  have e2 : (p - b).toInt = p.toInt - b.toInt := t_sub (by omega) (by omega)
  have h : ((p.toInt - a.toInt) * (p.toInt - b.toInt)).natAbs ≤ 1073741824 * 1073741824 := abs_mul_le (by omega) (by omega)
  rw [t_mul] <;> rw [e1, e2] <;> omega
def nx (i n : Nat) : Nat := if i + 1 = n then 0 else i + 1
theorem nx_lt {i n : Nat} (h : i < n) : nx i n < n := by unfold nx; by_cases e : i + 1 = n <;> simp [e] <;> omega
/-- what the law's edge i says -/
abbrev gL (X Y : Nat → Int64) (px py : Int64) (n : Nat) : Nat → Nat := fun i => lawR (X i).toInt (Y i).toInt (X (nx i n)).toInt (Y (nx i n)).toInt px.toInt py.toInt
/-- the desk's answer is the law's -/
theorem ring_same {X Y : Nat → Int64} {px py : Int64} {n : Nat} (hn : 0 < n) {r1 r2 : Int32} (h1 : RS (gE (rg X n) (rg Y n) px py) n r1) (h2 : RS (gL X Y px py n) n r2) : r1 = r2 := by
  have ex : ∀ i, i < n → gL X Y px py n i = lawR (rg X n i).toInt (rg Y n i).toInt (rg X n (i + 1)).toInt (rg Y n (i + 1)).toInt px.toInt py.toInt := by
    intro i hi
    show lawR _ _ _ _ _ _ = _
    unfold nx
    by_cases e : i + 1 = n
    · rw [if_pos e, rg_lt hi, rg_lt hi, e, rg_n, rg_n]
    · rw [if_neg e, rg_lt hi, rg_lt hi, rg_lt (by omega), rg_lt (by omega)]
  have hc : ∀ k, k ≤ n → cntE (gL X Y px py n) 2 k = cntE (fun i => lawR (rg X n i).toInt (rg Y n i).toInt (rg X n (i + 1)).toInt (rg Y n (i + 1)).toInt px.toInt py.toInt) 2 k := by
    intro k
    induction k with
    | zero => intro _; show (0 : Nat) = 0; rfl
    | succ k ih =>
      intro hk
      show cntE _ 2 k + (if gL X Y px py n k = 2 then 1 else 0) = cntE _ 2 k + _
      rw [ih (by omega), ex k (by omega)]
  have h3 : RS (fun i => lawR (rg X n i).toInt (rg Y n i).toInt (rg X n (i + 1)).toInt (rg Y n (i + 1)).toInt px.toInt py.toInt) n r2 := by
    rcases h2 with ⟨a, b⟩ | ⟨⟨i, hi, a⟩, b⟩
    · left
      refine ⟨fun i hi h => a i hi ((ex i hi).trans h), ?_⟩
      rw [← hc n (Nat.le_refl n)]
      exact b
    · right
      exact ⟨⟨i, hi, (ex i hi).symm.trans a⟩, b⟩
  exact ring_law (fun j => (rg X n j).toInt) (fun j => (rg Y n j).toInt) px.toInt py.toInt hn (by show (rg X n n).toInt = (rg X n 0).toInt; rw [rg_n, rg_lt hn]) (by show (rg Y n n).toInt = (rg Y n 0).toInt; rw [rg_n, rg_lt hn]) h1 h3
/-- a contract's start over the script -/
def xPc (b L : Nat) (xs : Nat → Int32) (av : List Value) (sz : Nat) : Array Value → State → Prop := va_Pc av (fun U => U.heap.size = sz ∧ b < sz ∧ va_X b L xs U U.heap)
theorem xBlind {b L : Nat} {xs : Nat → Int32} {av : List Value} {sz : Nat} : FrameBlind (xPc b L xs av sz) := fun a U g mk q => ⟨q.1, q.2.1, q.2.2.1, va_X.moved (u := U) (U := U.calling g mk a) (Vm.Alike.refl U.vm) q.2.2.2⟩
theorem xS {b L : Nat} {xs : Nat → Int32} {As : List Value} {sz : Nat} {s : State} {H : Heap} (hsz : H.size = sz) (hb : b < sz) (hX : va_X b L xs s H) : PreS s H (xPc b L xs As sz) As :=
  ⟨xBlind, fun U hU hW => ⟨rfl, by rw [hU]; exact hsz, hb, by rw [hU]; exact hX.moved hW.alike⟩⟩
set_option maxHeartbeats 4000000 in
set_option maxRecDepth 100000 in
/-- get: the script's number at k, nought behind its end -/
theorem m_L_get (l : Launch) (b L k sz : Nat) (xs : Nat → Int32) (hL : L ≤ 60) (hk : k < 2 ^ 20) : Met l yX0_get (ws_ yX0_get cX0_get 2 (some .int)) ({ frames := 0, cells := 0, slots := 0, locals := 0 }) (xPc b L xs [.ref b, .int (nI k)] sz) (va_Qi (fun (r : Int32) (_ : Unit) => r = if k < L then xs k else 0) (fun _ _ => True) (Fr0 sz)) 0 0 (Fr0 sz) := by
  refine Met.ofW (cc := cX0_get) (maxL := 2) (ret := (some .int)) (by decide) rfl ?_
  intro p e s m args below meth c s₁ B hml hv
  obtain ⟨rfl, hsz, hbl, hX⟩ := hv
  have hx := B.exec
  have hb := B.bytes
  have hr := B.returns
  have hts := atoms_spec (ws := ws_ yX0_get cX0_get 2 (some .int)) B.pre
  have hts : ∀ w ∈ lw_all, w.before _ s = true := fun w h => hts w (List.mem_cons_of_mem _ h)
  have hown : s.vm.findClass RX0 = some m.cls := findClass_of_methodNamed B.named
  have hlocks := B.notSynchronized
  have hin : meth.name = yX0_get.name := (name_of_methodNamed B.named B.method).1
  subst hsz
  obtain ⟨A, hAe⟩ : ∃ A, A = Fr0 s.heap.size := ⟨_, rfl⟩
  rw [← hAe]
  have hA : ∀ q : Nat, s.heap.size ≤ q → A q := fun q h => by rw [hAe]; exact h
  have hS : va_S A s.heap s.heap [] := va_S.rf
  have hl := lv_entry ([.ref b, .int (nI k)]) (n := 2) (Nat.le_of_ble_eq_true rfl)
  rw [lg_entry_eq]
  generalize (lg_sl ([.ref b, .int (nI k)]) ++ List.replicate (2 - (lg_sl ([.ref b, .int (nI k)])).length) Slot.unset).toArray = ls at hl ⊢
  have hl : lv_has ls 2 [(0, .ref b), (1, .int (nI k))] := hl
  have hbA : ¬ A b := by rw [hAe]; exact Nat.not_le.mpr hbl
  refine lv_iload_n hx hb dX0_get_0 rfl (lv_at hl 1 rfl) ?_
  refine lv_bipush (v := 60) hx hb dX0_get_1 (by decide) ?_
  refine lv_icmp_ge (tgt := 18) hx hb dX0_get_3 (by decide) (fun c1 => ?_) (fun c1 => ?_)
  · have hk60 : 60 ≤ k := by
      rcases Nat.lt_or_ge k 60 with h | h
      · exact absurd c1 (show ¬ nI 60 ≤ nI k from nI_ge h (by decide))
      · exact h
    refine lv_iconst (v := 0) hx hb dX0_get_18 (by decide) ?_
    exact W.iret (v := 0) hx hb hr (fun t ht hW => ⟨⟨0, (), rfl, by rw [if_neg (by omega)], trivial⟩, hS.F ht⟩) hS.2.2 dX0_get_19
  · refine lv_iload_n hx hb dX0_get_6 rfl (lv_at hl 1 rfl) ?_
    refine lv_aload_n hx hb dX0_get_7 rfl (lv_at hl 0 rfl) ?_
    refine va_slen hx hb hX hbl hbA hS dX0_get_8 ?_
    refine lv_icmp_ge (tgt := 18) hx hb dX0_get_9 (by decide) (fun c2 => ?_) (fun c2 => ?_)
    · have hkL : L ≤ k := by
        rcases Nat.lt_or_ge k L with h | h
        · exact absurd c2 (show ¬ nI L ≤ nI k from nI_ge h (by omega))
        · exact h
      refine lv_iconst (v := 0) hx hb dX0_get_18 (by decide) ?_
      exact W.iret (v := 0) hx hb hr (fun t ht hW => ⟨⟨0, (), rfl, by rw [if_neg (by omega)], trivial⟩, hS.F ht⟩) hS.2.2 dX0_get_19
    · have hkL : k < L := by
        rcases Nat.lt_or_ge k L with h | h
        · exact h
        · exact absurd (show nI L ≤ nI k from nI_le h (by omega)) c2
      refine lv_aload_n hx hb dX0_get_12 rfl (lv_at hl 0 rfl) ?_
      refine lv_iload_n hx hb dX0_get_13 rfl (lv_at hl 1 rfl) ?_
      refine va_sld hx hb hX hbl hbA hS (vp_in_nI hkL (by omega)) dX0_get_14 ?_
      rw [nI_clamp (by omega)]
      refine lv_goto (tgt := 19) hx hb dX0_get_15 (by decide) ?_
      exact W.iret (v := (xs k)) hx hb hr (fun t ht hW => ⟨⟨(xs k), (), rfl, by rw [if_pos hkL], trivial⟩, hS.F ht⟩) hS.2.2 dX0_get_19
set_option maxHeartbeats 4000000 in
set_option maxRecDepth 100000 in
/-- pick -/
theorem m_L_pick (l : Launch) (D : va_G) (tys : List (ClassId × FieldType)) (i : Int32) (n sz : Nat) (hn : n ≤ 15) (hn0 : 0 < n) : Met l yX0_pick (ws_ yX0_pick cX0_pick 2 (some .int)) ({ frames := 0, cells := 0, slots := 0, locals := 0 }) (gPc D tys [.int i, .int (nI n)] sz (fun _ => True)) (va_Qi (fun (r : Int32) (_ : Unit) => r = nI (pkN i n)) (fun _ _ => True) (Fr0 sz)) 0 0 (Fr0 sz) := by
  refine Met.ofW (cc := cX0_pick) (maxL := 2) (ret := (some .int)) (by decide) rfl ?_
  intro p e s m args below meth c s₁ B hml hv
  obtain ⟨rfl, hsz, -, hK⟩ := hv
  have hx := B.exec
  have hb := B.bytes
  have hr := B.returns
  have hts := atoms_spec (ws := ws_ yX0_pick cX0_pick 2 (some .int)) B.pre
  have hts : ∀ w ∈ lw_all, w.before _ s = true := fun w h => hts w (List.mem_cons_of_mem _ h)
  have hown : s.vm.findClass RX0 = some m.cls := findClass_of_methodNamed B.named
  have hlocks := B.notSynchronized
  have hin : meth.name = yX0_pick.name := (name_of_methodNamed B.named B.method).1
  subst hsz
  obtain ⟨A, hAe⟩ : ∃ A, A = Fr0 s.heap.size := ⟨_, rfl⟩
  rw [← hAe]
  have hA : ∀ q : Nat, s.heap.size ≤ q → A q := fun q h => by rw [hAe]; exact h
  have hS : va_S A s.heap s.heap [] := va_S.rf
  have hl := lv_entry ([.int i, .int (nI n)]) (n := 2) (Nat.le_of_ble_eq_true rfl)
  rw [lg_entry_eq]
  generalize (lg_sl ([.int i, .int (nI n)]) ++ List.replicate (2 - (lg_sl ([.int i, .int (nI n)])).length) Slot.unset).toArray = ls at hl ⊢
  have hl : lv_has ls 2 [(0, .int i), (1, .int (nI n))] := hl
  refine lv_iload_n hx hb dX0_pick_0 rfl (lv_at hl 0 rfl) ?_
  refine lv_ldc hx hb hown (hts _ q194) dX0_pick_1 ?_
  refine lv_iand hx hb dX0_pick_3 ?_
  refine lv_iload_n hx hb dX0_pick_4 rfl (lv_at hl 1 rfl) ?_
  refine lv_irem hx hb dX0_pick_5 (nI_ne0 hn0 (by omega)) ?_
  rw [pkN_eq i hn0 hn]
  exact W.iret (v := (nI (pkN i n))) hx hb hr (fun t ht hW => ⟨⟨(nI (pkN i n)), (), rfl, rfl, trivial⟩, hS.F ht⟩) hS.2.2 dX0_pick_6
set_option maxHeartbeats 4000000 in
set_option maxRecDepth 100000 in
/-- side: the turn -/
theorem m_L_side (l : Launch) (D : va_G) (tys : List (ClassId × FieldType)) (ax ay bx by' cx cy : Int64) (sz : Nat) (b1 : Bd ax) (b2 : Bd ay) (b3 : Bd bx) (b4 : Bd by') (b5 : Bd cx) (b6 : Bd cy) : Met l yX0_side (ws_ yX0_side cX0_side 14 (some .int)) ({ frames := 0, cells := 0, slots := 0, locals := 0 }) (gPc D tys [.long ax, .long ay, .long bx, .long by', .long cx, .long cy] sz (fun _ => True)) (va_Qi (fun (r : Int32) (_ : Unit) => r = sgI (C64 ax ay bx by' cx cy)) (fun _ _ => True) (Fr0 sz)) 0 0 (Fr0 sz) := by
  refine Met.ofW (cc := cX0_side) (maxL := 14) (ret := (some .int)) (by decide) rfl ?_
  intro p e s m args below meth c s₁ B hml hv
  obtain ⟨rfl, hsz, -, hK⟩ := hv
  have hx := B.exec
  have hb := B.bytes
  have hr := B.returns
  have hts := atoms_spec (ws := ws_ yX0_side cX0_side 14 (some .int)) B.pre
  have hts : ∀ w ∈ lw_all, w.before _ s = true := fun w h => hts w (List.mem_cons_of_mem _ h)
  have hown : s.vm.findClass RX0 = some m.cls := findClass_of_methodNamed B.named
  have hlocks := B.notSynchronized
  have hin : meth.name = yX0_side.name := (name_of_methodNamed B.named B.method).1
  subst hsz
  obtain ⟨A, hAe⟩ : ∃ A, A = Fr0 s.heap.size := ⟨_, rfl⟩
  rw [← hAe]
  have hA : ∀ q : Nat, s.heap.size ≤ q → A q := fun q h => by rw [hAe]; exact h
  have hS : va_S A s.heap s.heap [] := va_S.rf
  have hl := lv_entry ([.long ax, .long ay, .long bx, .long by', .long cx, .long cy]) (n := 14) (Nat.le_of_ble_eq_true rfl)
  rw [lg_entry_eq]
  generalize (lg_sl ([.long ax, .long ay, .long bx, .long by', .long cx, .long cy]) ++ List.replicate (14 - (lg_sl ([.long ax, .long ay, .long bx, .long by', .long cx, .long cy])).length) Slot.unset).toArray = ls at hl ⊢
  have hl : lv_has ls 14 [(0, .long ax), (2, .long ay), (4, .long bx), (6, .long by'), (8, .long cx), (10, .long cy)] := hl
  refine lv_lload_n hx hb dX0_side_0 rfl (lv_at hl 0 rfl) ?_
  refine lv_lload hx hb dX0_side_1 (lv_at hl 3 rfl) ?_
  refine lv_lmul hx hb dX0_side_3 ?_
  refine lv_lload_n hx hb dX0_side_4 rfl (lv_at hl 1 rfl) ?_
  refine lv_lload hx hb dX0_side_5 (lv_at hl 2 rfl) ?_
  refine lv_lmul hx hb dX0_side_7 ?_
  refine lv_lsub hx hb dX0_side_8 ?_
  refine lv_lload hx hb dX0_side_9 (lv_at hl 2 rfl) ?_
  refine lv_lload hx hb dX0_side_11 (lv_at hl 5 rfl) ?_
  refine lv_lmul hx hb dX0_side_13 ?_
  refine lv_ladd hx hb dX0_side_14 ?_
  refine lv_lload hx hb dX0_side_15 (lv_at hl 3 rfl) ?_
  refine lv_lload hx hb dX0_side_17 (lv_at hl 4 rfl) ?_
  refine lv_lmul hx hb dX0_side_19 ?_
  refine lv_lsub hx hb dX0_side_20 ?_
  refine lv_lload hx hb dX0_side_21 (lv_at hl 4 rfl) ?_
  refine lv_lload_n hx hb dX0_side_23 rfl (lv_at hl 1 rfl) ?_
  refine lv_lmul hx hb dX0_side_24 ?_
  refine lv_ladd hx hb dX0_side_25 ?_
  refine lv_lload hx hb dX0_side_26 (lv_at hl 5 rfl) ?_
  refine lv_lload_n hx hb dX0_side_28 rfl (lv_at hl 0 rfl) ?_
  refine lv_lmul hx hb dX0_side_29 ?_
  refine lv_lsub hx hb dX0_side_30 ?_
  refine lv_topl (fun lx elx => ?_)
  have hD : lx.toInt = C64 ax ay bx by' cx cy := by rw [elx]; exact side_val b1 b2 b3 b4 b5 b6
  have h00 : (0 : Int64).toInt = 0 := by decide
  refine lv_lstore (lv' := [(12, .long lx), (0, .long ax), (2, .long ay), (4, .long bx), (6, .long by'), (8, .long cx), (10, .long cy)]) hx hb dX0_side_31 hl (by decide) rfl (fun ls hl => ?_)
  refine lv_lload hx hb dX0_side_33 (lv_at hl 0 rfl) ?_
  refine lv_lconst (v := 0) hx hb dX0_side_35 (by decide) ?_
  refine fx_lle (tgt := 44) hx hb dX0_side_36 dX0_side_37 (by decide) (fun c1 => ?_) (fun c1 => ?_)
  · refine lv_lload hx hb dX0_side_44 (lv_at hl 0 rfl) ?_
    refine lv_lconst (v := 0) hx hb dX0_side_46 (by decide) ?_
    refine fx_lge (tgt := 55) hx hb dX0_side_47 dX0_side_48 (by decide) (fun c2 => ?_) (fun c2 => ?_)
    · refine lv_iconst (v := 0) hx hb dX0_side_55 (by decide) ?_
      exact W.iret (v := 0) hx hb hr (fun t ht hW => ⟨⟨0, (), rfl, by unfold sgI; rw [if_neg (by omega), if_neg (by omega)], trivial⟩, hS.F ht⟩) hS.2.2 dX0_side_56
    · refine lv_iconst (v := (-1)) hx hb dX0_side_51 (by decide) ?_
      refine lv_goto (tgt := 56) hx hb dX0_side_52 (by decide) ?_
      exact W.iret (v := (-1)) hx hb hr (fun t ht hW => ⟨⟨(-1), (), rfl, by unfold sgI; rw [if_neg (by omega), if_pos (by omega)], trivial⟩, hS.F ht⟩) hS.2.2 dX0_side_56
  · refine lv_iconst (v := 1) hx hb dX0_side_40 (by decide) ?_
    refine lv_goto (tgt := 56) hx hb dX0_side_41 (by decide) ?_
    exact W.iret (v := 1) hx hb hr (fun t ht hW => ⟨⟨1, (), rfl, by unfold sgI; rw [if_pos (by omega)], trivial⟩, hS.F ht⟩) hS.2.2 dX0_side_56
set_option maxHeartbeats 4000000 in
set_option maxRecDepth 100000 in
/-- place's loop: k edges seen -/
theorem lpl_loop {p : Program} {l : Launch} {e : Env} {s : State} {m : MethodId} {below : List Frame} {meth : Method} {c : Code} {args : Array Value} {D : va_G} {tys : List (ClassId × FieldType)} {A : Nat → Prop} {ax ay n t0 t1 : Nat} {cX cY : ClassId} {X Y : Nat → Int64} {px py : Int64} {odd : Nat → Int32} (hn : n ≤ 15) (ht0 : tys[t0]? = some (cX, .long)) (ht1 : tys[t1]? = some (cY, .long)) (bX : ∀ j, j < n → Bd (X j)) (bY : ∀ j, j < n → Bd (Y j)) (bp : Bd px) (bq : Bd py) (hodd : ∀ k, odd k = if cntE (gL X Y px py n) 2 k % 2 = 1 then 1 else 0)
    (hx : p.tables.exec = Jvm.exec) (hb : c.code = cX0_place) (hr : meth.sig.returnType = some .int) (hlocks : meth.locks = false) (hml : c.maxLocals = 11) (hown : s.vm.findClass RX0 = some m.cls) (hts : ∀ w ∈ lw_all, w.before args s = true) (hAe : A = Fr0 s.heap.size) (hA : ∀ q : Nat, s.heap.size ≤ q → A q) (hK : Kn D tys s)
    (hX0 : C1 D ax (La cX 15 X) s.heap) (hY0 : C1 D ay (La cY 15 Y) s.heap) :
    ∀ (fuel k : Nat), k + fuel = n → (∀ i, i < k → (gL X Y px py n) i ≠ 1) → ∀ (H : Heap) (locs : List Loc), va_S A s.heap H locs → ∀ (ls : Array Slot), lv_has ls 11 [(0, .ref ax), (1, .ref ay), (2, .int (nI n)), (3, .long px), (5, .long py), (7, .int (odd k)), (8, .int (nI k))] →
      W p l e (headSpec (ws_ yX0_place cX0_place 11 (some .int)) ({ frames := 1, cells := 0, slots := 0, locals := 33 })).room s m args below meth c H locs 0 0 (MQ below (va_Qi (fun (r : Int32) (_ : Unit) => RS (gL X Y px py n) n r) (fun _ _ => True) A) args s 0 0 A) (F0 m 6 ls []) := by
  have oddS : ∀ k, odd (k + 1) = if (gL X Y px py n) k = 2 then (if odd k = 0 then 1 else 0) else odd k := by
    intro k
    rw [hodd, hodd]
    show (if (cntE (gL X Y px py n) 2 k + (if (gL X Y px py n) k = 2 then 1 else 0)) % 2 = 1 then (1 : Int32) else 0) = _
    by_cases h : (gL X Y px py n) k = 2
    · rw [if_pos h, if_pos h]
      by_cases g : cntE (gL X Y px py n) 2 k % 2 = 1
      · rw [if_pos g, if_neg (by omega), if_neg (by decide)]
      · rw [if_neg g, if_pos (by omega), if_pos rfl]
    · rw [if_neg h, if_neg h, Nat.add_zero]
  intro fuel
  induction fuel with
  | zero =>
    intro k hk hno H locs hS ls hl
    have hkn : k = n := by omega
    subst hkn
    refine lv_iload hx hb dX0_place_6 (lv_at hl 6 rfl) ?_
    refine lv_iload_n hx hb dX0_place_8 rfl (lv_at hl 2 rfl) ?_
    refine lv_icmp_ge (tgt := 163) hx hb dX0_place_9 (by decide) (fun c1 => ?_) (fun c1 => ?_)
    · refine lv_iload hx hb dX0_place_163 (lv_at hl 5 rfl) ?_
      refine lv_if_eq (tgt := 172) hx hb dX0_place_165 (by decide) (fun c2 => ?_) (fun c2 => ?_)
      · refine lv_iconst (v := 2) hx hb dX0_place_172 (by decide) ?_
        exact W.iret (v := 2) hx hb hr (fun t ht hW => ⟨⟨2, (), rfl, Or.inl ⟨hno, by rw [if_neg (fun h => by rw [hodd, if_pos h] at c2; exact absurd c2 (by decide))]⟩, trivial⟩, hS.F ht⟩) hS.2.2 dX0_place_173
      · refine lv_iconst (v := 0) hx hb dX0_place_168 (by decide) ?_
        refine lv_goto (tgt := 173) hx hb dX0_place_169 (by decide) ?_
        have hod : cntE (gL X Y px py k) 2 k % 2 = 1 := by
          by_cases h : cntE (gL X Y px py k) 2 k % 2 = 1
          · exact h
          · rw [hodd, if_neg h] at c2; exact absurd rfl c2
        exact W.iret (v := 0) hx hb hr (fun t ht hW => ⟨⟨0, (), rfl, Or.inl ⟨hno, by rw [if_pos hod]⟩, trivial⟩, hS.F ht⟩) hS.2.2 dX0_place_173
    · exact absurd (nI_le (Nat.le_refl _) (by omega)) c1
  | succ fuel ih =>
    intro k hk hno H locs hS ls hl
    have hkn : k < n := by omega
    have hXH := hX0.keepS hAe hS
    have hYH := hY0.keepS hAe hS
    have hnx := nx_lt hkn
    refine lv_iload hx hb dX0_place_6 (lv_at hl 6 rfl) ?_
    refine lv_iload_n hx hb dX0_place_8 rfl (lv_at hl 2 rfl) ?_
    refine lv_icmp_ge (tgt := 163) hx hb dX0_place_9 (by decide) (fun c1 => ?_) (fun c1 => ?_)
    · exact absurd c1 (nI_ge hkn (by omega))
    · refine cut (F := True) (pc := 28) (ls := ls) (st := [.int (nI (nx k n))]) (fun t28f => ?_) (fun t28 => ?_)
      · refine lv_istore (lv' := [(9, .int (nI (nx k n))), (0, .ref ax), (1, .ref ay), (2, .int (nI n)), (3, .long px), (5, .long py), (7, .int (odd k)), (8, .int (nI k))]) hx hb dX0_place_28 hl (by decide) rfl (fun ls hl => ?_)
        refine lv_aload_n hx hb dX0_place_30 rfl (lv_at hl 1 rfl) ?_
        refine lv_iload hx hb dX0_place_31 (lv_at hl 7 rfl) ?_
        refine fx_lald hx hb hK hXH ht0 (j := k) (by omega) (by decide) rfl dX0_place_33 ?_
        refine lv_aload_n hx hb dX0_place_34 rfl (lv_at hl 2 rfl) ?_
        refine lv_iload hx hb dX0_place_35 (lv_at hl 7 rfl) ?_
        refine fx_lald hx hb hK hYH ht1 (j := k) (by omega) (by decide) rfl dX0_place_37 ?_
        refine lv_aload_n hx hb dX0_place_38 rfl (lv_at hl 1 rfl) ?_
        refine lv_iload hx hb dX0_place_39 (lv_at hl 0 rfl) ?_
        refine fx_lald hx hb hK hXH ht0 (j := (nx k n)) (by omega) (by decide) rfl dX0_place_41 ?_
        refine lv_aload_n hx hb dX0_place_42 rfl (lv_at hl 2 rfl) ?_
        refine lv_iload hx hb dX0_place_43 (lv_at hl 0 rfl) ?_
        refine fx_lald hx hb hK hYH ht1 (j := (nx k n)) (by omega) (by decide) rfl dX0_place_45 ?_
        refine lv_lload_n hx hb dX0_place_46 rfl (lv_at hl 4 rfl) ?_
        refine lv_lload hx hb dX0_place_47 (lv_at hl 5 rfl) ?_
        refine va_calli (va_runS (As := [.long (X k), .long (Y k), .long (X (nx k n)), .long (Y (nx k n)), .long px, .long py]) (rest := []) ⟨hx, hb, hml, hown, hts⟩ (m_L_side l D tys (X k) (Y k) (X (nx k n)) (Y (nx k n)) px py _ (bX _ hkn) (bY _ hkn) (bX _ hnx) (bY _ hnx) bp bq) (va_cwS 6 hts (lw_S q198 q199 q5 q200) rfl rfl rfl (by decide +kernel) ⟨Nat.le_of_ble_eq_true rfl, Nat.le_of_ble_eq_true rfl⟩) (gS rfl trivial hK) rfl rfl hl.1 rfl (lv_room (Nat.le_of_ble_eq_true rfl)) dX0_place_49 ⟨Nat.le_refl 0, Nat.le_refl 0⟩) hS (fun q h1 h2 => absurd h2 (Nat.not_le.mpr h1)) (fun q h => hA q (Nat.le_trans hS.1 h)) (fun r u t H1 locs ht hvm hw hB hz hk1 hS => ?_)
        have hw : r = sgI (crossI (X k).toInt (Y k).toInt (X (nx k n)).toInt (Y (nx k n)).toInt px.toInt py.toInt) := hw
        have hXH := hX0.keepS hAe hS
        have hYH := hY0.keepS hAe hS
        unfold C64 at hw
        have h00 : (0 : Int64).toInt = 0 := by decide
        refine lv_istore (lv' := [(10, .int r), (9, .int (nI (nx k n))), (0, .ref ax), (1, .ref ay), (2, .int (nI n)), (3, .long px), (5, .long py), (7, .int (odd k)), (8, .int (nI k))]) hx hb dX0_place_52 hl (by decide) rfl (fun ls hl => ?_)
        refine cut (F := ¬ (crossI (X k).toInt (Y k).toInt (X (nx k n)).toInt (Y (nx k n)).toInt px.toInt py.toInt = 0 ∧ (px.toInt - (X k).toInt) * (px.toInt - (X (nx k n)).toInt) ≤ 0 ∧ (py.toInt - (Y k).toInt) * (py.toInt - (Y (nx k n)).toInt) ≤ 0)) (pc := 99) (ls := ls) (st := []) (fun t99f => ?_) (fun t99 => ?_)
        · have hno1 : (gL X Y px py n) k ≠ 1 := by
            show lawR _ _ _ _ _ _ ≠ 1
            unfold lawR
            rw [if_neg t99f]
            split <;> decide
          have hon := t99f
          refine cut (F := (gL X Y px py n) k = 2) (pc := 145) (ls := ls) (st := []) (fun t145f => ?_) (fun t145 => ?_)
          · refine lv_iload hx hb dX0_place_145 (lv_at hl 7 rfl) ?_
            refine lv_if_ne (tgt := 154) hx hb dX0_place_147 (by decide) (fun c10 => ?_) (fun c10 => ?_)
            · refine lv_iconst (v := 0) hx hb dX0_place_154 (by decide) ?_
              have ho : (0 : Int32) = odd (k + 1) := by rw [oddS, if_pos t145f, if_neg c10]
              rw [ho]
              refine lv_istore (lv' := [(7, .int (odd (k + 1))), (10, .int r), (9, .int (nI (nx k n))), (0, .ref ax), (1, .ref ay), (2, .int (nI n)), (3, .long px), (5, .long py), (8, .int (nI k))]) hx hb dX0_place_155 hl (by decide) rfl (fun ls hl => ?_)
              refine lv_iinc (v := nI (k + 1)) (lv' := [(8, .int (nI (k + 1))), (7, .int (odd (k + 1))), (10, .int r), (9, .int (nI (nx k n))), (0, .ref ax), (1, .ref ay), (2, .int (nI n)), (3, .long px), (5, .long py)]) hx hb dX0_place_157 hl (k := 8) rfl (nI_1 k) (by decide) rfl (fun ls hl => ?_)
              refine lv_goto (tgt := 6) hx hb dX0_place_160 (by decide) ?_
              exact ih (k + 1) (by omega) (fun i hi => by rcases Nat.lt_succ_iff_lt_or_eq.mp hi with h | h; exact hno i h; rw [h]; exact hno1) _ _ hS ls (lv_sub hl [4, 5, 6, 7, 8, 1, 0] rfl)
            · refine lv_iconst (v := 1) hx hb dX0_place_150 (by decide) ?_
              refine lv_goto (tgt := 155) hx hb dX0_place_151 (by decide) ?_
              have ho : (1 : Int32) = odd (k + 1) := by rw [oddS, if_pos t145f, if_pos c10]
              rw [ho]
              refine lv_istore (lv' := [(7, .int (odd (k + 1))), (10, .int r), (9, .int (nI (nx k n))), (0, .ref ax), (1, .ref ay), (2, .int (nI n)), (3, .long px), (5, .long py), (8, .int (nI k))]) hx hb dX0_place_155 hl (by decide) rfl (fun ls hl => ?_)
              refine lv_iinc (v := nI (k + 1)) (lv' := [(8, .int (nI (k + 1))), (7, .int (odd (k + 1))), (10, .int r), (9, .int (nI (nx k n))), (0, .ref ax), (1, .ref ay), (2, .int (nI n)), (3, .long px), (5, .long py)]) hx hb dX0_place_157 hl (k := 8) rfl (nI_1 k) (by decide) rfl (fun ls hl => ?_)
              refine lv_goto (tgt := 6) hx hb dX0_place_160 (by decide) ?_
              exact ih (k + 1) (by omega) (fun i hi => by rcases Nat.lt_succ_iff_lt_or_eq.mp hi with h | h; exact hno i h; rw [h]; exact hno1) _ _ hS ls (lv_sub hl [4, 5, 6, 7, 8, 1, 0] rfl)
          refine cut (F := ¬ ((X k).toInt ≤ px.toInt ∧ px.toInt < (X (nx k n)).toInt ∧ crossI (X k).toInt (Y k).toInt (X (nx k n)).toInt (Y (nx k n)).toInt px.toInt py.toInt < 0)) (pc := 122) (ls := ls) (st := []) (fun t122f => ?_) (fun t122 => ?_)
          · refine lv_aload_n hx hb dX0_place_122 rfl (lv_at hl 2 rfl) ?_
            refine lv_iload hx hb dX0_place_123 (lv_at hl 1 rfl) ?_
            refine fx_lald hx hb hK hXH ht0 (j := (nx k n)) (by omega) (by decide) rfl dX0_place_125 ?_
            refine lv_lload_n hx hb dX0_place_126 rfl (lv_at hl 5 rfl) ?_
            refine fx_lgt (tgt := 157) hx hb dX0_place_127 dX0_place_128 (by decide) (fun c11 => ?_) (fun c11 => ?_)
            · have hne2 : (gL X Y px py n) k ≠ 2 := by
                show lawR _ _ _ _ _ _ ≠ 2
                unfold lawR
                rw [if_neg hon, if_neg (by omega)]
                decide
              have ho : odd k = odd (k + 1) := by rw [oddS, if_neg hne2]
              rw [ho] at hl
              refine lv_iinc (v := nI (k + 1)) (lv' := [(8, .int (nI (k + 1))), (10, .int r), (9, .int (nI (nx k n))), (0, .ref ax), (1, .ref ay), (2, .int (nI n)), (3, .long px), (5, .long py), (7, .int (odd (k + 1)))]) hx hb dX0_place_157 hl (k := 8) rfl (nI_1 k) (by decide) rfl (fun ls hl => ?_)
              refine lv_goto (tgt := 6) hx hb dX0_place_160 (by decide) ?_
              exact ih (k + 1) (by omega) (fun i hi => by rcases Nat.lt_succ_iff_lt_or_eq.mp hi with h | h; exact hno i h; rw [h]; exact hno1) _ _ hS ls (lv_sub hl [3, 4, 5, 6, 7, 8, 0] rfl)
            · refine lv_lload_n hx hb dX0_place_131 rfl (lv_at hl 5 rfl) ?_
              refine lv_aload_n hx hb dX0_place_132 rfl (lv_at hl 2 rfl) ?_
              refine lv_iload hx hb dX0_place_133 (lv_at hl 8 rfl) ?_
              refine fx_lald hx hb hK hXH ht0 (j := k) (by omega) (by decide) rfl dX0_place_135 ?_
              refine fx_lge (tgt := 157) hx hb dX0_place_136 dX0_place_137 (by decide) (fun c12 => ?_) (fun c12 => ?_)
              · have hne2 : (gL X Y px py n) k ≠ 2 := by
                  show lawR _ _ _ _ _ _ ≠ 2
                  unfold lawR
                  rw [if_neg hon, if_neg (by omega)]
                  decide
                have ho : odd k = odd (k + 1) := by rw [oddS, if_neg hne2]
                rw [ho] at hl
                refine lv_iinc (v := nI (k + 1)) (lv' := [(8, .int (nI (k + 1))), (10, .int r), (9, .int (nI (nx k n))), (0, .ref ax), (1, .ref ay), (2, .int (nI n)), (3, .long px), (5, .long py), (7, .int (odd (k + 1)))]) hx hb dX0_place_157 hl (k := 8) rfl (nI_1 k) (by decide) rfl (fun ls hl => ?_)
                refine lv_goto (tgt := 6) hx hb dX0_place_160 (by decide) ?_
                exact ih (k + 1) (by omega) (fun i hi => by rcases Nat.lt_succ_iff_lt_or_eq.mp hi with h | h; exact hno i h; rw [h]; exact hno1) _ _ hS ls (lv_sub hl [3, 4, 5, 6, 7, 8, 0] rfl)
              · refine lv_iload hx hb dX0_place_140 (lv_at hl 0 rfl) ?_
                refine lv_if_le (tgt := 157) hx hb dX0_place_142 (by decide) (fun c13 => ?_) (fun c13 => ?_)
                · have hc : crossI (X k).toInt (Y k).toInt (X (nx k n)).toInt (Y (nx k n)).toInt px.toInt py.toInt ≤ 0 := sgI_le0.mp (by rw [← hw]; exact c13)
                  have hne2 : (gL X Y px py n) k ≠ 2 := by
                    show lawR _ _ _ _ _ _ ≠ 2
                    unfold lawR
                    rw [if_neg hon, if_neg (by omega)]
                    decide
                  have ho : odd k = odd (k + 1) := by rw [oddS, if_neg hne2]
                  rw [ho] at hl
                  refine lv_iinc (v := nI (k + 1)) (lv' := [(8, .int (nI (k + 1))), (10, .int r), (9, .int (nI (nx k n))), (0, .ref ax), (1, .ref ay), (2, .int (nI n)), (3, .long px), (5, .long py), (7, .int (odd (k + 1)))]) hx hb dX0_place_157 hl (k := 8) rfl (nI_1 k) (by decide) rfl (fun ls hl => ?_)
                  refine lv_goto (tgt := 6) hx hb dX0_place_160 (by decide) ?_
                  exact ih (k + 1) (by omega) (fun i hi => by rcases Nat.lt_succ_iff_lt_or_eq.mp hi with h | h; exact hno i h; rw [h]; exact hno1) _ _ hS ls (lv_sub hl [3, 4, 5, 6, 7, 8, 0] rfl)
                · have hc : ¬ crossI (X k).toInt (Y k).toInt (X (nx k n)).toInt (Y (nx k n)).toInt px.toInt py.toInt ≤ 0 := fun q => c13 (by rw [hw]; exact sgI_le0.mpr q)
                  exact t145 (by show lawR _ _ _ _ _ _ = 2; unfold lawR; rw [if_neg hon, if_pos (by omega)])
          refine lv_aload_n hx hb dX0_place_99 rfl (lv_at hl 2 rfl) ?_
          refine lv_iload hx hb dX0_place_100 (lv_at hl 8 rfl) ?_
          refine fx_lald hx hb hK hXH ht0 (j := k) (by omega) (by decide) rfl dX0_place_102 ?_
          refine lv_lload_n hx hb dX0_place_103 rfl (lv_at hl 5 rfl) ?_
          refine fx_lgt (tgt := 122) hx hb dX0_place_104 dX0_place_105 (by decide) (fun c14 => ?_) (fun c14 => ?_)
          · exact t122 (by omega)
          · refine lv_lload_n hx hb dX0_place_108 rfl (lv_at hl 5 rfl) ?_
            refine lv_aload_n hx hb dX0_place_109 rfl (lv_at hl 2 rfl) ?_
            refine lv_iload hx hb dX0_place_110 (lv_at hl 1 rfl) ?_
            refine fx_lald hx hb hK hXH ht0 (j := (nx k n)) (by omega) (by decide) rfl dX0_place_112 ?_
            refine fx_lge (tgt := 122) hx hb dX0_place_113 dX0_place_114 (by decide) (fun c15 => ?_) (fun c15 => ?_)
            · exact t122 (by omega)
            · refine lv_iload hx hb dX0_place_117 (lv_at hl 0 rfl) ?_
              refine lv_if_lt (tgt := 145) hx hb dX0_place_119 (by decide) (fun c16 => ?_) (fun c16 => ?_)
              · have hc : crossI (X k).toInt (Y k).toInt (X (nx k n)).toInt (Y (nx k n)).toInt px.toInt py.toInt < 0 := sgI_lt0.mp (by rw [← hw]; exact c16)
                exact t145 (by show lawR _ _ _ _ _ _ = 2; unfold lawR; rw [if_neg hon, if_pos (by omega)])
              · have hc : ¬ crossI (X k).toInt (Y k).toInt (X (nx k n)).toInt (Y (nx k n)).toInt px.toInt py.toInt < 0 := fun q => c16 (by rw [hw]; exact sgI_lt0.mpr q)
                exact t122 (by omega)
        refine lv_iload hx hb dX0_place_54 (lv_at hl 0 rfl) ?_
        refine lv_if_ne (tgt := 99) hx hb dX0_place_56 (by decide) (fun c3 => ?_) (fun c3 => ?_)
        · exact t99 (fun h => c3 (by rw [hw]; exact sgI_0.mpr h.1))
        · have hc0 : crossI (X k).toInt (Y k).toInt (X (nx k n)).toInt (Y (nx k n)).toInt px.toInt py.toInt = 0 := sgI_0.mp (by rw [← hw]; exact c3)
          refine lv_lload_n hx hb dX0_place_59 rfl (lv_at hl 5 rfl) ?_
          refine lv_aload_n hx hb dX0_place_60 rfl (lv_at hl 2 rfl) ?_
          refine lv_iload hx hb dX0_place_61 (lv_at hl 8 rfl) ?_
          refine fx_lald hx hb hK hXH ht0 (j := k) (by omega) (by decide) rfl dX0_place_63 ?_
          refine lv_lsub hx hb dX0_place_64 ?_
          refine lv_lload_n hx hb dX0_place_65 rfl (lv_at hl 5 rfl) ?_
          refine lv_aload_n hx hb dX0_place_66 rfl (lv_at hl 2 rfl) ?_
          refine lv_iload hx hb dX0_place_67 (lv_at hl 1 rfl) ?_
          refine fx_lald hx hb hK hXH ht0 (j := (nx k n)) (by omega) (by decide) rfl dX0_place_69 ?_
          refine lv_lsub hx hb dX0_place_70 ?_
          refine lv_lmul hx hb dX0_place_71 ?_
          refine lv_lconst (v := 0) hx hb dX0_place_72 (by decide) ?_
          refine fx_lgt (tgt := 99) hx hb dX0_place_73 dX0_place_74 (by decide) (fun c4 => ?_) (fun c4 => ?_)
          · rw [box_val bp (bX _ hkn) (bX _ hnx), h00] at c4
            exact t99 (fun h => by omega)
          · rw [box_val bp (bX _ hkn) (bX _ hnx), h00] at c4
            refine lv_lload hx hb dX0_place_77 (lv_at hl 6 rfl) ?_
            refine lv_aload_n hx hb dX0_place_79 rfl (lv_at hl 3 rfl) ?_
            refine lv_iload hx hb dX0_place_80 (lv_at hl 8 rfl) ?_
            refine fx_lald hx hb hK hYH ht1 (j := k) (by omega) (by decide) rfl dX0_place_82 ?_
            refine lv_lsub hx hb dX0_place_83 ?_
            refine lv_lload hx hb dX0_place_84 (lv_at hl 6 rfl) ?_
            refine lv_aload_n hx hb dX0_place_86 rfl (lv_at hl 3 rfl) ?_
            refine lv_iload hx hb dX0_place_87 (lv_at hl 1 rfl) ?_
            refine fx_lald hx hb hK hYH ht1 (j := (nx k n)) (by omega) (by decide) rfl dX0_place_89 ?_
            refine lv_lsub hx hb dX0_place_90 ?_
            refine lv_lmul hx hb dX0_place_91 ?_
            refine lv_lconst (v := 0) hx hb dX0_place_92 (by decide) ?_
            refine fx_lgt (tgt := 99) hx hb dX0_place_93 dX0_place_94 (by decide) (fun c5 => ?_) (fun c5 => ?_)
            · rw [box_val bq (bY _ hkn) (bY _ hnx), h00] at c5
              exact t99 (fun h => by omega)
            · rw [box_val bq (bY _ hkn) (bY _ hnx), h00] at c5
              refine lv_iconst (v := 1) hx hb dX0_place_97 (by decide) ?_
              exact W.iret (v := 1) hx hb hr (fun t ht hW => ⟨⟨1, (), rfl, Or.inr ⟨⟨k, hkn, by show lawR _ _ _ _ _ _ = 1; unfold lawR; rw [if_pos ⟨hc0, c4, c5⟩]⟩, rfl⟩, trivial⟩, hS.F ht⟩) hS.2.2 dX0_place_98
      refine lv_iload hx hb dX0_place_12 (lv_at hl 6 rfl) ?_
      refine lv_iconst (v := 1) hx hb dX0_place_14 (by decide) ?_
      refine lv_iadd hx hb dX0_place_15 ?_
      refine lv_iload_n hx hb dX0_place_16 rfl (lv_at hl 2 rfl) ?_
      refine lv_icmp_ne (tgt := 24) hx hb dX0_place_17 (by decide) (fun c2 => ?_) (fun c2 => ?_)
      · refine lv_iload hx hb dX0_place_24 (lv_at hl 6 rfl) ?_
        refine lv_iconst (v := 1) hx hb dX0_place_26 (by decide) ?_
        refine lv_iadd hx hb dX0_place_27 ?_
        have hnx2 : nI k + 1 = nI (nx k n) := by
          unfold nx
          rw [if_neg (fun h => c2 (by rw [nI_1, h])), nI_1]
        rw [hnx2]
        exact t28 trivial
      · refine lv_iconst (v := 0) hx hb dX0_place_20 (by decide) ?_
        refine lv_goto (tgt := 28) hx hb dX0_place_21 (by decide) ?_
        have hnx2 : (0 : Int32) = nI (nx k n) := by
          unfold nx
          rw [nI_1] at c2
          rw [if_pos ((nI_eq (by omega) (by omega)).mp c2)]
          rfl
        rw [hnx2]
        exact t28 trivial
set_option maxHeartbeats 4000000 in
set_option maxRecDepth 100000 in
/-- place -/
theorem m_L_place (l : Launch) (D : va_G) (tys : List (ClassId × FieldType)) (ax ay n t0 t1 sz : Nat) (cX cY : ClassId) (X Y : Nat → Int64) (px py : Int64) (hn : n ≤ 15) (ht0 : tys[t0]? = some (cX, .long)) (ht1 : tys[t1]? = some (cY, .long)) (bX : ∀ j, j < n → Bd (X j)) (bY : ∀ j, j < n → Bd (Y j)) (bp : Bd px) (bq : Bd py) : Met l yX0_place (ws_ yX0_place cX0_place 11 (some .int)) ({ frames := 1, cells := 0, slots := 0, locals := 33 }) (gPc D tys [.ref ax, .ref ay, .int (nI n), .long px, .long py] sz (fun H => C1 D ax (La cX 15 X) H ∧ C1 D ay (La cY 15 Y) H)) (va_Qi (fun (r : Int32) (_ : Unit) => RS (gL X Y px py n) n r) (fun _ _ => True) (Fr0 sz)) 0 0 (Fr0 sz) := by
  refine Met.ofW (cc := cX0_place) (maxL := 11) (ret := (some .int)) (by decide) rfl ?_
  intro p e s m args below meth c s₁ B hml hv
  obtain ⟨rfl, hsz, ⟨hX0, hY0⟩, hK⟩ := hv
  have hx := B.exec
  have hb := B.bytes
  have hr := B.returns
  have hts := atoms_spec (ws := ws_ yX0_place cX0_place 11 (some .int)) B.pre
  have hts : ∀ w ∈ lw_all, w.before _ s = true := fun w h => hts w (List.mem_cons_of_mem _ h)
  have hown : s.vm.findClass RX0 = some m.cls := findClass_of_methodNamed B.named
  have hlocks := B.notSynchronized
  have hin : meth.name = yX0_place.name := (name_of_methodNamed B.named B.method).1
  subst hsz
  obtain ⟨A, hAe⟩ : ∃ A, A = Fr0 s.heap.size := ⟨_, rfl⟩
  rw [← hAe]
  have hA : ∀ q : Nat, s.heap.size ≤ q → A q := fun q h => by rw [hAe]; exact h
  have hS : va_S A s.heap s.heap [] := va_S.rf
  have hl := lv_entry ([.ref ax, .ref ay, .int (nI n), .long px, .long py]) (n := 11) (Nat.le_of_ble_eq_true rfl)
  rw [lg_entry_eq]
  generalize (lg_sl ([.ref ax, .ref ay, .int (nI n), .long px, .long py]) ++ List.replicate (11 - (lg_sl ([.ref ax, .ref ay, .int (nI n), .long px, .long py])).length) Slot.unset).toArray = ls at hl ⊢
  have hl : lv_has ls 11 [(0, .ref ax), (1, .ref ay), (2, .int (nI n)), (3, .long px), (5, .long py)] := hl
  refine lv_iconst (v := 0) hx hb dX0_place_0 (by decide) ?_
  refine lv_istore (lv' := [(7, .int 0), (0, .ref ax), (1, .ref ay), (2, .int (nI n)), (3, .long px), (5, .long py)]) hx hb dX0_place_1 hl (by decide) rfl (fun ls hl => ?_)
  refine lv_iconst (v := 0) hx hb dX0_place_3 (by decide) ?_
  refine lv_istore (lv' := [(8, .int 0), (7, .int 0), (0, .ref ax), (1, .ref ay), (2, .int (nI n)), (3, .long px), (5, .long py)]) hx hb dX0_place_4 hl (by decide) rfl (fun ls hl => ?_)
  exact lpl_loop (odd := fun k => if cntE (gL X Y px py n) 2 k % 2 = 1 then 1 else 0) hn ht0 ht1 bX bY bp bq (fun k => rfl) hx hb hr hlocks hml hown hts hAe hA hK hX0 hY0 n 0 (by omega) (fun i hi => absurd hi (Nat.not_lt_zero i)) _ _ hS ls (lv_sub hl [2, 3, 4, 5, 6, 1, 0] rfl)
end
section
/-! WALKS of the law's turnHolds and ownHolds: printed by wip/D-29928w/law2.py -/
set_option maxHeartbeats 4000000 in
set_option maxRecDepth 100000 in
/-- turnHolds: it does -/
theorem m_L_turnHolds (l : Launch) (D : va_G) (tys : List (ClassId × FieldType)) (h0 pa ax ay sz n t0 tx ty : Nat) (dA cX cY : ClassId) (f : Nat → Option Nat) (ad : Nat → Nat) (X Y : Nat → Int64) (i j k : Int32) (hn : n ≤ 15) (ht0 : tys[t0]? = some (dA, .object "Coordinate")) (htx : tys[tx]? = some (cX, .long)) (hty : tys[ty]? = some (cY, .long)) (hf : ∀ j, j < n → f j = some (ad j)) (bX : ∀ j, j < n → Bd (X j)) (bY : ∀ j, j < n → Bd (Y j)) : Met l yX0_turnHolds (ws_ yX0_turnHolds cX0_turnHolds 11 (some .boolean)) ({ frames := 7, cells := 4, slots := 8, locals := 168 }) (gPc D tys [.ref h0, .ref ax, .ref ay, .int (nI n), .int i, .int j, .int k] sz (fun H => (C1 D h0 (Dk pa (nI n)) H ∧ C1 D pa (Ar dA 16 f) H ∧ ∀ j, j < n → C1 D (ad j) (Co (X j) (Y j)) H) ∧ C1 D ax (La cX 15 X) H ∧ C1 D ay (La cY 15 Y) H)) (va_Qi (fun (r : Int32) (_ : Unit) => r = 1) (fun _ _ => True) (Fr0 sz)) 4 8 (Fr0 sz) := by
  refine Met.ofW (cc := cX0_turnHolds) (maxL := 11) (ret := (some .boolean)) (by decide) rfl ?_
  intro p e s m args below meth c s₁ B hml hv
  obtain ⟨rfl, hsz, ⟨⟨hP0, hPa0, hC0⟩, hX0, hY0⟩, hK⟩ := hv
  have hx := B.exec
  have hb := B.bytes
  have hr := B.returns
  have hts := atoms_spec (ws := ws_ yX0_turnHolds cX0_turnHolds 11 (some .boolean)) B.pre
  have hts : ∀ w ∈ lw_all, w.before _ s = true := fun w h => hts w (List.mem_cons_of_mem _ h)
  have hown : s.vm.findClass RX0 = some m.cls := findClass_of_methodNamed B.named
  have hlocks := B.notSynchronized
  have hin : meth.name = yX0_turnHolds.name := (name_of_methodNamed B.named B.method).1
  subst hsz
  obtain ⟨A, hAe⟩ : ∃ A, A = Fr0 s.heap.size := ⟨_, rfl⟩
  rw [← hAe]
  have hA : ∀ q : Nat, s.heap.size ≤ q → A q := fun q h => by rw [hAe]; exact h
  have hS : va_S A s.heap s.heap [] := va_S.rf
  have hl := lv_entry ([.ref h0, .ref ax, .ref ay, .int (nI n), .int i, .int j, .int k]) (n := 11) (Nat.le_of_ble_eq_true rfl)
  rw [lg_entry_eq]
  generalize (lg_sl ([.ref h0, .ref ax, .ref ay, .int (nI n), .int i, .int j, .int k]) ++ List.replicate (11 - (lg_sl ([.ref h0, .ref ax, .ref ay, .int (nI n), .int i, .int j, .int k])).length) Slot.unset).toArray = ls at hl ⊢
  have hl : lv_has ls 11 [(0, .ref h0), (1, .ref ax), (2, .ref ay), (3, .int (nI n)), (4, .int i), (5, .int j), (6, .int k)] := hl
  refine lv_bipush (v := (-9)) hx hb dX0_turnHolds_0 (by decide) ?_
  refine lv_istore (lv' := [(7, .int (-9)), (0, .ref h0), (1, .ref ax), (2, .ref ay), (3, .int (nI n)), (4, .int i), (5, .int j), (6, .int k)]) hx hb dX0_turnHolds_2 hl (by decide) rfl (fun ls hl => ?_)
  refine lv_iload_n hx hb dX0_turnHolds_4 rfl (lv_at hl 4 rfl) ?_
  refine lv_if_le (tgt := 61) hx hb dX0_turnHolds_5 (by decide) (fun c1 => ?_) (fun c1 => ?_)
  · have hn0 : n = 0 := by
      rcases Nat.eq_zero_or_pos n with h | h
      · exact h
      · exact absurd c1 (nI_nle h (by omega))
    have hP := hP0.keepS hAe hS
    have hPa := hPa0.keepS hAe hS
    have hC := fun j hj => (hC0 j hj).keepS hAe hS
    have hXH := hX0.keepS hAe hS
    have hYH := hY0.keepS hAe hS
    refine lv_aload_n hx hb dX0_turnHolds_61 rfl (lv_at hl 1 rfl) ?_
    refine lv_iload hx hb dX0_turnHolds_62 (lv_at hl 5 rfl) ?_
    refine lv_iload hx hb dX0_turnHolds_64 (lv_at hl 6 rfl) ?_
    refine lv_iload hx hb dX0_turnHolds_66 (lv_at hl 7 rfl) ?_
    refine va_calli (va_runV (As := [.int i, .int j, .int k]) (rest := []) ⟨hx, hb, hml, hown, hts⟩ (m_TD_turn l D tys h0 pa _ n t0 dA f ad X Y i j k hn ht0 hf bX bY) (cwV 3 hts (lw_V q76 q77 q78 q6 q79) rfl rfl rfl (by decide +kernel) ⟨Nat.le_of_ble_eq_true rfl, Nat.le_of_ble_eq_true rfl⟩) (gV (va_recv hK.1 hP (ci := 0) (q0 := 0) rfl rfl) rfl ⟨hP, hPa, hC⟩ hK) rfl rfl hl.1 rfl (lv_room (Nat.le_of_ble_eq_true rfl)) dX0_turnHolds_68 ⟨Nat.le_of_ble_eq_true rfl, Nat.le_of_ble_eq_true rfl⟩) hS (fun q h1 h2 => absurd h2 (Nat.not_le.mpr h1)) (fun q h => hA q (Nat.le_trans hS.1 h)) (fun r9 u t H9 locs ht hvm hw9 hB hz hk1 hS => ?_)
    refine lv_iload hx hb dX0_turnHolds_71 (lv_at hl 0 rfl) ?_
    refine lv_icmp_ne (tgt := 80) hx hb dX0_turnHolds_73 (by decide) (fun c9 => ?_) (fun c9 => ?_)
    · exact absurd (by rw [hw9, if_pos hn0]) c9
    · refine lv_iconst (v := 1) hx hb dX0_turnHolds_76 (by decide) ?_
      refine lv_goto (tgt := 81) hx hb dX0_turnHolds_77 (by decide) ?_
      exact W.zret (v := 1) hx hb hr rfl (fun t ht hW => ⟨⟨1, (), rfl, rfl, trivial⟩, hS.F ht⟩) hS.2.2 dX0_turnHolds_81
  · have hn0 : 0 < n := by
      rcases Nat.eq_zero_or_pos n with h | h
      · exact absurd (by rw [h]; decide) c1
      · exact h
    refine lv_iload hx hb dX0_turnHolds_8 (lv_at hl 5 rfl) ?_
    refine lv_iload_n hx hb dX0_turnHolds_10 rfl (lv_at hl 4 rfl) ?_
    refine va_calli (va_runS (As := [.int i, .int (nI n)]) (rest := []) ⟨hx, hb, hml, hown, hts⟩ (m_L_pick l D tys i n _ hn hn0) (va_cwS 2 hts (lw_S q191 q192 q5 q193) rfl rfl rfl (by decide +kernel) ⟨Nat.le_of_ble_eq_true rfl, Nat.le_of_ble_eq_true rfl⟩) (gS rfl trivial hK) rfl rfl hl.1 rfl (lv_room (Nat.le_of_ble_eq_true rfl)) dX0_turnHolds_11 ⟨Nat.le_of_ble_eq_true rfl, Nat.le_of_ble_eq_true rfl⟩) hS (fun q h1 h2 => absurd h2 (Nat.not_le.mpr h1)) (fun q h => hA q (Nat.le_trans hS.1 h)) (fun r1 u t H1 locs ht hvm hw hB hz hk1 hS => ?_)
    have hw : r1 = nI (pkN i n) := hw
    rw [hw]
    refine lv_istore (lv' := [(8, .int (nI (pkN i n))), (7, .int (-9)), (0, .ref h0), (1, .ref ax), (2, .ref ay), (3, .int (nI n)), (4, .int i), (5, .int j), (6, .int k)]) hx hb dX0_turnHolds_14 hl (by decide) rfl (fun ls hl => ?_)
    refine lv_iload hx hb dX0_turnHolds_16 (lv_at hl 7 rfl) ?_
    refine lv_iload_n hx hb dX0_turnHolds_18 rfl (lv_at hl 5 rfl) ?_
    refine va_calli (va_runS (As := [.int j, .int (nI n)]) (rest := []) ⟨hx, hb, hml, hown, hts⟩ (m_L_pick l D tys j n _ hn hn0) (va_cwS 2 hts (lw_S q191 q192 q5 q193) rfl rfl rfl (by decide +kernel) ⟨Nat.le_of_ble_eq_true rfl, Nat.le_of_ble_eq_true rfl⟩) (gS rfl trivial hK) rfl rfl hl.1 rfl (lv_room (Nat.le_of_ble_eq_true rfl)) dX0_turnHolds_19 ⟨Nat.le_of_ble_eq_true rfl, Nat.le_of_ble_eq_true rfl⟩) hS (fun q h1 h2 => absurd h2 (Nat.not_le.mpr h1)) (fun q h => hA q (Nat.le_trans hS.1 h)) (fun r2 u t H2 locs ht hvm hw hB hz hk1 hS => ?_)
    have hw : r2 = nI (pkN j n) := hw
    rw [hw]
    refine lv_istore (lv' := [(9, .int (nI (pkN j n))), (8, .int (nI (pkN i n))), (7, .int (-9)), (0, .ref h0), (1, .ref ax), (2, .ref ay), (3, .int (nI n)), (4, .int i), (5, .int j), (6, .int k)]) hx hb dX0_turnHolds_22 hl (by decide) rfl (fun ls hl => ?_)
    refine lv_iload hx hb dX0_turnHolds_24 (lv_at hl 9 rfl) ?_
    refine lv_iload_n hx hb dX0_turnHolds_26 rfl (lv_at hl 6 rfl) ?_
    refine va_calli (va_runS (As := [.int k, .int (nI n)]) (rest := []) ⟨hx, hb, hml, hown, hts⟩ (m_L_pick l D tys k n _ hn hn0) (va_cwS 2 hts (lw_S q191 q192 q5 q193) rfl rfl rfl (by decide +kernel) ⟨Nat.le_of_ble_eq_true rfl, Nat.le_of_ble_eq_true rfl⟩) (gS rfl trivial hK) rfl rfl hl.1 rfl (lv_room (Nat.le_of_ble_eq_true rfl)) dX0_turnHolds_27 ⟨Nat.le_of_ble_eq_true rfl, Nat.le_of_ble_eq_true rfl⟩) hS (fun q h1 h2 => absurd h2 (Nat.not_le.mpr h1)) (fun q h => hA q (Nat.le_trans hS.1 h)) (fun r3 u t H3 locs ht hvm hw hB hz hk1 hS => ?_)
    have hw : r3 = nI (pkN k n) := hw
    rw [hw]
    refine lv_istore (lv' := [(10, .int (nI (pkN k n))), (9, .int (nI (pkN j n))), (8, .int (nI (pkN i n))), (7, .int (-9)), (0, .ref h0), (1, .ref ax), (2, .ref ay), (3, .int (nI n)), (4, .int i), (5, .int j), (6, .int k)]) hx hb dX0_turnHolds_30 hl (by decide) rfl (fun ls hl => ?_)
    have hP := hP0.keepS hAe hS
    have hPa := hPa0.keepS hAe hS
    have hC := fun j hj => (hC0 j hj).keepS hAe hS
    have hXH := hX0.keepS hAe hS
    have hYH := hY0.keepS hAe hS
    refine lv_aload_n hx hb dX0_turnHolds_32 rfl (lv_at hl 5 rfl) ?_
    refine lv_iload hx hb dX0_turnHolds_33 (lv_at hl 2 rfl) ?_
    refine fx_lald hx hb hK hXH htx (j := pkN i n) (Nat.lt_of_lt_of_le (pkN_lt i hn0) hn) (by decide) rfl dX0_turnHolds_35 ?_
    refine lv_aload_n hx hb dX0_turnHolds_36 rfl (lv_at hl 6 rfl) ?_
    refine lv_iload hx hb dX0_turnHolds_37 (lv_at hl 2 rfl) ?_
    refine fx_lald hx hb hK hYH hty (j := pkN i n) (Nat.lt_of_lt_of_le (pkN_lt i hn0) hn) (by decide) rfl dX0_turnHolds_39 ?_
    refine lv_aload_n hx hb dX0_turnHolds_40 rfl (lv_at hl 5 rfl) ?_
    refine lv_iload hx hb dX0_turnHolds_41 (lv_at hl 1 rfl) ?_
    refine fx_lald hx hb hK hXH htx (j := pkN j n) (Nat.lt_of_lt_of_le (pkN_lt j hn0) hn) (by decide) rfl dX0_turnHolds_43 ?_
    refine lv_aload_n hx hb dX0_turnHolds_44 rfl (lv_at hl 6 rfl) ?_
    refine lv_iload hx hb dX0_turnHolds_45 (lv_at hl 1 rfl) ?_
    refine fx_lald hx hb hK hYH hty (j := pkN j n) (Nat.lt_of_lt_of_le (pkN_lt j hn0) hn) (by decide) rfl dX0_turnHolds_47 ?_
    refine lv_aload_n hx hb dX0_turnHolds_48 rfl (lv_at hl 5 rfl) ?_
    refine lv_iload hx hb dX0_turnHolds_49 (lv_at hl 0 rfl) ?_
    refine fx_lald hx hb hK hXH htx (j := pkN k n) (Nat.lt_of_lt_of_le (pkN_lt k hn0) hn) (by decide) rfl dX0_turnHolds_51 ?_
    refine lv_aload_n hx hb dX0_turnHolds_52 rfl (lv_at hl 6 rfl) ?_
    refine lv_iload hx hb dX0_turnHolds_53 (lv_at hl 0 rfl) ?_
    refine fx_lald hx hb hK hYH hty (j := pkN k n) (Nat.lt_of_lt_of_le (pkN_lt k hn0) hn) (by decide) rfl dX0_turnHolds_55 ?_
    refine va_calli (va_runS (As := [.long (X (pkN i n)), .long (Y (pkN i n)), .long (X (pkN j n)), .long (Y (pkN j n)), .long (X (pkN k n)), .long (Y (pkN k n))]) (rest := []) ⟨hx, hb, hml, hown, hts⟩ (m_L_side l D tys (X (pkN i n)) (Y (pkN i n)) (X (pkN j n)) (Y (pkN j n)) (X (pkN k n)) (Y (pkN k n)) _ (bX _ (pkN_lt i hn0)) (bY _ (pkN_lt i hn0)) (bX _ (pkN_lt j hn0)) (bY _ (pkN_lt j hn0)) (bX _ (pkN_lt k hn0)) (bY _ (pkN_lt k hn0))) (va_cwS 6 hts (lw_S q198 q199 q5 q200) rfl rfl rfl (by decide +kernel) ⟨Nat.le_of_ble_eq_true rfl, Nat.le_of_ble_eq_true rfl⟩) (gS rfl trivial hK) rfl rfl hl.1 rfl (lv_room (Nat.le_of_ble_eq_true rfl)) dX0_turnHolds_56 ⟨Nat.le_of_ble_eq_true rfl, Nat.le_of_ble_eq_true rfl⟩) hS (fun q h1 h2 => absurd h2 (Nat.not_le.mpr h1)) (fun q h => hA q (Nat.le_trans hS.1 h)) (fun r4 u t H4 locs ht hvm hw4 hB hz hk1 hS => ?_)
    refine lv_istore (lv' := [(7, .int r4), (10, .int (nI (pkN k n))), (9, .int (nI (pkN j n))), (8, .int (nI (pkN i n))), (0, .ref h0), (1, .ref ax), (2, .ref ay), (3, .int (nI n)), (4, .int i), (5, .int j), (6, .int k)]) hx hb dX0_turnHolds_59 hl (by decide) rfl (fun ls hl => ?_)
    have hw4 : r4 = sgI (C64 (X (pkN i n)) (Y (pkN i n)) (X (pkN j n)) (Y (pkN j n)) (X (pkN k n)) (Y (pkN k n))) := hw4
    have hP := hP0.keepS hAe hS
    have hPa := hPa0.keepS hAe hS
    have hC := fun j hj => (hC0 j hj).keepS hAe hS
    have hXH := hX0.keepS hAe hS
    have hYH := hY0.keepS hAe hS
    refine lv_aload_n hx hb dX0_turnHolds_61 rfl (lv_at hl 4 rfl) ?_
    refine lv_iload hx hb dX0_turnHolds_62 (lv_at hl 8 rfl) ?_
    refine lv_iload hx hb dX0_turnHolds_64 (lv_at hl 9 rfl) ?_
    refine lv_iload hx hb dX0_turnHolds_66 (lv_at hl 10 rfl) ?_
    refine va_calli (va_runV (As := [.int i, .int j, .int k]) (rest := []) ⟨hx, hb, hml, hown, hts⟩ (m_TD_turn l D tys h0 pa _ n t0 dA f ad X Y i j k hn ht0 hf bX bY) (cwV 3 hts (lw_V q76 q77 q78 q6 q79) rfl rfl rfl (by decide +kernel) ⟨Nat.le_of_ble_eq_true rfl, Nat.le_of_ble_eq_true rfl⟩) (gV (va_recv hK.1 hP (ci := 0) (q0 := 0) rfl rfl) rfl ⟨hP, hPa, hC⟩ hK) rfl rfl hl.1 rfl (lv_room (Nat.le_of_ble_eq_true rfl)) dX0_turnHolds_68 ⟨Nat.le_of_ble_eq_true rfl, Nat.le_of_ble_eq_true rfl⟩) hS (fun q h1 h2 => absurd h2 (Nat.not_le.mpr h1)) (fun q h => hA q (Nat.le_trans hS.1 h)) (fun r9 u t H9 locs ht hvm hw9 hB hz hk1 hS => ?_)
    refine lv_iload hx hb dX0_turnHolds_71 (lv_at hl 0 rfl) ?_
    refine lv_icmp_ne (tgt := 80) hx hb dX0_turnHolds_73 (by decide) (fun c9 => ?_) (fun c9 => ?_)
    · exact absurd (by rw [hw9, if_neg (Nat.ne_of_gt hn0), hw4]) c9
    · refine lv_iconst (v := 1) hx hb dX0_turnHolds_76 (by decide) ?_
      refine lv_goto (tgt := 81) hx hb dX0_turnHolds_77 (by decide) ?_
      exact W.zret (v := 1) hx hb hr rfl (fun t ht hW => ⟨⟨1, (), rfl, rfl, trivial⟩, hS.F ht⟩) hS.2.2 dX0_turnHolds_81
set_option maxHeartbeats 4000000 in
set_option maxRecDepth 100000 in
/-- ownHolds: it does -/
theorem m_L_ownHolds (l : Launch) (D : va_G) (tys : List (ClassId × FieldType)) (h0 pa ax ay sz n t0 tx ty : Nat) (dA cX cY : ClassId) (f : Nat → Option Nat) (ad : Nat → Nat) (X Y : Nat → Int64) (i j : Int32) (hn : n ≤ 15) (ht0 : tys[t0]? = some (dA, .object "Coordinate")) (htx : tys[tx]? = some (cX, .long)) (hty : tys[ty]? = some (cY, .long)) (hf : ∀ j, j < n → f j = some (ad j)) (bX : ∀ j, j < n → Bd (X j)) (bY : ∀ j, j < n → Bd (Y j)) : Met l yX0_ownHolds (ws_ yX0_ownHolds cX0_ownHolds 9 (some .boolean)) ({ frames := 10, cells := 63, slots := 142, locals := 243 }) (gPc D tys [.ref h0, .ref ax, .ref ay, .int (nI n), .int i, .int j] sz (fun H => (C1 D h0 (Dk pa (nI n)) H ∧ C1 D pa (Ar dA 16 f) H ∧ ∀ j, j < n → C1 D (ad j) (Co (X j) (Y j)) H) ∧ C1 D ax (La cX 15 X) H ∧ C1 D ay (La cY 15 Y) H)) (va_Qi (fun (r : Int32) (_ : Unit) => r = 1) (fun _ _ => True) (Fr0 sz)) 63 142 (Fr0 sz) := by
  refine Met.ofW (cc := cX0_ownHolds) (maxL := 9) (ret := (some .boolean)) (by decide) rfl ?_
  intro p e s m args below meth c s₁ B hml hv
  obtain ⟨rfl, hsz, ⟨⟨hP0, hPa0, hC0⟩, hX0, hY0⟩, hK⟩ := hv
  have hx := B.exec
  have hb := B.bytes
  have hr := B.returns
  have hts := atoms_spec (ws := ws_ yX0_ownHolds cX0_ownHolds 9 (some .boolean)) B.pre
  have hts : ∀ w ∈ lw_all, w.before _ s = true := fun w h => hts w (List.mem_cons_of_mem _ h)
  have hown : s.vm.findClass RX0 = some m.cls := findClass_of_methodNamed B.named
  have hlocks := B.notSynchronized
  have hin : meth.name = yX0_ownHolds.name := (name_of_methodNamed B.named B.method).1
  subst hsz
  obtain ⟨A, hAe⟩ : ∃ A, A = Fr0 s.heap.size := ⟨_, rfl⟩
  rw [← hAe]
  have hA : ∀ q : Nat, s.heap.size ≤ q → A q := fun q h => by rw [hAe]; exact h
  have hS : va_S A s.heap s.heap [] := va_S.rf
  have hl := lv_entry ([.ref h0, .ref ax, .ref ay, .int (nI n), .int i, .int j]) (n := 9) (Nat.le_of_ble_eq_true rfl)
  rw [lg_entry_eq]
  generalize (lg_sl ([.ref h0, .ref ax, .ref ay, .int (nI n), .int i, .int j]) ++ List.replicate (9 - (lg_sl ([.ref h0, .ref ax, .ref ay, .int (nI n), .int i, .int j])).length) Slot.unset).toArray = ls at hl ⊢
  have hl : lv_has ls 9 [(0, .ref h0), (1, .ref ax), (2, .ref ay), (3, .int (nI n)), (4, .int i), (5, .int j)] := hl
  refine lv_bipush (v := (-9)) hx hb dX0_ownHolds_0 (by decide) ?_
  refine lv_istore (lv' := [(6, .int (-9)), (0, .ref h0), (1, .ref ax), (2, .ref ay), (3, .int (nI n)), (4, .int i), (5, .int j)]) hx hb dX0_ownHolds_2 hl (by decide) rfl (fun ls hl => ?_)
  refine lv_iload_n hx hb dX0_ownHolds_4 rfl (lv_at hl 4 rfl) ?_
  refine lv_iconst (v := 3) hx hb dX0_ownHolds_5 (by decide) ?_
  refine lv_icmp_lt (tgt := 55) hx hb dX0_ownHolds_6 (by decide) (fun c1 => ?_) (fun c1 => ?_)
  · have hn3 : n < 3 := by
      rcases Nat.lt_or_ge n 3 with h | h
      · exact h
      · exact absurd c1 (show ¬ nI n < nI 3 from nI_nlt h (by omega))
    have hP := hP0.keepS hAe hS
    have hPa := hPa0.keepS hAe hS
    have hC := fun j hj => (hC0 j hj).keepS hAe hS
    have hXH := hX0.keepS hAe hS
    have hYH := hY0.keepS hAe hS
    refine lv_aload_n hx hb dX0_ownHolds_55 rfl (lv_at hl 1 rfl) ?_
    refine lv_iload hx hb dX0_ownHolds_56 (lv_at hl 5 rfl) ?_
    refine lv_iload hx hb dX0_ownHolds_58 (lv_at hl 6 rfl) ?_
    refine va_calli (va_runV (As := [.int i, .int j]) (rest := []) ⟨hx, hb, hml, hown, hts⟩ (m_TD_own l D tys h0 pa _ n t0 dA f ad X Y i j hn ht0 hf bX bY) (cwV 2 hts (lw_V q207 q208 q209 q6 q210) rfl rfl rfl (by decide +kernel) ⟨Nat.le_of_ble_eq_true rfl, Nat.le_of_ble_eq_true rfl⟩) (gV (va_recv hK.1 hP (ci := 0) (q0 := 0) rfl rfl) rfl ⟨hP, hPa, hC⟩ hK) rfl rfl hl.1 rfl (lv_room (Nat.le_of_ble_eq_true rfl)) dX0_ownHolds_60 ⟨Nat.le_of_ble_eq_true rfl, Nat.le_of_ble_eq_true rfl⟩) hS (fun q h1 h2 => absurd h2 (Nat.not_le.mpr h1)) (fun q h => hA q (Nat.le_trans hS.1 h)) (fun r9 u t H9 locs ht hvm hw9 hB hz hk1 hS => ?_)
    refine lv_iload hx hb dX0_ownHolds_63 (lv_at hl 0 rfl) ?_
    refine lv_icmp_ne (tgt := 72) hx hb dX0_ownHolds_65 (by decide) (fun c9 => ?_) (fun c9 => ?_)
    · refine absurd ?_ c9
      rcases hw9 with ⟨-, h⟩ | ⟨h, -⟩
      · exact h
      · exact absurd h (by omega)
    · refine lv_iconst (v := 1) hx hb dX0_ownHolds_68 (by decide) ?_
      refine lv_goto (tgt := 73) hx hb dX0_ownHolds_69 (by decide) ?_
      exact W.zret (v := 1) hx hb hr rfl (fun t ht hW => ⟨⟨1, (), rfl, rfl, trivial⟩, hS.F ht⟩) hS.2.2 dX0_ownHolds_73
  · have hn3 : 3 ≤ n := by
      rcases Nat.lt_or_ge n 3 with h | h
      · exact absurd (show nI n < nI 3 from nI_lt h (by decide)) c1
      · exact h
    have hn0 : 0 < n := by omega
    refine lv_iload hx hb dX0_ownHolds_9 (lv_at hl 5 rfl) ?_
    refine lv_iload_n hx hb dX0_ownHolds_11 rfl (lv_at hl 4 rfl) ?_
    refine va_calli (va_runS (As := [.int i, .int (nI n)]) (rest := []) ⟨hx, hb, hml, hown, hts⟩ (m_L_pick l D tys i n _ hn hn0) (va_cwS 2 hts (lw_S q191 q192 q5 q193) rfl rfl rfl (by decide +kernel) ⟨Nat.le_of_ble_eq_true rfl, Nat.le_of_ble_eq_true rfl⟩) (gS rfl trivial hK) rfl rfl hl.1 rfl (lv_room (Nat.le_of_ble_eq_true rfl)) dX0_ownHolds_12 ⟨Nat.le_of_ble_eq_true rfl, Nat.le_of_ble_eq_true rfl⟩) hS (fun q h1 h2 => absurd h2 (Nat.not_le.mpr h1)) (fun q h => hA q (Nat.le_trans hS.1 h)) (fun r1 u t H1 locs ht hvm hw hB hz hk1 hS => ?_)
    have hw : r1 = nI (pkN i n) := hw
    rw [hw]
    refine lv_istore (lv' := [(7, .int (nI (pkN i n))), (6, .int (-9)), (0, .ref h0), (1, .ref ax), (2, .ref ay), (3, .int (nI n)), (4, .int i), (5, .int j)]) hx hb dX0_ownHolds_15 hl (by decide) rfl (fun ls hl => ?_)
    refine lv_iload hx hb dX0_ownHolds_17 (lv_at hl 7 rfl) ?_
    refine lv_iload_n hx hb dX0_ownHolds_19 rfl (lv_at hl 5 rfl) ?_
    refine va_calli (va_runS (As := [.int j, .int (nI n)]) (rest := []) ⟨hx, hb, hml, hown, hts⟩ (m_L_pick l D tys j n _ hn hn0) (va_cwS 2 hts (lw_S q191 q192 q5 q193) rfl rfl rfl (by decide +kernel) ⟨Nat.le_of_ble_eq_true rfl, Nat.le_of_ble_eq_true rfl⟩) (gS rfl trivial hK) rfl rfl hl.1 rfl (lv_room (Nat.le_of_ble_eq_true rfl)) dX0_ownHolds_20 ⟨Nat.le_of_ble_eq_true rfl, Nat.le_of_ble_eq_true rfl⟩) hS (fun q h1 h2 => absurd h2 (Nat.not_le.mpr h1)) (fun q h => hA q (Nat.le_trans hS.1 h)) (fun r2 u t H2 locs ht hvm hw hB hz hk1 hS => ?_)
    have hw : r2 = nI (pkN j n) := hw
    rw [hw]
    refine lv_istore (lv' := [(8, .int (nI (pkN j n))), (7, .int (nI (pkN i n))), (6, .int (-9)), (0, .ref h0), (1, .ref ax), (2, .ref ay), (3, .int (nI n)), (4, .int i), (5, .int j)]) hx hb dX0_ownHolds_23 hl (by decide) rfl (fun ls hl => ?_)
    have hP := hP0.keepS hAe hS
    have hPa := hPa0.keepS hAe hS
    have hC := fun j hj => (hC0 j hj).keepS hAe hS
    have hXH := hX0.keepS hAe hS
    have hYH := hY0.keepS hAe hS
    refine lv_aload_n hx hb dX0_ownHolds_25 rfl (lv_at hl 4 rfl) ?_
    refine lv_aload_n hx hb dX0_ownHolds_26 rfl (lv_at hl 5 rfl) ?_
    refine lv_iload_n hx hb dX0_ownHolds_27 rfl (lv_at hl 6 rfl) ?_
    refine lv_aload_n hx hb dX0_ownHolds_28 rfl (lv_at hl 4 rfl) ?_
    refine lv_iload hx hb dX0_ownHolds_29 (lv_at hl 1 rfl) ?_
    refine fx_lald hx hb hK hXH htx (j := pkN i n) (Nat.lt_of_lt_of_le (pkN_lt i hn0) hn) (by decide) rfl dX0_ownHolds_31 ?_
    refine lv_aload_n hx hb dX0_ownHolds_32 rfl (lv_at hl 4 rfl) ?_
    refine lv_iload hx hb dX0_ownHolds_33 (lv_at hl 0 rfl) ?_
    refine fx_lald hx hb hK hXH htx (j := pkN j n) (Nat.lt_of_lt_of_le (pkN_lt j hn0) hn) (by decide) rfl dX0_ownHolds_35 ?_
    refine lv_ladd hx hb dX0_ownHolds_36 ?_
    refine lv_iconst (v := 1) hx hb dX0_ownHolds_37 (by decide) ?_
    refine lv_lshr hx hb dX0_ownHolds_38 rfl ?_
    refine lv_aload_n hx hb dX0_ownHolds_39 rfl (lv_at hl 5 rfl) ?_
    refine lv_iload hx hb dX0_ownHolds_40 (lv_at hl 1 rfl) ?_
    refine fx_lald hx hb hK hYH hty (j := pkN i n) (Nat.lt_of_lt_of_le (pkN_lt i hn0) hn) (by decide) rfl dX0_ownHolds_42 ?_
    refine lv_aload_n hx hb dX0_ownHolds_43 rfl (lv_at hl 5 rfl) ?_
    refine lv_iload hx hb dX0_ownHolds_44 (lv_at hl 0 rfl) ?_
    refine fx_lald hx hb hK hYH hty (j := pkN j n) (Nat.lt_of_lt_of_le (pkN_lt j hn0) hn) (by decide) rfl dX0_ownHolds_46 ?_
    refine lv_ladd hx hb dX0_ownHolds_47 ?_
    refine lv_iconst (v := 1) hx hb dX0_ownHolds_48 (by decide) ?_
    refine lv_lshr hx hb dX0_ownHolds_49 rfl ?_
    refine va_calli (va_runS (As := [.ref ax, .ref ay, .int (nI n), .long (((X (pkN i n)) + (X (pkN j n))) >>> ((1 : Int32).toInt64 &&& 63)), .long (((Y (pkN i n)) + (Y (pkN j n))) >>> ((1 : Int32).toInt64 &&& 63))]) (rest := []) ⟨hx, hb, hml, hown, hts⟩ (m_L_place l D tys ax ay n tx ty _ cX cY X Y (md (X (pkN i n)) (X (pkN j n))) (md (Y (pkN i n)) (Y (pkN j n))) hn htx hty bX bY (md_bd (bX _ (pkN_lt i hn0)) (bX _ (pkN_lt j hn0))) (md_bd (bY _ (pkN_lt i hn0)) (bY _ (pkN_lt j hn0)))) (va_cwS 5 hts (lw_S q195 q196 q5 q197) rfl rfl rfl (by decide +kernel) ⟨Nat.le_of_ble_eq_true rfl, Nat.le_of_ble_eq_true rfl⟩) (gS rfl ⟨hXH, hYH⟩ hK) rfl rfl hl.1 rfl (lv_room (Nat.le_of_ble_eq_true rfl)) dX0_ownHolds_50 ⟨Nat.le_of_ble_eq_true rfl, Nat.le_of_ble_eq_true rfl⟩) hS (fun q h1 h2 => absurd h2 (Nat.not_le.mpr h1)) (fun q h => hA q (Nat.le_trans hS.1 h)) (fun r4 u t H4 locs ht hvm hw4 hB hz hk1 hS => ?_)
    refine lv_istore (lv' := [(6, .int r4), (8, .int (nI (pkN j n))), (7, .int (nI (pkN i n))), (0, .ref h0), (1, .ref ax), (2, .ref ay), (3, .int (nI n)), (4, .int i), (5, .int j)]) hx hb dX0_ownHolds_53 hl (by decide) rfl (fun ls hl => ?_)
    have hP := hP0.keepS hAe hS
    have hPa := hPa0.keepS hAe hS
    have hC := fun j hj => (hC0 j hj).keepS hAe hS
    have hXH := hX0.keepS hAe hS
    have hYH := hY0.keepS hAe hS
    refine lv_aload_n hx hb dX0_ownHolds_55 rfl (lv_at hl 3 rfl) ?_
    refine lv_iload hx hb dX0_ownHolds_56 (lv_at hl 7 rfl) ?_
    refine lv_iload hx hb dX0_ownHolds_58 (lv_at hl 8 rfl) ?_
    refine va_calli (va_runV (As := [.int i, .int j]) (rest := []) ⟨hx, hb, hml, hown, hts⟩ (m_TD_own l D tys h0 pa _ n t0 dA f ad X Y i j hn ht0 hf bX bY) (cwV 2 hts (lw_V q207 q208 q209 q6 q210) rfl rfl rfl (by decide +kernel) ⟨Nat.le_of_ble_eq_true rfl, Nat.le_of_ble_eq_true rfl⟩) (gV (va_recv hK.1 hP (ci := 0) (q0 := 0) rfl rfl) rfl ⟨hP, hPa, hC⟩ hK) rfl rfl hl.1 rfl (lv_room (Nat.le_of_ble_eq_true rfl)) dX0_ownHolds_60 ⟨Nat.le_of_ble_eq_true rfl, Nat.le_of_ble_eq_true rfl⟩) hS (fun q h1 h2 => absurd h2 (Nat.not_le.mpr h1)) (fun q h => hA q (Nat.le_trans hS.1 h)) (fun r9 u t H9 locs ht hvm hw9 hB hz hk1 hS => ?_)
    refine lv_iload hx hb dX0_ownHolds_63 (lv_at hl 0 rfl) ?_
    refine lv_icmp_ne (tgt := 72) hx hb dX0_ownHolds_65 (by decide) (fun c9 => ?_) (fun c9 => ?_)
    · refine absurd ?_ c9
      rcases hw9 with ⟨h, -⟩ | ⟨-, h⟩
      · exact absurd h (by omega)
      · exact ring_same hn0 h hw4
    · refine lv_iconst (v := 1) hx hb dX0_ownHolds_68 (by decide) ?_
      refine lv_goto (tgt := 73) hx hb dX0_ownHolds_69 (by decide) ?_
      exact W.zret (v := 1) hx hb hr rfl (fun t ht hW => ⟨⟨1, (), rfl, rfl, trivial⟩, hS.F ht⟩) hS.2.2 dX0_ownHolds_73
end
section
/-! THE CLAIM OUT OF ONE WALK OF THE LAW'S BODY. Your part is whole_start (and what it stands on); all else here is the same for every law, but numbers. -/
def R_law : String := "TurnDeskLaw"
def lw_P (b : Addr) (xs : List Int32) (args : Array Value) (s : State) : Prop := args = #[.ref b] ∧ s.IntsAt b xs ∧ xs.length ≤ 60 ∧ (Jvm.Cond.and given_1 narrow_1).before args s = true
def lw_Q (_ : Array Value) (s : State) (o : Outcome) (t : State) : Prop := o = .returned (some (.int 1)) ∧ Framed s o t [] 1200000 5502250
def lw_Z (below : List Frame) (a : Array Value) (s : State) : State → Prop := fun t => ∃ o, t.status = .running ∧ Ended t below o ∧ lw_Q a s o t
/-- the law's own end, with 1 on the stack, nothing written that was there before, its room as the claim has it -/
theorem lw_ret {p : Program} {l : Launch} {e : Env} {s : State} {m : MethodId} {below : List Frame} {meth : Method} {c : Code} {b : Nat} (hx : p.tables.exec = Jvm.exec) (hb : c.code = code) (hr : meth.sig.returnType = ret) (hlocks : meth.locks = false) {pc : Nat} {H : Heap} {ls : Array Slot} (hdg : decode code pc = .ok (.ireturn, 1)) : W p l e room_1 s m #[Value.ref b] below meth c H [] 1200000 5502250 (lw_Z below #[Value.ref b] s) (F0 m pc ls [.int 1]) := by
  intro T hT X
  obtain ⟨fs, hret, hrun, hended, hW, hframe⟩ := X.leave (v := some (.int 1)) (hlocks := hlocks) (fun h => by rw [hr] at h; cases h)
  have hmeth' : T.vm.method? m = some meth := X.method'
  refine ⟨T.setFrames fs, ?_, .returned (some (.int 1)), hrun, hended, rfl, ⟨_, rfl⟩, hW, hframe⟩
  jvm_step X.here [X.here.top, hx, hb, hdg, hmeth', hr, ret, narrow_b1]
  (try refine ⟨rfl, ?_⟩); (try refine ⟨rfl, ?_⟩)
  first | (intro acts; rw [hret _ acts rfl rfl rfl]) | rw [hret _ _ rfl rfl rfl]
  exact Steps.refl _
/-- what holds at the law's entry: the machine, the code, the tables' words (any of lw_tbl by 'hts w (by decide +kernel)'), the script of L ints xs at the cell b, what the Statement gives of the start (any of its parts by flat_of_before) -/
def lw_At (p : Program) (s : State) (m : MethodId) (meth : Method) (c : Code) (b L : Nat) (xs : Nat → Int32) : Prop :=
  p.tables.exec = Jvm.exec ∧ c.code = code ∧ meth.sig.returnType = ret ∧ c.maxLocals = 15 ∧ s.vm.findClass R_law = some m.cls ∧ (∀ w ∈ lw_tbl, w.before #[Value.ref b] s = true) ∧ va_X b L xs s s.heap ∧ b < s.heap.size ∧ meth.locks = false ∧ (Jvm.Cond.and given_1 narrow_1).before #[Value.ref b] s = true
end
section
/-! THE LAW's loop: printed by wip/D-29928w/law3.py -/
/-- what the law holds at its loop's head: the desk, its points, the law's own two arrays -/
def LI (D : va_G) (h0 pa ax ay : Nat) (dA cX cY : ClassId) (n : Nat) (f : Nat → Option Nat) (ad : Nat → Nat) (X Y : Nat → Int64) (H : Heap) : Prop :=
  C1 D h0 (Dk pa (nI n)) H ∧ C1 D pa (Ar dA 16 f) H ∧ C1 D ax (La cX 15 X) H ∧ C1 D ay (La cY 15 Y) H ∧ (∀ j, j < n → C1 D (ad j) (Co (X j) (Y j)) H) ∧
  (∀ j, j < n → f j = some (ad j) ∧ ad j ≠ h0 ∧ ad j ≠ pa ∧ ad j ≠ ax ∧ ad j ≠ ay ∧ Bd (X j) ∧ Bd (Y j))
theorem C1.same {D : va_G} {a : Nat} {e : va_E} {H H1 : Heap} (h : C1 D a e H) (hk : ∀ q : Nat, q < H.size → H1[q]? = H[q]?) : C1 D a e H1 := C1.of (h.at.kept (hk a h.lt))
theorem C1.other {D : va_G} {a b : Nat} {e : va_E} {H H1 : Heap} (h : C1 D a e H) (hk : ∀ q : Nat, q ≠ b → H1[q]? = H[q]?) (hn : a ≠ b) : C1 D a e H1 := C1.of (h.at.kept (hk a hn))
theorem C1.keep2 {D : va_G} {a b d : Nat} {e : va_E} {H H1 : Heap} (h : C1 D a e H) (hk : ∀ q : Nat, q < H.size → ¬ Fr2 b d H.size q → H1[q]? = H[q]?) (h1 : a ≠ b) (h2 : a ≠ d) : C1 D a e H1 := h.keep hk (fun q => q.elim h1 (fun q => q.elim h2 (Nat.not_le.mpr h.lt)))
theorem LI.same {D : va_G} {h0 pa ax ay : Nat} {dA cX cY : ClassId} {n : Nat} {f : Nat → Option Nat} {ad : Nat → Nat} {X Y : Nat → Int64} {H H1 : Heap} (h : LI D h0 pa ax ay dA cX cY n f ad X Y H) (hk : ∀ q : Nat, q < H.size → H1[q]? = H[q]?) : LI D h0 pa ax ay dA cX cY n f ad X Y H1 :=
  ⟨h.1.same hk, h.2.1.same hk, h.2.2.1.same hk, h.2.2.2.1.same hk, fun j hj => (h.2.2.2.2.1 j hj).same hk, h.2.2.2.2.2⟩
theorem LI.keep0 {D : va_G} {h0 pa ax ay : Nat} {dA cX cY : ClassId} {n : Nat} {f : Nat → Option Nat} {ad : Nat → Nat} {X Y : Nat → Int64} {H H1 : Heap} (h : LI D h0 pa ax ay dA cX cY n f ad X Y H) (hk : ∀ q : Nat, q < H.size → ¬ Fr0 H.size q → H1[q]? = H[q]?) : LI D h0 pa ax ay dA cX cY n f ad X Y H1 :=
  h.same (fun q hq => hk q hq (Nat.not_le.mpr hq))
/-- one point more -/
theorem LI.push {D : va_G} {h0 pa ax ay u : Nat} {dA cX cY : ClassId} {n : Nat} {f : Nat → Option Nat} {ad : Nat → Nat} {X Y : Nat → Int64} {x y : Int64} {H : Heap} (hP : C1 D h0 (Dk pa (nI (n + 1))) H) (hPa : C1 D pa (Ar dA 16 (va_up f n (some u))) H) (hXa : C1 D ax (La cX 15 (vp_updL X n x)) H) (hYa : C1 D ay (La cY 15 (vp_updL Y n y)) H) (hC : ∀ j, j < n → C1 D (ad j) (Co (X j) (Y j)) H) (hU : C1 D u (Co x y) H)
    (hI : ∀ j, j < n → f j = some (ad j) ∧ ad j ≠ h0 ∧ ad j ≠ pa ∧ ad j ≠ ax ∧ ad j ≠ ay ∧ Bd (X j) ∧ Bd (Y j)) (hu : u ≠ h0 ∧ u ≠ pa ∧ u ≠ ax ∧ u ≠ ay) (bx : Bd x) (bq : Bd y) : LI D h0 pa ax ay dA cX cY (n + 1) (va_up f n (some u)) (va_up ad n u) (vp_updL X n x) (vp_updL Y n y) H := by
  have lo : ∀ j, j < n → va_up f n (some u) j = f j ∧ va_up ad n u j = ad j ∧ vp_updL X n x j = X j ∧ vp_updL Y n y j = Y j := fun j hj => ⟨if_neg (by omega), if_neg (by omega), if_neg (by omega), if_neg (by omega)⟩
  have hi : va_up f n (some u) n = some u ∧ va_up ad n u n = u ∧ vp_updL X n x n = x ∧ vp_updL Y n y n = y := ⟨if_pos rfl, if_pos rfl, if_pos rfl, if_pos rfl⟩
  refine ⟨hP, hPa, hXa, hYa, fun j hj => ?_, fun j hj => ?_⟩
  · by_cases h : j < n
    · obtain ⟨-, e2, e3, e4⟩ := lo j h
      rw [e2, e3, e4]
      exact hC j h
    · obtain ⟨-, e2, e3, e4⟩ := hi
      rw [show j = n by omega, e2, e3, e4]
      exact hU
  · by_cases h : j < n
    · obtain ⟨e1, e2, e3, e4⟩ := lo j h
      rw [e1, e2, e3, e4]
      exact hI j h
    · obtain ⟨e1, e2, e3, e4⟩ := hi
      rw [show j = n by omega, e1, e2, e3, e4]
      exact ⟨rfl, hu.1, hu.2.1, hu.2.2.1, hu.2.2.2, bx, bq⟩
theorem bw_eq (a b w : Int64) : (8 - w) * a + w * b = a * 8 + (b - a) * w := by grind
section FXS
variable {p : Program} {l : Launch} {e : Env} {R : Room} {s : State} {m : MethodId} {args : Array Value} {below : List Frame} {meth : Method} {c : Code} {H : Heap} {locs : List Loc} {cells slots : Nat} {Q : State → Prop}
variable {cc : ByteArray} {pc : Nat} {ls : Array Slot} {rest : List Value} {D : va_G} {a : Nat} {tys : List (ClassId × FieldType)} {A : Nat → Prop} {H0 : Heap}
theorem fx_last (hexec : p.tables.exec = Jvm.exec) (hb : c.code = cc) (hK : Kn D tys s) {cL : ClassId} {n j t0 : Nat} {f : Nat → Int64} {x : Int64} (hP : C1 D a (La cL n f) H) (hS : va_S A H0 H locs) (hAa : A a) (ht : tys[t0]? = some (cL, .long)) (hj : j < n) (hn : n < 2 ^ 31) {i : Int32} (hi : i = nI j) (hdg : decode cc pc = .ok (.lastore, 1))
    (kk : ∀ (H1 : Heap) (locs1 : List Loc), C1 D a (La cL n (vp_updL f j x)) H1 → (∀ q : Nat, q ≠ a → H1[q]? = H[q]?) → H1.size = H.size → va_S A H0 H1 locs1 → W p l e R s m args below meth c H1 locs1 cells slots Q (F0 m (pc + 1) ls rest)) : W p l e R s m args below meth c H locs cells slots Q (F0 m pc ls (.long x :: .int i :: .ref a :: rest)) := by
  subst hi
  have hin : vp_in (nI j) n := vp_in_nI hj hn
  refine W.last hexec hb (hP 0 _ rfl) ((hK.1.2 t0 _ ht).1 n (fun j => .long (f j))) (fun q => by cases q) (by show ¬ (_ < 0 ∨ (arrV _ _ _).slots.size ≤ _); rw [arrV_size]; exact hin) rfl rfl hdg fun H1 he z oq => ?_
  refine kk H1 _ (C1.of ?_) oq z (hS.put z oq hAa)
  show H1[a]? = some (vp_cell _ _)
  rw [he, vp_cell_l, vp_cell_l, arrV_store, nI_clamp (by omega)]
  congr 2
  funext q
  by_cases hq : q = j
  · subst hq
    simp [updV, vp_updL]
  · simp [updV, vp_updL, hq]
end FXS
set_option maxHeartbeats 8000000 in
set_option maxRecDepth 100000 in
/-- the law's loop over the script, from its head at the place k -/
theorem law_loop {p : Program} {l : Launch} {e : Env} {s : State} {m : MethodId} {below : List Frame} {meth : Method} {c : Code} {b L : Nat} {xs : Nat → Int32} {D : va_G} {A : Nat → Prop} {h0 pa ax ay : Nat} {dA cX cY : ClassId} {Q : State → Prop}
    (hx : p.tables.exec = Jvm.exec) (hb : c.code = cL_law) (hml : c.maxLocals = 15) (hown : s.vm.findClass RX0 = some m.cls) (hts : ∀ w ∈ lw_all, w.before #[Value.ref b] s = true) (hAe : A = Fr0 s.heap.size) (hA : ∀ q : Nat, s.heap.size ≤ q → A q) (hL : L ≤ 60) (hX : va_X b L xs s s.heap) (hbl : b < s.heap.size)
    (hK : Kn D [(dA, .object "Coordinate"), (cX, .long), (cY, .long)] s) (hAh : A h0) (hAp : A pa) (hAx : A ax) (hAy : A ay) (n1 : h0 ≠ pa) (n2 : h0 ≠ ax) (n3 : h0 ≠ ay) (n4 : pa ≠ ax) (n5 : pa ≠ ay) (n6 : ax ≠ ay)
    (hexit : ∀ (n : Nat) (f : Nat → Option Nat) (ad : Nat → Nat) (X Y : Nat → Int64) (H : Heap) (locs : List Loc) (ls : Array Slot), n ≤ 15 → LI D h0 pa ax ay dA cX cY n f ad X Y H → va_S A s.heap H locs → lv_has ls 15 [(0, .ref b), (1, .ref h0), (2, .ref ax), (3, .ref ay), (4, .int (nI n))] → W p l e room_1 s m #[Value.ref b] below meth c H locs (5000) (10000) Q (F0 m 395 ls [])) :
    ∀ (fuel k : Nat), 63 ≤ k + fuel → k ≤ 63 → ∀ (n : Nat) (f : Nat → Option Nat) (ad : Nat → Nat) (X Y : Nat → Int64) (H : Heap) (locs : List Loc), n ≤ 15 → LI D h0 pa ax ay dA cX cY n f ad X Y H → va_S A s.heap H locs → ∀ (ls : Array Slot), lv_has ls 15 [(0, .ref b), (1, .ref h0), (2, .ref ax), (3, .ref ay), (4, .int (nI n)), (5, .int (nI k))] → W p l e room_1 s m #[Value.ref b] below meth c H locs (4 + 63 * k) (48 + 142 * k) Q (F0 m 24 ls []) := by
  intro fuel
  induction fuel with
  | zero =>
    intro k hk hk2 n f ad X Y H locs hn hLI hS ls hl
    refine lv_iload hx hb dL_law_24 (lv_at hl 5 rfl) ?_
    refine lv_bipush (v := 60) hx hb dL_law_26 (by decide) ?_
    refine lv_icmp_ge (tgt := 395) hx hb dL_law_28 (by decide) (fun c1 => ?_) (fun c1 => ?_)
    · refine W.widen (k := 5000) (n := 10000) (by omega) (by omega) ?_
      exact hexit n f ad X Y H locs ls hn hLI hS (lv_sub hl [0, 1, 2, 3, 4] rfl)
    · exact absurd (show nI 60 ≤ nI k from nI_le (by omega) (by omega)) c1
  | succ fuel ih =>
    intro k hk hk2 n f ad X Y H locs hn hLI hS ls hl
    have hbA : ¬ A b := by rw [hAe]; exact Nat.not_le.mpr hbl
    refine lv_iload hx hb dL_law_24 (lv_at hl 5 rfl) ?_
    refine lv_bipush (v := 60) hx hb dL_law_26 (by decide) ?_
    refine lv_icmp_ge (tgt := 395) hx hb dL_law_28 (by decide) (fun c1 => ?_) (fun c1 => ?_)
    · refine W.widen (k := 5000) (n := 10000) (by omega) (by omega) ?_
      exact hexit n f ad X Y H locs ls hn hLI hS (lv_sub hl [0, 1, 2, 3, 4] rfl)
    · have hk60 : k < 60 := by
        rcases Nat.lt_or_ge k 60 with h | h
        · exact h
        · exact absurd (show nI 60 ≤ nI k from nI_le h (by omega)) c1
      refine lv_aload_n hx hb dL_law_31 rfl (lv_at hl 0 rfl) ?_
      refine lv_iload hx hb dL_law_32 (lv_at hl 5 rfl) ?_
      refine va_calli (va_runS (As := [.ref b, .int (nI k)]) (rest := []) ⟨hx, hb, hml, hown, hts⟩ (m_L_get l b L (k) _ xs hL (by omega)) (va_cwS 2 hts (lw_S q188 q189 q5 q190) rfl rfl rfl (by decide +kernel) ⟨Nat.le_of_ble_eq_true rfl, Nat.le_of_ble_eq_true rfl⟩) (xS rfl (Nat.lt_of_lt_of_le hbl hS.1) (hX.kept (hS.2.1 b hbl hbA))) rfl rfl hl.1 rfl (lv_room (Nat.le_of_ble_eq_true rfl)) dL_law_34 ⟨by show 4 + 63 * k + 0 ≤ 1200000; omega, by show 48 + 142 * k + 0 ≤ 5502250; omega⟩) hS (fun q h1 h2 => absurd h2 (Nat.not_le.mpr h1)) (fun q h => hA q (Nat.le_trans hS.1 h)) (fun r0 u t Hr0 locs ht hvm hw hB hz hk1 hS => ?_)
      have hLI := hLI.keep0 hk1
      refine lv_bipush (v := 7) hx hb dL_law_37 (by decide) ?_
      refine lv_iand hx hb dL_law_39 ?_
      refine lv_istore (lv' := [(6, .int (r0 &&& 7)), (0, .ref b), (1, .ref h0), (2, .ref ax), (3, .ref ay), (4, .int (nI n)), (5, .int (nI k))]) hx hb dL_law_40 hl (by decide) rfl (fun ls hl => ?_)
      refine lv_aload_n hx hb dL_law_42 rfl (lv_at hl 1 rfl) ?_
      refine lv_iload hx hb dL_law_43 (lv_at hl 6 rfl) ?_
      refine lv_iconst (v := 1) hx hb dL_law_45 (by decide) ?_
      refine lv_iadd hx hb dL_law_46 ?_
      rw [show nI k + 1 = nI (k + 1) from nI_add k 1]
      refine va_calli (va_runS (As := [.ref b, .int (nI (k + 1))]) (rest := []) ⟨hx, hb, hml, hown, hts⟩ (m_L_get l b L (k + 1) _ xs hL (by omega)) (va_cwS 2 hts (lw_S q188 q189 q5 q190) rfl rfl rfl (by decide +kernel) ⟨Nat.le_of_ble_eq_true rfl, Nat.le_of_ble_eq_true rfl⟩) (xS rfl (Nat.lt_of_lt_of_le hbl hS.1) (hX.kept (hS.2.1 b hbl hbA))) rfl rfl hl.1 rfl (lv_room (Nat.le_of_ble_eq_true rfl)) dL_law_47 ⟨by show 4 + 63 * k + 0 + 0 ≤ 1200000; omega, by show 48 + 142 * k + 0 + 0 ≤ 5502250; omega⟩) hS (fun q h1 h2 => absurd h2 (Nat.not_le.mpr h1)) (fun q h => hA q (Nat.le_trans hS.1 h)) (fun r1 u t Hr1 locs ht hvm hw hB hz hk1 hS => ?_)
      have hLI := hLI.keep0 hk1
      refine lv_istore (lv' := [(7, .int r1), (6, .int (r0 &&& 7)), (0, .ref b), (1, .ref h0), (2, .ref ax), (3, .ref ay), (4, .int (nI n)), (5, .int (nI k))]) hx hb dL_law_50 hl (by decide) rfl (fun ls hl => ?_)
      refine lv_aload_n hx hb dL_law_52 rfl (lv_at hl 2 rfl) ?_
      refine lv_iload hx hb dL_law_53 (lv_at hl 7 rfl) ?_
      refine lv_iconst (v := 2) hx hb dL_law_55 (by decide) ?_
      refine lv_iadd hx hb dL_law_56 ?_
      rw [show nI k + 2 = nI (k + 2) from nI_add k 2]
      refine va_calli (va_runS (As := [.ref b, .int (nI (k + 2))]) (rest := []) ⟨hx, hb, hml, hown, hts⟩ (m_L_get l b L (k + 2) _ xs hL (by omega)) (va_cwS 2 hts (lw_S q188 q189 q5 q190) rfl rfl rfl (by decide +kernel) ⟨Nat.le_of_ble_eq_true rfl, Nat.le_of_ble_eq_true rfl⟩) (xS rfl (Nat.lt_of_lt_of_le hbl hS.1) (hX.kept (hS.2.1 b hbl hbA))) rfl rfl hl.1 rfl (lv_room (Nat.le_of_ble_eq_true rfl)) dL_law_57 ⟨by show 4 + 63 * k + 0 + 0 + 0 ≤ 1200000; omega, by show 48 + 142 * k + 0 + 0 + 0 ≤ 5502250; omega⟩) hS (fun q h1 h2 => absurd h2 (Nat.not_le.mpr h1)) (fun q h => hA q (Nat.le_trans hS.1 h)) (fun r2 u t Hr2 locs ht hvm hw hB hz hk1 hS => ?_)
      have hLI := hLI.keep0 hk1
      refine lv_istore (lv' := [(8, .int r2), (7, .int r1), (6, .int (r0 &&& 7)), (0, .ref b), (1, .ref h0), (2, .ref ax), (3, .ref ay), (4, .int (nI n)), (5, .int (nI k))]) hx hb dL_law_60 hl (by decide) rfl (fun ls hl => ?_)
      refine lv_aload_n hx hb dL_law_62 rfl (lv_at hl 3 rfl) ?_
      refine lv_iload hx hb dL_law_63 (lv_at hl 8 rfl) ?_
      refine lv_iconst (v := 3) hx hb dL_law_65 (by decide) ?_
      refine lv_iadd hx hb dL_law_66 ?_
      rw [show nI k + 3 = nI (k + 3) from nI_add k 3]
      refine va_calli (va_runS (As := [.ref b, .int (nI (k + 3))]) (rest := []) ⟨hx, hb, hml, hown, hts⟩ (m_L_get l b L (k + 3) _ xs hL (by omega)) (va_cwS 2 hts (lw_S q188 q189 q5 q190) rfl rfl rfl (by decide +kernel) ⟨Nat.le_of_ble_eq_true rfl, Nat.le_of_ble_eq_true rfl⟩) (xS rfl (Nat.lt_of_lt_of_le hbl hS.1) (hX.kept (hS.2.1 b hbl hbA))) rfl rfl hl.1 rfl (lv_room (Nat.le_of_ble_eq_true rfl)) dL_law_67 ⟨by show 4 + 63 * k + 0 + 0 + 0 + 0 ≤ 1200000; omega, by show 48 + 142 * k + 0 + 0 + 0 + 0 ≤ 5502250; omega⟩) hS (fun q h1 h2 => absurd h2 (Nat.not_le.mpr h1)) (fun q h => hA q (Nat.le_trans hS.1 h)) (fun r3 u t Hr3 locs ht hvm hw hB hz hk1 hS => ?_)
      have hLI := hLI.keep0 hk1
      refine lv_istore (lv' := [(9, .int r3), (8, .int r2), (7, .int r1), (6, .int (r0 &&& 7)), (0, .ref b), (1, .ref h0), (2, .ref ax), (3, .ref ay), (4, .int (nI n)), (5, .int (nI k))]) hx hb dL_law_70 hl (by decide) rfl (fun ls hl => ?_)
      refine lv_iload hx hb dL_law_72 (lv_at hl 3 rfl) ?_
      refine lv_if_ne (tgt := 136) hx hb dL_law_74 (by decide) (fun k0 => ?_) (fun k0 => ?_)
      · refine lv_iload hx hb dL_law_136 (lv_at hl 3 rfl) ?_
        refine lv_iconst (v := 1) hx hb dL_law_138 (by decide) ?_
        refine lv_icmp_ne (tgt := 269) hx hb dL_law_139 (by decide) (fun k1 => ?_) (fun k1 => ?_)
        · refine lv_iload hx hb dL_law_269 (lv_at hl 3 rfl) ?_
          refine lv_iconst (v := 2) hx hb dL_law_271 (by decide) ?_
          refine lv_icmp_ne (tgt := 288) hx hb dL_law_272 (by decide) (fun k2 => ?_) (fun k2 => ?_)
          · refine lv_iload hx hb dL_law_288 (lv_at hl 3 rfl) ?_
            refine lv_iconst (v := 3) hx hb dL_law_290 (by decide) ?_
            refine lv_icmp_ne (tgt := 319) hx hb dL_law_291 (by decide) (fun k3 => ?_) (fun k3 => ?_)
            · refine lv_iload hx hb dL_law_319 (lv_at hl 3 rfl) ?_
              refine lv_iconst (v := 4) hx hb dL_law_321 (by decide) ?_
              refine lv_icmp_ne (tgt := 372) hx hb dL_law_322 (by decide) (fun k4 => ?_) (fun k4 => ?_)
              · refine lv_aload_n hx hb dL_law_372 rfl (lv_at hl 5 rfl) ?_
                refine lv_aload_n hx hb dL_law_373 rfl (lv_at hl 6 rfl) ?_
                refine lv_aload_n hx hb dL_law_374 rfl (lv_at hl 7 rfl) ?_
                refine lv_iload hx hb dL_law_375 (lv_at hl 8 rfl) ?_
                refine lv_iload hx hb dL_law_377 (lv_at hl 2 rfl) ?_
                refine lv_iload hx hb dL_law_379 (lv_at hl 1 rfl) ?_
                have hP := hLI.1
                have hPa := hLI.2.1
                have hXa := hLI.2.2.1
                have hYa := hLI.2.2.2.1
                have hC := hLI.2.2.2.2.1
                have hI := hLI.2.2.2.2.2
                refine va_calli (va_runS (As := [.ref h0, .ref ax, .ref ay, .int (nI n), .int r1, .int r2]) (rest := []) ⟨hx, hb, hml, hown, hts⟩ (m_L_ownHolds l D _ h0 pa ax ay _ n 0 1 2 dA cX cY f ad X Y r1 r2 hn rfl rfl rfl (fun j hj => (hI j hj).1) (fun j hj => (hI j hj).2.2.2.2.2.1) (fun j hj => (hI j hj).2.2.2.2.2.2)) (va_cwS 6 hts (lw_S q204 q205 q5 q206) rfl rfl rfl (by decide +kernel) ⟨Nat.le_of_ble_eq_true rfl, Nat.le_of_ble_eq_true rfl⟩) (gS rfl ⟨⟨hP, hPa, hC⟩, hXa, hYa⟩ hK) rfl rfl hl.1 rfl (lv_room (Nat.le_of_ble_eq_true rfl)) dL_law_381 ⟨by show 4 + 63 * k + 0 + 0 + 0 + 0 + 63 ≤ 1200000; omega, by show 48 + 142 * k + 0 + 0 + 0 + 0 + 142 ≤ 5502250; omega⟩) hS (fun q h1 h2 => absurd h2 (Nat.not_le.mpr h1)) (fun q h => hA q (Nat.le_trans hS.1 h)) (fun r u t H5 locs ht hvm hw hB hz hk1 hS => ?_)
                have hw : r = 1 := hw
                rw [hw]
                have hLI := hLI.keep0 hk1
                refine lv_if_ne (tgt := 389) hx hb dL_law_384 (by decide) (fun d1 => ?_) (fun d1 => ?_)
                · refine lv_iinc (v := nI (k + 3)) (lv' := [(5, .int (nI (k + 3))), (9, .int r3), (8, .int r2), (7, .int r1), (6, .int (r0 &&& 7)), (0, .ref b), (1, .ref h0), (2, .ref ax), (3, .ref ay), (4, .int (nI n))]) hx hb dL_law_389 hl (k := 9) rfl (nI_add k 3) (by decide) rfl (fun ls hl => ?_)
                  refine lv_goto (tgt := 24) hx hb dL_law_392 (by decide) ?_
                  refine W.widen (k := 4 + 63 * (k + 3)) (n := 48 + 142 * (k + 3)) (by omega) (by omega) ?_
                  exact ih (k + 3) (by omega) (by omega) n f ad X Y _ _ hn hLI hS ls (lv_sub hl [5, 6, 7, 8, 9, 0] rfl)
                · exact absurd d1 (by decide)
              · refine lv_aload_n hx hb dL_law_325 rfl (lv_at hl 5 rfl) ?_
                refine lv_iload hx hb dL_law_326 (lv_at hl 2 rfl) ?_
                refine lv_iload hx hb dL_law_328 (lv_at hl 1 rfl) ?_
                have hP := hLI.1
                have hPa := hLI.2.1
                have hXa := hLI.2.2.1
                have hYa := hLI.2.2.2.1
                have hC := hLI.2.2.2.2.1
                have hI := hLI.2.2.2.2.2
                refine va_calli (va_runV (As := [.int r1, .int r2]) (rest := []) ⟨hx, hb, hml, hown, hts⟩ (m_TD_within l D _ h0 pa _ n 0 dA f ad X Y r1 r2 hn rfl (fun j hj => (hI j hj).1) (fun j hj => (hI j hj).2.2.2.2.2.1) (fun j hj => (hI j hj).2.2.2.2.2.2)) (cwV 2 hts (lw_V q148 q149 q150 q6 q151) rfl rfl rfl (by decide +kernel) ⟨Nat.le_of_ble_eq_true rfl, Nat.le_of_ble_eq_true rfl⟩) (gV (va_recv hK.1 hP (ci := 0) (q0 := 0) rfl rfl) rfl ⟨hP, hPa, hC⟩ hK) rfl rfl hl.1 rfl (lv_room (Nat.le_of_ble_eq_true rfl)) dL_law_330 ⟨by show 4 + 63 * k + 0 + 0 + 0 + 0 + 63 ≤ 1200000; omega, by show 48 + 142 * k + 0 + 0 + 0 + 0 + 142 ≤ 5502250; omega⟩) hS (fun q h1 h2 => absurd h2 (Nat.not_le.mpr h1)) (fun q h => hA q (Nat.le_trans hS.1 h)) (fun r u t H5 locs ht hvm hw hB hz hk1 hS => ?_)
                have hLI := hLI.keep0 hk1
                have hP := hLI.1
                have hPa := hLI.2.1
                have hXa := hLI.2.2.1
                have hYa := hLI.2.2.2.1
                have hC := hLI.2.2.2.2.1
                have hI := hLI.2.2.2.2.2
                refine lv_iload hx hb dL_law_333 (lv_at hl 8 rfl) ?_
                refine lv_iconst (v := 3) hx hb dL_law_335 (by decide) ?_
                refine lv_icmp_ge (tgt := 344) hx hb dL_law_336 (by decide) (fun d1 => ?_) (fun d1 => ?_)
                · have hn3 : 3 ≤ n := by
                    rcases Nat.lt_or_ge n 3 with h | h
                    · exact absurd d1 (show ¬ nI 3 ≤ nI n from nI_ge h (by decide))
                    · exact h
                  refine lv_aload_n hx hb dL_law_344 rfl (lv_at hl 6 rfl) ?_
                  refine lv_aload_n hx hb dL_law_345 rfl (lv_at hl 7 rfl) ?_
                  refine lv_iload hx hb dL_law_346 (lv_at hl 8 rfl) ?_
                  refine lv_iload hx hb dL_law_348 (lv_at hl 2 rfl) ?_
                  refine lv_iconst (v := 2) hx hb dL_law_350 (by decide) ?_
                  refine lv_ishr hx hb dL_law_351 ?_
                  refine lv_i2l hx hb dL_law_352 rfl ?_
                  refine lv_iload hx hb dL_law_353 (lv_at hl 1 rfl) ?_
                  refine lv_iconst (v := 2) hx hb dL_law_355 (by decide) ?_
                  refine lv_ishr hx hb dL_law_356 ?_
                  refine lv_i2l hx hb dL_law_357 rfl ?_
                  refine va_calli (va_runS (As := [.ref ax, .ref ay, .int (nI n), .long ((r1 >>> (2 &&& 31)) : Int32).toInt64, .long ((r2 >>> (2 &&& 31)) : Int32).toInt64]) (rest := [.int r]) ⟨hx, hb, hml, hown, hts⟩ (m_L_place l D _ ax ay n 1 2 _ cX cY X Y (qt r1) (qt r2) hn rfl rfl (fun j hj => (hI j hj).2.2.2.2.2.1) (fun j hj => (hI j hj).2.2.2.2.2.2) (qt_bd r1) (qt_bd r2)) (va_cwS 5 hts (lw_S q195 q196 q5 q197) rfl rfl rfl (by decide +kernel) ⟨Nat.le_of_ble_eq_true rfl, Nat.le_of_ble_eq_true rfl⟩) (gS rfl ⟨hXa, hYa⟩ hK) rfl rfl hl.1 rfl (lv_room (Nat.le_of_ble_eq_true rfl)) dL_law_358 ⟨by show 4 + 63 * k + 0 + 0 + 0 + 0 + 63 + 0 ≤ 1200000; omega, by show 48 + 142 * k + 0 + 0 + 0 + 0 + 142 + 0 ≤ 5502250; omega⟩) hS (fun q h1 h2 => absurd h2 (Nat.not_le.mpr h1)) (fun q h => hA q (Nat.le_trans hS.1 h)) (fun r6 u t H6 locs ht hvm hw6 hB hz hk1 hS => ?_)
                  have hLI := hLI.keep0 hk1
                  refine lv_icmp_eq (tgt := 366) hx hb dL_law_361 (by decide) (fun d2 => ?_) (fun d2 => ?_)
                  · refine lv_iinc (v := nI (k + 3)) (lv' := [(5, .int (nI (k + 3))), (9, .int r3), (8, .int r2), (7, .int r1), (6, .int (r0 &&& 7)), (0, .ref b), (1, .ref h0), (2, .ref ax), (3, .ref ay), (4, .int (nI n))]) hx hb dL_law_366 hl (k := 9) rfl (nI_add k 3) (by decide) rfl (fun ls hl => ?_)
                    refine lv_goto (tgt := 392) hx hb dL_law_369 (by decide) ?_
                    refine lv_goto (tgt := 24) hx hb dL_law_392 (by decide) ?_
                    refine W.widen (k := 4 + 63 * (k + 3)) (n := 48 + 142 * (k + 3)) (by omega) (by omega) ?_
                    exact ih (k + 3) (by omega) (by omega) n f ad X Y _ _ hn hLI hS ls (lv_sub hl [5, 6, 7, 8, 9, 0] rfl)
                  · refine absurd ?_ d2
                    rcases hw with ⟨h, -⟩ | ⟨-, h⟩
                    · exact absurd h (by omega)
                    · exact ring_same (by omega) h hw6
                · have hn3 : n < 3 := by
                    rcases Nat.lt_or_ge n 3 with h | h
                    · exact h
                    · exact absurd (show nI 3 ≤ nI n from nI_le h (by omega)) d1
                  refine lv_bipush (v := (-9)) hx hb dL_law_339 (by decide) ?_
                  refine lv_goto (tgt := 361) hx hb dL_law_341 (by decide) ?_
                  refine lv_icmp_eq (tgt := 366) hx hb dL_law_361 (by decide) (fun d2 => ?_) (fun d2 => ?_)
                  · refine lv_iinc (v := nI (k + 3)) (lv' := [(5, .int (nI (k + 3))), (9, .int r3), (8, .int r2), (7, .int r1), (6, .int (r0 &&& 7)), (0, .ref b), (1, .ref h0), (2, .ref ax), (3, .ref ay), (4, .int (nI n))]) hx hb dL_law_366 hl (k := 9) rfl (nI_add k 3) (by decide) rfl (fun ls hl => ?_)
                    refine lv_goto (tgt := 392) hx hb dL_law_369 (by decide) ?_
                    refine lv_goto (tgt := 24) hx hb dL_law_392 (by decide) ?_
                    refine W.widen (k := 4 + 63 * (k + 3)) (n := 48 + 142 * (k + 3)) (by omega) (by omega) ?_
                    exact ih (k + 3) (by omega) (by omega) n f ad X Y _ _ hn hLI hS ls (lv_sub hl [5, 6, 7, 8, 9, 0] rfl)
                  · refine absurd ?_ d2
                    rcases hw with ⟨-, h⟩ | ⟨h, -⟩
                    · exact h
                    · exact absurd h (by omega)
            · refine lv_aload_n hx hb dL_law_294 rfl (lv_at hl 5 rfl) ?_
              refine lv_aload_n hx hb dL_law_295 rfl (lv_at hl 6 rfl) ?_
              refine lv_aload_n hx hb dL_law_296 rfl (lv_at hl 7 rfl) ?_
              refine lv_iload hx hb dL_law_297 (lv_at hl 8 rfl) ?_
              refine lv_iload hx hb dL_law_299 (lv_at hl 2 rfl) ?_
              refine lv_iload hx hb dL_law_301 (lv_at hl 1 rfl) ?_
              refine lv_iload hx hb dL_law_303 (lv_at hl 0 rfl) ?_
              have hP := hLI.1
              have hPa := hLI.2.1
              have hXa := hLI.2.2.1
              have hYa := hLI.2.2.2.1
              have hC := hLI.2.2.2.2.1
              have hI := hLI.2.2.2.2.2
              refine va_calli (va_runS (As := [.ref h0, .ref ax, .ref ay, .int (nI n), .int r1, .int r2, .int r3]) (rest := []) ⟨hx, hb, hml, hown, hts⟩ (m_L_turnHolds l D _ h0 pa ax ay _ n 0 1 2 dA cX cY f ad X Y r1 r2 r3 hn rfl rfl rfl (fun j hj => (hI j hj).1) (fun j hj => (hI j hj).2.2.2.2.2.1) (fun j hj => (hI j hj).2.2.2.2.2.2)) (va_cwS 7 hts (lw_S q201 q202 q5 q203) rfl rfl rfl (by decide +kernel) ⟨Nat.le_of_ble_eq_true rfl, Nat.le_of_ble_eq_true rfl⟩) (gS rfl ⟨⟨hP, hPa, hC⟩, hXa, hYa⟩ hK) rfl rfl hl.1 rfl (lv_room (Nat.le_of_ble_eq_true rfl)) dL_law_305 ⟨by show 4 + 63 * k + 0 + 0 + 0 + 0 + 4 ≤ 1200000; omega, by show 48 + 142 * k + 0 + 0 + 0 + 0 + 8 ≤ 5502250; omega⟩) hS (fun q h1 h2 => absurd h2 (Nat.not_le.mpr h1)) (fun q h => hA q (Nat.le_trans hS.1 h)) (fun r u t H5 locs ht hvm hw hB hz hk1 hS => ?_)
              have hw : r = 1 := hw
              rw [hw]
              have hLI := hLI.keep0 hk1
              refine lv_if_ne (tgt := 313) hx hb dL_law_308 (by decide) (fun d1 => ?_) (fun d1 => ?_)
              · refine lv_iinc (v := nI (k + 4)) (lv' := [(5, .int (nI (k + 4))), (9, .int r3), (8, .int r2), (7, .int r1), (6, .int (r0 &&& 7)), (0, .ref b), (1, .ref h0), (2, .ref ax), (3, .ref ay), (4, .int (nI n))]) hx hb dL_law_313 hl (k := 9) rfl (nI_add k 4) (by decide) rfl (fun ls hl => ?_)
                refine lv_goto (tgt := 392) hx hb dL_law_316 (by decide) ?_
                refine lv_goto (tgt := 24) hx hb dL_law_392 (by decide) ?_
                refine W.widen (k := 4 + 63 * (k + 4)) (n := 48 + 142 * (k + 4)) (by omega) (by omega) ?_
                exact ih (k + 4) (by omega) (by omega) n f ad X Y _ _ hn hLI hS ls (lv_sub hl [5, 6, 7, 8, 9, 0] rfl)
              · exact absurd d1 (by decide)
          · refine lv_aload_n hx hb dL_law_275 rfl (lv_at hl 5 rfl) ?_
            have hP := hLI.1
            have hPa := hLI.2.1
            have hXa := hLI.2.2.1
            have hYa := hLI.2.2.2.1
            have hC := hLI.2.2.2.2.1
            have hI := hLI.2.2.2.2.2
            refine va_callv (va_runV (As := []) (rest := []) ⟨hx, hb, hml, hown, hts⟩ (m_TD_wipe l D _ h0 pa _ (nI n)) (cwV 0 hts (lw_V q72 q73 q74 q6 q75) rfl rfl rfl (by decide +kernel) ⟨Nat.le_of_ble_eq_true rfl, Nat.le_of_ble_eq_true rfl⟩) (gV (va_recv hK.1 hP (ci := 0) (q0 := 0) rfl rfl) rfl hP hK) rfl rfl hl.1 rfl (lv_room (Nat.le_of_ble_eq_true rfl)) dL_law_276 ⟨by show 4 + 63 * k + 0 + 0 + 0 + 0 + 0 ≤ 1200000; omega, by show 48 + 142 * k + 0 + 0 + 0 + 0 + 0 ≤ 5502250; omega⟩) hS (fun q h1 h2 => h2.elim (fun e => e ▸ hAh) (fun h => absurd h (Nat.not_le.mpr h1))) (fun q h => h.elim (fun e => e ▸ hAh) (fun h => hA q (Nat.le_trans hS.1 h))) (fun u t H5 locs ht hvm hw hB hz hk1 hS => ?_)
            have hP : C1 D h0 (Dk pa (nI 0)) H5 := by rw [nI_0, ← ht]; exact hB
            have hLI2 : LI D h0 pa ax ay dA cX cY 0 f ad X Y H5 := ⟨hP, hPa.keep1 hk1 n1.symm, hXa.keep1 hk1 n2.symm, hYa.keep1 hk1 n3.symm, fun j hj => absurd hj (Nat.not_lt_zero j), fun j hj => absurd hj (Nat.not_lt_zero j)⟩
            refine lv_iconst (v := 0) hx hb dL_law_279 (by decide) ?_
            rw [← nI_0]
            refine lv_istore (lv' := [(4, .int (nI 0)), (9, .int r3), (8, .int r2), (7, .int r1), (6, .int (r0 &&& 7)), (0, .ref b), (1, .ref h0), (2, .ref ax), (3, .ref ay), (5, .int (nI k))]) hx hb dL_law_280 hl (by decide) rfl (fun ls hl => ?_)
            refine lv_iinc (v := nI (k + 1)) (lv' := [(5, .int (nI (k + 1))), (4, .int (nI 0)), (9, .int r3), (8, .int r2), (7, .int r1), (6, .int (r0 &&& 7)), (0, .ref b), (1, .ref h0), (2, .ref ax), (3, .ref ay)]) hx hb dL_law_282 hl (k := 9) rfl (nI_add k 1) (by decide) rfl (fun ls hl => ?_)
            refine lv_goto (tgt := 392) hx hb dL_law_285 (by decide) ?_
            refine lv_goto (tgt := 24) hx hb dL_law_392 (by decide) ?_
            refine W.widen (k := 4 + 63 * (k + 1)) (n := 48 + 142 * (k + 1)) (by omega) (by omega) ?_
            exact ih (k + 1) (by omega) (by omega) 0 f ad X Y _ _ (by omega) hLI2 hS ls (lv_sub hl [6, 7, 8, 9, 1, 0] rfl)
        · refine lv_iload hx hb dL_law_142 (lv_at hl 8 rfl) ?_
          refine lv_iconst (v := 2) hx hb dL_law_144 (by decide) ?_
          have hP := hLI.1
          have hPa := hLI.2.1
          have hXa := hLI.2.2.1
          have hYa := hLI.2.2.2.1
          have hC := hLI.2.2.2.2.1
          have hI := hLI.2.2.2.2.2
          by_cases hrm : 2 ≤ n ∧ n < 15
          · have hn15 := hrm.2
            have hn0 : 0 < n := by omega
            refine lv_icmp_lt (tgt := 159) hx hb dL_law_145 (by decide) (fun d1 => ?_) (fun d1 => ?_)
            · exact absurd d1 (show ¬ nI n < nI 2 from nI_nlt hrm.1 (by omega))
            · refine lv_iload hx hb dL_law_148 (lv_at hl 8 rfl) ?_
              refine lv_bipush (v := 15) hx hb dL_law_150 (by decide) ?_
              refine lv_icmp_ge (tgt := 159) hx hb dL_law_152 (by decide) (fun d2 => ?_) (fun d2 => ?_)
              · exact absurd d2 (show ¬ nI 15 ≤ nI n from nI_ge hn15 (by decide))
              · refine lv_iconst (v := 1) hx hb dL_law_155 (by decide) ?_
                refine lv_goto (tgt := 160) hx hb dL_law_156 (by decide) ?_
                refine lv_istore (lv' := [(10, .int 1), (9, .int r3), (8, .int r2), (7, .int r1), (6, .int (r0 &&& 7)), (0, .ref b), (1, .ref h0), (2, .ref ax), (3, .ref ay), (4, .int (nI n)), (5, .int (nI k))]) hx hb dL_law_160 hl (by decide) rfl (fun ls hl => ?_)
                refine lv_aload_n hx hb dL_law_162 rfl (lv_at hl 6 rfl) ?_
                refine lv_iload hx hb dL_law_163 (lv_at hl 3 rfl) ?_
                refine lv_iload hx hb dL_law_165 (lv_at hl 2 rfl) ?_
                refine lv_iload hx hb dL_law_167 (lv_at hl 1 rfl) ?_
                refine va_calli (va_runV (As := [.int r1, .int r2, .int r3]) (rest := []) ⟨hx, hb, hml, hown, hts⟩ (m_TD_btw l D _ h0 pa _ n 0 dA f ad X Y r1 r2 r3 hrm.1 hn15 rfl (fun j hj => (hI j hj).1) n1 (fun j hj => (hI j hj).2.2.2.2.2.1) (fun j hj => (hI j hj).2.2.2.2.2.2)) (cwV 3 hts (lw_V q62 q63 q64 q6 q65) rfl rfl rfl (by decide +kernel) ⟨Nat.le_of_ble_eq_true rfl, Nat.le_of_ble_eq_true rfl⟩) (gV (va_recv hK.1 hP (ci := 0) (q0 := 0) rfl rfl) rfl ⟨hP, hPa, hC⟩ hK) rfl rfl hl.1 rfl (lv_room (Nat.le_of_ble_eq_true rfl)) dL_law_169 ⟨by show 4 + 63 * k + 0 + 0 + 0 + 0 + 1 ≤ 1200000; omega, by show 48 + 142 * k + 0 + 0 + 0 + 0 + 3 ≤ 5502250; omega⟩) hS (fun q h1 h2 => h2.elim (fun e => e ▸ hAh) (fun h => h.elim (fun e => e ▸ hAp) (fun h => absurd h (Nat.not_le.mpr h1)))) (fun q h => h.elim (fun e => e ▸ hAh) (fun h => h.elim (fun e => e ▸ hAp) (fun h => hA q (Nat.le_trans hS.1 h)))) (fun r u t H5 locs ht hvm hw hB hz hk1 hS => ?_)
                obtain ⟨hu0, hP2, hPa2, hU⟩ := hB
                rw [ht] at hP2 hPa2 hU
                have hw : r = 1 := hw
                rw [hw]
                have hu : u ≠ h0 ∧ u ≠ pa ∧ u ≠ ax ∧ u ≠ ay := ⟨fun q => absurd hP.lt (by omega), fun q => absurd hPa.lt (by omega), fun q => absurd hXa.lt (by omega), fun q => absurd hYa.lt (by omega)⟩
                have hXa := hXa.keep2 hk1 n2.symm n4.symm
                have hYa := hYa.keep2 hk1 n3.symm n5.symm
                have hC := fun j (hj : j < n) => (hC j hj).keep2 hk1 (hI j hj).2.1 (hI j hj).2.2.1
                have hP := hP2
                have hPa := hPa2
                refine lv_iload hx hb dL_law_172 (lv_at hl 0 rfl) ?_
                refine lv_icmp_eq (tgt := 179) hx hb dL_law_174 (by decide) (fun d3 => ?_) (fun d3 => ?_)
                · refine lv_iload hx hb dL_law_179 (lv_at hl 0 rfl) ?_
                  refine lv_if_eq (tgt := 263) hx hb dL_law_181 (by decide) (fun d4 => ?_) (fun d4 => ?_)
                  · exact absurd d4 (by decide)
                  · refine lv_iload hx hb dL_law_184 (lv_at hl 3 rfl) ?_
                    refine lv_iload hx hb dL_law_186 (lv_at hl 9 rfl) ?_
                    refine va_calli (va_runS (As := [.int r1, .int (nI n)]) (rest := []) ⟨hx, hb, hml, hown, hts⟩ (m_L_pick l D _ r1 n _ hn hn0) (va_cwS 2 hts (lw_S q191 q192 q5 q193) rfl rfl rfl (by decide +kernel) ⟨Nat.le_of_ble_eq_true rfl, Nat.le_of_ble_eq_true rfl⟩) (gS rfl trivial hK) rfl rfl hl.1 rfl (lv_room (Nat.le_of_ble_eq_true rfl)) dL_law_188 ⟨by show 4 + 63 * k + 0 + 0 + 0 + 0 + 1 + 0 ≤ 1200000; omega, by show 48 + 142 * k + 0 + 0 + 0 + 0 + 3 + 0 ≤ 5502250; omega⟩) hS (fun q h1 h2 => absurd h2 (Nat.not_le.mpr h1)) (fun q h => hA q (Nat.le_trans hS.1 h)) (fun qr1 ur1 t Hr1p locs ht hvm hwp hB hz hk1 hS => ?_)
                    have hwp : qr1 = nI (pkN r1 n) := hwp
                    rw [hwp]
                    have hP := hP.keep0 hk1
                    have hPa := hPa.keep0 hk1
                    have hXa := hXa.keep0 hk1
                    have hYa := hYa.keep0 hk1
                    have hU := hU.keep0 hk1
                    have hC := fun j (hj : j < n) => (hC j hj).keep0 hk1
                    refine lv_istore (lv' := [(11, .int (nI (pkN r1 n))), (10, .int 1), (9, .int r3), (8, .int r2), (7, .int r1), (6, .int (r0 &&& 7)), (0, .ref b), (1, .ref h0), (2, .ref ax), (3, .ref ay), (4, .int (nI n)), (5, .int (nI k))]) hx hb dL_law_191 hl (by decide) rfl (fun ls hl => ?_)
                    refine lv_iload hx hb dL_law_193 (lv_at hl 3 rfl) ?_
                    refine lv_iload hx hb dL_law_195 (lv_at hl 10 rfl) ?_
                    refine va_calli (va_runS (As := [.int r2, .int (nI n)]) (rest := []) ⟨hx, hb, hml, hown, hts⟩ (m_L_pick l D _ r2 n _ hn hn0) (va_cwS 2 hts (lw_S q191 q192 q5 q193) rfl rfl rfl (by decide +kernel) ⟨Nat.le_of_ble_eq_true rfl, Nat.le_of_ble_eq_true rfl⟩) (gS rfl trivial hK) rfl rfl hl.1 rfl (lv_room (Nat.le_of_ble_eq_true rfl)) dL_law_197 ⟨by show 4 + 63 * k + 0 + 0 + 0 + 0 + 1 + 0 + 0 ≤ 1200000; omega, by show 48 + 142 * k + 0 + 0 + 0 + 0 + 3 + 0 + 0 ≤ 5502250; omega⟩) hS (fun q h1 h2 => absurd h2 (Nat.not_le.mpr h1)) (fun q h => hA q (Nat.le_trans hS.1 h)) (fun qr2 ur2 t Hr2p locs ht hvm hwp hB hz hk1 hS => ?_)
                    have hwp : qr2 = nI (pkN r2 n) := hwp
                    rw [hwp]
                    have hP := hP.keep0 hk1
                    have hPa := hPa.keep0 hk1
                    have hXa := hXa.keep0 hk1
                    have hYa := hYa.keep0 hk1
                    have hU := hU.keep0 hk1
                    have hC := fun j (hj : j < n) => (hC j hj).keep0 hk1
                    refine lv_istore (lv' := [(12, .int (nI (pkN r2 n))), (11, .int (nI (pkN r1 n))), (10, .int 1), (9, .int r3), (8, .int r2), (7, .int r1), (6, .int (r0 &&& 7)), (0, .ref b), (1, .ref h0), (2, .ref ax), (3, .ref ay), (4, .int (nI n)), (5, .int (nI k))]) hx hb dL_law_200 hl (by decide) rfl (fun ls hl => ?_)
                    refine lv_iload hx hb dL_law_202 (lv_at hl 3 rfl) ?_
                    refine lv_bipush (v := 7) hx hb dL_law_204 (by decide) ?_
                    refine lv_iand hx hb dL_law_206 ?_
                    refine lv_i2l hx hb dL_law_207 rfl ?_
                    refine lv_topl (fun lw elw => ?_)
                    refine lv_lstore (lv' := [(13, .long lw), (12, .int (nI (pkN r2 n))), (11, .int (nI (pkN r1 n))), (10, .int 1), (9, .int r3), (8, .int r2), (7, .int r1), (6, .int (r0 &&& 7)), (0, .ref b), (1, .ref h0), (2, .ref ax), (3, .ref ay), (4, .int (nI n)), (5, .int (nI k))]) hx hb dL_law_208 hl (by decide) rfl (fun ls hl => ?_)
                    refine lv_aload_n hx hb dL_law_210 rfl (lv_at hl 10 rfl) ?_
                    refine lv_iload hx hb dL_law_211 (lv_at hl 12 rfl) ?_
                    refine lv_ldc2 hx hb hown (hts _ q211) dL_law_213 ?_
                    refine lv_lload hx hb dL_law_216 (lv_at hl 0 rfl) ?_
                    refine lv_lsub hx hb dL_law_218 ?_
                    refine lv_aload_n hx hb dL_law_219 rfl (lv_at hl 10 rfl) ?_
                    refine lv_iload hx hb dL_law_220 (lv_at hl 2 rfl) ?_
                    refine fx_lald hx hb hK hXa (t0 := 1) rfl (j := pkN r1 n) (Nat.lt_of_lt_of_le (pkN_lt r1 hn0) hn) (by decide) rfl dL_law_222 ?_
                    refine lv_lmul hx hb dL_law_223 ?_
                    refine lv_lload hx hb dL_law_224 (lv_at hl 0 rfl) ?_
                    refine lv_aload_n hx hb dL_law_226 rfl (lv_at hl 10 rfl) ?_
                    refine lv_iload hx hb dL_law_227 (lv_at hl 1 rfl) ?_
                    refine fx_lald hx hb hK hXa (t0 := 1) rfl (j := pkN r2 n) (Nat.lt_of_lt_of_le (pkN_lt r2 hn0) hn) (by decide) rfl dL_law_229 ?_
                    refine lv_lmul hx hb dL_law_230 ?_
                    refine lv_ladd hx hb dL_law_231 ?_
                    refine lv_iconst (v := 3) hx hb dL_law_232 (by decide) ?_
                    refine lv_lshr hx hb dL_law_233 rfl ?_
                    rw [show ((((8 - lw) * (X (pkN r1 n))) + (lw * (X (pkN r2 n)))) >>> ((3 : Int32).toInt64 &&& 63)) = bw (X (pkN r1 n)) (X (pkN r2 n)) r3 by rw [elw, bw_eq]]
                    refine fx_last hx hb hK hXa hS hAx (t0 := 1) rfl (j := n) hn15 (by decide) rfl dL_law_234 (fun HX locs hXa hoq1 hsz1 hS => ?_)
                    have hP := hP.other hoq1 n2
                    have hPa := hPa.other hoq1 n4
                    have hYa := hYa.other hoq1 n6.symm
                    have hU := hU.other hoq1 hu.2.2.1
                    have hC := fun j (hj : j < n) => (hC j hj).other hoq1 ((hI j hj).2.2.2.1)
                    refine lv_aload_n hx hb dL_law_235 rfl (lv_at hl 11 rfl) ?_
                    refine lv_iload hx hb dL_law_236 (lv_at hl 12 rfl) ?_
                    refine lv_ldc2 hx hb hown (hts _ q211) dL_law_238 ?_
                    refine lv_lload hx hb dL_law_241 (lv_at hl 0 rfl) ?_
                    refine lv_lsub hx hb dL_law_243 ?_
                    refine lv_aload_n hx hb dL_law_244 rfl (lv_at hl 11 rfl) ?_
                    refine lv_iload hx hb dL_law_245 (lv_at hl 2 rfl) ?_
                    refine fx_lald hx hb hK hYa (t0 := 2) rfl (j := pkN r1 n) (Nat.lt_of_lt_of_le (pkN_lt r1 hn0) hn) (by decide) rfl dL_law_247 ?_
                    refine lv_lmul hx hb dL_law_248 ?_
                    refine lv_lload hx hb dL_law_249 (lv_at hl 0 rfl) ?_
                    refine lv_aload_n hx hb dL_law_251 rfl (lv_at hl 11 rfl) ?_
                    refine lv_iload hx hb dL_law_252 (lv_at hl 1 rfl) ?_
                    refine fx_lald hx hb hK hYa (t0 := 2) rfl (j := pkN r2 n) (Nat.lt_of_lt_of_le (pkN_lt r2 hn0) hn) (by decide) rfl dL_law_254 ?_
                    refine lv_lmul hx hb dL_law_255 ?_
                    refine lv_ladd hx hb dL_law_256 ?_
                    refine lv_iconst (v := 3) hx hb dL_law_257 (by decide) ?_
                    refine lv_lshr hx hb dL_law_258 rfl ?_
                    rw [show ((((8 - lw) * (Y (pkN r1 n))) + (lw * (Y (pkN r2 n)))) >>> ((3 : Int32).toInt64 &&& 63)) = bw (Y (pkN r1 n)) (Y (pkN r2 n)) r3 by rw [elw, bw_eq]]
                    refine fx_last hx hb hK hYa hS hAy (t0 := 2) rfl (j := n) hn15 (by decide) rfl dL_law_259 (fun HY locs hYa hoq2 hsz2 hS => ?_)
                    have hP := hP.other hoq2 n3
                    have hPa := hPa.other hoq2 n5
                    have hXa := hXa.other hoq2 n6
                    have hU := hU.other hoq2 hu.2.2.2
                    have hC := fun j (hj : j < n) => (hC j hj).other hoq2 ((hI j hj).2.2.2.2.1)
                    have hI1 := hI _ (pkN_lt r1 hn0)
                    have hI2 := hI _ (pkN_lt r2 hn0)
                    refine lv_iinc (v := nI (n + 1)) (lv' := [(4, .int (nI (n + 1))), (13, .long lw), (12, .int (nI (pkN r2 n))), (11, .int (nI (pkN r1 n))), (10, .int 1), (9, .int r3), (8, .int r2), (7, .int r1), (6, .int (r0 &&& 7)), (0, .ref b), (1, .ref h0), (2, .ref ax), (3, .ref ay), (5, .int (nI k))]) hx hb dL_law_260 hl (k := 12) rfl (nI_1 n) (by decide) rfl (fun ls hl => ?_)
                    have hLI2 := LI.push hP hPa hXa hYa hC hU hI hu (bw_bd r3 hI1.2.2.2.2.2.1 hI2.2.2.2.2.2.1) (bw_bd r3 hI1.2.2.2.2.2.2 hI2.2.2.2.2.2.2)
                    refine lv_iinc (v := nI (k + 4)) (lv' := [(5, .int (nI (k + 4))), (4, .int (nI (n + 1))), (13, .long lw), (12, .int (nI (pkN r2 n))), (11, .int (nI (pkN r1 n))), (10, .int 1), (9, .int r3), (8, .int r2), (7, .int r1), (6, .int (r0 &&& 7)), (0, .ref b), (1, .ref h0), (2, .ref ax), (3, .ref ay)]) hx hb dL_law_263 hl (k := 13) rfl (nI_add k 4) (by decide) rfl (fun ls hl => ?_)
                    refine lv_goto (tgt := 392) hx hb dL_law_266 (by decide) ?_
                    refine lv_goto (tgt := 24) hx hb dL_law_392 (by decide) ?_
                    refine W.widen (k := 4 + 63 * (k + 4)) (n := 48 + 142 * (k + 4)) (by omega) (by omega) ?_
                    exact ih (k + 4) (by omega) (by omega) (n + 1) _ _ _ _ _ _ (by omega) hLI2 hS ls (lv_sub hl [10, 11, 12, 13, 1, 0] rfl)
                · exact absurd rfl d3
          · have hrn : n < 2 ∨ n = 15 := by omega
            refine lv_icmp_lt (tgt := 159) hx hb dL_law_145 (by decide) (fun d1 => ?_) (fun d1 => ?_)
            · refine lv_iconst (v := 0) hx hb dL_law_159 (by decide) ?_
              refine lv_istore (lv' := [(10, .int 0), (9, .int r3), (8, .int r2), (7, .int r1), (6, .int (r0 &&& 7)), (0, .ref b), (1, .ref h0), (2, .ref ax), (3, .ref ay), (4, .int (nI n)), (5, .int (nI k))]) hx hb dL_law_160 hl (by decide) rfl (fun ls hl => ?_)
              refine lv_aload_n hx hb dL_law_162 rfl (lv_at hl 6 rfl) ?_
              refine lv_iload hx hb dL_law_163 (lv_at hl 3 rfl) ?_
              refine lv_iload hx hb dL_law_165 (lv_at hl 2 rfl) ?_
              refine lv_iload hx hb dL_law_167 (lv_at hl 1 rfl) ?_
              refine va_calli (va_runV (As := [.int r1, .int r2, .int r3]) (rest := []) ⟨hx, hb, hml, hown, hts⟩ (m_TD_btwNo l D _ h0 pa _ n 0 dA f ad X Y r1 r2 r3 hrn) (cwV 3 hts (lw_V q62 q63 q64 q6 q65) rfl rfl rfl (by decide +kernel) ⟨Nat.le_of_ble_eq_true rfl, Nat.le_of_ble_eq_true rfl⟩) (gV (va_recv hK.1 hP (ci := 0) (q0 := 0) rfl rfl) rfl ⟨hP, hPa, hC⟩ hK) rfl rfl hl.1 rfl (lv_room (Nat.le_of_ble_eq_true rfl)) dL_law_169 ⟨by show 4 + 63 * k + 0 + 0 + 0 + 0 + 0 ≤ 1200000; omega, by show 48 + 142 * k + 0 + 0 + 0 + 0 + 0 ≤ 5502250; omega⟩) hS (fun q h1 h2 => absurd h2 (Nat.not_le.mpr h1)) (fun q h => hA q (Nat.le_trans hS.1 h)) (fun r u t H5 locs ht hvm hw hB hz hk1 hS => ?_)
              have hw : r = 0 := hw
              rw [hw]
              have hLI := hLI.keep0 hk1
              refine lv_iload hx hb dL_law_172 (lv_at hl 0 rfl) ?_
              refine lv_icmp_eq (tgt := 179) hx hb dL_law_174 (by decide) (fun d3 => ?_) (fun d3 => ?_)
              · refine lv_iload hx hb dL_law_179 (lv_at hl 0 rfl) ?_
                refine lv_if_eq (tgt := 263) hx hb dL_law_181 (by decide) (fun d4 => ?_) (fun d4 => ?_)
                · refine lv_iinc (v := nI (k + 4)) (lv' := [(5, .int (nI (k + 4))), (10, .int 0), (9, .int r3), (8, .int r2), (7, .int r1), (6, .int (r0 &&& 7)), (0, .ref b), (1, .ref h0), (2, .ref ax), (3, .ref ay), (4, .int (nI n))]) hx hb dL_law_263 hl (k := 10) rfl (nI_add k 4) (by decide) rfl (fun ls hl => ?_)
                  refine lv_goto (tgt := 392) hx hb dL_law_266 (by decide) ?_
                  refine lv_goto (tgt := 24) hx hb dL_law_392 (by decide) ?_
                  refine W.widen (k := 4 + 63 * (k + 4)) (n := 48 + 142 * (k + 4)) (by omega) (by omega) ?_
                  exact ih (k + 4) (by omega) (by omega) n f ad X Y _ _ hn hLI hS ls (lv_sub hl [6, 7, 8, 9, 10, 0] rfl)
                · exact absurd rfl d4
              · exact absurd rfl d3
            · refine lv_iload hx hb dL_law_148 (lv_at hl 8 rfl) ?_
              refine lv_bipush (v := 15) hx hb dL_law_150 (by decide) ?_
              refine lv_icmp_ge (tgt := 159) hx hb dL_law_152 (by decide) (fun d2 => ?_) (fun d2 => ?_)
              · refine lv_iconst (v := 0) hx hb dL_law_159 (by decide) ?_
                refine lv_istore (lv' := [(10, .int 0), (9, .int r3), (8, .int r2), (7, .int r1), (6, .int (r0 &&& 7)), (0, .ref b), (1, .ref h0), (2, .ref ax), (3, .ref ay), (4, .int (nI n)), (5, .int (nI k))]) hx hb dL_law_160 hl (by decide) rfl (fun ls hl => ?_)
                refine lv_aload_n hx hb dL_law_162 rfl (lv_at hl 6 rfl) ?_
                refine lv_iload hx hb dL_law_163 (lv_at hl 3 rfl) ?_
                refine lv_iload hx hb dL_law_165 (lv_at hl 2 rfl) ?_
                refine lv_iload hx hb dL_law_167 (lv_at hl 1 rfl) ?_
                refine va_calli (va_runV (As := [.int r1, .int r2, .int r3]) (rest := []) ⟨hx, hb, hml, hown, hts⟩ (m_TD_btwNo l D _ h0 pa _ n 0 dA f ad X Y r1 r2 r3 hrn) (cwV 3 hts (lw_V q62 q63 q64 q6 q65) rfl rfl rfl (by decide +kernel) ⟨Nat.le_of_ble_eq_true rfl, Nat.le_of_ble_eq_true rfl⟩) (gV (va_recv hK.1 hP (ci := 0) (q0 := 0) rfl rfl) rfl ⟨hP, hPa, hC⟩ hK) rfl rfl hl.1 rfl (lv_room (Nat.le_of_ble_eq_true rfl)) dL_law_169 ⟨by show 4 + 63 * k + 0 + 0 + 0 + 0 + 0 ≤ 1200000; omega, by show 48 + 142 * k + 0 + 0 + 0 + 0 + 0 ≤ 5502250; omega⟩) hS (fun q h1 h2 => absurd h2 (Nat.not_le.mpr h1)) (fun q h => hA q (Nat.le_trans hS.1 h)) (fun r u t H5 locs ht hvm hw hB hz hk1 hS => ?_)
                have hw : r = 0 := hw
                rw [hw]
                have hLI := hLI.keep0 hk1
                refine lv_iload hx hb dL_law_172 (lv_at hl 0 rfl) ?_
                refine lv_icmp_eq (tgt := 179) hx hb dL_law_174 (by decide) (fun d3 => ?_) (fun d3 => ?_)
                · refine lv_iload hx hb dL_law_179 (lv_at hl 0 rfl) ?_
                  refine lv_if_eq (tgt := 263) hx hb dL_law_181 (by decide) (fun d4 => ?_) (fun d4 => ?_)
                  · refine lv_iinc (v := nI (k + 4)) (lv' := [(5, .int (nI (k + 4))), (10, .int 0), (9, .int r3), (8, .int r2), (7, .int r1), (6, .int (r0 &&& 7)), (0, .ref b), (1, .ref h0), (2, .ref ax), (3, .ref ay), (4, .int (nI n))]) hx hb dL_law_263 hl (k := 10) rfl (nI_add k 4) (by decide) rfl (fun ls hl => ?_)
                    refine lv_goto (tgt := 392) hx hb dL_law_266 (by decide) ?_
                    refine lv_goto (tgt := 24) hx hb dL_law_392 (by decide) ?_
                    refine W.widen (k := 4 + 63 * (k + 4)) (n := 48 + 142 * (k + 4)) (by omega) (by omega) ?_
                    exact ih (k + 4) (by omega) (by omega) n f ad X Y _ _ hn hLI hS ls (lv_sub hl [6, 7, 8, 9, 10, 0] rfl)
                  · exact absurd rfl d4
                · exact absurd rfl d3
              · have hf15 : n = 15 := by
                  rcases hrn with h | h
                  · exact absurd (show nI n < nI 2 from nI_lt h (by decide)) d1
                  · exact h
                exact absurd (by rw [hf15]; decide) d2
      · refine lv_aload_n hx hb dL_law_77 rfl (lv_at hl 5 rfl) ?_
        refine lv_iload hx hb dL_law_78 (lv_at hl 2 rfl) ?_
        refine lv_iload hx hb dL_law_80 (lv_at hl 1 rfl) ?_
        have hP := hLI.1
        have hPa := hLI.2.1
        have hXa := hLI.2.2.1
        have hYa := hLI.2.2.2.1
        have hC := hLI.2.2.2.2.1
        have hI := hLI.2.2.2.2.2
        rcases Nat.lt_or_ge n 15 with hn15 | hn15
        · refine va_calli (va_runV (As := [.int r1, .int r2]) (rest := []) ⟨hx, hb, hml, hown, hts⟩ (m_TD_put l D _ h0 pa _ n 0 dA f ad r1 r2 hn15 rfl n1) (cwV 2 hts (lw_V q30 q31 q32 q6 q33) rfl rfl rfl (by decide +kernel) ⟨Nat.le_of_ble_eq_true rfl, Nat.le_of_ble_eq_true rfl⟩) (gV (va_recv hK.1 hP (ci := 0) (q0 := 0) rfl rfl) rfl ⟨hP, hPa⟩ hK) rfl rfl hl.1 rfl (lv_room (Nat.le_of_ble_eq_true rfl)) dL_law_82 ⟨by show 4 + 63 * k + 0 + 0 + 0 + 0 + 1 ≤ 1200000; omega, by show 48 + 142 * k + 0 + 0 + 0 + 0 + 3 ≤ 5502250; omega⟩) hS (fun q h1 h2 => h2.elim (fun e => e ▸ hAh) (fun h => h.elim (fun e => e ▸ hAp) (fun h => absurd h (Nat.not_le.mpr h1)))) (fun q h => h.elim (fun e => e ▸ hAh) (fun h => h.elim (fun e => e ▸ hAp) (fun h => hA q (Nat.le_trans hS.1 h)))) (fun r u t H5 locs ht hvm hw hB hz hk1 hS => ?_)
          obtain ⟨hu0, hP2, hPa2, hU⟩ := hB
          rw [ht] at hP2 hPa2 hU
          have hw : r = 1 := hw
          rw [hw]
          have hu : u ≠ h0 ∧ u ≠ pa ∧ u ≠ ax ∧ u ≠ ay := ⟨fun q => absurd hP.lt (by omega), fun q => absurd hPa.lt (by omega), fun q => absurd hXa.lt (by omega), fun q => absurd hYa.lt (by omega)⟩
          have hXa := hXa.keep2 hk1 n2.symm n4.symm
          have hYa := hYa.keep2 hk1 n3.symm n5.symm
          have hC := fun j (hj : j < n) => (hC j hj).keep2 hk1 (hI j hj).2.1 (hI j hj).2.2.1
          have hP := hP2
          have hPa := hPa2
          refine lv_iload hx hb dL_law_85 (lv_at hl 8 rfl) ?_
          refine lv_bipush (v := 15) hx hb dL_law_87 (by decide) ?_
          refine lv_icmp_ge (tgt := 96) hx hb dL_law_89 (by decide) (fun d1 => ?_) (fun d1 => ?_)
          · exact absurd d1 (show ¬ nI 15 ≤ nI n from nI_ge hn15 (by decide))
          · refine lv_iconst (v := 1) hx hb dL_law_92 (by decide) ?_
            refine lv_goto (tgt := 97) hx hb dL_law_93 (by decide) ?_
            refine lv_icmp_eq (tgt := 102) hx hb dL_law_97 (by decide) (fun d2 => ?_) (fun d2 => ?_)
            · refine lv_iload hx hb dL_law_102 (lv_at hl 8 rfl) ?_
              refine lv_bipush (v := 15) hx hb dL_law_104 (by decide) ?_
              refine lv_icmp_ge (tgt := 130) hx hb dL_law_106 (by decide) (fun d3 => ?_) (fun d3 => ?_)
              · exact absurd d3 (show ¬ nI 15 ≤ nI n from nI_ge hn15 (by decide))
              · refine lv_aload_n hx hb dL_law_109 rfl (lv_at hl 6 rfl) ?_
                refine lv_iload hx hb dL_law_110 (lv_at hl 8 rfl) ?_
                refine lv_iload hx hb dL_law_112 (lv_at hl 2 rfl) ?_
                refine lv_iconst (v := 2) hx hb dL_law_114 (by decide) ?_
                refine lv_ishr hx hb dL_law_115 ?_
                refine lv_i2l hx hb dL_law_116 rfl ?_
                refine fx_last hx hb hK hXa hS hAx (t0 := 1) rfl (j := n) hn15 (by decide) rfl dL_law_117 (fun HX locs hXa hoq1 hsz1 hS => ?_)
                have hP := hP.other hoq1 n2
                have hPa := hPa.other hoq1 n4
                have hYa := hYa.other hoq1 n6.symm
                have hU := hU.other hoq1 hu.2.2.1
                have hC := fun j (hj : j < n) => (hC j hj).other hoq1 ((hI j hj).2.2.2.1)
                refine lv_aload_n hx hb dL_law_118 rfl (lv_at hl 7 rfl) ?_
                refine lv_iload hx hb dL_law_119 (lv_at hl 8 rfl) ?_
                refine lv_iload hx hb dL_law_121 (lv_at hl 1 rfl) ?_
                refine lv_iconst (v := 2) hx hb dL_law_123 (by decide) ?_
                refine lv_ishr hx hb dL_law_124 ?_
                refine lv_i2l hx hb dL_law_125 rfl ?_
                refine fx_last hx hb hK hYa hS hAy (t0 := 2) rfl (j := n) hn15 (by decide) rfl dL_law_126 (fun HY locs hYa hoq2 hsz2 hS => ?_)
                have hP := hP.other hoq2 n3
                have hPa := hPa.other hoq2 n5
                have hXa := hXa.other hoq2 n6
                have hU := hU.other hoq2 hu.2.2.2
                have hC := fun j (hj : j < n) => (hC j hj).other hoq2 ((hI j hj).2.2.2.2.1)
                refine lv_iinc (v := nI (n + 1)) (lv' := [(4, .int (nI (n + 1))), (9, .int r3), (8, .int r2), (7, .int r1), (6, .int (r0 &&& 7)), (0, .ref b), (1, .ref h0), (2, .ref ax), (3, .ref ay), (5, .int (nI k))]) hx hb dL_law_127 hl (k := 8) rfl (nI_1 n) (by decide) rfl (fun ls hl => ?_)
                have hLI2 := LI.push hP hPa hXa hYa hC hU hI hu (qt_bd r1) (qt_bd r2)
                refine lv_iinc (v := nI (k + 3)) (lv' := [(5, .int (nI (k + 3))), (4, .int (nI (n + 1))), (9, .int r3), (8, .int r2), (7, .int r1), (6, .int (r0 &&& 7)), (0, .ref b), (1, .ref h0), (2, .ref ax), (3, .ref ay)]) hx hb dL_law_130 hl (k := 9) rfl (nI_add k 3) (by decide) rfl (fun ls hl => ?_)
                refine lv_goto (tgt := 392) hx hb dL_law_133 (by decide) ?_
                refine lv_goto (tgt := 24) hx hb dL_law_392 (by decide) ?_
                refine W.widen (k := 4 + 63 * (k + 3)) (n := 48 + 142 * (k + 3)) (by omega) (by omega) ?_
                exact ih (k + 3) (by omega) (by omega) (n + 1) _ _ _ _ _ _ (by omega) hLI2 hS ls (lv_sub hl [6, 7, 8, 9, 1, 0] rfl)
            · exact absurd rfl d2
        · have hn15 : n = 15 := by omega
          refine va_calli (va_runV (As := [.int r1, .int r2]) (rest := []) ⟨hx, hb, hml, hown, hts⟩ (m_TD_putNo l D _ h0 pa _ n 0 dA f ad r1 r2 hn15) (cwV 2 hts (lw_V q30 q31 q32 q6 q33) rfl rfl rfl (by decide +kernel) ⟨Nat.le_of_ble_eq_true rfl, Nat.le_of_ble_eq_true rfl⟩) (gV (va_recv hK.1 hP (ci := 0) (q0 := 0) rfl rfl) rfl ⟨hP, hPa⟩ hK) rfl rfl hl.1 rfl (lv_room (Nat.le_of_ble_eq_true rfl)) dL_law_82 ⟨by show 4 + 63 * k + 0 + 0 + 0 + 0 + 0 ≤ 1200000; omega, by show 48 + 142 * k + 0 + 0 + 0 + 0 + 0 ≤ 5502250; omega⟩) hS (fun q h1 h2 => absurd h2 (Nat.not_le.mpr h1)) (fun q h => hA q (Nat.le_trans hS.1 h)) (fun r u t H5 locs ht hvm hw hB hz hk1 hS => ?_)
          have hw : r = 0 := hw
          rw [hw]
          have hLI := hLI.keep0 hk1
          have hge : (15 : Int32) ≤ nI n := by rw [hn15]; decide
          refine lv_iload hx hb dL_law_85 (lv_at hl 8 rfl) ?_
          refine lv_bipush (v := 15) hx hb dL_law_87 (by decide) ?_
          refine lv_icmp_ge (tgt := 96) hx hb dL_law_89 (by decide) (fun d1 => ?_) (fun d1 => ?_)
          · refine lv_iconst (v := 0) hx hb dL_law_96 (by decide) ?_
            refine lv_icmp_eq (tgt := 102) hx hb dL_law_97 (by decide) (fun d2 => ?_) (fun d2 => ?_)
            · refine lv_iload hx hb dL_law_102 (lv_at hl 8 rfl) ?_
              refine lv_bipush (v := 15) hx hb dL_law_104 (by decide) ?_
              refine lv_icmp_ge (tgt := 130) hx hb dL_law_106 (by decide) (fun d3 => ?_) (fun d3 => ?_)
              · refine lv_iinc (v := nI (k + 3)) (lv' := [(5, .int (nI (k + 3))), (9, .int r3), (8, .int r2), (7, .int r1), (6, .int (r0 &&& 7)), (0, .ref b), (1, .ref h0), (2, .ref ax), (3, .ref ay), (4, .int (nI n))]) hx hb dL_law_130 hl (k := 9) rfl (nI_add k 3) (by decide) rfl (fun ls hl => ?_)
                refine lv_goto (tgt := 392) hx hb dL_law_133 (by decide) ?_
                refine lv_goto (tgt := 24) hx hb dL_law_392 (by decide) ?_
                refine W.widen (k := 4 + 63 * (k + 3)) (n := 48 + 142 * (k + 3)) (by omega) (by omega) ?_
                exact ih (k + 3) (by omega) (by omega) n f ad X Y _ _ hn hLI hS ls (lv_sub hl [5, 6, 7, 8, 9, 0] rfl)
              · exact absurd hge d3
            · exact absurd rfl d2
          · exact absurd hge d1
end
section
/-! THE LAW's end: printed by wip/D-29928w/law4.py -/
theorem un0 {Hb H H1 : Heap} (hun : ∀ q : Nat, q < Hb.size → H[q]? = Hb[q]?) (hsz : Hb.size ≤ H.size) (hk : ∀ q : Nat, q < H.size → ¬ Fr0 H.size q → H1[q]? = H[q]?) : ∀ q : Nat, q < Hb.size → H1[q]? = Hb[q]? :=
  fun q hq => (hk q (Nat.lt_of_lt_of_le hq hsz) (Nat.not_le.mpr (Nat.lt_of_lt_of_le hq hsz))).trans (hun q hq)
theorem un1 {Hb H H1 : Heap} {a : Nat} (hun : ∀ q : Nat, q < Hb.size → H[q]? = Hb[q]?) (hsz : Hb.size ≤ H.size) (ha : Hb.size ≤ a) (hk : ∀ q : Nat, q < H.size → ¬ Fr1 a H.size q → H1[q]? = H[q]?) : ∀ q : Nat, q < Hb.size → H1[q]? = Hb[q]? :=
  fun q hq => (hk q (Nat.lt_of_lt_of_le hq hsz) (fun h => h.elim (fun e => absurd hq (by omega)) (Nat.not_le.mpr (Nat.lt_of_lt_of_le hq hsz)))).trans (hun q hq)
theorem un2 {Hb H H1 : Heap} {a d : Nat} (hun : ∀ q : Nat, q < Hb.size → H[q]? = Hb[q]?) (hsz : Hb.size ≤ H.size) (ha : Hb.size ≤ a) (hd : Hb.size ≤ d) (hk : ∀ q : Nat, q < H.size → ¬ Fr2 a d H.size q → H1[q]? = H[q]?) : ∀ q : Nat, q < Hb.size → H1[q]? = Hb[q]? :=
  fun q hq => (hk q (Nat.lt_of_lt_of_le hq hsz) (fun h => h.elim (fun e => absurd hq (by omega)) (fun h => h.elim (fun e => absurd hq (by omega)) (Nat.not_le.mpr (Nat.lt_of_lt_of_le hq hsz))))).trans (hun q hq)
theorem turn_same (x y : Int64) : sgI (C64 x y x y x y) = 0 := by
  refine sgI_0.mpr ?_
  unfold C64 crossI
  have h := Int.mul_comm x.toInt y.toInt
  omega
set_option maxHeartbeats 4000000 in
set_option maxRecDepth 100000 in
/-- the law's last loop: each three and each two that follow one another -/
theorem law_tail {p : Program} {l : Launch} {e : Env} {s : State} {m : MethodId} {below : List Frame} {meth : Method} {c : Code} {b L : Nat} {xs : Nat → Int32} {D : va_G} {A : Nat → Prop} {h0 pa ax ay : Nat} {dA cX cY : ClassId} 
    (hx : p.tables.exec = Jvm.exec) (hb : c.code = cL_law) (hml : c.maxLocals = 15) (hown : s.vm.findClass RX0 = some m.cls) (hts : ∀ w ∈ lw_all, w.before #[Value.ref b] s = true) (hAe : A = Fr0 s.heap.size) (hA : ∀ q : Nat, s.heap.size ≤ q → A q) (hL : L ≤ 60) (hX : va_X b L xs s s.heap) (hbl : b < s.heap.size)
    (hr : meth.sig.returnType = ret) (hlocks : meth.locks = false)
    (hK : Kn D [(dA, .object "Coordinate"), (cX, .long), (cY, .long)] s) (hAh : A h0) (hAp : A pa) (hAx : A ax) (hAy : A ay) (n1 : h0 ≠ pa) (n2 : h0 ≠ ax) (n3 : h0 ≠ ay) (n4 : pa ≠ ax) (n5 : pa ≠ ay) (n6 : ax ≠ ay) {n : Nat} {f : Nat → Option Nat} {ad : Nat → Nat} {X Y : Nat → Int64} (hn : n ≤ 15) :
    ∀ (fuel i : Nat), i + fuel = n + 1 → ∀ (H : Heap) (locs : List Loc), LI D h0 pa ax ay dA cX cY n f ad X Y H → va_S A s.heap H locs → ∀ (ls : Array Slot), lv_has ls 15 [(0, .ref b), (1, .ref h0), (2, .ref ax), (3, .ref ay), (4, .int (nI n)), (7, .int (nI i))] → W p l e room_1 s m #[Value.ref b] below meth c H locs (6000 + 67 * i) (12000 + 150 * i) (lw_Z below #[Value.ref b] s) (F0 m 453 ls []) := by
  intro fuel
  induction fuel with
  | zero =>
    intro i hi H locs hLI hS ls hl
    refine lv_iload hx hb dL_law_453 (lv_at hl 5 rfl) ?_
    refine lv_iload hx hb dL_law_455 (lv_at hl 4 rfl) ?_
    refine lv_icmp_gt (tgt := 506) hx hb dL_law_457 (by decide) (fun c1 => ?_) (fun c1 => ?_)
    · refine lv_iconst (v := 1) hx hb dL_law_506 (by decide) ?_
      refine va_forget (fun q hq => by have h1 := hS.2.2 q hq; rw [hAe] at h1; exact h1) ?_
      refine W.widen (k := 1200000) (n := 5502250) (by omega) (by omega) ?_
      exact lw_ret hx hb hr hlocks dL_law_507
    · exact absurd (nI_lt (by omega) (by omega)) c1
  | succ fuel ih =>
    intro i hi H locs hLI hS ls hl
    refine lv_iload hx hb dL_law_453 (lv_at hl 5 rfl) ?_
    refine lv_iload hx hb dL_law_455 (lv_at hl 4 rfl) ?_
    refine lv_icmp_gt (tgt := 506) hx hb dL_law_457 (by decide) (fun c1 => ?_) (fun c1 => ?_)
    · exact absurd c1 (nI_nlt (by omega) (by omega))
    · refine lv_aload_n hx hb dL_law_460 rfl (lv_at hl 1 rfl) ?_
      refine lv_aload_n hx hb dL_law_461 rfl (lv_at hl 2 rfl) ?_
      refine lv_aload_n hx hb dL_law_462 rfl (lv_at hl 3 rfl) ?_
      refine lv_iload hx hb dL_law_463 (lv_at hl 4 rfl) ?_
      refine lv_iload hx hb dL_law_465 (lv_at hl 5 rfl) ?_
      refine lv_iload hx hb dL_law_467 (lv_at hl 5 rfl) ?_
      refine lv_iconst (v := 1) hx hb dL_law_469 (by decide) ?_
      refine lv_iadd hx hb dL_law_470 ?_
      refine lv_iload hx hb dL_law_471 (lv_at hl 5 rfl) ?_
      refine lv_iconst (v := 2) hx hb dL_law_473 (by decide) ?_
      refine lv_iadd hx hb dL_law_474 ?_
      have hP := hLI.1
      have hPa := hLI.2.1
      have hXa := hLI.2.2.1
      have hYa := hLI.2.2.2.1
      have hC := hLI.2.2.2.2.1
      have hI := hLI.2.2.2.2.2
      refine va_calli (va_runS (As := [.ref h0, .ref ax, .ref ay, .int (nI n), .int (nI i), .int ((nI i) + 1), .int ((nI i) + 2)]) (rest := []) ⟨hx, hb, hml, hown, hts⟩ (m_L_turnHolds l D _ h0 pa ax ay _ n 0 1 2 dA cX cY f ad X Y (nI i) ((nI i) + 1) ((nI i) + 2) hn rfl rfl rfl (fun j hj => (hI j hj).1) (fun j hj => (hI j hj).2.2.2.2.2.1) (fun j hj => (hI j hj).2.2.2.2.2.2)) (va_cwS 7 hts (lw_S q201 q202 q5 q203) rfl rfl rfl (by decide +kernel) ⟨Nat.le_of_ble_eq_true rfl, Nat.le_of_ble_eq_true rfl⟩) (gS rfl ⟨⟨hP, hPa, hC⟩, hXa, hYa⟩ hK) rfl rfl hl.1 rfl (lv_room (Nat.le_of_ble_eq_true rfl)) dL_law_475 ⟨by show 6000 + 67 * i + 4 ≤ 1200000; omega, by show 12000 + 150 * i + 8 ≤ 5502250; omega⟩) hS (fun q h1 h2 => absurd h2 (Nat.not_le.mpr h1)) (fun q h => hA q (Nat.le_trans hS.1 h)) (fun r u t H5 locs ht hvm hw hB hz hk1 hS => ?_)
      have hw : r = 1 := hw
      rw [hw]
      have hLI := hLI.keep0 hk1
      refine lv_if_eq (tgt := 498) hx hb dL_law_478 (by decide) (fun d1 => ?_) (fun d1 => ?_)
      · exact absurd d1 (by decide)
      · refine lv_aload_n hx hb dL_law_481 rfl (lv_at hl 1 rfl) ?_
        refine lv_aload_n hx hb dL_law_482 rfl (lv_at hl 2 rfl) ?_
        refine lv_aload_n hx hb dL_law_483 rfl (lv_at hl 3 rfl) ?_
        refine lv_iload hx hb dL_law_484 (lv_at hl 4 rfl) ?_
        refine lv_iload hx hb dL_law_486 (lv_at hl 5 rfl) ?_
        refine lv_iload hx hb dL_law_488 (lv_at hl 5 rfl) ?_
        refine lv_iconst (v := 1) hx hb dL_law_490 (by decide) ?_
        refine lv_iadd hx hb dL_law_491 ?_
        have hP := hLI.1
        have hPa := hLI.2.1
        have hXa := hLI.2.2.1
        have hYa := hLI.2.2.2.1
        have hC := hLI.2.2.2.2.1
        have hI := hLI.2.2.2.2.2
        refine va_calli (va_runS (As := [.ref h0, .ref ax, .ref ay, .int (nI n), .int (nI i), .int ((nI i) + 1)]) (rest := []) ⟨hx, hb, hml, hown, hts⟩ (m_L_ownHolds l D _ h0 pa ax ay _ n 0 1 2 dA cX cY f ad X Y (nI i) ((nI i) + 1) hn rfl rfl rfl (fun j hj => (hI j hj).1) (fun j hj => (hI j hj).2.2.2.2.2.1) (fun j hj => (hI j hj).2.2.2.2.2.2)) (va_cwS 6 hts (lw_S q204 q205 q5 q206) rfl rfl rfl (by decide +kernel) ⟨Nat.le_of_ble_eq_true rfl, Nat.le_of_ble_eq_true rfl⟩) (gS rfl ⟨⟨hP, hPa, hC⟩, hXa, hYa⟩ hK) rfl rfl hl.1 rfl (lv_room (Nat.le_of_ble_eq_true rfl)) dL_law_492 ⟨by show 6000 + 67 * i + 4 + 63 ≤ 1200000; omega, by show 12000 + 150 * i + 8 + 142 ≤ 5502250; omega⟩) hS (fun q h1 h2 => absurd h2 (Nat.not_le.mpr h1)) (fun q h => hA q (Nat.le_trans hS.1 h)) (fun r9 u9 t H9 locs ht hvm hw9 hB hz hk1 hS => ?_)
        have hw9 : r9 = 1 := hw9
        rw [hw9]
        have hLI := hLI.keep0 hk1
        refine lv_if_ne (tgt := 500) hx hb dL_law_495 (by decide) (fun d2 => ?_) (fun d2 => ?_)
        · refine lv_iinc (v := nI (i + 1)) (lv' := [(7, .int (nI (i + 1))), (0, .ref b), (1, .ref h0), (2, .ref ax), (3, .ref ay), (4, .int (nI n))]) hx hb dL_law_500 hl (k := 5) rfl (nI_1 i) (by decide) rfl (fun ls hl => ?_)
          refine lv_goto (tgt := 453) hx hb dL_law_503 (by decide) ?_
          refine W.widen (k := 6000 + 67 * (i + 1)) (n := 12000 + 150 * (i + 1)) (by omega) (by omega) ?_
          exact ih (i + 1) (by omega) _ _ hLI hS ls (lv_sub hl [1, 2, 3, 4, 5, 0] rfl)
        · exact absurd d2 (by decide)
set_option maxHeartbeats 4000000 in
set_option maxRecDepth 100000 in
/-- behind the script: the second desk, and the last loop -/
theorem law_end {p : Program} {l : Launch} {e : Env} {s : State} {m : MethodId} {below : List Frame} {meth : Method} {c : Code} {b L : Nat} {xs : Nat → Int32} {D : va_G} {A : Nat → Prop} {h0 pa ax ay : Nat} {dA cX cY : ClassId} 
    (hx : p.tables.exec = Jvm.exec) (hb : c.code = cL_law) (hml : c.maxLocals = 15) (hown : s.vm.findClass RX0 = some m.cls) (hts : ∀ w ∈ lw_all, w.before #[Value.ref b] s = true) (hAe : A = Fr0 s.heap.size) (hA : ∀ q : Nat, s.heap.size ≤ q → A q) (hL : L ≤ 60) (hX : va_X b L xs s s.heap) (hbl : b < s.heap.size)
    (hr : meth.sig.returnType = ret) (hlocks : meth.locks = false)
    (hK : Kn D [(dA, .object "Coordinate"), (cX, .long), (cY, .long)] s) (hAh : A h0) (hAp : A pa) (hAx : A ax) (hAy : A ay) (n1 : h0 ≠ pa) (n2 : h0 ≠ ax) (n3 : h0 ≠ ay) (n4 : pa ≠ ax) (n5 : pa ≠ ay) (n6 : ax ≠ ay) {n : Nat} {f : Nat → Option Nat} {ad : Nat → Nat} {X Y : Nat → Int64} (hn : n ≤ 15) {H : Heap} {locs : List Loc} {ls : Array Slot} (hLI : LI D h0 pa ax ay dA cX cY n f ad X Y H) (hS : va_S A s.heap H locs) (hl : lv_has ls 15 [(0, .ref b), (1, .ref h0), (2, .ref ax), (3, .ref ay), (4, .int (nI n))]) : W p l e room_1 s m #[Value.ref b] below meth c H locs (5000) (10000) (lw_Z below #[Value.ref b] s) (F0 m 395 ls []) := by
  have hbA : ¬ A b := by rw [hAe]; exact Nat.not_le.mpr hbl
  refine va_forget (fun q hq => by have h1 := hS.2.2 q hq; rw [hAe] at h1; exact h1) ?_
  have hS0 : va_S A s.heap H [] := ⟨hS.1, hS.2.1, fun l h => by cases h⟩
  refine va_new (D := D) (ci := 0) (fs := [.null, .int 0]) (C := RX1) (T := TX1) (N := 2) hx hb hts in_X1 tyX1 tyX1_ok hown (hts _ q13) (hts _ q14) (hts _ q6) hK.1 (va_P0 (H := H)) (va_D0 (A := Fr0 H.size)) (va_S.rf (A := Fr0 H.size)) (fun q h => h) rfl (fun j hj => by rcases (show j = 0 ∨ j = 1 by omega) with rfl | rfl <;> rfl) (Nat.le_of_ble_eq_true rfl) (Nat.le_of_ble_eq_true rfl) dL_law_395 (fun q2 H1 hP2 hD2 hS2 => ?_)
  have hP : C1 D q2 (.inr (0, [.null, .int 0])) H1 := hP2
  have hq2 : H.size ≤ q2 := hD2.2 0 _ rfl
  have hun : ∀ q : Nat, q < H.size → H1[q]? = H[q]? := fun q hq => hS2.2.1 q hq (Nat.not_le.mpr hq)
  have hsz : H.size ≤ H1.size := hS2.1
  have hS : va_S A s.heap H1 [] := ⟨Nat.le_trans hS0.1 hsz, fun q h1 h2 => (hun q (Nat.lt_of_lt_of_le h1 hS0.1)).trans (hS0.2.1 q h1 h2), fun l h => by cases h⟩
  have hAq : A q2 := hA q2 (Nat.le_trans hS0.1 hq2)
  refine lv_dup hx hb dL_law_398 rfl ?_
  refine va_callv (va_runI (As := []) (rest := [.ref q2]) ⟨hx, hb, hml, hown, hts⟩ (m_TD_init l D _ q2 _) (cwI 0 hts (lw_meth q17) rfl rfl rfl (hts _ q6) (hts _ q15) (hts _ q16) rfl (by decide +kernel) ⟨Nat.le_of_ble_eq_true rfl, Nat.le_of_ble_eq_true rfl⟩) (gS rfl hP hK) rfl rfl hl.1 rfl (lv_room (Nat.le_of_ble_eq_true rfl)) dL_law_399 ⟨by show 5000 + 1 + 1 ≤ 1200000; omega, by show 10000 + 2 + 16 ≤ 5502250; omega⟩) hS (fun q h1 h2 => h2.elim (fun e => e ▸ hAq) (fun h => absurd h (Nat.not_le.mpr h1))) (fun q h => h.elim (fun e => e ▸ hAq) (fun h => hA q (Nat.le_trans hS.1 h))) (fun u t H2 locs ht hvm hw hB hz hk1 hS => ?_)
  obtain ⟨hu0, hB1, hPa, hK2⟩ := hB
  rw [ht] at hB1 hPa
  have hP : C1 D q2 (Dk u.1 (nI 0)) H2 := by rw [nI_0]; exact hB1
  have hK2 := hK2.moved hvm.symm
  have hun := un1 hun hsz hq2 hk1
  have hne : q2 ≠ u.1 := fun h => absurd hP2 (fun hh => by have h3 := C1.lt (D := D) (e := .inr (0, [.null, .int 0])) hh; omega)
  have hpb : H.size ≤ u.1 := Nat.le_trans hsz hu0
  have hAp2 : A u.1 := hA u.1 (Nat.le_trans hS0.1 hpb)
  have hsz := Nat.le_trans hsz hz
  refine lv_astore (lv' := [(6, .ref q2), (0, .ref b), (1, .ref h0), (2, .ref ax), (3, .ref ay), (4, .int (nI n))]) hx hb dL_law_402 hl (by decide) rfl (fun ls hl => ?_)
  refine lv_aload hx hb dL_law_404 (lv_at hl 0 rfl) ?_
  refine lv_iconst (v := 0) hx hb dL_law_406 (by decide) ?_
  refine lv_iconst (v := 1) hx hb dL_law_407 (by decide) ?_
  refine lv_iconst (v := 2) hx hb dL_law_408 (by decide) ?_
  refine va_calli (va_runV (As := [.int 0, .int 1, .int 2]) (rest := []) ⟨hx, hb, hml, hown, hts⟩ (m_TD_turn l D ([(dA, .object "Coordinate"), (cX, .long), (cY, .long)] ++ [(u.2, .object "Coordinate")]) q2 u.1 _ 0 3 u.2 (fun _ => none) ad X Y 0 1 2 (Nat.zero_le 15) rfl (fun j hj => absurd hj (Nat.not_lt_zero j)) (fun j hj => absurd hj (Nat.not_lt_zero j)) (fun j hj => absurd hj (Nat.not_lt_zero j))) (cwV 3 hts (lw_V q76 q77 q78 q6 q79) rfl rfl rfl (by decide +kernel) ⟨Nat.le_of_ble_eq_true rfl, Nat.le_of_ble_eq_true rfl⟩) (gV (va_recv hK.1 hP (ci := 0) (q0 := 0) rfl rfl) rfl ⟨hP, hPa, fun j hj => absurd hj (Nat.not_lt_zero j)⟩ hK2) rfl rfl hl.1 rfl (lv_room (Nat.le_of_ble_eq_true rfl)) dL_law_409 ⟨by show 5000 + 1 + 1 + 4 ≤ 1200000; omega, by show 10000 + 2 + 16 + 8 ≤ 5502250; omega⟩) hS (fun q h1 h2 => absurd h2 (Nat.not_le.mpr h1)) (fun q h => hA q (Nat.le_trans hS.1 h)) (fun r3 u3 t H3 locs ht hvm hw3 hB hz hk1 hS => ?_)
  have hw3 : r3 = -9 := hw3.trans (if_pos rfl)
  rw [hw3]
  have hun := un0 hun hsz hk1
  have hsz := Nat.le_trans hsz hz
  have hP := hP.keep0 hk1
  have hPa := hPa.keep0 hk1
  refine lv_bipush (v := (-9)) hx hb dL_law_412 (by decide) ?_
  refine lv_icmp_ne (tgt := 448) hx hb dL_law_414 (by decide) (fun d1 => ?_) (fun d1 => ?_)
  · exact absurd rfl d1
  · refine lv_aload hx hb dL_law_417 (lv_at hl 0 rfl) ?_
    refine lv_aload_n hx hb dL_law_419 rfl (lv_at hl 1 rfl) ?_
    refine lv_bipush (v := 58) hx hb dL_law_420 (by decide) ?_
    rw [show (58 : Int32) = nI 58 from rfl]
    refine va_calli (va_runS (As := [.ref b, .int (nI 58)]) (rest := [.ref q2]) ⟨hx, hb, hml, hown, hts⟩ (m_L_get l b L 58 _ xs hL (by decide)) (va_cwS 2 hts (lw_S q188 q189 q5 q190) rfl rfl rfl (by decide +kernel) ⟨Nat.le_of_ble_eq_true rfl, Nat.le_of_ble_eq_true rfl⟩) (xS rfl (Nat.lt_of_lt_of_le hbl hS.1) (hX.kept (hS.2.1 b hbl hbA))) rfl rfl hl.1 rfl (lv_room (Nat.le_of_ble_eq_true rfl)) dL_law_422 ⟨by show 5000 + 1 + 1 + 4 + 0 ≤ 1200000; omega, by show 10000 + 2 + 16 + 8 + 0 ≤ 5502250; omega⟩) hS (fun q h1 h2 => absurd h2 (Nat.not_le.mpr h1)) (fun q h => hA q (Nat.le_trans hS.1 h)) (fun ra ura t Hra locs ht hvm hw hB hz hk1 hS => ?_)
    have hun := un0 hun hsz hk1
    have hsz := Nat.le_trans hsz hz
    have hP := hP.keep0 hk1
    have hPa := hPa.keep0 hk1
    refine lv_aload_n hx hb dL_law_425 rfl (lv_at hl 1 rfl) ?_
    refine lv_bipush (v := 59) hx hb dL_law_426 (by decide) ?_
    rw [show (59 : Int32) = nI 59 from rfl]
    refine va_calli (va_runS (As := [.ref b, .int (nI 59)]) (rest := [.int ra, .ref q2]) ⟨hx, hb, hml, hown, hts⟩ (m_L_get l b L 59 _ xs hL (by decide)) (va_cwS 2 hts (lw_S q188 q189 q5 q190) rfl rfl rfl (by decide +kernel) ⟨Nat.le_of_ble_eq_true rfl, Nat.le_of_ble_eq_true rfl⟩) (xS rfl (Nat.lt_of_lt_of_le hbl hS.1) (hX.kept (hS.2.1 b hbl hbA))) rfl rfl hl.1 rfl (lv_room (Nat.le_of_ble_eq_true rfl)) dL_law_428 ⟨by show 5000 + 1 + 1 + 4 + 0 + 0 ≤ 1200000; omega, by show 10000 + 2 + 16 + 8 + 0 + 0 ≤ 5502250; omega⟩) hS (fun q h1 h2 => absurd h2 (Nat.not_le.mpr h1)) (fun q h => hA q (Nat.le_trans hS.1 h)) (fun rb urb t Hrb locs ht hvm hw hB hz hk1 hS => ?_)
    have hun := un0 hun hsz hk1
    have hsz := Nat.le_trans hsz hz
    have hP := hP.keep0 hk1
    have hPa := hPa.keep0 hk1
    refine va_calli (va_runV (As := [.int ra, .int rb]) (rest := []) ⟨hx, hb, hml, hown, hts⟩ (m_TD_put l D ([(dA, .object "Coordinate"), (cX, .long), (cY, .long)] ++ [(u.2, .object "Coordinate")]) q2 u.1 _ 0 3 u.2 (fun _ => none) ad ra rb (by decide) rfl hne) (cwV 2 hts (lw_V q30 q31 q32 q6 q33) rfl rfl rfl (by decide +kernel) ⟨Nat.le_of_ble_eq_true rfl, Nat.le_of_ble_eq_true rfl⟩) (gV (va_recv hK.1 hP (ci := 0) (q0 := 0) rfl rfl) rfl ⟨hP, hPa⟩ hK2) rfl rfl hl.1 rfl (lv_room (Nat.le_of_ble_eq_true rfl)) dL_law_431 ⟨by show 5000 + 1 + 1 + 4 + 0 + 0 + 1 ≤ 1200000; omega, by show 10000 + 2 + 16 + 8 + 0 + 0 + 3 ≤ 5502250; omega⟩) hS (fun q h1 h2 => h2.elim (fun e => e ▸ hAq) (fun h => h.elim (fun e => e ▸ hAp2) (fun h => absurd h (Nat.not_le.mpr h1)))) (fun q h => h.elim (fun e => e ▸ hAq) (fun h => h.elim (fun e => e ▸ hAp2) (fun h => hA q (Nat.le_trans hS.1 h)))) (fun r5 u5 t H5 locs ht hvm hw5 hB hz hk1 hS => ?_)
    obtain ⟨hu5, hP, hPa, hU⟩ := hB
    rw [ht] at hP hPa hU
    have hw5 : r5 = 1 := hw5
    rw [hw5]
    have hun := un2 hun hsz hq2 hpb hk1
    have hsz := Nat.le_trans hsz hz
    have hP : C1 D q2 (Dk u.1 (nI 1)) H5 := hP
    refine lv_if_eq (tgt := 448) hx hb dL_law_434 (by decide) (fun d2 => ?_) (fun d2 => ?_)
    · exact absurd d2 (by decide)
    · refine lv_aload hx hb dL_law_437 (lv_at hl 0 rfl) ?_
      refine lv_iconst (v := 0) hx hb dL_law_439 (by decide) ?_
      refine lv_iconst (v := 1) hx hb dL_law_440 (by decide) ?_
      refine lv_iconst (v := 2) hx hb dL_law_441 (by decide) ?_
      refine va_calli (va_runV (As := [.int 0, .int 1, .int 2]) (rest := []) ⟨hx, hb, hml, hown, hts⟩ (m_TD_turn l D ([(dA, .object "Coordinate"), (cX, .long), (cY, .long)] ++ [(u.2, .object "Coordinate")]) q2 u.1 _ 1 3 u.2 (va_up (fun _ => none) 0 (some u5)) (fun _ => u5) (fun _ => qt ra) (fun _ => qt rb) 0 1 2 (by decide) rfl (fun j hj => if_pos (by omega)) (fun j hj => qt_bd ra) (fun j hj => qt_bd rb)) (cwV 3 hts (lw_V q76 q77 q78 q6 q79) rfl rfl rfl (by decide +kernel) ⟨Nat.le_of_ble_eq_true rfl, Nat.le_of_ble_eq_true rfl⟩) (gV (va_recv hK.1 hP (ci := 0) (q0 := 0) rfl rfl) rfl ⟨hP, hPa, fun j hj => hU⟩ hK2) rfl rfl hl.1 rfl (lv_room (Nat.le_of_ble_eq_true rfl)) dL_law_442 ⟨by show 5000 + 1 + 1 + 4 + 0 + 0 + 1 + 4 ≤ 1200000; omega, by show 10000 + 2 + 16 + 8 + 0 + 0 + 3 + 8 ≤ 5502250; omega⟩) hS (fun q h1 h2 => absurd h2 (Nat.not_le.mpr h1)) (fun q h => hA q (Nat.le_trans hS.1 h)) (fun r6 u6 t H6 locs ht hvm hw6 hB hz hk1 hS => ?_)
      have hw6 : r6 = 0 := hw6.trans ((if_neg (by decide)).trans (turn_same (qt ra) (qt rb)))
      rw [hw6]
      have hun := un0 hun hsz hk1
      have hLI := hLI.same hun
      refine lv_if_eq (tgt := 450) hx hb dL_law_445 (by decide) (fun d3 => ?_) (fun d3 => ?_)
      · refine lv_iconst (v := 0) hx hb dL_law_450 (by decide) ?_
        rw [← nI_0]
        refine lv_istore (lv' := [(7, .int (nI 0)), (6, .ref q2), (0, .ref b), (1, .ref h0), (2, .ref ax), (3, .ref ay), (4, .int (nI n))]) hx hb dL_law_451 hl (by decide) rfl (fun ls hl => ?_)
        refine W.widen (k := 6000 + 67 * 0) (n := 12000 + 150 * 0) (by omega) (by omega) ?_
        exact law_tail hx hb hml hown hts hAe hA hL hX hbl hr hlocks hK hAh hAp hAx hAy n1 n2 n3 n4 n5 n6 hn (n + 1) 0 (by omega) _ _ hLI hS ls (lv_sub hl [2, 3, 4, 5, 6, 0] rfl)
      · exact absurd rfl d3
end
section
set_option maxHeartbeats 4000000 in
set_option maxRecDepth 100000 in
/-- from the entry, for every script of at most 60 ints, the law comes to its end with true -/
theorem whole_start {p : Program} {e : Env} {s : State} {m : MethodId} {below : List Frame} {meth : Method} {c : Code} (l : Launch) (hflags : l.flags = flags0) {b L : Nat} {xs : Nat → Int32} (hL : L ≤ 60) (C0 : lw_At p s m meth c b L xs) : W p l e room_1 s m #[Value.ref b] below meth c s.heap [] 0 0 (lw_Z below #[Value.ref b] s) (entryFrame m ([Value.ref b] : List Value).toArray 15) := by

  obtain ⟨hx, hb, hr, hml, hown0, hts0, hX, hbl, hlocks, hgv⟩ := C0
  have hown : s.vm.findClass RX0 = some m.cls := hown0
  have hts : ∀ w ∈ lw_all, w.before #[Value.ref b] s = true := fun w h => hts0 w (lw_all_tbl h)
  obtain ⟨c0, iS0, hKn0⟩ := u_known (C := RX1) (T := TX1) (N := 2) (n := 2) hts0 (fun w h => lw_all_tbl (in_X1 w h)) (hts0 _ (lw_all_tbl q14))
  obtain ⟨c1, iS1, hKn1⟩ := u_known (C := RX2) (T := TX2) (N := 3) (n := 3) hts0 (fun w h => lw_all_tbl (in_X2 w h)) (hts0 _ (lw_all_tbl q37))
  obtain ⟨c2, iS2, hKn2⟩ := u_known (C := RX5) (T := TX5) (N := 2) (n := 2) hts0 (fun w h => lw_all_tbl (in_X5 w h)) (hts0 _ (lw_all_tbl q100))
  obtain ⟨c3, iS3, hKn3⟩ := u_known (C := RX6) (T := TX6) (N := 3) (n := 3) hts0 (fun w h => lw_all_tbl (in_X6 w h)) (hts0 _ (lw_all_tbl q160))
  obtain ⟨D, hKv⟩ : ∃ D : va_G, va_K D vwCl [] s := by
    refine ⟨(fun k => if k = 0 then c0 else if k = 1 then c1 else if k = 2 then c2 else c3, fun k => if k = 0 then iS0 else if k = 1 then iS1 else if k = 2 then iS2 else iS3), fun k q hq => ?_, fun k q hk => by simp at hk⟩
    match k, hq with
    | 0, hq => cases hq; exact hKn0
    | 1, hq => cases hq; exact hKn1
    | 2, hq => cases hq; exact hKn2
    | 3, hq => cases hq; exact hKn3
    | k + 4, hq => simp [vwCl] at hq
  have hK0 : Kn D [] s := ⟨hKv, va_AO.of (hts0 _ q22)⟩
  obtain ⟨A, hAe⟩ : ∃ A, A = Fr0 s.heap.size := ⟨_, rfl⟩
  have hA : ∀ q : Nat, s.heap.size ≤ q → A q := fun q h => by rw [hAe]; exact h
  have hS : va_S A s.heap s.heap [] := va_S.rf
  have hl := lv_entry ([.ref b]) (n := 15) (Nat.le_of_ble_eq_true rfl)
  rw [lg_entry_eq]
  generalize (lg_sl ([.ref b]) ++ List.replicate (15 - (lg_sl ([.ref b])).length) Slot.unset).toArray = ls at hl ⊢
  have hl : lv_has ls 15 [(0, .ref b)] := hl
  have hK := hK0
  refine va_new (D := D) (ci := 0) (fs := [.null, .int 0]) (C := RX1) (T := TX1) (N := 2) hx hb hts in_X1 tyX1 tyX1_ok hown (hts _ q13) (hts _ q14) (hts _ q6) hK.1 (va_P0 (H := _)) va_D0 hS hA rfl (fun j hj => by rcases (show j = 0 ∨ j = 1 by omega) with rfl | rfl <;> rfl) (Nat.le_of_ble_eq_true rfl) (Nat.le_of_ble_eq_true rfl) dL_law_0 (fun h0 H hP hD hS => ?_)
  have hP : C1 D h0 (.inr (0, [.null, .int 0])) H := hP
  have hAh : A h0 := hD.2 0 _ rfl
  refine lv_dup hx hb dL_law_3 rfl ?_
  refine va_callv (va_runI (As := []) (rest := [.ref h0]) ⟨hx, hb, hml, hown, hts⟩ (m_TD_init l D _ h0 _) (cwI 0 hts (lw_meth q17) rfl rfl rfl (hts _ q6) (hts _ q15) (hts _ q16) rfl (by decide +kernel) ⟨Nat.le_of_ble_eq_true rfl, Nat.le_of_ble_eq_true rfl⟩) (gS rfl hP hK) rfl rfl hl.1 rfl (lv_room (Nat.le_of_ble_eq_true rfl)) dL_law_4 ⟨Nat.le_of_ble_eq_true rfl, Nat.le_of_ble_eq_true rfl⟩) hS (fun q h1 h2 => h2.elim (fun e => e ▸ hAh) (fun h => absurd h (Nat.not_le.mpr h1))) (fun q h => h.elim (fun e => e ▸ hAh) (fun h => hA q (Nat.le_trans hS.1 h))) (fun u t H1 locs ht hvm hw hB hz hk1 hS => ?_)
  obtain ⟨hu0, hB1, hPa, hK2⟩ := hB
  rw [ht] at hB1 hPa
  have hK2 := hK2.moved hvm.symm
  have n1 : h0 ≠ u.1 := fun h => absurd hP.lt (by omega)
  have hAp : A u.1 := by
    refine hA _ (Nat.le_trans ?_ hu0)
    have h1 := hP.lt
    have h2 := hAh
    rw [hAe] at h2
    exact Nat.le_of_lt (Nat.lt_of_le_of_lt h2 h1)
  have hW2 := hB1.two hPa
  have hD2 : va_D A [(h0, Dk u.1 0), (u.1, Ar u.2 16 (fun _ => none))] := va_D2 hAh hAp n1
  refine lv_astore_n (lv' := [(1, .ref h0), (0, .ref b)]) hx hb dL_law_7 rfl hl (by decide) rfl (fun ls hl => ?_)
  refine lv_bipush (v := 15) hx hb dL_law_8 (by decide) ?_
  refine va_newa (atype := .long) (ty := .long) (a0 := (15, .inr (.inl (fun _ => 0)))) (N' := 15) hx hb (hts _ q212) rfl hK2.1 hW2 hD2 hS hA (fun cA => rfl) (by decide) (by decide) (by decide) (Nat.le_of_ble_eq_true rfl) (Nat.le_of_ble_eq_true rfl) dL_law_10 (fun ax cX Hax hKax hWax hDax hS => ?_)
  have hKax : Kn D _ s := ⟨hKax, hK0.2⟩
  refine lv_astore_n (lv' := [(2, .ref ax), (1, .ref h0), (0, .ref b)]) hx hb dL_law_12 rfl hl (by decide) rfl (fun ls hl => ?_)
  refine lv_bipush (v := 15) hx hb dL_law_13 (by decide) ?_
  refine va_newa (atype := .long) (ty := .long) (a0 := (15, .inr (.inl (fun _ => 0)))) (N' := 15) hx hb (hts _ q212) rfl hKax.1 hWax hDax hS hA (fun cA => rfl) (by decide) (by decide) (by decide) (Nat.le_of_ble_eq_true rfl) (Nat.le_of_ble_eq_true rfl) dL_law_15 (fun ay cY Hay hKay hWay hDay hS => ?_)
  have hKay : Kn D _ s := ⟨hKay, hK0.2⟩
  have hW : va_P D vwCl [(h0, Dk u.1 0), (u.1, Ar u.2 16 (fun _ => none)), (ax, La cX 15 (fun _ => 0)), (ay, La cY 15 (fun _ => 0))] Hay := hWay
  have hD4 : va_D A [(h0, Dk u.1 0), (u.1, Ar u.2 16 (fun _ => none)), (ax, La cX 15 (fun _ => 0)), (ay, La cY 15 (fun _ => 0))] := hDay
  have hK4 : Kn D [(u.2, .object "Coordinate"), (cX, .long), (cY, .long)] s := hKay
  refine lv_astore_n (lv' := [(3, .ref ay), (2, .ref ax), (1, .ref h0), (0, .ref b)]) hx hb dL_law_17 rfl hl (by decide) rfl (fun ls hl => ?_)
  refine lv_iconst (v := 0) hx hb dL_law_18 (by decide) ?_
  rw [← nI_0]
  refine lv_istore (lv' := [(4, .int (nI 0)), (3, .ref ay), (2, .ref ax), (1, .ref h0), (0, .ref b)]) hx hb dL_law_19 hl (by decide) rfl (fun ls hl => ?_)
  refine lv_iconst (v := 0) hx hb dL_law_21 (by decide) ?_
  refine lv_topi (fun z0 ez0 => ?_)
  have ez1 : z0 = nI 0 := ez0.trans nI_0.symm
  rw [ez1]
  refine lv_istore (lv' := [(5, .int (nI 0)), (4, .int (nI 0)), (3, .ref ay), (2, .ref ax), (1, .ref h0), (0, .ref b)]) hx hb dL_law_22 hl (by decide) rfl (fun ls hl => ?_)
  have hLI : LI D h0 u.1 ax ay u.2 cX cY 0 (fun _ => none) (fun _ => 0) (fun _ => 0) (fun _ => 0) Hay := ⟨by rw [nI_0]; exact hW.sub [0] rfl, hW.sub [1] rfl, hW.sub [2] rfl, hW.sub [3] rfl, fun j hj => absurd hj (Nat.not_lt_zero j), fun j hj => absurd hj (Nat.not_lt_zero j)⟩
  refine W.widen (k := 4 + 63 * 0) (n := 48 + 142 * 0) (Nat.le_of_ble_eq_true rfl) (Nat.le_of_ble_eq_true rfl) ?_
  exact law_loop hx hb hml hown hts hAe hA hL hX hbl hK4 hAh hAp (hD4.2 2 _ rfl) (hD4.2 3 _ rfl) n1 (fun h => absurd (hD4.1 0 2 _ _ rfl rfl h) (by decide)) (fun h => absurd (hD4.1 0 3 _ _ rfl rfl h) (by decide)) (fun h => absurd (hD4.1 1 2 _ _ rfl rfl h) (by decide)) (fun h => absurd (hD4.1 1 3 _ _ rfl rfl h) (by decide)) (fun h => absurd (hD4.1 2 3 _ _ rfl rfl h) (by decide)) (fun n f ad X Y H locs ls hn hLI hS hl => law_end hx hb hml hown hts hAe hA hL hX hbl hr hlocks hK4 hAh hAp (hD4.2 2 _ rfl) (hD4.2 3 _ rfl) n1 (fun h => absurd (hD4.1 0 2 _ _ rfl rfl h) (by decide)) (fun h => absurd (hD4.1 0 3 _ _ rfl rfl h) (by decide)) (fun h => absurd (hD4.1 1 2 _ _ rfl rfl h) (by decide)) (fun h => absurd (hD4.1 1 3 _ _ rfl rfl h) (by decide)) (fun h => absurd (hD4.1 2 3 _ _ rfl rfl h) (by decide)) hn hLI hS hl) 63 0 (by omega) (by omega) 0 _ _ _ _ Hay _ (by omega) hLI hS ls (lv_sub hl [5, 4, 3, 2, 1, 0] rfl)

-- ===== YOUR PART ENDS =====
set_option maxHeartbeats 4000000 in
theorem lw_walk (l : Launch) (hflags : l.flags = flags0) (b : Addr) (xs : List Int32) : MetFree l x (headSpec (Jvm.Cond.code x code maxLocals ret :: tables_1) room_1) (lw_P b xs) (fun _ _ _ _ _ => True) lw_Q := by
  refine MetFree.of_bodyS (code := code) (maxLocals := maxLocals) (ret := ret) (by decide) ?_ ?_
  · intro args s m h hn
    obtain ⟨meth, c, h1, h2, h3, h4, h5, h6, -, -⟩ := Cond.code_spec hn (atoms_spec (ws := Jvm.Cond.code x code maxLocals ret :: tables_1) h _ List.mem_cons_self)
    exact ⟨meth, c, h1, h2, h3, h4, h5, h6⟩
  · intro p e s m args below meth c s₁ B hml0 hP _
    obtain ⟨rfl, hx, hbd, hgv⟩ := hP
    obtain ⟨scr, harrAt, hlist, hof, hsmall⟩ := hx
    obtain ⟨hcb, hkn, -, -⟩ := State.arrayAt?_spec harrAt
    have hown : s.vm.findClass R_law = some m.cls := findClass_of_methodNamed B.named
    have hts0 : ∀ c ∈ (Jvm.Cond.code x code maxLocals ret :: tables_1), c.before #[Value.ref b] s = true := atoms_spec (ws := Jvm.Cond.code x code maxLocals ret :: tables_1) B.pre
    have hts : ∀ w ∈ lw_tbl, w.before #[Value.ref b] s = true := k2_hts_sels lw_privs (fun w hw => hts0 w (List.mem_cons_of_mem _ hw)) lw_privs_ok
    have hml : c.maxLocals = 15 := B.maxLocals_eq (hts0 _ List.mem_cons_self)
    have X₀ : Stand p l e room_1 s m #[Value.ref b] below meth c s₁ [] 0 0 := Stand.of_body B
    have hh0 : s₁.heap = s.heap := by rw [B.state]; rfl
    have hsz : scr.slots.size = xs.length := by rw [← Array.length_toList, hlist, List.length_map]
    have hval : ∀ j : Nat, j < xs.length → scr.slots[j]? = some (.int (xs.getD j 0)) := fun j hj => by
      rw [← Array.getElem?_toList, hlist]
      simp [hj]
    have hbl : b < s.heap.size := (Array.getElem?_eq_some_iff.mp hcb).1
    have hX : va_X b xs.length (fun j => xs.getD j 0) s s.heap := ⟨scr, hcb, hof, hkn, hsz, hval⟩
    have K : W p l e room_1 s m #[Value.ref b] below meth c s₁.heap [] 0 0 (lw_Z below #[Value.ref b] s) (entryFrame m ([Value.ref b] : List Value).toArray 15) := by
      rw [hh0]
      exact whole_start l hflags hbd ⟨B.exec, B.bytes, B.returns, hml, hown, hts, hX, hbl, B.notSynchronized, hgv⟩
    obtain ⟨t, a1, o, b1, b2, b3⟩ := K s₁ rfl X₀
    exact ⟨t, o, a1, b1, b2, b3⟩
theorem lw_pre_spec {args : Array Value} {s : State} (h : (Jvm.Cond.and given_1 narrow_1).before args s = true) (hr : rest_1_c.before args s = true) : ∃ (b : Addr) (xs : List Int32), lw_P b xs args s := by
  have hs := flat_of_before _ h
  have hq := flat_of_before _ hr
  have hc : (Cond.count 1).before args s = true := hs _ (by decide +kernel)
  have harr : (Cond.arrayOf (.arg 0) .int).before args s = true := hs _ (by decide +kernel)
  have hle : (Cond.le (.length (.arg 0)) (.int 60)).before args s = true := hs _ (by decide +kernel)
  have hlen : (Cond.isInt (.length (.arg 0))).before args s = true := hq _ (by decide +kernel)
  have hall : (Cond.all (.arg 0) (.isInt (.elem (.arg 0) (.index 0)))).before args s = true := hq _ (by decide +kernel)
  obtain ⟨b, xs, hb, hx⟩ := State.ints_of_pre rfl harr hlen hall
  have hsm : xs.length < 2 ^ 31 := hx.choose_spec.2.2.2
  have hev : (Term.length (.arg 0)).eval args s none [] s = some (.int xs.length.toInt32) := hx.length_eval hb
  have hv := Cond.le_ints hev (show (Term.int 60).eval args s none [] s = some (.int 60) from rfl)
  have hd : xs.length.toInt32 ≤ 60 := by
    simpa [Cond.before, Cond.holds, hv] using hle
  have hN : xs.length ≤ 60 := (Int32.ofNat_le_ofNat hsm (by decide)).mp (show Int32.ofNat xs.length ≤ Int32.ofNat 60 from hd)
  exact ⟨b, xs, Cond.one_arg hc (show args[0]? = some (.ref b) from hb), hx, hN, h⟩
theorem lw_comes (l : Launch) (hflags : l.flags = flags0) : Comes l x (Jvm.Cond.code x code maxLocals ret :: tables_1) room_1 (fun tb e args s => Calls_1 tb e args s ∧ rest_1 tb e args s ∧ Pre_1 tb e args s)
    (fun _ _ args s o t => lw_Q args s o t) := by
  intro p e ha hc hk s m args below hf hfit hheap happ hpre
  obtain ⟨b, xs, hP⟩ := lw_pre_spec hpre.2.2 hpre.2.1
  obtain ⟨k, o, h1, h2, h3, hQ⟩ := lw_walk l hflags b xs p e ha hc hk s m args below hf ((Spec.applies_iff_loose hf).mp happ).1 hP trivial
  exact ⟨k, o, h1, h2, h3, hQ⟩
theorem lw_frame {s t : State} {o : Outcome} {args : Array Value} (h : Framed s o t [] 1200000 5502250) :
    Framed s o t (fieldLocs frame_1_writes args s ++ arrayLocs frame_1_arrays args s ++ staticLocs frame_1_statics s) 1200000 5502250 := h
theorem lw_limb (L : Cond) (hL : ∀ (args : Array Value) (s t : State), L.after args s (.returned (some (.int 1))) t = true) :
    ArmFor flags0 classFile x code maxLocals ret World_1 tables_1 room_1 Calls_1 rest_1 Pre_1
      (fun tb e a s o t => postC L tb e a s o t ∧ Framed s o t (fieldLocs frame_1_writes a s ++ arrayLocs frame_1_arrays a s ++ staticLocs frame_1_statics s) 1200000 5502250) := by
  intro l hflags _ _ p e ha hc hk s m args below hf hfit hheap happ hpre
  obtain ⟨k, o, h1, h2, h3, rfl, hF⟩ := lw_comes l hflags p e ha hc hk s m args below hf hfit hheap happ hpre
  exact ⟨k, _, h1, h2, h3, hL args s _, lw_frame hF⟩
theorem i_vc : Claimed_1_1 ∧ Claimed_1_2 := ⟨lw_limb limb_1_1 (fun args s t => by simp [limb_1_1, Cond.after, Cond.holds, Cond.value]), lw_limb limb_1_2 (fun args s t => Cond.after_iff.mpr (by
  first | (rw [show limb_1_2 = Cond.eq .result (.int 1) from rfl, Cond.eq_ints (x := 1) (y := 1) rfl rfl]; simp; done) | (simp [limb_1_2, Cond.value, Term.eval]; done)))⟩
end
