section
-- ===== PART A: goes FIRST, ahead of the names: the tables' words, and 'selects' of the private methods out of them =====
/-- a private method of a class that the tables say can be made, by its rows of tables_1 -/
def lw_okq (q : MethodName × Nat) : Prop := (q.1.cls ≠ "java/lang/invoke/MethodHandle" ∧ q.1.cls ≠ "java/lang/invoke/VarHandle") ∧ Cond.instantiable q.1.cls q.2 ∈ tables_1 ∧ Cond.privateMethod q.1 ∈ tables_1 ∧ Cond.instanceMethod q.1 ∈ tables_1
set_option maxRecDepth 100000
theorem lw_t1 {w : Cond} (h : w ∈ tables_1_1) : w ∈ tables_1 := List.mem_append_left _ h
theorem lw_t2 {w : Cond} (h : w ∈ tables_1_2) : w ∈ tables_1 := List.mem_append_right _ h
theorem lw_p0 : lw_okq (⟨"DefaultPlacement", "corner1", "(I)V"⟩, 4) := ⟨⟨by decide +kernel, by decide +kernel⟩, lw_t1 (List.mem_of_getElem? (i := 18) rfl), lw_t1 (List.mem_of_getElem? (i := 137) rfl), lw_t1 (List.mem_of_getElem? (i := 138) rfl)⟩
theorem lw_p1 : lw_okq (⟨"DefaultPlacement", "module", "(IIII)V"⟩, 4) := ⟨⟨by decide +kernel, by decide +kernel⟩, lw_t1 (List.mem_of_getElem? (i := 18) rfl), lw_t1 (List.mem_of_getElem? (i := 141) rfl), lw_t1 (List.mem_of_getElem? (i := 142) rfl)⟩
theorem lw_p2 : lw_okq (⟨"DefaultPlacement", "setBit", "(IIZ)V"⟩, 4) := ⟨⟨by decide +kernel, by decide +kernel⟩, lw_t1 (List.mem_of_getElem? (i := 18) rfl), lw_t1 (List.mem_of_getElem? (i := 175) rfl), lw_t1 (List.mem_of_getElem? (i := 176) rfl)⟩
theorem lw_p3 : lw_okq (⟨"DefaultPlacement", "corner2", "(I)V"⟩, 4) := ⟨⟨by decide +kernel, by decide +kernel⟩, lw_t1 (List.mem_of_getElem? (i := 18) rfl), lw_t1 (List.mem_of_getElem? (i := 179) rfl), lw_t1 (List.mem_of_getElem? (i := 180) rfl)⟩
theorem lw_p4 : lw_okq (⟨"DefaultPlacement", "corner3", "(I)V"⟩, 4) := ⟨⟨by decide +kernel, by decide +kernel⟩, lw_t1 (List.mem_of_getElem? (i := 18) rfl), lw_t1 (List.mem_of_getElem? (i := 183) rfl), lw_t1 (List.mem_of_getElem? (i := 184) rfl)⟩
theorem lw_p5 : lw_okq (⟨"DefaultPlacement", "corner4", "(I)V"⟩, 4) := ⟨⟨by decide +kernel, by decide +kernel⟩, lw_t1 (List.mem_of_getElem? (i := 18) rfl), lw_t1 (List.mem_of_getElem? (i := 187) rfl), lw_t1 (List.mem_of_getElem? (i := 188) rfl)⟩
theorem lw_p6 : lw_okq (⟨"DefaultPlacement", "noBit", "(II)Z"⟩, 4) := ⟨⟨by decide +kernel, by decide +kernel⟩, lw_t1 (List.mem_of_getElem? (i := 18) rfl), lw_t1 (List.mem_of_getElem? (i := 191) rfl), lw_t1 (List.mem_of_getElem? (i := 192) rfl)⟩
theorem lw_p7 : lw_okq (⟨"DefaultPlacement", "utah", "(III)V"⟩, 4) := ⟨⟨by decide +kernel, by decide +kernel⟩, lw_t1 (List.mem_of_getElem? (i := 18) rfl), lw_t1 (List.mem_of_getElem? (i := 195) rfl), lw_t1 (List.mem_of_getElem? (i := 196) rfl)⟩
def lw_privs_1 : List (MethodName × Nat) := [(⟨"DefaultPlacement", "corner1", "(I)V"⟩, 4), (⟨"DefaultPlacement", "module", "(IIII)V"⟩, 4), (⟨"DefaultPlacement", "setBit", "(IIZ)V"⟩, 4), (⟨"DefaultPlacement", "corner2", "(I)V"⟩, 4), (⟨"DefaultPlacement", "corner3", "(I)V"⟩, 4), (⟨"DefaultPlacement", "corner4", "(I)V"⟩, 4), (⟨"DefaultPlacement", "noBit", "(II)Z"⟩, 4), (⟨"DefaultPlacement", "utah", "(III)V"⟩, 4)]
theorem lw_r1 : ∀ q ∈ lw_privs_1, lw_okq q := List.forall_mem_cons.mpr ⟨lw_p0, List.forall_mem_cons.mpr ⟨lw_p1, List.forall_mem_cons.mpr ⟨lw_p2, List.forall_mem_cons.mpr ⟨lw_p3, List.forall_mem_cons.mpr ⟨lw_p4, List.forall_mem_cons.mpr ⟨lw_p5, List.forall_mem_cons.mpr ⟨lw_p6, List.forall_mem_cons.mpr ⟨lw_p7, fun _ h => absurd h List.not_mem_nil⟩⟩⟩⟩⟩⟩⟩⟩
def lw_privs : List (MethodName × Nat) := lw_privs_1
def lw_tbl : List Cond := k2_sels lw_privs ++ tables_1
theorem lw_privs_ok : ∀ q ∈ lw_privs, lw_okq q := lw_r1
-- ===== ONE list of words for every method: the tables' words that hold all through a run =====
def lw_all : List Cond := lw_tbl.filter goodWord
/-- a word of the tables by its place: claim/WORDS.tsv -/
theorem lw_w {w : Cond} (i : Nat) (h : lw_tbl[i]? = some w) (g : goodWord w = true) : w ∈ lw_all := List.mem_filter.mpr ⟨List.mem_of_getElem? h, g⟩
theorem lw_all_tbl {w : Cond} (h : w ∈ lw_all) : w ∈ lw_tbl := (List.mem_filter.mp h).1
theorem lw_self : GoodIn lw_all lw_all := fun w h => ⟨h, good_of_word (List.mem_filter.mp h).2⟩
/-- a class's field words, by their places -/
theorem lw_in (ws : List Cond) (ps : List Nat) (hp : ws = ps.filterMap (fun i => lw_tbl[i]?)) (hg : ws.all goodWord = true) : ∀ w ∈ ws, w ∈ lw_all := by
  intro w h
  have h1 := List.all_eq_true.mp hg w h
  rw [hp] at h
  obtain ⟨i, -, hi⟩ := List.mem_filterMap.mp h
  exact lw_w i hi h1
/-- the words of a contract for the method y with code b, L locals, answer r -/
abbrev ws_ (y : MethodName) (b : ByteArray) (L : Nat) (r : Option FieldType) : List Cond := Cond.code y b L r :: lw_all
theorem lw_meth {y : MethodName} {b : ByteArray} {L : Nat} {r : Option FieldType} (h : Cond.code y b L r ∈ lw_all) : GoodIn lw_all (ws_ y b L r) := by
  intro w hw
  rcases List.mem_cons.mp hw with e | e
  · rw [e]
    exact lw_self _ h
  · exact lw_self _ e
theorem lw_app {a c : List Cond} (ha : ∀ w ∈ a, w ∈ lw_all) (hc : GoodIn lw_all c) : GoodIn lw_all (a ++ c) := by
  intro w hw
  rcases List.mem_append.mp hw with e | e
  · exact lw_self w (ha w e)
  · exact hc w e
/-- what a call through an object asks: cwV n hts (lw_V ..) -/
theorem lw_V {own : String} {idx : Nat} {C : String} {y : MethodName} {b : ByteArray} {L : Nat} {r : Option FieldType} (h1 : Cond.methodLink own idx y ∈ lw_all) (h2 : Cond.instanceMethod y ∈ lw_all) (h3 : Cond.selects C y y ∈ lw_all) (h4 : Cond.initialized C ∈ lw_all) (h5 : Cond.code y b L r ∈ lw_all) : GoodIn lw_all (wsV own idx C y (ws_ y b L r)) := by
  refine lw_app ?_ (lw_meth h5)
  intro w hw
  simp only [List.mem_cons, List.not_mem_nil, or_false] at hw
  rcases hw with e | e | e | e
  · rw [e]; exact h1
  · rw [e]; exact h2
  · rw [e]; exact h3
  · rw [e]; exact h4
/-- what a static call asks: va_cwS n hts (lw_S ..) -/
theorem lw_S {own : String} {idx : Nat} {y : MethodName} {b : ByteArray} {L : Nat} {r : Option FieldType} (h1 : Cond.methodLink own idx y ∈ lw_all) (h2 : Cond.static y ∈ lw_all) (h3 : Cond.initialized y.cls ∈ lw_all) (h4 : Cond.code y b L r ∈ lw_all) : GoodIn lw_all (va_wsS own idx y (ws_ y b L r)) := by
  refine lw_app ?_ (lw_meth h4)
  intro w hw
  simp only [List.mem_cons, List.not_mem_nil, or_false] at hw
  rcases hw with e | e | e
  · rw [e]; exact h1
  · rw [e]; exact h2
  · rw [e]; exact h3
/-- the words of a contract for a method WITH HANDLERS (hh: its table) -/
abbrev wsW_ (y : MethodName) (b : ByteArray) (L : Nat) (r : Option FieldType) (hh : List (Nat × Nat × Nat × Nat)) : List Cond := Cond.codeWith y b L r hh :: lw_all
theorem lw_methW {y : MethodName} {b : ByteArray} {L : Nat} {r : Option FieldType} {hh : List (Nat × Nat × Nat × Nat)} (h : Cond.codeWith y b L r hh ∈ lw_all) : GoodIn lw_all (wsW_ y b L r hh) := by
  intro w hw
  rcases List.mem_cons.mp hw with e | e
  · rw [e]
    exact lw_self _ h
  · exact lw_self _ e
/-- any list of words by their places (lw_in), good -/
theorem lw_good {ws : List Cond} (h : ∀ w ∈ ws, w ∈ lw_all) : GoodIn lw_all ws := fun w hw => lw_self w (h w hw)
/-- what a call of a method with handlers asks: vx_cwVW n hts (lw_VW ..), vx_cwSW n hts (lw_SW ..) -/
theorem lw_VW {own : String} {idx : Nat} {C : String} {y : MethodName} {b : ByteArray} {L : Nat} {r : Option FieldType} {hh : List (Nat × Nat × Nat × Nat)} (h1 : Cond.methodLink own idx y ∈ lw_all) (h2 : Cond.instanceMethod y ∈ lw_all) (h3 : Cond.selects C y y ∈ lw_all) (h4 : Cond.initialized C ∈ lw_all) (h5 : Cond.codeWith y b L r hh ∈ lw_all) : GoodIn lw_all (wsV own idx C y (wsW_ y b L r hh)) := by
  refine lw_app ?_ (lw_methW h5)
  intro w hw
  simp only [List.mem_cons, List.not_mem_nil, or_false] at hw
  rcases hw with e | e | e | e
  · rw [e]; exact h1
  · rw [e]; exact h2
  · rw [e]; exact h3
  · rw [e]; exact h4
theorem lw_SW {own : String} {idx : Nat} {y : MethodName} {b : ByteArray} {L : Nat} {r : Option FieldType} {hh : List (Nat × Nat × Nat × Nat)} (h1 : Cond.methodLink own idx y ∈ lw_all) (h2 : Cond.static y ∈ lw_all) (h3 : Cond.initialized y.cls ∈ lw_all) (h4 : Cond.codeWith y b L r hh ∈ lw_all) : GoodIn lw_all (va_wsS own idx y (wsW_ y b L r hh)) := by
  refine lw_app ?_ (lw_methW h4)
  intro w hw
  simp only [List.mem_cons, List.not_mem_nil, or_false] at hw
  rcases hw with e | e | e
  · rw [e]; exact h1
  · rw [e]; exact h2
  · rw [e]; exact h3
/-- a word by its place in its run of the tables -/
theorem lw_at {r : List Cond} (hr : ∀ w ∈ r, w ∈ lw_tbl) {w : Cond} (i : Nat) (h : r[i]? = some w) : w ∈ lw_tbl := hr w (List.mem_of_getElem? h)
theorem lw_g {w : Cond} (h : w ∈ lw_tbl) (g : goodWord w = true) : w ∈ lw_all := List.mem_filter.mpr ⟨h, g⟩
theorem lw_ms : ∀ w ∈ k2_sels lw_privs, w ∈ lw_tbl := fun w h => show w ∈ k2_sels lw_privs ++ tables_1 from List.mem_append_left _ h
theorem lw_m1 : ∀ w ∈ tables_1_1, w ∈ lw_tbl := fun w h => show w ∈ k2_sels lw_privs ++ tables_1 from List.mem_append_right (k2_sels lw_privs) (show w ∈ tables_1 from List.mem_append_left _ h)
theorem lw_m2 : ∀ w ∈ tables_1_2, w ∈ lw_tbl := fun w h => show w ∈ k2_sels lw_privs ++ tables_1 from List.mem_append_right (k2_sels lw_privs) (show w ∈ tables_1 from List.mem_append_right _ h)
theorem qs0 : (Cond.selects "DefaultPlacement" ⟨"DefaultPlacement", "corner1", "(I)V"⟩ ⟨"DefaultPlacement", "corner1", "(I)V"⟩) ∈ lw_all := lw_g (lw_at lw_ms 0 rfl) rfl
theorem qs1 : (Cond.selects "DefaultPlacement" ⟨"DefaultPlacement", "module", "(IIII)V"⟩ ⟨"DefaultPlacement", "module", "(IIII)V"⟩) ∈ lw_all := lw_g (lw_at lw_ms 1 rfl) rfl
theorem qs2 : (Cond.selects "DefaultPlacement" ⟨"DefaultPlacement", "setBit", "(IIZ)V"⟩ ⟨"DefaultPlacement", "setBit", "(IIZ)V"⟩) ∈ lw_all := lw_g (lw_at lw_ms 2 rfl) rfl
theorem qs3 : (Cond.selects "DefaultPlacement" ⟨"DefaultPlacement", "corner2", "(I)V"⟩ ⟨"DefaultPlacement", "corner2", "(I)V"⟩) ∈ lw_all := lw_g (lw_at lw_ms 3 rfl) rfl
theorem qs4 : (Cond.selects "DefaultPlacement" ⟨"DefaultPlacement", "corner3", "(I)V"⟩ ⟨"DefaultPlacement", "corner3", "(I)V"⟩) ∈ lw_all := lw_g (lw_at lw_ms 4 rfl) rfl
theorem qs5 : (Cond.selects "DefaultPlacement" ⟨"DefaultPlacement", "corner4", "(I)V"⟩ ⟨"DefaultPlacement", "corner4", "(I)V"⟩) ∈ lw_all := lw_g (lw_at lw_ms 5 rfl) rfl
theorem qs6 : (Cond.selects "DefaultPlacement" ⟨"DefaultPlacement", "noBit", "(II)Z"⟩ ⟨"DefaultPlacement", "noBit", "(II)Z"⟩) ∈ lw_all := lw_g (lw_at lw_ms 6 rfl) rfl
theorem qs7 : (Cond.selects "DefaultPlacement" ⟨"DefaultPlacement", "utah", "(III)V"⟩ ⟨"DefaultPlacement", "utah", "(III)V"⟩) ∈ lw_all := lw_g (lw_at lw_ms 7 rfl) rfl
end
section
/-! DECODE ROWS BY BYTES: one lemma an opcode; a method's code is cut into short pieces once, and a row reads its own piece alone. -/
set_option maxRecDepth 100000
/-- the code has just these bytes from pc on -/
def DkAt (code : ByteArray) (pc : Nat) (bs : List UInt8) : Prop := ∀ (j : Nat) (b : UInt8), bs[j]? = some b → code.data.toList[pc + j]? = some b
/-- the piece W has the bytes bs from its place j on -/
def dkIn (W : List UInt8) (j : Nat) (bs : List UInt8) : Bool := decide ((W.drop j).take bs.length = bs)
theorem dk_seg {l W T : List UInt8} {o o2 : Nat} (h : l.drop o = W ++ T) (n : Nat) (hn : W.length = n) (ho : o + n = o2) : l.drop o2 = T := by
  subst ho
  rw [← List.drop_drop, h, List.drop_left' hn]
theorem dk_at {code : ByteArray} {W T bs : List UInt8} {o pc : Nat} (h : code.data.toList.drop o = W ++ T) (j : Nat) (hp : o + j = pc) (hw : dkIn W j bs = true) : DkAt code pc bs := by
  subst hp
  intro i b e
  have h1 := of_decide_eq_true hw
  have h2 : i < bs.length := (List.getElem?_eq_some_iff.mp e).1
  have h3 : W[j + i]? = some b := by
    rw [← h1, List.getElem?_take, if_pos h2, List.getElem?_drop] at e
    exact e
  have h4 : j + i < W.length := (List.getElem?_eq_some_iff.mp h3).1
  have h5 : (code.data.toList.drop o)[j + i]? = some b := by
    rw [h, List.getElem?_append_left h4]
    exact h3
  rw [List.getElem?_drop, ← Nat.add_assoc] at h5
  exact h5
theorem dk_u1 {A : ByteArray} {p : Nat} {b : UInt8} (h : A.data.toList[p]? = some b) : (Reader.u1 : Reader DecodeError Nat) A p = .ok (b.toNat, p + 1) := by
  obtain ⟨h1, h2⟩ := List.getElem?_eq_some_iff.mp h
  have h3 : p < A.size := by simpa using h1
  have h4 : A[p]'h3 = b := h2
  have e : (Reader.u1 : Reader DecodeError Nat) A p = (if h : p < A.size then .ok (A[p].toNat, p + 1) else .error (HasTruncated.truncated p)) := by
    show (do if h : p < A.size then do set (p + 1); Pure.pure A[p].toNat else MonadExcept.throw (HasTruncated.truncated p) : Reader DecodeError Nat) A p = _
    by_cases hi : p < A.size
    · rw [dif_pos hi, dif_pos hi]; rfl
    · rw [dif_neg hi, dif_neg hi]; rfl
  rw [e, dif_pos h3, h4]
theorem dk_bind {α β : Type} {r : Reader DecodeError α} {f : α → Reader DecodeError β} {A : ByteArray} {p s : Nat} {a : α} (h : r A p = .ok (a, s)) : (r >>= f) A p = f a A s := by
  show (do let (a, s) ← r A p; f a A s : Except DecodeError (β × Nat)) = _
  rw [h]
  rfl
theorem dk_map {α β : Type} {r : Reader DecodeError α} {g : α → β} {A : ByteArray} {p s : Nat} {a : α} (h : r A p = .ok (a, s)) : (g <$> r) A p = .ok (g a, s) := by
  show (do let (a, s) ← r A p; .ok (g a, s) : Except DecodeError (β × Nat)) = _
  rw [h]
  rfl
theorem dk_u2 {A : ByteArray} {p : Nat} {a b : UInt8} (h : A.data.toList[p]? = some a) (h2 : A.data.toList[p + 1]? = some b) : (Reader.u2 : Reader DecodeError Nat) A p = .ok (a.toNat * 256 + b.toNat, p + 2) := by
  show (Reader.u1 >>= fun hi => Reader.u1 >>= fun lo => Pure.pure (hi * 256 + lo) : Reader DecodeError Nat) A p = _
  rw [dk_bind (dk_u1 h), dk_bind (dk_u1 h2)]
  rfl
theorem dk_of {code : ByteArray} {pc n : Nat} {i : Instr} (h : Decoder.instr pc code pc = .ok (i, pc + n)) : decode code pc = .ok (i, n) := by
  have e : decode code pc = (match Decoder.instr pc code pc with | .error x => .error x | .ok (j, s) => .ok (j, s - pc)) := by
    show (do let (j, s) ← Decoder.instr pc code pc; Pure.pure (j, s - pc) : Except DecodeError (Instr × Nat)) = _
    cases Decoder.instr pc code pc <;> rfl
  rw [e, h]
  show Except.ok (i, pc + n - pc) = _
  rw [Nat.add_sub_cancel_left]
theorem dk_1 {code : ByteArray} {pc : Nat} (h : DkAt code pc [1]) : decode code pc = .ok (.aconst_null, 1) := dk_of ((dk_bind (dk_u1 (h 0 _ rfl))).trans rfl)
theorem dk_2 {code : ByteArray} {pc : Nat} (h : DkAt code pc [2]) : decode code pc = .ok (.iconst (-1), 1) := dk_of ((dk_bind (dk_u1 (h 0 _ rfl))).trans rfl)
theorem dk_3 {code : ByteArray} {pc : Nat} (h : DkAt code pc [3]) : decode code pc = .ok (.iconst 0, 1) := dk_of ((dk_bind (dk_u1 (h 0 _ rfl))).trans rfl)
theorem dk_4 {code : ByteArray} {pc : Nat} (h : DkAt code pc [4]) : decode code pc = .ok (.iconst 1, 1) := dk_of ((dk_bind (dk_u1 (h 0 _ rfl))).trans rfl)
theorem dk_5 {code : ByteArray} {pc : Nat} (h : DkAt code pc [5]) : decode code pc = .ok (.iconst 2, 1) := dk_of ((dk_bind (dk_u1 (h 0 _ rfl))).trans rfl)
theorem dk_6 {code : ByteArray} {pc : Nat} (h : DkAt code pc [6]) : decode code pc = .ok (.iconst 3, 1) := dk_of ((dk_bind (dk_u1 (h 0 _ rfl))).trans rfl)
theorem dk_7 {code : ByteArray} {pc : Nat} (h : DkAt code pc [7]) : decode code pc = .ok (.iconst 4, 1) := dk_of ((dk_bind (dk_u1 (h 0 _ rfl))).trans rfl)
theorem dk_8 {code : ByteArray} {pc : Nat} (h : DkAt code pc [8]) : decode code pc = .ok (.iconst 5, 1) := dk_of ((dk_bind (dk_u1 (h 0 _ rfl))).trans rfl)
theorem dk_16 {code : ByteArray} {pc : Nat} (a : UInt8) (h : DkAt code pc [16, a]) : decode code pc = .ok (.bipush (Reader.signed 8 a.toNat), 2) := dk_of ((dk_bind (dk_u1 (h 0 _ rfl))).trans ((dk_bind (dk_map (dk_u1 (h 1 _ rfl)))).trans rfl))
theorem dk_17 {code : ByteArray} {pc : Nat} (a b : UInt8) (h : DkAt code pc [17, a, b]) : decode code pc = .ok (.sipush (Reader.signed 16 (a.toNat * 256 + b.toNat)), 3) := dk_of ((dk_bind (dk_u1 (h 0 _ rfl))).trans ((dk_bind (dk_map (dk_u2 (h 1 _ rfl) (h 2 _ rfl)))).trans rfl))
theorem dk_18 {code : ByteArray} {pc : Nat} (a : UInt8) (h : DkAt code pc [18, a]) : decode code pc = .ok (.ldc a.toNat, 2) := dk_of ((dk_bind (dk_u1 (h 0 _ rfl))).trans ((dk_bind (dk_u1 (h 1 _ rfl))).trans rfl))
theorem dk_21 {code : ByteArray} {pc : Nat} (a : UInt8) (h : DkAt code pc [21, a]) : decode code pc = .ok (.iload a.toNat, 2) := dk_of ((dk_bind (dk_u1 (h 0 _ rfl))).trans ((dk_bind (dk_u1 (h 1 _ rfl))).trans rfl))
theorem dk_25 {code : ByteArray} {pc : Nat} (a : UInt8) (h : DkAt code pc [25, a]) : decode code pc = .ok (.aload a.toNat, 2) := dk_of ((dk_bind (dk_u1 (h 0 _ rfl))).trans ((dk_bind (dk_u1 (h 1 _ rfl))).trans rfl))
theorem dk_26 {code : ByteArray} {pc : Nat} (h : DkAt code pc [26]) : decode code pc = .ok (.iload_n 0, 1) := dk_of ((dk_bind (dk_u1 (h 0 _ rfl))).trans rfl)
theorem dk_27 {code : ByteArray} {pc : Nat} (h : DkAt code pc [27]) : decode code pc = .ok (.iload_n 1, 1) := dk_of ((dk_bind (dk_u1 (h 0 _ rfl))).trans rfl)
theorem dk_28 {code : ByteArray} {pc : Nat} (h : DkAt code pc [28]) : decode code pc = .ok (.iload_n 2, 1) := dk_of ((dk_bind (dk_u1 (h 0 _ rfl))).trans rfl)
theorem dk_29 {code : ByteArray} {pc : Nat} (h : DkAt code pc [29]) : decode code pc = .ok (.iload_n 3, 1) := dk_of ((dk_bind (dk_u1 (h 0 _ rfl))).trans rfl)
theorem dk_42 {code : ByteArray} {pc : Nat} (h : DkAt code pc [42]) : decode code pc = .ok (.aload_n 0, 1) := dk_of ((dk_bind (dk_u1 (h 0 _ rfl))).trans rfl)
theorem dk_43 {code : ByteArray} {pc : Nat} (h : DkAt code pc [43]) : decode code pc = .ok (.aload_n 1, 1) := dk_of ((dk_bind (dk_u1 (h 0 _ rfl))).trans rfl)
theorem dk_44 {code : ByteArray} {pc : Nat} (h : DkAt code pc [44]) : decode code pc = .ok (.aload_n 2, 1) := dk_of ((dk_bind (dk_u1 (h 0 _ rfl))).trans rfl)
theorem dk_45 {code : ByteArray} {pc : Nat} (h : DkAt code pc [45]) : decode code pc = .ok (.aload_n 3, 1) := dk_of ((dk_bind (dk_u1 (h 0 _ rfl))).trans rfl)
theorem dk_46 {code : ByteArray} {pc : Nat} (h : DkAt code pc [46]) : decode code pc = .ok (.iaload, 1) := dk_of ((dk_bind (dk_u1 (h 0 _ rfl))).trans rfl)
theorem dk_50 {code : ByteArray} {pc : Nat} (h : DkAt code pc [50]) : decode code pc = .ok (.aaload, 1) := dk_of ((dk_bind (dk_u1 (h 0 _ rfl))).trans rfl)
theorem dk_51 {code : ByteArray} {pc : Nat} (h : DkAt code pc [51]) : decode code pc = .ok (.baload, 1) := dk_of ((dk_bind (dk_u1 (h 0 _ rfl))).trans rfl)
theorem dk_52 {code : ByteArray} {pc : Nat} (h : DkAt code pc [52]) : decode code pc = .ok (.caload, 1) := dk_of ((dk_bind (dk_u1 (h 0 _ rfl))).trans rfl)
theorem dk_54 {code : ByteArray} {pc : Nat} (a : UInt8) (h : DkAt code pc [54, a]) : decode code pc = .ok (.istore a.toNat, 2) := dk_of ((dk_bind (dk_u1 (h 0 _ rfl))).trans ((dk_bind (dk_u1 (h 1 _ rfl))).trans rfl))
theorem dk_58 {code : ByteArray} {pc : Nat} (a : UInt8) (h : DkAt code pc [58, a]) : decode code pc = .ok (.astore a.toNat, 2) := dk_of ((dk_bind (dk_u1 (h 0 _ rfl))).trans ((dk_bind (dk_u1 (h 1 _ rfl))).trans rfl))
theorem dk_60 {code : ByteArray} {pc : Nat} (h : DkAt code pc [60]) : decode code pc = .ok (.istore_n 1, 1) := dk_of ((dk_bind (dk_u1 (h 0 _ rfl))).trans rfl)
theorem dk_61 {code : ByteArray} {pc : Nat} (h : DkAt code pc [61]) : decode code pc = .ok (.istore_n 2, 1) := dk_of ((dk_bind (dk_u1 (h 0 _ rfl))).trans rfl)
theorem dk_62 {code : ByteArray} {pc : Nat} (h : DkAt code pc [62]) : decode code pc = .ok (.istore_n 3, 1) := dk_of ((dk_bind (dk_u1 (h 0 _ rfl))).trans rfl)
theorem dk_76 {code : ByteArray} {pc : Nat} (h : DkAt code pc [76]) : decode code pc = .ok (.astore_n 1, 1) := dk_of ((dk_bind (dk_u1 (h 0 _ rfl))).trans rfl)
theorem dk_77 {code : ByteArray} {pc : Nat} (h : DkAt code pc [77]) : decode code pc = .ok (.astore_n 2, 1) := dk_of ((dk_bind (dk_u1 (h 0 _ rfl))).trans rfl)
theorem dk_78 {code : ByteArray} {pc : Nat} (h : DkAt code pc [78]) : decode code pc = .ok (.astore_n 3, 1) := dk_of ((dk_bind (dk_u1 (h 0 _ rfl))).trans rfl)
theorem dk_79 {code : ByteArray} {pc : Nat} (h : DkAt code pc [79]) : decode code pc = .ok (.iastore, 1) := dk_of ((dk_bind (dk_u1 (h 0 _ rfl))).trans rfl)
theorem dk_83 {code : ByteArray} {pc : Nat} (h : DkAt code pc [83]) : decode code pc = .ok (.aastore, 1) := dk_of ((dk_bind (dk_u1 (h 0 _ rfl))).trans rfl)
theorem dk_84 {code : ByteArray} {pc : Nat} (h : DkAt code pc [84]) : decode code pc = .ok (.bastore, 1) := dk_of ((dk_bind (dk_u1 (h 0 _ rfl))).trans rfl)
theorem dk_85 {code : ByteArray} {pc : Nat} (h : DkAt code pc [85]) : decode code pc = .ok (.castore, 1) := dk_of ((dk_bind (dk_u1 (h 0 _ rfl))).trans rfl)
theorem dk_87 {code : ByteArray} {pc : Nat} (h : DkAt code pc [87]) : decode code pc = .ok (.pop, 1) := dk_of ((dk_bind (dk_u1 (h 0 _ rfl))).trans rfl)
theorem dk_89 {code : ByteArray} {pc : Nat} (h : DkAt code pc [89]) : decode code pc = .ok (.dup, 1) := dk_of ((dk_bind (dk_u1 (h 0 _ rfl))).trans rfl)
theorem dk_92 {code : ByteArray} {pc : Nat} (h : DkAt code pc [92]) : decode code pc = .ok (.dup2, 1) := dk_of ((dk_bind (dk_u1 (h 0 _ rfl))).trans rfl)
theorem dk_96 {code : ByteArray} {pc : Nat} (h : DkAt code pc [96]) : decode code pc = .ok (.iadd, 1) := dk_of ((dk_bind (dk_u1 (h 0 _ rfl))).trans rfl)
theorem dk_100 {code : ByteArray} {pc : Nat} (h : DkAt code pc [100]) : decode code pc = .ok (.isub, 1) := dk_of ((dk_bind (dk_u1 (h 0 _ rfl))).trans rfl)
theorem dk_104 {code : ByteArray} {pc : Nat} (h : DkAt code pc [104]) : decode code pc = .ok (.imul, 1) := dk_of ((dk_bind (dk_u1 (h 0 _ rfl))).trans rfl)
theorem dk_108 {code : ByteArray} {pc : Nat} (h : DkAt code pc [108]) : decode code pc = .ok (.idiv, 1) := dk_of ((dk_bind (dk_u1 (h 0 _ rfl))).trans rfl)
theorem dk_112 {code : ByteArray} {pc : Nat} (h : DkAt code pc [112]) : decode code pc = .ok (.irem, 1) := dk_of ((dk_bind (dk_u1 (h 0 _ rfl))).trans rfl)
theorem dk_120 {code : ByteArray} {pc : Nat} (h : DkAt code pc [120]) : decode code pc = .ok (.ishl, 1) := dk_of ((dk_bind (dk_u1 (h 0 _ rfl))).trans rfl)
theorem dk_122 {code : ByteArray} {pc : Nat} (h : DkAt code pc [122]) : decode code pc = .ok (.ishr, 1) := dk_of ((dk_bind (dk_u1 (h 0 _ rfl))).trans rfl)
theorem dk_124 {code : ByteArray} {pc : Nat} (h : DkAt code pc [124]) : decode code pc = .ok (.iushr, 1) := dk_of ((dk_bind (dk_u1 (h 0 _ rfl))).trans rfl)
theorem dk_126 {code : ByteArray} {pc : Nat} (h : DkAt code pc [126]) : decode code pc = .ok (.iand, 1) := dk_of ((dk_bind (dk_u1 (h 0 _ rfl))).trans rfl)
theorem dk_128 {code : ByteArray} {pc : Nat} (h : DkAt code pc [128]) : decode code pc = .ok (.ior, 1) := dk_of ((dk_bind (dk_u1 (h 0 _ rfl))).trans rfl)
theorem dk_130 {code : ByteArray} {pc : Nat} (h : DkAt code pc [130]) : decode code pc = .ok (.ixor, 1) := dk_of ((dk_bind (dk_u1 (h 0 _ rfl))).trans rfl)
theorem dk_132 {code : ByteArray} {pc : Nat} (a b : UInt8) (h : DkAt code pc [132, a, b]) : decode code pc = .ok (.iinc a.toNat (Reader.signed 8 b.toNat), 3) := dk_of ((dk_bind (dk_u1 (h 0 _ rfl))).trans ((dk_bind (dk_u1 (h 1 _ rfl))).trans ((dk_bind (dk_map (dk_u1 (h 2 _ rfl)))).trans rfl)))
theorem dk_145 {code : ByteArray} {pc : Nat} (h : DkAt code pc [145]) : decode code pc = .ok (.i2b, 1) := dk_of ((dk_bind (dk_u1 (h 0 _ rfl))).trans rfl)
theorem dk_146 {code : ByteArray} {pc : Nat} (h : DkAt code pc [146]) : decode code pc = .ok (.i2c, 1) := dk_of ((dk_bind (dk_u1 (h 0 _ rfl))).trans rfl)
theorem dk_153 {code : ByteArray} {pc : Nat} (a b : UInt8) (h : DkAt code pc [153, a, b]) : decode code pc = .ok (.ifCond .eq (Reader.signed 16 (a.toNat * 256 + b.toNat)), 3) := dk_of ((dk_bind (dk_u1 (h 0 _ rfl))).trans ((dk_bind (dk_map (dk_u2 (h 1 _ rfl) (h 2 _ rfl)))).trans rfl))
theorem dk_154 {code : ByteArray} {pc : Nat} (a b : UInt8) (h : DkAt code pc [154, a, b]) : decode code pc = .ok (.ifCond .ne (Reader.signed 16 (a.toNat * 256 + b.toNat)), 3) := dk_of ((dk_bind (dk_u1 (h 0 _ rfl))).trans ((dk_bind (dk_map (dk_u2 (h 1 _ rfl) (h 2 _ rfl)))).trans rfl))
theorem dk_155 {code : ByteArray} {pc : Nat} (a b : UInt8) (h : DkAt code pc [155, a, b]) : decode code pc = .ok (.ifCond .lt (Reader.signed 16 (a.toNat * 256 + b.toNat)), 3) := dk_of ((dk_bind (dk_u1 (h 0 _ rfl))).trans ((dk_bind (dk_map (dk_u2 (h 1 _ rfl) (h 2 _ rfl)))).trans rfl))
theorem dk_156 {code : ByteArray} {pc : Nat} (a b : UInt8) (h : DkAt code pc [156, a, b]) : decode code pc = .ok (.ifCond .ge (Reader.signed 16 (a.toNat * 256 + b.toNat)), 3) := dk_of ((dk_bind (dk_u1 (h 0 _ rfl))).trans ((dk_bind (dk_map (dk_u2 (h 1 _ rfl) (h 2 _ rfl)))).trans rfl))
theorem dk_159 {code : ByteArray} {pc : Nat} (a b : UInt8) (h : DkAt code pc [159, a, b]) : decode code pc = .ok (.if_icmp .eq (Reader.signed 16 (a.toNat * 256 + b.toNat)), 3) := dk_of ((dk_bind (dk_u1 (h 0 _ rfl))).trans ((dk_bind (dk_map (dk_u2 (h 1 _ rfl) (h 2 _ rfl)))).trans rfl))
theorem dk_160 {code : ByteArray} {pc : Nat} (a b : UInt8) (h : DkAt code pc [160, a, b]) : decode code pc = .ok (.if_icmp .ne (Reader.signed 16 (a.toNat * 256 + b.toNat)), 3) := dk_of ((dk_bind (dk_u1 (h 0 _ rfl))).trans ((dk_bind (dk_map (dk_u2 (h 1 _ rfl) (h 2 _ rfl)))).trans rfl))
theorem dk_161 {code : ByteArray} {pc : Nat} (a b : UInt8) (h : DkAt code pc [161, a, b]) : decode code pc = .ok (.if_icmp .lt (Reader.signed 16 (a.toNat * 256 + b.toNat)), 3) := dk_of ((dk_bind (dk_u1 (h 0 _ rfl))).trans ((dk_bind (dk_map (dk_u2 (h 1 _ rfl) (h 2 _ rfl)))).trans rfl))
theorem dk_162 {code : ByteArray} {pc : Nat} (a b : UInt8) (h : DkAt code pc [162, a, b]) : decode code pc = .ok (.if_icmp .ge (Reader.signed 16 (a.toNat * 256 + b.toNat)), 3) := dk_of ((dk_bind (dk_u1 (h 0 _ rfl))).trans ((dk_bind (dk_map (dk_u2 (h 1 _ rfl) (h 2 _ rfl)))).trans rfl))
theorem dk_163 {code : ByteArray} {pc : Nat} (a b : UInt8) (h : DkAt code pc [163, a, b]) : decode code pc = .ok (.if_icmp .gt (Reader.signed 16 (a.toNat * 256 + b.toNat)), 3) := dk_of ((dk_bind (dk_u1 (h 0 _ rfl))).trans ((dk_bind (dk_map (dk_u2 (h 1 _ rfl) (h 2 _ rfl)))).trans rfl))
theorem dk_164 {code : ByteArray} {pc : Nat} (a b : UInt8) (h : DkAt code pc [164, a, b]) : decode code pc = .ok (.if_icmp .le (Reader.signed 16 (a.toNat * 256 + b.toNat)), 3) := dk_of ((dk_bind (dk_u1 (h 0 _ rfl))).trans ((dk_bind (dk_map (dk_u2 (h 1 _ rfl) (h 2 _ rfl)))).trans rfl))
theorem dk_167 {code : ByteArray} {pc : Nat} (a b : UInt8) (h : DkAt code pc [167, a, b]) : decode code pc = .ok (.goto (Reader.signed 16 (a.toNat * 256 + b.toNat)), 3) := dk_of ((dk_bind (dk_u1 (h 0 _ rfl))).trans ((dk_bind (dk_map (dk_u2 (h 1 _ rfl) (h 2 _ rfl)))).trans rfl))
theorem dk_172 {code : ByteArray} {pc : Nat} (h : DkAt code pc [172]) : decode code pc = .ok (.ireturn, 1) := dk_of ((dk_bind (dk_u1 (h 0 _ rfl))).trans rfl)
theorem dk_176 {code : ByteArray} {pc : Nat} (h : DkAt code pc [176]) : decode code pc = .ok (.areturn, 1) := dk_of ((dk_bind (dk_u1 (h 0 _ rfl))).trans rfl)
theorem dk_177 {code : ByteArray} {pc : Nat} (h : DkAt code pc [177]) : decode code pc = .ok (.return_, 1) := dk_of ((dk_bind (dk_u1 (h 0 _ rfl))).trans rfl)
theorem dk_178 {code : ByteArray} {pc : Nat} (a b : UInt8) (h : DkAt code pc [178, a, b]) : decode code pc = .ok (.getstatic (a.toNat * 256 + b.toNat), 3) := dk_of ((dk_bind (dk_u1 (h 0 _ rfl))).trans ((dk_bind (dk_u2 (h 1 _ rfl) (h 2 _ rfl))).trans rfl))
theorem dk_180 {code : ByteArray} {pc : Nat} (a b : UInt8) (h : DkAt code pc [180, a, b]) : decode code pc = .ok (.getfield (a.toNat * 256 + b.toNat), 3) := dk_of ((dk_bind (dk_u1 (h 0 _ rfl))).trans ((dk_bind (dk_u2 (h 1 _ rfl) (h 2 _ rfl))).trans rfl))
theorem dk_181 {code : ByteArray} {pc : Nat} (a b : UInt8) (h : DkAt code pc [181, a, b]) : decode code pc = .ok (.putfield (a.toNat * 256 + b.toNat), 3) := dk_of ((dk_bind (dk_u1 (h 0 _ rfl))).trans ((dk_bind (dk_u2 (h 1 _ rfl) (h 2 _ rfl))).trans rfl))
theorem dk_182 {code : ByteArray} {pc : Nat} (a b : UInt8) (h : DkAt code pc [182, a, b]) : decode code pc = .ok (.invokevirtual (a.toNat * 256 + b.toNat), 3) := dk_of ((dk_bind (dk_u1 (h 0 _ rfl))).trans ((dk_bind (dk_u2 (h 1 _ rfl) (h 2 _ rfl))).trans rfl))
theorem dk_183 {code : ByteArray} {pc : Nat} (a b : UInt8) (h : DkAt code pc [183, a, b]) : decode code pc = .ok (.invokespecial (a.toNat * 256 + b.toNat), 3) := dk_of ((dk_bind (dk_u1 (h 0 _ rfl))).trans ((dk_bind (dk_u2 (h 1 _ rfl) (h 2 _ rfl))).trans rfl))
theorem dk_184 {code : ByteArray} {pc : Nat} (a b : UInt8) (h : DkAt code pc [184, a, b]) : decode code pc = .ok (.invokestatic (a.toNat * 256 + b.toNat), 3) := dk_of ((dk_bind (dk_u1 (h 0 _ rfl))).trans ((dk_bind (dk_u2 (h 1 _ rfl) (h 2 _ rfl))).trans rfl))
theorem dk_187 {code : ByteArray} {pc : Nat} (a b : UInt8) (h : DkAt code pc [187, a, b]) : decode code pc = .ok (.new (a.toNat * 256 + b.toNat), 3) := dk_of ((dk_bind (dk_u1 (h 0 _ rfl))).trans ((dk_bind (dk_u2 (h 1 _ rfl) (h 2 _ rfl))).trans rfl))
theorem dk_188_5 {code : ByteArray} {pc : Nat} (h : DkAt code pc [188, 5]) : decode code pc = .ok (.newarray .char, 2) := dk_of ((dk_bind (dk_u1 (h 0 _ rfl))).trans ((dk_bind (dk_u1 (h 1 _ rfl))).trans rfl))
theorem dk_188_8 {code : ByteArray} {pc : Nat} (h : DkAt code pc [188, 8]) : decode code pc = .ok (.newarray .byte, 2) := dk_of ((dk_bind (dk_u1 (h 0 _ rfl))).trans ((dk_bind (dk_u1 (h 1 _ rfl))).trans rfl))
theorem dk_188_10 {code : ByteArray} {pc : Nat} (h : DkAt code pc [188, 10]) : decode code pc = .ok (.newarray .int, 2) := dk_of ((dk_bind (dk_u1 (h 0 _ rfl))).trans ((dk_bind (dk_u1 (h 1 _ rfl))).trans rfl))
theorem dk_189 {code : ByteArray} {pc : Nat} (a b : UInt8) (h : DkAt code pc [189, a, b]) : decode code pc = .ok (.anewarray (a.toNat * 256 + b.toNat), 3) := dk_of ((dk_bind (dk_u1 (h 0 _ rfl))).trans ((dk_bind (dk_u2 (h 1 _ rfl) (h 2 _ rfl))).trans rfl))
theorem dk_190 {code : ByteArray} {pc : Nat} (h : DkAt code pc [190]) : decode code pc = .ok (.arraylength, 1) := dk_of ((dk_bind (dk_u1 (h 0 _ rfl))).trans rfl)
theorem dk_191 {code : ByteArray} {pc : Nat} (h : DkAt code pc [191]) : decode code pc = .ok (.athrow, 1) := dk_of ((dk_bind (dk_u1 (h 0 _ rfl))).trans rfl)

/-! java/lang/Object -/
set_option maxRecDepth 100000
def RJ5 : String := "java/lang/Object"
abbrev cJ5_init : ByteArray := object_method_1_code
def yJ5_init : MethodName := ⟨RJ5, "<init>", "()V"⟩
theorem dJ5_init_0 : decode cJ5_init 0 = .ok (.return_, 1) := by decide +kernel
theorem q23 : (Jvm.Cond.instanceMethod ({ cls := "java/lang/Object", name := "<init>", desc := "()V" } : Jvm.MethodName)) ∈ lw_all := lw_g (lw_at lw_m1 15 rfl) rfl
theorem q24 : (Jvm.Cond.code ({ cls := "java/lang/Object", name := "<init>", desc := "()V" } : Jvm.MethodName) object_method_1_code (1 : Nat) (Option.none : Option Jvm.ClassFile.FieldType)) ∈ lw_all := lw_g (lw_at lw_m1 16 rfl) rfl

/-! java/lang/String -/
set_option maxRecDepth 100000
def RJ0 : String := "java/lang/String"
def TJ0 : u_T := fun k => match k with
  | 0 => ("java/lang/String", "value", "[B", true)
  | 1 => ("java/lang/String", "coder", "B", true)
  | 2 => ("java/lang/String", "hash", "I", false)
  | _ => ("java/lang/String", "hashIsZero", "Z", false)
def tyJ0 : Nat → FieldType := fun k => match k with
  | 0 => .array .byte
  | 1 => .byte
  | 2 => .int
  | _ => .boolean
abbrev wsJ00 : List Cond := u_ws RJ0 TJ0 4
theorem nmJ0 : ∀ a, a < 4 → ∀ b, b < 4 → a ≠ b → (TJ0 a).2.1 ≠ (TJ0 b).2.1 := by decide +kernel
theorem tyJ0_ok : ∀ k, k < 4 → parseFieldDescriptor (TJ0 k).2.2.1 = some (tyJ0 k) := by decide +kernel
abbrev cJ0_init : ByteArray := prog_6_method_3_code
def yJ0_init : MethodName := ⟨RJ0, "<init>", "([C)V"⟩
def dkwJ0_init_0 : List UInt8 := [42, 43, 3, 43, 190, 1, 183, 0, 27, 177]
abbrev dktJ0_init_0 : List UInt8 := dkwJ0_init_0 ++ []
theorem dksJ0_init_0 : cJ0_init.data.toList.drop 0 = dktJ0_init_0 := by decide +kernel
theorem dJ0_init_0 : decode cJ0_init 0 = .ok (.aload_n 0, 1) := dk_42 (dk_at dksJ0_init_0 0 rfl rfl)
theorem dJ0_init_1 : decode cJ0_init 1 = .ok (.aload_n 1, 1) := dk_43 (dk_at dksJ0_init_0 1 rfl rfl)
theorem dJ0_init_2 : decode cJ0_init 2 = .ok (.iconst 0, 1) := dk_3 (dk_at dksJ0_init_0 2 rfl rfl)
theorem dJ0_init_3 : decode cJ0_init 3 = .ok (.aload_n 1, 1) := dk_43 (dk_at dksJ0_init_0 3 rfl rfl)
theorem dJ0_init_4 : decode cJ0_init 4 = .ok (.arraylength, 1) := dk_190 (dk_at dksJ0_init_0 4 rfl rfl)
theorem dJ0_init_5 : decode cJ0_init 5 = .ok (.aconst_null, 1) := dk_1 (dk_at dksJ0_init_0 5 rfl rfl)
theorem dJ0_init_6 : decode cJ0_init 6 = .ok (.invokespecial 27, 3) := dk_183 0 27 (dk_at dksJ0_init_0 6 rfl rfl)
theorem dJ0_init_9 : decode cJ0_init 9 = .ok (.return_, 1) := dk_177 (dk_at dksJ0_init_0 9 rfl rfl)
abbrev cJ0_init_2 : ByteArray := prog_6_method_149_code
def yJ0_init_2 : MethodName := ⟨RJ0, "<init>", "([CIILjava/lang/Void;)V"⟩
def dkwJ0_init_2_3 : List UInt8 := [184, 0, 180, 181, 0, 9, 177]
abbrev dktJ0_init_2_3 : List UInt8 := dkwJ0_init_2_3 ++ []
def dkwJ0_init_2_2 : List UInt8 := [184, 0, 47, 181, 0, 15, 42, 25, 5, 181, 0, 9, 177, 42, 4, 181, 0, 15, 42, 43, 28, 29]
abbrev dktJ0_init_2_2 : List UInt8 := dkwJ0_init_2_2 ++ dktJ0_init_2_3
def dkwJ0_init_2_1 : List UInt8 := [181, 0, 15, 177, 178, 0, 38, 153, 0, 28, 43, 28, 29, 184, 0, 177, 58, 5, 42, 25, 5, 29]
abbrev dktJ0_init_2_1 : List UInt8 := dkwJ0_init_2_1 ++ dktJ0_init_2_2
def dkwJ0_init_2_0 : List UInt8 := [42, 183, 0, 1, 29, 154, 0, 22, 42, 18, 7, 180, 0, 9, 181, 0, 9, 42, 18, 7, 180, 0, 15]
abbrev dktJ0_init_2_0 : List UInt8 := dkwJ0_init_2_0 ++ dktJ0_init_2_1
theorem dksJ0_init_2_0 : cJ0_init_2.data.toList.drop 0 = dktJ0_init_2_0 := by decide +kernel
theorem dksJ0_init_2_1 : cJ0_init_2.data.toList.drop 23 = dktJ0_init_2_1 := dk_seg dksJ0_init_2_0 23 rfl rfl
theorem dksJ0_init_2_2 : cJ0_init_2.data.toList.drop 45 = dktJ0_init_2_2 := dk_seg dksJ0_init_2_1 22 rfl rfl
theorem dksJ0_init_2_3 : cJ0_init_2.data.toList.drop 67 = dktJ0_init_2_3 := dk_seg dksJ0_init_2_2 22 rfl rfl
theorem dJ0_init_2_0 : decode cJ0_init_2 0 = .ok (.aload_n 0, 1) := dk_42 (dk_at dksJ0_init_2_0 0 rfl rfl)
theorem dJ0_init_2_1 : decode cJ0_init_2 1 = .ok (.invokespecial 1, 3) := dk_183 0 1 (dk_at dksJ0_init_2_0 1 rfl rfl)
theorem dJ0_init_2_4 : decode cJ0_init_2 4 = .ok (.iload_n 3, 1) := dk_29 (dk_at dksJ0_init_2_0 4 rfl rfl)
theorem dJ0_init_2_5 : decode cJ0_init_2 5 = .ok (.ifCond .ne 22, 3) := dk_154 0 22 (dk_at dksJ0_init_2_0 5 rfl rfl)
theorem dJ0_init_2_8 : decode cJ0_init_2 8 = .ok (.aload_n 0, 1) := dk_42 (dk_at dksJ0_init_2_0 8 rfl rfl)
theorem dJ0_init_2_9 : decode cJ0_init_2 9 = .ok (.ldc 7, 2) := dk_18 7 (dk_at dksJ0_init_2_0 9 rfl rfl)
theorem dJ0_init_2_11 : decode cJ0_init_2 11 = .ok (.getfield 9, 3) := dk_180 0 9 (dk_at dksJ0_init_2_0 11 rfl rfl)
theorem dJ0_init_2_14 : decode cJ0_init_2 14 = .ok (.putfield 9, 3) := dk_181 0 9 (dk_at dksJ0_init_2_0 14 rfl rfl)
theorem dJ0_init_2_17 : decode cJ0_init_2 17 = .ok (.aload_n 0, 1) := dk_42 (dk_at dksJ0_init_2_0 17 rfl rfl)
theorem dJ0_init_2_18 : decode cJ0_init_2 18 = .ok (.ldc 7, 2) := dk_18 7 (dk_at dksJ0_init_2_0 18 rfl rfl)
theorem dJ0_init_2_20 : decode cJ0_init_2 20 = .ok (.getfield 15, 3) := dk_180 0 15 (dk_at dksJ0_init_2_0 20 rfl rfl)
theorem dJ0_init_2_23 : decode cJ0_init_2 23 = .ok (.putfield 15, 3) := dk_181 0 15 (dk_at dksJ0_init_2_1 0 rfl rfl)
theorem dJ0_init_2_26 : decode cJ0_init_2 26 = .ok (.return_, 1) := dk_177 (dk_at dksJ0_init_2_1 3 rfl rfl)
theorem dJ0_init_2_27 : decode cJ0_init_2 27 = .ok (.getstatic 38, 3) := dk_178 0 38 (dk_at dksJ0_init_2_1 4 rfl rfl)
theorem dJ0_init_2_30 : decode cJ0_init_2 30 = .ok (.ifCond .eq 28, 3) := dk_153 0 28 (dk_at dksJ0_init_2_1 7 rfl rfl)
theorem dJ0_init_2_33 : decode cJ0_init_2 33 = .ok (.aload_n 1, 1) := dk_43 (dk_at dksJ0_init_2_1 10 rfl rfl)
theorem dJ0_init_2_34 : decode cJ0_init_2 34 = .ok (.iload_n 2, 1) := dk_28 (dk_at dksJ0_init_2_1 11 rfl rfl)
theorem dJ0_init_2_35 : decode cJ0_init_2 35 = .ok (.iload_n 3, 1) := dk_29 (dk_at dksJ0_init_2_1 12 rfl rfl)
theorem dJ0_init_2_36 : decode cJ0_init_2 36 = .ok (.invokestatic 177, 3) := dk_184 0 177 (dk_at dksJ0_init_2_1 13 rfl rfl)
theorem dJ0_init_2_39 : decode cJ0_init_2 39 = .ok (.astore 5, 2) := dk_58 5 (dk_at dksJ0_init_2_1 16 rfl rfl)
theorem dJ0_init_2_41 : decode cJ0_init_2 41 = .ok (.aload_n 0, 1) := dk_42 (dk_at dksJ0_init_2_1 18 rfl rfl)
theorem dJ0_init_2_42 : decode cJ0_init_2 42 = .ok (.aload 5, 2) := dk_25 5 (dk_at dksJ0_init_2_1 19 rfl rfl)
theorem dJ0_init_2_44 : decode cJ0_init_2 44 = .ok (.iload_n 3, 1) := dk_29 (dk_at dksJ0_init_2_1 21 rfl rfl)
theorem dJ0_init_2_45 : decode cJ0_init_2 45 = .ok (.invokestatic 47, 3) := dk_184 0 47 (dk_at dksJ0_init_2_2 0 rfl rfl)
theorem dJ0_init_2_48 : decode cJ0_init_2 48 = .ok (.putfield 15, 3) := dk_181 0 15 (dk_at dksJ0_init_2_2 3 rfl rfl)
theorem dJ0_init_2_51 : decode cJ0_init_2 51 = .ok (.aload_n 0, 1) := dk_42 (dk_at dksJ0_init_2_2 6 rfl rfl)
theorem dJ0_init_2_52 : decode cJ0_init_2 52 = .ok (.aload 5, 2) := dk_25 5 (dk_at dksJ0_init_2_2 7 rfl rfl)
theorem dJ0_init_2_54 : decode cJ0_init_2 54 = .ok (.putfield 9, 3) := dk_181 0 9 (dk_at dksJ0_init_2_2 9 rfl rfl)
theorem dJ0_init_2_57 : decode cJ0_init_2 57 = .ok (.return_, 1) := dk_177 (dk_at dksJ0_init_2_2 12 rfl rfl)
theorem dJ0_init_2_58 : decode cJ0_init_2 58 = .ok (.aload_n 0, 1) := dk_42 (dk_at dksJ0_init_2_2 13 rfl rfl)
theorem dJ0_init_2_59 : decode cJ0_init_2 59 = .ok (.iconst 1, 1) := dk_4 (dk_at dksJ0_init_2_2 14 rfl rfl)
theorem dJ0_init_2_60 : decode cJ0_init_2 60 = .ok (.putfield 15, 3) := dk_181 0 15 (dk_at dksJ0_init_2_2 15 rfl rfl)
theorem dJ0_init_2_63 : decode cJ0_init_2 63 = .ok (.aload_n 0, 1) := dk_42 (dk_at dksJ0_init_2_2 18 rfl rfl)
theorem dJ0_init_2_64 : decode cJ0_init_2 64 = .ok (.aload_n 1, 1) := dk_43 (dk_at dksJ0_init_2_2 19 rfl rfl)
theorem dJ0_init_2_65 : decode cJ0_init_2 65 = .ok (.iload_n 2, 1) := dk_28 (dk_at dksJ0_init_2_2 20 rfl rfl)
theorem dJ0_init_2_66 : decode cJ0_init_2 66 = .ok (.iload_n 3, 1) := dk_29 (dk_at dksJ0_init_2_2 21 rfl rfl)
theorem dJ0_init_2_67 : decode cJ0_init_2 67 = .ok (.invokestatic 180, 3) := dk_184 0 180 (dk_at dksJ0_init_2_3 0 rfl rfl)
theorem dJ0_init_2_70 : decode cJ0_init_2 70 = .ok (.putfield 9, 3) := dk_181 0 9 (dk_at dksJ0_init_2_3 3 rfl rfl)
theorem dJ0_init_2_73 : decode cJ0_init_2 73 = .ok (.return_, 1) := dk_177 (dk_at dksJ0_init_2_3 6 rfl rfl)
abbrev cJ0_checkBoundsOffCount : ByteArray := prog_6_method_157_code
def yJ0_checkBoundsOffCount : MethodName := ⟨RJ0, "checkBoundsOffCount", "(III)I"⟩
abbrev cJ0_charAt : ByteArray := prog_6_method_56_code
def yJ0_charAt : MethodName := ⟨RJ0, "charAt", "(I)C"⟩
def dkwJ0_charAt_1 : List UInt8 := [172]
abbrev dktJ0_charAt_1 : List UInt8 := dkwJ0_charAt_1 ++ []
def dkwJ0_charAt_0 : List UInt8 := [42, 182, 1, 236, 153, 0, 12, 42, 180, 0, 9, 27, 184, 1, 239, 172, 42, 180, 0, 9, 27, 184, 1, 242]
abbrev dktJ0_charAt_0 : List UInt8 := dkwJ0_charAt_0 ++ dktJ0_charAt_1
theorem dksJ0_charAt_0 : cJ0_charAt.data.toList.drop 0 = dktJ0_charAt_0 := by decide +kernel
theorem dksJ0_charAt_1 : cJ0_charAt.data.toList.drop 24 = dktJ0_charAt_1 := dk_seg dksJ0_charAt_0 24 rfl rfl
theorem dJ0_charAt_0 : decode cJ0_charAt 0 = .ok (.aload_n 0, 1) := dk_42 (dk_at dksJ0_charAt_0 0 rfl rfl)
theorem dJ0_charAt_1 : decode cJ0_charAt 1 = .ok (.invokevirtual 492, 3) := dk_182 1 236 (dk_at dksJ0_charAt_0 1 rfl rfl)
theorem dJ0_charAt_4 : decode cJ0_charAt 4 = .ok (.ifCond .eq 12, 3) := dk_153 0 12 (dk_at dksJ0_charAt_0 4 rfl rfl)
theorem dJ0_charAt_7 : decode cJ0_charAt 7 = .ok (.aload_n 0, 1) := dk_42 (dk_at dksJ0_charAt_0 7 rfl rfl)
theorem dJ0_charAt_8 : decode cJ0_charAt 8 = .ok (.getfield 9, 3) := dk_180 0 9 (dk_at dksJ0_charAt_0 8 rfl rfl)
theorem dJ0_charAt_11 : decode cJ0_charAt 11 = .ok (.iload_n 1, 1) := dk_27 (dk_at dksJ0_charAt_0 11 rfl rfl)
theorem dJ0_charAt_12 : decode cJ0_charAt 12 = .ok (.invokestatic 495, 3) := dk_184 1 239 (dk_at dksJ0_charAt_0 12 rfl rfl)
theorem dJ0_charAt_15 : decode cJ0_charAt 15 = .ok (.ireturn, 1) := dk_172 (dk_at dksJ0_charAt_0 15 rfl rfl)
theorem dJ0_charAt_16 : decode cJ0_charAt 16 = .ok (.aload_n 0, 1) := dk_42 (dk_at dksJ0_charAt_0 16 rfl rfl)
theorem dJ0_charAt_17 : decode cJ0_charAt 17 = .ok (.getfield 9, 3) := dk_180 0 9 (dk_at dksJ0_charAt_0 17 rfl rfl)
theorem dJ0_charAt_20 : decode cJ0_charAt 20 = .ok (.iload_n 1, 1) := dk_27 (dk_at dksJ0_charAt_0 20 rfl rfl)
theorem dJ0_charAt_21 : decode cJ0_charAt 21 = .ok (.invokestatic 498, 3) := dk_184 1 242 (dk_at dksJ0_charAt_0 21 rfl rfl)
theorem dJ0_charAt_24 : decode cJ0_charAt 24 = .ok (.ireturn, 1) := dk_172 (dk_at dksJ0_charAt_1 0 rfl rfl)
abbrev cJ0_isLatin1 : ByteArray := prog_6_method_154_code
def yJ0_isLatin1 : MethodName := ⟨RJ0, "isLatin1", "()Z"⟩
def dkwJ0_isLatin1_0 : List UInt8 := [178, 0, 38, 153, 0, 14, 42, 180, 0, 15, 154, 0, 7, 4, 167, 0, 4, 3, 172]
abbrev dktJ0_isLatin1_0 : List UInt8 := dkwJ0_isLatin1_0 ++ []
theorem dksJ0_isLatin1_0 : cJ0_isLatin1.data.toList.drop 0 = dktJ0_isLatin1_0 := by decide +kernel
theorem dJ0_isLatin1_0 : decode cJ0_isLatin1 0 = .ok (.getstatic 38, 3) := dk_178 0 38 (dk_at dksJ0_isLatin1_0 0 rfl rfl)
theorem dJ0_isLatin1_3 : decode cJ0_isLatin1 3 = .ok (.ifCond .eq 14, 3) := dk_153 0 14 (dk_at dksJ0_isLatin1_0 3 rfl rfl)
theorem dJ0_isLatin1_6 : decode cJ0_isLatin1 6 = .ok (.aload_n 0, 1) := dk_42 (dk_at dksJ0_isLatin1_0 6 rfl rfl)
theorem dJ0_isLatin1_7 : decode cJ0_isLatin1 7 = .ok (.getfield 15, 3) := dk_180 0 15 (dk_at dksJ0_isLatin1_0 7 rfl rfl)
theorem dJ0_isLatin1_10 : decode cJ0_isLatin1 10 = .ok (.ifCond .ne 7, 3) := dk_154 0 7 (dk_at dksJ0_isLatin1_0 10 rfl rfl)
theorem dJ0_isLatin1_13 : decode cJ0_isLatin1 13 = .ok (.iconst 1, 1) := dk_4 (dk_at dksJ0_isLatin1_0 13 rfl rfl)
theorem dJ0_isLatin1_14 : decode cJ0_isLatin1 14 = .ok (.goto 4, 3) := dk_167 0 4 (dk_at dksJ0_isLatin1_0 14 rfl rfl)
theorem dJ0_isLatin1_17 : decode cJ0_isLatin1 17 = .ok (.iconst 0, 1) := dk_3 (dk_at dksJ0_isLatin1_0 17 rfl rfl)
theorem dJ0_isLatin1_18 : decode cJ0_isLatin1 18 = .ok (.ireturn, 1) := dk_172 (dk_at dksJ0_isLatin1_0 18 rfl rfl)
abbrev cJ0_checkIndex : ByteArray := prog_6_method_155_code
def yJ0_checkIndex : MethodName := ⟨RJ0, "checkIndex", "(II)V"⟩
def dkwJ0_checkIndex_0 : List UInt8 := [26, 27, 178, 4, 29, 184, 4, 35, 87, 177]
abbrev dktJ0_checkIndex_0 : List UInt8 := dkwJ0_checkIndex_0 ++ []
theorem dksJ0_checkIndex_0 : cJ0_checkIndex.data.toList.drop 0 = dktJ0_checkIndex_0 := by decide +kernel
theorem dJ0_checkIndex_0 : decode cJ0_checkIndex 0 = .ok (.iload_n 0, 1) := dk_26 (dk_at dksJ0_checkIndex_0 0 rfl rfl)
theorem dJ0_checkIndex_1 : decode cJ0_checkIndex 1 = .ok (.iload_n 1, 1) := dk_27 (dk_at dksJ0_checkIndex_0 1 rfl rfl)
theorem dJ0_checkIndex_2 : decode cJ0_checkIndex 2 = .ok (.getstatic 1053, 3) := dk_178 4 29 (dk_at dksJ0_checkIndex_0 2 rfl rfl)
theorem dJ0_checkIndex_5 : decode cJ0_checkIndex 5 = .ok (.invokestatic 1059, 3) := dk_184 4 35 (dk_at dksJ0_checkIndex_0 5 rfl rfl)
theorem dJ0_checkIndex_8 : decode cJ0_checkIndex 8 = .ok (.pop, 1) := dk_87 (dk_at dksJ0_checkIndex_0 8 rfl rfl)
theorem dJ0_checkIndex_9 : decode cJ0_checkIndex 9 = .ok (.return_, 1) := dk_177 (dk_at dksJ0_checkIndex_0 9 rfl rfl)
theorem q11 : (Jvm.Cond.initialized "java/lang/String") ∈ lw_all := lw_g (lw_at lw_m1 3 rfl) rfl
theorem q28 : (Jvm.Cond.instantiable "java/lang/String" (4 : Nat)) ∈ lw_all := lw_g (lw_at lw_m1 20 rfl) rfl
theorem q30 : (Jvm.Cond.instanceMethod ({ cls := "java/lang/String", name := "<init>", desc := "([C)V" } : Jvm.MethodName)) ∈ lw_all := lw_g (lw_at lw_m1 22 rfl) rfl
theorem q31 : (Jvm.Cond.code ({ cls := "java/lang/String", name := "<init>", desc := "([C)V" } : Jvm.MethodName) prog_6_method_3_code (2 : Nat) (Option.none : Option Jvm.ClassFile.FieldType)) ∈ lw_all := lw_g (lw_at lw_m1 23 rfl) rfl
theorem q32 : (Jvm.Cond.methodLink "java/lang/String" (27 : Nat) ({ cls := "java/lang/String", name := "<init>", desc := "([CIILjava/lang/Void;)V" } : Jvm.MethodName)) ∈ lw_all := lw_g (lw_at lw_m1 24 rfl) rfl
theorem q33 : (Jvm.Cond.instanceMethod ({ cls := "java/lang/String", name := "<init>", desc := "([CIILjava/lang/Void;)V" } : Jvm.MethodName)) ∈ lw_all := lw_g (lw_at lw_m1 25 rfl) rfl
theorem q34 : (Jvm.Cond.code ({ cls := "java/lang/String", name := "<init>", desc := "([CIILjava/lang/Void;)V" } : Jvm.MethodName) prog_6_method_149_code (6 : Nat) (Option.none : Option Jvm.ClassFile.FieldType)) ∈ lw_all := lw_g (lw_at lw_m1 26 rfl) rfl
theorem q35 : (Jvm.Cond.methodLink "java/lang/String" (1 : Nat) ({ cls := "java/lang/Object", name := "<init>", desc := "()V" } : Jvm.MethodName)) ∈ lw_all := lw_g (lw_at lw_m1 27 rfl) rfl
theorem q36 : (Jvm.Cond.stringRef "java/lang/String" (7 : Nat) "") ∈ lw_tbl := lw_at lw_m1 28 rfl
theorem q37 : (Jvm.Cond.fieldLink "java/lang/String" (38 : Nat) "java/lang/String" "COMPACT_STRINGS" "Z") ∈ lw_all := lw_g (lw_at lw_m1 29 rfl) rfl
theorem q38 : (Jvm.Cond.laysStatic "java/lang/String" "COMPACT_STRINGS" "Z") ∈ lw_tbl := lw_at lw_m1 30 rfl
theorem q39 : (Jvm.Cond.methodLink "java/lang/String" (177 : Nat) ({ cls := "java/lang/StringUTF16", name := "compress", desc := "([CII)[B" } : Jvm.MethodName)) ∈ lw_all := lw_g (lw_at lw_m1 31 rfl) rfl
theorem q77 : (Jvm.Cond.static ({ cls := "java/lang/String", name := "checkBoundsOffCount", desc := "(III)I" } : Jvm.MethodName)) ∈ lw_all := lw_g (lw_at lw_m1 69 rfl) rfl
theorem q78 : (Jvm.Cond.code ({ cls := "java/lang/String", name := "checkBoundsOffCount", desc := "(III)I" } : Jvm.MethodName) prog_6_method_157_code (3 : Nat) (Option.some Jvm.ClassFile.FieldType.int)) ∈ lw_all := lw_g (lw_at lw_m1 70 rfl) rfl
theorem q79 : (Jvm.Cond.fieldLink "java/lang/String" (1053 : Nat) "jdk/internal/util/Preconditions" "SIOOBE_FORMATTER" "Ljava/util/function/BiFunction;") ∈ lw_all := lw_g (lw_at lw_m1 71 rfl) rfl
theorem q81 : (Jvm.Cond.methodLink "java/lang/String" (1065 : Nat) ({ cls := "jdk/internal/util/Preconditions", name := "checkFromIndexSize", desc := "(IIILjava/util/function/BiFunction;)I" } : Jvm.MethodName)) ∈ lw_all := lw_g (lw_at lw_m1 73 rfl) rfl
theorem q84 : (Jvm.Cond.methodLink "java/lang/String" (47 : Nat) ({ cls := "java/lang/StringUTF16", name := "coderFromArrayLen", desc := "([BI)B" } : Jvm.MethodName)) ∈ lw_all := lw_g (lw_at lw_m1 76 rfl) rfl
theorem q87 : (Jvm.Cond.methodLink "java/lang/String" (180 : Nat) ({ cls := "java/lang/StringUTF16", name := "toBytes", desc := "([CII)[B" } : Jvm.MethodName)) ∈ lw_all := lw_g (lw_at lw_m1 79 rfl) rfl
theorem q88 : (Jvm.Cond.fieldLink "java/lang/String" (9 : Nat) "java/lang/String" "value" "[B") ∈ lw_all := lw_g (lw_at lw_m1 80 rfl) rfl
theorem q89 : (Jvm.Cond.fieldLink "java/lang/String" (15 : Nat) "java/lang/String" "coder" "B") ∈ lw_all := lw_g (lw_at lw_m1 81 rfl) rfl
theorem q90 : (Jvm.Cond.laysFinal "java/lang/String" "java/lang/String" "value" "[B") ∈ lw_all := lw_g (lw_at lw_m1 82 rfl) rfl
theorem q91 : (Jvm.Cond.soleField "java/lang/String" "value") ∈ lw_all := lw_g (lw_at lw_m1 83 rfl) rfl
theorem q92 : (Jvm.Cond.laysFinal "java/lang/String" "java/lang/String" "coder" "B") ∈ lw_all := lw_g (lw_at lw_m1 84 rfl) rfl
theorem q93 : (Jvm.Cond.soleField "java/lang/String" "coder") ∈ lw_all := lw_g (lw_at lw_m1 85 rfl) rfl
theorem q94 : (Jvm.Cond.lays "java/lang/String" "java/lang/String" "hash" "I") ∈ lw_all := lw_g (lw_at lw_m1 86 rfl) rfl
theorem q95 : (Jvm.Cond.soleField "java/lang/String" "hash") ∈ lw_all := lw_g (lw_at lw_m1 87 rfl) rfl
theorem q96 : (Jvm.Cond.lays "java/lang/String" "java/lang/String" "hashIsZero" "Z") ∈ lw_all := lw_g (lw_at lw_m1 88 rfl) rfl
theorem q97 : (Jvm.Cond.soleField "java/lang/String" "hashIsZero") ∈ lw_all := lw_g (lw_at lw_m1 89 rfl) rfl
theorem q98 : (Jvm.Cond.superclass "java/lang/String" "java/lang/Object") ∈ lw_all := lw_g (lw_at lw_m1 90 rfl) rfl
theorem q156 : (Jvm.Cond.castable "java/lang/String" "java/lang/CharSequence") ∈ lw_tbl := lw_at lw_m1 148 rfl
theorem q157 : (Jvm.Cond.selects "java/lang/String" ({ cls := "java/lang/CharSequence", name := "charAt", desc := "(I)C" } : Jvm.MethodName) ({ cls := "java/lang/String", name := "charAt", desc := "(I)C" } : Jvm.MethodName)) ∈ lw_all := lw_g (lw_at lw_m1 149 rfl) rfl
theorem q158 : (Jvm.Cond.unhidden "java/lang/String" "charAt" "(I)C") ∈ lw_tbl := lw_at lw_m1 150 rfl
theorem q159 : (Jvm.Cond.instanceMethod ({ cls := "java/lang/String", name := "charAt", desc := "(I)C" } : Jvm.MethodName)) ∈ lw_all := lw_g (lw_at lw_m1 151 rfl) rfl
theorem q160 : (Jvm.Cond.publicMethod ({ cls := "java/lang/String", name := "charAt", desc := "(I)C" } : Jvm.MethodName)) ∈ lw_tbl := lw_at lw_m1 152 rfl
theorem q161 : (Jvm.Cond.code ({ cls := "java/lang/String", name := "charAt", desc := "(I)C" } : Jvm.MethodName) prog_6_method_56_code (2 : Nat) (Option.some Jvm.ClassFile.FieldType.char)) ∈ lw_all := lw_g (lw_at lw_m1 153 rfl) rfl
theorem q162 : (Jvm.Cond.methodLink "java/lang/String" (492 : Nat) ({ cls := "java/lang/String", name := "isLatin1", desc := "()Z" } : Jvm.MethodName)) ∈ lw_all := lw_g (lw_at lw_m1 154 rfl) rfl
theorem q163 : (Jvm.Cond.instanceMethod ({ cls := "java/lang/String", name := "isLatin1", desc := "()Z" } : Jvm.MethodName)) ∈ lw_all := lw_g (lw_at lw_m1 155 rfl) rfl
theorem q164 : (Jvm.Cond.selects "java/lang/String" ({ cls := "java/lang/String", name := "isLatin1", desc := "()Z" } : Jvm.MethodName) ({ cls := "java/lang/String", name := "isLatin1", desc := "()Z" } : Jvm.MethodName)) ∈ lw_all := lw_g (lw_at lw_m1 156 rfl) rfl
theorem q165 : (Jvm.Cond.code ({ cls := "java/lang/String", name := "isLatin1", desc := "()Z" } : Jvm.MethodName) prog_6_method_154_code (1 : Nat) (Option.some Jvm.ClassFile.FieldType.boolean)) ∈ lw_all := lw_g (lw_at lw_m1 157 rfl) rfl
theorem q166 : (Jvm.Cond.methodLink "java/lang/String" (495 : Nat) ({ cls := "java/lang/StringLatin1", name := "charAt", desc := "([BI)C" } : Jvm.MethodName)) ∈ lw_all := lw_g (lw_at lw_m1 158 rfl) rfl
theorem q170 : (Jvm.Cond.static ({ cls := "java/lang/String", name := "checkIndex", desc := "(II)V" } : Jvm.MethodName)) ∈ lw_all := lw_g (lw_at lw_m1 162 rfl) rfl
theorem q171 : (Jvm.Cond.code ({ cls := "java/lang/String", name := "checkIndex", desc := "(II)V" } : Jvm.MethodName) prog_6_method_155_code (2 : Nat) (Option.none : Option Jvm.ClassFile.FieldType)) ∈ lw_all := lw_g (lw_at lw_m1 163 rfl) rfl
theorem q172 : (Jvm.Cond.methodLink "java/lang/String" (1059 : Nat) ({ cls := "jdk/internal/util/Preconditions", name := "checkIndex", desc := "(IILjava/util/function/BiFunction;)I" } : Jvm.MethodName)) ∈ lw_all := lw_g (lw_at lw_m1 164 rfl) rfl
theorem q175 : (Jvm.Cond.methodLink "java/lang/String" (498 : Nat) ({ cls := "java/lang/StringUTF16", name := "charAt", desc := "([BI)C" } : Jvm.MethodName)) ∈ lw_all := lw_g (lw_at lw_m1 167 rfl) rfl
theorem in_J0 : ∀ w ∈ wsJ00, w ∈ lw_all := lw_in wsJ00 [90, 92, 94, 96] (by decide +kernel) (by decide +kernel)

/-! java/lang/StringUTF16 -/
set_option maxRecDepth 100000
def RJ1 : String := "java/lang/StringUTF16"
abbrev cJ1_compress : ByteArray := prog_8_method_16_code
def yJ1_compress : MethodName := ⟨RJ1, "compress", "([CII)[B"⟩
def dkwJ1_compress_2 : List UInt8 := [184, 0, 123, 28, 159, 0, 6, 25, 5, 176, 45, 176]
abbrev dktJ1_compress_2 : List UInt8 := dkwJ1_compress_2 ++ []
def dkwJ1_compress_1 : List UInt8 := [184, 0, 119, 58, 5, 25, 5, 21, 4, 184, 0, 71, 17, 0, 255, 163, 0, 16, 25, 5, 3, 45, 3, 28]
abbrev dktJ1_compress_1 : List UInt8 := dkwJ1_compress_1 ++ dktJ1_compress_2
def dkwJ1_compress_0 : List UInt8 := [28, 188, 8, 78, 42, 27, 45, 3, 28, 184, 0, 115, 54, 4, 21, 4, 28, 159, 0, 40, 42, 27, 28]
abbrev dktJ1_compress_0 : List UInt8 := dkwJ1_compress_0 ++ dktJ1_compress_1
theorem dksJ1_compress_0 : cJ1_compress.data.toList.drop 0 = dktJ1_compress_0 := by decide +kernel
theorem dksJ1_compress_1 : cJ1_compress.data.toList.drop 23 = dktJ1_compress_1 := dk_seg dksJ1_compress_0 23 rfl rfl
theorem dksJ1_compress_2 : cJ1_compress.data.toList.drop 47 = dktJ1_compress_2 := dk_seg dksJ1_compress_1 24 rfl rfl
theorem dJ1_compress_0 : decode cJ1_compress 0 = .ok (.iload_n 2, 1) := dk_28 (dk_at dksJ1_compress_0 0 rfl rfl)
theorem dJ1_compress_1 : decode cJ1_compress 1 = .ok (.newarray .byte, 2) := dk_188_8 (dk_at dksJ1_compress_0 1 rfl rfl)
theorem dJ1_compress_3 : decode cJ1_compress 3 = .ok (.astore_n 3, 1) := dk_78 (dk_at dksJ1_compress_0 3 rfl rfl)
theorem dJ1_compress_4 : decode cJ1_compress 4 = .ok (.aload_n 0, 1) := dk_42 (dk_at dksJ1_compress_0 4 rfl rfl)
theorem dJ1_compress_5 : decode cJ1_compress 5 = .ok (.iload_n 1, 1) := dk_27 (dk_at dksJ1_compress_0 5 rfl rfl)
theorem dJ1_compress_6 : decode cJ1_compress 6 = .ok (.aload_n 3, 1) := dk_45 (dk_at dksJ1_compress_0 6 rfl rfl)
theorem dJ1_compress_7 : decode cJ1_compress 7 = .ok (.iconst 0, 1) := dk_3 (dk_at dksJ1_compress_0 7 rfl rfl)
theorem dJ1_compress_8 : decode cJ1_compress 8 = .ok (.iload_n 2, 1) := dk_28 (dk_at dksJ1_compress_0 8 rfl rfl)
theorem dJ1_compress_9 : decode cJ1_compress 9 = .ok (.invokestatic 115, 3) := dk_184 0 115 (dk_at dksJ1_compress_0 9 rfl rfl)
theorem dJ1_compress_12 : decode cJ1_compress 12 = .ok (.istore 4, 2) := dk_54 4 (dk_at dksJ1_compress_0 12 rfl rfl)
theorem dJ1_compress_14 : decode cJ1_compress 14 = .ok (.iload 4, 2) := dk_21 4 (dk_at dksJ1_compress_0 14 rfl rfl)
theorem dJ1_compress_16 : decode cJ1_compress 16 = .ok (.iload_n 2, 1) := dk_28 (dk_at dksJ1_compress_0 16 rfl rfl)
theorem dJ1_compress_17 : decode cJ1_compress 17 = .ok (.if_icmp .eq 40, 3) := dk_159 0 40 (dk_at dksJ1_compress_0 17 rfl rfl)
theorem dJ1_compress_20 : decode cJ1_compress 20 = .ok (.aload_n 0, 1) := dk_42 (dk_at dksJ1_compress_0 20 rfl rfl)
theorem dJ1_compress_21 : decode cJ1_compress 21 = .ok (.iload_n 1, 1) := dk_27 (dk_at dksJ1_compress_0 21 rfl rfl)
theorem dJ1_compress_22 : decode cJ1_compress 22 = .ok (.iload_n 2, 1) := dk_28 (dk_at dksJ1_compress_0 22 rfl rfl)
theorem dJ1_compress_23 : decode cJ1_compress 23 = .ok (.invokestatic 119, 3) := dk_184 0 119 (dk_at dksJ1_compress_1 0 rfl rfl)
theorem dJ1_compress_26 : decode cJ1_compress 26 = .ok (.astore 5, 2) := dk_58 5 (dk_at dksJ1_compress_1 3 rfl rfl)
theorem dJ1_compress_28 : decode cJ1_compress 28 = .ok (.aload 5, 2) := dk_25 5 (dk_at dksJ1_compress_1 5 rfl rfl)
theorem dJ1_compress_30 : decode cJ1_compress 30 = .ok (.iload 4, 2) := dk_21 4 (dk_at dksJ1_compress_1 7 rfl rfl)
theorem dJ1_compress_32 : decode cJ1_compress 32 = .ok (.invokestatic 71, 3) := dk_184 0 71 (dk_at dksJ1_compress_1 9 rfl rfl)
theorem dJ1_compress_35 : decode cJ1_compress 35 = .ok (.sipush 255, 3) := dk_17 0 255 (dk_at dksJ1_compress_1 12 rfl rfl)
theorem dJ1_compress_38 : decode cJ1_compress 38 = .ok (.if_icmp .gt 16, 3) := dk_163 0 16 (dk_at dksJ1_compress_1 15 rfl rfl)
theorem dJ1_compress_41 : decode cJ1_compress 41 = .ok (.aload 5, 2) := dk_25 5 (dk_at dksJ1_compress_1 18 rfl rfl)
theorem dJ1_compress_43 : decode cJ1_compress 43 = .ok (.iconst 0, 1) := dk_3 (dk_at dksJ1_compress_1 20 rfl rfl)
theorem dJ1_compress_44 : decode cJ1_compress 44 = .ok (.aload_n 3, 1) := dk_45 (dk_at dksJ1_compress_1 21 rfl rfl)
theorem dJ1_compress_45 : decode cJ1_compress 45 = .ok (.iconst 0, 1) := dk_3 (dk_at dksJ1_compress_1 22 rfl rfl)
theorem dJ1_compress_46 : decode cJ1_compress 46 = .ok (.iload_n 2, 1) := dk_28 (dk_at dksJ1_compress_1 23 rfl rfl)
theorem dJ1_compress_47 : decode cJ1_compress 47 = .ok (.invokestatic 123, 3) := dk_184 0 123 (dk_at dksJ1_compress_2 0 rfl rfl)
theorem dJ1_compress_50 : decode cJ1_compress 50 = .ok (.iload_n 2, 1) := dk_28 (dk_at dksJ1_compress_2 3 rfl rfl)
theorem dJ1_compress_51 : decode cJ1_compress 51 = .ok (.if_icmp .eq 6, 3) := dk_159 0 6 (dk_at dksJ1_compress_2 4 rfl rfl)
theorem dJ1_compress_54 : decode cJ1_compress 54 = .ok (.aload 5, 2) := dk_25 5 (dk_at dksJ1_compress_2 7 rfl rfl)
theorem dJ1_compress_56 : decode cJ1_compress 56 = .ok (.areturn, 1) := dk_176 (dk_at dksJ1_compress_2 9 rfl rfl)
theorem dJ1_compress_57 : decode cJ1_compress 57 = .ok (.aload_n 3, 1) := dk_45 (dk_at dksJ1_compress_2 10 rfl rfl)
theorem dJ1_compress_58 : decode cJ1_compress 58 = .ok (.areturn, 1) := dk_176 (dk_at dksJ1_compress_2 11 rfl rfl)
abbrev cJ1_compress_2 : ByteArray := prog_8_method_21_code
def yJ1_compress_2 : MethodName := ⟨RJ1, "compress", "([CI[BII)I"⟩
def dkwJ1_compress_2_1 : List UInt8 := [21, 5, 172, 44, 29, 21, 6, 145, 84, 132, 1, 1, 132, 3, 1, 132, 5, 1, 167, 255, 218, 21, 4, 172]
abbrev dktJ1_compress_2_1 : List UInt8 := dkwJ1_compress_2_1 ++ []
def dkwJ1_compress_2_0 : List UInt8 := [3, 54, 5, 21, 5, 21, 4, 162, 0, 37, 42, 27, 52, 54, 6, 21, 6, 17, 0, 255, 164, 0, 6]
abbrev dktJ1_compress_2_0 : List UInt8 := dkwJ1_compress_2_0 ++ dktJ1_compress_2_1
theorem dksJ1_compress_2_0 : cJ1_compress_2.data.toList.drop 0 = dktJ1_compress_2_0 := by decide +kernel
theorem dksJ1_compress_2_1 : cJ1_compress_2.data.toList.drop 23 = dktJ1_compress_2_1 := dk_seg dksJ1_compress_2_0 23 rfl rfl
theorem dJ1_compress_2_0 : decode cJ1_compress_2 0 = .ok (.iconst 0, 1) := dk_3 (dk_at dksJ1_compress_2_0 0 rfl rfl)
theorem dJ1_compress_2_1 : decode cJ1_compress_2 1 = .ok (.istore 5, 2) := dk_54 5 (dk_at dksJ1_compress_2_0 1 rfl rfl)
theorem dJ1_compress_2_3 : decode cJ1_compress_2 3 = .ok (.iload 5, 2) := dk_21 5 (dk_at dksJ1_compress_2_0 3 rfl rfl)
theorem dJ1_compress_2_5 : decode cJ1_compress_2 5 = .ok (.iload 4, 2) := dk_21 4 (dk_at dksJ1_compress_2_0 5 rfl rfl)
theorem dJ1_compress_2_7 : decode cJ1_compress_2 7 = .ok (.if_icmp .ge 37, 3) := dk_162 0 37 (dk_at dksJ1_compress_2_0 7 rfl rfl)
theorem dJ1_compress_2_10 : decode cJ1_compress_2 10 = .ok (.aload_n 0, 1) := dk_42 (dk_at dksJ1_compress_2_0 10 rfl rfl)
theorem dJ1_compress_2_11 : decode cJ1_compress_2 11 = .ok (.iload_n 1, 1) := dk_27 (dk_at dksJ1_compress_2_0 11 rfl rfl)
theorem dJ1_compress_2_12 : decode cJ1_compress_2 12 = .ok (.caload, 1) := dk_52 (dk_at dksJ1_compress_2_0 12 rfl rfl)
theorem dJ1_compress_2_13 : decode cJ1_compress_2 13 = .ok (.istore 6, 2) := dk_54 6 (dk_at dksJ1_compress_2_0 13 rfl rfl)
theorem dJ1_compress_2_15 : decode cJ1_compress_2 15 = .ok (.iload 6, 2) := dk_21 6 (dk_at dksJ1_compress_2_0 15 rfl rfl)
theorem dJ1_compress_2_17 : decode cJ1_compress_2 17 = .ok (.sipush 255, 3) := dk_17 0 255 (dk_at dksJ1_compress_2_0 17 rfl rfl)
theorem dJ1_compress_2_20 : decode cJ1_compress_2 20 = .ok (.if_icmp .le 6, 3) := dk_164 0 6 (dk_at dksJ1_compress_2_0 20 rfl rfl)
theorem dJ1_compress_2_23 : decode cJ1_compress_2 23 = .ok (.iload 5, 2) := dk_21 5 (dk_at dksJ1_compress_2_1 0 rfl rfl)
theorem dJ1_compress_2_25 : decode cJ1_compress_2 25 = .ok (.ireturn, 1) := dk_172 (dk_at dksJ1_compress_2_1 2 rfl rfl)
theorem dJ1_compress_2_26 : decode cJ1_compress_2 26 = .ok (.aload_n 2, 1) := dk_44 (dk_at dksJ1_compress_2_1 3 rfl rfl)
theorem dJ1_compress_2_27 : decode cJ1_compress_2 27 = .ok (.iload_n 3, 1) := dk_29 (dk_at dksJ1_compress_2_1 4 rfl rfl)
theorem dJ1_compress_2_28 : decode cJ1_compress_2 28 = .ok (.iload 6, 2) := dk_21 6 (dk_at dksJ1_compress_2_1 5 rfl rfl)
theorem dJ1_compress_2_30 : decode cJ1_compress_2 30 = .ok (.i2b, 1) := dk_145 (dk_at dksJ1_compress_2_1 7 rfl rfl)
theorem dJ1_compress_2_31 : decode cJ1_compress_2 31 = .ok (.bastore, 1) := dk_84 (dk_at dksJ1_compress_2_1 8 rfl rfl)
theorem dJ1_compress_2_32 : decode cJ1_compress_2 32 = .ok (.iinc 1 1, 3) := dk_132 1 1 (dk_at dksJ1_compress_2_1 9 rfl rfl)
theorem dJ1_compress_2_35 : decode cJ1_compress_2 35 = .ok (.iinc 3 1, 3) := dk_132 3 1 (dk_at dksJ1_compress_2_1 12 rfl rfl)
theorem dJ1_compress_2_38 : decode cJ1_compress_2 38 = .ok (.iinc 5 1, 3) := dk_132 5 1 (dk_at dksJ1_compress_2_1 15 rfl rfl)
theorem dJ1_compress_2_41 : decode cJ1_compress_2 41 = .ok (.goto (-38), 3) := dk_167 255 218 (dk_at dksJ1_compress_2_1 18 rfl rfl)
theorem dJ1_compress_2_44 : decode cJ1_compress_2 44 = .ok (.iload 4, 2) := dk_21 4 (dk_at dksJ1_compress_2_1 21 rfl rfl)
theorem dJ1_compress_2_46 : decode cJ1_compress_2 46 = .ok (.ireturn, 1) := dk_172 (dk_at dksJ1_compress_2_1 23 rfl rfl)
abbrev cJ1_toBytes : ByteArray := prog_8_method_14_code
def yJ1_toBytes : MethodName := ⟨RJ1, "toBytes", "([CII)[B"⟩
abbrev cJ1_newBytesFor : ByteArray := prog_8_method_2_code
def yJ1_newBytesFor : MethodName := ⟨RJ1, "newBytesFor", "(I)[B"⟩
abbrev cJ1_newBytesLength : ByteArray := prog_8_method_3_code
def yJ1_newBytesLength : MethodName := ⟨RJ1, "newBytesLength", "(I)I"⟩
abbrev cJ1_putChar : ByteArray := prog_8_method_4_code
def yJ1_putChar : MethodName := ⟨RJ1, "putChar", "([BII)V"⟩
abbrev cJ1_length : ByteArray := prog_8_method_6_code
def yJ1_length : MethodName := ⟨RJ1, "length", "([B)I"⟩
abbrev cJ1_getChar : ByteArray := prog_8_method_5_code
def yJ1_getChar : MethodName := ⟨RJ1, "getChar", "([BI)C"⟩
abbrev cJ1_compress_3 : ByteArray := prog_8_method_22_code
def yJ1_compress_3 : MethodName := ⟨RJ1, "compress", "([BI[BII)I"⟩
abbrev cJ1_checkBoundsOffCount : ByteArray := prog_8_method_94_code
def yJ1_checkBoundsOffCount : MethodName := ⟨RJ1, "checkBoundsOffCount", "(II[B)V"⟩
abbrev cJ1_coderFromArrayLen : ByteArray := prog_8_method_15_code
def yJ1_coderFromArrayLen : MethodName := ⟨RJ1, "coderFromArrayLen", "([BI)B"⟩
def dkwJ1_coderFromArrayLen_0 : List UInt8 := [27, 42, 190, 100, 16, 31, 124, 145, 172]
abbrev dktJ1_coderFromArrayLen_0 : List UInt8 := dkwJ1_coderFromArrayLen_0 ++ []
theorem dksJ1_coderFromArrayLen_0 : cJ1_coderFromArrayLen.data.toList.drop 0 = dktJ1_coderFromArrayLen_0 := by decide +kernel
theorem dJ1_coderFromArrayLen_0 : decode cJ1_coderFromArrayLen 0 = .ok (.iload_n 1, 1) := dk_27 (dk_at dksJ1_coderFromArrayLen_0 0 rfl rfl)
theorem dJ1_coderFromArrayLen_1 : decode cJ1_coderFromArrayLen 1 = .ok (.aload_n 0, 1) := dk_42 (dk_at dksJ1_coderFromArrayLen_0 1 rfl rfl)
theorem dJ1_coderFromArrayLen_2 : decode cJ1_coderFromArrayLen 2 = .ok (.arraylength, 1) := dk_190 (dk_at dksJ1_coderFromArrayLen_0 2 rfl rfl)
theorem dJ1_coderFromArrayLen_3 : decode cJ1_coderFromArrayLen 3 = .ok (.isub, 1) := dk_100 (dk_at dksJ1_coderFromArrayLen_0 3 rfl rfl)
theorem dJ1_coderFromArrayLen_4 : decode cJ1_coderFromArrayLen 4 = .ok (.bipush 31, 2) := dk_16 31 (dk_at dksJ1_coderFromArrayLen_0 4 rfl rfl)
theorem dJ1_coderFromArrayLen_6 : decode cJ1_coderFromArrayLen 6 = .ok (.iushr, 1) := dk_124 (dk_at dksJ1_coderFromArrayLen_0 6 rfl rfl)
theorem dJ1_coderFromArrayLen_7 : decode cJ1_coderFromArrayLen 7 = .ok (.i2b, 1) := dk_145 (dk_at dksJ1_coderFromArrayLen_0 7 rfl rfl)
theorem dJ1_coderFromArrayLen_8 : decode cJ1_coderFromArrayLen 8 = .ok (.ireturn, 1) := dk_172 (dk_at dksJ1_coderFromArrayLen_0 8 rfl rfl)
abbrev cJ1_charAt : ByteArray := prog_8_method_83_code
def yJ1_charAt : MethodName := ⟨RJ1, "charAt", "([BI)C"⟩
abbrev cJ1_checkIndex : ByteArray := prog_8_method_91_code
def yJ1_checkIndex : MethodName := ⟨RJ1, "checkIndex", "(I[B)V"⟩
theorem q12 : (Jvm.Cond.initialized "java/lang/StringUTF16") ∈ lw_all := lw_g (lw_at lw_m1 4 rfl) rfl
theorem q40 : (Jvm.Cond.static ({ cls := "java/lang/StringUTF16", name := "compress", desc := "([CII)[B" } : Jvm.MethodName)) ∈ lw_all := lw_g (lw_at lw_m1 32 rfl) rfl
theorem q41 : (Jvm.Cond.code ({ cls := "java/lang/StringUTF16", name := "compress", desc := "([CII)[B" } : Jvm.MethodName) prog_8_method_16_code (6 : Nat) (Option.some (Jvm.ClassFile.FieldType.array Jvm.ClassFile.FieldType.byte))) ∈ lw_all := lw_g (lw_at lw_m1 33 rfl) rfl
theorem q42 : (Jvm.Cond.methodLink "java/lang/StringUTF16" (115 : Nat) ({ cls := "java/lang/StringUTF16", name := "compress", desc := "([CI[BII)I" } : Jvm.MethodName)) ∈ lw_all := lw_g (lw_at lw_m1 34 rfl) rfl
theorem q43 : (Jvm.Cond.static ({ cls := "java/lang/StringUTF16", name := "compress", desc := "([CI[BII)I" } : Jvm.MethodName)) ∈ lw_all := lw_g (lw_at lw_m1 35 rfl) rfl
theorem q44 : (Jvm.Cond.code ({ cls := "java/lang/StringUTF16", name := "compress", desc := "([CI[BII)I" } : Jvm.MethodName) prog_8_method_21_code (7 : Nat) (Option.some Jvm.ClassFile.FieldType.int)) ∈ lw_all := lw_g (lw_at lw_m1 36 rfl) rfl
theorem q45 : (Jvm.Cond.methodLink "java/lang/StringUTF16" (119 : Nat) ({ cls := "java/lang/StringUTF16", name := "toBytes", desc := "([CII)[B" } : Jvm.MethodName)) ∈ lw_all := lw_g (lw_at lw_m1 37 rfl) rfl
theorem q46 : (Jvm.Cond.static ({ cls := "java/lang/StringUTF16", name := "toBytes", desc := "([CII)[B" } : Jvm.MethodName)) ∈ lw_all := lw_g (lw_at lw_m1 38 rfl) rfl
theorem q47 : (Jvm.Cond.code ({ cls := "java/lang/StringUTF16", name := "toBytes", desc := "([CII)[B" } : Jvm.MethodName) prog_8_method_14_code (5 : Nat) (Option.some (Jvm.ClassFile.FieldType.array Jvm.ClassFile.FieldType.byte))) ∈ lw_all := lw_g (lw_at lw_m1 39 rfl) rfl
theorem q48 : (Jvm.Cond.methodLink "java/lang/StringUTF16" (107 : Nat) ({ cls := "java/lang/StringUTF16", name := "newBytesFor", desc := "(I)[B" } : Jvm.MethodName)) ∈ lw_all := lw_g (lw_at lw_m1 40 rfl) rfl
theorem q49 : (Jvm.Cond.static ({ cls := "java/lang/StringUTF16", name := "newBytesFor", desc := "(I)[B" } : Jvm.MethodName)) ∈ lw_all := lw_g (lw_at lw_m1 41 rfl) rfl
theorem q50 : (Jvm.Cond.code ({ cls := "java/lang/StringUTF16", name := "newBytesFor", desc := "(I)[B" } : Jvm.MethodName) prog_8_method_2_code (1 : Nat) (Option.some (Jvm.ClassFile.FieldType.array Jvm.ClassFile.FieldType.byte))) ∈ lw_all := lw_g (lw_at lw_m1 42 rfl) rfl
theorem q51 : (Jvm.Cond.methodLink "java/lang/StringUTF16" (11 : Nat) ({ cls := "java/lang/StringUTF16", name := "newBytesLength", desc := "(I)I" } : Jvm.MethodName)) ∈ lw_all := lw_g (lw_at lw_m1 43 rfl) rfl
theorem q52 : (Jvm.Cond.static ({ cls := "java/lang/StringUTF16", name := "newBytesLength", desc := "(I)I" } : Jvm.MethodName)) ∈ lw_all := lw_g (lw_at lw_m1 44 rfl) rfl
theorem q53 : (Jvm.Cond.code ({ cls := "java/lang/StringUTF16", name := "newBytesLength", desc := "(I)I" } : Jvm.MethodName) prog_8_method_3_code (1 : Nat) (Option.some Jvm.ClassFile.FieldType.int)) ∈ lw_all := lw_g (lw_at lw_m1 45 rfl) rfl
theorem q54 : (Jvm.Cond.constant "java/lang/StringUTF16" (20 : Nat) (1073741823 : Int32)) ∈ lw_all := lw_g (lw_at lw_m1 46 rfl) rfl
theorem q55 : (Jvm.Cond.methodLink "java/lang/StringUTF16" (111 : Nat) ({ cls := "java/lang/StringUTF16", name := "putChar", desc := "([BII)V" } : Jvm.MethodName)) ∈ lw_all := lw_g (lw_at lw_m1 47 rfl) rfl
theorem q56 : (Jvm.Cond.static ({ cls := "java/lang/StringUTF16", name := "putChar", desc := "([BII)V" } : Jvm.MethodName)) ∈ lw_all := lw_g (lw_at lw_m1 48 rfl) rfl
theorem q57 : (Jvm.Cond.code ({ cls := "java/lang/StringUTF16", name := "putChar", desc := "([BII)V" } : Jvm.MethodName) prog_8_method_4_code (3 : Nat) (Option.none : Option Jvm.ClassFile.FieldType)) ∈ lw_all := lw_g (lw_at lw_m1 49 rfl) rfl
theorem q58 : (Jvm.Cond.fieldLink "java/lang/StringUTF16" (44 : Nat) "java/lang/StringUTF16" "$assertionsDisabled" "Z") ∈ lw_all := lw_g (lw_at lw_m1 50 rfl) rfl
theorem q59 : (Jvm.Cond.laysStatic "java/lang/StringUTF16" "$assertionsDisabled" "Z") ∈ lw_tbl := lw_at lw_m1 51 rfl
theorem q60 : (Jvm.Cond.methodLink "java/lang/StringUTF16" (48 : Nat) ({ cls := "java/lang/StringUTF16", name := "length", desc := "([B)I" } : Jvm.MethodName)) ∈ lw_all := lw_g (lw_at lw_m1 52 rfl) rfl
theorem q61 : (Jvm.Cond.static ({ cls := "java/lang/StringUTF16", name := "length", desc := "([B)I" } : Jvm.MethodName)) ∈ lw_all := lw_g (lw_at lw_m1 53 rfl) rfl
theorem q62 : (Jvm.Cond.code ({ cls := "java/lang/StringUTF16", name := "length", desc := "([B)I" } : Jvm.MethodName) prog_8_method_6_code (1 : Nat) (Option.some Jvm.ClassFile.FieldType.int)) ∈ lw_all := lw_g (lw_at lw_m1 54 rfl) rfl
theorem q63 : (Jvm.Cond.fieldLink "java/lang/StringUTF16" (59 : Nat) "java/lang/StringUTF16" "HI_BYTE_SHIFT" "I") ∈ lw_all := lw_g (lw_at lw_m1 55 rfl) rfl
theorem q64 : (Jvm.Cond.laysStatic "java/lang/StringUTF16" "HI_BYTE_SHIFT" "I") ∈ lw_tbl := lw_at lw_m1 56 rfl
theorem q65 : (Jvm.Cond.fieldLink "java/lang/StringUTF16" (63 : Nat) "java/lang/StringUTF16" "LO_BYTE_SHIFT" "I") ∈ lw_all := lw_g (lw_at lw_m1 57 rfl) rfl
theorem q66 : (Jvm.Cond.laysStatic "java/lang/StringUTF16" "LO_BYTE_SHIFT" "I") ∈ lw_tbl := lw_at lw_m1 58 rfl
theorem q67 : (Jvm.Cond.methodLink "java/lang/StringUTF16" (71 : Nat) ({ cls := "java/lang/StringUTF16", name := "getChar", desc := "([BI)C" } : Jvm.MethodName)) ∈ lw_all := lw_g (lw_at lw_m1 59 rfl) rfl
theorem q68 : (Jvm.Cond.static ({ cls := "java/lang/StringUTF16", name := "getChar", desc := "([BI)C" } : Jvm.MethodName)) ∈ lw_all := lw_g (lw_at lw_m1 60 rfl) rfl
theorem q69 : (Jvm.Cond.code ({ cls := "java/lang/StringUTF16", name := "getChar", desc := "([BI)C" } : Jvm.MethodName) prog_8_method_5_code (2 : Nat) (Option.some Jvm.ClassFile.FieldType.char)) ∈ lw_all := lw_g (lw_at lw_m1 61 rfl) rfl
theorem q70 : (Jvm.Cond.methodLink "java/lang/StringUTF16" (123 : Nat) ({ cls := "java/lang/StringUTF16", name := "compress", desc := "([BI[BII)I" } : Jvm.MethodName)) ∈ lw_all := lw_g (lw_at lw_m1 62 rfl) rfl
theorem q71 : (Jvm.Cond.static ({ cls := "java/lang/StringUTF16", name := "compress", desc := "([BI[BII)I" } : Jvm.MethodName)) ∈ lw_all := lw_g (lw_at lw_m1 63 rfl) rfl
theorem q72 : (Jvm.Cond.code ({ cls := "java/lang/StringUTF16", name := "compress", desc := "([BI[BII)I" } : Jvm.MethodName) prog_8_method_22_code (7 : Nat) (Option.some Jvm.ClassFile.FieldType.int)) ∈ lw_all := lw_g (lw_at lw_m1 64 rfl) rfl
theorem q73 : (Jvm.Cond.methodLink "java/lang/StringUTF16" (173 : Nat) ({ cls := "java/lang/StringUTF16", name := "checkBoundsOffCount", desc := "(II[B)V" } : Jvm.MethodName)) ∈ lw_all := lw_g (lw_at lw_m1 65 rfl) rfl
theorem q74 : (Jvm.Cond.static ({ cls := "java/lang/StringUTF16", name := "checkBoundsOffCount", desc := "(II[B)V" } : Jvm.MethodName)) ∈ lw_all := lw_g (lw_at lw_m1 66 rfl) rfl
theorem q75 : (Jvm.Cond.code ({ cls := "java/lang/StringUTF16", name := "checkBoundsOffCount", desc := "(II[B)V" } : Jvm.MethodName) prog_8_method_94_code (3 : Nat) (Option.none : Option Jvm.ClassFile.FieldType)) ∈ lw_all := lw_g (lw_at lw_m1 67 rfl) rfl
theorem q76 : (Jvm.Cond.methodLink "java/lang/StringUTF16" (419 : Nat) ({ cls := "java/lang/String", name := "checkBoundsOffCount", desc := "(III)I" } : Jvm.MethodName)) ∈ lw_all := lw_g (lw_at lw_m1 68 rfl) rfl
theorem q85 : (Jvm.Cond.static ({ cls := "java/lang/StringUTF16", name := "coderFromArrayLen", desc := "([BI)B" } : Jvm.MethodName)) ∈ lw_all := lw_g (lw_at lw_m1 77 rfl) rfl
theorem q86 : (Jvm.Cond.code ({ cls := "java/lang/StringUTF16", name := "coderFromArrayLen", desc := "([BI)B" } : Jvm.MethodName) prog_8_method_15_code (2 : Nat) (Option.some Jvm.ClassFile.FieldType.byte)) ∈ lw_all := lw_g (lw_at lw_m1 78 rfl) rfl
theorem q176 : (Jvm.Cond.static ({ cls := "java/lang/StringUTF16", name := "charAt", desc := "([BI)C" } : Jvm.MethodName)) ∈ lw_all := lw_g (lw_at lw_m1 168 rfl) rfl
theorem q177 : (Jvm.Cond.code ({ cls := "java/lang/StringUTF16", name := "charAt", desc := "([BI)C" } : Jvm.MethodName) prog_8_method_83_code (2 : Nat) (Option.some Jvm.ClassFile.FieldType.char)) ∈ lw_all := lw_g (lw_at lw_m1 169 rfl) rfl
theorem q178 : (Jvm.Cond.methodLink "java/lang/StringUTF16" (67 : Nat) ({ cls := "java/lang/StringUTF16", name := "checkIndex", desc := "(I[B)V" } : Jvm.MethodName)) ∈ lw_all := lw_g (lw_at lw_m1 170 rfl) rfl
theorem q179 : (Jvm.Cond.static ({ cls := "java/lang/StringUTF16", name := "checkIndex", desc := "(I[B)V" } : Jvm.MethodName)) ∈ lw_all := lw_g (lw_at lw_m1 171 rfl) rfl
theorem q180 : (Jvm.Cond.code ({ cls := "java/lang/StringUTF16", name := "checkIndex", desc := "(I[B)V" } : Jvm.MethodName) prog_8_method_91_code (2 : Nat) (Option.none : Option Jvm.ClassFile.FieldType)) ∈ lw_all := lw_g (lw_at lw_m1 172 rfl) rfl
theorem q181 : (Jvm.Cond.methodLink "java/lang/StringUTF16" (414 : Nat) ({ cls := "java/lang/String", name := "checkIndex", desc := "(II)V" } : Jvm.MethodName)) ∈ lw_all := lw_g (lw_at lw_m1 173 rfl) rfl

/-! jdk/internal/util/Preconditions -/
set_option maxRecDepth 100000
def RJ2 : String := "jdk/internal/util/Preconditions"
abbrev cJ2_checkFromIndexSize : ByteArray := prog_10_method_13_code
def yJ2_checkFromIndexSize : MethodName := ⟨RJ2, "checkFromIndexSize", "(IIILjava/util/function/BiFunction;)I"⟩
abbrev cJ2_checkIndex : ByteArray := prog_10_method_11_code
def yJ2_checkIndex : MethodName := ⟨RJ2, "checkIndex", "(IILjava/util/function/BiFunction;)I"⟩
def dkwJ2_checkIndex_0 : List UInt8 := [26, 155, 0, 8, 26, 27, 161, 0, 10, 44, 26, 27, 184, 0, 95, 191, 26, 172]
abbrev dktJ2_checkIndex_0 : List UInt8 := dkwJ2_checkIndex_0 ++ []
theorem dksJ2_checkIndex_0 : cJ2_checkIndex.data.toList.drop 0 = dktJ2_checkIndex_0 := by decide +kernel
theorem dJ2_checkIndex_0 : decode cJ2_checkIndex 0 = .ok (.iload_n 0, 1) := dk_26 (dk_at dksJ2_checkIndex_0 0 rfl rfl)
theorem dJ2_checkIndex_1 : decode cJ2_checkIndex 1 = .ok (.ifCond .lt 8, 3) := dk_155 0 8 (dk_at dksJ2_checkIndex_0 1 rfl rfl)
theorem dJ2_checkIndex_4 : decode cJ2_checkIndex 4 = .ok (.iload_n 0, 1) := dk_26 (dk_at dksJ2_checkIndex_0 4 rfl rfl)
theorem dJ2_checkIndex_5 : decode cJ2_checkIndex 5 = .ok (.iload_n 1, 1) := dk_27 (dk_at dksJ2_checkIndex_0 5 rfl rfl)
theorem dJ2_checkIndex_6 : decode cJ2_checkIndex 6 = .ok (.if_icmp .lt 10, 3) := dk_161 0 10 (dk_at dksJ2_checkIndex_0 6 rfl rfl)
theorem dJ2_checkIndex_9 : decode cJ2_checkIndex 9 = .ok (.aload_n 2, 1) := dk_44 (dk_at dksJ2_checkIndex_0 9 rfl rfl)
theorem dJ2_checkIndex_10 : decode cJ2_checkIndex 10 = .ok (.iload_n 0, 1) := dk_26 (dk_at dksJ2_checkIndex_0 10 rfl rfl)
theorem dJ2_checkIndex_11 : decode cJ2_checkIndex 11 = .ok (.iload_n 1, 1) := dk_27 (dk_at dksJ2_checkIndex_0 11 rfl rfl)
theorem dJ2_checkIndex_12 : decode cJ2_checkIndex 12 = .ok (.invokestatic 95, 3) := dk_184 0 95 (dk_at dksJ2_checkIndex_0 12 rfl rfl)
theorem dJ2_checkIndex_15 : decode cJ2_checkIndex 15 = .ok (.athrow, 1) := dk_191 (dk_at dksJ2_checkIndex_0 15 rfl rfl)
theorem dJ2_checkIndex_16 : decode cJ2_checkIndex 16 = .ok (.iload_n 0, 1) := dk_26 (dk_at dksJ2_checkIndex_0 16 rfl rfl)
theorem dJ2_checkIndex_17 : decode cJ2_checkIndex 17 = .ok (.ireturn, 1) := dk_172 (dk_at dksJ2_checkIndex_0 17 rfl rfl)
theorem q13 : (Jvm.Cond.initialized "jdk/internal/util/Preconditions") ∈ lw_all := lw_g (lw_at lw_m1 5 rfl) rfl
theorem q80 : (Jvm.Cond.laysStatic "jdk/internal/util/Preconditions" "SIOOBE_FORMATTER" "Ljava/util/function/BiFunction;") ∈ lw_tbl := lw_at lw_m1 72 rfl
theorem q82 : (Jvm.Cond.static ({ cls := "jdk/internal/util/Preconditions", name := "checkFromIndexSize", desc := "(IIILjava/util/function/BiFunction;)I" } : Jvm.MethodName)) ∈ lw_all := lw_g (lw_at lw_m1 74 rfl) rfl
theorem q83 : (Jvm.Cond.code ({ cls := "jdk/internal/util/Preconditions", name := "checkFromIndexSize", desc := "(IIILjava/util/function/BiFunction;)I" } : Jvm.MethodName) prog_10_method_13_code (4 : Nat) (Option.some Jvm.ClassFile.FieldType.int)) ∈ lw_all := lw_g (lw_at lw_m1 75 rfl) rfl
theorem q173 : (Jvm.Cond.static ({ cls := "jdk/internal/util/Preconditions", name := "checkIndex", desc := "(IILjava/util/function/BiFunction;)I" } : Jvm.MethodName)) ∈ lw_all := lw_g (lw_at lw_m1 165 rfl) rfl
theorem q174 : (Jvm.Cond.code ({ cls := "jdk/internal/util/Preconditions", name := "checkIndex", desc := "(IILjava/util/function/BiFunction;)I" } : Jvm.MethodName) prog_10_method_11_code (3 : Nat) (Option.some Jvm.ClassFile.FieldType.int)) ∈ lw_all := lw_g (lw_at lw_m1 166 rfl) rfl

/-! java/util/Arrays -/
set_option maxRecDepth 100000
def RJ3 : String := "java/util/Arrays"
abbrev cJ3_fill : ByteArray := prog_9_method_109_code
def yJ3_fill : MethodName := ⟨RJ3, "fill", "([BB)V"⟩
def dkwJ3_fill_0 : List UInt8 := [3, 61, 42, 190, 62, 28, 29, 162, 0, 13, 42, 28, 27, 84, 132, 2, 1, 167, 255, 244, 177]
abbrev dktJ3_fill_0 : List UInt8 := dkwJ3_fill_0 ++ []
theorem dksJ3_fill_0 : cJ3_fill.data.toList.drop 0 = dktJ3_fill_0 := by decide +kernel
theorem dJ3_fill_0 : decode cJ3_fill 0 = .ok (.iconst 0, 1) := dk_3 (dk_at dksJ3_fill_0 0 rfl rfl)
theorem dJ3_fill_1 : decode cJ3_fill 1 = .ok (.istore_n 2, 1) := dk_61 (dk_at dksJ3_fill_0 1 rfl rfl)
theorem dJ3_fill_2 : decode cJ3_fill 2 = .ok (.aload_n 0, 1) := dk_42 (dk_at dksJ3_fill_0 2 rfl rfl)
theorem dJ3_fill_3 : decode cJ3_fill 3 = .ok (.arraylength, 1) := dk_190 (dk_at dksJ3_fill_0 3 rfl rfl)
theorem dJ3_fill_4 : decode cJ3_fill 4 = .ok (.istore_n 3, 1) := dk_62 (dk_at dksJ3_fill_0 4 rfl rfl)
theorem dJ3_fill_5 : decode cJ3_fill 5 = .ok (.iload_n 2, 1) := dk_28 (dk_at dksJ3_fill_0 5 rfl rfl)
theorem dJ3_fill_6 : decode cJ3_fill 6 = .ok (.iload_n 3, 1) := dk_29 (dk_at dksJ3_fill_0 6 rfl rfl)
theorem dJ3_fill_7 : decode cJ3_fill 7 = .ok (.if_icmp .ge 13, 3) := dk_162 0 13 (dk_at dksJ3_fill_0 7 rfl rfl)
theorem dJ3_fill_10 : decode cJ3_fill 10 = .ok (.aload_n 0, 1) := dk_42 (dk_at dksJ3_fill_0 10 rfl rfl)
theorem dJ3_fill_11 : decode cJ3_fill 11 = .ok (.iload_n 2, 1) := dk_28 (dk_at dksJ3_fill_0 11 rfl rfl)
theorem dJ3_fill_12 : decode cJ3_fill 12 = .ok (.iload_n 1, 1) := dk_27 (dk_at dksJ3_fill_0 12 rfl rfl)
theorem dJ3_fill_13 : decode cJ3_fill 13 = .ok (.bastore, 1) := dk_84 (dk_at dksJ3_fill_0 13 rfl rfl)
theorem dJ3_fill_14 : decode cJ3_fill 14 = .ok (.iinc 2 1, 3) := dk_132 2 1 (dk_at dksJ3_fill_0 14 rfl rfl)
theorem dJ3_fill_17 : decode cJ3_fill 17 = .ok (.goto (-12), 3) := dk_167 255 244 (dk_at dksJ3_fill_0 17 rfl rfl)
theorem dJ3_fill_20 : decode cJ3_fill 20 = .ok (.return_, 1) := dk_177 (dk_at dksJ3_fill_0 20 rfl rfl)
theorem q14 : (Jvm.Cond.initialized "java/util/Arrays") ∈ lw_all := lw_g (lw_at lw_m1 6 rfl) rfl
theorem q106 : (Jvm.Cond.static ({ cls := "java/util/Arrays", name := "fill", desc := "([BB)V" } : Jvm.MethodName)) ∈ lw_all := lw_g (lw_at lw_m1 98 rfl) rfl
theorem q107 : (Jvm.Cond.code ({ cls := "java/util/Arrays", name := "fill", desc := "([BB)V" } : Jvm.MethodName) prog_9_method_109_code (4 : Nat) (Option.none : Option Jvm.ClassFile.FieldType)) ∈ lw_all := lw_g (lw_at lw_m1 99 rfl) rfl

/-! java/lang/StringLatin1 -/
set_option maxRecDepth 100000
def RJ4 : String := "java/lang/StringLatin1"
abbrev cJ4_charAt : ByteArray := prog_7_method_2_code
def yJ4_charAt : MethodName := ⟨RJ4, "charAt", "([BI)C"⟩
def dkwJ4_charAt_0 : List UInt8 := [27, 42, 190, 184, 0, 9, 42, 27, 51, 17, 0, 255, 126, 146, 172]
abbrev dktJ4_charAt_0 : List UInt8 := dkwJ4_charAt_0 ++ []
theorem dksJ4_charAt_0 : cJ4_charAt.data.toList.drop 0 = dktJ4_charAt_0 := by decide +kernel
theorem dJ4_charAt_0 : decode cJ4_charAt 0 = .ok (.iload_n 1, 1) := dk_27 (dk_at dksJ4_charAt_0 0 rfl rfl)
theorem dJ4_charAt_1 : decode cJ4_charAt 1 = .ok (.aload_n 0, 1) := dk_42 (dk_at dksJ4_charAt_0 1 rfl rfl)
theorem dJ4_charAt_2 : decode cJ4_charAt 2 = .ok (.arraylength, 1) := dk_190 (dk_at dksJ4_charAt_0 2 rfl rfl)
theorem dJ4_charAt_3 : decode cJ4_charAt 3 = .ok (.invokestatic 9, 3) := dk_184 0 9 (dk_at dksJ4_charAt_0 3 rfl rfl)
theorem dJ4_charAt_6 : decode cJ4_charAt 6 = .ok (.aload_n 0, 1) := dk_42 (dk_at dksJ4_charAt_0 6 rfl rfl)
theorem dJ4_charAt_7 : decode cJ4_charAt 7 = .ok (.iload_n 1, 1) := dk_27 (dk_at dksJ4_charAt_0 7 rfl rfl)
theorem dJ4_charAt_8 : decode cJ4_charAt 8 = .ok (.baload, 1) := dk_51 (dk_at dksJ4_charAt_0 8 rfl rfl)
theorem dJ4_charAt_9 : decode cJ4_charAt 9 = .ok (.sipush 255, 3) := dk_17 0 255 (dk_at dksJ4_charAt_0 9 rfl rfl)
theorem dJ4_charAt_12 : decode cJ4_charAt 12 = .ok (.iand, 1) := dk_126 (dk_at dksJ4_charAt_0 12 rfl rfl)
theorem dJ4_charAt_13 : decode cJ4_charAt 13 = .ok (.i2c, 1) := dk_146 (dk_at dksJ4_charAt_0 13 rfl rfl)
theorem dJ4_charAt_14 : decode cJ4_charAt 14 = .ok (.ireturn, 1) := dk_172 (dk_at dksJ4_charAt_0 14 rfl rfl)
theorem q16 : (Jvm.Cond.initialized "java/lang/StringLatin1") ∈ lw_all := lw_g (lw_at lw_m1 8 rfl) rfl
theorem q167 : (Jvm.Cond.static ({ cls := "java/lang/StringLatin1", name := "charAt", desc := "([BI)C" } : Jvm.MethodName)) ∈ lw_all := lw_g (lw_at lw_m1 159 rfl) rfl
theorem q168 : (Jvm.Cond.code ({ cls := "java/lang/StringLatin1", name := "charAt", desc := "([BI)C" } : Jvm.MethodName) prog_7_method_2_code (2 : Nat) (Option.some Jvm.ClassFile.FieldType.char)) ∈ lw_all := lw_g (lw_at lw_m1 160 rfl) rfl
theorem q169 : (Jvm.Cond.methodLink "java/lang/StringLatin1" (9 : Nat) ({ cls := "java/lang/String", name := "checkIndex", desc := "(II)V" } : Jvm.MethodName)) ∈ lw_all := lw_g (lw_at lw_m1 161 rfl) rfl

theorem q154 : (Jvm.Cond.interfaceMethod "java/lang/CharSequence" "java/lang/CharSequence" "charAt" "(I)C") ∈ lw_tbl := lw_at lw_m1 146 rfl
set_option maxRecDepth 100000
theorem q155 : (Jvm.Cond.declares ({ cls := "java/lang/CharSequence", name := "charAt", desc := "(I)C" } : Jvm.MethodName)) ∈ lw_tbl := lw_at lw_m1 147 rfl

theorem q99 : (Jvm.Cond.arrayClass Jvm.ClassFile.FieldType.char) ∈ lw_all := lw_g (lw_at lw_m1 91 rfl) rfl
set_option maxRecDepth 100000
theorem q100 : (Jvm.Cond.arrayClass Jvm.ClassFile.FieldType.byte) ∈ lw_all := lw_g (lw_at lw_m1 92 rfl) rfl
theorem q232 : (Jvm.Cond.arrayClass Jvm.ClassFile.FieldType.int) ∈ lw_all := lw_g (lw_at lw_m1 224 rfl) rfl
theorem q271 : (Jvm.Cond.arrayOver (Jvm.ClassFile.FieldType.object "PlacementDeskLaw$Square")) ∈ lw_tbl := lw_at lw_m2 23 rfl

/-! PlacementDesk -/
set_option maxRecDepth 100000
def RX1 : String := "PlacementDesk"
def TX1 : u_T := fun k => match k with
  | 0 => ("PlacementDesk", "word", "[C", true)
  | 1 => ("PlacementDesk", "sheet", "LDefaultPlacement;", false)
  | _ => ("PlacementDesk", "side", "I", false)
def tyX1 : Nat → FieldType := fun k => match k with
  | 0 => .array .char
  | 1 => .object "DefaultPlacement"
  | _ => .int
abbrev wsX10 : List Cond := u_ws RX1 TX1 3
theorem nmX1 : ∀ a, a < 3 → ∀ b, b < 3 → a ≠ b → (TX1 a).2.1 ≠ (TX1 b).2.1 := by decide +kernel
theorem tyX1_ok : ∀ k, k < 3 → parseFieldDescriptor (TX1 k).2.2.1 = some (tyX1 k) := by decide +kernel
abbrev cX1_init : ByteArray := prog_2_method_1_code
def yX1_init : MethodName := ⟨RX1, "<init>", "()V"⟩
def dkwX1_init_1 : List UInt8 := [188, 5, 183, 0, 17, 16, 8, 16, 8, 183, 0, 20, 181, 0, 23, 42, 16, 8, 181, 0, 27, 177]
abbrev dktX1_init_1 : List UInt8 := dkwX1_init_1 ++ []
def dkwX1_init_0 : List UInt8 := [42, 183, 0, 1, 42, 16, 72, 188, 5, 181, 0, 7, 42, 187, 0, 13, 89, 187, 0, 15, 89, 16, 72]
abbrev dktX1_init_0 : List UInt8 := dkwX1_init_0 ++ dktX1_init_1
theorem dksX1_init_0 : cX1_init.data.toList.drop 0 = dktX1_init_0 := by decide +kernel
theorem dksX1_init_1 : cX1_init.data.toList.drop 23 = dktX1_init_1 := dk_seg dksX1_init_0 23 rfl rfl
theorem dX1_init_0 : decode cX1_init 0 = .ok (.aload_n 0, 1) := dk_42 (dk_at dksX1_init_0 0 rfl rfl)
theorem dX1_init_1 : decode cX1_init 1 = .ok (.invokespecial 1, 3) := dk_183 0 1 (dk_at dksX1_init_0 1 rfl rfl)
theorem dX1_init_4 : decode cX1_init 4 = .ok (.aload_n 0, 1) := dk_42 (dk_at dksX1_init_0 4 rfl rfl)
theorem dX1_init_5 : decode cX1_init 5 = .ok (.bipush 72, 2) := dk_16 72 (dk_at dksX1_init_0 5 rfl rfl)
theorem dX1_init_7 : decode cX1_init 7 = .ok (.newarray .char, 2) := dk_188_5 (dk_at dksX1_init_0 7 rfl rfl)
theorem dX1_init_9 : decode cX1_init 9 = .ok (.putfield 7, 3) := dk_181 0 7 (dk_at dksX1_init_0 9 rfl rfl)
theorem dX1_init_12 : decode cX1_init 12 = .ok (.aload_n 0, 1) := dk_42 (dk_at dksX1_init_0 12 rfl rfl)
theorem dX1_init_13 : decode cX1_init 13 = .ok (.new 13, 3) := dk_187 0 13 (dk_at dksX1_init_0 13 rfl rfl)
theorem dX1_init_16 : decode cX1_init 16 = .ok (.dup, 1) := dk_89 (dk_at dksX1_init_0 16 rfl rfl)
theorem dX1_init_17 : decode cX1_init 17 = .ok (.new 15, 3) := dk_187 0 15 (dk_at dksX1_init_0 17 rfl rfl)
theorem dX1_init_20 : decode cX1_init 20 = .ok (.dup, 1) := dk_89 (dk_at dksX1_init_0 20 rfl rfl)
theorem dX1_init_21 : decode cX1_init 21 = .ok (.bipush 72, 2) := dk_16 72 (dk_at dksX1_init_0 21 rfl rfl)
theorem dX1_init_23 : decode cX1_init 23 = .ok (.newarray .char, 2) := dk_188_5 (dk_at dksX1_init_1 0 rfl rfl)
theorem dX1_init_25 : decode cX1_init 25 = .ok (.invokespecial 17, 3) := dk_183 0 17 (dk_at dksX1_init_1 2 rfl rfl)
theorem dX1_init_28 : decode cX1_init 28 = .ok (.bipush 8, 2) := dk_16 8 (dk_at dksX1_init_1 5 rfl rfl)
theorem dX1_init_30 : decode cX1_init 30 = .ok (.bipush 8, 2) := dk_16 8 (dk_at dksX1_init_1 7 rfl rfl)
theorem dX1_init_32 : decode cX1_init 32 = .ok (.invokespecial 20, 3) := dk_183 0 20 (dk_at dksX1_init_1 9 rfl rfl)
theorem dX1_init_35 : decode cX1_init 35 = .ok (.putfield 23, 3) := dk_181 0 23 (dk_at dksX1_init_1 12 rfl rfl)
theorem dX1_init_38 : decode cX1_init 38 = .ok (.aload_n 0, 1) := dk_42 (dk_at dksX1_init_1 15 rfl rfl)
theorem dX1_init_39 : decode cX1_init 39 = .ok (.bipush 8, 2) := dk_16 8 (dk_at dksX1_init_1 16 rfl rfl)
theorem dX1_init_41 : decode cX1_init 41 = .ok (.putfield 27, 3) := dk_181 0 27 (dk_at dksX1_init_1 18 rfl rfl)
theorem dX1_init_44 : decode cX1_init 44 = .ok (.return_, 1) := dk_177 (dk_at dksX1_init_1 21 rfl rfl)
abbrev cX1_put : ByteArray := prog_2_method_2_code
def yX1_put : MethodName := ⟨RX1, "put", "(II)V"⟩
def dkwX1_put_0 : List UInt8 := [42, 180, 0, 7, 27, 18, 31, 126, 16, 72, 112, 28, 17, 0, 255, 126, 146, 85, 177]
abbrev dktX1_put_0 : List UInt8 := dkwX1_put_0 ++ []
theorem dksX1_put_0 : cX1_put.data.toList.drop 0 = dktX1_put_0 := by decide +kernel
theorem dX1_put_0 : decode cX1_put 0 = .ok (.aload_n 0, 1) := dk_42 (dk_at dksX1_put_0 0 rfl rfl)
theorem dX1_put_1 : decode cX1_put 1 = .ok (.getfield 7, 3) := dk_180 0 7 (dk_at dksX1_put_0 1 rfl rfl)
theorem dX1_put_4 : decode cX1_put 4 = .ok (.iload_n 1, 1) := dk_27 (dk_at dksX1_put_0 4 rfl rfl)
theorem dX1_put_5 : decode cX1_put 5 = .ok (.ldc 31, 2) := dk_18 31 (dk_at dksX1_put_0 5 rfl rfl)
theorem dX1_put_7 : decode cX1_put 7 = .ok (.iand, 1) := dk_126 (dk_at dksX1_put_0 7 rfl rfl)
theorem dX1_put_8 : decode cX1_put 8 = .ok (.bipush 72, 2) := dk_16 72 (dk_at dksX1_put_0 8 rfl rfl)
theorem dX1_put_10 : decode cX1_put 10 = .ok (.irem, 1) := dk_112 (dk_at dksX1_put_0 10 rfl rfl)
theorem dX1_put_11 : decode cX1_put 11 = .ok (.iload_n 2, 1) := dk_28 (dk_at dksX1_put_0 11 rfl rfl)
theorem dX1_put_12 : decode cX1_put 12 = .ok (.sipush 255, 3) := dk_17 0 255 (dk_at dksX1_put_0 12 rfl rfl)
theorem dX1_put_15 : decode cX1_put 15 = .ok (.iand, 1) := dk_126 (dk_at dksX1_put_0 15 rfl rfl)
theorem dX1_put_16 : decode cX1_put 16 = .ok (.i2c, 1) := dk_146 (dk_at dksX1_put_0 16 rfl rfl)
theorem dX1_put_17 : decode cX1_put 17 = .ok (.castore, 1) := dk_85 (dk_at dksX1_put_0 17 rfl rfl)
theorem dX1_put_18 : decode cX1_put 18 = .ok (.return_, 1) := dk_177 (dk_at dksX1_put_0 18 rfl rfl)
abbrev cX1_place : ByteArray := prog_2_method_3_code
def yX1_place : MethodName := ⟨RX1, "place", "(I)V"⟩
def dkwX1_place_3 : List UInt8 := [180, 0, 23, 182, 0, 32, 177]
abbrev dktX1_place_3 : List UInt8 := dkwX1_place_3 ++ []
def dkwX1_place_2 : List UInt8 := [42, 180, 0, 7, 183, 0, 17, 42, 180, 0, 27, 42, 180, 0, 27, 183, 0, 20, 181, 0, 23, 42]
abbrev dktX1_place_2 : List UInt8 := dkwX1_place_2 ++ dktX1_place_3
def dkwX1_place_1 : List UInt8 := [28, 5, 160, 0, 8, 16, 12, 167, 0, 5, 16, 14, 181, 0, 27, 42, 187, 0, 13, 89, 187, 0, 15, 89]
abbrev dktX1_place_1 : List UInt8 := dkwX1_place_1 ++ dktX1_place_2
def dkwX1_place_0 : List UInt8 := [27, 6, 126, 61, 42, 28, 154, 0, 8, 16, 8, 167, 0, 25, 28, 4, 160, 0, 8, 16, 10, 167, 0, 15]
abbrev dktX1_place_0 : List UInt8 := dkwX1_place_0 ++ dktX1_place_1
theorem dksX1_place_0 : cX1_place.data.toList.drop 0 = dktX1_place_0 := by decide +kernel
theorem dksX1_place_1 : cX1_place.data.toList.drop 24 = dktX1_place_1 := dk_seg dksX1_place_0 24 rfl rfl
theorem dksX1_place_2 : cX1_place.data.toList.drop 48 = dktX1_place_2 := dk_seg dksX1_place_1 24 rfl rfl
theorem dksX1_place_3 : cX1_place.data.toList.drop 70 = dktX1_place_3 := dk_seg dksX1_place_2 22 rfl rfl
theorem dX1_place_0 : decode cX1_place 0 = .ok (.iload_n 1, 1) := dk_27 (dk_at dksX1_place_0 0 rfl rfl)
theorem dX1_place_1 : decode cX1_place 1 = .ok (.iconst 3, 1) := dk_6 (dk_at dksX1_place_0 1 rfl rfl)
theorem dX1_place_2 : decode cX1_place 2 = .ok (.iand, 1) := dk_126 (dk_at dksX1_place_0 2 rfl rfl)
theorem dX1_place_3 : decode cX1_place 3 = .ok (.istore_n 2, 1) := dk_61 (dk_at dksX1_place_0 3 rfl rfl)
theorem dX1_place_4 : decode cX1_place 4 = .ok (.aload_n 0, 1) := dk_42 (dk_at dksX1_place_0 4 rfl rfl)
theorem dX1_place_5 : decode cX1_place 5 = .ok (.iload_n 2, 1) := dk_28 (dk_at dksX1_place_0 5 rfl rfl)
theorem dX1_place_6 : decode cX1_place 6 = .ok (.ifCond .ne 8, 3) := dk_154 0 8 (dk_at dksX1_place_0 6 rfl rfl)
theorem dX1_place_9 : decode cX1_place 9 = .ok (.bipush 8, 2) := dk_16 8 (dk_at dksX1_place_0 9 rfl rfl)
theorem dX1_place_11 : decode cX1_place 11 = .ok (.goto 25, 3) := dk_167 0 25 (dk_at dksX1_place_0 11 rfl rfl)
theorem dX1_place_14 : decode cX1_place 14 = .ok (.iload_n 2, 1) := dk_28 (dk_at dksX1_place_0 14 rfl rfl)
theorem dX1_place_15 : decode cX1_place 15 = .ok (.iconst 1, 1) := dk_4 (dk_at dksX1_place_0 15 rfl rfl)
theorem dX1_place_16 : decode cX1_place 16 = .ok (.if_icmp .ne 8, 3) := dk_160 0 8 (dk_at dksX1_place_0 16 rfl rfl)
theorem dX1_place_19 : decode cX1_place 19 = .ok (.bipush 10, 2) := dk_16 10 (dk_at dksX1_place_0 19 rfl rfl)
theorem dX1_place_21 : decode cX1_place 21 = .ok (.goto 15, 3) := dk_167 0 15 (dk_at dksX1_place_0 21 rfl rfl)
theorem dX1_place_24 : decode cX1_place 24 = .ok (.iload_n 2, 1) := dk_28 (dk_at dksX1_place_1 0 rfl rfl)
theorem dX1_place_25 : decode cX1_place 25 = .ok (.iconst 2, 1) := dk_5 (dk_at dksX1_place_1 1 rfl rfl)
theorem dX1_place_26 : decode cX1_place 26 = .ok (.if_icmp .ne 8, 3) := dk_160 0 8 (dk_at dksX1_place_1 2 rfl rfl)
theorem dX1_place_29 : decode cX1_place 29 = .ok (.bipush 12, 2) := dk_16 12 (dk_at dksX1_place_1 5 rfl rfl)
theorem dX1_place_31 : decode cX1_place 31 = .ok (.goto 5, 3) := dk_167 0 5 (dk_at dksX1_place_1 7 rfl rfl)
theorem dX1_place_34 : decode cX1_place 34 = .ok (.bipush 14, 2) := dk_16 14 (dk_at dksX1_place_1 10 rfl rfl)
theorem dX1_place_36 : decode cX1_place 36 = .ok (.putfield 27, 3) := dk_181 0 27 (dk_at dksX1_place_1 12 rfl rfl)
theorem dX1_place_39 : decode cX1_place 39 = .ok (.aload_n 0, 1) := dk_42 (dk_at dksX1_place_1 15 rfl rfl)
theorem dX1_place_40 : decode cX1_place 40 = .ok (.new 13, 3) := dk_187 0 13 (dk_at dksX1_place_1 16 rfl rfl)
theorem dX1_place_43 : decode cX1_place 43 = .ok (.dup, 1) := dk_89 (dk_at dksX1_place_1 19 rfl rfl)
theorem dX1_place_44 : decode cX1_place 44 = .ok (.new 15, 3) := dk_187 0 15 (dk_at dksX1_place_1 20 rfl rfl)
theorem dX1_place_47 : decode cX1_place 47 = .ok (.dup, 1) := dk_89 (dk_at dksX1_place_1 23 rfl rfl)
theorem dX1_place_48 : decode cX1_place 48 = .ok (.aload_n 0, 1) := dk_42 (dk_at dksX1_place_2 0 rfl rfl)
theorem dX1_place_49 : decode cX1_place 49 = .ok (.getfield 7, 3) := dk_180 0 7 (dk_at dksX1_place_2 1 rfl rfl)
theorem dX1_place_52 : decode cX1_place 52 = .ok (.invokespecial 17, 3) := dk_183 0 17 (dk_at dksX1_place_2 4 rfl rfl)
theorem dX1_place_55 : decode cX1_place 55 = .ok (.aload_n 0, 1) := dk_42 (dk_at dksX1_place_2 7 rfl rfl)
theorem dX1_place_56 : decode cX1_place 56 = .ok (.getfield 27, 3) := dk_180 0 27 (dk_at dksX1_place_2 8 rfl rfl)
theorem dX1_place_59 : decode cX1_place 59 = .ok (.aload_n 0, 1) := dk_42 (dk_at dksX1_place_2 11 rfl rfl)
theorem dX1_place_60 : decode cX1_place 60 = .ok (.getfield 27, 3) := dk_180 0 27 (dk_at dksX1_place_2 12 rfl rfl)
theorem dX1_place_63 : decode cX1_place 63 = .ok (.invokespecial 20, 3) := dk_183 0 20 (dk_at dksX1_place_2 15 rfl rfl)
theorem dX1_place_66 : decode cX1_place 66 = .ok (.putfield 23, 3) := dk_181 0 23 (dk_at dksX1_place_2 18 rfl rfl)
theorem dX1_place_69 : decode cX1_place 69 = .ok (.aload_n 0, 1) := dk_42 (dk_at dksX1_place_2 21 rfl rfl)
theorem dX1_place_70 : decode cX1_place 70 = .ok (.getfield 23, 3) := dk_180 0 23 (dk_at dksX1_place_3 0 rfl rfl)
theorem dX1_place_73 : decode cX1_place 73 = .ok (.invokevirtual 32, 3) := dk_182 0 32 (dk_at dksX1_place_3 3 rfl rfl)
theorem dX1_place_76 : decode cX1_place 76 = .ok (.return_, 1) := dk_177 (dk_at dksX1_place_3 6 rfl rfl)
abbrev cX1_bit : ByteArray := prog_2_method_4_code
def yX1_bit : MethodName := ⟨RX1, "bit", "(II)Z"⟩
def dkwX1_bit_1 : List UInt8 := [182, 0, 35, 172]
abbrev dktX1_bit_1 : List UInt8 := dkwX1_bit_1 ++ []
def dkwX1_bit_0 : List UInt8 := [42, 180, 0, 23, 27, 18, 31, 126, 42, 180, 0, 27, 112, 28, 18, 31, 126, 42, 180, 0, 27, 112]
abbrev dktX1_bit_0 : List UInt8 := dkwX1_bit_0 ++ dktX1_bit_1
theorem dksX1_bit_0 : cX1_bit.data.toList.drop 0 = dktX1_bit_0 := by decide +kernel
theorem dksX1_bit_1 : cX1_bit.data.toList.drop 22 = dktX1_bit_1 := dk_seg dksX1_bit_0 22 rfl rfl
theorem dX1_bit_0 : decode cX1_bit 0 = .ok (.aload_n 0, 1) := dk_42 (dk_at dksX1_bit_0 0 rfl rfl)
theorem dX1_bit_1 : decode cX1_bit 1 = .ok (.getfield 23, 3) := dk_180 0 23 (dk_at dksX1_bit_0 1 rfl rfl)
theorem dX1_bit_4 : decode cX1_bit 4 = .ok (.iload_n 1, 1) := dk_27 (dk_at dksX1_bit_0 4 rfl rfl)
theorem dX1_bit_5 : decode cX1_bit 5 = .ok (.ldc 31, 2) := dk_18 31 (dk_at dksX1_bit_0 5 rfl rfl)
theorem dX1_bit_7 : decode cX1_bit 7 = .ok (.iand, 1) := dk_126 (dk_at dksX1_bit_0 7 rfl rfl)
theorem dX1_bit_8 : decode cX1_bit 8 = .ok (.aload_n 0, 1) := dk_42 (dk_at dksX1_bit_0 8 rfl rfl)
theorem dX1_bit_9 : decode cX1_bit 9 = .ok (.getfield 27, 3) := dk_180 0 27 (dk_at dksX1_bit_0 9 rfl rfl)
theorem dX1_bit_12 : decode cX1_bit 12 = .ok (.irem, 1) := dk_112 (dk_at dksX1_bit_0 12 rfl rfl)
theorem dX1_bit_13 : decode cX1_bit 13 = .ok (.iload_n 2, 1) := dk_28 (dk_at dksX1_bit_0 13 rfl rfl)
theorem dX1_bit_14 : decode cX1_bit 14 = .ok (.ldc 31, 2) := dk_18 31 (dk_at dksX1_bit_0 14 rfl rfl)
theorem dX1_bit_16 : decode cX1_bit 16 = .ok (.iand, 1) := dk_126 (dk_at dksX1_bit_0 16 rfl rfl)
theorem dX1_bit_17 : decode cX1_bit 17 = .ok (.aload_n 0, 1) := dk_42 (dk_at dksX1_bit_0 17 rfl rfl)
theorem dX1_bit_18 : decode cX1_bit 18 = .ok (.getfield 27, 3) := dk_180 0 27 (dk_at dksX1_bit_0 18 rfl rfl)
theorem dX1_bit_21 : decode cX1_bit 21 = .ok (.irem, 1) := dk_112 (dk_at dksX1_bit_0 21 rfl rfl)
theorem dX1_bit_22 : decode cX1_bit 22 = .ok (.invokevirtual 35, 3) := dk_182 0 35 (dk_at dksX1_bit_1 0 rfl rfl)
theorem dX1_bit_25 : decode cX1_bit 25 = .ok (.ireturn, 1) := dk_172 (dk_at dksX1_bit_1 3 rfl rfl)
abbrev cX1_side : ByteArray := prog_2_method_5_code
def yX1_side : MethodName := ⟨RX1, "side", "()I"⟩
theorem dX1_side_0 : decode cX1_side 0 = .ok (.aload_n 0, 1) := by decide +kernel
theorem dX1_side_1 : decode cX1_side 1 = .ok (.getfield 27, 3) := by decide +kernel
theorem dX1_side_4 : decode cX1_side 4 = .ok (.ireturn, 1) := by decide +kernel
theorem q9 : (Jvm.Cond.initialized "PlacementDesk") ∈ lw_all := lw_g (lw_at lw_m1 1 rfl) rfl
theorem q18 : (Jvm.Cond.instantiable "PlacementDesk" (3 : Nat)) ∈ lw_all := lw_g (lw_at lw_m1 10 rfl) rfl
theorem q20 : (Jvm.Cond.instanceMethod ({ cls := "PlacementDesk", name := "<init>", desc := "()V" } : Jvm.MethodName)) ∈ lw_all := lw_g (lw_at lw_m1 12 rfl) rfl
theorem q21 : (Jvm.Cond.code ({ cls := "PlacementDesk", name := "<init>", desc := "()V" } : Jvm.MethodName) prog_2_method_1_code (1 : Nat) (Option.none : Option Jvm.ClassFile.FieldType)) ∈ lw_all := lw_g (lw_at lw_m1 13 rfl) rfl
theorem q22 : (Jvm.Cond.methodLink "PlacementDesk" (1 : Nat) ({ cls := "java/lang/Object", name := "<init>", desc := "()V" } : Jvm.MethodName)) ∈ lw_all := lw_g (lw_at lw_m1 14 rfl) rfl
theorem q25 : (Jvm.Cond.classLink "PlacementDesk" (13 : Nat) "DefaultPlacement") ∈ lw_all := lw_g (lw_at lw_m1 17 rfl) rfl
theorem q27 : (Jvm.Cond.classLink "PlacementDesk" (15 : Nat) "java/lang/String") ∈ lw_all := lw_g (lw_at lw_m1 19 rfl) rfl
theorem q29 : (Jvm.Cond.methodLink "PlacementDesk" (17 : Nat) ({ cls := "java/lang/String", name := "<init>", desc := "([C)V" } : Jvm.MethodName)) ∈ lw_all := lw_g (lw_at lw_m1 21 rfl) rfl
theorem q101 : (Jvm.Cond.methodLink "PlacementDesk" (20 : Nat) ({ cls := "DefaultPlacement", name := "<init>", desc := "(Ljava/lang/CharSequence;II)V" } : Jvm.MethodName)) ∈ lw_all := lw_g (lw_at lw_m1 93 rfl) rfl
theorem q121 : (Jvm.Cond.fieldLink "PlacementDesk" (7 : Nat) "PlacementDesk" "word" "[C") ∈ lw_all := lw_g (lw_at lw_m1 113 rfl) rfl
theorem q122 : (Jvm.Cond.fieldLink "PlacementDesk" (23 : Nat) "PlacementDesk" "sheet" "LDefaultPlacement;") ∈ lw_all := lw_g (lw_at lw_m1 114 rfl) rfl
theorem q123 : (Jvm.Cond.fieldLink "PlacementDesk" (27 : Nat) "PlacementDesk" "side" "I") ∈ lw_all := lw_g (lw_at lw_m1 115 rfl) rfl
theorem q124 : (Jvm.Cond.laysFinal "PlacementDesk" "PlacementDesk" "word" "[C") ∈ lw_all := lw_g (lw_at lw_m1 116 rfl) rfl
theorem q125 : (Jvm.Cond.soleField "PlacementDesk" "word") ∈ lw_all := lw_g (lw_at lw_m1 117 rfl) rfl
theorem q126 : (Jvm.Cond.lays "PlacementDesk" "PlacementDesk" "sheet" "LDefaultPlacement;") ∈ lw_all := lw_g (lw_at lw_m1 118 rfl) rfl
theorem q127 : (Jvm.Cond.soleField "PlacementDesk" "sheet") ∈ lw_all := lw_g (lw_at lw_m1 119 rfl) rfl
theorem q128 : (Jvm.Cond.lays "PlacementDesk" "PlacementDesk" "side" "I") ∈ lw_all := lw_g (lw_at lw_m1 120 rfl) rfl
theorem q129 : (Jvm.Cond.soleField "PlacementDesk" "side") ∈ lw_all := lw_g (lw_at lw_m1 121 rfl) rfl
theorem q130 : (Jvm.Cond.superclass "PlacementDesk" "java/lang/Object") ∈ lw_all := lw_g (lw_at lw_m1 122 rfl) rfl
theorem q132 : (Jvm.Cond.instanceMethod ({ cls := "PlacementDesk", name := "put", desc := "(II)V" } : Jvm.MethodName)) ∈ lw_all := lw_g (lw_at lw_m1 124 rfl) rfl
theorem q133 : (Jvm.Cond.selects "PlacementDesk" ({ cls := "PlacementDesk", name := "put", desc := "(II)V" } : Jvm.MethodName) ({ cls := "PlacementDesk", name := "put", desc := "(II)V" } : Jvm.MethodName)) ∈ lw_all := lw_g (lw_at lw_m1 125 rfl) rfl
theorem q134 : (Jvm.Cond.code ({ cls := "PlacementDesk", name := "put", desc := "(II)V" } : Jvm.MethodName) prog_2_method_2_code (3 : Nat) (Option.none : Option Jvm.ClassFile.FieldType)) ∈ lw_all := lw_g (lw_at lw_m1 126 rfl) rfl
theorem q135 : (Jvm.Cond.constant "PlacementDesk" (31 : Nat) (2147483647 : Int32)) ∈ lw_all := lw_g (lw_at lw_m1 127 rfl) rfl
theorem q137 : (Jvm.Cond.instanceMethod ({ cls := "PlacementDesk", name := "place", desc := "(I)V" } : Jvm.MethodName)) ∈ lw_all := lw_g (lw_at lw_m1 129 rfl) rfl
theorem q138 : (Jvm.Cond.selects "PlacementDesk" ({ cls := "PlacementDesk", name := "place", desc := "(I)V" } : Jvm.MethodName) ({ cls := "PlacementDesk", name := "place", desc := "(I)V" } : Jvm.MethodName)) ∈ lw_all := lw_g (lw_at lw_m1 130 rfl) rfl
theorem q139 : (Jvm.Cond.code ({ cls := "PlacementDesk", name := "place", desc := "(I)V" } : Jvm.MethodName) prog_2_method_3_code (3 : Nat) (Option.none : Option Jvm.ClassFile.FieldType)) ∈ lw_all := lw_g (lw_at lw_m1 131 rfl) rfl
theorem q140 : (Jvm.Cond.methodLink "PlacementDesk" (32 : Nat) ({ cls := "DefaultPlacement", name := "place", desc := "()V" } : Jvm.MethodName)) ∈ lw_all := lw_g (lw_at lw_m1 132 rfl) rfl
theorem q207 : (Jvm.Cond.instanceMethod ({ cls := "PlacementDesk", name := "bit", desc := "(II)Z" } : Jvm.MethodName)) ∈ lw_all := lw_g (lw_at lw_m1 199 rfl) rfl
theorem q208 : (Jvm.Cond.selects "PlacementDesk" ({ cls := "PlacementDesk", name := "bit", desc := "(II)Z" } : Jvm.MethodName) ({ cls := "PlacementDesk", name := "bit", desc := "(II)Z" } : Jvm.MethodName)) ∈ lw_all := lw_g (lw_at lw_m1 200 rfl) rfl
theorem q209 : (Jvm.Cond.code ({ cls := "PlacementDesk", name := "bit", desc := "(II)Z" } : Jvm.MethodName) prog_2_method_4_code (3 : Nat) (Option.some Jvm.ClassFile.FieldType.boolean)) ∈ lw_all := lw_g (lw_at lw_m1 201 rfl) rfl
theorem q210 : (Jvm.Cond.methodLink "PlacementDesk" (35 : Nat) ({ cls := "DefaultPlacement", name := "getBit", desc := "(II)Z" } : Jvm.MethodName)) ∈ lw_all := lw_g (lw_at lw_m1 202 rfl) rfl
theorem q215 : (Jvm.Cond.instanceMethod ({ cls := "PlacementDesk", name := "side", desc := "()I" } : Jvm.MethodName)) ∈ lw_all := lw_g (lw_at lw_m1 207 rfl) rfl
theorem q216 : (Jvm.Cond.selects "PlacementDesk" ({ cls := "PlacementDesk", name := "side", desc := "()I" } : Jvm.MethodName) ({ cls := "PlacementDesk", name := "side", desc := "()I" } : Jvm.MethodName)) ∈ lw_all := lw_g (lw_at lw_m1 208 rfl) rfl
theorem q217 : (Jvm.Cond.code ({ cls := "PlacementDesk", name := "side", desc := "()I" } : Jvm.MethodName) prog_2_method_5_code (1 : Nat) (Option.some Jvm.ClassFile.FieldType.int)) ∈ lw_all := lw_g (lw_at lw_m1 209 rfl) rfl
theorem in_X1 : ∀ w ∈ wsX10, w ∈ lw_all := lw_in wsX10 [124, 126, 128] (by decide +kernel) (by decide +kernel)

/-! PlacementDeskLaw -/
set_option maxRecDepth 100000
def RX0 : String := "PlacementDeskLaw"
abbrev cX0_cell : ByteArray := method_2_code
def yX0_cell : MethodName := ⟨RX0, "cell", "([II)I"⟩
def dkwX0_cell_0 : List UInt8 := [27, 42, 190, 162, 0, 15, 27, 16, 96, 162, 0, 9, 42, 27, 46, 167, 0, 4, 3, 172]
abbrev dktX0_cell_0 : List UInt8 := dkwX0_cell_0 ++ []
theorem dksX0_cell_0 : cX0_cell.data.toList.drop 0 = dktX0_cell_0 := by decide +kernel
theorem dX0_cell_0 : decode cX0_cell 0 = .ok (.iload_n 1, 1) := dk_27 (dk_at dksX0_cell_0 0 rfl rfl)
theorem dX0_cell_1 : decode cX0_cell 1 = .ok (.aload_n 0, 1) := dk_42 (dk_at dksX0_cell_0 1 rfl rfl)
theorem dX0_cell_2 : decode cX0_cell 2 = .ok (.arraylength, 1) := dk_190 (dk_at dksX0_cell_0 2 rfl rfl)
theorem dX0_cell_3 : decode cX0_cell 3 = .ok (.if_icmp .ge 15, 3) := dk_162 0 15 (dk_at dksX0_cell_0 3 rfl rfl)
theorem dX0_cell_6 : decode cX0_cell 6 = .ok (.iload_n 1, 1) := dk_27 (dk_at dksX0_cell_0 6 rfl rfl)
theorem dX0_cell_7 : decode cX0_cell 7 = .ok (.bipush 96, 2) := dk_16 96 (dk_at dksX0_cell_0 7 rfl rfl)
theorem dX0_cell_9 : decode cX0_cell 9 = .ok (.if_icmp .ge 9, 3) := dk_162 0 9 (dk_at dksX0_cell_0 9 rfl rfl)
theorem dX0_cell_12 : decode cX0_cell 12 = .ok (.aload_n 0, 1) := dk_42 (dk_at dksX0_cell_0 12 rfl rfl)
theorem dX0_cell_13 : decode cX0_cell 13 = .ok (.iload_n 1, 1) := dk_27 (dk_at dksX0_cell_0 13 rfl rfl)
theorem dX0_cell_14 : decode cX0_cell 14 = .ok (.iaload, 1) := dk_46 (dk_at dksX0_cell_0 14 rfl rfl)
theorem dX0_cell_15 : decode cX0_cell 15 = .ok (.goto 4, 3) := dk_167 0 4 (dk_at dksX0_cell_0 15 rfl rfl)
theorem dX0_cell_18 : decode cX0_cell 18 = .ok (.iconst 0, 1) := dk_3 (dk_at dksX0_cell_0 18 rfl rfl)
theorem dX0_cell_19 : decode cX0_cell 19 = .ok (.ireturn, 1) := dk_172 (dk_at dksX0_cell_0 19 rfl rfl)
abbrev cX0_bare : ByteArray := method_3_code
def yX0_bare : MethodName := ⟨RX0, "bare", "(I)I"⟩
def dkwX0_bare_0 : List UInt8 := [26, 18, 9, 126, 172]
abbrev dktX0_bare_0 : List UInt8 := dkwX0_bare_0 ++ []
theorem dksX0_bare_0 : cX0_bare.data.toList.drop 0 = dktX0_bare_0 := by decide +kernel
theorem dX0_bare_0 : decode cX0_bare 0 = .ok (.iload_n 0, 1) := dk_26 (dk_at dksX0_bare_0 0 rfl rfl)
theorem dX0_bare_1 : decode cX0_bare 1 = .ok (.ldc 9, 2) := dk_18 9 (dk_at dksX0_bare_0 1 rfl rfl)
theorem dX0_bare_3 : decode cX0_bare 3 = .ok (.iand, 1) := dk_126 (dk_at dksX0_bare_0 3 rfl rfl)
theorem dX0_bare_4 : decode cX0_bare 4 = .ok (.ireturn, 1) := dk_172 (dk_at dksX0_bare_0 4 rfl rfl)
abbrev cX0_isLaid : ByteArray := method_4_code
def yX0_isLaid : MethodName := ⟨RX0, "isLaid", "(LPlacementDesk;LPlacementDeskLaw$Square;[III)Z"⟩
def dkwX0_isLaid_4 : List UInt8 := [184, 0, 29, 43, 180, 0, 16, 112, 44, 182, 0, 25, 160, 0, 7, 4, 167, 0, 4, 3, 172]
abbrev dktX0_isLaid_4 : List UInt8 := dkwX0_isLaid_4 ++ []
def dkwX0_isLaid_3 : List UInt8 := [167, 255, 204, 42, 29, 21, 4, 182, 0, 21, 43, 21, 4, 184, 0, 29, 43, 180, 0, 16, 112, 29]
abbrev dktX0_isLaid_3 : List UInt8 := dkwX0_isLaid_3 ++ dktX0_isLaid_4
def dkwX0_isLaid_2 : List UInt8 := [21, 5, 21, 6, 44, 182, 0, 25, 159, 0, 5, 3, 172, 132, 6, 1, 167, 255, 222, 132, 5, 1]
abbrev dktX0_isLaid_2 : List UInt8 := dkwX0_isLaid_2 ++ dktX0_isLaid_3
def dkwX0_isLaid_1 : List UInt8 := [162, 0, 49, 3, 54, 6, 21, 6, 43, 180, 0, 16, 162, 0, 31, 42, 21, 6, 21, 5, 182, 0, 21, 43]
abbrev dktX0_isLaid_1 : List UInt8 := dkwX0_isLaid_1 ++ dktX0_isLaid_2
def dkwX0_isLaid_0 : List UInt8 := [42, 182, 0, 10, 43, 180, 0, 16, 159, 0, 5, 3, 172, 3, 54, 5, 21, 5, 43, 180, 0, 16]
abbrev dktX0_isLaid_0 : List UInt8 := dkwX0_isLaid_0 ++ dktX0_isLaid_1
theorem dksX0_isLaid_0 : cX0_isLaid.data.toList.drop 0 = dktX0_isLaid_0 := by decide +kernel
theorem dksX0_isLaid_1 : cX0_isLaid.data.toList.drop 22 = dktX0_isLaid_1 := dk_seg dksX0_isLaid_0 22 rfl rfl
theorem dksX0_isLaid_2 : cX0_isLaid.data.toList.drop 46 = dktX0_isLaid_2 := dk_seg dksX0_isLaid_1 24 rfl rfl
theorem dksX0_isLaid_3 : cX0_isLaid.data.toList.drop 68 = dktX0_isLaid_3 := dk_seg dksX0_isLaid_2 22 rfl rfl
theorem dksX0_isLaid_4 : cX0_isLaid.data.toList.drop 90 = dktX0_isLaid_4 := dk_seg dksX0_isLaid_3 22 rfl rfl
theorem dX0_isLaid_0 : decode cX0_isLaid 0 = .ok (.aload_n 0, 1) := dk_42 (dk_at dksX0_isLaid_0 0 rfl rfl)
theorem dX0_isLaid_1 : decode cX0_isLaid 1 = .ok (.invokevirtual 10, 3) := dk_182 0 10 (dk_at dksX0_isLaid_0 1 rfl rfl)
theorem dX0_isLaid_4 : decode cX0_isLaid 4 = .ok (.aload_n 1, 1) := dk_43 (dk_at dksX0_isLaid_0 4 rfl rfl)
theorem dX0_isLaid_5 : decode cX0_isLaid 5 = .ok (.getfield 16, 3) := dk_180 0 16 (dk_at dksX0_isLaid_0 5 rfl rfl)
theorem dX0_isLaid_8 : decode cX0_isLaid 8 = .ok (.if_icmp .eq 5, 3) := dk_159 0 5 (dk_at dksX0_isLaid_0 8 rfl rfl)
theorem dX0_isLaid_11 : decode cX0_isLaid 11 = .ok (.iconst 0, 1) := dk_3 (dk_at dksX0_isLaid_0 11 rfl rfl)
theorem dX0_isLaid_12 : decode cX0_isLaid 12 = .ok (.ireturn, 1) := dk_172 (dk_at dksX0_isLaid_0 12 rfl rfl)
theorem dX0_isLaid_13 : decode cX0_isLaid 13 = .ok (.iconst 0, 1) := dk_3 (dk_at dksX0_isLaid_0 13 rfl rfl)
theorem dX0_isLaid_14 : decode cX0_isLaid 14 = .ok (.istore 5, 2) := dk_54 5 (dk_at dksX0_isLaid_0 14 rfl rfl)
theorem dX0_isLaid_16 : decode cX0_isLaid 16 = .ok (.iload 5, 2) := dk_21 5 (dk_at dksX0_isLaid_0 16 rfl rfl)
theorem dX0_isLaid_18 : decode cX0_isLaid 18 = .ok (.aload_n 1, 1) := dk_43 (dk_at dksX0_isLaid_0 18 rfl rfl)
theorem dX0_isLaid_19 : decode cX0_isLaid 19 = .ok (.getfield 16, 3) := dk_180 0 16 (dk_at dksX0_isLaid_0 19 rfl rfl)
theorem dX0_isLaid_22 : decode cX0_isLaid 22 = .ok (.if_icmp .ge 49, 3) := dk_162 0 49 (dk_at dksX0_isLaid_1 0 rfl rfl)
theorem dX0_isLaid_25 : decode cX0_isLaid 25 = .ok (.iconst 0, 1) := dk_3 (dk_at dksX0_isLaid_1 3 rfl rfl)
theorem dX0_isLaid_26 : decode cX0_isLaid 26 = .ok (.istore 6, 2) := dk_54 6 (dk_at dksX0_isLaid_1 4 rfl rfl)
theorem dX0_isLaid_28 : decode cX0_isLaid 28 = .ok (.iload 6, 2) := dk_21 6 (dk_at dksX0_isLaid_1 6 rfl rfl)
theorem dX0_isLaid_30 : decode cX0_isLaid 30 = .ok (.aload_n 1, 1) := dk_43 (dk_at dksX0_isLaid_1 8 rfl rfl)
theorem dX0_isLaid_31 : decode cX0_isLaid 31 = .ok (.getfield 16, 3) := dk_180 0 16 (dk_at dksX0_isLaid_1 9 rfl rfl)
theorem dX0_isLaid_34 : decode cX0_isLaid 34 = .ok (.if_icmp .ge 31, 3) := dk_162 0 31 (dk_at dksX0_isLaid_1 12 rfl rfl)
theorem dX0_isLaid_37 : decode cX0_isLaid 37 = .ok (.aload_n 0, 1) := dk_42 (dk_at dksX0_isLaid_1 15 rfl rfl)
theorem dX0_isLaid_38 : decode cX0_isLaid 38 = .ok (.iload 6, 2) := dk_21 6 (dk_at dksX0_isLaid_1 16 rfl rfl)
theorem dX0_isLaid_40 : decode cX0_isLaid 40 = .ok (.iload 5, 2) := dk_21 5 (dk_at dksX0_isLaid_1 18 rfl rfl)
theorem dX0_isLaid_42 : decode cX0_isLaid 42 = .ok (.invokevirtual 21, 3) := dk_182 0 21 (dk_at dksX0_isLaid_1 20 rfl rfl)
theorem dX0_isLaid_45 : decode cX0_isLaid 45 = .ok (.aload_n 1, 1) := dk_43 (dk_at dksX0_isLaid_1 23 rfl rfl)
theorem dX0_isLaid_46 : decode cX0_isLaid 46 = .ok (.iload 5, 2) := dk_21 5 (dk_at dksX0_isLaid_2 0 rfl rfl)
theorem dX0_isLaid_48 : decode cX0_isLaid 48 = .ok (.iload 6, 2) := dk_21 6 (dk_at dksX0_isLaid_2 2 rfl rfl)
theorem dX0_isLaid_50 : decode cX0_isLaid 50 = .ok (.aload_n 2, 1) := dk_44 (dk_at dksX0_isLaid_2 4 rfl rfl)
theorem dX0_isLaid_51 : decode cX0_isLaid 51 = .ok (.invokevirtual 25, 3) := dk_182 0 25 (dk_at dksX0_isLaid_2 5 rfl rfl)
theorem dX0_isLaid_54 : decode cX0_isLaid 54 = .ok (.if_icmp .eq 5, 3) := dk_159 0 5 (dk_at dksX0_isLaid_2 8 rfl rfl)
theorem dX0_isLaid_57 : decode cX0_isLaid 57 = .ok (.iconst 0, 1) := dk_3 (dk_at dksX0_isLaid_2 11 rfl rfl)
theorem dX0_isLaid_58 : decode cX0_isLaid 58 = .ok (.ireturn, 1) := dk_172 (dk_at dksX0_isLaid_2 12 rfl rfl)
theorem dX0_isLaid_59 : decode cX0_isLaid 59 = .ok (.iinc 6 1, 3) := dk_132 6 1 (dk_at dksX0_isLaid_2 13 rfl rfl)
theorem dX0_isLaid_62 : decode cX0_isLaid 62 = .ok (.goto (-34), 3) := dk_167 255 222 (dk_at dksX0_isLaid_2 16 rfl rfl)
theorem dX0_isLaid_65 : decode cX0_isLaid 65 = .ok (.iinc 5 1, 3) := dk_132 5 1 (dk_at dksX0_isLaid_2 19 rfl rfl)
theorem dX0_isLaid_68 : decode cX0_isLaid 68 = .ok (.goto (-52), 3) := dk_167 255 204 (dk_at dksX0_isLaid_3 0 rfl rfl)
theorem dX0_isLaid_71 : decode cX0_isLaid 71 = .ok (.aload_n 0, 1) := dk_42 (dk_at dksX0_isLaid_3 3 rfl rfl)
theorem dX0_isLaid_72 : decode cX0_isLaid 72 = .ok (.iload_n 3, 1) := dk_29 (dk_at dksX0_isLaid_3 4 rfl rfl)
theorem dX0_isLaid_73 : decode cX0_isLaid 73 = .ok (.iload 4, 2) := dk_21 4 (dk_at dksX0_isLaid_3 5 rfl rfl)
theorem dX0_isLaid_75 : decode cX0_isLaid 75 = .ok (.invokevirtual 21, 3) := dk_182 0 21 (dk_at dksX0_isLaid_3 7 rfl rfl)
theorem dX0_isLaid_78 : decode cX0_isLaid 78 = .ok (.aload_n 1, 1) := dk_43 (dk_at dksX0_isLaid_3 10 rfl rfl)
theorem dX0_isLaid_79 : decode cX0_isLaid 79 = .ok (.iload 4, 2) := dk_21 4 (dk_at dksX0_isLaid_3 11 rfl rfl)
theorem dX0_isLaid_81 : decode cX0_isLaid 81 = .ok (.invokestatic 29, 3) := dk_184 0 29 (dk_at dksX0_isLaid_3 13 rfl rfl)
theorem dX0_isLaid_84 : decode cX0_isLaid 84 = .ok (.aload_n 1, 1) := dk_43 (dk_at dksX0_isLaid_3 16 rfl rfl)
theorem dX0_isLaid_85 : decode cX0_isLaid 85 = .ok (.getfield 16, 3) := dk_180 0 16 (dk_at dksX0_isLaid_3 17 rfl rfl)
theorem dX0_isLaid_88 : decode cX0_isLaid 88 = .ok (.irem, 1) := dk_112 (dk_at dksX0_isLaid_3 20 rfl rfl)
theorem dX0_isLaid_89 : decode cX0_isLaid 89 = .ok (.iload_n 3, 1) := dk_29 (dk_at dksX0_isLaid_3 21 rfl rfl)
theorem dX0_isLaid_90 : decode cX0_isLaid 90 = .ok (.invokestatic 29, 3) := dk_184 0 29 (dk_at dksX0_isLaid_4 0 rfl rfl)
theorem dX0_isLaid_93 : decode cX0_isLaid 93 = .ok (.aload_n 1, 1) := dk_43 (dk_at dksX0_isLaid_4 3 rfl rfl)
theorem dX0_isLaid_94 : decode cX0_isLaid 94 = .ok (.getfield 16, 3) := dk_180 0 16 (dk_at dksX0_isLaid_4 4 rfl rfl)
theorem dX0_isLaid_97 : decode cX0_isLaid 97 = .ok (.irem, 1) := dk_112 (dk_at dksX0_isLaid_4 7 rfl rfl)
theorem dX0_isLaid_98 : decode cX0_isLaid 98 = .ok (.aload_n 2, 1) := dk_44 (dk_at dksX0_isLaid_4 8 rfl rfl)
theorem dX0_isLaid_99 : decode cX0_isLaid 99 = .ok (.invokevirtual 25, 3) := dk_182 0 25 (dk_at dksX0_isLaid_4 9 rfl rfl)
theorem dX0_isLaid_102 : decode cX0_isLaid 102 = .ok (.if_icmp .ne 7, 3) := dk_160 0 7 (dk_at dksX0_isLaid_4 12 rfl rfl)
theorem dX0_isLaid_105 : decode cX0_isLaid 105 = .ok (.iconst 1, 1) := dk_4 (dk_at dksX0_isLaid_4 15 rfl rfl)
theorem dX0_isLaid_106 : decode cX0_isLaid 106 = .ok (.goto 4, 3) := dk_167 0 4 (dk_at dksX0_isLaid_4 16 rfl rfl)
theorem dX0_isLaid_109 : decode cX0_isLaid 109 = .ok (.iconst 0, 1) := dk_3 (dk_at dksX0_isLaid_4 19 rfl rfl)
theorem dX0_isLaid_110 : decode cX0_isLaid 110 = .ok (.ireturn, 1) := dk_172 (dk_at dksX0_isLaid_4 20 rfl rfl)
theorem q8 : (Jvm.Cond.initialized "PlacementDeskLaw") ∈ lw_all := lw_g (lw_at lw_m1 0 rfl) rfl
theorem q17 : (Jvm.Cond.classLink "PlacementDeskLaw" (11 : Nat) "PlacementDesk") ∈ lw_all := lw_g (lw_at lw_m1 9 rfl) rfl
theorem q19 : (Jvm.Cond.methodLink "PlacementDeskLaw" (33 : Nat) ({ cls := "PlacementDesk", name := "<init>", desc := "()V" } : Jvm.MethodName)) ∈ lw_all := lw_g (lw_at lw_m1 11 rfl) rfl
theorem q131 : (Jvm.Cond.methodLink "PlacementDeskLaw" (48 : Nat) ({ cls := "PlacementDesk", name := "put", desc := "(II)V" } : Jvm.MethodName)) ∈ lw_all := lw_g (lw_at lw_m1 123 rfl) rfl
theorem q136 : (Jvm.Cond.methodLink "PlacementDeskLaw" (52 : Nat) ({ cls := "PlacementDesk", name := "place", desc := "(I)V" } : Jvm.MethodName)) ∈ lw_all := lw_g (lw_at lw_m1 128 rfl) rfl
theorem q206 : (Jvm.Cond.methodLink "PlacementDeskLaw" (21 : Nat) ({ cls := "PlacementDesk", name := "bit", desc := "(II)Z" } : Jvm.MethodName)) ∈ lw_all := lw_g (lw_at lw_m1 198 rfl) rfl
theorem q214 : (Jvm.Cond.methodLink "PlacementDeskLaw" (10 : Nat) ({ cls := "PlacementDesk", name := "side", desc := "()I" } : Jvm.MethodName)) ∈ lw_all := lw_g (lw_at lw_m1 206 rfl) rfl
theorem q218 : (Jvm.Cond.classLink "PlacementDeskLaw" (17 : Nat) "PlacementDeskLaw$Square") ∈ lw_all := lw_g (lw_at lw_m1 210 rfl) rfl
theorem q220 : (Jvm.Cond.methodLink "PlacementDeskLaw" (34 : Nat) ({ cls := "PlacementDeskLaw$Square", name := "<init>", desc := "(I)V" } : Jvm.MethodName)) ∈ lw_all := lw_g (lw_at lw_m1 212 rfl) rfl
theorem q225 : (Jvm.Cond.fieldLink "PlacementDeskLaw" (16 : Nat) "PlacementDeskLaw$Square" "side" "I") ∈ lw_all := lw_g (lw_at lw_m1 217 rfl) rfl
theorem q233 : (Jvm.Cond.methodLink "PlacementDeskLaw" (37 : Nat) ({ cls := "PlacementDeskLaw$Square", name := "fill", desc := "()V" } : Jvm.MethodName)) ∈ lw_all := lw_g (lw_at lw_m1 225 rfl) rfl
theorem q253 : (Jvm.Cond.methodLink "PlacementDeskLaw" (40 : Nat) ({ cls := "PlacementDeskLaw$Square", name := "isWhole", desc := "(I)Z" } : Jvm.MethodName)) ∈ lw_all := lw_g (lw_at lw_m2 5 rfl) rfl
theorem q257 : (Jvm.Cond.methodLink "PlacementDeskLaw" (44 : Nat) ({ cls := "PlacementDeskLaw", name := "cell", desc := "([II)I" } : Jvm.MethodName)) ∈ lw_all := lw_g (lw_at lw_m2 9 rfl) rfl
theorem q258 : (Jvm.Cond.static ({ cls := "PlacementDeskLaw", name := "cell", desc := "([II)I" } : Jvm.MethodName)) ∈ lw_all := lw_g (lw_at lw_m2 10 rfl) rfl
theorem q259 : (Jvm.Cond.code ({ cls := "PlacementDeskLaw", name := "cell", desc := "([II)I" } : Jvm.MethodName) method_2_code (2 : Nat) (Option.some Jvm.ClassFile.FieldType.int)) ∈ lw_all := lw_g (lw_at lw_m2 11 rfl) rfl
theorem q260 : (Jvm.Cond.methodLink "PlacementDeskLaw" (29 : Nat) ({ cls := "PlacementDeskLaw", name := "bare", desc := "(I)I" } : Jvm.MethodName)) ∈ lw_all := lw_g (lw_at lw_m2 12 rfl) rfl
theorem q261 : (Jvm.Cond.static ({ cls := "PlacementDeskLaw", name := "bare", desc := "(I)I" } : Jvm.MethodName)) ∈ lw_all := lw_g (lw_at lw_m2 13 rfl) rfl
theorem q262 : (Jvm.Cond.code ({ cls := "PlacementDeskLaw", name := "bare", desc := "(I)I" } : Jvm.MethodName) method_3_code (1 : Nat) (Option.some Jvm.ClassFile.FieldType.int)) ∈ lw_all := lw_g (lw_at lw_m2 14 rfl) rfl
theorem q263 : (Jvm.Cond.constant "PlacementDeskLaw" (9 : Nat) (2147483647 : Int32)) ∈ lw_all := lw_g (lw_at lw_m2 15 rfl) rfl
theorem q264 : (Jvm.Cond.methodLink "PlacementDeskLaw" (55 : Nat) ({ cls := "PlacementDeskLaw", name := "isLaid", desc := "(LPlacementDesk;LPlacementDeskLaw$Square;[III)Z" } : Jvm.MethodName)) ∈ lw_all := lw_g (lw_at lw_m2 16 rfl) rfl
theorem q265 : (Jvm.Cond.static ({ cls := "PlacementDeskLaw", name := "isLaid", desc := "(LPlacementDesk;LPlacementDeskLaw$Square;[III)Z" } : Jvm.MethodName)) ∈ lw_all := lw_g (lw_at lw_m2 17 rfl) rfl
theorem q266 : (Jvm.Cond.code ({ cls := "PlacementDeskLaw", name := "isLaid", desc := "(LPlacementDesk;LPlacementDeskLaw$Square;[III)Z" } : Jvm.MethodName) method_4_code (7 : Nat) (Option.some Jvm.ClassFile.FieldType.boolean)) ∈ lw_all := lw_g (lw_at lw_m2 18 rfl) rfl
theorem q267 : (Jvm.Cond.methodLink "PlacementDeskLaw" (25 : Nat) ({ cls := "PlacementDeskLaw$Square", name := "isDark", desc := "(II[I)Z" } : Jvm.MethodName)) ∈ lw_all := lw_g (lw_at lw_m2 19 rfl) rfl
end
section
/-! DefaultPlacement -/
set_option maxRecDepth 100000
def RX2 : String := "DefaultPlacement"
def TX2 : u_T := fun k => match k with
  | 0 => ("DefaultPlacement", "codewords", "Ljava/lang/CharSequence;", true)
  | 1 => ("DefaultPlacement", "numrows", "I", true)
  | 2 => ("DefaultPlacement", "numcols", "I", true)
  | _ => ("DefaultPlacement", "bits", "[B", true)
def tyX2 : Nat → FieldType := fun k => match k with
  | 0 => .object "java/lang/CharSequence"
  | 1 => .int
  | 2 => .int
  | _ => .array .byte
abbrev wsX20 : List Cond := u_ws RX2 TX2 4
theorem nmX2 : ∀ a, a < 4 → ∀ b, b < 4 → a ≠ b → (TX2 a).2.1 ≠ (TX2 b).2.1 := by decide +kernel
theorem tyX2_ok : ∀ k, k < 4 → parseFieldDescriptor (TX2 k).2.2.1 = some (tyX2 k) := by decide +kernel
abbrev cX2_init : ByteArray := prog_1_method_1_code
def yX2_init : MethodName := ⟨RX2, "<init>", "(Ljava/lang/CharSequence;II)V"⟩
def dkwX2_init_1 : List UInt8 := [188, 8, 181, 0, 20, 42, 180, 0, 20, 2, 184, 0, 24, 177]
abbrev dktX2_init_1 : List UInt8 := dkwX2_init_1 ++ []
def dkwX2_init_0 : List UInt8 := [42, 183, 0, 1, 42, 43, 181, 0, 7, 42, 28, 181, 0, 13, 42, 29, 181, 0, 17, 42, 28, 29, 104]
abbrev dktX2_init_0 : List UInt8 := dkwX2_init_0 ++ dktX2_init_1
theorem dksX2_init_0 : cX2_init.data.toList.drop 0 = dktX2_init_0 := by decide +kernel
theorem dksX2_init_1 : cX2_init.data.toList.drop 23 = dktX2_init_1 := dk_seg dksX2_init_0 23 rfl rfl
theorem dX2_init_0 : decode cX2_init 0 = .ok (.aload_n 0, 1) := dk_42 (dk_at dksX2_init_0 0 rfl rfl)
theorem dX2_init_1 : decode cX2_init 1 = .ok (.invokespecial 1, 3) := dk_183 0 1 (dk_at dksX2_init_0 1 rfl rfl)
theorem dX2_init_4 : decode cX2_init 4 = .ok (.aload_n 0, 1) := dk_42 (dk_at dksX2_init_0 4 rfl rfl)
theorem dX2_init_5 : decode cX2_init 5 = .ok (.aload_n 1, 1) := dk_43 (dk_at dksX2_init_0 5 rfl rfl)
theorem dX2_init_6 : decode cX2_init 6 = .ok (.putfield 7, 3) := dk_181 0 7 (dk_at dksX2_init_0 6 rfl rfl)
theorem dX2_init_9 : decode cX2_init 9 = .ok (.aload_n 0, 1) := dk_42 (dk_at dksX2_init_0 9 rfl rfl)
theorem dX2_init_10 : decode cX2_init 10 = .ok (.iload_n 2, 1) := dk_28 (dk_at dksX2_init_0 10 rfl rfl)
theorem dX2_init_11 : decode cX2_init 11 = .ok (.putfield 13, 3) := dk_181 0 13 (dk_at dksX2_init_0 11 rfl rfl)
theorem dX2_init_14 : decode cX2_init 14 = .ok (.aload_n 0, 1) := dk_42 (dk_at dksX2_init_0 14 rfl rfl)
theorem dX2_init_15 : decode cX2_init 15 = .ok (.iload_n 3, 1) := dk_29 (dk_at dksX2_init_0 15 rfl rfl)
theorem dX2_init_16 : decode cX2_init 16 = .ok (.putfield 17, 3) := dk_181 0 17 (dk_at dksX2_init_0 16 rfl rfl)
theorem dX2_init_19 : decode cX2_init 19 = .ok (.aload_n 0, 1) := dk_42 (dk_at dksX2_init_0 19 rfl rfl)
theorem dX2_init_20 : decode cX2_init 20 = .ok (.iload_n 2, 1) := dk_28 (dk_at dksX2_init_0 20 rfl rfl)
theorem dX2_init_21 : decode cX2_init 21 = .ok (.iload_n 3, 1) := dk_29 (dk_at dksX2_init_0 21 rfl rfl)
theorem dX2_init_22 : decode cX2_init 22 = .ok (.imul, 1) := dk_104 (dk_at dksX2_init_0 22 rfl rfl)
theorem dX2_init_23 : decode cX2_init 23 = .ok (.newarray .byte, 2) := dk_188_8 (dk_at dksX2_init_1 0 rfl rfl)
theorem dX2_init_25 : decode cX2_init 25 = .ok (.putfield 20, 3) := dk_181 0 20 (dk_at dksX2_init_1 2 rfl rfl)
theorem dX2_init_28 : decode cX2_init 28 = .ok (.aload_n 0, 1) := dk_42 (dk_at dksX2_init_1 5 rfl rfl)
theorem dX2_init_29 : decode cX2_init 29 = .ok (.getfield 20, 3) := dk_180 0 20 (dk_at dksX2_init_1 6 rfl rfl)
theorem dX2_init_32 : decode cX2_init 32 = .ok (.iconst (-1), 1) := dk_2 (dk_at dksX2_init_1 9 rfl rfl)
theorem dX2_init_33 : decode cX2_init 33 = .ok (.invokestatic 24, 3) := dk_184 0 24 (dk_at dksX2_init_1 10 rfl rfl)
theorem dX2_init_36 : decode cX2_init 36 = .ok (.return_, 1) := dk_177 (dk_at dksX2_init_1 13 rfl rfl)
abbrev cX2_place : ByteArray := prog_1_method_5_code
def yX2_place : MethodName := ⟨RX2, "place", "()V"⟩
def dkwX2_place_13 : List UInt8 := [182, 0, 51, 177]
abbrev dktX2_place_13 : List UInt8 := dkwX2_place_13 ++ []
def dkwX2_place_12 : List UInt8 := [180, 0, 17, 4, 100, 4, 182, 0, 51, 42, 42, 180, 0, 13, 5, 100, 42, 180, 0, 17, 5, 100, 4]
abbrev dktX2_place_12 : List UInt8 := dkwX2_place_12 ++ dktX2_place_13
def dkwX2_place_11 : List UInt8 := [4, 100, 42, 180, 0, 17, 4, 100, 182, 0, 43, 153, 0, 37, 42, 42, 180, 0, 13, 4, 100, 42]
abbrev dktX2_place_11 : List UInt8 := dkwX2_place_11 ++ dktX2_place_12
def dkwX2_place_10 : List UInt8 := [132, 3, 1, 28, 42, 180, 0, 17, 161, 255, 24, 29, 42, 180, 0, 13, 161, 255, 16, 42, 42, 180, 0, 13]
abbrev dktX2_place_10 : List UInt8 := dkwX2_place_10 ++ dktX2_place_11
def dkwX2_place_9 : List UInt8 := [182, 0, 47, 132, 2, 2, 132, 3, 254, 28, 42, 180, 0, 17, 162, 0, 7, 29, 156, 255, 210, 132, 2, 3]
abbrev dktX2_place_9 : List UInt8 := dkwX2_place_9 ++ dktX2_place_10
def dkwX2_place_8 : List UInt8 := [180, 0, 13, 162, 0, 22, 42, 29, 28, 182, 0, 43, 153, 0, 13, 42, 28, 29, 27, 132, 1, 1]
abbrev dktX2_place_8 : List UInt8 := dkwX2_place_8 ++ dktX2_place_9
def dkwX2_place_7 : List UInt8 := [155, 0, 11, 29, 42, 180, 0, 13, 161, 255, 210, 132, 2, 1, 132, 3, 3, 28, 155, 0, 30, 29, 42]
abbrev dktX2_place_7 : List UInt8 := dkwX2_place_7 ++ dktX2_place_8
def dkwX2_place_6 : List UInt8 := [182, 0, 43, 153, 0, 13, 42, 28, 29, 27, 132, 1, 1, 182, 0, 47, 132, 2, 254, 132, 3, 2, 28]
abbrev dktX2_place_6 : List UInt8 := dkwX2_place_6 ++ dktX2_place_7
def dkwX2_place_5 : List UInt8 := [27, 132, 1, 1, 182, 0, 40, 28, 42, 180, 0, 17, 162, 0, 26, 29, 155, 0, 22, 42, 29, 28]
abbrev dktX2_place_5 : List UInt8 := dkwX2_place_5 ++ dktX2_place_6
def dkwX2_place_4 : List UInt8 := [180, 0, 17, 7, 96, 160, 0, 26, 29, 5, 160, 0, 21, 42, 180, 0, 13, 16, 8, 112, 154, 0, 11, 42]
abbrev dktX2_place_4 : List UInt8 := dkwX2_place_4 ++ dktX2_place_5
def dkwX2_place_3 : List UInt8 := [154, 0, 22, 42, 180, 0, 13, 16, 8, 112, 7, 160, 0, 11, 42, 27, 132, 1, 1, 182, 0, 37, 28, 42]
abbrev dktX2_place_3 : List UInt8 := dkwX2_place_3 ++ dktX2_place_4
def dkwX2_place_2 : List UInt8 := [153, 0, 11, 42, 27, 132, 1, 1, 182, 0, 34, 28, 42, 180, 0, 17, 5, 100, 160, 0, 26, 29]
abbrev dktX2_place_2 : List UInt8 := dkwX2_place_2 ++ dktX2_place_3
def dkwX2_place_1 : List UInt8 := [182, 0, 30, 28, 42, 180, 0, 17, 5, 100, 160, 0, 24, 29, 154, 0, 20, 42, 180, 0, 13, 7, 112]
abbrev dktX2_place_1 : List UInt8 := dkwX2_place_1 ++ dktX2_place_2
def dkwX2_place_0 : List UInt8 := [3, 60, 7, 61, 3, 62, 28, 42, 180, 0, 17, 160, 0, 15, 29, 154, 0, 11, 42, 27, 132, 1, 1]
abbrev dktX2_place_0 : List UInt8 := dkwX2_place_0 ++ dktX2_place_1
theorem dksX2_place_0 : cX2_place.data.toList.drop 0 = dktX2_place_0 := by decide +kernel
theorem dksX2_place_1 : cX2_place.data.toList.drop 23 = dktX2_place_1 := dk_seg dksX2_place_0 23 rfl rfl
theorem dksX2_place_2 : cX2_place.data.toList.drop 46 = dktX2_place_2 := dk_seg dksX2_place_1 23 rfl rfl
theorem dksX2_place_3 : cX2_place.data.toList.drop 68 = dktX2_place_3 := dk_seg dksX2_place_2 22 rfl rfl
theorem dksX2_place_4 : cX2_place.data.toList.drop 92 = dktX2_place_4 := dk_seg dksX2_place_3 24 rfl rfl
theorem dksX2_place_5 : cX2_place.data.toList.drop 116 = dktX2_place_5 := dk_seg dksX2_place_4 24 rfl rfl
theorem dksX2_place_6 : cX2_place.data.toList.drop 138 = dktX2_place_6 := dk_seg dksX2_place_5 22 rfl rfl
theorem dksX2_place_7 : cX2_place.data.toList.drop 161 = dktX2_place_7 := dk_seg dksX2_place_6 23 rfl rfl
theorem dksX2_place_8 : cX2_place.data.toList.drop 184 = dktX2_place_8 := dk_seg dksX2_place_7 23 rfl rfl
theorem dksX2_place_9 : cX2_place.data.toList.drop 206 = dktX2_place_9 := dk_seg dksX2_place_8 22 rfl rfl
theorem dksX2_place_10 : cX2_place.data.toList.drop 230 = dktX2_place_10 := dk_seg dksX2_place_9 24 rfl rfl
theorem dksX2_place_11 : cX2_place.data.toList.drop 254 = dktX2_place_11 := dk_seg dksX2_place_10 24 rfl rfl
theorem dksX2_place_12 : cX2_place.data.toList.drop 276 = dktX2_place_12 := dk_seg dksX2_place_11 22 rfl rfl
theorem dksX2_place_13 : cX2_place.data.toList.drop 299 = dktX2_place_13 := dk_seg dksX2_place_12 23 rfl rfl
theorem dX2_place_0 : decode cX2_place 0 = .ok (.iconst 0, 1) := dk_3 (dk_at dksX2_place_0 0 rfl rfl)
theorem dX2_place_1 : decode cX2_place 1 = .ok (.istore_n 1, 1) := dk_60 (dk_at dksX2_place_0 1 rfl rfl)
theorem dX2_place_2 : decode cX2_place 2 = .ok (.iconst 4, 1) := dk_7 (dk_at dksX2_place_0 2 rfl rfl)
theorem dX2_place_3 : decode cX2_place 3 = .ok (.istore_n 2, 1) := dk_61 (dk_at dksX2_place_0 3 rfl rfl)
theorem dX2_place_4 : decode cX2_place 4 = .ok (.iconst 0, 1) := dk_3 (dk_at dksX2_place_0 4 rfl rfl)
theorem dX2_place_5 : decode cX2_place 5 = .ok (.istore_n 3, 1) := dk_62 (dk_at dksX2_place_0 5 rfl rfl)
theorem dX2_place_6 : decode cX2_place 6 = .ok (.iload_n 2, 1) := dk_28 (dk_at dksX2_place_0 6 rfl rfl)
theorem dX2_place_7 : decode cX2_place 7 = .ok (.aload_n 0, 1) := dk_42 (dk_at dksX2_place_0 7 rfl rfl)
theorem dX2_place_8 : decode cX2_place 8 = .ok (.getfield 17, 3) := dk_180 0 17 (dk_at dksX2_place_0 8 rfl rfl)
theorem dX2_place_11 : decode cX2_place 11 = .ok (.if_icmp .ne 15, 3) := dk_160 0 15 (dk_at dksX2_place_0 11 rfl rfl)
theorem dX2_place_14 : decode cX2_place 14 = .ok (.iload_n 3, 1) := dk_29 (dk_at dksX2_place_0 14 rfl rfl)
theorem dX2_place_15 : decode cX2_place 15 = .ok (.ifCond .ne 11, 3) := dk_154 0 11 (dk_at dksX2_place_0 15 rfl rfl)
theorem dX2_place_18 : decode cX2_place 18 = .ok (.aload_n 0, 1) := dk_42 (dk_at dksX2_place_0 18 rfl rfl)
theorem dX2_place_19 : decode cX2_place 19 = .ok (.iload_n 1, 1) := dk_27 (dk_at dksX2_place_0 19 rfl rfl)
theorem dX2_place_20 : decode cX2_place 20 = .ok (.iinc 1 1, 3) := dk_132 1 1 (dk_at dksX2_place_0 20 rfl rfl)
theorem dX2_place_23 : decode cX2_place 23 = .ok (.invokevirtual 30, 3) := dk_182 0 30 (dk_at dksX2_place_1 0 rfl rfl)
theorem dX2_place_26 : decode cX2_place 26 = .ok (.iload_n 2, 1) := dk_28 (dk_at dksX2_place_1 3 rfl rfl)
theorem dX2_place_27 : decode cX2_place 27 = .ok (.aload_n 0, 1) := dk_42 (dk_at dksX2_place_1 4 rfl rfl)
theorem dX2_place_28 : decode cX2_place 28 = .ok (.getfield 17, 3) := dk_180 0 17 (dk_at dksX2_place_1 5 rfl rfl)
theorem dX2_place_31 : decode cX2_place 31 = .ok (.iconst 2, 1) := dk_5 (dk_at dksX2_place_1 8 rfl rfl)
theorem dX2_place_32 : decode cX2_place 32 = .ok (.isub, 1) := dk_100 (dk_at dksX2_place_1 9 rfl rfl)
theorem dX2_place_33 : decode cX2_place 33 = .ok (.if_icmp .ne 24, 3) := dk_160 0 24 (dk_at dksX2_place_1 10 rfl rfl)
theorem dX2_place_36 : decode cX2_place 36 = .ok (.iload_n 3, 1) := dk_29 (dk_at dksX2_place_1 13 rfl rfl)
theorem dX2_place_37 : decode cX2_place 37 = .ok (.ifCond .ne 20, 3) := dk_154 0 20 (dk_at dksX2_place_1 14 rfl rfl)
theorem dX2_place_40 : decode cX2_place 40 = .ok (.aload_n 0, 1) := dk_42 (dk_at dksX2_place_1 17 rfl rfl)
theorem dX2_place_41 : decode cX2_place 41 = .ok (.getfield 13, 3) := dk_180 0 13 (dk_at dksX2_place_1 18 rfl rfl)
theorem dX2_place_44 : decode cX2_place 44 = .ok (.iconst 4, 1) := dk_7 (dk_at dksX2_place_1 21 rfl rfl)
theorem dX2_place_45 : decode cX2_place 45 = .ok (.irem, 1) := dk_112 (dk_at dksX2_place_1 22 rfl rfl)
theorem dX2_place_46 : decode cX2_place 46 = .ok (.ifCond .eq 11, 3) := dk_153 0 11 (dk_at dksX2_place_2 0 rfl rfl)
theorem dX2_place_49 : decode cX2_place 49 = .ok (.aload_n 0, 1) := dk_42 (dk_at dksX2_place_2 3 rfl rfl)
theorem dX2_place_50 : decode cX2_place 50 = .ok (.iload_n 1, 1) := dk_27 (dk_at dksX2_place_2 4 rfl rfl)
theorem dX2_place_51 : decode cX2_place 51 = .ok (.iinc 1 1, 3) := dk_132 1 1 (dk_at dksX2_place_2 5 rfl rfl)
theorem dX2_place_54 : decode cX2_place 54 = .ok (.invokevirtual 34, 3) := dk_182 0 34 (dk_at dksX2_place_2 8 rfl rfl)
theorem dX2_place_57 : decode cX2_place 57 = .ok (.iload_n 2, 1) := dk_28 (dk_at dksX2_place_2 11 rfl rfl)
theorem dX2_place_58 : decode cX2_place 58 = .ok (.aload_n 0, 1) := dk_42 (dk_at dksX2_place_2 12 rfl rfl)
theorem dX2_place_59 : decode cX2_place 59 = .ok (.getfield 17, 3) := dk_180 0 17 (dk_at dksX2_place_2 13 rfl rfl)
theorem dX2_place_62 : decode cX2_place 62 = .ok (.iconst 2, 1) := dk_5 (dk_at dksX2_place_2 16 rfl rfl)
theorem dX2_place_63 : decode cX2_place 63 = .ok (.isub, 1) := dk_100 (dk_at dksX2_place_2 17 rfl rfl)
theorem dX2_place_64 : decode cX2_place 64 = .ok (.if_icmp .ne 26, 3) := dk_160 0 26 (dk_at dksX2_place_2 18 rfl rfl)
theorem dX2_place_67 : decode cX2_place 67 = .ok (.iload_n 3, 1) := dk_29 (dk_at dksX2_place_2 21 rfl rfl)
theorem dX2_place_68 : decode cX2_place 68 = .ok (.ifCond .ne 22, 3) := dk_154 0 22 (dk_at dksX2_place_3 0 rfl rfl)
theorem dX2_place_71 : decode cX2_place 71 = .ok (.aload_n 0, 1) := dk_42 (dk_at dksX2_place_3 3 rfl rfl)
theorem dX2_place_72 : decode cX2_place 72 = .ok (.getfield 13, 3) := dk_180 0 13 (dk_at dksX2_place_3 4 rfl rfl)
theorem dX2_place_75 : decode cX2_place 75 = .ok (.bipush 8, 2) := dk_16 8 (dk_at dksX2_place_3 7 rfl rfl)
theorem dX2_place_77 : decode cX2_place 77 = .ok (.irem, 1) := dk_112 (dk_at dksX2_place_3 9 rfl rfl)
theorem dX2_place_78 : decode cX2_place 78 = .ok (.iconst 4, 1) := dk_7 (dk_at dksX2_place_3 10 rfl rfl)
theorem dX2_place_79 : decode cX2_place 79 = .ok (.if_icmp .ne 11, 3) := dk_160 0 11 (dk_at dksX2_place_3 11 rfl rfl)
theorem dX2_place_82 : decode cX2_place 82 = .ok (.aload_n 0, 1) := dk_42 (dk_at dksX2_place_3 14 rfl rfl)
theorem dX2_place_83 : decode cX2_place 83 = .ok (.iload_n 1, 1) := dk_27 (dk_at dksX2_place_3 15 rfl rfl)
theorem dX2_place_84 : decode cX2_place 84 = .ok (.iinc 1 1, 3) := dk_132 1 1 (dk_at dksX2_place_3 16 rfl rfl)
theorem dX2_place_87 : decode cX2_place 87 = .ok (.invokevirtual 37, 3) := dk_182 0 37 (dk_at dksX2_place_3 19 rfl rfl)
theorem dX2_place_90 : decode cX2_place 90 = .ok (.iload_n 2, 1) := dk_28 (dk_at dksX2_place_3 22 rfl rfl)
theorem dX2_place_91 : decode cX2_place 91 = .ok (.aload_n 0, 1) := dk_42 (dk_at dksX2_place_3 23 rfl rfl)
theorem dX2_place_92 : decode cX2_place 92 = .ok (.getfield 17, 3) := dk_180 0 17 (dk_at dksX2_place_4 0 rfl rfl)
theorem dX2_place_95 : decode cX2_place 95 = .ok (.iconst 4, 1) := dk_7 (dk_at dksX2_place_4 3 rfl rfl)
theorem dX2_place_96 : decode cX2_place 96 = .ok (.iadd, 1) := dk_96 (dk_at dksX2_place_4 4 rfl rfl)
theorem dX2_place_97 : decode cX2_place 97 = .ok (.if_icmp .ne 26, 3) := dk_160 0 26 (dk_at dksX2_place_4 5 rfl rfl)
theorem dX2_place_100 : decode cX2_place 100 = .ok (.iload_n 3, 1) := dk_29 (dk_at dksX2_place_4 8 rfl rfl)
theorem dX2_place_101 : decode cX2_place 101 = .ok (.iconst 2, 1) := dk_5 (dk_at dksX2_place_4 9 rfl rfl)
theorem dX2_place_102 : decode cX2_place 102 = .ok (.if_icmp .ne 21, 3) := dk_160 0 21 (dk_at dksX2_place_4 10 rfl rfl)
theorem dX2_place_105 : decode cX2_place 105 = .ok (.aload_n 0, 1) := dk_42 (dk_at dksX2_place_4 13 rfl rfl)
theorem dX2_place_106 : decode cX2_place 106 = .ok (.getfield 13, 3) := dk_180 0 13 (dk_at dksX2_place_4 14 rfl rfl)
theorem dX2_place_109 : decode cX2_place 109 = .ok (.bipush 8, 2) := dk_16 8 (dk_at dksX2_place_4 17 rfl rfl)
theorem dX2_place_111 : decode cX2_place 111 = .ok (.irem, 1) := dk_112 (dk_at dksX2_place_4 19 rfl rfl)
theorem dX2_place_112 : decode cX2_place 112 = .ok (.ifCond .ne 11, 3) := dk_154 0 11 (dk_at dksX2_place_4 20 rfl rfl)
theorem dX2_place_115 : decode cX2_place 115 = .ok (.aload_n 0, 1) := dk_42 (dk_at dksX2_place_4 23 rfl rfl)
theorem dX2_place_116 : decode cX2_place 116 = .ok (.iload_n 1, 1) := dk_27 (dk_at dksX2_place_5 0 rfl rfl)
theorem dX2_place_117 : decode cX2_place 117 = .ok (.iinc 1 1, 3) := dk_132 1 1 (dk_at dksX2_place_5 1 rfl rfl)
theorem dX2_place_120 : decode cX2_place 120 = .ok (.invokevirtual 40, 3) := dk_182 0 40 (dk_at dksX2_place_5 4 rfl rfl)
theorem dX2_place_123 : decode cX2_place 123 = .ok (.iload_n 2, 1) := dk_28 (dk_at dksX2_place_5 7 rfl rfl)
theorem dX2_place_124 : decode cX2_place 124 = .ok (.aload_n 0, 1) := dk_42 (dk_at dksX2_place_5 8 rfl rfl)
theorem dX2_place_125 : decode cX2_place 125 = .ok (.getfield 17, 3) := dk_180 0 17 (dk_at dksX2_place_5 9 rfl rfl)
theorem dX2_place_128 : decode cX2_place 128 = .ok (.if_icmp .ge 26, 3) := dk_162 0 26 (dk_at dksX2_place_5 12 rfl rfl)
theorem dX2_place_131 : decode cX2_place 131 = .ok (.iload_n 3, 1) := dk_29 (dk_at dksX2_place_5 15 rfl rfl)
theorem dX2_place_132 : decode cX2_place 132 = .ok (.ifCond .lt 22, 3) := dk_155 0 22 (dk_at dksX2_place_5 16 rfl rfl)
theorem dX2_place_135 : decode cX2_place 135 = .ok (.aload_n 0, 1) := dk_42 (dk_at dksX2_place_5 19 rfl rfl)
theorem dX2_place_136 : decode cX2_place 136 = .ok (.iload_n 3, 1) := dk_29 (dk_at dksX2_place_5 20 rfl rfl)
theorem dX2_place_137 : decode cX2_place 137 = .ok (.iload_n 2, 1) := dk_28 (dk_at dksX2_place_5 21 rfl rfl)
theorem dX2_place_138 : decode cX2_place 138 = .ok (.invokevirtual 43, 3) := dk_182 0 43 (dk_at dksX2_place_6 0 rfl rfl)
theorem dX2_place_141 : decode cX2_place 141 = .ok (.ifCond .eq 13, 3) := dk_153 0 13 (dk_at dksX2_place_6 3 rfl rfl)
theorem dX2_place_144 : decode cX2_place 144 = .ok (.aload_n 0, 1) := dk_42 (dk_at dksX2_place_6 6 rfl rfl)
theorem dX2_place_145 : decode cX2_place 145 = .ok (.iload_n 2, 1) := dk_28 (dk_at dksX2_place_6 7 rfl rfl)
theorem dX2_place_146 : decode cX2_place 146 = .ok (.iload_n 3, 1) := dk_29 (dk_at dksX2_place_6 8 rfl rfl)
theorem dX2_place_147 : decode cX2_place 147 = .ok (.iload_n 1, 1) := dk_27 (dk_at dksX2_place_6 9 rfl rfl)
theorem dX2_place_148 : decode cX2_place 148 = .ok (.iinc 1 1, 3) := dk_132 1 1 (dk_at dksX2_place_6 10 rfl rfl)
theorem dX2_place_151 : decode cX2_place 151 = .ok (.invokevirtual 47, 3) := dk_182 0 47 (dk_at dksX2_place_6 13 rfl rfl)
theorem dX2_place_154 : decode cX2_place 154 = .ok (.iinc 2 (-2), 3) := dk_132 2 254 (dk_at dksX2_place_6 16 rfl rfl)
theorem dX2_place_157 : decode cX2_place 157 = .ok (.iinc 3 2, 3) := dk_132 3 2 (dk_at dksX2_place_6 19 rfl rfl)
theorem dX2_place_160 : decode cX2_place 160 = .ok (.iload_n 2, 1) := dk_28 (dk_at dksX2_place_6 22 rfl rfl)
theorem dX2_place_161 : decode cX2_place 161 = .ok (.ifCond .lt 11, 3) := dk_155 0 11 (dk_at dksX2_place_7 0 rfl rfl)
theorem dX2_place_164 : decode cX2_place 164 = .ok (.iload_n 3, 1) := dk_29 (dk_at dksX2_place_7 3 rfl rfl)
theorem dX2_place_165 : decode cX2_place 165 = .ok (.aload_n 0, 1) := dk_42 (dk_at dksX2_place_7 4 rfl rfl)
theorem dX2_place_166 : decode cX2_place 166 = .ok (.getfield 13, 3) := dk_180 0 13 (dk_at dksX2_place_7 5 rfl rfl)
theorem dX2_place_169 : decode cX2_place 169 = .ok (.if_icmp .lt (-46), 3) := dk_161 255 210 (dk_at dksX2_place_7 8 rfl rfl)
theorem dX2_place_172 : decode cX2_place 172 = .ok (.iinc 2 1, 3) := dk_132 2 1 (dk_at dksX2_place_7 11 rfl rfl)
theorem dX2_place_175 : decode cX2_place 175 = .ok (.iinc 3 3, 3) := dk_132 3 3 (dk_at dksX2_place_7 14 rfl rfl)
theorem dX2_place_178 : decode cX2_place 178 = .ok (.iload_n 2, 1) := dk_28 (dk_at dksX2_place_7 17 rfl rfl)
theorem dX2_place_179 : decode cX2_place 179 = .ok (.ifCond .lt 30, 3) := dk_155 0 30 (dk_at dksX2_place_7 18 rfl rfl)
theorem dX2_place_182 : decode cX2_place 182 = .ok (.iload_n 3, 1) := dk_29 (dk_at dksX2_place_7 21 rfl rfl)
theorem dX2_place_183 : decode cX2_place 183 = .ok (.aload_n 0, 1) := dk_42 (dk_at dksX2_place_7 22 rfl rfl)
theorem dX2_place_184 : decode cX2_place 184 = .ok (.getfield 13, 3) := dk_180 0 13 (dk_at dksX2_place_8 0 rfl rfl)
theorem dX2_place_187 : decode cX2_place 187 = .ok (.if_icmp .ge 22, 3) := dk_162 0 22 (dk_at dksX2_place_8 3 rfl rfl)
theorem dX2_place_190 : decode cX2_place 190 = .ok (.aload_n 0, 1) := dk_42 (dk_at dksX2_place_8 6 rfl rfl)
theorem dX2_place_191 : decode cX2_place 191 = .ok (.iload_n 3, 1) := dk_29 (dk_at dksX2_place_8 7 rfl rfl)
theorem dX2_place_192 : decode cX2_place 192 = .ok (.iload_n 2, 1) := dk_28 (dk_at dksX2_place_8 8 rfl rfl)
theorem dX2_place_193 : decode cX2_place 193 = .ok (.invokevirtual 43, 3) := dk_182 0 43 (dk_at dksX2_place_8 9 rfl rfl)
theorem dX2_place_196 : decode cX2_place 196 = .ok (.ifCond .eq 13, 3) := dk_153 0 13 (dk_at dksX2_place_8 12 rfl rfl)
theorem dX2_place_199 : decode cX2_place 199 = .ok (.aload_n 0, 1) := dk_42 (dk_at dksX2_place_8 15 rfl rfl)
theorem dX2_place_200 : decode cX2_place 200 = .ok (.iload_n 2, 1) := dk_28 (dk_at dksX2_place_8 16 rfl rfl)
theorem dX2_place_201 : decode cX2_place 201 = .ok (.iload_n 3, 1) := dk_29 (dk_at dksX2_place_8 17 rfl rfl)
theorem dX2_place_202 : decode cX2_place 202 = .ok (.iload_n 1, 1) := dk_27 (dk_at dksX2_place_8 18 rfl rfl)
theorem dX2_place_203 : decode cX2_place 203 = .ok (.iinc 1 1, 3) := dk_132 1 1 (dk_at dksX2_place_8 19 rfl rfl)
theorem dX2_place_206 : decode cX2_place 206 = .ok (.invokevirtual 47, 3) := dk_182 0 47 (dk_at dksX2_place_9 0 rfl rfl)
theorem dX2_place_209 : decode cX2_place 209 = .ok (.iinc 2 2, 3) := dk_132 2 2 (dk_at dksX2_place_9 3 rfl rfl)
theorem dX2_place_212 : decode cX2_place 212 = .ok (.iinc 3 (-2), 3) := dk_132 3 254 (dk_at dksX2_place_9 6 rfl rfl)
theorem dX2_place_215 : decode cX2_place 215 = .ok (.iload_n 2, 1) := dk_28 (dk_at dksX2_place_9 9 rfl rfl)
theorem dX2_place_216 : decode cX2_place 216 = .ok (.aload_n 0, 1) := dk_42 (dk_at dksX2_place_9 10 rfl rfl)
theorem dX2_place_217 : decode cX2_place 217 = .ok (.getfield 17, 3) := dk_180 0 17 (dk_at dksX2_place_9 11 rfl rfl)
theorem dX2_place_220 : decode cX2_place 220 = .ok (.if_icmp .ge 7, 3) := dk_162 0 7 (dk_at dksX2_place_9 14 rfl rfl)
theorem dX2_place_223 : decode cX2_place 223 = .ok (.iload_n 3, 1) := dk_29 (dk_at dksX2_place_9 17 rfl rfl)
theorem dX2_place_224 : decode cX2_place 224 = .ok (.ifCond .ge (-46), 3) := dk_156 255 210 (dk_at dksX2_place_9 18 rfl rfl)
theorem dX2_place_227 : decode cX2_place 227 = .ok (.iinc 2 3, 3) := dk_132 2 3 (dk_at dksX2_place_9 21 rfl rfl)
theorem dX2_place_230 : decode cX2_place 230 = .ok (.iinc 3 1, 3) := dk_132 3 1 (dk_at dksX2_place_10 0 rfl rfl)
theorem dX2_place_233 : decode cX2_place 233 = .ok (.iload_n 2, 1) := dk_28 (dk_at dksX2_place_10 3 rfl rfl)
theorem dX2_place_234 : decode cX2_place 234 = .ok (.aload_n 0, 1) := dk_42 (dk_at dksX2_place_10 4 rfl rfl)
theorem dX2_place_235 : decode cX2_place 235 = .ok (.getfield 17, 3) := dk_180 0 17 (dk_at dksX2_place_10 5 rfl rfl)
theorem dX2_place_238 : decode cX2_place 238 = .ok (.if_icmp .lt (-232), 3) := dk_161 255 24 (dk_at dksX2_place_10 8 rfl rfl)
theorem dX2_place_241 : decode cX2_place 241 = .ok (.iload_n 3, 1) := dk_29 (dk_at dksX2_place_10 11 rfl rfl)
theorem dX2_place_242 : decode cX2_place 242 = .ok (.aload_n 0, 1) := dk_42 (dk_at dksX2_place_10 12 rfl rfl)
theorem dX2_place_243 : decode cX2_place 243 = .ok (.getfield 13, 3) := dk_180 0 13 (dk_at dksX2_place_10 13 rfl rfl)
theorem dX2_place_246 : decode cX2_place 246 = .ok (.if_icmp .lt (-240), 3) := dk_161 255 16 (dk_at dksX2_place_10 16 rfl rfl)
theorem dX2_place_249 : decode cX2_place 249 = .ok (.aload_n 0, 1) := dk_42 (dk_at dksX2_place_10 19 rfl rfl)
theorem dX2_place_250 : decode cX2_place 250 = .ok (.aload_n 0, 1) := dk_42 (dk_at dksX2_place_10 20 rfl rfl)
theorem dX2_place_251 : decode cX2_place 251 = .ok (.getfield 13, 3) := dk_180 0 13 (dk_at dksX2_place_10 21 rfl rfl)
theorem dX2_place_254 : decode cX2_place 254 = .ok (.iconst 1, 1) := dk_4 (dk_at dksX2_place_11 0 rfl rfl)
theorem dX2_place_255 : decode cX2_place 255 = .ok (.isub, 1) := dk_100 (dk_at dksX2_place_11 1 rfl rfl)
theorem dX2_place_256 : decode cX2_place 256 = .ok (.aload_n 0, 1) := dk_42 (dk_at dksX2_place_11 2 rfl rfl)
theorem dX2_place_257 : decode cX2_place 257 = .ok (.getfield 17, 3) := dk_180 0 17 (dk_at dksX2_place_11 3 rfl rfl)
theorem dX2_place_260 : decode cX2_place 260 = .ok (.iconst 1, 1) := dk_4 (dk_at dksX2_place_11 6 rfl rfl)
theorem dX2_place_261 : decode cX2_place 261 = .ok (.isub, 1) := dk_100 (dk_at dksX2_place_11 7 rfl rfl)
theorem dX2_place_262 : decode cX2_place 262 = .ok (.invokevirtual 43, 3) := dk_182 0 43 (dk_at dksX2_place_11 8 rfl rfl)
theorem dX2_place_265 : decode cX2_place 265 = .ok (.ifCond .eq 37, 3) := dk_153 0 37 (dk_at dksX2_place_11 11 rfl rfl)
theorem dX2_place_268 : decode cX2_place 268 = .ok (.aload_n 0, 1) := dk_42 (dk_at dksX2_place_11 14 rfl rfl)
theorem dX2_place_269 : decode cX2_place 269 = .ok (.aload_n 0, 1) := dk_42 (dk_at dksX2_place_11 15 rfl rfl)
theorem dX2_place_270 : decode cX2_place 270 = .ok (.getfield 13, 3) := dk_180 0 13 (dk_at dksX2_place_11 16 rfl rfl)
theorem dX2_place_273 : decode cX2_place 273 = .ok (.iconst 1, 1) := dk_4 (dk_at dksX2_place_11 19 rfl rfl)
theorem dX2_place_274 : decode cX2_place 274 = .ok (.isub, 1) := dk_100 (dk_at dksX2_place_11 20 rfl rfl)
theorem dX2_place_275 : decode cX2_place 275 = .ok (.aload_n 0, 1) := dk_42 (dk_at dksX2_place_11 21 rfl rfl)
theorem dX2_place_276 : decode cX2_place 276 = .ok (.getfield 17, 3) := dk_180 0 17 (dk_at dksX2_place_12 0 rfl rfl)
theorem dX2_place_279 : decode cX2_place 279 = .ok (.iconst 1, 1) := dk_4 (dk_at dksX2_place_12 3 rfl rfl)
theorem dX2_place_280 : decode cX2_place 280 = .ok (.isub, 1) := dk_100 (dk_at dksX2_place_12 4 rfl rfl)
theorem dX2_place_281 : decode cX2_place 281 = .ok (.iconst 1, 1) := dk_4 (dk_at dksX2_place_12 5 rfl rfl)
theorem dX2_place_282 : decode cX2_place 282 = .ok (.invokevirtual 51, 3) := dk_182 0 51 (dk_at dksX2_place_12 6 rfl rfl)
theorem dX2_place_285 : decode cX2_place 285 = .ok (.aload_n 0, 1) := dk_42 (dk_at dksX2_place_12 9 rfl rfl)
theorem dX2_place_286 : decode cX2_place 286 = .ok (.aload_n 0, 1) := dk_42 (dk_at dksX2_place_12 10 rfl rfl)
theorem dX2_place_287 : decode cX2_place 287 = .ok (.getfield 13, 3) := dk_180 0 13 (dk_at dksX2_place_12 11 rfl rfl)
theorem dX2_place_290 : decode cX2_place 290 = .ok (.iconst 2, 1) := dk_5 (dk_at dksX2_place_12 14 rfl rfl)
theorem dX2_place_291 : decode cX2_place 291 = .ok (.isub, 1) := dk_100 (dk_at dksX2_place_12 15 rfl rfl)
theorem dX2_place_292 : decode cX2_place 292 = .ok (.aload_n 0, 1) := dk_42 (dk_at dksX2_place_12 16 rfl rfl)
theorem dX2_place_293 : decode cX2_place 293 = .ok (.getfield 17, 3) := dk_180 0 17 (dk_at dksX2_place_12 17 rfl rfl)
theorem dX2_place_296 : decode cX2_place 296 = .ok (.iconst 2, 1) := dk_5 (dk_at dksX2_place_12 20 rfl rfl)
theorem dX2_place_297 : decode cX2_place 297 = .ok (.isub, 1) := dk_100 (dk_at dksX2_place_12 21 rfl rfl)
theorem dX2_place_298 : decode cX2_place 298 = .ok (.iconst 1, 1) := dk_4 (dk_at dksX2_place_12 22 rfl rfl)
theorem dX2_place_299 : decode cX2_place 299 = .ok (.invokevirtual 51, 3) := dk_182 0 51 (dk_at dksX2_place_13 0 rfl rfl)
theorem dX2_place_302 : decode cX2_place 302 = .ok (.return_, 1) := dk_177 (dk_at dksX2_place_13 3 rfl rfl)
abbrev cX2_corner1 : ByteArray := prog_1_method_8_code
def yX2_corner1 : MethodName := ⟨RX2, "corner1", "(I)V"⟩
def dkwX2_corner1_4 : List UInt8 := [42, 180, 0, 13, 4, 100, 27, 16, 8, 182, 0, 61, 177]
abbrev dktX2_corner1_4 : List UInt8 := dkwX2_corner1_4 ++ []
def dkwX2_corner1_3 : List UInt8 := [4, 100, 27, 16, 6, 182, 0, 61, 42, 5, 42, 180, 0, 13, 4, 100, 27, 16, 7, 182, 0, 61, 42, 6]
abbrev dktX2_corner1_3 : List UInt8 := dkwX2_corner1_3 ++ dktX2_corner1_4
def dkwX2_corner1_2 : List UInt8 := [27, 7, 182, 0, 61, 42, 3, 42, 180, 0, 13, 4, 100, 27, 8, 182, 0, 61, 42, 4, 42, 180, 0, 13]
abbrev dktX2_corner1_2 : List UInt8 := dkwX2_corner1_2 ++ dktX2_corner1_3
def dkwX2_corner1_1 : List UInt8 := [182, 0, 61, 42, 42, 180, 0, 17, 4, 100, 5, 27, 6, 182, 0, 61, 42, 3, 42, 180, 0, 13, 5, 100]
abbrev dktX2_corner1_1 : List UInt8 := dkwX2_corner1_1 ++ dktX2_corner1_2
def dkwX2_corner1_0 : List UInt8 := [42, 42, 180, 0, 17, 4, 100, 3, 27, 4, 182, 0, 61, 42, 42, 180, 0, 17, 4, 100, 4, 27, 5]
abbrev dktX2_corner1_0 : List UInt8 := dkwX2_corner1_0 ++ dktX2_corner1_1
theorem dksX2_corner1_0 : cX2_corner1.data.toList.drop 0 = dktX2_corner1_0 := by decide +kernel
theorem dksX2_corner1_1 : cX2_corner1.data.toList.drop 23 = dktX2_corner1_1 := dk_seg dksX2_corner1_0 23 rfl rfl
theorem dksX2_corner1_2 : cX2_corner1.data.toList.drop 47 = dktX2_corner1_2 := dk_seg dksX2_corner1_1 24 rfl rfl
theorem dksX2_corner1_3 : cX2_corner1.data.toList.drop 71 = dktX2_corner1_3 := dk_seg dksX2_corner1_2 24 rfl rfl
theorem dksX2_corner1_4 : cX2_corner1.data.toList.drop 95 = dktX2_corner1_4 := dk_seg dksX2_corner1_3 24 rfl rfl
theorem dX2_corner1_0 : decode cX2_corner1 0 = .ok (.aload_n 0, 1) := dk_42 (dk_at dksX2_corner1_0 0 rfl rfl)
theorem dX2_corner1_1 : decode cX2_corner1 1 = .ok (.aload_n 0, 1) := dk_42 (dk_at dksX2_corner1_0 1 rfl rfl)
theorem dX2_corner1_2 : decode cX2_corner1 2 = .ok (.getfield 17, 3) := dk_180 0 17 (dk_at dksX2_corner1_0 2 rfl rfl)
theorem dX2_corner1_5 : decode cX2_corner1 5 = .ok (.iconst 1, 1) := dk_4 (dk_at dksX2_corner1_0 5 rfl rfl)
theorem dX2_corner1_6 : decode cX2_corner1 6 = .ok (.isub, 1) := dk_100 (dk_at dksX2_corner1_0 6 rfl rfl)
theorem dX2_corner1_7 : decode cX2_corner1 7 = .ok (.iconst 0, 1) := dk_3 (dk_at dksX2_corner1_0 7 rfl rfl)
theorem dX2_corner1_8 : decode cX2_corner1 8 = .ok (.iload_n 1, 1) := dk_27 (dk_at dksX2_corner1_0 8 rfl rfl)
theorem dX2_corner1_9 : decode cX2_corner1 9 = .ok (.iconst 1, 1) := dk_4 (dk_at dksX2_corner1_0 9 rfl rfl)
theorem dX2_corner1_10 : decode cX2_corner1 10 = .ok (.invokevirtual 61, 3) := dk_182 0 61 (dk_at dksX2_corner1_0 10 rfl rfl)
theorem dX2_corner1_13 : decode cX2_corner1 13 = .ok (.aload_n 0, 1) := dk_42 (dk_at dksX2_corner1_0 13 rfl rfl)
theorem dX2_corner1_14 : decode cX2_corner1 14 = .ok (.aload_n 0, 1) := dk_42 (dk_at dksX2_corner1_0 14 rfl rfl)
theorem dX2_corner1_15 : decode cX2_corner1 15 = .ok (.getfield 17, 3) := dk_180 0 17 (dk_at dksX2_corner1_0 15 rfl rfl)
theorem dX2_corner1_18 : decode cX2_corner1 18 = .ok (.iconst 1, 1) := dk_4 (dk_at dksX2_corner1_0 18 rfl rfl)
theorem dX2_corner1_19 : decode cX2_corner1 19 = .ok (.isub, 1) := dk_100 (dk_at dksX2_corner1_0 19 rfl rfl)
theorem dX2_corner1_20 : decode cX2_corner1 20 = .ok (.iconst 1, 1) := dk_4 (dk_at dksX2_corner1_0 20 rfl rfl)
theorem dX2_corner1_21 : decode cX2_corner1 21 = .ok (.iload_n 1, 1) := dk_27 (dk_at dksX2_corner1_0 21 rfl rfl)
theorem dX2_corner1_22 : decode cX2_corner1 22 = .ok (.iconst 2, 1) := dk_5 (dk_at dksX2_corner1_0 22 rfl rfl)
theorem dX2_corner1_23 : decode cX2_corner1 23 = .ok (.invokevirtual 61, 3) := dk_182 0 61 (dk_at dksX2_corner1_1 0 rfl rfl)
theorem dX2_corner1_26 : decode cX2_corner1 26 = .ok (.aload_n 0, 1) := dk_42 (dk_at dksX2_corner1_1 3 rfl rfl)
theorem dX2_corner1_27 : decode cX2_corner1 27 = .ok (.aload_n 0, 1) := dk_42 (dk_at dksX2_corner1_1 4 rfl rfl)
theorem dX2_corner1_28 : decode cX2_corner1 28 = .ok (.getfield 17, 3) := dk_180 0 17 (dk_at dksX2_corner1_1 5 rfl rfl)
theorem dX2_corner1_31 : decode cX2_corner1 31 = .ok (.iconst 1, 1) := dk_4 (dk_at dksX2_corner1_1 8 rfl rfl)
theorem dX2_corner1_32 : decode cX2_corner1 32 = .ok (.isub, 1) := dk_100 (dk_at dksX2_corner1_1 9 rfl rfl)
theorem dX2_corner1_33 : decode cX2_corner1 33 = .ok (.iconst 2, 1) := dk_5 (dk_at dksX2_corner1_1 10 rfl rfl)
theorem dX2_corner1_34 : decode cX2_corner1 34 = .ok (.iload_n 1, 1) := dk_27 (dk_at dksX2_corner1_1 11 rfl rfl)
theorem dX2_corner1_35 : decode cX2_corner1 35 = .ok (.iconst 3, 1) := dk_6 (dk_at dksX2_corner1_1 12 rfl rfl)
theorem dX2_corner1_36 : decode cX2_corner1 36 = .ok (.invokevirtual 61, 3) := dk_182 0 61 (dk_at dksX2_corner1_1 13 rfl rfl)
theorem dX2_corner1_39 : decode cX2_corner1 39 = .ok (.aload_n 0, 1) := dk_42 (dk_at dksX2_corner1_1 16 rfl rfl)
theorem dX2_corner1_40 : decode cX2_corner1 40 = .ok (.iconst 0, 1) := dk_3 (dk_at dksX2_corner1_1 17 rfl rfl)
theorem dX2_corner1_41 : decode cX2_corner1 41 = .ok (.aload_n 0, 1) := dk_42 (dk_at dksX2_corner1_1 18 rfl rfl)
theorem dX2_corner1_42 : decode cX2_corner1 42 = .ok (.getfield 13, 3) := dk_180 0 13 (dk_at dksX2_corner1_1 19 rfl rfl)
theorem dX2_corner1_45 : decode cX2_corner1 45 = .ok (.iconst 2, 1) := dk_5 (dk_at dksX2_corner1_1 22 rfl rfl)
theorem dX2_corner1_46 : decode cX2_corner1 46 = .ok (.isub, 1) := dk_100 (dk_at dksX2_corner1_1 23 rfl rfl)
theorem dX2_corner1_47 : decode cX2_corner1 47 = .ok (.iload_n 1, 1) := dk_27 (dk_at dksX2_corner1_2 0 rfl rfl)
theorem dX2_corner1_48 : decode cX2_corner1 48 = .ok (.iconst 4, 1) := dk_7 (dk_at dksX2_corner1_2 1 rfl rfl)
theorem dX2_corner1_49 : decode cX2_corner1 49 = .ok (.invokevirtual 61, 3) := dk_182 0 61 (dk_at dksX2_corner1_2 2 rfl rfl)
theorem dX2_corner1_52 : decode cX2_corner1 52 = .ok (.aload_n 0, 1) := dk_42 (dk_at dksX2_corner1_2 5 rfl rfl)
theorem dX2_corner1_53 : decode cX2_corner1 53 = .ok (.iconst 0, 1) := dk_3 (dk_at dksX2_corner1_2 6 rfl rfl)
theorem dX2_corner1_54 : decode cX2_corner1 54 = .ok (.aload_n 0, 1) := dk_42 (dk_at dksX2_corner1_2 7 rfl rfl)
theorem dX2_corner1_55 : decode cX2_corner1 55 = .ok (.getfield 13, 3) := dk_180 0 13 (dk_at dksX2_corner1_2 8 rfl rfl)
theorem dX2_corner1_58 : decode cX2_corner1 58 = .ok (.iconst 1, 1) := dk_4 (dk_at dksX2_corner1_2 11 rfl rfl)
theorem dX2_corner1_59 : decode cX2_corner1 59 = .ok (.isub, 1) := dk_100 (dk_at dksX2_corner1_2 12 rfl rfl)
theorem dX2_corner1_60 : decode cX2_corner1 60 = .ok (.iload_n 1, 1) := dk_27 (dk_at dksX2_corner1_2 13 rfl rfl)
theorem dX2_corner1_61 : decode cX2_corner1 61 = .ok (.iconst 5, 1) := dk_8 (dk_at dksX2_corner1_2 14 rfl rfl)
theorem dX2_corner1_62 : decode cX2_corner1 62 = .ok (.invokevirtual 61, 3) := dk_182 0 61 (dk_at dksX2_corner1_2 15 rfl rfl)
theorem dX2_corner1_65 : decode cX2_corner1 65 = .ok (.aload_n 0, 1) := dk_42 (dk_at dksX2_corner1_2 18 rfl rfl)
theorem dX2_corner1_66 : decode cX2_corner1 66 = .ok (.iconst 1, 1) := dk_4 (dk_at dksX2_corner1_2 19 rfl rfl)
theorem dX2_corner1_67 : decode cX2_corner1 67 = .ok (.aload_n 0, 1) := dk_42 (dk_at dksX2_corner1_2 20 rfl rfl)
theorem dX2_corner1_68 : decode cX2_corner1 68 = .ok (.getfield 13, 3) := dk_180 0 13 (dk_at dksX2_corner1_2 21 rfl rfl)
theorem dX2_corner1_71 : decode cX2_corner1 71 = .ok (.iconst 1, 1) := dk_4 (dk_at dksX2_corner1_3 0 rfl rfl)
theorem dX2_corner1_72 : decode cX2_corner1 72 = .ok (.isub, 1) := dk_100 (dk_at dksX2_corner1_3 1 rfl rfl)
theorem dX2_corner1_73 : decode cX2_corner1 73 = .ok (.iload_n 1, 1) := dk_27 (dk_at dksX2_corner1_3 2 rfl rfl)
theorem dX2_corner1_74 : decode cX2_corner1 74 = .ok (.bipush 6, 2) := dk_16 6 (dk_at dksX2_corner1_3 3 rfl rfl)
theorem dX2_corner1_76 : decode cX2_corner1 76 = .ok (.invokevirtual 61, 3) := dk_182 0 61 (dk_at dksX2_corner1_3 5 rfl rfl)
theorem dX2_corner1_79 : decode cX2_corner1 79 = .ok (.aload_n 0, 1) := dk_42 (dk_at dksX2_corner1_3 8 rfl rfl)
theorem dX2_corner1_80 : decode cX2_corner1 80 = .ok (.iconst 2, 1) := dk_5 (dk_at dksX2_corner1_3 9 rfl rfl)
theorem dX2_corner1_81 : decode cX2_corner1 81 = .ok (.aload_n 0, 1) := dk_42 (dk_at dksX2_corner1_3 10 rfl rfl)
theorem dX2_corner1_82 : decode cX2_corner1 82 = .ok (.getfield 13, 3) := dk_180 0 13 (dk_at dksX2_corner1_3 11 rfl rfl)
theorem dX2_corner1_85 : decode cX2_corner1 85 = .ok (.iconst 1, 1) := dk_4 (dk_at dksX2_corner1_3 14 rfl rfl)
theorem dX2_corner1_86 : decode cX2_corner1 86 = .ok (.isub, 1) := dk_100 (dk_at dksX2_corner1_3 15 rfl rfl)
theorem dX2_corner1_87 : decode cX2_corner1 87 = .ok (.iload_n 1, 1) := dk_27 (dk_at dksX2_corner1_3 16 rfl rfl)
theorem dX2_corner1_88 : decode cX2_corner1 88 = .ok (.bipush 7, 2) := dk_16 7 (dk_at dksX2_corner1_3 17 rfl rfl)
theorem dX2_corner1_90 : decode cX2_corner1 90 = .ok (.invokevirtual 61, 3) := dk_182 0 61 (dk_at dksX2_corner1_3 19 rfl rfl)
theorem dX2_corner1_93 : decode cX2_corner1 93 = .ok (.aload_n 0, 1) := dk_42 (dk_at dksX2_corner1_3 22 rfl rfl)
theorem dX2_corner1_94 : decode cX2_corner1 94 = .ok (.iconst 3, 1) := dk_6 (dk_at dksX2_corner1_3 23 rfl rfl)
theorem dX2_corner1_95 : decode cX2_corner1 95 = .ok (.aload_n 0, 1) := dk_42 (dk_at dksX2_corner1_4 0 rfl rfl)
theorem dX2_corner1_96 : decode cX2_corner1 96 = .ok (.getfield 13, 3) := dk_180 0 13 (dk_at dksX2_corner1_4 1 rfl rfl)
theorem dX2_corner1_99 : decode cX2_corner1 99 = .ok (.iconst 1, 1) := dk_4 (dk_at dksX2_corner1_4 4 rfl rfl)
theorem dX2_corner1_100 : decode cX2_corner1 100 = .ok (.isub, 1) := dk_100 (dk_at dksX2_corner1_4 5 rfl rfl)
theorem dX2_corner1_101 : decode cX2_corner1 101 = .ok (.iload_n 1, 1) := dk_27 (dk_at dksX2_corner1_4 6 rfl rfl)
theorem dX2_corner1_102 : decode cX2_corner1 102 = .ok (.bipush 8, 2) := dk_16 8 (dk_at dksX2_corner1_4 7 rfl rfl)
theorem dX2_corner1_104 : decode cX2_corner1 104 = .ok (.invokevirtual 61, 3) := dk_182 0 61 (dk_at dksX2_corner1_4 9 rfl rfl)
theorem dX2_corner1_107 : decode cX2_corner1 107 = .ok (.return_, 1) := dk_177 (dk_at dksX2_corner1_4 12 rfl rfl)
abbrev cX2_module : ByteArray := prog_1_method_6_code
def yX2_module : MethodName := ⟨RX2, "module", "(IIII)V"⟩
def dkwX2_module_3 : List UInt8 := [54, 5, 42, 28, 27, 21, 5, 153, 0, 7, 4, 167, 0, 4, 3, 182, 0, 51, 177]
abbrev dktX2_module_3 : List UInt8 := dkwX2_module_3 ++ []
def dkwX2_module_2 : List UInt8 := [96, 60, 42, 180, 0, 7, 29, 185, 0, 55, 2, 0, 54, 5, 21, 5, 4, 16, 8, 21, 4, 100, 120, 126]
abbrev dktX2_module_2 : List UInt8 := dkwX2_module_2 ++ dktX2_module_3
def dkwX2_module_1 : List UInt8 := [61, 28, 156, 0, 24, 28, 42, 180, 0, 13, 96, 61, 27, 7, 42, 180, 0, 13, 7, 96, 16, 8, 112, 100]
abbrev dktX2_module_1 : List UInt8 := dkwX2_module_1 ++ dktX2_module_2
def dkwX2_module_0 : List UInt8 := [27, 156, 0, 24, 27, 42, 180, 0, 17, 96, 60, 28, 7, 42, 180, 0, 17, 7, 96, 16, 8, 112, 100, 96]
abbrev dktX2_module_0 : List UInt8 := dkwX2_module_0 ++ dktX2_module_1
theorem dksX2_module_0 : cX2_module.data.toList.drop 0 = dktX2_module_0 := by decide +kernel
theorem dksX2_module_1 : cX2_module.data.toList.drop 24 = dktX2_module_1 := dk_seg dksX2_module_0 24 rfl rfl
theorem dksX2_module_2 : cX2_module.data.toList.drop 48 = dktX2_module_2 := dk_seg dksX2_module_1 24 rfl rfl
theorem dksX2_module_3 : cX2_module.data.toList.drop 72 = dktX2_module_3 := dk_seg dksX2_module_2 24 rfl rfl
theorem dX2_module_0 : decode cX2_module 0 = .ok (.iload_n 1, 1) := dk_27 (dk_at dksX2_module_0 0 rfl rfl)
theorem dX2_module_1 : decode cX2_module 1 = .ok (.ifCond .ge 24, 3) := dk_156 0 24 (dk_at dksX2_module_0 1 rfl rfl)
theorem dX2_module_4 : decode cX2_module 4 = .ok (.iload_n 1, 1) := dk_27 (dk_at dksX2_module_0 4 rfl rfl)
theorem dX2_module_5 : decode cX2_module 5 = .ok (.aload_n 0, 1) := dk_42 (dk_at dksX2_module_0 5 rfl rfl)
theorem dX2_module_6 : decode cX2_module 6 = .ok (.getfield 17, 3) := dk_180 0 17 (dk_at dksX2_module_0 6 rfl rfl)
theorem dX2_module_9 : decode cX2_module 9 = .ok (.iadd, 1) := dk_96 (dk_at dksX2_module_0 9 rfl rfl)
theorem dX2_module_10 : decode cX2_module 10 = .ok (.istore_n 1, 1) := dk_60 (dk_at dksX2_module_0 10 rfl rfl)
theorem dX2_module_11 : decode cX2_module 11 = .ok (.iload_n 2, 1) := dk_28 (dk_at dksX2_module_0 11 rfl rfl)
theorem dX2_module_12 : decode cX2_module 12 = .ok (.iconst 4, 1) := dk_7 (dk_at dksX2_module_0 12 rfl rfl)
theorem dX2_module_13 : decode cX2_module 13 = .ok (.aload_n 0, 1) := dk_42 (dk_at dksX2_module_0 13 rfl rfl)
theorem dX2_module_14 : decode cX2_module 14 = .ok (.getfield 17, 3) := dk_180 0 17 (dk_at dksX2_module_0 14 rfl rfl)
theorem dX2_module_17 : decode cX2_module 17 = .ok (.iconst 4, 1) := dk_7 (dk_at dksX2_module_0 17 rfl rfl)
theorem dX2_module_18 : decode cX2_module 18 = .ok (.iadd, 1) := dk_96 (dk_at dksX2_module_0 18 rfl rfl)
theorem dX2_module_19 : decode cX2_module 19 = .ok (.bipush 8, 2) := dk_16 8 (dk_at dksX2_module_0 19 rfl rfl)
theorem dX2_module_21 : decode cX2_module 21 = .ok (.irem, 1) := dk_112 (dk_at dksX2_module_0 21 rfl rfl)
theorem dX2_module_22 : decode cX2_module 22 = .ok (.isub, 1) := dk_100 (dk_at dksX2_module_0 22 rfl rfl)
theorem dX2_module_23 : decode cX2_module 23 = .ok (.iadd, 1) := dk_96 (dk_at dksX2_module_0 23 rfl rfl)
theorem dX2_module_24 : decode cX2_module 24 = .ok (.istore_n 2, 1) := dk_61 (dk_at dksX2_module_1 0 rfl rfl)
theorem dX2_module_25 : decode cX2_module 25 = .ok (.iload_n 2, 1) := dk_28 (dk_at dksX2_module_1 1 rfl rfl)
theorem dX2_module_26 : decode cX2_module 26 = .ok (.ifCond .ge 24, 3) := dk_156 0 24 (dk_at dksX2_module_1 2 rfl rfl)
theorem dX2_module_29 : decode cX2_module 29 = .ok (.iload_n 2, 1) := dk_28 (dk_at dksX2_module_1 5 rfl rfl)
theorem dX2_module_30 : decode cX2_module 30 = .ok (.aload_n 0, 1) := dk_42 (dk_at dksX2_module_1 6 rfl rfl)
theorem dX2_module_31 : decode cX2_module 31 = .ok (.getfield 13, 3) := dk_180 0 13 (dk_at dksX2_module_1 7 rfl rfl)
theorem dX2_module_34 : decode cX2_module 34 = .ok (.iadd, 1) := dk_96 (dk_at dksX2_module_1 10 rfl rfl)
theorem dX2_module_35 : decode cX2_module 35 = .ok (.istore_n 2, 1) := dk_61 (dk_at dksX2_module_1 11 rfl rfl)
theorem dX2_module_36 : decode cX2_module 36 = .ok (.iload_n 1, 1) := dk_27 (dk_at dksX2_module_1 12 rfl rfl)
theorem dX2_module_37 : decode cX2_module 37 = .ok (.iconst 4, 1) := dk_7 (dk_at dksX2_module_1 13 rfl rfl)
theorem dX2_module_38 : decode cX2_module 38 = .ok (.aload_n 0, 1) := dk_42 (dk_at dksX2_module_1 14 rfl rfl)
theorem dX2_module_39 : decode cX2_module 39 = .ok (.getfield 13, 3) := dk_180 0 13 (dk_at dksX2_module_1 15 rfl rfl)
theorem dX2_module_42 : decode cX2_module 42 = .ok (.iconst 4, 1) := dk_7 (dk_at dksX2_module_1 18 rfl rfl)
theorem dX2_module_43 : decode cX2_module 43 = .ok (.iadd, 1) := dk_96 (dk_at dksX2_module_1 19 rfl rfl)
theorem dX2_module_44 : decode cX2_module 44 = .ok (.bipush 8, 2) := dk_16 8 (dk_at dksX2_module_1 20 rfl rfl)
theorem dX2_module_46 : decode cX2_module 46 = .ok (.irem, 1) := dk_112 (dk_at dksX2_module_1 22 rfl rfl)
theorem dX2_module_47 : decode cX2_module 47 = .ok (.isub, 1) := dk_100 (dk_at dksX2_module_1 23 rfl rfl)
theorem dX2_module_48 : decode cX2_module 48 = .ok (.iadd, 1) := dk_96 (dk_at dksX2_module_2 0 rfl rfl)
theorem dX2_module_49 : decode cX2_module 49 = .ok (.istore_n 1, 1) := dk_60 (dk_at dksX2_module_2 1 rfl rfl)
theorem dX2_module_50 : decode cX2_module 50 = .ok (.aload_n 0, 1) := dk_42 (dk_at dksX2_module_2 2 rfl rfl)
theorem dX2_module_51 : decode cX2_module 51 = .ok (.getfield 7, 3) := dk_180 0 7 (dk_at dksX2_module_2 3 rfl rfl)
theorem dX2_module_54 : decode cX2_module 54 = .ok (.iload_n 3, 1) := dk_29 (dk_at dksX2_module_2 6 rfl rfl)
theorem dX2_module_55 : decode cX2_module 55 = .ok (.invokeinterface 55 2, 5) := by decide +kernel
theorem dX2_module_60 : decode cX2_module 60 = .ok (.istore 5, 2) := dk_54 5 (dk_at dksX2_module_2 12 rfl rfl)
theorem dX2_module_62 : decode cX2_module 62 = .ok (.iload 5, 2) := dk_21 5 (dk_at dksX2_module_2 14 rfl rfl)
theorem dX2_module_64 : decode cX2_module 64 = .ok (.iconst 1, 1) := dk_4 (dk_at dksX2_module_2 16 rfl rfl)
theorem dX2_module_65 : decode cX2_module 65 = .ok (.bipush 8, 2) := dk_16 8 (dk_at dksX2_module_2 17 rfl rfl)
theorem dX2_module_67 : decode cX2_module 67 = .ok (.iload 4, 2) := dk_21 4 (dk_at dksX2_module_2 19 rfl rfl)
theorem dX2_module_69 : decode cX2_module 69 = .ok (.isub, 1) := dk_100 (dk_at dksX2_module_2 21 rfl rfl)
theorem dX2_module_70 : decode cX2_module 70 = .ok (.ishl, 1) := dk_120 (dk_at dksX2_module_2 22 rfl rfl)
theorem dX2_module_71 : decode cX2_module 71 = .ok (.iand, 1) := dk_126 (dk_at dksX2_module_2 23 rfl rfl)
theorem dX2_module_72 : decode cX2_module 72 = .ok (.istore 5, 2) := dk_54 5 (dk_at dksX2_module_3 0 rfl rfl)
theorem dX2_module_74 : decode cX2_module 74 = .ok (.aload_n 0, 1) := dk_42 (dk_at dksX2_module_3 2 rfl rfl)
theorem dX2_module_75 : decode cX2_module 75 = .ok (.iload_n 2, 1) := dk_28 (dk_at dksX2_module_3 3 rfl rfl)
theorem dX2_module_76 : decode cX2_module 76 = .ok (.iload_n 1, 1) := dk_27 (dk_at dksX2_module_3 4 rfl rfl)
theorem dX2_module_77 : decode cX2_module 77 = .ok (.iload 5, 2) := dk_21 5 (dk_at dksX2_module_3 5 rfl rfl)
theorem dX2_module_79 : decode cX2_module 79 = .ok (.ifCond .eq 7, 3) := dk_153 0 7 (dk_at dksX2_module_3 7 rfl rfl)
theorem dX2_module_82 : decode cX2_module 82 = .ok (.iconst 1, 1) := dk_4 (dk_at dksX2_module_3 10 rfl rfl)
theorem dX2_module_83 : decode cX2_module 83 = .ok (.goto 4, 3) := dk_167 0 4 (dk_at dksX2_module_3 11 rfl rfl)
theorem dX2_module_86 : decode cX2_module 86 = .ok (.iconst 0, 1) := dk_3 (dk_at dksX2_module_3 14 rfl rfl)
theorem dX2_module_87 : decode cX2_module 87 = .ok (.invokevirtual 51, 3) := dk_182 0 51 (dk_at dksX2_module_3 15 rfl rfl)
theorem dX2_module_90 : decode cX2_module 90 = .ok (.return_, 1) := dk_177 (dk_at dksX2_module_3 18 rfl rfl)
abbrev cX2_setBit : ByteArray := prog_1_method_3_code
def yX2_setBit : MethodName := ⟨RX2, "setBit", "(IIZ)V"⟩
def dkwX2_setBit_0 : List UInt8 := [42, 180, 0, 20, 28, 42, 180, 0, 13, 104, 27, 96, 29, 153, 0, 7, 4, 167, 0, 4, 3, 145, 84, 177]
abbrev dktX2_setBit_0 : List UInt8 := dkwX2_setBit_0 ++ []
theorem dksX2_setBit_0 : cX2_setBit.data.toList.drop 0 = dktX2_setBit_0 := by decide +kernel
theorem dX2_setBit_0 : decode cX2_setBit 0 = .ok (.aload_n 0, 1) := dk_42 (dk_at dksX2_setBit_0 0 rfl rfl)
theorem dX2_setBit_1 : decode cX2_setBit 1 = .ok (.getfield 20, 3) := dk_180 0 20 (dk_at dksX2_setBit_0 1 rfl rfl)
theorem dX2_setBit_4 : decode cX2_setBit 4 = .ok (.iload_n 2, 1) := dk_28 (dk_at dksX2_setBit_0 4 rfl rfl)
theorem dX2_setBit_5 : decode cX2_setBit 5 = .ok (.aload_n 0, 1) := dk_42 (dk_at dksX2_setBit_0 5 rfl rfl)
theorem dX2_setBit_6 : decode cX2_setBit 6 = .ok (.getfield 13, 3) := dk_180 0 13 (dk_at dksX2_setBit_0 6 rfl rfl)
theorem dX2_setBit_9 : decode cX2_setBit 9 = .ok (.imul, 1) := dk_104 (dk_at dksX2_setBit_0 9 rfl rfl)
theorem dX2_setBit_10 : decode cX2_setBit 10 = .ok (.iload_n 1, 1) := dk_27 (dk_at dksX2_setBit_0 10 rfl rfl)
theorem dX2_setBit_11 : decode cX2_setBit 11 = .ok (.iadd, 1) := dk_96 (dk_at dksX2_setBit_0 11 rfl rfl)
theorem dX2_setBit_12 : decode cX2_setBit 12 = .ok (.iload_n 3, 1) := dk_29 (dk_at dksX2_setBit_0 12 rfl rfl)
theorem dX2_setBit_13 : decode cX2_setBit 13 = .ok (.ifCond .eq 7, 3) := dk_153 0 7 (dk_at dksX2_setBit_0 13 rfl rfl)
theorem dX2_setBit_16 : decode cX2_setBit 16 = .ok (.iconst 1, 1) := dk_4 (dk_at dksX2_setBit_0 16 rfl rfl)
theorem dX2_setBit_17 : decode cX2_setBit 17 = .ok (.goto 4, 3) := dk_167 0 4 (dk_at dksX2_setBit_0 17 rfl rfl)
theorem dX2_setBit_20 : decode cX2_setBit 20 = .ok (.iconst 0, 1) := dk_3 (dk_at dksX2_setBit_0 20 rfl rfl)
theorem dX2_setBit_21 : decode cX2_setBit 21 = .ok (.i2b, 1) := dk_145 (dk_at dksX2_setBit_0 21 rfl rfl)
theorem dX2_setBit_22 : decode cX2_setBit 22 = .ok (.bastore, 1) := dk_84 (dk_at dksX2_setBit_0 22 rfl rfl)
theorem dX2_setBit_23 : decode cX2_setBit 23 = .ok (.return_, 1) := dk_177 (dk_at dksX2_setBit_0 23 rfl rfl)
abbrev cX2_corner2 : ByteArray := prog_1_method_9_code
def yX2_corner2 : MethodName := ⟨RX2, "corner2", "(I)V"⟩
def dkwX2_corner2_4 : List UInt8 := [42, 180, 0, 13, 4, 100, 27, 16, 8, 182, 0, 61, 177]
abbrev dktX2_corner2_4 : List UInt8 := dkwX2_corner2_4 ++ []
def dkwX2_corner2_3 : List UInt8 := [5, 100, 27, 16, 6, 182, 0, 61, 42, 3, 42, 180, 0, 13, 4, 100, 27, 16, 7, 182, 0, 61, 42, 4]
abbrev dktX2_corner2_3 : List UInt8 := dkwX2_corner2_3 ++ dktX2_corner2_4
def dkwX2_corner2_2 : List UInt8 := [27, 7, 182, 0, 61, 42, 3, 42, 180, 0, 13, 6, 100, 27, 8, 182, 0, 61, 42, 3, 42, 180, 0, 13]
abbrev dktX2_corner2_2 : List UInt8 := dkwX2_corner2_2 ++ dktX2_corner2_3
def dkwX2_corner2_1 : List UInt8 := [182, 0, 61, 42, 42, 180, 0, 17, 4, 100, 3, 27, 6, 182, 0, 61, 42, 3, 42, 180, 0, 13, 7, 100]
abbrev dktX2_corner2_1 : List UInt8 := dkwX2_corner2_1 ++ dktX2_corner2_2
def dkwX2_corner2_0 : List UInt8 := [42, 42, 180, 0, 17, 6, 100, 3, 27, 4, 182, 0, 61, 42, 42, 180, 0, 17, 5, 100, 3, 27, 5]
abbrev dktX2_corner2_0 : List UInt8 := dkwX2_corner2_0 ++ dktX2_corner2_1
theorem dksX2_corner2_0 : cX2_corner2.data.toList.drop 0 = dktX2_corner2_0 := by decide +kernel
theorem dksX2_corner2_1 : cX2_corner2.data.toList.drop 23 = dktX2_corner2_1 := dk_seg dksX2_corner2_0 23 rfl rfl
theorem dksX2_corner2_2 : cX2_corner2.data.toList.drop 47 = dktX2_corner2_2 := dk_seg dksX2_corner2_1 24 rfl rfl
theorem dksX2_corner2_3 : cX2_corner2.data.toList.drop 71 = dktX2_corner2_3 := dk_seg dksX2_corner2_2 24 rfl rfl
theorem dksX2_corner2_4 : cX2_corner2.data.toList.drop 95 = dktX2_corner2_4 := dk_seg dksX2_corner2_3 24 rfl rfl
theorem dX2_corner2_0 : decode cX2_corner2 0 = .ok (.aload_n 0, 1) := dk_42 (dk_at dksX2_corner2_0 0 rfl rfl)
theorem dX2_corner2_1 : decode cX2_corner2 1 = .ok (.aload_n 0, 1) := dk_42 (dk_at dksX2_corner2_0 1 rfl rfl)
theorem dX2_corner2_2 : decode cX2_corner2 2 = .ok (.getfield 17, 3) := dk_180 0 17 (dk_at dksX2_corner2_0 2 rfl rfl)
theorem dX2_corner2_5 : decode cX2_corner2 5 = .ok (.iconst 3, 1) := dk_6 (dk_at dksX2_corner2_0 5 rfl rfl)
theorem dX2_corner2_6 : decode cX2_corner2 6 = .ok (.isub, 1) := dk_100 (dk_at dksX2_corner2_0 6 rfl rfl)
theorem dX2_corner2_7 : decode cX2_corner2 7 = .ok (.iconst 0, 1) := dk_3 (dk_at dksX2_corner2_0 7 rfl rfl)
theorem dX2_corner2_8 : decode cX2_corner2 8 = .ok (.iload_n 1, 1) := dk_27 (dk_at dksX2_corner2_0 8 rfl rfl)
theorem dX2_corner2_9 : decode cX2_corner2 9 = .ok (.iconst 1, 1) := dk_4 (dk_at dksX2_corner2_0 9 rfl rfl)
theorem dX2_corner2_10 : decode cX2_corner2 10 = .ok (.invokevirtual 61, 3) := dk_182 0 61 (dk_at dksX2_corner2_0 10 rfl rfl)
theorem dX2_corner2_13 : decode cX2_corner2 13 = .ok (.aload_n 0, 1) := dk_42 (dk_at dksX2_corner2_0 13 rfl rfl)
theorem dX2_corner2_14 : decode cX2_corner2 14 = .ok (.aload_n 0, 1) := dk_42 (dk_at dksX2_corner2_0 14 rfl rfl)
theorem dX2_corner2_15 : decode cX2_corner2 15 = .ok (.getfield 17, 3) := dk_180 0 17 (dk_at dksX2_corner2_0 15 rfl rfl)
theorem dX2_corner2_18 : decode cX2_corner2 18 = .ok (.iconst 2, 1) := dk_5 (dk_at dksX2_corner2_0 18 rfl rfl)
theorem dX2_corner2_19 : decode cX2_corner2 19 = .ok (.isub, 1) := dk_100 (dk_at dksX2_corner2_0 19 rfl rfl)
theorem dX2_corner2_20 : decode cX2_corner2 20 = .ok (.iconst 0, 1) := dk_3 (dk_at dksX2_corner2_0 20 rfl rfl)
theorem dX2_corner2_21 : decode cX2_corner2 21 = .ok (.iload_n 1, 1) := dk_27 (dk_at dksX2_corner2_0 21 rfl rfl)
theorem dX2_corner2_22 : decode cX2_corner2 22 = .ok (.iconst 2, 1) := dk_5 (dk_at dksX2_corner2_0 22 rfl rfl)
theorem dX2_corner2_23 : decode cX2_corner2 23 = .ok (.invokevirtual 61, 3) := dk_182 0 61 (dk_at dksX2_corner2_1 0 rfl rfl)
theorem dX2_corner2_26 : decode cX2_corner2 26 = .ok (.aload_n 0, 1) := dk_42 (dk_at dksX2_corner2_1 3 rfl rfl)
theorem dX2_corner2_27 : decode cX2_corner2 27 = .ok (.aload_n 0, 1) := dk_42 (dk_at dksX2_corner2_1 4 rfl rfl)
theorem dX2_corner2_28 : decode cX2_corner2 28 = .ok (.getfield 17, 3) := dk_180 0 17 (dk_at dksX2_corner2_1 5 rfl rfl)
theorem dX2_corner2_31 : decode cX2_corner2 31 = .ok (.iconst 1, 1) := dk_4 (dk_at dksX2_corner2_1 8 rfl rfl)
theorem dX2_corner2_32 : decode cX2_corner2 32 = .ok (.isub, 1) := dk_100 (dk_at dksX2_corner2_1 9 rfl rfl)
theorem dX2_corner2_33 : decode cX2_corner2 33 = .ok (.iconst 0, 1) := dk_3 (dk_at dksX2_corner2_1 10 rfl rfl)
theorem dX2_corner2_34 : decode cX2_corner2 34 = .ok (.iload_n 1, 1) := dk_27 (dk_at dksX2_corner2_1 11 rfl rfl)
theorem dX2_corner2_35 : decode cX2_corner2 35 = .ok (.iconst 3, 1) := dk_6 (dk_at dksX2_corner2_1 12 rfl rfl)
theorem dX2_corner2_36 : decode cX2_corner2 36 = .ok (.invokevirtual 61, 3) := dk_182 0 61 (dk_at dksX2_corner2_1 13 rfl rfl)
theorem dX2_corner2_39 : decode cX2_corner2 39 = .ok (.aload_n 0, 1) := dk_42 (dk_at dksX2_corner2_1 16 rfl rfl)
theorem dX2_corner2_40 : decode cX2_corner2 40 = .ok (.iconst 0, 1) := dk_3 (dk_at dksX2_corner2_1 17 rfl rfl)
theorem dX2_corner2_41 : decode cX2_corner2 41 = .ok (.aload_n 0, 1) := dk_42 (dk_at dksX2_corner2_1 18 rfl rfl)
theorem dX2_corner2_42 : decode cX2_corner2 42 = .ok (.getfield 13, 3) := dk_180 0 13 (dk_at dksX2_corner2_1 19 rfl rfl)
theorem dX2_corner2_45 : decode cX2_corner2 45 = .ok (.iconst 4, 1) := dk_7 (dk_at dksX2_corner2_1 22 rfl rfl)
theorem dX2_corner2_46 : decode cX2_corner2 46 = .ok (.isub, 1) := dk_100 (dk_at dksX2_corner2_1 23 rfl rfl)
theorem dX2_corner2_47 : decode cX2_corner2 47 = .ok (.iload_n 1, 1) := dk_27 (dk_at dksX2_corner2_2 0 rfl rfl)
theorem dX2_corner2_48 : decode cX2_corner2 48 = .ok (.iconst 4, 1) := dk_7 (dk_at dksX2_corner2_2 1 rfl rfl)
theorem dX2_corner2_49 : decode cX2_corner2 49 = .ok (.invokevirtual 61, 3) := dk_182 0 61 (dk_at dksX2_corner2_2 2 rfl rfl)
theorem dX2_corner2_52 : decode cX2_corner2 52 = .ok (.aload_n 0, 1) := dk_42 (dk_at dksX2_corner2_2 5 rfl rfl)
theorem dX2_corner2_53 : decode cX2_corner2 53 = .ok (.iconst 0, 1) := dk_3 (dk_at dksX2_corner2_2 6 rfl rfl)
theorem dX2_corner2_54 : decode cX2_corner2 54 = .ok (.aload_n 0, 1) := dk_42 (dk_at dksX2_corner2_2 7 rfl rfl)
theorem dX2_corner2_55 : decode cX2_corner2 55 = .ok (.getfield 13, 3) := dk_180 0 13 (dk_at dksX2_corner2_2 8 rfl rfl)
theorem dX2_corner2_58 : decode cX2_corner2 58 = .ok (.iconst 3, 1) := dk_6 (dk_at dksX2_corner2_2 11 rfl rfl)
theorem dX2_corner2_59 : decode cX2_corner2 59 = .ok (.isub, 1) := dk_100 (dk_at dksX2_corner2_2 12 rfl rfl)
theorem dX2_corner2_60 : decode cX2_corner2 60 = .ok (.iload_n 1, 1) := dk_27 (dk_at dksX2_corner2_2 13 rfl rfl)
theorem dX2_corner2_61 : decode cX2_corner2 61 = .ok (.iconst 5, 1) := dk_8 (dk_at dksX2_corner2_2 14 rfl rfl)
theorem dX2_corner2_62 : decode cX2_corner2 62 = .ok (.invokevirtual 61, 3) := dk_182 0 61 (dk_at dksX2_corner2_2 15 rfl rfl)
theorem dX2_corner2_65 : decode cX2_corner2 65 = .ok (.aload_n 0, 1) := dk_42 (dk_at dksX2_corner2_2 18 rfl rfl)
theorem dX2_corner2_66 : decode cX2_corner2 66 = .ok (.iconst 0, 1) := dk_3 (dk_at dksX2_corner2_2 19 rfl rfl)
theorem dX2_corner2_67 : decode cX2_corner2 67 = .ok (.aload_n 0, 1) := dk_42 (dk_at dksX2_corner2_2 20 rfl rfl)
theorem dX2_corner2_68 : decode cX2_corner2 68 = .ok (.getfield 13, 3) := dk_180 0 13 (dk_at dksX2_corner2_2 21 rfl rfl)
theorem dX2_corner2_71 : decode cX2_corner2 71 = .ok (.iconst 2, 1) := dk_5 (dk_at dksX2_corner2_3 0 rfl rfl)
theorem dX2_corner2_72 : decode cX2_corner2 72 = .ok (.isub, 1) := dk_100 (dk_at dksX2_corner2_3 1 rfl rfl)
theorem dX2_corner2_73 : decode cX2_corner2 73 = .ok (.iload_n 1, 1) := dk_27 (dk_at dksX2_corner2_3 2 rfl rfl)
theorem dX2_corner2_74 : decode cX2_corner2 74 = .ok (.bipush 6, 2) := dk_16 6 (dk_at dksX2_corner2_3 3 rfl rfl)
theorem dX2_corner2_76 : decode cX2_corner2 76 = .ok (.invokevirtual 61, 3) := dk_182 0 61 (dk_at dksX2_corner2_3 5 rfl rfl)
theorem dX2_corner2_79 : decode cX2_corner2 79 = .ok (.aload_n 0, 1) := dk_42 (dk_at dksX2_corner2_3 8 rfl rfl)
theorem dX2_corner2_80 : decode cX2_corner2 80 = .ok (.iconst 0, 1) := dk_3 (dk_at dksX2_corner2_3 9 rfl rfl)
theorem dX2_corner2_81 : decode cX2_corner2 81 = .ok (.aload_n 0, 1) := dk_42 (dk_at dksX2_corner2_3 10 rfl rfl)
theorem dX2_corner2_82 : decode cX2_corner2 82 = .ok (.getfield 13, 3) := dk_180 0 13 (dk_at dksX2_corner2_3 11 rfl rfl)
theorem dX2_corner2_85 : decode cX2_corner2 85 = .ok (.iconst 1, 1) := dk_4 (dk_at dksX2_corner2_3 14 rfl rfl)
theorem dX2_corner2_86 : decode cX2_corner2 86 = .ok (.isub, 1) := dk_100 (dk_at dksX2_corner2_3 15 rfl rfl)
theorem dX2_corner2_87 : decode cX2_corner2 87 = .ok (.iload_n 1, 1) := dk_27 (dk_at dksX2_corner2_3 16 rfl rfl)
theorem dX2_corner2_88 : decode cX2_corner2 88 = .ok (.bipush 7, 2) := dk_16 7 (dk_at dksX2_corner2_3 17 rfl rfl)
theorem dX2_corner2_90 : decode cX2_corner2 90 = .ok (.invokevirtual 61, 3) := dk_182 0 61 (dk_at dksX2_corner2_3 19 rfl rfl)
theorem dX2_corner2_93 : decode cX2_corner2 93 = .ok (.aload_n 0, 1) := dk_42 (dk_at dksX2_corner2_3 22 rfl rfl)
theorem dX2_corner2_94 : decode cX2_corner2 94 = .ok (.iconst 1, 1) := dk_4 (dk_at dksX2_corner2_3 23 rfl rfl)
theorem dX2_corner2_95 : decode cX2_corner2 95 = .ok (.aload_n 0, 1) := dk_42 (dk_at dksX2_corner2_4 0 rfl rfl)
theorem dX2_corner2_96 : decode cX2_corner2 96 = .ok (.getfield 13, 3) := dk_180 0 13 (dk_at dksX2_corner2_4 1 rfl rfl)
theorem dX2_corner2_99 : decode cX2_corner2 99 = .ok (.iconst 1, 1) := dk_4 (dk_at dksX2_corner2_4 4 rfl rfl)
theorem dX2_corner2_100 : decode cX2_corner2 100 = .ok (.isub, 1) := dk_100 (dk_at dksX2_corner2_4 5 rfl rfl)
theorem dX2_corner2_101 : decode cX2_corner2 101 = .ok (.iload_n 1, 1) := dk_27 (dk_at dksX2_corner2_4 6 rfl rfl)
theorem dX2_corner2_102 : decode cX2_corner2 102 = .ok (.bipush 8, 2) := dk_16 8 (dk_at dksX2_corner2_4 7 rfl rfl)
theorem dX2_corner2_104 : decode cX2_corner2 104 = .ok (.invokevirtual 61, 3) := dk_182 0 61 (dk_at dksX2_corner2_4 9 rfl rfl)
theorem dX2_corner2_107 : decode cX2_corner2 107 = .ok (.return_, 1) := dk_177 (dk_at dksX2_corner2_4 12 rfl rfl)
abbrev cX2_corner3 : ByteArray := prog_1_method_10_code
def yX2_corner3 : MethodName := ⟨RX2, "corner3", "(I)V"⟩
abbrev cX2_corner4 : ByteArray := prog_1_method_11_code
def yX2_corner4 : MethodName := ⟨RX2, "corner4", "(I)V"⟩
abbrev cX2_noBit : ByteArray := prog_1_method_4_code
def yX2_noBit : MethodName := ⟨RX2, "noBit", "(II)Z"⟩
def dkwX2_noBit_0 : List UInt8 := [42, 180, 0, 20, 28, 42, 180, 0, 13, 104, 27, 96, 51, 156, 0, 7, 4, 167, 0, 4, 3, 172]
abbrev dktX2_noBit_0 : List UInt8 := dkwX2_noBit_0 ++ []
theorem dksX2_noBit_0 : cX2_noBit.data.toList.drop 0 = dktX2_noBit_0 := by decide +kernel
theorem dX2_noBit_0 : decode cX2_noBit 0 = .ok (.aload_n 0, 1) := dk_42 (dk_at dksX2_noBit_0 0 rfl rfl)
theorem dX2_noBit_1 : decode cX2_noBit 1 = .ok (.getfield 20, 3) := dk_180 0 20 (dk_at dksX2_noBit_0 1 rfl rfl)
theorem dX2_noBit_4 : decode cX2_noBit 4 = .ok (.iload_n 2, 1) := dk_28 (dk_at dksX2_noBit_0 4 rfl rfl)
theorem dX2_noBit_5 : decode cX2_noBit 5 = .ok (.aload_n 0, 1) := dk_42 (dk_at dksX2_noBit_0 5 rfl rfl)
theorem dX2_noBit_6 : decode cX2_noBit 6 = .ok (.getfield 13, 3) := dk_180 0 13 (dk_at dksX2_noBit_0 6 rfl rfl)
theorem dX2_noBit_9 : decode cX2_noBit 9 = .ok (.imul, 1) := dk_104 (dk_at dksX2_noBit_0 9 rfl rfl)
theorem dX2_noBit_10 : decode cX2_noBit 10 = .ok (.iload_n 1, 1) := dk_27 (dk_at dksX2_noBit_0 10 rfl rfl)
theorem dX2_noBit_11 : decode cX2_noBit 11 = .ok (.iadd, 1) := dk_96 (dk_at dksX2_noBit_0 11 rfl rfl)
theorem dX2_noBit_12 : decode cX2_noBit 12 = .ok (.baload, 1) := dk_51 (dk_at dksX2_noBit_0 12 rfl rfl)
theorem dX2_noBit_13 : decode cX2_noBit 13 = .ok (.ifCond .ge 7, 3) := dk_156 0 7 (dk_at dksX2_noBit_0 13 rfl rfl)
theorem dX2_noBit_16 : decode cX2_noBit 16 = .ok (.iconst 1, 1) := dk_4 (dk_at dksX2_noBit_0 16 rfl rfl)
theorem dX2_noBit_17 : decode cX2_noBit 17 = .ok (.goto 4, 3) := dk_167 0 4 (dk_at dksX2_noBit_0 17 rfl rfl)
theorem dX2_noBit_20 : decode cX2_noBit 20 = .ok (.iconst 0, 1) := dk_3 (dk_at dksX2_noBit_0 20 rfl rfl)
theorem dX2_noBit_21 : decode cX2_noBit 21 = .ok (.ireturn, 1) := dk_172 (dk_at dksX2_noBit_0 21 rfl rfl)
abbrev cX2_utah : ByteArray := prog_1_method_7_code
def yX2_utah : MethodName := ⟨RX2, "utah", "(III)V"⟩
def dkwX2_utah_3 : List UInt8 := [4, 100, 29, 16, 7, 182, 0, 61, 42, 27, 28, 29, 16, 8, 182, 0, 61, 177]
abbrev dktX2_utah_3 : List UInt8 := dkwX2_utah_3 ++ []
def dkwX2_utah_2 : List UInt8 := [42, 27, 4, 100, 28, 29, 8, 182, 0, 61, 42, 27, 28, 5, 100, 29, 16, 6, 182, 0, 61, 42, 27, 28]
abbrev dktX2_utah_2 : List UInt8 := dkwX2_utah_2 ++ dktX2_utah_3
def dkwX2_utah_1 : List UInt8 := [42, 27, 4, 100, 28, 5, 100, 29, 6, 182, 0, 61, 42, 27, 4, 100, 28, 4, 100, 29, 7, 182, 0, 61]
abbrev dktX2_utah_1 : List UInt8 := dkwX2_utah_1 ++ dktX2_utah_2
def dkwX2_utah_0 : List UInt8 := [42, 27, 5, 100, 28, 5, 100, 29, 4, 182, 0, 61, 42, 27, 5, 100, 28, 4, 100, 29, 5, 182, 0, 61]
abbrev dktX2_utah_0 : List UInt8 := dkwX2_utah_0 ++ dktX2_utah_1
theorem dksX2_utah_0 : cX2_utah.data.toList.drop 0 = dktX2_utah_0 := by decide +kernel
theorem dksX2_utah_1 : cX2_utah.data.toList.drop 24 = dktX2_utah_1 := dk_seg dksX2_utah_0 24 rfl rfl
theorem dksX2_utah_2 : cX2_utah.data.toList.drop 48 = dktX2_utah_2 := dk_seg dksX2_utah_1 24 rfl rfl
theorem dksX2_utah_3 : cX2_utah.data.toList.drop 72 = dktX2_utah_3 := dk_seg dksX2_utah_2 24 rfl rfl
theorem dX2_utah_0 : decode cX2_utah 0 = .ok (.aload_n 0, 1) := dk_42 (dk_at dksX2_utah_0 0 rfl rfl)
theorem dX2_utah_1 : decode cX2_utah 1 = .ok (.iload_n 1, 1) := dk_27 (dk_at dksX2_utah_0 1 rfl rfl)
theorem dX2_utah_2 : decode cX2_utah 2 = .ok (.iconst 2, 1) := dk_5 (dk_at dksX2_utah_0 2 rfl rfl)
theorem dX2_utah_3 : decode cX2_utah 3 = .ok (.isub, 1) := dk_100 (dk_at dksX2_utah_0 3 rfl rfl)
theorem dX2_utah_4 : decode cX2_utah 4 = .ok (.iload_n 2, 1) := dk_28 (dk_at dksX2_utah_0 4 rfl rfl)
theorem dX2_utah_5 : decode cX2_utah 5 = .ok (.iconst 2, 1) := dk_5 (dk_at dksX2_utah_0 5 rfl rfl)
theorem dX2_utah_6 : decode cX2_utah 6 = .ok (.isub, 1) := dk_100 (dk_at dksX2_utah_0 6 rfl rfl)
theorem dX2_utah_7 : decode cX2_utah 7 = .ok (.iload_n 3, 1) := dk_29 (dk_at dksX2_utah_0 7 rfl rfl)
theorem dX2_utah_8 : decode cX2_utah 8 = .ok (.iconst 1, 1) := dk_4 (dk_at dksX2_utah_0 8 rfl rfl)
theorem dX2_utah_9 : decode cX2_utah 9 = .ok (.invokevirtual 61, 3) := dk_182 0 61 (dk_at dksX2_utah_0 9 rfl rfl)
theorem dX2_utah_12 : decode cX2_utah 12 = .ok (.aload_n 0, 1) := dk_42 (dk_at dksX2_utah_0 12 rfl rfl)
theorem dX2_utah_13 : decode cX2_utah 13 = .ok (.iload_n 1, 1) := dk_27 (dk_at dksX2_utah_0 13 rfl rfl)
theorem dX2_utah_14 : decode cX2_utah 14 = .ok (.iconst 2, 1) := dk_5 (dk_at dksX2_utah_0 14 rfl rfl)
theorem dX2_utah_15 : decode cX2_utah 15 = .ok (.isub, 1) := dk_100 (dk_at dksX2_utah_0 15 rfl rfl)
theorem dX2_utah_16 : decode cX2_utah 16 = .ok (.iload_n 2, 1) := dk_28 (dk_at dksX2_utah_0 16 rfl rfl)
theorem dX2_utah_17 : decode cX2_utah 17 = .ok (.iconst 1, 1) := dk_4 (dk_at dksX2_utah_0 17 rfl rfl)
theorem dX2_utah_18 : decode cX2_utah 18 = .ok (.isub, 1) := dk_100 (dk_at dksX2_utah_0 18 rfl rfl)
theorem dX2_utah_19 : decode cX2_utah 19 = .ok (.iload_n 3, 1) := dk_29 (dk_at dksX2_utah_0 19 rfl rfl)
theorem dX2_utah_20 : decode cX2_utah 20 = .ok (.iconst 2, 1) := dk_5 (dk_at dksX2_utah_0 20 rfl rfl)
theorem dX2_utah_21 : decode cX2_utah 21 = .ok (.invokevirtual 61, 3) := dk_182 0 61 (dk_at dksX2_utah_0 21 rfl rfl)
theorem dX2_utah_24 : decode cX2_utah 24 = .ok (.aload_n 0, 1) := dk_42 (dk_at dksX2_utah_1 0 rfl rfl)
theorem dX2_utah_25 : decode cX2_utah 25 = .ok (.iload_n 1, 1) := dk_27 (dk_at dksX2_utah_1 1 rfl rfl)
theorem dX2_utah_26 : decode cX2_utah 26 = .ok (.iconst 1, 1) := dk_4 (dk_at dksX2_utah_1 2 rfl rfl)
theorem dX2_utah_27 : decode cX2_utah 27 = .ok (.isub, 1) := dk_100 (dk_at dksX2_utah_1 3 rfl rfl)
theorem dX2_utah_28 : decode cX2_utah 28 = .ok (.iload_n 2, 1) := dk_28 (dk_at dksX2_utah_1 4 rfl rfl)
theorem dX2_utah_29 : decode cX2_utah 29 = .ok (.iconst 2, 1) := dk_5 (dk_at dksX2_utah_1 5 rfl rfl)
theorem dX2_utah_30 : decode cX2_utah 30 = .ok (.isub, 1) := dk_100 (dk_at dksX2_utah_1 6 rfl rfl)
theorem dX2_utah_31 : decode cX2_utah 31 = .ok (.iload_n 3, 1) := dk_29 (dk_at dksX2_utah_1 7 rfl rfl)
theorem dX2_utah_32 : decode cX2_utah 32 = .ok (.iconst 3, 1) := dk_6 (dk_at dksX2_utah_1 8 rfl rfl)
theorem dX2_utah_33 : decode cX2_utah 33 = .ok (.invokevirtual 61, 3) := dk_182 0 61 (dk_at dksX2_utah_1 9 rfl rfl)
theorem dX2_utah_36 : decode cX2_utah 36 = .ok (.aload_n 0, 1) := dk_42 (dk_at dksX2_utah_1 12 rfl rfl)
theorem dX2_utah_37 : decode cX2_utah 37 = .ok (.iload_n 1, 1) := dk_27 (dk_at dksX2_utah_1 13 rfl rfl)
theorem dX2_utah_38 : decode cX2_utah 38 = .ok (.iconst 1, 1) := dk_4 (dk_at dksX2_utah_1 14 rfl rfl)
theorem dX2_utah_39 : decode cX2_utah 39 = .ok (.isub, 1) := dk_100 (dk_at dksX2_utah_1 15 rfl rfl)
theorem dX2_utah_40 : decode cX2_utah 40 = .ok (.iload_n 2, 1) := dk_28 (dk_at dksX2_utah_1 16 rfl rfl)
theorem dX2_utah_41 : decode cX2_utah 41 = .ok (.iconst 1, 1) := dk_4 (dk_at dksX2_utah_1 17 rfl rfl)
theorem dX2_utah_42 : decode cX2_utah 42 = .ok (.isub, 1) := dk_100 (dk_at dksX2_utah_1 18 rfl rfl)
theorem dX2_utah_43 : decode cX2_utah 43 = .ok (.iload_n 3, 1) := dk_29 (dk_at dksX2_utah_1 19 rfl rfl)
theorem dX2_utah_44 : decode cX2_utah 44 = .ok (.iconst 4, 1) := dk_7 (dk_at dksX2_utah_1 20 rfl rfl)
theorem dX2_utah_45 : decode cX2_utah 45 = .ok (.invokevirtual 61, 3) := dk_182 0 61 (dk_at dksX2_utah_1 21 rfl rfl)
theorem dX2_utah_48 : decode cX2_utah 48 = .ok (.aload_n 0, 1) := dk_42 (dk_at dksX2_utah_2 0 rfl rfl)
theorem dX2_utah_49 : decode cX2_utah 49 = .ok (.iload_n 1, 1) := dk_27 (dk_at dksX2_utah_2 1 rfl rfl)
theorem dX2_utah_50 : decode cX2_utah 50 = .ok (.iconst 1, 1) := dk_4 (dk_at dksX2_utah_2 2 rfl rfl)
theorem dX2_utah_51 : decode cX2_utah 51 = .ok (.isub, 1) := dk_100 (dk_at dksX2_utah_2 3 rfl rfl)
theorem dX2_utah_52 : decode cX2_utah 52 = .ok (.iload_n 2, 1) := dk_28 (dk_at dksX2_utah_2 4 rfl rfl)
theorem dX2_utah_53 : decode cX2_utah 53 = .ok (.iload_n 3, 1) := dk_29 (dk_at dksX2_utah_2 5 rfl rfl)
theorem dX2_utah_54 : decode cX2_utah 54 = .ok (.iconst 5, 1) := dk_8 (dk_at dksX2_utah_2 6 rfl rfl)
theorem dX2_utah_55 : decode cX2_utah 55 = .ok (.invokevirtual 61, 3) := dk_182 0 61 (dk_at dksX2_utah_2 7 rfl rfl)
theorem dX2_utah_58 : decode cX2_utah 58 = .ok (.aload_n 0, 1) := dk_42 (dk_at dksX2_utah_2 10 rfl rfl)
theorem dX2_utah_59 : decode cX2_utah 59 = .ok (.iload_n 1, 1) := dk_27 (dk_at dksX2_utah_2 11 rfl rfl)
theorem dX2_utah_60 : decode cX2_utah 60 = .ok (.iload_n 2, 1) := dk_28 (dk_at dksX2_utah_2 12 rfl rfl)
theorem dX2_utah_61 : decode cX2_utah 61 = .ok (.iconst 2, 1) := dk_5 (dk_at dksX2_utah_2 13 rfl rfl)
theorem dX2_utah_62 : decode cX2_utah 62 = .ok (.isub, 1) := dk_100 (dk_at dksX2_utah_2 14 rfl rfl)
theorem dX2_utah_63 : decode cX2_utah 63 = .ok (.iload_n 3, 1) := dk_29 (dk_at dksX2_utah_2 15 rfl rfl)
theorem dX2_utah_64 : decode cX2_utah 64 = .ok (.bipush 6, 2) := dk_16 6 (dk_at dksX2_utah_2 16 rfl rfl)
theorem dX2_utah_66 : decode cX2_utah 66 = .ok (.invokevirtual 61, 3) := dk_182 0 61 (dk_at dksX2_utah_2 18 rfl rfl)
theorem dX2_utah_69 : decode cX2_utah 69 = .ok (.aload_n 0, 1) := dk_42 (dk_at dksX2_utah_2 21 rfl rfl)
theorem dX2_utah_70 : decode cX2_utah 70 = .ok (.iload_n 1, 1) := dk_27 (dk_at dksX2_utah_2 22 rfl rfl)
theorem dX2_utah_71 : decode cX2_utah 71 = .ok (.iload_n 2, 1) := dk_28 (dk_at dksX2_utah_2 23 rfl rfl)
theorem dX2_utah_72 : decode cX2_utah 72 = .ok (.iconst 1, 1) := dk_4 (dk_at dksX2_utah_3 0 rfl rfl)
theorem dX2_utah_73 : decode cX2_utah 73 = .ok (.isub, 1) := dk_100 (dk_at dksX2_utah_3 1 rfl rfl)
theorem dX2_utah_74 : decode cX2_utah 74 = .ok (.iload_n 3, 1) := dk_29 (dk_at dksX2_utah_3 2 rfl rfl)
theorem dX2_utah_75 : decode cX2_utah 75 = .ok (.bipush 7, 2) := dk_16 7 (dk_at dksX2_utah_3 3 rfl rfl)
theorem dX2_utah_77 : decode cX2_utah 77 = .ok (.invokevirtual 61, 3) := dk_182 0 61 (dk_at dksX2_utah_3 5 rfl rfl)
theorem dX2_utah_80 : decode cX2_utah 80 = .ok (.aload_n 0, 1) := dk_42 (dk_at dksX2_utah_3 8 rfl rfl)
theorem dX2_utah_81 : decode cX2_utah 81 = .ok (.iload_n 1, 1) := dk_27 (dk_at dksX2_utah_3 9 rfl rfl)
theorem dX2_utah_82 : decode cX2_utah 82 = .ok (.iload_n 2, 1) := dk_28 (dk_at dksX2_utah_3 10 rfl rfl)
theorem dX2_utah_83 : decode cX2_utah 83 = .ok (.iload_n 3, 1) := dk_29 (dk_at dksX2_utah_3 11 rfl rfl)
theorem dX2_utah_84 : decode cX2_utah 84 = .ok (.bipush 8, 2) := dk_16 8 (dk_at dksX2_utah_3 12 rfl rfl)
theorem dX2_utah_86 : decode cX2_utah 86 = .ok (.invokevirtual 61, 3) := dk_182 0 61 (dk_at dksX2_utah_3 14 rfl rfl)
theorem dX2_utah_89 : decode cX2_utah 89 = .ok (.return_, 1) := dk_177 (dk_at dksX2_utah_3 17 rfl rfl)
abbrev cX2_getBit : ByteArray := prog_1_method_2_code
def yX2_getBit : MethodName := ⟨RX2, "getBit", "(II)Z"⟩
def dkwX2_getBit_0 : List UInt8 := [42, 180, 0, 20, 28, 42, 180, 0, 13, 104, 27, 96, 51, 4, 160, 0, 7, 4, 167, 0, 4, 3, 172]
abbrev dktX2_getBit_0 : List UInt8 := dkwX2_getBit_0 ++ []
theorem dksX2_getBit_0 : cX2_getBit.data.toList.drop 0 = dktX2_getBit_0 := by decide +kernel
theorem dX2_getBit_0 : decode cX2_getBit 0 = .ok (.aload_n 0, 1) := dk_42 (dk_at dksX2_getBit_0 0 rfl rfl)
theorem dX2_getBit_1 : decode cX2_getBit 1 = .ok (.getfield 20, 3) := dk_180 0 20 (dk_at dksX2_getBit_0 1 rfl rfl)
theorem dX2_getBit_4 : decode cX2_getBit 4 = .ok (.iload_n 2, 1) := dk_28 (dk_at dksX2_getBit_0 4 rfl rfl)
theorem dX2_getBit_5 : decode cX2_getBit 5 = .ok (.aload_n 0, 1) := dk_42 (dk_at dksX2_getBit_0 5 rfl rfl)
theorem dX2_getBit_6 : decode cX2_getBit 6 = .ok (.getfield 13, 3) := dk_180 0 13 (dk_at dksX2_getBit_0 6 rfl rfl)
theorem dX2_getBit_9 : decode cX2_getBit 9 = .ok (.imul, 1) := dk_104 (dk_at dksX2_getBit_0 9 rfl rfl)
theorem dX2_getBit_10 : decode cX2_getBit 10 = .ok (.iload_n 1, 1) := dk_27 (dk_at dksX2_getBit_0 10 rfl rfl)
theorem dX2_getBit_11 : decode cX2_getBit 11 = .ok (.iadd, 1) := dk_96 (dk_at dksX2_getBit_0 11 rfl rfl)
theorem dX2_getBit_12 : decode cX2_getBit 12 = .ok (.baload, 1) := dk_51 (dk_at dksX2_getBit_0 12 rfl rfl)
theorem dX2_getBit_13 : decode cX2_getBit 13 = .ok (.iconst 1, 1) := dk_4 (dk_at dksX2_getBit_0 13 rfl rfl)
theorem dX2_getBit_14 : decode cX2_getBit 14 = .ok (.if_icmp .ne 7, 3) := dk_160 0 7 (dk_at dksX2_getBit_0 14 rfl rfl)
theorem dX2_getBit_17 : decode cX2_getBit 17 = .ok (.iconst 1, 1) := dk_4 (dk_at dksX2_getBit_0 17 rfl rfl)
theorem dX2_getBit_18 : decode cX2_getBit 18 = .ok (.goto 4, 3) := dk_167 0 4 (dk_at dksX2_getBit_0 18 rfl rfl)
theorem dX2_getBit_21 : decode cX2_getBit 21 = .ok (.iconst 0, 1) := dk_3 (dk_at dksX2_getBit_0 21 rfl rfl)
theorem dX2_getBit_22 : decode cX2_getBit 22 = .ok (.ireturn, 1) := dk_172 (dk_at dksX2_getBit_0 22 rfl rfl)
theorem q10 : (Jvm.Cond.initialized "DefaultPlacement") ∈ lw_all := lw_g (lw_at lw_m1 2 rfl) rfl
theorem q26 : (Jvm.Cond.instantiable "DefaultPlacement" (4 : Nat)) ∈ lw_all := lw_g (lw_at lw_m1 18 rfl) rfl
theorem q102 : (Jvm.Cond.instanceMethod ({ cls := "DefaultPlacement", name := "<init>", desc := "(Ljava/lang/CharSequence;II)V" } : Jvm.MethodName)) ∈ lw_all := lw_g (lw_at lw_m1 94 rfl) rfl
theorem q103 : (Jvm.Cond.code ({ cls := "DefaultPlacement", name := "<init>", desc := "(Ljava/lang/CharSequence;II)V" } : Jvm.MethodName) prog_1_method_1_code (4 : Nat) (Option.none : Option Jvm.ClassFile.FieldType)) ∈ lw_all := lw_g (lw_at lw_m1 95 rfl) rfl
theorem q104 : (Jvm.Cond.methodLink "DefaultPlacement" (1 : Nat) ({ cls := "java/lang/Object", name := "<init>", desc := "()V" } : Jvm.MethodName)) ∈ lw_all := lw_g (lw_at lw_m1 96 rfl) rfl
theorem q105 : (Jvm.Cond.methodLink "DefaultPlacement" (24 : Nat) ({ cls := "java/util/Arrays", name := "fill", desc := "([BB)V" } : Jvm.MethodName)) ∈ lw_all := lw_g (lw_at lw_m1 97 rfl) rfl
theorem q108 : (Jvm.Cond.fieldLink "DefaultPlacement" (7 : Nat) "DefaultPlacement" "codewords" "Ljava/lang/CharSequence;") ∈ lw_all := lw_g (lw_at lw_m1 100 rfl) rfl
theorem q109 : (Jvm.Cond.fieldLink "DefaultPlacement" (17 : Nat) "DefaultPlacement" "numrows" "I") ∈ lw_all := lw_g (lw_at lw_m1 101 rfl) rfl
theorem q110 : (Jvm.Cond.fieldLink "DefaultPlacement" (13 : Nat) "DefaultPlacement" "numcols" "I") ∈ lw_all := lw_g (lw_at lw_m1 102 rfl) rfl
theorem q111 : (Jvm.Cond.fieldLink "DefaultPlacement" (20 : Nat) "DefaultPlacement" "bits" "[B") ∈ lw_all := lw_g (lw_at lw_m1 103 rfl) rfl
theorem q112 : (Jvm.Cond.laysFinal "DefaultPlacement" "DefaultPlacement" "codewords" "Ljava/lang/CharSequence;") ∈ lw_all := lw_g (lw_at lw_m1 104 rfl) rfl
theorem q113 : (Jvm.Cond.soleField "DefaultPlacement" "codewords") ∈ lw_all := lw_g (lw_at lw_m1 105 rfl) rfl
theorem q114 : (Jvm.Cond.laysFinal "DefaultPlacement" "DefaultPlacement" "numrows" "I") ∈ lw_all := lw_g (lw_at lw_m1 106 rfl) rfl
theorem q115 : (Jvm.Cond.soleField "DefaultPlacement" "numrows") ∈ lw_all := lw_g (lw_at lw_m1 107 rfl) rfl
theorem q116 : (Jvm.Cond.laysFinal "DefaultPlacement" "DefaultPlacement" "numcols" "I") ∈ lw_all := lw_g (lw_at lw_m1 108 rfl) rfl
theorem q117 : (Jvm.Cond.soleField "DefaultPlacement" "numcols") ∈ lw_all := lw_g (lw_at lw_m1 109 rfl) rfl
theorem q118 : (Jvm.Cond.laysFinal "DefaultPlacement" "DefaultPlacement" "bits" "[B") ∈ lw_all := lw_g (lw_at lw_m1 110 rfl) rfl
theorem q119 : (Jvm.Cond.soleField "DefaultPlacement" "bits") ∈ lw_all := lw_g (lw_at lw_m1 111 rfl) rfl
theorem q120 : (Jvm.Cond.superclass "DefaultPlacement" "java/lang/Object") ∈ lw_all := lw_g (lw_at lw_m1 112 rfl) rfl
theorem q141 : (Jvm.Cond.instanceMethod ({ cls := "DefaultPlacement", name := "place", desc := "()V" } : Jvm.MethodName)) ∈ lw_all := lw_g (lw_at lw_m1 133 rfl) rfl
theorem q142 : (Jvm.Cond.selects "DefaultPlacement" ({ cls := "DefaultPlacement", name := "place", desc := "()V" } : Jvm.MethodName) ({ cls := "DefaultPlacement", name := "place", desc := "()V" } : Jvm.MethodName)) ∈ lw_all := lw_g (lw_at lw_m1 134 rfl) rfl
theorem q143 : (Jvm.Cond.code ({ cls := "DefaultPlacement", name := "place", desc := "()V" } : Jvm.MethodName) prog_1_method_5_code (4 : Nat) (Option.none : Option Jvm.ClassFile.FieldType)) ∈ lw_all := lw_g (lw_at lw_m1 135 rfl) rfl
theorem q144 : (Jvm.Cond.methodLink "DefaultPlacement" (30 : Nat) ({ cls := "DefaultPlacement", name := "corner1", desc := "(I)V" } : Jvm.MethodName)) ∈ lw_all := lw_g (lw_at lw_m1 136 rfl) rfl
theorem q145 : (Jvm.Cond.privateMethod ({ cls := "DefaultPlacement", name := "corner1", desc := "(I)V" } : Jvm.MethodName)) ∈ lw_tbl := lw_at lw_m1 137 rfl
theorem q146 : (Jvm.Cond.instanceMethod ({ cls := "DefaultPlacement", name := "corner1", desc := "(I)V" } : Jvm.MethodName)) ∈ lw_all := lw_g (lw_at lw_m1 138 rfl) rfl
theorem q147 : (Jvm.Cond.code ({ cls := "DefaultPlacement", name := "corner1", desc := "(I)V" } : Jvm.MethodName) prog_1_method_8_code (2 : Nat) (Option.none : Option Jvm.ClassFile.FieldType)) ∈ lw_all := lw_g (lw_at lw_m1 139 rfl) rfl
theorem q148 : (Jvm.Cond.methodLink "DefaultPlacement" (61 : Nat) ({ cls := "DefaultPlacement", name := "module", desc := "(IIII)V" } : Jvm.MethodName)) ∈ lw_all := lw_g (lw_at lw_m1 140 rfl) rfl
theorem q149 : (Jvm.Cond.privateMethod ({ cls := "DefaultPlacement", name := "module", desc := "(IIII)V" } : Jvm.MethodName)) ∈ lw_tbl := lw_at lw_m1 141 rfl
theorem q150 : (Jvm.Cond.instanceMethod ({ cls := "DefaultPlacement", name := "module", desc := "(IIII)V" } : Jvm.MethodName)) ∈ lw_all := lw_g (lw_at lw_m1 142 rfl) rfl
theorem q151 : (Jvm.Cond.code ({ cls := "DefaultPlacement", name := "module", desc := "(IIII)V" } : Jvm.MethodName) prog_1_method_6_code (6 : Nat) (Option.none : Option Jvm.ClassFile.FieldType)) ∈ lw_all := lw_g (lw_at lw_m1 143 rfl) rfl
theorem q152 : (Jvm.Cond.interfaceEntry "DefaultPlacement" (55 : Nat)) ∈ lw_tbl := lw_at lw_m1 144 rfl
theorem q153 : (Jvm.Cond.methodLink "DefaultPlacement" (55 : Nat) ({ cls := "java/lang/CharSequence", name := "charAt", desc := "(I)C" } : Jvm.MethodName)) ∈ lw_all := lw_g (lw_at lw_m1 145 rfl) rfl
theorem q182 : (Jvm.Cond.methodLink "DefaultPlacement" (51 : Nat) ({ cls := "DefaultPlacement", name := "setBit", desc := "(IIZ)V" } : Jvm.MethodName)) ∈ lw_all := lw_g (lw_at lw_m1 174 rfl) rfl
theorem q183 : (Jvm.Cond.privateMethod ({ cls := "DefaultPlacement", name := "setBit", desc := "(IIZ)V" } : Jvm.MethodName)) ∈ lw_tbl := lw_at lw_m1 175 rfl
theorem q184 : (Jvm.Cond.instanceMethod ({ cls := "DefaultPlacement", name := "setBit", desc := "(IIZ)V" } : Jvm.MethodName)) ∈ lw_all := lw_g (lw_at lw_m1 176 rfl) rfl
theorem q185 : (Jvm.Cond.code ({ cls := "DefaultPlacement", name := "setBit", desc := "(IIZ)V" } : Jvm.MethodName) prog_1_method_3_code (4 : Nat) (Option.none : Option Jvm.ClassFile.FieldType)) ∈ lw_all := lw_g (lw_at lw_m1 177 rfl) rfl
theorem q186 : (Jvm.Cond.methodLink "DefaultPlacement" (34 : Nat) ({ cls := "DefaultPlacement", name := "corner2", desc := "(I)V" } : Jvm.MethodName)) ∈ lw_all := lw_g (lw_at lw_m1 178 rfl) rfl
theorem q187 : (Jvm.Cond.privateMethod ({ cls := "DefaultPlacement", name := "corner2", desc := "(I)V" } : Jvm.MethodName)) ∈ lw_tbl := lw_at lw_m1 179 rfl
theorem q188 : (Jvm.Cond.instanceMethod ({ cls := "DefaultPlacement", name := "corner2", desc := "(I)V" } : Jvm.MethodName)) ∈ lw_all := lw_g (lw_at lw_m1 180 rfl) rfl
theorem q189 : (Jvm.Cond.code ({ cls := "DefaultPlacement", name := "corner2", desc := "(I)V" } : Jvm.MethodName) prog_1_method_9_code (2 : Nat) (Option.none : Option Jvm.ClassFile.FieldType)) ∈ lw_all := lw_g (lw_at lw_m1 181 rfl) rfl
theorem q190 : (Jvm.Cond.methodLink "DefaultPlacement" (37 : Nat) ({ cls := "DefaultPlacement", name := "corner3", desc := "(I)V" } : Jvm.MethodName)) ∈ lw_all := lw_g (lw_at lw_m1 182 rfl) rfl
theorem q191 : (Jvm.Cond.privateMethod ({ cls := "DefaultPlacement", name := "corner3", desc := "(I)V" } : Jvm.MethodName)) ∈ lw_tbl := lw_at lw_m1 183 rfl
theorem q192 : (Jvm.Cond.instanceMethod ({ cls := "DefaultPlacement", name := "corner3", desc := "(I)V" } : Jvm.MethodName)) ∈ lw_all := lw_g (lw_at lw_m1 184 rfl) rfl
theorem q193 : (Jvm.Cond.code ({ cls := "DefaultPlacement", name := "corner3", desc := "(I)V" } : Jvm.MethodName) prog_1_method_10_code (2 : Nat) (Option.none : Option Jvm.ClassFile.FieldType)) ∈ lw_all := lw_g (lw_at lw_m1 185 rfl) rfl
theorem q194 : (Jvm.Cond.methodLink "DefaultPlacement" (40 : Nat) ({ cls := "DefaultPlacement", name := "corner4", desc := "(I)V" } : Jvm.MethodName)) ∈ lw_all := lw_g (lw_at lw_m1 186 rfl) rfl
theorem q195 : (Jvm.Cond.privateMethod ({ cls := "DefaultPlacement", name := "corner4", desc := "(I)V" } : Jvm.MethodName)) ∈ lw_tbl := lw_at lw_m1 187 rfl
theorem q196 : (Jvm.Cond.instanceMethod ({ cls := "DefaultPlacement", name := "corner4", desc := "(I)V" } : Jvm.MethodName)) ∈ lw_all := lw_g (lw_at lw_m1 188 rfl) rfl
theorem q197 : (Jvm.Cond.code ({ cls := "DefaultPlacement", name := "corner4", desc := "(I)V" } : Jvm.MethodName) prog_1_method_11_code (2 : Nat) (Option.none : Option Jvm.ClassFile.FieldType)) ∈ lw_all := lw_g (lw_at lw_m1 189 rfl) rfl
theorem q198 : (Jvm.Cond.methodLink "DefaultPlacement" (43 : Nat) ({ cls := "DefaultPlacement", name := "noBit", desc := "(II)Z" } : Jvm.MethodName)) ∈ lw_all := lw_g (lw_at lw_m1 190 rfl) rfl
theorem q199 : (Jvm.Cond.privateMethod ({ cls := "DefaultPlacement", name := "noBit", desc := "(II)Z" } : Jvm.MethodName)) ∈ lw_tbl := lw_at lw_m1 191 rfl
theorem q200 : (Jvm.Cond.instanceMethod ({ cls := "DefaultPlacement", name := "noBit", desc := "(II)Z" } : Jvm.MethodName)) ∈ lw_all := lw_g (lw_at lw_m1 192 rfl) rfl
theorem q201 : (Jvm.Cond.code ({ cls := "DefaultPlacement", name := "noBit", desc := "(II)Z" } : Jvm.MethodName) prog_1_method_4_code (3 : Nat) (Option.some Jvm.ClassFile.FieldType.boolean)) ∈ lw_all := lw_g (lw_at lw_m1 193 rfl) rfl
theorem q202 : (Jvm.Cond.methodLink "DefaultPlacement" (47 : Nat) ({ cls := "DefaultPlacement", name := "utah", desc := "(III)V" } : Jvm.MethodName)) ∈ lw_all := lw_g (lw_at lw_m1 194 rfl) rfl
theorem q203 : (Jvm.Cond.privateMethod ({ cls := "DefaultPlacement", name := "utah", desc := "(III)V" } : Jvm.MethodName)) ∈ lw_tbl := lw_at lw_m1 195 rfl
theorem q204 : (Jvm.Cond.instanceMethod ({ cls := "DefaultPlacement", name := "utah", desc := "(III)V" } : Jvm.MethodName)) ∈ lw_all := lw_g (lw_at lw_m1 196 rfl) rfl
theorem q205 : (Jvm.Cond.code ({ cls := "DefaultPlacement", name := "utah", desc := "(III)V" } : Jvm.MethodName) prog_1_method_7_code (4 : Nat) (Option.none : Option Jvm.ClassFile.FieldType)) ∈ lw_all := lw_g (lw_at lw_m1 197 rfl) rfl
theorem q211 : (Jvm.Cond.instanceMethod ({ cls := "DefaultPlacement", name := "getBit", desc := "(II)Z" } : Jvm.MethodName)) ∈ lw_all := lw_g (lw_at lw_m1 203 rfl) rfl
theorem q212 : (Jvm.Cond.selects "DefaultPlacement" ({ cls := "DefaultPlacement", name := "getBit", desc := "(II)Z" } : Jvm.MethodName) ({ cls := "DefaultPlacement", name := "getBit", desc := "(II)Z" } : Jvm.MethodName)) ∈ lw_all := lw_g (lw_at lw_m1 204 rfl) rfl
theorem q213 : (Jvm.Cond.code ({ cls := "DefaultPlacement", name := "getBit", desc := "(II)Z" } : Jvm.MethodName) prog_1_method_2_code (3 : Nat) (Option.some Jvm.ClassFile.FieldType.boolean)) ∈ lw_all := lw_g (lw_at lw_m1 205 rfl) rfl
theorem in_X2 : ∀ w ∈ wsX20, w ∈ lw_all := lw_in wsX20 [112, 114, 116, 118] (by decide +kernel) (by decide +kernel)
end
section
/-! PlacementDeskLaw$Square -/
set_option maxRecDepth 100000
def RX3 : String := "PlacementDeskLaw$Square"
def TX3 : u_T := fun k => match k with
  | 0 => ("PlacementDeskLaw$Square", "side", "I", true)
  | _ => ("PlacementDeskLaw$Square", "at", "[I", true)
def tyX3 : Nat → FieldType := fun k => match k with
  | 0 => .int
  | _ => .array .int
abbrev wsX30 : List Cond := u_ws RX3 TX3 2
theorem nmX3 : ∀ a, a < 2 → ∀ b, b < 2 → a ≠ b → (TX3 a).2.1 ≠ (TX3 b).2.1 := by decide +kernel
theorem tyX3_ok : ∀ k, k < 2 → parseFieldDescriptor (TX3 k).2.2.1 = some (tyX3 k) := by decide +kernel
abbrev cX3_init : ByteArray := prog_4_method_1_code
def yX3_init : MethodName := ⟨RX3, "<init>", "(I)V"⟩
def dkwX3_init_1 : List UInt8 := [180, 0, 13, 190, 162, 0, 16, 42, 180, 0, 13, 28, 2, 79, 132, 2, 1, 167, 255, 237, 177]
abbrev dktX3_init_1 : List UInt8 := dkwX3_init_1 ++ []
def dkwX3_init_0 : List UInt8 := [42, 183, 0, 1, 42, 27, 181, 0, 7, 42, 27, 27, 104, 188, 10, 181, 0, 13, 3, 61, 28, 42]
abbrev dktX3_init_0 : List UInt8 := dkwX3_init_0 ++ dktX3_init_1
theorem dksX3_init_0 : cX3_init.data.toList.drop 0 = dktX3_init_0 := by decide +kernel
theorem dksX3_init_1 : cX3_init.data.toList.drop 22 = dktX3_init_1 := dk_seg dksX3_init_0 22 rfl rfl
theorem dX3_init_0 : decode cX3_init 0 = .ok (.aload_n 0, 1) := dk_42 (dk_at dksX3_init_0 0 rfl rfl)
theorem dX3_init_1 : decode cX3_init 1 = .ok (.invokespecial 1, 3) := dk_183 0 1 (dk_at dksX3_init_0 1 rfl rfl)
theorem dX3_init_4 : decode cX3_init 4 = .ok (.aload_n 0, 1) := dk_42 (dk_at dksX3_init_0 4 rfl rfl)
theorem dX3_init_5 : decode cX3_init 5 = .ok (.iload_n 1, 1) := dk_27 (dk_at dksX3_init_0 5 rfl rfl)
theorem dX3_init_6 : decode cX3_init 6 = .ok (.putfield 7, 3) := dk_181 0 7 (dk_at dksX3_init_0 6 rfl rfl)
theorem dX3_init_9 : decode cX3_init 9 = .ok (.aload_n 0, 1) := dk_42 (dk_at dksX3_init_0 9 rfl rfl)
theorem dX3_init_10 : decode cX3_init 10 = .ok (.iload_n 1, 1) := dk_27 (dk_at dksX3_init_0 10 rfl rfl)
theorem dX3_init_11 : decode cX3_init 11 = .ok (.iload_n 1, 1) := dk_27 (dk_at dksX3_init_0 11 rfl rfl)
theorem dX3_init_12 : decode cX3_init 12 = .ok (.imul, 1) := dk_104 (dk_at dksX3_init_0 12 rfl rfl)
theorem dX3_init_13 : decode cX3_init 13 = .ok (.newarray .int, 2) := dk_188_10 (dk_at dksX3_init_0 13 rfl rfl)
theorem dX3_init_15 : decode cX3_init 15 = .ok (.putfield 13, 3) := dk_181 0 13 (dk_at dksX3_init_0 15 rfl rfl)
theorem dX3_init_18 : decode cX3_init 18 = .ok (.iconst 0, 1) := dk_3 (dk_at dksX3_init_0 18 rfl rfl)
theorem dX3_init_19 : decode cX3_init 19 = .ok (.istore_n 2, 1) := dk_61 (dk_at dksX3_init_0 19 rfl rfl)
theorem dX3_init_20 : decode cX3_init 20 = .ok (.iload_n 2, 1) := dk_28 (dk_at dksX3_init_0 20 rfl rfl)
theorem dX3_init_21 : decode cX3_init 21 = .ok (.aload_n 0, 1) := dk_42 (dk_at dksX3_init_0 21 rfl rfl)
theorem dX3_init_22 : decode cX3_init 22 = .ok (.getfield 13, 3) := dk_180 0 13 (dk_at dksX3_init_1 0 rfl rfl)
theorem dX3_init_25 : decode cX3_init 25 = .ok (.arraylength, 1) := dk_190 (dk_at dksX3_init_1 3 rfl rfl)
theorem dX3_init_26 : decode cX3_init 26 = .ok (.if_icmp .ge 16, 3) := dk_162 0 16 (dk_at dksX3_init_1 4 rfl rfl)
theorem dX3_init_29 : decode cX3_init 29 = .ok (.aload_n 0, 1) := dk_42 (dk_at dksX3_init_1 7 rfl rfl)
theorem dX3_init_30 : decode cX3_init 30 = .ok (.getfield 13, 3) := dk_180 0 13 (dk_at dksX3_init_1 8 rfl rfl)
theorem dX3_init_33 : decode cX3_init 33 = .ok (.iload_n 2, 1) := dk_28 (dk_at dksX3_init_1 11 rfl rfl)
theorem dX3_init_34 : decode cX3_init 34 = .ok (.iconst (-1), 1) := dk_2 (dk_at dksX3_init_1 12 rfl rfl)
theorem dX3_init_35 : decode cX3_init 35 = .ok (.iastore, 1) := dk_79 (dk_at dksX3_init_1 13 rfl rfl)
theorem dX3_init_36 : decode cX3_init 36 = .ok (.iinc 2 1, 3) := dk_132 2 1 (dk_at dksX3_init_1 14 rfl rfl)
theorem dX3_init_39 : decode cX3_init 39 = .ok (.goto (-19), 3) := dk_167 255 237 (dk_at dksX3_init_1 17 rfl rfl)
theorem dX3_init_42 : decode cX3_init 42 = .ok (.return_, 1) := dk_177 (dk_at dksX3_init_1 20 rfl rfl)
abbrev cX3_fill : ByteArray := prog_4_method_6_code
def yX3_fill : MethodName := ⟨RX3, "fill", "()V"⟩
def dkwX3_fill_24 : List UInt8 := [27, 162, 0, 8, 21, 4, 156, 255, 222, 132, 3, 3, 132, 4, 1, 167, 253, 193, 177]
abbrev dktX3_fill_24 : List UInt8 := dkwX3_fill_24 ++ []
def dkwX3_fill_23 : List UInt8 := [182, 0, 25, 153, 0, 14, 42, 29, 21, 4, 28, 132, 2, 1, 182, 0, 29, 132, 3, 2, 132, 4, 254, 29]
abbrev dktX3_fill_23 : List UInt8 := dkwX3_fill_23 ++ dktX3_fill_24
def dkwX3_fill_22 : List UInt8 := [132, 4, 2, 29, 155, 0, 9, 21, 4, 27, 161, 255, 222, 132, 3, 1, 132, 4, 3, 42, 29, 21, 4]
abbrev dktX3_fill_22 : List UInt8 := dkwX3_fill_22 ++ dktX3_fill_23
def dkwX3_fill_21 : List UInt8 := [21, 4, 182, 0, 25, 153, 0, 14, 42, 29, 21, 4, 28, 132, 2, 1, 182, 0, 29, 132, 3, 254]
abbrev dktX3_fill_21 : List UInt8 := dkwX3_fill_21 ++ dktX3_fill_22
def dkwX3_fill_20 : List UInt8 := [16, 13, 27, 5, 100, 79, 89, 16, 14, 4, 79, 89, 16, 15, 27, 4, 100, 79, 182, 0, 21, 42, 29]
abbrev dktX3_fill_20 : List UInt8 := dkwX3_fill_20 ++ dktX3_fill_21
def dkwX3_fill_19 : List UInt8 := [16, 9, 27, 4, 100, 79, 89, 16, 10, 4, 79, 89, 16, 11, 27, 6, 100, 79, 89, 16, 12, 4, 79, 89]
abbrev dktX3_fill_19 : List UInt8 := dkwX3_fill_19 ++ dktX3_fill_20
def dkwX3_fill_18 : List UInt8 := [89, 8, 27, 6, 100, 79, 89, 16, 6, 3, 79, 89, 16, 7, 27, 5, 100, 79, 89, 16, 8, 3, 79, 89]
abbrev dktX3_fill_18 : List UInt8 := dkwX3_fill_18 ++ dktX3_fill_19
def dkwX3_fill_17 : List UInt8 := [27, 4, 100, 79, 89, 4, 3, 79, 89, 5, 27, 4, 100, 79, 89, 6, 27, 4, 100, 79, 89, 7, 3, 79]
abbrev dktX3_fill_17 : List UInt8 := dkwX3_fill_17 ++ dktX3_fill_18
def dkwX3_fill_16 : List UInt8 := [21, 4, 5, 160, 0, 114, 27, 16, 8, 112, 154, 0, 107, 42, 28, 132, 2, 1, 16, 16, 188, 10, 89, 3]
abbrev dktX3_fill_16 : List UInt8 := dkwX3_fill_16 ++ dktX3_fill_17
def dkwX3_fill_15 : List UInt8 := [100, 79, 89, 16, 14, 6, 79, 89, 16, 15, 27, 4, 100, 79, 182, 0, 21, 29, 27, 7, 96, 160, 0, 120]
abbrev dktX3_fill_15 : List UInt8 := dkwX3_fill_15 ++ dktX3_fill_16
def dkwX3_fill_14 : List UInt8 := [100, 79, 89, 16, 10, 4, 79, 89, 16, 11, 27, 4, 100, 79, 89, 16, 12, 5, 79, 89, 16, 13, 27, 4]
abbrev dktX3_fill_14 : List UInt8 := dkwX3_fill_14 ++ dktX3_fill_15
def dkwX3_fill_13 : List UInt8 := [3, 79, 89, 16, 6, 3, 79, 89, 16, 7, 27, 5, 100, 79, 89, 16, 8, 3, 79, 89, 16, 9, 27, 4]
abbrev dktX3_fill_13 : List UInt8 := dkwX3_fill_13 ++ dktX3_fill_14
def dkwX3_fill_12 : List UInt8 := [100, 79, 89, 4, 3, 79, 89, 5, 27, 5, 100, 79, 89, 6, 3, 79, 89, 7, 27, 4, 100, 79, 89, 8]
abbrev dktX3_fill_12 : List UInt8 := dkwX3_fill_12 ++ dktX3_fill_13
def dkwX3_fill_11 : List UInt8 := [154, 0, 113, 27, 16, 8, 112, 7, 160, 0, 105, 42, 28, 132, 2, 1, 16, 16, 188, 10, 89, 3, 27, 6]
abbrev dktX3_fill_11 : List UInt8 := dkwX3_fill_11 ++ dktX3_fill_12
def dkwX3_fill_10 : List UInt8 := [89, 16, 14, 4, 79, 89, 16, 15, 27, 4, 100, 79, 182, 0, 21, 29, 27, 5, 100, 160, 0, 118, 21, 4]
abbrev dktX3_fill_10 : List UInt8 := dkwX3_fill_10 ++ dktX3_fill_11
def dkwX3_fill_9 : List UInt8 := [89, 16, 10, 3, 79, 89, 16, 11, 27, 5, 100, 79, 89, 16, 12, 3, 79, 89, 16, 13, 27, 4, 100, 79]
abbrev dktX3_fill_9 : List UInt8 := dkwX3_fill_9 ++ dktX3_fill_10
def dkwX3_fill_8 : List UInt8 := [89, 16, 6, 3, 79, 89, 16, 7, 27, 7, 100, 79, 89, 16, 8, 3, 79, 89, 16, 9, 27, 6, 100, 79]
abbrev dktX3_fill_8 : List UInt8 := dkwX3_fill_8 ++ dktX3_fill_9
def dkwX3_fill_7 : List UInt8 := [89, 4, 3, 79, 89, 5, 27, 5, 100, 79, 89, 6, 3, 79, 89, 7, 27, 4, 100, 79, 89, 8, 3, 79]
abbrev dktX3_fill_7 : List UInt8 := dkwX3_fill_7 ++ dktX3_fill_8
def dkwX3_fill_6 : List UInt8 := [154, 0, 111, 27, 7, 112, 153, 0, 105, 42, 28, 132, 2, 1, 16, 16, 188, 10, 89, 3, 27, 6, 100, 79]
abbrev dktX3_fill_6 : List UInt8 := dkwX3_fill_6 ++ dktX3_fill_7
def dkwX3_fill_5 : List UInt8 := [89, 16, 14, 6, 79, 89, 16, 15, 27, 4, 100, 79, 182, 0, 21, 29, 27, 5, 100, 160, 0, 116, 21, 4]
abbrev dktX3_fill_5 : List UInt8 := dkwX3_fill_5 ++ dktX3_fill_6
def dkwX3_fill_4 : List UInt8 := [89, 16, 10, 4, 79, 89, 16, 11, 27, 4, 100, 79, 89, 16, 12, 5, 79, 89, 16, 13, 27, 4, 100, 79]
abbrev dktX3_fill_4 : List UInt8 := dkwX3_fill_4 ++ dktX3_fill_5
def dkwX3_fill_3 : List UInt8 := [89, 16, 6, 3, 79, 89, 16, 7, 27, 5, 100, 79, 89, 16, 8, 3, 79, 89, 16, 9, 27, 4, 100, 79]
abbrev dktX3_fill_3 : List UInt8 := dkwX3_fill_3 ++ dktX3_fill_4
def dkwX3_fill_2 : List UInt8 := [89, 4, 3, 79, 89, 5, 27, 4, 100, 79, 89, 6, 4, 79, 89, 7, 27, 4, 100, 79, 89, 8, 5, 79]
abbrev dktX3_fill_2 : List UInt8 := dkwX3_fill_2 ++ dktX3_fill_3
def dkwX3_fill_1 : List UInt8 := [27, 160, 0, 110, 21, 4, 154, 0, 105, 42, 28, 132, 2, 1, 16, 16, 188, 10, 89, 3, 27, 4, 100, 79]
abbrev dktX3_fill_1 : List UInt8 := dkwX3_fill_1 ++ dktX3_fill_2
def dkwX3_fill_0 : List UInt8 := [42, 180, 0, 7, 60, 3, 61, 7, 62, 3, 54, 4, 29, 27, 161, 0, 9, 21, 4, 27, 162, 2, 58, 29]
abbrev dktX3_fill_0 : List UInt8 := dkwX3_fill_0 ++ dktX3_fill_1
theorem dksX3_fill_0 : cX3_fill.data.toList.drop 0 = dktX3_fill_0 := by decide +kernel
theorem dksX3_fill_1 : cX3_fill.data.toList.drop 24 = dktX3_fill_1 := dk_seg dksX3_fill_0 24 rfl rfl
theorem dksX3_fill_2 : cX3_fill.data.toList.drop 48 = dktX3_fill_2 := dk_seg dksX3_fill_1 24 rfl rfl
theorem dksX3_fill_3 : cX3_fill.data.toList.drop 72 = dktX3_fill_3 := dk_seg dksX3_fill_2 24 rfl rfl
theorem dksX3_fill_4 : cX3_fill.data.toList.drop 96 = dktX3_fill_4 := dk_seg dksX3_fill_3 24 rfl rfl
theorem dksX3_fill_5 : cX3_fill.data.toList.drop 120 = dktX3_fill_5 := dk_seg dksX3_fill_4 24 rfl rfl
theorem dksX3_fill_6 : cX3_fill.data.toList.drop 144 = dktX3_fill_6 := dk_seg dksX3_fill_5 24 rfl rfl
theorem dksX3_fill_7 : cX3_fill.data.toList.drop 168 = dktX3_fill_7 := dk_seg dksX3_fill_6 24 rfl rfl
theorem dksX3_fill_8 : cX3_fill.data.toList.drop 192 = dktX3_fill_8 := dk_seg dksX3_fill_7 24 rfl rfl
theorem dksX3_fill_9 : cX3_fill.data.toList.drop 216 = dktX3_fill_9 := dk_seg dksX3_fill_8 24 rfl rfl
theorem dksX3_fill_10 : cX3_fill.data.toList.drop 240 = dktX3_fill_10 := dk_seg dksX3_fill_9 24 rfl rfl
theorem dksX3_fill_11 : cX3_fill.data.toList.drop 264 = dktX3_fill_11 := dk_seg dksX3_fill_10 24 rfl rfl
theorem dksX3_fill_12 : cX3_fill.data.toList.drop 288 = dktX3_fill_12 := dk_seg dksX3_fill_11 24 rfl rfl
theorem dksX3_fill_13 : cX3_fill.data.toList.drop 312 = dktX3_fill_13 := dk_seg dksX3_fill_12 24 rfl rfl
theorem dksX3_fill_14 : cX3_fill.data.toList.drop 336 = dktX3_fill_14 := dk_seg dksX3_fill_13 24 rfl rfl
theorem dksX3_fill_15 : cX3_fill.data.toList.drop 360 = dktX3_fill_15 := dk_seg dksX3_fill_14 24 rfl rfl
theorem dksX3_fill_16 : cX3_fill.data.toList.drop 384 = dktX3_fill_16 := dk_seg dksX3_fill_15 24 rfl rfl
theorem dksX3_fill_17 : cX3_fill.data.toList.drop 408 = dktX3_fill_17 := dk_seg dksX3_fill_16 24 rfl rfl
theorem dksX3_fill_18 : cX3_fill.data.toList.drop 432 = dktX3_fill_18 := dk_seg dksX3_fill_17 24 rfl rfl
theorem dksX3_fill_19 : cX3_fill.data.toList.drop 456 = dktX3_fill_19 := dk_seg dksX3_fill_18 24 rfl rfl
theorem dksX3_fill_20 : cX3_fill.data.toList.drop 480 = dktX3_fill_20 := dk_seg dksX3_fill_19 24 rfl rfl
theorem dksX3_fill_21 : cX3_fill.data.toList.drop 503 = dktX3_fill_21 := dk_seg dksX3_fill_20 23 rfl rfl
theorem dksX3_fill_22 : cX3_fill.data.toList.drop 525 = dktX3_fill_22 := dk_seg dksX3_fill_21 22 rfl rfl
theorem dksX3_fill_23 : cX3_fill.data.toList.drop 548 = dktX3_fill_23 := dk_seg dksX3_fill_22 23 rfl rfl
theorem dksX3_fill_24 : cX3_fill.data.toList.drop 572 = dktX3_fill_24 := dk_seg dksX3_fill_23 24 rfl rfl
theorem dX3_fill_0 : decode cX3_fill 0 = .ok (.aload_n 0, 1) := dk_42 (dk_at dksX3_fill_0 0 rfl rfl)
theorem dX3_fill_1 : decode cX3_fill 1 = .ok (.getfield 7, 3) := dk_180 0 7 (dk_at dksX3_fill_0 1 rfl rfl)
theorem dX3_fill_4 : decode cX3_fill 4 = .ok (.istore_n 1, 1) := dk_60 (dk_at dksX3_fill_0 4 rfl rfl)
theorem dX3_fill_5 : decode cX3_fill 5 = .ok (.iconst 0, 1) := dk_3 (dk_at dksX3_fill_0 5 rfl rfl)
theorem dX3_fill_6 : decode cX3_fill 6 = .ok (.istore_n 2, 1) := dk_61 (dk_at dksX3_fill_0 6 rfl rfl)
theorem dX3_fill_7 : decode cX3_fill 7 = .ok (.iconst 4, 1) := dk_7 (dk_at dksX3_fill_0 7 rfl rfl)
theorem dX3_fill_8 : decode cX3_fill 8 = .ok (.istore_n 3, 1) := dk_62 (dk_at dksX3_fill_0 8 rfl rfl)
theorem dX3_fill_9 : decode cX3_fill 9 = .ok (.iconst 0, 1) := dk_3 (dk_at dksX3_fill_0 9 rfl rfl)
theorem dX3_fill_10 : decode cX3_fill 10 = .ok (.istore 4, 2) := dk_54 4 (dk_at dksX3_fill_0 10 rfl rfl)
theorem dX3_fill_12 : decode cX3_fill 12 = .ok (.iload_n 3, 1) := dk_29 (dk_at dksX3_fill_0 12 rfl rfl)
theorem dX3_fill_13 : decode cX3_fill 13 = .ok (.iload_n 1, 1) := dk_27 (dk_at dksX3_fill_0 13 rfl rfl)
theorem dX3_fill_14 : decode cX3_fill 14 = .ok (.if_icmp .lt 9, 3) := dk_161 0 9 (dk_at dksX3_fill_0 14 rfl rfl)
theorem dX3_fill_17 : decode cX3_fill 17 = .ok (.iload 4, 2) := dk_21 4 (dk_at dksX3_fill_0 17 rfl rfl)
theorem dX3_fill_19 : decode cX3_fill 19 = .ok (.iload_n 1, 1) := dk_27 (dk_at dksX3_fill_0 19 rfl rfl)
theorem dX3_fill_20 : decode cX3_fill 20 = .ok (.if_icmp .ge 570, 3) := dk_162 2 58 (dk_at dksX3_fill_0 20 rfl rfl)
theorem dX3_fill_23 : decode cX3_fill 23 = .ok (.iload_n 3, 1) := dk_29 (dk_at dksX3_fill_0 23 rfl rfl)
theorem dX3_fill_24 : decode cX3_fill 24 = .ok (.iload_n 1, 1) := dk_27 (dk_at dksX3_fill_1 0 rfl rfl)
theorem dX3_fill_25 : decode cX3_fill 25 = .ok (.if_icmp .ne 110, 3) := dk_160 0 110 (dk_at dksX3_fill_1 1 rfl rfl)
theorem dX3_fill_28 : decode cX3_fill 28 = .ok (.iload 4, 2) := dk_21 4 (dk_at dksX3_fill_1 4 rfl rfl)
theorem dX3_fill_30 : decode cX3_fill 30 = .ok (.ifCond .ne 105, 3) := dk_154 0 105 (dk_at dksX3_fill_1 6 rfl rfl)
theorem dX3_fill_33 : decode cX3_fill 33 = .ok (.aload_n 0, 1) := dk_42 (dk_at dksX3_fill_1 9 rfl rfl)
theorem dX3_fill_34 : decode cX3_fill 34 = .ok (.iload_n 2, 1) := dk_28 (dk_at dksX3_fill_1 10 rfl rfl)
theorem dX3_fill_35 : decode cX3_fill 35 = .ok (.iinc 2 1, 3) := dk_132 2 1 (dk_at dksX3_fill_1 11 rfl rfl)
theorem dX3_fill_38 : decode cX3_fill 38 = .ok (.bipush 16, 2) := dk_16 16 (dk_at dksX3_fill_1 14 rfl rfl)
theorem dX3_fill_40 : decode cX3_fill 40 = .ok (.newarray .int, 2) := dk_188_10 (dk_at dksX3_fill_1 16 rfl rfl)
theorem dX3_fill_42 : decode cX3_fill 42 = .ok (.dup, 1) := dk_89 (dk_at dksX3_fill_1 18 rfl rfl)
theorem dX3_fill_43 : decode cX3_fill 43 = .ok (.iconst 0, 1) := dk_3 (dk_at dksX3_fill_1 19 rfl rfl)
theorem dX3_fill_44 : decode cX3_fill 44 = .ok (.iload_n 1, 1) := dk_27 (dk_at dksX3_fill_1 20 rfl rfl)
theorem dX3_fill_45 : decode cX3_fill 45 = .ok (.iconst 1, 1) := dk_4 (dk_at dksX3_fill_1 21 rfl rfl)
theorem dX3_fill_46 : decode cX3_fill 46 = .ok (.isub, 1) := dk_100 (dk_at dksX3_fill_1 22 rfl rfl)
theorem dX3_fill_47 : decode cX3_fill 47 = .ok (.iastore, 1) := dk_79 (dk_at dksX3_fill_1 23 rfl rfl)
theorem dX3_fill_48 : decode cX3_fill 48 = .ok (.dup, 1) := dk_89 (dk_at dksX3_fill_2 0 rfl rfl)
theorem dX3_fill_49 : decode cX3_fill 49 = .ok (.iconst 1, 1) := dk_4 (dk_at dksX3_fill_2 1 rfl rfl)
theorem dX3_fill_50 : decode cX3_fill 50 = .ok (.iconst 0, 1) := dk_3 (dk_at dksX3_fill_2 2 rfl rfl)
theorem dX3_fill_51 : decode cX3_fill 51 = .ok (.iastore, 1) := dk_79 (dk_at dksX3_fill_2 3 rfl rfl)
theorem dX3_fill_52 : decode cX3_fill 52 = .ok (.dup, 1) := dk_89 (dk_at dksX3_fill_2 4 rfl rfl)
theorem dX3_fill_53 : decode cX3_fill 53 = .ok (.iconst 2, 1) := dk_5 (dk_at dksX3_fill_2 5 rfl rfl)
theorem dX3_fill_54 : decode cX3_fill 54 = .ok (.iload_n 1, 1) := dk_27 (dk_at dksX3_fill_2 6 rfl rfl)
theorem dX3_fill_55 : decode cX3_fill 55 = .ok (.iconst 1, 1) := dk_4 (dk_at dksX3_fill_2 7 rfl rfl)
theorem dX3_fill_56 : decode cX3_fill 56 = .ok (.isub, 1) := dk_100 (dk_at dksX3_fill_2 8 rfl rfl)
theorem dX3_fill_57 : decode cX3_fill 57 = .ok (.iastore, 1) := dk_79 (dk_at dksX3_fill_2 9 rfl rfl)
theorem dX3_fill_58 : decode cX3_fill 58 = .ok (.dup, 1) := dk_89 (dk_at dksX3_fill_2 10 rfl rfl)
theorem dX3_fill_59 : decode cX3_fill 59 = .ok (.iconst 3, 1) := dk_6 (dk_at dksX3_fill_2 11 rfl rfl)
theorem dX3_fill_60 : decode cX3_fill 60 = .ok (.iconst 1, 1) := dk_4 (dk_at dksX3_fill_2 12 rfl rfl)
theorem dX3_fill_61 : decode cX3_fill 61 = .ok (.iastore, 1) := dk_79 (dk_at dksX3_fill_2 13 rfl rfl)
theorem dX3_fill_62 : decode cX3_fill 62 = .ok (.dup, 1) := dk_89 (dk_at dksX3_fill_2 14 rfl rfl)
theorem dX3_fill_63 : decode cX3_fill 63 = .ok (.iconst 4, 1) := dk_7 (dk_at dksX3_fill_2 15 rfl rfl)
theorem dX3_fill_64 : decode cX3_fill 64 = .ok (.iload_n 1, 1) := dk_27 (dk_at dksX3_fill_2 16 rfl rfl)
theorem dX3_fill_65 : decode cX3_fill 65 = .ok (.iconst 1, 1) := dk_4 (dk_at dksX3_fill_2 17 rfl rfl)
theorem dX3_fill_66 : decode cX3_fill 66 = .ok (.isub, 1) := dk_100 (dk_at dksX3_fill_2 18 rfl rfl)
theorem dX3_fill_67 : decode cX3_fill 67 = .ok (.iastore, 1) := dk_79 (dk_at dksX3_fill_2 19 rfl rfl)
theorem dX3_fill_68 : decode cX3_fill 68 = .ok (.dup, 1) := dk_89 (dk_at dksX3_fill_2 20 rfl rfl)
theorem dX3_fill_69 : decode cX3_fill 69 = .ok (.iconst 5, 1) := dk_8 (dk_at dksX3_fill_2 21 rfl rfl)
theorem dX3_fill_70 : decode cX3_fill 70 = .ok (.iconst 2, 1) := dk_5 (dk_at dksX3_fill_2 22 rfl rfl)
theorem dX3_fill_71 : decode cX3_fill 71 = .ok (.iastore, 1) := dk_79 (dk_at dksX3_fill_2 23 rfl rfl)
theorem dX3_fill_72 : decode cX3_fill 72 = .ok (.dup, 1) := dk_89 (dk_at dksX3_fill_3 0 rfl rfl)
theorem dX3_fill_73 : decode cX3_fill 73 = .ok (.bipush 6, 2) := dk_16 6 (dk_at dksX3_fill_3 1 rfl rfl)
theorem dX3_fill_75 : decode cX3_fill 75 = .ok (.iconst 0, 1) := dk_3 (dk_at dksX3_fill_3 3 rfl rfl)
theorem dX3_fill_76 : decode cX3_fill 76 = .ok (.iastore, 1) := dk_79 (dk_at dksX3_fill_3 4 rfl rfl)
theorem dX3_fill_77 : decode cX3_fill 77 = .ok (.dup, 1) := dk_89 (dk_at dksX3_fill_3 5 rfl rfl)
theorem dX3_fill_78 : decode cX3_fill 78 = .ok (.bipush 7, 2) := dk_16 7 (dk_at dksX3_fill_3 6 rfl rfl)
theorem dX3_fill_80 : decode cX3_fill 80 = .ok (.iload_n 1, 1) := dk_27 (dk_at dksX3_fill_3 8 rfl rfl)
theorem dX3_fill_81 : decode cX3_fill 81 = .ok (.iconst 2, 1) := dk_5 (dk_at dksX3_fill_3 9 rfl rfl)
theorem dX3_fill_82 : decode cX3_fill 82 = .ok (.isub, 1) := dk_100 (dk_at dksX3_fill_3 10 rfl rfl)
theorem dX3_fill_83 : decode cX3_fill 83 = .ok (.iastore, 1) := dk_79 (dk_at dksX3_fill_3 11 rfl rfl)
theorem dX3_fill_84 : decode cX3_fill 84 = .ok (.dup, 1) := dk_89 (dk_at dksX3_fill_3 12 rfl rfl)
theorem dX3_fill_85 : decode cX3_fill 85 = .ok (.bipush 8, 2) := dk_16 8 (dk_at dksX3_fill_3 13 rfl rfl)
theorem dX3_fill_87 : decode cX3_fill 87 = .ok (.iconst 0, 1) := dk_3 (dk_at dksX3_fill_3 15 rfl rfl)
theorem dX3_fill_88 : decode cX3_fill 88 = .ok (.iastore, 1) := dk_79 (dk_at dksX3_fill_3 16 rfl rfl)
theorem dX3_fill_89 : decode cX3_fill 89 = .ok (.dup, 1) := dk_89 (dk_at dksX3_fill_3 17 rfl rfl)
theorem dX3_fill_90 : decode cX3_fill 90 = .ok (.bipush 9, 2) := dk_16 9 (dk_at dksX3_fill_3 18 rfl rfl)
theorem dX3_fill_92 : decode cX3_fill 92 = .ok (.iload_n 1, 1) := dk_27 (dk_at dksX3_fill_3 20 rfl rfl)
theorem dX3_fill_93 : decode cX3_fill 93 = .ok (.iconst 1, 1) := dk_4 (dk_at dksX3_fill_3 21 rfl rfl)
theorem dX3_fill_94 : decode cX3_fill 94 = .ok (.isub, 1) := dk_100 (dk_at dksX3_fill_3 22 rfl rfl)
theorem dX3_fill_95 : decode cX3_fill 95 = .ok (.iastore, 1) := dk_79 (dk_at dksX3_fill_3 23 rfl rfl)
theorem dX3_fill_96 : decode cX3_fill 96 = .ok (.dup, 1) := dk_89 (dk_at dksX3_fill_4 0 rfl rfl)
theorem dX3_fill_97 : decode cX3_fill 97 = .ok (.bipush 10, 2) := dk_16 10 (dk_at dksX3_fill_4 1 rfl rfl)
theorem dX3_fill_99 : decode cX3_fill 99 = .ok (.iconst 1, 1) := dk_4 (dk_at dksX3_fill_4 3 rfl rfl)
theorem dX3_fill_100 : decode cX3_fill 100 = .ok (.iastore, 1) := dk_79 (dk_at dksX3_fill_4 4 rfl rfl)
theorem dX3_fill_101 : decode cX3_fill 101 = .ok (.dup, 1) := dk_89 (dk_at dksX3_fill_4 5 rfl rfl)
theorem dX3_fill_102 : decode cX3_fill 102 = .ok (.bipush 11, 2) := dk_16 11 (dk_at dksX3_fill_4 6 rfl rfl)
theorem dX3_fill_104 : decode cX3_fill 104 = .ok (.iload_n 1, 1) := dk_27 (dk_at dksX3_fill_4 8 rfl rfl)
theorem dX3_fill_105 : decode cX3_fill 105 = .ok (.iconst 1, 1) := dk_4 (dk_at dksX3_fill_4 9 rfl rfl)
theorem dX3_fill_106 : decode cX3_fill 106 = .ok (.isub, 1) := dk_100 (dk_at dksX3_fill_4 10 rfl rfl)
theorem dX3_fill_107 : decode cX3_fill 107 = .ok (.iastore, 1) := dk_79 (dk_at dksX3_fill_4 11 rfl rfl)
theorem dX3_fill_108 : decode cX3_fill 108 = .ok (.dup, 1) := dk_89 (dk_at dksX3_fill_4 12 rfl rfl)
theorem dX3_fill_109 : decode cX3_fill 109 = .ok (.bipush 12, 2) := dk_16 12 (dk_at dksX3_fill_4 13 rfl rfl)
theorem dX3_fill_111 : decode cX3_fill 111 = .ok (.iconst 2, 1) := dk_5 (dk_at dksX3_fill_4 15 rfl rfl)
theorem dX3_fill_112 : decode cX3_fill 112 = .ok (.iastore, 1) := dk_79 (dk_at dksX3_fill_4 16 rfl rfl)
theorem dX3_fill_113 : decode cX3_fill 113 = .ok (.dup, 1) := dk_89 (dk_at dksX3_fill_4 17 rfl rfl)
theorem dX3_fill_114 : decode cX3_fill 114 = .ok (.bipush 13, 2) := dk_16 13 (dk_at dksX3_fill_4 18 rfl rfl)
theorem dX3_fill_116 : decode cX3_fill 116 = .ok (.iload_n 1, 1) := dk_27 (dk_at dksX3_fill_4 20 rfl rfl)
theorem dX3_fill_117 : decode cX3_fill 117 = .ok (.iconst 1, 1) := dk_4 (dk_at dksX3_fill_4 21 rfl rfl)
theorem dX3_fill_118 : decode cX3_fill 118 = .ok (.isub, 1) := dk_100 (dk_at dksX3_fill_4 22 rfl rfl)
theorem dX3_fill_119 : decode cX3_fill 119 = .ok (.iastore, 1) := dk_79 (dk_at dksX3_fill_4 23 rfl rfl)
theorem dX3_fill_120 : decode cX3_fill 120 = .ok (.dup, 1) := dk_89 (dk_at dksX3_fill_5 0 rfl rfl)
theorem dX3_fill_121 : decode cX3_fill 121 = .ok (.bipush 14, 2) := dk_16 14 (dk_at dksX3_fill_5 1 rfl rfl)
theorem dX3_fill_123 : decode cX3_fill 123 = .ok (.iconst 3, 1) := dk_6 (dk_at dksX3_fill_5 3 rfl rfl)
theorem dX3_fill_124 : decode cX3_fill 124 = .ok (.iastore, 1) := dk_79 (dk_at dksX3_fill_5 4 rfl rfl)
theorem dX3_fill_125 : decode cX3_fill 125 = .ok (.dup, 1) := dk_89 (dk_at dksX3_fill_5 5 rfl rfl)
theorem dX3_fill_126 : decode cX3_fill 126 = .ok (.bipush 15, 2) := dk_16 15 (dk_at dksX3_fill_5 6 rfl rfl)
theorem dX3_fill_128 : decode cX3_fill 128 = .ok (.iload_n 1, 1) := dk_27 (dk_at dksX3_fill_5 8 rfl rfl)
theorem dX3_fill_129 : decode cX3_fill 129 = .ok (.iconst 1, 1) := dk_4 (dk_at dksX3_fill_5 9 rfl rfl)
theorem dX3_fill_130 : decode cX3_fill 130 = .ok (.isub, 1) := dk_100 (dk_at dksX3_fill_5 10 rfl rfl)
theorem dX3_fill_131 : decode cX3_fill 131 = .ok (.iastore, 1) := dk_79 (dk_at dksX3_fill_5 11 rfl rfl)
theorem dX3_fill_132 : decode cX3_fill 132 = .ok (.invokevirtual 21, 3) := dk_182 0 21 (dk_at dksX3_fill_5 12 rfl rfl)
theorem dX3_fill_135 : decode cX3_fill 135 = .ok (.iload_n 3, 1) := dk_29 (dk_at dksX3_fill_5 15 rfl rfl)
theorem dX3_fill_136 : decode cX3_fill 136 = .ok (.iload_n 1, 1) := dk_27 (dk_at dksX3_fill_5 16 rfl rfl)
theorem dX3_fill_137 : decode cX3_fill 137 = .ok (.iconst 2, 1) := dk_5 (dk_at dksX3_fill_5 17 rfl rfl)
theorem dX3_fill_138 : decode cX3_fill 138 = .ok (.isub, 1) := dk_100 (dk_at dksX3_fill_5 18 rfl rfl)
theorem dX3_fill_139 : decode cX3_fill 139 = .ok (.if_icmp .ne 116, 3) := dk_160 0 116 (dk_at dksX3_fill_5 19 rfl rfl)
theorem dX3_fill_142 : decode cX3_fill 142 = .ok (.iload 4, 2) := dk_21 4 (dk_at dksX3_fill_5 22 rfl rfl)
theorem dX3_fill_144 : decode cX3_fill 144 = .ok (.ifCond .ne 111, 3) := dk_154 0 111 (dk_at dksX3_fill_6 0 rfl rfl)
theorem dX3_fill_147 : decode cX3_fill 147 = .ok (.iload_n 1, 1) := dk_27 (dk_at dksX3_fill_6 3 rfl rfl)
theorem dX3_fill_148 : decode cX3_fill 148 = .ok (.iconst 4, 1) := dk_7 (dk_at dksX3_fill_6 4 rfl rfl)
theorem dX3_fill_149 : decode cX3_fill 149 = .ok (.irem, 1) := dk_112 (dk_at dksX3_fill_6 5 rfl rfl)
theorem dX3_fill_150 : decode cX3_fill 150 = .ok (.ifCond .eq 105, 3) := dk_153 0 105 (dk_at dksX3_fill_6 6 rfl rfl)
theorem dX3_fill_153 : decode cX3_fill 153 = .ok (.aload_n 0, 1) := dk_42 (dk_at dksX3_fill_6 9 rfl rfl)
theorem dX3_fill_154 : decode cX3_fill 154 = .ok (.iload_n 2, 1) := dk_28 (dk_at dksX3_fill_6 10 rfl rfl)
theorem dX3_fill_155 : decode cX3_fill 155 = .ok (.iinc 2 1, 3) := dk_132 2 1 (dk_at dksX3_fill_6 11 rfl rfl)
theorem dX3_fill_158 : decode cX3_fill 158 = .ok (.bipush 16, 2) := dk_16 16 (dk_at dksX3_fill_6 14 rfl rfl)
theorem dX3_fill_160 : decode cX3_fill 160 = .ok (.newarray .int, 2) := dk_188_10 (dk_at dksX3_fill_6 16 rfl rfl)
theorem dX3_fill_162 : decode cX3_fill 162 = .ok (.dup, 1) := dk_89 (dk_at dksX3_fill_6 18 rfl rfl)
theorem dX3_fill_163 : decode cX3_fill 163 = .ok (.iconst 0, 1) := dk_3 (dk_at dksX3_fill_6 19 rfl rfl)
theorem dX3_fill_164 : decode cX3_fill 164 = .ok (.iload_n 1, 1) := dk_27 (dk_at dksX3_fill_6 20 rfl rfl)
theorem dX3_fill_165 : decode cX3_fill 165 = .ok (.iconst 3, 1) := dk_6 (dk_at dksX3_fill_6 21 rfl rfl)
theorem dX3_fill_166 : decode cX3_fill 166 = .ok (.isub, 1) := dk_100 (dk_at dksX3_fill_6 22 rfl rfl)
theorem dX3_fill_167 : decode cX3_fill 167 = .ok (.iastore, 1) := dk_79 (dk_at dksX3_fill_6 23 rfl rfl)
theorem dX3_fill_168 : decode cX3_fill 168 = .ok (.dup, 1) := dk_89 (dk_at dksX3_fill_7 0 rfl rfl)
theorem dX3_fill_169 : decode cX3_fill 169 = .ok (.iconst 1, 1) := dk_4 (dk_at dksX3_fill_7 1 rfl rfl)
theorem dX3_fill_170 : decode cX3_fill 170 = .ok (.iconst 0, 1) := dk_3 (dk_at dksX3_fill_7 2 rfl rfl)
theorem dX3_fill_171 : decode cX3_fill 171 = .ok (.iastore, 1) := dk_79 (dk_at dksX3_fill_7 3 rfl rfl)
theorem dX3_fill_172 : decode cX3_fill 172 = .ok (.dup, 1) := dk_89 (dk_at dksX3_fill_7 4 rfl rfl)
theorem dX3_fill_173 : decode cX3_fill 173 = .ok (.iconst 2, 1) := dk_5 (dk_at dksX3_fill_7 5 rfl rfl)
theorem dX3_fill_174 : decode cX3_fill 174 = .ok (.iload_n 1, 1) := dk_27 (dk_at dksX3_fill_7 6 rfl rfl)
theorem dX3_fill_175 : decode cX3_fill 175 = .ok (.iconst 2, 1) := dk_5 (dk_at dksX3_fill_7 7 rfl rfl)
theorem dX3_fill_176 : decode cX3_fill 176 = .ok (.isub, 1) := dk_100 (dk_at dksX3_fill_7 8 rfl rfl)
theorem dX3_fill_177 : decode cX3_fill 177 = .ok (.iastore, 1) := dk_79 (dk_at dksX3_fill_7 9 rfl rfl)
theorem dX3_fill_178 : decode cX3_fill 178 = .ok (.dup, 1) := dk_89 (dk_at dksX3_fill_7 10 rfl rfl)
theorem dX3_fill_179 : decode cX3_fill 179 = .ok (.iconst 3, 1) := dk_6 (dk_at dksX3_fill_7 11 rfl rfl)
theorem dX3_fill_180 : decode cX3_fill 180 = .ok (.iconst 0, 1) := dk_3 (dk_at dksX3_fill_7 12 rfl rfl)
theorem dX3_fill_181 : decode cX3_fill 181 = .ok (.iastore, 1) := dk_79 (dk_at dksX3_fill_7 13 rfl rfl)
theorem dX3_fill_182 : decode cX3_fill 182 = .ok (.dup, 1) := dk_89 (dk_at dksX3_fill_7 14 rfl rfl)
theorem dX3_fill_183 : decode cX3_fill 183 = .ok (.iconst 4, 1) := dk_7 (dk_at dksX3_fill_7 15 rfl rfl)
theorem dX3_fill_184 : decode cX3_fill 184 = .ok (.iload_n 1, 1) := dk_27 (dk_at dksX3_fill_7 16 rfl rfl)
theorem dX3_fill_185 : decode cX3_fill 185 = .ok (.iconst 1, 1) := dk_4 (dk_at dksX3_fill_7 17 rfl rfl)
theorem dX3_fill_186 : decode cX3_fill 186 = .ok (.isub, 1) := dk_100 (dk_at dksX3_fill_7 18 rfl rfl)
theorem dX3_fill_187 : decode cX3_fill 187 = .ok (.iastore, 1) := dk_79 (dk_at dksX3_fill_7 19 rfl rfl)
theorem dX3_fill_188 : decode cX3_fill 188 = .ok (.dup, 1) := dk_89 (dk_at dksX3_fill_7 20 rfl rfl)
theorem dX3_fill_189 : decode cX3_fill 189 = .ok (.iconst 5, 1) := dk_8 (dk_at dksX3_fill_7 21 rfl rfl)
theorem dX3_fill_190 : decode cX3_fill 190 = .ok (.iconst 0, 1) := dk_3 (dk_at dksX3_fill_7 22 rfl rfl)
theorem dX3_fill_191 : decode cX3_fill 191 = .ok (.iastore, 1) := dk_79 (dk_at dksX3_fill_7 23 rfl rfl)
theorem dX3_fill_192 : decode cX3_fill 192 = .ok (.dup, 1) := dk_89 (dk_at dksX3_fill_8 0 rfl rfl)
theorem dX3_fill_193 : decode cX3_fill 193 = .ok (.bipush 6, 2) := dk_16 6 (dk_at dksX3_fill_8 1 rfl rfl)
theorem dX3_fill_195 : decode cX3_fill 195 = .ok (.iconst 0, 1) := dk_3 (dk_at dksX3_fill_8 3 rfl rfl)
theorem dX3_fill_196 : decode cX3_fill 196 = .ok (.iastore, 1) := dk_79 (dk_at dksX3_fill_8 4 rfl rfl)
theorem dX3_fill_197 : decode cX3_fill 197 = .ok (.dup, 1) := dk_89 (dk_at dksX3_fill_8 5 rfl rfl)
theorem dX3_fill_198 : decode cX3_fill 198 = .ok (.bipush 7, 2) := dk_16 7 (dk_at dksX3_fill_8 6 rfl rfl)
theorem dX3_fill_200 : decode cX3_fill 200 = .ok (.iload_n 1, 1) := dk_27 (dk_at dksX3_fill_8 8 rfl rfl)
theorem dX3_fill_201 : decode cX3_fill 201 = .ok (.iconst 4, 1) := dk_7 (dk_at dksX3_fill_8 9 rfl rfl)
theorem dX3_fill_202 : decode cX3_fill 202 = .ok (.isub, 1) := dk_100 (dk_at dksX3_fill_8 10 rfl rfl)
theorem dX3_fill_203 : decode cX3_fill 203 = .ok (.iastore, 1) := dk_79 (dk_at dksX3_fill_8 11 rfl rfl)
theorem dX3_fill_204 : decode cX3_fill 204 = .ok (.dup, 1) := dk_89 (dk_at dksX3_fill_8 12 rfl rfl)
theorem dX3_fill_205 : decode cX3_fill 205 = .ok (.bipush 8, 2) := dk_16 8 (dk_at dksX3_fill_8 13 rfl rfl)
theorem dX3_fill_207 : decode cX3_fill 207 = .ok (.iconst 0, 1) := dk_3 (dk_at dksX3_fill_8 15 rfl rfl)
theorem dX3_fill_208 : decode cX3_fill 208 = .ok (.iastore, 1) := dk_79 (dk_at dksX3_fill_8 16 rfl rfl)
theorem dX3_fill_209 : decode cX3_fill 209 = .ok (.dup, 1) := dk_89 (dk_at dksX3_fill_8 17 rfl rfl)
theorem dX3_fill_210 : decode cX3_fill 210 = .ok (.bipush 9, 2) := dk_16 9 (dk_at dksX3_fill_8 18 rfl rfl)
theorem dX3_fill_212 : decode cX3_fill 212 = .ok (.iload_n 1, 1) := dk_27 (dk_at dksX3_fill_8 20 rfl rfl)
theorem dX3_fill_213 : decode cX3_fill 213 = .ok (.iconst 3, 1) := dk_6 (dk_at dksX3_fill_8 21 rfl rfl)
theorem dX3_fill_214 : decode cX3_fill 214 = .ok (.isub, 1) := dk_100 (dk_at dksX3_fill_8 22 rfl rfl)
theorem dX3_fill_215 : decode cX3_fill 215 = .ok (.iastore, 1) := dk_79 (dk_at dksX3_fill_8 23 rfl rfl)
theorem dX3_fill_216 : decode cX3_fill 216 = .ok (.dup, 1) := dk_89 (dk_at dksX3_fill_9 0 rfl rfl)
theorem dX3_fill_217 : decode cX3_fill 217 = .ok (.bipush 10, 2) := dk_16 10 (dk_at dksX3_fill_9 1 rfl rfl)
theorem dX3_fill_219 : decode cX3_fill 219 = .ok (.iconst 0, 1) := dk_3 (dk_at dksX3_fill_9 3 rfl rfl)
theorem dX3_fill_220 : decode cX3_fill 220 = .ok (.iastore, 1) := dk_79 (dk_at dksX3_fill_9 4 rfl rfl)
theorem dX3_fill_221 : decode cX3_fill 221 = .ok (.dup, 1) := dk_89 (dk_at dksX3_fill_9 5 rfl rfl)
theorem dX3_fill_222 : decode cX3_fill 222 = .ok (.bipush 11, 2) := dk_16 11 (dk_at dksX3_fill_9 6 rfl rfl)
theorem dX3_fill_224 : decode cX3_fill 224 = .ok (.iload_n 1, 1) := dk_27 (dk_at dksX3_fill_9 8 rfl rfl)
theorem dX3_fill_225 : decode cX3_fill 225 = .ok (.iconst 2, 1) := dk_5 (dk_at dksX3_fill_9 9 rfl rfl)
theorem dX3_fill_226 : decode cX3_fill 226 = .ok (.isub, 1) := dk_100 (dk_at dksX3_fill_9 10 rfl rfl)
theorem dX3_fill_227 : decode cX3_fill 227 = .ok (.iastore, 1) := dk_79 (dk_at dksX3_fill_9 11 rfl rfl)
theorem dX3_fill_228 : decode cX3_fill 228 = .ok (.dup, 1) := dk_89 (dk_at dksX3_fill_9 12 rfl rfl)
theorem dX3_fill_229 : decode cX3_fill 229 = .ok (.bipush 12, 2) := dk_16 12 (dk_at dksX3_fill_9 13 rfl rfl)
theorem dX3_fill_231 : decode cX3_fill 231 = .ok (.iconst 0, 1) := dk_3 (dk_at dksX3_fill_9 15 rfl rfl)
theorem dX3_fill_232 : decode cX3_fill 232 = .ok (.iastore, 1) := dk_79 (dk_at dksX3_fill_9 16 rfl rfl)
theorem dX3_fill_233 : decode cX3_fill 233 = .ok (.dup, 1) := dk_89 (dk_at dksX3_fill_9 17 rfl rfl)
theorem dX3_fill_234 : decode cX3_fill 234 = .ok (.bipush 13, 2) := dk_16 13 (dk_at dksX3_fill_9 18 rfl rfl)
theorem dX3_fill_236 : decode cX3_fill 236 = .ok (.iload_n 1, 1) := dk_27 (dk_at dksX3_fill_9 20 rfl rfl)
theorem dX3_fill_237 : decode cX3_fill 237 = .ok (.iconst 1, 1) := dk_4 (dk_at dksX3_fill_9 21 rfl rfl)
theorem dX3_fill_238 : decode cX3_fill 238 = .ok (.isub, 1) := dk_100 (dk_at dksX3_fill_9 22 rfl rfl)
theorem dX3_fill_239 : decode cX3_fill 239 = .ok (.iastore, 1) := dk_79 (dk_at dksX3_fill_9 23 rfl rfl)
theorem dX3_fill_240 : decode cX3_fill 240 = .ok (.dup, 1) := dk_89 (dk_at dksX3_fill_10 0 rfl rfl)
theorem dX3_fill_241 : decode cX3_fill 241 = .ok (.bipush 14, 2) := dk_16 14 (dk_at dksX3_fill_10 1 rfl rfl)
theorem dX3_fill_243 : decode cX3_fill 243 = .ok (.iconst 1, 1) := dk_4 (dk_at dksX3_fill_10 3 rfl rfl)
theorem dX3_fill_244 : decode cX3_fill 244 = .ok (.iastore, 1) := dk_79 (dk_at dksX3_fill_10 4 rfl rfl)
theorem dX3_fill_245 : decode cX3_fill 245 = .ok (.dup, 1) := dk_89 (dk_at dksX3_fill_10 5 rfl rfl)
theorem dX3_fill_246 : decode cX3_fill 246 = .ok (.bipush 15, 2) := dk_16 15 (dk_at dksX3_fill_10 6 rfl rfl)
theorem dX3_fill_248 : decode cX3_fill 248 = .ok (.iload_n 1, 1) := dk_27 (dk_at dksX3_fill_10 8 rfl rfl)
theorem dX3_fill_249 : decode cX3_fill 249 = .ok (.iconst 1, 1) := dk_4 (dk_at dksX3_fill_10 9 rfl rfl)
theorem dX3_fill_250 : decode cX3_fill 250 = .ok (.isub, 1) := dk_100 (dk_at dksX3_fill_10 10 rfl rfl)
theorem dX3_fill_251 : decode cX3_fill 251 = .ok (.iastore, 1) := dk_79 (dk_at dksX3_fill_10 11 rfl rfl)
theorem dX3_fill_252 : decode cX3_fill 252 = .ok (.invokevirtual 21, 3) := dk_182 0 21 (dk_at dksX3_fill_10 12 rfl rfl)
theorem dX3_fill_255 : decode cX3_fill 255 = .ok (.iload_n 3, 1) := dk_29 (dk_at dksX3_fill_10 15 rfl rfl)
theorem dX3_fill_256 : decode cX3_fill 256 = .ok (.iload_n 1, 1) := dk_27 (dk_at dksX3_fill_10 16 rfl rfl)
theorem dX3_fill_257 : decode cX3_fill 257 = .ok (.iconst 2, 1) := dk_5 (dk_at dksX3_fill_10 17 rfl rfl)
theorem dX3_fill_258 : decode cX3_fill 258 = .ok (.isub, 1) := dk_100 (dk_at dksX3_fill_10 18 rfl rfl)
theorem dX3_fill_259 : decode cX3_fill 259 = .ok (.if_icmp .ne 118, 3) := dk_160 0 118 (dk_at dksX3_fill_10 19 rfl rfl)
theorem dX3_fill_262 : decode cX3_fill 262 = .ok (.iload 4, 2) := dk_21 4 (dk_at dksX3_fill_10 22 rfl rfl)
theorem dX3_fill_264 : decode cX3_fill 264 = .ok (.ifCond .ne 113, 3) := dk_154 0 113 (dk_at dksX3_fill_11 0 rfl rfl)
theorem dX3_fill_267 : decode cX3_fill 267 = .ok (.iload_n 1, 1) := dk_27 (dk_at dksX3_fill_11 3 rfl rfl)
theorem dX3_fill_268 : decode cX3_fill 268 = .ok (.bipush 8, 2) := dk_16 8 (dk_at dksX3_fill_11 4 rfl rfl)
theorem dX3_fill_270 : decode cX3_fill 270 = .ok (.irem, 1) := dk_112 (dk_at dksX3_fill_11 6 rfl rfl)
theorem dX3_fill_271 : decode cX3_fill 271 = .ok (.iconst 4, 1) := dk_7 (dk_at dksX3_fill_11 7 rfl rfl)
theorem dX3_fill_272 : decode cX3_fill 272 = .ok (.if_icmp .ne 105, 3) := dk_160 0 105 (dk_at dksX3_fill_11 8 rfl rfl)
theorem dX3_fill_275 : decode cX3_fill 275 = .ok (.aload_n 0, 1) := dk_42 (dk_at dksX3_fill_11 11 rfl rfl)
theorem dX3_fill_276 : decode cX3_fill 276 = .ok (.iload_n 2, 1) := dk_28 (dk_at dksX3_fill_11 12 rfl rfl)
theorem dX3_fill_277 : decode cX3_fill 277 = .ok (.iinc 2 1, 3) := dk_132 2 1 (dk_at dksX3_fill_11 13 rfl rfl)
theorem dX3_fill_280 : decode cX3_fill 280 = .ok (.bipush 16, 2) := dk_16 16 (dk_at dksX3_fill_11 16 rfl rfl)
theorem dX3_fill_282 : decode cX3_fill 282 = .ok (.newarray .int, 2) := dk_188_10 (dk_at dksX3_fill_11 18 rfl rfl)
theorem dX3_fill_284 : decode cX3_fill 284 = .ok (.dup, 1) := dk_89 (dk_at dksX3_fill_11 20 rfl rfl)
theorem dX3_fill_285 : decode cX3_fill 285 = .ok (.iconst 0, 1) := dk_3 (dk_at dksX3_fill_11 21 rfl rfl)
theorem dX3_fill_286 : decode cX3_fill 286 = .ok (.iload_n 1, 1) := dk_27 (dk_at dksX3_fill_11 22 rfl rfl)
theorem dX3_fill_287 : decode cX3_fill 287 = .ok (.iconst 3, 1) := dk_6 (dk_at dksX3_fill_11 23 rfl rfl)
theorem dX3_fill_288 : decode cX3_fill 288 = .ok (.isub, 1) := dk_100 (dk_at dksX3_fill_12 0 rfl rfl)
theorem dX3_fill_289 : decode cX3_fill 289 = .ok (.iastore, 1) := dk_79 (dk_at dksX3_fill_12 1 rfl rfl)
theorem dX3_fill_290 : decode cX3_fill 290 = .ok (.dup, 1) := dk_89 (dk_at dksX3_fill_12 2 rfl rfl)
theorem dX3_fill_291 : decode cX3_fill 291 = .ok (.iconst 1, 1) := dk_4 (dk_at dksX3_fill_12 3 rfl rfl)
theorem dX3_fill_292 : decode cX3_fill 292 = .ok (.iconst 0, 1) := dk_3 (dk_at dksX3_fill_12 4 rfl rfl)
theorem dX3_fill_293 : decode cX3_fill 293 = .ok (.iastore, 1) := dk_79 (dk_at dksX3_fill_12 5 rfl rfl)
theorem dX3_fill_294 : decode cX3_fill 294 = .ok (.dup, 1) := dk_89 (dk_at dksX3_fill_12 6 rfl rfl)
theorem dX3_fill_295 : decode cX3_fill 295 = .ok (.iconst 2, 1) := dk_5 (dk_at dksX3_fill_12 7 rfl rfl)
theorem dX3_fill_296 : decode cX3_fill 296 = .ok (.iload_n 1, 1) := dk_27 (dk_at dksX3_fill_12 8 rfl rfl)
theorem dX3_fill_297 : decode cX3_fill 297 = .ok (.iconst 2, 1) := dk_5 (dk_at dksX3_fill_12 9 rfl rfl)
theorem dX3_fill_298 : decode cX3_fill 298 = .ok (.isub, 1) := dk_100 (dk_at dksX3_fill_12 10 rfl rfl)
theorem dX3_fill_299 : decode cX3_fill 299 = .ok (.iastore, 1) := dk_79 (dk_at dksX3_fill_12 11 rfl rfl)
theorem dX3_fill_300 : decode cX3_fill 300 = .ok (.dup, 1) := dk_89 (dk_at dksX3_fill_12 12 rfl rfl)
theorem dX3_fill_301 : decode cX3_fill 301 = .ok (.iconst 3, 1) := dk_6 (dk_at dksX3_fill_12 13 rfl rfl)
theorem dX3_fill_302 : decode cX3_fill 302 = .ok (.iconst 0, 1) := dk_3 (dk_at dksX3_fill_12 14 rfl rfl)
theorem dX3_fill_303 : decode cX3_fill 303 = .ok (.iastore, 1) := dk_79 (dk_at dksX3_fill_12 15 rfl rfl)
theorem dX3_fill_304 : decode cX3_fill 304 = .ok (.dup, 1) := dk_89 (dk_at dksX3_fill_12 16 rfl rfl)
theorem dX3_fill_305 : decode cX3_fill 305 = .ok (.iconst 4, 1) := dk_7 (dk_at dksX3_fill_12 17 rfl rfl)
theorem dX3_fill_306 : decode cX3_fill 306 = .ok (.iload_n 1, 1) := dk_27 (dk_at dksX3_fill_12 18 rfl rfl)
theorem dX3_fill_307 : decode cX3_fill 307 = .ok (.iconst 1, 1) := dk_4 (dk_at dksX3_fill_12 19 rfl rfl)
theorem dX3_fill_308 : decode cX3_fill 308 = .ok (.isub, 1) := dk_100 (dk_at dksX3_fill_12 20 rfl rfl)
theorem dX3_fill_309 : decode cX3_fill 309 = .ok (.iastore, 1) := dk_79 (dk_at dksX3_fill_12 21 rfl rfl)
theorem dX3_fill_310 : decode cX3_fill 310 = .ok (.dup, 1) := dk_89 (dk_at dksX3_fill_12 22 rfl rfl)
theorem dX3_fill_311 : decode cX3_fill 311 = .ok (.iconst 5, 1) := dk_8 (dk_at dksX3_fill_12 23 rfl rfl)
theorem dX3_fill_312 : decode cX3_fill 312 = .ok (.iconst 0, 1) := dk_3 (dk_at dksX3_fill_13 0 rfl rfl)
theorem dX3_fill_313 : decode cX3_fill 313 = .ok (.iastore, 1) := dk_79 (dk_at dksX3_fill_13 1 rfl rfl)
theorem dX3_fill_314 : decode cX3_fill 314 = .ok (.dup, 1) := dk_89 (dk_at dksX3_fill_13 2 rfl rfl)
theorem dX3_fill_315 : decode cX3_fill 315 = .ok (.bipush 6, 2) := dk_16 6 (dk_at dksX3_fill_13 3 rfl rfl)
theorem dX3_fill_317 : decode cX3_fill 317 = .ok (.iconst 0, 1) := dk_3 (dk_at dksX3_fill_13 5 rfl rfl)
theorem dX3_fill_318 : decode cX3_fill 318 = .ok (.iastore, 1) := dk_79 (dk_at dksX3_fill_13 6 rfl rfl)
theorem dX3_fill_319 : decode cX3_fill 319 = .ok (.dup, 1) := dk_89 (dk_at dksX3_fill_13 7 rfl rfl)
theorem dX3_fill_320 : decode cX3_fill 320 = .ok (.bipush 7, 2) := dk_16 7 (dk_at dksX3_fill_13 8 rfl rfl)
theorem dX3_fill_322 : decode cX3_fill 322 = .ok (.iload_n 1, 1) := dk_27 (dk_at dksX3_fill_13 10 rfl rfl)
theorem dX3_fill_323 : decode cX3_fill 323 = .ok (.iconst 2, 1) := dk_5 (dk_at dksX3_fill_13 11 rfl rfl)
theorem dX3_fill_324 : decode cX3_fill 324 = .ok (.isub, 1) := dk_100 (dk_at dksX3_fill_13 12 rfl rfl)
theorem dX3_fill_325 : decode cX3_fill 325 = .ok (.iastore, 1) := dk_79 (dk_at dksX3_fill_13 13 rfl rfl)
theorem dX3_fill_326 : decode cX3_fill 326 = .ok (.dup, 1) := dk_89 (dk_at dksX3_fill_13 14 rfl rfl)
theorem dX3_fill_327 : decode cX3_fill 327 = .ok (.bipush 8, 2) := dk_16 8 (dk_at dksX3_fill_13 15 rfl rfl)
theorem dX3_fill_329 : decode cX3_fill 329 = .ok (.iconst 0, 1) := dk_3 (dk_at dksX3_fill_13 17 rfl rfl)
theorem dX3_fill_330 : decode cX3_fill 330 = .ok (.iastore, 1) := dk_79 (dk_at dksX3_fill_13 18 rfl rfl)
theorem dX3_fill_331 : decode cX3_fill 331 = .ok (.dup, 1) := dk_89 (dk_at dksX3_fill_13 19 rfl rfl)
theorem dX3_fill_332 : decode cX3_fill 332 = .ok (.bipush 9, 2) := dk_16 9 (dk_at dksX3_fill_13 20 rfl rfl)
theorem dX3_fill_334 : decode cX3_fill 334 = .ok (.iload_n 1, 1) := dk_27 (dk_at dksX3_fill_13 22 rfl rfl)
theorem dX3_fill_335 : decode cX3_fill 335 = .ok (.iconst 1, 1) := dk_4 (dk_at dksX3_fill_13 23 rfl rfl)
theorem dX3_fill_336 : decode cX3_fill 336 = .ok (.isub, 1) := dk_100 (dk_at dksX3_fill_14 0 rfl rfl)
theorem dX3_fill_337 : decode cX3_fill 337 = .ok (.iastore, 1) := dk_79 (dk_at dksX3_fill_14 1 rfl rfl)
theorem dX3_fill_338 : decode cX3_fill 338 = .ok (.dup, 1) := dk_89 (dk_at dksX3_fill_14 2 rfl rfl)
theorem dX3_fill_339 : decode cX3_fill 339 = .ok (.bipush 10, 2) := dk_16 10 (dk_at dksX3_fill_14 3 rfl rfl)
theorem dX3_fill_341 : decode cX3_fill 341 = .ok (.iconst 1, 1) := dk_4 (dk_at dksX3_fill_14 5 rfl rfl)
theorem dX3_fill_342 : decode cX3_fill 342 = .ok (.iastore, 1) := dk_79 (dk_at dksX3_fill_14 6 rfl rfl)
theorem dX3_fill_343 : decode cX3_fill 343 = .ok (.dup, 1) := dk_89 (dk_at dksX3_fill_14 7 rfl rfl)
theorem dX3_fill_344 : decode cX3_fill 344 = .ok (.bipush 11, 2) := dk_16 11 (dk_at dksX3_fill_14 8 rfl rfl)
theorem dX3_fill_346 : decode cX3_fill 346 = .ok (.iload_n 1, 1) := dk_27 (dk_at dksX3_fill_14 10 rfl rfl)
theorem dX3_fill_347 : decode cX3_fill 347 = .ok (.iconst 1, 1) := dk_4 (dk_at dksX3_fill_14 11 rfl rfl)
theorem dX3_fill_348 : decode cX3_fill 348 = .ok (.isub, 1) := dk_100 (dk_at dksX3_fill_14 12 rfl rfl)
theorem dX3_fill_349 : decode cX3_fill 349 = .ok (.iastore, 1) := dk_79 (dk_at dksX3_fill_14 13 rfl rfl)
theorem dX3_fill_350 : decode cX3_fill 350 = .ok (.dup, 1) := dk_89 (dk_at dksX3_fill_14 14 rfl rfl)
theorem dX3_fill_351 : decode cX3_fill 351 = .ok (.bipush 12, 2) := dk_16 12 (dk_at dksX3_fill_14 15 rfl rfl)
theorem dX3_fill_353 : decode cX3_fill 353 = .ok (.iconst 2, 1) := dk_5 (dk_at dksX3_fill_14 17 rfl rfl)
theorem dX3_fill_354 : decode cX3_fill 354 = .ok (.iastore, 1) := dk_79 (dk_at dksX3_fill_14 18 rfl rfl)
theorem dX3_fill_355 : decode cX3_fill 355 = .ok (.dup, 1) := dk_89 (dk_at dksX3_fill_14 19 rfl rfl)
theorem dX3_fill_356 : decode cX3_fill 356 = .ok (.bipush 13, 2) := dk_16 13 (dk_at dksX3_fill_14 20 rfl rfl)
theorem dX3_fill_358 : decode cX3_fill 358 = .ok (.iload_n 1, 1) := dk_27 (dk_at dksX3_fill_14 22 rfl rfl)
theorem dX3_fill_359 : decode cX3_fill 359 = .ok (.iconst 1, 1) := dk_4 (dk_at dksX3_fill_14 23 rfl rfl)
theorem dX3_fill_360 : decode cX3_fill 360 = .ok (.isub, 1) := dk_100 (dk_at dksX3_fill_15 0 rfl rfl)
theorem dX3_fill_361 : decode cX3_fill 361 = .ok (.iastore, 1) := dk_79 (dk_at dksX3_fill_15 1 rfl rfl)
theorem dX3_fill_362 : decode cX3_fill 362 = .ok (.dup, 1) := dk_89 (dk_at dksX3_fill_15 2 rfl rfl)
theorem dX3_fill_363 : decode cX3_fill 363 = .ok (.bipush 14, 2) := dk_16 14 (dk_at dksX3_fill_15 3 rfl rfl)
theorem dX3_fill_365 : decode cX3_fill 365 = .ok (.iconst 3, 1) := dk_6 (dk_at dksX3_fill_15 5 rfl rfl)
theorem dX3_fill_366 : decode cX3_fill 366 = .ok (.iastore, 1) := dk_79 (dk_at dksX3_fill_15 6 rfl rfl)
theorem dX3_fill_367 : decode cX3_fill 367 = .ok (.dup, 1) := dk_89 (dk_at dksX3_fill_15 7 rfl rfl)
theorem dX3_fill_368 : decode cX3_fill 368 = .ok (.bipush 15, 2) := dk_16 15 (dk_at dksX3_fill_15 8 rfl rfl)
theorem dX3_fill_370 : decode cX3_fill 370 = .ok (.iload_n 1, 1) := dk_27 (dk_at dksX3_fill_15 10 rfl rfl)
theorem dX3_fill_371 : decode cX3_fill 371 = .ok (.iconst 1, 1) := dk_4 (dk_at dksX3_fill_15 11 rfl rfl)
theorem dX3_fill_372 : decode cX3_fill 372 = .ok (.isub, 1) := dk_100 (dk_at dksX3_fill_15 12 rfl rfl)
theorem dX3_fill_373 : decode cX3_fill 373 = .ok (.iastore, 1) := dk_79 (dk_at dksX3_fill_15 13 rfl rfl)
theorem dX3_fill_374 : decode cX3_fill 374 = .ok (.invokevirtual 21, 3) := dk_182 0 21 (dk_at dksX3_fill_15 14 rfl rfl)
theorem dX3_fill_377 : decode cX3_fill 377 = .ok (.iload_n 3, 1) := dk_29 (dk_at dksX3_fill_15 17 rfl rfl)
theorem dX3_fill_378 : decode cX3_fill 378 = .ok (.iload_n 1, 1) := dk_27 (dk_at dksX3_fill_15 18 rfl rfl)
theorem dX3_fill_379 : decode cX3_fill 379 = .ok (.iconst 4, 1) := dk_7 (dk_at dksX3_fill_15 19 rfl rfl)
theorem dX3_fill_380 : decode cX3_fill 380 = .ok (.iadd, 1) := dk_96 (dk_at dksX3_fill_15 20 rfl rfl)
theorem dX3_fill_381 : decode cX3_fill 381 = .ok (.if_icmp .ne 120, 3) := dk_160 0 120 (dk_at dksX3_fill_15 21 rfl rfl)
theorem dX3_fill_384 : decode cX3_fill 384 = .ok (.iload 4, 2) := dk_21 4 (dk_at dksX3_fill_16 0 rfl rfl)
theorem dX3_fill_386 : decode cX3_fill 386 = .ok (.iconst 2, 1) := dk_5 (dk_at dksX3_fill_16 2 rfl rfl)
theorem dX3_fill_387 : decode cX3_fill 387 = .ok (.if_icmp .ne 114, 3) := dk_160 0 114 (dk_at dksX3_fill_16 3 rfl rfl)
theorem dX3_fill_390 : decode cX3_fill 390 = .ok (.iload_n 1, 1) := dk_27 (dk_at dksX3_fill_16 6 rfl rfl)
theorem dX3_fill_391 : decode cX3_fill 391 = .ok (.bipush 8, 2) := dk_16 8 (dk_at dksX3_fill_16 7 rfl rfl)
theorem dX3_fill_393 : decode cX3_fill 393 = .ok (.irem, 1) := dk_112 (dk_at dksX3_fill_16 9 rfl rfl)
theorem dX3_fill_394 : decode cX3_fill 394 = .ok (.ifCond .ne 107, 3) := dk_154 0 107 (dk_at dksX3_fill_16 10 rfl rfl)
theorem dX3_fill_397 : decode cX3_fill 397 = .ok (.aload_n 0, 1) := dk_42 (dk_at dksX3_fill_16 13 rfl rfl)
theorem dX3_fill_398 : decode cX3_fill 398 = .ok (.iload_n 2, 1) := dk_28 (dk_at dksX3_fill_16 14 rfl rfl)
theorem dX3_fill_399 : decode cX3_fill 399 = .ok (.iinc 2 1, 3) := dk_132 2 1 (dk_at dksX3_fill_16 15 rfl rfl)
theorem dX3_fill_402 : decode cX3_fill 402 = .ok (.bipush 16, 2) := dk_16 16 (dk_at dksX3_fill_16 18 rfl rfl)
theorem dX3_fill_404 : decode cX3_fill 404 = .ok (.newarray .int, 2) := dk_188_10 (dk_at dksX3_fill_16 20 rfl rfl)
theorem dX3_fill_406 : decode cX3_fill 406 = .ok (.dup, 1) := dk_89 (dk_at dksX3_fill_16 22 rfl rfl)
theorem dX3_fill_407 : decode cX3_fill 407 = .ok (.iconst 0, 1) := dk_3 (dk_at dksX3_fill_16 23 rfl rfl)
theorem dX3_fill_408 : decode cX3_fill 408 = .ok (.iload_n 1, 1) := dk_27 (dk_at dksX3_fill_17 0 rfl rfl)
theorem dX3_fill_409 : decode cX3_fill 409 = .ok (.iconst 1, 1) := dk_4 (dk_at dksX3_fill_17 1 rfl rfl)
theorem dX3_fill_410 : decode cX3_fill 410 = .ok (.isub, 1) := dk_100 (dk_at dksX3_fill_17 2 rfl rfl)
theorem dX3_fill_411 : decode cX3_fill 411 = .ok (.iastore, 1) := dk_79 (dk_at dksX3_fill_17 3 rfl rfl)
theorem dX3_fill_412 : decode cX3_fill 412 = .ok (.dup, 1) := dk_89 (dk_at dksX3_fill_17 4 rfl rfl)
theorem dX3_fill_413 : decode cX3_fill 413 = .ok (.iconst 1, 1) := dk_4 (dk_at dksX3_fill_17 5 rfl rfl)
theorem dX3_fill_414 : decode cX3_fill 414 = .ok (.iconst 0, 1) := dk_3 (dk_at dksX3_fill_17 6 rfl rfl)
theorem dX3_fill_415 : decode cX3_fill 415 = .ok (.iastore, 1) := dk_79 (dk_at dksX3_fill_17 7 rfl rfl)
theorem dX3_fill_416 : decode cX3_fill 416 = .ok (.dup, 1) := dk_89 (dk_at dksX3_fill_17 8 rfl rfl)
theorem dX3_fill_417 : decode cX3_fill 417 = .ok (.iconst 2, 1) := dk_5 (dk_at dksX3_fill_17 9 rfl rfl)
theorem dX3_fill_418 : decode cX3_fill 418 = .ok (.iload_n 1, 1) := dk_27 (dk_at dksX3_fill_17 10 rfl rfl)
theorem dX3_fill_419 : decode cX3_fill 419 = .ok (.iconst 1, 1) := dk_4 (dk_at dksX3_fill_17 11 rfl rfl)
theorem dX3_fill_420 : decode cX3_fill 420 = .ok (.isub, 1) := dk_100 (dk_at dksX3_fill_17 12 rfl rfl)
theorem dX3_fill_421 : decode cX3_fill 421 = .ok (.iastore, 1) := dk_79 (dk_at dksX3_fill_17 13 rfl rfl)
theorem dX3_fill_422 : decode cX3_fill 422 = .ok (.dup, 1) := dk_89 (dk_at dksX3_fill_17 14 rfl rfl)
theorem dX3_fill_423 : decode cX3_fill 423 = .ok (.iconst 3, 1) := dk_6 (dk_at dksX3_fill_17 15 rfl rfl)
theorem dX3_fill_424 : decode cX3_fill 424 = .ok (.iload_n 1, 1) := dk_27 (dk_at dksX3_fill_17 16 rfl rfl)
theorem dX3_fill_425 : decode cX3_fill 425 = .ok (.iconst 1, 1) := dk_4 (dk_at dksX3_fill_17 17 rfl rfl)
theorem dX3_fill_426 : decode cX3_fill 426 = .ok (.isub, 1) := dk_100 (dk_at dksX3_fill_17 18 rfl rfl)
theorem dX3_fill_427 : decode cX3_fill 427 = .ok (.iastore, 1) := dk_79 (dk_at dksX3_fill_17 19 rfl rfl)
theorem dX3_fill_428 : decode cX3_fill 428 = .ok (.dup, 1) := dk_89 (dk_at dksX3_fill_17 20 rfl rfl)
theorem dX3_fill_429 : decode cX3_fill 429 = .ok (.iconst 4, 1) := dk_7 (dk_at dksX3_fill_17 21 rfl rfl)
theorem dX3_fill_430 : decode cX3_fill 430 = .ok (.iconst 0, 1) := dk_3 (dk_at dksX3_fill_17 22 rfl rfl)
theorem dX3_fill_431 : decode cX3_fill 431 = .ok (.iastore, 1) := dk_79 (dk_at dksX3_fill_17 23 rfl rfl)
theorem dX3_fill_432 : decode cX3_fill 432 = .ok (.dup, 1) := dk_89 (dk_at dksX3_fill_18 0 rfl rfl)
theorem dX3_fill_433 : decode cX3_fill 433 = .ok (.iconst 5, 1) := dk_8 (dk_at dksX3_fill_18 1 rfl rfl)
theorem dX3_fill_434 : decode cX3_fill 434 = .ok (.iload_n 1, 1) := dk_27 (dk_at dksX3_fill_18 2 rfl rfl)
theorem dX3_fill_435 : decode cX3_fill 435 = .ok (.iconst 3, 1) := dk_6 (dk_at dksX3_fill_18 3 rfl rfl)
theorem dX3_fill_436 : decode cX3_fill 436 = .ok (.isub, 1) := dk_100 (dk_at dksX3_fill_18 4 rfl rfl)
theorem dX3_fill_437 : decode cX3_fill 437 = .ok (.iastore, 1) := dk_79 (dk_at dksX3_fill_18 5 rfl rfl)
theorem dX3_fill_438 : decode cX3_fill 438 = .ok (.dup, 1) := dk_89 (dk_at dksX3_fill_18 6 rfl rfl)
theorem dX3_fill_439 : decode cX3_fill 439 = .ok (.bipush 6, 2) := dk_16 6 (dk_at dksX3_fill_18 7 rfl rfl)
theorem dX3_fill_441 : decode cX3_fill 441 = .ok (.iconst 0, 1) := dk_3 (dk_at dksX3_fill_18 9 rfl rfl)
theorem dX3_fill_442 : decode cX3_fill 442 = .ok (.iastore, 1) := dk_79 (dk_at dksX3_fill_18 10 rfl rfl)
theorem dX3_fill_443 : decode cX3_fill 443 = .ok (.dup, 1) := dk_89 (dk_at dksX3_fill_18 11 rfl rfl)
theorem dX3_fill_444 : decode cX3_fill 444 = .ok (.bipush 7, 2) := dk_16 7 (dk_at dksX3_fill_18 12 rfl rfl)
theorem dX3_fill_446 : decode cX3_fill 446 = .ok (.iload_n 1, 1) := dk_27 (dk_at dksX3_fill_18 14 rfl rfl)
theorem dX3_fill_447 : decode cX3_fill 447 = .ok (.iconst 2, 1) := dk_5 (dk_at dksX3_fill_18 15 rfl rfl)
theorem dX3_fill_448 : decode cX3_fill 448 = .ok (.isub, 1) := dk_100 (dk_at dksX3_fill_18 16 rfl rfl)
theorem dX3_fill_449 : decode cX3_fill 449 = .ok (.iastore, 1) := dk_79 (dk_at dksX3_fill_18 17 rfl rfl)
theorem dX3_fill_450 : decode cX3_fill 450 = .ok (.dup, 1) := dk_89 (dk_at dksX3_fill_18 18 rfl rfl)
theorem dX3_fill_451 : decode cX3_fill 451 = .ok (.bipush 8, 2) := dk_16 8 (dk_at dksX3_fill_18 19 rfl rfl)
theorem dX3_fill_453 : decode cX3_fill 453 = .ok (.iconst 0, 1) := dk_3 (dk_at dksX3_fill_18 21 rfl rfl)
theorem dX3_fill_454 : decode cX3_fill 454 = .ok (.iastore, 1) := dk_79 (dk_at dksX3_fill_18 22 rfl rfl)
theorem dX3_fill_455 : decode cX3_fill 455 = .ok (.dup, 1) := dk_89 (dk_at dksX3_fill_18 23 rfl rfl)
theorem dX3_fill_456 : decode cX3_fill 456 = .ok (.bipush 9, 2) := dk_16 9 (dk_at dksX3_fill_19 0 rfl rfl)
theorem dX3_fill_458 : decode cX3_fill 458 = .ok (.iload_n 1, 1) := dk_27 (dk_at dksX3_fill_19 2 rfl rfl)
theorem dX3_fill_459 : decode cX3_fill 459 = .ok (.iconst 1, 1) := dk_4 (dk_at dksX3_fill_19 3 rfl rfl)
theorem dX3_fill_460 : decode cX3_fill 460 = .ok (.isub, 1) := dk_100 (dk_at dksX3_fill_19 4 rfl rfl)
theorem dX3_fill_461 : decode cX3_fill 461 = .ok (.iastore, 1) := dk_79 (dk_at dksX3_fill_19 5 rfl rfl)
theorem dX3_fill_462 : decode cX3_fill 462 = .ok (.dup, 1) := dk_89 (dk_at dksX3_fill_19 6 rfl rfl)
theorem dX3_fill_463 : decode cX3_fill 463 = .ok (.bipush 10, 2) := dk_16 10 (dk_at dksX3_fill_19 7 rfl rfl)
theorem dX3_fill_465 : decode cX3_fill 465 = .ok (.iconst 1, 1) := dk_4 (dk_at dksX3_fill_19 9 rfl rfl)
theorem dX3_fill_466 : decode cX3_fill 466 = .ok (.iastore, 1) := dk_79 (dk_at dksX3_fill_19 10 rfl rfl)
theorem dX3_fill_467 : decode cX3_fill 467 = .ok (.dup, 1) := dk_89 (dk_at dksX3_fill_19 11 rfl rfl)
theorem dX3_fill_468 : decode cX3_fill 468 = .ok (.bipush 11, 2) := dk_16 11 (dk_at dksX3_fill_19 12 rfl rfl)
theorem dX3_fill_470 : decode cX3_fill 470 = .ok (.iload_n 1, 1) := dk_27 (dk_at dksX3_fill_19 14 rfl rfl)
theorem dX3_fill_471 : decode cX3_fill 471 = .ok (.iconst 3, 1) := dk_6 (dk_at dksX3_fill_19 15 rfl rfl)
theorem dX3_fill_472 : decode cX3_fill 472 = .ok (.isub, 1) := dk_100 (dk_at dksX3_fill_19 16 rfl rfl)
theorem dX3_fill_473 : decode cX3_fill 473 = .ok (.iastore, 1) := dk_79 (dk_at dksX3_fill_19 17 rfl rfl)
theorem dX3_fill_474 : decode cX3_fill 474 = .ok (.dup, 1) := dk_89 (dk_at dksX3_fill_19 18 rfl rfl)
theorem dX3_fill_475 : decode cX3_fill 475 = .ok (.bipush 12, 2) := dk_16 12 (dk_at dksX3_fill_19 19 rfl rfl)
theorem dX3_fill_477 : decode cX3_fill 477 = .ok (.iconst 1, 1) := dk_4 (dk_at dksX3_fill_19 21 rfl rfl)
theorem dX3_fill_478 : decode cX3_fill 478 = .ok (.iastore, 1) := dk_79 (dk_at dksX3_fill_19 22 rfl rfl)
theorem dX3_fill_479 : decode cX3_fill 479 = .ok (.dup, 1) := dk_89 (dk_at dksX3_fill_19 23 rfl rfl)
theorem dX3_fill_480 : decode cX3_fill 480 = .ok (.bipush 13, 2) := dk_16 13 (dk_at dksX3_fill_20 0 rfl rfl)
theorem dX3_fill_482 : decode cX3_fill 482 = .ok (.iload_n 1, 1) := dk_27 (dk_at dksX3_fill_20 2 rfl rfl)
theorem dX3_fill_483 : decode cX3_fill 483 = .ok (.iconst 2, 1) := dk_5 (dk_at dksX3_fill_20 3 rfl rfl)
theorem dX3_fill_484 : decode cX3_fill 484 = .ok (.isub, 1) := dk_100 (dk_at dksX3_fill_20 4 rfl rfl)
theorem dX3_fill_485 : decode cX3_fill 485 = .ok (.iastore, 1) := dk_79 (dk_at dksX3_fill_20 5 rfl rfl)
theorem dX3_fill_486 : decode cX3_fill 486 = .ok (.dup, 1) := dk_89 (dk_at dksX3_fill_20 6 rfl rfl)
theorem dX3_fill_487 : decode cX3_fill 487 = .ok (.bipush 14, 2) := dk_16 14 (dk_at dksX3_fill_20 7 rfl rfl)
theorem dX3_fill_489 : decode cX3_fill 489 = .ok (.iconst 1, 1) := dk_4 (dk_at dksX3_fill_20 9 rfl rfl)
theorem dX3_fill_490 : decode cX3_fill 490 = .ok (.iastore, 1) := dk_79 (dk_at dksX3_fill_20 10 rfl rfl)
theorem dX3_fill_491 : decode cX3_fill 491 = .ok (.dup, 1) := dk_89 (dk_at dksX3_fill_20 11 rfl rfl)
theorem dX3_fill_492 : decode cX3_fill 492 = .ok (.bipush 15, 2) := dk_16 15 (dk_at dksX3_fill_20 12 rfl rfl)
theorem dX3_fill_494 : decode cX3_fill 494 = .ok (.iload_n 1, 1) := dk_27 (dk_at dksX3_fill_20 14 rfl rfl)
theorem dX3_fill_495 : decode cX3_fill 495 = .ok (.iconst 1, 1) := dk_4 (dk_at dksX3_fill_20 15 rfl rfl)
theorem dX3_fill_496 : decode cX3_fill 496 = .ok (.isub, 1) := dk_100 (dk_at dksX3_fill_20 16 rfl rfl)
theorem dX3_fill_497 : decode cX3_fill 497 = .ok (.iastore, 1) := dk_79 (dk_at dksX3_fill_20 17 rfl rfl)
theorem dX3_fill_498 : decode cX3_fill 498 = .ok (.invokevirtual 21, 3) := dk_182 0 21 (dk_at dksX3_fill_20 18 rfl rfl)
theorem dX3_fill_501 : decode cX3_fill 501 = .ok (.aload_n 0, 1) := dk_42 (dk_at dksX3_fill_20 21 rfl rfl)
theorem dX3_fill_502 : decode cX3_fill 502 = .ok (.iload_n 3, 1) := dk_29 (dk_at dksX3_fill_20 22 rfl rfl)
theorem dX3_fill_503 : decode cX3_fill 503 = .ok (.iload 4, 2) := dk_21 4 (dk_at dksX3_fill_21 0 rfl rfl)
theorem dX3_fill_505 : decode cX3_fill 505 = .ok (.invokevirtual 25, 3) := dk_182 0 25 (dk_at dksX3_fill_21 2 rfl rfl)
theorem dX3_fill_508 : decode cX3_fill 508 = .ok (.ifCond .eq 14, 3) := dk_153 0 14 (dk_at dksX3_fill_21 5 rfl rfl)
theorem dX3_fill_511 : decode cX3_fill 511 = .ok (.aload_n 0, 1) := dk_42 (dk_at dksX3_fill_21 8 rfl rfl)
theorem dX3_fill_512 : decode cX3_fill 512 = .ok (.iload_n 3, 1) := dk_29 (dk_at dksX3_fill_21 9 rfl rfl)
theorem dX3_fill_513 : decode cX3_fill 513 = .ok (.iload 4, 2) := dk_21 4 (dk_at dksX3_fill_21 10 rfl rfl)
theorem dX3_fill_515 : decode cX3_fill 515 = .ok (.iload_n 2, 1) := dk_28 (dk_at dksX3_fill_21 12 rfl rfl)
theorem dX3_fill_516 : decode cX3_fill 516 = .ok (.iinc 2 1, 3) := dk_132 2 1 (dk_at dksX3_fill_21 13 rfl rfl)
theorem dX3_fill_519 : decode cX3_fill 519 = .ok (.invokevirtual 29, 3) := dk_182 0 29 (dk_at dksX3_fill_21 16 rfl rfl)
theorem dX3_fill_522 : decode cX3_fill 522 = .ok (.iinc 3 (-2), 3) := dk_132 3 254 (dk_at dksX3_fill_21 19 rfl rfl)
theorem dX3_fill_525 : decode cX3_fill 525 = .ok (.iinc 4 2, 3) := dk_132 4 2 (dk_at dksX3_fill_22 0 rfl rfl)
theorem dX3_fill_528 : decode cX3_fill 528 = .ok (.iload_n 3, 1) := dk_29 (dk_at dksX3_fill_22 3 rfl rfl)
theorem dX3_fill_529 : decode cX3_fill 529 = .ok (.ifCond .lt 9, 3) := dk_155 0 9 (dk_at dksX3_fill_22 4 rfl rfl)
theorem dX3_fill_532 : decode cX3_fill 532 = .ok (.iload 4, 2) := dk_21 4 (dk_at dksX3_fill_22 7 rfl rfl)
theorem dX3_fill_534 : decode cX3_fill 534 = .ok (.iload_n 1, 1) := dk_27 (dk_at dksX3_fill_22 9 rfl rfl)
theorem dX3_fill_535 : decode cX3_fill 535 = .ok (.if_icmp .lt (-34), 3) := dk_161 255 222 (dk_at dksX3_fill_22 10 rfl rfl)
theorem dX3_fill_538 : decode cX3_fill 538 = .ok (.iinc 3 1, 3) := dk_132 3 1 (dk_at dksX3_fill_22 13 rfl rfl)
theorem dX3_fill_541 : decode cX3_fill 541 = .ok (.iinc 4 3, 3) := dk_132 4 3 (dk_at dksX3_fill_22 16 rfl rfl)
theorem dX3_fill_544 : decode cX3_fill 544 = .ok (.aload_n 0, 1) := dk_42 (dk_at dksX3_fill_22 19 rfl rfl)
theorem dX3_fill_545 : decode cX3_fill 545 = .ok (.iload_n 3, 1) := dk_29 (dk_at dksX3_fill_22 20 rfl rfl)
theorem dX3_fill_546 : decode cX3_fill 546 = .ok (.iload 4, 2) := dk_21 4 (dk_at dksX3_fill_22 21 rfl rfl)
theorem dX3_fill_548 : decode cX3_fill 548 = .ok (.invokevirtual 25, 3) := dk_182 0 25 (dk_at dksX3_fill_23 0 rfl rfl)
theorem dX3_fill_551 : decode cX3_fill 551 = .ok (.ifCond .eq 14, 3) := dk_153 0 14 (dk_at dksX3_fill_23 3 rfl rfl)
theorem dX3_fill_554 : decode cX3_fill 554 = .ok (.aload_n 0, 1) := dk_42 (dk_at dksX3_fill_23 6 rfl rfl)
theorem dX3_fill_555 : decode cX3_fill 555 = .ok (.iload_n 3, 1) := dk_29 (dk_at dksX3_fill_23 7 rfl rfl)
theorem dX3_fill_556 : decode cX3_fill 556 = .ok (.iload 4, 2) := dk_21 4 (dk_at dksX3_fill_23 8 rfl rfl)
theorem dX3_fill_558 : decode cX3_fill 558 = .ok (.iload_n 2, 1) := dk_28 (dk_at dksX3_fill_23 10 rfl rfl)
theorem dX3_fill_559 : decode cX3_fill 559 = .ok (.iinc 2 1, 3) := dk_132 2 1 (dk_at dksX3_fill_23 11 rfl rfl)
theorem dX3_fill_562 : decode cX3_fill 562 = .ok (.invokevirtual 29, 3) := dk_182 0 29 (dk_at dksX3_fill_23 14 rfl rfl)
theorem dX3_fill_565 : decode cX3_fill 565 = .ok (.iinc 3 2, 3) := dk_132 3 2 (dk_at dksX3_fill_23 17 rfl rfl)
theorem dX3_fill_568 : decode cX3_fill 568 = .ok (.iinc 4 (-2), 3) := dk_132 4 254 (dk_at dksX3_fill_23 20 rfl rfl)
theorem dX3_fill_571 : decode cX3_fill 571 = .ok (.iload_n 3, 1) := dk_29 (dk_at dksX3_fill_23 23 rfl rfl)
theorem dX3_fill_572 : decode cX3_fill 572 = .ok (.iload_n 1, 1) := dk_27 (dk_at dksX3_fill_24 0 rfl rfl)
theorem dX3_fill_573 : decode cX3_fill 573 = .ok (.if_icmp .ge 8, 3) := dk_162 0 8 (dk_at dksX3_fill_24 1 rfl rfl)
theorem dX3_fill_576 : decode cX3_fill 576 = .ok (.iload 4, 2) := dk_21 4 (dk_at dksX3_fill_24 4 rfl rfl)
theorem dX3_fill_578 : decode cX3_fill 578 = .ok (.ifCond .ge (-34), 3) := dk_156 255 222 (dk_at dksX3_fill_24 6 rfl rfl)
theorem dX3_fill_581 : decode cX3_fill 581 = .ok (.iinc 3 3, 3) := dk_132 3 3 (dk_at dksX3_fill_24 9 rfl rfl)
theorem dX3_fill_584 : decode cX3_fill 584 = .ok (.iinc 4 1, 3) := dk_132 4 1 (dk_at dksX3_fill_24 12 rfl rfl)
theorem dX3_fill_587 : decode cX3_fill 587 = .ok (.goto (-575), 3) := dk_167 253 193 (dk_at dksX3_fill_24 15 rfl rfl)
theorem dX3_fill_590 : decode cX3_fill 590 = .ok (.return_, 1) := dk_177 (dk_at dksX3_fill_24 18 rfl rfl)
abbrev cX3_word : ByteArray := prog_4_method_3_code
def yX3_word : MethodName := ⟨RX3, "word", "(I[I)V"⟩
def dkwX3_word_1 : List UInt8 := [182, 0, 17, 132, 3, 1, 167, 255, 229, 177]
abbrev dktX3_word_1 : List UInt8 := dkwX3_word_1 ++ []
def dkwX3_word_0 : List UInt8 := [3, 62, 29, 16, 8, 162, 0, 27, 42, 44, 5, 29, 104, 46, 44, 5, 29, 104, 4, 96, 46, 27, 29]
abbrev dktX3_word_0 : List UInt8 := dkwX3_word_0 ++ dktX3_word_1
theorem dksX3_word_0 : cX3_word.data.toList.drop 0 = dktX3_word_0 := by decide +kernel
theorem dksX3_word_1 : cX3_word.data.toList.drop 23 = dktX3_word_1 := dk_seg dksX3_word_0 23 rfl rfl
theorem dX3_word_0 : decode cX3_word 0 = .ok (.iconst 0, 1) := dk_3 (dk_at dksX3_word_0 0 rfl rfl)
theorem dX3_word_1 : decode cX3_word 1 = .ok (.istore_n 3, 1) := dk_62 (dk_at dksX3_word_0 1 rfl rfl)
theorem dX3_word_2 : decode cX3_word 2 = .ok (.iload_n 3, 1) := dk_29 (dk_at dksX3_word_0 2 rfl rfl)
theorem dX3_word_3 : decode cX3_word 3 = .ok (.bipush 8, 2) := dk_16 8 (dk_at dksX3_word_0 3 rfl rfl)
theorem dX3_word_5 : decode cX3_word 5 = .ok (.if_icmp .ge 27, 3) := dk_162 0 27 (dk_at dksX3_word_0 5 rfl rfl)
theorem dX3_word_8 : decode cX3_word 8 = .ok (.aload_n 0, 1) := dk_42 (dk_at dksX3_word_0 8 rfl rfl)
theorem dX3_word_9 : decode cX3_word 9 = .ok (.aload_n 2, 1) := dk_44 (dk_at dksX3_word_0 9 rfl rfl)
theorem dX3_word_10 : decode cX3_word 10 = .ok (.iconst 2, 1) := dk_5 (dk_at dksX3_word_0 10 rfl rfl)
theorem dX3_word_11 : decode cX3_word 11 = .ok (.iload_n 3, 1) := dk_29 (dk_at dksX3_word_0 11 rfl rfl)
theorem dX3_word_12 : decode cX3_word 12 = .ok (.imul, 1) := dk_104 (dk_at dksX3_word_0 12 rfl rfl)
theorem dX3_word_13 : decode cX3_word 13 = .ok (.iaload, 1) := dk_46 (dk_at dksX3_word_0 13 rfl rfl)
theorem dX3_word_14 : decode cX3_word 14 = .ok (.aload_n 2, 1) := dk_44 (dk_at dksX3_word_0 14 rfl rfl)
theorem dX3_word_15 : decode cX3_word 15 = .ok (.iconst 2, 1) := dk_5 (dk_at dksX3_word_0 15 rfl rfl)
theorem dX3_word_16 : decode cX3_word 16 = .ok (.iload_n 3, 1) := dk_29 (dk_at dksX3_word_0 16 rfl rfl)
theorem dX3_word_17 : decode cX3_word 17 = .ok (.imul, 1) := dk_104 (dk_at dksX3_word_0 17 rfl rfl)
theorem dX3_word_18 : decode cX3_word 18 = .ok (.iconst 1, 1) := dk_4 (dk_at dksX3_word_0 18 rfl rfl)
theorem dX3_word_19 : decode cX3_word 19 = .ok (.iadd, 1) := dk_96 (dk_at dksX3_word_0 19 rfl rfl)
theorem dX3_word_20 : decode cX3_word 20 = .ok (.iaload, 1) := dk_46 (dk_at dksX3_word_0 20 rfl rfl)
theorem dX3_word_21 : decode cX3_word 21 = .ok (.iload_n 1, 1) := dk_27 (dk_at dksX3_word_0 21 rfl rfl)
theorem dX3_word_22 : decode cX3_word 22 = .ok (.iload_n 3, 1) := dk_29 (dk_at dksX3_word_0 22 rfl rfl)
theorem dX3_word_23 : decode cX3_word 23 = .ok (.invokevirtual 17, 3) := dk_182 0 17 (dk_at dksX3_word_1 0 rfl rfl)
theorem dX3_word_26 : decode cX3_word 26 = .ok (.iinc 3 1, 3) := dk_132 3 1 (dk_at dksX3_word_1 3 rfl rfl)
theorem dX3_word_29 : decode cX3_word 29 = .ok (.goto (-27), 3) := dk_167 255 229 (dk_at dksX3_word_1 6 rfl rfl)
theorem dX3_word_32 : decode cX3_word 32 = .ok (.return_, 1) := dk_177 (dk_at dksX3_word_1 9 rfl rfl)
abbrev cX3_module : ByteArray := prog_4_method_2_code
def yX3_module : MethodName := ⟨RX3, "module", "(IIII)V"⟩
def dkwX3_module_3 : List UInt8 := [180, 0, 7, 21, 5, 104, 21, 6, 96, 16, 8, 29, 104, 21, 4, 96, 79, 177]
abbrev dktX3_module_3 : List UInt8 := dkwX3_module_3 ++ []
def dkwX3_module_2 : List UInt8 := [54, 6, 21, 5, 7, 42, 180, 0, 7, 7, 96, 16, 8, 112, 100, 96, 54, 5, 42, 180, 0, 13, 42]
abbrev dktX3_module_2 : List UInt8 := dkwX3_module_2 ++ dktX3_module_3
def dkwX3_module_1 : List UInt8 := [180, 0, 7, 7, 96, 16, 8, 112, 100, 96, 54, 6, 21, 6, 156, 0, 28, 21, 6, 42, 180, 0, 7, 96]
abbrev dktX3_module_1 : List UInt8 := dkwX3_module_1 ++ dktX3_module_2
def dkwX3_module_0 : List UInt8 := [27, 54, 5, 28, 54, 6, 21, 5, 156, 0, 28, 21, 5, 42, 180, 0, 7, 96, 54, 5, 21, 6, 7, 42]
abbrev dktX3_module_0 : List UInt8 := dkwX3_module_0 ++ dktX3_module_1
theorem dksX3_module_0 : cX3_module.data.toList.drop 0 = dktX3_module_0 := by decide +kernel
theorem dksX3_module_1 : cX3_module.data.toList.drop 24 = dktX3_module_1 := dk_seg dksX3_module_0 24 rfl rfl
theorem dksX3_module_2 : cX3_module.data.toList.drop 48 = dktX3_module_2 := dk_seg dksX3_module_1 24 rfl rfl
theorem dksX3_module_3 : cX3_module.data.toList.drop 71 = dktX3_module_3 := dk_seg dksX3_module_2 23 rfl rfl
theorem dX3_module_0 : decode cX3_module 0 = .ok (.iload_n 1, 1) := dk_27 (dk_at dksX3_module_0 0 rfl rfl)
theorem dX3_module_1 : decode cX3_module 1 = .ok (.istore 5, 2) := dk_54 5 (dk_at dksX3_module_0 1 rfl rfl)
theorem dX3_module_3 : decode cX3_module 3 = .ok (.iload_n 2, 1) := dk_28 (dk_at dksX3_module_0 3 rfl rfl)
theorem dX3_module_4 : decode cX3_module 4 = .ok (.istore 6, 2) := dk_54 6 (dk_at dksX3_module_0 4 rfl rfl)
theorem dX3_module_6 : decode cX3_module 6 = .ok (.iload 5, 2) := dk_21 5 (dk_at dksX3_module_0 6 rfl rfl)
theorem dX3_module_8 : decode cX3_module 8 = .ok (.ifCond .ge 28, 3) := dk_156 0 28 (dk_at dksX3_module_0 8 rfl rfl)
theorem dX3_module_11 : decode cX3_module 11 = .ok (.iload 5, 2) := dk_21 5 (dk_at dksX3_module_0 11 rfl rfl)
theorem dX3_module_13 : decode cX3_module 13 = .ok (.aload_n 0, 1) := dk_42 (dk_at dksX3_module_0 13 rfl rfl)
theorem dX3_module_14 : decode cX3_module 14 = .ok (.getfield 7, 3) := dk_180 0 7 (dk_at dksX3_module_0 14 rfl rfl)
theorem dX3_module_17 : decode cX3_module 17 = .ok (.iadd, 1) := dk_96 (dk_at dksX3_module_0 17 rfl rfl)
theorem dX3_module_18 : decode cX3_module 18 = .ok (.istore 5, 2) := dk_54 5 (dk_at dksX3_module_0 18 rfl rfl)
theorem dX3_module_20 : decode cX3_module 20 = .ok (.iload 6, 2) := dk_21 6 (dk_at dksX3_module_0 20 rfl rfl)
theorem dX3_module_22 : decode cX3_module 22 = .ok (.iconst 4, 1) := dk_7 (dk_at dksX3_module_0 22 rfl rfl)
theorem dX3_module_23 : decode cX3_module 23 = .ok (.aload_n 0, 1) := dk_42 (dk_at dksX3_module_0 23 rfl rfl)
theorem dX3_module_24 : decode cX3_module 24 = .ok (.getfield 7, 3) := dk_180 0 7 (dk_at dksX3_module_1 0 rfl rfl)
theorem dX3_module_27 : decode cX3_module 27 = .ok (.iconst 4, 1) := dk_7 (dk_at dksX3_module_1 3 rfl rfl)
theorem dX3_module_28 : decode cX3_module 28 = .ok (.iadd, 1) := dk_96 (dk_at dksX3_module_1 4 rfl rfl)
theorem dX3_module_29 : decode cX3_module 29 = .ok (.bipush 8, 2) := dk_16 8 (dk_at dksX3_module_1 5 rfl rfl)
theorem dX3_module_31 : decode cX3_module 31 = .ok (.irem, 1) := dk_112 (dk_at dksX3_module_1 7 rfl rfl)
theorem dX3_module_32 : decode cX3_module 32 = .ok (.isub, 1) := dk_100 (dk_at dksX3_module_1 8 rfl rfl)
theorem dX3_module_33 : decode cX3_module 33 = .ok (.iadd, 1) := dk_96 (dk_at dksX3_module_1 9 rfl rfl)
theorem dX3_module_34 : decode cX3_module 34 = .ok (.istore 6, 2) := dk_54 6 (dk_at dksX3_module_1 10 rfl rfl)
theorem dX3_module_36 : decode cX3_module 36 = .ok (.iload 6, 2) := dk_21 6 (dk_at dksX3_module_1 12 rfl rfl)
theorem dX3_module_38 : decode cX3_module 38 = .ok (.ifCond .ge 28, 3) := dk_156 0 28 (dk_at dksX3_module_1 14 rfl rfl)
theorem dX3_module_41 : decode cX3_module 41 = .ok (.iload 6, 2) := dk_21 6 (dk_at dksX3_module_1 17 rfl rfl)
theorem dX3_module_43 : decode cX3_module 43 = .ok (.aload_n 0, 1) := dk_42 (dk_at dksX3_module_1 19 rfl rfl)
theorem dX3_module_44 : decode cX3_module 44 = .ok (.getfield 7, 3) := dk_180 0 7 (dk_at dksX3_module_1 20 rfl rfl)
theorem dX3_module_47 : decode cX3_module 47 = .ok (.iadd, 1) := dk_96 (dk_at dksX3_module_1 23 rfl rfl)
theorem dX3_module_48 : decode cX3_module 48 = .ok (.istore 6, 2) := dk_54 6 (dk_at dksX3_module_2 0 rfl rfl)
theorem dX3_module_50 : decode cX3_module 50 = .ok (.iload 5, 2) := dk_21 5 (dk_at dksX3_module_2 2 rfl rfl)
theorem dX3_module_52 : decode cX3_module 52 = .ok (.iconst 4, 1) := dk_7 (dk_at dksX3_module_2 4 rfl rfl)
theorem dX3_module_53 : decode cX3_module 53 = .ok (.aload_n 0, 1) := dk_42 (dk_at dksX3_module_2 5 rfl rfl)
theorem dX3_module_54 : decode cX3_module 54 = .ok (.getfield 7, 3) := dk_180 0 7 (dk_at dksX3_module_2 6 rfl rfl)
theorem dX3_module_57 : decode cX3_module 57 = .ok (.iconst 4, 1) := dk_7 (dk_at dksX3_module_2 9 rfl rfl)
theorem dX3_module_58 : decode cX3_module 58 = .ok (.iadd, 1) := dk_96 (dk_at dksX3_module_2 10 rfl rfl)
theorem dX3_module_59 : decode cX3_module 59 = .ok (.bipush 8, 2) := dk_16 8 (dk_at dksX3_module_2 11 rfl rfl)
theorem dX3_module_61 : decode cX3_module 61 = .ok (.irem, 1) := dk_112 (dk_at dksX3_module_2 13 rfl rfl)
theorem dX3_module_62 : decode cX3_module 62 = .ok (.isub, 1) := dk_100 (dk_at dksX3_module_2 14 rfl rfl)
theorem dX3_module_63 : decode cX3_module 63 = .ok (.iadd, 1) := dk_96 (dk_at dksX3_module_2 15 rfl rfl)
theorem dX3_module_64 : decode cX3_module 64 = .ok (.istore 5, 2) := dk_54 5 (dk_at dksX3_module_2 16 rfl rfl)
theorem dX3_module_66 : decode cX3_module 66 = .ok (.aload_n 0, 1) := dk_42 (dk_at dksX3_module_2 18 rfl rfl)
theorem dX3_module_67 : decode cX3_module 67 = .ok (.getfield 13, 3) := dk_180 0 13 (dk_at dksX3_module_2 19 rfl rfl)
theorem dX3_module_70 : decode cX3_module 70 = .ok (.aload_n 0, 1) := dk_42 (dk_at dksX3_module_2 22 rfl rfl)
theorem dX3_module_71 : decode cX3_module 71 = .ok (.getfield 7, 3) := dk_180 0 7 (dk_at dksX3_module_3 0 rfl rfl)
theorem dX3_module_74 : decode cX3_module 74 = .ok (.iload 5, 2) := dk_21 5 (dk_at dksX3_module_3 3 rfl rfl)
theorem dX3_module_76 : decode cX3_module 76 = .ok (.imul, 1) := dk_104 (dk_at dksX3_module_3 5 rfl rfl)
theorem dX3_module_77 : decode cX3_module 77 = .ok (.iload 6, 2) := dk_21 6 (dk_at dksX3_module_3 6 rfl rfl)
theorem dX3_module_79 : decode cX3_module 79 = .ok (.iadd, 1) := dk_96 (dk_at dksX3_module_3 8 rfl rfl)
theorem dX3_module_80 : decode cX3_module 80 = .ok (.bipush 8, 2) := dk_16 8 (dk_at dksX3_module_3 9 rfl rfl)
theorem dX3_module_82 : decode cX3_module 82 = .ok (.iload_n 3, 1) := dk_29 (dk_at dksX3_module_3 11 rfl rfl)
theorem dX3_module_83 : decode cX3_module 83 = .ok (.imul, 1) := dk_104 (dk_at dksX3_module_3 12 rfl rfl)
theorem dX3_module_84 : decode cX3_module 84 = .ok (.iload 4, 2) := dk_21 4 (dk_at dksX3_module_3 13 rfl rfl)
theorem dX3_module_86 : decode cX3_module 86 = .ok (.iadd, 1) := dk_96 (dk_at dksX3_module_3 15 rfl rfl)
theorem dX3_module_87 : decode cX3_module 87 = .ok (.iastore, 1) := dk_79 (dk_at dksX3_module_3 16 rfl rfl)
theorem dX3_module_88 : decode cX3_module 88 = .ok (.return_, 1) := dk_177 (dk_at dksX3_module_3 17 rfl rfl)
abbrev cX3_isFree : ByteArray := prog_4_method_5_code
def yX3_isFree : MethodName := ⟨RX3, "isFree", "(II)Z"⟩
def dkwX3_isFree_1 : List UInt8 := [42, 180, 0, 13, 42, 180, 0, 7, 27, 104, 28, 96, 46, 156, 0, 7, 4, 167, 0, 4, 3, 172]
abbrev dktX3_isFree_1 : List UInt8 := dkwX3_isFree_1 ++ []
def dkwX3_isFree_0 : List UInt8 := [27, 155, 0, 43, 27, 42, 180, 0, 7, 162, 0, 35, 28, 155, 0, 31, 28, 42, 180, 0, 7, 162, 0, 23]
abbrev dktX3_isFree_0 : List UInt8 := dkwX3_isFree_0 ++ dktX3_isFree_1
theorem dksX3_isFree_0 : cX3_isFree.data.toList.drop 0 = dktX3_isFree_0 := by decide +kernel
theorem dksX3_isFree_1 : cX3_isFree.data.toList.drop 24 = dktX3_isFree_1 := dk_seg dksX3_isFree_0 24 rfl rfl
theorem dX3_isFree_0 : decode cX3_isFree 0 = .ok (.iload_n 1, 1) := dk_27 (dk_at dksX3_isFree_0 0 rfl rfl)
theorem dX3_isFree_1 : decode cX3_isFree 1 = .ok (.ifCond .lt 43, 3) := dk_155 0 43 (dk_at dksX3_isFree_0 1 rfl rfl)
theorem dX3_isFree_4 : decode cX3_isFree 4 = .ok (.iload_n 1, 1) := dk_27 (dk_at dksX3_isFree_0 4 rfl rfl)
theorem dX3_isFree_5 : decode cX3_isFree 5 = .ok (.aload_n 0, 1) := dk_42 (dk_at dksX3_isFree_0 5 rfl rfl)
theorem dX3_isFree_6 : decode cX3_isFree 6 = .ok (.getfield 7, 3) := dk_180 0 7 (dk_at dksX3_isFree_0 6 rfl rfl)
theorem dX3_isFree_9 : decode cX3_isFree 9 = .ok (.if_icmp .ge 35, 3) := dk_162 0 35 (dk_at dksX3_isFree_0 9 rfl rfl)
theorem dX3_isFree_12 : decode cX3_isFree 12 = .ok (.iload_n 2, 1) := dk_28 (dk_at dksX3_isFree_0 12 rfl rfl)
theorem dX3_isFree_13 : decode cX3_isFree 13 = .ok (.ifCond .lt 31, 3) := dk_155 0 31 (dk_at dksX3_isFree_0 13 rfl rfl)
theorem dX3_isFree_16 : decode cX3_isFree 16 = .ok (.iload_n 2, 1) := dk_28 (dk_at dksX3_isFree_0 16 rfl rfl)
theorem dX3_isFree_17 : decode cX3_isFree 17 = .ok (.aload_n 0, 1) := dk_42 (dk_at dksX3_isFree_0 17 rfl rfl)
theorem dX3_isFree_18 : decode cX3_isFree 18 = .ok (.getfield 7, 3) := dk_180 0 7 (dk_at dksX3_isFree_0 18 rfl rfl)
theorem dX3_isFree_21 : decode cX3_isFree 21 = .ok (.if_icmp .ge 23, 3) := dk_162 0 23 (dk_at dksX3_isFree_0 21 rfl rfl)
theorem dX3_isFree_24 : decode cX3_isFree 24 = .ok (.aload_n 0, 1) := dk_42 (dk_at dksX3_isFree_1 0 rfl rfl)
theorem dX3_isFree_25 : decode cX3_isFree 25 = .ok (.getfield 13, 3) := dk_180 0 13 (dk_at dksX3_isFree_1 1 rfl rfl)
theorem dX3_isFree_28 : decode cX3_isFree 28 = .ok (.aload_n 0, 1) := dk_42 (dk_at dksX3_isFree_1 4 rfl rfl)
theorem dX3_isFree_29 : decode cX3_isFree 29 = .ok (.getfield 7, 3) := dk_180 0 7 (dk_at dksX3_isFree_1 5 rfl rfl)
theorem dX3_isFree_32 : decode cX3_isFree 32 = .ok (.iload_n 1, 1) := dk_27 (dk_at dksX3_isFree_1 8 rfl rfl)
theorem dX3_isFree_33 : decode cX3_isFree 33 = .ok (.imul, 1) := dk_104 (dk_at dksX3_isFree_1 9 rfl rfl)
theorem dX3_isFree_34 : decode cX3_isFree 34 = .ok (.iload_n 2, 1) := dk_28 (dk_at dksX3_isFree_1 10 rfl rfl)
theorem dX3_isFree_35 : decode cX3_isFree 35 = .ok (.iadd, 1) := dk_96 (dk_at dksX3_isFree_1 11 rfl rfl)
theorem dX3_isFree_36 : decode cX3_isFree 36 = .ok (.iaload, 1) := dk_46 (dk_at dksX3_isFree_1 12 rfl rfl)
theorem dX3_isFree_37 : decode cX3_isFree 37 = .ok (.ifCond .ge 7, 3) := dk_156 0 7 (dk_at dksX3_isFree_1 13 rfl rfl)
theorem dX3_isFree_40 : decode cX3_isFree 40 = .ok (.iconst 1, 1) := dk_4 (dk_at dksX3_isFree_1 16 rfl rfl)
theorem dX3_isFree_41 : decode cX3_isFree 41 = .ok (.goto 4, 3) := dk_167 0 4 (dk_at dksX3_isFree_1 17 rfl rfl)
theorem dX3_isFree_44 : decode cX3_isFree 44 = .ok (.iconst 0, 1) := dk_3 (dk_at dksX3_isFree_1 20 rfl rfl)
theorem dX3_isFree_45 : decode cX3_isFree 45 = .ok (.ireturn, 1) := dk_172 (dk_at dksX3_isFree_1 21 rfl rfl)
abbrev cX3_shape : ByteArray := prog_4_method_4_code
def yX3_shape : MethodName := ⟨RX3, "shape", "(III)V"⟩
def dkwX3_shape_4 : List UInt8 := [79, 89, 16, 15, 28, 79, 182, 0, 21, 177]
abbrev dktX3_shape_4 : List UInt8 := dkwX3_shape_4 ++ []
def dkwX3_shape_3 : List UInt8 := [79, 89, 16, 11, 28, 5, 100, 79, 89, 16, 12, 27, 79, 89, 16, 13, 28, 4, 100, 79, 89, 16, 14, 27]
abbrev dktX3_shape_3 : List UInt8 := dkwX3_shape_3 ++ dktX3_shape_4
def dkwX3_shape_2 : List UInt8 := [79, 89, 16, 7, 28, 4, 100, 79, 89, 16, 8, 27, 4, 100, 79, 89, 16, 9, 28, 79, 89, 16, 10, 27]
abbrev dktX3_shape_2 : List UInt8 := dkwX3_shape_2 ++ dktX3_shape_3
def dkwX3_shape_1 : List UInt8 := [89, 6, 28, 4, 100, 79, 89, 7, 27, 4, 100, 79, 89, 8, 28, 5, 100, 79, 89, 16, 6, 27, 4, 100]
abbrev dktX3_shape_1 : List UInt8 := dkwX3_shape_1 ++ dktX3_shape_2
def dkwX3_shape_0 : List UInt8 := [42, 29, 16, 16, 188, 10, 89, 3, 27, 5, 100, 79, 89, 4, 28, 5, 100, 79, 89, 5, 27, 5, 100, 79]
abbrev dktX3_shape_0 : List UInt8 := dkwX3_shape_0 ++ dktX3_shape_1
theorem dksX3_shape_0 : cX3_shape.data.toList.drop 0 = dktX3_shape_0 := by decide +kernel
theorem dksX3_shape_1 : cX3_shape.data.toList.drop 24 = dktX3_shape_1 := dk_seg dksX3_shape_0 24 rfl rfl
theorem dksX3_shape_2 : cX3_shape.data.toList.drop 48 = dktX3_shape_2 := dk_seg dksX3_shape_1 24 rfl rfl
theorem dksX3_shape_3 : cX3_shape.data.toList.drop 72 = dktX3_shape_3 := dk_seg dksX3_shape_2 24 rfl rfl
theorem dksX3_shape_4 : cX3_shape.data.toList.drop 96 = dktX3_shape_4 := dk_seg dksX3_shape_3 24 rfl rfl
theorem dX3_shape_0 : decode cX3_shape 0 = .ok (.aload_n 0, 1) := dk_42 (dk_at dksX3_shape_0 0 rfl rfl)
theorem dX3_shape_1 : decode cX3_shape 1 = .ok (.iload_n 3, 1) := dk_29 (dk_at dksX3_shape_0 1 rfl rfl)
theorem dX3_shape_2 : decode cX3_shape 2 = .ok (.bipush 16, 2) := dk_16 16 (dk_at dksX3_shape_0 2 rfl rfl)
theorem dX3_shape_4 : decode cX3_shape 4 = .ok (.newarray .int, 2) := dk_188_10 (dk_at dksX3_shape_0 4 rfl rfl)
theorem dX3_shape_6 : decode cX3_shape 6 = .ok (.dup, 1) := dk_89 (dk_at dksX3_shape_0 6 rfl rfl)
theorem dX3_shape_7 : decode cX3_shape 7 = .ok (.iconst 0, 1) := dk_3 (dk_at dksX3_shape_0 7 rfl rfl)
theorem dX3_shape_8 : decode cX3_shape 8 = .ok (.iload_n 1, 1) := dk_27 (dk_at dksX3_shape_0 8 rfl rfl)
theorem dX3_shape_9 : decode cX3_shape 9 = .ok (.iconst 2, 1) := dk_5 (dk_at dksX3_shape_0 9 rfl rfl)
theorem dX3_shape_10 : decode cX3_shape 10 = .ok (.isub, 1) := dk_100 (dk_at dksX3_shape_0 10 rfl rfl)
theorem dX3_shape_11 : decode cX3_shape 11 = .ok (.iastore, 1) := dk_79 (dk_at dksX3_shape_0 11 rfl rfl)
theorem dX3_shape_12 : decode cX3_shape 12 = .ok (.dup, 1) := dk_89 (dk_at dksX3_shape_0 12 rfl rfl)
theorem dX3_shape_13 : decode cX3_shape 13 = .ok (.iconst 1, 1) := dk_4 (dk_at dksX3_shape_0 13 rfl rfl)
theorem dX3_shape_14 : decode cX3_shape 14 = .ok (.iload_n 2, 1) := dk_28 (dk_at dksX3_shape_0 14 rfl rfl)
theorem dX3_shape_15 : decode cX3_shape 15 = .ok (.iconst 2, 1) := dk_5 (dk_at dksX3_shape_0 15 rfl rfl)
theorem dX3_shape_16 : decode cX3_shape 16 = .ok (.isub, 1) := dk_100 (dk_at dksX3_shape_0 16 rfl rfl)
theorem dX3_shape_17 : decode cX3_shape 17 = .ok (.iastore, 1) := dk_79 (dk_at dksX3_shape_0 17 rfl rfl)
theorem dX3_shape_18 : decode cX3_shape 18 = .ok (.dup, 1) := dk_89 (dk_at dksX3_shape_0 18 rfl rfl)
theorem dX3_shape_19 : decode cX3_shape 19 = .ok (.iconst 2, 1) := dk_5 (dk_at dksX3_shape_0 19 rfl rfl)
theorem dX3_shape_20 : decode cX3_shape 20 = .ok (.iload_n 1, 1) := dk_27 (dk_at dksX3_shape_0 20 rfl rfl)
theorem dX3_shape_21 : decode cX3_shape 21 = .ok (.iconst 2, 1) := dk_5 (dk_at dksX3_shape_0 21 rfl rfl)
theorem dX3_shape_22 : decode cX3_shape 22 = .ok (.isub, 1) := dk_100 (dk_at dksX3_shape_0 22 rfl rfl)
theorem dX3_shape_23 : decode cX3_shape 23 = .ok (.iastore, 1) := dk_79 (dk_at dksX3_shape_0 23 rfl rfl)
theorem dX3_shape_24 : decode cX3_shape 24 = .ok (.dup, 1) := dk_89 (dk_at dksX3_shape_1 0 rfl rfl)
theorem dX3_shape_25 : decode cX3_shape 25 = .ok (.iconst 3, 1) := dk_6 (dk_at dksX3_shape_1 1 rfl rfl)
theorem dX3_shape_26 : decode cX3_shape 26 = .ok (.iload_n 2, 1) := dk_28 (dk_at dksX3_shape_1 2 rfl rfl)
theorem dX3_shape_27 : decode cX3_shape 27 = .ok (.iconst 1, 1) := dk_4 (dk_at dksX3_shape_1 3 rfl rfl)
theorem dX3_shape_28 : decode cX3_shape 28 = .ok (.isub, 1) := dk_100 (dk_at dksX3_shape_1 4 rfl rfl)
theorem dX3_shape_29 : decode cX3_shape 29 = .ok (.iastore, 1) := dk_79 (dk_at dksX3_shape_1 5 rfl rfl)
theorem dX3_shape_30 : decode cX3_shape 30 = .ok (.dup, 1) := dk_89 (dk_at dksX3_shape_1 6 rfl rfl)
theorem dX3_shape_31 : decode cX3_shape 31 = .ok (.iconst 4, 1) := dk_7 (dk_at dksX3_shape_1 7 rfl rfl)
theorem dX3_shape_32 : decode cX3_shape 32 = .ok (.iload_n 1, 1) := dk_27 (dk_at dksX3_shape_1 8 rfl rfl)
theorem dX3_shape_33 : decode cX3_shape 33 = .ok (.iconst 1, 1) := dk_4 (dk_at dksX3_shape_1 9 rfl rfl)
theorem dX3_shape_34 : decode cX3_shape 34 = .ok (.isub, 1) := dk_100 (dk_at dksX3_shape_1 10 rfl rfl)
theorem dX3_shape_35 : decode cX3_shape 35 = .ok (.iastore, 1) := dk_79 (dk_at dksX3_shape_1 11 rfl rfl)
theorem dX3_shape_36 : decode cX3_shape 36 = .ok (.dup, 1) := dk_89 (dk_at dksX3_shape_1 12 rfl rfl)
theorem dX3_shape_37 : decode cX3_shape 37 = .ok (.iconst 5, 1) := dk_8 (dk_at dksX3_shape_1 13 rfl rfl)
theorem dX3_shape_38 : decode cX3_shape 38 = .ok (.iload_n 2, 1) := dk_28 (dk_at dksX3_shape_1 14 rfl rfl)
theorem dX3_shape_39 : decode cX3_shape 39 = .ok (.iconst 2, 1) := dk_5 (dk_at dksX3_shape_1 15 rfl rfl)
theorem dX3_shape_40 : decode cX3_shape 40 = .ok (.isub, 1) := dk_100 (dk_at dksX3_shape_1 16 rfl rfl)
theorem dX3_shape_41 : decode cX3_shape 41 = .ok (.iastore, 1) := dk_79 (dk_at dksX3_shape_1 17 rfl rfl)
theorem dX3_shape_42 : decode cX3_shape 42 = .ok (.dup, 1) := dk_89 (dk_at dksX3_shape_1 18 rfl rfl)
theorem dX3_shape_43 : decode cX3_shape 43 = .ok (.bipush 6, 2) := dk_16 6 (dk_at dksX3_shape_1 19 rfl rfl)
theorem dX3_shape_45 : decode cX3_shape 45 = .ok (.iload_n 1, 1) := dk_27 (dk_at dksX3_shape_1 21 rfl rfl)
theorem dX3_shape_46 : decode cX3_shape 46 = .ok (.iconst 1, 1) := dk_4 (dk_at dksX3_shape_1 22 rfl rfl)
theorem dX3_shape_47 : decode cX3_shape 47 = .ok (.isub, 1) := dk_100 (dk_at dksX3_shape_1 23 rfl rfl)
theorem dX3_shape_48 : decode cX3_shape 48 = .ok (.iastore, 1) := dk_79 (dk_at dksX3_shape_2 0 rfl rfl)
theorem dX3_shape_49 : decode cX3_shape 49 = .ok (.dup, 1) := dk_89 (dk_at dksX3_shape_2 1 rfl rfl)
theorem dX3_shape_50 : decode cX3_shape 50 = .ok (.bipush 7, 2) := dk_16 7 (dk_at dksX3_shape_2 2 rfl rfl)
theorem dX3_shape_52 : decode cX3_shape 52 = .ok (.iload_n 2, 1) := dk_28 (dk_at dksX3_shape_2 4 rfl rfl)
theorem dX3_shape_53 : decode cX3_shape 53 = .ok (.iconst 1, 1) := dk_4 (dk_at dksX3_shape_2 5 rfl rfl)
theorem dX3_shape_54 : decode cX3_shape 54 = .ok (.isub, 1) := dk_100 (dk_at dksX3_shape_2 6 rfl rfl)
theorem dX3_shape_55 : decode cX3_shape 55 = .ok (.iastore, 1) := dk_79 (dk_at dksX3_shape_2 7 rfl rfl)
theorem dX3_shape_56 : decode cX3_shape 56 = .ok (.dup, 1) := dk_89 (dk_at dksX3_shape_2 8 rfl rfl)
theorem dX3_shape_57 : decode cX3_shape 57 = .ok (.bipush 8, 2) := dk_16 8 (dk_at dksX3_shape_2 9 rfl rfl)
theorem dX3_shape_59 : decode cX3_shape 59 = .ok (.iload_n 1, 1) := dk_27 (dk_at dksX3_shape_2 11 rfl rfl)
theorem dX3_shape_60 : decode cX3_shape 60 = .ok (.iconst 1, 1) := dk_4 (dk_at dksX3_shape_2 12 rfl rfl)
theorem dX3_shape_61 : decode cX3_shape 61 = .ok (.isub, 1) := dk_100 (dk_at dksX3_shape_2 13 rfl rfl)
theorem dX3_shape_62 : decode cX3_shape 62 = .ok (.iastore, 1) := dk_79 (dk_at dksX3_shape_2 14 rfl rfl)
theorem dX3_shape_63 : decode cX3_shape 63 = .ok (.dup, 1) := dk_89 (dk_at dksX3_shape_2 15 rfl rfl)
theorem dX3_shape_64 : decode cX3_shape 64 = .ok (.bipush 9, 2) := dk_16 9 (dk_at dksX3_shape_2 16 rfl rfl)
theorem dX3_shape_66 : decode cX3_shape 66 = .ok (.iload_n 2, 1) := dk_28 (dk_at dksX3_shape_2 18 rfl rfl)
theorem dX3_shape_67 : decode cX3_shape 67 = .ok (.iastore, 1) := dk_79 (dk_at dksX3_shape_2 19 rfl rfl)
theorem dX3_shape_68 : decode cX3_shape 68 = .ok (.dup, 1) := dk_89 (dk_at dksX3_shape_2 20 rfl rfl)
theorem dX3_shape_69 : decode cX3_shape 69 = .ok (.bipush 10, 2) := dk_16 10 (dk_at dksX3_shape_2 21 rfl rfl)
theorem dX3_shape_71 : decode cX3_shape 71 = .ok (.iload_n 1, 1) := dk_27 (dk_at dksX3_shape_2 23 rfl rfl)
theorem dX3_shape_72 : decode cX3_shape 72 = .ok (.iastore, 1) := dk_79 (dk_at dksX3_shape_3 0 rfl rfl)
theorem dX3_shape_73 : decode cX3_shape 73 = .ok (.dup, 1) := dk_89 (dk_at dksX3_shape_3 1 rfl rfl)
theorem dX3_shape_74 : decode cX3_shape 74 = .ok (.bipush 11, 2) := dk_16 11 (dk_at dksX3_shape_3 2 rfl rfl)
theorem dX3_shape_76 : decode cX3_shape 76 = .ok (.iload_n 2, 1) := dk_28 (dk_at dksX3_shape_3 4 rfl rfl)
theorem dX3_shape_77 : decode cX3_shape 77 = .ok (.iconst 2, 1) := dk_5 (dk_at dksX3_shape_3 5 rfl rfl)
theorem dX3_shape_78 : decode cX3_shape 78 = .ok (.isub, 1) := dk_100 (dk_at dksX3_shape_3 6 rfl rfl)
theorem dX3_shape_79 : decode cX3_shape 79 = .ok (.iastore, 1) := dk_79 (dk_at dksX3_shape_3 7 rfl rfl)
theorem dX3_shape_80 : decode cX3_shape 80 = .ok (.dup, 1) := dk_89 (dk_at dksX3_shape_3 8 rfl rfl)
theorem dX3_shape_81 : decode cX3_shape 81 = .ok (.bipush 12, 2) := dk_16 12 (dk_at dksX3_shape_3 9 rfl rfl)
theorem dX3_shape_83 : decode cX3_shape 83 = .ok (.iload_n 1, 1) := dk_27 (dk_at dksX3_shape_3 11 rfl rfl)
theorem dX3_shape_84 : decode cX3_shape 84 = .ok (.iastore, 1) := dk_79 (dk_at dksX3_shape_3 12 rfl rfl)
theorem dX3_shape_85 : decode cX3_shape 85 = .ok (.dup, 1) := dk_89 (dk_at dksX3_shape_3 13 rfl rfl)
theorem dX3_shape_86 : decode cX3_shape 86 = .ok (.bipush 13, 2) := dk_16 13 (dk_at dksX3_shape_3 14 rfl rfl)
theorem dX3_shape_88 : decode cX3_shape 88 = .ok (.iload_n 2, 1) := dk_28 (dk_at dksX3_shape_3 16 rfl rfl)
theorem dX3_shape_89 : decode cX3_shape 89 = .ok (.iconst 1, 1) := dk_4 (dk_at dksX3_shape_3 17 rfl rfl)
theorem dX3_shape_90 : decode cX3_shape 90 = .ok (.isub, 1) := dk_100 (dk_at dksX3_shape_3 18 rfl rfl)
theorem dX3_shape_91 : decode cX3_shape 91 = .ok (.iastore, 1) := dk_79 (dk_at dksX3_shape_3 19 rfl rfl)
theorem dX3_shape_92 : decode cX3_shape 92 = .ok (.dup, 1) := dk_89 (dk_at dksX3_shape_3 20 rfl rfl)
theorem dX3_shape_93 : decode cX3_shape 93 = .ok (.bipush 14, 2) := dk_16 14 (dk_at dksX3_shape_3 21 rfl rfl)
theorem dX3_shape_95 : decode cX3_shape 95 = .ok (.iload_n 1, 1) := dk_27 (dk_at dksX3_shape_3 23 rfl rfl)
theorem dX3_shape_96 : decode cX3_shape 96 = .ok (.iastore, 1) := dk_79 (dk_at dksX3_shape_4 0 rfl rfl)
theorem dX3_shape_97 : decode cX3_shape 97 = .ok (.dup, 1) := dk_89 (dk_at dksX3_shape_4 1 rfl rfl)
theorem dX3_shape_98 : decode cX3_shape 98 = .ok (.bipush 15, 2) := dk_16 15 (dk_at dksX3_shape_4 2 rfl rfl)
theorem dX3_shape_100 : decode cX3_shape 100 = .ok (.iload_n 2, 1) := dk_28 (dk_at dksX3_shape_4 4 rfl rfl)
theorem dX3_shape_101 : decode cX3_shape 101 = .ok (.iastore, 1) := dk_79 (dk_at dksX3_shape_4 5 rfl rfl)
theorem dX3_shape_102 : decode cX3_shape 102 = .ok (.invokevirtual 21, 3) := dk_182 0 21 (dk_at dksX3_shape_4 6 rfl rfl)
theorem dX3_shape_105 : decode cX3_shape 105 = .ok (.return_, 1) := dk_177 (dk_at dksX3_shape_4 9 rfl rfl)
abbrev cX3_isWhole : ByteArray := prog_4_method_8_code
def yX3_isWhole : MethodName := ⟨RX3, "isWhole", "(I)Z"⟩
def dkwX3_isWhole_5 : List UInt8 := [180, 0, 7, 42, 180, 0, 7, 104, 16, 8, 27, 104, 100, 160, 0, 7, 4, 167, 0, 4, 3, 172]
abbrev dktX3_isWhole_5 : List UInt8 := dkwX3_isWhole_5 ++ []
def dkwX3_isWhole_4 : List UInt8 := [25, 4, 21, 6, 46, 54, 7, 21, 7, 4, 159, 0, 5, 3, 172, 132, 6, 1, 167, 255, 231, 29, 42]
abbrev dktX3_isWhole_4 : List UInt8 := dkwX3_isWhole_4 ++ dktX3_isWhole_5
def dkwX3_isWhole_3 : List UInt8 := [132, 6, 1, 167, 255, 209, 44, 58, 4, 25, 4, 190, 54, 5, 3, 54, 6, 21, 6, 21, 5, 162, 0, 24]
abbrev dktX3_isWhole_3 : List UInt8 := dkwX3_isWhole_3 ++ dktX3_isWhole_4
def dkwX3_isWhole_2 : List UInt8 := [167, 0, 22, 21, 7, 16, 8, 27, 104, 161, 0, 5, 3, 172, 44, 21, 7, 92, 46, 4, 96, 79]
abbrev dktX3_isWhole_2 : List UInt8 := dkwX3_isWhole_2 ++ dktX3_isWhole_3
def dkwX3_isWhole_1 : List UInt8 := [21, 6, 21, 5, 162, 0, 46, 25, 4, 21, 6, 46, 54, 7, 21, 7, 156, 0, 9, 132, 3, 1]
abbrev dktX3_isWhole_1 : List UInt8 := dkwX3_isWhole_1 ++ dktX3_isWhole_2
def dkwX3_isWhole_0 : List UInt8 := [16, 8, 27, 104, 188, 10, 77, 3, 62, 42, 180, 0, 13, 58, 4, 25, 4, 190, 54, 5, 3, 54, 6]
abbrev dktX3_isWhole_0 : List UInt8 := dkwX3_isWhole_0 ++ dktX3_isWhole_1
theorem dksX3_isWhole_0 : cX3_isWhole.data.toList.drop 0 = dktX3_isWhole_0 := by decide +kernel
theorem dksX3_isWhole_1 : cX3_isWhole.data.toList.drop 23 = dktX3_isWhole_1 := dk_seg dksX3_isWhole_0 23 rfl rfl
theorem dksX3_isWhole_2 : cX3_isWhole.data.toList.drop 45 = dktX3_isWhole_2 := dk_seg dksX3_isWhole_1 22 rfl rfl
theorem dksX3_isWhole_3 : cX3_isWhole.data.toList.drop 67 = dktX3_isWhole_3 := dk_seg dksX3_isWhole_2 22 rfl rfl
theorem dksX3_isWhole_4 : cX3_isWhole.data.toList.drop 91 = dktX3_isWhole_4 := dk_seg dksX3_isWhole_3 24 rfl rfl
theorem dksX3_isWhole_5 : cX3_isWhole.data.toList.drop 114 = dktX3_isWhole_5 := dk_seg dksX3_isWhole_4 23 rfl rfl
theorem dX3_isWhole_0 : decode cX3_isWhole 0 = .ok (.bipush 8, 2) := dk_16 8 (dk_at dksX3_isWhole_0 0 rfl rfl)
theorem dX3_isWhole_2 : decode cX3_isWhole 2 = .ok (.iload_n 1, 1) := dk_27 (dk_at dksX3_isWhole_0 2 rfl rfl)
theorem dX3_isWhole_3 : decode cX3_isWhole 3 = .ok (.imul, 1) := dk_104 (dk_at dksX3_isWhole_0 3 rfl rfl)
theorem dX3_isWhole_4 : decode cX3_isWhole 4 = .ok (.newarray .int, 2) := dk_188_10 (dk_at dksX3_isWhole_0 4 rfl rfl)
theorem dX3_isWhole_6 : decode cX3_isWhole 6 = .ok (.astore_n 2, 1) := dk_77 (dk_at dksX3_isWhole_0 6 rfl rfl)
theorem dX3_isWhole_7 : decode cX3_isWhole 7 = .ok (.iconst 0, 1) := dk_3 (dk_at dksX3_isWhole_0 7 rfl rfl)
theorem dX3_isWhole_8 : decode cX3_isWhole 8 = .ok (.istore_n 3, 1) := dk_62 (dk_at dksX3_isWhole_0 8 rfl rfl)
theorem dX3_isWhole_9 : decode cX3_isWhole 9 = .ok (.aload_n 0, 1) := dk_42 (dk_at dksX3_isWhole_0 9 rfl rfl)
theorem dX3_isWhole_10 : decode cX3_isWhole 10 = .ok (.getfield 13, 3) := dk_180 0 13 (dk_at dksX3_isWhole_0 10 rfl rfl)
theorem dX3_isWhole_13 : decode cX3_isWhole 13 = .ok (.astore 4, 2) := dk_58 4 (dk_at dksX3_isWhole_0 13 rfl rfl)
theorem dX3_isWhole_15 : decode cX3_isWhole 15 = .ok (.aload 4, 2) := dk_25 4 (dk_at dksX3_isWhole_0 15 rfl rfl)
theorem dX3_isWhole_17 : decode cX3_isWhole 17 = .ok (.arraylength, 1) := dk_190 (dk_at dksX3_isWhole_0 17 rfl rfl)
theorem dX3_isWhole_18 : decode cX3_isWhole 18 = .ok (.istore 5, 2) := dk_54 5 (dk_at dksX3_isWhole_0 18 rfl rfl)
theorem dX3_isWhole_20 : decode cX3_isWhole 20 = .ok (.iconst 0, 1) := dk_3 (dk_at dksX3_isWhole_0 20 rfl rfl)
theorem dX3_isWhole_21 : decode cX3_isWhole 21 = .ok (.istore 6, 2) := dk_54 6 (dk_at dksX3_isWhole_0 21 rfl rfl)
theorem dX3_isWhole_23 : decode cX3_isWhole 23 = .ok (.iload 6, 2) := dk_21 6 (dk_at dksX3_isWhole_1 0 rfl rfl)
theorem dX3_isWhole_25 : decode cX3_isWhole 25 = .ok (.iload 5, 2) := dk_21 5 (dk_at dksX3_isWhole_1 2 rfl rfl)
theorem dX3_isWhole_27 : decode cX3_isWhole 27 = .ok (.if_icmp .ge 46, 3) := dk_162 0 46 (dk_at dksX3_isWhole_1 4 rfl rfl)
theorem dX3_isWhole_30 : decode cX3_isWhole 30 = .ok (.aload 4, 2) := dk_25 4 (dk_at dksX3_isWhole_1 7 rfl rfl)
theorem dX3_isWhole_32 : decode cX3_isWhole 32 = .ok (.iload 6, 2) := dk_21 6 (dk_at dksX3_isWhole_1 9 rfl rfl)
theorem dX3_isWhole_34 : decode cX3_isWhole 34 = .ok (.iaload, 1) := dk_46 (dk_at dksX3_isWhole_1 11 rfl rfl)
theorem dX3_isWhole_35 : decode cX3_isWhole 35 = .ok (.istore 7, 2) := dk_54 7 (dk_at dksX3_isWhole_1 12 rfl rfl)
theorem dX3_isWhole_37 : decode cX3_isWhole 37 = .ok (.iload 7, 2) := dk_21 7 (dk_at dksX3_isWhole_1 14 rfl rfl)
theorem dX3_isWhole_39 : decode cX3_isWhole 39 = .ok (.ifCond .ge 9, 3) := dk_156 0 9 (dk_at dksX3_isWhole_1 16 rfl rfl)
theorem dX3_isWhole_42 : decode cX3_isWhole 42 = .ok (.iinc 3 1, 3) := dk_132 3 1 (dk_at dksX3_isWhole_1 19 rfl rfl)
theorem dX3_isWhole_45 : decode cX3_isWhole 45 = .ok (.goto 22, 3) := dk_167 0 22 (dk_at dksX3_isWhole_2 0 rfl rfl)
theorem dX3_isWhole_48 : decode cX3_isWhole 48 = .ok (.iload 7, 2) := dk_21 7 (dk_at dksX3_isWhole_2 3 rfl rfl)
theorem dX3_isWhole_50 : decode cX3_isWhole 50 = .ok (.bipush 8, 2) := dk_16 8 (dk_at dksX3_isWhole_2 5 rfl rfl)
theorem dX3_isWhole_52 : decode cX3_isWhole 52 = .ok (.iload_n 1, 1) := dk_27 (dk_at dksX3_isWhole_2 7 rfl rfl)
theorem dX3_isWhole_53 : decode cX3_isWhole 53 = .ok (.imul, 1) := dk_104 (dk_at dksX3_isWhole_2 8 rfl rfl)
theorem dX3_isWhole_54 : decode cX3_isWhole 54 = .ok (.if_icmp .lt 5, 3) := dk_161 0 5 (dk_at dksX3_isWhole_2 9 rfl rfl)
theorem dX3_isWhole_57 : decode cX3_isWhole 57 = .ok (.iconst 0, 1) := dk_3 (dk_at dksX3_isWhole_2 12 rfl rfl)
theorem dX3_isWhole_58 : decode cX3_isWhole 58 = .ok (.ireturn, 1) := dk_172 (dk_at dksX3_isWhole_2 13 rfl rfl)
theorem dX3_isWhole_59 : decode cX3_isWhole 59 = .ok (.aload_n 2, 1) := dk_44 (dk_at dksX3_isWhole_2 14 rfl rfl)
theorem dX3_isWhole_60 : decode cX3_isWhole 60 = .ok (.iload 7, 2) := dk_21 7 (dk_at dksX3_isWhole_2 15 rfl rfl)
theorem dX3_isWhole_62 : decode cX3_isWhole 62 = .ok (.dup2, 1) := dk_92 (dk_at dksX3_isWhole_2 17 rfl rfl)
theorem dX3_isWhole_63 : decode cX3_isWhole 63 = .ok (.iaload, 1) := dk_46 (dk_at dksX3_isWhole_2 18 rfl rfl)
theorem dX3_isWhole_64 : decode cX3_isWhole 64 = .ok (.iconst 1, 1) := dk_4 (dk_at dksX3_isWhole_2 19 rfl rfl)
theorem dX3_isWhole_65 : decode cX3_isWhole 65 = .ok (.iadd, 1) := dk_96 (dk_at dksX3_isWhole_2 20 rfl rfl)
theorem dX3_isWhole_66 : decode cX3_isWhole 66 = .ok (.iastore, 1) := dk_79 (dk_at dksX3_isWhole_2 21 rfl rfl)
theorem dX3_isWhole_67 : decode cX3_isWhole 67 = .ok (.iinc 6 1, 3) := dk_132 6 1 (dk_at dksX3_isWhole_3 0 rfl rfl)
theorem dX3_isWhole_70 : decode cX3_isWhole 70 = .ok (.goto (-47), 3) := dk_167 255 209 (dk_at dksX3_isWhole_3 3 rfl rfl)
theorem dX3_isWhole_73 : decode cX3_isWhole 73 = .ok (.aload_n 2, 1) := dk_44 (dk_at dksX3_isWhole_3 6 rfl rfl)
theorem dX3_isWhole_74 : decode cX3_isWhole 74 = .ok (.astore 4, 2) := dk_58 4 (dk_at dksX3_isWhole_3 7 rfl rfl)
theorem dX3_isWhole_76 : decode cX3_isWhole 76 = .ok (.aload 4, 2) := dk_25 4 (dk_at dksX3_isWhole_3 9 rfl rfl)
theorem dX3_isWhole_78 : decode cX3_isWhole 78 = .ok (.arraylength, 1) := dk_190 (dk_at dksX3_isWhole_3 11 rfl rfl)
theorem dX3_isWhole_79 : decode cX3_isWhole 79 = .ok (.istore 5, 2) := dk_54 5 (dk_at dksX3_isWhole_3 12 rfl rfl)
theorem dX3_isWhole_81 : decode cX3_isWhole 81 = .ok (.iconst 0, 1) := dk_3 (dk_at dksX3_isWhole_3 14 rfl rfl)
theorem dX3_isWhole_82 : decode cX3_isWhole 82 = .ok (.istore 6, 2) := dk_54 6 (dk_at dksX3_isWhole_3 15 rfl rfl)
theorem dX3_isWhole_84 : decode cX3_isWhole 84 = .ok (.iload 6, 2) := dk_21 6 (dk_at dksX3_isWhole_3 17 rfl rfl)
theorem dX3_isWhole_86 : decode cX3_isWhole 86 = .ok (.iload 5, 2) := dk_21 5 (dk_at dksX3_isWhole_3 19 rfl rfl)
theorem dX3_isWhole_88 : decode cX3_isWhole 88 = .ok (.if_icmp .ge 24, 3) := dk_162 0 24 (dk_at dksX3_isWhole_3 21 rfl rfl)
theorem dX3_isWhole_91 : decode cX3_isWhole 91 = .ok (.aload 4, 2) := dk_25 4 (dk_at dksX3_isWhole_4 0 rfl rfl)
theorem dX3_isWhole_93 : decode cX3_isWhole 93 = .ok (.iload 6, 2) := dk_21 6 (dk_at dksX3_isWhole_4 2 rfl rfl)
theorem dX3_isWhole_95 : decode cX3_isWhole 95 = .ok (.iaload, 1) := dk_46 (dk_at dksX3_isWhole_4 4 rfl rfl)
theorem dX3_isWhole_96 : decode cX3_isWhole 96 = .ok (.istore 7, 2) := dk_54 7 (dk_at dksX3_isWhole_4 5 rfl rfl)
theorem dX3_isWhole_98 : decode cX3_isWhole 98 = .ok (.iload 7, 2) := dk_21 7 (dk_at dksX3_isWhole_4 7 rfl rfl)
theorem dX3_isWhole_100 : decode cX3_isWhole 100 = .ok (.iconst 1, 1) := dk_4 (dk_at dksX3_isWhole_4 9 rfl rfl)
theorem dX3_isWhole_101 : decode cX3_isWhole 101 = .ok (.if_icmp .eq 5, 3) := dk_159 0 5 (dk_at dksX3_isWhole_4 10 rfl rfl)
theorem dX3_isWhole_104 : decode cX3_isWhole 104 = .ok (.iconst 0, 1) := dk_3 (dk_at dksX3_isWhole_4 13 rfl rfl)
theorem dX3_isWhole_105 : decode cX3_isWhole 105 = .ok (.ireturn, 1) := dk_172 (dk_at dksX3_isWhole_4 14 rfl rfl)
theorem dX3_isWhole_106 : decode cX3_isWhole 106 = .ok (.iinc 6 1, 3) := dk_132 6 1 (dk_at dksX3_isWhole_4 15 rfl rfl)
theorem dX3_isWhole_109 : decode cX3_isWhole 109 = .ok (.goto (-25), 3) := dk_167 255 231 (dk_at dksX3_isWhole_4 18 rfl rfl)
theorem dX3_isWhole_112 : decode cX3_isWhole 112 = .ok (.iload_n 3, 1) := dk_29 (dk_at dksX3_isWhole_4 21 rfl rfl)
theorem dX3_isWhole_113 : decode cX3_isWhole 113 = .ok (.aload_n 0, 1) := dk_42 (dk_at dksX3_isWhole_4 22 rfl rfl)
theorem dX3_isWhole_114 : decode cX3_isWhole 114 = .ok (.getfield 7, 3) := dk_180 0 7 (dk_at dksX3_isWhole_5 0 rfl rfl)
theorem dX3_isWhole_117 : decode cX3_isWhole 117 = .ok (.aload_n 0, 1) := dk_42 (dk_at dksX3_isWhole_5 3 rfl rfl)
theorem dX3_isWhole_118 : decode cX3_isWhole 118 = .ok (.getfield 7, 3) := dk_180 0 7 (dk_at dksX3_isWhole_5 4 rfl rfl)
theorem dX3_isWhole_121 : decode cX3_isWhole 121 = .ok (.imul, 1) := dk_104 (dk_at dksX3_isWhole_5 7 rfl rfl)
theorem dX3_isWhole_122 : decode cX3_isWhole 122 = .ok (.bipush 8, 2) := dk_16 8 (dk_at dksX3_isWhole_5 8 rfl rfl)
theorem dX3_isWhole_124 : decode cX3_isWhole 124 = .ok (.iload_n 1, 1) := dk_27 (dk_at dksX3_isWhole_5 10 rfl rfl)
theorem dX3_isWhole_125 : decode cX3_isWhole 125 = .ok (.imul, 1) := dk_104 (dk_at dksX3_isWhole_5 11 rfl rfl)
theorem dX3_isWhole_126 : decode cX3_isWhole 126 = .ok (.isub, 1) := dk_100 (dk_at dksX3_isWhole_5 12 rfl rfl)
theorem dX3_isWhole_127 : decode cX3_isWhole 127 = .ok (.if_icmp .ne 7, 3) := dk_160 0 7 (dk_at dksX3_isWhole_5 13 rfl rfl)
theorem dX3_isWhole_130 : decode cX3_isWhole 130 = .ok (.iconst 1, 1) := dk_4 (dk_at dksX3_isWhole_5 16 rfl rfl)
theorem dX3_isWhole_131 : decode cX3_isWhole 131 = .ok (.goto 4, 3) := dk_167 0 4 (dk_at dksX3_isWhole_5 17 rfl rfl)
theorem dX3_isWhole_134 : decode cX3_isWhole 134 = .ok (.iconst 0, 1) := dk_3 (dk_at dksX3_isWhole_5 20 rfl rfl)
theorem dX3_isWhole_135 : decode cX3_isWhole 135 = .ok (.ireturn, 1) := dk_172 (dk_at dksX3_isWhole_5 21 rfl rfl)
abbrev cX3_isDark : ByteArray := prog_4_method_7_code
def yX3_isDark : MethodName := ⟨RX3, "isDark", "(II[I)Z"⟩
def dkwX3_isDark_3 : List UInt8 := [21, 4, 16, 7, 126, 100, 122, 4, 126, 4, 160, 0, 7, 4, 167, 0, 4, 3, 172]
abbrev dktX3_isDark_3 : List UInt8 := dkwX3_isDark_3 ++ []
def dkwX3_isDark_2 : List UInt8 := [180, 0, 7, 5, 100, 161, 0, 7, 4, 167, 0, 33, 3, 167, 0, 29, 45, 21, 4, 6, 122, 46, 16, 7]
abbrev dktX3_isDark_2 : List UInt8 := dkwX3_isDark_2 ++ dktX3_isDark_3
def dkwX3_isDark_1 : List UInt8 := [42, 180, 0, 7, 42, 180, 0, 7, 104, 4, 100, 46, 156, 0, 22, 27, 28, 160, 0, 17, 27, 42]
abbrev dktX3_isDark_1 : List UInt8 := dkwX3_isDark_1 ++ dktX3_isDark_2
def dkwX3_isDark_0 : List UInt8 := [42, 180, 0, 13, 42, 180, 0, 7, 27, 104, 28, 96, 46, 54, 4, 21, 4, 156, 0, 45, 42, 180, 0, 13]
abbrev dktX3_isDark_0 : List UInt8 := dkwX3_isDark_0 ++ dktX3_isDark_1
theorem dksX3_isDark_0 : cX3_isDark.data.toList.drop 0 = dktX3_isDark_0 := by decide +kernel
theorem dksX3_isDark_1 : cX3_isDark.data.toList.drop 24 = dktX3_isDark_1 := dk_seg dksX3_isDark_0 24 rfl rfl
theorem dksX3_isDark_2 : cX3_isDark.data.toList.drop 46 = dktX3_isDark_2 := dk_seg dksX3_isDark_1 22 rfl rfl
theorem dksX3_isDark_3 : cX3_isDark.data.toList.drop 70 = dktX3_isDark_3 := dk_seg dksX3_isDark_2 24 rfl rfl
theorem dX3_isDark_0 : decode cX3_isDark 0 = .ok (.aload_n 0, 1) := dk_42 (dk_at dksX3_isDark_0 0 rfl rfl)
theorem dX3_isDark_1 : decode cX3_isDark 1 = .ok (.getfield 13, 3) := dk_180 0 13 (dk_at dksX3_isDark_0 1 rfl rfl)
theorem dX3_isDark_4 : decode cX3_isDark 4 = .ok (.aload_n 0, 1) := dk_42 (dk_at dksX3_isDark_0 4 rfl rfl)
theorem dX3_isDark_5 : decode cX3_isDark 5 = .ok (.getfield 7, 3) := dk_180 0 7 (dk_at dksX3_isDark_0 5 rfl rfl)
theorem dX3_isDark_8 : decode cX3_isDark 8 = .ok (.iload_n 1, 1) := dk_27 (dk_at dksX3_isDark_0 8 rfl rfl)
theorem dX3_isDark_9 : decode cX3_isDark 9 = .ok (.imul, 1) := dk_104 (dk_at dksX3_isDark_0 9 rfl rfl)
theorem dX3_isDark_10 : decode cX3_isDark 10 = .ok (.iload_n 2, 1) := dk_28 (dk_at dksX3_isDark_0 10 rfl rfl)
theorem dX3_isDark_11 : decode cX3_isDark 11 = .ok (.iadd, 1) := dk_96 (dk_at dksX3_isDark_0 11 rfl rfl)
theorem dX3_isDark_12 : decode cX3_isDark 12 = .ok (.iaload, 1) := dk_46 (dk_at dksX3_isDark_0 12 rfl rfl)
theorem dX3_isDark_13 : decode cX3_isDark 13 = .ok (.istore 4, 2) := dk_54 4 (dk_at dksX3_isDark_0 13 rfl rfl)
theorem dX3_isDark_15 : decode cX3_isDark 15 = .ok (.iload 4, 2) := dk_21 4 (dk_at dksX3_isDark_0 15 rfl rfl)
theorem dX3_isDark_17 : decode cX3_isDark 17 = .ok (.ifCond .ge 45, 3) := dk_156 0 45 (dk_at dksX3_isDark_0 17 rfl rfl)
theorem dX3_isDark_20 : decode cX3_isDark 20 = .ok (.aload_n 0, 1) := dk_42 (dk_at dksX3_isDark_0 20 rfl rfl)
theorem dX3_isDark_21 : decode cX3_isDark 21 = .ok (.getfield 13, 3) := dk_180 0 13 (dk_at dksX3_isDark_0 21 rfl rfl)
theorem dX3_isDark_24 : decode cX3_isDark 24 = .ok (.aload_n 0, 1) := dk_42 (dk_at dksX3_isDark_1 0 rfl rfl)
theorem dX3_isDark_25 : decode cX3_isDark 25 = .ok (.getfield 7, 3) := dk_180 0 7 (dk_at dksX3_isDark_1 1 rfl rfl)
theorem dX3_isDark_28 : decode cX3_isDark 28 = .ok (.aload_n 0, 1) := dk_42 (dk_at dksX3_isDark_1 4 rfl rfl)
theorem dX3_isDark_29 : decode cX3_isDark 29 = .ok (.getfield 7, 3) := dk_180 0 7 (dk_at dksX3_isDark_1 5 rfl rfl)
theorem dX3_isDark_32 : decode cX3_isDark 32 = .ok (.imul, 1) := dk_104 (dk_at dksX3_isDark_1 8 rfl rfl)
theorem dX3_isDark_33 : decode cX3_isDark 33 = .ok (.iconst 1, 1) := dk_4 (dk_at dksX3_isDark_1 9 rfl rfl)
theorem dX3_isDark_34 : decode cX3_isDark 34 = .ok (.isub, 1) := dk_100 (dk_at dksX3_isDark_1 10 rfl rfl)
theorem dX3_isDark_35 : decode cX3_isDark 35 = .ok (.iaload, 1) := dk_46 (dk_at dksX3_isDark_1 11 rfl rfl)
theorem dX3_isDark_36 : decode cX3_isDark 36 = .ok (.ifCond .ge 22, 3) := dk_156 0 22 (dk_at dksX3_isDark_1 12 rfl rfl)
theorem dX3_isDark_39 : decode cX3_isDark 39 = .ok (.iload_n 1, 1) := dk_27 (dk_at dksX3_isDark_1 15 rfl rfl)
theorem dX3_isDark_40 : decode cX3_isDark 40 = .ok (.iload_n 2, 1) := dk_28 (dk_at dksX3_isDark_1 16 rfl rfl)
theorem dX3_isDark_41 : decode cX3_isDark 41 = .ok (.if_icmp .ne 17, 3) := dk_160 0 17 (dk_at dksX3_isDark_1 17 rfl rfl)
theorem dX3_isDark_44 : decode cX3_isDark 44 = .ok (.iload_n 1, 1) := dk_27 (dk_at dksX3_isDark_1 20 rfl rfl)
theorem dX3_isDark_45 : decode cX3_isDark 45 = .ok (.aload_n 0, 1) := dk_42 (dk_at dksX3_isDark_1 21 rfl rfl)
theorem dX3_isDark_46 : decode cX3_isDark 46 = .ok (.getfield 7, 3) := dk_180 0 7 (dk_at dksX3_isDark_2 0 rfl rfl)
theorem dX3_isDark_49 : decode cX3_isDark 49 = .ok (.iconst 2, 1) := dk_5 (dk_at dksX3_isDark_2 3 rfl rfl)
theorem dX3_isDark_50 : decode cX3_isDark 50 = .ok (.isub, 1) := dk_100 (dk_at dksX3_isDark_2 4 rfl rfl)
theorem dX3_isDark_51 : decode cX3_isDark 51 = .ok (.if_icmp .lt 7, 3) := dk_161 0 7 (dk_at dksX3_isDark_2 5 rfl rfl)
theorem dX3_isDark_54 : decode cX3_isDark 54 = .ok (.iconst 1, 1) := dk_4 (dk_at dksX3_isDark_2 8 rfl rfl)
theorem dX3_isDark_55 : decode cX3_isDark 55 = .ok (.goto 33, 3) := dk_167 0 33 (dk_at dksX3_isDark_2 9 rfl rfl)
theorem dX3_isDark_58 : decode cX3_isDark 58 = .ok (.iconst 0, 1) := dk_3 (dk_at dksX3_isDark_2 12 rfl rfl)
theorem dX3_isDark_59 : decode cX3_isDark 59 = .ok (.goto 29, 3) := dk_167 0 29 (dk_at dksX3_isDark_2 13 rfl rfl)
theorem dX3_isDark_62 : decode cX3_isDark 62 = .ok (.aload_n 3, 1) := dk_45 (dk_at dksX3_isDark_2 16 rfl rfl)
theorem dX3_isDark_63 : decode cX3_isDark 63 = .ok (.iload 4, 2) := dk_21 4 (dk_at dksX3_isDark_2 17 rfl rfl)
theorem dX3_isDark_65 : decode cX3_isDark 65 = .ok (.iconst 3, 1) := dk_6 (dk_at dksX3_isDark_2 19 rfl rfl)
theorem dX3_isDark_66 : decode cX3_isDark 66 = .ok (.ishr, 1) := dk_122 (dk_at dksX3_isDark_2 20 rfl rfl)
theorem dX3_isDark_67 : decode cX3_isDark 67 = .ok (.iaload, 1) := dk_46 (dk_at dksX3_isDark_2 21 rfl rfl)
theorem dX3_isDark_68 : decode cX3_isDark 68 = .ok (.bipush 7, 2) := dk_16 7 (dk_at dksX3_isDark_2 22 rfl rfl)
theorem dX3_isDark_70 : decode cX3_isDark 70 = .ok (.iload 4, 2) := dk_21 4 (dk_at dksX3_isDark_3 0 rfl rfl)
theorem dX3_isDark_72 : decode cX3_isDark 72 = .ok (.bipush 7, 2) := dk_16 7 (dk_at dksX3_isDark_3 2 rfl rfl)
theorem dX3_isDark_74 : decode cX3_isDark 74 = .ok (.iand, 1) := dk_126 (dk_at dksX3_isDark_3 4 rfl rfl)
theorem dX3_isDark_75 : decode cX3_isDark 75 = .ok (.isub, 1) := dk_100 (dk_at dksX3_isDark_3 5 rfl rfl)
theorem dX3_isDark_76 : decode cX3_isDark 76 = .ok (.ishr, 1) := dk_122 (dk_at dksX3_isDark_3 6 rfl rfl)
theorem dX3_isDark_77 : decode cX3_isDark 77 = .ok (.iconst 1, 1) := dk_4 (dk_at dksX3_isDark_3 7 rfl rfl)
theorem dX3_isDark_78 : decode cX3_isDark 78 = .ok (.iand, 1) := dk_126 (dk_at dksX3_isDark_3 8 rfl rfl)
theorem dX3_isDark_79 : decode cX3_isDark 79 = .ok (.iconst 1, 1) := dk_4 (dk_at dksX3_isDark_3 9 rfl rfl)
theorem dX3_isDark_80 : decode cX3_isDark 80 = .ok (.if_icmp .ne 7, 3) := dk_160 0 7 (dk_at dksX3_isDark_3 10 rfl rfl)
theorem dX3_isDark_83 : decode cX3_isDark 83 = .ok (.iconst 1, 1) := dk_4 (dk_at dksX3_isDark_3 13 rfl rfl)
theorem dX3_isDark_84 : decode cX3_isDark 84 = .ok (.goto 4, 3) := dk_167 0 4 (dk_at dksX3_isDark_3 14 rfl rfl)
theorem dX3_isDark_87 : decode cX3_isDark 87 = .ok (.iconst 0, 1) := dk_3 (dk_at dksX3_isDark_3 17 rfl rfl)
theorem dX3_isDark_88 : decode cX3_isDark 88 = .ok (.ireturn, 1) := dk_172 (dk_at dksX3_isDark_3 18 rfl rfl)
theorem q15 : (Jvm.Cond.initialized "PlacementDeskLaw$Square") ∈ lw_all := lw_g (lw_at lw_m1 7 rfl) rfl
theorem q219 : (Jvm.Cond.instantiable "PlacementDeskLaw$Square" (2 : Nat)) ∈ lw_all := lw_g (lw_at lw_m1 211 rfl) rfl
theorem q221 : (Jvm.Cond.instanceMethod ({ cls := "PlacementDeskLaw$Square", name := "<init>", desc := "(I)V" } : Jvm.MethodName)) ∈ lw_all := lw_g (lw_at lw_m1 213 rfl) rfl
theorem q222 : (Jvm.Cond.code ({ cls := "PlacementDeskLaw$Square", name := "<init>", desc := "(I)V" } : Jvm.MethodName) prog_4_method_1_code (3 : Nat) (Option.none : Option Jvm.ClassFile.FieldType)) ∈ lw_all := lw_g (lw_at lw_m1 214 rfl) rfl
theorem q223 : (Jvm.Cond.methodLink "PlacementDeskLaw$Square" (1 : Nat) ({ cls := "java/lang/Object", name := "<init>", desc := "()V" } : Jvm.MethodName)) ∈ lw_all := lw_g (lw_at lw_m1 215 rfl) rfl
theorem q224 : (Jvm.Cond.fieldLink "PlacementDeskLaw$Square" (7 : Nat) "PlacementDeskLaw$Square" "side" "I") ∈ lw_all := lw_g (lw_at lw_m1 216 rfl) rfl
theorem q226 : (Jvm.Cond.fieldLink "PlacementDeskLaw$Square" (13 : Nat) "PlacementDeskLaw$Square" "at" "[I") ∈ lw_all := lw_g (lw_at lw_m1 218 rfl) rfl
theorem q227 : (Jvm.Cond.laysFinal "PlacementDeskLaw$Square" "PlacementDeskLaw$Square" "side" "I") ∈ lw_all := lw_g (lw_at lw_m1 219 rfl) rfl
theorem q228 : (Jvm.Cond.soleField "PlacementDeskLaw$Square" "side") ∈ lw_all := lw_g (lw_at lw_m1 220 rfl) rfl
theorem q229 : (Jvm.Cond.laysFinal "PlacementDeskLaw$Square" "PlacementDeskLaw$Square" "at" "[I") ∈ lw_all := lw_g (lw_at lw_m1 221 rfl) rfl
theorem q230 : (Jvm.Cond.soleField "PlacementDeskLaw$Square" "at") ∈ lw_all := lw_g (lw_at lw_m1 222 rfl) rfl
theorem q231 : (Jvm.Cond.superclass "PlacementDeskLaw$Square" "java/lang/Object") ∈ lw_all := lw_g (lw_at lw_m1 223 rfl) rfl
theorem q234 : (Jvm.Cond.instanceMethod ({ cls := "PlacementDeskLaw$Square", name := "fill", desc := "()V" } : Jvm.MethodName)) ∈ lw_all := lw_g (lw_at lw_m1 226 rfl) rfl
theorem q235 : (Jvm.Cond.selects "PlacementDeskLaw$Square" ({ cls := "PlacementDeskLaw$Square", name := "fill", desc := "()V" } : Jvm.MethodName) ({ cls := "PlacementDeskLaw$Square", name := "fill", desc := "()V" } : Jvm.MethodName)) ∈ lw_all := lw_g (lw_at lw_m1 227 rfl) rfl
theorem q236 : (Jvm.Cond.code ({ cls := "PlacementDeskLaw$Square", name := "fill", desc := "()V" } : Jvm.MethodName) prog_4_method_6_code (5 : Nat) (Option.none : Option Jvm.ClassFile.FieldType)) ∈ lw_all := lw_g (lw_at lw_m1 228 rfl) rfl
theorem q237 : (Jvm.Cond.methodLink "PlacementDeskLaw$Square" (21 : Nat) ({ cls := "PlacementDeskLaw$Square", name := "word", desc := "(I[I)V" } : Jvm.MethodName)) ∈ lw_all := lw_g (lw_at lw_m1 229 rfl) rfl
theorem q238 : (Jvm.Cond.instanceMethod ({ cls := "PlacementDeskLaw$Square", name := "word", desc := "(I[I)V" } : Jvm.MethodName)) ∈ lw_all := lw_g (lw_at lw_m1 230 rfl) rfl
theorem q239 : (Jvm.Cond.selects "PlacementDeskLaw$Square" ({ cls := "PlacementDeskLaw$Square", name := "word", desc := "(I[I)V" } : Jvm.MethodName) ({ cls := "PlacementDeskLaw$Square", name := "word", desc := "(I[I)V" } : Jvm.MethodName)) ∈ lw_all := lw_g (lw_at lw_m1 231 rfl) rfl
theorem q240 : (Jvm.Cond.code ({ cls := "PlacementDeskLaw$Square", name := "word", desc := "(I[I)V" } : Jvm.MethodName) prog_4_method_3_code (4 : Nat) (Option.none : Option Jvm.ClassFile.FieldType)) ∈ lw_all := lw_g (lw_at lw_m1 232 rfl) rfl
theorem q241 : (Jvm.Cond.methodLink "PlacementDeskLaw$Square" (17 : Nat) ({ cls := "PlacementDeskLaw$Square", name := "module", desc := "(IIII)V" } : Jvm.MethodName)) ∈ lw_all := lw_g (lw_at lw_m1 233 rfl) rfl
theorem q242 : (Jvm.Cond.instanceMethod ({ cls := "PlacementDeskLaw$Square", name := "module", desc := "(IIII)V" } : Jvm.MethodName)) ∈ lw_all := lw_g (lw_at lw_m1 234 rfl) rfl
theorem q243 : (Jvm.Cond.selects "PlacementDeskLaw$Square" ({ cls := "PlacementDeskLaw$Square", name := "module", desc := "(IIII)V" } : Jvm.MethodName) ({ cls := "PlacementDeskLaw$Square", name := "module", desc := "(IIII)V" } : Jvm.MethodName)) ∈ lw_all := lw_g (lw_at lw_m1 235 rfl) rfl
theorem q244 : (Jvm.Cond.code ({ cls := "PlacementDeskLaw$Square", name := "module", desc := "(IIII)V" } : Jvm.MethodName) prog_4_method_2_code (7 : Nat) (Option.none : Option Jvm.ClassFile.FieldType)) ∈ lw_all := lw_g (lw_at lw_m1 236 rfl) rfl
theorem q245 : (Jvm.Cond.methodLink "PlacementDeskLaw$Square" (25 : Nat) ({ cls := "PlacementDeskLaw$Square", name := "isFree", desc := "(II)Z" } : Jvm.MethodName)) ∈ lw_all := lw_g (lw_at lw_m1 237 rfl) rfl
theorem q246 : (Jvm.Cond.instanceMethod ({ cls := "PlacementDeskLaw$Square", name := "isFree", desc := "(II)Z" } : Jvm.MethodName)) ∈ lw_all := lw_g (lw_at lw_m1 238 rfl) rfl
theorem q247 : (Jvm.Cond.selects "PlacementDeskLaw$Square" ({ cls := "PlacementDeskLaw$Square", name := "isFree", desc := "(II)Z" } : Jvm.MethodName) ({ cls := "PlacementDeskLaw$Square", name := "isFree", desc := "(II)Z" } : Jvm.MethodName)) ∈ lw_all := lw_g (lw_at lw_m1 239 rfl) rfl
theorem q248 : (Jvm.Cond.code ({ cls := "PlacementDeskLaw$Square", name := "isFree", desc := "(II)Z" } : Jvm.MethodName) prog_4_method_5_code (3 : Nat) (Option.some Jvm.ClassFile.FieldType.boolean)) ∈ lw_all := lw_g (lw_at lw_m2 0 rfl) rfl
theorem q249 : (Jvm.Cond.methodLink "PlacementDeskLaw$Square" (29 : Nat) ({ cls := "PlacementDeskLaw$Square", name := "shape", desc := "(III)V" } : Jvm.MethodName)) ∈ lw_all := lw_g (lw_at lw_m2 1 rfl) rfl
theorem q250 : (Jvm.Cond.instanceMethod ({ cls := "PlacementDeskLaw$Square", name := "shape", desc := "(III)V" } : Jvm.MethodName)) ∈ lw_all := lw_g (lw_at lw_m2 2 rfl) rfl
theorem q251 : (Jvm.Cond.selects "PlacementDeskLaw$Square" ({ cls := "PlacementDeskLaw$Square", name := "shape", desc := "(III)V" } : Jvm.MethodName) ({ cls := "PlacementDeskLaw$Square", name := "shape", desc := "(III)V" } : Jvm.MethodName)) ∈ lw_all := lw_g (lw_at lw_m2 3 rfl) rfl
theorem q252 : (Jvm.Cond.code ({ cls := "PlacementDeskLaw$Square", name := "shape", desc := "(III)V" } : Jvm.MethodName) prog_4_method_4_code (4 : Nat) (Option.none : Option Jvm.ClassFile.FieldType)) ∈ lw_all := lw_g (lw_at lw_m2 4 rfl) rfl
theorem q254 : (Jvm.Cond.instanceMethod ({ cls := "PlacementDeskLaw$Square", name := "isWhole", desc := "(I)Z" } : Jvm.MethodName)) ∈ lw_all := lw_g (lw_at lw_m2 6 rfl) rfl
theorem q255 : (Jvm.Cond.selects "PlacementDeskLaw$Square" ({ cls := "PlacementDeskLaw$Square", name := "isWhole", desc := "(I)Z" } : Jvm.MethodName) ({ cls := "PlacementDeskLaw$Square", name := "isWhole", desc := "(I)Z" } : Jvm.MethodName)) ∈ lw_all := lw_g (lw_at lw_m2 7 rfl) rfl
theorem q256 : (Jvm.Cond.code ({ cls := "PlacementDeskLaw$Square", name := "isWhole", desc := "(I)Z" } : Jvm.MethodName) prog_4_method_8_code (8 : Nat) (Option.some Jvm.ClassFile.FieldType.boolean)) ∈ lw_all := lw_g (lw_at lw_m2 8 rfl) rfl
theorem q268 : (Jvm.Cond.instanceMethod ({ cls := "PlacementDeskLaw$Square", name := "isDark", desc := "(II[I)Z" } : Jvm.MethodName)) ∈ lw_all := lw_g (lw_at lw_m2 20 rfl) rfl
theorem q269 : (Jvm.Cond.selects "PlacementDeskLaw$Square" ({ cls := "PlacementDeskLaw$Square", name := "isDark", desc := "(II[I)Z" } : Jvm.MethodName) ({ cls := "PlacementDeskLaw$Square", name := "isDark", desc := "(II[I)Z" } : Jvm.MethodName)) ∈ lw_all := lw_g (lw_at lw_m2 21 rfl) rfl
theorem q270 : (Jvm.Cond.code ({ cls := "PlacementDeskLaw$Square", name := "isDark", desc := "(II[I)Z" } : Jvm.MethodName) prog_4_method_7_code (5 : Nat) (Option.some Jvm.ClassFile.FieldType.boolean)) ∈ lw_all := lw_g (lw_at lw_m2 22 rfl) rfl
theorem in_X3 : ∀ w ∈ wsX30, w ∈ lw_all := lw_in wsX30 [227, 229] (by decide +kernel) (by decide +kernel)
end
section
/-! the law's own entry -/
set_option maxRecDepth 100000
abbrev cL_law : ByteArray := code
def dkwL_law_18 : List UInt8 := [3, 172, 132, 4, 6, 167, 255, 17, 4, 172]
abbrev dktL_law_18 : List UInt8 := dkwL_law_18 ++ []
def dkwL_law_17 : List UInt8 := [43, 44, 21, 10, 6, 126, 50, 45, 42, 21, 4, 8, 96, 184, 0, 44, 21, 6, 184, 0, 55, 154, 0, 5]
abbrev dktL_law_17 : List UInt8 := dkwL_law_17 ++ dktL_law_18
def dkwL_law_16 : List UInt8 := [184, 0, 55, 154, 0, 5, 3, 172, 42, 21, 4, 7, 96, 184, 0, 44, 54, 10, 43, 21, 10, 182, 0, 52]
abbrev dktL_law_16 : List UInt8 := dkwL_law_16 ++ dktL_law_17
def dkwL_law_15 : List UInt8 := [16, 72, 112, 46, 2, 130, 17, 0, 255, 126, 79, 43, 44, 21, 7, 6, 126, 50, 25, 8, 21, 9, 21, 7]
abbrev dktL_law_15 : List UInt8 := dkwL_law_15 ++ dktL_law_16
def dkwL_law_14 : List UInt8 := [16, 72, 112, 46, 2, 130, 182, 0, 48, 45, 21, 9, 184, 0, 29, 16, 72, 112, 45, 21, 9, 184, 0, 29]
abbrev dktL_law_14 : List UInt8 := dkwL_law_14 ++ dktL_law_15
def dkwL_law_13 : List UInt8 := [154, 0, 5, 3, 172, 42, 21, 4, 6, 96, 184, 0, 44, 54, 9, 43, 21, 9, 45, 21, 9, 184, 0, 29]
abbrev dktL_law_13 : List UInt8 := dkwL_law_13 ++ dktL_law_14
def dkwL_law_12 : List UInt8 := [132, 9, 1, 167, 255, 237, 43, 44, 21, 7, 6, 126, 50, 25, 8, 21, 6, 21, 5, 184, 0, 55]
abbrev dktL_law_12 : List UInt8 := dkwL_law_12 ++ dktL_law_13
def dkwL_law_11 : List UInt8 := [188, 10, 58, 8, 3, 54, 9, 21, 9, 16, 72, 162, 0, 18, 25, 8, 21, 9, 45, 21, 9, 46, 79]
abbrev dktL_law_11 : List UInt8 := dkwL_law_11 ++ dktL_law_12
def dkwL_law_10 : List UInt8 := [21, 5, 184, 0, 29, 16, 72, 112, 21, 6, 17, 0, 255, 126, 79, 43, 21, 7, 182, 0, 52, 16, 72]
abbrev dktL_law_10 : List UInt8 := dkwL_law_10 ++ dktL_law_11
def dkwL_law_9 : List UInt8 := [184, 0, 44, 54, 6, 42, 21, 4, 5, 96, 184, 0, 44, 54, 7, 43, 21, 5, 21, 6, 182, 0, 48, 45]
abbrev dktL_law_9 : List UInt8 := dkwL_law_9 ++ dktL_law_10
def dkwL_law_8 : List UInt8 := [21, 4, 8, 96, 16, 96, 162, 0, 236, 42, 21, 4, 184, 0, 44, 54, 5, 42, 21, 4, 4, 96]
abbrev dktL_law_8 : List UInt8 := dkwL_law_8 ++ dktL_law_9
def dkwL_law_7 : List UInt8 := [21, 5, 182, 0, 48, 45, 21, 4, 21, 5, 17, 0, 255, 126, 79, 132, 4, 1, 167, 255, 210, 3, 54, 4]
abbrev dktL_law_7 : List UInt8 := dkwL_law_7 ++ dktL_law_8
def dkwL_law_6 : List UInt8 := [162, 0, 45, 42, 21, 4, 7, 108, 184, 0, 44, 16, 8, 21, 4, 7, 112, 104, 122, 54, 5, 43, 21, 4]
abbrev dktL_law_6 : List UInt8 := dkwL_law_6 ++ dktL_law_7
def dkwL_law_5 : List UInt8 := [16, 8, 112, 182, 0, 21, 153, 0, 5, 3, 172, 132, 4, 1, 167, 255, 227, 3, 54, 4, 21, 4, 16, 72]
abbrev dktL_law_5 : List UInt8 := dkwL_law_5 ++ dktL_law_6
def dkwL_law_4 : List UInt8 := [159, 0, 5, 3, 172, 3, 54, 4, 21, 4, 16, 64, 162, 0, 28, 43, 21, 4, 16, 8, 108, 21, 4]
abbrev dktL_law_4 : List UInt8 := dkwL_law_4 ++ dktL_law_5
def dkwL_law_3 : List UInt8 := [16, 8, 108, 182, 0, 40, 154, 0, 5, 3, 172, 132, 4, 1, 167, 255, 192, 43, 182, 0, 10, 16, 8]
abbrev dktL_law_3 : List UInt8 := dkwL_law_3 ++ dktL_law_4
def dkwL_law_2 : List UInt8 := [50, 182, 0, 37, 44, 21, 4, 50, 16, 8, 5, 21, 4, 104, 96, 16, 8, 5, 21, 4, 104, 96, 104]
abbrev dktL_law_2 : List UInt8 := dkwL_law_2 ++ dktL_law_3
def dkwL_law_1 : List UInt8 := [162, 0, 64, 44, 21, 4, 187, 0, 17, 89, 16, 8, 5, 21, 4, 104, 96, 183, 0, 34, 83, 44, 21, 4]
abbrev dktL_law_1 : List UInt8 := dkwL_law_1 ++ dktL_law_2
def dkwL_law_0 : List UInt8 := [187, 0, 11, 89, 183, 0, 33, 76, 7, 189, 0, 17, 77, 16, 72, 188, 10, 78, 3, 54, 4, 21, 4, 7]
abbrev dktL_law_0 : List UInt8 := dkwL_law_0 ++ dktL_law_1
theorem dksL_law_0 : cL_law.data.toList.drop 0 = dktL_law_0 := by decide +kernel
theorem dksL_law_1 : cL_law.data.toList.drop 24 = dktL_law_1 := dk_seg dksL_law_0 24 rfl rfl
theorem dksL_law_2 : cL_law.data.toList.drop 48 = dktL_law_2 := dk_seg dksL_law_1 24 rfl rfl
theorem dksL_law_3 : cL_law.data.toList.drop 71 = dktL_law_3 := dk_seg dksL_law_2 23 rfl rfl
theorem dksL_law_4 : cL_law.data.toList.drop 94 = dktL_law_4 := dk_seg dksL_law_3 23 rfl rfl
theorem dksL_law_5 : cL_law.data.toList.drop 117 = dktL_law_5 := dk_seg dksL_law_4 23 rfl rfl
theorem dksL_law_6 : cL_law.data.toList.drop 141 = dktL_law_6 := dk_seg dksL_law_5 24 rfl rfl
theorem dksL_law_7 : cL_law.data.toList.drop 165 = dktL_law_7 := dk_seg dksL_law_6 24 rfl rfl
theorem dksL_law_8 : cL_law.data.toList.drop 189 = dktL_law_8 := dk_seg dksL_law_7 24 rfl rfl
theorem dksL_law_9 : cL_law.data.toList.drop 211 = dktL_law_9 := dk_seg dksL_law_8 22 rfl rfl
theorem dksL_law_10 : cL_law.data.toList.drop 235 = dktL_law_10 := dk_seg dksL_law_9 24 rfl rfl
theorem dksL_law_11 : cL_law.data.toList.drop 258 = dktL_law_11 := dk_seg dksL_law_10 23 rfl rfl
theorem dksL_law_12 : cL_law.data.toList.drop 281 = dktL_law_12 := dk_seg dksL_law_11 23 rfl rfl
theorem dksL_law_13 : cL_law.data.toList.drop 303 = dktL_law_13 := dk_seg dksL_law_12 22 rfl rfl
theorem dksL_law_14 : cL_law.data.toList.drop 327 = dktL_law_14 := dk_seg dksL_law_13 24 rfl rfl
theorem dksL_law_15 : cL_law.data.toList.drop 351 = dktL_law_15 := dk_seg dksL_law_14 24 rfl rfl
theorem dksL_law_16 : cL_law.data.toList.drop 375 = dktL_law_16 := dk_seg dksL_law_15 24 rfl rfl
theorem dksL_law_17 : cL_law.data.toList.drop 399 = dktL_law_17 := dk_seg dksL_law_16 24 rfl rfl
theorem dksL_law_18 : cL_law.data.toList.drop 423 = dktL_law_18 := dk_seg dksL_law_17 24 rfl rfl
theorem dL_law_0 : decode cL_law 0 = .ok (.new 11, 3) := dk_187 0 11 (dk_at dksL_law_0 0 rfl rfl)
theorem dL_law_3 : decode cL_law 3 = .ok (.dup, 1) := dk_89 (dk_at dksL_law_0 3 rfl rfl)
theorem dL_law_4 : decode cL_law 4 = .ok (.invokespecial 33, 3) := dk_183 0 33 (dk_at dksL_law_0 4 rfl rfl)
theorem dL_law_7 : decode cL_law 7 = .ok (.astore_n 1, 1) := dk_76 (dk_at dksL_law_0 7 rfl rfl)
theorem dL_law_8 : decode cL_law 8 = .ok (.iconst 4, 1) := dk_7 (dk_at dksL_law_0 8 rfl rfl)
theorem dL_law_9 : decode cL_law 9 = .ok (.anewarray 17, 3) := dk_189 0 17 (dk_at dksL_law_0 9 rfl rfl)
theorem dL_law_12 : decode cL_law 12 = .ok (.astore_n 2, 1) := dk_77 (dk_at dksL_law_0 12 rfl rfl)
theorem dL_law_13 : decode cL_law 13 = .ok (.bipush 72, 2) := dk_16 72 (dk_at dksL_law_0 13 rfl rfl)
theorem dL_law_15 : decode cL_law 15 = .ok (.newarray .int, 2) := dk_188_10 (dk_at dksL_law_0 15 rfl rfl)
theorem dL_law_17 : decode cL_law 17 = .ok (.astore_n 3, 1) := dk_78 (dk_at dksL_law_0 17 rfl rfl)
theorem dL_law_18 : decode cL_law 18 = .ok (.iconst 0, 1) := dk_3 (dk_at dksL_law_0 18 rfl rfl)
theorem dL_law_19 : decode cL_law 19 = .ok (.istore 4, 2) := dk_54 4 (dk_at dksL_law_0 19 rfl rfl)
theorem dL_law_21 : decode cL_law 21 = .ok (.iload 4, 2) := dk_21 4 (dk_at dksL_law_0 21 rfl rfl)
theorem dL_law_23 : decode cL_law 23 = .ok (.iconst 4, 1) := dk_7 (dk_at dksL_law_0 23 rfl rfl)
theorem dL_law_24 : decode cL_law 24 = .ok (.if_icmp .ge 64, 3) := dk_162 0 64 (dk_at dksL_law_1 0 rfl rfl)
theorem dL_law_27 : decode cL_law 27 = .ok (.aload_n 2, 1) := dk_44 (dk_at dksL_law_1 3 rfl rfl)
theorem dL_law_28 : decode cL_law 28 = .ok (.iload 4, 2) := dk_21 4 (dk_at dksL_law_1 4 rfl rfl)
theorem dL_law_30 : decode cL_law 30 = .ok (.new 17, 3) := dk_187 0 17 (dk_at dksL_law_1 6 rfl rfl)
theorem dL_law_33 : decode cL_law 33 = .ok (.dup, 1) := dk_89 (dk_at dksL_law_1 9 rfl rfl)
theorem dL_law_34 : decode cL_law 34 = .ok (.bipush 8, 2) := dk_16 8 (dk_at dksL_law_1 10 rfl rfl)
theorem dL_law_36 : decode cL_law 36 = .ok (.iconst 2, 1) := dk_5 (dk_at dksL_law_1 12 rfl rfl)
theorem dL_law_37 : decode cL_law 37 = .ok (.iload 4, 2) := dk_21 4 (dk_at dksL_law_1 13 rfl rfl)
theorem dL_law_39 : decode cL_law 39 = .ok (.imul, 1) := dk_104 (dk_at dksL_law_1 15 rfl rfl)
theorem dL_law_40 : decode cL_law 40 = .ok (.iadd, 1) := dk_96 (dk_at dksL_law_1 16 rfl rfl)
theorem dL_law_41 : decode cL_law 41 = .ok (.invokespecial 34, 3) := dk_183 0 34 (dk_at dksL_law_1 17 rfl rfl)
theorem dL_law_44 : decode cL_law 44 = .ok (.aastore, 1) := dk_83 (dk_at dksL_law_1 20 rfl rfl)
theorem dL_law_45 : decode cL_law 45 = .ok (.aload_n 2, 1) := dk_44 (dk_at dksL_law_1 21 rfl rfl)
theorem dL_law_46 : decode cL_law 46 = .ok (.iload 4, 2) := dk_21 4 (dk_at dksL_law_1 22 rfl rfl)
theorem dL_law_48 : decode cL_law 48 = .ok (.aaload, 1) := dk_50 (dk_at dksL_law_2 0 rfl rfl)
theorem dL_law_49 : decode cL_law 49 = .ok (.invokevirtual 37, 3) := dk_182 0 37 (dk_at dksL_law_2 1 rfl rfl)
theorem dL_law_52 : decode cL_law 52 = .ok (.aload_n 2, 1) := dk_44 (dk_at dksL_law_2 4 rfl rfl)
theorem dL_law_53 : decode cL_law 53 = .ok (.iload 4, 2) := dk_21 4 (dk_at dksL_law_2 5 rfl rfl)
theorem dL_law_55 : decode cL_law 55 = .ok (.aaload, 1) := dk_50 (dk_at dksL_law_2 7 rfl rfl)
theorem dL_law_56 : decode cL_law 56 = .ok (.bipush 8, 2) := dk_16 8 (dk_at dksL_law_2 8 rfl rfl)
theorem dL_law_58 : decode cL_law 58 = .ok (.iconst 2, 1) := dk_5 (dk_at dksL_law_2 10 rfl rfl)
theorem dL_law_59 : decode cL_law 59 = .ok (.iload 4, 2) := dk_21 4 (dk_at dksL_law_2 11 rfl rfl)
theorem dL_law_61 : decode cL_law 61 = .ok (.imul, 1) := dk_104 (dk_at dksL_law_2 13 rfl rfl)
theorem dL_law_62 : decode cL_law 62 = .ok (.iadd, 1) := dk_96 (dk_at dksL_law_2 14 rfl rfl)
theorem dL_law_63 : decode cL_law 63 = .ok (.bipush 8, 2) := dk_16 8 (dk_at dksL_law_2 15 rfl rfl)
theorem dL_law_65 : decode cL_law 65 = .ok (.iconst 2, 1) := dk_5 (dk_at dksL_law_2 17 rfl rfl)
theorem dL_law_66 : decode cL_law 66 = .ok (.iload 4, 2) := dk_21 4 (dk_at dksL_law_2 18 rfl rfl)
theorem dL_law_68 : decode cL_law 68 = .ok (.imul, 1) := dk_104 (dk_at dksL_law_2 20 rfl rfl)
theorem dL_law_69 : decode cL_law 69 = .ok (.iadd, 1) := dk_96 (dk_at dksL_law_2 21 rfl rfl)
theorem dL_law_70 : decode cL_law 70 = .ok (.imul, 1) := dk_104 (dk_at dksL_law_2 22 rfl rfl)
theorem dL_law_71 : decode cL_law 71 = .ok (.bipush 8, 2) := dk_16 8 (dk_at dksL_law_3 0 rfl rfl)
theorem dL_law_73 : decode cL_law 73 = .ok (.idiv, 1) := dk_108 (dk_at dksL_law_3 2 rfl rfl)
theorem dL_law_74 : decode cL_law 74 = .ok (.invokevirtual 40, 3) := dk_182 0 40 (dk_at dksL_law_3 3 rfl rfl)
theorem dL_law_77 : decode cL_law 77 = .ok (.ifCond .ne 5, 3) := dk_154 0 5 (dk_at dksL_law_3 6 rfl rfl)
theorem dL_law_80 : decode cL_law 80 = .ok (.iconst 0, 1) := dk_3 (dk_at dksL_law_3 9 rfl rfl)
theorem dL_law_81 : decode cL_law 81 = .ok (.ireturn, 1) := dk_172 (dk_at dksL_law_3 10 rfl rfl)
theorem dL_law_82 : decode cL_law 82 = .ok (.iinc 4 1, 3) := dk_132 4 1 (dk_at dksL_law_3 11 rfl rfl)
theorem dL_law_85 : decode cL_law 85 = .ok (.goto (-64), 3) := dk_167 255 192 (dk_at dksL_law_3 14 rfl rfl)
theorem dL_law_88 : decode cL_law 88 = .ok (.aload_n 1, 1) := dk_43 (dk_at dksL_law_3 17 rfl rfl)
theorem dL_law_89 : decode cL_law 89 = .ok (.invokevirtual 10, 3) := dk_182 0 10 (dk_at dksL_law_3 18 rfl rfl)
theorem dL_law_92 : decode cL_law 92 = .ok (.bipush 8, 2) := dk_16 8 (dk_at dksL_law_3 21 rfl rfl)
theorem dL_law_94 : decode cL_law 94 = .ok (.if_icmp .eq 5, 3) := dk_159 0 5 (dk_at dksL_law_4 0 rfl rfl)
theorem dL_law_97 : decode cL_law 97 = .ok (.iconst 0, 1) := dk_3 (dk_at dksL_law_4 3 rfl rfl)
theorem dL_law_98 : decode cL_law 98 = .ok (.ireturn, 1) := dk_172 (dk_at dksL_law_4 4 rfl rfl)
theorem dL_law_99 : decode cL_law 99 = .ok (.iconst 0, 1) := dk_3 (dk_at dksL_law_4 5 rfl rfl)
theorem dL_law_100 : decode cL_law 100 = .ok (.istore 4, 2) := dk_54 4 (dk_at dksL_law_4 6 rfl rfl)
theorem dL_law_102 : decode cL_law 102 = .ok (.iload 4, 2) := dk_21 4 (dk_at dksL_law_4 8 rfl rfl)
theorem dL_law_104 : decode cL_law 104 = .ok (.bipush 64, 2) := dk_16 64 (dk_at dksL_law_4 10 rfl rfl)
theorem dL_law_106 : decode cL_law 106 = .ok (.if_icmp .ge 28, 3) := dk_162 0 28 (dk_at dksL_law_4 12 rfl rfl)
theorem dL_law_109 : decode cL_law 109 = .ok (.aload_n 1, 1) := dk_43 (dk_at dksL_law_4 15 rfl rfl)
theorem dL_law_110 : decode cL_law 110 = .ok (.iload 4, 2) := dk_21 4 (dk_at dksL_law_4 16 rfl rfl)
theorem dL_law_112 : decode cL_law 112 = .ok (.bipush 8, 2) := dk_16 8 (dk_at dksL_law_4 18 rfl rfl)
theorem dL_law_114 : decode cL_law 114 = .ok (.idiv, 1) := dk_108 (dk_at dksL_law_4 20 rfl rfl)
theorem dL_law_115 : decode cL_law 115 = .ok (.iload 4, 2) := dk_21 4 (dk_at dksL_law_4 21 rfl rfl)
theorem dL_law_117 : decode cL_law 117 = .ok (.bipush 8, 2) := dk_16 8 (dk_at dksL_law_5 0 rfl rfl)
theorem dL_law_119 : decode cL_law 119 = .ok (.irem, 1) := dk_112 (dk_at dksL_law_5 2 rfl rfl)
theorem dL_law_120 : decode cL_law 120 = .ok (.invokevirtual 21, 3) := dk_182 0 21 (dk_at dksL_law_5 3 rfl rfl)
theorem dL_law_123 : decode cL_law 123 = .ok (.ifCond .eq 5, 3) := dk_153 0 5 (dk_at dksL_law_5 6 rfl rfl)
theorem dL_law_126 : decode cL_law 126 = .ok (.iconst 0, 1) := dk_3 (dk_at dksL_law_5 9 rfl rfl)
theorem dL_law_127 : decode cL_law 127 = .ok (.ireturn, 1) := dk_172 (dk_at dksL_law_5 10 rfl rfl)
theorem dL_law_128 : decode cL_law 128 = .ok (.iinc 4 1, 3) := dk_132 4 1 (dk_at dksL_law_5 11 rfl rfl)
theorem dL_law_131 : decode cL_law 131 = .ok (.goto (-29), 3) := dk_167 255 227 (dk_at dksL_law_5 14 rfl rfl)
theorem dL_law_134 : decode cL_law 134 = .ok (.iconst 0, 1) := dk_3 (dk_at dksL_law_5 17 rfl rfl)
theorem dL_law_135 : decode cL_law 135 = .ok (.istore 4, 2) := dk_54 4 (dk_at dksL_law_5 18 rfl rfl)
theorem dL_law_137 : decode cL_law 137 = .ok (.iload 4, 2) := dk_21 4 (dk_at dksL_law_5 20 rfl rfl)
theorem dL_law_139 : decode cL_law 139 = .ok (.bipush 72, 2) := dk_16 72 (dk_at dksL_law_5 22 rfl rfl)
theorem dL_law_141 : decode cL_law 141 = .ok (.if_icmp .ge 45, 3) := dk_162 0 45 (dk_at dksL_law_6 0 rfl rfl)
theorem dL_law_144 : decode cL_law 144 = .ok (.aload_n 0, 1) := dk_42 (dk_at dksL_law_6 3 rfl rfl)
theorem dL_law_145 : decode cL_law 145 = .ok (.iload 4, 2) := dk_21 4 (dk_at dksL_law_6 4 rfl rfl)
theorem dL_law_147 : decode cL_law 147 = .ok (.iconst 4, 1) := dk_7 (dk_at dksL_law_6 6 rfl rfl)
theorem dL_law_148 : decode cL_law 148 = .ok (.idiv, 1) := dk_108 (dk_at dksL_law_6 7 rfl rfl)
theorem dL_law_149 : decode cL_law 149 = .ok (.invokestatic 44, 3) := dk_184 0 44 (dk_at dksL_law_6 8 rfl rfl)
theorem dL_law_152 : decode cL_law 152 = .ok (.bipush 8, 2) := dk_16 8 (dk_at dksL_law_6 11 rfl rfl)
theorem dL_law_154 : decode cL_law 154 = .ok (.iload 4, 2) := dk_21 4 (dk_at dksL_law_6 13 rfl rfl)
theorem dL_law_156 : decode cL_law 156 = .ok (.iconst 4, 1) := dk_7 (dk_at dksL_law_6 15 rfl rfl)
theorem dL_law_157 : decode cL_law 157 = .ok (.irem, 1) := dk_112 (dk_at dksL_law_6 16 rfl rfl)
theorem dL_law_158 : decode cL_law 158 = .ok (.imul, 1) := dk_104 (dk_at dksL_law_6 17 rfl rfl)
theorem dL_law_159 : decode cL_law 159 = .ok (.ishr, 1) := dk_122 (dk_at dksL_law_6 18 rfl rfl)
theorem dL_law_160 : decode cL_law 160 = .ok (.istore 5, 2) := dk_54 5 (dk_at dksL_law_6 19 rfl rfl)
theorem dL_law_162 : decode cL_law 162 = .ok (.aload_n 1, 1) := dk_43 (dk_at dksL_law_6 21 rfl rfl)
theorem dL_law_163 : decode cL_law 163 = .ok (.iload 4, 2) := dk_21 4 (dk_at dksL_law_6 22 rfl rfl)
theorem dL_law_165 : decode cL_law 165 = .ok (.iload 5, 2) := dk_21 5 (dk_at dksL_law_7 0 rfl rfl)
theorem dL_law_167 : decode cL_law 167 = .ok (.invokevirtual 48, 3) := dk_182 0 48 (dk_at dksL_law_7 2 rfl rfl)
theorem dL_law_170 : decode cL_law 170 = .ok (.aload_n 3, 1) := dk_45 (dk_at dksL_law_7 5 rfl rfl)
theorem dL_law_171 : decode cL_law 171 = .ok (.iload 4, 2) := dk_21 4 (dk_at dksL_law_7 6 rfl rfl)
theorem dL_law_173 : decode cL_law 173 = .ok (.iload 5, 2) := dk_21 5 (dk_at dksL_law_7 8 rfl rfl)
theorem dL_law_175 : decode cL_law 175 = .ok (.sipush 255, 3) := dk_17 0 255 (dk_at dksL_law_7 10 rfl rfl)
theorem dL_law_178 : decode cL_law 178 = .ok (.iand, 1) := dk_126 (dk_at dksL_law_7 13 rfl rfl)
theorem dL_law_179 : decode cL_law 179 = .ok (.iastore, 1) := dk_79 (dk_at dksL_law_7 14 rfl rfl)
theorem dL_law_180 : decode cL_law 180 = .ok (.iinc 4 1, 3) := dk_132 4 1 (dk_at dksL_law_7 15 rfl rfl)
theorem dL_law_183 : decode cL_law 183 = .ok (.goto (-46), 3) := dk_167 255 210 (dk_at dksL_law_7 18 rfl rfl)
theorem dL_law_186 : decode cL_law 186 = .ok (.iconst 0, 1) := dk_3 (dk_at dksL_law_7 21 rfl rfl)
theorem dL_law_187 : decode cL_law 187 = .ok (.istore 4, 2) := dk_54 4 (dk_at dksL_law_7 22 rfl rfl)
theorem dL_law_189 : decode cL_law 189 = .ok (.iload 4, 2) := dk_21 4 (dk_at dksL_law_8 0 rfl rfl)
theorem dL_law_191 : decode cL_law 191 = .ok (.iconst 5, 1) := dk_8 (dk_at dksL_law_8 2 rfl rfl)
theorem dL_law_192 : decode cL_law 192 = .ok (.iadd, 1) := dk_96 (dk_at dksL_law_8 3 rfl rfl)
theorem dL_law_193 : decode cL_law 193 = .ok (.bipush 96, 2) := dk_16 96 (dk_at dksL_law_8 4 rfl rfl)
theorem dL_law_195 : decode cL_law 195 = .ok (.if_icmp .ge 236, 3) := dk_162 0 236 (dk_at dksL_law_8 6 rfl rfl)
theorem dL_law_198 : decode cL_law 198 = .ok (.aload_n 0, 1) := dk_42 (dk_at dksL_law_8 9 rfl rfl)
theorem dL_law_199 : decode cL_law 199 = .ok (.iload 4, 2) := dk_21 4 (dk_at dksL_law_8 10 rfl rfl)
theorem dL_law_201 : decode cL_law 201 = .ok (.invokestatic 44, 3) := dk_184 0 44 (dk_at dksL_law_8 12 rfl rfl)
theorem dL_law_204 : decode cL_law 204 = .ok (.istore 5, 2) := dk_54 5 (dk_at dksL_law_8 15 rfl rfl)
theorem dL_law_206 : decode cL_law 206 = .ok (.aload_n 0, 1) := dk_42 (dk_at dksL_law_8 17 rfl rfl)
theorem dL_law_207 : decode cL_law 207 = .ok (.iload 4, 2) := dk_21 4 (dk_at dksL_law_8 18 rfl rfl)
theorem dL_law_209 : decode cL_law 209 = .ok (.iconst 1, 1) := dk_4 (dk_at dksL_law_8 20 rfl rfl)
theorem dL_law_210 : decode cL_law 210 = .ok (.iadd, 1) := dk_96 (dk_at dksL_law_8 21 rfl rfl)
theorem dL_law_211 : decode cL_law 211 = .ok (.invokestatic 44, 3) := dk_184 0 44 (dk_at dksL_law_9 0 rfl rfl)
theorem dL_law_214 : decode cL_law 214 = .ok (.istore 6, 2) := dk_54 6 (dk_at dksL_law_9 3 rfl rfl)
theorem dL_law_216 : decode cL_law 216 = .ok (.aload_n 0, 1) := dk_42 (dk_at dksL_law_9 5 rfl rfl)
theorem dL_law_217 : decode cL_law 217 = .ok (.iload 4, 2) := dk_21 4 (dk_at dksL_law_9 6 rfl rfl)
theorem dL_law_219 : decode cL_law 219 = .ok (.iconst 2, 1) := dk_5 (dk_at dksL_law_9 8 rfl rfl)
theorem dL_law_220 : decode cL_law 220 = .ok (.iadd, 1) := dk_96 (dk_at dksL_law_9 9 rfl rfl)
theorem dL_law_221 : decode cL_law 221 = .ok (.invokestatic 44, 3) := dk_184 0 44 (dk_at dksL_law_9 10 rfl rfl)
theorem dL_law_224 : decode cL_law 224 = .ok (.istore 7, 2) := dk_54 7 (dk_at dksL_law_9 13 rfl rfl)
theorem dL_law_226 : decode cL_law 226 = .ok (.aload_n 1, 1) := dk_43 (dk_at dksL_law_9 15 rfl rfl)
theorem dL_law_227 : decode cL_law 227 = .ok (.iload 5, 2) := dk_21 5 (dk_at dksL_law_9 16 rfl rfl)
theorem dL_law_229 : decode cL_law 229 = .ok (.iload 6, 2) := dk_21 6 (dk_at dksL_law_9 18 rfl rfl)
theorem dL_law_231 : decode cL_law 231 = .ok (.invokevirtual 48, 3) := dk_182 0 48 (dk_at dksL_law_9 20 rfl rfl)
theorem dL_law_234 : decode cL_law 234 = .ok (.aload_n 3, 1) := dk_45 (dk_at dksL_law_9 23 rfl rfl)
theorem dL_law_235 : decode cL_law 235 = .ok (.iload 5, 2) := dk_21 5 (dk_at dksL_law_10 0 rfl rfl)
theorem dL_law_237 : decode cL_law 237 = .ok (.invokestatic 29, 3) := dk_184 0 29 (dk_at dksL_law_10 2 rfl rfl)
theorem dL_law_240 : decode cL_law 240 = .ok (.bipush 72, 2) := dk_16 72 (dk_at dksL_law_10 5 rfl rfl)
theorem dL_law_242 : decode cL_law 242 = .ok (.irem, 1) := dk_112 (dk_at dksL_law_10 7 rfl rfl)
theorem dL_law_243 : decode cL_law 243 = .ok (.iload 6, 2) := dk_21 6 (dk_at dksL_law_10 8 rfl rfl)
theorem dL_law_245 : decode cL_law 245 = .ok (.sipush 255, 3) := dk_17 0 255 (dk_at dksL_law_10 10 rfl rfl)
theorem dL_law_248 : decode cL_law 248 = .ok (.iand, 1) := dk_126 (dk_at dksL_law_10 13 rfl rfl)
theorem dL_law_249 : decode cL_law 249 = .ok (.iastore, 1) := dk_79 (dk_at dksL_law_10 14 rfl rfl)
theorem dL_law_250 : decode cL_law 250 = .ok (.aload_n 1, 1) := dk_43 (dk_at dksL_law_10 15 rfl rfl)
theorem dL_law_251 : decode cL_law 251 = .ok (.iload 7, 2) := dk_21 7 (dk_at dksL_law_10 16 rfl rfl)
theorem dL_law_253 : decode cL_law 253 = .ok (.invokevirtual 52, 3) := dk_182 0 52 (dk_at dksL_law_10 18 rfl rfl)
theorem dL_law_256 : decode cL_law 256 = .ok (.bipush 72, 2) := dk_16 72 (dk_at dksL_law_10 21 rfl rfl)
theorem dL_law_258 : decode cL_law 258 = .ok (.newarray .int, 2) := dk_188_10 (dk_at dksL_law_11 0 rfl rfl)
theorem dL_law_260 : decode cL_law 260 = .ok (.astore 8, 2) := dk_58 8 (dk_at dksL_law_11 2 rfl rfl)
theorem dL_law_262 : decode cL_law 262 = .ok (.iconst 0, 1) := dk_3 (dk_at dksL_law_11 4 rfl rfl)
theorem dL_law_263 : decode cL_law 263 = .ok (.istore 9, 2) := dk_54 9 (dk_at dksL_law_11 5 rfl rfl)
theorem dL_law_265 : decode cL_law 265 = .ok (.iload 9, 2) := dk_21 9 (dk_at dksL_law_11 7 rfl rfl)
theorem dL_law_267 : decode cL_law 267 = .ok (.bipush 72, 2) := dk_16 72 (dk_at dksL_law_11 9 rfl rfl)
theorem dL_law_269 : decode cL_law 269 = .ok (.if_icmp .ge 18, 3) := dk_162 0 18 (dk_at dksL_law_11 11 rfl rfl)
theorem dL_law_272 : decode cL_law 272 = .ok (.aload 8, 2) := dk_25 8 (dk_at dksL_law_11 14 rfl rfl)
theorem dL_law_274 : decode cL_law 274 = .ok (.iload 9, 2) := dk_21 9 (dk_at dksL_law_11 16 rfl rfl)
theorem dL_law_276 : decode cL_law 276 = .ok (.aload_n 3, 1) := dk_45 (dk_at dksL_law_11 18 rfl rfl)
theorem dL_law_277 : decode cL_law 277 = .ok (.iload 9, 2) := dk_21 9 (dk_at dksL_law_11 19 rfl rfl)
theorem dL_law_279 : decode cL_law 279 = .ok (.iaload, 1) := dk_46 (dk_at dksL_law_11 21 rfl rfl)
theorem dL_law_280 : decode cL_law 280 = .ok (.iastore, 1) := dk_79 (dk_at dksL_law_11 22 rfl rfl)
theorem dL_law_281 : decode cL_law 281 = .ok (.iinc 9 1, 3) := dk_132 9 1 (dk_at dksL_law_12 0 rfl rfl)
theorem dL_law_284 : decode cL_law 284 = .ok (.goto (-19), 3) := dk_167 255 237 (dk_at dksL_law_12 3 rfl rfl)
theorem dL_law_287 : decode cL_law 287 = .ok (.aload_n 1, 1) := dk_43 (dk_at dksL_law_12 6 rfl rfl)
theorem dL_law_288 : decode cL_law 288 = .ok (.aload_n 2, 1) := dk_44 (dk_at dksL_law_12 7 rfl rfl)
theorem dL_law_289 : decode cL_law 289 = .ok (.iload 7, 2) := dk_21 7 (dk_at dksL_law_12 8 rfl rfl)
theorem dL_law_291 : decode cL_law 291 = .ok (.iconst 3, 1) := dk_6 (dk_at dksL_law_12 10 rfl rfl)
theorem dL_law_292 : decode cL_law 292 = .ok (.iand, 1) := dk_126 (dk_at dksL_law_12 11 rfl rfl)
theorem dL_law_293 : decode cL_law 293 = .ok (.aaload, 1) := dk_50 (dk_at dksL_law_12 12 rfl rfl)
theorem dL_law_294 : decode cL_law 294 = .ok (.aload 8, 2) := dk_25 8 (dk_at dksL_law_12 13 rfl rfl)
theorem dL_law_296 : decode cL_law 296 = .ok (.iload 6, 2) := dk_21 6 (dk_at dksL_law_12 15 rfl rfl)
theorem dL_law_298 : decode cL_law 298 = .ok (.iload 5, 2) := dk_21 5 (dk_at dksL_law_12 17 rfl rfl)
theorem dL_law_300 : decode cL_law 300 = .ok (.invokestatic 55, 3) := dk_184 0 55 (dk_at dksL_law_12 19 rfl rfl)
theorem dL_law_303 : decode cL_law 303 = .ok (.ifCond .ne 5, 3) := dk_154 0 5 (dk_at dksL_law_13 0 rfl rfl)
theorem dL_law_306 : decode cL_law 306 = .ok (.iconst 0, 1) := dk_3 (dk_at dksL_law_13 3 rfl rfl)
theorem dL_law_307 : decode cL_law 307 = .ok (.ireturn, 1) := dk_172 (dk_at dksL_law_13 4 rfl rfl)
theorem dL_law_308 : decode cL_law 308 = .ok (.aload_n 0, 1) := dk_42 (dk_at dksL_law_13 5 rfl rfl)
theorem dL_law_309 : decode cL_law 309 = .ok (.iload 4, 2) := dk_21 4 (dk_at dksL_law_13 6 rfl rfl)
theorem dL_law_311 : decode cL_law 311 = .ok (.iconst 3, 1) := dk_6 (dk_at dksL_law_13 8 rfl rfl)
theorem dL_law_312 : decode cL_law 312 = .ok (.iadd, 1) := dk_96 (dk_at dksL_law_13 9 rfl rfl)
theorem dL_law_313 : decode cL_law 313 = .ok (.invokestatic 44, 3) := dk_184 0 44 (dk_at dksL_law_13 10 rfl rfl)
theorem dL_law_316 : decode cL_law 316 = .ok (.istore 9, 2) := dk_54 9 (dk_at dksL_law_13 13 rfl rfl)
theorem dL_law_318 : decode cL_law 318 = .ok (.aload_n 1, 1) := dk_43 (dk_at dksL_law_13 15 rfl rfl)
theorem dL_law_319 : decode cL_law 319 = .ok (.iload 9, 2) := dk_21 9 (dk_at dksL_law_13 16 rfl rfl)
theorem dL_law_321 : decode cL_law 321 = .ok (.aload_n 3, 1) := dk_45 (dk_at dksL_law_13 18 rfl rfl)
theorem dL_law_322 : decode cL_law 322 = .ok (.iload 9, 2) := dk_21 9 (dk_at dksL_law_13 19 rfl rfl)
theorem dL_law_324 : decode cL_law 324 = .ok (.invokestatic 29, 3) := dk_184 0 29 (dk_at dksL_law_13 21 rfl rfl)
theorem dL_law_327 : decode cL_law 327 = .ok (.bipush 72, 2) := dk_16 72 (dk_at dksL_law_14 0 rfl rfl)
theorem dL_law_329 : decode cL_law 329 = .ok (.irem, 1) := dk_112 (dk_at dksL_law_14 2 rfl rfl)
theorem dL_law_330 : decode cL_law 330 = .ok (.iaload, 1) := dk_46 (dk_at dksL_law_14 3 rfl rfl)
theorem dL_law_331 : decode cL_law 331 = .ok (.iconst (-1), 1) := dk_2 (dk_at dksL_law_14 4 rfl rfl)
theorem dL_law_332 : decode cL_law 332 = .ok (.ixor, 1) := dk_130 (dk_at dksL_law_14 5 rfl rfl)
theorem dL_law_333 : decode cL_law 333 = .ok (.invokevirtual 48, 3) := dk_182 0 48 (dk_at dksL_law_14 6 rfl rfl)
theorem dL_law_336 : decode cL_law 336 = .ok (.aload_n 3, 1) := dk_45 (dk_at dksL_law_14 9 rfl rfl)
theorem dL_law_337 : decode cL_law 337 = .ok (.iload 9, 2) := dk_21 9 (dk_at dksL_law_14 10 rfl rfl)
theorem dL_law_339 : decode cL_law 339 = .ok (.invokestatic 29, 3) := dk_184 0 29 (dk_at dksL_law_14 12 rfl rfl)
theorem dL_law_342 : decode cL_law 342 = .ok (.bipush 72, 2) := dk_16 72 (dk_at dksL_law_14 15 rfl rfl)
theorem dL_law_344 : decode cL_law 344 = .ok (.irem, 1) := dk_112 (dk_at dksL_law_14 17 rfl rfl)
theorem dL_law_345 : decode cL_law 345 = .ok (.aload_n 3, 1) := dk_45 (dk_at dksL_law_14 18 rfl rfl)
theorem dL_law_346 : decode cL_law 346 = .ok (.iload 9, 2) := dk_21 9 (dk_at dksL_law_14 19 rfl rfl)
theorem dL_law_348 : decode cL_law 348 = .ok (.invokestatic 29, 3) := dk_184 0 29 (dk_at dksL_law_14 21 rfl rfl)
theorem dL_law_351 : decode cL_law 351 = .ok (.bipush 72, 2) := dk_16 72 (dk_at dksL_law_15 0 rfl rfl)
theorem dL_law_353 : decode cL_law 353 = .ok (.irem, 1) := dk_112 (dk_at dksL_law_15 2 rfl rfl)
theorem dL_law_354 : decode cL_law 354 = .ok (.iaload, 1) := dk_46 (dk_at dksL_law_15 3 rfl rfl)
theorem dL_law_355 : decode cL_law 355 = .ok (.iconst (-1), 1) := dk_2 (dk_at dksL_law_15 4 rfl rfl)
theorem dL_law_356 : decode cL_law 356 = .ok (.ixor, 1) := dk_130 (dk_at dksL_law_15 5 rfl rfl)
theorem dL_law_357 : decode cL_law 357 = .ok (.sipush 255, 3) := dk_17 0 255 (dk_at dksL_law_15 6 rfl rfl)
theorem dL_law_360 : decode cL_law 360 = .ok (.iand, 1) := dk_126 (dk_at dksL_law_15 9 rfl rfl)
theorem dL_law_361 : decode cL_law 361 = .ok (.iastore, 1) := dk_79 (dk_at dksL_law_15 10 rfl rfl)
theorem dL_law_362 : decode cL_law 362 = .ok (.aload_n 1, 1) := dk_43 (dk_at dksL_law_15 11 rfl rfl)
theorem dL_law_363 : decode cL_law 363 = .ok (.aload_n 2, 1) := dk_44 (dk_at dksL_law_15 12 rfl rfl)
theorem dL_law_364 : decode cL_law 364 = .ok (.iload 7, 2) := dk_21 7 (dk_at dksL_law_15 13 rfl rfl)
theorem dL_law_366 : decode cL_law 366 = .ok (.iconst 3, 1) := dk_6 (dk_at dksL_law_15 15 rfl rfl)
theorem dL_law_367 : decode cL_law 367 = .ok (.iand, 1) := dk_126 (dk_at dksL_law_15 16 rfl rfl)
theorem dL_law_368 : decode cL_law 368 = .ok (.aaload, 1) := dk_50 (dk_at dksL_law_15 17 rfl rfl)
theorem dL_law_369 : decode cL_law 369 = .ok (.aload 8, 2) := dk_25 8 (dk_at dksL_law_15 18 rfl rfl)
theorem dL_law_371 : decode cL_law 371 = .ok (.iload 9, 2) := dk_21 9 (dk_at dksL_law_15 20 rfl rfl)
theorem dL_law_373 : decode cL_law 373 = .ok (.iload 7, 2) := dk_21 7 (dk_at dksL_law_15 22 rfl rfl)
theorem dL_law_375 : decode cL_law 375 = .ok (.invokestatic 55, 3) := dk_184 0 55 (dk_at dksL_law_16 0 rfl rfl)
theorem dL_law_378 : decode cL_law 378 = .ok (.ifCond .ne 5, 3) := dk_154 0 5 (dk_at dksL_law_16 3 rfl rfl)
theorem dL_law_381 : decode cL_law 381 = .ok (.iconst 0, 1) := dk_3 (dk_at dksL_law_16 6 rfl rfl)
theorem dL_law_382 : decode cL_law 382 = .ok (.ireturn, 1) := dk_172 (dk_at dksL_law_16 7 rfl rfl)
theorem dL_law_383 : decode cL_law 383 = .ok (.aload_n 0, 1) := dk_42 (dk_at dksL_law_16 8 rfl rfl)
theorem dL_law_384 : decode cL_law 384 = .ok (.iload 4, 2) := dk_21 4 (dk_at dksL_law_16 9 rfl rfl)
theorem dL_law_386 : decode cL_law 386 = .ok (.iconst 4, 1) := dk_7 (dk_at dksL_law_16 11 rfl rfl)
theorem dL_law_387 : decode cL_law 387 = .ok (.iadd, 1) := dk_96 (dk_at dksL_law_16 12 rfl rfl)
theorem dL_law_388 : decode cL_law 388 = .ok (.invokestatic 44, 3) := dk_184 0 44 (dk_at dksL_law_16 13 rfl rfl)
theorem dL_law_391 : decode cL_law 391 = .ok (.istore 10, 2) := dk_54 10 (dk_at dksL_law_16 16 rfl rfl)
theorem dL_law_393 : decode cL_law 393 = .ok (.aload_n 1, 1) := dk_43 (dk_at dksL_law_16 18 rfl rfl)
theorem dL_law_394 : decode cL_law 394 = .ok (.iload 10, 2) := dk_21 10 (dk_at dksL_law_16 19 rfl rfl)
theorem dL_law_396 : decode cL_law 396 = .ok (.invokevirtual 52, 3) := dk_182 0 52 (dk_at dksL_law_16 21 rfl rfl)
theorem dL_law_399 : decode cL_law 399 = .ok (.aload_n 1, 1) := dk_43 (dk_at dksL_law_17 0 rfl rfl)
theorem dL_law_400 : decode cL_law 400 = .ok (.aload_n 2, 1) := dk_44 (dk_at dksL_law_17 1 rfl rfl)
theorem dL_law_401 : decode cL_law 401 = .ok (.iload 10, 2) := dk_21 10 (dk_at dksL_law_17 2 rfl rfl)
theorem dL_law_403 : decode cL_law 403 = .ok (.iconst 3, 1) := dk_6 (dk_at dksL_law_17 4 rfl rfl)
theorem dL_law_404 : decode cL_law 404 = .ok (.iand, 1) := dk_126 (dk_at dksL_law_17 5 rfl rfl)
theorem dL_law_405 : decode cL_law 405 = .ok (.aaload, 1) := dk_50 (dk_at dksL_law_17 6 rfl rfl)
theorem dL_law_406 : decode cL_law 406 = .ok (.aload_n 3, 1) := dk_45 (dk_at dksL_law_17 7 rfl rfl)
theorem dL_law_407 : decode cL_law 407 = .ok (.aload_n 0, 1) := dk_42 (dk_at dksL_law_17 8 rfl rfl)
theorem dL_law_408 : decode cL_law 408 = .ok (.iload 4, 2) := dk_21 4 (dk_at dksL_law_17 9 rfl rfl)
theorem dL_law_410 : decode cL_law 410 = .ok (.iconst 5, 1) := dk_8 (dk_at dksL_law_17 11 rfl rfl)
theorem dL_law_411 : decode cL_law 411 = .ok (.iadd, 1) := dk_96 (dk_at dksL_law_17 12 rfl rfl)
theorem dL_law_412 : decode cL_law 412 = .ok (.invokestatic 44, 3) := dk_184 0 44 (dk_at dksL_law_17 13 rfl rfl)
theorem dL_law_415 : decode cL_law 415 = .ok (.iload 6, 2) := dk_21 6 (dk_at dksL_law_17 16 rfl rfl)
theorem dL_law_417 : decode cL_law 417 = .ok (.invokestatic 55, 3) := dk_184 0 55 (dk_at dksL_law_17 18 rfl rfl)
theorem dL_law_420 : decode cL_law 420 = .ok (.ifCond .ne 5, 3) := dk_154 0 5 (dk_at dksL_law_17 21 rfl rfl)
theorem dL_law_423 : decode cL_law 423 = .ok (.iconst 0, 1) := dk_3 (dk_at dksL_law_18 0 rfl rfl)
theorem dL_law_424 : decode cL_law 424 = .ok (.ireturn, 1) := dk_172 (dk_at dksL_law_18 1 rfl rfl)
theorem dL_law_425 : decode cL_law 425 = .ok (.iinc 4 6, 3) := dk_132 4 6 (dk_at dksL_law_18 2 rfl rfl)
theorem dL_law_428 : decode cL_law 428 = .ok (.goto (-239), 3) := dk_167 255 17 (dk_at dksL_law_18 5 rfl rfl)
theorem dL_law_431 : decode cL_law 431 = .ok (.iconst 1, 1) := dk_4 (dk_at dksL_law_18 8 rfl rfl)
theorem dL_law_432 : decode cL_law 432 = .ok (.ireturn, 1) := dk_172 (dk_at dksL_law_18 9 rfl rfl)
end
section
/-! zk_: one row a call, a return, a new array; the world's classes and array classes are fixed for the whole claim -/
set_option maxRecDepth 100000
abbrev zk_cl : List vw_C := [(RX1, TX1, 3), (RX2, TX2, 4), (RX3, TX3, 2), (RJ0, TJ0, 4)]
abbrev zk_ty (tB tC tI : ClassId) : List (ClassId × FieldType) := [(tB, .byte), (tC, .char), (tI, .int)]
/-- the statics and the interface's words that the methods read -/
def zk_St (A : Nat → Prop) (U : State) (H : Heap) : Prop := va_Z "java/lang/String" "COMPACT_STRINGS" "Z" (.int 1) A U H ∧ va_Zq "jdk/internal/util/Preconditions" "SIOOBE_FORMATTER" "Ljava/util/function/BiFunction;" A U H ∧ va_Fw "java/lang/String" ⟨"java/lang/CharSequence", "charAt", "(I)C"⟩ ⟨"java/lang/String", "charAt", "(I)C"⟩ U
theorem zk_St.moved {A : Nat → Prop} {u U : State} {H : Heap} (hvm : u.vm.Alike U.vm) (h : zk_St A u H) : zk_St A U H := ⟨va_Z.moved hvm h.1, va_Zq.moved hvm h.2.1, va_Fw.moved (by decide) hvm h.2.2⟩
theorem zk_St.pass {A A' : Nat → Prop} {s U : State} {H : Heap} {locs : List Loc} (h : zk_St A s s.heap) (hS : va_S A s.heap H locs) (hF : ∀ q, A' q → A q) (hU : U.heap = H) (hvm : s.vm.Alike U.vm) : zk_St A' U U.heap := by
  rw [hU]
  exact ⟨va_Z.moved hvm ((h.1.kept hS.2.1).narrow hF), va_Zq.moved hvm ((h.2.1.kept hS.2.1).narrow hF), va_Fw.moved (by decide) hvm h.2.2⟩
theorem zk_St.narrow {A A' : Nat → Prop} {s : State} {H : Heap} (h : zk_St A s H) (hF : ∀ q, A' q → A q) : zk_St A' s H := ⟨h.1.narrow hF, h.2.1.narrow hF, h.2.2⟩
/-- a contract's start: the world's cells, the statics -/
def zk_P (D : va_G) (tB tC tI : ClassId) (ws : va_W) (sz : Nat) : State → Prop := fun U => U.heap.size = sz ∧ va_P D zk_cl ws U.heap ∧ va_K D zk_cl (zk_ty tB tC tI) U ∧ va_D (fun _ => True) ws ∧ zk_St (va_A ws sz) U U.heap
/-- a contract's end -/
def zk_B (D : va_G) (tB tC tI : ClassId) (A : Nat → Prop) {S : Type} (w1 : S → va_W) : S → State → Prop := fun u t => va_P D zk_cl (w1 u) t.heap ∧ va_K D zk_cl (zk_ty tB tC tI) t ∧ va_D A (w1 u)
def zk_Br (D : va_G) (tB tC tI : ClassId) (A : Nat → Prop) {S : Type} (w1 : S → Nat → va_W) : S → Nat → State → Prop := fun u a t => va_P D zk_cl (w1 u a) t.heap ∧ va_K D zk_cl (zk_ty tB tC tI) t ∧ va_D A (w1 u a)
theorem zk_blind (D : va_G) (tB tC tI : ClassId) (av : List Value) (ws : va_W) (sz : Nat) : FrameBlind (va_Pc av (zk_P D tB tC tI ws sz)) := fun a U g mk q => ⟨q.1, q.2.1, q.2.2.1, va_K.moved (u := U) (U := U.calling g mk a) (Vm.Alike.refl U.vm) q.2.2.2.1, q.2.2.2.2.1, zk_St.moved (u := U) (U := U.calling g mk a) (Vm.Alike.refl U.vm) q.2.2.2.2.2⟩
abbrev zk_Mi (l : Launch) (y : MethodName) (cc : ByteArray) (nL : Nat) (ret : Option FieldType) (fr lo : Nat) (D : va_G) (tB tC tI : ClassId) (av : List Value) (wc : va_W) {S : Type} (post : Int32 → S → Prop) (w1 : S → va_W) (mc ms sz : Nat) : Prop := Met l y (ws_ y cc nL ret) ({ frames := fr, cells := mc, slots := ms, locals := lo } : Room) (va_Pc av (zk_P D tB tC tI wc sz)) (va_Qi post (zk_B D tB tC tI (va_A wc sz) w1) (va_A wc sz)) mc ms (va_A wc sz)
abbrev zk_Mv (l : Launch) (y : MethodName) (cc : ByteArray) (nL : Nat) (ret : Option FieldType) (fr lo : Nat) (D : va_G) (tB tC tI : ClassId) (av : List Value) (wc : va_W) {S : Type} (post : S → Prop) (w1 : S → va_W) (mc ms sz : Nat) : Prop := Met l y (ws_ y cc nL ret) ({ frames := fr, cells := mc, slots := ms, locals := lo } : Room) (va_Pc av (zk_P D tB tC tI wc sz)) (va_Qv post (zk_B D tB tC tI (va_A wc sz) w1) (va_A wc sz)) mc ms (va_A wc sz)
abbrev zk_Mr (l : Launch) (y : MethodName) (cc : ByteArray) (nL : Nat) (ret : Option FieldType) (fr lo : Nat) (D : va_G) (tB tC tI : ClassId) (av : List Value) (wc : va_W) {S : Type} (post : S → Prop) (w1 : S → Nat → va_W) (mc ms sz : Nat) : Prop := Met l y (ws_ y cc nL ret) ({ frames := fr, cells := mc, slots := ms, locals := lo } : Room) (va_Pc av (zk_P D tB tC tI wc sz)) (va_Qr post (zk_Br D tB tC tI (va_A wc sz) w1) (va_A wc sz)) mc ms (va_A wc sz)
/-- what holds all through a method's walk -/
def zk_C (p : Program) (s : State) (m : MethodId) (args : Array Value) (meth : Method) (c : Code) (cc : ByteArray) (nL : Nat) (own : String) (A : Nat → Prop) (D : va_G) (tB tC tI : ClassId) : Prop :=
  p.tables.exec = Jvm.exec ∧ c.code = cc ∧ c.maxLocals = nL ∧ s.vm.findClass own = some m.cls ∧ (∀ w ∈ lw_all, w.before args s = true) ∧ (∀ q, s.heap.size ≤ q → A q) ∧ va_K D zk_cl (zk_ty tB tC tI) s ∧ zk_St A s s.heap ∧ meth.locks = false
theorem zk_fm {α β : Type} {f : β → Option α} : ∀ {is : List β} {ws : List α}, is.map f = ws.map some → is.filterMap f = ws
  | [], [], _ => rfl
  | [], _ :: _, h => by simp at h
  | _ :: _, [], h => by simp at h
  | i :: is, w :: ws, h => by
    simp only [List.map_cons, List.cons.injEq] at h
    rw [List.filterMap_cons, h.1]
    exact congrArg (w :: ·) (zk_fm h.2)
theorem zk_RA {U : State} {a b : ClassId} {ty : FieldType} (h1 : va_RA U a ty) (h2 : va_RA U b ty) : a = b := by
  cases ty with
  | object C =>
    obtain ⟨_, _, _, _, _, e1⟩ := h1
    obtain ⟨_, _, _, _, _, e2⟩ := h2
    exact Option.some.inj (e1.symm.trans e2)
  | _ => exact Option.some.inj (Eq.trans (Eq.symm h1) h2)
section ZKO
variable {l : Launch} {y : MethodName} {cc : ByteArray} {nL : Nat} {ret : Option FieldType} {fr lo : Nat} {D : va_G} {tB tC tI : ClassId} {av : List Value} {wc : va_W} {S : Type} {mc ms sz : Nat}
theorem zk_opn {Qf : (Nat → Prop) → Array Value → State → Outcome → State → Prop} (hy : plainName y.cls = true) (hav : (lg_sl av).length ≤ nL)
    (body : ∀ (p : Program) (e : Env) (s : State) (m : MethodId) (args : Array Value) (below : List Frame) (meth : Method) (c : Code) (ls : Array Slot) (A : Nat → Prop) (Q : State → Prop), zk_C p s m args meth c cc nL y.cls A D tB tC tI → meth.sig.returnType = ret → meth.name = y.name → Q = MQ below (Qf A) args s mc ms A → s.heap.size = sz → va_P D zk_cl wc s.heap → va_D A wc → va_S A s.heap s.heap [] → lv_has ls nL (lv_args 0 av) → W p l e ({ frames := fr, cells := mc, slots := ms, locals := lo } : Room) s m args below meth c s.heap [] 0 0 Q (F0 m 0 ls [])) :
    Met l y (ws_ y cc nL ret) ({ frames := fr, cells := mc, slots := ms, locals := lo } : Room) (va_Pc av (zk_P D tB tC tI wc sz)) (Qf (va_A wc sz)) mc ms (va_A wc sz) := by
  refine Met.ofW (cc := cc) (maxL := nL) (ret := ret) hy rfl ?_
  intro p e s m args below meth c s₁ B hml hv
  obtain ⟨rfl, hsz, hP, hK, hD0, hZ⟩ := hv
  have hts := atoms_spec (ws := ws_ y cc nL ret) B.pre
  have hts : ∀ w ∈ lw_all, w.before av.toArray s = true := fun w h => hts w (List.mem_cons_of_mem _ h)
  have hown : s.vm.findClass y.cls = some m.cls := findClass_of_methodNamed B.named
  subst hsz
  have hD := hD0.self (sz := s.heap.size)
  have hl := lv_entry av (n := nL) hav
  rw [lg_entry_eq]
  exact body p e s m _ below meth c _ (va_A wc s.heap.size) _ ⟨B.exec, B.bytes, hml, hown, hts, fun q h => Or.inr h, hK, hZ, B.notSynchronized⟩ B.returns (name_of_methodNamed B.named B.method).1 rfl rfl hP hD va_S.rf hl
theorem zk_openI {post : Int32 → S → Prop} {w1 : S → va_W} (hy : plainName y.cls = true) (hav : (lg_sl av).length ≤ nL)
    (body : ∀ (p : Program) (e : Env) (s : State) (m : MethodId) (args : Array Value) (below : List Frame) (meth : Method) (c : Code) (ls : Array Slot) (A : Nat → Prop) (Q : State → Prop), zk_C p s m args meth c cc nL y.cls A D tB tC tI → meth.sig.returnType = ret → meth.name = y.name → Q = MQ below (va_Qi post (zk_B D tB tC tI A w1) A) args s mc ms A → s.heap.size = sz → va_P D zk_cl wc s.heap → va_D A wc → va_S A s.heap s.heap [] → lv_has ls nL (lv_args 0 av) → W p l e ({ frames := fr, cells := mc, slots := ms, locals := lo } : Room) s m args below meth c s.heap [] 0 0 Q (F0 m 0 ls [])) :
    zk_Mi l y cc nL ret fr lo D tB tC tI av wc post w1 mc ms sz := zk_opn (Qf := fun A => va_Qi post (zk_B D tB tC tI A w1) A) hy hav body
theorem zk_openV {post : S → Prop} {w1 : S → va_W} (hy : plainName y.cls = true) (hav : (lg_sl av).length ≤ nL)
    (body : ∀ (p : Program) (e : Env) (s : State) (m : MethodId) (args : Array Value) (below : List Frame) (meth : Method) (c : Code) (ls : Array Slot) (A : Nat → Prop) (Q : State → Prop), zk_C p s m args meth c cc nL y.cls A D tB tC tI → meth.sig.returnType = ret → meth.name = y.name → Q = MQ below (va_Qv post (zk_B D tB tC tI A w1) A) args s mc ms A → s.heap.size = sz → va_P D zk_cl wc s.heap → va_D A wc → va_S A s.heap s.heap [] → lv_has ls nL (lv_args 0 av) → W p l e ({ frames := fr, cells := mc, slots := ms, locals := lo } : Room) s m args below meth c s.heap [] 0 0 Q (F0 m 0 ls [])) :
    zk_Mv l y cc nL ret fr lo D tB tC tI av wc post w1 mc ms sz := zk_opn (Qf := fun A => va_Qv post (zk_B D tB tC tI A w1) A) hy hav body
theorem zk_openR {post : S → Prop} {w1 : S → Nat → va_W} (hy : plainName y.cls = true) (hav : (lg_sl av).length ≤ nL)
    (body : ∀ (p : Program) (e : Env) (s : State) (m : MethodId) (args : Array Value) (below : List Frame) (meth : Method) (c : Code) (ls : Array Slot) (A : Nat → Prop) (Q : State → Prop), zk_C p s m args meth c cc nL y.cls A D tB tC tI → meth.sig.returnType = ret → meth.name = y.name → Q = MQ below (va_Qr post (zk_Br D tB tC tI A w1) A) args s mc ms A → s.heap.size = sz → va_P D zk_cl wc s.heap → va_D A wc → va_S A s.heap s.heap [] → lv_has ls nL (lv_args 0 av) → W p l e ({ frames := fr, cells := mc, slots := ms, locals := lo } : Room) s m args below meth c s.heap [] 0 0 Q (F0 m 0 ls [])) :
    zk_Mr l y cc nL ret fr lo D tB tC tI av wc post w1 mc ms sz := zk_opn (Qf := fun A => va_Qr post (zk_Br D tB tC tI A w1) A) hy hav body
end ZKO
section ZKR
variable {p : Program} {l : Launch} {e : Env} {R : Room} {s : State} {m : MethodId} {args : Array Value} {below : List Frame} {meth : Method} {c : Code} {H : Heap} {locs : List Loc} {cells slots : Nat} {Q : State → Prop}
variable {cc : ByteArray} {nL : Nat} {own : String} {A : Nat → Prop} {D : va_G} {tB tC tI : ClassId} {pc : Nat} {ls : Array Slot} {S : Type} {ws : va_W} {mc ms : Nat}
theorem zk_iret {r : Int32} {post : Int32 → S → Prop} {w1 : S → va_W} (CX : zk_C p s m args meth c cc nL own A D tB tC tI) (hQ : Q = MQ below (va_Qi post (zk_B D tB tC tI A w1) A) args s mc ms A) {ty : FieldType} (hr : meth.sig.returnType = some ty) (hnr : narrow ty (.int r) = .int r) (hP : va_P D zk_cl ws H) (hD : va_D A ws) (hS : va_S A s.heap H locs) (u : S) (hpost : post r u) (is : List Nat) (hn : va_nd is = true) (hs : is.map (fun i => ws[i]?) = (w1 u).map some) (hc : cells ≤ mc) (hsl : slots ≤ ms) (hdg : decode cc pc = .ok (.ireturn, 1)) : W p l e R s m args below meth c H locs cells slots Q (F0 m pc ls [.int r]) := by
  subst hQ
  obtain ⟨hx, hb, hml, hown, hts, hA, hK, hZ, hlocks⟩ := CX
  refine W.widen hc hsl ?_
  exact W.zret (v := r) hx hb hr hnr (fun t ht hW => ⟨⟨r, u, rfl, hpost, by rw [ht]; exact hP.sub is (zk_fm hs), va_K.moved hW.alike hK, hD.sub is hn hs⟩, hS.F ht⟩) hS.2.2 hdg hlocks
theorem zk_vret {post : S → Prop} {w1 : S → va_W} (CX : zk_C p s m args meth c cc nL own A D tB tC tI) (hQ : Q = MQ below (va_Qv post (zk_B D tB tC tI A w1) A) args s mc ms A) (hr : meth.sig.returnType = none) (hP : va_P D zk_cl ws H) (hD : va_D A ws) (hS : va_S A s.heap H locs) (u : S) (hpost : post u) (is : List Nat) (hn : va_nd is = true) (hs : is.map (fun i => ws[i]?) = (w1 u).map some) (hc : cells ≤ mc) (hsl : slots ≤ ms) (hdg : decode cc pc = .ok (.return_, 1)) : W p l e R s m args below meth c H locs cells slots Q (F0 m pc ls []) := by
  subst hQ
  obtain ⟨hx, hb, hml, hown, hts, hA, hK, hZ, hlocks⟩ := CX
  refine W.widen hc hsl ?_
  exact W.vret hx hb hr (fun t ht hW => ⟨⟨u, rfl, hpost, by rw [ht]; exact hP.sub is (zk_fm hs), va_K.moved hW.alike hK, hD.sub is hn hs⟩, hS.F ht⟩) hS.2.2 hdg hlocks
theorem zk_aret {a : Nat} {rt : FieldType} {post : S → Prop} {w1 : S → Nat → va_W} (CX : zk_C p s m args meth c cc nL own A D tB tC tI) (hQ : Q = MQ below (va_Qr post (zk_Br D tB tC tI A w1) A) args s mc ms A) (hr : meth.sig.returnType = some rt) (hrt : (∃ n, rt = .object n) ∨ ∃ t, rt = .array t) (hP : va_P D zk_cl ws H) (hD : va_D A ws) (hS : va_S A s.heap H locs) (u : S) (hpost : post u) (is : List Nat) (hn : va_nd is = true) (hs : is.map (fun i => ws[i]?) = (w1 u a).map some) (hc : cells ≤ mc) (hsl : slots ≤ ms) (hdg : decode cc pc = .ok (.areturn, 1)) : W p l e R s m args below meth c H locs cells slots Q (F0 m pc ls [.ref a]) := by
  subst hQ
  obtain ⟨hx, hb, hml, hown, hts, hA, hK, hZ, hlocks⟩ := CX
  refine W.widen hc hsl ?_
  exact W.aret (v := .ref a) hx hb hr hrt (Or.inr ⟨a, rfl⟩) (fun t ht hW => ⟨⟨u, a, rfl, hpost, by rw [ht]; exact hP.sub is (zk_fm hs), va_K.moved hW.alike hK, hD.sub is hn hs⟩, hS.F ht⟩) hS.2.2 hdg hlocks
/-- contents that differ beyond the array's end alone are the same -/
theorem zk_arr {k a n : Nat} {cA : ClassId} {f f' : Nat → Int32} (hP : va_P D zk_cl ws H) (hD : va_D A ws) (hk : ws[k]? = some (a, .inl (cA, n, .inl f))) (he : ∀ j, j < n → f j = f' j) : va_P D zk_cl (ws.set k (a, .inl (cA, n, .inl f'))) H ∧ va_D A (ws.set k (a, .inl (cA, n, .inl f'))) := by
  refine ⟨hP.set hD hk ?_ (fun _ _ => rfl), hD.set hk⟩
  have h := hP k _ hk
  show H[a]? = some (vp_cell cA (n, .inl f'))
  have e : vp_cell cA (n, .inl f') = vp_cell cA (n, .inl f) := by
    have hz : (fun j : Fin n => Value.int (f' j.val)) = fun j : Fin n => Value.int (f j.val) := funext fun j => by rw [he j.val j.isLt]
    show arrV cA n (fun j => .int (f' j)) = arrV cA n (fun j => .int (f j))
    unfold arrV
    rw [hz]
  rw [e]
  exact h
theorem zk_newX {atype : ArrayType} {ty : FieldType} {cA0 : ClassId} (t0 : Nat) (harr : (Cond.arrayClass (newarray.typeOf atype)).before args s = true) (hty : newarray.typeOf atype = ty) (hT : (zk_ty tB tC tI)[t0]? = some (cA0, ty)) {n : Int32} {N' : Nat} {a0 : vp_A} (ha : ∀ cA : ClassId, vp_cell cA a0 = arrV cA N' (fun _ => defaultValue ty)) (CX : zk_C p s m args meth c cc nL own A D tB tC tI) (hP : va_P D zk_cl ws H) (hD : va_D A ws) (hS : va_S A s.heap H locs) {rest : List Value}
    (hn : ¬ n < 0) (hN : n.toNatClampNeg = N') (hbytes : N' * componentBytes ty ≤ 536870912) (hcells : cells + 1 ≤ R.cells) (hslots : slots + N' ≤ R.slots) (hdg : decode cc pc = .ok (.newarray atype, 2))
    (kk : ∀ (q : Nat) (H1 : Heap), va_P D zk_cl (ws ++ [(q, .inl (cA0, a0))]) H1 → va_D A (ws ++ [(q, .inl (cA0, a0))]) → va_S A s.heap H1 locs → W p l e R s m args below meth c H1 locs (cells + 1) (slots + N') Q (F0 m (pc + 2) ls (.ref q :: rest))) : W p l e R s m args below meth c H locs cells slots Q (F0 m pc ls (.int n :: rest)) := by
  obtain ⟨hx, hb, hml, hown, hts, hA, hK, hZ, hlocks⟩ := CX
  refine va_newa hx hb harr hty hK hP hD hS hA ha hn hN hbytes hcells hslots hdg (fun q cA H1 hK' hP' hD' hS' => ?_)
  have e1 : va_RA s cA ty := (hK'.2 3 (cA, ty) rfl).2
  have e2 : va_RA s cA0 ty := (hK.2 t0 (cA0, ty) hT).2
  have e : cA = cA0 := zk_RA e1 e2
  subst e
  exact kk q H1 hP' hD' hS'
theorem zk_newI {n : Int32} {N' : Nat} (CX : zk_C p s m args meth c cc nL own A D tB tC tI) (hP : va_P D zk_cl ws H) (hD : va_D A ws) (hS : va_S A s.heap H locs) {rest : List Value} (hn : ¬ n < 0) (hN : n.toNatClampNeg = N') (hbytes : N' * componentBytes .int ≤ 536870912) (hcells : cells + 1 ≤ R.cells) (hslots : slots + N' ≤ R.slots) (hdg : decode cc pc = .ok (.newarray .int, 2))
    (kk : ∀ (q : Nat) (H1 : Heap), va_P D zk_cl (ws ++ [(q, .inl (tI, N', .inl (fun _ => 0)))]) H1 → va_D A (ws ++ [(q, .inl (tI, N', .inl (fun _ => 0)))]) → va_S A s.heap H1 locs → W p l e R s m args below meth c H1 locs (cells + 1) (slots + N') Q (F0 m (pc + 2) ls (.ref q :: rest))) : W p l e R s m args below meth c H locs cells slots Q (F0 m pc ls (.int n :: rest)) :=
  zk_newX (atype := .int) (ty := .int) (cA0 := tI) (a0 := (N', .inl (fun _ => 0))) 2 (CX.2.2.2.2.1 _ q232) rfl rfl (fun _ => rfl) CX hP hD hS hn hN hbytes hcells hslots hdg kk
theorem zk_newB {n : Int32} {N' : Nat} (CX : zk_C p s m args meth c cc nL own A D tB tC tI) (hP : va_P D zk_cl ws H) (hD : va_D A ws) (hS : va_S A s.heap H locs) {rest : List Value} (hn : ¬ n < 0) (hN : n.toNatClampNeg = N') (hbytes : N' * componentBytes .byte ≤ 536870912) (hcells : cells + 1 ≤ R.cells) (hslots : slots + N' ≤ R.slots) (hdg : decode cc pc = .ok (.newarray .byte, 2))
    (kk : ∀ (q : Nat) (H1 : Heap), va_P D zk_cl (ws ++ [(q, .inl (tB, N', .inl (fun _ => 0)))]) H1 → va_D A (ws ++ [(q, .inl (tB, N', .inl (fun _ => 0)))]) → va_S A s.heap H1 locs → W p l e R s m args below meth c H1 locs (cells + 1) (slots + N') Q (F0 m (pc + 2) ls (.ref q :: rest))) : W p l e R s m args below meth c H locs cells slots Q (F0 m pc ls (.int n :: rest)) :=
  zk_newX (atype := .byte) (ty := .byte) (cA0 := tB) (a0 := (N', .inl (fun _ => 0))) 0 (CX.2.2.2.2.1 _ q100) rfl rfl (fun _ => rfl) CX hP hD hS hn hN hbytes hcells hslots hdg kk
theorem zk_newC {n : Int32} {N' : Nat} (CX : zk_C p s m args meth c cc nL own A D tB tC tI) (hP : va_P D zk_cl ws H) (hD : va_D A ws) (hS : va_S A s.heap H locs) {rest : List Value} (hn : ¬ n < 0) (hN : n.toNatClampNeg = N') (hbytes : N' * componentBytes .char ≤ 536870912) (hcells : cells + 1 ≤ R.cells) (hslots : slots + N' ≤ R.slots) (hdg : decode cc pc = .ok (.newarray .char, 2))
    (kk : ∀ (q : Nat) (H1 : Heap), va_P D zk_cl (ws ++ [(q, .inl (tC, N', .inl (fun _ => 0)))]) H1 → va_D A (ws ++ [(q, .inl (tC, N', .inl (fun _ => 0)))]) → va_S A s.heap H1 locs → W p l e R s m args below meth c H1 locs (cells + 1) (slots + N') Q (F0 m (pc + 2) ls (.ref q :: rest))) : W p l e R s m args below meth c H locs cells slots Q (F0 m pc ls (.int n :: rest)) :=
  zk_newX (atype := .char) (ty := .char) (cA0 := tC) (a0 := (N', .inl (fun _ => 0))) 1 (CX.2.2.2.2.1 _ q99) rfl rfl (fun _ => rfl) CX hP hD hS hn hN hbytes hcells hslots hdg kk
end ZKR
section ZKC
variable {p : Program} {l : Launch} {e : Env} {R : Room} {s : State} {m : MethodId} {args : Array Value} {below : List Frame} {meth : Method} {c : Code} {H : Heap} {locs : List Loc} {cells slots : Nat} {Q : State → Prop}
variable {cc : ByteArray} {nL : Nat} {own : String} {A : Nat → Prop} {D : va_G} {tB tC tI : ClassId} {pc : Nat} {ls : Array Slot} {st rest : List Value} {S : Type} {ws wc : va_W} {mc ms : Nat}
variable {y : MethodName} {bytes : ByteArray} {maxL index fr lo b : Nat} {ret : Option FieldType} {As : List Value} {C : String}
/-- a callee's start out of the caller's world -/
theorem zk_pre1 (CX : zk_C p s m args meth c cc nL own A D tB tC tI) (hP : va_P D zk_cl ws H) (hD : va_D A ws) (hS : va_S A s.heap H locs) (isC : List Nat) (hC : isC.map (fun i => ws[i]?) = wc.map some) (hnC : va_nd isC = true) (av : List Value) : ∀ U : State, U.heap = H → s.WarmedH U.vm → va_Pc av (zk_P D tB tC tI wc H.size) av.toArray U := by
  obtain ⟨hx, hb, hml, hown, hts, hA, hK, hZ, hlocks⟩ := CX
  intro U hU hW
  have hDc := hD.sub isC hnC hC
  exact ⟨rfl, by rw [hU], by rw [hU]; exact hP.sub isC (zk_fm hC), va_K.moved hW.alike hK, hDc.weaken (fun _ _ _ _ => trivial), hZ.pass hS (va_free hD hS hA isC hC) hU hW.alike⟩
theorem zk_aftI {post : Int32 → S → Prop} {w1 : S → va_W} {a : Array Value} (CX : zk_C p s m args meth c cc nL own A D tB tC tI) (hP : va_P D zk_cl ws H) (hD : va_D A ws) (hS : va_S A s.heap H locs) (wr : va_W) (isC isR : List Nat) (hC : isC.map (fun i => ws[i]?) = wc.map some) (hRr : isR.map (fun i => ws[i]?) = wr.map some) (hnR : va_nd isR = true) (hdis : ∀ i ∈ isR, i ∉ isC)
    (hrun : va_Run p l e R s m args below meth c H locs cells slots mc ms (F0 m pc ls st) rest (va_Qi post (zk_B D tB tC tI (va_A wc H.size) w1) (va_A wc H.size) a) (va_A wc H.size))
    (kk : ∀ (r : Int32) (u : S) (H1 : Heap) (locs1 : List Loc), post r u → va_P D zk_cl (wr ++ w1 u) H1 → va_D A (wr ++ w1 u) → va_S A s.heap H1 locs1 → W p l e R s m args below meth c H1 locs1 (cells + mc) (slots + ms) Q (F0 m (pc + 3) ls (.int r :: rest))) : W p l e R s m args below meth c H locs cells slots Q (F0 m pc ls st) := by
  obtain ⟨hx, hb, hml, hown, hts, hA, hK, hZ, hlocks⟩ := CX
  have hFc := va_free hD hS hA isC hC
  refine va_calli hrun hS (fun q _ h => hFc q h) hFc (fun r u t H1 locs1 ht hvm hw hB hz1 hk1 hS1 => ?_)
  obtain ⟨hP1, hK1, hD1⟩ := hB
  rw [ht] at hP1
  obtain ⟨hP2, hD2⟩ := va_join hP hD isC isR hC hRr hnR hdis hk1 hFc hP1 hD1
  exact kk r u H1 locs1 hw hP2 hD2 hS1
theorem zk_aftV {post : S → Prop} {w1 : S → va_W} {a : Array Value} (CX : zk_C p s m args meth c cc nL own A D tB tC tI) (hP : va_P D zk_cl ws H) (hD : va_D A ws) (hS : va_S A s.heap H locs) (wr : va_W) (isC isR : List Nat) (hC : isC.map (fun i => ws[i]?) = wc.map some) (hRr : isR.map (fun i => ws[i]?) = wr.map some) (hnR : va_nd isR = true) (hdis : ∀ i ∈ isR, i ∉ isC)
    (hrun : va_Run p l e R s m args below meth c H locs cells slots mc ms (F0 m pc ls st) rest (va_Qv post (zk_B D tB tC tI (va_A wc H.size) w1) (va_A wc H.size) a) (va_A wc H.size))
    (kk : ∀ (u : S) (H1 : Heap) (locs1 : List Loc), post u → va_P D zk_cl (wr ++ w1 u) H1 → va_D A (wr ++ w1 u) → va_S A s.heap H1 locs1 → W p l e R s m args below meth c H1 locs1 (cells + mc) (slots + ms) Q (F0 m (pc + 3) ls rest)) : W p l e R s m args below meth c H locs cells slots Q (F0 m pc ls st) := by
  obtain ⟨hx, hb, hml, hown, hts, hA, hK, hZ, hlocks⟩ := CX
  have hFc := va_free hD hS hA isC hC
  refine va_callv hrun hS (fun q _ h => hFc q h) hFc (fun u t H1 locs1 ht hvm hw hB hz1 hk1 hS1 => ?_)
  obtain ⟨hP1, hK1, hD1⟩ := hB
  rw [ht] at hP1
  obtain ⟨hP2, hD2⟩ := va_join hP hD isC isR hC hRr hnR hdis hk1 hFc hP1 hD1
  exact kk u H1 locs1 hw hP2 hD2 hS1
theorem zk_aftR {post : S → Prop} {w1 : S → Nat → va_W} {a : Array Value} (CX : zk_C p s m args meth c cc nL own A D tB tC tI) (hP : va_P D zk_cl ws H) (hD : va_D A ws) (hS : va_S A s.heap H locs) (wr : va_W) (isC isR : List Nat) (hC : isC.map (fun i => ws[i]?) = wc.map some) (hRr : isR.map (fun i => ws[i]?) = wr.map some) (hnR : va_nd isR = true) (hdis : ∀ i ∈ isR, i ∉ isC)
    (hrun : va_Run p l e R s m args below meth c H locs cells slots mc ms (F0 m pc ls st) rest (va_Qr post (zk_Br D tB tC tI (va_A wc H.size) w1) (va_A wc H.size) a) (va_A wc H.size))
    (kk : ∀ (u : S) (ra : Nat) (H1 : Heap) (locs1 : List Loc), post u → va_P D zk_cl (wr ++ w1 u ra) H1 → va_D A (wr ++ w1 u ra) → va_S A s.heap H1 locs1 → W p l e R s m args below meth c H1 locs1 (cells + mc) (slots + ms) Q (F0 m (pc + 3) ls (.ref ra :: rest))) : W p l e R s m args below meth c H locs cells slots Q (F0 m pc ls st) := by
  obtain ⟨hx, hb, hml, hown, hts, hA, hK, hZ, hlocks⟩ := CX
  have hFc := va_free hD hS hA isC hC
  refine va_callr hrun hS (fun q _ h => hFc q h) hFc (fun u ra t H1 locs1 ht hvm hw hB hz1 hk1 hS1 => ?_)
  obtain ⟨hP1, hK1, hD1⟩ := hB
  rw [ht] at hP1
  obtain ⟨hP2, hD2⟩ := va_join hP hD isC isR hC hRr hnR hdis hk1 hFc hP1 hD1
  exact kk u ra H1 locs1 hw hP2 hD2 hS1
theorem zk_Vi {post : Int32 → S → Prop} {w1 : S → va_W} (CX : zk_C p s m args meth c cc nL own A D tB tC tI) (hP : va_P D zk_cl ws H) (hD : va_D A ws) (hS : va_S A s.heap H locs) (wr : va_W) (isC isR : List Nat)
    (hM : zk_Mi l y bytes maxL ret fr lo D tB tC tI (.ref b :: As) wc post w1 mc ms H.size) (hg : GoodIn lw_all (wsV own index C y (ws_ y bytes maxL ret))) (n ci q0 : Nat) {qc : vw_C} {fs : List Value} (hq0 : wc[q0]? = some (b, .inr (ci, fs))) (hci : zk_cl[ci]? = some qc) (hqC : qc.1 = C)
    (hd : y.cls = C ∧ y.cls ≠ "java/lang/invoke/MethodHandle" ∧ y.cls ≠ "java/lang/invoke/VarHandle" ∧ (parseMethodDescriptor y.desc).map (fun d => d.parameters.length) = some n) (hn : As.length = n) (hsz : ls.size = nL) (hst : st = As.reverse ++ .ref b :: rest) (hW : (rest.map fun v => v.category).sum ≤ 8) (hdg : decode cc pc = .ok (.invokevirtual index, 3)) (hR : fr + 1 ≤ R.frames ∧ 8 + (maxL + 11) + lo ≤ R.locals) (hf : cells + mc ≤ R.cells ∧ slots + ms ≤ R.slots)
    (hC : isC.map (fun i => ws[i]?) = wc.map some) (hRr : isR.map (fun i => ws[i]?) = wr.map some) (hnC : va_nd isC = true) (hnR : va_nd isR = true) (hdis : ∀ i ∈ isR, i ∉ isC)
    (kk : ∀ (r : Int32) (u : S) (H1 : Heap) (locs1 : List Loc), post r u → va_P D zk_cl (wr ++ w1 u) H1 → va_D A (wr ++ w1 u) → va_S A s.heap H1 locs1 → W p l e R s m args below meth c H1 locs1 (cells + mc) (slots + ms) Q (F0 m (pc + 3) ls (.int r :: rest))) : W p l e R s m args below meth c H locs cells slots Q (F0 m pc ls st) := by
  refine zk_aftI CX hP hD hS wr isC isR hC hRr hnR hdis (va_runV (As := As) (rest := rest) ⟨CX.1, CX.2.1, CX.2.2.1, CX.2.2.2.1, CX.2.2.2.2.1⟩ hM (cwV n CX.2.2.2.2.1 hg rfl rfl rfl hd hR) ⟨zk_blind _ _ _ _ _ _ _, ?_, zk_pre1 CX hP hD hS isC hC hnC _⟩ rfl hn hsz hst (lv_room hW) hdg hf) kk
  rw [← hqC]
  exact va_recv CX.2.2.2.2.2.2.1 (hP.sub isC (zk_fm hC)) (ci := ci) (q0 := q0) hci hq0
theorem zk_Vv {post : S → Prop} {w1 : S → va_W} (CX : zk_C p s m args meth c cc nL own A D tB tC tI) (hP : va_P D zk_cl ws H) (hD : va_D A ws) (hS : va_S A s.heap H locs) (wr : va_W) (isC isR : List Nat)
    (hM : zk_Mv l y bytes maxL ret fr lo D tB tC tI (.ref b :: As) wc post w1 mc ms H.size) (hg : GoodIn lw_all (wsV own index C y (ws_ y bytes maxL ret))) (n ci q0 : Nat) {qc : vw_C} {fs : List Value} (hq0 : wc[q0]? = some (b, .inr (ci, fs))) (hci : zk_cl[ci]? = some qc) (hqC : qc.1 = C)
    (hd : y.cls = C ∧ y.cls ≠ "java/lang/invoke/MethodHandle" ∧ y.cls ≠ "java/lang/invoke/VarHandle" ∧ (parseMethodDescriptor y.desc).map (fun d => d.parameters.length) = some n) (hn : As.length = n) (hsz : ls.size = nL) (hst : st = As.reverse ++ .ref b :: rest) (hW : (rest.map fun v => v.category).sum ≤ 8) (hdg : decode cc pc = .ok (.invokevirtual index, 3)) (hR : fr + 1 ≤ R.frames ∧ 8 + (maxL + 11) + lo ≤ R.locals) (hf : cells + mc ≤ R.cells ∧ slots + ms ≤ R.slots)
    (hC : isC.map (fun i => ws[i]?) = wc.map some) (hRr : isR.map (fun i => ws[i]?) = wr.map some) (hnC : va_nd isC = true) (hnR : va_nd isR = true) (hdis : ∀ i ∈ isR, i ∉ isC)
    (kk : ∀ (u : S) (H1 : Heap) (locs1 : List Loc), post u → va_P D zk_cl (wr ++ w1 u) H1 → va_D A (wr ++ w1 u) → va_S A s.heap H1 locs1 → W p l e R s m args below meth c H1 locs1 (cells + mc) (slots + ms) Q (F0 m (pc + 3) ls rest)) : W p l e R s m args below meth c H locs cells slots Q (F0 m pc ls st) := by
  refine zk_aftV CX hP hD hS wr isC isR hC hRr hnR hdis (va_runV (As := As) (rest := rest) ⟨CX.1, CX.2.1, CX.2.2.1, CX.2.2.2.1, CX.2.2.2.2.1⟩ hM (cwV n CX.2.2.2.2.1 hg rfl rfl rfl hd hR) ⟨zk_blind _ _ _ _ _ _ _, ?_, zk_pre1 CX hP hD hS isC hC hnC _⟩ rfl hn hsz hst (lv_room hW) hdg hf) kk
  rw [← hqC]
  exact va_recv CX.2.2.2.2.2.2.1 (hP.sub isC (zk_fm hC)) (ci := ci) (q0 := q0) hci hq0
theorem zk_Si {post : Int32 → S → Prop} {w1 : S → va_W} (CX : zk_C p s m args meth c cc nL own A D tB tC tI) (hP : va_P D zk_cl ws H) (hD : va_D A ws) (hS : va_S A s.heap H locs) (wr : va_W) (isC isR : List Nat)
    (hM : zk_Mi l y bytes maxL ret fr lo D tB tC tI As wc post w1 mc ms H.size) (hg : GoodIn lw_all (va_wsS own index y (ws_ y bytes maxL ret))) (n : Nat)
    (hd : y.cls ≠ "java/lang/invoke/MethodHandle" ∧ y.cls ≠ "java/lang/invoke/VarHandle" ∧ (parseMethodDescriptor y.desc).map (fun d => d.parameters.length) = some n) (hn : As.length = n) (hsz : ls.size = nL) (hst : st = As.reverse ++ rest) (hW : (rest.map fun v => v.category).sum ≤ 8) (hdg : decode cc pc = .ok (.invokestatic index, 3)) (hR : fr + 1 ≤ R.frames ∧ 8 + (maxL + 11) + lo ≤ R.locals) (hf : cells + mc ≤ R.cells ∧ slots + ms ≤ R.slots)
    (hC : isC.map (fun i => ws[i]?) = wc.map some) (hRr : isR.map (fun i => ws[i]?) = wr.map some) (hnC : va_nd isC = true) (hnR : va_nd isR = true) (hdis : ∀ i ∈ isR, i ∉ isC)
    (kk : ∀ (r : Int32) (u : S) (H1 : Heap) (locs1 : List Loc), post r u → va_P D zk_cl (wr ++ w1 u) H1 → va_D A (wr ++ w1 u) → va_S A s.heap H1 locs1 → W p l e R s m args below meth c H1 locs1 (cells + mc) (slots + ms) Q (F0 m (pc + 3) ls (.int r :: rest))) : W p l e R s m args below meth c H locs cells slots Q (F0 m pc ls st) :=
  zk_aftI CX hP hD hS wr isC isR hC hRr hnR hdis (va_runS (As := As) (rest := rest) ⟨CX.1, CX.2.1, CX.2.2.1, CX.2.2.2.1, CX.2.2.2.2.1⟩ hM (va_cwS n CX.2.2.2.2.1 hg rfl rfl rfl hd hR) ⟨zk_blind _ _ _ _ _ _ _, zk_pre1 CX hP hD hS isC hC hnC _⟩ rfl hn hsz hst (lv_room hW) hdg hf) kk
theorem zk_Sv {post : S → Prop} {w1 : S → va_W} (CX : zk_C p s m args meth c cc nL own A D tB tC tI) (hP : va_P D zk_cl ws H) (hD : va_D A ws) (hS : va_S A s.heap H locs) (wr : va_W) (isC isR : List Nat)
    (hM : zk_Mv l y bytes maxL ret fr lo D tB tC tI As wc post w1 mc ms H.size) (hg : GoodIn lw_all (va_wsS own index y (ws_ y bytes maxL ret))) (n : Nat)
    (hd : y.cls ≠ "java/lang/invoke/MethodHandle" ∧ y.cls ≠ "java/lang/invoke/VarHandle" ∧ (parseMethodDescriptor y.desc).map (fun d => d.parameters.length) = some n) (hn : As.length = n) (hsz : ls.size = nL) (hst : st = As.reverse ++ rest) (hW : (rest.map fun v => v.category).sum ≤ 8) (hdg : decode cc pc = .ok (.invokestatic index, 3)) (hR : fr + 1 ≤ R.frames ∧ 8 + (maxL + 11) + lo ≤ R.locals) (hf : cells + mc ≤ R.cells ∧ slots + ms ≤ R.slots)
    (hC : isC.map (fun i => ws[i]?) = wc.map some) (hRr : isR.map (fun i => ws[i]?) = wr.map some) (hnC : va_nd isC = true) (hnR : va_nd isR = true) (hdis : ∀ i ∈ isR, i ∉ isC)
    (kk : ∀ (u : S) (H1 : Heap) (locs1 : List Loc), post u → va_P D zk_cl (wr ++ w1 u) H1 → va_D A (wr ++ w1 u) → va_S A s.heap H1 locs1 → W p l e R s m args below meth c H1 locs1 (cells + mc) (slots + ms) Q (F0 m (pc + 3) ls rest)) : W p l e R s m args below meth c H locs cells slots Q (F0 m pc ls st) :=
  zk_aftV CX hP hD hS wr isC isR hC hRr hnR hdis (va_runS (As := As) (rest := rest) ⟨CX.1, CX.2.1, CX.2.2.1, CX.2.2.2.1, CX.2.2.2.2.1⟩ hM (va_cwS n CX.2.2.2.2.1 hg rfl rfl rfl hd hR) ⟨zk_blind _ _ _ _ _ _ _, zk_pre1 CX hP hD hS isC hC hnC _⟩ rfl hn hsz hst (lv_room hW) hdg hf) kk
theorem zk_Sr {post : S → Prop} {w1 : S → Nat → va_W} (CX : zk_C p s m args meth c cc nL own A D tB tC tI) (hP : va_P D zk_cl ws H) (hD : va_D A ws) (hS : va_S A s.heap H locs) (wr : va_W) (isC isR : List Nat)
    (hM : zk_Mr l y bytes maxL ret fr lo D tB tC tI As wc post w1 mc ms H.size) (hg : GoodIn lw_all (va_wsS own index y (ws_ y bytes maxL ret))) (n : Nat)
    (hd : y.cls ≠ "java/lang/invoke/MethodHandle" ∧ y.cls ≠ "java/lang/invoke/VarHandle" ∧ (parseMethodDescriptor y.desc).map (fun d => d.parameters.length) = some n) (hn : As.length = n) (hsz : ls.size = nL) (hst : st = As.reverse ++ rest) (hW : (rest.map fun v => v.category).sum ≤ 8) (hdg : decode cc pc = .ok (.invokestatic index, 3)) (hR : fr + 1 ≤ R.frames ∧ 8 + (maxL + 11) + lo ≤ R.locals) (hf : cells + mc ≤ R.cells ∧ slots + ms ≤ R.slots)
    (hC : isC.map (fun i => ws[i]?) = wc.map some) (hRr : isR.map (fun i => ws[i]?) = wr.map some) (hnC : va_nd isC = true) (hnR : va_nd isR = true) (hdis : ∀ i ∈ isR, i ∉ isC)
    (kk : ∀ (u : S) (ra : Nat) (H1 : Heap) (locs1 : List Loc), post u → va_P D zk_cl (wr ++ w1 u ra) H1 → va_D A (wr ++ w1 u ra) → va_S A s.heap H1 locs1 → W p l e R s m args below meth c H1 locs1 (cells + mc) (slots + ms) Q (F0 m (pc + 3) ls (.ref ra :: rest))) : W p l e R s m args below meth c H locs cells slots Q (F0 m pc ls st) :=
  zk_aftR CX hP hD hS wr isC isR hC hRr hnR hdis (va_runS (As := As) (rest := rest) ⟨CX.1, CX.2.1, CX.2.2.1, CX.2.2.2.1, CX.2.2.2.2.1⟩ hM (va_cwS n CX.2.2.2.2.1 hg rfl rfl rfl hd hR) ⟨zk_blind _ _ _ _ _ _ _, zk_pre1 CX hP hD hS isC hC hnC _⟩ rfl hn hsz hst (lv_room hW) hdg hf) kk
theorem zk_Iv {post : S → Prop} {w1 : S → va_W} (CX : zk_C p s m args meth c cc nL own A D tB tC tI) (hP : va_P D zk_cl ws H) (hD : va_D A ws) (hS : va_S A s.heap H locs) (wr : va_W) (isC isR : List Nat)
    (hM : zk_Mv l y bytes maxL none fr lo D tB tC tI (.ref b :: As) wc post w1 mc ms H.size) (hcode : Cond.code y bytes maxL none ∈ lw_all) (hini : Cond.initialized y.cls ∈ lw_all) (hlk : Cond.methodLink own index y ∈ lw_all) (hins : Cond.instanceMethod y ∈ lw_all) (n : Nat) (hy1 : y.name = "<init>")
    (hd : y.cls ≠ "java/lang/invoke/MethodHandle" ∧ y.cls ≠ "java/lang/invoke/VarHandle" ∧ (parseMethodDescriptor y.desc).map (fun d => d.parameters.length) = some n) (hn : As.length = n) (hsz : ls.size = nL) (hst : st = As.reverse ++ .ref b :: rest) (hW : (rest.map fun v => v.category).sum ≤ 8) (hdg : decode cc pc = .ok (.invokespecial index, 3)) (hR : fr + 1 ≤ R.frames ∧ 8 + (maxL + 11) + lo ≤ R.locals) (hf : cells + mc ≤ R.cells ∧ slots + ms ≤ R.slots)
    (hC : isC.map (fun i => ws[i]?) = wc.map some) (hRr : isR.map (fun i => ws[i]?) = wr.map some) (hnC : va_nd isC = true) (hnR : va_nd isR = true) (hdis : ∀ i ∈ isR, i ∉ isC)
    (kk : ∀ (u : S) (H1 : Heap) (locs1 : List Loc), post u → va_P D zk_cl (wr ++ w1 u) H1 → va_D A (wr ++ w1 u) → va_S A s.heap H1 locs1 → W p l e R s m args below meth c H1 locs1 (cells + mc) (slots + ms) Q (F0 m (pc + 3) ls rest)) : W p l e R s m args below meth c H locs cells slots Q (F0 m pc ls st) :=
  zk_aftV CX hP hD hS wr isC isR hC hRr hnR hdis (va_runI (As := As) (rest := rest) ⟨CX.1, CX.2.1, CX.2.2.1, CX.2.2.2.1, CX.2.2.2.2.1⟩ hM (cwI n CX.2.2.2.2.1 (lw_meth hcode) rfl rfl rfl (CX.2.2.2.2.1 _ hini) (CX.2.2.2.2.1 _ hlk) (CX.2.2.2.2.1 _ hins) hy1 hd hR) ⟨zk_blind _ _ _ _ _ _ _, zk_pre1 CX hP hD hS isC hC hnC _⟩ rfl hn hsz hst (lv_room hW) hdg hf) kk
end ZKC
theorem zk_lwF {own0 : String} {idx : Nat} {C0 : String} {x0 y0 : MethodName} {b0 : ByteArray} {L0 : Nat} {r0 : Option FieldType} (h1 : Cond.methodLink own0 idx x0 ∈ lw_all) (h2 : Cond.selects C0 x0 y0 ∈ lw_all) (h3 : Cond.instanceMethod y0 ∈ lw_all) (h4 : Cond.initialized y0.cls ∈ lw_all) (h5 : Cond.code y0 b0 L0 r0 ∈ lw_all) : GoodIn lw_all (va_wsF own0 idx C0 x0 y0 (ws_ y0 b0 L0 r0)) := by
  refine lw_app ?_ (lw_meth h5)
  intro w hw
  simp only [List.mem_cons, List.not_mem_nil, or_false] at hw
  rcases hw with e | e | e | e
  · rw [e]; exact h1
  · rw [e]; exact h2
  · rw [e]; exact h3
  · rw [e]; exact h4
section ZKF
variable {p : Program} {l : Launch} {e : Env} {R : Room} {s : State} {m : MethodId} {args : Array Value} {below : List Frame} {meth : Method} {c : Code} {H : Heap} {locs : List Loc} {cells slots : Nat} {Q : State → Prop}
variable {cc : ByteArray} {nL : Nat} {own : String} {A : Nat → Prop} {D : va_G} {tB tC tI : ClassId} {pc : Nat} {ls : Array Slot} {st rest : List Value} {S : Type} {ws wc : va_W} {mc ms : Nat}
variable {x y : MethodName} {bytes : ByteArray} {maxL index count fr lo b : Nat} {ret : Option FieldType} {As : List Value} {C : String}
theorem zk_Fi {post : Int32 → S → Prop} {w1 : S → va_W} (CX : zk_C p s m args meth c cc nL own A D tB tC tI) (hP : va_P D zk_cl ws H) (hD : va_D A ws) (hS : va_S A s.heap H locs) (wr : va_W) (isC isR : List Nat)
    (hM : zk_Mi l y bytes maxL ret fr lo D tB tC tI (.ref b :: As) wc post w1 mc ms H.size) (hg : GoodIn lw_all (va_wsF own index C x y (ws_ y bytes maxL ret))) (hF : va_Fw C x y s) (n ci q0 : Nat) {qc : vw_C} {fs : List Value} (hq0 : wc[q0]? = some (b, .inr (ci, fs))) (hci : zk_cl[ci]? = some qc) (hqC : qc.1 = C)
    (hd : x.cls ≠ "java/lang/invoke/MethodHandle" ∧ x.cls ≠ "java/lang/invoke/VarHandle" ∧ (parseMethodDescriptor x.desc).map (fun d => d.parameters.length) = some n) (hn : As.length = n) (hsz : ls.size = nL) (hst : st = As.reverse ++ .ref b :: rest) (hW : (rest.map fun v => v.category).sum ≤ 8) (hdg : decode cc pc = .ok (.invokeinterface index count, 5)) (hR : fr + 1 ≤ R.frames ∧ 8 + (maxL + 11) + lo ≤ R.locals) (hf : cells + mc ≤ R.cells ∧ slots + ms ≤ R.slots)
    (hC : isC.map (fun i => ws[i]?) = wc.map some) (hRr : isR.map (fun i => ws[i]?) = wr.map some) (hnC : va_nd isC = true) (hnR : va_nd isR = true) (hdis : ∀ i ∈ isR, i ∉ isC)
    (kk : ∀ (r : Int32) (u : S) (H1 : Heap) (locs1 : List Loc), post r u → va_P D zk_cl (wr ++ w1 u) H1 → va_D A (wr ++ w1 u) → va_S A s.heap H1 locs1 → W p l e R s m args below meth c H1 locs1 (cells + mc) (slots + ms) Q (F0 m (pc + 5) ls (.int r :: rest))) : W p l e R s m args below meth c H locs cells slots Q (F0 m pc ls st) := by
  have hFc := va_free hD hS CX.2.2.2.2.2.1 isC hC
  have hat : ClassAt s C (D.1 ci) := by
    rw [← hqC]
    exact (CX.2.2.2.2.2.2.1.1 ci qc hci).2
  refine va_callFi (va_runF (As := As) (rest := rest) hat ⟨CX.1, CX.2.1, CX.2.2.1, CX.2.2.2.1, CX.2.2.2.2.1⟩ hM (va_cwF n CX.2.2.2.2.1 hg rfl rfl rfl hF hd hR) ⟨zk_blind _ _ _ _ _ _ _, ?_, zk_pre1 CX hP hD hS isC hC hnC _⟩ rfl hn hsz hst (lv_room hW) hdg hf) hS (fun q _ h => hFc q h) hFc (fun r u t H1 locs1 ht hvm hw hB hz1 hk1 hS1 => ?_)
  · rw [← hqC]
    exact va_recv CX.2.2.2.2.2.2.1 (hP.sub isC (zk_fm hC)) (ci := ci) (q0 := q0) hci hq0
  · obtain ⟨hP1, hK1, hD1⟩ := hB
    rw [ht] at hP1
    obtain ⟨hP2, hD2⟩ := va_join hP hD isC isR hC hRr hnR hdis hk1 hFc hP1 hD1
    exact kk r u H1 locs1 hw hP2 hD2 hS1
end ZKF
end
section
/-! the placement, reckoned: cells, words, the run's events -/
set_option maxRecDepth 100000
/-- the four added where a module wraps -/
def zk_d (n : Int32) : Int32 := 4 - (n + 4 - (n + 4) / 8 * 8)
/-- a module's cell: row and column wrapped -/
def zk_k (n r c : Int32) : Int32 := (if (if r < 0 then c + zk_d n else c) < 0 then (if r < 0 then r + n else r) + zk_d n else (if r < 0 then r + n else r)) * n + (if (if r < 0 then c + zk_d n else c) < 0 then (if r < 0 then c + zk_d n else c) + n else (if r < 0 then c + zk_d n else c))
/-- the cells of a word, put ahead of the list, first bit first -/
def zk_pre (ks : List Nat) : Nat → List Nat → List Nat
  | 0, L => L
  | i + 1, L => ks.getD i 0 :: zk_pre ks i L
theorem zk_pre_len (ks : List Nat) (L : List Nat) : ∀ i, (zk_pre ks i L).length = i + L.length
  | 0 => (Nat.zero_add _).symm
  | i + 1 => by
    show (zk_pre ks i L).length + 1 = _
    rw [zk_pre_len ks L i]
    omega
/-- the law's table out of the list of cells (last bit first) -/
def zk_T : List Nat → Nat → Int32
  | [], _ => -1
  | k :: L, j => if j = k then nI L.length else zk_T L j
/-- a bit of a code word: 1 to 8 from the left -/
def zk_bv (w b : Int32) : Int32 := if w &&& ((1 : Int32) <<< ((8 - b) &&& 31)) = 0 then 0 else 1
/-- the placement's bits out of the same list -/
def zk_Bt (w : Nat → Int32) : List Nat → Nat → Int32
  | [], _ => -1
  | k :: L, j => if j = k then zk_bv (w (L.length / 8)) (nI (L.length % 8 + 1)) else zk_Bt w L j
theorem zk_T_upd {L : List Nat} {k : Nat} {x v : Int32} (hx : x = nI k) (hk : k < 2 ^ 31) (hv : v = nI L.length) : upd (zk_T L) x.toNatClampNeg v = zk_T (k :: L) := by
  rw [hx, nI_clamp hk, hv]
  rfl
theorem zk_Bt_upd {w : Nat → Int32} {L : List Nat} {k : Nat} {x v : Int32} (hx : x = nI k) (hk : k < 2 ^ 31) (hv : v = zk_bv (w (L.length / 8)) (nI (L.length % 8 + 1))) : upd (zk_Bt w L) x.toNatClampNeg v = zk_Bt w (k :: L) := by
  rw [hx, nI_clamp hk, hv]
  rfl
theorem zk_bv01 (w b : Int32) : zk_bv w b = 0 ∨ zk_bv w b = 1 := by
  unfold zk_bv
  split
  · exact Or.inl rfl
  · exact Or.inr rfl
/-- a cell is free, or bears one bit -/
theorem zk_TB (w : Nat → Int32) (j : Nat) : ∀ L : List Nat, (j ∉ L ∧ zk_T L j = -1 ∧ zk_Bt w L j = -1) ∨ (j ∈ L ∧ ∃ v, v < L.length ∧ zk_T L j = nI v ∧ zk_Bt w L j = zk_bv (w (v / 8)) (nI (v % 8 + 1)))
  | [] => Or.inl ⟨List.not_mem_nil, rfl, rfl⟩
  | k :: L => by
    rcases Nat.decEq j k with hj | hj
    · have e1 : zk_T (k :: L) j = zk_T L j := if_neg hj
      have e2 : zk_Bt w (k :: L) j = zk_Bt w L j := if_neg hj
      rw [e1, e2]
      rcases zk_TB w j L with ⟨h1, h2, h3⟩ | ⟨h1, v, h2, h3, h4⟩
      · exact Or.inl ⟨fun h => by rcases List.mem_cons.mp h with q | q; exact hj q; exact h1 q, h2, h3⟩
      · exact Or.inr ⟨List.mem_cons_of_mem _ h1, v, Nat.lt_succ_of_lt h2, h3, h4⟩
    · exact Or.inr ⟨by rw [hj]; exact List.mem_cons_self, L.length, Nat.lt_succ_self _, if_pos hj, if_pos hj⟩
theorem zk_Bt_neg {w : Nat → Int32} {j : Nat} {L : List Nat} : zk_Bt w L j < 0 ↔ j ∉ L := by
  rcases zk_TB w j L with ⟨h1, h2, h3⟩ | ⟨h1, v, h2, h3, h4⟩
  · rw [h3]
    exact ⟨fun _ => h1, fun _ => by decide⟩
  · rw [h4]
    refine ⟨fun h => ?_, fun h => absurd h1 h⟩
    rcases zk_bv01 (w (v / 8)) (nI (v % 8 + 1)) with q | q
    · rw [q] at h
      exact absurd h (by decide)
    · rw [q] at h
      exact absurd h (by decide)
theorem zk_T_neg {j : Nat} {L : List Nat} (hL : L.length < 2 ^ 31) : zk_T L j < 0 ↔ j ∉ L := by
  rcases zk_TB (fun _ => 0) j L with ⟨h1, h2, h3⟩ | ⟨h1, v, h2, h3, h4⟩
  · rw [h2]
    exact ⟨fun _ => h1, fun _ => by decide⟩
  · rw [h3]
    exact ⟨fun h => absurd h (nI_pos (by omega)), fun h => absurd h1 h⟩
/-- the code words: bytes -/
def zk_W (w : Nat → Int32) : Prop := ∀ j, j < 72 → ∃ k, k < 256 ∧ w j = nI k
/-- the string's bytes after i of them -/
def zk_G (w : Nat → Int32) (i : Nat) : Nat → Int32 := fun j => if j < i then (w j).toInt8.toInt32 else 0
theorem zk_Gw {w : Nat → Int32} (hw : zk_W w) {j : Nat} (hj : j < 72) : zk_G w 72 j &&& 255 = w j := by
  obtain ⟨k, hk, e⟩ := hw j hj
  show (if j < 72 then (w j).toInt8.toInt32 else 0) &&& 255 = w j
  rw [if_pos hj, e]
  exact sc_k8 k hk
theorem zk_G_upd {w : Nat → Int32} {i : Nat} {x v : Int32} (hx : x.toNatClampNeg = i) (hv : v = (w i).toInt8.toInt32) : upd (zk_G w i) x.toNatClampNeg v = zk_G w (i + 1) := by
  rw [hx, hv]
  funext j
  show (if j = i then (w i).toInt8.toInt32 else if j < i then (w j).toInt8.toInt32 else 0) = if j < i + 1 then (w j).toInt8.toInt32 else 0
  rcases Nat.lt_trichotomy j i with h | h | h
  · rw [if_neg (by omega), if_pos h, if_pos (by omega)]
  · rw [if_pos h, if_pos (by omega), h]
  · rw [if_neg (by omega), if_neg (by omega), if_neg (by omega)]
/-- an array filled with v up to i -/
def zk_fl (f : Nat → Int32) (v : Int32) (i : Nat) : Nat → Int32 := fun j => if j < i then v else f j
theorem zk_fl_upd {f : Nat → Int32} {v : Int32} {i : Nat} {x : Int32} (hx : x.toNatClampNeg = i) : upd (zk_fl f v i) x.toNatClampNeg v = zk_fl f v (i + 1) := by
  rw [hx]
  funext j
  show (if j = i then v else if j < i then v else f j) = if j < i + 1 then v else f j
  rcases Nat.lt_trichotomy j i with h | h | h
  · rw [if_neg (by omega), if_pos h, if_pos (by omega)]
  · rw [if_pos h, if_pos (by omega)]
  · rw [if_neg (by omega), if_neg (by omega), if_neg (by omega)]
/-- an array copied up to i -/
def zk_cp (w : Nat → Int32) (i : Nat) : Nat → Int32 := fun j => if j < i then w j else 0
theorem zk_cp_upd {w : Nat → Int32} {i : Nat} {x v : Int32} (hx : x.toNatClampNeg = i) (hv : v = w i) : upd (zk_cp w i) x.toNatClampNeg v = zk_cp w (i + 1) := by
  rw [hx, hv]
  funext j
  show (if j = i then w i else if j < i then w j else 0) = if j < i + 1 then w j else 0
  rcases Nat.lt_trichotomy j i with h | h | h
  · rw [if_neg (by omega), if_pos h, if_pos (by omega)]
  · rw [if_pos h, if_pos (by omega), h]
  · rw [if_neg (by omega), if_neg (by omega), if_neg (by omega)]
-- the run's events: kind, row, column, cell, the word's cells
abbrev zk_ev : Type := Nat × Int32 × Int32 × Nat × List Nat × Nat × Int32 × Int32
abbrev zk_ut (r c : Int32) : List (Int32 × Int32) := [(r - 2, c - 2), (r - 2, c - 1), (r - 1, c - 2), (r - 1, c - 1), (r - 1, c), (r, c - 2), (r, c - 1), (r, c)]
abbrev zk_c1 (n : Int32) : List (Int32 × Int32) := [(n - 1, 0), (n - 1, 1), (n - 1, 2), (0, n - 2), (0, n - 1), (1, n - 1), (2, n - 1), (3, n - 1)]
abbrev zk_c2 (n : Int32) : List (Int32 × Int32) := [(n - 3, 0), (n - 2, 0), (n - 1, 0), (0, n - 4), (0, n - 3), (0, n - 2), (0, n - 1), (1, n - 1)]
abbrev zk_w8 (n : Int32) (N : Nat) (ks : List Nat) (ps : List (Int32 × Int32)) : Prop := ∀ i, i < 8 → zk_k n (ps.getD i (0, 0)).1 (ps.getD i (0, 0)).2 = nI (ks.getD i 0) ∧ ks.getD i 0 < N
abbrev zk_C1 (n r c : Int32) : Prop := r = n ∧ c = 0
abbrev zk_C2 (n r c : Int32) : Prop := r = n - 2 ∧ c = 0 ∧ ¬ n - n / 4 * 4 = 0
abbrev zk_C3 (n r c : Int32) : Prop := r = n - 2 ∧ c = 0 ∧ n - n / 8 * 8 = 4
abbrev zk_C4 (n r c : Int32) : Prop := r = n + 4 ∧ c = 2 ∧ n - n / 8 * 8 = 0
abbrev zk_is (n : Int32) (N : Nat) (r c : Int32) (j : Nat) : Prop := 0 ≤ r ∧ r < n ∧ 0 ≤ c ∧ c < n ∧ r * n + c = nI j ∧ j < N
abbrev zk_up (n r c : Int32) : Prop := 0 ≤ r + (-2) ∧ c + 2 < n
abbrev zk_dn (n r c : Int32) : Prop := r + 2 < n ∧ 0 ≤ c + (-2)
abbrev zk_mo (n r c : Int32) : Prop := r < n ∨ c < n
-- what comes behind an event: its phase, row, column
abbrev zk_nU (n r c : Int32) (ph : Nat) (r2 c2 : Int32) : Prop := (zk_up n r c ∧ ph = 1 ∧ r2 = r + (-2) ∧ c2 = c + 2) ∨ (¬ zk_up n r c ∧ ph = 2 ∧ r2 = r + (-2) + 1 ∧ c2 = c + 2 + 3)
abbrev zk_nD (n r c : Int32) (ph : Nat) (r2 c2 : Int32) : Prop := (zk_dn n r c ∧ ph = 2 ∧ r2 = r + 2 ∧ c2 = c + (-2)) ∨ (¬ zk_dn n r c ∧ r2 = r + 2 + 3 ∧ c2 = c + (-2) + 1 ∧ ((zk_mo n r2 c2 ∧ ph = 0) ∨ (¬ zk_mo n r2 c2 ∧ ph = 3)))
abbrev zk_nO (r c : Int32) (ph : Nat) (r2 c2 : Int32) : Prop := ph = 1 ∧ r2 = r ∧ c2 = c
abbrev zk_P0 (n : Int32) (r c : Int32) (ph : Nat) (r2 c2 : Int32) : Prop := zk_mo n r c ∧ ¬ zk_C1 n r c ∧ ¬ zk_C2 n r c ∧ ¬ zk_C3 n r c ∧ ¬ zk_C4 n r c ∧ zk_nO r c ph r2 c2
abbrev zk_P1 (n : Int32) (N : Nat) (r c : Int32) (ks : List Nat) (p : Nat) (ph : Nat) (r2 c2 : Int32) : Prop := zk_mo n r c ∧ zk_C1 n r c ∧ ¬ zk_C2 n r c ∧ ¬ zk_C3 n r c ∧ ¬ zk_C4 n r c ∧ p < 24 ∧ zk_w8 n N ks (zk_c1 n) ∧ zk_nO r c ph r2 c2
abbrev zk_P2 (n : Int32) (N : Nat) (r c : Int32) (ks : List Nat) (p : Nat) (ph : Nat) (r2 c2 : Int32) : Prop := zk_mo n r c ∧ ¬ zk_C1 n r c ∧ zk_C2 n r c ∧ ¬ zk_C3 n r c ∧ ¬ zk_C4 n r c ∧ p < 24 ∧ zk_w8 n N ks (zk_c2 n) ∧ zk_nO r c ph r2 c2
abbrev zk_P3 (n : Int32) (N : Nat) (r c : Int32) (j : Nat) (L : List Nat) (ph : Nat) (r2 c2 : Int32) : Prop := (¬ r < n ∨ c < 0 ∨ (zk_is n N r c j ∧ j ∈ L)) ∧ zk_nU n r c ph r2 c2
abbrev zk_P4 (n : Int32) (N : Nat) (r c : Int32) (j : Nat) (ks : List Nat) (p : Nat) (L : List Nat) (ph : Nat) (r2 c2 : Int32) : Prop := zk_is n N r c j ∧ j ∉ L ∧ p < 24 ∧ zk_w8 n N ks (zk_ut r c) ∧ zk_nU n r c ph r2 c2
abbrev zk_P5 (n : Int32) (N : Nat) (r c : Int32) (j : Nat) (L : List Nat) (ph : Nat) (r2 c2 : Int32) : Prop := (r < 0 ∨ ¬ c < n ∨ (zk_is n N r c j ∧ j ∈ L)) ∧ zk_nD n r c ph r2 c2
abbrev zk_P6 (n : Int32) (N : Nat) (r c : Int32) (j : Nat) (ks : List Nat) (p : Nat) (L : List Nat) (ph : Nat) (r2 c2 : Int32) : Prop := zk_is n N r c j ∧ j ∉ L ∧ p < 24 ∧ zk_w8 n N ks (zk_ut r c) ∧ zk_nD n r c ph r2 c2
def zk_b0 (n : Int32) (r c : Int32) (ph : Nat) (r2 c2 : Int32) : Bool := decide (zk_P0 n r c ph r2 c2)
def zk_b1 (n : Int32) (N : Nat) (r c : Int32) (ks : List Nat) (p : Nat) (ph : Nat) (r2 c2 : Int32) : Bool := decide (zk_P1 n N r c ks p ph r2 c2)
def zk_b2 (n : Int32) (N : Nat) (r c : Int32) (ks : List Nat) (p : Nat) (ph : Nat) (r2 c2 : Int32) : Bool := decide (zk_P2 n N r c ks p ph r2 c2)
def zk_b3 (n : Int32) (N : Nat) (r c : Int32) (j : Nat) (L : List Nat) (ph : Nat) (r2 c2 : Int32) : Bool := decide (zk_P3 n N r c j L ph r2 c2)
def zk_b4 (n : Int32) (N : Nat) (r c : Int32) (j : Nat) (ks : List Nat) (p : Nat) (L : List Nat) (ph : Nat) (r2 c2 : Int32) : Bool := decide (zk_P4 n N r c j ks p L ph r2 c2)
def zk_b5 (n : Int32) (N : Nat) (r c : Int32) (j : Nat) (L : List Nat) (ph : Nat) (r2 c2 : Int32) : Bool := decide (zk_P5 n N r c j L ph r2 c2)
def zk_b6 (n : Int32) (N : Nat) (r c : Int32) (j : Nat) (ks : List Nat) (p : Nat) (L : List Nat) (ph : Nat) (r2 c2 : Int32) : Bool := decide (zk_P6 n N r c j ks p L ph r2 c2)
theorem zk_s0 {n r c r2 c2 : Int32} {ph : Nat} (h : zk_b0 n r c ph r2 c2 = true) : zk_P0 n r c ph r2 c2 := of_decide_eq_true h
theorem zk_s1 {n r c r2 c2 : Int32} {N p ph : Nat} {ks : List Nat} (h : zk_b1 n N r c ks p ph r2 c2 = true) : zk_P1 n N r c ks p ph r2 c2 := of_decide_eq_true h
theorem zk_s2 {n r c r2 c2 : Int32} {N p ph : Nat} {ks : List Nat} (h : zk_b2 n N r c ks p ph r2 c2 = true) : zk_P2 n N r c ks p ph r2 c2 := of_decide_eq_true h
theorem zk_s3 {n r c r2 c2 : Int32} {N j ph : Nat} {L : List Nat} (h : zk_b3 n N r c j L ph r2 c2 = true) : zk_P3 n N r c j L ph r2 c2 := of_decide_eq_true h
theorem zk_s4 {n r c r2 c2 : Int32} {N j p ph : Nat} {ks L : List Nat} (h : zk_b4 n N r c j ks p L ph r2 c2 = true) : zk_P4 n N r c j ks p L ph r2 c2 := of_decide_eq_true h
theorem zk_s5 {n r c r2 c2 : Int32} {N j ph : Nat} {L : List Nat} (h : zk_b5 n N r c j L ph r2 c2 = true) : zk_P5 n N r c j L ph r2 c2 := of_decide_eq_true h
theorem zk_s6 {n r c r2 c2 : Int32} {N j p ph : Nat} {ks L : List Nat} (h : zk_b6 n N r c j ks p L ph r2 c2 = true) : zk_P6 n N r c j ks p L ph r2 c2 := of_decide_eq_true h
def zk_cond (n : Int32) (N t : Nat) (r c : Int32) (j : Nat) (ks : List Nat) (p : Nat) (L : List Nat) (ph : Nat) (r2 c2 : Int32) : Bool := match t with
  | 0 => zk_b0 n r c ph r2 c2
  | 1 => zk_b1 n N r c ks p ph r2 c2
  | 2 => zk_b2 n N r c ks p ph r2 c2
  | 3 => zk_b3 n N r c j L ph r2 c2
  | 4 => zk_b4 n N r c j ks p L ph r2 c2
  | 5 => zk_b5 n N r c j L ph r2 c2
  | 6 => zk_b6 n N r c j ks p L ph r2 c2
  | _ => false
def zk_ph : Nat → Nat
  | 0 => 0
  | 1 => 0
  | 2 => 0
  | 3 => 1
  | 4 => 1
  | _ => 2
/-- does the event lay a word -/
def zk_pt : Nat → Bool
  | 0 => false
  | 1 => true
  | 2 => true
  | 3 => false
  | 4 => true
  | 5 => false
  | _ => true
def zk_np (t p : Nat) : Nat := cond (zk_pt t) (p + 1) p
def zk_nL (t : Nat) (ks L : List Nat) : List Nat := cond (zk_pt t) (zk_pre ks 8 L) L
def zk_ok (n : Int32) (N : Nat) (Lf : List Nat) : List zk_ev → Nat → Int32 → Int32 → Nat → List Nat → Bool
  | [], ph, r, c, _, L => decide (ph = 3 ∧ L = Lf ∧ ¬ zk_mo n r c)
  | (t, r', c', j, ks, ph2, r2, c2) :: tr, ph, r, c, p, L => decide (r = r' ∧ c = c' ∧ ph = zk_ph t) && (zk_cond n N t r' c' j ks p L ph2 r2 c2 && zk_ok n N Lf tr ph2 r2 c2 (zk_np t p) (zk_nL t ks L))
theorem zk_ok_nil {n : Int32} {N : Nat} {Lf : List Nat} {ph p : Nat} {r c : Int32} {L : List Nat} (h : zk_ok n N Lf [] ph r c p L = true) : ph = 3 ∧ L = Lf ∧ ¬ zk_mo n r c := of_decide_eq_true h
theorem zk_ok_cons {n : Int32} {N : Nat} {Lf : List Nat} {t : Nat} {r' c' r2 c2 : Int32} {j ph2 : Nat} {ks : List Nat} {tr : List zk_ev} {ph p : Nat} {r c : Int32} {L : List Nat} (h : zk_ok n N Lf ((t, r', c', j, ks, ph2, r2, c2) :: tr) ph r c p L = true) : (r = r' ∧ c = c' ∧ ph = zk_ph t) ∧ zk_cond n N t r' c' j ks p L ph2 r2 c2 = true ∧ zk_ok n N Lf tr ph2 r2 c2 (zk_np t p) (zk_nL t ks L) = true := by
  have h1 : (decide (r = r' ∧ c = c' ∧ ph = zk_ph t) && (zk_cond n N t r' c' j ks p L ph2 r2 c2 && zk_ok n N Lf tr ph2 r2 c2 (zk_np t p) (zk_nL t ks L))) = true := h
  obtain ⟨a, b⟩ := Bool.and_eq_true_iff.mp h1
  obtain ⟨b, d⟩ := Bool.and_eq_true_iff.mp b
  exact ⟨of_decide_eq_true a, b, d⟩
theorem zk_nL_len {t p : Nat} {ks L : List Nat} (h : L.length = 8 * p) : (zk_nL t ks L).length = 8 * zk_np t p := by
  unfold zk_nL zk_np
  cases zk_pt t
  · exact h
  · show (zk_pre ks 8 L).length = 8 * (p + 1)
    rw [zk_pre_len, h]
    omega
theorem zk_m2 (x : Int32) : x + Int32.ofInt (-2) = x + (-2) := congrArg (fun z : Int32 => x + z) (show Int32.ofInt (-2) = -2 by decide)
def zk_L8 : List Nat := [54, 53, 52, 46, 45, 44, 37, 36, 57, 56, 63, 49, 48, 55, 40, 47, 43, 42, 41, 35, 34, 33, 26, 25, 29, 28, 27, 21, 20, 19, 12, 11, 15, 14, 13, 7, 6, 5, 62, 61, 4, 3, 2, 60, 59, 58, 51, 50, 18, 17, 16, 10, 9, 8, 1, 0, 32, 39, 38, 24, 31, 30, 23, 22]
def zk_E8 : List zk_ev := [(0, 4, 0, 0, [], 1, 4, 0), (4, 4, 0, 32, [22, 23, 30, 31, 24, 38, 39, 32], 1, 2, 2), (4, 2, 2, 18, [0, 1, 8, 9, 10, 16, 17, 18], 1, 0, 4), (4, 0, 4, 4, [50, 51, 58, 59, 60, 2, 3, 4], 2, (-1), 9), (5, (-1), 9, 0, [], 2, 1, 7), (6, 1, 7, 15, [61, 62, 5, 6, 7, 13, 14, 15], 2, 3, 5), (6, 3, 5, 29, [11, 12, 19, 20, 21, 27, 28, 29], 2, 5, 3), (6, 5, 3, 43, [25, 26, 33, 34, 35, 41, 42, 43], 2, 7, 1), (6, 7, 1, 57, [47, 40, 55, 48, 49, 63, 56, 57], 0, 12, 0), (0, 12, 0, 0, [], 1, 12, 0), (3, 12, 0, 0, [], 1, 10, 2), (3, 10, 2, 0, [], 1, 8, 4), (3, 8, 4, 0, [], 1, 6, 6), (4, 6, 6, 54, [36, 37, 44, 45, 46, 52, 53, 54], 2, 5, 11), (5, 5, 11, 0, [], 2, 7, 9), (5, 7, 9, 0, [], 3, 12, 8)]
def zk_L10 : List Nat := [97, 96, 95, 87, 86, 85, 76, 75, 79, 78, 77, 69, 68, 67, 58, 57, 48, 47, 46, 38, 37, 36, 27, 26, 66, 65, 64, 56, 55, 54, 45, 44, 84, 83, 82, 74, 73, 72, 63, 62, 71, 70, 59, 61, 60, 49, 50, 39, 53, 52, 51, 43, 42, 41, 32, 31, 35, 34, 33, 25, 24, 23, 14, 13, 17, 16, 15, 7, 6, 5, 94, 93, 4, 3, 2, 92, 91, 90, 81, 80, 22, 21, 20, 12, 11, 10, 1, 0, 40, 29, 28, 30, 19, 18, 9, 8]
def zk_E10 : List zk_ev := [(0, 4, 0, 0, [], 1, 4, 0), (4, 4, 0, 40, [8, 9, 18, 19, 30, 28, 29, 40], 1, 2, 2), (4, 2, 2, 22, [0, 1, 10, 11, 12, 20, 21, 22], 1, 0, 4), (4, 0, 4, 4, [80, 81, 90, 91, 92, 2, 3, 4], 2, (-1), 9), (5, (-1), 9, 0, [], 2, 1, 7), (6, 1, 7, 17, [93, 94, 5, 6, 7, 15, 16, 17], 2, 3, 5), (6, 3, 5, 35, [13, 14, 23, 24, 25, 33, 34, 35], 2, 5, 3), (6, 5, 3, 53, [31, 32, 41, 42, 43, 51, 52, 53], 2, 7, 1), (6, 7, 1, 71, [39, 50, 49, 60, 61, 59, 70, 71], 0, 12, 0), (0, 12, 0, 0, [], 1, 12, 0), (3, 12, 0, 0, [], 1, 10, 2), (3, 10, 2, 0, [], 1, 8, 4), (4, 8, 4, 84, [62, 63, 72, 73, 74, 82, 83, 84], 1, 6, 6), (4, 6, 6, 66, [44, 45, 54, 55, 56, 64, 65, 66], 1, 4, 8), (4, 4, 8, 48, [26, 27, 36, 37, 38, 46, 47, 48], 2, 3, 13), (5, 3, 13, 0, [], 2, 5, 11), (5, 5, 11, 0, [], 2, 7, 9), (6, 7, 9, 79, [57, 58, 67, 68, 69, 77, 78, 79], 2, 9, 7), (6, 9, 7, 97, [75, 76, 85, 86, 87, 95, 96, 97], 0, 14, 6), (0, 14, 6, 0, [], 1, 14, 6), (3, 14, 6, 0, [], 1, 12, 8), (3, 12, 8, 0, [], 2, 11, 13), (5, 11, 13, 0, [], 3, 16, 12)]
def zk_L12 : List Nat := [130, 129, 128, 118, 117, 116, 105, 104, 137, 136, 135, 125, 124, 123, 112, 111, 115, 114, 113, 103, 102, 101, 90, 89, 93, 92, 91, 81, 80, 79, 68, 67, 71, 70, 69, 59, 58, 57, 46, 45, 34, 33, 32, 22, 21, 20, 9, 8, 56, 55, 54, 44, 43, 42, 31, 30, 78, 77, 76, 66, 65, 64, 53, 52, 100, 99, 98, 88, 87, 86, 75, 74, 122, 121, 120, 110, 109, 108, 97, 96, 47, 35, 23, 11, 10, 134, 133, 132, 85, 84, 143, 73, 72, 131, 60, 119, 63, 62, 61, 51, 50, 49, 38, 37, 41, 40, 39, 29, 28, 27, 16, 15, 19, 18, 17, 7, 6, 5, 142, 141, 4, 3, 2, 140, 139, 138, 127, 126, 26, 25, 24, 14, 13, 12, 1, 0, 48, 107, 106, 36, 95, 94, 83, 82]
def zk_E12 : List zk_ev := [(0, 4, 0, 0, [], 1, 4, 0), (4, 4, 0, 48, [82, 83, 94, 95, 36, 106, 107, 48], 1, 2, 2), (4, 2, 2, 26, [0, 1, 12, 13, 14, 24, 25, 26], 1, 0, 4), (4, 0, 4, 4, [126, 127, 138, 139, 140, 2, 3, 4], 2, (-1), 9), (5, (-1), 9, 0, [], 2, 1, 7), (6, 1, 7, 19, [141, 142, 5, 6, 7, 17, 18, 19], 2, 3, 5), (6, 3, 5, 41, [15, 16, 27, 28, 29, 39, 40, 41], 2, 5, 3), (6, 5, 3, 63, [37, 38, 49, 50, 51, 61, 62, 63], 2, 7, 1), (6, 7, 1, 85, [119, 60, 131, 72, 73, 143, 84, 85], 0, 12, 0), (1, 12, 0, 0, [132, 133, 134, 10, 11, 23, 35, 47], 1, 12, 0), (3, 12, 0, 0, [], 1, 10, 2), (4, 10, 2, 122, [96, 97, 108, 109, 110, 120, 121, 122], 1, 8, 4), (4, 8, 4, 100, [74, 75, 86, 87, 88, 98, 99, 100], 1, 6, 6), (4, 6, 6, 78, [52, 53, 64, 65, 66, 76, 77, 78], 1, 4, 8), (4, 4, 8, 56, [30, 31, 42, 43, 44, 54, 55, 56], 1, 2, 10), (4, 2, 10, 34, [8, 9, 20, 21, 22, 32, 33, 34], 2, 1, 15), (5, 1, 15, 0, [], 2, 3, 13), (5, 3, 13, 0, [], 2, 5, 11), (6, 5, 11, 71, [45, 46, 57, 58, 59, 69, 70, 71], 2, 7, 9), (6, 7, 9, 93, [67, 68, 79, 80, 81, 91, 92, 93], 2, 9, 7), (6, 9, 7, 115, [89, 90, 101, 102, 103, 113, 114, 115], 2, 11, 5), (6, 11, 5, 137, [111, 112, 123, 124, 125, 135, 136, 137], 0, 16, 4), (0, 16, 4, 0, [], 1, 16, 4), (3, 16, 4, 0, [], 1, 14, 6), (3, 14, 6, 0, [], 1, 12, 8), (3, 12, 8, 0, [], 1, 10, 10), (4, 10, 10, 130, [104, 105, 116, 117, 118, 128, 129, 130], 2, 9, 15), (5, 9, 15, 0, [], 2, 11, 13), (5, 11, 13, 0, [], 3, 16, 12)]
def zk_L14 : List Nat := [193, 192, 191, 179, 178, 177, 164, 163, 167, 166, 165, 153, 152, 151, 138, 137, 124, 123, 122, 110, 109, 108, 95, 94, 150, 149, 148, 136, 135, 134, 121, 120, 176, 175, 174, 162, 161, 160, 147, 146, 185, 184, 183, 171, 170, 169, 156, 155, 159, 158, 157, 145, 144, 143, 130, 129, 133, 132, 131, 119, 118, 117, 104, 103, 107, 106, 105, 93, 92, 91, 78, 77, 81, 80, 79, 67, 66, 65, 52, 51, 55, 54, 53, 41, 40, 39, 26, 25, 38, 37, 36, 24, 23, 22, 9, 8, 64, 63, 62, 50, 49, 48, 35, 34, 90, 89, 88, 76, 75, 74, 61, 60, 116, 115, 114, 102, 101, 100, 87, 86, 142, 141, 140, 128, 127, 126, 113, 112, 27, 13, 12, 11, 10, 182, 168, 154, 99, 98, 139, 85, 84, 125, 70, 111, 73, 72, 71, 59, 58, 57, 44, 43, 47, 46, 45, 33, 32, 31, 18, 17, 21, 20, 19, 7, 6, 5, 190, 189, 4, 3, 2, 188, 187, 186, 173, 172, 30, 29, 28, 16, 15, 14, 1, 0, 56, 97, 96, 42, 83, 82, 69, 68]
def zk_E14 : List zk_ev := [(0, 4, 0, 0, [], 1, 4, 0), (4, 4, 0, 56, [68, 69, 82, 83, 42, 96, 97, 56], 1, 2, 2), (4, 2, 2, 30, [0, 1, 14, 15, 16, 28, 29, 30], 1, 0, 4), (4, 0, 4, 4, [172, 173, 186, 187, 188, 2, 3, 4], 2, (-1), 9), (5, (-1), 9, 0, [], 2, 1, 7), (6, 1, 7, 21, [189, 190, 5, 6, 7, 19, 20, 21], 2, 3, 5), (6, 3, 5, 47, [17, 18, 31, 32, 33, 45, 46, 47], 2, 5, 3), (6, 5, 3, 73, [43, 44, 57, 58, 59, 71, 72, 73], 2, 7, 1), (6, 7, 1, 99, [111, 70, 125, 84, 85, 139, 98, 99], 0, 12, 0), (2, 12, 0, 0, [154, 168, 182, 10, 11, 12, 13, 27], 1, 12, 0), (3, 12, 0, 168, [], 1, 10, 2), (4, 10, 2, 142, [112, 113, 126, 127, 128, 140, 141, 142], 1, 8, 4), (4, 8, 4, 116, [86, 87, 100, 101, 102, 114, 115, 116], 1, 6, 6), (4, 6, 6, 90, [60, 61, 74, 75, 76, 88, 89, 90], 1, 4, 8), (4, 4, 8, 64, [34, 35, 48, 49, 50, 62, 63, 64], 1, 2, 10), (4, 2, 10, 38, [8, 9, 22, 23, 24, 36, 37, 38], 1, 0, 12), (3, 0, 12, 12, [], 2, (-1), 17), (5, (-1), 17, 0, [], 2, 1, 15), (5, 1, 15, 0, [], 2, 3, 13), (6, 3, 13, 55, [25, 26, 39, 40, 41, 53, 54, 55], 2, 5, 11), (6, 5, 11, 81, [51, 52, 65, 66, 67, 79, 80, 81], 2, 7, 9), (6, 7, 9, 107, [77, 78, 91, 92, 93, 105, 106, 107], 2, 9, 7), (6, 9, 7, 133, [103, 104, 117, 118, 119, 131, 132, 133], 2, 11, 5), (6, 11, 5, 159, [129, 130, 143, 144, 145, 157, 158, 159], 2, 13, 3), (6, 13, 3, 185, [155, 156, 169, 170, 171, 183, 184, 185], 0, 18, 2), (0, 18, 2, 0, [], 1, 18, 2), (3, 18, 2, 0, [], 1, 16, 4), (3, 16, 4, 0, [], 1, 14, 6), (3, 14, 6, 0, [], 1, 12, 8), (4, 12, 8, 176, [146, 147, 160, 161, 162, 174, 175, 176], 1, 10, 10), (4, 10, 10, 150, [120, 121, 134, 135, 136, 148, 149, 150], 1, 8, 12), (4, 8, 12, 124, [94, 95, 108, 109, 110, 122, 123, 124], 2, 7, 17), (5, 7, 17, 0, [], 2, 9, 15), (5, 9, 15, 0, [], 2, 11, 13), (6, 11, 13, 167, [137, 138, 151, 152, 153, 165, 166, 167], 2, 13, 11), (6, 13, 11, 193, [163, 164, 177, 178, 179, 191, 192, 193], 0, 18, 10), (0, 18, 10, 0, [], 1, 18, 10), (3, 18, 10, 0, [], 1, 16, 12), (3, 16, 12, 0, [], 2, 15, 17), (5, 15, 17, 0, [], 3, 20, 16)]

abbrev zk_sd (i : Nat) : Nat := 8 + 2 * i
def zk_LL (i : Nat) : List Nat := match i with
  | 0 => zk_L8
  | 1 => zk_L10
  | 2 => zk_L12
  | _ => zk_L14
def zk_EE (i : Nat) : List zk_ev := match i with
  | 0 => zk_E8
  | 1 => zk_E10
  | 2 => zk_E12
  | _ => zk_E14
theorem zk_i4 {P : Nat → Prop} (h0 : P 0) (h1 : P 1) (h2 : P 2) (h3 : P 3) {i : Nat} (hi : i < 4) : P i := by
  rcases (show i = 0 ∨ i = 1 ∨ i = 2 ∨ i = 3 by omega) with q | q | q | q <;> rw [q]
  · exact h0
  · exact h1
  · exact h2
  · exact h3
theorem zk_run0 : zk_ok 8 64 zk_L8 zk_E8 0 4 0 0 [] = true := by decide +kernel
theorem zk_run1 : zk_ok 10 100 zk_L10 zk_E10 0 4 0 0 [] = true := by decide +kernel
theorem zk_run2 : zk_ok 12 144 zk_L12 zk_E12 0 4 0 0 [] = true := by decide +kernel
theorem zk_run3 : zk_ok 14 196 zk_L14 zk_E14 0 4 0 0 [] = true := by decide +kernel
theorem zk_run {i : Nat} (hi : i < 4) : zk_ok (nI (zk_sd i)) (zk_sd i * zk_sd i) (zk_LL i) (zk_EE i) 0 4 0 0 [] = true := zk_i4 (P := fun i => zk_ok (nI (zk_sd i)) (zk_sd i * zk_sd i) (zk_LL i) (zk_EE i) 0 4 0 0 [] = true) zk_run0 zk_run1 zk_run2 zk_run3 hi
theorem zk_LL_len {i : Nat} (hi : i < 4) : (zk_LL i).length = 8 * (zk_sd i * zk_sd i / 8) := zk_i4 (P := fun i => (zk_LL i).length = 8 * (zk_sd i * zk_sd i / 8)) (by decide +kernel) (by decide +kernel) (by decide +kernel) (by decide +kernel) hi
/-- the place of a bit's number -/
def zk_pos (L : List Nat) (v : Nat) : Nat := L.getD (L.length - 1 - v) 0
abbrev zk_F1 (L : List Nat) (N : Nat) : Prop := ∀ v, v < L.length → zk_pos L v < N ∧ zk_T L (zk_pos L v) = nI v
abbrev zk_F2 (L : List Nat) (N : Nat) : Prop := ∀ j, j < N → j ∈ L → zk_pos L (zk_T L j).toNatClampNeg = j
theorem zk_f1_0 : zk_F1 zk_L8 64 := by decide +kernel
theorem zk_f1_1 : zk_F1 zk_L10 100 := by decide +kernel
theorem zk_f1_2 : zk_F1 zk_L12 144 := by decide +kernel
theorem zk_f1_3 : zk_F1 zk_L14 196 := by decide +kernel
theorem zk_f1 {i : Nat} (hi : i < 4) : zk_F1 (zk_LL i) (zk_sd i * zk_sd i) := zk_i4 (P := fun i => zk_F1 (zk_LL i) (zk_sd i * zk_sd i)) zk_f1_0 zk_f1_1 zk_f1_2 zk_f1_3 hi
theorem zk_f2_0 : zk_F2 zk_L8 64 := by decide +kernel
theorem zk_f2_1 : zk_F2 zk_L10 100 := by decide +kernel
theorem zk_f2_2 : zk_F2 zk_L12 144 := by decide +kernel
theorem zk_f2_3 : zk_F2 zk_L14 196 := by decide +kernel
theorem zk_f2 {i : Nat} (hi : i < 4) : zk_F2 (zk_LL i) (zk_sd i * zk_sd i) := zk_i4 (P := fun i => zk_F2 (zk_LL i) (zk_sd i * zk_sd i)) zk_f2_0 zk_f2_1 zk_f2_2 zk_f2_3 hi
/-- free cells ahead of j -/
def zk_cnt (L : List Nat) : Nat → Nat
  | 0 => 0
  | j + 1 => if j ∈ L then zk_cnt L j else zk_cnt L j + 1
theorem zk_cnt_le (L : List Nat) : ∀ j, zk_cnt L j ≤ j
  | 0 => Nat.le_refl _
  | j + 1 => by
    have h := zk_cnt_le L j
    show (if j ∈ L then zk_cnt L j else zk_cnt L j + 1) ≤ j + 1
    split <;> omega
theorem zk_cntE {i : Nat} (hi : i < 4) : zk_cnt (zk_LL i) (zk_sd i * zk_sd i) = zk_sd i * zk_sd i - (zk_LL i).length := zk_i4 (P := fun i => zk_cnt (zk_LL i) (zk_sd i * zk_sd i) = zk_sd i * zk_sd i - (zk_LL i).length) (by decide +kernel) (by decide +kernel) (by decide +kernel) (by decide +kernel) hi
/-- isWhole's counts after j cells -/
def zk_sn (L : List Nat) (j : Nat) : Nat → Int32 := fun v => if v < L.length ∧ zk_pos L v < j then 1 else 0
theorem zk_sn_0 (L : List Nat) : zk_sn L 0 = fun _ => 0 := by
  funext v
  exact if_neg (fun h => absurd h.2 (Nat.not_lt_zero _))
theorem zk_sn_skip {L : List Nat} {N j : Nat} (h1 : zk_F1 L N) (hL : L.length < 2 ^ 31) (hj : j ∉ L) : zk_sn L j = zk_sn L (j + 1) := by
  funext v
  show (if v < L.length ∧ zk_pos L v < j then (1 : Int32) else 0) = if v < L.length ∧ zk_pos L v < j + 1 then 1 else 0
  have key : (v < L.length ∧ zk_pos L v < j) ↔ (v < L.length ∧ zk_pos L v < j + 1) := by
    refine ⟨fun h => ⟨h.1, by omega⟩, fun h => ⟨h.1, ?_⟩⟩
    rcases Nat.lt_or_ge (zk_pos L v) j with q | q
    · exact q
    · have e : zk_pos L v = j := by omega
      have h2 := (h1 v h.1).2
      rw [e] at h2
      have h3 := (zk_T_neg (j := j) hL).mpr hj
      rw [h2] at h3
      exact absurd h3 (nI_pos (by omega))
  by_cases h : v < L.length ∧ zk_pos L v < j
  · rw [if_pos h, if_pos (key.mp h)]
  · rw [if_neg h, if_neg (fun q => h (key.mpr q))]
theorem zk_sn_put {L : List Nat} {N j v : Nat} {x : Int32} (h1 : zk_F1 L N) (h2 : zk_F2 L N) (hjN : j < N) (hL : L.length < 2 ^ 31) (hj : j ∈ L) (hv : v < L.length) (hx : zk_T L j = nI v) (ex : x = zk_sn L j v + 1) : upd (zk_sn L j) (nI v).toNatClampNeg x = zk_sn L (j + 1) := by
  have hp : zk_pos L v = j := by
    have h := h2 j hjN hj
    rw [hx, nI_clamp (by omega)] at h
    exact h
  have e0 : zk_sn L j v = 0 := if_neg (fun h => by rw [hp] at h; exact absurd h.2 (Nat.lt_irrefl _))
  rw [nI_clamp (by omega), ex, e0]
  funext u
  show (if u = v then (0 : Int32) + 1 else if u < L.length ∧ zk_pos L u < j then 1 else 0) = if u < L.length ∧ zk_pos L u < j + 1 then 1 else 0
  by_cases hu : u = v
  · rw [if_pos hu, if_pos (by rw [hu]; exact ⟨hv, by omega⟩)]
    decide
  · rw [if_neg hu]
    have key : (u < L.length ∧ zk_pos L u < j) ↔ (u < L.length ∧ zk_pos L u < j + 1) := by
      refine ⟨fun h => ⟨h.1, by omega⟩, fun h => ⟨h.1, ?_⟩⟩
      rcases Nat.lt_or_ge (zk_pos L u) j with q | q
      · exact q
      · have e : zk_pos L u = j := by omega
        have h3 := (h1 u h.1).2
        rw [e, hx] at h3
        exact absurd ((nI_eq (by omega) (by omega)).mp h3).symm hu
    by_cases h : u < L.length ∧ zk_pos L u < j
    · rw [if_pos h, if_pos (key.mp h)]
    · rw [if_neg h, if_neg (fun q => h (key.mpr q))]
theorem zk_sn_end {L : List Nat} {N v : Nat} (h1 : zk_F1 L N) (hv : v < L.length) : zk_sn L N v = 1 := if_pos ⟨hv, (h1 v hv).1⟩
/-- what isDark answers -/
def zk_dk (n : Int32) (f w : Nat → Int32) (y x : Int32) : Int32 := if f (n * y + x).toNatClampNeg < 0 then (if f (n * n - 1).toNatClampNeg < 0 ∧ y = x ∧ n - 2 ≤ y then 1 else 0) else if (w (f (n * y + x).toNatClampNeg >>> (3 &&& 31)).toNatClampNeg >>> ((7 - (f (n * y + x).toNatClampNeg &&& 7)) &&& 31)) &&& 1 = 1 then 1 else 0
/-- the sheet's bits behind place -/
def zk_Fin (w : Nat → Int32) (sd : Nat) (L : List Nat) : Nat → Int32 := if (sd - 1) * sd + (sd - 1) ∈ L then zk_Bt w L else upd (upd (zk_Bt w L) ((sd - 1) * sd + (sd - 1)) 1) ((sd - 2) * sd + (sd - 2)) 1
theorem zk_bits : ((List.range 256).all fun k => (List.range 8).all fun b => decide (zk_bv (nI k) (nI (b + 1)) = if (nI k >>> ((7 - nI b) &&& 31)) &&& 1 = 1 then 1 else 0)) = true := by decide +kernel
theorem zk_bit {k b : Nat} (hk : k < 256) (hb : b < 8) : zk_bv (nI k) (nI (b + 1)) = if (nI k >>> ((7 - nI b) &&& 31)) &&& 1 = 1 then 1 else 0 := by
  have h := List.all_eq_true.mp zk_bits k (List.mem_range.mpr hk)
  have h := List.all_eq_true.mp h b (List.mem_range.mpr hb)
  exact of_decide_eq_true h
theorem zk_shr3 {v : Nat} (hv : v < 2 ^ 31) : nI v >>> ((3 : Int32) &&& 31) = nI (v / 8) := pk_shrN hv _ 3 (by decide)
theorem zk_and7 {v : Nat} (hv : v < 2 ^ 31) : nI v &&& 7 = nI (v % 8) := pk_andN (by omega) 3 (by decide)
/-- a bit that stands: both sides read the same -/
theorem zk_rel_in {w : Nat → Int32} (hw : zk_W w) {v : Nat} (hv : v < 576) : (if zk_bv (w (v / 8)) (nI (v % 8 + 1)) = 1 then (1 : Int32) else 0) = if (w (nI v >>> ((3 : Int32) &&& 31)).toNatClampNeg >>> ((7 - (nI v &&& 7)) &&& 31)) &&& 1 = 1 then 1 else 0 := by
  rw [zk_shr3 (by omega), zk_and7 (by omega), nI_clamp (by omega)]
  obtain ⟨k, hk, e⟩ := hw (v / 8) (by omega)
  rw [e, zk_bit hk (by omega)]
  split
  · rfl
  · rfl
abbrev zk_F3 (sd : Nat) (L : List Nat) : Prop := (sd - 1) * sd + (sd - 1) ∈ L ∨ ((sd - 1) * sd + (sd - 1) ∉ L ∧ (sd - 2) * sd + (sd - 2) ∉ L)
theorem zk_f3 {i : Nat} (hi : i < 4) : zk_F3 (zk_sd i) (zk_LL i) := zk_i4 (P := fun i => zk_F3 (zk_sd i) (zk_LL i)) (by decide +kernel) (by decide +kernel) (by decide +kernel) (by decide +kernel) hi
theorem zk_sq (i : Nat) (hi : i < 4) {y x : Nat} (hy : y < zk_sd i) (hx : x < zk_sd i) : (y * zk_sd i + x = (zk_sd i - 1) * zk_sd i + (zk_sd i - 1) ↔ y = x ∧ y = zk_sd i - 1) ∧ (y * zk_sd i + x = (zk_sd i - 2) * zk_sd i + (zk_sd i - 2) ↔ y = x ∧ y = zk_sd i - 2) ∧ y * zk_sd i + x < zk_sd i * zk_sd i := by
  rcases (show i = 0 ∨ i = 1 ∨ i = 2 ∨ i = 3 by omega) with q | q | q | q <;> subst q <;> (simp only [zk_sd] at *; omega)
/-- THE PLAIN LAW: the sheet behind place answers as the law's square -/
theorem zk_rel {i : Nat} (hi : i < 4) {w : Nat → Int32} (hw : zk_W w) {y x : Nat} (hy : y < zk_sd i) (hx : x < zk_sd i) : (if zk_Fin w (zk_sd i) (zk_LL i) (y * zk_sd i + x) = 1 then (1 : Int32) else 0) = zk_dk (nI (zk_sd i)) (zk_T (zk_LL i)) w (nI y) (nI x) := by
  have hs : zk_sd i ≤ 14 := by simp only [zk_sd]; omega
  have hs8 : 8 ≤ zk_sd i := by simp only [zk_sd]; omega
  obtain ⟨q1, q2, q3⟩ := zk_sq i hi hy hx
  have hss : zk_sd i * zk_sd i ≤ 196 := Nat.mul_le_mul hs hs
  have hLl : (zk_LL i).length ≤ 196 := by rw [zk_LL_len hi]; omega
  have e1 : nI (zk_sd i) * nI y + nI x = nI (y * zk_sd i + x) := by rw [pk_mul, nI_add, Nat.mul_comm]
  have e2 : nI (zk_sd i) * nI (zk_sd i) - 1 = nI ((zk_sd i - 1) * zk_sd i + (zk_sd i - 1)) := by
    rw [pk_mul, show (1 : Int32) = nI 1 from rfl, pk_sub (by omega)]
    congr 1
    rcases (show i = 0 ∨ i = 1 ∨ i = 2 ∨ i = 3 by omega) with q | q | q | q <;> subst q <;> rfl
  have hN1 : (zk_sd i - 1) * zk_sd i + (zk_sd i - 1) < 2 ^ 31 := by
    have h : (zk_sd i - 1) * zk_sd i ≤ 14 * 14 := Nat.mul_le_mul (by omega) hs
    omega
  unfold zk_dk
  rw [e1, e2, nI_clamp (by omega), nI_clamp hN1]
  generalize hJ : y * zk_sd i + x = J at *
  rcases zk_TB w J (zk_LL i) with ⟨h1, h2, h3⟩ | ⟨h1, v, h2, h3, h4⟩
  · rw [h2, if_pos (show (-1 : Int32) < 0 by decide)]
    rcases zk_f3 hi with hc | ⟨hc1, hc2⟩
    · have hn : ¬ zk_T (zk_LL i) ((zk_sd i - 1) * zk_sd i + (zk_sd i - 1)) < 0 := fun q => absurd hc ((zk_T_neg (by omega)).mp q)
      have hnn : ¬ (zk_T (zk_LL i) ((zk_sd i - 1) * zk_sd i + (zk_sd i - 1)) < 0 ∧ nI y = nI x ∧ nI (zk_sd i) - 2 ≤ nI y) := fun q => hn q.1
      rw [if_neg hnn]
      unfold zk_Fin
      rw [if_pos hc, h3, if_neg (show ¬ (-1 : Int32) = 1 by decide)]
    · have hn : zk_T (zk_LL i) ((zk_sd i - 1) * zk_sd i + (zk_sd i - 1)) < 0 := (zk_T_neg (by omega)).mpr hc1
      have hle : nI (zk_sd i) - 2 ≤ nI y ↔ zk_sd i - 2 ≤ y := by
        rw [show (2 : Int32) = nI 2 from rfl, pk_sub (by omega)]
        exact nI_leI (by omega) (by omega)
      have hyx : nI y = nI x ↔ y = x := nI_eq (by omega) (by omega)
      unfold zk_Fin
      rw [if_neg hc1]
      show (if (if J = (zk_sd i - 2) * zk_sd i + (zk_sd i - 2) then (1 : Int32) else if J = (zk_sd i - 1) * zk_sd i + (zk_sd i - 1) then 1 else zk_Bt w (zk_LL i) J) = 1 then (1 : Int32) else 0) = _
      by_cases c1 : J = (zk_sd i - 2) * zk_sd i + (zk_sd i - 2)
      · obtain ⟨a1, a2⟩ := q2.mp c1
        have hyy : zk_T (zk_LL i) ((zk_sd i - 1) * zk_sd i + (zk_sd i - 1)) < 0 ∧ nI y = nI x ∧ nI (zk_sd i) - 2 ≤ nI y := ⟨hn, hyx.mpr a1, hle.mpr (by omega)⟩
        rw [if_pos c1, if_pos rfl, if_pos hyy]
      · by_cases c2 : J = (zk_sd i - 1) * zk_sd i + (zk_sd i - 1)
        · obtain ⟨a1, a2⟩ := q1.mp c2
          have hyy : zk_T (zk_LL i) ((zk_sd i - 1) * zk_sd i + (zk_sd i - 1)) < 0 ∧ nI y = nI x ∧ nI (zk_sd i) - 2 ≤ nI y := ⟨hn, hyx.mpr a1, hle.mpr (by omega)⟩
          rw [if_neg c1, if_pos c2, if_pos rfl, if_pos hyy]
        · have hnn : ¬ (zk_T (zk_LL i) ((zk_sd i - 1) * zk_sd i + (zk_sd i - 1)) < 0 ∧ nI y = nI x ∧ nI (zk_sd i) - 2 ≤ nI y) := by
            rintro ⟨-, b1, b2⟩
            have b1 := hyx.mp b1
            have b2 := hle.mp b2
            rcases (show y = zk_sd i - 1 ∨ y = zk_sd i - 2 by omega) with b3 | b3
            · exact c2 (q1.mpr ⟨b1, b3⟩)
            · exact c1 (q2.mpr ⟨b1, b3⟩)
          rw [if_neg c1, if_neg c2, h3, if_neg (show ¬ (-1 : Int32) = 1 by decide), if_neg hnn]
  · have hv : v < 576 := by omega
    have e3 : zk_Fin w (zk_sd i) (zk_LL i) J = zk_Bt w (zk_LL i) J := by
      unfold zk_Fin
      rcases zk_f3 hi with hc | ⟨hc1, hc2⟩
      · rw [if_pos hc]
      · rw [if_neg hc1]
        show (if J = (zk_sd i - 2) * zk_sd i + (zk_sd i - 2) then (1 : Int32) else if J = (zk_sd i - 1) * zk_sd i + (zk_sd i - 1) then 1 else zk_Bt w (zk_LL i) J) = _
        rw [if_neg (show ¬ J = (zk_sd i - 2) * zk_sd i + (zk_sd i - 2) from fun q => hc2 (q ▸ h1)), if_neg (show ¬ J = (zk_sd i - 1) * zk_sd i + (zk_sd i - 1) from fun q => hc1 (q ▸ h1))]
    rw [e3, h4, h3, if_neg (nI_pos (by omega))]
    exact zk_rel_in hw hv
/-- a table's number is free, or names a word among 72 -/
theorem zk_T_in {i : Nat} (hi : i < 4) (j : Nat) : zk_T (zk_LL i) j < 0 ∨ vp_in (zk_T (zk_LL i) j >>> ((3 : Int32) &&& 31)) 72 := by
  have hs : zk_sd i ≤ 14 := by simp only [zk_sd]; omega
  have hss : zk_sd i * zk_sd i ≤ 196 := Nat.mul_le_mul hs hs
  have hLl : (zk_LL i).length ≤ 196 := by rw [zk_LL_len hi]; omega
  rcases zk_TB (fun _ => 0) j (zk_LL i) with ⟨h1, h2, h3⟩ | ⟨h1, v, h2, h3, h4⟩
  · rw [h2]
    exact Or.inl (by decide)
  · rw [h3, zk_shr3 (by omega)]
    exact Or.inr (vp_in_nI (by omega) (by omega))
end
section
/-! the JDK's methods that are reached -/
set_option maxRecDepth 100000

set_option maxHeartbeats 4000000 in
set_option maxRecDepth 100000 in
theorem metJ2_checkIndex (l : Launch) (D : va_G) (tB tC tI : ClassId) (sz : Nat) (i0 n0 : Int32) (fv : Value) (hfv : fv = .null ∨ ∃ t : Nat, fv = .ref t) (h0 : ¬ i0 < 0) (h1 : i0 < n0) : zk_Mi l yJ2_checkIndex cJ2_checkIndex 3 (some .int) 0 0 D tB tC tI [.int i0, .int n0, fv] [] (fun (r : Int32) (_ : Unit) => r = i0) (fun (_ : Unit) => []) 0 0 sz := by
  rcases hfv with e0 | ⟨t0, e0⟩ <;> subst e0
  · refine zk_openI (by decide) (Nat.le_of_ble_eq_true rfl) (fun p e s m args below meth c ls A Q CX hr hnm hQ hsz hP hD hS hl => ?_)
    obtain ⟨hx, hb, hml, hown, hts, hA, hK, hZ, hlocks⟩ := id CX
    have hown : s.vm.findClass RJ2 = some m.cls := hown
    have hl : lv_has ls 3 [(0, .int i0), (1, .int n0), (2, .null)] := hl
    refine lv_iload_n hx hb dJ2_checkIndex_0 rfl (lv_at hl 0 rfl) ?_
    refine lv_if_lt (tgt := 9) hx hb dJ2_checkIndex_1 (by decide) (fun h_ => absurd h_ h0) (fun h_ => ?_)
    refine lv_iload_n hx hb dJ2_checkIndex_4 rfl (lv_at hl 0 rfl) ?_
    refine lv_iload_n hx hb dJ2_checkIndex_5 rfl (lv_at hl 1 rfl) ?_
    refine lv_icmp_lt (tgt := 16) hx hb dJ2_checkIndex_6 (by decide) (fun h_ => ?_) (fun h_ => absurd h1 h_)
    refine lv_iload_n hx hb dJ2_checkIndex_16 rfl (lv_at hl 0 rfl) ?_
    exact zk_iret CX hQ hr rfl hP hD hS () rfl [] rfl rfl (Nat.le_of_ble_eq_true rfl) (Nat.le_of_ble_eq_true rfl) dJ2_checkIndex_17
  · refine zk_openI (by decide) (Nat.le_of_ble_eq_true rfl) (fun p e s m args below meth c ls A Q CX hr hnm hQ hsz hP hD hS hl => ?_)
    obtain ⟨hx, hb, hml, hown, hts, hA, hK, hZ, hlocks⟩ := id CX
    have hown : s.vm.findClass RJ2 = some m.cls := hown
    have hl : lv_has ls 3 [(0, .int i0), (1, .int n0), (2, .ref t0)] := hl
    refine lv_iload_n hx hb dJ2_checkIndex_0 rfl (lv_at hl 0 rfl) ?_
    refine lv_if_lt (tgt := 9) hx hb dJ2_checkIndex_1 (by decide) (fun h_ => absurd h_ h0) (fun h_ => ?_)
    refine lv_iload_n hx hb dJ2_checkIndex_4 rfl (lv_at hl 0 rfl) ?_
    refine lv_iload_n hx hb dJ2_checkIndex_5 rfl (lv_at hl 1 rfl) ?_
    refine lv_icmp_lt (tgt := 16) hx hb dJ2_checkIndex_6 (by decide) (fun h_ => ?_) (fun h_ => absurd h1 h_)
    refine lv_iload_n hx hb dJ2_checkIndex_16 rfl (lv_at hl 0 rfl) ?_
    exact zk_iret CX hQ hr rfl hP hD hS () rfl [] rfl rfl (Nat.le_of_ble_eq_true rfl) (Nat.le_of_ble_eq_true rfl) dJ2_checkIndex_17

set_option maxHeartbeats 4000000 in
set_option maxRecDepth 100000 in
theorem metJ0_checkIndex (l : Launch) (D : va_G) (tB tC tI : ClassId) (sz : Nat) (i0 n0 : Int32) (h0 : ¬ i0 < 0) (h1 : i0 < n0) : zk_Mv l yJ0_checkIndex cJ0_checkIndex 2 none 1 22 D tB tC tI [.int i0, .int n0] [] (fun (_ : Unit) => True) (fun (_ : Unit) => []) 0 0 sz := by
  refine zk_openV (by decide) (Nat.le_of_ble_eq_true rfl) (fun p e s m args below meth c ls A Q CX hr hnm hQ hsz hP hD hS hl => ?_)
  obtain ⟨hx, hb, hml, hown, hts, hA, hK, hZ, hlocks⟩ := id CX
  have hown : s.vm.findClass RJ0 = some m.cls := hown
  have hl : lv_has ls 2 [(0, .int i0), (1, .int n0)] := hl
  refine lv_iload_n hx hb dJ0_checkIndex_0 rfl (lv_at hl 0 rfl) ?_
  refine lv_iload_n hx hb dJ0_checkIndex_1 rfl (lv_at hl 1 rfl) ?_
  rcases hZ.2.1 with hz | ⟨t0, hz⟩
  · refine va_gets (v := .null) hx hb hz hS hown (hts _ q79) (fun _ h9 => h9) dJ0_checkIndex_2 ?_
    refine zk_Si CX hP hD hS ([]) [] [] (metJ2_checkIndex l D tB tC tI _ i0 n0 .null (Or.inl rfl) h0 h1) (lw_S q172 q173 q13 q174) 3 (by decide +kernel) rfl hl.1 rfl (Nat.le_of_ble_eq_true rfl) dJ0_checkIndex_5 ⟨Nat.le_of_ble_eq_true rfl, Nat.le_of_ble_eq_true rfl⟩ ⟨Nat.le_of_ble_eq_true rfl, Nat.le_of_ble_eq_true rfl⟩ rfl rfl rfl rfl (by decide) (fun r_0 _ H locs hw hP hD hS => ?_)
    have hP : va_P D zk_cl [] H := hP
    have hD : va_D A [] := hD
    refine lv_pop hx hb dJ0_checkIndex_8 rfl ?_
    exact zk_vret CX hQ hr hP hD hS () trivial [] rfl rfl (Nat.le_of_ble_eq_true rfl) (Nat.le_of_ble_eq_true rfl) dJ0_checkIndex_9
  · refine va_gets (v := .ref t0) hx hb hz hS hown (hts _ q79) (fun _ h9 => h9) dJ0_checkIndex_2 ?_
    refine zk_Si CX hP hD hS ([]) [] [] (metJ2_checkIndex l D tB tC tI _ i0 n0 (.ref t0) (Or.inr ⟨t0, rfl⟩) h0 h1) (lw_S q172 q173 q13 q174) 3 (by decide +kernel) rfl hl.1 rfl (Nat.le_of_ble_eq_true rfl) dJ0_checkIndex_5 ⟨Nat.le_of_ble_eq_true rfl, Nat.le_of_ble_eq_true rfl⟩ ⟨Nat.le_of_ble_eq_true rfl, Nat.le_of_ble_eq_true rfl⟩ rfl rfl rfl rfl (by decide) (fun r_0 _ H locs hw hP hD hS => ?_)
    have hP : va_P D zk_cl [] H := hP
    have hD : va_D A [] := hD
    refine lv_pop hx hb dJ0_checkIndex_8 rfl ?_
    exact zk_vret CX hQ hr hP hD hS () trivial [] rfl rfl (Nat.le_of_ble_eq_true rfl) (Nat.le_of_ble_eq_true rfl) dJ0_checkIndex_9

set_option maxHeartbeats 4000000 in
set_option maxRecDepth 100000 in
theorem metJ4_charAt (l : Launch) (D : va_G) (tB tC tI : ClassId) (sz : Nat) (qg N : Nat) (f : Nat → Int32) (i0 : Int32) (hin : vp_in i0 N) (hN : N < 2 ^ 31) : zk_Mi l yJ4_charAt cJ4_charAt 2 (some .char) 2 43 D tB tC tI [.ref qg, .int i0] [(qg, .inl (tB, N, .inl f))] (fun (r : Int32) (_ : Unit) => r = f i0.toNatClampNeg &&& 255) (fun (_ : Unit) => [(qg, .inl (tB, N, .inl f))]) 0 0 sz := by
  refine zk_openI (by decide) (Nat.le_of_ble_eq_true rfl) (fun p e s m args below meth c ls A Q CX hr hnm hQ hsz hP hD hS hl => ?_)
  obtain ⟨hx, hb, hml, hown, hts, hA, hK, hZ, hlocks⟩ := id CX
  have hown : s.vm.findClass RJ4 = some m.cls := hown
  have hl : lv_has ls 2 [(0, .ref qg), (1, .int i0)] := hl
  obtain ⟨j0, hj0, ei0⟩ := vp_in_of hin hN
  refine lv_iload_n hx hb dJ4_charAt_0 rfl (lv_at hl 1 rfl) ?_
  refine lv_aload_n hx hb dJ4_charAt_1 rfl (lv_at hl 0 rfl) ?_
  refine va_alen (v := Int32.ofNat N) hx hb hK hP 0 0 rfl rfl rfl dJ4_charAt_2 ?_
  refine zk_Sv CX hP hD hS ([(qg, .inl (tB, N, .inl f))]) [] [0] (metJ0_checkIndex l D tB tC tI _ i0 (Int32.ofNat N) (by rw [ei0]; exact nI_pos (by omega)) (by rw [ei0]; exact nI_lt hj0 hN)) (lw_S q169 q170 q11 q171) 2 (by decide +kernel) rfl hl.1 rfl (Nat.le_of_ble_eq_true rfl) dJ4_charAt_3 ⟨Nat.le_of_ble_eq_true rfl, Nat.le_of_ble_eq_true rfl⟩ ⟨Nat.le_of_ble_eq_true rfl, Nat.le_of_ble_eq_true rfl⟩ rfl rfl rfl rfl (by decide) (fun _ H locs hw hP hD hS => ?_)
  have hP : va_P D zk_cl [(qg, .inl (tB, N, .inl f))] H := hP
  have hD : va_D A [(qg, .inl (tB, N, .inl f))] := hD
  refine lv_aload_n hx hb dJ4_charAt_6 rfl (lv_at hl 0 rfl) ?_
  refine lv_iload_n hx hb dJ4_charAt_7 rfl (lv_at hl 1 rfl) ?_
  refine va_bald hx hb hK hP 0 0 rfl rfl hin dJ4_charAt_8 ?_
  refine lv_sipush (v := 255) hx hb dJ4_charAt_9 (by decide) ?_
  refine lv_iand hx hb dJ4_charAt_12 ?_
  refine lv_i2c (v := f i0.toNatClampNeg &&& 255) hx hb dJ4_charAt_13 (sc_c2 _) ?_
  exact zk_iret CX hQ hr (sc_nar _) hP hD hS () rfl [0] rfl rfl (Nat.le_of_ble_eq_true rfl) (Nat.le_of_ble_eq_true rfl) dJ4_charAt_14

set_option maxHeartbeats 4000000 in
set_option maxRecDepth 100000 in
theorem metJ0_isLatin1 (l : Launch) (D : va_G) (tB tC tI : ClassId) (sz : Nat) (qs qg : Nat) : zk_Mi l yJ0_isLatin1 cJ0_isLatin1 1 (some .boolean) 0 0 D tB tC tI [.ref qs] [(qs, .inr (3, [.ref qg, .int 0, .int 0, .int 0]))] (fun (r : Int32) (_ : Unit) => r = 1) (fun (_ : Unit) => [(qs, .inr (3, [.ref qg, .int 0, .int 0, .int 0]))]) 0 0 sz := by
  refine zk_openI (by decide) (Nat.le_of_ble_eq_true rfl) (fun p e s m args below meth c ls A Q CX hr hnm hQ hsz hP hD hS hl => ?_)
  obtain ⟨hx, hb, hml, hown, hts, hA, hK, hZ, hlocks⟩ := id CX
  have hown : s.vm.findClass RJ0 = some m.cls := hown
  have hl : lv_has ls 1 [(0, .ref qs)] := hl
  refine va_gets (v := .int 1) hx hb hZ.1 hS hown (hts _ q37) (fun _ h9 => h9) dJ0_isLatin1_0 ?_
  refine lv_if_eq (tgt := 17) hx hb dJ0_isLatin1_3 (by decide) (fun h_ => absurd h_ (by decide)) (fun h_ => ?_)
  refine lv_aload_n hx hb dJ0_isLatin1_6 rfl (lv_at hl 0 rfl) ?_
  refine va_get (D := D) (ci := 3) (v := .int 0) (C := RJ0) (T := TJ0) (N := 4) hx hb hts in_J0 hown hK hP 0 rfl rfl 1 (by decide) (hts _ q89) (fun _ h9 => h9) rfl dJ0_isLatin1_7 ?_
  refine lv_if_ne (tgt := 17) hx hb dJ0_isLatin1_10 (by decide) (fun h_ => absurd rfl h_) (fun h_ => ?_)
  refine lv_iconst (v := 1) hx hb dJ0_isLatin1_13 (by decide) ?_
  refine lv_goto (tgt := 18) hx hb dJ0_isLatin1_14 (by decide) ?_
  exact zk_iret CX hQ hr rfl hP hD hS () rfl [0] rfl rfl (Nat.le_of_ble_eq_true rfl) (Nat.le_of_ble_eq_true rfl) dJ0_isLatin1_18

set_option maxHeartbeats 4000000 in
set_option maxRecDepth 100000 in
theorem metJ0_charAt (l : Launch) (D : va_G) (tB tC tI : ClassId) (sz : Nat) (qs qg N : Nat) (f : Nat → Int32) (i0 : Int32) (hin : vp_in i0 N) (hN : N < 2 ^ 31) : zk_Mi l yJ0_charAt cJ0_charAt 2 (some .char) 3 64 D tB tC tI [.ref qs, .int i0] [(qs, .inr (3, [.ref qg, .int 0, .int 0, .int 0])), (qg, .inl (tB, N, .inl f))] (fun (r : Int32) (_ : Unit) => r = f i0.toNatClampNeg &&& 255) (fun (_ : Unit) => [(qs, .inr (3, [.ref qg, .int 0, .int 0, .int 0])), (qg, .inl (tB, N, .inl f))]) 0 0 sz := by
  refine zk_openI (by decide) (Nat.le_of_ble_eq_true rfl) (fun p e s m args below meth c ls A Q CX hr hnm hQ hsz hP hD hS hl => ?_)
  obtain ⟨hx, hb, hml, hown, hts, hA, hK, hZ, hlocks⟩ := id CX
  have hown : s.vm.findClass RJ0 = some m.cls := hown
  have hl : lv_has ls 2 [(0, .ref qs), (1, .int i0)] := hl
  refine lv_aload_n hx hb dJ0_charAt_0 rfl (lv_at hl 0 rfl) ?_
  refine zk_Vi CX hP hD hS ([(qg, .inl (tB, N, .inl f))]) [0] [1] (metJ0_isLatin1 l D tB tC tI _ qs qg) (lw_V q162 q163 q164 q11 q165) 0 3 0 rfl rfl rfl (by decide +kernel) rfl hl.1 rfl (Nat.le_of_ble_eq_true rfl) dJ0_charAt_1 ⟨Nat.le_of_ble_eq_true rfl, Nat.le_of_ble_eq_true rfl⟩ ⟨Nat.le_of_ble_eq_true rfl, Nat.le_of_ble_eq_true rfl⟩ rfl rfl rfl rfl (by decide) (fun r_1 _ H locs hw hP hD hS => ?_)
  have hP : va_P D zk_cl [(qg, .inl (tB, N, .inl f)), (qs, .inr (3, [.ref qg, .int 0, .int 0, .int 0]))] H := hP
  have hD : va_D A [(qg, .inl (tB, N, .inl f)), (qs, .inr (3, [.ref qg, .int 0, .int 0, .int 0]))] := hD
  refine lv_if_eq (tgt := 16) hx hb dJ0_charAt_4 (by decide) (fun h_ => absurd h_ (by rw [hw]; decide)) (fun h_ => ?_)
  refine lv_aload_n hx hb dJ0_charAt_7 rfl (lv_at hl 0 rfl) ?_
  refine va_get (D := D) (ci := 3) (v := .ref qg) (C := RJ0) (T := TJ0) (N := 4) hx hb hts in_J0 hown hK hP 1 rfl rfl 0 (by decide) (hts _ q88) (fun _ h9 => h9) rfl dJ0_charAt_8 ?_
  refine lv_iload_n hx hb dJ0_charAt_11 rfl (lv_at hl 1 rfl) ?_
  refine zk_Si CX hP hD hS ([(qs, .inr (3, [.ref qg, .int 0, .int 0, .int 0]))]) [0] [1] (metJ4_charAt l D tB tC tI _ qg N f i0 hin hN) (lw_S q166 q167 q16 q168) 2 (by decide +kernel) rfl hl.1 rfl (Nat.le_of_ble_eq_true rfl) dJ0_charAt_12 ⟨Nat.le_of_ble_eq_true rfl, Nat.le_of_ble_eq_true rfl⟩ ⟨Nat.le_of_ble_eq_true rfl, Nat.le_of_ble_eq_true rfl⟩ rfl rfl rfl rfl (by decide) (fun r_2 _ H locs hw2 hP hD hS => ?_)
  have hP : va_P D zk_cl [(qs, .inr (3, [.ref qg, .int 0, .int 0, .int 0])), (qg, .inl (tB, N, .inl f))] H := hP
  have hD : va_D A [(qs, .inr (3, [.ref qg, .int 0, .int 0, .int 0])), (qg, .inl (tB, N, .inl f))] := hD
  exact zk_iret CX hQ hr (by rw [hw2]; exact sc_nar _) hP hD hS () hw2 [0, 1] rfl rfl (Nat.le_of_ble_eq_true rfl) (Nat.le_of_ble_eq_true rfl) dJ0_charAt_15

set_option maxHeartbeats 4000000 in
set_option maxRecDepth 100000 in
theorem metJ1_coderFromArrayLen (l : Launch) (D : va_G) (tB tC tI : ClassId) (sz : Nat) (qg : Nat) (f : Nat → Int32) : zk_Mi l yJ1_coderFromArrayLen cJ1_coderFromArrayLen 2 (some .byte) 0 0 D tB tC tI [.ref qg, .int 72] [(qg, .inl (tB, 72, .inl f))] (fun (r : Int32) (_ : Unit) => r = 0) (fun (_ : Unit) => [(qg, .inl (tB, 72, .inl f))]) 0 0 sz := by
  refine zk_openI (by decide) (Nat.le_of_ble_eq_true rfl) (fun p e s m args below meth c ls A Q CX hr hnm hQ hsz hP hD hS hl => ?_)
  obtain ⟨hx, hb, hml, hown, hts, hA, hK, hZ, hlocks⟩ := id CX
  have hown : s.vm.findClass RJ1 = some m.cls := hown
  have hl : lv_has ls 2 [(0, .ref qg), (1, .int 72)] := hl
  refine lv_iload_n hx hb dJ1_coderFromArrayLen_0 rfl (lv_at hl 1 rfl) ?_
  refine lv_aload_n hx hb dJ1_coderFromArrayLen_1 rfl (lv_at hl 0 rfl) ?_
  refine va_alen (v := 72) hx hb hK hP 0 0 rfl rfl rfl dJ1_coderFromArrayLen_2 ?_
  refine lv_isub hx hb dJ1_coderFromArrayLen_3 ?_
  refine lv_bipush (v := 31) hx hb dJ1_coderFromArrayLen_4 (by decide) ?_
  refine lv_iushr (v := 0) hx hb dJ1_coderFromArrayLen_6 (by decide) ?_
  refine lv_i2b (v := 0) hx hb dJ1_coderFromArrayLen_7 (by decide) ?_
  exact zk_iret CX hQ hr rfl hP hD hS () rfl [0] rfl rfl (Nat.le_of_ble_eq_true rfl) (Nat.le_of_ble_eq_true rfl) dJ1_coderFromArrayLen_8

set_option maxHeartbeats 4000000 in
set_option maxRecDepth 100000 in
theorem metJ1_compress_2 (l : Launch) (D : va_G) (tB tC tI : ClassId) (sz : Nat) (qc qg : Nat) (w : Nat → Int32) (hw0 : zk_W w) : zk_Mi l yJ1_compress_2 cJ1_compress_2 7 (some .int) 0 0 D tB tC tI [.ref qc, .int 0, .ref qg, .int 0, .int 72] [(qc, .inl (tC, 72, .inl w)), (qg, .inl (tB, 72, .inl (zk_G w 0)))] (fun (r : Int32) (_ : Unit) => r = 72) (fun (_ : Unit) => [(qc, .inl (tC, 72, .inl w)), (qg, .inl (tB, 72, .inl (zk_G w 72)))]) 0 0 sz := by
  refine zk_openI (by decide) (Nat.le_of_ble_eq_true rfl) (fun p e s m args below meth c ls A Q CX hr hnm hQ hsz hP hD hS hl => ?_)
  obtain ⟨hx, hb, hml, hown, hts, hA, hK, hZ, hlocks⟩ := id CX
  have hown : s.vm.findClass RJ1 = some m.cls := hown
  have hl : lv_has ls 7 [(0, .ref qc), (1, .int 0), (2, .ref qg), (3, .int 0), (4, .int 72)] := hl
  refine lv_iconst (v := 0) hx hb dJ1_compress_2_0 (by decide) ?_
  refine lv_istore (lv' := [(5, .int 0), (0, .ref qc), (1, .int 0), (2, .ref qg), (3, .int 0), (4, .int 72)]) hx hb dJ1_compress_2_1 hl (by decide) rfl (fun ls hl => ?_)
  have LOOP : ∀ (k i : Nat) (x : Int32) (H : Heap) (locs : List Loc) (ls : Array Slot), 72 ≤ i + k → i ≤ 72 → x = nI i → va_P D zk_cl [(qc, .inl (tC, 72, .inl w)), (qg, .inl (tB, 72, .inl (zk_G w i)))] H → va_D A [(qc, .inl (tC, 72, .inl w)), (qg, .inl (tB, 72, .inl (zk_G w i)))] → va_S A s.heap H locs → lv_has ls 7 [(5, .int x), (3, .int x), (1, .int x), (0, .ref qc), (2, .ref qg), (4, .int 72)] → W p l e ({ frames := 0, cells := 0, slots := 0, locals := 0 } : Room) s m args below meth c H locs 0 0 Q (F0 m 3 ls []) := by
    intro k
    induction k with
    | zero =>
      intro i x H locs ls hk hi ex hP hD hS hl
      refine lv_iload hx hb dJ1_compress_2_3 (lv_at hl 0 rfl) ?_
      refine lv_iload hx hb dJ1_compress_2_5 (lv_at hl 5 rfl) ?_
      refine lv_icmp_ge (tgt := 44) hx hb dJ1_compress_2_7 (by decide) (fun h_ => ?_) (fun h_ => ?_)
      · have hi72 : i = 72 := by
          rcases Nat.lt_or_ge i 72 with q | q
          · rw [ex] at h_; exact absurd h_ (Int32.not_le.mpr (nI_lt (b := 72) q (by omega)))
          · omega
        subst hi72
        refine lv_iload hx hb dJ1_compress_2_44 (lv_at hl 5 rfl) ?_
        exact zk_iret CX hQ hr rfl hP hD hS () rfl [0, 1] rfl rfl (Nat.le_of_ble_eq_true rfl) (Nat.le_of_ble_eq_true rfl) dJ1_compress_2_46
      · exact absurd (by rw [ex]; exact nI_le (a := 72) (by omega) (by omega)) h_
    | succ k ih =>
      intro i x H locs ls hk hi ex hP hD hS hl
      refine lv_iload hx hb dJ1_compress_2_3 (lv_at hl 0 rfl) ?_
      refine lv_iload hx hb dJ1_compress_2_5 (lv_at hl 5 rfl) ?_
      refine lv_icmp_ge (tgt := 44) hx hb dJ1_compress_2_7 (by decide) (fun h_ => ?_) (fun h_ => ?_)
      · have hi72 : i = 72 := by
          rcases Nat.lt_or_ge i 72 with q | q
          · rw [ex] at h_; exact absurd h_ (Int32.not_le.mpr (nI_lt (b := 72) q (by omega)))
          · omega
        subst hi72
        refine lv_iload hx hb dJ1_compress_2_44 (lv_at hl 5 rfl) ?_
        exact zk_iret CX hQ hr rfl hP hD hS () rfl [0, 1] rfl rfl (Nat.le_of_ble_eq_true rfl) (Nat.le_of_ble_eq_true rfl) dJ1_compress_2_46
      · have hlt : i < 72 := by
          rcases Nat.lt_or_ge i 72 with q | q
          · exact q
          · exact absurd (by rw [ex]; exact nI_le (a := 72) q (by omega)) h_
        have hin : vp_in x 72 := by rw [ex]; exact vp_in_nI hlt (by omega)
        have hcl : x.toNatClampNeg = i := by rw [ex]; exact nI_clamp (by omega)
        obtain ⟨kc, hkc, ekc⟩ := hw0 i hlt
        refine lv_aload_n hx hb dJ1_compress_2_10 rfl (lv_at hl 3 rfl) ?_
        refine lv_iload_n hx hb dJ1_compress_2_11 rfl (lv_at hl 2 rfl) ?_
        refine va_cald hx hb hK hP 0 1 rfl rfl hin dJ1_compress_2_12 ?_
        refine lv_topi (fun v_ ev_ => ?_)
        have ev : v_ = nI kc := by rw [ev_, hcl]; exact ekc
        refine lv_istore (lv' := [(6, .int v_), (5, .int x), (3, .int x), (1, .int x), (0, .ref qc), (2, .ref qg), (4, .int 72)]) hx hb dJ1_compress_2_13 hl (by decide) rfl (fun ls hl => ?_)
        refine lv_iload hx hb dJ1_compress_2_15 (lv_at hl 0 rfl) ?_
        refine lv_sipush (v := 255) hx hb dJ1_compress_2_17 (by decide) ?_
        refine lv_icmp_le (tgt := 26) hx hb dJ1_compress_2_20 (by decide) (fun h_ => ?_) (fun h_ => absurd (by rw [ev]; exact nI_le (b := 255) (by omega) (by omega)) h_)
        refine lv_aload_n hx hb dJ1_compress_2_26 rfl (lv_at hl 5 rfl) ?_
        refine lv_iload_n hx hb dJ1_compress_2_27 rfl (lv_at hl 2 rfl) ?_
        refine lv_iload hx hb dJ1_compress_2_28 (lv_at hl 0 rfl) ?_
        refine lv_i2b (v := v_.toInt8.toInt32) hx hb dJ1_compress_2_30 rfl ?_
        refine va_bast hx hb hK hP hD hS 1 0 rfl rfl hin dJ1_compress_2_31 (fun H locs hP hD hS => ?_)
        have hP : va_P D zk_cl [(qc, .inl (tC, 72, .inl w)), (qg, .inl (tB, 72, .inl (upd (zk_G w i) x.toNatClampNeg (vp_nar .byte v_.toInt8.toInt32))))] H := hP
        have hD : va_D A [(qc, .inl (tC, 72, .inl w)), (qg, .inl (tB, 72, .inl (upd (zk_G w i) x.toNatClampNeg (vp_nar .byte v_.toInt8.toInt32))))] := hD
        have ef_ : upd (zk_G w i) x.toNatClampNeg (vp_nar .byte v_.toInt8.toInt32) = zk_G w (i + 1) := zk_G_upd hcl (by rw [pk_vb, ev_, hcl])
        rw [ef_] at hP hD
        clear ef_
        refine lv_iinc (v := x + 1) (lv' := [(1, .int (x + 1)), (6, .int v_), (5, .int x), (3, .int x), (0, .ref qc), (2, .ref qg), (4, .int 72)]) hx hb dJ1_compress_2_32 hl (k := 3) rfl rfl (by decide) rfl (fun ls hl => ?_)
        refine lv_iinc (v := x + 1) (lv' := [(3, .int (x + 1)), (1, .int (x + 1)), (6, .int v_), (5, .int x), (0, .ref qc), (2, .ref qg), (4, .int 72)]) hx hb dJ1_compress_2_35 hl (k := 3) rfl rfl (by decide) rfl (fun ls hl => ?_)
        refine lv_iinc (v := x + 1) (lv' := [(5, .int (x + 1)), (3, .int (x + 1)), (1, .int (x + 1)), (6, .int v_), (0, .ref qc), (2, .ref qg), (4, .int 72)]) hx hb dJ1_compress_2_38 hl (k := 3) rfl rfl (by decide) rfl (fun ls hl => ?_)
        refine lv_goto (tgt := 3) hx hb dJ1_compress_2_41 (by decide) ?_
        exact ih (i + 1) (x + 1) _ _ _ (by omega) (by omega) (by rw [ex]; exact nI_1 i) hP hD hS (lv_sub hl [0, 1, 2, 4, 5, 6] rfl)
  exact LOOP 72 0 0 _ _ _ (by omega) (by omega) nI_0.symm hP hD hS (lv_sub hl [0, 4, 2, 1, 3, 5] rfl)

set_option maxHeartbeats 4000000 in
set_option maxRecDepth 100000 in
theorem metJ1_compress (l : Launch) (D : va_G) (tB tC tI : ClassId) (sz : Nat) (qc : Nat) (w : Nat → Int32) (hw0 : zk_W w) : zk_Mr l yJ1_compress cJ1_compress 6 (some (.array .byte)) 1 26 D tB tC tI [.ref qc, .int 0, .int 72] [(qc, .inl (tC, 72, .inl w))] (fun (_ : Unit) => True) (fun (_ : Unit) (qg : Nat) => [(qc, .inl (tC, 72, .inl w)), (qg, .inl (tB, 72, .inl (zk_G w 72)))]) 1 72 sz := by
  refine zk_openR (by decide) (Nat.le_of_ble_eq_true rfl) (fun p e s m args below meth c ls A Q CX hr hnm hQ hsz hP hD hS hl => ?_)
  obtain ⟨hx, hb, hml, hown, hts, hA, hK, hZ, hlocks⟩ := id CX
  have hown : s.vm.findClass RJ1 = some m.cls := hown
  have hl : lv_has ls 6 [(0, .ref qc), (1, .int 0), (2, .int 72)] := hl
  refine lv_iload_n hx hb dJ1_compress_0 rfl (lv_at hl 2 rfl) ?_
  refine zk_newB (N' := 72) CX hP hD hS (by decide) (by decide) (Nat.le_of_ble_eq_true rfl) (Nat.le_of_ble_eq_true rfl) (Nat.le_of_ble_eq_true rfl) dJ1_compress_1 (fun qg H hP hD hS => ?_)
  have hP : va_P D zk_cl [(qc, .inl (tC, 72, .inl w)), (qg, .inl (tB, 72, .inl (fun _ => 0)))] H := hP
  have hD : va_D A [(qc, .inl (tC, 72, .inl w)), (qg, .inl (tB, 72, .inl (fun _ => 0)))] := hD
  refine W.widen (k := 1) (n := 0 + 72) (Nat.le_of_ble_eq_true rfl) (Nat.le_of_ble_eq_true rfl) ?_
  have hP : va_P D zk_cl [(qc, .inl (tC, 72, .inl w)), (qg, .inl (tB, 72, .inl (zk_G w 0)))] H := hP
  have hD : va_D A [(qc, .inl (tC, 72, .inl w)), (qg, .inl (tB, 72, .inl (zk_G w 0)))] := hD
  refine lv_astore_n (lv' := [(3, .ref qg), (0, .ref qc), (1, .int 0), (2, .int 72)]) hx hb dJ1_compress_3 rfl hl (by decide) rfl (fun ls hl => ?_)
  refine lv_aload_n hx hb dJ1_compress_4 rfl (lv_at hl 1 rfl) ?_
  refine lv_iload_n hx hb dJ1_compress_5 rfl (lv_at hl 2 rfl) ?_
  refine lv_aload_n hx hb dJ1_compress_6 rfl (lv_at hl 0 rfl) ?_
  refine lv_iconst (v := 0) hx hb dJ1_compress_7 (by decide) ?_
  refine lv_iload_n hx hb dJ1_compress_8 rfl (lv_at hl 3 rfl) ?_
  refine zk_Si CX hP hD hS ([]) [0, 1] [] (metJ1_compress_2 l D tB tC tI _ qc qg w hw0) (lw_S q42 q43 q12 q44) 5 (by decide +kernel) rfl hl.1 rfl (Nat.le_of_ble_eq_true rfl) dJ1_compress_9 ⟨Nat.le_of_ble_eq_true rfl, Nat.le_of_ble_eq_true rfl⟩ ⟨Nat.le_of_ble_eq_true rfl, Nat.le_of_ble_eq_true rfl⟩ rfl rfl rfl rfl (by decide) (fun r_1 _ H locs hw hP hD hS => ?_)
  have hP : va_P D zk_cl [(qc, .inl (tC, 72, .inl w)), (qg, .inl (tB, 72, .inl (zk_G w 72)))] H := hP
  have hD : va_D A [(qc, .inl (tC, 72, .inl w)), (qg, .inl (tB, 72, .inl (zk_G w 72)))] := hD
  subst hw
  refine lv_istore (lv' := [(4, .int 72), (3, .ref qg), (0, .ref qc), (1, .int 0), (2, .int 72)]) hx hb dJ1_compress_12 hl (by decide) rfl (fun ls hl => ?_)
  refine lv_iload hx hb dJ1_compress_14 (lv_at hl 0 rfl) ?_
  refine lv_iload_n hx hb dJ1_compress_16 rfl (lv_at hl 4 rfl) ?_
  refine lv_icmp_eq (tgt := 57) hx hb dJ1_compress_17 (by decide) (fun h_ => ?_) (fun h_ => absurd rfl h_)
  refine lv_aload_n hx hb dJ1_compress_57 rfl (lv_at hl 1 rfl) ?_
  exact zk_aret CX hQ hr (Or.inr ⟨_, rfl⟩) hP hD hS () trivial [0, 1] rfl rfl (Nat.le_of_ble_eq_true rfl) (Nat.le_of_ble_eq_true rfl) dJ1_compress_58

set_option maxHeartbeats 4000000 in
set_option maxRecDepth 100000 in
theorem metJ0_init_2 (l : Launch) (D : va_G) (tB tC tI : ClassId) (sz : Nat) (qs qc : Nat) (w : Nat → Int32) (hw0 : zk_W w) : zk_Mv l yJ0_init_2 cJ0_init_2 6 none 2 51 D tB tC tI [.ref qs, .ref qc, .int 0, .int 72, .null] [(qs, .inr (3, [.null, .int 0, .int 0, .int 0])), (qc, .inl (tC, 72, .inl w))] (fun (_ : Nat) => True) (fun (qg : Nat) => [(qs, .inr (3, [.ref qg, .int 0, .int 0, .int 0])), (qg, .inl (tB, 72, .inl (zk_G w 72))), (qc, .inl (tC, 72, .inl w))]) 1 72 sz := by
  refine zk_openV (by decide) (Nat.le_of_ble_eq_true rfl) (fun p e s m args below meth c ls A Q CX hr hnm hQ hsz hP hD hS hl => ?_)
  obtain ⟨hx, hb, hml, hown, hts, hA, hK, hZ, hlocks⟩ := id CX
  have hown : s.vm.findClass RJ0 = some m.cls := hown
  have hl : lv_has ls 6 [(0, .ref qs), (1, .ref qc), (2, .int 0), (3, .int 72), (4, .null)] := hl
  refine lv_aload_n hx hb dJ0_init_2_0 rfl (lv_at hl 0 rfl) ?_
  refine W.objInit hx hb hown (hts _ q35) (hts _ q23) (hts _ q24) rfl (by rw [hml]; exact hl.1) rfl dJ0_init_2_1 (Nat.le_of_ble_eq_true rfl) (Nat.le_of_ble_eq_true rfl) ?_
  refine W.eq (g2 := F0 m 4 ls []) rfl ?_
  refine lv_iload_n hx hb dJ0_init_2_4 rfl (lv_at hl 3 rfl) ?_
  refine lv_if_ne (tgt := 27) hx hb dJ0_init_2_5 (by decide) (fun h_ => ?_) (fun h_ => absurd h_ (by decide))
  refine va_gets (v := .int 1) hx hb hZ.1 hS hown (hts _ q37) (fun _ h9 => h9) dJ0_init_2_27 ?_
  refine lv_if_eq (tgt := 58) hx hb dJ0_init_2_30 (by decide) (fun h_ => absurd h_ (by decide)) (fun h_ => ?_)
  refine lv_aload_n hx hb dJ0_init_2_33 rfl (lv_at hl 1 rfl) ?_
  refine lv_iload_n hx hb dJ0_init_2_34 rfl (lv_at hl 2 rfl) ?_
  refine lv_iload_n hx hb dJ0_init_2_35 rfl (lv_at hl 3 rfl) ?_
  refine zk_Sr CX hP hD hS ([(qs, .inr (3, [.null, .int 0, .int 0, .int 0]))]) [1] [0] (metJ1_compress l D tB tC tI _ qc w hw0) (lw_S q39 q40 q12 q41) 3 (by decide +kernel) rfl hl.1 rfl (Nat.le_of_ble_eq_true rfl) dJ0_init_2_36 ⟨Nat.le_of_ble_eq_true rfl, Nat.le_of_ble_eq_true rfl⟩ ⟨Nat.le_of_ble_eq_true rfl, Nat.le_of_ble_eq_true rfl⟩ rfl rfl rfl rfl (by decide) (fun _ qg H locs hw hP hD hS => ?_)
  have hP : va_P D zk_cl [(qs, .inr (3, [.null, .int 0, .int 0, .int 0])), (qc, .inl (tC, 72, .inl w)), (qg, .inl (tB, 72, .inl (zk_G w 72)))] H := hP
  have hD : va_D A [(qs, .inr (3, [.null, .int 0, .int 0, .int 0])), (qc, .inl (tC, 72, .inl w)), (qg, .inl (tB, 72, .inl (zk_G w 72)))] := hD
  refine W.widen (k := 1) (n := 72) (Nat.le_of_ble_eq_true rfl) (Nat.le_of_ble_eq_true rfl) ?_
  refine lv_astore (lv' := [(5, .ref qg), (0, .ref qs), (1, .ref qc), (2, .int 0), (3, .int 72), (4, .null)]) hx hb dJ0_init_2_39 hl (by decide) rfl (fun ls hl => ?_)
  refine lv_aload_n hx hb dJ0_init_2_41 rfl (lv_at hl 1 rfl) ?_
  refine lv_aload hx hb dJ0_init_2_42 (lv_at hl 0 rfl) ?_
  refine lv_iload_n hx hb dJ0_init_2_44 rfl (lv_at hl 4 rfl) ?_
  refine zk_Si CX hP hD hS ([(qs, .inr (3, [.null, .int 0, .int 0, .int 0])), (qc, .inl (tC, 72, .inl w))]) [2] [0, 1] (metJ1_coderFromArrayLen l D tB tC tI _ qg (zk_G w 72)) (lw_S q84 q85 q12 q86) 2 (by decide +kernel) rfl hl.1 rfl (Nat.le_of_ble_eq_true rfl) dJ0_init_2_45 ⟨Nat.le_of_ble_eq_true rfl, Nat.le_of_ble_eq_true rfl⟩ ⟨Nat.le_of_ble_eq_true rfl, Nat.le_of_ble_eq_true rfl⟩ rfl rfl rfl rfl (by decide) (fun r_1 _ H locs hw1 hP hD hS => ?_)
  have hP : va_P D zk_cl [(qs, .inr (3, [.null, .int 0, .int 0, .int 0])), (qc, .inl (tC, 72, .inl w)), (qg, .inl (tB, 72, .inl (zk_G w 72)))] H := hP
  have hD : va_D A [(qs, .inr (3, [.null, .int 0, .int 0, .int 0])), (qc, .inl (tC, 72, .inl w)), (qg, .inl (tB, 72, .inl (zk_G w 72)))] := hD
  subst hw1
  refine va_putF (D := D) (ci := 3) (v := .int 0) (ty := .byte) (C := RJ0) (T := TJ0) (N := 4) hx hb hts in_J0 tyJ0 tyJ0_ok nmJ0 hown hK hP hD hS 0 rfl rfl 1 (by decide) (hts _ q89) (fun _ h9 => h9) rfl hnm rfl (by decide +kernel) rfl rfl (Nat.le_of_ble_eq_true rfl) dJ0_init_2_48 (fun H locs hP hD hS => ?_)
  have hP : va_P D zk_cl [(qs, .inr (3, [.null, .int 0, .int 0, .int 0])), (qc, .inl (tC, 72, .inl w)), (qg, .inl (tB, 72, .inl (zk_G w 72)))] H := hP
  have hD : va_D A [(qs, .inr (3, [.null, .int 0, .int 0, .int 0])), (qc, .inl (tC, 72, .inl w)), (qg, .inl (tB, 72, .inl (zk_G w 72)))] := hD
  refine lv_aload_n hx hb dJ0_init_2_51 rfl (lv_at hl 1 rfl) ?_
  refine lv_aload hx hb dJ0_init_2_52 (lv_at hl 0 rfl) ?_
  refine va_putF (D := D) (ci := 3) (v := .ref qg) (ty := .array .byte) (C := RJ0) (T := TJ0) (N := 4) hx hb hts in_J0 tyJ0 tyJ0_ok nmJ0 hown hK hP hD hS 0 rfl rfl 0 (by decide) (hts _ q88) (fun _ h9 => h9) rfl hnm rfl (by decide +kernel) rfl rfl (Nat.le_of_ble_eq_true rfl) dJ0_init_2_54 (fun H locs hP hD hS => ?_)
  have hP : va_P D zk_cl [(qs, .inr (3, [.ref qg, .int 0, .int 0, .int 0])), (qc, .inl (tC, 72, .inl w)), (qg, .inl (tB, 72, .inl (zk_G w 72)))] H := hP
  have hD : va_D A [(qs, .inr (3, [.ref qg, .int 0, .int 0, .int 0])), (qc, .inl (tC, 72, .inl w)), (qg, .inl (tB, 72, .inl (zk_G w 72)))] := hD
  exact zk_vret CX hQ hr hP hD hS qg trivial [0, 2, 1] rfl rfl (Nat.le_of_ble_eq_true rfl) (Nat.le_of_ble_eq_true rfl) dJ0_init_2_57

set_option maxHeartbeats 4000000 in
set_option maxRecDepth 100000 in
theorem metJ0_init (l : Launch) (D : va_G) (tB tC tI : ClassId) (sz : Nat) (qs qc : Nat) (w : Nat → Int32) (hw0 : zk_W w) : zk_Mv l yJ0_init cJ0_init 2 none 3 76 D tB tC tI [.ref qs, .ref qc] [(qs, .inr (3, [.null, .int 0, .int 0, .int 0])), (qc, .inl (tC, 72, .inl w))] (fun (_ : Nat) => True) (fun (qg : Nat) => [(qs, .inr (3, [.ref qg, .int 0, .int 0, .int 0])), (qg, .inl (tB, 72, .inl (zk_G w 72))), (qc, .inl (tC, 72, .inl w))]) 1 72 sz := by
  refine zk_openV (by decide) (Nat.le_of_ble_eq_true rfl) (fun p e s m args below meth c ls A Q CX hr hnm hQ hsz hP hD hS hl => ?_)
  obtain ⟨hx, hb, hml, hown, hts, hA, hK, hZ, hlocks⟩ := id CX
  have hown : s.vm.findClass RJ0 = some m.cls := hown
  have hl : lv_has ls 2 [(0, .ref qs), (1, .ref qc)] := hl
  refine lv_aload_n hx hb dJ0_init_0 rfl (lv_at hl 0 rfl) ?_
  refine lv_aload_n hx hb dJ0_init_1 rfl (lv_at hl 1 rfl) ?_
  refine lv_iconst (v := 0) hx hb dJ0_init_2 (by decide) ?_
  refine lv_aload_n hx hb dJ0_init_3 rfl (lv_at hl 1 rfl) ?_
  refine va_alen (v := 72) hx hb hK hP 1 1 rfl rfl rfl dJ0_init_4 ?_
  refine lv_null hx hb dJ0_init_5 ?_
  refine zk_Iv CX hP hD hS ([]) [0, 1] [] (metJ0_init_2 l D tB tC tI _ qs qc w hw0) q34 q11 q32 q33 4 rfl (by decide +kernel) rfl hl.1 rfl (Nat.le_of_ble_eq_true rfl) dJ0_init_6 ⟨Nat.le_of_ble_eq_true rfl, Nat.le_of_ble_eq_true rfl⟩ ⟨Nat.le_of_ble_eq_true rfl, Nat.le_of_ble_eq_true rfl⟩ rfl rfl rfl rfl (by decide) (fun qg H locs hw hP hD hS => ?_)
  have hP : va_P D zk_cl [(qs, .inr (3, [.ref qg, .int 0, .int 0, .int 0])), (qg, .inl (tB, 72, .inl (zk_G w 72))), (qc, .inl (tC, 72, .inl w))] H := hP
  have hD : va_D A [(qs, .inr (3, [.ref qg, .int 0, .int 0, .int 0])), (qg, .inl (tB, 72, .inl (zk_G w 72))), (qc, .inl (tC, 72, .inl w))] := hD
  refine W.widen (k := 1) (n := 72) (Nat.le_of_ble_eq_true rfl) (Nat.le_of_ble_eq_true rfl) ?_
  exact zk_vret CX hQ hr hP hD hS qg trivial [0, 1, 2] rfl rfl (Nat.le_of_ble_eq_true rfl) (Nat.le_of_ble_eq_true rfl) dJ0_init_9

set_option maxHeartbeats 4000000 in
set_option maxRecDepth 100000 in
theorem metJ3_fill (l : Launch) (D : va_G) (tB tC tI : ClassId) (sz : Nat) (qb N : Nat) (f : Nat → Int32) (hN : N ≤ 196) : zk_Mv l yJ3_fill cJ3_fill 4 none 0 0 D tB tC tI [.ref qb, .int (-1)] [(qb, .inl (tB, N, .inl f))] (fun (_ : Unit) => True) (fun (_ : Unit) => [(qb, .inl (tB, N, .inl (fun _ => -1)))]) 0 0 sz := by
  refine zk_openV (by decide) (Nat.le_of_ble_eq_true rfl) (fun p e s m args below meth c ls A Q CX hr hnm hQ hsz hP hD hS hl => ?_)
  obtain ⟨hx, hb, hml, hown, hts, hA, hK, hZ, hlocks⟩ := id CX
  have hown : s.vm.findClass RJ3 = some m.cls := hown
  have hl : lv_has ls 4 [(0, .ref qb), (1, .int (-1))] := hl
  refine lv_iconst (v := 0) hx hb dJ3_fill_0 (by decide) ?_
  refine lv_istore_n (lv' := [(2, .int 0), (0, .ref qb), (1, .int (-1))]) hx hb dJ3_fill_1 rfl hl (by decide) rfl (fun ls hl => ?_)
  refine lv_aload_n hx hb dJ3_fill_2 rfl (lv_at hl 1 rfl) ?_
  refine va_alen (v := nI N) hx hb hK hP 0 0 rfl rfl rfl dJ3_fill_3 ?_
  refine lv_istore_n (lv' := [(3, .int (nI N)), (2, .int 0), (0, .ref qb), (1, .int (-1))]) hx hb dJ3_fill_4 rfl hl (by decide) rfl (fun ls hl => ?_)
  have hP : va_P D zk_cl [(qb, .inl (tB, N, .inl (zk_fl f (-1) 0)))] s.heap := (zk_arr (k := 0) (f' := zk_fl f (-1) 0) hP hD rfl (fun j _ => (if_neg (Nat.not_lt_zero j)).symm)).1
  have hD : va_D A [(qb, .inl (tB, N, .inl (zk_fl f (-1) 0)))] := hD.set (p := 0) rfl
  have LOOP : ∀ (k i : Nat) (x : Int32) (H : Heap) (locs : List Loc) (ls : Array Slot), N ≤ i + k → i ≤ N → x = nI i → va_P D zk_cl [(qb, .inl (tB, N, .inl (zk_fl f (-1) i)))] H → va_D A [(qb, .inl (tB, N, .inl (zk_fl f (-1) i)))] → va_S A s.heap H locs → lv_has ls 4 [(2, .int x), (3, .int (nI N)), (0, .ref qb), (1, .int (-1))] → W p l e ({ frames := 0, cells := 0, slots := 0, locals := 0 } : Room) s m args below meth c H locs 0 0 Q (F0 m 5 ls []) := by
    intro k
    induction k with
    | zero =>
      intro i x H locs ls hk hi ex hP hD hS hl
      refine lv_iload_n hx hb dJ3_fill_5 rfl (lv_at hl 0 rfl) ?_
      refine lv_iload_n hx hb dJ3_fill_6 rfl (lv_at hl 1 rfl) ?_
      refine lv_icmp_ge (tgt := 20) hx hb dJ3_fill_7 (by decide) (fun h_ => ?_) (fun h_ => ?_)
      · have hiN : i = N := by
          rcases Nat.lt_or_ge i N with q | q
          · rw [ex] at h_; exact absurd h_ (Int32.not_le.mpr (nI_lt q (by omega)))
          · omega
        subst hiN
        have hP : va_P D zk_cl [(qb, .inl (tB, i, .inl (fun _ => -1)))] H := (zk_arr (k := 0) (f' := fun _ => -1) hP hD rfl (fun j hj => if_pos hj)).1
        have hD : va_D A [(qb, .inl (tB, i, .inl (fun _ => -1)))] := hD.set (p := 0) rfl
        exact zk_vret CX hQ hr hP hD hS () trivial [0] rfl rfl (Nat.le_of_ble_eq_true rfl) (Nat.le_of_ble_eq_true rfl) dJ3_fill_20
      · exact absurd (by rw [ex]; exact nI_le (by omega) (by omega)) h_
    | succ k ih =>
      intro i x H locs ls hk hi ex hP hD hS hl
      refine lv_iload_n hx hb dJ3_fill_5 rfl (lv_at hl 0 rfl) ?_
      refine lv_iload_n hx hb dJ3_fill_6 rfl (lv_at hl 1 rfl) ?_
      refine lv_icmp_ge (tgt := 20) hx hb dJ3_fill_7 (by decide) (fun h_ => ?_) (fun h_ => ?_)
      · have hiN : i = N := by
          rcases Nat.lt_or_ge i N with q | q
          · rw [ex] at h_; exact absurd h_ (Int32.not_le.mpr (nI_lt q (by omega)))
          · omega
        subst hiN
        have hP : va_P D zk_cl [(qb, .inl (tB, i, .inl (fun _ => -1)))] H := (zk_arr (k := 0) (f' := fun _ => -1) hP hD rfl (fun j hj => if_pos hj)).1
        have hD : va_D A [(qb, .inl (tB, i, .inl (fun _ => -1)))] := hD.set (p := 0) rfl
        exact zk_vret CX hQ hr hP hD hS () trivial [0] rfl rfl (Nat.le_of_ble_eq_true rfl) (Nat.le_of_ble_eq_true rfl) dJ3_fill_20
      · have hlt : i < N := by
          rcases Nat.lt_or_ge i N with q | q
          · exact q
          · exact absurd (by rw [ex]; exact nI_le q (by omega)) h_
        have hin : vp_in x N := by rw [ex]; exact vp_in_nI hlt (by omega)
        have hcl : x.toNatClampNeg = i := by rw [ex]; exact nI_clamp (by omega)
        refine lv_aload_n hx hb dJ3_fill_10 rfl (lv_at hl 2 rfl) ?_
        refine lv_iload_n hx hb dJ3_fill_11 rfl (lv_at hl 0 rfl) ?_
        refine lv_iload_n hx hb dJ3_fill_12 rfl (lv_at hl 3 rfl) ?_
        refine va_bast hx hb hK hP hD hS 0 0 rfl rfl hin dJ3_fill_13 (fun H locs hP hD hS => ?_)
        have hP : va_P D zk_cl [(qb, .inl (tB, N, .inl (upd (zk_fl f (-1) i) x.toNatClampNeg (vp_nar .byte (-1)))))] H := hP
        have hD : va_D A [(qb, .inl (tB, N, .inl (upd (zk_fl f (-1) i) x.toNatClampNeg (vp_nar .byte (-1)))))] := hD
        have ef_ : upd (zk_fl f (-1) i) x.toNatClampNeg (vp_nar .byte (-1)) = zk_fl f (-1) (i + 1) := zk_fl_upd hcl
        rw [ef_] at hP hD
        clear ef_
        refine lv_iinc (v := x + 1) (lv' := [(2, .int (x + 1)), (3, .int (nI N)), (0, .ref qb), (1, .int (-1))]) hx hb dJ3_fill_14 hl (k := 0) rfl rfl (by decide) rfl (fun ls hl => ?_)
        refine lv_goto (tgt := 5) hx hb dJ3_fill_17 (by decide) ?_
        exact ih (i + 1) (x + 1) _ _ _ (by omega) (by omega) (by rw [ex]; exact nI_1 i) hP hD hS (lv_sub hl [0, 1, 2, 3] rfl)
  exact LOOP N 0 0 _ _ _ (by omega) (by omega) nI_0.symm hP hD hS (lv_sub hl [1, 0, 2, 3] rfl)
end
section
/-! DefaultPlacement's methods but place -/
set_option maxRecDepth 100000

theorem zk_st {ks L : List Nat} {p : Nat} (i : Nat) (hL : L.length = 8 * p) (hi : i < 8) : (zk_pre ks i L).length / 8 = p ∧ (zk_pre ks i L).length % 8 + 1 = i + 1 := by
  rw [zk_pre_len, hL]
  omega
theorem zk_N31 {N : Nat} (h : N ≤ 196) {k : Nat} (hk : k < N) : k < 2 ^ 31 := by omega

set_option maxHeartbeats 4000000 in
set_option maxRecDepth 100000 in
theorem metX2_init (l : Launch) (D : va_G) (tB tC tI : ClassId) (sz : Nat) (h qs : Nat) (n : Int32) (N : Nat) (hn : n * n = nI N) (hN : N ≤ 196) : zk_Mv l yX2_init cX2_init 4 none 1 23 D tB tC tI [.ref h, .ref qs, .int n, .int n] [(h, .inr (1, [.null, .int 0, .int 0, .null]))] (fun (_ : Nat) => True) (fun (qb : Nat) => [(h, .inr (1, [.ref qs, .int n, .int n, .ref qb])), (qb, .inl (tB, N, .inl (fun _ => -1)))]) 1 196 sz := by
  refine zk_openV (by decide) (Nat.le_of_ble_eq_true rfl) (fun p e s m args below meth c ls A Q CX hr hnm hQ hsz hP hD hS hl => ?_)
  obtain ⟨hx, hb, hml, hown, hts, hA, hK, hZ, hlocks⟩ := id CX
  have hown : s.vm.findClass RX2 = some m.cls := hown
  have hl : lv_has ls 4 [(0, .ref h), (1, .ref qs), (2, .int n), (3, .int n)] := hl
  refine lv_aload_n hx hb dX2_init_0 rfl (lv_at hl 0 rfl) ?_
  refine W.objInit hx hb hown (hts _ q104) (hts _ q23) (hts _ q24) rfl (by rw [hml]; exact hl.1) rfl dX2_init_1 (Nat.le_of_ble_eq_true rfl) (Nat.le_of_ble_eq_true rfl) ?_
  refine W.eq (g2 := F0 m 4 ls []) rfl ?_
  refine lv_aload_n hx hb dX2_init_4 rfl (lv_at hl 0 rfl) ?_
  refine lv_aload_n hx hb dX2_init_5 rfl (lv_at hl 1 rfl) ?_
  refine va_putF (D := D) (ci := 1) (v := .ref qs) (ty := .object "java/lang/CharSequence") (C := RX2) (T := TX2) (N := 4) hx hb hts in_X2 tyX2 tyX2_ok nmX2 hown hK hP hD hS 0 rfl rfl 0 (by decide) (hts _ q108) (fun _ h9 => h9) rfl hnm rfl (by decide +kernel) rfl rfl (Nat.le_of_ble_eq_true rfl) dX2_init_6 (fun H locs hP hD hS => ?_)
  have hP : va_P D zk_cl [(h, .inr (1, [.ref qs, .int 0, .int 0, .null]))] H := hP
  have hD : va_D A [(h, .inr (1, [.ref qs, .int 0, .int 0, .null]))] := hD
  refine lv_aload_n hx hb dX2_init_9 rfl (lv_at hl 0 rfl) ?_
  refine lv_iload_n hx hb dX2_init_10 rfl (lv_at hl 2 rfl) ?_
  refine va_putF (D := D) (ci := 1) (v := .int n) (ty := .int) (C := RX2) (T := TX2) (N := 4) hx hb hts in_X2 tyX2 tyX2_ok nmX2 hown hK hP hD hS 0 rfl rfl 2 (by decide) (hts _ q110) (fun _ h9 => h9) rfl hnm rfl (by decide +kernel) rfl rfl (Nat.le_of_ble_eq_true rfl) dX2_init_11 (fun H locs hP hD hS => ?_)
  have hP : va_P D zk_cl [(h, .inr (1, [.ref qs, .int 0, .int n, .null]))] H := hP
  have hD : va_D A [(h, .inr (1, [.ref qs, .int 0, .int n, .null]))] := hD
  refine lv_aload_n hx hb dX2_init_14 rfl (lv_at hl 0 rfl) ?_
  refine lv_iload_n hx hb dX2_init_15 rfl (lv_at hl 3 rfl) ?_
  refine va_putF (D := D) (ci := 1) (v := .int n) (ty := .int) (C := RX2) (T := TX2) (N := 4) hx hb hts in_X2 tyX2 tyX2_ok nmX2 hown hK hP hD hS 0 rfl rfl 1 (by decide) (hts _ q109) (fun _ h9 => h9) rfl hnm rfl (by decide +kernel) rfl rfl (Nat.le_of_ble_eq_true rfl) dX2_init_16 (fun H locs hP hD hS => ?_)
  have hP : va_P D zk_cl [(h, .inr (1, [.ref qs, .int n, .int n, .null]))] H := hP
  have hD : va_D A [(h, .inr (1, [.ref qs, .int n, .int n, .null]))] := hD
  refine lv_aload_n hx hb dX2_init_19 rfl (lv_at hl 0 rfl) ?_
  refine lv_iload_n hx hb dX2_init_20 rfl (lv_at hl 2 rfl) ?_
  refine lv_iload_n hx hb dX2_init_21 rfl (lv_at hl 3 rfl) ?_
  refine lv_imul hx hb dX2_init_22 ?_
  refine zk_newB (N' := N) CX hP hD hS (by rw [hn]; exact nI_pos (by omega)) (by rw [hn]; exact nI_clamp (by omega)) (by show N * 1 ≤ 536870912; omega) (Nat.le_of_ble_eq_true rfl) (by show 0 + N ≤ 196; omega) dX2_init_23 (fun qb H hP hD hS => ?_)
  have hP : va_P D zk_cl [(h, .inr (1, [.ref qs, .int n, .int n, .null])), (qb, .inl (tB, N, .inl (fun _ => 0)))] H := hP
  have hD : va_D A [(h, .inr (1, [.ref qs, .int n, .int n, .null])), (qb, .inl (tB, N, .inl (fun _ => 0)))] := hD
  refine W.widen (k := 1) (n := 196) (by omega) (by omega) ?_
  refine va_putF (D := D) (ci := 1) (v := .ref qb) (ty := .array .byte) (C := RX2) (T := TX2) (N := 4) hx hb hts in_X2 tyX2 tyX2_ok nmX2 hown hK hP hD hS 0 rfl rfl 3 (by decide) (hts _ q111) (fun _ h9 => h9) rfl hnm rfl (by decide +kernel) rfl rfl (Nat.le_of_ble_eq_true rfl) dX2_init_25 (fun H locs hP hD hS => ?_)
  have hP : va_P D zk_cl [(h, .inr (1, [.ref qs, .int n, .int n, .ref qb])), (qb, .inl (tB, N, .inl (fun _ => 0)))] H := hP
  have hD : va_D A [(h, .inr (1, [.ref qs, .int n, .int n, .ref qb])), (qb, .inl (tB, N, .inl (fun _ => 0)))] := hD
  refine lv_aload_n hx hb dX2_init_28 rfl (lv_at hl 0 rfl) ?_
  refine va_get (D := D) (ci := 1) (v := .ref qb) (C := RX2) (T := TX2) (N := 4) hx hb hts in_X2 hown hK hP 0 rfl rfl 3 (by decide) (hts _ q111) (fun _ h9 => h9) rfl dX2_init_29 ?_
  refine lv_iconst (v := (-1)) hx hb dX2_init_32 (by decide) ?_
  refine zk_Sv CX hP hD hS ([(h, .inr (1, [.ref qs, .int n, .int n, .ref qb]))]) [1] [0] (metJ3_fill l D tB tC tI _ qb N (fun _ => 0) hN) (lw_S q105 q106 q14 q107) 2 (by decide +kernel) rfl hl.1 rfl (Nat.le_of_ble_eq_true rfl) dX2_init_33 ⟨Nat.le_of_ble_eq_true rfl, Nat.le_of_ble_eq_true rfl⟩ ⟨Nat.le_of_ble_eq_true rfl, Nat.le_of_ble_eq_true rfl⟩ rfl rfl rfl rfl (by decide) (fun _ H locs hw hP hD hS => ?_)
  have hP : va_P D zk_cl [(h, .inr (1, [.ref qs, .int n, .int n, .ref qb])), (qb, .inl (tB, N, .inl (fun _ => -1)))] H := hP
  have hD : va_D A [(h, .inr (1, [.ref qs, .int n, .int n, .ref qb])), (qb, .inl (tB, N, .inl (fun _ => -1)))] := hD
  exact zk_vret CX hQ hr hP hD hS qb trivial [0, 1] rfl rfl (Nat.le_of_ble_eq_true rfl) (Nat.le_of_ble_eq_true rfl) dX2_init_36

set_option maxHeartbeats 4000000 in
set_option maxRecDepth 100000 in
theorem metX2_getBit (l : Launch) (D : va_G) (tB tC tI : ClassId) (sz : Nat) (h qs qb : Nat) (n x y : Int32) (N : Nat) (f : Nat → Int32) (hin : vp_in (y * n + x) N) : zk_Mi l yX2_getBit cX2_getBit 3 (some .boolean) 0 0 D tB tC tI [.ref h, .int x, .int y] [(h, .inr (1, [.ref qs, .int n, .int n, .ref qb])), (qb, .inl (tB, N, .inl f))] (fun (r : Int32) (_ : Unit) => r = if f (y * n + x).toNatClampNeg = 1 then 1 else 0) (fun (_ : Unit) => [(h, .inr (1, [.ref qs, .int n, .int n, .ref qb])), (qb, .inl (tB, N, .inl f))]) 0 0 sz := by
  refine zk_openI (by decide) (Nat.le_of_ble_eq_true rfl) (fun p e s m args below meth c ls A Q CX hr hnm hQ hsz hP hD hS hl => ?_)
  obtain ⟨hx, hb, hml, hown, hts, hA, hK, hZ, hlocks⟩ := id CX
  have hown : s.vm.findClass RX2 = some m.cls := hown
  have hl : lv_has ls 3 [(0, .ref h), (1, .int x), (2, .int y)] := hl
  refine lv_aload_n hx hb dX2_getBit_0 rfl (lv_at hl 0 rfl) ?_
  refine va_get (D := D) (ci := 1) (v := .ref qb) (C := RX2) (T := TX2) (N := 4) hx hb hts in_X2 hown hK hP 0 rfl rfl 3 (by decide) (hts _ q111) (fun _ h9 => h9) rfl dX2_getBit_1 ?_
  refine lv_iload_n hx hb dX2_getBit_4 rfl (lv_at hl 2 rfl) ?_
  refine lv_aload_n hx hb dX2_getBit_5 rfl (lv_at hl 0 rfl) ?_
  refine va_get (D := D) (ci := 1) (v := .int n) (C := RX2) (T := TX2) (N := 4) hx hb hts in_X2 hown hK hP 0 rfl rfl 2 (by decide) (hts _ q110) (fun _ h9 => h9) rfl dX2_getBit_6 ?_
  refine lv_imul hx hb dX2_getBit_9 ?_
  refine lv_iload_n hx hb dX2_getBit_10 rfl (lv_at hl 1 rfl) ?_
  refine lv_iadd hx hb dX2_getBit_11 ?_
  refine va_bald hx hb hK hP 1 0 rfl rfl hin dX2_getBit_12 ?_
  refine lv_iconst (v := 1) hx hb dX2_getBit_13 (by decide) ?_
  refine lv_icmp_ne (tgt := 21) hx hb dX2_getBit_14 (by decide) (fun h_ => ?_) (fun h_ => ?_)
  · refine lv_iconst (v := 0) hx hb dX2_getBit_21 (by decide) ?_
    exact zk_iret CX hQ hr rfl hP hD hS () ((if_neg h_).symm) [0, 1] rfl rfl (Nat.le_of_ble_eq_true rfl) (Nat.le_of_ble_eq_true rfl) dX2_getBit_22
  · refine lv_iconst (v := 1) hx hb dX2_getBit_17 (by decide) ?_
    refine lv_goto (tgt := 22) hx hb dX2_getBit_18 (by decide) ?_
    exact zk_iret CX hQ hr rfl hP hD hS () ((if_pos h_).symm) [0, 1] rfl rfl (Nat.le_of_ble_eq_true rfl) (Nat.le_of_ble_eq_true rfl) dX2_getBit_22

set_option maxHeartbeats 4000000 in
set_option maxRecDepth 100000 in
theorem metX2_noBit (l : Launch) (D : va_G) (tB tC tI : ClassId) (sz : Nat) (h qs qb : Nat) (n x y : Int32) (N : Nat) (f : Nat → Int32) (hin : vp_in (y * n + x) N) : zk_Mi l yX2_noBit cX2_noBit 3 (some .boolean) 0 0 D tB tC tI [.ref h, .int x, .int y] [(h, .inr (1, [.ref qs, .int n, .int n, .ref qb])), (qb, .inl (tB, N, .inl f))] (fun (r : Int32) (_ : Unit) => r = if f (y * n + x).toNatClampNeg < 0 then 1 else 0) (fun (_ : Unit) => [(h, .inr (1, [.ref qs, .int n, .int n, .ref qb])), (qb, .inl (tB, N, .inl f))]) 0 0 sz := by
  refine zk_openI (by decide) (Nat.le_of_ble_eq_true rfl) (fun p e s m args below meth c ls A Q CX hr hnm hQ hsz hP hD hS hl => ?_)
  obtain ⟨hx, hb, hml, hown, hts, hA, hK, hZ, hlocks⟩ := id CX
  have hown : s.vm.findClass RX2 = some m.cls := hown
  have hl : lv_has ls 3 [(0, .ref h), (1, .int x), (2, .int y)] := hl
  refine lv_aload_n hx hb dX2_noBit_0 rfl (lv_at hl 0 rfl) ?_
  refine va_get (D := D) (ci := 1) (v := .ref qb) (C := RX2) (T := TX2) (N := 4) hx hb hts in_X2 hown hK hP 0 rfl rfl 3 (by decide) (hts _ q111) (fun _ h9 => h9) rfl dX2_noBit_1 ?_
  refine lv_iload_n hx hb dX2_noBit_4 rfl (lv_at hl 2 rfl) ?_
  refine lv_aload_n hx hb dX2_noBit_5 rfl (lv_at hl 0 rfl) ?_
  refine va_get (D := D) (ci := 1) (v := .int n) (C := RX2) (T := TX2) (N := 4) hx hb hts in_X2 hown hK hP 0 rfl rfl 2 (by decide) (hts _ q110) (fun _ h9 => h9) rfl dX2_noBit_6 ?_
  refine lv_imul hx hb dX2_noBit_9 ?_
  refine lv_iload_n hx hb dX2_noBit_10 rfl (lv_at hl 1 rfl) ?_
  refine lv_iadd hx hb dX2_noBit_11 ?_
  refine va_bald hx hb hK hP 1 0 rfl rfl hin dX2_noBit_12 ?_
  refine lv_if_ge (tgt := 20) hx hb dX2_noBit_13 (by decide) (fun h_ => ?_) (fun h_ => ?_)
  · refine lv_iconst (v := 0) hx hb dX2_noBit_20 (by decide) ?_
    exact zk_iret CX hQ hr rfl hP hD hS () ((if_neg (Int32.not_lt.mpr h_)).symm) [0, 1] rfl rfl (Nat.le_of_ble_eq_true rfl) (Nat.le_of_ble_eq_true rfl) dX2_noBit_21
  · refine lv_iconst (v := 1) hx hb dX2_noBit_16 (by decide) ?_
    refine lv_goto (tgt := 21) hx hb dX2_noBit_17 (by decide) ?_
    exact zk_iret CX hQ hr rfl hP hD hS () ((if_pos (Int32.not_le.mp h_)).symm) [0, 1] rfl rfl (Nat.le_of_ble_eq_true rfl) (Nat.le_of_ble_eq_true rfl) dX2_noBit_21

set_option maxHeartbeats 4000000 in
set_option maxRecDepth 100000 in
theorem metX2_setBit (l : Launch) (D : va_G) (tB tC tI : ClassId) (sz : Nat) (h qs qb : Nat) (n x y b : Int32) (N : Nat) (f : Nat → Int32) (hin : vp_in (y * n + x) N) (hb01 : b = 0 ∨ b = 1) : zk_Mv l yX2_setBit cX2_setBit 4 none 0 0 D tB tC tI [.ref h, .int x, .int y, .int b] [(h, .inr (1, [.ref qs, .int n, .int n, .ref qb])), (qb, .inl (tB, N, .inl f))] (fun (_ : Unit) => True) (fun (_ : Unit) => [(h, .inr (1, [.ref qs, .int n, .int n, .ref qb])), (qb, .inl (tB, N, .inl (upd f (y * n + x).toNatClampNeg b)))]) 0 0 sz := by
  refine zk_openV (by decide) (Nat.le_of_ble_eq_true rfl) (fun p e s m args below meth c ls A Q CX hr hnm hQ hsz hP hD hS hl => ?_)
  obtain ⟨hx, hb, hml, hown, hts, hA, hK, hZ, hlocks⟩ := id CX
  have hown : s.vm.findClass RX2 = some m.cls := hown
  have hl : lv_has ls 4 [(0, .ref h), (1, .int x), (2, .int y), (3, .int b)] := hl
  refine lv_aload_n hx hb dX2_setBit_0 rfl (lv_at hl 0 rfl) ?_
  refine va_get (D := D) (ci := 1) (v := .ref qb) (C := RX2) (T := TX2) (N := 4) hx hb hts in_X2 hown hK hP 0 rfl rfl 3 (by decide) (hts _ q111) (fun _ h9 => h9) rfl dX2_setBit_1 ?_
  refine lv_iload_n hx hb dX2_setBit_4 rfl (lv_at hl 2 rfl) ?_
  refine lv_aload_n hx hb dX2_setBit_5 rfl (lv_at hl 0 rfl) ?_
  refine va_get (D := D) (ci := 1) (v := .int n) (C := RX2) (T := TX2) (N := 4) hx hb hts in_X2 hown hK hP 0 rfl rfl 2 (by decide) (hts _ q110) (fun _ h9 => h9) rfl dX2_setBit_6 ?_
  refine lv_imul hx hb dX2_setBit_9 ?_
  refine lv_iload_n hx hb dX2_setBit_10 rfl (lv_at hl 1 rfl) ?_
  refine lv_iadd hx hb dX2_setBit_11 ?_
  refine lv_iload_n hx hb dX2_setBit_12 rfl (lv_at hl 3 rfl) ?_
  refine lv_if_eq (tgt := 20) hx hb dX2_setBit_13 (by decide) (fun h_ => ?_) (fun h_ => ?_)
  · refine lv_iconst (v := 0) hx hb dX2_setBit_20 (by decide) ?_
    refine lv_i2b (v := 0) hx hb dX2_setBit_21 (by decide) ?_
    refine va_bast hx hb hK hP hD hS 1 0 rfl rfl hin dX2_setBit_22 (fun H locs hP hD hS => ?_)
    have hP : va_P D zk_cl [(h, .inr (1, [.ref qs, .int n, .int n, .ref qb])), (qb, .inl (tB, N, .inl (upd f ((y * n) + x).toNatClampNeg (vp_nar .byte 0))))] H := hP
    have hD : va_D A [(h, .inr (1, [.ref qs, .int n, .int n, .ref qb])), (qb, .inl (tB, N, .inl (upd f ((y * n) + x).toNatClampNeg (vp_nar .byte 0))))] := hD
    have ef_ : upd f ((y * n) + x).toNatClampNeg (vp_nar .byte 0) = upd f (y * n + x).toNatClampNeg b := by rw [h_]; rfl
    rw [ef_] at hP hD
    clear ef_
    exact zk_vret CX hQ hr hP hD hS () trivial [0, 1] rfl rfl (Nat.le_of_ble_eq_true rfl) (Nat.le_of_ble_eq_true rfl) dX2_setBit_23
  · refine lv_iconst (v := 1) hx hb dX2_setBit_16 (by decide) ?_
    refine lv_goto (tgt := 21) hx hb dX2_setBit_17 (by decide) ?_
    refine lv_i2b (v := 1) hx hb dX2_setBit_21 (by decide) ?_
    refine va_bast hx hb hK hP hD hS 1 0 rfl rfl hin dX2_setBit_22 (fun H locs hP hD hS => ?_)
    have hP : va_P D zk_cl [(h, .inr (1, [.ref qs, .int n, .int n, .ref qb])), (qb, .inl (tB, N, .inl (upd f ((y * n) + x).toNatClampNeg (vp_nar .byte 1))))] H := hP
    have hD : va_D A [(h, .inr (1, [.ref qs, .int n, .int n, .ref qb])), (qb, .inl (tB, N, .inl (upd f ((y * n) + x).toNatClampNeg (vp_nar .byte 1))))] := hD
    have ef_ : upd f ((y * n) + x).toNatClampNeg (vp_nar .byte 1) = upd f (y * n + x).toNatClampNeg b := by rw [hb01.resolve_left h_]; rfl
    rw [ef_] at hP hD
    clear ef_
    exact zk_vret CX hQ hr hP hD hS () trivial [0, 1] rfl rfl (Nat.le_of_ble_eq_true rfl) (Nat.le_of_ble_eq_true rfl) dX2_setBit_23

set_option maxHeartbeats 4000000 in
set_option maxRecDepth 100000 in
theorem metX2_module (l : Launch) (D : va_G) (tB tC tI : ClassId) (sz : Nat) (h qs qg qb : Nat) (n : Int32) (N : Nat) (w : Nat → Int32) (L : List Nat) (k : Nat) (r0 c0 pos bit : Int32) (hk : zk_k n r0 c0 = nI k) (hkN : k < N) (hN : N ≤ 196) (hpos : pos = nI (L.length / 8)) (hp : L.length / 8 < 72) (hbit : bit = nI (L.length % 8 + 1)) (hw0 : zk_W w) : zk_Mv l yX2_module cX2_module 6 none 4 85 D tB tC tI [.ref h, .int r0, .int c0, .int pos, .int bit] [(h, .inr (1, [.ref qs, .int n, .int n, .ref qb])), (qb, .inl (tB, N, .inl (zk_Bt w L))), (qs, .inr (3, [.ref qg, .int 0, .int 0, .int 0])), (qg, .inl (tB, 72, .inl (zk_G w 72)))] (fun (_ : Unit) => True) (fun (_ : Unit) => [(h, .inr (1, [.ref qs, .int n, .int n, .ref qb])), (qb, .inl (tB, N, .inl (zk_Bt w (k :: L)))), (qs, .inr (3, [.ref qg, .int 0, .int 0, .int 0])), (qg, .inl (tB, 72, .inl (zk_G w 72)))]) 0 0 sz := by
  refine zk_openV (by decide) (Nat.le_of_ble_eq_true rfl) (fun p e s m args below meth c ls A Q CX hr hnm hQ hsz hP hD hS hl => ?_)
  obtain ⟨hx, hb, hml, hown, hts, hA, hK, hZ, hlocks⟩ := id CX
  have hown : s.vm.findClass RX2 = some m.cls := hown
  have hl : lv_has ls 6 [(0, .ref h), (1, .int r0), (2, .int c0), (3, .int pos), (4, .int bit)] := hl
  have J50 : ∀ (r2 c2 : Int32) (ls : Array Slot), r2 * n + c2 = zk_k n r0 c0 → lv_has ls 6 [(1, .int r2), (2, .int c2), (0, .ref h), (3, .int pos), (4, .int bit)] → W p l e ({ frames := 4, cells := 0, slots := 0, locals := 85 } : Room) s m args below meth c s.heap [] 0 0 Q (F0 m 50 ls []) := by
    intro r2 c2 ls ek hl
    have hin : vp_in (r2 * n + c2) N := by rw [ek, hk]; exact vp_in_nI hkN (by omega)
    have hpi : vp_in pos 72 := by rw [hpos]; exact vp_in_nI hp (by omega)
    refine lv_aload_n hx hb dX2_module_50 rfl (lv_at hl 2 rfl) ?_
    refine va_get (D := D) (ci := 1) (v := .ref qs) (C := RX2) (T := TX2) (N := 4) hx hb hts in_X2 hown hK hP 0 rfl rfl 0 (by decide) (hts _ q108) (fun _ h9 => h9) rfl dX2_module_51 ?_
    refine lv_iload_n hx hb dX2_module_54 rfl (lv_at hl 3 rfl) ?_
    refine zk_Fi (C := RJ0) CX hP hD hS ([(h, .inr (1, [.ref qs, .int n, .int n, .ref qb])), (qb, .inl (tB, N, .inl (zk_Bt w L)))]) [2, 3] [0, 1] (metJ0_charAt l D tB tC tI _ qs qg 72 (zk_G w 72) pos hpi (by omega)) (zk_lwF q153 q157 q159 q11 q161) hZ.2.2 1 3 0 rfl rfl rfl (by decide +kernel) rfl hl.1 rfl (Nat.le_of_ble_eq_true rfl) dX2_module_55 ⟨Nat.le_of_ble_eq_true rfl, Nat.le_of_ble_eq_true rfl⟩ ⟨Nat.le_of_ble_eq_true rfl, Nat.le_of_ble_eq_true rfl⟩ rfl rfl rfl rfl (by decide) (fun r_1 _ H locs hw hP hD hS => ?_)
    have hP : va_P D zk_cl [(h, .inr (1, [.ref qs, .int n, .int n, .ref qb])), (qb, .inl (tB, N, .inl (zk_Bt w L))), (qs, .inr (3, [.ref qg, .int 0, .int 0, .int 0])), (qg, .inl (tB, 72, .inl (zk_G w 72)))] H := hP
    have hD : va_D A [(h, .inr (1, [.ref qs, .int n, .int n, .ref qb])), (qb, .inl (tB, N, .inl (zk_Bt w L))), (qs, .inr (3, [.ref qg, .int 0, .int 0, .int 0])), (qg, .inl (tB, 72, .inl (zk_G w 72)))] := hD
    have er : r_1 = w (L.length / 8) := by rw [hw, hpos, nI_clamp (by omega)]; exact zk_Gw hw0 hp
    refine lv_istore (lv' := [(5, .int r_1), (1, .int r2), (2, .int c2), (0, .ref h), (3, .int pos), (4, .int bit)]) hx hb dX2_module_60 hl (by decide) rfl (fun ls hl => ?_)
    refine lv_iload hx hb dX2_module_62 (lv_at hl 0 rfl) ?_
    refine lv_iconst (v := 1) hx hb dX2_module_64 (by decide) ?_
    refine lv_bipush (v := 8) hx hb dX2_module_65 (by decide) ?_
    refine lv_iload hx hb dX2_module_67 (lv_at hl 5 rfl) ?_
    refine lv_isub hx hb dX2_module_69 ?_
    refine lv_ishl hx hb dX2_module_70 ?_
    refine lv_iand hx hb dX2_module_71 ?_
    refine lv_istore (lv' := [(5, .int (r_1 &&& (1 <<< ((8 - bit) &&& 31)))), (1, .int r2), (2, .int c2), (0, .ref h), (3, .int pos), (4, .int bit)]) hx hb dX2_module_72 hl (by decide) rfl (fun ls hl => ?_)
    refine lv_aload_n hx hb dX2_module_74 rfl (lv_at hl 3 rfl) ?_
    refine lv_iload_n hx hb dX2_module_75 rfl (lv_at hl 2 rfl) ?_
    refine lv_iload_n hx hb dX2_module_76 rfl (lv_at hl 1 rfl) ?_
    refine lv_iload hx hb dX2_module_77 (lv_at hl 0 rfl) ?_
    refine lv_if_eq (tgt := 86) hx hb dX2_module_79 (by decide) (fun h_ => ?_) (fun h_ => ?_)
    · refine lv_iconst (v := 0) hx hb dX2_module_86 (by decide) ?_
      refine zk_Vv CX hP hD hS ([(qs, .inr (3, [.ref qg, .int 0, .int 0, .int 0])), (qg, .inl (tB, 72, .inl (zk_G w 72)))]) [0, 1] [2, 3] (metX2_setBit l D tB tC tI _ h qs qb n c2 r2 0 N (zk_Bt w L) hin (Or.inl rfl)) (lw_V q182 q184 qs2 q10 q185) 3 1 0 rfl rfl rfl (by decide +kernel) rfl hl.1 rfl (Nat.le_of_ble_eq_true rfl) dX2_module_87 ⟨Nat.le_of_ble_eq_true rfl, Nat.le_of_ble_eq_true rfl⟩ ⟨Nat.le_of_ble_eq_true rfl, Nat.le_of_ble_eq_true rfl⟩ rfl rfl rfl rfl (by decide) (fun _ H locs hw hP hD hS => ?_)
      have hP : va_P D zk_cl [(qs, .inr (3, [.ref qg, .int 0, .int 0, .int 0])), (qg, .inl (tB, 72, .inl (zk_G w 72))), (h, .inr (1, [.ref qs, .int n, .int n, .ref qb])), (qb, .inl (tB, N, .inl (upd (zk_Bt w L) (r2 * n + c2).toNatClampNeg 0)))] H := hP
      have hD : va_D A [(qs, .inr (3, [.ref qg, .int 0, .int 0, .int 0])), (qg, .inl (tB, 72, .inl (zk_G w 72))), (h, .inr (1, [.ref qs, .int n, .int n, .ref qb])), (qb, .inl (tB, N, .inl (upd (zk_Bt w L) (r2 * n + c2).toNatClampNeg 0)))] := hD
      have ef_ : upd (zk_Bt w L) (r2 * n + c2).toNatClampNeg 0 = zk_Bt w (k :: L) := zk_Bt_upd (ek.trans hk) (by omega) (by rw [← er, ← hbit]; exact (if_pos h_).symm)
      rw [ef_] at hP hD
      exact zk_vret CX hQ hr hP hD hS () trivial [2, 3, 0, 1] rfl rfl (Nat.le_of_ble_eq_true rfl) (Nat.le_of_ble_eq_true rfl) dX2_module_90
    · refine lv_iconst (v := 1) hx hb dX2_module_82 (by decide) ?_
      refine lv_goto (tgt := 87) hx hb dX2_module_83 (by decide) ?_
      refine zk_Vv CX hP hD hS ([(qs, .inr (3, [.ref qg, .int 0, .int 0, .int 0])), (qg, .inl (tB, 72, .inl (zk_G w 72)))]) [0, 1] [2, 3] (metX2_setBit l D tB tC tI _ h qs qb n c2 r2 1 N (zk_Bt w L) hin (Or.inr rfl)) (lw_V q182 q184 qs2 q10 q185) 3 1 0 rfl rfl rfl (by decide +kernel) rfl hl.1 rfl (Nat.le_of_ble_eq_true rfl) dX2_module_87 ⟨Nat.le_of_ble_eq_true rfl, Nat.le_of_ble_eq_true rfl⟩ ⟨Nat.le_of_ble_eq_true rfl, Nat.le_of_ble_eq_true rfl⟩ rfl rfl rfl rfl (by decide) (fun _ H locs hw hP hD hS => ?_)
      have hP : va_P D zk_cl [(qs, .inr (3, [.ref qg, .int 0, .int 0, .int 0])), (qg, .inl (tB, 72, .inl (zk_G w 72))), (h, .inr (1, [.ref qs, .int n, .int n, .ref qb])), (qb, .inl (tB, N, .inl (upd (zk_Bt w L) (r2 * n + c2).toNatClampNeg 1)))] H := hP
      have hD : va_D A [(qs, .inr (3, [.ref qg, .int 0, .int 0, .int 0])), (qg, .inl (tB, 72, .inl (zk_G w 72))), (h, .inr (1, [.ref qs, .int n, .int n, .ref qb])), (qb, .inl (tB, N, .inl (upd (zk_Bt w L) (r2 * n + c2).toNatClampNeg 1)))] := hD
      have ef_ : upd (zk_Bt w L) (r2 * n + c2).toNatClampNeg 1 = zk_Bt w (k :: L) := zk_Bt_upd (ek.trans hk) (by omega) (by rw [← er, ← hbit]; exact (if_neg h_).symm)
      rw [ef_] at hP hD
      exact zk_vret CX hQ hr hP hD hS () trivial [2, 3, 0, 1] rfl rfl (Nat.le_of_ble_eq_true rfl) (Nat.le_of_ble_eq_true rfl) dX2_module_90
  have J25 : ∀ (r1 c1 : Int32) (ls : Array Slot), r1 = (if r0 < 0 then r0 + n else r0) → c1 = (if r0 < 0 then c0 + zk_d n else c0) → lv_has ls 6 [(1, .int r1), (2, .int c1), (0, .ref h), (3, .int pos), (4, .int bit)] → W p l e ({ frames := 4, cells := 0, slots := 0, locals := 85 } : Room) s m args below meth c s.heap [] 0 0 Q (F0 m 25 ls []) := by
    intro r1 c1 ls er1 ec1 hl
    refine lv_iload_n hx hb dX2_module_25 rfl (lv_at hl 1 rfl) ?_
    refine lv_if_ge (tgt := 50) hx hb dX2_module_26 (by decide) (fun h_ => ?_) (fun h_ => ?_)
    · exact J50 r1 c1 ls (by unfold zk_k; rw [← er1, ← ec1, if_neg (Int32.not_lt.mpr h_), if_neg (Int32.not_lt.mpr h_)]) hl
    · refine lv_iload_n hx hb dX2_module_29 rfl (lv_at hl 1 rfl) ?_
      refine lv_aload_n hx hb dX2_module_30 rfl (lv_at hl 2 rfl) ?_
      refine va_get (D := D) (ci := 1) (v := .int n) (C := RX2) (T := TX2) (N := 4) hx hb hts in_X2 hown hK hP 0 rfl rfl 2 (by decide) (hts _ q110) (fun _ h9 => h9) rfl dX2_module_31 ?_
      refine lv_iadd hx hb dX2_module_34 ?_
      refine lv_istore_n (lv' := [(2, .int (c1 + n)), (1, .int r1), (0, .ref h), (3, .int pos), (4, .int bit)]) hx hb dX2_module_35 rfl hl (by decide) rfl (fun ls hl => ?_)
      refine lv_iload_n hx hb dX2_module_36 rfl (lv_at hl 1 rfl) ?_
      refine lv_iconst (v := 4) hx hb dX2_module_37 (by decide) ?_
      refine lv_aload_n hx hb dX2_module_38 rfl (lv_at hl 2 rfl) ?_
      refine va_get (D := D) (ci := 1) (v := .int n) (C := RX2) (T := TX2) (N := 4) hx hb hts in_X2 hown hK hP 0 rfl rfl 2 (by decide) (hts _ q110) (fun _ h9 => h9) rfl dX2_module_39 ?_
      refine lv_iconst (v := 4) hx hb dX2_module_42 (by decide) ?_
      refine lv_iadd hx hb dX2_module_43 ?_
      refine lv_bipush (v := 8) hx hb dX2_module_44 (by decide) ?_
      refine lv_irem hx hb dX2_module_46 (by decide) ?_
      refine lv_isub hx hb dX2_module_47 ?_
      refine lv_iadd hx hb dX2_module_48 ?_
      refine lv_istore_n (lv' := [(1, .int (r1 + (4 - ((n + 4) - (n + 4) / 8 * 8)))), (2, .int (c1 + n)), (0, .ref h), (3, .int pos), (4, .int bit)]) hx hb dX2_module_49 rfl hl (by decide) rfl (fun ls hl => ?_)
      exact J50 _ _ ls (by unfold zk_k; rw [← er1, ← ec1, if_pos (Int32.not_le.mp h_), if_pos (Int32.not_le.mp h_)]; rfl) (lv_sub hl [0, 1, 2, 3, 4] rfl)
  refine lv_iload_n hx hb dX2_module_0 rfl (lv_at hl 1 rfl) ?_
  refine lv_if_ge (tgt := 25) hx hb dX2_module_1 (by decide) (fun h_ => ?_) (fun h_ => ?_)
  · exact J25 _ _ ls (if_neg (Int32.not_lt.mpr h_)).symm (if_neg (Int32.not_lt.mpr h_)).symm (lv_sub hl [1, 2, 0, 3, 4] rfl)
  · refine lv_iload_n hx hb dX2_module_4 rfl (lv_at hl 1 rfl) ?_
    refine lv_aload_n hx hb dX2_module_5 rfl (lv_at hl 0 rfl) ?_
    refine va_get (D := D) (ci := 1) (v := .int n) (C := RX2) (T := TX2) (N := 4) hx hb hts in_X2 hown hK hP 0 rfl rfl 1 (by decide) (hts _ q109) (fun _ h9 => h9) rfl dX2_module_6 ?_
    refine lv_iadd hx hb dX2_module_9 ?_
    refine lv_istore_n (lv' := [(1, .int (r0 + n)), (0, .ref h), (2, .int c0), (3, .int pos), (4, .int bit)]) hx hb dX2_module_10 rfl hl (by decide) rfl (fun ls hl => ?_)
    refine lv_iload_n hx hb dX2_module_11 rfl (lv_at hl 2 rfl) ?_
    refine lv_iconst (v := 4) hx hb dX2_module_12 (by decide) ?_
    refine lv_aload_n hx hb dX2_module_13 rfl (lv_at hl 1 rfl) ?_
    refine va_get (D := D) (ci := 1) (v := .int n) (C := RX2) (T := TX2) (N := 4) hx hb hts in_X2 hown hK hP 0 rfl rfl 1 (by decide) (hts _ q109) (fun _ h9 => h9) rfl dX2_module_14 ?_
    refine lv_iconst (v := 4) hx hb dX2_module_17 (by decide) ?_
    refine lv_iadd hx hb dX2_module_18 ?_
    refine lv_bipush (v := 8) hx hb dX2_module_19 (by decide) ?_
    refine lv_irem hx hb dX2_module_21 (by decide) ?_
    refine lv_isub hx hb dX2_module_22 ?_
    refine lv_iadd hx hb dX2_module_23 ?_
    refine lv_istore_n (lv' := [(2, .int (c0 + (4 - ((n + 4) - (n + 4) / 8 * 8)))), (1, .int (r0 + n)), (0, .ref h), (3, .int pos), (4, .int bit)]) hx hb dX2_module_24 rfl hl (by decide) rfl (fun ls hl => ?_)
    exact J25 _ _ ls (if_pos (Int32.not_le.mp h_)).symm (if_pos (Int32.not_le.mp h_)).symm (lv_sub hl [1, 0, 2, 3, 4] rfl)

set_option maxHeartbeats 4000000 in
set_option maxRecDepth 100000 in
theorem metX2_utah (l : Launch) (D : va_G) (tB tC tI : ClassId) (sz : Nat) (h qs qg qb : Nat) (n : Int32) (N : Nat) (w : Nat → Int32) (L ks : List Nat) (p0 : Nat) (r0 c0 pos : Int32) (hk : zk_w8 n N ks (zk_ut r0 c0)) (hN : N ≤ 196) (hpos : pos = nI p0) (hL : L.length = 8 * p0) (hp : p0 < 72) (hw0 : zk_W w) : zk_Mv l yX2_utah cX2_utah 4 none 5 110 D tB tC tI [.ref h, .int r0, .int c0, .int pos] [(h, .inr (1, [.ref qs, .int n, .int n, .ref qb])), (qb, .inl (tB, N, .inl (zk_Bt w L))), (qs, .inr (3, [.ref qg, .int 0, .int 0, .int 0])), (qg, .inl (tB, 72, .inl (zk_G w 72)))] (fun (_ : Unit) => True) (fun (_ : Unit) => [(h, .inr (1, [.ref qs, .int n, .int n, .ref qb])), (qb, .inl (tB, N, .inl (zk_Bt w (zk_pre ks 8 L)))), (qs, .inr (3, [.ref qg, .int 0, .int 0, .int 0])), (qg, .inl (tB, 72, .inl (zk_G w 72)))]) 0 0 sz := by
  refine zk_openV (by decide) (Nat.le_of_ble_eq_true rfl) (fun p e s m args below meth c ls A Q CX hr hnm hQ hsz hP hD hS hl => ?_)
  obtain ⟨hx, hb, hml, hown, hts, hA, hK, hZ, hlocks⟩ := id CX
  have hown : s.vm.findClass RX2 = some m.cls := hown
  have hl : lv_has ls 4 [(0, .ref h), (1, .int r0), (2, .int c0), (3, .int pos)] := hl
  have hP : va_P D zk_cl [(h, .inr (1, [.ref qs, .int n, .int n, .ref qb])), (qb, .inl (tB, N, .inl (zk_Bt w (zk_pre ks 0 L)))), (qs, .inr (3, [.ref qg, .int 0, .int 0, .int 0])), (qg, .inl (tB, 72, .inl (zk_G w 72)))] s.heap := hP
  have hD : va_D A [(h, .inr (1, [.ref qs, .int n, .int n, .ref qb])), (qb, .inl (tB, N, .inl (zk_Bt w (zk_pre ks 0 L)))), (qs, .inr (3, [.ref qg, .int 0, .int 0, .int 0])), (qg, .inl (tB, 72, .inl (zk_G w 72)))] := hD
  refine lv_aload_n hx hb dX2_utah_0 rfl (lv_at hl 0 rfl) ?_
  refine lv_iload_n hx hb dX2_utah_1 rfl (lv_at hl 1 rfl) ?_
  refine lv_iconst (v := 2) hx hb dX2_utah_2 (by decide) ?_
  refine lv_isub hx hb dX2_utah_3 ?_
  refine lv_iload_n hx hb dX2_utah_4 rfl (lv_at hl 2 rfl) ?_
  refine lv_iconst (v := 2) hx hb dX2_utah_5 (by decide) ?_
  refine lv_isub hx hb dX2_utah_6 ?_
  refine lv_iload_n hx hb dX2_utah_7 rfl (lv_at hl 3 rfl) ?_
  refine lv_iconst (v := 1) hx hb dX2_utah_8 (by decide) ?_
  refine zk_Vv CX hP hD hS ([]) [0, 1, 2, 3] [] (metX2_module l D tB tC tI _ h qs qg qb n N w (zk_pre ks 0 L) (ks.getD 0 0) (r0 - 2) (c0 - 2) pos 1 (hk 0 (by omega)).1 (hk 0 (by omega)).2 hN (by rw [(zk_st 0 hL (by omega)).1]; exact hpos) (by rw [(zk_st 0 hL (by omega)).1]; exact hp) (by rw [(zk_st 0 hL (by omega)).2]; rfl) hw0) (lw_V q148 q150 qs1 q10 q151) 4 1 0 rfl rfl rfl (by decide +kernel) rfl hl.1 rfl (Nat.le_of_ble_eq_true rfl) dX2_utah_9 ⟨Nat.le_of_ble_eq_true rfl, Nat.le_of_ble_eq_true rfl⟩ ⟨Nat.le_of_ble_eq_true rfl, Nat.le_of_ble_eq_true rfl⟩ rfl rfl rfl rfl (by decide) (fun _ H locs hw hP hD hS => ?_)
  have hP : va_P D zk_cl [(h, .inr (1, [.ref qs, .int n, .int n, .ref qb])), (qb, .inl (tB, N, .inl (zk_Bt w (zk_pre ks 1 L)))), (qs, .inr (3, [.ref qg, .int 0, .int 0, .int 0])), (qg, .inl (tB, 72, .inl (zk_G w 72)))] H := hP
  have hD : va_D A [(h, .inr (1, [.ref qs, .int n, .int n, .ref qb])), (qb, .inl (tB, N, .inl (zk_Bt w (zk_pre ks 1 L)))), (qs, .inr (3, [.ref qg, .int 0, .int 0, .int 0])), (qg, .inl (tB, 72, .inl (zk_G w 72)))] := hD
  refine lv_aload_n hx hb dX2_utah_12 rfl (lv_at hl 0 rfl) ?_
  refine lv_iload_n hx hb dX2_utah_13 rfl (lv_at hl 1 rfl) ?_
  refine lv_iconst (v := 2) hx hb dX2_utah_14 (by decide) ?_
  refine lv_isub hx hb dX2_utah_15 ?_
  refine lv_iload_n hx hb dX2_utah_16 rfl (lv_at hl 2 rfl) ?_
  refine lv_iconst (v := 1) hx hb dX2_utah_17 (by decide) ?_
  refine lv_isub hx hb dX2_utah_18 ?_
  refine lv_iload_n hx hb dX2_utah_19 rfl (lv_at hl 3 rfl) ?_
  refine lv_iconst (v := 2) hx hb dX2_utah_20 (by decide) ?_
  refine zk_Vv CX hP hD hS ([]) [0, 1, 2, 3] [] (metX2_module l D tB tC tI _ h qs qg qb n N w (zk_pre ks 1 L) (ks.getD 1 0) (r0 - 2) (c0 - 1) pos 2 (hk 1 (by omega)).1 (hk 1 (by omega)).2 hN (by rw [(zk_st 1 hL (by omega)).1]; exact hpos) (by rw [(zk_st 1 hL (by omega)).1]; exact hp) (by rw [(zk_st 1 hL (by omega)).2]; rfl) hw0) (lw_V q148 q150 qs1 q10 q151) 4 1 0 rfl rfl rfl (by decide +kernel) rfl hl.1 rfl (Nat.le_of_ble_eq_true rfl) dX2_utah_21 ⟨Nat.le_of_ble_eq_true rfl, Nat.le_of_ble_eq_true rfl⟩ ⟨Nat.le_of_ble_eq_true rfl, Nat.le_of_ble_eq_true rfl⟩ rfl rfl rfl rfl (by decide) (fun _ H locs hw hP hD hS => ?_)
  have hP : va_P D zk_cl [(h, .inr (1, [.ref qs, .int n, .int n, .ref qb])), (qb, .inl (tB, N, .inl (zk_Bt w (zk_pre ks 2 L)))), (qs, .inr (3, [.ref qg, .int 0, .int 0, .int 0])), (qg, .inl (tB, 72, .inl (zk_G w 72)))] H := hP
  have hD : va_D A [(h, .inr (1, [.ref qs, .int n, .int n, .ref qb])), (qb, .inl (tB, N, .inl (zk_Bt w (zk_pre ks 2 L)))), (qs, .inr (3, [.ref qg, .int 0, .int 0, .int 0])), (qg, .inl (tB, 72, .inl (zk_G w 72)))] := hD
  refine lv_aload_n hx hb dX2_utah_24 rfl (lv_at hl 0 rfl) ?_
  refine lv_iload_n hx hb dX2_utah_25 rfl (lv_at hl 1 rfl) ?_
  refine lv_iconst (v := 1) hx hb dX2_utah_26 (by decide) ?_
  refine lv_isub hx hb dX2_utah_27 ?_
  refine lv_iload_n hx hb dX2_utah_28 rfl (lv_at hl 2 rfl) ?_
  refine lv_iconst (v := 2) hx hb dX2_utah_29 (by decide) ?_
  refine lv_isub hx hb dX2_utah_30 ?_
  refine lv_iload_n hx hb dX2_utah_31 rfl (lv_at hl 3 rfl) ?_
  refine lv_iconst (v := 3) hx hb dX2_utah_32 (by decide) ?_
  refine zk_Vv CX hP hD hS ([]) [0, 1, 2, 3] [] (metX2_module l D tB tC tI _ h qs qg qb n N w (zk_pre ks 2 L) (ks.getD 2 0) (r0 - 1) (c0 - 2) pos 3 (hk 2 (by omega)).1 (hk 2 (by omega)).2 hN (by rw [(zk_st 2 hL (by omega)).1]; exact hpos) (by rw [(zk_st 2 hL (by omega)).1]; exact hp) (by rw [(zk_st 2 hL (by omega)).2]; rfl) hw0) (lw_V q148 q150 qs1 q10 q151) 4 1 0 rfl rfl rfl (by decide +kernel) rfl hl.1 rfl (Nat.le_of_ble_eq_true rfl) dX2_utah_33 ⟨Nat.le_of_ble_eq_true rfl, Nat.le_of_ble_eq_true rfl⟩ ⟨Nat.le_of_ble_eq_true rfl, Nat.le_of_ble_eq_true rfl⟩ rfl rfl rfl rfl (by decide) (fun _ H locs hw hP hD hS => ?_)
  have hP : va_P D zk_cl [(h, .inr (1, [.ref qs, .int n, .int n, .ref qb])), (qb, .inl (tB, N, .inl (zk_Bt w (zk_pre ks 3 L)))), (qs, .inr (3, [.ref qg, .int 0, .int 0, .int 0])), (qg, .inl (tB, 72, .inl (zk_G w 72)))] H := hP
  have hD : va_D A [(h, .inr (1, [.ref qs, .int n, .int n, .ref qb])), (qb, .inl (tB, N, .inl (zk_Bt w (zk_pre ks 3 L)))), (qs, .inr (3, [.ref qg, .int 0, .int 0, .int 0])), (qg, .inl (tB, 72, .inl (zk_G w 72)))] := hD
  refine lv_aload_n hx hb dX2_utah_36 rfl (lv_at hl 0 rfl) ?_
  refine lv_iload_n hx hb dX2_utah_37 rfl (lv_at hl 1 rfl) ?_
  refine lv_iconst (v := 1) hx hb dX2_utah_38 (by decide) ?_
  refine lv_isub hx hb dX2_utah_39 ?_
  refine lv_iload_n hx hb dX2_utah_40 rfl (lv_at hl 2 rfl) ?_
  refine lv_iconst (v := 1) hx hb dX2_utah_41 (by decide) ?_
  refine lv_isub hx hb dX2_utah_42 ?_
  refine lv_iload_n hx hb dX2_utah_43 rfl (lv_at hl 3 rfl) ?_
  refine lv_iconst (v := 4) hx hb dX2_utah_44 (by decide) ?_
  refine zk_Vv CX hP hD hS ([]) [0, 1, 2, 3] [] (metX2_module l D tB tC tI _ h qs qg qb n N w (zk_pre ks 3 L) (ks.getD 3 0) (r0 - 1) (c0 - 1) pos 4 (hk 3 (by omega)).1 (hk 3 (by omega)).2 hN (by rw [(zk_st 3 hL (by omega)).1]; exact hpos) (by rw [(zk_st 3 hL (by omega)).1]; exact hp) (by rw [(zk_st 3 hL (by omega)).2]; rfl) hw0) (lw_V q148 q150 qs1 q10 q151) 4 1 0 rfl rfl rfl (by decide +kernel) rfl hl.1 rfl (Nat.le_of_ble_eq_true rfl) dX2_utah_45 ⟨Nat.le_of_ble_eq_true rfl, Nat.le_of_ble_eq_true rfl⟩ ⟨Nat.le_of_ble_eq_true rfl, Nat.le_of_ble_eq_true rfl⟩ rfl rfl rfl rfl (by decide) (fun _ H locs hw hP hD hS => ?_)
  have hP : va_P D zk_cl [(h, .inr (1, [.ref qs, .int n, .int n, .ref qb])), (qb, .inl (tB, N, .inl (zk_Bt w (zk_pre ks 4 L)))), (qs, .inr (3, [.ref qg, .int 0, .int 0, .int 0])), (qg, .inl (tB, 72, .inl (zk_G w 72)))] H := hP
  have hD : va_D A [(h, .inr (1, [.ref qs, .int n, .int n, .ref qb])), (qb, .inl (tB, N, .inl (zk_Bt w (zk_pre ks 4 L)))), (qs, .inr (3, [.ref qg, .int 0, .int 0, .int 0])), (qg, .inl (tB, 72, .inl (zk_G w 72)))] := hD
  refine lv_aload_n hx hb dX2_utah_48 rfl (lv_at hl 0 rfl) ?_
  refine lv_iload_n hx hb dX2_utah_49 rfl (lv_at hl 1 rfl) ?_
  refine lv_iconst (v := 1) hx hb dX2_utah_50 (by decide) ?_
  refine lv_isub hx hb dX2_utah_51 ?_
  refine lv_iload_n hx hb dX2_utah_52 rfl (lv_at hl 2 rfl) ?_
  refine lv_iload_n hx hb dX2_utah_53 rfl (lv_at hl 3 rfl) ?_
  refine lv_iconst (v := 5) hx hb dX2_utah_54 (by decide) ?_
  refine zk_Vv CX hP hD hS ([]) [0, 1, 2, 3] [] (metX2_module l D tB tC tI _ h qs qg qb n N w (zk_pre ks 4 L) (ks.getD 4 0) (r0 - 1) c0 pos 5 (hk 4 (by omega)).1 (hk 4 (by omega)).2 hN (by rw [(zk_st 4 hL (by omega)).1]; exact hpos) (by rw [(zk_st 4 hL (by omega)).1]; exact hp) (by rw [(zk_st 4 hL (by omega)).2]; rfl) hw0) (lw_V q148 q150 qs1 q10 q151) 4 1 0 rfl rfl rfl (by decide +kernel) rfl hl.1 rfl (Nat.le_of_ble_eq_true rfl) dX2_utah_55 ⟨Nat.le_of_ble_eq_true rfl, Nat.le_of_ble_eq_true rfl⟩ ⟨Nat.le_of_ble_eq_true rfl, Nat.le_of_ble_eq_true rfl⟩ rfl rfl rfl rfl (by decide) (fun _ H locs hw hP hD hS => ?_)
  have hP : va_P D zk_cl [(h, .inr (1, [.ref qs, .int n, .int n, .ref qb])), (qb, .inl (tB, N, .inl (zk_Bt w (zk_pre ks 5 L)))), (qs, .inr (3, [.ref qg, .int 0, .int 0, .int 0])), (qg, .inl (tB, 72, .inl (zk_G w 72)))] H := hP
  have hD : va_D A [(h, .inr (1, [.ref qs, .int n, .int n, .ref qb])), (qb, .inl (tB, N, .inl (zk_Bt w (zk_pre ks 5 L)))), (qs, .inr (3, [.ref qg, .int 0, .int 0, .int 0])), (qg, .inl (tB, 72, .inl (zk_G w 72)))] := hD
  refine lv_aload_n hx hb dX2_utah_58 rfl (lv_at hl 0 rfl) ?_
  refine lv_iload_n hx hb dX2_utah_59 rfl (lv_at hl 1 rfl) ?_
  refine lv_iload_n hx hb dX2_utah_60 rfl (lv_at hl 2 rfl) ?_
  refine lv_iconst (v := 2) hx hb dX2_utah_61 (by decide) ?_
  refine lv_isub hx hb dX2_utah_62 ?_
  refine lv_iload_n hx hb dX2_utah_63 rfl (lv_at hl 3 rfl) ?_
  refine lv_bipush (v := 6) hx hb dX2_utah_64 (by decide) ?_
  refine zk_Vv CX hP hD hS ([]) [0, 1, 2, 3] [] (metX2_module l D tB tC tI _ h qs qg qb n N w (zk_pre ks 5 L) (ks.getD 5 0) r0 (c0 - 2) pos 6 (hk 5 (by omega)).1 (hk 5 (by omega)).2 hN (by rw [(zk_st 5 hL (by omega)).1]; exact hpos) (by rw [(zk_st 5 hL (by omega)).1]; exact hp) (by rw [(zk_st 5 hL (by omega)).2]; rfl) hw0) (lw_V q148 q150 qs1 q10 q151) 4 1 0 rfl rfl rfl (by decide +kernel) rfl hl.1 rfl (Nat.le_of_ble_eq_true rfl) dX2_utah_66 ⟨Nat.le_of_ble_eq_true rfl, Nat.le_of_ble_eq_true rfl⟩ ⟨Nat.le_of_ble_eq_true rfl, Nat.le_of_ble_eq_true rfl⟩ rfl rfl rfl rfl (by decide) (fun _ H locs hw hP hD hS => ?_)
  have hP : va_P D zk_cl [(h, .inr (1, [.ref qs, .int n, .int n, .ref qb])), (qb, .inl (tB, N, .inl (zk_Bt w (zk_pre ks 6 L)))), (qs, .inr (3, [.ref qg, .int 0, .int 0, .int 0])), (qg, .inl (tB, 72, .inl (zk_G w 72)))] H := hP
  have hD : va_D A [(h, .inr (1, [.ref qs, .int n, .int n, .ref qb])), (qb, .inl (tB, N, .inl (zk_Bt w (zk_pre ks 6 L)))), (qs, .inr (3, [.ref qg, .int 0, .int 0, .int 0])), (qg, .inl (tB, 72, .inl (zk_G w 72)))] := hD
  refine lv_aload_n hx hb dX2_utah_69 rfl (lv_at hl 0 rfl) ?_
  refine lv_iload_n hx hb dX2_utah_70 rfl (lv_at hl 1 rfl) ?_
  refine lv_iload_n hx hb dX2_utah_71 rfl (lv_at hl 2 rfl) ?_
  refine lv_iconst (v := 1) hx hb dX2_utah_72 (by decide) ?_
  refine lv_isub hx hb dX2_utah_73 ?_
  refine lv_iload_n hx hb dX2_utah_74 rfl (lv_at hl 3 rfl) ?_
  refine lv_bipush (v := 7) hx hb dX2_utah_75 (by decide) ?_
  refine zk_Vv CX hP hD hS ([]) [0, 1, 2, 3] [] (metX2_module l D tB tC tI _ h qs qg qb n N w (zk_pre ks 6 L) (ks.getD 6 0) r0 (c0 - 1) pos 7 (hk 6 (by omega)).1 (hk 6 (by omega)).2 hN (by rw [(zk_st 6 hL (by omega)).1]; exact hpos) (by rw [(zk_st 6 hL (by omega)).1]; exact hp) (by rw [(zk_st 6 hL (by omega)).2]; rfl) hw0) (lw_V q148 q150 qs1 q10 q151) 4 1 0 rfl rfl rfl (by decide +kernel) rfl hl.1 rfl (Nat.le_of_ble_eq_true rfl) dX2_utah_77 ⟨Nat.le_of_ble_eq_true rfl, Nat.le_of_ble_eq_true rfl⟩ ⟨Nat.le_of_ble_eq_true rfl, Nat.le_of_ble_eq_true rfl⟩ rfl rfl rfl rfl (by decide) (fun _ H locs hw hP hD hS => ?_)
  have hP : va_P D zk_cl [(h, .inr (1, [.ref qs, .int n, .int n, .ref qb])), (qb, .inl (tB, N, .inl (zk_Bt w (zk_pre ks 7 L)))), (qs, .inr (3, [.ref qg, .int 0, .int 0, .int 0])), (qg, .inl (tB, 72, .inl (zk_G w 72)))] H := hP
  have hD : va_D A [(h, .inr (1, [.ref qs, .int n, .int n, .ref qb])), (qb, .inl (tB, N, .inl (zk_Bt w (zk_pre ks 7 L)))), (qs, .inr (3, [.ref qg, .int 0, .int 0, .int 0])), (qg, .inl (tB, 72, .inl (zk_G w 72)))] := hD
  refine lv_aload_n hx hb dX2_utah_80 rfl (lv_at hl 0 rfl) ?_
  refine lv_iload_n hx hb dX2_utah_81 rfl (lv_at hl 1 rfl) ?_
  refine lv_iload_n hx hb dX2_utah_82 rfl (lv_at hl 2 rfl) ?_
  refine lv_iload_n hx hb dX2_utah_83 rfl (lv_at hl 3 rfl) ?_
  refine lv_bipush (v := 8) hx hb dX2_utah_84 (by decide) ?_
  refine zk_Vv CX hP hD hS ([]) [0, 1, 2, 3] [] (metX2_module l D tB tC tI _ h qs qg qb n N w (zk_pre ks 7 L) (ks.getD 7 0) r0 c0 pos 8 (hk 7 (by omega)).1 (hk 7 (by omega)).2 hN (by rw [(zk_st 7 hL (by omega)).1]; exact hpos) (by rw [(zk_st 7 hL (by omega)).1]; exact hp) (by rw [(zk_st 7 hL (by omega)).2]; rfl) hw0) (lw_V q148 q150 qs1 q10 q151) 4 1 0 rfl rfl rfl (by decide +kernel) rfl hl.1 rfl (Nat.le_of_ble_eq_true rfl) dX2_utah_86 ⟨Nat.le_of_ble_eq_true rfl, Nat.le_of_ble_eq_true rfl⟩ ⟨Nat.le_of_ble_eq_true rfl, Nat.le_of_ble_eq_true rfl⟩ rfl rfl rfl rfl (by decide) (fun _ H locs hw hP hD hS => ?_)
  have hP : va_P D zk_cl [(h, .inr (1, [.ref qs, .int n, .int n, .ref qb])), (qb, .inl (tB, N, .inl (zk_Bt w (zk_pre ks 8 L)))), (qs, .inr (3, [.ref qg, .int 0, .int 0, .int 0])), (qg, .inl (tB, 72, .inl (zk_G w 72)))] H := hP
  have hD : va_D A [(h, .inr (1, [.ref qs, .int n, .int n, .ref qb])), (qb, .inl (tB, N, .inl (zk_Bt w (zk_pre ks 8 L)))), (qs, .inr (3, [.ref qg, .int 0, .int 0, .int 0])), (qg, .inl (tB, 72, .inl (zk_G w 72)))] := hD
  exact zk_vret CX hQ hr hP hD hS () trivial [0, 1, 2, 3] rfl rfl (Nat.le_of_ble_eq_true rfl) (Nat.le_of_ble_eq_true rfl) dX2_utah_89

set_option maxHeartbeats 4000000 in
set_option maxRecDepth 100000 in
theorem metX2_corner1 (l : Launch) (D : va_G) (tB tC tI : ClassId) (sz : Nat) (h qs qg qb : Nat) (n : Int32) (N : Nat) (w : Nat → Int32) (L ks : List Nat) (p0 : Nat) (pos : Int32) (hk : zk_w8 n N ks (zk_c1 n)) (hN : N ≤ 196) (hpos : pos = nI p0) (hL : L.length = 8 * p0) (hp : p0 < 72) (hw0 : zk_W w) : zk_Mv l yX2_corner1 cX2_corner1 2 none 5 110 D tB tC tI [.ref h, .int pos] [(h, .inr (1, [.ref qs, .int n, .int n, .ref qb])), (qb, .inl (tB, N, .inl (zk_Bt w L))), (qs, .inr (3, [.ref qg, .int 0, .int 0, .int 0])), (qg, .inl (tB, 72, .inl (zk_G w 72)))] (fun (_ : Unit) => True) (fun (_ : Unit) => [(h, .inr (1, [.ref qs, .int n, .int n, .ref qb])), (qb, .inl (tB, N, .inl (zk_Bt w (zk_pre ks 8 L)))), (qs, .inr (3, [.ref qg, .int 0, .int 0, .int 0])), (qg, .inl (tB, 72, .inl (zk_G w 72)))]) 0 0 sz := by
  refine zk_openV (by decide) (Nat.le_of_ble_eq_true rfl) (fun p e s m args below meth c ls A Q CX hr hnm hQ hsz hP hD hS hl => ?_)
  obtain ⟨hx, hb, hml, hown, hts, hA, hK, hZ, hlocks⟩ := id CX
  have hown : s.vm.findClass RX2 = some m.cls := hown
  have hl : lv_has ls 2 [(0, .ref h), (1, .int pos)] := hl
  have hP : va_P D zk_cl [(h, .inr (1, [.ref qs, .int n, .int n, .ref qb])), (qb, .inl (tB, N, .inl (zk_Bt w (zk_pre ks 0 L)))), (qs, .inr (3, [.ref qg, .int 0, .int 0, .int 0])), (qg, .inl (tB, 72, .inl (zk_G w 72)))] s.heap := hP
  have hD : va_D A [(h, .inr (1, [.ref qs, .int n, .int n, .ref qb])), (qb, .inl (tB, N, .inl (zk_Bt w (zk_pre ks 0 L)))), (qs, .inr (3, [.ref qg, .int 0, .int 0, .int 0])), (qg, .inl (tB, 72, .inl (zk_G w 72)))] := hD
  refine lv_aload_n hx hb dX2_corner1_0 rfl (lv_at hl 0 rfl) ?_
  refine lv_aload_n hx hb dX2_corner1_1 rfl (lv_at hl 0 rfl) ?_
  refine va_get (D := D) (ci := 1) (v := .int n) (C := RX2) (T := TX2) (N := 4) hx hb hts in_X2 hown hK hP 0 rfl rfl 1 (by decide) (hts _ q109) (fun _ h9 => h9) rfl dX2_corner1_2 ?_
  refine lv_iconst (v := 1) hx hb dX2_corner1_5 (by decide) ?_
  refine lv_isub hx hb dX2_corner1_6 ?_
  refine lv_iconst (v := 0) hx hb dX2_corner1_7 (by decide) ?_
  refine lv_iload_n hx hb dX2_corner1_8 rfl (lv_at hl 1 rfl) ?_
  refine lv_iconst (v := 1) hx hb dX2_corner1_9 (by decide) ?_
  refine zk_Vv CX hP hD hS ([]) [0, 1, 2, 3] [] (metX2_module l D tB tC tI _ h qs qg qb n N w (zk_pre ks 0 L) (ks.getD 0 0) (n - 1) 0 pos 1 (hk 0 (by omega)).1 (hk 0 (by omega)).2 hN (by rw [(zk_st 0 hL (by omega)).1]; exact hpos) (by rw [(zk_st 0 hL (by omega)).1]; exact hp) (by rw [(zk_st 0 hL (by omega)).2]; rfl) hw0) (lw_V q148 q150 qs1 q10 q151) 4 1 0 rfl rfl rfl (by decide +kernel) rfl hl.1 rfl (Nat.le_of_ble_eq_true rfl) dX2_corner1_10 ⟨Nat.le_of_ble_eq_true rfl, Nat.le_of_ble_eq_true rfl⟩ ⟨Nat.le_of_ble_eq_true rfl, Nat.le_of_ble_eq_true rfl⟩ rfl rfl rfl rfl (by decide) (fun _ H locs hw hP hD hS => ?_)
  have hP : va_P D zk_cl [(h, .inr (1, [.ref qs, .int n, .int n, .ref qb])), (qb, .inl (tB, N, .inl (zk_Bt w (zk_pre ks 1 L)))), (qs, .inr (3, [.ref qg, .int 0, .int 0, .int 0])), (qg, .inl (tB, 72, .inl (zk_G w 72)))] H := hP
  have hD : va_D A [(h, .inr (1, [.ref qs, .int n, .int n, .ref qb])), (qb, .inl (tB, N, .inl (zk_Bt w (zk_pre ks 1 L)))), (qs, .inr (3, [.ref qg, .int 0, .int 0, .int 0])), (qg, .inl (tB, 72, .inl (zk_G w 72)))] := hD
  refine lv_aload_n hx hb dX2_corner1_13 rfl (lv_at hl 0 rfl) ?_
  refine lv_aload_n hx hb dX2_corner1_14 rfl (lv_at hl 0 rfl) ?_
  refine va_get (D := D) (ci := 1) (v := .int n) (C := RX2) (T := TX2) (N := 4) hx hb hts in_X2 hown hK hP 0 rfl rfl 1 (by decide) (hts _ q109) (fun _ h9 => h9) rfl dX2_corner1_15 ?_
  refine lv_iconst (v := 1) hx hb dX2_corner1_18 (by decide) ?_
  refine lv_isub hx hb dX2_corner1_19 ?_
  refine lv_iconst (v := 1) hx hb dX2_corner1_20 (by decide) ?_
  refine lv_iload_n hx hb dX2_corner1_21 rfl (lv_at hl 1 rfl) ?_
  refine lv_iconst (v := 2) hx hb dX2_corner1_22 (by decide) ?_
  refine zk_Vv CX hP hD hS ([]) [0, 1, 2, 3] [] (metX2_module l D tB tC tI _ h qs qg qb n N w (zk_pre ks 1 L) (ks.getD 1 0) (n - 1) 1 pos 2 (hk 1 (by omega)).1 (hk 1 (by omega)).2 hN (by rw [(zk_st 1 hL (by omega)).1]; exact hpos) (by rw [(zk_st 1 hL (by omega)).1]; exact hp) (by rw [(zk_st 1 hL (by omega)).2]; rfl) hw0) (lw_V q148 q150 qs1 q10 q151) 4 1 0 rfl rfl rfl (by decide +kernel) rfl hl.1 rfl (Nat.le_of_ble_eq_true rfl) dX2_corner1_23 ⟨Nat.le_of_ble_eq_true rfl, Nat.le_of_ble_eq_true rfl⟩ ⟨Nat.le_of_ble_eq_true rfl, Nat.le_of_ble_eq_true rfl⟩ rfl rfl rfl rfl (by decide) (fun _ H locs hw hP hD hS => ?_)
  have hP : va_P D zk_cl [(h, .inr (1, [.ref qs, .int n, .int n, .ref qb])), (qb, .inl (tB, N, .inl (zk_Bt w (zk_pre ks 2 L)))), (qs, .inr (3, [.ref qg, .int 0, .int 0, .int 0])), (qg, .inl (tB, 72, .inl (zk_G w 72)))] H := hP
  have hD : va_D A [(h, .inr (1, [.ref qs, .int n, .int n, .ref qb])), (qb, .inl (tB, N, .inl (zk_Bt w (zk_pre ks 2 L)))), (qs, .inr (3, [.ref qg, .int 0, .int 0, .int 0])), (qg, .inl (tB, 72, .inl (zk_G w 72)))] := hD
  refine lv_aload_n hx hb dX2_corner1_26 rfl (lv_at hl 0 rfl) ?_
  refine lv_aload_n hx hb dX2_corner1_27 rfl (lv_at hl 0 rfl) ?_
  refine va_get (D := D) (ci := 1) (v := .int n) (C := RX2) (T := TX2) (N := 4) hx hb hts in_X2 hown hK hP 0 rfl rfl 1 (by decide) (hts _ q109) (fun _ h9 => h9) rfl dX2_corner1_28 ?_
  refine lv_iconst (v := 1) hx hb dX2_corner1_31 (by decide) ?_
  refine lv_isub hx hb dX2_corner1_32 ?_
  refine lv_iconst (v := 2) hx hb dX2_corner1_33 (by decide) ?_
  refine lv_iload_n hx hb dX2_corner1_34 rfl (lv_at hl 1 rfl) ?_
  refine lv_iconst (v := 3) hx hb dX2_corner1_35 (by decide) ?_
  refine zk_Vv CX hP hD hS ([]) [0, 1, 2, 3] [] (metX2_module l D tB tC tI _ h qs qg qb n N w (zk_pre ks 2 L) (ks.getD 2 0) (n - 1) 2 pos 3 (hk 2 (by omega)).1 (hk 2 (by omega)).2 hN (by rw [(zk_st 2 hL (by omega)).1]; exact hpos) (by rw [(zk_st 2 hL (by omega)).1]; exact hp) (by rw [(zk_st 2 hL (by omega)).2]; rfl) hw0) (lw_V q148 q150 qs1 q10 q151) 4 1 0 rfl rfl rfl (by decide +kernel) rfl hl.1 rfl (Nat.le_of_ble_eq_true rfl) dX2_corner1_36 ⟨Nat.le_of_ble_eq_true rfl, Nat.le_of_ble_eq_true rfl⟩ ⟨Nat.le_of_ble_eq_true rfl, Nat.le_of_ble_eq_true rfl⟩ rfl rfl rfl rfl (by decide) (fun _ H locs hw hP hD hS => ?_)
  have hP : va_P D zk_cl [(h, .inr (1, [.ref qs, .int n, .int n, .ref qb])), (qb, .inl (tB, N, .inl (zk_Bt w (zk_pre ks 3 L)))), (qs, .inr (3, [.ref qg, .int 0, .int 0, .int 0])), (qg, .inl (tB, 72, .inl (zk_G w 72)))] H := hP
  have hD : va_D A [(h, .inr (1, [.ref qs, .int n, .int n, .ref qb])), (qb, .inl (tB, N, .inl (zk_Bt w (zk_pre ks 3 L)))), (qs, .inr (3, [.ref qg, .int 0, .int 0, .int 0])), (qg, .inl (tB, 72, .inl (zk_G w 72)))] := hD
  refine lv_aload_n hx hb dX2_corner1_39 rfl (lv_at hl 0 rfl) ?_
  refine lv_iconst (v := 0) hx hb dX2_corner1_40 (by decide) ?_
  refine lv_aload_n hx hb dX2_corner1_41 rfl (lv_at hl 0 rfl) ?_
  refine va_get (D := D) (ci := 1) (v := .int n) (C := RX2) (T := TX2) (N := 4) hx hb hts in_X2 hown hK hP 0 rfl rfl 2 (by decide) (hts _ q110) (fun _ h9 => h9) rfl dX2_corner1_42 ?_
  refine lv_iconst (v := 2) hx hb dX2_corner1_45 (by decide) ?_
  refine lv_isub hx hb dX2_corner1_46 ?_
  refine lv_iload_n hx hb dX2_corner1_47 rfl (lv_at hl 1 rfl) ?_
  refine lv_iconst (v := 4) hx hb dX2_corner1_48 (by decide) ?_
  refine zk_Vv CX hP hD hS ([]) [0, 1, 2, 3] [] (metX2_module l D tB tC tI _ h qs qg qb n N w (zk_pre ks 3 L) (ks.getD 3 0) 0 (n - 2) pos 4 (hk 3 (by omega)).1 (hk 3 (by omega)).2 hN (by rw [(zk_st 3 hL (by omega)).1]; exact hpos) (by rw [(zk_st 3 hL (by omega)).1]; exact hp) (by rw [(zk_st 3 hL (by omega)).2]; rfl) hw0) (lw_V q148 q150 qs1 q10 q151) 4 1 0 rfl rfl rfl (by decide +kernel) rfl hl.1 rfl (Nat.le_of_ble_eq_true rfl) dX2_corner1_49 ⟨Nat.le_of_ble_eq_true rfl, Nat.le_of_ble_eq_true rfl⟩ ⟨Nat.le_of_ble_eq_true rfl, Nat.le_of_ble_eq_true rfl⟩ rfl rfl rfl rfl (by decide) (fun _ H locs hw hP hD hS => ?_)
  have hP : va_P D zk_cl [(h, .inr (1, [.ref qs, .int n, .int n, .ref qb])), (qb, .inl (tB, N, .inl (zk_Bt w (zk_pre ks 4 L)))), (qs, .inr (3, [.ref qg, .int 0, .int 0, .int 0])), (qg, .inl (tB, 72, .inl (zk_G w 72)))] H := hP
  have hD : va_D A [(h, .inr (1, [.ref qs, .int n, .int n, .ref qb])), (qb, .inl (tB, N, .inl (zk_Bt w (zk_pre ks 4 L)))), (qs, .inr (3, [.ref qg, .int 0, .int 0, .int 0])), (qg, .inl (tB, 72, .inl (zk_G w 72)))] := hD
  refine lv_aload_n hx hb dX2_corner1_52 rfl (lv_at hl 0 rfl) ?_
  refine lv_iconst (v := 0) hx hb dX2_corner1_53 (by decide) ?_
  refine lv_aload_n hx hb dX2_corner1_54 rfl (lv_at hl 0 rfl) ?_
  refine va_get (D := D) (ci := 1) (v := .int n) (C := RX2) (T := TX2) (N := 4) hx hb hts in_X2 hown hK hP 0 rfl rfl 2 (by decide) (hts _ q110) (fun _ h9 => h9) rfl dX2_corner1_55 ?_
  refine lv_iconst (v := 1) hx hb dX2_corner1_58 (by decide) ?_
  refine lv_isub hx hb dX2_corner1_59 ?_
  refine lv_iload_n hx hb dX2_corner1_60 rfl (lv_at hl 1 rfl) ?_
  refine lv_iconst (v := 5) hx hb dX2_corner1_61 (by decide) ?_
  refine zk_Vv CX hP hD hS ([]) [0, 1, 2, 3] [] (metX2_module l D tB tC tI _ h qs qg qb n N w (zk_pre ks 4 L) (ks.getD 4 0) 0 (n - 1) pos 5 (hk 4 (by omega)).1 (hk 4 (by omega)).2 hN (by rw [(zk_st 4 hL (by omega)).1]; exact hpos) (by rw [(zk_st 4 hL (by omega)).1]; exact hp) (by rw [(zk_st 4 hL (by omega)).2]; rfl) hw0) (lw_V q148 q150 qs1 q10 q151) 4 1 0 rfl rfl rfl (by decide +kernel) rfl hl.1 rfl (Nat.le_of_ble_eq_true rfl) dX2_corner1_62 ⟨Nat.le_of_ble_eq_true rfl, Nat.le_of_ble_eq_true rfl⟩ ⟨Nat.le_of_ble_eq_true rfl, Nat.le_of_ble_eq_true rfl⟩ rfl rfl rfl rfl (by decide) (fun _ H locs hw hP hD hS => ?_)
  have hP : va_P D zk_cl [(h, .inr (1, [.ref qs, .int n, .int n, .ref qb])), (qb, .inl (tB, N, .inl (zk_Bt w (zk_pre ks 5 L)))), (qs, .inr (3, [.ref qg, .int 0, .int 0, .int 0])), (qg, .inl (tB, 72, .inl (zk_G w 72)))] H := hP
  have hD : va_D A [(h, .inr (1, [.ref qs, .int n, .int n, .ref qb])), (qb, .inl (tB, N, .inl (zk_Bt w (zk_pre ks 5 L)))), (qs, .inr (3, [.ref qg, .int 0, .int 0, .int 0])), (qg, .inl (tB, 72, .inl (zk_G w 72)))] := hD
  refine lv_aload_n hx hb dX2_corner1_65 rfl (lv_at hl 0 rfl) ?_
  refine lv_iconst (v := 1) hx hb dX2_corner1_66 (by decide) ?_
  refine lv_aload_n hx hb dX2_corner1_67 rfl (lv_at hl 0 rfl) ?_
  refine va_get (D := D) (ci := 1) (v := .int n) (C := RX2) (T := TX2) (N := 4) hx hb hts in_X2 hown hK hP 0 rfl rfl 2 (by decide) (hts _ q110) (fun _ h9 => h9) rfl dX2_corner1_68 ?_
  refine lv_iconst (v := 1) hx hb dX2_corner1_71 (by decide) ?_
  refine lv_isub hx hb dX2_corner1_72 ?_
  refine lv_iload_n hx hb dX2_corner1_73 rfl (lv_at hl 1 rfl) ?_
  refine lv_bipush (v := 6) hx hb dX2_corner1_74 (by decide) ?_
  refine zk_Vv CX hP hD hS ([]) [0, 1, 2, 3] [] (metX2_module l D tB tC tI _ h qs qg qb n N w (zk_pre ks 5 L) (ks.getD 5 0) 1 (n - 1) pos 6 (hk 5 (by omega)).1 (hk 5 (by omega)).2 hN (by rw [(zk_st 5 hL (by omega)).1]; exact hpos) (by rw [(zk_st 5 hL (by omega)).1]; exact hp) (by rw [(zk_st 5 hL (by omega)).2]; rfl) hw0) (lw_V q148 q150 qs1 q10 q151) 4 1 0 rfl rfl rfl (by decide +kernel) rfl hl.1 rfl (Nat.le_of_ble_eq_true rfl) dX2_corner1_76 ⟨Nat.le_of_ble_eq_true rfl, Nat.le_of_ble_eq_true rfl⟩ ⟨Nat.le_of_ble_eq_true rfl, Nat.le_of_ble_eq_true rfl⟩ rfl rfl rfl rfl (by decide) (fun _ H locs hw hP hD hS => ?_)
  have hP : va_P D zk_cl [(h, .inr (1, [.ref qs, .int n, .int n, .ref qb])), (qb, .inl (tB, N, .inl (zk_Bt w (zk_pre ks 6 L)))), (qs, .inr (3, [.ref qg, .int 0, .int 0, .int 0])), (qg, .inl (tB, 72, .inl (zk_G w 72)))] H := hP
  have hD : va_D A [(h, .inr (1, [.ref qs, .int n, .int n, .ref qb])), (qb, .inl (tB, N, .inl (zk_Bt w (zk_pre ks 6 L)))), (qs, .inr (3, [.ref qg, .int 0, .int 0, .int 0])), (qg, .inl (tB, 72, .inl (zk_G w 72)))] := hD
  refine lv_aload_n hx hb dX2_corner1_79 rfl (lv_at hl 0 rfl) ?_
  refine lv_iconst (v := 2) hx hb dX2_corner1_80 (by decide) ?_
  refine lv_aload_n hx hb dX2_corner1_81 rfl (lv_at hl 0 rfl) ?_
  refine va_get (D := D) (ci := 1) (v := .int n) (C := RX2) (T := TX2) (N := 4) hx hb hts in_X2 hown hK hP 0 rfl rfl 2 (by decide) (hts _ q110) (fun _ h9 => h9) rfl dX2_corner1_82 ?_
  refine lv_iconst (v := 1) hx hb dX2_corner1_85 (by decide) ?_
  refine lv_isub hx hb dX2_corner1_86 ?_
  refine lv_iload_n hx hb dX2_corner1_87 rfl (lv_at hl 1 rfl) ?_
  refine lv_bipush (v := 7) hx hb dX2_corner1_88 (by decide) ?_
  refine zk_Vv CX hP hD hS ([]) [0, 1, 2, 3] [] (metX2_module l D tB tC tI _ h qs qg qb n N w (zk_pre ks 6 L) (ks.getD 6 0) 2 (n - 1) pos 7 (hk 6 (by omega)).1 (hk 6 (by omega)).2 hN (by rw [(zk_st 6 hL (by omega)).1]; exact hpos) (by rw [(zk_st 6 hL (by omega)).1]; exact hp) (by rw [(zk_st 6 hL (by omega)).2]; rfl) hw0) (lw_V q148 q150 qs1 q10 q151) 4 1 0 rfl rfl rfl (by decide +kernel) rfl hl.1 rfl (Nat.le_of_ble_eq_true rfl) dX2_corner1_90 ⟨Nat.le_of_ble_eq_true rfl, Nat.le_of_ble_eq_true rfl⟩ ⟨Nat.le_of_ble_eq_true rfl, Nat.le_of_ble_eq_true rfl⟩ rfl rfl rfl rfl (by decide) (fun _ H locs hw hP hD hS => ?_)
  have hP : va_P D zk_cl [(h, .inr (1, [.ref qs, .int n, .int n, .ref qb])), (qb, .inl (tB, N, .inl (zk_Bt w (zk_pre ks 7 L)))), (qs, .inr (3, [.ref qg, .int 0, .int 0, .int 0])), (qg, .inl (tB, 72, .inl (zk_G w 72)))] H := hP
  have hD : va_D A [(h, .inr (1, [.ref qs, .int n, .int n, .ref qb])), (qb, .inl (tB, N, .inl (zk_Bt w (zk_pre ks 7 L)))), (qs, .inr (3, [.ref qg, .int 0, .int 0, .int 0])), (qg, .inl (tB, 72, .inl (zk_G w 72)))] := hD
  refine lv_aload_n hx hb dX2_corner1_93 rfl (lv_at hl 0 rfl) ?_
  refine lv_iconst (v := 3) hx hb dX2_corner1_94 (by decide) ?_
  refine lv_aload_n hx hb dX2_corner1_95 rfl (lv_at hl 0 rfl) ?_
  refine va_get (D := D) (ci := 1) (v := .int n) (C := RX2) (T := TX2) (N := 4) hx hb hts in_X2 hown hK hP 0 rfl rfl 2 (by decide) (hts _ q110) (fun _ h9 => h9) rfl dX2_corner1_96 ?_
  refine lv_iconst (v := 1) hx hb dX2_corner1_99 (by decide) ?_
  refine lv_isub hx hb dX2_corner1_100 ?_
  refine lv_iload_n hx hb dX2_corner1_101 rfl (lv_at hl 1 rfl) ?_
  refine lv_bipush (v := 8) hx hb dX2_corner1_102 (by decide) ?_
  refine zk_Vv CX hP hD hS ([]) [0, 1, 2, 3] [] (metX2_module l D tB tC tI _ h qs qg qb n N w (zk_pre ks 7 L) (ks.getD 7 0) 3 (n - 1) pos 8 (hk 7 (by omega)).1 (hk 7 (by omega)).2 hN (by rw [(zk_st 7 hL (by omega)).1]; exact hpos) (by rw [(zk_st 7 hL (by omega)).1]; exact hp) (by rw [(zk_st 7 hL (by omega)).2]; rfl) hw0) (lw_V q148 q150 qs1 q10 q151) 4 1 0 rfl rfl rfl (by decide +kernel) rfl hl.1 rfl (Nat.le_of_ble_eq_true rfl) dX2_corner1_104 ⟨Nat.le_of_ble_eq_true rfl, Nat.le_of_ble_eq_true rfl⟩ ⟨Nat.le_of_ble_eq_true rfl, Nat.le_of_ble_eq_true rfl⟩ rfl rfl rfl rfl (by decide) (fun _ H locs hw hP hD hS => ?_)
  have hP : va_P D zk_cl [(h, .inr (1, [.ref qs, .int n, .int n, .ref qb])), (qb, .inl (tB, N, .inl (zk_Bt w (zk_pre ks 8 L)))), (qs, .inr (3, [.ref qg, .int 0, .int 0, .int 0])), (qg, .inl (tB, 72, .inl (zk_G w 72)))] H := hP
  have hD : va_D A [(h, .inr (1, [.ref qs, .int n, .int n, .ref qb])), (qb, .inl (tB, N, .inl (zk_Bt w (zk_pre ks 8 L)))), (qs, .inr (3, [.ref qg, .int 0, .int 0, .int 0])), (qg, .inl (tB, 72, .inl (zk_G w 72)))] := hD
  exact zk_vret CX hQ hr hP hD hS () trivial [0, 1, 2, 3] rfl rfl (Nat.le_of_ble_eq_true rfl) (Nat.le_of_ble_eq_true rfl) dX2_corner1_107

set_option maxHeartbeats 4000000 in
set_option maxRecDepth 100000 in
theorem metX2_corner2 (l : Launch) (D : va_G) (tB tC tI : ClassId) (sz : Nat) (h qs qg qb : Nat) (n : Int32) (N : Nat) (w : Nat → Int32) (L ks : List Nat) (p0 : Nat) (pos : Int32) (hk : zk_w8 n N ks (zk_c2 n)) (hN : N ≤ 196) (hpos : pos = nI p0) (hL : L.length = 8 * p0) (hp : p0 < 72) (hw0 : zk_W w) : zk_Mv l yX2_corner2 cX2_corner2 2 none 5 110 D tB tC tI [.ref h, .int pos] [(h, .inr (1, [.ref qs, .int n, .int n, .ref qb])), (qb, .inl (tB, N, .inl (zk_Bt w L))), (qs, .inr (3, [.ref qg, .int 0, .int 0, .int 0])), (qg, .inl (tB, 72, .inl (zk_G w 72)))] (fun (_ : Unit) => True) (fun (_ : Unit) => [(h, .inr (1, [.ref qs, .int n, .int n, .ref qb])), (qb, .inl (tB, N, .inl (zk_Bt w (zk_pre ks 8 L)))), (qs, .inr (3, [.ref qg, .int 0, .int 0, .int 0])), (qg, .inl (tB, 72, .inl (zk_G w 72)))]) 0 0 sz := by
  refine zk_openV (by decide) (Nat.le_of_ble_eq_true rfl) (fun p e s m args below meth c ls A Q CX hr hnm hQ hsz hP hD hS hl => ?_)
  obtain ⟨hx, hb, hml, hown, hts, hA, hK, hZ, hlocks⟩ := id CX
  have hown : s.vm.findClass RX2 = some m.cls := hown
  have hl : lv_has ls 2 [(0, .ref h), (1, .int pos)] := hl
  have hP : va_P D zk_cl [(h, .inr (1, [.ref qs, .int n, .int n, .ref qb])), (qb, .inl (tB, N, .inl (zk_Bt w (zk_pre ks 0 L)))), (qs, .inr (3, [.ref qg, .int 0, .int 0, .int 0])), (qg, .inl (tB, 72, .inl (zk_G w 72)))] s.heap := hP
  have hD : va_D A [(h, .inr (1, [.ref qs, .int n, .int n, .ref qb])), (qb, .inl (tB, N, .inl (zk_Bt w (zk_pre ks 0 L)))), (qs, .inr (3, [.ref qg, .int 0, .int 0, .int 0])), (qg, .inl (tB, 72, .inl (zk_G w 72)))] := hD
  refine lv_aload_n hx hb dX2_corner2_0 rfl (lv_at hl 0 rfl) ?_
  refine lv_aload_n hx hb dX2_corner2_1 rfl (lv_at hl 0 rfl) ?_
  refine va_get (D := D) (ci := 1) (v := .int n) (C := RX2) (T := TX2) (N := 4) hx hb hts in_X2 hown hK hP 0 rfl rfl 1 (by decide) (hts _ q109) (fun _ h9 => h9) rfl dX2_corner2_2 ?_
  refine lv_iconst (v := 3) hx hb dX2_corner2_5 (by decide) ?_
  refine lv_isub hx hb dX2_corner2_6 ?_
  refine lv_iconst (v := 0) hx hb dX2_corner2_7 (by decide) ?_
  refine lv_iload_n hx hb dX2_corner2_8 rfl (lv_at hl 1 rfl) ?_
  refine lv_iconst (v := 1) hx hb dX2_corner2_9 (by decide) ?_
  refine zk_Vv CX hP hD hS ([]) [0, 1, 2, 3] [] (metX2_module l D tB tC tI _ h qs qg qb n N w (zk_pre ks 0 L) (ks.getD 0 0) (n - 3) 0 pos 1 (hk 0 (by omega)).1 (hk 0 (by omega)).2 hN (by rw [(zk_st 0 hL (by omega)).1]; exact hpos) (by rw [(zk_st 0 hL (by omega)).1]; exact hp) (by rw [(zk_st 0 hL (by omega)).2]; rfl) hw0) (lw_V q148 q150 qs1 q10 q151) 4 1 0 rfl rfl rfl (by decide +kernel) rfl hl.1 rfl (Nat.le_of_ble_eq_true rfl) dX2_corner2_10 ⟨Nat.le_of_ble_eq_true rfl, Nat.le_of_ble_eq_true rfl⟩ ⟨Nat.le_of_ble_eq_true rfl, Nat.le_of_ble_eq_true rfl⟩ rfl rfl rfl rfl (by decide) (fun _ H locs hw hP hD hS => ?_)
  have hP : va_P D zk_cl [(h, .inr (1, [.ref qs, .int n, .int n, .ref qb])), (qb, .inl (tB, N, .inl (zk_Bt w (zk_pre ks 1 L)))), (qs, .inr (3, [.ref qg, .int 0, .int 0, .int 0])), (qg, .inl (tB, 72, .inl (zk_G w 72)))] H := hP
  have hD : va_D A [(h, .inr (1, [.ref qs, .int n, .int n, .ref qb])), (qb, .inl (tB, N, .inl (zk_Bt w (zk_pre ks 1 L)))), (qs, .inr (3, [.ref qg, .int 0, .int 0, .int 0])), (qg, .inl (tB, 72, .inl (zk_G w 72)))] := hD
  refine lv_aload_n hx hb dX2_corner2_13 rfl (lv_at hl 0 rfl) ?_
  refine lv_aload_n hx hb dX2_corner2_14 rfl (lv_at hl 0 rfl) ?_
  refine va_get (D := D) (ci := 1) (v := .int n) (C := RX2) (T := TX2) (N := 4) hx hb hts in_X2 hown hK hP 0 rfl rfl 1 (by decide) (hts _ q109) (fun _ h9 => h9) rfl dX2_corner2_15 ?_
  refine lv_iconst (v := 2) hx hb dX2_corner2_18 (by decide) ?_
  refine lv_isub hx hb dX2_corner2_19 ?_
  refine lv_iconst (v := 0) hx hb dX2_corner2_20 (by decide) ?_
  refine lv_iload_n hx hb dX2_corner2_21 rfl (lv_at hl 1 rfl) ?_
  refine lv_iconst (v := 2) hx hb dX2_corner2_22 (by decide) ?_
  refine zk_Vv CX hP hD hS ([]) [0, 1, 2, 3] [] (metX2_module l D tB tC tI _ h qs qg qb n N w (zk_pre ks 1 L) (ks.getD 1 0) (n - 2) 0 pos 2 (hk 1 (by omega)).1 (hk 1 (by omega)).2 hN (by rw [(zk_st 1 hL (by omega)).1]; exact hpos) (by rw [(zk_st 1 hL (by omega)).1]; exact hp) (by rw [(zk_st 1 hL (by omega)).2]; rfl) hw0) (lw_V q148 q150 qs1 q10 q151) 4 1 0 rfl rfl rfl (by decide +kernel) rfl hl.1 rfl (Nat.le_of_ble_eq_true rfl) dX2_corner2_23 ⟨Nat.le_of_ble_eq_true rfl, Nat.le_of_ble_eq_true rfl⟩ ⟨Nat.le_of_ble_eq_true rfl, Nat.le_of_ble_eq_true rfl⟩ rfl rfl rfl rfl (by decide) (fun _ H locs hw hP hD hS => ?_)
  have hP : va_P D zk_cl [(h, .inr (1, [.ref qs, .int n, .int n, .ref qb])), (qb, .inl (tB, N, .inl (zk_Bt w (zk_pre ks 2 L)))), (qs, .inr (3, [.ref qg, .int 0, .int 0, .int 0])), (qg, .inl (tB, 72, .inl (zk_G w 72)))] H := hP
  have hD : va_D A [(h, .inr (1, [.ref qs, .int n, .int n, .ref qb])), (qb, .inl (tB, N, .inl (zk_Bt w (zk_pre ks 2 L)))), (qs, .inr (3, [.ref qg, .int 0, .int 0, .int 0])), (qg, .inl (tB, 72, .inl (zk_G w 72)))] := hD
  refine lv_aload_n hx hb dX2_corner2_26 rfl (lv_at hl 0 rfl) ?_
  refine lv_aload_n hx hb dX2_corner2_27 rfl (lv_at hl 0 rfl) ?_
  refine va_get (D := D) (ci := 1) (v := .int n) (C := RX2) (T := TX2) (N := 4) hx hb hts in_X2 hown hK hP 0 rfl rfl 1 (by decide) (hts _ q109) (fun _ h9 => h9) rfl dX2_corner2_28 ?_
  refine lv_iconst (v := 1) hx hb dX2_corner2_31 (by decide) ?_
  refine lv_isub hx hb dX2_corner2_32 ?_
  refine lv_iconst (v := 0) hx hb dX2_corner2_33 (by decide) ?_
  refine lv_iload_n hx hb dX2_corner2_34 rfl (lv_at hl 1 rfl) ?_
  refine lv_iconst (v := 3) hx hb dX2_corner2_35 (by decide) ?_
  refine zk_Vv CX hP hD hS ([]) [0, 1, 2, 3] [] (metX2_module l D tB tC tI _ h qs qg qb n N w (zk_pre ks 2 L) (ks.getD 2 0) (n - 1) 0 pos 3 (hk 2 (by omega)).1 (hk 2 (by omega)).2 hN (by rw [(zk_st 2 hL (by omega)).1]; exact hpos) (by rw [(zk_st 2 hL (by omega)).1]; exact hp) (by rw [(zk_st 2 hL (by omega)).2]; rfl) hw0) (lw_V q148 q150 qs1 q10 q151) 4 1 0 rfl rfl rfl (by decide +kernel) rfl hl.1 rfl (Nat.le_of_ble_eq_true rfl) dX2_corner2_36 ⟨Nat.le_of_ble_eq_true rfl, Nat.le_of_ble_eq_true rfl⟩ ⟨Nat.le_of_ble_eq_true rfl, Nat.le_of_ble_eq_true rfl⟩ rfl rfl rfl rfl (by decide) (fun _ H locs hw hP hD hS => ?_)
  have hP : va_P D zk_cl [(h, .inr (1, [.ref qs, .int n, .int n, .ref qb])), (qb, .inl (tB, N, .inl (zk_Bt w (zk_pre ks 3 L)))), (qs, .inr (3, [.ref qg, .int 0, .int 0, .int 0])), (qg, .inl (tB, 72, .inl (zk_G w 72)))] H := hP
  have hD : va_D A [(h, .inr (1, [.ref qs, .int n, .int n, .ref qb])), (qb, .inl (tB, N, .inl (zk_Bt w (zk_pre ks 3 L)))), (qs, .inr (3, [.ref qg, .int 0, .int 0, .int 0])), (qg, .inl (tB, 72, .inl (zk_G w 72)))] := hD
  refine lv_aload_n hx hb dX2_corner2_39 rfl (lv_at hl 0 rfl) ?_
  refine lv_iconst (v := 0) hx hb dX2_corner2_40 (by decide) ?_
  refine lv_aload_n hx hb dX2_corner2_41 rfl (lv_at hl 0 rfl) ?_
  refine va_get (D := D) (ci := 1) (v := .int n) (C := RX2) (T := TX2) (N := 4) hx hb hts in_X2 hown hK hP 0 rfl rfl 2 (by decide) (hts _ q110) (fun _ h9 => h9) rfl dX2_corner2_42 ?_
  refine lv_iconst (v := 4) hx hb dX2_corner2_45 (by decide) ?_
  refine lv_isub hx hb dX2_corner2_46 ?_
  refine lv_iload_n hx hb dX2_corner2_47 rfl (lv_at hl 1 rfl) ?_
  refine lv_iconst (v := 4) hx hb dX2_corner2_48 (by decide) ?_
  refine zk_Vv CX hP hD hS ([]) [0, 1, 2, 3] [] (metX2_module l D tB tC tI _ h qs qg qb n N w (zk_pre ks 3 L) (ks.getD 3 0) 0 (n - 4) pos 4 (hk 3 (by omega)).1 (hk 3 (by omega)).2 hN (by rw [(zk_st 3 hL (by omega)).1]; exact hpos) (by rw [(zk_st 3 hL (by omega)).1]; exact hp) (by rw [(zk_st 3 hL (by omega)).2]; rfl) hw0) (lw_V q148 q150 qs1 q10 q151) 4 1 0 rfl rfl rfl (by decide +kernel) rfl hl.1 rfl (Nat.le_of_ble_eq_true rfl) dX2_corner2_49 ⟨Nat.le_of_ble_eq_true rfl, Nat.le_of_ble_eq_true rfl⟩ ⟨Nat.le_of_ble_eq_true rfl, Nat.le_of_ble_eq_true rfl⟩ rfl rfl rfl rfl (by decide) (fun _ H locs hw hP hD hS => ?_)
  have hP : va_P D zk_cl [(h, .inr (1, [.ref qs, .int n, .int n, .ref qb])), (qb, .inl (tB, N, .inl (zk_Bt w (zk_pre ks 4 L)))), (qs, .inr (3, [.ref qg, .int 0, .int 0, .int 0])), (qg, .inl (tB, 72, .inl (zk_G w 72)))] H := hP
  have hD : va_D A [(h, .inr (1, [.ref qs, .int n, .int n, .ref qb])), (qb, .inl (tB, N, .inl (zk_Bt w (zk_pre ks 4 L)))), (qs, .inr (3, [.ref qg, .int 0, .int 0, .int 0])), (qg, .inl (tB, 72, .inl (zk_G w 72)))] := hD
  refine lv_aload_n hx hb dX2_corner2_52 rfl (lv_at hl 0 rfl) ?_
  refine lv_iconst (v := 0) hx hb dX2_corner2_53 (by decide) ?_
  refine lv_aload_n hx hb dX2_corner2_54 rfl (lv_at hl 0 rfl) ?_
  refine va_get (D := D) (ci := 1) (v := .int n) (C := RX2) (T := TX2) (N := 4) hx hb hts in_X2 hown hK hP 0 rfl rfl 2 (by decide) (hts _ q110) (fun _ h9 => h9) rfl dX2_corner2_55 ?_
  refine lv_iconst (v := 3) hx hb dX2_corner2_58 (by decide) ?_
  refine lv_isub hx hb dX2_corner2_59 ?_
  refine lv_iload_n hx hb dX2_corner2_60 rfl (lv_at hl 1 rfl) ?_
  refine lv_iconst (v := 5) hx hb dX2_corner2_61 (by decide) ?_
  refine zk_Vv CX hP hD hS ([]) [0, 1, 2, 3] [] (metX2_module l D tB tC tI _ h qs qg qb n N w (zk_pre ks 4 L) (ks.getD 4 0) 0 (n - 3) pos 5 (hk 4 (by omega)).1 (hk 4 (by omega)).2 hN (by rw [(zk_st 4 hL (by omega)).1]; exact hpos) (by rw [(zk_st 4 hL (by omega)).1]; exact hp) (by rw [(zk_st 4 hL (by omega)).2]; rfl) hw0) (lw_V q148 q150 qs1 q10 q151) 4 1 0 rfl rfl rfl (by decide +kernel) rfl hl.1 rfl (Nat.le_of_ble_eq_true rfl) dX2_corner2_62 ⟨Nat.le_of_ble_eq_true rfl, Nat.le_of_ble_eq_true rfl⟩ ⟨Nat.le_of_ble_eq_true rfl, Nat.le_of_ble_eq_true rfl⟩ rfl rfl rfl rfl (by decide) (fun _ H locs hw hP hD hS => ?_)
  have hP : va_P D zk_cl [(h, .inr (1, [.ref qs, .int n, .int n, .ref qb])), (qb, .inl (tB, N, .inl (zk_Bt w (zk_pre ks 5 L)))), (qs, .inr (3, [.ref qg, .int 0, .int 0, .int 0])), (qg, .inl (tB, 72, .inl (zk_G w 72)))] H := hP
  have hD : va_D A [(h, .inr (1, [.ref qs, .int n, .int n, .ref qb])), (qb, .inl (tB, N, .inl (zk_Bt w (zk_pre ks 5 L)))), (qs, .inr (3, [.ref qg, .int 0, .int 0, .int 0])), (qg, .inl (tB, 72, .inl (zk_G w 72)))] := hD
  refine lv_aload_n hx hb dX2_corner2_65 rfl (lv_at hl 0 rfl) ?_
  refine lv_iconst (v := 0) hx hb dX2_corner2_66 (by decide) ?_
  refine lv_aload_n hx hb dX2_corner2_67 rfl (lv_at hl 0 rfl) ?_
  refine va_get (D := D) (ci := 1) (v := .int n) (C := RX2) (T := TX2) (N := 4) hx hb hts in_X2 hown hK hP 0 rfl rfl 2 (by decide) (hts _ q110) (fun _ h9 => h9) rfl dX2_corner2_68 ?_
  refine lv_iconst (v := 2) hx hb dX2_corner2_71 (by decide) ?_
  refine lv_isub hx hb dX2_corner2_72 ?_
  refine lv_iload_n hx hb dX2_corner2_73 rfl (lv_at hl 1 rfl) ?_
  refine lv_bipush (v := 6) hx hb dX2_corner2_74 (by decide) ?_
  refine zk_Vv CX hP hD hS ([]) [0, 1, 2, 3] [] (metX2_module l D tB tC tI _ h qs qg qb n N w (zk_pre ks 5 L) (ks.getD 5 0) 0 (n - 2) pos 6 (hk 5 (by omega)).1 (hk 5 (by omega)).2 hN (by rw [(zk_st 5 hL (by omega)).1]; exact hpos) (by rw [(zk_st 5 hL (by omega)).1]; exact hp) (by rw [(zk_st 5 hL (by omega)).2]; rfl) hw0) (lw_V q148 q150 qs1 q10 q151) 4 1 0 rfl rfl rfl (by decide +kernel) rfl hl.1 rfl (Nat.le_of_ble_eq_true rfl) dX2_corner2_76 ⟨Nat.le_of_ble_eq_true rfl, Nat.le_of_ble_eq_true rfl⟩ ⟨Nat.le_of_ble_eq_true rfl, Nat.le_of_ble_eq_true rfl⟩ rfl rfl rfl rfl (by decide) (fun _ H locs hw hP hD hS => ?_)
  have hP : va_P D zk_cl [(h, .inr (1, [.ref qs, .int n, .int n, .ref qb])), (qb, .inl (tB, N, .inl (zk_Bt w (zk_pre ks 6 L)))), (qs, .inr (3, [.ref qg, .int 0, .int 0, .int 0])), (qg, .inl (tB, 72, .inl (zk_G w 72)))] H := hP
  have hD : va_D A [(h, .inr (1, [.ref qs, .int n, .int n, .ref qb])), (qb, .inl (tB, N, .inl (zk_Bt w (zk_pre ks 6 L)))), (qs, .inr (3, [.ref qg, .int 0, .int 0, .int 0])), (qg, .inl (tB, 72, .inl (zk_G w 72)))] := hD
  refine lv_aload_n hx hb dX2_corner2_79 rfl (lv_at hl 0 rfl) ?_
  refine lv_iconst (v := 0) hx hb dX2_corner2_80 (by decide) ?_
  refine lv_aload_n hx hb dX2_corner2_81 rfl (lv_at hl 0 rfl) ?_
  refine va_get (D := D) (ci := 1) (v := .int n) (C := RX2) (T := TX2) (N := 4) hx hb hts in_X2 hown hK hP 0 rfl rfl 2 (by decide) (hts _ q110) (fun _ h9 => h9) rfl dX2_corner2_82 ?_
  refine lv_iconst (v := 1) hx hb dX2_corner2_85 (by decide) ?_
  refine lv_isub hx hb dX2_corner2_86 ?_
  refine lv_iload_n hx hb dX2_corner2_87 rfl (lv_at hl 1 rfl) ?_
  refine lv_bipush (v := 7) hx hb dX2_corner2_88 (by decide) ?_
  refine zk_Vv CX hP hD hS ([]) [0, 1, 2, 3] [] (metX2_module l D tB tC tI _ h qs qg qb n N w (zk_pre ks 6 L) (ks.getD 6 0) 0 (n - 1) pos 7 (hk 6 (by omega)).1 (hk 6 (by omega)).2 hN (by rw [(zk_st 6 hL (by omega)).1]; exact hpos) (by rw [(zk_st 6 hL (by omega)).1]; exact hp) (by rw [(zk_st 6 hL (by omega)).2]; rfl) hw0) (lw_V q148 q150 qs1 q10 q151) 4 1 0 rfl rfl rfl (by decide +kernel) rfl hl.1 rfl (Nat.le_of_ble_eq_true rfl) dX2_corner2_90 ⟨Nat.le_of_ble_eq_true rfl, Nat.le_of_ble_eq_true rfl⟩ ⟨Nat.le_of_ble_eq_true rfl, Nat.le_of_ble_eq_true rfl⟩ rfl rfl rfl rfl (by decide) (fun _ H locs hw hP hD hS => ?_)
  have hP : va_P D zk_cl [(h, .inr (1, [.ref qs, .int n, .int n, .ref qb])), (qb, .inl (tB, N, .inl (zk_Bt w (zk_pre ks 7 L)))), (qs, .inr (3, [.ref qg, .int 0, .int 0, .int 0])), (qg, .inl (tB, 72, .inl (zk_G w 72)))] H := hP
  have hD : va_D A [(h, .inr (1, [.ref qs, .int n, .int n, .ref qb])), (qb, .inl (tB, N, .inl (zk_Bt w (zk_pre ks 7 L)))), (qs, .inr (3, [.ref qg, .int 0, .int 0, .int 0])), (qg, .inl (tB, 72, .inl (zk_G w 72)))] := hD
  refine lv_aload_n hx hb dX2_corner2_93 rfl (lv_at hl 0 rfl) ?_
  refine lv_iconst (v := 1) hx hb dX2_corner2_94 (by decide) ?_
  refine lv_aload_n hx hb dX2_corner2_95 rfl (lv_at hl 0 rfl) ?_
  refine va_get (D := D) (ci := 1) (v := .int n) (C := RX2) (T := TX2) (N := 4) hx hb hts in_X2 hown hK hP 0 rfl rfl 2 (by decide) (hts _ q110) (fun _ h9 => h9) rfl dX2_corner2_96 ?_
  refine lv_iconst (v := 1) hx hb dX2_corner2_99 (by decide) ?_
  refine lv_isub hx hb dX2_corner2_100 ?_
  refine lv_iload_n hx hb dX2_corner2_101 rfl (lv_at hl 1 rfl) ?_
  refine lv_bipush (v := 8) hx hb dX2_corner2_102 (by decide) ?_
  refine zk_Vv CX hP hD hS ([]) [0, 1, 2, 3] [] (metX2_module l D tB tC tI _ h qs qg qb n N w (zk_pre ks 7 L) (ks.getD 7 0) 1 (n - 1) pos 8 (hk 7 (by omega)).1 (hk 7 (by omega)).2 hN (by rw [(zk_st 7 hL (by omega)).1]; exact hpos) (by rw [(zk_st 7 hL (by omega)).1]; exact hp) (by rw [(zk_st 7 hL (by omega)).2]; rfl) hw0) (lw_V q148 q150 qs1 q10 q151) 4 1 0 rfl rfl rfl (by decide +kernel) rfl hl.1 rfl (Nat.le_of_ble_eq_true rfl) dX2_corner2_104 ⟨Nat.le_of_ble_eq_true rfl, Nat.le_of_ble_eq_true rfl⟩ ⟨Nat.le_of_ble_eq_true rfl, Nat.le_of_ble_eq_true rfl⟩ rfl rfl rfl rfl (by decide) (fun _ H locs hw hP hD hS => ?_)
  have hP : va_P D zk_cl [(h, .inr (1, [.ref qs, .int n, .int n, .ref qb])), (qb, .inl (tB, N, .inl (zk_Bt w (zk_pre ks 8 L)))), (qs, .inr (3, [.ref qg, .int 0, .int 0, .int 0])), (qg, .inl (tB, 72, .inl (zk_G w 72)))] H := hP
  have hD : va_D A [(h, .inr (1, [.ref qs, .int n, .int n, .ref qb])), (qb, .inl (tB, N, .inl (zk_Bt w (zk_pre ks 8 L)))), (qs, .inr (3, [.ref qg, .int 0, .int 0, .int 0])), (qg, .inl (tB, 72, .inl (zk_G w 72)))] := hD
  exact zk_vret CX hQ hr hP hD hS () trivial [0, 1, 2, 3] rfl rfl (Nat.le_of_ble_eq_true rfl) (Nat.le_of_ble_eq_true rfl) dX2_corner2_107
end
section
/-! DefaultPlacement.place: the run's events -/
set_option maxRecDepth 100000

/-- the pcs of place's four heads -/
def zk_pcP : Nat → Nat
  | 0 => 6
  | 1 => 123
  | 2 => 178
  | _ => 249
theorem zk_Fin_in {w : Nat → Int32} {sd : Nat} {L : List Nat} (h : (sd - 1) * sd + (sd - 1) ∈ L) : zk_Bt w L = zk_Fin w sd L := (if_pos h).symm
theorem zk_Fin_out {w : Nat → Int32} {sd : Nat} {L : List Nat} (h : (sd - 1) * sd + (sd - 1) ∉ L) : upd (upd (zk_Bt w L) ((sd - 1) * sd + (sd - 1)) 1) ((sd - 2) * sd + (sd - 2)) 1 = zk_Fin w sd L := (if_neg h).symm
theorem zk_cor {nn k : Nat} (h8 : 8 ≤ nn) (h14 : nn ≤ 14) (hk : k ≤ 2) (hk1 : 1 ≤ k) : (nI nn - nI k) * nI nn + (nI nn - nI k) = nI ((nn - k) * nn + (nn - k)) ∧ (nn - k) * nn + (nn - k) < nn * nn := by
  rw [pk_sub (by omega), pk_mul, nI_add]
  refine ⟨rfl, ?_⟩
  have h : (nn - k) * nn + nn ≤ nn * nn := by
    have h1 : (nn - k) * nn + nn = (nn - k + 1) * nn := by rw [Nat.succ_mul]
    rw [h1]
    exact Nat.mul_le_mul_right nn (by omega)
  omega

set_option maxHeartbeats 4000000 in
set_option maxRecDepth 100000 in
theorem metX2_place (l : Launch) (D : va_G) (tB tC tI : ClassId) (sz : Nat) (h qs qg qb nn : Nat) (w : Nat → Int32) (Lf : List Nat) (tr0 : List zk_ev) (h8 : 8 ≤ nn) (h14 : nn ≤ 14) (hok : zk_ok (nI nn) (nn * nn) Lf tr0 0 4 0 0 [] = true) (hw0 : zk_W w) : zk_Mv l yX2_place cX2_place 4 none 6 133 D tB tC tI [.ref h] [(h, .inr (1, [.ref qs, .int (nI nn), .int (nI nn), .ref qb])), (qb, .inl (tB, (nn * nn), .inl (fun _ => -1))), (qs, .inr (3, [.ref qg, .int 0, .int 0, .int 0])), (qg, .inl (tB, 72, .inl (zk_G w 72)))] (fun (_ : Unit) => True) (fun (_ : Unit) => [(h, .inr (1, [.ref qs, .int (nI nn), .int (nI nn), .ref qb])), (qb, .inl (tB, (nn * nn), .inl (zk_Fin w nn Lf))), (qs, .inr (3, [.ref qg, .int 0, .int 0, .int 0])), (qg, .inl (tB, 72, .inl (zk_G w 72)))]) 0 0 sz := by
  refine zk_openV (by decide) (Nat.le_of_ble_eq_true rfl) (fun p e s m args below meth c ls A Q CX hr hnm hQ hsz hP hD hS hl => ?_)
  obtain ⟨hx, hb, hml, hown, hts, hA, hK, hZ, hlocks⟩ := id CX
  have hown : s.vm.findClass RX2 = some m.cls := hown
  have hl : lv_has ls 4 [(0, .ref h)] := hl
  have hN : nn * nn ≤ 196 := Nat.mul_le_mul h14 h14
  have END : ∀ (r0 c0 : Int32) (p0 : Nat) (H : Heap) (locs : List Loc) (ls : Array Slot), va_P D zk_cl [(h, .inr (1, [.ref qs, .int (nI nn), .int (nI nn), .ref qb])), (qb, .inl (tB, (nn * nn), .inl (zk_Bt w Lf))), (qs, .inr (3, [.ref qg, .int 0, .int 0, .int 0])), (qg, .inl (tB, 72, .inl (zk_G w 72)))] H → va_D A [(h, .inr (1, [.ref qs, .int (nI nn), .int (nI nn), .ref qb])), (qb, .inl (tB, (nn * nn), .inl (zk_Bt w Lf))), (qs, .inr (3, [.ref qg, .int 0, .int 0, .int 0])), (qg, .inl (tB, 72, .inl (zk_G w 72)))] → va_S A s.heap H locs → lv_has ls 4 [(0, .ref h), (1, .int (nI p0)), (2, .int r0), (3, .int c0)] → W p l e ({ frames := 6, cells := 0, slots := 0, locals := 133 } : Room) s m args below meth c H locs 0 0 Q (F0 m 249 ls []) := by
    intro r0 c0 p0 H locs ls hP hD hS hl
    obtain ⟨e1, l1⟩ := zk_cor (k := 1) h8 h14 (by omega) (by omega)
    obtain ⟨e2, l2⟩ := zk_cor (k := 2) h8 h14 (by omega) (by omega)
    have i1 : vp_in ((nI nn - 1) * nI nn + (nI nn - 1)) (nn * nn) := by rw [show (1 : Int32) = nI 1 from rfl, e1]; exact vp_in_nI l1 (by omega)
    have i2 : vp_in ((nI nn - 2) * nI nn + (nI nn - 2)) (nn * nn) := by rw [show (2 : Int32) = nI 2 from rfl, e2]; exact vp_in_nI l2 (by omega)
    have k1 : ((nI nn - 1) * nI nn + (nI nn - 1)).toNatClampNeg = (nn - 1) * nn + (nn - 1) := by rw [show (1 : Int32) = nI 1 from rfl, e1]; exact nI_clamp (by omega)
    have k2 : ((nI nn - 2) * nI nn + (nI nn - 2)).toNatClampNeg = (nn - 2) * nn + (nn - 2) := by rw [show (2 : Int32) = nI 2 from rfl, e2]; exact nI_clamp (by omega)
    refine lv_aload_n hx hb dX2_place_249 rfl (lv_at hl 0 rfl) ?_
    refine lv_aload_n hx hb dX2_place_250 rfl (lv_at hl 0 rfl) ?_
    refine va_get (D := D) (ci := 1) (v := .int (nI nn)) (C := RX2) (T := TX2) (N := 4) hx hb hts in_X2 hown hK hP 0 rfl rfl 2 (by decide) (hts _ q110) (fun _ h9 => h9) rfl dX2_place_251 ?_
    refine lv_iconst (v := 1) hx hb dX2_place_254 (by decide) ?_
    refine lv_isub hx hb dX2_place_255 ?_
    refine lv_aload_n hx hb dX2_place_256 rfl (lv_at hl 0 rfl) ?_
    refine va_get (D := D) (ci := 1) (v := .int (nI nn)) (C := RX2) (T := TX2) (N := 4) hx hb hts in_X2 hown hK hP 0 rfl rfl 1 (by decide) (hts _ q109) (fun _ h9 => h9) rfl dX2_place_257 ?_
    refine lv_iconst (v := 1) hx hb dX2_place_260 (by decide) ?_
    refine lv_isub hx hb dX2_place_261 ?_
    refine zk_Vi CX hP hD hS ([(qs, .inr (3, [.ref qg, .int 0, .int 0, .int 0])), (qg, .inl (tB, 72, .inl (zk_G w 72)))]) [0, 1] [2, 3] (metX2_noBit l D tB tC tI _ h qs qb (nI nn) (nI nn - 1) (nI nn - 1) (nn * nn) (zk_Bt w Lf) i1) (lw_V q198 q200 qs6 q10 q201) 2 1 0 rfl rfl rfl (by decide +kernel) rfl hl.1 rfl (Nat.le_of_ble_eq_true rfl) dX2_place_262 ⟨Nat.le_of_ble_eq_true rfl, Nat.le_of_ble_eq_true rfl⟩ ⟨Nat.le_of_ble_eq_true rfl, Nat.le_of_ble_eq_true rfl⟩ rfl rfl rfl rfl (by decide) (fun r_1 _ H locs hw hP hD hS => ?_)
    have hP : va_P D zk_cl [(qs, .inr (3, [.ref qg, .int 0, .int 0, .int 0])), (qg, .inl (tB, 72, .inl (zk_G w 72))), (h, .inr (1, [.ref qs, .int (nI nn), .int (nI nn), .ref qb])), (qb, .inl (tB, (nn * nn), .inl (zk_Bt w Lf)))] H := hP
    have hD : va_D A [(qs, .inr (3, [.ref qg, .int 0, .int 0, .int 0])), (qg, .inl (tB, 72, .inl (zk_G w 72))), (h, .inr (1, [.ref qs, .int (nI nn), .int (nI nn), .ref qb])), (qb, .inl (tB, (nn * nn), .inl (zk_Bt w Lf)))] := hD
    have hP := hP.sub (ws' := [(h, .inr (1, [.ref qs, .int (nI nn), .int (nI nn), .ref qb])), (qb, .inl (tB, (nn * nn), .inl (zk_Bt w Lf))), (qs, .inr (3, [.ref qg, .int 0, .int 0, .int 0])), (qg, .inl (tB, 72, .inl (zk_G w 72)))]) [2, 3, 0, 1] rfl
    have hD := hD.sub (ws' := [(h, .inr (1, [.ref qs, .int (nI nn), .int (nI nn), .ref qb])), (qb, .inl (tB, (nn * nn), .inl (zk_Bt w Lf))), (qs, .inr (3, [.ref qg, .int 0, .int 0, .int 0])), (qg, .inl (tB, 72, .inl (zk_G w 72)))]) [2, 3, 0, 1] (by decide) rfl
    rw [k1] at hw
    refine lv_if_eq (tgt := 302) hx hb dX2_place_265 (by decide) (fun h_ => ?_) (fun h_ => ?_)
    · have hm : (nn - 1) * nn + (nn - 1) ∈ Lf := Decidable.of_not_not (fun q => by rw [hw, if_pos (zk_Bt_neg.mpr q)] at h_; exact absurd h_ (by decide))
      rw [zk_Fin_in hm] at hP hD
      exact zk_vret CX hQ hr hP hD hS () trivial [0, 1, 2, 3] rfl rfl (Nat.le_of_ble_eq_true rfl) (Nat.le_of_ble_eq_true rfl) dX2_place_302
    · have hm : (nn - 1) * nn + (nn - 1) ∉ Lf := fun q => h_ (by rw [hw, if_neg (fun z => absurd q (zk_Bt_neg.mp z))])
      refine lv_aload_n hx hb dX2_place_268 rfl (lv_at hl 0 rfl) ?_
      refine lv_aload_n hx hb dX2_place_269 rfl (lv_at hl 0 rfl) ?_
      refine va_get (D := D) (ci := 1) (v := .int (nI nn)) (C := RX2) (T := TX2) (N := 4) hx hb hts in_X2 hown hK hP 0 rfl rfl 2 (by decide) (hts _ q110) (fun _ h9 => h9) rfl dX2_place_270 ?_
      refine lv_iconst (v := 1) hx hb dX2_place_273 (by decide) ?_
      refine lv_isub hx hb dX2_place_274 ?_
      refine lv_aload_n hx hb dX2_place_275 rfl (lv_at hl 0 rfl) ?_
      refine va_get (D := D) (ci := 1) (v := .int (nI nn)) (C := RX2) (T := TX2) (N := 4) hx hb hts in_X2 hown hK hP 0 rfl rfl 1 (by decide) (hts _ q109) (fun _ h9 => h9) rfl dX2_place_276 ?_
      refine lv_iconst (v := 1) hx hb dX2_place_279 (by decide) ?_
      refine lv_isub hx hb dX2_place_280 ?_
      refine lv_iconst (v := 1) hx hb dX2_place_281 (by decide) ?_
      refine zk_Vv CX hP hD hS ([(qs, .inr (3, [.ref qg, .int 0, .int 0, .int 0])), (qg, .inl (tB, 72, .inl (zk_G w 72)))]) [0, 1] [2, 3] (metX2_setBit l D tB tC tI _ h qs qb (nI nn) (nI nn - 1) (nI nn - 1) 1 (nn * nn) (zk_Bt w Lf) i1 (Or.inr rfl)) (lw_V q182 q184 qs2 q10 q185) 3 1 0 rfl rfl rfl (by decide +kernel) rfl hl.1 rfl (Nat.le_of_ble_eq_true rfl) dX2_place_282 ⟨Nat.le_of_ble_eq_true rfl, Nat.le_of_ble_eq_true rfl⟩ ⟨Nat.le_of_ble_eq_true rfl, Nat.le_of_ble_eq_true rfl⟩ rfl rfl rfl rfl (by decide) (fun _ H locs hw hP hD hS => ?_)
      have hP : va_P D zk_cl [(qs, .inr (3, [.ref qg, .int 0, .int 0, .int 0])), (qg, .inl (tB, 72, .inl (zk_G w 72))), (h, .inr (1, [.ref qs, .int (nI nn), .int (nI nn), .ref qb])), (qb, .inl (tB, (nn * nn), .inl (upd (zk_Bt w Lf) ((nI nn - 1) * nI nn + (nI nn - 1)).toNatClampNeg 1)))] H := hP
      have hD : va_D A [(qs, .inr (3, [.ref qg, .int 0, .int 0, .int 0])), (qg, .inl (tB, 72, .inl (zk_G w 72))), (h, .inr (1, [.ref qs, .int (nI nn), .int (nI nn), .ref qb])), (qb, .inl (tB, (nn * nn), .inl (upd (zk_Bt w Lf) ((nI nn - 1) * nI nn + (nI nn - 1)).toNatClampNeg 1)))] := hD
      refine lv_aload_n hx hb dX2_place_285 rfl (lv_at hl 0 rfl) ?_
      refine lv_aload_n hx hb dX2_place_286 rfl (lv_at hl 0 rfl) ?_
      refine va_get (D := D) (ci := 1) (v := .int (nI nn)) (C := RX2) (T := TX2) (N := 4) hx hb hts in_X2 hown hK hP 2 rfl rfl 2 (by decide) (hts _ q110) (fun _ h9 => h9) rfl dX2_place_287 ?_
      refine lv_iconst (v := 2) hx hb dX2_place_290 (by decide) ?_
      refine lv_isub hx hb dX2_place_291 ?_
      refine lv_aload_n hx hb dX2_place_292 rfl (lv_at hl 0 rfl) ?_
      refine va_get (D := D) (ci := 1) (v := .int (nI nn)) (C := RX2) (T := TX2) (N := 4) hx hb hts in_X2 hown hK hP 2 rfl rfl 1 (by decide) (hts _ q109) (fun _ h9 => h9) rfl dX2_place_293 ?_
      refine lv_iconst (v := 2) hx hb dX2_place_296 (by decide) ?_
      refine lv_isub hx hb dX2_place_297 ?_
      refine lv_iconst (v := 1) hx hb dX2_place_298 (by decide) ?_
      refine zk_Vv CX hP hD hS ([(qs, .inr (3, [.ref qg, .int 0, .int 0, .int 0])), (qg, .inl (tB, 72, .inl (zk_G w 72)))]) [2, 3] [0, 1] (metX2_setBit l D tB tC tI _ h qs qb (nI nn) (nI nn - 2) (nI nn - 2) 1 (nn * nn) (upd (zk_Bt w Lf) ((nI nn - 1) * nI nn + (nI nn - 1)).toNatClampNeg 1) i2 (Or.inr rfl)) (lw_V q182 q184 qs2 q10 q185) 3 1 0 rfl rfl rfl (by decide +kernel) rfl hl.1 rfl (Nat.le_of_ble_eq_true rfl) dX2_place_299 ⟨Nat.le_of_ble_eq_true rfl, Nat.le_of_ble_eq_true rfl⟩ ⟨Nat.le_of_ble_eq_true rfl, Nat.le_of_ble_eq_true rfl⟩ rfl rfl rfl rfl (by decide) (fun _ H locs hw hP hD hS => ?_)
      have hP : va_P D zk_cl [(qs, .inr (3, [.ref qg, .int 0, .int 0, .int 0])), (qg, .inl (tB, 72, .inl (zk_G w 72))), (h, .inr (1, [.ref qs, .int (nI nn), .int (nI nn), .ref qb])), (qb, .inl (tB, (nn * nn), .inl (upd (upd (zk_Bt w Lf) ((nI nn - 1) * nI nn + (nI nn - 1)).toNatClampNeg 1) ((nI nn - 2) * nI nn + (nI nn - 2)).toNatClampNeg 1)))] H := hP
      have hD : va_D A [(qs, .inr (3, [.ref qg, .int 0, .int 0, .int 0])), (qg, .inl (tB, 72, .inl (zk_G w 72))), (h, .inr (1, [.ref qs, .int (nI nn), .int (nI nn), .ref qb])), (qb, .inl (tB, (nn * nn), .inl (upd (upd (zk_Bt w Lf) ((nI nn - 1) * nI nn + (nI nn - 1)).toNatClampNeg 1) ((nI nn - 2) * nI nn + (nI nn - 2)).toNatClampNeg 1)))] := hD
      have hP := hP.sub (ws' := [(h, .inr (1, [.ref qs, .int (nI nn), .int (nI nn), .ref qb])), (qb, .inl (tB, (nn * nn), .inl (upd (upd (zk_Bt w Lf) ((nI nn - 1) * nI nn + (nI nn - 1)).toNatClampNeg 1) ((nI nn - 2) * nI nn + (nI nn - 2)).toNatClampNeg 1))), (qs, .inr (3, [.ref qg, .int 0, .int 0, .int 0])), (qg, .inl (tB, 72, .inl (zk_G w 72)))]) [2, 3, 0, 1] rfl
      have hD := hD.sub (ws' := [(h, .inr (1, [.ref qs, .int (nI nn), .int (nI nn), .ref qb])), (qb, .inl (tB, (nn * nn), .inl (upd (upd (zk_Bt w Lf) ((nI nn - 1) * nI nn + (nI nn - 1)).toNatClampNeg 1) ((nI nn - 2) * nI nn + (nI nn - 2)).toNatClampNeg 1))), (qs, .inr (3, [.ref qg, .int 0, .int 0, .int 0])), (qg, .inl (tB, 72, .inl (zk_G w 72)))]) [2, 3, 0, 1] (by decide) rfl
      rw [k1, k2, zk_Fin_out hm] at hP hD
      exact zk_vret CX hQ hr hP hD hS () trivial [0, 1, 2, 3] rfl rfl (Nat.le_of_ble_eq_true rfl) (Nat.le_of_ble_eq_true rfl) dX2_place_302
  have TU : ∀ (r0 c0 : Int32) (p0 : Nat) (L : List Nat) (H : Heap) (locs : List Loc) (ls : Array Slot), va_P D zk_cl [(h, .inr (1, [.ref qs, .int (nI nn), .int (nI nn), .ref qb])), (qb, .inl (tB, (nn * nn), .inl (zk_Bt w L))), (qs, .inr (3, [.ref qg, .int 0, .int 0, .int 0])), (qg, .inl (tB, 72, .inl (zk_G w 72)))] H → va_D A [(h, .inr (1, [.ref qs, .int (nI nn), .int (nI nn), .ref qb])), (qb, .inl (tB, (nn * nn), .inl (zk_Bt w L))), (qs, .inr (3, [.ref qg, .int 0, .int 0, .int 0])), (qg, .inl (tB, 72, .inl (zk_G w 72)))] → va_S A s.heap H locs → lv_has ls 4 [(0, .ref h), (1, .int (nI p0)), (2, .int r0), (3, .int c0)] → (zk_up (nI nn) r0 c0 → ∀ ls1 : Array Slot, lv_has ls1 4 [(0, .ref h), (1, .int (nI p0)), (2, .int (r0 + (-2))), (3, .int (c0 + 2))] → W p l e ({ frames := 6, cells := 0, slots := 0, locals := 133 } : Room) s m args below meth c H locs 0 0 Q (F0 m 123 ls1 [])) → (¬ zk_up (nI nn) r0 c0 → ∀ ls1 : Array Slot, lv_has ls1 4 [(0, .ref h), (1, .int (nI p0)), (2, .int (r0 + (-2) + 1)), (3, .int (c0 + 2 + 3))] → W p l e ({ frames := 6, cells := 0, slots := 0, locals := 133 } : Room) s m args below meth c H locs 0 0 Q (F0 m 178 ls1 [])) → W p l e ({ frames := 6, cells := 0, slots := 0, locals := 133 } : Room) s m args below meth c H locs 0 0 Q (F0 m 154 ls []) := by
    intro r0 c0 p0 L H locs ls hP hD hS hl
    intro K1 K2
    refine lv_iinc (v := r0 + (-2)) (lv' := [(2, .int (r0 + (-2))), (0, .ref h), (1, .int (nI p0)), (3, .int c0)]) hx hb dX2_place_154 hl (k := 2) rfl (zk_m2 _) (by decide) rfl (fun ls hl => ?_)
    refine lv_iinc (v := c0 + 2) (lv' := [(3, .int (c0 + 2)), (2, .int (r0 + (-2))), (0, .ref h), (1, .int (nI p0))]) hx hb dX2_place_157 hl (k := 3) rfl rfl (by decide) rfl (fun ls hl => ?_)
    refine lv_iload_n hx hb dX2_place_160 rfl (lv_at hl 1 rfl) ?_
    refine lv_if_lt (tgt := 172) hx hb dX2_place_161 (by decide) (fun h_ => ?_) (fun h_ => ?_)
    · refine lv_iinc (v := (r0 + (-2)) + 1) (lv' := [(2, .int ((r0 + (-2)) + 1)), (3, .int (c0 + 2)), (0, .ref h), (1, .int (nI p0))]) hx hb dX2_place_172 hl (k := 1) rfl rfl (by decide) rfl (fun ls hl => ?_)
      refine lv_iinc (v := (c0 + 2) + 3) (lv' := [(3, .int ((c0 + 2) + 3)), (2, .int ((r0 + (-2)) + 1)), (0, .ref h), (1, .int (nI p0))]) hx hb dX2_place_175 hl (k := 1) rfl rfl (by decide) rfl (fun ls hl => ?_)
      exact K2 (fun q => absurd h_ (Int32.not_lt.mpr q.1)) _ (lv_sub hl [2, 3, 1, 0] rfl)
    · refine lv_iload_n hx hb dX2_place_164 rfl (lv_at hl 0 rfl) ?_
      refine lv_aload_n hx hb dX2_place_165 rfl (lv_at hl 2 rfl) ?_
      refine va_get (D := D) (ci := 1) (v := .int (nI nn)) (C := RX2) (T := TX2) (N := 4) hx hb hts in_X2 hown hK hP 0 rfl rfl 2 (by decide) (hts _ q110) (fun _ h9 => h9) rfl dX2_place_166 ?_
      refine lv_icmp_lt (tgt := 123) hx hb dX2_place_169 (by decide) (fun h2_ => ?_) (fun h2_ => ?_)
      · exact K1 ⟨Int32.not_lt.mp h_, h2_⟩ _ (lv_sub hl [2, 3, 1, 0] rfl)
      · refine lv_iinc (v := (r0 + (-2)) + 1) (lv' := [(2, .int ((r0 + (-2)) + 1)), (3, .int (c0 + 2)), (0, .ref h), (1, .int (nI p0))]) hx hb dX2_place_172 hl (k := 1) rfl rfl (by decide) rfl (fun ls hl => ?_)
        refine lv_iinc (v := (c0 + 2) + 3) (lv' := [(3, .int ((c0 + 2) + 3)), (2, .int ((r0 + (-2)) + 1)), (0, .ref h), (1, .int (nI p0))]) hx hb dX2_place_175 hl (k := 1) rfl rfl (by decide) rfl (fun ls hl => ?_)
        exact K2 (fun q => h2_ q.2) _ (lv_sub hl [2, 3, 1, 0] rfl)
  have TD : ∀ (r0 c0 : Int32) (p0 : Nat) (L : List Nat) (H : Heap) (locs : List Loc) (ls : Array Slot), va_P D zk_cl [(h, .inr (1, [.ref qs, .int (nI nn), .int (nI nn), .ref qb])), (qb, .inl (tB, (nn * nn), .inl (zk_Bt w L))), (qs, .inr (3, [.ref qg, .int 0, .int 0, .int 0])), (qg, .inl (tB, 72, .inl (zk_G w 72)))] H → va_D A [(h, .inr (1, [.ref qs, .int (nI nn), .int (nI nn), .ref qb])), (qb, .inl (tB, (nn * nn), .inl (zk_Bt w L))), (qs, .inr (3, [.ref qg, .int 0, .int 0, .int 0])), (qg, .inl (tB, 72, .inl (zk_G w 72)))] → va_S A s.heap H locs → lv_has ls 4 [(0, .ref h), (1, .int (nI p0)), (2, .int r0), (3, .int c0)] → (zk_dn (nI nn) r0 c0 → ∀ ls1 : Array Slot, lv_has ls1 4 [(0, .ref h), (1, .int (nI p0)), (2, .int (r0 + 2)), (3, .int (c0 + (-2)))] → W p l e ({ frames := 6, cells := 0, slots := 0, locals := 133 } : Room) s m args below meth c H locs 0 0 Q (F0 m 178 ls1 [])) → (¬ zk_dn (nI nn) r0 c0 → zk_mo (nI nn) (r0 + 2 + 3) (c0 + (-2) + 1) → ∀ ls1 : Array Slot, lv_has ls1 4 [(0, .ref h), (1, .int (nI p0)), (2, .int (r0 + 2 + 3)), (3, .int (c0 + (-2) + 1))] → W p l e ({ frames := 6, cells := 0, slots := 0, locals := 133 } : Room) s m args below meth c H locs 0 0 Q (F0 m 6 ls1 [])) → (¬ zk_dn (nI nn) r0 c0 → ¬ zk_mo (nI nn) (r0 + 2 + 3) (c0 + (-2) + 1) → ∀ ls1 : Array Slot, lv_has ls1 4 [(0, .ref h), (1, .int (nI p0)), (2, .int (r0 + 2 + 3)), (3, .int (c0 + (-2) + 1))] → W p l e ({ frames := 6, cells := 0, slots := 0, locals := 133 } : Room) s m args below meth c H locs 0 0 Q (F0 m 249 ls1 [])) → W p l e ({ frames := 6, cells := 0, slots := 0, locals := 133 } : Room) s m args below meth c H locs 0 0 Q (F0 m 209 ls []) := by
    intro r0 c0 p0 L H locs ls hP hD hS hl
    intro K1 K2 K3
    refine lv_iinc (v := r0 + 2) (lv' := [(2, .int (r0 + 2)), (0, .ref h), (1, .int (nI p0)), (3, .int c0)]) hx hb dX2_place_209 hl (k := 2) rfl rfl (by decide) rfl (fun ls hl => ?_)
    refine lv_iinc (v := c0 + (-2)) (lv' := [(3, .int (c0 + (-2))), (2, .int (r0 + 2)), (0, .ref h), (1, .int (nI p0))]) hx hb dX2_place_212 hl (k := 3) rfl (zk_m2 _) (by decide) rfl (fun ls hl => ?_)
    have J227 : ¬ zk_dn (nI nn) r0 c0 → W p l e ({ frames := 6, cells := 0, slots := 0, locals := 133 } : Room) s m args below meth c H locs 0 0 Q (F0 m 227 ls []) := by
      intro hnd
      refine lv_iinc (v := (r0 + 2) + 3) (lv' := [(2, .int ((r0 + 2) + 3)), (3, .int (c0 + (-2))), (0, .ref h), (1, .int (nI p0))]) hx hb dX2_place_227 hl (k := 1) rfl rfl (by decide) rfl (fun ls hl => ?_)
      refine lv_iinc (v := (c0 + (-2)) + 1) (lv' := [(3, .int ((c0 + (-2)) + 1)), (2, .int ((r0 + 2) + 3)), (0, .ref h), (1, .int (nI p0))]) hx hb dX2_place_230 hl (k := 1) rfl rfl (by decide) rfl (fun ls hl => ?_)
      refine lv_iload_n hx hb dX2_place_233 rfl (lv_at hl 1 rfl) ?_
      refine lv_aload_n hx hb dX2_place_234 rfl (lv_at hl 2 rfl) ?_
      refine va_get (D := D) (ci := 1) (v := .int (nI nn)) (C := RX2) (T := TX2) (N := 4) hx hb hts in_X2 hown hK hP 0 rfl rfl 1 (by decide) (hts _ q109) (fun _ h9 => h9) rfl dX2_place_235 ?_
      refine lv_icmp_lt (tgt := 6) hx hb dX2_place_238 (by decide) (fun h3_ => ?_) (fun h3_ => ?_)
      · exact K2 hnd (Or.inl h3_) _ (lv_sub hl [2, 3, 1, 0] rfl)
      · refine lv_iload_n hx hb dX2_place_241 rfl (lv_at hl 0 rfl) ?_
        refine lv_aload_n hx hb dX2_place_242 rfl (lv_at hl 2 rfl) ?_
        refine va_get (D := D) (ci := 1) (v := .int (nI nn)) (C := RX2) (T := TX2) (N := 4) hx hb hts in_X2 hown hK hP 0 rfl rfl 2 (by decide) (hts _ q110) (fun _ h9 => h9) rfl dX2_place_243 ?_
        refine lv_icmp_lt (tgt := 6) hx hb dX2_place_246 (by decide) (fun h4_ => ?_) (fun h4_ => ?_)
        · exact K2 hnd (Or.inr h4_) _ (lv_sub hl [2, 3, 1, 0] rfl)
        · exact K3 hnd (fun q => q.elim h3_ h4_) _ (lv_sub hl [2, 3, 1, 0] rfl)
    refine lv_iload_n hx hb dX2_place_215 rfl (lv_at hl 1 rfl) ?_
    refine lv_aload_n hx hb dX2_place_216 rfl (lv_at hl 2 rfl) ?_
    refine va_get (D := D) (ci := 1) (v := .int (nI nn)) (C := RX2) (T := TX2) (N := 4) hx hb hts in_X2 hown hK hP 0 rfl rfl 1 (by decide) (hts _ q109) (fun _ h9 => h9) rfl dX2_place_217 ?_
    refine lv_icmp_ge (tgt := 227) hx hb dX2_place_220 (by decide) (fun h_ => ?_) (fun h_ => ?_)
    · exact J227 (fun q => absurd q.1 (Int32.not_lt.mpr h_))
    · refine lv_iload_n hx hb dX2_place_223 rfl (lv_at hl 0 rfl) ?_
      refine lv_if_ge (tgt := 178) hx hb dX2_place_224 (by decide) (fun h2_ => ?_) (fun h2_ => ?_)
      · exact K1 ⟨Int32.not_le.mp h_, h2_⟩ _ (lv_sub hl [2, 3, 1, 0] rfl)
      · exact J227 (fun q => h2_ q.2)
  have S6 : ∀ (r0 c0 : Int32) (p0 : Nat) (L : List Nat) (H : Heap) (locs : List Loc) (ls : Array Slot), va_P D zk_cl [(h, .inr (1, [.ref qs, .int (nI nn), .int (nI nn), .ref qb])), (qb, .inl (tB, (nn * nn), .inl (zk_Bt w L))), (qs, .inr (3, [.ref qg, .int 0, .int 0, .int 0])), (qg, .inl (tB, 72, .inl (zk_G w 72)))] H → va_D A [(h, .inr (1, [.ref qs, .int (nI nn), .int (nI nn), .ref qb])), (qb, .inl (tB, (nn * nn), .inl (zk_Bt w L))), (qs, .inr (3, [.ref qg, .int 0, .int 0, .int 0])), (qg, .inl (tB, 72, .inl (zk_G w 72)))] → va_S A s.heap H locs → lv_has ls 4 [(0, .ref h), (1, .int (nI p0)), (2, .int r0), (3, .int c0)] → ¬ zk_C1 (nI nn) r0 c0 → W p l e ({ frames := 6, cells := 0, slots := 0, locals := 133 } : Room) s m args below meth c H locs 0 0 Q (F0 m 26 ls []) → W p l e ({ frames := 6, cells := 0, slots := 0, locals := 133 } : Room) s m args below meth c H locs 0 0 Q (F0 m 6 ls []) := by
    intro r0 c0 p0 L H locs ls hP hD hS hl
    intro hC K
    refine lv_iload_n hx hb dX2_place_6 rfl (lv_at hl 2 rfl) ?_
    refine lv_aload_n hx hb dX2_place_7 rfl (lv_at hl 0 rfl) ?_
    refine va_get (D := D) (ci := 1) (v := .int (nI nn)) (C := RX2) (T := TX2) (N := 4) hx hb hts in_X2 hown hK hP 0 rfl rfl 1 (by decide) (hts _ q109) (fun _ h9 => h9) rfl dX2_place_8 ?_
    refine lv_icmp_ne (tgt := 26) hx hb dX2_place_11 (by decide) (fun h_ => ?_) (fun h_ => ?_)
    · exact K
    · refine lv_iload_n hx hb dX2_place_14 rfl (lv_at hl 3 rfl) ?_
      refine lv_if_ne (tgt := 26) hx hb dX2_place_15 (by decide) (fun h2_ => ?_) (fun h2_ => ?_)
      · exact K
      · exact absurd ⟨h_, h2_⟩ hC
  have S26 : ∀ (r0 c0 : Int32) (p0 : Nat) (L : List Nat) (H : Heap) (locs : List Loc) (ls : Array Slot), va_P D zk_cl [(h, .inr (1, [.ref qs, .int (nI nn), .int (nI nn), .ref qb])), (qb, .inl (tB, (nn * nn), .inl (zk_Bt w L))), (qs, .inr (3, [.ref qg, .int 0, .int 0, .int 0])), (qg, .inl (tB, 72, .inl (zk_G w 72)))] H → va_D A [(h, .inr (1, [.ref qs, .int (nI nn), .int (nI nn), .ref qb])), (qb, .inl (tB, (nn * nn), .inl (zk_Bt w L))), (qs, .inr (3, [.ref qg, .int 0, .int 0, .int 0])), (qg, .inl (tB, 72, .inl (zk_G w 72)))] → va_S A s.heap H locs → lv_has ls 4 [(0, .ref h), (1, .int (nI p0)), (2, .int r0), (3, .int c0)] → ¬ zk_C2 (nI nn) r0 c0 → W p l e ({ frames := 6, cells := 0, slots := 0, locals := 133 } : Room) s m args below meth c H locs 0 0 Q (F0 m 57 ls []) → W p l e ({ frames := 6, cells := 0, slots := 0, locals := 133 } : Room) s m args below meth c H locs 0 0 Q (F0 m 26 ls []) := by
    intro r0 c0 p0 L H locs ls hP hD hS hl
    intro hC K
    refine lv_iload_n hx hb dX2_place_26 rfl (lv_at hl 2 rfl) ?_
    refine lv_aload_n hx hb dX2_place_27 rfl (lv_at hl 0 rfl) ?_
    refine va_get (D := D) (ci := 1) (v := .int (nI nn)) (C := RX2) (T := TX2) (N := 4) hx hb hts in_X2 hown hK hP 0 rfl rfl 1 (by decide) (hts _ q109) (fun _ h9 => h9) rfl dX2_place_28 ?_
    refine lv_iconst (v := 2) hx hb dX2_place_31 (by decide) ?_
    refine lv_isub hx hb dX2_place_32 ?_
    refine lv_icmp_ne (tgt := 57) hx hb dX2_place_33 (by decide) (fun h_ => ?_) (fun h_ => ?_)
    · exact K
    · refine lv_iload_n hx hb dX2_place_36 rfl (lv_at hl 3 rfl) ?_
      refine lv_if_ne (tgt := 57) hx hb dX2_place_37 (by decide) (fun h2_ => ?_) (fun h2_ => ?_)
      · exact K
      · refine lv_aload_n hx hb dX2_place_40 rfl (lv_at hl 0 rfl) ?_
        refine va_get (D := D) (ci := 1) (v := .int (nI nn)) (C := RX2) (T := TX2) (N := 4) hx hb hts in_X2 hown hK hP 0 rfl rfl 2 (by decide) (hts _ q110) (fun _ h9 => h9) rfl dX2_place_41 ?_
        refine lv_iconst (v := 4) hx hb dX2_place_44 (by decide) ?_
        refine lv_irem hx hb dX2_place_45 (by decide) ?_
        refine lv_if_eq (tgt := 57) hx hb dX2_place_46 (by decide) (fun h3_ => ?_) (fun h3_ => ?_)
        · exact K
        · exact absurd ⟨h_, h2_, h3_⟩ hC
  have S57 : ∀ (r0 c0 : Int32) (p0 : Nat) (L : List Nat) (H : Heap) (locs : List Loc) (ls : Array Slot), va_P D zk_cl [(h, .inr (1, [.ref qs, .int (nI nn), .int (nI nn), .ref qb])), (qb, .inl (tB, (nn * nn), .inl (zk_Bt w L))), (qs, .inr (3, [.ref qg, .int 0, .int 0, .int 0])), (qg, .inl (tB, 72, .inl (zk_G w 72)))] H → va_D A [(h, .inr (1, [.ref qs, .int (nI nn), .int (nI nn), .ref qb])), (qb, .inl (tB, (nn * nn), .inl (zk_Bt w L))), (qs, .inr (3, [.ref qg, .int 0, .int 0, .int 0])), (qg, .inl (tB, 72, .inl (zk_G w 72)))] → va_S A s.heap H locs → lv_has ls 4 [(0, .ref h), (1, .int (nI p0)), (2, .int r0), (3, .int c0)] → ¬ zk_C3 (nI nn) r0 c0 → W p l e ({ frames := 6, cells := 0, slots := 0, locals := 133 } : Room) s m args below meth c H locs 0 0 Q (F0 m 90 ls []) → W p l e ({ frames := 6, cells := 0, slots := 0, locals := 133 } : Room) s m args below meth c H locs 0 0 Q (F0 m 57 ls []) := by
    intro r0 c0 p0 L H locs ls hP hD hS hl
    intro hC K
    refine lv_iload_n hx hb dX2_place_57 rfl (lv_at hl 2 rfl) ?_
    refine lv_aload_n hx hb dX2_place_58 rfl (lv_at hl 0 rfl) ?_
    refine va_get (D := D) (ci := 1) (v := .int (nI nn)) (C := RX2) (T := TX2) (N := 4) hx hb hts in_X2 hown hK hP 0 rfl rfl 1 (by decide) (hts _ q109) (fun _ h9 => h9) rfl dX2_place_59 ?_
    refine lv_iconst (v := 2) hx hb dX2_place_62 (by decide) ?_
    refine lv_isub hx hb dX2_place_63 ?_
    refine lv_icmp_ne (tgt := 90) hx hb dX2_place_64 (by decide) (fun h_ => ?_) (fun h_ => ?_)
    · exact K
    · refine lv_iload_n hx hb dX2_place_67 rfl (lv_at hl 3 rfl) ?_
      refine lv_if_ne (tgt := 90) hx hb dX2_place_68 (by decide) (fun h2_ => ?_) (fun h2_ => ?_)
      · exact K
      · refine lv_aload_n hx hb dX2_place_71 rfl (lv_at hl 0 rfl) ?_
        refine va_get (D := D) (ci := 1) (v := .int (nI nn)) (C := RX2) (T := TX2) (N := 4) hx hb hts in_X2 hown hK hP 0 rfl rfl 2 (by decide) (hts _ q110) (fun _ h9 => h9) rfl dX2_place_72 ?_
        refine lv_bipush (v := 8) hx hb dX2_place_75 (by decide) ?_
        refine lv_irem hx hb dX2_place_77 (by decide) ?_
        refine lv_iconst (v := 4) hx hb dX2_place_78 (by decide) ?_
        refine lv_icmp_ne (tgt := 90) hx hb dX2_place_79 (by decide) (fun h3_ => ?_) (fun h3_ => ?_)
        · exact K
        · exact absurd ⟨h_, h2_, h3_⟩ hC
  have S90 : ∀ (r0 c0 : Int32) (p0 : Nat) (L : List Nat) (H : Heap) (locs : List Loc) (ls : Array Slot), va_P D zk_cl [(h, .inr (1, [.ref qs, .int (nI nn), .int (nI nn), .ref qb])), (qb, .inl (tB, (nn * nn), .inl (zk_Bt w L))), (qs, .inr (3, [.ref qg, .int 0, .int 0, .int 0])), (qg, .inl (tB, 72, .inl (zk_G w 72)))] H → va_D A [(h, .inr (1, [.ref qs, .int (nI nn), .int (nI nn), .ref qb])), (qb, .inl (tB, (nn * nn), .inl (zk_Bt w L))), (qs, .inr (3, [.ref qg, .int 0, .int 0, .int 0])), (qg, .inl (tB, 72, .inl (zk_G w 72)))] → va_S A s.heap H locs → lv_has ls 4 [(0, .ref h), (1, .int (nI p0)), (2, .int r0), (3, .int c0)] → ¬ zk_C4 (nI nn) r0 c0 → W p l e ({ frames := 6, cells := 0, slots := 0, locals := 133 } : Room) s m args below meth c H locs 0 0 Q (F0 m 123 ls []) → W p l e ({ frames := 6, cells := 0, slots := 0, locals := 133 } : Room) s m args below meth c H locs 0 0 Q (F0 m 90 ls []) := by
    intro r0 c0 p0 L H locs ls hP hD hS hl
    intro hC K
    refine lv_iload_n hx hb dX2_place_90 rfl (lv_at hl 2 rfl) ?_
    refine lv_aload_n hx hb dX2_place_91 rfl (lv_at hl 0 rfl) ?_
    refine va_get (D := D) (ci := 1) (v := .int (nI nn)) (C := RX2) (T := TX2) (N := 4) hx hb hts in_X2 hown hK hP 0 rfl rfl 1 (by decide) (hts _ q109) (fun _ h9 => h9) rfl dX2_place_92 ?_
    refine lv_iconst (v := 4) hx hb dX2_place_95 (by decide) ?_
    refine lv_iadd hx hb dX2_place_96 ?_
    refine lv_icmp_ne (tgt := 123) hx hb dX2_place_97 (by decide) (fun h_ => ?_) (fun h_ => ?_)
    · exact K
    · refine lv_iload_n hx hb dX2_place_100 rfl (lv_at hl 3 rfl) ?_
      refine lv_iconst (v := 2) hx hb dX2_place_101 (by decide) ?_
      refine lv_icmp_ne (tgt := 123) hx hb dX2_place_102 (by decide) (fun h2_ => ?_) (fun h2_ => ?_)
      · exact K
      · refine lv_aload_n hx hb dX2_place_105 rfl (lv_at hl 0 rfl) ?_
        refine va_get (D := D) (ci := 1) (v := .int (nI nn)) (C := RX2) (T := TX2) (N := 4) hx hb hts in_X2 hown hK hP 0 rfl rfl 2 (by decide) (hts _ q110) (fun _ h9 => h9) rfl dX2_place_106 ?_
        refine lv_bipush (v := 8) hx hb dX2_place_109 (by decide) ?_
        refine lv_irem hx hb dX2_place_111 (by decide) ?_
        refine lv_if_ne (tgt := 123) hx hb dX2_place_112 (by decide) (fun h3_ => ?_) (fun h3_ => ?_)
        · exact K
        · exact absurd ⟨h_, h2_, h3_⟩ hC
  have LOOP : ∀ (tr : List zk_ev) (ph : Nat) (r0 c0 : Int32) (p0 : Nat) (L : List Nat) (H : Heap) (locs : List Loc) (ls : Array Slot), zk_ok (nI nn) (nn * nn) Lf tr ph r0 c0 p0 L = true → L.length = 8 * p0 → va_P D zk_cl [(h, .inr (1, [.ref qs, .int (nI nn), .int (nI nn), .ref qb])), (qb, .inl (tB, (nn * nn), .inl (zk_Bt w L))), (qs, .inr (3, [.ref qg, .int 0, .int 0, .int 0])), (qg, .inl (tB, 72, .inl (zk_G w 72)))] H → va_D A [(h, .inr (1, [.ref qs, .int (nI nn), .int (nI nn), .ref qb])), (qb, .inl (tB, (nn * nn), .inl (zk_Bt w L))), (qs, .inr (3, [.ref qg, .int 0, .int 0, .int 0])), (qg, .inl (tB, 72, .inl (zk_G w 72)))] → va_S A s.heap H locs → lv_has ls 4 [(0, .ref h), (1, .int (nI p0)), (2, .int r0), (3, .int c0)] → W p l e ({ frames := 6, cells := 0, slots := 0, locals := 133 } : Room) s m args below meth c H locs 0 0 Q (F0 m (zk_pcP ph) ls []) := by
    intro tr
    induction tr with
    | nil =>
      intro ph r0 c0 p0 L H locs ls hk hL hP hD hS hl
      obtain ⟨e1, e2, -⟩ := zk_ok_nil hk
      subst e1 e2
      exact END r0 c0 p0 H locs ls hP hD hS hl
    | cons ev tr ih =>
      intro ph r0 c0 p0 L H locs ls hk hL hP hD hS hl
      obtain ⟨t, r', c', j, ks, ph2, r2, c2⟩ := ev
      obtain ⟨⟨e1, e2, e3⟩, hc, hn⟩ := zk_ok_cons hk
      subst e1 e2 e3
      have hL' := zk_nL_len (t := t) (ks := ks) hL
      have ht : t = 0 ∨ t = 1 ∨ t = 2 ∨ t = 3 ∨ t = 4 ∨ t = 5 ∨ t = 6 ∨ ∃ z, t = z + 7 := by
        rcases Nat.lt_or_ge t 7 with q | q
        · omega
        · exact Or.inr (Or.inr (Or.inr (Or.inr (Or.inr (Or.inr (Or.inr ⟨t - 7, by omega⟩))))))
      rcases ht with e | e | e | e | e | e | e | ⟨z, e⟩ <;> subst e
      · refine W.eq (g2 := F0 m 6 ls []) rfl ?_
        obtain ⟨-, n1, n2, n3, n4, e1, e2, e3⟩ := zk_s0 hc
        subst e1; have e2 := e2.symm; have e3 := e3.symm; subst e2 e3
        exact S6 r0 c0 p0 L H locs ls hP hD hS hl n1 (S26 r0 c0 p0 L H locs ls hP hD hS hl n2 (S57 r0 c0 p0 L H locs ls hP hD hS hl n3 (S90 r0 c0 p0 L H locs ls hP hD hS hl n4 (ih 1 r0 c0 p0 L H locs ls hn hL' hP hD hS hl))))
      · refine W.eq (g2 := F0 m 6 ls []) rfl ?_
        obtain ⟨-, n1, n2, n3, n4, hp, hk8, e1, e2, e3⟩ := zk_s1 hc
        subst e1; have e2 := e2.symm; have e3 := e3.symm; subst e2 e3
        refine lv_iload_n hx hb dX2_place_6 rfl (lv_at hl 2 rfl) ?_
        refine lv_aload_n hx hb dX2_place_7 rfl (lv_at hl 0 rfl) ?_
        refine va_get (D := D) (ci := 1) (v := .int (nI nn)) (C := RX2) (T := TX2) (N := 4) hx hb hts in_X2 hown hK hP 0 rfl rfl 1 (by decide) (hts _ q109) (fun _ h9 => h9) rfl dX2_place_8 ?_
        refine lv_icmp_ne (tgt := 26) hx hb dX2_place_11 (by decide) (fun h_ => absurd n1.1 h_) (fun h_ => ?_)
        refine lv_iload_n hx hb dX2_place_14 rfl (lv_at hl 3 rfl) ?_
        refine lv_if_ne (tgt := 26) hx hb dX2_place_15 (by decide) (fun h_ => absurd n1.2 h_) (fun h_ => ?_)
        refine lv_aload_n hx hb dX2_place_18 rfl (lv_at hl 0 rfl) ?_
        refine lv_iload_n hx hb dX2_place_19 rfl (lv_at hl 1 rfl) ?_
        refine lv_iinc (v := nI (p0 + 1)) (lv' := [(1, .int (nI (p0 + 1))), (0, .ref h), (2, .int r0), (3, .int c0)]) hx hb dX2_place_20 hl (k := 1) rfl (nI_1 p0) (by decide) rfl (fun ls hl => ?_)
        refine zk_Vv CX hP hD hS ([]) [0, 1, 2, 3] [] (metX2_corner1 l D tB tC tI _ h qs qg qb (nI nn) (nn * nn) w L ks p0 (nI p0) hk8 hN rfl hL (by omega) hw0) (lw_V q144 q146 qs0 q10 q147) 1 1 0 rfl rfl rfl (by decide +kernel) rfl hl.1 rfl (Nat.le_of_ble_eq_true rfl) dX2_place_23 ⟨Nat.le_of_ble_eq_true rfl, Nat.le_of_ble_eq_true rfl⟩ ⟨Nat.le_of_ble_eq_true rfl, Nat.le_of_ble_eq_true rfl⟩ rfl rfl rfl rfl (by decide) (fun _ H locs hw hP hD hS => ?_)
        have hP : va_P D zk_cl [(h, .inr (1, [.ref qs, .int (nI nn), .int (nI nn), .ref qb])), (qb, .inl (tB, (nn * nn), .inl (zk_Bt w (zk_pre ks 8 L)))), (qs, .inr (3, [.ref qg, .int 0, .int 0, .int 0])), (qg, .inl (tB, 72, .inl (zk_G w 72)))] H := hP
        have hD : va_D A [(h, .inr (1, [.ref qs, .int (nI nn), .int (nI nn), .ref qb])), (qb, .inl (tB, (nn * nn), .inl (zk_Bt w (zk_pre ks 8 L)))), (qs, .inr (3, [.ref qg, .int 0, .int 0, .int 0])), (qg, .inl (tB, 72, .inl (zk_G w 72)))] := hD
        have hl : lv_has ls 4 [(0, .ref h), (1, .int (nI (p0 + 1))), (2, .int r0), (3, .int c0)] := (lv_sub hl [1, 0, 2, 3] rfl)
        exact S26 r0 c0 (p0 + 1) (zk_pre ks 8 L) H locs ls hP hD hS hl n2 (S57 r0 c0 (p0 + 1) (zk_pre ks 8 L) H locs ls hP hD hS hl n3 (S90 r0 c0 (p0 + 1) (zk_pre ks 8 L) H locs ls hP hD hS hl n4 (ih 1 r0 c0 (p0 + 1) (zk_pre ks 8 L) H locs ls hn hL' hP hD hS hl)))
      · refine W.eq (g2 := F0 m 6 ls []) rfl ?_
        obtain ⟨-, n1, n2, n3, n4, hp, hk8, e1, e2, e3⟩ := zk_s2 hc
        subst e1; have e2 := e2.symm; have e3 := e3.symm; subst e2 e3
        refine S6 r0 c0 p0 L H locs ls hP hD hS hl n1 ?_
        refine lv_iload_n hx hb dX2_place_26 rfl (lv_at hl 2 rfl) ?_
        refine lv_aload_n hx hb dX2_place_27 rfl (lv_at hl 0 rfl) ?_
        refine va_get (D := D) (ci := 1) (v := .int (nI nn)) (C := RX2) (T := TX2) (N := 4) hx hb hts in_X2 hown hK hP 0 rfl rfl 1 (by decide) (hts _ q109) (fun _ h9 => h9) rfl dX2_place_28 ?_
        refine lv_iconst (v := 2) hx hb dX2_place_31 (by decide) ?_
        refine lv_isub hx hb dX2_place_32 ?_
        refine lv_icmp_ne (tgt := 57) hx hb dX2_place_33 (by decide) (fun h_ => absurd n2.1 h_) (fun h_ => ?_)
        refine lv_iload_n hx hb dX2_place_36 rfl (lv_at hl 3 rfl) ?_
        refine lv_if_ne (tgt := 57) hx hb dX2_place_37 (by decide) (fun h_ => absurd n2.2.1 h_) (fun h_ => ?_)
        refine lv_aload_n hx hb dX2_place_40 rfl (lv_at hl 0 rfl) ?_
        refine va_get (D := D) (ci := 1) (v := .int (nI nn)) (C := RX2) (T := TX2) (N := 4) hx hb hts in_X2 hown hK hP 0 rfl rfl 2 (by decide) (hts _ q110) (fun _ h9 => h9) rfl dX2_place_41 ?_
        refine lv_iconst (v := 4) hx hb dX2_place_44 (by decide) ?_
        refine lv_irem hx hb dX2_place_45 (by decide) ?_
        refine lv_if_eq (tgt := 57) hx hb dX2_place_46 (by decide) (fun h_ => absurd h_ n2.2.2) (fun h_ => ?_)
        refine lv_aload_n hx hb dX2_place_49 rfl (lv_at hl 0 rfl) ?_
        refine lv_iload_n hx hb dX2_place_50 rfl (lv_at hl 1 rfl) ?_
        refine lv_iinc (v := nI (p0 + 1)) (lv' := [(1, .int (nI (p0 + 1))), (0, .ref h), (2, .int r0), (3, .int c0)]) hx hb dX2_place_51 hl (k := 1) rfl (nI_1 p0) (by decide) rfl (fun ls hl => ?_)
        refine zk_Vv CX hP hD hS ([]) [0, 1, 2, 3] [] (metX2_corner2 l D tB tC tI _ h qs qg qb (nI nn) (nn * nn) w L ks p0 (nI p0) hk8 hN rfl hL (by omega) hw0) (lw_V q186 q188 qs3 q10 q189) 1 1 0 rfl rfl rfl (by decide +kernel) rfl hl.1 rfl (Nat.le_of_ble_eq_true rfl) dX2_place_54 ⟨Nat.le_of_ble_eq_true rfl, Nat.le_of_ble_eq_true rfl⟩ ⟨Nat.le_of_ble_eq_true rfl, Nat.le_of_ble_eq_true rfl⟩ rfl rfl rfl rfl (by decide) (fun _ H locs hw hP hD hS => ?_)
        have hP : va_P D zk_cl [(h, .inr (1, [.ref qs, .int (nI nn), .int (nI nn), .ref qb])), (qb, .inl (tB, (nn * nn), .inl (zk_Bt w (zk_pre ks 8 L)))), (qs, .inr (3, [.ref qg, .int 0, .int 0, .int 0])), (qg, .inl (tB, 72, .inl (zk_G w 72)))] H := hP
        have hD : va_D A [(h, .inr (1, [.ref qs, .int (nI nn), .int (nI nn), .ref qb])), (qb, .inl (tB, (nn * nn), .inl (zk_Bt w (zk_pre ks 8 L)))), (qs, .inr (3, [.ref qg, .int 0, .int 0, .int 0])), (qg, .inl (tB, 72, .inl (zk_G w 72)))] := hD
        have hl : lv_has ls 4 [(0, .ref h), (1, .int (nI (p0 + 1))), (2, .int r0), (3, .int c0)] := (lv_sub hl [1, 0, 2, 3] rfl)
        exact S57 r0 c0 (p0 + 1) (zk_pre ks 8 L) H locs ls hP hD hS hl n3 (S90 r0 c0 (p0 + 1) (zk_pre ks 8 L) H locs ls hP hD hS hl n4 (ih 1 r0 c0 (p0 + 1) (zk_pre ks 8 L) H locs ls hn hL' hP hD hS hl))
      · refine W.eq (g2 := F0 m 123 ls []) rfl ?_
        obtain ⟨hc, hnx⟩ := zk_s3 hc
        have KT : ∀ (H : Heap) (locs : List Loc), va_P D zk_cl [(h, .inr (1, [.ref qs, .int (nI nn), .int (nI nn), .ref qb])), (qb, .inl (tB, (nn * nn), .inl (zk_Bt w L))), (qs, .inr (3, [.ref qg, .int 0, .int 0, .int 0])), (qg, .inl (tB, 72, .inl (zk_G w 72)))] H → va_D A [(h, .inr (1, [.ref qs, .int (nI nn), .int (nI nn), .ref qb])), (qb, .inl (tB, (nn * nn), .inl (zk_Bt w L))), (qs, .inr (3, [.ref qg, .int 0, .int 0, .int 0])), (qg, .inl (tB, 72, .inl (zk_G w 72)))] → va_S A s.heap H locs → W p l e ({ frames := 6, cells := 0, slots := 0, locals := 133 } : Room) s m args below meth c H locs 0 0 Q (F0 m 154 ls []) := by
          intro H locs hP hD hS
          refine TU r0 c0 p0 L H locs ls hP hD hS hl (fun hq ls1 hl1 => ?_) (fun hq ls1 hl1 => ?_)
          · rcases hnx with ⟨-, e1, e2, e3⟩ | ⟨q, -⟩
            · subst e1 e2 e3
              exact ih 1 _ _ p0 L H locs ls1 hn hL' hP hD hS hl1
            · exact absurd hq q
          · rcases hnx with ⟨q, -⟩ | ⟨-, e1, e2, e3⟩
            · exact absurd q hq
            · subst e1 e2 e3
              exact ih 2 _ _ p0 L H locs ls1 hn hL' hP hD hS hl1
        refine lv_iload_n hx hb dX2_place_123 rfl (lv_at hl 2 rfl) ?_
        refine lv_aload_n hx hb dX2_place_124 rfl (lv_at hl 0 rfl) ?_
        refine va_get (D := D) (ci := 1) (v := .int (nI nn)) (C := RX2) (T := TX2) (N := 4) hx hb hts in_X2 hown hK hP 0 rfl rfl 1 (by decide) (hts _ q109) (fun _ h9 => h9) rfl dX2_place_125 ?_
        refine lv_icmp_ge (tgt := 154) hx hb dX2_place_128 (by decide) (fun h_ => ?_) (fun h_ => ?_)
        · exact KT H locs hP hD hS
        · refine lv_iload_n hx hb dX2_place_131 rfl (lv_at hl 3 rfl) ?_
          refine lv_if_lt (tgt := 154) hx hb dX2_place_132 (by decide) (fun h2_ => ?_) (fun h2_ => ?_)
          · exact KT H locs hP hD hS
          · obtain ⟨hi, hj⟩ := (hc.resolve_left (fun q => q (Int32.not_le.mp h_))).resolve_left h2_
            have ix : vp_in (r0 * nI nn + c0) (nn * nn) := by rw [hi.2.2.2.2.1]; exact vp_in_nI hi.2.2.2.2.2 (by omega)
            have kx : (r0 * nI nn + c0).toNatClampNeg = j := by rw [hi.2.2.2.2.1]; exact nI_clamp (zk_N31 hN hi.2.2.2.2.2)
            refine lv_aload_n hx hb dX2_place_135 rfl (lv_at hl 0 rfl) ?_
            refine lv_iload_n hx hb dX2_place_136 rfl (lv_at hl 3 rfl) ?_
            refine lv_iload_n hx hb dX2_place_137 rfl (lv_at hl 2 rfl) ?_
            refine zk_Vi CX hP hD hS ([(qs, .inr (3, [.ref qg, .int 0, .int 0, .int 0])), (qg, .inl (tB, 72, .inl (zk_G w 72)))]) [0, 1] [2, 3] (metX2_noBit l D tB tC tI _ h qs qb (nI nn) c0 r0 (nn * nn) (zk_Bt w L) ix) (lw_V q198 q200 qs6 q10 q201) 2 1 0 rfl rfl rfl (by decide +kernel) rfl hl.1 rfl (Nat.le_of_ble_eq_true rfl) dX2_place_138 ⟨Nat.le_of_ble_eq_true rfl, Nat.le_of_ble_eq_true rfl⟩ ⟨Nat.le_of_ble_eq_true rfl, Nat.le_of_ble_eq_true rfl⟩ rfl rfl rfl rfl (by decide) (fun r_1 _ H locs hw hP hD hS => ?_)
            have hP : va_P D zk_cl [(qs, .inr (3, [.ref qg, .int 0, .int 0, .int 0])), (qg, .inl (tB, 72, .inl (zk_G w 72))), (h, .inr (1, [.ref qs, .int (nI nn), .int (nI nn), .ref qb])), (qb, .inl (tB, (nn * nn), .inl (zk_Bt w L)))] H := hP
            have hD : va_D A [(qs, .inr (3, [.ref qg, .int 0, .int 0, .int 0])), (qg, .inl (tB, 72, .inl (zk_G w 72))), (h, .inr (1, [.ref qs, .int (nI nn), .int (nI nn), .ref qb])), (qb, .inl (tB, (nn * nn), .inl (zk_Bt w L)))] := hD
            have hP := hP.sub (ws' := [(h, .inr (1, [.ref qs, .int (nI nn), .int (nI nn), .ref qb])), (qb, .inl (tB, (nn * nn), .inl (zk_Bt w L))), (qs, .inr (3, [.ref qg, .int 0, .int 0, .int 0])), (qg, .inl (tB, 72, .inl (zk_G w 72)))]) [2, 3, 0, 1] rfl
            have hD := hD.sub (ws' := [(h, .inr (1, [.ref qs, .int (nI nn), .int (nI nn), .ref qb])), (qb, .inl (tB, (nn * nn), .inl (zk_Bt w L))), (qs, .inr (3, [.ref qg, .int 0, .int 0, .int 0])), (qg, .inl (tB, 72, .inl (zk_G w 72)))]) [2, 3, 0, 1] (by decide) rfl
            rw [kx] at hw
            refine lv_if_eq (tgt := 154) hx hb dX2_place_141 (by decide) (fun h_ => ?_) (fun h_ => absurd (by rw [hw]; exact if_neg (fun q => absurd hj (zk_Bt_neg.mp q))) h_)
            exact KT H locs hP hD hS
      · refine W.eq (g2 := F0 m 123 ls []) rfl ?_
        obtain ⟨hi, hj, hp, hk8, hnx⟩ := zk_s4 hc
        refine lv_iload_n hx hb dX2_place_123 rfl (lv_at hl 2 rfl) ?_
        refine lv_aload_n hx hb dX2_place_124 rfl (lv_at hl 0 rfl) ?_
        refine va_get (D := D) (ci := 1) (v := .int (nI nn)) (C := RX2) (T := TX2) (N := 4) hx hb hts in_X2 hown hK hP 0 rfl rfl 1 (by decide) (hts _ q109) (fun _ h9 => h9) rfl dX2_place_125 ?_
        refine lv_icmp_ge (tgt := 154) hx hb dX2_place_128 (by decide) (fun h_ => absurd h_ (Int32.not_le.mpr hi.2.1)) (fun h_ => ?_)
        refine lv_iload_n hx hb dX2_place_131 rfl (lv_at hl 3 rfl) ?_
        refine lv_if_lt (tgt := 154) hx hb dX2_place_132 (by decide) (fun h_ => absurd h_ (Int32.not_lt.mpr hi.2.2.1)) (fun h_ => ?_)
        have ix : vp_in (r0 * nI nn + c0) (nn * nn) := by rw [hi.2.2.2.2.1]; exact vp_in_nI hi.2.2.2.2.2 (by omega)
        have kx : (r0 * nI nn + c0).toNatClampNeg = j := by rw [hi.2.2.2.2.1]; exact nI_clamp (zk_N31 hN hi.2.2.2.2.2)
        refine lv_aload_n hx hb dX2_place_135 rfl (lv_at hl 0 rfl) ?_
        refine lv_iload_n hx hb dX2_place_136 rfl (lv_at hl 3 rfl) ?_
        refine lv_iload_n hx hb dX2_place_137 rfl (lv_at hl 2 rfl) ?_
        refine zk_Vi CX hP hD hS ([(qs, .inr (3, [.ref qg, .int 0, .int 0, .int 0])), (qg, .inl (tB, 72, .inl (zk_G w 72)))]) [0, 1] [2, 3] (metX2_noBit l D tB tC tI _ h qs qb (nI nn) c0 r0 (nn * nn) (zk_Bt w L) ix) (lw_V q198 q200 qs6 q10 q201) 2 1 0 rfl rfl rfl (by decide +kernel) rfl hl.1 rfl (Nat.le_of_ble_eq_true rfl) dX2_place_138 ⟨Nat.le_of_ble_eq_true rfl, Nat.le_of_ble_eq_true rfl⟩ ⟨Nat.le_of_ble_eq_true rfl, Nat.le_of_ble_eq_true rfl⟩ rfl rfl rfl rfl (by decide) (fun r_1 _ H locs hw hP hD hS => ?_)
        have hP : va_P D zk_cl [(qs, .inr (3, [.ref qg, .int 0, .int 0, .int 0])), (qg, .inl (tB, 72, .inl (zk_G w 72))), (h, .inr (1, [.ref qs, .int (nI nn), .int (nI nn), .ref qb])), (qb, .inl (tB, (nn * nn), .inl (zk_Bt w L)))] H := hP
        have hD : va_D A [(qs, .inr (3, [.ref qg, .int 0, .int 0, .int 0])), (qg, .inl (tB, 72, .inl (zk_G w 72))), (h, .inr (1, [.ref qs, .int (nI nn), .int (nI nn), .ref qb])), (qb, .inl (tB, (nn * nn), .inl (zk_Bt w L)))] := hD
        have hP := hP.sub (ws' := [(h, .inr (1, [.ref qs, .int (nI nn), .int (nI nn), .ref qb])), (qb, .inl (tB, (nn * nn), .inl (zk_Bt w L))), (qs, .inr (3, [.ref qg, .int 0, .int 0, .int 0])), (qg, .inl (tB, 72, .inl (zk_G w 72)))]) [2, 3, 0, 1] rfl
        have hD := hD.sub (ws' := [(h, .inr (1, [.ref qs, .int (nI nn), .int (nI nn), .ref qb])), (qb, .inl (tB, (nn * nn), .inl (zk_Bt w L))), (qs, .inr (3, [.ref qg, .int 0, .int 0, .int 0])), (qg, .inl (tB, 72, .inl (zk_G w 72)))]) [2, 3, 0, 1] (by decide) rfl
        rw [kx] at hw
        refine lv_if_eq (tgt := 154) hx hb dX2_place_141 (by decide) (fun h_ => absurd h_ (by rw [hw, if_pos (zk_Bt_neg.mpr hj)]; decide)) (fun h_ => ?_)
        refine lv_aload_n hx hb dX2_place_144 rfl (lv_at hl 0 rfl) ?_
        refine lv_iload_n hx hb dX2_place_145 rfl (lv_at hl 2 rfl) ?_
        refine lv_iload_n hx hb dX2_place_146 rfl (lv_at hl 3 rfl) ?_
        refine lv_iload_n hx hb dX2_place_147 rfl (lv_at hl 1 rfl) ?_
        refine lv_iinc (v := nI (p0 + 1)) (lv' := [(1, .int (nI (p0 + 1))), (0, .ref h), (2, .int r0), (3, .int c0)]) hx hb dX2_place_148 hl (k := 1) rfl (nI_1 p0) (by decide) rfl (fun ls hl => ?_)
        refine zk_Vv CX hP hD hS ([]) [0, 1, 2, 3] [] (metX2_utah l D tB tC tI _ h qs qg qb (nI nn) (nn * nn) w L ks p0 r0 c0 (nI p0) hk8 hN rfl hL (by omega) hw0) (lw_V q202 q204 qs7 q10 q205) 3 1 0 rfl rfl rfl (by decide +kernel) rfl hl.1 rfl (Nat.le_of_ble_eq_true rfl) dX2_place_151 ⟨Nat.le_of_ble_eq_true rfl, Nat.le_of_ble_eq_true rfl⟩ ⟨Nat.le_of_ble_eq_true rfl, Nat.le_of_ble_eq_true rfl⟩ rfl rfl rfl rfl (by decide) (fun _ H locs hw hP hD hS => ?_)
        have hP : va_P D zk_cl [(h, .inr (1, [.ref qs, .int (nI nn), .int (nI nn), .ref qb])), (qb, .inl (tB, (nn * nn), .inl (zk_Bt w (zk_pre ks 8 L)))), (qs, .inr (3, [.ref qg, .int 0, .int 0, .int 0])), (qg, .inl (tB, 72, .inl (zk_G w 72)))] H := hP
        have hD : va_D A [(h, .inr (1, [.ref qs, .int (nI nn), .int (nI nn), .ref qb])), (qb, .inl (tB, (nn * nn), .inl (zk_Bt w (zk_pre ks 8 L)))), (qs, .inr (3, [.ref qg, .int 0, .int 0, .int 0])), (qg, .inl (tB, 72, .inl (zk_G w 72)))] := hD
        have hl : lv_has ls 4 [(0, .ref h), (1, .int (nI (p0 + 1))), (2, .int r0), (3, .int c0)] := (lv_sub hl [1, 0, 2, 3] rfl)
        refine TU r0 c0 (p0 + 1) (zk_pre ks 8 L) H locs ls hP hD hS hl (fun hq ls1 hl1 => ?_) (fun hq ls1 hl1 => ?_)
        · rcases hnx with ⟨-, e1, e2, e3⟩ | ⟨q, -⟩
          · subst e1 e2 e3
            exact ih 1 _ _ (p0 + 1) (zk_pre ks 8 L) H locs ls1 hn hL' hP hD hS hl1
          · exact absurd hq q
        · rcases hnx with ⟨q, -⟩ | ⟨-, e1, e2, e3⟩
          · exact absurd q hq
          · subst e1 e2 e3
            exact ih 2 _ _ (p0 + 1) (zk_pre ks 8 L) H locs ls1 hn hL' hP hD hS hl1
      · refine W.eq (g2 := F0 m 178 ls []) rfl ?_
        obtain ⟨hc, hnx⟩ := zk_s5 hc
        have KT : ∀ (H : Heap) (locs : List Loc), va_P D zk_cl [(h, .inr (1, [.ref qs, .int (nI nn), .int (nI nn), .ref qb])), (qb, .inl (tB, (nn * nn), .inl (zk_Bt w L))), (qs, .inr (3, [.ref qg, .int 0, .int 0, .int 0])), (qg, .inl (tB, 72, .inl (zk_G w 72)))] H → va_D A [(h, .inr (1, [.ref qs, .int (nI nn), .int (nI nn), .ref qb])), (qb, .inl (tB, (nn * nn), .inl (zk_Bt w L))), (qs, .inr (3, [.ref qg, .int 0, .int 0, .int 0])), (qg, .inl (tB, 72, .inl (zk_G w 72)))] → va_S A s.heap H locs → W p l e ({ frames := 6, cells := 0, slots := 0, locals := 133 } : Room) s m args below meth c H locs 0 0 Q (F0 m 209 ls []) := by
          intro H locs hP hD hS
          refine TD r0 c0 p0 L H locs ls hP hD hS hl (fun hq ls1 hl1 => ?_) (fun hq hm ls1 hl1 => ?_) (fun hq hm ls1 hl1 => ?_)
          · rcases hnx with ⟨-, e1, e2, e3⟩ | ⟨q, -⟩
            · subst e1 e2 e3
              exact ih 2 _ _ p0 L H locs ls1 hn hL' hP hD hS hl1
            · exact absurd hq q
          · rcases hnx with ⟨q, -⟩ | ⟨-, e2, e3, e4⟩
            · exact absurd q hq
            · subst e2 e3
              rcases e4 with ⟨-, e1⟩ | ⟨q, -⟩
              · subst e1
                exact ih 0 _ _ p0 L H locs ls1 hn hL' hP hD hS hl1
              · exact absurd hm q
          · rcases hnx with ⟨q, -⟩ | ⟨-, e2, e3, e4⟩
            · exact absurd q hq
            · subst e2 e3
              rcases e4 with ⟨q, -⟩ | ⟨-, e1⟩
              · exact absurd q hm
              · subst e1
                exact ih 3 _ _ p0 L H locs ls1 hn hL' hP hD hS hl1
        refine lv_iload_n hx hb dX2_place_178 rfl (lv_at hl 2 rfl) ?_
        refine lv_if_lt (tgt := 209) hx hb dX2_place_179 (by decide) (fun h_ => ?_) (fun h_ => ?_)
        · exact KT H locs hP hD hS
        · refine lv_iload_n hx hb dX2_place_182 rfl (lv_at hl 3 rfl) ?_
          refine lv_aload_n hx hb dX2_place_183 rfl (lv_at hl 0 rfl) ?_
          refine va_get (D := D) (ci := 1) (v := .int (nI nn)) (C := RX2) (T := TX2) (N := 4) hx hb hts in_X2 hown hK hP 0 rfl rfl 2 (by decide) (hts _ q110) (fun _ h9 => h9) rfl dX2_place_184 ?_
          refine lv_icmp_ge (tgt := 209) hx hb dX2_place_187 (by decide) (fun h2_ => ?_) (fun h2_ => ?_)
          · exact KT H locs hP hD hS
          · obtain ⟨hi, hj⟩ := (hc.resolve_left h_).resolve_left (fun q => q (Int32.not_le.mp h2_))
            have ix : vp_in (r0 * nI nn + c0) (nn * nn) := by rw [hi.2.2.2.2.1]; exact vp_in_nI hi.2.2.2.2.2 (by omega)
            have kx : (r0 * nI nn + c0).toNatClampNeg = j := by rw [hi.2.2.2.2.1]; exact nI_clamp (zk_N31 hN hi.2.2.2.2.2)
            refine lv_aload_n hx hb dX2_place_190 rfl (lv_at hl 0 rfl) ?_
            refine lv_iload_n hx hb dX2_place_191 rfl (lv_at hl 3 rfl) ?_
            refine lv_iload_n hx hb dX2_place_192 rfl (lv_at hl 2 rfl) ?_
            refine zk_Vi CX hP hD hS ([(qs, .inr (3, [.ref qg, .int 0, .int 0, .int 0])), (qg, .inl (tB, 72, .inl (zk_G w 72)))]) [0, 1] [2, 3] (metX2_noBit l D tB tC tI _ h qs qb (nI nn) c0 r0 (nn * nn) (zk_Bt w L) ix) (lw_V q198 q200 qs6 q10 q201) 2 1 0 rfl rfl rfl (by decide +kernel) rfl hl.1 rfl (Nat.le_of_ble_eq_true rfl) dX2_place_193 ⟨Nat.le_of_ble_eq_true rfl, Nat.le_of_ble_eq_true rfl⟩ ⟨Nat.le_of_ble_eq_true rfl, Nat.le_of_ble_eq_true rfl⟩ rfl rfl rfl rfl (by decide) (fun r_1 _ H locs hw hP hD hS => ?_)
            have hP : va_P D zk_cl [(qs, .inr (3, [.ref qg, .int 0, .int 0, .int 0])), (qg, .inl (tB, 72, .inl (zk_G w 72))), (h, .inr (1, [.ref qs, .int (nI nn), .int (nI nn), .ref qb])), (qb, .inl (tB, (nn * nn), .inl (zk_Bt w L)))] H := hP
            have hD : va_D A [(qs, .inr (3, [.ref qg, .int 0, .int 0, .int 0])), (qg, .inl (tB, 72, .inl (zk_G w 72))), (h, .inr (1, [.ref qs, .int (nI nn), .int (nI nn), .ref qb])), (qb, .inl (tB, (nn * nn), .inl (zk_Bt w L)))] := hD
            have hP := hP.sub (ws' := [(h, .inr (1, [.ref qs, .int (nI nn), .int (nI nn), .ref qb])), (qb, .inl (tB, (nn * nn), .inl (zk_Bt w L))), (qs, .inr (3, [.ref qg, .int 0, .int 0, .int 0])), (qg, .inl (tB, 72, .inl (zk_G w 72)))]) [2, 3, 0, 1] rfl
            have hD := hD.sub (ws' := [(h, .inr (1, [.ref qs, .int (nI nn), .int (nI nn), .ref qb])), (qb, .inl (tB, (nn * nn), .inl (zk_Bt w L))), (qs, .inr (3, [.ref qg, .int 0, .int 0, .int 0])), (qg, .inl (tB, 72, .inl (zk_G w 72)))]) [2, 3, 0, 1] (by decide) rfl
            rw [kx] at hw
            refine lv_if_eq (tgt := 209) hx hb dX2_place_196 (by decide) (fun h_ => ?_) (fun h_ => absurd (by rw [hw]; exact if_neg (fun q => absurd hj (zk_Bt_neg.mp q))) h_)
            exact KT H locs hP hD hS
      · refine W.eq (g2 := F0 m 178 ls []) rfl ?_
        obtain ⟨hi, hj, hp, hk8, hnx⟩ := zk_s6 hc
        refine lv_iload_n hx hb dX2_place_178 rfl (lv_at hl 2 rfl) ?_
        refine lv_if_lt (tgt := 209) hx hb dX2_place_179 (by decide) (fun h_ => absurd h_ (Int32.not_lt.mpr hi.1)) (fun h_ => ?_)
        refine lv_iload_n hx hb dX2_place_182 rfl (lv_at hl 3 rfl) ?_
        refine lv_aload_n hx hb dX2_place_183 rfl (lv_at hl 0 rfl) ?_
        refine va_get (D := D) (ci := 1) (v := .int (nI nn)) (C := RX2) (T := TX2) (N := 4) hx hb hts in_X2 hown hK hP 0 rfl rfl 2 (by decide) (hts _ q110) (fun _ h9 => h9) rfl dX2_place_184 ?_
        refine lv_icmp_ge (tgt := 209) hx hb dX2_place_187 (by decide) (fun h_ => absurd h_ (Int32.not_le.mpr hi.2.2.2.1)) (fun h_ => ?_)
        have ix : vp_in (r0 * nI nn + c0) (nn * nn) := by rw [hi.2.2.2.2.1]; exact vp_in_nI hi.2.2.2.2.2 (by omega)
        have kx : (r0 * nI nn + c0).toNatClampNeg = j := by rw [hi.2.2.2.2.1]; exact nI_clamp (zk_N31 hN hi.2.2.2.2.2)
        refine lv_aload_n hx hb dX2_place_190 rfl (lv_at hl 0 rfl) ?_
        refine lv_iload_n hx hb dX2_place_191 rfl (lv_at hl 3 rfl) ?_
        refine lv_iload_n hx hb dX2_place_192 rfl (lv_at hl 2 rfl) ?_
        refine zk_Vi CX hP hD hS ([(qs, .inr (3, [.ref qg, .int 0, .int 0, .int 0])), (qg, .inl (tB, 72, .inl (zk_G w 72)))]) [0, 1] [2, 3] (metX2_noBit l D tB tC tI _ h qs qb (nI nn) c0 r0 (nn * nn) (zk_Bt w L) ix) (lw_V q198 q200 qs6 q10 q201) 2 1 0 rfl rfl rfl (by decide +kernel) rfl hl.1 rfl (Nat.le_of_ble_eq_true rfl) dX2_place_193 ⟨Nat.le_of_ble_eq_true rfl, Nat.le_of_ble_eq_true rfl⟩ ⟨Nat.le_of_ble_eq_true rfl, Nat.le_of_ble_eq_true rfl⟩ rfl rfl rfl rfl (by decide) (fun r_1 _ H locs hw hP hD hS => ?_)
        have hP : va_P D zk_cl [(qs, .inr (3, [.ref qg, .int 0, .int 0, .int 0])), (qg, .inl (tB, 72, .inl (zk_G w 72))), (h, .inr (1, [.ref qs, .int (nI nn), .int (nI nn), .ref qb])), (qb, .inl (tB, (nn * nn), .inl (zk_Bt w L)))] H := hP
        have hD : va_D A [(qs, .inr (3, [.ref qg, .int 0, .int 0, .int 0])), (qg, .inl (tB, 72, .inl (zk_G w 72))), (h, .inr (1, [.ref qs, .int (nI nn), .int (nI nn), .ref qb])), (qb, .inl (tB, (nn * nn), .inl (zk_Bt w L)))] := hD
        have hP := hP.sub (ws' := [(h, .inr (1, [.ref qs, .int (nI nn), .int (nI nn), .ref qb])), (qb, .inl (tB, (nn * nn), .inl (zk_Bt w L))), (qs, .inr (3, [.ref qg, .int 0, .int 0, .int 0])), (qg, .inl (tB, 72, .inl (zk_G w 72)))]) [2, 3, 0, 1] rfl
        have hD := hD.sub (ws' := [(h, .inr (1, [.ref qs, .int (nI nn), .int (nI nn), .ref qb])), (qb, .inl (tB, (nn * nn), .inl (zk_Bt w L))), (qs, .inr (3, [.ref qg, .int 0, .int 0, .int 0])), (qg, .inl (tB, 72, .inl (zk_G w 72)))]) [2, 3, 0, 1] (by decide) rfl
        rw [kx] at hw
        refine lv_if_eq (tgt := 209) hx hb dX2_place_196 (by decide) (fun h_ => absurd h_ (by rw [hw, if_pos (zk_Bt_neg.mpr hj)]; decide)) (fun h_ => ?_)
        refine lv_aload_n hx hb dX2_place_199 rfl (lv_at hl 0 rfl) ?_
        refine lv_iload_n hx hb dX2_place_200 rfl (lv_at hl 2 rfl) ?_
        refine lv_iload_n hx hb dX2_place_201 rfl (lv_at hl 3 rfl) ?_
        refine lv_iload_n hx hb dX2_place_202 rfl (lv_at hl 1 rfl) ?_
        refine lv_iinc (v := nI (p0 + 1)) (lv' := [(1, .int (nI (p0 + 1))), (0, .ref h), (2, .int r0), (3, .int c0)]) hx hb dX2_place_203 hl (k := 1) rfl (nI_1 p0) (by decide) rfl (fun ls hl => ?_)
        refine zk_Vv CX hP hD hS ([]) [0, 1, 2, 3] [] (metX2_utah l D tB tC tI _ h qs qg qb (nI nn) (nn * nn) w L ks p0 r0 c0 (nI p0) hk8 hN rfl hL (by omega) hw0) (lw_V q202 q204 qs7 q10 q205) 3 1 0 rfl rfl rfl (by decide +kernel) rfl hl.1 rfl (Nat.le_of_ble_eq_true rfl) dX2_place_206 ⟨Nat.le_of_ble_eq_true rfl, Nat.le_of_ble_eq_true rfl⟩ ⟨Nat.le_of_ble_eq_true rfl, Nat.le_of_ble_eq_true rfl⟩ rfl rfl rfl rfl (by decide) (fun _ H locs hw hP hD hS => ?_)
        have hP : va_P D zk_cl [(h, .inr (1, [.ref qs, .int (nI nn), .int (nI nn), .ref qb])), (qb, .inl (tB, (nn * nn), .inl (zk_Bt w (zk_pre ks 8 L)))), (qs, .inr (3, [.ref qg, .int 0, .int 0, .int 0])), (qg, .inl (tB, 72, .inl (zk_G w 72)))] H := hP
        have hD : va_D A [(h, .inr (1, [.ref qs, .int (nI nn), .int (nI nn), .ref qb])), (qb, .inl (tB, (nn * nn), .inl (zk_Bt w (zk_pre ks 8 L)))), (qs, .inr (3, [.ref qg, .int 0, .int 0, .int 0])), (qg, .inl (tB, 72, .inl (zk_G w 72)))] := hD
        have hl : lv_has ls 4 [(0, .ref h), (1, .int (nI (p0 + 1))), (2, .int r0), (3, .int c0)] := (lv_sub hl [1, 0, 2, 3] rfl)
        refine TD r0 c0 (p0 + 1) (zk_pre ks 8 L) H locs ls hP hD hS hl (fun hq ls1 hl1 => ?_) (fun hq hm ls1 hl1 => ?_) (fun hq hm ls1 hl1 => ?_)
        · rcases hnx with ⟨-, e1, e2, e3⟩ | ⟨q, -⟩
          · subst e1 e2 e3
            exact ih 2 _ _ (p0 + 1) (zk_pre ks 8 L) H locs ls1 hn hL' hP hD hS hl1
          · exact absurd hq q
        · rcases hnx with ⟨q, -⟩ | ⟨-, e2, e3, e4⟩
          · exact absurd q hq
          · subst e2 e3
            rcases e4 with ⟨-, e1⟩ | ⟨q, -⟩
            · subst e1
              exact ih 0 _ _ (p0 + 1) (zk_pre ks 8 L) H locs ls1 hn hL' hP hD hS hl1
            · exact absurd hm q
        · rcases hnx with ⟨q, -⟩ | ⟨-, e2, e3, e4⟩
          · exact absurd q hq
          · subst e2 e3
            rcases e4 with ⟨q, -⟩ | ⟨-, e1⟩
            · exact absurd q hm
            · subst e1
              exact ih 3 _ _ (p0 + 1) (zk_pre ks 8 L) H locs ls1 hn hL' hP hD hS hl1
      · exact absurd hc Bool.false_ne_true
  refine lv_iconst (v := 0) hx hb dX2_place_0 (by decide) ?_
  refine lv_istore_n (lv' := [(1, .int 0), (0, .ref h)]) hx hb dX2_place_1 rfl hl (by decide) rfl (fun ls hl => ?_)
  refine lv_iconst (v := 4) hx hb dX2_place_2 (by decide) ?_
  refine lv_istore_n (lv' := [(2, .int 4), (1, .int 0), (0, .ref h)]) hx hb dX2_place_3 rfl hl (by decide) rfl (fun ls hl => ?_)
  refine lv_iconst (v := 0) hx hb dX2_place_4 (by decide) ?_
  refine lv_istore_n (lv' := [(3, .int 0), (2, .int 4), (1, .int 0), (0, .ref h)]) hx hb dX2_place_5 rfl hl (by decide) rfl (fun ls hl => ?_)
  exact LOOP tr0 0 4 0 0 [] _ _ _ hok rfl hP hD hS (lv_sub hl [3, 2, 1, 0] rfl)
end
section
/-! the law's Square: all but fill -/
set_option maxRecDepth 100000

/-- an array's contents as a list -/
def zk_pl (l : List Int32) : Nat → Int32 := fun j => l.getD j 0
theorem zk_pl_push {l : List Int32} {x v : Int32} (hx : x.toNatClampNeg = l.length) : upd (zk_pl l) x.toNatClampNeg v = zk_pl (l ++ [v]) := by
  rw [hx]
  funext j
  show (if j = l.length then v else l.getD j 0) = (l ++ [v]).getD j 0
  rw [List.getD_eq_getElem?_getD, List.getD_eq_getElem?_getD]
  rcases Nat.lt_trichotomy j l.length with h | h | h
  · rw [if_neg (by omega), List.getElem?_append_left h]
  · rw [if_pos h, List.getElem?_append_right (by omega), h, Nat.sub_self]
    rfl
  · rw [if_neg (by omega), List.getElem?_append_right (by omega), List.getElem?_eq_none (by omega), List.getElem?_eq_none (by simp only [List.length_cons, List.length_nil]; omega)]
theorem zk_8 {P : Nat → Prop} (h0 : P 0) (h1 : P 1) (h2 : P 2) (h3 : P 3) (h4 : P 4) (h5 : P 5) (h6 : P 6) (h7 : P 7) : ∀ i, i < 8 → P i := by
  intro i hi
  rcases (show i = 0 ∨ i = 1 ∨ i = 2 ∨ i = 3 ∨ i = 4 ∨ i = 5 ∨ i = 6 ∨ i = 7 by omega) with q | q | q | q | q | q | q | q <;> rw [q] <;> assumption
theorem zk_inr {nn : Nat} {y x : Int32} (h14 : nn ≤ 14) (h0 : 0 ≤ y) (h1 : y < nI nn) (h2 : 0 ≤ x) (h3 : x < nI nn) : vp_in (nI nn * y + x) (nn * nn) := by
  obtain ⟨a, ha, ea⟩ := nI_of (Int32.not_lt.mpr h0)
  obtain ⟨b, hb, eb⟩ := nI_of (Int32.not_lt.mpr h2)
  rw [ea] at h1
  rw [eb] at h3
  have h1 := (nI_ltI ha (by omega)).mp h1
  have h3 := (nI_ltI hb (by omega)).mp h3
  rw [ea, eb, pk_mul, nI_add]
  have h4 : nn * a + nn ≤ nn * nn := by
    have h5 : nn * a + nn = nn * (a + 1) := by rw [Nat.mul_succ]
    rw [h5]
    exact Nat.mul_le_mul_left nn (by omega)
  have h6 : nn * nn ≤ 196 := Nat.mul_le_mul h14 h14
  exact vp_in_nI (by omega) (by omega)

set_option maxHeartbeats 4000000 in
set_option maxRecDepth 100000 in
theorem metX3_init (l : Launch) (D : va_G) (tB tC tI : ClassId) (sz : Nat) (h : Nat) (n : Int32) (N : Nat) (hn : n * n = nI N) (hN : N ≤ 196) : zk_Mv l yX3_init cX3_init 3 none 1 12 D tB tC tI [.ref h, .int n] [(h, .inr (2, [.int 0, .null]))] (fun (_ : Nat) => True) (fun (qa : Nat) => [(h, .inr (2, [.int n, .ref qa])), (qa, .inl (tI, N, .inl (fun _ => -1)))]) 1 196 sz := by
  refine zk_openV (by decide) (Nat.le_of_ble_eq_true rfl) (fun p e s m args below meth c ls A Q CX hr hnm hQ hsz hP hD hS hl => ?_)
  obtain ⟨hx, hb, hml, hown, hts, hA, hK, hZ, hlocks⟩ := id CX
  have hown : s.vm.findClass RX3 = some m.cls := hown
  have hl : lv_has ls 3 [(0, .ref h), (1, .int n)] := hl
  refine lv_aload_n hx hb dX3_init_0 rfl (lv_at hl 0 rfl) ?_
  refine W.objInit hx hb hown (hts _ q223) (hts _ q23) (hts _ q24) rfl (by rw [hml]; exact hl.1) rfl dX3_init_1 (Nat.le_of_ble_eq_true rfl) (Nat.le_of_ble_eq_true rfl) ?_
  refine W.eq (g2 := F0 m 4 ls []) rfl ?_
  refine lv_aload_n hx hb dX3_init_4 rfl (lv_at hl 0 rfl) ?_
  refine lv_iload_n hx hb dX3_init_5 rfl (lv_at hl 1 rfl) ?_
  refine va_putF (D := D) (ci := 2) (v := .int n) (ty := .int) (C := RX3) (T := TX3) (N := 2) hx hb hts in_X3 tyX3 tyX3_ok nmX3 hown hK hP hD hS 0 rfl rfl 0 (by decide) (hts _ q224) (fun _ h9 => h9) rfl hnm rfl (by decide +kernel) rfl rfl (Nat.le_of_ble_eq_true rfl) dX3_init_6 (fun H locs hP hD hS => ?_)
  have hP : va_P D zk_cl [(h, .inr (2, [.int n, .null]))] H := hP
  have hD : va_D A [(h, .inr (2, [.int n, .null]))] := hD
  refine lv_aload_n hx hb dX3_init_9 rfl (lv_at hl 0 rfl) ?_
  refine lv_iload_n hx hb dX3_init_10 rfl (lv_at hl 1 rfl) ?_
  refine lv_iload_n hx hb dX3_init_11 rfl (lv_at hl 1 rfl) ?_
  refine lv_imul hx hb dX3_init_12 ?_
  refine zk_newI (N' := N) CX hP hD hS (by rw [hn]; exact nI_pos (by omega)) (by rw [hn]; exact nI_clamp (by omega)) (by show N * 4 ≤ 536870912; omega) (Nat.le_of_ble_eq_true rfl) (by show 0 + N ≤ 196; omega) dX3_init_13 (fun qa H hP hD hS => ?_)
  have hP : va_P D zk_cl [(h, .inr (2, [.int n, .null])), (qa, .inl (tI, N, .inl (fun _ => 0)))] H := hP
  have hD : va_D A [(h, .inr (2, [.int n, .null])), (qa, .inl (tI, N, .inl (fun _ => 0)))] := hD
  refine W.widen (k := 1) (n := 196) (by omega) (by omega) ?_
  refine va_putF (D := D) (ci := 2) (v := .ref qa) (ty := .array .int) (C := RX3) (T := TX3) (N := 2) hx hb hts in_X3 tyX3 tyX3_ok nmX3 hown hK hP hD hS 0 rfl rfl 1 (by decide) (hts _ q226) (fun _ h9 => h9) rfl hnm rfl (by decide +kernel) rfl rfl (Nat.le_of_ble_eq_true rfl) dX3_init_15 (fun H locs hP hD hS => ?_)
  have hP : va_P D zk_cl [(h, .inr (2, [.int n, .ref qa])), (qa, .inl (tI, N, .inl (fun _ => 0)))] H := hP
  have hD : va_D A [(h, .inr (2, [.int n, .ref qa])), (qa, .inl (tI, N, .inl (fun _ => 0)))] := hD
  refine lv_iconst (v := 0) hx hb dX3_init_18 (by decide) ?_
  refine lv_istore_n (lv' := [(2, .int 0), (0, .ref h), (1, .int n)]) hx hb dX3_init_19 rfl hl (by decide) rfl (fun ls hl => ?_)
  have hP : va_P D zk_cl [(h, .inr (2, [.int n, .ref qa])), (qa, .inl (tI, N, .inl (zk_fl (fun _ => 0) (-1) 0)))] H := (zk_arr (k := 1) (f' := zk_fl (fun _ => 0) (-1) 0) hP hD rfl (fun j _ => (if_neg (Nat.not_lt_zero j)).symm)).1
  have hD : va_D A [(h, .inr (2, [.int n, .ref qa])), (qa, .inl (tI, N, .inl (zk_fl (fun _ => 0) (-1) 0)))] := hD.set (p := 1) rfl
  have LOOP : ∀ (k i : Nat) (x : Int32) (H : Heap) (locs : List Loc) (ls : Array Slot), N ≤ i + k → i ≤ N → x = nI i → va_P D zk_cl [(h, .inr (2, [.int n, .ref qa])), (qa, .inl (tI, N, .inl (zk_fl (fun _ => 0) (-1) i)))] H → va_D A [(h, .inr (2, [.int n, .ref qa])), (qa, .inl (tI, N, .inl (zk_fl (fun _ => 0) (-1) i)))] → va_S A s.heap H locs → lv_has ls 3 [(2, .int x), (0, .ref h), (1, .int n)] → W p l e ({ frames := 1, cells := 1, slots := 196, locals := 12 } : Room) s m args below meth c H locs 1 196 Q (F0 m 20 ls []) := by
    intro k
    induction k with
    | zero =>
      intro i x H locs ls hk hi ex hP hD hS hl
      refine lv_iload_n hx hb dX3_init_20 rfl (lv_at hl 0 rfl) ?_
      refine lv_aload_n hx hb dX3_init_21 rfl (lv_at hl 1 rfl) ?_
      refine va_get (D := D) (ci := 2) (v := .ref qa) (C := RX3) (T := TX3) (N := 2) hx hb hts in_X3 hown hK hP 0 rfl rfl 1 (by decide) (hts _ q226) (fun _ h9 => h9) rfl dX3_init_22 ?_
      refine va_alen (v := nI N) hx hb hK hP 1 2 rfl rfl rfl dX3_init_25 ?_
      refine lv_icmp_ge (tgt := 42) hx hb dX3_init_26 (by decide) (fun h_ => ?_) (fun h_ => ?_)
      · have hiN : i = N := by
          rcases Nat.lt_or_ge i N with q | q
          · rw [ex] at h_; exact absurd h_ (Int32.not_le.mpr (nI_lt q (by omega)))
          · omega
        subst hiN
        have hP : va_P D zk_cl [(h, .inr (2, [.int n, .ref qa])), (qa, .inl (tI, i, .inl (fun _ => -1)))] H := (zk_arr (k := 1) (f' := fun _ => -1) hP hD rfl (fun j hj => if_pos hj)).1
        have hD : va_D A [(h, .inr (2, [.int n, .ref qa])), (qa, .inl (tI, i, .inl (fun _ => -1)))] := hD.set (p := 1) rfl
        exact zk_vret CX hQ hr hP hD hS qa trivial [0, 1] rfl rfl (Nat.le_of_ble_eq_true rfl) (Nat.le_of_ble_eq_true rfl) dX3_init_42
      · exact absurd (by rw [ex]; exact nI_le (by omega) (by omega)) h_
    | succ k ih =>
      intro i x H locs ls hk hi ex hP hD hS hl
      refine lv_iload_n hx hb dX3_init_20 rfl (lv_at hl 0 rfl) ?_
      refine lv_aload_n hx hb dX3_init_21 rfl (lv_at hl 1 rfl) ?_
      refine va_get (D := D) (ci := 2) (v := .ref qa) (C := RX3) (T := TX3) (N := 2) hx hb hts in_X3 hown hK hP 0 rfl rfl 1 (by decide) (hts _ q226) (fun _ h9 => h9) rfl dX3_init_22 ?_
      refine va_alen (v := nI N) hx hb hK hP 1 2 rfl rfl rfl dX3_init_25 ?_
      refine lv_icmp_ge (tgt := 42) hx hb dX3_init_26 (by decide) (fun h_ => ?_) (fun h_ => ?_)
      · have hiN : i = N := by
          rcases Nat.lt_or_ge i N with q | q
          · rw [ex] at h_; exact absurd h_ (Int32.not_le.mpr (nI_lt q (by omega)))
          · omega
        subst hiN
        have hP : va_P D zk_cl [(h, .inr (2, [.int n, .ref qa])), (qa, .inl (tI, i, .inl (fun _ => -1)))] H := (zk_arr (k := 1) (f' := fun _ => -1) hP hD rfl (fun j hj => if_pos hj)).1
        have hD : va_D A [(h, .inr (2, [.int n, .ref qa])), (qa, .inl (tI, i, .inl (fun _ => -1)))] := hD.set (p := 1) rfl
        exact zk_vret CX hQ hr hP hD hS qa trivial [0, 1] rfl rfl (Nat.le_of_ble_eq_true rfl) (Nat.le_of_ble_eq_true rfl) dX3_init_42
      · have hlt : i < N := by
          rcases Nat.lt_or_ge i N with q | q
          · exact q
          · exact absurd (by rw [ex]; exact nI_le q (by omega)) h_
        have hin : vp_in x N := by rw [ex]; exact vp_in_nI hlt (by omega)
        have hcl : x.toNatClampNeg = i := by rw [ex]; exact nI_clamp (by omega)
        refine lv_aload_n hx hb dX3_init_29 rfl (lv_at hl 1 rfl) ?_
        refine va_get (D := D) (ci := 2) (v := .ref qa) (C := RX3) (T := TX3) (N := 2) hx hb hts in_X3 hown hK hP 0 rfl rfl 1 (by decide) (hts _ q226) (fun _ h9 => h9) rfl dX3_init_30 ?_
        refine lv_iload_n hx hb dX3_init_33 rfl (lv_at hl 0 rfl) ?_
        refine lv_iconst (v := (-1)) hx hb dX3_init_34 (by decide) ?_
        refine va_iast hx hb hK hP hD hS 1 2 rfl rfl hin dX3_init_35 (fun H locs hP hD hS => ?_)
        have hP : va_P D zk_cl [(h, .inr (2, [.int n, .ref qa])), (qa, .inl (tI, N, .inl (upd (zk_fl (fun _ => 0) (-1) i) x.toNatClampNeg (-1))))] H := hP
        have hD : va_D A [(h, .inr (2, [.int n, .ref qa])), (qa, .inl (tI, N, .inl (upd (zk_fl (fun _ => 0) (-1) i) x.toNatClampNeg (-1))))] := hD
        have ef_ : upd (zk_fl (fun _ => 0) (-1) i) x.toNatClampNeg (-1) = zk_fl (fun _ => 0) (-1) (i + 1) := zk_fl_upd hcl
        rw [ef_] at hP hD
        clear ef_
        refine lv_iinc (v := x + 1) (lv' := [(2, .int (x + 1)), (0, .ref h), (1, .int n)]) hx hb dX3_init_36 hl (k := 0) rfl rfl (by decide) rfl (fun ls hl => ?_)
        refine lv_goto (tgt := 20) hx hb dX3_init_39 (by decide) ?_
        exact ih (i + 1) (x + 1) _ _ _ (by omega) (by omega) (by rw [ex]; exact nI_1 i) hP hD hS (lv_sub hl [0, 1, 2] rfl)
  exact LOOP N 0 0 _ _ _ (by omega) (by omega) nI_0.symm hP hD hS (lv_sub hl [0, 1, 2] rfl)

set_option maxHeartbeats 4000000 in
set_option maxRecDepth 100000 in
theorem metX3_module (l : Launch) (D : va_G) (tB tC tI : ClassId) (sz : Nat) (h qa : Nat) (n : Int32) (N : Nat) (L : List Nat) (k : Nat) (r0 c0 wd bit : Int32) (hk : zk_k n r0 c0 = nI k) (hkN : k < N) (hN : N ≤ 196) (hv : 8 * wd + bit = nI L.length) : zk_Mv l yX3_module cX3_module 7 none 0 0 D tB tC tI [.ref h, .int r0, .int c0, .int wd, .int bit] [(h, .inr (2, [.int n, .ref qa])), (qa, .inl (tI, N, .inl (zk_T L)))] (fun (_ : Unit) => True) (fun (_ : Unit) => [(h, .inr (2, [.int n, .ref qa])), (qa, .inl (tI, N, .inl (zk_T (k :: L))))]) 0 0 sz := by
  refine zk_openV (by decide) (Nat.le_of_ble_eq_true rfl) (fun p e s m args below meth c ls A Q CX hr hnm hQ hsz hP hD hS hl => ?_)
  obtain ⟨hx, hb, hml, hown, hts, hA, hK, hZ, hlocks⟩ := id CX
  have hown : s.vm.findClass RX3 = some m.cls := hown
  have hl : lv_has ls 7 [(0, .ref h), (1, .int r0), (2, .int c0), (3, .int wd), (4, .int bit)] := hl
  have J66 : ∀ (r2 c2 : Int32) (ls : Array Slot), r2 * n + c2 = zk_k n r0 c0 → lv_has ls 7 [(5, .int r2), (6, .int c2), (0, .ref h), (3, .int wd), (4, .int bit)] → W p l e ({ frames := 0, cells := 0, slots := 0, locals := 0 } : Room) s m args below meth c s.heap [] 0 0 Q (F0 m 66 ls []) := by
    intro r2 c2 ls ek hl
    have ek : n * r2 + c2 = nI k := by rw [Int32.mul_comm, ek, hk]
    have hin : vp_in (n * r2 + c2) N := by rw [ek]; exact vp_in_nI hkN (by omega)
    refine lv_aload_n hx hb dX3_module_66 rfl (lv_at hl 2 rfl) ?_
    refine va_get (D := D) (ci := 2) (v := .ref qa) (C := RX3) (T := TX3) (N := 2) hx hb hts in_X3 hown hK hP 0 rfl rfl 1 (by decide) (hts _ q226) (fun _ h9 => h9) rfl dX3_module_67 ?_
    refine lv_aload_n hx hb dX3_module_70 rfl (lv_at hl 2 rfl) ?_
    refine va_get (D := D) (ci := 2) (v := .int n) (C := RX3) (T := TX3) (N := 2) hx hb hts in_X3 hown hK hP 0 rfl rfl 0 (by decide) (hts _ q224) (fun _ h9 => h9) rfl dX3_module_71 ?_
    refine lv_iload hx hb dX3_module_74 (lv_at hl 0 rfl) ?_
    refine lv_imul hx hb dX3_module_76 ?_
    refine lv_iload hx hb dX3_module_77 (lv_at hl 1 rfl) ?_
    refine lv_iadd hx hb dX3_module_79 ?_
    refine lv_bipush (v := 8) hx hb dX3_module_80 (by decide) ?_
    refine lv_iload_n hx hb dX3_module_82 rfl (lv_at hl 3 rfl) ?_
    refine lv_imul hx hb dX3_module_83 ?_
    refine lv_iload hx hb dX3_module_84 (lv_at hl 4 rfl) ?_
    refine lv_iadd hx hb dX3_module_86 ?_
    refine va_iast hx hb hK hP hD hS 1 2 rfl rfl hin dX3_module_87 (fun H locs hP hD hS => ?_)
    have hP : va_P D zk_cl [(h, .inr (2, [.int n, .ref qa])), (qa, .inl (tI, N, .inl (upd (zk_T L) ((n * r2) + c2).toNatClampNeg ((8 * wd) + bit))))] H := hP
    have hD : va_D A [(h, .inr (2, [.int n, .ref qa])), (qa, .inl (tI, N, .inl (upd (zk_T L) ((n * r2) + c2).toNatClampNeg ((8 * wd) + bit))))] := hD
    have ef_ : upd (zk_T L) ((n * r2) + c2).toNatClampNeg ((8 * wd) + bit) = zk_T (k :: L) := zk_T_upd ek (by omega) hv
    rw [ef_] at hP hD
    clear ef_
    exact zk_vret CX hQ hr hP hD hS () trivial [0, 1] rfl rfl (Nat.le_of_ble_eq_true rfl) (Nat.le_of_ble_eq_true rfl) dX3_module_88
  have J36 : ∀ (r1 c1 : Int32) (ls : Array Slot), r1 = (if r0 < 0 then r0 + n else r0) → c1 = (if r0 < 0 then c0 + zk_d n else c0) → lv_has ls 7 [(5, .int r1), (6, .int c1), (0, .ref h), (3, .int wd), (4, .int bit)] → W p l e ({ frames := 0, cells := 0, slots := 0, locals := 0 } : Room) s m args below meth c s.heap [] 0 0 Q (F0 m 36 ls []) := by
    intro r1 c1 ls er1 ec1 hl
    refine lv_iload hx hb dX3_module_36 (lv_at hl 1 rfl) ?_
    refine lv_if_ge (tgt := 66) hx hb dX3_module_38 (by decide) (fun h_ => ?_) (fun h_ => ?_)
    · exact J66 r1 c1 ls (by unfold zk_k; rw [← er1, ← ec1, if_neg (Int32.not_lt.mpr h_), if_neg (Int32.not_lt.mpr h_)]) hl
    · refine lv_iload hx hb dX3_module_41 (lv_at hl 1 rfl) ?_
      refine lv_aload_n hx hb dX3_module_43 rfl (lv_at hl 2 rfl) ?_
      refine va_get (D := D) (ci := 2) (v := .int n) (C := RX3) (T := TX3) (N := 2) hx hb hts in_X3 hown hK hP 0 rfl rfl 0 (by decide) (hts _ q224) (fun _ h9 => h9) rfl dX3_module_44 ?_
      refine lv_iadd hx hb dX3_module_47 ?_
      refine lv_istore (lv' := [(6, .int (c1 + n)), (5, .int r1), (0, .ref h), (3, .int wd), (4, .int bit)]) hx hb dX3_module_48 hl (by decide) rfl (fun ls hl => ?_)
      refine lv_iload hx hb dX3_module_50 (lv_at hl 1 rfl) ?_
      refine lv_iconst (v := 4) hx hb dX3_module_52 (by decide) ?_
      refine lv_aload_n hx hb dX3_module_53 rfl (lv_at hl 2 rfl) ?_
      refine va_get (D := D) (ci := 2) (v := .int n) (C := RX3) (T := TX3) (N := 2) hx hb hts in_X3 hown hK hP 0 rfl rfl 0 (by decide) (hts _ q224) (fun _ h9 => h9) rfl dX3_module_54 ?_
      refine lv_iconst (v := 4) hx hb dX3_module_57 (by decide) ?_
      refine lv_iadd hx hb dX3_module_58 ?_
      refine lv_bipush (v := 8) hx hb dX3_module_59 (by decide) ?_
      refine lv_irem hx hb dX3_module_61 (by decide) ?_
      refine lv_isub hx hb dX3_module_62 ?_
      refine lv_iadd hx hb dX3_module_63 ?_
      refine lv_istore (lv' := [(5, .int (r1 + (4 - ((n + 4) - (n + 4) / 8 * 8)))), (6, .int (c1 + n)), (0, .ref h), (3, .int wd), (4, .int bit)]) hx hb dX3_module_64 hl (by decide) rfl (fun ls hl => ?_)
      exact J66 _ _ ls (by unfold zk_k; rw [← er1, ← ec1, if_pos (Int32.not_le.mp h_), if_pos (Int32.not_le.mp h_)]; rfl) (lv_sub hl [0, 1, 2, 3, 4] rfl)
  refine lv_iload_n hx hb dX3_module_0 rfl (lv_at hl 1 rfl) ?_
  refine lv_istore (lv' := [(5, .int r0), (0, .ref h), (1, .int r0), (2, .int c0), (3, .int wd), (4, .int bit)]) hx hb dX3_module_1 hl (by decide) rfl (fun ls hl => ?_)
  refine lv_iload_n hx hb dX3_module_3 rfl (lv_at hl 3 rfl) ?_
  refine lv_istore (lv' := [(6, .int c0), (5, .int r0), (0, .ref h), (1, .int r0), (2, .int c0), (3, .int wd), (4, .int bit)]) hx hb dX3_module_4 hl (by decide) rfl (fun ls hl => ?_)
  refine lv_iload hx hb dX3_module_6 (lv_at hl 1 rfl) ?_
  refine lv_if_ge (tgt := 36) hx hb dX3_module_8 (by decide) (fun h_ => ?_) (fun h_ => ?_)
  · exact J36 _ _ ls (if_neg (Int32.not_lt.mpr h_)).symm (if_neg (Int32.not_lt.mpr h_)).symm (lv_sub hl [1, 0, 2, 5, 6] rfl)
  · refine lv_iload hx hb dX3_module_11 (lv_at hl 1 rfl) ?_
    refine lv_aload_n hx hb dX3_module_13 rfl (lv_at hl 2 rfl) ?_
    refine va_get (D := D) (ci := 2) (v := .int n) (C := RX3) (T := TX3) (N := 2) hx hb hts in_X3 hown hK hP 0 rfl rfl 0 (by decide) (hts _ q224) (fun _ h9 => h9) rfl dX3_module_14 ?_
    refine lv_iadd hx hb dX3_module_17 ?_
    refine lv_istore (lv' := [(5, .int (r0 + n)), (6, .int c0), (0, .ref h), (1, .int r0), (2, .int c0), (3, .int wd), (4, .int bit)]) hx hb dX3_module_18 hl (by decide) rfl (fun ls hl => ?_)
    refine lv_iload hx hb dX3_module_20 (lv_at hl 1 rfl) ?_
    refine lv_iconst (v := 4) hx hb dX3_module_22 (by decide) ?_
    refine lv_aload_n hx hb dX3_module_23 rfl (lv_at hl 2 rfl) ?_
    refine va_get (D := D) (ci := 2) (v := .int n) (C := RX3) (T := TX3) (N := 2) hx hb hts in_X3 hown hK hP 0 rfl rfl 0 (by decide) (hts _ q224) (fun _ h9 => h9) rfl dX3_module_24 ?_
    refine lv_iconst (v := 4) hx hb dX3_module_27 (by decide) ?_
    refine lv_iadd hx hb dX3_module_28 ?_
    refine lv_bipush (v := 8) hx hb dX3_module_29 (by decide) ?_
    refine lv_irem hx hb dX3_module_31 (by decide) ?_
    refine lv_isub hx hb dX3_module_32 ?_
    refine lv_iadd hx hb dX3_module_33 ?_
    refine lv_istore (lv' := [(6, .int (c0 + (4 - ((n + 4) - (n + 4) / 8 * 8)))), (5, .int (r0 + n)), (0, .ref h), (1, .int r0), (2, .int c0), (3, .int wd), (4, .int bit)]) hx hb dX3_module_34 hl (by decide) rfl (fun ls hl => ?_)
    exact J36 _ _ ls (if_pos (Int32.not_le.mp h_)).symm (if_pos (Int32.not_le.mp h_)).symm (lv_sub hl [1, 0, 2, 5, 6] rfl)

set_option maxHeartbeats 4000000 in
set_option maxRecDepth 100000 in
theorem metX3_word (l : Launch) (D : va_G) (tB tC tI : ClassId) (sz : Nat) (h qa qp : Nat) (n : Int32) (N : Nat) (L ks : List Nat) (p0 : Nat) (wd : Int32) (gp : Nat → Int32) (hk : ∀ i, i < 8 → zk_k n (gp (2 * i)) (gp (2 * i + 1)) = nI (ks.getD i 0) ∧ ks.getD i 0 < N) (hN : N ≤ 196) (hwd : wd = nI p0) (hL : L.length = 8 * p0) (hp : p0 < 72) : zk_Mv l yX3_word cX3_word 4 none 1 26 D tB tC tI [.ref h, .int wd, .ref qp] [(h, .inr (2, [.int n, .ref qa])), (qa, .inl (tI, N, .inl (zk_T L))), (qp, .inl (tI, 16, .inl gp))] (fun (_ : Unit) => True) (fun (_ : Unit) => [(h, .inr (2, [.int n, .ref qa])), (qa, .inl (tI, N, .inl (zk_T (zk_pre ks 8 L)))), (qp, .inl (tI, 16, .inl gp))]) 0 0 sz := by
  refine zk_openV (by decide) (Nat.le_of_ble_eq_true rfl) (fun p e s m args below meth c ls A Q CX hr hnm hQ hsz hP hD hS hl => ?_)
  obtain ⟨hx, hb, hml, hown, hts, hA, hK, hZ, hlocks⟩ := id CX
  have hown : s.vm.findClass RX3 = some m.cls := hown
  have hl : lv_has ls 4 [(0, .ref h), (1, .int wd), (2, .ref qp)] := hl
  refine lv_iconst (v := 0) hx hb dX3_word_0 (by decide) ?_
  refine lv_istore_n (lv' := [(3, .int 0), (0, .ref h), (1, .int wd), (2, .ref qp)]) hx hb dX3_word_1 rfl hl (by decide) rfl (fun ls hl => ?_)
  have hP : va_P D zk_cl [(h, .inr (2, [.int n, .ref qa])), (qa, .inl (tI, N, .inl (zk_T (zk_pre ks 0 L)))), (qp, .inl (tI, 16, .inl gp))] s.heap := hP
  have hD : va_D A [(h, .inr (2, [.int n, .ref qa])), (qa, .inl (tI, N, .inl (zk_T (zk_pre ks 0 L)))), (qp, .inl (tI, 16, .inl gp))] := hD
  have LOOP : ∀ (k i : Nat) (x : Int32) (H : Heap) (locs : List Loc) (ls : Array Slot), 8 ≤ i + k → i ≤ 8 → x = nI i → va_P D zk_cl [(h, .inr (2, [.int n, .ref qa])), (qa, .inl (tI, N, .inl (zk_T (zk_pre ks i L)))), (qp, .inl (tI, 16, .inl gp))] H → va_D A [(h, .inr (2, [.int n, .ref qa])), (qa, .inl (tI, N, .inl (zk_T (zk_pre ks i L)))), (qp, .inl (tI, 16, .inl gp))] → va_S A s.heap H locs → lv_has ls 4 [(3, .int x), (0, .ref h), (1, .int wd), (2, .ref qp)] → W p l e ({ frames := 1, cells := 0, slots := 0, locals := 26 } : Room) s m args below meth c H locs 0 0 Q (F0 m 2 ls []) := by
    intro k
    induction k with
    | zero =>
      intro i x H locs ls hk9 hi ex hP hD hS hl
      refine lv_iload_n hx hb dX3_word_2 rfl (lv_at hl 0 rfl) ?_
      refine lv_bipush (v := 8) hx hb dX3_word_3 (by decide) ?_
      refine lv_icmp_ge (tgt := 32) hx hb dX3_word_5 (by decide) (fun h_ => ?_) (fun h_ => ?_)
      · have hi8 : i = 8 := by
          rcases Nat.lt_or_ge i 8 with q | q
          · rw [ex] at h_; exact absurd h_ (Int32.not_le.mpr (nI_lt (b := 8) q (by omega)))
          · omega
        subst hi8
        exact zk_vret CX hQ hr hP hD hS () trivial [0, 1, 2] rfl rfl (Nat.le_of_ble_eq_true rfl) (Nat.le_of_ble_eq_true rfl) dX3_word_32
      · exact absurd (by rw [ex]; exact nI_le (a := 8) (by omega) (by omega)) h_
    | succ k ih =>
      intro i x H locs ls hk9 hi ex hP hD hS hl
      refine lv_iload_n hx hb dX3_word_2 rfl (lv_at hl 0 rfl) ?_
      refine lv_bipush (v := 8) hx hb dX3_word_3 (by decide) ?_
      refine lv_icmp_ge (tgt := 32) hx hb dX3_word_5 (by decide) (fun h_ => ?_) (fun h_ => ?_)
      · have hi8 : i = 8 := by
          rcases Nat.lt_or_ge i 8 with q | q
          · rw [ex] at h_; exact absurd h_ (Int32.not_le.mpr (nI_lt (b := 8) q (by omega)))
          · omega
        subst hi8
        exact zk_vret CX hQ hr hP hD hS () trivial [0, 1, 2] rfl rfl (Nat.le_of_ble_eq_true rfl) (Nat.le_of_ble_eq_true rfl) dX3_word_32
      · have hlt : i < 8 := by
          rcases Nat.lt_or_ge i 8 with q | q
          · exact q
          · exact absurd (by rw [ex]; exact nI_le (a := 8) q (by omega)) h_
        have e2 : 2 * x = nI (2 * i) := by rw [ex]; exact pk_mul 2 i
        have e3 : 2 * x + 1 = nI (2 * i + 1) := by rw [e2]; exact nI_1 _
        have i2 : vp_in (2 * x) 16 := by rw [e2]; exact vp_in_nI (by omega) (by omega)
        have i3 : vp_in (2 * x + 1) 16 := by rw [e3]; exact vp_in_nI (by omega) (by omega)
        refine lv_aload_n hx hb dX3_word_8 rfl (lv_at hl 1 rfl) ?_
        refine lv_aload_n hx hb dX3_word_9 rfl (lv_at hl 3 rfl) ?_
        refine lv_iconst (v := 2) hx hb dX3_word_10 (by decide) ?_
        refine lv_iload_n hx hb dX3_word_11 rfl (lv_at hl 0 rfl) ?_
        refine lv_imul hx hb dX3_word_12 ?_
        refine va_iald hx hb hK hP 2 2 rfl rfl i2 dX3_word_13 ?_
        refine lv_topi (fun y_ ey_ => ?_)
        refine lv_aload_n hx hb dX3_word_14 rfl (lv_at hl 3 rfl) ?_
        refine lv_iconst (v := 2) hx hb dX3_word_15 (by decide) ?_
        refine lv_iload_n hx hb dX3_word_16 rfl (lv_at hl 0 rfl) ?_
        refine lv_imul hx hb dX3_word_17 ?_
        refine lv_iconst (v := 1) hx hb dX3_word_18 (by decide) ?_
        refine lv_iadd hx hb dX3_word_19 ?_
        refine va_iald hx hb hK hP 2 2 rfl rfl i3 dX3_word_20 ?_
        refine lv_topi (fun x_ ex_ => ?_)
        have hkk : zk_k n y_ x_ = nI (ks.getD i 0) ∧ ks.getD i 0 < N := by
          rw [ey_, ex_, e3, e2, nI_clamp (by omega), nI_clamp (by omega)]
          exact hk i hlt
        refine lv_iload_n hx hb dX3_word_21 rfl (lv_at hl 2 rfl) ?_
        refine lv_iload_n hx hb dX3_word_22 rfl (lv_at hl 0 rfl) ?_
        refine zk_Vv CX hP hD hS ([(qp, .inl (tI, 16, .inl gp))]) [0, 1] [2] (metX3_module l D tB tC tI _ h qa n N (zk_pre ks i L) (ks.getD i 0) y_ x_ wd x hkk.1 hkk.2 hN (by rw [zk_pre_len, hL, hwd, ex, show (8 : Int32) = nI 8 from rfl, pk_mul, nI_add, Nat.add_comm])) (lw_V q241 q242 q243 q15 q244) 4 2 0 rfl rfl rfl (by decide +kernel) rfl hl.1 rfl (Nat.le_of_ble_eq_true rfl) dX3_word_23 ⟨Nat.le_of_ble_eq_true rfl, Nat.le_of_ble_eq_true rfl⟩ ⟨Nat.le_of_ble_eq_true rfl, Nat.le_of_ble_eq_true rfl⟩ rfl rfl rfl rfl (by decide) (fun _ H locs hw hP hD hS => ?_)
        have hP : va_P D zk_cl [(qp, .inl (tI, 16, .inl gp)), (h, .inr (2, [.int n, .ref qa])), (qa, .inl (tI, N, .inl (zk_T (zk_pre ks (i + 1) L))))] H := hP
        have hD : va_D A [(qp, .inl (tI, 16, .inl gp)), (h, .inr (2, [.int n, .ref qa])), (qa, .inl (tI, N, .inl (zk_T (zk_pre ks (i + 1) L))))] := hD
        have hP := hP.sub (ws' := [(h, .inr (2, [.int n, .ref qa])), (qa, .inl (tI, N, .inl (zk_T (zk_pre ks (i + 1) L)))), (qp, .inl (tI, 16, .inl gp))]) [1, 2, 0] rfl
        have hD := hD.sub (ws' := [(h, .inr (2, [.int n, .ref qa])), (qa, .inl (tI, N, .inl (zk_T (zk_pre ks (i + 1) L)))), (qp, .inl (tI, 16, .inl gp))]) [1, 2, 0] (by decide) rfl
        refine lv_iinc (v := x + 1) (lv' := [(3, .int (x + 1)), (0, .ref h), (1, .int wd), (2, .ref qp)]) hx hb dX3_word_26 hl (k := 0) rfl rfl (by decide) rfl (fun ls hl => ?_)
        refine lv_goto (tgt := 2) hx hb dX3_word_29 (by decide) ?_
        exact ih (i + 1) (x + 1) _ _ _ (by omega) (by omega) (by rw [ex]; exact nI_1 i) hP hD hS (lv_sub hl [0, 1, 2, 3] rfl)
  exact LOOP 8 0 0 _ _ _ (by omega) (by omega) nI_0.symm hP hD hS (lv_sub hl [0, 1, 2, 3] rfl)

set_option maxHeartbeats 4000000 in
set_option maxRecDepth 100000 in
theorem metX3_shape (l : Launch) (D : va_G) (tB tC tI : ClassId) (sz : Nat) (h qa : Nat) (n : Int32) (N : Nat) (L ks : List Nat) (p0 : Nat) (r0 c0 wd : Int32) (hk : zk_w8 n N ks (zk_ut r0 c0)) (hN : N ≤ 196) (hwd : wd = nI p0) (hL : L.length = 8 * p0) (hp : p0 < 72) : zk_Mv l yX3_shape cX3_shape 4 none 2 49 D tB tC tI [.ref h, .int r0, .int c0, .int wd] [(h, .inr (2, [.int n, .ref qa])), (qa, .inl (tI, N, .inl (zk_T L)))] (fun (_ : Unit) => True) (fun (_ : Unit) => [(h, .inr (2, [.int n, .ref qa])), (qa, .inl (tI, N, .inl (zk_T (zk_pre ks 8 L))))]) 1 16 sz := by
  refine zk_openV (by decide) (Nat.le_of_ble_eq_true rfl) (fun p e s m args below meth c ls A Q CX hr hnm hQ hsz hP hD hS hl => ?_)
  obtain ⟨hx, hb, hml, hown, hts, hA, hK, hZ, hlocks⟩ := id CX
  have hown : s.vm.findClass RX3 = some m.cls := hown
  have hl : lv_has ls 4 [(0, .ref h), (1, .int r0), (2, .int c0), (3, .int wd)] := hl
  refine lv_aload_n hx hb dX3_shape_0 rfl (lv_at hl 0 rfl) ?_
  refine lv_iload_n hx hb dX3_shape_1 rfl (lv_at hl 3 rfl) ?_
  refine lv_bipush (v := 16) hx hb dX3_shape_2 (by decide) ?_
  refine zk_newI (N' := 16) CX hP hD hS (by decide) (by decide) (Nat.le_of_ble_eq_true rfl) (Nat.le_of_ble_eq_true rfl) (Nat.le_of_ble_eq_true rfl) dX3_shape_4 (fun qp H hP hD hS => ?_)
  have hP : va_P D zk_cl [(h, .inr (2, [.int n, .ref qa])), (qa, .inl (tI, N, .inl (zk_T L))), (qp, .inl (tI, 16, .inl (fun _ => 0)))] H := hP
  have hD : va_D A [(h, .inr (2, [.int n, .ref qa])), (qa, .inl (tI, N, .inl (zk_T L))), (qp, .inl (tI, 16, .inl (fun _ => 0)))] := hD
  refine W.widen (k := 1) (n := 0 + 16) (Nat.le_of_ble_eq_true rfl) (Nat.le_of_ble_eq_true rfl) ?_
  have hP : va_P D zk_cl [(h, .inr (2, [.int n, .ref qa])), (qa, .inl (tI, N, .inl (zk_T L))), (qp, .inl (tI, 16, .inl (zk_pl [])))] H := hP
  have hD : va_D A [(h, .inr (2, [.int n, .ref qa])), (qa, .inl (tI, N, .inl (zk_T L))), (qp, .inl (tI, 16, .inl (zk_pl [])))] := hD
  refine lv_dup hx hb dX3_shape_6 rfl ?_
  refine lv_iconst (v := 0) hx hb dX3_shape_7 (by decide) ?_
  refine lv_iload_n hx hb dX3_shape_8 rfl (lv_at hl 1 rfl) ?_
  refine lv_iconst (v := 2) hx hb dX3_shape_9 (by decide) ?_
  refine lv_isub hx hb dX3_shape_10 ?_
  refine va_iast hx hb hK hP hD hS 2 2 rfl rfl (pk_in 0 16 (by decide)) dX3_shape_11 (fun H locs hP hD hS => ?_)
  have hP : va_P D zk_cl [(h, .inr (2, [.int n, .ref qa])), (qa, .inl (tI, N, .inl (zk_T L))), (qp, .inl (tI, 16, .inl (upd (zk_pl []) (0 : Int32).toNatClampNeg (r0 - 2))))] H := hP
  have hD : va_D A [(h, .inr (2, [.int n, .ref qa])), (qa, .inl (tI, N, .inl (zk_T L))), (qp, .inl (tI, 16, .inl (upd (zk_pl []) (0 : Int32).toNatClampNeg (r0 - 2))))] := hD
  have ef_ : upd (zk_pl []) (0 : Int32).toNatClampNeg (r0 - 2) = zk_pl [r0 - 2] := zk_pl_push (l := []) rfl
  rw [ef_] at hP hD
  clear ef_
  refine lv_dup hx hb dX3_shape_12 rfl ?_
  refine lv_iconst (v := 1) hx hb dX3_shape_13 (by decide) ?_
  refine lv_iload_n hx hb dX3_shape_14 rfl (lv_at hl 2 rfl) ?_
  refine lv_iconst (v := 2) hx hb dX3_shape_15 (by decide) ?_
  refine lv_isub hx hb dX3_shape_16 ?_
  refine va_iast hx hb hK hP hD hS 2 2 rfl rfl (pk_in 1 16 (by decide)) dX3_shape_17 (fun H locs hP hD hS => ?_)
  have hP : va_P D zk_cl [(h, .inr (2, [.int n, .ref qa])), (qa, .inl (tI, N, .inl (zk_T L))), (qp, .inl (tI, 16, .inl (upd (zk_pl [r0 - 2]) (1 : Int32).toNatClampNeg (c0 - 2))))] H := hP
  have hD : va_D A [(h, .inr (2, [.int n, .ref qa])), (qa, .inl (tI, N, .inl (zk_T L))), (qp, .inl (tI, 16, .inl (upd (zk_pl [r0 - 2]) (1 : Int32).toNatClampNeg (c0 - 2))))] := hD
  have ef_ : upd (zk_pl [r0 - 2]) (1 : Int32).toNatClampNeg (c0 - 2) = zk_pl [r0 - 2, c0 - 2] := zk_pl_push (l := [r0 - 2]) rfl
  rw [ef_] at hP hD
  clear ef_
  refine lv_dup hx hb dX3_shape_18 rfl ?_
  refine lv_iconst (v := 2) hx hb dX3_shape_19 (by decide) ?_
  refine lv_iload_n hx hb dX3_shape_20 rfl (lv_at hl 1 rfl) ?_
  refine lv_iconst (v := 2) hx hb dX3_shape_21 (by decide) ?_
  refine lv_isub hx hb dX3_shape_22 ?_
  refine va_iast hx hb hK hP hD hS 2 2 rfl rfl (pk_in 2 16 (by decide)) dX3_shape_23 (fun H locs hP hD hS => ?_)
  have hP : va_P D zk_cl [(h, .inr (2, [.int n, .ref qa])), (qa, .inl (tI, N, .inl (zk_T L))), (qp, .inl (tI, 16, .inl (upd (zk_pl [r0 - 2, c0 - 2]) (2 : Int32).toNatClampNeg (r0 - 2))))] H := hP
  have hD : va_D A [(h, .inr (2, [.int n, .ref qa])), (qa, .inl (tI, N, .inl (zk_T L))), (qp, .inl (tI, 16, .inl (upd (zk_pl [r0 - 2, c0 - 2]) (2 : Int32).toNatClampNeg (r0 - 2))))] := hD
  have ef_ : upd (zk_pl [r0 - 2, c0 - 2]) (2 : Int32).toNatClampNeg (r0 - 2) = zk_pl [r0 - 2, c0 - 2, r0 - 2] := zk_pl_push (l := [r0 - 2, c0 - 2]) rfl
  rw [ef_] at hP hD
  clear ef_
  refine lv_dup hx hb dX3_shape_24 rfl ?_
  refine lv_iconst (v := 3) hx hb dX3_shape_25 (by decide) ?_
  refine lv_iload_n hx hb dX3_shape_26 rfl (lv_at hl 2 rfl) ?_
  refine lv_iconst (v := 1) hx hb dX3_shape_27 (by decide) ?_
  refine lv_isub hx hb dX3_shape_28 ?_
  refine va_iast hx hb hK hP hD hS 2 2 rfl rfl (pk_in 3 16 (by decide)) dX3_shape_29 (fun H locs hP hD hS => ?_)
  have hP : va_P D zk_cl [(h, .inr (2, [.int n, .ref qa])), (qa, .inl (tI, N, .inl (zk_T L))), (qp, .inl (tI, 16, .inl (upd (zk_pl [r0 - 2, c0 - 2, r0 - 2]) (3 : Int32).toNatClampNeg (c0 - 1))))] H := hP
  have hD : va_D A [(h, .inr (2, [.int n, .ref qa])), (qa, .inl (tI, N, .inl (zk_T L))), (qp, .inl (tI, 16, .inl (upd (zk_pl [r0 - 2, c0 - 2, r0 - 2]) (3 : Int32).toNatClampNeg (c0 - 1))))] := hD
  have ef_ : upd (zk_pl [r0 - 2, c0 - 2, r0 - 2]) (3 : Int32).toNatClampNeg (c0 - 1) = zk_pl [r0 - 2, c0 - 2, r0 - 2, c0 - 1] := zk_pl_push (l := [r0 - 2, c0 - 2, r0 - 2]) rfl
  rw [ef_] at hP hD
  clear ef_
  refine lv_dup hx hb dX3_shape_30 rfl ?_
  refine lv_iconst (v := 4) hx hb dX3_shape_31 (by decide) ?_
  refine lv_iload_n hx hb dX3_shape_32 rfl (lv_at hl 1 rfl) ?_
  refine lv_iconst (v := 1) hx hb dX3_shape_33 (by decide) ?_
  refine lv_isub hx hb dX3_shape_34 ?_
  refine va_iast hx hb hK hP hD hS 2 2 rfl rfl (pk_in 4 16 (by decide)) dX3_shape_35 (fun H locs hP hD hS => ?_)
  have hP : va_P D zk_cl [(h, .inr (2, [.int n, .ref qa])), (qa, .inl (tI, N, .inl (zk_T L))), (qp, .inl (tI, 16, .inl (upd (zk_pl [r0 - 2, c0 - 2, r0 - 2, c0 - 1]) (4 : Int32).toNatClampNeg (r0 - 1))))] H := hP
  have hD : va_D A [(h, .inr (2, [.int n, .ref qa])), (qa, .inl (tI, N, .inl (zk_T L))), (qp, .inl (tI, 16, .inl (upd (zk_pl [r0 - 2, c0 - 2, r0 - 2, c0 - 1]) (4 : Int32).toNatClampNeg (r0 - 1))))] := hD
  have ef_ : upd (zk_pl [r0 - 2, c0 - 2, r0 - 2, c0 - 1]) (4 : Int32).toNatClampNeg (r0 - 1) = zk_pl [r0 - 2, c0 - 2, r0 - 2, c0 - 1, r0 - 1] := zk_pl_push (l := [r0 - 2, c0 - 2, r0 - 2, c0 - 1]) rfl
  rw [ef_] at hP hD
  clear ef_
  refine lv_dup hx hb dX3_shape_36 rfl ?_
  refine lv_iconst (v := 5) hx hb dX3_shape_37 (by decide) ?_
  refine lv_iload_n hx hb dX3_shape_38 rfl (lv_at hl 2 rfl) ?_
  refine lv_iconst (v := 2) hx hb dX3_shape_39 (by decide) ?_
  refine lv_isub hx hb dX3_shape_40 ?_
  refine va_iast hx hb hK hP hD hS 2 2 rfl rfl (pk_in 5 16 (by decide)) dX3_shape_41 (fun H locs hP hD hS => ?_)
  have hP : va_P D zk_cl [(h, .inr (2, [.int n, .ref qa])), (qa, .inl (tI, N, .inl (zk_T L))), (qp, .inl (tI, 16, .inl (upd (zk_pl [r0 - 2, c0 - 2, r0 - 2, c0 - 1, r0 - 1]) (5 : Int32).toNatClampNeg (c0 - 2))))] H := hP
  have hD : va_D A [(h, .inr (2, [.int n, .ref qa])), (qa, .inl (tI, N, .inl (zk_T L))), (qp, .inl (tI, 16, .inl (upd (zk_pl [r0 - 2, c0 - 2, r0 - 2, c0 - 1, r0 - 1]) (5 : Int32).toNatClampNeg (c0 - 2))))] := hD
  have ef_ : upd (zk_pl [r0 - 2, c0 - 2, r0 - 2, c0 - 1, r0 - 1]) (5 : Int32).toNatClampNeg (c0 - 2) = zk_pl [r0 - 2, c0 - 2, r0 - 2, c0 - 1, r0 - 1, c0 - 2] := zk_pl_push (l := [r0 - 2, c0 - 2, r0 - 2, c0 - 1, r0 - 1]) rfl
  rw [ef_] at hP hD
  clear ef_
  refine lv_dup hx hb dX3_shape_42 rfl ?_
  refine lv_bipush (v := 6) hx hb dX3_shape_43 (by decide) ?_
  refine lv_iload_n hx hb dX3_shape_45 rfl (lv_at hl 1 rfl) ?_
  refine lv_iconst (v := 1) hx hb dX3_shape_46 (by decide) ?_
  refine lv_isub hx hb dX3_shape_47 ?_
  refine va_iast hx hb hK hP hD hS 2 2 rfl rfl (pk_in 6 16 (by decide)) dX3_shape_48 (fun H locs hP hD hS => ?_)
  have hP : va_P D zk_cl [(h, .inr (2, [.int n, .ref qa])), (qa, .inl (tI, N, .inl (zk_T L))), (qp, .inl (tI, 16, .inl (upd (zk_pl [r0 - 2, c0 - 2, r0 - 2, c0 - 1, r0 - 1, c0 - 2]) (6 : Int32).toNatClampNeg (r0 - 1))))] H := hP
  have hD : va_D A [(h, .inr (2, [.int n, .ref qa])), (qa, .inl (tI, N, .inl (zk_T L))), (qp, .inl (tI, 16, .inl (upd (zk_pl [r0 - 2, c0 - 2, r0 - 2, c0 - 1, r0 - 1, c0 - 2]) (6 : Int32).toNatClampNeg (r0 - 1))))] := hD
  have ef_ : upd (zk_pl [r0 - 2, c0 - 2, r0 - 2, c0 - 1, r0 - 1, c0 - 2]) (6 : Int32).toNatClampNeg (r0 - 1) = zk_pl [r0 - 2, c0 - 2, r0 - 2, c0 - 1, r0 - 1, c0 - 2, r0 - 1] := zk_pl_push (l := [r0 - 2, c0 - 2, r0 - 2, c0 - 1, r0 - 1, c0 - 2]) rfl
  rw [ef_] at hP hD
  clear ef_
  refine lv_dup hx hb dX3_shape_49 rfl ?_
  refine lv_bipush (v := 7) hx hb dX3_shape_50 (by decide) ?_
  refine lv_iload_n hx hb dX3_shape_52 rfl (lv_at hl 2 rfl) ?_
  refine lv_iconst (v := 1) hx hb dX3_shape_53 (by decide) ?_
  refine lv_isub hx hb dX3_shape_54 ?_
  refine va_iast hx hb hK hP hD hS 2 2 rfl rfl (pk_in 7 16 (by decide)) dX3_shape_55 (fun H locs hP hD hS => ?_)
  have hP : va_P D zk_cl [(h, .inr (2, [.int n, .ref qa])), (qa, .inl (tI, N, .inl (zk_T L))), (qp, .inl (tI, 16, .inl (upd (zk_pl [r0 - 2, c0 - 2, r0 - 2, c0 - 1, r0 - 1, c0 - 2, r0 - 1]) (7 : Int32).toNatClampNeg (c0 - 1))))] H := hP
  have hD : va_D A [(h, .inr (2, [.int n, .ref qa])), (qa, .inl (tI, N, .inl (zk_T L))), (qp, .inl (tI, 16, .inl (upd (zk_pl [r0 - 2, c0 - 2, r0 - 2, c0 - 1, r0 - 1, c0 - 2, r0 - 1]) (7 : Int32).toNatClampNeg (c0 - 1))))] := hD
  have ef_ : upd (zk_pl [r0 - 2, c0 - 2, r0 - 2, c0 - 1, r0 - 1, c0 - 2, r0 - 1]) (7 : Int32).toNatClampNeg (c0 - 1) = zk_pl [r0 - 2, c0 - 2, r0 - 2, c0 - 1, r0 - 1, c0 - 2, r0 - 1, c0 - 1] := zk_pl_push (l := [r0 - 2, c0 - 2, r0 - 2, c0 - 1, r0 - 1, c0 - 2, r0 - 1]) rfl
  rw [ef_] at hP hD
  clear ef_
  refine lv_dup hx hb dX3_shape_56 rfl ?_
  refine lv_bipush (v := 8) hx hb dX3_shape_57 (by decide) ?_
  refine lv_iload_n hx hb dX3_shape_59 rfl (lv_at hl 1 rfl) ?_
  refine lv_iconst (v := 1) hx hb dX3_shape_60 (by decide) ?_
  refine lv_isub hx hb dX3_shape_61 ?_
  refine va_iast hx hb hK hP hD hS 2 2 rfl rfl (pk_in 8 16 (by decide)) dX3_shape_62 (fun H locs hP hD hS => ?_)
  have hP : va_P D zk_cl [(h, .inr (2, [.int n, .ref qa])), (qa, .inl (tI, N, .inl (zk_T L))), (qp, .inl (tI, 16, .inl (upd (zk_pl [r0 - 2, c0 - 2, r0 - 2, c0 - 1, r0 - 1, c0 - 2, r0 - 1, c0 - 1]) (8 : Int32).toNatClampNeg (r0 - 1))))] H := hP
  have hD : va_D A [(h, .inr (2, [.int n, .ref qa])), (qa, .inl (tI, N, .inl (zk_T L))), (qp, .inl (tI, 16, .inl (upd (zk_pl [r0 - 2, c0 - 2, r0 - 2, c0 - 1, r0 - 1, c0 - 2, r0 - 1, c0 - 1]) (8 : Int32).toNatClampNeg (r0 - 1))))] := hD
  have ef_ : upd (zk_pl [r0 - 2, c0 - 2, r0 - 2, c0 - 1, r0 - 1, c0 - 2, r0 - 1, c0 - 1]) (8 : Int32).toNatClampNeg (r0 - 1) = zk_pl [r0 - 2, c0 - 2, r0 - 2, c0 - 1, r0 - 1, c0 - 2, r0 - 1, c0 - 1, r0 - 1] := zk_pl_push (l := [r0 - 2, c0 - 2, r0 - 2, c0 - 1, r0 - 1, c0 - 2, r0 - 1, c0 - 1]) rfl
  rw [ef_] at hP hD
  clear ef_
  refine lv_dup hx hb dX3_shape_63 rfl ?_
  refine lv_bipush (v := 9) hx hb dX3_shape_64 (by decide) ?_
  refine lv_iload_n hx hb dX3_shape_66 rfl (lv_at hl 2 rfl) ?_
  refine va_iast hx hb hK hP hD hS 2 2 rfl rfl (pk_in 9 16 (by decide)) dX3_shape_67 (fun H locs hP hD hS => ?_)
  have hP : va_P D zk_cl [(h, .inr (2, [.int n, .ref qa])), (qa, .inl (tI, N, .inl (zk_T L))), (qp, .inl (tI, 16, .inl (upd (zk_pl [r0 - 2, c0 - 2, r0 - 2, c0 - 1, r0 - 1, c0 - 2, r0 - 1, c0 - 1, r0 - 1]) (9 : Int32).toNatClampNeg c0)))] H := hP
  have hD : va_D A [(h, .inr (2, [.int n, .ref qa])), (qa, .inl (tI, N, .inl (zk_T L))), (qp, .inl (tI, 16, .inl (upd (zk_pl [r0 - 2, c0 - 2, r0 - 2, c0 - 1, r0 - 1, c0 - 2, r0 - 1, c0 - 1, r0 - 1]) (9 : Int32).toNatClampNeg c0)))] := hD
  have ef_ : upd (zk_pl [r0 - 2, c0 - 2, r0 - 2, c0 - 1, r0 - 1, c0 - 2, r0 - 1, c0 - 1, r0 - 1]) (9 : Int32).toNatClampNeg c0 = zk_pl [r0 - 2, c0 - 2, r0 - 2, c0 - 1, r0 - 1, c0 - 2, r0 - 1, c0 - 1, r0 - 1, c0] := zk_pl_push (l := [r0 - 2, c0 - 2, r0 - 2, c0 - 1, r0 - 1, c0 - 2, r0 - 1, c0 - 1, r0 - 1]) rfl
  rw [ef_] at hP hD
  clear ef_
  refine lv_dup hx hb dX3_shape_68 rfl ?_
  refine lv_bipush (v := 10) hx hb dX3_shape_69 (by decide) ?_
  refine lv_iload_n hx hb dX3_shape_71 rfl (lv_at hl 1 rfl) ?_
  refine va_iast hx hb hK hP hD hS 2 2 rfl rfl (pk_in 10 16 (by decide)) dX3_shape_72 (fun H locs hP hD hS => ?_)
  have hP : va_P D zk_cl [(h, .inr (2, [.int n, .ref qa])), (qa, .inl (tI, N, .inl (zk_T L))), (qp, .inl (tI, 16, .inl (upd (zk_pl [r0 - 2, c0 - 2, r0 - 2, c0 - 1, r0 - 1, c0 - 2, r0 - 1, c0 - 1, r0 - 1, c0]) (10 : Int32).toNatClampNeg r0)))] H := hP
  have hD : va_D A [(h, .inr (2, [.int n, .ref qa])), (qa, .inl (tI, N, .inl (zk_T L))), (qp, .inl (tI, 16, .inl (upd (zk_pl [r0 - 2, c0 - 2, r0 - 2, c0 - 1, r0 - 1, c0 - 2, r0 - 1, c0 - 1, r0 - 1, c0]) (10 : Int32).toNatClampNeg r0)))] := hD
  have ef_ : upd (zk_pl [r0 - 2, c0 - 2, r0 - 2, c0 - 1, r0 - 1, c0 - 2, r0 - 1, c0 - 1, r0 - 1, c0]) (10 : Int32).toNatClampNeg r0 = zk_pl [r0 - 2, c0 - 2, r0 - 2, c0 - 1, r0 - 1, c0 - 2, r0 - 1, c0 - 1, r0 - 1, c0, r0] := zk_pl_push (l := [r0 - 2, c0 - 2, r0 - 2, c0 - 1, r0 - 1, c0 - 2, r0 - 1, c0 - 1, r0 - 1, c0]) rfl
  rw [ef_] at hP hD
  clear ef_
  refine lv_dup hx hb dX3_shape_73 rfl ?_
  refine lv_bipush (v := 11) hx hb dX3_shape_74 (by decide) ?_
  refine lv_iload_n hx hb dX3_shape_76 rfl (lv_at hl 2 rfl) ?_
  refine lv_iconst (v := 2) hx hb dX3_shape_77 (by decide) ?_
  refine lv_isub hx hb dX3_shape_78 ?_
  refine va_iast hx hb hK hP hD hS 2 2 rfl rfl (pk_in 11 16 (by decide)) dX3_shape_79 (fun H locs hP hD hS => ?_)
  have hP : va_P D zk_cl [(h, .inr (2, [.int n, .ref qa])), (qa, .inl (tI, N, .inl (zk_T L))), (qp, .inl (tI, 16, .inl (upd (zk_pl [r0 - 2, c0 - 2, r0 - 2, c0 - 1, r0 - 1, c0 - 2, r0 - 1, c0 - 1, r0 - 1, c0, r0]) (11 : Int32).toNatClampNeg (c0 - 2))))] H := hP
  have hD : va_D A [(h, .inr (2, [.int n, .ref qa])), (qa, .inl (tI, N, .inl (zk_T L))), (qp, .inl (tI, 16, .inl (upd (zk_pl [r0 - 2, c0 - 2, r0 - 2, c0 - 1, r0 - 1, c0 - 2, r0 - 1, c0 - 1, r0 - 1, c0, r0]) (11 : Int32).toNatClampNeg (c0 - 2))))] := hD
  have ef_ : upd (zk_pl [r0 - 2, c0 - 2, r0 - 2, c0 - 1, r0 - 1, c0 - 2, r0 - 1, c0 - 1, r0 - 1, c0, r0]) (11 : Int32).toNatClampNeg (c0 - 2) = zk_pl [r0 - 2, c0 - 2, r0 - 2, c0 - 1, r0 - 1, c0 - 2, r0 - 1, c0 - 1, r0 - 1, c0, r0, c0 - 2] := zk_pl_push (l := [r0 - 2, c0 - 2, r0 - 2, c0 - 1, r0 - 1, c0 - 2, r0 - 1, c0 - 1, r0 - 1, c0, r0]) rfl
  rw [ef_] at hP hD
  clear ef_
  refine lv_dup hx hb dX3_shape_80 rfl ?_
  refine lv_bipush (v := 12) hx hb dX3_shape_81 (by decide) ?_
  refine lv_iload_n hx hb dX3_shape_83 rfl (lv_at hl 1 rfl) ?_
  refine va_iast hx hb hK hP hD hS 2 2 rfl rfl (pk_in 12 16 (by decide)) dX3_shape_84 (fun H locs hP hD hS => ?_)
  have hP : va_P D zk_cl [(h, .inr (2, [.int n, .ref qa])), (qa, .inl (tI, N, .inl (zk_T L))), (qp, .inl (tI, 16, .inl (upd (zk_pl [r0 - 2, c0 - 2, r0 - 2, c0 - 1, r0 - 1, c0 - 2, r0 - 1, c0 - 1, r0 - 1, c0, r0, c0 - 2]) (12 : Int32).toNatClampNeg r0)))] H := hP
  have hD : va_D A [(h, .inr (2, [.int n, .ref qa])), (qa, .inl (tI, N, .inl (zk_T L))), (qp, .inl (tI, 16, .inl (upd (zk_pl [r0 - 2, c0 - 2, r0 - 2, c0 - 1, r0 - 1, c0 - 2, r0 - 1, c0 - 1, r0 - 1, c0, r0, c0 - 2]) (12 : Int32).toNatClampNeg r0)))] := hD
  have ef_ : upd (zk_pl [r0 - 2, c0 - 2, r0 - 2, c0 - 1, r0 - 1, c0 - 2, r0 - 1, c0 - 1, r0 - 1, c0, r0, c0 - 2]) (12 : Int32).toNatClampNeg r0 = zk_pl [r0 - 2, c0 - 2, r0 - 2, c0 - 1, r0 - 1, c0 - 2, r0 - 1, c0 - 1, r0 - 1, c0, r0, c0 - 2, r0] := zk_pl_push (l := [r0 - 2, c0 - 2, r0 - 2, c0 - 1, r0 - 1, c0 - 2, r0 - 1, c0 - 1, r0 - 1, c0, r0, c0 - 2]) rfl
  rw [ef_] at hP hD
  clear ef_
  refine lv_dup hx hb dX3_shape_85 rfl ?_
  refine lv_bipush (v := 13) hx hb dX3_shape_86 (by decide) ?_
  refine lv_iload_n hx hb dX3_shape_88 rfl (lv_at hl 2 rfl) ?_
  refine lv_iconst (v := 1) hx hb dX3_shape_89 (by decide) ?_
  refine lv_isub hx hb dX3_shape_90 ?_
  refine va_iast hx hb hK hP hD hS 2 2 rfl rfl (pk_in 13 16 (by decide)) dX3_shape_91 (fun H locs hP hD hS => ?_)
  have hP : va_P D zk_cl [(h, .inr (2, [.int n, .ref qa])), (qa, .inl (tI, N, .inl (zk_T L))), (qp, .inl (tI, 16, .inl (upd (zk_pl [r0 - 2, c0 - 2, r0 - 2, c0 - 1, r0 - 1, c0 - 2, r0 - 1, c0 - 1, r0 - 1, c0, r0, c0 - 2, r0]) (13 : Int32).toNatClampNeg (c0 - 1))))] H := hP
  have hD : va_D A [(h, .inr (2, [.int n, .ref qa])), (qa, .inl (tI, N, .inl (zk_T L))), (qp, .inl (tI, 16, .inl (upd (zk_pl [r0 - 2, c0 - 2, r0 - 2, c0 - 1, r0 - 1, c0 - 2, r0 - 1, c0 - 1, r0 - 1, c0, r0, c0 - 2, r0]) (13 : Int32).toNatClampNeg (c0 - 1))))] := hD
  have ef_ : upd (zk_pl [r0 - 2, c0 - 2, r0 - 2, c0 - 1, r0 - 1, c0 - 2, r0 - 1, c0 - 1, r0 - 1, c0, r0, c0 - 2, r0]) (13 : Int32).toNatClampNeg (c0 - 1) = zk_pl [r0 - 2, c0 - 2, r0 - 2, c0 - 1, r0 - 1, c0 - 2, r0 - 1, c0 - 1, r0 - 1, c0, r0, c0 - 2, r0, c0 - 1] := zk_pl_push (l := [r0 - 2, c0 - 2, r0 - 2, c0 - 1, r0 - 1, c0 - 2, r0 - 1, c0 - 1, r0 - 1, c0, r0, c0 - 2, r0]) rfl
  rw [ef_] at hP hD
  clear ef_
  refine lv_dup hx hb dX3_shape_92 rfl ?_
  refine lv_bipush (v := 14) hx hb dX3_shape_93 (by decide) ?_
  refine lv_iload_n hx hb dX3_shape_95 rfl (lv_at hl 1 rfl) ?_
  refine va_iast hx hb hK hP hD hS 2 2 rfl rfl (pk_in 14 16 (by decide)) dX3_shape_96 (fun H locs hP hD hS => ?_)
  have hP : va_P D zk_cl [(h, .inr (2, [.int n, .ref qa])), (qa, .inl (tI, N, .inl (zk_T L))), (qp, .inl (tI, 16, .inl (upd (zk_pl [r0 - 2, c0 - 2, r0 - 2, c0 - 1, r0 - 1, c0 - 2, r0 - 1, c0 - 1, r0 - 1, c0, r0, c0 - 2, r0, c0 - 1]) (14 : Int32).toNatClampNeg r0)))] H := hP
  have hD : va_D A [(h, .inr (2, [.int n, .ref qa])), (qa, .inl (tI, N, .inl (zk_T L))), (qp, .inl (tI, 16, .inl (upd (zk_pl [r0 - 2, c0 - 2, r0 - 2, c0 - 1, r0 - 1, c0 - 2, r0 - 1, c0 - 1, r0 - 1, c0, r0, c0 - 2, r0, c0 - 1]) (14 : Int32).toNatClampNeg r0)))] := hD
  have ef_ : upd (zk_pl [r0 - 2, c0 - 2, r0 - 2, c0 - 1, r0 - 1, c0 - 2, r0 - 1, c0 - 1, r0 - 1, c0, r0, c0 - 2, r0, c0 - 1]) (14 : Int32).toNatClampNeg r0 = zk_pl [r0 - 2, c0 - 2, r0 - 2, c0 - 1, r0 - 1, c0 - 2, r0 - 1, c0 - 1, r0 - 1, c0, r0, c0 - 2, r0, c0 - 1, r0] := zk_pl_push (l := [r0 - 2, c0 - 2, r0 - 2, c0 - 1, r0 - 1, c0 - 2, r0 - 1, c0 - 1, r0 - 1, c0, r0, c0 - 2, r0, c0 - 1]) rfl
  rw [ef_] at hP hD
  clear ef_
  refine lv_dup hx hb dX3_shape_97 rfl ?_
  refine lv_bipush (v := 15) hx hb dX3_shape_98 (by decide) ?_
  refine lv_iload_n hx hb dX3_shape_100 rfl (lv_at hl 2 rfl) ?_
  refine va_iast hx hb hK hP hD hS 2 2 rfl rfl (pk_in 15 16 (by decide)) dX3_shape_101 (fun H locs hP hD hS => ?_)
  have hP : va_P D zk_cl [(h, .inr (2, [.int n, .ref qa])), (qa, .inl (tI, N, .inl (zk_T L))), (qp, .inl (tI, 16, .inl (upd (zk_pl [r0 - 2, c0 - 2, r0 - 2, c0 - 1, r0 - 1, c0 - 2, r0 - 1, c0 - 1, r0 - 1, c0, r0, c0 - 2, r0, c0 - 1, r0]) (15 : Int32).toNatClampNeg c0)))] H := hP
  have hD : va_D A [(h, .inr (2, [.int n, .ref qa])), (qa, .inl (tI, N, .inl (zk_T L))), (qp, .inl (tI, 16, .inl (upd (zk_pl [r0 - 2, c0 - 2, r0 - 2, c0 - 1, r0 - 1, c0 - 2, r0 - 1, c0 - 1, r0 - 1, c0, r0, c0 - 2, r0, c0 - 1, r0]) (15 : Int32).toNatClampNeg c0)))] := hD
  have ef_ : upd (zk_pl [r0 - 2, c0 - 2, r0 - 2, c0 - 1, r0 - 1, c0 - 2, r0 - 1, c0 - 1, r0 - 1, c0, r0, c0 - 2, r0, c0 - 1, r0]) (15 : Int32).toNatClampNeg c0 = zk_pl [r0 - 2, c0 - 2, r0 - 2, c0 - 1, r0 - 1, c0 - 2, r0 - 1, c0 - 1, r0 - 1, c0, r0, c0 - 2, r0, c0 - 1, r0, c0] := zk_pl_push (l := [r0 - 2, c0 - 2, r0 - 2, c0 - 1, r0 - 1, c0 - 2, r0 - 1, c0 - 1, r0 - 1, c0, r0, c0 - 2, r0, c0 - 1, r0]) rfl
  rw [ef_] at hP hD
  clear ef_
  refine zk_Vv CX hP hD hS ([]) [0, 1, 2] [] (metX3_word l D tB tC tI _ h qa qp n N L ks p0 wd (zk_pl [r0 - 2, c0 - 2, r0 - 2, c0 - 1, r0 - 1, c0 - 2, r0 - 1, c0 - 1, r0 - 1, c0, r0, c0 - 2, r0, c0 - 1, r0, c0]) (zk_8 (hk 0 (by omega)) (hk 1 (by omega)) (hk 2 (by omega)) (hk 3 (by omega)) (hk 4 (by omega)) (hk 5 (by omega)) (hk 6 (by omega)) (hk 7 (by omega))) hN hwd hL hp) (lw_V q237 q238 q239 q15 q240) 2 2 0 rfl rfl rfl (by decide +kernel) rfl hl.1 rfl (Nat.le_of_ble_eq_true rfl) dX3_shape_102 ⟨Nat.le_of_ble_eq_true rfl, Nat.le_of_ble_eq_true rfl⟩ ⟨Nat.le_of_ble_eq_true rfl, Nat.le_of_ble_eq_true rfl⟩ rfl rfl rfl rfl (by decide) (fun _ H locs hw hP hD hS => ?_)
  have hP : va_P D zk_cl [(h, .inr (2, [.int n, .ref qa])), (qa, .inl (tI, N, .inl (zk_T (zk_pre ks 8 L)))), (qp, .inl (tI, 16, .inl (zk_pl [r0 - 2, c0 - 2, r0 - 2, c0 - 1, r0 - 1, c0 - 2, r0 - 1, c0 - 1, r0 - 1, c0, r0, c0 - 2, r0, c0 - 1, r0, c0])))] H := hP
  have hD : va_D A [(h, .inr (2, [.int n, .ref qa])), (qa, .inl (tI, N, .inl (zk_T (zk_pre ks 8 L)))), (qp, .inl (tI, 16, .inl (zk_pl [r0 - 2, c0 - 2, r0 - 2, c0 - 1, r0 - 1, c0 - 2, r0 - 1, c0 - 1, r0 - 1, c0, r0, c0 - 2, r0, c0 - 1, r0, c0])))] := hD
  exact zk_vret CX hQ hr hP hD hS () trivial [0, 1] rfl rfl (Nat.le_of_ble_eq_true rfl) (Nat.le_of_ble_eq_true rfl) dX3_shape_105

set_option maxHeartbeats 4000000 in
set_option maxRecDepth 100000 in
theorem metX3_isFree (l : Launch) (D : va_G) (tB tC tI : ClassId) (sz : Nat) (h qa nn : Nat) (y x : Int32) (f : Nat → Int32) (h14 : nn ≤ 14) : zk_Mi l yX3_isFree cX3_isFree 3 (some .boolean) 0 0 D tB tC tI [.ref h, .int y, .int x] [(h, .inr (2, [.int (nI nn), .ref qa])), (qa, .inl (tI, (nn * nn), .inl f))] (fun (r : Int32) (_ : Unit) => r = if 0 ≤ y ∧ y < nI nn ∧ 0 ≤ x ∧ x < nI nn ∧ f (nI nn * y + x).toNatClampNeg < 0 then 1 else 0) (fun (_ : Unit) => [(h, .inr (2, [.int (nI nn), .ref qa])), (qa, .inl (tI, (nn * nn), .inl f))]) 0 0 sz := by
  refine zk_openI (by decide) (Nat.le_of_ble_eq_true rfl) (fun p e s m args below meth c ls A Q CX hr hnm hQ hsz hP hD hS hl => ?_)
  obtain ⟨hx, hb, hml, hown, hts, hA, hK, hZ, hlocks⟩ := id CX
  have hown : s.vm.findClass RX3 = some m.cls := hown
  have hl : lv_has ls 3 [(0, .ref h), (1, .int y), (2, .int x)] := hl
  refine lv_iload_n hx hb dX3_isFree_0 rfl (lv_at hl 1 rfl) ?_
  refine lv_if_lt (tgt := 44) hx hb dX3_isFree_1 (by decide) (fun h1_ => ?_) (fun h1_ => ?_)
  · refine lv_iconst (v := 0) hx hb dX3_isFree_44 (by decide) ?_
    exact zk_iret CX hQ hr rfl hP hD hS () ((if_neg (fun q => absurd h1_ (Int32.not_lt.mpr q.1))).symm) [0, 1] rfl rfl (Nat.le_of_ble_eq_true rfl) (Nat.le_of_ble_eq_true rfl) dX3_isFree_45
  · refine lv_iload_n hx hb dX3_isFree_4 rfl (lv_at hl 1 rfl) ?_
    refine lv_aload_n hx hb dX3_isFree_5 rfl (lv_at hl 0 rfl) ?_
    refine va_get (D := D) (ci := 2) (v := .int (nI nn)) (C := RX3) (T := TX3) (N := 2) hx hb hts in_X3 hown hK hP 0 rfl rfl 0 (by decide) (hts _ q224) (fun _ h9 => h9) rfl dX3_isFree_6 ?_
    refine lv_icmp_ge (tgt := 44) hx hb dX3_isFree_9 (by decide) (fun h2_ => ?_) (fun h2_ => ?_)
    · refine lv_iconst (v := 0) hx hb dX3_isFree_44 (by decide) ?_
      exact zk_iret CX hQ hr rfl hP hD hS () ((if_neg (fun q => absurd q.2.1 (Int32.not_lt.mpr h2_))).symm) [0, 1] rfl rfl (Nat.le_of_ble_eq_true rfl) (Nat.le_of_ble_eq_true rfl) dX3_isFree_45
    · refine lv_iload_n hx hb dX3_isFree_12 rfl (lv_at hl 2 rfl) ?_
      refine lv_if_lt (tgt := 44) hx hb dX3_isFree_13 (by decide) (fun h3_ => ?_) (fun h3_ => ?_)
      · refine lv_iconst (v := 0) hx hb dX3_isFree_44 (by decide) ?_
        exact zk_iret CX hQ hr rfl hP hD hS () ((if_neg (fun q => absurd h3_ (Int32.not_lt.mpr q.2.2.1))).symm) [0, 1] rfl rfl (Nat.le_of_ble_eq_true rfl) (Nat.le_of_ble_eq_true rfl) dX3_isFree_45
      · refine lv_iload_n hx hb dX3_isFree_16 rfl (lv_at hl 2 rfl) ?_
        refine lv_aload_n hx hb dX3_isFree_17 rfl (lv_at hl 0 rfl) ?_
        refine va_get (D := D) (ci := 2) (v := .int (nI nn)) (C := RX3) (T := TX3) (N := 2) hx hb hts in_X3 hown hK hP 0 rfl rfl 0 (by decide) (hts _ q224) (fun _ h9 => h9) rfl dX3_isFree_18 ?_
        refine lv_icmp_ge (tgt := 44) hx hb dX3_isFree_21 (by decide) (fun h4_ => ?_) (fun h4_ => ?_)
        · refine lv_iconst (v := 0) hx hb dX3_isFree_44 (by decide) ?_
          exact zk_iret CX hQ hr rfl hP hD hS () ((if_neg (fun q => absurd q.2.2.2.1 (Int32.not_lt.mpr h4_))).symm) [0, 1] rfl rfl (Nat.le_of_ble_eq_true rfl) (Nat.le_of_ble_eq_true rfl) dX3_isFree_45
        · have hin := zk_inr h14 (Int32.not_lt.mp h1_) (Int32.not_le.mp h2_) (Int32.not_lt.mp h3_) (Int32.not_le.mp h4_)
          refine lv_aload_n hx hb dX3_isFree_24 rfl (lv_at hl 0 rfl) ?_
          refine va_get (D := D) (ci := 2) (v := .ref qa) (C := RX3) (T := TX3) (N := 2) hx hb hts in_X3 hown hK hP 0 rfl rfl 1 (by decide) (hts _ q226) (fun _ h9 => h9) rfl dX3_isFree_25 ?_
          refine lv_aload_n hx hb dX3_isFree_28 rfl (lv_at hl 0 rfl) ?_
          refine va_get (D := D) (ci := 2) (v := .int (nI nn)) (C := RX3) (T := TX3) (N := 2) hx hb hts in_X3 hown hK hP 0 rfl rfl 0 (by decide) (hts _ q224) (fun _ h9 => h9) rfl dX3_isFree_29 ?_
          refine lv_iload_n hx hb dX3_isFree_32 rfl (lv_at hl 1 rfl) ?_
          refine lv_imul hx hb dX3_isFree_33 ?_
          refine lv_iload_n hx hb dX3_isFree_34 rfl (lv_at hl 2 rfl) ?_
          refine lv_iadd hx hb dX3_isFree_35 ?_
          refine va_iald hx hb hK hP 1 2 rfl rfl hin dX3_isFree_36 ?_
          refine lv_if_ge (tgt := 44) hx hb dX3_isFree_37 (by decide) (fun h5_ => ?_) (fun h5_ => ?_)
          · refine lv_iconst (v := 0) hx hb dX3_isFree_44 (by decide) ?_
            exact zk_iret CX hQ hr rfl hP hD hS () ((if_neg (fun q => absurd q.2.2.2.2 (Int32.not_lt.mpr h5_))).symm) [0, 1] rfl rfl (Nat.le_of_ble_eq_true rfl) (Nat.le_of_ble_eq_true rfl) dX3_isFree_45
          · refine lv_iconst (v := 1) hx hb dX3_isFree_40 (by decide) ?_
            refine lv_goto (tgt := 45) hx hb dX3_isFree_41 (by decide) ?_
            exact zk_iret CX hQ hr rfl hP hD hS () ((if_pos ⟨Int32.not_lt.mp h1_, Int32.not_le.mp h2_, Int32.not_lt.mp h3_, Int32.not_le.mp h4_, Int32.not_le.mp h5_⟩).symm) [0, 1] rfl rfl (Nat.le_of_ble_eq_true rfl) (Nat.le_of_ble_eq_true rfl) dX3_isFree_45

set_option maxHeartbeats 4000000 in
set_option maxRecDepth 100000 in
theorem metX3_isDark (l : Launch) (D : va_G) (tB tC tI : ClassId) (sz : Nat) (h qa qw : Nat) (n : Int32) (N : Nat) (f w : Nat → Int32) (y x : Int32) (h1 : vp_in (n * y + x) N) (h2 : vp_in (n * n - 1) N) (h3 : f (n * y + x).toNatClampNeg < 0 ∨ vp_in (f (n * y + x).toNatClampNeg >>> (3 &&& 31)) 72) : zk_Mi l yX3_isDark cX3_isDark 5 (some .boolean) 0 0 D tB tC tI [.ref h, .int y, .int x, .ref qw] [(h, .inr (2, [.int n, .ref qa])), (qa, .inl (tI, N, .inl f)), (qw, .inl (tI, 72, .inl w))] (fun (r : Int32) (_ : Unit) => r = zk_dk n f w y x) (fun (_ : Unit) => [(h, .inr (2, [.int n, .ref qa])), (qa, .inl (tI, N, .inl f)), (qw, .inl (tI, 72, .inl w))]) 0 0 sz := by
  refine zk_openI (by decide) (Nat.le_of_ble_eq_true rfl) (fun p e s m args below meth c ls A Q CX hr hnm hQ hsz hP hD hS hl => ?_)
  obtain ⟨hx, hb, hml, hown, hts, hA, hK, hZ, hlocks⟩ := id CX
  have hown : s.vm.findClass RX3 = some m.cls := hown
  have hl : lv_has ls 5 [(0, .ref h), (1, .int y), (2, .int x), (3, .ref qw)] := hl
  refine lv_aload_n hx hb dX3_isDark_0 rfl (lv_at hl 0 rfl) ?_
  refine va_get (D := D) (ci := 2) (v := .ref qa) (C := RX3) (T := TX3) (N := 2) hx hb hts in_X3 hown hK hP 0 rfl rfl 1 (by decide) (hts _ q226) (fun _ h9 => h9) rfl dX3_isDark_1 ?_
  refine lv_aload_n hx hb dX3_isDark_4 rfl (lv_at hl 0 rfl) ?_
  refine va_get (D := D) (ci := 2) (v := .int n) (C := RX3) (T := TX3) (N := 2) hx hb hts in_X3 hown hK hP 0 rfl rfl 0 (by decide) (hts _ q224) (fun _ h9 => h9) rfl dX3_isDark_5 ?_
  refine lv_iload_n hx hb dX3_isDark_8 rfl (lv_at hl 1 rfl) ?_
  refine lv_imul hx hb dX3_isDark_9 ?_
  refine lv_iload_n hx hb dX3_isDark_10 rfl (lv_at hl 2 rfl) ?_
  refine lv_iadd hx hb dX3_isDark_11 ?_
  refine va_iald hx hb hK hP 1 2 rfl rfl h1 dX3_isDark_12 ?_
  refine lv_topi (fun its eits => ?_)
  have e : zk_dk n f w y x = if its < 0 then (if f (n * n - 1).toNatClampNeg < 0 ∧ y = x ∧ n - 2 ≤ y then 1 else 0) else if (w (its >>> (3 &&& 31)).toNatClampNeg >>> ((7 - (its &&& 7)) &&& 31)) &&& 1 = 1 then 1 else 0 := by unfold zk_dk; rw [← eits]
  rw [← eits] at h3
  refine lv_istore (lv' := [(4, .int its), (0, .ref h), (1, .int y), (2, .int x), (3, .ref qw)]) hx hb dX3_isDark_13 hl (by decide) rfl (fun ls hl => ?_)
  refine lv_iload hx hb dX3_isDark_15 (lv_at hl 0 rfl) ?_
  refine lv_if_ge (tgt := 62) hx hb dX3_isDark_17 (by decide) (fun h_ => ?_) (fun h_ => ?_)
  · have h3 := h3.resolve_left (Int32.not_lt.mpr h_)
    refine lv_aload_n hx hb dX3_isDark_62 rfl (lv_at hl 4 rfl) ?_
    refine lv_iload hx hb dX3_isDark_63 (lv_at hl 0 rfl) ?_
    refine lv_iconst (v := 3) hx hb dX3_isDark_65 (by decide) ?_
    refine lv_ishr hx hb dX3_isDark_66 ?_
    refine va_iald hx hb hK hP 2 2 rfl rfl h3 dX3_isDark_67 ?_
    refine lv_bipush (v := 7) hx hb dX3_isDark_68 (by decide) ?_
    refine lv_iload hx hb dX3_isDark_70 (lv_at hl 0 rfl) ?_
    refine lv_bipush (v := 7) hx hb dX3_isDark_72 (by decide) ?_
    refine lv_iand hx hb dX3_isDark_74 ?_
    refine lv_isub hx hb dX3_isDark_75 ?_
    refine lv_ishr hx hb dX3_isDark_76 ?_
    refine lv_iconst (v := 1) hx hb dX3_isDark_77 (by decide) ?_
    refine lv_iand hx hb dX3_isDark_78 ?_
    refine lv_iconst (v := 1) hx hb dX3_isDark_79 (by decide) ?_
    refine lv_icmp_ne (tgt := 87) hx hb dX3_isDark_80 (by decide) (fun h4_ => ?_) (fun h4_ => ?_)
    · refine lv_iconst (v := 0) hx hb dX3_isDark_87 (by decide) ?_
      exact zk_iret CX hQ hr rfl hP hD hS () (by rw [e, if_neg (Int32.not_lt.mpr h_), if_neg h4_]) [0, 1, 2] rfl rfl (Nat.le_of_ble_eq_true rfl) (Nat.le_of_ble_eq_true rfl) dX3_isDark_88
    · refine lv_iconst (v := 1) hx hb dX3_isDark_83 (by decide) ?_
      refine lv_goto (tgt := 88) hx hb dX3_isDark_84 (by decide) ?_
      exact zk_iret CX hQ hr rfl hP hD hS () (by rw [e, if_neg (Int32.not_lt.mpr h_), if_pos h4_]) [0, 1, 2] rfl rfl (Nat.le_of_ble_eq_true rfl) (Nat.le_of_ble_eq_true rfl) dX3_isDark_88
  · refine lv_aload_n hx hb dX3_isDark_20 rfl (lv_at hl 1 rfl) ?_
    refine va_get (D := D) (ci := 2) (v := .ref qa) (C := RX3) (T := TX3) (N := 2) hx hb hts in_X3 hown hK hP 0 rfl rfl 1 (by decide) (hts _ q226) (fun _ h9 => h9) rfl dX3_isDark_21 ?_
    refine lv_aload_n hx hb dX3_isDark_24 rfl (lv_at hl 1 rfl) ?_
    refine va_get (D := D) (ci := 2) (v := .int n) (C := RX3) (T := TX3) (N := 2) hx hb hts in_X3 hown hK hP 0 rfl rfl 0 (by decide) (hts _ q224) (fun _ h9 => h9) rfl dX3_isDark_25 ?_
    refine lv_aload_n hx hb dX3_isDark_28 rfl (lv_at hl 1 rfl) ?_
    refine va_get (D := D) (ci := 2) (v := .int n) (C := RX3) (T := TX3) (N := 2) hx hb hts in_X3 hown hK hP 0 rfl rfl 0 (by decide) (hts _ q224) (fun _ h9 => h9) rfl dX3_isDark_29 ?_
    refine lv_imul hx hb dX3_isDark_32 ?_
    refine lv_iconst (v := 1) hx hb dX3_isDark_33 (by decide) ?_
    refine lv_isub hx hb dX3_isDark_34 ?_
    refine va_iald hx hb hK hP 1 2 rfl rfl h2 dX3_isDark_35 ?_
    refine lv_if_ge (tgt := 58) hx hb dX3_isDark_36 (by decide) (fun h4_ => ?_) (fun h4_ => ?_)
    · refine lv_iconst (v := 0) hx hb dX3_isDark_58 (by decide) ?_
      refine lv_goto (tgt := 88) hx hb dX3_isDark_59 (by decide) ?_
      exact zk_iret CX hQ hr rfl hP hD hS () (by rw [e, if_pos (Int32.not_le.mp h_), if_neg (fun q => absurd q.1 (Int32.not_lt.mpr h4_))]) [0, 1, 2] rfl rfl (Nat.le_of_ble_eq_true rfl) (Nat.le_of_ble_eq_true rfl) dX3_isDark_88
    · refine lv_iload_n hx hb dX3_isDark_39 rfl (lv_at hl 2 rfl) ?_
      refine lv_iload_n hx hb dX3_isDark_40 rfl (lv_at hl 3 rfl) ?_
      refine lv_icmp_ne (tgt := 58) hx hb dX3_isDark_41 (by decide) (fun h5_ => ?_) (fun h5_ => ?_)
      · refine lv_iconst (v := 0) hx hb dX3_isDark_58 (by decide) ?_
        refine lv_goto (tgt := 88) hx hb dX3_isDark_59 (by decide) ?_
        exact zk_iret CX hQ hr rfl hP hD hS () (by rw [e, if_pos (Int32.not_le.mp h_), if_neg (fun q => h5_ q.2.1)]) [0, 1, 2] rfl rfl (Nat.le_of_ble_eq_true rfl) (Nat.le_of_ble_eq_true rfl) dX3_isDark_88
      · refine lv_iload_n hx hb dX3_isDark_44 rfl (lv_at hl 2 rfl) ?_
        refine lv_aload_n hx hb dX3_isDark_45 rfl (lv_at hl 1 rfl) ?_
        refine va_get (D := D) (ci := 2) (v := .int n) (C := RX3) (T := TX3) (N := 2) hx hb hts in_X3 hown hK hP 0 rfl rfl 0 (by decide) (hts _ q224) (fun _ h9 => h9) rfl dX3_isDark_46 ?_
        refine lv_iconst (v := 2) hx hb dX3_isDark_49 (by decide) ?_
        refine lv_isub hx hb dX3_isDark_50 ?_
        refine lv_icmp_lt (tgt := 58) hx hb dX3_isDark_51 (by decide) (fun h6_ => ?_) (fun h6_ => ?_)
        · refine lv_iconst (v := 0) hx hb dX3_isDark_58 (by decide) ?_
          refine lv_goto (tgt := 88) hx hb dX3_isDark_59 (by decide) ?_
          exact zk_iret CX hQ hr rfl hP hD hS () (by rw [e, if_pos (Int32.not_le.mp h_), if_neg (fun q => absurd q.2.2 (Int32.not_le.mpr h6_))]) [0, 1, 2] rfl rfl (Nat.le_of_ble_eq_true rfl) (Nat.le_of_ble_eq_true rfl) dX3_isDark_88
        · refine lv_iconst (v := 1) hx hb dX3_isDark_54 (by decide) ?_
          refine lv_goto (tgt := 88) hx hb dX3_isDark_55 (by decide) ?_
          exact zk_iret CX hQ hr rfl hP hD hS () (by rw [e, if_pos (Int32.not_le.mp h_), if_pos ⟨Int32.not_le.mp h4_, h5_, Int32.not_lt.mp h6_⟩]) [0, 1, 2] rfl rfl (Nat.le_of_ble_eq_true rfl) (Nat.le_of_ble_eq_true rfl) dX3_isDark_88

set_option maxHeartbeats 4000000 in
set_option maxRecDepth 100000 in
theorem metX3_isWhole (l : Launch) (D : va_G) (tB tC tI : ClassId) (sz : Nat) (h qa : Nat) (n : Int32) (N M : Nat) (L : List Nat) (hn : n * n = nI N) (hN : N ≤ 196) (hM : M ≤ 24) (hL : L.length = 8 * M) (hLN : L.length ≤ N) (f1 : zk_F1 L N) (f2 : zk_F2 L N) (fc : zk_cnt L N = N - L.length) : zk_Mi l yX3_isWhole cX3_isWhole 8 (some .boolean) 0 0 D tB tC tI [.ref h, .int (nI M)] [(h, .inr (2, [.int n, .ref qa])), (qa, .inl (tI, N, .inl (zk_T L)))] (fun (r : Int32) (_ : Unit) => r = 1) (fun (_ : Unit) => [(h, .inr (2, [.int n, .ref qa])), (qa, .inl (tI, N, .inl (zk_T L)))]) 1 192 sz := by
  refine zk_openI (by decide) (Nat.le_of_ble_eq_true rfl) (fun p e s m args below meth c ls A Q CX hr hnm hQ hsz hP hD hS hl => ?_)
  obtain ⟨hx, hb, hml, hown, hts, hA, hK, hZ, hlocks⟩ := id CX
  have hown : s.vm.findClass RX3 = some m.cls := hown
  have hl : lv_has ls 8 [(0, .ref h), (1, .int (nI M))] := hl
  have e8 : 8 * nI M = nI (8 * M) := pk_mul 8 M
  refine lv_bipush (v := 8) hx hb dX3_isWhole_0 (by decide) ?_
  refine lv_iload_n hx hb dX3_isWhole_2 rfl (lv_at hl 1 rfl) ?_
  refine lv_imul hx hb dX3_isWhole_3 ?_
  refine zk_newI (N' := (8 * M)) CX hP hD hS (by rw [e8]; exact nI_pos (by omega)) (by rw [e8]; exact nI_clamp (by omega)) (by show 8 * M * 4 ≤ 536870912; omega) (Nat.le_of_ble_eq_true rfl) (by show 0 + 8 * M ≤ 192; omega) dX3_isWhole_4 (fun qn H hP hD hS => ?_)
  have hP : va_P D zk_cl [(h, .inr (2, [.int n, .ref qa])), (qa, .inl (tI, N, .inl (zk_T L))), (qn, .inl (tI, (8 * M), .inl (fun _ => 0)))] H := hP
  have hD : va_D A [(h, .inr (2, [.int n, .ref qa])), (qa, .inl (tI, N, .inl (zk_T L))), (qn, .inl (tI, (8 * M), .inl (fun _ => 0)))] := hD
  refine W.widen (k := 1) (n := 192) (by omega) (by omega) ?_
  refine lv_astore_n (lv' := [(2, .ref qn), (0, .ref h), (1, .int (nI M))]) hx hb dX3_isWhole_6 rfl hl (by decide) rfl (fun ls hl => ?_)
  refine lv_iconst (v := 0) hx hb dX3_isWhole_7 (by decide) ?_
  refine lv_istore_n (lv' := [(3, .int 0), (2, .ref qn), (0, .ref h), (1, .int (nI M))]) hx hb dX3_isWhole_8 rfl hl (by decide) rfl (fun ls hl => ?_)
  refine lv_aload_n hx hb dX3_isWhole_9 rfl (lv_at hl 2 rfl) ?_
  refine va_get (D := D) (ci := 2) (v := .ref qa) (C := RX3) (T := TX3) (N := 2) hx hb hts in_X3 hown hK hP 0 rfl rfl 1 (by decide) (hts _ q226) (fun _ h9 => h9) rfl dX3_isWhole_10 ?_
  refine lv_astore (lv' := [(4, .ref qa), (3, .int 0), (2, .ref qn), (0, .ref h), (1, .int (nI M))]) hx hb dX3_isWhole_13 hl (by decide) rfl (fun ls hl => ?_)
  refine lv_aload hx hb dX3_isWhole_15 (lv_at hl 0 rfl) ?_
  refine va_alen (v := nI N) hx hb hK hP 1 2 rfl rfl rfl dX3_isWhole_17 ?_
  refine lv_istore (lv' := [(5, .int (nI N)), (4, .ref qa), (3, .int 0), (2, .ref qn), (0, .ref h), (1, .int (nI M))]) hx hb dX3_isWhole_18 hl (by decide) rfl (fun ls hl => ?_)
  refine lv_iconst (v := 0) hx hb dX3_isWhole_20 (by decide) ?_
  refine lv_istore (lv' := [(6, .int 0), (5, .int (nI N)), (4, .ref qa), (3, .int 0), (2, .ref qn), (0, .ref h), (1, .int (nI M))]) hx hb dX3_isWhole_21 hl (by decide) rfl (fun ls hl => ?_)
  rw [show (fun _ => (0 : Int32) : Nat → Int32) = zk_sn L 0 from (zk_sn_0 L).symm] at hP hD
  have LOOP2 : ∀ (k i : Nat) (x : Int32) (H : Heap) (locs : List Loc) (ls : Array Slot), 8 * M ≤ i + k → i ≤ 8 * M → x = nI i → va_P D zk_cl [(h, .inr (2, [.int n, .ref qa])), (qa, .inl (tI, N, .inl (zk_T L))), (qn, .inl (tI, (8 * M), .inl (zk_sn L N)))] H → va_D A [(h, .inr (2, [.int n, .ref qa])), (qa, .inl (tI, N, .inl (zk_T L))), (qn, .inl (tI, (8 * M), .inl (zk_sn L N)))] → va_S A s.heap H locs → lv_has ls 8 [(6, .int x), (5, .int (nI (8 * M))), (4, .ref qn), (3, .int (nI (N - 8 * M))), (0, .ref h), (1, .int (nI M))] → W p l e ({ frames := 0, cells := 1, slots := 192, locals := 0 } : Room) s m args below meth c H locs 1 192 Q (F0 m 84 ls []) := by
    intro k
    induction k with
    | zero =>
      intro i x H locs ls hk hi ex hP hD hS hl
      refine lv_iload hx hb dX3_isWhole_84 (lv_at hl 0 rfl) ?_
      refine lv_iload hx hb dX3_isWhole_86 (lv_at hl 1 rfl) ?_
      refine lv_icmp_ge (tgt := 112) hx hb dX3_isWhole_88 (by decide) (fun h_ => ?_) (fun h_ => ?_)
      · refine lv_iload_n hx hb dX3_isWhole_112 rfl (lv_at hl 3 rfl) ?_
        refine lv_aload_n hx hb dX3_isWhole_113 rfl (lv_at hl 4 rfl) ?_
        refine va_get (D := D) (ci := 2) (v := .int n) (C := RX3) (T := TX3) (N := 2) hx hb hts in_X3 hown hK hP 0 rfl rfl 0 (by decide) (hts _ q224) (fun _ h9 => h9) rfl dX3_isWhole_114 ?_
        refine lv_aload_n hx hb dX3_isWhole_117 rfl (lv_at hl 4 rfl) ?_
        refine va_get (D := D) (ci := 2) (v := .int n) (C := RX3) (T := TX3) (N := 2) hx hb hts in_X3 hown hK hP 0 rfl rfl 0 (by decide) (hts _ q224) (fun _ h9 => h9) rfl dX3_isWhole_118 ?_
        refine lv_imul hx hb dX3_isWhole_121 ?_
        refine lv_bipush (v := 8) hx hb dX3_isWhole_122 (by decide) ?_
        refine lv_iload_n hx hb dX3_isWhole_124 rfl (lv_at hl 5 rfl) ?_
        refine lv_imul hx hb dX3_isWhole_125 ?_
        refine lv_isub hx hb dX3_isWhole_126 ?_
        refine lv_icmp_ne (tgt := 134) hx hb dX3_isWhole_127 (by decide) (fun h_ => absurd (by rw [hn, e8, pk_sub (by omega)]) h_) (fun h_ => ?_)
        refine lv_iconst (v := 1) hx hb dX3_isWhole_130 (by decide) ?_
        refine lv_goto (tgt := 135) hx hb dX3_isWhole_131 (by decide) ?_
        exact zk_iret CX hQ hr rfl hP hD hS () rfl [0, 1] rfl rfl (Nat.le_of_ble_eq_true rfl) (Nat.le_of_ble_eq_true rfl) dX3_isWhole_135
      · exact absurd (by rw [ex]; exact nI_le (by omega) (by omega)) h_
    | succ k ih =>
      intro i x H locs ls hk hi ex hP hD hS hl
      refine lv_iload hx hb dX3_isWhole_84 (lv_at hl 0 rfl) ?_
      refine lv_iload hx hb dX3_isWhole_86 (lv_at hl 1 rfl) ?_
      refine lv_icmp_ge (tgt := 112) hx hb dX3_isWhole_88 (by decide) (fun h_ => ?_) (fun h_ => ?_)
      · refine lv_iload_n hx hb dX3_isWhole_112 rfl (lv_at hl 3 rfl) ?_
        refine lv_aload_n hx hb dX3_isWhole_113 rfl (lv_at hl 4 rfl) ?_
        refine va_get (D := D) (ci := 2) (v := .int n) (C := RX3) (T := TX3) (N := 2) hx hb hts in_X3 hown hK hP 0 rfl rfl 0 (by decide) (hts _ q224) (fun _ h9 => h9) rfl dX3_isWhole_114 ?_
        refine lv_aload_n hx hb dX3_isWhole_117 rfl (lv_at hl 4 rfl) ?_
        refine va_get (D := D) (ci := 2) (v := .int n) (C := RX3) (T := TX3) (N := 2) hx hb hts in_X3 hown hK hP 0 rfl rfl 0 (by decide) (hts _ q224) (fun _ h9 => h9) rfl dX3_isWhole_118 ?_
        refine lv_imul hx hb dX3_isWhole_121 ?_
        refine lv_bipush (v := 8) hx hb dX3_isWhole_122 (by decide) ?_
        refine lv_iload_n hx hb dX3_isWhole_124 rfl (lv_at hl 5 rfl) ?_
        refine lv_imul hx hb dX3_isWhole_125 ?_
        refine lv_isub hx hb dX3_isWhole_126 ?_
        refine lv_icmp_ne (tgt := 134) hx hb dX3_isWhole_127 (by decide) (fun h_ => absurd (by rw [hn, e8, pk_sub (by omega)]) h_) (fun h_ => ?_)
        refine lv_iconst (v := 1) hx hb dX3_isWhole_130 (by decide) ?_
        refine lv_goto (tgt := 135) hx hb dX3_isWhole_131 (by decide) ?_
        exact zk_iret CX hQ hr rfl hP hD hS () rfl [0, 1] rfl rfl (Nat.le_of_ble_eq_true rfl) (Nat.le_of_ble_eq_true rfl) dX3_isWhole_135
      · have hlt : i < 8 * M := by
          rcases Nat.lt_or_ge i (8 * M) with q | q
          · exact q
          · exact absurd (by rw [ex]; exact nI_le q (by omega)) h_
        have hin : vp_in x (8 * M) := by rw [ex]; exact vp_in_nI hlt (by omega)
        have hcl : x.toNatClampNeg = i := by rw [ex]; exact nI_clamp (by omega)
        refine lv_aload hx hb dX3_isWhole_91 (lv_at hl 2 rfl) ?_
        refine lv_iload hx hb dX3_isWhole_93 (lv_at hl 0 rfl) ?_
        refine va_iald hx hb hK hP 2 2 rfl rfl hin dX3_isWhole_95 ?_
        refine lv_topi (fun v_ ev_ => ?_)
        refine lv_istore (lv' := [(7, .int v_), (6, .int x), (5, .int (nI (8 * M))), (4, .ref qn), (3, .int (nI (N - 8 * M))), (0, .ref h), (1, .int (nI M))]) hx hb dX3_isWhole_96 hl (by decide) rfl (fun ls hl => ?_)
        refine lv_iload hx hb dX3_isWhole_98 (lv_at hl 0 rfl) ?_
        refine lv_iconst (v := 1) hx hb dX3_isWhole_100 (by decide) ?_
        refine lv_icmp_eq (tgt := 106) hx hb dX3_isWhole_101 (by decide) (fun h_ => ?_) (fun h_ => absurd (by rw [ev_, hcl]; exact zk_sn_end f1 (by omega)) h_)
        refine lv_iinc (v := x + 1) (lv' := [(6, .int (x + 1)), (7, .int v_), (5, .int (nI (8 * M))), (4, .ref qn), (3, .int (nI (N - 8 * M))), (0, .ref h), (1, .int (nI M))]) hx hb dX3_isWhole_106 hl (k := 1) rfl rfl (by decide) rfl (fun ls hl => ?_)
        refine lv_goto (tgt := 84) hx hb dX3_isWhole_109 (by decide) ?_
        exact ih (i + 1) (x + 1) _ _ _ (by omega) (by omega) (by rw [ex]; exact nI_1 i) hP hD hS (lv_sub hl [0, 2, 3, 4, 5, 6] rfl)
  have LOOP1 : ∀ (k i : Nat) (x b_ : Int32) (H : Heap) (locs : List Loc) (ls : Array Slot), N ≤ i + k → i ≤ N → x = nI i → b_ = nI (zk_cnt L i) → va_P D zk_cl [(h, .inr (2, [.int n, .ref qa])), (qa, .inl (tI, N, .inl (zk_T L))), (qn, .inl (tI, (8 * M), .inl (zk_sn L i)))] H → va_D A [(h, .inr (2, [.int n, .ref qa])), (qa, .inl (tI, N, .inl (zk_T L))), (qn, .inl (tI, (8 * M), .inl (zk_sn L i)))] → va_S A s.heap H locs → lv_has ls 8 [(6, .int x), (5, .int (nI N)), (4, .ref qa), (3, .int b_), (2, .ref qn), (0, .ref h), (1, .int (nI M))] → W p l e ({ frames := 0, cells := 1, slots := 192, locals := 0 } : Room) s m args below meth c H locs 1 192 Q (F0 m 23 ls []) := by
    intro k
    induction k with
    | zero =>
      intro i x b_ H locs ls hk hi ex eb hP hD hS hl
      refine lv_iload hx hb dX3_isWhole_23 (lv_at hl 0 rfl) ?_
      refine lv_iload hx hb dX3_isWhole_25 (lv_at hl 1 rfl) ?_
      refine lv_icmp_ge (tgt := 73) hx hb dX3_isWhole_27 (by decide) (fun h_ => ?_) (fun h_ => ?_)
      · have hiN : i = N := by
          rcases Nat.lt_or_ge i N with q | q
          · rw [ex] at h_; exact absurd h_ (Int32.not_le.mpr (nI_lt q (by omega)))
          · omega
        subst hiN
        have eb : b_ = nI (i - 8 * M) := by rw [eb, fc, hL]
        subst eb
        refine lv_aload_n hx hb dX3_isWhole_73 rfl (lv_at hl 4 rfl) ?_
        refine lv_astore (lv' := [(4, .ref qn), (6, .int x), (5, .int (nI i)), (3, .int (nI (i - 8 * M))), (2, .ref qn), (0, .ref h), (1, .int (nI M))]) hx hb dX3_isWhole_74 hl (by decide) rfl (fun ls hl => ?_)
        refine lv_aload hx hb dX3_isWhole_76 (lv_at hl 0 rfl) ?_
        refine va_alen (v := nI (8 * M)) hx hb hK hP 2 2 rfl rfl rfl dX3_isWhole_78 ?_
        refine lv_istore (lv' := [(5, .int (nI (8 * M))), (4, .ref qn), (6, .int x), (3, .int (nI (i - 8 * M))), (2, .ref qn), (0, .ref h), (1, .int (nI M))]) hx hb dX3_isWhole_79 hl (by decide) rfl (fun ls hl => ?_)
        refine lv_iconst (v := 0) hx hb dX3_isWhole_81 (by decide) ?_
        refine lv_istore (lv' := [(6, .int 0), (5, .int (nI (8 * M))), (4, .ref qn), (3, .int (nI (i - 8 * M))), (2, .ref qn), (0, .ref h), (1, .int (nI M))]) hx hb dX3_isWhole_82 hl (by decide) rfl (fun ls hl => ?_)
        exact LOOP2 (8 * M) 0 0 _ _ _ (by omega) (by omega) nI_0.symm hP hD hS (lv_sub hl [0, 1, 2, 3, 5, 6] rfl)
      · exact absurd (by rw [ex]; exact nI_le (by omega) (by omega)) h_
    | succ k ih =>
      intro i x b_ H locs ls hk hi ex eb hP hD hS hl
      refine lv_iload hx hb dX3_isWhole_23 (lv_at hl 0 rfl) ?_
      refine lv_iload hx hb dX3_isWhole_25 (lv_at hl 1 rfl) ?_
      refine lv_icmp_ge (tgt := 73) hx hb dX3_isWhole_27 (by decide) (fun h_ => ?_) (fun h_ => ?_)
      · have hiN : i = N := by
          rcases Nat.lt_or_ge i N with q | q
          · rw [ex] at h_; exact absurd h_ (Int32.not_le.mpr (nI_lt q (by omega)))
          · omega
        subst hiN
        have eb : b_ = nI (i - 8 * M) := by rw [eb, fc, hL]
        subst eb
        refine lv_aload_n hx hb dX3_isWhole_73 rfl (lv_at hl 4 rfl) ?_
        refine lv_astore (lv' := [(4, .ref qn), (6, .int x), (5, .int (nI i)), (3, .int (nI (i - 8 * M))), (2, .ref qn), (0, .ref h), (1, .int (nI M))]) hx hb dX3_isWhole_74 hl (by decide) rfl (fun ls hl => ?_)
        refine lv_aload hx hb dX3_isWhole_76 (lv_at hl 0 rfl) ?_
        refine va_alen (v := nI (8 * M)) hx hb hK hP 2 2 rfl rfl rfl dX3_isWhole_78 ?_
        refine lv_istore (lv' := [(5, .int (nI (8 * M))), (4, .ref qn), (6, .int x), (3, .int (nI (i - 8 * M))), (2, .ref qn), (0, .ref h), (1, .int (nI M))]) hx hb dX3_isWhole_79 hl (by decide) rfl (fun ls hl => ?_)
        refine lv_iconst (v := 0) hx hb dX3_isWhole_81 (by decide) ?_
        refine lv_istore (lv' := [(6, .int 0), (5, .int (nI (8 * M))), (4, .ref qn), (3, .int (nI (i - 8 * M))), (2, .ref qn), (0, .ref h), (1, .int (nI M))]) hx hb dX3_isWhole_82 hl (by decide) rfl (fun ls hl => ?_)
        exact LOOP2 (8 * M) 0 0 _ _ _ (by omega) (by omega) nI_0.symm hP hD hS (lv_sub hl [0, 1, 2, 3, 5, 6] rfl)
      · have hlt : i < N := by
          rcases Nat.lt_or_ge i N with q | q
          · exact q
          · exact absurd (by rw [ex]; exact nI_le q (by omega)) h_
        have hin : vp_in x N := by rw [ex]; exact vp_in_nI hlt (by omega)
        have hcl : x.toNatClampNeg = i := by rw [ex]; exact nI_clamp (by omega)
        have hcn : zk_cnt L i ≤ i := zk_cnt_le L i
        refine lv_aload hx hb dX3_isWhole_30 (lv_at hl 2 rfl) ?_
        refine lv_iload hx hb dX3_isWhole_32 (lv_at hl 0 rfl) ?_
        refine va_iald hx hb hK hP 1 2 rfl rfl hin dX3_isWhole_34 ?_
        refine lv_topi (fun v_ ev_ => ?_)
        rw [hcl] at ev_
        refine lv_istore (lv' := [(7, .int v_), (6, .int x), (5, .int (nI N)), (4, .ref qa), (3, .int b_), (2, .ref qn), (0, .ref h), (1, .int (nI M))]) hx hb dX3_isWhole_35 hl (by decide) rfl (fun ls hl => ?_)
        refine lv_iload hx hb dX3_isWhole_37 (lv_at hl 0 rfl) ?_
        refine lv_if_ge (tgt := 48) hx hb dX3_isWhole_39 (by decide) (fun h2_ => ?_) (fun h2_ => ?_)
        · have hm : i ∈ L := Decidable.of_not_not (fun q => absurd ((zk_T_neg (by omega)).mpr q) (by rw [← ev_]; exact Int32.not_lt.mpr h2_))
          obtain ⟨v, hv, ev2⟩ : ∃ v, v < L.length ∧ zk_T L i = nI v := by
            rcases zk_TB (fun _ => 0) i L with ⟨q, -, -⟩ | ⟨-, v, q1, q2, -⟩
            · exact absurd hm q
            · exact ⟨v, q1, q2⟩
          have ev3 : v_ = nI v := ev_.trans ev2
          have hiv : vp_in v_ (8 * M) := by rw [ev3]; exact vp_in_nI (by omega) (by omega)
          refine lv_iload hx hb dX3_isWhole_48 (lv_at hl 0 rfl) ?_
          refine lv_bipush (v := 8) hx hb dX3_isWhole_50 (by decide) ?_
          refine lv_iload_n hx hb dX3_isWhole_52 rfl (lv_at hl 7 rfl) ?_
          refine lv_imul hx hb dX3_isWhole_53 ?_
          refine lv_icmp_lt (tgt := 59) hx hb dX3_isWhole_54 (by decide) (fun h_ => ?_) (fun h_ => absurd (by rw [ev3, e8]; exact nI_lt (by omega) (by omega)) h_)
          refine lv_aload_n hx hb dX3_isWhole_59 rfl (lv_at hl 5 rfl) ?_
          refine lv_iload hx hb dX3_isWhole_60 (lv_at hl 0 rfl) ?_
          refine lv_dup2_11 hx hb dX3_isWhole_62 rfl rfl ?_
          refine va_iald hx hb hK hP 2 2 rfl rfl hiv dX3_isWhole_63 ?_
          refine lv_iconst (v := 1) hx hb dX3_isWhole_64 (by decide) ?_
          refine lv_iadd hx hb dX3_isWhole_65 ?_
          refine va_iast hx hb hK hP hD hS 2 2 rfl rfl hiv dX3_isWhole_66 (fun H locs hP hD hS => ?_)
          have hP : va_P D zk_cl [(h, .inr (2, [.int n, .ref qa])), (qa, .inl (tI, N, .inl (zk_T L))), (qn, .inl (tI, (8 * M), .inl (upd (zk_sn L i) v_.toNatClampNeg (((zk_sn L i) v_.toNatClampNeg) + 1))))] H := hP
          have hD : va_D A [(h, .inr (2, [.int n, .ref qa])), (qa, .inl (tI, N, .inl (zk_T L))), (qn, .inl (tI, (8 * M), .inl (upd (zk_sn L i) v_.toNatClampNeg (((zk_sn L i) v_.toNatClampNeg) + 1))))] := hD
          have ef_ : upd (zk_sn L i) v_.toNatClampNeg (((zk_sn L i) v_.toNatClampNeg) + 1) = zk_sn L (i + 1) := by rw [ev3]; exact zk_sn_put f1 f2 hlt (by omega) hm hv ev2 (by rw [nI_clamp (by omega)])
          rw [ef_] at hP hD
          clear ef_
          refine lv_iinc (v := x + 1) (lv' := [(6, .int (x + 1)), (7, .int v_), (5, .int (nI N)), (4, .ref qa), (3, .int b_), (2, .ref qn), (0, .ref h), (1, .int (nI M))]) hx hb dX3_isWhole_67 hl (k := 1) rfl rfl (by decide) rfl (fun ls hl => ?_)
          refine lv_goto (tgt := 23) hx hb dX3_isWhole_70 (by decide) ?_
          exact ih (i + 1) (x + 1) b_ _ _ _ (by omega) (by omega) (by rw [ex]; exact nI_1 i) (by rw [eb]; exact congrArg nI (if_pos hm).symm) hP hD hS (lv_sub hl [0, 2, 3, 4, 5, 6, 7] rfl)
        · have hm : i ∉ L := (zk_T_neg (by omega)).mp (by rw [← ev_]; exact Int32.not_le.mp h2_)
          refine lv_iinc (v := b_ + 1) (lv' := [(3, .int (b_ + 1)), (7, .int v_), (6, .int x), (5, .int (nI N)), (4, .ref qa), (2, .ref qn), (0, .ref h), (1, .int (nI M))]) hx hb dX3_isWhole_42 hl (k := 4) rfl rfl (by decide) rfl (fun ls hl => ?_)
          refine lv_goto (tgt := 67) hx hb dX3_isWhole_45 (by decide) ?_
          refine lv_iinc (v := x + 1) (lv' := [(6, .int (x + 1)), (3, .int (b_ + 1)), (7, .int v_), (5, .int (nI N)), (4, .ref qa), (2, .ref qn), (0, .ref h), (1, .int (nI M))]) hx hb dX3_isWhole_67 hl (k := 2) rfl rfl (by decide) rfl (fun ls hl => ?_)
          refine lv_goto (tgt := 23) hx hb dX3_isWhole_70 (by decide) ?_
          rw [zk_sn_skip f1 (by omega) hm] at hP hD
          exact ih (i + 1) (x + 1) (b_ + 1) _ _ _ (by omega) (by omega) (by rw [ex]; exact nI_1 i) (by rw [eb, nI_1]; exact congrArg nI (if_neg hm).symm) hP hD hS (lv_sub hl [0, 3, 4, 1, 5, 6, 7] rfl)
  exact LOOP1 N 0 0 0 _ _ _ (by omega) (by omega) nI_0.symm nI_0.symm hP hD hS (lv_sub hl [0, 1, 2, 3, 4, 5, 6] rfl)
end
section
/-! Square.fill: the same run's events -/
set_option maxRecDepth 100000

/-- the pcs of fill's heads -/
def zk_pcF : Nat → Nat
  | 0 => 12
  | 1 => 501
  | 2 => 544
  | _ => 12

set_option maxHeartbeats 4000000 in
set_option maxRecDepth 100000 in
theorem metX3_fill (l : Launch) (D : va_G) (tB tC tI : ClassId) (sz : Nat) (h qa nn : Nat) (Lf : List Nat) (tr0 : List zk_ev) (h14 : nn ≤ 14) (hLf : Lf.length ≤ 196) (hok : zk_ok (nI nn) (nn * nn) Lf tr0 0 4 0 0 [] = true) : zk_Mv l yX3_fill cX3_fill 5 none 3 72 D tB tC tI [.ref h] [(h, .inr (2, [.int (nI nn), .ref qa])), (qa, .inl (tI, (nn * nn), .inl (fun _ => -1)))] (fun (_ : Unit) => True) (fun (_ : Unit) => [(h, .inr (2, [.int (nI nn), .ref qa])), (qa, .inl (tI, (nn * nn), .inl (zk_T Lf)))]) 24 384 sz := by
  refine zk_openV (by decide) (Nat.le_of_ble_eq_true rfl) (fun p e s m args below meth c ls A Q CX hr hnm hQ hsz hP hD hS hl => ?_)
  obtain ⟨hx, hb, hml, hown, hts, hA, hK, hZ, hlocks⟩ := id CX
  have hown : s.vm.findClass RX3 = some m.cls := hown
  have hl : lv_has ls 5 [(0, .ref h)] := hl
  have hN : nn * nn ≤ 196 := Nat.mul_le_mul h14 h14
  have END : ∀ (r0 c0 : Int32) (p0 : Nat) (H : Heap) (locs : List Loc) (ls : Array Slot), p0 ≤ 24 → ¬ zk_mo (nI nn) r0 c0 → va_P D zk_cl [(h, .inr (2, [.int (nI nn), .ref qa])), (qa, .inl (tI, (nn * nn), .inl (zk_T Lf)))] H → va_D A [(h, .inr (2, [.int (nI nn), .ref qa])), (qa, .inl (tI, (nn * nn), .inl (zk_T Lf)))] → va_S A s.heap H locs → lv_has ls 5 [(0, .ref h), (1, .int (nI nn)), (2, .int (nI p0)), (3, .int r0), (4, .int c0)] → W p l e ({ frames := 3, cells := 24, slots := 384, locals := 72 } : Room) s m args below meth c H locs p0 (16 * p0) Q (F0 m 12 ls []) := by
    intro r0 c0 p0 H locs ls hp24 hm hP hD hS hl
    refine lv_iload_n hx hb dX3_fill_12 rfl (lv_at hl 3 rfl) ?_
    refine lv_iload_n hx hb dX3_fill_13 rfl (lv_at hl 1 rfl) ?_
    refine lv_icmp_lt (tgt := 23) hx hb dX3_fill_14 (by decide) (fun h_ => absurd h_ (fun q => hm (Or.inl q))) (fun h_ => ?_)
    refine lv_iload hx hb dX3_fill_17 (lv_at hl 4 rfl) ?_
    refine lv_iload_n hx hb dX3_fill_19 rfl (lv_at hl 1 rfl) ?_
    refine lv_icmp_ge (tgt := 590) hx hb dX3_fill_20 (by decide) (fun h_ => ?_) (fun h_ => absurd (Int32.not_lt.mp (fun q => hm (Or.inr q))) h_)
    exact zk_vret CX hQ hr hP hD hS () trivial [0, 1] rfl rfl (by omega) (by omega) dX3_fill_590
  have S12 : ∀ (r0 c0 : Int32) (p0 : Nat) (L : List Nat) (H : Heap) (locs : List Loc) (ls : Array Slot), va_P D zk_cl [(h, .inr (2, [.int (nI nn), .ref qa])), (qa, .inl (tI, (nn * nn), .inl (zk_T L)))] H → va_D A [(h, .inr (2, [.int (nI nn), .ref qa])), (qa, .inl (tI, (nn * nn), .inl (zk_T L)))] → va_S A s.heap H locs → lv_has ls 5 [(0, .ref h), (1, .int (nI nn)), (2, .int (nI p0)), (3, .int r0), (4, .int c0)] → zk_mo (nI nn) r0 c0 → W p l e ({ frames := 3, cells := 24, slots := 384, locals := 72 } : Room) s m args below meth c H locs p0 (16 * p0) Q (F0 m 23 ls []) → W p l e ({ frames := 3, cells := 24, slots := 384, locals := 72 } : Room) s m args below meth c H locs p0 (16 * p0) Q (F0 m 12 ls []) := by
    intro r0 c0 p0 L H locs ls hP hD hS hl
    intro hm K
    refine lv_iload_n hx hb dX3_fill_12 rfl (lv_at hl 3 rfl) ?_
    refine lv_iload_n hx hb dX3_fill_13 rfl (lv_at hl 1 rfl) ?_
    refine lv_icmp_lt (tgt := 23) hx hb dX3_fill_14 (by decide) (fun hr_ => ?_) (fun hr_ => ?_)
    · exact K
    · refine lv_iload hx hb dX3_fill_17 (lv_at hl 4 rfl) ?_
      refine lv_iload_n hx hb dX3_fill_19 rfl (lv_at hl 1 rfl) ?_
      refine lv_icmp_ge (tgt := 590) hx hb dX3_fill_20 (by decide) (fun h_ => absurd h_ (Int32.not_le.mpr (hm.resolve_left hr_))) (fun h_ => ?_)
      exact K
  have TU : ∀ (r0 c0 : Int32) (p0 : Nat) (L : List Nat) (H : Heap) (locs : List Loc) (ls : Array Slot), va_P D zk_cl [(h, .inr (2, [.int (nI nn), .ref qa])), (qa, .inl (tI, (nn * nn), .inl (zk_T L)))] H → va_D A [(h, .inr (2, [.int (nI nn), .ref qa])), (qa, .inl (tI, (nn * nn), .inl (zk_T L)))] → va_S A s.heap H locs → lv_has ls 5 [(0, .ref h), (1, .int (nI nn)), (2, .int (nI p0)), (3, .int r0), (4, .int c0)] → (zk_up (nI nn) r0 c0 → ∀ ls1 : Array Slot, lv_has ls1 5 [(0, .ref h), (1, .int (nI nn)), (2, .int (nI p0)), (3, .int (r0 + (-2))), (4, .int (c0 + 2))] → W p l e ({ frames := 3, cells := 24, slots := 384, locals := 72 } : Room) s m args below meth c H locs p0 (16 * p0) Q (F0 m 501 ls1 [])) → (¬ zk_up (nI nn) r0 c0 → ∀ ls1 : Array Slot, lv_has ls1 5 [(0, .ref h), (1, .int (nI nn)), (2, .int (nI p0)), (3, .int (r0 + (-2) + 1)), (4, .int (c0 + 2 + 3))] → W p l e ({ frames := 3, cells := 24, slots := 384, locals := 72 } : Room) s m args below meth c H locs p0 (16 * p0) Q (F0 m 544 ls1 [])) → W p l e ({ frames := 3, cells := 24, slots := 384, locals := 72 } : Room) s m args below meth c H locs p0 (16 * p0) Q (F0 m 522 ls []) := by
    intro r0 c0 p0 L H locs ls hP hD hS hl
    intro K1 K2
    refine lv_iinc (v := r0 + (-2)) (lv' := [(3, .int (r0 + (-2))), (0, .ref h), (1, .int (nI nn)), (2, .int (nI p0)), (4, .int c0)]) hx hb dX3_fill_522 hl (k := 3) rfl (zk_m2 _) (by decide) rfl (fun ls hl => ?_)
    refine lv_iinc (v := c0 + 2) (lv' := [(4, .int (c0 + 2)), (3, .int (r0 + (-2))), (0, .ref h), (1, .int (nI nn)), (2, .int (nI p0))]) hx hb dX3_fill_525 hl (k := 4) rfl rfl (by decide) rfl (fun ls hl => ?_)
    refine lv_iload_n hx hb dX3_fill_528 rfl (lv_at hl 1 rfl) ?_
    refine lv_if_lt (tgt := 538) hx hb dX3_fill_529 (by decide) (fun h_ => ?_) (fun h_ => ?_)
    · refine lv_iinc (v := (r0 + (-2)) + 1) (lv' := [(3, .int ((r0 + (-2)) + 1)), (4, .int (c0 + 2)), (0, .ref h), (1, .int (nI nn)), (2, .int (nI p0))]) hx hb dX3_fill_538 hl (k := 1) rfl rfl (by decide) rfl (fun ls hl => ?_)
      refine lv_iinc (v := (c0 + 2) + 3) (lv' := [(4, .int ((c0 + 2) + 3)), (3, .int ((r0 + (-2)) + 1)), (0, .ref h), (1, .int (nI nn)), (2, .int (nI p0))]) hx hb dX3_fill_541 hl (k := 1) rfl rfl (by decide) rfl (fun ls hl => ?_)
      exact K2 (fun q => absurd h_ (Int32.not_lt.mpr q.1)) _ (lv_sub hl [2, 3, 4, 1, 0] rfl)
    · refine lv_iload hx hb dX3_fill_532 (lv_at hl 0 rfl) ?_
      refine lv_iload_n hx hb dX3_fill_534 rfl (lv_at hl 3 rfl) ?_
      refine lv_icmp_lt (tgt := 501) hx hb dX3_fill_535 (by decide) (fun h2_ => ?_) (fun h2_ => ?_)
      · exact K1 ⟨Int32.not_lt.mp h_, h2_⟩ _ (lv_sub hl [2, 3, 4, 1, 0] rfl)
      · refine lv_iinc (v := (r0 + (-2)) + 1) (lv' := [(3, .int ((r0 + (-2)) + 1)), (4, .int (c0 + 2)), (0, .ref h), (1, .int (nI nn)), (2, .int (nI p0))]) hx hb dX3_fill_538 hl (k := 1) rfl rfl (by decide) rfl (fun ls hl => ?_)
        refine lv_iinc (v := (c0 + 2) + 3) (lv' := [(4, .int ((c0 + 2) + 3)), (3, .int ((r0 + (-2)) + 1)), (0, .ref h), (1, .int (nI nn)), (2, .int (nI p0))]) hx hb dX3_fill_541 hl (k := 1) rfl rfl (by decide) rfl (fun ls hl => ?_)
        exact K2 (fun q => h2_ q.2) _ (lv_sub hl [2, 3, 4, 1, 0] rfl)
  have TD : ∀ (r0 c0 : Int32) (p0 : Nat) (L : List Nat) (H : Heap) (locs : List Loc) (ls : Array Slot), va_P D zk_cl [(h, .inr (2, [.int (nI nn), .ref qa])), (qa, .inl (tI, (nn * nn), .inl (zk_T L)))] H → va_D A [(h, .inr (2, [.int (nI nn), .ref qa])), (qa, .inl (tI, (nn * nn), .inl (zk_T L)))] → va_S A s.heap H locs → lv_has ls 5 [(0, .ref h), (1, .int (nI nn)), (2, .int (nI p0)), (3, .int r0), (4, .int c0)] → (zk_dn (nI nn) r0 c0 → ∀ ls1 : Array Slot, lv_has ls1 5 [(0, .ref h), (1, .int (nI nn)), (2, .int (nI p0)), (3, .int (r0 + 2)), (4, .int (c0 + (-2)))] → W p l e ({ frames := 3, cells := 24, slots := 384, locals := 72 } : Room) s m args below meth c H locs p0 (16 * p0) Q (F0 m 544 ls1 [])) → (¬ zk_dn (nI nn) r0 c0 → ∀ ls1 : Array Slot, lv_has ls1 5 [(0, .ref h), (1, .int (nI nn)), (2, .int (nI p0)), (3, .int (r0 + 2 + 3)), (4, .int (c0 + (-2) + 1))] → W p l e ({ frames := 3, cells := 24, slots := 384, locals := 72 } : Room) s m args below meth c H locs p0 (16 * p0) Q (F0 m 12 ls1 [])) → W p l e ({ frames := 3, cells := 24, slots := 384, locals := 72 } : Room) s m args below meth c H locs p0 (16 * p0) Q (F0 m 565 ls []) := by
    intro r0 c0 p0 L H locs ls hP hD hS hl
    intro K1 K2
    refine lv_iinc (v := r0 + 2) (lv' := [(3, .int (r0 + 2)), (0, .ref h), (1, .int (nI nn)), (2, .int (nI p0)), (4, .int c0)]) hx hb dX3_fill_565 hl (k := 3) rfl rfl (by decide) rfl (fun ls hl => ?_)
    refine lv_iinc (v := c0 + (-2)) (lv' := [(4, .int (c0 + (-2))), (3, .int (r0 + 2)), (0, .ref h), (1, .int (nI nn)), (2, .int (nI p0))]) hx hb dX3_fill_568 hl (k := 4) rfl (zk_m2 _) (by decide) rfl (fun ls hl => ?_)
    have J581 : ¬ zk_dn (nI nn) r0 c0 → W p l e ({ frames := 3, cells := 24, slots := 384, locals := 72 } : Room) s m args below meth c H locs p0 (16 * p0) Q (F0 m 581 ls []) := by
      intro hnd
      refine lv_iinc (v := (r0 + 2) + 3) (lv' := [(3, .int ((r0 + 2) + 3)), (4, .int (c0 + (-2))), (0, .ref h), (1, .int (nI nn)), (2, .int (nI p0))]) hx hb dX3_fill_581 hl (k := 1) rfl rfl (by decide) rfl (fun ls hl => ?_)
      refine lv_iinc (v := (c0 + (-2)) + 1) (lv' := [(4, .int ((c0 + (-2)) + 1)), (3, .int ((r0 + 2) + 3)), (0, .ref h), (1, .int (nI nn)), (2, .int (nI p0))]) hx hb dX3_fill_584 hl (k := 1) rfl rfl (by decide) rfl (fun ls hl => ?_)
      refine lv_goto (tgt := 12) hx hb dX3_fill_587 (by decide) ?_
      exact K2 hnd _ (lv_sub hl [2, 3, 4, 1, 0] rfl)
    refine lv_iload_n hx hb dX3_fill_571 rfl (lv_at hl 1 rfl) ?_
    refine lv_iload_n hx hb dX3_fill_572 rfl (lv_at hl 3 rfl) ?_
    refine lv_icmp_ge (tgt := 581) hx hb dX3_fill_573 (by decide) (fun h_ => ?_) (fun h_ => ?_)
    · exact J581 (fun q => absurd q.1 (Int32.not_lt.mpr h_))
    · refine lv_iload hx hb dX3_fill_576 (lv_at hl 0 rfl) ?_
      refine lv_if_ge (tgt := 544) hx hb dX3_fill_578 (by decide) (fun h2_ => ?_) (fun h2_ => ?_)
      · exact K1 ⟨Int32.not_le.mp h_, h2_⟩ _ (lv_sub hl [2, 3, 4, 1, 0] rfl)
      · exact J581 (fun q => h2_ q.2)
  have S23 : ∀ (r0 c0 : Int32) (p0 : Nat) (L : List Nat) (H : Heap) (locs : List Loc) (ls : Array Slot), va_P D zk_cl [(h, .inr (2, [.int (nI nn), .ref qa])), (qa, .inl (tI, (nn * nn), .inl (zk_T L)))] H → va_D A [(h, .inr (2, [.int (nI nn), .ref qa])), (qa, .inl (tI, (nn * nn), .inl (zk_T L)))] → va_S A s.heap H locs → lv_has ls 5 [(0, .ref h), (1, .int (nI nn)), (2, .int (nI p0)), (3, .int r0), (4, .int c0)] → ¬ zk_C1 (nI nn) r0 c0 → W p l e ({ frames := 3, cells := 24, slots := 384, locals := 72 } : Room) s m args below meth c H locs p0 (16 * p0) Q (F0 m 135 ls []) → W p l e ({ frames := 3, cells := 24, slots := 384, locals := 72 } : Room) s m args below meth c H locs p0 (16 * p0) Q (F0 m 23 ls []) := by
    intro r0 c0 p0 L H locs ls hP hD hS hl
    intro hC K
    refine lv_iload_n hx hb dX3_fill_23 rfl (lv_at hl 3 rfl) ?_
    refine lv_iload_n hx hb dX3_fill_24 rfl (lv_at hl 1 rfl) ?_
    refine lv_icmp_ne (tgt := 135) hx hb dX3_fill_25 (by decide) (fun h_ => ?_) (fun h_ => ?_)
    · exact K
    · refine lv_iload hx hb dX3_fill_28 (lv_at hl 4 rfl) ?_
      refine lv_if_ne (tgt := 135) hx hb dX3_fill_30 (by decide) (fun h2_ => ?_) (fun h2_ => ?_)
      · exact K
      · exact absurd ⟨h_, h2_⟩ hC
  have S135 : ∀ (r0 c0 : Int32) (p0 : Nat) (L : List Nat) (H : Heap) (locs : List Loc) (ls : Array Slot), va_P D zk_cl [(h, .inr (2, [.int (nI nn), .ref qa])), (qa, .inl (tI, (nn * nn), .inl (zk_T L)))] H → va_D A [(h, .inr (2, [.int (nI nn), .ref qa])), (qa, .inl (tI, (nn * nn), .inl (zk_T L)))] → va_S A s.heap H locs → lv_has ls 5 [(0, .ref h), (1, .int (nI nn)), (2, .int (nI p0)), (3, .int r0), (4, .int c0)] → ¬ zk_C2 (nI nn) r0 c0 → W p l e ({ frames := 3, cells := 24, slots := 384, locals := 72 } : Room) s m args below meth c H locs p0 (16 * p0) Q (F0 m 255 ls []) → W p l e ({ frames := 3, cells := 24, slots := 384, locals := 72 } : Room) s m args below meth c H locs p0 (16 * p0) Q (F0 m 135 ls []) := by
    intro r0 c0 p0 L H locs ls hP hD hS hl
    intro hC K
    refine lv_iload_n hx hb dX3_fill_135 rfl (lv_at hl 3 rfl) ?_
    refine lv_iload_n hx hb dX3_fill_136 rfl (lv_at hl 1 rfl) ?_
    refine lv_iconst (v := 2) hx hb dX3_fill_137 (by decide) ?_
    refine lv_isub hx hb dX3_fill_138 ?_
    refine lv_icmp_ne (tgt := 255) hx hb dX3_fill_139 (by decide) (fun h_ => ?_) (fun h_ => ?_)
    · exact K
    · refine lv_iload hx hb dX3_fill_142 (lv_at hl 4 rfl) ?_
      refine lv_if_ne (tgt := 255) hx hb dX3_fill_144 (by decide) (fun h2_ => ?_) (fun h2_ => ?_)
      · exact K
      · refine lv_iload_n hx hb dX3_fill_147 rfl (lv_at hl 1 rfl) ?_
        refine lv_iconst (v := 4) hx hb dX3_fill_148 (by decide) ?_
        refine lv_irem hx hb dX3_fill_149 (by decide) ?_
        refine lv_if_eq (tgt := 255) hx hb dX3_fill_150 (by decide) (fun h3_ => ?_) (fun h3_ => ?_)
        · exact K
        · exact absurd ⟨h_, h2_, h3_⟩ hC
  have S255 : ∀ (r0 c0 : Int32) (p0 : Nat) (L : List Nat) (H : Heap) (locs : List Loc) (ls : Array Slot), va_P D zk_cl [(h, .inr (2, [.int (nI nn), .ref qa])), (qa, .inl (tI, (nn * nn), .inl (zk_T L)))] H → va_D A [(h, .inr (2, [.int (nI nn), .ref qa])), (qa, .inl (tI, (nn * nn), .inl (zk_T L)))] → va_S A s.heap H locs → lv_has ls 5 [(0, .ref h), (1, .int (nI nn)), (2, .int (nI p0)), (3, .int r0), (4, .int c0)] → ¬ zk_C3 (nI nn) r0 c0 → W p l e ({ frames := 3, cells := 24, slots := 384, locals := 72 } : Room) s m args below meth c H locs p0 (16 * p0) Q (F0 m 377 ls []) → W p l e ({ frames := 3, cells := 24, slots := 384, locals := 72 } : Room) s m args below meth c H locs p0 (16 * p0) Q (F0 m 255 ls []) := by
    intro r0 c0 p0 L H locs ls hP hD hS hl
    intro hC K
    refine lv_iload_n hx hb dX3_fill_255 rfl (lv_at hl 3 rfl) ?_
    refine lv_iload_n hx hb dX3_fill_256 rfl (lv_at hl 1 rfl) ?_
    refine lv_iconst (v := 2) hx hb dX3_fill_257 (by decide) ?_
    refine lv_isub hx hb dX3_fill_258 ?_
    refine lv_icmp_ne (tgt := 377) hx hb dX3_fill_259 (by decide) (fun h_ => ?_) (fun h_ => ?_)
    · exact K
    · refine lv_iload hx hb dX3_fill_262 (lv_at hl 4 rfl) ?_
      refine lv_if_ne (tgt := 377) hx hb dX3_fill_264 (by decide) (fun h2_ => ?_) (fun h2_ => ?_)
      · exact K
      · refine lv_iload_n hx hb dX3_fill_267 rfl (lv_at hl 1 rfl) ?_
        refine lv_bipush (v := 8) hx hb dX3_fill_268 (by decide) ?_
        refine lv_irem hx hb dX3_fill_270 (by decide) ?_
        refine lv_iconst (v := 4) hx hb dX3_fill_271 (by decide) ?_
        refine lv_icmp_ne (tgt := 377) hx hb dX3_fill_272 (by decide) (fun h3_ => ?_) (fun h3_ => ?_)
        · exact K
        · exact absurd ⟨h_, h2_, h3_⟩ hC
  have S377 : ∀ (r0 c0 : Int32) (p0 : Nat) (L : List Nat) (H : Heap) (locs : List Loc) (ls : Array Slot), va_P D zk_cl [(h, .inr (2, [.int (nI nn), .ref qa])), (qa, .inl (tI, (nn * nn), .inl (zk_T L)))] H → va_D A [(h, .inr (2, [.int (nI nn), .ref qa])), (qa, .inl (tI, (nn * nn), .inl (zk_T L)))] → va_S A s.heap H locs → lv_has ls 5 [(0, .ref h), (1, .int (nI nn)), (2, .int (nI p0)), (3, .int r0), (4, .int c0)] → ¬ zk_C4 (nI nn) r0 c0 → W p l e ({ frames := 3, cells := 24, slots := 384, locals := 72 } : Room) s m args below meth c H locs p0 (16 * p0) Q (F0 m 501 ls []) → W p l e ({ frames := 3, cells := 24, slots := 384, locals := 72 } : Room) s m args below meth c H locs p0 (16 * p0) Q (F0 m 377 ls []) := by
    intro r0 c0 p0 L H locs ls hP hD hS hl
    intro hC K
    refine lv_iload_n hx hb dX3_fill_377 rfl (lv_at hl 3 rfl) ?_
    refine lv_iload_n hx hb dX3_fill_378 rfl (lv_at hl 1 rfl) ?_
    refine lv_iconst (v := 4) hx hb dX3_fill_379 (by decide) ?_
    refine lv_iadd hx hb dX3_fill_380 ?_
    refine lv_icmp_ne (tgt := 501) hx hb dX3_fill_381 (by decide) (fun h_ => ?_) (fun h_ => ?_)
    · exact K
    · refine lv_iload hx hb dX3_fill_384 (lv_at hl 4 rfl) ?_
      refine lv_iconst (v := 2) hx hb dX3_fill_386 (by decide) ?_
      refine lv_icmp_ne (tgt := 501) hx hb dX3_fill_387 (by decide) (fun h2_ => ?_) (fun h2_ => ?_)
      · exact K
      · refine lv_iload_n hx hb dX3_fill_390 rfl (lv_at hl 1 rfl) ?_
        refine lv_bipush (v := 8) hx hb dX3_fill_391 (by decide) ?_
        refine lv_irem hx hb dX3_fill_393 (by decide) ?_
        refine lv_if_ne (tgt := 501) hx hb dX3_fill_394 (by decide) (fun h3_ => ?_) (fun h3_ => ?_)
        · exact K
        · exact absurd ⟨h_, h2_, h3_⟩ hC
  have LOOP : ∀ (tr : List zk_ev) (ph : Nat) (r0 c0 : Int32) (p0 : Nat) (L : List Nat) (H : Heap) (locs : List Loc) (ls : Array Slot), zk_ok (nI nn) (nn * nn) Lf tr ph r0 c0 p0 L = true → L.length = 8 * p0 → p0 ≤ 24 → va_P D zk_cl [(h, .inr (2, [.int (nI nn), .ref qa])), (qa, .inl (tI, (nn * nn), .inl (zk_T L)))] H → va_D A [(h, .inr (2, [.int (nI nn), .ref qa])), (qa, .inl (tI, (nn * nn), .inl (zk_T L)))] → va_S A s.heap H locs → lv_has ls 5 [(0, .ref h), (1, .int (nI nn)), (2, .int (nI p0)), (3, .int r0), (4, .int c0)] → W p l e ({ frames := 3, cells := 24, slots := 384, locals := 72 } : Room) s m args below meth c H locs p0 (16 * p0) Q (F0 m (zk_pcF ph) ls []) := by
    intro tr
    induction tr with
    | nil =>
      intro ph r0 c0 p0 L H locs ls hk hL h24 hP hD hS hl
      obtain ⟨e1, e2, e3⟩ := zk_ok_nil hk
      subst e1 e2
      exact END r0 c0 p0 H locs ls (by omega) e3 hP hD hS hl
    | cons ev tr ih =>
      intro ph r0 c0 p0 L H locs ls hk hL h24 hP hD hS hl
      obtain ⟨t, r', c', j, ks, ph2, r2, c2⟩ := ev
      obtain ⟨⟨e1, e2, e3⟩, hc, hn⟩ := zk_ok_cons hk
      subst e1 e2 e3
      have hL' := zk_nL_len (t := t) (ks := ks) hL
      have ht : t = 0 ∨ t = 1 ∨ t = 2 ∨ t = 3 ∨ t = 4 ∨ t = 5 ∨ t = 6 ∨ ∃ z, t = z + 7 := by
        rcases Nat.lt_or_ge t 7 with q | q
        · omega
        · exact Or.inr (Or.inr (Or.inr (Or.inr (Or.inr (Or.inr (Or.inr ⟨t - 7, by omega⟩))))))
      rcases ht with e | e | e | e | e | e | e | ⟨z, e⟩ <;> subst e
      · refine W.eq (g2 := F0 m 12 ls []) rfl ?_
        obtain ⟨hmo, n1, n2, n3, n4, e1, e2, e3⟩ := zk_s0 hc
        subst e1; have e2 := e2.symm; have e3 := e3.symm; subst e2 e3
        exact S12 r0 c0 p0 L H locs ls hP hD hS hl hmo (S23 r0 c0 p0 L H locs ls hP hD hS hl n1 (S135 r0 c0 p0 L H locs ls hP hD hS hl n2 (S255 r0 c0 p0 L H locs ls hP hD hS hl n3 (S377 r0 c0 p0 L H locs ls hP hD hS hl n4 (ih 1 r0 c0 p0 L H locs ls hn hL' (by omega) hP hD hS hl)))))
      · refine W.eq (g2 := F0 m 12 ls []) rfl ?_
        obtain ⟨hmo, n1, n2, n3, n4, hp, hk8, e1, e2, e3⟩ := zk_s1 hc
        subst e1; have e2 := e2.symm; have e3 := e3.symm; subst e2 e3
        refine S12 r0 c0 p0 L H locs ls hP hD hS hl hmo ?_
        refine lv_iload_n hx hb dX3_fill_23 rfl (lv_at hl 3 rfl) ?_
        refine lv_iload_n hx hb dX3_fill_24 rfl (lv_at hl 1 rfl) ?_
        refine lv_icmp_ne (tgt := 135) hx hb dX3_fill_25 (by decide) (fun h_ => absurd n1.1 h_) (fun h_ => ?_)
        refine lv_iload hx hb dX3_fill_28 (lv_at hl 4 rfl) ?_
        refine lv_if_ne (tgt := 135) hx hb dX3_fill_30 (by decide) (fun h_ => absurd n1.2 h_) (fun h_ => ?_)
        refine lv_aload_n hx hb dX3_fill_33 rfl (lv_at hl 0 rfl) ?_
        refine lv_iload_n hx hb dX3_fill_34 rfl (lv_at hl 2 rfl) ?_
        refine lv_iinc (v := nI (p0 + 1)) (lv' := [(2, .int (nI (p0 + 1))), (0, .ref h), (1, .int (nI nn)), (3, .int r0), (4, .int c0)]) hx hb dX3_fill_35 hl (k := 2) rfl (nI_1 p0) (by decide) rfl (fun ls hl => ?_)
        refine lv_bipush (v := 16) hx hb dX3_fill_38 (by decide) ?_
        refine zk_newI (N' := 16) CX hP hD hS (by decide) (by decide) (Nat.le_of_ble_eq_true rfl) (by show p0 + 1 ≤ 24; omega) (by show 16 * p0 + 16 ≤ 384; omega) dX3_fill_40 (fun qp H hP hD hS => ?_)
        have hP : va_P D zk_cl [(h, .inr (2, [.int (nI nn), .ref qa])), (qa, .inl (tI, (nn * nn), .inl (zk_T L))), (qp, .inl (tI, 16, .inl (fun _ => 0)))] H := hP
        have hD : va_D A [(h, .inr (2, [.int (nI nn), .ref qa])), (qa, .inl (tI, (nn * nn), .inl (zk_T L))), (qp, .inl (tI, 16, .inl (fun _ => 0)))] := hD
        refine W.widen (k := p0 + 1) (n := 16 * p0 + 16) (by omega) (by omega) ?_
        have hP : va_P D zk_cl [(h, .inr (2, [.int (nI nn), .ref qa])), (qa, .inl (tI, (nn * nn), .inl (zk_T L))), (qp, .inl (tI, 16, .inl (zk_pl [])))] H := hP
        have hD : va_D A [(h, .inr (2, [.int (nI nn), .ref qa])), (qa, .inl (tI, (nn * nn), .inl (zk_T L))), (qp, .inl (tI, 16, .inl (zk_pl [])))] := hD
        refine lv_dup hx hb dX3_fill_42 rfl ?_
        refine lv_iconst (v := 0) hx hb dX3_fill_43 (by decide) ?_
        refine lv_iload_n hx hb dX3_fill_44 rfl (lv_at hl 2 rfl) ?_
        refine lv_iconst (v := 1) hx hb dX3_fill_45 (by decide) ?_
        refine lv_isub hx hb dX3_fill_46 ?_
        refine va_iast hx hb hK hP hD hS 2 2 rfl rfl (pk_in 0 16 (by decide)) dX3_fill_47 (fun H locs hP hD hS => ?_)
        have hP : va_P D zk_cl [(h, .inr (2, [.int (nI nn), .ref qa])), (qa, .inl (tI, (nn * nn), .inl (zk_T L))), (qp, .inl (tI, 16, .inl (upd (zk_pl []) (0 : Int32).toNatClampNeg ((nI nn) - 1))))] H := hP
        have hD : va_D A [(h, .inr (2, [.int (nI nn), .ref qa])), (qa, .inl (tI, (nn * nn), .inl (zk_T L))), (qp, .inl (tI, 16, .inl (upd (zk_pl []) (0 : Int32).toNatClampNeg ((nI nn) - 1))))] := hD
        have ef_ : upd (zk_pl []) (0 : Int32).toNatClampNeg ((nI nn) - 1) = zk_pl [(nI nn) - 1] := zk_pl_push (l := []) rfl
        rw [ef_] at hP hD
        clear ef_
        refine lv_dup hx hb dX3_fill_48 rfl ?_
        refine lv_iconst (v := 1) hx hb dX3_fill_49 (by decide) ?_
        refine lv_iconst (v := 0) hx hb dX3_fill_50 (by decide) ?_
        refine va_iast hx hb hK hP hD hS 2 2 rfl rfl (pk_in 1 16 (by decide)) dX3_fill_51 (fun H locs hP hD hS => ?_)
        have hP : va_P D zk_cl [(h, .inr (2, [.int (nI nn), .ref qa])), (qa, .inl (tI, (nn * nn), .inl (zk_T L))), (qp, .inl (tI, 16, .inl (upd (zk_pl [(nI nn) - 1]) (1 : Int32).toNatClampNeg 0)))] H := hP
        have hD : va_D A [(h, .inr (2, [.int (nI nn), .ref qa])), (qa, .inl (tI, (nn * nn), .inl (zk_T L))), (qp, .inl (tI, 16, .inl (upd (zk_pl [(nI nn) - 1]) (1 : Int32).toNatClampNeg 0)))] := hD
        have ef_ : upd (zk_pl [(nI nn) - 1]) (1 : Int32).toNatClampNeg 0 = zk_pl [(nI nn) - 1, 0] := zk_pl_push (l := [(nI nn) - 1]) rfl
        rw [ef_] at hP hD
        clear ef_
        refine lv_dup hx hb dX3_fill_52 rfl ?_
        refine lv_iconst (v := 2) hx hb dX3_fill_53 (by decide) ?_
        refine lv_iload_n hx hb dX3_fill_54 rfl (lv_at hl 2 rfl) ?_
        refine lv_iconst (v := 1) hx hb dX3_fill_55 (by decide) ?_
        refine lv_isub hx hb dX3_fill_56 ?_
        refine va_iast hx hb hK hP hD hS 2 2 rfl rfl (pk_in 2 16 (by decide)) dX3_fill_57 (fun H locs hP hD hS => ?_)
        have hP : va_P D zk_cl [(h, .inr (2, [.int (nI nn), .ref qa])), (qa, .inl (tI, (nn * nn), .inl (zk_T L))), (qp, .inl (tI, 16, .inl (upd (zk_pl [(nI nn) - 1, 0]) (2 : Int32).toNatClampNeg ((nI nn) - 1))))] H := hP
        have hD : va_D A [(h, .inr (2, [.int (nI nn), .ref qa])), (qa, .inl (tI, (nn * nn), .inl (zk_T L))), (qp, .inl (tI, 16, .inl (upd (zk_pl [(nI nn) - 1, 0]) (2 : Int32).toNatClampNeg ((nI nn) - 1))))] := hD
        have ef_ : upd (zk_pl [(nI nn) - 1, 0]) (2 : Int32).toNatClampNeg ((nI nn) - 1) = zk_pl [(nI nn) - 1, 0, (nI nn) - 1] := zk_pl_push (l := [(nI nn) - 1, 0]) rfl
        rw [ef_] at hP hD
        clear ef_
        refine lv_dup hx hb dX3_fill_58 rfl ?_
        refine lv_iconst (v := 3) hx hb dX3_fill_59 (by decide) ?_
        refine lv_iconst (v := 1) hx hb dX3_fill_60 (by decide) ?_
        refine va_iast hx hb hK hP hD hS 2 2 rfl rfl (pk_in 3 16 (by decide)) dX3_fill_61 (fun H locs hP hD hS => ?_)
        have hP : va_P D zk_cl [(h, .inr (2, [.int (nI nn), .ref qa])), (qa, .inl (tI, (nn * nn), .inl (zk_T L))), (qp, .inl (tI, 16, .inl (upd (zk_pl [(nI nn) - 1, 0, (nI nn) - 1]) (3 : Int32).toNatClampNeg 1)))] H := hP
        have hD : va_D A [(h, .inr (2, [.int (nI nn), .ref qa])), (qa, .inl (tI, (nn * nn), .inl (zk_T L))), (qp, .inl (tI, 16, .inl (upd (zk_pl [(nI nn) - 1, 0, (nI nn) - 1]) (3 : Int32).toNatClampNeg 1)))] := hD
        have ef_ : upd (zk_pl [(nI nn) - 1, 0, (nI nn) - 1]) (3 : Int32).toNatClampNeg 1 = zk_pl [(nI nn) - 1, 0, (nI nn) - 1, 1] := zk_pl_push (l := [(nI nn) - 1, 0, (nI nn) - 1]) rfl
        rw [ef_] at hP hD
        clear ef_
        refine lv_dup hx hb dX3_fill_62 rfl ?_
        refine lv_iconst (v := 4) hx hb dX3_fill_63 (by decide) ?_
        refine lv_iload_n hx hb dX3_fill_64 rfl (lv_at hl 2 rfl) ?_
        refine lv_iconst (v := 1) hx hb dX3_fill_65 (by decide) ?_
        refine lv_isub hx hb dX3_fill_66 ?_
        refine va_iast hx hb hK hP hD hS 2 2 rfl rfl (pk_in 4 16 (by decide)) dX3_fill_67 (fun H locs hP hD hS => ?_)
        have hP : va_P D zk_cl [(h, .inr (2, [.int (nI nn), .ref qa])), (qa, .inl (tI, (nn * nn), .inl (zk_T L))), (qp, .inl (tI, 16, .inl (upd (zk_pl [(nI nn) - 1, 0, (nI nn) - 1, 1]) (4 : Int32).toNatClampNeg ((nI nn) - 1))))] H := hP
        have hD : va_D A [(h, .inr (2, [.int (nI nn), .ref qa])), (qa, .inl (tI, (nn * nn), .inl (zk_T L))), (qp, .inl (tI, 16, .inl (upd (zk_pl [(nI nn) - 1, 0, (nI nn) - 1, 1]) (4 : Int32).toNatClampNeg ((nI nn) - 1))))] := hD
        have ef_ : upd (zk_pl [(nI nn) - 1, 0, (nI nn) - 1, 1]) (4 : Int32).toNatClampNeg ((nI nn) - 1) = zk_pl [(nI nn) - 1, 0, (nI nn) - 1, 1, (nI nn) - 1] := zk_pl_push (l := [(nI nn) - 1, 0, (nI nn) - 1, 1]) rfl
        rw [ef_] at hP hD
        clear ef_
        refine lv_dup hx hb dX3_fill_68 rfl ?_
        refine lv_iconst (v := 5) hx hb dX3_fill_69 (by decide) ?_
        refine lv_iconst (v := 2) hx hb dX3_fill_70 (by decide) ?_
        refine va_iast hx hb hK hP hD hS 2 2 rfl rfl (pk_in 5 16 (by decide)) dX3_fill_71 (fun H locs hP hD hS => ?_)
        have hP : va_P D zk_cl [(h, .inr (2, [.int (nI nn), .ref qa])), (qa, .inl (tI, (nn * nn), .inl (zk_T L))), (qp, .inl (tI, 16, .inl (upd (zk_pl [(nI nn) - 1, 0, (nI nn) - 1, 1, (nI nn) - 1]) (5 : Int32).toNatClampNeg 2)))] H := hP
        have hD : va_D A [(h, .inr (2, [.int (nI nn), .ref qa])), (qa, .inl (tI, (nn * nn), .inl (zk_T L))), (qp, .inl (tI, 16, .inl (upd (zk_pl [(nI nn) - 1, 0, (nI nn) - 1, 1, (nI nn) - 1]) (5 : Int32).toNatClampNeg 2)))] := hD
        have ef_ : upd (zk_pl [(nI nn) - 1, 0, (nI nn) - 1, 1, (nI nn) - 1]) (5 : Int32).toNatClampNeg 2 = zk_pl [(nI nn) - 1, 0, (nI nn) - 1, 1, (nI nn) - 1, 2] := zk_pl_push (l := [(nI nn) - 1, 0, (nI nn) - 1, 1, (nI nn) - 1]) rfl
        rw [ef_] at hP hD
        clear ef_
        refine lv_dup hx hb dX3_fill_72 rfl ?_
        refine lv_bipush (v := 6) hx hb dX3_fill_73 (by decide) ?_
        refine lv_iconst (v := 0) hx hb dX3_fill_75 (by decide) ?_
        refine va_iast hx hb hK hP hD hS 2 2 rfl rfl (pk_in 6 16 (by decide)) dX3_fill_76 (fun H locs hP hD hS => ?_)
        have hP : va_P D zk_cl [(h, .inr (2, [.int (nI nn), .ref qa])), (qa, .inl (tI, (nn * nn), .inl (zk_T L))), (qp, .inl (tI, 16, .inl (upd (zk_pl [(nI nn) - 1, 0, (nI nn) - 1, 1, (nI nn) - 1, 2]) (6 : Int32).toNatClampNeg 0)))] H := hP
        have hD : va_D A [(h, .inr (2, [.int (nI nn), .ref qa])), (qa, .inl (tI, (nn * nn), .inl (zk_T L))), (qp, .inl (tI, 16, .inl (upd (zk_pl [(nI nn) - 1, 0, (nI nn) - 1, 1, (nI nn) - 1, 2]) (6 : Int32).toNatClampNeg 0)))] := hD
        have ef_ : upd (zk_pl [(nI nn) - 1, 0, (nI nn) - 1, 1, (nI nn) - 1, 2]) (6 : Int32).toNatClampNeg 0 = zk_pl [(nI nn) - 1, 0, (nI nn) - 1, 1, (nI nn) - 1, 2, 0] := zk_pl_push (l := [(nI nn) - 1, 0, (nI nn) - 1, 1, (nI nn) - 1, 2]) rfl
        rw [ef_] at hP hD
        clear ef_
        refine lv_dup hx hb dX3_fill_77 rfl ?_
        refine lv_bipush (v := 7) hx hb dX3_fill_78 (by decide) ?_
        refine lv_iload_n hx hb dX3_fill_80 rfl (lv_at hl 2 rfl) ?_
        refine lv_iconst (v := 2) hx hb dX3_fill_81 (by decide) ?_
        refine lv_isub hx hb dX3_fill_82 ?_
        refine va_iast hx hb hK hP hD hS 2 2 rfl rfl (pk_in 7 16 (by decide)) dX3_fill_83 (fun H locs hP hD hS => ?_)
        have hP : va_P D zk_cl [(h, .inr (2, [.int (nI nn), .ref qa])), (qa, .inl (tI, (nn * nn), .inl (zk_T L))), (qp, .inl (tI, 16, .inl (upd (zk_pl [(nI nn) - 1, 0, (nI nn) - 1, 1, (nI nn) - 1, 2, 0]) (7 : Int32).toNatClampNeg ((nI nn) - 2))))] H := hP
        have hD : va_D A [(h, .inr (2, [.int (nI nn), .ref qa])), (qa, .inl (tI, (nn * nn), .inl (zk_T L))), (qp, .inl (tI, 16, .inl (upd (zk_pl [(nI nn) - 1, 0, (nI nn) - 1, 1, (nI nn) - 1, 2, 0]) (7 : Int32).toNatClampNeg ((nI nn) - 2))))] := hD
        have ef_ : upd (zk_pl [(nI nn) - 1, 0, (nI nn) - 1, 1, (nI nn) - 1, 2, 0]) (7 : Int32).toNatClampNeg ((nI nn) - 2) = zk_pl [(nI nn) - 1, 0, (nI nn) - 1, 1, (nI nn) - 1, 2, 0, (nI nn) - 2] := zk_pl_push (l := [(nI nn) - 1, 0, (nI nn) - 1, 1, (nI nn) - 1, 2, 0]) rfl
        rw [ef_] at hP hD
        clear ef_
        refine lv_dup hx hb dX3_fill_84 rfl ?_
        refine lv_bipush (v := 8) hx hb dX3_fill_85 (by decide) ?_
        refine lv_iconst (v := 0) hx hb dX3_fill_87 (by decide) ?_
        refine va_iast hx hb hK hP hD hS 2 2 rfl rfl (pk_in 8 16 (by decide)) dX3_fill_88 (fun H locs hP hD hS => ?_)
        have hP : va_P D zk_cl [(h, .inr (2, [.int (nI nn), .ref qa])), (qa, .inl (tI, (nn * nn), .inl (zk_T L))), (qp, .inl (tI, 16, .inl (upd (zk_pl [(nI nn) - 1, 0, (nI nn) - 1, 1, (nI nn) - 1, 2, 0, (nI nn) - 2]) (8 : Int32).toNatClampNeg 0)))] H := hP
        have hD : va_D A [(h, .inr (2, [.int (nI nn), .ref qa])), (qa, .inl (tI, (nn * nn), .inl (zk_T L))), (qp, .inl (tI, 16, .inl (upd (zk_pl [(nI nn) - 1, 0, (nI nn) - 1, 1, (nI nn) - 1, 2, 0, (nI nn) - 2]) (8 : Int32).toNatClampNeg 0)))] := hD
        have ef_ : upd (zk_pl [(nI nn) - 1, 0, (nI nn) - 1, 1, (nI nn) - 1, 2, 0, (nI nn) - 2]) (8 : Int32).toNatClampNeg 0 = zk_pl [(nI nn) - 1, 0, (nI nn) - 1, 1, (nI nn) - 1, 2, 0, (nI nn) - 2, 0] := zk_pl_push (l := [(nI nn) - 1, 0, (nI nn) - 1, 1, (nI nn) - 1, 2, 0, (nI nn) - 2]) rfl
        rw [ef_] at hP hD
        clear ef_
        refine lv_dup hx hb dX3_fill_89 rfl ?_
        refine lv_bipush (v := 9) hx hb dX3_fill_90 (by decide) ?_
        refine lv_iload_n hx hb dX3_fill_92 rfl (lv_at hl 2 rfl) ?_
        refine lv_iconst (v := 1) hx hb dX3_fill_93 (by decide) ?_
        refine lv_isub hx hb dX3_fill_94 ?_
        refine va_iast hx hb hK hP hD hS 2 2 rfl rfl (pk_in 9 16 (by decide)) dX3_fill_95 (fun H locs hP hD hS => ?_)
        have hP : va_P D zk_cl [(h, .inr (2, [.int (nI nn), .ref qa])), (qa, .inl (tI, (nn * nn), .inl (zk_T L))), (qp, .inl (tI, 16, .inl (upd (zk_pl [(nI nn) - 1, 0, (nI nn) - 1, 1, (nI nn) - 1, 2, 0, (nI nn) - 2, 0]) (9 : Int32).toNatClampNeg ((nI nn) - 1))))] H := hP
        have hD : va_D A [(h, .inr (2, [.int (nI nn), .ref qa])), (qa, .inl (tI, (nn * nn), .inl (zk_T L))), (qp, .inl (tI, 16, .inl (upd (zk_pl [(nI nn) - 1, 0, (nI nn) - 1, 1, (nI nn) - 1, 2, 0, (nI nn) - 2, 0]) (9 : Int32).toNatClampNeg ((nI nn) - 1))))] := hD
        have ef_ : upd (zk_pl [(nI nn) - 1, 0, (nI nn) - 1, 1, (nI nn) - 1, 2, 0, (nI nn) - 2, 0]) (9 : Int32).toNatClampNeg ((nI nn) - 1) = zk_pl [(nI nn) - 1, 0, (nI nn) - 1, 1, (nI nn) - 1, 2, 0, (nI nn) - 2, 0, (nI nn) - 1] := zk_pl_push (l := [(nI nn) - 1, 0, (nI nn) - 1, 1, (nI nn) - 1, 2, 0, (nI nn) - 2, 0]) rfl
        rw [ef_] at hP hD
        clear ef_
        refine lv_dup hx hb dX3_fill_96 rfl ?_
        refine lv_bipush (v := 10) hx hb dX3_fill_97 (by decide) ?_
        refine lv_iconst (v := 1) hx hb dX3_fill_99 (by decide) ?_
        refine va_iast hx hb hK hP hD hS 2 2 rfl rfl (pk_in 10 16 (by decide)) dX3_fill_100 (fun H locs hP hD hS => ?_)
        have hP : va_P D zk_cl [(h, .inr (2, [.int (nI nn), .ref qa])), (qa, .inl (tI, (nn * nn), .inl (zk_T L))), (qp, .inl (tI, 16, .inl (upd (zk_pl [(nI nn) - 1, 0, (nI nn) - 1, 1, (nI nn) - 1, 2, 0, (nI nn) - 2, 0, (nI nn) - 1]) (10 : Int32).toNatClampNeg 1)))] H := hP
        have hD : va_D A [(h, .inr (2, [.int (nI nn), .ref qa])), (qa, .inl (tI, (nn * nn), .inl (zk_T L))), (qp, .inl (tI, 16, .inl (upd (zk_pl [(nI nn) - 1, 0, (nI nn) - 1, 1, (nI nn) - 1, 2, 0, (nI nn) - 2, 0, (nI nn) - 1]) (10 : Int32).toNatClampNeg 1)))] := hD
        have ef_ : upd (zk_pl [(nI nn) - 1, 0, (nI nn) - 1, 1, (nI nn) - 1, 2, 0, (nI nn) - 2, 0, (nI nn) - 1]) (10 : Int32).toNatClampNeg 1 = zk_pl [(nI nn) - 1, 0, (nI nn) - 1, 1, (nI nn) - 1, 2, 0, (nI nn) - 2, 0, (nI nn) - 1, 1] := zk_pl_push (l := [(nI nn) - 1, 0, (nI nn) - 1, 1, (nI nn) - 1, 2, 0, (nI nn) - 2, 0, (nI nn) - 1]) rfl
        rw [ef_] at hP hD
        clear ef_
        refine lv_dup hx hb dX3_fill_101 rfl ?_
        refine lv_bipush (v := 11) hx hb dX3_fill_102 (by decide) ?_
        refine lv_iload_n hx hb dX3_fill_104 rfl (lv_at hl 2 rfl) ?_
        refine lv_iconst (v := 1) hx hb dX3_fill_105 (by decide) ?_
        refine lv_isub hx hb dX3_fill_106 ?_
        refine va_iast hx hb hK hP hD hS 2 2 rfl rfl (pk_in 11 16 (by decide)) dX3_fill_107 (fun H locs hP hD hS => ?_)
        have hP : va_P D zk_cl [(h, .inr (2, [.int (nI nn), .ref qa])), (qa, .inl (tI, (nn * nn), .inl (zk_T L))), (qp, .inl (tI, 16, .inl (upd (zk_pl [(nI nn) - 1, 0, (nI nn) - 1, 1, (nI nn) - 1, 2, 0, (nI nn) - 2, 0, (nI nn) - 1, 1]) (11 : Int32).toNatClampNeg ((nI nn) - 1))))] H := hP
        have hD : va_D A [(h, .inr (2, [.int (nI nn), .ref qa])), (qa, .inl (tI, (nn * nn), .inl (zk_T L))), (qp, .inl (tI, 16, .inl (upd (zk_pl [(nI nn) - 1, 0, (nI nn) - 1, 1, (nI nn) - 1, 2, 0, (nI nn) - 2, 0, (nI nn) - 1, 1]) (11 : Int32).toNatClampNeg ((nI nn) - 1))))] := hD
        have ef_ : upd (zk_pl [(nI nn) - 1, 0, (nI nn) - 1, 1, (nI nn) - 1, 2, 0, (nI nn) - 2, 0, (nI nn) - 1, 1]) (11 : Int32).toNatClampNeg ((nI nn) - 1) = zk_pl [(nI nn) - 1, 0, (nI nn) - 1, 1, (nI nn) - 1, 2, 0, (nI nn) - 2, 0, (nI nn) - 1, 1, (nI nn) - 1] := zk_pl_push (l := [(nI nn) - 1, 0, (nI nn) - 1, 1, (nI nn) - 1, 2, 0, (nI nn) - 2, 0, (nI nn) - 1, 1]) rfl
        rw [ef_] at hP hD
        clear ef_
        refine lv_dup hx hb dX3_fill_108 rfl ?_
        refine lv_bipush (v := 12) hx hb dX3_fill_109 (by decide) ?_
        refine lv_iconst (v := 2) hx hb dX3_fill_111 (by decide) ?_
        refine va_iast hx hb hK hP hD hS 2 2 rfl rfl (pk_in 12 16 (by decide)) dX3_fill_112 (fun H locs hP hD hS => ?_)
        have hP : va_P D zk_cl [(h, .inr (2, [.int (nI nn), .ref qa])), (qa, .inl (tI, (nn * nn), .inl (zk_T L))), (qp, .inl (tI, 16, .inl (upd (zk_pl [(nI nn) - 1, 0, (nI nn) - 1, 1, (nI nn) - 1, 2, 0, (nI nn) - 2, 0, (nI nn) - 1, 1, (nI nn) - 1]) (12 : Int32).toNatClampNeg 2)))] H := hP
        have hD : va_D A [(h, .inr (2, [.int (nI nn), .ref qa])), (qa, .inl (tI, (nn * nn), .inl (zk_T L))), (qp, .inl (tI, 16, .inl (upd (zk_pl [(nI nn) - 1, 0, (nI nn) - 1, 1, (nI nn) - 1, 2, 0, (nI nn) - 2, 0, (nI nn) - 1, 1, (nI nn) - 1]) (12 : Int32).toNatClampNeg 2)))] := hD
        have ef_ : upd (zk_pl [(nI nn) - 1, 0, (nI nn) - 1, 1, (nI nn) - 1, 2, 0, (nI nn) - 2, 0, (nI nn) - 1, 1, (nI nn) - 1]) (12 : Int32).toNatClampNeg 2 = zk_pl [(nI nn) - 1, 0, (nI nn) - 1, 1, (nI nn) - 1, 2, 0, (nI nn) - 2, 0, (nI nn) - 1, 1, (nI nn) - 1, 2] := zk_pl_push (l := [(nI nn) - 1, 0, (nI nn) - 1, 1, (nI nn) - 1, 2, 0, (nI nn) - 2, 0, (nI nn) - 1, 1, (nI nn) - 1]) rfl
        rw [ef_] at hP hD
        clear ef_
        refine lv_dup hx hb dX3_fill_113 rfl ?_
        refine lv_bipush (v := 13) hx hb dX3_fill_114 (by decide) ?_
        refine lv_iload_n hx hb dX3_fill_116 rfl (lv_at hl 2 rfl) ?_
        refine lv_iconst (v := 1) hx hb dX3_fill_117 (by decide) ?_
        refine lv_isub hx hb dX3_fill_118 ?_
        refine va_iast hx hb hK hP hD hS 2 2 rfl rfl (pk_in 13 16 (by decide)) dX3_fill_119 (fun H locs hP hD hS => ?_)
        have hP : va_P D zk_cl [(h, .inr (2, [.int (nI nn), .ref qa])), (qa, .inl (tI, (nn * nn), .inl (zk_T L))), (qp, .inl (tI, 16, .inl (upd (zk_pl [(nI nn) - 1, 0, (nI nn) - 1, 1, (nI nn) - 1, 2, 0, (nI nn) - 2, 0, (nI nn) - 1, 1, (nI nn) - 1, 2]) (13 : Int32).toNatClampNeg ((nI nn) - 1))))] H := hP
        have hD : va_D A [(h, .inr (2, [.int (nI nn), .ref qa])), (qa, .inl (tI, (nn * nn), .inl (zk_T L))), (qp, .inl (tI, 16, .inl (upd (zk_pl [(nI nn) - 1, 0, (nI nn) - 1, 1, (nI nn) - 1, 2, 0, (nI nn) - 2, 0, (nI nn) - 1, 1, (nI nn) - 1, 2]) (13 : Int32).toNatClampNeg ((nI nn) - 1))))] := hD
        have ef_ : upd (zk_pl [(nI nn) - 1, 0, (nI nn) - 1, 1, (nI nn) - 1, 2, 0, (nI nn) - 2, 0, (nI nn) - 1, 1, (nI nn) - 1, 2]) (13 : Int32).toNatClampNeg ((nI nn) - 1) = zk_pl [(nI nn) - 1, 0, (nI nn) - 1, 1, (nI nn) - 1, 2, 0, (nI nn) - 2, 0, (nI nn) - 1, 1, (nI nn) - 1, 2, (nI nn) - 1] := zk_pl_push (l := [(nI nn) - 1, 0, (nI nn) - 1, 1, (nI nn) - 1, 2, 0, (nI nn) - 2, 0, (nI nn) - 1, 1, (nI nn) - 1, 2]) rfl
        rw [ef_] at hP hD
        clear ef_
        refine lv_dup hx hb dX3_fill_120 rfl ?_
        refine lv_bipush (v := 14) hx hb dX3_fill_121 (by decide) ?_
        refine lv_iconst (v := 3) hx hb dX3_fill_123 (by decide) ?_
        refine va_iast hx hb hK hP hD hS 2 2 rfl rfl (pk_in 14 16 (by decide)) dX3_fill_124 (fun H locs hP hD hS => ?_)
        have hP : va_P D zk_cl [(h, .inr (2, [.int (nI nn), .ref qa])), (qa, .inl (tI, (nn * nn), .inl (zk_T L))), (qp, .inl (tI, 16, .inl (upd (zk_pl [(nI nn) - 1, 0, (nI nn) - 1, 1, (nI nn) - 1, 2, 0, (nI nn) - 2, 0, (nI nn) - 1, 1, (nI nn) - 1, 2, (nI nn) - 1]) (14 : Int32).toNatClampNeg 3)))] H := hP
        have hD : va_D A [(h, .inr (2, [.int (nI nn), .ref qa])), (qa, .inl (tI, (nn * nn), .inl (zk_T L))), (qp, .inl (tI, 16, .inl (upd (zk_pl [(nI nn) - 1, 0, (nI nn) - 1, 1, (nI nn) - 1, 2, 0, (nI nn) - 2, 0, (nI nn) - 1, 1, (nI nn) - 1, 2, (nI nn) - 1]) (14 : Int32).toNatClampNeg 3)))] := hD
        have ef_ : upd (zk_pl [(nI nn) - 1, 0, (nI nn) - 1, 1, (nI nn) - 1, 2, 0, (nI nn) - 2, 0, (nI nn) - 1, 1, (nI nn) - 1, 2, (nI nn) - 1]) (14 : Int32).toNatClampNeg 3 = zk_pl [(nI nn) - 1, 0, (nI nn) - 1, 1, (nI nn) - 1, 2, 0, (nI nn) - 2, 0, (nI nn) - 1, 1, (nI nn) - 1, 2, (nI nn) - 1, 3] := zk_pl_push (l := [(nI nn) - 1, 0, (nI nn) - 1, 1, (nI nn) - 1, 2, 0, (nI nn) - 2, 0, (nI nn) - 1, 1, (nI nn) - 1, 2, (nI nn) - 1]) rfl
        rw [ef_] at hP hD
        clear ef_
        refine lv_dup hx hb dX3_fill_125 rfl ?_
        refine lv_bipush (v := 15) hx hb dX3_fill_126 (by decide) ?_
        refine lv_iload_n hx hb dX3_fill_128 rfl (lv_at hl 2 rfl) ?_
        refine lv_iconst (v := 1) hx hb dX3_fill_129 (by decide) ?_
        refine lv_isub hx hb dX3_fill_130 ?_
        refine va_iast hx hb hK hP hD hS 2 2 rfl rfl (pk_in 15 16 (by decide)) dX3_fill_131 (fun H locs hP hD hS => ?_)
        have hP : va_P D zk_cl [(h, .inr (2, [.int (nI nn), .ref qa])), (qa, .inl (tI, (nn * nn), .inl (zk_T L))), (qp, .inl (tI, 16, .inl (upd (zk_pl [(nI nn) - 1, 0, (nI nn) - 1, 1, (nI nn) - 1, 2, 0, (nI nn) - 2, 0, (nI nn) - 1, 1, (nI nn) - 1, 2, (nI nn) - 1, 3]) (15 : Int32).toNatClampNeg ((nI nn) - 1))))] H := hP
        have hD : va_D A [(h, .inr (2, [.int (nI nn), .ref qa])), (qa, .inl (tI, (nn * nn), .inl (zk_T L))), (qp, .inl (tI, 16, .inl (upd (zk_pl [(nI nn) - 1, 0, (nI nn) - 1, 1, (nI nn) - 1, 2, 0, (nI nn) - 2, 0, (nI nn) - 1, 1, (nI nn) - 1, 2, (nI nn) - 1, 3]) (15 : Int32).toNatClampNeg ((nI nn) - 1))))] := hD
        have ef_ : upd (zk_pl [(nI nn) - 1, 0, (nI nn) - 1, 1, (nI nn) - 1, 2, 0, (nI nn) - 2, 0, (nI nn) - 1, 1, (nI nn) - 1, 2, (nI nn) - 1, 3]) (15 : Int32).toNatClampNeg ((nI nn) - 1) = zk_pl [(nI nn) - 1, 0, (nI nn) - 1, 1, (nI nn) - 1, 2, 0, (nI nn) - 2, 0, (nI nn) - 1, 1, (nI nn) - 1, 2, (nI nn) - 1, 3, (nI nn) - 1] := zk_pl_push (l := [(nI nn) - 1, 0, (nI nn) - 1, 1, (nI nn) - 1, 2, 0, (nI nn) - 2, 0, (nI nn) - 1, 1, (nI nn) - 1, 2, (nI nn) - 1, 3]) rfl
        rw [ef_] at hP hD
        clear ef_
        refine zk_Vv CX hP hD hS ([]) [0, 1, 2] [] (metX3_word l D tB tC tI _ h qa qp (nI nn) (nn * nn) L ks p0 (nI p0) (zk_pl [(nI nn) - 1, 0, (nI nn) - 1, 1, (nI nn) - 1, 2, 0, (nI nn) - 2, 0, (nI nn) - 1, 1, (nI nn) - 1, 2, (nI nn) - 1, 3, (nI nn) - 1]) (zk_8 (hk8 0 (by omega)) (hk8 1 (by omega)) (hk8 2 (by omega)) (hk8 3 (by omega)) (hk8 4 (by omega)) (hk8 5 (by omega)) (hk8 6 (by omega)) (hk8 7 (by omega))) hN rfl hL (by omega)) (lw_V q237 q238 q239 q15 q240) 2 2 0 rfl rfl rfl (by decide +kernel) rfl hl.1 rfl (Nat.le_of_ble_eq_true rfl) dX3_fill_132 ⟨Nat.le_of_ble_eq_true rfl, Nat.le_of_ble_eq_true rfl⟩ ⟨by show p0 + 1 + 0 ≤ 24; omega, by show 16 * p0 + 16 + 0 ≤ 384; omega⟩ rfl rfl rfl rfl (by decide) (fun _ H locs hw hP hD hS => ?_)
        have hP : va_P D zk_cl [(h, .inr (2, [.int (nI nn), .ref qa])), (qa, .inl (tI, (nn * nn), .inl (zk_T (zk_pre ks 8 L)))), (qp, .inl (tI, 16, .inl (zk_pl [(nI nn) - 1, 0, (nI nn) - 1, 1, (nI nn) - 1, 2, 0, (nI nn) - 2, 0, (nI nn) - 1, 1, (nI nn) - 1, 2, (nI nn) - 1, 3, (nI nn) - 1])))] H := hP
        have hD : va_D A [(h, .inr (2, [.int (nI nn), .ref qa])), (qa, .inl (tI, (nn * nn), .inl (zk_T (zk_pre ks 8 L)))), (qp, .inl (tI, 16, .inl (zk_pl [(nI nn) - 1, 0, (nI nn) - 1, 1, (nI nn) - 1, 2, 0, (nI nn) - 2, 0, (nI nn) - 1, 1, (nI nn) - 1, 2, (nI nn) - 1, 3, (nI nn) - 1])))] := hD
        have hP := hP.sub (ws' := [(h, .inr (2, [.int (nI nn), .ref qa])), (qa, .inl (tI, (nn * nn), .inl (zk_T (zk_pre ks 8 L))))]) [0, 1] rfl
        have hD := hD.sub (ws' := [(h, .inr (2, [.int (nI nn), .ref qa])), (qa, .inl (tI, (nn * nn), .inl (zk_T (zk_pre ks 8 L))))]) [0, 1] (by decide) rfl
        refine W.widen (k := (p0 + 1)) (n := (16 * (p0 + 1))) (by omega) (by omega) ?_
        have hl : lv_has ls 5 [(0, .ref h), (1, .int (nI nn)), (2, .int (nI (p0 + 1))), (3, .int r0), (4, .int c0)] := (lv_sub hl [1, 2, 0, 3, 4] rfl)
        exact S135 r0 c0 (p0 + 1) (zk_pre ks 8 L) H locs ls hP hD hS hl n2 (S255 r0 c0 (p0 + 1) (zk_pre ks 8 L) H locs ls hP hD hS hl n3 (S377 r0 c0 (p0 + 1) (zk_pre ks 8 L) H locs ls hP hD hS hl n4 (ih 1 r0 c0 (p0 + 1) (zk_pre ks 8 L) H locs ls hn hL' (by omega) hP hD hS hl)))
      · refine W.eq (g2 := F0 m 12 ls []) rfl ?_
        obtain ⟨hmo, n1, n2, n3, n4, hp, hk8, e1, e2, e3⟩ := zk_s2 hc
        subst e1; have e2 := e2.symm; have e3 := e3.symm; subst e2 e3
        refine S12 r0 c0 p0 L H locs ls hP hD hS hl hmo (S23 r0 c0 p0 L H locs ls hP hD hS hl n1 ?_)
        refine lv_iload_n hx hb dX3_fill_135 rfl (lv_at hl 3 rfl) ?_
        refine lv_iload_n hx hb dX3_fill_136 rfl (lv_at hl 1 rfl) ?_
        refine lv_iconst (v := 2) hx hb dX3_fill_137 (by decide) ?_
        refine lv_isub hx hb dX3_fill_138 ?_
        refine lv_icmp_ne (tgt := 255) hx hb dX3_fill_139 (by decide) (fun h_ => absurd n2.1 h_) (fun h_ => ?_)
        refine lv_iload hx hb dX3_fill_142 (lv_at hl 4 rfl) ?_
        refine lv_if_ne (tgt := 255) hx hb dX3_fill_144 (by decide) (fun h_ => absurd n2.2.1 h_) (fun h_ => ?_)
        refine lv_iload_n hx hb dX3_fill_147 rfl (lv_at hl 1 rfl) ?_
        refine lv_iconst (v := 4) hx hb dX3_fill_148 (by decide) ?_
        refine lv_irem hx hb dX3_fill_149 (by decide) ?_
        refine lv_if_eq (tgt := 255) hx hb dX3_fill_150 (by decide) (fun h_ => absurd h_ n2.2.2) (fun h_ => ?_)
        refine lv_aload_n hx hb dX3_fill_153 rfl (lv_at hl 0 rfl) ?_
        refine lv_iload_n hx hb dX3_fill_154 rfl (lv_at hl 2 rfl) ?_
        refine lv_iinc (v := nI (p0 + 1)) (lv' := [(2, .int (nI (p0 + 1))), (0, .ref h), (1, .int (nI nn)), (3, .int r0), (4, .int c0)]) hx hb dX3_fill_155 hl (k := 2) rfl (nI_1 p0) (by decide) rfl (fun ls hl => ?_)
        refine lv_bipush (v := 16) hx hb dX3_fill_158 (by decide) ?_
        refine zk_newI (N' := 16) CX hP hD hS (by decide) (by decide) (Nat.le_of_ble_eq_true rfl) (by show p0 + 1 ≤ 24; omega) (by show 16 * p0 + 16 ≤ 384; omega) dX3_fill_160 (fun qp H hP hD hS => ?_)
        have hP : va_P D zk_cl [(h, .inr (2, [.int (nI nn), .ref qa])), (qa, .inl (tI, (nn * nn), .inl (zk_T L))), (qp, .inl (tI, 16, .inl (fun _ => 0)))] H := hP
        have hD : va_D A [(h, .inr (2, [.int (nI nn), .ref qa])), (qa, .inl (tI, (nn * nn), .inl (zk_T L))), (qp, .inl (tI, 16, .inl (fun _ => 0)))] := hD
        refine W.widen (k := p0 + 1) (n := 16 * p0 + 16) (by omega) (by omega) ?_
        have hP : va_P D zk_cl [(h, .inr (2, [.int (nI nn), .ref qa])), (qa, .inl (tI, (nn * nn), .inl (zk_T L))), (qp, .inl (tI, 16, .inl (zk_pl [])))] H := hP
        have hD : va_D A [(h, .inr (2, [.int (nI nn), .ref qa])), (qa, .inl (tI, (nn * nn), .inl (zk_T L))), (qp, .inl (tI, 16, .inl (zk_pl [])))] := hD
        refine lv_dup hx hb dX3_fill_162 rfl ?_
        refine lv_iconst (v := 0) hx hb dX3_fill_163 (by decide) ?_
        refine lv_iload_n hx hb dX3_fill_164 rfl (lv_at hl 2 rfl) ?_
        refine lv_iconst (v := 3) hx hb dX3_fill_165 (by decide) ?_
        refine lv_isub hx hb dX3_fill_166 ?_
        refine va_iast hx hb hK hP hD hS 2 2 rfl rfl (pk_in 0 16 (by decide)) dX3_fill_167 (fun H locs hP hD hS => ?_)
        have hP : va_P D zk_cl [(h, .inr (2, [.int (nI nn), .ref qa])), (qa, .inl (tI, (nn * nn), .inl (zk_T L))), (qp, .inl (tI, 16, .inl (upd (zk_pl []) (0 : Int32).toNatClampNeg ((nI nn) - 3))))] H := hP
        have hD : va_D A [(h, .inr (2, [.int (nI nn), .ref qa])), (qa, .inl (tI, (nn * nn), .inl (zk_T L))), (qp, .inl (tI, 16, .inl (upd (zk_pl []) (0 : Int32).toNatClampNeg ((nI nn) - 3))))] := hD
        have ef_ : upd (zk_pl []) (0 : Int32).toNatClampNeg ((nI nn) - 3) = zk_pl [(nI nn) - 3] := zk_pl_push (l := []) rfl
        rw [ef_] at hP hD
        clear ef_
        refine lv_dup hx hb dX3_fill_168 rfl ?_
        refine lv_iconst (v := 1) hx hb dX3_fill_169 (by decide) ?_
        refine lv_iconst (v := 0) hx hb dX3_fill_170 (by decide) ?_
        refine va_iast hx hb hK hP hD hS 2 2 rfl rfl (pk_in 1 16 (by decide)) dX3_fill_171 (fun H locs hP hD hS => ?_)
        have hP : va_P D zk_cl [(h, .inr (2, [.int (nI nn), .ref qa])), (qa, .inl (tI, (nn * nn), .inl (zk_T L))), (qp, .inl (tI, 16, .inl (upd (zk_pl [(nI nn) - 3]) (1 : Int32).toNatClampNeg 0)))] H := hP
        have hD : va_D A [(h, .inr (2, [.int (nI nn), .ref qa])), (qa, .inl (tI, (nn * nn), .inl (zk_T L))), (qp, .inl (tI, 16, .inl (upd (zk_pl [(nI nn) - 3]) (1 : Int32).toNatClampNeg 0)))] := hD
        have ef_ : upd (zk_pl [(nI nn) - 3]) (1 : Int32).toNatClampNeg 0 = zk_pl [(nI nn) - 3, 0] := zk_pl_push (l := [(nI nn) - 3]) rfl
        rw [ef_] at hP hD
        clear ef_
        refine lv_dup hx hb dX3_fill_172 rfl ?_
        refine lv_iconst (v := 2) hx hb dX3_fill_173 (by decide) ?_
        refine lv_iload_n hx hb dX3_fill_174 rfl (lv_at hl 2 rfl) ?_
        refine lv_iconst (v := 2) hx hb dX3_fill_175 (by decide) ?_
        refine lv_isub hx hb dX3_fill_176 ?_
        refine va_iast hx hb hK hP hD hS 2 2 rfl rfl (pk_in 2 16 (by decide)) dX3_fill_177 (fun H locs hP hD hS => ?_)
        have hP : va_P D zk_cl [(h, .inr (2, [.int (nI nn), .ref qa])), (qa, .inl (tI, (nn * nn), .inl (zk_T L))), (qp, .inl (tI, 16, .inl (upd (zk_pl [(nI nn) - 3, 0]) (2 : Int32).toNatClampNeg ((nI nn) - 2))))] H := hP
        have hD : va_D A [(h, .inr (2, [.int (nI nn), .ref qa])), (qa, .inl (tI, (nn * nn), .inl (zk_T L))), (qp, .inl (tI, 16, .inl (upd (zk_pl [(nI nn) - 3, 0]) (2 : Int32).toNatClampNeg ((nI nn) - 2))))] := hD
        have ef_ : upd (zk_pl [(nI nn) - 3, 0]) (2 : Int32).toNatClampNeg ((nI nn) - 2) = zk_pl [(nI nn) - 3, 0, (nI nn) - 2] := zk_pl_push (l := [(nI nn) - 3, 0]) rfl
        rw [ef_] at hP hD
        clear ef_
        refine lv_dup hx hb dX3_fill_178 rfl ?_
        refine lv_iconst (v := 3) hx hb dX3_fill_179 (by decide) ?_
        refine lv_iconst (v := 0) hx hb dX3_fill_180 (by decide) ?_
        refine va_iast hx hb hK hP hD hS 2 2 rfl rfl (pk_in 3 16 (by decide)) dX3_fill_181 (fun H locs hP hD hS => ?_)
        have hP : va_P D zk_cl [(h, .inr (2, [.int (nI nn), .ref qa])), (qa, .inl (tI, (nn * nn), .inl (zk_T L))), (qp, .inl (tI, 16, .inl (upd (zk_pl [(nI nn) - 3, 0, (nI nn) - 2]) (3 : Int32).toNatClampNeg 0)))] H := hP
        have hD : va_D A [(h, .inr (2, [.int (nI nn), .ref qa])), (qa, .inl (tI, (nn * nn), .inl (zk_T L))), (qp, .inl (tI, 16, .inl (upd (zk_pl [(nI nn) - 3, 0, (nI nn) - 2]) (3 : Int32).toNatClampNeg 0)))] := hD
        have ef_ : upd (zk_pl [(nI nn) - 3, 0, (nI nn) - 2]) (3 : Int32).toNatClampNeg 0 = zk_pl [(nI nn) - 3, 0, (nI nn) - 2, 0] := zk_pl_push (l := [(nI nn) - 3, 0, (nI nn) - 2]) rfl
        rw [ef_] at hP hD
        clear ef_
        refine lv_dup hx hb dX3_fill_182 rfl ?_
        refine lv_iconst (v := 4) hx hb dX3_fill_183 (by decide) ?_
        refine lv_iload_n hx hb dX3_fill_184 rfl (lv_at hl 2 rfl) ?_
        refine lv_iconst (v := 1) hx hb dX3_fill_185 (by decide) ?_
        refine lv_isub hx hb dX3_fill_186 ?_
        refine va_iast hx hb hK hP hD hS 2 2 rfl rfl (pk_in 4 16 (by decide)) dX3_fill_187 (fun H locs hP hD hS => ?_)
        have hP : va_P D zk_cl [(h, .inr (2, [.int (nI nn), .ref qa])), (qa, .inl (tI, (nn * nn), .inl (zk_T L))), (qp, .inl (tI, 16, .inl (upd (zk_pl [(nI nn) - 3, 0, (nI nn) - 2, 0]) (4 : Int32).toNatClampNeg ((nI nn) - 1))))] H := hP
        have hD : va_D A [(h, .inr (2, [.int (nI nn), .ref qa])), (qa, .inl (tI, (nn * nn), .inl (zk_T L))), (qp, .inl (tI, 16, .inl (upd (zk_pl [(nI nn) - 3, 0, (nI nn) - 2, 0]) (4 : Int32).toNatClampNeg ((nI nn) - 1))))] := hD
        have ef_ : upd (zk_pl [(nI nn) - 3, 0, (nI nn) - 2, 0]) (4 : Int32).toNatClampNeg ((nI nn) - 1) = zk_pl [(nI nn) - 3, 0, (nI nn) - 2, 0, (nI nn) - 1] := zk_pl_push (l := [(nI nn) - 3, 0, (nI nn) - 2, 0]) rfl
        rw [ef_] at hP hD
        clear ef_
        refine lv_dup hx hb dX3_fill_188 rfl ?_
        refine lv_iconst (v := 5) hx hb dX3_fill_189 (by decide) ?_
        refine lv_iconst (v := 0) hx hb dX3_fill_190 (by decide) ?_
        refine va_iast hx hb hK hP hD hS 2 2 rfl rfl (pk_in 5 16 (by decide)) dX3_fill_191 (fun H locs hP hD hS => ?_)
        have hP : va_P D zk_cl [(h, .inr (2, [.int (nI nn), .ref qa])), (qa, .inl (tI, (nn * nn), .inl (zk_T L))), (qp, .inl (tI, 16, .inl (upd (zk_pl [(nI nn) - 3, 0, (nI nn) - 2, 0, (nI nn) - 1]) (5 : Int32).toNatClampNeg 0)))] H := hP
        have hD : va_D A [(h, .inr (2, [.int (nI nn), .ref qa])), (qa, .inl (tI, (nn * nn), .inl (zk_T L))), (qp, .inl (tI, 16, .inl (upd (zk_pl [(nI nn) - 3, 0, (nI nn) - 2, 0, (nI nn) - 1]) (5 : Int32).toNatClampNeg 0)))] := hD
        have ef_ : upd (zk_pl [(nI nn) - 3, 0, (nI nn) - 2, 0, (nI nn) - 1]) (5 : Int32).toNatClampNeg 0 = zk_pl [(nI nn) - 3, 0, (nI nn) - 2, 0, (nI nn) - 1, 0] := zk_pl_push (l := [(nI nn) - 3, 0, (nI nn) - 2, 0, (nI nn) - 1]) rfl
        rw [ef_] at hP hD
        clear ef_
        refine lv_dup hx hb dX3_fill_192 rfl ?_
        refine lv_bipush (v := 6) hx hb dX3_fill_193 (by decide) ?_
        refine lv_iconst (v := 0) hx hb dX3_fill_195 (by decide) ?_
        refine va_iast hx hb hK hP hD hS 2 2 rfl rfl (pk_in 6 16 (by decide)) dX3_fill_196 (fun H locs hP hD hS => ?_)
        have hP : va_P D zk_cl [(h, .inr (2, [.int (nI nn), .ref qa])), (qa, .inl (tI, (nn * nn), .inl (zk_T L))), (qp, .inl (tI, 16, .inl (upd (zk_pl [(nI nn) - 3, 0, (nI nn) - 2, 0, (nI nn) - 1, 0]) (6 : Int32).toNatClampNeg 0)))] H := hP
        have hD : va_D A [(h, .inr (2, [.int (nI nn), .ref qa])), (qa, .inl (tI, (nn * nn), .inl (zk_T L))), (qp, .inl (tI, 16, .inl (upd (zk_pl [(nI nn) - 3, 0, (nI nn) - 2, 0, (nI nn) - 1, 0]) (6 : Int32).toNatClampNeg 0)))] := hD
        have ef_ : upd (zk_pl [(nI nn) - 3, 0, (nI nn) - 2, 0, (nI nn) - 1, 0]) (6 : Int32).toNatClampNeg 0 = zk_pl [(nI nn) - 3, 0, (nI nn) - 2, 0, (nI nn) - 1, 0, 0] := zk_pl_push (l := [(nI nn) - 3, 0, (nI nn) - 2, 0, (nI nn) - 1, 0]) rfl
        rw [ef_] at hP hD
        clear ef_
        refine lv_dup hx hb dX3_fill_197 rfl ?_
        refine lv_bipush (v := 7) hx hb dX3_fill_198 (by decide) ?_
        refine lv_iload_n hx hb dX3_fill_200 rfl (lv_at hl 2 rfl) ?_
        refine lv_iconst (v := 4) hx hb dX3_fill_201 (by decide) ?_
        refine lv_isub hx hb dX3_fill_202 ?_
        refine va_iast hx hb hK hP hD hS 2 2 rfl rfl (pk_in 7 16 (by decide)) dX3_fill_203 (fun H locs hP hD hS => ?_)
        have hP : va_P D zk_cl [(h, .inr (2, [.int (nI nn), .ref qa])), (qa, .inl (tI, (nn * nn), .inl (zk_T L))), (qp, .inl (tI, 16, .inl (upd (zk_pl [(nI nn) - 3, 0, (nI nn) - 2, 0, (nI nn) - 1, 0, 0]) (7 : Int32).toNatClampNeg ((nI nn) - 4))))] H := hP
        have hD : va_D A [(h, .inr (2, [.int (nI nn), .ref qa])), (qa, .inl (tI, (nn * nn), .inl (zk_T L))), (qp, .inl (tI, 16, .inl (upd (zk_pl [(nI nn) - 3, 0, (nI nn) - 2, 0, (nI nn) - 1, 0, 0]) (7 : Int32).toNatClampNeg ((nI nn) - 4))))] := hD
        have ef_ : upd (zk_pl [(nI nn) - 3, 0, (nI nn) - 2, 0, (nI nn) - 1, 0, 0]) (7 : Int32).toNatClampNeg ((nI nn) - 4) = zk_pl [(nI nn) - 3, 0, (nI nn) - 2, 0, (nI nn) - 1, 0, 0, (nI nn) - 4] := zk_pl_push (l := [(nI nn) - 3, 0, (nI nn) - 2, 0, (nI nn) - 1, 0, 0]) rfl
        rw [ef_] at hP hD
        clear ef_
        refine lv_dup hx hb dX3_fill_204 rfl ?_
        refine lv_bipush (v := 8) hx hb dX3_fill_205 (by decide) ?_
        refine lv_iconst (v := 0) hx hb dX3_fill_207 (by decide) ?_
        refine va_iast hx hb hK hP hD hS 2 2 rfl rfl (pk_in 8 16 (by decide)) dX3_fill_208 (fun H locs hP hD hS => ?_)
        have hP : va_P D zk_cl [(h, .inr (2, [.int (nI nn), .ref qa])), (qa, .inl (tI, (nn * nn), .inl (zk_T L))), (qp, .inl (tI, 16, .inl (upd (zk_pl [(nI nn) - 3, 0, (nI nn) - 2, 0, (nI nn) - 1, 0, 0, (nI nn) - 4]) (8 : Int32).toNatClampNeg 0)))] H := hP
        have hD : va_D A [(h, .inr (2, [.int (nI nn), .ref qa])), (qa, .inl (tI, (nn * nn), .inl (zk_T L))), (qp, .inl (tI, 16, .inl (upd (zk_pl [(nI nn) - 3, 0, (nI nn) - 2, 0, (nI nn) - 1, 0, 0, (nI nn) - 4]) (8 : Int32).toNatClampNeg 0)))] := hD
        have ef_ : upd (zk_pl [(nI nn) - 3, 0, (nI nn) - 2, 0, (nI nn) - 1, 0, 0, (nI nn) - 4]) (8 : Int32).toNatClampNeg 0 = zk_pl [(nI nn) - 3, 0, (nI nn) - 2, 0, (nI nn) - 1, 0, 0, (nI nn) - 4, 0] := zk_pl_push (l := [(nI nn) - 3, 0, (nI nn) - 2, 0, (nI nn) - 1, 0, 0, (nI nn) - 4]) rfl
        rw [ef_] at hP hD
        clear ef_
        refine lv_dup hx hb dX3_fill_209 rfl ?_
        refine lv_bipush (v := 9) hx hb dX3_fill_210 (by decide) ?_
        refine lv_iload_n hx hb dX3_fill_212 rfl (lv_at hl 2 rfl) ?_
        refine lv_iconst (v := 3) hx hb dX3_fill_213 (by decide) ?_
        refine lv_isub hx hb dX3_fill_214 ?_
        refine va_iast hx hb hK hP hD hS 2 2 rfl rfl (pk_in 9 16 (by decide)) dX3_fill_215 (fun H locs hP hD hS => ?_)
        have hP : va_P D zk_cl [(h, .inr (2, [.int (nI nn), .ref qa])), (qa, .inl (tI, (nn * nn), .inl (zk_T L))), (qp, .inl (tI, 16, .inl (upd (zk_pl [(nI nn) - 3, 0, (nI nn) - 2, 0, (nI nn) - 1, 0, 0, (nI nn) - 4, 0]) (9 : Int32).toNatClampNeg ((nI nn) - 3))))] H := hP
        have hD : va_D A [(h, .inr (2, [.int (nI nn), .ref qa])), (qa, .inl (tI, (nn * nn), .inl (zk_T L))), (qp, .inl (tI, 16, .inl (upd (zk_pl [(nI nn) - 3, 0, (nI nn) - 2, 0, (nI nn) - 1, 0, 0, (nI nn) - 4, 0]) (9 : Int32).toNatClampNeg ((nI nn) - 3))))] := hD
        have ef_ : upd (zk_pl [(nI nn) - 3, 0, (nI nn) - 2, 0, (nI nn) - 1, 0, 0, (nI nn) - 4, 0]) (9 : Int32).toNatClampNeg ((nI nn) - 3) = zk_pl [(nI nn) - 3, 0, (nI nn) - 2, 0, (nI nn) - 1, 0, 0, (nI nn) - 4, 0, (nI nn) - 3] := zk_pl_push (l := [(nI nn) - 3, 0, (nI nn) - 2, 0, (nI nn) - 1, 0, 0, (nI nn) - 4, 0]) rfl
        rw [ef_] at hP hD
        clear ef_
        refine lv_dup hx hb dX3_fill_216 rfl ?_
        refine lv_bipush (v := 10) hx hb dX3_fill_217 (by decide) ?_
        refine lv_iconst (v := 0) hx hb dX3_fill_219 (by decide) ?_
        refine va_iast hx hb hK hP hD hS 2 2 rfl rfl (pk_in 10 16 (by decide)) dX3_fill_220 (fun H locs hP hD hS => ?_)
        have hP : va_P D zk_cl [(h, .inr (2, [.int (nI nn), .ref qa])), (qa, .inl (tI, (nn * nn), .inl (zk_T L))), (qp, .inl (tI, 16, .inl (upd (zk_pl [(nI nn) - 3, 0, (nI nn) - 2, 0, (nI nn) - 1, 0, 0, (nI nn) - 4, 0, (nI nn) - 3]) (10 : Int32).toNatClampNeg 0)))] H := hP
        have hD : va_D A [(h, .inr (2, [.int (nI nn), .ref qa])), (qa, .inl (tI, (nn * nn), .inl (zk_T L))), (qp, .inl (tI, 16, .inl (upd (zk_pl [(nI nn) - 3, 0, (nI nn) - 2, 0, (nI nn) - 1, 0, 0, (nI nn) - 4, 0, (nI nn) - 3]) (10 : Int32).toNatClampNeg 0)))] := hD
        have ef_ : upd (zk_pl [(nI nn) - 3, 0, (nI nn) - 2, 0, (nI nn) - 1, 0, 0, (nI nn) - 4, 0, (nI nn) - 3]) (10 : Int32).toNatClampNeg 0 = zk_pl [(nI nn) - 3, 0, (nI nn) - 2, 0, (nI nn) - 1, 0, 0, (nI nn) - 4, 0, (nI nn) - 3, 0] := zk_pl_push (l := [(nI nn) - 3, 0, (nI nn) - 2, 0, (nI nn) - 1, 0, 0, (nI nn) - 4, 0, (nI nn) - 3]) rfl
        rw [ef_] at hP hD
        clear ef_
        refine lv_dup hx hb dX3_fill_221 rfl ?_
        refine lv_bipush (v := 11) hx hb dX3_fill_222 (by decide) ?_
        refine lv_iload_n hx hb dX3_fill_224 rfl (lv_at hl 2 rfl) ?_
        refine lv_iconst (v := 2) hx hb dX3_fill_225 (by decide) ?_
        refine lv_isub hx hb dX3_fill_226 ?_
        refine va_iast hx hb hK hP hD hS 2 2 rfl rfl (pk_in 11 16 (by decide)) dX3_fill_227 (fun H locs hP hD hS => ?_)
        have hP : va_P D zk_cl [(h, .inr (2, [.int (nI nn), .ref qa])), (qa, .inl (tI, (nn * nn), .inl (zk_T L))), (qp, .inl (tI, 16, .inl (upd (zk_pl [(nI nn) - 3, 0, (nI nn) - 2, 0, (nI nn) - 1, 0, 0, (nI nn) - 4, 0, (nI nn) - 3, 0]) (11 : Int32).toNatClampNeg ((nI nn) - 2))))] H := hP
        have hD : va_D A [(h, .inr (2, [.int (nI nn), .ref qa])), (qa, .inl (tI, (nn * nn), .inl (zk_T L))), (qp, .inl (tI, 16, .inl (upd (zk_pl [(nI nn) - 3, 0, (nI nn) - 2, 0, (nI nn) - 1, 0, 0, (nI nn) - 4, 0, (nI nn) - 3, 0]) (11 : Int32).toNatClampNeg ((nI nn) - 2))))] := hD
        have ef_ : upd (zk_pl [(nI nn) - 3, 0, (nI nn) - 2, 0, (nI nn) - 1, 0, 0, (nI nn) - 4, 0, (nI nn) - 3, 0]) (11 : Int32).toNatClampNeg ((nI nn) - 2) = zk_pl [(nI nn) - 3, 0, (nI nn) - 2, 0, (nI nn) - 1, 0, 0, (nI nn) - 4, 0, (nI nn) - 3, 0, (nI nn) - 2] := zk_pl_push (l := [(nI nn) - 3, 0, (nI nn) - 2, 0, (nI nn) - 1, 0, 0, (nI nn) - 4, 0, (nI nn) - 3, 0]) rfl
        rw [ef_] at hP hD
        clear ef_
        refine lv_dup hx hb dX3_fill_228 rfl ?_
        refine lv_bipush (v := 12) hx hb dX3_fill_229 (by decide) ?_
        refine lv_iconst (v := 0) hx hb dX3_fill_231 (by decide) ?_
        refine va_iast hx hb hK hP hD hS 2 2 rfl rfl (pk_in 12 16 (by decide)) dX3_fill_232 (fun H locs hP hD hS => ?_)
        have hP : va_P D zk_cl [(h, .inr (2, [.int (nI nn), .ref qa])), (qa, .inl (tI, (nn * nn), .inl (zk_T L))), (qp, .inl (tI, 16, .inl (upd (zk_pl [(nI nn) - 3, 0, (nI nn) - 2, 0, (nI nn) - 1, 0, 0, (nI nn) - 4, 0, (nI nn) - 3, 0, (nI nn) - 2]) (12 : Int32).toNatClampNeg 0)))] H := hP
        have hD : va_D A [(h, .inr (2, [.int (nI nn), .ref qa])), (qa, .inl (tI, (nn * nn), .inl (zk_T L))), (qp, .inl (tI, 16, .inl (upd (zk_pl [(nI nn) - 3, 0, (nI nn) - 2, 0, (nI nn) - 1, 0, 0, (nI nn) - 4, 0, (nI nn) - 3, 0, (nI nn) - 2]) (12 : Int32).toNatClampNeg 0)))] := hD
        have ef_ : upd (zk_pl [(nI nn) - 3, 0, (nI nn) - 2, 0, (nI nn) - 1, 0, 0, (nI nn) - 4, 0, (nI nn) - 3, 0, (nI nn) - 2]) (12 : Int32).toNatClampNeg 0 = zk_pl [(nI nn) - 3, 0, (nI nn) - 2, 0, (nI nn) - 1, 0, 0, (nI nn) - 4, 0, (nI nn) - 3, 0, (nI nn) - 2, 0] := zk_pl_push (l := [(nI nn) - 3, 0, (nI nn) - 2, 0, (nI nn) - 1, 0, 0, (nI nn) - 4, 0, (nI nn) - 3, 0, (nI nn) - 2]) rfl
        rw [ef_] at hP hD
        clear ef_
        refine lv_dup hx hb dX3_fill_233 rfl ?_
        refine lv_bipush (v := 13) hx hb dX3_fill_234 (by decide) ?_
        refine lv_iload_n hx hb dX3_fill_236 rfl (lv_at hl 2 rfl) ?_
        refine lv_iconst (v := 1) hx hb dX3_fill_237 (by decide) ?_
        refine lv_isub hx hb dX3_fill_238 ?_
        refine va_iast hx hb hK hP hD hS 2 2 rfl rfl (pk_in 13 16 (by decide)) dX3_fill_239 (fun H locs hP hD hS => ?_)
        have hP : va_P D zk_cl [(h, .inr (2, [.int (nI nn), .ref qa])), (qa, .inl (tI, (nn * nn), .inl (zk_T L))), (qp, .inl (tI, 16, .inl (upd (zk_pl [(nI nn) - 3, 0, (nI nn) - 2, 0, (nI nn) - 1, 0, 0, (nI nn) - 4, 0, (nI nn) - 3, 0, (nI nn) - 2, 0]) (13 : Int32).toNatClampNeg ((nI nn) - 1))))] H := hP
        have hD : va_D A [(h, .inr (2, [.int (nI nn), .ref qa])), (qa, .inl (tI, (nn * nn), .inl (zk_T L))), (qp, .inl (tI, 16, .inl (upd (zk_pl [(nI nn) - 3, 0, (nI nn) - 2, 0, (nI nn) - 1, 0, 0, (nI nn) - 4, 0, (nI nn) - 3, 0, (nI nn) - 2, 0]) (13 : Int32).toNatClampNeg ((nI nn) - 1))))] := hD
        have ef_ : upd (zk_pl [(nI nn) - 3, 0, (nI nn) - 2, 0, (nI nn) - 1, 0, 0, (nI nn) - 4, 0, (nI nn) - 3, 0, (nI nn) - 2, 0]) (13 : Int32).toNatClampNeg ((nI nn) - 1) = zk_pl [(nI nn) - 3, 0, (nI nn) - 2, 0, (nI nn) - 1, 0, 0, (nI nn) - 4, 0, (nI nn) - 3, 0, (nI nn) - 2, 0, (nI nn) - 1] := zk_pl_push (l := [(nI nn) - 3, 0, (nI nn) - 2, 0, (nI nn) - 1, 0, 0, (nI nn) - 4, 0, (nI nn) - 3, 0, (nI nn) - 2, 0]) rfl
        rw [ef_] at hP hD
        clear ef_
        refine lv_dup hx hb dX3_fill_240 rfl ?_
        refine lv_bipush (v := 14) hx hb dX3_fill_241 (by decide) ?_
        refine lv_iconst (v := 1) hx hb dX3_fill_243 (by decide) ?_
        refine va_iast hx hb hK hP hD hS 2 2 rfl rfl (pk_in 14 16 (by decide)) dX3_fill_244 (fun H locs hP hD hS => ?_)
        have hP : va_P D zk_cl [(h, .inr (2, [.int (nI nn), .ref qa])), (qa, .inl (tI, (nn * nn), .inl (zk_T L))), (qp, .inl (tI, 16, .inl (upd (zk_pl [(nI nn) - 3, 0, (nI nn) - 2, 0, (nI nn) - 1, 0, 0, (nI nn) - 4, 0, (nI nn) - 3, 0, (nI nn) - 2, 0, (nI nn) - 1]) (14 : Int32).toNatClampNeg 1)))] H := hP
        have hD : va_D A [(h, .inr (2, [.int (nI nn), .ref qa])), (qa, .inl (tI, (nn * nn), .inl (zk_T L))), (qp, .inl (tI, 16, .inl (upd (zk_pl [(nI nn) - 3, 0, (nI nn) - 2, 0, (nI nn) - 1, 0, 0, (nI nn) - 4, 0, (nI nn) - 3, 0, (nI nn) - 2, 0, (nI nn) - 1]) (14 : Int32).toNatClampNeg 1)))] := hD
        have ef_ : upd (zk_pl [(nI nn) - 3, 0, (nI nn) - 2, 0, (nI nn) - 1, 0, 0, (nI nn) - 4, 0, (nI nn) - 3, 0, (nI nn) - 2, 0, (nI nn) - 1]) (14 : Int32).toNatClampNeg 1 = zk_pl [(nI nn) - 3, 0, (nI nn) - 2, 0, (nI nn) - 1, 0, 0, (nI nn) - 4, 0, (nI nn) - 3, 0, (nI nn) - 2, 0, (nI nn) - 1, 1] := zk_pl_push (l := [(nI nn) - 3, 0, (nI nn) - 2, 0, (nI nn) - 1, 0, 0, (nI nn) - 4, 0, (nI nn) - 3, 0, (nI nn) - 2, 0, (nI nn) - 1]) rfl
        rw [ef_] at hP hD
        clear ef_
        refine lv_dup hx hb dX3_fill_245 rfl ?_
        refine lv_bipush (v := 15) hx hb dX3_fill_246 (by decide) ?_
        refine lv_iload_n hx hb dX3_fill_248 rfl (lv_at hl 2 rfl) ?_
        refine lv_iconst (v := 1) hx hb dX3_fill_249 (by decide) ?_
        refine lv_isub hx hb dX3_fill_250 ?_
        refine va_iast hx hb hK hP hD hS 2 2 rfl rfl (pk_in 15 16 (by decide)) dX3_fill_251 (fun H locs hP hD hS => ?_)
        have hP : va_P D zk_cl [(h, .inr (2, [.int (nI nn), .ref qa])), (qa, .inl (tI, (nn * nn), .inl (zk_T L))), (qp, .inl (tI, 16, .inl (upd (zk_pl [(nI nn) - 3, 0, (nI nn) - 2, 0, (nI nn) - 1, 0, 0, (nI nn) - 4, 0, (nI nn) - 3, 0, (nI nn) - 2, 0, (nI nn) - 1, 1]) (15 : Int32).toNatClampNeg ((nI nn) - 1))))] H := hP
        have hD : va_D A [(h, .inr (2, [.int (nI nn), .ref qa])), (qa, .inl (tI, (nn * nn), .inl (zk_T L))), (qp, .inl (tI, 16, .inl (upd (zk_pl [(nI nn) - 3, 0, (nI nn) - 2, 0, (nI nn) - 1, 0, 0, (nI nn) - 4, 0, (nI nn) - 3, 0, (nI nn) - 2, 0, (nI nn) - 1, 1]) (15 : Int32).toNatClampNeg ((nI nn) - 1))))] := hD
        have ef_ : upd (zk_pl [(nI nn) - 3, 0, (nI nn) - 2, 0, (nI nn) - 1, 0, 0, (nI nn) - 4, 0, (nI nn) - 3, 0, (nI nn) - 2, 0, (nI nn) - 1, 1]) (15 : Int32).toNatClampNeg ((nI nn) - 1) = zk_pl [(nI nn) - 3, 0, (nI nn) - 2, 0, (nI nn) - 1, 0, 0, (nI nn) - 4, 0, (nI nn) - 3, 0, (nI nn) - 2, 0, (nI nn) - 1, 1, (nI nn) - 1] := zk_pl_push (l := [(nI nn) - 3, 0, (nI nn) - 2, 0, (nI nn) - 1, 0, 0, (nI nn) - 4, 0, (nI nn) - 3, 0, (nI nn) - 2, 0, (nI nn) - 1, 1]) rfl
        rw [ef_] at hP hD
        clear ef_
        refine zk_Vv CX hP hD hS ([]) [0, 1, 2] [] (metX3_word l D tB tC tI _ h qa qp (nI nn) (nn * nn) L ks p0 (nI p0) (zk_pl [(nI nn) - 3, 0, (nI nn) - 2, 0, (nI nn) - 1, 0, 0, (nI nn) - 4, 0, (nI nn) - 3, 0, (nI nn) - 2, 0, (nI nn) - 1, 1, (nI nn) - 1]) (zk_8 (hk8 0 (by omega)) (hk8 1 (by omega)) (hk8 2 (by omega)) (hk8 3 (by omega)) (hk8 4 (by omega)) (hk8 5 (by omega)) (hk8 6 (by omega)) (hk8 7 (by omega))) hN rfl hL (by omega)) (lw_V q237 q238 q239 q15 q240) 2 2 0 rfl rfl rfl (by decide +kernel) rfl hl.1 rfl (Nat.le_of_ble_eq_true rfl) dX3_fill_252 ⟨Nat.le_of_ble_eq_true rfl, Nat.le_of_ble_eq_true rfl⟩ ⟨by show p0 + 1 + 0 ≤ 24; omega, by show 16 * p0 + 16 + 0 ≤ 384; omega⟩ rfl rfl rfl rfl (by decide) (fun _ H locs hw hP hD hS => ?_)
        have hP : va_P D zk_cl [(h, .inr (2, [.int (nI nn), .ref qa])), (qa, .inl (tI, (nn * nn), .inl (zk_T (zk_pre ks 8 L)))), (qp, .inl (tI, 16, .inl (zk_pl [(nI nn) - 3, 0, (nI nn) - 2, 0, (nI nn) - 1, 0, 0, (nI nn) - 4, 0, (nI nn) - 3, 0, (nI nn) - 2, 0, (nI nn) - 1, 1, (nI nn) - 1])))] H := hP
        have hD : va_D A [(h, .inr (2, [.int (nI nn), .ref qa])), (qa, .inl (tI, (nn * nn), .inl (zk_T (zk_pre ks 8 L)))), (qp, .inl (tI, 16, .inl (zk_pl [(nI nn) - 3, 0, (nI nn) - 2, 0, (nI nn) - 1, 0, 0, (nI nn) - 4, 0, (nI nn) - 3, 0, (nI nn) - 2, 0, (nI nn) - 1, 1, (nI nn) - 1])))] := hD
        have hP := hP.sub (ws' := [(h, .inr (2, [.int (nI nn), .ref qa])), (qa, .inl (tI, (nn * nn), .inl (zk_T (zk_pre ks 8 L))))]) [0, 1] rfl
        have hD := hD.sub (ws' := [(h, .inr (2, [.int (nI nn), .ref qa])), (qa, .inl (tI, (nn * nn), .inl (zk_T (zk_pre ks 8 L))))]) [0, 1] (by decide) rfl
        refine W.widen (k := (p0 + 1)) (n := (16 * (p0 + 1))) (by omega) (by omega) ?_
        have hl : lv_has ls 5 [(0, .ref h), (1, .int (nI nn)), (2, .int (nI (p0 + 1))), (3, .int r0), (4, .int c0)] := (lv_sub hl [1, 2, 0, 3, 4] rfl)
        exact S255 r0 c0 (p0 + 1) (zk_pre ks 8 L) H locs ls hP hD hS hl n3 (S377 r0 c0 (p0 + 1) (zk_pre ks 8 L) H locs ls hP hD hS hl n4 (ih 1 r0 c0 (p0 + 1) (zk_pre ks 8 L) H locs ls hn hL' (by omega) hP hD hS hl))
      · refine W.eq (g2 := F0 m 501 ls []) rfl ?_
        obtain ⟨hc, hnx⟩ := zk_s3 hc
        have hno : ¬ (0 ≤ r0 ∧ r0 < nI nn ∧ 0 ≤ c0 ∧ c0 < nI nn ∧ zk_T L (nI nn * r0 + c0).toNatClampNeg < 0) := by
          rintro ⟨a1, a2, a3, a4, a5⟩
          rcases hc with q | q | ⟨hi, hj⟩
          · exact q a2
          · exact absurd q (Int32.not_lt.mpr a3)
          · rw [Int32.mul_comm, hi.2.2.2.2.1, nI_clamp (zk_N31 hN hi.2.2.2.2.2)] at a5
            exact absurd hj ((zk_T_neg (by omega)).mp a5)
        refine lv_aload_n hx hb dX3_fill_501 rfl (lv_at hl 0 rfl) ?_
        refine lv_iload_n hx hb dX3_fill_502 rfl (lv_at hl 3 rfl) ?_
        refine lv_iload hx hb dX3_fill_503 (lv_at hl 4 rfl) ?_
        refine zk_Vi CX hP hD hS ([]) [0, 1] [] (metX3_isFree l D tB tC tI _ h qa nn r0 c0 (zk_T L) h14) (lw_V q245 q246 q247 q15 q248) 2 2 0 rfl rfl rfl (by decide +kernel) rfl hl.1 rfl (Nat.le_of_ble_eq_true rfl) dX3_fill_505 ⟨Nat.le_of_ble_eq_true rfl, Nat.le_of_ble_eq_true rfl⟩ ⟨by show p0 + 0 ≤ 24; omega, by show 16 * p0 + 0 ≤ 384; omega⟩ rfl rfl rfl rfl (by decide) (fun r_1 _ H locs hw hP hD hS => ?_)
        have hP : va_P D zk_cl [(h, .inr (2, [.int (nI nn), .ref qa])), (qa, .inl (tI, (nn * nn), .inl (zk_T L)))] H := hP
        have hD : va_D A [(h, .inr (2, [.int (nI nn), .ref qa])), (qa, .inl (tI, (nn * nn), .inl (zk_T L)))] := hD
        refine lv_if_eq (tgt := 522) hx hb dX3_fill_508 (by decide) (fun h_ => ?_) (fun h_ => absurd (by rw [hw, if_neg hno]) h_)
        refine TU r0 c0 p0 L H locs ls hP hD hS hl (fun hq ls1 hl1 => ?_) (fun hq ls1 hl1 => ?_)
        · rcases hnx with ⟨-, e1, e2, e3⟩ | ⟨q, -⟩
          · subst e1 e2 e3
            exact ih 1 _ _ p0 L H locs ls1 hn hL' (by omega) hP hD hS hl1
          · exact absurd hq q
        · rcases hnx with ⟨q, -⟩ | ⟨-, e1, e2, e3⟩
          · exact absurd q hq
          · subst e1 e2 e3
            exact ih 2 _ _ p0 L H locs ls1 hn hL' (by omega) hP hD hS hl1
      · refine W.eq (g2 := F0 m 501 ls []) rfl ?_
        obtain ⟨hi, hj, hp, hk8, hnx⟩ := zk_s4 hc
        have hyes : 0 ≤ r0 ∧ r0 < nI nn ∧ 0 ≤ c0 ∧ c0 < nI nn ∧ zk_T L (nI nn * r0 + c0).toNatClampNeg < 0 := by
          refine ⟨hi.1, hi.2.1, hi.2.2.1, hi.2.2.2.1, ?_⟩
          rw [Int32.mul_comm, hi.2.2.2.2.1, nI_clamp (zk_N31 hN hi.2.2.2.2.2)]
          exact (zk_T_neg (by omega)).mpr hj
        refine lv_aload_n hx hb dX3_fill_501 rfl (lv_at hl 0 rfl) ?_
        refine lv_iload_n hx hb dX3_fill_502 rfl (lv_at hl 3 rfl) ?_
        refine lv_iload hx hb dX3_fill_503 (lv_at hl 4 rfl) ?_
        refine zk_Vi CX hP hD hS ([]) [0, 1] [] (metX3_isFree l D tB tC tI _ h qa nn r0 c0 (zk_T L) h14) (lw_V q245 q246 q247 q15 q248) 2 2 0 rfl rfl rfl (by decide +kernel) rfl hl.1 rfl (Nat.le_of_ble_eq_true rfl) dX3_fill_505 ⟨Nat.le_of_ble_eq_true rfl, Nat.le_of_ble_eq_true rfl⟩ ⟨by show p0 + 0 ≤ 24; omega, by show 16 * p0 + 0 ≤ 384; omega⟩ rfl rfl rfl rfl (by decide) (fun r_1 _ H locs hw hP hD hS => ?_)
        have hP : va_P D zk_cl [(h, .inr (2, [.int (nI nn), .ref qa])), (qa, .inl (tI, (nn * nn), .inl (zk_T L)))] H := hP
        have hD : va_D A [(h, .inr (2, [.int (nI nn), .ref qa])), (qa, .inl (tI, (nn * nn), .inl (zk_T L)))] := hD
        refine lv_if_eq (tgt := 522) hx hb dX3_fill_508 (by decide) (fun h_ => absurd h_ (by rw [hw, if_pos hyes]; decide)) (fun h_ => ?_)
        refine lv_aload_n hx hb dX3_fill_511 rfl (lv_at hl 0 rfl) ?_
        refine lv_iload_n hx hb dX3_fill_512 rfl (lv_at hl 3 rfl) ?_
        refine lv_iload hx hb dX3_fill_513 (lv_at hl 4 rfl) ?_
        refine lv_iload_n hx hb dX3_fill_515 rfl (lv_at hl 2 rfl) ?_
        refine lv_iinc (v := nI (p0 + 1)) (lv' := [(2, .int (nI (p0 + 1))), (0, .ref h), (1, .int (nI nn)), (3, .int r0), (4, .int c0)]) hx hb dX3_fill_516 hl (k := 2) rfl (nI_1 p0) (by decide) rfl (fun ls hl => ?_)
        refine zk_Vv CX hP hD hS ([]) [0, 1] [] (metX3_shape l D tB tC tI _ h qa (nI nn) (nn * nn) L ks p0 r0 c0 (nI p0) hk8 hN rfl hL (by omega)) (lw_V q249 q250 q251 q15 q252) 3 2 0 rfl rfl rfl (by decide +kernel) rfl hl.1 rfl (Nat.le_of_ble_eq_true rfl) dX3_fill_519 ⟨Nat.le_of_ble_eq_true rfl, Nat.le_of_ble_eq_true rfl⟩ ⟨by show p0 + 0 + 1 ≤ 24; omega, by show 16 * p0 + 0 + 16 ≤ 384; omega⟩ rfl rfl rfl rfl (by decide) (fun _ H locs hw hP hD hS => ?_)
        have hP : va_P D zk_cl [(h, .inr (2, [.int (nI nn), .ref qa])), (qa, .inl (tI, (nn * nn), .inl (zk_T (zk_pre ks 8 L))))] H := hP
        have hD : va_D A [(h, .inr (2, [.int (nI nn), .ref qa])), (qa, .inl (tI, (nn * nn), .inl (zk_T (zk_pre ks 8 L))))] := hD
        refine W.widen (k := (p0 + 1)) (n := (16 * (p0 + 1))) (by omega) (by omega) ?_
        have hl : lv_has ls 5 [(0, .ref h), (1, .int (nI nn)), (2, .int (nI (p0 + 1))), (3, .int r0), (4, .int c0)] := (lv_sub hl [1, 2, 0, 3, 4] rfl)
        refine TU r0 c0 (p0 + 1) (zk_pre ks 8 L) H locs ls hP hD hS hl (fun hq ls1 hl1 => ?_) (fun hq ls1 hl1 => ?_)
        · rcases hnx with ⟨-, e1, e2, e3⟩ | ⟨q, -⟩
          · subst e1 e2 e3
            exact ih 1 _ _ (p0 + 1) (zk_pre ks 8 L) H locs ls1 hn hL' (by omega) hP hD hS hl1
          · exact absurd hq q
        · rcases hnx with ⟨q, -⟩ | ⟨-, e1, e2, e3⟩
          · exact absurd q hq
          · subst e1 e2 e3
            exact ih 2 _ _ (p0 + 1) (zk_pre ks 8 L) H locs ls1 hn hL' (by omega) hP hD hS hl1
      · refine W.eq (g2 := F0 m 544 ls []) rfl ?_
        obtain ⟨hc, hnx⟩ := zk_s5 hc
        have hno : ¬ (0 ≤ r0 ∧ r0 < nI nn ∧ 0 ≤ c0 ∧ c0 < nI nn ∧ zk_T L (nI nn * r0 + c0).toNatClampNeg < 0) := by
          rintro ⟨a1, a2, a3, a4, a5⟩
          rcases hc with q | q | ⟨hi, hj⟩
          · exact absurd q (Int32.not_lt.mpr a1)
          · exact q a4
          · rw [Int32.mul_comm, hi.2.2.2.2.1, nI_clamp (zk_N31 hN hi.2.2.2.2.2)] at a5
            exact absurd hj ((zk_T_neg (by omega)).mp a5)
        refine lv_aload_n hx hb dX3_fill_544 rfl (lv_at hl 0 rfl) ?_
        refine lv_iload_n hx hb dX3_fill_545 rfl (lv_at hl 3 rfl) ?_
        refine lv_iload hx hb dX3_fill_546 (lv_at hl 4 rfl) ?_
        refine zk_Vi CX hP hD hS ([]) [0, 1] [] (metX3_isFree l D tB tC tI _ h qa nn r0 c0 (zk_T L) h14) (lw_V q245 q246 q247 q15 q248) 2 2 0 rfl rfl rfl (by decide +kernel) rfl hl.1 rfl (Nat.le_of_ble_eq_true rfl) dX3_fill_548 ⟨Nat.le_of_ble_eq_true rfl, Nat.le_of_ble_eq_true rfl⟩ ⟨by show p0 + 0 ≤ 24; omega, by show 16 * p0 + 0 ≤ 384; omega⟩ rfl rfl rfl rfl (by decide) (fun r_1 _ H locs hw hP hD hS => ?_)
        have hP : va_P D zk_cl [(h, .inr (2, [.int (nI nn), .ref qa])), (qa, .inl (tI, (nn * nn), .inl (zk_T L)))] H := hP
        have hD : va_D A [(h, .inr (2, [.int (nI nn), .ref qa])), (qa, .inl (tI, (nn * nn), .inl (zk_T L)))] := hD
        refine lv_if_eq (tgt := 565) hx hb dX3_fill_551 (by decide) (fun h_ => ?_) (fun h_ => absurd (by rw [hw, if_neg hno]) h_)
        refine TD r0 c0 p0 L H locs ls hP hD hS hl (fun hq ls1 hl1 => ?_) (fun hq ls1 hl1 => ?_)
        · rcases hnx with ⟨-, e1, e2, e3⟩ | ⟨q, -⟩
          · subst e1 e2 e3
            exact ih 2 _ _ p0 L H locs ls1 hn hL' (by omega) hP hD hS hl1
          · exact absurd hq q
        · rcases hnx with ⟨q, -⟩ | ⟨-, e2, e3, e4⟩
          · exact absurd q hq
          · subst e2 e3
            rcases e4 with ⟨-, e1⟩ | ⟨-, e1⟩
            · subst e1
              exact ih 0 _ _ p0 L H locs ls1 hn hL' (by omega) hP hD hS hl1
            · subst e1
              exact ih 3 _ _ p0 L H locs ls1 hn hL' (by omega) hP hD hS hl1
      · refine W.eq (g2 := F0 m 544 ls []) rfl ?_
        obtain ⟨hi, hj, hp, hk8, hnx⟩ := zk_s6 hc
        have hyes : 0 ≤ r0 ∧ r0 < nI nn ∧ 0 ≤ c0 ∧ c0 < nI nn ∧ zk_T L (nI nn * r0 + c0).toNatClampNeg < 0 := by
          refine ⟨hi.1, hi.2.1, hi.2.2.1, hi.2.2.2.1, ?_⟩
          rw [Int32.mul_comm, hi.2.2.2.2.1, nI_clamp (zk_N31 hN hi.2.2.2.2.2)]
          exact (zk_T_neg (by omega)).mpr hj
        refine lv_aload_n hx hb dX3_fill_544 rfl (lv_at hl 0 rfl) ?_
        refine lv_iload_n hx hb dX3_fill_545 rfl (lv_at hl 3 rfl) ?_
        refine lv_iload hx hb dX3_fill_546 (lv_at hl 4 rfl) ?_
        refine zk_Vi CX hP hD hS ([]) [0, 1] [] (metX3_isFree l D tB tC tI _ h qa nn r0 c0 (zk_T L) h14) (lw_V q245 q246 q247 q15 q248) 2 2 0 rfl rfl rfl (by decide +kernel) rfl hl.1 rfl (Nat.le_of_ble_eq_true rfl) dX3_fill_548 ⟨Nat.le_of_ble_eq_true rfl, Nat.le_of_ble_eq_true rfl⟩ ⟨by show p0 + 0 ≤ 24; omega, by show 16 * p0 + 0 ≤ 384; omega⟩ rfl rfl rfl rfl (by decide) (fun r_1 _ H locs hw hP hD hS => ?_)
        have hP : va_P D zk_cl [(h, .inr (2, [.int (nI nn), .ref qa])), (qa, .inl (tI, (nn * nn), .inl (zk_T L)))] H := hP
        have hD : va_D A [(h, .inr (2, [.int (nI nn), .ref qa])), (qa, .inl (tI, (nn * nn), .inl (zk_T L)))] := hD
        refine lv_if_eq (tgt := 565) hx hb dX3_fill_551 (by decide) (fun h_ => absurd h_ (by rw [hw, if_pos hyes]; decide)) (fun h_ => ?_)
        refine lv_aload_n hx hb dX3_fill_554 rfl (lv_at hl 0 rfl) ?_
        refine lv_iload_n hx hb dX3_fill_555 rfl (lv_at hl 3 rfl) ?_
        refine lv_iload hx hb dX3_fill_556 (lv_at hl 4 rfl) ?_
        refine lv_iload_n hx hb dX3_fill_558 rfl (lv_at hl 2 rfl) ?_
        refine lv_iinc (v := nI (p0 + 1)) (lv' := [(2, .int (nI (p0 + 1))), (0, .ref h), (1, .int (nI nn)), (3, .int r0), (4, .int c0)]) hx hb dX3_fill_559 hl (k := 2) rfl (nI_1 p0) (by decide) rfl (fun ls hl => ?_)
        refine zk_Vv CX hP hD hS ([]) [0, 1] [] (metX3_shape l D tB tC tI _ h qa (nI nn) (nn * nn) L ks p0 r0 c0 (nI p0) hk8 hN rfl hL (by omega)) (lw_V q249 q250 q251 q15 q252) 3 2 0 rfl rfl rfl (by decide +kernel) rfl hl.1 rfl (Nat.le_of_ble_eq_true rfl) dX3_fill_562 ⟨Nat.le_of_ble_eq_true rfl, Nat.le_of_ble_eq_true rfl⟩ ⟨by show p0 + 0 + 1 ≤ 24; omega, by show 16 * p0 + 0 + 16 ≤ 384; omega⟩ rfl rfl rfl rfl (by decide) (fun _ H locs hw hP hD hS => ?_)
        have hP : va_P D zk_cl [(h, .inr (2, [.int (nI nn), .ref qa])), (qa, .inl (tI, (nn * nn), .inl (zk_T (zk_pre ks 8 L))))] H := hP
        have hD : va_D A [(h, .inr (2, [.int (nI nn), .ref qa])), (qa, .inl (tI, (nn * nn), .inl (zk_T (zk_pre ks 8 L))))] := hD
        refine W.widen (k := (p0 + 1)) (n := (16 * (p0 + 1))) (by omega) (by omega) ?_
        have hl : lv_has ls 5 [(0, .ref h), (1, .int (nI nn)), (2, .int (nI (p0 + 1))), (3, .int r0), (4, .int c0)] := (lv_sub hl [1, 2, 0, 3, 4] rfl)
        refine TD r0 c0 (p0 + 1) (zk_pre ks 8 L) H locs ls hP hD hS hl (fun hq ls1 hl1 => ?_) (fun hq ls1 hl1 => ?_)
        · rcases hnx with ⟨-, e1, e2, e3⟩ | ⟨q, -⟩
          · subst e1 e2 e3
            exact ih 2 _ _ (p0 + 1) (zk_pre ks 8 L) H locs ls1 hn hL' (by omega) hP hD hS hl1
          · exact absurd hq q
        · rcases hnx with ⟨q, -⟩ | ⟨-, e2, e3, e4⟩
          · exact absurd q hq
          · subst e2 e3
            rcases e4 with ⟨-, e1⟩ | ⟨-, e1⟩
            · subst e1
              exact ih 0 _ _ (p0 + 1) (zk_pre ks 8 L) H locs ls1 hn hL' (by omega) hP hD hS hl1
            · subst e1
              exact ih 3 _ _ (p0 + 1) (zk_pre ks 8 L) H locs ls1 hn hL' (by omega) hP hD hS hl1
      · exact absurd hc Bool.false_ne_true
  refine lv_aload_n hx hb dX3_fill_0 rfl (lv_at hl 0 rfl) ?_
  refine va_get (D := D) (ci := 2) (v := .int (nI nn)) (C := RX3) (T := TX3) (N := 2) hx hb hts in_X3 hown hK hP 0 rfl rfl 0 (by decide) (hts _ q224) (fun _ h9 => h9) rfl dX3_fill_1 ?_
  refine lv_istore_n (lv' := [(1, .int (nI nn)), (0, .ref h)]) hx hb dX3_fill_4 rfl hl (by decide) rfl (fun ls hl => ?_)
  refine lv_iconst (v := 0) hx hb dX3_fill_5 (by decide) ?_
  refine lv_istore_n (lv' := [(2, .int 0), (1, .int (nI nn)), (0, .ref h)]) hx hb dX3_fill_6 rfl hl (by decide) rfl (fun ls hl => ?_)
  refine lv_iconst (v := 4) hx hb dX3_fill_7 (by decide) ?_
  refine lv_istore_n (lv' := [(3, .int 4), (2, .int 0), (1, .int (nI nn)), (0, .ref h)]) hx hb dX3_fill_8 rfl hl (by decide) rfl (fun ls hl => ?_)
  refine lv_iconst (v := 0) hx hb dX3_fill_9 (by decide) ?_
  refine lv_istore (lv' := [(4, .int 0), (3, .int 4), (2, .int 0), (1, .int (nI nn)), (0, .ref h)]) hx hb dX3_fill_10 hl (by decide) rfl (fun ls hl => ?_)
  exact LOOP tr0 0 4 0 0 [] _ _ _ hok rfl (by omega) hP hD hS (lv_sub hl [4, 3, 2, 1, 0] rfl)
end
section
/-! PlacementDesk -/
set_option maxRecDepth 100000

/-- an int without its sign's bit -/
def zk_ab (x : Int32) : Nat := x.toBitVec.toNat % 2 ^ 31
theorem zk_ab_lt (x : Int32) : zk_ab x < 2 ^ 31 := Nat.mod_lt _ (by decide)
theorem zk_mx (x : Int32) : x &&& 2147483647 = nI (zk_ab x) := pk_and x 31 (by decide)
theorem zk_rm (x : Int32) {d : Nat} (h0 : 0 < d) (hd : d < 2 ^ 31) : (x &&& 2147483647) - (x &&& 2147483647) / nI d * nI d = nI (zk_ab x % d) := by
  rw [zk_mx]
  exact pk_rem (zk_ab_lt x) h0 hd
theorem zk_narC (v : Int32) : vp_nar .char (v &&& 255) = v &&& 255 := by
  unfold vp_nar
  rw [sc_nar]
theorem zk_W0 : zk_W (fun _ => 0) := fun j _ => ⟨0, by decide, rfl⟩
theorem zk_W_upd {w : Nat → Int32} (h : zk_W w) (j : Nat) (v : Int32) : zk_W (upd w j (v &&& 255)) := by
  intro a ha
  show ∃ k, k < 256 ∧ (if a = j then v &&& 255 else w a) = nI k
  rcases Nat.decEq a j with q | q
  · rw [if_neg q]
    exact h a ha
  · rw [if_pos q]
    exact ⟨v.toBitVec.toNat % 2 ^ 8, Nat.mod_lt _ (by decide), pk_and v 8 (by decide)⟩
/-- which of the four squares -/
def zk_ki (x : Int32) : Nat := x.toBitVec.toNat % 2 ^ 2
theorem zk_ki_lt (x : Int32) : zk_ki x < 4 := Nat.mod_lt _ (by decide)
theorem zk_k3 (x : Int32) : x &&& 3 = nI (zk_ki x) := pk_and x 2 (by decide)

set_option maxHeartbeats 4000000 in
set_option maxRecDepth 100000 in
theorem metX1_init (l : Launch) (D : va_G) (tB tC tI : ClassId) (sz : Nat) (h : Nat) : zk_Mv l yX1_init cX1_init 1 none 4 97 D tB tC tI [.ref h] [(h, .inr (0, [.null, .null, .int 0]))] (fun (_ : Nat × Nat × Nat × Nat) => True) (fun (u : Nat × Nat × Nat × Nat) => [(h, .inr (0, [.ref u.1, .ref u.2.1, .int 8])), (u.1, .inl (tC, 72, .inl (fun _ => 0))), (u.2.1, .inr (1, [.ref u.2.2.1, .int 8, .int 8, .ref u.2.2.2])), (u.2.2.2, .inl (tB, 64, .inl (fun _ => -1)))]) 6 420 sz := by
  refine zk_openV (by decide) (Nat.le_of_ble_eq_true rfl) (fun p e s m args below meth c ls A Q CX hr hnm hQ hsz hP hD hS hl => ?_)
  obtain ⟨hx, hb, hml, hown, hts, hA, hK, hZ, hlocks⟩ := id CX
  have hown : s.vm.findClass RX1 = some m.cls := hown
  have hl : lv_has ls 1 [(0, .ref h)] := hl
  refine lv_aload_n hx hb dX1_init_0 rfl (lv_at hl 0 rfl) ?_
  refine W.objInit hx hb hown (hts _ q22) (hts _ q23) (hts _ q24) rfl (by rw [hml]; exact hl.1) rfl dX1_init_1 (Nat.le_of_ble_eq_true rfl) (Nat.le_of_ble_eq_true rfl) ?_
  refine W.eq (g2 := F0 m 4 ls []) rfl ?_
  refine lv_aload_n hx hb dX1_init_4 rfl (lv_at hl 0 rfl) ?_
  refine lv_bipush (v := 72) hx hb dX1_init_5 (by decide) ?_
  refine zk_newC (N' := 72) CX hP hD hS (by decide) (by decide) (Nat.le_of_ble_eq_true rfl) (Nat.le_of_ble_eq_true rfl) (Nat.le_of_ble_eq_true rfl) dX1_init_7 (fun qw H hP hD hS => ?_)
  have hP : va_P D zk_cl [(h, .inr (0, [.null, .null, .int 0])), (qw, .inl (tC, 72, .inl (fun _ => 0)))] H := hP
  have hD : va_D A [(h, .inr (0, [.null, .null, .int 0])), (qw, .inl (tC, 72, .inl (fun _ => 0)))] := hD
  refine W.widen (k := 1) (n := 0 + 72) (Nat.le_of_ble_eq_true rfl) (Nat.le_of_ble_eq_true rfl) ?_
  refine va_putF (D := D) (ci := 0) (v := .ref qw) (ty := .array .char) (C := RX1) (T := TX1) (N := 3) hx hb hts in_X1 tyX1 tyX1_ok nmX1 hown hK hP hD hS 0 rfl rfl 0 (by decide) (hts _ q121) (fun _ h9 => h9) rfl hnm rfl (by decide +kernel) rfl rfl (Nat.le_of_ble_eq_true rfl) dX1_init_9 (fun H locs hP hD hS => ?_)
  have hP : va_P D zk_cl [(h, .inr (0, [.ref qw, .null, .int 0])), (qw, .inl (tC, 72, .inl (fun _ => 0)))] H := hP
  have hD : va_D A [(h, .inr (0, [.ref qw, .null, .int 0])), (qw, .inl (tC, 72, .inl (fun _ => 0)))] := hD
  refine lv_aload_n hx hb dX1_init_12 rfl (lv_at hl 0 rfl) ?_
  refine va_new (ci := 1) (fs := [.null, .int 0, .int 0, .null]) (C := RX2) (T := TX2) (N := 4) hx hb hts in_X2 tyX2 tyX2_ok hown (hts _ q25) (hts _ q26) (hts _ q10) hK hP hD hS hA rfl (fun j hj => by rcases (show j = 0 ∨ j = 1 ∨ j = 2 ∨ j = 3 by omega) with rfl | rfl | rfl | rfl <;> rfl) (Nat.le_of_ble_eq_true rfl) (Nat.le_of_ble_eq_true rfl) dX1_init_13 (fun qd H hP hD hS => ?_)
  have hP : va_P D zk_cl [(h, .inr (0, [.ref qw, .null, .int 0])), (qw, .inl (tC, 72, .inl (fun _ => 0))), (qd, .inr (1, [.null, .int 0, .int 0, .null]))] H := hP
  have hD : va_D A [(h, .inr (0, [.ref qw, .null, .int 0])), (qw, .inl (tC, 72, .inl (fun _ => 0))), (qd, .inr (1, [.null, .int 0, .int 0, .null]))] := hD
  refine W.widen (k := 2) (n := 0 + 72 + 4) (Nat.le_of_ble_eq_true rfl) (Nat.le_of_ble_eq_true rfl) ?_
  refine lv_dup hx hb dX1_init_16 rfl ?_
  refine va_new (ci := 3) (fs := [.null, .int 0, .int 0, .int 0]) (C := RJ0) (T := TJ0) (N := 4) hx hb hts in_J0 tyJ0 tyJ0_ok hown (hts _ q27) (hts _ q28) (hts _ q11) hK hP hD hS hA rfl (fun j hj => by rcases (show j = 0 ∨ j = 1 ∨ j = 2 ∨ j = 3 by omega) with rfl | rfl | rfl | rfl <;> rfl) (Nat.le_of_ble_eq_true rfl) (Nat.le_of_ble_eq_true rfl) dX1_init_17 (fun qs H hP hD hS => ?_)
  have hP : va_P D zk_cl [(h, .inr (0, [.ref qw, .null, .int 0])), (qw, .inl (tC, 72, .inl (fun _ => 0))), (qd, .inr (1, [.null, .int 0, .int 0, .null])), (qs, .inr (3, [.null, .int 0, .int 0, .int 0]))] H := hP
  have hD : va_D A [(h, .inr (0, [.ref qw, .null, .int 0])), (qw, .inl (tC, 72, .inl (fun _ => 0))), (qd, .inr (1, [.null, .int 0, .int 0, .null])), (qs, .inr (3, [.null, .int 0, .int 0, .int 0]))] := hD
  refine W.widen (k := 3) (n := 0 + 72 + 4 + 4) (Nat.le_of_ble_eq_true rfl) (Nat.le_of_ble_eq_true rfl) ?_
  refine lv_dup hx hb dX1_init_20 rfl ?_
  refine lv_bipush (v := 72) hx hb dX1_init_21 (by decide) ?_
  refine zk_newC (N' := 72) CX hP hD hS (by decide) (by decide) (Nat.le_of_ble_eq_true rfl) (Nat.le_of_ble_eq_true rfl) (Nat.le_of_ble_eq_true rfl) dX1_init_23 (fun qc H hP hD hS => ?_)
  have hP : va_P D zk_cl [(h, .inr (0, [.ref qw, .null, .int 0])), (qw, .inl (tC, 72, .inl (fun _ => 0))), (qd, .inr (1, [.null, .int 0, .int 0, .null])), (qs, .inr (3, [.null, .int 0, .int 0, .int 0])), (qc, .inl (tC, 72, .inl (fun _ => 0)))] H := hP
  have hD : va_D A [(h, .inr (0, [.ref qw, .null, .int 0])), (qw, .inl (tC, 72, .inl (fun _ => 0))), (qd, .inr (1, [.null, .int 0, .int 0, .null])), (qs, .inr (3, [.null, .int 0, .int 0, .int 0])), (qc, .inl (tC, 72, .inl (fun _ => 0)))] := hD
  refine W.widen (k := 4) (n := 0 + 72 + 4 + 4 + 72) (Nat.le_of_ble_eq_true rfl) (Nat.le_of_ble_eq_true rfl) ?_
  refine zk_Iv CX hP hD hS ([(h, .inr (0, [.ref qw, .null, .int 0])), (qw, .inl (tC, 72, .inl (fun _ => 0))), (qd, .inr (1, [.null, .int 0, .int 0, .null]))]) [3, 4] [0, 1, 2] (metJ0_init l D tB tC tI _ qs qc (fun _ => 0) zk_W0) q31 q11 q29 q30 1 rfl (by decide +kernel) rfl hl.1 rfl (Nat.le_of_ble_eq_true rfl) dX1_init_25 ⟨Nat.le_of_ble_eq_true rfl, Nat.le_of_ble_eq_true rfl⟩ ⟨Nat.le_of_ble_eq_true rfl, Nat.le_of_ble_eq_true rfl⟩ rfl rfl rfl rfl (by decide) (fun qg H locs hw hP hD hS => ?_)
  have hP : va_P D zk_cl [(h, .inr (0, [.ref qw, .null, .int 0])), (qw, .inl (tC, 72, .inl (fun _ => 0))), (qd, .inr (1, [.null, .int 0, .int 0, .null])), (qs, .inr (3, [.ref qg, .int 0, .int 0, .int 0])), (qg, .inl (tB, 72, .inl (zk_G (fun _ => 0) 72))), (qc, .inl (tC, 72, .inl (fun _ => 0)))] H := hP
  have hD : va_D A [(h, .inr (0, [.ref qw, .null, .int 0])), (qw, .inl (tC, 72, .inl (fun _ => 0))), (qd, .inr (1, [.null, .int 0, .int 0, .null])), (qs, .inr (3, [.ref qg, .int 0, .int 0, .int 0])), (qg, .inl (tB, 72, .inl (zk_G (fun _ => 0) 72))), (qc, .inl (tC, 72, .inl (fun _ => 0)))] := hD
  refine W.widen (k := 5) (n := 0 + 72 + 4 + 4 + 72 + 72) (Nat.le_of_ble_eq_true rfl) (Nat.le_of_ble_eq_true rfl) ?_
  refine lv_bipush (v := 8) hx hb dX1_init_28 (by decide) ?_
  refine lv_bipush (v := 8) hx hb dX1_init_30 (by decide) ?_
  refine zk_Iv CX hP hD hS ([(h, .inr (0, [.ref qw, .null, .int 0])), (qw, .inl (tC, 72, .inl (fun _ => 0))), (qs, .inr (3, [.ref qg, .int 0, .int 0, .int 0])), (qg, .inl (tB, 72, .inl (zk_G (fun _ => 0) 72))), (qc, .inl (tC, 72, .inl (fun _ => 0)))]) [2] [0, 1, 3, 4, 5] (metX2_init l D tB tC tI _ qd qs 8 64 (by decide) (by decide)) q103 q10 q101 q102 3 rfl (by decide +kernel) rfl hl.1 rfl (Nat.le_of_ble_eq_true rfl) dX1_init_32 ⟨Nat.le_of_ble_eq_true rfl, Nat.le_of_ble_eq_true rfl⟩ ⟨Nat.le_of_ble_eq_true rfl, Nat.le_of_ble_eq_true rfl⟩ rfl rfl rfl rfl (by decide) (fun qb H locs hw hP hD hS => ?_)
  have hP : va_P D zk_cl [(h, .inr (0, [.ref qw, .null, .int 0])), (qw, .inl (tC, 72, .inl (fun _ => 0))), (qs, .inr (3, [.ref qg, .int 0, .int 0, .int 0])), (qg, .inl (tB, 72, .inl (zk_G (fun _ => 0) 72))), (qc, .inl (tC, 72, .inl (fun _ => 0))), (qd, .inr (1, [.ref qs, .int 8, .int 8, .ref qb])), (qb, .inl (tB, 64, .inl (fun _ => -1)))] H := hP
  have hD : va_D A [(h, .inr (0, [.ref qw, .null, .int 0])), (qw, .inl (tC, 72, .inl (fun _ => 0))), (qs, .inr (3, [.ref qg, .int 0, .int 0, .int 0])), (qg, .inl (tB, 72, .inl (zk_G (fun _ => 0) 72))), (qc, .inl (tC, 72, .inl (fun _ => 0))), (qd, .inr (1, [.ref qs, .int 8, .int 8, .ref qb])), (qb, .inl (tB, 64, .inl (fun _ => -1)))] := hD
  refine W.widen (k := 6) (n := 0 + 72 + 4 + 4 + 72 + 72 + 196) (Nat.le_of_ble_eq_true rfl) (Nat.le_of_ble_eq_true rfl) ?_
  refine va_put (D := D) (ci := 0) (v := .ref qd) (ty := .object "DefaultPlacement") (C := RX1) (T := TX1) (N := 3) hx hb hts in_X1 tyX1 tyX1_ok nmX1 hown hK hP hD hS 0 rfl rfl 1 (by decide) (hts _ q122) (fun _ h9 => h9) rfl (by decide +kernel) rfl rfl (Nat.le_of_ble_eq_true rfl) dX1_init_35 (fun H locs hP hD hS => ?_)
  have hP : va_P D zk_cl [(h, .inr (0, [.ref qw, .ref qd, .int 0])), (qw, .inl (tC, 72, .inl (fun _ => 0))), (qs, .inr (3, [.ref qg, .int 0, .int 0, .int 0])), (qg, .inl (tB, 72, .inl (zk_G (fun _ => 0) 72))), (qc, .inl (tC, 72, .inl (fun _ => 0))), (qd, .inr (1, [.ref qs, .int 8, .int 8, .ref qb])), (qb, .inl (tB, 64, .inl (fun _ => -1)))] H := hP
  have hD : va_D A [(h, .inr (0, [.ref qw, .ref qd, .int 0])), (qw, .inl (tC, 72, .inl (fun _ => 0))), (qs, .inr (3, [.ref qg, .int 0, .int 0, .int 0])), (qg, .inl (tB, 72, .inl (zk_G (fun _ => 0) 72))), (qc, .inl (tC, 72, .inl (fun _ => 0))), (qd, .inr (1, [.ref qs, .int 8, .int 8, .ref qb])), (qb, .inl (tB, 64, .inl (fun _ => -1)))] := hD
  refine lv_aload_n hx hb dX1_init_38 rfl (lv_at hl 0 rfl) ?_
  refine lv_bipush (v := 8) hx hb dX1_init_39 (by decide) ?_
  refine va_put (D := D) (ci := 0) (v := .int 8) (ty := .int) (C := RX1) (T := TX1) (N := 3) hx hb hts in_X1 tyX1 tyX1_ok nmX1 hown hK hP hD hS 0 rfl rfl 2 (by decide) (hts _ q123) (fun _ h9 => h9) rfl (by decide +kernel) rfl rfl (Nat.le_of_ble_eq_true rfl) dX1_init_41 (fun H locs hP hD hS => ?_)
  have hP : va_P D zk_cl [(h, .inr (0, [.ref qw, .ref qd, .int 8])), (qw, .inl (tC, 72, .inl (fun _ => 0))), (qs, .inr (3, [.ref qg, .int 0, .int 0, .int 0])), (qg, .inl (tB, 72, .inl (zk_G (fun _ => 0) 72))), (qc, .inl (tC, 72, .inl (fun _ => 0))), (qd, .inr (1, [.ref qs, .int 8, .int 8, .ref qb])), (qb, .inl (tB, 64, .inl (fun _ => -1)))] H := hP
  have hD : va_D A [(h, .inr (0, [.ref qw, .ref qd, .int 8])), (qw, .inl (tC, 72, .inl (fun _ => 0))), (qs, .inr (3, [.ref qg, .int 0, .int 0, .int 0])), (qg, .inl (tB, 72, .inl (zk_G (fun _ => 0) 72))), (qc, .inl (tC, 72, .inl (fun _ => 0))), (qd, .inr (1, [.ref qs, .int 8, .int 8, .ref qb])), (qb, .inl (tB, 64, .inl (fun _ => -1)))] := hD
  exact zk_vret CX hQ hr hP hD hS (qw, qd, qs, qb) trivial [0, 1, 5, 6] rfl rfl (Nat.le_of_ble_eq_true rfl) (Nat.le_of_ble_eq_true rfl) dX1_init_44

set_option maxHeartbeats 4000000 in
set_option maxRecDepth 100000 in
theorem metX1_put (l : Launch) (D : va_G) (tB tC tI : ClassId) (sz : Nat) (h qw qd : Nat) (vs at0 v : Int32) (w : Nat → Int32) : zk_Mv l yX1_put cX1_put 3 none 0 0 D tB tC tI [.ref h, .int at0, .int v] [(h, .inr (0, [.ref qw, .ref qd, .int vs])), (qw, .inl (tC, 72, .inl w))] (fun (_ : Unit) => True) (fun (_ : Unit) => [(h, .inr (0, [.ref qw, .ref qd, .int vs])), (qw, .inl (tC, 72, .inl (upd w (zk_ab at0 % 72) (v &&& 255))))]) 0 0 sz := by
  refine zk_openV (by decide) (Nat.le_of_ble_eq_true rfl) (fun p e s m args below meth c ls A Q CX hr hnm hQ hsz hP hD hS hl => ?_)
  obtain ⟨hx, hb, hml, hown, hts, hA, hK, hZ, hlocks⟩ := id CX
  have hown : s.vm.findClass RX1 = some m.cls := hown
  have hl : lv_has ls 3 [(0, .ref h), (1, .int at0), (2, .int v)] := hl
  refine lv_aload_n hx hb dX1_put_0 rfl (lv_at hl 0 rfl) ?_
  refine va_get (D := D) (ci := 0) (v := .ref qw) (C := RX1) (T := TX1) (N := 3) hx hb hts in_X1 hown hK hP 0 rfl rfl 0 (by decide) (hts _ q121) (fun _ h9 => h9) rfl dX1_put_1 ?_
  refine lv_iload_n hx hb dX1_put_4 rfl (lv_at hl 1 rfl) ?_
  refine lv_ldc (v := 2147483647) hx hb hown (hts _ q135) dX1_put_5 ?_
  refine lv_iand hx hb dX1_put_7 ?_
  refine lv_bipush (v := 72) hx hb dX1_put_8 (by decide) ?_
  refine lv_irem hx hb dX1_put_10 (by decide) ?_
  refine lv_topi (fun t_1 et_1 => ?_)
  have et_1 : t_1 = nI (zk_ab at0 % 72) := et_1.trans (zk_rm at0 (d := 72) (by decide) (by decide))
  subst et_1
  refine lv_iload_n hx hb dX1_put_11 rfl (lv_at hl 2 rfl) ?_
  refine lv_sipush (v := 255) hx hb dX1_put_12 (by decide) ?_
  refine lv_iand hx hb dX1_put_15 ?_
  refine lv_i2c (v := v &&& 255) hx hb dX1_put_16 (sc_c2 v) ?_
  refine va_cast hx hb hK hP hD hS 1 1 rfl rfl (vp_in_nI (Nat.mod_lt _ (by decide)) (by decide)) dX1_put_17 (fun H locs hP hD hS => ?_)
  have hP : va_P D zk_cl [(h, .inr (0, [.ref qw, .ref qd, .int vs])), (qw, .inl (tC, 72, .inl (upd w (nI (zk_ab at0 % 72)).toNatClampNeg (vp_nar .char (v &&& 255)))))] H := hP
  have hD : va_D A [(h, .inr (0, [.ref qw, .ref qd, .int vs])), (qw, .inl (tC, 72, .inl (upd w (nI (zk_ab at0 % 72)).toNatClampNeg (vp_nar .char (v &&& 255)))))] := hD
  have ef_ : upd w (nI (zk_ab at0 % 72)).toNatClampNeg (vp_nar .char (v &&& 255)) = upd w (zk_ab at0 % 72) (v &&& 255) := by rw [nI_clamp (Nat.lt_trans (Nat.mod_lt _ (by decide)) (by decide)), zk_narC]
  rw [ef_] at hP hD
  clear ef_
  exact zk_vret CX hQ hr hP hD hS () trivial [0, 1] rfl rfl (Nat.le_of_ble_eq_true rfl) (Nat.le_of_ble_eq_true rfl) dX1_put_18

set_option maxHeartbeats 4000000 in
set_option maxRecDepth 100000 in
theorem metX1_side (l : Launch) (D : va_G) (tB tC tI : ClassId) (sz : Nat) (h qw qd : Nat) (vs : Int32) : zk_Mi l yX1_side cX1_side 1 (some .int) 0 0 D tB tC tI [.ref h] [(h, .inr (0, [.ref qw, .ref qd, .int vs]))] (fun (r : Int32) (_ : Unit) => r = vs) (fun (_ : Unit) => [(h, .inr (0, [.ref qw, .ref qd, .int vs]))]) 0 0 sz := by
  refine zk_openI (by decide) (Nat.le_of_ble_eq_true rfl) (fun p e s m args below meth c ls A Q CX hr hnm hQ hsz hP hD hS hl => ?_)
  obtain ⟨hx, hb, hml, hown, hts, hA, hK, hZ, hlocks⟩ := id CX
  have hown : s.vm.findClass RX1 = some m.cls := hown
  have hl : lv_has ls 1 [(0, .ref h)] := hl
  refine lv_aload_n hx hb dX1_side_0 rfl (lv_at hl 0 rfl) ?_
  refine va_get (D := D) (ci := 0) (v := .int vs) (C := RX1) (T := TX1) (N := 3) hx hb hts in_X1 hown hK hP 0 rfl rfl 2 (by decide) (hts _ q123) (fun _ h9 => h9) rfl dX1_side_1 ?_
  exact zk_iret CX hQ hr rfl hP hD hS () rfl [0] rfl rfl (Nat.le_of_ble_eq_true rfl) (Nat.le_of_ble_eq_true rfl) dX1_side_4

set_option maxHeartbeats 4000000 in
set_option maxRecDepth 100000 in
theorem metX1_bit (l : Launch) (D : va_G) (tB tC tI : ClassId) (sz : Nat) (h qw qd qs qb sd : Nat) (x y : Int32) (f : Nat → Int32) (hs : 0 < sd) (h14 : sd ≤ 14) : zk_Mi l yX1_bit cX1_bit 3 (some .boolean) 1 22 D tB tC tI [.ref h, .int x, .int y] [(h, .inr (0, [.ref qw, .ref qd, .int (nI sd)])), (qd, .inr (1, [.ref qs, .int (nI sd), .int (nI sd), .ref qb])), (qb, .inl (tB, (sd * sd), .inl f))] (fun (r : Int32) (_ : Unit) => r = if f (zk_ab y % sd * sd + zk_ab x % sd) = 1 then 1 else 0) (fun (_ : Unit) => [(h, .inr (0, [.ref qw, .ref qd, .int (nI sd)])), (qd, .inr (1, [.ref qs, .int (nI sd), .int (nI sd), .ref qb])), (qb, .inl (tB, (sd * sd), .inl f))]) 0 0 sz := by
  refine zk_openI (by decide) (Nat.le_of_ble_eq_true rfl) (fun p e s m args below meth c ls A Q CX hr hnm hQ hsz hP hD hS hl => ?_)
  obtain ⟨hx, hb, hml, hown, hts, hA, hK, hZ, hlocks⟩ := id CX
  have hown : s.vm.findClass RX1 = some m.cls := hown
  have hl : lv_has ls 3 [(0, .ref h), (1, .int x), (2, .int y)] := hl
  have hss : sd * sd ≤ 196 := Nat.mul_le_mul h14 h14
  have hy := Nat.mod_lt (zk_ab y) hs
  have hx0 := Nat.mod_lt (zk_ab x) hs
  have hle : zk_ab y % sd * sd + sd ≤ sd * sd := by
    have h1 : zk_ab y % sd * sd + sd = (zk_ab y % sd + 1) * sd := by rw [Nat.succ_mul]
    rw [h1]
    exact Nat.mul_le_mul_right sd hy
  have ei : nI (zk_ab y % sd) * nI sd + nI (zk_ab x % sd) = nI (zk_ab y % sd * sd + zk_ab x % sd) := by rw [pk_mul, nI_add]
  have hin : vp_in (nI (zk_ab y % sd) * nI sd + nI (zk_ab x % sd)) (sd * sd) := by rw [ei]; exact vp_in_nI (by omega) (by omega)
  refine lv_aload_n hx hb dX1_bit_0 rfl (lv_at hl 0 rfl) ?_
  refine va_get (D := D) (ci := 0) (v := .ref qd) (C := RX1) (T := TX1) (N := 3) hx hb hts in_X1 hown hK hP 0 rfl rfl 1 (by decide) (hts _ q122) (fun _ h9 => h9) rfl dX1_bit_1 ?_
  refine lv_iload_n hx hb dX1_bit_4 rfl (lv_at hl 1 rfl) ?_
  refine lv_ldc (v := 2147483647) hx hb hown (hts _ q135) dX1_bit_5 ?_
  refine lv_iand hx hb dX1_bit_7 ?_
  refine lv_aload_n hx hb dX1_bit_8 rfl (lv_at hl 0 rfl) ?_
  refine va_get (D := D) (ci := 0) (v := .int (nI sd)) (C := RX1) (T := TX1) (N := 3) hx hb hts in_X1 hown hK hP 0 rfl rfl 2 (by decide) (hts _ q123) (fun _ h9 => h9) rfl dX1_bit_9 ?_
  refine lv_irem hx hb dX1_bit_12 (nI_ne0 hs (by omega)) ?_
  refine lv_topi (fun t_2 et_2 => ?_)
  have et_2 : t_2 = nI (zk_ab x % sd) := et_2.trans (zk_rm x hs (by omega))
  subst et_2
  refine lv_iload_n hx hb dX1_bit_13 rfl (lv_at hl 2 rfl) ?_
  refine lv_ldc (v := 2147483647) hx hb hown (hts _ q135) dX1_bit_14 ?_
  refine lv_iand hx hb dX1_bit_16 ?_
  refine lv_aload_n hx hb dX1_bit_17 rfl (lv_at hl 0 rfl) ?_
  refine va_get (D := D) (ci := 0) (v := .int (nI sd)) (C := RX1) (T := TX1) (N := 3) hx hb hts in_X1 hown hK hP 0 rfl rfl 2 (by decide) (hts _ q123) (fun _ h9 => h9) rfl dX1_bit_18 ?_
  refine lv_irem hx hb dX1_bit_21 (nI_ne0 hs (by omega)) ?_
  refine lv_topi (fun t_3 et_3 => ?_)
  have et_3 : t_3 = nI (zk_ab y % sd) := et_3.trans (zk_rm y hs (by omega))
  subst et_3
  refine zk_Vi CX hP hD hS ([(h, .inr (0, [.ref qw, .ref qd, .int (nI sd)]))]) [1, 2] [0] (metX2_getBit l D tB tC tI _ qd qs qb (nI sd) (nI (zk_ab x % sd)) (nI (zk_ab y % sd)) (sd * sd) f hin) (lw_V q210 q211 q212 q10 q213) 2 1 0 rfl rfl rfl (by decide +kernel) rfl hl.1 rfl (Nat.le_of_ble_eq_true rfl) dX1_bit_22 ⟨Nat.le_of_ble_eq_true rfl, Nat.le_of_ble_eq_true rfl⟩ ⟨Nat.le_of_ble_eq_true rfl, Nat.le_of_ble_eq_true rfl⟩ rfl rfl rfl rfl (by decide) (fun r_1 _ H locs hw hP hD hS => ?_)
  have hP : va_P D zk_cl [(h, .inr (0, [.ref qw, .ref qd, .int (nI sd)])), (qd, .inr (1, [.ref qs, .int (nI sd), .int (nI sd), .ref qb])), (qb, .inl (tB, (sd * sd), .inl f))] H := hP
  have hD : va_D A [(h, .inr (0, [.ref qw, .ref qd, .int (nI sd)])), (qd, .inr (1, [.ref qs, .int (nI sd), .int (nI sd), .ref qb])), (qb, .inl (tB, (sd * sd), .inl f))] := hD
  rw [ei, nI_clamp (by omega)] at hw
  subst hw
  exact zk_iret CX hQ hr (by split <;> rfl) hP hD hS () rfl [0, 1, 2] rfl rfl (Nat.le_of_ble_eq_true rfl) (Nat.le_of_ble_eq_true rfl) dX1_bit_25

set_option maxHeartbeats 4000000 in
set_option maxRecDepth 100000 in
theorem metX1_place (l : Launch) (D : va_G) (tB tC tI : ClassId) (sz : Nat) (h qw qd0 : Nat) (vs kind : Int32) (w : Nat → Int32) (hw0 : zk_W w) : zk_Mv l yX1_place cX1_place 3 none 7 156 D tB tC tI [.ref h, .int kind] [(h, .inr (0, [.ref qw, .ref qd0, .int vs])), (qw, .inl (tC, 72, .inl w))] (fun (_ : Nat × Nat × Nat) => True) (fun (u : Nat × Nat × Nat) => [(h, .inr (0, [.ref qw, .ref u.1, .int (nI (zk_sd (zk_ki kind)))])), (qw, .inl (tC, 72, .inl w)), (u.1, .inr (1, [.ref u.2.1, .int (nI (zk_sd (zk_ki kind))), .int (nI (zk_sd (zk_ki kind))), .ref u.2.2])), (u.2.2, .inl (tB, (zk_sd (zk_ki kind)) * (zk_sd (zk_ki kind)), .inl (zk_Fin w (zk_sd (zk_ki kind)) (zk_LL (zk_ki kind)))))]) 4 276 sz := by
  refine zk_openV (by decide) (Nat.le_of_ble_eq_true rfl) (fun p e s m args below meth c ls A Q CX hr hnm hQ hsz hP hD hS hl => ?_)
  obtain ⟨hx, hb, hml, hown, hts, hA, hK, hZ, hlocks⟩ := id CX
  have hown : s.vm.findClass RX1 = some m.cls := hown
  have hl : lv_has ls 3 [(0, .ref h), (1, .int kind)] := hl
  have hki := zk_ki_lt kind
  have hsd : zk_sd (zk_ki kind) = 8 + 2 * zk_ki kind := rfl
  have hk3 := zk_k3 kind
  refine lv_iload_n hx hb dX1_place_0 rfl (lv_at hl 1 rfl) ?_
  refine lv_iconst (v := 3) hx hb dX1_place_1 (by decide) ?_
  refine lv_iand hx hb dX1_place_2 ?_
  refine lv_topi (fun t_4 et_4 => ?_)
  have et_4 : t_4 = nI (zk_ki kind) := et_4.trans hk3
  subst et_4
  refine lv_istore_n (lv' := [(2, .int (nI (zk_ki kind))), (0, .ref h), (1, .int kind)]) hx hb dX1_place_3 rfl hl (by decide) rfl (fun ls hl => ?_)
  refine lv_aload_n hx hb dX1_place_4 rfl (lv_at hl 1 rfl) ?_
  have J36 : ∀ (v : Int32), v = (nI (zk_sd (zk_ki kind))) → W p l e ({ frames := 7, cells := 4, slots := 276, locals := 156 } : Room) s m args below meth c s.heap [] 0 0 Q (F0 m 36 ls [.int v, .ref h]) := by
    intro v ev
    subst ev
    have h14 : zk_sd (zk_ki kind) ≤ 14 := by omega
    have hss : zk_sd (zk_ki kind) * zk_sd (zk_ki kind) ≤ 196 := Nat.mul_le_mul h14 h14
    refine va_put (D := D) (ci := 0) (v := .int (nI (zk_sd (zk_ki kind)))) (ty := .int) (C := RX1) (T := TX1) (N := 3) hx hb hts in_X1 tyX1 tyX1_ok nmX1 hown hK hP hD hS 0 rfl rfl 2 (by decide) (hts _ q123) (fun _ h9 => h9) rfl (by decide +kernel) rfl rfl (Nat.le_of_ble_eq_true rfl) dX1_place_36 (fun H locs hP hD hS => ?_)
    have hP : va_P D zk_cl [(h, .inr (0, [.ref qw, .ref qd0, .int (nI (zk_sd (zk_ki kind)))])), (qw, .inl (tC, 72, .inl w))] H := hP
    have hD : va_D A [(h, .inr (0, [.ref qw, .ref qd0, .int (nI (zk_sd (zk_ki kind)))])), (qw, .inl (tC, 72, .inl w))] := hD
    refine lv_aload_n hx hb dX1_place_39 rfl (lv_at hl 1 rfl) ?_
    refine va_new (ci := 1) (fs := [.null, .int 0, .int 0, .null]) (C := RX2) (T := TX2) (N := 4) hx hb hts in_X2 tyX2 tyX2_ok hown (hts _ q25) (hts _ q26) (hts _ q10) hK hP hD hS hA rfl (fun j hj => by rcases (show j = 0 ∨ j = 1 ∨ j = 2 ∨ j = 3 by omega) with rfl | rfl | rfl | rfl <;> rfl) (Nat.le_of_ble_eq_true rfl) (Nat.le_of_ble_eq_true rfl) dX1_place_40 (fun qd H hP hD hS => ?_)
    have hP : va_P D zk_cl [(h, .inr (0, [.ref qw, .ref qd0, .int (nI (zk_sd (zk_ki kind)))])), (qw, .inl (tC, 72, .inl w)), (qd, .inr (1, [.null, .int 0, .int 0, .null]))] H := hP
    have hD : va_D A [(h, .inr (0, [.ref qw, .ref qd0, .int (nI (zk_sd (zk_ki kind)))])), (qw, .inl (tC, 72, .inl w)), (qd, .inr (1, [.null, .int 0, .int 0, .null]))] := hD
    refine W.widen (k := 1) (n := 4) (Nat.le_of_ble_eq_true rfl) (Nat.le_of_ble_eq_true rfl) ?_
    refine lv_dup hx hb dX1_place_43 rfl ?_
    refine va_new (ci := 3) (fs := [.null, .int 0, .int 0, .int 0]) (C := RJ0) (T := TJ0) (N := 4) hx hb hts in_J0 tyJ0 tyJ0_ok hown (hts _ q27) (hts _ q28) (hts _ q11) hK hP hD hS hA rfl (fun j hj => by rcases (show j = 0 ∨ j = 1 ∨ j = 2 ∨ j = 3 by omega) with rfl | rfl | rfl | rfl <;> rfl) (Nat.le_of_ble_eq_true rfl) (Nat.le_of_ble_eq_true rfl) dX1_place_44 (fun qs H hP hD hS => ?_)
    have hP : va_P D zk_cl [(h, .inr (0, [.ref qw, .ref qd0, .int (nI (zk_sd (zk_ki kind)))])), (qw, .inl (tC, 72, .inl w)), (qd, .inr (1, [.null, .int 0, .int 0, .null])), (qs, .inr (3, [.null, .int 0, .int 0, .int 0]))] H := hP
    have hD : va_D A [(h, .inr (0, [.ref qw, .ref qd0, .int (nI (zk_sd (zk_ki kind)))])), (qw, .inl (tC, 72, .inl w)), (qd, .inr (1, [.null, .int 0, .int 0, .null])), (qs, .inr (3, [.null, .int 0, .int 0, .int 0]))] := hD
    refine W.widen (k := 2) (n := 8) (Nat.le_of_ble_eq_true rfl) (Nat.le_of_ble_eq_true rfl) ?_
    refine lv_dup hx hb dX1_place_47 rfl ?_
    refine lv_aload_n hx hb dX1_place_48 rfl (lv_at hl 1 rfl) ?_
    refine va_get (D := D) (ci := 0) (v := .ref qw) (C := RX1) (T := TX1) (N := 3) hx hb hts in_X1 hown hK hP 0 rfl rfl 0 (by decide) (hts _ q121) (fun _ h9 => h9) rfl dX1_place_49 ?_
    refine zk_Iv CX hP hD hS ([(h, .inr (0, [.ref qw, .ref qd0, .int (nI (zk_sd (zk_ki kind)))])), (qd, .inr (1, [.null, .int 0, .int 0, .null]))]) [3, 1] [0, 2] (metJ0_init l D tB tC tI _ qs qw w hw0) q31 q11 q29 q30 1 rfl (by decide +kernel) rfl hl.1 rfl (Nat.le_of_ble_eq_true rfl) dX1_place_52 ⟨Nat.le_of_ble_eq_true rfl, Nat.le_of_ble_eq_true rfl⟩ ⟨Nat.le_of_ble_eq_true rfl, Nat.le_of_ble_eq_true rfl⟩ rfl rfl rfl rfl (by decide) (fun qg H locs hw hP hD hS => ?_)
    have hP : va_P D zk_cl [(h, .inr (0, [.ref qw, .ref qd0, .int (nI (zk_sd (zk_ki kind)))])), (qd, .inr (1, [.null, .int 0, .int 0, .null])), (qs, .inr (3, [.ref qg, .int 0, .int 0, .int 0])), (qg, .inl (tB, 72, .inl (zk_G w 72))), (qw, .inl (tC, 72, .inl w))] H := hP
    have hD : va_D A [(h, .inr (0, [.ref qw, .ref qd0, .int (nI (zk_sd (zk_ki kind)))])), (qd, .inr (1, [.null, .int 0, .int 0, .null])), (qs, .inr (3, [.ref qg, .int 0, .int 0, .int 0])), (qg, .inl (tB, 72, .inl (zk_G w 72))), (qw, .inl (tC, 72, .inl w))] := hD
    refine W.widen (k := 3) (n := 80) (Nat.le_of_ble_eq_true rfl) (Nat.le_of_ble_eq_true rfl) ?_
    refine lv_aload_n hx hb dX1_place_55 rfl (lv_at hl 1 rfl) ?_
    refine va_get (D := D) (ci := 0) (v := .int (nI (zk_sd (zk_ki kind)))) (C := RX1) (T := TX1) (N := 3) hx hb hts in_X1 hown hK hP 0 rfl rfl 2 (by decide) (hts _ q123) (fun _ h9 => h9) rfl dX1_place_56 ?_
    refine lv_aload_n hx hb dX1_place_59 rfl (lv_at hl 1 rfl) ?_
    refine va_get (D := D) (ci := 0) (v := .int (nI (zk_sd (zk_ki kind)))) (C := RX1) (T := TX1) (N := 3) hx hb hts in_X1 hown hK hP 0 rfl rfl 2 (by decide) (hts _ q123) (fun _ h9 => h9) rfl dX1_place_60 ?_
    refine zk_Iv CX hP hD hS ([(h, .inr (0, [.ref qw, .ref qd0, .int (nI (zk_sd (zk_ki kind)))])), (qs, .inr (3, [.ref qg, .int 0, .int 0, .int 0])), (qg, .inl (tB, 72, .inl (zk_G w 72))), (qw, .inl (tC, 72, .inl w))]) [1] [0, 2, 3, 4] (metX2_init l D tB tC tI _ qd qs (nI (zk_sd (zk_ki kind))) ((zk_sd (zk_ki kind)) * (zk_sd (zk_ki kind))) (pk_mul _ _) hss) q103 q10 q101 q102 3 rfl (by decide +kernel) rfl hl.1 rfl (Nat.le_of_ble_eq_true rfl) dX1_place_63 ⟨Nat.le_of_ble_eq_true rfl, Nat.le_of_ble_eq_true rfl⟩ ⟨Nat.le_of_ble_eq_true rfl, Nat.le_of_ble_eq_true rfl⟩ rfl rfl rfl rfl (by decide) (fun qb H locs hw hP hD hS => ?_)
    have hP : va_P D zk_cl [(h, .inr (0, [.ref qw, .ref qd0, .int (nI (zk_sd (zk_ki kind)))])), (qs, .inr (3, [.ref qg, .int 0, .int 0, .int 0])), (qg, .inl (tB, 72, .inl (zk_G w 72))), (qw, .inl (tC, 72, .inl w)), (qd, .inr (1, [.ref qs, .int (nI (zk_sd (zk_ki kind))), .int (nI (zk_sd (zk_ki kind))), .ref qb])), (qb, .inl (tB, ((zk_sd (zk_ki kind)) * (zk_sd (zk_ki kind))), .inl (fun _ => -1)))] H := hP
    have hD : va_D A [(h, .inr (0, [.ref qw, .ref qd0, .int (nI (zk_sd (zk_ki kind)))])), (qs, .inr (3, [.ref qg, .int 0, .int 0, .int 0])), (qg, .inl (tB, 72, .inl (zk_G w 72))), (qw, .inl (tC, 72, .inl w)), (qd, .inr (1, [.ref qs, .int (nI (zk_sd (zk_ki kind))), .int (nI (zk_sd (zk_ki kind))), .ref qb])), (qb, .inl (tB, ((zk_sd (zk_ki kind)) * (zk_sd (zk_ki kind))), .inl (fun _ => -1)))] := hD
    refine W.widen (k := 4) (n := 276) (Nat.le_of_ble_eq_true rfl) (Nat.le_of_ble_eq_true rfl) ?_
    refine va_put (D := D) (ci := 0) (v := .ref qd) (ty := .object "DefaultPlacement") (C := RX1) (T := TX1) (N := 3) hx hb hts in_X1 tyX1 tyX1_ok nmX1 hown hK hP hD hS 0 rfl rfl 1 (by decide) (hts _ q122) (fun _ h9 => h9) rfl (by decide +kernel) rfl rfl (Nat.le_of_ble_eq_true rfl) dX1_place_66 (fun H locs hP hD hS => ?_)
    have hP : va_P D zk_cl [(h, .inr (0, [.ref qw, .ref qd, .int (nI (zk_sd (zk_ki kind)))])), (qs, .inr (3, [.ref qg, .int 0, .int 0, .int 0])), (qg, .inl (tB, 72, .inl (zk_G w 72))), (qw, .inl (tC, 72, .inl w)), (qd, .inr (1, [.ref qs, .int (nI (zk_sd (zk_ki kind))), .int (nI (zk_sd (zk_ki kind))), .ref qb])), (qb, .inl (tB, ((zk_sd (zk_ki kind)) * (zk_sd (zk_ki kind))), .inl (fun _ => -1)))] H := hP
    have hD : va_D A [(h, .inr (0, [.ref qw, .ref qd, .int (nI (zk_sd (zk_ki kind)))])), (qs, .inr (3, [.ref qg, .int 0, .int 0, .int 0])), (qg, .inl (tB, 72, .inl (zk_G w 72))), (qw, .inl (tC, 72, .inl w)), (qd, .inr (1, [.ref qs, .int (nI (zk_sd (zk_ki kind))), .int (nI (zk_sd (zk_ki kind))), .ref qb])), (qb, .inl (tB, ((zk_sd (zk_ki kind)) * (zk_sd (zk_ki kind))), .inl (fun _ => -1)))] := hD
    refine lv_aload_n hx hb dX1_place_69 rfl (lv_at hl 1 rfl) ?_
    refine va_get (D := D) (ci := 0) (v := .ref qd) (C := RX1) (T := TX1) (N := 3) hx hb hts in_X1 hown hK hP 0 rfl rfl 1 (by decide) (hts _ q122) (fun _ h9 => h9) rfl dX1_place_70 ?_
    refine zk_Vv CX hP hD hS ([(h, .inr (0, [.ref qw, .ref qd, .int (nI (zk_sd (zk_ki kind)))])), (qw, .inl (tC, 72, .inl w))]) [4, 5, 1, 2] [0, 3] (metX2_place l D tB tC tI _ qd qs qg qb (zk_sd (zk_ki kind)) w (zk_LL (zk_ki kind)) (zk_EE (zk_ki kind)) (by omega) h14 (zk_run hki) hw0) (lw_V q140 q141 q142 q10 q143) 0 1 0 rfl rfl rfl (by decide +kernel) rfl hl.1 rfl (Nat.le_of_ble_eq_true rfl) dX1_place_73 ⟨Nat.le_of_ble_eq_true rfl, Nat.le_of_ble_eq_true rfl⟩ ⟨Nat.le_of_ble_eq_true rfl, Nat.le_of_ble_eq_true rfl⟩ rfl rfl rfl rfl (by decide) (fun _ H locs hw hP hD hS => ?_)
    have hP : va_P D zk_cl [(h, .inr (0, [.ref qw, .ref qd, .int (nI (zk_sd (zk_ki kind)))])), (qw, .inl (tC, 72, .inl w)), (qd, .inr (1, [.ref qs, .int (nI (zk_sd (zk_ki kind))), .int (nI (zk_sd (zk_ki kind))), .ref qb])), (qb, .inl (tB, ((zk_sd (zk_ki kind)) * (zk_sd (zk_ki kind))), .inl (zk_Fin w (zk_sd (zk_ki kind)) (zk_LL (zk_ki kind))))), (qs, .inr (3, [.ref qg, .int 0, .int 0, .int 0])), (qg, .inl (tB, 72, .inl (zk_G w 72)))] H := hP
    have hD : va_D A [(h, .inr (0, [.ref qw, .ref qd, .int (nI (zk_sd (zk_ki kind)))])), (qw, .inl (tC, 72, .inl w)), (qd, .inr (1, [.ref qs, .int (nI (zk_sd (zk_ki kind))), .int (nI (zk_sd (zk_ki kind))), .ref qb])), (qb, .inl (tB, ((zk_sd (zk_ki kind)) * (zk_sd (zk_ki kind))), .inl (zk_Fin w (zk_sd (zk_ki kind)) (zk_LL (zk_ki kind))))), (qs, .inr (3, [.ref qg, .int 0, .int 0, .int 0])), (qg, .inl (tB, 72, .inl (zk_G w 72)))] := hD
    exact zk_vret CX hQ hr hP hD hS (qd, qs, qb) trivial [0, 1, 2, 3] rfl rfl (Nat.le_of_ble_eq_true rfl) (Nat.le_of_ble_eq_true rfl) dX1_place_76
  refine lv_iload_n hx hb dX1_place_5 rfl (lv_at hl 0 rfl) ?_
  refine lv_if_ne (tgt := 14) hx hb dX1_place_6 (by decide) (fun h_ => ?_) (fun h_ => ?_)
  · refine lv_iload_n hx hb dX1_place_14 rfl (lv_at hl 0 rfl) ?_
    refine lv_iconst (v := 1) hx hb dX1_place_15 (by decide) ?_
    refine lv_icmp_ne (tgt := 24) hx hb dX1_place_16 (by decide) (fun h2_ => ?_) (fun h2_ => ?_)
    · refine lv_iload_n hx hb dX1_place_24 rfl (lv_at hl 0 rfl) ?_
      refine lv_iconst (v := 2) hx hb dX1_place_25 (by decide) ?_
      refine lv_icmp_ne (tgt := 34) hx hb dX1_place_26 (by decide) (fun h3_ => ?_) (fun h3_ => ?_)
      · have e0 : zk_ki kind = 3 := by
          have a0 : zk_ki kind ≠ 0 := fun z => h_ (by rw [z]; rfl)
          have a1 : zk_ki kind ≠ 1 := fun z => h2_ (by rw [z]; rfl)
          have a2 : zk_ki kind ≠ 2 := fun z => h3_ (by rw [z]; rfl)
          omega
        refine lv_bipush (v := 14) hx hb dX1_place_34 (by decide) ?_
        exact J36 14 (by rw [hsd, e0]; rfl)
      · have e0 : zk_ki kind = 2 := (nI_eq (b := 2) (by omega) (by omega)).mp h3_
        refine lv_bipush (v := 12) hx hb dX1_place_29 (by decide) ?_
        refine lv_goto (tgt := 36) hx hb dX1_place_31 (by decide) ?_
        exact J36 12 (by rw [hsd, e0]; rfl)
    · have e0 : zk_ki kind = 1 := (nI_eq (b := 1) (by omega) (by omega)).mp h2_
      refine lv_bipush (v := 10) hx hb dX1_place_19 (by decide) ?_
      refine lv_goto (tgt := 36) hx hb dX1_place_21 (by decide) ?_
      exact J36 10 (by rw [hsd, e0]; rfl)
  · have e0 : zk_ki kind = 0 := (nI_eq (b := 0) (by omega) (by omega)).mp h_
    refine lv_bipush (v := 8) hx hb dX1_place_9 (by decide) ?_
    refine lv_goto (tgt := 36) hx hb dX1_place_11 (by decide) ?_
    exact J36 8 (by rw [hsd, e0]; rfl)
end
section
/-! the law's own methods but law -/
set_option maxRecDepth 100000

theorem zk_ab_nI {x : Nat} (h : x < 2 ^ 31) : zk_ab (nI x) = x := by
  unfold zk_ab
  rw [pk_tn (by omega)]
  exact Nat.mod_eq_of_lt h
/-- the script's k-th int, or 0 -/
def zk_ce (xs : Nat → Int32) (L k : Nat) : Int32 := if k < L then xs k else 0

set_option maxHeartbeats 4000000 in
set_option maxRecDepth 100000 in
theorem metX0_bare (l : Launch) (D : va_G) (tB tC tI : ClassId) (sz : Nat) (v : Int32) : zk_Mi l yX0_bare cX0_bare 1 (some .int) 0 0 D tB tC tI [.int v] [] (fun (r : Int32) (_ : Unit) => r = nI (zk_ab v)) (fun (_ : Unit) => []) 0 0 sz := by
  refine zk_openI (by decide) (Nat.le_of_ble_eq_true rfl) (fun p e s m args below meth c ls A Q CX hr hnm hQ hsz hP hD hS hl => ?_)
  obtain ⟨hx, hb, hml, hown, hts, hA, hK, hZ, hlocks⟩ := id CX
  have hown : s.vm.findClass RX0 = some m.cls := hown
  have hl : lv_has ls 1 [(0, .int v)] := hl
  refine lv_iload_n hx hb dX0_bare_0 rfl (lv_at hl 0 rfl) ?_
  refine lv_ldc (v := 2147483647) hx hb hown (hts _ q263) dX0_bare_1 ?_
  refine lv_iand hx hb dX0_bare_3 ?_
  exact zk_iret CX hQ hr rfl hP hD hS () (zk_mx v) [] rfl rfl (Nat.le_of_ble_eq_true rfl) (Nat.le_of_ble_eq_true rfl) dX0_bare_4

set_option maxHeartbeats 4000000 in
set_option maxRecDepth 100000 in
theorem metX0_cell (l : Launch) (b L : Nat) (xs : Nat → Int32) (k : Nat) (sz : Nat) (hL : L ≤ 96) (hk : k < 2 ^ 31) : Met l yX0_cell (ws_ yX0_cell cX0_cell 2 (some .int)) ({ frames := 0, cells := 0, slots := 0, locals := 0 } : Room) (va_Pc [.ref b, .int (nI k)] (fun U => U.heap.size = sz ∧ va_X b L xs U U.heap ∧ b < sz)) (va_Qi (fun (r : Int32) (_ : Unit) => r = zk_ce xs L k) (fun _ _ => True) (va_A [] sz)) 0 0 (va_A [] sz) := by
  refine Met.ofW (cc := cX0_cell) (maxL := 2) (ret := (some .int)) (by decide) rfl ?_
  intro p e s m args below meth c s₁ B hml hv
  obtain ⟨rfl, hsz, hX, hbl⟩ := hv
  have hx := B.exec
  have hb := B.bytes
  have hr := B.returns
  have hlocks := B.notSynchronized
  subst hsz
  have hbA : ¬ va_A [] s.heap.size b := by
    rintro (⟨k, e, h⟩ | h)
    · simp at h
    · omega
  generalize va_A [] s.heap.size = A at hbA ⊢
  have hS : va_S A s.heap s.heap [] := va_S.rf
  have hl := lv_entry ([.ref b, .int (nI k)]) (n := 2) (Nat.le_of_ble_eq_true rfl)
  rw [lg_entry_eq]
  generalize (lg_sl ([.ref b, .int (nI k)]) ++ List.replicate (2 - (lg_sl ([.ref b, .int (nI k)])).length) Slot.unset).toArray = ls at hl ⊢
  have hl : lv_has ls 2 [(0, .ref b), (1, .int (nI k))] := hl
  refine lv_iload_n hx hb dX0_cell_0 rfl (lv_at hl 1 rfl) ?_
  refine lv_aload_n hx hb dX0_cell_1 rfl (lv_at hl 0 rfl) ?_
  refine va_slen hx hb hX hbl hbA hS dX0_cell_2 ?_
  refine lv_icmp_ge (tgt := 18) hx hb dX0_cell_3 (by decide) (fun h_ => ?_) (fun h_ => ?_)
  · have h1 : ¬ k < L := fun q => absurd h_ (Int32.not_le.mpr (nI_lt q (by omega)))
    refine lv_iconst (v := 0) hx hb dX0_cell_18 (by decide) ?_
    exact W.iret hx hb hr (fun t ht hW => ⟨⟨_, (), rfl, (if_neg h1).symm, trivial⟩, hS.F ht⟩) hS.2.2 dX0_cell_19
  · have h1 : k < L := by
      rcases Nat.lt_or_ge k L with q | q
      · exact q
      · exact absurd (nI_le q hk) h_
    refine lv_iload_n hx hb dX0_cell_6 rfl (lv_at hl 1 rfl) ?_
    refine lv_bipush (v := 96) hx hb dX0_cell_7 (by decide) ?_
    refine lv_icmp_ge (tgt := 18) hx hb dX0_cell_9 (by decide) (fun h_ => absurd h_ (Int32.not_le.mpr (nI_lt (b := 96) (by omega) (by omega)))) (fun h_ => ?_)
    refine lv_aload_n hx hb dX0_cell_12 rfl (lv_at hl 0 rfl) ?_
    refine lv_iload_n hx hb dX0_cell_13 rfl (lv_at hl 1 rfl) ?_
    refine va_sld hx hb hX hbl hbA hS (vp_in_nI h1 (by omega)) dX0_cell_14 ?_
    refine lv_goto (tgt := 19) hx hb dX0_cell_15 (by decide) ?_
    exact W.iret hx hb hr (fun t ht hW => ⟨⟨_, (), rfl, by rw [nI_clamp hk]; exact (if_pos h1).symm, trivial⟩, hS.F ht⟩) hS.2.2 dX0_cell_19

section ZKL
variable {p : Program} {l : Launch} {e : Env} {R : Room} {s : State} {m : MethodId} {args : Array Value} {below : List Frame} {meth : Method} {c : Code} {H : Heap} {locs : List Loc} {cells slots : Nat} {Q : State → Prop}
variable {cc : ByteArray} {nL : Nat} {own : String} {A : Nat → Prop} {D : va_G} {tB tC tI : ClassId} {pc : Nat} {ls : Array Slot} {st rest : List Value} {ws : va_W}
/-- a call of cell: the world stays -/
theorem zk_cellc {b L k index : Nat} {xs : Nat → Int32} (CX : zk_C p s m args meth c cc nL own A D tB tC tI) (hX : va_X b L xs s s.heap) (hbl : b < s.heap.size) (hbA : ¬ A b) (hP : va_P D zk_cl ws H) (hD : va_D A ws) (hS : va_S A s.heap H locs) (hg : GoodIn lw_all (va_wsS own index yX0_cell (ws_ yX0_cell cX0_cell 2 (some .int)))) (hL : L ≤ 96) (hk : k < 2 ^ 31) (hsz : ls.size = nL) (hst : st = .int (nI k) :: .ref b :: rest) (hW : (rest.map fun v => v.category).sum ≤ 8) (hdg : decode cc pc = .ok (.invokestatic index, 3)) (hR : 1 ≤ R.frames ∧ 21 ≤ R.locals) (hf : cells ≤ R.cells ∧ slots ≤ R.slots)
    (kk : ∀ (H1 : Heap) (locs1 : List Loc), va_P D zk_cl ws H1 → va_D A ws → va_S A s.heap H1 locs1 → W p l e R s m args below meth c H1 locs1 cells slots Q (F0 m (pc + 3) ls (.int (zk_ce xs L k) :: rest))) : W p l e R s m args below meth c H locs cells slots Q (F0 m pc ls st) := by
  have hFc : ∀ q, va_A [] H.size q → A q := va_free hD hS CX.2.2.2.2.2.1 [] rfl
  have hbH : b < H.size := Nat.lt_of_lt_of_le hbl hS.1
  refine va_calli (va_runS (As := [.ref b, .int (nI k)]) (rest := rest) ⟨CX.1, CX.2.1, CX.2.2.1, CX.2.2.2.1, CX.2.2.2.2.1⟩ (metX0_cell l b L xs k H.size hL hk) (va_cwS 2 CX.2.2.2.2.1 hg rfl rfl rfl (by decide +kernel) hR) ⟨fun a U g mk q => ⟨q.1, q.2.1, va_X.moved (u := U) (U := U.calling g mk a) (Vm.Alike.refl U.vm) q.2.2.1, q.2.2.2⟩, fun U hU hW9 => ⟨rfl, by rw [hU], by rw [hU]; exact (hX.kept (hS.2.1 b hbl hbA)).moved hW9.alike, hbH⟩⟩ rfl rfl hsz hst (lv_room hW) hdg hf) hS (fun q _ h => hFc q h) hFc (fun r u t H1 locs1 ht hvm hw hB hz1 hk1 hS1 => ?_)
  have hw : r = zk_ce xs L k := hw
  subst hw
  refine kk H1 locs1 (hP.kept (fun i q hi => ?_)) hD hS1
  have hlt := (hP i q hi).lt
  exact hk1 q.1 hlt (fun z => by
    rcases z with ⟨a, b, h⟩ | h
    · simp at h
    · omega)
end ZKL

set_option maxHeartbeats 4000000 in
set_option maxRecDepth 100000 in
theorem metX0_isLaid (l : Launch) (D : va_G) (tB tC tI : ClassId) (sz : Nat) (d qw qd qs qb q qa qx sd : Nat) (fb ft w : Nat → Int32) (any other : Int32) (hs : 0 < sd) (h14 : sd ≤ 14) (hrel : ∀ y x, y < sd → x < sd → (if fb (y * sd + x) = 1 then (1 : Int32) else 0) = zk_dk (nI sd) ft w (nI y) (nI x)) (hT : ∀ j, ft j < 0 ∨ vp_in (ft j >>> ((3 : Int32) &&& 31)) 72) : zk_Mi l yX0_isLaid cX0_isLaid 7 (some .boolean) 2 44 D tB tC tI [.ref d, .ref q, .ref qx, .int any, .int other] [(d, .inr (0, [.ref qw, .ref qd, .int (nI sd)])), (qd, .inr (1, [.ref qs, .int (nI sd), .int (nI sd), .ref qb])), (qb, .inl (tB, (sd * sd), .inl fb)), (q, .inr (2, [.int (nI sd), .ref qa])), (qa, .inl (tI, (sd * sd), .inl ft)), (qx, .inl (tI, 72, .inl w))] (fun (r : Int32) (_ : Unit) => r = 1) (fun (_ : Unit) => [(d, .inr (0, [.ref qw, .ref qd, .int (nI sd)])), (qd, .inr (1, [.ref qs, .int (nI sd), .int (nI sd), .ref qb])), (qb, .inl (tB, (sd * sd), .inl fb)), (q, .inr (2, [.int (nI sd), .ref qa])), (qa, .inl (tI, (sd * sd), .inl ft)), (qx, .inl (tI, 72, .inl w))]) 0 0 sz := by
  refine zk_openI (by decide) (Nat.le_of_ble_eq_true rfl) (fun p e s m args below meth c ls A Q CX hr hnm hQ hsz hP hD hS hl => ?_)
  obtain ⟨hx, hb, hml, hown, hts, hA, hK, hZ, hlocks⟩ := id CX
  have hown : s.vm.findClass RX0 = some m.cls := hown
  have hl : lv_has ls 7 [(0, .ref d), (1, .ref q), (2, .ref qx), (3, .int any), (4, .int other)] := hl
  have hss : sd * sd ≤ 196 := Nat.mul_le_mul h14 h14
  have hs1 : sd ≤ sd * sd := Nat.le_mul_of_pos_left sd hs
  have h2 : vp_in (nI sd * nI sd - 1) (sd * sd) := by rw [pk_mul, show (1 : Int32) = nI 1 from rfl, pk_sub (by omega)]; exact vp_in_nI (by omega) (by omega)
  have h1 : ∀ y x, y < sd → x < sd → vp_in (nI sd * nI y + nI x) (sd * sd) := fun y x hy hx0 => zk_inr h14 (nI_pos' (by omega)) (nI_lt hy (by omega)) (nI_pos' (by omega)) (nI_lt hx0 (by omega))
  refine lv_aload_n hx hb dX0_isLaid_0 rfl (lv_at hl 0 rfl) ?_
  refine zk_Vi CX hP hD hS ([(qd, .inr (1, [.ref qs, .int (nI sd), .int (nI sd), .ref qb])), (qb, .inl (tB, (sd * sd), .inl fb)), (q, .inr (2, [.int (nI sd), .ref qa])), (qa, .inl (tI, (sd * sd), .inl ft)), (qx, .inl (tI, 72, .inl w))]) [0] [1, 2, 3, 4, 5] (metX1_side l D tB tC tI _ d qw qd (nI sd)) (lw_V q214 q215 q216 q9 q217) 0 0 0 rfl rfl rfl (by decide +kernel) rfl hl.1 rfl (Nat.le_of_ble_eq_true rfl) dX0_isLaid_1 ⟨Nat.le_of_ble_eq_true rfl, Nat.le_of_ble_eq_true rfl⟩ ⟨Nat.le_of_ble_eq_true rfl, Nat.le_of_ble_eq_true rfl⟩ rfl rfl rfl rfl (by decide) (fun r_0 _ H locs hw0 hP hD hS => ?_)
  have hP : va_P D zk_cl [(qd, .inr (1, [.ref qs, .int (nI sd), .int (nI sd), .ref qb])), (qb, .inl (tB, (sd * sd), .inl fb)), (q, .inr (2, [.int (nI sd), .ref qa])), (qa, .inl (tI, (sd * sd), .inl ft)), (qx, .inl (tI, 72, .inl w)), (d, .inr (0, [.ref qw, .ref qd, .int (nI sd)]))] H := hP
  have hD : va_D A [(qd, .inr (1, [.ref qs, .int (nI sd), .int (nI sd), .ref qb])), (qb, .inl (tB, (sd * sd), .inl fb)), (q, .inr (2, [.int (nI sd), .ref qa])), (qa, .inl (tI, (sd * sd), .inl ft)), (qx, .inl (tI, 72, .inl w)), (d, .inr (0, [.ref qw, .ref qd, .int (nI sd)]))] := hD
  subst hw0
  have hP := hP.sub (ws' := [(d, .inr (0, [.ref qw, .ref qd, .int (nI sd)])), (qd, .inr (1, [.ref qs, .int (nI sd), .int (nI sd), .ref qb])), (qb, .inl (tB, (sd * sd), .inl fb)), (q, .inr (2, [.int (nI sd), .ref qa])), (qa, .inl (tI, (sd * sd), .inl ft)), (qx, .inl (tI, 72, .inl w))]) [5, 0, 1, 2, 3, 4] rfl
  have hD := hD.sub (ws' := [(d, .inr (0, [.ref qw, .ref qd, .int (nI sd)])), (qd, .inr (1, [.ref qs, .int (nI sd), .int (nI sd), .ref qb])), (qb, .inl (tB, (sd * sd), .inl fb)), (q, .inr (2, [.int (nI sd), .ref qa])), (qa, .inl (tI, (sd * sd), .inl ft)), (qx, .inl (tI, 72, .inl w))]) [5, 0, 1, 2, 3, 4] (by decide) rfl
  refine lv_aload_n hx hb dX0_isLaid_4 rfl (lv_at hl 1 rfl) ?_
  refine va_get (D := D) (ci := 2) (v := .int (nI sd)) (C := RX3) (T := TX3) (N := 2) hx hb hts in_X3 hown hK hP 3 rfl rfl 0 (by decide) (hts _ q225) (fun _ h9 => h9) rfl dX0_isLaid_5 ?_
  refine lv_icmp_eq (tgt := 13) hx hb dX0_isLaid_8 (by decide) (fun h_ => ?_) (fun h_ => absurd rfl h_)
  refine lv_iconst (v := 0) hx hb dX0_isLaid_13 (by decide) ?_
  refine lv_istore (lv' := [(5, .int 0), (0, .ref d), (1, .ref q), (2, .ref qx), (3, .int any), (4, .int other)]) hx hb dX0_isLaid_14 hl (by decide) rfl (fun ls hl => ?_)
  have END : ∀ (x5 : Int32) (H : Heap) (locs : List Loc) (ls : Array Slot), va_P D zk_cl [(d, .inr (0, [.ref qw, .ref qd, .int (nI sd)])), (qd, .inr (1, [.ref qs, .int (nI sd), .int (nI sd), .ref qb])), (qb, .inl (tB, (sd * sd), .inl fb)), (q, .inr (2, [.int (nI sd), .ref qa])), (qa, .inl (tI, (sd * sd), .inl ft)), (qx, .inl (tI, 72, .inl w))] H → va_D A [(d, .inr (0, [.ref qw, .ref qd, .int (nI sd)])), (qd, .inr (1, [.ref qs, .int (nI sd), .int (nI sd), .ref qb])), (qb, .inl (tB, (sd * sd), .inl fb)), (q, .inr (2, [.int (nI sd), .ref qa])), (qa, .inl (tI, (sd * sd), .inl ft)), (qx, .inl (tI, 72, .inl w))] → va_S A s.heap H locs → lv_has ls 7 [(5, .int x5), (0, .ref d), (1, .ref q), (2, .ref qx), (3, .int any), (4, .int other)] → W p l e ({ frames := 2, cells := 0, slots := 0, locals := 44 } : Room) s m args below meth c H locs 0 0 Q (F0 m 71 ls []) := by
    intro x5 H locs ls hP hD hS hl
    have hy := Nat.mod_lt (zk_ab other) hs
    have hx0 := Nat.mod_lt (zk_ab any) hs
    refine lv_aload_n hx hb dX0_isLaid_71 rfl (lv_at hl 1 rfl) ?_
    refine lv_iload_n hx hb dX0_isLaid_72 rfl (lv_at hl 4 rfl) ?_
    refine lv_iload hx hb dX0_isLaid_73 (lv_at hl 5 rfl) ?_
    refine zk_Vi CX hP hD hS ([(q, .inr (2, [.int (nI sd), .ref qa])), (qa, .inl (tI, (sd * sd), .inl ft)), (qx, .inl (tI, 72, .inl w))]) [0, 1, 2] [3, 4, 5] (metX1_bit l D tB tC tI _ d qw qd qs qb sd any other fb hs h14) (lw_V q206 q207 q208 q9 q209) 2 0 0 rfl rfl rfl (by decide +kernel) rfl hl.1 rfl (Nat.le_of_ble_eq_true rfl) dX0_isLaid_75 ⟨Nat.le_of_ble_eq_true rfl, Nat.le_of_ble_eq_true rfl⟩ ⟨Nat.le_of_ble_eq_true rfl, Nat.le_of_ble_eq_true rfl⟩ rfl rfl rfl rfl (by decide) (fun r_1 _ H locs hw1 hP hD hS => ?_)
    have hP : va_P D zk_cl [(q, .inr (2, [.int (nI sd), .ref qa])), (qa, .inl (tI, (sd * sd), .inl ft)), (qx, .inl (tI, 72, .inl w)), (d, .inr (0, [.ref qw, .ref qd, .int (nI sd)])), (qd, .inr (1, [.ref qs, .int (nI sd), .int (nI sd), .ref qb])), (qb, .inl (tB, (sd * sd), .inl fb))] H := hP
    have hD : va_D A [(q, .inr (2, [.int (nI sd), .ref qa])), (qa, .inl (tI, (sd * sd), .inl ft)), (qx, .inl (tI, 72, .inl w)), (d, .inr (0, [.ref qw, .ref qd, .int (nI sd)])), (qd, .inr (1, [.ref qs, .int (nI sd), .int (nI sd), .ref qb])), (qb, .inl (tB, (sd * sd), .inl fb))] := hD
    have hP := hP.sub (ws' := [(d, .inr (0, [.ref qw, .ref qd, .int (nI sd)])), (qd, .inr (1, [.ref qs, .int (nI sd), .int (nI sd), .ref qb])), (qb, .inl (tB, (sd * sd), .inl fb)), (q, .inr (2, [.int (nI sd), .ref qa])), (qa, .inl (tI, (sd * sd), .inl ft)), (qx, .inl (tI, 72, .inl w))]) [3, 4, 5, 0, 1, 2] rfl
    have hD := hD.sub (ws' := [(d, .inr (0, [.ref qw, .ref qd, .int (nI sd)])), (qd, .inr (1, [.ref qs, .int (nI sd), .int (nI sd), .ref qb])), (qb, .inl (tB, (sd * sd), .inl fb)), (q, .inr (2, [.int (nI sd), .ref qa])), (qa, .inl (tI, (sd * sd), .inl ft)), (qx, .inl (tI, 72, .inl w))]) [3, 4, 5, 0, 1, 2] (by decide) rfl
    rw [hrel _ _ hy hx0] at hw1
    refine lv_aload_n hx hb dX0_isLaid_78 rfl (lv_at hl 2 rfl) ?_
    refine lv_iload hx hb dX0_isLaid_79 (lv_at hl 5 rfl) ?_
    refine zk_Si CX hP hD hS ([(d, .inr (0, [.ref qw, .ref qd, .int (nI sd)])), (qd, .inr (1, [.ref qs, .int (nI sd), .int (nI sd), .ref qb])), (qb, .inl (tB, (sd * sd), .inl fb)), (q, .inr (2, [.int (nI sd), .ref qa])), (qa, .inl (tI, (sd * sd), .inl ft)), (qx, .inl (tI, 72, .inl w))]) [] [0, 1, 2, 3, 4, 5] (metX0_bare l D tB tC tI _ other) (lw_S q260 q261 q8 q262) 1 (by decide +kernel) rfl hl.1 rfl (Nat.le_of_ble_eq_true rfl) dX0_isLaid_81 ⟨Nat.le_of_ble_eq_true rfl, Nat.le_of_ble_eq_true rfl⟩ ⟨Nat.le_of_ble_eq_true rfl, Nat.le_of_ble_eq_true rfl⟩ rfl rfl rfl rfl (by decide) (fun r_2 _ H locs hw2 hP hD hS => ?_)
    have hP : va_P D zk_cl [(d, .inr (0, [.ref qw, .ref qd, .int (nI sd)])), (qd, .inr (1, [.ref qs, .int (nI sd), .int (nI sd), .ref qb])), (qb, .inl (tB, (sd * sd), .inl fb)), (q, .inr (2, [.int (nI sd), .ref qa])), (qa, .inl (tI, (sd * sd), .inl ft)), (qx, .inl (tI, 72, .inl w))] H := hP
    have hD : va_D A [(d, .inr (0, [.ref qw, .ref qd, .int (nI sd)])), (qd, .inr (1, [.ref qs, .int (nI sd), .int (nI sd), .ref qb])), (qb, .inl (tB, (sd * sd), .inl fb)), (q, .inr (2, [.int (nI sd), .ref qa])), (qa, .inl (tI, (sd * sd), .inl ft)), (qx, .inl (tI, 72, .inl w))] := hD
    subst hw2
    refine lv_aload_n hx hb dX0_isLaid_84 rfl (lv_at hl 2 rfl) ?_
    refine va_get (D := D) (ci := 2) (v := .int (nI sd)) (C := RX3) (T := TX3) (N := 2) hx hb hts in_X3 hown hK hP 3 rfl rfl 0 (by decide) (hts _ q225) (fun _ h9 => h9) rfl dX0_isLaid_85 ?_
    refine lv_irem hx hb dX0_isLaid_88 (nI_ne0 hs (by omega)) ?_
    refine lv_topi (fun t_1 et_1 => ?_)
    have et_1 : t_1 = nI (zk_ab other % sd) := et_1.trans (pk_rem (zk_ab_lt other) hs (by omega))
    subst et_1
    refine lv_iload_n hx hb dX0_isLaid_89 rfl (lv_at hl 4 rfl) ?_
    refine zk_Si CX hP hD hS ([(d, .inr (0, [.ref qw, .ref qd, .int (nI sd)])), (qd, .inr (1, [.ref qs, .int (nI sd), .int (nI sd), .ref qb])), (qb, .inl (tB, (sd * sd), .inl fb)), (q, .inr (2, [.int (nI sd), .ref qa])), (qa, .inl (tI, (sd * sd), .inl ft)), (qx, .inl (tI, 72, .inl w))]) [] [0, 1, 2, 3, 4, 5] (metX0_bare l D tB tC tI _ any) (lw_S q260 q261 q8 q262) 1 (by decide +kernel) rfl hl.1 rfl (Nat.le_of_ble_eq_true rfl) dX0_isLaid_90 ⟨Nat.le_of_ble_eq_true rfl, Nat.le_of_ble_eq_true rfl⟩ ⟨Nat.le_of_ble_eq_true rfl, Nat.le_of_ble_eq_true rfl⟩ rfl rfl rfl rfl (by decide) (fun r_3 _ H locs hw3 hP hD hS => ?_)
    have hP : va_P D zk_cl [(d, .inr (0, [.ref qw, .ref qd, .int (nI sd)])), (qd, .inr (1, [.ref qs, .int (nI sd), .int (nI sd), .ref qb])), (qb, .inl (tB, (sd * sd), .inl fb)), (q, .inr (2, [.int (nI sd), .ref qa])), (qa, .inl (tI, (sd * sd), .inl ft)), (qx, .inl (tI, 72, .inl w))] H := hP
    have hD : va_D A [(d, .inr (0, [.ref qw, .ref qd, .int (nI sd)])), (qd, .inr (1, [.ref qs, .int (nI sd), .int (nI sd), .ref qb])), (qb, .inl (tB, (sd * sd), .inl fb)), (q, .inr (2, [.int (nI sd), .ref qa])), (qa, .inl (tI, (sd * sd), .inl ft)), (qx, .inl (tI, 72, .inl w))] := hD
    subst hw3
    refine lv_aload_n hx hb dX0_isLaid_93 rfl (lv_at hl 2 rfl) ?_
    refine va_get (D := D) (ci := 2) (v := .int (nI sd)) (C := RX3) (T := TX3) (N := 2) hx hb hts in_X3 hown hK hP 3 rfl rfl 0 (by decide) (hts _ q225) (fun _ h9 => h9) rfl dX0_isLaid_94 ?_
    refine lv_irem hx hb dX0_isLaid_97 (nI_ne0 hs (by omega)) ?_
    refine lv_topi (fun t_2 et_2 => ?_)
    have et_2 : t_2 = nI (zk_ab any % sd) := et_2.trans (pk_rem (zk_ab_lt any) hs (by omega))
    subst et_2
    refine lv_aload_n hx hb dX0_isLaid_98 rfl (lv_at hl 3 rfl) ?_
    refine zk_Vi CX hP hD hS ([(d, .inr (0, [.ref qw, .ref qd, .int (nI sd)])), (qd, .inr (1, [.ref qs, .int (nI sd), .int (nI sd), .ref qb])), (qb, .inl (tB, (sd * sd), .inl fb))]) [3, 4, 5] [0, 1, 2] (metX3_isDark l D tB tC tI _ q qa qx (nI sd) (sd * sd) ft w (nI (zk_ab other % sd)) (nI (zk_ab any % sd)) (h1 _ _ hy hx0) h2 (hT _)) (lw_V q267 q268 q269 q15 q270) 3 2 0 rfl rfl rfl (by decide +kernel) rfl hl.1 rfl (Nat.le_of_ble_eq_true rfl) dX0_isLaid_99 ⟨Nat.le_of_ble_eq_true rfl, Nat.le_of_ble_eq_true rfl⟩ ⟨Nat.le_of_ble_eq_true rfl, Nat.le_of_ble_eq_true rfl⟩ rfl rfl rfl rfl (by decide) (fun r_4 _ H locs hw4 hP hD hS => ?_)
    have hP : va_P D zk_cl [(d, .inr (0, [.ref qw, .ref qd, .int (nI sd)])), (qd, .inr (1, [.ref qs, .int (nI sd), .int (nI sd), .ref qb])), (qb, .inl (tB, (sd * sd), .inl fb)), (q, .inr (2, [.int (nI sd), .ref qa])), (qa, .inl (tI, (sd * sd), .inl ft)), (qx, .inl (tI, 72, .inl w))] H := hP
    have hD : va_D A [(d, .inr (0, [.ref qw, .ref qd, .int (nI sd)])), (qd, .inr (1, [.ref qs, .int (nI sd), .int (nI sd), .ref qb])), (qb, .inl (tB, (sd * sd), .inl fb)), (q, .inr (2, [.int (nI sd), .ref qa])), (qa, .inl (tI, (sd * sd), .inl ft)), (qx, .inl (tI, 72, .inl w))] := hD
    refine lv_icmp_ne (tgt := 109) hx hb dX0_isLaid_102 (by decide) (fun h_ => absurd (hw1.trans hw4.symm) h_) (fun h_ => ?_)
    refine lv_iconst (v := 1) hx hb dX0_isLaid_105 (by decide) ?_
    refine lv_goto (tgt := 110) hx hb dX0_isLaid_106 (by decide) ?_
    exact zk_iret CX hQ hr rfl hP hD hS () rfl [0, 1, 2, 3, 4, 5] rfl rfl (Nat.le_of_ble_eq_true rfl) (Nat.le_of_ble_eq_true rfl) dX0_isLaid_110
  have INNER : ∀ (yy : Nat) (x5 : Int32), yy < sd → x5 = nI yy → (∀ (H : Heap) (locs : List Loc) (ls : Array Slot), va_P D zk_cl [(d, .inr (0, [.ref qw, .ref qd, .int (nI sd)])), (qd, .inr (1, [.ref qs, .int (nI sd), .int (nI sd), .ref qb])), (qb, .inl (tB, (sd * sd), .inl fb)), (q, .inr (2, [.int (nI sd), .ref qa])), (qa, .inl (tI, (sd * sd), .inl ft)), (qx, .inl (tI, 72, .inl w))] H → va_D A [(d, .inr (0, [.ref qw, .ref qd, .int (nI sd)])), (qd, .inr (1, [.ref qs, .int (nI sd), .int (nI sd), .ref qb])), (qb, .inl (tB, (sd * sd), .inl fb)), (q, .inr (2, [.int (nI sd), .ref qa])), (qa, .inl (tI, (sd * sd), .inl ft)), (qx, .inl (tI, 72, .inl w))] → va_S A s.heap H locs → lv_has ls 7 [(5, .int x5), (0, .ref d), (1, .ref q), (2, .ref qx), (3, .int any), (4, .int other)] → W p l e ({ frames := 2, cells := 0, slots := 0, locals := 44 } : Room) s m args below meth c H locs 0 0 Q (F0 m 65 ls [])) → ∀ (k xx : Nat) (x6 : Int32) (H : Heap) (locs : List Loc) (ls : Array Slot), sd ≤ xx + k → xx ≤ sd → x6 = nI xx → va_P D zk_cl [(d, .inr (0, [.ref qw, .ref qd, .int (nI sd)])), (qd, .inr (1, [.ref qs, .int (nI sd), .int (nI sd), .ref qb])), (qb, .inl (tB, (sd * sd), .inl fb)), (q, .inr (2, [.int (nI sd), .ref qa])), (qa, .inl (tI, (sd * sd), .inl ft)), (qx, .inl (tI, 72, .inl w))] H → va_D A [(d, .inr (0, [.ref qw, .ref qd, .int (nI sd)])), (qd, .inr (1, [.ref qs, .int (nI sd), .int (nI sd), .ref qb])), (qb, .inl (tB, (sd * sd), .inl fb)), (q, .inr (2, [.int (nI sd), .ref qa])), (qa, .inl (tI, (sd * sd), .inl ft)), (qx, .inl (tI, 72, .inl w))] → va_S A s.heap H locs → lv_has ls 7 [(6, .int x6), (5, .int x5), (0, .ref d), (1, .ref q), (2, .ref qx), (3, .int any), (4, .int other)] → W p l e ({ frames := 2, cells := 0, slots := 0, locals := 44 } : Room) s m args below meth c H locs 0 0 Q (F0 m 28 ls []) := by
    intro yy x5 hyy e5 K65 k
    induction k with
    | zero =>
      intro xx x6 H locs ls hk hi e6 hP hD hS hl
      refine lv_iload hx hb dX0_isLaid_28 (lv_at hl 0 rfl) ?_
      refine lv_aload_n hx hb dX0_isLaid_30 rfl (lv_at hl 3 rfl) ?_
      refine va_get (D := D) (ci := 2) (v := .int (nI sd)) (C := RX3) (T := TX3) (N := 2) hx hb hts in_X3 hown hK hP 3 rfl rfl 0 (by decide) (hts _ q225) (fun _ h9 => h9) rfl dX0_isLaid_31 ?_
      refine lv_icmp_ge (tgt := 65) hx hb dX0_isLaid_34 (by decide) (fun h_ => ?_) (fun h_ => ?_)
      · exact K65 H locs ls hP hD hS (lv_sub hl [1, 2, 3, 4, 5, 6] rfl)
      · exact absurd (by rw [e6]; exact nI_le (by omega) (by omega)) h_
    | succ k ih =>
      intro xx x6 H locs ls hk hi e6 hP hD hS hl
      refine lv_iload hx hb dX0_isLaid_28 (lv_at hl 0 rfl) ?_
      refine lv_aload_n hx hb dX0_isLaid_30 rfl (lv_at hl 3 rfl) ?_
      refine va_get (D := D) (ci := 2) (v := .int (nI sd)) (C := RX3) (T := TX3) (N := 2) hx hb hts in_X3 hown hK hP 3 rfl rfl 0 (by decide) (hts _ q225) (fun _ h9 => h9) rfl dX0_isLaid_31 ?_
      refine lv_icmp_ge (tgt := 65) hx hb dX0_isLaid_34 (by decide) (fun h_ => ?_) (fun h_ => ?_)
      · exact K65 H locs ls hP hD hS (lv_sub hl [1, 2, 3, 4, 5, 6] rfl)
      · have hlt : xx < sd := by
          rcases Nat.lt_or_ge xx sd with q | q
          · exact q
          · exact absurd (by rw [e6]; exact nI_le q (by omega)) h_
        refine lv_aload_n hx hb dX0_isLaid_37 rfl (lv_at hl 2 rfl) ?_
        refine lv_iload hx hb dX0_isLaid_38 (lv_at hl 0 rfl) ?_
        refine lv_iload hx hb dX0_isLaid_40 (lv_at hl 1 rfl) ?_
        refine zk_Vi CX hP hD hS ([(q, .inr (2, [.int (nI sd), .ref qa])), (qa, .inl (tI, (sd * sd), .inl ft)), (qx, .inl (tI, 72, .inl w))]) [0, 1, 2] [3, 4, 5] (metX1_bit l D tB tC tI _ d qw qd qs qb sd x6 x5 fb hs h14) (lw_V q206 q207 q208 q9 q209) 2 0 0 rfl rfl rfl (by decide +kernel) rfl hl.1 rfl (Nat.le_of_ble_eq_true rfl) dX0_isLaid_42 ⟨Nat.le_of_ble_eq_true rfl, Nat.le_of_ble_eq_true rfl⟩ ⟨Nat.le_of_ble_eq_true rfl, Nat.le_of_ble_eq_true rfl⟩ rfl rfl rfl rfl (by decide) (fun r_1 _ H locs hw1 hP hD hS => ?_)
        have hP : va_P D zk_cl [(q, .inr (2, [.int (nI sd), .ref qa])), (qa, .inl (tI, (sd * sd), .inl ft)), (qx, .inl (tI, 72, .inl w)), (d, .inr (0, [.ref qw, .ref qd, .int (nI sd)])), (qd, .inr (1, [.ref qs, .int (nI sd), .int (nI sd), .ref qb])), (qb, .inl (tB, (sd * sd), .inl fb))] H := hP
        have hD : va_D A [(q, .inr (2, [.int (nI sd), .ref qa])), (qa, .inl (tI, (sd * sd), .inl ft)), (qx, .inl (tI, 72, .inl w)), (d, .inr (0, [.ref qw, .ref qd, .int (nI sd)])), (qd, .inr (1, [.ref qs, .int (nI sd), .int (nI sd), .ref qb])), (qb, .inl (tB, (sd * sd), .inl fb))] := hD
        have hP := hP.sub (ws' := [(d, .inr (0, [.ref qw, .ref qd, .int (nI sd)])), (qd, .inr (1, [.ref qs, .int (nI sd), .int (nI sd), .ref qb])), (qb, .inl (tB, (sd * sd), .inl fb)), (q, .inr (2, [.int (nI sd), .ref qa])), (qa, .inl (tI, (sd * sd), .inl ft)), (qx, .inl (tI, 72, .inl w))]) [3, 4, 5, 0, 1, 2] rfl
        have hD := hD.sub (ws' := [(d, .inr (0, [.ref qw, .ref qd, .int (nI sd)])), (qd, .inr (1, [.ref qs, .int (nI sd), .int (nI sd), .ref qb])), (qb, .inl (tB, (sd * sd), .inl fb)), (q, .inr (2, [.int (nI sd), .ref qa])), (qa, .inl (tI, (sd * sd), .inl ft)), (qx, .inl (tI, 72, .inl w))]) [3, 4, 5, 0, 1, 2] (by decide) rfl
        rw [e5, e6, zk_ab_nI (by omega), zk_ab_nI (by omega), Nat.mod_eq_of_lt hyy, Nat.mod_eq_of_lt hlt, hrel yy xx hyy hlt] at hw1
        refine lv_aload_n hx hb dX0_isLaid_45 rfl (lv_at hl 3 rfl) ?_
        refine lv_iload hx hb dX0_isLaid_46 (lv_at hl 1 rfl) ?_
        refine lv_iload hx hb dX0_isLaid_48 (lv_at hl 0 rfl) ?_
        refine lv_aload_n hx hb dX0_isLaid_50 rfl (lv_at hl 4 rfl) ?_
        refine zk_Vi CX hP hD hS ([(d, .inr (0, [.ref qw, .ref qd, .int (nI sd)])), (qd, .inr (1, [.ref qs, .int (nI sd), .int (nI sd), .ref qb])), (qb, .inl (tB, (sd * sd), .inl fb))]) [3, 4, 5] [0, 1, 2] (metX3_isDark l D tB tC tI _ q qa qx (nI sd) (sd * sd) ft w x5 x6 (by rw [e5, e6]; exact h1 yy xx hyy hlt) h2 (hT _)) (lw_V q267 q268 q269 q15 q270) 3 2 0 rfl rfl rfl (by decide +kernel) rfl hl.1 rfl (Nat.le_of_ble_eq_true rfl) dX0_isLaid_51 ⟨Nat.le_of_ble_eq_true rfl, Nat.le_of_ble_eq_true rfl⟩ ⟨Nat.le_of_ble_eq_true rfl, Nat.le_of_ble_eq_true rfl⟩ rfl rfl rfl rfl (by decide) (fun r_2 _ H locs hw2 hP hD hS => ?_)
        have hP : va_P D zk_cl [(d, .inr (0, [.ref qw, .ref qd, .int (nI sd)])), (qd, .inr (1, [.ref qs, .int (nI sd), .int (nI sd), .ref qb])), (qb, .inl (tB, (sd * sd), .inl fb)), (q, .inr (2, [.int (nI sd), .ref qa])), (qa, .inl (tI, (sd * sd), .inl ft)), (qx, .inl (tI, 72, .inl w))] H := hP
        have hD : va_D A [(d, .inr (0, [.ref qw, .ref qd, .int (nI sd)])), (qd, .inr (1, [.ref qs, .int (nI sd), .int (nI sd), .ref qb])), (qb, .inl (tB, (sd * sd), .inl fb)), (q, .inr (2, [.int (nI sd), .ref qa])), (qa, .inl (tI, (sd * sd), .inl ft)), (qx, .inl (tI, 72, .inl w))] := hD
        rw [e5, e6] at hw2
        refine lv_icmp_eq (tgt := 59) hx hb dX0_isLaid_54 (by decide) (fun h_ => ?_) (fun h_ => absurd (hw1.trans hw2.symm) h_)
        refine lv_iinc (v := x6 + 1) (lv' := [(6, .int (x6 + 1)), (5, .int x5), (0, .ref d), (1, .ref q), (2, .ref qx), (3, .int any), (4, .int other)]) hx hb dX0_isLaid_59 hl (k := 0) rfl rfl (by decide) rfl (fun ls hl => ?_)
        refine lv_goto (tgt := 28) hx hb dX0_isLaid_62 (by decide) ?_
        exact ih (xx + 1) (x6 + 1) _ _ _ (by omega) (by omega) (by rw [e6]; exact nI_1 xx) hP hD hS (lv_sub hl [0, 1, 2, 3, 4, 5, 6] rfl)
  have OUTER : ∀ (k yy : Nat) (x5 : Int32) (H : Heap) (locs : List Loc) (ls : Array Slot), sd ≤ yy + k → yy ≤ sd → x5 = nI yy → va_P D zk_cl [(d, .inr (0, [.ref qw, .ref qd, .int (nI sd)])), (qd, .inr (1, [.ref qs, .int (nI sd), .int (nI sd), .ref qb])), (qb, .inl (tB, (sd * sd), .inl fb)), (q, .inr (2, [.int (nI sd), .ref qa])), (qa, .inl (tI, (sd * sd), .inl ft)), (qx, .inl (tI, 72, .inl w))] H → va_D A [(d, .inr (0, [.ref qw, .ref qd, .int (nI sd)])), (qd, .inr (1, [.ref qs, .int (nI sd), .int (nI sd), .ref qb])), (qb, .inl (tB, (sd * sd), .inl fb)), (q, .inr (2, [.int (nI sd), .ref qa])), (qa, .inl (tI, (sd * sd), .inl ft)), (qx, .inl (tI, 72, .inl w))] → va_S A s.heap H locs → lv_has ls 7 [(5, .int x5), (0, .ref d), (1, .ref q), (2, .ref qx), (3, .int any), (4, .int other)] → W p l e ({ frames := 2, cells := 0, slots := 0, locals := 44 } : Room) s m args below meth c H locs 0 0 Q (F0 m 16 ls []) := by
    intro k
    induction k with
    | zero =>
      intro yy x5 H locs ls hk hi e5 hP hD hS hl
      refine lv_iload hx hb dX0_isLaid_16 (lv_at hl 0 rfl) ?_
      refine lv_aload_n hx hb dX0_isLaid_18 rfl (lv_at hl 2 rfl) ?_
      refine va_get (D := D) (ci := 2) (v := .int (nI sd)) (C := RX3) (T := TX3) (N := 2) hx hb hts in_X3 hown hK hP 3 rfl rfl 0 (by decide) (hts _ q225) (fun _ h9 => h9) rfl dX0_isLaid_19 ?_
      refine lv_icmp_ge (tgt := 71) hx hb dX0_isLaid_22 (by decide) (fun h_ => ?_) (fun h_ => ?_)
      · exact END x5 H locs ls hP hD hS (lv_sub hl [0, 1, 2, 3, 4, 5] rfl)
      · exact absurd (by rw [e5]; exact nI_le (by omega) (by omega)) h_
    | succ k ih =>
      intro yy x5 H locs ls hk hi e5 hP hD hS hl
      refine lv_iload hx hb dX0_isLaid_16 (lv_at hl 0 rfl) ?_
      refine lv_aload_n hx hb dX0_isLaid_18 rfl (lv_at hl 2 rfl) ?_
      refine va_get (D := D) (ci := 2) (v := .int (nI sd)) (C := RX3) (T := TX3) (N := 2) hx hb hts in_X3 hown hK hP 3 rfl rfl 0 (by decide) (hts _ q225) (fun _ h9 => h9) rfl dX0_isLaid_19 ?_
      refine lv_icmp_ge (tgt := 71) hx hb dX0_isLaid_22 (by decide) (fun h_ => ?_) (fun h_ => ?_)
      · exact END x5 H locs ls hP hD hS (lv_sub hl [0, 1, 2, 3, 4, 5] rfl)
      · have hlt : yy < sd := by
          rcases Nat.lt_or_ge yy sd with q | q
          · exact q
          · exact absurd (by rw [e5]; exact nI_le q (by omega)) h_
        refine lv_iconst (v := 0) hx hb dX0_isLaid_25 (by decide) ?_
        refine lv_istore (lv' := [(6, .int 0), (5, .int x5), (0, .ref d), (1, .ref q), (2, .ref qx), (3, .int any), (4, .int other)]) hx hb dX0_isLaid_26 hl (by decide) rfl (fun ls hl => ?_)
        refine INNER yy x5 hlt e5 (fun H locs ls hP hD hS hl => ?_) sd 0 0 _ _ _ (by omega) (by omega) nI_0.symm hP hD hS (lv_sub hl [0, 1, 2, 3, 4, 5, 6] rfl)
        refine lv_iinc (v := x5 + 1) (lv' := [(5, .int (x5 + 1)), (0, .ref d), (1, .ref q), (2, .ref qx), (3, .int any), (4, .int other)]) hx hb dX0_isLaid_65 hl (k := 0) rfl rfl (by decide) rfl (fun ls hl => ?_)
        refine lv_goto (tgt := 16) hx hb dX0_isLaid_68 (by decide) ?_
        exact ih (yy + 1) (x5 + 1) _ _ _ (by omega) (by omega) (by rw [e5]; exact nI_1 yy) hP hD hS (lv_sub hl [0, 1, 2, 3, 4, 5] rfl)
  exact OUTER sd 0 0 _ _ _ (by omega) (by omega) nI_0.symm hP hD hS (lv_sub hl [0, 1, 2, 3, 4, 5] rfl)
end
section
set_option maxRecDepth 100000
/-! THE CLAIM OUT OF ONE WALK OF THE LAW'S BODY. Your part is whole_start (and what it stands on); all else here is the same for every law, but numbers. -/
def R_law : String := "PlacementDeskLaw"
def lw_P (b : Addr) (xs : List Int32) (args : Array Value) (s : State) : Prop := args = #[.ref b] ∧ s.IntsAt b xs ∧ xs.length ≤ 96 ∧ (Jvm.Cond.and given_1 narrow_1).before args s = true
def lw_Q (_ : Array Value) (s : State) (o : Outcome) (t : State) : Prop := o = .returned (some (.int 1)) ∧ Framed s o t [] 1200000 5502250
def lw_Z (below : List Frame) (a : Array Value) (s : State) : State → Prop := fun t => ∃ o, t.status = .running ∧ Ended t below o ∧ lw_Q a s o t
/-- the law's own end, with 1 on the stack, nothing written that was there before, its room as the claim has it -/
theorem lw_ret {p : Program} {l : Launch} {e : Env} {s : State} {m : MethodId} {below : List Frame} {meth : Method} {c : Code} {b : Nat} (hx : p.tables.exec = Jvm.exec) (hb : c.code = code) (hr : meth.sig.returnType = ret) (hlocks : meth.locks = false) {pc : Nat} {H : Heap} {ls : Array Slot} (hdg : decode code pc = .ok (.ireturn, 1)) : W p l e room_1 s m #[Value.ref b] below meth c H [] 1200000 5502250 (lw_Z below #[Value.ref b] s) (F0 m pc ls [.int 1]) := by
  intro T hT X
  obtain ⟨fs, hret, hrun, hended, hW, hframe⟩ := X.leave (v := some (.int 1)) (hlocks := hlocks) (fun h => by rw [hr] at h; cases h)
  have hmeth' : T.vm.method? m = some meth := X.method'
  refine ⟨T.setFrames fs, ?_, .returned (some (.int 1)), hrun, hended, rfl, ⟨_, rfl⟩, hW, hframe⟩
  jvm_step X.here [X.here.top, hx, hb, hdg, hmeth', hr, ret, narrow_b1]
  (try refine ⟨rfl, ?_⟩); (try refine ⟨rfl, ?_⟩)
  first | (intro acts; rw [hret _ acts rfl rfl rfl]) | rw [hret _ _ rfl rfl rfl]
  exact Steps.refl _
/-- what holds at the law's entry: the machine, the code, the tables' words (any of lw_tbl by 'hts w (by decide +kernel)'), the script of L ints xs at the cell b, what the Statement gives of the start (any of its parts by flat_of_before) -/
def lw_At (p : Program) (s : State) (m : MethodId) (meth : Method) (c : Code) (b L : Nat) (xs : Nat → Int32) : Prop :=
  p.tables.exec = Jvm.exec ∧ c.code = code ∧ meth.sig.returnType = ret ∧ c.maxLocals = 11 ∧ s.vm.findClass R_law = some m.cls ∧ (∀ w ∈ lw_tbl, w.before #[Value.ref b] s = true) ∧ va_X b L xs s s.heap ∧ b < s.heap.size ∧ meth.locks = false ∧ (Jvm.Cond.and given_1 narrow_1).before #[Value.ref b] s = true
end
section
/-! the law's loops -/
set_option maxRecDepth 100000

/-- what holds all through the law's walk -/
def zk_LC (p : Program) (s : State) (m : MethodId) (meth : Method) (c : Code) (b L : Nat) (xs : Nat → Int32) (D : va_G) (tB tC tI cS : ClassId) (A : Nat → Prop) : Prop := zk_C p s m #[Value.ref b] meth c code 11 R_law A D tB tC tI ∧ (∀ q, A q → s.heap.size ≤ q) ∧ ¬ A b ∧ va_X b L xs s s.heap ∧ b < s.heap.size ∧ L ≤ 96 ∧ meth.sig.returnType = ret ∧ va_K D zk_cl (zk_ty tB tC tI ++ [(cS, .object RX3)]) s
def zk_sel (i : Nat) (x0 x1 x2 x3 : Nat) : Nat := match i with
  | 0 => x0
  | 1 => x1
  | 2 => x2
  | _ => x3

set_option maxHeartbeats 4000000 in
set_option maxRecDepth 100000 in
theorem zk_laidc {p : Program} {l : Launch} {e : Env} {s : State} {m : MethodId} {below : List Frame} {meth : Method} {c : Code} {D : va_G} {tB tC tI cS : ClassId} {b L : Nat} {xs : Nat → Int32} {A : Nat → Prop} (C1 : zk_LC p s m meth c b L xs D tB tC tI cS A) {i : Nat} (hi : i < 4) {d qw qd qs qb qx qy qq s0 a0 s1 a1 s2 a2 s3 a3 : Nat} {fb w w2 w3 : Nat → Int32} {fq : Nat → Option Nat} {any other : Int32} {pc cells slots : Nat} {ls : Array Slot} {H : Heap} {locs : List Loc} (hrel : ∀ y x, y < zk_sd i → x < zk_sd i → (if fb (y * zk_sd i + x) = 1 then (1 : Int32) else 0) = zk_dk (nI (zk_sd i)) (zk_T (zk_LL i)) w (nI y) (nI x)) (hP : va_P D zk_cl [(d, .inr (0, [.ref qw, .ref qd, .int (nI (zk_sd i))])), (qd, .inr (1, [.ref qs, .int (nI (zk_sd i)), .int (nI (zk_sd i)), .ref qb])), (qb, .inl (tB, (zk_sd i * zk_sd i), .inl fb)), (qx, .inl (tI, 72, .inl w)), (qw, .inl (tC, 72, .inl w2)), (qq, .inl (cS, 4, .inr (.inr (.inr (.inr (fq)))))), (s0, .inr (2, [.int (nI (zk_sd 0)), .ref a0])), (a0, .inl (tI, (zk_sd 0 * zk_sd 0), .inl (zk_T (zk_LL 0)))), (s1, .inr (2, [.int (nI (zk_sd 1)), .ref a1])), (a1, .inl (tI, (zk_sd 1 * zk_sd 1), .inl (zk_T (zk_LL 1)))), (s2, .inr (2, [.int (nI (zk_sd 2)), .ref a2])), (a2, .inl (tI, (zk_sd 2 * zk_sd 2), .inl (zk_T (zk_LL 2)))), (s3, .inr (2, [.int (nI (zk_sd 3)), .ref a3])), (a3, .inl (tI, (zk_sd 3 * zk_sd 3), .inl (zk_T (zk_LL 3)))), (qy, .inl (tI, 72, .inl w3))] H) (hD : va_D A [(d, .inr (0, [.ref qw, .ref qd, .int (nI (zk_sd i))])), (qd, .inr (1, [.ref qs, .int (nI (zk_sd i)), .int (nI (zk_sd i)), .ref qb])), (qb, .inl (tB, (zk_sd i * zk_sd i), .inl fb)), (qx, .inl (tI, 72, .inl w)), (qw, .inl (tC, 72, .inl w2)), (qq, .inl (cS, 4, .inr (.inr (.inr (.inr (fq)))))), (s0, .inr (2, [.int (nI (zk_sd 0)), .ref a0])), (a0, .inl (tI, (zk_sd 0 * zk_sd 0), .inl (zk_T (zk_LL 0)))), (s1, .inr (2, [.int (nI (zk_sd 1)), .ref a1])), (a1, .inl (tI, (zk_sd 1 * zk_sd 1), .inl (zk_T (zk_LL 1)))), (s2, .inr (2, [.int (nI (zk_sd 2)), .ref a2])), (a2, .inl (tI, (zk_sd 2 * zk_sd 2), .inl (zk_T (zk_LL 2)))), (s3, .inr (2, [.int (nI (zk_sd 3)), .ref a3])), (a3, .inl (tI, (zk_sd 3 * zk_sd 3), .inl (zk_T (zk_LL 3)))), (qy, .inl (tI, 72, .inl w3))]) (hS : va_S A s.heap H locs) (hls : ls.size = 11) (hdg : decode code pc = .ok (.invokestatic 55, 3)) (hce : cells ≤ 1200000) (hsl : slots ≤ 5502250) (K : ∀ (H1 : Heap) (locs1 : List Loc), va_P D zk_cl [(d, .inr (0, [.ref qw, .ref qd, .int (nI (zk_sd i))])), (qd, .inr (1, [.ref qs, .int (nI (zk_sd i)), .int (nI (zk_sd i)), .ref qb])), (qb, .inl (tB, (zk_sd i * zk_sd i), .inl fb)), (qx, .inl (tI, 72, .inl w)), (qw, .inl (tC, 72, .inl w2)), (qq, .inl (cS, 4, .inr (.inr (.inr (.inr (fq)))))), (s0, .inr (2, [.int (nI (zk_sd 0)), .ref a0])), (a0, .inl (tI, (zk_sd 0 * zk_sd 0), .inl (zk_T (zk_LL 0)))), (s1, .inr (2, [.int (nI (zk_sd 1)), .ref a1])), (a1, .inl (tI, (zk_sd 1 * zk_sd 1), .inl (zk_T (zk_LL 1)))), (s2, .inr (2, [.int (nI (zk_sd 2)), .ref a2])), (a2, .inl (tI, (zk_sd 2 * zk_sd 2), .inl (zk_T (zk_LL 2)))), (s3, .inr (2, [.int (nI (zk_sd 3)), .ref a3])), (a3, .inl (tI, (zk_sd 3 * zk_sd 3), .inl (zk_T (zk_LL 3)))), (qy, .inl (tI, 72, .inl w3))] H1 → va_D A [(d, .inr (0, [.ref qw, .ref qd, .int (nI (zk_sd i))])), (qd, .inr (1, [.ref qs, .int (nI (zk_sd i)), .int (nI (zk_sd i)), .ref qb])), (qb, .inl (tB, (zk_sd i * zk_sd i), .inl fb)), (qx, .inl (tI, 72, .inl w)), (qw, .inl (tC, 72, .inl w2)), (qq, .inl (cS, 4, .inr (.inr (.inr (.inr (fq)))))), (s0, .inr (2, [.int (nI (zk_sd 0)), .ref a0])), (a0, .inl (tI, (zk_sd 0 * zk_sd 0), .inl (zk_T (zk_LL 0)))), (s1, .inr (2, [.int (nI (zk_sd 1)), .ref a1])), (a1, .inl (tI, (zk_sd 1 * zk_sd 1), .inl (zk_T (zk_LL 1)))), (s2, .inr (2, [.int (nI (zk_sd 2)), .ref a2])), (a2, .inl (tI, (zk_sd 2 * zk_sd 2), .inl (zk_T (zk_LL 2)))), (s3, .inr (2, [.int (nI (zk_sd 3)), .ref a3])), (a3, .inl (tI, (zk_sd 3 * zk_sd 3), .inl (zk_T (zk_LL 3)))), (qy, .inl (tI, 72, .inl w3))] → va_S A s.heap H1 locs1 → W p l e room_1 s m #[Value.ref b] below meth c H1 locs1 cells slots (lw_Z below #[Value.ref b] s) (F0 m (pc + 3) ls [.int 1])) : W p l e room_1 s m #[Value.ref b] below meth c H locs cells slots (lw_Z below #[Value.ref b] s) (F0 m pc ls [.int other, .int any, .ref qx, .ref (zk_sel i s0 s1 s2 s3), .ref d]) := by
  obtain ⟨CX, hA2, hbA, hX, hbl, hL, hr, hK4⟩ := C1
  obtain ⟨hx, hb, hml, hown, hts, hA, hK, hZ, hlocks⟩ := id CX
  have h14 : zk_sd i ≤ 14 := by simp only [zk_sd]; omega
  have h0 : 0 < zk_sd i := by simp only [zk_sd]; omega
  have hT := zk_T_in hi
  rcases (show i = 0 ∨ i = 1 ∨ i = 2 ∨ i = 3 by omega) with q | q | q | q <;> subst q
  · refine zk_Si CX hP hD hS ([(qw, .inl (tC, 72, .inl w2)), (qq, .inl (cS, 4, .inr (.inr (.inr (.inr (fq)))))), (s1, .inr (2, [.int (nI (zk_sd 1)), .ref a1])), (a1, .inl (tI, (zk_sd 1 * zk_sd 1), .inl (zk_T (zk_LL 1)))), (s2, .inr (2, [.int (nI (zk_sd 2)), .ref a2])), (a2, .inl (tI, (zk_sd 2 * zk_sd 2), .inl (zk_T (zk_LL 2)))), (s3, .inr (2, [.int (nI (zk_sd 3)), .ref a3])), (a3, .inl (tI, (zk_sd 3 * zk_sd 3), .inl (zk_T (zk_LL 3)))), (qy, .inl (tI, 72, .inl w3))]) [0, 1, 2, 6, 7, 3] [4, 5, 8, 9, 10, 11, 12, 13, 14] (metX0_isLaid l D tB tC tI _ d qw qd qs qb s0 a0 qx (zk_sd 0) fb (zk_T (zk_LL 0)) w any other h0 h14 hrel hT) (lw_S q264 q265 q8 q266) 5 (by decide +kernel) rfl hls rfl (Nat.le_of_ble_eq_true rfl) hdg ⟨Nat.le_of_ble_eq_true rfl, Nat.le_of_ble_eq_true rfl⟩ ⟨hce, hsl⟩ rfl rfl rfl rfl (by decide) (fun r_ u_ H locs hw hP hD hS => ?_)
    have hw : r_ = 1 := hw
    subst hw
    have hP := hP.sub (ws' := [(d, .inr (0, [.ref qw, .ref qd, .int (nI (zk_sd 0))])), (qd, .inr (1, [.ref qs, .int (nI (zk_sd 0)), .int (nI (zk_sd 0)), .ref qb])), (qb, .inl (tB, (zk_sd 0 * zk_sd 0), .inl fb)), (qx, .inl (tI, 72, .inl w)), (qw, .inl (tC, 72, .inl w2)), (qq, .inl (cS, 4, .inr (.inr (.inr (.inr (fq)))))), (s0, .inr (2, [.int (nI (zk_sd 0)), .ref a0])), (a0, .inl (tI, (zk_sd 0 * zk_sd 0), .inl (zk_T (zk_LL 0)))), (s1, .inr (2, [.int (nI (zk_sd 1)), .ref a1])), (a1, .inl (tI, (zk_sd 1 * zk_sd 1), .inl (zk_T (zk_LL 1)))), (s2, .inr (2, [.int (nI (zk_sd 2)), .ref a2])), (a2, .inl (tI, (zk_sd 2 * zk_sd 2), .inl (zk_T (zk_LL 2)))), (s3, .inr (2, [.int (nI (zk_sd 3)), .ref a3])), (a3, .inl (tI, (zk_sd 3 * zk_sd 3), .inl (zk_T (zk_LL 3)))), (qy, .inl (tI, 72, .inl w3))]) [9, 10, 11, 14, 0, 1, 12, 13, 2, 3, 4, 5, 6, 7, 8] rfl
    have hD := hD.sub (ws' := [(d, .inr (0, [.ref qw, .ref qd, .int (nI (zk_sd 0))])), (qd, .inr (1, [.ref qs, .int (nI (zk_sd 0)), .int (nI (zk_sd 0)), .ref qb])), (qb, .inl (tB, (zk_sd 0 * zk_sd 0), .inl fb)), (qx, .inl (tI, 72, .inl w)), (qw, .inl (tC, 72, .inl w2)), (qq, .inl (cS, 4, .inr (.inr (.inr (.inr (fq)))))), (s0, .inr (2, [.int (nI (zk_sd 0)), .ref a0])), (a0, .inl (tI, (zk_sd 0 * zk_sd 0), .inl (zk_T (zk_LL 0)))), (s1, .inr (2, [.int (nI (zk_sd 1)), .ref a1])), (a1, .inl (tI, (zk_sd 1 * zk_sd 1), .inl (zk_T (zk_LL 1)))), (s2, .inr (2, [.int (nI (zk_sd 2)), .ref a2])), (a2, .inl (tI, (zk_sd 2 * zk_sd 2), .inl (zk_T (zk_LL 2)))), (s3, .inr (2, [.int (nI (zk_sd 3)), .ref a3])), (a3, .inl (tI, (zk_sd 3 * zk_sd 3), .inl (zk_T (zk_LL 3)))), (qy, .inl (tI, 72, .inl w3))]) [9, 10, 11, 14, 0, 1, 12, 13, 2, 3, 4, 5, 6, 7, 8] (by decide) rfl
    exact K H locs hP hD hS
  · refine zk_Si CX hP hD hS ([(qw, .inl (tC, 72, .inl w2)), (qq, .inl (cS, 4, .inr (.inr (.inr (.inr (fq)))))), (s0, .inr (2, [.int (nI (zk_sd 0)), .ref a0])), (a0, .inl (tI, (zk_sd 0 * zk_sd 0), .inl (zk_T (zk_LL 0)))), (s2, .inr (2, [.int (nI (zk_sd 2)), .ref a2])), (a2, .inl (tI, (zk_sd 2 * zk_sd 2), .inl (zk_T (zk_LL 2)))), (s3, .inr (2, [.int (nI (zk_sd 3)), .ref a3])), (a3, .inl (tI, (zk_sd 3 * zk_sd 3), .inl (zk_T (zk_LL 3)))), (qy, .inl (tI, 72, .inl w3))]) [0, 1, 2, 8, 9, 3] [4, 5, 6, 7, 10, 11, 12, 13, 14] (metX0_isLaid l D tB tC tI _ d qw qd qs qb s1 a1 qx (zk_sd 1) fb (zk_T (zk_LL 1)) w any other h0 h14 hrel hT) (lw_S q264 q265 q8 q266) 5 (by decide +kernel) rfl hls rfl (Nat.le_of_ble_eq_true rfl) hdg ⟨Nat.le_of_ble_eq_true rfl, Nat.le_of_ble_eq_true rfl⟩ ⟨hce, hsl⟩ rfl rfl rfl rfl (by decide) (fun r_ u_ H locs hw hP hD hS => ?_)
    have hw : r_ = 1 := hw
    subst hw
    have hP := hP.sub (ws' := [(d, .inr (0, [.ref qw, .ref qd, .int (nI (zk_sd 1))])), (qd, .inr (1, [.ref qs, .int (nI (zk_sd 1)), .int (nI (zk_sd 1)), .ref qb])), (qb, .inl (tB, (zk_sd 1 * zk_sd 1), .inl fb)), (qx, .inl (tI, 72, .inl w)), (qw, .inl (tC, 72, .inl w2)), (qq, .inl (cS, 4, .inr (.inr (.inr (.inr (fq)))))), (s0, .inr (2, [.int (nI (zk_sd 0)), .ref a0])), (a0, .inl (tI, (zk_sd 0 * zk_sd 0), .inl (zk_T (zk_LL 0)))), (s1, .inr (2, [.int (nI (zk_sd 1)), .ref a1])), (a1, .inl (tI, (zk_sd 1 * zk_sd 1), .inl (zk_T (zk_LL 1)))), (s2, .inr (2, [.int (nI (zk_sd 2)), .ref a2])), (a2, .inl (tI, (zk_sd 2 * zk_sd 2), .inl (zk_T (zk_LL 2)))), (s3, .inr (2, [.int (nI (zk_sd 3)), .ref a3])), (a3, .inl (tI, (zk_sd 3 * zk_sd 3), .inl (zk_T (zk_LL 3)))), (qy, .inl (tI, 72, .inl w3))]) [9, 10, 11, 14, 0, 1, 2, 3, 12, 13, 4, 5, 6, 7, 8] rfl
    have hD := hD.sub (ws' := [(d, .inr (0, [.ref qw, .ref qd, .int (nI (zk_sd 1))])), (qd, .inr (1, [.ref qs, .int (nI (zk_sd 1)), .int (nI (zk_sd 1)), .ref qb])), (qb, .inl (tB, (zk_sd 1 * zk_sd 1), .inl fb)), (qx, .inl (tI, 72, .inl w)), (qw, .inl (tC, 72, .inl w2)), (qq, .inl (cS, 4, .inr (.inr (.inr (.inr (fq)))))), (s0, .inr (2, [.int (nI (zk_sd 0)), .ref a0])), (a0, .inl (tI, (zk_sd 0 * zk_sd 0), .inl (zk_T (zk_LL 0)))), (s1, .inr (2, [.int (nI (zk_sd 1)), .ref a1])), (a1, .inl (tI, (zk_sd 1 * zk_sd 1), .inl (zk_T (zk_LL 1)))), (s2, .inr (2, [.int (nI (zk_sd 2)), .ref a2])), (a2, .inl (tI, (zk_sd 2 * zk_sd 2), .inl (zk_T (zk_LL 2)))), (s3, .inr (2, [.int (nI (zk_sd 3)), .ref a3])), (a3, .inl (tI, (zk_sd 3 * zk_sd 3), .inl (zk_T (zk_LL 3)))), (qy, .inl (tI, 72, .inl w3))]) [9, 10, 11, 14, 0, 1, 2, 3, 12, 13, 4, 5, 6, 7, 8] (by decide) rfl
    exact K H locs hP hD hS
  · refine zk_Si CX hP hD hS ([(qw, .inl (tC, 72, .inl w2)), (qq, .inl (cS, 4, .inr (.inr (.inr (.inr (fq)))))), (s0, .inr (2, [.int (nI (zk_sd 0)), .ref a0])), (a0, .inl (tI, (zk_sd 0 * zk_sd 0), .inl (zk_T (zk_LL 0)))), (s1, .inr (2, [.int (nI (zk_sd 1)), .ref a1])), (a1, .inl (tI, (zk_sd 1 * zk_sd 1), .inl (zk_T (zk_LL 1)))), (s3, .inr (2, [.int (nI (zk_sd 3)), .ref a3])), (a3, .inl (tI, (zk_sd 3 * zk_sd 3), .inl (zk_T (zk_LL 3)))), (qy, .inl (tI, 72, .inl w3))]) [0, 1, 2, 10, 11, 3] [4, 5, 6, 7, 8, 9, 12, 13, 14] (metX0_isLaid l D tB tC tI _ d qw qd qs qb s2 a2 qx (zk_sd 2) fb (zk_T (zk_LL 2)) w any other h0 h14 hrel hT) (lw_S q264 q265 q8 q266) 5 (by decide +kernel) rfl hls rfl (Nat.le_of_ble_eq_true rfl) hdg ⟨Nat.le_of_ble_eq_true rfl, Nat.le_of_ble_eq_true rfl⟩ ⟨hce, hsl⟩ rfl rfl rfl rfl (by decide) (fun r_ u_ H locs hw hP hD hS => ?_)
    have hw : r_ = 1 := hw
    subst hw
    have hP := hP.sub (ws' := [(d, .inr (0, [.ref qw, .ref qd, .int (nI (zk_sd 2))])), (qd, .inr (1, [.ref qs, .int (nI (zk_sd 2)), .int (nI (zk_sd 2)), .ref qb])), (qb, .inl (tB, (zk_sd 2 * zk_sd 2), .inl fb)), (qx, .inl (tI, 72, .inl w)), (qw, .inl (tC, 72, .inl w2)), (qq, .inl (cS, 4, .inr (.inr (.inr (.inr (fq)))))), (s0, .inr (2, [.int (nI (zk_sd 0)), .ref a0])), (a0, .inl (tI, (zk_sd 0 * zk_sd 0), .inl (zk_T (zk_LL 0)))), (s1, .inr (2, [.int (nI (zk_sd 1)), .ref a1])), (a1, .inl (tI, (zk_sd 1 * zk_sd 1), .inl (zk_T (zk_LL 1)))), (s2, .inr (2, [.int (nI (zk_sd 2)), .ref a2])), (a2, .inl (tI, (zk_sd 2 * zk_sd 2), .inl (zk_T (zk_LL 2)))), (s3, .inr (2, [.int (nI (zk_sd 3)), .ref a3])), (a3, .inl (tI, (zk_sd 3 * zk_sd 3), .inl (zk_T (zk_LL 3)))), (qy, .inl (tI, 72, .inl w3))]) [9, 10, 11, 14, 0, 1, 2, 3, 4, 5, 12, 13, 6, 7, 8] rfl
    have hD := hD.sub (ws' := [(d, .inr (0, [.ref qw, .ref qd, .int (nI (zk_sd 2))])), (qd, .inr (1, [.ref qs, .int (nI (zk_sd 2)), .int (nI (zk_sd 2)), .ref qb])), (qb, .inl (tB, (zk_sd 2 * zk_sd 2), .inl fb)), (qx, .inl (tI, 72, .inl w)), (qw, .inl (tC, 72, .inl w2)), (qq, .inl (cS, 4, .inr (.inr (.inr (.inr (fq)))))), (s0, .inr (2, [.int (nI (zk_sd 0)), .ref a0])), (a0, .inl (tI, (zk_sd 0 * zk_sd 0), .inl (zk_T (zk_LL 0)))), (s1, .inr (2, [.int (nI (zk_sd 1)), .ref a1])), (a1, .inl (tI, (zk_sd 1 * zk_sd 1), .inl (zk_T (zk_LL 1)))), (s2, .inr (2, [.int (nI (zk_sd 2)), .ref a2])), (a2, .inl (tI, (zk_sd 2 * zk_sd 2), .inl (zk_T (zk_LL 2)))), (s3, .inr (2, [.int (nI (zk_sd 3)), .ref a3])), (a3, .inl (tI, (zk_sd 3 * zk_sd 3), .inl (zk_T (zk_LL 3)))), (qy, .inl (tI, 72, .inl w3))]) [9, 10, 11, 14, 0, 1, 2, 3, 4, 5, 12, 13, 6, 7, 8] (by decide) rfl
    exact K H locs hP hD hS
  · refine zk_Si CX hP hD hS ([(qw, .inl (tC, 72, .inl w2)), (qq, .inl (cS, 4, .inr (.inr (.inr (.inr (fq)))))), (s0, .inr (2, [.int (nI (zk_sd 0)), .ref a0])), (a0, .inl (tI, (zk_sd 0 * zk_sd 0), .inl (zk_T (zk_LL 0)))), (s1, .inr (2, [.int (nI (zk_sd 1)), .ref a1])), (a1, .inl (tI, (zk_sd 1 * zk_sd 1), .inl (zk_T (zk_LL 1)))), (s2, .inr (2, [.int (nI (zk_sd 2)), .ref a2])), (a2, .inl (tI, (zk_sd 2 * zk_sd 2), .inl (zk_T (zk_LL 2)))), (qy, .inl (tI, 72, .inl w3))]) [0, 1, 2, 12, 13, 3] [4, 5, 6, 7, 8, 9, 10, 11, 14] (metX0_isLaid l D tB tC tI _ d qw qd qs qb s3 a3 qx (zk_sd 3) fb (zk_T (zk_LL 3)) w any other h0 h14 hrel hT) (lw_S q264 q265 q8 q266) 5 (by decide +kernel) rfl hls rfl (Nat.le_of_ble_eq_true rfl) hdg ⟨Nat.le_of_ble_eq_true rfl, Nat.le_of_ble_eq_true rfl⟩ ⟨hce, hsl⟩ rfl rfl rfl rfl (by decide) (fun r_ u_ H locs hw hP hD hS => ?_)
    have hw : r_ = 1 := hw
    subst hw
    have hP := hP.sub (ws' := [(d, .inr (0, [.ref qw, .ref qd, .int (nI (zk_sd 3))])), (qd, .inr (1, [.ref qs, .int (nI (zk_sd 3)), .int (nI (zk_sd 3)), .ref qb])), (qb, .inl (tB, (zk_sd 3 * zk_sd 3), .inl fb)), (qx, .inl (tI, 72, .inl w)), (qw, .inl (tC, 72, .inl w2)), (qq, .inl (cS, 4, .inr (.inr (.inr (.inr (fq)))))), (s0, .inr (2, [.int (nI (zk_sd 0)), .ref a0])), (a0, .inl (tI, (zk_sd 0 * zk_sd 0), .inl (zk_T (zk_LL 0)))), (s1, .inr (2, [.int (nI (zk_sd 1)), .ref a1])), (a1, .inl (tI, (zk_sd 1 * zk_sd 1), .inl (zk_T (zk_LL 1)))), (s2, .inr (2, [.int (nI (zk_sd 2)), .ref a2])), (a2, .inl (tI, (zk_sd 2 * zk_sd 2), .inl (zk_T (zk_LL 2)))), (s3, .inr (2, [.int (nI (zk_sd 3)), .ref a3])), (a3, .inl (tI, (zk_sd 3 * zk_sd 3), .inl (zk_T (zk_LL 3)))), (qy, .inl (tI, 72, .inl w3))]) [9, 10, 11, 14, 0, 1, 2, 3, 4, 5, 6, 7, 12, 13, 8] rfl
    have hD := hD.sub (ws' := [(d, .inr (0, [.ref qw, .ref qd, .int (nI (zk_sd 3))])), (qd, .inr (1, [.ref qs, .int (nI (zk_sd 3)), .int (nI (zk_sd 3)), .ref qb])), (qb, .inl (tB, (zk_sd 3 * zk_sd 3), .inl fb)), (qx, .inl (tI, 72, .inl w)), (qw, .inl (tC, 72, .inl w2)), (qq, .inl (cS, 4, .inr (.inr (.inr (.inr (fq)))))), (s0, .inr (2, [.int (nI (zk_sd 0)), .ref a0])), (a0, .inl (tI, (zk_sd 0 * zk_sd 0), .inl (zk_T (zk_LL 0)))), (s1, .inr (2, [.int (nI (zk_sd 1)), .ref a1])), (a1, .inl (tI, (zk_sd 1 * zk_sd 1), .inl (zk_T (zk_LL 1)))), (s2, .inr (2, [.int (nI (zk_sd 2)), .ref a2])), (a2, .inl (tI, (zk_sd 2 * zk_sd 2), .inl (zk_T (zk_LL 2)))), (s3, .inr (2, [.int (nI (zk_sd 3)), .ref a3])), (a3, .inl (tI, (zk_sd 3 * zk_sd 3), .inl (zk_T (zk_LL 3)))), (qy, .inl (tI, 72, .inl w3))]) [9, 10, 11, 14, 0, 1, 2, 3, 4, 5, 6, 7, 12, 13, 8] (by decide) rfl
    exact K H locs hP hD hS

set_option maxHeartbeats 4000000 in
set_option maxRecDepth 100000 in
theorem zk_copy {p : Program} {l : Launch} {e : Env} {s : State} {m : MethodId} {below : List Frame} {meth : Method} {c : Code} {D : va_G} {tB tC tI cS : ClassId} {b L : Nat} {xs : Nat → Int32} {A : Nat → Prop} (C1 : zk_LC p s m meth c b L xs D tB tC tI cS A) {ql qx d qq cells slots : Nat} {w : Nat → Int32} {wr : va_W} {x4 x5 x6 x7 : Int32} (K : ∀ (x9 : Int32) (H : Heap) (locs : List Loc) (ls : Array Slot), va_P D zk_cl ((ql, .inl (tI, 72, .inl w)) :: (qx, .inl (tI, 72, .inl w)) :: wr) H → va_D A ((ql, .inl (tI, 72, .inl w)) :: (qx, .inl (tI, 72, .inl w)) :: wr) → va_S A s.heap H locs → lv_has ls 11 [(9, .int x9), (0, .ref b), (1, .ref d), (2, .ref qq), (3, .ref qx), (4, .int x4), (5, .int x5), (6, .int x6), (7, .int x7), (8, .ref ql)] → W p l e room_1 s m #[Value.ref b] below meth c H locs cells slots (lw_Z below #[Value.ref b] s) (F0 m 287 ls [])) : ∀ (k i : Nat) (x9 : Int32) (H : Heap) (locs : List Loc) (ls : Array Slot), 72 ≤ i + k → i ≤ 72 → x9 = nI i → va_P D zk_cl ((ql, .inl (tI, 72, .inl (zk_cp w i))) :: (qx, .inl (tI, 72, .inl w)) :: wr) H → va_D A ((ql, .inl (tI, 72, .inl (zk_cp w i))) :: (qx, .inl (tI, 72, .inl w)) :: wr) → va_S A s.heap H locs → lv_has ls 11 [(9, .int x9), (0, .ref b), (1, .ref d), (2, .ref qq), (3, .ref qx), (4, .int x4), (5, .int x5), (6, .int x6), (7, .int x7), (8, .ref ql)] → W p l e room_1 s m #[Value.ref b] below meth c H locs cells slots (lw_Z below #[Value.ref b] s) (F0 m 265 ls []) := by
  obtain ⟨CX, hA2, hbA, hX, hbl, hL, hr, hK4⟩ := C1
  obtain ⟨hx, hb, hml, hown, hts, hA, hK, hZ, hlocks⟩ := id CX
  intro k
  induction k with
  | zero =>
    intro i x9 H locs ls hk hi ex hP hD hS hl
    refine lv_iload hx hb dL_law_265 (lv_at hl 0 rfl) ?_
    refine lv_bipush (v := 72) hx hb dL_law_267 (by decide) ?_
    refine lv_icmp_ge (tgt := 287) hx hb dL_law_269 (by decide) (fun h_ => ?_) (fun h_ => ?_)
    · have hi72 : i = 72 := by
        rcases Nat.lt_or_ge i 72 with q | q
        · rw [ex] at h_; exact absurd h_ (Int32.not_le.mpr (nI_lt (b := 72) q (by omega)))
        · omega
      subst hi72
      have hh := zk_arr (k := 0) (f' := w) hP hD rfl (fun j hj => if_pos hj)
      exact K x9 H locs ls hh.1 hh.2 hS hl
    · exact absurd (by rw [ex]; exact nI_le (a := 72) (by omega) (by omega)) h_
  | succ k ih =>
    intro i x9 H locs ls hk hi ex hP hD hS hl
    refine lv_iload hx hb dL_law_265 (lv_at hl 0 rfl) ?_
    refine lv_bipush (v := 72) hx hb dL_law_267 (by decide) ?_
    refine lv_icmp_ge (tgt := 287) hx hb dL_law_269 (by decide) (fun h_ => ?_) (fun h_ => ?_)
    · have hi72 : i = 72 := by
        rcases Nat.lt_or_ge i 72 with q | q
        · rw [ex] at h_; exact absurd h_ (Int32.not_le.mpr (nI_lt (b := 72) q (by omega)))
        · omega
      subst hi72
      have hh := zk_arr (k := 0) (f' := w) hP hD rfl (fun j hj => if_pos hj)
      exact K x9 H locs ls hh.1 hh.2 hS hl
    · have hlt : i < 72 := by
        rcases Nat.lt_or_ge i 72 with q | q
        · exact q
        · exact absurd (by rw [ex]; exact nI_le (a := 72) q (by omega)) h_
      have hin : vp_in x9 72 := by rw [ex]; exact vp_in_nI hlt (by omega)
      have hcl : x9.toNatClampNeg = i := by rw [ex]; exact nI_clamp (by omega)
      refine lv_aload hx hb dL_law_272 (lv_at hl 9 rfl) ?_
      refine lv_iload hx hb dL_law_274 (lv_at hl 0 rfl) ?_
      refine lv_aload_n hx hb dL_law_276 rfl (lv_at hl 4 rfl) ?_
      refine lv_iload hx hb dL_law_277 (lv_at hl 0 rfl) ?_
      refine va_iald hx hb hK hP 1 2 rfl rfl hin dL_law_279 ?_
      refine va_iast hx hb hK hP hD hS 0 2 rfl rfl hin dL_law_280 (fun H locs hP hD hS => ?_)
      have hP : va_P D zk_cl ((ql, .inl (tI, 72, .inl (upd (zk_cp w i) x9.toNatClampNeg (w x9.toNatClampNeg)))) :: (qx, .inl (tI, 72, .inl w)) :: wr) H := hP
      have hD : va_D A ((ql, .inl (tI, 72, .inl (upd (zk_cp w i) x9.toNatClampNeg (w x9.toNatClampNeg)))) :: (qx, .inl (tI, 72, .inl w)) :: wr) := hD
      rw [zk_cp_upd hcl (by rw [hcl])] at hP hD
      refine lv_iinc (v := x9 + 1) (lv' := [(9, .int (x9 + 1)), (0, .ref b), (1, .ref d), (2, .ref qq), (3, .ref qx), (4, .int x4), (5, .int x5), (6, .int x6), (7, .int x7), (8, .ref ql)]) hx hb dL_law_281 hl (k := 0) rfl rfl (by decide) rfl (fun ls hl => ?_)
      refine lv_goto (tgt := 265) hx hb dL_law_284 (by decide) ?_
      exact ih (i + 1) (x9 + 1) _ _ _ (by omega) (by omega) (by rw [ex]; exact nI_1 i) hP hD hS (lv_sub hl [0, 1, 2, 3, 4, 5, 6, 7, 8, 9] rfl)

theorem zk_fq {s0 s1 s2 s3 i : Nat} (hi : i < 4) : va_rf ((va_up (va_up (va_up (va_up (fun _ => none) 0 (some s0)) 1 (some s1)) 2 (some s2)) 3 (some s3)) (nI i).toNatClampNeg) = .ref (zk_sel i s0 s1 s2 s3) := by
  rw [nI_clamp (by omega)]
  rcases (show i = 0 ∨ i = 1 ∨ i = 2 ∨ i = 3 by omega) with q | q | q | q <;> subst q <;> rfl

set_option maxHeartbeats 4000000 in
set_option maxRecDepth 100000 in
theorem zk_rounds {p : Program} {l : Launch} {e : Env} {s : State} {m : MethodId} {below : List Frame} {meth : Method} {c : Code} {D : va_G} {tB tC tI cS : ClassId} {b L : Nat} {xs : Nat → Int32} {A : Nat → Prop} (C1 : zk_LC p s m meth c b L xs D tB tC tI cS A) {d qw qq qx s0 a0 s1 a1 s2 a2 s3 a3 : Nat} : ∀ (k r0 : Nat) (qd : Nat) (vs x4 : Int32) (w : Nat → Int32) (H : Heap) (locs : List Loc) (ls : Array Slot), 16 ≤ r0 + k → r0 ≤ 16 → x4 = nI (6 * r0) → zk_W w → va_P D zk_cl [(d, .inr (0, [.ref qw, .ref qd, .int vs])), (qw, .inl (tC, 72, .inl w)), (qq, .inl (cS, 4, .inr (.inr (.inr (.inr ((va_up (va_up (va_up (va_up (fun _ => none) 0 (some s0)) 1 (some s1)) 2 (some s2)) 3 (some s3)))))))), (qx, .inl (tI, 72, .inl w)), (s0, .inr (2, [.int (nI (zk_sd 0)), .ref a0])), (a0, .inl (tI, (zk_sd 0 * zk_sd 0), .inl (zk_T (zk_LL 0)))), (s1, .inr (2, [.int (nI (zk_sd 1)), .ref a1])), (a1, .inl (tI, (zk_sd 1 * zk_sd 1), .inl (zk_T (zk_LL 1)))), (s2, .inr (2, [.int (nI (zk_sd 2)), .ref a2])), (a2, .inl (tI, (zk_sd 2 * zk_sd 2), .inl (zk_T (zk_LL 2)))), (s3, .inr (2, [.int (nI (zk_sd 3)), .ref a3])), (a3, .inl (tI, (zk_sd 3 * zk_sd 3), .inl (zk_T (zk_LL 3))))] H → va_D A [(d, .inr (0, [.ref qw, .ref qd, .int vs])), (qw, .inl (tC, 72, .inl w)), (qq, .inl (cS, 4, .inr (.inr (.inr (.inr ((va_up (va_up (va_up (va_up (fun _ => none) 0 (some s0)) 1 (some s1)) 2 (some s2)) 3 (some s3)))))))), (qx, .inl (tI, 72, .inl w)), (s0, .inr (2, [.int (nI (zk_sd 0)), .ref a0])), (a0, .inl (tI, (zk_sd 0 * zk_sd 0), .inl (zk_T (zk_LL 0)))), (s1, .inr (2, [.int (nI (zk_sd 1)), .ref a1])), (a1, .inl (tI, (zk_sd 1 * zk_sd 1), .inl (zk_T (zk_LL 1)))), (s2, .inr (2, [.int (nI (zk_sd 2)), .ref a2])), (a2, .inl (tI, (zk_sd 2 * zk_sd 2), .inl (zk_T (zk_LL 2)))), (s3, .inr (2, [.int (nI (zk_sd 3)), .ref a3])), (a3, .inl (tI, (zk_sd 3 * zk_sd 3), .inl (zk_T (zk_LL 3))))] → va_S A s.heap H locs → lv_has ls 11 [(4, .int x4), (0, .ref b), (1, .ref d), (2, .ref qq), (3, .ref qx)] → W p l e room_1 s m #[Value.ref b] below meth c H locs (117 + 9 * r0) (3595 + 624 * r0) (lw_Z below #[Value.ref b] s) (F0 m 189 ls []) := by
  have C2 := C1
  obtain ⟨CX, hA2, hbA, hX, hbl, hL, hr, hK4⟩ := C1
  obtain ⟨hx, hb, hml, hown, hts, hA, hK, hZ, hlocks⟩ := id CX
  intro k
  induction k with
  | zero =>
    intro r0 qd vs x4 w H locs ls hk hi ex hw0 hP hD hS hl
    refine lv_iload hx hb dL_law_189 (lv_at hl 0 rfl) ?_
    refine lv_iconst (v := 5) hx hb dL_law_191 (by decide) ?_
    refine lv_iadd hx hb dL_law_192 ?_
    refine lv_topi (fun t_1 et_1 => ?_)
    have et_1 : t_1 = nI (6 * r0 + 5) := et_1.trans (by rw [ex]; exact nI_add (6 * r0) 5)
    subst et_1
    refine lv_bipush (v := 96) hx hb dL_law_193 (by decide) ?_
    refine lv_icmp_ge (tgt := 431) hx hb dL_law_195 (by decide) (fun h_ => ?_) (fun h_ => ?_)
    · refine lv_iconst (v := 1) hx hb dL_law_431 (by decide) ?_
      refine va_forget (fun q hq => hA2 _ (hS.2.2 q hq)) ?_
      refine W.widen (k := 1200000) (n := 5502250) (by omega) (by omega) ?_
      exact lw_ret hx hb hr hlocks dL_law_432
    · exact absurd (nI_le (a := 96) (by omega) (by omega)) h_
  | succ k ih =>
    intro r0 qd vs x4 w H locs ls hk hi ex hw0 hP hD hS hl
    refine lv_iload hx hb dL_law_189 (lv_at hl 0 rfl) ?_
    refine lv_iconst (v := 5) hx hb dL_law_191 (by decide) ?_
    refine lv_iadd hx hb dL_law_192 ?_
    refine lv_topi (fun t_2 et_2 => ?_)
    have et_2 : t_2 = nI (6 * r0 + 5) := et_2.trans (by rw [ex]; exact nI_add (6 * r0) 5)
    subst et_2
    refine lv_bipush (v := 96) hx hb dL_law_193 (by decide) ?_
    refine lv_icmp_ge (tgt := 431) hx hb dL_law_195 (by decide) (fun h_ => ?_) (fun h_ => ?_)
    · refine lv_iconst (v := 1) hx hb dL_law_431 (by decide) ?_
      refine va_forget (fun q hq => hA2 _ (hS.2.2 q hq)) ?_
      refine W.widen (k := 1200000) (n := 5502250) (by omega) (by omega) ?_
      exact lw_ret hx hb hr hlocks dL_law_432
    · have hlt : r0 < 16 := by
        rcases Nat.lt_or_ge r0 16 with q | q
        · exact q
        · exact absurd (nI_le (a := 96) (by omega) (by omega)) h_
      subst ex
      refine lv_aload_n hx hb dL_law_198 rfl (lv_at hl 1 rfl) ?_
      refine lv_iload hx hb dL_law_199 (lv_at hl 0 rfl) ?_
      refine zk_cellc (k := 6 * r0) CX hX hbl hbA hP hD hS (lw_S q257 q258 q8 q259) hL (by omega) hl.1 rfl (Nat.le_of_ble_eq_true rfl) dL_law_201 ⟨Nat.le_of_ble_eq_true rfl, Nat.le_of_ble_eq_true rfl⟩ ⟨by show _ ≤ 1200000; omega, by show _ ≤ 5502250; omega⟩ (fun H locs hP hD hS => ?_)
      refine lv_topi (fun at_ eat_ => ?_)
      refine lv_istore (lv' := [(5, .int at_), (4, .int (nI (6 * r0))), (0, .ref b), (1, .ref d), (2, .ref qq), (3, .ref qx)]) hx hb dL_law_204 hl (by decide) rfl (fun ls hl => ?_)
      refine lv_aload_n hx hb dL_law_206 rfl (lv_at hl 2 rfl) ?_
      refine lv_iload hx hb dL_law_207 (lv_at hl 1 rfl) ?_
      refine lv_iconst (v := 1) hx hb dL_law_209 (by decide) ?_
      refine lv_iadd hx hb dL_law_210 ?_
      refine lv_topi (fun t_4 et_4 => ?_)
      have et_4 : t_4 = nI (6 * r0 + 1) := et_4.trans (nI_1 (6 * r0))
      subst et_4
      refine zk_cellc (k := 6 * r0 + 1) CX hX hbl hbA hP hD hS (lw_S q257 q258 q8 q259) hL (by omega) hl.1 rfl (Nat.le_of_ble_eq_true rfl) dL_law_211 ⟨Nat.le_of_ble_eq_true rfl, Nat.le_of_ble_eq_true rfl⟩ ⟨by show _ ≤ 1200000; omega, by show _ ≤ 5502250; omega⟩ (fun H locs hP hD hS => ?_)
      refine lv_topi (fun v_ ev_ => ?_)
      refine lv_istore (lv' := [(6, .int v_), (5, .int at_), (4, .int (nI (6 * r0))), (0, .ref b), (1, .ref d), (2, .ref qq), (3, .ref qx)]) hx hb dL_law_214 hl (by decide) rfl (fun ls hl => ?_)
      refine lv_aload_n hx hb dL_law_216 rfl (lv_at hl 3 rfl) ?_
      refine lv_iload hx hb dL_law_217 (lv_at hl 2 rfl) ?_
      refine lv_iconst (v := 2) hx hb dL_law_219 (by decide) ?_
      refine lv_iadd hx hb dL_law_220 ?_
      refine lv_topi (fun t_6 et_6 => ?_)
      have et_6 : t_6 = nI (6 * r0 + 2) := et_6.trans (nI_add (6 * r0) 2)
      subst et_6
      refine zk_cellc (k := 6 * r0 + 2) CX hX hbl hbA hP hD hS (lw_S q257 q258 q8 q259) hL (by omega) hl.1 rfl (Nat.le_of_ble_eq_true rfl) dL_law_221 ⟨Nat.le_of_ble_eq_true rfl, Nat.le_of_ble_eq_true rfl⟩ ⟨by show _ ≤ 1200000; omega, by show _ ≤ 5502250; omega⟩ (fun H locs hP hD hS => ?_)
      refine lv_topi (fun kd_ ekd_ => ?_)
      refine lv_istore (lv' := [(7, .int kd_), (6, .int v_), (5, .int at_), (4, .int (nI (6 * r0))), (0, .ref b), (1, .ref d), (2, .ref qq), (3, .ref qx)]) hx hb dL_law_224 hl (by decide) rfl (fun ls hl => ?_)
      refine lv_aload_n hx hb dL_law_226 rfl (lv_at hl 5 rfl) ?_
      refine lv_iload hx hb dL_law_227 (lv_at hl 2 rfl) ?_
      refine lv_iload hx hb dL_law_229 (lv_at hl 1 rfl) ?_
      refine zk_Vv CX hP hD hS ([(qq, .inl (cS, 4, .inr (.inr (.inr (.inr ((va_up (va_up (va_up (va_up (fun _ => none) 0 (some s0)) 1 (some s1)) 2 (some s2)) 3 (some s3)))))))), (qx, .inl (tI, 72, .inl w)), (s0, .inr (2, [.int (nI (zk_sd 0)), .ref a0])), (a0, .inl (tI, (zk_sd 0 * zk_sd 0), .inl (zk_T (zk_LL 0)))), (s1, .inr (2, [.int (nI (zk_sd 1)), .ref a1])), (a1, .inl (tI, (zk_sd 1 * zk_sd 1), .inl (zk_T (zk_LL 1)))), (s2, .inr (2, [.int (nI (zk_sd 2)), .ref a2])), (a2, .inl (tI, (zk_sd 2 * zk_sd 2), .inl (zk_T (zk_LL 2)))), (s3, .inr (2, [.int (nI (zk_sd 3)), .ref a3])), (a3, .inl (tI, (zk_sd 3 * zk_sd 3), .inl (zk_T (zk_LL 3))))]) [0, 1] [2, 3, 4, 5, 6, 7, 8, 9, 10, 11] (metX1_put l D tB tC tI _ d qw qd vs at_ v_ w) (lw_V q131 q132 q133 q9 q134) 2 0 0 rfl rfl rfl (by decide +kernel) rfl hl.1 rfl (Nat.le_of_ble_eq_true rfl) dL_law_231 ⟨Nat.le_of_ble_eq_true rfl, Nat.le_of_ble_eq_true rfl⟩ ⟨by show _ ≤ 1200000; omega, by show _ ≤ 5502250; omega⟩ rfl rfl rfl rfl (by decide) (fun _ H locs hw hP hD hS => ?_)
      have hP : va_P D zk_cl [(qq, .inl (cS, 4, .inr (.inr (.inr (.inr ((va_up (va_up (va_up (va_up (fun _ => none) 0 (some s0)) 1 (some s1)) 2 (some s2)) 3 (some s3)))))))), (qx, .inl (tI, 72, .inl w)), (s0, .inr (2, [.int (nI (zk_sd 0)), .ref a0])), (a0, .inl (tI, (zk_sd 0 * zk_sd 0), .inl (zk_T (zk_LL 0)))), (s1, .inr (2, [.int (nI (zk_sd 1)), .ref a1])), (a1, .inl (tI, (zk_sd 1 * zk_sd 1), .inl (zk_T (zk_LL 1)))), (s2, .inr (2, [.int (nI (zk_sd 2)), .ref a2])), (a2, .inl (tI, (zk_sd 2 * zk_sd 2), .inl (zk_T (zk_LL 2)))), (s3, .inr (2, [.int (nI (zk_sd 3)), .ref a3])), (a3, .inl (tI, (zk_sd 3 * zk_sd 3), .inl (zk_T (zk_LL 3)))), (d, .inr (0, [.ref qw, .ref qd, .int vs])), (qw, .inl (tC, 72, .inl (upd w (zk_ab at_ % 72) (v_ &&& 255))))] H := hP
      have hD : va_D A [(qq, .inl (cS, 4, .inr (.inr (.inr (.inr ((va_up (va_up (va_up (va_up (fun _ => none) 0 (some s0)) 1 (some s1)) 2 (some s2)) 3 (some s3)))))))), (qx, .inl (tI, 72, .inl w)), (s0, .inr (2, [.int (nI (zk_sd 0)), .ref a0])), (a0, .inl (tI, (zk_sd 0 * zk_sd 0), .inl (zk_T (zk_LL 0)))), (s1, .inr (2, [.int (nI (zk_sd 1)), .ref a1])), (a1, .inl (tI, (zk_sd 1 * zk_sd 1), .inl (zk_T (zk_LL 1)))), (s2, .inr (2, [.int (nI (zk_sd 2)), .ref a2])), (a2, .inl (tI, (zk_sd 2 * zk_sd 2), .inl (zk_T (zk_LL 2)))), (s3, .inr (2, [.int (nI (zk_sd 3)), .ref a3])), (a3, .inl (tI, (zk_sd 3 * zk_sd 3), .inl (zk_T (zk_LL 3)))), (d, .inr (0, [.ref qw, .ref qd, .int vs])), (qw, .inl (tC, 72, .inl (upd w (zk_ab at_ % 72) (v_ &&& 255))))] := hD
      refine lv_aload_n hx hb dL_law_234 rfl (lv_at hl 7 rfl) ?_
      refine lv_iload hx hb dL_law_235 (lv_at hl 2 rfl) ?_
      refine zk_Si CX hP hD hS ([(qq, .inl (cS, 4, .inr (.inr (.inr (.inr ((va_up (va_up (va_up (va_up (fun _ => none) 0 (some s0)) 1 (some s1)) 2 (some s2)) 3 (some s3)))))))), (qx, .inl (tI, 72, .inl w)), (s0, .inr (2, [.int (nI (zk_sd 0)), .ref a0])), (a0, .inl (tI, (zk_sd 0 * zk_sd 0), .inl (zk_T (zk_LL 0)))), (s1, .inr (2, [.int (nI (zk_sd 1)), .ref a1])), (a1, .inl (tI, (zk_sd 1 * zk_sd 1), .inl (zk_T (zk_LL 1)))), (s2, .inr (2, [.int (nI (zk_sd 2)), .ref a2])), (a2, .inl (tI, (zk_sd 2 * zk_sd 2), .inl (zk_T (zk_LL 2)))), (s3, .inr (2, [.int (nI (zk_sd 3)), .ref a3])), (a3, .inl (tI, (zk_sd 3 * zk_sd 3), .inl (zk_T (zk_LL 3)))), (d, .inr (0, [.ref qw, .ref qd, .int vs])), (qw, .inl (tC, 72, .inl (upd w (zk_ab at_ % 72) (v_ &&& 255))))]) [] [0, 1, 2, 3, 4, 5, 6, 7, 8, 9, 10, 11] (metX0_bare l D tB tC tI _ at_) (lw_S q260 q261 q8 q262) 1 (by decide +kernel) rfl hl.1 rfl (Nat.le_of_ble_eq_true rfl) dL_law_237 ⟨Nat.le_of_ble_eq_true rfl, Nat.le_of_ble_eq_true rfl⟩ ⟨by show _ ≤ 1200000; omega, by show _ ≤ 5502250; omega⟩ rfl rfl rfl rfl (by decide) (fun r_b _ H locs hwb hP hD hS => ?_)
      have hP : va_P D zk_cl [(qq, .inl (cS, 4, .inr (.inr (.inr (.inr ((va_up (va_up (va_up (va_up (fun _ => none) 0 (some s0)) 1 (some s1)) 2 (some s2)) 3 (some s3)))))))), (qx, .inl (tI, 72, .inl w)), (s0, .inr (2, [.int (nI (zk_sd 0)), .ref a0])), (a0, .inl (tI, (zk_sd 0 * zk_sd 0), .inl (zk_T (zk_LL 0)))), (s1, .inr (2, [.int (nI (zk_sd 1)), .ref a1])), (a1, .inl (tI, (zk_sd 1 * zk_sd 1), .inl (zk_T (zk_LL 1)))), (s2, .inr (2, [.int (nI (zk_sd 2)), .ref a2])), (a2, .inl (tI, (zk_sd 2 * zk_sd 2), .inl (zk_T (zk_LL 2)))), (s3, .inr (2, [.int (nI (zk_sd 3)), .ref a3])), (a3, .inl (tI, (zk_sd 3 * zk_sd 3), .inl (zk_T (zk_LL 3)))), (d, .inr (0, [.ref qw, .ref qd, .int vs])), (qw, .inl (tC, 72, .inl (upd w (zk_ab at_ % 72) (v_ &&& 255))))] H := hP
      have hD : va_D A [(qq, .inl (cS, 4, .inr (.inr (.inr (.inr ((va_up (va_up (va_up (va_up (fun _ => none) 0 (some s0)) 1 (some s1)) 2 (some s2)) 3 (some s3)))))))), (qx, .inl (tI, 72, .inl w)), (s0, .inr (2, [.int (nI (zk_sd 0)), .ref a0])), (a0, .inl (tI, (zk_sd 0 * zk_sd 0), .inl (zk_T (zk_LL 0)))), (s1, .inr (2, [.int (nI (zk_sd 1)), .ref a1])), (a1, .inl (tI, (zk_sd 1 * zk_sd 1), .inl (zk_T (zk_LL 1)))), (s2, .inr (2, [.int (nI (zk_sd 2)), .ref a2])), (a2, .inl (tI, (zk_sd 2 * zk_sd 2), .inl (zk_T (zk_LL 2)))), (s3, .inr (2, [.int (nI (zk_sd 3)), .ref a3])), (a3, .inl (tI, (zk_sd 3 * zk_sd 3), .inl (zk_T (zk_LL 3)))), (d, .inr (0, [.ref qw, .ref qd, .int vs])), (qw, .inl (tC, 72, .inl (upd w (zk_ab at_ % 72) (v_ &&& 255))))] := hD
      subst hwb
      refine lv_bipush (v := 72) hx hb dL_law_240 (by decide) ?_
      refine lv_irem hx hb dL_law_242 (by decide) ?_
      refine lv_topi (fun t_8 et_8 => ?_)
      have et_8 : t_8 = nI (zk_ab at_ % 72) := et_8.trans (pk_rem (d := 72) (zk_ab_lt at_) (by decide) (by decide))
      subst et_8
      refine lv_iload hx hb dL_law_243 (lv_at hl 1 rfl) ?_
      refine lv_sipush (v := 255) hx hb dL_law_245 (by decide) ?_
      refine lv_iand hx hb dL_law_248 ?_
      refine va_iast hx hb hK hP hD hS 1 2 rfl rfl (vp_in_nI (Nat.mod_lt _ (by decide)) (by decide)) dL_law_249 (fun H locs hP hD hS => ?_)
      have hP : va_P D zk_cl [(qq, .inl (cS, 4, .inr (.inr (.inr (.inr ((va_up (va_up (va_up (va_up (fun _ => none) 0 (some s0)) 1 (some s1)) 2 (some s2)) 3 (some s3)))))))), (qx, .inl (tI, 72, .inl (upd w (nI (zk_ab at_ % 72)).toNatClampNeg (v_ &&& 255)))), (s0, .inr (2, [.int (nI (zk_sd 0)), .ref a0])), (a0, .inl (tI, (zk_sd 0 * zk_sd 0), .inl (zk_T (zk_LL 0)))), (s1, .inr (2, [.int (nI (zk_sd 1)), .ref a1])), (a1, .inl (tI, (zk_sd 1 * zk_sd 1), .inl (zk_T (zk_LL 1)))), (s2, .inr (2, [.int (nI (zk_sd 2)), .ref a2])), (a2, .inl (tI, (zk_sd 2 * zk_sd 2), .inl (zk_T (zk_LL 2)))), (s3, .inr (2, [.int (nI (zk_sd 3)), .ref a3])), (a3, .inl (tI, (zk_sd 3 * zk_sd 3), .inl (zk_T (zk_LL 3)))), (d, .inr (0, [.ref qw, .ref qd, .int vs])), (qw, .inl (tC, 72, .inl (upd w (zk_ab at_ % 72) (v_ &&& 255))))] H := hP
      have hD : va_D A [(qq, .inl (cS, 4, .inr (.inr (.inr (.inr ((va_up (va_up (va_up (va_up (fun _ => none) 0 (some s0)) 1 (some s1)) 2 (some s2)) 3 (some s3)))))))), (qx, .inl (tI, 72, .inl (upd w (nI (zk_ab at_ % 72)).toNatClampNeg (v_ &&& 255)))), (s0, .inr (2, [.int (nI (zk_sd 0)), .ref a0])), (a0, .inl (tI, (zk_sd 0 * zk_sd 0), .inl (zk_T (zk_LL 0)))), (s1, .inr (2, [.int (nI (zk_sd 1)), .ref a1])), (a1, .inl (tI, (zk_sd 1 * zk_sd 1), .inl (zk_T (zk_LL 1)))), (s2, .inr (2, [.int (nI (zk_sd 2)), .ref a2])), (a2, .inl (tI, (zk_sd 2 * zk_sd 2), .inl (zk_T (zk_LL 2)))), (s3, .inr (2, [.int (nI (zk_sd 3)), .ref a3])), (a3, .inl (tI, (zk_sd 3 * zk_sd 3), .inl (zk_T (zk_LL 3)))), (d, .inr (0, [.ref qw, .ref qd, .int vs])), (qw, .inl (tC, 72, .inl (upd w (zk_ab at_ % 72) (v_ &&& 255))))] := hD
      have ef_ : upd w (nI (zk_ab at_ % 72)).toNatClampNeg (v_ &&& 255) = upd w (zk_ab at_ % 72) (v_ &&& 255) := by rw [nI_clamp (Nat.lt_trans (Nat.mod_lt _ (by decide)) (by decide))]
      rw [ef_] at hP hD
      clear ef_
      obtain ⟨w1, ew1⟩ : ∃ f : Nat → Int32, f = upd w (zk_ab at_ % 72) (v_ &&& 255) := ⟨_, rfl⟩
      rw [← ew1] at hP hD
      have hw1 : zk_W w1 := by rw [ew1]; exact zk_W_upd hw0 _ _
      refine lv_aload_n hx hb dL_law_250 rfl (lv_at hl 5 rfl) ?_
      refine lv_iload hx hb dL_law_251 (lv_at hl 0 rfl) ?_
      refine zk_Vv CX hP hD hS ([(qq, .inl (cS, 4, .inr (.inr (.inr (.inr ((va_up (va_up (va_up (va_up (fun _ => none) 0 (some s0)) 1 (some s1)) 2 (some s2)) 3 (some s3)))))))), (qx, .inl (tI, 72, .inl w1)), (s0, .inr (2, [.int (nI (zk_sd 0)), .ref a0])), (a0, .inl (tI, (zk_sd 0 * zk_sd 0), .inl (zk_T (zk_LL 0)))), (s1, .inr (2, [.int (nI (zk_sd 1)), .ref a1])), (a1, .inl (tI, (zk_sd 1 * zk_sd 1), .inl (zk_T (zk_LL 1)))), (s2, .inr (2, [.int (nI (zk_sd 2)), .ref a2])), (a2, .inl (tI, (zk_sd 2 * zk_sd 2), .inl (zk_T (zk_LL 2)))), (s3, .inr (2, [.int (nI (zk_sd 3)), .ref a3])), (a3, .inl (tI, (zk_sd 3 * zk_sd 3), .inl (zk_T (zk_LL 3))))]) [10, 11] [0, 1, 2, 3, 4, 5, 6, 7, 8, 9] (metX1_place l D tB tC tI _ d qw qd vs kd_ w1 hw1) (lw_V q136 q137 q138 q9 q139) 1 0 0 rfl rfl rfl (by decide +kernel) rfl hl.1 rfl (Nat.le_of_ble_eq_true rfl) dL_law_253 ⟨Nat.le_of_ble_eq_true rfl, Nat.le_of_ble_eq_true rfl⟩ ⟨by show _ ≤ 1200000; omega, by show _ ≤ 5502250; omega⟩ rfl rfl rfl rfl (by decide) (fun u_ H locs hw hP hD hS => ?_)
      obtain ⟨qd1, qs1, qb1⟩ := u_
      have hP : va_P D zk_cl [(qq, .inl (cS, 4, .inr (.inr (.inr (.inr ((va_up (va_up (va_up (va_up (fun _ => none) 0 (some s0)) 1 (some s1)) 2 (some s2)) 3 (some s3)))))))), (qx, .inl (tI, 72, .inl w1)), (s0, .inr (2, [.int (nI (zk_sd 0)), .ref a0])), (a0, .inl (tI, (zk_sd 0 * zk_sd 0), .inl (zk_T (zk_LL 0)))), (s1, .inr (2, [.int (nI (zk_sd 1)), .ref a1])), (a1, .inl (tI, (zk_sd 1 * zk_sd 1), .inl (zk_T (zk_LL 1)))), (s2, .inr (2, [.int (nI (zk_sd 2)), .ref a2])), (a2, .inl (tI, (zk_sd 2 * zk_sd 2), .inl (zk_T (zk_LL 2)))), (s3, .inr (2, [.int (nI (zk_sd 3)), .ref a3])), (a3, .inl (tI, (zk_sd 3 * zk_sd 3), .inl (zk_T (zk_LL 3)))), (d, .inr (0, [.ref qw, .ref qd1, .int (nI (zk_sd (zk_ki kd_)))])), (qw, .inl (tC, 72, .inl w1)), (qd1, .inr (1, [.ref qs1, .int (nI (zk_sd (zk_ki kd_))), .int (nI (zk_sd (zk_ki kd_))), .ref qb1])), (qb1, .inl (tB, (zk_sd (zk_ki kd_) * zk_sd (zk_ki kd_)), .inl (zk_Fin w1 (zk_sd (zk_ki kd_)) (zk_LL (zk_ki kd_)))))] H := hP
      have hD : va_D A [(qq, .inl (cS, 4, .inr (.inr (.inr (.inr ((va_up (va_up (va_up (va_up (fun _ => none) 0 (some s0)) 1 (some s1)) 2 (some s2)) 3 (some s3)))))))), (qx, .inl (tI, 72, .inl w1)), (s0, .inr (2, [.int (nI (zk_sd 0)), .ref a0])), (a0, .inl (tI, (zk_sd 0 * zk_sd 0), .inl (zk_T (zk_LL 0)))), (s1, .inr (2, [.int (nI (zk_sd 1)), .ref a1])), (a1, .inl (tI, (zk_sd 1 * zk_sd 1), .inl (zk_T (zk_LL 1)))), (s2, .inr (2, [.int (nI (zk_sd 2)), .ref a2])), (a2, .inl (tI, (zk_sd 2 * zk_sd 2), .inl (zk_T (zk_LL 2)))), (s3, .inr (2, [.int (nI (zk_sd 3)), .ref a3])), (a3, .inl (tI, (zk_sd 3 * zk_sd 3), .inl (zk_T (zk_LL 3)))), (d, .inr (0, [.ref qw, .ref qd1, .int (nI (zk_sd (zk_ki kd_)))])), (qw, .inl (tC, 72, .inl w1)), (qd1, .inr (1, [.ref qs1, .int (nI (zk_sd (zk_ki kd_))), .int (nI (zk_sd (zk_ki kd_))), .ref qb1])), (qb1, .inl (tB, (zk_sd (zk_ki kd_) * zk_sd (zk_ki kd_)), .inl (zk_Fin w1 (zk_sd (zk_ki kd_)) (zk_LL (zk_ki kd_)))))] := hD
      refine W.widen (k := (117 + 9 * r0) + 4) (n := (3595 + 624 * r0) + 276) (Nat.le_refl _) (Nat.le_refl _) ?_
      refine lv_bipush (v := 72) hx hb dL_law_256 (by decide) ?_
      refine zk_newI (N' := 72) CX hP hD hS (by decide) (by decide) (Nat.le_of_ble_eq_true rfl) (by show _ ≤ 1200000; omega) (by show _ ≤ 5502250; omega) dL_law_258 (fun ql H hP hD hS => ?_)
      have hP : va_P D zk_cl [(qq, .inl (cS, 4, .inr (.inr (.inr (.inr ((va_up (va_up (va_up (va_up (fun _ => none) 0 (some s0)) 1 (some s1)) 2 (some s2)) 3 (some s3)))))))), (qx, .inl (tI, 72, .inl w1)), (s0, .inr (2, [.int (nI (zk_sd 0)), .ref a0])), (a0, .inl (tI, (zk_sd 0 * zk_sd 0), .inl (zk_T (zk_LL 0)))), (s1, .inr (2, [.int (nI (zk_sd 1)), .ref a1])), (a1, .inl (tI, (zk_sd 1 * zk_sd 1), .inl (zk_T (zk_LL 1)))), (s2, .inr (2, [.int (nI (zk_sd 2)), .ref a2])), (a2, .inl (tI, (zk_sd 2 * zk_sd 2), .inl (zk_T (zk_LL 2)))), (s3, .inr (2, [.int (nI (zk_sd 3)), .ref a3])), (a3, .inl (tI, (zk_sd 3 * zk_sd 3), .inl (zk_T (zk_LL 3)))), (d, .inr (0, [.ref qw, .ref qd1, .int (nI (zk_sd (zk_ki kd_)))])), (qw, .inl (tC, 72, .inl w1)), (qd1, .inr (1, [.ref qs1, .int (nI (zk_sd (zk_ki kd_))), .int (nI (zk_sd (zk_ki kd_))), .ref qb1])), (qb1, .inl (tB, (zk_sd (zk_ki kd_) * zk_sd (zk_ki kd_)), .inl (zk_Fin w1 (zk_sd (zk_ki kd_)) (zk_LL (zk_ki kd_))))), (ql, .inl (tI, 72, .inl (fun _ => 0)))] H := hP
      have hD : va_D A [(qq, .inl (cS, 4, .inr (.inr (.inr (.inr ((va_up (va_up (va_up (va_up (fun _ => none) 0 (some s0)) 1 (some s1)) 2 (some s2)) 3 (some s3)))))))), (qx, .inl (tI, 72, .inl w1)), (s0, .inr (2, [.int (nI (zk_sd 0)), .ref a0])), (a0, .inl (tI, (zk_sd 0 * zk_sd 0), .inl (zk_T (zk_LL 0)))), (s1, .inr (2, [.int (nI (zk_sd 1)), .ref a1])), (a1, .inl (tI, (zk_sd 1 * zk_sd 1), .inl (zk_T (zk_LL 1)))), (s2, .inr (2, [.int (nI (zk_sd 2)), .ref a2])), (a2, .inl (tI, (zk_sd 2 * zk_sd 2), .inl (zk_T (zk_LL 2)))), (s3, .inr (2, [.int (nI (zk_sd 3)), .ref a3])), (a3, .inl (tI, (zk_sd 3 * zk_sd 3), .inl (zk_T (zk_LL 3)))), (d, .inr (0, [.ref qw, .ref qd1, .int (nI (zk_sd (zk_ki kd_)))])), (qw, .inl (tC, 72, .inl w1)), (qd1, .inr (1, [.ref qs1, .int (nI (zk_sd (zk_ki kd_))), .int (nI (zk_sd (zk_ki kd_))), .ref qb1])), (qb1, .inl (tB, (zk_sd (zk_ki kd_) * zk_sd (zk_ki kd_)), .inl (zk_Fin w1 (zk_sd (zk_ki kd_)) (zk_LL (zk_ki kd_))))), (ql, .inl (tI, 72, .inl (fun _ => 0)))] := hD
      refine W.widen (k := (117 + 9 * r0) + 4 + 1) (n := (3595 + 624 * r0) + 276 + 72) (Nat.le_refl _) (Nat.le_refl _) ?_
      refine lv_astore (lv' := [(8, .ref ql), (7, .int kd_), (6, .int v_), (5, .int at_), (4, .int (nI (6 * r0))), (0, .ref b), (1, .ref d), (2, .ref qq), (3, .ref qx)]) hx hb dL_law_260 hl (by decide) rfl (fun ls hl => ?_)
      refine lv_iconst (v := 0) hx hb dL_law_262 (by decide) ?_
      refine lv_istore (lv' := [(9, .int 0), (8, .ref ql), (7, .int kd_), (6, .int v_), (5, .int at_), (4, .int (nI (6 * r0))), (0, .ref b), (1, .ref d), (2, .ref qq), (3, .ref qx)]) hx hb dL_law_263 hl (by decide) rfl (fun ls hl => ?_)
      have hP := hP.sub (ws' := [(ql, .inl (tI, 72, .inl (fun _ => 0))), (qx, .inl (tI, 72, .inl w1)), (qq, .inl (cS, 4, .inr (.inr (.inr (.inr ((va_up (va_up (va_up (va_up (fun _ => none) 0 (some s0)) 1 (some s1)) 2 (some s2)) 3 (some s3)))))))), (s0, .inr (2, [.int (nI (zk_sd 0)), .ref a0])), (a0, .inl (tI, (zk_sd 0 * zk_sd 0), .inl (zk_T (zk_LL 0)))), (s1, .inr (2, [.int (nI (zk_sd 1)), .ref a1])), (a1, .inl (tI, (zk_sd 1 * zk_sd 1), .inl (zk_T (zk_LL 1)))), (s2, .inr (2, [.int (nI (zk_sd 2)), .ref a2])), (a2, .inl (tI, (zk_sd 2 * zk_sd 2), .inl (zk_T (zk_LL 2)))), (s3, .inr (2, [.int (nI (zk_sd 3)), .ref a3])), (a3, .inl (tI, (zk_sd 3 * zk_sd 3), .inl (zk_T (zk_LL 3)))), (d, .inr (0, [.ref qw, .ref qd1, .int (nI (zk_sd (zk_ki kd_)))])), (qw, .inl (tC, 72, .inl w1)), (qd1, .inr (1, [.ref qs1, .int (nI (zk_sd (zk_ki kd_))), .int (nI (zk_sd (zk_ki kd_))), .ref qb1])), (qb1, .inl (tB, (zk_sd (zk_ki kd_) * zk_sd (zk_ki kd_)), .inl (zk_Fin w1 (zk_sd (zk_ki kd_)) (zk_LL (zk_ki kd_)))))]) [14, 1, 0, 2, 3, 4, 5, 6, 7, 8, 9, 10, 11, 12, 13] rfl
      have hD := hD.sub (ws' := [(ql, .inl (tI, 72, .inl (fun _ => 0))), (qx, .inl (tI, 72, .inl w1)), (qq, .inl (cS, 4, .inr (.inr (.inr (.inr ((va_up (va_up (va_up (va_up (fun _ => none) 0 (some s0)) 1 (some s1)) 2 (some s2)) 3 (some s3)))))))), (s0, .inr (2, [.int (nI (zk_sd 0)), .ref a0])), (a0, .inl (tI, (zk_sd 0 * zk_sd 0), .inl (zk_T (zk_LL 0)))), (s1, .inr (2, [.int (nI (zk_sd 1)), .ref a1])), (a1, .inl (tI, (zk_sd 1 * zk_sd 1), .inl (zk_T (zk_LL 1)))), (s2, .inr (2, [.int (nI (zk_sd 2)), .ref a2])), (a2, .inl (tI, (zk_sd 2 * zk_sd 2), .inl (zk_T (zk_LL 2)))), (s3, .inr (2, [.int (nI (zk_sd 3)), .ref a3])), (a3, .inl (tI, (zk_sd 3 * zk_sd 3), .inl (zk_T (zk_LL 3)))), (d, .inr (0, [.ref qw, .ref qd1, .int (nI (zk_sd (zk_ki kd_)))])), (qw, .inl (tC, 72, .inl w1)), (qd1, .inr (1, [.ref qs1, .int (nI (zk_sd (zk_ki kd_))), .int (nI (zk_sd (zk_ki kd_))), .ref qb1])), (qb1, .inl (tB, (zk_sd (zk_ki kd_) * zk_sd (zk_ki kd_)), .inl (zk_Fin w1 (zk_sd (zk_ki kd_)) (zk_LL (zk_ki kd_)))))]) [14, 1, 0, 2, 3, 4, 5, 6, 7, 8, 9, 10, 11, 12, 13] (by decide) rfl
      have hh := zk_arr (k := 0) (f' := zk_cp w1 0) hP hD rfl (fun j _ => (if_neg (Nat.not_lt_zero j)).symm)
      refine zk_copy C2 (fun x9 H locs ls hP hD hS hl => ?_) 72 0 0 _ _ _ (by omega) (by omega) nI_0.symm hh.1 hh.2 hS (lv_sub hl [0, 6, 7, 8, 9, 5, 4, 3, 2, 1] rfl)
      have hP : va_P D zk_cl [(ql, .inl (tI, 72, .inl w1)), (qx, .inl (tI, 72, .inl w1)), (qq, .inl (cS, 4, .inr (.inr (.inr (.inr ((va_up (va_up (va_up (va_up (fun _ => none) 0 (some s0)) 1 (some s1)) 2 (some s2)) 3 (some s3)))))))), (s0, .inr (2, [.int (nI (zk_sd 0)), .ref a0])), (a0, .inl (tI, (zk_sd 0 * zk_sd 0), .inl (zk_T (zk_LL 0)))), (s1, .inr (2, [.int (nI (zk_sd 1)), .ref a1])), (a1, .inl (tI, (zk_sd 1 * zk_sd 1), .inl (zk_T (zk_LL 1)))), (s2, .inr (2, [.int (nI (zk_sd 2)), .ref a2])), (a2, .inl (tI, (zk_sd 2 * zk_sd 2), .inl (zk_T (zk_LL 2)))), (s3, .inr (2, [.int (nI (zk_sd 3)), .ref a3])), (a3, .inl (tI, (zk_sd 3 * zk_sd 3), .inl (zk_T (zk_LL 3)))), (d, .inr (0, [.ref qw, .ref qd1, .int (nI (zk_sd (zk_ki kd_)))])), (qw, .inl (tC, 72, .inl w1)), (qd1, .inr (1, [.ref qs1, .int (nI (zk_sd (zk_ki kd_))), .int (nI (zk_sd (zk_ki kd_))), .ref qb1])), (qb1, .inl (tB, (zk_sd (zk_ki kd_) * zk_sd (zk_ki kd_)), .inl (zk_Fin w1 (zk_sd (zk_ki kd_)) (zk_LL (zk_ki kd_)))))] H := hP
      have hD : va_D A [(ql, .inl (tI, 72, .inl w1)), (qx, .inl (tI, 72, .inl w1)), (qq, .inl (cS, 4, .inr (.inr (.inr (.inr ((va_up (va_up (va_up (va_up (fun _ => none) 0 (some s0)) 1 (some s1)) 2 (some s2)) 3 (some s3)))))))), (s0, .inr (2, [.int (nI (zk_sd 0)), .ref a0])), (a0, .inl (tI, (zk_sd 0 * zk_sd 0), .inl (zk_T (zk_LL 0)))), (s1, .inr (2, [.int (nI (zk_sd 1)), .ref a1])), (a1, .inl (tI, (zk_sd 1 * zk_sd 1), .inl (zk_T (zk_LL 1)))), (s2, .inr (2, [.int (nI (zk_sd 2)), .ref a2])), (a2, .inl (tI, (zk_sd 2 * zk_sd 2), .inl (zk_T (zk_LL 2)))), (s3, .inr (2, [.int (nI (zk_sd 3)), .ref a3])), (a3, .inl (tI, (zk_sd 3 * zk_sd 3), .inl (zk_T (zk_LL 3)))), (d, .inr (0, [.ref qw, .ref qd1, .int (nI (zk_sd (zk_ki kd_)))])), (qw, .inl (tC, 72, .inl w1)), (qd1, .inr (1, [.ref qs1, .int (nI (zk_sd (zk_ki kd_))), .int (nI (zk_sd (zk_ki kd_))), .ref qb1])), (qb1, .inl (tB, (zk_sd (zk_ki kd_) * zk_sd (zk_ki kd_)), .inl (zk_Fin w1 (zk_sd (zk_ki kd_)) (zk_LL (zk_ki kd_)))))] := hD
      refine lv_aload_n hx hb dL_law_287 rfl (lv_at hl 2 rfl) ?_
      refine lv_aload_n hx hb dL_law_288 rfl (lv_at hl 3 rfl) ?_
      refine lv_iload hx hb dL_law_289 (lv_at hl 8 rfl) ?_
      refine lv_iconst (v := 3) hx hb dL_law_291 (by decide) ?_
      refine lv_iand hx hb dL_law_292 ?_
      refine lv_topi (fun t_9 et_9 => ?_)
      have et_9 : t_9 = nI (zk_ki kd_) := et_9.trans (zk_k3 kd_)
      subst et_9
      refine va_aldq (C := RX3) hx hb hK4 hP 2 3 rfl rfl (vp_in_nI (zk_ki_lt kd_) (by decide)) dL_law_293 ?_
      refine W.eq (g2 := F0 m 294 ls [.ref (zk_sel (zk_ki kd_) s0 s1 s2 s3), .ref d]) (by rw [zk_fq (zk_ki_lt kd_)]) ?_
      refine lv_aload hx hb dL_law_294 (lv_at hl 9 rfl) ?_
      refine lv_iload hx hb dL_law_296 (lv_at hl 7 rfl) ?_
      refine lv_iload hx hb dL_law_298 (lv_at hl 6 rfl) ?_
      have hP := hP.sub (ws' := [(d, .inr (0, [.ref qw, .ref qd1, .int (nI (zk_sd (zk_ki kd_)))])), (qd1, .inr (1, [.ref qs1, .int (nI (zk_sd (zk_ki kd_))), .int (nI (zk_sd (zk_ki kd_))), .ref qb1])), (qb1, .inl (tB, (zk_sd (zk_ki kd_) * zk_sd (zk_ki kd_)), .inl (zk_Fin w1 (zk_sd (zk_ki kd_)) (zk_LL (zk_ki kd_))))), (ql, .inl (tI, 72, .inl w1)), (qw, .inl (tC, 72, .inl w1)), (qq, .inl (cS, 4, .inr (.inr (.inr (.inr ((va_up (va_up (va_up (va_up (fun _ => none) 0 (some s0)) 1 (some s1)) 2 (some s2)) 3 (some s3)))))))), (s0, .inr (2, [.int (nI (zk_sd 0)), .ref a0])), (a0, .inl (tI, (zk_sd 0 * zk_sd 0), .inl (zk_T (zk_LL 0)))), (s1, .inr (2, [.int (nI (zk_sd 1)), .ref a1])), (a1, .inl (tI, (zk_sd 1 * zk_sd 1), .inl (zk_T (zk_LL 1)))), (s2, .inr (2, [.int (nI (zk_sd 2)), .ref a2])), (a2, .inl (tI, (zk_sd 2 * zk_sd 2), .inl (zk_T (zk_LL 2)))), (s3, .inr (2, [.int (nI (zk_sd 3)), .ref a3])), (a3, .inl (tI, (zk_sd 3 * zk_sd 3), .inl (zk_T (zk_LL 3)))), (qx, .inl (tI, 72, .inl w1))]) [11, 13, 14, 0, 12, 2, 3, 4, 5, 6, 7, 8, 9, 10, 1] rfl
      have hD := hD.sub (ws' := [(d, .inr (0, [.ref qw, .ref qd1, .int (nI (zk_sd (zk_ki kd_)))])), (qd1, .inr (1, [.ref qs1, .int (nI (zk_sd (zk_ki kd_))), .int (nI (zk_sd (zk_ki kd_))), .ref qb1])), (qb1, .inl (tB, (zk_sd (zk_ki kd_) * zk_sd (zk_ki kd_)), .inl (zk_Fin w1 (zk_sd (zk_ki kd_)) (zk_LL (zk_ki kd_))))), (ql, .inl (tI, 72, .inl w1)), (qw, .inl (tC, 72, .inl w1)), (qq, .inl (cS, 4, .inr (.inr (.inr (.inr ((va_up (va_up (va_up (va_up (fun _ => none) 0 (some s0)) 1 (some s1)) 2 (some s2)) 3 (some s3)))))))), (s0, .inr (2, [.int (nI (zk_sd 0)), .ref a0])), (a0, .inl (tI, (zk_sd 0 * zk_sd 0), .inl (zk_T (zk_LL 0)))), (s1, .inr (2, [.int (nI (zk_sd 1)), .ref a1])), (a1, .inl (tI, (zk_sd 1 * zk_sd 1), .inl (zk_T (zk_LL 1)))), (s2, .inr (2, [.int (nI (zk_sd 2)), .ref a2])), (a2, .inl (tI, (zk_sd 2 * zk_sd 2), .inl (zk_T (zk_LL 2)))), (s3, .inr (2, [.int (nI (zk_sd 3)), .ref a3])), (a3, .inl (tI, (zk_sd 3 * zk_sd 3), .inl (zk_T (zk_LL 3)))), (qx, .inl (tI, 72, .inl w1))]) [11, 13, 14, 0, 12, 2, 3, 4, 5, 6, 7, 8, 9, 10, 1] (by decide) rfl
      refine zk_laidc (i := zk_ki kd_) C2 (zk_ki_lt kd_) (fun y x hy hx0 => zk_rel (zk_ki_lt kd_) hw1 hy hx0) hP hD hS hl.1 dL_law_300 (by omega) (by omega) (fun H locs hP hD hS => ?_)
      have hP : va_P D zk_cl [(d, .inr (0, [.ref qw, .ref qd1, .int (nI (zk_sd (zk_ki kd_)))])), (qd1, .inr (1, [.ref qs1, .int (nI (zk_sd (zk_ki kd_))), .int (nI (zk_sd (zk_ki kd_))), .ref qb1])), (qb1, .inl (tB, (zk_sd (zk_ki kd_) * zk_sd (zk_ki kd_)), .inl (zk_Fin w1 (zk_sd (zk_ki kd_)) (zk_LL (zk_ki kd_))))), (ql, .inl (tI, 72, .inl w1)), (qw, .inl (tC, 72, .inl w1)), (qq, .inl (cS, 4, .inr (.inr (.inr (.inr ((va_up (va_up (va_up (va_up (fun _ => none) 0 (some s0)) 1 (some s1)) 2 (some s2)) 3 (some s3)))))))), (s0, .inr (2, [.int (nI (zk_sd 0)), .ref a0])), (a0, .inl (tI, (zk_sd 0 * zk_sd 0), .inl (zk_T (zk_LL 0)))), (s1, .inr (2, [.int (nI (zk_sd 1)), .ref a1])), (a1, .inl (tI, (zk_sd 1 * zk_sd 1), .inl (zk_T (zk_LL 1)))), (s2, .inr (2, [.int (nI (zk_sd 2)), .ref a2])), (a2, .inl (tI, (zk_sd 2 * zk_sd 2), .inl (zk_T (zk_LL 2)))), (s3, .inr (2, [.int (nI (zk_sd 3)), .ref a3])), (a3, .inl (tI, (zk_sd 3 * zk_sd 3), .inl (zk_T (zk_LL 3)))), (qx, .inl (tI, 72, .inl w1))] H := hP
      have hD : va_D A [(d, .inr (0, [.ref qw, .ref qd1, .int (nI (zk_sd (zk_ki kd_)))])), (qd1, .inr (1, [.ref qs1, .int (nI (zk_sd (zk_ki kd_))), .int (nI (zk_sd (zk_ki kd_))), .ref qb1])), (qb1, .inl (tB, (zk_sd (zk_ki kd_) * zk_sd (zk_ki kd_)), .inl (zk_Fin w1 (zk_sd (zk_ki kd_)) (zk_LL (zk_ki kd_))))), (ql, .inl (tI, 72, .inl w1)), (qw, .inl (tC, 72, .inl w1)), (qq, .inl (cS, 4, .inr (.inr (.inr (.inr ((va_up (va_up (va_up (va_up (fun _ => none) 0 (some s0)) 1 (some s1)) 2 (some s2)) 3 (some s3)))))))), (s0, .inr (2, [.int (nI (zk_sd 0)), .ref a0])), (a0, .inl (tI, (zk_sd 0 * zk_sd 0), .inl (zk_T (zk_LL 0)))), (s1, .inr (2, [.int (nI (zk_sd 1)), .ref a1])), (a1, .inl (tI, (zk_sd 1 * zk_sd 1), .inl (zk_T (zk_LL 1)))), (s2, .inr (2, [.int (nI (zk_sd 2)), .ref a2])), (a2, .inl (tI, (zk_sd 2 * zk_sd 2), .inl (zk_T (zk_LL 2)))), (s3, .inr (2, [.int (nI (zk_sd 3)), .ref a3])), (a3, .inl (tI, (zk_sd 3 * zk_sd 3), .inl (zk_T (zk_LL 3)))), (qx, .inl (tI, 72, .inl w1))] := hD
      refine lv_if_ne (tgt := 308) hx hb dL_law_303 (by decide) (fun h_ => ?_) (fun h_ => absurd h_ (by decide))
      refine lv_aload_n hx hb dL_law_308 rfl (lv_at hl 1 rfl) ?_
      refine lv_iload hx hb dL_law_309 (lv_at hl 5 rfl) ?_
      refine lv_iconst (v := 3) hx hb dL_law_311 (by decide) ?_
      refine lv_iadd hx hb dL_law_312 ?_
      refine lv_topi (fun t_10 et_10 => ?_)
      have et_10 : t_10 = nI (6 * r0 + 3) := et_10.trans (nI_add (6 * r0) 3)
      subst et_10
      refine zk_cellc (k := 6 * r0 + 3) CX hX hbl hbA hP hD hS (lw_S q257 q258 q8 q259) hL (by omega) hl.1 rfl (Nat.le_of_ble_eq_true rfl) dL_law_313 ⟨Nat.le_of_ble_eq_true rfl, Nat.le_of_ble_eq_true rfl⟩ ⟨by show _ ≤ 1200000; omega, by show _ ≤ 5502250; omega⟩ (fun H locs hP hD hS => ?_)
      refine lv_topi (fun nx_ enx_ => ?_)
      refine lv_istore (lv' := [(9, .int nx_), (0, .ref b), (1, .ref d), (2, .ref qq), (3, .ref qx), (4, .int (nI (6 * r0))), (5, .int at_), (6, .int v_), (7, .int kd_), (8, .ref ql)]) hx hb dL_law_316 hl (by decide) rfl (fun ls hl => ?_)
      refine lv_aload_n hx hb dL_law_318 rfl (lv_at hl 2 rfl) ?_
      refine lv_iload hx hb dL_law_319 (lv_at hl 0 rfl) ?_
      refine lv_aload_n hx hb dL_law_321 rfl (lv_at hl 4 rfl) ?_
      refine lv_iload hx hb dL_law_322 (lv_at hl 0 rfl) ?_
      refine zk_Si CX hP hD hS ([(d, .inr (0, [.ref qw, .ref qd1, .int (nI (zk_sd (zk_ki kd_)))])), (qd1, .inr (1, [.ref qs1, .int (nI (zk_sd (zk_ki kd_))), .int (nI (zk_sd (zk_ki kd_))), .ref qb1])), (qb1, .inl (tB, (zk_sd (zk_ki kd_) * zk_sd (zk_ki kd_)), .inl (zk_Fin w1 (zk_sd (zk_ki kd_)) (zk_LL (zk_ki kd_))))), (ql, .inl (tI, 72, .inl w1)), (qw, .inl (tC, 72, .inl w1)), (qq, .inl (cS, 4, .inr (.inr (.inr (.inr ((va_up (va_up (va_up (va_up (fun _ => none) 0 (some s0)) 1 (some s1)) 2 (some s2)) 3 (some s3)))))))), (s0, .inr (2, [.int (nI (zk_sd 0)), .ref a0])), (a0, .inl (tI, (zk_sd 0 * zk_sd 0), .inl (zk_T (zk_LL 0)))), (s1, .inr (2, [.int (nI (zk_sd 1)), .ref a1])), (a1, .inl (tI, (zk_sd 1 * zk_sd 1), .inl (zk_T (zk_LL 1)))), (s2, .inr (2, [.int (nI (zk_sd 2)), .ref a2])), (a2, .inl (tI, (zk_sd 2 * zk_sd 2), .inl (zk_T (zk_LL 2)))), (s3, .inr (2, [.int (nI (zk_sd 3)), .ref a3])), (a3, .inl (tI, (zk_sd 3 * zk_sd 3), .inl (zk_T (zk_LL 3)))), (qx, .inl (tI, 72, .inl w1))]) [] [0, 1, 2, 3, 4, 5, 6, 7, 8, 9, 10, 11, 12, 13, 14] (metX0_bare l D tB tC tI _ nx_) (lw_S q260 q261 q8 q262) 1 (by decide +kernel) rfl hl.1 rfl (Nat.le_of_ble_eq_true rfl) dL_law_324 ⟨Nat.le_of_ble_eq_true rfl, Nat.le_of_ble_eq_true rfl⟩ ⟨by show _ ≤ 1200000; omega, by show _ ≤ 5502250; omega⟩ rfl rfl rfl rfl (by decide) (fun r_b _ H locs hwb hP hD hS => ?_)
      have hP : va_P D zk_cl [(d, .inr (0, [.ref qw, .ref qd1, .int (nI (zk_sd (zk_ki kd_)))])), (qd1, .inr (1, [.ref qs1, .int (nI (zk_sd (zk_ki kd_))), .int (nI (zk_sd (zk_ki kd_))), .ref qb1])), (qb1, .inl (tB, (zk_sd (zk_ki kd_) * zk_sd (zk_ki kd_)), .inl (zk_Fin w1 (zk_sd (zk_ki kd_)) (zk_LL (zk_ki kd_))))), (ql, .inl (tI, 72, .inl w1)), (qw, .inl (tC, 72, .inl w1)), (qq, .inl (cS, 4, .inr (.inr (.inr (.inr ((va_up (va_up (va_up (va_up (fun _ => none) 0 (some s0)) 1 (some s1)) 2 (some s2)) 3 (some s3)))))))), (s0, .inr (2, [.int (nI (zk_sd 0)), .ref a0])), (a0, .inl (tI, (zk_sd 0 * zk_sd 0), .inl (zk_T (zk_LL 0)))), (s1, .inr (2, [.int (nI (zk_sd 1)), .ref a1])), (a1, .inl (tI, (zk_sd 1 * zk_sd 1), .inl (zk_T (zk_LL 1)))), (s2, .inr (2, [.int (nI (zk_sd 2)), .ref a2])), (a2, .inl (tI, (zk_sd 2 * zk_sd 2), .inl (zk_T (zk_LL 2)))), (s3, .inr (2, [.int (nI (zk_sd 3)), .ref a3])), (a3, .inl (tI, (zk_sd 3 * zk_sd 3), .inl (zk_T (zk_LL 3)))), (qx, .inl (tI, 72, .inl w1))] H := hP
      have hD : va_D A [(d, .inr (0, [.ref qw, .ref qd1, .int (nI (zk_sd (zk_ki kd_)))])), (qd1, .inr (1, [.ref qs1, .int (nI (zk_sd (zk_ki kd_))), .int (nI (zk_sd (zk_ki kd_))), .ref qb1])), (qb1, .inl (tB, (zk_sd (zk_ki kd_) * zk_sd (zk_ki kd_)), .inl (zk_Fin w1 (zk_sd (zk_ki kd_)) (zk_LL (zk_ki kd_))))), (ql, .inl (tI, 72, .inl w1)), (qw, .inl (tC, 72, .inl w1)), (qq, .inl (cS, 4, .inr (.inr (.inr (.inr ((va_up (va_up (va_up (va_up (fun _ => none) 0 (some s0)) 1 (some s1)) 2 (some s2)) 3 (some s3)))))))), (s0, .inr (2, [.int (nI (zk_sd 0)), .ref a0])), (a0, .inl (tI, (zk_sd 0 * zk_sd 0), .inl (zk_T (zk_LL 0)))), (s1, .inr (2, [.int (nI (zk_sd 1)), .ref a1])), (a1, .inl (tI, (zk_sd 1 * zk_sd 1), .inl (zk_T (zk_LL 1)))), (s2, .inr (2, [.int (nI (zk_sd 2)), .ref a2])), (a2, .inl (tI, (zk_sd 2 * zk_sd 2), .inl (zk_T (zk_LL 2)))), (s3, .inr (2, [.int (nI (zk_sd 3)), .ref a3])), (a3, .inl (tI, (zk_sd 3 * zk_sd 3), .inl (zk_T (zk_LL 3)))), (qx, .inl (tI, 72, .inl w1))] := hD
      subst hwb
      refine lv_bipush (v := 72) hx hb dL_law_327 (by decide) ?_
      refine lv_irem hx hb dL_law_329 (by decide) ?_
      refine lv_topi (fun t_12 et_12 => ?_)
      have et_12 : t_12 = nI (zk_ab nx_ % 72) := et_12.trans (pk_rem (d := 72) (zk_ab_lt nx_) (by decide) (by decide))
      subst et_12
      refine va_iald hx hb hK hP 14 2 rfl rfl (vp_in_nI (Nat.mod_lt _ (by decide)) (by decide)) dL_law_330 ?_
      refine lv_topi (fun t_13 et_13 => ?_)
      have et_13 : t_13 = w1 (zk_ab nx_ % 72) := et_13.trans (congrArg w1 (nI_clamp (Nat.lt_trans (Nat.mod_lt _ (by decide)) (by decide))))
      subst et_13
      refine lv_iconst (v := (-1)) hx hb dL_law_331 (by decide) ?_
      refine lv_ixor hx hb dL_law_332 ?_
      refine zk_Vv CX hP hD hS ([(qd1, .inr (1, [.ref qs1, .int (nI (zk_sd (zk_ki kd_))), .int (nI (zk_sd (zk_ki kd_))), .ref qb1])), (qb1, .inl (tB, (zk_sd (zk_ki kd_) * zk_sd (zk_ki kd_)), .inl (zk_Fin w1 (zk_sd (zk_ki kd_)) (zk_LL (zk_ki kd_))))), (ql, .inl (tI, 72, .inl w1)), (qq, .inl (cS, 4, .inr (.inr (.inr (.inr ((va_up (va_up (va_up (va_up (fun _ => none) 0 (some s0)) 1 (some s1)) 2 (some s2)) 3 (some s3)))))))), (s0, .inr (2, [.int (nI (zk_sd 0)), .ref a0])), (a0, .inl (tI, (zk_sd 0 * zk_sd 0), .inl (zk_T (zk_LL 0)))), (s1, .inr (2, [.int (nI (zk_sd 1)), .ref a1])), (a1, .inl (tI, (zk_sd 1 * zk_sd 1), .inl (zk_T (zk_LL 1)))), (s2, .inr (2, [.int (nI (zk_sd 2)), .ref a2])), (a2, .inl (tI, (zk_sd 2 * zk_sd 2), .inl (zk_T (zk_LL 2)))), (s3, .inr (2, [.int (nI (zk_sd 3)), .ref a3])), (a3, .inl (tI, (zk_sd 3 * zk_sd 3), .inl (zk_T (zk_LL 3)))), (qx, .inl (tI, 72, .inl w1))]) [0, 4] [1, 2, 3, 5, 6, 7, 8, 9, 10, 11, 12, 13, 14] (metX1_put l D tB tC tI _ d qw qd1 (nI (zk_sd (zk_ki kd_))) nx_ (w1 (zk_ab nx_ % 72) ^^^ (-1)) w1) (lw_V q131 q132 q133 q9 q134) 2 0 0 rfl rfl rfl (by decide +kernel) rfl hl.1 rfl (Nat.le_of_ble_eq_true rfl) dL_law_333 ⟨Nat.le_of_ble_eq_true rfl, Nat.le_of_ble_eq_true rfl⟩ ⟨by show _ ≤ 1200000; omega, by show _ ≤ 5502250; omega⟩ rfl rfl rfl rfl (by decide) (fun _ H locs hw hP hD hS => ?_)
      have hP : va_P D zk_cl [(qd1, .inr (1, [.ref qs1, .int (nI (zk_sd (zk_ki kd_))), .int (nI (zk_sd (zk_ki kd_))), .ref qb1])), (qb1, .inl (tB, (zk_sd (zk_ki kd_) * zk_sd (zk_ki kd_)), .inl (zk_Fin w1 (zk_sd (zk_ki kd_)) (zk_LL (zk_ki kd_))))), (ql, .inl (tI, 72, .inl w1)), (qq, .inl (cS, 4, .inr (.inr (.inr (.inr ((va_up (va_up (va_up (va_up (fun _ => none) 0 (some s0)) 1 (some s1)) 2 (some s2)) 3 (some s3)))))))), (s0, .inr (2, [.int (nI (zk_sd 0)), .ref a0])), (a0, .inl (tI, (zk_sd 0 * zk_sd 0), .inl (zk_T (zk_LL 0)))), (s1, .inr (2, [.int (nI (zk_sd 1)), .ref a1])), (a1, .inl (tI, (zk_sd 1 * zk_sd 1), .inl (zk_T (zk_LL 1)))), (s2, .inr (2, [.int (nI (zk_sd 2)), .ref a2])), (a2, .inl (tI, (zk_sd 2 * zk_sd 2), .inl (zk_T (zk_LL 2)))), (s3, .inr (2, [.int (nI (zk_sd 3)), .ref a3])), (a3, .inl (tI, (zk_sd 3 * zk_sd 3), .inl (zk_T (zk_LL 3)))), (qx, .inl (tI, 72, .inl w1)), (d, .inr (0, [.ref qw, .ref qd1, .int (nI (zk_sd (zk_ki kd_)))])), (qw, .inl (tC, 72, .inl (upd w1 (zk_ab nx_ % 72) ((w1 (zk_ab nx_ % 72) ^^^ (-1)) &&& 255))))] H := hP
      have hD : va_D A [(qd1, .inr (1, [.ref qs1, .int (nI (zk_sd (zk_ki kd_))), .int (nI (zk_sd (zk_ki kd_))), .ref qb1])), (qb1, .inl (tB, (zk_sd (zk_ki kd_) * zk_sd (zk_ki kd_)), .inl (zk_Fin w1 (zk_sd (zk_ki kd_)) (zk_LL (zk_ki kd_))))), (ql, .inl (tI, 72, .inl w1)), (qq, .inl (cS, 4, .inr (.inr (.inr (.inr ((va_up (va_up (va_up (va_up (fun _ => none) 0 (some s0)) 1 (some s1)) 2 (some s2)) 3 (some s3)))))))), (s0, .inr (2, [.int (nI (zk_sd 0)), .ref a0])), (a0, .inl (tI, (zk_sd 0 * zk_sd 0), .inl (zk_T (zk_LL 0)))), (s1, .inr (2, [.int (nI (zk_sd 1)), .ref a1])), (a1, .inl (tI, (zk_sd 1 * zk_sd 1), .inl (zk_T (zk_LL 1)))), (s2, .inr (2, [.int (nI (zk_sd 2)), .ref a2])), (a2, .inl (tI, (zk_sd 2 * zk_sd 2), .inl (zk_T (zk_LL 2)))), (s3, .inr (2, [.int (nI (zk_sd 3)), .ref a3])), (a3, .inl (tI, (zk_sd 3 * zk_sd 3), .inl (zk_T (zk_LL 3)))), (qx, .inl (tI, 72, .inl w1)), (d, .inr (0, [.ref qw, .ref qd1, .int (nI (zk_sd (zk_ki kd_)))])), (qw, .inl (tC, 72, .inl (upd w1 (zk_ab nx_ % 72) ((w1 (zk_ab nx_ % 72) ^^^ (-1)) &&& 255))))] := hD
      refine lv_aload_n hx hb dL_law_336 rfl (lv_at hl 4 rfl) ?_
      refine lv_iload hx hb dL_law_337 (lv_at hl 0 rfl) ?_
      refine zk_Si CX hP hD hS ([(qd1, .inr (1, [.ref qs1, .int (nI (zk_sd (zk_ki kd_))), .int (nI (zk_sd (zk_ki kd_))), .ref qb1])), (qb1, .inl (tB, (zk_sd (zk_ki kd_) * zk_sd (zk_ki kd_)), .inl (zk_Fin w1 (zk_sd (zk_ki kd_)) (zk_LL (zk_ki kd_))))), (ql, .inl (tI, 72, .inl w1)), (qq, .inl (cS, 4, .inr (.inr (.inr (.inr ((va_up (va_up (va_up (va_up (fun _ => none) 0 (some s0)) 1 (some s1)) 2 (some s2)) 3 (some s3)))))))), (s0, .inr (2, [.int (nI (zk_sd 0)), .ref a0])), (a0, .inl (tI, (zk_sd 0 * zk_sd 0), .inl (zk_T (zk_LL 0)))), (s1, .inr (2, [.int (nI (zk_sd 1)), .ref a1])), (a1, .inl (tI, (zk_sd 1 * zk_sd 1), .inl (zk_T (zk_LL 1)))), (s2, .inr (2, [.int (nI (zk_sd 2)), .ref a2])), (a2, .inl (tI, (zk_sd 2 * zk_sd 2), .inl (zk_T (zk_LL 2)))), (s3, .inr (2, [.int (nI (zk_sd 3)), .ref a3])), (a3, .inl (tI, (zk_sd 3 * zk_sd 3), .inl (zk_T (zk_LL 3)))), (qx, .inl (tI, 72, .inl w1)), (d, .inr (0, [.ref qw, .ref qd1, .int (nI (zk_sd (zk_ki kd_)))])), (qw, .inl (tC, 72, .inl (upd w1 (zk_ab nx_ % 72) ((w1 (zk_ab nx_ % 72) ^^^ (-1)) &&& 255))))]) [] [0, 1, 2, 3, 4, 5, 6, 7, 8, 9, 10, 11, 12, 13, 14] (metX0_bare l D tB tC tI _ nx_) (lw_S q260 q261 q8 q262) 1 (by decide +kernel) rfl hl.1 rfl (Nat.le_of_ble_eq_true rfl) dL_law_339 ⟨Nat.le_of_ble_eq_true rfl, Nat.le_of_ble_eq_true rfl⟩ ⟨by show _ ≤ 1200000; omega, by show _ ≤ 5502250; omega⟩ rfl rfl rfl rfl (by decide) (fun r_b _ H locs hwb hP hD hS => ?_)
      have hP : va_P D zk_cl [(qd1, .inr (1, [.ref qs1, .int (nI (zk_sd (zk_ki kd_))), .int (nI (zk_sd (zk_ki kd_))), .ref qb1])), (qb1, .inl (tB, (zk_sd (zk_ki kd_) * zk_sd (zk_ki kd_)), .inl (zk_Fin w1 (zk_sd (zk_ki kd_)) (zk_LL (zk_ki kd_))))), (ql, .inl (tI, 72, .inl w1)), (qq, .inl (cS, 4, .inr (.inr (.inr (.inr ((va_up (va_up (va_up (va_up (fun _ => none) 0 (some s0)) 1 (some s1)) 2 (some s2)) 3 (some s3)))))))), (s0, .inr (2, [.int (nI (zk_sd 0)), .ref a0])), (a0, .inl (tI, (zk_sd 0 * zk_sd 0), .inl (zk_T (zk_LL 0)))), (s1, .inr (2, [.int (nI (zk_sd 1)), .ref a1])), (a1, .inl (tI, (zk_sd 1 * zk_sd 1), .inl (zk_T (zk_LL 1)))), (s2, .inr (2, [.int (nI (zk_sd 2)), .ref a2])), (a2, .inl (tI, (zk_sd 2 * zk_sd 2), .inl (zk_T (zk_LL 2)))), (s3, .inr (2, [.int (nI (zk_sd 3)), .ref a3])), (a3, .inl (tI, (zk_sd 3 * zk_sd 3), .inl (zk_T (zk_LL 3)))), (qx, .inl (tI, 72, .inl w1)), (d, .inr (0, [.ref qw, .ref qd1, .int (nI (zk_sd (zk_ki kd_)))])), (qw, .inl (tC, 72, .inl (upd w1 (zk_ab nx_ % 72) ((w1 (zk_ab nx_ % 72) ^^^ (-1)) &&& 255))))] H := hP
      have hD : va_D A [(qd1, .inr (1, [.ref qs1, .int (nI (zk_sd (zk_ki kd_))), .int (nI (zk_sd (zk_ki kd_))), .ref qb1])), (qb1, .inl (tB, (zk_sd (zk_ki kd_) * zk_sd (zk_ki kd_)), .inl (zk_Fin w1 (zk_sd (zk_ki kd_)) (zk_LL (zk_ki kd_))))), (ql, .inl (tI, 72, .inl w1)), (qq, .inl (cS, 4, .inr (.inr (.inr (.inr ((va_up (va_up (va_up (va_up (fun _ => none) 0 (some s0)) 1 (some s1)) 2 (some s2)) 3 (some s3)))))))), (s0, .inr (2, [.int (nI (zk_sd 0)), .ref a0])), (a0, .inl (tI, (zk_sd 0 * zk_sd 0), .inl (zk_T (zk_LL 0)))), (s1, .inr (2, [.int (nI (zk_sd 1)), .ref a1])), (a1, .inl (tI, (zk_sd 1 * zk_sd 1), .inl (zk_T (zk_LL 1)))), (s2, .inr (2, [.int (nI (zk_sd 2)), .ref a2])), (a2, .inl (tI, (zk_sd 2 * zk_sd 2), .inl (zk_T (zk_LL 2)))), (s3, .inr (2, [.int (nI (zk_sd 3)), .ref a3])), (a3, .inl (tI, (zk_sd 3 * zk_sd 3), .inl (zk_T (zk_LL 3)))), (qx, .inl (tI, 72, .inl w1)), (d, .inr (0, [.ref qw, .ref qd1, .int (nI (zk_sd (zk_ki kd_)))])), (qw, .inl (tC, 72, .inl (upd w1 (zk_ab nx_ % 72) ((w1 (zk_ab nx_ % 72) ^^^ (-1)) &&& 255))))] := hD
      subst hwb
      refine lv_bipush (v := 72) hx hb dL_law_342 (by decide) ?_
      refine lv_irem hx hb dL_law_344 (by decide) ?_
      refine lv_topi (fun t_14 et_14 => ?_)
      have et_14 : t_14 = nI (zk_ab nx_ % 72) := et_14.trans (pk_rem (d := 72) (zk_ab_lt nx_) (by decide) (by decide))
      subst et_14
      refine lv_aload_n hx hb dL_law_345 rfl (lv_at hl 4 rfl) ?_
      refine lv_iload hx hb dL_law_346 (lv_at hl 0 rfl) ?_
      refine zk_Si CX hP hD hS ([(qd1, .inr (1, [.ref qs1, .int (nI (zk_sd (zk_ki kd_))), .int (nI (zk_sd (zk_ki kd_))), .ref qb1])), (qb1, .inl (tB, (zk_sd (zk_ki kd_) * zk_sd (zk_ki kd_)), .inl (zk_Fin w1 (zk_sd (zk_ki kd_)) (zk_LL (zk_ki kd_))))), (ql, .inl (tI, 72, .inl w1)), (qq, .inl (cS, 4, .inr (.inr (.inr (.inr ((va_up (va_up (va_up (va_up (fun _ => none) 0 (some s0)) 1 (some s1)) 2 (some s2)) 3 (some s3)))))))), (s0, .inr (2, [.int (nI (zk_sd 0)), .ref a0])), (a0, .inl (tI, (zk_sd 0 * zk_sd 0), .inl (zk_T (zk_LL 0)))), (s1, .inr (2, [.int (nI (zk_sd 1)), .ref a1])), (a1, .inl (tI, (zk_sd 1 * zk_sd 1), .inl (zk_T (zk_LL 1)))), (s2, .inr (2, [.int (nI (zk_sd 2)), .ref a2])), (a2, .inl (tI, (zk_sd 2 * zk_sd 2), .inl (zk_T (zk_LL 2)))), (s3, .inr (2, [.int (nI (zk_sd 3)), .ref a3])), (a3, .inl (tI, (zk_sd 3 * zk_sd 3), .inl (zk_T (zk_LL 3)))), (qx, .inl (tI, 72, .inl w1)), (d, .inr (0, [.ref qw, .ref qd1, .int (nI (zk_sd (zk_ki kd_)))])), (qw, .inl (tC, 72, .inl (upd w1 (zk_ab nx_ % 72) ((w1 (zk_ab nx_ % 72) ^^^ (-1)) &&& 255))))]) [] [0, 1, 2, 3, 4, 5, 6, 7, 8, 9, 10, 11, 12, 13, 14] (metX0_bare l D tB tC tI _ nx_) (lw_S q260 q261 q8 q262) 1 (by decide +kernel) rfl hl.1 rfl (Nat.le_of_ble_eq_true rfl) dL_law_348 ⟨Nat.le_of_ble_eq_true rfl, Nat.le_of_ble_eq_true rfl⟩ ⟨by show _ ≤ 1200000; omega, by show _ ≤ 5502250; omega⟩ rfl rfl rfl rfl (by decide) (fun r_b _ H locs hwb hP hD hS => ?_)
      have hP : va_P D zk_cl [(qd1, .inr (1, [.ref qs1, .int (nI (zk_sd (zk_ki kd_))), .int (nI (zk_sd (zk_ki kd_))), .ref qb1])), (qb1, .inl (tB, (zk_sd (zk_ki kd_) * zk_sd (zk_ki kd_)), .inl (zk_Fin w1 (zk_sd (zk_ki kd_)) (zk_LL (zk_ki kd_))))), (ql, .inl (tI, 72, .inl w1)), (qq, .inl (cS, 4, .inr (.inr (.inr (.inr ((va_up (va_up (va_up (va_up (fun _ => none) 0 (some s0)) 1 (some s1)) 2 (some s2)) 3 (some s3)))))))), (s0, .inr (2, [.int (nI (zk_sd 0)), .ref a0])), (a0, .inl (tI, (zk_sd 0 * zk_sd 0), .inl (zk_T (zk_LL 0)))), (s1, .inr (2, [.int (nI (zk_sd 1)), .ref a1])), (a1, .inl (tI, (zk_sd 1 * zk_sd 1), .inl (zk_T (zk_LL 1)))), (s2, .inr (2, [.int (nI (zk_sd 2)), .ref a2])), (a2, .inl (tI, (zk_sd 2 * zk_sd 2), .inl (zk_T (zk_LL 2)))), (s3, .inr (2, [.int (nI (zk_sd 3)), .ref a3])), (a3, .inl (tI, (zk_sd 3 * zk_sd 3), .inl (zk_T (zk_LL 3)))), (qx, .inl (tI, 72, .inl w1)), (d, .inr (0, [.ref qw, .ref qd1, .int (nI (zk_sd (zk_ki kd_)))])), (qw, .inl (tC, 72, .inl (upd w1 (zk_ab nx_ % 72) ((w1 (zk_ab nx_ % 72) ^^^ (-1)) &&& 255))))] H := hP
      have hD : va_D A [(qd1, .inr (1, [.ref qs1, .int (nI (zk_sd (zk_ki kd_))), .int (nI (zk_sd (zk_ki kd_))), .ref qb1])), (qb1, .inl (tB, (zk_sd (zk_ki kd_) * zk_sd (zk_ki kd_)), .inl (zk_Fin w1 (zk_sd (zk_ki kd_)) (zk_LL (zk_ki kd_))))), (ql, .inl (tI, 72, .inl w1)), (qq, .inl (cS, 4, .inr (.inr (.inr (.inr ((va_up (va_up (va_up (va_up (fun _ => none) 0 (some s0)) 1 (some s1)) 2 (some s2)) 3 (some s3)))))))), (s0, .inr (2, [.int (nI (zk_sd 0)), .ref a0])), (a0, .inl (tI, (zk_sd 0 * zk_sd 0), .inl (zk_T (zk_LL 0)))), (s1, .inr (2, [.int (nI (zk_sd 1)), .ref a1])), (a1, .inl (tI, (zk_sd 1 * zk_sd 1), .inl (zk_T (zk_LL 1)))), (s2, .inr (2, [.int (nI (zk_sd 2)), .ref a2])), (a2, .inl (tI, (zk_sd 2 * zk_sd 2), .inl (zk_T (zk_LL 2)))), (s3, .inr (2, [.int (nI (zk_sd 3)), .ref a3])), (a3, .inl (tI, (zk_sd 3 * zk_sd 3), .inl (zk_T (zk_LL 3)))), (qx, .inl (tI, 72, .inl w1)), (d, .inr (0, [.ref qw, .ref qd1, .int (nI (zk_sd (zk_ki kd_)))])), (qw, .inl (tC, 72, .inl (upd w1 (zk_ab nx_ % 72) ((w1 (zk_ab nx_ % 72) ^^^ (-1)) &&& 255))))] := hD
      subst hwb
      refine lv_bipush (v := 72) hx hb dL_law_351 (by decide) ?_
      refine lv_irem hx hb dL_law_353 (by decide) ?_
      refine lv_topi (fun t_15 et_15 => ?_)
      have et_15 : t_15 = nI (zk_ab nx_ % 72) := et_15.trans (pk_rem (d := 72) (zk_ab_lt nx_) (by decide) (by decide))
      subst et_15
      refine va_iald hx hb hK hP 12 2 rfl rfl (vp_in_nI (Nat.mod_lt _ (by decide)) (by decide)) dL_law_354 ?_
      refine lv_topi (fun t_16 et_16 => ?_)
      have et_16 : t_16 = w1 (zk_ab nx_ % 72) := et_16.trans (congrArg w1 (nI_clamp (Nat.lt_trans (Nat.mod_lt _ (by decide)) (by decide))))
      subst et_16
      refine lv_iconst (v := (-1)) hx hb dL_law_355 (by decide) ?_
      refine lv_ixor hx hb dL_law_356 ?_
      refine lv_sipush (v := 255) hx hb dL_law_357 (by decide) ?_
      refine lv_iand hx hb dL_law_360 ?_
      refine va_iast hx hb hK hP hD hS 12 2 rfl rfl (vp_in_nI (Nat.mod_lt _ (by decide)) (by decide)) dL_law_361 (fun H locs hP hD hS => ?_)
      have hP : va_P D zk_cl [(qd1, .inr (1, [.ref qs1, .int (nI (zk_sd (zk_ki kd_))), .int (nI (zk_sd (zk_ki kd_))), .ref qb1])), (qb1, .inl (tB, (zk_sd (zk_ki kd_) * zk_sd (zk_ki kd_)), .inl (zk_Fin w1 (zk_sd (zk_ki kd_)) (zk_LL (zk_ki kd_))))), (ql, .inl (tI, 72, .inl w1)), (qq, .inl (cS, 4, .inr (.inr (.inr (.inr ((va_up (va_up (va_up (va_up (fun _ => none) 0 (some s0)) 1 (some s1)) 2 (some s2)) 3 (some s3)))))))), (s0, .inr (2, [.int (nI (zk_sd 0)), .ref a0])), (a0, .inl (tI, (zk_sd 0 * zk_sd 0), .inl (zk_T (zk_LL 0)))), (s1, .inr (2, [.int (nI (zk_sd 1)), .ref a1])), (a1, .inl (tI, (zk_sd 1 * zk_sd 1), .inl (zk_T (zk_LL 1)))), (s2, .inr (2, [.int (nI (zk_sd 2)), .ref a2])), (a2, .inl (tI, (zk_sd 2 * zk_sd 2), .inl (zk_T (zk_LL 2)))), (s3, .inr (2, [.int (nI (zk_sd 3)), .ref a3])), (a3, .inl (tI, (zk_sd 3 * zk_sd 3), .inl (zk_T (zk_LL 3)))), (qx, .inl (tI, 72, .inl (upd w1 (nI (zk_ab nx_ % 72)).toNatClampNeg (((w1 (zk_ab nx_ % 72)) ^^^ (-1)) &&& 255)))), (d, .inr (0, [.ref qw, .ref qd1, .int (nI (zk_sd (zk_ki kd_)))])), (qw, .inl (tC, 72, .inl (upd w1 (zk_ab nx_ % 72) ((w1 (zk_ab nx_ % 72) ^^^ (-1)) &&& 255))))] H := hP
      have hD : va_D A [(qd1, .inr (1, [.ref qs1, .int (nI (zk_sd (zk_ki kd_))), .int (nI (zk_sd (zk_ki kd_))), .ref qb1])), (qb1, .inl (tB, (zk_sd (zk_ki kd_) * zk_sd (zk_ki kd_)), .inl (zk_Fin w1 (zk_sd (zk_ki kd_)) (zk_LL (zk_ki kd_))))), (ql, .inl (tI, 72, .inl w1)), (qq, .inl (cS, 4, .inr (.inr (.inr (.inr ((va_up (va_up (va_up (va_up (fun _ => none) 0 (some s0)) 1 (some s1)) 2 (some s2)) 3 (some s3)))))))), (s0, .inr (2, [.int (nI (zk_sd 0)), .ref a0])), (a0, .inl (tI, (zk_sd 0 * zk_sd 0), .inl (zk_T (zk_LL 0)))), (s1, .inr (2, [.int (nI (zk_sd 1)), .ref a1])), (a1, .inl (tI, (zk_sd 1 * zk_sd 1), .inl (zk_T (zk_LL 1)))), (s2, .inr (2, [.int (nI (zk_sd 2)), .ref a2])), (a2, .inl (tI, (zk_sd 2 * zk_sd 2), .inl (zk_T (zk_LL 2)))), (s3, .inr (2, [.int (nI (zk_sd 3)), .ref a3])), (a3, .inl (tI, (zk_sd 3 * zk_sd 3), .inl (zk_T (zk_LL 3)))), (qx, .inl (tI, 72, .inl (upd w1 (nI (zk_ab nx_ % 72)).toNatClampNeg (((w1 (zk_ab nx_ % 72)) ^^^ (-1)) &&& 255)))), (d, .inr (0, [.ref qw, .ref qd1, .int (nI (zk_sd (zk_ki kd_)))])), (qw, .inl (tC, 72, .inl (upd w1 (zk_ab nx_ % 72) ((w1 (zk_ab nx_ % 72) ^^^ (-1)) &&& 255))))] := hD
      have ef_ : upd w1 (nI (zk_ab nx_ % 72)).toNatClampNeg (((w1 (zk_ab nx_ % 72)) ^^^ (-1)) &&& 255) = upd w1 (zk_ab nx_ % 72) ((w1 (zk_ab nx_ % 72) ^^^ (-1)) &&& 255) := by rw [nI_clamp (Nat.lt_trans (Nat.mod_lt _ (by decide)) (by decide))]
      rw [ef_] at hP hD
      clear ef_
      obtain ⟨w2, ew2⟩ : ∃ f : Nat → Int32, f = upd w1 (zk_ab nx_ % 72) ((w1 (zk_ab nx_ % 72) ^^^ (-1)) &&& 255) := ⟨_, rfl⟩
      rw [← ew2] at hP hD
      have hw2 : zk_W w2 := by rw [ew2]; exact zk_W_upd hw1 _ _
      refine lv_aload_n hx hb dL_law_362 rfl (lv_at hl 2 rfl) ?_
      refine lv_aload_n hx hb dL_law_363 rfl (lv_at hl 3 rfl) ?_
      refine lv_iload hx hb dL_law_364 (lv_at hl 8 rfl) ?_
      refine lv_iconst (v := 3) hx hb dL_law_366 (by decide) ?_
      refine lv_iand hx hb dL_law_367 ?_
      refine lv_topi (fun t_17 et_17 => ?_)
      have et_17 : t_17 = nI (zk_ki kd_) := et_17.trans (zk_k3 kd_)
      subst et_17
      refine va_aldq (C := RX3) hx hb hK4 hP 3 3 rfl rfl (vp_in_nI (zk_ki_lt kd_) (by decide)) dL_law_368 ?_
      refine W.eq (g2 := F0 m 369 ls [.ref (zk_sel (zk_ki kd_) s0 s1 s2 s3), .ref d]) (by rw [zk_fq (zk_ki_lt kd_)]) ?_
      refine lv_aload hx hb dL_law_369 (lv_at hl 9 rfl) ?_
      refine lv_iload hx hb dL_law_371 (lv_at hl 0 rfl) ?_
      refine lv_iload hx hb dL_law_373 (lv_at hl 8 rfl) ?_
      have hP := hP.sub (ws' := [(d, .inr (0, [.ref qw, .ref qd1, .int (nI (zk_sd (zk_ki kd_)))])), (qd1, .inr (1, [.ref qs1, .int (nI (zk_sd (zk_ki kd_))), .int (nI (zk_sd (zk_ki kd_))), .ref qb1])), (qb1, .inl (tB, (zk_sd (zk_ki kd_) * zk_sd (zk_ki kd_)), .inl (zk_Fin w1 (zk_sd (zk_ki kd_)) (zk_LL (zk_ki kd_))))), (ql, .inl (tI, 72, .inl w1)), (qw, .inl (tC, 72, .inl w2)), (qq, .inl (cS, 4, .inr (.inr (.inr (.inr ((va_up (va_up (va_up (va_up (fun _ => none) 0 (some s0)) 1 (some s1)) 2 (some s2)) 3 (some s3)))))))), (s0, .inr (2, [.int (nI (zk_sd 0)), .ref a0])), (a0, .inl (tI, (zk_sd 0 * zk_sd 0), .inl (zk_T (zk_LL 0)))), (s1, .inr (2, [.int (nI (zk_sd 1)), .ref a1])), (a1, .inl (tI, (zk_sd 1 * zk_sd 1), .inl (zk_T (zk_LL 1)))), (s2, .inr (2, [.int (nI (zk_sd 2)), .ref a2])), (a2, .inl (tI, (zk_sd 2 * zk_sd 2), .inl (zk_T (zk_LL 2)))), (s3, .inr (2, [.int (nI (zk_sd 3)), .ref a3])), (a3, .inl (tI, (zk_sd 3 * zk_sd 3), .inl (zk_T (zk_LL 3)))), (qx, .inl (tI, 72, .inl w2))]) [13, 0, 1, 2, 14, 3, 4, 5, 6, 7, 8, 9, 10, 11, 12] rfl
      have hD := hD.sub (ws' := [(d, .inr (0, [.ref qw, .ref qd1, .int (nI (zk_sd (zk_ki kd_)))])), (qd1, .inr (1, [.ref qs1, .int (nI (zk_sd (zk_ki kd_))), .int (nI (zk_sd (zk_ki kd_))), .ref qb1])), (qb1, .inl (tB, (zk_sd (zk_ki kd_) * zk_sd (zk_ki kd_)), .inl (zk_Fin w1 (zk_sd (zk_ki kd_)) (zk_LL (zk_ki kd_))))), (ql, .inl (tI, 72, .inl w1)), (qw, .inl (tC, 72, .inl w2)), (qq, .inl (cS, 4, .inr (.inr (.inr (.inr ((va_up (va_up (va_up (va_up (fun _ => none) 0 (some s0)) 1 (some s1)) 2 (some s2)) 3 (some s3)))))))), (s0, .inr (2, [.int (nI (zk_sd 0)), .ref a0])), (a0, .inl (tI, (zk_sd 0 * zk_sd 0), .inl (zk_T (zk_LL 0)))), (s1, .inr (2, [.int (nI (zk_sd 1)), .ref a1])), (a1, .inl (tI, (zk_sd 1 * zk_sd 1), .inl (zk_T (zk_LL 1)))), (s2, .inr (2, [.int (nI (zk_sd 2)), .ref a2])), (a2, .inl (tI, (zk_sd 2 * zk_sd 2), .inl (zk_T (zk_LL 2)))), (s3, .inr (2, [.int (nI (zk_sd 3)), .ref a3])), (a3, .inl (tI, (zk_sd 3 * zk_sd 3), .inl (zk_T (zk_LL 3)))), (qx, .inl (tI, 72, .inl w2))]) [13, 0, 1, 2, 14, 3, 4, 5, 6, 7, 8, 9, 10, 11, 12] (by decide) rfl
      refine zk_laidc (i := zk_ki kd_) C2 (zk_ki_lt kd_) (fun y x hy hx0 => zk_rel (zk_ki_lt kd_) hw1 hy hx0) hP hD hS hl.1 dL_law_375 (by omega) (by omega) (fun H locs hP hD hS => ?_)
      have hP : va_P D zk_cl [(d, .inr (0, [.ref qw, .ref qd1, .int (nI (zk_sd (zk_ki kd_)))])), (qd1, .inr (1, [.ref qs1, .int (nI (zk_sd (zk_ki kd_))), .int (nI (zk_sd (zk_ki kd_))), .ref qb1])), (qb1, .inl (tB, (zk_sd (zk_ki kd_) * zk_sd (zk_ki kd_)), .inl (zk_Fin w1 (zk_sd (zk_ki kd_)) (zk_LL (zk_ki kd_))))), (ql, .inl (tI, 72, .inl w1)), (qw, .inl (tC, 72, .inl w2)), (qq, .inl (cS, 4, .inr (.inr (.inr (.inr ((va_up (va_up (va_up (va_up (fun _ => none) 0 (some s0)) 1 (some s1)) 2 (some s2)) 3 (some s3)))))))), (s0, .inr (2, [.int (nI (zk_sd 0)), .ref a0])), (a0, .inl (tI, (zk_sd 0 * zk_sd 0), .inl (zk_T (zk_LL 0)))), (s1, .inr (2, [.int (nI (zk_sd 1)), .ref a1])), (a1, .inl (tI, (zk_sd 1 * zk_sd 1), .inl (zk_T (zk_LL 1)))), (s2, .inr (2, [.int (nI (zk_sd 2)), .ref a2])), (a2, .inl (tI, (zk_sd 2 * zk_sd 2), .inl (zk_T (zk_LL 2)))), (s3, .inr (2, [.int (nI (zk_sd 3)), .ref a3])), (a3, .inl (tI, (zk_sd 3 * zk_sd 3), .inl (zk_T (zk_LL 3)))), (qx, .inl (tI, 72, .inl w2))] H := hP
      have hD : va_D A [(d, .inr (0, [.ref qw, .ref qd1, .int (nI (zk_sd (zk_ki kd_)))])), (qd1, .inr (1, [.ref qs1, .int (nI (zk_sd (zk_ki kd_))), .int (nI (zk_sd (zk_ki kd_))), .ref qb1])), (qb1, .inl (tB, (zk_sd (zk_ki kd_) * zk_sd (zk_ki kd_)), .inl (zk_Fin w1 (zk_sd (zk_ki kd_)) (zk_LL (zk_ki kd_))))), (ql, .inl (tI, 72, .inl w1)), (qw, .inl (tC, 72, .inl w2)), (qq, .inl (cS, 4, .inr (.inr (.inr (.inr ((va_up (va_up (va_up (va_up (fun _ => none) 0 (some s0)) 1 (some s1)) 2 (some s2)) 3 (some s3)))))))), (s0, .inr (2, [.int (nI (zk_sd 0)), .ref a0])), (a0, .inl (tI, (zk_sd 0 * zk_sd 0), .inl (zk_T (zk_LL 0)))), (s1, .inr (2, [.int (nI (zk_sd 1)), .ref a1])), (a1, .inl (tI, (zk_sd 1 * zk_sd 1), .inl (zk_T (zk_LL 1)))), (s2, .inr (2, [.int (nI (zk_sd 2)), .ref a2])), (a2, .inl (tI, (zk_sd 2 * zk_sd 2), .inl (zk_T (zk_LL 2)))), (s3, .inr (2, [.int (nI (zk_sd 3)), .ref a3])), (a3, .inl (tI, (zk_sd 3 * zk_sd 3), .inl (zk_T (zk_LL 3)))), (qx, .inl (tI, 72, .inl w2))] := hD
      refine lv_if_ne (tgt := 383) hx hb dL_law_378 (by decide) (fun h_ => ?_) (fun h_ => absurd h_ (by decide))
      refine lv_aload_n hx hb dL_law_383 rfl (lv_at hl 1 rfl) ?_
      refine lv_iload hx hb dL_law_384 (lv_at hl 5 rfl) ?_
      refine lv_iconst (v := 4) hx hb dL_law_386 (by decide) ?_
      refine lv_iadd hx hb dL_law_387 ?_
      refine lv_topi (fun t_18 et_18 => ?_)
      have et_18 : t_18 = nI (6 * r0 + 4) := et_18.trans (nI_add (6 * r0) 4)
      subst et_18
      refine zk_cellc (k := 6 * r0 + 4) CX hX hbl hbA hP hD hS (lw_S q257 q258 q8 q259) hL (by omega) hl.1 rfl (Nat.le_of_ble_eq_true rfl) dL_law_388 ⟨Nat.le_of_ble_eq_true rfl, Nat.le_of_ble_eq_true rfl⟩ ⟨by show _ ≤ 1200000; omega, by show _ ≤ 5502250; omega⟩ (fun H locs hP hD hS => ?_)
      refine lv_topi (fun ot_ eot_ => ?_)
      refine lv_istore (lv' := [(10, .int ot_), (9, .int nx_), (0, .ref b), (1, .ref d), (2, .ref qq), (3, .ref qx), (4, .int (nI (6 * r0))), (5, .int at_), (6, .int v_), (7, .int kd_), (8, .ref ql)]) hx hb dL_law_391 hl (by decide) rfl (fun ls hl => ?_)
      refine lv_aload_n hx hb dL_law_393 rfl (lv_at hl 3 rfl) ?_
      refine lv_iload hx hb dL_law_394 (lv_at hl 0 rfl) ?_
      have hP := hP.sub (ws' := [(d, .inr (0, [.ref qw, .ref qd1, .int (nI (zk_sd (zk_ki kd_)))])), (ql, .inl (tI, 72, .inl w1)), (qw, .inl (tC, 72, .inl w2)), (qq, .inl (cS, 4, .inr (.inr (.inr (.inr ((va_up (va_up (va_up (va_up (fun _ => none) 0 (some s0)) 1 (some s1)) 2 (some s2)) 3 (some s3)))))))), (s0, .inr (2, [.int (nI (zk_sd 0)), .ref a0])), (a0, .inl (tI, (zk_sd 0 * zk_sd 0), .inl (zk_T (zk_LL 0)))), (s1, .inr (2, [.int (nI (zk_sd 1)), .ref a1])), (a1, .inl (tI, (zk_sd 1 * zk_sd 1), .inl (zk_T (zk_LL 1)))), (s2, .inr (2, [.int (nI (zk_sd 2)), .ref a2])), (a2, .inl (tI, (zk_sd 2 * zk_sd 2), .inl (zk_T (zk_LL 2)))), (s3, .inr (2, [.int (nI (zk_sd 3)), .ref a3])), (a3, .inl (tI, (zk_sd 3 * zk_sd 3), .inl (zk_T (zk_LL 3)))), (qx, .inl (tI, 72, .inl w2))]) [0, 3, 4, 5, 6, 7, 8, 9, 10, 11, 12, 13, 14] rfl
      have hD := hD.sub (ws' := [(d, .inr (0, [.ref qw, .ref qd1, .int (nI (zk_sd (zk_ki kd_)))])), (ql, .inl (tI, 72, .inl w1)), (qw, .inl (tC, 72, .inl w2)), (qq, .inl (cS, 4, .inr (.inr (.inr (.inr ((va_up (va_up (va_up (va_up (fun _ => none) 0 (some s0)) 1 (some s1)) 2 (some s2)) 3 (some s3)))))))), (s0, .inr (2, [.int (nI (zk_sd 0)), .ref a0])), (a0, .inl (tI, (zk_sd 0 * zk_sd 0), .inl (zk_T (zk_LL 0)))), (s1, .inr (2, [.int (nI (zk_sd 1)), .ref a1])), (a1, .inl (tI, (zk_sd 1 * zk_sd 1), .inl (zk_T (zk_LL 1)))), (s2, .inr (2, [.int (nI (zk_sd 2)), .ref a2])), (a2, .inl (tI, (zk_sd 2 * zk_sd 2), .inl (zk_T (zk_LL 2)))), (s3, .inr (2, [.int (nI (zk_sd 3)), .ref a3])), (a3, .inl (tI, (zk_sd 3 * zk_sd 3), .inl (zk_T (zk_LL 3)))), (qx, .inl (tI, 72, .inl w2))]) [0, 3, 4, 5, 6, 7, 8, 9, 10, 11, 12, 13, 14] (by decide) rfl
      obtain ⟨qd0, eq0⟩ : ∃ z, z = qd1 := ⟨_, rfl⟩
      rw [← eq0] at hP hD
      refine zk_Vv CX hP hD hS ([(ql, .inl (tI, 72, .inl w1)), (qq, .inl (cS, 4, .inr (.inr (.inr (.inr ((va_up (va_up (va_up (va_up (fun _ => none) 0 (some s0)) 1 (some s1)) 2 (some s2)) 3 (some s3)))))))), (s0, .inr (2, [.int (nI (zk_sd 0)), .ref a0])), (a0, .inl (tI, (zk_sd 0 * zk_sd 0), .inl (zk_T (zk_LL 0)))), (s1, .inr (2, [.int (nI (zk_sd 1)), .ref a1])), (a1, .inl (tI, (zk_sd 1 * zk_sd 1), .inl (zk_T (zk_LL 1)))), (s2, .inr (2, [.int (nI (zk_sd 2)), .ref a2])), (a2, .inl (tI, (zk_sd 2 * zk_sd 2), .inl (zk_T (zk_LL 2)))), (s3, .inr (2, [.int (nI (zk_sd 3)), .ref a3])), (a3, .inl (tI, (zk_sd 3 * zk_sd 3), .inl (zk_T (zk_LL 3)))), (qx, .inl (tI, 72, .inl w2))]) [0, 2] [1, 3, 4, 5, 6, 7, 8, 9, 10, 11, 12] (metX1_place l D tB tC tI _ d qw qd0 (nI (zk_sd (zk_ki kd_))) ot_ w2 hw2) (lw_V q136 q137 q138 q9 q139) 1 0 0 rfl rfl rfl (by decide +kernel) rfl hl.1 rfl (Nat.le_of_ble_eq_true rfl) dL_law_396 ⟨Nat.le_of_ble_eq_true rfl, Nat.le_of_ble_eq_true rfl⟩ ⟨by show _ ≤ 1200000; omega, by show _ ≤ 5502250; omega⟩ rfl rfl rfl rfl (by decide) (fun u_ H locs hw hP hD hS => ?_)
      obtain ⟨qd1, qs1, qb1⟩ := u_
      have hP : va_P D zk_cl [(ql, .inl (tI, 72, .inl w1)), (qq, .inl (cS, 4, .inr (.inr (.inr (.inr ((va_up (va_up (va_up (va_up (fun _ => none) 0 (some s0)) 1 (some s1)) 2 (some s2)) 3 (some s3)))))))), (s0, .inr (2, [.int (nI (zk_sd 0)), .ref a0])), (a0, .inl (tI, (zk_sd 0 * zk_sd 0), .inl (zk_T (zk_LL 0)))), (s1, .inr (2, [.int (nI (zk_sd 1)), .ref a1])), (a1, .inl (tI, (zk_sd 1 * zk_sd 1), .inl (zk_T (zk_LL 1)))), (s2, .inr (2, [.int (nI (zk_sd 2)), .ref a2])), (a2, .inl (tI, (zk_sd 2 * zk_sd 2), .inl (zk_T (zk_LL 2)))), (s3, .inr (2, [.int (nI (zk_sd 3)), .ref a3])), (a3, .inl (tI, (zk_sd 3 * zk_sd 3), .inl (zk_T (zk_LL 3)))), (qx, .inl (tI, 72, .inl w2)), (d, .inr (0, [.ref qw, .ref qd1, .int (nI (zk_sd (zk_ki ot_)))])), (qw, .inl (tC, 72, .inl w2)), (qd1, .inr (1, [.ref qs1, .int (nI (zk_sd (zk_ki ot_))), .int (nI (zk_sd (zk_ki ot_))), .ref qb1])), (qb1, .inl (tB, (zk_sd (zk_ki ot_) * zk_sd (zk_ki ot_)), .inl (zk_Fin w2 (zk_sd (zk_ki ot_)) (zk_LL (zk_ki ot_)))))] H := hP
      have hD : va_D A [(ql, .inl (tI, 72, .inl w1)), (qq, .inl (cS, 4, .inr (.inr (.inr (.inr ((va_up (va_up (va_up (va_up (fun _ => none) 0 (some s0)) 1 (some s1)) 2 (some s2)) 3 (some s3)))))))), (s0, .inr (2, [.int (nI (zk_sd 0)), .ref a0])), (a0, .inl (tI, (zk_sd 0 * zk_sd 0), .inl (zk_T (zk_LL 0)))), (s1, .inr (2, [.int (nI (zk_sd 1)), .ref a1])), (a1, .inl (tI, (zk_sd 1 * zk_sd 1), .inl (zk_T (zk_LL 1)))), (s2, .inr (2, [.int (nI (zk_sd 2)), .ref a2])), (a2, .inl (tI, (zk_sd 2 * zk_sd 2), .inl (zk_T (zk_LL 2)))), (s3, .inr (2, [.int (nI (zk_sd 3)), .ref a3])), (a3, .inl (tI, (zk_sd 3 * zk_sd 3), .inl (zk_T (zk_LL 3)))), (qx, .inl (tI, 72, .inl w2)), (d, .inr (0, [.ref qw, .ref qd1, .int (nI (zk_sd (zk_ki ot_)))])), (qw, .inl (tC, 72, .inl w2)), (qd1, .inr (1, [.ref qs1, .int (nI (zk_sd (zk_ki ot_))), .int (nI (zk_sd (zk_ki ot_))), .ref qb1])), (qb1, .inl (tB, (zk_sd (zk_ki ot_) * zk_sd (zk_ki ot_)), .inl (zk_Fin w2 (zk_sd (zk_ki ot_)) (zk_LL (zk_ki ot_)))))] := hD
      refine W.widen (k := (117 + 9 * r0) + 4 + 1 + 4) (n := (3595 + 624 * r0) + 276 + 72 + 276) (Nat.le_refl _) (Nat.le_refl _) ?_
      refine lv_aload_n hx hb dL_law_399 rfl (lv_at hl 3 rfl) ?_
      refine lv_aload_n hx hb dL_law_400 rfl (lv_at hl 4 rfl) ?_
      refine lv_iload hx hb dL_law_401 (lv_at hl 0 rfl) ?_
      refine lv_iconst (v := 3) hx hb dL_law_403 (by decide) ?_
      refine lv_iand hx hb dL_law_404 ?_
      refine lv_topi (fun t_20 et_20 => ?_)
      have et_20 : t_20 = nI (zk_ki ot_) := et_20.trans (zk_k3 ot_)
      subst et_20
      refine va_aldq (C := RX3) hx hb hK4 hP 1 3 rfl rfl (vp_in_nI (zk_ki_lt ot_) (by decide)) dL_law_405 ?_
      refine W.eq (g2 := F0 m 406 ls [.ref (zk_sel (zk_ki ot_) s0 s1 s2 s3), .ref d]) (by rw [zk_fq (zk_ki_lt ot_)]) ?_
      refine lv_aload_n hx hb dL_law_406 rfl (lv_at hl 5 rfl) ?_
      refine lv_aload_n hx hb dL_law_407 rfl (lv_at hl 2 rfl) ?_
      refine lv_iload hx hb dL_law_408 (lv_at hl 6 rfl) ?_
      refine lv_iconst (v := 5) hx hb dL_law_410 (by decide) ?_
      refine lv_iadd hx hb dL_law_411 ?_
      refine lv_topi (fun t_21 et_21 => ?_)
      have et_21 : t_21 = nI (6 * r0 + 5) := et_21.trans (nI_add (6 * r0) 5)
      subst et_21
      refine zk_cellc (k := 6 * r0 + 5) CX hX hbl hbA hP hD hS (lw_S q257 q258 q8 q259) hL (by omega) hl.1 rfl (Nat.le_of_ble_eq_true rfl) dL_law_412 ⟨Nat.le_of_ble_eq_true rfl, Nat.le_of_ble_eq_true rfl⟩ ⟨by show _ ≤ 1200000; omega, by show _ ≤ 5502250; omega⟩ (fun H locs hP hD hS => ?_)
      refine lv_topi (fun an_ ean_ => ?_)
      refine lv_iload hx hb dL_law_415 (lv_at hl 8 rfl) ?_
      have hP := hP.sub (ws' := [(d, .inr (0, [.ref qw, .ref qd1, .int (nI (zk_sd (zk_ki ot_)))])), (qd1, .inr (1, [.ref qs1, .int (nI (zk_sd (zk_ki ot_))), .int (nI (zk_sd (zk_ki ot_))), .ref qb1])), (qb1, .inl (tB, (zk_sd (zk_ki ot_) * zk_sd (zk_ki ot_)), .inl (zk_Fin w2 (zk_sd (zk_ki ot_)) (zk_LL (zk_ki ot_))))), (qx, .inl (tI, 72, .inl w2)), (qw, .inl (tC, 72, .inl w2)), (qq, .inl (cS, 4, .inr (.inr (.inr (.inr ((va_up (va_up (va_up (va_up (fun _ => none) 0 (some s0)) 1 (some s1)) 2 (some s2)) 3 (some s3)))))))), (s0, .inr (2, [.int (nI (zk_sd 0)), .ref a0])), (a0, .inl (tI, (zk_sd 0 * zk_sd 0), .inl (zk_T (zk_LL 0)))), (s1, .inr (2, [.int (nI (zk_sd 1)), .ref a1])), (a1, .inl (tI, (zk_sd 1 * zk_sd 1), .inl (zk_T (zk_LL 1)))), (s2, .inr (2, [.int (nI (zk_sd 2)), .ref a2])), (a2, .inl (tI, (zk_sd 2 * zk_sd 2), .inl (zk_T (zk_LL 2)))), (s3, .inr (2, [.int (nI (zk_sd 3)), .ref a3])), (a3, .inl (tI, (zk_sd 3 * zk_sd 3), .inl (zk_T (zk_LL 3)))), (ql, .inl (tI, 72, .inl w1))]) [11, 13, 14, 10, 12, 1, 2, 3, 4, 5, 6, 7, 8, 9, 0] rfl
      have hD := hD.sub (ws' := [(d, .inr (0, [.ref qw, .ref qd1, .int (nI (zk_sd (zk_ki ot_)))])), (qd1, .inr (1, [.ref qs1, .int (nI (zk_sd (zk_ki ot_))), .int (nI (zk_sd (zk_ki ot_))), .ref qb1])), (qb1, .inl (tB, (zk_sd (zk_ki ot_) * zk_sd (zk_ki ot_)), .inl (zk_Fin w2 (zk_sd (zk_ki ot_)) (zk_LL (zk_ki ot_))))), (qx, .inl (tI, 72, .inl w2)), (qw, .inl (tC, 72, .inl w2)), (qq, .inl (cS, 4, .inr (.inr (.inr (.inr ((va_up (va_up (va_up (va_up (fun _ => none) 0 (some s0)) 1 (some s1)) 2 (some s2)) 3 (some s3)))))))), (s0, .inr (2, [.int (nI (zk_sd 0)), .ref a0])), (a0, .inl (tI, (zk_sd 0 * zk_sd 0), .inl (zk_T (zk_LL 0)))), (s1, .inr (2, [.int (nI (zk_sd 1)), .ref a1])), (a1, .inl (tI, (zk_sd 1 * zk_sd 1), .inl (zk_T (zk_LL 1)))), (s2, .inr (2, [.int (nI (zk_sd 2)), .ref a2])), (a2, .inl (tI, (zk_sd 2 * zk_sd 2), .inl (zk_T (zk_LL 2)))), (s3, .inr (2, [.int (nI (zk_sd 3)), .ref a3])), (a3, .inl (tI, (zk_sd 3 * zk_sd 3), .inl (zk_T (zk_LL 3)))), (ql, .inl (tI, 72, .inl w1))]) [11, 13, 14, 10, 12, 1, 2, 3, 4, 5, 6, 7, 8, 9, 0] (by decide) rfl
      refine zk_laidc (i := zk_ki ot_) C2 (zk_ki_lt ot_) (fun y x hy hx0 => zk_rel (zk_ki_lt ot_) hw2 hy hx0) hP hD hS hl.1 dL_law_417 (by omega) (by omega) (fun H locs hP hD hS => ?_)
      have hP : va_P D zk_cl [(d, .inr (0, [.ref qw, .ref qd1, .int (nI (zk_sd (zk_ki ot_)))])), (qd1, .inr (1, [.ref qs1, .int (nI (zk_sd (zk_ki ot_))), .int (nI (zk_sd (zk_ki ot_))), .ref qb1])), (qb1, .inl (tB, (zk_sd (zk_ki ot_) * zk_sd (zk_ki ot_)), .inl (zk_Fin w2 (zk_sd (zk_ki ot_)) (zk_LL (zk_ki ot_))))), (qx, .inl (tI, 72, .inl w2)), (qw, .inl (tC, 72, .inl w2)), (qq, .inl (cS, 4, .inr (.inr (.inr (.inr ((va_up (va_up (va_up (va_up (fun _ => none) 0 (some s0)) 1 (some s1)) 2 (some s2)) 3 (some s3)))))))), (s0, .inr (2, [.int (nI (zk_sd 0)), .ref a0])), (a0, .inl (tI, (zk_sd 0 * zk_sd 0), .inl (zk_T (zk_LL 0)))), (s1, .inr (2, [.int (nI (zk_sd 1)), .ref a1])), (a1, .inl (tI, (zk_sd 1 * zk_sd 1), .inl (zk_T (zk_LL 1)))), (s2, .inr (2, [.int (nI (zk_sd 2)), .ref a2])), (a2, .inl (tI, (zk_sd 2 * zk_sd 2), .inl (zk_T (zk_LL 2)))), (s3, .inr (2, [.int (nI (zk_sd 3)), .ref a3])), (a3, .inl (tI, (zk_sd 3 * zk_sd 3), .inl (zk_T (zk_LL 3)))), (ql, .inl (tI, 72, .inl w1))] H := hP
      have hD : va_D A [(d, .inr (0, [.ref qw, .ref qd1, .int (nI (zk_sd (zk_ki ot_)))])), (qd1, .inr (1, [.ref qs1, .int (nI (zk_sd (zk_ki ot_))), .int (nI (zk_sd (zk_ki ot_))), .ref qb1])), (qb1, .inl (tB, (zk_sd (zk_ki ot_) * zk_sd (zk_ki ot_)), .inl (zk_Fin w2 (zk_sd (zk_ki ot_)) (zk_LL (zk_ki ot_))))), (qx, .inl (tI, 72, .inl w2)), (qw, .inl (tC, 72, .inl w2)), (qq, .inl (cS, 4, .inr (.inr (.inr (.inr ((va_up (va_up (va_up (va_up (fun _ => none) 0 (some s0)) 1 (some s1)) 2 (some s2)) 3 (some s3)))))))), (s0, .inr (2, [.int (nI (zk_sd 0)), .ref a0])), (a0, .inl (tI, (zk_sd 0 * zk_sd 0), .inl (zk_T (zk_LL 0)))), (s1, .inr (2, [.int (nI (zk_sd 1)), .ref a1])), (a1, .inl (tI, (zk_sd 1 * zk_sd 1), .inl (zk_T (zk_LL 1)))), (s2, .inr (2, [.int (nI (zk_sd 2)), .ref a2])), (a2, .inl (tI, (zk_sd 2 * zk_sd 2), .inl (zk_T (zk_LL 2)))), (s3, .inr (2, [.int (nI (zk_sd 3)), .ref a3])), (a3, .inl (tI, (zk_sd 3 * zk_sd 3), .inl (zk_T (zk_LL 3)))), (ql, .inl (tI, 72, .inl w1))] := hD
      refine lv_if_ne (tgt := 425) hx hb dL_law_420 (by decide) (fun h_ => ?_) (fun h_ => absurd h_ (by decide))
      refine lv_iinc (v := nI (6 * (r0 + 1))) (lv' := [(4, .int (nI (6 * (r0 + 1)))), (10, .int ot_), (9, .int nx_), (0, .ref b), (1, .ref d), (2, .ref qq), (3, .ref qx), (5, .int at_), (6, .int v_), (7, .int kd_), (8, .ref ql)]) hx hb dL_law_425 hl (k := 6) rfl (nI_add (6 * r0) 6) (by decide) rfl (fun ls hl => ?_)
      refine lv_goto (tgt := 189) hx hb dL_law_428 (by decide) ?_
      have hP := hP.sub (ws' := [(d, .inr (0, [.ref qw, .ref qd1, .int (nI (zk_sd (zk_ki ot_)))])), (qw, .inl (tC, 72, .inl w2)), (qq, .inl (cS, 4, .inr (.inr (.inr (.inr ((va_up (va_up (va_up (va_up (fun _ => none) 0 (some s0)) 1 (some s1)) 2 (some s2)) 3 (some s3)))))))), (qx, .inl (tI, 72, .inl w2)), (s0, .inr (2, [.int (nI (zk_sd 0)), .ref a0])), (a0, .inl (tI, (zk_sd 0 * zk_sd 0), .inl (zk_T (zk_LL 0)))), (s1, .inr (2, [.int (nI (zk_sd 1)), .ref a1])), (a1, .inl (tI, (zk_sd 1 * zk_sd 1), .inl (zk_T (zk_LL 1)))), (s2, .inr (2, [.int (nI (zk_sd 2)), .ref a2])), (a2, .inl (tI, (zk_sd 2 * zk_sd 2), .inl (zk_T (zk_LL 2)))), (s3, .inr (2, [.int (nI (zk_sd 3)), .ref a3])), (a3, .inl (tI, (zk_sd 3 * zk_sd 3), .inl (zk_T (zk_LL 3))))]) [0, 4, 5, 3, 6, 7, 8, 9, 10, 11, 12, 13] rfl
      have hD := hD.sub (ws' := [(d, .inr (0, [.ref qw, .ref qd1, .int (nI (zk_sd (zk_ki ot_)))])), (qw, .inl (tC, 72, .inl w2)), (qq, .inl (cS, 4, .inr (.inr (.inr (.inr ((va_up (va_up (va_up (va_up (fun _ => none) 0 (some s0)) 1 (some s1)) 2 (some s2)) 3 (some s3)))))))), (qx, .inl (tI, 72, .inl w2)), (s0, .inr (2, [.int (nI (zk_sd 0)), .ref a0])), (a0, .inl (tI, (zk_sd 0 * zk_sd 0), .inl (zk_T (zk_LL 0)))), (s1, .inr (2, [.int (nI (zk_sd 1)), .ref a1])), (a1, .inl (tI, (zk_sd 1 * zk_sd 1), .inl (zk_T (zk_LL 1)))), (s2, .inr (2, [.int (nI (zk_sd 2)), .ref a2])), (a2, .inl (tI, (zk_sd 2 * zk_sd 2), .inl (zk_T (zk_LL 2)))), (s3, .inr (2, [.int (nI (zk_sd 3)), .ref a3])), (a3, .inl (tI, (zk_sd 3 * zk_sd 3), .inl (zk_T (zk_LL 3))))]) [0, 4, 5, 3, 6, 7, 8, 9, 10, 11, 12, 13] (by decide) rfl
      refine W.widen (k := (117 + 9 * (r0 + 1))) (n := (3595 + 624 * (r0 + 1))) (by omega) (by omega) ?_
      exact ih (r0 + 1) _ _ _ w2 _ _ _ (by omega) (by omega) rfl hw2 hP hD hS (lv_sub hl [0, 3, 4, 5, 6] rfl)

set_option maxHeartbeats 4000000 in
set_option maxRecDepth 100000 in
theorem zk_words {p : Program} {l : Launch} {e : Env} {s : State} {m : MethodId} {below : List Frame} {meth : Method} {c : Code} {D : va_G} {tB tC tI cS : ClassId} {b L : Nat} {xs : Nat → Int32} {A : Nat → Prop} (C1 : zk_LC p s m meth c b L xs D tB tC tI cS A) {d qw qq qx qd s0 a0 s1 a1 s2 a2 s3 a3 : Nat} {vs : Int32} : ∀ (k i : Nat) (x4 : Int32) (w : Nat → Int32) (H : Heap) (locs : List Loc) (ls : Array Slot), 72 ≤ i + k → i ≤ 72 → x4 = nI i → zk_W w → va_P D zk_cl [(d, .inr (0, [.ref qw, .ref qd, .int vs])), (qw, .inl (tC, 72, .inl w)), (qq, .inl (cS, 4, .inr (.inr (.inr (.inr ((va_up (va_up (va_up (va_up (fun _ => none) 0 (some s0)) 1 (some s1)) 2 (some s2)) 3 (some s3)))))))), (qx, .inl (tI, 72, .inl w)), (s0, .inr (2, [.int (nI (zk_sd 0)), .ref a0])), (a0, .inl (tI, (zk_sd 0 * zk_sd 0), .inl (zk_T (zk_LL 0)))), (s1, .inr (2, [.int (nI (zk_sd 1)), .ref a1])), (a1, .inl (tI, (zk_sd 1 * zk_sd 1), .inl (zk_T (zk_LL 1)))), (s2, .inr (2, [.int (nI (zk_sd 2)), .ref a2])), (a2, .inl (tI, (zk_sd 2 * zk_sd 2), .inl (zk_T (zk_LL 2)))), (s3, .inr (2, [.int (nI (zk_sd 3)), .ref a3])), (a3, .inl (tI, (zk_sd 3 * zk_sd 3), .inl (zk_T (zk_LL 3))))] H → va_D A [(d, .inr (0, [.ref qw, .ref qd, .int vs])), (qw, .inl (tC, 72, .inl w)), (qq, .inl (cS, 4, .inr (.inr (.inr (.inr ((va_up (va_up (va_up (va_up (fun _ => none) 0 (some s0)) 1 (some s1)) 2 (some s2)) 3 (some s3)))))))), (qx, .inl (tI, 72, .inl w)), (s0, .inr (2, [.int (nI (zk_sd 0)), .ref a0])), (a0, .inl (tI, (zk_sd 0 * zk_sd 0), .inl (zk_T (zk_LL 0)))), (s1, .inr (2, [.int (nI (zk_sd 1)), .ref a1])), (a1, .inl (tI, (zk_sd 1 * zk_sd 1), .inl (zk_T (zk_LL 1)))), (s2, .inr (2, [.int (nI (zk_sd 2)), .ref a2])), (a2, .inl (tI, (zk_sd 2 * zk_sd 2), .inl (zk_T (zk_LL 2)))), (s3, .inr (2, [.int (nI (zk_sd 3)), .ref a3])), (a3, .inl (tI, (zk_sd 3 * zk_sd 3), .inl (zk_T (zk_LL 3))))] → va_S A s.heap H locs → lv_has ls 11 [(4, .int x4), (0, .ref b), (1, .ref d), (2, .ref qq), (3, .ref qx)] → W p l e room_1 s m #[Value.ref b] below meth c H locs 117 3595 (lw_Z below #[Value.ref b] s) (F0 m 137 ls []) := by
  have C2 := C1
  obtain ⟨CX, hA2, hbA, hX, hbl, hL, hr, hK4⟩ := C1
  obtain ⟨hx, hb, hml, hown, hts, hA, hK, hZ, hlocks⟩ := id CX
  intro k
  induction k with
  | zero =>
    intro i x4 w H locs ls hk hi ex hw0 hP hD hS hl
    refine lv_iload hx hb dL_law_137 (lv_at hl 0 rfl) ?_
    refine lv_bipush (v := 72) hx hb dL_law_139 (by decide) ?_
    refine lv_icmp_ge (tgt := 186) hx hb dL_law_141 (by decide) (fun h_ => ?_) (fun h_ => ?_)
    · refine lv_iconst (v := 0) hx hb dL_law_186 (by decide) ?_
      refine lv_istore (lv' := [(4, .int 0), (0, .ref b), (1, .ref d), (2, .ref qq), (3, .ref qx)]) hx hb dL_law_187 hl (by decide) rfl (fun ls hl => ?_)
      exact zk_rounds C2 16 0 _ _ 0 w _ _ _ (by omega) (by omega) rfl hw0 hP hD hS (lv_sub hl [0, 1, 2, 3, 4] rfl)
    · exact absurd (by rw [ex]; exact nI_le (a := 72) (by omega) (by omega)) h_
  | succ k ih =>
    intro i x4 w H locs ls hk hi ex hw0 hP hD hS hl
    refine lv_iload hx hb dL_law_137 (lv_at hl 0 rfl) ?_
    refine lv_bipush (v := 72) hx hb dL_law_139 (by decide) ?_
    refine lv_icmp_ge (tgt := 186) hx hb dL_law_141 (by decide) (fun h_ => ?_) (fun h_ => ?_)
    · refine lv_iconst (v := 0) hx hb dL_law_186 (by decide) ?_
      refine lv_istore (lv' := [(4, .int 0), (0, .ref b), (1, .ref d), (2, .ref qq), (3, .ref qx)]) hx hb dL_law_187 hl (by decide) rfl (fun ls hl => ?_)
      exact zk_rounds C2 16 0 _ _ 0 w _ _ _ (by omega) (by omega) rfl hw0 hP hD hS (lv_sub hl [0, 1, 2, 3, 4] rfl)
    · have hlt : i < 72 := by
        rcases Nat.lt_or_ge i 72 with q | q
        · exact q
        · exact absurd (by rw [ex]; exact nI_le (a := 72) q (by omega)) h_
      have hin : vp_in x4 72 := by rw [ex]; exact vp_in_nI hlt (by omega)
      have hcl : x4.toNatClampNeg = i := by rw [ex]; exact nI_clamp (by omega)
      have hab : zk_ab x4 % 72 = i := by rw [ex, zk_ab_nI (by omega)]; exact Nat.mod_eq_of_lt hlt
      refine lv_aload_n hx hb dL_law_144 rfl (lv_at hl 1 rfl) ?_
      refine lv_iload hx hb dL_law_145 (lv_at hl 0 rfl) ?_
      refine lv_iconst (v := 4) hx hb dL_law_147 (by decide) ?_
      refine lv_idiv hx hb dL_law_148 (by decide) ?_
      refine lv_topi (fun t_23 et_23 => ?_)
      have et_23 : t_23 = nI (i / 4) := et_23.trans (by rw [ex]; exact pk_div (d := 4) (by omega) (by decide) (by decide))
      subst et_23
      refine zk_cellc (k := (i / 4)) CX hX hbl hbA hP hD hS (lw_S q257 q258 q8 q259) hL (by omega) hl.1 rfl (Nat.le_of_ble_eq_true rfl) dL_law_149 ⟨Nat.le_of_ble_eq_true rfl, Nat.le_of_ble_eq_true rfl⟩ ⟨by show _ ≤ 1200000; omega, by show _ ≤ 5502250; omega⟩ (fun H locs hP hD hS => ?_)
      refine lv_topi (fun ce_ ece_ => ?_)
      refine lv_bipush (v := 8) hx hb dL_law_152 (by decide) ?_
      refine lv_iload hx hb dL_law_154 (lv_at hl 0 rfl) ?_
      refine lv_iconst (v := 4) hx hb dL_law_156 (by decide) ?_
      refine lv_irem hx hb dL_law_157 (by decide) ?_
      refine lv_imul hx hb dL_law_158 ?_
      refine lv_ishr hx hb dL_law_159 ?_
      refine lv_topi (fun v_ ev_ => ?_)
      refine lv_istore (lv' := [(5, .int v_), (4, .int x4), (0, .ref b), (1, .ref d), (2, .ref qq), (3, .ref qx)]) hx hb dL_law_160 hl (by decide) rfl (fun ls hl => ?_)
      refine lv_aload_n hx hb dL_law_162 rfl (lv_at hl 3 rfl) ?_
      refine lv_iload hx hb dL_law_163 (lv_at hl 1 rfl) ?_
      refine lv_iload hx hb dL_law_165 (lv_at hl 0 rfl) ?_
      refine zk_Vv CX hP hD hS ([(qq, .inl (cS, 4, .inr (.inr (.inr (.inr ((va_up (va_up (va_up (va_up (fun _ => none) 0 (some s0)) 1 (some s1)) 2 (some s2)) 3 (some s3)))))))), (qx, .inl (tI, 72, .inl w)), (s0, .inr (2, [.int (nI (zk_sd 0)), .ref a0])), (a0, .inl (tI, (zk_sd 0 * zk_sd 0), .inl (zk_T (zk_LL 0)))), (s1, .inr (2, [.int (nI (zk_sd 1)), .ref a1])), (a1, .inl (tI, (zk_sd 1 * zk_sd 1), .inl (zk_T (zk_LL 1)))), (s2, .inr (2, [.int (nI (zk_sd 2)), .ref a2])), (a2, .inl (tI, (zk_sd 2 * zk_sd 2), .inl (zk_T (zk_LL 2)))), (s3, .inr (2, [.int (nI (zk_sd 3)), .ref a3])), (a3, .inl (tI, (zk_sd 3 * zk_sd 3), .inl (zk_T (zk_LL 3))))]) [0, 1] [2, 3, 4, 5, 6, 7, 8, 9, 10, 11] (metX1_put l D tB tC tI _ d qw qd vs x4 v_ w) (lw_V q131 q132 q133 q9 q134) 2 0 0 rfl rfl rfl (by decide +kernel) rfl hl.1 rfl (Nat.le_of_ble_eq_true rfl) dL_law_167 ⟨Nat.le_of_ble_eq_true rfl, Nat.le_of_ble_eq_true rfl⟩ ⟨by show _ ≤ 1200000; omega, by show _ ≤ 5502250; omega⟩ rfl rfl rfl rfl (by decide) (fun _ H locs hw hP hD hS => ?_)
      have hP : va_P D zk_cl [(qq, .inl (cS, 4, .inr (.inr (.inr (.inr ((va_up (va_up (va_up (va_up (fun _ => none) 0 (some s0)) 1 (some s1)) 2 (some s2)) 3 (some s3)))))))), (qx, .inl (tI, 72, .inl w)), (s0, .inr (2, [.int (nI (zk_sd 0)), .ref a0])), (a0, .inl (tI, (zk_sd 0 * zk_sd 0), .inl (zk_T (zk_LL 0)))), (s1, .inr (2, [.int (nI (zk_sd 1)), .ref a1])), (a1, .inl (tI, (zk_sd 1 * zk_sd 1), .inl (zk_T (zk_LL 1)))), (s2, .inr (2, [.int (nI (zk_sd 2)), .ref a2])), (a2, .inl (tI, (zk_sd 2 * zk_sd 2), .inl (zk_T (zk_LL 2)))), (s3, .inr (2, [.int (nI (zk_sd 3)), .ref a3])), (a3, .inl (tI, (zk_sd 3 * zk_sd 3), .inl (zk_T (zk_LL 3)))), (d, .inr (0, [.ref qw, .ref qd, .int vs])), (qw, .inl (tC, 72, .inl (upd w (zk_ab x4 % 72) (v_ &&& 255))))] H := hP
      have hD : va_D A [(qq, .inl (cS, 4, .inr (.inr (.inr (.inr ((va_up (va_up (va_up (va_up (fun _ => none) 0 (some s0)) 1 (some s1)) 2 (some s2)) 3 (some s3)))))))), (qx, .inl (tI, 72, .inl w)), (s0, .inr (2, [.int (nI (zk_sd 0)), .ref a0])), (a0, .inl (tI, (zk_sd 0 * zk_sd 0), .inl (zk_T (zk_LL 0)))), (s1, .inr (2, [.int (nI (zk_sd 1)), .ref a1])), (a1, .inl (tI, (zk_sd 1 * zk_sd 1), .inl (zk_T (zk_LL 1)))), (s2, .inr (2, [.int (nI (zk_sd 2)), .ref a2])), (a2, .inl (tI, (zk_sd 2 * zk_sd 2), .inl (zk_T (zk_LL 2)))), (s3, .inr (2, [.int (nI (zk_sd 3)), .ref a3])), (a3, .inl (tI, (zk_sd 3 * zk_sd 3), .inl (zk_T (zk_LL 3)))), (d, .inr (0, [.ref qw, .ref qd, .int vs])), (qw, .inl (tC, 72, .inl (upd w (zk_ab x4 % 72) (v_ &&& 255))))] := hD
      rw [hab] at hP hD
      refine lv_aload_n hx hb dL_law_170 rfl (lv_at hl 5 rfl) ?_
      refine lv_iload hx hb dL_law_171 (lv_at hl 1 rfl) ?_
      refine lv_iload hx hb dL_law_173 (lv_at hl 0 rfl) ?_
      refine lv_sipush (v := 255) hx hb dL_law_175 (by decide) ?_
      refine lv_iand hx hb dL_law_178 ?_
      refine va_iast hx hb hK hP hD hS 1 2 rfl rfl hin dL_law_179 (fun H locs hP hD hS => ?_)
      have hP : va_P D zk_cl [(qq, .inl (cS, 4, .inr (.inr (.inr (.inr ((va_up (va_up (va_up (va_up (fun _ => none) 0 (some s0)) 1 (some s1)) 2 (some s2)) 3 (some s3)))))))), (qx, .inl (tI, 72, .inl (upd w x4.toNatClampNeg (v_ &&& 255)))), (s0, .inr (2, [.int (nI (zk_sd 0)), .ref a0])), (a0, .inl (tI, (zk_sd 0 * zk_sd 0), .inl (zk_T (zk_LL 0)))), (s1, .inr (2, [.int (nI (zk_sd 1)), .ref a1])), (a1, .inl (tI, (zk_sd 1 * zk_sd 1), .inl (zk_T (zk_LL 1)))), (s2, .inr (2, [.int (nI (zk_sd 2)), .ref a2])), (a2, .inl (tI, (zk_sd 2 * zk_sd 2), .inl (zk_T (zk_LL 2)))), (s3, .inr (2, [.int (nI (zk_sd 3)), .ref a3])), (a3, .inl (tI, (zk_sd 3 * zk_sd 3), .inl (zk_T (zk_LL 3)))), (d, .inr (0, [.ref qw, .ref qd, .int vs])), (qw, .inl (tC, 72, .inl (upd w i (v_ &&& 255))))] H := hP
      have hD : va_D A [(qq, .inl (cS, 4, .inr (.inr (.inr (.inr ((va_up (va_up (va_up (va_up (fun _ => none) 0 (some s0)) 1 (some s1)) 2 (some s2)) 3 (some s3)))))))), (qx, .inl (tI, 72, .inl (upd w x4.toNatClampNeg (v_ &&& 255)))), (s0, .inr (2, [.int (nI (zk_sd 0)), .ref a0])), (a0, .inl (tI, (zk_sd 0 * zk_sd 0), .inl (zk_T (zk_LL 0)))), (s1, .inr (2, [.int (nI (zk_sd 1)), .ref a1])), (a1, .inl (tI, (zk_sd 1 * zk_sd 1), .inl (zk_T (zk_LL 1)))), (s2, .inr (2, [.int (nI (zk_sd 2)), .ref a2])), (a2, .inl (tI, (zk_sd 2 * zk_sd 2), .inl (zk_T (zk_LL 2)))), (s3, .inr (2, [.int (nI (zk_sd 3)), .ref a3])), (a3, .inl (tI, (zk_sd 3 * zk_sd 3), .inl (zk_T (zk_LL 3)))), (d, .inr (0, [.ref qw, .ref qd, .int vs])), (qw, .inl (tC, 72, .inl (upd w i (v_ &&& 255))))] := hD
      have ef_ : upd w x4.toNatClampNeg (v_ &&& 255) = upd w i (v_ &&& 255) := by rw [hcl]
      rw [ef_] at hP hD
      clear ef_
      have hP := hP.sub (ws' := [(d, .inr (0, [.ref qw, .ref qd, .int vs])), (qw, .inl (tC, 72, .inl (upd w i (v_ &&& 255)))), (qq, .inl (cS, 4, .inr (.inr (.inr (.inr ((va_up (va_up (va_up (va_up (fun _ => none) 0 (some s0)) 1 (some s1)) 2 (some s2)) 3 (some s3)))))))), (qx, .inl (tI, 72, .inl (upd w i (v_ &&& 255)))), (s0, .inr (2, [.int (nI (zk_sd 0)), .ref a0])), (a0, .inl (tI, (zk_sd 0 * zk_sd 0), .inl (zk_T (zk_LL 0)))), (s1, .inr (2, [.int (nI (zk_sd 1)), .ref a1])), (a1, .inl (tI, (zk_sd 1 * zk_sd 1), .inl (zk_T (zk_LL 1)))), (s2, .inr (2, [.int (nI (zk_sd 2)), .ref a2])), (a2, .inl (tI, (zk_sd 2 * zk_sd 2), .inl (zk_T (zk_LL 2)))), (s3, .inr (2, [.int (nI (zk_sd 3)), .ref a3])), (a3, .inl (tI, (zk_sd 3 * zk_sd 3), .inl (zk_T (zk_LL 3))))]) [10, 11, 0, 1, 2, 3, 4, 5, 6, 7, 8, 9] rfl
      have hD := hD.sub (ws' := [(d, .inr (0, [.ref qw, .ref qd, .int vs])), (qw, .inl (tC, 72, .inl (upd w i (v_ &&& 255)))), (qq, .inl (cS, 4, .inr (.inr (.inr (.inr ((va_up (va_up (va_up (va_up (fun _ => none) 0 (some s0)) 1 (some s1)) 2 (some s2)) 3 (some s3)))))))), (qx, .inl (tI, 72, .inl (upd w i (v_ &&& 255)))), (s0, .inr (2, [.int (nI (zk_sd 0)), .ref a0])), (a0, .inl (tI, (zk_sd 0 * zk_sd 0), .inl (zk_T (zk_LL 0)))), (s1, .inr (2, [.int (nI (zk_sd 1)), .ref a1])), (a1, .inl (tI, (zk_sd 1 * zk_sd 1), .inl (zk_T (zk_LL 1)))), (s2, .inr (2, [.int (nI (zk_sd 2)), .ref a2])), (a2, .inl (tI, (zk_sd 2 * zk_sd 2), .inl (zk_T (zk_LL 2)))), (s3, .inr (2, [.int (nI (zk_sd 3)), .ref a3])), (a3, .inl (tI, (zk_sd 3 * zk_sd 3), .inl (zk_T (zk_LL 3))))]) [10, 11, 0, 1, 2, 3, 4, 5, 6, 7, 8, 9] (by decide) rfl
      refine lv_iinc (v := x4 + 1) (lv' := [(4, .int (x4 + 1)), (5, .int v_), (0, .ref b), (1, .ref d), (2, .ref qq), (3, .ref qx)]) hx hb dL_law_180 hl (k := 1) rfl rfl (by decide) rfl (fun ls hl => ?_)
      refine lv_goto (tgt := 137) hx hb dL_law_183 (by decide) ?_
      exact ih (i + 1) (x4 + 1) _ _ _ _ (by omega) (by omega) (by rw [ex]; exact nI_1 i) (zk_W_upd hw0 i v_) hP hD hS (lv_sub hl [0, 2, 3, 4, 5] rfl)

set_option maxHeartbeats 4000000 in
set_option maxRecDepth 100000 in
theorem zk_clear {p : Program} {l : Launch} {e : Env} {s : State} {m : MethodId} {below : List Frame} {meth : Method} {c : Code} {D : va_G} {tB tC tI cS : ClassId} {b L : Nat} {xs : Nat → Int32} {A : Nat → Prop} (C1 : zk_LC p s m meth c b L xs D tB tC tI cS A) {d qw qq qx qd qs qb s0 a0 s1 a1 s2 a2 s3 a3 : Nat} : ∀ (k i : Nat) (x4 : Int32) (H : Heap) (locs : List Loc) (ls : Array Slot), 64 ≤ i + k → i ≤ 64 → x4 = nI i → va_P D zk_cl [(d, .inr (0, [.ref qw, .ref qd, .int (nI 8)])), (qd, .inr (1, [.ref qs, .int (nI 8), .int (nI 8), .ref qb])), (qb, .inl (tB, (8 * 8), .inl (fun _ => -1))), (qw, .inl (tC, 72, .inl (fun _ => 0))), (qq, .inl (cS, 4, .inr (.inr (.inr (.inr ((va_up (va_up (va_up (va_up (fun _ => none) 0 (some s0)) 1 (some s1)) 2 (some s2)) 3 (some s3)))))))), (qx, .inl (tI, 72, .inl (fun _ => 0))), (s0, .inr (2, [.int (nI (zk_sd 0)), .ref a0])), (a0, .inl (tI, (zk_sd 0 * zk_sd 0), .inl (zk_T (zk_LL 0)))), (s1, .inr (2, [.int (nI (zk_sd 1)), .ref a1])), (a1, .inl (tI, (zk_sd 1 * zk_sd 1), .inl (zk_T (zk_LL 1)))), (s2, .inr (2, [.int (nI (zk_sd 2)), .ref a2])), (a2, .inl (tI, (zk_sd 2 * zk_sd 2), .inl (zk_T (zk_LL 2)))), (s3, .inr (2, [.int (nI (zk_sd 3)), .ref a3])), (a3, .inl (tI, (zk_sd 3 * zk_sd 3), .inl (zk_T (zk_LL 3))))] H → va_D A [(d, .inr (0, [.ref qw, .ref qd, .int (nI 8)])), (qd, .inr (1, [.ref qs, .int (nI 8), .int (nI 8), .ref qb])), (qb, .inl (tB, (8 * 8), .inl (fun _ => -1))), (qw, .inl (tC, 72, .inl (fun _ => 0))), (qq, .inl (cS, 4, .inr (.inr (.inr (.inr ((va_up (va_up (va_up (va_up (fun _ => none) 0 (some s0)) 1 (some s1)) 2 (some s2)) 3 (some s3)))))))), (qx, .inl (tI, 72, .inl (fun _ => 0))), (s0, .inr (2, [.int (nI (zk_sd 0)), .ref a0])), (a0, .inl (tI, (zk_sd 0 * zk_sd 0), .inl (zk_T (zk_LL 0)))), (s1, .inr (2, [.int (nI (zk_sd 1)), .ref a1])), (a1, .inl (tI, (zk_sd 1 * zk_sd 1), .inl (zk_T (zk_LL 1)))), (s2, .inr (2, [.int (nI (zk_sd 2)), .ref a2])), (a2, .inl (tI, (zk_sd 2 * zk_sd 2), .inl (zk_T (zk_LL 2)))), (s3, .inr (2, [.int (nI (zk_sd 3)), .ref a3])), (a3, .inl (tI, (zk_sd 3 * zk_sd 3), .inl (zk_T (zk_LL 3))))] → va_S A s.heap H locs → lv_has ls 11 [(4, .int x4), (0, .ref b), (1, .ref d), (2, .ref qq), (3, .ref qx)] → W p l e room_1 s m #[Value.ref b] below meth c H locs 117 3595 (lw_Z below #[Value.ref b] s) (F0 m 102 ls []) := by
  have C2 := C1
  obtain ⟨CX, hA2, hbA, hX, hbl, hL, hr, hK4⟩ := C1
  obtain ⟨hx, hb, hml, hown, hts, hA, hK, hZ, hlocks⟩ := id CX
  intro k
  induction k with
  | zero =>
    intro i x4 H locs ls hk hi ex hP hD hS hl
    refine lv_iload hx hb dL_law_102 (lv_at hl 0 rfl) ?_
    refine lv_bipush (v := 64) hx hb dL_law_104 (by decide) ?_
    refine lv_icmp_ge (tgt := 134) hx hb dL_law_106 (by decide) (fun h_ => ?_) (fun h_ => ?_)
    · refine lv_iconst (v := 0) hx hb dL_law_134 (by decide) ?_
      refine lv_istore (lv' := [(4, .int 0), (0, .ref b), (1, .ref d), (2, .ref qq), (3, .ref qx)]) hx hb dL_law_135 hl (by decide) rfl (fun ls hl => ?_)
      have hP := hP.sub (ws' := [(d, .inr (0, [.ref qw, .ref qd, .int (nI 8)])), (qw, .inl (tC, 72, .inl (fun _ => 0))), (qq, .inl (cS, 4, .inr (.inr (.inr (.inr ((va_up (va_up (va_up (va_up (fun _ => none) 0 (some s0)) 1 (some s1)) 2 (some s2)) 3 (some s3)))))))), (qx, .inl (tI, 72, .inl (fun _ => 0))), (s0, .inr (2, [.int (nI (zk_sd 0)), .ref a0])), (a0, .inl (tI, (zk_sd 0 * zk_sd 0), .inl (zk_T (zk_LL 0)))), (s1, .inr (2, [.int (nI (zk_sd 1)), .ref a1])), (a1, .inl (tI, (zk_sd 1 * zk_sd 1), .inl (zk_T (zk_LL 1)))), (s2, .inr (2, [.int (nI (zk_sd 2)), .ref a2])), (a2, .inl (tI, (zk_sd 2 * zk_sd 2), .inl (zk_T (zk_LL 2)))), (s3, .inr (2, [.int (nI (zk_sd 3)), .ref a3])), (a3, .inl (tI, (zk_sd 3 * zk_sd 3), .inl (zk_T (zk_LL 3))))]) [0, 3, 4, 5, 6, 7, 8, 9, 10, 11, 12, 13] rfl
      have hD := hD.sub (ws' := [(d, .inr (0, [.ref qw, .ref qd, .int (nI 8)])), (qw, .inl (tC, 72, .inl (fun _ => 0))), (qq, .inl (cS, 4, .inr (.inr (.inr (.inr ((va_up (va_up (va_up (va_up (fun _ => none) 0 (some s0)) 1 (some s1)) 2 (some s2)) 3 (some s3)))))))), (qx, .inl (tI, 72, .inl (fun _ => 0))), (s0, .inr (2, [.int (nI (zk_sd 0)), .ref a0])), (a0, .inl (tI, (zk_sd 0 * zk_sd 0), .inl (zk_T (zk_LL 0)))), (s1, .inr (2, [.int (nI (zk_sd 1)), .ref a1])), (a1, .inl (tI, (zk_sd 1 * zk_sd 1), .inl (zk_T (zk_LL 1)))), (s2, .inr (2, [.int (nI (zk_sd 2)), .ref a2])), (a2, .inl (tI, (zk_sd 2 * zk_sd 2), .inl (zk_T (zk_LL 2)))), (s3, .inr (2, [.int (nI (zk_sd 3)), .ref a3])), (a3, .inl (tI, (zk_sd 3 * zk_sd 3), .inl (zk_T (zk_LL 3))))]) [0, 3, 4, 5, 6, 7, 8, 9, 10, 11, 12, 13] (by decide) rfl
      exact zk_words C2 72 0 0 _ _ _ _ (by omega) (by omega) nI_0.symm zk_W0 hP hD hS (lv_sub hl [0, 1, 2, 3, 4] rfl)
    · exact absurd (by rw [ex]; exact nI_le (a := 64) (by omega) (by omega)) h_
  | succ k ih =>
    intro i x4 H locs ls hk hi ex hP hD hS hl
    refine lv_iload hx hb dL_law_102 (lv_at hl 0 rfl) ?_
    refine lv_bipush (v := 64) hx hb dL_law_104 (by decide) ?_
    refine lv_icmp_ge (tgt := 134) hx hb dL_law_106 (by decide) (fun h_ => ?_) (fun h_ => ?_)
    · refine lv_iconst (v := 0) hx hb dL_law_134 (by decide) ?_
      refine lv_istore (lv' := [(4, .int 0), (0, .ref b), (1, .ref d), (2, .ref qq), (3, .ref qx)]) hx hb dL_law_135 hl (by decide) rfl (fun ls hl => ?_)
      have hP := hP.sub (ws' := [(d, .inr (0, [.ref qw, .ref qd, .int (nI 8)])), (qw, .inl (tC, 72, .inl (fun _ => 0))), (qq, .inl (cS, 4, .inr (.inr (.inr (.inr ((va_up (va_up (va_up (va_up (fun _ => none) 0 (some s0)) 1 (some s1)) 2 (some s2)) 3 (some s3)))))))), (qx, .inl (tI, 72, .inl (fun _ => 0))), (s0, .inr (2, [.int (nI (zk_sd 0)), .ref a0])), (a0, .inl (tI, (zk_sd 0 * zk_sd 0), .inl (zk_T (zk_LL 0)))), (s1, .inr (2, [.int (nI (zk_sd 1)), .ref a1])), (a1, .inl (tI, (zk_sd 1 * zk_sd 1), .inl (zk_T (zk_LL 1)))), (s2, .inr (2, [.int (nI (zk_sd 2)), .ref a2])), (a2, .inl (tI, (zk_sd 2 * zk_sd 2), .inl (zk_T (zk_LL 2)))), (s3, .inr (2, [.int (nI (zk_sd 3)), .ref a3])), (a3, .inl (tI, (zk_sd 3 * zk_sd 3), .inl (zk_T (zk_LL 3))))]) [0, 3, 4, 5, 6, 7, 8, 9, 10, 11, 12, 13] rfl
      have hD := hD.sub (ws' := [(d, .inr (0, [.ref qw, .ref qd, .int (nI 8)])), (qw, .inl (tC, 72, .inl (fun _ => 0))), (qq, .inl (cS, 4, .inr (.inr (.inr (.inr ((va_up (va_up (va_up (va_up (fun _ => none) 0 (some s0)) 1 (some s1)) 2 (some s2)) 3 (some s3)))))))), (qx, .inl (tI, 72, .inl (fun _ => 0))), (s0, .inr (2, [.int (nI (zk_sd 0)), .ref a0])), (a0, .inl (tI, (zk_sd 0 * zk_sd 0), .inl (zk_T (zk_LL 0)))), (s1, .inr (2, [.int (nI (zk_sd 1)), .ref a1])), (a1, .inl (tI, (zk_sd 1 * zk_sd 1), .inl (zk_T (zk_LL 1)))), (s2, .inr (2, [.int (nI (zk_sd 2)), .ref a2])), (a2, .inl (tI, (zk_sd 2 * zk_sd 2), .inl (zk_T (zk_LL 2)))), (s3, .inr (2, [.int (nI (zk_sd 3)), .ref a3])), (a3, .inl (tI, (zk_sd 3 * zk_sd 3), .inl (zk_T (zk_LL 3))))]) [0, 3, 4, 5, 6, 7, 8, 9, 10, 11, 12, 13] (by decide) rfl
      exact zk_words C2 72 0 0 _ _ _ _ (by omega) (by omega) nI_0.symm zk_W0 hP hD hS (lv_sub hl [0, 1, 2, 3, 4] rfl)
    · have hlt : i < 64 := by
        rcases Nat.lt_or_ge i 64 with q | q
        · exact q
        · exact absurd (by rw [ex]; exact nI_le (a := 64) q (by omega)) h_
      refine lv_aload_n hx hb dL_law_109 rfl (lv_at hl 2 rfl) ?_
      refine lv_iload hx hb dL_law_110 (lv_at hl 0 rfl) ?_
      refine lv_bipush (v := 8) hx hb dL_law_112 (by decide) ?_
      refine lv_idiv hx hb dL_law_114 (by decide) ?_
      refine lv_iload hx hb dL_law_115 (lv_at hl 0 rfl) ?_
      refine lv_bipush (v := 8) hx hb dL_law_117 (by decide) ?_
      refine lv_irem hx hb dL_law_119 (by decide) ?_
      refine zk_Vi CX hP hD hS ([(qw, .inl (tC, 72, .inl (fun _ => 0))), (qq, .inl (cS, 4, .inr (.inr (.inr (.inr ((va_up (va_up (va_up (va_up (fun _ => none) 0 (some s0)) 1 (some s1)) 2 (some s2)) 3 (some s3)))))))), (qx, .inl (tI, 72, .inl (fun _ => 0))), (s0, .inr (2, [.int (nI (zk_sd 0)), .ref a0])), (a0, .inl (tI, (zk_sd 0 * zk_sd 0), .inl (zk_T (zk_LL 0)))), (s1, .inr (2, [.int (nI (zk_sd 1)), .ref a1])), (a1, .inl (tI, (zk_sd 1 * zk_sd 1), .inl (zk_T (zk_LL 1)))), (s2, .inr (2, [.int (nI (zk_sd 2)), .ref a2])), (a2, .inl (tI, (zk_sd 2 * zk_sd 2), .inl (zk_T (zk_LL 2)))), (s3, .inr (2, [.int (nI (zk_sd 3)), .ref a3])), (a3, .inl (tI, (zk_sd 3 * zk_sd 3), .inl (zk_T (zk_LL 3))))]) [0, 1, 2] [3, 4, 5, 6, 7, 8, 9, 10, 11, 12, 13] (metX1_bit l D tB tC tI _ d qw qd qs qb 8 (x4 / 8) (x4 - x4 / 8 * 8) (fun _ => -1) (by decide) (by decide)) (lw_V q206 q207 q208 q9 q209) 2 0 0 rfl rfl rfl (by decide +kernel) rfl hl.1 rfl (Nat.le_of_ble_eq_true rfl) dL_law_120 ⟨Nat.le_of_ble_eq_true rfl, Nat.le_of_ble_eq_true rfl⟩ ⟨by show _ ≤ 1200000; omega, by show _ ≤ 5502250; omega⟩ rfl rfl rfl rfl (by decide) (fun r_1 _ H locs hw hP hD hS => ?_)
      have hP : va_P D zk_cl [(qw, .inl (tC, 72, .inl (fun _ => 0))), (qq, .inl (cS, 4, .inr (.inr (.inr (.inr ((va_up (va_up (va_up (va_up (fun _ => none) 0 (some s0)) 1 (some s1)) 2 (some s2)) 3 (some s3)))))))), (qx, .inl (tI, 72, .inl (fun _ => 0))), (s0, .inr (2, [.int (nI (zk_sd 0)), .ref a0])), (a0, .inl (tI, (zk_sd 0 * zk_sd 0), .inl (zk_T (zk_LL 0)))), (s1, .inr (2, [.int (nI (zk_sd 1)), .ref a1])), (a1, .inl (tI, (zk_sd 1 * zk_sd 1), .inl (zk_T (zk_LL 1)))), (s2, .inr (2, [.int (nI (zk_sd 2)), .ref a2])), (a2, .inl (tI, (zk_sd 2 * zk_sd 2), .inl (zk_T (zk_LL 2)))), (s3, .inr (2, [.int (nI (zk_sd 3)), .ref a3])), (a3, .inl (tI, (zk_sd 3 * zk_sd 3), .inl (zk_T (zk_LL 3)))), (d, .inr (0, [.ref qw, .ref qd, .int (nI 8)])), (qd, .inr (1, [.ref qs, .int (nI 8), .int (nI 8), .ref qb])), (qb, .inl (tB, (8 * 8), .inl (fun _ => -1)))] H := hP
      have hD : va_D A [(qw, .inl (tC, 72, .inl (fun _ => 0))), (qq, .inl (cS, 4, .inr (.inr (.inr (.inr ((va_up (va_up (va_up (va_up (fun _ => none) 0 (some s0)) 1 (some s1)) 2 (some s2)) 3 (some s3)))))))), (qx, .inl (tI, 72, .inl (fun _ => 0))), (s0, .inr (2, [.int (nI (zk_sd 0)), .ref a0])), (a0, .inl (tI, (zk_sd 0 * zk_sd 0), .inl (zk_T (zk_LL 0)))), (s1, .inr (2, [.int (nI (zk_sd 1)), .ref a1])), (a1, .inl (tI, (zk_sd 1 * zk_sd 1), .inl (zk_T (zk_LL 1)))), (s2, .inr (2, [.int (nI (zk_sd 2)), .ref a2])), (a2, .inl (tI, (zk_sd 2 * zk_sd 2), .inl (zk_T (zk_LL 2)))), (s3, .inr (2, [.int (nI (zk_sd 3)), .ref a3])), (a3, .inl (tI, (zk_sd 3 * zk_sd 3), .inl (zk_T (zk_LL 3)))), (d, .inr (0, [.ref qw, .ref qd, .int (nI 8)])), (qd, .inr (1, [.ref qs, .int (nI 8), .int (nI 8), .ref qb])), (qb, .inl (tB, (8 * 8), .inl (fun _ => -1)))] := hD
      refine lv_if_eq (tgt := 128) hx hb dL_law_123 (by decide) (fun h_ => ?_) (fun h_ => absurd (by rw [hw]; exact if_neg (by decide)) h_)
      have hP := hP.sub (ws' := [(d, .inr (0, [.ref qw, .ref qd, .int (nI 8)])), (qd, .inr (1, [.ref qs, .int (nI 8), .int (nI 8), .ref qb])), (qb, .inl (tB, (8 * 8), .inl (fun _ => -1))), (qw, .inl (tC, 72, .inl (fun _ => 0))), (qq, .inl (cS, 4, .inr (.inr (.inr (.inr ((va_up (va_up (va_up (va_up (fun _ => none) 0 (some s0)) 1 (some s1)) 2 (some s2)) 3 (some s3)))))))), (qx, .inl (tI, 72, .inl (fun _ => 0))), (s0, .inr (2, [.int (nI (zk_sd 0)), .ref a0])), (a0, .inl (tI, (zk_sd 0 * zk_sd 0), .inl (zk_T (zk_LL 0)))), (s1, .inr (2, [.int (nI (zk_sd 1)), .ref a1])), (a1, .inl (tI, (zk_sd 1 * zk_sd 1), .inl (zk_T (zk_LL 1)))), (s2, .inr (2, [.int (nI (zk_sd 2)), .ref a2])), (a2, .inl (tI, (zk_sd 2 * zk_sd 2), .inl (zk_T (zk_LL 2)))), (s3, .inr (2, [.int (nI (zk_sd 3)), .ref a3])), (a3, .inl (tI, (zk_sd 3 * zk_sd 3), .inl (zk_T (zk_LL 3))))]) [11, 12, 13, 0, 1, 2, 3, 4, 5, 6, 7, 8, 9, 10] rfl
      have hD := hD.sub (ws' := [(d, .inr (0, [.ref qw, .ref qd, .int (nI 8)])), (qd, .inr (1, [.ref qs, .int (nI 8), .int (nI 8), .ref qb])), (qb, .inl (tB, (8 * 8), .inl (fun _ => -1))), (qw, .inl (tC, 72, .inl (fun _ => 0))), (qq, .inl (cS, 4, .inr (.inr (.inr (.inr ((va_up (va_up (va_up (va_up (fun _ => none) 0 (some s0)) 1 (some s1)) 2 (some s2)) 3 (some s3)))))))), (qx, .inl (tI, 72, .inl (fun _ => 0))), (s0, .inr (2, [.int (nI (zk_sd 0)), .ref a0])), (a0, .inl (tI, (zk_sd 0 * zk_sd 0), .inl (zk_T (zk_LL 0)))), (s1, .inr (2, [.int (nI (zk_sd 1)), .ref a1])), (a1, .inl (tI, (zk_sd 1 * zk_sd 1), .inl (zk_T (zk_LL 1)))), (s2, .inr (2, [.int (nI (zk_sd 2)), .ref a2])), (a2, .inl (tI, (zk_sd 2 * zk_sd 2), .inl (zk_T (zk_LL 2)))), (s3, .inr (2, [.int (nI (zk_sd 3)), .ref a3])), (a3, .inl (tI, (zk_sd 3 * zk_sd 3), .inl (zk_T (zk_LL 3))))]) [11, 12, 13, 0, 1, 2, 3, 4, 5, 6, 7, 8, 9, 10] (by decide) rfl
      refine lv_iinc (v := x4 + 1) (lv' := [(4, .int (x4 + 1)), (0, .ref b), (1, .ref d), (2, .ref qq), (3, .ref qx)]) hx hb dL_law_128 hl (k := 0) rfl rfl (by decide) rfl (fun ls hl => ?_)
      refine lv_goto (tgt := 102) hx hb dL_law_131 (by decide) ?_
      exact ih (i + 1) (x4 + 1) _ _ _ (by omega) (by omega) (by rw [ex]; exact nI_1 i) hP hD hS (lv_sub hl [0, 1, 2, 3, 4] rfl)
end
section
/-! the law from its entry -/
set_option maxRecDepth 100000
set_option maxHeartbeats 4000000 in
set_option maxRecDepth 100000 in
theorem whole_start {p : Program} {e : Env} {s : State} {m : MethodId} {below : List Frame} {meth : Method} {c : Code} (l : Launch) (hflags : l.flags = flags0) {b L : Nat} {xs : Nat → Int32} (hL : L ≤ 96) (C0 : lw_At p s m meth c b L xs) : W p l e room_1 s m #[Value.ref b] below meth c s.heap [] 0 0 (lw_Z below #[Value.ref b] s) (entryFrame m ([Value.ref b] : List Value).toArray 11) := by
  obtain ⟨hx, hb, hr, hml, hown, hts0, hX, hbl, hlocks, hgv⟩ := id C0
  have hts : ∀ w ∈ lw_all, w.before #[Value.ref b] s = true := fun w h => hts0 w (lw_all_tbl h)
  obtain ⟨c0, iS0, hKn0⟩ := u_known (C := RX1) (T := TX1) (N := 3) (n := 3) hts in_X1 (hts _ q18)
  obtain ⟨c1, iS1, hKn1⟩ := u_known (C := RX2) (T := TX2) (N := 4) (n := 4) hts in_X2 (hts _ q26)
  obtain ⟨c2, iS2, hKn2⟩ := u_known (C := RX3) (T := TX3) (N := 2) (n := 2) hts in_X3 (hts _ q219)
  obtain ⟨c3, iS3, hKn3⟩ := u_known (C := RJ0) (T := TJ0) (N := 4) (n := 4) hts in_J0 (hts _ q28)
  obtain ⟨D, hKc⟩ : ∃ D : va_G, ∀ (k : Nat) (q : vw_C), zk_cl[k]? = some q → u_Kn s q.1 q.2.1 q.2.2 (D.1 k) (D.2 k) := by
    refine ⟨(fun k => if k = 0 then c0 else if k = 1 then c1 else if k = 2 then c2 else c3, fun k => if k = 0 then iS0 else if k = 1 then iS1 else if k = 2 then iS2 else iS3), ?_⟩
    intro k q hq
    match k, hq with
    | 0, hq => cases hq; exact hKn0
    | 1, hq => cases hq; exact hKn1
    | 2, hq => cases hq; exact hKn2
    | 3, hq => cases hq; exact hKn3
    | k + 4, hq => simp [zk_cl] at hq
  have harr : ∀ ty : FieldType, (∀ C, ty ≠ .object C) → (Cond.arrayClass ty).before #[Value.ref b] s = true → ∃ cA : ClassId, ArrOfT s cA ty ∧ va_RA s cA ty := by
    intro ty hno h
    obtain ⟨cA, kA, comp, hf, hk, hkind⟩ := Cond.arrayClass_spec h
    refine ⟨cA, fun n z => ⟨fun k h => (by cases h), kA, hk, comp, hkind⟩, ?_⟩
    cases ty with
    | object C => exact absurd rfl (hno C)
    | _ => exact hf
  obtain ⟨tB, hB1, hB2⟩ := harr .byte (fun C h => by cases h) (hts _ q100)
  obtain ⟨tC, hC1, hC2⟩ := harr .char (fun C h => by cases h) (hts _ q99)
  obtain ⟨tI, hI1, hI2⟩ := harr .int (fun C h => by cases h) (hts _ q232)
  have hK : va_K D zk_cl (zk_ty tB tC tI) s := by
    refine ⟨hKc, ?_⟩
    intro k q hq
    match k, hq with
    | 0, hq => cases hq; exact ⟨hB1, hB2⟩
    | 1, hq => cases hq; exact ⟨hC1, hC2⟩
    | 2, hq => cases hq; exact ⟨hI1, hI2⟩
    | k + 3, hq => simp [zk_ty] at hq
  have hnA : ∀ a : Nat, a < s.heap.size → ¬ (fun q : Nat => s.heap.size ≤ q) a := fun a h => Nat.not_le.mpr h
  have hflat := flat_of_before _ hgv
  have hst1 : (Cond.eq (.static "java/lang/String" "COMPACT_STRINGS" "Z") (.int 1)).before #[Value.ref b] s = true := hflat _ (by decide +kernel)
  have hst2 : (Cond.isRef (.static "jdk/internal/util/Preconditions" "SIOOBE_FORMATTER" "Ljava/util/function/BiFunction;")).before #[Value.ref b] s = true := hflat _ (by decide +kernel)
  have hZ : zk_St (fun q : Nat => s.heap.size ≤ q) s s.heap := ⟨va_Zof (hts0 _ q38) (hts _ q11) (va_eqi hst1) hnA, va_Zqof (hts0 _ q80) (hts _ q13) hst2 hnA, va_Fw.of (hts0 _ q155) (hts0 _ q154) (hts0 _ q160) (hts0 _ q158) (hts0 _ q156)⟩
  have hAO : va_AO RX3 s := va_AO.of (hts0 _ q271)
  have hA : ∀ q : Nat, s.heap.size ≤ q → (fun q : Nat => s.heap.size ≤ q) q := fun _ h => h
  have hbA : ¬ (fun q : Nat => s.heap.size ≤ q) b := Nat.not_le.mpr hbl
  have hA2 : ∀ q : Nat, (fun q : Nat => s.heap.size ≤ q) q → s.heap.size ≤ q := fun _ h => h
  generalize (fun q : Nat => s.heap.size ≤ q) = A at hZ hA hbA hA2
  have CX : zk_C p s m #[Value.ref b] meth c code 11 R_law A D tB tC tI := ⟨hx, hb, hml, hown, hts, hA, hK, hZ, hlocks⟩
  have hS : va_S A s.heap s.heap [] := va_S.rf
  have hP : va_P D zk_cl [] s.heap := fun k q h => by simp at h
  have hD : va_D A [] := ⟨fun i j p q h => by simp at h, fun k q h => by simp at h⟩
  have hl := lv_entry ([.ref b]) (n := 11) (Nat.le_of_ble_eq_true rfl)
  rw [lg_entry_eq]
  generalize (lg_sl ([.ref b]) ++ List.replicate (11 - (lg_sl ([.ref b])).length) Slot.unset).toArray = ls at hl ⊢
  have hl : lv_has ls 11 [(0, .ref b)] := hl
  refine va_new (ci := 0) (fs := [.null, .null, .int 0]) (C := RX1) (T := TX1) (N := 3) hx hb hts in_X1 tyX1 tyX1_ok hown (hts _ q17) (hts _ q18) (hts _ q9) hK hP hD hS hA rfl (fun j hj => by rcases (show j = 0 ∨ j = 1 ∨ j = 2 by omega) with rfl | rfl | rfl <;> rfl) (Nat.le_of_ble_eq_true rfl) (Nat.le_of_ble_eq_true rfl) dL_law_0 (fun d H hP hD hS => ?_)
  have hP : va_P D zk_cl [(d, .inr (0, [.null, .null, .int 0]))] H := hP
  have hD : va_D A [(d, .inr (0, [.null, .null, .int 0]))] := hD
  refine W.widen (k := 1) (n := 3) (Nat.le_of_ble_eq_true rfl) (Nat.le_of_ble_eq_true rfl) ?_
  refine lv_dup hx hb dL_law_3 rfl ?_
  refine zk_Iv CX hP hD hS ([]) [0] [] (metX1_init l D tB tC tI _ d) q21 q9 q19 q20 0 rfl (by decide +kernel) rfl hl.1 rfl (Nat.le_of_ble_eq_true rfl) dL_law_4 ⟨Nat.le_of_ble_eq_true rfl, Nat.le_of_ble_eq_true rfl⟩ ⟨Nat.le_of_ble_eq_true rfl, Nat.le_of_ble_eq_true rfl⟩ rfl rfl rfl rfl (by decide) (fun u_ H locs hw hP hD hS => ?_)
  obtain ⟨qw, qd, qs, qb⟩ := u_
  have hP : va_P D zk_cl [(d, .inr (0, [.ref qw, .ref qd, .int 8])), (qw, .inl (tC, 72, .inl (fun _ => 0))), (qd, .inr (1, [.ref qs, .int 8, .int 8, .ref qb])), (qb, .inl (tB, 64, .inl (fun _ => -1)))] H := hP
  have hD : va_D A [(d, .inr (0, [.ref qw, .ref qd, .int 8])), (qw, .inl (tC, 72, .inl (fun _ => 0))), (qd, .inr (1, [.ref qs, .int 8, .int 8, .ref qb])), (qb, .inl (tB, 64, .inl (fun _ => -1)))] := hD
  refine W.widen (k := 7) (n := 423) (Nat.le_of_ble_eq_true rfl) (Nat.le_of_ble_eq_true rfl) ?_
  refine lv_astore_n (lv' := [(1, .ref d), (0, .ref b)]) hx hb dL_law_7 rfl hl (by decide) rfl (fun ls hl => ?_)
  refine lv_iconst (v := 4) hx hb dL_law_8 (by decide) ?_
  refine va_newq (C := RX3) hx hb hown (hts _ q218) hAO hK hP hD hS hA (by decide) (N' := 4) (by decide) (Nat.le_of_ble_eq_true rfl) (Nat.le_of_ble_eq_true rfl) (Nat.le_of_ble_eq_true rfl) dL_law_9 (fun qq cS H hK4 hP hD hS => ?_)
  have hP : va_P D zk_cl [(d, .inr (0, [.ref qw, .ref qd, .int 8])), (qw, .inl (tC, 72, .inl (fun _ => 0))), (qd, .inr (1, [.ref qs, .int 8, .int 8, .ref qb])), (qb, .inl (tB, 64, .inl (fun _ => -1))), (qq, .inl (cS, 4, .inr (.inr (.inr (.inr ((fun _ => none)))))))] H := hP
  have hD : va_D A [(d, .inr (0, [.ref qw, .ref qd, .int 8])), (qw, .inl (tC, 72, .inl (fun _ => 0))), (qd, .inr (1, [.ref qs, .int 8, .int 8, .ref qb])), (qb, .inl (tB, 64, .inl (fun _ => -1))), (qq, .inl (cS, 4, .inr (.inr (.inr (.inr ((fun _ => none)))))))] := hD
  refine W.widen (k := 8) (n := 427) (Nat.le_of_ble_eq_true rfl) (Nat.le_of_ble_eq_true rfl) ?_
  have C1 : zk_LC p s m meth c b L xs D tB tC tI cS A := ⟨CX, hA2, hbA, hX, hbl, hL, hr, hK4⟩
  refine lv_astore_n (lv' := [(2, .ref qq), (1, .ref d), (0, .ref b)]) hx hb dL_law_12 rfl hl (by decide) rfl (fun ls hl => ?_)
  refine lv_bipush (v := 72) hx hb dL_law_13 (by decide) ?_
  refine zk_newI (N' := 72) CX hP hD hS (by decide) (by decide) (Nat.le_of_ble_eq_true rfl) (Nat.le_of_ble_eq_true rfl) (Nat.le_of_ble_eq_true rfl) dL_law_15 (fun qx H hP hD hS => ?_)
  have hP : va_P D zk_cl [(d, .inr (0, [.ref qw, .ref qd, .int 8])), (qw, .inl (tC, 72, .inl (fun _ => 0))), (qd, .inr (1, [.ref qs, .int 8, .int 8, .ref qb])), (qb, .inl (tB, 64, .inl (fun _ => -1))), (qq, .inl (cS, 4, .inr (.inr (.inr (.inr ((fun _ => none))))))), (qx, .inl (tI, 72, .inl (fun _ => 0)))] H := hP
  have hD : va_D A [(d, .inr (0, [.ref qw, .ref qd, .int 8])), (qw, .inl (tC, 72, .inl (fun _ => 0))), (qd, .inr (1, [.ref qs, .int 8, .int 8, .ref qb])), (qb, .inl (tB, 64, .inl (fun _ => -1))), (qq, .inl (cS, 4, .inr (.inr (.inr (.inr ((fun _ => none))))))), (qx, .inl (tI, 72, .inl (fun _ => 0)))] := hD
  refine W.widen (k := 9) (n := 427 + 72) (Nat.le_of_ble_eq_true rfl) (Nat.le_of_ble_eq_true rfl) ?_
  refine lv_astore_n (lv' := [(3, .ref qx), (2, .ref qq), (1, .ref d), (0, .ref b)]) hx hb dL_law_17 rfl hl (by decide) rfl (fun ls hl => ?_)
  refine lv_iconst (v := 0) hx hb dL_law_18 (by decide) ?_
  refine lv_istore (lv' := [(4, .int 0), (3, .ref qx), (2, .ref qq), (1, .ref d), (0, .ref b)]) hx hb dL_law_19 hl (by decide) rfl (fun ls hl => ?_)
  refine lv_iload hx hb dL_law_21 (lv_at hl 0 rfl) ?_
  refine lv_iconst (v := 4) hx hb dL_law_23 (by decide) ?_
  refine lv_icmp_ge (tgt := 88) hx hb dL_law_24 (by decide) (fun h_ => absurd h_ (by decide)) (fun h_ => ?_)
  refine lv_aload_n hx hb dL_law_27 rfl (lv_at hl 2 rfl) ?_
  refine lv_iload hx hb dL_law_28 (lv_at hl 0 rfl) ?_
  refine va_new (ci := 2) (fs := [.int 0, .null]) (C := RX3) (T := TX3) (N := 2) hx hb hts in_X3 tyX3 tyX3_ok hown (hts _ q218) (hts _ q219) (hts _ q15) hK hP hD hS hA rfl (fun j hj => by rcases (show j = 0 ∨ j = 1 by omega) with rfl | rfl <;> rfl) (Nat.le_of_ble_eq_true rfl) (Nat.le_of_ble_eq_true rfl) dL_law_30 (fun s0 H hP hD hS => ?_)
  have hP : va_P D zk_cl [(d, .inr (0, [.ref qw, .ref qd, .int 8])), (qw, .inl (tC, 72, .inl (fun _ => 0))), (qd, .inr (1, [.ref qs, .int 8, .int 8, .ref qb])), (qb, .inl (tB, 64, .inl (fun _ => -1))), (qq, .inl (cS, 4, .inr (.inr (.inr (.inr ((fun _ => none))))))), (qx, .inl (tI, 72, .inl (fun _ => 0))), (s0, .inr (2, [.int 0, .null]))] H := hP
  have hD : va_D A [(d, .inr (0, [.ref qw, .ref qd, .int 8])), (qw, .inl (tC, 72, .inl (fun _ => 0))), (qd, .inr (1, [.ref qs, .int 8, .int 8, .ref qb])), (qb, .inl (tB, 64, .inl (fun _ => -1))), (qq, .inl (cS, 4, .inr (.inr (.inr (.inr ((fun _ => none))))))), (qx, .inl (tI, 72, .inl (fun _ => 0))), (s0, .inr (2, [.int 0, .null]))] := hD
  refine W.widen (k := 10) (n := 427 + 72 + 2) (Nat.le_of_ble_eq_true rfl) (Nat.le_of_ble_eq_true rfl) ?_
  refine lv_dup hx hb dL_law_33 rfl ?_
  refine lv_bipush (v := 8) hx hb dL_law_34 (by decide) ?_
  refine lv_iconst (v := 2) hx hb dL_law_36 (by decide) ?_
  refine lv_iload hx hb dL_law_37 (lv_at hl 0 rfl) ?_
  refine lv_imul hx hb dL_law_39 ?_
  refine lv_iadd hx hb dL_law_40 ?_
  refine lv_topi (fun t_1 et_1 => ?_)
  have et_1 : t_1 = (nI (zk_sd 0)) := et_1.trans (by decide)
  subst et_1
  refine zk_Iv CX hP hD hS ([(d, .inr (0, [.ref qw, .ref qd, .int 8])), (qw, .inl (tC, 72, .inl (fun _ => 0))), (qd, .inr (1, [.ref qs, .int 8, .int 8, .ref qb])), (qb, .inl (tB, 64, .inl (fun _ => -1))), (qq, .inl (cS, 4, .inr (.inr (.inr (.inr ((fun _ => none))))))), (qx, .inl (tI, 72, .inl (fun _ => 0)))]) [6] [0, 1, 2, 3, 4, 5] (metX3_init l D tB tC tI _ s0 (nI (zk_sd 0)) ((zk_sd 0) * (zk_sd 0)) (pk_mul _ _) (by decide)) q222 q15 q220 q221 1 rfl (by decide +kernel) rfl hl.1 rfl (Nat.le_of_ble_eq_true rfl) dL_law_41 ⟨Nat.le_of_ble_eq_true rfl, Nat.le_of_ble_eq_true rfl⟩ ⟨Nat.le_of_ble_eq_true rfl, Nat.le_of_ble_eq_true rfl⟩ rfl rfl rfl rfl (by decide) (fun a0 H locs hw hP hD hS => ?_)
  have hP : va_P D zk_cl [(d, .inr (0, [.ref qw, .ref qd, .int 8])), (qw, .inl (tC, 72, .inl (fun _ => 0))), (qd, .inr (1, [.ref qs, .int 8, .int 8, .ref qb])), (qb, .inl (tB, 64, .inl (fun _ => -1))), (qq, .inl (cS, 4, .inr (.inr (.inr (.inr ((fun _ => none))))))), (qx, .inl (tI, 72, .inl (fun _ => 0))), (s0, .inr (2, [.int (nI (zk_sd 0)), .ref a0])), (a0, .inl (tI, ((zk_sd 0) * (zk_sd 0)), .inl (fun _ => -1)))] H := hP
  have hD : va_D A [(d, .inr (0, [.ref qw, .ref qd, .int 8])), (qw, .inl (tC, 72, .inl (fun _ => 0))), (qd, .inr (1, [.ref qs, .int 8, .int 8, .ref qb])), (qb, .inl (tB, 64, .inl (fun _ => -1))), (qq, .inl (cS, 4, .inr (.inr (.inr (.inr ((fun _ => none))))))), (qx, .inl (tI, 72, .inl (fun _ => 0))), (s0, .inr (2, [.int (nI (zk_sd 0)), .ref a0])), (a0, .inl (tI, ((zk_sd 0) * (zk_sd 0)), .inl (fun _ => -1)))] := hD
  refine W.widen (k := 11) (n := 427 + 72 + 2 + 196) (Nat.le_of_ble_eq_true rfl) (Nat.le_of_ble_eq_true rfl) ?_
  refine va_astq hx hb hK4 hP hD hS 4 3 6 2 rfl rfl rfl rfl (pk_in 0 4 (by decide)) dL_law_44 (fun H locs hP hD hS => ?_)
  have hP : va_P D zk_cl [(d, .inr (0, [.ref qw, .ref qd, .int 8])), (qw, .inl (tC, 72, .inl (fun _ => 0))), (qd, .inr (1, [.ref qs, .int 8, .int 8, .ref qb])), (qb, .inl (tB, 64, .inl (fun _ => -1))), (qq, .inl (cS, 4, .inr (.inr (.inr (.inr ((va_up (fun _ => none) 0 (some s0)))))))), (qx, .inl (tI, 72, .inl (fun _ => 0))), (s0, .inr (2, [.int (nI (zk_sd 0)), .ref a0])), (a0, .inl (tI, ((zk_sd 0) * (zk_sd 0)), .inl (fun _ => -1)))] H := hP
  have hD : va_D A [(d, .inr (0, [.ref qw, .ref qd, .int 8])), (qw, .inl (tC, 72, .inl (fun _ => 0))), (qd, .inr (1, [.ref qs, .int 8, .int 8, .ref qb])), (qb, .inl (tB, 64, .inl (fun _ => -1))), (qq, .inl (cS, 4, .inr (.inr (.inr (.inr ((va_up (fun _ => none) 0 (some s0)))))))), (qx, .inl (tI, 72, .inl (fun _ => 0))), (s0, .inr (2, [.int (nI (zk_sd 0)), .ref a0])), (a0, .inl (tI, ((zk_sd 0) * (zk_sd 0)), .inl (fun _ => -1)))] := hD
  refine lv_aload_n hx hb dL_law_45 rfl (lv_at hl 2 rfl) ?_
  refine lv_iload hx hb dL_law_46 (lv_at hl 0 rfl) ?_
  refine va_aldq (C := RX3) hx hb hK4 hP 4 3 rfl rfl (pk_in 0 4 (by decide)) dL_law_48 ?_
  refine W.eq (g2 := F0 m 49 ls [.ref s0]) rfl ?_
  refine zk_Vv CX hP hD hS ([(d, .inr (0, [.ref qw, .ref qd, .int 8])), (qw, .inl (tC, 72, .inl (fun _ => 0))), (qd, .inr (1, [.ref qs, .int 8, .int 8, .ref qb])), (qb, .inl (tB, 64, .inl (fun _ => -1))), (qq, .inl (cS, 4, .inr (.inr (.inr (.inr ((va_up (fun _ => none) 0 (some s0)))))))), (qx, .inl (tI, 72, .inl (fun _ => 0)))]) [6, 7] [0, 1, 2, 3, 4, 5] (metX3_fill l D tB tC tI _ s0 a0 (zk_sd 0) (zk_LL 0) (zk_EE 0) (by decide) (by rw [zk_LL_len (by decide)]; decide) (zk_run (i := 0) (by decide))) (lw_V q233 q234 q235 q15 q236) 0 2 0 rfl rfl rfl (by decide +kernel) rfl hl.1 rfl (Nat.le_of_ble_eq_true rfl) dL_law_49 ⟨Nat.le_of_ble_eq_true rfl, Nat.le_of_ble_eq_true rfl⟩ ⟨Nat.le_of_ble_eq_true rfl, Nat.le_of_ble_eq_true rfl⟩ rfl rfl rfl rfl (by decide) (fun _ H locs hw hP hD hS => ?_)
  have hP : va_P D zk_cl [(d, .inr (0, [.ref qw, .ref qd, .int 8])), (qw, .inl (tC, 72, .inl (fun _ => 0))), (qd, .inr (1, [.ref qs, .int 8, .int 8, .ref qb])), (qb, .inl (tB, 64, .inl (fun _ => -1))), (qq, .inl (cS, 4, .inr (.inr (.inr (.inr ((va_up (fun _ => none) 0 (some s0)))))))), (qx, .inl (tI, 72, .inl (fun _ => 0))), (s0, .inr (2, [.int (nI (zk_sd 0)), .ref a0])), (a0, .inl (tI, ((zk_sd 0) * (zk_sd 0)), .inl (zk_T (zk_LL 0))))] H := hP
  have hD : va_D A [(d, .inr (0, [.ref qw, .ref qd, .int 8])), (qw, .inl (tC, 72, .inl (fun _ => 0))), (qd, .inr (1, [.ref qs, .int 8, .int 8, .ref qb])), (qb, .inl (tB, 64, .inl (fun _ => -1))), (qq, .inl (cS, 4, .inr (.inr (.inr (.inr ((va_up (fun _ => none) 0 (some s0)))))))), (qx, .inl (tI, 72, .inl (fun _ => 0))), (s0, .inr (2, [.int (nI (zk_sd 0)), .ref a0])), (a0, .inl (tI, ((zk_sd 0) * (zk_sd 0)), .inl (zk_T (zk_LL 0))))] := hD
  refine W.widen (k := 35) (n := 427 + 72 + 2 + 196 + 384) (Nat.le_of_ble_eq_true rfl) (Nat.le_of_ble_eq_true rfl) ?_
  refine lv_aload_n hx hb dL_law_52 rfl (lv_at hl 2 rfl) ?_
  refine lv_iload hx hb dL_law_53 (lv_at hl 0 rfl) ?_
  refine va_aldq (C := RX3) hx hb hK4 hP 4 3 rfl rfl (pk_in 0 4 (by decide)) dL_law_55 ?_
  refine W.eq (g2 := F0 m 56 ls [.ref s0]) rfl ?_
  refine lv_bipush (v := 8) hx hb dL_law_56 (by decide) ?_
  refine lv_iconst (v := 2) hx hb dL_law_58 (by decide) ?_
  refine lv_iload hx hb dL_law_59 (lv_at hl 0 rfl) ?_
  refine lv_imul hx hb dL_law_61 ?_
  refine lv_iadd hx hb dL_law_62 ?_
  refine lv_bipush (v := 8) hx hb dL_law_63 (by decide) ?_
  refine lv_iconst (v := 2) hx hb dL_law_65 (by decide) ?_
  refine lv_iload hx hb dL_law_66 (lv_at hl 0 rfl) ?_
  refine lv_imul hx hb dL_law_68 ?_
  refine lv_iadd hx hb dL_law_69 ?_
  refine lv_imul hx hb dL_law_70 ?_
  refine lv_bipush (v := 8) hx hb dL_law_71 (by decide) ?_
  refine lv_idiv hx hb dL_law_73 (by decide) ?_
  refine lv_topi (fun t_2 et_2 => ?_)
  have et_2 : t_2 = nI (((zk_sd 0) * (zk_sd 0)) / 8) := et_2.trans (by decide)
  subst et_2
  refine zk_Vi CX hP hD hS ([(d, .inr (0, [.ref qw, .ref qd, .int 8])), (qw, .inl (tC, 72, .inl (fun _ => 0))), (qd, .inr (1, [.ref qs, .int 8, .int 8, .ref qb])), (qb, .inl (tB, 64, .inl (fun _ => -1))), (qq, .inl (cS, 4, .inr (.inr (.inr (.inr ((va_up (fun _ => none) 0 (some s0)))))))), (qx, .inl (tI, 72, .inl (fun _ => 0)))]) [6, 7] [0, 1, 2, 3, 4, 5] (metX3_isWhole l D tB tC tI _ s0 a0 (nI (zk_sd 0)) ((zk_sd 0) * (zk_sd 0)) (((zk_sd 0) * (zk_sd 0)) / 8) (zk_LL 0) (pk_mul _ _) (by decide) (by decide) (zk_LL_len (by decide)) (by rw [zk_LL_len (by decide)]; decide) (zk_f1 (i := 0) (by decide)) (zk_f2 (i := 0) (by decide)) (zk_cntE (i := 0) (by decide))) (lw_V q253 q254 q255 q15 q256) 1 2 0 rfl rfl rfl (by decide +kernel) rfl hl.1 rfl (Nat.le_of_ble_eq_true rfl) dL_law_74 ⟨Nat.le_of_ble_eq_true rfl, Nat.le_of_ble_eq_true rfl⟩ ⟨Nat.le_of_ble_eq_true rfl, Nat.le_of_ble_eq_true rfl⟩ rfl rfl rfl rfl (by decide) (fun r_w0 _ H locs hw hP hD hS => ?_)
  have hP : va_P D zk_cl [(d, .inr (0, [.ref qw, .ref qd, .int 8])), (qw, .inl (tC, 72, .inl (fun _ => 0))), (qd, .inr (1, [.ref qs, .int 8, .int 8, .ref qb])), (qb, .inl (tB, 64, .inl (fun _ => -1))), (qq, .inl (cS, 4, .inr (.inr (.inr (.inr ((va_up (fun _ => none) 0 (some s0)))))))), (qx, .inl (tI, 72, .inl (fun _ => 0))), (s0, .inr (2, [.int (nI (zk_sd 0)), .ref a0])), (a0, .inl (tI, ((zk_sd 0) * (zk_sd 0)), .inl (zk_T (zk_LL 0))))] H := hP
  have hD : va_D A [(d, .inr (0, [.ref qw, .ref qd, .int 8])), (qw, .inl (tC, 72, .inl (fun _ => 0))), (qd, .inr (1, [.ref qs, .int 8, .int 8, .ref qb])), (qb, .inl (tB, 64, .inl (fun _ => -1))), (qq, .inl (cS, 4, .inr (.inr (.inr (.inr ((va_up (fun _ => none) 0 (some s0)))))))), (qx, .inl (tI, 72, .inl (fun _ => 0))), (s0, .inr (2, [.int (nI (zk_sd 0)), .ref a0])), (a0, .inl (tI, ((zk_sd 0) * (zk_sd 0)), .inl (zk_T (zk_LL 0))))] := hD
  refine W.widen (k := 36) (n := 427 + 72 + 2 + 196 + 384 + 192) (Nat.le_of_ble_eq_true rfl) (Nat.le_of_ble_eq_true rfl) ?_
  refine lv_if_ne (tgt := 82) hx hb dL_law_77 (by decide) (fun h_ => ?_) (fun h_ => absurd h_ (by rw [hw]; decide))
  refine lv_iinc (v := 1) (lv' := [(4, .int 1), (3, .ref qx), (2, .ref qq), (1, .ref d), (0, .ref b)]) hx hb dL_law_82 hl (k := 0) rfl (by decide) (by decide) rfl (fun ls hl => ?_)
  refine lv_goto (tgt := 21) hx hb dL_law_85 (by decide) ?_
  refine lv_iload hx hb dL_law_21 (lv_at hl 0 rfl) ?_
  refine lv_iconst (v := 4) hx hb dL_law_23 (by decide) ?_
  refine lv_icmp_ge (tgt := 88) hx hb dL_law_24 (by decide) (fun h_ => absurd h_ (by decide)) (fun h_ => ?_)
  refine lv_aload_n hx hb dL_law_27 rfl (lv_at hl 2 rfl) ?_
  refine lv_iload hx hb dL_law_28 (lv_at hl 0 rfl) ?_
  refine va_new (ci := 2) (fs := [.int 0, .null]) (C := RX3) (T := TX3) (N := 2) hx hb hts in_X3 tyX3 tyX3_ok hown (hts _ q218) (hts _ q219) (hts _ q15) hK hP hD hS hA rfl (fun j hj => by rcases (show j = 0 ∨ j = 1 by omega) with rfl | rfl <;> rfl) (Nat.le_of_ble_eq_true rfl) (Nat.le_of_ble_eq_true rfl) dL_law_30 (fun s1 H hP hD hS => ?_)
  have hP : va_P D zk_cl [(d, .inr (0, [.ref qw, .ref qd, .int 8])), (qw, .inl (tC, 72, .inl (fun _ => 0))), (qd, .inr (1, [.ref qs, .int 8, .int 8, .ref qb])), (qb, .inl (tB, 64, .inl (fun _ => -1))), (qq, .inl (cS, 4, .inr (.inr (.inr (.inr ((va_up (fun _ => none) 0 (some s0)))))))), (qx, .inl (tI, 72, .inl (fun _ => 0))), (s0, .inr (2, [.int (nI (zk_sd 0)), .ref a0])), (a0, .inl (tI, ((zk_sd 0) * (zk_sd 0)), .inl (zk_T (zk_LL 0)))), (s1, .inr (2, [.int 0, .null]))] H := hP
  have hD : va_D A [(d, .inr (0, [.ref qw, .ref qd, .int 8])), (qw, .inl (tC, 72, .inl (fun _ => 0))), (qd, .inr (1, [.ref qs, .int 8, .int 8, .ref qb])), (qb, .inl (tB, 64, .inl (fun _ => -1))), (qq, .inl (cS, 4, .inr (.inr (.inr (.inr ((va_up (fun _ => none) 0 (some s0)))))))), (qx, .inl (tI, 72, .inl (fun _ => 0))), (s0, .inr (2, [.int (nI (zk_sd 0)), .ref a0])), (a0, .inl (tI, ((zk_sd 0) * (zk_sd 0)), .inl (zk_T (zk_LL 0)))), (s1, .inr (2, [.int 0, .null]))] := hD
  refine W.widen (k := 37) (n := 427 + 72 + 2 + 196 + 384 + 192 + 2) (Nat.le_of_ble_eq_true rfl) (Nat.le_of_ble_eq_true rfl) ?_
  refine lv_dup hx hb dL_law_33 rfl ?_
  refine lv_bipush (v := 8) hx hb dL_law_34 (by decide) ?_
  refine lv_iconst (v := 2) hx hb dL_law_36 (by decide) ?_
  refine lv_iload hx hb dL_law_37 (lv_at hl 0 rfl) ?_
  refine lv_imul hx hb dL_law_39 ?_
  refine lv_iadd hx hb dL_law_40 ?_
  refine lv_topi (fun t_3 et_3 => ?_)
  have et_3 : t_3 = (nI (zk_sd 1)) := et_3.trans (by decide)
  subst et_3
  refine zk_Iv CX hP hD hS ([(d, .inr (0, [.ref qw, .ref qd, .int 8])), (qw, .inl (tC, 72, .inl (fun _ => 0))), (qd, .inr (1, [.ref qs, .int 8, .int 8, .ref qb])), (qb, .inl (tB, 64, .inl (fun _ => -1))), (qq, .inl (cS, 4, .inr (.inr (.inr (.inr ((va_up (fun _ => none) 0 (some s0)))))))), (qx, .inl (tI, 72, .inl (fun _ => 0))), (s0, .inr (2, [.int (nI (zk_sd 0)), .ref a0])), (a0, .inl (tI, ((zk_sd 0) * (zk_sd 0)), .inl (zk_T (zk_LL 0))))]) [8] [0, 1, 2, 3, 4, 5, 6, 7] (metX3_init l D tB tC tI _ s1 (nI (zk_sd 1)) ((zk_sd 1) * (zk_sd 1)) (pk_mul _ _) (by decide)) q222 q15 q220 q221 1 rfl (by decide +kernel) rfl hl.1 rfl (Nat.le_of_ble_eq_true rfl) dL_law_41 ⟨Nat.le_of_ble_eq_true rfl, Nat.le_of_ble_eq_true rfl⟩ ⟨Nat.le_of_ble_eq_true rfl, Nat.le_of_ble_eq_true rfl⟩ rfl rfl rfl rfl (by decide) (fun a1 H locs hw hP hD hS => ?_)
  have hP : va_P D zk_cl [(d, .inr (0, [.ref qw, .ref qd, .int 8])), (qw, .inl (tC, 72, .inl (fun _ => 0))), (qd, .inr (1, [.ref qs, .int 8, .int 8, .ref qb])), (qb, .inl (tB, 64, .inl (fun _ => -1))), (qq, .inl (cS, 4, .inr (.inr (.inr (.inr ((va_up (fun _ => none) 0 (some s0)))))))), (qx, .inl (tI, 72, .inl (fun _ => 0))), (s0, .inr (2, [.int (nI (zk_sd 0)), .ref a0])), (a0, .inl (tI, ((zk_sd 0) * (zk_sd 0)), .inl (zk_T (zk_LL 0)))), (s1, .inr (2, [.int (nI (zk_sd 1)), .ref a1])), (a1, .inl (tI, ((zk_sd 1) * (zk_sd 1)), .inl (fun _ => -1)))] H := hP
  have hD : va_D A [(d, .inr (0, [.ref qw, .ref qd, .int 8])), (qw, .inl (tC, 72, .inl (fun _ => 0))), (qd, .inr (1, [.ref qs, .int 8, .int 8, .ref qb])), (qb, .inl (tB, 64, .inl (fun _ => -1))), (qq, .inl (cS, 4, .inr (.inr (.inr (.inr ((va_up (fun _ => none) 0 (some s0)))))))), (qx, .inl (tI, 72, .inl (fun _ => 0))), (s0, .inr (2, [.int (nI (zk_sd 0)), .ref a0])), (a0, .inl (tI, ((zk_sd 0) * (zk_sd 0)), .inl (zk_T (zk_LL 0)))), (s1, .inr (2, [.int (nI (zk_sd 1)), .ref a1])), (a1, .inl (tI, ((zk_sd 1) * (zk_sd 1)), .inl (fun _ => -1)))] := hD
  refine W.widen (k := 38) (n := 427 + 72 + 2 + 196 + 384 + 192 + 2 + 196) (Nat.le_of_ble_eq_true rfl) (Nat.le_of_ble_eq_true rfl) ?_
  refine va_astq hx hb hK4 hP hD hS 4 3 8 2 rfl rfl rfl rfl (pk_in 1 4 (by decide)) dL_law_44 (fun H locs hP hD hS => ?_)
  have hP : va_P D zk_cl [(d, .inr (0, [.ref qw, .ref qd, .int 8])), (qw, .inl (tC, 72, .inl (fun _ => 0))), (qd, .inr (1, [.ref qs, .int 8, .int 8, .ref qb])), (qb, .inl (tB, 64, .inl (fun _ => -1))), (qq, .inl (cS, 4, .inr (.inr (.inr (.inr ((va_up (va_up (fun _ => none) 0 (some s0)) 1 (some s1)))))))), (qx, .inl (tI, 72, .inl (fun _ => 0))), (s0, .inr (2, [.int (nI (zk_sd 0)), .ref a0])), (a0, .inl (tI, ((zk_sd 0) * (zk_sd 0)), .inl (zk_T (zk_LL 0)))), (s1, .inr (2, [.int (nI (zk_sd 1)), .ref a1])), (a1, .inl (tI, ((zk_sd 1) * (zk_sd 1)), .inl (fun _ => -1)))] H := hP
  have hD : va_D A [(d, .inr (0, [.ref qw, .ref qd, .int 8])), (qw, .inl (tC, 72, .inl (fun _ => 0))), (qd, .inr (1, [.ref qs, .int 8, .int 8, .ref qb])), (qb, .inl (tB, 64, .inl (fun _ => -1))), (qq, .inl (cS, 4, .inr (.inr (.inr (.inr ((va_up (va_up (fun _ => none) 0 (some s0)) 1 (some s1)))))))), (qx, .inl (tI, 72, .inl (fun _ => 0))), (s0, .inr (2, [.int (nI (zk_sd 0)), .ref a0])), (a0, .inl (tI, ((zk_sd 0) * (zk_sd 0)), .inl (zk_T (zk_LL 0)))), (s1, .inr (2, [.int (nI (zk_sd 1)), .ref a1])), (a1, .inl (tI, ((zk_sd 1) * (zk_sd 1)), .inl (fun _ => -1)))] := hD
  refine lv_aload_n hx hb dL_law_45 rfl (lv_at hl 2 rfl) ?_
  refine lv_iload hx hb dL_law_46 (lv_at hl 0 rfl) ?_
  refine va_aldq (C := RX3) hx hb hK4 hP 4 3 rfl rfl (pk_in 1 4 (by decide)) dL_law_48 ?_
  refine W.eq (g2 := F0 m 49 ls [.ref s1]) rfl ?_
  refine zk_Vv CX hP hD hS ([(d, .inr (0, [.ref qw, .ref qd, .int 8])), (qw, .inl (tC, 72, .inl (fun _ => 0))), (qd, .inr (1, [.ref qs, .int 8, .int 8, .ref qb])), (qb, .inl (tB, 64, .inl (fun _ => -1))), (qq, .inl (cS, 4, .inr (.inr (.inr (.inr ((va_up (va_up (fun _ => none) 0 (some s0)) 1 (some s1)))))))), (qx, .inl (tI, 72, .inl (fun _ => 0))), (s0, .inr (2, [.int (nI (zk_sd 0)), .ref a0])), (a0, .inl (tI, ((zk_sd 0) * (zk_sd 0)), .inl (zk_T (zk_LL 0))))]) [8, 9] [0, 1, 2, 3, 4, 5, 6, 7] (metX3_fill l D tB tC tI _ s1 a1 (zk_sd 1) (zk_LL 1) (zk_EE 1) (by decide) (by rw [zk_LL_len (by decide)]; decide) (zk_run (i := 1) (by decide))) (lw_V q233 q234 q235 q15 q236) 0 2 0 rfl rfl rfl (by decide +kernel) rfl hl.1 rfl (Nat.le_of_ble_eq_true rfl) dL_law_49 ⟨Nat.le_of_ble_eq_true rfl, Nat.le_of_ble_eq_true rfl⟩ ⟨Nat.le_of_ble_eq_true rfl, Nat.le_of_ble_eq_true rfl⟩ rfl rfl rfl rfl (by decide) (fun _ H locs hw hP hD hS => ?_)
  have hP : va_P D zk_cl [(d, .inr (0, [.ref qw, .ref qd, .int 8])), (qw, .inl (tC, 72, .inl (fun _ => 0))), (qd, .inr (1, [.ref qs, .int 8, .int 8, .ref qb])), (qb, .inl (tB, 64, .inl (fun _ => -1))), (qq, .inl (cS, 4, .inr (.inr (.inr (.inr ((va_up (va_up (fun _ => none) 0 (some s0)) 1 (some s1)))))))), (qx, .inl (tI, 72, .inl (fun _ => 0))), (s0, .inr (2, [.int (nI (zk_sd 0)), .ref a0])), (a0, .inl (tI, ((zk_sd 0) * (zk_sd 0)), .inl (zk_T (zk_LL 0)))), (s1, .inr (2, [.int (nI (zk_sd 1)), .ref a1])), (a1, .inl (tI, ((zk_sd 1) * (zk_sd 1)), .inl (zk_T (zk_LL 1))))] H := hP
  have hD : va_D A [(d, .inr (0, [.ref qw, .ref qd, .int 8])), (qw, .inl (tC, 72, .inl (fun _ => 0))), (qd, .inr (1, [.ref qs, .int 8, .int 8, .ref qb])), (qb, .inl (tB, 64, .inl (fun _ => -1))), (qq, .inl (cS, 4, .inr (.inr (.inr (.inr ((va_up (va_up (fun _ => none) 0 (some s0)) 1 (some s1)))))))), (qx, .inl (tI, 72, .inl (fun _ => 0))), (s0, .inr (2, [.int (nI (zk_sd 0)), .ref a0])), (a0, .inl (tI, ((zk_sd 0) * (zk_sd 0)), .inl (zk_T (zk_LL 0)))), (s1, .inr (2, [.int (nI (zk_sd 1)), .ref a1])), (a1, .inl (tI, ((zk_sd 1) * (zk_sd 1)), .inl (zk_T (zk_LL 1))))] := hD
  refine W.widen (k := 62) (n := 427 + 72 + 2 + 196 + 384 + 192 + 2 + 196 + 384) (Nat.le_of_ble_eq_true rfl) (Nat.le_of_ble_eq_true rfl) ?_
  refine lv_aload_n hx hb dL_law_52 rfl (lv_at hl 2 rfl) ?_
  refine lv_iload hx hb dL_law_53 (lv_at hl 0 rfl) ?_
  refine va_aldq (C := RX3) hx hb hK4 hP 4 3 rfl rfl (pk_in 1 4 (by decide)) dL_law_55 ?_
  refine W.eq (g2 := F0 m 56 ls [.ref s1]) rfl ?_
  refine lv_bipush (v := 8) hx hb dL_law_56 (by decide) ?_
  refine lv_iconst (v := 2) hx hb dL_law_58 (by decide) ?_
  refine lv_iload hx hb dL_law_59 (lv_at hl 0 rfl) ?_
  refine lv_imul hx hb dL_law_61 ?_
  refine lv_iadd hx hb dL_law_62 ?_
  refine lv_bipush (v := 8) hx hb dL_law_63 (by decide) ?_
  refine lv_iconst (v := 2) hx hb dL_law_65 (by decide) ?_
  refine lv_iload hx hb dL_law_66 (lv_at hl 0 rfl) ?_
  refine lv_imul hx hb dL_law_68 ?_
  refine lv_iadd hx hb dL_law_69 ?_
  refine lv_imul hx hb dL_law_70 ?_
  refine lv_bipush (v := 8) hx hb dL_law_71 (by decide) ?_
  refine lv_idiv hx hb dL_law_73 (by decide) ?_
  refine lv_topi (fun t_4 et_4 => ?_)
  have et_4 : t_4 = nI (((zk_sd 1) * (zk_sd 1)) / 8) := et_4.trans (by decide)
  subst et_4
  refine zk_Vi CX hP hD hS ([(d, .inr (0, [.ref qw, .ref qd, .int 8])), (qw, .inl (tC, 72, .inl (fun _ => 0))), (qd, .inr (1, [.ref qs, .int 8, .int 8, .ref qb])), (qb, .inl (tB, 64, .inl (fun _ => -1))), (qq, .inl (cS, 4, .inr (.inr (.inr (.inr ((va_up (va_up (fun _ => none) 0 (some s0)) 1 (some s1)))))))), (qx, .inl (tI, 72, .inl (fun _ => 0))), (s0, .inr (2, [.int (nI (zk_sd 0)), .ref a0])), (a0, .inl (tI, ((zk_sd 0) * (zk_sd 0)), .inl (zk_T (zk_LL 0))))]) [8, 9] [0, 1, 2, 3, 4, 5, 6, 7] (metX3_isWhole l D tB tC tI _ s1 a1 (nI (zk_sd 1)) ((zk_sd 1) * (zk_sd 1)) (((zk_sd 1) * (zk_sd 1)) / 8) (zk_LL 1) (pk_mul _ _) (by decide) (by decide) (zk_LL_len (by decide)) (by rw [zk_LL_len (by decide)]; decide) (zk_f1 (i := 1) (by decide)) (zk_f2 (i := 1) (by decide)) (zk_cntE (i := 1) (by decide))) (lw_V q253 q254 q255 q15 q256) 1 2 0 rfl rfl rfl (by decide +kernel) rfl hl.1 rfl (Nat.le_of_ble_eq_true rfl) dL_law_74 ⟨Nat.le_of_ble_eq_true rfl, Nat.le_of_ble_eq_true rfl⟩ ⟨Nat.le_of_ble_eq_true rfl, Nat.le_of_ble_eq_true rfl⟩ rfl rfl rfl rfl (by decide) (fun r_w1 _ H locs hw hP hD hS => ?_)
  have hP : va_P D zk_cl [(d, .inr (0, [.ref qw, .ref qd, .int 8])), (qw, .inl (tC, 72, .inl (fun _ => 0))), (qd, .inr (1, [.ref qs, .int 8, .int 8, .ref qb])), (qb, .inl (tB, 64, .inl (fun _ => -1))), (qq, .inl (cS, 4, .inr (.inr (.inr (.inr ((va_up (va_up (fun _ => none) 0 (some s0)) 1 (some s1)))))))), (qx, .inl (tI, 72, .inl (fun _ => 0))), (s0, .inr (2, [.int (nI (zk_sd 0)), .ref a0])), (a0, .inl (tI, ((zk_sd 0) * (zk_sd 0)), .inl (zk_T (zk_LL 0)))), (s1, .inr (2, [.int (nI (zk_sd 1)), .ref a1])), (a1, .inl (tI, ((zk_sd 1) * (zk_sd 1)), .inl (zk_T (zk_LL 1))))] H := hP
  have hD : va_D A [(d, .inr (0, [.ref qw, .ref qd, .int 8])), (qw, .inl (tC, 72, .inl (fun _ => 0))), (qd, .inr (1, [.ref qs, .int 8, .int 8, .ref qb])), (qb, .inl (tB, 64, .inl (fun _ => -1))), (qq, .inl (cS, 4, .inr (.inr (.inr (.inr ((va_up (va_up (fun _ => none) 0 (some s0)) 1 (some s1)))))))), (qx, .inl (tI, 72, .inl (fun _ => 0))), (s0, .inr (2, [.int (nI (zk_sd 0)), .ref a0])), (a0, .inl (tI, ((zk_sd 0) * (zk_sd 0)), .inl (zk_T (zk_LL 0)))), (s1, .inr (2, [.int (nI (zk_sd 1)), .ref a1])), (a1, .inl (tI, ((zk_sd 1) * (zk_sd 1)), .inl (zk_T (zk_LL 1))))] := hD
  refine W.widen (k := 63) (n := 427 + 72 + 2 + 196 + 384 + 192 + 2 + 196 + 384 + 192) (Nat.le_of_ble_eq_true rfl) (Nat.le_of_ble_eq_true rfl) ?_
  refine lv_if_ne (tgt := 82) hx hb dL_law_77 (by decide) (fun h_ => ?_) (fun h_ => absurd h_ (by rw [hw]; decide))
  refine lv_iinc (v := 2) (lv' := [(4, .int 2), (3, .ref qx), (2, .ref qq), (1, .ref d), (0, .ref b)]) hx hb dL_law_82 hl (k := 0) rfl (by decide) (by decide) rfl (fun ls hl => ?_)
  refine lv_goto (tgt := 21) hx hb dL_law_85 (by decide) ?_
  refine lv_iload hx hb dL_law_21 (lv_at hl 0 rfl) ?_
  refine lv_iconst (v := 4) hx hb dL_law_23 (by decide) ?_
  refine lv_icmp_ge (tgt := 88) hx hb dL_law_24 (by decide) (fun h_ => absurd h_ (by decide)) (fun h_ => ?_)
  refine lv_aload_n hx hb dL_law_27 rfl (lv_at hl 2 rfl) ?_
  refine lv_iload hx hb dL_law_28 (lv_at hl 0 rfl) ?_
  refine va_new (ci := 2) (fs := [.int 0, .null]) (C := RX3) (T := TX3) (N := 2) hx hb hts in_X3 tyX3 tyX3_ok hown (hts _ q218) (hts _ q219) (hts _ q15) hK hP hD hS hA rfl (fun j hj => by rcases (show j = 0 ∨ j = 1 by omega) with rfl | rfl <;> rfl) (Nat.le_of_ble_eq_true rfl) (Nat.le_of_ble_eq_true rfl) dL_law_30 (fun s2 H hP hD hS => ?_)
  have hP : va_P D zk_cl [(d, .inr (0, [.ref qw, .ref qd, .int 8])), (qw, .inl (tC, 72, .inl (fun _ => 0))), (qd, .inr (1, [.ref qs, .int 8, .int 8, .ref qb])), (qb, .inl (tB, 64, .inl (fun _ => -1))), (qq, .inl (cS, 4, .inr (.inr (.inr (.inr ((va_up (va_up (fun _ => none) 0 (some s0)) 1 (some s1)))))))), (qx, .inl (tI, 72, .inl (fun _ => 0))), (s0, .inr (2, [.int (nI (zk_sd 0)), .ref a0])), (a0, .inl (tI, ((zk_sd 0) * (zk_sd 0)), .inl (zk_T (zk_LL 0)))), (s1, .inr (2, [.int (nI (zk_sd 1)), .ref a1])), (a1, .inl (tI, ((zk_sd 1) * (zk_sd 1)), .inl (zk_T (zk_LL 1)))), (s2, .inr (2, [.int 0, .null]))] H := hP
  have hD : va_D A [(d, .inr (0, [.ref qw, .ref qd, .int 8])), (qw, .inl (tC, 72, .inl (fun _ => 0))), (qd, .inr (1, [.ref qs, .int 8, .int 8, .ref qb])), (qb, .inl (tB, 64, .inl (fun _ => -1))), (qq, .inl (cS, 4, .inr (.inr (.inr (.inr ((va_up (va_up (fun _ => none) 0 (some s0)) 1 (some s1)))))))), (qx, .inl (tI, 72, .inl (fun _ => 0))), (s0, .inr (2, [.int (nI (zk_sd 0)), .ref a0])), (a0, .inl (tI, ((zk_sd 0) * (zk_sd 0)), .inl (zk_T (zk_LL 0)))), (s1, .inr (2, [.int (nI (zk_sd 1)), .ref a1])), (a1, .inl (tI, ((zk_sd 1) * (zk_sd 1)), .inl (zk_T (zk_LL 1)))), (s2, .inr (2, [.int 0, .null]))] := hD
  refine W.widen (k := 64) (n := 427 + 72 + 2 + 196 + 384 + 192 + 2 + 196 + 384 + 192 + 2) (Nat.le_of_ble_eq_true rfl) (Nat.le_of_ble_eq_true rfl) ?_
  refine lv_dup hx hb dL_law_33 rfl ?_
  refine lv_bipush (v := 8) hx hb dL_law_34 (by decide) ?_
  refine lv_iconst (v := 2) hx hb dL_law_36 (by decide) ?_
  refine lv_iload hx hb dL_law_37 (lv_at hl 0 rfl) ?_
  refine lv_imul hx hb dL_law_39 ?_
  refine lv_iadd hx hb dL_law_40 ?_
  refine lv_topi (fun t_5 et_5 => ?_)
  have et_5 : t_5 = (nI (zk_sd 2)) := et_5.trans (by decide)
  subst et_5
  refine zk_Iv CX hP hD hS ([(d, .inr (0, [.ref qw, .ref qd, .int 8])), (qw, .inl (tC, 72, .inl (fun _ => 0))), (qd, .inr (1, [.ref qs, .int 8, .int 8, .ref qb])), (qb, .inl (tB, 64, .inl (fun _ => -1))), (qq, .inl (cS, 4, .inr (.inr (.inr (.inr ((va_up (va_up (fun _ => none) 0 (some s0)) 1 (some s1)))))))), (qx, .inl (tI, 72, .inl (fun _ => 0))), (s0, .inr (2, [.int (nI (zk_sd 0)), .ref a0])), (a0, .inl (tI, ((zk_sd 0) * (zk_sd 0)), .inl (zk_T (zk_LL 0)))), (s1, .inr (2, [.int (nI (zk_sd 1)), .ref a1])), (a1, .inl (tI, ((zk_sd 1) * (zk_sd 1)), .inl (zk_T (zk_LL 1))))]) [10] [0, 1, 2, 3, 4, 5, 6, 7, 8, 9] (metX3_init l D tB tC tI _ s2 (nI (zk_sd 2)) ((zk_sd 2) * (zk_sd 2)) (pk_mul _ _) (by decide)) q222 q15 q220 q221 1 rfl (by decide +kernel) rfl hl.1 rfl (Nat.le_of_ble_eq_true rfl) dL_law_41 ⟨Nat.le_of_ble_eq_true rfl, Nat.le_of_ble_eq_true rfl⟩ ⟨Nat.le_of_ble_eq_true rfl, Nat.le_of_ble_eq_true rfl⟩ rfl rfl rfl rfl (by decide) (fun a2 H locs hw hP hD hS => ?_)
  have hP : va_P D zk_cl [(d, .inr (0, [.ref qw, .ref qd, .int 8])), (qw, .inl (tC, 72, .inl (fun _ => 0))), (qd, .inr (1, [.ref qs, .int 8, .int 8, .ref qb])), (qb, .inl (tB, 64, .inl (fun _ => -1))), (qq, .inl (cS, 4, .inr (.inr (.inr (.inr ((va_up (va_up (fun _ => none) 0 (some s0)) 1 (some s1)))))))), (qx, .inl (tI, 72, .inl (fun _ => 0))), (s0, .inr (2, [.int (nI (zk_sd 0)), .ref a0])), (a0, .inl (tI, ((zk_sd 0) * (zk_sd 0)), .inl (zk_T (zk_LL 0)))), (s1, .inr (2, [.int (nI (zk_sd 1)), .ref a1])), (a1, .inl (tI, ((zk_sd 1) * (zk_sd 1)), .inl (zk_T (zk_LL 1)))), (s2, .inr (2, [.int (nI (zk_sd 2)), .ref a2])), (a2, .inl (tI, ((zk_sd 2) * (zk_sd 2)), .inl (fun _ => -1)))] H := hP
  have hD : va_D A [(d, .inr (0, [.ref qw, .ref qd, .int 8])), (qw, .inl (tC, 72, .inl (fun _ => 0))), (qd, .inr (1, [.ref qs, .int 8, .int 8, .ref qb])), (qb, .inl (tB, 64, .inl (fun _ => -1))), (qq, .inl (cS, 4, .inr (.inr (.inr (.inr ((va_up (va_up (fun _ => none) 0 (some s0)) 1 (some s1)))))))), (qx, .inl (tI, 72, .inl (fun _ => 0))), (s0, .inr (2, [.int (nI (zk_sd 0)), .ref a0])), (a0, .inl (tI, ((zk_sd 0) * (zk_sd 0)), .inl (zk_T (zk_LL 0)))), (s1, .inr (2, [.int (nI (zk_sd 1)), .ref a1])), (a1, .inl (tI, ((zk_sd 1) * (zk_sd 1)), .inl (zk_T (zk_LL 1)))), (s2, .inr (2, [.int (nI (zk_sd 2)), .ref a2])), (a2, .inl (tI, ((zk_sd 2) * (zk_sd 2)), .inl (fun _ => -1)))] := hD
  refine W.widen (k := 65) (n := 427 + 72 + 2 + 196 + 384 + 192 + 2 + 196 + 384 + 192 + 2 + 196) (Nat.le_of_ble_eq_true rfl) (Nat.le_of_ble_eq_true rfl) ?_
  refine va_astq hx hb hK4 hP hD hS 4 3 10 2 rfl rfl rfl rfl (pk_in 2 4 (by decide)) dL_law_44 (fun H locs hP hD hS => ?_)
  have hP : va_P D zk_cl [(d, .inr (0, [.ref qw, .ref qd, .int 8])), (qw, .inl (tC, 72, .inl (fun _ => 0))), (qd, .inr (1, [.ref qs, .int 8, .int 8, .ref qb])), (qb, .inl (tB, 64, .inl (fun _ => -1))), (qq, .inl (cS, 4, .inr (.inr (.inr (.inr ((va_up (va_up (va_up (fun _ => none) 0 (some s0)) 1 (some s1)) 2 (some s2)))))))), (qx, .inl (tI, 72, .inl (fun _ => 0))), (s0, .inr (2, [.int (nI (zk_sd 0)), .ref a0])), (a0, .inl (tI, ((zk_sd 0) * (zk_sd 0)), .inl (zk_T (zk_LL 0)))), (s1, .inr (2, [.int (nI (zk_sd 1)), .ref a1])), (a1, .inl (tI, ((zk_sd 1) * (zk_sd 1)), .inl (zk_T (zk_LL 1)))), (s2, .inr (2, [.int (nI (zk_sd 2)), .ref a2])), (a2, .inl (tI, ((zk_sd 2) * (zk_sd 2)), .inl (fun _ => -1)))] H := hP
  have hD : va_D A [(d, .inr (0, [.ref qw, .ref qd, .int 8])), (qw, .inl (tC, 72, .inl (fun _ => 0))), (qd, .inr (1, [.ref qs, .int 8, .int 8, .ref qb])), (qb, .inl (tB, 64, .inl (fun _ => -1))), (qq, .inl (cS, 4, .inr (.inr (.inr (.inr ((va_up (va_up (va_up (fun _ => none) 0 (some s0)) 1 (some s1)) 2 (some s2)))))))), (qx, .inl (tI, 72, .inl (fun _ => 0))), (s0, .inr (2, [.int (nI (zk_sd 0)), .ref a0])), (a0, .inl (tI, ((zk_sd 0) * (zk_sd 0)), .inl (zk_T (zk_LL 0)))), (s1, .inr (2, [.int (nI (zk_sd 1)), .ref a1])), (a1, .inl (tI, ((zk_sd 1) * (zk_sd 1)), .inl (zk_T (zk_LL 1)))), (s2, .inr (2, [.int (nI (zk_sd 2)), .ref a2])), (a2, .inl (tI, ((zk_sd 2) * (zk_sd 2)), .inl (fun _ => -1)))] := hD
  refine lv_aload_n hx hb dL_law_45 rfl (lv_at hl 2 rfl) ?_
  refine lv_iload hx hb dL_law_46 (lv_at hl 0 rfl) ?_
  refine va_aldq (C := RX3) hx hb hK4 hP 4 3 rfl rfl (pk_in 2 4 (by decide)) dL_law_48 ?_
  refine W.eq (g2 := F0 m 49 ls [.ref s2]) rfl ?_
  refine zk_Vv CX hP hD hS ([(d, .inr (0, [.ref qw, .ref qd, .int 8])), (qw, .inl (tC, 72, .inl (fun _ => 0))), (qd, .inr (1, [.ref qs, .int 8, .int 8, .ref qb])), (qb, .inl (tB, 64, .inl (fun _ => -1))), (qq, .inl (cS, 4, .inr (.inr (.inr (.inr ((va_up (va_up (va_up (fun _ => none) 0 (some s0)) 1 (some s1)) 2 (some s2)))))))), (qx, .inl (tI, 72, .inl (fun _ => 0))), (s0, .inr (2, [.int (nI (zk_sd 0)), .ref a0])), (a0, .inl (tI, ((zk_sd 0) * (zk_sd 0)), .inl (zk_T (zk_LL 0)))), (s1, .inr (2, [.int (nI (zk_sd 1)), .ref a1])), (a1, .inl (tI, ((zk_sd 1) * (zk_sd 1)), .inl (zk_T (zk_LL 1))))]) [10, 11] [0, 1, 2, 3, 4, 5, 6, 7, 8, 9] (metX3_fill l D tB tC tI _ s2 a2 (zk_sd 2) (zk_LL 2) (zk_EE 2) (by decide) (by rw [zk_LL_len (by decide)]; decide) (zk_run (i := 2) (by decide))) (lw_V q233 q234 q235 q15 q236) 0 2 0 rfl rfl rfl (by decide +kernel) rfl hl.1 rfl (Nat.le_of_ble_eq_true rfl) dL_law_49 ⟨Nat.le_of_ble_eq_true rfl, Nat.le_of_ble_eq_true rfl⟩ ⟨Nat.le_of_ble_eq_true rfl, Nat.le_of_ble_eq_true rfl⟩ rfl rfl rfl rfl (by decide) (fun _ H locs hw hP hD hS => ?_)
  have hP : va_P D zk_cl [(d, .inr (0, [.ref qw, .ref qd, .int 8])), (qw, .inl (tC, 72, .inl (fun _ => 0))), (qd, .inr (1, [.ref qs, .int 8, .int 8, .ref qb])), (qb, .inl (tB, 64, .inl (fun _ => -1))), (qq, .inl (cS, 4, .inr (.inr (.inr (.inr ((va_up (va_up (va_up (fun _ => none) 0 (some s0)) 1 (some s1)) 2 (some s2)))))))), (qx, .inl (tI, 72, .inl (fun _ => 0))), (s0, .inr (2, [.int (nI (zk_sd 0)), .ref a0])), (a0, .inl (tI, ((zk_sd 0) * (zk_sd 0)), .inl (zk_T (zk_LL 0)))), (s1, .inr (2, [.int (nI (zk_sd 1)), .ref a1])), (a1, .inl (tI, ((zk_sd 1) * (zk_sd 1)), .inl (zk_T (zk_LL 1)))), (s2, .inr (2, [.int (nI (zk_sd 2)), .ref a2])), (a2, .inl (tI, ((zk_sd 2) * (zk_sd 2)), .inl (zk_T (zk_LL 2))))] H := hP
  have hD : va_D A [(d, .inr (0, [.ref qw, .ref qd, .int 8])), (qw, .inl (tC, 72, .inl (fun _ => 0))), (qd, .inr (1, [.ref qs, .int 8, .int 8, .ref qb])), (qb, .inl (tB, 64, .inl (fun _ => -1))), (qq, .inl (cS, 4, .inr (.inr (.inr (.inr ((va_up (va_up (va_up (fun _ => none) 0 (some s0)) 1 (some s1)) 2 (some s2)))))))), (qx, .inl (tI, 72, .inl (fun _ => 0))), (s0, .inr (2, [.int (nI (zk_sd 0)), .ref a0])), (a0, .inl (tI, ((zk_sd 0) * (zk_sd 0)), .inl (zk_T (zk_LL 0)))), (s1, .inr (2, [.int (nI (zk_sd 1)), .ref a1])), (a1, .inl (tI, ((zk_sd 1) * (zk_sd 1)), .inl (zk_T (zk_LL 1)))), (s2, .inr (2, [.int (nI (zk_sd 2)), .ref a2])), (a2, .inl (tI, ((zk_sd 2) * (zk_sd 2)), .inl (zk_T (zk_LL 2))))] := hD
  refine W.widen (k := 89) (n := 427 + 72 + 2 + 196 + 384 + 192 + 2 + 196 + 384 + 192 + 2 + 196 + 384) (Nat.le_of_ble_eq_true rfl) (Nat.le_of_ble_eq_true rfl) ?_
  refine lv_aload_n hx hb dL_law_52 rfl (lv_at hl 2 rfl) ?_
  refine lv_iload hx hb dL_law_53 (lv_at hl 0 rfl) ?_
  refine va_aldq (C := RX3) hx hb hK4 hP 4 3 rfl rfl (pk_in 2 4 (by decide)) dL_law_55 ?_
  refine W.eq (g2 := F0 m 56 ls [.ref s2]) rfl ?_
  refine lv_bipush (v := 8) hx hb dL_law_56 (by decide) ?_
  refine lv_iconst (v := 2) hx hb dL_law_58 (by decide) ?_
  refine lv_iload hx hb dL_law_59 (lv_at hl 0 rfl) ?_
  refine lv_imul hx hb dL_law_61 ?_
  refine lv_iadd hx hb dL_law_62 ?_
  refine lv_bipush (v := 8) hx hb dL_law_63 (by decide) ?_
  refine lv_iconst (v := 2) hx hb dL_law_65 (by decide) ?_
  refine lv_iload hx hb dL_law_66 (lv_at hl 0 rfl) ?_
  refine lv_imul hx hb dL_law_68 ?_
  refine lv_iadd hx hb dL_law_69 ?_
  refine lv_imul hx hb dL_law_70 ?_
  refine lv_bipush (v := 8) hx hb dL_law_71 (by decide) ?_
  refine lv_idiv hx hb dL_law_73 (by decide) ?_
  refine lv_topi (fun t_6 et_6 => ?_)
  have et_6 : t_6 = nI (((zk_sd 2) * (zk_sd 2)) / 8) := et_6.trans (by decide)
  subst et_6
  refine zk_Vi CX hP hD hS ([(d, .inr (0, [.ref qw, .ref qd, .int 8])), (qw, .inl (tC, 72, .inl (fun _ => 0))), (qd, .inr (1, [.ref qs, .int 8, .int 8, .ref qb])), (qb, .inl (tB, 64, .inl (fun _ => -1))), (qq, .inl (cS, 4, .inr (.inr (.inr (.inr ((va_up (va_up (va_up (fun _ => none) 0 (some s0)) 1 (some s1)) 2 (some s2)))))))), (qx, .inl (tI, 72, .inl (fun _ => 0))), (s0, .inr (2, [.int (nI (zk_sd 0)), .ref a0])), (a0, .inl (tI, ((zk_sd 0) * (zk_sd 0)), .inl (zk_T (zk_LL 0)))), (s1, .inr (2, [.int (nI (zk_sd 1)), .ref a1])), (a1, .inl (tI, ((zk_sd 1) * (zk_sd 1)), .inl (zk_T (zk_LL 1))))]) [10, 11] [0, 1, 2, 3, 4, 5, 6, 7, 8, 9] (metX3_isWhole l D tB tC tI _ s2 a2 (nI (zk_sd 2)) ((zk_sd 2) * (zk_sd 2)) (((zk_sd 2) * (zk_sd 2)) / 8) (zk_LL 2) (pk_mul _ _) (by decide) (by decide) (zk_LL_len (by decide)) (by rw [zk_LL_len (by decide)]; decide) (zk_f1 (i := 2) (by decide)) (zk_f2 (i := 2) (by decide)) (zk_cntE (i := 2) (by decide))) (lw_V q253 q254 q255 q15 q256) 1 2 0 rfl rfl rfl (by decide +kernel) rfl hl.1 rfl (Nat.le_of_ble_eq_true rfl) dL_law_74 ⟨Nat.le_of_ble_eq_true rfl, Nat.le_of_ble_eq_true rfl⟩ ⟨Nat.le_of_ble_eq_true rfl, Nat.le_of_ble_eq_true rfl⟩ rfl rfl rfl rfl (by decide) (fun r_w2 _ H locs hw hP hD hS => ?_)
  have hP : va_P D zk_cl [(d, .inr (0, [.ref qw, .ref qd, .int 8])), (qw, .inl (tC, 72, .inl (fun _ => 0))), (qd, .inr (1, [.ref qs, .int 8, .int 8, .ref qb])), (qb, .inl (tB, 64, .inl (fun _ => -1))), (qq, .inl (cS, 4, .inr (.inr (.inr (.inr ((va_up (va_up (va_up (fun _ => none) 0 (some s0)) 1 (some s1)) 2 (some s2)))))))), (qx, .inl (tI, 72, .inl (fun _ => 0))), (s0, .inr (2, [.int (nI (zk_sd 0)), .ref a0])), (a0, .inl (tI, ((zk_sd 0) * (zk_sd 0)), .inl (zk_T (zk_LL 0)))), (s1, .inr (2, [.int (nI (zk_sd 1)), .ref a1])), (a1, .inl (tI, ((zk_sd 1) * (zk_sd 1)), .inl (zk_T (zk_LL 1)))), (s2, .inr (2, [.int (nI (zk_sd 2)), .ref a2])), (a2, .inl (tI, ((zk_sd 2) * (zk_sd 2)), .inl (zk_T (zk_LL 2))))] H := hP
  have hD : va_D A [(d, .inr (0, [.ref qw, .ref qd, .int 8])), (qw, .inl (tC, 72, .inl (fun _ => 0))), (qd, .inr (1, [.ref qs, .int 8, .int 8, .ref qb])), (qb, .inl (tB, 64, .inl (fun _ => -1))), (qq, .inl (cS, 4, .inr (.inr (.inr (.inr ((va_up (va_up (va_up (fun _ => none) 0 (some s0)) 1 (some s1)) 2 (some s2)))))))), (qx, .inl (tI, 72, .inl (fun _ => 0))), (s0, .inr (2, [.int (nI (zk_sd 0)), .ref a0])), (a0, .inl (tI, ((zk_sd 0) * (zk_sd 0)), .inl (zk_T (zk_LL 0)))), (s1, .inr (2, [.int (nI (zk_sd 1)), .ref a1])), (a1, .inl (tI, ((zk_sd 1) * (zk_sd 1)), .inl (zk_T (zk_LL 1)))), (s2, .inr (2, [.int (nI (zk_sd 2)), .ref a2])), (a2, .inl (tI, ((zk_sd 2) * (zk_sd 2)), .inl (zk_T (zk_LL 2))))] := hD
  refine W.widen (k := 90) (n := 427 + 72 + 2 + 196 + 384 + 192 + 2 + 196 + 384 + 192 + 2 + 196 + 384 + 192) (Nat.le_of_ble_eq_true rfl) (Nat.le_of_ble_eq_true rfl) ?_
  refine lv_if_ne (tgt := 82) hx hb dL_law_77 (by decide) (fun h_ => ?_) (fun h_ => absurd h_ (by rw [hw]; decide))
  refine lv_iinc (v := 3) (lv' := [(4, .int 3), (3, .ref qx), (2, .ref qq), (1, .ref d), (0, .ref b)]) hx hb dL_law_82 hl (k := 0) rfl (by decide) (by decide) rfl (fun ls hl => ?_)
  refine lv_goto (tgt := 21) hx hb dL_law_85 (by decide) ?_
  refine lv_iload hx hb dL_law_21 (lv_at hl 0 rfl) ?_
  refine lv_iconst (v := 4) hx hb dL_law_23 (by decide) ?_
  refine lv_icmp_ge (tgt := 88) hx hb dL_law_24 (by decide) (fun h_ => absurd h_ (by decide)) (fun h_ => ?_)
  refine lv_aload_n hx hb dL_law_27 rfl (lv_at hl 2 rfl) ?_
  refine lv_iload hx hb dL_law_28 (lv_at hl 0 rfl) ?_
  refine va_new (ci := 2) (fs := [.int 0, .null]) (C := RX3) (T := TX3) (N := 2) hx hb hts in_X3 tyX3 tyX3_ok hown (hts _ q218) (hts _ q219) (hts _ q15) hK hP hD hS hA rfl (fun j hj => by rcases (show j = 0 ∨ j = 1 by omega) with rfl | rfl <;> rfl) (Nat.le_of_ble_eq_true rfl) (Nat.le_of_ble_eq_true rfl) dL_law_30 (fun s3 H hP hD hS => ?_)
  have hP : va_P D zk_cl [(d, .inr (0, [.ref qw, .ref qd, .int 8])), (qw, .inl (tC, 72, .inl (fun _ => 0))), (qd, .inr (1, [.ref qs, .int 8, .int 8, .ref qb])), (qb, .inl (tB, 64, .inl (fun _ => -1))), (qq, .inl (cS, 4, .inr (.inr (.inr (.inr ((va_up (va_up (va_up (fun _ => none) 0 (some s0)) 1 (some s1)) 2 (some s2)))))))), (qx, .inl (tI, 72, .inl (fun _ => 0))), (s0, .inr (2, [.int (nI (zk_sd 0)), .ref a0])), (a0, .inl (tI, ((zk_sd 0) * (zk_sd 0)), .inl (zk_T (zk_LL 0)))), (s1, .inr (2, [.int (nI (zk_sd 1)), .ref a1])), (a1, .inl (tI, ((zk_sd 1) * (zk_sd 1)), .inl (zk_T (zk_LL 1)))), (s2, .inr (2, [.int (nI (zk_sd 2)), .ref a2])), (a2, .inl (tI, ((zk_sd 2) * (zk_sd 2)), .inl (zk_T (zk_LL 2)))), (s3, .inr (2, [.int 0, .null]))] H := hP
  have hD : va_D A [(d, .inr (0, [.ref qw, .ref qd, .int 8])), (qw, .inl (tC, 72, .inl (fun _ => 0))), (qd, .inr (1, [.ref qs, .int 8, .int 8, .ref qb])), (qb, .inl (tB, 64, .inl (fun _ => -1))), (qq, .inl (cS, 4, .inr (.inr (.inr (.inr ((va_up (va_up (va_up (fun _ => none) 0 (some s0)) 1 (some s1)) 2 (some s2)))))))), (qx, .inl (tI, 72, .inl (fun _ => 0))), (s0, .inr (2, [.int (nI (zk_sd 0)), .ref a0])), (a0, .inl (tI, ((zk_sd 0) * (zk_sd 0)), .inl (zk_T (zk_LL 0)))), (s1, .inr (2, [.int (nI (zk_sd 1)), .ref a1])), (a1, .inl (tI, ((zk_sd 1) * (zk_sd 1)), .inl (zk_T (zk_LL 1)))), (s2, .inr (2, [.int (nI (zk_sd 2)), .ref a2])), (a2, .inl (tI, ((zk_sd 2) * (zk_sd 2)), .inl (zk_T (zk_LL 2)))), (s3, .inr (2, [.int 0, .null]))] := hD
  refine W.widen (k := 91) (n := 427 + 72 + 2 + 196 + 384 + 192 + 2 + 196 + 384 + 192 + 2 + 196 + 384 + 192 + 2) (Nat.le_of_ble_eq_true rfl) (Nat.le_of_ble_eq_true rfl) ?_
  refine lv_dup hx hb dL_law_33 rfl ?_
  refine lv_bipush (v := 8) hx hb dL_law_34 (by decide) ?_
  refine lv_iconst (v := 2) hx hb dL_law_36 (by decide) ?_
  refine lv_iload hx hb dL_law_37 (lv_at hl 0 rfl) ?_
  refine lv_imul hx hb dL_law_39 ?_
  refine lv_iadd hx hb dL_law_40 ?_
  refine lv_topi (fun t_7 et_7 => ?_)
  have et_7 : t_7 = (nI (zk_sd 3)) := et_7.trans (by decide)
  subst et_7
  refine zk_Iv CX hP hD hS ([(d, .inr (0, [.ref qw, .ref qd, .int 8])), (qw, .inl (tC, 72, .inl (fun _ => 0))), (qd, .inr (1, [.ref qs, .int 8, .int 8, .ref qb])), (qb, .inl (tB, 64, .inl (fun _ => -1))), (qq, .inl (cS, 4, .inr (.inr (.inr (.inr ((va_up (va_up (va_up (fun _ => none) 0 (some s0)) 1 (some s1)) 2 (some s2)))))))), (qx, .inl (tI, 72, .inl (fun _ => 0))), (s0, .inr (2, [.int (nI (zk_sd 0)), .ref a0])), (a0, .inl (tI, ((zk_sd 0) * (zk_sd 0)), .inl (zk_T (zk_LL 0)))), (s1, .inr (2, [.int (nI (zk_sd 1)), .ref a1])), (a1, .inl (tI, ((zk_sd 1) * (zk_sd 1)), .inl (zk_T (zk_LL 1)))), (s2, .inr (2, [.int (nI (zk_sd 2)), .ref a2])), (a2, .inl (tI, ((zk_sd 2) * (zk_sd 2)), .inl (zk_T (zk_LL 2))))]) [12] [0, 1, 2, 3, 4, 5, 6, 7, 8, 9, 10, 11] (metX3_init l D tB tC tI _ s3 (nI (zk_sd 3)) ((zk_sd 3) * (zk_sd 3)) (pk_mul _ _) (by decide)) q222 q15 q220 q221 1 rfl (by decide +kernel) rfl hl.1 rfl (Nat.le_of_ble_eq_true rfl) dL_law_41 ⟨Nat.le_of_ble_eq_true rfl, Nat.le_of_ble_eq_true rfl⟩ ⟨Nat.le_of_ble_eq_true rfl, Nat.le_of_ble_eq_true rfl⟩ rfl rfl rfl rfl (by decide) (fun a3 H locs hw hP hD hS => ?_)
  have hP : va_P D zk_cl [(d, .inr (0, [.ref qw, .ref qd, .int 8])), (qw, .inl (tC, 72, .inl (fun _ => 0))), (qd, .inr (1, [.ref qs, .int 8, .int 8, .ref qb])), (qb, .inl (tB, 64, .inl (fun _ => -1))), (qq, .inl (cS, 4, .inr (.inr (.inr (.inr ((va_up (va_up (va_up (fun _ => none) 0 (some s0)) 1 (some s1)) 2 (some s2)))))))), (qx, .inl (tI, 72, .inl (fun _ => 0))), (s0, .inr (2, [.int (nI (zk_sd 0)), .ref a0])), (a0, .inl (tI, ((zk_sd 0) * (zk_sd 0)), .inl (zk_T (zk_LL 0)))), (s1, .inr (2, [.int (nI (zk_sd 1)), .ref a1])), (a1, .inl (tI, ((zk_sd 1) * (zk_sd 1)), .inl (zk_T (zk_LL 1)))), (s2, .inr (2, [.int (nI (zk_sd 2)), .ref a2])), (a2, .inl (tI, ((zk_sd 2) * (zk_sd 2)), .inl (zk_T (zk_LL 2)))), (s3, .inr (2, [.int (nI (zk_sd 3)), .ref a3])), (a3, .inl (tI, ((zk_sd 3) * (zk_sd 3)), .inl (fun _ => -1)))] H := hP
  have hD : va_D A [(d, .inr (0, [.ref qw, .ref qd, .int 8])), (qw, .inl (tC, 72, .inl (fun _ => 0))), (qd, .inr (1, [.ref qs, .int 8, .int 8, .ref qb])), (qb, .inl (tB, 64, .inl (fun _ => -1))), (qq, .inl (cS, 4, .inr (.inr (.inr (.inr ((va_up (va_up (va_up (fun _ => none) 0 (some s0)) 1 (some s1)) 2 (some s2)))))))), (qx, .inl (tI, 72, .inl (fun _ => 0))), (s0, .inr (2, [.int (nI (zk_sd 0)), .ref a0])), (a0, .inl (tI, ((zk_sd 0) * (zk_sd 0)), .inl (zk_T (zk_LL 0)))), (s1, .inr (2, [.int (nI (zk_sd 1)), .ref a1])), (a1, .inl (tI, ((zk_sd 1) * (zk_sd 1)), .inl (zk_T (zk_LL 1)))), (s2, .inr (2, [.int (nI (zk_sd 2)), .ref a2])), (a2, .inl (tI, ((zk_sd 2) * (zk_sd 2)), .inl (zk_T (zk_LL 2)))), (s3, .inr (2, [.int (nI (zk_sd 3)), .ref a3])), (a3, .inl (tI, ((zk_sd 3) * (zk_sd 3)), .inl (fun _ => -1)))] := hD
  refine W.widen (k := 92) (n := 427 + 72 + 2 + 196 + 384 + 192 + 2 + 196 + 384 + 192 + 2 + 196 + 384 + 192 + 2 + 196) (Nat.le_of_ble_eq_true rfl) (Nat.le_of_ble_eq_true rfl) ?_
  refine va_astq hx hb hK4 hP hD hS 4 3 12 2 rfl rfl rfl rfl (pk_in 3 4 (by decide)) dL_law_44 (fun H locs hP hD hS => ?_)
  have hP : va_P D zk_cl [(d, .inr (0, [.ref qw, .ref qd, .int 8])), (qw, .inl (tC, 72, .inl (fun _ => 0))), (qd, .inr (1, [.ref qs, .int 8, .int 8, .ref qb])), (qb, .inl (tB, 64, .inl (fun _ => -1))), (qq, .inl (cS, 4, .inr (.inr (.inr (.inr ((va_up (va_up (va_up (va_up (fun _ => none) 0 (some s0)) 1 (some s1)) 2 (some s2)) 3 (some s3)))))))), (qx, .inl (tI, 72, .inl (fun _ => 0))), (s0, .inr (2, [.int (nI (zk_sd 0)), .ref a0])), (a0, .inl (tI, ((zk_sd 0) * (zk_sd 0)), .inl (zk_T (zk_LL 0)))), (s1, .inr (2, [.int (nI (zk_sd 1)), .ref a1])), (a1, .inl (tI, ((zk_sd 1) * (zk_sd 1)), .inl (zk_T (zk_LL 1)))), (s2, .inr (2, [.int (nI (zk_sd 2)), .ref a2])), (a2, .inl (tI, ((zk_sd 2) * (zk_sd 2)), .inl (zk_T (zk_LL 2)))), (s3, .inr (2, [.int (nI (zk_sd 3)), .ref a3])), (a3, .inl (tI, ((zk_sd 3) * (zk_sd 3)), .inl (fun _ => -1)))] H := hP
  have hD : va_D A [(d, .inr (0, [.ref qw, .ref qd, .int 8])), (qw, .inl (tC, 72, .inl (fun _ => 0))), (qd, .inr (1, [.ref qs, .int 8, .int 8, .ref qb])), (qb, .inl (tB, 64, .inl (fun _ => -1))), (qq, .inl (cS, 4, .inr (.inr (.inr (.inr ((va_up (va_up (va_up (va_up (fun _ => none) 0 (some s0)) 1 (some s1)) 2 (some s2)) 3 (some s3)))))))), (qx, .inl (tI, 72, .inl (fun _ => 0))), (s0, .inr (2, [.int (nI (zk_sd 0)), .ref a0])), (a0, .inl (tI, ((zk_sd 0) * (zk_sd 0)), .inl (zk_T (zk_LL 0)))), (s1, .inr (2, [.int (nI (zk_sd 1)), .ref a1])), (a1, .inl (tI, ((zk_sd 1) * (zk_sd 1)), .inl (zk_T (zk_LL 1)))), (s2, .inr (2, [.int (nI (zk_sd 2)), .ref a2])), (a2, .inl (tI, ((zk_sd 2) * (zk_sd 2)), .inl (zk_T (zk_LL 2)))), (s3, .inr (2, [.int (nI (zk_sd 3)), .ref a3])), (a3, .inl (tI, ((zk_sd 3) * (zk_sd 3)), .inl (fun _ => -1)))] := hD
  refine lv_aload_n hx hb dL_law_45 rfl (lv_at hl 2 rfl) ?_
  refine lv_iload hx hb dL_law_46 (lv_at hl 0 rfl) ?_
  refine va_aldq (C := RX3) hx hb hK4 hP 4 3 rfl rfl (pk_in 3 4 (by decide)) dL_law_48 ?_
  refine W.eq (g2 := F0 m 49 ls [.ref s3]) rfl ?_
  refine zk_Vv CX hP hD hS ([(d, .inr (0, [.ref qw, .ref qd, .int 8])), (qw, .inl (tC, 72, .inl (fun _ => 0))), (qd, .inr (1, [.ref qs, .int 8, .int 8, .ref qb])), (qb, .inl (tB, 64, .inl (fun _ => -1))), (qq, .inl (cS, 4, .inr (.inr (.inr (.inr ((va_up (va_up (va_up (va_up (fun _ => none) 0 (some s0)) 1 (some s1)) 2 (some s2)) 3 (some s3)))))))), (qx, .inl (tI, 72, .inl (fun _ => 0))), (s0, .inr (2, [.int (nI (zk_sd 0)), .ref a0])), (a0, .inl (tI, ((zk_sd 0) * (zk_sd 0)), .inl (zk_T (zk_LL 0)))), (s1, .inr (2, [.int (nI (zk_sd 1)), .ref a1])), (a1, .inl (tI, ((zk_sd 1) * (zk_sd 1)), .inl (zk_T (zk_LL 1)))), (s2, .inr (2, [.int (nI (zk_sd 2)), .ref a2])), (a2, .inl (tI, ((zk_sd 2) * (zk_sd 2)), .inl (zk_T (zk_LL 2))))]) [12, 13] [0, 1, 2, 3, 4, 5, 6, 7, 8, 9, 10, 11] (metX3_fill l D tB tC tI _ s3 a3 (zk_sd 3) (zk_LL 3) (zk_EE 3) (by decide) (by rw [zk_LL_len (by decide)]; decide) (zk_run (i := 3) (by decide))) (lw_V q233 q234 q235 q15 q236) 0 2 0 rfl rfl rfl (by decide +kernel) rfl hl.1 rfl (Nat.le_of_ble_eq_true rfl) dL_law_49 ⟨Nat.le_of_ble_eq_true rfl, Nat.le_of_ble_eq_true rfl⟩ ⟨Nat.le_of_ble_eq_true rfl, Nat.le_of_ble_eq_true rfl⟩ rfl rfl rfl rfl (by decide) (fun _ H locs hw hP hD hS => ?_)
  have hP : va_P D zk_cl [(d, .inr (0, [.ref qw, .ref qd, .int 8])), (qw, .inl (tC, 72, .inl (fun _ => 0))), (qd, .inr (1, [.ref qs, .int 8, .int 8, .ref qb])), (qb, .inl (tB, 64, .inl (fun _ => -1))), (qq, .inl (cS, 4, .inr (.inr (.inr (.inr ((va_up (va_up (va_up (va_up (fun _ => none) 0 (some s0)) 1 (some s1)) 2 (some s2)) 3 (some s3)))))))), (qx, .inl (tI, 72, .inl (fun _ => 0))), (s0, .inr (2, [.int (nI (zk_sd 0)), .ref a0])), (a0, .inl (tI, ((zk_sd 0) * (zk_sd 0)), .inl (zk_T (zk_LL 0)))), (s1, .inr (2, [.int (nI (zk_sd 1)), .ref a1])), (a1, .inl (tI, ((zk_sd 1) * (zk_sd 1)), .inl (zk_T (zk_LL 1)))), (s2, .inr (2, [.int (nI (zk_sd 2)), .ref a2])), (a2, .inl (tI, ((zk_sd 2) * (zk_sd 2)), .inl (zk_T (zk_LL 2)))), (s3, .inr (2, [.int (nI (zk_sd 3)), .ref a3])), (a3, .inl (tI, ((zk_sd 3) * (zk_sd 3)), .inl (zk_T (zk_LL 3))))] H := hP
  have hD : va_D A [(d, .inr (0, [.ref qw, .ref qd, .int 8])), (qw, .inl (tC, 72, .inl (fun _ => 0))), (qd, .inr (1, [.ref qs, .int 8, .int 8, .ref qb])), (qb, .inl (tB, 64, .inl (fun _ => -1))), (qq, .inl (cS, 4, .inr (.inr (.inr (.inr ((va_up (va_up (va_up (va_up (fun _ => none) 0 (some s0)) 1 (some s1)) 2 (some s2)) 3 (some s3)))))))), (qx, .inl (tI, 72, .inl (fun _ => 0))), (s0, .inr (2, [.int (nI (zk_sd 0)), .ref a0])), (a0, .inl (tI, ((zk_sd 0) * (zk_sd 0)), .inl (zk_T (zk_LL 0)))), (s1, .inr (2, [.int (nI (zk_sd 1)), .ref a1])), (a1, .inl (tI, ((zk_sd 1) * (zk_sd 1)), .inl (zk_T (zk_LL 1)))), (s2, .inr (2, [.int (nI (zk_sd 2)), .ref a2])), (a2, .inl (tI, ((zk_sd 2) * (zk_sd 2)), .inl (zk_T (zk_LL 2)))), (s3, .inr (2, [.int (nI (zk_sd 3)), .ref a3])), (a3, .inl (tI, ((zk_sd 3) * (zk_sd 3)), .inl (zk_T (zk_LL 3))))] := hD
  refine W.widen (k := 116) (n := 427 + 72 + 2 + 196 + 384 + 192 + 2 + 196 + 384 + 192 + 2 + 196 + 384 + 192 + 2 + 196 + 384) (Nat.le_of_ble_eq_true rfl) (Nat.le_of_ble_eq_true rfl) ?_
  refine lv_aload_n hx hb dL_law_52 rfl (lv_at hl 2 rfl) ?_
  refine lv_iload hx hb dL_law_53 (lv_at hl 0 rfl) ?_
  refine va_aldq (C := RX3) hx hb hK4 hP 4 3 rfl rfl (pk_in 3 4 (by decide)) dL_law_55 ?_
  refine W.eq (g2 := F0 m 56 ls [.ref s3]) rfl ?_
  refine lv_bipush (v := 8) hx hb dL_law_56 (by decide) ?_
  refine lv_iconst (v := 2) hx hb dL_law_58 (by decide) ?_
  refine lv_iload hx hb dL_law_59 (lv_at hl 0 rfl) ?_
  refine lv_imul hx hb dL_law_61 ?_
  refine lv_iadd hx hb dL_law_62 ?_
  refine lv_bipush (v := 8) hx hb dL_law_63 (by decide) ?_
  refine lv_iconst (v := 2) hx hb dL_law_65 (by decide) ?_
  refine lv_iload hx hb dL_law_66 (lv_at hl 0 rfl) ?_
  refine lv_imul hx hb dL_law_68 ?_
  refine lv_iadd hx hb dL_law_69 ?_
  refine lv_imul hx hb dL_law_70 ?_
  refine lv_bipush (v := 8) hx hb dL_law_71 (by decide) ?_
  refine lv_idiv hx hb dL_law_73 (by decide) ?_
  refine lv_topi (fun t_8 et_8 => ?_)
  have et_8 : t_8 = nI (((zk_sd 3) * (zk_sd 3)) / 8) := et_8.trans (by decide)
  subst et_8
  refine zk_Vi CX hP hD hS ([(d, .inr (0, [.ref qw, .ref qd, .int 8])), (qw, .inl (tC, 72, .inl (fun _ => 0))), (qd, .inr (1, [.ref qs, .int 8, .int 8, .ref qb])), (qb, .inl (tB, 64, .inl (fun _ => -1))), (qq, .inl (cS, 4, .inr (.inr (.inr (.inr ((va_up (va_up (va_up (va_up (fun _ => none) 0 (some s0)) 1 (some s1)) 2 (some s2)) 3 (some s3)))))))), (qx, .inl (tI, 72, .inl (fun _ => 0))), (s0, .inr (2, [.int (nI (zk_sd 0)), .ref a0])), (a0, .inl (tI, ((zk_sd 0) * (zk_sd 0)), .inl (zk_T (zk_LL 0)))), (s1, .inr (2, [.int (nI (zk_sd 1)), .ref a1])), (a1, .inl (tI, ((zk_sd 1) * (zk_sd 1)), .inl (zk_T (zk_LL 1)))), (s2, .inr (2, [.int (nI (zk_sd 2)), .ref a2])), (a2, .inl (tI, ((zk_sd 2) * (zk_sd 2)), .inl (zk_T (zk_LL 2))))]) [12, 13] [0, 1, 2, 3, 4, 5, 6, 7, 8, 9, 10, 11] (metX3_isWhole l D tB tC tI _ s3 a3 (nI (zk_sd 3)) ((zk_sd 3) * (zk_sd 3)) (((zk_sd 3) * (zk_sd 3)) / 8) (zk_LL 3) (pk_mul _ _) (by decide) (by decide) (zk_LL_len (by decide)) (by rw [zk_LL_len (by decide)]; decide) (zk_f1 (i := 3) (by decide)) (zk_f2 (i := 3) (by decide)) (zk_cntE (i := 3) (by decide))) (lw_V q253 q254 q255 q15 q256) 1 2 0 rfl rfl rfl (by decide +kernel) rfl hl.1 rfl (Nat.le_of_ble_eq_true rfl) dL_law_74 ⟨Nat.le_of_ble_eq_true rfl, Nat.le_of_ble_eq_true rfl⟩ ⟨Nat.le_of_ble_eq_true rfl, Nat.le_of_ble_eq_true rfl⟩ rfl rfl rfl rfl (by decide) (fun r_w3 _ H locs hw hP hD hS => ?_)
  have hP : va_P D zk_cl [(d, .inr (0, [.ref qw, .ref qd, .int 8])), (qw, .inl (tC, 72, .inl (fun _ => 0))), (qd, .inr (1, [.ref qs, .int 8, .int 8, .ref qb])), (qb, .inl (tB, 64, .inl (fun _ => -1))), (qq, .inl (cS, 4, .inr (.inr (.inr (.inr ((va_up (va_up (va_up (va_up (fun _ => none) 0 (some s0)) 1 (some s1)) 2 (some s2)) 3 (some s3)))))))), (qx, .inl (tI, 72, .inl (fun _ => 0))), (s0, .inr (2, [.int (nI (zk_sd 0)), .ref a0])), (a0, .inl (tI, ((zk_sd 0) * (zk_sd 0)), .inl (zk_T (zk_LL 0)))), (s1, .inr (2, [.int (nI (zk_sd 1)), .ref a1])), (a1, .inl (tI, ((zk_sd 1) * (zk_sd 1)), .inl (zk_T (zk_LL 1)))), (s2, .inr (2, [.int (nI (zk_sd 2)), .ref a2])), (a2, .inl (tI, ((zk_sd 2) * (zk_sd 2)), .inl (zk_T (zk_LL 2)))), (s3, .inr (2, [.int (nI (zk_sd 3)), .ref a3])), (a3, .inl (tI, ((zk_sd 3) * (zk_sd 3)), .inl (zk_T (zk_LL 3))))] H := hP
  have hD : va_D A [(d, .inr (0, [.ref qw, .ref qd, .int 8])), (qw, .inl (tC, 72, .inl (fun _ => 0))), (qd, .inr (1, [.ref qs, .int 8, .int 8, .ref qb])), (qb, .inl (tB, 64, .inl (fun _ => -1))), (qq, .inl (cS, 4, .inr (.inr (.inr (.inr ((va_up (va_up (va_up (va_up (fun _ => none) 0 (some s0)) 1 (some s1)) 2 (some s2)) 3 (some s3)))))))), (qx, .inl (tI, 72, .inl (fun _ => 0))), (s0, .inr (2, [.int (nI (zk_sd 0)), .ref a0])), (a0, .inl (tI, ((zk_sd 0) * (zk_sd 0)), .inl (zk_T (zk_LL 0)))), (s1, .inr (2, [.int (nI (zk_sd 1)), .ref a1])), (a1, .inl (tI, ((zk_sd 1) * (zk_sd 1)), .inl (zk_T (zk_LL 1)))), (s2, .inr (2, [.int (nI (zk_sd 2)), .ref a2])), (a2, .inl (tI, ((zk_sd 2) * (zk_sd 2)), .inl (zk_T (zk_LL 2)))), (s3, .inr (2, [.int (nI (zk_sd 3)), .ref a3])), (a3, .inl (tI, ((zk_sd 3) * (zk_sd 3)), .inl (zk_T (zk_LL 3))))] := hD
  refine W.widen (k := 117) (n := 427 + 72 + 2 + 196 + 384 + 192 + 2 + 196 + 384 + 192 + 2 + 196 + 384 + 192 + 2 + 196 + 384 + 192) (Nat.le_of_ble_eq_true rfl) (Nat.le_of_ble_eq_true rfl) ?_
  refine lv_if_ne (tgt := 82) hx hb dL_law_77 (by decide) (fun h_ => ?_) (fun h_ => absurd h_ (by rw [hw]; decide))
  refine lv_iinc (v := 4) (lv' := [(4, .int 4), (3, .ref qx), (2, .ref qq), (1, .ref d), (0, .ref b)]) hx hb dL_law_82 hl (k := 0) rfl (by decide) (by decide) rfl (fun ls hl => ?_)
  refine lv_goto (tgt := 21) hx hb dL_law_85 (by decide) ?_
  refine lv_iload hx hb dL_law_21 (lv_at hl 0 rfl) ?_
  refine lv_iconst (v := 4) hx hb dL_law_23 (by decide) ?_
  refine lv_icmp_ge (tgt := 88) hx hb dL_law_24 (by decide) (fun h_ => ?_) (fun h_ => absurd (by decide) h_)
  refine lv_aload_n hx hb dL_law_88 rfl (lv_at hl 3 rfl) ?_
  refine zk_Vi CX hP hD hS ([(qw, .inl (tC, 72, .inl (fun _ => 0))), (qd, .inr (1, [.ref qs, .int 8, .int 8, .ref qb])), (qb, .inl (tB, 64, .inl (fun _ => -1))), (qq, .inl (cS, 4, .inr (.inr (.inr (.inr ((va_up (va_up (va_up (va_up (fun _ => none) 0 (some s0)) 1 (some s1)) 2 (some s2)) 3 (some s3)))))))), (qx, .inl (tI, 72, .inl (fun _ => 0))), (s0, .inr (2, [.int (nI (zk_sd 0)), .ref a0])), (a0, .inl (tI, ((zk_sd 0) * (zk_sd 0)), .inl (zk_T (zk_LL 0)))), (s1, .inr (2, [.int (nI (zk_sd 1)), .ref a1])), (a1, .inl (tI, ((zk_sd 1) * (zk_sd 1)), .inl (zk_T (zk_LL 1)))), (s2, .inr (2, [.int (nI (zk_sd 2)), .ref a2])), (a2, .inl (tI, ((zk_sd 2) * (zk_sd 2)), .inl (zk_T (zk_LL 2)))), (s3, .inr (2, [.int (nI (zk_sd 3)), .ref a3])), (a3, .inl (tI, ((zk_sd 3) * (zk_sd 3)), .inl (zk_T (zk_LL 3))))]) [0] [1, 2, 3, 4, 5, 6, 7, 8, 9, 10, 11, 12, 13] (metX1_side l D tB tC tI _ d qw qd 8) (lw_V q214 q215 q216 q9 q217) 0 0 0 rfl rfl rfl (by decide +kernel) rfl hl.1 rfl (Nat.le_of_ble_eq_true rfl) dL_law_89 ⟨Nat.le_of_ble_eq_true rfl, Nat.le_of_ble_eq_true rfl⟩ ⟨Nat.le_of_ble_eq_true rfl, Nat.le_of_ble_eq_true rfl⟩ rfl rfl rfl rfl (by decide) (fun r_s _ H locs hw hP hD hS => ?_)
  have hP : va_P D zk_cl [(qw, .inl (tC, 72, .inl (fun _ => 0))), (qd, .inr (1, [.ref qs, .int 8, .int 8, .ref qb])), (qb, .inl (tB, 64, .inl (fun _ => -1))), (qq, .inl (cS, 4, .inr (.inr (.inr (.inr ((va_up (va_up (va_up (va_up (fun _ => none) 0 (some s0)) 1 (some s1)) 2 (some s2)) 3 (some s3)))))))), (qx, .inl (tI, 72, .inl (fun _ => 0))), (s0, .inr (2, [.int (nI (zk_sd 0)), .ref a0])), (a0, .inl (tI, ((zk_sd 0) * (zk_sd 0)), .inl (zk_T (zk_LL 0)))), (s1, .inr (2, [.int (nI (zk_sd 1)), .ref a1])), (a1, .inl (tI, ((zk_sd 1) * (zk_sd 1)), .inl (zk_T (zk_LL 1)))), (s2, .inr (2, [.int (nI (zk_sd 2)), .ref a2])), (a2, .inl (tI, ((zk_sd 2) * (zk_sd 2)), .inl (zk_T (zk_LL 2)))), (s3, .inr (2, [.int (nI (zk_sd 3)), .ref a3])), (a3, .inl (tI, ((zk_sd 3) * (zk_sd 3)), .inl (zk_T (zk_LL 3)))), (d, .inr (0, [.ref qw, .ref qd, .int 8]))] H := hP
  have hD : va_D A [(qw, .inl (tC, 72, .inl (fun _ => 0))), (qd, .inr (1, [.ref qs, .int 8, .int 8, .ref qb])), (qb, .inl (tB, 64, .inl (fun _ => -1))), (qq, .inl (cS, 4, .inr (.inr (.inr (.inr ((va_up (va_up (va_up (va_up (fun _ => none) 0 (some s0)) 1 (some s1)) 2 (some s2)) 3 (some s3)))))))), (qx, .inl (tI, 72, .inl (fun _ => 0))), (s0, .inr (2, [.int (nI (zk_sd 0)), .ref a0])), (a0, .inl (tI, ((zk_sd 0) * (zk_sd 0)), .inl (zk_T (zk_LL 0)))), (s1, .inr (2, [.int (nI (zk_sd 1)), .ref a1])), (a1, .inl (tI, ((zk_sd 1) * (zk_sd 1)), .inl (zk_T (zk_LL 1)))), (s2, .inr (2, [.int (nI (zk_sd 2)), .ref a2])), (a2, .inl (tI, ((zk_sd 2) * (zk_sd 2)), .inl (zk_T (zk_LL 2)))), (s3, .inr (2, [.int (nI (zk_sd 3)), .ref a3])), (a3, .inl (tI, ((zk_sd 3) * (zk_sd 3)), .inl (zk_T (zk_LL 3)))), (d, .inr (0, [.ref qw, .ref qd, .int 8]))] := hD
  subst hw
  refine lv_bipush (v := 8) hx hb dL_law_92 (by decide) ?_
  refine lv_icmp_eq (tgt := 99) hx hb dL_law_94 (by decide) (fun h_ => ?_) (fun h_ => absurd rfl h_)
  refine lv_iconst (v := 0) hx hb dL_law_99 (by decide) ?_
  refine lv_istore (lv' := [(4, .int 0), (3, .ref qx), (2, .ref qq), (1, .ref d), (0, .ref b)]) hx hb dL_law_100 hl (by decide) rfl (fun ls hl => ?_)
  have hP := hP.sub (ws' := [(d, .inr (0, [.ref qw, .ref qd, .int 8])), (qd, .inr (1, [.ref qs, .int 8, .int 8, .ref qb])), (qb, .inl (tB, 64, .inl (fun _ => -1))), (qw, .inl (tC, 72, .inl (fun _ => 0))), (qq, .inl (cS, 4, .inr (.inr (.inr (.inr ((va_up (va_up (va_up (va_up (fun _ => none) 0 (some s0)) 1 (some s1)) 2 (some s2)) 3 (some s3)))))))), (qx, .inl (tI, 72, .inl (fun _ => 0))), (s0, .inr (2, [.int (nI (zk_sd 0)), .ref a0])), (a0, .inl (tI, ((zk_sd 0) * (zk_sd 0)), .inl (zk_T (zk_LL 0)))), (s1, .inr (2, [.int (nI (zk_sd 1)), .ref a1])), (a1, .inl (tI, ((zk_sd 1) * (zk_sd 1)), .inl (zk_T (zk_LL 1)))), (s2, .inr (2, [.int (nI (zk_sd 2)), .ref a2])), (a2, .inl (tI, ((zk_sd 2) * (zk_sd 2)), .inl (zk_T (zk_LL 2)))), (s3, .inr (2, [.int (nI (zk_sd 3)), .ref a3])), (a3, .inl (tI, ((zk_sd 3) * (zk_sd 3)), .inl (zk_T (zk_LL 3))))]) [13, 1, 2, 0, 3, 4, 5, 6, 7, 8, 9, 10, 11, 12] rfl
  have hD := hD.sub (ws' := [(d, .inr (0, [.ref qw, .ref qd, .int 8])), (qd, .inr (1, [.ref qs, .int 8, .int 8, .ref qb])), (qb, .inl (tB, 64, .inl (fun _ => -1))), (qw, .inl (tC, 72, .inl (fun _ => 0))), (qq, .inl (cS, 4, .inr (.inr (.inr (.inr ((va_up (va_up (va_up (va_up (fun _ => none) 0 (some s0)) 1 (some s1)) 2 (some s2)) 3 (some s3)))))))), (qx, .inl (tI, 72, .inl (fun _ => 0))), (s0, .inr (2, [.int (nI (zk_sd 0)), .ref a0])), (a0, .inl (tI, ((zk_sd 0) * (zk_sd 0)), .inl (zk_T (zk_LL 0)))), (s1, .inr (2, [.int (nI (zk_sd 1)), .ref a1])), (a1, .inl (tI, ((zk_sd 1) * (zk_sd 1)), .inl (zk_T (zk_LL 1)))), (s2, .inr (2, [.int (nI (zk_sd 2)), .ref a2])), (a2, .inl (tI, ((zk_sd 2) * (zk_sd 2)), .inl (zk_T (zk_LL 2)))), (s3, .inr (2, [.int (nI (zk_sd 3)), .ref a3])), (a3, .inl (tI, ((zk_sd 3) * (zk_sd 3)), .inl (zk_T (zk_LL 3))))]) [13, 1, 2, 0, 3, 4, 5, 6, 7, 8, 9, 10, 11, 12] (by decide) rfl
  exact zk_clear C1 64 0 0 _ _ _ (by omega) (by omega) nI_0.symm hP hD hS (lv_sub hl [0, 4, 3, 2, 1] rfl)
end
section
set_option maxRecDepth 100000
set_option maxHeartbeats 4000000 in
theorem lw_walk (l : Launch) (hflags : l.flags = flags0) (b : Addr) (xs : List Int32) : MetFree l x (headSpec (Jvm.Cond.code x code maxLocals ret :: tables_1) room_1) (lw_P b xs) (fun _ _ _ _ _ => True) lw_Q := by
  refine MetFree.of_bodyS (code := code) (maxLocals := maxLocals) (ret := ret) (by decide) ?_ ?_
  · intro args s m h hn
    obtain ⟨meth, c, h1, h2, h3, h4, h5, h6, -, -⟩ := Cond.code_spec hn (atoms_spec (ws := Jvm.Cond.code x code maxLocals ret :: tables_1) h _ List.mem_cons_self)
    exact ⟨meth, c, h1, h2, h3, h4, h5, h6⟩
  · intro p e s m args below meth c s₁ B hml0 hP _
    obtain ⟨rfl, hx, hbd, hgv⟩ := hP
    obtain ⟨scr, harrAt, hlist, hof, hsmall⟩ := hx
    obtain ⟨hcb, hkn, -, -⟩ := State.arrayAt?_spec harrAt
    have hown : s.vm.findClass R_law = some m.cls := findClass_of_methodNamed B.named
    have hts0 : ∀ c ∈ (Jvm.Cond.code x code maxLocals ret :: tables_1), c.before #[Value.ref b] s = true := atoms_spec (ws := Jvm.Cond.code x code maxLocals ret :: tables_1) B.pre
    have hts : ∀ w ∈ lw_tbl, w.before #[Value.ref b] s = true := k2_hts_sels lw_privs (fun w hw => hts0 w (List.mem_cons_of_mem _ hw)) lw_privs_ok
    have hml : c.maxLocals = 11 := B.maxLocals_eq (hts0 _ List.mem_cons_self)
    have X₀ : Stand p l e room_1 s m #[Value.ref b] below meth c s₁ [] 0 0 := Stand.of_body B
    have hh0 : s₁.heap = s.heap := by rw [B.state]; rfl
    have hsz : scr.slots.size = xs.length := by rw [← Array.length_toList, hlist, List.length_map]
    have hval : ∀ j : Nat, j < xs.length → scr.slots[j]? = some (.int (xs.getD j 0)) := fun j hj => by
      rw [← Array.getElem?_toList, hlist]
      simp [hj]
    have hbl : b < s.heap.size := (Array.getElem?_eq_some_iff.mp hcb).1
    have hX : va_X b xs.length (fun j => xs.getD j 0) s s.heap := ⟨scr, hcb, hof, hkn, hsz, hval⟩
    have K : W p l e room_1 s m #[Value.ref b] below meth c s₁.heap [] 0 0 (lw_Z below #[Value.ref b] s) (entryFrame m ([Value.ref b] : List Value).toArray 11) := by
      rw [hh0]
      exact whole_start l hflags hbd ⟨B.exec, B.bytes, B.returns, hml, hown, hts, hX, hbl, B.notSynchronized, hgv⟩
    obtain ⟨t, a1, o, b1, b2, b3⟩ := K s₁ rfl X₀
    exact ⟨t, o, a1, b1, b2, b3⟩
theorem lw_pre_spec {args : Array Value} {s : State} (h : (Jvm.Cond.and given_1 narrow_1).before args s = true) (hr : rest_1_c.before args s = true) : ∃ (b : Addr) (xs : List Int32), lw_P b xs args s := by
  have hs := flat_of_before _ h
  have hq := flat_of_before _ hr
  have hc : (Cond.count 1).before args s = true := hs _ (by decide +kernel)
  have harr : (Cond.arrayOf (.arg 0) .int).before args s = true := hs _ (by decide +kernel)
  have hle : (Cond.le (.length (.arg 0)) (.int 96)).before args s = true := hs _ (by decide +kernel)
  have hlen : (Cond.isInt (.length (.arg 0))).before args s = true := hq _ (by decide +kernel)
  have hall : (Cond.all (.arg 0) (.isInt (.elem (.arg 0) (.index 0)))).before args s = true := hq _ (by decide +kernel)
  obtain ⟨b, xs, hb, hx⟩ := State.ints_of_pre rfl harr hlen hall
  have hsm : xs.length < 2 ^ 31 := hx.choose_spec.2.2.2
  have hev : (Term.length (.arg 0)).eval args s none [] s = some (.int xs.length.toInt32) := hx.length_eval hb
  have hv := Cond.le_ints hev (show (Term.int 96).eval args s none [] s = some (.int 96) from rfl)
  have hd : xs.length.toInt32 ≤ 96 := by
    simpa [Cond.before, Cond.holds, hv] using hle
  have hN : xs.length ≤ 96 := (Int32.ofNat_le_ofNat hsm (by decide)).mp (show Int32.ofNat xs.length ≤ Int32.ofNat 96 from hd)
  exact ⟨b, xs, Cond.one_arg hc (show args[0]? = some (.ref b) from hb), hx, hN, h⟩
theorem lw_comes (l : Launch) (hflags : l.flags = flags0) : Comes l x (Jvm.Cond.code x code maxLocals ret :: tables_1) room_1 (fun tb e args s => Calls_1 tb e args s ∧ rest_1 tb e args s ∧ Pre_1 tb e args s)
    (fun _ _ args s o t => lw_Q args s o t) := by
  intro p e ha hc hk s m args below hf hfit hheap happ hpre
  obtain ⟨b, xs, hP⟩ := lw_pre_spec hpre.2.2 hpre.2.1
  obtain ⟨k, o, h1, h2, h3, hQ⟩ := lw_walk l hflags b xs p e ha hc hk s m args below hf ((Spec.applies_iff_loose hf).mp happ).1 hP trivial
  exact ⟨k, o, h1, h2, h3, hQ⟩
theorem lw_frame {s t : State} {o : Outcome} {args : Array Value} (h : Framed s o t [] 1200000 5502250) :
    Framed s o t (fieldLocs frame_1_writes args s ++ arrayLocs frame_1_arrays args s ++ staticLocs frame_1_statics s) 1200000 5502250 := h
theorem lw_limb (L : Cond) (hL : ∀ (args : Array Value) (s t : State), L.after args s (.returned (some (.int 1))) t = true) :
    ArmFor flags0 classFile x code maxLocals ret World_1 tables_1 room_1 Calls_1 rest_1 Pre_1
      (fun tb e a s o t => postC L tb e a s o t ∧ Framed s o t (fieldLocs frame_1_writes a s ++ arrayLocs frame_1_arrays a s ++ staticLocs frame_1_statics s) 1200000 5502250) := by
  intro l hflags _ _ p e ha hc hk s m args below hf hfit hheap happ hpre
  obtain ⟨k, o, h1, h2, h3, rfl, hF⟩ := lw_comes l hflags p e ha hc hk s m args below hf hfit hheap happ hpre
  exact ⟨k, _, h1, h2, h3, hL args s _, lw_frame hF⟩
theorem i_vc : Claimed_1_1 ∧ Claimed_1_2 := ⟨lw_limb limb_1_1 (fun args s t => by simp [limb_1_1, Cond.after, Cond.holds, Cond.value]), lw_limb limb_1_2 (fun args s t => Cond.after_iff.mpr (by
  first | (rw [show limb_1_2 = Cond.eq .result (.int 1) from rfl, Cond.eq_ints (x := 1) (y := 1) rfl rfl]; simp; done) | (simp [limb_1_2, Cond.value, Term.eval]; done)))⟩
end
